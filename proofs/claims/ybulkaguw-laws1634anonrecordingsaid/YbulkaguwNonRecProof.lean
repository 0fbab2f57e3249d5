/-
  'Rows.LawS1634ANonRecordingSaid': the row out of the walk (YbulkaguwNonRecWalks).
-/
import Derived.Test.YbulkaguwNonRecWalks
import Derived.ChangeOld
import Derived.Below
namespace Go.Proofs.Ybulkaguw.NonRec
open Go.ChangeShapes Go.WideShapes Go.ChangeAt Go.RowKit
set_option linter.unusedVariables false
set_option linter.constructorNameAsVariable false

theorem run_equalIn_ints {P : Program} (w : World) (d : Nat) (t e : TypeId) (n : Nat) (ht : P.underlying t = some (.array n e)) (he : P.underlying e = some (.int .u8)) (hsz : ∀ w, (sizeOf e).run P w = .ok 1 w)
    (xs : List Int) (hx : xs.length = n) : (Op.equalIn (d + 2) t (.agg (xs.map (Value.int .u8)).toArray) (.agg (xs.map (Value.int .u8)).toArray)).run P w = .ok true w := by
  rw [Op.equalIn]
  simp only [Sem.run_bind, run_underlying ht, Result.andThen_ok, hsz, Std.Legacy.Range.forIn_eq_forIn_range', Std.Legacy.Range.size, Nat.sub_zero, Nat.add_sub_cancel, Nat.div_one]
  have hl : ∀ i ∈ List.range' 0 n 1, i < n := fun i hi => by simpa using (List.mem_range'_1.1 hi).2
  generalize List.range' 0 n 1 = l at hl ⊢
  induction l with
  | nil => simp
  | cons i l ih =>
    have hi : i < n := hl i (by simp)
    have px : (part e (xs.map (Value.int .u8)).toArray (i * 1)).run P w = .ok (.int .u8 (xs.getD i 0)) w := by
      simp [part, isAgg, run_underlying he, List.getD, List.getElem?_eq_getElem (show i < xs.length by omega)]
    have pe : (Op.equalIn (d + 1) e (.int .u8 (xs.getD i 0)) (.int .u8 (xs.getD i 0))).run P w = .ok true w := by
      rw [run_equalIn_int w d e .u8 .u8 _ _ he]
      simp
    simp only [List.forIn_cons, Sem.run_bind, px, pe, Result.andThen_ok, Bool.not_true, Bool.false_eq_true, if_false, Sem.run_pure]
    exact ih fun j hj => hl j (by simp [hj])
theorem size5 (w : World) : (sizeOf 5).run Yba.prog w = .ok 1 w := by kernel_rfl
theorem part27 (a0 a1 a2 a3 a4 a5 a6 a7 a8 a9 a10 a11 a12 a13 a14 a15 b0 b1 b2 b3 b4 b5 b6 b7 k : Int) (r : Bool) (w : World) : (part 27 #[.int .u8 a0, .int .u8 a1, .int .u8 a2, .int .u8 a3, .int .u8 a4, .int .u8 a5, .int .u8 a6, .int .u8 a7, .int .u8 a8, .int .u8 a9, .int .u8 a10, .int .u8 a11, .int .u8 a12, .int .u8 a13, .int .u8 a14, .int .u8 a15, .int .u8 b0, .int .u8 b1, .int .u8 b2, .int .u8 b3, .int .u8 b4, .int .u8 b5, .int .u8 b6, .int .u8 b7, .string ByteArray.empty, .int .u8 k, .bool r] 0).run Yba.prog w = .ok (.agg #[.int .u8 a0, .int .u8 a1, .int .u8 a2, .int .u8 a3, .int .u8 a4, .int .u8 a5, .int .u8 a6, .int .u8 a7, .int .u8 a8, .int .u8 a9, .int .u8 a10, .int .u8 a11, .int .u8 a12, .int .u8 a13, .int .u8 a14, .int .u8 a15]) w := by kernel_rfl
theorem part29 (a0 a1 a2 a3 a4 a5 a6 a7 a8 a9 a10 a11 a12 a13 a14 a15 b0 b1 b2 b3 b4 b5 b6 b7 k : Int) (r : Bool) (w : World) : (part 29 #[.int .u8 a0, .int .u8 a1, .int .u8 a2, .int .u8 a3, .int .u8 a4, .int .u8 a5, .int .u8 a6, .int .u8 a7, .int .u8 a8, .int .u8 a9, .int .u8 a10, .int .u8 a11, .int .u8 a12, .int .u8 a13, .int .u8 a14, .int .u8 a15, .int .u8 b0, .int .u8 b1, .int .u8 b2, .int .u8 b3, .int .u8 b4, .int .u8 b5, .int .u8 b6, .int .u8 b7, .string ByteArray.empty, .int .u8 k, .bool r] 16).run Yba.prog w = .ok (.agg #[.int .u8 b0, .int .u8 b1, .int .u8 b2, .int .u8 b3, .int .u8 b4, .int .u8 b5, .int .u8 b6, .int .u8 b7]) w := by kernel_rfl
theorem part31 (a0 a1 a2 a3 a4 a5 a6 a7 a8 a9 a10 a11 a12 a13 a14 a15 b0 b1 b2 b3 b4 b5 b6 b7 k : Int) (r : Bool) (w : World) : (part 31 #[.int .u8 a0, .int .u8 a1, .int .u8 a2, .int .u8 a3, .int .u8 a4, .int .u8 a5, .int .u8 a6, .int .u8 a7, .int .u8 a8, .int .u8 a9, .int .u8 a10, .int .u8 a11, .int .u8 a12, .int .u8 a13, .int .u8 a14, .int .u8 a15, .int .u8 b0, .int .u8 b1, .int .u8 b2, .int .u8 b3, .int .u8 b4, .int .u8 b5, .int .u8 b6, .int .u8 b7, .string ByteArray.empty, .int .u8 k, .bool r] 24).run Yba.prog w = .ok (.agg #[.string ByteArray.empty]) w := by kernel_rfl
theorem part32 (a0 a1 a2 a3 a4 a5 a6 a7 a8 a9 a10 a11 a12 a13 a14 a15 b0 b1 b2 b3 b4 b5 b6 b7 k : Int) (r : Bool) (w : World) : (part 32 #[.int .u8 a0, .int .u8 a1, .int .u8 a2, .int .u8 a3, .int .u8 a4, .int .u8 a5, .int .u8 a6, .int .u8 a7, .int .u8 a8, .int .u8 a9, .int .u8 a10, .int .u8 a11, .int .u8 a12, .int .u8 a13, .int .u8 a14, .int .u8 a15, .int .u8 b0, .int .u8 b1, .int .u8 b2, .int .u8 b3, .int .u8 b4, .int .u8 b5, .int .u8 b6, .int .u8 b7, .string ByteArray.empty, .int .u8 k, .bool r] 25).run Yba.prog w = .ok (.int .u8 k) w := by kernel_rfl
theorem part4 (a0 a1 a2 a3 a4 a5 a6 a7 a8 a9 a10 a11 a12 a13 a14 a15 b0 b1 b2 b3 b4 b5 b6 b7 k : Int) (r : Bool) (w : World) : (part 4 #[.int .u8 a0, .int .u8 a1, .int .u8 a2, .int .u8 a3, .int .u8 a4, .int .u8 a5, .int .u8 a6, .int .u8 a7, .int .u8 a8, .int .u8 a9, .int .u8 a10, .int .u8 a11, .int .u8 a12, .int .u8 a13, .int .u8 a14, .int .u8 a15, .int .u8 b0, .int .u8 b1, .int .u8 b2, .int .u8 b3, .int .u8 b4, .int .u8 b5, .int .u8 b6, .int .u8 b7, .string ByteArray.empty, .int .u8 k, .bool r] 26).run Yba.prog w = .ok (.bool r) w := by kernel_rfl
theorem eq31 (d : Nat) (w : World) : (Op.equalIn (d + 2) 31 (.agg #[.string ByteArray.empty]) (.agg #[.string ByteArray.empty])).run Yba.prog w = .ok true w := by kernel_rfl
theorem eq34 (a0 a1 a2 a3 a4 a5 a6 a7 a8 a9 a10 a11 a12 a13 a14 a15 b0 b1 b2 b3 b4 b5 b6 b7 k : Int) (r : Bool) (w : World) : (binOp .eql 34 (.agg #[.int .u8 a0, .int .u8 a1, .int .u8 a2, .int .u8 a3, .int .u8 a4, .int .u8 a5, .int .u8 a6, .int .u8 a7, .int .u8 a8, .int .u8 a9, .int .u8 a10, .int .u8 a11, .int .u8 a12, .int .u8 a13, .int .u8 a14, .int .u8 a15, .int .u8 b0, .int .u8 b1, .int .u8 b2, .int .u8 b3, .int .u8 b4, .int .u8 b5, .int .u8 b6, .int .u8 b7, .string ByteArray.empty, .int .u8 k, .bool r]) (.agg #[.int .u8 a0, .int .u8 a1, .int .u8 a2, .int .u8 a3, .int .u8 a4, .int .u8 a5, .int .u8 a6, .int .u8 a7, .int .u8 a8, .int .u8 a9, .int .u8 a10, .int .u8 a11, .int .u8 a12, .int .u8 a13, .int .u8 a14, .int .u8 a15, .int .u8 b0, .int .u8 b1, .int .u8 b2, .int .u8 b3, .int .u8 b4, .int .u8 b5, .int .u8 b6, .int .u8 b7, .string ByteArray.empty, .int .u8 k, .bool r])).run Yba.prog w = .ok (.bool true) w := by
  have e27 := run_equalIn_ints w 9997 27 5 16 Yba.underlying27 Yba.underlying5 size5 [a0, a1, a2, a3, a4, a5, a6, a7, a8, a9, a10, a11, a12, a13, a14, a15] rfl
  have e29 := run_equalIn_ints w 9997 29 5 8 Yba.underlying29 Yba.underlying5 size5 [b0, b1, b2, b3, b4, b5, b6, b7] rfl
  simp only [List.map_cons, List.map_nil] at e27 e29
  have e32 := run_equalIn_int (P := Yba.prog) w 9998 32 .u8 .u8 k k Yba.underlying32
  have e4 := run_equalIn_bool' (P := Yba.prog) w 9998 4 r r Yba.underlying4
  have hu : Yba.prog.underlying 34 = some (.struct (Yba.prog.fieldsOf 34)) := by kernel_rfl
  rw [run_eql_struct, run_equalIn_agg w 9999 34 _ _ hu (by kernel_rfl)]
  simp [Program.fieldsOf, Yba.underlying34, Op.eqFields, part27, part29, part31, part32, part4, e27, e29, eq31, e32, e4]

theorem built34 (a0 a1 a2 a3 a4 a5 a6 a7 a8 a9 a10 a11 a12 a13 a14 a15 b0 b1 b2 b3 b4 b5 b6 b7 k : Int) (r : Bool) : Yba.prog.built 34 [(0, .agg #[.int .u8 a0, .int .u8 a1, .int .u8 a2, .int .u8 a3, .int .u8 a4, .int .u8 a5, .int .u8 a6, .int .u8 a7, .int .u8 a8, .int .u8 a9, .int .u8 a10, .int .u8 a11, .int .u8 a12, .int .u8 a13, .int .u8 a14, .int .u8 a15]), (1, .agg #[.int .u8 b0, .int .u8 b1, .int .u8 b2, .int .u8 b3, .int .u8 b4, .int .u8 b5, .int .u8 b6, .int .u8 b7]), (3, .int .u8 k), (4, .bool r)] = some #[.int .u8 a0, .int .u8 a1, .int .u8 a2, .int .u8 a3, .int .u8 a4, .int .u8 a5, .int .u8 a6, .int .u8 a7, .int .u8 a8, .int .u8 a9, .int .u8 a10, .int .u8 a11, .int .u8 a12, .int .u8 a13, .int .u8 a14, .int .u8 a15, .int .u8 b0, .int .u8 b1, .int .u8 b2, .int .u8 b3, .int .u8 b4, .int .u8 b5, .int .u8 b6, .int .u8 b7, .string ByteArray.empty, .int .u8 k, .bool r] := by kernel_rfl
theorem builtZ (a0 a1 a2 a3 a4 a5 a6 a7 a8 a9 a10 a11 a12 a13 a14 a15 b0 b1 b2 b3 b4 b5 b6 b7 k : Int) (r : Bool) : ((Yba.prog.built 53 [(1, .agg #[.int .u8 a0, .int .u8 a1, .int .u8 a2, .int .u8 a3, .int .u8 a4, .int .u8 a5, .int .u8 a6, .int .u8 a7, .int .u8 a8, .int .u8 a9, .int .u8 a10, .int .u8 a11, .int .u8 a12, .int .u8 a13, .int .u8 a14, .int .u8 a15, .int .u8 b0, .int .u8 b1, .int .u8 b2, .int .u8 b3, .int .u8 b4, .int .u8 b5, .int .u8 b6, .int .u8 b7, .string ByteArray.empty, .int .u8 k, .bool r])]).bind fun Y => (Yba.prog.built 108 [(0, .iface 111 (.agg #[])), (1, .agg Y)]).map fun Z => (Z[56]?, Z.extract 2 29)) = some (some (.int .u8 0), #[.int .u8 a0, .int .u8 a1, .int .u8 a2, .int .u8 a3, .int .u8 a4, .int .u8 a5, .int .u8 a6, .int .u8 a7, .int .u8 a8, .int .u8 a9, .int .u8 a10, .int .u8 a11, .int .u8 a12, .int .u8 a13, .int .u8 a14, .int .u8 a15, .int .u8 b0, .int .u8 b1, .int .u8 b2, .int .u8 b3, .int .u8 b4, .int .u8 b5, .int .u8 b6, .int .u8 b7, .string ByteArray.empty, .int .u8 k, .bool r]) := by kernel_rfl

theorem walk_lit (a0 a1 a2 a3 a4 a5 a6 a7 a8 a9 a10 a11 a12 a13 a14 a15 b0 b1 b2 b3 b4 b5 b6 b7 k : Int) (r : Bool) (w : World) :
    Calls Yba.prog 4 #[.agg #[.int .u8 a0, .int .u8 a1, .int .u8 a2, .int .u8 a3, .int .u8 a4, .int .u8 a5, .int .u8 a6, .int .u8 a7, .int .u8 a8, .int .u8 a9, .int .u8 a10, .int .u8 a11, .int .u8 a12, .int .u8 a13, .int .u8 a14, .int .u8 a15], .agg #[.int .u8 b0, .int .u8 b1, .int .u8 b2, .int .u8 b3, .int .u8 b4, .int .u8 b5, .int .u8 b6, .int .u8 b7], .int .u8 k, .bool r] w fun e w' => e = .returned (.bool true) ∧ Below w.heap.size w w' := by
  have h := builtZ a0 a1 a2 a3 a4 a5 a6 a7 a8 a9 a10 a11 a12 a13 a14 a15 b0 b1 b2 b3 b4 b5 b6 b7 k r
  rw [Option.bind_eq_some_iff] at h
  obtain ⟨Y, hY, h2⟩ := h
  rw [Option.map_eq_some_iff] at h2
  obtain ⟨Z, hZ, h3⟩ := h2
  simp only [Prod.mk.injEq] at h3
  obtain ⟨hz, hx⟩ := h3
  refine walk #[.int .u8 a0, .int .u8 a1, .int .u8 a2, .int .u8 a3, .int .u8 a4, .int .u8 a5, .int .u8 a6, .int .u8 a7, .int .u8 a8, .int .u8 a9, .int .u8 a10, .int .u8 a11, .int .u8 a12, .int .u8 a13, .int .u8 a14, .int .u8 a15] #[.int .u8 b0, .int .u8 b1, .int .u8 b2, .int .u8 b3, .int .u8 b4, .int .u8 b5, .int .u8 b6, .int .u8 b7] #[.int .u8 a0, .int .u8 a1, .int .u8 a2, .int .u8 a3, .int .u8 a4, .int .u8 a5, .int .u8 a6, .int .u8 a7, .int .u8 a8, .int .u8 a9, .int .u8 a10, .int .u8 a11, .int .u8 a12, .int .u8 a13, .int .u8 a14, .int .u8 a15, .int .u8 b0, .int .u8 b1, .int .u8 b2, .int .u8 b3, .int .u8 b4, .int .u8 b5, .int .u8 b6, .int .u8 b7, .string ByteArray.empty, .int .u8 k, .bool r] Y Z k r siz26 siz28 rfl (built34 a0 a1 a2 a3 a4 a5 a6 a7 a8 a9 a10 a11 a12 a13 a14 a15 b0 b1 b2 b3 b4 b5 b6 b7 k r) hY hZ (by simp [Hid, Value.oneCell']) hz (fun j v hv => ?_) (eq34 a0 a1 a2 a3 a4 a5 a6 a7 a8 a9 a10 a11 a12 a13 a14 a15 b0 b1 b2 b3 b4 b5 b6 b7 k r) w
  rw [← hx] at hv
  simp only [Array.getElem?_toList, Array.getElem?_extract] at hv
  split at hv
  · exact hv
  · cases hv

theorem walk_any (xs ys : List Int) (hx : xs.length = 16) (hy : ys.length = 8) (k : Int) (r : Bool) (w : World) :
    Calls Yba.prog 4 #[.agg (xs.map (Value.int .u8)).toArray, .agg (ys.map (Value.int .u8)).toArray, .int .u8 k, .bool r] w fun e w' => e = .returned (.bool true) ∧ Below w.heap.size w w' := by
  match xs, hx with
  | [a0, a1, a2, a3, a4, a5, a6, a7, a8, a9, a10, a11, a12, a13, a14, a15], _ =>
    match ys, hy with
    | [b0, b1, b2, b3, b4, b5, b6, b7], _ => exact walk_lit a0 a1 a2 a3 a4 a5 a6 a7 a8 a9 a10 a11 a12 a13 a14 a15 b0 b1 b2 b3 b4 b5 b6 b7 k r w

theorem ints_of : ∀ l : List Value, (∀ i, i < l.length → ∃ z : Int, l[i]? = some (.int .u8 z)) → ∃ xs : List Int, xs.length = l.length ∧ l = xs.map (Value.int .u8)
  | [], _ => ⟨[], rfl, rfl⟩
  | v :: l, h => by
    obtain ⟨z, hz⟩ := h 0 (by simp)
    obtain ⟨xs, h1, h2⟩ := ints_of l (fun i hi => by simpa using h (i + 1) (by simpa using hi))
    simp at hz
    exact ⟨z :: xs, by simp [h1], by simp [hz, ← h2]⟩

theorem cells5 : Yba.prog.cellsOf 5 = 1 := by kernel_rfl
theorem cells26 : Yba.prog.cellsOf 26 = 16 := by kernel_rfl
theorem cells28 : Yba.prog.cellsOf 28 = 8 := by kernel_rfl
theorem open_bytes {H : Type} {enc : TypeId × Value → H} {W : World} {base b0 : Nat} {rc : Reach} {spare : Nat → Bool} {held : Bool} {t : TypeId} {n : Nat} {v : Value} {d : DataW H} {p : List MemPlace}
    (hu : Yba.prog.underlying t = some (.array n 5)) (hc : Yba.prog.cellsOf t = n) (hok : Value.okWide Yba.prog W rc b0 t v) (h : DataW.Trod enc Yba.prog W base spare held t v d p) :
    ∃ xs : List Int, xs.length = n ∧ v = .agg (xs.map (Value.int .u8)).toArray := by
  simp only [Value.okWide, hu] at hok
  obtain ⟨cs, rfl, hsz, _⟩ := hok
  rw [hc] at hsz
  obtain ⟨fuel, hf⟩ := h
  obtain ⟨ys, m, _, _, _, _, hel⟩ := DataW.trod_array hu hf
  simp only [Value.cells, cells5, Nat.mul_one] at hel
  have hlen : cs.toList.length = n := by simpa using hsz
  obtain ⟨xs, h1, h2⟩ := ints_of cs.toList (fun i hi => by
    have hi' : i < n := by omega
    have hy := hel i hi'
    obtain ⟨y, hyy⟩ : ∃ y, ys[i]? = some y := by
      cases e : ys[i]? with
      | some y => exact ⟨y, rfl⟩
      | none =>
        rw [e] at hy
        have hl : ys.length = n := by assumption
        rw [List.getElem?_eq_none_iff] at e
        omega
    rw [hyy] at hy
    obtain ⟨z, hz, _, _⟩ := DataW.trod_int Yba.underlying5 hy
    refine ⟨z, ?_⟩
    have h0 : ((cs.toList.drop i).take 1)[0]? = some (.int .u8 z) := by rw [hz]; rfl
    simpa using h0)
  exact ⟨xs, by omega, by rw [← h2]⟩

theorem own : ownKnob Yba.prog.godebug = none := by kernel_rfl
theorem laidOut : laidOutB Yba.prog = true := by kernel_rfl

set_option maxRecDepth 100000 in
theorem lifted (os : Os) (started : os.Started) (H : Type) (enc : TypeId × Value → H) :
    ReturnsInHanded {} Yba.checked os 4 .any (Rows.lawS1634ANonRecordingSpec.pre6 enc Yba.prog Yba.f4 Rows.lawS1634ANonRecordingRow.domain false) (Rows.lawS1634ANonRecordingSpec.post enc Yba.prog Yba.f4 false true false false) := by
  refine returnsInHanded_of_change (C := Yba.checked) own started (by kernel_rfl) Yba.func4
    (ChangeSpec.witness6 (enc := enc) (C := Yba.checked) false ⟨#[], #[.agg #[.int .u8 0, .int .u8 0, .int .u8 0, .int .u8 0, .int .u8 0, .int .u8 0, .int .u8 0, .int .u8 0, .int .u8 0, .int .u8 0, .int .u8 0, .int .u8 0, .int .u8 0, .int .u8 0, .int .u8 0, .int .u8 0], .agg #[.int .u8 0, .int .u8 0, .int .u8 0, .int .u8 0, .int .u8 0, .int .u8 0, .int .u8 0, .int .u8 0], .int .u8 0, .bool false], []⟩ 8 (by kernel_rfl) (by kernel_rfl) (by kernel_rfl) (by kernel_rfl)) ?_
  intro W base args ds gs before hval0 hW hcnd _
  have hval : ∀ (j : Nat) t v, Yba.f4.params[j]? = some t → args[j]? = some v → Value.okWide Yba.prog W .any base t v := hval0
  have hW' := hW
  obtain ⟨p, q, hA0, hV, rfl, hfz, hnd⟩ := hW
  have hA : DataW.TrodAll enc Yba.prog W 0 (fun _ => true) true Yba.f4.params.toList args.toList ds p := hA0
  rw [Yba.params4] at hA hval
  obtain ⟨v0, vs0, d0, ds0, p0, q0, hargs, rfl, rfl, h0, r0⟩ := trodAll_cons hA
  obtain ⟨v1, vs1, d1, ds1, p1, q1, rfl, rfl, rfl, h1, r1⟩ := trodAll_cons r0
  obtain ⟨v2, vs2, d2, ds2, p2, q2, rfl, rfl, rfl, h2, r2⟩ := trodAll_cons r1
  obtain ⟨v3, vs3, d3, ds3, p3, q3, rfl, rfl, rfl, h3, r3⟩ := trodAll_cons r2
  obtain ⟨rfl, rfl, rfl⟩ := trodAll_nil r3
  obtain rfl : args = #[v0, v1, v2, v3] := by cases args; simp_all
  obtain ⟨rfl, rfl⟩ := trodVars_none hV
  obtain ⟨xs, hxs, rfl⟩ := open_bytes Yba.underlying26 cells26 (hval 0 26 v0 rfl rfl) h0
  obtain ⟨ys, hys, rfl⟩ := open_bytes Yba.underlying28 cells28 (hval 1 28 v1 rfl rfl) h1
  obtain ⟨a2, rfl, rfl, rfl, w2⟩ := open_int Yba.underlying5 (hval 2 5 v2 rfl rfl) h2
  obtain ⟨a3, rfl, rfl, rfl⟩ := open_bool Yba.underlying4 (hval 3 4 v3 rfl rfl) h3
  have lt0 : ∀ x ∈ p0, x.block < W.heap.size := by obtain ⟨m, hm⟩ := h0; exact DataW.trod_lt m _ _ _ hm
  have lt1 : ∀ x ∈ p1, x.block < W.heap.size := by obtain ⟨m, hm⟩ := h1; exact DataW.trod_lt m _ _ _ hm
  clear hA0 hval0
  refine (walk_any xs ys hxs hys a2 a3 W).mono fun e W' ⟨he, bel⟩ => ?_
  subst he
  exact ⟨_, rfl, _, _, _, [], _, [], hW', trodAll_mk1 (shut_bool Yba.underlying4 _),
    (trodAll_cons_mk (Below.trod laidOut (by kernel_rfl) (of_decide_eq_true (by kernel_rfl)) h0 bel lt0) (trodAll_cons_mk (Below.trod laidOut (by kernel_rfl) (of_decide_eq_true (by kernel_rfl)) h1 bel lt1) (trodAll_cons_mk (shut_int Yba.underlying5 w2) (trodAll_cons_mk (shut_bool Yba.underlying4 _) trodAll_mk0)))), rfl, bel.frame _, fun h => by cases h⟩

theorem over : Rows.lawS1634ANonRecordingRow.holds Yba.pinned (OpenSpec.ofChange Rows.lawS1634ANonRecordingSpec) :=
  OpenClaim.holds_of_wide 4 Yba.f4 rfl rfl rfl rfl rfl rfl rfl ⟨rfl, rfl, rfl, rfl, rfl⟩ rfl rfl rfl rfl rfl (by kernel_rfl) Yba.func4 (by kernel_rfl)
    (of_decide_eq_true (by kernel_rfl)) (by unfold Func.isWrapper; first | (rw [if_pos (by decide +kernel)]; kernel_rfl) | (rw [if_neg (by decide +kernel)]; exact ⟨rfl, rfl⟩))
    (fun os started H enc _ => lifted os started H enc)

/-- ████ THE STATEMENT ████ -/
theorem proved : Rows.LawS1634ANonRecordingSaid := over
#print axioms proved
end Go.Proofs.Ybulkaguw.NonRec
