/-
  The frame is the given shell (written by program); the walk is ours.
-/
import Derived.Test.YbulkaguwRows
import Derived.WalkKit
import Derived.ProofKit
import Derived.OpenShut
import Derived.ShutString
import Derived.ChangeOld
import Derived.Below
import Derived.WalkSpells
import Derived.WalkLawsBesides
import Derived.Laws.EntriesVeiled
namespace Go.Proofs.Ybulkaguw.lawS1634BLastNonNilWins
open Go.ChangeShapes Go.WideShapes Go.ChangeAt Go.RowKit
open Go.ChangeMaps (open_string shut_string)
set_option linter.unusedVariables false

theorem own : ownKnob Yba.prog.godebug = none := by kernel_rfl
theorem laidOut : laidOutB Yba.prog = true := by kernel_rfl

/-- WHAT THE WALK IS TOLD OF A SLICE OF INTEGERS THAT CAME IN: it is nil; or it leads to a row of 'cap' cells, the numbers 'zs' (the first 'len' are its elements, the rest its spare room), each fitting its kind. -/
def IsRow (k : IntKind) (w : World) (a : Option Addr) (len cap : Nat) (zs : List Int) : Prop :=
  (a = none ∧ len = 0 ∧ cap = 0 ∧ zs = []) ∨
  ∃ x, a = some x ∧ len ≤ cap ∧ cap ≤ maxLen ∧ zs.length = cap ∧ (∀ i, i < zs.length → w.cell? (x.add i) = some (.int k (zs.getD i 0))) ∧ ∀ n ∈ zs, (Lit.int k n).wf = true

theorem with_some (p : Addr) (w : World) :
    Calls Yba.prog 13 #[.pointer (some p)] w fun e w' => e = .returned (.func (Fn.func 19) #[] #[.pointer (some ⟨w.heap.size, 0, none⟩)]) ∧ w' = w.alloc (.cells #[.pointer (some p)] 62) := by
  go_enter Yba.func13, Yba.ntmps13
  go_wp2
  go_ret
  exact ⟨rfl, rfl⟩
theorem with_nil (w : World) :
    Calls Yba.prog 13 #[.pointer none] w fun e w' => e = .returned (.func (Fn.func 19) #[] #[.pointer (some ⟨w.heap.size, 0, none⟩)]) ∧ w' = w.alloc (.cells #[.pointer none] 62) := by
  go_enter Yba.func13, Yba.ntmps13
  go_wp2
  go_ret
  exact ⟨rfl, rfl⟩
theorem nilfunc (c : Addr) (w : World) : (binOp .eql 91 (.func (Fn.func 19) #[] #[.pointer (some c)]) .nilFunc).run Yba.prog w = .ok (.bool false) w := by kernel_rfl
theorem some_of_map {α β : Type} {f : α → β} {o : Option α} {b : β} (h : o.map f = some b) : ∃ a, o = some a ∧ f a = b := by
  cases o with
  | none => cases h
  | some a => exact ⟨a, rfl, by simpa using h⟩
theorem siz81 : (Yba.prog.info? 81).map (fun i => i.size) = some 14 := by kernel_rfl
theorem same_ptr (p : Option Addr) (w : World) (d : Nat) : (Op.equalIn (d + 1) 62 (.pointer p) (.pointer p)).run Yba.prog w = .ok true w := by
  obtain ⟨j, hj, _⟩ := some_of_map siz81
  cases p with
  | none => simp [Op.equalIn, run_underlying Yba.underlying62]
  | some a => simp [Op.equalIn, run_underlying Yba.underlying62, sizeOf, typeInfo, hj, run_sameAddr_same]
theorem neq_any (p : Option Addr) (w : World) : (binOp .neq 62 (.pointer p) (.pointer p)).run Yba.prog w = .ok (.bool false) w := by
  simp only [binOp]
  simp [Op.equal, Op.maxDepth, same_ptr p w 9999]
theorem eql_any (p : Option Addr) (w : World) : (binOp .eql 62 (.pointer p) (.pointer p)).run Yba.prog w = .ok (.bool true) w := by
  simp only [binOp]
  simp [Op.equal, Op.maxDepth, same_ptr p w 9999]
theorem opt_some (c x : Nat) (p : Addr) (u : Value) (w : World) (hx : w.cell? ⟨x, 0, none⟩ = some (.pointer (some p))) (hc : w.cell? ⟨c, 0, none⟩ = some u) (hf : w.frozen? ⟨c, 0, none⟩ = false) :
    Calls Yba.prog 19 #[.pointer (some ⟨c, 0, none⟩), .pointer (some ⟨x, 0, none⟩)] w fun e w' => e = .returned (.tuple #[]) ∧ w' = w.setCell ⟨c, 0, none⟩ (.pointer (some p)) := by
  go_enter Yba.func19, Yba.ntmps19
  go_wp2
  go_end0
  exact ⟨rfl, rfl⟩
theorem opt_nil (c x : Nat) (w : World) (hx : w.cell? ⟨x, 0, none⟩ = some (.pointer none)) :
    Calls Yba.prog 19 #[.pointer (some ⟨c, 0, none⟩), .pointer (some ⟨x, 0, none⟩)] w fun e w' => e = .returned (.tuple #[]) ∧ w' = w := by
  go_enter Yba.func19, Yba.ntmps19
  go_wp2
  go_end0
  exact ⟨rfl, rfl⟩

/-- WHAT STANDS BETWEEN TWO ROUNDS: the pool's three pointers in block N + 3, the config in block N + 4 with provider p and no propagator. -/
structure Inv (w wr : World) (p : Option Addr) : Prop where
  q0 : wr.cell? ⟨w.heap.size + 1 + 1 + 1, 0, none⟩ = some (.pointer (some ⟨w.heap.size, 0, none⟩))
  q1 : wr.cell? ⟨w.heap.size + 1 + 1 + 1, 1, none⟩ = some (.pointer (some ⟨w.heap.size + 1, 0, none⟩))
  q2 : wr.cell? ⟨w.heap.size + 1 + 1 + 1, 2, none⟩ = some (.pointer (some ⟨w.heap.size + 1 + 1, 0, none⟩))
  c0 : wr.cell? ⟨w.heap.size + 1 + 1 + 1 + 1, 0, none⟩ = some (.pointer p)
  c1 : wr.cell? ⟨w.heap.size + 1 + 1 + 1 + 1, 1, none⟩ = some .nilIface
  fz : wr.frozen? ⟨w.heap.size + 1 + 1 + 1 + 1, 0, none⟩ = false
  below : Below w.heap.size w wr
  size : w.heap.size + 1 + 1 + 1 + 1 < wr.heap.size

theorem Inv.alloc {w wr : World} {p : Option Addr} (h : Inv w wr p) (o : Obj) : Inv w (wr.alloc o) p := by
  have hs := h.size
  refine ⟨(World.grownBy_alloc wr o none).cell h.q0 (by simp), (World.grownBy_alloc wr o none).cell h.q1 (by simp), (World.grownBy_alloc wr o none).cell h.q2 (by simp), (World.grownBy_alloc wr o none).cell h.c0 (by simp), (World.grownBy_alloc wr o none).cell h.c1 (by simp), ?_, h.below.alloc (by omega) o, by simp; omega⟩
  rw [World.frozen?_alloc_old _ _ _ (by simp; omega)]
  exact h.fz
theorem Inv.set {w wr : World} {p : Option Addr} (h : Inv w wr p) (q : Option Addr) : Inv w (wr.setCell ⟨w.heap.size + 1 + 1 + 1 + 1, 0, none⟩ (.pointer q)) q := by
  have hs := h.size
  refine ⟨?_, ?_, ?_, ?_, ?_, ?_, h.below.setCell (by simp; omega) _, by simpa [World.setCell] using hs⟩
  · rw [World.cell?_setCell_other _ _ _ _ (by simp)]; exact h.q0
  · rw [World.cell?_setCell_other _ _ _ _ (by simp)]; exact h.q1
  · rw [World.cell?_setCell_other _ _ _ _ (by simp)]; exact h.q2
  · exact World.cell?_setCell_same _ _ _ h.c0
  · rw [World.cell?_setCell_other _ _ _ _ (by simp)]; exact h.c1
  · rw [World.frozen?_setCell]; exact h.fz

set_option maxRecDepth 100000 in
set_option maxHeartbeats 1000000 in
theorem walk_some (b off n cap : Nat) (zs : List Int) (w : World) (hn : n ≤ 1024) (hb : b < w.heap.size) (hc : ∀ i, i < n → w.cell? ⟨b, off + i, none⟩ = some (.int .u8 (zs.getD i 0))) (hr : ∀ i, 0 ≤ zs.getD i 0 ∧ zs.getD i 0 ≤ 255) :
    Calls Yba.prog 6 #[.slice (some ⟨b, off, none⟩) n cap] w fun e w' => e = .returned (.bool true) ∧ Below w.heap.size w w' := by
  have hd : decide ((1024 : Int) < (n : Int)) = false := by simp; omega
  have hnf := nilfunc
  have hneq := neq_any
  have heql := eql_any
  go_enter Yba.func6, Yba.ntmps6
  go_wp2_with fail
  go_loopw [5, 6] (fun p i wr => ∃ (k : Nat) (a : Option Addr), k ≤ n ∧ i = .int .i64 k ∧ p = .pointer a ∧ Inv w wr a) (fun _ i _ => n - (intOf i).toNat)
  case atStart =>
    refine ⟨0, none, Nat.zero_le _, rfl, rfl, ?_⟩
    refine ⟨by simp [go_sem], by simp [go_sem], by simp [go_sem], by simp [go_sem], by simp [go_sem], by simp [go_sem], ?_, by simp⟩
    exact (((((Below.refl _ _).alloc (Nat.le_refl _) _).alloc (by simp) _).alloc (by simp; omega) _).alloc (by simp; omega) _).alloc (by simp; omega) _
  case round =>
    obtain ⟨k, a, hk, rfl, rfl, hinv⟩ := hrel
    have HI : Hid (Inv w wr a) := hinv
    by_cases hlt : k < n
    · have e0 : wr.cell? ⟨b, off + k, none⟩ = some (.int .u8 (zs.getD k 0)) := (hinv.below.cell (by exact hb)).trans (hc k hlt)
      obtain ⟨r1, r2⟩ := hr k
      generalize zs.getD k 0 = z at *
      obtain ⟨q0, q1, q2, c0, c1, fz, hbel, hsz⟩ := hinv
      have h4 : z % 4 = 0 ∨ z % 4 = 1 ∨ z % 4 = 2 ∨ z % 4 = 3 := by omega
      clear hc hr
      rcases h4 with h4 | h4 | h4 | h4
      · go_wp2_with fail
        refine (with_nil _).mono ?_
        rintro e w' ⟨rfl, rfl⟩
        go_wp2_with fail
        refine (opt_nil _ _ _ ?_).mono ?_
        · simp [go_sem]
        rintro e w' ⟨rfl, rfl⟩
        have i1 := HI.out.alloc (.cells #[.pointer none] 62)
        have g0 := i1.c0
        have HJ : Hid (Inv w (wr.alloc (.cells #[.pointer none] 62)) a) := i1
        clear i1
        go_wp2_with fail
        go_roundw
        case rel => exact ⟨k + 1, a, by omega, by go_num, rfl, HJ.out⟩
        case measure => simp [intOf]; omega
      · go_wp2_with fail
        refine (with_some _ _).mono ?_
        rintro e w' ⟨rfl, rfl⟩
        have i1 := HI.out.alloc (.cells #[.pointer (some ⟨w.heap.size, 0, none⟩)] 62)
        have HJ : Hid (Inv w (wr.alloc (.cells #[.pointer (some ⟨w.heap.size, 0, none⟩)] 62)) a) := i1
        clear i1
        go_wp2_with fail
        refine (opt_some _ _ ⟨w.heap.size, 0, none⟩ (.pointer a) _ ?_ HJ.out.c0 HJ.out.fz).mono ?_
        · simp [go_sem]
        rintro e w' ⟨rfl, rfl⟩
        go_wp2_with fail
        go_roundw
        case rel => exact ⟨k + 1, _, by omega, by go_num, rfl, (HI.out.set _).alloc _⟩
        case measure => simp [intOf]; omega
      · go_wp2_with fail
        refine (with_some _ _).mono ?_
        rintro e w' ⟨rfl, rfl⟩
        have i1 := HI.out.alloc (.cells #[.pointer (some ⟨w.heap.size + 1, 0, none⟩)] 62)
        have HJ : Hid (Inv w (wr.alloc (.cells #[.pointer (some ⟨w.heap.size + 1, 0, none⟩)] 62)) a) := i1
        clear i1
        go_wp2_with fail
        refine (opt_some _ _ ⟨w.heap.size + 1, 0, none⟩ (.pointer a) _ ?_ HJ.out.c0 HJ.out.fz).mono ?_
        · simp [go_sem]
        rintro e w' ⟨rfl, rfl⟩
        go_wp2_with fail
        go_roundw
        case rel => exact ⟨k + 1, _, by omega, by go_num, rfl, (HI.out.set _).alloc _⟩
        case measure => simp [intOf]; omega
      · go_wp2_with fail
        refine (with_some _ _).mono ?_
        rintro e w' ⟨rfl, rfl⟩
        have i1 := HI.out.alloc (.cells #[.pointer (some ⟨w.heap.size + 1 + 1, 0, none⟩)] 62)
        have HJ : Hid (Inv w (wr.alloc (.cells #[.pointer (some ⟨w.heap.size + 1 + 1, 0, none⟩)] 62)) a) := i1
        clear i1
        go_wp2_with fail
        refine (opt_some _ _ ⟨w.heap.size + 1 + 1, 0, none⟩ (.pointer a) _ ?_ HJ.out.c0 HJ.out.fz).mono ?_
        · simp [go_sem]
        rintro e w' ⟨rfl, rfl⟩
        go_wp2_with fail
        go_roundw
        case rel => exact ⟨k + 1, _, by omega, by go_num, rfl, (HI.out.set _).alloc _⟩
        case measure => simp [intOf]; omega
    · obtain rfl : k = n := by omega
      obtain ⟨q0, q1, q2, c0, c1, fz, hbel, hsz⟩ := hinv
      clear hc hr
      go_wp2_with fail
      go_ret
      exact ⟨rfl, HI.out.below⟩

set_option maxRecDepth 100000 in
theorem walk_zero (a0 : Option Addr) (cap : Nat) (w : World) :
    Calls Yba.prog 6 #[.slice a0 0 cap] w fun e w' => e = .returned (.bool true) ∧ Below w.heap.size w w' := by
  have heql := eql_any
  go_enter Yba.func6, Yba.ntmps6
  go_wp2_with fail
  refine wp_loop_rounds 1 ?_
  rw [rounds_succ]
  go_wp2_with fail
  go_ret
  exact ⟨rfl, (((((Below.refl _ _).alloc (Nat.le_refl _) _).alloc (by simp) _).alloc (by simp; omega) _).alloc (by simp; omega) _).alloc (by simp; omega) _⟩

set_option maxRecDepth 100000 in
theorem walk_long (a0 : Option Addr) (n cap : Nat) (w : World) (hn : 1024 < n) (hm : n ≤ maxLen) :
    Calls Yba.prog 6 #[.slice a0 n cap] w fun e w' => e = .returned (.bool true) ∧ Below w.heap.size w w' := by
  unfold maxLen at hm
  go_enter Yba.func6, Yba.ntmps6
  go_wp2
  go_ret
  exact ⟨rfl, Below.refl _ _⟩

/-! ### STEP 1: THE WALK: the Go text returns true, AND WRITES NOTHING THAT WAS THERE: 'Below w.heap.size w w'' (Derived/Below.lean: '.refl', '.alloc', '.drew', '.setCell' at a new block, '.trans'). Open each 'IsRow' by 'rcases' AHEAD of 'go_enter'; part every test ahead of the walk. -/
theorem walk (a0 : Option Addr) (len0 cap0 : Nat) (z0 : List Int) (w : World) (w0 : IsRow .u8 w a0 len0 cap0 z0) :
    Calls Yba.prog 6 #[.slice a0 len0 cap0] w fun e w' => e = .returned (.bool true) ∧ Below w.heap.size w w' := by
  rcases w0 with ⟨rfl, rfl, rfl, rfl⟩ | ⟨x, rfl, hl, hm, hz, hcell, hwz⟩
  · exact walk_zero none 0 w
  · by_cases h1 : 1024 < len0
    · exact walk_long _ _ _ w h1 (by omega)
    · by_cases h0 : len0 = 0
      · subst h0
        exact walk_zero _ _ w
      · obtain ⟨b, off, spot⟩ := x
        have hspot : spot = none := by simpa [Addr.add] using World.cell?_spot (hcell 0 (by omega))
        subst hspot
        have hb : b < w.heap.size := by
          have := World.block_lt_of_cell? w _ (hcell 0 (by omega))
          simpa [Addr.add] using this
        refine walk_some b off len0 cap0 z0 w (by omega) hb (fun i hi => by rw [← add_plain]; exact hcell i (by omega)) (fun i => ?_)
        by_cases hi : i < z0.length
        · have e1 : z0.getD i 0 = z0[i] := by simp [List.getD, List.getElem?_eq_getElem hi]
          rw [e1]
          exact bounds_u8 (hwz _ (List.getElem_mem hi))
        · have e1 : z0.getD i 0 = 0 := by simp [List.getD, List.getElem?_eq_none (Nat.le_of_not_lt hi)]
          rw [e1]
          omega

/-! ### THE ROW's STEP: WRITTEN OUT: LEAVE IT -/
set_option maxRecDepth 100000 in
theorem lifted (os : Os) (started : os.Started) (H : Type) (enc : TypeId × Value → H) :
    ReturnsInHanded {} Yba.checked os 6 .any (Rows.lawS1634BLastNonNilWinsSpec.pre6 enc Yba.prog Yba.f6 Rows.lawS1634BLastNonNilWinsRow.domain false) (Rows.lawS1634BLastNonNilWinsSpec.post enc Yba.prog Yba.f6 false true false false) := by
  refine returnsInHanded_of_change (C := Yba.checked) own started (by kernel_rfl) Yba.func6
    (ChangeSpec.witness6 (enc := enc) (C := Yba.checked) false ⟨#[], #[.slice none 0 0], []⟩ 8 (by kernel_rfl) (by kernel_rfl) (by kernel_rfl) (by kernel_rfl)) ?_
  intro W base args ds gs before hval0 hW hcnd _
  have hval : ∀ (j : Nat) t v, Yba.f6.params[j]? = some t → args[j]? = some v → Value.okWide Yba.prog W .any base t v := hval0
  have hW' := hW
  obtain ⟨p, q, hA0, hV, rfl, hfz, hnd⟩ := hW
  have hA : DataW.TrodAll enc Yba.prog W 0 (fun _ => true) true Yba.f6.params.toList args.toList ds p := hA0
  rw [Yba.params6] at hA hval
  obtain ⟨v0, vs0, d0, ds0, p0, q0, hargs, rfl, rfl, h0, r0⟩ := trodAll_cons hA
  obtain ⟨rfl, rfl, rfl⟩ := trodAll_nil r0
  obtain rfl : args = #[v0] := by cases args; simp_all
  obtain ⟨rfl, rfl⟩ := trodVars_none hV
  obtain ⟨a0, len0, cap0, rfl⟩ := okWide_slice Yba.underlying94 (hval 0 94 v0 rfl rfl)
  have k0 := h0
  have lt0 : ∀ x ∈ p0, x.block < W.heap.size := by obtain ⟨m, hm⟩ := k0; exact DataW.trod_lt m _ _ _ hm
  obtain ⟨z0, w0⟩ : ∃ zs, IsRow .u8 W a0 len0 cap0 zs := by
    obtain ⟨fuel, hf⟩ := h0
    rcases open_ints Yba.underlying94 Yba.underlying5 (by kernel_rfl) hf with ⟨hcs, _⟩ | ⟨x, l, c, zs, hcs, _, hl, hm, hz, _, hcell, hwz⟩
    · simp [Value.cells] at hcs
      obtain ⟨rfl, rfl, rfl⟩ := hcs
      exact ⟨[], .inl ⟨rfl, rfl, rfl, rfl⟩⟩
    · simp [Value.cells] at hcs
      obtain ⟨rfl, rfl, rfl⟩ := hcs
      exact ⟨zs, .inr ⟨_, rfl, hl, hm, by simpa using hz, hcell, hwz⟩⟩
  clear hA0 hval0
  refine (walk a0 len0 cap0 z0 W w0).mono fun e W' ⟨he, bel⟩ => ?_
  subst he
  exact ⟨_, rfl, _, _, _, [], _, [], hW', trodAll_mk1 (shut_bool Yba.underlying4 _), (trodAll_cons_mk (Below.trod laidOut (by kernel_rfl) (of_decide_eq_true (by kernel_rfl)) k0 bel lt0) trodAll_mk0), rfl, bel.frame _, fun h => by cases h⟩

theorem over : Rows.lawS1634BLastNonNilWinsRow.holds Yba.pinned (OpenSpec.ofChange Rows.lawS1634BLastNonNilWinsSpec) :=
  OpenClaim.holds_of_wide 6 Yba.f6 rfl rfl rfl rfl rfl rfl rfl ⟨rfl, rfl, rfl, rfl, rfl⟩ rfl rfl rfl rfl rfl (by kernel_rfl) Yba.func6 (by kernel_rfl)
    (of_decide_eq_true (by kernel_rfl)) (by unfold Func.isWrapper; first | (rw [if_pos (by decide +kernel)]; kernel_rfl) | (rw [if_neg (by decide +kernel)]; exact ⟨rfl, rfl⟩))
    (fun os started H enc _ => lifted os started H enc)

/-- ████ THE STATEMENT ████ -/
theorem proved : Rows.LawS1634BLastNonNilWinsSaid := over
#print axioms proved
end Go.Proofs.Ybulkaguw.lawS1634BLastNonNilWins
