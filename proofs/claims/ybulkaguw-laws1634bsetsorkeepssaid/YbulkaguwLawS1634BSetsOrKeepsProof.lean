/-
  The frame is the given shell (written by program); the walk is ours.
-/
import Derived.Test.YbulkaguwRows
import Derived.WalkKit
import Derived.ProofKit
import Derived.OpenShut
import Derived.ShutString
import Derived.WalkSpells
import Derived.WalkLawsBesides
import Derived.Laws.EntriesVeiled
namespace Go.Proofs.Ybulkaguw.lawS1634BSetsOrKeeps
open Go.ChangeShapes Go.WideShapes Go.ChangeAt Go.RowKit
open Go.ChangeMaps (open_string shut_string)
set_option linter.unusedVariables false      -- a walk need not use every 'w<i>' (that an integer argument fits its kind)

theorem own : ownKnob Yba.prog.godebug = none := by kernel_rfl

theorem with_some (p : Addr) (w : World) :
    Calls Yba.prog 13 #[.pointer (some p)] w fun e w' => e = .returned (.func (Fn.func 19) #[] #[.pointer (some ⟨w.heap.size, 0, none⟩)]) ∧ w' = w.alloc (.cells #[.pointer (some p)] 62) := by
  go_enter Yba.func13, Yba.ntmps13
  go_wp2
  go_ret
  exact ⟨rfl, rfl⟩
theorem with_nil (w : World) :
    Calls Yba.prog 13 #[.pointer none] w fun e w' => e = .returned (.func (Fn.func 19) #[] #[.pointer (some ⟨w.heap.size, 0, none⟩)]) ∧ w' = w.alloc (.cells #[.pointer none] 62) := by
  go_enter Yba.func13, Yba.ntmps13
  go_wp2
  go_ret
  exact ⟨rfl, rfl⟩
theorem nilfunc (c : Addr) (w : World) : (binOp .eql 91 (.func (Fn.func 19) #[] #[.pointer (some c)]) .nilFunc).run Yba.prog w = .ok (.bool false) w := by kernel_rfl
theorem some_of_map {α β : Type} {f : α → β} {o : Option α} {b : β} (h : o.map f = some b) : ∃ a, o = some a ∧ f a = b := by
  cases o with
  | none => cases h
  | some a => exact ⟨a, rfl, by simpa using h⟩
theorem cmp87 : (Yba.prog.info? 87).map (fun i => i.comparable) = some true := by kernel_rfl
theorem siz89 : (Yba.prog.info? 89).map (fun i => i.size) = some 1 := by kernel_rfl
theorem eqif (a : Addr) (w : World) : (binOp .eql 84 (.iface 87 (.pointer (some a))) (.iface 87 (.pointer (some a)))).run Yba.prog w = .ok (.bool true) w := by
  obtain ⟨i, hi, hc⟩ := some_of_map cmp87
  obtain ⟨j, hj, _⟩ := some_of_map siz89
  exact run_eql_iface_ptr_same w a Yba.underlying84 Yba.underlying87 hi hc hj
theorem siz81 : (Yba.prog.info? 81).map (fun i => i.size) = some 14 := by kernel_rfl
theorem neq_ptr (a : Addr) (w : World) : (binOp .neq 62 (.pointer (some a)) (.pointer (some a))).run Yba.prog w = .ok (.bool false) w := by
  obtain ⟨j, hj, _⟩ := some_of_map siz81
  have h : ∀ d : Nat, (Op.equalIn (d + 1) 62 (.pointer (some a)) (.pointer (some a))).run Yba.prog w = .ok true w := fun d => by
    simp [Op.equalIn, run_underlying Yba.underlying62, sizeOf, typeInfo, hj, run_sameAddr_same]
  simp only [binOp]
  simp [Op.equal, Op.maxDepth, h 9999]
theorem opt_some (c x : Nat) (p : Addr) (u : Value) (w : World) (hx : w.cell? ⟨x, 0, none⟩ = some (.pointer (some p))) (hc : w.cell? ⟨c, 0, none⟩ = some u) (hf : w.frozen? ⟨c, 0, none⟩ = false) :
    Calls Yba.prog 19 #[.pointer (some ⟨c, 0, none⟩), .pointer (some ⟨x, 0, none⟩)] w fun e w' => e = .returned (.tuple #[]) ∧ w' = w.setCell ⟨c, 0, none⟩ (.pointer (some p)) := by
  go_enter Yba.func19, Yba.ntmps19
  go_wp2
  go_end0
  exact ⟨rfl, rfl⟩
theorem opt_nil (c x : Nat) (w : World) (hx : w.cell? ⟨x, 0, none⟩ = some (.pointer none)) :
    Calls Yba.prog 19 #[.pointer (some ⟨c, 0, none⟩), .pointer (some ⟨x, 0, none⟩)] w fun e w' => e = .returned (.tuple #[]) ∧ w' = w := by
  go_enter Yba.func19, Yba.ntmps19
  go_wp2
  go_end0
  exact ⟨rfl, rfl⟩
set_option maxRecDepth 100000 in
theorem walk_fff (w : World) :
    Calls Yba.prog 5 #[.bool false, .bool false, .bool false] w fun e w' => e = .returned (.bool true) ∧ Grown w w' := by
  have hnf := nilfunc
  have heq := eqif
  have hne := neq_ptr
  go_enter Yba.func5, Yba.ntmps5
  go_wp2_with fail
  refine (with_some _ _).mono ?_
  rintro e w' ⟨rfl, rfl⟩
  go_wp2_with fail
  refine (opt_some _ _ ⟨w.heap.size + 1, 0, none⟩ (.pointer none) _ ?_ ?_ ?_).mono ?_
  · simp [go_sem]
  · simp [go_sem]
  · simp [go_sem]
  rintro e w' ⟨rfl, rfl⟩
  go_wp2
  go_ret
  exact ⟨rfl, by repeat (first | exact Grown.refl _ | apply Grown.drew | apply Grown.alloc)⟩
set_option maxRecDepth 100000 in
theorem walk_fft (w : World) :
    Calls Yba.prog 5 #[.bool false, .bool false, .bool true] w fun e w' => e = .returned (.bool true) ∧ Grown w w' := by
  have hnf := nilfunc
  have heq := eqif
  have hne := neq_ptr
  go_enter Yba.func5, Yba.ntmps5
  go_wp2_with fail
  refine (with_some _ _).mono ?_
  rintro e w' ⟨rfl, rfl⟩
  go_wp2_with fail
  refine (opt_some _ _ ⟨w.heap.size + 1, 0, none⟩ (.pointer none) _ ?_ ?_ ?_).mono ?_
  · simp [go_sem]
  · simp [go_sem]
  · simp [go_sem]
  rintro e w' ⟨rfl, rfl⟩
  go_wp2
  go_ret
  exact ⟨rfl, by repeat (first | exact Grown.refl _ | apply Grown.drew | apply Grown.alloc)⟩
set_option maxRecDepth 100000 in
theorem walk_ftf (w : World) :
    Calls Yba.prog 5 #[.bool false, .bool true, .bool false] w fun e w' => e = .returned (.bool true) ∧ Grown w w' := by
  have hnf := nilfunc
  have heq := eqif
  have hne := neq_ptr
  go_enter Yba.func5, Yba.ntmps5
  go_wp2_with fail
  refine (with_some _ _).mono ?_
  rintro e w' ⟨rfl, rfl⟩
  go_wp2_with fail
  refine (opt_some _ _ ⟨w.heap.size + 1, 0, none⟩ (.pointer (some ⟨w.heap.size, 0, none⟩)) _ ?_ ?_ ?_).mono ?_
  · simp [go_sem]
  · simp [go_sem]
  · simp [go_sem]
  rintro e w' ⟨rfl, rfl⟩
  go_wp2
  go_ret
  exact ⟨rfl, by repeat (first | exact Grown.refl _ | apply Grown.drew | apply Grown.alloc)⟩
set_option maxRecDepth 100000 in
theorem walk_ftt (w : World) :
    Calls Yba.prog 5 #[.bool false, .bool true, .bool true] w fun e w' => e = .returned (.bool true) ∧ Grown w w' := by
  have hnf := nilfunc
  have heq := eqif
  have hne := neq_ptr
  go_enter Yba.func5, Yba.ntmps5
  go_wp2_with fail
  refine (with_some _ _).mono ?_
  rintro e w' ⟨rfl, rfl⟩
  go_wp2_with fail
  refine (opt_some _ _ ⟨w.heap.size + 1, 0, none⟩ (.pointer (some ⟨w.heap.size, 0, none⟩)) _ ?_ ?_ ?_).mono ?_
  · simp [go_sem]
  · simp [go_sem]
  · simp [go_sem]
  rintro e w' ⟨rfl, rfl⟩
  go_wp2
  go_ret
  exact ⟨rfl, by repeat (first | exact Grown.refl _ | apply Grown.drew | apply Grown.alloc)⟩
set_option maxRecDepth 100000 in
theorem walk_tff (w : World) :
    Calls Yba.prog 5 #[.bool true, .bool false, .bool false] w fun e w' => e = .returned (.bool true) ∧ Grown w w' := by
  have hnf := nilfunc
  have heq := eqif
  have hne := neq_ptr
  go_enter Yba.func5, Yba.ntmps5
  go_wp2_with fail
  refine (with_nil _).mono ?_
  rintro e w' ⟨rfl, rfl⟩
  go_wp2_with fail
  refine (opt_nil _ _ _ ?_).mono ?_
  · simp [go_sem]
  rintro e w' ⟨rfl, rfl⟩
  go_wp2
  go_ret
  exact ⟨rfl, by repeat (first | exact Grown.refl _ | apply Grown.drew | apply Grown.alloc)⟩
set_option maxRecDepth 100000 in
theorem walk_tft (w : World) :
    Calls Yba.prog 5 #[.bool true, .bool false, .bool true] w fun e w' => e = .returned (.bool true) ∧ Grown w w' := by
  have hnf := nilfunc
  have heq := eqif
  have hne := neq_ptr
  go_enter Yba.func5, Yba.ntmps5
  go_wp2_with fail
  refine (with_nil _).mono ?_
  rintro e w' ⟨rfl, rfl⟩
  go_wp2_with fail
  refine (opt_nil _ _ _ ?_).mono ?_
  · simp [go_sem]
  rintro e w' ⟨rfl, rfl⟩
  go_wp2
  go_ret
  exact ⟨rfl, by repeat (first | exact Grown.refl _ | apply Grown.drew | apply Grown.alloc)⟩
set_option maxRecDepth 100000 in
theorem walk_ttf (w : World) :
    Calls Yba.prog 5 #[.bool true, .bool true, .bool false] w fun e w' => e = .returned (.bool true) ∧ Grown w w' := by
  have hnf := nilfunc
  have heq := eqif
  have hne := neq_ptr
  go_enter Yba.func5, Yba.ntmps5
  go_wp2_with fail
  refine (with_nil _).mono ?_
  rintro e w' ⟨rfl, rfl⟩
  go_wp2_with fail
  refine (opt_nil _ _ _ ?_).mono ?_
  · simp [go_sem]
  rintro e w' ⟨rfl, rfl⟩
  go_wp2
  go_ret
  exact ⟨rfl, by repeat (first | exact Grown.refl _ | apply Grown.drew | apply Grown.alloc)⟩
set_option maxRecDepth 100000 in
theorem walk_ttt (w : World) :
    Calls Yba.prog 5 #[.bool true, .bool true, .bool true] w fun e w' => e = .returned (.bool true) ∧ Grown w w' := by
  have hnf := nilfunc
  have heq := eqif
  have hne := neq_ptr
  go_enter Yba.func5, Yba.ntmps5
  go_wp2_with fail
  refine (with_nil _).mono ?_
  rintro e w' ⟨rfl, rfl⟩
  go_wp2_with fail
  refine (opt_nil _ _ _ ?_).mono ?_
  · simp [go_sem]
  rintro e w' ⟨rfl, rfl⟩
  go_wp2
  go_ret
  exact ⟨rfl, by repeat (first | exact Grown.refl _ | apply Grown.drew | apply Grown.alloc)⟩

/-! ### STEP 1: THE WALK: the Go text returns true. 'Grown w w'': the world has at most new blocks (Derived/RowKit3.lean). Part the cases AHEAD of 'go_enter' where a test parts the walk; take each callee by a contract of your own. -/
theorem walk (a0 : Bool) (a1 : Bool) (a2 : Bool) (w : World) :
    Calls Yba.prog 5 #[.bool a0, .bool a1, .bool a2] w fun e w' => e = .returned (.bool true) ∧ Grown w w' := by
  cases a0
  · cases a1
    · cases a2
      · exact walk_fff w
      · exact walk_fft w
    · cases a2
      · exact walk_ftf w
      · exact walk_ftt w
  · cases a1
    · cases a2
      · exact walk_tff w
      · exact walk_tft w
    · cases a2
      · exact walk_ttf w
      · exact walk_ttt w

/-! ### THE ROW's STEP: WRITTEN OUT: LEAVE IT -/
set_option maxRecDepth 100000 in
theorem lifted (os : Os) (started : os.Started) (H : Type) (enc : TypeId × Value → H) :
    ReturnsInHanded {} Yba.checked os 5 .any (Rows.lawS1634BSetsOrKeepsSpec.pre6 enc Yba.prog Yba.f5 Rows.lawS1634BSetsOrKeepsRow.domain false) (Rows.lawS1634BSetsOrKeepsSpec.post enc Yba.prog Yba.f5 false true false false) := by
  refine returnsInHanded_of_change (C := Yba.checked) own started (by kernel_rfl) Yba.func5
    (ChangeSpec.witness6 (enc := enc) (C := Yba.checked) false ⟨#[], #[.bool false, .bool false, .bool false], []⟩ 8 (by kernel_rfl) (by kernel_rfl) (by kernel_rfl) (by kernel_rfl)) ?_
  intro W base args ds gs before hval0 hW hcnd _
  have hval : ∀ (j : Nat) t v, Yba.f5.params[j]? = some t → args[j]? = some v → Value.okWide Yba.prog W .any base t v := hval0
  have hW' := hW
  obtain ⟨p, q, hA0, hV, rfl, hfz, hnd⟩ := hW
  have hA : DataW.TrodAll enc Yba.prog W 0 (fun _ => true) true Yba.f5.params.toList args.toList ds p := hA0
  rw [Yba.params5] at hA hval
  obtain ⟨v0, vs0, d0, ds0, p0, q0, hargs, rfl, rfl, h0, r0⟩ := trodAll_cons hA
  obtain ⟨v1, vs1, d1, ds1, p1, q1, rfl, rfl, rfl, h1, r1⟩ := trodAll_cons r0
  obtain ⟨v2, vs2, d2, ds2, p2, q2, rfl, rfl, rfl, h2, r2⟩ := trodAll_cons r1
  obtain ⟨rfl, rfl, rfl⟩ := trodAll_nil r2
  obtain rfl : args = #[v0, v1, v2] := by cases args; simp_all
  obtain ⟨rfl, rfl⟩ := trodVars_none hV
  obtain ⟨a0, rfl, rfl, rfl⟩ := open_bool Yba.underlying4 (hval 0 4 v0 rfl rfl) h0
  obtain ⟨a1, rfl, rfl, rfl⟩ := open_bool Yba.underlying4 (hval 1 4 v1 rfl rfl) h1
  obtain ⟨a2, rfl, rfl, rfl⟩ := open_bool Yba.underlying4 (hval 2 4 v2 rfl rfl) h2
  clear hA0 hval0
  simp only [List.append_nil] at hW'
  refine (walk a0 a1 a2 W).mono fun e W' ⟨he, hg⟩ => ?_
  subst he
  exact ⟨_, rfl, post_of_same (pa := []) (pv := []) hW' (fun _ _ _ => (trodAll_cons_mk (shut_bool Yba.underlying4 _) trodAll_mk0)) (fun sp _ => (trodAll_cons_mk (shut_bool Yba.underlying4 _) (trodAll_cons_mk (shut_bool Yba.underlying4 _) (trodAll_cons_mk (shut_bool Yba.underlying4 _) trodAll_mk0)))) (fun _ _ => rfl) rfl
    (hg.frame _) hg.2.1 (ok_one (by kernel_rfl) rfl (okWide_bool_mk Yba.underlying4 _))⟩

theorem over : Rows.lawS1634BSetsOrKeepsRow.holds Yba.pinned (OpenSpec.ofChange Rows.lawS1634BSetsOrKeepsSpec) :=
  OpenClaim.holds_of_wide 5 Yba.f5 rfl rfl rfl rfl rfl rfl rfl ⟨rfl, rfl, rfl, rfl, rfl⟩ rfl rfl rfl rfl rfl (by kernel_rfl) Yba.func5 (by kernel_rfl)
    (of_decide_eq_true (by kernel_rfl)) (by unfold Func.isWrapper; first | (rw [if_pos (by decide +kernel)]; kernel_rfl) | (rw [if_neg (by decide +kernel)]; exact ⟨rfl, rfl⟩))
    (fun os started H enc _ => lifted os started H enc)

/-- ████ THE STATEMENT ████ -/
theorem proved : Rows.LawS1634BSetsOrKeepsSaid :=
  over
#print axioms proved
end Go.Proofs.Ybulkaguw.lawS1634BSetsOrKeeps
