/-
  The frame is the given shell (written by program); the walk is ours.
-/
import Derived.Test.YbulkagtuRows
import Derived.WalkKit
import Derived.ProofKit
import Derived.OpenShut
import Derived.ShutString
import Derived.Deep.QuietTactic
import Derived.BigQuiet
import Derived.Deep.RegionWith
namespace Go.Proofs.Ybulkagtu.lawS1632AQueued
open Go.ChangeShapes Go.WideShapes Go.ChangeAt Go.RowKit
open Go.ChangeMaps (open_string shut_string)
set_option linter.unusedVariables false      -- a walk need not use every 'w<i>' (that an integer argument fits its kind)

theorem own : ownKnob Yba.prog.godebug = none := by kernel_rfl

theorem len_any (b off : Nat) (h t x : Int) (w : World) (h1 : w.cell? ⟨b, off + 1, none⟩ = some (.int .i64 h)) (h2 : w.cell? ⟨b, off + 2, none⟩ = some (.int .i64 t)) (h3 : w.cell? ⟨b, off + 3, none⟩ = some (.int .i64 x))
   (hh : 0 ≤ h) (hx : 0 ≤ x) (ht : 0 ≤ t) (hm : h ≤ 1000) (hxm : x ≤ 1000) (htm : t ≤ 1000) :
    Calls Yba.prog 10 #[.pointer (some ⟨b, off, none⟩)] w fun e w' => e = .returned (.int .i64 (t - h - x)) ∧ ∃ n, w' = w.drewN n := by
  go_enter Yba.func10, Yba.ntmps10
  go_wp2
  go_quiet (fail)
  go_wp2
  go_ret
  exact ⟨rfl, _, rfl⟩

/-- The item at block bi points to the waits at block bw, whose two queues hold h, t, x and h', t', x'. -/
structure Laid (w : World) (bi bw : Nat) (h t x h' t' x' : Int) : Prop where
  it : w.cell? ⟨bi, 12, none⟩ = some (.pointer (some ⟨bw, 0, none⟩))
  c1 : w.cell? ⟨bw, 1, none⟩ = some (.int .i64 h)
  c2 : w.cell? ⟨bw, 2, none⟩ = some (.int .i64 t)
  c3 : w.cell? ⟨bw, 3, none⟩ = some (.int .i64 x)
  d1 : w.cell? ⟨bw, 16, none⟩ = some (.int .i64 h')
  d2 : w.cell? ⟨bw, 17, none⟩ = some (.int .i64 t')
  d3 : w.cell? ⟨bw, 18, none⟩ = some (.int .i64 x')
  r : 0 ≤ h ∧ 0 ≤ x ∧ 0 ≤ t ∧ h ≤ 1000 ∧ x ≤ 1000 ∧ t ≤ 1000 ∧ 0 ≤ h' ∧ 0 ≤ x' ∧ 0 ≤ t' ∧ h' ≤ 1000 ∧ x' ≤ 1000 ∧ t' ≤ 1000

theorem conv_any (bi bw : Nat) (h t x h' t' x' : Int) (w : World) (L : Laid w bi bw h t x h' t' x') :
    Calls Yba.prog 7 #[.pointer (some ⟨bi, 0, none⟩)] w fun e w' => e = .returned (.int .i64 (t - h - x)) ∧ ∃ n, w' = w.drewN n := by
  obtain ⟨it, c1, c2, c3, _, _, _, r1, r2, r3, r4, r5, r6, _⟩ := L
  go_enter Yba.func7, Yba.ntmps7
  go_wp2_with (go_at_call 10; refine (len_any bw 0 h t x _ ?_ ?_ ?_ r1 r2 r3 r4 r5 r6).mono ?_ <;> first | (rintro e w' ⟨rfl, n, rfl⟩) | simpa using c1 | simpa using c2 | simpa using c3)
  go_ret
  exact ⟨rfl, _, rfl⟩

theorem queued_any (bi bw : Nat) (h t x h' t' x' : Int) (w : World) (L : Laid w bi bw h t x h' t' x') :
    Calls Yba.prog 6 #[.pointer (some ⟨bi, 0, none⟩)] w fun e w' => e = .returned (.int .i64 ((t - h - x) + (t' - h' - x'))) ∧ ∃ n, w' = w.drewN n := by
  obtain ⟨it, c1, c2, c3, d1, d2, d3, r1, r2, r3, r4, r5, r6, s1, s2, s3, s4, s5, s6⟩ := L
  go_enter Yba.func6, Yba.ntmps6
  go_wp2_with fail
  go_quiet (first
    | (go_at_call_of 10 (Value.pointer (some ⟨bw, 0, none⟩)); exact Calls.quiet_of (len_any bw 0 h t x _ (by simpa using c1) (by simpa using c2) (by simpa using c3) r1 r2 r3 r4 r5 r6))
    | (go_at_call_of 10 (Value.pointer (some ⟨bw, 15, none⟩)); exact Calls.quiet_of (len_any bw 15 h' t' x' _ (by simpa using d1) (by simpa using d2) (by simpa using d3) s1 s2 s3 s4 s5 s6)))
  go_wp2
  go_ret
  exact ⟨rfl, _, rfl⟩

theorem grown_drewN {W w' : World} (h : Grown W w') (n : Nat) : Grown W (w'.drewN n) := h

/-! ### STEP 1: THE WALK: the Go text returns true. 'Grown w w'': the world has at most new blocks (Derived/RowKit3.lean). Part the cases AHEAD of 'go_enter' where a test parts the walk; take each callee by a contract of your own. -/
theorem walk (a0 : Bool) (a1 : Int) (a2 : Int) (a3 : Int) (a4 : Int) (a5 : Int) (a6 : Int) (w1 : (Lit.int .u8 a1).wf = true) (w2 : (Lit.int .u8 a2).wf = true) (w3 : (Lit.int .u8 a3).wf = true) (w4 : (Lit.int .u8 a4).wf = true) (w5 : (Lit.int .u8 a5).wf = true) (w6 : (Lit.int .u8 a6).wf = true) (w : World) :
    Calls Yba.prog 3 #[.bool a0, .int .u8 a1, .int .u8 a2, .int .u8 a3, .int .u8 a4, .int .u8 a5, .int .u8 a6] w fun e w' => e = .returned (.bool true) ∧ Grown w w' := by
  have b1 := bounds_u8 w1; have b2 := bounds_u8 w2; have b3 := bounds_u8 w3; have b4 := bounds_u8 w4; have b5 := bounds_u8 w5; have b6 := bounds_u8 w6
  clear w1 w2 w3 w4 w5 w6
  obtain ⟨b11, b12⟩ := b1; obtain ⟨b21, b22⟩ := b2; obtain ⟨b31, b32⟩ := b3; obtain ⟨b41, b42⟩ := b4; obtain ⟨b51, b52⟩ := b5; obtain ⟨b61, b62⟩ := b6
  cases a0
  · go_enter Yba.func3, Yba.ntmps3
    go_wp2
    go_ret
    exact ⟨rfl, by repeat (first | exact Grown.refl _ | apply Grown.drew | apply Grown.alloc)⟩
  · have e1 : (a1 + a2 + a3 - a1 - a3 + (a4 + a5 + a6 - a4 - a6) == a2 + a5) = true := by simp; omega
    have e2 : (a1 + a2 + a3 - a1 - a3 == a2) = true := by simp; omega
    have e3 : (a1 + a2 + a3 - a1 - a3 + (a4 + a5 + a6 - a4 - a6) - (a1 + a2 + a3 - a1 - a3) == a5) = true := by simp; omega
    go_enter Yba.func3, Yba.ntmps3
    go_wp2_with fail
    refine (queued_any w.heap.size (w.heap.size + 1) a1 (a1 + a2 + a3) a3 a4 (a4 + a5 + a6) a6 _ ?_).mono ?_
    · refine ⟨?_, ?_, ?_, ?_, ?_, ?_, ?_, by omega⟩ <;> simp [go_sem]
    rintro e w' ⟨rfl, n1, rfl⟩
    go_wp2_with fail
    refine (conv_any w.heap.size (w.heap.size + 1) a1 (a1 + a2 + a3) a3 a4 (a4 + a5 + a6) a6 _ ?_).mono ?_
    · refine ⟨?_, ?_, ?_, ?_, ?_, ?_, ?_, by omega⟩ <;> simp [go_sem]
    rintro e w' ⟨rfl, n2, rfl⟩
    go_wp2_with fail
    refine (conv_any w.heap.size (w.heap.size + 1) a1 (a1 + a2 + a3) a3 a4 (a4 + a5 + a6) a6 _ ?_).mono ?_
    · refine ⟨?_, ?_, ?_, ?_, ?_, ?_, ?_, by omega⟩ <;> simp [go_sem]
    rintro e w' ⟨rfl, n3, rfl⟩
    go_wp2
    go_ret
    exact ⟨rfl, grown_drewN (((Grown.refl w).alloc _ _).alloc _ _) _⟩

/-! ### THE ROW's STEP: WRITTEN OUT: LEAVE IT -/
set_option maxRecDepth 100000 in
theorem lifted (os : Os) (started : os.Started) (H : Type) (enc : TypeId × Value → H) :
    ReturnsInHanded {} Yba.checked os 3 .any (Rows.lawS1632AQueuedSpec.pre6 enc Yba.prog Yba.f3 Rows.lawS1632AQueuedRow.domain false) (Rows.lawS1632AQueuedSpec.post enc Yba.prog Yba.f3 false true false false) := by
  refine returnsInHanded_of_change (C := Yba.checked) own started (by kernel_rfl) Yba.func3
    (ChangeSpec.witness6 (enc := enc) (C := Yba.checked) false ⟨#[], #[.bool false, .int .u8 0, .int .u8 0, .int .u8 0, .int .u8 0, .int .u8 0, .int .u8 0], []⟩ 8 (by kernel_rfl) (by kernel_rfl) (by kernel_rfl) (by kernel_rfl)) ?_
  intro W base args ds gs before hval0 hW hcnd _
  have hval : ∀ (j : Nat) t v, Yba.f3.params[j]? = some t → args[j]? = some v → Value.okWide Yba.prog W .any base t v := hval0
  have hW' := hW
  obtain ⟨p, q, hA0, hV, rfl, hfz, hnd⟩ := hW
  have hA : DataW.TrodAll enc Yba.prog W 0 (fun _ => true) true Yba.f3.params.toList args.toList ds p := hA0
  rw [Yba.params3] at hA hval
  obtain ⟨v0, vs0, d0, ds0, p0, q0, hargs, rfl, rfl, h0, r0⟩ := trodAll_cons hA
  obtain ⟨v1, vs1, d1, ds1, p1, q1, rfl, rfl, rfl, h1, r1⟩ := trodAll_cons r0
  obtain ⟨v2, vs2, d2, ds2, p2, q2, rfl, rfl, rfl, h2, r2⟩ := trodAll_cons r1
  obtain ⟨v3, vs3, d3, ds3, p3, q3, rfl, rfl, rfl, h3, r3⟩ := trodAll_cons r2
  obtain ⟨v4, vs4, d4, ds4, p4, q4, rfl, rfl, rfl, h4, r4⟩ := trodAll_cons r3
  obtain ⟨v5, vs5, d5, ds5, p5, q5, rfl, rfl, rfl, h5, r5⟩ := trodAll_cons r4
  obtain ⟨v6, vs6, d6, ds6, p6, q6, rfl, rfl, rfl, h6, r6⟩ := trodAll_cons r5
  obtain ⟨rfl, rfl, rfl⟩ := trodAll_nil r6
  obtain rfl : args = #[v0, v1, v2, v3, v4, v5, v6] := by cases args; simp_all
  obtain ⟨rfl, rfl⟩ := trodVars_none hV
  obtain ⟨a0, rfl, rfl, rfl⟩ := open_bool Yba.underlying4 (hval 0 4 v0 rfl rfl) h0
  obtain ⟨a1, rfl, rfl, rfl, w1⟩ := open_int Yba.underlying5 (hval 1 5 v1 rfl rfl) h1
  obtain ⟨a2, rfl, rfl, rfl, w2⟩ := open_int Yba.underlying5 (hval 2 5 v2 rfl rfl) h2
  obtain ⟨a3, rfl, rfl, rfl, w3⟩ := open_int Yba.underlying5 (hval 3 5 v3 rfl rfl) h3
  obtain ⟨a4, rfl, rfl, rfl, w4⟩ := open_int Yba.underlying5 (hval 4 5 v4 rfl rfl) h4
  obtain ⟨a5, rfl, rfl, rfl, w5⟩ := open_int Yba.underlying5 (hval 5 5 v5 rfl rfl) h5
  obtain ⟨a6, rfl, rfl, rfl, w6⟩ := open_int Yba.underlying5 (hval 6 5 v6 rfl rfl) h6
  clear hA0 hval0
  simp only [List.append_nil] at hW'
  refine (walk a0 a1 a2 a3 a4 a5 a6 w1 w2 w3 w4 w5 w6 W).mono fun e W' ⟨he, hg⟩ => ?_
  subst he
  exact ⟨_, rfl, post_of_same (pa := []) (pv := []) hW' (fun _ _ _ => (trodAll_cons_mk (shut_bool Yba.underlying4 _) trodAll_mk0)) (fun sp _ => (trodAll_cons_mk (shut_bool Yba.underlying4 _) (trodAll_cons_mk (shut_int Yba.underlying5 w1) (trodAll_cons_mk (shut_int Yba.underlying5 w2) (trodAll_cons_mk (shut_int Yba.underlying5 w3) (trodAll_cons_mk (shut_int Yba.underlying5 w4) (trodAll_cons_mk (shut_int Yba.underlying5 w5) (trodAll_cons_mk (shut_int Yba.underlying5 w6) trodAll_mk0)))))))) (fun _ _ => rfl) rfl
    (hg.frame _) hg.2.1 (ok_one (by kernel_rfl) rfl (okWide_bool_mk Yba.underlying4 _))⟩

theorem over : Rows.lawS1632AQueuedRow.holds Yba.pinned (OpenSpec.ofChange Rows.lawS1632AQueuedSpec) :=
  OpenClaim.holds_of_wide 3 Yba.f3 rfl rfl rfl rfl rfl rfl rfl ⟨rfl, rfl, rfl, rfl, rfl⟩ rfl rfl rfl rfl rfl (by kernel_rfl) Yba.func3 (by kernel_rfl)
    (of_decide_eq_true (by kernel_rfl)) (by unfold Func.isWrapper; first | (rw [if_pos (by decide +kernel)]; kernel_rfl) | (rw [if_neg (by decide +kernel)]; exact ⟨rfl, rfl⟩))
    (fun os started H enc _ => lifted os started H enc)

/-- ████ THE STATEMENT ████ -/
theorem proved : Rows.LawS1632AQueuedSaid :=
  over
#print axioms proved
end Go.Proofs.Ybulkagtu.lawS1632AQueued
