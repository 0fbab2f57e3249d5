/-
  'Rows.LawS1636BWrapsInOrderSaid': the row out of the walks (YbulkagvyWraps).
-/
import Derived.Test.YbulkagvyWraps
import Derived.ProofKit
import Derived.OpenShut
import Derived.ChangeOld
import Derived.Below
import Derived.Deep.Slices
namespace Go.Proofs.Ybulkagvy.lawS1636BWrapsInOrder
open Go.ChangeShapes Go.WideShapes Go.ChangeAt Go.RowKit Go.Deep
set_option linter.unusedVariables false

theorem own : ownKnob Yba.prog.godebug = none := by kernel_rfl
theorem laidOut : laidOutB Yba.prog = true := by kernel_rfl
theorem cells25 : Yba.prog.cellsOf 25 = 4 := by kernel_rfl
theorem cells9 : Yba.prog.cellsOf 9 = 1 := by kernel_rfl
theorem cells2 : Yba.prog.cellsOf 2 = 1 := by kernel_rfl
theorem cells4 : Yba.prog.cellsOf 4 = 1 := by kernel_rfl

/-- One drawn region, read: four cells. -/
theorem open_item {H : Type} {enc : TypeId × Value → H} {w : World} {base : Nat} {spare : Nat → Bool} {held : Bool} {n : Nat} {a : Addr} {cs : List Value} {x : DataW H × List MemPlace}
    (hc : w.cells? base a 4 = some cs) (h : DataW.trod enc Yba.prog w base spare held n 25 cs = some x) :
    ∃ (p : ByteArray × Int × Int × Bool), w.cell? (a.add 0) = some (.string p.1) ∧ w.cell? (a.add 1) = some (.int .i64 p.2.1) ∧ w.cell? (a.add 2) = some (.int .i64 p.2.2.1) ∧ w.cell? (a.add 3) = some (.bool p.2.2.2) := by
  obtain ⟨_, hlen, hcell⟩ := World.cells?_some hc
  obtain ⟨xs, m, _, _, _, hxl, hf⟩ := DataW.trod_struct Yba.underlying25 h
  match xs, hxl with
  | [y0, y1, y2, y3], _ =>
    match cs, hlen with
    | [c0, c1, c2, c3], _ =>
      have g0 : DataW.trod enc Yba.prog w base spare held m 9 (([c0, c1, c2, c3].drop 0).take (Yba.prog.cellsOf 9)) = some y0 := hf 0 _ rfl
      have g1 : DataW.trod enc Yba.prog w base spare held m 2 (([c0, c1, c2, c3].drop 1).take (Yba.prog.cellsOf 2)) = some y1 := hf 1 _ rfl
      have g2 : DataW.trod enc Yba.prog w base spare held m 2 (([c0, c1, c2, c3].drop 2).take (Yba.prog.cellsOf 2)) = some y2 := hf 2 _ rfl
      have g3 : DataW.trod enc Yba.prog w base spare held m 4 (([c0, c1, c2, c3].drop 3).take (Yba.prog.cellsOf 4)) = some y3 := hf 3 _ rfl
      rw [cells9] at g0
      rw [cells2] at g1 g2
      rw [cells4] at g3
      obtain ⟨s, e0, _, _⟩ := DataW.trod_string Yba.underlying9 g0
      obtain ⟨o, e1, _, _⟩ := DataW.trod_int Yba.underlying2 g1
      obtain ⟨z, e2, _, _⟩ := DataW.trod_int Yba.underlying2 g2
      obtain ⟨b, e3, _⟩ := DataW.trod_bool Yba.underlying4 g3
      simp at e0 e1 e2 e3
      subst e0 e1 e2 e3
      exact ⟨(s, o, z, b), hcell 0 (by omega), hcell 1 (by omega), hcell 2 (by omega), hcell 3 (by omega)⟩

theorem walk {H : Type} {enc : TypeId × Value → H} {base fuel : Nat} {held : Bool} {x : DataW H × List MemPlace} (a0 : Option Addr) (len0 cap0 : Nat) (w : World)
    (hf : DataW.trod enc Yba.prog w base (fun _ => true) held fuel 22 [.slice a0 len0 cap0] = some x) :
    Calls Yba.prog 3 #[.slice a0 len0 cap0] w fun e w' => e = .returned (.bool true) ∧ Below w.heap.size w w' := by
  rcases open_slice Yba.underlying22 hf with ⟨hcs, _⟩ | ⟨a, len, cap, m, n, D, Pl, hcs, _, hl, hm, hmm, _, hx⟩
  · simp at hcs
    obtain ⟨rfl, rfl, rfl⟩ := hcs
    exact Wraps.law_zero none 0 w
  · simp at hcs
    obtain ⟨rfl, rfl, rfl⟩ := hcs
    simp only [if_true] at hmm
    subst hmm
    by_cases h1 : 1024 < len0
    · exact Wraps.law_long _ _ _ w h1 (by omega)
    · by_cases h0 : len0 = 0
      · subst h0
        exact Wraps.law_zero _ _ w
      · rw [cells25] at hx
        obtain ⟨F, hF⟩ := choose_lt (α := ByteArray × Int × Int × Bool) (n := len0)
          (p := fun i p => w.cell? ((a.add (i * 4)).add 0) = some (.string p.1) ∧ w.cell? ((a.add (i * 4)).add 1) = some (.int .i64 p.2.1) ∧ w.cell? ((a.add (i * 4)).add 2) = some (.int .i64 p.2.2.1) ∧ w.cell? ((a.add (i * 4)).add 3) = some (.bool p.2.2.2))
          (fun i hi => by
            obtain ⟨cs', c1, c2⟩ := hx i (by omega)
            exact open_item c1 c2)
        obtain ⟨b, off, spot⟩ := a
        have hspot : spot = none := by
          have := World.cell?_spot (hF 0 (by omega)).1
          simpa [Addr.add] using this
        subst hspot
        have hb : b < w.heap.size := by
          have := World.block_lt_of_cell? w _ (hF 0 (by omega)).1
          simpa [Addr.add] using this
        exact Wraps.law_some b off len0 _ (fun i => (F i).1) (fun i => (F i).2.1) (fun i => (F i).2.2.1) (fun i => (F i).2.2.2) w (by omega) (by omega) hb
          (fun j hj => by have := (hF j hj).1; rw [add_add, add_plain] at this; simpa using this)
          (fun j hj => by have := (hF j hj).2.1; rw [add_add, add_plain] at this; simpa [Nat.add_assoc] using this)
          (fun j hj => by have := (hF j hj).2.2.1; rw [add_add, add_plain] at this; simpa [Nat.add_assoc] using this)
          (fun j hj => by have := (hF j hj).2.2.2; rw [add_add, add_plain] at this; simpa [Nat.add_assoc] using this)

set_option maxRecDepth 100000 in
theorem lifted (os : Os) (started : os.Started) (H : Type) (enc : TypeId × Value → H) :
    ReturnsInHanded {} Yba.checked os 3 .any (Rows.lawS1636BWrapsInOrderSpec.pre6 enc Yba.prog Yba.f3 Rows.lawS1636BWrapsInOrderRow.domain false) (Rows.lawS1636BWrapsInOrderSpec.post enc Yba.prog Yba.f3 false true false false) := by
  refine returnsInHanded_of_change (C := Yba.checked) own started (by kernel_rfl) Yba.func3
    (ChangeSpec.witness6 (enc := enc) (C := Yba.checked) false ⟨#[], #[.slice none 0 0], []⟩ 8 (by kernel_rfl) (by kernel_rfl) (by kernel_rfl) (by kernel_rfl)) ?_
  intro W base args ds gs before hval0 hW hcnd _
  have hval : ∀ (j : Nat) t v, Yba.f3.params[j]? = some t → args[j]? = some v → Value.okWide Yba.prog W .any base t v := hval0
  have hW' := hW
  obtain ⟨p, q, hA0, hV, rfl, hfz, hnd⟩ := hW
  have hA : DataW.TrodAll enc Yba.prog W 0 (fun _ => true) true Yba.f3.params.toList args.toList ds p := hA0
  rw [Yba.params3] at hA hval
  obtain ⟨v0, vs0, d0, ds0, p0, q0, hargs, rfl, rfl, h0, r0⟩ := trodAll_cons hA
  obtain ⟨rfl, rfl, rfl⟩ := trodAll_nil r0
  obtain rfl : args = #[v0] := by cases args; simp_all
  obtain ⟨rfl, rfl⟩ := trodVars_none hV
  obtain ⟨a0, len0, cap0, rfl⟩ := okWide_slice Yba.underlying22 (hval 0 22 v0 rfl rfl)
  have k0 := h0
  have lt0 : ∀ x ∈ p0, x.block < W.heap.size := by obtain ⟨m, hm⟩ := k0; exact DataW.trod_lt m _ _ _ hm
  obtain ⟨fuel, hf⟩ := h0
  clear hA0 hval0
  refine (walk a0 len0 cap0 W (by simpa [Value.cells] using hf)).mono fun e W' ⟨he, bel⟩ => ?_
  subst he
  exact ⟨_, rfl, _, _, _, [], _, [], hW', trodAll_mk1 (shut_bool Yba.underlying4 _), (trodAll_cons_mk (Below.trod laidOut (by kernel_rfl) (of_decide_eq_true (by kernel_rfl)) k0 bel lt0) trodAll_mk0), rfl, bel.frame _, fun h => by cases h⟩

theorem over : Rows.lawS1636BWrapsInOrderRow.holds Yba.pinned (OpenSpec.ofChange Rows.lawS1636BWrapsInOrderSpec) :=
  OpenClaim.holds_of_wide 3 Yba.f3 rfl rfl rfl rfl rfl rfl rfl ⟨rfl, rfl, rfl, rfl, rfl⟩ rfl rfl rfl rfl rfl (by kernel_rfl) Yba.func3 (by kernel_rfl)
    (of_decide_eq_true (by kernel_rfl)) (by unfold Func.isWrapper; first | (rw [if_pos (by decide +kernel)]; kernel_rfl) | (rw [if_neg (by decide +kernel)]; exact ⟨rfl, rfl⟩))
    (fun os started H enc _ => lifted os started H enc)

/-- ████ THE STATEMENT ████ -/
theorem proved : Rows.LawS1636BWrapsInOrderSaid := over
#print axioms proved
end Go.Proofs.Ybulkagvy.lawS1636BWrapsInOrder
