/-
  'Rows.LawS1632BPlacesSaid': the row out of the walks (YbulkagtuPlacesLaw).
-/
import Derived.Test.YbulkagtuPlacesLaw
import Derived.ProofKit
import Derived.ShutString
import Derived.ChangeOld
import Derived.Below
import Derived.Deep.Slices
import Derived.Deep.Strs
namespace Go.Proofs.Ybulkagtu.lawS1632BPlaces
open Go.ChangeShapes Go.WideShapes Go.ChangeAt Go.RowKit Go.Deep
open Go.ChangeMaps (open_string shut_string)
set_option linter.unusedVariables false

theorem own : ownKnob Yba.prog.godebug = none := by kernel_rfl
theorem laidOut : laidOutB Yba.prog = true := by kernel_rfl
theorem cells48 : Yba.prog.cellsOf 48 = 3 := by kernel_rfl
theorem cells5 : Yba.prog.cellsOf 5 = 1 := by kernel_rfl
theorem cells3 : Yba.prog.cellsOf 3 = 1 := by kernel_rfl
theorem cells9 : Yba.prog.cellsOf 9 = 1 := by kernel_rfl

/-- One operation of the drawn history, read: three cells. -/
theorem open_op {H : Type} {enc : TypeId × Value → H} {w : World} {base : Nat} {spare : Nat → Bool} {held : Bool} {n : Nat} {a : Addr} {cs : List Value} {x : DataW H × List MemPlace}
    (hc : w.cells? base a 3 = some cs) (h : DataW.trod enc Yba.prog w base spare held n 48 cs = some x) :
    ∃ (p : Int × Int × ByteArray), w.cell? (a.add 0) = some (.int .u8 p.1) ∧ w.cell? (a.add 1) = some (.int .i64 p.2.1) ∧ w.cell? (a.add 2) = some (.string p.2.2) ∧ (Lit.int .i64 p.2.1).wf = true := by
  obtain ⟨_, hlen, hcell⟩ := World.cells?_some hc
  obtain ⟨y0, y1, y2, m, _, _, g0, g1, g2⟩ := trod_struct3 Yba.underlying48 h
  match cs, hlen with
  | [c0, c1, c2], _ =>
    simp only [cells5, cells3, cells9] at g0 g1 g2
    obtain ⟨k, e0, _, _⟩ := DataW.trod_int Yba.underlying5 g0
    obtain ⟨t, e1, _, w1⟩ := DataW.trod_int Yba.underlying3 g1
    obtain ⟨s, e2, _, _⟩ := DataW.trod_string Yba.underlying9 g2
    simp at e0 e1 e2
    subst e0 e1 e2
    exact ⟨(k, t, s), hcell 0 (by omega), hcell 1 (by omega), hcell 2 (by omega), w1⟩

theorem walk {H : Type} {enc : TypeId × Value → H} {base fuel : Nat} {held : Bool} {x : DataW H × List MemPlace} (a0 : Option Addr) (len0 cap0 : Nat) (w : World)
    (hf : DataW.trod enc Yba.prog w base (fun _ => true) held fuel 43 [.slice a0 len0 cap0] = some x) :
    Calls Yba.prog 4 #[.slice a0 len0 cap0] w fun e w' => e = .returned (.bool true) ∧ Below w.heap.size w w' := by
  rcases open_slice Yba.underlying43 hf with ⟨hcs, _⟩ | ⟨a, len, cap, m, n, D, Pl, hcs, _, hl, hm, hmm, _, hx⟩
  · simp at hcs
    obtain ⟨rfl, rfl, rfl⟩ := hcs
    exact Places.law_zero none 0 w
  · simp at hcs
    obtain ⟨rfl, rfl, rfl⟩ := hcs
    simp only [if_true] at hmm
    subst hmm
    by_cases h1 : 1024 < len0
    · exact Places.law_long _ _ _ w h1 (by omega)
    · by_cases h0 : len0 = 0
      · subst h0
        exact Places.law_zero _ _ w
      · rw [cells48] at hx
        obtain ⟨F, hF⟩ := choose_lt (α := Int × Int × ByteArray) (n := len0)
          (p := fun i p => w.cell? ((a.add (i * 3)).add 0) = some (.int .u8 p.1) ∧ w.cell? ((a.add (i * 3)).add 1) = some (.int .i64 p.2.1) ∧ w.cell? ((a.add (i * 3)).add 2) = some (.string p.2.2) ∧ (Lit.int .i64 p.2.1).wf = true)
          (fun i hi => by
            obtain ⟨cs', c1, c2⟩ := hx i (by omega)
            exact open_op c1 c2)
        obtain ⟨b, off, spot⟩ := a
        have hspot : spot = none := by
          have := World.cell?_spot (hF 0 (by omega)).1
          simpa [Addr.add] using this
        subst hspot
        have hb : b < w.heap.size := by
          have := World.block_lt_of_cell? w _ (hF 0 (by omega)).1
          simpa [Addr.add] using this
        exact Places.law_some b off len0 _ (fun i => (F i).2.1) (fun i => (F i).1) (fun i => (F i).2.2) w (by omega) hb
          (fun j hj => by have := (hF j hj).1; rw [add_add, add_plain] at this; simpa using this)
          (fun j hj => by have := (hF j hj).2.1; rw [add_add, add_plain] at this; simpa [Nat.add_assoc] using this)
          (fun j hj => by have := (hF j hj).2.2.1; rw [add_add, add_plain] at this; simpa [Nat.add_assoc] using this)
          (fun j hj => (hF j hj).2.2.2)

set_option maxRecDepth 100000 in
theorem lifted (os : Os) (started : os.Started) (H : Type) (enc : TypeId × Value → H) :
    ReturnsInHanded {} Yba.checked os 4 .any (Rows.lawS1632BPlacesSpec.pre6 enc Yba.prog Yba.f4 Rows.lawS1632BPlacesRow.domain false) (Rows.lawS1632BPlacesSpec.post enc Yba.prog Yba.f4 false true false false) := by
  refine returnsInHanded_of_change (C := Yba.checked) own started (by kernel_rfl) Yba.func4
    (ChangeSpec.witness6 (enc := enc) (C := Yba.checked) false ⟨#[], #[.slice none 0 0], []⟩ 8 (by kernel_rfl) (by kernel_rfl) (by kernel_rfl) (by kernel_rfl)) ?_
  intro W base args ds gs before hval0 hW hcnd _
  have hval : ∀ (j : Nat) t v, Yba.f4.params[j]? = some t → args[j]? = some v → Value.okWide Yba.prog W .any base t v := hval0
  have hW' := hW
  obtain ⟨p, q, hA0, hV, rfl, hfz, hnd⟩ := hW
  have hA : DataW.TrodAll enc Yba.prog W 0 (fun _ => true) true Yba.f4.params.toList args.toList ds p := hA0
  rw [Yba.params4] at hA hval
  obtain ⟨v0, vs0, d0, ds0, p0, q0, hargs, rfl, rfl, h0, r0⟩ := trodAll_cons hA
  obtain ⟨rfl, rfl, rfl⟩ := trodAll_nil r0
  obtain rfl : args = #[v0] := by cases args; simp_all
  obtain ⟨rfl, rfl⟩ := trodVars_none hV
  obtain ⟨a0, len0, cap0, rfl⟩ := okWide_slice Yba.underlying43 (hval 0 43 v0 rfl rfl)
  have k0 := h0
  have lt0 : ∀ x ∈ p0, x.block < W.heap.size := by obtain ⟨m, hm⟩ := k0; exact DataW.trod_lt m _ _ _ hm
  obtain ⟨fuel, hf⟩ := h0
  clear hA0 hval0
  refine (walk a0 len0 cap0 W (by simpa [Value.cells] using hf)).mono fun e W' ⟨he, bel⟩ => ?_
  subst he
  exact ⟨_, rfl, _, _, _, [], _, [], hW', trodAll_mk1 (shut_bool Yba.underlying4 _), (trodAll_cons_mk (Below.trod laidOut (by kernel_rfl) (of_decide_eq_true (by kernel_rfl)) k0 bel lt0) trodAll_mk0), rfl, bel.frame _, fun h => by cases h⟩

theorem over : Rows.lawS1632BPlacesRow.holds Yba.pinned (OpenSpec.ofChange Rows.lawS1632BPlacesSpec) :=
  OpenClaim.holds_of_wide 4 Yba.f4 rfl rfl rfl rfl rfl rfl rfl ⟨rfl, rfl, rfl, rfl, rfl⟩ rfl rfl rfl rfl rfl (by kernel_rfl) Yba.func4 (by kernel_rfl)
    (of_decide_eq_true (by kernel_rfl)) (by unfold Func.isWrapper; first | (rw [if_pos (by decide +kernel)]; kernel_rfl) | (rw [if_neg (by decide +kernel)]; exact ⟨rfl, rfl⟩))
    (fun os started H enc _ => lifted os started H enc)

/-- ████ THE STATEMENT ████ -/
theorem proved : Rows.LawS1632BPlacesSaid := over
#print axioms proved
end Go.Proofs.Ybulkagtu.lawS1632BPlaces
