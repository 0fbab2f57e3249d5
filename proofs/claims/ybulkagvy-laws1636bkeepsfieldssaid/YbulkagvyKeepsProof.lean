/-
  'Rows.LawS1636BKeepsFieldsSaid': the row out of the walks (YbulkagvyKeeps).
-/
import Derived.Test.YbulkagvyKeeps
import Derived.ProofKit
import Derived.OpenShut
import Derived.ChangeOld
import Derived.Below
import Derived.Deep.Slices
import Derived.Deep.Strs
namespace Go.Proofs.Ybulkagvy.lawS1636BKeepsFields
open Go.ChangeShapes Go.WideShapes Go.ChangeAt Go.RowKit Go.Deep
set_option linter.unusedVariables false

theorem own : ownKnob Yba.prog.godebug = none := by kernel_rfl
theorem laidOut : laidOutB Yba.prog = true := by kernel_rfl
theorem cells9 : Yba.prog.cellsOf 9 = 1 := by kernel_rfl
theorem cells2 : Yba.prog.cellsOf 2 = 1 := by kernel_rfl

/-- The offset that the law lays at place j. -/
def offAt (m : Nat) (Z : Nat → Int) (j : Nat) : Int := if j < m then Z j else 0

theorem walk {H : Type} {enc : TypeId × Value → H} {base fuel fuel1 : Nat} {held : Bool} {x y : DataW H × List MemPlace} (a0 a1 : Option Addr) (len0 cap0 len1 cap1 : Nat) (w : World)
    (hf : DataW.trod enc Yba.prog w base (fun _ => true) held fuel 39 [.slice a0 len0 cap0] = some x) (hf1 : DataW.trod enc Yba.prog w base (fun _ => true) held fuel1 40 [.slice a1 len1 cap1] = some y) :
    Calls Yba.prog 4 #[.slice a0 len0 cap0, .slice a1 len1 cap1] w fun e w' => e = .returned (.bool true) ∧ Below w.heap.size w w' := by
  rcases open_strs Yba.underlying39 Yba.underlying9 cells9 hf with ⟨hcs, _⟩ | ⟨a, len, cap, m, Sx, hcs, _, hl, hm, hmm, _, hx⟩
  · simp at hcs
    obtain ⟨rfl, rfl, rfl⟩ := hcs
    exact Keeps.law_zero none a1 0 len1 cap1 w
  · simp at hcs
    obtain ⟨rfl, rfl, rfl⟩ := hcs
    simp only [if_true] at hmm
    subst hmm
    by_cases h1 : 1024 < len0
    · exact Keeps.law_long _ _ _ _ _ _ w h1 (by omega)
    · by_cases h0 : len0 = 0
      · subst h0
        exact Keeps.law_zero _ _ _ _ _ w
      · obtain ⟨b, off, spot⟩ := a
        have hspot : spot = none := by
          have := World.cell?_spot (hx 0 (by omega)).1
          simpa [Addr.add] using this
        subst hspot
        have hb : b < w.heap.size := by
          have := World.block_lt_of_cell? w _ (hx 0 (by omega)).1
          simpa [Addr.add] using this
        have hc0 : ∀ j, j < len0 → w.cell? ⟨b, off + j, none⟩ = some (.string (Sx j)) := fun j hj => by
          rw [← add_plain]; exact (hx j (by omega)).1
        rcases open_slice1 Yba.underlying40 cells2 hf1 with ⟨hcs, _⟩ | ⟨a', len', cap', m', n', V, D, Pl, hcs, _, hl', hm', hmm', _, hx'⟩
        · simp at hcs
          obtain ⟨rfl, rfl, rfl⟩ := hcs
          exact Keeps.law_none b off len0 _ none 0 Sx (fun _ => 0) w (by omega) (by omega) hb hc0 (fun _ _ => rfl)
        · simp at hcs
          obtain ⟨rfl, rfl, rfl⟩ := hcs
          simp only [if_true] at hmm'
          subst hmm'
          by_cases h2 : len1 = 0
          · subst h2
            exact Keeps.law_none b off len0 _ _ _ Sx (fun _ => 0) w (by omega) (by omega) hb hc0 (fun _ _ => rfl)
          · obtain ⟨Z, hZ⟩ := choose_lt (α := Int) (n := len1) (p := fun i z => w.cell? (a'.add i) = some (.int .i64 z)) (fun i hi => by
              obtain ⟨c1, c2⟩ := hx' i (by omega)
              obtain ⟨z, ez, _, _⟩ := DataW.trod_int Yba.underlying2 c2
              simp at ez
              exact ⟨z, by rw [c1, ez]⟩)
            obtain ⟨b2, off2, spot2⟩ := a'
            have hspot2 : spot2 = none := by
              have := World.cell?_spot (hZ 0 (by omega))
              simpa [Addr.add] using this
            subst hspot2
            have hb2 : b2 < w.heap.size := by
              have := World.block_lt_of_cell? w _ (hZ 0 (by omega))
              simpa [Addr.add] using this
            exact Keeps.law_some b off len0 _ b2 off2 len1 _ Sx (offAt len1 Z) w (by omega) (by omega) hb hc0 (by omega) (fun _ => hb2)
              (fun j hj => by rw [← add_plain, hZ j hj]; simp [offAt, hj]) (fun j hj => by simp [offAt, hj])

set_option maxRecDepth 100000 in
theorem lifted (os : Os) (started : os.Started) (H : Type) (enc : TypeId × Value → H) :
    ReturnsInHanded {} Yba.checked os 4 .any (Rows.lawS1636BKeepsFieldsSpec.pre6 enc Yba.prog Yba.f4 Rows.lawS1636BKeepsFieldsRow.domain false) (Rows.lawS1636BKeepsFieldsSpec.post enc Yba.prog Yba.f4 false true false false) := by
  refine returnsInHanded_of_change (C := Yba.checked) own started (by kernel_rfl) Yba.func4
    (ChangeSpec.witness6 (enc := enc) (C := Yba.checked) false ⟨#[], #[.slice none 0 0, .slice none 0 0], []⟩ 8 (by kernel_rfl) (by kernel_rfl) (by kernel_rfl) (by kernel_rfl)) ?_
  intro W base args ds gs before hval0 hW hcnd _
  have hval : ∀ (j : Nat) t v, Yba.f4.params[j]? = some t → args[j]? = some v → Value.okWide Yba.prog W .any base t v := hval0
  have hW' := hW
  obtain ⟨p, q, hA0, hV, rfl, hfz, hnd⟩ := hW
  have hA : DataW.TrodAll enc Yba.prog W 0 (fun _ => true) true Yba.f4.params.toList args.toList ds p := hA0
  rw [Yba.params4] at hA hval
  obtain ⟨v0, vs0, d0, ds0, p0, q0, hargs, rfl, rfl, h0, r0⟩ := trodAll_cons hA
  obtain ⟨v1, vs1, d1, ds1, p1, q1, rfl, rfl, rfl, h1, r1⟩ := trodAll_cons r0
  obtain ⟨rfl, rfl, rfl⟩ := trodAll_nil r1
  obtain rfl : args = #[v0, v1] := by cases args; simp_all
  obtain ⟨rfl, rfl⟩ := trodVars_none hV
  obtain ⟨a0, len0, cap0, rfl⟩ := okWide_slice Yba.underlying39 (hval 0 39 v0 rfl rfl)
  obtain ⟨a1, len1, cap1, rfl⟩ := okWide_slice Yba.underlying40 (hval 1 40 v1 rfl rfl)
  have k0 := h0
  have k1 := h1
  have lt0 : ∀ x ∈ p0, x.block < W.heap.size := by obtain ⟨m, hm⟩ := k0; exact DataW.trod_lt m _ _ _ hm
  have lt1 : ∀ x ∈ p1, x.block < W.heap.size := by obtain ⟨m, hm⟩ := k1; exact DataW.trod_lt m _ _ _ hm
  obtain ⟨fuel, hf⟩ := h0
  obtain ⟨fuel1, hf1⟩ := h1
  clear hA0 hval0
  refine (walk a0 a1 len0 cap0 len1 cap1 W (by simpa [Value.cells] using hf) (by simpa [Value.cells] using hf1)).mono fun e W' ⟨he, bel⟩ => ?_
  subst he
  exact ⟨_, rfl, _, _, _, [], _, [], hW', trodAll_mk1 (shut_bool Yba.underlying4 _),
    (trodAll_cons_mk (Below.trod laidOut (by kernel_rfl) (of_decide_eq_true (by kernel_rfl)) k0 bel lt0) (trodAll_cons_mk (Below.trod laidOut (by kernel_rfl) (of_decide_eq_true (by kernel_rfl)) k1 bel lt1) trodAll_mk0)), rfl, bel.frame _, fun h => by cases h⟩

theorem over : Rows.lawS1636BKeepsFieldsRow.holds Yba.pinned (OpenSpec.ofChange Rows.lawS1636BKeepsFieldsSpec) :=
  OpenClaim.holds_of_wide 4 Yba.f4 rfl rfl rfl rfl rfl rfl rfl ⟨rfl, rfl, rfl, rfl, rfl⟩ rfl rfl rfl rfl rfl (by kernel_rfl) Yba.func4 (by kernel_rfl)
    (of_decide_eq_true (by kernel_rfl)) (by unfold Func.isWrapper; first | (rw [if_pos (by decide +kernel)]; kernel_rfl) | (rw [if_neg (by decide +kernel)]; exact ⟨rfl, rfl⟩))
    (fun os started H enc _ => lifted os started H enc)

/-- ████ THE STATEMENT ████ -/
theorem proved : Rows.LawS1636BKeepsFieldsSaid := over
#print axioms proved
end Go.Proofs.Ybulkagvy.lawS1636BKeepsFields
