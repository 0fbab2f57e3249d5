/-
  placesByTxn (function 8), walked: the map that it makes holds, at each transaction number, the places at which it stands. The statement of its round is one region whose order Go leaves open (a look-up, a one-cell slice, an append, a store into the map): both orders come to one end.
-/
import Derived.Test.YbulkagtuRows
import Derived.Test.YbulkagtuPlacesGroups
import Derived.WalkKit
import Derived.WalkSpells
import Derived.OpenShut
import Derived.Deep.RegionHeld3
import Derived.Deep.AppendLies
namespace Go.Proofs.Ybulkagtu.Places
open Go.ChangeShapes Go.WideShapes Go.RowKit Go.Maps
theorem law : Keyed Yba.prog 3 := int_keyed Yba.underlying3
theorem info3 : (Yba.prog.info? 3).map (fun i => (i.zero, i.size, i.bytes)) = some (some (.int .i64 0), 1, 8) := by kernel_rfl
theorem zero53 (w : World) : (zeroValue 53).run Yba.prog w = .ok (.slice none 0 0) w := by kernel_rfl

theorem heap2 (w : World) (A B : Obj) : (((w.alloc A).alloc B).drew).heap[w.heap.size + 1]? = some B := by
  show ((w.alloc A).alloc B).heap[w.heap.size + 1]? = some B
  simpa using (MapKept.heap_alloc (w.alloc A) B).1
theorem grown2 {w w1 : World} {A B : Obj} {row : Option Nat} (h : (((w.alloc A).alloc B).drew).grownBy w1 row) : w.grownBy w1 row :=
  (World.grownBy_alloc w A row).trans ((World.grownBy_alloc _ B row).trans ⟨h.os, h.tape, h.output, h.size, h.block⟩)

set_option maxRecDepth 100000 in
set_option maxHeartbeats 400000 in
theorem places_any (b n : Nat) (f : Nat → Int) (kk : Nat → Int) (ss : Nat → ByteArray) (w : World) (hn : n ≤ 1024) (hb : b < w.heap.size)
    (hc0 : ∀ j, j < n → w.cell? ⟨b, j * 3, none⟩ = some (.int .u8 (kk j))) (hc1 : ∀ j, j < n → w.cell? ⟨b, j * 3 + 1, none⟩ = some (.int .i64 (f j))) (hc2 : ∀ j, j < n → w.cell? ⟨b, j * 3 + 2, none⟩ = some (.string (ss j)))
    (hwf : ∀ j, j < n → (Lit.int .i64 (f j)).wf = true) :
    Calls Yba.prog 8 #[.slice (some ⟨b, 0, none⟩) n n] w fun e w' => e = .returned (.map (some w.heap.size)) ∧ Below w.heap.size w w' ∧ ∃ D, w'.ownsGroups Yba.prog 3 (w.heap.size + 1) 3 .i64 w.heap.size n D ∧ Says f n D := by
  have hmm := @run_makeMap Yba.prog
  obtain ⟨i0, hi, hz0, hz1, hz2⟩ := info_parts info3
  go_enter Yba.func8, Yba.ntmps8
  go_wp2
  go_loopw [9] (fun i wr => ∃ (k : Nat) (D : DataW Unit), k ≤ n ∧ i = .int .i64 k ∧ wr.ownsGroups Yba.prog 3 (w.heap.size + 1) 3 .i64 w.heap.size k D ∧ Says f k D ∧ Below w.heap.size w wr ∧ w.heap.size + 1 ≤ wr.heap.size)
    (fun i _ => n - (intOf i).toNat)
  case atStart => exact ⟨0, _, Nat.zero_le _, rfl, World.ownsGroups_made _ _ _ _ _, says_start f, (Below.refl _ _).alloc (Nat.le_refl _) _, by simp⟩
  case round =>
    obtain ⟨k, D, hk, rfl, hown, hsays, hnx, hws⟩ := hrel
    by_cases hlt : k < n
    · have e0 : wr.cell? ⟨b, k * 3, none⟩ = some (.int .u8 (kk k)) := (hnx.cell (by exact hb)).trans (hc0 k hlt)
      have e1 : wr.cell? ⟨b, k * 3 + 1, none⟩ = some (.int .i64 (f k)) := (hnx.cell (by exact hb)).trans (hc1 k hlt)
      have e2 : wr.cell? ⟨b, k * 3 + 2, none⟩ = some (.string (ss k)) := (hnx.cell (by exact hb)).trans (hc2 k hlt)
      go_wp2_with fail
      have hkey : keyOf Yba.prog 3 (.int .i64 (f k)) = some (.int .i64 (f k)) := keyOf_int_mk Yba.underlying3 (hwf k hlt)
      obtain ⟨v, zs, hrun, hat, hoi, hzl, hback⟩ := hown.at law Yba.underlying51 (zero53 _) (by unfold maxLen; omega) hkey
      have Hzs : Hid (zs = idx f k (f k)) := says_zs hsays hoi hat
      have Hbl : Hid (w.heap.size < wr.heap.size) := by show w.heap.size < wr.heap.size; omega
      have Hne2 : Hid ((some wr.heap.size : Option Nat) ≠ some w.heap.size) := by intro e1; simp at e1; omega
      have hvne : v.ownBlock ≠ some wr.heap.size := fun e1 => by have := (hoi.1.lt _ e1).2; omega
      have hl1 := look_same (w' := (wr.alloc (Obj.cells #[Value.int IntKind.u8 (kk k), Value.int IntKind.i64 (f k), Value.string (ss k)] 50)).drew) hown law Yba.underlying51 zero53 hkey hrun (Below.heap_alloc _ _ _ (by omega))
      have hl2 := look_same (w' := ((wr.alloc (Obj.cells #[Value.int IntKind.u8 (kk k), Value.int IntKind.i64 (f k), Value.string (ss k)] 50)).alloc (Obj.cells #[Value.int IntKind.i64 k] 3)).drew) hown law Yba.underlying51 zero53 hkey hrun ((Below.heap_alloc _ _ _ (by simp; omega)).trans (Below.heap_alloc _ _ _ (by omega)))
      clear hrun
      have HB : Hid _ := hback; clear hback
      have HA : Hid _ := hat; clear hat
      have HO : Hid _ := hown; clear hown
      clear hc0 hc1 hc2 e0 e1 e2 hwf hmm
      go_region_held3 (fun w' => w'.cell? ⟨wr.heap.size, 1, none⟩ = some (.int .i64 (f k)))
        (first | go_keep | exact hgrow2.cell (by assumption) Hne2.out | exact hgrow.cell (by assumption) (Ne.symm hvne))
        ((refine step_append_lies _ (by rfl) _ _ _ (by rfl) (w.heap.size + 1) 3 i0 _ 1 8 Yba.underlying53 hi hz0 hz1 hz2 rfl (by omega) v zs.length (zs.map (Value.int .i64)) (by rfl) (((hoi.1.alloc _).alloc _).drew)
            ⟨wr.heap.size + 1, 0, none⟩ 1 1 [.int .i64 k] (by rfl) (by rfl) (World.news_of_block (cs := #[.int .i64 k]) (t := 3) (fr := (0, 0)) (heap2 wr _ _)) (by simp [Value.oneCell'])
            (by omega) (by unfold maxLen; omega) (by omega) (by simp; omega) (wr.heap.size + 2) (by simp) ?_; intro gg cap w1 hown1 hgrow hat1 hlt1
          obtain ⟨w2, hup, hown2, hgrow2⟩ := HB.out w1 (.slice (some ⟨gg, 0, none⟩) (zs.length + 1) cap) (zs ++ [(k : Int)]) (grown2 hgrow) (hoi.appended hown1 (WalkArith.wf_i64 (by omega))) (by simp; omega) (hat1.elim (fun h => Or.inl h.symm) (fun h => Or.inr ⟨gg, rfl, by omega⟩))
          ))
      all_goals
        go_wp2
        go_roundw
        case rel =>
          refine ⟨k + 1, _, by omega, by go_num, hown2, ?_, hnx.groups hoi (grown2 hgrow) hgrow2 hnx.size (Nat.le_succ _) (Nat.le_refl _), Nat.le_trans hws (Nat.le_trans (grown2 hgrow).size hgrow2.size)⟩
          rw [(hoi.appended hown1 (WalkArith.wf_i64 (by omega))).datum_pos (by simp), Hzs.out]
          exact says_step hsays
        case measure => simp [intOf]; omega
    · have : k = n := by omega
      subst this
      go_wp2
      go_ret
      exact ⟨rfl, hnx, D, hown, hsays⟩

/-- WHAT THE LAW WANTS OF THE MAP in block B: at each number that occurs, a slice of the call's own that holds the places; how many keys there are. -/
def Found (f : Nat → Int) (n B : Nat) (w : World) : Prop :=
  (∀ i, i < n → ∃ g cap, (Instr.lookup 51 (.map (some B)) (.int .i64 (f i)) true).run Yba.prog w = .ok (.tuple #[.slice (some ⟨g, 0, none⟩) (idx f n (f i)).length cap, .bool true]) w ∧
    ∀ k, k < (idx f n (f i)).length → w.cell? ⟨g, k, none⟩ = some (.int .i64 ((idx f n (f i))[k]?.getD 0))) ∧
  ∀ ty, (Builtin.len_ #[51] ty #[.map (some B)]).run Yba.prog w = .ok (.int .i64 (distinct f n)) w

theorem found_of {f : Nat → Int} {n base B m : Nat} {w : World} {D : DataW Unit} (hwf : ∀ j, j < n → (Lit.int .i64 (f j)).wf = true) (h : w.ownsGroups Yba.prog 3 base 3 .i64 B m D) (hs : Says f n D) : Found f n B w := by
  refine ⟨fun i hi => ?_, fun ty => by rw [groupsLen h Yba.underlying51 ty, hs.size']⟩
  obtain ⟨v, zs, hrun, hat, ho⟩ := atBoth h law Yba.underlying51 (zero53 _) (keyOf_int_mk Yba.underlying3 (hwf i hi))
  obtain rfl := says_zs hs ho hat
  have hne : idx f n (f i) ≠ [] := idx_ne_nil f hi rfl
  have hpos : 0 < (idx f n (f i)).length := List.length_pos_iff.2 hne
  obtain ⟨g, cap, hv, _, _⟩ := ho.1.form hpos
  subst hv
  refine ⟨g, cap, by rw [hrun, hs.has']; simp [hne], fun k hk => ?_⟩
  rw [ho.1.cellAt k (by omega)]
  simp [List.getElem?_eq_getElem hk]

end Go.Proofs.Ybulkagtu.Places
