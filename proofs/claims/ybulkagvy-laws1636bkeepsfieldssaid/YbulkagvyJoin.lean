/-
  errors.Join (function 6), (*joinError).Unwrap (25) and joinDamage (5), walked: what joinDamage hands back wraps the very pointers that it was handed, in order.
-/
import Derived.Test.YbulkagvyRows
import Derived.WalkKit
import Derived.WalkSpells
import Derived.WalkLawsBesides
import Derived.Deep.AppendLies
namespace Go.Proofs.Ybulkagvy.Join
open Go.ChangeShapes Go.WideShapes Go.RowKit

theorem info28 : (Yba.prog.info? 28).map (fun i => (i.zero, i.size, i.bytes)) = some (some .nilIface, 1, 16) := by kernel_rfl

/-- The first k of the errors that are joined: one *Damage in an interface each. -/
def errs (p : Nat → Option Addr) (k : Nat) : List Value := (List.range k).map fun j => .iface 26 (.pointer (p j))
theorem errs_len (p : Nat → Option Addr) (k : Nat) : (errs p k).length = k := by simp [errs]
theorem errs_succ (p : Nat → Option Addr) (k : Nat) : errs p (k + 1) = errs p k ++ [.iface 26 (.pointer (p k))] := by simp [errs, List.range_succ]
theorem errs_get (p : Nat → Option Addr) {k j : Nat} (h : j < k) : (errs p k)[j]? = some (.iface 26 (.pointer (p j))) := by simp [errs, h]

theorem make_e (n : Nat) (hn : n ≤ 1024) (w : World) : ∃ C : Array Value, C.size = n * 1 ∧ (Instr.makeSlice 35 (.int .i64 0) (.int .i64 (n : Int))).run Yba.prog w = .ok (.slice (some ⟨w.heap.size, 0, none⟩) 0 n) (w.alloc (.cells C 28)) := by
  obtain ⟨i0, hi, hz0, hz1, hz2⟩ := info_parts info28
  have := run_make (P := Yba.prog) w 35 28 i0 _ Yba.underlying35 hi hz0 .i64 .i64 0 n (by omega) (by omega) (by rw [hz2]; omega) (by omega)
  rw [hz1] at this
  simp only [Int.toNat_natCast, Int.toNat_zero] at this
  exact ⟨_, size_madeCells _ _, this⟩

/-- BETWEEN TWO ROUNDS OF Join's SECOND LOOP: row N holds the first k errors; the joinError in block N + 1 points at it. -/
structure Inv (w wr : World) (p : Nat → Option Addr) (n k : Nat) : Prop where
  row : wr.ownsRow w.heap.size 28 1 (.slice (some ⟨w.heap.size, 0, none⟩) k n) k (errs p k)
  cell : wr.cell? ⟨w.heap.size + 1, 0, none⟩ = some (.slice (some ⟨w.heap.size, 0, none⟩) k n)
  fz : wr.frozen? ⟨w.heap.size + 1, 0, none⟩ = false
  below : Below w.heap.size w wr
  size : w.heap.size + 1 < wr.heap.size

theorem inv_step {w wr w1 : World} {p : Nat → Option Addr} {n q : Nat} {o : Obj} (h : Inv w wr p n q)
    (hown : w1.ownsRow w.heap.size 28 1 (.slice (some ⟨w.heap.size, 0, none⟩) (q + 1) n) (q + 1) (errs p q ++ [.iface 26 (.pointer (p q))])) (hg : (wr.alloc o).grownBy w1 (some w.heap.size))
    {u : Value} (f1 : w1.cell? ⟨w.heap.size + 1, 0, none⟩ = some u) (f2 : w1.frozen? ⟨w.heap.size + 1, 0, none⟩ = false) :
    Inv w (w1.setCell ⟨w.heap.size + 1, 0, none⟩ (.slice (some ⟨w.heap.size, 0, none⟩) (q + 1) n)) p n (q + 1) := by
  have hs := h.size
  have hg0 : wr.grownBy w1 (some w.heap.size) := (World.grownBy_alloc wr o _).trans hg
  have hsc : w1.grownBy (w1.setCell ⟨w.heap.size + 1, 0, none⟩ (.slice (some ⟨w.heap.size, 0, none⟩) (q + 1) n)) (some (w.heap.size + 1)) :=
    ⟨rfl, rfl, rfl, by simp [World.setCell], fun k _ hk => Below.heap_setCell _ _ _ k (fun e => hk (by rw [e]))⟩
  refine ⟨?_, World.cell?_setCell_same _ _ _ f1, ?_, ?_, ?_⟩
  · rw [errs_succ]
    exact hown.kept hsc (Or.inr (by simp [Value.ownBlock]))
  · rw [World.frozen?_setCell]; exact f2
  · exact (h.below.grown hg0 (by omega) (fun k hk => by cases hk; exact Nat.le_refl _)).setCell (by simp) _
  · have := hg0.size
    simp [World.setCell]
    omega

set_option maxRecDepth 100000 in
set_option maxHeartbeats 400000 in
theorem join_some (b n : Nat) (p : Nat → Option Addr) (w : World) (hn : n ≤ 1024) (h0 : 0 < n) (hb : b < w.heap.size) (hc : ∀ j, j < n → w.cell? ⟨b, j, none⟩ = some (.iface 26 (.pointer (p j)))) :
    Calls Yba.prog 6 #[.slice (some ⟨b, 0, none⟩) n n] w fun e w' => e = .returned (.iface 43 (.pointer (some ⟨w.heap.size + 1, 0, none⟩))) ∧ Inv w w' p n n := by
  obtain ⟨i0, hi, hz0, hz1, hz2⟩ := info_parts info28
  obtain ⟨C, hC, hmk⟩ := make_e n hn w
  have hn0 : ((n : Int) == 0) = false := by simp; omega
  go_enter Yba.func6, Yba.ntmps6
  go_wp2_with fail
  go_loop [3, 11] (fun c i => ∃ k : Nat, k ≤ n ∧ i = .int .i64 k ∧ c = .int .i64 k) (fun _ i => n - (intOf i).toNat)
  case atStart => exact ⟨0, Nat.zero_le _, rfl, rfl⟩
  case round =>
    obtain ⟨k, hk, rfl, rfl⟩ := hrel
    by_cases hlt : k < n
    · have ck := hc k hlt
      go_wp2_with fail
      go_round
      case rel => exact ⟨k + 1, by omega, by go_num, by go_num⟩
      case measure => simp [intOf]; omega
    · obtain rfl : k = n := by omega
      go_wp2_with fail
      go_loopw [28] (fun i wr => ∃ q : Nat, q ≤ k ∧ i = .int .i64 q ∧ Inv w wr p k q) (fun i _ => k - (intOf i).toNat)
      case atStart =>
        refine ⟨0, Nat.zero_le _, rfl, ?_, by simp [go_sem], by simp [go_sem], ((Below.refl _ _).alloc (Nat.le_refl _) _).alloc (by simp) _, by simp⟩
        exact (World.ownsRow_made w C k (Nat.le_refl _) (by unfold maxLen; omega) hC).alloc _
      case round =>
        obtain ⟨q, hq, rfl, hinv⟩ := hrel
        have HI : Hid (Inv w wr p k q) := hinv
        obtain ⟨hrow, hcell, hfz, hbel, hsz⟩ := hinv
        by_cases hqk : q < k
        · have cq : wr.cell? ⟨b, q, none⟩ = some (.iface 26 (.pointer (p q))) := (hbel.cell (by exact hb)).trans (hc q hqk)
          clear hc
          go_wp2_with (at_builtin; refine wpList_append_fits _ (by rfl) _ _ 35 (by rfl) w.heap.size 28 i0 1 Yba.underlying35 hi hz1 w.heap.size q k (errs p q) (by rfl) (hrow.alloc _) ⟨wr.heap.size, 0, none⟩ 1 1 [.iface 26 (.pointer (p q))] (by rfl) (by rfl) (cell_one_new _ _ _) (by simp [Value.oneCell']) (by omega) ?_; intro w1 hown1 hgrow1; have f1 := hgrow1.cell ((World.grownBy_alloc wr _ none).cell hcell (by simp)) (by simp); have f2 := (hgrow1.frozen_far ⟨w.heap.size + 1, 0, none⟩ (by simp; omega) (by simp)).trans ((World.frozen?_alloc_old _ _ _ (by simp; omega)).trans hfz))
          go_roundw
          case rel => exact ⟨q + 1, by omega, by go_num, inv_step HI.out hown1 hgrow1 f1 f2⟩
          case measure => simp [intOf]; omega
        · obtain rfl : q = k := by omega
          go_wp2_with fail
          go_ret
          exact ⟨rfl, HI.out⟩

set_option maxRecDepth 100000 in
theorem join_none (a : Option Addr) (cap : Nat) (w : World) :
    Calls Yba.prog 6 #[.slice a 0 cap] w fun e w' => e = .returned .nilIface ∧ w' = w := by
  go_enter Yba.func6, Yba.ntmps6
  go_wp2_with fail
  refine wp_loop_rounds 1 ?_
  rw [rounds_succ]
  go_wp2_with fail
  go_ret
  exact ⟨rfl, rfl⟩

/-- (*joinError).Unwrap. -/
theorem unwrap_any (b : Nat) (v : Option Addr) (n cap : Nat) (w : World) (hc : w.cell? ⟨b, 0, none⟩ = some (.slice v n cap)) :
    Calls Yba.prog 25 #[.pointer (some ⟨b, 0, none⟩)] w fun e w' => e = .returned (.slice v n cap) ∧ w' = w := by
  go_enter Yba.func25, Yba.ntmps25
  go_wp2
  go_ret
  exact ⟨rfl, rfl⟩

theorem make_n (n : Nat) (hn : n ≤ 1024) (w : World) : ∃ C : Array Value, C.size = n ∧ (Instr.makeSlice 35 (.int .i64 (n : Int)) (.int .i64 (n : Int))).run Yba.prog w = .ok (.slice (some ⟨w.heap.size, 0, none⟩) n n) (w.alloc (.cells C 28)) := by
  obtain ⟨i0, hi, hz0, hz1, hz2⟩ := info_parts info28
  have := run_make (P := Yba.prog) w 35 28 i0 _ Yba.underlying35 hi hz0 .i64 .i64 n n (by omega) (by omega) (by rw [hz2]; omega) (by omega)
  rw [hz1] at this
  simp only [Int.toNat_natCast, Nat.mul_one] at this
  exact ⟨_, size_madeCells _ _, this⟩

/-- The first k pointers are laid into the slice of errors. -/
def Put (w wr : World) (p : Nat → Option Addr) (n k : Nat) : Prop :=
  ∃ cur : Array Value, wr.heap[w.heap.size]? = some (.cells cur 28) ∧ cur.size = n ∧ (∀ j, j < k → cur[j]? = some (.iface 26 (.pointer (p j)))) ∧ Below w.heap.size w wr ∧ wr.heap.size = w.heap.size + 1
theorem put_step {w wr : World} {p : Nat → Option Addr} {n k : Nat} (h : Put w wr p n k) (hk : k < n) : Put w (wr.setCell ⟨w.heap.size, k, none⟩ (.iface 26 (.pointer (p k)))) p n (k + 1) := by
  obtain ⟨cur, hc, hs, ho, hb, hz⟩ := h
  refine ⟨cur.setIfInBounds k (.iface 26 (.pointer (p k))), heap_setCell_same _ _ _ _ _ _ hc, by simpa using hs, fun j hj => ?_, hb.setCell (Nat.le_refl _) _, by simpa [World.setCell] using hz⟩
  rcases Nat.lt_or_ge j k with h | h
  · rw [Array.getElem?_setIfInBounds_ne (by omega)]; exact ho j h
  · obtain rfl : j = k := by omega
    rw [Array.getElem?_setIfInBounds_self_of_lt (by omega)]

/-- WHAT joinDamage HANDS BACK where there is damage: a joinError whose slice holds the very pointers. -/
structure Joined (w w' : World) (p : Nat → Option Addr) (n E : Nat) : Prop where
  cell : ∃ g cap, w'.cell? ⟨E, 0, none⟩ = some (.slice (some ⟨g, 0, none⟩) n cap) ∧ ∀ j, j < n → w'.cell? ⟨g, j, none⟩ = some (.iface 26 (.pointer (p j)))
  below : Below w.heap.size w w'

set_option maxRecDepth 100000 in
set_option maxHeartbeats 400000 in
theorem damage_some (b n : Nat) (p : Nat → Option Addr) (w : World) (hn : n ≤ 1024) (h0 : 0 < n) (hb : b < w.heap.size) (hc : ∀ j, j < n → w.cell? ⟨b, j, none⟩ = some (.pointer (p j))) :
    Calls Yba.prog 5 #[.slice (some ⟨b, 0, none⟩) n n] w fun e w' => e = .returned (.iface 43 (.pointer (some ⟨w.heap.size + 1 + 1, 0, none⟩))) ∧ Joined w w' p n (w.heap.size + 1 + 1) := by
  obtain ⟨C, hC, hmk⟩ := make_n n hn w
  go_enter Yba.func5, Yba.ntmps5
  go_wp2_with fail
  go_loopw [11] (fun i wr => ∃ k : Nat, k ≤ n ∧ i = .int .i64 k ∧ Put w wr p n k) (fun i _ => n - (intOf i).toNat)
  case atStart => exact ⟨0, Nat.zero_le _, rfl, C, (MapKept.heap_alloc w _).1, hC, by omega, (Below.refl _ _).alloc (Nat.le_refl _) _, by simp⟩
  case round =>
    obtain ⟨k, hk, rfl, hput⟩ := hrel
    have HP : Hid (Put w wr p n k) := hput
    obtain ⟨cur, hcur, hsz, hold, hnx, hws⟩ := hput
    by_cases hlt : k < n
    · have ck : wr.cell? ⟨b, k, none⟩ = some (.pointer (p k)) := (hnx.cell (by exact hb)).trans (hc k hlt)
      obtain ⟨v0, t0⟩ : ∃ v, wr.cell? ⟨w.heap.size, k, none⟩ = some v := by rw [cell_of_row _ _ _ _ _ _ hcur]; exact ⟨_, Array.getElem?_eq_getElem (by omega)⟩
      have z0 : wr.frozen? ⟨w.heap.size, k, none⟩ = false := frozen_of_row _ _ _ _ _ hcur
      clear hcur hsz hws hold hc hmk hC
      go_wp2_with fail
      go_roundw
      case rel => exact ⟨k + 1, by omega, by go_num, put_step HP.out hlt⟩
      case measure => simp [intOf]; omega
    · obtain rfl : k = n := by omega
      clear hc hmk hC
      go_wp2_with fail
      refine (join_some w.heap.size k p wr hn h0 (by omega) (fun j hj => by rw [cell_of_row _ _ _ _ _ _ hcur]; exact hold j hj)).mono ?_
      rintro e w2 ⟨rfl, hinv⟩
      have HJ : Hid (Joined w w2 p k (wr.heap.size + 1)) := ⟨⟨_, _, hinv.cell, fun j hj => by rw [hinv.row.cellAt j (by omega)]; exact errs_get p hj⟩, hnx.trans (hinv.below.mono (by omega))⟩
      have HW : Hid (wr.heap.size = w.heap.size + 1) := hws
      clear hinv hcur hsz hold hws
      go_wp2_with fail
      go_ret
      refine ⟨?_, ?_⟩
      · show Ending.returned (.iface 43 (.pointer (some ⟨wr.heap.size + 1, 0, none⟩))) = _
        rw [HW.out]
      · rw [← HW.out]; exact HJ.out

set_option maxRecDepth 100000 in
theorem damage_none (a : Option Addr) (cap : Nat) (w : World) :
    Calls Yba.prog 5 #[.slice a 0 cap] w fun e w' => e = .returned .nilIface ∧ Below w.heap.size w w' := by
  obtain ⟨C, hC, hmk⟩ := make_n 0 (by omega) w
  simp only [Int.natCast_zero] at hmk
  go_enter Yba.func5, Yba.ntmps5
  go_wp2_with fail
  refine wp_loop_rounds 1 ?_
  rw [rounds_succ]
  go_wp2_with fail
  refine (join_none _ _ _).mono ?_
  rintro e w2 ⟨rfl, rfl⟩
  go_wp2_with fail
  go_ret
  exact ⟨rfl, (Below.refl _ _).alloc (Nat.le_refl _) _⟩

end Go.Proofs.Ybulkagvy.Join
