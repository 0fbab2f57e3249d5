/-
  LawS1636BKeepsFields (function 4), walked over joinDamage's contract. Two walks of one make: the offsets' slice has an element (its address is known), or it has none.
-/
import Derived.Test.YbulkagvyJoin
import Derived.Deep.RegionHeld3
import Derived.BigQuiet
import Derived.LaidEql
namespace Go.Proofs.Ybulkagvy.Keeps
open Go.ChangeShapes Go.WideShapes Go.RowKit Go.Proofs.Ybulkagvy.Join
theorem assert33 (a : Option Addr) (w : World) : (Instr.typeAssert (.iface 43 (.pointer a)) 28 33 true).run Yba.prog w = .ok (.tuple #[.iface 43 (.pointer a), .bool true]) w := by kernel_rfl
theorem assert26 (a : Option Addr) (w : World) : (Instr.typeAssert (.iface 26 (.pointer a)) 28 26 true).run Yba.prog w = .ok (.tuple #[.pointer a, .bool true]) w := by kernel_rfl
theorem meth (a : Option Addr) (w : World) : (method 164 43 (.pointer a) "Unwrap").run Yba.prog w = .ok (25, .pointer a) w := by kernel_rfl
theorem info26 : (Yba.prog.info? 26).map (fun i => (i.zero, i.size, i.bytes)) = some (some (.pointer none), 1, 8) := by kernel_rfl
theorem make_p (n : Nat) (hn : n ≤ 1024) (w : World) : ∃ C : Array Value, C.size = n ∧ (Instr.makeSlice 23 (.int .i64 (n : Int)) (.int .i64 (n : Int))).run Yba.prog w = .ok (.slice (some ⟨w.heap.size, 0, none⟩) n n) (w.alloc (.cells C 26)) := by
  obtain ⟨i0, hi, hz0, hz1, hz2⟩ := info_parts info26
  have := run_make (P := Yba.prog) w 23 26 i0 _ Yba.underlying23 hi hz0 .i64 .i64 n n (by omega) (by omega) (by rw [hz2]; omega) (by omega)
  rw [hz1] at this
  simp only [Int.toNat_natCast, Nat.mul_one] at this
  exact ⟨_, size_madeCells _ _, this⟩

/-- BETWEEN TWO ROUNDS OF THE FIRST LOOP: the first k pointers lead to the first k regions, a block each. -/
structure Laid (w wr : World) (n k : Nat) (F : Nat → ByteArray) (T : Nat → Int) : Prop where
  row : ∃ cur : Array Value, wr.heap[w.heap.size]? = some (.cells cur 26) ∧ cur.size = n ∧ ∀ j, j < k → cur[j]? = some (.pointer (some ⟨w.heap.size + 1 + j, 0, none⟩))
  blk : ∀ j, j < k → wr.heap[w.heap.size + 1 + j]? = some (.cells #[.string (F j), .int .i64 (T j), .int .i64 j, .nilIface] 30)
  below : Below w.heap.size w wr
  size : wr.heap.size = w.heap.size + 1 + k

theorem laid_step {w wr : World} {n k : Nat} {F : Nat → ByteArray} {T : Nat → Int} (h : Laid w wr n k F T) (hk : k < n) {t : Int} (ht : t = T k) :
    Laid w ((wr.setCell ⟨w.heap.size, k, none⟩ (.pointer (some ⟨wr.heap.size, 0, none⟩))).alloc (.cells #[.string (F k), .int .i64 t, .int .i64 k, .nilIface] 30)) n (k + 1) F T := by
  subst ht
  obtain ⟨⟨cur, hc, hs, ho⟩, hblk, hb, hz⟩ := h
  have hz1 : (wr.setCell ⟨w.heap.size, k, none⟩ (.pointer (some ⟨wr.heap.size, 0, none⟩))).heap.size = w.heap.size + 1 + k := by simpa [World.setCell] using hz
  refine ⟨⟨cur.setIfInBounds k (.pointer (some ⟨wr.heap.size, 0, none⟩)), ?_, by simpa using hs, fun j hj => ?_⟩, fun j hj => ?_, (hb.setCell (Nat.le_refl _) _).alloc (by omega) _, ?_⟩
  · rw [Below.heap_alloc _ _ _ (by omega)]
    exact heap_setCell_same _ _ _ _ _ _ hc
  · rcases Nat.lt_or_ge j k with h | h
    · rw [Array.getElem?_setIfInBounds_ne (by omega)]; exact ho j h
    · obtain rfl : j = k := by omega
      rw [Array.getElem?_setIfInBounds_self_of_lt (by omega), hz]
  · rcases Nat.lt_or_ge j k with h | h
    · rw [Below.heap_alloc _ _ _ (by omega), Below.heap_setCell _ _ _ _ (by show w.heap.size + 1 + j ≠ w.heap.size; omega)]
      exact hblk j h
    · obtain rfl : j = k := by omega
      rw [← hz1]
      exact heap_alloc_new _ _
  · simp
    omega

set_option maxRecDepth 100000 in
set_option maxHeartbeats 1000000 in
theorem law_none (b off n cap : Nat) (ao : Option Addr) (mcap : Nat) (F : Nat → ByteArray) (T : Nat → Int) (w : World) (hn : n ≤ 1024) (h0 : 0 < n) (hb : b < w.heap.size)
    (hc0 : ∀ j, j < n → w.cell? ⟨b, off + j, none⟩ = some (.string (F j)))  (hT : ∀ j, ¬ j < 0 → T j = 0) :
    Calls Yba.prog 4 #[.slice (some ⟨b, off, none⟩) n cap, .slice ao 0 mcap] w fun e w' => e = .returned (.bool true) ∧ Below w.heap.size w w' := by
  obtain ⟨C, hC, hmk⟩ := make_p n hn w
  have hd : decide ((1024 : Int) < (n : Int)) = false := by simp; omega
  have HT : Hid (∀ j, ¬ j < 0 → T j = 0) := hT
  clear hT
  go_enter Yba.func4, Yba.ntmps4
  go_wp2_with fail
  go_loopw [6] (fun i wr => ∃ k : Nat, k ≤ n ∧ i = .int .i64 k ∧ Laid w wr n k F T) (fun i _ => n - (intOf i).toNat)
  case atStart => exact ⟨0, Nat.zero_le _, rfl, ⟨C, (MapKept.heap_alloc w _).1, hC, by omega⟩, by omega, (Below.refl _ _).alloc (Nat.le_refl _) _, by simp⟩
  case round =>
    obtain ⟨k, hk, rfl, hp⟩ := hrel
    have HP : Hid (Laid w wr n k F T) := hp
    obtain ⟨⟨cur, hcur, hsz, hold⟩, hblk, hnx, hws⟩ := hp
    by_cases hlt : k < n
    · have e0 : wr.cell? ⟨b, off + k, none⟩ = some (.string (F k)) := (hnx.cell (by exact hb)).trans (hc0 k hlt)
      obtain ⟨v0, t0⟩ : ∃ v, wr.cell? ⟨w.heap.size, k, none⟩ = some v := by rw [cell_of_row _ _ _ _ _ _ hcur]; exact ⟨_, Array.getElem?_eq_getElem (by omega)⟩
      have z0 : wr.frozen? ⟨w.heap.size, k, none⟩ = false := frozen_of_row _ _ _ _ _ hcur
      have hwl : w.heap.size < wr.heap.size := by omega
      have ta : ∀ o : Obj, (wr.alloc o).cell? ⟨w.heap.size, k, none⟩ = some v0 := fun o => (World.grownBy_alloc wr o Option.none).cell t0 (by simp)
      clear hcur hsz hold hblk hws hc0 hmk hC
      go_wp2_with fail
      go_roundw
      case rel => exact ⟨k + 1, by omega, by go_num, laid_step HP.out hlt (HT.out k (by omega)).symm⟩
      case measure => simp [intOf]; omega
    · obtain rfl : k = n := by omega
      clear hmk hC
      have hn0 : ((k : Int) == 0) = false := by simp; omega
      have h33 := assert33
      have h26 := assert26
      have hme := meth
      go_wp2_with fail
      refine (damage_some w.heap.size k (fun j => some ⟨w.heap.size + 1 + j, 0, none⟩) wr hn h0 (by omega) (fun j hj => by rw [cell_of_row _ _ _ _ _ _ hcur]; exact hold j hj)).mono ?_
      rintro e w2 ⟨rfl, hj⟩
      obtain ⟨⟨g, gcap, hje, hg⟩, hbel⟩ := hj
      have HB : Hid (Below w.heap.size w w2) := hnx.trans (hbel.mono (by omega))
      have HBK : Hid (∀ j, j < k → w2.heap[w.heap.size + 1 + j]? = some (.cells #[.string (F j), .int .i64 (T j), .int .i64 j, .nilIface] 30)) := fun j hj => (hbel.block _ (by omega)).trans (hblk j hj)
      clear hbel hcur hsz hold hblk hnx hws
      go_wp2_with fail
      refine (unwrap_any (wr.heap.size + 1 + 1) _ _ _ _ hje).mono ?_
      rintro e w3 ⟨rfl, rfl⟩
      go_wp2_with fail
      go_loopw [12] (fun i wx => ∃ (q : Nat) (d : Nat), q ≤ k ∧ i = .int .i64 q ∧ wx = w3.drewN d) (fun i _ => k - (intOf i).toNat)
      case atStart => exact ⟨0, 0, Nat.zero_le _, rfl, rfl⟩
      case round =>
        obtain ⟨q, d, hq, rfl, rfl⟩ := hrel
        by_cases hqk : q < k
        · have gq := hg q hqk
          have f0 : w3.cell? ⟨w.heap.size + 1 + q, 0, none⟩ = some (.string (F q)) := by rw [cell_of_row _ _ _ _ _ _ (HBK.out q hqk)]; rfl
          have f1 : w3.cell? ⟨w.heap.size + 1 + q, 1, none⟩ = some (.int .i64 (T q)) := by rw [cell_of_row _ _ _ _ _ _ (HBK.out q hqk)]; rfl
          have f2 : w3.cell? ⟨w.heap.size + 1 + q, 2, none⟩ = some (.int .i64 q) := by rw [cell_of_row _ _ _ _ _ _ (HBK.out q hqk)]; rfl
          have f3 : w3.cell? ⟨w.heap.size + 1 + q, 3, none⟩ = some .nilIface := by rw [cell_of_row _ _ _ _ _ _ (HBK.out q hqk)]; rfl
          have e0 : w3.cell? ⟨b, off + q, none⟩ = some (.string (F q)) := (HB.out.cell (by exact hb)).trans (hc0 q hqk)
          have hq0 : (0 : Int) ≤ (q : Int) := by omega
          have hq1 : (q : Int) < (k : Int) := by omega
          rw [HT.out q (by omega)] at f1
          clear hg hc0
          go_wp2_with fail
          go_quiet (fail)
          go_wp2
          go_roundw
          case rel => exact ⟨q + 1, _, by omega, by go_num, rfl⟩
          case measure => simp [intOf]; omega
        · go_wp2_with fail
          go_ret
          exact ⟨rfl, ⟨HB.out.os, HB.out.tape, HB.out.output, HB.out.size, HB.out.block⟩⟩

set_option maxRecDepth 100000 in
set_option maxHeartbeats 1000000 in
theorem law_some (b off n cap : Nat) (b2 off2 m mcap : Nat) (F : Nat → ByteArray) (T : Nat → Int) (w : World) (hn : n ≤ 1024) (h0 : 0 < n) (hb : b < w.heap.size)
    (hc0 : ∀ j, j < n → w.cell? ⟨b, off + j, none⟩ = some (.string (F j))) (hm : m ≤ maxLen) (hb2 : 0 < m → b2 < w.heap.size) (hd0 : ∀ j, j < m → w.cell? ⟨b2, off2 + j, none⟩ = some (.int .i64 (T j))) (hT : ∀ j, ¬ j < m → T j = 0) :
    Calls Yba.prog 4 #[.slice (some ⟨b, off, none⟩) n cap, .slice (some ⟨b2, off2, none⟩) m mcap] w fun e w' => e = .returned (.bool true) ∧ Below w.heap.size w w' := by
  obtain ⟨C, hC, hmk⟩ := make_p n hn w
  have hd : decide ((1024 : Int) < (n : Int)) = false := by simp; omega
  unfold maxLen at hm
  have HT : Hid (∀ j, ¬ j < m → T j = 0) := hT
  clear hT
  go_enter Yba.func4, Yba.ntmps4
  go_wp2_with fail
  go_loopw [6] (fun i wr => ∃ k : Nat, k ≤ n ∧ i = .int .i64 k ∧ Laid w wr n k F T) (fun i _ => n - (intOf i).toNat)
  case atStart => exact ⟨0, Nat.zero_le _, rfl, ⟨C, (MapKept.heap_alloc w _).1, hC, by omega⟩, by omega, (Below.refl _ _).alloc (Nat.le_refl _) _, by simp⟩
  case round =>
    obtain ⟨k, hk, rfl, hp⟩ := hrel
    have HP : Hid (Laid w wr n k F T) := hp
    obtain ⟨⟨cur, hcur, hsz, hold⟩, hblk, hnx, hws⟩ := hp
    by_cases hlt : k < n
    · have e0 : wr.cell? ⟨b, off + k, none⟩ = some (.string (F k)) := (hnx.cell (by exact hb)).trans (hc0 k hlt)
      obtain ⟨v0, t0⟩ : ∃ v, wr.cell? ⟨w.heap.size, k, none⟩ = some v := by rw [cell_of_row _ _ _ _ _ _ hcur]; exact ⟨_, Array.getElem?_eq_getElem (by omega)⟩
      have z0 : wr.frozen? ⟨w.heap.size, k, none⟩ = false := frozen_of_row _ _ _ _ _ hcur
      have hwl : w.heap.size < wr.heap.size := by omega
      have ta : ∀ o : Obj, (wr.alloc o).cell? ⟨w.heap.size, k, none⟩ = some v0 := fun o => (World.grownBy_alloc wr o Option.none).cell t0 (by simp)
      by_cases hkm : k < m
      · have e1 : wr.cell? ⟨b2, off2 + k, none⟩ = some (.int .i64 (T k)) := (hnx.cell (by exact hb2 (by omega))).trans (hd0 k hkm)
        clear hcur hsz hold hblk hws hc0 hd0 hmk hC
        go_wp2_with fail
        go_roundw
        case rel => exact ⟨k + 1, by omega, by go_num, laid_step HP.out hlt rfl⟩
        case measure => simp [intOf]; omega
      · clear hcur hsz hold hblk hws hc0 hd0 hmk hC
        go_wp2_with fail
        go_roundw
        case rel => exact ⟨k + 1, by omega, by go_num, laid_step HP.out hlt (HT.out k hkm).symm⟩
        case measure => simp [intOf]; omega
    · obtain rfl : k = n := by omega
      clear hmk hC
      have hn0 : ((k : Int) == 0) = false := by simp; omega
      have h33 := assert33
      have h26 := assert26
      have hme := meth
      go_wp2_with fail
      refine (damage_some w.heap.size k (fun j => some ⟨w.heap.size + 1 + j, 0, none⟩) wr hn h0 (by omega) (fun j hj => by rw [cell_of_row _ _ _ _ _ _ hcur]; exact hold j hj)).mono ?_
      rintro e w2 ⟨rfl, hj⟩
      obtain ⟨⟨g, gcap, hje, hg⟩, hbel⟩ := hj
      have HB : Hid (Below w.heap.size w w2) := hnx.trans (hbel.mono (by omega))
      have HBK : Hid (∀ j, j < k → w2.heap[w.heap.size + 1 + j]? = some (.cells #[.string (F j), .int .i64 (T j), .int .i64 j, .nilIface] 30)) := fun j hj => (hbel.block _ (by omega)).trans (hblk j hj)
      clear hbel hcur hsz hold hblk hnx hws
      go_wp2_with fail
      refine (unwrap_any (wr.heap.size + 1 + 1) _ _ _ _ hje).mono ?_
      rintro e w3 ⟨rfl, rfl⟩
      go_wp2_with fail
      go_loopw [12] (fun i wx => ∃ (q : Nat) (d : Nat), q ≤ k ∧ i = .int .i64 q ∧ wx = w3.drewN d) (fun i _ => k - (intOf i).toNat)
      case atStart => exact ⟨0, 0, Nat.zero_le _, rfl, rfl⟩
      case round =>
        obtain ⟨q, d, hq, rfl, rfl⟩ := hrel
        by_cases hqk : q < k
        · have gq := hg q hqk
          have f0 : w3.cell? ⟨w.heap.size + 1 + q, 0, none⟩ = some (.string (F q)) := by rw [cell_of_row _ _ _ _ _ _ (HBK.out q hqk)]; rfl
          have f1 : w3.cell? ⟨w.heap.size + 1 + q, 1, none⟩ = some (.int .i64 (T q)) := by rw [cell_of_row _ _ _ _ _ _ (HBK.out q hqk)]; rfl
          have f2 : w3.cell? ⟨w.heap.size + 1 + q, 2, none⟩ = some (.int .i64 q) := by rw [cell_of_row _ _ _ _ _ _ (HBK.out q hqk)]; rfl
          have f3 : w3.cell? ⟨w.heap.size + 1 + q, 3, none⟩ = some .nilIface := by rw [cell_of_row _ _ _ _ _ _ (HBK.out q hqk)]; rfl
          have e0 : w3.cell? ⟨b, off + q, none⟩ = some (.string (F q)) := (HB.out.cell (by exact hb)).trans (hc0 q hqk)
          have hq0 : (0 : Int) ≤ (q : Int) := by omega
          have hq1 : (q : Int) < (k : Int) := by omega
          by_cases hqm : q < m
          · have e1 : w3.cell? ⟨b2, off2 + q, none⟩ = some (.int .i64 (T q)) := (HB.out.cell (by exact hb2 (by omega))).trans (hd0 q hqm)
            clear hg hc0 hd0
            go_wp2_with fail
            go_quiet (fail)
            go_wp2
            go_roundw
            case rel => exact ⟨q + 1, _, by omega, by go_num, rfl⟩
            case measure => simp [intOf]; omega
          · rw [HT.out q hqm] at f1
            clear hg hc0 hd0
            go_wp2_with fail
            go_quiet (fail)
            go_wp2
            go_roundw
            case rel => exact ⟨q + 1, _, by omega, by go_num, rfl⟩
            case measure => simp [intOf]; omega
        · go_wp2_with fail
          go_ret
          exact ⟨rfl, ⟨HB.out.os, HB.out.tape, HB.out.output, HB.out.size, HB.out.block⟩⟩

set_option maxRecDepth 100000 in
theorem law_zero (a0 ao : Option Addr) (cap m mcap : Nat) (w : World) :
    Calls Yba.prog 4 #[.slice a0 0 cap, .slice ao m mcap] w fun e w' => e = .returned (.bool true) ∧ Below w.heap.size w w' := by
  obtain ⟨C, hC, hmk⟩ := make_p 0 (by omega) w
  simp only [Int.natCast_zero] at hmk
  go_enter Yba.func4, Yba.ntmps4
  go_wp2_with fail
  refine wp_loop_rounds 1 ?_
  rw [rounds_succ]
  go_wp2_with fail
  refine (damage_none _ _ _).mono ?_
  rintro e w2 ⟨rfl, hb2⟩
  have HB : Hid (Below w.heap.size w w2) := ((Below.refl _ _).alloc (Nat.le_refl _) _).trans (hb2.mono (by simp))
  clear hb2
  go_wp2_with fail
  go_ret
  exact ⟨rfl, HB.out⟩

set_option maxRecDepth 100000 in
theorem law_long (a0 ao : Option Addr) (n cap m mcap : Nat) (w : World) (hn : 1024 < n) (hm : n ≤ maxLen) :
    Calls Yba.prog 4 #[.slice a0 n cap, .slice ao m mcap] w fun e w' => e = .returned (.bool true) ∧ Below w.heap.size w w' := by
  unfold maxLen at hm
  go_enter Yba.func4, Yba.ntmps4
  go_wp2
  go_ret
  exact ⟨rfl, Below.refl _ _⟩

end Go.Proofs.Ybulkagvy.Keeps
