/-
  LawS1636BWrapsInOrder (function 3), walked over joinDamage's contract.
-/
import Derived.Test.YbulkagvyJoin
import Derived.Deep.RegionHeld3
import Derived.LaidEql
namespace Go.Proofs.Ybulkagvy.Wraps
open Go.ChangeShapes Go.WideShapes Go.RowKit Go.Proofs.Ybulkagvy.Join
theorem assert33 (a : Option Addr) (w : World) : (Instr.typeAssert (.iface 43 (.pointer a)) 28 33 true).run Yba.prog w = .ok (.tuple #[.iface 43 (.pointer a), .bool true]) w := by kernel_rfl
theorem assert26 (a : Option Addr) (w : World) : (Instr.typeAssert (.iface 26 (.pointer a)) 28 26 true).run Yba.prog w = .ok (.tuple #[.pointer a, .bool true]) w := by kernel_rfl
theorem info26 : (Yba.prog.info? 26).map (fun i => (i.zero, i.size, i.bytes)) = some (some (.pointer none), 1, 8) := by kernel_rfl
theorem made_ptr (n j : Nat) (h : j < n) : (madeCells (Value.pointer none).cells n)[j]? = some (.pointer none) := by
  simp [madeCells, Value.cells, h, Nat.mod_one]
theorem make_p (n : Nat) (hn : n ≤ 1024) (w : World) : ∃ C : Array Value, C.size = n ∧ (∀ j, j < n → C[j]? = some (.pointer none)) ∧ (Instr.makeSlice 23 (.int .i64 (n : Int)) (.int .i64 (n : Int))).run Yba.prog w = .ok (.slice (some ⟨w.heap.size, 0, none⟩) n n) (w.alloc (.cells C 26)) := by
  obtain ⟨i0, hi, hz0, hz1, hz2⟩ := info_parts info26
  have := run_make (P := Yba.prog) w 23 26 i0 _ Yba.underlying23 hi hz0 .i64 .i64 n n (by omega) (by omega) (by rw [hz2]; omega) (by omega)
  rw [hz1] at this
  simp only [Int.toNat_natCast, Nat.mul_one] at this
  exact ⟨_, size_madeCells _ _, made_ptr n, this⟩

/-- The slice of n pointers in block N. -/
structure Ptrs (w wr : World) (n : Nat) : Prop where
  row : ∃ cur : Array Value, wr.heap[w.heap.size]? = some (.cells cur 26) ∧ cur.size = n ∧ ∀ j, j < n → ∃ a, cur[j]? = some (.pointer a)
  below : Below w.heap.size w wr
  size : w.heap.size < wr.heap.size

theorem ptrs_step {w wr : World} {n k : Nat} (h : Ptrs w wr n) (a : Option Addr) (o : Obj) : Ptrs w ((wr.setCell ⟨w.heap.size, k, none⟩ (.pointer a)).alloc o).drew n := by
  obtain ⟨⟨cur, hc, hs, ho⟩, hb, hz⟩ := h
  have hz1 : w.heap.size < (wr.setCell ⟨w.heap.size, k, none⟩ (.pointer a)).heap.size := by simpa [World.setCell] using hz
  refine ⟨⟨cur.setIfInBounds k (.pointer a), ?_, by simpa using hs, fun j hj => ?_⟩, ((hb.setCell (Nat.le_refl _) _).alloc (by omega) o).drew, ?_⟩
  · show ((wr.setCell ⟨w.heap.size, k, none⟩ (.pointer a)).alloc o).heap[w.heap.size]? = _
    rw [Below.heap_alloc _ _ _ hz1]
    exact heap_setCell_same _ _ _ _ _ _ hc
  · by_cases e : k = j
    · subst e
      exact ⟨a, by rw [Array.getElem?_setIfInBounds_self_of_lt (by omega)]⟩
    · rw [Array.getElem?_setIfInBounds_ne e]; exact ho j hj
  · show w.heap.size < ((wr.setCell ⟨w.heap.size, k, none⟩ (.pointer a)).alloc o).heap.size
    simp
    omega

theorem ptrs_fn {w wr : World} {n : Nat} (h : Ptrs w wr n) : ∃ p : Nat → Option Addr, ∀ j, j < n → wr.cell? ⟨w.heap.size, j, none⟩ = some (.pointer (p j)) := by
  obtain ⟨⟨cur, hc, hs, ho⟩, _, _⟩ := h
  refine ⟨fun j => match cur[j]? with | some (.pointer a) => a | _ => none, fun j hj => ?_⟩
  obtain ⟨a, ha⟩ := ho j hj
  rw [cell_of_row _ _ _ _ _ _ hc, ha]
  simp only [ha]

theorem meth (a : Option Addr) (w : World) : (method 164 43 (.pointer a) "Unwrap").run Yba.prog w = .ok (25, .pointer a) w := by kernel_rfl
theorem siz30 : (Yba.prog.info? 30).map (fun i => i.size) = some 4 := by kernel_rfl
theorem some_of_map {α β : Type} {f : α → β} {o : Option α} {b : β} (h : o.map f = some b) : ∃ a, o = some a ∧ f a = b := by
  cases o with
  | none => cases h
  | some a => exact ⟨a, rfl, by simpa using h⟩
theorem neq_any (p : Option Addr) (w : World) : (binOp .neq 26 (.pointer p) (.pointer p)).run Yba.prog w = .ok (.bool false) w := by
  obtain ⟨j, hj, _⟩ := some_of_map siz30
  have h : ∀ d : Nat, (Op.equalIn (d + 1) 26 (.pointer p) (.pointer p)).run Yba.prog w = .ok true w := fun d => by
    cases p with
    | none => simp [Op.equalIn, run_underlying Yba.underlying26]
    | some a => simp [Op.equalIn, run_underlying Yba.underlying26, sizeOf, typeInfo, hj, run_sameAddr_same]
  simp only [binOp]
  simp [Op.equal, Op.maxDepth, h 9999]

set_option maxRecDepth 100000 in
set_option maxHeartbeats 400000 in
theorem law_some (b off n cap : Nat) (F : Nat → ByteArray) (O S : Nat → Int) (N : Nat → Bool) (w : World) (hn : n ≤ 1024) (h0 : 0 < n) (hb : b < w.heap.size)
    (hc0 : ∀ j, j < n → w.cell? ⟨b, off + j * 4, none⟩ = some (.string (F j))) (hc1 : ∀ j, j < n → w.cell? ⟨b, off + j * 4 + 1, none⟩ = some (.int .i64 (O j))) (hc2 : ∀ j, j < n → w.cell? ⟨b, off + j * 4 + 2, none⟩ = some (.int .i64 (S j)))
    (hc3 : ∀ j, j < n → w.cell? ⟨b, off + j * 4 + 3, none⟩ = some (.bool (N j))) :
    Calls Yba.prog 3 #[.slice (some ⟨b, off, none⟩) n cap] w fun e w' => e = .returned (.bool true) ∧ Below w.heap.size w w' := by
  obtain ⟨C, hC, hC0, hmk⟩ := make_p n hn w
  have hd : decide ((1024 : Int) < (n : Int)) = false := by simp; omega
  go_enter Yba.func3, Yba.ntmps3
  go_wp2_with fail
  go_loopw [4] (fun i wr => ∃ k : Nat, k ≤ n ∧ i = .int .i64 k ∧ Ptrs w wr n) (fun i _ => n - (intOf i).toNat)
  case atStart => exact ⟨0, Nat.zero_le _, rfl, ⟨C, (MapKept.heap_alloc w _).1, hC, fun j hj => ⟨none, hC0 j hj⟩⟩, (Below.refl _ _).alloc (Nat.le_refl _) _, by simp⟩
  case round =>
    obtain ⟨k, hk, rfl, hp⟩ := hrel
    have HP : Hid (Ptrs w wr n) := hp
    obtain ⟨⟨cur, hcur, hsz, hold⟩, hnx, hws⟩ := hp
    by_cases hlt : k < n
    · have hk0 : (0 : Int) ≤ (k : Int) := by omega
      have hk1 : (k : Int) < (n : Int) := by omega
      have e0 : wr.cell? ⟨b, off + k * 4, none⟩ = some (.string (F k)) := (hnx.cell (by exact hb)).trans (hc0 k hlt)
      have e1 : wr.cell? ⟨b, off + k * 4 + 1, none⟩ = some (.int .i64 (O k)) := (hnx.cell (by exact hb)).trans (hc1 k hlt)
      have e2 : wr.cell? ⟨b, off + k * 4 + 2, none⟩ = some (.int .i64 (S k)) := (hnx.cell (by exact hb)).trans (hc2 k hlt)
      have e3 : wr.cell? ⟨b, off + k * 4 + 3, none⟩ = some (.bool (N k)) := (hnx.cell (by exact hb)).trans (hc3 k hlt)
      have hne : b ≠ w.heap.size := by omega
      have hne' : w.heap.size ≠ b := by omega
      obtain ⟨v0, t0⟩ : ∃ v, wr.cell? ⟨w.heap.size, k, none⟩ = some v := by rw [cell_of_row _ _ _ _ _ _ hcur]; exact ⟨_, Array.getElem?_eq_getElem (by omega)⟩
      have z0 : wr.frozen? ⟨w.heap.size, k, none⟩ = false := frozen_of_row _ _ _ _ _ hcur
      have n0 : wr.heap.size ≠ w.heap.size := by omega
      have n1 : w.heap.size ≠ wr.heap.size := by omega
      have n2 : wr.heap.size ≠ b := by omega
      clear hcur hsz hold hc0 hc1 hc2 hc3 hmk hC hC0
      cases hN : N k
      · rw [hN] at e3
        clear hN
        go_wp2_with fail
        go_region_held3 (fun w' => w'.cell? ⟨b, off + k * 4, none⟩ = some (.string (F k)) ∧ w'.cell? ⟨b, off + k * 4 + 1, none⟩ = some (.int .i64 (O k)) ∧ w'.cell? ⟨b, off + k * 4 + 2, none⟩ = some (.int .i64 (S k)))
          (go_keep) (fail)
        go_wp2
        go_roundw
        case rel => exact ⟨k + 1, by omega, by go_num, ptrs_step HP.out _ _⟩
        case measure => simp [intOf]; omega
      · rw [hN] at e3
        clear hN
        go_wp2_with fail
        go_roundw
        case rel => exact ⟨k + 1, by omega, by go_num, HP.out⟩
        case measure => simp [intOf]; omega
    · obtain rfl : k = n := by omega
      obtain ⟨p, hpc⟩ := ptrs_fn HP.out
      clear hcur hsz hold hc0 hc1 hc2 hc3 hmk hC hC0
      have hn0 : ((k : Int) == 0) = false := by simp; omega
      have h33 := assert33
      have h26 := assert26
      have hneq := neq_any
      have hme := meth
      go_wp2_with fail
      refine (damage_some w.heap.size k p wr hn h0 hws hpc).mono ?_
      rintro e w2 ⟨rfl, hj⟩
      obtain ⟨⟨g, gcap, hje, hg⟩, hbel⟩ := hj
      have HB : Hid (Below w.heap.size w w2) := hnx.trans (hbel.mono (by omega))
      have hd2 : ∀ j, j < k → w2.cell? ⟨w.heap.size, j, none⟩ = some (.pointer (p j)) := fun j hj => (hbel.cell (by exact hws)).trans (hpc j hj)
      clear hpc hbel
      go_wp2_with fail
      refine (unwrap_any (wr.heap.size + 1 + 1) _ _ _ _ hje).mono ?_
      rintro e w3 ⟨rfl, rfl⟩
      go_wp2_with fail
      go_loop [9] (fun i => ∃ q : Nat, q ≤ k ∧ i = .int .i64 q) (fun i => k - (intOf i).toNat)
      case atStart => exact ⟨0, Nat.zero_le _, rfl⟩
      case round =>
        obtain ⟨q, hq, rfl⟩ := hrel
        by_cases hqk : q < k
        · have gq := hg q hqk
          have dq := hd2 q hqk
          clear hg hd2
          go_wp2_with fail
          go_round
          case rel => exact ⟨q + 1, by omega, by go_num⟩
          case measure => simp [intOf]; omega
        · go_wp2_with fail
          go_ret
          exact ⟨rfl, HB.out⟩

set_option maxRecDepth 100000 in
theorem law_zero (a0 : Option Addr) (cap : Nat) (w : World) :
    Calls Yba.prog 3 #[.slice a0 0 cap] w fun e w' => e = .returned (.bool true) ∧ Below w.heap.size w w' := by
  obtain ⟨C, hC, hC0, hmk⟩ := make_p 0 (by omega) w
  simp only [Int.natCast_zero] at hmk
  go_enter Yba.func3, Yba.ntmps3
  go_wp2_with fail
  refine wp_loop_rounds 1 ?_
  rw [rounds_succ]
  go_wp2_with fail
  refine (damage_none _ _ _).mono ?_
  rintro e w2 ⟨rfl, hb2⟩
  have HB : Hid (Below w.heap.size w w2) := ((Below.refl _ _).alloc (Nat.le_refl _) _).trans (hb2.mono (by simp))
  clear hb2
  go_wp2_with fail
  go_ret
  exact ⟨rfl, HB.out⟩

set_option maxRecDepth 100000 in
theorem law_long (a0 : Option Addr) (n cap : Nat) (w : World) (hn : 1024 < n) (hm : n ≤ maxLen) :
    Calls Yba.prog 3 #[.slice a0 n cap] w fun e w' => e = .returned (.bool true) ∧ Below w.heap.size w w' := by
  unfold maxLen at hm
  go_enter Yba.func3, Yba.ntmps3
  go_wp2
  go_ret
  exact ⟨rfl, Below.refl _ _⟩

end Go.Proofs.Ybulkagvy.Wraps
