/-
  LawS1632BPlaces (function 4), walked over the contract of placesByTxn.
-/
import Derived.Test.YbulkagtuPlacesMake
import Derived.Deep.DrawnRows
namespace Go.Proofs.Ybulkagtu.Places
open Go.ChangeShapes Go.WideShapes Go.RowKit Go.Maps

theorem info50 : (Yba.prog.info? 50).map (fun i => (i.zero, i.size, i.bytes)) = some (some (.agg #[.int .u8 0, .int .i64 0, .string ByteArray.empty]), 3, 32) := by kernel_rfl

theorem make_h (n : Nat) (hn : n ≤ 1024) (w : World) : ∃ C : Array Value, C.size = n * 3 ∧ (Instr.makeSlice 45 (.int .i64 (n : Int)) (.int .i64 (n : Int))).run Yba.prog w = .ok (.slice (some ⟨w.heap.size, 0, none⟩) n n) (w.alloc (.cells C 50)) := by
  obtain ⟨i0, hi, hz0, hz1, hz2⟩ := info_parts info50
  have := run_make (P := Yba.prog) w 45 50 i0 _ Yba.underlying45 hi hz0 .i64 .i64 n n (by omega) (by omega) (by rw [hz2]; omega) (by omega)
  rw [hz1] at this
  simp only [Int.toNat_natCast] at this
  exact ⟨_, size_madeCells _ _, this⟩

theorem no_step {f : Nat → Int} {p : Nat} {t : Int} (h : ∀ j', j' < p → f j' ≠ t) (he : f p ≠ t) : ∀ j', j' < p + 1 → f j' ≠ t := fun j' hj' => by
  rcases Nat.lt_or_ge j' p with h' | h'
  · exact h j' h'
  · obtain rfl : j' = p := by omega
    exact he
theorem distinct_hit {f : Nat → Int} {p q : Nat} (h : p < q) (e : f p = f q) : distinct f (q + 1) = distinct f q := by
  rw [distinct, if_neg (idx_ne_nil f h e)]; omega
theorem distinct_new {f : Nat → Int} {q : Nat} (h : idx f q (f q) = []) : distinct f (q + 1) = distinct f q + 1 := by
  rw [distinct, if_pos h]

/-- THE FIRST k OPERATIONS ARE COPIED. -/
def Copied (w wr : World) (n k : Nat) (f kk : Nat → Int) (ss : Nat → ByteArray) : Prop :=
  ∃ cur : Array Value, wr.heap[w.heap.size]? = some (.cells cur 50) ∧ cur.size = n * 3 ∧ (∀ j, j < k → cur[j * 3]? = some (.int .u8 (kk j)) ∧ cur[j * 3 + 1]? = some (.int .i64 (f j)) ∧ cur[j * 3 + 2]? = some (.string (ss j))) ∧
    Below w.heap.size w wr ∧ wr.heap.size = w.heap.size + 1

theorem copied_step {w wr : World} {n k : Nat} {f kk : Nat → Int} {ss : Nat → ByteArray} {cur : Array Value} (hcur : wr.heap[w.heap.size]? = some (.cells cur 50)) (hsz : cur.size = n * 3) (hlt : k < n)
    (hold : ∀ j, j < k → cur[j * 3]? = some (.int .u8 (kk j)) ∧ cur[j * 3 + 1]? = some (.int .i64 (f j)) ∧ cur[j * 3 + 2]? = some (.string (ss j))) (hnx : Below w.heap.size w wr) (hws : wr.heap.size = w.heap.size + 1) :
    Copied w (((wr.setCell ⟨w.heap.size, k * 3, none⟩ (.int .u8 (kk k))).setCell ⟨w.heap.size, k * 3 + 1, none⟩ (.int .i64 (f k))).setCell ⟨w.heap.size, k * 3 + 2, none⟩ (.string (ss k))).drew n (k + 1) f kk ss := by
  refine ⟨((cur.setIfInBounds (k * 3) (.int .u8 (kk k))).setIfInBounds (k * 3 + 1) (.int .i64 (f k))).setIfInBounds (k * 3 + 2) (.string (ss k)), ?_, by simpa using hsz, fun j hj => ?_, ?_, ?_⟩
  · exact heap_setCell_same _ _ _ _ _ _ (heap_setCell_same _ _ _ _ _ _ (heap_setCell_same _ _ _ _ _ _ hcur))
  · rcases Nat.lt_or_ge j k with h | h
    · obtain ⟨h0, h1, h2⟩ := hold j h
      refine ⟨?_, ?_, ?_⟩
      · rw [Array.getElem?_setIfInBounds_ne (by omega), Array.getElem?_setIfInBounds_ne (by omega), Array.getElem?_setIfInBounds_ne (by omega)]; exact h0
      · rw [Array.getElem?_setIfInBounds_ne (by omega), Array.getElem?_setIfInBounds_ne (by omega), Array.getElem?_setIfInBounds_ne (by omega)]; exact h1
      · rw [Array.getElem?_setIfInBounds_ne (by omega), Array.getElem?_setIfInBounds_ne (by omega), Array.getElem?_setIfInBounds_ne (by omega)]; exact h2
    · obtain rfl : j = k := by omega
      refine ⟨?_, ?_, ?_⟩
      · rw [Array.getElem?_setIfInBounds_ne (by omega), Array.getElem?_setIfInBounds_ne (by omega), Array.getElem?_setIfInBounds_self_of_lt (by omega)]
      · rw [Array.getElem?_setIfInBounds_ne (by omega), Array.getElem?_setIfInBounds_self_of_lt (by simp; omega)]
      · rw [Array.getElem?_setIfInBounds_self_of_lt (by simp; omega)]
  · exact (((hnx.setCell (Nat.le_refl _) _).setCell (Nat.le_refl _) _).setCell (Nat.le_refl _) _).drew
  · simpa [World.setCell] using hws

set_option maxRecDepth 100000 in
set_option maxHeartbeats 400000 in
theorem law_some (b off n cap : Nat) (f kk : Nat → Int) (ss : Nat → ByteArray) (w : World) (hn : n ≤ 1024) (hb : b < w.heap.size)
    (hc0 : ∀ j, j < n → w.cell? ⟨b, off + j * 3, none⟩ = some (.int .u8 (kk j))) (hc1 : ∀ j, j < n → w.cell? ⟨b, off + j * 3 + 1, none⟩ = some (.int .i64 (f j))) (hc2 : ∀ j, j < n → w.cell? ⟨b, off + j * 3 + 2, none⟩ = some (.string (ss j)))
    (hwf : ∀ j, j < n → (Lit.int .i64 (f j)).wf = true) :
    Calls Yba.prog 4 #[.slice (some ⟨b, off, none⟩) n cap] w fun e w' => e = .returned (.bool true) ∧ Below w.heap.size w w' := by
  obtain ⟨C, hC, hmk⟩ := make_h n hn w
  have hd : decide ((1024 : Int) < (n : Int)) = false := by simp; omega
  go_enter Yba.func4, Yba.ntmps4
  go_wp2_with fail
  go_loopw [23] (fun i wr => ∃ k : Nat, k ≤ n ∧ i = .int .i64 k ∧ Copied w wr n k f kk ss) (fun i _ => n - (intOf i).toNat)
  case atStart => exact ⟨0, Nat.zero_le _, rfl, C, (MapKept.heap_alloc w _).1, hC, by omega, (Below.refl _ _).alloc (Nat.le_refl _) _, by simp⟩
  case round =>
    obtain ⟨k, hk, rfl, hcop⟩ := hrel
    by_cases hlt : k < n
    · obtain ⟨cur, hcur, hsz, hold, hnx, hws⟩ := hcop
      have hk0 : (0 : Int) ≤ (k : Int) := by omega
      have hk1 : (k : Int) < (n : Int) := by omega
      have e0 : wr.cell? ⟨b, off + k * 3, none⟩ = some (.int .u8 (kk k)) := (hnx.cell (by exact hb)).trans (hc0 k hlt)
      have e1 : wr.cell? ⟨b, off + k * 3 + 1, none⟩ = some (.int .i64 (f k)) := (hnx.cell (by exact hb)).trans (hc1 k hlt)
      have e2 : wr.cell? ⟨b, off + k * 3 + 2, none⟩ = some (.string (ss k)) := (hnx.cell (by exact hb)).trans (hc2 k hlt)
      have hne : b ≠ w.heap.size := by omega
      have hne' : w.heap.size ≠ b := by omega
      obtain ⟨v0, t0⟩ : ∃ v, wr.cell? ⟨w.heap.size, k * 3, none⟩ = some v := by rw [cell_of_row _ _ _ _ _ _ hcur]; exact ⟨_, Array.getElem?_eq_getElem (by omega)⟩
      obtain ⟨v1, t1⟩ : ∃ v, wr.cell? ⟨w.heap.size, k * 3 + 1, none⟩ = some v := by rw [cell_of_row _ _ _ _ _ _ hcur]; exact ⟨_, Array.getElem?_eq_getElem (by omega)⟩
      obtain ⟨v2, t2⟩ : ∃ v, wr.cell? ⟨w.heap.size, k * 3 + 2, none⟩ = some v := by rw [cell_of_row _ _ _ _ _ _ hcur]; exact ⟨_, Array.getElem?_eq_getElem (by omega)⟩
      have z0 : wr.frozen? ⟨w.heap.size, k * 3, none⟩ = false := frozen_of_row _ _ _ _ _ hcur
      have z1 : wr.frozen? ⟨w.heap.size, k * 3 + 1, none⟩ = false := frozen_of_row _ _ _ _ _ hcur
      have z2 : wr.frozen? ⟨w.heap.size, k * 3 + 2, none⟩ = false := frozen_of_row _ _ _ _ _ hcur
      have HC : Hid (wr.heap[w.heap.size]? = some (.cells cur 50)) := hcur
      have HS : Hid (cur.size = n * 3) := hsz
      have HW : Hid (wr.heap.size = w.heap.size + 1) := hws
      have HO : Hid (∀ j, j < k → cur[j * 3]? = some (.int .u8 (kk j)) ∧ cur[j * 3 + 1]? = some (.int .i64 (f j)) ∧ cur[j * 3 + 2]? = some (.string (ss j))) := hold
      clear hcur hsz hws hold hc0 hc1 hc2 hwf hmk hC
      go_wp2_with fail
      go_region_held3 (fun w' => w'.cell? ⟨b, off + k * 3, none⟩ = some (.int .u8 (kk k)) ∧ w'.cell? ⟨b, off + k * 3 + 1, none⟩ = some (.int .i64 (f k)) ∧ w'.cell? ⟨b, off + k * 3 + 2, none⟩ = some (.string (ss k)))
        (go_keep) (fail)
      go_wp2
      go_roundw
      case rel => exact ⟨k + 1, by omega, by go_num, copied_step HC.out HS.out hlt HO.out hnx HW.out⟩
      case measure => simp [intOf]; omega
    · obtain rfl : k = n := by omega
      obtain ⟨cur, hcur, hsz, hold, hnx, hws⟩ := hcop
      clear hmk hC hc0 hc1 hc2
      go_wp2_with fail
      refine (places_any w.heap.size k f kk ss wr hn (by omega) (fun j hj => by rw [cell_of_row _ _ _ _ _ _ hcur]; exact (hold j hj).1) (fun j hj => by rw [cell_of_row _ _ _ _ _ _ hcur]; exact (hold j hj).2.1) (fun j hj => by rw [cell_of_row _ _ _ _ _ _ hcur]; exact (hold j hj).2.2) hwf).mono ?_
      rintro e w2 ⟨rfl, hb2, D, hog, hsy⟩
      have HB : Hid (Below w.heap.size w w2) := hnx.trans (hb2.mono (by omega))
      have HF : Hid (Found f k wr.heap.size w2) := found_of hwf hog hsy
      have hc : ∀ j, j < k → w2.cell? ⟨w.heap.size, j * 3 + 1, none⟩ = some (.int .i64 (f j)) := fun j hj => by rw [hb2.cell (by show w.heap.size < wr.heap.size; omega), cell_of_row _ _ _ _ _ _ hcur]; exact (hold j hj).2.1
      clear hcur hsz hold hnx hws hb2 hog hsy hwf
      have hnil := fun (x : World) (r : Option Nat) => run_eql_map_nil (P := Yba.prog) x 51 3 53 r Yba.underlying51
      go_wp2_with fail
      generalize wr.heap.size = B at *
      go_loop [6, 52] (fun d i => ∃ q : Nat, q ≤ k ∧ i = .int .i64 q ∧ d = .int .i64 (distinct f q)) (fun _ i => k - (intOf i).toNat)
      case atStart => exact ⟨0, Nat.zero_le _, rfl, rfl⟩
      case round =>
        obtain ⟨q, hq, rfl, rfl⟩ := hrel
        have hdl := distinct_le f q
        by_cases hqk : q < k
        · have cq := hc q hqk
          go_wp2_with fail
          go_loop [9, 10] (fun fi j => ∃ p : Nat, p ≤ q ∧ j = .int .i64 p ∧ fi = .bool true ∧ ∀ j', j' < p → f j' ≠ f q) (fun _ j => q - (intOf j).toNat)
          case atStart => exact ⟨0, Nat.zero_le _, rfl, rfl, by omega⟩
          case round =>
            obtain ⟨p, hp, rfl, rfl, hno⟩ := hrel
            by_cases hpq : p < q
            · have cp := hc p (by omega)
              by_cases he : f p = f q
              · have heb : (f p == f q) = true := by simpa using he
                have HE : Hid (f p = f q) := he
                clear he
                go_wp2_with fail
                go_round
                case rel => exact ⟨q + 1, by omega, by go_num, by rw [distinct_hit hpq HE.out]⟩
                case measure => simp [intOf]; omega
              · have heb : (f p == f q) = false := by simpa using he
                go_wp2_with fail
                go_round
                case rel => exact ⟨p + 1, by omega, by go_num, rfl, no_step hno he⟩
                case measure => simp [intOf]; omega
            · obtain rfl : p = q := by omega
              have HI : Hid (idx f p (f p) = []) := (idx_nil_iff f _ _).2 hno
              clear hno
              obtain ⟨g, gcap, hlk, hgc⟩ := HF.out.1 p hqk
              have HG : Hid _ := hgc
              clear hgc
              have HL : Hid (∀ j, f j = f p → j < k → ((idx f j (f p)).length < (idx f k (f p)).length ∧ (idx f k (f p))[(idx f j (f p)).length]?.getD 0 = (j : Int))) := fun j e h => idx_here f h e
              have HZ : Hid ((idx f p (f p)).length = 0) := by show (idx f p (f p)).length = 0; rw [HI.out]; rfl
              have hll := idx_len_le f k (f p)
              go_wp2_with fail
              go_loop [13, 14] (fun c j => ∃ r : Nat, p ≤ r ∧ r ≤ k ∧ j = .int .i64 r ∧ c = .int .i64 ((idx f r (f p)).length : Nat)) (fun _ j => k - (intOf j).toNat)
              case atStart => exact ⟨p, Nat.le_refl _, by omega, rfl, by rw [HZ.out]; rfl⟩
              case round =>
                obtain ⟨r, hpr, hr, rfl, rfl⟩ := hrel
                by_cases hrk : r < k
                · have cr := hc r hrk
                  by_cases he : f r = f p
                  · have heb : (f r == f p) = true := by simpa using he
                    obtain ⟨h1, h2⟩ := HL.out r he hrk
                    have HE : Hid (f r = f p) := he
                    have H2 : Hid _ := h2
                    clear he
                    have g1 := HG.out _ h1
                    rw [h2] at g1
                    clear h2
                    go_wp2_with fail
                    go_round
                    case rel => exact ⟨r + 1, by omega, by omega, by go_num, by rw [idx_succ_eq f r HE.out]; simp⟩
                    case measure => simp [intOf]; omega
                  · have heb : (f r == f p) = false := by simpa using he
                    have HE : Hid (f r ≠ f p) := he
                    clear he
                    go_wp2_with fail
                    go_round
                    case rel => exact ⟨r + 1, by omega, by omega, by go_num, by rw [idx_succ_ne f r HE.out]⟩
                    case measure => simp [intOf]; omega
                · obtain rfl : r = k := by omega
                  go_wp2_with fail
                  go_round
                  case rel => exact ⟨p + 1, by omega, by go_num, by rw [distinct_new HI.out]; go_num⟩
                  case measure => simp [intOf]; omega
        · obtain rfl : q = k := by omega
          have hlen := HF.out.2
          go_wp2_with fail
          go_ret
          exact ⟨rfl, HB.out⟩

set_option maxRecDepth 100000 in
set_option maxHeartbeats 400000 in
theorem law_zero (a0 : Option Addr) (cap : Nat) (w : World) :
    Calls Yba.prog 4 #[.slice a0 0 cap] w fun e w' => e = .returned (.bool true) ∧ Below w.heap.size w w' := by
  obtain ⟨C, hC, hmk⟩ := make_h 0 (by omega) w
  have hnil := fun (x : World) (r : Option Nat) => run_eql_map_nil (P := Yba.prog) x 51 3 53 r Yba.underlying51
  simp only [Int.natCast_zero] at hmk
  go_enter Yba.func4, Yba.ntmps4
  go_wp2_with fail
  refine wp_loop_rounds 1 ?_
  rw [rounds_succ]
  go_wp2_with fail
  refine (places_any w.heap.size 0 (fun _ => 0) (fun _ => 0) (fun _ => ByteArray.empty) _ (by omega) (by simp) (by omega) (by omega) (by omega) (by omega)).mono ?_
  rintro e w2 ⟨rfl, hb2, D, hog, hsy⟩
  have HB : Hid (Below w.heap.size w w2) := ((Below.refl _ _).alloc (Nat.le_refl _) _).trans (hb2.mono (by simp))
  have hlen : ∀ ty, (Builtin.len_ #[51] ty #[.map (some (w.heap.size + 1))]).run Yba.prog w2 = .ok (.int .i64 0) w2 := fun ty => by
    have := (found_of (by omega) hog hsy).2 ty
    simpa [distinct] using this
  clear hb2 hog hsy
  go_wp2_with fail
  refine wp_loop_rounds 1 ?_
  rw [rounds_succ]
  go_wp2_with fail
  go_ret
  exact ⟨rfl, HB.out⟩

set_option maxRecDepth 100000 in
theorem law_long (a0 : Option Addr) (n cap : Nat) (w : World) (hn : 1024 < n) (hm : n ≤ maxLen) :
    Calls Yba.prog 4 #[.slice a0 n cap] w fun e w' => e = .returned (.bool true) ∧ Below w.heap.size w w' := by
  unfold maxLen at hm
  go_enter Yba.func4, Yba.ntmps4
  go_wp2
  go_ret
  exact ⟨rfl, Below.refl _ _⟩

end Go.Proofs.Ybulkagtu.Places
