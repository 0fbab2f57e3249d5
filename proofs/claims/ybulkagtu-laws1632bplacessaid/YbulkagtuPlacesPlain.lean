/-
  The plain part of LawS1632BPlaces: no Go in sight. 'f j': the transaction number of operation j.
  'idx f k t': the places below k at which t stands, in rising order. 'distinct f k': how many different numbers stand below k (counted at their first places).
  'Says f k D': what the map, as read, holds when k operations have been gone over.
-/
import Derived.Maps.GroupsBeside
namespace Go.Proofs.Ybulkagtu.Places
open Go.ChangeShapes (lits)

def hits (f : Nat → Int) (k : Nat) (t : Int) : List Nat := (List.range k).filter (fun j => f j == t)
def idx (f : Nat → Int) (k : Nat) (t : Int) : List Int := (hits f k t).map (fun (j : Nat) => (j : Int))

theorem hits_succ_eq (f : Nat → Int) (k : Nat) {t : Int} (h : f k = t) : hits f (k + 1) t = hits f k t ++ [k] := by
  simp [hits, List.range_succ, List.filter_append, h]
theorem hits_succ_ne (f : Nat → Int) (k : Nat) {t : Int} (h : f k ≠ t) : hits f (k + 1) t = hits f k t := by
  simp [hits, List.range_succ, List.filter_append, h]
theorem idx_succ_eq (f : Nat → Int) (k : Nat) {t : Int} (h : f k = t) : idx f (k + 1) t = idx f k t ++ [(k : Int)] := by
  simp [idx, hits_succ_eq f k h]
theorem idx_succ_ne (f : Nat → Int) (k : Nat) {t : Int} (h : f k ≠ t) : idx f (k + 1) t = idx f k t := by
  simp [idx, hits_succ_ne f k h]
theorem idx_zero (f : Nat → Int) (t : Int) : idx f 0 t = [] := rfl
theorem idx_len_le (f : Nat → Int) (k : Nat) (t : Int) : (idx f k t).length ≤ k := by
  have := List.length_filter_le (fun j => f j == t) (List.range k)
  simpa [idx, hits] using this

/-- What is known below j stays the head of what is known below n. -/
theorem idx_prefix (f : Nat → Int) (t : Int) (j : Nat) : ∀ n, j ≤ n → ∃ r, idx f n t = idx f j t ++ r
  | 0, h => ⟨[], by obtain rfl : j = 0 := by omega
                    simp⟩
  | n + 1, h => by
    rcases Nat.lt_or_ge n j with hlt | hge
    · obtain rfl : j = n + 1 := by omega
      exact ⟨[], by simp⟩
    · obtain ⟨r, hr⟩ := idx_prefix f t j n hge
      by_cases e : f n = t
      · exact ⟨r ++ [(n : Int)], by rw [idx_succ_eq f n e, hr, List.append_assoc]⟩
      · exact ⟨r, by rw [idx_succ_ne f n e, hr]⟩

/-- Where t stands at place j < n: the next one of the list is j. -/
theorem idx_here (f : Nat → Int) {t : Int} {j n : Nat} (hj : j < n) (e : f j = t) : (idx f j t).length < (idx f n t).length ∧ (idx f n t)[(idx f j t).length]?.getD 0 = (j : Int) := by
  obtain ⟨r, hr⟩ := idx_prefix f t (j + 1) n hj
  rw [idx_succ_eq f j e] at hr
  rw [hr]
  simp

theorem idx_ne_nil (f : Nat → Int) {t : Int} {j n : Nat} (hj : j < n) (e : f j = t) : idx f n t ≠ [] := by
  have := (idx_here f hj e).1
  intro h
  rw [h] at this
  simp at this

/-- No t among the first i: none of them is t; and back. -/
theorem idx_nil_iff (f : Nat → Int) (t : Int) (i : Nat) : idx f i t = [] ↔ ∀ j, j < i → f j ≠ t := by
  constructor
  · intro h j hj e
    exact idx_ne_nil f hj e h
  · intro h
    simp only [idx, hits, List.map_eq_nil_iff, List.filter_eq_nil_iff, List.mem_range, beq_iff_eq]
    exact fun j hj => h j hj

def distinct (f : Nat → Int) : Nat → Nat
  | 0 => 0
  | k + 1 => distinct f k + if idx f k (f k) = [] then 1 else 0
theorem distinct_le (f : Nat → Int) : ∀ k, distinct f k ≤ k
  | 0 => Nat.le_refl _
  | k + 1 => by
    have := distinct_le f k
    unfold distinct
    split <;> omega

/-- WHAT THE MAP HOLDS. -/
structure Says (f : Nat → Int) (k : Nat) (D : DataW Unit) : Prop where
  tidy : Maps.Tidy D
  at' : ∀ t, D.atKey (.int .i64 t) .nil = if idx f k t = [] then .nil else .slice (lits .i64 (idx f k t)) []
  has' : ∀ t, Maps.has D (.int .i64 t) = decide (idx f k t ≠ [])
  size' : Maps.size D = distinct f k

theorem says_start (f : Nat → Int) : Says f 0 (.map []) :=
  ⟨Maps.tidy_empty, fun _ => rfl, fun _ => rfl, rfl⟩

theorem isKey (t : Int) : WideAt.IsKeyLit (.int .i64 t) := by
  first | trivial | exact ⟨_, _, rfl⟩ | simp [WideAt.IsKeyLit]

theorem says_step {f : Nat → Int} {k : Nat} {D : DataW Unit} (h : Says f k D) :
    Says f (k + 1) (D.put (.int .i64 (f k)) (.slice (lits .i64 (idx f k (f k) ++ [(k : Int)])) [])) := by
  refine ⟨h.tidy.put (isKey _) _, fun t => ?_, fun t => ?_, ?_⟩
  · by_cases e : f k = t
    · subst e
      rw [Maps.atKey_put_same h.tidy.isMap (isKey _), idx_succ_eq f k rfl, if_neg (by simp)]
    · rw [Maps.atKey_put_other (by simpa using fun e' => e e'.symm), idx_succ_ne f k e, h.at']
  · by_cases e : f k = t
    · subst e
      rw [Maps.has_put_same h.tidy.isMap (isKey _), idx_succ_eq f k rfl]
      simp
    · rw [Maps.has_put_other (by simpa using fun e' => e e'.symm), idx_succ_ne f k e, h.has']
  · rw [Maps.size_put h.tidy, h.has', h.size', distinct]
    by_cases e : idx f k (f k) = [] <;> simp [e]

theorem lits_inj {H : Type} : ∀ {a b : List Int}, lits (H := H) .i64 a = lits .i64 b → a = b
  | [], [], _ => rfl
  | [], _ :: _, h => by simp [lits] at h
  | _ :: _, [], h => by simp [lits] at h
  | x :: a, y :: b, h => by
    simp only [lits, List.map_cons, List.cons.injEq, DataW.lit.injEq, Lit.int.injEq, true_and] at h
    rw [h.1, lits_inj (H := H) (a := a) (b := b) h.2]

/-- What the look-up hands over is the list. -/
theorem says_zs {f : Nat → Int} {k : Nat} {D : DataW Unit} (h : Says f k D) {w : World} {base : Nat} {e : TypeId} {t : Int} {v : Value} {zs : List Int} (ho : w.ownsInts base e .i64 v zs)
    (hat : D.atKey (.int .i64 t) .nil = rowDatum .i64 v zs) : zs = idx f k t := by
  rw [h.at'] at hat
  rcases ho.datum (H := Unit) with ⟨h1, h2⟩ | h1
  · rw [h1] at hat
    by_cases e0 : idx f k t = []
    · rw [h2, e0]
    · rw [if_neg e0] at hat
      cases hat
  · rw [h1] at hat
    by_cases e0 : idx f k t = []
    · rw [if_pos e0] at hat
      cases hat
    · rw [if_neg e0] at hat
      simp only [DataW.slice.injEq, and_true] at hat
      exact (lits_inj hat).symm

end Go.Proofs.Ybulkagtu.Places
