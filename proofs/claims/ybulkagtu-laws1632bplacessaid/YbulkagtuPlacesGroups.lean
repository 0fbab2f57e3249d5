/-
  Beside Derived/Maps/OwnRows.lean and GroupsBeside.lean: three laws on a map of slices that the law's walk wants: a look-up is the same in every world that holds the same map block; 'v, ok := m[k]' with what v owns; 'len(m)'.
-/
import Derived.Test.YbulkagtuPlacesPlain
namespace Go.Proofs.Ybulkagtu.Places
open Go.ChangeMaps Go.MapKept Go.ChangeShapes Go.RowKit
open Go.WideElems (Fit rd rg pl rd_val elemAt other_key)
open Go.Maps (Keyed)

section
variable {H : Type} {P : Program} {k : TypeId} {w w' : World} {base : Nat} {e : TypeId} {q : IntKind} {b n : Nat} {D : DataW H}

/-- A LOOK-UP IS THE SAME wherever the map's block is the same. -/
theorem look_same {t E : TypeId} {key v : Value} {kl : Lit} (h : w.ownsGroups P k base e q b n D) (K : Keyed P k) (ht : P.underlying t = some (.map k E)) (hz : ∀ x : World, (zeroValue E).run P x = .ok (.slice none 0 0) x) (hkey : keyOf P k key = some kl)
    (hrun : (Instr.lookup t (.map (some b)) key false).run P w = .ok v w) (hb' : w'.heap[b]? = w.heap[b]?) : (Instr.lookup t (.map (some b)) key false).run P w' = .ok v w' := by
  obtain ⟨es, clock, hb, F, _⟩ := h
  rw [hb] at hb'
  rcases Maps.fit_look false K ht (hz w) hb F hkey with ⟨hr1, hn1, _⟩ | ⟨e1, _, hm1, hk1, hr1, _⟩
  · rcases Maps.fit_look false K ht (hz w') hb' F hkey with ⟨hr2, _, _⟩ | ⟨e2, _, hm2, hk2, _⟩
    · rw [hr1] at hrun
      simp only [Result.ok.injEq, and_true] at hrun
      rw [hr2]
      simp only [Result.ok.injEq, and_true]
      exact hrun
    · exact absurd hk2 (hn1 e2 hm2)
  · rcases Maps.fit_look false K ht (hz w') hb' F hkey with ⟨_, hn2, _⟩ | ⟨e2, _, hm2, hk2, hr2, _⟩
    · exact absurd hk1 (hn2 e1 hm1)
    · have he : e1 = e2 := by
        obtain ⟨i, hi, rfl⟩ := List.mem_iff_getElem.1 hm1
        obtain ⟨j, hj, rfl⟩ := List.mem_iff_getElem.1 hm2
        by_cases hij : i = j
        · subst hij; rfl
        · exact absurd (hk1.trans hk2.symm) (other_key F (List.getElem?_eq_getElem hj) (List.getElem?_eq_getElem hi) hij)
      rw [hr1] at hrun
      simp only [Result.ok.injEq, and_true] at hrun
      rw [hr2, ← he]
      simp only [Result.ok.injEq, and_true]
      exact hrun

/-- 'v, ok := m[k]': the value, what it owns, what that is, and whether the key is there. -/
theorem atBoth {t E : TypeId} {key : Value} {kl : Lit} (h : w.ownsGroups P k base e q b n D) (K : Keyed P k) (ht : P.underlying t = some (.map k E)) (hz : (zeroValue E).run P w = .ok (.slice none 0 0) w) (hkey : keyOf P k key = some kl) :
    ∃ v zs, (Instr.lookup t (.map (some b)) key true).run P w = .ok (.tuple #[v, .bool (Maps.has D kl)]) w ∧ D.atKey kl .nil = rowDatum q v zs ∧ w.ownsInts base e q v zs := by
  obtain ⟨es, clock, hb, F, _, rfl, _⟩ := h
  rcases Maps.fit_look true K ht hz hb F hkey with ⟨hrun, _, hat⟩ | ⟨e0, y, _, _, hrun, hR, hat, _⟩
  · exact ⟨.slice none 0 0, [], by rw [hrun, Maps.has_false_of_atKey hat]; rfl, hat _, World.ownsInts_nil _ _ _ _⟩
  · obtain ⟨zs, ho, rfl⟩ := rowElem_inv hR
    exact ⟨e0.val, zs, by rw [hrun, Maps.has_true_of_atKey hat]; rfl, hat _, ho⟩

/-- 'len(m)'. -/
theorem groupsLen {t E : TypeId} (h : w.ownsGroups P k base e q b n D) (ht : P.underlying t = some (.map k E)) (ty : TypeId) : (Builtin.len_ #[t] ty #[.map (some b)]).run P w = .ok (.int .i64 (Maps.size D)) w := by
  obtain ⟨es, clock, hb, F, _, rfl, _⟩ := h
  have e1 : Maps.size (DataW.map ((es.toList.map (rg P k (rowElem (H := H) w base e q))).foldr DataW.insert [])) = es.size := by simp [Maps.size, length_sorted]
  rw [e1]
  simp [Builtin.len_, run_underlying ht, MapKept.run_getObj_map hb, goInt, Result.andThen]

/-- Nothing but new blocks: the relation stands. -/
theorem groups_grown (h : w.ownsGroups P k base e q b n D) (hg : w.grownBy w' none) : w'.ownsGroups P k base e q b n D :=
  h.kept hg (by simp) (fun _ _ _ x _ => by cases x.val.ownBlock <;> simp)

end
end Go.Proofs.Ybulkagtu.Places
