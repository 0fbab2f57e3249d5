/-
  LawS1634ANonRecording (function 4), walked. A SpanContext is 27 cells, a Span 75, a spanCtx 76: they are kept whole (arrays that are letters), and every load, build and store of one goes by a law: opened cell by cell they run the kernel out of memory.
-/
import Derived.Test.YbulkaguwRows
import Derived.WalkKit
import Derived.ProofKit
import Derived.OpenShut
import Derived.WalkSpells
import Derived.WalkLawsBesides
import Derived.Laws.EntriesVeiled
import Derived.Deep.RegionWith
import Derived.Deep.RegionHeld3
import Derived.Deep.WholeRow
import Derived.Deep.MidRow
import Derived.BigQuiet
import Derived.Laws.StructEq
namespace Go.Proofs.Ybulkaguw.NonRec
open Go.ChangeShapes Go.WideShapes Go.ChangeAt Go.RowKit
set_option linter.unusedVariables false

section
variable {P : Program}
/-- A build, by what it gives. -/
theorem wp_build_eq {o : Oper} {a : Act} {w : World} {K : Act → World → Prop} {Q : Exit → Act → World → Prop} (t : TypeId) (parts : Array (Nat × Operand)) (ho : o.op = .build t parts)
    (vs : List (Nat × Value)) (hv : parts.toList.map (fun p => (p.1, a.eval p.2)) = vs) (C : Array Value) (hb : P.built t vs = some C)
    (h : K (a.put o.dst (.agg C)) w) : o.wp P a w K Q := by
  have e : (parts.map fun (i, x) => (i, a.eval x)).toList = vs := by rw [Array.toList_map]; exact hv
  refine wp_build t parts ho (by rw [e, hb]; rfl) ?_
  rw [e, hb]
  exact h
theorem wpList_build_eq {ops : Array Oper} {rest : List Oper} {o : Oper} {a : Act} {w : World} {Q : Exit → Act → World → Prop} (hgd : o.guard = none) (t : TypeId) (parts : Array (Nat × Operand)) (ho : o.op = .build t parts)
    (vs : List (Nat × Value)) (hv : parts.toList.map (fun p => (p.1, a.eval p.2)) = vs) (C : Array Value) (hb : P.built t vs = some C)
    (h : wpList P ops Q rest (a.put o.dst (.agg C)) w) : wpList P ops Q (o :: rest) a w :=
  wpList_plain hgd fun _ hK => wp_build_eq t parts ho vs hv C hb (hK _ _ h)
/-- A whole struct or array into the block that was made last. -/
theorem wpList_store_new {ops : Array Oper} {rest : List Oper} {op : Oper} {a : Act} {Q : Exit → Act → World → Prop} (hgd : op.guard = none) (ty : TypeId) (x y : Operand) (ho : op.op = .store ty x y)
    (w : World) (c c' : Array Value) (hx : a.eval x = .pointer (some ⟨w.heap.size, 0, none⟩)) (hy : a.eval y = .agg c')
    (hi : (P.info? ty).map (·.size) = some c'.size) (hs : c.size = c'.size) (h1 : c'.all (·.oneCell') = true)
    (h : wpList P ops Q rest (a.put op.dst undef) (w.alloc (.cells c' ty))) : wpList P ops Q (op :: rest) a (w.alloc (.cells c ty)) :=
  wpList_plain hgd fun _ hK => by
    unfold Oper.wp execOp
    simp only [ho, hx, hy, Instr.storeAt, Instr.sureAddr, Sem.run_bind, Sem.run_pure, Result.andThen_ok, run_storeVar_new w ty c c' hi hs h1]
    exact hK _ _ h
end

theorem bg (w : World) : Calls Yba.prog 11 #[] w fun e w' => e = .returned (.iface 111 (.agg #[])) ∧ w' = w := by
  go_enter Yba.func11, Yba.ntmps11
  go_wp2
  go_ret
  exact ⟨rfl, rfl⟩
theorem siz34 : (Yba.prog.info? 34).map (fun i => i.size) = some 27 := by kernel_rfl
theorem siz26 : (Yba.prog.info? 26).map (fun i => i.size) = some 16 := by kernel_rfl
theorem siz28 : (Yba.prog.info? 28).map (fun i => i.size) = some 8 := by kernel_rfl
set_option maxRecDepth 100000 in
theorem with_any (SC Y Z : Array Value) (Hi : Hid ((Yba.prog.info? 34).map (fun i => i.size) = some SC.size)) (hb53 : Hid (Yba.prog.built 53 [(1, .agg SC)] = some Y))
    (hb108 : Hid (Yba.prog.built 108 [(0, .iface 111 (.agg #[])), (1, .agg Y)] = some Z)) (w : World) :
    Calls Yba.prog 10 #[.iface 111 (.agg #[]), .agg SC] w fun e w' => e = .returned (.tuple #[.iface 106 (.pointer (some ⟨w.heap.size + 1, 0, none⟩)), .pointer (some ⟨w.heap.size + 1, 1, none⟩)]) ∧ ∃ n, w' = ((w.alloc (.cells SC 34)).alloc (.cells Z 108)).drewN n := by
  go_enter Yba.func10, Yba.ntmps10
  go_wp2_with (first
    | (refine wpList_load_row (by rfl) 34 _ (by rfl) w.heap.size (by rfl) 34 SC (0, 0) _ (heap_alloc_new _ _) Yba.underlying34 rfl Hi.out ?_)
    | (refine wpList_build_eq (by rfl) 53 _ (by rfl) [(1, .agg SC)] (by rfl) Y hb53.out ?_)
    | (refine wpList_build_eq (by rfl) 108 _ (by rfl) [(0, .iface 111 (.agg #[])), (1, .agg Y)] (by rfl) Z hb108.out ?_))
  go_quiet (fail)
  go_wp2
  go_ret2
  exact ⟨rfl, _, rfl⟩
theorem kind_any (b : Nat) (k : Int) (w : World) (hc : w.cell? ⟨b, 56, none⟩ = some (.int .u8 k)) :
    Calls Yba.prog 9 #[.pointer (some ⟨b, 1, none⟩)] w fun e w' => e = .returned (.int .u8 k) ∧ w' = w := by
  go_enter Yba.func9, Yba.ntmps9
  go_wp2
  go_ret
  exact ⟨rfl, rfl⟩
set_option maxRecDepth 100000 in
theorem ctx_any (b : Nat) (SC : Array Value) (Hi : Hid ((Yba.prog.info? 34).map (fun i => i.size) = some SC.size)) (Hs : Hid (SC.size = 27)) (H1 : Hid (SC.all (·.oneCell') = true)) (w : World) (hr : Hid (w.rangeAt b 2 SC.toList)) :
    Calls Yba.prog 12 #[.pointer (some ⟨b, 1, none⟩)] w fun e w' => e = .returned (.agg SC) ∧ w' = w.alloc (.cells SC 34) := by
  go_enter Yba.func12, Yba.ntmps12
  go_wp2_with (first
    | (refine wpList_load_mid (by rfl) 34 _ (by rfl) b 2 (by rfl) SC.toList _ (World.rangeAt_alloc hr.out _) Yba.underlying34 rfl (by simpa using Hi.out) ?_)
    | (refine wpList_store_new (by rfl) 34 _ _ (by rfl) w _ SC (by rfl) (by rfl) Hi.out (by rw [Hs.out]; rfl) H1.out ?_))
  exact bodyPost_ret (v := .agg SC) (results_cell_row (by rfl) _ _ w.heap.size 34 SC (0, 0) _ (by rfl) (heap_alloc_new _ _) Yba.underlying34 rfl Hi.out) rfl ⟨rfl, rfl⟩

theorem below_drewN {B : Nat} {W w' : World} (h : Below B W w') (n : Nat) : Below B W (w'.drewN n) := ⟨h.os, h.tape, h.output, h.size, h.block⟩

/-- A load of a SpanContext, kept whole: the walk's simp would open it cell by cell. -/
def ld34 (P : Program) (v : Value) (W : World) : Result Next := Sem.run P (do let a ← Instr.loadAt 34 v; pure (Next.value a)) W
theorem exec_ld34 (ev : Operand → Value) (d : Option Tmp) (ty : TypeId) (ps : String) (af : Array Edge) (g : Option (Nat × Bool)) (x : Operand) (W : World) :
    Sem.run Yba.prog (execOp ev { dst := d, op := Op.load 34 x, type := ty, pos := ps, after := af, guard := g }) W = ld34 Yba.prog (ev x) W := rfl
theorem ld34_eq (b : Nat) (SC : Array Value) (W : World) (hb : W.heap[b]? = some (.cells SC 34)) (hs : (Yba.prog.info? 34).map (fun i => i.size) = some SC.size) :
    ld34 Yba.prog (.pointer (some ⟨b, 0, none⟩)) W = .ok (Next.value (.agg SC)) W := by
  unfold ld34
  simp only [Instr.loadAt, Instr.sureAddr, Sem.run_bind, Sem.run_pure, Result.andThen_ok, run_loadVar_row W b 34 34 SC (0, 0) _ hb Yba.underlying34 rfl hs]
attribute [local go_sem ↓] exec_ld34

/-- The law's own SpanContext lies in block b, the span's context in block b + 2. -/
structure Two (b : Nat) (SC Z : Array Value) (W : World) : Prop where
  own : W.heap[b]? = some (.cells SC 34)
  ctx : W.heap[b + 1 + 1]? = some (.cells Z 108)
theorem Two.alloc {b : Nat} {SC Z : Array Value} {W : World} (h : Two b SC Z W) (o : Obj) : Two b SC Z (W.alloc o) := by
  have h1 := (Array.getElem?_eq_some_iff.1 h.own).1
  have h2 := (Array.getElem?_eq_some_iff.1 h.ctx).1
  exact ⟨(Below.heap_alloc _ _ _ h1).trans h.own, (Below.heap_alloc _ _ _ h2).trans h.ctx⟩
theorem two_start (w : World) (X1 X2 X3 : Obj) (SC Z : Array Value) (n : Nat) : Two (w.heap.size + 1 + 1) SC Z ((((((w.alloc X1).alloc X2).alloc (.cells SC 34)).alloc X3).alloc (.cells Z 108)).drewN n).drew := by
  refine ⟨?_, ?_⟩
  · show (((((w.alloc X1).alloc X2).alloc (.cells SC 34)).alloc X3).alloc (.cells Z 108)).heap[w.heap.size + 1 + 1]? = _
    rw [Below.heap_alloc _ _ _ (by simp), Below.heap_alloc _ _ _ (by simp)]
    simpa using heap_alloc_new ((w.alloc X1).alloc X2) (.cells SC 34)
  · show (((((w.alloc X1).alloc X2).alloc (.cells SC 34)).alloc X3).alloc (.cells Z 108)).heap[w.heap.size + 1 + 1 + 1 + 1]? = _
    simpa using heap_alloc_new ((((w.alloc X1).alloc X2).alloc (.cells SC 34)).alloc X3) (.cells Z 108)
theorem two_n (w : World) (X1 X2 X3 : Obj) (SC Z : Array Value) (n : Nat) : Two (w.heap.size + 1 + 1) SC Z ((((((w.alloc X1).alloc X2).alloc (.cells SC 34)).alloc X3).alloc (.cells Z 108)).drewN n) :=
  ⟨(two_start w X1 X2 X3 SC Z n).own, (two_start w X1 X2 X3 SC Z n).ctx⟩
theorem two_n2 (w : World) (X1 X2 X3 X4 : Obj) (SC Z : Array Value) (n : Nat) : Two (w.heap.size + 1 + 1) SC Z (((((((w.alloc X1).alloc X2).alloc (.cells SC 34)).alloc X3).alloc (.cells Z 108)).alloc X4).drewN n) :=
  ⟨((two_n w X1 X2 X3 SC Z 0).alloc X4).own, ((two_n w X1 X2 X3 SC Z 0).alloc X4).ctx⟩
theorem own_start (w : World) (X1 X2 : Obj) (SC : Array Value) : (((w.alloc X1).alloc X2).alloc (.cells SC 34)).drew.heap[w.heap.size + 1 + 1]? = some (.cells SC 34) := by
  show (((w.alloc X1).alloc X2).alloc (.cells SC 34)).heap[w.heap.size + 1 + 1]? = _
  simpa using heap_alloc_new ((w.alloc X1).alloc X2) (.cells SC 34)
theorem own_next (w : World) (X1 X2 : Obj) (SC : Array Value) (X3 X4 : Obj) (n : Nat) : ((((((w.alloc X1).alloc X2).alloc (.cells SC 34)).alloc X3).alloc X4).drewN n).heap[w.heap.size + 1 + 1]? = some (.cells SC 34) := by
  show (((((w.alloc X1).alloc X2).alloc (.cells SC 34)).alloc X3).alloc X4).heap[w.heap.size + 1 + 1]? = _
  rw [Below.heap_alloc _ _ _ (by simp), Below.heap_alloc _ _ _ (by simp)]
  simpa using heap_alloc_new ((w.alloc X1).alloc X2) (.cells SC 34)
theorem range_of {b : Nat} {SC Z : Array Value} {W : World} (h : Two b SC Z W) (hR : ∀ (j : Nat) v, SC.toList[j]? = some v → Z[2 + j]? = some v) : W.rangeAt (b + 1 + 1) 2 SC.toList := fun j v hv => by
  rw [cell_of_row _ _ _ _ _ _ h.ctx]
  exact hR j v hv

set_option maxRecDepth 100000 in
set_option maxHeartbeats 400000 in
theorem walk (A B SC Y Z : Array Value) (k : Int) (r : Bool) (HA : Hid ((Yba.prog.info? 26).map (fun i => i.size) = some A.size)) (HB : Hid ((Yba.prog.info? 28).map (fun i => i.size) = some B.size))
    (HS : Hid (SC.size = 27))
    (hb34 : Hid (Yba.prog.built 34 [(0, .agg A), (1, .agg B), (3, .int .u8 k), (4, .bool r)] = some SC)) (hb53 : Hid (Yba.prog.built 53 [(1, .agg SC)] = some Y))
    (hb108 : Hid (Yba.prog.built 108 [(0, .iface 111 (.agg #[])), (1, .agg Y)] = some Z)) (H1 : Hid (SC.all (·.oneCell') = true))
    (HZ : Hid (Z[56]? = some (.int .u8 0))) (HR : Hid (∀ (j : Nat) v, SC.toList[j]? = some v → Z[2 + j]? = some v))
    (heq : ∀ w, (binOp .eql 34 (.agg SC) (.agg SC)).run Yba.prog w = .ok (.bool true) w) (w : World) :
    Calls Yba.prog 4 #[.agg A, .agg B, .int .u8 k, .bool r] w fun e w' => e = .returned (.bool true) ∧ Below w.heap.size w w' := by
  have Hi : Hid ((Yba.prog.info? 34).map (fun i => i.size) = some SC.size) := by show _ = some SC.size; rw [HS.out]; exact siz34
  go_enter Yba.func4, Yba.ntmps4
  go_wp2_with (first
    | (refine wpList_load_row (by rfl) 26 _ (by rfl) w.heap.size (by rfl) 26 A (0, 0) _ (heap_alloc2_old _ _ _) Yba.underlying26 rfl HA.out ?_)
    | (refine wpList_load_row (by rfl) 28 _ (by rfl) (w.heap.size + 1) (by rfl) 28 B (0, 0) _ (heap_alloc2_new _ _ _) Yba.underlying28 rfl HB.out ?_)
    | (refine wpList_build_eq (by rfl) 34 _ (by rfl) [(0, .agg A), (1, .agg B), (3, .int .u8 k), (4, .bool r)] (by rfl) SC hb34.out ?_)
    | (refine wpList_store_new (by rfl) 34 _ _ (by rfl) ((w.alloc (.cells A 26)).alloc (.cells B 28)) _ SC (by simp [Act.eval]) (by rfl) Hi.out (by rw [HS.out]; rfl) H1.out ?_))
  have hld := fun (W : World) (h : W.heap[w.heap.size + 1 + 1]? = some (.cells SC 34)) => ld34_eq (w.heap.size + 1 + 1) SC W h Hi.out
  go_region_held3 (fun w' => w'.heap[w.heap.size + 1 + 1]? = some (.cells SC 34))
    (first | with_reducible assumption | with_reducible exact own_start w _ _ SC | with_reducible exact own_next w _ _ SC _ _ _)
    (first
    | (go_at_call 11; refine (bg _).mono ?_; rintro e w' ⟨rfl, rfl⟩)
    | (go_at_call 10; refine (with_any SC Y Z Hi hb53 hb108 _).mono ?_; rintro e w' ⟨rfl, n, rfl⟩))
  go_wp2_with fail
  have hld2 := fun (W : World) (h : Two (w.heap.size + 1 + 1) SC Z W) => ld34_eq (w.heap.size + 1 + 1) SC W h.own Hi.out
  clear hld
  go_region_held3 (fun w' => Two (w.heap.size + 1 + 1) SC Z w')
    (first | with_reducible assumption | with_reducible exact two_start w _ _ _ SC Z _ | with_reducible exact two_n w _ _ _ SC Z _ | with_reducible exact two_n2 w _ _ _ _ SC Z _ | with_reducible exact (two_n w _ _ _ SC Z _).alloc _)
    (first
    | (go_at_call 9; refine (kind_any (w.heap.size + 1 + 1 + 1 + 1) 0 _ ((cell_of_row _ _ _ _ _ _ (‹Two _ _ _ _›).ctx).trans HZ.out)).mono ?_; rintro e w' ⟨rfl, rfl⟩)
    | (go_at_call 12; refine (ctx_any (w.heap.size + 1 + 1 + 1 + 1) SC Hi HS H1 _ (range_of ‹Two _ _ _ _› HR.out)).mono ?_; rintro e w' ⟨rfl, rfl⟩))
  go_wp2
  go_ret
  exact ⟨rfl, by repeat (first | exact Below.refl _ _ | with_reducible apply below_drewN | with_reducible apply Below.drew | (refine Below.alloc ?_ (by simp <;> omega) _))⟩
end Go.Proofs.Ybulkaguw.NonRec
