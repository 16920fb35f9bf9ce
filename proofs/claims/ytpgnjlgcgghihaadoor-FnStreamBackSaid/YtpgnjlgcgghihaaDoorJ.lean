/- Walks: newCTR and NewCTR, New. -/
import Derived.Test.YtpgnjlgcgghihaaDoorI
import Derived.OrdersHeld
namespace Go.Proofs.YtpgnjlgcgghihaaDoor
open Go.RowKit
theorem wp_enter {o : Oper} {a : Act} {w : World} {K : Act → World → Prop} {Q : Exit → Act → World → Prop} {f : FuncId} {args : Array Value}
    (h : (execOp a.eval o).run Tryd.prog w = .ok (.enter f args) w) (hc : Calls Tryd.prog f args w (fun e w' => ∃ v, e = .returned v ∧ K (a.put o.dst v) w')) : o.wp Tryd.prog a w K Q := by
  unfold Oper.wp
  rw [h]
  refine Calls.mono hc fun e w' ⟨v, he, hk⟩ => ?_
  subst he
  exact hk
theorem wp_value {o : Oper} {a : Act} {w : World} {K : Act → World → Prop} {Q : Exit → Act → World → Prop} {v : Value}
    (h : (execOp a.eval o).run Tryd.prog w = .ok (.value v) w) (hc : K (a.put o.dst v) w) : o.wp Tryd.prog a w K Q := by
  unfold Oper.wp
  rw [h]
  exact hc
theorem ex_load52 {o : Oper} {a : Act} {w : World} {cs : Array Value} {C : Nat} (x : Operand) (ho : o.op = .load 52 x) (hx : a.eval x = .pointer (some ⟨C, 0, none⟩)) (h2 : cs.size = 121) (hw : w.heap[C]? = some (.cells cs 52 (0, 0))) :
    (execOp a.eval o).run Tryd.prog w = .ok (.value (.agg cs)) w := by
  have hl := run_loadVar_row (P := Tryd.prog) w C 52 52 cs (0, 0) _ hw Tryd.underlying52 rfl (by rw [size52, h2])
  unfold execOp
  simp only [ho, hx, Instr.loadAt, Instr.sureAddr, Sem.run_bind, Sem.run_pure, Result.andThen_ok, hl]
theorem ex_slice22 {o : Oper} {a : Act} {w : World} {I n c : Nat} (x : Operand) (l h : Nat) (ho : o.op = .slice 22 x (some (.const (.int .i64 l))) (some (.const (.int .i64 h))) none) (hx : a.eval x = .slice (some ⟨I, 0, none⟩) n c) (h1 : l ≤ h) (h2 : h ≤ c) (h3 : l < c) :
    (execOp a.eval o).run Tryd.prog w = .ok (.value (.slice (some ⟨I, l, none⟩) (h - l) (c - l))) w := by
  have info5 : (Tryd.prog.info? 5).map (·.size) = some 1 := by kernel_rfl
  cases hi : Tryd.prog.info? 5 with
  | none => rw [hi] at info5; cases info5
  | some i =>
    rw [hi] at info5
    simp only [Option.map_some, Option.some.injEq] at info5
    have e3 : ¬ c = l := by omega
    have ev : ∀ v, a.eval (.const v) = v := fun _ => rfl
    unfold execOp
    by_cases hl : l = 0
    · simp [ho, hx, ev, Instr.sliceAt, Instr.slice, run_underlying Tryd.underlying22, Instr.sliceBounds, Instr.sliceBound, asIntOf, sizeOf, typeInfo, hi, h2, hl, Addr.add]
    · simp [ho, hx, ev, Instr.sliceAt, Instr.slice, run_underlying Tryd.underlying22, Instr.sliceBounds, Instr.sliceBound, asIntOf, sizeOf, typeInfo, hi, info5, h1, h2, e3, hl, Addr.add]
theorem ex_call {o : Oper} {a : Act} {w : World} {f : FuncId} {v : Value} {fn : Func} (hf : Tryd.prog.funcs[f]? = some fn) (hn : (fn.name == "runtime.NumGoroutine") = false) (hb : fn.body.isNone = false) (x : Operand) (t : TypeId) (ho : o.op = .call { callee := .value (.func f), args := #[x], argTypes := #[t] }) (hx : a.eval x = v) :
    (execOp a.eval o).run Tryd.prog w = .ok (.enter f #[v]) w := by
  have ev : a.eval (.func f) = .func (.func f) #[] #[] := rfl
  unfold execOp
  have hb2 : ¬ fn.body = none := by intro h0; rw [h0] at hb; cases hb
  have hn2 : ¬ fn.name = "runtime.NumGoroutine" := by simpa using hn
  simp [ho, hx, ev, resolve, invoke, Deferred.ofValue, callFunc, hf, hn2, hb2]
theorem callee21 : ∃ fn, Tryd.prog.funcs[21]? = some fn ∧ (fn.name == "runtime.NumGoroutine") = false ∧ fn.body.isNone = false := ⟨_, Tryd.func21, by kernel_rfl, by kernel_rfl⟩
theorem ex_call21 {o : Oper} {a : Act} {w : World} {v : Value} (x : Operand) (t : TypeId) (ho : o.op = .call { callee := .value (.func 21), args := #[x], argTypes := #[t] }) (hx : a.eval x = v) :
    (execOp a.eval o).run Tryd.prog w = .ok (.enter 21 #[v]) w := by
  obtain ⟨fn, h1, h2, h3⟩ := callee21
  exact ex_call h1 h2 h3 x t ho hx
theorem ex_build54 {o : Oper} {a : Act} {w : World} {A : Array Value} (parts : Array (Nat × Operand)) (l : List (Nat × Value)) (ho : o.op = .build 54 parts) (hl : (parts.map fun (i, x) => (i, a.eval x)).toList = l) (h : Tryd.prog.built 54 l = some A) :
    (execOp a.eval o).run Tryd.prog w = .ok (.value (.agg A)) w := by
  subst hl
  unfold execOp
  simp only [ho, Sem.run_bind, run_build w 54 _ A h, Result.andThen_ok, Sem.run_pure]
theorem wpOp_plain {ops : Array Oper} {Q : Exit → Act → World → Prop} {i : Nat} {o : Oper} {R : Act → World → Prop} {a : Act} {w : World} (ho : ops[i]? = some o) (hg : o.guard = none) (h : ∀ K : Act → World → Prop, (∀ a w, R a w → K a w) → o.wp Tryd.prog a w K Q) : wpOp Tryd.prog ops Q i R a w :=
  wpOp_step ho fun K hK => by
    have hw : Region.wanted o (yielded ops a.tmps) = true := by unfold Region.wanted; rw [hg]
    rw [if_pos hw]
    exact h K hK
theorem wpOp_store {ops : Array Oper} {Q : Exit → Act → World → Prop} {i : Nat} {o : Oper} {R : Act → World → Prop} {a : Act} {w : World} (ho : ops[i]? = some o) (hg : o.guard = none) (hd : o.dst = none) (ty : TypeId) (x y : Operand) (hop : o.op = .store ty x y)
    (g : Nat) (cells : Array Value) (hx : a.eval x = .pointer (some ⟨g, 0, none⟩)) (hy : a.eval y = .agg cells) (t : TypeId) (old : Array Value) (hw : w.heap[g]? = some (.cells old t (0, 0))) (hi : (Tryd.prog.info? ty).map (·.size) = some cells.size)
    (hold : old.size = cells.size) (h1 : cells.all (·.oneCell') = true) (h : R a (w.setRow g cells)) : wpOp Tryd.prog ops Q i R a w :=
  wpOp_plain ho hg fun K hK => wp_store_row ty x y hop g cells hx hy t old hw hi hold h1 (by rw [hd]; exact hK _ _ h)
set_option maxRecDepth 100000 in
set_option maxHeartbeats 1000000 in
theorem ncr_any (C I r c N : Nat) (e : TypeId) (en de f : Nat → Int) (w : World) (hB : BRow w C 52 r en de) (hF : FRow w I e N f) (hN : 16 ≤ N) (hf : Bd N 256 f) (hc : 16 ≤ c) (hcm : c ≤ 9223372036854775807) :
    Calls Tryd.prog 13 #[.pointer (some ⟨C, 0, none⟩), .slice (some ⟨I, 0, none⟩) 16 c] w fun e w' => ∃ A, e = .returned (.agg A) ∧ CAgg A r en (l64 f 8) (l64 f 0) ∧ Ch w w' w.heap.size := by
  have hlt := hB.lt
  have hli := hF.lt
  obtain ⟨cs, hcs, h2, h3, h4, h5⟩ := hB
  obtain ⟨A, hA, hag⟩ := cagg_of h2 h3 h4 h5 (l64 f 8) (l64 f 0)
  have HF := Lib.hid hF
  have Hf := Lib.hid hf
  have HA := Lib.hid hag
  clear hF hf hag h3 h4 h5
  obtain ⟨z, hz, hzs⟩ := zv54
  have HI := Lib.hid (HF.out.ch (Ch.alloc w w.heap.size (.cells z 54)) (by omega))
  have hC0 : (w.alloc (.cells z 54)).heap[C]? = some (.cells cs 52 (0, 0)) := by rw [Below.heap_alloc w _ C hlt]; exact hcs
  have HC0 := Lib.hid hC0
  have HZ0 := Lib.hid (heap_alloc_new w (.cells z 54))
  have CH := Lib.hid (Ch.alloc w w.heap.size (.cells z 54))
  have HAb := Lib.hid hA
  clear hcs hA hC0
  go_enter Tryd.func13, Tryd.ntmps13
  go_wp2_with fail
  obtain ⟨W, hW⟩ : ∃ W, W = w.alloc (.cells z 54) := ⟨_, rfl⟩
  rw [← hW]
  rw [← hW] at HI HC0 HZ0 CH
  clear hW
  refine wp_region_held (S := fun w' => w'.heap[C]? = some (.cells cs 52)) (by kernel_rfl) ?_
  change wpAnyH _ _ _ _ _ _ _ _ (World.drew W)
  have S0 : (World.drew W).heap[C]? = some (.cells cs 52) := HC0.out
  refine wpAnyH_take (i := 0) (v := .pointer (some ⟨C, 0, none⟩)) rfl (by kernel_rfl) (by kernel_rfl) (by kernel_rfl) (fun _ _ _ h => h) (Or.inl ⟨by rfl, fun w' hw' => by with_unfolding_all rfl⟩) S0 ?_
  refine wpAnyH_take (i := 1) (v := .pointer (some ⟨C, 0, none⟩)) rfl (by kernel_rfl) (by kernel_rfl) (by kernel_rfl) (fun _ _ _ h => h) (Or.inl ⟨by rfl, fun w' hw' => by with_unfolding_all rfl⟩) S0 ?_
  refine wpAnyH_take (i := 2) (v := .agg cs) rfl (by kernel_rfl) (by kernel_rfl) (by kernel_rfl) (fun _ _ _ h => h) (Or.inl ⟨by rfl, fun w' hw' => ex_load52 (.tmp 10) (by kernel_rfl) (by kernel_rfl) h2 hw'⟩) S0 ?_
  refine wpAnyH_take (i := 3) (v := .slice (some ⟨I, 0, none⟩) 16 c) rfl (by kernel_rfl) (by kernel_rfl) (by kernel_rfl) (fun _ _ _ h => h) (Or.inl ⟨by rfl, fun w' hw' => by with_unfolding_all rfl⟩) S0 ?_
  refine wpAnyH_take (i := 6) (v := .slice (some ⟨I, 0, none⟩) 16 c) rfl (by kernel_rfl) (by kernel_rfl) (by kernel_rfl) (fun _ _ _ h => h) (Or.inl ⟨by rfl, fun w' hw' => by with_unfolding_all rfl⟩) S0 ?_
  refine wpAnyH_take (i := 4) (v := .slice (some ⟨I, 8, none⟩) 8 (c - 8)) rfl (by kernel_rfl) (by kernel_rfl) (by kernel_rfl) (fun _ _ _ h => h) (Or.inl ⟨by rfl, fun w' hw' => ex_slice22 (n := 16) (c := c) (.tmp 12) 8 16 (by kernel_rfl) (by kernel_rfl) (by omega) hc (by omega)⟩) S0 ?_
  refine wpAnyH_take (i := 7) (v := .slice (some ⟨I, 0, none⟩) 8 c) rfl (by kernel_rfl) (by kernel_rfl) (by kernel_rfl) (fun _ _ _ h => h) (Or.inl ⟨by rfl, fun w' hw' => ex_slice22 (n := 16) (c := c) (.tmp 15) 0 8 (by kernel_rfl) (by kernel_rfl) (by omega) (by omega) (by omega)⟩) S0 ?_
  refine wpAnyH_all (rs := [5]) (by kernel_rfl) (by simp) ?_
  intro i hi
  obtain rfl : i = 5 := by simpa using hi
  clear hi
  refine wpOp_plain rfl (by kernel_rfl) fun K hK => ?_
  refine wp_enter (f := 21) (args := #[.slice (some ⟨I, 8, none⟩) 8 (c - 8)]) (ex_call21 (.tmp 13) 22 (by kernel_rfl) (by kernel_rfl)) ?_
  refine (l64_any I 8 8 (c - 8) N e f _ (by omega) (by omega) (HI.out.drew) (by omega) Hf.out).mono ?_
  rintro e1 w1 ⟨rfl, q1, rfl⟩
  refine ⟨_, rfl, hK _ _ ⟨HC0.out, ?_⟩⟩
  clear hK K
  refine wpAnyH_all (rs := [8]) (by kernel_rfl) (by simp) ?_
  intro i hi
  obtain rfl : i = 8 := by simpa using hi
  clear hi
  refine wpOp_plain rfl (by kernel_rfl) fun K hK => ?_
  refine wp_enter (f := 21) (args := #[.slice (some ⟨I, 0, none⟩) 8 c]) (ex_call21 (.tmp 16) 22 (by kernel_rfl) (by kernel_rfl)) ?_
  refine (l64_any I 0 8 c N e f _ (by omega) (by omega) ((HI.out.drew).drewN q1) (by omega) Hf.out).mono ?_
  rintro e1 w1 ⟨rfl, q2, rfl⟩
  refine ⟨_, rfl, hK _ _ ⟨HC0.out, ?_⟩⟩
  clear hK K
  refine wpAnyH_all (rs := [9]) (by kernel_rfl) (by simp) ?_
  intro i hi
  obtain rfl : i = 9 := by simpa using hi
  clear hi
  refine wpOp_plain rfl (by kernel_rfl) fun K hK => ?_
  refine wp_value (v := .agg A) (ex_build54 #[(0, .tmp 11), (1, .tmp 14), (2, .tmp 17), (3, .const (.int .u64 0))] [(0, .agg cs), (1, .int .u64 (l64 f 8)), (2, .int .u64 (l64 f 0)), (3, .int .u64 0)] (by kernel_rfl) (by kernel_rfl) HAb.out) ?_
  refine hK _ _ ⟨HC0.out, ?_⟩
  clear hK K
  refine wpAnyH_all (rs := [10]) (by kernel_rfl) (by simp) ?_
  intro i hi
  obtain rfl : i = 10 := by simpa using hi
  clear hi
  refine wpOp_store (by rfl) (by kernel_rfl) (by kernel_rfl) 54 (.tmp 4) (.tmp 18) (by kernel_rfl) w.heap.size A (by kernel_rfl) (by kernel_rfl) 54 z HZ0.out (by rw [size54, HA.out.size]) (by rw [hzs, HA.out.size]) HA.out.one ?_
  have cS := Ch.setRow ((W.drew.drewN q1).drewN q2) w.heap.size A
  have hWs : w.heap.size ≤ W.heap.size := CH.out.size
  refine ⟨?_, ?_⟩
  · exact (cS.block C (Nat.lt_of_lt_of_le hlt hWs) (by omega)).trans HC0.out
  refine wpAnyH_done (by kernel_rfl) ?_ _
  rename_i Q' K' hK'
  have HR : (((W.drew.drewN q1).drewN q2).setRow w.heap.size A).heap[w.heap.size]? = some (.cells A 54 (0, 0)) := setRow_heap _ _ z _ _ _ HZ0.out
  refine hK' _ _ (wp_ret ?_)
  change bodyPost Tryd.prog Tryd.f13 (fun e w' => ∃ A, e = .returned (.agg A) ∧ CAgg A r en (l64 f 8) (l64 f 0) ∧ Ch w w' w.heap.size) .ret _ _
  refine bodyPost_ret (v := .agg A) (results_cell_row (p := 4) (ty := 54) (by kernel_rfl) _ _ w.heap.size 54 A (0, 0) _ (by kernel_rfl) HR Tryd.underlying54 rfl (by rw [size54, HA.out.size])) (by kernel_rfl) ?_
  exact ⟨A, rfl, HA.out, CH.out.trans (((Ch.drew _ _).trans ((Ch.drewN _ _ _).trans (Ch.drewN _ _ _))).trans cS)⟩
end Go.Proofs.YtpgnjlgcgghihaaDoor
