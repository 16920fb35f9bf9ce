/- Walks: copied, New and what it calls, NewCTR. -/
import Derived.Test.YtpgnjlgcgghihaaDoorH
import Derived.Test.YtpgnjlgcgghihaaDoorG
namespace Go.Proofs.YtpgnjlgcgghihaaDoor
open Go.RowKit
theorem built54 (f : Nat → Value) (lo hi : Int) :
    Tryd.prog.built 54 [(0, .agg ((List.range 121).map f).toArray), (1, .int .u64 lo), (2, .int .u64 hi), (3, .int .u64 0)] = some (((List.range 121).map f).toArray ++ #[.int .u64 lo, .int .u64 hi, .int .u64 0]) := by
  kernel_rfl
/-- A block cipher that has nothing yet. -/
def ZB : Obj := .cells (#[.int .i64 0] ++ Array.replicate 120 (.int .u32 0)) 52
theorem ZB_row (w : World) : BRow (w.alloc ZB) w.heap.size 52 0 (fun _ => 0) (fun _ => 0) := by
  refine ⟨_, heap_alloc_new w _, by simp, by simp, fun i hi => ?_, fun i hi => ?_⟩
  · have e : 1 + i - 1 = i := by omega
    rw [Array.getElem?_append_right (by simp)]
    have e2 : i < 120 := by omega
    simp [e, e2]
  · have e : 61 + i - 1 = 60 + i := by omega
    have e2 : 60 + i < 120 := by omega
    rw [Array.getElem?_append_right (by simp; omega)]
    simp [e, e2]
set_option maxHeartbeats 400000 in
theorem nbe_any (t : Tab) (C K n c nk r : Nat) (ty e : TypeId) (N : Nat) (kb : Nat → Int) (w : World)
    (ht : Tabs t w) (hk : TabOk t) (hn : n = 4 * nk) (hnk : nk = 4 ∨ nk = 6 ∨ nk = 8) (hr : r = nk + 6) (hcc : n ≤ c) (hcm : c ≤ 9223372036854775807)
    (hB : BRow w C ty 0 (fun _ => 0) (fun _ => 0)) (hF : FRow w K e N kb) (hN : n ≤ N) (hf : Bd N 256 kb) (hCK : K ≠ C) (hC : 10 ≤ C) :
    Calls Tryd.prog 23 #[.pointer (some ⟨C, 0, none⟩), .slice (some ⟨K, 0, none⟩) n c] w fun r' w' => r' = .returned (.tuple #[]) ∧ Ch w w' C ∧ ∃ de, BRow w' C ty r (scht t kb nk (4 * (r + 1))) de := by
  have z0 := hB.frozen 0
  have c0 := hB.r0
  have key : ∀ r, r = nk + 6 → ∀ w', Ch w w' C → BRow w' C ty r (fun _ => 0) (fun _ => 0) → Calls Tryd.prog 27 #[.pointer (some ⟨C, 0, none⟩), .slice (some ⟨K, 0, none⟩) n c] w' fun r' w'' => r' = .returned (.tuple #[]) ∧ Ch w w'' C ∧ ∃ de, BRow w'' C ty r (scht t kb nk (4 * (r + 1))) de := by
    intro r hr w' hc hb
    refine (exp_any t C K n c nk r ty e N kb w' (ht.ch hc hC) hk hn (by omega) (by omega) (by omega) (by omega) hcc hcm hb (hF.ch hc hCK) hN hf hCK hC ?_).mono ?_
    · intro i hi
      rcases hnk with rfl | rfl | rfl <;> subst hr <;> omega
    · rintro e w'' ⟨rfl, c2, de, b2⟩
      exact ⟨rfl, hc.trans c2, de, b2⟩
  have KEY := Lib.hid key
  have HB := Lib.hid hB
  clear ht hk hF hf key hB
  rcases hnk with rfl | rfl | rfl
  · obtain rfl : n = 16 := by omega
    subst hr
    clear hn
    go_enter Tryd.func23, Tryd.ntmps23
    go_wp2_with fail
    refine (KEY.out 10 rfl _ (Ch.setCell _ _ _ _) (HB.out.set0 10)).mono ?_
    rintro r1 w1 ⟨rfl, c1, de, b1⟩
    go_wp2
    go_end0
    exact ⟨rfl, c1, de, b1⟩
  · obtain rfl : n = 24 := by omega
    subst hr
    clear hn
    go_enter Tryd.func23, Tryd.ntmps23
    go_wp2_with fail
    refine (KEY.out 12 rfl _ (Ch.setCell _ _ _ _) (HB.out.set0 12)).mono ?_
    rintro r1 w1 ⟨rfl, c1, de, b1⟩
    go_wp2
    go_end0
    exact ⟨rfl, c1, de, b1⟩
  · obtain rfl : n = 32 := by omega
    subst hr
    clear hn
    go_enter Tryd.func23, Tryd.ntmps23
    go_wp2_with fail
    refine (KEY.out 14 rfl _ (Ch.setCell _ _ _ _) (HB.out.set0 14)).mono ?_
    rintro r1 w1 ⟨rfl, c1, de, b1⟩
    go_wp2
    go_end0
    exact ⟨rfl, c1, de, b1⟩

/-- The first m bytes of a row, noughts behind them. -/
def cut (g : Nat → Int) (m : Nat) : Nat → Int := fun i => if i < m then g i else 0
theorem cut_bd (g : Nat → Int) (m N : Nat) (h : Bd m 256 g) : Bd N 256 (cut g m) := by
  intro i _
  unfold cut
  split
  · exact h i (by assumption)
  · omega
theorem cop_run (S p m c : Nat) (g : Nat → Int) (w : World) (hm : 1 ≤ m) (hm2 : m ≤ 140737488355328) (hc : ∀ i, i < m → w.cell? ⟨S, p + i, none⟩ = some (.int .u8 (g i))) :
    ∃ cap W1, (Builtin.append_ #[22, 22] 22 #[.slice none 0 0, .slice (some ⟨S, p, none⟩) m c]).run Tryd.prog w = .ok (.slice (some ⟨w.heap.size, 0, none⟩) m cap) W1 ∧ m ≤ cap ∧ cap ≤ 9223372036854775807 ∧ Ch w W1 w.heap.size ∧ FRow W1 w.heap.size 5 cap (cut g m) := by
  have hu : Tryd.prog.underlying 22 = some (.slice 5) := Tryd.underlying22
  have info5 : (Tryd.prog.info? 5).map (fun i => (i.zero, i.size, i.bytes)) = some (some (.int .u8 0), 1, 1) := by kernel_rfl
  cases hi : Tryd.prog.info? 5 with
  | none => rw [hi] at info5; cases info5
  | some i =>
    rw [hi] at info5
    simp only [Option.map_some, Option.some.injEq, Prod.mk.injEq] at info5
    obtain ⟨hz, hs, hb⟩ := info5
    have hl : ((List.range m).map fun j => Value.int .u8 (g j)).length = m * i.size := by simp [hs]
    have h := run_append_nil (P := Tryd.prog) w 22 22 5 i (.int .u8 0) hu hi hz ⟨S, p, none⟩ m c ((List.range m).map fun j => Value.int .u8 (g j)) hl (by
      intro j v hj
      rw [add_off]
      simp only [List.getElem?_map] at hj
      by_cases hjm : j < m
      · simp [hjm] at hj
        rw [hc j hjm, ← hj]
      · simp [hjm] at hj) (by omega) (by omega) (by rw [hb]; omega)
    have g1 := grownCap_ge w m 0 5
    have g2 := grownCap_le_maxLen w m 0 5 (by unfold maxLen; omega)
    unfold maxLen at g2
    refine ⟨_, _, h, g1, g2, (Ch.drew _ _).trans (Ch.alloc _ _ _), _, heap_alloc_new w.drew _, ?_, ?_⟩
    · simp [size_zeroCells, Value.cells]; omega
    · intro k hk
      unfold cut
      by_cases hkm : k < m
      · rw [if_pos hkm, Array.getElem?_append_left (by simpa using hkm)]
        simp [hkm]
      · rw [if_neg hkm, Array.getElem?_append_right (by simp; omega)]
        have hsz : ((List.range m).map fun j => Value.int .u8 (g j)).toArray.size = m := by simp
        have e1 : ∀ x : Nat, x % 1 = 0 := fun x => by omega
        have e2 : k - m < grownCap w m 0 5 - m := by omega
        rw [hsz]
        simp [Builtin.zeroCells, Value.cells, e1, e2]
theorem wpList_append_run {w : World} {ops : Array Oper} {rest : List Oper} {o : Oper} {a : Act} {Q : Exit → Act → World → Prop} (hgd : o.guard = none) (d s : Operand) (t : TypeId)
    (ho : o.op = .call { callee := .builtin .append, args := #[d, s], argTypes := #[t, t] }) (v u : Value) (hd : a.eval d = v) (hs : a.eval s = u) {v' : Value} {w' : World}
    (hr : (Builtin.append_ #[t, t] o.type #[v, u]).run Tryd.prog w = .ok v' w') (h : wpList Tryd.prog ops Q rest (a.put o.dst v') w') : wpList Tryd.prog ops Q (o :: rest) a w := by
  refine wpList_plain hgd fun K hK => ?_
  unfold Oper.wp execOp
  simp only [ho, resolve, invoke, builtin, Sem.run_bind, Sem.run_pure, Result.andThen_ok, List.map_toArray, List.map_cons, List.map_nil, hd, hs, hr]
  exact hK _ _ h
set_option maxHeartbeats 400000 in
theorem cop_any (S p m c : Nat) (g : Nat → Int) (w : World) (hm : 1 ≤ m) (hm2 : m ≤ 140737488355328) (hc : ∀ i, i < m → w.cell? ⟨S, p + i, none⟩ = some (.int .u8 (g i))) :
    Calls Tryd.prog 7 #[.slice (some ⟨S, p, none⟩) m c] w fun e w' => ∃ cap, e = .returned (.slice (some ⟨w.heap.size, 0, none⟩) m cap) ∧ m ≤ cap ∧ cap ≤ 9223372036854775807 ∧ Ch w w' w.heap.size ∧ FRow w' w.heap.size 5 cap (cut g m) := by
  obtain ⟨cap, W1, hr, h1, h2, h3, h4⟩ := cop_run S p m c g w hm hm2 hc
  have H3 := Lib.hid h3
  have H4 := Lib.hid h4
  clear h3 h4 hc
  go_enter Tryd.func7, Tryd.ntmps7
  go_wp2_with (at_builtin; refine wpList_append_run rfl _ _ 22 rfl _ _ rfl rfl hr ?_)
  go_ret
  exact ⟨cap, rfl, h1, h2, H3.out, H4.out⟩
set_option maxHeartbeats 400000 in
theorem cop_none (a : Option Addr) (c : Nat) (w : World) :
    Calls Tryd.prog 7 #[.slice a 0 c] w fun e w' => e = .returned (.slice none 0 0) ∧ w = w' := by
  have hr : ∀ w, (Builtin.append_ #[22, 22] 22 #[.slice none 0 0, .slice a 0 c]).run Tryd.prog w = .ok (.slice none 0 0) w := by
    intro w
    cases a with
    | none => simp [Builtin.append_, run_underlying Tryd.underlying22, Builtin.lenOf, Builtin.firstCells]
    | some a => simp [Builtin.append_, run_underlying Tryd.underlying22, Builtin.lenOf, Builtin.firstCells, loadCells, loadCellsFrom]
  go_enter Tryd.func7, Tryd.ntmps7
  go_wp2_with (at_builtin; refine wpList_append_run rfl _ _ 22 rfl _ _ rfl rfl (hr _) ?_)
  go_ret
  exact ⟨rfl, rfl⟩

def l64 (f : Nat → Int) (o : Nat) : Int := be64 (f o) (f (o + 1)) (f (o + 2)) (f (o + 3)) (f (o + 4)) (f (o + 5)) (f (o + 6)) (f (o + 7))
theorem l64_any (D o n c N : Nat) (e : TypeId) (f : Nat → Int) (w : World) (hn : 8 ≤ n) (hm : n ≤ 9223372036854775807) (hF : FRow w D e N f) (hN : o + 8 ≤ N) (hf : Bd N 256 f) :
    Calls Tryd.prog 21 #[.slice (some ⟨D, o, none⟩) n c] w fun e w' => e = .returned (.int .u64 (l64 f o)) ∧ ∃ k, w' = w.drewN k := by
  have b0 := hf o (by omega)
  have b1 := hf (o + 1) (by omega)
  have b2 := hf (o + 2) (by omega)
  have b3 := hf (o + 3) (by omega)
  have b4 := hf (o + 4) (by omega)
  have b5 := hf (o + 5) (by omega)
  have b6 := hf (o + 6) (by omega)
  have b7 := hf (o + 7) (by omega)
  exact be64_any D o n c _ _ _ _ _ _ _ _ w hn hm b0.1 b0.2 b1.1 b1.2 b2.1 b2.2 b3.1 b3.2 b4.1 b4.2 b5.1 b5.2 b6.1 b6.2 b7.1 b7.2 (hF.has o (by omega)) (hF.has (o + 1) (by omega)) (hF.has (o + 2) (by omega)) (hF.has (o + 3) (by omega)) (hF.has (o + 4) (by omega)) (hF.has (o + 5) (by omega)) (hF.has (o + 6) (by omega)) (hF.has (o + 7) (by omega))
/-- The cells of a stream: its block cipher, its first counter's halves, its place. -/
structure CAgg (A : Array Value) (r : Nat) (en : Nat → Int) (lo hi : Int) : Prop where
  size : A.size = 124
  one : A.all (·.oneCell') = true
  r0 : A[0]? = some (.int .i64 r)
  en : ∀ i, i < 60 → A[1 + i]? = some (.int .u32 (en i))
  lo : A[121]? = some (.int .u64 lo)
  hi : A[122]? = some (.int .u64 hi)
theorem cagg_of {cs : Array Value} {r : Nat} {en de : Nat → Int} (h2 : cs.size = 121) (h3 : cs[0]? = some (.int .i64 r)) (h4 : ∀ i, i < 60 → cs[1 + i]? = some (.int .u32 (en i))) (h5 : ∀ i, i < 60 → cs[61 + i]? = some (.int .u32 (de i))) (lo hi : Int) :
    ∃ A, Tryd.prog.built 54 [(0, .agg cs), (1, .int .u64 lo), (2, .int .u64 hi), (3, .int .u64 0)] = some A ∧ CAgg A r en lo hi := by
  have e : cs = ((List.range 121).map fun i => cs[i]?.getD undef).toArray := by
    apply Array.ext
    · simp [h2]
    · intro i hi1 hi2
      simp [hi1]
  have hb := built54 (fun i => cs[i]?.getD undef) lo hi
  rw [← e] at hb
  refine ⟨_, hb, by simp [h2], ?_, ?_, ?_, ?_, ?_⟩
  · rw [Array.all_append]
    have ha : cs.all (·.oneCell') = true := by
      rw [Array.all_eq_true]
      intro i hi
      have hget : cs[i]? = some cs[i] := Array.getElem?_eq_getElem hi
      by_cases c0 : i = 0
      · subst c0
        rw [h3] at hget
        injection hget with hget
        rw [← hget]; rfl
      · by_cases c1 : i < 61
        · have := h4 (i - 1) (by omega)
          have ei : 1 + (i - 1) = i := by omega
          rw [ei, hget] at this
          injection this with this
          rw [this]; rfl
        · have := h5 (i - 61) (by omega)
          have ei : 61 + (i - 61) = i := by omega
          rw [ei, hget] at this
          injection this with this
          rw [this]; rfl
    rw [ha]
    simp [Value.oneCell']
  · rw [Array.getElem?_append_left (by omega)]; exact h3
  · intro i hi'
    rw [Array.getElem?_append_left (by omega)]; exact h4 i hi'
  · rw [Array.getElem?_append_right (by omega), h2]; rfl
  · rw [Array.getElem?_append_right (by omega), h2]; rfl
theorem zv54 : ∃ z : Array Value, (∀ w, (zeroValue 54).run Tryd.prog w = .ok (.agg z) w) ∧ z.size = 124 := by
  have h : (Tryd.prog.info? 54).map (fun i => i.zero.map (·.cells.size)) = some (some 124) := by kernel_rfl
  cases hi : Tryd.prog.info? 54 with
  | none => rw [hi] at h; cases h
  | some i =>
    rw [hi] at h
    simp only [Option.map_some, Option.some.injEq] at h
    cases hz : i.zero with
    | none => rw [hz] at h; cases h
    | some z =>
      rw [hz] at h
      simp only [Option.map_some, Option.some.injEq] at h
      cases z with
      | agg c => exact ⟨c, fun w => by simp [zeroValue, typeInfo, hi, hz], h⟩
      | _ => simp [Value.cells] at h
theorem size54 : (Tryd.prog.info? 54).map (·.size) = some 124 := by kernel_rfl
theorem size52 : (Tryd.prog.info? 52).map (·.size) = some 121 := by kernel_rfl
end Go.Proofs.YtpgnjlgcgghihaaDoor
