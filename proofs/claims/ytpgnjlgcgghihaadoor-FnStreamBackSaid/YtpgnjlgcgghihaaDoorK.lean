/- Walks: NewCTR, newBlock, newOutlined, New. -/
import Derived.Test.YtpgnjlgcgghihaaDoorJ
namespace Go.Proofs.YtpgnjlgcgghihaaDoor
open Go.RowKit
/-- A stream's block: its key, its first counter's halves. -/
structure Str (w : World) (G r : Nat) (en : Nat → Int) (lo hi : Int) : Prop where
  key : KRow w G r en
  lo : w.cell? ⟨G, 121, none⟩ = some (.int .u64 lo)
  hi : w.cell? ⟨G, 122, none⟩ = some (.int .u64 hi)
theorem Str.of {w : World} {G r : Nat} {en : Nat → Int} {lo hi : Int} {A : Array Value} (hA : CAgg A r en lo hi) (hw : w.heap[G]? = some (.cells A 54 (0, 0))) : Str w G r en lo hi := by
  refine ⟨⟨?_, ?_, ?_⟩, ?_, ?_⟩
  · exact (Array.getElem?_eq_some_iff.1 hw).1
  · rw [cell_of_row w G 0 A 54 _ hw]; exact hA.r0
  · intro i hi; rw [cell_of_row w G (1 + i) A 54 _ hw]; exact hA.en i hi
  · rw [cell_of_row w G 121 A 54 _ hw]; exact hA.lo
  · rw [cell_of_row w G 122 A 54 _ hw]; exact hA.hi
theorem nctr_any (C I r c N : Nat) (e : TypeId) (en de f : Nat → Int) (w : World) (hB : BRow w C 52 r en de) (hF : FRow w I e N f) (hN : 16 ≤ N) (hf : Bd N 256 f) (hc : 16 ≤ c) (hcm : c ≤ 9223372036854775807) :
    Calls Tryd.prog 8 #[.pointer (some ⟨C, 0, none⟩), .slice (some ⟨I, 0, none⟩) 16 c] w fun e w' => ∃ G, e = .returned (.pointer (some ⟨G, 0, none⟩)) ∧ w.heap.size ≤ G ∧ Str w' G r en (l64 f 8) (l64 f 0) ∧ Ch w w' w.heap.size := by
  obtain ⟨z, hz, hzs⟩ := zv54
  have N1 := Lib.hid (ncr_any C I r c N e en de f w hB hF hN hf hc hcm)
  clear hB hF hf
  go_enter Tryd.func8, Tryd.ntmps8
  go_wp2_with fail
  refine N1.out.mono ?_
  rintro e1 w1 ⟨A, rfl, hA, c1⟩
  have HA := Lib.hid hA
  have C1 := Lib.hid c1
  have hsz := hA.size
  have HZ := heap_alloc_new w1 (.cells z 54)
  have hst : Sem.run Tryd.prog (storeCells ⟨w1.heap.size, 0, none⟩ A.toList) (w1.alloc (.cells z 54)) = .ok () ((w1.alloc (.cells z 54)).setRow w1.heap.size A) := by
    have h := run_storeVar_row (P := Tryd.prog) _ w1.heap.size 54 54 z A HZ (by rw [size54, hsz]) (by rw [hzs, hsz]) hA.one
    have h54 := size54
    cases hq : Tryd.prog.info? 54 with
    | none => simp [hq] at h54
    | some i =>
      have hs : i.size = 124 := by simpa [hq] using h54
      simpa [storeVar, sizeOf, typeInfo, hq, Value.cells, hs, hsz] using h
  have HR := Lib.hid (setRow_heap _ _ z A _ _ HZ)
  have C2 := Lib.hid ((c1.trans_new (Ch.alloc w1 w1.heap.size (.cells z 54)) c1.size).trans_new (Ch.setRow _ w1.heap.size A) c1.size)
  have hle := c1.size
  clear hA c1 HZ
  go_wp2_with fail
  go_ret
  exact ⟨_, rfl, hle, Str.of HA.out HR.out, C2.out⟩
theorem nb_any (t : Tab) (C K n c nk r : Nat) (e : TypeId) (N : Nat) (kb : Nat → Int) (w : World)
    (ht : Tabs t w) (hk : TabOk t) (hn : n = 4 * nk) (hnk : nk = 4 ∨ nk = 6 ∨ nk = 8) (hr : r = nk + 6) (hcc : n ≤ c) (hcm : c ≤ 9223372036854775807)
    (hB : BRow w C 52 0 (fun _ => 0) (fun _ => 0)) (hF : FRow w K e N kb) (hN : n ≤ N) (hf : Bd N 256 kb) (hCK : K ≠ C) (hC : 10 ≤ C) :
    Calls Tryd.prog 20 #[.pointer (some ⟨C, 0, none⟩), .slice (some ⟨K, 0, none⟩) n c] w fun r' w' => r' = .returned (.pointer (some ⟨C, 0, none⟩)) ∧ Ch w w' C ∧ ∃ de, BRow w' C 52 r (scht t kb nk (4 * (r + 1))) de := by
  have N1 := Lib.hid (nbe_any t C K n c nk r 52 e N kb w ht hk hn hnk hr hcc hcm hB hF hN hf hCK hC)
  have z0 := hB.r0
  clear hB hF hf ht hk hn hr
  go_enter Tryd.func20, Tryd.ntmps20
  go_wp2_with fail
  refine N1.out.mono ?_
  rintro r1 w1 ⟨rfl, c1, b1⟩
  have B1 := Lib.hid b1
  have C1 := Lib.hid c1
  clear b1 c1
  go_wp2
  go_ret
  exact ⟨rfl, C1.out, B1.out⟩
theorem no_any (t : Tab) (C K n c nk r : Nat) (e : TypeId) (N : Nat) (kb : Nat → Int) (w : World)
    (ht : Tabs t w) (hk : TabOk t) (hn : n = 4 * nk) (hnk : nk = 4 ∨ nk = 6 ∨ nk = 8) (hr : r = nk + 6) (hcc : n ≤ c) (hcm : c ≤ 9223372036854775807)
    (hB : BRow w C 52 0 (fun _ => 0) (fun _ => 0)) (hF : FRow w K e N kb) (hN : n ≤ N) (hf : Bd N 256 kb) (hCK : K ≠ C) (hC : 10 ≤ C) :
    Calls Tryd.prog 12 #[.pointer (some ⟨C, 0, none⟩), .slice (some ⟨K, 0, none⟩) n c] w fun r' w' => r' = .returned (.tuple #[.pointer (some ⟨C, 0, none⟩), .nilIface]) ∧ Ch w w' C ∧ ∃ de, BRow w' C 52 r (scht t kb nk (4 * (r + 1))) de := by
  have N1 := Lib.hid (nb_any t C K n c nk r e N kb w ht hk hn hnk hr hcc hcm hB hF hN hf hCK hC)
  clear hB hF hf ht hk hr hN
  have hn3 : n = 16 ∨ n = 24 ∨ n = 32 := by omega
  clear hn hnk
  rcases hn3 with rfl | rfl | rfl
  all_goals
    go_enter Tryd.func12, Tryd.ntmps12
    go_wp2_with fail
    refine N1.out.mono ?_
    rintro r1 w1 ⟨rfl, c1, b1⟩
    have B1 := Lib.hid b1
    have C1 := Lib.hid c1
    clear b1 c1
    go_wp2
    go_ret2
    exact ⟨rfl, C1.out, B1.out⟩
def zb52 : Array Value := #[.int .i64 0] ++ Array.replicate 120 (.int .u32 0)
theorem zv52 (w : World) : (zeroValue 52).run Tryd.prog w = .ok (.agg zb52) w := by
  have h : (Tryd.prog.info? 52).map (·.zero) = some (some (.agg zb52)) := by kernel_rfl
  cases hi : Tryd.prog.info? 52 with
  | none => rw [hi] at h; cases h
  | some i =>
    rw [hi] at h
    simp only [Option.map_some, Option.some.injEq] at h
    simp [zeroValue, typeInfo, hi, h]
theorem new_any (t : Tab) (K n c nk r : Nat) (e : TypeId) (N : Nat) (kb : Nat → Int) (w : World)
    (ht : Tabs t w) (hk : TabOk t) (hn : n = 4 * nk) (hnk : nk = 4 ∨ nk = 6 ∨ nk = 8) (hr : r = nk + 6) (hcc : n ≤ c) (hcm : c ≤ 9223372036854775807)
    (hF : FRow w K e N kb) (hN : n ≤ N) (hf : Bd N 256 kb) (hC : 10 ≤ w.heap.size) :
    Calls Tryd.prog 6 #[.slice (some ⟨K, 0, none⟩) n c] w fun r' w' => r' = .returned (.tuple #[.pointer (some ⟨w.heap.size, 0, none⟩), .nilIface]) ∧ Ch w w' w.heap.size ∧ ∃ de, BRow w' w.heap.size 52 r (scht t kb nk (4 * (r + 1))) de := by
  have c0 := Ch.alloc w w.heap.size ZB
  have hz := zv52
  have hKw := hF.lt
  have N1 := Lib.hid (no_any t w.heap.size K n c nk r e N kb (w.alloc ZB) (ht.ch c0 hC) hk hn hnk hr hcc hcm (ZB_row w) (hF.ch c0 (by omega)) hN hf (by omega) hC)
  have C0 := Lib.hid c0
  rw [show ZB = .cells zb52 52 (0, 0) from rfl] at N1 C0
  clear hF hf ht hk hr hN hn hnk c0
  go_enter Tryd.func6, Tryd.ntmps6
  go_wp2_with fail
  refine N1.out.mono ?_
  rintro r1 w1 ⟨rfl, c1, b1⟩
  have B1 := Lib.hid b1
  have C1 := Lib.hid c1
  clear b1 c1
  go_wp2
  go_ret2
  exact ⟨rfl, C0.out.trans C1.out, B1.out⟩
end Go.Proofs.YtpgnjlgcgghihaaDoor
