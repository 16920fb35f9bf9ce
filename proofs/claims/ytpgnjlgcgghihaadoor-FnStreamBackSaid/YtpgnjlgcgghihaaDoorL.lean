/- Walk: impl.Stream with one step of kind 1. -/
import Derived.Test.YtpgnjlgcgghihaaDoorK
import Derived.Deep.RegionHeld3
namespace Go.Proofs.YtpgnjlgcgghihaaDoor
open Go.RowKit
/-- The bytes of a slice of m bytes: nothing where m is nought. -/
def Byt (w : World) (a : Option Addr) (m : Nat) (g : Nat → Int) : Prop := 0 < m → ∃ B q, a = some ⟨B, q, none⟩ ∧ ∀ i, i < m → w.cell? ⟨B, q + i, none⟩ = some (.int .u8 (g i))
theorem cell_lt {w : World} {B q : Nat} {v : Value} (h : w.cell? ⟨B, q, none⟩ = some v) : B < w.heap.size := by
  exact World.block_lt_of_cell? w ⟨B, q, none⟩ h
theorem Byt.ch {w w' : World} {a : Option Addr} {m : Nat} {g : Nat → Int} (h : Byt w a m g) (c : Ch w w' w.heap.size) : Byt w' a m g := by
  intro hm
  obtain ⟨B, q, e, hc⟩ := h hm
  refine ⟨B, q, e, fun i hi => ?_⟩
  have hl := cell_lt (hc i hi)
  rw [c.cell B (q + i) hl (by omega)]
  exact hc i hi
theorem copg_any (a : Option Addr) (m c : Nat) (g : Nat → Int) (w : World) (hm2 : m ≤ 140737488355328) (hB : Byt w a m g) :
    Calls Tryd.prog 7 #[.slice a m c] w fun e w' => ∃ aS cS, e = .returned (.slice aS m cS) ∧ m ≤ cS ∧ cS ≤ 9223372036854775807 ∧ (0 < m → aS = some ⟨w.heap.size, 0, none⟩) ∧ (0 < m → FRow w' w.heap.size 5 cS (cut g m)) ∧ Ch w w' w.heap.size := by
  by_cases h0 : m = 0
  · subst h0
    refine (cop_none a c w).mono ?_
    rintro e w' ⟨rfl, rfl⟩
    exact ⟨none, 0, rfl, by omega, by omega, fun h => absurd h (by omega), fun h => absurd h (by omega), Ch.refl _ _⟩
  · obtain ⟨B, q, rfl, hc⟩ := hB (by omega)
    refine (cop_any B q m c g w (by omega) hm2 hc).mono ?_
    rintro e w' ⟨cap, rfl, h1, h2, h3, h4⟩
    exact ⟨_, cap, rfl, h1, h2, fun _ => rfl, fun _ => h4, h3⟩
theorem app26 (X : Nat) (v : Value) (w : World) (hc : w.cell? ⟨X, 0, none⟩ = some v) :
    ∃ cap W1, (Builtin.append_ #[26, 26] 26 #[.slice none 0 0, .slice (some ⟨X, 0, none⟩) 1 1]).run Tryd.prog w = .ok (.slice (some ⟨w.heap.size, 0, none⟩) 1 cap) W1 ∧ 1 ≤ cap ∧ Ch w W1 w.heap.size ∧ W1.cell? ⟨w.heap.size, 0, none⟩ = some v := by
  have hu : Tryd.prog.underlying 26 = some (.slice 22) := Tryd.underlying26
  have info : (Tryd.prog.info? 22).map (fun i => (i.zero, i.size, i.bytes)) = some (some (.slice none 0 0), 1, 24) := by kernel_rfl
  cases hi : Tryd.prog.info? 22 with
  | none => rw [hi] at info; cases info
  | some i =>
    rw [hi] at info
    simp only [Option.map_some, Option.some.injEq, Prod.mk.injEq] at info
    obtain ⟨hz, hs, hb⟩ := info
    have h := run_append_nil (P := Tryd.prog) w 26 26 22 i (.slice none 0 0) hu hi hz ⟨X, 0, none⟩ 1 1 [v] (by simp [hs]) (by
      intro j u hj
      rw [add_off]
      cases j with
      | zero => simp at hj; subst hj; simpa using hc
      | succ j => simp at hj) (by omega) (by omega) (by rw [hb]; omega)
    have g1 := grownCap_ge w 1 0 22
    refine ⟨_, _, h, g1, (Ch.drew _ _).trans (Ch.alloc _ _ _), ?_⟩
    have hn := heap_alloc_new w.drew (.cells (#[v] ++ Builtin.zeroCells (Value.slice none 0 0).cells (grownCap w 1 0 22 - 1)) 22)
    have hq := cell_of_row _ w.drew.heap.size 0 _ 22 _ hn
    refine Eq.trans hq ?_
    rw [Array.getElem?_append_left (by simp)]
    rfl
/-- What a stream of one step hands back. -/
structure SOut (t : Tab) (kb iv g : Nat → Int) (n nk R m bo : Nat) (off : Int) (w w' : World) (O D : Nat) : Prop where
  out : w'.cell? ⟨O, 0, none⟩ = some (.slice (some ⟨D, 0, none⟩) m m)
  row : FRow w' D 5 m (fun x => if x < m then bits .xor .u8 (cut g m x) (ks t (scht t (cut kb n) nk (4 * (R + 1 + 1))) R (addlo (l64 (cut iv 16) 8) (off / 16)) (addhi (l64 (cut iv 16) 8) (l64 (cut iv 16) 0) (off / 16)) (bo + x)) else 0)
  ch : Ch w w' w.heap.size
set_option maxHeartbeats 1000000 in
theorem stream_any (t : Tab) (K p n c nk R L m cB bo : Nat) (kb iv g : Nat → Int) (ivA : Array Value) (aB : Option Addr) (off : Int) (w : World)
    (ht : Tabs t w) (hk : TabOk t) (hn : n = 4 * nk) (hnk : nk = 4 ∨ nk = 6 ∨ nk = 8) (hr : R + 1 = nk + 6) (h10 : 10 ≤ w.heap.size)
    (hK : ∀ i, i < n → w.cell? ⟨K, p + i, none⟩ = some (.int .u8 (kb i))) (hkb : Bd n 256 kb)
    (hiv : ivA.size = 16) (hivc : ∀ i, i < 16 → ivA[i]? = some (.int .u8 (iv i))) (hivb : Bd 16 256 iv)
    (hL0 : w.cell? ⟨L, 0, none⟩ = some (.int .i64 1)) (hL1 : w.cell? ⟨L, 1, none⟩ = some (.slice aB m cB)) (hL2 : w.cell? ⟨L, 2, none⟩ = some (.int .u64 off))
    (hm : m ≤ 4096) (hB : Byt w aB m g) (hg : Bd m 256 g) (ho0 : 0 ≤ off) (ho1 : off < 18446744073709551616) (hbo : off % 16 = (bo : Int)) :
    Calls Tryd.prog 5 #[.slice (some ⟨K, p, none⟩) n c, .agg ivA, .slice (some ⟨L, 0, none⟩) 1 1] w fun e w' => ∃ O D cap, e = .returned (.tuple #[.slice (some ⟨O, 0, none⟩) 1 cap, .bool true]) ∧ 1 ≤ cap ∧ w.heap.size ≤ O ∧ w.heap.size ≤ D ∧ SOut t kb iv g n nk R m bo off w w' O D := by
  have cA := Ch.alloc w w.heap.size (.cells ivA 23)
  have s1 : (w.alloc (.cells ivA 23)).heap.size = w.heap.size + 1 := by simp
  have fI : FRow (w.alloc (.cells ivA 23)) w.heap.size 23 16 iv := ⟨_, heap_alloc_new w _, hiv, hivc⟩
  have n1 : 1 ≤ n := by omega
  have C1 := Lib.hid (cop_any K p n c kb (w.alloc (.cells ivA 23)) n1 (by omega) (fun i hi => by rw [cA.cell K (p + i) (cell_lt (hK i hi)) (by have := cell_lt (hK i hi); omega)]; exact hK i hi))
  have HT := Lib.hid ht
  have HB := Lib.hid hB
  have CA := Lib.hid cA
  have HKb := Lib.hid hkb
  have HIb := Lib.hid hivb
  have HG := Lib.hid hg
  have FI := Lib.hid fI
  have HN := Lib.hid hn
  have HNK := Lib.hid hnk
  have HR := Lib.hid hr
  have HL0 := Lib.hid hL0
  have HL1 := Lib.hid hL1
  have HL2 := Lib.hid hL2
  have HBO := Lib.hid hbo
  have HK := Lib.hid hk
  clear ht hB cA hkb hivb hg fI hn hnk hr hL0 hL1 hL2 hbo hK hk hivc
  go_enter Tryd.func5, Tryd.ntmps5
  go_wp2_with fail
  refine C1.out.mono ?_
  clear C1
  rintro e1 w2 ⟨cap, rfl, h1, h2, c2, f2⟩
  rw [s1] at c2 f2
  have ht2 := ((HT.out.ch CA.out h10).ch c2 (by omega))
  have s2 := c2.size
  have l2 := f2.lt
  have C3 := Lib.hid (new_any t (w.heap.size + 1) n cap nk (R + 1) 5 cap (cut kb n) w2 ht2 HK.out HN.out HNK.out HR.out h1 h2 f2 h1 (cut_bd _ _ _ HKb.out) (by omega))
  have FI2 := Lib.hid (FI.out.ch c2 (by omega))
  have T2 := Lib.hid ht2
  have CA2 := Lib.hid (CA.out.trans_new c2 (by omega))
  clear c2 f2 ht2
  go_wp2_with fail
  refine C3.out.mono ?_
  clear C3
  rintro e2 w3 ⟨rfl, c3, de, b3⟩
  have s3 := c3.size
  have hX := b3.lt
  have FI3 := Lib.hid (FI2.out.ch c3 (by omega))
  have T3 := Lib.hid (T2.out.ch c3 (by omega))
  have CA3 := Lib.hid (CA2.out.trans_new c3 (by omega))
  have B3 := Lib.hid b3
  clear FI2 T2 CA2 c3 b3
  go_wp2_with fail
  refine (cop_any w.heap.size 0 16 16 iv w3 (by omega) (by omega) (fun i hi => by rw [Nat.zero_add]; exact FI3.out.has i hi)).mono ?_
  rintro e3 w4 ⟨cap2, rfl, h3, h4, c4, f4⟩
  have s4 := c4.size
  have T4 := Lib.hid (T3.out.ch c4 (by omega))
  have CA4 := Lib.hid (CA3.out.trans_new c4 (by omega))
  have C5 := Lib.hid (nctr_any w2.heap.size w3.heap.size (R + 1) cap2 cap2 5 _ de (cut iv 16) w4 (B3.out.ch c4 (by omega)) f4 (by omega) (cut_bd _ _ _ HIb.out) (by omega) h4)
  clear c4 f4 B3 T3 CA3 FI3
  go_wp2_with fail
  refine C5.out.mono ?_
  clear C5
  rintro e4 w5 ⟨G, rfl, hG, st, c5⟩
  have s5 := c5.size
  have T5 := Lib.hid (T4.out.ch c5 (by omega))
  have CA5 := Lib.hid (CA4.out.trans_new c5 (by omega))
  have ST := Lib.hid st
  clear T4 CA4 c5 st
  go_wp2_with fail
  go_loopw [11, 29] (fun v11 v29 wr => (v29 = .int .i64 0 ∧ v11 = .slice none 0 0 ∧ w5 = wr) ∨ (v29 = .int .i64 1 ∧ ∃ O D cap, v11 = .slice (some ⟨O, 0, none⟩) 1 cap ∧ 1 ≤ cap ∧ w.heap.size ≤ O ∧ w.heap.size ≤ D ∧ SOut t kb iv g n nk R m bo off w wr O D)) (fun _ v29 _ => 1 - (intOf v29).toNat)
  case atStart => exact Or.inl ⟨rfl, rfl, rfl⟩
  case round =>
    rcases hrel with ⟨rfl, rfl, rfl⟩ | ⟨rfl, O, D, cap3, rfl, hcap, hO, hD, so⟩
    · have l0 := cell_lt HL0.out
      have e0 : w5.cell? ⟨L, 0, none⟩ = some (.int .i64 1) := (CA5.out.cell L 0 l0 (by omega)).trans HL0.out
      have e1 : w5.cell? ⟨L, 1, none⟩ = some (.slice aB m cB) := (CA5.out.cell L 1 l0 (by omega)).trans HL1.out
      have e2 : w5.cell? ⟨L, 2, none⟩ = some (.int .u64 off) := (CA5.out.cell L 2 l0 (by omega)).trans HL2.out
      have mk := fun w => mk22 (m : Int) m (by omega) (by omega) (by omega) w
      have sA : (w5.alloc (.cells #[.int .i64 1, .slice aB m cB, .int .u64 off] 30)).heap.size = w5.heap.size + 1 := by simp
      have cV := Ch.alloc w5 w5.heap.size (.cells #[.int .i64 1, .slice aB m cB, .int .u64 off] 30)
      have cD := Ch.alloc (w5.alloc (.cells #[.int .i64 1, .slice aB m cB, .int .u64 off] 30)) (w5.heap.size + 1) (zeros m)
      have hV := heap_alloc_new w5 (.cells #[.int .i64 1, .slice aB m cB, .int .u64 off] 30)
      have fD := FRow.zeros (w5.alloc (.cells #[.int .i64 1, .slice aB m cB, .int .u64 off] 30)) m
      rw [sA] at fD
      have c6 := cV.trans_new cD (by omega)
      have v1 := (cD.cell w5.heap.size 1 (by omega) (by omega)).trans (cell_of_row _ _ 1 _ 30 _ hV)
      have v2 := (cD.cell w5.heap.size 2 (by omega) (by omega)).trans (cell_of_row _ _ 2 _ 30 _ hV)
      have s6 : ((w5.alloc (.cells #[.int .i64 1, .slice aB m cB, .int .u64 off] 30)).alloc (zeros m)).heap.size = w5.heap.size + 2 := by simp
      have C6 := Lib.hid c6
      have FD := Lib.hid fD
      have V1 := Lib.hid v1
      have V2 := Lib.hid v2
      have S6 := Lib.hid s6
      clear sA cV cD hV fD c6 v1 v2 s6
      go_wp2_with fail
      obtain ⟨W6, hW6⟩ : ∃ W6, W6 = (w5.alloc (.cells #[.int .i64 1, .slice aB m cB, .int .u64 off] 30)).alloc (zeros m) := ⟨_, rfl⟩
      rw [← hW6]
      rw [← hW6] at C6 FD V1 V2 S6
      clear hW6 e0 e1 e2 mk
      have v1 : W6.cell? ⟨w5.heap.size, 1, none⟩ = some (.slice aB m cB) := V1.out
      have v2 : W6.cell? ⟨w5.heap.size, 2, none⟩ = some (.int .u64 off) := V2.out
      have lG := ST.out.key.lt
      have s6 := S6.out
      have CA6 := Lib.hid (CA5.out.trans_new C6.out (by omega))
      have BY := Lib.hid (HB.out.ch CA6.out)
      go_region_held3 (fun w' => w'.cell? ⟨w5.heap.size, 1, none⟩ = some (.slice aB m cB) ∧ w'.cell? ⟨w5.heap.size, 2, none⟩ = some (.int .u64 off)) (first | exact ⟨v1, v2⟩ | exact ⟨v71, v72⟩ | exact ⟨v81, v82⟩)
        (first
          | (go_at_call 7
             refine (copg_any aB m cB g _ (by omega) (by exact BY.out)).mono ?_
             rintro e w7 ⟨aS, cS, rfl, q1, q2, q3, q4, c7⟩
             have v71 : w7.cell? ⟨w5.heap.size, 1, none⟩ = some (.slice aB m cB) := (c7.cell w5.heap.size 1 (by show _ < W6.heap.size; omega) (by show _ ≠ W6.heap.size; omega)).trans v1
             have v72 : w7.cell? ⟨w5.heap.size, 2, none⟩ = some (.int .u64 off) := (c7.cell w5.heap.size 2 (by show _ < W6.heap.size; omega) (by show _ ≠ W6.heap.size; omega)).trans v2)
          | (go_at_call 10
             have hd : W6.drew.heap.size = W6.heap.size := rfl
             have c7' : Ch W6 w7 W6.heap.size := (Ch.drew W6 _).trans c7
             refine (xka_any t G (w5.heap.size + 1) W6.heap.size m cS R bo (scht t (cut kb n) nk (4 * (R + 1 + 1))) (fun _ => 0) (cut g m) aS (l64 (cut iv 16) 8) (l64 (cut iv 16) 0) off w7 ((T5.out.ch C6.out (by omega)).ch c7' (by omega)) HK.out
               ((ST.out.key.ch C6.out (by omega)).ch c7' (by omega)) (by have := HNK.out; have := HR.out; omega) (by have := HNK.out; have := HR.out; omega)
               ((c7'.cell G 121 (by omega) (by omega)).trans ((C6.out.cell G 121 lG (by omega)).trans ST.out.lo)) ((c7'.cell G 122 (by omega) (by omega)).trans ((C6.out.cell G 122 lG (by omega)).trans ST.out.hi))
               (be64_bd _ _ _ _ _ _ _ _).1 (be64_bd _ _ _ _ _ _ _ _).2 (be64_bd _ _ _ _ _ _ _ _).1 ho0 ho1 HBO.out
               (FD.out.ch c7' (by omega)) hm q3 q1 q4 (by omega) (by omega) (by omega) (cut_bd _ _ _ HG.out)).mono ?_
             rintro e w8 ⟨rfl, c8, f8⟩
             have v81 : w8.cell? ⟨w5.heap.size, 1, none⟩ = some (.slice aB m cB) := (c8.cell w5.heap.size 1 (by have := c7'.size; omega) (by omega)).trans v71
             have v82 : w8.cell? ⟨w5.heap.size, 2, none⟩ = some (.int .u64 off) := (c8.cell w5.heap.size 2 (by have := c7'.size; omega) (by omega)).trans v72))
      have s7 := c7'.size
      have s8 := c8.size
      have cA7 := CA6.out.trans_new c7' (by omega)
      have cA8 := cA7.trans_new c8 (by omega)
      have c9 := Ch.alloc w8 w8.heap.size (.cells #[.slice (some ⟨w5.heap.size + 1, 0, none⟩) m m] 22)
      have s9 : (w8.alloc (.cells #[.slice (some ⟨w5.heap.size + 1, 0, none⟩) m m] 22)).heap.size = w8.heap.size + 1 := by simp
      have cA9 := cA8.trans_new c9 (by omega)
      have f9 := f8.ch c9 (by omega)
      have x9 := cell_of_row _ _ 0 _ 22 _ (heap_alloc_new w8 (.cells #[.slice (some ⟨w5.heap.size + 1, 0, none⟩) m m] 22))
      obtain ⟨cap3, W1, hr, hcap, cW, hc⟩ := app26 w8.heap.size (.slice (some ⟨w5.heap.size + 1, 0, none⟩) m m) _ x9
      rw [s9] at hr cW hc
      have so : SOut t kb iv g n nk R m bo off w W1 (w8.heap.size + 1) (w5.heap.size + 1) := ⟨hc, f9.ch cW (by omega), cA9.trans_new cW (by omega)⟩
      have SO := Lib.hid so
      clear so v1 v2 v71 v72 v81 v82 c7 c7' c8 f8 q1 q2 q3 q4 cA7 cA8 c9 s9 cA9 f9 x9 cW hc V1 V2 FD C6
      go_wp2_with (at_builtin; refine wpList_append_run rfl _ _ 26 rfl _ _ rfl rfl hr ?_)
      go_roundw
      case rel => exact Or.inr ⟨by go_num, w8.heap.size + 1, w5.heap.size + 1, cap3, rfl, hcap, by omega, by omega, SO.out⟩
      case measure => simp [intOf]
    · have SO := Lib.hid so
      clear so
      go_wp2_with fail
      go_ret2
      exact ⟨O, D, cap3, rfl, hcap, hO, hD, SO.out⟩
end Go.Proofs.YtpgnjlgcgghihaaDoor
