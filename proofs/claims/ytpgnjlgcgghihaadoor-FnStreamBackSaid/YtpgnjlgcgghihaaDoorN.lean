/- Walk: FnStreamBack, its main way. -/
import Derived.Test.YtpgnjlgcgghihaaDoorM
import Derived.Deep.RegionHeld3
import Derived.BigQuiet
namespace Go.Proofs.YtpgnjlgcgghihaaDoor
open Go.RowKit
theorem cvt (w : World) (a : Option Addr) (m c : Nat) (g : Nat → Int) (hB : Byt w a m g) :
    ∀ dst, Tryd.prog.underlying dst = some .string → (convert 22 dst (.slice a m c)).run Tryd.prog w = .ok (.string (strOfNums ((List.range m).map g))) w := by
  intro dst hd
  by_cases h0 : m = 0
  · subst h0
    cases a with
    | none => rw [run_convert_bytes_nil w 22 5 Tryd.underlying22 Tryd.underlying5 0 c dst hd]; rfl
    | some a =>
      rw [run_convert_bytes_string w 22 dst 5 _ 0 c Tryd.underlying22 Tryd.underlying5 hd, run_bytesToString w a 0 c [] (by simp [loadCells, loadCellsFrom])]
      rfl
  · obtain ⟨B, q, rfl, hc⟩ := hB (by omega)
    refine run_convert_bytes_arg w 22 5 Tryd.underlying22 Tryd.underlying5 B q m c _ (by simp) (fun i hi => ?_) dst hd
    rw [hc i hi]
    simp [hi]
abbrev IVO (iv : Nat → Int) : Obj := .cells #[.int .u8 (iv 0), .int .u8 (iv 1), .int .u8 (iv 2), .int .u8 (iv 3), .int .u8 (iv 4), .int .u8 (iv 5), .int .u8 (iv 6), .int .u8 (iv 7), .int .u8 (iv 8), .int .u8 (iv 9), .int .u8 (iv 10), .int .u8 (iv 11), .int .u8 (iv 12), .int .u8 (iv 13), .int .u8 (iv 14), .int .u8 (iv 15)] 23
abbrev STO (a : Option Addr) (m c : Nat) (off : Int) : Obj := .cells #[.int .i64 1, .slice a m c, .int .u64 off] 30
set_option maxHeartbeats 1000000 in
theorem fsb_main (t : Tab) (K p n c nk R m cB bo : Nat) (kb iv g : Nat → Int) (aB : Option Addr) (off : Int) (w : World)
    (ht : Tabs t w) (hk : TabOk t) (hn : n = 4 * nk) (hnk : nk = 4 ∨ nk = 6 ∨ nk = 8) (hr : R + 1 = nk + 6) (h10 : 10 ≤ w.heap.size)
    (hK : ∀ i, i < n → w.cell? ⟨K, p + i, none⟩ = some (.int .u8 (kb i))) (hkb : Bd n 256 kb)
    (hivb : Bd 16 256 iv)
    (hm : m ≤ 4096) (hB : Byt w aB m g) (hg : Bd m 256 g) (ho0 : 0 ≤ off) (ho1 : off ≤ 1152921504606846976) (hbo : off % 16 = (bo : Int)) :
    Calls Tryd.prog 3 #[.slice (some ⟨K, p, none⟩) n c, .agg #[.int .u8 (iv 0), .int .u8 (iv 1), .int .u8 (iv 2), .int .u8 (iv 3), .int .u8 (iv 4), .int .u8 (iv 5), .int .u8 (iv 6), .int .u8 (iv 7), .int .u8 (iv 8), .int .u8 (iv 9), .int .u8 (iv 10), .int .u8 (iv 11), .int .u8 (iv 12), .int .u8 (iv 13), .int .u8 (iv 14), .int .u8 (iv 15)], .slice aB m cB, .int .u64 off] w fun e w' => e = .returned (.bool true) ∧ Ch w w' w.heap.size := by
  have b1 : decide (2147483647 < (n : Int)) = false := decide_eq_false (by omega)
  have b2 : decide (2147483647 < (m : Int)) = false := decide_eq_false (by omega)
  have b4 : decide (4096 < (m : Int)) = false := decide_eq_false (by omega)
  have b5 : decide (1152921504606846976 < off) = false := decide_eq_false (by omega)
  have k3 : (n == 16 || n == 24 || n == 32) = true := by
    rcases hnk with rfl | rfl | rfl <;> subst hn <;> rfl
  have cA := Ch.alloc w w.heap.size (IVO iv)
  have s1 : (w.alloc (IVO iv)).heap.size = w.heap.size + 1 := by simp
  have cS := Ch.alloc (w.alloc (IVO iv)) (w.heap.size + 1) (STO aB m cB off)
  have s2 : ((w.alloc (IVO iv)).alloc (STO aB m cB off)).heap.size = w.heap.size + 2 := by simp
  have c2 := cA.trans_new cS (by omega)
  have hn2 := heap_alloc_new (w.alloc (IVO iv)) (STO aB m cB off)
  rw [s1] at hn2
  have L0 := Lib.hid (cell_of_row _ _ 0 _ 30 _ hn2)
  have L1 := Lib.hid (cell_of_row _ _ 1 _ 30 _ hn2)
  have L2 := Lib.hid (cell_of_row _ _ 2 _ 30 _ hn2)
  have T2 := Lib.hid (ht.ch c2 (by omega))
  have B2 := Lib.hid (hB.ch c2)
  have k2 : ∀ i, i < n → ((w.alloc (IVO iv)).alloc (STO aB m cB off)).cell? ⟨K, p + i, none⟩ = some (.int .u8 (kb i)) := fun i hi => (c2.cell K (p + i) (cell_lt (hK i hi)) (by have := cell_lt (hK i hi); omega)).trans (hK i hi)
  have K2 := Lib.hid k2
  have hi2 := (cS.block w.heap.size (by omega) (by omega)).trans (heap_alloc_new w (IVO iv))
  have I2 := Lib.hid hi2
  have C2 := Lib.hid c2
  have S2 := Lib.hid s2
  clear cS s2 c2 hn2 k2 hi2 s1
  have HT := Lib.hid ht
  have HB := Lib.hid hB
  have CA := Lib.hid cA
  have HKb := Lib.hid hkb
  have HIb := Lib.hid hivb
  have HKc := Lib.hid hK
  have HG := Lib.hid hg
  have HN := Lib.hid hn
  have HNK := Lib.hid hnk
  have HR := Lib.hid hr
  have HBO := Lib.hid hbo
  have HK := Lib.hid hk
  clear ht hB cA hkb hivb hg hn hnk hr hbo hk hK
  go_enter Tryd.func3, Tryd.ntmps3
  go_wp2_with (go_at_call 4; refine (isk_any _ _ _ _).mono ?_; rw [k3]; rintro e w' ⟨rfl, rfl⟩)
  refine (stream_any t K p n c nk R (w.heap.size + 1) m cB bo kb iv g #[.int .u8 (iv 0), .int .u8 (iv 1), .int .u8 (iv 2), .int .u8 (iv 3), .int .u8 (iv 4), .int .u8 (iv 5), .int .u8 (iv 6), .int .u8 (iv 7), .int .u8 (iv 8), .int .u8 (iv 9), .int .u8 (iv 10), .int .u8 (iv 11), .int .u8 (iv 12), .int .u8 (iv 13), .int .u8 (iv 14), .int .u8 (iv 15)] aB off _ T2.out HK.out HN.out HNK.out HR.out (by rw [S2.out]; omega) K2.out HKb.out rfl (ivl_at iv) HIb.out L0.out L1.out L2.out hm B2.out HG.out ho0 (by omega) HBO.out).mono ?_
  rintro e w3 ⟨O, D, cap, rfl, hcap, hO, hD, so⟩
  have SO := Lib.hid so
  clear so
  go_wp2_with fail
  rw [S2.out] at hO hD
  have s3 := SO.out.ch.size
  rw [S2.out] at s3
  have lO := cell_lt SO.out.out
  have lD := SO.out.row.lt
  have c3 := C2.out.trans_new SO.out.ch (by rw [S2.out]; omega)
  have i3 : w3.heap[w.heap.size]? = some (IVO iv) := (SO.out.ch.block w.heap.size (by rw [S2.out]; omega) (by rw [S2.out]; omega)).trans I2.out
  have r3 : w3.rangeAt w.heap.size 0 [.int .u8 (iv 0), .int .u8 (iv 1), .int .u8 (iv 2), .int .u8 (iv 3), .int .u8 (iv 4), .int .u8 (iv 5), .int .u8 (iv 6), .int .u8 (iv 7), .int .u8 (iv 8), .int .u8 (iv 9), .int .u8 (iv 10), .int .u8 (iv 11), .int .u8 (iv 12), .int .u8 (iv 13), .int .u8 (iv 14), .int .u8 (iv 15)] := fun j v hv => by
    rw [Nat.zero_add, cell_of_row _ _ j _ 23 _ i3]
    simpa using hv
  have o3 : w3.cell? ⟨O, 0, none⟩ = some (.slice (some ⟨D, 0, none⟩) m m) := SO.out.out
  have u23 := Tryd.underlying23
  have i23 : (Tryd.prog.info? 23).map (·.size) = some ([.int .u8 (iv 0), .int .u8 (iv 1), .int .u8 (iv 2), .int .u8 (iv 3), .int .u8 (iv 4), .int .u8 (iv 5), .int .u8 (iv 6), .int .u8 (iv 7), .int .u8 (iv 8), .int .u8 (iv 9), .int .u8 (iv 10), .int .u8 (iv 11), .int .u8 (iv 12), .int .u8 (iv 13), .int .u8 (iv 14), .int .u8 (iv 15)] : List Value).length := by kernel_rfl
  have l23 : ([.int .u8 (iv 0), .int .u8 (iv 1), .int .u8 (iv 2), .int .u8 (iv 3), .int .u8 (iv 4), .int .u8 (iv 5), .int .u8 (iv 6), .int .u8 (iv 7), .int .u8 (iv 8), .int .u8 (iv 9), .int .u8 (iv 10), .int .u8 (iv 11), .int .u8 (iv 12), .int .u8 (iv 13), .int .u8 (iv 14), .int .u8 (iv 15)] : List Value).length = 16 := rfl
  have o23 : ∀ v ∈ ([.int .u8 (iv 0), .int .u8 (iv 1), .int .u8 (iv 2), .int .u8 (iv 3), .int .u8 (iv 4), .int .u8 (iv 5), .int .u8 (iv 6), .int .u8 (iv 7), .int .u8 (iv 8), .int .u8 (iv 9), .int .u8 (iv 10), .int .u8 (iv 11), .int .u8 (iv 12), .int .u8 (iv 13), .int .u8 (iv 14), .int .u8 (iv 15)] : List Value), v.oneCell' = true := by simp [Value.oneCell']
  have c4 : Ch w3 (w3.alloc (STO (some ⟨D, 0, none⟩) m m off)).drew w3.heap.size := (Ch.alloc w3 _ _).trans (Ch.drew _ _)
  have s4 : (w3.alloc (STO (some ⟨D, 0, none⟩) m m off)).drew.heap.size = w3.heap.size + 1 := by show (w3.alloc _).heap.size = _; simp
  have o4 : (w3.drew.alloc (STO (some ⟨D, 0, none⟩) m m off)).cell? ⟨O, 0, none⟩ = some (.slice (some ⟨D, 0, none⟩) m m) := (c4.cell O 0 lO (by omega)).trans o3
  have r4 : (w3.drew.alloc (STO (some ⟨D, 0, none⟩) m m off)).rangeAt w.heap.size 0 [.int .u8 (iv 0), .int .u8 (iv 1), .int .u8 (iv 2), .int .u8 (iv 3), .int .u8 (iv 4), .int .u8 (iv 5), .int .u8 (iv 6), .int .u8 (iv 7), .int .u8 (iv 8), .int .u8 (iv 9), .int .u8 (iv 10), .int .u8 (iv 11), .int .u8 (iv 12), .int .u8 (iv 13), .int .u8 (iv 14), .int .u8 (iv 15)] := fun j v hv => by
    have h := c4.cell w.heap.size (0 + j) (by omega) (by omega)
    exact h.trans (r3 j v hv)
  have k4 : ∀ i, i < n → (w3.alloc (STO (some ⟨D, 0, none⟩) m m off)).drew.cell? ⟨K, p + i, none⟩ = some (.int .u8 (kb i)) := fun i hi => by
    have hl := cell_lt (HKc.out i hi)
    exact (c4.cell K (p + i) (by omega) (by omega)).trans ((c3.cell K (p + i) hl (by omega)).trans (HKc.out i hi))
  have hn4 : (w3.alloc (STO (some ⟨D, 0, none⟩) m m off)).drew.heap[w3.heap.size]? = some (STO (some ⟨D, 0, none⟩) m m off) := heap_alloc_new w3 _
  have M0 := Lib.hid (cell_of_row _ _ 0 _ 30 _ hn4)
  have M1 := Lib.hid (cell_of_row _ _ 1 _ 30 _ hn4)
  have M2 := Lib.hid (cell_of_row _ _ 2 _ 30 _ hn4)
  obtain ⟨g2, hg2⟩ : ∃ g2 : Nat → Int, g2 = fun x => if x < m then bits .xor .u8 (cut g m x) (ks t (scht t (cut kb n) nk (4 * (R + 1 + 1))) R (addlo (l64 (cut iv 16) 8) (off / 16)) (addhi (l64 (cut iv 16) 8) (l64 (cut iv 16) 0) (off / 16)) (bo + x)) else 0 := ⟨_, rfl⟩
  have f3 := SO.out.row
  rw [← hg2] at f3
  have bg2 : Bd m 256 g2 := fun i hi => by
    subst hg2
    show 0 ≤ (if i < m then _ else _) ∧ (if i < m then _ else _) < _
    rw [if_pos hi]
    exact bd8 _ _ _
  have B4 := Lib.hid (show Byt (w3.alloc (STO (some ⟨D, 0, none⟩) m m off)).drew (some ⟨D, 0, none⟩) m g2 from fun _ => ⟨D, 0, rfl, fun i hi => by rw [Nat.zero_add]; exact (f3.ch c4 (by omega)).has i hi⟩)
  have T4 := Lib.hid ((HT.out.ch c3 (by omega)).ch c4 (by omega))
  have C3 := Lib.hid c3
  have C4 := Lib.hid c4
  have K4 := Lib.hid k4
  have G2 := Lib.hid hg2
  have BG2 := Lib.hid bg2
  have S3 := Lib.hid s3
  have S4 := Lib.hid s4
  clear c3 i3 c4 s3 k4 hn4 hg2 f3 bg2 s4
  go_region_held3 (fun w' => w'.rangeAt w.heap.size 0 [.int .u8 (iv 0), .int .u8 (iv 1), .int .u8 (iv 2), .int .u8 (iv 3), .int .u8 (iv 4), .int .u8 (iv 5), .int .u8 (iv 6), .int .u8 (iv 7), .int .u8 (iv 8), .int .u8 (iv 9), .int .u8 (iv 10), .int .u8 (iv 11), .int .u8 (iv 12), .int .u8 (iv 13), .int .u8 (iv 14), .int .u8 (iv 15)] ∧ w'.cell? ⟨O, 0, none⟩ = some (.slice (some ⟨D, 0, none⟩) m m)) (first | exact ⟨r3, o3⟩ | exact ⟨r4, o4⟩ | exact ⟨r5, o5⟩)
    (first
      | (go_at_call 5
         refine (stream_any t K p n c nk R w3.heap.size m m bo kb iv g2 #[.int .u8 (iv 0), .int .u8 (iv 1), .int .u8 (iv 2), .int .u8 (iv 3), .int .u8 (iv 4), .int .u8 (iv 5), .int .u8 (iv 6), .int .u8 (iv 7), .int .u8 (iv 8), .int .u8 (iv 9), .int .u8 (iv 10), .int .u8 (iv 11), .int .u8 (iv 12), .int .u8 (iv 13), .int .u8 (iv 14), .int .u8 (iv 15)] (some ⟨D, 0, none⟩) off _ T4.out HK.out HN.out HNK.out HR.out (by rw [S4.out]; omega) K4.out HKb.out rfl (ivl_at iv) HIb.out M0.out M1.out M2.out hm B4.out BG2.out ho0 (by omega) HBO.out).mono ?_
         rintro e w5 ⟨O2, D2, cap2, rfl, hcap2, hO2, hD2, so2⟩
         rw [S4.out] at hO2 hD2
         have o5 : w5.cell? ⟨O, 0, none⟩ = some (.slice (some ⟨D, 0, none⟩) m m) := (so2.ch.cell O 0 (by rw [S4.out]; omega) (by rw [S4.out]; omega)).trans o4
         have r5 : w5.rangeAt w.heap.size 0 [.int .u8 (iv 0), .int .u8 (iv 1), .int .u8 (iv 2), .int .u8 (iv 3), .int .u8 (iv 4), .int .u8 (iv 5), .int .u8 (iv 6), .int .u8 (iv 7), .int .u8 (iv 8), .int .u8 (iv 9), .int .u8 (iv 10), .int .u8 (iv 11), .int .u8 (iv 12), .int .u8 (iv 13), .int .u8 (iv 14), .int .u8 (iv 15)] := fun j v hv => (so2.ch.cell w.heap.size (0 + j) (by rw [S4.out]; have := S3.out; omega) (by rw [S4.out]; have := S3.out; omega)).trans (r4 j v hv)))
  have s4 := S4.out
  have s5 := so2.ch.size
  have c5 := (C3.out.trans_new C4.out (by have := S3.out; omega)).trans_new so2.ch (by have := S3.out; omega)
  have o6 : w5.cell? ⟨O2, 0, none⟩ = some (.slice (some ⟨D2, 0, none⟩) m m) := so2.out
  have bD : Byt w5 (some ⟨D2, 0, none⟩) m g := fun _ => ⟨D2, 0, rfl, fun i hi => by
    rw [Nat.zero_add]
    refine (so2.row.has i hi).trans ?_
    have hgi := HG.out i hi
    have e : cut g2 m i = bits .xor .u8 (g i) (ks t (scht t (cut kb n) nk (4 * (R + 1 + 1))) R (addlo (l64 (cut iv 16) 8) (off / 16)) (addhi (l64 (cut iv 16) 8) (l64 (cut iv 16) 0) (off / 16)) (bo + i)) := by
      rw [G2.out]
      simp [cut, hi]
    show some (Value.int .u8 (if i < m then _ else _)) = _
    rw [if_pos hi, e, xor8_self _ _ hgi.1 hgi.2 (ks_bd _ _ _ _ _ _).1 (ks_bd _ _ _ _ _ _).2]⟩
  have bB : Byt w5 aB m g := HB.out.ch c5
  have cv1 := fun k => cvt (w5.drewN k) (some ⟨D2, 0, none⟩) m m g (bD.ch (Ch.drewN w5 _ k))
  have cv2 := fun k => cvt (w5.drewN k) aB m cB g (bB.ch (Ch.drewN w5 _ k))
  have C5 := Lib.hid c5
  clear so2 c5 bD bB r3 r4 r5 o3 o4 o5 u23 i23 l23 o23 s4 s5
  go_wp2_with fail
  go_quiet (fail)
  go_wp2
  go_ret
  exact ⟨rfl, C5.out.trans (Ch.drewN _ _ _)⟩
/-- FnStreamBack answers true, whatever the tables hold. -/
theorem fsb_any (t : Tab) (aK aB : Option Addr) (n c m cB : Nat) (kb iv g : Nat → Int) (off : Int) (w : World)
    (ht : Tabs t w) (hk : TabOk t) (h10 : 10 ≤ w.heap.size) (hK : Byt w aK n kb) (hkb : Bd n 256 kb) (hivb : Bd 16 256 iv) (hB : Byt w aB m g) (hg : Bd m 256 g) (ho0 : 0 ≤ off) :
    Calls Tryd.prog 3 #[.slice aK n c, .agg #[.int .u8 (iv 0), .int .u8 (iv 1), .int .u8 (iv 2), .int .u8 (iv 3), .int .u8 (iv 4), .int .u8 (iv 5), .int .u8 (iv 6), .int .u8 (iv 7), .int .u8 (iv 8), .int .u8 (iv 9), .int .u8 (iv 10), .int .u8 (iv 11), .int .u8 (iv 12), .int .u8 (iv 13), .int .u8 (iv 14), .int .u8 (iv 15)], .slice aB m cB, .int .u64 off] w fun e w' => e = .returned (.bool true) ∧ Ch w w' w.heap.size := by
  by_cases h : (n = 16 ∨ n = 24 ∨ n = 32) ∧ m ≤ 4096 ∧ off ≤ 1152921504606846976
  · obtain ⟨h1, h2, h3⟩ := h
    obtain ⟨K, p, rfl, hc⟩ := hK (by omega)
    obtain ⟨nk, hn, hnk⟩ : ∃ nk, n = 4 * nk ∧ (nk = 4 ∨ nk = 6 ∨ nk = 8) := ⟨n / 4, by omega, by omega⟩
    exact fsb_main t K p n c nk (nk + 5) m cB (off % 16).toNat kb iv g aB off w ht hk hn hnk rfl h10 hc hkb hivb h2 hB hg ho0 h3 (by omega)
  · exact fsb_early aK aB n c m cB _ off w h
end Go.Proofs.YtpgnjlgcgghihaaDoor
