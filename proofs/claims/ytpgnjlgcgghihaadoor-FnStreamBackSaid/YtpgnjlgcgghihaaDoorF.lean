/- Walks of encryptBlock, ctrBlocks and its four doors. -/
import Derived.Test.YtpgnjlgcgghihaaDoorE
import Derived.StillTailTactics
namespace Go.Proofs.YtpgnjlgcgghihaaDoor
open Go.RowKit

set_option maxHeartbeats 400000 in
theorem encb_any (t : Tab) (C D o n c N R : Nat) (e : TypeId) (en f : Nat → Int) (w : World) (hn : 16 ≤ n) (hm : n ≤ 9223372036854775807)
    (ht : Tabs t w) (hk : TabOk t) (hK : KRow w C (R + 1) en) (hr2 : R ≤ 13) (hr1 : 1 ≤ R) (hF : FRow w D e N f) (hN : o + 16 ≤ N) (hf : Bd N 256 f) (hcap : n ≤ c) (hcm : c ≤ 9223372036854775807) :
    Calls Tryd.prog 25 #[.pointer (some ⟨C, 0, none⟩), .slice (some ⟨D, o, none⟩) n c, .slice (some ⟨D, o, none⟩) n c] w fun r' w' => r' = .returned (.tuple #[]) ∧ Ch w w' D ∧ FRow w' D e N (enc t en f R o) := by
  have H := Lib.hid (enc_any t C D o n c N R e en f w hn hm ht hk hK hr2 hr1 hF hN hf hcap hcm)
  clear ht hk hK hF hf
  go_enter Tryd.func25, Tryd.ntmps25
  go_wp2_with (fail)
  refine H.out.mono ?_
  rintro r1 w1 ⟨rfl, c1, f1⟩
  go_wp2
  go_end0
  exact ⟨rfl, c1, f1⟩

theorem sl22 (B o m c k : Nat) (l : Int) (hl : l = (k : Int)) (h : k ≤ m) (hc : k < c) (w : World) :
    (Instr.slice 22 (.slice (some ⟨B, o, none⟩) m c) (some (.int .i64 l)) none none).run Tryd.prog w = .ok (.slice (some ⟨B, o + k, none⟩) (m - k) (c - k)) w := by
  subst hl
  have hu : Tryd.prog.underlying 22 = some (.slice 5) := Tryd.underlying22
  have hsz : (Tryd.prog.info? 5).map (·.size) = some 1 := by kernel_rfl
  have hsz' : ∀ w, (sizeOf 5).run Tryd.prog w = .ok 1 w := by
    intro w
    cases hi : Tryd.prog.info? 5 with
    | none => rw [hi] at hsz; cases hsz
    | some i =>
      rw [hi] at hsz
      simp only [Option.map_some, Option.some.injEq] at hsz
      simp [sizeOf, typeInfo, hi, hsz]
  have hck : ¬ c = k := by omega
  simp [Instr.slice, run_underlying hu, Instr.sliceBounds, Instr.sliceBound, asIntOf, hsz', h, hck, add_off]
/-- A new row of c noughts. -/
def zeros (c : Nat) : Obj := .cells (madeCells #[.int .u8 0] c) 5
theorem mk22 (l : Int) (c : Nat) (h0 : 0 ≤ l) (hl : l ≤ (c : Int)) (hc : c ≤ 2147483648) (w : World) :
    (Instr.makeSlice 22 (.int .i64 l) (.int .i64 (c : Int))).run Tryd.prog w = .ok (.slice (some ⟨w.heap.size, 0, none⟩) l.toNat c) (w.alloc (zeros c)) := by
  have hu : Tryd.prog.underlying 22 = some (.slice 5) := Tryd.underlying22
  have info5 : (Tryd.prog.info? 5).map (fun i => (i.zero, i.size, i.bytes)) = some (some (.int .u8 0), 1, 1) := by kernel_rfl
  cases hi : Tryd.prog.info? 5 with
  | none => rw [hi] at info5; cases info5
  | some i =>
    rw [hi] at info5
    simp only [Option.map_some, Option.some.injEq, Prod.mk.injEq] at info5
    obtain ⟨hz, hs, hb⟩ := info5
    have h := run_make (P := Tryd.prog) w 22 5 i (.int .u8 0) hu hi hz .i64 .i64 l c h0 hl (by rw [hb]; omega) (by omega)
    rw [h, hs]
    simp [zeros, Value.cells]
theorem FRow.zeros (w : World) (c : Nat) : FRow (w.alloc (zeros c)) w.heap.size 5 c (fun _ => 0) := by
  refine ⟨_, heap_alloc_new w _, size_madeCells _ _, fun i hi => ?_⟩
  have e : i % 1 = 0 := by omega
  simp [madeCells, hi, e]
set_option maxHeartbeats 1000000 in
theorem ctr_any (t : Tab) (C D S o p q m c c2 N M R : Nat) (e e2 : TypeId) (en f g : Nat → Int) (lo hi : Int) (w : World)
    (ht : Tabs t w) (hk : TabOk t) (hK : KRow w C (R + 1) en) (hr2 : R ≤ 13) (hr1 : 1 ≤ R) (hq1 : 1 ≤ q) (hq2 : q ≤ 8) (hm : m = 16 * q)
    (hF : FRow w D e N f) (hN : o + m ≤ N) (hG : FRow w S e2 M g) (hM : p + m ≤ M) (hg : Bd M 256 g)
    (h0 : 0 ≤ lo) (h1 : lo < 18446744073709551616) (h2 : 0 ≤ hi) (h3 : hi < 18446744073709551616) :
    Calls Tryd.prog 22 #[.pointer (some ⟨C, 0, none⟩), .slice (some ⟨D, o, none⟩) m c, .slice (some ⟨S, p, none⟩) m c2, .int .u64 lo, .int .u64 hi] w
      fun r' w' => r' = .returned (.tuple #[]) ∧ Ch w w' D ∧ FRow w' D e N (cpy f (fun x => bits .xor .u8 (g (p + x)) (ks t en R lo hi x)) o 0 (16 * q)) := by
  have hDl := hF.lt
  have hSl := hG.lt
  have hCl := hK.lt
  have mk := fun w => mk22 (m : Int) 128 (by omega) (by omega) (by omega) w
  simp only [Int.cast_ofNat_Int] at mk
  have m1 : 16 ≤ m := by omega
  have m2 : m ≤ 128 := by omega
  have Hm := Lib.hid hm
  have HT := Lib.hid ht
  have HK := Lib.hid hK
  have HF := Lib.hid hF
  have HG := Lib.hid hG
  have Hk := Lib.hid hk
  have Hg := Lib.hid hg
  clear ht hK hF hk hG hg hm
  go_enter Tryd.func22, Tryd.ntmps22
  go_wp2
  clear mk
  go_loopw [3, 4, 11] (fun lo' hi' i wr => ∃ k : Nat, k ≤ q ∧ i = .int .i64 (16 * (k : Int)) ∧ lo' = .int .u64 (addlo lo k) ∧ hi' = .int .u64 (addhi lo hi k) ∧ Ch w wr w.heap.size ∧ FRow wr w.heap.size 5 128 (bufk t en R lo hi k)) (fun _ _ i _ => 128 - (intOf i).toNat)
  case atStart =>
    refine ⟨0, by omega, rfl, ?_, ?_, Ch.alloc _ _ _, (FRow.zeros w 128).congr (fun i _ => ?_)⟩
    · rw [Int.natCast_zero, addlo_zero lo h0 h1]
    · rw [Int.natCast_zero, addhi_zero lo hi h0 h1 h2 h3]
    · unfold bufk; rw [if_neg (by omega)]
  case round =>
    obtain ⟨k, hk, rfl, rfl, rfl, hc, hr⟩ := hrel
    by_cases hlt : k < q
    · have m3 : 16 * k + 16 ≤ m := by have := Hm.out; omega
      have a1 := addlo_bd lo k
      have a2 := addhi_bd lo hi k
      obtain ⟨a1l, a1h⟩ := a1
      obtain ⟨a2l, a2h⟩ := a2
      have b0 := bufk_bd t en R lo hi k 128
      have B0 := Lib.hid b0
      have HC := Lib.hid hc
      have HR := Lib.hid hr
      clear hc hr b0
      go_wp2_with (fail)
      refine (put64_any w.heap.size _ _ _ 128 5 _ _ _ (by omega) (by omega) a2l a2h (by exact HR.out) (by omega)).mono ?_
      rintro r1 w1 ⟨rfl, c1, f1⟩
      have C1 := Lib.hid c1
      have F1 := Lib.hid f1
      clear c1 f1
      go_wp2_with (fail)
      refine (put64_any w.heap.size _ _ _ 128 5 _ _ _ (by omega) (by omega) a1l a1h (by exact F1.out) (by omega)).mono ?_
      rintro r2 w2 ⟨rfl, c2, f2⟩
      have C2 := Lib.hid c2
      have F2 := Lib.hid f2
      clear c2 f2
      go_wp2_with (fail)
      refine (add128_any _ _ _ _ a1l a1h a2l (by omega) (by omega)).mono ?_
      rintro r3 w3 ⟨rfl, rfl⟩
      go_wp2_with (fail)
      have sl := fun w' => sl22 w.heap.size 0 m 128 (16 * k) (16 * (k : Int)) (by omega) (by omega) (by omega) w'
      simp only [Nat.zero_add] at sl
      go_still_tail 7, (by kernel_rfl)
      clear sl
      have C02 := ((HC.out.trans C1.out).trans C2.out).trans (Ch.drew _ _)
      have T2 := Lib.hid (HT.out.ch C02 HT.out.size)
      have K2 := Lib.hid (HK.out.ch C02 (by omega))
      have CC := Lib.hid C02
      clear C02
      go_wp2_with (fail)
      refine (encb_any t C w.heap.size _ _ _ 128 R 5 en _ _ (by omega) (by omega) (by exact T2.out) Hk.out (by exact K2.out) hr2 hr1 (by exact F2.out.drew) (by omega) (put64_bd _ _ _ _ _ (put64_bd _ _ _ _ _ B0.out)) (by omega) (by omega)).mono ?_
      rintro r4 w4 ⟨rfl, c4, f4⟩
      have C4 := Lib.hid c4
      have F4 := Lib.hid f4
      clear c4 f4
      go_wp2
      go_roundw
      case rel =>
        refine ⟨k + 1, by omega, by go_num, ?_, ?_, CC.out.trans C4.out, F4.out.congr fun x _ => bufk_step t en R lo hi k x⟩
        · rw [addlo_add]; rfl
        · rw [addhi_add]; rfl
      case measure => simp [intOf]; omega
    · obtain rfl : k = q := by omega
      have HR := Lib.hid hr
      have HC := Lib.hid hc
      have m4 : 16 * k = m := Hm.out.symm
      have M4 := Lib.hid m4
      have m5 : m ≤ 16 * k := by omega
      have b0 := Lib.hid (bufk_bd t en R lo hi k 128)
      clear hr hc m4
      go_wp2_with (fail)
      refine (xor_any w.heap.size S 0 p m 128 c2 128 M 5 e2 _ g _ (by omega) (by omega) (by exact HR.out) (by omega) (by exact HG.out.ch HC.out (by omega)) (by omega) (by omega) b0.out Hg.out).mono ?_
      rintro r5 w5 ⟨rfl, c5, f5⟩
      have C5 := Lib.hid c5
      have F5 := Lib.hid f5
      clear c5 f5
      have CD := Lib.hid (HC.out.trans C5.out)
      have HF5 := Lib.hid (HF.out.ch CD.out (by omega))
      go_wp2_with (refine wpList_copy_frow rfl (.tmp 50) (.tmp 51) rfl (some ⟨D, o, none⟩) (some ⟨w.heap.size, 0, none⟩) m c m 128 rfl rfl D w.heap.size o 0 N m e f (xorK (bufk t en R lo hi k) g 0 p m) HF5.out (by simp) (fun _ => ⟨rfl, rfl, (fun j hj => F5.out.has (0 + j) (by omega)), hN⟩) ?_; intro w6 c6 f6; have C6 := Lib.hid c6; have F6 := Lib.hid f6; clear c6 f6)
      go_end0
      refine ⟨rfl, ?_, ?_⟩
      · exact ((Ch.refl w D).trans_new CD.out (Nat.le_refl _)).trans C6.out
      · refine F6.out.congr fun x _ => ?_
        have M5 := M4.out
        unfold cpy
        by_cases hx : o ≤ x ∧ x < o + m
        · rw [if_pos hx, if_pos (by omega)]
          unfold xorK bufk
          have e1 : 0 + (x - o) - 0 = 0 + (x - o) := by omega
          rw [if_pos (by omega), if_pos (by omega), e1]
        · rw [if_neg hx, if_neg (by omega)]
set_option maxHeartbeats 400000 in
theorem ctr1_any (t : Tab) (C D S o p N M R : Nat) (e e2 : TypeId) (en f g : Nat → Int) (lo hi : Int) (w : World)
    (ht : Tabs t w) (hk : TabOk t) (hK : KRow w C (R + 1) en) (hr2 : R ≤ 13) (hr1 : 1 ≤ R)
    (hF : FRow w D e N f) (hN : o + 16 ≤ N) (hG : FRow w S e2 M g) (hM : p + 16 ≤ M) (hg : Bd M 256 g)
    (h0 : 0 ≤ lo) (h1 : lo < 18446744073709551616) (h2 : 0 ≤ hi) (h3 : hi < 18446744073709551616) :
    Calls Tryd.prog 16 #[.pointer (some ⟨C, 0, none⟩), .pointer (some ⟨D, o, none⟩), .pointer (some ⟨S, p, none⟩), .int .u64 lo, .int .u64 hi] w
      fun r' w' => r' = .returned (.tuple #[]) ∧ Ch w w' D ∧ FRow w' D e N (cpy f (fun x => bits .xor .u8 (g (p + x)) (ks t en R lo hi x)) o 0 16) := by
  have hl := hK.lt
  have hs := ht.size
  have H := Lib.hid (ctr_any t C D S o p 1 16 16 16 N M R e e2 en f g lo hi w.drew (ht.ch (Ch.drew w w.heap.size) hs) hk (hK.ch (Ch.drew w w.heap.size) (by omega)) hr2 hr1 (by omega) (by omega) (by omega) hF.drew hN hG.drew hM hg h0 h1 h2 h3)
  clear ht hk hK hF hG hg hl hs
  go_enter Tryd.func16, Tryd.ntmps16
  go_still_tail 9, (by kernel_rfl)
  go_wp2_with (fail)
  refine H.out.mono ?_
  rintro r1 w1 ⟨rfl, c1, f1⟩
  have C1 := Lib.hid c1
  have F1 := Lib.hid f1
  clear c1 f1
  go_wp2
  go_end0
  exact ⟨rfl, (Ch.drew w D).trans C1.out, F1.out⟩
set_option maxHeartbeats 400000 in
theorem ctr8_any (t : Tab) (C D S o p N M R : Nat) (e e2 : TypeId) (en f g : Nat → Int) (lo hi : Int) (w : World)
    (ht : Tabs t w) (hk : TabOk t) (hK : KRow w C (R + 1) en) (hr2 : R ≤ 13) (hr1 : 1 ≤ R)
    (hF : FRow w D e N f) (hN : o + 128 ≤ N) (hG : FRow w S e2 M g) (hM : p + 128 ≤ M) (hg : Bd M 256 g)
    (h0 : 0 ≤ lo) (h1 : lo < 18446744073709551616) (h2 : 0 ≤ hi) (h3 : hi < 18446744073709551616) :
    Calls Tryd.prog 17 #[.pointer (some ⟨C, 0, none⟩), .pointer (some ⟨D, o, none⟩), .pointer (some ⟨S, p, none⟩), .int .u64 lo, .int .u64 hi] w
      fun r' w' => r' = .returned (.tuple #[]) ∧ Ch w w' D ∧ FRow w' D e N (cpy f (fun x => bits .xor .u8 (g (p + x)) (ks t en R lo hi x)) o 0 128) := by
  have hl := hK.lt
  have hs := ht.size
  have H := Lib.hid (ctr_any t C D S o p 8 128 128 128 N M R e e2 en f g lo hi w.drew (ht.ch (Ch.drew w w.heap.size) hs) hk (hK.ch (Ch.drew w w.heap.size) (by omega)) hr2 hr1 (by omega) (by omega) (by omega) hF.drew hN hG.drew hM hg h0 h1 h2 h3)
  clear ht hk hK hF hG hg hl hs
  go_enter Tryd.func17, Tryd.ntmps17
  go_still_tail 9, (by kernel_rfl)
  go_wp2_with (fail)
  refine H.out.mono ?_
  rintro r1 w1 ⟨rfl, c1, f1⟩
  have C1 := Lib.hid c1
  have F1 := Lib.hid f1
  clear c1 f1
  go_wp2
  go_end0
  exact ⟨rfl, (Ch.drew w D).trans C1.out, F1.out⟩
set_option maxHeartbeats 400000 in
theorem ctr4_any (t : Tab) (C D S o p N M R : Nat) (e e2 : TypeId) (en f g : Nat → Int) (lo hi : Int) (w : World)
    (ht : Tabs t w) (hk : TabOk t) (hK : KRow w C (R + 1) en) (hr2 : R ≤ 13) (hr1 : 1 ≤ R)
    (hF : FRow w D e N f) (hN : o + 64 ≤ N) (hG : FRow w S e2 M g) (hM : p + 64 ≤ M) (hg : Bd M 256 g)
    (h0 : 0 ≤ lo) (h1 : lo < 18446744073709551616) (h2 : 0 ≤ hi) (h3 : hi < 18446744073709551616) :
    Calls Tryd.prog 18 #[.pointer (some ⟨C, 0, none⟩), .pointer (some ⟨D, o, none⟩), .pointer (some ⟨S, p, none⟩), .int .u64 lo, .int .u64 hi] w
      fun r' w' => r' = .returned (.tuple #[]) ∧ Ch w w' D ∧ FRow w' D e N (cpy f (fun x => bits .xor .u8 (g (p + x)) (ks t en R lo hi x)) o 0 64) := by
  have hl := hK.lt
  have hs := ht.size
  have H := Lib.hid (ctr_any t C D S o p 4 64 64 64 N M R e e2 en f g lo hi w.drew (ht.ch (Ch.drew w w.heap.size) hs) hk (hK.ch (Ch.drew w w.heap.size) (by omega)) hr2 hr1 (by omega) (by omega) (by omega) hF.drew hN hG.drew hM hg h0 h1 h2 h3)
  clear ht hk hK hF hG hg hl hs
  go_enter Tryd.func18, Tryd.ntmps18
  go_still_tail 9, (by kernel_rfl)
  go_wp2_with (fail)
  refine H.out.mono ?_
  rintro r1 w1 ⟨rfl, c1, f1⟩
  have C1 := Lib.hid c1
  have F1 := Lib.hid f1
  clear c1 f1
  go_wp2
  go_end0
  exact ⟨rfl, (Ch.drew w D).trans C1.out, F1.out⟩
set_option maxHeartbeats 400000 in
theorem ctr2_any (t : Tab) (C D S o p N M R : Nat) (e e2 : TypeId) (en f g : Nat → Int) (lo hi : Int) (w : World)
    (ht : Tabs t w) (hk : TabOk t) (hK : KRow w C (R + 1) en) (hr2 : R ≤ 13) (hr1 : 1 ≤ R)
    (hF : FRow w D e N f) (hN : o + 32 ≤ N) (hG : FRow w S e2 M g) (hM : p + 32 ≤ M) (hg : Bd M 256 g)
    (h0 : 0 ≤ lo) (h1 : lo < 18446744073709551616) (h2 : 0 ≤ hi) (h3 : hi < 18446744073709551616) :
    Calls Tryd.prog 19 #[.pointer (some ⟨C, 0, none⟩), .pointer (some ⟨D, o, none⟩), .pointer (some ⟨S, p, none⟩), .int .u64 lo, .int .u64 hi] w
      fun r' w' => r' = .returned (.tuple #[]) ∧ Ch w w' D ∧ FRow w' D e N (cpy f (fun x => bits .xor .u8 (g (p + x)) (ks t en R lo hi x)) o 0 32) := by
  have hl := hK.lt
  have hs := ht.size
  have H := Lib.hid (ctr_any t C D S o p 2 32 32 32 N M R e e2 en f g lo hi w.drew (ht.ch (Ch.drew w w.heap.size) hs) hk (hK.ch (Ch.drew w w.heap.size) (by omega)) hr2 hr1 (by omega) (by omega) (by omega) hF.drew hN hG.drew hM hg h0 h1 h2 h3)
  clear ht hk hK hF hG hg hl hs
  go_enter Tryd.func19, Tryd.ntmps19
  go_still_tail 9, (by kernel_rfl)
  go_wp2_with (fail)
  refine H.out.mono ?_
  rintro r1 w1 ⟨rfl, c1, f1⟩
  have C1 := Lib.hid c1
  have F1 := Lib.hid f1
  clear c1 f1
  go_wp2
  go_end0
  exact ⟨rfl, (Ch.drew w D).trans C1.out, F1.out⟩
end Go.Proofs.YtpgnjlgcgghihaaDoor
