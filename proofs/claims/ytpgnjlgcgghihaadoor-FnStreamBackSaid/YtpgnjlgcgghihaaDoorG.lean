/- Walk of XORKeyStreamAt. -/
import Derived.Test.YtpgnjlgcgghihaaDoorF
import Derived.Deep.DeepCutAuto
import Derived.StillTailTactics
namespace Go.Proofs.YtpgnjlgcgghihaaDoor
open Go.RowKit

/-- A slice cut from K on, K at most the length: the rest; where something is left, at its place. -/
theorem sl22x (a : Option Addr) (B p m c K : Nat) (l : Int) (hl : l = (K : Int)) (hK : p + K ≤ m) (hmc : m ≤ c) (ha : p < m → a = some ⟨B, p, none⟩) :
    ∃ a', (∀ w, (Instr.slice 22 (.slice a (m - p) (c - p)) (some (.int .i64 l)) none none).run Tryd.prog w = .ok (.slice a' (m - (p + K)) (c - (p + K))) w) ∧ (p + K < m → a' = some ⟨B, p + K, none⟩) := by
  subst hl
  have hu : Tryd.prog.underlying 22 = some (.slice 5) := Tryd.underlying22
  refine ⟨if c - p = K then a else a.map (·.add K), fun w => ?_, fun h => ?_⟩
  · have h1 : K ≤ m - p := by omega
    have e1 : m - p - K = m - (p + K) := by omega
    have e2 : c - p - K = c - (p + K) := by omega
    simp [Instr.slice, run_underlying hu, Instr.sliceBounds, Instr.sliceBound, asIntOf, h1, e1, e2]
  · rw [if_neg (by omega), ha (by omega)]
    simp [add_off]

theorem sl23 (B bo : Nat) (h : bo < 16) (w : World) :
    (Instr.sliceAt 23 (.pointer (some ⟨B, 0, none⟩)) (some (.int .u64 (bo : Int))) none none).run Tryd.prog w = .ok (.slice (some ⟨B, bo, none⟩) (16 - bo) (16 - bo)) w := by
  have h1 : bo ≤ 16 := by omega
  have h2 : ¬ 16 = bo := by omega
  simp [Instr.sliceAt, run_underlying Tryd.underlying23, Instr.sureAddr, Instr.sliceBounds, Instr.sliceBound, asIntOf, h1, h2, add_off]
/-- What stands in the slots and in memory where p of m bytes are done. -/
structure St (t : Tab) (en : Nat → Int) (R : Nat) (L H : Int) (bo D S m cS : Nat) (f g : Nat → Int) (w : World) (p : Nat) (v1 v2 v8 v9 : Value) (wr : World) : Prop where
  le : p ≤ m
  dst : ∃ a, v1 = .slice a (m - p) (m - p) ∧ (p < m → a = some ⟨D, p, none⟩)
  src : ∃ a, v2 = .slice a (m - p) (cS - p) ∧ (p < m → a = some ⟨S, p, none⟩)
  ctr : ∃ x y : Int, v8 = .int .u64 x ∧ v9 = .int .u64 y ∧ 0 ≤ x ∧ x < 18446744073709551616 ∧ 0 ≤ y ∧ y < 18446744073709551616 ∧ (p < m → (bo + p) % 16 = 0 ∧ x = addlo L ((bo + p) / 16 : Nat) ∧ y = addhi L H ((bo + p) / 16 : Nat))
  ch : Ch w wr D
  row : FRow wr D 5 m (fun x => if x < p then bits .xor .u8 (g x) (ks t en R L H (bo + x)) else f x)

theorem arr128 (a : Option Addr) (l c : Nat) (h : 128 ≤ l) (w : World) : (Instr.arrayAt 98 (.slice a l c)).run Tryd.prog w = .ok (.pointer a) w := by
  have h1 : ¬ l < 128 := by omega
  simp [Instr.arrayAt, run_underlying Tryd.underlying98, h1]
theorem arr64 (a : Option Addr) (l c : Nat) (h : 64 ≤ l) (w : World) : (Instr.arrayAt 99 (.slice a l c)).run Tryd.prog w = .ok (.pointer a) w := by
  have h1 : ¬ l < 64 := by omega
  simp [Instr.arrayAt, run_underlying Tryd.underlying99, h1]
theorem arr32 (a : Option Addr) (l c : Nat) (h : 32 ≤ l) (w : World) : (Instr.arrayAt 100 (.slice a l c)).run Tryd.prog w = .ok (.pointer a) w := by
  have h1 : ¬ l < 32 := by omega
  simp [Instr.arrayAt, run_underlying Tryd.underlying100, h1]
theorem arr16 (a : Option Addr) (l c : Nat) (h : 16 ≤ l) (w : World) : (Instr.arrayAt 23 (.slice a l c)).run Tryd.prog w = .ok (.pointer a) w := by
  have h1 : ¬ l < 16 := by omega
  simp [Instr.arrayAt, run_underlying Tryd.underlying23, h1]
def sliceLen : Value → Nat
  | .slice _ n _ => n
  | _ => 0
section
variable {t : Tab} {en : Nat → Int} {R : Nat} {L H : Int} {bo D S m cS : Nat} {f g : Nat → Int} {w : World} {p : Nat} {v1 v2 v8 v9 : Value} {wr : World}
theorem St.opens (h : St t en R L H bo D S m cS f g w p v1 v2 v8 v9 wr) (hp : p < m) :
    v1 = .slice (some ⟨D, p, none⟩) (m - p) (m - p) ∧ v2 = .slice (some ⟨S, p, none⟩) (m - p) (cS - p) ∧
      v8 = .int .u64 (addlo L ((bo + p) / 16 : Nat)) ∧ v9 = .int .u64 (addhi L H ((bo + p) / 16 : Nat)) ∧ (bo + p) % 16 = 0 := by
  obtain ⟨a, rfl, ha⟩ := h.dst
  obtain ⟨b, rfl, hb⟩ := h.src
  obtain ⟨x, y, rfl, rfl, _, _, _, _, hc⟩ := h.ctr
  obtain ⟨h1, rfl, rfl⟩ := hc hp
  rw [ha hp, hb hp]
  exact ⟨rfl, rfl, rfl, rfl, h1⟩
theorem St.len (h : St t en R L H bo D S m cS f g w p v1 v2 v8 v9 wr) : ∃ a, v2 = .slice a (m - p) (cS - p) := by
  obtain ⟨b, rfl, _⟩ := h.src
  exact ⟨b, rfl⟩
theorem St.opens2 {a2 : Option Addr} (h : St t en R L H bo D S m cS f g w p v1 (.slice a2 (m - p) (cS - p)) v8 v9 wr) (hp : p < m) :
    v1 = .slice (some ⟨D, p, none⟩) (m - p) (m - p) ∧ a2 = some ⟨S, p, none⟩ ∧
      v8 = .int .u64 (addlo L ((bo + p) / 16 : Nat)) ∧ v9 = .int .u64 (addhi L H ((bo + p) / 16 : Nat)) ∧ (bo + p) % 16 = 0 := by
  obtain ⟨h1, h2, h3⟩ := h.opens hp
  injection h2 with h2 _ _
  exact ⟨h1, h2, h3⟩
theorem row_next (hmod : (bo + p) % 16 = 0) (K x : Nat) :
    cpy (fun x => if x < p then bits .xor .u8 (g x) (ks t en R L H (bo + x)) else f x) (fun x => bits .xor .u8 (g (p + x)) (ks t en R (addlo L ((bo + p) / 16 : Nat)) (addhi L H ((bo + p) / 16 : Nat)) x)) p 0 K x =
      if x < p + K then bits .xor .u8 (g x) (ks t en R L H (bo + x)) else f x := by
  unfold cpy
  by_cases h : p ≤ x ∧ x < p + K
  · rw [if_pos h, if_pos h.2]
    have e1 : p + (0 + (x - p)) = x := by omega
    have e2 : 16 * ((bo + p) / 16) + (0 + (x - p)) = bo + x := by omega
    show bits .xor .u8 (g (p + (0 + (x - p)))) (ks t en R (addlo L ((bo + p) / 16 : Nat)) (addhi L H ((bo + p) / 16 : Nat)) (0 + (x - p))) = _
    rw [ks_shift, e1, e2]
  · rw [if_neg h]
    show (if x < p then bits .xor .u8 (g x) (ks t en R L H (bo + x)) else f x) = _
    by_cases h2 : x < p
    · rw [if_pos h2, if_pos (by omega)]
    · rw [if_neg h2, if_neg (by omega)]
theorem tail_eq (hmod : (bo + p) % 16 = 0) (n : Nat) (hn : n ≤ 16) (hm : p + n = m) (x : Nat) :
    cpy (fun x => if x < p then bits .xor .u8 (g x) (ks t en R L H (bo + x)) else f x)
        (cpy (fun _ => 0) (fun x => bits .xor .u8 (cpy (fun _ => 0) g 0 p n (0 + x)) (ks t en R (addlo L ((bo + p) / 16 : Nat)) (addhi L H ((bo + p) / 16 : Nat)) x)) 0 0 16) p 0 n x =
      if x < m then bits .xor .u8 (g x) (ks t en R L H (bo + x)) else f x := by
  have h1 := row_next (t := t) (en := en) (R := R) (L := L) (H := H) (f := f) (g := g) hmod n x
  rw [hm] at h1
  rw [← h1]
  unfold cpy
  by_cases h : p ≤ x ∧ x < p + n
  · rw [if_pos h, if_pos h, if_pos (by omega)]
    have e1 : 0 + (0 + (x - p) - 0) = 0 + (x - p) := by omega
    rw [e1]
    have e2 : 0 + (0 + (x - p)) = 0 + (x - p) := by omega
    simp only [e2]
    rw [if_pos (by omega)]
    have e3 : p + (0 + (x - p) - 0) = p + (0 + (x - p)) := by omega
    rw [e3]
  · rw [if_neg h, if_neg h]
theorem St.next (h : St t en R L H bo D S m cS f g w p v1 v2 v8 v9 wr) (q K : Nat) (hK : K = 16 * q) (hKm : p + K ≤ m) (hmod : (bo + p) % 16 = 0) {w' : World} (c : Ch wr w' D)
    (hf : FRow w' D 5 m (cpy (fun x => if x < p then bits .xor .u8 (g x) (ks t en R L H (bo + x)) else f x) (fun x => bits .xor .u8 (g (p + x)) (ks t en R (addlo L ((bo + p) / 16 : Nat)) (addhi L H ((bo + p) / 16 : Nat)) x)) p 0 K))
    {aD aS : Option Addr} (hD : p + K < m → aD = some ⟨D, p + K, none⟩) (hS : p + K < m → aS = some ⟨S, p + K, none⟩) (l : Int) (hl : l = (q : Int)) :
    St t en R L H bo D S m cS f g w (p + K) (.slice aD (m - (p + K)) (m - (p + K))) (.slice aS (m - (p + K)) (cS - (p + K)))
      (.int .u64 (addlo (addlo L ((bo + p) / 16 : Nat)) l)) (.int .u64 (addhi (addlo L ((bo + p) / 16 : Nat)) (addhi L H ((bo + p) / 16 : Nat)) l)) w' := by
  refine ⟨hKm, ⟨_, rfl, hD⟩, ⟨_, rfl, hS⟩, ⟨_, _, rfl, rfl, (addlo_bd _ _).1, (addlo_bd _ _).2, (addhi_bd _ _ _).1, (addhi_bd _ _ _).2, fun _ => ?_⟩, h.ch.trans c, hf.congr fun x _ => row_next hmod K x⟩
  subst hl
  have e : (bo + (p + K)) / 16 = (bo + p) / 16 + q := by omega
  have e2 : (((bo + p) / 16 : Nat) : Int) + (q : Int) = (((bo + p) / 16 + q : Nat) : Int) := by omega
  rw [addlo_add, addhi_add, e, e2]
  exact ⟨by omega, rfl, rfl⟩
end
/-- A new array of sixteen noughts. -/
def Z16 : Obj := .cells #[.int .u8 0, .int .u8 0, .int .u8 0, .int .u8 0, .int .u8 0, .int .u8 0, .int .u8 0, .int .u8 0, .int .u8 0, .int .u8 0, .int .u8 0, .int .u8 0, .int .u8 0, .int .u8 0, .int .u8 0, .int .u8 0] 23
theorem zero16 (w : World) : FRow (w.alloc Z16) w.heap.size 23 16 (fun _ => 0) := by
  refine ⟨_, heap_alloc_new w _, rfl, fun i hi => ?_⟩
  match i, hi with
  | 0, _ => rfl
  | 1, _ => rfl
  | 2, _ => rfl
  | 3, _ => rfl
  | 4, _ => rfl
  | 5, _ => rfl
  | 6, _ => rfl
  | 7, _ => rfl
  | 8, _ => rfl
  | 9, _ => rfl
  | 10, _ => rfl
  | 11, _ => rfl
  | 12, _ => rfl
  | 13, _ => rfl
  | 14, _ => rfl
  | 15, _ => rfl
  | k + 16, h => exact absurd h (by omega)
theorem two16 (w : World) (n : Nat) : FRow (((w.drewN n).alloc Z16).alloc Z16) w.heap.size 23 16 (fun _ => 0) ∧ FRow (((w.drewN n).alloc Z16).alloc Z16) (w.heap.size + 1) 23 16 (fun _ => 0) ∧ Ch w (((w.drewN n).alloc Z16).alloc Z16) w.heap.size := by
  refine ⟨(zero16 (w.drewN n)).ch (Ch.alloc _ (w.heap.size + 1) _) (by show w.heap.size ≠ _; omega), ?_, ((Ch.drewN _ _ _).trans (Ch.alloc _ _ _)).trans (Ch.alloc _ _ _)⟩
  have h := zero16 ((w.drewN n).alloc Z16)
  have e : ((w.drewN n).alloc Z16).heap.size = w.heap.size + 1 := by simp
  rw [e] at h
  exact h
theorem two16b (w : World) : FRow ((w.alloc Z16).alloc Z16) w.heap.size 23 16 (fun _ => 0) ∧ FRow ((w.alloc Z16).alloc Z16) (w.heap.size + 1) 23 16 (fun _ => 0) ∧ Ch w ((w.alloc Z16).alloc Z16) w.heap.size := two16 w 0
theorem cpy_bd (f g : Nat → Int) (o p n N M : Nat) (hf : Bd N 256 f) (hg : Bd M 256 g) (h : p + n ≤ M) : Bd N 256 (cpy f g o p n) := by
  intro x hx
  unfold cpy
  split
  · exact hg _ (by omega)
  · exact hf x hx
theorem zero_bd (N : Nat) : Bd N 256 (fun _ => 0) := fun _ _ => by simp
/-- The two copies around one block: what comes out at the front. -/
theorem out_eq (t : Tab) (en f g : Nat → Int) (R bo n : Nat) (L H : Int) (hn : bo + n ≤ 16) (x : Nat) :
    cpy f (cpy (fun _ => 0) (fun x => bits .xor .u8 (cpy (fun _ => 0) g bo 0 n (0 + x)) (ks t en R L H x)) 0 0 16) 0 bo n x = if x < n then bits .xor .u8 (g x) (ks t en R L H (bo + x)) else f x := by
  unfold cpy
  by_cases h : x < n
  · have e1 : bo + (x - 0) = bo + x := by omega
    have e2 : 0 + (bo + x - 0) = bo + x := by omega
    have e3 : 0 + (bo + x) = bo + x := by omega
    have e4 : 0 + (bo + x - bo) = x := by omega
    rw [if_pos (by omega), if_pos h, e1, if_pos (by omega), e2]
    simp only [e3]
    rw [if_pos (by omega), e4]
  · rw [if_neg (by omega), if_neg h]

set_option maxRecDepth 100000 in
set_option maxHeartbeats 10000000 in
theorem xka_any (t : Tab) (X D S m cS R bo : Nat) (en f g : Nat → Int) (aS : Option Addr) (lo hi off : Int) (w : World)
    (ht : Tabs t w) (hk : TabOk t) (hK : KRow w X (R + 1) en) (hr2 : R ≤ 13) (hr1 : 1 ≤ R)
    (hx1 : w.cell? ⟨X, 121, none⟩ = some (.int .u64 lo)) (hx2 : w.cell? ⟨X, 122, none⟩ = some (.int .u64 hi))
    (h0 : 0 ≤ lo) (h1 : lo < 18446744073709551616) (h2 : 0 ≤ hi) (ho0 : 0 ≤ off) (ho1 : off < 18446744073709551616) (hbo : off % 16 = (bo : Int))
    (hF : FRow w D 5 m f) (hm : m ≤ 4096) (haS : 0 < m → aS = some ⟨S, 0, none⟩) (hcS : m ≤ cS) (hG : 0 < m → FRow w S 5 cS g) (hSD : S ≠ D) (hXD : X ≠ D) (hD10 : 10 ≤ D)
    (hg : Bd cS 256 g) :
    Calls Tryd.prog 10 #[.pointer (some ⟨X, 0, none⟩), .slice (some ⟨D, 0, none⟩) m m, .slice aS m cS, .int .u64 off] w
      fun r' w' => r' = .returned (.tuple #[]) ∧ Ch w w' D ∧ FRow w' D 5 m (fun x => if x < m then bits .xor .u8 (g x) (ks t en R (addlo lo (off / 16)) (addhi lo hi (off / 16)) (bo + x)) else f x) := by
  have hXl := hK.lt
  have hDl := hF.lt
  have hsz := ht.size
  have HT := Lib.hid ht
  have HK := Lib.hid hK
  have HF := Lib.hid hF
  have HG := Lib.hid hG
  have Hk := Lib.hid hk
  have Hg := Lib.hid hg
  have HaS := Lib.hid haS
  have HSD := Lib.hid hSD
  have HXD := Lib.hid hXD
  have HD10 := Lib.hid hD10
  have hb1 : bo < 16 := by omega
  have Hbo := Lib.hid hbo
  clear ht hk hK hF hG hg haS hSD hbo hXD hD10
  go_enter Tryd.func10, Tryd.ntmps10
  go_upto_region 3 with fail
  go_quiet ((go_at_call 15; exact Calls.quiet_of_same ((add128_any _ _ _ _ h0 h1 h2 (by omega) (by omega)).mono (fun _ _ h => ⟨h.1, h.2.symm⟩))))
  clear hx1 hx2
  go_upto_if 43 with fail
  rw [Hbo.out]
  have bL := addlo_bd lo (off / 16)
  have bH := addhi_bd lo hi (off / 16)
  obtain ⟨L, hL⟩ : ∃ L, L = addlo lo (off / 16) := ⟨_, rfl⟩
  obtain ⟨H, hH⟩ : ∃ H, H = addhi lo hi (off / 16) := ⟨_, rfl⟩
  rw [← hL, ← hH]
  rw [← hL] at bL
  rw [← hH] at bH
  have HL := Lib.hid hL
  have HH := Lib.hid hH
  clear hL hH h0 h1 h2 ho0 ho1 Hbo
  obtain ⟨bL0, bL1⟩ := bL
  obtain ⟨bH0, bH1⟩ := bH
  go_cut [1, 2, 8, 9] (fun v1 v2 v8 v9 wc => ∃ p, St t en R L H bo D S m cS f g w p v1 v2 v8 v9 wc)
  case first =>
    by_cases hb : bo = 0
    · subst hb
      go_wp2_with fail
      go_meet
      case rel =>
        refine ⟨0, Nat.zero_le _, ⟨_, rfl, fun _ => rfl⟩, ⟨_, rfl, HaS.out⟩, ⟨_, _, rfl, rfl, bL0, bL1, bH0, bH1, fun _ => ⟨rfl, ?_, ?_⟩⟩, Ch.drewN _ _ _, HF.out.congr fun x _ => by rw [if_neg (by omega)]⟩
        · exact (addlo_zero L bL0 bL1).symm
        · exact (addhi_zero L H bL0 bL1 bH0 bH1).symm
    · have hb2 : ((bo : Int) != 0) = true := by simpa using hb
      obtain ⟨n, hn⟩ : ∃ n, n = min m (16 - bo) := ⟨_, rfl⟩
      have n1 : n ≤ m := by omega
      have n2 : bo + n ≤ 16 := by omega
      have n3 : n < m → bo + n = 16 := by omega
      have Hn := Lib.hid (show n = Nat.min m (16 - bo) from hn)
      have N3 := Lib.hid n3
      clear hn n3
      obtain ⟨aS', sS, qS⟩ := sl22x aS S 0 m cS n (n : Int) rfl (by omega) hcS HaS.out
      obtain ⟨aD', sD, qD⟩ := sl22x (some ⟨D, 0, none⟩) D 0 m m n (n : Int) rfl (by omega) (Nat.le_refl _) (fun _ => rfl)
      simp only [Nat.sub_zero, Nat.zero_add] at sS sD qS qD
      have QS := Lib.hid qS
      have QD := Lib.hid qD
      clear qS qD
      have sI := fun w' => sl23 w.heap.size bo hb1 w'
      have sO := fun w' => sl23 (w.heap.size + 1) bo hb1 w'
      go_upto_region 7 with fail
      obtain ⟨fi, fo, cw⟩ := two16 w nq
      have FI := Lib.hid fi
      have FO := Lib.hid fo
      have CW := Lib.hid cw
      clear fi fo cw
      go_upto_region 8 with (refine wpList_copy_frow rfl (.tmp 45) (.tmp 46) rfl (some ⟨w.heap.size, bo, none⟩) aS (16 - bo) (16 - bo) m cS rfl rfl w.heap.size S bo 0 16 n 23 (fun _ => 0) g FI.out Hn.out (fun hp => ⟨rfl, HaS.out (by omega), (fun j hj => ((HG.out (by omega)).ch CW.out (by have := (HG.out (by omega)).lt; omega)).has (0 + j) (by omega)), n2⟩) ?_; intro w1 c1 f1; have C1 := Lib.hid c1; have F1 := Lib.hid f1; clear c1 f1)
      have cw1 := CW.out.trans C1.out
      have T1 := Lib.hid (HT.out.ch cw1 hsz)
      have K1 := Lib.hid (HK.out.ch cw1 (by omega))
      have FO1 := Lib.hid (FO.out.ch C1.out (by omega))
      have CW1 := Lib.hid cw1
      clear cw1
      go_wp2_with fail
      refine (ctr1_any t X (w.heap.size + 1) w.heap.size 0 0 16 16 R 23 23 en (fun _ => 0) (cpy (fun _ => 0) g bo 0 n) L H _ (by exact T1.out) Hk.out (by exact K1.out) hr2 hr1 (by exact FO1.out) (by omega) (by exact F1.out) (by omega) (cpy_bd _ _ _ _ _ 16 cS (zero_bd _) Hg.out (by omega)) bL0 bL1 bH0 bH1).mono ?_
      rintro r2 w2 ⟨rfl, c2, f2⟩
      have C2 := Lib.hid c2
      have F2 := Lib.hid f2
      have CW2 := Lib.hid (CW1.out.trans_new c2 (by omega))
      have FD2 := Lib.hid (HF.out.ch CW2.out (by omega))
      clear c2 f2
      go_upto_region 10 with (refine wpList_copy_frow rfl (.tmp 54) (.tmp 56) rfl (some ⟨D, 0, none⟩) (some ⟨w.heap.size + 1, bo, none⟩) m m (16 - bo) (16 - bo) rfl rfl D (w.heap.size + 1) 0 bo m n 5 f (cpy (fun _ => 0) (fun x => bits .xor .u8 (cpy (fun _ => 0) g bo 0 n (0 + x)) (ks t en R L H x)) 0 0 16) FD2.out (by rw [Hn.out]; exact Nat.min_comm _ _) (fun _ => ⟨rfl, rfl, (fun j hj => F2.out.has (bo + j) (by omega)), by omega⟩) ?_; intro w3 c3 f3; have C3 := Lib.hid c3; have F3 := Lib.hid f3; clear c3 f3)
      have CW3 := Lib.hid (((Ch.refl w D).trans_new CW2.out (Nat.le_refl _)).trans C3.out)
      go_wp2_with fail
      refine (add128_any _ _ _ _ bL0 bL1 bH0 (by omega) (by omega)).mono ?_
      rintro r4 w4 ⟨rfl, rfl⟩
      go_wp2_with fail
      go_meet
      case rel =>
        refine ⟨n, n1, ⟨_, rfl, QD.out⟩, ⟨_, rfl, QS.out⟩, ⟨_, _, rfl, rfl, (addlo_bd _ _).1, (addlo_bd _ _).2, (addhi_bd _ _ _).1, (addhi_bd _ _ _).2, fun hlt => ?_⟩, CW3.out, F3.out.congr fun x _ => out_eq t en f g R bo n L H n2 x⟩
        have e := N3.out hlt
        have e1 : (bo + n) / 16 = 1 := by omega
        rw [e1]
        exact ⟨by omega, rfl, rfl⟩
  case rest =>
    obtain ⟨p0, hst0⟩ := hcut
    have hXD : X ≠ D := HXD.out
    have hD10 : 10 ≤ D := HD10.out
    have HST0 := Lib.hid hst0
    clear hst0
    go_wp2_with fail
    go_loopw [1, 2, 8, 9] (fun v1 v2 v8 v9 wr => ∃ p, St t en R L H bo D S m cS f g w p v1 v2 v8 v9 wr) (fun _ v2 _ _ _ => sliceLen v2)
    case atStart => exact ⟨p0, HST0.out⟩
    case round =>
      obtain ⟨p, hst⟩ := hrel
      clear HST0
      have hle := hst.le
      by_cases hlt : p + 128 ≤ m
      · obtain ⟨rfl, rfl, rfl, rfl, hmod⟩ := hst.opens (by omega)
        obtain ⟨aS', sS, qS⟩ := sl22x (some ⟨S, p, none⟩) S p m cS 128 128 rfl (by omega) hcS (fun _ => rfl)
        obtain ⟨aD', sD, qD⟩ := sl22x (some ⟨D, p, none⟩) D p m m 128 128 rfl (by omega) (Nat.le_refl _) (fun _ => rfl)
        have QS := Lib.hid qS
        have QD := Lib.hid qD
        have HS := Lib.hid hst
        have HM := Lib.hid hmod
        have T1 := Lib.hid (HT.out.ch hst.ch (by omega))
        have K1 := Lib.hid (HK.out.ch hst.ch hXD)
        have G1 := Lib.hid ((HG.out (by omega)).ch hst.ch HSD.out)
        clear qS qD hst hmod
        have bq1 := addlo_bd L ((bo + p) / 16 : Nat)
        have bq2 := addhi_bd L H ((bo + p) / 16 : Nat)
        obtain ⟨bq1a, bq1b⟩ := bq1
        obtain ⟨bq2a, bq2b⟩ := bq2
        have arS := fun w' => arr128 (some ⟨S, p, none⟩) (m - p) (cS - p) (by omega) w'
        have arD := fun w' => arr128 (some ⟨D, p, none⟩) (m - p) (m - p) (by omega) w'
        go_wp2_with fail
        go_still_tail 9, (by kernel_rfl)
        go_wp2_with fail
        refine (ctr8_any t X D S p p m cS R 5 5 en _ g _ _ _ (by exact T1.out.ch (Ch.drew _ D) (by omega)) Hk.out (by exact K1.out.ch (Ch.drew _ D) hXD) hr2 hr1 (by exact HS.out.row.drew) (by omega) (by exact G1.out.drew) (by omega) Hg.out bq1a bq1b bq2a bq2b).mono ?_
        rintro r1 w1 ⟨rfl, c1, f1⟩
        have C1 := Lib.hid c1
        have F1 := Lib.hid f1
        clear c1 f1
        go_wp2_with fail
        refine (add128_any _ _ _ _ bq1a bq1b bq2a (by omega) (by omega)).mono ?_
        rintro r2 w2 ⟨rfl, rfl⟩
        go_wp2_with fail
        go_roundw
        case rel => exact ⟨p + 128, HS.out.next 8 128 rfl (by omega) HM.out ((Ch.drew _ _).trans C1.out) F1.out QD.out QS.out 8 rfl⟩
        case measure => simp [sliceLen]; omega
      · obtain ⟨a2, rfl⟩ := hst.len
        have HS := Lib.hid hst
        clear hst
        go_upto_if 95 with fail
        go_cut [1, 2, 8, 9] (fun v1 v2 v8 v9 wc => ∃ p, m < p + 64 ∧ St t en R L H bo D S m cS f g w p v1 v2 v8 v9 wc)
        case first =>
          by_cases hle2 : p + 64 ≤ m
          · have hst := HS.out
            clear HS
            obtain ⟨rfl, rfl, rfl, rfl, hmod⟩ := hst.opens2 (by omega)
            obtain ⟨aS', sS, qS⟩ := sl22x (some ⟨S, p, none⟩) S p m cS 64 64 rfl (by omega) hcS (fun _ => rfl)
            obtain ⟨aD', sD, qD⟩ := sl22x (some ⟨D, p, none⟩) D p m m 64 64 rfl (by omega) (Nat.le_refl _) (fun _ => rfl)
            have QS := Lib.hid qS
            have QD := Lib.hid qD
            have HS := Lib.hid hst
            have HM := Lib.hid hmod
            have T1 := Lib.hid (HT.out.ch hst.ch (by omega))
            have K1 := Lib.hid (HK.out.ch hst.ch hXD)
            have G1 := Lib.hid ((HG.out (by omega)).ch hst.ch HSD.out)
            clear qS qD hst hmod
            have bq1 := addlo_bd L ((bo + p) / 16 : Nat)
            have bq2 := addhi_bd L H ((bo + p) / 16 : Nat)
            obtain ⟨bq1a, bq1b⟩ := bq1
            obtain ⟨bq2a, bq2b⟩ := bq2
            have arS := fun w' => arr64 (some ⟨S, p, none⟩) (m - p) (cS - p) (by omega) w'
            have arD := fun w' => arr64 (some ⟨D, p, none⟩) (m - p) (m - p) (by omega) w'
            go_wp2_with fail
            go_still_tail 9, (by kernel_rfl)
            go_wp2_with fail
            refine (ctr4_any t X D S p p m cS R 5 5 en _ g _ _ _ (by exact T1.out.ch (Ch.drew _ D) (by omega)) Hk.out (by exact K1.out.ch (Ch.drew _ D) hXD) hr2 hr1 (by exact HS.out.row.drew) (by omega) (by exact G1.out.drew) (by omega) Hg.out bq1a bq1b bq2a bq2b).mono ?_
            rintro r1 w1 ⟨rfl, c1, f1⟩
            have C1 := Lib.hid c1
            have F1 := Lib.hid f1
            clear c1 f1
            go_wp2_with fail
            refine (add128_any _ _ _ _ bq1a bq1b bq2a (by omega) (by omega)).mono ?_
            rintro r2 w2 ⟨rfl, rfl⟩
            go_wp2_with fail
            go_meet
            case rel => exact ⟨p + 64, by omega, HS.out.next 4 64 rfl (by omega) HM.out ((Ch.drew _ _).trans C1.out) F1.out QD.out QS.out 4 rfl⟩
          · go_wp2_with fail
            go_meet
            case rel => exact ⟨p, by omega, HS.out⟩
        case rest =>
          clear HS
          obtain ⟨p, hlt64, hst⟩ := hcut
          have hle64 := hst.le
          obtain ⟨a2, rfl⟩ := hst.len
          have HS := Lib.hid hst
          clear hst
          go_upto_if 118 with fail
          go_cut [1, 2, 8, 9] (fun v1 v2 v8 v9 wc => ∃ p, m < p + 32 ∧ St t en R L H bo D S m cS f g w p v1 v2 v8 v9 wc)
          case first =>
            by_cases hle2 : p + 32 ≤ m
            · have hst := HS.out
              clear HS
              obtain ⟨rfl, rfl, rfl, rfl, hmod⟩ := hst.opens2 (by omega)
              obtain ⟨aS', sS, qS⟩ := sl22x (some ⟨S, p, none⟩) S p m cS 32 32 rfl (by omega) hcS (fun _ => rfl)
              obtain ⟨aD', sD, qD⟩ := sl22x (some ⟨D, p, none⟩) D p m m 32 32 rfl (by omega) (Nat.le_refl _) (fun _ => rfl)
              have QS := Lib.hid qS
              have QD := Lib.hid qD
              have HS := Lib.hid hst
              have HM := Lib.hid hmod
              have T1 := Lib.hid (HT.out.ch hst.ch (by omega))
              have K1 := Lib.hid (HK.out.ch hst.ch hXD)
              have G1 := Lib.hid ((HG.out (by omega)).ch hst.ch HSD.out)
              clear qS qD hst hmod
              have bq1 := addlo_bd L ((bo + p) / 16 : Nat)
              have bq2 := addhi_bd L H ((bo + p) / 16 : Nat)
              obtain ⟨bq1a, bq1b⟩ := bq1
              obtain ⟨bq2a, bq2b⟩ := bq2
              have arS := fun w' => arr32 (some ⟨S, p, none⟩) (m - p) (cS - p) (by omega) w'
              have arD := fun w' => arr32 (some ⟨D, p, none⟩) (m - p) (m - p) (by omega) w'
              go_wp2_with fail
              go_still_tail 9, (by kernel_rfl)
              go_wp2_with fail
              refine (ctr2_any t X D S p p m cS R 5 5 en _ g _ _ _ (by exact T1.out.ch (Ch.drew _ D) (by omega)) Hk.out (by exact K1.out.ch (Ch.drew _ D) hXD) hr2 hr1 (by exact HS.out.row.drew) (by omega) (by exact G1.out.drew) (by omega) Hg.out bq1a bq1b bq2a bq2b).mono ?_
              rintro r1 w1 ⟨rfl, c1, f1⟩
              have C1 := Lib.hid c1
              have F1 := Lib.hid f1
              clear c1 f1
              go_wp2_with fail
              refine (add128_any _ _ _ _ bq1a bq1b bq2a (by omega) (by omega)).mono ?_
              rintro r2 w2 ⟨rfl, rfl⟩
              go_wp2_with fail
              go_meet
              case rel => exact ⟨p + 32, by omega, HS.out.next 2 32 rfl (by omega) HM.out ((Ch.drew _ _).trans C1.out) F1.out QD.out QS.out 2 rfl⟩
            · go_wp2_with fail
              go_meet
              case rel => exact ⟨p, by omega, HS.out⟩
          case rest =>
            clear HS
            obtain ⟨p, hlt32, hst⟩ := hcut
            have hle32 := hst.le
            obtain ⟨a2, rfl⟩ := hst.len
            have HS := Lib.hid hst
            clear hst
            go_upto_if 141 with fail
            go_cut [1, 2, 8, 9] (fun v1 v2 v8 v9 wc => ∃ p, m < p + 16 ∧ St t en R L H bo D S m cS f g w p v1 v2 v8 v9 wc)
            case first =>
              by_cases hle2 : p + 16 ≤ m
              · have hst := HS.out
                clear HS
                obtain ⟨rfl, rfl, rfl, rfl, hmod⟩ := hst.opens2 (by omega)
                obtain ⟨aS', sS, qS⟩ := sl22x (some ⟨S, p, none⟩) S p m cS 16 16 rfl (by omega) hcS (fun _ => rfl)
                obtain ⟨aD', sD, qD⟩ := sl22x (some ⟨D, p, none⟩) D p m m 16 16 rfl (by omega) (Nat.le_refl _) (fun _ => rfl)
                have QS := Lib.hid qS
                have QD := Lib.hid qD
                have HS := Lib.hid hst
                have HM := Lib.hid hmod
                have T1 := Lib.hid (HT.out.ch hst.ch (by omega))
                have K1 := Lib.hid (HK.out.ch hst.ch hXD)
                have G1 := Lib.hid ((HG.out (by omega)).ch hst.ch HSD.out)
                clear qS qD hst hmod
                have bq1 := addlo_bd L ((bo + p) / 16 : Nat)
                have bq2 := addhi_bd L H ((bo + p) / 16 : Nat)
                obtain ⟨bq1a, bq1b⟩ := bq1
                obtain ⟨bq2a, bq2b⟩ := bq2
                have arS := fun w' => arr16 (some ⟨S, p, none⟩) (m - p) (cS - p) (by omega) w'
                have arD := fun w' => arr16 (some ⟨D, p, none⟩) (m - p) (m - p) (by omega) w'
                go_wp2_with fail
                go_still_tail 9, (by kernel_rfl)
                go_wp2_with fail
                refine (ctr1_any t X D S p p m cS R 5 5 en _ g _ _ _ (by exact T1.out.ch (Ch.drew _ D) (by omega)) Hk.out (by exact K1.out.ch (Ch.drew _ D) hXD) hr2 hr1 (by exact HS.out.row.drew) (by omega) (by exact G1.out.drew) (by omega) Hg.out bq1a bq1b bq2a bq2b).mono ?_
                rintro r1 w1 ⟨rfl, c1, f1⟩
                have C1 := Lib.hid c1
                have F1 := Lib.hid f1
                clear c1 f1
                go_wp2_with fail
                refine (add128_any _ _ _ _ bq1a bq1b bq2a (by omega) (by omega)).mono ?_
                rintro r2 w2 ⟨rfl, rfl⟩
                go_wp2_with fail
                go_meet
                case rel => exact ⟨p + 16, by omega, HS.out.next 1 16 rfl (by omega) HM.out ((Ch.drew _ _).trans C1.out) F1.out QD.out QS.out 1 rfl⟩
              · go_wp2_with fail
                go_meet
                case rel => exact ⟨p, by omega, HS.out⟩
            case rest =>
              clear HS
              obtain ⟨p, hlt16, hst⟩ := hcut
              have hle16 := hst.le
              obtain ⟨a2, rfl⟩ := hst.len
              have HS := Lib.hid hst
              clear hst
              by_cases hz : p = m
              · have HZ := Lib.hid hz
                have hb : (((m - p : Nat) : Int) != 0) = false := by
                  have e : m - p = 0 := by omega
                  rw [e]; rfl
                clear hz
                go_wp2_with fail
                go_end0
                have hrow := HS.out.row
                rw [HZ.out, HL.out, HH.out] at hrow
                exact ⟨rfl, HS.out.ch, hrow⟩
              · have hb : (((m - p : Nat) : Int) != 0) = true := by
                  have e : ¬ ((m - p : Nat) : Int) = 0 := by omega
                  simpa using e
                have hst := HS.out
                clear HS
                obtain ⟨rfl, rfl, rfl, rfl, hmod⟩ := hst.opens2 (by omega)
                obtain ⟨n, hn⟩ : ∃ n, n = m - p := ⟨_, rfl⟩
                have n1 : n ≤ 16 := by omega
                have n2 : p + n = m := by omega
                have N2 := Lib.hid n2
                have Hn16 := Lib.hid (show n = Nat.min (m - p) 16 from by have e : Nat.min (m - p) 16 = min (m - p) 16 := rfl; rw [e]; omega)
                have Hn16' := Lib.hid (show n = Nat.min 16 (m - p) from by have e : Nat.min 16 (m - p) = min 16 (m - p) := rfl; rw [e]; omega)
                clear hn n2
                have HS := Lib.hid hst
                have HM := Lib.hid hmod
                have T1 := Lib.hid (HT.out.ch hst.ch (by omega))
                have K1 := Lib.hid (HK.out.ch hst.ch hXD)
                have G1 := Lib.hid ((HG.out (by omega)).ch hst.ch HSD.out)
                have hwl := hst.ch.size
                clear hst hmod
                have bq1 := addlo_bd L ((bo + p) / 16 : Nat)
                have bq2 := addhi_bd L H ((bo + p) / 16 : Nat)
                obtain ⟨bq1a, bq1b⟩ := bq1
                obtain ⟨bq2a, bq2b⟩ := bq2
                go_upto_region 35 with fail
                obtain ⟨fi, fo, cw⟩ := two16b wc
                have FI := Lib.hid fi
                have FO := Lib.hid fo
                have CW := Lib.hid cw
                clear fi fo cw
                go_upto_region 36 with (refine wpList_copy_frow rfl (.tmp 165) (.tmp 166) rfl (some ⟨wc.heap.size, 0, none⟩) (some ⟨S, p, none⟩) 16 16 (m - p) (cS - p) rfl rfl wc.heap.size S 0 p 16 n 23 (fun _ => 0) g FI.out Hn16.out (fun hp => ⟨rfl, rfl, (fun j hj => (G1.out.ch CW.out (by have := G1.out.lt; omega)).has (p + j) (by have := N2.out; omega)), by omega⟩) ?_; intro w1 c1 f1; have C1 := Lib.hid c1; have F1 := Lib.hid f1; clear c1 f1)
                have cw1 := CW.out.trans C1.out
                have T2 := Lib.hid (T1.out.ch cw1 (by omega))
                have K2 := Lib.hid (K1.out.ch cw1 (by have := K1.out.lt; omega))
                have FO1 := Lib.hid (FO.out.ch C1.out (by omega))
                have CW1 := Lib.hid cw1
                clear cw1
                go_wp2_with fail
                refine (ctr1_any t X (wc.heap.size + 1) wc.heap.size 0 0 16 16 R 23 23 en (fun _ => 0) (cpy (fun _ => 0) g 0 p n) (addlo L ((bo + p) / 16 : Nat)) (addhi L H ((bo + p) / 16 : Nat)) _ (by exact T2.out) Hk.out (by exact K2.out) hr2 hr1 (by exact FO1.out) (by omega) (by exact F1.out) (by omega) (cpy_bd _ _ _ _ _ 16 cS (zero_bd _) Hg.out (by have := N2.out; omega)) bq1a bq1b bq2a bq2b).mono ?_
                rintro r2 w2 ⟨rfl, c2, f2⟩
                have C2 := Lib.hid c2
                have F2 := Lib.hid f2
                have CW2 := Lib.hid (CW1.out.trans_new c2 (by omega))
                have FD2 := Lib.hid (HS.out.row.ch CW2.out (by omega))
                clear c2 f2
                go_wp2_with (refine wpList_copy_frow rfl (.tmp 174) (.tmp 175) rfl (some ⟨D, p, none⟩) (some ⟨wc.heap.size + 1, 0, none⟩) (m - p) (m - p) 16 16 rfl rfl D (wc.heap.size + 1) p 0 m n 5 _ (cpy (fun _ => 0) (fun x => bits .xor .u8 (cpy (fun _ => 0) g 0 p n (0 + x)) (ks t en R (addlo L ((bo + p) / 16 : Nat)) (addhi L H ((bo + p) / 16 : Nat)) x)) 0 0 16) FD2.out Hn16'.out (fun _ => ⟨rfl, rfl, (fun j hj => F2.out.has (0 + j) (by omega)), by have := N2.out; omega⟩) ?_; intro w3 c3 f3; have C3 := Lib.hid c3; have F3 := Lib.hid f3; clear c3 f3)
                go_end0
                refine ⟨rfl, HS.out.ch.trans (((Ch.refl wc D).trans_new CW2.out (Nat.le_refl _)).trans C3.out), ?_⟩
                rw [← HL.out, ← HH.out]
                exact F3.out.congr fun x _ => tail_eq HM.out n n1 N2.out x
end Go.Proofs.YtpgnjlgcgghihaaDoor
