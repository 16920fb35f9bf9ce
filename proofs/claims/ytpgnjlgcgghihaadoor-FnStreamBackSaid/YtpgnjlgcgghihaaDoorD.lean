/- Walk of encryptBlockGeneric. -/
import Derived.Test.YtpgnjlgcgghihaaDoorC
namespace Go.Proofs.YtpgnjlgcgghihaaDoor
open Go.RowKit

/-- Block C bears, from its start on, the number of rounds and the words of the cipher. -/
structure KRow (w : World) (C : Nat) (r : Nat) (en : Nat → Int) : Prop where
  lt : C < w.heap.size
  r : w.cell? ⟨C, 0, none⟩ = some (.int .i64 r)
  en : ∀ i, i < 60 → w.cell? ⟨C, 1 + i, none⟩ = some (.int .u32 (en i))
theorem KRow.ch {w w' : World} {C D r : Nat} {en : Nat → Int} (h : KRow w C r en) (c : Ch w w' D) (hd : C ≠ D) : KRow w' C r en :=
  ⟨Nat.lt_of_lt_of_le h.lt c.size, (c.cell C 0 h.lt hd).trans h.r, fun i hi => (c.cell C (1 + i) h.lt hd).trans (h.en i hi)⟩

def mix (t : Tab) (k a b c d : Int) : Int :=
  bits .xor .u32 (bits .xor .u32 (bits .xor .u32 (bits .xor .u32 k (t.T0 (a / 16777216).toNat)) (t.T1 (b / 65536 % 256).toNat)) (t.T2 (c / 256 % 256).toNat)) (t.T3 (d % 256).toNat)
def sta (t : Tab) (en s : Nat → Int) : Nat → Nat → Int
  | 0, i => s i
  | j + 1, 0 => mix t (en (4 * j + 4)) (sta t en s j 0) (sta t en s j 1) (sta t en s j 2) (sta t en s j 3)
  | j + 1, 1 => mix t (en (4 * j + 5)) (sta t en s j 1) (sta t en s j 2) (sta t en s j 3) (sta t en s j 0)
  | j + 1, 2 => mix t (en (4 * j + 6)) (sta t en s j 2) (sta t en s j 3) (sta t en s j 0) (sta t en s j 1)
  | j + 1, _ => mix t (en (4 * j + 7)) (sta t en s j 3) (sta t en s j 0) (sta t en s j 1) (sta t en s j 2)
theorem mix_bd (t : Tab) (k a b c d : Int) : 0 ≤ mix t k a b c d ∧ mix t k a b c d < 4294967296 := bd32 _ _ _
theorem sta_bd (t : Tab) (en s : Nat → Int) (hs : ∀ i, 0 ≤ s i ∧ s i < 4294967296) : ∀ j i, 0 ≤ sta t en s j i ∧ sta t en s j i < 4294967296 := by
  intro j i
  cases j with
  | zero => exact hs i
  | succ j =>
    by_cases h0 : i = 0
    · subst h0; rw [sta]; exact mix_bd _ _ _ _ _ _
    · by_cases h1 : i = 1
      · subst h1; rw [sta]; exact mix_bd _ _ _ _ _ _
      · by_cases h2 : i = 2
        · subst h2; rw [sta]; exact mix_bd _ _ _ _ _ _
        · simp only [sta]; exact mix_bd _ _ _ _ _ _
theorem chk_any (w : World) : Calls Tryd.prog 29 #[] w fun e w' => e = .returned (.tuple #[]) ∧ w = w' := by
  go_enter Tryd.func29, Tryd.ntmps29
  go_wp2
  go_end0
  exact ⟨rfl, rfl⟩
def word (f : Nat → Int) (o : Nat) : Int := be32 (f o) (f (o + 1)) (f (o + 2)) (f (o + 3))
def ini (en f : Nat → Int) (o i : Nat) : Int := bits .xor .u32 (word f (o + 4 * i)) (en i)
theorem ini_bd (en f : Nat → Int) (o i : Nat) : 0 ≤ ini en f o i ∧ ini en f o i < 4294967296 := bd32 _ _ _
def oth (j : Nat) (x : Int) : Int := if j = 0 then 0 else x
theorem word_any (D o c N : Nat) (e : TypeId) (f : Nat → Int) (w : World) (hF : FRow w D e N f) (hN : o + 4 ≤ N) (hf : Bd N 256 f) :
    Calls Tryd.prog 30 #[.slice (some ⟨D, o, none⟩) 4 c] w fun e w' => e = .returned (.int .u32 (word f o)) ∧ ∃ k, w' = w.drewN k := by
  have b0 := hf o (by omega)
  have b1 := hf (o + 1) (by omega)
  have b2 := hf (o + 2) (by omega)
  have b3 := hf (o + 3) (by omega)
  exact be32_any D o 4 c _ _ _ _ w (by omega) (by omega) b0.1 b0.2 b1.1 b1.2 b2.1 b2.2 b3.1 b3.2 (hF.has o (by omega)) (hF.has (o + 1) (by omega)) (hF.has (o + 2) (by omega)) (hF.has (o + 3) (by omega))

theorem tabT0 {t : Tab} {w : World} {x : Int} (ht : Tabs t w) (h0 : 0 ≤ x) (h1 : x < 4294967296) :
    (∀ w, (Instr.indexAt 80 (.pointer (some ⟨6, 0, none⟩)) (.int .u8 (x / 16777216))).run Tryd.prog w = .ok (.pointer (some ⟨6, (x / 16777216).toNat, none⟩)) w) ∧ w.cell? ⟨6, (x / 16777216).toNat, none⟩ = some (.int .u32 (t.T0 (x / 16777216).toNat)) :=
  ⟨fun w => at80 w 6 .u8 _ (by omega) (by omega), ht.T0 _ (by omega)⟩
theorem tabT1 {t : Tab} {w : World} {x : Int} (ht : Tabs t w) (_h0 : 0 ≤ x) (_h1 : x < 4294967296) :
    (∀ w, (Instr.indexAt 80 (.pointer (some ⟨7, 0, none⟩)) (.int .u8 (x / 65536 % 256))).run Tryd.prog w = .ok (.pointer (some ⟨7, (x / 65536 % 256).toNat, none⟩)) w) ∧ w.cell? ⟨7, (x / 65536 % 256).toNat, none⟩ = some (.int .u32 (t.T1 (x / 65536 % 256).toNat)) :=
  ⟨fun w => at80 w 7 .u8 _ (by omega) (by omega), ht.T1 _ (by omega)⟩
theorem tabT2 {t : Tab} {w : World} {x : Int} (ht : Tabs t w) (_h0 : 0 ≤ x) (_h1 : x < 4294967296) :
    (∀ w, (Instr.indexAt 80 (.pointer (some ⟨8, 0, none⟩)) (.int .u8 (x / 256 % 256))).run Tryd.prog w = .ok (.pointer (some ⟨8, (x / 256 % 256).toNat, none⟩)) w) ∧ w.cell? ⟨8, (x / 256 % 256).toNat, none⟩ = some (.int .u32 (t.T2 (x / 256 % 256).toNat)) :=
  ⟨fun w => at80 w 8 .u8 _ (by omega) (by omega), ht.T2 _ (by omega)⟩
theorem tabT3 {t : Tab} {w : World} {x : Int} (ht : Tabs t w) (_h0 : 0 ≤ x) (_h1 : x < 4294967296) :
    (∀ w, (Instr.indexAt 80 (.pointer (some ⟨9, 0, none⟩)) (.int .u8 (x % 256))).run Tryd.prog w = .ok (.pointer (some ⟨9, (x % 256).toNat, none⟩)) w) ∧ w.cell? ⟨9, (x % 256).toNat, none⟩ = some (.int .u32 (t.T3 (x % 256).toNat)) :=
  ⟨fun w => at80 w 9 .u8 _ (by omega) (by omega), ht.T3 _ (by omega)⟩

theorem tabS0 {t : Tab} {w : World} {x : Int} (ht : Tabs t w) (hk : TabOk t) (h0 : 0 ≤ x) (h1 : x < 4294967296) :
    (∀ w, (Instr.indexAt 81 (.pointer (some ⟨2, 0, none⟩)) (.int .u32 (x / 16777216))).run Tryd.prog w = .ok (.pointer (some ⟨2, (x / 16777216).toNat, none⟩)) w) ∧ w.cell? ⟨2, (x / 16777216).toNat, none⟩ = some (.int .u8 (t.S (x / 16777216).toNat)) ∧
    0 ≤ t.S (x / 16777216).toNat ∧ t.S (x / 16777216).toNat < 256 :=
  ⟨fun w => at81 w 2 .u32 _ (by omega) (by omega), ht.S _ (by omega), hk.S _ (by omega)⟩
theorem tabSx {t : Tab} {w : World} {x : Int} (ht : Tabs t w) (hk : TabOk t) (h0 : 0 ≤ x) (h1 : x < 4294967296) :
    (∀ w, (Instr.indexAt 81 (.pointer (some ⟨2, 0, none⟩)) (.int .u32 (bits .and .u32 x 255))).run Tryd.prog w = .ok (.pointer (some ⟨2, (bits .and .u32 x 255).toNat, none⟩)) w) ∧ w.cell? ⟨2, (bits .and .u32 x 255).toNat, none⟩ = some (.int .u8 (t.S (bits .and .u32 x 255).toNat)) ∧
    0 ≤ t.S (bits .and .u32 x 255).toNat ∧ t.S (bits .and .u32 x 255).toNat < 256 := by
  have b := lo8_bd x h0 h1
  exact ⟨fun w => at81 w 2 .u32 _ b.1 b.2, ht.S _ (by omega), hk.S _ (by omega)⟩
theorem tabS1 {t : Tab} {w : World} {x : Int} (ht : Tabs t w) (hk : TabOk t) (h0 : 0 ≤ x) (h1 : x < 4294967296) :
    (∀ w, (Instr.indexAt 81 (.pointer (some ⟨2, 0, none⟩)) (.int .u32 (bits .and .u32 (x / 65536) 255))).run Tryd.prog w = .ok (.pointer (some ⟨2, (bits .and .u32 (x / 65536) 255).toNat, none⟩)) w) ∧ w.cell? ⟨2, (bits .and .u32 (x / 65536) 255).toNat, none⟩ = some (.int .u8 (t.S (bits .and .u32 (x / 65536) 255).toNat)) ∧
    0 ≤ t.S (bits .and .u32 (x / 65536) 255).toNat ∧ t.S (bits .and .u32 (x / 65536) 255).toNat < 256 := tabSx ht hk (by omega) (by omega)
theorem tabS2 {t : Tab} {w : World} {x : Int} (ht : Tabs t w) (hk : TabOk t) (h0 : 0 ≤ x) (h1 : x < 4294967296) :
    (∀ w, (Instr.indexAt 81 (.pointer (some ⟨2, 0, none⟩)) (.int .u32 (bits .and .u32 (x / 256) 255))).run Tryd.prog w = .ok (.pointer (some ⟨2, (bits .and .u32 (x / 256) 255).toNat, none⟩)) w) ∧ w.cell? ⟨2, (bits .and .u32 (x / 256) 255).toNat, none⟩ = some (.int .u8 (t.S (bits .and .u32 (x / 256) 255).toNat)) ∧
    0 ≤ t.S (bits .and .u32 (x / 256) 255).toNat ∧ t.S (bits .and .u32 (x / 256) 255).toNat < 256 := tabSx ht hk (by omega) (by omega)
def lst (t : Tab) (a b c d : Int) : Int :=
  bits .or .u32 (bits .or .u32 (bits .or .u32 (t.S (a / 16777216).toNat * 16777216) (t.S (bits .and .u32 (b / 65536) 255).toNat * 65536)) (t.S (bits .and .u32 (c / 256) 255).toNat * 256)) (t.S (bits .and .u32 d 255).toNat)
def fin (t : Tab) (en s : Nat → Int) (j : Nat) : Nat → Int
  | 0 => bits .xor .u32 (lst t (sta t en s j 0) (sta t en s j 1) (sta t en s j 2) (sta t en s j 3)) (en (4 * j + 4))
  | 1 => bits .xor .u32 (lst t (sta t en s j 1) (sta t en s j 2) (sta t en s j 3) (sta t en s j 0)) (en (4 * j + 5))
  | 2 => bits .xor .u32 (lst t (sta t en s j 2) (sta t en s j 3) (sta t en s j 0) (sta t en s j 1)) (en (4 * j + 6))
  | _ => bits .xor .u32 (lst t (sta t en s j 3) (sta t en s j 0) (sta t en s j 1) (sta t en s j 2)) (en (4 * j + 7))
theorem fin_bd (t : Tab) (en s : Nat → Int) (j i : Nat) : 0 ≤ fin t en s j i ∧ fin t en s j i < 4294967296 := by
  unfold fin; split <;> exact bd32 _ _ _
/-- The block at place o of f, encrypted by the words en in R + 1 rounds. -/
def enc (t : Tab) (en f : Nat → Int) (R o : Nat) : Nat → Int :=
  put32 (put32 (put32 (put32 f o (fin t en (ini en f o) R 0)) (o + 4) (fin t en (ini en f o) R 1)) (o + 8) (fin t en (ini en f o) R 2)) (o + 12) (fin t en (ini en f o) R 3)

set_option maxRecDepth 100000 in
set_option maxHeartbeats 4000000 in
theorem enc_any (t : Tab) (C D o n c N R : Nat) (e : TypeId) (en f : Nat → Int) (w : World) (hn : 16 ≤ n) (hm : n ≤ 9223372036854775807)
    (ht : Tabs t w) (hk : TabOk t) (hK : KRow w C (R + 1) en) (hr2 : R ≤ 13) (hr1 : 1 ≤ R) (hF : FRow w D e N f) (hN : o + 16 ≤ N) (hf : Bd N 256 f) (hcap : n ≤ c) (hcm : c ≤ 9223372036854775807) :
    Calls Tryd.prog 28 #[.pointer (some ⟨C, 0, none⟩), .slice (some ⟨D, o, none⟩) n c, .slice (some ⟨D, o, none⟩) n c] w fun r' w' => r' = .returned (.tuple #[]) ∧ Ch w w' D ∧ FRow w' D e N (enc t en f R o) := by
  have g15 := hF.has (o + 15) (by omega)
  have k0 := hK.en 0 (by omega)
  have k1 := hK.en 1 (by omega)
  have k2 := hK.en 2 (by omega)
  have k3 := hK.en 3 (by omega)
  have kr : w.cell? ⟨C, 0, none⟩ = some (.int .i64 ((R : Int) + 1)) := hK.r
  have HT := Lib.hid ht
  have HK := Lib.hid hK
  have HF := Lib.hid hF
  have Hk := Lib.hid hk
  have Hf := Lib.hid hf
  clear ht hK hF hk hf
  go_enter Tryd.func28, Tryd.ntmps28
  go_wp2_with (first | (go_at_call 29; refine (chk_any _).mono ?_; rintro e w' ⟨rfl, rfl⟩) | (go_at_call 30; refine (word_any _ _ _ N e f _ (by exact HF.out) (by omega) Hf.out).mono ?_; rintro e w' ⟨rfl, q, rfl⟩))
  clear k0 k1 k2 k3
  go_loopw [7, 8, 9, 10, 11, 12, 13, 14, 15, 16] (fun s0 s1 s2 s3 k t0 t1 t2 t3 i wr => ∃ j : Nat, j ≤ R ∧ i = .int .i64 j ∧ k = .int .i64 (4 * (j : Int) + 4) ∧ s0 = .int .u32 (sta t en (ini en f o) j 0) ∧ s1 = .int .u32 (sta t en (ini en f o) j 1) ∧ s2 = .int .u32 (sta t en (ini en f o) j 2) ∧ s3 = .int .u32 (sta t en (ini en f o) j 3) ∧
     t0 = .int .u32 (oth j (sta t en (ini en f o) j 0)) ∧ t1 = .int .u32 (oth j (sta t en (ini en f o) j 1)) ∧ t2 = .int .u32 (oth j (sta t en (ini en f o) j 2)) ∧ t3 = .int .u32 (oth j (sta t en (ini en f o) j 3)) ∧ ∃ q, wr = w.drewN q) (fun _ _ _ _ _ _ _ _ _ i _ => R - (intOf i).toNat)
  case atStart => exact ⟨0, by omega, rfl, rfl, rfl, rfl, rfl, rfl, rfl, rfl, rfl, rfl, _, rfl⟩
  case round =>
    obtain ⟨j, hj, rfl, rfl, rfl, rfl, rfl, rfl, rfl, rfl, rfl, rfl, q, rfl⟩ := hrel
    have b0 := sta_bd t en (ini en f o) (ini_bd en f o) j 0
    have b1 := sta_bd t en (ini en f o) (ini_bd en f o) j 1
    have b2 := sta_bd t en (ini en f o) (ini_bd en f o) j 2
    have b3 := sta_bd t en (ini en f o) (ini_bd en f o) j 3
    by_cases hlt : j < R
    · clear g15
      obtain ⟨x00, y00⟩ := tabT0 HT.out b0.1 b0.2
      obtain ⟨x01, y01⟩ := tabT0 HT.out b1.1 b1.2
      obtain ⟨x02, y02⟩ := tabT0 HT.out b2.1 b2.2
      obtain ⟨x03, y03⟩ := tabT0 HT.out b3.1 b3.2
      obtain ⟨x10, y10⟩ := tabT1 HT.out b0.1 b0.2
      obtain ⟨x11, y11⟩ := tabT1 HT.out b1.1 b1.2
      obtain ⟨x12, y12⟩ := tabT1 HT.out b2.1 b2.2
      obtain ⟨x13, y13⟩ := tabT1 HT.out b3.1 b3.2
      obtain ⟨x20, y20⟩ := tabT2 HT.out b0.1 b0.2
      obtain ⟨x21, y21⟩ := tabT2 HT.out b1.1 b1.2
      obtain ⟨x22, y22⟩ := tabT2 HT.out b2.1 b2.2
      obtain ⟨x23, y23⟩ := tabT2 HT.out b3.1 b3.2
      obtain ⟨x30, y30⟩ := tabT3 HT.out b0.1 b0.2
      obtain ⟨x31, y31⟩ := tabT3 HT.out b1.1 b1.2
      obtain ⟨x32, y32⟩ := tabT3 HT.out b2.1 b2.2
      obtain ⟨x33, y33⟩ := tabT3 HT.out b3.1 b3.2
      have e0 := HK.out.en (4 * j + 4) (by omega)
      have e1 := HK.out.en (4 * j + 5) (by omega)
      have e2 := HK.out.en (4 * j + 6) (by omega)
      have e3 := HK.out.en (4 * j + 7) (by omega)
      obtain ⟨p0, q0⟩ := b0
      obtain ⟨p1, q1⟩ := b1
      obtain ⟨p2, q2⟩ := b2
      obtain ⟨p3, q3⟩ := b3
      go_wp2
      go_quiet (fail)
      go_wp2
      go_quiet (fail)
      go_wp2
      go_quiet (fail)
      go_wp2
      go_quiet (fail)
      go_wp2
      go_roundw
      case rel => exact ⟨j + 1, by omega, by go_num, by go_num, rfl, rfl, rfl, rfl, rfl, rfl, rfl, rfl, _, rfl⟩
      case measure => simp [intOf]; omega
    · obtain rfl : j = R := by omega
      have o0 : ∀ x, oth j x = x := fun x => if_neg (by omega)
      rw [o0, o0, o0, o0]
      clear o0
      obtain ⟨x00, y00, m00, n00⟩ := tabS0 (t := t) HT.out Hk.out b0.1 b0.2
      obtain ⟨x01, y01, m01, n01⟩ := tabS0 (t := t) HT.out Hk.out b1.1 b1.2
      obtain ⟨x02, y02, m02, n02⟩ := tabS0 (t := t) HT.out Hk.out b2.1 b2.2
      obtain ⟨x03, y03, m03, n03⟩ := tabS0 (t := t) HT.out Hk.out b3.1 b3.2
      obtain ⟨x10, y10, m10, n10⟩ := tabS1 (t := t) HT.out Hk.out b0.1 b0.2
      obtain ⟨x11, y11, m11, n11⟩ := tabS1 (t := t) HT.out Hk.out b1.1 b1.2
      obtain ⟨x12, y12, m12, n12⟩ := tabS1 (t := t) HT.out Hk.out b2.1 b2.2
      obtain ⟨x13, y13, m13, n13⟩ := tabS1 (t := t) HT.out Hk.out b3.1 b3.2
      obtain ⟨x20, y20, m20, n20⟩ := tabS2 (t := t) HT.out Hk.out b0.1 b0.2
      obtain ⟨x21, y21, m21, n21⟩ := tabS2 (t := t) HT.out Hk.out b1.1 b1.2
      obtain ⟨x22, y22, m22, n22⟩ := tabS2 (t := t) HT.out Hk.out b2.1 b2.2
      obtain ⟨x23, y23, m23, n23⟩ := tabS2 (t := t) HT.out Hk.out b3.1 b3.2
      obtain ⟨x30, y30, m30, n30⟩ := tabSx (t := t) HT.out Hk.out b0.1 b0.2
      obtain ⟨x31, y31, m31, n31⟩ := tabSx (t := t) HT.out Hk.out b1.1 b1.2
      obtain ⟨x32, y32, m32, n32⟩ := tabSx (t := t) HT.out Hk.out b2.1 b2.2
      obtain ⟨x33, y33, m33, n33⟩ := tabSx (t := t) HT.out Hk.out b3.1 b3.2
      have e0 := HK.out.en (4 * j + 4) (by omega)
      have e1 := HK.out.en (4 * j + 5) (by omega)
      have e2 := HK.out.en (4 * j + 6) (by omega)
      have e3 := HK.out.en (4 * j + 7) (by omega)
      obtain ⟨p0, q0⟩ := b0
      obtain ⟨p1, q1⟩ := b1
      obtain ⟨p2, q2⟩ := b2
      obtain ⟨p3, q3⟩ := b3
      go_wp2
      go_quiet (fail)
      go_wp2
      go_quiet (fail)
      go_wp2
      go_quiet (fail)
      go_wp2
      go_quiet (fail)
      go_wp2_with (fail)
      refine (put32_any D _ _ _ N e f _ _ (by omega) (by omega) (bd32 _ _ _).1 (bd32 _ _ _).2 (by exact HF.out) (by omega)).mono ?_
      rintro r1 w1 ⟨rfl, c1, f1⟩
      have HC1 := Lib.hid c1
      have HR1 := Lib.hid f1
      clear c1 f1 g15
      go_wp2_with (fail)
      refine (put32_any D _ _ _ N e _ _ _ (by omega) (by omega) (bd32 _ _ _).1 (bd32 _ _ _).2 (by exact HR1.out) (by omega)).mono ?_
      rintro r2 w2 ⟨rfl, c2, f2⟩
      have HC2 := Lib.hid c2
      have HR2 := Lib.hid f2
      clear c2 f2
      go_wp2_with (fail)
      refine (put32_any D _ _ _ N e _ _ _ (by omega) (by omega) (bd32 _ _ _).1 (bd32 _ _ _).2 (by exact HR2.out) (by omega)).mono ?_
      rintro r3 w3 ⟨rfl, c3, f3⟩
      have HC3 := Lib.hid c3
      have HR3 := Lib.hid f3
      clear c3 f3
      go_wp2_with (fail)
      refine (put32_any D _ _ _ N e _ _ _ (by omega) (by omega) (bd32 _ _ _).1 (bd32 _ _ _).2 (by exact HR3.out) (by omega)).mono ?_
      rintro r4 w4 ⟨rfl, c4, f4⟩
      have HC4 := Lib.hid c4
      have HR4 := Lib.hid f4
      clear c4 f4
      go_wp2_with (fail)
      go_end0
      exact ⟨rfl, ((((Ch.drewN _ _ _).trans HC1.out).trans HC2.out).trans HC3.out).trans HC4.out, HR4.out⟩
end Go.Proofs.YtpgnjlgcgghihaaDoor
