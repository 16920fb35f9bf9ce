/- Walks of the functions that add to a counter, write numbers as bytes, and xor bytes. -/
import Derived.Test.YtpgnjlgcgghihaaDoorB
import Derived.BigRegion
namespace Go.Proofs.YtpgnjlgcgghihaaDoor
open Go.RowKit

def addlo (lo x : Int) : Int := (lo + x) % 18446744073709551616
def addhi (lo hi x : Int) : Int := (hi + (lo + x) / 18446744073709551616) % 18446744073709551616
theorem addlo_bd (lo x : Int) : 0 ≤ addlo lo x ∧ addlo lo x < 18446744073709551616 := by unfold addlo; omega
theorem addhi_bd (lo hi x : Int) : 0 ≤ addhi lo hi x ∧ addhi lo hi x < 18446744073709551616 := by unfold addhi; omega

theorem add64_call (x y c : Int) (hx : 0 ≤ x) (hy : 0 ≤ y) (hc0 : 0 ≤ c) (hc : c ≤ 1) (w : World) :
    (callFunc 14 #[.int .u64 x, .int .u64 y, .int .u64 c]).run Tryd.prog w = .ok (.value (.tuple #[.int .u64 ((x + y + c) % 18446744073709551616), .int .u64 ((x + y + c) / 18446744073709551616)])) w := by
  rw [run_callFunc_extern Tryd.func14 (by kernel_rfl) (by kernel_rfl) (by kernel_rfl) (e := add64Entry) (by kernel_rfl), run_add64 x y c hx hy hc0 hc]
  rfl
set_option maxHeartbeats 400000 in
theorem add128_any (lo hi x : Int) (w : World)
    (h0 : 0 ≤ lo) (h1 : lo < 18446744073709551616) (h2 : 0 ≤ hi) (h4 : 0 ≤ x) (h5 : x < 18446744073709551616) :
    Calls Tryd.prog 15 #[.int .u64 lo, .int .u64 hi, .int .u64 x] w fun e w' => e = .returned (.tuple #[.int .u64 (addlo lo x), .int .u64 (addhi lo hi x)]) ∧ w = w' := by
  have a1 := fun w => add64_call lo x 0 h0 h4 (by omega) (by omega) w
  have a2 := fun w => add64_call hi 0 ((lo + x) / 18446744073709551616) h2 (by omega) (by omega) (by omega) w
  simp only [Int.add_zero] at a1 a2
  go_enter Tryd.func15, Tryd.ntmps15
  go_wp2
  go_ret2
  exact ⟨rfl, rfl⟩

def put32 (f : Nat → Int) (o : Nat) (v : Int) : Nat → Int := upd (upd (upd (upd f o (v / 16777216)) (o + 1) (v / 65536 % 256)) (o + 2) (v / 256 % 256)) (o + 3) (v % 256)
set_option maxHeartbeats 400000 in
theorem put32_any (D o n c N : Nat) (e : TypeId) (f : Nat → Int) (v : Int) (w : World) (hn : 4 ≤ n) (hm : n ≤ 9223372036854775807) (h0 : 0 ≤ v) (h1 : v < 4294967296)
    (hF : FRow w D e N f) (hN : o + 4 ≤ N) :
    Calls Tryd.prog 34 #[.slice (some ⟨D, o, none⟩) n c, .int .u32 v] w fun r w' => r = .returned (.tuple #[]) ∧ Ch w w' D ∧ FRow w' D e N (put32 f o v) := by
  have z0 := hF.frozen o
  have z1 := hF.frozen (o + 1)
  have z2 := hF.frozen (o + 2)
  have z3 := hF.frozen (o + 3)
  have c0 := hF.has o (by omega)
  have c1 := hF.has (o + 1) (by omega)
  have c2 := hF.has (o + 2) (by omega)
  have c3 := hF.has (o + 3) (by omega)
  have HF := Lib.hid hF
  clear hF
  go_enter Tryd.func34, Tryd.ntmps34
  go_wp2
  go_end0
  exact ⟨rfl, (((Ch.setCell _ _ _ _).trans (Ch.setCell _ _ _ _)).trans (Ch.setCell _ _ _ _)).trans (Ch.setCell _ _ _ _), (((HF.out.setCell _ _).setCell _ _).setCell _ _).setCell _ _⟩

def b64 (v : Int) (k : Nat) : Int := v / 2 ^ (56 - 8 * k) % 256
def put64 (f : Nat → Int) (o : Nat) (v : Int) : Nat → Nat → Int
  | 0 => f
  | k + 1 => upd (put64 f o v k) (o + k) (b64 v k)
set_option maxHeartbeats 400000 in
theorem put64_any (D o n c N : Nat) (e : TypeId) (f : Nat → Int) (v : Int) (w : World) (hn : 8 ≤ n) (hm : n ≤ 9223372036854775807) (_h0 : 0 ≤ v) (_h1 : v < 18446744073709551616)
    (hF : FRow w D e N f) (hN : o + 8 ≤ N) :
    Calls Tryd.prog 24 #[.slice (some ⟨D, o, none⟩) n c, .int .u64 v] w fun r w' => r = .returned (.tuple #[]) ∧ Ch w w' D ∧ FRow w' D e N (put64 f o v 8) := by
  have c7 := hF.has (o + 7) (by omega)
  have HF := Lib.hid hF
  clear hF
  go_enter Tryd.func24, Tryd.ntmps24
  go_wp2
  clear c7
  go_loopw [4] (fun i wr => ∃ k : Nat, k ≤ 8 ∧ i = .int .i64 k ∧ Ch w wr D ∧ FRow wr D e N (put64 f o v k)) (fun i _ => 8 - (intOf i).toNat)
  case atStart => exact ⟨0, by omega, rfl, Ch.refl _ _, HF.out⟩
  case round =>
    obtain ⟨k, hk, rfl, hc, hr⟩ := hrel
    by_cases hlt : k < 8
    · have z0 := hr.frozen (o + k)
      have c0 := hr.has (o + k) (by omega)
      have HR := Lib.hid hr
      have HC := Lib.hid hc
      clear hr hc
      go_wp2
      go_roundw
      case rel => exact ⟨k + 1, by omega, by go_num, HC.out.trans (Ch.setCell _ _ _ _), HR.out.setCell _ _⟩
      case measure => simp [intOf]; omega
    · obtain rfl : k = 8 := by omega
      go_wp2
      go_end0
      exact ⟨rfl, hc, hr⟩
def xorK (f g : Nat → Int) (o p k : Nat) : Nat → Int := fun j => if o ≤ j ∧ j < o + k then bits .xor .u8 (g (p + (j - o))) (f j) else f j
theorem xorK_step (f g : Nat → Int) (o p k : Nat) (j : Nat) : upd (xorK f g o p k) (o + k) (bits .xor .u8 (g (p + k)) (xorK f g o p k (o + k))) j = xorK f g o p (k + 1) j := by
  unfold upd xorK
  by_cases h : j = o + k
  · subst h
    have e : o + k - o = k := by omega
    simp [e]
  · rw [if_neg h]
    by_cases h2 : o ≤ j ∧ j < o + k
    · rw [if_pos h2, if_pos (by omega)]
    · rw [if_neg h2, if_neg (by omega)]
set_option maxHeartbeats 400000 in
theorem xor_any (D X o p n c c2 N M : Nat) (e e2 : TypeId) (f g : Nat → Int) (w : World) (hn : 1 ≤ n) (hm : n ≤ 9223372036854775807)
    (hF : FRow w D e N f) (hN : o + n ≤ N) (hG : FRow w X e2 M g) (hM : p + n ≤ M) (hne : X ≠ D) (hf : Bd N 256 f) (hg : Bd M 256 g):
    Calls Tryd.prog 26 #[.slice (some ⟨D, o, none⟩) n c, .slice (some ⟨X, p, none⟩) n c2, .slice (some ⟨D, o, none⟩) n c] w fun r w' => r = .returned (.int .i64 n) ∧ Ch w w' D ∧ FRow w' D e N (xorK f g o p n) := by
  have HF := Lib.hid hF
  have HG := Lib.hid hG
  have Hf := Lib.hid hf
  have Hg := Lib.hid hg
  clear hF hG hf hg
  go_enter Tryd.func26, Tryd.ntmps26
  go_wp2
  go_loopw [8] (fun i wr => ∃ k : Nat, k ≤ n ∧ i = .int .i64 k ∧ Ch w wr D ∧ FRow wr D e N (xorK f g o p k)) (fun i _ => n - (intOf i).toNat)
  case atStart => exact ⟨0, by omega, rfl, Ch.refl _ _, HF.out.congr (fun i _ => by unfold xorK; rw [if_neg (by omega)])⟩
  case round =>
    obtain ⟨k, hk, rfl, hc, hr⟩ := hrel
    by_cases hlt : k < n
    · have z0 := hr.frozen (o + k)
      have c0 := hr.has (o + k) (by omega)
      have g0 := (HG.out.ch hc hne).has (p + k) (by omega)
      have HR := Lib.hid hr
      have HC := Lib.hid hc
      clear hr hc
      go_wp2
      go_region
      all_goals
        go_wp2
        go_roundw
        case rel => exact ⟨k + 1, by omega, by go_num, (HC.out.trans (Ch.drew _ _)).trans (Ch.setCell _ _ _ _), (HR.out.drew.setCell _ _).congr (fun j _ => xorK_step f g o p k j)⟩
        case measure => simp [intOf]; omega
    · obtain rfl : k = n := by omega
      go_wp2
      go_ret
      exact ⟨rfl, hc, hr⟩
end Go.Proofs.YtpgnjlgcgghihaaDoor
