/- Walk: FnStreamBack. -/
import Derived.Test.YtpgnjlgcgghihaaDoorL
import Derived.BigQuiet
namespace Go.Proofs.YtpgnjlgcgghihaaDoor
open Go.RowKit
theorem isk_any (a : Option Addr) (n c : Nat) (w : World) :
    Calls Tryd.prog 4 #[.slice a n c] w fun e w' => e = .returned (.bool (n == 16 || n == 24 || n == 32)) ∧ w = w' := by
  by_cases h1 : n = 16
  · subst h1
    go_enter Tryd.func4, Tryd.ntmps4
    go_wp2
    go_ret
    simp
  · by_cases h2 : n = 24
    · subst h2
      go_enter Tryd.func4, Tryd.ntmps4
      go_wp2
      go_ret
      simp
    · by_cases h3 : n = 32
      · subst h3
        go_enter Tryd.func4, Tryd.ntmps4
        go_wp2
        go_ret
        simp
      · have b1 : ((n : Int) == 16) = false := by simpa using fun h => h1 (by omega)
        have b2 : ((n : Int) == 24) = false := by simpa using fun h => h2 (by omega)
        have b3 : ((n : Int) == 32) = false := by simpa using fun h => h3 (by omega)
        have hb : (n == 16 || n == 24 || n == 32) = false := by simp [h1, h2, h3]
        rw [hb]
        clear h1 h2 h3 hb
        go_enter Tryd.func4, Tryd.ntmps4
        go_wp2
        go_ret
        simp
theorem ivl_at (iv : Nat → Int) : ∀ i, i < 16 → (#[.int .u8 (iv 0), .int .u8 (iv 1), .int .u8 (iv 2), .int .u8 (iv 3), .int .u8 (iv 4), .int .u8 (iv 5), .int .u8 (iv 6), .int .u8 (iv 7), .int .u8 (iv 8), .int .u8 (iv 9), .int .u8 (iv 10), .int .u8 (iv 11), .int .u8 (iv 12), .int .u8 (iv 13), .int .u8 (iv 14), .int .u8 (iv 15)] : Array Value)[i]? = some (.int .u8 (iv i)) := by
  intro i hi
  have h : i = 0 ∨ i = 1 ∨ i = 2 ∨ i = 3 ∨ i = 4 ∨ i = 5 ∨ i = 6 ∨ i = 7 ∨ i = 8 ∨ i = 9 ∨ i = 10 ∨ i = 11 ∨ i = 12 ∨ i = 13 ∨ i = 14 ∨ i = 15 := by omega
  rcases h with rfl | rfl | rfl | rfl | rfl | rfl | rfl | rfl | rfl | rfl | rfl | rfl | rfl | rfl | rfl | rfl <;> rfl
theorem fsb_early (aK aB : Option Addr) (n c m cB : Nat) (ivA : Array Value) (place : Int) (w : World) (h : ¬ ((n = 16 ∨ n = 24 ∨ n = 32) ∧ m ≤ 4096 ∧ place ≤ 1152921504606846976)) :
    Calls Tryd.prog 3 #[.slice aK n c, .agg ivA, .slice aB m cB, .int .u64 place] w fun e w' => e = .returned (.bool true) ∧ Ch w w' w.heap.size := by
  have cA := Ch.alloc w w.heap.size (.cells ivA 23)
  have H := Lib.hid h
  clear h
  by_cases h1 : 2147483647 < n
  · have b1 : decide (2147483647 < (n : Int)) = true := decide_eq_true (by omega)
    clear h1
    go_enter Tryd.func3, Tryd.ntmps3
    go_wp2
    go_ret
    exact ⟨rfl, cA⟩
  · have b1 : decide (2147483647 < (n : Int)) = false := decide_eq_false (by omega)
    clear h1
    by_cases h2 : 2147483647 < m
    · have b2 : decide (2147483647 < (m : Int)) = true := decide_eq_true (by omega)
      clear h2
      go_enter Tryd.func3, Tryd.ntmps3
      go_wp2
      go_ret
      exact ⟨rfl, cA⟩
    · have b2 : decide (2147483647 < (m : Int)) = false := decide_eq_false (by omega)
      clear h2
      by_cases h3 : n = 16 ∨ n = 24 ∨ n = 32
      · have k3 : (n == 16 || n == 24 || n == 32) = true := by simpa [Bool.or_eq_true, or_assoc] using h3
        by_cases h4 : 4096 < m
        · have b4 : decide (4096 < (m : Int)) = true := decide_eq_true (by omega)
          clear h4 h3
          go_enter Tryd.func3, Tryd.ntmps3
          go_wp2_with (go_at_call 4; refine (isk_any _ _ _ _).mono ?_; rw [k3]; rintro e w' ⟨rfl, rfl⟩)
          go_ret
          exact ⟨rfl, cA⟩
        · have b4 : decide (4096 < (m : Int)) = false := decide_eq_false (by omega)
          have b5 : decide (1152921504606846976 < place) = true := decide_eq_true (by
            by_cases h5 : place ≤ 1152921504606846976
            · exact absurd ⟨h3, by omega, h5⟩ H.out
            · omega)
          clear h4 h3
          go_enter Tryd.func3, Tryd.ntmps3
          go_wp2_with (go_at_call 4; refine (isk_any _ _ _ _).mono ?_; rw [k3]; rintro e w' ⟨rfl, rfl⟩)
          go_ret
          exact ⟨rfl, cA⟩
      · have k3 : (n == 16 || n == 24 || n == 32) = false := by simpa [not_or, and_assoc] using h3
        clear h3
        go_enter Tryd.func3, Tryd.ntmps3
        go_wp2_with (go_at_call 4; refine (isk_any _ _ _ _).mono ?_; rw [k3]; rintro e w' ⟨rfl, rfl⟩)
        go_ret
        exact ⟨rfl, cA⟩
end Go.Proofs.YtpgnjlgcgghihaaDoor
