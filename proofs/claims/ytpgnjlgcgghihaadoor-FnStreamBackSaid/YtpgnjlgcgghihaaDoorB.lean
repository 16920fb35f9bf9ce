/- Walks of the small functions that read or write bytes: what each call gives. -/
import Derived.Test.YtpgnjlgcgghihaaDoorA
import Derived.Deep.QuietTactic
import Derived.BigQuiet
namespace Go.Proofs.YtpgnjlgcgghihaaDoor
open Go.RowKit

def be32 (x0 x1 x2 x3 : Int) : Int := bits BinOp.or IntKind.u32 (bits BinOp.or IntKind.u32 (bits BinOp.or IntKind.u32 x3 (x2 * 256)) (x1 * 65536)) (x0 * 16777216)
theorem be32_bd (x0 x1 x2 x3 : Int) : 0 ≤ be32 x0 x1 x2 x3 ∧ be32 x0 x1 x2 x3 < 4294967296 := bd32 _ _ _
def rot (x : Int) : Int := bits BinOp.or IntKind.u32 (x * 256 % 4294967296) (x / 16777216)
theorem rot_bd (x : Int) : 0 ≤ rot x ∧ rot x < 4294967296 := bd32 _ _ _

theorem ret_int {k : IntKind} {a b : Int} (h : a = b) : Ending.returned (.int k a) = .returned (.int k b) := by rw [h]

set_option maxHeartbeats 400000 in
theorem rotw_any (x : Int) (_h0 : 0 ≤ x) (_h1 : x < 4294967296) (w : World) :
    Calls Tryd.prog 33 #[.int .u32 x] w fun e w' => e = .returned (.int .u32 (rot x)) ∧ w = w' := by
  go_enter Tryd.func33, Tryd.ntmps33
  go_wp2
  go_ret
  exact ⟨rfl, rfl⟩

set_option maxHeartbeats 400000 in
theorem be32_any (b o : Nat) (n c : Nat) (x0 x1 x2 x3 : Int) (w : World) (hn : 4 ≤ n) (hm : n ≤ 9223372036854775807)
    (h0a : 0 ≤ x0) (h0b : x0 < 256) (h1a : 0 ≤ x1) (h1b : x1 < 256) (h2a : 0 ≤ x2) (h2b : x2 < 256) (h3a : 0 ≤ x3) (h3b : x3 < 256)
    (c0 : w.cell? ⟨b, o, none⟩ = some (.int .u8 x0)) (c1 : w.cell? ⟨b, o + 1, none⟩ = some (.int .u8 x1))
    (c2 : w.cell? ⟨b, o + 2, none⟩ = some (.int .u8 x2)) (c3 : w.cell? ⟨b, o + 3, none⟩ = some (.int .u8 x3)) :
    Calls Tryd.prog 30 #[.slice (some ⟨b, o, none⟩) n c] w fun e w' => e = .returned (.int .u32 (be32 x0 x1 x2 x3)) ∧ ∃ k, w' = w.drewN k := by
  go_enter Tryd.func30, Tryd.ntmps30
  go_wp2
  go_quiet (fail)
  go_wp2
  go_ret
  exact ⟨rfl, _, rfl⟩

def be64 (x0 x1 x2 x3 x4 x5 x6 x7 : Int) : Int :=
  (bits BinOp.or IntKind.u64
                        (bits BinOp.or IntKind.u64
                          (bits BinOp.or IntKind.u64
                            (bits BinOp.or IntKind.u64
                              (bits BinOp.or IntKind.u64
                                (bits BinOp.or IntKind.u64 (bits BinOp.or IntKind.u64 x7 (x6 * 256)) (x5 * 65536))
                                (x4 * 16777216))
                              (x3 * 4294967296))
                            (x2 * 1099511627776))
                          (x1 * 281474976710656))
                        (x0 * 72057594037927936))
theorem be64_bd (x0 x1 x2 x3 x4 x5 x6 x7 : Int) : 0 ≤ be64 x0 x1 x2 x3 x4 x5 x6 x7 ∧ be64 x0 x1 x2 x3 x4 x5 x6 x7 < 18446744073709551616 := bd64 _ _ _
set_option maxHeartbeats 1000000 in
theorem be64_any (b o : Nat) (n c : Nat) (x0 x1 x2 x3 x4 x5 x6 x7 : Int) (w : World) (hn : 8 ≤ n) (hm : n ≤ 9223372036854775807)
    (h0a : 0 ≤ x0) (h0b : x0 < 256) (h1a : 0 ≤ x1) (h1b : x1 < 256) (h2a : 0 ≤ x2) (h2b : x2 < 256) (h3a : 0 ≤ x3) (h3b : x3 < 256)
    (h4a : 0 ≤ x4) (h4b : x4 < 256) (h5a : 0 ≤ x5) (h5b : x5 < 256) (h6a : 0 ≤ x6) (h6b : x6 < 256) (h7a : 0 ≤ x7) (h7b : x7 < 256)
    (c0 : w.cell? ⟨b, o, none⟩ = some (.int .u8 x0)) (c1 : w.cell? ⟨b, o + 1, none⟩ = some (.int .u8 x1))
    (c2 : w.cell? ⟨b, o + 2, none⟩ = some (.int .u8 x2)) (c3 : w.cell? ⟨b, o + 3, none⟩ = some (.int .u8 x3))
    (c4 : w.cell? ⟨b, o + 4, none⟩ = some (.int .u8 x4)) (c5 : w.cell? ⟨b, o + 5, none⟩ = some (.int .u8 x5))
    (c6 : w.cell? ⟨b, o + 6, none⟩ = some (.int .u8 x6)) (c7 : w.cell? ⟨b, o + 7, none⟩ = some (.int .u8 x7)) :
    Calls Tryd.prog 21 #[.slice (some ⟨b, o, none⟩) n c] w fun e w' => e = .returned (.int .u64 (be64 x0 x1 x2 x3 x4 x5 x6 x7)) ∧ ∃ k, w' = w.drewN k := by
  go_enter Tryd.func21, Tryd.ntmps21
  go_wp2
  go_quiet (fail)
  go_wp2
  go_ret
  exact ⟨rfl, _, rfl⟩

theorem rks_any (g : Nat) (r : Int) (w : World) (hr0 : 0 ≤ r) (hr : r ≤ 14) (c0 : w.cell? ⟨g, 0, none⟩ = some (.int .i64 r)) :
    Calls Tryd.prog 31 #[.pointer (some ⟨g, 0, none⟩)] w fun e w' => e = .returned (.int .i64 ((r + 1) * 4)) ∧ w = w' := by
  go_enter Tryd.func31, Tryd.ntmps31
  go_wp2
  go_ret
  exact ⟨rfl, rfl⟩

theorem at81 (w : World) (g : Nat) (k : IntKind) (i : Int) (h0 : 0 ≤ i) (h1 : i < 256) : (Instr.indexAt 81 (.pointer (some ⟨g, 0, none⟩)) (.int k i)).run Tryd.prog w = .ok (.pointer (some ⟨g, i.toNat, none⟩)) w := by
  have hn : ¬ (0 ≤ i → 256 ≤ i) := by omega
  simp [Instr.indexAt, run_underlying Tryd.underlying81, asIntOf, Instr.sureAddr, go_sem, hn]
theorem at80 (w : World) (g : Nat) (k : IntKind) (i : Int) (h0 : 0 ≤ i) (h1 : i < 256) : (Instr.indexAt 80 (.pointer (some ⟨g, 0, none⟩)) (.int k i)).run Tryd.prog w = .ok (.pointer (some ⟨g, i.toNat, none⟩)) w := by
  have hn : ¬ (0 ≤ i → 256 ≤ i) := by omega
  simp [Instr.indexAt, run_underlying Tryd.underlying80, asIntOf, Instr.sureAddr, go_sem, hn]
theorem at23 (w : World) (g : Nat) (k : IntKind) (i : Int) (h0 : 0 ≤ i) (h1 : i < 16) : (Instr.indexAt 23 (.pointer (some ⟨g, 0, none⟩)) (.int k i)).run Tryd.prog w = .ok (.pointer (some ⟨g, i.toNat, none⟩)) w := by
  have hn : ¬ (0 ≤ i → 16 ≤ i) := by omega
  simp [Instr.indexAt, run_underlying Tryd.underlying23, asIntOf, Instr.sureAddr, go_sem, hn]

def lo8 (x : Int) : Int := bits .and .u32 x 255
theorem lo8_bd (x : Int) (h0 : 0 ≤ x) (h1 : x < 4294967296) : 0 ≤ bits .and .u32 x 255 ∧ bits .and .u32 x 255 < 256 := by
  rw [and255 x h0 h1]; omega
def sub (S : Nat → Int) (x : Int) : Int :=
  bits .or .u32 (bits .or .u32 (bits .or .u32 (S (x / 16777216).toNat * 16777216) (S (bits .and .u32 (x / 65536) 255).toNat * 65536)) (S (bits .and .u32 (x / 256) 255).toNat * 256)) (S (bits .and .u32 x 255).toNat)
theorem sub_bd (S : Nat → Int) (x : Int) : 0 ≤ sub S x ∧ sub S x < 4294967296 := bd32 _ _ _

set_option maxHeartbeats 400000 in
theorem subw_any (t : Tab) (x : Int) (h0 : 0 ≤ x) (h1 : x < 4294967296) (w : World) (ht : Tabs t w) (hk : TabOk t) :
    Calls Tryd.prog 32 #[.int .u32 x] w fun e w' => e = .returned (.int .u32 (sub t.S x)) ∧ ∃ k, w' = w.drewN k := by
  have hS := ht.S
  have hb := hk.S
  have b1 := lo8_bd (x / 65536) (by omega) (by omega)
  have b2 := lo8_bd (x / 256) (by omega) (by omega)
  have b3 := lo8_bd x (by omega) (by omega)
  have X0 := fun w => at81 w 2 .u32 (x/16777216) (by omega) (by omega)
  have X1 := fun w => at81 w 2 .u32 _ b1.1 b1.2
  have X2 := fun w => at81 w 2 .u32 _ b2.1 b2.2
  have X3 := fun w => at81 w 2 .u32 _ b3.1 b3.2
  have c0 := hS (x/16777216).toNat (by omega)
  have c1 := hS _ (show (bits .and .u32 (x / 65536) 255).toNat < 256 by omega)
  have c2 := hS _ (show (bits .and .u32 (x / 256) 255).toNat < 256 by omega)
  have c3 := hS _ (show (bits .and .u32 x 255).toNat < 256 by omega)
  have ⟨e0, f0⟩ := hb (x/16777216).toNat (by omega)
  have ⟨e1, f1⟩ := hb _ (show (bits .and .u32 (x / 65536) 255).toNat < 256 by omega)
  have ⟨e2, f2⟩ := hb _ (show (bits .and .u32 (x / 256) 255).toNat < 256 by omega)
  have ⟨e3, f3⟩ := hb _ (show (bits .and .u32 x 255).toNat < 256 by omega)
  clear hS hb ht hk
  go_enter Tryd.func32, Tryd.ntmps32
  go_wp2
  go_quiet (fail)
  go_wp2
  go_ret
  exact ⟨rfl, _, rfl⟩
end Go.Proofs.YtpgnjlgcgghihaaDoor
