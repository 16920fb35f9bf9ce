/- Plain lemmas for the claim on FnStreamBack: bounds of Go's bitwise operations, and words for what a block of memory holds. -/
import Derived.Test.YtpgnjlgcgghihaaDoorRows
import Derived.WalkKit
import Derived.WalkSpells
import Derived.WalkLawsBesides
import Derived.Lib.Hide
namespace Go.Proofs.YtpgnjlgcgghihaaDoor
open Go.RowKit

theorem bd32 (op : BinOp) (x y : Int) : 0 ≤ bits op .u32 x y ∧ bits op .u32 x y < 4294967296 := by
  unfold bits IntKind.wrap
  simp only [IntKind.bits, IntKind.signed]
  simp
  omega
theorem bd8 (op : BinOp) (x y : Int) : 0 ≤ bits op .u8 x y ∧ bits op .u8 x y < 256 := by
  unfold bits IntKind.wrap
  simp [IntKind.bits, IntKind.signed]
  omega
theorem bd64 (op : BinOp) (x y : Int) : 0 ≤ bits op .u64 x y ∧ bits op .u64 x y < 18446744073709551616 := by
  unfold bits IntKind.wrap
  simp [IntKind.bits, IntKind.signed]
  omega
theorem and255 (x : Int) (h0 : 0 ≤ x) (h1 : x < 4294967296) : bits .and .u32 x 255 = x % 256 := by
  rw [u32_and x 255 h0 h1 (by omega) (by omega)]
  have : (255 : Int).toNat = 255 := rfl
  rw [this, nat_mask8]
  omega
theorem xor8_self (x y : Int) (h0 : 0 ≤ x) (h1 : x < 256) (h2 : 0 ≤ y) (h3 : y < 256) : bits .xor .u8 (bits .xor .u8 x y) y = x := by
  have b := bd8 .xor x y
  rw [u8_xor _ _ b.1 b.2 h2 h3, u8_xor x y h0 h1 h2 h3]
  have e : ((x.toNat ^^^ y.toNat : Nat) : Int).toNat = x.toNat ^^^ y.toNat := by omega
  rw [e, Nat.xor_assoc, Nat.xor_self, Nat.xor_zero]
  omega

/-- What the tables of the package hold: any values of their types. -/
structure Tab where
  P : Nat → Int
  S : Nat → Int
  D0 : Nat → Int
  D1 : Nat → Int
  D2 : Nat → Int
  D3 : Nat → Int
  T0 : Nat → Int
  T1 : Nat → Int
  T2 : Nat → Int
  T3 : Nat → Int

/-- Block g holds, from cell 0 on, n numbers of one kind. -/
def Has (w : World) (g : Nat) (k : IntKind) (n : Nat) (f : Nat → Int) : Prop := ∀ i, i < n → w.cell? ⟨g, i, none⟩ = some (.int k (f i))
def Bd (n : Nat) (m : Int) (f : Nat → Int) : Prop := ∀ i, i < n → 0 ≤ f i ∧ f i < m

structure Tabs (t : Tab) (w : World) : Prop where
  size : 10 ≤ w.heap.size
  P : Has w 0 .u8 16 t.P
  D0 : Has w 1 .u32 256 t.D0
  S : Has w 2 .u8 256 t.S
  D1 : Has w 3 .u32 256 t.D1
  D2 : Has w 4 .u32 256 t.D2
  D3 : Has w 5 .u32 256 t.D3
  T0 : Has w 6 .u32 256 t.T0
  T1 : Has w 7 .u32 256 t.T1
  T2 : Has w 8 .u32 256 t.T2
  T3 : Has w 9 .u32 256 t.T3
structure TabOk (t : Tab) : Prop where
  P : Bd 16 256 t.P
  S : Bd 256 256 t.S
  D0 : Bd 256 4294967296 t.D0
  D1 : Bd 256 4294967296 t.D1
  D2 : Bd 256 4294967296 t.D2
  D3 : Bd 256 4294967296 t.D3
  T0 : Bd 256 4294967296 t.T0
  T1 : Bd 256 4294967296 t.T1
  T2 : Bd 256 4294967296 t.T2
  T3 : Bd 256 4294967296 t.T3

/-- w' is w with new blocks, with other things in block D, and nothing else turned. -/
structure Ch (w w' : World) (D : Nat) : Prop where
  os : w'.os = w.os
  tape : w'.tape = w.tape
  output : w'.output = w.output
  size : w.heap.size ≤ w'.heap.size
  block : ∀ k, k < w.heap.size → k ≠ D → w'.heap[k]? = w.heap[k]?

theorem Ch.refl (w : World) (D : Nat) : Ch w w D := ⟨rfl, rfl, rfl, Nat.le_refl _, fun _ _ _ => rfl⟩
theorem Ch.trans {a b c : World} {D : Nat} (h : Ch a b D) (k : Ch b c D) : Ch a c D :=
  ⟨k.os.trans h.os, k.tape.trans h.tape, k.output.trans h.output, Nat.le_trans h.size k.size, fun i hi hd => (k.block i (Nat.lt_of_lt_of_le hi h.size) hd).trans (h.block i hi hd)⟩
/-- A change to a block that is newer than a. -/
theorem Ch.trans_new {a b c : World} {D E : Nat} (h : Ch a b D) (k : Ch b c E) (hE : a.heap.size ≤ E) : Ch a c D :=
  ⟨k.os.trans h.os, k.tape.trans h.tape, k.output.trans h.output, Nat.le_trans h.size k.size, fun i hi hd => (k.block i (Nat.lt_of_lt_of_le hi h.size) (by omega)).trans (h.block i hi hd)⟩
theorem Ch.drewN (w : World) (D n : Nat) : Ch w (w.drewN n) D := ⟨rfl, rfl, rfl, Nat.le_refl _, fun _ _ _ => rfl⟩
theorem Ch.drew (w : World) (D : Nat) : Ch w w.drew D := ⟨rfl, rfl, rfl, Nat.le_refl _, fun _ _ _ => rfl⟩
theorem Ch.alloc (w : World) (D : Nat) (o : Obj) : Ch w (w.alloc o) D := ⟨rfl, rfl, rfl, by simp, fun k hk _ => Below.heap_alloc _ _ _ hk⟩
theorem Ch.setCell (w : World) (D i : Nat) (v : Value) : Ch w (w.setCell ⟨D, i, none⟩ v) D :=
  ⟨rfl, rfl, rfl, by simp [World.setCell], fun k _ hd => Below.heap_setCell _ _ _ _ hd⟩
theorem Ch.cell {w w' : World} {D : Nat} (h : Ch w w' D) (g i : Nat) (hg : g < w.heap.size) (hd : g ≠ D) : w'.cell? ⟨g, i, none⟩ = w.cell? ⟨g, i, none⟩ :=
  World.cell?_of_block (w := w) (h.block g hg hd)
theorem Ch.below {w w' : World} {D B : Nat} (h : Ch w w' D) (hD : B ≤ D) (hB : B ≤ w.heap.size) : Below B w w' :=
  ⟨h.os, h.tape, h.output, h.size, fun k hk => h.block k (by omega) (by omega)⟩

theorem Has.ch {w w' : World} {D g n : Nat} {k : IntKind} {f : Nat → Int} (h : Has w g k n f) (c : Ch w w' D) (hg : g < w.heap.size) (hd : g ≠ D) : Has w' g k n f :=
  fun i hi => (c.cell g i hg hd).trans (h i hi)
theorem Tabs.ch {t : Tab} {w w' : World} {D : Nat} (h : Tabs t w) (c : Ch w w' D) (hd : 10 ≤ D) : Tabs t w' := by
  have hs := h.size
  exact ⟨Nat.le_trans hs c.size, h.P.ch c (by omega) (by omega), h.D0.ch c (by omega) (by omega), h.S.ch c (by omega) (by omega), h.D1.ch c (by omega) (by omega), h.D2.ch c (by omega) (by omega),
    h.D3.ch c (by omega) (by omega), h.T0.ch c (by omega) (by omega), h.T1.ch c (by omega) (by omega), h.T2.ch c (by omega) (by omega), h.T3.ch c (by omega) (by omega)⟩

/-- Block D is a row of N bytes. -/
def FRow (w : World) (D : Nat) (e : TypeId) (N : Nat) (f : Nat → Int) : Prop :=
  ∃ cs, w.heap[D]? = some (.cells cs e (0, 0)) ∧ cs.size = N ∧ ∀ i, i < N → cs[i]? = some (.int .u8 (f i))
theorem FRow.lt {w : World} {D N : Nat} {e : TypeId} {f : Nat → Int} (h : FRow w D e N f) : D < w.heap.size := by
  obtain ⟨cs, h1, _⟩ := h
  exact (Array.getElem?_eq_some_iff.1 h1).1
theorem FRow.has {w : World} {D N : Nat} {e : TypeId} {f : Nat → Int} (h : FRow w D e N f) : Has w D .u8 N f := by
  obtain ⟨cs, h1, h2, h3⟩ := h
  intro i hi
  simp [World.cell?, h1, h3 i hi]
theorem FRow.frozen {w : World} {D N : Nat} {e : TypeId} {f : Nat → Int} (h : FRow w D e N f) (i : Nat) : w.frozen? ⟨D, i, none⟩ = false := by
  obtain ⟨cs, h1, _⟩ := h
  simp [World.frozen?, h1]
theorem FRow.ch {w w' : World} {D E N : Nat} {e : TypeId} {f : Nat → Int} (h : FRow w D e N f) (c : Ch w w' E) (hd : D ≠ E) : FRow w' D e N f := by
  have hl := h.lt
  obtain ⟨cs, h1, h2⟩ := h
  exact ⟨cs, (c.block D hl hd).trans h1, h2⟩
theorem FRow.congr {w : World} {D N : Nat} {e : TypeId} {f g : Nat → Int} (h : FRow w D e N f) (hfg : ∀ i, i < N → f i = g i) : FRow w D e N g := by
  obtain ⟨cs, h1, h2, h3⟩ := h
  exact ⟨cs, h1, h2, fun i hi => by rw [h3 i hi, hfg i hi]⟩
def upd (f : Nat → Int) (i : Nat) (v : Int) : Nat → Int := fun j => if j = i then v else f j
theorem FRow.setCell {w : World} {D N : Nat} {e : TypeId} {f : Nat → Int} (h : FRow w D e N f) (i : Nat) (v : Int) : FRow (w.setCell ⟨D, i, none⟩ (.int .u8 v)) D e N (upd f i v) := by
  obtain ⟨cs, h1, h2, h3⟩ := h
  refine ⟨cs.setIfInBounds i (.int .u8 v), ?_, by simp [h2], ?_⟩
  · have hlt : D < w.heap.size := (Array.getElem?_eq_some_iff.1 h1).1
    simp only [World.setCell, Array.getElem?_modify]
    simp [h1]
  · intro j hj
    unfold upd
    rw [Array.getElem?_setIfInBounds]
    by_cases e : j = i
    · subst e; simp [h2, hj]
    · rw [if_neg (by omega), if_neg e]; exact h3 j hj
theorem FRow.drewN {w : World} {D N : Nat} {e : TypeId} {f : Nat → Int} (h : FRow w D e N f) (n : Nat) : FRow (w.drewN n) D e N f := h
theorem FRow.drew {w : World} {D N : Nat} {e : TypeId} {f : Nat → Int} (h : FRow w D e N f) : FRow w.drew D e N f := h
end Go.Proofs.YtpgnjlgcgghihaaDoor
