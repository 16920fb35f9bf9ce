/- Plain lemmas: an encrypted block depends on its own sixteen bytes alone; the key stream. And a law for copy. -/
import Derived.Test.YtpgnjlgcgghihaaDoorD
import Derived.Laws.CopyOwn
namespace Go.Proofs.YtpgnjlgcgghihaaDoor
open Go.RowKit

theorem put64_eq (f : Nat → Int) (o : Nat) (v : Int) (x : Nat) : ∀ k, put64 f o v k x = if o ≤ x ∧ x < o + k then b64 v (x - o) else f x := by
  intro k
  induction k with
  | zero => rw [put64, if_neg (by omega)]
  | succ k ih =>
    rw [put64]
    unfold upd
    by_cases h : x = o + k
    · subst h
      rw [if_pos rfl, if_pos (by omega)]
      congr 1
      omega
    · rw [if_neg h, ih]
      by_cases h2 : o ≤ x ∧ x < o + k
      · rw [if_pos h2, if_pos (by omega)]
      · rw [if_neg h2, if_neg (by omega)]
theorem b64_bd (v : Int) (k : Nat) : 0 ≤ b64 v k ∧ b64 v k < 256 := by unfold b64; omega

/-- The bytes of a word. -/
def byt (v : Int) (i : Nat) : Int := if i = 0 then v / 16777216 else if i = 1 then v / 65536 % 256 else if i = 2 then v / 256 % 256 else v % 256
theorem put32_eq (f : Nat → Int) (o : Nat) (v : Int) (x : Nat) : put32 f o v x = if o ≤ x ∧ x < o + 4 then byt v (x - o) else f x := by
  unfold put32 upd byt
  by_cases h3 : x = o + 3
  · subst h3
    have e : o + 3 - o = 3 := by omega
    simp [e]
  · by_cases h2 : x = o + 2
    · subst h2
      have e : o + 2 - o = 2 := by omega
      simp [e]
    · by_cases h1 : x = o + 1
      · subst h1
        have e : o + 1 - o = 1 := by omega
        simp [e]
      · by_cases h0 : x = o
        · subst h0
          simp
        · rw [if_neg h3, if_neg h2, if_neg h1, if_neg h0, if_neg (by omega)]
theorem byt_bd (v : Int) (i : Nat) (h0 : 0 ≤ v) (h1 : v < 4294967296) : 0 ≤ byt v i ∧ byt v i < 256 := by
  unfold byt
  split
  · omega
  · split
    · omega
    · split <;> omega
theorem enc_eq (t : Tab) (en f : Nat → Int) (R o x : Nat) : enc t en f R o x = if o ≤ x ∧ x < o + 16 then byt (fin t en (ini en f o) R ((x - o) / 4)) ((x - o) % 4) else f x := by
  unfold enc
  rw [put32_eq, put32_eq, put32_eq, put32_eq]
  by_cases h3 : o + 12 ≤ x ∧ x < o + 12 + 4
  · rw [if_pos h3, if_pos (by omega)]
    have e1 : (x - o) / 4 = 3 := by omega
    have e2 : x - (o + 12) = (x - o) % 4 := by omega
    rw [e1, e2]
  · rw [if_neg h3]
    by_cases h2 : o + 8 ≤ x ∧ x < o + 8 + 4
    · rw [if_pos h2, if_pos (by omega)]
      have e1 : (x - o) / 4 = 2 := by omega
      have e2 : x - (o + 8) = (x - o) % 4 := by omega
      rw [e1, e2]
    · rw [if_neg h2]
      by_cases h1 : o + 4 ≤ x ∧ x < o + 4 + 4
      · rw [if_pos h1, if_pos (by omega)]
        have e1 : (x - o) / 4 = 1 := by omega
        have e2 : x - (o + 4) = (x - o) % 4 := by omega
        rw [e1, e2]
      · rw [if_neg h1]
        by_cases h0 : o ≤ x ∧ x < o + 4
        · rw [if_pos h0, if_pos (by omega)]
          have e1 : (x - o) / 4 = 0 := by omega
          have e2 : x - o = (x - o) % 4 := by omega
          rw [e1, ← e2]
        · rw [if_neg h0, if_neg (by omega)]
theorem enc_bd (t : Tab) (en f : Nat → Int) (R o N : Nat) (h : Bd N 256 f) : Bd N 256 (enc t en f R o) := by
  intro x hx
  rw [enc_eq]
  split
  · exact byt_bd _ _ (fin_bd _ _ _ _ _).1 (fin_bd _ _ _ _ _).2
  · exact h x hx
theorem put64_bd (f : Nat → Int) (o : Nat) (v : Int) (k N : Nat) (h : Bd N 256 f) : Bd N 256 (put64 f o v k) := by
  intro x hx
  rw [put64_eq]
  split
  · exact b64_bd _ _
  · exact h x hx

theorem sta_congr (t : Tab) (en s s' : Nat → Int) (h : ∀ i, i < 4 → s i = s' i) : ∀ j i, i < 4 → sta t en s j i = sta t en s' j i := by
  intro j
  induction j with
  | zero => exact h
  | succ j ih =>
    intro i hi
    have h0 := ih 0 (by omega)
    have h1 := ih 1 (by omega)
    have h2 := ih 2 (by omega)
    have h3 := ih 3 (by omega)
    match i, hi with
    | 0, _ => simp only [sta, h0, h1, h2, h3]
    | 1, _ => simp only [sta, h0, h1, h2, h3]
    | 2, _ => simp only [sta, h0, h1, h2, h3]
    | 3, _ => simp only [sta, h0, h1, h2, h3]
theorem fin_congr (t : Tab) (en s s' : Nat → Int) (h : ∀ i, i < 4 → s i = s' i) (R i : Nat) : fin t en s R i = fin t en s' R i := by
  have h0 := sta_congr t en s s' h R 0 (by omega)
  have h1 := sta_congr t en s s' h R 1 (by omega)
  have h2 := sta_congr t en s s' h R 2 (by omega)
  have h3 := sta_congr t en s s' h R 3 (by omega)
  unfold fin
  rw [h0, h1, h2, h3]
theorem ini_congr (en f g : Nat → Int) (o p : Nat) (h : ∀ i, i < 16 → f (o + i) = g (p + i)) (i : Nat) (hi : i < 4) : ini en f o i = ini en g p i := by
  unfold ini word
  have h0 := h (4 * i) (by omega)
  have h1 := h (4 * i + 1) (by omega)
  have h2 := h (4 * i + 2) (by omega)
  have h3 := h (4 * i + 3) (by omega)
  simp only [← Nat.add_assoc] at h1 h2 h3
  rw [h0, h1, h2, h3]

/-- The byte number j of the key stream from the counter (lo, hi) on: block j / 16, of it the byte j % 16. -/
def ctrb (lo hi : Int) : Nat → Int := fun x => if x < 8 then b64 hi x else b64 lo (x - 8)
def ks (t : Tab) (en : Nat → Int) (R : Nat) (lo hi : Int) (j : Nat) : Int :=
  enc t en (ctrb (addlo lo (j / 16 : Nat)) (addhi lo hi (j / 16 : Nat))) R 0 (j % 16)
theorem ctrb_bd (lo hi : Int) (N : Nat) : Bd N 256 (ctrb lo hi) := by
  intro x _
  unfold ctrb
  split <;> exact b64_bd _ _
theorem ks_bd (t : Tab) (en : Nat → Int) (R : Nat) (lo hi : Int) (j : Nat) : 0 ≤ ks t en R lo hi j ∧ ks t en R lo hi j < 256 :=
  enc_bd t en _ R 0 16 (ctrb_bd _ _ 16) _ (by omega)
theorem addlo_add (lo x y : Int) : addlo (addlo lo x) y = addlo lo (x + y) := by unfold addlo; omega
theorem addhi_add (lo hi x y : Int) : addhi (addlo lo x) (addhi lo hi x) y = addhi lo hi (x + y) := by unfold addlo addhi; omega
theorem addlo_zero (lo : Int) (h0 : 0 ≤ lo) (h1 : lo < 18446744073709551616) : addlo lo 0 = lo := by unfold addlo; omega
theorem addhi_zero (lo hi : Int) (h0 : 0 ≤ lo) (h1 : lo < 18446744073709551616) (h2 : 0 ≤ hi) (h3 : hi < 18446744073709551616) : addhi lo hi 0 = hi := by unfold addhi; omega
theorem ks_shift (t : Tab) (en : Nat → Int) (R : Nat) (lo hi : Int) (q j : Nat) : ks t en R (addlo lo q) (addhi lo hi q) j = ks t en R lo hi (16 * q + j) := by
  unfold ks
  have e1 : (16 * q + j) / 16 = q + j / 16 := by omega
  have e2 : (16 * q + j) % 16 = j % 16 := by omega
  rw [addlo_add, addhi_add, e1, e2]
  have e3 : ((q + j / 16 : Nat) : Int) = (q : Int) + (j / 16 : Nat) := by omega
  rw [e3]

/-- What the buffer holds behind k blocks. -/
def bufk (t : Tab) (en : Nat → Int) (R : Nat) (lo hi : Int) (k : Nat) : Nat → Int := fun x => if x < 16 * k then ks t en R lo hi x else 0
theorem bufk_bd (t : Tab) (en : Nat → Int) (R : Nat) (lo hi : Int) (k N : Nat) : Bd N 256 (bufk t en R lo hi k) := by
  intro x _
  unfold bufk
  split
  · exact ks_bd _ _ _ _ _ _
  · omega
theorem bufk_step (t : Tab) (en : Nat → Int) (R : Nat) (lo hi : Int) (k x : Nat) :
    enc t en (put64 (put64 (bufk t en R lo hi k) (16 * k) (addhi lo hi k) 8) (16 * k + 8) (addlo lo k) 8) R (16 * k) x = bufk t en R lo hi (k + 1) x := by
  rw [enc_eq]
  unfold bufk
  by_cases h : 16 * k ≤ x ∧ x < 16 * k + 16
  · rw [if_pos h, if_pos (by omega)]
    unfold ks
    have e1 : x / 16 = k := by omega
    have e2 : x % 16 = x - 16 * k := by omega
    rw [e1, e2, enc_eq, if_pos (by omega)]
    have e3 : x - 16 * k - 0 = x - 16 * k := by omega
    rw [e3]
    have hfin : ∀ m, fin t en (ini en (put64 (put64 (bufk t en R lo hi k) (16 * k) (addhi lo hi k) 8) (16 * k + 8) (addlo lo k) 8) (16 * k)) R m = fin t en (ini en (ctrb (addlo lo k) (addhi lo hi k)) 0) R m := by
      intro m
      apply fin_congr
      intro i hi
      apply ini_congr _ _ _ _ _ _ _ hi
      intro i hi
      rw [put64_eq, put64_eq]
      unfold ctrb
      by_cases h8 : i < 8
      · have a1 : 16 * k + i - 16 * k = 0 + i := by omega
        rw [if_neg (by omega), if_pos (by omega), if_pos (by omega), a1]
      · have a1 : 16 * k + i - (16 * k + 8) = 0 + i - 8 := by omega
        rw [if_pos (by omega), if_neg (by omega), a1]
    have hfin2 := hfin ((x - 16 * k) / 4)
    unfold bufk ks at hfin2
    rw [hfin2]
  · rw [if_neg h, put64_eq, put64_eq, if_neg (by omega), if_neg (by omega)]
    by_cases h2 : x < 16 * k
    · rw [if_pos h2, if_pos (by omega)]
    · rw [if_neg h2, if_neg (by omega)]

/-- What a row holds behind a copy of n bytes of g from p on to place o. -/
def cpy (f g : Nat → Int) (o p n : Nat) : Nat → Int := fun x => if o ≤ x ∧ x < o + n then g (p + (x - o)) else f x
theorem Ch.setRow (w : World) (D : Nat) (cs : Array Value) : Ch w (w.setRow D cs) D :=
  ⟨rfl, rfl, rfl, by simp [World.setRow], fun k _ hd => setRow_other w D k cs hd⟩
theorem add_off (S p j : Nat) : (⟨S, p, none⟩ : Addr).add j = ⟨S, p + j, none⟩ := by
  unfold Addr.add
  split
  · simp_all
  · rfl
theorem wpList_copy_frow {w : World} {ops : Array Oper} {rest : List Oper} {o : Oper} {a : Act} {Q : Exit → Act → World → Prop} (hgd : o.guard = none) (d s : Operand)
    (ho : o.op = .call { callee := .builtin .copy, args := #[d, s], argTypes := #[22, 22] })
    (dp sp : Option Addr) (dLen dCap sLen sCap : Nat) (hd : a.eval d = .slice dp dLen dCap) (hs : a.eval s = .slice sp sLen sCap)
    (D S oD oS N n : Nat) (e : TypeId) (f g : Nat → Int) (hF : FRow w D e N f) (hn : n = Nat.min sLen dLen)
    (hpos : 0 < n → dp = some ⟨D, oD, none⟩ ∧ sp = some ⟨S, oS, none⟩ ∧ (∀ j, j < n → w.cell? ⟨S, oS + j, none⟩ = some (.int .u8 (g (oS + j)))) ∧ oD + n ≤ N)
    (h : ∀ w', Ch w w' D → FRow w' D e N (cpy f g oD oS n) → wpList Tryd.prog ops Q rest (a.put o.dst (goInt n)) w') : wpList Tryd.prog ops Q (o :: rest) a w := by
  have hu : Tryd.prog.underlying 22 = some (.slice 5) := Tryd.underlying22
  have hsz : (Tryd.prog.info? 5).map (·.size) = some 1 := by kernel_rfl
  by_cases h0 : n = 0
  · subst h0
    refine wpList_copy_nothing hgd d s 22 22 ho 5 hu hsz dp sp dLen dCap sLen sCap hd hs hn.symm ?_
    exact h w (Ch.refl _ _) (hF.congr fun i _ => by unfold cpy; rw [if_neg (by omega)])
  · obtain ⟨rfl, rfl, hc, hN⟩ := hpos (by omega)
    obtain ⟨cur, h1, h2, h3⟩ := hF
    have hl : ((List.range n).map fun j => Value.int .u8 (g (oS + j))).length = n := by simp
    refine wpList_copy_own hgd d s 22 22 ho 5 hu hsz D oD dLen dCap ⟨S, oS, none⟩ sLen sCap hd hs cur e h1 ((List.range n).map fun j => Value.int .u8 (g (oS + j))) (by rw [hl]; exact hn) ?_ (by rw [hl, h2]; exact hN) ?_ ?_
    · intro j v hj
      rw [add_off]
      simp only [List.getElem?_map] at hj
      by_cases hjn : j < n
      · simp [hjn] at hj
        rw [hc j hjn, ← hj]
      · simp [hjn] at hj
    · intro v hv
      simp only [List.mem_map] at hv
      obtain ⟨_, _, rfl⟩ := hv
      rfl
    · rw [hl]
      refine h _ (Ch.setRow _ _ _) ⟨_, setRow_heap w D cur _ e _ h1, ?_, ?_⟩
      · simp [h2]; omega
      · intro i hi
        unfold cpy
        rw [List.getElem?_toArray, List.getElem?_append, List.getElem?_append]
        simp only [List.length_take, Array.length_toList, h2, List.length_map, List.length_range]
        by_cases c1 : i < oD
        · rw [if_pos (by omega), if_neg (by omega), List.getElem?_take, if_pos c1]
          simpa using h3 i hi
        · rw [if_neg (by omega)]
          by_cases c2 : i < oD + n
          · rw [if_pos (by omega), if_pos (by omega)]
            have e1 : i - min oD N = i - oD := by omega
            rw [e1, List.getElem?_map, List.getElem?_range (by omega)]
            simp
          · rw [if_neg (by omega), if_neg (by omega), List.getElem?_drop]
            have e1 : oD + n + (i - min oD N - n) = i := by omega
            rw [e1]
            simpa using h3 i hi
end Go.Proofs.YtpgnjlgcgghihaaDoor
