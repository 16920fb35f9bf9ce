/- The key schedule: what it is, and the walk of expandKeyGeneric. -/
import Derived.Test.YtpgnjlgcgghihaaDoorF
import Derived.Deep.RegionWith
import Derived.Deep.DeepCutAuto
namespace Go.Proofs.YtpgnjlgcgghihaaDoor
open Go.RowKit

/-- Block C is a block cipher: its rounds, the words of the cipher, the words of the inverse cipher. -/
def BRow (w : World) (C : Nat) (ty : TypeId) (r : Nat) (en de : Nat → Int) : Prop :=
  ∃ cs, w.heap[C]? = some (.cells cs ty (0, 0)) ∧ cs.size = 121 ∧ cs[0]? = some (.int .i64 r) ∧ (∀ i, i < 60 → cs[1 + i]? = some (.int .u32 (en i))) ∧ (∀ i, i < 60 → cs[61 + i]? = some (.int .u32 (de i)))
section
variable {w w' : World} {C r D : Nat} {ty : TypeId} {en de : Nat → Int}
theorem BRow.lt (h : BRow w C ty r en de) : C < w.heap.size := by
  obtain ⟨cs, h1, _⟩ := h
  exact (Array.getElem?_eq_some_iff.1 h1).1
theorem BRow.r0 (h : BRow w C ty r en de) : w.cell? ⟨C, 0, none⟩ = some (.int .i64 r) := by
  obtain ⟨cs, h1, h2, h3, h4, h5⟩ := h
  simp [World.cell?, h1, h3]
theorem BRow.eAt (h : BRow w C ty r en de) (i : Nat) (hi : i < 60) : w.cell? ⟨C, 1 + i, none⟩ = some (.int .u32 (en i)) := by
  obtain ⟨cs, h1, h2, h3, h4, h5⟩ := h
  simp [World.cell?, h1, h4 i hi]
theorem BRow.dAt (h : BRow w C ty r en de) (i : Nat) (hi : i < 60) : w.cell? ⟨C, 61 + i, none⟩ = some (.int .u32 (de i)) := by
  obtain ⟨cs, h1, h2, h3, h4, h5⟩ := h
  simp [World.cell?, h1, h5 i hi]
theorem BRow.frozen (h : BRow w C ty r en de) (i : Nat) : w.frozen? ⟨C, i, none⟩ = false := by
  obtain ⟨cs, h1, _⟩ := h
  simp [World.frozen?, h1]
theorem BRow.krow (h : BRow w C ty r en de) : KRow w C r en := ⟨h.lt, h.r0, h.eAt⟩
theorem BRow.ch (h : BRow w C ty r en de) (c : Ch w w' D) (hd : C ≠ D) : BRow w' C ty r en de := by
  have hl := h.lt
  obtain ⟨cs, h1, h2⟩ := h
  exact ⟨cs, (c.block C hl hd).trans h1, h2⟩
theorem BRow.drewN (h : BRow w C ty r en de) (n : Nat) : BRow (w.drewN n) C ty r en de := h
theorem BRow.drew (h : BRow w C ty r en de) : BRow w.drew C ty r en de := h
theorem BRow.set0 (h : BRow w C ty r en de) (r' : Nat) : BRow (w.setCell ⟨C, 0, none⟩ (.int .i64 r')) C ty r' en de := by
  obtain ⟨cs, h1, h2, h3, h4, h5⟩ := h
  refine ⟨cs.setIfInBounds 0 (.int .i64 r'), by simp [World.setCell, Array.getElem?_modify, h1], by simp [h2], by simp [h2], fun i hi => ?_, fun i hi => ?_⟩
  · rw [Array.getElem?_setIfInBounds, if_neg (by omega)]; exact h4 i hi
  · rw [Array.getElem?_setIfInBounds, if_neg (by omega)]; exact h5 i hi
theorem BRow.setE (h : BRow w C ty r en de) (i : Nat) (hi : i < 60) (v : Int) : BRow (w.setCell ⟨C, 1 + i, none⟩ (.int .u32 v)) C ty r (upd en i v) de := by
  obtain ⟨cs, h1, h2, h3, h4, h5⟩ := h
  refine ⟨cs.setIfInBounds (1 + i) (.int .u32 v), by simp [World.setCell, Array.getElem?_modify, h1], by simp [h2], ?_, fun j hj => ?_, fun j hj => ?_⟩
  · rw [Array.getElem?_setIfInBounds, if_neg (by omega)]; exact h3
  · rw [Array.getElem?_setIfInBounds]
    unfold upd
    by_cases e : j = i
    · subst e; simp [h2]; omega
    · rw [if_neg (by omega), if_neg e]; exact h4 j hj
  · rw [Array.getElem?_setIfInBounds, if_neg (by omega)]; exact h5 j hj
theorem BRow.setD (h : BRow w C ty r en de) (i : Nat) (hi : i < 60) (v : Int) : BRow (w.setCell ⟨C, 61 + i, none⟩ (.int .u32 v)) C ty r en (upd de i v) := by
  obtain ⟨cs, h1, h2, h3, h4, h5⟩ := h
  refine ⟨cs.setIfInBounds (61 + i) (.int .u32 v), by simp [World.setCell, Array.getElem?_modify, h1], by simp [h2], ?_, fun j hj => ?_, fun j hj => ?_⟩
  · rw [Array.getElem?_setIfInBounds, if_neg (by omega)]; exact h3
  · rw [Array.getElem?_setIfInBounds, if_neg (by omega)]; exact h4 j hj
  · rw [Array.getElem?_setIfInBounds]
    unfold upd
    by_cases e : j = i
    · subst e; simp [h2]; omega
    · rw [if_neg (by omega), if_neg e]; exact h5 j hj
theorem BRow.congr {en' : Nat → Int} (h : BRow w C ty r en de) (he : ∀ i, i < 60 → en i = en' i) : BRow w C ty r en' de := by
  obtain ⟨cs, h1, h2, h3, h4, h5⟩ := h
  exact ⟨cs, h1, h2, h3, fun i hi => by rw [h4 i hi, he i hi], h5⟩
end

/-- The words of the schedule: of the key's own words, and of what stands one and nk words ahead. -/
def gw (t : Tab) (nk i : Nat) (x : Int) : Int :=
  if i % nk = 0 then bits .xor .u32 (sub t.S (rot x)) (t.P (i / nk - 1) * 16777216) else if 6 < nk ∧ i % nk = 4 then sub t.S x else x
def sch (t : Tab) (kb : Nat → Int) (nk : Nat) (i : Nat) : Int :=
  if h : i < nk ∨ nk = 0 then word kb (4 * i) else bits .xor .u32 (sch t kb nk (i - nk)) (gw t nk i (sch t kb nk (i - 1)))
  termination_by i
  decreasing_by all_goals omega
theorem sch_bd (t : Tab) (kb : Nat → Int) (nk i : Nat) : 0 ≤ sch t kb nk i ∧ sch t kb nk i < 4294967296 := by
  unfold sch
  split
  · exact be32_bd _ _ _ _
  · exact bd32 _ _ _
/-- The words that are made till k, noughts behind them. -/
def scht (t : Tab) (kb : Nat → Int) (nk k : Nat) : Nat → Int := fun i => if i < k then sch t kb nk i else 0
theorem gw_zero (t : Tab) (nk i m d : Nat) (x pd : Int) (hm : m = i % nk) (hd : d = i / nk) (hp : pd = t.P (d - 1)) (h0 : m = 0) : gw t nk i x = bits .xor .u32 (sub t.S (rot x)) (pd * 16777216) := by
  unfold gw
  rw [if_pos (by rw [← hm]; exact h0), hp, hd]
theorem gw_four (t : Tab) (nk i m : Nat) (x : Int) (hm : m = i % nk) (h0 : ¬ m = 0) (h6 : 6 < nk) (h4 : m = 4) : gw t nk i x = sub t.S x := by
  unfold gw
  rw [if_neg (by rw [← hm]; exact h0), if_pos ⟨h6, by rw [← hm]; exact h4⟩]
theorem gw_else (t : Tab) (nk i m : Nat) (x : Int) (hm : m = i % nk) (h0 : ¬ m = 0) (h6 : ¬ (6 < nk ∧ m = 4)) : gw t nk i x = x := by
  unfold gw
  rw [if_neg (by rw [← hm]; exact h0), if_neg (by rw [← hm]; exact h6)]
theorem scht_step (t : Tab) (kb : Nat → Int) (nk k : Nat) (v : Int) (hv : v = sch t kb nk k) (i : Nat) : upd (scht t kb nk k) k v i = scht t kb nk (k + 1) i := by
  unfold upd scht
  by_cases h : i = k
  · subst h; rw [if_pos rfl, if_pos (by omega), hv]
  · rw [if_neg h]
    by_cases h2 : i < k
    · rw [if_pos h2, if_pos (by omega)]
    · rw [if_neg h2, if_neg (by omega)]

theorem wordn_any (D o n c N : Nat) (e : TypeId) (f : Nat → Int) (w : World) (hn : 4 ≤ n) (hm : n ≤ 9223372036854775807) (hF : FRow w D e N f) (hN : o + 4 ≤ N) (hf : Bd N 256 f) :
    Calls Tryd.prog 30 #[.slice (some ⟨D, o, none⟩) n c] w fun e w' => e = .returned (.int .u32 (word f o)) ∧ ∃ k, w' = w.drewN k := by
  have b0 := hf o (by omega)
  have b1 := hf (o + 1) (by omega)
  have b2 := hf (o + 2) (by omega)
  have b3 := hf (o + 3) (by omega)
  exact be32_any D o n c _ _ _ _ w hn hm b0.1 b0.2 b1.1 b1.2 b2.1 b2.2 b3.1 b3.2 (hF.has o (by omega)) (hF.has (o + 1) (by omega)) (hF.has (o + 2) (by omega)) (hF.has (o + 3) (by omega))

theorem scht_bd (t : Tab) (kb : Nat → Int) (nk k i : Nat) : 0 ≤ scht t kb nk k i ∧ scht t kb nk k i < 4294967296 := by
  unfold scht
  split
  · exact sch_bd _ _ _ _
  · omega
theorem tabD {g : Nat} {f : Nat → Int} {w : World} (s : Int) (h : Has w g .u32 256 f) (h0 : 0 ≤ s) (h1 : s < 256) :
    (∀ w', (Instr.indexAt 80 (.pointer (some ⟨g, 0, none⟩)) (.int .u8 s)).run Tryd.prog w' = .ok (.pointer (some ⟨g, s.toNat, none⟩)) w') ∧ w.cell? ⟨g, s.toNat, none⟩ = some (.int .u32 (f s.toNat)) :=
  ⟨fun w' => at80 w' g .u8 s h0 h1, h _ (by omega)⟩

set_option maxRecDepth 100000 in
set_option maxHeartbeats 8000000 in
theorem exp_any (t : Tab) (C K n c nk r : Nat) (ty e : TypeId) (N : Nat) (kb : Nat → Int) (w : World)
    (ht : Tabs t w) (hk : TabOk t) (hn : n = 4 * nk) (hnk : 4 ≤ nk) (hnk2 : nk ≤ 8) (hr : 4 * (r + 1) ≤ 60) (hr2 : nk ≤ 4 * (r + 1)) (hcc : n ≤ c) (hcm : c ≤ 9223372036854775807)
    (hB : BRow w C ty r (fun _ => 0) (fun _ => 0)) (hF : FRow w K e N kb) (hN : n ≤ N) (hf : Bd N 256 kb) (hCK : K ≠ C) (hC : 10 ≤ C) (hp : ∀ i, i < 4 * (r + 1) → i / nk - 1 < 16) :
    Calls Tryd.prog 27 #[.pointer (some ⟨C, 0, none⟩), .slice (some ⟨K, 0, none⟩) n c] w fun r' w' => r' = .returned (.tuple #[]) ∧ Ch w w' C ∧ ∃ de, BRow w' C ty r (scht t kb nk (4 * (r + 1))) de := by
  have HT := Lib.hid ht
  have Hk := Lib.hid hk
  have HB := Lib.hid hB
  have HF := Lib.hid hF
  have Hf := Lib.hid hf
  have Hn := Lib.hid hn
  have Hp := Lib.hid hp
  have hn4 : (n : Int) / 4 = (nk : Int) := by omega
  clear ht hk hB hF hf hn hp
  go_enter Tryd.func27, Tryd.ntmps27
  go_wp2_with (go_at_call 29; refine (chk_any _).mono ?_; rintro e w' ⟨rfl, rfl⟩)
  go_loopw [4] (fun i wr => ∃ k : Nat, k ≤ nk ∧ i = .int .i64 k ∧ Ch w wr C ∧ BRow wr C ty r (scht t kb nk k) (fun _ => 0)) (fun i _ => nk - (intOf i).toNat)
  case atStart => exact ⟨0, by omega, rfl, Ch.refl _ _, HB.out.congr fun i _ => by unfold scht; rw [if_neg (by omega)]⟩
  case round =>
    obtain ⟨k, hk, rfl, hc, hb⟩ := hrel
    by_cases hlt : k < nk
    · have z0 := hb.frozen (1 + k)
      have c0 := hb.eAt k (by omega)
      have F1 := Lib.hid (HF.out.ch hc hCK)
      have HC := Lib.hid hc
      have HBk := Lib.hid hb
      have h4 : 4 * k + 4 ≤ n := by have := Hn.out; omega
      clear hc hb
      have sl := fun w' => sl22 K 0 n c (4 * k) (4 * (k : Int)) (by omega) (by omega) (by omega) w'
      simp only [Nat.zero_add] at sl
      go_wp2_with fail
      have wr4 : IntKind.i64.wrap (4 * (k : Int)) = 4 * (k : Int) := IntWalk.i64_in _ (by omega)
      go_region_with ((go_at_call 30; refine (wordn_any _ _ _ _ N e kb _ (by omega) (by omega) (by exact F1.out) (by omega) Hf.out).mono ?_; rintro e w' ⟨rfl, q, rfl⟩))
      go_wp2
      go_roundw
      case rel => exact ⟨k + 1, by omega, by go_num, (HC.out.trans (Ch.drewN _ _ _)).trans (Ch.setCell _ _ _ _), (HBk.out.setE k (by omega) _).congr fun i _ => scht_step t kb nk k _ (by rw [sch, dif_pos (Or.inl hlt)]) i⟩
      case measure => simp [intOf]; omega
    · obtain rfl : k = nk := by omega
      have HC := Lib.hid hc
      have HBk := Lib.hid hb
      clear hc hb
      have r0 := HBk.out.r0
      go_wp2
      clear r0 hn4
      go_loopw [4] (fun i wr => ∃ j : Nat, k ≤ j ∧ j ≤ 4 * (r + 1) ∧ i = .int .i64 j ∧ Ch w wr C ∧ BRow wr C ty r (scht t kb k j) (fun _ => 0)) (fun i _ => 4 * (r + 1) - (intOf i).toNat)
      case atStart => exact ⟨k, by omega, by omega, rfl, HC.out, HBk.out⟩
      case round =>
        obtain ⟨j, hj1, hj2, rfl, hc, hb⟩ := hrel
        clear HC HBk
        have r0 := hb.r0
        have HC := Lib.hid hc
        have HBk := Lib.hid hb
        have T1 := Lib.hid (HT.out.ch hc hC)
        by_cases hlt : j < 4 * (r + 1)
        · obtain ⟨x, hx⟩ : ∃ x, x = sch t kb k (j - 1) := ⟨_, rfl⟩
          obtain ⟨y, hy⟩ : ∃ y, y = sch t kb k (j - k) := ⟨_, rfl⟩
          have bx := sch_bd t kb k (j - 1)
          rw [← hx] at bx
          have cx := hb.eAt (j - 1) (by omega)
          have cy := hb.eAt (j - k) (by omega)
          have ex : scht t kb k j (j - 1) = x := by unfold scht; rw [if_pos (by omega), hx]
          have ey : scht t kb k j (j - k) = y := by unfold scht; rw [if_pos (by omega), hy]
          rw [ex] at cx
          rw [ey] at cy
          have z0 := hb.frozen (1 + j)
          have cz := hb.eAt j (by omega)
          have es : sch t kb k j = bits .xor .u32 y (gw t k j x) := by rw [sch, dif_neg (by omega), hx, hy]
          have ES := Lib.hid es
          obtain ⟨d, hd⟩ : ∃ d, d = j / k := ⟨_, rfl⟩
          obtain ⟨m, hm⟩ : ∃ m, m = j % k := ⟨_, rfl⟩
          have qd : (j : Int) / (k : Int) = (d : Int) := by rw [hd]; rfl
          have qm : (j : Int) % (k : Int) = (m : Int) := by rw [hm]; rfl
          have hd1 : 1 ≤ d := by rw [hd]; exact (Nat.le_div_iff_mul_le (by omega)).2 (by omega)
          have hd2 : d - 1 < 16 := by rw [hd]; exact Hp.out j hlt
          have HD := Lib.hid hd
          have HM := Lib.hid hm
          obtain ⟨bx0, bx1⟩ := bx
          clear hc hb hx hy ex ey es hd hm
          by_cases h0 : m = 0
          · have b0 : ((m : Int) == 0) = true := by simpa using h0
            go_wp2_with (go_at_call 31; refine (rks_any C (r : Int) _ (by omega) (by omega) r0).mono ?_; rintro e w' ⟨rfl, rfl⟩)
            obtain ⟨pd, hpd⟩ : ∃ pd, pd = t.P (d - 1) := ⟨_, rfl⟩
            have bp := Hk.out.P (d - 1) hd2
            have cp := T1.out.P (d - 1) hd2
            rw [← hpd] at bp cp
            obtain ⟨bp0, bp1⟩ := bp
            have HPD := Lib.hid hpd
            clear hpd
            have xp : ∀ w', (Instr.indexAt 23 (.pointer (some ⟨0, 0, none⟩)) (.int .i64 ((d : Int) - 1))).run Tryd.prog w' = .ok (.pointer (some ⟨0, d - 1, none⟩)) w' := fun w' => by
              have h := at23 w' 0 .i64 ((d : Int) - 1) (by omega) (by omega)
              have e : ((d : Int) - 1).toNat = d - 1 := by omega
              rw [e] at h
              exact h
            have wd : IntKind.i64.wrap ((d : Int) - 1) = (d : Int) - 1 := IntWalk.i64_in _ (by omega)
            have bs := sub_bd t.S (rot x)
            go_quiet (first | (go_at_call 33; exact Calls.quiet_of_same ((rotw_any _ bx0 bx1 _).mono (fun _ _ h => ⟨h.1, h.2.symm⟩))) | (go_at_call 32; exact Calls.quiet_of (subw_any t _ (rot_bd _).1 (rot_bd _).2 _ (by exact T1.out.ch (Ch.drewN _ C _) hC) Hk.out)))
            go_wp2_with fail
            go_region
            all_goals
              go_wp2
              go_roundw
              case rel => exact ⟨j + 1, by omega, by omega, by go_num, (HC.out.trans (Ch.drewN _ _ _)).trans (Ch.setCell _ _ _ _), (HBk.out.setE j (by omega) _).congr fun i _ => scht_step t kb k j _ (by rw [ES.out, gw_zero t k j m d x pd HM.out HD.out HPD.out h0]) i⟩
              case measure => simp [intOf]; omega
          · have b0 : ((m : Int) == 0) = false := by simpa using h0
            by_cases h6 : 6 < k ∧ m = 4
            · obtain ⟨h6a, h6b⟩ := h6
              have b4 : ((m : Int) == 4) = true := by
                have e : (m : Int) = 4 := by omega
                rw [e]; rfl
              have b6 : decide (6 < (k : Int)) = true := decide_eq_true (by omega)
              have H4 := Lib.hid h6b
              clear h6b
              go_wp2_with (first | (go_at_call 31; refine (rks_any C (r : Int) _ (by omega) (by omega) r0).mono ?_; rintro e w' ⟨rfl, rfl⟩) | (go_at_call 32; refine (subw_any t _ bx0 bx1 _ (by exact T1.out) Hk.out).mono ?_; rintro e w' ⟨rfl, q, rfl⟩))
              go_region
              all_goals
                go_wp2
                go_roundw
                case rel => exact ⟨j + 1, by omega, by omega, by go_num, (HC.out.trans (Ch.drewN _ _ _)).trans (Ch.setCell _ _ _ _), (HBk.out.setE j (by omega) _).congr fun i _ => scht_step t kb k j _ (by rw [ES.out, gw_four t k j m x HM.out h0 h6a H4.out]) i⟩
                case measure => simp [intOf]; omega
            · have H6 := Lib.hid h6
              by_cases h6a : 6 < k
              · have b6 : decide (6 < (k : Int)) = true := decide_eq_true (by omega)
                have b4 : ((m : Int) == 4) = false := by
                  have e : ¬ m = 4 := fun h => H6.out ⟨h6a, h⟩
                  simpa using fun h => e (by omega)
                clear h6
                go_wp2_with (go_at_call 31; refine (rks_any C (r : Int) _ (by omega) (by omega) r0).mono ?_; rintro e w' ⟨rfl, rfl⟩)
                go_region
                all_goals
                  go_wp2
                  go_roundw
                  case rel => exact ⟨j + 1, by omega, by omega, by go_num, (HC.out.trans (Ch.drew _ _)).trans (Ch.setCell _ _ _ _), (HBk.out.setE j (by omega) _).congr fun i _ => scht_step t kb k j _ (by rw [ES.out, gw_else t k j m x HM.out h0 H6.out]) i⟩
                  case measure => simp [intOf]; omega
              · have b6 : decide (6 < (k : Int)) = false := decide_eq_false (by omega)
                clear h6
                go_wp2_with (go_at_call 31; refine (rks_any C (r : Int) _ (by omega) (by omega) r0).mono ?_; rintro e w' ⟨rfl, rfl⟩)
                go_region
                all_goals
                  go_wp2
                  go_roundw
                  case rel => exact ⟨j + 1, by omega, by omega, by go_num, (HC.out.trans (Ch.drew _ _)).trans (Ch.setCell _ _ _ _), (HBk.out.setE j (by omega) _).congr fun i _ => scht_step t kb k j _ (by rw [ES.out, gw_else t k j m x HM.out h0 H6.out]) i⟩
                  case measure => simp [intOf]; omega
        · obtain rfl : j = 4 * (r + 1) := by omega
          clear hc hb
          go_wp2_with (go_at_call 31; refine (rks_any C (r : Int) _ (by omega) (by omega) r0).mono ?_; rintro e w' ⟨rfl, rfl⟩)
          clear r0 T1
          obtain ⟨EN, hEN⟩ : ∃ EN, EN = scht t kb k (4 * (r + 1)) := ⟨_, rfl⟩
          have HEN := Lib.hid hEN
          have hb2 := HBk.out
          rw [← hEN] at hb2
          have HB2 := Lib.hid hb2
          clear hb2 hEN HBk
          go_loopw [8] (fun i wr => ∃ a : Nat, a ≤ r + 1 ∧ i = .int .i64 (4 * (a : Int)) ∧ Ch w wr C ∧ ∃ de, BRow wr C ty r EN de) (fun i _ => 4 * (r + 1) - (intOf i).toNat)
          case atStart => exact ⟨0, by omega, rfl, HC.out, _, HB2.out⟩
          case round =>
            obtain ⟨a, ha, rfl, hc, de, hb⟩ := hrel
            clear HC HB2
            by_cases hlt2 : a < r + 1
            · have HC := Lib.hid hc
              have HB2 := Lib.hid hb
              clear hc hb
              obtain ⟨ei, hei⟩ : ∃ ei : Nat, ((r : Int) + 1) * 4 - 4 * (a : Int) - 4 = (ei : Int) := ⟨4 * (r - a), by omega⟩
              have hei2 : ei + 4 ≤ 4 * (r + 1) := by omega
              have hda : decide (4 * (a : Int) < ((r : Int) + 1) * 4) = true := decide_eq_true (by omega)
              go_wp2
              have hr0 : BRow wr C ty r EN de := HB2.out
              clear hr0
              obtain ⟨wo, hwo⟩ : ∃ wo : World, wo = wr := ⟨_, rfl⟩
              subst hwo
              go_loopw [10] (fun v wr => ∃ b : Nat, b ≤ 4 ∧ v = .int .i64 b ∧ Ch w wr C ∧ ∃ de, BRow wr C ty r EN de) (fun v _ => 4 - (intOf v).toNat)
              case atStart => exact ⟨0, by omega, rfl, HC.out, _, HB2.out⟩
              case round =>
                obtain ⟨b, hb4, rfl, hc, de', hb⟩ := hrel
                clear HC HB2
                have HC := Lib.hid hc
                have HB3 := Lib.hid hb
                by_cases hltb : b < 4
                · have cx := hb.eAt (ei + b) (by omega)
                  obtain ⟨x, hx⟩ : ∃ x, x = EN (ei + b) := ⟨_, rfl⟩
                  have bx : 0 ≤ x ∧ x < 4294967296 := by rw [hx, HEN.out]; exact scht_bd _ _ _ _ _
                  rw [← hx] at cx
                  obtain ⟨bx0, bx1⟩ := bx
                  have z0 := hb.frozen (61 + (4 * a + b))
                  have cz := hb.dAt (4 * a + b) (by omega)
                  have T1 := Lib.hid (HT.out.ch hc hC)
                  clear hc hb hx
                  by_cases ha0 : 1 ≤ a
                  · by_cases ha1 : 4 * a + 4 < 4 * (r + 1)
                    · obtain ⟨x0, y0, m0, n0⟩ := tabS0 (x := x) T1.out Hk.out bx0 bx1
                      obtain ⟨x1, y1, m1, n1⟩ := tabS1 (x := x) T1.out Hk.out bx0 bx1
                      obtain ⟨x2, y2, m2, n2⟩ := tabS2 (x := x) T1.out Hk.out bx0 bx1
                      obtain ⟨x3, y3, m3, n3⟩ := tabSx (x := x) T1.out Hk.out bx0 bx1
                      obtain ⟨u0, v0⟩ := tabD _ T1.out.D0 m0 n0
                      obtain ⟨u1, v1⟩ := tabD _ T1.out.D1 m1 n1
                      obtain ⟨u2, v2⟩ := tabD _ T1.out.D2 m2 n2
                      obtain ⟨u3, v3⟩ := tabD _ T1.out.D3 m3 n3
                      go_wp2
                      go_quiet (fail)
                      go_wp2
                      go_roundw
                      case rel => first | exact ⟨b + 1, by omega, by go_num, (HC.out.trans (Ch.drewN _ _ _)).trans (Ch.setCell _ _ _ _), _, HB3.out.setD (4 * a + b) (by omega) _⟩ | ((repeat apply Exists.intro); exact ⟨⟨b + 1, by omega, by go_num, (HC.out.trans (Ch.drewN _ _ _)).trans (Ch.setCell _ _ _ _), _, HB3.out.setD (4 * a + b) (by omega) _⟩, rfl⟩)
                      case measure => simp [intOf]; omega
                    · go_wp2
                      go_roundw
                      case rel => first | exact ⟨b + 1, by omega, by go_num, HC.out.trans (Ch.setCell _ _ _ _), _, HB3.out.setD (4 * a + b) (by omega) _⟩ | ((repeat apply Exists.intro); exact ⟨⟨b + 1, by omega, by go_num, HC.out.trans (Ch.setCell _ _ _ _), _, HB3.out.setD (4 * a + b) (by omega) _⟩, rfl⟩)
                      case measure => simp [intOf]; omega
                  · go_wp2
                    go_roundw
                    case rel => first | exact ⟨b + 1, by omega, by go_num, HC.out.trans (Ch.setCell _ _ _ _), _, HB3.out.setD (4 * a + b) (by omega) _⟩ | ((repeat apply Exists.intro); exact ⟨⟨b + 1, by omega, by go_num, HC.out.trans (Ch.setCell _ _ _ _), _, HB3.out.setD (4 * a + b) (by omega) _⟩, rfl⟩)
                    case measure => simp [intOf]; omega
                · obtain rfl : b = 4 := by omega
                  clear hc hb
                  go_wp2
                  go_roundw
                  case rel => first | exact ⟨a + 1, by omega, by go_num, HC.out, _, HB3.out⟩ | ((repeat apply Exists.intro); exact ⟨⟨a + 1, by omega, by go_num, HC.out, _, HB3.out⟩, rfl⟩)
                  case measure => simp [intOf]; omega
            · obtain rfl : a = r + 1 := by omega
              go_wp2
              go_end0
              refine ⟨rfl, hc, de, ?_⟩
              rw [← HEN.out]
              exact hb
end Go.Proofs.YtpgnjlgcgghihaaDoor
