/- From the row's own words to the walk's: tables, slices of bytes, the counter's sixteen bytes. -/
import Derived.Test.YtpgnjlgcgghihaaDoorN
import Derived.ProofKit
import Derived.OpenShut
import Derived.Carry
namespace Go.Proofs.YtpgnjlgcgghihaaDoor
open Go.ChangeShapes Go.WideShapes Go.ChangeAt Go.RowKit Go
variable {H : Type} {enc : TypeId × Value → H}
theorem int_trod {w : World} {base : Nat} {sp : Nat → Bool} {held : Bool} {fuel : Nat} {t : TypeId} {k : IntKind} {l : List Value} {y : DataW H × List MemPlace}
    (ht : Tryd.prog.underlying t = some (.int k)) (h : DataW.trod enc Tryd.prog w base sp held fuel t l = some y) : ∃ n, l = [.int k n] ∧ (Lit.int k n).wf = true := by
  match l, h with
  | [c], h =>
    cases fuel with
    | zero => simp [DataW.trod] at h
    | succ fuel =>
      cases c <;> simp [DataW.trod, ht] at h
      rename_i k' n
      obtain ⟨⟨rfl, h2⟩, _⟩ := h
      exact ⟨n, rfl, h2⟩
  | [], h => cases fuel <;> simp [DataW.trod, ht] at h
  | _ :: _ :: _, h => cases fuel <;> simp [DataW.trod, ht] at h
theorem arr_trod {w : World} {base : Nat} {sp : Nat → Bool} {held : Bool} {fuel n : Nat} {t e : TypeId} {k : IntKind} {cs : Array Value} {y : DataW H × List MemPlace}
    (ht : Tryd.prog.underlying t = some (.array n e)) (he : Tryd.prog.underlying e = some (.int k)) (hc : Tryd.prog.cellsOf e = 1) (h : DataW.trod enc Tryd.prog w base sp held fuel t cs.toList = some y) :
    ∃ f : Nat → Int, ∀ i, i < n → cs[i]? = some (.int k (f i)) ∧ (Lit.int k (f i)).wf = true := by
  obtain ⟨xs, m, _, _, _, hl, hx⟩ := DataW.trod_array ht h
  have each : ∀ i, i < n → ∃ z, cs[i]? = some (.int k z) ∧ (Lit.int k z).wf = true := by
    intro i hi
    have h1 := hx i hi
    rw [hc, List.getElem?_eq_getElem (by omega)] at h1
    obtain ⟨z, h2, h3⟩ := int_trod he h1
    refine ⟨z, ?_, h3⟩
    have h4 : ((cs.toList.drop (i * 1)).take 1)[0]? = some (Value.int k z) := by rw [h2]; rfl
    rw [List.getElem?_take_of_lt (by omega), List.getElem?_drop] at h4
    simpa using h4
  refine ⟨fun i => if h : i < n then (each i h).choose else 0, fun i hi => ?_⟩
  simp only [dif_pos hi]
  exact (each i hi).choose_spec
theorem var_has {w : World} {nm : String} {g : Nat} {cs : Array Value} (hg : Tryd.prog.globalNamed nm = some g) (hv : w.var? Tryd.prog nm = some cs) {k : IntKind} {n : Nat} {f : Nat → Int} (h : ∀ i, i < n → cs[i]? = some (.int k (f i)) ∧ (Lit.int k (f i)).wf = true) :
    Has w g k n f := by
  intro i hi
  unfold World.var? at hv
  rw [hg] at hv
  simp only [Option.bind_some] at hv
  unfold World.cell?
  split at hv
  · rename_i c t fr hb
    simp only [Option.some.injEq] at hv
    subst hv
    simp only [hb]
    exact (h i hi).1
  · cases hv
theorem bd_u8 {n : Nat} {P : Nat → Prop} {f : Nat → Int} (h : ∀ i, i < n → P i ∧ (Lit.int .u8 (f i)).wf = true) : Bd n 256 f := by
  intro i hi
  have := (h i hi).2
  simp [Lit.wf, IntKind.min, IntKind.max, IntKind.signed, IntKind.bits] at this
  omega
theorem bd_u32 {n : Nat} {P : Nat → Prop} {f : Nat → Int} (h : ∀ i, i < n → P i ∧ (Lit.int .u32 (f i)).wf = true) : Bd n 4294967296 f := by
  intro i hi
  have := (h i hi).2
  simp [Lit.wf, IntKind.min, IntKind.max, IntKind.signed, IntKind.bits] at this
  omega
theorem sl_open {w : World} {sp : Nat → Bool} {held : Bool} {r : Reach} {b0 : Nat} {v : Value} {d : DataW H} {ps : List MemPlace} (hval : Value.okWide Tryd.prog w r b0 22 v) (h : DataW.Trod enc Tryd.prog w 0 sp held 22 v d ps) :
    ∃ a n c f, v = .slice a n c ∧ Byt w a n f ∧ Bd n 256 f := by
  obtain ⟨a, n, c, rfl⟩ := okWide_slice Tryd.underlying22 hval
  obtain ⟨fuel, hf⟩ := h
  rcases open_ints Tryd.underlying22 Tryd.underlying5 (by kernel_rfl) hf with ⟨h1, _⟩ | ⟨a', len, cap, zs, h1, _, hlc, _, hz, _, hcell, hwf⟩
  · simp [Value.cells] at h1
    obtain ⟨rfl, rfl, rfl⟩ := h1
    exact ⟨none, 0, 0, fun _ => 0, rfl, fun h => absurd h (by omega), fun i hi => absurd hi (by omega)⟩
  · simp [Value.cells] at h1
    obtain ⟨rfl, rfl, rfl⟩ := h1
    have hzl : n ≤ zs.length := by rw [hz]; split <;> omega
    refine ⟨some a', n, c, fun i => zs.getD i 0, rfl, fun h => ?_, fun i hi => ?_⟩
    · have h0 := hcell 0 (by omega)
      obtain ⟨B, q, s⟩ := a'
      cases s with
      | some s =>
        simp only [Addr.add, if_true] at h0
        unfold World.cell? at h0
        split at h0 <;> simp at h0
      | none =>
        refine ⟨B, q, rfl, fun i hi => ?_⟩
        have := hcell i (by omega)
        rwa [add_off] at this
    · have hm : zs.getD i 0 ∈ zs := by
        rw [List.getD_eq_getElem?_getD, List.getElem?_eq_getElem (by omega)]
        exact List.getElem_mem _
      have := hwf _ hm
      simp [Lit.wf, IntKind.min, IntKind.max, IntKind.signed, IntKind.bits] at this
      constructor <;> simp only [List.getD_eq_getElem?_getD] <;> omega
theorem iv_open {w : World} {sp : Nat → Bool} {held : Bool} {r : Reach} {b0 : Nat} {v : Value} {d : DataW H} {ps : List MemPlace} (hval : Value.okWide Tryd.prog w r b0 23 v) (h : DataW.Trod enc Tryd.prog w 0 sp held 23 v d ps) :
    ∃ f : Nat → Int, v = .agg #[.int .u8 (f 0), .int .u8 (f 1), .int .u8 (f 2), .int .u8 (f 3), .int .u8 (f 4), .int .u8 (f 5), .int .u8 (f 6), .int .u8 (f 7), .int .u8 (f 8), .int .u8 (f 9), .int .u8 (f 10), .int .u8 (f 11), .int .u8 (f 12), .int .u8 (f 13), .int .u8 (f 14), .int .u8 (f 15)] ∧ Bd 16 256 f := by
  simp only [Value.okWide, Tryd.underlying23] at hval
  obtain ⟨cs, rfl, h2, _⟩ := hval
  have hc : Tryd.prog.cellsOf 23 = 16 := by kernel_rfl
  rw [hc] at h2
  obtain ⟨fuel, hf⟩ := h
  obtain ⟨f, h3⟩ := arr_trod (cs := cs) Tryd.underlying23 Tryd.underlying5 (by kernel_rfl) hf
  refine ⟨f, ?_, bd_u8 h3⟩
  congr 1
  apply Array.ext
  · simp [h2]
  · intro i hi1 hi2
    have hi : i < 16 := by omega
    have h4 := (h3 i hi).1
    have h5 := ivl_at f i hi
    rw [Array.getElem?_eq_getElem hi1] at h4
    rw [Array.getElem?_eq_getElem hi2] at h5
    exact Option.some.inj (h4.trans h5.symm)
noncomputable def stayB (ns : List String) : Bool := ns.all fun n => match Tryd.prog.globalNamed n with
  | some g => match (Tryd.prog.globals[g]?).map (·.type) with
    | some t => Tryd.prog.readableRec t && decide (t < Tryd.prog.types.size)
    | none => true
  | none => true
theorem laid : laidOutB Tryd.prog = true := by kernel_rfl
theorem vars_stay {W W' : World} (hb : Below W.heap.size W W') : ∀ {ns : List String} {gs : List (DataW H)} {ps : List MemPlace}, stayB ns = true → (∀ x ∈ ps, x.block < W.heap.size) → DataW.TrodVars enc Tryd.prog W (fun _ => true) ns gs ps → DataW.TrodVars enc Tryd.prog W' (fun b => decide (b < W.heap.size)) ns gs ps := by
  intro ns
  induction ns with
  | nil => intro gs ps _ _ h; cases gs <;> exact h
  | cons n ns ih =>
    intro gs ps hs hp h
    cases gs with
    | nil => exact h.elim
    | cons d gs =>
      obtain ⟨g, t, cs, fuel, p, q, h1, h2, h3, h4, h5, rfl⟩ := h
      simp only [stayB, List.all_cons, h1, h2, Bool.and_eq_true, decide_eq_true_eq] at hs
      obtain ⟨fuel', h4'⟩ := Below.trod (v := .agg cs) laid hs.1.1 hs.1.2 ⟨fuel, h4⟩ hb (fun x hx => hp x (by simp [hx]))
      refine ⟨g, t, cs, fuel', p, q, h1, h2, ?_, h4', ih (by simpa [stayB] using hs.2) (fun x hx => hp x (by simp [hx])) h5, rfl⟩
      unfold World.var? at h3 ⊢
      rw [h1] at h3 ⊢
      simp only [Option.bind_some] at h3 ⊢
      have hg : g < W.heap.size := by
        cases hh : W.heap[g]? with
        | none => rw [hh] at h3; cases h3
        | some o => exact (Array.getElem?_eq_some_iff.1 hh).1
      rw [hb.block g hg]; exact h3
end Go.Proofs.YtpgnjlgcgghihaaDoor
