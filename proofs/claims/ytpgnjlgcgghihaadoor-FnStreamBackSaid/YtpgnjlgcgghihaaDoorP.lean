/- Proved: for every key, first counter, list of bytes and place, the law FnStreamBack returns true, without a panic, and its arguments read behind the call as they read before.
   Conditions: none beyond what the given row itself asks; the ten tables of package aes are left open by the row, so the statement, and this proof, speak of every value that they can hold (the run does read them). -/
import Derived.Test.YtpgnjlgcgghihaaDoorO
namespace Go.Proofs.YtpgnjlgcgghihaaDoor
open Go.ChangeShapes Go.WideShapes Go.ChangeAt Go.RowKit
variable {H : Type} {enc : TypeId × Value → H}
theorem var_one {W : World} {sp : Nat → Bool} {nm : String} {ns : List String} {gs : List (DataW H)} {ps : List MemPlace} {g n : Nat} {t e : TypeId} {k : IntKind}
    (hg : Tryd.prog.globalNamed nm = some g) (ht : (Tryd.prog.globals[g]?).map (·.type) = some t) (hu : Tryd.prog.underlying t = some (.array n e)) (he : Tryd.prog.underlying e = some (.int k)) (hc : Tryd.prog.cellsOf e = 1)
    (h : DataW.TrodVars enc Tryd.prog W sp (nm :: ns) gs ps) :
    ∃ d gs' q f, gs = d :: gs' ∧ DataW.TrodVars enc Tryd.prog W sp ns gs' q ∧ Has W g k n f ∧ (∀ i, i < n → True ∧ (Lit.int k (f i)).wf = true) ∧ g < W.heap.size := by
  cases gs with
  | nil => exact h.elim
  | cons d gs =>
    obtain ⟨g', t', cs, fuel, p, q, h1, h2, h3, h4, h5, _⟩ := h
    obtain rfl : g = g' := Option.some.inj (hg.symm.trans h1)
    obtain rfl : t = t' := Option.some.inj (ht.symm.trans h2)
    obtain ⟨f, hf⟩ := arr_trod hu he hc h4
    refine ⟨d, gs, q, f, rfl, h5, var_has h1 h3 hf, fun i hi => ⟨trivial, (hf i hi).2⟩, ?_⟩
    unfold World.var? at h3
    rw [h1] at h3
    simp only [Option.bind_some] at h3
    cases hh : W.heap[g]? with
    | none => rw [hh] at h3; cases h3
    | some o => exact (Array.getElem?_eq_some_iff.1 hh).1
theorem u80 : Tryd.prog.underlying 80 = some (.array 256 45) := by kernel_rfl
theorem u45 : Tryd.prog.underlying 45 = some (.int .u32) := by kernel_rfl
theorem c45 : Tryd.prog.cellsOf 45 = 1 := by kernel_rfl
theorem c5 : Tryd.prog.cellsOf 5 = 1 := by kernel_rfl
theorem tabs_open {W : World} {sp : Nat → Bool} {gs : List (DataW H)} {ps : List MemPlace} (h : DataW.TrodVars enc Tryd.prog W sp Rows.fnStreamBackSpec.vars gs ps) :
    ∃ t d1 d2 d3 d4 d5 d6 d7 d8 d9 d10, gs = [d1, d2, d3, d4, d5, d6, d7, d8, d9, d10] ∧ Tabs t W ∧ TabOk t := by
  unfold Rows.fnStreamBackSpec at h
  simp only at h
  obtain ⟨d1, gs1, q1, P, rfl, h1, hP, bP, _⟩ := var_one (g := 0) (t := 23) (by kernel_rfl) (by kernel_rfl) Tryd.underlying23 Tryd.underlying5 c5 h
  obtain ⟨d2, gs2, q2, S, rfl, h2, hS, bS, _⟩ := var_one (g := 2) (t := 81) (n := 256) (by kernel_rfl) (by kernel_rfl) (by kernel_rfl) Tryd.underlying5 c5 h1
  obtain ⟨d3, gs3, q3, D0, rfl, h3, hD0, bD0, _⟩ := var_one (g := 1) (t := 80) (by kernel_rfl) (by kernel_rfl) u80 u45 c45 h2
  obtain ⟨d4, gs4, q4, D1, rfl, h4, hD1, bD1, _⟩ := var_one (g := 3) (t := 80) (by kernel_rfl) (by kernel_rfl) u80 u45 c45 h3
  obtain ⟨d5, gs5, q5, D2, rfl, h5, hD2, bD2, _⟩ := var_one (g := 4) (t := 80) (by kernel_rfl) (by kernel_rfl) u80 u45 c45 h4
  obtain ⟨d6, gs6, q6, D3, rfl, h6, hD3, bD3, _⟩ := var_one (g := 5) (t := 80) (by kernel_rfl) (by kernel_rfl) u80 u45 c45 h5
  obtain ⟨d7, gs7, q7, T0, rfl, h7, hT0, bT0, _⟩ := var_one (g := 6) (t := 80) (by kernel_rfl) (by kernel_rfl) u80 u45 c45 h6
  obtain ⟨d8, gs8, q8, T1, rfl, h8, hT1, bT1, _⟩ := var_one (g := 7) (t := 80) (by kernel_rfl) (by kernel_rfl) u80 u45 c45 h7
  obtain ⟨d9, gs9, q9, T2, rfl, h9, hT2, bT2, _⟩ := var_one (g := 8) (t := 80) (by kernel_rfl) (by kernel_rfl) u80 u45 c45 h8
  obtain ⟨d10, gs10, q10, T3, rfl, h10, hT3, bT3, l9⟩ := var_one (g := 9) (t := 80) (by kernel_rfl) (by kernel_rfl) u80 u45 c45 h9
  obtain ⟨rfl, _⟩ := trodVars_none h10
  exact ⟨⟨P, S, D0, D1, D2, D3, T0, T1, T2, T3⟩, d1, d2, d3, d4, d5, d6, d7, d8, d9, d10, rfl, ⟨l9, hP, hD0, hS, hD1, hD2, hD3, hT0, hT1, hT2, hT3⟩, ⟨bd_u8 bP, bd_u8 bS, bd_u32 bD0, bd_u32 bD1, bd_u32 bD2, bd_u32 bD3, bd_u32 bT0, bd_u32 bT1, bd_u32 bT2, bd_u32 bT3⟩⟩
theorem arg_stay {W W' : World} (hb : Below W.heap.size W W') {t : TypeId} (hr : Tryd.prog.readableRec t = true) (hl : t < Tryd.prog.types.size) {v : Value} {d : DataW H} {p : List MemPlace} (h : DataW.Trod enc Tryd.prog W 0 (fun _ => true) true t v d p) (hp : ∀ x ∈ p, x.block < W.heap.size) :
    DataW.Trod enc Tryd.prog W' 0 (fun b => decide (b < W.heap.size)) true t v d p := Below.trod laid hr hl h hb hp
theorem own : ownKnob Tryd.prog.godebug = none := by kernel_rfl
set_option maxRecDepth 100000 in
theorem streamback_lifted (os : Os) (started : os.Started) (H : Type) (enc : TypeId × Value → H) :
    ReturnsInHanded {} Tryd.checked os 3 .any (Rows.fnStreamBackSpec.pre6 enc Tryd.prog Tryd.f3 [] false) (Rows.fnStreamBackSpec.post enc Tryd.prog Tryd.f3 false true false false) := by
  refine returnsInHanded_of_change (C := Tryd.checked) own started (by kernel_rfl) Tryd.func3
    (ChangeSpec.witness6 (enc := enc) (C := Tryd.checked) false ⟨#[], #[.slice none 0 0, .agg #[.int .u8 0, .int .u8 0, .int .u8 0, .int .u8 0, .int .u8 0, .int .u8 0, .int .u8 0, .int .u8 0, .int .u8 0, .int .u8 0, .int .u8 0, .int .u8 0, .int .u8 0, .int .u8 0, .int .u8 0, .int .u8 0], .slice none 0 0, .int .u64 0], []⟩ 8 (by kernel_rfl) (by kernel_rfl) (by kernel_rfl) (by kernel_rfl)) ?_
  intro W base args ds gs before hval0 hW _ _
  have hval : ∀ (j : Nat) t v, Tryd.f3.params[j]? = some t → args[j]? = some v → Value.okWide Tryd.prog W .any base t v := hval0
  have hW' := hW
  obtain ⟨p, q, hA0, hV, rfl, _, _⟩ := hW
  have hA : DataW.TrodAll enc Tryd.prog W 0 (fun _ => true) true Tryd.f3.params.toList args.toList ds p := hA0
  have hlt := hW'.lt
  rw [Tryd.params3] at hA hval
  obtain ⟨v0, v1, v2, v3, d0, d1, d2, d3, p0, p1, p2, p3, rfl, rfl, rfl, h0, h1, h2, h3⟩ := trodAll_four hA
  obtain ⟨aK, n, c, kb, rfl, bK, kK⟩ := sl_open (hval 0 22 v0 rfl rfl) h0
  obtain ⟨iv, rfl, bI⟩ := iv_open (hval 1 23 v1 rfl rfl) h1
  obtain ⟨aB, m, cB, g, rfl, bB, kB⟩ := sl_open (hval 2 22 v2 rfl rfl) h2
  obtain ⟨off, rfl, hd3, hp3, wo⟩ := open_int Tryd.underlying24 (hval 3 24 v3 rfl rfl) h3
  obtain ⟨t, g1, g2, g3, g4, g5, g6, g7, g8, g9, g10, rfl, hT, hO⟩ := tabs_open hV
  have ho : 0 ≤ off := by
    simp [Lit.wf, IntKind.min, IntKind.max, IntKind.signed, IntKind.bits] at wo
    omega
  refine (fsb_any t aK aB n c m cB kb iv g off W hT hO hT.size bK kK bI bB kB ho).mono fun e W' ⟨he, hc⟩ => ?_
  subst he
  have hb : Below W.heap.size W W' := hc.below (Nat.le_refl _) (Nat.le_refl _)
  exact ⟨_, rfl, _, _, _, [], p0 ++ (p1 ++ (p2 ++ (p3 ++ []))), q, hW', trodAll_mk1 (shut_bool Tryd.underlying4 _),
    ⟨p0, _, arg_stay hb (by kernel_rfl) (of_decide_eq_true (by kernel_rfl)) h0 (fun x hx => hlt x (by simp [hx])),
      ⟨p1, _, arg_stay hb (by kernel_rfl) (of_decide_eq_true (by kernel_rfl)) h1 (fun x hx => hlt x (by simp [hx])),
        ⟨p2, _, arg_stay hb (by kernel_rfl) (of_decide_eq_true (by kernel_rfl)) h2 (fun x hx => hlt x (by simp [hx])),
          ⟨p3, [], arg_stay hb (by kernel_rfl) (of_decide_eq_true (by kernel_rfl)) h3 (fun x hx => hlt x (by simp [hx])), rfl, rfl⟩, rfl⟩, rfl⟩, rfl⟩,
    vars_stay hb (by kernel_rfl) (fun x hx => hlt x (by simp [hx])) hV, hb.frame _, fun h => by cases h⟩
theorem streamback_holds : Rows.FnStreamBackSaid :=
  OpenClaim.holds_of_wide 3 Tryd.f3 rfl rfl rfl rfl rfl rfl rfl ⟨rfl, rfl, rfl, rfl, rfl⟩ rfl rfl rfl rfl rfl (by kernel_rfl) Tryd.func3 (by kernel_rfl)
    (of_decide_eq_true (by kernel_rfl)) (by unfold Func.isWrapper; first | (rw [if_pos (by decide +kernel)]; kernel_rfl) | (rw [if_neg (by decide +kernel)]; exact ⟨rfl, rfl⟩))
    (fun os started H enc _ => streamback_lifted os started H enc)
end Go.Proofs.YtpgnjlgcgghihaaDoor
