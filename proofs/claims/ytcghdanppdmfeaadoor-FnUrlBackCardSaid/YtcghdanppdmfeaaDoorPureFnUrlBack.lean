/- FnUrlBack, its pure statement: bytes that are escaped for a URL come back. For all byte lists. -/
import Derived.Test.YtcghdanppdmfeaaDoorAid
import Derived.Test.YtcghdanppdmfeaaDoorPFnUrlBackx0
import Derived.Test.YtcghdanppdmfeaaDoorPFnUrlBackx1
namespace Go.Proofs.YtcghdanppdmfeaaDoor.Pure
open Go.RowKit Go.Proofs.YtcghdanppdmfeaaDoor.PFnUrlBack Go.Proofs.YtcghdanppdmfeaaDoorW.PrintWords Go.Proofs.YtcghdanppdmfeaaDoorW.PrintLast Go.Proofs.YtcghdanppdmfeaaDoor.Aid
set_option linter.unusedVariables false
set_option linter.unusedSimpArgs false

theorem few_loop (ls : List (List Int)) (hl : ls.length ≤ 1000) : ∀ (n i : Nat), i + n = ls.length →
    Ev (fun k => laws_fewBytes.l0 k ls (ls.length : Int) (i : Int)) ((ls.drop i).all fun l => decide (l.length ≤ 300))
  | 0, i, hi => by
    refine Ev.step (fun _ => laws_fewBytes.l0.eq_2 ..) (EvNeg (by omega) ?_)
    rw [List.drop_of_length_le (by omega)]
    exact Ev.now _
  | n + 1, i, hi => by
    have hlt : i < ls.length := by omega
    have e : rd_L1 ls (i : Int) = ls[i] := by unfold rd_L1; simp [List.getD_eq_getElem?_getD, List.getElem?_eq_getElem hlt]
    refine Ev.step (fun _ => laws_fewBytes.l0.eq_2 ..) (EvPos (by omega) (EvPos (by omega) (EvPos (by omega) ?_)))
    rw [e, wn hlt (by omega), drop_cons hlt, List.all_cons]
    refine EvIte (fun h => ?_) (fun h => ?_)
    · rw [decide_eq_false (by omega), Bool.false_and]
      exact Ev.now _
    · rw [decide_eq_true (by omega), Bool.true_and]
      exact few_loop ls hl n (i + 1) (by omega)
theorem few_ev (ls : List (List Int)) (hl : ls.length ≤ 1000) : Ev (fun k => laws_fewBytes.f k ls) (ls.all fun l => decide (l.length ≤ 300)) := by
  have := few_loop ls hl ls.length 0 (by omega)
  unfold laws_fewBytes.f
  simpa using this

theorem same_loop (a b : List Int) (hl : a.length = b.length) (hm : a.length ≤ 140737488355328) : ∀ (n i : Nat), i + n = a.length →
    Ev (fun k => spec_SameBytes.l0 k b a (a.length : Int) (i : Int)) (decide (a.drop i = b.drop i))
  | 0, i, hi => by
    refine Ev.step (fun _ => spec_SameBytes.l0.eq_2 ..) (EvNeg (by omega) ?_)
    rw [List.drop_of_length_le (by omega), List.drop_of_length_le (by omega), decide_eq_true rfl]
    exact Ev.now _
  | n + 1, i, hi => by
    have hlt : i < a.length := by omega
    have hlt' : i < b.length := by omega
    refine Ev.step (fun _ => spec_SameBytes.l0.eq_2 ..) (EvPos (by omega) (EvPos (by omega) (EvPos (by omega) (EvPos (by omega) ?_))))
    rw [rd_at hlt, rd_at hlt', wn hlt (by omega), drop_cons hlt, drop_cons hlt']
    refine EvIte (fun h => ?_) (fun h => ?_)
    · refine EvEq (same_loop a b hl hm n (i + 1) (by omega)) ?_
      rw [Bool.eq_iff_iff, h]
      simp only [decide_eq_true_eq, List.cons.injEq, true_and]
    · refine EvNow ?_
      symm
      apply decide_eq_false
      intro e
      injection e with e1 e2
      exact h e1
theorem same_ev (a b : List Int) (hm : a.length ≤ 140737488355328) : Ev (fun k => spec_SameBytes.f k a b) (decide (a = b)) := by
  unfold spec_SameBytes.f
  refine EvIte (fun h => ?_) (fun h => ?_)
  · have := same_loop a b (by omega) hm a.length 0 (by omega)
    simpa using this
  · refine EvNow ?_
    symm
    apply decide_eq_false
    intro e
    subst e
    exact h rfl

abbrev bigH : ByteArray := ⟨#[48, 49, 50, 51, 52, 53, 54, 55, 56, 57, 65, 66, 67, 68, 69, 70]⟩
abbrev smallH : ByteArray := ⟨#[48, 49, 50, 51, 52, 53, 54, 55, 56, 57, 97, 98, 99, 100, 101, 102]⟩
def pctI (c : Int) (small : Bool) : List Int := [37, bt (if small = true then smallH else bigH) (c / 16), bt (if small = true then smallH else bigH) (c % 16)]

theorem hex_nat : ∀ n : Nat, n < 16 → ∀ small : Bool, Own.hexD (bt (if small = true then smallH else bigH) (n : Int)) = true ∧ Own.hexV (bt (if small = true then smallH else bigH) (n : Int)) = n := by decide
theorem hex_of {d : Int} (small : Bool) (h0 : 0 ≤ d) (h1 : d < 16) : Own.hexD (bt (if small = true then smallH else bigH) d) = true ∧ Own.hexV (bt (if small = true then smallH else bigH) d) = d := by
  obtain ⟨n, rfl⟩ := Int.eq_ofNat_of_zero_le h0
  exact hex_nat n (by omega) small
def Plain (l : List Int) : Prop := ∀ x ∈ l, x ≠ 37 ∧ x ≠ 43
theorem dec_plain : ∀ (l t : List Int), Plain l → Own.decI (l ++ t) = l ++ Own.decI t
  | [], t, _ => rfl
  | c :: l, t, h => by
    have hc := h c (List.mem_cons_self ..)
    rw [List.cons_append, Own.dec_other hc.1, if_neg hc.2, dec_plain l t (fun x hx => h x (List.mem_cons_of_mem _ hx))]
    rfl
theorem dec_nil : Own.decI [] = [] := by rw [Own.decI]
theorem dec_pct {c : Int} (small : Bool) (t : List Int) (h0 : 0 ≤ c) (h1 : c ≤ 255) : Own.decI (pctI c small ++ t) = c :: Own.decI t := by
  unfold pctI
  have ha := hex_of (d := c / 16) small (by omega) (by omega)
  have hb := hex_of (d := c % 16) small (by omega) (by omega)
  rw [List.cons_append, List.cons_append, List.cons_append, List.nil_append, Own.dec_yes ha.1 hb.1, ha.2, hb.2]
  congr 1
  omega
theorem bt_byte : ∀ n : Nat, n < 16 → ∀ small : Bool, 0 ≤ bt (if small = true then smallH else bigH) (n : Int) ∧ bt (if small = true then smallH else bigH) (n : Int) ≤ 255 := by decide
theorem pct_bytes {c : Int} (small : Bool) (h0 : 0 ≤ c) (h1 : c ≤ 255) : Bytes (pctI c small) := by
  have hb : ∀ d : Int, 0 ≤ d → d < 16 → 0 ≤ bt (if small = true then smallH else bigH) d ∧ bt (if small = true then smallH else bigH) d ≤ 255 := by
    intro d h0 h1
    obtain ⟨n, rfl⟩ := Int.eq_ofNat_of_zero_le h0
    exact bt_byte n (by omega) small
  intro x hx
  unfold pctI at hx
  simp only [List.mem_cons, List.not_mem_nil, or_false] at hx
  rcases hx with rfl | rfl | rfl
  · omega
  · exact hb _ (by omega) (by omega)
  · exact hb _ (by omega) (by omega)
theorem byD_all {l : List Int} (h : Bytes l) : l.all Own.byD = true := by
  rw [List.all_eq_true]
  intro x hx
  have := h x hx
  unfold Own.byD
  rw [decide_eq_true this.1, decide_eq_true (by omega : x < 256)]
  rfl
theorem decode_f {l : List Int} (h : Bytes l) (hl : l.length < 140737488355328) : Own.impl_DecodeURL.f l = some (Own.decI l) := by
  unfold Own.impl_DecodeURL.f
  rw [if_pos ⟨hl, byD_all h⟩]

def tbU (t : Int) : Nat → Bool := if t = 1 then Own.isD else Own.isU
theorem enc_len3 (f : Nat → Bool) : ∀ l, (Own.encI f l).length ≤ 3 * l.length
  | [] => Nat.le_refl _
  | c :: t => by
    have := enc_len3 f t
    unfold Own.encI
    split <;> simp <;> omega
theorem byE_all {l : List Int} (h : Bytes l) : l.all Own.byE = true := by
  rw [List.all_eq_true]
  intro x hx
  have := h x hx
  unfold Own.byE
  rw [decide_eq_true this.1, decide_eq_true (by omega : x < 256)]
  rfl
theorem encode_f {l : List Int} (t : Int) (h : Bytes l) (hl : l.length < 40000000000000) : Own.impl_EncodeURL.f l t = some (Own.encI (tbU t) l) := by
  have := enc_len3 (tbU t) l
  unfold Own.impl_EncodeURL.f
  exact if_pos ⟨by omega, byE_all h, by unfold tbU at this; omega⟩
theorem escaped_eq {c : Int} (t : Int) (h0 : 0 ≤ c) (h1 : c ≤ 255) : Own.impl_Escaped.f c t = some (tbU t c.toNat) := by
  unfold Own.impl_Escaped.f tbU
  rw [if_pos ⟨h0, by omega⟩]
  split <;> rfl

theorem enc_bytes (f : Nat → Bool) : ∀ l, Bytes l → Bytes (Own.encI f l)
  | [], _ => by intro x hx; simp [Own.encI] at hx
  | c :: t, h => by
    have hc := h c (List.mem_cons_self ..)
    have ih := enc_bytes f t (fun x hx => h x (List.mem_cons_of_mem _ hx))
    intro x hx
    unfold Own.encI at hx
    split at hx
    · have hp := pct_bytes (c := c) false hc.1 hc.2
      rw [List.mem_cons, List.mem_cons, List.mem_cons] at hx
      rcases hx with rfl | rfl | rfl | hx
      · omega
      · exact hp _ (by unfold pctI; simp)
      · exact hp _ (by unfold pctI; simp)
      · exact ih x hx
    · rcases List.mem_cons.1 hx with rfl | hx
      · exact hc
      · exact ih x hx
theorem dec_enc (f : Nat → Bool) (h37 : f 37 = true) : ∀ l, Bytes l → (∀ x ∈ l, x = 43 → f 43 = true) → Own.decI (Own.encI f l) = l
  | [], _, _ => by rw [Own.encI, dec_nil]
  | c :: t, h, hp => by
    have hc := h c (List.mem_cons_self ..)
    have ih := dec_enc f h37 t (fun x hx => h x (List.mem_cons_of_mem _ hx)) (fun x hx => hp x (List.mem_cons_of_mem _ hx))
    by_cases hf : f c.toNat = true
    · rw [Own.enc_yes hf]
      have := dec_pct (c := c) false (Own.encI f t) hc.1 hc.2
      rw [ih] at this
      exact this
    · have h1 : c ≠ 37 := by intro e; subst e; exact hf h37
      have h2 : c ≠ 43 := by intro e; subst e; exact hf (hp 43 (List.mem_cons_self ..) rfl)
      rw [Own.enc_no (by simpa using hf), Own.dec_other h1, if_neg h2, ih]

theorem FnUrlBack : laws_FnUrlBack.Pure := by
  intro l h1 h2 h3
  have hb := bytes_of h3
  refine Ev.rounds ?_
  unfold laws_FnUrlBack.f
  refine EvIte (fun _ => Ev.now _) (fun h => ?_)
  refine Ev.bind (few_ev _ (by simp)) (EvIte (fun _ => ?_) (fun _ => Ev.now _))
  have hl := enc_len3 (tbU 0) l
  refine EvGet (encode_f 0 hb (by omega)) (EvGet (decode_f (enc_bytes _ l hb) (by omega)) ?_)
  rw [dec_enc (tbU 0) (by decide) l hb (fun _ _ _ => by decide)]
  exact Ev.bind (same_ev _ _ (by omega)) (EvNow (by simp))

end Go.Proofs.YtcghdanppdmfeaaDoor.Pure
