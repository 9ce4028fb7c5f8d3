/- FnEntityNone, its pure statement: a text without an ampersand stays as it is. For all byte lists and lists of entities. -/
import Derived.Test.YtkgaladmiiglaaaDoorAid
import Derived.Test.YtkgaladmiiglaaaDoorPFnEntityNonex0
import Derived.Test.YtkgaladmiiglaaaDoorPFnEntityNonex1
import Derived.Test.YtkgaladmiiglaaaDoorPFnEntityNonex2
import Derived.Test.YtkgaladmiiglaaaDoorPFnEntityNonex3
namespace Go.Proofs.YtkgaladmiiglaaaDoor.Pure
open Go.RowKit Go.Proofs.YtkgaladmiiglaaaDoor.PFnEntityNone Go.Proofs.YtkgaladmiiglaaaDoorW.PrintWords Go.Proofs.YtkgaladmiiglaaaDoorW.PrintLast Go.Proofs.YtkgaladmiiglaaaDoor.Aid
set_option linter.unusedVariables false
set_option linter.unusedSimpArgs false

theorem few_loop (ls : List (List Int)) (hl : ls.length ≤ 1000) : ∀ (n i : Nat), i + n = ls.length →
    Ev (fun k => laws_fewBytes.l0 k ls (ls.length : Int) (i : Int)) ((ls.drop i).all fun l => decide (l.length ≤ 300))
  | 0, i, hi => by
    refine Ev.step (fun _ => laws_fewBytes.l0.eq_2 ..) (EvNeg (by omega) ?_)
    rw [List.drop_of_length_le (by omega)]
    exact Ev.now _
  | n + 1, i, hi => by
    have hlt : i < ls.length := by omega
    have e : rd_L3 ls (i : Int) = ls[i] := by unfold rd_L3; simp [List.getD_eq_getElem?_getD, List.getElem?_eq_getElem hlt]
    refine Ev.step (fun _ => laws_fewBytes.l0.eq_2 ..) (EvPos (by omega) (EvPos (by omega) (EvPos (by omega) ?_)))
    rw [e, wn hlt (by omega), drop_cons hlt, List.all_cons]
    refine EvIte (fun h => ?_) (fun h => ?_)
    · rw [decide_eq_false (by omega), Bool.false_and]
      exact Ev.now _
    · rw [decide_eq_true (by omega), Bool.true_and]
      exact few_loop ls hl n (i + 1) (by omega)
theorem few_ev (ls : List (List Int)) (hl : ls.length ≤ 1000) : Ev (fun k => laws_fewBytes.f k ls) (ls.all fun l => decide (l.length ≤ 300)) := by
  have := few_loop ls hl ls.length 0 (by omega)
  unfold laws_fewBytes.f
  simpa using this

theorem same_loop (a b : List Int) (hl : a.length = b.length) (hm : a.length ≤ 140737488355328) : ∀ (n i : Nat), i + n = a.length →
    Ev (fun k => spec_SameBytes.l0 k b a (a.length : Int) (i : Int)) (decide (a.drop i = b.drop i))
  | 0, i, hi => by
    refine Ev.step (fun _ => spec_SameBytes.l0.eq_2 ..) (EvNeg (by omega) ?_)
    rw [List.drop_of_length_le (by omega), List.drop_of_length_le (by omega), decide_eq_true rfl]
    exact Ev.now _
  | n + 1, i, hi => by
    have hlt : i < a.length := by omega
    have hlt' : i < b.length := by omega
    refine Ev.step (fun _ => spec_SameBytes.l0.eq_2 ..) (EvPos (by omega) (EvPos (by omega) (EvPos (by omega) (EvPos (by omega) ?_))))
    rw [rd_at hlt, rd_at hlt', wn hlt (by omega), drop_cons hlt, drop_cons hlt']
    refine EvIte (fun h => ?_) (fun h => ?_)
    · refine EvEq (same_loop a b hl hm n (i + 1) (by omega)) ?_
      rw [Bool.eq_iff_iff, h]
      simp only [decide_eq_true_eq, List.cons.injEq, true_and]
    · refine EvNow ?_
      symm
      apply decide_eq_false
      intro e
      injection e with e1 e2
      exact h e1
theorem same_ev (a b : List Int) (hm : a.length ≤ 140737488355328) : Ev (fun k => spec_SameBytes.f k a b) (decide (a = b)) := by
  unfold spec_SameBytes.f
  refine EvIte (fun h => ?_) (fun h => ?_)
  · have := same_loop a b (by omega) hm a.length 0 (by omega)
    simpa using this
  · refine EvNow ?_
    symm
    apply decide_eq_false
    intro e
    subst e
    exact h rfl

/-- It comes to something of which P holds. -/
def HasP {α : Type} (g : Nat → Option α) (P : α → Prop) : Prop := ∃ r, Ev g r ∧ P r
theorem HasP.now {α : Type} {r : α} {P : α → Prop} (h : P r) : HasP (fun _ => some r) P := ⟨r, Ev.now r, h⟩
theorem HasP.ite {α : Type} {c : Prop} [Decidable c] {a b : Nat → Option α} {P : α → Prop} (h : c → HasP a P) (h' : ¬ c → HasP b P) : HasP (fun k => if c then a k else b k) P := by
  by_cases hc : c
  · obtain ⟨r, h1, h2⟩ := h hc
    exact ⟨r, EvPos hc h1, h2⟩
  · obtain ⟨r, h1, h2⟩ := h' hc
    exact ⟨r, EvNeg hc h1, h2⟩
theorem HasP.pos {α : Type} {c : Prop} [Decidable c] {a b : Nat → Option α} {P : α → Prop} (hc : c) (h : HasP a P) : HasP (fun k => if c then a k else b k) P := HasP.ite (fun _ => h) (fun h' => absurd hc h')
theorem HasP.bind {α β : Type} {g : Nat → Option α} {f : Nat → α → Option β} {Q : α → Prop} {P : β → Prop} (h : HasP g Q) (k : ∀ a, Q a → HasP (fun n => f n a) P) : HasP (fun n => (g n).bind (f n)) P := by
  obtain ⟨a, h1, h2⟩ := h
  obtain ⟨r, h3, h4⟩ := k a h2
  exact ⟨r, Ev.bind h1 h3, h4⟩
theorem HasP.get {α β : Type} {o : Option α} {a : α} {f : Nat → α → Option β} {P : β → Prop} (h : o = some a) (k : HasP (fun n => f n a) P) : HasP (fun n => o.bind (f n)) P := by subst h; exact k
theorem HasP.step {α : Type} {g f : Nat → Option α} {P : α → Prop} (h : ∀ k, g (k + 1) = f k) (k : HasP f P) : HasP g P := by
  obtain ⟨r, h1, h2⟩ := k
  exact ⟨r, Ev.step h h1, h2⟩
theorem HasP.mono {α : Type} {g : Nat → Option α} {P Q : α → Prop} (h : HasP g P) (hpq : ∀ r, P r → Q r) : HasP g Q := by
  obtain ⟨r, h1, h2⟩ := h
  exact ⟨r, h1, hpq r h2⟩
theorem HasP.ev {α : Type} {g : Nat → Option α} {a : α} (h : HasP g (fun r => r = a)) : Ev g a := by
  obtain ⟨r, h1, rfl⟩ := h
  exact h1

theorem byteplace_loop (l : List Int) (c : Int) (hm : l.length < 140737488355328) : ∀ (n i : Nat), i + n = l.length →
    ∃ r, Ev (fun k => spec_BytePlace.l0 k c l (l.length : Int) (i : Int)) r ∧ (r ≥ 0 ↔ c ∈ l.drop i)
  | 0, i, hi => by
    refine ⟨-1, Ev.step (fun _ => spec_BytePlace.l0.eq_2 ..) (EvNeg (by omega) (Ev.now _)), ?_⟩
    rw [List.drop_of_length_le (by omega)]
    simp
  | n + 1, i, hi => by
    have hlt : i < l.length := by omega
    obtain ⟨r, hr, hiff⟩ := byteplace_loop l c hm n (i + 1) (by omega)
    rw [drop_cons hlt]
    by_cases h : l[i] = c
    · refine ⟨i, Ev.step (fun _ => spec_BytePlace.l0.eq_2 ..) (EvPos (by omega) (EvPos (by omega) (EvPos (by omega) ?_))), ?_⟩
      · rw [rd_at hlt]
        exact EvPos h (Ev.now _)
      · constructor
        · intro _; rw [h]; exact List.mem_cons_self
        · intro _; omega
    · refine ⟨r, Ev.step (fun _ => spec_BytePlace.l0.eq_2 ..) (EvPos (by omega) (EvPos (by omega) (EvPos (by omega) ?_))), ?_⟩
      · rw [rd_at hlt, wn hlt (by omega)]
        exact EvNeg h hr
      · rw [hiff, List.mem_cons]
        constructor
        · intro hx; exact .inr hx
        · rintro (hx | hx)
          · exact absurd hx.symm h
          · exact hx
theorem byteplace_ev (l : List Int) (c : Int) (hm : l.length < 140737488355328) : ∃ r, Ev (fun k => spec_BytePlace.f k l c) r ∧ (r ≥ 0 ↔ c ∈ l) := by
  have := byteplace_loop l c hm l.length 0 (by omega)
  unfold spec_BytePlace.f
  simpa using this


/-- Whether a text is a token, it comes to an answer. -/
theorem istoken_loop (s : ByteArray) (hs : s.size ≤ 2147483647) : ∀ (n i : Nat), i + n = s.size → HasP (fun k => spec_IsToken.l0 k s (s.size : Int) (i : Int)) (fun r => r = true → 1 ≤ s.size ∧ s.size ≤ 20)
  | 0, i, hi => by
    refine HasP.step (fun _ => spec_IsToken.l0.eq_2 ..) (HasP.ite (fun h => by omega) (fun _ => HasP.ite (fun h => HasP.now (fun h2 => ?_)) (fun _ => HasP.now (fun h => by cases h))))
    have := of_decide_eq_true h2
    omega
  | n + 1, i, hi => by
    have ih := istoken_loop s hs n (i + 1) (by omega)
    have e : wrap64 ((i : Int) + 1) = ((i + 1 : Nat) : Int) := wn (n := s.size) (by omega) (by omega)
    refine HasP.step (fun _ => spec_IsToken.l0.eq_2 ..) (HasP.pos (by omega) (HasP.pos (by omega) (HasP.pos (by omega) ?_)))
    rw [e]
    have hf : HasP (fun _ => some false) (fun r => r = true → 1 ≤ s.size ∧ s.size ≤ 20) := HasP.now (fun h => by cases h)
    have tail : HasP (fun k => if (i : Int) = 0 then (some false) else (if (bt s (i : Int)) = 45 then (spec_IsToken.l0 k s (s.size : Int) ((i + 1 : Nat) : Int)) else (if (bt s (i : Int)) < 48 then (some false) else (if (bt s (i : Int)) > 57 then (some false) else (spec_IsToken.l0 k s (s.size : Int) ((i + 1 : Nat) : Int)))))) (fun r => r = true → 1 ≤ s.size ∧ s.size ≤ 20) :=
      HasP.ite (fun _ => hf) (fun _ => HasP.ite (fun _ => ih) (fun _ => HasP.ite (fun _ => hf) (fun _ => HasP.ite (fun _ => hf) (fun _ => ih))))
    exact HasP.ite (fun _ => HasP.ite (fun _ => ih) (fun _ => tail)) (fun _ => tail)
theorem istoken_ev (s : ByteArray) (hs : s.size ≤ 2147483647) : HasP (fun k => spec_IsToken.f k s) (fun r => r = true → 1 ≤ s.size ∧ s.size ≤ 20) := by
  have := istoken_loop s hs s.size 0 (by omega)
  unfold spec_IsToken.f
  simpa using this

abbrev Ent := Own.S36
def SmallE (x : Ent) : Prop := x.f0.size ≤ 2147483647 ∧ x.f1.size ≤ 2147483647
theorem rdT {l : List Ent} {i : Nat} (h : i < l.length) : Own.rd_T36 l (i : Int) = l[i] := by unfold Own.rd_T36; simp [List.getD_eq_getElem?_getD, h]
theorem fits_loop (l : List Ent) (hl : l.length ≤ 2147483647) : ∀ (n i : Nat), i + n = l.length → HasP (fun k => laws_zzFits2.l0 k l (l.length : Int) (i : Int)) (fun r => r = true → ∀ x ∈ l.drop i, SmallE x)
  | 0, i, hi => by
    refine HasP.step (fun _ => laws_zzFits2.l0.eq_2 ..) (HasP.ite (fun h => by omega) (fun _ => HasP.now (fun _ x hx => ?_)))
    rw [List.drop_of_length_le (by omega)] at hx
    cases hx
  | n + 1, i, hi => by
    have hlt : i < l.length := by omega
    have ih := fits_loop l hl n (i + 1) (by omega)
    refine HasP.step (fun _ => laws_zzFits2.l0.eq_2 ..) (HasP.pos (by omega) (HasP.pos (by omega) (HasP.pos (by omega) ?_)))
    rw [rdT hlt, wn hlt (by omega), drop_cons hlt]
    have h3 : ∃ b, laws_zzFits3.f l[i].f0 l[i].f1 = some b ∧ (b = true → SmallE l[i]) := by
      unfold laws_zzFits3.f
      by_cases h1 : (l[i].f0.size : Int) > 2147483647
      · rw [if_pos h1]; exact ⟨_, rfl, fun h => by cases h⟩
      · rw [if_neg h1]
        by_cases h2 : (l[i].f1.size : Int) > 2147483647
        · rw [if_pos h2]; exact ⟨_, rfl, fun h => by cases h⟩
        · rw [if_neg h2]; exact ⟨_, rfl, fun _ => ⟨by omega, by omega⟩⟩
    obtain ⟨b, hb, hsm⟩ := h3
    refine HasP.get hb (HasP.ite (fun h => ih.mono (fun r hr hr2 x hx => ?_)) (fun _ => HasP.now (fun h => by cases h)))
    rcases List.mem_cons.1 hx with rfl | hx
    · exact hsm h
    · exact hr hr2 x hx
theorem fits_ev (l : List Ent) : HasP (fun k => laws_zzFits2.f k l) (fun r => r = true → l.length ≤ 2147483647 ∧ ∀ x ∈ l, SmallE x) := by
  unfold laws_zzFits2.f
  refine HasP.ite (fun _ => HasP.now (fun h => by cases h)) (fun h => ?_)
  have hl : l.length ≤ 2147483647 := by omega
  have := fits_loop l hl l.length 0 (by omega)
  simp only [List.drop_zero] at this
  exact this.mono (fun r hr h2 => ⟨hl, hr h2⟩)
def OkL (l : List Ent) (r : Bool) : Prop := r = true → l.length ≤ 8
theorem ok_false (l : List Ent) : OkL l false := fun h => by cases h
/-- The inner loop. -/
theorem ent_inner (l : List Ent) (hl : l.length ≤ 2147483647) (i : Nat) (hi : i < l.length) (a b : ByteArray) (pre : List Ent) (hp : pre.length ≤ l.length) (ih : HasP (fun k => laws_entitiesOk.l0 k l l (l.length : Int) ((i + 1 : Nat) : Int)) (OkL l)) : ∀ (n j : Nat), j + n = pre.length →
    HasP (fun k => laws_entitiesOk.l1 k l l (l.length : Int) (i : Int) pre (pre.length : Int) (j : Int) a b) (OkL l)
  | 0, j, hj => by
    refine HasP.step (fun _ => laws_entitiesOk.l1.eq_2 ..) (HasP.ite (fun h => by omega) (fun _ => ?_))
    rw [wn hi (by omega)]
    exact ih
  | n + 1, j, hj => by
    refine HasP.step (fun _ => laws_entitiesOk.l1.eq_2 ..) (HasP.pos (by omega) (HasP.pos (by omega) (HasP.pos (by omega) (HasP.ite (fun _ => HasP.now (ok_false l)) (fun _ => ?_)))))
    rw [wn (n := pre.length) (by omega) (by omega)]
    exact ent_inner l hl i hi a b pre hp ih n (j + 1) (by omega)
theorem ent_j2 (l : List Ent) (hl : l.length ≤ 2147483647) (i : Nat) (hi : i < l.length) (a b : ByteArray) (c : Bool) (ih : HasP (fun k => laws_entitiesOk.l0 k l l (l.length : Int) ((i + 1 : Nat) : Int)) (OkL l)) :
    HasP (fun k => laws_entitiesOk.j2 k l (i : Int) l (l.length : Int) (i : Int) c a b) (OkL l) := by
  refine HasP.step (fun _ => laws_entitiesOk.j2.eq_2 ..) (HasP.ite (fun _ => HasP.now (ok_false l)) (fun _ => HasP.pos (by omega) (HasP.pos (by omega) (HasP.get rfl ?_))))
  have := ent_inner l hl i hi a b (l.take ((i : Int)).toNat) (by rw [List.length_take]; omega) ih _ 0 (Nat.zero_add _)
  simpa using this
theorem ent_j1 (l : List Ent) (hl : l.length ≤ 2147483647) (i : Nat) (hi : i < l.length) (a b : ByteArray) (hb : b.size ≤ 2147483647) (c : Bool) (ih : HasP (fun k => laws_entitiesOk.l0 k l l (l.length : Int) ((i + 1 : Nat) : Int)) (OkL l)) :
    HasP (fun k => laws_entitiesOk.j1 k l (i : Int) l (l.length : Int) (i : Int) c a b) (OkL l) := by
  obtain ⟨r1, h1, _⟩ := byteplace_ev (Own.numsOf b) 38 (by rw [Own.numsOf_length]; omega)
  obtain ⟨r2, h2, _⟩ := byteplace_ev (Own.numsOf b) 59 (by rw [Own.numsOf_length]; omega)
  refine HasP.step (fun _ => laws_entitiesOk.j1.eq_2 ..) (HasP.ite (fun _ => HasP.now (ok_false l)) (fun _ => HasP.pos (by omega) (HasP.bind (Q := fun _ => True) ⟨r1, h1, trivial⟩ (fun x _ => HasP.ite (fun _ => ent_j2 l hl i hi a b _ ih) (fun _ => HasP.bind (Q := fun _ => True) ⟨r2, h2, trivial⟩ (fun y _ => ent_j2 l hl i hi a b _ ih))))))
theorem ent_loop (l : List Ent) (hl : l.length ≤ 2147483647) (hs : ∀ x ∈ l, SmallE x) : ∀ (n i : Nat), i + n = l.length → HasP (fun k => laws_entitiesOk.l0 k l l (l.length : Int) (i : Int)) (OkL l)
  | 0, i, hi => by
    refine HasP.step (fun _ => laws_entitiesOk.l0.eq_2 ..) (HasP.ite (fun h => by omega) (fun _ => HasP.now (fun h => ?_)))
    have := of_decide_eq_true h
    omega
  | n + 1, i, hi => by
    have hlt : i < l.length := by omega
    have ih := ent_loop l hl hs n (i + 1) (by omega)
    have hsm := hs _ (List.getElem_mem hlt)
    have J := fun c => ent_j1 l hl i hlt l[i].f0 l[i].f1 hsm.2 c ih
    obtain ⟨r1, h1, _⟩ := byteplace_ev (Own.numsOf l[i].f0) 45 (by rw [Own.numsOf_length]; have := hsm.1; omega)
    refine HasP.step (fun _ => laws_entitiesOk.l0.eq_2 ..) (HasP.pos (by omega) (HasP.pos (by omega) (HasP.pos (by omega) ?_)))
    rw [rdT hlt]
    refine HasP.ite (fun _ => J _) (fun _ => HasP.bind (istoken_ev l[i].f0 hsm.1) (fun x _ => HasP.ite (fun _ => HasP.pos (by have := hsm.1; omega) (HasP.bind (Q := fun _ => True) ⟨r1, h1, trivial⟩ (fun y _ => HasP.ite (fun _ => J _) (fun _ => HasP.ite (fun _ => J _) (fun _ => J _))))) (fun _ => J _)))
theorem entok_ev (l : List Ent) (hl : l.length ≤ 2147483647) (hs : ∀ x ∈ l, SmallE x) : HasP (fun k => laws_entitiesOk.f k l) (OkL l) := by
  have := ent_loop l hl hs l.length 0 (by omega)
  unfold laws_entitiesOk.f
  simpa using this

theorem entities_f (l : List Int) (es : List Ent) (hl : l.length ≤ 300) (h38 : ¬ (38 ∈ l)) (he : es.length ≤ 8) (hs : ∀ x ∈ es, SmallE x) : Own.impl_Entities.f l es = some l := by
  have c1 : (l.all fun c => decide (c ≠ 38)) = true := by
    rw [List.all_eq_true]
    exact fun c hc => decide_eq_true (fun e => h38 (e ▸ hc))
  have c2 : (es.all fun x => decide (x.f0.size ≤ 140737488355328) && decide (x.f1.size ≤ 140737488355328)) = true := by
    rw [List.all_eq_true]
    intro x hx
    have := hs x hx
    unfold SmallE at this
    simp
    omega
  unfold Own.impl_Entities.f
  rw [if_pos ⟨by omega, c1, by omega, c2⟩]
theorem FnEntityNone (l : List Int) (h1 : l.length ≤ maxLen) (h2 : ∀ x ∈ l, (Lit.int .u8 x).wf = true) (es : List Ent) (h3 : es.length ≤ maxLen) (h4 : ∀ x ∈ es, x.f0.size ≤ maxLen ∧ x.f1.size ≤ maxLen) : ∃ k, laws_FnEntityNone.f k l es = some true := by
  refine Ev.rounds (HasP.ev ?_)
  have j1t : HasP (fun k => laws_FnEntityNone.j1 k l es true) (fun r => r = true) := HasP.step (fun _ => laws_FnEntityNone.j1.eq_2 ..) (HasP.pos rfl (HasP.now rfl))
  have j0t : HasP (fun k => laws_FnEntityNone.j0 k l es true) (fun r => r = true) := HasP.step (fun _ => laws_FnEntityNone.j0.eq_2 ..) (HasP.pos rfl (HasP.now rfl))
  unfold laws_FnEntityNone.f
  refine HasP.ite (fun _ => j0t) (fun _ => HasP.bind (fits_ev es) (fun b hb => ?_))
  cases b with
  | false => exact j0t
  | true =>
    obtain ⟨hel, hes⟩ := hb rfl
    refine HasP.step (fun _ => laws_FnEntityNone.j0.eq_2 ..) (HasP.ite (fun h => by cases h) (fun _ => ?_))
    refine HasP.bind (Q := fun r => r = true → l.length ≤ 300) ⟨_, few_ev [l] (by simp), fun h => by simpa using h⟩ (fun b hb => HasP.ite (fun hbt => ?_) (fun _ => j1t))
    refine HasP.bind (entok_ev es hel hes) (fun c hc => HasP.ite (fun hct => ?_) (fun _ => j1t))
    obtain ⟨r, hr, hiff⟩ := byteplace_ev l 38 (by have := hb hbt; omega)
    refine HasP.bind (Q := fun x => x = r) ⟨r, hr, rfl⟩ (fun x hx => ?_)
    subst hx
    by_cases h0 : x ≥ 0
    · rw [decide_eq_true h0]; exact j1t
    · rw [decide_eq_false h0]
      refine HasP.step (fun _ => laws_FnEntityNone.j1.eq_2 ..) (HasP.ite (fun h => by cases h) (fun _ => ?_))
      refine HasP.get (entities_f l es (hb hbt) (fun h => h0 (hiff.2 h)) (hc hct) hes) ?_
      exact HasP.bind (Q := fun r => r = true) ⟨_, same_ev l l (by have := hb hbt; omega), by simp⟩ (fun y hy => HasP.now hy)

end Go.Proofs.YtkgaladmiiglaaaDoor.Pure
