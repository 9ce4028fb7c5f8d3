/- What the small functions of the law answer. -/
import Derived.Test.YtkgaladmiiglaaaDoorAid
import Derived.Test.YtkgaladmiiglaaaDoorCEntJ
namespace Go.Proofs.YtkgaladmiiglaaaDoor.Own
open Go.RowKit Go.Proofs.YtkgaladmiiglaaaDoorW.PrintWords Go.Proofs.YtkgaladmiiglaaaDoorW.PrintLast Go.Proofs.YtkgaladmiiglaaaDoor.Aid
set_option linter.unusedVariables false
set_option linter.unusedSimpArgs false
theorem join_loop (ls : List (List Int)) (hl : ls.length ≤ 1000) : ∀ (n i : Nat) (acc : List Int), i + n = ls.length → acc.length + (ls.drop i).flatten.length < 140737488355328 →
    Ev (fun k => spec_Join.l0 k acc ls (ls.length : Int) (i : Int)) (acc ++ (ls.drop i).flatten)
  | 0, i, acc, hi, hs => by
    refine Ev.step (fun _ => spec_Join.l0.eq_2 ..) (EvNeg (by omega) ?_)
    rw [List.drop_of_length_le (by omega)]
    simp only [List.flatten_nil, List.append_nil]
    exact Ev.now _
  | n + 1, i, acc, hi, hs => by
    have hlt : i < ls.length := by omega
    have e : rd_L3 ls (i : Int) = ls[i] := by unfold rd_L3; simp [List.getD_eq_getElem?_getD, List.getElem?_eq_getElem hlt]
    rw [drop_cons hlt, List.flatten_cons, List.length_append] at hs
    refine Ev.step (fun _ => spec_Join.l0.eq_2 ..) (EvPos (by omega) (EvPos (by omega) (EvPos (by omega) ?_)))
    rw [e, wn hlt (by omega), drop_cons hlt, List.flatten_cons, ← List.append_assoc]
    refine EvPos (by omega) ?_
    exact join_loop ls hl n (i + 1) (acc ++ ls[i]) (by omega) (by rw [List.length_append]; omega)
theorem join_ev (ls : List (List Int)) (hl : ls.length ≤ 1000) (hs : ls.flatten.length < 140737488355328) : Ev (fun k => spec_Join.f k ls) ls.flatten := by
  have := join_loop ls hl ls.length 0 [] (by omega) (by simpa using hs)
  unfold spec_Join.f
  simpa using this

/-- It comes to something of which P holds. -/
def HasP {α : Type} (g : Nat → Option α) (P : α → Prop) : Prop := ∃ r, Ev g r ∧ P r
theorem HasP.now {α : Type} {r : α} {P : α → Prop} (h : P r) : HasP (fun _ => some r) P := ⟨r, Ev.now r, h⟩
theorem HasP.ite {α : Type} {c : Prop} [Decidable c] {a b : Nat → Option α} {P : α → Prop} (h : c → HasP a P) (h' : ¬ c → HasP b P) : HasP (fun k => if c then a k else b k) P := by
  by_cases hc : c
  · obtain ⟨r, h1, h2⟩ := h hc
    exact ⟨r, EvPos hc h1, h2⟩
  · obtain ⟨r, h1, h2⟩ := h' hc
    exact ⟨r, EvNeg hc h1, h2⟩
theorem HasP.pos {α : Type} {c : Prop} [Decidable c] {a b : Nat → Option α} {P : α → Prop} (hc : c) (h : HasP a P) : HasP (fun k => if c then a k else b k) P := HasP.ite (fun _ => h) (fun h' => absurd hc h')
theorem HasP.bind {α β : Type} {g : Nat → Option α} {f : Nat → α → Option β} {Q : α → Prop} {P : β → Prop} (h : HasP g Q) (k : ∀ a, Q a → HasP (fun n => f n a) P) : HasP (fun n => (g n).bind (f n)) P := by
  obtain ⟨a, h1, h2⟩ := h
  obtain ⟨r, h3, h4⟩ := k a h2
  exact ⟨r, Ev.bind h1 h3, h4⟩
theorem HasP.get {α β : Type} {o : Option α} {a : α} {f : Nat → α → Option β} {P : β → Prop} (h : o = some a) (k : HasP (fun n => f n a) P) : HasP (fun n => o.bind (f n)) P := by subst h; exact k
theorem HasP.step {α : Type} {g f : Nat → Option α} {P : α → Prop} (h : ∀ k, g (k + 1) = f k) (k : HasP f P) : HasP g P := by
  obtain ⟨r, h1, h2⟩ := k
  exact ⟨r, Ev.step h h1, h2⟩
theorem HasP.mono {α : Type} {g : Nat → Option α} {P Q : α → Prop} (h : HasP g P) (hpq : ∀ r, P r → Q r) : HasP g Q := by
  obtain ⟨r, h1, h2⟩ := h
  exact ⟨r, h1, hpq r h2⟩
theorem HasP.ev {α : Type} {g : Nat → Option α} {a : α} (h : HasP g (fun r => r = a)) : Ev g a := by
  obtain ⟨r, h1, rfl⟩ := h
  exact h1

def tokB (c : Int) : Prop := (97 ≤ c ∧ c ≤ 122) ∨ c = 45 ∨ (48 ≤ c ∧ c ≤ 57)
/-- The bytes of a text are those of a token, from a place on. -/
def TokFrom (s : ByteArray) (i : Nat) : Prop := 1 ≤ s.size ∧ s.size ≤ 20 ∧ ∀ j : Nat, i ≤ j → j < s.size → tokB (bt s (j : Int))
theorem TokFrom.step {s : ByteArray} {i : Nat} (h : TokFrom s (i + 1)) (hc : tokB (bt s (i : Int))) : TokFrom s i := by
  refine ⟨h.1, h.2.1, fun j h1 h2 => ?_⟩
  rcases Nat.eq_or_lt_of_le h1 with rfl | h3
  · exact hc
  · exact h.2.2 j h3 h2
theorem token_loop (s : ByteArray) (hs : s.size ≤ 2147483647) : ∀ (n i : Nat), i + n = s.size → HasP (fun k => spec_IsToken.l0 k s (s.size : Int) (i : Int)) (fun r => r = true → TokFrom s i)
  | 0, i, hi => by
    refine HasP.step (fun _ => spec_IsToken.l0.eq_2 ..) (HasP.ite (fun h => by omega) (fun _ => HasP.ite (fun h => HasP.now (fun h2 => ?_)) (fun _ => HasP.now (fun h => by cases h))))
    have := of_decide_eq_true h2
    exact ⟨by omega, by omega, fun j h1 h2 => by omega⟩
  | n + 1, i, hi => by
    have ih := token_loop s hs n (i + 1) (by omega)
    have e : wrap64 ((i : Int) + 1) = ((i + 1 : Nat) : Int) := wn (n := s.size) (by omega) (by omega)
    refine HasP.step (fun _ => spec_IsToken.l0.eq_2 ..) (HasP.pos (by omega) (HasP.pos (by omega) (HasP.pos (by omega) ?_)))
    rw [e]
    have hf : HasP (fun _ => some false) (fun r => r = true → TokFrom s i) := HasP.now (fun h => by cases h)
    have ihp : tokB (bt s (i : Int)) → HasP (fun k => spec_IsToken.l0 k s (s.size : Int) ((i + 1 : Nat) : Int)) (fun r => r = true → TokFrom s i) := fun hc => ih.mono (fun r h1 h2 => (h1 h2).step hc)
    have tail : HasP (fun k => if (i : Int) = 0 then (some false) else (if (bt s (i : Int)) = 45 then (spec_IsToken.l0 k s (s.size : Int) ((i + 1 : Nat) : Int)) else (if (bt s (i : Int)) < 48 then (some false) else (if (bt s (i : Int)) > 57 then (some false) else (spec_IsToken.l0 k s (s.size : Int) ((i + 1 : Nat) : Int)))))) (fun r => r = true → TokFrom s i) :=
      HasP.ite (fun _ => hf) (fun _ => HasP.ite (fun h => ihp (.inr (.inl h))) (fun _ => HasP.ite (fun _ => hf) (fun h1 => HasP.ite (fun _ => hf) (fun h2 => ihp (.inr (.inr ⟨by omega, by omega⟩))))))
    exact HasP.ite (fun h1 => HasP.ite (fun h2 => ihp (.inl ⟨by omega, by omega⟩)) (fun _ => tail)) (fun _ => tail)
theorem token_ev (s : ByteArray) (hs : s.size ≤ 2147483647) : HasP (fun k => spec_IsToken.f k s) (fun r => r = true → TokFrom s 0) := by
  have := token_loop s hs s.size 0 (by omega)
  unfold spec_IsToken.f
  simpa using this
theorem numsOf_app (a b : ByteArray) : Own.numsOf (a ++ b) = Own.numsOf a ++ Own.numsOf b := by simp [Own.numsOf]
theorem str_list (l : List Int) : (strOfNums l).toList = l.map (fun n => UInt8.ofNat n.toNat) := by rw [ByteArray.toList_eq]; simp [strOfNums]
theorem str_nums (s : ByteArray) : (strOfNums (Own.numsOf s)).toList = s.toList := by
  rw [str_list, ByteArray.toList_eq]
  unfold Own.numsOf
  rw [List.map_map]
  exact List.map_id'' (fun x => by simp) _
theorem TokFrom.all {s : ByteArray} (h : TokFrom s 0) : ∀ c ∈ Own.numsOf s, tokB c := by
  intro c hc
  unfold Own.numsOf at hc
  obtain ⟨x, hx, rfl⟩ := List.mem_map.1 hc
  obtain ⟨j, hj, rfl⟩ := List.mem_iff_getElem.1 hx
  have hj' : j < s.size := by simpa using hj
  have := h.2.2 j (Nat.zero_le _) hj'
  unfold bt at this
  simp only [Int.toNat_natCast, hj', dif_pos] at this
  simp only [Array.getElem_toList]
  exact this
theorem tok_lt {c : Int} (h : tokB c) : 45 ≤ c ∧ c ≤ 122 := by unfold tokB at h; omega

theorem few_loop (ls : List (List Int)) (hl : ls.length ≤ 2147483647) : ∀ (n i : Nat), i + n = ls.length →
    Ev (fun k => laws_fewBytes.l0 k ls (ls.length : Int) (i : Int)) ((ls.drop i).all fun l => decide (l.length ≤ 300))
  | 0, i, hi => by
    refine Ev.step (fun _ => laws_fewBytes.l0.eq_2 ..) (EvNeg (by omega) ?_)
    rw [List.drop_of_length_le (by omega)]
    exact Ev.now _
  | n + 1, i, hi => by
    have hlt : i < ls.length := by omega
    have e : rd_L3 ls (i : Int) = ls[i] := by unfold rd_L3; simp [List.getD_eq_getElem?_getD, List.getElem?_eq_getElem hlt]
    refine Ev.step (fun _ => laws_fewBytes.l0.eq_2 ..) (EvPos (by omega) (EvPos (by omega) (EvPos (by omega) ?_)))
    rw [e, wn hlt (by omega), drop_cons hlt, List.all_cons]
    refine EvIte (fun h => ?_) (fun h => ?_)
    · rw [decide_eq_false (by omega), Bool.false_and]
      exact Ev.now _
    · rw [decide_eq_true (by omega), Bool.true_and]
      exact few_loop ls hl n (i + 1) (by omega)
theorem few_ev (ls : List (List Int)) (hl : ls.length ≤ 2147483647) : Ev (fun k => laws_fewBytes.f k ls) (ls.all fun l => decide (l.length ≤ 300)) := by
  have := few_loop ls hl ls.length 0 (by omega)
  unfold laws_fewBytes.f
  simpa using this
theorem same_loop (a b : List Int) (hl : a.length = b.length) (hm : a.length ≤ 140737488355328) : ∀ (n i : Nat), i + n = a.length →
    Ev (fun k => spec_SameBytes.l0 k b a (a.length : Int) (i : Int)) (decide (a.drop i = b.drop i))
  | 0, i, hi => by
    refine Ev.step (fun _ => spec_SameBytes.l0.eq_2 ..) (EvNeg (by omega) ?_)
    rw [List.drop_of_length_le (by omega), List.drop_of_length_le (by omega), decide_eq_true rfl]
    exact Ev.now _
  | n + 1, i, hi => by
    have hlt : i < a.length := by omega
    have hlt' : i < b.length := by omega
    refine Ev.step (fun _ => spec_SameBytes.l0.eq_2 ..) (EvPos (by omega) (EvPos (by omega) (EvPos (by omega) (EvPos (by omega) ?_))))
    rw [rd_at hlt, rd_at hlt', wn hlt (by omega), drop_cons hlt, drop_cons hlt']
    refine EvIte (fun h => ?_) (fun h => ?_)
    · refine EvEq (same_loop a b hl hm n (i + 1) (by omega)) ?_
      rw [Bool.eq_iff_iff, h]
      simp only [decide_eq_true_eq, List.cons.injEq, true_and]
    · refine EvNow ?_
      symm
      apply decide_eq_false
      intro e
      injection e with e1 e2
      exact h e1
theorem same_ev (a b : List Int) (hm : a.length ≤ 140737488355328) : Ev (fun k => spec_SameBytes.f k a b) (decide (a = b)) := by
  unfold spec_SameBytes.f
  refine EvIte (fun h => ?_) (fun h => ?_)
  · have := same_loop a b (by omega) hm a.length 0 (by omega)
    simpa using this
  · refine EvNow ?_
    symm
    apply decide_eq_false
    intro e
    subst e
    exact h rfl
theorem byteplace_loop (l : List Int) (c : Int) (hm : l.length < 140737488355328) : ∀ (n i : Nat), i + n = l.length →
    ∃ r, Ev (fun k => spec_BytePlace.l0 k c l (l.length : Int) (i : Int)) r ∧ (r ≥ 0 ↔ c ∈ l.drop i)
  | 0, i, hi => by
    refine ⟨-1, Ev.step (fun _ => spec_BytePlace.l0.eq_2 ..) (EvNeg (by omega) (Ev.now _)), ?_⟩
    rw [List.drop_of_length_le (by omega)]
    simp
  | n + 1, i, hi => by
    have hlt : i < l.length := by omega
    obtain ⟨r, hr, hiff⟩ := byteplace_loop l c hm n (i + 1) (by omega)
    rw [drop_cons hlt]
    by_cases h : l[i] = c
    · refine ⟨i, Ev.step (fun _ => spec_BytePlace.l0.eq_2 ..) (EvPos (by omega) (EvPos (by omega) (EvPos (by omega) ?_))), ?_⟩
      · rw [rd_at hlt]
        exact EvPos h (Ev.now _)
      · constructor
        · intro _; rw [h]; exact List.mem_cons_self
        · intro _; omega
    · refine ⟨r, Ev.step (fun _ => spec_BytePlace.l0.eq_2 ..) (EvPos (by omega) (EvPos (by omega) (EvPos (by omega) ?_))), ?_⟩
      · rw [rd_at hlt, wn hlt (by omega)]
        exact EvNeg h hr
      · rw [hiff, List.mem_cons]
        constructor
        · intro hx; exact .inr hx
        · rintro (hx | hx)
          · exact absurd hx.symm h
          · exact hx
theorem byteplace_ev (l : List Int) (c : Int) (hm : l.length < 140737488355328) : ∃ r, Ev (fun k => spec_BytePlace.f k l c) r ∧ (r ≥ 0 ↔ c ∈ l) := by
  have := byteplace_loop l c hm l.length 0 (by omega)
  unfold spec_BytePlace.f
  simpa using this

abbrev Ent := S36
def SmallE (x : Ent) : Prop := x.f0.size ≤ 2147483647 ∧ x.f1.size ≤ 2147483647
theorem rdT {l : List Ent} {i : Nat} (h : i < l.length) : rd_T36 l (i : Int) = l[i] := by unfold rd_T36; simp [List.getD_eq_getElem?_getD, h]
theorem fits_loop (l : List Ent) (hl : l.length ≤ 2147483647) : ∀ (n i : Nat), i + n = l.length → HasP (fun k => laws_zzFits2.l0 k l (l.length : Int) (i : Int)) (fun r => r = true → ∀ x ∈ l.drop i, SmallE x)
  | 0, i, hi => by
    refine HasP.step (fun _ => laws_zzFits2.l0.eq_2 ..) (HasP.ite (fun h => by omega) (fun _ => HasP.now (fun _ x hx => ?_)))
    rw [List.drop_of_length_le (by omega)] at hx
    cases hx
  | n + 1, i, hi => by
    have hlt : i < l.length := by omega
    have ih := fits_loop l hl n (i + 1) (by omega)
    refine HasP.step (fun _ => laws_zzFits2.l0.eq_2 ..) (HasP.pos (by omega) (HasP.pos (by omega) (HasP.pos (by omega) ?_)))
    rw [rdT hlt, wn hlt (by omega), drop_cons hlt]
    have h3 : ∃ b, laws_zzFits3.f l[i].f0 l[i].f1 = some b ∧ (b = true → SmallE l[i]) := by
      unfold laws_zzFits3.f
      by_cases h1 : (l[i].f0.size : Int) > 2147483647
      · rw [if_pos h1]; exact ⟨_, rfl, fun h => by cases h⟩
      · rw [if_neg h1]
        by_cases h2 : (l[i].f1.size : Int) > 2147483647
        · rw [if_pos h2]; exact ⟨_, rfl, fun h => by cases h⟩
        · rw [if_neg h2]; exact ⟨_, rfl, fun _ => ⟨by omega, by omega⟩⟩
    obtain ⟨b, hb, hsm⟩ := h3
    refine HasP.get hb (HasP.ite (fun h => ih.mono (fun r hr hr2 x hx => ?_)) (fun _ => HasP.now (fun h => by cases h)))
    rcases List.mem_cons.1 hx with rfl | hx
    · exact hsm h
    · exact hr hr2 x hx
theorem fits2_ev (l : List Ent) : HasP (fun k => laws_zzFits2.f k l) (fun r => r = true → l.length ≤ 2147483647 ∧ ∀ x ∈ l, SmallE x) := by
  unfold laws_zzFits2.f
  refine HasP.ite (fun _ => HasP.now (fun h => by cases h)) (fun h => ?_)
  have hl : l.length ≤ 2147483647 := by omega
  have := fits_loop l hl l.length 0 (by omega)
  simp only [List.drop_zero] at this
  exact this.mono (fun r hr h2 => ⟨hl, hr h2⟩)
theorem rdL {l : List (List Int)} {i : Nat} (h : i < l.length) : rd_L3 l (i : Int) = l[i] := by unfold rd_L3; simp [List.getD_eq_getElem?_getD, h]
theorem fits1_loop (l : List (List Int)) (hl : l.length ≤ 2147483647) : ∀ (n i : Nat), i + n = l.length → HasP (fun k => laws_zzFits1.l0 k l (l.length : Int) (i : Int)) (fun r => r = true → ∀ x ∈ l.drop i, x.length ≤ 2147483647)
  | 0, i, hi => by
    refine HasP.step (fun _ => laws_zzFits1.l0.eq_2 ..) (HasP.ite (fun h => by omega) (fun _ => HasP.now (fun _ x hx => ?_)))
    rw [List.drop_of_length_le (by omega)] at hx
    cases hx
  | n + 1, i, hi => by
    have hlt : i < l.length := by omega
    have ih := fits1_loop l hl n (i + 1) (by omega)
    refine HasP.step (fun _ => laws_zzFits1.l0.eq_2 ..) (HasP.pos (by omega) (HasP.pos (by omega) (HasP.pos (by omega) ?_)))
    rw [rdL hlt, wn hlt (by omega), drop_cons hlt]
    refine HasP.ite (fun _ => HasP.now (fun h => by cases h)) (fun h => ih.mono (fun r hr hr2 x hx => ?_))
    rcases List.mem_cons.1 hx with rfl | hx
    · omega
    · exact hr hr2 x hx
theorem fits1_ev (l : List (List Int)) : HasP (fun k => laws_zzFits1.f k l) (fun r => r = true → l.length ≤ 2147483647 ∧ ∀ x ∈ l, x.length ≤ 2147483647) := by
  unfold laws_zzFits1.f
  refine HasP.ite (fun _ => HasP.now (fun h => by cases h)) (fun h => ?_)
  have hl : l.length ≤ 2147483647 := by omega
  have := fits1_loop l hl l.length 0 (by omega)
  simp only [List.drop_zero] at this
  exact this.mono (fun r hr h2 => ⟨hl, hr h2⟩)
/-- An entity of the list as entitiesOk wants it, but for its place among the others. -/
structure OkA (x : Ent) : Prop where
  two : 2 ≤ x.f0.size
  tok : TokFrom x.f0 0
  nohy : ¬ (45 : Int) ∈ numsOf x.f0
  one : 1 ≤ x.f1.size
  few : x.f1.size ≤ x.f0.size + 2
def OkE (l : List Ent) (i : Nat) : Prop := ∀ h : i < l.length, OkA l[i] ∧ ¬ (38 : Int) ∈ numsOf l[i].f1 ∧ ∀ q (hq : q < i), (l[q]'(by omega)).f0.toList ≠ l[i].f0.toList
def OkF (l : List Ent) (i : Nat) (r : Bool) : Prop := r = true → l.length ≤ 8 ∧ ∀ j, i ≤ j → OkE l j
theorem okF_false (l : List Ent) (i : Nat) : OkF l i false := fun h => by cases h
theorem OkF.step {l : List Ent} {i : Nat} {r : Bool} (h : OkF l (i + 1) r) (h1 : OkE l i) : OkF l i r := fun hr => by
  obtain ⟨a, b⟩ := h hr
  refine ⟨a, fun j hj => ?_⟩
  rcases Nat.eq_or_lt_of_le hj with rfl | h3
  · exact h1
  · exact b j h3
section
variable (l : List Ent) (hl : l.length ≤ 2147483647) (i : Nat) (hi : i < l.length)
include hl hi
theorem ent_inner (b : ByteArray) (ha : OkA l[i] ∧ ¬ (38 : Int) ∈ numsOf l[i].f1) (ih : HasP (fun k => laws_entitiesOk.l0 k l l (l.length : Int) ((i + 1 : Nat) : Int)) (OkF l (i + 1))) : ∀ (n j : Nat), j + n = (l.take i).length → (∀ q (hq : q < j) (hq2 : q < l.length), l[q].f0.toList ≠ l[i].f0.toList) →
    HasP (fun k => laws_entitiesOk.l1 k l l (l.length : Int) (i : Int) (l.take i) ((l.take i).length : Int) (j : Int) l[i].f0 b) (OkF l i)
  | 0, j, hj, hne => by
    refine HasP.step (fun _ => laws_entitiesOk.l1.eq_2 ..) (HasP.ite (fun h => by omega) (fun _ => ?_))
    rw [wn hi (by omega)]
    rw [List.length_take] at hj
    exact ih.mono (fun r hr => hr.step (fun h => ⟨ha.1, ha.2, fun q hq => hne q (by omega) (by omega)⟩))
  | n + 1, j, hj, hne => by
    have hjt : j < (l.take i).length := by omega
    have hjl : j < l.length := by rw [List.length_take] at hjt; omega
    refine HasP.step (fun _ => laws_entitiesOk.l1.eq_2 ..) (HasP.pos (by omega) (HasP.pos (by omega) (HasP.pos (by omega) (HasP.ite (fun _ => HasP.now (okF_false l i)) (fun hn => ?_)))))
    rw [wn hjt (by rw [List.length_take]; omega)]
    refine ent_inner b ha ih n (j + 1) (by omega) (fun q hq hq2 => ?_)
    rcases Nat.lt_succ_iff_lt_or_eq.1 hq with h | rfl
    · exact hne q h hq2
    · rw [rdT hjt, List.getElem_take] at hn
      exact hn
theorem ent_j2 (b : ByteArray) (c : Bool) (ha : OkA l[i] ∧ ¬ (38 : Int) ∈ numsOf l[i].f1) (ih : HasP (fun k => laws_entitiesOk.l0 k l l (l.length : Int) ((i + 1 : Nat) : Int)) (OkF l (i + 1))) :
    HasP (fun k => laws_entitiesOk.j2 k l (i : Int) l (l.length : Int) (i : Int) c l[i].f0 b) (OkF l i) := by
  refine HasP.step (fun _ => laws_entitiesOk.j2.eq_2 ..) (HasP.ite (fun _ => HasP.now (okF_false l i)) (fun _ => HasP.pos (by omega) (HasP.pos (by omega) (HasP.get rfl ?_))))
  have := ent_inner l hl i hi b ha ih _ 0 (Nat.zero_add _) (fun q hq => by omega)
  simpa using this
omit hl hi in
theorem ent_j2t (a b : ByteArray) : HasP (fun k => laws_entitiesOk.j2 k l (i : Int) l (l.length : Int) (i : Int) true a b) (OkF l i) :=
  HasP.step (fun _ => laws_entitiesOk.j2.eq_2 ..) (HasP.pos rfl (HasP.now (okF_false l i)))
theorem ent_j1 (hb : l[i].f1.size ≤ 2147483647) (c : Bool) (ha : c = false → OkA l[i]) (ih : HasP (fun k => laws_entitiesOk.l0 k l l (l.length : Int) ((i + 1 : Nat) : Int)) (OkF l (i + 1))) :
    HasP (fun k => laws_entitiesOk.j1 k l (i : Int) l (l.length : Int) (i : Int) c l[i].f0 l[i].f1) (OkF l i) := by
  obtain ⟨r1, h1, hf1⟩ := byteplace_ev (numsOf l[i].f1) 38 (by rw [numsOf_length]; omega)
  obtain ⟨r2, h2, _⟩ := byteplace_ev (numsOf l[i].f1) 59 (by rw [numsOf_length]; omega)
  refine HasP.step (fun _ => laws_entitiesOk.j1.eq_2 ..) (HasP.ite (fun _ => HasP.now (okF_false l i)) (fun hc => HasP.pos (by omega) (HasP.bind (Q := fun x => x = r1) ⟨r1, h1, rfl⟩ (fun x hx => HasP.ite (fun _ => ent_j2t l i _ _) (fun hx2 => HasP.bind (Q := fun _ => True) ⟨r2, h2, trivial⟩ (fun y _ => ent_j2 l hl i hi _ _ ⟨ha (by simpa using hc), fun hm => hx2 (by rw [hx]; exact hf1.2 hm)⟩ ih))))))
end
theorem ent_loop (l : List Ent) (hl : l.length ≤ 2147483647) (hs : ∀ x ∈ l, SmallE x) : ∀ (n i : Nat), i + n = l.length → HasP (fun k => laws_entitiesOk.l0 k l l (l.length : Int) (i : Int)) (OkF l i)
  | 0, i, hi => by
    refine HasP.step (fun _ => laws_entitiesOk.l0.eq_2 ..) (HasP.ite (fun h => by omega) (fun _ => HasP.now (fun h => ⟨?_, fun j hj hjl => by omega⟩)))
    have := of_decide_eq_true h
    omega
  | n + 1, i, hi => by
    have hlt : i < l.length := by omega
    have ih := ent_loop l hl hs n (i + 1) (by omega)
    have hsm := hs _ (List.getElem_mem hlt)
    have J := fun c h => ent_j1 l hl i hlt hsm.2 c h ih
    obtain ⟨r1, h1, hf1⟩ := byteplace_ev (numsOf l[i].f0) 45 (by rw [numsOf_length]; have := hsm.1; omega)
    refine HasP.step (fun _ => laws_entitiesOk.l0.eq_2 ..) (HasP.pos (by omega) (HasP.pos (by omega) (HasP.pos (by omega) ?_)))
    rw [rdT hlt]
    refine HasP.ite (fun _ => J _ (fun h => by cases h)) (fun g2 => HasP.bind (token_ev l[i].f0 hsm.1) (fun x hx => HasP.ite (fun hx1 => HasP.pos (by have := hsm.1; omega) (HasP.bind (Q := fun y => y = r1) ⟨r1, h1, rfl⟩ (fun y hy => HasP.ite (fun _ => J _ (fun h => by cases h)) (fun hy2 => HasP.ite (fun _ => J _ (fun h => by cases h)) (fun g3 => J _ (fun h => ?_)))))) (fun _ => J _ (fun h => by cases h))))
    have h4 := of_decide_eq_false h
    have h5 : wrap64 ((l[i].f0.size : Int) + 2) = (l[i].f0.size : Int) + 2 := by have := hsm.1; unfold wrap64; omega
    rw [h5] at h4
    exact ⟨by omega, hx hx1, fun hm => hy2 (by rw [hy]; exact hf1.2 hm), by omega, by omega⟩
theorem entok_ev (l : List Ent) (hl : l.length ≤ 2147483647) (hs : ∀ x ∈ l, SmallE x) : HasP (fun k => laws_entitiesOk.f k l) (OkF l 0) := by
  have := ent_loop l hl hs l.length 0 (by omega)
  unfold laws_entitiesOk.f
  simpa using this
theorem blank_f (c : Int) : spec_IsBlank.f c = some (decide (c = 32 ∨ c = 9 ∨ c = 12 ∨ c = 10 ∨ c = 13)) := by
  unfold spec_IsBlank.f spec_IsBreak.f
  by_cases h1 : c = 32
  · simp [h1]
  by_cases h2 : c = 9
  · simp [h2]
  by_cases h3 : c = 12
  · simp [h3]
  by_cases h4 : c = 10
  · simp [h4]
  by_cases h5 : c = 13
  · simp [h5]
  simp [h1, h2, h3, h4, h5]
end Go.Proofs.YtkgaladmiiglaaaDoor.Own
