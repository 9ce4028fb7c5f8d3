/- What the token test, the joining, and the test of a list's sizes answer. -/
import Derived.Test.YtfjgfgaojebghaaAid
import Derived.Test.YtfjgfgaojebghaaCMediaJ
namespace Go.Proofs.Ytfjgfgaojebghaa.Own
open Go.RowKit Go.Proofs.YtfjgfgaojebghaaW.PrintWords Go.Proofs.YtfjgfgaojebghaaW.PrintLast Go.Proofs.Ytfjgfgaojebghaa.Aid
set_option linter.unusedVariables false
set_option linter.unusedSimpArgs false
theorem join_loop (ls : List (List Int)) (hl : ls.length ≤ 1000) : ∀ (n i : Nat) (acc : List Int), i + n = ls.length → acc.length + (ls.drop i).flatten.length < 140737488355328 →
    Ev (fun k => spec_Join.l0 k acc ls (ls.length : Int) (i : Int)) (acc ++ (ls.drop i).flatten)
  | 0, i, acc, hi, hs => by
    refine Ev.step (fun _ => spec_Join.l0.eq_2 ..) (EvNeg (by omega) ?_)
    rw [List.drop_of_length_le (by omega)]
    simp only [List.flatten_nil, List.append_nil]
    exact Ev.now _
  | n + 1, i, acc, hi, hs => by
    have hlt : i < ls.length := by omega
    have e : rd_L2 ls (i : Int) = ls[i] := by unfold rd_L2; simp [List.getD_eq_getElem?_getD, List.getElem?_eq_getElem hlt]
    rw [drop_cons hlt, List.flatten_cons, List.length_append] at hs
    refine Ev.step (fun _ => spec_Join.l0.eq_2 ..) (EvPos (by omega) (EvPos (by omega) (EvPos (by omega) ?_)))
    rw [e, wn hlt (by omega), drop_cons hlt, List.flatten_cons, ← List.append_assoc]
    refine EvPos (by omega) ?_
    exact join_loop ls hl n (i + 1) (acc ++ ls[i]) (by omega) (by rw [List.length_append]; omega)
theorem join_ev (ls : List (List Int)) (hl : ls.length ≤ 1000) (hs : ls.flatten.length < 140737488355328) : Ev (fun k => spec_Join.f k ls) ls.flatten := by
  have := join_loop ls hl ls.length 0 [] (by omega) (by simpa using hs)
  unfold spec_Join.f
  simpa using this

/-- It comes to something of which P holds. -/
def HasP {α : Type} (g : Nat → Option α) (P : α → Prop) : Prop := ∃ r, Ev g r ∧ P r
theorem HasP.now {α : Type} {r : α} {P : α → Prop} (h : P r) : HasP (fun _ => some r) P := ⟨r, Ev.now r, h⟩
theorem HasP.ite {α : Type} {c : Prop} [Decidable c] {a b : Nat → Option α} {P : α → Prop} (h : c → HasP a P) (h' : ¬ c → HasP b P) : HasP (fun k => if c then a k else b k) P := by
  by_cases hc : c
  · obtain ⟨r, h1, h2⟩ := h hc
    exact ⟨r, EvPos hc h1, h2⟩
  · obtain ⟨r, h1, h2⟩ := h' hc
    exact ⟨r, EvNeg hc h1, h2⟩
theorem HasP.pos {α : Type} {c : Prop} [Decidable c] {a b : Nat → Option α} {P : α → Prop} (hc : c) (h : HasP a P) : HasP (fun k => if c then a k else b k) P := HasP.ite (fun _ => h) (fun h' => absurd hc h')
theorem HasP.bind {α β : Type} {g : Nat → Option α} {f : Nat → α → Option β} {Q : α → Prop} {P : β → Prop} (h : HasP g Q) (k : ∀ a, Q a → HasP (fun n => f n a) P) : HasP (fun n => (g n).bind (f n)) P := by
  obtain ⟨a, h1, h2⟩ := h
  obtain ⟨r, h3, h4⟩ := k a h2
  exact ⟨r, Ev.bind h1 h3, h4⟩
theorem HasP.get {α β : Type} {o : Option α} {a : α} {f : Nat → α → Option β} {P : β → Prop} (h : o = some a) (k : HasP (fun n => f n a) P) : HasP (fun n => o.bind (f n)) P := by subst h; exact k
theorem HasP.step {α : Type} {g f : Nat → Option α} {P : α → Prop} (h : ∀ k, g (k + 1) = f k) (k : HasP f P) : HasP g P := by
  obtain ⟨r, h1, h2⟩ := k
  exact ⟨r, Ev.step h h1, h2⟩
theorem HasP.mono {α : Type} {g : Nat → Option α} {P Q : α → Prop} (h : HasP g P) (hpq : ∀ r, P r → Q r) : HasP g Q := by
  obtain ⟨r, h1, h2⟩ := h
  exact ⟨r, h1, hpq r h2⟩
theorem HasP.ev {α : Type} {g : Nat → Option α} {a : α} (h : HasP g (fun r => r = a)) : Ev g a := by
  obtain ⟨r, h1, rfl⟩ := h
  exact h1

def tokB (c : Int) : Prop := (97 ≤ c ∧ c ≤ 122) ∨ c = 45 ∨ (48 ≤ c ∧ c ≤ 57)
/-- The bytes of a text are those of a token, from a place on. -/
def TokFrom (s : ByteArray) (i : Nat) : Prop := 1 ≤ s.size ∧ s.size ≤ 20 ∧ ∀ j : Nat, i ≤ j → j < s.size → tokB (bt s (j : Int))
theorem TokFrom.step {s : ByteArray} {i : Nat} (h : TokFrom s (i + 1)) (hc : tokB (bt s (i : Int))) : TokFrom s i := by
  refine ⟨h.1, h.2.1, fun j h1 h2 => ?_⟩
  rcases Nat.eq_or_lt_of_le h1 with rfl | h3
  · exact hc
  · exact h.2.2 j h3 h2
theorem token_loop (s : ByteArray) (hs : s.size ≤ 2147483647) : ∀ (n i : Nat), i + n = s.size → HasP (fun k => spec_IsToken.l0 k s (s.size : Int) (i : Int)) (fun r => r = true → TokFrom s i)
  | 0, i, hi => by
    refine HasP.step (fun _ => spec_IsToken.l0.eq_2 ..) (HasP.ite (fun h => by omega) (fun _ => HasP.ite (fun h => HasP.now (fun h2 => ?_)) (fun _ => HasP.now (fun h => by cases h))))
    have := of_decide_eq_true h2
    exact ⟨by omega, by omega, fun j h1 h2 => by omega⟩
  | n + 1, i, hi => by
    have ih := token_loop s hs n (i + 1) (by omega)
    have e : wrap64 ((i : Int) + 1) = ((i + 1 : Nat) : Int) := wn (n := s.size) (by omega) (by omega)
    refine HasP.step (fun _ => spec_IsToken.l0.eq_2 ..) (HasP.pos (by omega) (HasP.pos (by omega) (HasP.pos (by omega) ?_)))
    rw [e]
    have hf : HasP (fun _ => some false) (fun r => r = true → TokFrom s i) := HasP.now (fun h => by cases h)
    have ihp : tokB (bt s (i : Int)) → HasP (fun k => spec_IsToken.l0 k s (s.size : Int) ((i + 1 : Nat) : Int)) (fun r => r = true → TokFrom s i) := fun hc => ih.mono (fun r h1 h2 => (h1 h2).step hc)
    have tail : HasP (fun k => if (i : Int) = 0 then (some false) else (if (bt s (i : Int)) = 45 then (spec_IsToken.l0 k s (s.size : Int) ((i + 1 : Nat) : Int)) else (if (bt s (i : Int)) < 48 then (some false) else (if (bt s (i : Int)) > 57 then (some false) else (spec_IsToken.l0 k s (s.size : Int) ((i + 1 : Nat) : Int)))))) (fun r => r = true → TokFrom s i) :=
      HasP.ite (fun _ => hf) (fun _ => HasP.ite (fun h => ihp (.inr (.inl h))) (fun _ => HasP.ite (fun _ => hf) (fun h1 => HasP.ite (fun _ => hf) (fun h2 => ihp (.inr (.inr ⟨by omega, by omega⟩))))))
    exact HasP.ite (fun h1 => HasP.ite (fun h2 => ihp (.inl ⟨by omega, by omega⟩)) (fun _ => tail)) (fun _ => tail)
theorem token_ev (s : ByteArray) (hs : s.size ≤ 2147483647) : HasP (fun k => spec_IsToken.f k s) (fun r => r = true → TokFrom s 0) := by
  have := token_loop s hs s.size 0 (by omega)
  unfold spec_IsToken.f
  simpa using this
theorem numsOf_app (a b : ByteArray) : Own.numsOf (a ++ b) = Own.numsOf a ++ Own.numsOf b := by simp [Own.numsOf]
theorem str_list (l : List Int) : (strOfNums l).toList = l.map (fun n => UInt8.ofNat n.toNat) := by rw [ByteArray.toList_eq]; simp [strOfNums]
theorem str_nums (s : ByteArray) : (strOfNums (Own.numsOf s)).toList = s.toList := by
  rw [str_list, ByteArray.toList_eq]
  unfold Own.numsOf
  rw [List.map_map]
  exact List.map_id'' (fun x => by simp) _
theorem TokFrom.all {s : ByteArray} (h : TokFrom s 0) : ∀ c ∈ Own.numsOf s, tokB c := by
  intro c hc
  unfold Own.numsOf at hc
  obtain ⟨x, hx, rfl⟩ := List.mem_map.1 hc
  obtain ⟨j, hj, rfl⟩ := List.mem_iff_getElem.1 hx
  have hj' : j < s.size := by simpa using hj
  have := h.2.2 j (Nat.zero_le _) hj'
  unfold bt at this
  simp only [Int.toNat_natCast, hj', dif_pos] at this
  simp only [Array.getElem_toList]
  exact this
theorem tok_lt {c : Int} (h : tokB c) : 45 ≤ c ∧ c ≤ 122 := by unfold tokB at h; omega

theorem media_ev (s0 s1 : ByteArray) (b0 : s0.size ≤ 2147483647) (b1 : s1.size ≤ 2147483647) : HasP (fun k => laws_mediaOk.f k s0 s1) (fun r => r = true → TokFrom s0 0 ∧ TokFrom s1 0) := by
  unfold laws_mediaOk.f
  refine HasP.bind (token_ev s0 b0) (fun a ha => HasP.ite (fun h => HasP.bind (token_ev s1 b1) (fun b hb => HasP.now (fun hbt => ⟨ha h, hb hbt⟩))) (fun _ => HasP.now (fun h => by cases h)))
theorem fits_loop (ls : List ByteArray) (hl : ls.length ≤ 2147483647) : ∀ (n i : Nat), i + n = ls.length → HasP (fun k => laws_zzFits4.l0 k ls (ls.length : Int) (i : Int)) (fun r => r = true → ∀ j : Nat, i ≤ j → j < ls.length → (rdOf ByteArray.empty ls (j : Int)).size ≤ 2147483647)
  | 0, i, hi => by
    refine HasP.step (fun _ => laws_zzFits4.l0.eq_2 ..) (HasP.ite (fun h => by omega) (fun _ => HasP.now (fun _ j h1 h2 => by omega)))
  | n + 1, i, hi => by
    have ih := fits_loop ls hl n (i + 1) (by omega)
    have e : wrap64 ((i : Int) + 1) = ((i + 1 : Nat) : Int) := wn (n := ls.length) (by omega) (by omega)
    refine HasP.step (fun _ => laws_zzFits4.l0.eq_2 ..) (HasP.pos (by omega) (HasP.pos (by omega) (HasP.pos (by omega) (HasP.ite (fun _ => HasP.now (fun h => by cases h)) (fun h => ?_)))))
    rw [e]
    refine ih.mono (fun r h1 h2 j h3 h4 => ?_)
    rcases Nat.eq_or_lt_of_le h3 with rfl | h5
    · omega
    · exact h1 h2 j h5 h4
theorem fits_ev (ls : List ByteArray) : HasP (fun k => laws_zzFits4.f k ls) (fun r => r = true → ls.length ≤ 2147483647 ∧ ∀ j : Nat, j < ls.length → (rdOf ByteArray.empty ls (j : Int)).size ≤ 2147483647) := by
  unfold laws_zzFits4.f
  refine HasP.ite (fun _ => HasP.now (fun h => by cases h)) (fun h => ?_)
  refine (fits_loop ls (by omega) ls.length 0 (by omega)).mono (fun r h1 h2 => ⟨by omega, fun j hj => h1 h2 j (by omega) hj⟩)
end Go.Proofs.Ytfjgfgaojebghaa.Own
