/- FnUrlData, its pure statement: a data URI tells its media type, and its data without the escapes. For all texts and byte lists. -/
import Derived.Test.YthejmpldfndbfaaDoorAid
import Derived.Test.YthejmpldfndbfaaDoorPFnUrlDatax0
import Derived.Test.YthejmpldfndbfaaDoorPFnUrlDatax1
import Derived.Test.YthejmpldfndbfaaDoorPFnUrlDatax2
namespace Go.Proofs.YthejmpldfndbfaaDoor.Pure
open Go.RowKit Go.Proofs.YthejmpldfndbfaaDoor.PFnUrlData Go.Proofs.YthejmpldfndbfaaDoorW.PrintWords Go.Proofs.YthejmpldfndbfaaDoorW.PrintLast Go.Proofs.YthejmpldfndbfaaDoor.Aid
set_option linter.unusedVariables false
set_option linter.unusedSimpArgs false

theorem few_loop (ls : List (List Int)) (hl : ls.length ≤ 1000) : ∀ (n i : Nat), i + n = ls.length →
    Ev (fun k => laws_fewBytes.l0 k ls (ls.length : Int) (i : Int)) ((ls.drop i).all fun l => decide (l.length ≤ 300))
  | 0, i, hi => by
    refine Ev.step (fun _ => laws_fewBytes.l0.eq_2 ..) (EvNeg (by omega) ?_)
    rw [List.drop_of_length_le (by omega)]
    exact Ev.now _
  | n + 1, i, hi => by
    have hlt : i < ls.length := by omega
    have e : rd_L1 ls (i : Int) = ls[i] := by unfold rd_L1; simp [List.getD_eq_getElem?_getD, List.getElem?_eq_getElem hlt]
    refine Ev.step (fun _ => laws_fewBytes.l0.eq_2 ..) (EvPos (by omega) (EvPos (by omega) (EvPos (by omega) ?_)))
    rw [e, wn hlt (by omega), drop_cons hlt, List.all_cons]
    refine EvIte (fun h => ?_) (fun h => ?_)
    · rw [decide_eq_false (by omega), Bool.false_and]
      exact Ev.now _
    · rw [decide_eq_true (by omega), Bool.true_and]
      exact few_loop ls hl n (i + 1) (by omega)
theorem few_ev (ls : List (List Int)) (hl : ls.length ≤ 1000) : Ev (fun k => laws_fewBytes.f k ls) (ls.all fun l => decide (l.length ≤ 300)) := by
  have := few_loop ls hl ls.length 0 (by omega)
  unfold laws_fewBytes.f
  simpa using this

theorem same_loop (a b : List Int) (hl : a.length = b.length) (hm : a.length ≤ 140737488355328) : ∀ (n i : Nat), i + n = a.length →
    Ev (fun k => spec_SameBytes.l0 k b a (a.length : Int) (i : Int)) (decide (a.drop i = b.drop i))
  | 0, i, hi => by
    refine Ev.step (fun _ => spec_SameBytes.l0.eq_2 ..) (EvNeg (by omega) ?_)
    rw [List.drop_of_length_le (by omega), List.drop_of_length_le (by omega), decide_eq_true rfl]
    exact Ev.now _
  | n + 1, i, hi => by
    have hlt : i < a.length := by omega
    have hlt' : i < b.length := by omega
    refine Ev.step (fun _ => spec_SameBytes.l0.eq_2 ..) (EvPos (by omega) (EvPos (by omega) (EvPos (by omega) (EvPos (by omega) ?_))))
    rw [rd_at hlt, rd_at hlt', wn hlt (by omega), drop_cons hlt, drop_cons hlt']
    refine EvIte (fun h => ?_) (fun h => ?_)
    · refine EvEq (same_loop a b hl hm n (i + 1) (by omega)) ?_
      rw [Bool.eq_iff_iff, h]
      simp only [decide_eq_true_eq, List.cons.injEq, true_and]
    · refine EvNow ?_
      symm
      apply decide_eq_false
      intro e
      injection e with e1 e2
      exact h e1
theorem same_ev (a b : List Int) (hm : a.length ≤ 140737488355328) : Ev (fun k => spec_SameBytes.f k a b) (decide (a = b)) := by
  unfold spec_SameBytes.f
  refine EvIte (fun h => ?_) (fun h => ?_)
  · have := same_loop a b (by omega) hm a.length 0 (by omega)
    simpa using this
  · refine EvNow ?_
    symm
    apply decide_eq_false
    intro e
    subst e
    exact h rfl

theorem join_loop (ls : List (List Int)) (hl : ls.length ≤ 1000) : ∀ (n i : Nat) (acc : List Int), i + n = ls.length → acc.length + (ls.drop i).flatten.length < 140737488355328 →
    Ev (fun k => spec_Join.l0 k acc ls (ls.length : Int) (i : Int)) (acc ++ (ls.drop i).flatten)
  | 0, i, acc, hi, hs => by
    refine Ev.step (fun _ => spec_Join.l0.eq_2 ..) (EvNeg (by omega) ?_)
    rw [List.drop_of_length_le (by omega)]
    simp only [List.flatten_nil, List.append_nil]
    exact Ev.now _
  | n + 1, i, acc, hi, hs => by
    have hlt : i < ls.length := by omega
    have e : rd_L1 ls (i : Int) = ls[i] := by unfold rd_L1; simp [List.getD_eq_getElem?_getD, List.getElem?_eq_getElem hlt]
    rw [drop_cons hlt, List.flatten_cons, List.length_append] at hs
    refine Ev.step (fun _ => spec_Join.l0.eq_2 ..) (EvPos (by omega) (EvPos (by omega) (EvPos (by omega) ?_)))
    rw [e, wn hlt (by omega), drop_cons hlt, List.flatten_cons, ← List.append_assoc]
    refine EvPos (by omega) ?_
    exact join_loop ls hl n (i + 1) (acc ++ ls[i]) (by omega) (by rw [List.length_append]; omega)
theorem join_ev (ls : List (List Int)) (hl : ls.length ≤ 1000) (hs : ls.flatten.length < 140737488355328) : Ev (fun k => spec_Join.f k ls) ls.flatten := by
  have := join_loop ls hl ls.length 0 [] (by omega) (by simpa using hs)
  unfold spec_Join.f
  simpa using this

abbrev bigH : ByteArray := ⟨#[48, 49, 50, 51, 52, 53, 54, 55, 56, 57, 65, 66, 67, 68, 69, 70]⟩
abbrev smallH : ByteArray := ⟨#[48, 49, 50, 51, 52, 53, 54, 55, 56, 57, 97, 98, 99, 100, 101, 102]⟩
def pctI (c : Int) (small : Bool) : List Int := [37, bt (if small = true then smallH else bigH) (c / 16), bt (if small = true then smallH else bigH) (c % 16)]

theorem hex_nat : ∀ n : Nat, n < 16 → ∀ small : Bool, Own.hexD (bt (if small = true then smallH else bigH) (n : Int)) = true ∧ Own.hexV (bt (if small = true then smallH else bigH) (n : Int)) = n := by decide
theorem hex_of {d : Int} (small : Bool) (h0 : 0 ≤ d) (h1 : d < 16) : Own.hexD (bt (if small = true then smallH else bigH) d) = true ∧ Own.hexV (bt (if small = true then smallH else bigH) d) = d := by
  obtain ⟨n, rfl⟩ := Int.eq_ofNat_of_zero_le h0
  exact hex_nat n (by omega) small
def Plain (l : List Int) : Prop := ∀ x ∈ l, x ≠ 37 ∧ x ≠ 43
theorem dec_plain : ∀ (l t : List Int), Plain l → Own.decI (l ++ t) = l ++ Own.decI t
  | [], t, _ => rfl
  | c :: l, t, h => by
    have hc := h c (List.mem_cons_self ..)
    rw [List.cons_append, Own.dec_other hc.1, if_neg hc.2, dec_plain l t (fun x hx => h x (List.mem_cons_of_mem _ hx))]
    rfl
theorem dec_nil : Own.decI [] = [] := by rw [Own.decI]
theorem dec_pct {c : Int} (small : Bool) (t : List Int) (h0 : 0 ≤ c) (h1 : c ≤ 255) : Own.decI (pctI c small ++ t) = c :: Own.decI t := by
  unfold pctI
  have ha := hex_of (d := c / 16) small (by omega) (by omega)
  have hb := hex_of (d := c % 16) small (by omega) (by omega)
  rw [List.cons_append, List.cons_append, List.cons_append, List.nil_append, Own.dec_yes ha.1 hb.1, ha.2, hb.2]
  congr 1
  omega
theorem bt_byte : ∀ n : Nat, n < 16 → ∀ small : Bool, 0 ≤ bt (if small = true then smallH else bigH) (n : Int) ∧ bt (if small = true then smallH else bigH) (n : Int) ≤ 255 := by decide
theorem pct_bytes {c : Int} (small : Bool) (h0 : 0 ≤ c) (h1 : c ≤ 255) : Bytes (pctI c small) := by
  have hb : ∀ d : Int, 0 ≤ d → d < 16 → 0 ≤ bt (if small = true then smallH else bigH) d ∧ bt (if small = true then smallH else bigH) d ≤ 255 := by
    intro d h0 h1
    obtain ⟨n, rfl⟩ := Int.eq_ofNat_of_zero_le h0
    exact bt_byte n (by omega) small
  intro x hx
  unfold pctI at hx
  simp only [List.mem_cons, List.not_mem_nil, or_false] at hx
  rcases hx with rfl | rfl | rfl
  · omega
  · exact hb _ (by omega) (by omega)
  · exact hb _ (by omega) (by omega)
theorem byD_all {l : List Int} (h : Bytes l) : l.all Own.byD = true := by
  rw [List.all_eq_true]
  intro x hx
  have := h x hx
  unfold Own.byD
  rw [decide_eq_true this.1, decide_eq_true (by omega : x < 256)]
  rfl
theorem decode_f {l : List Int} (h : Bytes l) (hl : l.length < 140737488355328) : Own.impl_DecodeURL.f l = some (Own.decI l) := by
  unfold Own.impl_DecodeURL.f
  rw [if_pos ⟨hl, byD_all h⟩]

/-- It comes to something of which P holds. -/
def HasP {α : Type} (g : Nat → Option α) (P : α → Prop) : Prop := ∃ r, Ev g r ∧ P r
theorem HasP.now {α : Type} {r : α} {P : α → Prop} (h : P r) : HasP (fun _ => some r) P := ⟨r, Ev.now r, h⟩
theorem HasP.ite {α : Type} {c : Prop} [Decidable c] {a b : Nat → Option α} {P : α → Prop} (h : c → HasP a P) (h' : ¬ c → HasP b P) : HasP (fun k => if c then a k else b k) P := by
  by_cases hc : c
  · obtain ⟨r, h1, h2⟩ := h hc
    exact ⟨r, EvPos hc h1, h2⟩
  · obtain ⟨r, h1, h2⟩ := h' hc
    exact ⟨r, EvNeg hc h1, h2⟩
theorem HasP.pos {α : Type} {c : Prop} [Decidable c] {a b : Nat → Option α} {P : α → Prop} (hc : c) (h : HasP a P) : HasP (fun k => if c then a k else b k) P := HasP.ite (fun _ => h) (fun h' => absurd hc h')
theorem HasP.bind {α β : Type} {g : Nat → Option α} {f : Nat → α → Option β} {Q : α → Prop} {P : β → Prop} (h : HasP g Q) (k : ∀ a, Q a → HasP (fun n => f n a) P) : HasP (fun n => (g n).bind (f n)) P := by
  obtain ⟨a, h1, h2⟩ := h
  obtain ⟨r, h3, h4⟩ := k a h2
  exact ⟨r, Ev.bind h1 h3, h4⟩
theorem HasP.get {α β : Type} {o : Option α} {a : α} {f : Nat → α → Option β} {P : β → Prop} (h : o = some a) (k : HasP (fun n => f n a) P) : HasP (fun n => o.bind (f n)) P := by subst h; exact k
theorem HasP.step {α : Type} {g f : Nat → Option α} {P : α → Prop} (h : ∀ k, g (k + 1) = f k) (k : HasP f P) : HasP g P := by
  obtain ⟨r, h1, h2⟩ := k
  exact ⟨r, Ev.step h h1, h2⟩
theorem HasP.mono {α : Type} {g : Nat → Option α} {P Q : α → Prop} (h : HasP g P) (hpq : ∀ r, P r → Q r) : HasP g Q := by
  obtain ⟨r, h1, h2⟩ := h
  exact ⟨r, h1, hpq r h2⟩
theorem HasP.ev {α : Type} {g : Nat → Option α} {a : α} (h : HasP g (fun r => r = a)) : Ev g a := by
  obtain ⟨r, h1, rfl⟩ := h
  exact h1

def tokB (c : Int) : Prop := (97 ≤ c ∧ c ≤ 122) ∨ c = 45 ∨ (48 ≤ c ∧ c ≤ 57)
/-- The bytes of a text are those of a token, from a place on. -/
def TokFrom (s : ByteArray) (i : Nat) : Prop := 1 ≤ s.size ∧ s.size ≤ 20 ∧ ∀ j : Nat, i ≤ j → j < s.size → tokB (bt s (j : Int))
theorem TokFrom.step {s : ByteArray} {i : Nat} (h : TokFrom s (i + 1)) (hc : tokB (bt s (i : Int))) : TokFrom s i := by
  refine ⟨h.1, h.2.1, fun j h1 h2 => ?_⟩
  rcases Nat.eq_or_lt_of_le h1 with rfl | h3
  · exact hc
  · exact h.2.2 j h3 h2
theorem token_loop (s : ByteArray) (hs : s.size ≤ 2147483647) : ∀ (n i : Nat), i + n = s.size → HasP (fun k => spec_IsToken.l0 k s (s.size : Int) (i : Int)) (fun r => r = true → TokFrom s i)
  | 0, i, hi => by
    refine HasP.step (fun _ => spec_IsToken.l0.eq_2 ..) (HasP.ite (fun h => by omega) (fun _ => HasP.ite (fun h => HasP.now (fun h2 => ?_)) (fun _ => HasP.now (fun h => by cases h))))
    have := of_decide_eq_true h2
    exact ⟨by omega, by omega, fun j h1 h2 => by omega⟩
  | n + 1, i, hi => by
    have ih := token_loop s hs n (i + 1) (by omega)
    have e : wrap64 ((i : Int) + 1) = ((i + 1 : Nat) : Int) := wn (n := s.size) (by omega) (by omega)
    refine HasP.step (fun _ => spec_IsToken.l0.eq_2 ..) (HasP.pos (by omega) (HasP.pos (by omega) (HasP.pos (by omega) ?_)))
    rw [e]
    have hf : HasP (fun _ => some false) (fun r => r = true → TokFrom s i) := HasP.now (fun h => by cases h)
    have ihp : tokB (bt s (i : Int)) → HasP (fun k => spec_IsToken.l0 k s (s.size : Int) ((i + 1 : Nat) : Int)) (fun r => r = true → TokFrom s i) := fun hc => ih.mono (fun r h1 h2 => (h1 h2).step hc)
    have tail : HasP (fun k => if (i : Int) = 0 then (some false) else (if (bt s (i : Int)) = 45 then (spec_IsToken.l0 k s (s.size : Int) ((i + 1 : Nat) : Int)) else (if (bt s (i : Int)) < 48 then (some false) else (if (bt s (i : Int)) > 57 then (some false) else (spec_IsToken.l0 k s (s.size : Int) ((i + 1 : Nat) : Int)))))) (fun r => r = true → TokFrom s i) :=
      HasP.ite (fun _ => hf) (fun _ => HasP.ite (fun h => ihp (.inr (.inl h))) (fun _ => HasP.ite (fun _ => hf) (fun h1 => HasP.ite (fun _ => hf) (fun h2 => ihp (.inr (.inr ⟨by omega, by omega⟩))))))
    exact HasP.ite (fun h1 => HasP.ite (fun h2 => ihp (.inl ⟨by omega, by omega⟩)) (fun _ => tail)) (fun _ => tail)
theorem token_ev (s : ByteArray) (hs : s.size ≤ 2147483647) : HasP (fun k => spec_IsToken.f k s) (fun r => r = true → TokFrom s 0) := by
  have := token_loop s hs s.size 0 (by omega)
  unfold spec_IsToken.f
  simpa using this
theorem numsOf_app (a b : ByteArray) : Own.numsOf (a ++ b) = Own.numsOf a ++ Own.numsOf b := by simp [Own.numsOf]
theorem str_list (l : List Int) : (strOfNums l).toList = l.map (fun n => UInt8.ofNat n.toNat) := by rw [ByteArray.toList_eq]; simp [strOfNums]
theorem str_nums (s : ByteArray) : (strOfNums (Own.numsOf s)).toList = s.toList := by
  rw [str_list, ByteArray.toList_eq]
  unfold Own.numsOf
  rw [List.map_map]
  exact List.map_id'' (fun x => by simp) _
theorem TokFrom.all {s : ByteArray} (h : TokFrom s 0) : ∀ c ∈ Own.numsOf s, tokB c := by
  intro c hc
  unfold Own.numsOf at hc
  obtain ⟨x, hx, rfl⟩ := List.mem_map.1 hc
  obtain ⟨j, hj, rfl⟩ := List.mem_iff_getElem.1 hx
  have hj' : j < s.size := by simpa using hj
  have := h.2.2 j (Nat.zero_le _) hj'
  unfold bt at this
  simp only [Int.toNat_natCast, hj', dif_pos] at this
  simp only [Array.getElem_toList]
  exact this
theorem tok_lt {c : Int} (h : tokB c) : 45 ≤ c ∧ c ≤ 122 := by unfold tokB at h; omega

def tbU (t : Int) : Nat → Bool := if t = 1 then Own.isD else Own.isU
theorem enc_len3 (f : Nat → Bool) : ∀ l, (Own.encI f l).length ≤ 3 * l.length
  | [] => Nat.le_refl _
  | c :: t => by
    have := enc_len3 f t
    unfold Own.encI
    split <;> simp <;> omega
theorem byE_all {l : List Int} (h : Bytes l) : l.all Own.byE = true := by
  rw [List.all_eq_true]
  intro x hx
  have := h x hx
  unfold Own.byE
  rw [decide_eq_true this.1, decide_eq_true (by omega : x < 256)]
  rfl
theorem encode_f {l : List Int} (h : Bytes l) (hl : l.length < 40000000000000) : Own.impl_EncodeURL.f l 0 = some (Own.encI (tbU 0) l) := by
  have := enc_len3 (tbU 0) l
  unfold Own.impl_EncodeURL.f
  exact if_pos ⟨by decide, by omega, byE_all h, by unfold tbU at this; omega⟩
theorem enc_bytes (f : Nat → Bool) : ∀ l, Bytes l → Bytes (Own.encI f l)
  | [], _ => by intro x hx; simp [Own.encI] at hx
  | c :: t, h => by
    have hc := h c (List.mem_cons_self ..)
    have ih := enc_bytes f t (fun x hx => h x (List.mem_cons_of_mem _ hx))
    intro x hx
    unfold Own.encI at hx
    split at hx
    · have hp := pct_bytes (c := c) false hc.1 hc.2
      rw [List.mem_cons, List.mem_cons, List.mem_cons] at hx
      rcases hx with rfl | rfl | rfl | hx
      · omega
      · exact hp _ (by unfold pctI; simp)
      · exact hp _ (by unfold pctI; simp)
      · exact ih x hx
    · rcases List.mem_cons.1 hx with rfl | hx
      · exact hc
      · exact ih x hx
theorem dec_enc (f : Nat → Bool) (h37 : f 37 = true) : ∀ l, Bytes l → (∀ x ∈ l, x = 43 → f 43 = true) → Own.decI (Own.encI f l) = l
  | [], _, _ => by rw [Own.encI, dec_nil]
  | c :: t, h, hp => by
    have hc := h c (List.mem_cons_self ..)
    have ih := dec_enc f h37 t (fun x hx => h x (List.mem_cons_of_mem _ hx)) (fun x hx => hp x (List.mem_cons_of_mem _ hx))
    by_cases hf : f c.toNat = true
    · rw [Own.enc_yes hf]
      have := dec_pct (c := c) false (Own.encI f t) hc.1 hc.2
      rw [ih] at this
      exact this
    · have h1 : c ≠ 37 := by intro e; subst e; exact hf h37
      have h2 : c ≠ 43 := by intro e; subst e; exact hf (hp 43 (List.mem_cons_self ..) rfl)
      rw [Own.enc_no (by simpa using hf), Own.dec_other h1, if_neg h2, ih]
theorem trim_id {m : List Int} (h : ∀ c ∈ m, Own.wsI c = false) : Own.trimI m = m := by
  have h1 : ∀ l : List Int, (∀ c ∈ l, Own.wsI c = false) → l.takeWhile Own.wsI = [] ∧ l.dropWhile Own.wsI = l := by
    intro l hl
    cases l with
    | nil => exact ⟨rfl, rfl⟩
    | cons c t =>
      have hc := hl c (List.mem_cons_self ..)
      exact ⟨List.takeWhile_cons_of_neg (by simp [hc]), List.dropWhile_cons_of_neg (by simp [hc])⟩
  unfold Own.trimI Own.startI Own.endI
  rw [(h1 m h).1, (h1 m.reverse (fun c hc => h c (List.mem_reverse.1 hc))).2]
  simp
theorem take_sep {m r : List Int} (h : ∀ c ∈ m, Own.notSep c = true) : (m ++ 44 :: r).takeWhile Own.notSep = m := by
  rw [List.takeWhile_append_of_pos h, List.takeWhile_cons_of_neg (by decide), List.append_nil]
/-- The bytes of a media type of two tokens. -/
def MedB (m : List Int) : Prop := 47 ∈ m ∧ ∀ c ∈ m, c = 47 ∨ tokB c
theorem data_f {m r : List Int} (hm : MedB m) (hr : Bytes r) (hl : (Own.preD ++ (m ++ 44 :: r)).length < 140737488355328) : Own.impl_DataURI.f (Own.preD ++ (m ++ 44 :: r)) = some (m, Own.decI r, true) := by
  have hb : ∀ c ∈ m, 45 ≤ c ∧ c ≤ 122 ∧ c ≠ 59 ∧ c ≠ 61 := fun c hc => by
    rcases hm.2 c hc with h | h
    · omega
    · unfold tokB at h; omega
  have h1 : ∀ c ∈ m, Own.notSep c = true := fun c hc => by
    have := hb c hc
    unfold Own.notSep
    simp
    omega
  have h2 : ∀ c ∈ m, Own.wsI c = false := fun c hc => by
    have := hb c hc
    unfold Own.wsI Own.isW
    simp
    omega
  have e5 : (Own.preD ++ (m ++ 44 :: r)).drop 5 = m ++ 44 :: r := rfl
  have e6 : (m ++ 44 :: r).drop (m.length + 1) = r := by
    rw [show m ++ 44 :: r = (m ++ [44]) ++ r by simp, List.drop_left' (by simp)]
  have h64 : Own.eqB m Own.b64 = false := by
    unfold Own.eqB
    rw [beq_eq_false_iff_ne]
    intro e
    rw [str_list, str_list] at e
    have : UInt8.ofNat (47 : Int).toNat ∈ m.map (fun n : Int => UInt8.ofNat n.toNat) := List.mem_map.2 ⟨47, hm.1, rfl⟩
    rw [e] at this
    revert this
    decide
  have hne : m ≠ [] := by intro e; have := hm.1; rw [e] at this; cases this
  unfold Own.impl_DataURI.f
  have hby : m.all Own.byI = true := by
    rw [List.all_eq_true]
    intro c hc
    have := hb c hc
    unfold Own.byI
    rw [decide_eq_true (by omega), decide_eq_true (by omega)]
    rfl
  rw [e5, take_sep h1, e6, trim_id h2, if_pos ⟨hl, rfl, byD_all hr, hby, h64⟩]
  unfold Own.mime
  rw [trim_id h2, if_neg hne]
theorem FnUrlData : laws_FnUrlData.Pure := by
  intro s0 s1 l hs0 hs1 h1 h2 h3
  refine Ev.rounds (HasP.ev ?_)
  have hb := bytes_of h3
  have j1t : HasP (fun k => laws_FnUrlData.j1 k s0 s1 l true) (fun r => r = true) := HasP.step (fun _ => laws_FnUrlData.j1.eq_2 ..) (HasP.pos rfl (HasP.now rfl))
  have j0t : HasP (fun k => laws_FnUrlData.j0 k s0 s1 l true) (fun r => r = true) := HasP.step (fun _ => laws_FnUrlData.j0.eq_2 ..) (HasP.pos rfl (HasP.now rfl))
  have main : ∀ q : Bool, (q = false → s0.size ≤ 2147483647 ∧ s1.size ≤ 2147483647 ∧ l.length ≤ 2147483647) → HasP (fun k => laws_FnUrlData.j0 k s0 s1 l q) (fun r => r = true) := by
    intro q hq
    refine HasP.step (fun _ => laws_FnUrlData.j0.eq_2 ..) (HasP.ite (fun _ => HasP.now rfl) (fun h => ?_))
    obtain ⟨b0, b1, b2⟩ := hq (by simpa using h)
    have hmed : HasP (fun k => laws_mediaOk.f k s0 s1) (fun r => r = true → TokFrom s0 0 ∧ TokFrom s1 0) := by
      unfold laws_mediaOk.f
      refine HasP.bind (token_ev s0 b0) (fun a ha => HasP.ite (fun h => HasP.bind (token_ev s1 b1) (fun b hb => HasP.now (fun hbt => ⟨ha h, hb hbt⟩))) (fun _ => HasP.now (fun h => by cases h)))
    refine HasP.bind hmed (fun a ha => HasP.ite (fun hat => ?_) (fun _ => j1t))
    obtain ⟨t0, t1⟩ := ha hat
    refine HasP.bind (Q := fun r => r = true → l.length ≤ 300) ⟨_, few_ev [l] (by simp), fun h => by simpa using h⟩ (fun b hb3 => ?_)
    refine HasP.step (fun _ => laws_FnUrlData.j1.eq_2 ..) (HasP.ite (fun _ => HasP.now rfl) (fun h => ?_))
    have hl3 : l.length ≤ 300 := hb3 (by simpa using h)
    have z0 := t0.2.1
    have z1 := t1.2.1
    have en := enc_len3 (tbU 0) l
    have y0 : (⟨#[100, 97, 116, 97, 58]⟩ : ByteArray).size = 5 := rfl
    have y1 : (⟨#[47]⟩ : ByteArray).size = 1 := rfl
    have y2 : (⟨#[44]⟩ : ByteArray).size = 1 := rfl
    refine HasP.pos (by omega) (HasP.pos (by simp only [ByteArray.size_append]; omega) (HasP.pos (by simp only [ByteArray.size_append]; omega) (HasP.pos (by simp only [ByteArray.size_append]; omega) (HasP.pos (by simp only [ByteArray.size_append]; omega) ?_))))
    refine HasP.get (encode_f hb (by omega)) ?_
    have eu : Own.numsOf (((((⟨#[100, 97, 116, 97, 58]⟩ : ByteArray) ++ s0) ++ (⟨#[47]⟩ : ByteArray)) ++ s1) ++ (⟨#[44]⟩ : ByteArray)) = Own.preD ++ ((Own.numsOf s0 ++ 47 :: Own.numsOf s1) ++ [44]) := by
      rw [numsOf_app, numsOf_app, numsOf_app, numsOf_app, show Own.numsOf (⟨#[100, 97, 116, 97, 58]⟩ : ByteArray) = Own.preD from rfl, show Own.numsOf (⟨#[47]⟩ : ByteArray) = [47] from rfl, show Own.numsOf (⟨#[44]⟩ : ByteArray) = [44] from rfl]
      simp
    rw [eu]
    have ef : [Own.preD ++ ((Own.numsOf s0 ++ 47 :: Own.numsOf s1) ++ [44]), Own.encI (tbU 0) l].flatten = Own.preD ++ ((Own.numsOf s0 ++ 47 :: Own.numsOf s1) ++ 44 :: Own.encI (tbU 0) l) := by simp
    have n0 := Own.numsOf_length s0
    have n1 := Own.numsOf_length s1
    have hlen : (Own.preD ++ ((Own.numsOf s0 ++ 47 :: Own.numsOf s1) ++ 44 :: Own.encI (tbU 0) l)).length < 140737488355328 := by simp [Own.preD]; omega
    have hmed2 : MedB (Own.numsOf s0 ++ 47 :: Own.numsOf s1) := by
      refine ⟨by simp, fun c hc => ?_⟩
      rcases List.mem_append.1 hc with hc | hc
      · exact .inr (t0.all c hc)
      · rcases List.mem_cons.1 hc with hc | hc
        · exact .inl hc
        · exact .inr (t1.all c hc)
    refine HasP.bind (Q := fun r => r = _) ⟨_, join_ev [_, _] (by simp) (by rw [ef]; exact hlen), rfl⟩ (fun u hu => ?_)
    subst hu
    rw [ef]
    refine HasP.get (data_f hmed2 (enc_bytes _ l hb) hlen) (HasP.pos rfl (HasP.pos (by omega) (HasP.pos (by simp only [ByteArray.size_append]; omega) (HasP.pos ?_ ?_))))
    · have e : ((s0 ++ (⟨#[47]⟩ : ByteArray)) ++ s1).toList = (strOfNums (Own.numsOf ((s0 ++ (⟨#[47]⟩ : ByteArray)) ++ s1))).toList := (str_nums _).symm
      rw [e, numsOf_app, numsOf_app, show Own.numsOf (⟨#[47]⟩ : ByteArray) = [47] from rfl]
      simp
    · rw [dec_enc (tbU 0) (by decide) l hb (fun x hx e => by decide)]
      exact HasP.bind (Q := fun r => r = true) ⟨_, same_ev l l (by omega), by simp⟩ (fun y hy => HasP.now hy)
  unfold laws_FnUrlData.f
  refine HasP.ite (fun _ => j0t) (fun h1 => HasP.ite (fun _ => j0t) (fun h2 => main _ (fun hq => ?_)))
  have := of_decide_eq_false hq
  omega

end Go.Proofs.YthejmpldfndbfaaDoor.Pure
