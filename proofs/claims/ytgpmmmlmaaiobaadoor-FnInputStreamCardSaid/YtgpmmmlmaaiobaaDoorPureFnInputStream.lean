/- FnInputStream, its pure statement: the reader of bytes that come in pieces tells for each step what is there. For all byte lists, pieces, buffers and lists of steps. -/
import Derived.Test.YtgpmmmlmaaiobaaDoorAid
import Derived.Test.YtgpmmmlmaaiobaaDoorPFnInputStreamx0
import Derived.Test.YtgpmmmlmaaiobaaDoorPFnInputStreamx1
import Derived.Test.YtgpmmmlmaaiobaaDoorPFnInputStreamx2
import Derived.Test.YtgpmmmlmaaiobaaDoorPFnInputStreamx3
import Derived.Test.YtgpmmmlmaaiobaaDoorPFnInputStreamx4
import Derived.Test.YtgpmmmlmaaiobaaDoorPFnInputStreamx5
import Derived.Test.YtgpmmmlmaaiobaaDoorPFnInputStreamx14
namespace Go.Proofs.YtgpmmmlmaaiobaaDoor.Pure
open Go.RowKit Go.Proofs.YtgpmmmlmaaiobaaDoor.PFnInputStream Go.Proofs.YtgpmmmlmaaiobaaDoorW.PrintWords Go.Proofs.YtgpmmmlmaaiobaaDoorW.PrintLast Go.Proofs.YtgpmmmlmaaiobaaDoor.Aid
set_option linter.unusedVariables false
set_option linter.unusedSimpArgs false

theorem few_loop (ls : List (List Int)) (hl : ls.length ≤ 1000) : ∀ (n i : Nat), i + n = ls.length →
    Ev (fun k => laws_fewBytes.l0 k ls (ls.length : Int) (i : Int)) ((ls.drop i).all fun l => decide (l.length ≤ 300))
  | 0, i, hi => by
    refine Ev.step (fun _ => laws_fewBytes.l0.eq_2 ..) (EvNeg (by omega) ?_)
    rw [List.drop_of_length_le (by omega)]
    exact Ev.now _
  | n + 1, i, hi => by
    have hlt : i < ls.length := by omega
    have e : rd_L1 ls (i : Int) = ls[i] := by unfold rd_L1; simp [List.getD_eq_getElem?_getD, List.getElem?_eq_getElem hlt]
    refine Ev.step (fun _ => laws_fewBytes.l0.eq_2 ..) (EvPos (by omega) (EvPos (by omega) (EvPos (by omega) ?_)))
    rw [e, wn hlt (by omega), drop_cons hlt, List.all_cons]
    refine EvIte (fun h => ?_) (fun h => ?_)
    · rw [decide_eq_false (by omega), Bool.false_and]
      exact Ev.now _
    · rw [decide_eq_true (by omega), Bool.true_and]
      exact few_loop ls hl n (i + 1) (by omega)
theorem few_ev (ls : List (List Int)) (hl : ls.length ≤ 1000) : Ev (fun k => laws_fewBytes.f k ls) (ls.all fun l => decide (l.length ≤ 300)) := by
  have := few_loop ls hl ls.length 0 (by omega)
  unfold laws_fewBytes.f
  simpa using this

/-- It comes to something of which P holds. -/
def HasP {α : Type} (g : Nat → Option α) (P : α → Prop) : Prop := ∃ r, Ev g r ∧ P r
theorem HasP.now {α : Type} {r : α} {P : α → Prop} (h : P r) : HasP (fun _ => some r) P := ⟨r, Ev.now r, h⟩
theorem HasP.ite {α : Type} {c : Prop} [Decidable c] {a b : Nat → Option α} {P : α → Prop} (h : c → HasP a P) (h' : ¬ c → HasP b P) : HasP (fun k => if c then a k else b k) P := by
  by_cases hc : c
  · obtain ⟨r, h1, h2⟩ := h hc
    exact ⟨r, EvPos hc h1, h2⟩
  · obtain ⟨r, h1, h2⟩ := h' hc
    exact ⟨r, EvNeg hc h1, h2⟩
theorem HasP.pos {α : Type} {c : Prop} [Decidable c] {a b : Nat → Option α} {P : α → Prop} (hc : c) (h : HasP a P) : HasP (fun k => if c then a k else b k) P := HasP.ite (fun _ => h) (fun h' => absurd hc h')
theorem HasP.bind {α β : Type} {g : Nat → Option α} {f : Nat → α → Option β} {Q : α → Prop} {P : β → Prop} (h : HasP g Q) (k : ∀ a, Q a → HasP (fun n => f n a) P) : HasP (fun n => (g n).bind (f n)) P := by
  obtain ⟨a, h1, h2⟩ := h
  obtain ⟨r, h3, h4⟩ := k a h2
  exact ⟨r, Ev.bind h1 h3, h4⟩
theorem HasP.get {α β : Type} {o : Option α} {a : α} {f : Nat → α → Option β} {P : β → Prop} (h : o = some a) (k : HasP (fun n => f n a) P) : HasP (fun n => o.bind (f n)) P := by subst h; exact k
theorem HasP.step {α : Type} {g f : Nat → Option α} {P : α → Prop} (h : ∀ k, g (k + 1) = f k) (k : HasP f P) : HasP g P := by
  obtain ⟨r, h1, h2⟩ := k
  exact ⟨r, Ev.step h h1, h2⟩
theorem HasP.mono {α : Type} {g : Nat → Option α} {P Q : α → Prop} (h : HasP g P) (hpq : ∀ r, P r → Q r) : HasP g Q := by
  obtain ⟨r, h1, h2⟩ := h
  exact ⟨r, h1, hpq r h2⟩
theorem HasP.ev {α : Type} {g : Nat → Option α} {a : α} (h : HasP g (fun r => r = a)) : Ev g a := by
  obtain ⟨r, h1, rfl⟩ := h
  exact h1

abbrev Stp := Own.S44
abbrev Ans := Own.S46
theorem wi {x : Int} (h0 : -9223372036854775808 ≤ x) (h : x ≤ 9223372036854775807) : wrap64 x = x := w64 h0 h
theorem and63 {x : Int} (h0 : 0 ≤ x) (h1 : x ≤ 255) : Go.bits .and .u8 x 63 = x % 64 := u8_and63 _ h0 (by omega)
theorem and31 {x : Int} (h0 : 0 ≤ x) (h1 : x ≤ 255) : Go.bits .and .u8 x 31 = x % 32 := u8_and31 _ h0 (by omega)
theorem and15 {x : Int} (h0 : 0 ≤ x) (h1 : x ≤ 255) : Go.bits .and .u8 x 15 = x % 16 := u8_and15 _ h0 (by omega)
theorem and7 {x : Int} (h0 : 0 ≤ x) (h1 : x ≤ 255) : Go.bits .and .u8 x 7 = x % 8 := u8_and7 _ h0 (by omega)
theorem and192 {x : Int} (h0 : 0 ≤ x) (h1 : x ≤ 255) (h : Go.bits .and .u8 x 192 = 128) : 128 ≤ x := by
  have key : ∀ n : Nat, n < 256 → Go.bits .and .u8 (n : Int) 192 = 128 → 128 ≤ n := by decide +kernel
  obtain ⟨n, rfl⟩ := Int.eq_ofNat_of_zero_le h0
  have := key n (by omega) h
  omega
theorem wraps64 (n : Int) (h₀ : 0 ≤ n) (h₁ : n < 2 ^ 31) : IntKind.i64.wrap n = n := by rw [IntKind.wrap_i64]; omega
theorem or64 {x y : Int} (hx0 : 0 ≤ x) (hx : x < 33554432) (h0 : 0 ≤ y) (h1 : y < 64) : Go.bits .or .i64 (x * 64) y = x * 64 + y := by
  have e1 : (x * 64) % 64 = 0 := by omega
  have e2 : x * 64 < 2147483648 := by omega
  exact bits_join .i64 31 (by decide) wraps64 6 (x * 64) y (by omega) e1 e2 h0 h1 (by omega)
theorem at_rd {l : List Int} {i : Nat} (h : i < l.length) : rd l (i : Int) = Own.atL l i := by
  rw [rd_at h]
  unfold Own.atL
  rw [List.getD_eq_getElem?_getD, List.getElem?_append_left h, List.getElem?_eq_getElem h]
  rfl
theorem at_byte {l : List Int} (hb : Bytes l) {i : Nat} (h : i < l.length) : 0 ≤ Own.atL l i ∧ Own.atL l i ≤ 255 := by
  rw [← at_rd h, rd_at h]
  exact hb.at_ h
/-- What m bytes more make of a number. -/
def accF (l : List Int) (i : Nat) : Nat → Nat → Int → Int
  | 0, _, a => a
  | m + 1, j, a => accF l i m (j + 1) (a * 64 + Own.atL l (i + j) % 64)
theorem rune_loop (l : List Int) (hb : Bytes l) (hl : l.length ≤ 300) (i n : Nat) (x8 : Int) (hi : i + n ≤ l.length) (hn : n ≤ 4) : ∀ (m j : Nat) (a : Int), j + m = n → 0 ≤ a → a < 64 * 64 ^ j →
    HasP (fun k => spec_RuneAt.l0 k l (i : Int) (n : Int) x8 a (j : Int)) (fun r => r.1 > 0 → (∀ t, j ≤ t → t < n → 128 ≤ Own.atL l (i + t)) ∧ r = (accF l i m j a, (n : Int)))
  | 0, j, a, hj, _, _ => by
    have hjn : j = n := by omega
    subst hjn
    have z : HasP (fun _ => some ((0 : Int), (0 : Int))) (fun r => r.1 > 0 → (∀ t, j ≤ t → t < j → 128 ≤ Own.atL l (i + t)) ∧ r = (accF l i 0 j a, (j : Int))) := HasP.now (fun h => by simp at h)
    have y : HasP (fun _ => some (a, (j : Int))) (fun r => r.1 > 0 → (∀ t, j ≤ t → t < j → 128 ≤ Own.atL l (i + t)) ∧ r = (accF l i 0 j a, (j : Int))) := HasP.now (fun _ => ⟨fun t h1 h2 => by omega, rfl⟩)
    refine HasP.step (fun _ => spec_RuneAt.l0.eq_2 ..) (HasP.ite (fun h => by omega) (fun _ => HasP.ite (fun _ => z) (fun _ => HasP.ite (fun _ => z) (fun _ => HasP.ite (fun _ => HasP.ite (fun _ => z) (fun _ => y)) (fun _ => y)))))
  | m + 1, j, a, hj, h0, ha => by
    have hlt : i + j < l.length := by omega
    have hby := at_byte hb hlt
    have hp : (64 : Int) * 64 ^ j ≤ 64 * 64 ^ 3 := by
      have h3 : j ≤ 3 := by omega
      match j, h3 with
      | 0, _ => decide
      | 1, _ => decide
      | 2, _ => decide
      | 3, _ => decide
    have hp2 : (64 : Int) * 64 ^ 3 = 16777216 := by decide
    have e1 : wrap64 ((i : Int) + (j : Int)) = ((i + j : Nat) : Int) := by rw [wi (by omega) (by omega)]; omega
    have e2 : wrap64 ((j : Int) + 1) = ((j + 1 : Nat) : Int) := by rw [wi (by omega) (by omega)]; omega
    have e3 : wrap64 (a * 64) = a * 64 := wi (by omega) (by omega)
    have e4 : wrap64 (Own.atL l (i + j) % 64) = Own.atL l (i + j) % 64 := wi (by omega) (by omega)
    have hpow : (64 : Int) ^ (j + 1) = 64 ^ j * 64 := rfl
    refine HasP.step (fun _ => spec_RuneAt.l0.eq_2 ..) (HasP.pos (by omega) ?_)
    rw [e1, at_rd hlt, e2]
    refine HasP.pos (by omega) (HasP.pos (by omega) (HasP.ite (fun hc => ?_) (fun _ => HasP.now (fun h => by simp at h))))
    have h128 := and192 hby.1 hby.2 hc
    rw [and63 hby.1 hby.2, e3, e4, or64 h0 (by omega) (by omega) (by omega)]
    refine (rune_loop l hb hl i n x8 hi hn m (j + 1) _ (by omega) (by omega) (by rw [hpow]; omega)).mono (fun r hr hpos => ?_)
    obtain ⟨q1, q2⟩ := hr hpos
    refine ⟨fun t h1 h2 => ?_, q2⟩
    rcases Nat.eq_or_lt_of_le h1 with rfl | h3
    · exact h128
    · exact q1 t h3 h2
theorem rune_ev (l : List Int) (hb : Bytes l) (hl : l.length ≤ 300) (i : Nat) (hi : i ≤ l.length) : HasP (fun k => spec_RuneAt.f k l (i : Int)) (fun r => r.1 > 0 → Own.runeL l i = some r) := by
  have zero : HasP (fun _ => some ((0 : Int), (0 : Int))) (fun r => r.1 > 0 → Own.runeL l i = some r) := HasP.now (fun h => by simp at h)
  have j0t : HasP (fun k => spec_RuneAt.j0 k l (i : Int) true) (fun r => r.1 > 0 → Own.runeL l i = some r) := HasP.step (fun _ => spec_RuneAt.j0.eq_2 ..) (HasP.pos rfl zero)
  unfold spec_RuneAt.f
  refine HasP.ite (fun _ => j0t) (fun _ => ?_)
  by_cases hlt : i < l.length
  · rw [decide_eq_false (by omega)]
    have hby := at_byte hb hlt
    refine HasP.step (fun _ => spec_RuneAt.j0.eq_2 ..) (HasP.ite (fun h => by cases h) (fun _ => HasP.pos (by omega) (HasP.pos (by omega) ?_)))
    rw [at_rd hlt]
    obtain ⟨c, hc⟩ : ∃ c, c = Own.atL l i := ⟨_, rfl⟩
    rw [← hc] at hby ⊢
    have j3 : ∀ (n : Nat) (x8 a : Int), 1 ≤ n → n ≤ 4 → 0 ≤ a → a < 64 → (i + n ≤ l.length → (∀ t, 1 ≤ t → t < n → 128 ≤ Own.atL l (i + t)) → Own.runeL l i = some (accF l i (n - 1) 1 a, (n : Int))) →
        HasP (fun k => spec_RuneAt.j3 k l (i : Int) (n : Int) x8 a) (fun r => r.1 > 0 → Own.runeL l i = some r) := by
      intro n x8 a h1 h4 ha0 ha hfin
      refine HasP.step (fun _ => spec_RuneAt.j3.eq_2 ..) (HasP.ite (fun h => by omega) (fun _ => ?_))
      refine HasP.step (fun _ => spec_RuneAt.j4.eq_2 ..) (HasP.ite (fun _ => zero) (fun h => ?_))
      have e1 : wrap64 ((i : Int) + (n : Int)) = (i : Int) + n := wi (by omega) (by omega)
      rw [e1] at h
      have hin : i + n ≤ l.length := by
        have := of_decide_eq_false (Bool.eq_false_iff.2 h)
        omega
      refine (rune_loop l hb hl i n x8 hin h4 (n - 1) 1 a (by omega) ha0 (by omega)).mono (fun r hr hpos => ?_)
      obtain ⟨q1, q2⟩ := hr hpos
      rw [q2]
      exact hfin hin q1
    have j3z : HasP (fun k => spec_RuneAt.j3 k l (i : Int) 0 0 0) (fun r => r.1 > 0 → Own.runeL l i = some r) := by
      refine HasP.step (fun _ => spec_RuneAt.j3.eq_2 ..) (HasP.pos rfl ?_)
      exact HasP.step (fun _ => spec_RuneAt.j4.eq_2 ..) (HasP.pos rfl zero)
    refine HasP.ite (fun h128 => HasP.now (fun _ => ?_)) (fun h128 => ?_)
    · rw [wi (by omega) (by omega)]
      unfold Own.runeL
      rw [← hc, if_pos (by omega)]
    have big : 128 ≤ c := by omega
    have jr2 : ∀ q : Bool, (q = true → 224 ≤ c ∧ c < 240) → (q = false → ¬ (224 ≤ c ∧ c < 240)) → ¬ (192 ≤ c ∧ c < 224) → HasP (fun k => spec_RuneAt.j2 k l (i : Int) c 0 0 0 q) (fun r => r.1 > 0 → Own.runeL l i = some r) := by
      intro q hq1 hq2 hno
      refine HasP.step (fun _ => spec_RuneAt.j2.eq_2 ..) (HasP.ite (fun h => ?_) (fun h => HasP.ite (fun h240 => HasP.ite (fun h248 => ?_) (fun _ => j3z)) (fun _ => j3z)))
      · obtain ⟨g1, g2⟩ := hq1 h
        rw [and15 hby.1 hby.2, wi (by omega) (by omega)]
        refine j3 3 2048 (c % 16) (by omega) (by omega) (by omega) (by omega) (fun hin hall => ?_)
        have a1 := hall 1 (by omega) (by omega)
        have a2 := hall 2 (by omega) (by omega)
        unfold Own.runeL
        rw [← hc, if_neg (by omega), if_pos ⟨by omega, by omega⟩, if_neg (by omega), if_pos ⟨by omega, by omega⟩, if_pos (by omega)]
        simp only [accF, Nat.reduceAdd]
        congr 2
        omega
      · rw [and7 hby.1 hby.2, wi (by omega) (by omega)]
        refine j3 4 65536 (c % 8) (by omega) (by omega) (by omega) (by omega) (fun hin hall => ?_)
        have a1 := hall 1 (by omega) (by omega)
        have a2 := hall 2 (by omega) (by omega)
        have a3 := hall 3 (by omega) (by omega)
        unfold Own.runeL
        rw [← hc, if_neg (by omega), if_pos ⟨by omega, by omega⟩, if_neg (by omega), if_pos ⟨by omega, by omega⟩, if_neg (by omega), if_pos ⟨by omega, by omega⟩]
        simp only [accF, Nat.reduceAdd]
        congr 2
        omega
    have jr1 : ∀ q : Bool, (q = true → 192 ≤ c ∧ c < 224) → (q = false → ¬ (192 ≤ c ∧ c < 224)) → HasP (fun k => spec_RuneAt.j1 k l (i : Int) c 0 0 0 q) (fun r => r.1 > 0 → Own.runeL l i = some r) := by
      intro q hq1 hq2
      refine HasP.step (fun _ => spec_RuneAt.j1.eq_2 ..) (HasP.ite (fun h => ?_) (fun h => ?_))
      · obtain ⟨g1, g2⟩ := hq1 h
        rw [and31 hby.1 hby.2, wi (by omega) (by omega)]
        refine j3 2 128 (c % 32) (by omega) (by omega) (by omega) (by omega) (fun hin hall => ?_)
        have a1 := hall 1 (by omega) (by omega)
        unfold Own.runeL
        rw [← hc, if_neg (by omega), if_pos ⟨by omega, by omega⟩, if_pos (by omega)]
        simp only [accF]
        rfl
      · have hno := hq2 (Bool.eq_false_iff.2 h)
        exact HasP.ite (fun h224 => jr2 _ (fun hd => ⟨by omega, of_decide_eq_true hd⟩) (fun hd hh => of_decide_eq_false hd hh.2) hno) (fun h224 => jr2 false (fun h => by cases h) (fun _ hh => by omega) hno)
    exact HasP.ite (fun h192 => jr1 _ (fun hd => ⟨by omega, of_decide_eq_true hd⟩) (fun hd hh => of_decide_eq_false hd hh.2)) (fun h192 => jr1 false (fun h => by cases h) (fun _ hh => by omega))
  · rw [decide_eq_true (by omega)]
    exact j0t
theorem steps_ev (l : List Int) (s : List Stp) : HasP (fun k => laws_stepsOk.f k l s) (fun r => r = true → l.length ≤ 300 ∧ s.length ≤ 100) := by
  unfold laws_stepsOk.f
  refine HasP.bind (Q := fun r => r = true → l.length ≤ 300) ⟨_, few_ev [l] (by simp), fun h => by simpa using h⟩ (fun b hb => HasP.ite (fun h => HasP.now (fun h2 => ?_)) (fun _ => HasP.now (fun h => by cases h)))
  have := of_decide_eq_true h2
  exact ⟨hb h, by omega⟩
def Free (x : Stp) : Prop := x.f0 ≠ 5 ∧ x.f0 ≠ 8 ∧ x.f0 ≠ 10 ∧ x.f0 ≠ 11
theorem has_loop (s : List Stp) (hs : s.length ≤ 100) : ∀ n i : Nat, i + n = s.length → HasP (fun k => spec_HasStep.l0 k [5, 8, 10, 11] s (s.length : Int) (i : Int)) (fun r => r = false → ∀ x ∈ s.drop i, Free x)
  | 0, i, hi => by
    refine HasP.step (fun _ => spec_HasStep.l0.eq_2 ..) (HasP.ite (fun h => by omega) (fun _ => HasP.now (fun _ x hx => ?_)))
    rw [List.drop_of_length_le (by omega)] at hx
    cases hx
  | n + 1, i, hi => by
    have hlt : i < s.length := by omega
    have er : Own.rd_T44 s (i : Int) = s[i] := by unfold Own.rd_T44; simp [List.getD_eq_getElem?_getD, List.getElem?_eq_getElem hlt]
    have ih := has_loop s hs n (i + 1) (by omega)
    have e1 : wrap64 ((i : Int) + 1) = ((i + 1 : Nat) : Int) := by rw [wi (by omega) (by omega)]; omega
    have w1 : wrap64 ((0 : Int) + 1) = 1 := wi (by omega) (by omega)
    have w2 : wrap64 ((1 : Int) + 1) = 2 := wi (by omega) (by omega)
    have w3 : wrap64 ((2 : Int) + 1) = 3 := wi (by omega) (by omega)
    have w4 : wrap64 ((3 : Int) + 1) = 4 := wi (by omega) (by omega)
    have e0 : rd ([5, 8, 10, 11] : List Int) 0 = 5 := rfl
    have e1' : rd ([5, 8, 10, 11] : List Int) 1 = 8 := rfl
    have e2 : rd ([5, 8, 10, 11] : List Int) 2 = 10 := rfl
    have e3 : rd ([5, 8, 10, 11] : List Int) 3 = 11 := rfl
    have no : HasP (fun _ => some true) (fun r => r = false → ∀ x ∈ s.drop i, Free x) := HasP.now (fun h => by cases h)
    refine HasP.step (fun _ => spec_HasStep.l0.eq_2 ..) (HasP.pos (by omega) (HasP.pos (by omega) (HasP.pos (by omega) ?_)))
    rw [er]
    refine HasP.step (fun _ => spec_HasStep.l1.eq_2 ..) (HasP.pos (by simp) (HasP.pos (by omega) (HasP.pos (by simp) ?_)))
    rw [e0, w1]
    refine HasP.ite (fun _ => no) (fun n5 => ?_)
    refine HasP.step (fun _ => spec_HasStep.l1.eq_2 ..) (HasP.pos (by simp) (HasP.pos (by omega) (HasP.pos (by simp) ?_)))
    rw [e1', w2]
    refine HasP.ite (fun _ => no) (fun n8 => ?_)
    refine HasP.step (fun _ => spec_HasStep.l1.eq_2 ..) (HasP.pos (by simp) (HasP.pos (by omega) (HasP.pos (by simp) ?_)))
    rw [e2, w3]
    refine HasP.ite (fun _ => no) (fun n10 => ?_)
    refine HasP.step (fun _ => spec_HasStep.l1.eq_2 ..) (HasP.pos (by simp) (HasP.pos (by omega) (HasP.pos (by simp) ?_)))
    rw [e3, w4]
    refine HasP.ite (fun _ => no) (fun n11 => ?_)
    refine HasP.step (fun _ => spec_HasStep.l1.eq_2 ..) (HasP.ite (fun h => by simp at h) (fun _ => ?_))
    rw [e1]
    refine ih.mono (fun r hr hf x hx => ?_)
    rw [List.drop_eq_getElem_cons hlt] at hx
    rcases List.mem_cons.1 hx with rfl | hx
    · exact ⟨n5, n8, n10, n11⟩
    · exact hr hf x hx
/-- One step of the reference is one step of ours. -/
def NextP (l : List Int) (x : Stp) (p s : Nat) (r : Int × Int × Int × Int × ByteArray × Bool) : Prop :=
  r.2.2.2.2.2 = true → ∃ (p' s' : Nat) (a : Ans), Own.stepS l x p s = some (p', s', a) ∧ r = ((s' : Int), (p' : Int), a.f0, a.f1, a.f2, true)
theorem next_ev (l : List Int) (hb : Bytes l) (hl : l.length ≤ 300) (x : Stp) (hx : -9223372036854775808 ≤ x.f1 ∧ x.f1 ≤ 9223372036854775807) (hfr : Free x) (p s : Nat) (hsp : s ≤ p) (hp : p ≤ l.length) :
    HasP (fun k => spec_Next.f k l (s : Int) (p : Int) x.f0 x.f1) (NextP l x p s) := by
  obtain ⟨f0, f1⟩ := x
  obtain ⟨h5, h8, h10, h11⟩ := hfr
  simp only at hx h5 h8 h10 h11 ⊢
  have no : ∀ {a b c d : Int} {t : ByteArray}, HasP (fun _ => some (a, b, c, d, t, false)) (NextP l ⟨f0, f1⟩ p s) := fun {a b c d t} => HasP.now (fun h => by cases h)
  have yes : ∀ {a b c d : Int} {t : ByteArray} (q : Bool) (p' s' : Nat) (_ : f0 = 4 ∨ f0 = 9 → q = true → (s : Int) ≤ p + f1), (q = true → Own.stepL l ⟨f0, f1⟩ p s = some (p', s', ⟨c, d, t⟩) ∧ a = s' ∧ b = p') → HasP (fun _ => some (a, b, c, d, t, q)) (NextP l ⟨f0, f1⟩ p s) := by
    intro a b c d t q p' s' hk h
    refine HasP.now (fun hq => ?_)
    simp only at hq
    subst hq
    obtain ⟨h1, h2, h3⟩ := h rfl
    exact ⟨p', s', ⟨c, d, t⟩, by unfold Own.stepS; rw [if_pos ⟨fun hh => hk hh rfl, h5, h8, h10, h11⟩]; exact h1, by rw [h2, h3]⟩
  have sel : strOfNums ((l.take (p : Int).toNat).drop (s : Int).toNat) = Own.selT l p s := by
    unfold Own.selT
    rw [Int.toNat_natCast, Int.toNat_natCast, List.drop_take]
  have hin : ∀ (pl : Int) (ins : Bool), (ins = true → pl = (p : Int) + f1 ∧ (s : Int) ≤ pl ∧ pl ≤ l.length) → HasP (fun k => spec_Next.j0 k l pl ins (s : Int) (p : Int) f0 f1 0 0 (⟨#[]⟩ : ByteArray)) (NextP l ⟨f0, f1⟩ p s) := by
    intro pl ins hi
    refine HasP.step (fun _ => spec_Next.j0.eq_2 ..) (HasP.ite (fun h => ?_) (fun k0 => ?_))
    · subst h
      refine yes ins pl.toNat s (fun hh => by omega) (fun hq => ?_)
      obtain ⟨e, e1, e2⟩ := hi hq
      rw [Own.stepL0, if_pos ⟨by omega, by omega⟩, ← e]
      exact ⟨rfl, rfl, by omega⟩
    refine HasP.ite (fun h => ?_) (fun k1 => ?_)
    · subst h
      refine HasP.ite (fun h0 => ?_) (fun _ => no)
      have e1 : wrap64 ((p : Int) - s) = (p : Int) - s := wi (by omega) (by omega)
      rw [e1]
      refine yes _ ((s : Int) + f1).toNat s (fun hh => by omega) (fun hq => ?_)
      have hq := of_decide_eq_true hq
      rw [Own.stepL1, if_pos ⟨h0, by omega⟩, wi (by omega) (by omega)]
      exact ⟨rfl, rfl, by omega⟩
    refine HasP.ite (fun h => ?_) (fun k2 => ?_)
    · subst h
      refine HasP.pos (by omega) (HasP.pos (by omega) (HasP.pos (by omega) (yes true p p (fun hh => by omega) (fun _ => ?_))))
      rw [Own.stepL2, sel]
      exact ⟨rfl, rfl, rfl⟩
    refine HasP.ite (fun h => ?_) (fun k3 => ?_)
    · subst h
      refine yes true p p (fun hh => by omega) (fun _ => ?_)
      rw [Own.stepL3]
      exact ⟨rfl, rfl, rfl⟩
    refine HasP.ite (fun h => ?_) (fun k4 => ?_)
    · subst h
      refine HasP.ite (fun hq => ?_) (fun _ => no)
      obtain ⟨e, e1, e2⟩ := hi hq
      obtain ⟨m, rfl⟩ := Int.eq_ofNat_of_zero_le (show 0 ≤ pl by omega)
      refine HasP.ite (fun h1 => HasP.pos (by omega) (yes true p s (fun _ _ => by omega) (fun _ => ?_))) (fun h1 => yes true p s (fun _ _ => by omega) (fun _ => ?_))
      · have hby := at_byte hb (i := m) (by omega)
        rw [Own.stepL4, if_pos ⟨by omega, by omega⟩, ← e, Int.toNat_natCast, at_rd (by omega), wi (by omega) (by omega)]
        exact ⟨rfl, rfl, rfl⟩
      · have hm : m = l.length := by omega
        subst hm
        have z : Own.atL l l.length = 0 := by unfold Own.atL; simp
        rw [Own.stepL4, if_pos ⟨by omega, by omega⟩, ← e, Int.toNat_natCast, z]
        exact ⟨rfl, rfl, rfl⟩
    refine HasP.ite (fun h => absurd h h5) (fun k5 => ?_)
    refine HasP.ite (fun h => ?_) (fun k6 => ?_)
    · subst h
      refine HasP.pos (by omega) (HasP.pos (by omega) (HasP.pos (by omega) (yes true p s (fun hh => by omega) (fun _ => ?_))))
      rw [Own.stepL6, sel]
      exact ⟨rfl, rfl, rfl⟩
    refine HasP.ite (fun h => ?_) (fun k7 => ?_)
    · subst h
      refine yes true p s (fun hh => by omega) (fun _ => ?_)
      rw [Own.stepL7, wi (by omega) (by omega)]
      exact ⟨rfl, rfl, rfl⟩
    refine HasP.ite (fun h => absurd h h8) (fun k8 => ?_)
    refine HasP.ite (fun h => ?_) (fun k9 => ?_)
    · subst h
      refine HasP.ite (fun hq => ?_) (fun _ => no)
      obtain ⟨e, e1, e2⟩ := hi hq
      obtain ⟨m, rfl⟩ := Int.eq_ofNat_of_zero_le (show 0 ≤ pl by omega)
      refine HasP.bind (rune_ev l hb hl m (by omega)) (fun r hr => yes _ p s (fun _ _ => by omega) (fun hd => ?_))
      rw [Own.stepL9, if_pos ⟨by omega, by omega⟩, ← e, Int.toNat_natCast, hr (of_decide_eq_true hd)]
      exact ⟨rfl, rfl, rfl⟩
    refine HasP.ite (fun h => absurd h h10) (fun _ => ?_)
    refine HasP.ite (fun h => absurd h h11) (fun k11 => ?_)
    refine yes true p s (fun hh => by omega) (fun _ => ⟨?_, rfl, rfl⟩)
    unfold Own.stepL
    simp only
    rw [if_neg k0, if_neg k1, if_neg k2, if_neg k3, if_neg k4, if_neg k5, if_neg k6, if_neg k7, if_neg k8, if_neg k9, if_neg k11]
    rfl
  unfold spec_Next.f
  have e0 : wrap64 (-(l.length : Int)) = -(l.length : Int) := wi (by omega) (by omega)
  rw [e0]
  refine HasP.ite (fun h1 => HasP.ite (fun h2 => ?_) (fun _ => hin _ false (fun h => by cases h))) (fun _ => hin _ false (fun h => by cases h))
  rw [wi (x := (p : Int) + f1) (by omega) (by omega)]
  exact HasP.ite (fun h3 => hin _ _ (fun h => ⟨rfl, by omega, of_decide_eq_true h⟩)) (fun _ => hin _ false (fun h => by cases h))
theorem answers_loop (l : List Int) (hb : Bytes l) (hl : l.length ≤ 300) (st : List Stp) (hs : st.length ≤ 100) (hw : ∀ x ∈ st, -9223372036854775808 ≤ x.f1 ∧ x.f1 ≤ 9223372036854775807) (h10 : ∀ x ∈ st, Free x) : ∀ (n i : Nat) (out : List Ans) (p s : Nat), i + n = st.length → out.length = i → s ≤ p → p ≤ l.length →
    HasP (fun k => spec_Answers.l0 k l out st (st.length : Int) (i : Int) (s : Int) (p : Int)) (fun r => r.2 = true → ∃ rest, Own.runS l (st.drop i) p s = some rest ∧ r.1 = out ++ rest ∧ r.1.length = st.length)
  | 0, i, out, p, s, hi, ho, _, _ => by
    refine HasP.step (fun _ => spec_Answers.l0.eq_2 ..) (HasP.ite (fun h => by omega) (fun _ => HasP.now (fun _ => ⟨[], ?_, by simp, by show out.length = _; omega⟩)))
    rw [List.drop_of_length_le (by omega)]
    rfl
  | n + 1, i, out, p, s, hi, ho, hsp, hp => by
    have hlt : i < st.length := by omega
    have er : Own.rd_T44 st (i : Int) = st[i] := by unfold Own.rd_T44; simp [List.getD_eq_getElem?_getD, List.getElem?_eq_getElem hlt]
    have e1 : wrap64 ((i : Int) + 1) = ((i + 1 : Nat) : Int) := by rw [wi (by omega) (by omega)]; omega
    refine HasP.step (fun _ => spec_Answers.l0.eq_2 ..) (HasP.pos (by omega) (HasP.pos (by omega) (HasP.pos (by omega) ?_)))
    rw [er, e1]
    refine HasP.bind (next_ev l hb hl st[i] (hw _ (List.getElem_mem hlt)) (h10 _ (List.getElem_mem hlt)) p s hsp hp) (fun r hr => HasP.ite (fun hq => ?_) (fun _ => HasP.now (fun h => by cases h)))
    obtain ⟨p', s', a, h1, rfl⟩ := hr hq
    have h1L : Own.stepL l st[i] p s = some (p', s', a) := by
      unfold Own.stepS at h1
      split at h1
      · exact h1
      · cases h1
    obtain ⟨i1, i2⟩ := Own.stepL_in h1L hsp hp
    refine HasP.pos (by omega) ?_
    refine (answers_loop l hb hl st hs hw h10 n (i + 1) (out ++ [a]) p' s' (by omega) (by simp; omega) i1 i2).mono (fun r hr h => ?_)
    obtain ⟨rest, g1, g2, g3⟩ := hr h
    refine ⟨a :: rest, ?_, by rw [g2]; simp, g3⟩
    rw [List.drop_eq_getElem_cons hlt]
    unfold Own.runS
    rw [h1, Option.bind_some, g1]
    rfl
theorem same_loop (xs : List Ans) (hl : xs.length ≤ 100) : ∀ n i : Nat, i + n = xs.length → HasP (fun k => laws_sameAnswers.l0 k xs xs (xs.length : Int) (i : Int)) (fun r => r = true)
  | 0, i, hi => HasP.step (fun _ => laws_sameAnswers.l0.eq_2 ..) (HasP.ite (fun h => by omega) (fun _ => HasP.now rfl))
  | n + 1, i, hi => by
    have e1 : wrap64 ((i : Int) + 1) = ((i + 1 : Nat) : Int) := by rw [wi (by omega) (by omega)]; omega
    refine HasP.step (fun _ => laws_sameAnswers.l0.eq_2 ..) (HasP.pos (by omega) (HasP.pos (by omega) (HasP.pos (by omega) (HasP.pos (by omega) ?_))))
    rw [e1]
    refine HasP.ite (fun h => ?_) (fun _ => same_loop xs hl n (i + 1) (by omega))
    simp at h
theorem FnInputStream (l : List Int) (h1 : l.length ≤ maxLen) (h2 : ∀ x ∈ l, (Lit.int .u8 x).wf = true) (a1 : Int) (w1 : (Lit.int .i64 a1).wf = true) (a2 : Int) (w2 : (Lit.int .i64 a2).wf = true) (st : List Stp) (h3 : st.length ≤ maxLen) (h4 : ∀ x ∈ st, (Lit.int .i64 x.f0).wf = true ∧ (Lit.int .i64 x.f1).wf = true) : ∃ k, laws_FnInputStream.f k l a1 a2 st = some true := by
  refine Ev.rounds (HasP.ev ?_)
  have hb := bytes_of h2
  have hw : ∀ x ∈ st, -9223372036854775808 ≤ x.f1 ∧ x.f1 ≤ 9223372036854775807 := fun x hx => by
    have := (h4 x hx).2
    simp [Lit.wf, IntKind.min, IntKind.max, IntKind.signed, IntKind.bits] at this
    omega
  have j1t : HasP (fun k => laws_FnInputStream.j1 k l a1 a2 st true) (fun r => r = true) := HasP.step (fun _ => laws_FnInputStream.j1.eq_2 ..) (HasP.pos rfl (HasP.now rfl))
  have j0t : HasP (fun k => laws_FnInputStream.j0 k l a1 a2 st true) (fun r => r = true) := HasP.step (fun _ => laws_FnInputStream.j0.eq_2 ..) (HasP.pos rfl (HasP.now rfl))
  have main : ∀ q : Bool, HasP (fun k => laws_FnInputStream.j0 k l a1 a2 st q) (fun r => r = true) := by
    intro q
    refine HasP.step (fun _ => laws_FnInputStream.j0.eq_2 ..) (HasP.ite (fun _ => HasP.now rfl) (fun _ => ?_))
    refine HasP.bind (steps_ev l st) (fun a ha => HasP.ite (fun hat => HasP.ite (fun _ => j1t) (fun p1 => HasP.ite (fun _ => j1t) (fun p2 => HasP.ite (fun _ => j1t) (fun s1 => ?_)))) (fun _ => j1t))
    obtain ⟨hl, hs⟩ := ha hat
    refine HasP.step (fun _ => laws_FnInputStream.j1.eq_2 ..) (HasP.ite (fun _ => HasP.now rfl) (fun s2 => ?_))
    have s3 : a2 ≤ 300 := by
      have := of_decide_eq_false (Bool.eq_false_iff.2 s2)
      omega
    have hhas := has_loop st hs st.length 0 (by omega)
    unfold spec_HasStep.f
    refine HasP.bind hhas (fun b hb10 => HasP.ite (fun _ => HasP.now rfl) (fun hbf => ?_))
    have h10 : ∀ x ∈ st, Free x := hb10 (by simpa using hbf)
    have hans := answers_loop l hb hl st hs hw h10 st.length 0 [] 0 0 (by omega) rfl (Nat.le_refl _) (Nat.zero_le _)
    unfold spec_Answers.f
    refine HasP.bind hans (fun r hr => HasP.ite (fun hq => ?_) (fun _ => HasP.now rfl))
    obtain ⟨rest, g1, g2, g3⟩ := hr hq
    obtain ⟨due, ok⟩ := r
    simp only [List.nil_append, List.drop_zero] at g1 g2 g3 ⊢
    subst g2
    have hall : (l.all fun x => decide (0 ≤ x ∧ x ≤ 255)) = true := List.all_eq_true.2 (fun x hx => decide_eq_true (hb x hx))
    have hrun : Own.impl_RunStream.f l a1 a2 st = some due := by
      unfold Own.impl_RunStream.f
      rw [if_pos ⟨hl, by omega, hall, ⟨by omega, by omega⟩, ⟨by omega, s3⟩⟩]
      exact g1
    refine HasP.get hrun ?_
    unfold laws_sameAnswers.f
    exact HasP.bind (HasP.pos rfl (same_loop due (by omega) due.length 0 (by omega))) (fun y hy => HasP.now hy)
  unfold laws_FnInputStream.f
  exact HasP.ite (fun _ => j0t) (fun _ => main _)

end Go.Proofs.YtgpmmmlmaaiobaaDoor.Pure
