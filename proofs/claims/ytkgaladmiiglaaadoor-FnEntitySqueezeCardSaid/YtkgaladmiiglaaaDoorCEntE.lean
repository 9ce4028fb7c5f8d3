/- Squeezing and entities at once: what comes out, by places. -/
import Derived.Test.YtkgaladmiiglaaaDoorCEntD
import Derived.Test.YtkgaladmiiglaaaDoorCSqueeze
namespace Go.Proofs.YtkgaladmiiglaaaDoor.Own
open Go.RowKit Go.Proofs.YtkgaladmiiglaaaDoorW.PrintWords Go.Proofs.YtkgaladmiiglaaaDoorW.PrintLast
set_option linter.unusedVariables false
set_option linter.unusedSimpArgs false
/-- The first thing is no white space. -/
def Head : List Tk → Prop
  | [] => True
  | .ch c :: _ => wsQ c = false
  | .ent _ :: _ => True
/-- A value without white space, not empty. -/
def ValOk (e : En) : Prop := 1 ≤ e.vl.size ∧ ∀ c ∈ numsOf e.vl, wsQ c = false
theorem sqz_app : ∀ {a b : List Int}, (∀ c ∈ a, wsQ c = false) → sqz (a ++ b) = a ++ sqz b
  | [], b, _ => rfl
  | c :: t, b, h => by
    rw [List.cons_append, sqz_plain (h c (by simp)), sqz_app (fun x hx => h x (List.mem_cons_of_mem _ hx))]
    rfl
theorem du_head {R : List Tk} (hh : Head R) (hv : ∀ t ∈ R, ∀ e, t = .ent e → ValOk e) : ∀ c t, duT R = c :: t → wsQ c = false := by
  intro c t h
  cases R with
  | nil => cases h
  | cons tk R =>
    cases tk with
    | ch d =>
      simp only [duT, List.flatMap_cons, Tk.du, List.cons_append, List.nil_append, List.cons.injEq] at h
      rw [← h.1]
      exact hh
    | ent e =>
      have hve := hv (.ent e) (by simp) e rfl
      have hl : (numsOf e.vl).length = e.vl.size := numsOf_length _
      simp only [duT, List.flatMap_cons, Tk.du] at h
      cases hn : numsOf e.vl with
      | nil => rw [hn] at hl; have := hve.1; simp at hl; omega
      | cons d r =>
        rw [hn, List.cons_append, List.cons.injEq] at h
        rw [← h.1]
        exact hve.2 d (by rw [hn]; simp)
/-- A run of white space ahead of something that does not begin so. -/
theorem sqz_ws {run rest : List Int} (hr : run ≠ []) (hw : ∀ c ∈ run, wsQ c = true) (hh : ∀ c t, rest = c :: t → wsQ c = false) : sqz (run ++ rest) = markQ run :: sqz rest := by
  cases run with
  | nil => exact absurd rfl hr
  | cons c t =>
    have h1 : (t ++ rest).takeWhile wsQ = t ∧ (t ++ rest).dropWhile wsQ = rest := by
      have hw' : ∀ x ∈ t, wsQ x = true := fun x hx => hw x (List.mem_cons_of_mem _ hx)
      clear hw hr
      induction t with
      | nil =>
        cases rest with
        | nil => simp
        | cons d r => simp [List.takeWhile_cons, List.dropWhile_cons, hh d r rfl]
      | cons x t ih =>
        obtain ⟨i1, i2⟩ := ih (fun y hy => hw' y (List.mem_cons_of_mem _ hy))
        simp [List.takeWhile_cons, List.dropWhile_cons, hw' x (by simp), i1, i2]
    rw [List.cons_append, sqz, if_pos (hw c (by simp)), h1.1, h1.2]
structure InvE (G cur : List Int) (j k i : Nat) (R : List Tk) : Prop where
  z : j = 0 → k = 0
  jk : 0 < j → j < k
  ki : k ≤ i
  kn : k ≤ cur.length
  i1 : i ≤ cur.length + 1
  rest : cur.drop i = txT R
  out : outQ cur j k i ++ sqz (duT R) = G
section
variable {G cur : List Int} {j k i : Nat} {R : List Tk}
theorem InvE.lt (h : InvE G cur j k i R) (hR : R ≠ []) : i < cur.length := by
  have := congrArg List.length h.rest
  rw [List.length_drop] at this
  cases R with
  | nil => exact absurd rfl hR
  | cons t R =>
    have : 0 < (txT (t :: R)).length := by cases t <;> simp [txT, Tk.tx]
    omega
theorem InvE.len (h : InvE G cur j k i R) : cur.length - i = (txT R).length := by rw [← h.rest, List.length_drop]
theorem InvE.nil (h : InvE G cur j k i R) (hi : cur.length ≤ i) : R = [] := by
  cases R with
  | nil => rfl
  | cons t R => have := h.lt (by simp); omega
/-- A byte that is no white space. -/
theorem InvE.plain {c : Int} (h : InvE G cur j k i (.ch c :: R)) (hc : wsQ c = false) : InvE G cur j k (i + 1) R := by
  have hlt := h.lt (by simp)
  have h7 := h.rest
  rw [List.drop_eq_getElem_cons hlt] at h7
  simp only [txT, List.flatMap_cons, Tk.tx, List.cons_append, List.nil_append, List.cons.injEq] at h7
  refine ⟨h.z, h.jk, by have := h.ki; omega, h.kn, by omega, h7.2, ?_⟩
  rw [out_snoc hlt h.ki, ← h.out, List.append_assoc]
  congr 1
  simp only [duT, List.flatMap_cons, Tk.du, List.cons_append, List.nil_append]
  rw [sqz_plain hc, h7.1]
  try rfl
/-- The end. -/
theorem InvE.past (h : InvE G cur j k i []) (hi : i = cur.length) : InvE G cur j k (i + 1) [] := by
  refine ⟨h.z, h.jk, by have := h.ki; omega, h.kn, by omega, by rw [List.drop_of_length_le (by omega)]; rfl, ?_⟩
  rw [← h.out]
  congr 1
  unfold outQ
  rw [List.take_of_length_le (show cur.length ≤ i + 1 by omega), List.take_of_length_le (show cur.length ≤ i by omega)]
theorem out_take {cur cur' : List Int} {j k i : Nat} (h : cur'.take i = cur.take i) (hj : j ≤ i) : outQ cur' j k i = outQ cur j k i := by
  unfold outQ
  rw [h]
  have : cur'.take j = cur.take j := by
    have := congrArg (List.take j) h
    rwa [List.take_take, List.take_take, Nat.min_eq_left hj] at this
  rw [this]
/-- An entity: its value has come in its place. -/
theorem InvE.entity {e : En} {cur' : List Int} (h : InvE G cur j k i (.ent e :: R)) (hv : ValOk e) (hc : cur' = cur.take i ++ (numsOf e.vl ++ txT R)) : InvE G cur' j k (i + e.vl.size) R := by
  have hlt := h.lt (by simp)
  have hl : (cur.take i).length = i := by rw [List.length_take]; omega
  have hvl : (numsOf e.vl).length = e.vl.size := numsOf_length _
  have ht1 : cur'.take i = cur.take i := by rw [hc, List.take_left' hl]
  have ht2 : cur'.take (i + e.vl.size) = cur.take i ++ numsOf e.vl := by rw [hc, ← List.append_assoc, List.take_left' (by rw [List.length_append, hl, hvl])]
  have hji : j ≤ i := by
    by_cases hj : j = 0
    · omega
    · have := h.jk (by omega); have := h.ki; omega
  have hcl : i + e.vl.size ≤ cur'.length := by rw [hc, List.length_append, List.length_append, hl, hvl]; omega
  refine ⟨h.z, h.jk, by have := h.ki; omega, by have := h.ki; omega, by omega, ?_, ?_⟩
  · rw [hc, ← List.append_assoc, List.drop_left' (by rw [List.length_append, hl, hvl])]
  · rw [← h.out]
    simp only [duT, List.flatMap_cons, Tk.du]
    rw [sqz_app hv.2, ← List.append_assoc]
    congr 1
    have e1 : outQ cur' j k (i + e.vl.size) = outQ cur' j k i ++ numsOf e.vl := by
      unfold outQ
      rw [ht2, ht1]
      by_cases hj : j = 0
      · rw [if_pos hj, if_pos hj]
      · rw [if_neg hj, if_neg hj, List.drop_append_of_le_length (by rw [hl]; exact h.ki), List.append_assoc]
    rw [e1, out_take ht1 hji]
/-- A run of white space, its mark in its first place. -/
theorem InvE.run {run : List Int} {s e : Nat} (h : InvE G cur j k s (run.map Tk.ch ++ R)) (hr : run ≠ []) (hw : ∀ c ∈ run, wsQ c = true) (hh : Head R) (hv : ∀ t ∈ R, ∀ e, t = .ent e → ValOk e) (he : e = s + run.length) :
    outQ (cur.set s (markQ run)) j k (s + 1) ++ sqz (duT R) = G ∧ (cur.set s (markQ run)).drop e = txT R ∧ e ≤ cur.length ∧ s < e := by
  have hpos : 0 < run.length := by cases run with | nil => exact absurd rfl hr | cons _ _ => simp
  have hlt : s < cur.length := h.lt (by cases run with | nil => exact absurd rfl hr | cons _ _ => simp)
  have htx : txT (run.map Tk.ch ++ R) = run ++ txT R := by
    unfold txT
    rw [List.flatMap_append, List.flatMap_map]
    congr 1
    induction run with
    | nil => rfl
    | cons a t ih => simp [Tk.tx]
  have hdu : duT (run.map Tk.ch ++ R) = run ++ duT R := by
    unfold duT
    rw [List.flatMap_append, List.flatMap_map]
    congr 1
    induction run with
    | nil => rfl
    | cons a t ih => simp [Tk.du]
  have h7 := h.rest
  rw [htx] at h7
  have hl := congrArg List.length h7
  rw [List.length_drop, List.length_append] at hl
  have hjs : 0 < j → j ≤ s := fun hj => by have := h.jk hj; have := h.ki; omega
  refine ⟨?_, ?_, by omega, by omega⟩
  · rw [out_set hlt hjs h.ki, ← h.out, hdu, sqz_ws hr hw (du_head hh hv), List.append_assoc]
    rfl
  · rw [drop_set' (by omega)]
    have := congrArg (List.drop run.length) h7
    rw [List.drop_drop, List.drop_left' rfl, ← he] at this
    exact this
theorem InvE.run1 {run : List Int} {s : Nat} (h : InvE G cur j k s (run.map Tk.ch ++ R)) (hr : run.length = 1) (hw : ∀ c ∈ run, wsQ c = true) (hh : Head R) (hv : ∀ t ∈ R, ∀ e, t = .ent e → ValOk e) : InvE G (cur.set s (markQ run)) j k (s + 1) R := by
  obtain ⟨q1, q2, q3, q4⟩ := h.run (e := s + 1) (by intro e; rw [e] at hr; cases hr) hw hh hv (by omega)
  exact ⟨h.z, h.jk, by have := h.ki; omega, by rw [List.length_set]; exact h.kn, by rw [List.length_set]; omega, q2, q1⟩
theorem InvE.first {run : List Int} {s e : Nat} (h : InvE G cur 0 0 s (run.map Tk.ch ++ R)) (hr : 1 < run.length) (hw : ∀ c ∈ run, wsQ c = true) (hh : Head R) (hv : ∀ t ∈ R, ∀ e, t = .ent e → ValOk e) (he : e = s + run.length) : InvE G (cur.set s (markQ run)) (s + 1) e e R := by
  obtain ⟨q1, q2, q3, q4⟩ := h.run (e := e) (by intro e; rw [e] at hr; simp at hr) hw hh hv he
  refine ⟨fun h => by omega, fun _ => by omega, Nat.le_refl _, by rw [List.length_set]; exact q3, by rw [List.length_set]; omega, q2, ?_⟩
  rw [← q1]
  congr 1
  unfold outQ
  have e5 : ((cur.set s (markQ run)).take e).drop e = [] := List.drop_of_length_le (by rw [List.length_take]; exact Nat.min_le_left _ _)
  rw [if_neg (by omega), if_pos rfl, e5, List.append_nil]
theorem InvE.copy {run c2 : List Int} {s e : Nat} (h : InvE G cur j k s (run.map Tk.ch ++ R)) (hj : 0 < j) (hr : 1 < run.length) (hw : ∀ c ∈ run, wsQ c = true) (hh : Head R) (hv : ∀ t ∈ R, ∀ e, t = .ent e → ValOk e) (he : e = s + run.length)
    (hc : c2 = (cur.set s (markQ run)).take j ++ (((cur.set s (markQ run)).take (s + 1)).drop k ++ (cur.set s (markQ run)).drop (j + (s + 1 - k)))) : InvE G c2 (j + (s + 1 - k)) e e R := by
  obtain ⟨q1, q2, q3, q4⟩ := h.run (e := e) (by intro e; rw [e] at hr; simp at hr) hw hh hv he
  have hjk := h.jk hj
  have hks := h.ki
  obtain ⟨d, hd⟩ : ∃ d, d = cur.set s (markQ run) := ⟨_, rfl⟩
  rw [← hd] at hc q1 q2
  have hdl : d.length = cur.length := by rw [hd]; simp
  have hml : ((d.take (s + 1)).drop k).length = s + 1 - k := by simp; omega
  have hpl : (d.take j ++ (d.take (s + 1)).drop k).length = j + (s + 1 - k) := by rw [List.length_append, hml, List.length_take]; omega
  have hcl : c2.length = cur.length := by rw [hc, List.length_append, List.length_append, hml, List.length_take, List.length_drop]; omega
  have hct : c2.take (j + (s + 1 - k)) = d.take j ++ (d.take (s + 1)).drop k := by rw [hc, ← List.append_assoc, List.take_left' hpl]
  have hcd : c2.drop e = d.drop e := by
    rw [hc, ← List.append_assoc, List.drop_append, List.drop_of_length_le (by omega), hpl, List.nil_append, List.drop_drop]
    congr 1
    omega
  refine ⟨fun h => by omega, fun _ => by omega, Nat.le_refl _, by omega, by omega, by rw [hcd]; exact q2, ?_⟩
  rw [← q1]
  congr 1
  unfold outQ
  have e5 : (c2.take e).drop e = [] := List.drop_of_length_le (by rw [List.length_take]; exact Nat.min_le_left _ _)
  rw [if_neg (by omega), if_neg (by omega), hct, e5, List.append_nil]
theorem InvE.fin (h : InvE G cur j k i R) (hi : cur.length ≤ i) : G = if j = 0 then cur else cur.take j ++ cur.drop k := by
  have hR := h.nil hi
  have h8 := h.out
  rw [hR] at h8
  have e1 : sqz (duT []) = [] := by unfold duT; rw [List.flatMap_nil, sqz]
  rw [e1, List.append_nil] at h8
  rw [← h8]
  unfold outQ
  rw [List.take_of_length_le hi]
end
end Go.Proofs.YtkgaladmiiglaaaDoor.Own
