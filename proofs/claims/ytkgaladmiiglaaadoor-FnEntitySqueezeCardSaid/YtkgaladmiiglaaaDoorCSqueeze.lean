/- The contracts of the functions ReplaceMultipleWhitespace (it works in the slice that it is given) and Squeeze (in new memory): a series of white space becomes a single blank, or a newline if there is the end of a line in it. -/
import Derived.Test.YtkgaladmiiglaaaDoorCown
import Derived.Test.YtkgaladmiiglaaaDoorOwn
import Derived.Test.YtkgaladmiiglaaaDoorCTab
import Derived.Laws.IdiomCopy
import Derived.Outline
namespace Go.Proofs.YtkgaladmiiglaaaDoor.Own
open Go.RowKit Go.Proofs.YtkgaladmiiglaaaDoorW.PrintWords Go.Proofs.YtkgaladmiiglaaaDoorW.PrintLast
set_option linter.unusedVariables false
set_option linter.unusedSimpArgs false
def wsQ (c : Int) : Bool := isW c.toNat
def nlQ (c : Int) : Bool := isN c.toNat
def markQ (l : List Int) : Int := if l.any nlQ = true then 10 else 32
def sqz : List Int → List Int
  | [] => []
  | c :: t => if wsQ c = true then markQ (c :: t.takeWhile wsQ) :: sqz (t.dropWhile wsQ) else c :: sqz t
termination_by l => l.length
decreasing_by
  · have : (t.dropWhile wsQ).length ≤ t.length := (List.dropWhile_sublist _).length_le
    simp; omega
  · simp
theorem sqz_plain {c : Int} {t : List Int} (h : wsQ c = false) : sqz (c :: t) = c :: sqz t := by rw [sqz, if_neg (by rw [h]; simp)]
/-- A run from s to e (both places of l). -/
def Run (l : List Int) (s e : Nat) : Prop := s < e ∧ e ≤ l.length ∧ (∀ q (h : q < l.length), s ≤ q → q < e → wsQ l[q] = true)
def EndRun (l : List Int) (e : Nat) : Prop := ∀ h : e < l.length, wsQ l[e] = false
theorem take_run {l : List Int} : ∀ {m : Nat}, m ≤ l.length → (∀ q (h : q < l.length), q < m → wsQ l[q] = true) → (∀ h : m < l.length, wsQ l[m] = false) → l.takeWhile wsQ = l.take m ∧ l.dropWhile wsQ = l.drop m := by
  induction l with
  | nil => intro m h _ _; simp
  | cons c t ih =>
    intro m hm h1 h2
    cases m with
    | zero =>
      have := h2 (by simp)
      simp at this
      simp [List.takeWhile_cons, List.dropWhile_cons, this]
    | succ m =>
      have hc := h1 0 (by simp) (by omega)
      simp at hc
      obtain ⟨a, b⟩ := ih (m := m) (by simpa using hm) (fun q h hq => by have := h1 (q + 1) (by simpa using h) (by omega); simpa using this) (fun h => by have := h2 (by simpa using h); simpa using this)
      simp [List.takeWhile_cons, List.dropWhile_cons, hc, a, b]
theorem sqz_run {l : List Int} {s e : Nat} (hr : Run l s e) (he : EndRun l e) : sqz (l.drop s) = markQ ((l.take e).drop s) :: sqz (l.drop e) := by
  obtain ⟨h1, h2, h3⟩ := hr
  have hs : s < l.length := by omega
  have hcons : l.drop s = l[s] :: l.drop (s + 1) := List.drop_eq_getElem_cons hs
  have hw := h3 s hs (Nat.le_refl _) h1
  obtain ⟨a, b⟩ := take_run (l := l.drop (s + 1)) (m := e - s - 1) (by simp; omega)
    (fun q h hq => by
      simp only [List.length_drop] at h
      rw [List.getElem_drop]
      exact h3 (s + 1 + q) (by omega) (by omega) (by omega))
    (fun h => by
      simp only [List.length_drop] at h
      rw [List.getElem_drop]
      have := he (by omega)
      have e1 : s + 1 + (e - s - 1) = e := by omega
      simpa [e1] using this)
  have e2 : (l.take e).drop s = l[s] :: (l.drop (s + 1)).take (e - s - 1) := by
    rw [List.drop_take, hcons, show e - s = (e - s - 1) + 1 by omega, List.take_succ_cons]
    simp
  have e3 : (l.drop (s + 1)).drop (e - s - 1) = l.drop e := by rw [List.drop_drop]; congr 1; omega
  rw [hcons, sqz, if_pos hw, a, b, e2, e3]
/-- What has come out so far. -/
def outQ (cur : List Int) (j k i : Nat) : List Int := if j = 0 then cur.take i else cur.take j ++ (cur.take i).drop k
def Inv (l cur : List Int) (j k i : Nat) : Prop :=
  cur.length = l.length ∧ (j = 0 → k = 0) ∧ (0 < j → j < k) ∧ k ≤ i ∧ k ≤ l.length ∧ i ≤ l.length + 1 ∧ cur.drop i = l.drop i ∧ outQ cur j k i ++ sqz (l.drop i) = sqz l
theorem out_snoc {cur : List Int} {j k i : Nat} (h : i < cur.length) (hk : k ≤ i) : outQ cur j k (i + 1) = outQ cur j k i ++ [cur[i]] := by
  unfold outQ
  have e : cur.take (i + 1) = cur.take i ++ [cur[i]] := List.take_succ_eq_append_getElem h
  by_cases hj : j = 0
  · rw [if_pos hj, if_pos hj, e]
  · rw [if_neg hj, if_neg hj, e, List.drop_append_of_le_length (by simp; omega), List.append_assoc]
theorem cur_at {l cur : List Int} {i : Nat} (hl : cur.length = l.length) (h : cur.drop i = l.drop i) (hi : i < l.length) : cur[i]'(by omega) = l[i] := by
  have h1 := List.drop_eq_getElem_cons (l := cur) (i := i) (by omega)
  have h2 := List.drop_eq_getElem_cons hi
  rw [h1, h2] at h
  injection h
theorem inv_start (l : List Int) : Inv l l 0 0 0 := ⟨rfl, fun _ => rfl, fun h => by omega, Nat.le_refl _, Nat.zero_le _, by omega, rfl, by simp [outQ]⟩
theorem inv_plain {l cur : List Int} {j k i : Nat} (h : Inv l cur j k i) (hi : i < l.length) (hc : wsQ l[i] = false) : Inv l cur j k (i + 1) := by
  obtain ⟨h1, h2, h3, h4, h5, h6, h7, h8⟩ := h
  refine ⟨h1, h2, h3, by omega, h5, by omega, ?_, ?_⟩
  · have := congrArg (List.drop 1) h7
    simpa [List.drop_drop, Nat.add_comm] using this
  · rw [out_snoc (by omega) h4, cur_at h1 h7 hi, ← h8, List.drop_eq_getElem_cons hi, sqz_plain hc, List.append_assoc]
    rfl
theorem inv_skip {l cur : List Int} {j k e : Nat} (h1 : cur.length = l.length) (h2 : j = 0 → k = 0) (h3 : 0 < j → j < k) (h4 : k ≤ e) (h6 : e ≤ l.length) (h7 : cur.drop e = l.drop e) (h8 : outQ cur j k e ++ sqz (l.drop e) = sqz l) (he : EndRun l e) : Inv l cur j k (e + 1) := by
  by_cases hlt : e < l.length
  · exact inv_plain ⟨h1, h2, h3, h4, by omega, by omega, h7, h8⟩ hlt (he hlt)
  · have e1 : e = l.length := by omega
    refine ⟨h1, h2, h3, by omega, by omega, by omega, by rw [List.drop_of_length_le (by omega), List.drop_of_length_le (by omega)], ?_⟩
    rw [← h8]
    have e2 : outQ cur j k (e + 1) = outQ cur j k e := by
      have e3 : cur.take (e + 1) = cur := List.take_of_length_le (by omega)
      have e4 : cur.take e = cur := List.take_of_length_le (by omega)
      unfold outQ
      rw [e3, e4]
    rw [e2, List.drop_of_length_le (by omega), List.drop_of_length_le (by omega)]
theorem out_set {cur : List Int} {j k s : Nat} {x : Int} (hs : s < cur.length) (hj : 0 < j → j ≤ s) (hk : k ≤ s) : outQ (cur.set s x) j k (s + 1) = outQ cur j k s ++ [x] := by
  rw [out_snoc (by simpa using hs) hk]
  simp only [List.getElem_set_self]
  unfold outQ
  by_cases h0 : j = 0
  · rw [if_pos h0, if_pos h0, List.take_set_of_le (Nat.le_refl _)]
  · rw [if_neg h0, if_neg h0, List.take_set_of_le (hj (by omega)), List.take_set_of_le (Nat.le_refl _)]
theorem drop_set' {cur : List Int} {s e : Nat} {x : Int} (h : s < e) : (cur.set s x).drop e = cur.drop e := by
  rw [List.drop_set, if_pos h]
theorem inv_run {l cur : List Int} {j k s e : Nat} (h : Inv l cur j k s) (hr : Run l s e) (he : EndRun l e) : outQ (cur.set s (markQ ((l.take e).drop s))) j k (s + 1) ++ sqz (l.drop e) = sqz l ∧ (cur.set s (markQ ((l.take e).drop s))).drop e = l.drop e := by
  obtain ⟨h1, h2, h3, h4, h5, h6, h7, h8⟩ := h
  obtain ⟨r1, r2, r3⟩ := hr
  constructor
  · rw [out_set (by omega) (fun hj => by have := h3 hj; omega) h4, ← h8, sqz_run ⟨r1, r2, r3⟩ he, List.append_assoc]
    rfl
  · rw [drop_set' r1]
    have := congrArg (List.drop (e - s)) h7
    simpa [List.drop_drop, show s + (e - s) = e by omega] using this
theorem inv_run1 {l cur : List Int} {j k s : Nat} (h : Inv l cur j k s) (hr : Run l s (s + 1)) (he : EndRun l (s + 1)) : Inv l (cur.set s (markQ ((l.take (s + 1)).drop s))) j k (s + 1 + 1) := by
  obtain ⟨q1, q2⟩ := inv_run h hr he
  obtain ⟨h1, h2, h3, h4, h5, h6, h7, h8⟩ := h
  exact inv_skip (by simpa using h1) h2 h3 (by omega) hr.2.1 q2 q1 he
theorem inv_first {l cur : List Int} {s e : Nat} (h : Inv l cur 0 0 s) (hr : Run l s e) (he : EndRun l e) (h1e : s + 1 < e) : Inv l (cur.set s (markQ ((l.take e).drop s))) (s + 1) e (e + 1) := by
  obtain ⟨q1, q2⟩ := inv_run h hr he
  obtain ⟨h1, h2, h3, h4, h5, h6, h7, h8⟩ := h
  refine inv_skip (by simpa using h1) (fun h => by omega) (fun _ => h1e) (Nat.le_refl _) hr.2.1 q2 ?_ he
  rw [← q1]
  congr 1
  unfold outQ
  have e5 : ((cur.set s (markQ ((l.take e).drop s))).take e).drop e = [] := List.drop_of_length_le (by rw [List.length_take]; exact Nat.min_le_left _ _)
  rw [if_neg (by omega), if_pos rfl, e5, List.append_nil]
theorem inv_copy {l cur c2 : List Int} {j k s e : Nat} (h : Inv l cur j k s) (hj : 0 < j) (hr : Run l s e) (he : EndRun l e) (h1e : s + 1 < e)
    (hc : c2 = (cur.set s (markQ ((l.take e).drop s))).take j ++ (((cur.set s (markQ ((l.take e).drop s))).take (s + 1)).drop k ++ (cur.set s (markQ ((l.take e).drop s))).drop (j + (s + 1 - k)))) :
    Inv l c2 (j + (s + 1 - k)) e (e + 1) := by
  obtain ⟨q1, q2⟩ := inv_run h hr he
  obtain ⟨h1, h2, h3, h4, h5, h6, h7, h8⟩ := h
  have hjk := h3 hj
  have hse := hr.1
  have hel := hr.2.1
  obtain ⟨d, hd⟩ : ∃ d, d = cur.set s (markQ ((l.take e).drop s)) := ⟨_, rfl⟩
  rw [← hd] at hc q1 q2
  have hdl : d.length = l.length := by rw [hd]; simpa using h1
  have hml : ((d.take (s + 1)).drop k).length = s + 1 - k := by simp; omega
  have hpl : (d.take j ++ (d.take (s + 1)).drop k).length = j + (s + 1 - k) := by rw [List.length_append, hml, List.length_take]; omega
  have hcl : c2.length = l.length := by rw [hc, List.length_append, List.length_append, hml, List.length_take, List.length_drop]; omega
  have hct : c2.take (j + (s + 1 - k)) = d.take j ++ (d.take (s + 1)).drop k := by
    rw [hc, ← List.append_assoc, List.take_left' hpl]
  have hcd : c2.drop e = d.drop e := by
    rw [hc, ← List.append_assoc, List.drop_append, List.drop_of_length_le (by omega), hpl, List.nil_append, List.drop_drop]
    congr 1
    omega
  refine inv_skip hcl (fun h => by omega) (fun _ => by omega) (Nat.le_refl _) hr.2.1 (by rw [hcd]; exact q2) ?_ he
  rw [← q1]
  congr 1
  unfold outQ
  have e5 : (c2.take e).drop e = [] := List.drop_of_length_le (by rw [List.length_take]; exact Nat.min_le_left _ _)
  rw [if_neg (by omega), if_neg (by omega), hct, e5, List.append_nil]
theorem inv_end {l cur : List Int} {j k i : Nat} (h : Inv l cur j k i) (hi : l.length ≤ i) : sqz l = if j = 0 then cur else cur.take j ++ cur.drop k := by
  obtain ⟨h1, h2, h3, h4, h5, h6, h7, h8⟩ := h
  rw [List.drop_of_length_le (by omega), sqz, List.append_nil] at h8
  rw [← h8]
  unfold outQ
  rw [List.take_of_length_le (by omega)]
theorem infoQ : (Tryd.prog.info? 5).map (fun i => (i.zero, i.size, i.bytes)) = some (some (.int .u8 0), 1, 1) := by kernel_rfl
theorem sizeQ : (Tryd.prog.info? 5).map (·.size) = some 1 := by kernel_rfl
def u8q (l : List Int) : List Value := l.map (Value.int .u8)
def byQ (c : Int) : Bool := decide (0 ≤ c) && decide (c < 256)
theorem row_cellsQ {e : Nat} {w : World} {base g n c : Nat} {xs : List Int} (h : Kd.R (Kd.int .u8) e w base (fun _ => True) (.slice (some ⟨g, 0, none⟩) n c) xs) :
    ∃ cur, base ≤ g ∧ w.heap[g]? = some (.cells cur e (0, 0)) ∧ n = xs.length ∧ n ≤ c ∧ c ≤ maxLen ∧ cur.size = c ∧ cur.toList.take n = u8q xs := by
  have hn := (Kd.R_reads' h).1
  rcases (Kd.own_of_R h).2 with ⟨e, _⟩ | ⟨g', cap', cur, e, hb, hg, h1, h2, h3, h4⟩
  · cases e
  · cases e
    rw [← hn] at *
    exact ⟨cur, hb, hg, rfl, h1, h2, by simpa using h3, by simpa [encs, u8q] using h4⟩
/-- copy(b[p:], b[q:q+m]) within a row of one's own, p ahead of q. -/
theorem R_move_run {P : Program} {W : World} {base : Nat} (t ty e : TypeId) (ht : P.underlying t = some (.slice e)) (hs : (P.info? e).map (·.size) = some 1) {g n c p q m : Nat} {xs : List Int}
    (HO : Kd.R (Kd.int .u8) e W base (fun _ => True) (.slice (some ⟨g, 0, none⟩) n c) xs) (hpq : p ≤ q) (hqm : q + m ≤ n) (hm0 : 0 < m) (c2 c3 : Nat) :
    ∃ w1, (Builtin.copy_ #[t, t] ty #[.slice (some ⟨g, p, none⟩) (n - p) c2, .slice (some ⟨g, q, none⟩) m c3]).run P W = .ok (goInt (m : Int)) w1 ∧ Kd.R (Kd.int .u8) e w1 base (fun _ => True) (.slice (some ⟨g, 0, none⟩) n c) (xs.take p ++ ((xs.drop q).take m ++ xs.drop (p + m))) ∧ W.grownBy w1 (some g) := by
  obtain ⟨cur, hb, hg, hn, hnc, hcm, hsz, htk⟩ := row_cellsQ HO
  have hl : (u8q ((xs.drop q).take m)).length = m := by simp [u8q]; omega
  have hat : ∀ j, j < n → W.cell? ⟨g, j, none⟩ = some (.int .u8 (xs.getD j 0)) := by
    intro j hj
    have h1 : cur.toList[j]? = (u8q xs)[j]? := by rw [← htk, List.getElem?_take, if_pos hj]
    rw [cell_of_row W g _ cur e (0, 0) hg, ← Array.getElem?_toList, h1]
    simp [u8q, List.getD_eq_getElem?_getD, List.getElem?_eq_getElem (show j < xs.length by omega)]
  have hrun := run_copy_cells (P := P) W t t ty e g p (n - p) c2 ⟨g, q, none⟩ m c3 (u8q ((xs.drop q).take m)) ht hs (by rw [hl]; exact (Nat.min_eq_left (by omega)).symm)
    (fun j v hj => by
      have hjl : j < m := by rw [← hl]; exact (List.getElem?_eq_some_iff.1 hj).1
      have e1 : (⟨g, q, none⟩ : Addr).add j = ⟨g, q + j, none⟩ := by rw [← add_plain g q, add_add, add_plain]
      rw [e1, hat (q + j) (by omega)]
      rw [← hj]
      simp [u8q, List.getElem?_take, hjl, List.getD_eq_getElem?_getD, List.getElem?_eq_getElem (show q + j < xs.length by omega)])
    (fun j hj => by rw [hat (p + j) (by omega)]; rfl) (fun j hj => blk_frozen hg _) (fun v hv => by obtain ⟨x, _, rfl⟩ := List.mem_map.1 hv; rfl)
  rw [hl] at hrun
  obtain ⟨cur', h3, h4, h5⟩ := setCells_row (u8q ((xs.drop q).take m)) p W cur hg (by omega)
  obtain ⟨s1, s2, s3, s4⟩ := setCells_same g (u8q ((xs.drop q).take m)) p W
  refine ⟨_, hrun, ?_, ⟨s1, s2, s3, by rw [s4]; exact Nat.le_refl _, fun k' _ hk' => setCells_far _ p k' (fun he => hk' (by rw [he]))⟩⟩
  have hxl : (xs.take p ++ ((xs.drop q).take m ++ xs.drop (p + m))).length = n := by simp; omega
  have := R_block (k := .u8) (xs := xs.take p ++ ((xs.drop q).take m ++ xs.drop (p + m))) h3 hb (by omega) (by omega) hcm (by
    rw [hxl, h5, hl]
    have e1 : cur.toList.take p = (u8q xs).take p := by rw [← htk, List.take_take, Nat.min_eq_left (by omega)]
    have e2 : (cur.toList.drop (p + m)).take (n - (p + m)) = (u8q xs).drop (p + m) := by rw [← htk, List.drop_take]
    rw [e1, List.take_append, List.take_of_length_le (by simp [u8q]; omega)]
    have e3 : n - (List.take p (u8q xs) ++ u8q (List.take m (List.drop q xs))).length = n - (p + m) := by rw [List.length_append, hl, List.length_take]; simp [u8q]; omega
    rw [e3, e2]
    simp [u8q])
  rw [hxl] at this
  exact this
section
variable {P : Program} {ops : Array Oper} {o : Oper} {a : Act} {Q : Exit → Act → World → Prop} {Kc : Act → World → Prop}
theorem R_move_step {W : World} (base : Nat) (D : Nat) (hd : o.dst = some D) (hw : Region.wanted o (yielded ops a.tmps) = true) (s x : Operand) (t e : TypeId) (ho : o.op = .call { callee := .builtin .copy, args := #[s, x], argTypes := #[t, t] })
    (ht : P.underlying t = some (.slice e)) (hsz : (P.info? e).map (·.size) = some 1) {g n c p q m m1 c2 c3 : Nat} {xs : List Int}
    (hs : a.eval s = .slice (some ⟨g, p, none⟩) m1 c2) (hx : a.eval x = .slice (some ⟨g, q, none⟩) m c3) (hm1 : m1 = n - p)
    (HO : Kd.R (Kd.int .u8) e W base (fun _ => True) (.slice (some ⟨g, 0, none⟩) n c) xs) (hpq : p ≤ q) (hqm : q + m ≤ n) (hm0 : 0 < m)
    (h : ∀ w1, Kd.R (Kd.int .u8) e w1 base (fun _ => True) (.slice (some ⟨g, 0, none⟩) n c) (xs.take p ++ ((xs.drop q).take m ++ xs.drop (p + m))) → W.grownBy w1 (some g) → Kc (a.put (some D) (.int .i64 (m : Int))) w1) :
    if Region.wanted o (yielded ops a.tmps) = true then Oper.wp P o a W Kc Q else Kc (a.put o.dst undef) W := by
  subst hm1
  obtain ⟨w1, hr, h1, h2⟩ := R_move_run (P := P) t o.type e ht hsz HO hpq hqm hm0 c2 c3
  rw [if_pos hw]
  unfold Oper.wp execOp
  simp only [ho, resolve, invoke, builtin, Sem.run_bind, Sem.run_pure, Result.andThen_ok, List.map_toArray, List.map_cons, List.map_nil, hs, hx, hr]
  have h3 := h w1 h1 h2
  rw [← hd] at h3
  exact h3
end
theorem TabAt.grownQ {gb g : Nat} {f : Nat → Bool} {w w' : World} (h : TabAt gb f w) (hg : w.grownBy w' (some g)) (hne : gb ≠ g) : TabAt gb f w' := fun i hi => by
  have h1 := h i hi
  have hb := hg.block gb (World.block_lt_of_cell? w _ h1) (by intro e; cases e; exact hne rfl)
  unfold World.cell? at h1 ⊢
  rw [hb]
  exact h1
theorem gQ {w wr : World} {r : Option Nat} {m : Nat} (h : Aside0 (w.grownBy wr r)) : Aside0 (w.grownBy (wr.drewN m) r) := ⟨⟨h.out.1, h.out.2, h.out.3, h.out.4, h.out.5⟩⟩
theorem rQ {wr : World} {base e : Nat} {v : Value} {xs : List Int} {m : Nat} (h : Aside0 (Kd.R (Kd.int .u8) e wr base (fun _ => True) v xs)) : Aside0 (Kd.R (Kd.int .u8) e (wr.drewN m) base (fun _ => True) v xs) := ⟨Kd.R_drewN h.out m⟩
theorem rSet {W : World} {base e s : Nat} {v : Value} {cur : List Int} {x y : Int} (hx : x = y) (h : Kd.R (Kd.int .u8) e W base (fun _ => True) v (cur.set s y)) : Aside0 (Kd.R (Kd.int .u8) e W base (fun _ => True) v (cur.set s x)) := ⟨by rw [hx]; exact h⟩
theorem w64Q {a b : Nat} (h : a + b < 140737488355328) : wrap64 ((a : Int) + (b : Int)) = ((a + b : Nat) : Int) := by unfold wrap64; omega
theorem wsQ_f {c : Int} (h : 0 ≤ c ∧ c < 256) : tdparse_IsWhitespace.f c = some (wsQ c) := by unfold tdparse_IsWhitespace.f; rw [if_pos h]; rfl
theorem nlQ_f {c : Int} (h : 0 ≤ c ∧ c < 256) : tdparse_IsNewline.f c = some (nlQ c) := by unfold tdparse_IsNewline.f; rw [if_pos h]; rfl
theorem rdOf_atQ {l : List Int} {i : Nat} (h : i < l.length) : rdOf 0 l (i : Int) = l[i] := by simp [rdOf, List.getD_eq_getElem?_getD, h]
theorem any_snoc {l : List Int} {s e : Nat} (h : e < l.length) (hs : s ≤ e) : ((l.take (e + 1)).drop s).any nlQ = (((l.take e).drop s).any nlQ || nlQ l[e]) := by
  rw [List.take_succ_eq_append_getElem h, List.drop_append_of_le_length (by simp; omega), List.any_append]
  simp
theorem run_one {l : List Int} {s : Nat} (h : s < l.length) (hw : wsQ l[s] = true) : Run l s (s + 1) := by
  refine ⟨by omega, by omega, fun q hq h1 h2 => ?_⟩
  have : q = s := by omega
  subst this
  exact hw
theorem run_more {l : List Int} {s e : Nat} (h : Run l s e) (he : e < l.length) (hw : wsQ l[e] = true) : Run l s (e + 1) := by
  refine ⟨by have := h.1; omega, by omega, fun q hq h1 h2 => ?_⟩
  by_cases h3 : q < e
  · exact h.2.2 q hq h1 h3
  · have : q = e := by omega
    subst this
    exact hw
def sq.T19 : Bool × List (List Nat × List Nat) := (true, [([], []), ([], []), ([], []), ([1, 2], [1, 2]), ([], []), ([], []), ([], []), ([6], [6]), ([4, 5, 7], [4, 5, 7]), ([3, 8], [3, 8]), ([0, 9], [0, 9]), ([10, 9, 0, 1, 2, 3, 4, 5, 6, 7, 8, 9, 10], [0, 2, 10])])
def sq.B19 : List Nat := [0, 0, 0, 6, 0, 0, 0, 64, 240, 510, 1023, 2047]
theorem sq.tab19 : rtab .any (opsOf Tryd.f24 19) = sq.T19 := by kernel_rfl
theorem sq.bits19 : waitsOk sq.T19.2 sq.B19 = true := by kernel_rfl
def sq.T27 : Bool × List (List Nat × List Nat) := (true, [([], []), ([], []), ([], []), ([1, 2], [1, 2]), ([], []), ([], []), ([4, 5], [4, 5]), ([3, 6], [3, 6]), ([0, 7], [0, 7]), ([8, 7, 0, 1, 2, 3, 4, 5, 6, 7, 8], [0, 2, 8])])
def sq.B27 : List Nat := [0, 0, 0, 6, 0, 0, 48, 126, 255, 511]
theorem sq.tab27 : rtab .any (opsOf Tryd.f24 27) = sq.T27 := by kernel_rfl
theorem sq.bits27 : waitsOk sq.T27.2 sq.B27 = true := by kernel_rfl
set_option maxRecDepth 20000 in
set_option maxHeartbeats 4000000 in
theorem squeeze_any (g cap base n : Nat) (l : List Int) (w : World) (hR : Kd.R (Kd.int .u8) 5 w base (fun _ => True) (.slice (some ⟨g, 0, none⟩) n cap) l) (hm : n < 140737488355328) (hb : l.all byQ = true) (hg1 : 1 < g) (HTabW : Aside0 (TabW w)) (HTabN : Aside0 (TabN w)) :
    Calls Tryd.prog 24 #[.slice (some ⟨g, 0, none⟩) n cap] w fun e w' => ∃ A c m, e = .returned (.slice A m c) ∧ m = (sqz l).length ∧ Kd.C (Kd.int .u8) w' A m (sqz l) ∧ m ≤ c ∧ w.grownBy w' (some g) := by
  have HR := Aside0.mk hR
  have hn : n = l.length := (Kd.R_reads' hR).1
  have hnc := (Kd.R_reads' hR).2.1
  have HN := Aside0.mk hn
  have hat : ∀ (k : Nat) (h : k < l.length), 0 ≤ l[k] ∧ l[k] < 256 := fun k h => by
    have := List.all_eq_true.1 hb _ (List.getElem_mem h)
    simpa [byQ] using this
  have HAT := Aside0.mk hat
  have HTW := Aside0.mk (fun wr (h : Aside0 (w.grownBy wr (some g))) => (show Aside0 (TabW wr) from ⟨TabAt.grownQ HTabW.out h.out (by omega)⟩))
  have HTN := Aside0.mk (fun wr (h : Aside0 (w.grownBy wr (some g))) => (show Aside0 (TabN wr) from ⟨TabAt.grownQ HTabN.out h.out (by omega)⟩))
  clear hR hb hat hn
  go_enter Tryd.func24, Tryd.ntmps24
  go_wp2
  go_loopw [3, 4, 5] (fun vj vk vi wr => ∃ (cur : List Int) (j k i : Nat), vj = .int .i64 j ∧ vk = .int .i64 k ∧ vi = .int .i64 i ∧ i ≤ n + 1 ∧ j ≤ n ∧ k ≤ i ∧ k ≤ n ∧ Aside0 (Inv l cur j k i) ∧
      Aside0 (Kd.R (Kd.int .u8) 5 wr base (fun _ => True) (.slice (some ⟨g, 0, none⟩) n cap) cur) ∧ Aside0 (w.grownBy wr (some g)))
    (fun _ _ vi _ => n + 1 - (intOf vi).toNat)
  case atStart => exact ⟨l, 0, 0, 0, rfl, rfl, rfl, by omega, by omega, Nat.le_refl _, by omega, ⟨inv_start l⟩, HR, ⟨World.grownBy.refl w _⟩⟩
  case round =>
    obtain ⟨cur, j, k, s, rfl, rfl, rfl, hin, hjn, hki, hkn, HINV, HR1, HG⟩ := hrel
    have hcl : cur.length = n := by rw [HINV.out.1, HN.out]
    have HCL := Aside0.mk hcl
    clear hcl
    by_cases hlt : s < n
    · obtain ⟨hcell, hfr⟩ := Kd.R_celln (0 : Int) HR1.out (s : Int) (by omega) (by omega)
      have hsl : s < l.length := by rw [← HN.out]; exact hlt
      rw [rdOf_atQ (by rw [HCL.out]; exact hlt), cur_at HINV.out.1 HINV.out.2.2.2.2.2.2.1 hsl] at hcell
      simp only [Int.toNat_natCast] at hcell hfr
      obtain ⟨c, hc⟩ : ∃ c, c = l[s] := ⟨_, rfl⟩
      have hcb := HAT.out s hsl
      rw [← hc] at hcell hcb
      have HC := Aside0.mk hc
      have HCB := Aside0.mk hcb
      have HSL := Aside0.mk hsl
      clear hc hcb
      cases hws : wsQ c with
      | false =>
        have HWS := Aside0.mk hws
        clear hws
        have HI2 := Aside0.mk (inv_plain HINV.out HSL.out (by rw [← HC.out]; exact HWS.out))
        go_wp2_with fail
        refine (tdparse_IsWhitespace.calls c false _ (by rw [wsQ_f HCB.out, HWS.out]) (HTW.out _ (by repeat (first | exact HG | apply gQ)))).mono ?_
        rintro e w1 ⟨rfl, ⟨m1, rfl⟩⟩
        go_wp2
        go_roundw
        case rel => exact ⟨cur, j, k, s + 1, rfl, rfl, by go_num, by omega, hjn, by omega, hkn, HI2, by repeat (first | exact HR1 | apply rQ), by repeat (first | exact HG | apply gQ)⟩
        case measure => simp [intOf]; omega
      | true =>
        have HWS := Aside0.mk hws
        clear hws
        have HRUN0 := Aside0.mk (run_one HSL.out (by rw [← HC.out]; exact HWS.out))
        have HANY0 := Aside0.mk (show ((l.take (s + 1)).drop s).any nlQ = nlQ c by rw [any_snoc HSL.out (Nat.le_refl _), List.drop_take, Nat.sub_self, HC.out]; rfl)
        obtain ⟨nb, hnb⟩ : ∃ nb, nb = nlQ c := ⟨_, rfl⟩
        rw [← hnb] at HANY0
        have HNB := Aside0.mk hnb
        clear hnb
        go_wp2_with fail
        refine (tdparse_IsWhitespace.calls c true _ (by rw [wsQ_f HCB.out, HWS.out]) (HTW.out _ (by repeat (first | exact HG | apply gQ)))).mono ?_
        rintro e w1 ⟨rfl, ⟨m1, rfl⟩⟩
        go_wp2_with fail
        refine (tdparse_IsNewline.calls c nb _ (by rw [nlQ_f HCB.out, HNB.out]) (HTN.out _ (by repeat (first | exact HG | apply gQ)))).mono ?_
        rintro e w1 ⟨rfl, ⟨m2, rfl⟩⟩
        go_wp2
        go_loopw [5, 7] (fun vi vn wr => ∃ (e : Nat) (fl : Bool), vi = .int .i64 e ∧ vn = .bool fl ∧ s < e ∧ e ≤ n ∧ Aside0 (Run l s e) ∧ Aside0 (((l.take e).drop s).any nlQ = fl) ∧
            Aside0 (Kd.R (Kd.int .u8) 5 wr base (fun _ => True) (.slice (some ⟨g, 0, none⟩) n cap) cur) ∧ Aside0 (w.grownBy wr (some g)))
          (fun vi _ _ => n - (intOf vi).toNat)
        case atStart => exact ⟨s + 1, nb, by go_num, rfl, by omega, by omega, HRUN0, HANY0, by repeat (first | exact HR1 | apply rQ), by repeat (first | exact HG | apply gQ)⟩
        case round =>
          obtain ⟨e, fl, rfl, rfl, hse, hen, HRUN, HANY, HR2, HG2⟩ := hrel
          clear hcell hfr
          by_cases helt : e < n
          · obtain ⟨hcell, hfr⟩ := Kd.R_celln (0 : Int) HR2.out (e : Int) (by omega) (by omega)
            have hel : e < l.length := by rw [← HN.out]; exact helt
            have hdr : cur.drop e = l.drop e := by
              have := congrArg (List.drop (e - s)) HINV.out.2.2.2.2.2.2.1
              simpa [List.drop_drop, show s + (e - s) = e by omega] using this
            rw [rdOf_atQ (by rw [HCL.out]; exact helt), cur_at HINV.out.1 hdr hel] at hcell
            simp only [Int.toNat_natCast] at hcell hfr
            obtain ⟨d, hd⟩ : ∃ d, d = l[e] := ⟨_, rfl⟩
            have hdb := HAT.out e hel
            rw [← hd] at hcell hdb
            have HD := Aside0.mk hd
            have HDB := Aside0.mk hdb
            have HEL := Aside0.mk hel
            clear hd hdb hdr
            cases hws : wsQ d with
            | true =>
              have HWS2 := Aside0.mk hws
              clear hws
              have HRUN2 := Aside0.mk (run_more HRUN.out HEL.out (by rw [← HD.out]; exact HWS2.out))
              have HANY2 := Aside0.mk (show ((l.take (e + 1)).drop s).any nlQ = (fl || nlQ d) by rw [any_snoc HEL.out (by omega), HANY.out, HD.out])
              obtain ⟨nd, hnd⟩ : ∃ nd, nd = nlQ d := ⟨_, rfl⟩
              rw [← hnd] at HANY2
              have HND := Aside0.mk hnd
              clear hnd
              go_wp2_with fail
              refine (tdparse_IsWhitespace.calls d true _ (by rw [wsQ_f HDB.out, HWS2.out]) (HTW.out _ (by repeat (first | exact HG2 | apply gQ)))).mono ?_
              rintro e' w1 ⟨rfl, ⟨m3, rfl⟩⟩
              go_wp2_with fail
              refine (tdparse_IsNewline.calls d nd _ (by rw [nlQ_f HDB.out, HND.out]) (HTN.out _ (by repeat (first | exact HG2 | apply gQ)))).mono ?_
              rintro e' w1 ⟨rfl, ⟨m4, rfl⟩⟩
              cases nd with
              | true =>
                go_wp2
                go_roundw
                case rel => exact ⟨e + 1, true, by go_num, rfl, by omega, by omega, HRUN2, ⟨by rw [HANY2.out]; simp⟩, by repeat (first | exact HR2 | apply rQ), by repeat (first | exact HG2 | apply gQ)⟩
                case measure => simp [intOf]; omega
              | false =>
                go_wp2
                go_roundw
                case rel => exact ⟨e + 1, fl, by go_num, rfl, by omega, by omega, HRUN2, ⟨by rw [HANY2.out]; simp⟩, by repeat (first | exact HR2 | apply rQ), by repeat (first | exact HG2 | apply gQ)⟩
                case measure => simp [intOf]; omega
            | false =>
              have HWS2 := Aside0.mk hws
              clear hws
              have HEND := Aside0.mk (show EndRun l e from fun h => by rw [← HD.out]; exact HWS2.out)
              go_wp2_with fail
              refine (tdparse_IsWhitespace.calls d false _ (by rw [wsQ_f HDB.out, HWS2.out]) (HTW.out _ (by repeat (first | exact HG2 | apply gQ)))).mono ?_
              rintro e' w1 ⟨rfl, ⟨m3, rfl⟩⟩
              have HR2 := rQ (m := m3) HR2
              have HG2 := gQ (m := m3) HG2
              clear hcell hfr
              cases fl
              · have HMK := Aside0.mk (show markQ ((l.take e).drop s) = 32 by unfold markQ; rw [HANY.out]; rfl)
                obtain ⟨hcs, hfs⟩ := Kd.R_celln (0 : Int) HR2.out (s : Int) (by omega) (by omega)
                obtain ⟨hp1, hp2⟩ := Kd.R_putg HR2.out (s : Int) 32
                rw [Int.toNat_natCast] at hcs hfs hp1 hp2
                have HP1 := rSet HMK.out hp1
                have HG3 := Aside0.mk (World.grownBy.trans HG2.out hp2)
                clear hp1 hp2
                by_cases h1e : s + 1 < e
                · have hle : (1 : Int) < (e : Int) - (s : Int) := by omega
                  by_cases hj0 : j = 0
                  · subst hj0
                    have hk0 : k = 0 := HINV.out.2.1 rfl
                    subst hk0
                    have HI5 := Aside0.mk (inv_first HINV.out HRUN.out HEND.out h1e)
                    go_wp2
                    go_roundw
                    case rel => exact ⟨_, s + 1, e, e + 1, by go_num, rfl, by go_num, by omega, by omega, by omega, by omega, HI5, HP1, HG3⟩
                    case measure => simp [intOf]; omega
                  · have hjp : 0 < j := by omega
                    have hjk := HINV.out.2.2.1 hjp
                    have hjz : ¬ ((j : Int) = 0) := by omega
                    have hq1 : j ≤ k := by omega
                    have hq2 : k + (s + 1 - k) ≤ n := by omega
                    have hq3 : 0 < s + 1 - k := by omega
                    have hne1 : ¬ (cap = j) := by omega
                    have hne2 : ¬ (cap = k) := by omega
                    have hs1 : wrap64 ((s : Int) + 1) = (s : Int) + 1 := by unfold wrap64; omega
                    have HQ := Aside0.mk (And.intro hq1 (And.intro hq2 hq3))
                    have hjle : (j : Int) ≤ (n : Int) := by omega
                    have hkle : (k : Int) ≤ (s : Int) + 1 := by omega
                    have hsle : (s : Int) + 1 ≤ (cap : Int) := by omega
                    clear hq1 hq2 hq3
                    go_wp2
                    refine start_ (n := 12) (S := fun w' => True) (ds := []) #[false, false, false, false, false, false, false, false, false, false, false, false] (by kernel_rfl) rfl rfl trivial (fun hHeld => ?_)
                    refine with_tabW sq.tab19 sq.bits19 (fun HT_ HW_ => ?_)
                    refine pure_ (i := 0) (N := (some 60)) (v := ?_) (a' := ?_) #[true, false, false, false, false, false, false, false, false, false, false, false] rfl rfl (any_of HT_.out (by kernel_rfl)) (fun _ _ _ h => h) (Or.inl ⟨by rfl, ?_⟩) ?_ ?_
                    rotate_left
                    · intro w'
                      go_simp
                      with_reducible rfl
                    rotate_left
                    · simp only [Act.put, List.setIfInBounds_toArray, List.set_cons_zero, List.set_cons_succ, i64_w, i32_w]
                      rfl
                    refine pure_ (i := 1) (N := (some 61)) (v := ?_) (a' := ?_) #[true, true, false, false, false, false, false, false, false, false, false, false] rfl rfl (any_of HT_.out (by kernel_rfl)) (fun _ _ _ h => h) (Or.inl ⟨by rfl, ?_⟩) ?_ ?_
                    rotate_left
                    · intro w'
                      go_simp
                      with_reducible rfl
                    rotate_left
                    · simp only [Act.put, List.setIfInBounds_toArray, List.set_cons_zero, List.set_cons_succ, i64_w, i32_w]
                      rfl
                    refine pure_ (i := 2) (N := (some 62)) (v := ?_) (a' := ?_) #[true, true, true, false, false, false, false, false, false, false, false, false] rfl rfl (any_of HT_.out (by kernel_rfl)) (fun _ _ _ h => h) (Or.inl ⟨by rfl, ?_⟩) ?_ ?_
                    rotate_left
                    · intro w'
                      go_simp
                      with_reducible rfl
                    rotate_left
                    · simp only [Act.put, List.setIfInBounds_toArray, List.set_cons_zero, List.set_cons_succ, i64_w, i32_w]
                      rfl
                    refine pure_ (i := 4) (N := (some 64)) (v := ?_) (a' := ?_) #[true, true, true, false, true, false, false, false, false, false, false, false] rfl rfl (any_of HT_.out (by kernel_rfl)) (fun _ _ _ h => h) (Or.inl ⟨by rfl, ?_⟩) ?_ ?_
                    rotate_left
                    · intro w'
                      go_simp
                      with_reducible rfl
                    rotate_left
                    · simp only [Act.put, List.setIfInBounds_toArray, List.set_cons_zero, List.set_cons_succ, i64_w, i32_w]
                      rfl
                    refine pure_ (i := 5) (N := (some 65)) (v := ?_) (a' := ?_) #[true, true, true, false, true, true, false, false, false, false, false, false] rfl rfl (any_of HT_.out (by kernel_rfl)) (fun _ _ _ h => h) (Or.inl ⟨by rfl, ?_⟩) ?_ ?_
                    rotate_left
                    · intro w'
                      go_simp
                      with_reducible rfl
                    rotate_left
                    · simp only [Act.put, List.setIfInBounds_toArray, List.set_cons_zero, List.set_cons_succ, i64_w, i32_w]
                      rfl
                    refine pure_ (i := 6) (N := (some 66)) (v := ?_) (a' := ?_) #[true, true, true, false, true, true, true, false, false, false, false, false] rfl rfl (any_of HT_.out (by kernel_rfl)) (fun _ _ _ h => h) (Or.inl ⟨by rfl, ?_⟩) ?_ ?_
                    rotate_left
                    · intro w'
                      go_simp
                      with_reducible rfl
                    rotate_left
                    · simp only [Act.put, List.setIfInBounds_toArray, List.set_cons_zero, List.set_cons_succ, i64_w, i32_w]
                      rfl
                    refine pure_ (i := 3) (N := (some 63)) (v := ?_) (a' := ?_) #[true, true, true, true, true, true, true, false, false, false, false, false] rfl rfl (any_of HT_.out (by kernel_rfl)) (fun _ _ _ h => h) (Or.inl ⟨by rfl, ?_⟩) ?_ ?_
                    rotate_left
                    · intro w'
                      go_simp
                      with_reducible rfl
                    rotate_left
                    · simp only [Act.put, List.setIfInBounds_toArray, List.set_cons_zero, List.set_cons_succ, i64_w, i32_w]
                      rfl
                    refine pure_ (i := 7) (N := (some 67)) (v := ?_) (a' := ?_) #[true, true, true, true, true, true, true, true, false, false, false, false] rfl rfl (any_of HT_.out (by kernel_rfl)) (fun _ _ _ h => h) (Or.inl ⟨by rfl, ?_⟩) ?_ ?_
                    rotate_left
                    · intro w'
                      go_simp
                      with_reducible rfl
                    rotate_left
                    · simp only [Act.put, List.setIfInBounds_toArray, List.set_cons_zero, List.set_cons_succ, i64_w, i32_w]
                      rfl
                    refine pure_ (i := 8) (N := (some 68)) (v := ?_) (a' := ?_) #[true, true, true, true, true, true, true, true, true, false, false, false] rfl rfl (any_of HT_.out (by kernel_rfl)) (fun _ _ _ h => h) (Or.inl ⟨by rfl, ?_⟩) ?_ ?_
                    rotate_left
                    · intro w'
                      go_simp
                      with_reducible rfl
                    rotate_left
                    · simp only [Act.put, List.setIfInBounds_toArray, List.set_cons_zero, List.set_cons_succ, i64_w, i32_w]
                      rfl
                    refine one_ (i := 9) (N := (some 69)) #[true, true, true, true, true, true, true, true, true, true, false, false] rfl rfl (one_of HT_.out (by kernel_rfl)) (by simp) (fun K_ hK_ => ?_)
                    refine R_move_step (P := Tryd.prog) base 69 rfl (by rfl) (.tmp 63) (.tmp 68) 22 5 rfl Tryd.underlying22 sizeQ (g := g) (n := n) (c := cap) (p := j) (q := k) (m := s + 1 - k) (m1 := n - j) (c2 := cap - j) (c3 := cap - k) (by rfl) (by rfl) rfl (Kd.R_drew HP1.out) HQ.out.1 HQ.out.2.1 HQ.out.2.2 (fun w3 hR3 hG3 => ?_)
                    have HR5 := Aside0.mk hR3
                    have HG5 := Aside0.mk (World.grownBy.trans (gQ (m := 1) HG3).out hG3)
                    clear hR3 hG3
                    simp only [Act.put, List.setIfInBounds_toArray, List.set_cons_zero, List.set_cons_succ]
                    refine hK_ _ _ trivial (fun _ => ?_)
                    refine pure_ (i := 10) (N := (some 70)) (v := ?_) (a' := ?_) #[true, true, true, true, true, true, true, true, true, true, true, false] rfl rfl (any_of HT_.out (by kernel_rfl)) (fun _ _ _ h => h) (Or.inl ⟨by rfl, ?_⟩) ?_ ?_
                    rotate_left
                    · intro w'
                      go_simp
                      with_reducible rfl
                    rotate_left
                    · simp only [Act.put, List.setIfInBounds_toArray, List.set_cons_zero, List.set_cons_succ, i64_w, i32_w]
                      rfl
                    refine pure_ (i := 11) (N := (some 3)) (v := ?_) (a' := ?_) #[true, true, true, true, true, true, true, true, true, true, true, true] rfl rfl (any_of HT_.out (by kernel_rfl)) (fun _ _ _ h => h) (Or.inl ⟨by rfl, ?_⟩) ?_ ?_
                    rotate_left
                    · intro w'
                      go_simp
                      with_reducible rfl
                    rotate_left
                    · simp only [Act.put, List.setIfInBounds_toArray, List.set_cons_zero, List.set_cons_succ, i64_w, i32_w]
                      rfl
                    refine done_ (done_of HT_.out (by kernel_rfl)) ?_
                    have HI6 := Aside0.mk (inv_copy (c2 := (cur.set s (markQ ((l.take e).drop s))).take j ++ (((cur.set s (markQ ((l.take e).drop s))).drop k).take (s + 1 - k) ++ (cur.set s (markQ ((l.take e).drop s))).drop (j + (s + 1 - k)))) HINV.out hjp HRUN.out HEND.out h1e (by rw [← List.drop_take]))
                    have hjn2 : j + (s + 1 - k) ≤ n := by have := HQ.out; omega
                    have hsj := w64Q (show j + (s + 1 - k) < 140737488355328 from by omega)
                    clear hs1 hjle hkle hsle
                    go_wp2
                    go_roundw
                    case rel => exact ⟨_, j + (s + 1 - k), e, e + 1, by rw [hsj], rfl, by go_num, by omega, hjn2, by omega, hen, HI6, by repeat (first | exact HR5 | apply rQ), by repeat (first | exact HG5 | apply gQ)⟩
                    case measure => simp [intOf]; omega
                · have hle : ¬ ((1 : Int) < (e : Int) - (s : Int)) := by omega
                  have HI5 := Aside0.mk (show Inv l (cur.set s (markQ ((l.take e).drop s))) j k (e + 1) from by
                    have he1 : e = s + 1 := by omega
                    have h1 := HRUN.out
                    have h2 := HEND.out
                    rw [he1] at h1 h2 ⊢
                    exact inv_run1 HINV.out h1 h2)
                  go_wp2
                  go_roundw
                  case rel => exact ⟨_, j, k, e + 1, rfl, rfl, by go_num, by omega, hjn, by omega, hkn, HI5, HP1, HG3⟩
                  case measure => simp [intOf]; omega
              · have HMK := Aside0.mk (show markQ ((l.take e).drop s) = 10 by unfold markQ; rw [HANY.out]; rfl)
                obtain ⟨hcs, hfs⟩ := Kd.R_celln (0 : Int) HR2.out (s : Int) (by omega) (by omega)
                obtain ⟨hp1, hp2⟩ := Kd.R_putg HR2.out (s : Int) 10
                rw [Int.toNat_natCast] at hcs hfs hp1 hp2
                have HP1 := rSet HMK.out hp1
                have HG3 := Aside0.mk (World.grownBy.trans HG2.out hp2)
                clear hp1 hp2
                by_cases h1e : s + 1 < e
                · have hle : (1 : Int) < (e : Int) - (s : Int) := by omega
                  by_cases hj0 : j = 0
                  · subst hj0
                    have hk0 : k = 0 := HINV.out.2.1 rfl
                    subst hk0
                    have HI5 := Aside0.mk (inv_first HINV.out HRUN.out HEND.out h1e)
                    go_wp2
                    go_roundw
                    case rel => exact ⟨_, s + 1, e, e + 1, by go_num, rfl, by go_num, by omega, by omega, by omega, by omega, HI5, HP1, HG3⟩
                    case measure => simp [intOf]; omega
                  · have hjp : 0 < j := by omega
                    have hjk := HINV.out.2.2.1 hjp
                    have hjz : ¬ ((j : Int) = 0) := by omega
                    have hq1 : j ≤ k := by omega
                    have hq2 : k + (s + 1 - k) ≤ n := by omega
                    have hq3 : 0 < s + 1 - k := by omega
                    have hne1 : ¬ (cap = j) := by omega
                    have hne2 : ¬ (cap = k) := by omega
                    have hs1 : wrap64 ((s : Int) + 1) = (s : Int) + 1 := by unfold wrap64; omega
                    have HQ := Aside0.mk (And.intro hq1 (And.intro hq2 hq3))
                    have hjle : (j : Int) ≤ (n : Int) := by omega
                    have hkle : (k : Int) ≤ (s : Int) + 1 := by omega
                    have hsle : (s : Int) + 1 ≤ (cap : Int) := by omega
                    clear hq1 hq2 hq3
                    go_wp2
                    refine start_ (n := 12) (S := fun w' => True) (ds := []) #[false, false, false, false, false, false, false, false, false, false, false, false] (by kernel_rfl) rfl rfl trivial (fun hHeld => ?_)
                    refine with_tabW sq.tab19 sq.bits19 (fun HT_ HW_ => ?_)
                    refine pure_ (i := 0) (N := (some 60)) (v := ?_) (a' := ?_) #[true, false, false, false, false, false, false, false, false, false, false, false] rfl rfl (any_of HT_.out (by kernel_rfl)) (fun _ _ _ h => h) (Or.inl ⟨by rfl, ?_⟩) ?_ ?_
                    rotate_left
                    · intro w'
                      go_simp
                      with_reducible rfl
                    rotate_left
                    · simp only [Act.put, List.setIfInBounds_toArray, List.set_cons_zero, List.set_cons_succ, i64_w, i32_w]
                      rfl
                    refine pure_ (i := 1) (N := (some 61)) (v := ?_) (a' := ?_) #[true, true, false, false, false, false, false, false, false, false, false, false] rfl rfl (any_of HT_.out (by kernel_rfl)) (fun _ _ _ h => h) (Or.inl ⟨by rfl, ?_⟩) ?_ ?_
                    rotate_left
                    · intro w'
                      go_simp
                      with_reducible rfl
                    rotate_left
                    · simp only [Act.put, List.setIfInBounds_toArray, List.set_cons_zero, List.set_cons_succ, i64_w, i32_w]
                      rfl
                    refine pure_ (i := 2) (N := (some 62)) (v := ?_) (a' := ?_) #[true, true, true, false, false, false, false, false, false, false, false, false] rfl rfl (any_of HT_.out (by kernel_rfl)) (fun _ _ _ h => h) (Or.inl ⟨by rfl, ?_⟩) ?_ ?_
                    rotate_left
                    · intro w'
                      go_simp
                      with_reducible rfl
                    rotate_left
                    · simp only [Act.put, List.setIfInBounds_toArray, List.set_cons_zero, List.set_cons_succ, i64_w, i32_w]
                      rfl
                    refine pure_ (i := 4) (N := (some 64)) (v := ?_) (a' := ?_) #[true, true, true, false, true, false, false, false, false, false, false, false] rfl rfl (any_of HT_.out (by kernel_rfl)) (fun _ _ _ h => h) (Or.inl ⟨by rfl, ?_⟩) ?_ ?_
                    rotate_left
                    · intro w'
                      go_simp
                      with_reducible rfl
                    rotate_left
                    · simp only [Act.put, List.setIfInBounds_toArray, List.set_cons_zero, List.set_cons_succ, i64_w, i32_w]
                      rfl
                    refine pure_ (i := 5) (N := (some 65)) (v := ?_) (a' := ?_) #[true, true, true, false, true, true, false, false, false, false, false, false] rfl rfl (any_of HT_.out (by kernel_rfl)) (fun _ _ _ h => h) (Or.inl ⟨by rfl, ?_⟩) ?_ ?_
                    rotate_left
                    · intro w'
                      go_simp
                      with_reducible rfl
                    rotate_left
                    · simp only [Act.put, List.setIfInBounds_toArray, List.set_cons_zero, List.set_cons_succ, i64_w, i32_w]
                      rfl
                    refine pure_ (i := 6) (N := (some 66)) (v := ?_) (a' := ?_) #[true, true, true, false, true, true, true, false, false, false, false, false] rfl rfl (any_of HT_.out (by kernel_rfl)) (fun _ _ _ h => h) (Or.inl ⟨by rfl, ?_⟩) ?_ ?_
                    rotate_left
                    · intro w'
                      go_simp
                      with_reducible rfl
                    rotate_left
                    · simp only [Act.put, List.setIfInBounds_toArray, List.set_cons_zero, List.set_cons_succ, i64_w, i32_w]
                      rfl
                    refine pure_ (i := 3) (N := (some 63)) (v := ?_) (a' := ?_) #[true, true, true, true, true, true, true, false, false, false, false, false] rfl rfl (any_of HT_.out (by kernel_rfl)) (fun _ _ _ h => h) (Or.inl ⟨by rfl, ?_⟩) ?_ ?_
                    rotate_left
                    · intro w'
                      go_simp
                      with_reducible rfl
                    rotate_left
                    · simp only [Act.put, List.setIfInBounds_toArray, List.set_cons_zero, List.set_cons_succ, i64_w, i32_w]
                      rfl
                    refine pure_ (i := 7) (N := (some 67)) (v := ?_) (a' := ?_) #[true, true, true, true, true, true, true, true, false, false, false, false] rfl rfl (any_of HT_.out (by kernel_rfl)) (fun _ _ _ h => h) (Or.inl ⟨by rfl, ?_⟩) ?_ ?_
                    rotate_left
                    · intro w'
                      go_simp
                      with_reducible rfl
                    rotate_left
                    · simp only [Act.put, List.setIfInBounds_toArray, List.set_cons_zero, List.set_cons_succ, i64_w, i32_w]
                      rfl
                    refine pure_ (i := 8) (N := (some 68)) (v := ?_) (a' := ?_) #[true, true, true, true, true, true, true, true, true, false, false, false] rfl rfl (any_of HT_.out (by kernel_rfl)) (fun _ _ _ h => h) (Or.inl ⟨by rfl, ?_⟩) ?_ ?_
                    rotate_left
                    · intro w'
                      go_simp
                      with_reducible rfl
                    rotate_left
                    · simp only [Act.put, List.setIfInBounds_toArray, List.set_cons_zero, List.set_cons_succ, i64_w, i32_w]
                      rfl
                    refine one_ (i := 9) (N := (some 69)) #[true, true, true, true, true, true, true, true, true, true, false, false] rfl rfl (one_of HT_.out (by kernel_rfl)) (by simp) (fun K_ hK_ => ?_)
                    refine R_move_step (P := Tryd.prog) base 69 rfl (by rfl) (.tmp 63) (.tmp 68) 22 5 rfl Tryd.underlying22 sizeQ (g := g) (n := n) (c := cap) (p := j) (q := k) (m := s + 1 - k) (m1 := n - j) (c2 := cap - j) (c3 := cap - k) (by rfl) (by rfl) rfl (Kd.R_drew HP1.out) HQ.out.1 HQ.out.2.1 HQ.out.2.2 (fun w3 hR3 hG3 => ?_)
                    have HR5 := Aside0.mk hR3
                    have HG5 := Aside0.mk (World.grownBy.trans (gQ (m := 1) HG3).out hG3)
                    clear hR3 hG3
                    simp only [Act.put, List.setIfInBounds_toArray, List.set_cons_zero, List.set_cons_succ]
                    refine hK_ _ _ trivial (fun _ => ?_)
                    refine pure_ (i := 10) (N := (some 70)) (v := ?_) (a' := ?_) #[true, true, true, true, true, true, true, true, true, true, true, false] rfl rfl (any_of HT_.out (by kernel_rfl)) (fun _ _ _ h => h) (Or.inl ⟨by rfl, ?_⟩) ?_ ?_
                    rotate_left
                    · intro w'
                      go_simp
                      with_reducible rfl
                    rotate_left
                    · simp only [Act.put, List.setIfInBounds_toArray, List.set_cons_zero, List.set_cons_succ, i64_w, i32_w]
                      rfl
                    refine pure_ (i := 11) (N := (some 3)) (v := ?_) (a' := ?_) #[true, true, true, true, true, true, true, true, true, true, true, true] rfl rfl (any_of HT_.out (by kernel_rfl)) (fun _ _ _ h => h) (Or.inl ⟨by rfl, ?_⟩) ?_ ?_
                    rotate_left
                    · intro w'
                      go_simp
                      with_reducible rfl
                    rotate_left
                    · simp only [Act.put, List.setIfInBounds_toArray, List.set_cons_zero, List.set_cons_succ, i64_w, i32_w]
                      rfl
                    refine done_ (done_of HT_.out (by kernel_rfl)) ?_
                    have HI6 := Aside0.mk (inv_copy (c2 := (cur.set s (markQ ((l.take e).drop s))).take j ++ (((cur.set s (markQ ((l.take e).drop s))).drop k).take (s + 1 - k) ++ (cur.set s (markQ ((l.take e).drop s))).drop (j + (s + 1 - k)))) HINV.out hjp HRUN.out HEND.out h1e (by rw [← List.drop_take]))
                    have hjn2 : j + (s + 1 - k) ≤ n := by have := HQ.out; omega
                    have hsj := w64Q (show j + (s + 1 - k) < 140737488355328 from by omega)
                    clear hs1 hjle hkle hsle
                    go_wp2
                    go_roundw
                    case rel => exact ⟨_, j + (s + 1 - k), e, e + 1, by rw [hsj], rfl, by go_num, by omega, hjn2, by omega, hen, HI6, by repeat (first | exact HR5 | apply rQ), by repeat (first | exact HG5 | apply gQ)⟩
                    case measure => simp [intOf]; omega
                · have hle : ¬ ((1 : Int) < (e : Int) - (s : Int)) := by omega
                  have HI5 := Aside0.mk (show Inv l (cur.set s (markQ ((l.take e).drop s))) j k (e + 1) from by
                    have he1 : e = s + 1 := by omega
                    have h1 := HRUN.out
                    have h2 := HEND.out
                    rw [he1] at h1 h2 ⊢
                    exact inv_run1 HINV.out h1 h2)
                  go_wp2
                  go_roundw
                  case rel => exact ⟨_, j, k, e + 1, rfl, rfl, by go_num, by omega, hjn, by omega, hkn, HI5, HP1, HG3⟩
                  case measure => simp [intOf]; omega
          · have hee : e = n := by omega
            have HEND := Aside0.mk (show EndRun l e from fun h => by rw [← HN.out] at h; omega)
            cases fl
            · have HMK := Aside0.mk (show markQ ((l.take e).drop s) = 32 by unfold markQ; rw [HANY.out]; rfl)
              obtain ⟨hcs, hfs⟩ := Kd.R_celln (0 : Int) HR2.out (s : Int) (by omega) (by omega)
              obtain ⟨hp1, hp2⟩ := Kd.R_putg HR2.out (s : Int) 32
              rw [Int.toNat_natCast] at hcs hfs hp1 hp2
              have HP1 := rSet HMK.out hp1
              have HG3 := Aside0.mk (World.grownBy.trans HG2.out hp2)
              clear hp1 hp2
              by_cases h1e : s + 1 < e
              · have hle : (1 : Int) < (e : Int) - (s : Int) := by omega
                by_cases hj0 : j = 0
                · subst hj0
                  have hk0 : k = 0 := HINV.out.2.1 rfl
                  subst hk0
                  have HI5 := Aside0.mk (inv_first HINV.out HRUN.out HEND.out h1e)
                  go_wp2
                  go_roundw
                  case rel => exact ⟨_, s + 1, e, e + 1, by go_num, rfl, by go_num, by omega, by omega, by omega, by omega, HI5, HP1, HG3⟩
                  case measure => simp [intOf]; omega
                · have hjp : 0 < j := by omega
                  have hjk := HINV.out.2.2.1 hjp
                  have hjz : ¬ ((j : Int) = 0) := by omega
                  have hq1 : j ≤ k := by omega
                  have hq2 : k + (s + 1 - k) ≤ n := by omega
                  have hq3 : 0 < s + 1 - k := by omega
                  have hne1 : ¬ (cap = j) := by omega
                  have hne2 : ¬ (cap = k) := by omega
                  have hs1 : wrap64 ((s : Int) + 1) = (s : Int) + 1 := by unfold wrap64; omega
                  have HQ := Aside0.mk (And.intro hq1 (And.intro hq2 hq3))
                  have hjle : (j : Int) ≤ (n : Int) := by omega
                  have hkle : (k : Int) ≤ (s : Int) + 1 := by omega
                  have hsle : (s : Int) + 1 ≤ (cap : Int) := by omega
                  clear hq1 hq2 hq3
                  go_wp2
                  refine start_ (n := 12) (S := fun w' => True) (ds := []) #[false, false, false, false, false, false, false, false, false, false, false, false] (by kernel_rfl) rfl rfl trivial (fun hHeld => ?_)
                  refine with_tabW sq.tab19 sq.bits19 (fun HT_ HW_ => ?_)
                  refine pure_ (i := 0) (N := (some 60)) (v := ?_) (a' := ?_) #[true, false, false, false, false, false, false, false, false, false, false, false] rfl rfl (any_of HT_.out (by kernel_rfl)) (fun _ _ _ h => h) (Or.inl ⟨by rfl, ?_⟩) ?_ ?_
                  rotate_left
                  · intro w'
                    go_simp
                    with_reducible rfl
                  rotate_left
                  · simp only [Act.put, List.setIfInBounds_toArray, List.set_cons_zero, List.set_cons_succ, i64_w, i32_w]
                    rfl
                  refine pure_ (i := 1) (N := (some 61)) (v := ?_) (a' := ?_) #[true, true, false, false, false, false, false, false, false, false, false, false] rfl rfl (any_of HT_.out (by kernel_rfl)) (fun _ _ _ h => h) (Or.inl ⟨by rfl, ?_⟩) ?_ ?_
                  rotate_left
                  · intro w'
                    go_simp
                    with_reducible rfl
                  rotate_left
                  · simp only [Act.put, List.setIfInBounds_toArray, List.set_cons_zero, List.set_cons_succ, i64_w, i32_w]
                    rfl
                  refine pure_ (i := 2) (N := (some 62)) (v := ?_) (a' := ?_) #[true, true, true, false, false, false, false, false, false, false, false, false] rfl rfl (any_of HT_.out (by kernel_rfl)) (fun _ _ _ h => h) (Or.inl ⟨by rfl, ?_⟩) ?_ ?_
                  rotate_left
                  · intro w'
                    go_simp
                    with_reducible rfl
                  rotate_left
                  · simp only [Act.put, List.setIfInBounds_toArray, List.set_cons_zero, List.set_cons_succ, i64_w, i32_w]
                    rfl
                  refine pure_ (i := 4) (N := (some 64)) (v := ?_) (a' := ?_) #[true, true, true, false, true, false, false, false, false, false, false, false] rfl rfl (any_of HT_.out (by kernel_rfl)) (fun _ _ _ h => h) (Or.inl ⟨by rfl, ?_⟩) ?_ ?_
                  rotate_left
                  · intro w'
                    go_simp
                    with_reducible rfl
                  rotate_left
                  · simp only [Act.put, List.setIfInBounds_toArray, List.set_cons_zero, List.set_cons_succ, i64_w, i32_w]
                    rfl
                  refine pure_ (i := 5) (N := (some 65)) (v := ?_) (a' := ?_) #[true, true, true, false, true, true, false, false, false, false, false, false] rfl rfl (any_of HT_.out (by kernel_rfl)) (fun _ _ _ h => h) (Or.inl ⟨by rfl, ?_⟩) ?_ ?_
                  rotate_left
                  · intro w'
                    go_simp
                    with_reducible rfl
                  rotate_left
                  · simp only [Act.put, List.setIfInBounds_toArray, List.set_cons_zero, List.set_cons_succ, i64_w, i32_w]
                    rfl
                  refine pure_ (i := 6) (N := (some 66)) (v := ?_) (a' := ?_) #[true, true, true, false, true, true, true, false, false, false, false, false] rfl rfl (any_of HT_.out (by kernel_rfl)) (fun _ _ _ h => h) (Or.inl ⟨by rfl, ?_⟩) ?_ ?_
                  rotate_left
                  · intro w'
                    go_simp
                    with_reducible rfl
                  rotate_left
                  · simp only [Act.put, List.setIfInBounds_toArray, List.set_cons_zero, List.set_cons_succ, i64_w, i32_w]
                    rfl
                  refine pure_ (i := 3) (N := (some 63)) (v := ?_) (a' := ?_) #[true, true, true, true, true, true, true, false, false, false, false, false] rfl rfl (any_of HT_.out (by kernel_rfl)) (fun _ _ _ h => h) (Or.inl ⟨by rfl, ?_⟩) ?_ ?_
                  rotate_left
                  · intro w'
                    go_simp
                    with_reducible rfl
                  rotate_left
                  · simp only [Act.put, List.setIfInBounds_toArray, List.set_cons_zero, List.set_cons_succ, i64_w, i32_w]
                    rfl
                  refine pure_ (i := 7) (N := (some 67)) (v := ?_) (a' := ?_) #[true, true, true, true, true, true, true, true, false, false, false, false] rfl rfl (any_of HT_.out (by kernel_rfl)) (fun _ _ _ h => h) (Or.inl ⟨by rfl, ?_⟩) ?_ ?_
                  rotate_left
                  · intro w'
                    go_simp
                    with_reducible rfl
                  rotate_left
                  · simp only [Act.put, List.setIfInBounds_toArray, List.set_cons_zero, List.set_cons_succ, i64_w, i32_w]
                    rfl
                  refine pure_ (i := 8) (N := (some 68)) (v := ?_) (a' := ?_) #[true, true, true, true, true, true, true, true, true, false, false, false] rfl rfl (any_of HT_.out (by kernel_rfl)) (fun _ _ _ h => h) (Or.inl ⟨by rfl, ?_⟩) ?_ ?_
                  rotate_left
                  · intro w'
                    go_simp
                    with_reducible rfl
                  rotate_left
                  · simp only [Act.put, List.setIfInBounds_toArray, List.set_cons_zero, List.set_cons_succ, i64_w, i32_w]
                    rfl
                  refine one_ (i := 9) (N := (some 69)) #[true, true, true, true, true, true, true, true, true, true, false, false] rfl rfl (one_of HT_.out (by kernel_rfl)) (by simp) (fun K_ hK_ => ?_)
                  refine R_move_step (P := Tryd.prog) base 69 rfl (by rfl) (.tmp 63) (.tmp 68) 22 5 rfl Tryd.underlying22 sizeQ (g := g) (n := n) (c := cap) (p := j) (q := k) (m := s + 1 - k) (m1 := n - j) (c2 := cap - j) (c3 := cap - k) (by rfl) (by rfl) rfl (Kd.R_drew HP1.out) HQ.out.1 HQ.out.2.1 HQ.out.2.2 (fun w3 hR3 hG3 => ?_)
                  have HR5 := Aside0.mk hR3
                  have HG5 := Aside0.mk (World.grownBy.trans (gQ (m := 1) HG3).out hG3)
                  clear hR3 hG3
                  simp only [Act.put, List.setIfInBounds_toArray, List.set_cons_zero, List.set_cons_succ]
                  refine hK_ _ _ trivial (fun _ => ?_)
                  refine pure_ (i := 10) (N := (some 70)) (v := ?_) (a' := ?_) #[true, true, true, true, true, true, true, true, true, true, true, false] rfl rfl (any_of HT_.out (by kernel_rfl)) (fun _ _ _ h => h) (Or.inl ⟨by rfl, ?_⟩) ?_ ?_
                  rotate_left
                  · intro w'
                    go_simp
                    with_reducible rfl
                  rotate_left
                  · simp only [Act.put, List.setIfInBounds_toArray, List.set_cons_zero, List.set_cons_succ, i64_w, i32_w]
                    rfl
                  refine pure_ (i := 11) (N := (some 3)) (v := ?_) (a' := ?_) #[true, true, true, true, true, true, true, true, true, true, true, true] rfl rfl (any_of HT_.out (by kernel_rfl)) (fun _ _ _ h => h) (Or.inl ⟨by rfl, ?_⟩) ?_ ?_
                  rotate_left
                  · intro w'
                    go_simp
                    with_reducible rfl
                  rotate_left
                  · simp only [Act.put, List.setIfInBounds_toArray, List.set_cons_zero, List.set_cons_succ, i64_w, i32_w]
                    rfl
                  refine done_ (done_of HT_.out (by kernel_rfl)) ?_
                  have HI6 := Aside0.mk (inv_copy (c2 := (cur.set s (markQ ((l.take e).drop s))).take j ++ (((cur.set s (markQ ((l.take e).drop s))).drop k).take (s + 1 - k) ++ (cur.set s (markQ ((l.take e).drop s))).drop (j + (s + 1 - k)))) HINV.out hjp HRUN.out HEND.out h1e (by rw [← List.drop_take]))
                  have hjn2 : j + (s + 1 - k) ≤ n := by have := HQ.out; omega
                  have hsj := w64Q (show j + (s + 1 - k) < 140737488355328 from by omega)
                  clear hs1 hjle hkle hsle
                  go_wp2
                  go_roundw
                  case rel => exact ⟨_, j + (s + 1 - k), e, e + 1, by rw [hsj], rfl, by go_num, by omega, hjn2, by omega, hen, HI6, by repeat (first | exact HR5 | apply rQ), by repeat (first | exact HG5 | apply gQ)⟩
                  case measure => simp [intOf]; omega
              · have hle : ¬ ((1 : Int) < (e : Int) - (s : Int)) := by omega
                have HI5 := Aside0.mk (show Inv l (cur.set s (markQ ((l.take e).drop s))) j k (e + 1) from by
                  have he1 : e = s + 1 := by omega
                  have h1 := HRUN.out
                  have h2 := HEND.out
                  rw [he1] at h1 h2 ⊢
                  exact inv_run1 HINV.out h1 h2)
                go_wp2
                go_roundw
                case rel => exact ⟨_, j, k, e + 1, rfl, rfl, by go_num, by omega, hjn, by omega, hkn, HI5, HP1, HG3⟩
                case measure => simp [intOf]; omega
            · have HMK := Aside0.mk (show markQ ((l.take e).drop s) = 10 by unfold markQ; rw [HANY.out]; rfl)
              obtain ⟨hcs, hfs⟩ := Kd.R_celln (0 : Int) HR2.out (s : Int) (by omega) (by omega)
              obtain ⟨hp1, hp2⟩ := Kd.R_putg HR2.out (s : Int) 10
              rw [Int.toNat_natCast] at hcs hfs hp1 hp2
              have HP1 := rSet HMK.out hp1
              have HG3 := Aside0.mk (World.grownBy.trans HG2.out hp2)
              clear hp1 hp2
              by_cases h1e : s + 1 < e
              · have hle : (1 : Int) < (e : Int) - (s : Int) := by omega
                by_cases hj0 : j = 0
                · subst hj0
                  have hk0 : k = 0 := HINV.out.2.1 rfl
                  subst hk0
                  have HI5 := Aside0.mk (inv_first HINV.out HRUN.out HEND.out h1e)
                  go_wp2
                  go_roundw
                  case rel => exact ⟨_, s + 1, e, e + 1, by go_num, rfl, by go_num, by omega, by omega, by omega, by omega, HI5, HP1, HG3⟩
                  case measure => simp [intOf]; omega
                · have hjp : 0 < j := by omega
                  have hjk := HINV.out.2.2.1 hjp
                  have hjz : ¬ ((j : Int) = 0) := by omega
                  have hq1 : j ≤ k := by omega
                  have hq2 : k + (s + 1 - k) ≤ n := by omega
                  have hq3 : 0 < s + 1 - k := by omega
                  have hne1 : ¬ (cap = j) := by omega
                  have hne2 : ¬ (cap = k) := by omega
                  have hs1 : wrap64 ((s : Int) + 1) = (s : Int) + 1 := by unfold wrap64; omega
                  have HQ := Aside0.mk (And.intro hq1 (And.intro hq2 hq3))
                  have hjle : (j : Int) ≤ (n : Int) := by omega
                  have hkle : (k : Int) ≤ (s : Int) + 1 := by omega
                  have hsle : (s : Int) + 1 ≤ (cap : Int) := by omega
                  clear hq1 hq2 hq3
                  go_wp2
                  refine start_ (n := 12) (S := fun w' => True) (ds := []) #[false, false, false, false, false, false, false, false, false, false, false, false] (by kernel_rfl) rfl rfl trivial (fun hHeld => ?_)
                  refine with_tabW sq.tab19 sq.bits19 (fun HT_ HW_ => ?_)
                  refine pure_ (i := 0) (N := (some 60)) (v := ?_) (a' := ?_) #[true, false, false, false, false, false, false, false, false, false, false, false] rfl rfl (any_of HT_.out (by kernel_rfl)) (fun _ _ _ h => h) (Or.inl ⟨by rfl, ?_⟩) ?_ ?_
                  rotate_left
                  · intro w'
                    go_simp
                    with_reducible rfl
                  rotate_left
                  · simp only [Act.put, List.setIfInBounds_toArray, List.set_cons_zero, List.set_cons_succ, i64_w, i32_w]
                    rfl
                  refine pure_ (i := 1) (N := (some 61)) (v := ?_) (a' := ?_) #[true, true, false, false, false, false, false, false, false, false, false, false] rfl rfl (any_of HT_.out (by kernel_rfl)) (fun _ _ _ h => h) (Or.inl ⟨by rfl, ?_⟩) ?_ ?_
                  rotate_left
                  · intro w'
                    go_simp
                    with_reducible rfl
                  rotate_left
                  · simp only [Act.put, List.setIfInBounds_toArray, List.set_cons_zero, List.set_cons_succ, i64_w, i32_w]
                    rfl
                  refine pure_ (i := 2) (N := (some 62)) (v := ?_) (a' := ?_) #[true, true, true, false, false, false, false, false, false, false, false, false] rfl rfl (any_of HT_.out (by kernel_rfl)) (fun _ _ _ h => h) (Or.inl ⟨by rfl, ?_⟩) ?_ ?_
                  rotate_left
                  · intro w'
                    go_simp
                    with_reducible rfl
                  rotate_left
                  · simp only [Act.put, List.setIfInBounds_toArray, List.set_cons_zero, List.set_cons_succ, i64_w, i32_w]
                    rfl
                  refine pure_ (i := 4) (N := (some 64)) (v := ?_) (a' := ?_) #[true, true, true, false, true, false, false, false, false, false, false, false] rfl rfl (any_of HT_.out (by kernel_rfl)) (fun _ _ _ h => h) (Or.inl ⟨by rfl, ?_⟩) ?_ ?_
                  rotate_left
                  · intro w'
                    go_simp
                    with_reducible rfl
                  rotate_left
                  · simp only [Act.put, List.setIfInBounds_toArray, List.set_cons_zero, List.set_cons_succ, i64_w, i32_w]
                    rfl
                  refine pure_ (i := 5) (N := (some 65)) (v := ?_) (a' := ?_) #[true, true, true, false, true, true, false, false, false, false, false, false] rfl rfl (any_of HT_.out (by kernel_rfl)) (fun _ _ _ h => h) (Or.inl ⟨by rfl, ?_⟩) ?_ ?_
                  rotate_left
                  · intro w'
                    go_simp
                    with_reducible rfl
                  rotate_left
                  · simp only [Act.put, List.setIfInBounds_toArray, List.set_cons_zero, List.set_cons_succ, i64_w, i32_w]
                    rfl
                  refine pure_ (i := 6) (N := (some 66)) (v := ?_) (a' := ?_) #[true, true, true, false, true, true, true, false, false, false, false, false] rfl rfl (any_of HT_.out (by kernel_rfl)) (fun _ _ _ h => h) (Or.inl ⟨by rfl, ?_⟩) ?_ ?_
                  rotate_left
                  · intro w'
                    go_simp
                    with_reducible rfl
                  rotate_left
                  · simp only [Act.put, List.setIfInBounds_toArray, List.set_cons_zero, List.set_cons_succ, i64_w, i32_w]
                    rfl
                  refine pure_ (i := 3) (N := (some 63)) (v := ?_) (a' := ?_) #[true, true, true, true, true, true, true, false, false, false, false, false] rfl rfl (any_of HT_.out (by kernel_rfl)) (fun _ _ _ h => h) (Or.inl ⟨by rfl, ?_⟩) ?_ ?_
                  rotate_left
                  · intro w'
                    go_simp
                    with_reducible rfl
                  rotate_left
                  · simp only [Act.put, List.setIfInBounds_toArray, List.set_cons_zero, List.set_cons_succ, i64_w, i32_w]
                    rfl
                  refine pure_ (i := 7) (N := (some 67)) (v := ?_) (a' := ?_) #[true, true, true, true, true, true, true, true, false, false, false, false] rfl rfl (any_of HT_.out (by kernel_rfl)) (fun _ _ _ h => h) (Or.inl ⟨by rfl, ?_⟩) ?_ ?_
                  rotate_left
                  · intro w'
                    go_simp
                    with_reducible rfl
                  rotate_left
                  · simp only [Act.put, List.setIfInBounds_toArray, List.set_cons_zero, List.set_cons_succ, i64_w, i32_w]
                    rfl
                  refine pure_ (i := 8) (N := (some 68)) (v := ?_) (a' := ?_) #[true, true, true, true, true, true, true, true, true, false, false, false] rfl rfl (any_of HT_.out (by kernel_rfl)) (fun _ _ _ h => h) (Or.inl ⟨by rfl, ?_⟩) ?_ ?_
                  rotate_left
                  · intro w'
                    go_simp
                    with_reducible rfl
                  rotate_left
                  · simp only [Act.put, List.setIfInBounds_toArray, List.set_cons_zero, List.set_cons_succ, i64_w, i32_w]
                    rfl
                  refine one_ (i := 9) (N := (some 69)) #[true, true, true, true, true, true, true, true, true, true, false, false] rfl rfl (one_of HT_.out (by kernel_rfl)) (by simp) (fun K_ hK_ => ?_)
                  refine R_move_step (P := Tryd.prog) base 69 rfl (by rfl) (.tmp 63) (.tmp 68) 22 5 rfl Tryd.underlying22 sizeQ (g := g) (n := n) (c := cap) (p := j) (q := k) (m := s + 1 - k) (m1 := n - j) (c2 := cap - j) (c3 := cap - k) (by rfl) (by rfl) rfl (Kd.R_drew HP1.out) HQ.out.1 HQ.out.2.1 HQ.out.2.2 (fun w3 hR3 hG3 => ?_)
                  have HR5 := Aside0.mk hR3
                  have HG5 := Aside0.mk (World.grownBy.trans (gQ (m := 1) HG3).out hG3)
                  clear hR3 hG3
                  simp only [Act.put, List.setIfInBounds_toArray, List.set_cons_zero, List.set_cons_succ]
                  refine hK_ _ _ trivial (fun _ => ?_)
                  refine pure_ (i := 10) (N := (some 70)) (v := ?_) (a' := ?_) #[true, true, true, true, true, true, true, true, true, true, true, false] rfl rfl (any_of HT_.out (by kernel_rfl)) (fun _ _ _ h => h) (Or.inl ⟨by rfl, ?_⟩) ?_ ?_
                  rotate_left
                  · intro w'
                    go_simp
                    with_reducible rfl
                  rotate_left
                  · simp only [Act.put, List.setIfInBounds_toArray, List.set_cons_zero, List.set_cons_succ, i64_w, i32_w]
                    rfl
                  refine pure_ (i := 11) (N := (some 3)) (v := ?_) (a' := ?_) #[true, true, true, true, true, true, true, true, true, true, true, true] rfl rfl (any_of HT_.out (by kernel_rfl)) (fun _ _ _ h => h) (Or.inl ⟨by rfl, ?_⟩) ?_ ?_
                  rotate_left
                  · intro w'
                    go_simp
                    with_reducible rfl
                  rotate_left
                  · simp only [Act.put, List.setIfInBounds_toArray, List.set_cons_zero, List.set_cons_succ, i64_w, i32_w]
                    rfl
                  refine done_ (done_of HT_.out (by kernel_rfl)) ?_
                  have HI6 := Aside0.mk (inv_copy (c2 := (cur.set s (markQ ((l.take e).drop s))).take j ++ (((cur.set s (markQ ((l.take e).drop s))).drop k).take (s + 1 - k) ++ (cur.set s (markQ ((l.take e).drop s))).drop (j + (s + 1 - k)))) HINV.out hjp HRUN.out HEND.out h1e (by rw [← List.drop_take]))
                  have hjn2 : j + (s + 1 - k) ≤ n := by have := HQ.out; omega
                  have hsj := w64Q (show j + (s + 1 - k) < 140737488355328 from by omega)
                  clear hs1 hjle hkle hsle
                  go_wp2
                  go_roundw
                  case rel => exact ⟨_, j + (s + 1 - k), e, e + 1, by rw [hsj], rfl, by go_num, by omega, hjn2, by omega, hen, HI6, by repeat (first | exact HR5 | apply rQ), by repeat (first | exact HG5 | apply gQ)⟩
                  case measure => simp [intOf]; omega
              · have hle : ¬ ((1 : Int) < (e : Int) - (s : Int)) := by omega
                have HI5 := Aside0.mk (show Inv l (cur.set s (markQ ((l.take e).drop s))) j k (e + 1) from by
                  have he1 : e = s + 1 := by omega
                  have h1 := HRUN.out
                  have h2 := HEND.out
                  rw [he1] at h1 h2 ⊢
                  exact inv_run1 HINV.out h1 h2)
                go_wp2
                go_roundw
                case rel => exact ⟨_, j, k, e + 1, rfl, rfl, by go_num, by omega, hjn, by omega, hkn, HI5, HP1, HG3⟩
                case measure => simp [intOf]; omega
    · have HRES := Aside0.mk (inv_end HINV.out (by rw [← HN.out]; omega))
      have hjk := HINV.out.2.2.1
      have hj0k := HINV.out.2.1
      by_cases hj0 : j = 0
      · subst hj0
        rw [if_pos rfl] at HRES
        go_wp2
        go_ret
        exact ⟨_, _, _, rfl, by rw [HRES.out, HCL.out], by rw [HRES.out]; have h9 := (Kd.R_reads' HR1.out).2.2; rw [HCL.out] at h9; exact h9, hnc, HG.out⟩
      · rw [if_neg hj0] at HRES
        have hjz : ¬ ((j : Int) = 0) := by omega
        have hjp : 0 < j := by omega
        have hjk2 := hjk hjp
        clear hjk hj0k
        by_cases hj1 : j = 1
        · subst hj1
          obtain ⟨k1, rfl⟩ : ∃ k1, k = k1 + 1 := ⟨k - 1, by omega⟩
          obtain ⟨hc0, hf0⟩ := Kd.R_celln (0 : Int) HR1.out (0 : Int) (by omega) (by omega)
          obtain ⟨x, hx⟩ : ∃ x, x = rdOf 0 cur 0 := ⟨_, rfl⟩
          rw [← hx] at hc0
          have HX := Aside0.mk hx
          obtain ⟨hp1, hp2⟩ := Kd.R_putg HR1.out (k1 : Int) x
          obtain ⟨hc1, hf1⟩ := Kd.R_celln (0 : Int) HR1.out (k1 : Int) (by omega) (by omega)
          simp only [Int.toNat_natCast, Int.toNat_zero] at hc0 hf0 hp1 hp2 hc1 hf1
          have HP1 := Aside0.mk hp1
          have HG3 := Aside0.mk (World.grownBy.trans HG.out hp2)
          clear hp1 hp2 hx
          have hs1 : wrap64 (((k1 + 1 : Nat) : Int) - 1) = (k1 : Int) := by unfold wrap64; omega
          have hs2 : wrap64 ((k1 : Int) + 1 - 1) = (k1 : Int) := by unfold wrap64; omega
          have hne : ¬ (cap = k1) := by omega
          go_wp2
          go_ret
          have hk1 : k1 < cur.length := by rw [HCL.out]; omega
          have h8 : sqz l = (cur.set k1 x).drop k1 := by
            rw [HRES.out]
            have e1 : (cur.set k1 x).drop k1 = x :: cur.drop (k1 + 1) := by
              rw [List.drop_eq_getElem_cons (by simpa using hk1), List.getElem_set_self, drop_set' (Nat.lt_succ_self k1)]
            have e2 : cur.take 1 = [x] := by
              rw [HX.out]
              cases hcur : cur with
              | nil => rw [hcur] at hk1; simp at hk1
              | cons a t => rfl
            rw [e1, e2]
            rfl
          have h9 : Kd.C (Kd.int .u8) _ _ (cur.set k1 x).length (cur.set k1 x) := (Kd.R_reads' HP1.out).2.2
          have h10 := Kd.C_drop (c := cap) (m := k1) h9 (by rw [List.length_set]; omega) (by rw [List.length_set, HCL.out]; exact hnc)
          rw [if_neg hne, ← h8, Option.map_some, show k1 * (Kd.int .u8).sz = k1 from Nat.mul_one k1, add_plain] at h10
          have h11 : (sqz l).length = n - k1 := by rw [h8, List.length_drop, List.length_set, HCL.out]
          exact ⟨some ⟨g, k1, none⟩, cap - k1, n - k1, rfl, h11.symm, by rw [← h11]; exact h10, by omega, HG3.out⟩
        · have hjz1 : ¬ ((j : Int) = 1) := by omega
          by_cases hkn2 : k < n
          · have hq2 : k + (n - k) ≤ n := by omega
            have hq3 : 0 < n - k := by omega
            have hne1 : ¬ (cap = j) := by omega
            have hne2 : ¬ (cap = k) := by omega
            have hjk1 : j ≤ k := by omega
            have HQ := Aside0.mk (And.intro hjk1 (And.intro hq2 hq3))
            have hjle : (j : Int) ≤ (n : Int) := by omega
            have hkle : (k : Int) ≤ (n : Int) := by omega
            clear hq2 hq3 hjk1
            go_wp2
            refine start_ (n := 10) (S := fun w' => True) (ds := []) #[false, false, false, false, false, false, false, false, false, false] (by kernel_rfl) rfl rfl trivial (fun hHeld => ?_)
            refine with_tabW sq.tab27 sq.bits27 (fun HT_ HW_ => ?_)
            refine pure_ (i := 0) (N := (some 92)) (v := ?_) (a' := ?_) #[true, false, false, false, false, false, false, false, false, false] rfl rfl (any_of HT_.out (by kernel_rfl)) (fun _ _ _ h => h) (Or.inl ⟨by rfl, ?_⟩) ?_ ?_
            rotate_left
            · intro w'
              go_simp
              with_reducible rfl
            rotate_left
            · simp only [Act.put, List.setIfInBounds_toArray, List.set_cons_zero, List.set_cons_succ, i64_w, i32_w]
              rfl
            refine pure_ (i := 1) (N := (some 93)) (v := ?_) (a' := ?_) #[true, true, false, false, false, false, false, false, false, false] rfl rfl (any_of HT_.out (by kernel_rfl)) (fun _ _ _ h => h) (Or.inl ⟨by rfl, ?_⟩) ?_ ?_
            rotate_left
            · intro w'
              go_simp
              with_reducible rfl
            rotate_left
            · simp only [Act.put, List.setIfInBounds_toArray, List.set_cons_zero, List.set_cons_succ, i64_w, i32_w]
              rfl
            refine pure_ (i := 2) (N := (some 94)) (v := ?_) (a' := ?_) #[true, true, true, false, false, false, false, false, false, false] rfl rfl (any_of HT_.out (by kernel_rfl)) (fun _ _ _ h => h) (Or.inl ⟨by rfl, ?_⟩) ?_ ?_
            rotate_left
            · intro w'
              go_simp
              with_reducible rfl
            rotate_left
            · simp only [Act.put, List.setIfInBounds_toArray, List.set_cons_zero, List.set_cons_succ, i64_w, i32_w]
              rfl
            refine pure_ (i := 4) (N := (some 96)) (v := ?_) (a' := ?_) #[true, true, true, false, true, false, false, false, false, false] rfl rfl (any_of HT_.out (by kernel_rfl)) (fun _ _ _ h => h) (Or.inl ⟨by rfl, ?_⟩) ?_ ?_
            rotate_left
            · intro w'
              go_simp
              with_reducible rfl
            rotate_left
            · simp only [Act.put, List.setIfInBounds_toArray, List.set_cons_zero, List.set_cons_succ, i64_w, i32_w]
              rfl
            refine pure_ (i := 5) (N := (some 97)) (v := ?_) (a' := ?_) #[true, true, true, false, true, true, false, false, false, false] rfl rfl (any_of HT_.out (by kernel_rfl)) (fun _ _ _ h => h) (Or.inl ⟨by rfl, ?_⟩) ?_ ?_
            rotate_left
            · intro w'
              go_simp
              with_reducible rfl
            rotate_left
            · simp only [Act.put, List.setIfInBounds_toArray, List.set_cons_zero, List.set_cons_succ, i64_w, i32_w]
              rfl
            refine pure_ (i := 3) (N := (some 95)) (v := ?_) (a' := ?_) #[true, true, true, true, true, true, false, false, false, false] rfl rfl (any_of HT_.out (by kernel_rfl)) (fun _ _ _ h => h) (Or.inl ⟨by rfl, ?_⟩) ?_ ?_
            rotate_left
            · intro w'
              go_simp
              with_reducible rfl
            rotate_left
            · simp only [Act.put, List.setIfInBounds_toArray, List.set_cons_zero, List.set_cons_succ, i64_w, i32_w]
              rfl
            refine pure_ (i := 6) (N := (some 98)) (v := ?_) (a' := ?_) #[true, true, true, true, true, true, true, false, false, false] rfl rfl (any_of HT_.out (by kernel_rfl)) (fun _ _ _ h => h) (Or.inl ⟨by rfl, ?_⟩) ?_ ?_
            rotate_left
            · intro w'
              go_simp
              with_reducible rfl
            rotate_left
            · simp only [Act.put, List.setIfInBounds_toArray, List.set_cons_zero, List.set_cons_succ, i64_w, i32_w]
              rfl
            refine one_ (i := 7) (N := (some 99)) #[true, true, true, true, true, true, true, true, false, false] rfl rfl (one_of HT_.out (by kernel_rfl)) (by simp) (fun K_ hK_ => ?_)
            refine R_move_step (P := Tryd.prog) base 99 rfl (by rfl) (.tmp 95) (.tmp 98) 22 5 rfl Tryd.underlying22 sizeQ (g := g) (n := n) (c := cap) (p := j) (q := k) (m := n - k) (m1 := n - j) (c2 := cap - j) (c3 := cap - k) (by rfl) (by rfl) rfl (Kd.R_drew HR1.out) HQ.out.1 HQ.out.2.1 HQ.out.2.2 (fun w3 hR3 hG3 => ?_)
            have HR5 := Aside0.mk hR3
            have HG5 := Aside0.mk (World.grownBy.trans (gQ (m := 1) HG).out hG3)
            clear hR3 hG3
            simp only [Act.put, List.setIfInBounds_toArray, List.set_cons_zero, List.set_cons_succ]
            refine hK_ _ _ trivial (fun _ => ?_)
            refine pure_ (i := 8) (N := (some 100)) (v := ?_) (a' := ?_) #[true, true, true, true, true, true, true, true, true, false] rfl rfl (any_of HT_.out (by kernel_rfl)) (fun _ _ _ h => h) (Or.inl ⟨by rfl, ?_⟩) ?_ ?_
            rotate_left
            · intro w'
              go_simp
              with_reducible rfl
            rotate_left
            · simp only [Act.put, List.setIfInBounds_toArray, List.set_cons_zero, List.set_cons_succ, i64_w, i32_w]
              rfl
            refine pure_ (i := 9) (N := (some 3)) (v := ?_) (a' := ?_) #[true, true, true, true, true, true, true, true, true, true] rfl rfl (any_of HT_.out (by kernel_rfl)) (fun _ _ _ h => h) (Or.inl ⟨by rfl, ?_⟩) ?_ ?_
            rotate_left
            · intro w'
              go_simp
              with_reducible rfl
            rotate_left
            · simp only [Act.put, List.setIfInBounds_toArray, List.set_cons_zero, List.set_cons_succ, i64_w, i32_w]
              rfl
            refine done_ (done_of HT_.out (by kernel_rfl)) ?_
            have hjn2 : j + (n - k) ≤ n := by have := HQ.out; omega
            have hsj := w64Q (show j + (n - k) < 140737488355328 from by omega)
            clear hjle hkle
            have hpos : (0 : Int) ≤ wrap64 ((j : Int) + ((n - k : Nat) : Int)) := by rw [hsj]; omega
            have hle3 : wrap64 ((j : Int) + ((n - k : Nat) : Int)) ≤ (cap : Int) := by rw [hsj]; omega
            have htn : (wrap64 ((j : Int) + ((n - k : Nat) : Int))).toNat = j + (n - k) := by rw [hsj]; rfl
            go_wp2
            go_ret
            have h9 := (Kd.R_reads' HR5.out).2.2
            have h8 : sqz l = (cur.take j ++ ((cur.drop k).take (n - k) ++ cur.drop (j + (n - k)))).take (j + (n - k)) := by
              have e1 : (cur.drop k).take (n - k) = cur.drop k := List.take_of_length_le (by rw [List.length_drop, HCL.out]; exact Nat.le_refl _)
              rw [HRES.out, e1, ← List.append_assoc]; exact (List.take_left' (by rw [List.length_append, List.length_take, List.length_drop, HCL.out]; omega)).symm
            have hl5 : (cur.take j ++ ((cur.drop k).take (n - k) ++ cur.drop (j + (n - k)))).length = n := (Kd.R_reads' HR5.out).1.symm
            have h10 := Kd.C_take (m := j + (n - k)) h9 (by rw [hl5]; exact hjn2)
            rw [← h8] at h10
            have h11 : (sqz l).length = j + (n - k) := by rw [h8, List.length_take, hl5]; omega
            exact ⟨_, _, _, rfl, h11.symm, by rw [h11] at h10; exact h10, by omega, HG5.out⟩
          · have hkk : k = n := by omega
            have HKK := Aside0.mk hkk
            have hjle : (j : Int) ≤ (cap : Int) := by omega
            clear hkk
            go_wp2
            go_ret
            refine ⟨_, _, _, rfl, ?_, ?_, by omega, HG.out⟩
            · rw [HRES.out, HKK.out, List.length_append, List.length_take, List.length_drop, HCL.out]; omega
            · have h9 := (Kd.R_reads' HR1.out).2.2
              have h10 := Kd.C_take (m := j) h9 (by rw [HCL.out]; exact hjn)
              have h11 : sqz l = cur.take j := by rw [HRES.out, HKK.out, List.drop_of_length_le (by rw [HCL.out]; exact Nat.le_refl _), List.append_nil]
              rw [h11]
              rw [List.length_take, HCL.out, Nat.min_eq_left hjn] at h10
              exact h10
theorem squeeze_nil (w : World) : Calls Tryd.prog 24 #[.slice none 0 0] w fun e w' => e = .returned (.slice none 0 0) ∧ w' = w := by
  go_enter Tryd.func24, Tryd.ntmps24
  go_wp2
  refine wp_loop_rounds 1 ?_
  rw [rounds_succ]
  go_wp2
  go_ret
  exact ⟨rfl, rfl⟩
theorem sqz_len : ∀ (n : Nat) (l : List Int), l.length ≤ n → (sqz l).length ≤ l.length
  | _, [], _ => by rw [sqz]; simp
  | 0, c :: t, h => by simp at h
  | n + 1, c :: t, h => by
    have h1 : (t.dropWhile wsQ).length ≤ t.length := (List.dropWhile_sublist _).length_le
    simp only [List.length_cons] at h
    rw [sqz]
    by_cases hc : wsQ c = true
    · rw [if_pos hc]
      have := sqz_len n (t.dropWhile wsQ) (by omega)
      simp only [List.length_cons]
      omega
    · rw [if_neg hc]
      have := sqz_len n t (by omega)
      simp only [List.length_cons]
      omega
def impl_Squeeze.f (l0 : List Int) : Option (List Int) := if l0.length < 140737488355328 ∧ l0.all byQ = true then some (sqz l0) else none
set_option maxHeartbeats 1000000 in
theorem impl_Squeeze.calls (A0 : Option Addr) (c0 : Nat) (l0 : List Int) (r : List Int) (w : World) (hr0 : Kd.C (Kd.int .u8) w A0 l0.length l0) (hc0 : l0.length ≤ c0) (h : impl_Squeeze.f l0 = some r) (HTabN : Aside0 (TabN w)) (HTabW : Aside0 (TabW w)) :
    Calls Tryd.prog 15 #[.slice A0 l0.length c0] w fun e w' => ∃ v0_ : Value, e = .returned (v0_) ∧ Kd.R (Kd.int .u8) 5 w' w.heap.size (fun _ => True) v0_ r ∧ Below w.heap.size w w' := by
  unfold impl_Squeeze.f at h
  by_cases hl : l0.length < 140737488355328 ∧ l0.all byQ = true
  · rw [if_pos hl] at h
    obtain rfl := Option.some.inj h
    clear h
    obtain ⟨hl, hby⟩ := hl
    have ho : ∀ l : List Int, l.length < 140737488355328 → impl_own.f l = some l := fun l hl => by unfold impl_own.f; simp [hl]
    have HO := Aside0.mk ho
    have HR := Aside0.mk hr0
    have HY := Aside0.mk hby
    have HL := Aside0.mk (Nat.lt_of_le_of_lt (sqz_len l0.length l0 (Nat.le_refl _)) hl)
    have hz1 := World.block_lt_of_cell? w _ (HTabW.out 0 (by omega))
    have hz2 := World.block_lt_of_cell? w _ (HTabN.out 0 (by omega))
    have HZ := Aside0.mk (show 1 < w.heap.size by simp only at hz1 hz2; omega)
    clear ho hr0 hby hz1 hz2
    go_enter Tryd.func15, Tryd.ntmps15
    go_wp2_with fail
    refine (impl_own.calls A0 c0 l0 l0 w HR.out hc0 (HO.out _ hl)).mono ?_
    rintro e w1 ⟨v, rfl, hv, hb⟩
    have HV := Aside0.mk hv
    have HB := Aside0.mk hb
    clear hv hb
    rcases (Kd.own_of_R HV.out).2 with ⟨rfl, h0⟩ | ⟨g, cap, cur, rfl, hg, _⟩
    · obtain rfl := List.eq_nil_of_length_eq_zero h0
      go_wp2_with fail
      refine (squeeze_nil w1).mono ?_
      rintro e w2 ⟨rfl, rfl⟩
      go_wp2_with fail
      refine (impl_own.calls none 0 [] [] _ (by exact ⟨rfl, by simp, fun h => by simp at h⟩) (Nat.le_refl _) (HO.out _ (by simp))).mono ?_
      rintro e w3 ⟨v3, rfl, hv3, hb3⟩
      have HV3 := Aside0.mk hv3
      have HB3 := Aside0.mk hb3
      clear hv3 hb3
      go_wp2
      go_ret
      have hs := HB.out.size
      exact ⟨_, rfl, by rw [sqz]; exact Kd.R_lower HV3.out hs, below_then HB.out hs HB3.out⟩
    · go_wp2_with fail
      refine (squeeze_any g cap w.heap.size l0.length l0 w1 HV.out hl HY.out (by have := HZ.out; omega) ⟨TabAt.below HTabW.out HB.out⟩ ⟨TabAt.below HTabN.out HB.out⟩).mono ?_
      rintro e w2 ⟨A2, c2, n2, rfl, hn2, hC2, hc2, h3⟩
      have HC2 := Aside0.mk hC2
      have HG2 := Aside0.mk h3
      clear hC2 h3
      subst hn2
      go_wp2_with fail
      refine (impl_own.calls A2 c2 (sqz l0) (sqz l0) _ HC2.out hc2 (HO.out _ HL.out)).mono ?_
      rintro e w3 ⟨v3, rfl, hv3, hb3⟩
      have HV3 := Aside0.mk hv3
      have HB3 := Aside0.mk hb3
      clear hv3 hb3
      go_wp2
      go_ret
      have hb2 : Below w.heap.size w w2 := HB.out.grown HG2.out HB.out.size (fun k hk => by obtain rfl := Option.some.inj hk; exact hg)
      exact ⟨_, rfl, Kd.R_lower HV3.out hb2.size, below_then hb2 hb2.size HB3.out⟩
  · rw [if_neg hl] at h
    cases h
end Go.Proofs.YtkgaladmiiglaaaDoor.Own
