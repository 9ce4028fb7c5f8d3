/- Several rows of a call's own side by side; what the law FnDeclare reckons. -/
import Derived.Test.YtohfnhfpiipglaaCScR
import Derived.Test.YtohfnhfpiipglaaCScP
namespace Go.Proofs.Ytohfnhfpiipglaa.Own
open Go.RowKit Go.Proofs.YtohfnhfpiipglaaW.PrintWords Go.Proofs.YtohfnhfpiipglaaW.PrintLast
set_option linter.unusedVariables false
set_option linter.unusedSimpArgs false
structure Row where
  T : TypeId
  v : Value
  cs : List Value
def Rows (w W : World) (rs : List Row) : Prop := Below w.heap.size w W ∧ (∀ r ∈ rs, ORow W w.heap.size r.T r.v r.cs) ∧ (rs.map (fun r => r.v.ownBlock)).Nodup
section
variable {w W : World} {rs : List Row}
theorem Rows.at (h : Rows w W rs) {i : Nat} {T : TypeId} {v : Value} {cs : List Value} (hi : rs[i]? = some ⟨T, v, cs⟩) : ORow W w.heap.size T v cs := h.2.1 _ (List.mem_of_getElem? hi)
theorem Rows.sub {rs' : List Row} (h : Rows w W rs) (hs : rs'.Sublist rs) : Rows w W rs' := ⟨h.1, fun r hr => h.2.1 r (hs.subset hr), h.2.2.sublist (hs.map _)⟩
theorem Rows.below {W' : World} (h : Rows w W rs) (hb : Below W.heap.size W W') : Rows w W' rs := ⟨below_step h.1 hb, fun r hr => (h.2.1 r hr).below hb, h.2.2⟩
theorem Rows.new (h : Rows w W rs) (T : TypeId) (cs : List Value) (n : Nat) (hn : n = cs.length) (hl : n ≤ 1000) : Rows w (W.alloc (.cells cs.toArray T)) (rs ++ [⟨T, .slice (some ⟨W.heap.size, 0, none⟩) n n, cs⟩]) := by
  subst hn
  have hal : Below W.heap.size W (W.alloc (.cells cs.toArray T)) := (Below.refl _ _).alloc (Nat.le_refl _) _
  have hm : maxLen = 9223372036854775807 := rfl
  refine ⟨h.1.alloc h.1.size _, fun r hr => ?_, ?_⟩
  · rcases List.mem_append.1 hr with hr | hr
    · exact (h.2.1 r hr).below hal
    · obtain rfl := List.mem_singleton.1 hr
      exact ⟨W.heap.size, cs.length, cs.toArray, rfl, h.1.size, al_eq rfl, Nat.le_refl _, by omega, by simp, by simp⟩
  · rw [List.map_append, List.nodup_append]
    refine ⟨h.2.2, by simp, fun a ha b hb e => ?_⟩
    obtain ⟨r, hr, rfl⟩ := List.mem_map.1 ha
    have hb' : b = some W.heap.size := by simpa [Value.ownBlock] using hb
    obtain ⟨g, _, cur, _, ho, _, hblk⟩ := (h.2.1 r hr).own
    rw [e, hb'] at ho
    have := (Array.getElem?_eq_some_iff.1 hblk).1
    cases ho
    omega
theorem Rows.app {T t bytes : Nat} {z : Value} (ht : Try.prog.underlying t = some (.slice T)) (hinfo : (Try.prog.info? T).map (fun i => (i.zero, i.size, i.bytes)) = some (some z, 1, bytes)) (hz : z.cells.size = 1) (hby : bytes ≤ 16) (h : Rows w W rs) {i j q : Nat} {v x : Value} {cs : List Value} (hi : rs[i]? = some ⟨T, v, cs⟩) (hj : rs[j]? = some ⟨T, .slice (some ⟨q, 0, none⟩) 1 1, [x]⟩) (hl : cs.length ≤ 1000000) (hx : x.oneCell' = true) :
    ∃ v' w1, (∀ ty, (Builtin.append_ #[t, t] ty #[v, .slice (some ⟨q, 0, none⟩) 1 1]).run Try.prog W = .ok v' w1) ∧ Rows w w1 (rs.set i ⟨T, v', cs ++ [x]⟩) := by
  obtain ⟨i0, hi0, hz0, hs1, hb1⟩ := info_parts hinfo
  have hlit := h.at hj
  obtain ⟨_, _, e1, hcell⟩ := hlit.cell
  cases e1
  obtain ⟨g0, cap0, cur0, h1, h2, h3, h4, h5, h6, h7⟩ := h.at hi
  have hown : W.ownsRow w.heap.size T 1 v cs.length cs := ⟨by simp, .inr ⟨g0, cap0, cur0, h1, h2, h3, h4, h5, by omega, by simpa using h7⟩⟩
  have hmx : maxLen = 9223372036854775807 := rfl
  have hmul : (cs.length + 1) * bytes ≤ 1000001 * 16 := Nat.mul_le_mul (by omega) hby
  obtain ⟨v', w', hrun, hown2, hg, _, hat⟩ := run_append_own_at (P := Try.prog) W w.heap.size t 0 T i0 z 1 bytes ht hi0 hz0 hs1 hb1 hz (by decide) v cs.length cs hown ⟨q, 0, none⟩ 1 1 [x] rfl (fun k u hk => by
    have hk0 : k = 0 := by have := (List.getElem?_eq_some_iff.1 hk).1; simp at this; exact this
    subst hk0
    simp at hk
    subst hk
    rw [add_plain]
    exact hcell 0 (by simp)) (fun u hu => by obtain rfl := List.mem_singleton.1 hu; exact hx) (by omega) (by omega) h.1.size
  have hvo : v.ownBlock = some g0 := by rw [h1]; rfl
  have hlen := (List.getElem?_eq_some_iff.1 hi).1
  have hother : ∀ k r, k ≠ i → rs[k]? = some r → r.v.ownBlock ≠ v.ownBlock := fun k r hk hr he => by
    obtain ⟨hkl, hkr⟩ := List.getElem?_eq_some_iff.1 hr
    obtain ⟨hil, hir⟩ := List.getElem?_eq_some_iff.1 hi
    refine hk ((List.getElem_inj (xs := rs.map (fun r => r.v.ownBlock)) (i := k) (j := i) (h₀ := by simpa using hkl) (h₁ := by simpa using hil) h.2.2).1 ?_)
    rw [List.getElem_map, List.getElem_map, hkr, hir]
    exact he
  have hnew : ORow w' w.heap.size T v' (cs ++ [x]) := by
    rcases hown2.2 with ⟨_, h0⟩ | ⟨g, cap, cur, rfl, hbg, hblk, hnc, hcm, hcs, htake⟩
    · omega
    · exact ⟨g, cap, cur, by simp, hbg, hblk, by simpa using hnc, hcm, by omega, by simpa using htake⟩
  have hkeep : ∀ k r, k ≠ i → rs[k]? = some r → ORow w' w.heap.size r.T r.v r.cs := fun k r hk hr => by
    have hne := hother k r hk hr
    obtain ⟨g, cap, cur, k1, k2, k3, k4⟩ := h.2.1 r (List.mem_of_getElem? hr)
    have ho : r.v.ownBlock = some g := by rw [k1]; rfl
    exact ⟨g, cap, cur, k1, k2, (hg.block g (Array.getElem?_eq_some_iff.1 k3).1 (by rw [← ho]; exact hne)).trans k3, k4⟩
  refine ⟨v', w', fun _ => hrun, h.1.grown hg h.1.size (fun k hk => by rw [hvo] at hk; cases hk; exact h2), fun r hr => ?_, ?_⟩
  · obtain ⟨k, hk, hkr⟩ := List.mem_iff_getElem.1 hr
    rw [List.getElem_set] at hkr
    by_cases e : i = k
    · rw [if_pos e] at hkr
      rw [← hkr]
      exact hnew
    · rw [if_neg e] at hkr
      exact hkeep k r (fun e2 => e e2.symm) (by rw [List.getElem?_eq_getElem (by simpa using hk), hkr])
  · rw [List.map_set]
    have hnd := h.2.2
    rw [List.nodup_iff_pairwise_ne] at hnd ⊢
    rw [List.pairwise_iff_getElem] at hnd ⊢
    have hvn : ∀ k (hk : k < rs.length), k ≠ i → (rs[k]).v.ownBlock ≠ v'.ownBlock := fun k hk hki he => by
      have hr : rs[k]? = some rs[k] := List.getElem?_eq_getElem hk
      rcases hat with hat | hat
      · exact hother k _ hki hr (he.trans hat)
      · obtain ⟨g, _, cur, _, ho, _, hblk⟩ := (h.2.1 rs[k] (List.getElem_mem hk)).own
        rw [he, hat] at ho
        cases ho
        have := (Array.getElem?_eq_some_iff.1 hblk).1
        omega
    intro a b ha hb hab
    simp only [List.length_set, List.length_map] at ha hb
    rw [List.getElem_set, List.getElem_set]
    by_cases ea : i = a
    · rw [if_pos ea, if_neg (by omega), List.getElem_map]
      exact fun e => hvn b hb (by omega) e.symm
    · rw [if_neg ea, List.getElem_map]
      by_cases eb : i = b
      · rw [if_pos eb]
        exact hvn a ha (by omega)
      · rw [if_neg eb]
        have := hnd a b (by simpa using ha) (by simpa using hb) hab
        simpa using this
end
/-! ### what the law reckons -/
def LexOk (st : List (ByteArray × Int)) (lx : List ByteArray) : Prop := ∀ s, s ∈ lx ↔ ∃ x ∈ st, x.1 = s ∧ x.2 = 5
def ThereOk (st : List (ByteArray × Int)) (th : List ByteArray) : Prop := ∀ s, s ∈ th ↔ s ∈ st.map Prod.fst
theorem find_pair {st : List (ByteArray × Int)} {name : ByteArray} {x : ByteArray × Int} (hf : st.find? (fun x => x.1.toList == name.toList) = some x) : x ∈ st ∧ x.1 = name := by
  refine ⟨List.mem_of_find?_eq_some hf, ?_⟩
  have h2 := eq_of_beq (List.find?_some (p := fun x : ByteArray × Int => x.1.toList == name.toList) hf)
  apply ba_ext
  rw [← ByteArray.toList_eq, ← ByteArray.toList_eq, h2]
theorem find_pair_no {st : List (ByteArray × Int)} {name : ByteArray} (hf : st.find? (fun x => x.1.toList == name.toList) = none) : ∀ x ∈ st, x.1 ≠ name := fun x hx he => (List.find?_eq_none.1 hf x hx) (by rw [he]; exact beq_self_eq_true _)
theorem decl_nodup {st : List (ByteArray × Int)} (h : (st.map Prod.fst).Nodup) (d : Int) (name : ByteArray) : ((declStep st d name).1.map Prod.fst).Nodup := by
  unfold declStep
  cases hf : st.find? (fun x => x.1.toList == name.toList) with
  | some x => exact h
  | none =>
    show ((st ++ [(name, d)]).map Prod.fst).Nodup
    rw [List.map_append, List.nodup_append]
    exact ⟨h, by simp, fun a ha b hb e => by
      obtain ⟨x, hx, rfl⟩ := List.mem_map.1 ha
      simp at hb
      exact find_pair_no hf x hx (by rw [e, hb])⟩
theorem decl_fine {st : List (ByteArray × Int)} {lx th : List ByteArray} (hn : (st.map Prod.fst).Nodup) (hl : LexOk st lx) (ht : ThereOk st th) (k : Int) (name : ByteArray) : (declStep st (kOf k) name).2 = (!hasB lx name && (!(k == 2) || !hasB th name)) := by
  have hk : ((kOf k : Int) == 5) = (k == 2) := by
    unfold kOf
    by_cases h1 : k = 1
    · subst h1; rfl
    · by_cases h2 : k = 2
      · subst h2; rfl
      · rw [if_neg h1, if_neg h2]
        simp [h2]
  unfold declStep
  cases hf : st.find? (fun x => x.1.toList == name.toList) with
  | some x =>
    obtain ⟨hx, hxn⟩ := find_pair hf
    have h1 : hasB th name = true := (hasB_iff th name).2 ((ht name).2 (by rw [← hxn]; exact List.mem_map.2 ⟨x, hx, rfl⟩))
    have h2 : hasB lx name = (x.2 == 5) := by
      rw [Bool.eq_iff_iff, hasB_iff, hl name, beq_iff_eq]
      constructor
      · rintro ⟨y, hy, h3, h4⟩
        obtain ⟨i, hi, rfl⟩ := List.mem_iff_getElem.1 hy
        obtain ⟨j, hj, rfl⟩ := List.mem_iff_getElem.1 hx
        have : i = j := (List.getElem_inj (xs := st.map Prod.fst) (i := i) (j := j) (h₀ := by simpa using hi) (h₁ := by simpa using hj) hn).1 (by rw [List.getElem_map, List.getElem_map, h3, hxn])
        subst this
        exact h4
      · exact fun h4 => ⟨x, hx, hxn, h4⟩
    show (!(x.2 == 5 || kOf k == 5)) = _
    rw [h1, h2, hk]
    cases (x.2 == 5) <;> cases (k == 2) <;> rfl
  | none =>
    have h1 : hasB th name = false := by
      rw [Bool.eq_false_iff]
      intro h
      obtain ⟨x, hx, hxn⟩ := List.mem_map.1 ((ht name).1 ((hasB_iff th name).1 h))
      exact find_pair_no hf x hx hxn
    have h2 : hasB lx name = false := by
      rw [Bool.eq_false_iff]
      intro h
      obtain ⟨x, hx, hxn, _⟩ := (hl name).1 ((hasB_iff lx name).1 h)
      exact find_pair_no hf x hx hxn
    show true = _
    rw [h1, h2]
    cases (k == 2) <;> rfl
theorem decl_there {st : List (ByteArray × Int)} {th : List ByteArray} (ht : ThereOk st th) (d : Int) (name : ByteArray) : ThereOk (declStep st d name).1 (th ++ [name]) := fun s => by
  rw [decl_names, List.mem_append, List.mem_singleton, ht s]
theorem decl_lex {st : List (ByteArray × Int)} {lx th : List ByteArray} (hn : (st.map Prod.fst).Nodup) (hl : LexOk st lx) (ht : ThereOk st th) (k : Int) (name : ByteArray) : LexOk (declStep st (kOf k) name).1 (if ((declStep st (kOf k) name).2 && k == 2) = true then lx ++ [name] else lx) := by
  have hk : kOf k = 5 ↔ k = 2 := by
    unfold kOf
    by_cases h1 : k = 1
    · subst h1; decide
    · by_cases h2 : k = 2
      · subst h2; decide
      · rw [if_neg h1, if_neg h2]
        exact ⟨fun h => by omega, fun h => absurd h h2⟩
  have hfine := decl_fine hn hl ht k name
  unfold declStep at hfine ⊢
  cases hf : st.find? (fun x => x.1.toList == name.toList) with
  | some x =>
    rw [hf] at hfine
    have hno : ((!(x.2 == 5 || kOf k == 5)) && k == 2) = false := by
      by_cases h2 : k = 2
      · have : kOf k = 5 := hk.2 h2
        rw [this]
        simp
      · simp [h2]
    show LexOk st (if ((!(x.2 == 5 || kOf k == 5)) && k == 2) = true then lx ++ [name] else lx)
    rw [hno]
    exact hl
  | none =>
    show LexOk (st ++ [(name, kOf k)]) (if (true && k == 2) = true then lx ++ [name] else lx)
    by_cases h2 : k = 2
    · rw [if_pos (by simp [h2])]
      intro s
      rw [List.mem_append, hl s, List.mem_singleton]
      constructor
      · rintro (⟨x, hx, h⟩ | rfl)
        · exact ⟨x, List.mem_append_left _ hx, h⟩
        · exact ⟨(s, kOf k), by simp, rfl, hk.2 h2⟩
      · rintro ⟨x, hx, h3, h4⟩
        rcases List.mem_append.1 hx with hx | hx
        · exact .inl ⟨x, hx, h3, h4⟩
        · obtain rfl := List.mem_singleton.1 hx
          exact .inr h3.symm
    · rw [if_neg (by simp [h2])]
      intro s
      rw [hl s]
      constructor
      · rintro ⟨x, hx, h⟩
        exact ⟨x, List.mem_append_left _ hx, h⟩
      · rintro ⟨x, hx, h3, h4⟩
        rcases List.mem_append.1 hx with hx | hx
        · exact ⟨x, hx, h3, h4⟩
        · obtain rfl := List.mem_singleton.1 hx
          exact absurd (hk.1 h4) h2
theorem runD_grow : ∀ (l : List Dc) (s : List (ByteArray × Int) × List Bool), ∃ t, (l.foldl runOne s).2 = s.2 ++ t
  | [], s => ⟨[], by simp⟩
  | d :: r, s => by
    obtain ⟨t, ht⟩ := runD_grow r (runOne s d)
    exact ⟨(declStep s.1 (kOf d.kind) d.name).2 :: t, by rw [List.foldl_cons, ht]; simp [runOne]⟩
theorem runD_at (L : List Dc) (k : Nat) (hk : k < L.length) : (runD L).2[k]'(by rw [runD_len]; exact hk) = (declStep (runD (L.take k)).1 (kOf L[k].kind) L[k].name).2 := by
  have h1 : runD L = (L.drop (k + 1)).foldl runOne (runD (L.take (k + 1))) := by
    unfold runD
    rw [← List.foldl_append, List.take_append_drop]
  obtain ⟨t, ht⟩ := runD_grow (L.drop (k + 1)) (runD (L.take (k + 1)))
  have h2 : (runD L).2 = ((runD (L.take k)).2 ++ [(declStep (runD (L.take k)).1 (kOf L[k].kind) L[k].name).2]) ++ t := by rw [h1, ht, runD_snoc L k hk]; rfl
  have h3 : (runD (L.take k)).2.length = k := by rw [runD_len, List.length_take]; omega
  have h4 : (runD L).2[k]? = some (declStep (runD (L.take k)).1 (kOf L[k].kind) L[k].name).2 := by
    rw [h2, List.append_assoc, List.getElem?_append_right (by omega), h3]
    simp
  exact (List.getElem?_eq_some_iff.1 h4).2
theorem runD_nodup (L : List Dc) : ∀ k, k ≤ L.length → ((runD (L.take k)).1.map Prod.fst).Nodup
  | 0, _ => List.nodup_nil
  | k + 1, hk => by
    rw [runD_snoc L k (by omega)]
    exact decl_nodup (runD_nodup L k (by omega)) _ _
end Go.Proofs.Ytohfnhfpiipglaa.Own
