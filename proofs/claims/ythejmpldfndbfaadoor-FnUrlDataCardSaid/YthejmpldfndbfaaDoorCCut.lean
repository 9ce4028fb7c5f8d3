/- 'out = append(out[:k], out[j:]...)': some elements taken out of a row of one's own, in place. (After the words' lemma on one element.) -/
import Derived.Test.YthejmpldfndbfaaDoorWMore
namespace Go.Proofs.YthejmpldfndbfaaDoor.Own
open Go.RowKit Go.Proofs.YthejmpldfndbfaaDoorW.PrintWords Go.Proofs.YthejmpldfndbfaaDoorW.PrintLast Go.Proofs.YthejmpldfndbfaaDoorW.PrintWords.Kd
set_option linter.unusedVariables false
section
variable {P : Program} {α : Type}
theorem R_cutout_run (d : Kd α) {W : World} (base : Nat) (t ty e : TypeId) (i : TypeInfo) (ht : P.underlying t = some (.slice e)) (hi : P.info? e = some i) (hsz : i.size = d.sz)
    {g n c k m : Nat} {xs : List α} {ok : Nat → Prop} (HO : d.R e W base ok (.slice (some ⟨g, 0, none⟩) n c) xs) (hk : k ≤ m) (hm : m ≤ n) {A : Option Addr} (hA : A = if c = m then some ⟨g, 0, none⟩ else (some (⟨g, 0, none⟩ : Addr)).map (·.add (m * d.sz))) (c2 : Nat) :
    ∃ w1, (Builtin.append_ #[t, t] ty #[.slice (some ⟨g, 0, none⟩) k c, .slice A (n - m) c2]).run P W = .ok (.slice (some ⟨g, 0, none⟩) (k + (n - m)) c) w1 ∧ d.R e w1 base ok (.slice (some ⟨g, 0, none⟩) (k + (n - m)) c) (xs.take k ++ xs.drop m) ∧ W.grownBy w1 (some g) := by
  obtain ⟨hn, hnc, _⟩ := R_reads' HO
  obtain ⟨hok, inner, hown, hr⟩ := HO
  have hin : inner.length = n * d.sz := by rw [hr.1, hn]
  rcases hown.2 with ⟨hv, _⟩ | ⟨g', cap', cur, hv, hb, hh, _, hcm, hcs, htake⟩
  · cases hv
  injection hv with ha _ hc
  injection ha with ha
  injection ha with hg
  subst hg; subst hc
  rw [← hn] at htake
  obtain ⟨news, hnews⟩ : ∃ news, news = inner.drop (m * d.sz) := ⟨_, rfl⟩
  have hnl : news.length = (n - m) * d.sz := by rw [hnews, List.length_drop, hin, Nat.sub_mul]
  have hle : m * d.sz ≤ n * d.sz := Nat.mul_le_mul_right _ hm
  have hks : k * d.sz ≤ m * d.sz := Nat.mul_le_mul_right _ hk
  have hnc' : n * d.sz ≤ c * d.sz := Nat.mul_le_mul_right _ hnc
  have hsub : (n - m) * d.sz = n * d.sz - m * d.sz := Nat.sub_mul _ _ _
  have hcur : ∀ q, q < n * d.sz → cur.toList[q]? = inner[q]? := by
    intro q hq
    rw [← htake, List.getElem?_take, if_pos hq]
  obtain ⟨a, rfl, hcell⟩ : ∃ a, A = some a ∧ ∀ j u, news[j]? = some u → W.cell? (a.add j) = some u := by
    by_cases hck : c = m
    · rw [if_pos hck] at hA
      refine ⟨_, hA, fun j u hu => ?_⟩
      have h0 : news = [] := List.eq_nil_of_length_eq_zero (by rw [hnl, show n - m = 0 by omega, Nat.zero_mul])
      rw [h0] at hu
      simp at hu
    · rw [if_neg hck, Option.map_some] at hA
      refine ⟨_, hA, fun j u hu => ?_⟩
      have hj : j < news.length := (List.getElem?_eq_some_iff.1 hu).1
      rw [add_add, add_at, cell_of_row W g _ cur e (0, 0) hh, ← Array.getElem?_toList]
      rw [hnews, List.getElem?_drop] at hu
      rw [← hu, Nat.zero_add]
      exact hcur _ (by omega)
  have hone : ∀ u ∈ news, u.oneCell' = true := by
    intro u hu
    have hu' : u ∈ inner := by rw [hnews] at hu; exact List.mem_of_mem_drop hu
    obtain ⟨q, hq, rfl⟩ := List.mem_iff_getElem.1 hu'
    have hs0 : 0 < d.sz := by
      rcases Nat.eq_zero_or_pos d.sz with h | h
      · rw [h, Nat.mul_zero] at hin; omega
      · exact h
    have hql : q / d.sz < xs.length := by
      rw [Nat.div_lt_iff_lt_mul hs0, ← hr.1]
      exact hq
    refine d.K_one (d.K_of_M (hr.2 (q / d.sz) _ (List.getElem?_eq_getElem hql))) _ ?_
    rw [List.mem_iff_getElem?]
    refine ⟨q % d.sz, ?_⟩
    rw [List.getElem?_take, if_pos (Nat.mod_lt _ hs0), List.getElem?_drop, Nat.mul_comm, Nat.div_add_mod, List.getElem?_eq_getElem hq]
  have hfit : 0 + k * d.sz + news.length ≤ cur.size := by omega
  have hrun := run_append_room_cells (P := P) (w := W) t ty e i ht hi g 0 k c a (n - m) c2 news (by rw [hnl, hsz]) hcell hone (by omega)
    (fun j hj => by rw [hsz, cell_of_row W g _ cur e (0, 0) hh]; simp; omega) (fun j _ => blk_frozen hh _)
  rw [hsz] at hrun
  obtain ⟨cur', h3, h4, h5⟩ := setCells_row news (0 + k * d.sz) W cur hh hfit
  obtain ⟨s1, s2, s3, s4⟩ := setCells_same g news (0 + k * d.sz) W
  have hfar : ∀ k', k' ≠ g → (W.setCells g (0 + k * d.sz) news).heap[k']? = W.heap[k']? := fun k' hk' => setCells_far news _ k' hk'
  have hgo : ∀ m', some g = (Value.slice (some ⟨g, 0, none⟩) m' c).ownBlock := fun m' => by simp [Value.ownBlock]
  have hel : (xs.take k ++ xs.drop m).length = k + (n - m) := by rw [List.length_append, List.length_take, List.length_drop, ← hn]; omega
  have h6 : (k + (n - m)) * d.sz = k * d.sz + (n * d.sz - m * d.sz) := by rw [Nat.add_mul, Nat.sub_mul]
  refine ⟨_, hrun, ⟨fun k' hk' => hok k' (by rw [← hgo] at hk' ⊢; exact hk'), inner.take (k * d.sz) ++ news, ⟨?_, .inr ⟨g, c, cur', by rw [hel], hb, h3, by rw [hel]; omega, hcm, by rw [h4, hcs], ?_⟩⟩, ?_⟩, ⟨s1, s2, s3, by rw [s4]; exact Nat.le_refl _, fun k' _ hk' => hfar k' (fun he => hk' (by rw [he]))⟩⟩
  · rw [List.length_append, List.length_take, hnl, hel, h6]
    omega
  · rw [hel, h5, Nat.zero_add, h6]
    have h7 : cur.toList.take (k * d.sz) = inner.take (k * d.sz) := by
      rw [← htake, List.take_take, Nat.min_eq_left (by omega)]
    rw [h7]
    exact List.take_left' (by rw [List.length_append, List.length_take, hnl]; omega)
  · have hmv : ∀ p q, d.M W base (fun k' => ok k' ∧ some k' ≠ (Value.slice (some ⟨g, 0, none⟩) n c).ownBlock) p q → d.M (W.setCells g (0 + k * d.sz) news) base (fun k' => ok k' ∧ some k' ≠ (Value.slice (some ⟨g, 0, none⟩) (k + (n - m)) c).ownBlock) p q := fun p q hp =>
      d.M_mono (fun k' hk' => ⟨hk'.1, by rw [← hgo]; rw [← hgo] at hk'; exact hk'.2⟩) (d.M_move (fun k' hk' => hfar k' (fun he => hk'.2 (by rw [← hgo, he]))) hp)
    subst hnews
    exact reps_append ((reps_take hr (by omega)).imp_ hmv) ((reps_drop hr).imp_ hmv)
end
section
variable {P : Program} {ops : Array Oper} {rest : List Oper} {o : Oper} {a : Act} {Q : Exit → Act → World → Prop} {Kc : Act → World → Prop} {α : Type}
theorem R_cutout_step (d : Kd α) {W : World} (base : Nat) (hw : Region.wanted o (yielded ops a.tmps) = true) (s x : Operand) (t e : TypeId) (ho : o.op = .call { callee := .builtin .append, args := #[s, x], argTypes := #[t, t] })
    (ht : P.underlying t = some (.slice e)) (hinfo : (P.info? e).map (·.size) = some d.sz) {g n c k j m c2 : Nat} {A : Option Addr} {xs : List α} {ok : Nat → Prop}
    (hs : a.eval s = .slice (some ⟨g, 0, none⟩) k c) (hx : a.eval x = .slice A m c2) (hA : A = if c = j then some ⟨g, 0, none⟩ else (some (⟨g, 0, none⟩ : Addr)).map (·.add (j * d.sz))) (hm : m = n - j)
    (HO : d.R e W base ok (.slice (some ⟨g, 0, none⟩) n c) xs) (hk : k ≤ j) (hj : j ≤ n)
    (h : ∀ w1, d.R e w1 base ok (.slice (some ⟨g, 0, none⟩) (k + (n - j)) c) (xs.take k ++ xs.drop j) → W.grownBy w1 (some g) → Kc (a.put o.dst (.slice (some ⟨g, 0, none⟩) (k + (n - j)) c)) w1) :
    if Region.wanted o (yielded ops a.tmps) = true then Oper.wp P o a W Kc Q else Kc (a.put o.dst undef) W := by
  obtain ⟨i0, hi, hsz⟩ := Option.map_eq_some_iff.1 hinfo
  subst hm
  obtain ⟨w1, hr, h1, h2⟩ := R_cutout_run (P := P) d base t o.type e i0 ht hi hsz HO hk hj hA c2
  rw [if_pos hw]
  unfold Oper.wp execOp
  simp only [ho, resolve, invoke, builtin, Sem.run_bind, Sem.run_pure, Result.andThen_ok, List.map_toArray, List.map_cons, List.map_nil, hs, hx, hr]
  exact h w1 h1 h2
end
end Go.Proofs.YthejmpldfndbfaaDoor.Own
