/- The contract of DecodeURL on a part of a row of one's own that begins anywhere in it. -/
import Derived.Test.YthejmpldfndbfaaDoorCDecode
namespace Go.Proofs.YthejmpldfndbfaaDoor.Own
open Go.RowKit Go.Proofs.YthejmpldfndbfaaDoorW.PrintWords Go.Proofs.YthejmpldfndbfaaDoorW.PrintLast
set_option linter.unusedVariables false
set_option linter.unusedSimpArgs false
theorem add_off (g o j : Nat) : (⟨g, o, none⟩ : Addr).add j = ⟨g, o + j, none⟩ := by simp [Addr.add]
section
open Go.Proofs.YthejmpldfndbfaaDoorW.PrintWords.Kd
variable {P : Program} {α : Type}
/-- 'append(b[:k], b[m:]...)', b at the place p of its block (one cell an element). -/
theorem R_cutoutO_run (d : Kd α) (hd1 : d.sz = 1) {W : World} (base : Nat) (t ty e : TypeId) (i : TypeInfo) (ht : P.underlying t = some (.slice e)) (hi : P.info? e = some i) (hsz : i.size = d.sz)
    {g n c k m p : Nat} {xs : List α} {ok : Nat → Prop} (HO : d.R e W base ok (.slice (some ⟨g, 0, none⟩) (p + n) c) xs) (hk : k ≤ m) (hm : m ≤ n) {A : Option Addr} (hA : A = if c - p = m then some ⟨g, p, none⟩ else some ⟨g, p + m, none⟩) (c2 : Nat) :
    ∃ w1, (Builtin.append_ #[t, t] ty #[.slice (some ⟨g, p, none⟩) k (c - p), .slice A (n - m) c2]).run P W = .ok (.slice (some ⟨g, p, none⟩) (k + (n - m)) (c - p)) w1 ∧ d.R e w1 base ok (.slice (some ⟨g, 0, none⟩) (p + (k + (n - m))) c) (xs.take (p + k) ++ xs.drop (p + m)) ∧ W.grownBy w1 (some g) := by
  obtain ⟨hn, hnc, _⟩ := R_reads' HO
  obtain ⟨hok, inner, hown, hr⟩ := HO
  have hin : inner.length = p + n := by rw [hr.1, hn, hd1, Nat.mul_one]
  rcases hown.2 with ⟨hv, _⟩ | ⟨g', cap', cur, hv, hb, hh, _, hcm, hcs, htake⟩
  · cases hv
  injection hv with ha _ hc
  injection ha with ha
  injection ha with hg
  subst hg; subst hc
  rw [← hn, hd1, Nat.mul_one] at htake
  rw [hd1, Nat.mul_one] at hcs
  obtain ⟨news, hnews⟩ : ∃ news, news = inner.drop (p + m) := ⟨_, rfl⟩
  have hnl : news.length = n - m := by rw [hnews, List.length_drop, hin]; omega
  have hcur : ∀ q, q < p + n → cur.toList[q]? = inner[q]? := by
    intro q hq
    rw [← htake, List.getElem?_take, if_pos hq]
  obtain ⟨a, rfl, hcell⟩ : ∃ a, A = some a ∧ ∀ j u, news[j]? = some u → W.cell? (a.add j) = some u := by
    by_cases hck : c - p = m
    · rw [if_pos hck] at hA
      refine ⟨_, hA, fun j u hu => ?_⟩
      have h0 : news = [] := List.eq_nil_of_length_eq_zero (by rw [hnl]; omega)
      rw [h0] at hu
      simp at hu
    · rw [if_neg hck] at hA
      refine ⟨_, hA, fun j u hu => ?_⟩
      have hj : j < news.length := (List.getElem?_eq_some_iff.1 hu).1
      rw [add_off, cell_of_row W g _ cur e (0, 0) hh, ← Array.getElem?_toList]
      rw [hnews, List.getElem?_drop] at hu
      rw [← hu]
      exact hcur _ (by omega)
  have hone : ∀ u ∈ news, u.oneCell' = true := by
    intro u hu
    have hu' : u ∈ inner := by rw [hnews] at hu; exact List.mem_of_mem_drop hu
    obtain ⟨q, hq, rfl⟩ := List.mem_iff_getElem.1 hu'
    have hql : q < xs.length := by omega
    refine d.K_one (d.K_of_M (hr.2 q _ (List.getElem?_eq_getElem hql))) _ ?_
    rw [List.mem_iff_getElem?]
    refine ⟨0, ?_⟩
    rw [List.getElem?_take, hd1, if_pos (by omega), List.getElem?_drop, Nat.mul_one, Nat.add_zero, List.getElem?_eq_getElem hq]
  have hfit : 0 + (p + k) + news.length ≤ cur.size := by omega
  have hrun := run_append_room_cells (P := P) (w := W) t ty e i ht hi g p k (c - p) a (n - m) c2 news (by rw [hnl, hsz, hd1, Nat.mul_one]) hcell hone (by omega)
    (fun j hj => by rw [hsz, hd1, Nat.mul_one, cell_of_row W g _ cur e (0, 0) hh]; simp; omega) (fun j _ => blk_frozen hh _)
  rw [hsz, hd1, Nat.mul_one] at hrun
  obtain ⟨cur', h3, h4, h5⟩ := setCells_row news (p + k) W cur hh (by omega)
  obtain ⟨s1, s2, s3, s4⟩ := setCells_same g news (p + k) W
  have hfar : ∀ k', k' ≠ g → (W.setCells g (p + k) news).heap[k']? = W.heap[k']? := fun k' hk' => setCells_far news _ k' hk'
  have hgo : ∀ m', some g = (Value.slice (some ⟨g, 0, none⟩) m' c).ownBlock := fun m' => by simp [Value.ownBlock]
  have hel : (xs.take (p + k) ++ xs.drop (p + m)).length = p + (k + (n - m)) := by rw [List.length_append, List.length_take, List.length_drop, ← hn]; omega
  refine ⟨_, hrun, ⟨fun k' hk' => hok k' (by rw [← hgo] at hk' ⊢; exact hk'), inner.take (p + k) ++ news, ⟨?_, .inr ⟨g, c, cur', by rw [hel], hb, h3, by rw [hel]; omega, hcm, by rw [h4, hcs, hd1, Nat.mul_one], ?_⟩⟩, ?_⟩, ⟨s1, s2, s3, by rw [s4]; exact Nat.le_refl _, fun k' _ hk' => hfar k' (fun he => hk' (by rw [he]))⟩⟩
  · rw [List.length_append, List.length_take, hnl, hel, hd1]
    omega
  · rw [hel, h5, hd1, Nat.mul_one]
    have h7 : cur.toList.take (p + k) = inner.take (p + k) := by
      rw [← htake, List.take_take, Nat.min_eq_left (by omega)]
    rw [h7]
    exact List.take_left' (by rw [List.length_append, List.length_take, hnl]; omega)
  · have hmv : ∀ p_ q, d.M W base (fun k' => ok k' ∧ some k' ≠ (Value.slice (some ⟨g, 0, none⟩) (p + n) c).ownBlock) p_ q → d.M (W.setCells g (p + k) news) base (fun k' => ok k' ∧ some k' ≠ (Value.slice (some ⟨g, 0, none⟩) (p + (k + (n - m))) c).ownBlock) p_ q := fun p_ q hp =>
      d.M_mono (fun k' hk' => ⟨hk'.1, by rw [← hgo]; rw [← hgo] at hk'; exact hk'.2⟩) (d.M_move (fun k' hk' => hfar k' (fun he => hk'.2 (by rw [← hgo, he]))) hp)
    subst hnews
    have hA1 := reps_take (m := p + k) hr (by omega)
    have hA2 := reps_drop (m := p + m) hr
    rw [hd1, Nat.mul_one] at hA1 hA2
    rw [hd1]
    exact reps_append (hA1.imp_ hmv) (hA2.imp_ hmv)
end
section
variable {P : Program} {ops : Array Oper} {rest : List Oper} {o : Oper} {a : Act} {Q : Exit → Act → World → Prop} {Kc : Act → World → Prop} {α : Type}
theorem R_cutoutO_step (d : Kd α) (hd1 : d.sz = 1) {W : World} (base : Nat) (hw : Region.wanted o (yielded ops a.tmps) = true) (s x : Operand) (t e : TypeId) (ho : o.op = .call { callee := .builtin .append, args := #[s, x], argTypes := #[t, t] })
    (ht : P.underlying t = some (.slice e)) (hinfo : (P.info? e).map (·.size) = some d.sz) {g n c k j m p c2 : Nat} {A : Option Addr} {xs : List α} {ok : Nat → Prop}
    (hs : a.eval s = .slice (some ⟨g, p, none⟩) k (c - p)) (hx : a.eval x = .slice A m c2) (hA : A = if c - p = j then some ⟨g, p, none⟩ else some ⟨g, p + j, none⟩) (hm : m = n - j)
    (HO : d.R e W base ok (.slice (some ⟨g, 0, none⟩) (p + n) c) xs) (hk : k ≤ j) (hj : j ≤ n)
    (h : ∀ w1, d.R e w1 base ok (.slice (some ⟨g, 0, none⟩) (p + (k + (n - j))) c) (xs.take (p + k) ++ xs.drop (p + j)) → W.grownBy w1 (some g) → Kc (a.put o.dst (.slice (some ⟨g, p, none⟩) (k + (n - j)) (c - p))) w1) :
    if Region.wanted o (yielded ops a.tmps) = true then Oper.wp P o a W Kc Q else Kc (a.put o.dst undef) W := by
  obtain ⟨i0, hi, hsz⟩ := Option.map_eq_some_iff.1 hinfo
  subst hm
  obtain ⟨w1, hr, h1, h2⟩ := R_cutoutO_run (P := P) d hd1 base t o.type e i0 ht hi hsz HO hk hj hA c2
  rw [if_pos hw]
  unfold Oper.wp execOp
  simp only [ho, resolve, invoke, builtin, Sem.run_bind, Sem.run_pure, Result.andThen_ok, List.map_toArray, List.map_cons, List.map_nil, hs, hx, hr]
  exact h w1 h1 h2
end
set_option maxRecDepth 20000 in
set_option maxHeartbeats 2000000 in
theorem decode_off (g cap base n0 p : Nat) (pre l : List Int) (hp : p = pre.length) (w : World) (hR : Kd.R (Kd.int .u8) 5 w base (fun _ => True) (.slice (some ⟨g, 0, none⟩) (p + n0) cap) (pre ++ l)) (hm : n0 < 140737488355328) (hpm : p < 140737488355328) (hb : l.all byD = true) :
    Calls Tryd.prog 22 #[.slice (some ⟨g, p, none⟩) n0 (cap - p)] w fun e w' => ∃ n, e = .returned (.slice (some ⟨g, p, none⟩) n (cap - p)) ∧ Kd.R (Kd.int .u8) 5 w' base (fun _ => True) (.slice (some ⟨g, 0, none⟩) (p + n) cap) (pre ++ decI l) ∧ w.grownBy w' (some g) := by
  have HR := Aside0.mk hR
  have HBy := Aside0.mk hb
  have HPP := Aside0.mk hp
  clear hR hb hp
  go_enter Tryd.func22, Tryd.ntmps22
  go_wp2
  go_loopw [0, 3] (fun b i wr => ∃ (D T : List Int) (k n : Nat), b = .slice (some ⟨g, p, none⟩) n (cap - p) ∧ i = .int .i64 k ∧ k ≤ n ∧ n < 140737488355328 ∧ Aside0 (p + k = D.length ∧ p + n = (D ++ T).length) ∧
      Aside0 (Kd.R (Kd.int .u8) 5 wr base (fun _ => True) (.slice (some ⟨g, 0, none⟩) (p + n) cap) (D ++ T)) ∧ Aside0 (D ++ decI T = pre ++ decI l) ∧ Aside0 (T.all byD = true) ∧ Aside0 (w.grownBy wr (some g)))
    (fun b i _ => lenS b - (intOf i).toNat)
  case atStart => exact ⟨pre, l, 0, n0, rfl, rfl, Nat.zero_le _, hm, ⟨⟨by simpa using HPP.out, by simpa using (Kd.R_reads' HR.out).1⟩⟩, ⟨HR.out⟩, ⟨rfl⟩, ⟨HBy.out⟩, ⟨World.grownBy.refl w _⟩⟩
  case round =>
    obtain ⟨D, T, k, n, rfl, rfl, hkn, hn, HL, HR1, HD, HT, HG⟩ := hrel
    cases T with
    | nil =>
      have hkk : k = n := by have := HL.out; simp at this; omega
      subst hkk
      go_wp2
      go_ret
      have e : D = pre ++ decI l := by have := HD.out; rw [decI, List.append_nil] at this; exact this
      exact ⟨k, rfl, by rw [← e]; simpa using HR1.out, HG.out⟩
    | cons c T =>
      have hlt : k < n := by have := HL.out; simp at this; omega
      obtain ⟨hcell, hfr⟩ := Kd.R_celln (0 : Int) HR1.out ((p + k : Nat) : Int) (by omega) (by omega)
      rw [rdOf_mid HL.out.1] at hcell
      simp only [Int.toNat_natCast] at hcell hfr
      have hcb : 0 ≤ c ∧ c < 256 := by
        have := HT.out
        rw [List.all_cons, Bool.and_eq_true] at this
        simpa [byD] using this.1
      have HT' := Aside0.mk (show T.all byD = true from by have := HT.out; rw [List.all_cons, Bool.and_eq_true] at this; exact this.2)
      have next : ∀ {x : Int} {wr : World}, decI (c :: T) = x :: decI T → Kd.R (Kd.int .u8) 5 wr base (fun _ => True) (.slice (some ⟨g, 0, none⟩) (p + n) cap) (D ++ x :: T) → w.grownBy wr (some g) →
          ∃ (D' T' : List Int) (k' n' : Nat), Value.slice (some ⟨g, p, none⟩) n (cap - p) = .slice (some ⟨g, p, none⟩) n' (cap - p) ∧ Value.int .i64 ((k : Int) + 1) = .int .i64 k' ∧ k' ≤ n' ∧ n' < 140737488355328 ∧ Aside0 (p + k' = D'.length ∧ p + n' = (D' ++ T').length) ∧
            Aside0 (Kd.R (Kd.int .u8) 5 wr base (fun _ => True) (.slice (some ⟨g, 0, none⟩) (p + n') cap) (D' ++ T')) ∧ Aside0 (D' ++ decI T' = pre ++ decI l) ∧ Aside0 (T'.all byD = true) ∧ Aside0 (w.grownBy wr (some g)) := by
        intro x wr h1 h2 h3
        refine ⟨D ++ [x], T, k + 1, n, rfl, rfl, by omega, hn, ⟨⟨by have := HL.out.1; simp; omega, by have := HL.out.2; simp at this ⊢; omega⟩⟩, ⟨by simpa using h2⟩, ⟨?_⟩, HT', ⟨h3⟩⟩
        have := HD.out
        rw [h1] at this
        simpa using this
      have NEXT := Aside0.mk @next
      clear next
      by_cases h37 : c = 37
      · subst h37
        by_cases h2 : (k : Int) + 2 < n
        · obtain ⟨a, b, T2, rfl⟩ : ∃ a b T2, T = a :: b :: T2 := by
            have := HL.out
            match T, this with
            | [], h => simp at h; omega
            | [x], h => simp at h; omega
            | a :: b :: T2, _ => exact ⟨a, b, T2, rfl⟩
          have hab : (0 ≤ a ∧ a < 256) ∧ (0 ≤ b ∧ b < 256) := by
            have := HT'.out
            rw [List.all_cons, List.all_cons, Bool.and_eq_true, Bool.and_eq_true] at this
            exact ⟨by simpa [byD] using this.1, by simpa [byD] using this.2.1⟩
          have HAB := Aside0.mk hab
          have no : ¬ (hexD a = true ∧ hexD b = true) → decI (37 :: a :: b :: T2) = 37 :: decI (a :: b :: T2) := dec_no
          have NO := Aside0.mk no
          clear no hab
          go_wp2
          clear hcell hfr
          go_loopw [4, 5] (fun j cc wr => ((j = .int .i64 ((k : Int) + 1) ∧ cc = .int .i64 0) ∨ (j = .int .i64 ((k : Int) + 2) ∧ cc = .int .i64 (hexV a) ∧ Aside0 (hexD a = true)) ∨ (j = .int .i64 ((k : Int) + 3) ∧ cc = .int .i64 (hexV a * 16 + hexV b) ∧ Aside0 (hexD a = true ∧ hexD b = true))) ∧
              Aside0 (Kd.R (Kd.int .u8) 5 wr base (fun _ => True) (.slice (some ⟨g, 0, none⟩) (p + n) cap) (D ++ 37 :: a :: b :: T2)) ∧ Aside0 (w.grownBy wr (some g)))
            (fun j _ _ => k + 3 - (intOf j).toNat)
          case atStart => exact ⟨.inl ⟨rfl, rfl⟩, HR1, HG⟩
          case round =>
            obtain ⟨hcase, HR2, HG2⟩ := hrel
            rcases hcase with ⟨rfl, rfl⟩ | ⟨rfl, rfl, HX⟩ | ⟨rfl, rfl, HX⟩
            · obtain ⟨hcell, hfr⟩ := Kd.R_celln (0 : Int) HR2.out (((p + k : Nat) : Int) + 1) (by omega) (by omega)
              rw [rdOf_mid1 HL.out.1, show (((p + k : Nat) : Int) + 1).toNat = p + (k + 1) by omega] at hcell
              have ha := HAB.out.1
              rcases hex_cases a with ⟨hx, hc⟩ | ⟨hx, hc⟩
              · have HXa := Aside0.mk hx
                clear hx
                rcases hc with ⟨h1, h3, hv⟩ | ⟨h1, h3, h4, h5, h6, hv⟩ | ⟨h1, h3, h4, h5, h6, hv⟩
                · have HV := Aside0.mk hv
                  clear hv
                  go_wp2
                  go_roundw
                  case rel => exact ⟨.inr (.inl ⟨by rw [show (k : Int) + 1 + 1 = k + 2 by omega], by rw [HV.out], HXa⟩), HR2, HG2⟩
                  case measure => simp [intOf]; omega
                · have HV := Aside0.mk hv
                  clear hv
                  go_wp2
                  go_roundw
                  case rel => exact ⟨.inr (.inl ⟨by rw [show (k : Int) + 1 + 1 = k + 2 by omega], by rw [HV.out], HXa⟩), HR2, HG2⟩
                  case measure => simp [intOf]; omega
                · have HV := Aside0.mk hv
                  clear hv
                  go_wp2
                  go_roundw
                  case rel => exact ⟨.inr (.inl ⟨by rw [show (k : Int) + 1 + 1 = k + 2 by omega], by rw [HV.out], HXa⟩), HR2, HG2⟩
                  case measure => simp [intOf]; omega
              · have HXa := Aside0.mk hx
                clear hx
                rcases hc with ⟨h1, h3, h4⟩ | ⟨h1, h3, h4, h5⟩ | ⟨h1, h3, h4, h5, h6⟩ | ⟨h1, h3, h4, h5, h6, h7⟩
                · go_wp2
                  go_roundw
                  case rel => exact NEXT.out (NO.out (by rw [HXa.out]; simp)) HR2.out HG2.out
                  case measure => simp [intOf, lenS]; omega
                · go_wp2
                  go_roundw
                  case rel => exact NEXT.out (NO.out (by rw [HXa.out]; simp)) HR2.out HG2.out
                  case measure => simp [intOf, lenS]; omega
                · go_wp2
                  go_roundw
                  case rel => exact NEXT.out (NO.out (by rw [HXa.out]; simp)) HR2.out HG2.out
                  case measure => simp [intOf, lenS]; omega
                · go_wp2
                  go_roundw
                  case rel => exact NEXT.out (NO.out (by rw [HXa.out]; simp)) HR2.out HG2.out
                  case measure => simp [intOf, lenS]; omega
            · obtain ⟨hcell, hfr⟩ := Kd.R_celln (0 : Int) HR2.out (((p + k : Nat) : Int) + 2) (by omega) (by omega)
              rw [rdOf_mid2 HL.out.1, show (((p + k : Nat) : Int) + 2).toNat = p + (k + 2) by omega] at hcell
              have hb := HAB.out.2
              have hva := hexV_lt HX.out
              obtain ⟨va, hva2⟩ : ∃ va, va = hexV a := ⟨_, rfl⟩
              rw [← hva2] at hva ⊢
              have HVA := Aside0.mk hva2
              clear hva2
              rcases hex_cases b with ⟨hx, hc⟩ | ⟨hx, hc⟩
              · have HXb := Aside0.mk hx
                clear hx
                rcases hc with ⟨h1, h3, hv⟩ | ⟨h1, h3, h4, h5, h6, hv⟩ | ⟨h1, h3, h4, h5, h6, hv⟩
                · have HV := Aside0.mk hv
                  clear hv
                  go_wp2
                  go_roundw
                  case rel => exact ⟨.inr (.inr ⟨by rw [show (k : Int) + 2 + 1 = k + 3 by omega], by rw [HV.out, HVA.out] <;> (congr 1; omega), ⟨HX.out, HXb.out⟩⟩), HR2, HG2⟩
                  case measure => simp [intOf]; omega
                · have HV := Aside0.mk hv
                  clear hv
                  go_wp2
                  go_roundw
                  case rel => exact ⟨.inr (.inr ⟨by rw [show (k : Int) + 2 + 1 = k + 3 by omega], by rw [HV.out, HVA.out] <;> (congr 1; omega), ⟨HX.out, HXb.out⟩⟩), HR2, HG2⟩
                  case measure => simp [intOf]; omega
                · have HV := Aside0.mk hv
                  clear hv
                  go_wp2
                  go_roundw
                  case rel => exact ⟨.inr (.inr ⟨by rw [show (k : Int) + 2 + 1 = k + 3 by omega], by rw [HV.out, HVA.out] <;> (congr 1; omega), ⟨HX.out, HXb.out⟩⟩), HR2, HG2⟩
                  case measure => simp [intOf]; omega
              · have HXb := Aside0.mk hx
                clear hx
                rcases hc with ⟨h1, h3, h4⟩ | ⟨h1, h3, h4, h5⟩ | ⟨h1, h3, h4, h5, h6⟩ | ⟨h1, h3, h4, h5, h6, h7⟩
                · go_wp2
                  go_roundw
                  case rel => exact NEXT.out (NO.out (by rw [HXb.out]; simp)) HR2.out HG2.out
                  case measure => simp [intOf, lenS]; omega
                · go_wp2
                  go_roundw
                  case rel => exact NEXT.out (NO.out (by rw [HXb.out]; simp)) HR2.out HG2.out
                  case measure => simp [intOf, lenS]; omega
                · go_wp2
                  go_roundw
                  case rel => exact NEXT.out (NO.out (by rw [HXb.out]; simp)) HR2.out HG2.out
                  case measure => simp [intOf, lenS]; omega
                · go_wp2
                  go_roundw
                  case rel => exact NEXT.out (NO.out (by rw [HXb.out]; simp)) HR2.out HG2.out
                  case measure => simp [intOf, lenS]; omega
            · have hva := hexV_lt HX.out.1
              have hvb := hexV_lt HX.out.2
              have hyes := dec_yes (t := T2) HX.out.1 HX.out.2
              obtain ⟨v, hv⟩ : ∃ v, v = hexV a * 16 + hexV b := ⟨_, rfl⟩
              have hv0 : 0 ≤ v ∧ v < 256 := by omega
              rw [← hv] at hyes ⊢
              have HY := Aside0.mk hyes
              clear hyes hva hvb hv
              obtain ⟨hcell, hfr⟩ := Kd.R_celln (0 : Int) HR2.out ((p + k : Nat) : Int) (by omega) (by omega)
              rw [rdOf_mid HL.out.1] at hcell
              simp only [Int.toNat_natCast] at hcell hfr
              obtain ⟨hp1, hp2⟩ := Kd.R_putg HR2.out ((p + k : Nat) : Int) v
              rw [Int.toNat_natCast] at hp1 hp2
              rw [set_mid HL.out.1] at hp1
              have HP1 := Aside0.mk hp1
              have HP2 := Aside0.mk hp2
              clear hp1 hp2
              have hnc := (Kd.R_reads' HR2.out).2.1
              obtain ⟨i0, hi0, _, hsz, _⟩ := info_parts infoD
              have hcut1 := cut_to (P := Tryd.prog) 22 5 .i64 Tryd.underlying22 hi0 (some ⟨g, p, none⟩) n (cap - p) ((k : Int) + 1) (by omega) (by omega) (by omega)
              have hcut2 := cut_from (P := Tryd.prog) 22 5 .i64 Tryd.underlying22 hi0 1 hsz (some ⟨g, p, none⟩) n (cap - p) ((k : Int) + 3) (by omega) (by omega)
              rw [show ((k : Int) + 1).toNat = k + 1 by omega] at hcut1
              rw [show ((k : Int) + 3).toNat = k + 3 by omega] at hcut2
              obtain ⟨A2, hA2⟩ : ∃ A2, A2 = (if cap - p = k + 3 then (some ⟨g, p, none⟩ : Option Addr) else (some (⟨g, p, none⟩ : Addr)).map (·.add ((k + 3) * 1))) := ⟨_, rfl⟩
              rw [← hA2] at hcut2
              have HA2 := Aside0.mk hA2
              clear hA2 hi0 hsz hcut1 hcut2
              have hw1 : wrap64 ((k : Int) + 1) = (k : Int) + 1 := by unfold wrap64; omega
              have hw3 : wrap64 ((k : Int) + 3) = (k : Int) + 3 := by unfold wrap64; omega
              go_wp2
              refine start_ (n := 10) (S := fun w' => True) (ds := []) #[false, false, false, false, false, false, false, false, false, false] (by kernel_rfl) rfl rfl trivial (fun hHeld => ?_)
              refine pure_ (i := 0) (N := (some 127)) (v := ?_) (a' := ?_) #[true, false, false, false, false, false, false, false, false, false] rfl rfl (by kernel_rfl) (fun _ _ _ h => h) (Or.inl ⟨by rfl, ?_⟩) ?_ ?_
              rotate_left
              · intro w'
                go_simp
                with_reducible rfl
              rotate_left
              · simp only [Act.put, List.setIfInBounds_toArray, List.set_cons_zero, List.set_cons_succ, i64_w, i32_w]
                rfl
              refine pure_ (i := 1) (N := (some 128)) (v := ?_) (a' := ?_) #[true, true, false, false, false, false, false, false, false, false] rfl rfl (by kernel_rfl) (fun _ _ _ h => h) (Or.inl ⟨by rfl, ?_⟩) ?_ ?_
              rotate_left
              · intro w'
                go_simp
                with_reducible rfl
              rotate_left
              · simp only [Act.put, List.setIfInBounds_toArray, List.set_cons_zero, List.set_cons_succ, i64_w, i32_w]
                rfl
              refine pure_ (i := 2) (N := (some 129)) (v := ?_) (a' := ?_) #[true, true, true, false, false, false, false, false, false, false] rfl rfl (by kernel_rfl) (fun _ _ _ h => h) (Or.inl ⟨by rfl, ?_⟩) ?_ ?_
              rotate_left
              · intro w'
                go_simp
                with_reducible rfl
              rotate_left
              · simp only [Act.put, List.setIfInBounds_toArray, List.set_cons_zero, List.set_cons_succ, i64_w, i32_w]
                rfl
              refine pure_ (i := 3) (N := (some 130)) (v := ?_) (a' := ?_) #[true, true, true, true, false, false, false, false, false, false] rfl rfl (by kernel_rfl) (fun _ _ _ h => h) (Or.inl ⟨by rfl, ?_⟩) ?_ ?_
              rotate_left
              · intro w'
                go_simp
                rw [if_pos ⟨by omega, by omega⟩]
              rotate_left
              · simp only [Act.put, List.setIfInBounds_toArray, List.set_cons_zero, List.set_cons_succ, i64_w, i32_w]
                rfl
              refine pure_ (i := 4) (N := (some 131)) (v := ?_) (a' := ?_) #[true, true, true, true, true, false, false, false, false, false] rfl rfl (by kernel_rfl) (fun _ _ _ h => h) (Or.inl ⟨by rfl, ?_⟩) ?_ ?_
              rotate_left
              · intro w'
                go_simp
                with_reducible rfl
              rotate_left
              · simp only [Act.put, List.setIfInBounds_toArray, List.set_cons_zero, List.set_cons_succ, i64_w, i32_w]
                rfl
              refine pure_ (i := 5) (N := (some 132)) (v := ?_) (a' := ?_) #[true, true, true, true, true, true, false, false, false, false] rfl rfl (by kernel_rfl) (fun _ _ _ h => h) (Or.inl ⟨by rfl, ?_⟩) ?_ ?_
              rotate_left
              · intro w'
                go_simp
                with_reducible rfl
              rotate_left
              · simp only [Act.put, List.setIfInBounds_toArray, List.set_cons_zero, List.set_cons_succ, i64_w, i32_w]
                rfl
              refine pure_ (i := 6) (N := (some 133)) (v := ?_) (a' := ?_) #[true, true, true, true, true, true, true, false, false, false] rfl rfl (by kernel_rfl) (fun _ _ _ h => h) (Or.inl ⟨by rfl, ?_⟩) ?_ ?_
              rotate_left
              · intro w'
                go_simp
                with_reducible rfl
              rotate_left
              · simp only [Act.put, List.setIfInBounds_toArray, List.set_cons_zero, List.set_cons_succ, i64_w, i32_w]
                rfl
              refine pure_ (i := 7) (N := (some 134)) (v := ?_) (a' := ?_) #[true, true, true, true, true, true, true, true, false, false] rfl rfl (by kernel_rfl) (fun _ _ _ h => h) (Or.inl ⟨by rfl, ?_⟩) ?_ ?_
              rotate_left
              · intro w'
                go_simp
                rw [if_pos ⟨by omega, by omega⟩]
              rotate_left
              · simp only [Act.put, List.setIfInBounds_toArray, List.set_cons_zero, List.set_cons_succ, i64_w, i32_w]
                rfl
              refine one_ (i := 8) (N := (some 135)) #[true, true, true, true, true, true, true, true, true, false] rfl rfl (by kernel_rfl) (by simp) (fun K_ hK_ => ?_)
              refine R_cutoutO_step (P := Tryd.prog) (Kd.int .u8) rfl base (by rfl) (.tmp 130) (.tmp 134) 22 5 rfl Tryd.underlying22 sizeD (g := g) (n := n) (c := cap) (p := p) (k := k + 1) (j := k + 3) (m := n - (k + 3)) (c2 := cap - p - (k + 3)) (A := if cap - p = k + 3 then some ⟨g, p, none⟩ else some ⟨g, p + (k + 3), none⟩) (by rfl) (by rfl) rfl rfl (Kd.R_drew HP1.out) (by omega) (by omega) (fun w1 hR1 hG1 => ?_)
              refine hK_ _ _ trivial (fun _ => ?_)
              refine pure_ (i := 9) (N := (some 0)) (v := ?_) (a' := ?_) #[true, true, true, true, true, true, true, true, true, true] rfl rfl (by kernel_rfl) (fun _ _ _ h => h) (Or.inl ⟨by rfl, ?_⟩) ?_ ?_
              rotate_left
              · intro w'
                go_simp
                with_reducible rfl
              rotate_left
              · simp only [Act.put, List.setIfInBounds_toArray, List.set_cons_zero, List.set_cons_succ, i64_w, i32_w]
                rfl
              refine done_ (by kernel_rfl) ?_
              have HR3 := Aside0.mk hR1
              have HG3 := Aside0.mk (show w.grownBy w1 (some g) from World.grownBy.trans (World.grownBy.trans HG2.out HP2.out) (by obtain ⟨q1, q2, q3, q4, q5⟩ := hG1; exact ⟨q1, q2, q3, q4, q5⟩))
              clear hR1 hG1
              go_wp2
              go_roundw
              case rel =>
                have el : (D ++ v :: a :: b :: T2).take (p + (k + 1)) ++ (D ++ v :: a :: b :: T2).drop (p + (k + 3)) = (D ++ [v]) ++ T2 := by
                  rw [show p + (k + 1) = D.length + 1 by have := HL.out.1; omega, show p + (k + 3) = D.length + 3 by have := HL.out.1; omega]
                  have e1 : (D ++ v :: a :: b :: T2).take (D.length + 1) = D ++ [v] := by
                    rw [List.take_append, List.take_of_length_le (by omega), show D.length + 1 - D.length = 1 by omega]
                    rfl
                  have e2 : (D ++ v :: a :: b :: T2).drop (D.length + 3) = T2 := by
                    rw [List.drop_append, List.drop_of_length_le (by omega), show D.length + 3 - D.length = 3 by omega]
                    rfl
                  rw [e1, e2]
                refine ⟨D ++ [v], T2, k + 1, k + 1 + (n - (k + 3)), rfl, rfl, by omega, by omega, ⟨⟨by have := HL.out.1; simp; omega, ?_⟩⟩, ⟨by rw [← el]; exact HR3.out⟩, ⟨?_⟩, ⟨?_⟩, HG3⟩
                · have := HL.out
                  simp at this ⊢
                  omega
                · have := HD.out
                  rw [HY.out] at this
                  simpa using this
                · have := HT'.out
                  rw [List.all_cons, List.all_cons, Bool.and_eq_true, Bool.and_eq_true] at this
                  exact this.2.2
              case measure => simp [intOf, lenS]; omega
        · have hshort : decI (37 :: T) = 37 :: decI T := by
            rw [dec_short (by have := HL.out; simp at this; omega)]
            rfl
          have HS := Aside0.mk hshort
          clear hshort
          go_wp2
          go_roundw
          case rel => exact NEXT.out HS.out HR1.out HG.out
          case measure => simp [intOf, lenS]; omega
      · by_cases h43 : c = 43
        · subst h43
          have hd : decI (43 :: T) = 32 :: decI T := by rw [dec_other (by omega)]; rfl
          obtain ⟨hp1, hp2⟩ := Kd.R_putg HR1.out ((p + k : Nat) : Int) 32
          rw [Int.toNat_natCast] at hp1 hp2
          rw [set_mid HL.out.1] at hp1
          have HP1 := Aside0.mk hp1
          have HP2 := Aside0.mk hp2
          have HS := Aside0.mk hd
          clear hd hp1 hp2
          go_wp2
          go_roundw
          case rel => exact NEXT.out HS.out HP1.out (World.grownBy.trans HG.out HP2.out)
          case measure => simp [intOf, lenS]; omega
        · have hd : decI (c :: T) = c :: decI T := by rw [dec_other h37, if_neg h43]
          have HS := Aside0.mk hd
          clear hd
          go_wp2
          go_roundw
          case rel => exact NEXT.out HS.out HR1.out HG.out
          case measure => simp [intOf, lenS]; omega
end Go.Proofs.YthejmpldfndbfaaDoor.Own
