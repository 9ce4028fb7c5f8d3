/- impl.Entities and impl.SqueezeEntities on a text of bytes and entities. -/
import Derived.Test.YtkgaladmiiglaaaDoorCEntF
import Derived.Test.YtkgaladmiiglaaaDoorCEntH
namespace Go.Proofs.YtkgaladmiiglaaaDoor.Own
open Go.RowKit Go.Proofs.YtkgaladmiiglaaaDoorW.PrintWords Go.Proofs.YtkgaladmiiglaaaDoorW.PrintLast
set_option linter.unusedVariables false
set_option linter.unusedSimpArgs false
def toEn (x : Ent) : En := ⟨x.f0, x.f1⟩
theorem enRow {w : World} {A : Option Addr} {l : List Ent} (h : Kd.C k36 w A l.length l) : EnRow w A (l.map toEn) := fun j hj => by
  rw [List.length_map] at hj
  obtain ⟨ad, e1, x0, x1⟩ := at_T36 h (j : Int) (by omega) (by omega)
  rw [rdT hj, Int.toNat_natCast] at x0 x1
  refine ⟨ad, e1, ?_, ?_⟩
  · rw [List.getElem_map]; exact x0
  · rw [List.getElem_map]; exact x1
theorem nil_tx {T : List Tk} (h : txT T = []) : T = [] := by
  cases T with
  | nil => rfl
  | cons t T => cases t <;> simp [txT, Tk.tx] at h
theorem replace_nil (v1 v2 : Value) (w : World) : Calls Tryd.prog 19 #[.slice none 0 0, v1, v2] w fun e w' => e = .returned (.slice none 0 0) ∧ w' = w := by
  go_enter Tryd.func19, Tryd.ntmps19
  go_wp2
  refine wp_loop_rounds 1 ?_
  rw [rounds_succ]
  go_wp2
  go_ret
  exact ⟨rfl, rfl⟩
set_option maxRecDepth 20000 in
theorem rmwae_nil (v1 v2 : Value) (w : World) : Calls Tryd.prog 23 #[.slice none 0 0, v1, v2] w fun e w' => e = .returned (.slice none 0 0) ∧ w' = w := by
  go_enter Tryd.func23, Tryd.ntmps23
  go_wp2
  refine wp_loop_rounds 1 ?_
  rw [rounds_succ]
  go_wp2
  go_ret
  exact ⟨rfl, rfl⟩
theorem own_all (l : List Int) (h : l.length < 140737488355328) : impl_own.f l = some l := by unfold impl_own.f; simp [h]
theorem duLen {L : List En} : ∀ {T : List Tk}, (∀ t ∈ T, TkOk L t) → (duT T).length ≤ (txT T).length
  | [], _ => Nat.le_refl _
  | t :: T, h => by
    have ih := duLen (T := T) (fun x hx => h x (List.mem_cons_of_mem _ hx))
    cases t with
    | ch c => simp only [duT, txT, List.flatMap_cons, Tk.du, Tk.tx, List.length_append, List.length_cons, List.length_nil] at ih ⊢; omega
    | ent e =>
      have := (h (.ent e) (by simp)).2.short
      simp only [duT, txT, List.flatMap_cons, Tk.du, Tk.tx, List.length_append, List.length_cons, List.length_nil, numsOf_length] at ih ⊢; omega
set_option maxHeartbeats 1000000 in
theorem entities_any (A0 : Option Addr) (c0 n : Nat) (T : List Tk) (A1 : Option Addr) (c1 : Nat) (l1 : List Ent) (w : World) (hn : n = (txT T).length) (hr0 : Kd.C (Kd.int .u8) w A0 (txT T).length (txT T)) (hc0 : n ≤ c0) (hr1 : Kd.C k36 w A1 l1.length l1) (hT : ∀ t ∈ T, TkOk (l1.map toEn) t) (hnd : ((l1.map toEn).map En.nm).Nodup) (hl8 : l1.length ≤ 1000) (hsz : ∀ x ∈ l1.map toEn, x.nm.size ≤ 1000 ∧ x.vl.size ≤ 1000) (hlen : n ≤ 1000000) :
    Calls Tryd.prog 10 #[.slice A0 n c0, .slice A1 l1.length c1] w fun e w' => ∃ v : Value, e = .returned v ∧ Kd.R (Kd.int .u8) 5 w' w.heap.size (fun _ => True) v (duT T) ∧ Below w.heap.size w w' := by
  subst hn
  have HR0 := Aside0.mk hr0
  have HR1 := Aside0.mk (enRow hr1)
  have HT := Aside0.mk hT
  have HND := Aside0.mk hnd
  have HSZ := Aside0.mk hsz
  have hsl : (duT T).length ≤ (txT T).length := duLen hT
  have HSL := Aside0.mk hsl
  have hmk : ∀ W : World, (Instr.makeMap 45 none).run Tryd.prog W = .ok (.map (some W.heap.size)) (W.alloc (.map #[] 0)) := fun W => run_makeMap_plain (w := W) _
  clear hr0 hr1 hT hnd hsz hsl
  have hll : (l1.map toEn).length = l1.length := List.length_map _
  have HLL := Aside0.mk hll
  clear hll
  go_enter Tryd.func10, Tryd.ntmps10
  go_wp2_with fail
  refine (impl_own.calls A0 c0 (txT T) (txT T) w HR0.out hc0 (own_all _ (by omega))).mono ?_
  rintro e w1 ⟨v, rfl, hv, hb⟩
  have HV := Aside0.mk hv
  have HB := Aside0.mk hb
  clear hv hb
  go_wp2_with fail
  have HTB := Aside0.mk (table_of w1 A1 (l1.map toEn) c1 (HR1.out.below HB.out) (by rw [HLL.out]; exact hl8) HSZ.out)
  rw [HLL.out] at HTB
  refine HTB.out.mono ?_
  rintro e w2 ⟨b, rfl, hm, hb2⟩
  have HM := Aside0.mk hm
  have HB2 := Aside0.mk hb2
  clear hm hb2 HTB
  have hs1 := HB.out.size
  have hs2 := HB2.out.size
  have HW3 := Aside0.mk (show Below w.heap.size w (w2.alloc (.map #[] 0)) from (below_then HB.out HB.out.size HB2.out).alloc (Nat.le_trans HB.out.size hs2) _)
  have HV3 := Aside0.mk (show Kd.R (Kd.int .u8) 5 (w2.alloc (.map #[] 0)) w.heap.size (fun _ => True) v (txT T) from Kd.R_below (Kd.R_below HV.out HB2.out) (below_alloc (Below.refl _ _) _))
  rcases (Kd.own_of_R HV.out).2 with ⟨rfl, h0⟩ | ⟨g, cap, cur, rfl, hg, hgg, _⟩
  · have hT0 := nil_tx (List.eq_nil_of_length_eq_zero h0)
    subst hT0
    have h00 : (txT []).length = 0 := rfl
    rw [h00]
    go_wp2_with fail
    refine (replace_nil _ _ _).mono ?_
    rintro e w4 ⟨rfl, hw4⟩
    rw [hw4]
    clear hw4
    go_wp2_with fail
    refine (impl_own.calls none 0 [] [] _ (by exact ⟨rfl, by simp, fun h => by simp at h⟩) (Nat.le_refl _) (own_all _ (by simp))).mono ?_
    rintro e w5 ⟨v5, rfl, hv5, hb5⟩
    have HV5 := Aside0.mk hv5
    have HB5 := Aside0.mk hb5
    clear hv5 hb5
    go_wp2
    go_ret
    exact ⟨_, rfl, Kd.R_lower HV5.out HW3.out.size, below_then HW3.out HW3.out.size HB5.out⟩
  · have hgl : g < w1.heap.size := (Array.getElem?_eq_some_iff.1 hgg).1
    have HB3 := Aside0.mk (BRow.ofR HV3.out)
    have HM3 := Aside0.mk (HM.out.keep (w' := w2.alloc (.map #[] 0)) (fun k o hk hb => by
      have := (Array.getElem?_eq_some_iff.1 hb).1
      exact (al_lt this).trans hb))
    have HV4 := Aside0.mk (show NoRev (w2.alloc (.map #[] 0)) w1.heap.size w2.heap.size from ⟨hs2, al_eq rfl⟩)
    have HGL := Aside0.mk hgl
    have HGB := Aside0.mk hg
    clear hgl hg hgg
    go_wp2_with fail
    refine (replace_any (w2.alloc (.map #[] 0)) w.heap.size g cap w1.heap.size b w2.heap.size (l1.map toEn) HND.out T HT.out (txT T).length HB3.out HM3.out HV4.out HGL.out hlen).mono ?_
    rintro e w4 ⟨n4, rfl, hB4, hg4⟩
    have hn4 := hB4.1
    have HC4 := Aside0.mk hB4.toR
    have HG4 := Aside0.mk (HW3.out.grown hg4 HW3.out.size (fun k hk => by obtain rfl := Option.some.inj hk; exact HGB.out))
    clear hB4 hg4
    subst hn4
    go_wp2_with fail
    refine (impl_own.calls (some ⟨g, 0, none⟩) cap (duT T) (duT T) _ (Kd.R_reads' HC4.out).2.2 (Kd.R_reads' HC4.out).2.1 (own_all _ (by have := HSL.out; omega))).mono ?_
    rintro e w5 ⟨v5, rfl, hv5, hb5⟩
    have HV5 := Aside0.mk hv5
    have HB5 := Aside0.mk hb5
    clear hv5 hb5
    go_wp2
    go_ret
    exact ⟨_, rfl, Kd.R_lower HV5.out HG4.out.size, below_then HG4.out HG4.out.size HB5.out⟩
set_option maxHeartbeats 1000000 in
theorem squeezeEntities_any (A0 : Option Addr) (c0 n : Nat) (T : List Tk) (A1 : Option Addr) (c1 : Nat) (l1 : List Ent) (w : World) (hn : n = (txT T).length) (hr0 : Kd.C (Kd.int .u8) w A0 (txT T).length (txT T)) (hc0 : n ≤ c0) (hr1 : Kd.C k36 w A1 l1.length l1) (hT : ∀ t ∈ T, TkOk (l1.map toEn) t) (hnd : ((l1.map toEn).map En.nm).Nodup) (hl8 : l1.length ≤ 1000) (hsz : ∀ x ∈ l1.map toEn, x.nm.size ≤ 1000 ∧ x.vl.size ≤ 1000) (hlen : n ≤ 1000000) (hval : ∀ e ∈ l1.map toEn, ValOk e) (HTabW : Aside0 (TabW w)) (HTabN : Aside0 (TabN w)) :
    Calls Tryd.prog 14 #[.slice A0 n c0, .slice A1 l1.length c1] w fun e w' => ∃ v : Value, e = .returned v ∧ Kd.R (Kd.int .u8) 5 w' w.heap.size (fun _ => True) v (sqz (duT T)) ∧ Below w.heap.size w w' := by
  subst hn
  have HR0 := Aside0.mk hr0
  have HR1 := Aside0.mk (enRow hr1)
  have HT := Aside0.mk hT
  have HND := Aside0.mk hnd
  have HSZ := Aside0.mk hsz
  have HVAL := Aside0.mk hval
  have hz1 := World.block_lt_of_cell? w _ (HTabW.out 0 (by omega))
  have hz2 := World.block_lt_of_cell? w _ (HTabN.out 0 (by omega))
  have HZ := Aside0.mk (show 1 < w.heap.size by simp only at hz1 hz2; omega)
  clear hval hz1 hz2
  have hsl : (sqz (duT T)).length ≤ (txT T).length := Nat.le_trans (sqz_len _ _ (Nat.le_refl _)) (duLen hT)
  have HSL := Aside0.mk hsl
  have hmk : ∀ W : World, (Instr.makeMap 45 none).run Tryd.prog W = .ok (.map (some W.heap.size)) (W.alloc (.map #[] 0)) := fun W => run_makeMap_plain (w := W) _
  clear hr0 hr1 hT hnd hsz hsl
  have hll : (l1.map toEn).length = l1.length := List.length_map _
  have HLL := Aside0.mk hll
  clear hll
  go_enter Tryd.func14, Tryd.ntmps14
  go_wp2_with fail
  refine (impl_own.calls A0 c0 (txT T) (txT T) w HR0.out hc0 (own_all _ (by omega))).mono ?_
  rintro e w1 ⟨v, rfl, hv, hb⟩
  have HV := Aside0.mk hv
  have HB := Aside0.mk hb
  clear hv hb
  go_wp2_with fail
  have HTB := Aside0.mk (table_of w1 A1 (l1.map toEn) c1 (HR1.out.below HB.out) (by rw [HLL.out]; exact hl8) HSZ.out)
  rw [HLL.out] at HTB
  refine HTB.out.mono ?_
  rintro e w2 ⟨b, rfl, hm, hb2⟩
  have HM := Aside0.mk hm
  have HB2 := Aside0.mk hb2
  clear hm hb2 HTB
  have hs1 := HB.out.size
  have hs2 := HB2.out.size
  have HW3 := Aside0.mk (show Below w.heap.size w (w2.alloc (.map #[] 0)) from (below_then HB.out HB.out.size HB2.out).alloc (Nat.le_trans HB.out.size hs2) _)
  have HV3 := Aside0.mk (show Kd.R (Kd.int .u8) 5 (w2.alloc (.map #[] 0)) w.heap.size (fun _ => True) v (txT T) from Kd.R_below (Kd.R_below HV.out HB2.out) (below_alloc (Below.refl _ _) _))
  rcases (Kd.own_of_R HV.out).2 with ⟨rfl, h0⟩ | ⟨g, cap, cur, rfl, hg, hgg, _⟩
  · have hT0 := nil_tx (List.eq_nil_of_length_eq_zero h0)
    subst hT0
    have h00 : (txT []).length = 0 := rfl
    rw [h00]
    go_wp2_with fail
    refine (rmwae_nil _ _ _).mono ?_
    rintro e w4 ⟨rfl, hw4⟩
    rw [hw4]
    clear hw4
    go_wp2_with fail
    refine (impl_own.calls none 0 [] [] _ (by exact ⟨rfl, by simp, fun h => by simp at h⟩) (Nat.le_refl _) (own_all _ (by simp))).mono ?_
    rintro e w5 ⟨v5, rfl, hv5, hb5⟩
    have HV5 := Aside0.mk hv5
    have HB5 := Aside0.mk hb5
    clear hv5 hb5
    go_wp2
    go_ret
    exact ⟨_, rfl, (show sqz (duT []) = [] by unfold duT; rw [List.flatMap_nil, sqz]) ▸ Kd.R_lower HV5.out HW3.out.size, below_then HW3.out HW3.out.size HB5.out⟩
  · have hgl : g < w1.heap.size := (Array.getElem?_eq_some_iff.1 hgg).1
    have HB3 := Aside0.mk (BRow.ofR HV3.out)
    have HM3 := Aside0.mk (HM.out.keep (w' := w2.alloc (.map #[] 0)) (fun k o hk hb => by
      have := (Array.getElem?_eq_some_iff.1 hb).1
      exact (al_lt this).trans hb))
    have HV4 := Aside0.mk (show NoRev (w2.alloc (.map #[] 0)) w1.heap.size w2.heap.size from ⟨hs2, al_eq rfl⟩)
    have HGL := Aside0.mk hgl
    have HGB := Aside0.mk hg
    clear hgl hg hgg
    go_wp2_with fail
    refine (rmwae (w2.alloc (.map #[] 0)) w.heap.size g cap w1.heap.size b w2.heap.size (l1.map toEn) HND.out HVAL.out T HT.out (txT T).length HB3.out HM3.out HV4.out HGL.out hlen (by have := HZ.out; have := HGB.out; omega) ⟨TabAt.below HTabW.out HW3.out⟩ ⟨TabAt.below HTabN.out HW3.out⟩).mono ?_
    rintro e w4 ⟨A4, c4, n4, rfl, hn4, hC4, hc4, hg4⟩
    have HC4 := Aside0.mk hC4
    have HG4 := Aside0.mk (HW3.out.grown hg4 HW3.out.size (fun k hk => by obtain rfl := Option.some.inj hk; exact HGB.out))
    clear hC4 hg4
    subst hn4
    go_wp2_with fail
    refine (impl_own.calls A4 c4 (sqz (duT T)) (sqz (duT T)) _ HC4.out hc4 (own_all _ (by have := HSL.out; omega))).mono ?_
    rintro e w5 ⟨v5, rfl, hv5, hb5⟩
    have HV5 := Aside0.mk hv5
    have HB5 := Aside0.mk hb5
    clear hv5 hb5
    go_wp2
    go_ret
    exact ⟨_, rfl, Kd.R_lower HV5.out HG4.out.size, below_then HG4.out HG4.out.size HB5.out⟩
end Go.Proofs.YtkgaladmiiglaaaDoor.Own
