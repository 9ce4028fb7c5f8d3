/- Declare: a name declared in the scope of a function. -/
import Derived.Test.YtohfnhfpiipglaaCScJ
import Derived.Lib.Builder
namespace Go.Proofs.Ytohfnhfpiipglaa.Own
open Go.RowKit Go.Proofs.YtohfnhfpiipglaaW.PrintWords Go.Proofs.YtohfnhfpiipglaaW.PrintLast
set_option linter.unusedVariables false
set_option linter.unusedSimpArgs false
theorem infoSc : (Try.prog.info? 42).isSome = true := by kernel_rfl
theorem sameSc (a : Addr) (W : World) : (binOp .neq 36 (.pointer (some a)) (.pointer (some a))).run Try.prog W = .ok (.bool false) W := by
  obtain ⟨j, hj⟩ := Option.isSome_iff_exists.1 infoSc
  exact Go.Lib.run_neq_ptr_same W a Try.underlying36 hj
def ndOf (D : List Ent) : List (ByteArray × Int) := D.map (fun e => (e.name, e.decl))
/-- What declaring a name does to the names and how they are declared. -/
def declStep (st : List (ByteArray × Int)) (d : Int) (name : ByteArray) : List (ByteArray × Int) × Bool := match st.find? (fun x => x.1.toList == name.toList) with
  | some x => (st, !(x.2 == 5 || d == 5))
  | none => (st ++ [(name, d)], true)
theorem ndOf_find (name : ByteArray) : ∀ D : List Ent, (ndOf D).find? (fun x => x.1.toList == name.toList) = (D.find? (fun e => e.name.toList == name.toList)).map (fun e => (e.name, e.decl))
  | [] => rfl
  | e :: t => by
    show ((e.name, e.decl) :: ndOf t).find? _ = _
    rw [List.find?_cons, List.find?_cons]
    cases h : (e.name.toList == name.toList)
    · simp only [h]
      exact ndOf_find name t
    · simp only [h]
      rfl
theorem ndOf_bump (p : Nat) (D : List Ent) : ndOf (D.map (bump p)) = ndOf D := by
  unfold ndOf
  rw [List.map_map]
  exact List.map_congr_left (fun e _ => by simp [bump_name, bump_decl])
def DeclPost (base gs : Nat) (D : List Ent) (d m : Int) (name : ByteArray) (w : World) (ok : Bool) (w' : World) : Prop :=
  ∃ D', ScAt w' base gs D' [] ∧ ((ndOf D', ok) : List (ByteArray × Int) × Bool) = declStep (ndOf D) d name ∧ (∀ e ∈ D', e.uses ≤ m + 1) ∧ Fr base w w'
theorem DeclPost.drewN {base gs : Nat} {D : List Ent} {d m : Int} {name : ByteArray} {w : World} {ok : Bool} {w' : World} (h : DeclPost base gs D d m name w ok w') (n : Nat) : DeclPost base gs D d m name w ok (w'.drewN n) := by
  obtain ⟨D', h1, h2, h3, h4⟩ := h
  exact ⟨D', h1.drewN n, h2, h3, h4.drewN n⟩
set_option maxHeartbeats 2000000 in
set_option maxRecDepth 4000 in
theorem declare_old (w : World) (base gs : Nat) (D : List Ent) (hS : ScAt w base gs D []) (hb : base ≤ w.heap.size) (m : Int) (hm : ∀ e ∈ D, e.uses ≤ m) (hm2 : m < 200) (hdc : ∀ e ∈ D, e.decl = 1 ∨ e.decl = 3 ∨ e.decl = 5) (name : ByteArray) (hs : name.size ≤ 20) (g cap : Nat) (hN : TextV w base g cap (numsOf name)) (d : Int) (hd : d = 1 ∨ d = 3 ∨ d = 5)
    (ev : Ent) (hf : D.find? (fun e => e.name.toList == name.toList) = some ev) :
    Calls Try.prog 14 #[.pointer (some ⟨gs, 0, none⟩), .int .u16 d, .slice (some ⟨g, 0, none⟩) name.size cap] w fun e w' => ∃ pv ok, e = .returned (.tuple #[pv, .bool ok]) ∧ DeclPost base gs D d m name w ok w' := by
  have HF := Aside0.mk (findD_any w base gs D [] hS name hs g cap hN true)
  have hp : ptrOf D name = ev.at := by unfold ptrOf; rw [hf]
  rw [hp] at HF
  have hmem := List.mem_of_find?_eq_some hf
  have hv := hS.vars ev (List.mem_append_left _ hmem)
  have hst : declStep (ndOf D) d name = (ndOf D, !(ev.decl == 5 || d == 5)) := by unfold declStep; rw [ndOf_find, hf]; rfl
  have hFail := Aside0.mk (show ∀ n, (ev.decl == 5 || d == 5) = true → DeclPost base gs D d m name w false (w.drewN n) from fun n ht => ⟨D, hS.drewN n, by rw [hst, ht]; rfl, fun e he => by have := hm e he; omega, (Fr.refl base w).drewN n⟩)
  have hOk := Aside0.mk (show ∀ n, (ev.decl == 5 || d == 5) = false → DeclPost base gs D d m name w true ((w.drewN n).setCell ⟨ev.p, 2, none⟩ (.int .u16 (ev.uses + 1))) from fun n ht => by
    obtain ⟨k1, k2⟩ := (hS.drewN n).bump (List.mem_append_left _ hmem) (by have := hm ev hmem; omega)
    exact ⟨D.map (bump ev.p), k1, by rw [hst, ht, ndOf_bump]; rfl, fun e he => by
      obtain ⟨e0, he0, rfl⟩ := List.mem_map.1 he
      exact bump_uses _ _ _ (hm e0 he0), ((Fr.refl base w).drewN n).trans (k2 hb)⟩)
  have hd3 : ∀ n : Nat, (w.drewN n).cell? ⟨ev.p, 3, none⟩ = some (.int .u16 ev.decl) := fun n => by simp only [World.cell?, show (w.drewN n).heap[ev.p]? = _ from hv.blk]; rfl
  have hd2 : ∀ n : Nat, (w.drewN n).cell? ⟨ev.p, 2, none⟩ = some (.int .u16 ev.uses) := fun n => by simp only [World.cell?, show (w.drewN n).heap[ev.p]? = _ from hv.blk]; rfl
  have hf2 : ∀ n : Nat, (w.drewN n).frozen? ⟨ev.p, 2, none⟩ = false := fun n => blk_frozen (show (w.drewN n).heap[ev.p]? = _ from hv.blk) _
  have hc1 : w.cell? ⟨gs, 1, none⟩ = some (.pointer (some ⟨gs, 0, none⟩)) := by
    obtain ⟨vD, vU, vM, h1, _⟩ := hS.all
    simp only [World.cell?, h1]
    rfl
  have hqP := sameSc ⟨gs, 0, none⟩
  obtain ⟨dv, hdv⟩ : ∃ x, x = ev.decl := ⟨_, rfl⟩
  obtain ⟨us, hus⟩ : ∃ x, x = ev.uses := ⟨_, rfl⟩
  have hdv3 := hdc ev hmem
  have hu := hv.used
  rw [← hus] at hd2 hu
  rw [← hdv] at hd3 hdv3
  have HUS := Aside0.mk hus
  have HDV := Aside0.mk hdv
  have hw1 : IntKind.u16.wrap (us + 1) = us + 1 := (show IntKind.u16.wrap (us + 1) = (us + 1) % 65536 from rfl).trans (by omega)
  clear hS hp hmem hv hst hf hN hm hdc hdv hus hu hb hm2
  rcases hd with rfl | rfl | rfl
  all_goals rcases hdv3 with rfl | rfl | rfl
  all_goals
    go_enter Try.func14, Try.ntmps14
    go_wp2_with fail
    try (refine wp_loop_rounds 1 ?_; rw [rounds_succ]; go_wp2_with fail)
    (with_reducible refine HF.out.mono ?_)
    rintro e w1 ⟨⟨nd, hw1'⟩, rfl⟩
    rw [hw1']
    clear hw1'
    unfold Ent.at
    go_wp2
    first
      | (go_ret2
         exact ⟨_, _, rfl, hFail.out _ (by rw [← HDV.out]; rfl)⟩)
      | (refine wp_loop_rounds 1 ?_
         rw [rounds_succ]
         go_wp2
         go_ret2
         exact ⟨_, _, rfl, by have h := hOk.out nd (by rw [← HDV.out]; rfl); rw [← HUS.out] at h; exact h⟩)
/-- What the way to a new variable reads. -/
structure NewR (gs g n cap : Nat) (name : ByteArray) (vM : Value) (W : World) : Prop where
  c3 : W.cell? ⟨gs, 3, none⟩ = some (.slice none 0 0)
  c4 : W.cell? ⟨gs, 4, none⟩ = some vM
  c8 : W.cell? ⟨gs, 8, none⟩ = some (.int .i64 0)
  m : vM = .map none ∨ ∃ gm, vM = .map (some gm) ∧ (convert 48 9 (.slice (some ⟨g, 0, none⟩) n cap)).run Try.prog W.drew = .ok (.string name) W.drew ∧ (Instr.lookup 39 (.map (some gm)) (.string name) false).run Try.prog W.drew = .ok (.slice none 0 0) W.drew
theorem new_reads {w : World} {base gs : Nat} {D : List Ent} (hS : ScAt w base gs D []) (name : ByteArray) (hs : name.size ≤ 20) {g cap : Nat} (hN : TextV w base g cap (numsOf name)) (hf : D.find? (fun e => e.name.toList == name.toList) = none) : ∃ vM, NewR gs g name.size cap name vM w := by
  obtain ⟨vD, vU, vM, h1, h2, h3, h4, h5, h6⟩ := hS.all
  obtain rfl := h4.nil
  refine ⟨vM, by simp only [World.cell?, h1]; rfl, by simp only [World.cell?, h1]; rfl, by simp only [World.cell?, h1]; rfl, ?_⟩
  rcases h6 with ⟨_, h⟩ | ⟨gm, I, _, rfl, hgm, hown, hIN, hrow⟩
  · exact .inl h
  · refine .inr ⟨gm, rfl, ?_, ?_⟩
    · have := Kd.C_string (c := cap) Try.underlying48 Try.underlying5 Try.underlying9 (hN.drew 1).C
      rw [numsOf_length, nums_str] at this
      exact this
    · obtain ⟨v, hlk, hv⟩ := index_look (w := w.drew) hown hIN hS.new (fun i hi => (hrow i hi).2.2) name (by have : maxLen = 9223372036854775807 := rfl; omega)
      rcases hv with ⟨rfl, _⟩ | ⟨gi, ci, idx, rfl, _, ⟨j, hj, hn, _⟩ | ⟨j, hj, _⟩⟩
      · exact hlk
      · exfalso
        have := (List.find?_eq_none.1 hf) D[j] (List.getElem_mem hj)
        rw [hn] at this
        exact this (beq_self_eq_true _)
      · cases hj
set_option maxHeartbeats 2000000 in
set_option maxRecDepth 4000 in
theorem declare_new (w : World) (base gs : Nat) (D : List Ent) (hS : ScAt w base gs D []) (hb : base ≤ w.heap.size) (hl : D.length < 60) (m : Int) (hm0 : 0 ≤ m) (hm : ∀ e ∈ D, e.uses ≤ m) (name : ByteArray) (hs : name.size ≤ 20) (g cap : Nat) (hN : TextV w base g cap (numsOf name)) (d : Int) (hd : d = 1 ∨ d = 3 ∨ d = 5)
    (hf : D.find? (fun e => e.name.toList == name.toList) = none) :
    Calls Try.prog 14 #[.pointer (some ⟨gs, 0, none⟩), .int .u16 d, .slice (some ⟨g, 0, none⟩) name.size cap] w fun e w' => ∃ pv ok, e = .returned (.tuple #[pv, .bool ok]) ∧ DeclPost base gs D d m name w ok w' := by
  have HF := Aside0.mk (findD_any w base gs D [] hS name hs g cap hN true)
  have hp : ptrOf D name = .pointer none := by unfold ptrOf; rw [hf]
  rw [hp] at HF
  have hst : declStep (ndOf D) d name = (ndOf D ++ [(name, d)], true) := by unfold declStep; rw [ndOf_find, hf]; rfl
  have HW := Aside0.mk (show ∀ w1, (∃ nd, w1 = w.drewN nd) → (∃ vM, NewR gs g name.size cap name vM w1) ∧ ScAt w1 base gs D [] ∧ Fr base w w1 ∧ TextV w1 base g cap (numsOf name) ∧ base ≤ w1.heap.size from fun w1 hw1 => by
    obtain ⟨nd, rfl⟩ := hw1
    exact ⟨new_reads (hS.drewN nd) name hs (hN.drew nd) hf, hS.drewN nd, (Fr.refl base w).drewN nd, hN.drew nd, hb⟩)
  have hc1 : w.cell? ⟨gs, 1, none⟩ = some (.pointer (some ⟨gs, 0, none⟩)) := by
    obtain ⟨vD, vU, vM, h1, _⟩ := hS.all
    simp only [World.cell?, h1]
    rfl
  have hqP := sameSc ⟨gs, 0, none⟩
  have hqM : ∀ (W : World) (r : Option Nat), (binOp .neq 39 (.map r) (.map none)).run Try.prog W = .ok (.bool (!r.isNone)) W := fun W r => run_neq_map_nil W _ _ _ r Try.underlying39
  have HST := Aside0.mk hst
  have HNO := Aside0.mk (show name ∉ (D ++ []).map Ent.name from fun h => by
    rw [List.append_nil] at h
    obtain ⟨e, he, hen⟩ := List.mem_map.1 h
    exact (List.find?_eq_none.1 hf e he) (by rw [hen]; exact beq_self_eq_true _))
  have HM := Aside0.mk hm
  clear hS hp hN hm hb hst hf
  rcases hd with rfl | rfl | rfl
  all_goals
    go_enter Try.func14, Try.ntmps14
    go_wp2_with fail
    try (refine wp_loop_rounds 1 ?_; rw [rounds_succ]; go_wp2_with fail)
    (with_reducible refine HF.out.mono ?_)
    rintro e w1 ⟨hw1, rfl⟩
    obtain ⟨⟨vM, hc3, hc4, hc8, hM⟩, hS1, hfr1, hN1, hb1⟩ := HW.out w1 hw1
    have HS1 := Aside0.mk hS1
    have HFR1 := Aside0.mk hfr1
    have HN1 := Aside0.mk hN1
    have HB1 := Aside0.mk hb1
    clear hw1 hS1 hfr1 hN1 hb1 hc1
    rcases hM with rfl | ⟨gm, rfl, hcv, hlk⟩
  all_goals
    go_wp2
    first
      | (go_quiet (fail)
         obtain ⟨W, hW⟩ : ∃ W, W = w1.drewN nq := ⟨_, rfl⟩
         rw [← hW]
         have HSW := Aside0.mk (show ScAt W base gs D [] ∧ Fr base w W ∧ TextV W base g cap (numsOf name) ∧ base ≤ W.heap.size from by rw [hW]; exact ⟨HS1.out.drewN nq, HFR1.out.drewN nq, HN1.out.drew nq, HB1.out⟩)
         clear hW)
      | (go_region
         obtain ⟨W, hW⟩ : ∃ W, W = w1.drew := ⟨_, rfl⟩
         rw [← hW]
         have HSW := Aside0.mk (show ScAt W base gs D [] ∧ Fr base w W ∧ TextV W base g cap (numsOf name) ∧ base ≤ W.heap.size from by rw [hW]; exact ⟨HS1.out.drewN 1, HFR1.out.drewN 1, HN1.out.drew 1, HB1.out⟩)
         clear hW hcv hlk)
    clear hc3 hc4 hc8 hqM
    go_wp2
    refine wp_loop_rounds 1 ?_
    rw [rounds_succ]
    go_wp2_with fail
    obtain ⟨f1, f2, f3, f4, f5, f6, f7⟩ := HSW.out.1.fresh HSW.out.2.2.2 name hs HSW.out.2.2.1 1 _ ⟨by decide, by decide⟩ (W := _) rfl
    (with_reducible refine (addD _ base gs D [] f1 rfl f3 (by simpa using hl) _ f4 HNO.out f5 _ f6 f7).mono ?_)
    rintro e w3 ⟨rfl, hsc, hfr⟩
    have HSC := Aside0.mk hsc
    have HFR3 := Aside0.mk ((HSW.out.2.1.trans f2).trans hfr)
    clear hsc hfr f1 f2 f3 f4 f5 f6 f7
    go_wp2
    refine wp_loop_rounds 1 ?_
    rw [rounds_succ]
    go_wp2
    go_ret2
    exact ⟨_, _, rfl, _, HSC.out, by rw [HST.out]; simp [ndOf], fun e he => by
      rcases List.mem_append.1 he with he | he
      · have := HM.out e he
        omega
      · obtain rfl := List.mem_singleton.1 he
        show (1 : Int) ≤ m + 1
        omega, HFR3.out⟩
/-- Declare: what it does to the names; whether it could. -/
theorem declare_any (w : World) (base gs : Nat) (D : List Ent) (hS : ScAt w base gs D []) (hb : base ≤ w.heap.size) (hl : D.length < 60) (m : Int) (hm0 : 0 ≤ m) (hm2 : m < 200) (hm : ∀ e ∈ D, e.uses ≤ m) (hdc : ∀ e ∈ D, e.decl = 1 ∨ e.decl = 3 ∨ e.decl = 5) (name : ByteArray) (hs : name.size ≤ 20) (g cap : Nat) (hN : TextV w base g cap (numsOf name)) (d : Int) (hd : d = 1 ∨ d = 3 ∨ d = 5) :
    Calls Try.prog 14 #[.pointer (some ⟨gs, 0, none⟩), .int .u16 d, .slice (some ⟨g, 0, none⟩) name.size cap] w fun e w' => ∃ pv ok, e = .returned (.tuple #[pv, .bool ok]) ∧ DeclPost base gs D d m name w ok w' := by
  cases hf : D.find? (fun e => e.name.toList == name.toList) with
  | none => exact declare_new w base gs D hS hb hl m hm0 hm name hs g cap hN d hd hf
  | some ev => exact declare_old w base gs D hS hb m hm hm2 hdc name hs g cap hN d hd ev hf
end Go.Proofs.Ytohfnhfpiipglaa.Own
