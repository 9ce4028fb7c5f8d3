/- Use: a name used in the scope of a function. -/
import Derived.Test.YtohfnhfpiipglaaCScK
namespace Go.Proofs.Ytohfnhfpiipglaa.Own
open Go.RowKit Go.Proofs.YtohfnhfpiipglaaW.PrintWords Go.Proofs.YtohfnhfpiipglaaW.PrintLast
set_option linter.unusedVariables false
set_option linter.unusedSimpArgs false
/-- What using a name does to the names that are used without being declared. -/
def hasB (l : List ByteArray) (name : ByteArray) : Bool := l.any (fun x => x.toList == name.toList)
theorem hasB_iff (l : List ByteArray) (name : ByteArray) : hasB l name = true ↔ name ∈ l := by
  unfold hasB
  rw [List.any_eq_true]
  constructor
  · rintro ⟨x, hx, he⟩
    have : x = name := by
      apply ba_ext
      rw [← ByteArray.toList_eq, ← ByteArray.toList_eq, eq_of_beq he]
    rw [← this]
    exact hx
  · exact fun h => ⟨name, h, beq_self_eq_true _⟩
def useStep (dn un : List ByteArray) (name : ByteArray) : List ByteArray := if hasB (dn ++ un) name = true then un else un ++ [name]
def UsePost (base gs : Nat) (D U : List Ent) (m : Int) (name : ByteArray) (w : World) (w' : World) : Prop :=
  ∃ D' U', ScAt w' base gs D' U' ∧ D'.map Ent.name = D.map Ent.name ∧ U'.map Ent.name = useStep (D.map Ent.name) (U.map Ent.name) name ∧ (∀ e ∈ U', 0 < e.uses) ∧ (∀ e ∈ D' ++ U', e.uses ≤ m + 1) ∧ Fr base w w'
theorem find_name {D : List Ent} {name : ByteArray} {ev : Ent} (hf : D.find? (fun e => e.name.toList == name.toList) = some ev) : ev ∈ D ∧ ev.name = name := by
  refine ⟨List.mem_of_find?_eq_some hf, ?_⟩
  have := List.find?_some (p := fun e : Ent => e.name.toList == name.toList) hf
  have := eq_of_beq this
  apply ba_ext
  rw [← ByteArray.toList_eq, ← ByteArray.toList_eq, this]
theorem find_no {D : List Ent} {name : ByteArray} (hf : D.find? (fun e => e.name.toList == name.toList) = none) : name ∉ D.map Ent.name := fun h => by
  obtain ⟨e, he, hen⟩ := List.mem_map.1 h
  exact (List.find?_eq_none.1 hf e he) (by rw [hen]; exact beq_self_eq_true _)
theorem use_bump {w W : World} {base gs : Nat} {D U : List Ent} {m : Int} {name : ByteArray} {ev : Ent} (hS : ScAt W base gs D U) (hb : base ≤ W.heap.size) (hm : ∀ e ∈ D ++ U, e.uses ≤ m) (hm2 : m < 200) (hpos : ∀ e ∈ U, 0 < e.uses) (he : ev ∈ D ++ U) (hn : ev.name = name) (hfr : Fr base w W) :
    W.cell? ⟨ev.p, 2, none⟩ = some (.int .u16 ev.uses) ∧ W.frozen? ⟨ev.p, 2, none⟩ = false ∧ IntKind.u16.wrap (ev.uses + 1) = ev.uses + 1 ∧ UsePost base gs D U m name w (W.setCell ⟨ev.p, 2, none⟩ (.int .u16 (ev.uses + 1))) := by
  have hv := hS.vars ev he
  have hu := hv.used
  have hmv := hm ev he
  obtain ⟨k1, k2⟩ := hS.bump he (by omega)
  refine ⟨by simp only [World.cell?, hv.blk]; rfl, blk_frozen hv.blk _, (show IntKind.u16.wrap (ev.uses + 1) = (ev.uses + 1) % 65536 from rfl).trans (by omega), D.map (bump ev.p), U.map (bump ev.p), k1, map_bump_name _ _, ?_, fun e h => ?_, fun e h => ?_, hfr.trans (k2 hb)⟩
  · rw [map_bump_name, useStep, if_pos]
    rw [hasB_iff, ← List.map_append, ← hn]
    exact List.mem_map.2 ⟨ev, he, rfl⟩
  · obtain ⟨e0, h0, rfl⟩ := List.mem_map.1 h
    have := hpos e0 h0
    unfold bump
    split
    · show 0 < e0.uses + 1
      omega
    · exact this
  · rw [← List.map_append] at h
    obtain ⟨e0, h0, rfl⟩ := List.mem_map.1 h
    exact bump_uses _ _ _ (hm e0 h0)
set_option maxHeartbeats 2000000 in
theorem use_any (w : World) (base gs : Nat) (D U : List Ent) (hS : ScAt w base gs D U) (hb : base ≤ w.heap.size) (hl : (D ++ U).length < 60) (m : Int) (hm0 : 0 ≤ m) (hm2 : m < 200) (hm : ∀ e ∈ D ++ U, e.uses ≤ m) (hpos : ∀ e ∈ U, 0 < e.uses) (name : ByteArray) (hs : name.size ≤ 20) (g cap : Nat) (hN : TextV w base g cap (numsOf name)) :
    Calls Try.prog 17 #[.pointer (some ⟨gs, 0, none⟩), .slice (some ⟨g, 0, none⟩) name.size cap] w fun e w' => ∃ pv, e = .returned pv ∧ UsePost base gs D U m name w w' := by
  have HD := Aside0.mk (findD_any w base gs D U hS name hs g cap hN false)
  cases hfD : D.find? (fun e => e.name.toList == name.toList) with
  | some ev =>
    have hp : ptrOf D name = ev.at := by unfold ptrOf; rw [hfD]
    rw [hp] at HD
    obtain ⟨he, hn⟩ := find_name hfD
    have HB := Aside0.mk (show ∀ nd, (w.drewN nd).cell? ⟨ev.p, 2, none⟩ = some (.int .u16 ev.uses) ∧ (w.drewN nd).frozen? ⟨ev.p, 2, none⟩ = false ∧ IntKind.u16.wrap (ev.uses + 1) = ev.uses + 1 ∧ UsePost base gs D U m name w ((w.drewN nd).setCell ⟨ev.p, 2, none⟩ (.int .u16 (ev.uses + 1))) from fun nd => use_bump (hS.drewN nd) hb hm hm2 hpos (List.mem_append_left _ he) hn ((Fr.refl base w).drewN nd))
    clear hS hb hl hm0 hm2 hm hpos hN hfD hp he hn
    go_enter Try.func17, Try.ntmps17
    go_wp2_with fail
    (with_reducible refine HD.out.mono ?_)
    rintro e w1 ⟨⟨nd, hw1⟩, rfl⟩
    rw [hw1]
    clear hw1
    obtain ⟨b1, b2, b3, b4⟩ := HB.out nd
    have HB4 := Aside0.mk b4
    clear b4 HB
    unfold Ent.at
    obtain ⟨us, hus⟩ : ∃ x, x = ev.uses := ⟨_, rfl⟩
    rw [← hus] at b1 b3 HB4
    clear hus
    go_wp2
    go_ret
    exact ⟨_, rfl, HB4.out⟩
  | none =>
    have hp : ptrOf D name = .pointer none := by unfold ptrOf; rw [hfD]
    rw [hp] at HD
    have HU := Aside0.mk (show ∀ nd, _ from fun nd => findU_any (w.drewN nd) base gs D U (hS.drewN nd) name hs g cap (hN.drew nd) hpos)
    cases hfU : U.find? (fun e => e.name.toList == name.toList) with
    | some ev =>
      have hp2 : ptrOf U name = ev.at := by unfold ptrOf; rw [hfU]
      rw [hp2] at HU
      obtain ⟨he, hn⟩ := find_name hfU
      have HB := Aside0.mk (show ∀ nd nd2, ((w.drewN nd).drewN nd2).cell? ⟨ev.p, 2, none⟩ = some (.int .u16 ev.uses) ∧ ((w.drewN nd).drewN nd2).frozen? ⟨ev.p, 2, none⟩ = false ∧ IntKind.u16.wrap (ev.uses + 1) = ev.uses + 1 ∧ UsePost base gs D U m name w (((w.drewN nd).drewN nd2).setCell ⟨ev.p, 2, none⟩ (.int .u16 (ev.uses + 1))) from fun nd nd2 => use_bump ((hS.drewN nd).drewN nd2) hb hm hm2 hpos (List.mem_append_right _ he) hn (((Fr.refl base w).drewN nd).drewN nd2))
      clear hS hb hl hm0 hm2 hm hpos hN hfD hfU hp hp2 he hn
      go_enter Try.func17, Try.ntmps17
      go_wp2_with fail
      (with_reducible refine HD.out.mono ?_)
      rintro e w1 ⟨⟨nd, hw1⟩, rfl⟩
      rw [hw1]
      clear hw1
      go_wp2_with fail
      (with_reducible refine (HU.out nd).mono ?_)
      rintro e w2 ⟨⟨nd2, hw2⟩, rfl⟩
      rw [hw2]
      clear hw2
      obtain ⟨b1, b2, b3, b4⟩ := HB.out nd nd2
      obtain ⟨W, hW⟩ : ∃ W, W = (w.drewN nd).drewN nd2 := ⟨_, rfl⟩
      rw [← hW] at b1 b2 b4 ⊢
      have HB4 := Aside0.mk b4
      clear b4 HB hW
      unfold Ent.at
      obtain ⟨us, hus⟩ : ∃ x, x = ev.uses := ⟨_, rfl⟩
      rw [← hus] at b1 b3 HB4
      clear hus
      go_wp2
      go_ret
      exact ⟨_, rfl, HB4.out⟩
    | none =>
      have hp2 : ptrOf U name = .pointer none := by unfold ptrOf; rw [hfU]
      rw [hp2] at HU
      have hno : name ∉ (D ++ U).map Ent.name := by
        rw [List.map_append, List.mem_append]
        exact fun h => h.elim (find_no hfD) (find_no hfU)
      have HW := Aside0.mk (show ∀ nd nd2, ScAt ((w.drewN nd).drewN nd2) base gs D U ∧ Fr base w ((w.drewN nd).drewN nd2) ∧ TextV ((w.drewN nd).drewN nd2) base g cap (numsOf name) ∧ base ≤ ((w.drewN nd).drewN nd2).heap.size from fun nd nd2 => ⟨(hS.drewN nd).drewN nd2, ((Fr.refl base w).drewN nd).drewN nd2, (hN.drew nd).drew nd2, hb⟩)
      have HNO := Aside0.mk hno
      have HL := Aside0.mk hl
      have HM := Aside0.mk hm
      have HPOS := Aside0.mk hpos
      clear hS hb hl hm hpos hN hfD hfU hp hp2 hno
      go_enter Try.func17, Try.ntmps17
      go_wp2_with fail
      (with_reducible refine HD.out.mono ?_)
      rintro e w1 ⟨⟨nd, hw1⟩, rfl⟩
      rw [hw1]
      clear hw1
      go_wp2_with fail
      (with_reducible refine (HU.out nd).mono ?_)
      rintro e w2 ⟨⟨nd2, hw2⟩, rfl⟩
      rw [hw2]
      clear hw2
      obtain ⟨hS, hfr, hN, hb⟩ := HW.out nd nd2
      obtain ⟨W, hW⟩ : ∃ W, W = (w.drewN nd).drewN nd2 := ⟨_, rfl⟩
      rw [← hW] at hS hfr hN hb ⊢
      have HS := Aside0.mk hS
      have HFR := Aside0.mk hfr
      have HN := Aside0.mk hN
      have HB := Aside0.mk hb
      clear hS hfr hN hb hW HW
      go_wp2_with fail
      obtain ⟨f1, f2, f3, f4, f5, f6, f7⟩ := HS.out.fresh HB.out name hs HN.out 0 0 ⟨by decide, by decide⟩ (W := _) rfl
      (with_reducible refine (addU _ base gs D U f1 f3 HL.out _ f4 HNO.out f5 _ f6 f7).mono ?_)
      rintro e w3 ⟨rfl, hsc, hfr⟩
      have hmem : (⟨name, W.heap.size, g, cap, 0, 0⟩ : Ent) ∈ D ++ (U ++ [⟨name, W.heap.size, g, cap, 0, 0⟩]) := by simp
      have hvx := hsc.vars _ hmem
      have b1 : w3.cell? ⟨W.heap.size, 2, none⟩ = some (.int .u16 0) := by simp only [World.cell?, hvx.blk]; rfl
      have b2 : w3.frozen? ⟨W.heap.size, 2, none⟩ = false := blk_frozen hvx.blk _
      have HPOST := Aside0.mk (show UsePost base gs D U m name w (w3.setCell ⟨W.heap.size, 2, none⟩ (.int .u16 1)) by
        obtain ⟨k1, k2⟩ := hsc.bump hmem (by show (0 : Int) < 200; decide)
        have hb3 : base ≤ w3.heap.size := Nat.le_trans f3 hfr.below.size
        refine ⟨_, _, k1, map_bump_name _ _, ?_, fun e h => ?_, fun e h => ?_, ((HFR.out.trans f2).trans hfr).trans (k2 hb3)⟩
        · rw [map_bump_name, useStep, if_neg (by rw [hasB_iff, ← List.map_append]; exact HNO.out)]
          simp
        · obtain ⟨e0, h0, rfl⟩ := List.mem_map.1 h
          rcases List.mem_append.1 h0 with h0 | h0
          · have := HPOS.out e0 h0
            unfold bump
            split
            · show 0 < e0.uses + 1
              omega
            · exact this
          · obtain rfl := List.mem_singleton.1 h0
            unfold bump
            rw [if_pos rfl]
            show (0 : Int) < 0 + 1
            decide
        · rw [← List.map_append] at h
          obtain ⟨e0, h0, rfl⟩ := List.mem_map.1 h
          refine bump_uses _ _ _ ?_
          rw [← List.append_assoc] at h0
          rcases List.mem_append.1 h0 with h0 | h0
          · exact HM.out e0 h0
          · obtain rfl := List.mem_singleton.1 h0
            exact hm0)
      clear hmem hvx hsc hfr f1 f2 f3 f4 f5 f6 f7
      go_wp2
      go_ret
      exact ⟨_, rfl, HPOST.out⟩
end Go.Proofs.Ytohfnhfpiipglaa.Own
