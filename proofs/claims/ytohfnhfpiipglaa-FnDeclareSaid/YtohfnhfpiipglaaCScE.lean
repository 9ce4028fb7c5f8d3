/- findUndeclared without the index. -/
import Derived.Test.YtohfnhfpiipglaaCScD
namespace Go.Proofs.Ytohfnhfpiipglaa.Own
open Go.RowKit Go.Proofs.YtohfnhfpiipglaaW.PrintWords Go.Proofs.YtohfnhfpiipglaaW.PrintLast
set_option linter.unusedVariables false
set_option linter.unusedSimpArgs false
set_option maxHeartbeats 2000000 in
theorem findU_plain (w : World) (base gs : Nat) (D U : List Ent) (hS : ScAt w base gs D U) (h16 : (namesD D 0 ++ namesU U 0).length < 16) (name : ByteArray) (g cap : Nat) (hN : TextV w base g cap (numsOf name)) (hpos : ∀ e ∈ U, 0 < e.uses) :
    Calls Try.prog 23 #[.pointer (some ⟨gs, 0, none⟩), .slice (some ⟨g, 0, none⟩) name.size cap] w fun e w' => w' = w ∧ e = .returned (ptrOf U name) := by
  obtain ⟨vD, vU, vM, hblk, _, hD, hU, _, hI⟩ := hS.all
  have hM : vM = .map none := by
    rcases hI with ⟨_, h⟩ | ⟨_, _, h, _⟩
    · exact h
    · omega
  subst hM
  have hc3 : w.cell? ⟨gs, 3, none⟩ = some vU := by simp only [World.cell?, hblk]; rfl
  have hc4 : w.cell? ⟨gs, 4, none⟩ = some (.map none) := by simp only [World.cell?, hblk]; rfl
  have hqM : ∀ (W : World) (r : Option Nat), (binOp .neq 39 (.map r) (.map none)).run Try.prog W = .ok (.bool (!r.isNone)) W := fun W r => run_neq_map_nil W _ _ _ r Try.underlying39
  have HS := Aside0.mk hS
  have HN := Aside0.mk hN
  have HPOS := Aside0.mk hpos
  clear hS hN hblk hD hpos
  rcases hU.cells with ⟨rfl, rfl⟩ | ⟨gU, capU, rfl, hcap, hcell⟩
  · clear hU
    go_enter Try.func23, Try.ntmps23
    go_wp2
    refine wp_loop_rounds 1 ?_
    rw [rounds_succ]
    go_wp2
    go_ret
    exact ⟨rfl, rfl⟩
  · have HC := Aside0.mk hcell
    obtain ⟨n, hn⟩ : ∃ n, n = U.length := ⟨_, rfl⟩
    rw [← hn] at hc3 hcap
    have HN2 := Aside0.mk hn
    have hn60 : n ≤ 60 := by have := HS.out.few; rw [List.length_append] at this; omega
    clear hU hcell hn
    go_enter Try.func23, Try.ntmps23
    go_wp2
    go_loopw [50] (fun v wr => ∃ k : Nat, v = .int .i64 (k : Int) ∧ k ≤ n ∧ w = wr ∧ Aside0 (∀ j (hj : j < U.length), j < k → (name.toList == U[j].name.toList) = false)) (fun v _ => n - (intOf v).toNat)
    case atStart => exact ⟨0, rfl, Nat.zero_le _, rfl, ⟨fun j hj h => by omega⟩⟩
    case round =>
      obtain ⟨j, rfl, hk, rfl, HK⟩ := hrel
      by_cases hjn : j < n
      · have hj : j < U.length := by have := HN2.out; omega
        have hcj := HC.out j hj
        obtain ⟨ej, hej⟩ : ∃ e, e = U[j] := ⟨_, rfl⟩
        have hv : VarAt w base ej := HS.out.vars ej (by rw [hej]; exact List.mem_append_right _ (List.getElem_mem hj))
        rw [← hej] at hcj
        have hc0 := hv.cell0
        have hcu : w.cell? ⟨ej.p, 2, none⟩ = some (.int .u16 ej.uses) := by simp only [World.cell?, hv.blk]; rfl
        obtain ⟨_, hu2⟩ := hv.used
        have hu1 : 0 < ej.uses := by rw [hej]; exact HPOS.out _ (List.getElem_mem hj)
        have HV := Aside0.mk hv
        have HEJ := Aside0.mk hej
        clear hv hej
        cases hq : (name.toList == ej.name.toList) with
        | true =>
          go_wp2_with fail
          (with_reducible refine (equal_names _ _ cap ej.cap name ej.name w HN.out.C HV.out.txt.C).mono ?_)
          rintro e w1 ⟨rfl, rfl⟩
          rw [hq]
          go_wp2
          go_ret
          exact ⟨rfl, by rw [ptrOf_at (List.nodup_append.1 (by have := HS.out.new; rwa [List.map_append] at this)).2.1 (j := j) (by have := HN2.out; omega) (by rw [← HEJ.out]; exact hq), ← HEJ.out]; rfl⟩
        | false =>
          go_wp2_with fail
          (with_reducible refine (equal_names _ _ cap ej.cap name ej.name w HN.out.C HV.out.txt.C).mono ?_)
          rintro e w1 ⟨rfl, rfl⟩
          rw [hq]
          go_wp2
          go_roundw
          case rel => exact ⟨j + 1, by go_num, by omega, trivial, ⟨fun i hi h => by
            rcases Nat.lt_succ_iff_lt_or_eq.1 h with h2 | rfl
            · exact HK.out i hi h2
            · rw [← HEJ.out]; exact hq⟩⟩
          case measure => simp [intOf] <;> omega
      · obtain rfl : j = n := by omega
        go_wp2
        go_ret
        exact ⟨rfl, (by rw [ptrOf_none (fun i hi => HK.out i hi (by have := HN2.out; omega))]; rfl)⟩
set_option maxHeartbeats 2000000 in
theorem findU_index (w : World) (base gs : Nat) (D U : List Ent) (hS : ScAt w base gs D U) (h16 : 16 ≤ (namesD D 0 ++ namesU U 0).length) (name : ByteArray) (hsz : name.size ≤ 20) (g cap : Nat) (hN : TextV w base g cap (numsOf name)) (hpos : ∀ e ∈ U, 0 < e.uses) :
    Calls Try.prog 23 #[.pointer (some ⟨gs, 0, none⟩), .slice (some ⟨g, 0, none⟩) name.size cap] w fun e w' => (∃ nd, w' = w.drewN nd) ∧ e = .returned (ptrOf U name) := by
  obtain ⟨vD, vU, vM, hblk, _, hD, hU, _, hI⟩ := hS.all
  rcases hI with ⟨h, _⟩ | ⟨gm, I, _, rfl, hgm, hown, hIN, hrow⟩
  · omega
  have hc3 : w.cell? ⟨gs, 3, none⟩ = some vU := by simp only [World.cell?, hblk]; rfl
  have hc4 : w.cell? ⟨gs, 4, none⟩ = some (.map (some gm)) := by simp only [World.cell?, hblk]; rfl
  have hqM : ∀ (W : World) (r : Option Nat), (binOp .neq 39 (.map r) (.map none)).run Try.prog W = .ok (.bool (!r.isNone)) W := fun W r => run_neq_map_nil W _ _ _ r Try.underlying39
  have hcv : (convert 48 9 (.slice (some ⟨g, 0, none⟩) name.size cap)).run Try.prog w.drew = .ok (.string name) w.drew := by
    have := Kd.C_string (c := cap) Try.underlying48 Try.underlying5 Try.underlying9 (hN.drew 1).C
    rw [numsOf_length, nums_str] at this
    exact this
  obtain ⟨v, hlk, hv⟩ := index_look (w := w.drew) hown hIN hS.new (fun i hi => (hrow i hi).2.2) name (by have : maxLen = 9223372036854775807 := rfl; omega)
  rcases hv with ⟨rfl, hno⟩ | ⟨gi, ci, idx, rfl, hcell, hj⟩
  · have hp : ptrOf U name = .pointer none := ptrOf_none (fun j hj => by
      apply beq_eq_false_iff_ne.2
      intro e
      exact hno U[j] (List.mem_append_right _ (List.getElem_mem hj)) (by apply ba_ext; rw [← ByteArray.toList_eq, ← ByteArray.toList_eq, e]))
    rw [hp]
    clear hS hN hblk hU hD hown hIN hrow hno hp
    go_enter Try.func23, Try.ntmps23
    go_wp2
    go_region
    go_wp2
    refine wp_loop_rounds 1 ?_
    rw [rounds_succ]
    go_wp2
    go_ret
    exact ⟨⟨1, by first | rfl | simp⟩, rfl⟩
  · have hcell' : w.cell? ⟨gi, 0, none⟩ = some (.int .i64 idx) := hcell
    rcases hj with ⟨j, hjl, hjn, rfl⟩ | ⟨j, hjl, hjn, rfl⟩
    · have hp : ptrOf U name = .pointer none := ptrOf_none (fun i hi => by
        apply beq_eq_false_iff_ne.2
        intro e
        have hnew := hS.new
        rw [List.map_append, List.nodup_append] at hnew
        exact hnew.2.2 D[j].name (List.mem_map.2 ⟨_, List.getElem_mem hjl, rfl⟩) U[i].name (List.mem_map.2 ⟨_, List.getElem_mem hi, rfl⟩) (by rw [hjn]; apply ba_ext; rw [← ByteArray.toList_eq, ← ByteArray.toList_eq, e]))
      rw [hp]
      have hb1 : ¬ ((j : Int) < 0) := by omega
      clear hS hN hblk hU hD hown hIN hrow hp hcell
      go_enter Try.func23, Try.ntmps23
      go_wp2
      go_region
      go_wp2
      refine wp_loop_rounds 2 ?_
      rw [rounds_succ]
      go_wp2
      rw [rounds_succ]
      go_wp2
      go_ret
      exact ⟨⟨1, by first | rfl | simp⟩, rfl⟩
    · have hp : ptrOf U name = U[j].at := ptrOf_at (List.nodup_append.1 (by have := hS.new; rwa [List.map_append] at this)).2.1 hjl (by rw [hjn]; exact beq_self_eq_true _)
      rw [hp]
      have hj60 : j < 60 := by have := hS.few; rw [List.length_append] at this; omega
      rcases hU.cells with ⟨rfl, _⟩ | ⟨gU, capU, rfl, hcap, hcs⟩
      · simp at hjl
      have hcj := hcs j hjl
      have hu1 := hpos U[j] (List.getElem_mem hjl)
      have hvj := hS.vars U[j] (List.mem_append_right _ (List.getElem_mem hjl))
      obtain ⟨ej, hej⟩ : ∃ e, e = U[j] := ⟨_, rfl⟩
      obtain ⟨n, hn⟩ : ∃ n, n = U.length := ⟨_, rfl⟩
      have hjn' : j < n := by omega
      rw [← hej] at hcj hvj hu1 ⊢
      rw [← hn] at hc3 hcap
      have hcu : w.cell? ⟨ej.p, 2, none⟩ = some (.int .u16 ej.uses) := by simp only [World.cell?, hvj.blk]; rfl
      obtain ⟨_, hu2⟩ := hvj.used
      have HEJ := Aside0.mk hej
      obtain ⟨ix, hix⟩ : ∃ ix, ix = -(j : Int) - 1 := ⟨_, rfl⟩
      rw [← hix] at hcell'
      have hneg : ix < 0 := by omega
      have hlo : -100 < ix := by omega
      have hij : -ix - 1 = (j : Int) := by omega
      clear hS hN hblk hU hD hown hIN hrow hp hcell hcs hej hn hvj hix
      go_enter Try.func23, Try.ntmps23
      go_wp2
      go_region
      go_wp2
      refine wp_loop_rounds 1 ?_
      rw [rounds_succ]
      go_wp2
      go_ret
      exact ⟨⟨1, by first | rfl | simp⟩, rfl⟩
theorem findU_any (w : World) (base gs : Nat) (D U : List Ent) (hS : ScAt w base gs D U) (name : ByteArray) (hsz : name.size ≤ 20) (g cap : Nat) (hN : TextV w base g cap (numsOf name)) (hpos : ∀ e ∈ U, 0 < e.uses) :
    Calls Try.prog 23 #[.pointer (some ⟨gs, 0, none⟩), .slice (some ⟨g, 0, none⟩) name.size cap] w fun e w' => (∃ nd, w' = w.drewN nd) ∧ e = .returned (ptrOf U name) := by
  by_cases h16 : 16 ≤ (namesD D 0 ++ namesU U 0).length
  · exact findU_index w base gs D U hS h16 name hsz g cap hN hpos
  · refine (findU_plain w base gs D U hS (by omega) name g cap hN hpos).mono ?_
    rintro e w' ⟨rfl, h⟩
    exact ⟨⟨0, rfl⟩, h⟩
end Go.Proofs.Ytohfnhfpiipglaa.Own
