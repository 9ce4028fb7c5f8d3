/- findDeclared with the index; findDeclared. -/
import Derived.Test.YtohfnhfpiipglaaCScC
namespace Go.Proofs.Ytohfnhfpiipglaa.Own
open Go.RowKit Go.Proofs.YtohfnhfpiipglaaW.PrintWords Go.Proofs.YtohfnhfpiipglaaW.PrintLast
set_option linter.unusedVariables false
set_option linter.unusedSimpArgs false
set_option maxHeartbeats 2000000 in
theorem findD_index (w : World) (base gs : Nat) (D U : List Ent) (hS : ScAt w base gs D U) (h16 : 16 ≤ (namesD D 0 ++ namesU U 0).length) (name : ByteArray) (hsz : name.size ≤ 20) (g cap : Nat) (hN : TextV w base g cap (numsOf name)) (b : Bool) :
    Calls Try.prog 18 #[.pointer (some ⟨gs, 0, none⟩), .slice (some ⟨g, 0, none⟩) name.size cap, .bool b] w fun e w' => (∃ nd, w' = w.drewN nd) ∧ e = .returned (ptrOf D name) := by
  obtain ⟨vD, vU, vM, hblk, _, hD, hU, _, hI⟩ := hS.all
  rcases hI with ⟨h, _⟩ | ⟨gm, I, _, rfl, hgm, hown, hIN, hrow⟩
  · omega
  have hc2 : w.cell? ⟨gs, 2, none⟩ = some vD := by simp only [World.cell?, hblk]; rfl
  have hc4 : w.cell? ⟨gs, 4, none⟩ = some (.map (some gm)) := by simp only [World.cell?, hblk]; rfl
  have hc6 : w.cell? ⟨gs, 6, none⟩ = some (.int .i64 0) := by simp only [World.cell?, hblk]; rfl
  have hqM : ∀ (W : World) (r : Option Nat), (binOp .neq 39 (.map r) (.map none)).run Try.prog W = .ok (.bool (!r.isNone)) W := fun W r => run_neq_map_nil W _ _ _ r Try.underlying39
  have hcv : (convert 48 9 (.slice (some ⟨g, 0, none⟩) name.size cap)).run Try.prog w.drew = .ok (.string name) w.drew := by
    have := Kd.C_string (c := cap) Try.underlying48 Try.underlying5 Try.underlying9 (hN.drew 1).C
    rw [numsOf_length, nums_str] at this
    exact this
  obtain ⟨v, hlk, hv⟩ := index_look (w := w.drew) hown hIN hS.new (fun i hi => (hrow i hi).2.2) name (by have : maxLen = 9223372036854775807 := rfl; omega)
  have HS := Aside0.mk hS
  rcases hv with ⟨rfl, hno⟩ | ⟨gi, ci, idx, rfl, hcell, hj⟩
  · have hp : ptrOf D name = .pointer none := ptrOf_none (fun j hj => by
      apply beq_eq_false_iff_ne.2
      intro e
      exact hno D[j] (List.mem_append_left _ (List.getElem_mem hj)) (by apply ba_ext; rw [← ByteArray.toList_eq, ← ByteArray.toList_eq, e]))
    rw [hp]
    clear hS hN hblk hU hD hown hIN hrow hno hp
    cases b
    all_goals
      go_enter Try.func18, Try.ntmps18
      go_wp2
      go_region
      go_wp2
      refine wp_loop_rounds 1 ?_
      rw [rounds_succ]
      go_wp2
      go_ret
      exact ⟨⟨_, rfl⟩, rfl⟩
  · have hcell' : w.cell? ⟨gi, 0, none⟩ = some (.int .i64 idx) := hcell
    rcases hj with ⟨j, hjl, hjn, rfl⟩ | ⟨j, hjl, hjn, rfl⟩
    · have hp : ptrOf D name = D[j].at := ptrOf_at (List.nodup_append.1 (by have := hS.new; rwa [List.map_append] at this)).1 hjl (by rw [hjn]; exact beq_self_eq_true _)
      rw [hp]
      have hj60 : j < 60 := by have := hS.few; rw [List.length_append] at this; omega
      rcases hD.cells with ⟨rfl, _⟩ | ⟨gD, capD, rfl, hcap, hcs⟩
      · simp at hjl
      have hcj := hcs j hjl
      obtain ⟨ej, hej⟩ : ∃ e, e = D[j].at := ⟨_, rfl⟩
      obtain ⟨n, hn⟩ : ∃ n, n = D.length := ⟨_, rfl⟩
      have hjn' : j < n := by omega
      rw [← hej] at hcj ⊢
      rw [← hn] at hc2 hcap
      have HEJ := Aside0.mk hej
      clear hS hN hblk hU hD hown hIN hrow hp hcell hcs hej hn
      cases b
      all_goals
        go_enter Try.func18, Try.ntmps18
        go_wp2
        go_region
        go_wp2
        refine wp_loop_rounds 1 ?_
        rw [rounds_succ]
        go_wp2
        go_region
        go_wp2
        go_ret
        exact ⟨⟨2, by first | rfl | simp⟩, rfl⟩
    · have hp : ptrOf D name = .pointer none := ptrOf_none (fun i hi => by
        apply beq_eq_false_iff_ne.2
        intro e
        have hnew := hS.new
        rw [List.map_append, List.nodup_append] at hnew
        exact hnew.2.2 D[i].name (List.mem_map.2 ⟨_, List.getElem_mem hi, rfl⟩) U[j].name (List.mem_map.2 ⟨_, List.getElem_mem hjl, rfl⟩) (by rw [hjn]; apply ba_ext; rw [← ByteArray.toList_eq, ← ByteArray.toList_eq, e]))
      rw [hp]
      have hj60 : j < 60 := by have := hS.few; rw [List.length_append] at this; omega
      obtain ⟨ix, hix⟩ : ∃ ix, ix = -(j : Int) - 1 := ⟨_, rfl⟩
      rw [← hix] at hcell'
      have hneg : ix < 0 := by omega
      have hb1 : ¬ (0 ≤ ix) := by omega
      clear hS hN hblk hU hD hown hIN hrow hp hcell hix
      cases b
      all_goals
        go_enter Try.func18, Try.ntmps18
        go_wp2
        go_region
        go_wp2
        refine wp_loop_rounds 2 ?_
        rw [rounds_succ]
        go_wp2
        rw [rounds_succ]
        go_wp2
        go_ret
        exact ⟨⟨1, by first | rfl | simp⟩, rfl⟩
/-- findDeclared: the variable of the name, or none. -/
theorem findD_any (w : World) (base gs : Nat) (D U : List Ent) (hS : ScAt w base gs D U) (name : ByteArray) (hsz : name.size ≤ 20) (g cap : Nat) (hN : TextV w base g cap (numsOf name)) (b : Bool) :
    Calls Try.prog 18 #[.pointer (some ⟨gs, 0, none⟩), .slice (some ⟨g, 0, none⟩) name.size cap, .bool b] w fun e w' => (∃ nd, w' = w.drewN nd) ∧ e = .returned (ptrOf D name) := by
  by_cases h16 : 16 ≤ (namesD D 0 ++ namesU U 0).length
  · exact findD_index w base gs D U hS h16 name hsz g cap hN b
  · refine (findD_plain w base gs D U hS (by omega) name g cap hN b).mono ?_
    rintro e w' ⟨rfl, h⟩
    exact ⟨⟨0, rfl⟩, h⟩
end Go.Proofs.Ytohfnhfpiipglaa.Own
