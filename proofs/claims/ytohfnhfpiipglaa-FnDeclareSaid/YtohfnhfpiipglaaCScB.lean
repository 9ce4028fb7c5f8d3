/- findDeclared, findUndeclared: where a name stands in a scope. -/
import Derived.Test.YtohfnhfpiipglaaCScA
import Derived.WalkSpells
namespace Go.Proofs.Ytohfnhfpiipglaa.Own
open Go.RowKit Go.Proofs.YtohfnhfpiipglaaW.PrintWords Go.Proofs.YtohfnhfpiipglaaW.PrintLast
set_option linter.unusedVariables false
set_option linter.unusedSimpArgs false
theorem nums_str (s : ByteArray) : strOfNums (numsOf s) = s := by
  apply ba_ext
  simp [strOfNums, numsOf]
  exact List.map_id'' (fun x => by simp) _
theorem equal_names (A B : Option Addr) (ca cb : Nat) (x y : ByteArray) (w : World) (hx : Kd.C (Kd.int .u8) w A (numsOf x).length (numsOf x)) (hy : Kd.C (Kd.int .u8) w B (numsOf y).length (numsOf y)) :
    Calls Try.prog 20 #[.slice A x.size ca, .slice B y.size cb] w fun e w' => e = .returned (.bool (x.toList == y.toList)) ∧ w' = w := by
  have := bytesEqual_any A B ca cb (numsOf x) (numsOf y) w hx hy
  rw [numsOf_length, numsOf_length, nums_str, nums_str] at this
  exact this
/-- The variable of a name. -/
def ptrOf (D : List Ent) (name : ByteArray) : Value := match D.find? (fun e => e.name.toList == name.toList) with | some e => e.at | none => .pointer none
theorem RowP.cells {w : World} {base : Nat} {v : Value} {es : List Ent} (h : RowP w base v es) : (es = [] ∧ v = .slice none 0 0) ∨ ∃ g cap, v = .slice (some ⟨g, 0, none⟩) es.length cap ∧ es.length ≤ cap ∧ ∀ j (hj : j < es.length), w.cell? ⟨g, j, none⟩ = some es[j].at := by
  rcases h with ⟨h1, h2⟩ | ⟨g, cap, cur, h1, h2, h3, h4, h5, h6, h7⟩
  · exact .inl ⟨h2, h1⟩
  · refine .inr ⟨g, cap, h1, h4, fun j hj => ?_⟩
    have h8 : cur.toList[j]? = (es.map Ent.at)[j]? := by rw [← h7.1, List.getElem?_take, if_pos hj]
    rw [cell_of_row w g j cur _ (0, 0) h3, ← Array.getElem?_toList, h8, List.getElem?_map, List.getElem?_eq_getElem hj]
    rfl
theorem VarAt.cell0 {w : World} {base : Nat} {e : Ent} (h : VarAt w base e) : w.cell? ⟨e.p, 0, none⟩ = some (.slice (some ⟨e.gn, 0, none⟩) e.name.size e.cap) := by
  simp only [World.cell?, h.blk]
  rfl
theorem ptrOf_none {D : List Ent} {name : ByteArray} (h : ∀ j (hj : j < D.length), (name.toList == D[j].name.toList) = false) : ptrOf D name = .pointer none := by
  unfold ptrOf
  rw [List.find?_eq_none.2 (fun e he hq => by
    obtain ⟨j, hj, rfl⟩ := List.mem_iff_getElem.1 he
    have h1 := h j hj
    have h2 := eq_of_beq hq
    rw [h2] at h1
    simp at h1)]
theorem ptrOf_at {D : List Ent} {name : ByteArray} (hn : (D.map Ent.name).Nodup) {j : Nat} (hj : j < D.length) (h : (name.toList == D[j].name.toList) = true) : ptrOf D name = D[j].at := by
  unfold ptrOf
  have h0 := eq_of_beq h
  have hs : (D.find? (fun e => e.name.toList == name.toList)).isSome := List.find?_isSome.2 ⟨D[j], List.getElem_mem hj, by rw [h0]; exact beq_self_eq_true _⟩
  cases hf : D.find? (fun e => e.name.toList == name.toList) with
  | none => rw [hf] at hs; cases hs
  | some e =>
    have h1 : e.name.toList = name.toList := eq_of_beq (List.find?_some (p := fun e : Ent => e.name.toList == name.toList) hf)
    obtain ⟨i, hi, rfl⟩ := List.mem_iff_getElem.1 (List.mem_of_find?_eq_some hf)
    have h2 : D[i].name = D[j].name := by
      apply ba_ext
      rw [← ByteArray.toList_eq, ← ByteArray.toList_eq, h1, h0]
    have h3 : i = j := by
      have := (List.getElem_inj (xs := D.map Ent.name) (i := i) (j := j) (h₀ := by simpa using hi) (h₁ := by simpa using hj) hn).1 (by simpa using h2)
      exact this
    subst h3
    rfl
set_option maxHeartbeats 2000000 in
theorem findD_plain (w : World) (base gs : Nat) (D U : List Ent) (hS : ScAt w base gs D U) (h16 : (namesD D 0 ++ namesU U 0).length < 16) (name : ByteArray) (g cap : Nat) (hN : TextV w base g cap (numsOf name)) (b : Bool) :
    Calls Try.prog 18 #[.pointer (some ⟨gs, 0, none⟩), .slice (some ⟨g, 0, none⟩) name.size cap, .bool b] w fun e w' => w' = w ∧ e = .returned (ptrOf D name) := by
  obtain ⟨vD, vU, vM, hblk, _, hD, hU, _, hI⟩ := hS.all
  have hM : vM = .map none := by
    rcases hI with ⟨_, h⟩ | ⟨_, _, h, _⟩
    · exact h
    · omega
  subst hM
  have hc2 : w.cell? ⟨gs, 2, none⟩ = some vD := by simp only [World.cell?, hblk]; rfl
  have hc4 : w.cell? ⟨gs, 4, none⟩ = some (.map none) := by simp only [World.cell?, hblk]; rfl
  have hc6 : w.cell? ⟨gs, 6, none⟩ = some (.int .i64 0) := by simp only [World.cell?, hblk]; rfl
  have hqM : ∀ (W : World) (r : Option Nat), (binOp .neq 39 (.map r) (.map none)).run Try.prog W = .ok (.bool (!r.isNone)) W := fun W r => run_neq_map_nil W _ _ _ r Try.underlying39
  have HS := Aside0.mk hS
  have HN := Aside0.mk hN
  clear hS hN hblk hU
  rcases hD.cells with ⟨rfl, rfl⟩ | ⟨gD, capD, rfl, hcap, hcell⟩
  · clear hD
    cases b
    · go_enter Try.func18, Try.ntmps18
      go_wp2
      refine wp_loop_rounds 1 ?_
      rw [rounds_succ]
      go_wp2
      go_ret
      exact ⟨rfl, rfl⟩
    · go_enter Try.func18, Try.ntmps18
      go_wp2
      refine wp_loop_rounds 1 ?_
      rw [rounds_succ]
      go_wp2
      go_ret
      exact ⟨rfl, rfl⟩
  · have HC := Aside0.mk hcell
    obtain ⟨n, hn⟩ : ∃ n, n = D.length := ⟨_, rfl⟩
    rw [← hn] at hc2 hcap
    have HN2 := Aside0.mk hn
    have hn60 : n ≤ 60 := by have := HS.out.few; rw [List.length_append] at this; omega
    clear hD hcell hn
    cases b
    all_goals
      go_enter Try.func18, Try.ntmps18
      go_wp2
      go_loopw [10] (fun v wr => ∃ k : Nat, v = .int .i64 ((k : Int) - 1) ∧ k ≤ n ∧ w = wr ∧ Aside0 (∀ j (hj : j < D.length), k ≤ j → (name.toList == D[j].name.toList) = false)) (fun v _ => ((intOf v) + 1).toNat)
      case atStart => exact ⟨n, rfl, Nat.le_refl _, rfl, ⟨fun j hj h => by have := HN2.out; omega⟩⟩
      case round =>
        obtain ⟨k, rfl, hk, rfl, HK⟩ := hrel
        cases k with
        | zero =>
          have e0 : ((0 : Nat) : Int) - 1 = -1 := rfl
          rw [e0]
          clear e0 hk
          go_wp2
          go_ret
          exact ⟨rfl, (by rw [ptrOf_none (fun j hj => HK.out j hj (Nat.zero_le _))]; rfl)⟩
        | succ j =>
          have e0 : ((j + 1 : Nat) : Int) - 1 = (j : Int) := by omega
          rw [e0]
          have hj : j < D.length := by have := HN2.out; omega
          have hjn : j < n := by omega
          have hcj := HC.out j hj
          obtain ⟨ej, hej⟩ : ∃ e, e = D[j] := ⟨_, rfl⟩
          have hv : VarAt w base ej := HS.out.vars ej (by rw [hej]; exact List.mem_append_left _ (List.getElem_mem hj))
          rw [← hej] at hcj
          have hc0 := hv.cell0
          have HV := Aside0.mk hv
          have HEJ := Aside0.mk hej
          clear hv hej e0
          cases hq : (name.toList == ej.name.toList) with
          | true =>
            go_wp2_with fail
            (with_reducible refine (equal_names _ _ cap ej.cap name ej.name w HN.out.C HV.out.txt.C).mono ?_)
            rintro e w1 ⟨rfl, rfl⟩
            rw [hq]
            go_wp2
            go_ret
            exact ⟨rfl, by rw [ptrOf_at (List.nodup_append.1 (by have := HS.out.new; rwa [List.map_append] at this)).1 (j := j) (by have := HN2.out; omega) (by rw [← HEJ.out]; exact hq), ← HEJ.out]; rfl⟩
          | false =>
            go_wp2_with fail
            (with_reducible refine (equal_names _ _ cap ej.cap name ej.name w HN.out.C HV.out.txt.C).mono ?_)
            rintro e w1 ⟨rfl, rfl⟩
            rw [hq]
            go_wp2
            go_roundw
            case rel => exact ⟨j, rfl, by omega, trivial, ⟨fun i hi h => by
              rcases Nat.eq_or_lt_of_le h with rfl | h2
              · rw [← HEJ.out]; exact hq
              · exact HK.out i hi h2⟩⟩
            case measure => simp [intOf] <;> omega
end Go.Proofs.Ytohfnhfpiipglaa.Own
