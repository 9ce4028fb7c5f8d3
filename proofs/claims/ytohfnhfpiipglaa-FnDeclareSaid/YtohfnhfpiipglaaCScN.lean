/- Rows of a call's own; the names of a row of variables. -/
import Derived.Test.YtohfnhfpiipglaaCScM
namespace Go.Proofs.Ytohfnhfpiipglaa.Own
open Go.RowKit Go.Proofs.YtohfnhfpiipglaaW.PrintWords Go.Proofs.YtohfnhfpiipglaaW.PrintLast
set_option linter.unusedVariables false
set_option linter.unusedSimpArgs false
/-- A row of a call's own, of one cell each. -/
def ORow (w : World) (base : Nat) (T : TypeId) (v : Value) (cs : List Value) : Prop := ∃ g cap cur, v = .slice (some ⟨g, 0, none⟩) cs.length cap ∧ base ≤ g ∧ w.heap[g]? = some (.cells cur T (0, 0)) ∧ cs.length ≤ cap ∧ cap ≤ maxLen ∧ cur.size = cap ∧ cur.toList.take cs.length = cs
section
variable {w w' : World} {base T : Nat} {v : Value} {cs : List Value}
theorem ORow.block (h : ORow w base T v cs) (hk : ∀ (g : Nat) (cur : Array Value), w.heap[g]? = some (.cells cur T (0, 0)) → w'.heap[g]? = some (.cells cur T (0, 0))) : ORow w' base T v cs := by
  obtain ⟨g, cap, cur, h1, h2, h3, h4⟩ := h
  exact ⟨g, cap, cur, h1, h2, hk _ _ h3, h4⟩
theorem ORow.below (h : ORow w base T v cs) (hb : Below w.heap.size w w') : ORow w' base T v cs := h.block (fun g cur hc => (hb.block g (Array.getElem?_eq_some_iff.1 hc).1).trans hc)
theorem ORow.drewN (h : ORow w base T v cs) (n : Nat) : ORow (w.drewN n) base T v cs := h.block (fun _ _ hc => hc)
theorem ORow.lower {base' : Nat} (h : ORow w base T v cs) (hb : base' ≤ base) : ORow w base' T v cs := by
  obtain ⟨g, cap, cur, h1, h2, h3⟩ := h
  exact ⟨g, cap, cur, h1, by omega, h3⟩
theorem ORow.own (h : ORow w base T v cs) : ∃ g cap cur, v = .slice (some ⟨g, 0, none⟩) cs.length cap ∧ v.ownBlock = some g ∧ base ≤ g ∧ w.heap[g]? = some (.cells cur T (0, 0)) := by
  obtain ⟨g, cap, cur, rfl, h2, h3, h4⟩ := h
  exact ⟨g, cap, cur, rfl, rfl, h2, h3⟩
theorem ORow.new (w : World) (hb : base ≤ w.heap.size) (T : Nat) : ORow (w.alloc (.cells #[] T)) base T (.slice (some ⟨w.heap.size, 0, none⟩) 0 0) [] := ⟨w.heap.size, 0, #[], rfl, hb, al_eq rfl, Nat.le_refl _, Nat.zero_le _, rfl, rfl⟩
theorem ORow.cell (h : ORow w base T v cs) : ∃ g cap, v = .slice (some ⟨g, 0, none⟩) cs.length cap ∧ ∀ j (hj : j < cs.length), w.cell? ⟨g, j, none⟩ = some cs[j] := by
  obtain ⟨g, cap, cur, h1, h2, h3, h4, h5, h6, h7⟩ := h
  refine ⟨g, cap, h1, fun j hj => ?_⟩
  have h8 : cur.toList[j]? = cs[j]? := by
    have := congrArg (fun l => l[j]?) h7
    simp only [List.getElem?_take, if_pos hj] at this
    exact this
  rw [cell_of_row w g j cur _ (0, 0) h3, ← Array.getElem?_toList, h8, List.getElem?_eq_getElem hj]
theorem ORow.app {t bytes : Nat} {z : Value} (ht : Try.prog.underlying t = some (.slice T)) (hinfo : (Try.prog.info? T).map (fun i => (i.zero, i.size, i.bytes)) = some (some z, 1, bytes)) (hz : z.cells.size = 1) (hby : bytes ≤ 16) (h : ORow w base T v cs) (hb : base ≤ w.heap.size) (hl : cs.length ≤ 1000000) (x : Value) (hx : x.oneCell' = true) :
    ∃ v' w1, (∀ ty, (Builtin.append_ #[t, t] ty #[v, .slice (some ⟨w.heap.size, 0, none⟩) 1 1]).run Try.prog (w.alloc (.cells #[x] T)) = .ok v' w1) ∧ ORow w1 base T v' (cs ++ [x]) ∧ (w.alloc (.cells #[x] T)).grownBy w1 v.ownBlock ∧ ∃ g cap, v' = .slice (some ⟨g, 0, none⟩) (cs.length + 1) cap := by
  obtain ⟨i0, hi0, hz0, hs1, hb1⟩ := info_parts hinfo
  have hnew : ∀ j u, ([x] : List Value)[j]? = some u → (w.alloc (.cells #[x] T)).cell? ((⟨w.heap.size, 0, none⟩ : Addr).add j) = some u := by
    intro j u hj
    have hj0 : j = 0 := by have := (List.getElem?_eq_some_iff.1 hj).1; simp at this; exact this
    subst hj0
    simp at hj
    subst hj
    rw [add_plain]
    simp only [World.cell?, al_eq (W := w) (o := .cells #[x] T) rfl]
    rfl
  obtain ⟨g0, cap0, cur0, h1, h2, h3, h4, h5, h6, h7⟩ := h
  have hown : (w.alloc (.cells #[x] T)).ownsRow base T 1 v cs.length cs := ⟨by simp, .inr ⟨g0, cap0, cur0, h1, h2, (al_lt (Array.getElem?_eq_some_iff.1 h3).1).trans h3, h4, h5, by omega, by simpa using h7⟩⟩
  have hmx : maxLen = 9223372036854775807 := rfl
  have hmul : (cs.length + 1) * bytes ≤ 1000001 * 16 := Nat.mul_le_mul (by omega) hby
  obtain ⟨v', w', hrun, hown2, hg, _, hat⟩ := run_append_own_at (P := Try.prog) (w.alloc (.cells #[x] T)) base t 0 T i0 z 1 bytes ht hi0 hz0 hs1 hb1 hz (by decide) v cs.length cs hown ⟨w.heap.size, 0, none⟩ 1 1 [x] rfl hnew (fun u hu => by obtain rfl := List.mem_singleton.1 hu; exact hx) (by omega) (by omega) (by simp; omega)
  rcases hown2.2 with ⟨rfl, h0⟩ | ⟨g, cap, cur, rfl, hbg, hblk, hnc, hcm, hcs, htake⟩
  · omega
  · exact ⟨_, w', fun _ => hrun, ⟨g, cap, cur, by simp, hbg, hblk, by simpa using hnc, hcm, by omega, by simpa using htake⟩, hg, g, cap, rfl⟩
end
theorem infoStr : (Try.prog.info? 9).map (fun i => (i.zero, i.size, i.bytes)) = some (some (.string ⟨#[]⟩), 1, 16) := by kernel_rfl
theorem infoBool : (Try.prog.info? 4).map (fun i => (i.zero, i.size, i.bytes)) = some (some (.bool false), 1, 1) := by kernel_rfl
theorem ORow.srow {w : World} {base : Nat} {v : Value} {L : List ByteArray} (h : ORow w base 9 v (L.map Value.string)) : ∃ A cap, v = .slice A L.length cap ∧ SRow w A L := by
  obtain ⟨g, cap, h1, h2⟩ := h.cell
  refine ⟨_, cap, by simpa using h1, fun j hj => ⟨_, rfl, ?_⟩⟩
  rw [add_plain, h2 j (by simpa using hj)]
  simp
theorem VarAt.keep {w w' : World} {base : Nat} {e : Ent} (h : VarAt w base e) (hk : ∀ (k : Nat) (o : Obj), w.heap[k]? = some o → Mine o → w'.heap[k]? = some o) : VarAt w' base e := ⟨hk _ _ h.blk (.inl rfl), h.lo, h.txt.keep hk, h.few, h.used⟩
theorem name_any (w : World) (base : Nat) (e : Ent) (h : VarAt w base e) :
    Calls Try.prog 22 #[.pointer (some ⟨e.p, 0, none⟩)] w fun ed w' => ed = .returned (.slice (some ⟨e.gn, 0, none⟩) e.name.size e.cap) ∧ w' = w := by
  have h0 := h.cell0
  have h1 : w.cell? ⟨e.p, 1, none⟩ = some (.pointer none) := by simp only [World.cell?, h.blk]; rfl
  clear h
  go_enter Try.func22, Try.ntmps22
  go_wp2
  refine wp_loop_rounds 1 ?_
  rw [rounds_succ]
  go_wp2
  go_ret
  exact ⟨rfl, rfl⟩
set_option maxHeartbeats 1000000 in
theorem namesOf_any (w : World) (base : Nat) (v : Value) (D : List Ent) (hr : RowP w base v D) (hv : ∀ e ∈ D, VarAt w base e) (hf : D.length ≤ 60) :
    Calls Try.prog 15 #[v] w fun e w' => ∃ v', e = .returned v' ∧ ORow w' w.heap.size 9 v' ((D.map Ent.name).map Value.string) ∧ Below w.heap.size w w' := by
  obtain ⟨A, c, rfl, hc, hat⟩ := hr.any
  obtain ⟨n, hn⟩ : ∃ n, n = D.length := ⟨_, rfl⟩
  have HN := Aside0.mk hn
  have HAT := Aside0.mk hat
  have HV := Aside0.mk hv
  rw [← hn] at hc hf ⊢
  clear hr hv hat hn
  have HNEW := Aside0.mk (ORow.new w (Nat.le_refl _) 9)
  have HB0 := Aside0.mk (show Below w.heap.size w (w.alloc (.cells #[] 9)) from (Below.refl _ _).alloc (Nat.le_refl _) _)
  go_enter Try.func15, Try.ntmps15
  go_wp2
  go_loopw [3, 9] (fun o v wr => ∃ k : Nat, v = .int .i64 (k : Int) ∧ k ≤ n ∧ Aside0 (ORow wr w.heap.size 9 o (((D.take k).map Ent.name).map Value.string)) ∧ Aside0 (Below w.heap.size w wr)) (fun _ v _ => n - (intOf v).toNat)
  case atStart => exact ⟨0, rfl, Nat.zero_le _, HNEW, HB0⟩
  case round =>
    obtain ⟨k, rfl, hk, HO, HB⟩ := hrel
    by_cases hlt : k < n
    · have hlt2 : k < D.length := by have := HN.out; omega
      obtain ⟨g, rfl, hcell⟩ := HAT.out k hlt2
      have hc2 : wr.cell? ⟨g, k, none⟩ = some D[k].at := (HB.out.cell (World.block_lt_of_cell? w _ hcell)).trans hcell
      have hvk := (HV.out D[k] (List.getElem_mem hlt2)).keep (w' := wr) (fun j o hb _ => (HB.out.block j (Array.getElem?_eq_some_iff.1 hb).1).trans hb)
      obtain ⟨ej, hej⟩ : ∃ e, e = D[k] := ⟨_, rfl⟩
      rw [← hej] at hc2 hvk
      have HVK := Aside0.mk hvk
      have HEJ := Aside0.mk hej
      have hcv : (convert 48 9 (.slice (some ⟨ej.gn, 0, none⟩) ej.name.size ej.cap)).run Try.prog wr = .ok (.string ej.name) wr := by
        have := Kd.C_string (c := ej.cap) Try.underlying48 Try.underlying5 Try.underlying9 hvk.txt.C
        rw [numsOf_length, nums_str] at this
        exact this
      obtain ⟨v1, w1, happ, ho1, hg1, g1, c1, hv1⟩ := ORow.app Try.underlying25 infoStr rfl (by decide) HO.out HB.out.size (by simp; omega) (.string ej.name) rfl
      obtain ⟨g0, c0, cur0, hov, howb, hbg, hblk⟩ := HO.out.own
      have HAPP := Aside0.mk happ
      have HO1 := Aside0.mk (show ORow w1 w.heap.size 9 v1 (((D.take (k + 1)).map Ent.name).map Value.string) by
        rw [List.take_succ_eq_append_getElem hlt2, List.map_append, List.map_append, ← HEJ.out]
        exact ho1)
      have HB1 := Aside0.mk (show Below w.heap.size w w1 from (HB.out.alloc HB.out.size _).grown hg1 (by have := HB.out.size; simp; omega) (fun q hq => by rw [howb] at hq; cases hq; exact hbg))
      clear hcell hvk hej happ ho1 hg1 hblk howb hbg
      clear hov hv1
      unfold Ent.at at hc2
      go_wp2_with fail
      (with_reducible refine (name_any wr base ej HVK.out).mono ?_)
      rintro e w2 ⟨rfl, hw2⟩
      rw [hw2]
      clear hw2
      go_wp2_with (at_builtin; refine append_event rfl (.tmp 13) (.tmp 17) 25 rfl rfl rfl (HAPP.out _) ?_)
      go_roundw
      case rel => exact ⟨k + 1, by go_num, hlt, HO1, HB1⟩
      case measure => simp [intOf] <;> omega
    · obtain rfl : k = n := by omega
      have HF := Aside0.mk (show ORow wr w.heap.size 9 _ ((D.map Ent.name).map Value.string) from by have := HO.out; rw [HN.out, List.take_of_length_le (Nat.le_refl _)] at this; exact this)
      clear HO hlt hk
      go_wp2
      go_ret
      exact ⟨_, rfl, HF.out, HB.out⟩
end Go.Proofs.Ytohfnhfpiipglaa.Own
