/- The contract of the function WritePieces: the pieces, one behind the other, and how long each is. -/
import Derived.Test.YtbjjjbfjplfmeaaDoorCWriter
namespace Go.Proofs.YtbjjjbfjplfmeaaDoor.Own
open Go.RowKit Go.Proofs.YtbjjjbfjplfmeaaDoorW.PrintWords Go.Proofs.YtbjjjbfjplfmeaaDoorW.PrintLast
set_option linter.unusedVariables false
set_option linter.unusedSimpArgs false
theorem write_any (gw base cap : Nat) (buf : List Int) (A : Option Addr) (c : Nat) (l : List Int) (w : World) (hW : WrAt w base gw true buf cap) (hS : SrcAt w gw A l) (hcap : cap ≤ 3 * buf.length) (hb : buf.length + l.length < 8796093022208) :
    Calls Tryd.prog 42 #[.pointer (some ⟨gw, 0, none⟩), .slice A l.length c] w fun e w' =>
      ∃ cap', e = .returned (.tuple #[.int .i64 (l.length : Int), .nilIface]) ∧ WrAt w' base gw true (buf ++ l) cap' ∧ cap' ≤ 3 * (buf ++ l).length ∧ Below base w w' ∧ KeepT w w' gw := by
  by_cases h : buf.length + l.length ≤ cap
  · refine (write_fits gw base cap true buf A c l w hW hS h (by omega)).mono ?_
    rintro e w' ⟨rfl, h1, h2, h3⟩
    exact ⟨_, rfl, h1, by rw [List.length_append]; omega, h2, h3⟩
  · refine (write_grow gw base cap buf A c l w hW hS (by omega) (by omega) (by omega)).mono ?_
    rintro e w' ⟨rfl, h1, h2, h3⟩
    exact ⟨_, rfl, h1, by rw [List.length_append]; omega, h2, h3⟩
theorem WrAt.keep {w w' : World} {base gw cap : Nat} {ex : Bool} {buf : List Int} (h : WrAt w base gw ex buf cap) (hk : ∀ (i : Nat) (cs : Array Value) (t : TypeId), w.heap[i]? = some (.cells cs t (0, 0)) → (t = 5 ∨ t = 113) → w'.heap[i]? = some (.cells cs t (0, 0))) : WrAt w' base gw ex buf cap := by
  obtain ⟨g, cur, er, h1, h2, h3, h4, h5, h6, h7, h8⟩ := h
  exact ⟨g, cur, er, hk _ _ _ h1 (.inr rfl), h2, h3, h4, hk _ _ _ h5 (.inl rfl), h6, h7, h8⟩
theorem WrAt.below {w w' : World} {base gw cap : Nat} {ex : Bool} {buf : List Int} (h : WrAt w base gw ex buf cap) (hb : Below w.heap.size w w') : WrAt w' base gw ex buf cap :=
  h.keep fun i cs t hi _ => by rw [hb.block i (Array.getElem?_eq_some_iff.1 hi).1]; exact hi
theorem WrAt.lt {w : World} {base gw cap : Nat} {ex : Bool} {buf : List Int} (h : WrAt w base gw ex buf cap) : gw < w.heap.size := by
  obtain ⟨g, cur, er, h1, _⟩ := h
  exact (Array.getElem?_eq_some_iff.1 h1).1
/-- A row of one's own that is no row of bytes nor a writer may grow. -/
theorem WrAt.grown {w w' : World} {base gw cap e : Nat} {ex : Bool} {buf : List Int} {k : IntKind} {v : Value} {xs : List Int} (h : WrAt w base gw ex buf cap) (hR : Kd.R (Kd.int k) e w base (fun _ => True) v xs) (he : e ≠ 5 ∧ e ≠ 113) (hg : w.grownBy w' v.ownBlock) : WrAt w' base gw ex buf cap :=
  h.keep fun i cs t hi ht => by
    rw [hg.block i (Array.getElem?_eq_some_iff.1 hi).1 ?_]
    · exact hi
    · intro hv
      rcases (Kd.own_of_R hR).2 with ⟨rfl, _⟩ | ⟨g, cap, cur, rfl, _, hh, _⟩
      · simp [Value.ownBlock] at hv
      · simp only [Value.ownBlock, Option.some.injEq] at hv
        subst hv
        rw [hh] at hi
        injection hi with hi
        injection hi with _ hi
        rcases ht with rfl | rfl
        · exact he.1 hi
        · exact he.2 hi
theorem src_of_R {w : World} {gw base : Nat} {A : Option Addr} {c : Nat} {l : List Int} (hR : Kd.R (Kd.int .u8) 5 w base (fun _ => True) (.slice A l.length c) l) (hb : gw < base) : SrcAt w gw A l := by
  rcases (Kd.own_of_R hR).2 with ⟨e, h0⟩ | ⟨g, cap, cur, e, hbg, hh, _, _, hsz, htk⟩
  · exact .inl (List.eq_nil_of_length_eq_zero h0)
  · injection e with e1 e2 e3
    subst e1
    exact .inr ⟨g, cur, rfl, by omega, hh, by simpa [encs, u8w] using htk⟩
theorem wr_bytes (gw base cap : Nat) (ex : Bool) (buf : List Int) (w : World) (hW : WrAt w base gw ex buf cap) (hm : cap < 9223372036854775808) :
    Calls Tryd.prog 43 #[.pointer (some ⟨gw, 0, none⟩)] w fun e w' => ∃ g, e = .returned (.slice (some ⟨g, 0, none⟩) buf.length cap) ∧ w' = w ∧ Kd.C (Kd.int .u8) w (some ⟨g, 0, none⟩) buf.length buf ∧ buf.length ≤ cap := by
  obtain ⟨g, cur, er, h1, h2, h3, h4, h5, h6, h7, h8⟩ := hW
  have hcell : w.cell? ⟨gw, 0, none⟩ = some (.slice (some ⟨g, 0, none⟩) buf.length cap) := by unfold World.cell?; rw [h1]; rfl
  have hC : Kd.C (Kd.int .u8) w (some ⟨g, 0, none⟩) buf.length buf := by
    refine Kd.C_of_reads (d := (0 : Int)) (h1 := fun _ => rfl) ⟨rfl, by omega, fun _ => ⟨_, rfl, fun j hj => ?_⟩⟩
    rw [add_plain, cell_of_row w g _ cur _ (0, 0) h5, ← Array.getElem?_toList]
    have : cur.toList[j]? = (u8w buf)[j]? := by rw [← h8, List.getElem?_take, if_pos hj]
    rw [this]
    simp [u8w, List.getD_eq_getElem?_getD, List.getElem?_eq_getElem hj]
  have HC := Aside0.mk hC
  have H6 := Aside0.mk h6
  clear hC h1 h5 h7 h8
  go_enter Tryd.func43, Tryd.ntmps43
  go_wp2
  go_ret
  exact ⟨g, rfl, rfl, HC.out, H6.out⟩
theorem newwriter (g : Nat) (w : World) :
    Calls Tryd.prog 44 #[.slice (some ⟨g, 0, none⟩) 0 0] w fun e w' => e = .returned (.pointer (some ⟨w.heap.size, 0, none⟩)) ∧ w' = w.alloc (.cells #[.slice (some ⟨g, 0, none⟩) 0 0, .nilIface, .bool true] 113) := by
  go_enter Tryd.func44, Tryd.ntmps44
  go_wp2
  go_ret
  exact ⟨rfl, rfl⟩
theorem R_keepI {w w' : World} {base e : Nat} {k : IntKind} {v : Value} {xs : List Int} (h : Kd.R (Kd.int k) e w base (fun _ => True) v xs) (hk : ∀ (g : Nat) (cur : Array Value), w.heap[g]? = some (.cells cur e (0, 0)) → w'.heap[g]? = some (.cells cur e (0, 0))) : Kd.R (Kd.int k) e w' base (fun _ => True) v xs := by
  obtain ⟨h1, h2⟩ := Kd.own_of_R h
  refine Kd.R_of_own (h1 := fun _ => rfl) ⟨h1, ?_⟩ (fun _ _ => trivial)
  rcases h2 with h2 | ⟨g, cap, cur, e1, e2, e3, e4⟩
  · exact .inl h2
  · exact .inr ⟨g, cap, cur, e1, e2, hk g cur e3, e4⟩
theorem ownf (l : List Int) (h : l.length < 140737488355328) : impl_own.f l = some l := by unfold impl_own.f; simp [h]
theorem infoI : (Tryd.prog.info? 3).map (fun i => (i.zero, i.size, i.bytes)) = some (some (.int .i64 0), 1, 8) := by kernel_rfl
theorem flat_take {l : List (List Int)} {k : Nat} (h : k < l.length) : (l.take (k + 1)).flatten = (l.take k).flatten ++ l[k] := by
  rw [List.take_succ_eq_append_getElem h, List.flatten_append]
  simp
theorem flat_le (l : List (List Int)) (k : Nat) : (l.take k).flatten.length ≤ l.flatten.length := by
  have : l.flatten = (l.take k).flatten ++ (l.drop k).flatten := by rw [← List.flatten_append, List.take_append_drop]
  rw [this, List.length_append]
  omega
theorem at_listI {e : Nat} {w : World} {A0 : Option Addr} {l0 : List (List Int)} (h : Kd.C (Kd.slice e (Kd.int .u8)) w A0 l0.length l0) {k : Nat} (hk : k < l0.length) :
    ∃ ad A c, A0 = some ad ∧ w.cell? (ad.add k) = some (.slice A l0[k].length c) ∧ l0[k].length ≤ c ∧ Kd.C (Kd.int .u8) w A l0[k].length l0[k] := by
  obtain ⟨ad, e1, hcell⟩ := h.2.2 (by omega)
  obtain ⟨cs, _, ⟨A, c, h1, h2, h3⟩, h4⟩ := hcell k l0[k] (List.getElem?_eq_getElem hk)
  refine ⟨ad, A, c, e1, ?_, h2, h3⟩
  have := h4 0 (.slice A l0[k].length c) (by rw [h1]; rfl)
  simpa [Kd.slice] using this
def impl_WritePieces.f (l0 : List (List Int)) : Option (List Int × List Int) := if l0.length < 8796093022208 ∧ l0.flatten.length < 8796093022208 then some (l0.flatten, l0.map fun p => (p.length : Int)) else none
set_option maxRecDepth 20000 in
set_option maxHeartbeats 1000000 in
theorem impl_WritePieces.calls (A0 : Option Addr) (c0 : Nat) (l0 : List (List Int)) (r1 r2 : List Int) (w : World) (hr0 : Kd.C (Kd.slice 5 (Kd.int .u8)) w A0 l0.length l0) (hc0 : l0.length ≤ c0) (h : impl_WritePieces.f l0 = some (r1, r2)) :
    Calls Tryd.prog 21 #[.slice A0 l0.length c0] w fun e w' => ∃ v0_ v1_ : Value, e = .returned (.tuple #[v0_, v1_]) ∧ Kd.R (Kd.int .u8) 5 w' w.heap.size (fun _ => True) v0_ r1 ∧ Kd.R (Kd.int .i64) 3 w' w.heap.size (fun _ => True) v1_ r2 ∧ Below w.heap.size w w' := by
  unfold impl_WritePieces.f at h
  by_cases hl : l0.length < 8796093022208 ∧ l0.flatten.length < 8796093022208
  · rw [if_pos hl] at h
    obtain ⟨rfl, rfl⟩ := Prod.mk.inj (Option.some.inj h)
    clear h
    obtain ⟨hl, hfl⟩ := hl
    have HR := Aside0.mk hr0
    have HFL := Aside0.mk hfl
    clear hr0 hfl
    go_enter Tryd.func21, Tryd.ntmps21
    go_wp2_with fail
    refine (newwriter _ _).mono ?_
    rintro e w1 ⟨rfl, rfl⟩
    go_wp2
    obtain ⟨gw, hgw⟩ : ∃ gw, gw = w.heap.size + 1 := ⟨_, rfl⟩
    obtain ⟨w3, hw3⟩ : ∃ w3, w3 = ((w.alloc (.cells #[] 5)).alloc (.cells #[.slice (some ⟨w.heap.size, 0, none⟩) 0 0, .nilIface, .bool true] 113)).alloc (.cells #[] 3) := ⟨_, rfl⟩
    obtain ⟨o0, ho0⟩ : ∃ o0, o0 = Value.slice (some ⟨w.heap.size + 1 + 1, 0, none⟩) 0 0 := ⟨_, rfl⟩
    have hB3 : Below w.heap.size w w3 := by
      rw [hw3]
      exact (((Below.refl w.heap.size w).alloc (Nat.le_refl _) _).alloc (by simp) _).alloc (by simp; omega) _
    have hh1 : w3.heap[w.heap.size + 1 + 1]? = some (.cells #[] 3 (0, 0)) := by
      rw [hw3]
      have := heap_alloc_new ((w.alloc (.cells #[] 5)).alloc (.cells #[.slice (some ⟨w.heap.size, 0, none⟩) 0 0, .nilIface, .bool true] 113)) (.cells #[] 3)
      simpa using this
    have hh2 : w3.heap[w.heap.size + 1]? = some (.cells #[.slice (some ⟨w.heap.size, 0, none⟩) 0 0, .nilIface, .bool true] 113 (0, 0)) := by
      rw [hw3]
      have h1 := heap_alloc_new (w.alloc (.cells #[] 5)) (.cells #[.slice (some ⟨w.heap.size, 0, none⟩) 0 0, .nilIface, .bool true] 113)
      rw [(below_alloc (Below.refl _ _) _).block _ (by simp)]
      simpa using h1
    have hh3 : w3.heap[w.heap.size]? = some (.cells #[] 5 (0, 0)) := by
      rw [hw3, (below_alloc (Below.refl _ _) _).block _ (by simp; omega), (below_alloc (Below.refl _ _) _).block _ (by simp)]
      exact heap_alloc_new w _
    have hW0 : WrAt w3 w.heap.size gw true [] 0 := ⟨w.heap.size, #[], .nilIface, by rw [hgw]; exact hh2, Nat.le_refl _, by omega, by omega, hh3, Nat.le_refl _, rfl, rfl⟩
    have hO0 : Kd.R (Kd.int .i64) 3 w3 w.heap.size (fun _ => True) o0 [] := by
      rw [ho0]
      exact R_block (k := .i64) (xs := []) hh1 (by omega) rfl (Nat.le_refl _) (by omega) rfl
    have HW0 := Aside0.mk hW0
    have HO0 := Aside0.mk hO0
    have HB3 := Aside0.mk hB3
    have HGW := Aside0.mk hgw
    clear hW0 hO0 hB3 hh1 hh2 hh3
    rw [← hw3, ← ho0, ← hgw]
    clear hw3 ho0 hgw
    go_loopw [5, 15] (fun o i wr => ∃ (k cap : Nat) (ov : Value), k ≤ l0.length ∧ i = .int .i64 k ∧ ov = o ∧ Aside0 (WrAt wr w.heap.size gw true (l0.take k).flatten cap) ∧ Aside0 (cap ≤ 3 * (l0.take k).flatten.length) ∧
        Aside0 (Kd.R (Kd.int .i64) 3 wr w.heap.size (fun _ => True) ov ((l0.take k).map fun p => (p.length : Int))) ∧ Aside0 (Below w.heap.size w wr))
      (fun _ i _ => l0.length - (intOf i).toNat)
    case atStart => exact ⟨0, 0, _, Nat.zero_le _, rfl, rfl, ⟨HW0.out⟩, ⟨Nat.zero_le _⟩, ⟨HO0.out⟩, HB3⟩
    case round =>
      obtain ⟨k, cap, o, hk, rfl, rfl, HW, HCAP, HO, HB⟩ := hrel
      by_cases hlt : k < l0.length
      · obtain ⟨ad, A1, c1, e1, hx, hlc, hi⟩ := at_listI HR.out hlt
        cases e1
        replace hx := (HB.out.cell (World.block_lt_of_cell? w _ hx)).trans hx
        obtain ⟨p, hp⟩ : ∃ p, p = l0[k] := ⟨_, rfl⟩
        have hft := flat_take hlt
        have hfle := flat_le l0 (k + 1)
        rw [← hp] at hx hlc hi hft
        have HI := Aside0.mk hi
        have HLC := Aside0.mk hlc
        have HP := Aside0.mk hp
        have hps : (l0.take k).flatten.length + p.length < 8796093022208 := by
          have h1 := HFL.out
          rw [hft, List.length_append] at hfle
          omega
        have HPS := Aside0.mk hps
        have HFT := Aside0.mk hft
        clear hi hlc hp hps hft hfle
        go_wp2_with fail
        refine (impl_own.calls A1 c1 p p _ (Kd.C_below HI.out HB.out) HLC.out (ownf p (by have := HPS.out; omega))).mono ?_
        rintro e w1 ⟨v, rfl, hv, hb⟩
        have HV := Aside0.mk hv
        have HB1 := Aside0.mk hb
        clear hv hb
        obtain ⟨A2, c2, rfl⟩ := Kd.R_slice HV.out
        go_wp2_with fail
        refine (write_any gw w.heap.size cap (l0.take k).flatten A2 c2 p w1 (HW.out.below HB1.out) (src_of_R HV.out HW.out.lt) HCAP.out HPS.out).mono ?_
        rintro e w2 ⟨cap', rfl, hW2, hc2, hB2, hK2⟩
        have HW2 := Aside0.mk hW2
        have HC2 := Aside0.mk hc2
        have HB2 := Aside0.mk (below_then HB.out HB.out.size HB1.out |>.trans hB2)
        have hO2 : Kd.R (Kd.int .i64) 3 w2 w.heap.size (fun _ => True) o ((l0.take k).map fun p => (p.length : Int)) :=
          R_keepI (R_keepI HO.out (fun g cur hg => by rw [HB1.out.block g (Array.getElem?_eq_some_iff.1 hg).1]; exact hg)) (fun g cur hg => hK2 g cur _ _ hg (by decide) (by
            intro e
            subst e
            obtain ⟨g', cur', er, h1, _⟩ := HW.out.below HB1.out
            rw [h1] at hg
            injection hg with hg
            injection hg with _ hg
            exact absurd hg (by decide)))
        have HO2 := Aside0.mk hO2
        have HLM := Aside0.mk (show (((l0.take k).map fun p => (p.length : Int)).length + 1) * 8 ≤ 140737488355328 by rw [List.length_map, List.length_take]; omega)
        have HBS := Aside0.mk (show w.heap.size ≤ w2.heap.size from HB2.out.size)
        clear hW2 hc2 hB2 hK2 hO2
        go_wp2_with ((with_reducible refine gate_builtin (b := .append) (xs := #[.tmp 26, .tmp 28]) rfl ?_); at_builtin; refine Kd.R_append (Kd.int .i64) (w0 := w) w.heap.size rfl (.tmp 26) (.tmp 28) 27 3 (.int .i64 0) 8 rfl Tryd.underlying27 infoI rfl (by decide) (by omega) o ((l0.take k).map fun p => (p.length : Int)) (p.length : Int) [.int .i64 (p.length : Int)] (fun _ => True) (fun _ => False) rfl rfl rfl (fun _ hk => hk.elim) (fun _ _ => trivial) HO2.out HB2.out HBS.out HLM.out ?_; intro v3 w4 h5 h6 h7 h8; have HO4 := Aside0.mk h5; have HB4 := Aside0.mk h6; have HW4 := Aside0.mk (HW2.out.grown HO2.out (by decide) h7); clear h5 h6 h7 h8)
        go_roundw
        case rel =>
          refine ⟨k + 1, cap', _, by omega, by go_num, rfl, ⟨by rw [HFT.out]; exact HW4.out⟩, ⟨by rw [HFT.out]; exact HC2.out⟩, ⟨?_⟩, HB4⟩
          rw [List.take_succ_eq_append_getElem hlt, List.map_append, ← HP.out]
          exact HO4.out
        case measure => simp [intOf]; omega
      · have hkk : k = l0.length := by omega
        subst hkk
        rw [List.take_length] at HW HCAP HO
        obtain ⟨F, hF⟩ : ∃ F, F = l0.flatten := ⟨_, rfl⟩
        have HFL2 := HFL
        rw [← hF] at HW HCAP HFL2
        have HF := Aside0.mk hF
        clear hF
        go_wp2_with fail
        refine (wr_bytes gw w.heap.size cap true F wr HW.out (by have := HCAP.out; have := HFL2.out; omega)).mono ?_
        rintro e w1 ⟨g, rfl, rfl, hC, hlc⟩
        have HC := Aside0.mk hC
        have HLC := Aside0.mk hlc
        clear hC hlc
        go_wp2_with fail
        refine (impl_own.calls _ _ F F _ HC.out HLC.out (ownf _ (by have := HFL2.out; omega))).mono ?_
        rintro e w2 ⟨v, rfl, hv, hb⟩
        have HV := Aside0.mk hv
        have HB1 := Aside0.mk hb
        clear hv hb
        go_wp2
        go_ret2
        exact ⟨_, _, rfl, by rw [← HF.out]; exact Kd.R_lower HV.out HB.out.size, R_keepI HO.out (fun g cur hg => by rw [HB1.out.block g (Array.getElem?_eq_some_iff.1 hg).1]; exact hg), below_then HB.out HB.out.size HB1.out⟩
  · rw [if_neg hl] at h
    cases h
end Go.Proofs.YtbjjjbfjplfmeaaDoor.Own
