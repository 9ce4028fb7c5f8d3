/- The contract of the function WriteWithin: a piece is written exactly if it fits behind what has been written. -/
import Derived.Test.YtbjjjbfjplfmeaaDoorCPieces
import Derived.Test.YtbjjjbfjplfmeaaDoorCEof
namespace Go.Proofs.YtbjjjbfjplfmeaaDoor.Own
open Go.RowKit Go.Proofs.YtbjjjbfjplfmeaaDoorW.PrintWords Go.Proofs.YtbjjjbfjplfmeaaDoorW.PrintLast
set_option linter.unusedVariables false
set_option linter.unusedSimpArgs false
theorem WrAt.grownS {α : Type} {enc : α → Value} {h1 : ∀ x, (enc x).oneCell' = true} {w w' : World} {base gw cap e : Nat} {ex : Bool} {buf : List Int} {v : Value} {xs : List α} (h : WrAt w base gw ex buf cap) (hR : (Kd.scalar enc h1).R e w base (fun _ => True) v xs) (he : e ≠ 5 ∧ e ≠ 113) (hg : w.grownBy w' v.ownBlock) : WrAt w' base gw ex buf cap :=
  h.keep fun i cs t hi ht => by
    rw [hg.block i (Array.getElem?_eq_some_iff.1 hi).1 ?_]
    · exact hi
    · intro hv
      rcases (Kd.own_of_R hR).2 with ⟨rfl, _⟩ | ⟨g, cap, cur, rfl, _, hh, _⟩
      · simp [Value.ownBlock] at hv
      · simp only [Value.ownBlock, Option.some.injEq] at hv
        subst hv
        rw [hh] at hi
        injection hi with hi
        injection hi with _ hi
        rcases ht with rfl | rfl
        · exact he.1 hi
        · exact he.2 hi
theorem R_keepS {α : Type} {enc : α → Value} {h1 : ∀ x, (enc x).oneCell' = true} {w w' : World} {base e : Nat} {v : Value} {xs : List α} (h : (Kd.scalar enc h1).R e w base (fun _ => True) v xs) (hk : ∀ (g : Nat) (cur : Array Value), w.heap[g]? = some (.cells cur e (0, 0)) → w'.heap[g]? = some (.cells cur e (0, 0))) : (Kd.scalar enc h1).R e w' base (fun _ => True) v xs := by
  obtain ⟨k1, k2⟩ := Kd.own_of_R h
  refine Kd.R_of_own (h1 := h1) ⟨k1, ?_⟩ (fun _ _ => trivial)
  rcases k2 with k2 | ⟨g, cap, cur, e1, e2, e3, e4⟩
  · exact .inl k2
  · exact .inr ⟨g, cap, cur, e1, e2, hk g cur e3, e4⟩
set_option maxRecDepth 20000 in
set_option maxHeartbeats 1000000 in
theorem write_full (gw base cap : Nat) (buf : List Int) (A : Option Addr) (c : Nat) (l : List Int) (w : World) (u : TypeId) (ev : Value) (hE : w.cell? ⟨0, 0, none⟩ = some (.iface u ev)) (hEb : 0 < base) (hW : WrAt w base gw false buf cap) (hfit : cap < buf.length + l.length) (hcap : cap < 35184372088832) (hlm : l.length < 35184372088832) :
    Calls Tryd.prog 42 #[.pointer (some ⟨gw, 0, none⟩), .slice A l.length c] w fun e w' =>
      e = .returned (.tuple #[.int .i64 0, .iface u ev]) ∧ WrAt w' base gw false buf cap ∧ Below base w w' ∧ KeepT w w' gw := by
  obtain ⟨g, cur, er, hw, hbg, hgw, hbw, hg, hn, hsz, htk⟩ := hW
  have hcell : w.cell? ⟨gw, 0, none⟩ = some (.slice (some ⟨g, 0, none⟩) buf.length cap) := by unfold World.cell?; rw [hw]; rfl
  have hcell1 : w.cell? ⟨gw, 1, none⟩ = some er := by unfold World.cell?; rw [hw]; rfl
  have hcell2 : w.cell? ⟨gw, 2, none⟩ = some (.bool false) := by unfold World.cell?; rw [hw]; rfl
  have hfr1 : w.frozen? ⟨gw, 1, none⟩ = false := blk_frozen hw _
  have hgx := grown_set w gw 1 (.iface u ev)
  have hE2 : (w.setCell ⟨gw, 1, none⟩ (.iface u ev)).cell? ⟨0, 0, none⟩ = some (.iface u ev) := by
    have hb0 := World.block_lt_of_cell? w _ hE
    have := hgx.block 0 hb0 (by intro e; cases e; omega)
    unfold World.cell? at hE ⊢
    rw [this]
    exact hE
  have hfin : WrAt (w.setCell ⟨gw, 1, none⟩ (.iface u ev)) base gw false buf cap ∧ Below base w (w.setCell ⟨gw, 1, none⟩ (.iface u ev)) ∧ KeepT w (w.setCell ⟨gw, 1, none⟩ (.iface u ev)) gw := by
    refine ⟨⟨g, cur, .iface u ev, heap_setCell_same w gw 1 _ _ _ hw, hbg, hgw, hbw, ?_, hn, hsz, htk⟩, pw_below_grown (Below.refl base w) (some gw) (Nat.le_trans hbw (Nat.le_of_lt (Array.getElem?_eq_some_iff.1 hw).1)) hgx (fun q hq => by obtain rfl := Option.some.inj hq; exact hbw), ?_⟩
    · rw [hgx.block g (Array.getElem?_eq_some_iff.1 hg).1 (by intro e; cases e; exact hgw rfl)]; exact hg
    · intro i cs t fr hi _ hne
      rw [hgx.block i (Array.getElem?_eq_some_iff.1 hi).1 (by intro e; cases e; exact hne rfl)]
      exact hi
  have HF := Aside0.mk hfin
  obtain ⟨n, hnn⟩ : ∃ n, n = buf.length := ⟨_, rfl⟩
  obtain ⟨m, hmm⟩ : ∃ m, m = l.length := ⟨_, rfl⟩
  rw [← hnn] at hcell hn hfit
  rw [← hmm] at hfit hlm ⊢
  have hgt : ((n : Int) + (m : Int) > (cap : Int)) := by omega
  clear hfin hgx hw hg htk hnn hmm hsz hgw hbg hbw
  go_enter Tryd.func42, Tryd.ntmps42
  go_wp2
  refine start_ (n := 3) (S := fun w' => w'.cell? ⟨0, 0, none⟩ = some (.iface u ev)) (ds := []) #[false, false, false] (by kernel_rfl) rfl rfl hE2 (fun hHeld => ?_)
  refine take_ (i := 0) (N := (some 34)) (v := ?_) (a' := ?_) #[true, false, false] rfl rfl (by kernel_rfl) (fun _ _ _ h => h) (Or.inl ⟨by rfl, ?_⟩) hHeld ?_ ?_
  rotate_left
  · intro w' s0
    go_simp
    with_reducible rfl
  rotate_left
  · simp only [Act.put, List.setIfInBounds_toArray, List.set_cons_zero, List.set_cons_succ, i64_w, i32_w]
    rfl
  refine pure_ (i := 1) (N := (some 4)) (v := ?_) (a' := ?_) #[true, true, false] rfl rfl (by kernel_rfl) (fun _ _ _ h => h) (Or.inl ⟨by rfl, ?_⟩) ?_ ?_
  rotate_left
  · intro w'
    go_simp
    with_reducible rfl
  rotate_left
  · simp only [Act.put, List.setIfInBounds_toArray, List.set_cons_zero, List.set_cons_succ, i64_w, i32_w]
    rfl
  refine pure_ (i := 2) (N := (some 5)) (v := ?_) (a' := ?_) #[true, true, true] rfl rfl (by kernel_rfl) (fun _ _ _ h => h) (Or.inl ⟨by rfl, ?_⟩) ?_ ?_
  rotate_left
  · intro w'
    go_simp
    with_reducible rfl
  rotate_left
  · simp only [Act.put, List.setIfInBounds_toArray, List.set_cons_zero, List.set_cons_succ, i64_w, i32_w]
    rfl
  refine done_ (by kernel_rfl) ?_
  go_wp2
  go_ret2
  exact ⟨rfl, HF.out.1, HF.out.2.1.drew, HF.out.2.2⟩
theorem write_static (gw base cap : Nat) (buf : List Int) (A : Option Addr) (c : Nat) (l : List Int) (w : World) (hE : TabE w) (hEb : 0 < base) (hW : WrAt w base gw false buf cap) (hS : SrcAt w gw A l) (hcap : cap < 35184372088832) (hlm : l.length < 35184372088832) :
    Calls Tryd.prog 42 #[.pointer (some ⟨gw, 0, none⟩), .slice A l.length c] w fun e w' => ∃ (n : Int) (er : Value),
      e = .returned (.tuple #[.int .i64 n, er]) ∧ (er = .nilIface ∧ buf.length + l.length ≤ cap ∨ (∃ u v, er = .iface u v) ∧ ¬ buf.length + l.length ≤ cap) ∧ WrAt w' base gw false (if buf.length + l.length ≤ cap then buf ++ l else buf) cap ∧ Below base w w' ∧ KeepT w w' gw := by
  by_cases h : buf.length + l.length ≤ cap
  · refine (write_fits gw base cap false buf A c l w hW hS h (by omega)).mono ?_
    rintro e w' ⟨rfl, h1, h2, h3⟩
    exact ⟨_, _, rfl, .inl ⟨rfl, h⟩, by rw [if_pos h]; exact h1, h2, h3⟩
  · obtain ⟨u, v, hc⟩ := hE
    refine (write_full gw base cap buf A c l w u v hc hEb hW (by omega) (by omega) hlm).mono ?_
    rintro e w' ⟨rfl, h1, h2, h3⟩
    exact ⟨_, _, rfl, .inr ⟨⟨u, v, rfl⟩, h⟩, by rw [if_neg h]; exact h1, h2, h3⟩
theorem newstatic (v : Value) (A : Option Addr) (n c : Nat) (w : World) (hv : v = .slice A n c) :
    Calls Tryd.prog 41 #[v] w fun e w' => e = .returned (.pointer (some ⟨w.heap.size, 0, none⟩)) ∧ w' = w.alloc (.cells #[.slice A n c, .nilIface, .bool false] 113) := by
  subst hv
  go_enter Tryd.func41, Tryd.ntmps41
  go_wp2
  go_ret
  exact ⟨rfl, rfl⟩
def stepF (size : Nat) (s : List Int × List Bool) (p : List Int) : List Int × List Bool := (if s.1.length + p.length ≤ size then s.1 ++ p else s.1, s.2 ++ [decide (s.1.length + p.length ≤ size)])
def runF (size : Nat) (l : List (List Int)) : List Int × List Bool := l.foldl (stepF size) ([], [])
theorem runF_step {size : Nat} {l : List (List Int)} {k : Nat} (h : k < l.length) : runF size (l.take (k + 1)) = stepF size (runF size (l.take k)) l[k] := by
  unfold runF
  rw [List.take_succ_eq_append_getElem h, List.foldl_append]
  rfl
theorem runF_le (size : Nat) (l : List (List Int)) : ∀ k, k ≤ l.length → (runF size (l.take k)).1.length ≤ size ∧ (runF size (l.take k)).2.length = k
  | 0, _ => by simp [runF]
  | k + 1, h => by
    obtain ⟨h1, h2⟩ := runF_le size l k (by omega)
    rw [runF_step (by omega)]
    unfold stepF
    refine ⟨?_, by simp [h2]⟩
    by_cases hf : (runF size (l.take k)).1.length + (l[k]'(by omega)).length ≤ size
    · simp only [if_pos hf, List.length_append]; omega
    · simp only [if_neg hf]; exact h1
theorem infoB : (Tryd.prog.info? 4).map (fun i => (i.zero, i.size, i.bytes)) = some (some (.bool false), 1, 1) := by kernel_rfl
def impl_WriteWithin.f (a0 : Int) (l1 : List (List Int)) : Option (List Int × List Bool) := if 0 ≤ a0 ∧ a0 < 8796093022208 ∧ l1.length < 8796093022208 ∧ (l1.all fun p => decide (p.length < 8796093022208)) = true then some (runF a0.toNat l1) else none
set_option maxRecDepth 20000 in
set_option maxHeartbeats 1000000 in
theorem impl_WriteWithin.calls (a0 : Int) (A1 : Option Addr) (c1 : Nat) (l1 : List (List Int)) (r1 : List Int) (r2 : List Bool) (w : World) (hr1 : Kd.C (Kd.slice 5 (Kd.int .u8)) w A1 l1.length l1) (hc1 : l1.length ≤ c1) (h : impl_WriteWithin.f a0 l1 = some (r1, r2)) (HTabE : Aside0 (TabE w)) :
    Calls Tryd.prog 20 #[.int .i64 a0, .slice A1 l1.length c1] w fun e w' => ∃ v0_ v1_ : Value, e = .returned (.tuple #[v0_, v1_]) ∧ Kd.R (Kd.int .u8) 5 w' w.heap.size (fun _ => True) v0_ r1 ∧ Kd.R Kd.bool 4 w' w.heap.size (fun _ => True) v1_ r2 ∧ Below w.heap.size w w' := by
  unfold impl_WriteWithin.f at h
  by_cases hl : 0 ≤ a0 ∧ a0 < 8796093022208 ∧ l1.length < 8796093022208 ∧ (l1.all fun p => decide (p.length < 8796093022208)) = true
  · rw [if_pos hl] at h
    have h := Option.some.inj h
    obtain ⟨hz, hs, hl, hall⟩ := hl
    obtain ⟨size, rfl⟩ := Int.eq_ofNat_of_zero_le hz
    rw [Int.toNat_natCast] at h
    have hsz : size < 8796093022208 := by omega
    have HH := Aside0.mk h
    have HR := Aside0.mk hr1
    have HALL := Aside0.mk (show ∀ (k : Nat) (hk : k < l1.length), l1[k].length < 8796093022208 from fun k hk => of_decide_eq_true (List.all_eq_true.1 hall _ (List.getElem_mem hk)))
    have HEB := Aside0.mk (show 0 < w.heap.size from by obtain ⟨u, v, hc⟩ := HTabE.out; exact World.block_lt_of_cell? w _ hc)
    clear h hr1 hall hz hs
    obtain ⟨i0, hi0, hz0, hs1, hb1⟩ := info_parts infoW
    have hmk : ∀ W : World, (Instr.makeSlice 22 (.int .i64 0) (.int .i64 (size : Int))).run Tryd.prog W = .ok (.slice (some ⟨W.heap.size, 0, none⟩) 0 size) (W.alloc (.cells (madeCells #[.int .u8 0] size) 5)) := by
      intro W
      have := run_make (P := Tryd.prog) (w := W) 22 5 i0 (.int .u8 0) Tryd.underlying22 hi0 hz0 .i64 .i64 0 (size : Int) (by omega) (by omega) (by rw [hb1]; omega) (by omega)
      rw [this, hs1, Int.toNat_natCast, Nat.mul_one]
      rfl
    go_enter Tryd.func20, Tryd.ntmps20
    go_wp2_with fail
    refine (newstatic _ _ _ _ _ rfl).mono ?_
    rintro e w1 ⟨rfl, rfl⟩
    go_wp2
    obtain ⟨gw, hgw⟩ : ∃ gw, gw = w.heap.size + 1 := ⟨_, rfl⟩
    obtain ⟨w3, hw3⟩ : ∃ w3, w3 = ((w.alloc (.cells (madeCells #[.int .u8 0] size) 5)).alloc (.cells #[.slice (some ⟨w.heap.size, 0, none⟩) 0 size, .nilIface, .bool false] 113)).alloc (.cells #[] 4) := ⟨_, rfl⟩
    obtain ⟨o0, ho0⟩ : ∃ o0, o0 = Value.slice (some ⟨w.heap.size + 1 + 1, 0, none⟩) 0 0 := ⟨_, rfl⟩
    have hB3 : Below w.heap.size w w3 := by
      rw [hw3]
      exact (((Below.refl w.heap.size w).alloc (Nat.le_refl _) _).alloc (by simp) _).alloc (by simp; omega) _
    have hh1 : w3.heap[w.heap.size + 1 + 1]? = some (.cells #[] 4 (0, 0)) := by
      rw [hw3]
      have := heap_alloc_new ((w.alloc (.cells (madeCells #[.int .u8 0] size) 5)).alloc (.cells #[.slice (some ⟨w.heap.size, 0, none⟩) 0 size, .nilIface, .bool false] 113)) (.cells #[] 4)
      simpa using this
    have hh2 : w3.heap[w.heap.size + 1]? = some (.cells #[.slice (some ⟨w.heap.size, 0, none⟩) 0 size, .nilIface, .bool false] 113 (0, 0)) := by
      rw [hw3]
      have h1 := heap_alloc_new (w.alloc (.cells (madeCells #[.int .u8 0] size) 5)) (.cells #[.slice (some ⟨w.heap.size, 0, none⟩) 0 size, .nilIface, .bool false] 113)
      rw [(below_alloc (Below.refl _ _) _).block _ (by simp)]
      simpa using h1
    have hh3 : w3.heap[w.heap.size]? = some (.cells (madeCells #[.int .u8 0] size) 5 (0, 0)) := by
      rw [hw3, (below_alloc (Below.refl _ _) _).block _ (by simp; omega), (below_alloc (Below.refl _ _) _).block _ (by simp)]
      exact heap_alloc_new w _
    have hW0 : WrAt w3 w.heap.size gw false [] size := ⟨w.heap.size, madeCells #[.int .u8 0] size, .nilIface, by rw [hgw]; exact hh2, Nat.le_refl _, by omega, by omega, hh3, Nat.zero_le _, by rw [size_madeCells] <;> simp, rfl⟩
    have hO0 : Kd.R Kd.bool 4 w3 w.heap.size (fun _ => True) o0 [] := by
      rw [ho0]
      exact Kd.R_of_own (h1 := fun _ => rfl) ⟨rfl, .inr ⟨_, 0, #[], rfl, by omega, hh1, Nat.le_refl _, by simp, rfl, rfl⟩⟩ (fun _ _ => trivial)
    have HW0 := Aside0.mk hW0
    have HO0 := Aside0.mk hO0
    have HB3 := Aside0.mk hB3
    have HGW := Aside0.mk hgw
    clear hW0 hO0 hB3 hh1 hh2 hh3 hmk hi0 hz0 hs1 hb1
    rw [← hw3, ← ho0, ← hgw]
    clear hw3 ho0 hgw
    go_loopw [7, 18] (fun o i wr => ∃ (k : Nat) (ov : Value), k ≤ l1.length ∧ i = .int .i64 k ∧ ov = o ∧ Aside0 (WrAt wr w.heap.size gw false (runF size (l1.take k)).1 size) ∧
        Aside0 (Kd.R Kd.bool 4 wr w.heap.size (fun _ => True) ov (runF size (l1.take k)).2) ∧ Aside0 (Below w.heap.size w wr))
      (fun _ i _ => l1.length - (intOf i).toNat)
    case atStart => exact ⟨0, _, Nat.zero_le _, rfl, rfl, ⟨HW0.out⟩, ⟨HO0.out⟩, HB3⟩
    case round =>
      obtain ⟨k, o, hk, rfl, rfl, HW, HO, HB⟩ := hrel
      by_cases hlt : k < l1.length
      · obtain ⟨ad, A2, c2, e1, hx, hlc, hi⟩ := at_listI HR.out hlt
        cases e1
        replace hx := (HB.out.cell (World.block_lt_of_cell? w _ hx)).trans hx
        have hpl := HALL.out k hlt
        have hst := runF_step (size := size) hlt
        obtain ⟨p, hp⟩ : ∃ p, p = l1[k] := ⟨_, rfl⟩
        rw [← hp] at hx hlc hi hpl hst
        obtain ⟨s, hs⟩ : ∃ s, s = runF size (l1.take k) := ⟨_, rfl⟩
        have hsl := (runF_le size l1 k hk)
        rw [← hs] at HW HO hst hsl
        have HI := Aside0.mk hi
        have HLC := Aside0.mk hlc
        have HP := Aside0.mk hp
        have HPL := Aside0.mk hpl
        have HST := Aside0.mk hst
        have HSL := Aside0.mk hsl
        clear hi hlc hp hpl hst hs hsl
        go_wp2_with fail
        refine (impl_own.calls A2 c2 p p _ (Kd.C_below HI.out HB.out) HLC.out (ownf p (by have := HPL.out; omega))).mono ?_
        rintro e w1 ⟨v, rfl, hv, hb⟩
        have HV := Aside0.mk hv
        have HB1 := Aside0.mk hb
        clear hv hb
        obtain ⟨A3, c3, rfl⟩ := Kd.R_slice HV.out
        have HBW := Aside0.mk (below_then HB.out HB.out.size HB1.out)
        go_wp2_with fail
        refine (write_static gw w.heap.size size s.1 A3 c3 p w1 (HTabE.out.below HBW.out) HEB.out (HW.out.below HB1.out) (src_of_R HV.out HW.out.lt) (by omega) (by have := HPL.out; omega)).mono ?_
        rintro e w2 ⟨n, er, rfl, her, hW2, hB2, hK2⟩
        have HW2 := Aside0.mk hW2
        have HB2 := Aside0.mk (HBW.out.trans hB2)
        have hO2 : Kd.R Kd.bool 4 w2 w.heap.size (fun _ => True) o s.2 :=
          R_keepS (R_keepS HO.out (fun g cur hg => by rw [HB1.out.block g (Array.getElem?_eq_some_iff.1 hg).1]; exact hg)) (fun g cur hg => hK2 g cur _ _ hg (by decide) (by
            intro e
            subst e
            obtain ⟨g', cur', er, h1, _⟩ := HW.out.below HB1.out
            rw [h1] at hg
            injection hg with hg
            injection hg with _ hg
            exact absurd hg (by decide)))
        have HO2 := Aside0.mk hO2
        have HLM := Aside0.mk (show (s.2.length + 1) * 1 ≤ 140737488355328 by have := HSL.out.2; omega)
        have HBS := Aside0.mk (show w.heap.size ≤ w2.heap.size from HB2.out.size)
        clear hW2 hB2 hK2 hO2
        obtain ⟨bb, hbb⟩ : ∃ bb, bb = decide (s.1.length + p.length ≤ size) := ⟨_, rfl⟩
        have HBB := Aside0.mk hbb
        rcases her with ⟨rfl, hyes⟩ | ⟨⟨u, ev, rfl⟩, hno⟩
        · have hb1 : bb = true := by rw [hbb]; exact decide_eq_true hyes
          subst hb1
          clear hbb hyes
          go_wp2_with ((with_reducible refine gate_builtin (b := .append) (xs := #[.tmp 29, .tmp 32]) rfl ?_); at_builtin; refine Kd.R_append Kd.bool (w0 := w) w.heap.size rfl (.tmp 29) (.tmp 32) 30 4 (.bool false) 1 rfl Tryd.underlying30 infoB rfl (by decide) (by omega) o s.2 true [.bool true] (fun _ => True) (fun _ => False) rfl rfl rfl (fun _ hk => hk.elim) (fun _ _ => trivial) HO2.out HB2.out HBS.out HLM.out ?_; intro v3 w4 h5 h6 h7 h8; have HO4 := Aside0.mk h5; have HB4 := Aside0.mk h6; have HW4 := Aside0.mk (HW2.out.grownS HO2.out (by decide) h7); clear h5 h6 h7 h8)
          go_roundw
          case rel =>
            refine ⟨k + 1, _, by omega, by go_num, rfl, ⟨by rw [HST.out]; exact HW4.out⟩, ⟨by rw [HST.out]; unfold stepF; rw [← HBB.out]; exact HO4.out⟩, HB4⟩
          case measure => simp [intOf]; omega
        · have hb1 : bb = false := by rw [hbb]; exact decide_eq_false hno
          subst hb1
          clear hbb hno
          go_wp2_with ((with_reducible refine gate_builtin (b := .append) (xs := #[.tmp 29, .tmp 32]) rfl ?_); at_builtin; refine Kd.R_append Kd.bool (w0 := w) w.heap.size rfl (.tmp 29) (.tmp 32) 30 4 (.bool false) 1 rfl Tryd.underlying30 infoB rfl (by decide) (by omega) o s.2 false [.bool false] (fun _ => True) (fun _ => False) rfl rfl rfl (fun _ hk => hk.elim) (fun _ _ => trivial) HO2.out HB2.out HBS.out HLM.out ?_; intro v3 w4 h5 h6 h7 h8; have HO4 := Aside0.mk h5; have HB4 := Aside0.mk h6; have HW4 := Aside0.mk (HW2.out.grownS HO2.out (by decide) h7); clear h5 h6 h7 h8)
          go_roundw
          case rel =>
            refine ⟨k + 1, _, by omega, by go_num, rfl, ⟨by rw [HST.out]; exact HW4.out⟩, ⟨by rw [HST.out]; unfold stepF; rw [← HBB.out]; exact HO4.out⟩, HB4⟩
          case measure => simp [intOf]; omega
      · have hkk : k = l1.length := by omega
        subst hkk
        rw [List.take_length] at HW HO
        have hF := (runF_le size l1 l1.length (Nat.le_refl _)).1
        rw [List.take_length] at hF
        rw [HH.out] at HW HO hF
        have HFF := Aside0.mk hF
        clear hF
        go_wp2_with fail
        refine (wr_bytes gw w.heap.size size false r1 wr HW.out (by omega)).mono ?_
        rintro e w1 ⟨g, rfl, rfl, hC, hlc⟩
        have HC := Aside0.mk hC
        have HLC := Aside0.mk hlc
        clear hC hlc
        go_wp2_with fail
        refine (impl_own.calls _ _ r1 r1 _ HC.out HLC.out (ownf _ (by have h1_ := HFF.out; exact Nat.lt_of_le_of_lt h1_ (Nat.lt_trans hsz (by decide))))).mono ?_
        rintro e w2 ⟨v, rfl, hv, hb⟩
        have HV := Aside0.mk hv
        have HB1 := Aside0.mk hb
        clear hv hb
        go_wp2
        go_ret2
        exact ⟨_, _, rfl, Kd.R_lower HV.out HB.out.size, R_keepS HO.out (fun g cur hg => by rw [HB1.out.block g (Array.getElem?_eq_some_iff.1 hg).1]; exact hg), below_then HB.out HB.out.size HB1.out⟩
  · rw [if_neg hl] at h
    cases h
end Go.Proofs.YtbjjjbfjplfmeaaDoor.Own
