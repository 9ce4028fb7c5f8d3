/- The contracts of the functions of the package's Writer: a piece is written behind what has been written. -/
import Derived.Test.YtbjjjbfjplfmeaaDoorCown
import Derived.Test.YtbjjjbfjplfmeaaDoorOwn
import Derived.Laws.IdiomCopy
import Derived.Outline
namespace Go.Proofs.YtbjjjbfjplfmeaaDoor.Own
open Go.RowKit Go.Proofs.YtbjjjbfjplfmeaaDoorW.PrintWords Go.Proofs.YtbjjjbfjplfmeaaDoorW.PrintLast
set_option linter.unusedVariables false
set_option linter.unusedSimpArgs false
theorem infoW : (Tryd.prog.info? 5).map (fun i => (i.zero, i.size, i.bytes)) = some (some (.int .u8 0), 1, 1) := by kernel_rfl
theorem sizeW : (Tryd.prog.info? 5).map (·.size) = some 1 := by kernel_rfl
def u8w (l : List Int) : List Value := l.map (Value.int .u8)
/-- A copy in a plain region: what is behind it is known, and nothing else has turned. -/
theorem copy_wp {P : Program} {w : World} {ops : Array Oper} {rest : List Oper} {o : Oper} {a : Act} {Q : Exit → Act → World → Prop} (hgd : o.guard = none) (d s : Operand) (t e : TypeId)
    (ho : o.op = .call { callee := .builtin .copy, args := #[d, s], argTypes := #[t, t] }) (ht : P.underlying t = some (.slice e)) (hsz : (P.info? e).map (·.size) = some 1)
    {dp sp : Option Addr} {dLen dCap sLen sCap : Nat} (hd : a.eval d = .slice dp dLen dCap) (hs : a.eval s = .slice sp sLen sCap)
    (g off : Nat) (cur : Array Value) (hg : w.heap[g]? = some (.cells cur e (0, 0))) (cs : List Value) (hn : cs.length = Nat.min sLen dLen)
    (hpos : 0 < cs.length → dp = some ⟨g, off, none⟩ ∧ ∃ ad, sp = some ad ∧ ∀ j v, cs[j]? = some v → w.cell? (ad.add j) = some v)
    (hfit : off + cs.length ≤ cur.size) (h1 : ∀ v ∈ cs, v.oneCell' = true)
    (h : ∀ (w' : World) (cur' : Array Value), w'.heap[g]? = some (.cells cur' e (0, 0)) → cur'.size = cur.size → cur'.toList = cur.toList.take off ++ cs ++ cur.toList.drop (off + cs.length) → w.grownBy w' (some g) →
      wpList P ops Q rest (a.put o.dst (goInt (cs.length : Int))) w') : wpList P ops Q (o :: rest) a w := by
  refine wpList_plain hgd fun K hK => ?_
  unfold Oper.wp execOp
  by_cases h0 : cs.length = 0
  · have hr := run_copy_none (P := P) w t t o.type e dp sp dLen dCap sLen sCap ht hsz (by omega)
    simp only [ho, resolve, invoke, builtin, Sem.run_bind, Sem.run_pure, Result.andThen_ok, List.map_toArray, List.map_cons, List.map_nil, hd, hs, hr]
    have hc : cs = [] := List.eq_nil_of_length_eq_zero h0
    subst hc
    exact hK _ _ (h w cur hg rfl (by simp) (World.grownBy.refl w _))
  · obtain ⟨rfl, ad, rfl, hsrc⟩ := hpos (by omega)
    have hr := run_copy_cells (P := P) w t t o.type e g off dLen dCap ad sLen sCap cs ht hsz hn hsrc (fun j hj => by rw [cell_of_row w g _ cur e (0, 0) hg]; simp; omega) (fun j _ => blk_frozen hg _) h1
    simp only [ho, resolve, invoke, builtin, Sem.run_bind, Sem.run_pure, Result.andThen_ok, List.map_toArray, List.map_cons, List.map_nil, hd, hs, hr]
    obtain ⟨cur', h3, h4, h5⟩ := setCells_row cs off w cur hg hfit
    obtain ⟨s1, s2, s3, s4⟩ := setCells_same g cs off w
    exact hK _ _ (h _ cur' h3 h4 h5 ⟨s1, s2, s3, by rw [s4]; exact Nat.le_refl _, fun k' _ hk' => setCells_far _ off k' (fun he => hk' (by rw [he]))⟩)
theorem grown_set (w : World) (b i : Nat) (v : Value) : w.grownBy (w.setCell ⟨b, i, none⟩ v) (some b) :=
  ⟨rfl, rfl, rfl, by simp [World.setCell], fun k hk hne => RowKit.Below.heap_setCell _ _ _ _ (by intro e; exact hne (by rw [e]))⟩
/-- The writer at block gw: what has been written, the room. -/
def WrAt (w : World) (base gw : Nat) (ex : Bool) (buf : List Int) (cap : Nat) : Prop :=
  ∃ g cur er, w.heap[gw]? = some (.cells #[.slice (some ⟨g, 0, none⟩) buf.length cap, er, .bool ex] 113 (0, 0)) ∧ base ≤ g ∧ g ≠ gw ∧ base ≤ gw ∧
    w.heap[g]? = some (.cells cur 5 (0, 0)) ∧ buf.length ≤ cap ∧ cur.size = cap ∧ cur.toList.take buf.length = u8w buf
/-- A piece: a row, not in the writer's block. -/
def SrcAt (w : World) (gw : Nat) (A : Option Addr) (l : List Int) : Prop :=
  l = [] ∨ ∃ gs cs, A = some ⟨gs, 0, none⟩ ∧ gs ≠ gw ∧ w.heap[gs]? = some (.cells cs 5 (0, 0)) ∧ cs.toList.take l.length = u8w l
theorem src_cells {w : World} {gw : Nat} {A : Option Addr} {l : List Int} (h : SrcAt w gw A l) (h0 : 0 < l.length) : ∃ ad, A = some ad ∧ ∀ j v, (u8w l)[j]? = some v → w.cell? (ad.add j) = some v := by
  rcases h with rfl | ⟨gs, cs, rfl, _, hh, ht⟩
  · simp at h0
  · refine ⟨_, rfl, fun j v hj => ?_⟩
    have hjl : j < l.length := by have := (List.getElem?_eq_some_iff.1 hj).1; simpa [u8w] using this
    rw [add_plain, cell_of_row w gs _ cs _ (0, 0) hh, ← Array.getElem?_toList, ← hj, ← ht, List.getElem?_take, if_pos hjl]
theorem src_grown {w w' : World} {gw : Nat} {A : Option Addr} {l : List Int} (h : SrcAt w gw A l) (hg : ∀ i, i < w.heap.size → i ≠ gw → w'.heap[i]? = w.heap[i]?) : SrcAt w' gw A l := by
  rcases h with rfl | ⟨gs, cs, rfl, hne, hh, ht⟩
  · exact .inl rfl
  · exact .inr ⟨gs, cs, rfl, hne, by rw [hg gs (Array.getElem?_eq_some_iff.1 hh).1 hne]; exact hh, ht⟩
/-- Blocks of other things than bytes are kept, but for the writer's. -/
def KeepT (w w' : World) (gw : Nat) : Prop := ∀ (i : Nat) (cs : Array Value) (t : TypeId) (fr : Nat × Nat), w.heap[i]? = some (.cells cs t fr) → t ≠ 5 → i ≠ gw → w'.heap[i]? = some (.cells cs t fr)
theorem step_facts {w : World} {base gw g cap n m : Nat} {er : Value} {ex : Bool} {buf l : List Int} {A : Option Addr} {cur : Array Value}
    (hw : w.heap[gw]? = some (.cells #[.slice (some ⟨g, 0, none⟩) n cap, er, .bool ex] 113 (0, 0))) (hbg : base ≤ g) (hgw : g ≠ gw) (hbw : base ≤ gw)
    (hg : w.heap[g]? = some (.cells cur 5 (0, 0))) (hsz : cur.size = cap) (htk : cur.toList.take n = u8w buf) (hnn : n = buf.length) (hmm : m = l.length) (hfit : n + m ≤ cap) (hS : SrcAt w gw A l) :
    (w.setCell ⟨gw, 0, none⟩ (.slice (some ⟨g, 0, none⟩) (n + m) cap)).heap[g]? = some (.cells cur 5 (0, 0)) ∧
    (0 < l.length → ∃ ad, A = some ad ∧ ∀ j v, (u8w l)[j]? = some v → (w.setCell ⟨gw, 0, none⟩ (.slice (some ⟨g, 0, none⟩) (n + m) cap)).cell? (ad.add j) = some v) ∧
    ∀ (w' : World) (cur' : Array Value), w'.heap[g]? = some (.cells cur' 5 (0, 0)) → cur'.size = cur.size → cur'.toList = cur.toList.take n ++ (u8w l ++ cur.toList.drop (n + (u8w l).length)) →
      (w.setCell ⟨gw, 0, none⟩ (.slice (some ⟨g, 0, none⟩) (n + m) cap)).grownBy w' (some g) → WrAt w' base gw ex (buf ++ l) cap ∧ Below base w w' ∧ KeepT w w' gw := by
  have hcl : (u8w l).length = m := by simp [u8w, hmm]
  have hgx : w.grownBy (w.setCell ⟨gw, 0, none⟩ (.slice (some ⟨g, 0, none⟩) (n + m) cap)) (some gw) := grown_set w gw 0 _
  have hwx : (w.setCell ⟨gw, 0, none⟩ (.slice (some ⟨g, 0, none⟩) (n + m) cap)).heap[gw]? = some (.cells #[.slice (some ⟨g, 0, none⟩) (n + m) cap, er, .bool ex] 113 (0, 0)) := heap_setCell_same w gw 0 _ _ _ hw
  have hg2 : (w.setCell ⟨gw, 0, none⟩ (.slice (some ⟨g, 0, none⟩) (n + m) cap)).heap[g]? = some (.cells cur 5 (0, 0)) := by
    rw [hgx.block g (Array.getElem?_eq_some_iff.1 hg).1 (by intro e; cases e; exact hgw rfl)]
    exact hg
  have hs2 : SrcAt (w.setCell ⟨gw, 0, none⟩ (.slice (some ⟨g, 0, none⟩) (n + m) cap)) gw A l := src_grown hS (fun i hi hne => hgx.block i hi (by intro e; cases e; exact hne rfl))
  have hbx : Below base w (w.setCell ⟨gw, 0, none⟩ (.slice (some ⟨g, 0, none⟩) (n + m) cap)) := pw_below_grown (Below.refl base w) (some gw) (Nat.le_trans hbw (Nat.le_of_lt (Array.getElem?_eq_some_iff.1 hw).1)) hgx (fun q hq => by obtain rfl := Option.some.inj hq; exact hbw)
  refine ⟨hg2, src_cells hs2, ?_⟩
  intro w' cur' h3 h4 h5 h6
  have hlen : (buf ++ l).length = n + m := by rw [List.length_append, hnn, hmm]
  refine ⟨⟨g, cur', er, ?_, hbg, hgw, hbw, h3, by omega, by omega, ?_⟩, pw_below_grown hbx (some g) (Nat.le_trans hbw (Nat.le_of_lt (Array.getElem?_eq_some_iff.1 hwx).1)) h6 (fun q hq => by obtain rfl := Option.some.inj hq; exact hbg), ?_⟩
  · rw [h6.block gw (Array.getElem?_eq_some_iff.1 hwx).1 (by intro e; cases e; exact hgw rfl), hwx, hlen]
  · rw [hlen, h5, htk, ← List.append_assoc]
    rw [List.take_left' (by rw [List.length_append, hcl]; simp [u8w, hnn])]
    simp [u8w]
  · intro i cs t fr hi ht hne
    have hilt := (Array.getElem?_eq_some_iff.1 hi).1
    rw [h6.block i (by have := hgx.size; omega) (by intro e; cases e; rw [hg] at hi; injection hi with hi; injection hi with _ hi; exact ht hi.symm), hgx.block i hilt (by intro e; cases e; exact hne rfl)]
    exact hi
set_option maxRecDepth 20000 in
set_option maxHeartbeats 1000000 in
theorem write_fits (gw base cap : Nat) (ex : Bool) (buf : List Int) (A : Option Addr) (c : Nat) (l : List Int) (w : World) (hW : WrAt w base gw ex buf cap) (hS : SrcAt w gw A l) (hfit : buf.length + l.length ≤ cap) (hcap : cap < 35184372088832) :
    Calls Tryd.prog 42 #[.pointer (some ⟨gw, 0, none⟩), .slice A l.length c] w fun e w' =>
      e = .returned (.tuple #[.int .i64 (l.length : Int), .nilIface]) ∧ WrAt w' base gw ex (buf ++ l) cap ∧ Below base w w' ∧ KeepT w w' gw := by
  obtain ⟨g, cur, er, hw, hbg, hgw, hbw, hg, hn, hsz, htk⟩ := hW
  have hcell : w.cell? ⟨gw, 0, none⟩ = some (.slice (some ⟨g, 0, none⟩) buf.length cap) := by unfold World.cell?; rw [hw]; rfl
  have hfr : w.frozen? ⟨gw, 0, none⟩ = false := blk_frozen hw _
  obtain ⟨n, hnn⟩ : ∃ n, n = buf.length := ⟨_, rfl⟩
  obtain ⟨m, hmm⟩ : ∃ m, m = l.length := ⟨_, rfl⟩
  rw [← hnn] at hcell hn htk hw hfit
  rw [← hmm] at hfit ⊢
  have hle : ¬ ((n : Int) + (m : Int) > (cap : Int)) := by omega
  have hsum : (n : Int) + (m : Int) ≤ (cap : Int) := by omega
  obtain ⟨i0, hi0, _, hs1, _⟩ := info_parts infoW
  have hcut1 := cut_to (P := Tryd.prog) 22 5 .i64 Tryd.underlying22 hi0 (some ⟨g, 0, none⟩) n cap ((n : Int) + (m : Int)) (by omega)
  have hcl : (u8w l).length = m := by simp [u8w, hmm]
  obtain ⟨hg2, hsrc, fin⟩ := step_facts hw hbg hgw hbw hg hsz htk hnn hmm hfit hS
  have HG2 := Aside0.mk hg2
  have HN := Aside0.mk (show (u8w l).length = Nat.min m m by rw [hcl]; exact (Nat.min_self m).symm)
  have HFIT := Aside0.mk (show n + (u8w l).length ≤ cur.size by rw [hcl, hsz]; exact hfit)
  have H1 := Aside0.mk (show ∀ v ∈ u8w l, v.oneCell' = true from fun v hv => by obtain ⟨x, _, rfl⟩ := List.mem_map.1 hv; rfl)
  have HCL := Aside0.mk hcl
  have hnn0 : (n : Int) ≤ (n : Int) + (m : Int) := by omega
  by_cases hcn : cap = n
  · have hm0 : (u8w l).length = 0 := by omega
    have HPOS := Aside0.mk (show 0 < (u8w l).length → (some ⟨g, 0, none⟩ : Option Addr) = some ⟨g, n, none⟩ ∧ ∃ ad, A = some ad ∧ ∀ j v, (u8w l)[j]? = some v → (w.setCell ⟨gw, 0, none⟩ (.slice (some ⟨g, 0, none⟩) (n + m) cap)).cell? (ad.add j) = some v from fun h => absurd h (by omega))
    have HN0 := Aside0.mk (show (u8w l).length = Nat.min m 0 by rw [hm0]; exact (Nat.min_zero m).symm)
    clear hS hw hg htk hnn hmm hcl hsz hi0 hs1 hcut1 hm0 hsrc hg2
    subst hcn
    go_enter Tryd.func42, Tryd.ntmps42
    go_wp2_with (with_reducible refine copy_wp rfl (.tmp 71) (.tmp 72) 22 5 rfl Tryd.underlying22 sizeW (dp := some ⟨g, 0, none⟩) (sp := A) (dLen := 0) (dCap := 0) (sLen := m) (sCap := c) rfl rfl g cap cur HG2.out (u8w l) HN0.out HPOS.out HFIT.out H1.out ?_)
    intro w' cur' h3 h4 h5 h6
    have HE := Aside0.mk (fin w' cur' h3 h4 h5 h6)
    clear h3 h4 h5 h6
    rw [HCL.out]
    go_wp2
    go_ret2
    exact ⟨rfl, HE.out⟩
  · have HPOS := Aside0.mk (show 0 < (u8w l).length → (some ⟨g, n, none⟩ : Option Addr) = some ⟨g, n, none⟩ ∧ ∃ ad, A = some ad ∧ ∀ j v, (u8w l)[j]? = some v → (w.setCell ⟨gw, 0, none⟩ (.slice (some ⟨g, 0, none⟩) (n + m) cap)).cell? (ad.add j) = some v from fun h => ⟨rfl, hsrc (by omega)⟩)
    clear hS hw hg htk hnn hmm hcl hsz hi0 hs1 hcut1 hsrc hg2
    go_enter Tryd.func42, Tryd.ntmps42
    go_wp2_with (with_reducible refine copy_wp rfl (.tmp 71) (.tmp 72) 22 5 rfl Tryd.underlying22 sizeW (dp := some ⟨g, n, none⟩) (sp := A) (dLen := m) (dCap := cap - n) (sLen := m) (sCap := c) rfl rfl g n cur HG2.out (u8w l) HN.out HPOS.out HFIT.out H1.out ?_)
    intro w' cur' h3 h4 h5 h6
    have HE := Aside0.mk (fin w' cur' h3 h4 h5 h6)
    clear h3 h4 h5 h6
    rw [HCL.out]
    go_wp2
    go_ret2
    exact ⟨rfl, HE.out⟩
set_option maxRecDepth 20000 in
set_option maxHeartbeats 1000000 in
theorem write_grow (gw base cap : Nat) (buf : List Int) (A : Option Addr) (c : Nat) (l : List Int) (w : World) (hW : WrAt w base gw true buf cap) (hS : SrcAt w gw A l) (hfit : cap < buf.length + l.length) (hcap : cap < 35184372088832) (hlm : l.length < 35184372088832) :
    Calls Tryd.prog 42 #[.pointer (some ⟨gw, 0, none⟩), .slice A l.length c] w fun e w' =>
      e = .returned (.tuple #[.int .i64 (l.length : Int), .nilIface]) ∧ WrAt w' base gw true (buf ++ l) (2 * cap + l.length) ∧ Below base w w' ∧ KeepT w w' gw := by
  obtain ⟨g, cur, er, hw, hbg, hgw, hbw, hg, hn, hsz, htk⟩ := hW
  have hcell : w.cell? ⟨gw, 0, none⟩ = some (.slice (some ⟨g, 0, none⟩) buf.length cap) := by unfold World.cell?; rw [hw]; rfl
  have hcell2 : w.cell? ⟨gw, 2, none⟩ = some (.bool true) := by unfold World.cell?; rw [hw]; rfl
  obtain ⟨n, hnn⟩ : ∃ n, n = buf.length := ⟨_, rfl⟩
  obtain ⟨m, hmm⟩ : ∃ m, m = l.length := ⟨_, rfl⟩
  rw [← hnn] at hcell hn htk hw hfit
  rw [← hmm] at hfit hlm ⊢
  have hgt : ((n : Int) + (m : Int) > (cap : Int)) := by omega
  obtain ⟨i0, hi0, hz0, hs1, hb1⟩ := info_parts infoW
  have hmk : ∀ W : World, (Instr.makeSlice 22 (.int .i64 (n : Int)) (.int .i64 (2 * (cap : Int) + (m : Int)))).run Tryd.prog W = .ok (.slice (some ⟨W.heap.size, 0, none⟩) n (2 * cap + m)) (W.alloc (.cells (madeCells #[.int .u8 0] (2 * cap + m)) 5)) := by
    intro W
    have := run_make (P := Tryd.prog) (w := W) 22 5 i0 (.int .u8 0) Tryd.underlying22 hi0 hz0 .i64 .i64 (n : Int) (2 * (cap : Int) + (m : Int)) (by omega) (by omega) (by rw [hb1]; omega) (by omega)
    rw [this, hs1, Int.toNat_natCast, show (2 * (cap : Int) + (m : Int)).toNat = 2 * cap + m by omega, Nat.mul_one]
    rfl
  obtain ⟨gn, hgn⟩ : ∃ gn, gn = w.heap.size := ⟨_, rfl⟩
  obtain ⟨cap2, hc2⟩ : ∃ cap2, cap2 = 2 * cap + m := ⟨_, rfl⟩
  obtain ⟨w1, hw1⟩ : ∃ w1, w1 = w.alloc (.cells (madeCells #[.int .u8 0] cap2) 5) := ⟨_, rfl⟩
  rw [← hc2] at hmk ⊢
  have hlg := (Array.getElem?_eq_some_iff.1 hg).1
  have hlw := (Array.getElem?_eq_some_iff.1 hw).1
  have hold : ∀ i, i < w.heap.size → w1.heap[i]? = w.heap[i]? := fun i hi => by rw [hw1]; exact (below_alloc (Below.refl w.heap.size w) _).block i hi
  have hsz1 : w1.heap.size = w.heap.size + 1 := by rw [hw1]; simp
  have hgn1 : w1.heap[gn]? = some (.cells (madeCells #[.int .u8 0] cap2) 5 (0, 0)) := by rw [hw1, hgn]; exact heap_alloc_new w _
  have hB1 : Below base w w1 := by rw [hw1]; exact (Below.refl base w).alloc (by omega) _
  have hbl : (u8w buf).length = n := by simp [u8w, hnn]
  have h1b : ∀ v ∈ u8w buf, v.oneCell' = true := fun v hv => by obtain ⟨x, _, rfl⟩ := List.mem_map.1 hv; rfl
  have hpos1 : 0 < (u8w buf).length → (some ⟨gn, 0, none⟩ : Option Addr) = some ⟨gn, 0, none⟩ ∧ ∃ ad, (some ⟨g, 0, none⟩ : Option Addr) = some ad ∧ ∀ j v, (u8w buf)[j]? = some v → w1.cell? (ad.add j) = some v := by
    intro _
    refine ⟨rfl, _, rfl, fun j v hj => ?_⟩
    have hjl : j < n := by rw [← hbl]; exact (List.getElem?_eq_some_iff.1 hj).1
    rw [add_plain, cell_of_row w1 g _ cur _ (0, 0) (by rw [hold g hlg]; exact hg), ← Array.getElem?_toList, ← hj, ← htk, List.getElem?_take, if_pos hjl]
  have hcw1 : w1.cell? ⟨gw, 0, none⟩ = some (.slice (some ⟨g, 0, none⟩) n cap) := by unfold World.cell?; rw [hold gw hlw, hw]; rfl
  have hw1w : w1.heap[gw]? = some (.cells #[.slice (some ⟨g, 0, none⟩) n cap, er, .bool true] 113 (0, 0)) := by rw [hold gw hlw]; exact hw
  have hgnw : gn ≠ gw := by omega
  -- behind the first copy
  have mid : ∀ (w2 : World) (cur2 : Array Value), w2.heap[gn]? = some (.cells cur2 5 (0, 0)) → cur2.size = (madeCells #[.int .u8 0] cap2).size → cur2.toList = u8w buf ++ (madeCells #[.int .u8 0] cap2).toList.drop (u8w buf).length → w1.grownBy w2 (some gn) →
      w2.cell? ⟨gw, 0, none⟩ = some (.slice (some ⟨g, 0, none⟩) n cap) ∧ w2.frozen? ⟨gw, 0, none⟩ = false ∧
      ((w2.setCell ⟨gw, 0, none⟩ (.slice (some ⟨gn, 0, none⟩) n cap2)).cell? ⟨gw, 0, none⟩ = some (.slice (some ⟨gn, 0, none⟩) n cap2) ∧ (w2.setCell ⟨gw, 0, none⟩ (.slice (some ⟨gn, 0, none⟩) n cap2)).frozen? ⟨gw, 0, none⟩ = false) ∧
      (((w2.setCell ⟨gw, 0, none⟩ (.slice (some ⟨gn, 0, none⟩) n cap2)).setCell ⟨gw, 0, none⟩ (.slice (some ⟨gn, 0, none⟩) (n + m) cap2)).heap[gn]? = some (.cells cur2 5 (0, 0)) ∧
      (0 < l.length → ∃ ad, A = some ad ∧ ∀ j v, (u8w l)[j]? = some v → ((w2.setCell ⟨gw, 0, none⟩ (.slice (some ⟨gn, 0, none⟩) n cap2)).setCell ⟨gw, 0, none⟩ (.slice (some ⟨gn, 0, none⟩) (n + m) cap2)).cell? (ad.add j) = some v) ∧
      cur2.size = cap2 ∧
      ∀ (w' : World) (cur' : Array Value), w'.heap[gn]? = some (.cells cur' 5 (0, 0)) → cur'.size = cur2.size → cur'.toList = cur2.toList.take n ++ (u8w l ++ cur2.toList.drop (n + (u8w l).length)) →
        ((w2.setCell ⟨gw, 0, none⟩ (.slice (some ⟨gn, 0, none⟩) n cap2)).setCell ⟨gw, 0, none⟩ (.slice (some ⟨gn, 0, none⟩) (n + m) cap2)).grownBy w' (some gn) → WrAt w' base gw true (buf ++ l) cap2 ∧ Below base w w' ∧ KeepT w w' gw) := by
    intro w2 cur2 k3 k4 k5 k6
    have hw2 : w2.heap[gw]? = some (.cells #[.slice (some ⟨g, 0, none⟩) n cap, er, .bool true] 113 (0, 0)) := by rw [k6.block gw (by omega) (by intro e; cases e; exact hgnw rfl)]; exact hw1w
    have hw3 : (w2.setCell ⟨gw, 0, none⟩ (.slice (some ⟨gn, 0, none⟩) n cap2)).heap[gw]? = some (.cells #[.slice (some ⟨gn, 0, none⟩) n cap2, er, .bool true] 113 (0, 0)) := heap_setCell_same w2 gw 0 _ _ _ hw2
    have hgs := grown_set w2 gw 0 (.slice (some ⟨gn, 0, none⟩) n cap2)
    have hg3 : (w2.setCell ⟨gw, 0, none⟩ (.slice (some ⟨gn, 0, none⟩) n cap2)).heap[gn]? = some (.cells cur2 5 (0, 0)) := by
      rw [hgs.block gn (Array.getElem?_eq_some_iff.1 k3).1 (by intro e; cases e; exact hgnw rfl)]; exact k3
    have hcs : cur2.size = cap2 := by rw [k4, size_madeCells] <;> simp
    have htk3 : cur2.toList.take n = u8w buf := by rw [k5, List.take_left' hbl]
    have hS3 : SrcAt (w2.setCell ⟨gw, 0, none⟩ (.slice (some ⟨gn, 0, none⟩) n cap2)) gw A l := src_grown hS (fun i hi hne => by
      rw [hgs.block i (by have := k6.size; omega) (by intro e; cases e; exact hne rfl), k6.block i (by omega) (by intro e; cases e; omega), hold i hi])
    have hB2 : Below base w w2 := pw_below_grown hB1 (some gn) (by omega) k6 (fun q hq => by obtain rfl := Option.some.inj hq; omega)
    have hB3 : Below base w (w2.setCell ⟨gw, 0, none⟩ (.slice (some ⟨gn, 0, none⟩) n cap2)) := pw_below_grown hB2 (some gw) (by have := hB2.size; omega) hgs (fun q hq => by obtain rfl := Option.some.inj hq; exact hbw)
    obtain ⟨f1, f2, f3⟩ := step_facts hw3 (by omega) hgnw hbw hg3 hcs htk3 hnn hmm (by omega) hS3
    refine ⟨by unfold World.cell?; rw [hw2]; rfl, blk_frozen hw2 _, ⟨by unfold World.cell?; rw [hw3]; rfl, blk_frozen hw3 _⟩, f1, f2, hcs, fun w' cur' h3 h4 h5 h6 => ?_⟩
    obtain ⟨r1, r2, r3⟩ := f3 w' cur' h3 h4 h5 h6
    refine ⟨r1, hB3.trans r2, fun i cs t fr hi ht hne => r3 i cs t fr ?_ ht hne⟩
    have hilt := (Array.getElem?_eq_some_iff.1 hi).1
    rw [hgs.block i (by have := k6.size; omega) (by intro e; cases e; exact hne rfl), k6.block i (by omega) (by intro e; cases e; omega), hold i hilt]
    exact hi
  have HM := Aside0.mk mid
  have HG1 := Aside0.mk hgn1
  have HN1 := Aside0.mk (show (u8w buf).length = Nat.min n n by rw [hbl]; exact (Nat.min_self n).symm)
  have HP1 := Aside0.mk hpos1
  have HF1 := Aside0.mk (show 0 + (u8w buf).length ≤ (madeCells #[.int .u8 0] cap2).size by rw [hbl, size_madeCells]; simp <;> omega)
  have HO1 := Aside0.mk h1b
  have HN := Aside0.mk (show (u8w l).length = Nat.min m m by simp [u8w, ← hmm] <;> exact (Nat.min_self m).symm)
  have HO2 := Aside0.mk (show ∀ v ∈ u8w l, v.oneCell' = true from fun v hv => by obtain ⟨x, _, rfl⟩ := List.mem_map.1 hv; rfl)
  have HCL := Aside0.mk (show (u8w l).length = m by simp [u8w, hmm])
  have HC2 := Aside0.mk hc2
  have HFF := Aside0.mk hfit
  have HLEN := Aside0.mk hmm
  have hfit2 : n + m ≤ cap2 := by omega
  have HFIT2 := Aside0.mk hfit2
  have hne : ¬ (cap2 = n) := by omega
  have hnm2 : (n : Int) + (m : Int) ≤ (cap2 : Int) := by omega
  have hn2 : n ≤ cap2 := by omega
  clear mid hgn1 hpos1 h1b hbl hw1w hgnw hB1 hold hsz1 hlg hlw hS hw hg htk hnn hsz hfit hc2 hi0 hz0 hs1 hb1 hmm
  subst hw1
  subst hgn
  go_enter Tryd.func42, Tryd.ntmps42
  go_wp2_with (first
    | (with_reducible refine copy_wp rfl (.tmp 45) (.tmp 49) 22 5 rfl Tryd.underlying22 sizeW (dp := some ⟨w.heap.size, 0, none⟩) (sp := some ⟨g, 0, none⟩) (dLen := n) (dCap := cap2) (sLen := n) (sCap := cap) rfl rfl w.heap.size 0 (madeCells #[.int .u8 0] cap2) HG1.out (u8w buf) HN1.out HP1.out HF1.out HO1.out ?_; intro w2 cur2 k3 k4 k5 k6; obtain ⟨m1, m2, ⟨m3, m4⟩, m5, m6, m7, m8⟩ := HM.out w2 cur2 k3 k4 (by simpa using k5) k6; have HX5 := Aside0.mk m5; have HX6 := Aside0.mk m6; have HX7 := Aside0.mk m7; have HX8 := Aside0.mk m8; have HX9 := Aside0.mk (show 0 < (u8w l).length → _ from fun h => m6 (by rw [← HLEN.out, ← HCL.out]; exact h)); have HX10 := Aside0.mk (show n + (u8w l).length ≤ cur2.size by rw [HCL.out, m7]; exact HFIT2.out); clear k3 k4 k5 k6 m5 m6 m7 m8)
    | (with_reducible refine copy_wp rfl (.tmp 71) (.tmp 72) 22 5 rfl Tryd.underlying22 sizeW (dp := some ⟨w.heap.size, n, none⟩) (sp := A) (dLen := m) (dCap := cap2 - n) (sLen := m) (sCap := c) rfl rfl w.heap.size n cur2 HX5.out (u8w l) HN.out (fun h => ⟨rfl, HX9.out h⟩) HX10.out HO2.out ?_; intro w' cur' h3 h4 h5 h6; have HE := Aside0.mk (HX8.out w' cur' h3 h4 (by rw [← List.append_assoc]; exact h5) h6); clear h3 h4 h5 h6; rw [HCL.out]))
  go_ret2
  exact ⟨rfl, HE.out⟩
end Go.Proofs.YtbjjjbfjplfmeaaDoor.Own
