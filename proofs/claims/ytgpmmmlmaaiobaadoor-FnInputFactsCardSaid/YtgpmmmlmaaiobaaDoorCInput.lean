/- The contracts of a reader of selections over bytes (NewInputBytes, Move, Shift ..), and of RunInput for steps that go on and tell. -/
import Derived.Test.YtgpmmmlmaaiobaaDoorCown
import Derived.Test.YtgpmmmlmaaiobaaDoorOwn
import Derived.Test.YtgpmmmlmaaiobaaDoorCTypes
import Derived.Lib.HexFns
import Derived.Outline
import Derived.Laws.EntriesVeiled
namespace Go.Proofs.YtgpmmmlmaaiobaaDoor.Own
open Go.RowKit Go.Proofs.YtgpmmmlmaaiobaaDoorW.PrintWords Go.Proofs.YtgpmmmlmaaiobaaDoorW.PrintLast
set_option linter.unusedVariables false
set_option linter.unusedSimpArgs false
def u8i (l : List Int) : List Value := l.map (Value.int .u8)
/-- A reader of selections: its bytes, a 0 behind them, where it is, and where its selection begins. -/
def InAt (w : World) (base gz : Nat) (dat : List Int) (pos start : Int) : Prop :=
  ∃ (g cap : Nat) (rst : Value) (cur : Array Value) (fr : Nat × Nat), w.heap[gz]? = some (.cells #[.slice (some ⟨g, 0, none⟩) (dat.length + 1) cap, .int .i64 pos, .int .i64 start, .nilIface, rst] 83 (0, 0)) ∧ base ≤ gz ∧ base ≤ g ∧ g ≠ gz ∧
    w.heap[g]? = some (.cells cur 5 fr) ∧ dat.length + 1 ≤ cap ∧ cap ≤ maxLen ∧ cur.size = cap ∧ cur.toList.take (dat.length + 1) = u8i (dat ++ [0])
theorem row_cellsI {e : Nat} {w : World} {base g n c : Nat} {xs : List Int} (h : Kd.R (Kd.int .u8) e w base (fun _ => True) (.slice (some ⟨g, 0, none⟩) n c) xs) :
    ∃ cur, base ≤ g ∧ w.heap[g]? = some (.cells cur e (0, 0)) ∧ n = xs.length ∧ n ≤ c ∧ c ≤ maxLen ∧ cur.size = c ∧ cur.toList.take n = u8i xs := by
  have hn := (Kd.R_reads' h).1
  rcases (Kd.own_of_R h).2 with ⟨e, _⟩ | ⟨g', cap', cur, e, hb, hg, h1, h2, h3, h4⟩
  · cases e
  · cases e
    rw [← hn] at *
    exact ⟨cur, hb, hg, rfl, h1, h2, by simpa using h3, by simpa [encs, u8i] using h4⟩
section
variable {P : Program} {ops : Array Oper} {rest : List Oper} {o : Oper} {a : Act} {Q : Exit → Act → World → Prop}
theorem append_event {W w1 : World} (hgd : o.guard = none) (s x : Operand) (t : TypeId) (ho : o.op = .call { callee := .builtin .append, args := #[s, x], argTypes := #[t, t] }) {vs vx v : Value} (hs : a.eval s = vs) (hx : a.eval x = vx)
    (hr : (Builtin.append_ #[t, t] o.type #[vs, vx]).run P W = .ok v w1) (h : wpList P ops Q rest (a.put o.dst v) w1) : wpList P ops Q (o :: rest) a W := by
  have hrun : (execOp a.eval o).run P W = .ok (.value v) w1 := by
    unfold execOp
    simp only [ho, resolve, invoke, builtin, Sem.run_bind, Sem.run_pure, Result.andThen_ok, List.map_toArray, List.map_cons, List.map_nil, hs, hx, hr]
  exact Kd.event_run hgd hrun h
end
theorem infoIn : (Tryd.prog.info? 5).map (fun i => (i.zero, i.size, i.bytes)) = some (some (.int .u8 0), 1, 1) := by kernel_rfl
theorem zero_cells (k : Nat) : Builtin.zeroCells (Value.int .u8 0).cells k = (u8i (List.replicate k 0)).toArray := by
  apply Array.ext'
  simp only [Builtin.zeroCells, Value.cells, u8i, List.map_replicate, List.toList_toArray]
  rw [List.eq_replicate_iff]
  refine ⟨by simp, fun b hb => ?_⟩
  simp at hb
  first | exact hb.2.symm | exact hb.2 | (obtain ⟨a, _, rfl⟩ := hb; simp [Nat.mod_one])
theorem al_lt {W : World} {o : Obj} {i : Nat} (h : i < W.heap.size) : (W.alloc o).heap[i]? = W.heap[i]? := (below_alloc (Below.refl W.heap.size W) o).block i h
theorem al_eq {W : World} {o : Obj} {i : Nat} (h : i = W.heap.size) : (W.alloc o).heap[i]? = some o := by subst h; exact heap_alloc_new W o
theorem sc_ne {W : World} {g j k : Nat} {v : Value} (h : k ≠ g) : (W.setCell ⟨g, j, none⟩ v).heap[k]? = W.heap[k]? := Below.heap_setCell W ⟨g, j, none⟩ v k h
theorem sc_size {W : World} {p : Addr} {v : Value} : (W.setCell p v).heap.size = W.heap.size := by simp
theorem sc_mark {w : World} {g i : Nat} {cs : Array Value} {t : TypeId} {fr : Nat × Nat} {v : Value} (hb : w.heap[g]? = some (.cells cs t fr)) : (w.setCell ⟨g, i, none⟩ v).heap[g]? = some (.cells (cs.setIfInBounds i v) t fr) := by
  simp [World.setCell, Array.getElem?_modify, hb]
theorem below_set {base : Nat} {w W : World} (h : Below base w W) (hs : base ≤ W.heap.size) {g j : Nat} {v : Value} (hg : base ≤ g) : Below base w (W.setCell ⟨g, j, none⟩ v) :=
  h.grown (Go.Lib.Hx.grownBy_set (Go.Lib.Hx.grownBy_refl W (some g)) _ rfl _) hs (fun k hk => by obtain rfl := Option.some.inj hk; exact hg)
/-- A copy of bytes: what lies in its room is bytes, too. -/
def OwnAt (w : World) (base g cap : Nat) (l : List Int) : Prop := ∃ (sp : List Int) (fr : Nat × Nat), base ≤ g ∧ w.heap[g]? = some (.cells (u8i (l ++ sp)).toArray 5 fr) ∧ (l ++ sp).length = cap ∧ cap ≤ maxLen ∧ ∀ j, j < cap → w.frozen? ⟨g, j, none⟩ = false
set_option maxRecDepth 20000 in
theorem own_cells (A0 : Option Addr) (c0 : Nat) (l : List Int) (w : World) (hr0 : Kd.C (Kd.int .u8) w A0 l.length l) (hc0 : l.length ≤ c0) (hpos : 0 < l.length) (hl : l.length < 35184372088832) :
    Calls Tryd.prog 21 #[.slice A0 l.length c0] w fun e w' => ∃ g cap, e = .returned (.slice (some ⟨g, 0, none⟩) l.length cap) ∧ OwnAt w' w.heap.size g cap l ∧ Below w.heap.size w w' := by
  obtain ⟨ad, rfl, hcell⟩ := hr0.2.2 hpos
  have hat : ∀ j v, (u8i l)[j]? = some v → w.cell? (ad.add j) = some v := by
    intro j v hj
    have hjl : j < l.length := by have := (List.getElem?_eq_some_iff.1 hj).1; simpa [u8i] using this
    obtain ⟨cs, _, hcs, h4⟩ := hcell j l[j] (List.getElem?_eq_getElem hjl)
    have := h4 0 (.int .u8 l[j]) (by rw [hcs]; rfl)
    have hv : v = .int .u8 l[j] := by simpa [u8i, hjl] using hj.symm
    rw [hv]
    simpa [Kd.int, Kd.scalar] using this
  obtain ⟨i0, hi0, hz0, hs1, hb1⟩ := info_parts infoIn
  have happ := run_append_grow (P := Tryd.prog) (w.alloc (.cells #[] 5)) 22 22 5 i0 (.int .u8 0) Tryd.underlying22 hi0 hz0 ⟨w.heap.size, 0, none⟩ 0 0 [] (by simp) (fun j v hj => by simp at hj) ad l.length c0 (u8i l) (by rw [hs1]; simp [u8i])
    (fun j v hj => pw_cell_below (below_alloc (Below.refl w.heap.size w) _) (hat j v hj)) (by omega) (by omega) (by
      rw [hb1]
      rw [nextslicecap_zero (by omega)]
      omega)
  rw [zero_cells] at happ
  have HC := Aside0.mk hc0
  clear hr0 hcell hat hi0 hz0 hs1 hb1 hc0
  go_enter Tryd.func21, Tryd.ntmps21
  have HAPP := Aside0.mk happ
  clear happ
  go_wp2_with (at_builtin; refine append_event rfl (.tmp 3) (.tmp 4) 22 rfl rfl rfl HAPP.out ?_)
  go_ret
  obtain ⟨cap, hcap⟩ : ∃ cap, cap = grownCap (w.alloc (.cells #[] 5)) l.length 0 5 := ⟨_, rfl⟩
  have hge : l.length ≤ cap := by rw [hcap]; exact grownCap_ge _ _ _ _
  have hle : cap ≤ maxLen := by rw [hcap]; exact grownCap_le_maxLen _ _ _ _ (by have : maxLen = 9223372036854775807 := rfl; omega)
  rw [← hcap]
  have hh := al_eq (W := w.alloc (.cells #[] 5)) (o := .cells (u8i (l ++ List.replicate (cap - l.length) 0)).toArray 5) (i := w.heap.size + 1) (by simp)
  have e : u8i (l ++ List.replicate (cap - l.length) 0) = u8i l ++ u8i (List.replicate (cap - l.length) 0) := by simp [u8i]
  rw [e] at hh
  refine ⟨w.heap.size + 1, cap, rfl, ⟨List.replicate (cap - l.length) 0, (0, 0), by omega, ?_, by simp; omega, hle, fun j _ => blk_frozen (show _ = _ from hh) j⟩, (((Below.refl w.heap.size w).alloc (Nat.le_refl _) _).alloc (by simp) _).drew⟩
  rw [e]
  exact hh
set_option maxHeartbeats 1000000 in
theorem newinput_room (g cap n base : Nat) (l : List Int) (w : World) (hO : OwnAt w base g cap l) (hn : n = l.length) (hbase : base ≤ w.heap.size) (hl : n < 35184372088832) (h0 : 0 < n) (hc : n < cap) :
    Calls Tryd.prog 23 #[.slice (some ⟨g, 0, none⟩) n cap] w fun e w' => ∃ gz, e = .returned (.pointer (some ⟨gz, 0, none⟩)) ∧ InAt w' base gz l 0 0 ∧ Below base w w' := by
  obtain ⟨sp, fr, hbg, hg, hcl, hcm, hfz⟩ := hO
  have hglt : g < w.heap.size := (Array.getElem?_eq_some_iff.1 hg).1
  rw [List.length_append, ← hn] at hcl
  cases sp with
  | nil => simp at hcl; omega
  | cons old sp =>
  have hcell : w.cell? ⟨g, n, none⟩ = some (.int .u8 old) := by
    simp only [World.cell?, hg]
    simp [u8i, hn]
  have hfr : w.frozen? ⟨g, n, none⟩ = false := hfz n hc
  clear hfz
  have al : ∀ (W : World) (o : Obj) (q : Addr), q.block < W.heap.size → (W.alloc o).cell? q = W.cell? q ∧ (W.alloc o).frozen? q = W.frozen? q := fun W o q hq => by
    have hb := al_lt (o := o) hq
    exact ⟨by simp only [World.cell?, hb], by simp only [World.frozen?, hb]⟩
  have h3 : ∀ o1 o2 o3 : Obj, (((w.alloc o1).alloc o2).alloc o3).cell? ⟨g, n, none⟩ = some (.int .u8 old) := fun o1 o2 o3 => by
    rw [(al _ o3 _ (by simp; omega)).1, (al _ o2 _ (by simp; omega)).1, (al _ o1 _ hglt).1, hcell]
  have h4 : ∀ o1 o2 o3 o4 : Obj, ((((w.alloc o1).alloc o2).alloc o3).alloc o4).cell? ⟨g, n, none⟩ = some (.int .u8 old) := fun o1 o2 o3 o4 => by
    rw [(al _ o4 _ (by simp; omega)).1, h3]
  have f4 : ∀ o1 o2 o3 o4 : Obj, ((((w.alloc o1).alloc o2).alloc o3).alloc o4).frozen? ⟨g, n, none⟩ = false := fun o1 o2 o3 o4 => by
    rw [(al _ o4 _ (by simp; omega)).2, (al _ o3 _ (by simp; omega)).2, (al _ o2 _ (by simp; omega)).2, (al _ o1 _ hglt).2, hfr]
  have b6 : ∀ (o1 o3 o4 : Obj) (a b c d e x y : Value) (t : TypeId), ((((((w.alloc o1).alloc (.cells #[a, b, c, d, e] t)).alloc o3).alloc o4).setCell ⟨g, n, none⟩ x).setCell ⟨w.heap.size + 1, 0, none⟩ y).heap[w.heap.size + 1]? = some (.cells #[y, b, c, d, e] t (0, 0)) := fun o1 o3 o4 a b c d e x y t => by
    have := heap_setCell_same (((((w.alloc o1).alloc (.cells #[a, b, c, d, e] t)).alloc o3).alloc o4).setCell ⟨g, n, none⟩ x) (w.heap.size + 1) 0 #[a, b, c, d, e] t y (by
      rw [sc_ne (by omega), al_lt (by simp), al_lt (by simp)]
      exact al_eq (by simp))
    rw [this]
    rfl
  have c6 : ∀ (o1 o3 o4 : Obj) (a b c d e x y : Value) (t : TypeId), ((((((w.alloc o1).alloc (.cells #[a, b, c, d, e] t)).alloc o3).alloc o4).setCell ⟨g, n, none⟩ x).setCell ⟨w.heap.size + 1, 0, none⟩ y).cell? ⟨w.heap.size + 1, 4, none⟩ = some e := fun o1 o3 o4 a b c d e x y t => by
    simp only [World.cell?, b6]; rfl
  have f6 : ∀ (o1 o3 o4 : Obj) (a b c d e x y : Value) (t : TypeId), ((((((w.alloc o1).alloc (.cells #[a, b, c, d, e] t)).alloc o3).alloc o4).setCell ⟨g, n, none⟩ x).setCell ⟨w.heap.size + 1, 0, none⟩ y).frozen? ⟨w.heap.size + 1, 4, none⟩ = false := fun o1 o3 o4 a b c d e x y t => blk_frozen (b6 o1 o3 o4 a b c d e x y t) _
  have B6 := Aside0.mk b6
  clear b6
  have hn0 : ¬ n = 0 := by omega
  have hnb : ((n : Int) == 0) = false := by simp [hn0]
  have hci : (cap : Int) > (n : Int) := by omega
  have hn1c : n + 1 ≤ cap := hc
  have HN := Aside0.mk hn
  have HG := Aside0.mk hg
  have HCL := Aside0.mk hcl
  clear hg hn hcl al
  go_enter Tryd.func23, Tryd.ntmps23
  go_wp2
  go_ret
  clear h3 h4 f4 c6 f6 hcell hfr
  refine ⟨w.heap.size + 1, rfl, ⟨g, cap, ?rst, (u8i (l ++ 0 :: sp)).toArray, fr, ?h1, by omega, hbg, by omega, ?h2, by have := HN.out; omega, hcm, ?h3, ?h4⟩, ?h5⟩
  case h1 =>
    refine (heap_setCell_same _ _ _ _ _ _ (B6.out _ _ _ _ _ _ _ _ _ _ _)).trans ?_
    rw [HN.out]
    rfl
  case h2 =>
    rw [sc_ne (by omega), sc_ne (by omega), sc_mark (g := g) (i := n) (cs := (u8i (l ++ old :: sp)).toArray) (t := 5) (fr := fr) (by rw [al_lt (by simp; omega), al_lt (by simp; omega), al_lt (by simp; omega), al_lt hglt]; exact HG.out), List.setIfInBounds_toArray]
    have : (u8i (l ++ old :: sp)).set n (.int .u8 0) = u8i (l ++ 0 :: sp) := by rw [HN.out]; simp [u8i]
    rw [this]
  case h3 => have := HCL.out; have := HN.out; simp [u8i] at *; omega
  case h4 =>
    rw [show u8i (l ++ 0 :: sp) = u8i (l ++ [0]) ++ u8i sp by simp [u8i], List.toList_toArray, List.take_left' (by simp [u8i])]
  case h5 =>
    have hb4 := ((((Below.refl base w).alloc hbase (.cells #[Value.slice (some ⟨g, 0, none⟩) (n + 1) cap] 22)).alloc (by simp; omega) (.cells #[.slice (some ⟨g, 0, none⟩) n cap, .int .i64 0, .int .i64 0, .nilIface, .nilFunc] 83)).alloc (by simp; omega) (.cells #[.int .i64 (n : Int)] 3)).alloc (by simp; omega) (.cells #[.int .u8 old] 5)
    exact below_set (below_set (below_set hb4 (by simp; omega) hbg) (by simp; omega) (by omega)) (by simp; omega) (by omega)
set_option maxRecDepth 20000 in
set_option maxHeartbeats 1000000 in
theorem newinput_full (g n base : Nat) (l : List Int) (w : World) (hO : OwnAt w base g n l) (hn : n = l.length) (hbase : base ≤ w.heap.size) (hl : n < 35184372088832) (h0 : 0 < n) :
    Calls Tryd.prog 23 #[.slice (some ⟨g, 0, none⟩) n n] w fun e w' => ∃ gz, e = .returned (.pointer (some ⟨gz, 0, none⟩)) ∧ InAt w' base gz l 0 0 ∧ Below base w w' := by
  obtain ⟨sp, fr, hbg, hg, hcl, hcm, _⟩ := hO
  have hglt : g < w.heap.size := (Array.getElem?_eq_some_iff.1 hg).1
  rw [List.length_append, ← hn] at hcl
  obtain rfl := List.eq_nil_of_length_eq_zero (show sp.length = 0 by omega)
  rw [List.append_nil] at hg
  obtain ⟨i0, hi0, hz0, hs1, hb1⟩ := info_parts infoIn
  have olds : ∀ (W : World) (j : Nat) (v : Value), Below w.heap.size w W → (u8i l)[j]? = some v → W.cell? ((⟨g, 0, none⟩ : Addr).add j) = some v := fun W j v hb hj => by
    rw [add_plain, cell_of_row W g _ _ _ fr (by rw [hb.block g hglt]; exact hg)]
    simpa using hj
  have happ : ∀ o1 o2 o3 : Obj, ∃ cap, n + 1 ≤ cap ∧ cap ≤ maxLen ∧ (Builtin.append_ #[22, 22] 22 #[.slice (some ⟨g, 0, none⟩) n n, .slice (some ⟨w.heap.size + 1 + 1 + 1, 0, none⟩) 1 1]).run Tryd.prog ((((w.alloc o1).alloc o2).alloc o3).alloc (.cells #[.int .u8 0] 5)) =
      .ok (.slice (some ⟨w.heap.size + 1 + 1 + 1 + 1, 0, none⟩) (n + 1) cap) (((((w.alloc o1).alloc o2).alloc o3).alloc (.cells #[.int .u8 0] 5)).drew.alloc (.cells (u8i (l ++ 0 :: List.replicate (cap - (n + 1)) 0)).toArray 5)) := fun o1 o2 o3 => by
    have hB : Below w.heap.size w ((((w.alloc o1).alloc o2).alloc o3).alloc (.cells #[.int .u8 0] 5)) := ((((Below.refl w.heap.size w).alloc (Nat.le_refl _) _).alloc (by simp) _).alloc (by simp; omega) _).alloc (by simp; omega) _
    have h := run_append_grow (P := Tryd.prog) ((((w.alloc o1).alloc o2).alloc o3).alloc (.cells #[.int .u8 0] 5)) 22 22 5 i0 (.int .u8 0) Tryd.underlying22 hi0 hz0 ⟨g, 0, none⟩ n n (u8i l) (by rw [hs1]; simp [u8i, hn]) (fun j v hj => olds _ j v hB hj)
      ⟨w.heap.size + 1 + 1 + 1, 0, none⟩ 1 1 [.int .u8 0] (by rw [hs1]; rfl) (fun j v hj => by
        have hj0 : j = 0 := by have := (List.getElem?_eq_some_iff.1 hj).1; simp at this; exact this
        subst hj0
        simp at hj
        subst hj
        rw [add_plain]
        have := al_eq (W := ((w.alloc o1).alloc o2).alloc o3) (o := .cells #[.int .u8 0] 5) (i := w.heap.size + 1 + 1 + 1) (by simp)
        simp only [World.cell?, this]
        rfl) (by omega) (by omega) (by rw [hb1]; have := nextslicecap_le (need := n + 1) (old := n) (by omega); omega)
    refine ⟨grownCap ((((w.alloc o1).alloc o2).alloc o3).alloc (.cells #[.int .u8 0] 5)) (n + 1) n 5, grownCap_ge _ _ _ _, grownCap_le_maxLen _ _ _ _ (by have : maxLen = 9223372036854775807 := rfl; omega), ?_⟩
    rw [h, zero_cells]
    congr 2
    · simp
    · congr 1
      apply Array.ext'
      simp [u8i]
  have HG := Aside0.mk hg
  have HN := Aside0.mk hn
  have hn0 : ¬ n = 0 := by omega
  have hnb : ((n : Int) == 0) = false := by simp [hn0]
  obtain ⟨cap, hc1, hc2, happ⟩ := happ (.cells #[Value.slice (some ⟨g, 0, none⟩) n n] 22) (.cells #[.slice (some ⟨g, 0, none⟩) n n, .int .i64 0, .int .i64 0, .nilIface, .nilFunc] 83) (.cells #[.int .i64 (n : Int)] 3)
  have HAPP := Aside0.mk happ
  clear happ olds hi0 hz0 hs1 hb1 hg hn hcl hcm
  go_enter Tryd.func23, Tryd.ntmps23
  go_wp2_with (at_builtin; refine append_event rfl (.tmp 41) (.tmp 42) 22 rfl rfl rfl HAPP.out ?_)
  go_ret
  refine ⟨w.heap.size + 1, rfl, ⟨w.heap.size + 1 + 1 + 1 + 1, cap, .nilFunc, (u8i (l ++ 0 :: List.replicate (cap - (n + 1)) 0)).toArray, (0, 0), ?h1, by omega, by omega, by omega, ?h2, by have := HN.out; omega, hc2, ?h3, ?h4⟩, ?h5⟩
  case h1 =>
    refine (al_lt (by simp <;> omega)).trans ((al_lt (by simp <;> omega)).trans ((al_lt (by simp <;> omega)).trans ((al_eq (by simp)).trans ?_)))
    rw [HN.out]
  case h2 => exact al_eq (by simp)
  case h3 => have := HN.out; simp [u8i]; omega
  case h4 =>
    rw [show u8i (l ++ 0 :: List.replicate (cap - (n + 1)) 0) = u8i (l ++ [0]) ++ u8i (List.replicate (cap - (n + 1)) 0) by simp [u8i], List.toList_toArray, List.take_left' (by simp [u8i])]
  case h5 =>
    exact (((((Below.refl base w).alloc hbase _).alloc (by simp; omega) _).alloc (by simp; omega) _).alloc (by simp; omega) _).alloc (by simp; omega) _ |>.drew
theorem newinput_none (v : Value) (w : World) (base : Nat) (hbase : base ≤ w.heap.size) (hv : ∃ A c, v = .slice A 0 c) :
    Calls Tryd.prog 23 #[v] w fun e w' => ∃ gz, e = .returned (.pointer (some ⟨gz, 0, none⟩)) ∧ InAt w' base gz [] 0 0 ∧ Below base w w' := by
  obtain ⟨A, c, rfl⟩ := hv
  go_enter Tryd.func23, Tryd.ntmps23
  go_wp2
  go_ret
  refine ⟨w.heap.size + 1, rfl, ⟨w.heap.size + 1 + 1 + 1, 1, .nilFunc, (u8i [0]).toArray, (0, 0), ?h1, by omega, by omega, by omega, ?h2, by simp, by have : maxLen = 9223372036854775807 := rfl; omega, by simp [u8i], by simp [u8i]⟩, ?h5⟩
  case h1 => exact (al_lt (by simp <;> omega)).trans ((al_lt (by simp <;> omega)).trans ((al_eq (by simp)).trans rfl))
  case h2 => exact al_eq (by simp)
  case h5 => exact (((((Below.refl base w).alloc hbase _).alloc (by simp; omega) _).alloc (by simp; omega) _).alloc (by simp; omega) _)
theorem InAt.lt {w : World} {base gz : Nat} {dat : List Int} {pos start : Int} (h : InAt w base gz dat pos start) : gz < w.heap.size := by
  obtain ⟨g, cap, rst, cur, fr, h1, _⟩ := h
  exact (Array.getElem?_eq_some_iff.1 h1).1
theorem InAt.below {w w' : World} {base gz : Nat} {dat : List Int} {pos start : Int} (h : InAt w base gz dat pos start) (hb : Below w.heap.size w w') : InAt w' base gz dat pos start := by
  obtain ⟨g, cap, rst, cur, fr, h1, h2, h3, h4, h5, h6⟩ := h
  exact ⟨g, cap, rst, cur, fr, by rw [hb.block gz (Array.getElem?_eq_some_iff.1 h1).1]; exact h1, h2, h3, h4, by rw [hb.block g (Array.getElem?_eq_some_iff.1 h5).1]; exact h5, h6⟩
theorem InAt.drew {w : World} {base gz : Nat} {dat : List Int} {pos start : Int} (h : InAt w base gz dat pos start) {nq : Nat} : InAt (w.drewN nq) base gz dat pos start := by
  obtain ⟨g, cap, rst, cur, fr, h1, h2, h3, h4, h5, h6⟩ := h
  exact ⟨g, cap, rst, cur, fr, by simpa using h1, h2, h3, h4, by simpa using h5, h6⟩
/-- What stays: every block but the reader's own. -/
theorem in_set {w : World} {base gz : Nat} {dat : List Int} {pos start : Int} (h : InAt w base gz dat pos start) : ∀ (p s : Int),
    InAt (w.setCell ⟨gz, 1, none⟩ (.int .i64 p)) base gz dat p start ∧ InAt (w.setCell ⟨gz, 2, none⟩ (.int .i64 s)) base gz dat pos s ∧ Below base w (w.setCell ⟨gz, 1, none⟩ (.int .i64 p)) ∧ Below base w (w.setCell ⟨gz, 2, none⟩ (.int .i64 s)) := by
  intro p s
  obtain ⟨g, cap, rst, cur, fr, h1, h2, h3, h4, h5, h6⟩ := h
  have hlt := (Array.getElem?_eq_some_iff.1 h1).1
  refine ⟨⟨g, cap, rst, cur, fr, (heap_setCell_same _ _ _ _ _ _ h1).trans rfl, h2, h3, h4, by rw [sc_ne h4]; exact h5, h6⟩, ⟨g, cap, rst, cur, fr, (heap_setCell_same _ _ _ _ _ _ h1).trans rfl, h2, h3, h4, by rw [sc_ne h4]; exact h5, h6⟩, below_set (Below.refl base w) (by omega) h2, below_set (Below.refl base w) (by omega) h2⟩
theorem in_cells {w : World} {base gz : Nat} {dat : List Int} {pos start : Int} (h : InAt w base gz dat pos start) :
    w.cell? ⟨gz, 1, none⟩ = some (.int .i64 pos) ∧ w.cell? ⟨gz, 2, none⟩ = some (.int .i64 start) ∧ (∀ j, w.frozen? ⟨gz, j, none⟩ = false) ∧
    ∃ g cap, w.cell? ⟨gz, 0, none⟩ = some (.slice (some ⟨g, 0, none⟩) (dat.length + 1) cap) ∧ dat.length + 1 ≤ cap ∧ cap ≤ maxLen ∧ g ≠ gz ∧ base ≤ g ∧ (∀ k (hk : k < dat.length), w.cell? ⟨g, k, none⟩ = some (.int .u8 dat[k])) ∧ w.cell? ⟨g, dat.length, none⟩ = some (.int .u8 0) := by
  obtain ⟨g, cap, rst, cur, fr, h1, h2, h3, h4, h5, h6, h7, h8, h9⟩ := h
  refine ⟨by simp only [World.cell?, h1]; rfl, by simp only [World.cell?, h1]; rfl, fun j => blk_frozen h1 _, g, cap, by simp only [World.cell?, h1]; rfl, h6, h7, h4, h3, fun k hk => ?_, ?_⟩
  · rw [cell_of_row w g _ cur _ fr h5, ← Array.getElem?_toList]
    have : cur.toList[k]? = (u8i (dat ++ [0]))[k]? := by rw [← h9, List.getElem?_take, if_pos (by omega)]
    rw [this]
    simp only [u8i, List.map_append]
    rw [List.getElem?_append_left (by simpa using hk)]
    simp [hk]
  · rw [cell_of_row w g _ cur _ fr h5, ← Array.getElem?_toList]
    have : cur.toList[dat.length]? = (u8i (dat ++ [0]))[dat.length]? := by rw [← h9, List.getElem?_take, if_pos (by omega)]
    rw [this]
    simp [u8i]
theorem in_move (gz base : Nat) (dat : List Int) (pos start d : Int) (w : World) (h : InAt w base gz dat pos start) (hp : -140737488355328 < pos ∧ pos < 140737488355328) (hd : -140737488355328 < d ∧ d < 140737488355328) :
    Calls Tryd.prog 42 #[.pointer (some ⟨gz, 0, none⟩), .int .i64 d] w fun e w' => e = .returned (.tuple #[]) ∧ InAt w' base gz dat (pos + d) start ∧ w' = w.setCell ⟨gz, 1, none⟩ (.int .i64 (pos + d)) := by
  obtain ⟨h1, h2, h3, g, cap, h4, _⟩ := in_cells h
  have h5 := h3 1
  have HS := Aside0.mk (in_set h (pos + d) 0).1
  clear h h3 h4
  go_enter Tryd.func42, Tryd.ntmps42
  go_wp2
  go_end0
  exact ⟨rfl, HS.out, rfl⟩
/-- What a selection that is taken tells. -/
def ShiftPost (gz base p s : Nat) (dat : List Int) (w : World) (e : Ending) (w' : World) : Prop :=
  ∃ A g nq, e = .returned (.slice A (p - s) (p - s)) ∧ (s < p → A = some ⟨g, s, none⟩) ∧ g ≠ gz ∧ (∀ k (hk : k < dat.length), w.cell? ⟨g, k, none⟩ = some (.int .u8 dat[k])) ∧ InAt w' base gz dat p p ∧ w' = (w.drewN nq).setCell ⟨gz, 2, none⟩ (.int .i64 p)
theorem in_shift (gz base p s : Nat) (dat : List Int) (w : World) (h : InAt w base gz dat p s) (hs : s ≤ p) (hp : p ≤ dat.length) (hl : dat.length < 35184372088832) :
    Calls Tryd.prog 44 #[.pointer (some ⟨gz, 0, none⟩)] w (ShiftPost gz base p s dat w) := by
  obtain ⟨h1, h2, h3, g, cap, h4, h5, h6, h7, _, h8, _⟩ := in_cells h
  have h9 := h3 2
  have HS := Aside0.mk (fun nq => (in_set (w := w.drewN nq) (InAt.drew h) 0 p).2.1)
  have H8 := Aside0.mk h8
  have hmx : maxLen = 9223372036854775807 := rfl
  clear h h3 h8
  go_enter Tryd.func44, Tryd.ntmps44
  go_wp2
  have e0 : ((p : Int)).toNat = p := rfl
  have e1 : ((s : Int)).toNat = s := rfl
  rcases Nat.eq_or_lt_of_le hs with hps | hps
  · subst hps
    go_quiet (fail)
    all_goals go_wp2
    all_goals go_ret
    all_goals exact ⟨some ⟨g, 0, none⟩, g, nq, by rw [Nat.sub_self]; rfl, by intro hsp; omega, h7, H8.out, HS.out nq, rfl⟩
  · have hps' : ¬ p = s := by omega
    go_quiet (fail)
    all_goals go_wp2
    all_goals go_ret
    all_goals exact ⟨_, g, nq, rfl, by intro hsp; rfl, h7, H8.out, HS.out nq, rfl⟩
/-- A copy of bytes, and a reader of selections over it. -/
def FreshPost (w : World) (l : List Int) (e : Ending) (w1 : World) : Prop :=
  ∃ v, e = .returned v ∧ Below w.heap.size w w1 ∧ Calls Tryd.prog 23 #[v] w1 fun e w' => ∃ gz, e = .returned (.pointer (some ⟨gz, 0, none⟩)) ∧ InAt w' w.heap.size gz l 0 0 ∧ Below w.heap.size w1 w'
theorem own_fresh (A0 : Option Addr) (c0 : Nat) (l : List Int) (w : World) (hr0 : Kd.C (Kd.int .u8) w A0 l.length l) (hc0 : l.length ≤ c0) (hl : l.length < 35184372088832) :
    Calls Tryd.prog 21 #[.slice A0 l.length c0] w (FreshPost w l) := by
  rcases Nat.eq_zero_or_pos l.length with h0 | hpos
  · refine (impl_own.calls A0 c0 l l w hr0 hc0 (by simp [impl_own.f] <;> omega)).mono ?_
    rintro e w' ⟨v, rfl, hv, hb⟩
    refine ⟨v, rfl, hb, ?_⟩
    obtain ⟨A, c, rfl⟩ := Kd.R_slice hv
    obtain rfl : l = [] := List.eq_nil_of_length_eq_zero h0
    exact newinput_none _ w' w.heap.size hb.size ⟨A, c, rfl⟩
  · refine (own_cells A0 c0 l w hr0 hc0 hpos hl).mono ?_
    rintro e w' ⟨g, cap, rfl, hO, hb⟩
    refine ⟨_, rfl, hb, ?_⟩
    have hle : l.length ≤ cap := by obtain ⟨sp, _, _, _, h, _⟩ := hO; simp at h; omega
    rcases Nat.eq_or_lt_of_le hle with hc | hc
    · subst hc
      exact newinput_full g l.length w.heap.size l w' hO rfl hb.size hl hpos
    · exact newinput_room g cap l.length w.heap.size l w' hO rfl hb.size hl hpos hc
/-- A reader that lies below top, as do its bytes. -/
def InT (w : World) (base top gz : Nat) (dat : List Int) (pos start : Int) : Prop :=
  gz < top ∧ InAt w base gz dat pos start ∧ ∀ g n c, w.cell? ⟨gz, 0, none⟩ = some (.slice (some ⟨g, 0, none⟩) n c) → g < top
theorem infoA : (Tryd.prog.info? 46).map (fun i => (i.zero, i.size, i.bytes)) = some (some (.agg #[(.int .i64 0), (.int .i64 0), (.string ⟨#[]⟩)]), 3, 32) := by kernel_rfl
theorem InT.start {w : World} {base gz : Nat} {dat : List Int} {pos start : Int} (h : InAt w base gz dat pos start) : InT w base w.heap.size gz dat pos start := by
  obtain ⟨g, cap, rst, cur, fr, h1, h2, h3, h4, h5, h6⟩ := id h
  refine ⟨h.lt, h, fun g' n c hc => ?_⟩
  have : w.cell? ⟨gz, 0, none⟩ = some (.slice (some ⟨g, 0, none⟩) (dat.length + 1) cap) := by simp only [World.cell?, h1]; rfl
  rw [this] at hc
  cases hc
  exact (Array.getElem?_eq_some_iff.1 h5).1
theorem InT.keep {w w' : World} {base top gz : Nat} {dat : List Int} {pos start : Int} (h : InT w base top gz dat pos start) (hb : ∀ k, k < top → w'.heap[k]? = w.heap[k]?) : InT w' base top gz dat pos start := by
  obtain ⟨ht, h, hg⟩ := h
  obtain ⟨g, cap, rst, cur, fr, h1, h2, h3, h4, h5, h6⟩ := id h
  have hc : w.cell? ⟨gz, 0, none⟩ = some (.slice (some ⟨g, 0, none⟩) (dat.length + 1) cap) := by simp only [World.cell?, h1]; rfl
  refine ⟨ht, ⟨g, cap, rst, cur, fr, by rw [hb gz ht]; exact h1, h2, h3, h4, by rw [hb g (hg _ _ _ hc)]; exact h5, h6⟩, fun g' n c hc' => hg g' n c ?_⟩
  rw [← hc']
  simp only [World.cell?, hb gz ht]
theorem InT.at {w : World} {base top gz : Nat} {dat : List Int} {pos start : Int} (h : InT w base top gz dat pos start) : InAt w base gz dat pos start := h.2.1
theorem InT.lt {w : World} {base top gz : Nat} {dat : List Int} {pos start : Int} (h : InT w base top gz dat pos start) : gz < top := h.1
theorem InT.below {w w' : World} {base top gz : Nat} {dat : List Int} {pos start : Int} (h : InT w base top gz dat pos start) (hb : Below top w w') : InT w' base top gz dat pos start := h.keep (fun k hk => hb.block k hk)
theorem InT.alloc {w : World} {base top gz : Nat} {dat : List Int} {pos start : Int} (h : InT w base top gz dat pos start) (hs : top ≤ w.heap.size) (o : Obj) : InT (w.alloc o) base top gz dat pos start := h.keep (fun k hk => al_lt (by omega))
theorem InT.drew {w : World} {base top gz : Nat} {dat : List Int} {pos start : Int} (h : InT w base top gz dat pos start) {nq : Nat} : InT (w.drewN nq) base top gz dat pos start := h.keep (fun k hk => by simp)
theorem InT.set {w : World} {base top gz : Nat} {dat : List Int} {pos start : Int} (h : InT w base top gz dat pos start) (p s : Int) {j : Nat} (hj : j ≠ 0) {v : Value} (hi : InAt (w.setCell ⟨gz, j, none⟩ v) base gz dat p s) : InT (w.setCell ⟨gz, j, none⟩ v) base top gz dat p s := by
  refine ⟨h.1, hi, fun g n c hc => h.2.2 g n c ?_⟩
  rw [← hc]
  exact (World.cell?_setCell_other _ _ _ _ (by intro he; injection he with _ h2 _; exact hj h2)).symm
theorem add_at (g s j : Nat) : (⟨g, s, none⟩ : Addr).add j = ⟨g, s + j, none⟩ := by simp [Addr.add]
theorem wr1 {k n : Nat} (h : k < n) (hn : n < 1000000) : wrap64 ((k : Int) + 1) = ((k + 1 : Nat) : Int) := by unfold wrap64; omega
theorem meas1 {k n : Nat} (h : k < n) (hn : n < 1000000) : n - (intOf (.int .i64 (wrap64 ((k : Int) + 1)))).toNat < n - (intOf (.int .i64 (k : Int))).toNat := by
  rw [wr1 h hn]
  simp only [intOf, Int.toNat_natCast]
  omega
theorem add_toNat {p : Nat} {f : Int} (h : 0 ≤ f) : (p : Int) + f = ((p + f.toNat : Nat) : Int) := by omega
theorem go_bounds {p n : Nat} {f : Int} (h : 0 ≤ f) (h2 : p + f.toNat ≤ n) (h3 : n < 35184372088832) : (-140737488355328 < (p : Int) ∧ (p : Int) < 140737488355328) ∧ (-140737488355328 < f ∧ f < 140737488355328) := by omega
theorem len_bound {k n m : Nat} (h : k < n) (hn : n < 1000000) (hm : m = k) : (m + 1) * 32 ≤ 140737488355328 := by omega
theorem reads_cut {w5 : World} {A : Option Addr} {g p s : Nat} {dat : List Int} (ha : s < p → A = some ⟨g, s, none⟩) (hc : ∀ k (hk : k < dat.length), w5.cell? ⟨g, k, none⟩ = some (.int .u8 dat[k])) (h1 : s ≤ p) (h2 : p ≤ dat.length) (h3 : dat.length < 35184372088832) : ReadsInt w5 .u8 A (p - s) ((dat.drop s).take (p - s)) := by
  refine ⟨by simp; omega, by omega, fun hpos => ⟨_, ha (by omega), fun j hj => ?_⟩⟩
  rw [add_at]
  refine (hc (s + j) (by omega)).trans ?_
  simp [List.getD_eq_getElem?_getD, hj]
  rw [List.getElem?_eq_getElem (by omega)]
  rfl
/-- What holds in a round, behind its step. -/
def RoundAt (w w5 : World) (base top gz : Nat) (dat : List Int) (p s : Nat) (u6 : Value) (out : List S46) (b : Nat) (t : ByteArray) : Prop :=
  Kd.R k46 46 w5 top (fun k => top ≤ k) u6 out ∧ InT w5 base top gz dat p s ∧ Below base w w5 ∧ top ≤ w5.heap.size ∧ base ≤ top ∧ top ≤ b ∧ (∀ k, u6.ownBlock = some k → k ≠ b) ∧
    w5.cell? ⟨b, 0, none⟩ = some (.int .i64 0) ∧ w5.cell? ⟨b, 1, none⟩ = some (.int .i64 0) ∧ w5.cell? ⟨b, 2, none⟩ = some (.string t) ∧ w5.frozen? ⟨b, 2, none⟩ = false
theorem RoundAt.made {w wr W2 : World} {base top gz : Nat} {dat : List Int} {p s : Nat} {u6 : Value} {out : List S46} (HR : Kd.R k46 46 wr top (fun k => top ≤ k) u6 out) (HI : InT wr base top gz dat p s) (HB : Below base w wr) (HS : top ≤ wr.heap.size) (hbt : base ≤ top)
    (h2 : Below wr.heap.size wr W2) (hz : ∃ n, W2.heap[wr.heap.size + 1]? = some (.cells #[.int .i64 0, .int .i64 0, .string ⟨#[]⟩] n (0, 0))) : RoundAt w W2 base top gz dat p s u6 out (wr.heap.size + 1) ⟨#[]⟩ := by
  obtain ⟨n, hz⟩ := hz
  refine ⟨Kd.R_below HR h2, HI.keep (fun k hk => h2.block k (by omega)), below_then HB (by omega) h2, by have := h2.size; omega, hbt, by omega, fun k hk => by have := Kd.R_lt HR k hk; omega, ?_, ?_, ?_, ?_⟩
  · simp only [World.cell?, hz]; rfl
  · simp only [World.cell?, hz]; rfl
  · simp only [World.cell?, hz]; rfl
  · exact blk_frozen hz _
theorem RoundAt.set {w w5 : World} {base top gz : Nat} {dat : List Int} {p s p' s' : Nat} {u6 : Value} {out : List S46} {b : Nat} {t : ByteArray} (h : RoundAt w w5 base top gz dat p s u6 out b t) {j : Nat} (hj : j ≠ 0) {v : Value} (hi : InAt (w5.setCell ⟨gz, j, none⟩ v) base gz dat p' s') : RoundAt w (w5.setCell ⟨gz, j, none⟩ v) base top gz dat p' s' u6 out b t := by
  obtain ⟨h1, h2, h3, h4, h5, h6, h7, h8, h9, h10, h11⟩ := h
  have hgt := h2.lt
  have hgb : base ≤ gz := by obtain ⟨_, _, _, _, _, _, h, _⟩ := hi; exact h
  have hc : ∀ i : Nat, (w5.setCell ⟨gz, j, none⟩ v).cell? ⟨b, i, none⟩ = w5.cell? ⟨b, i, none⟩ := fun i => World.cell?_setCell_other _ _ _ _ (by intro he; injection he with h1 _ _; omega)
  refine ⟨Kd.R_far h1 (fun k hk => by show k ≠ gz; omega) v, h2.set _ _ hj hi, below_set h3 (by omega) hgb, by rw [sc_size]; exact h4, h5, h6, h7, by rw [hc]; exact h8, by rw [hc]; exact h9, by rw [hc]; exact h10, ?_⟩
  simpa using h11
theorem RoundAt.text {w w5 : World} {base top gz : Nat} {dat : List Int} {p s : Nat} {u6 : Value} {out : List S46} {b : Nat} {t : ByteArray} (h : RoundAt w w5 base top gz dat p s u6 out b t) (t' : ByteArray) : RoundAt w (w5.setCell ⟨b, 2, none⟩ (.string t')) base top gz dat p s u6 out b t' := by
  obtain ⟨h1, h2, h3, h4, h5, h6, h7, h8, h9, h10, h11⟩ := h
  have hc : ∀ i : Nat, i ≠ 2 → (w5.setCell ⟨b, 2, none⟩ (.string t')).cell? ⟨b, i, none⟩ = w5.cell? ⟨b, i, none⟩ := fun i hi => World.cell?_setCell_other _ _ _ _ (by intro he; injection he with _ h2 _; omega)
  refine ⟨?_, h2.keep (fun k hk => sc_ne (by omega)), below_set h3 (by omega) (by omega), by rw [sc_size]; exact h4, h5, h6, h7, by rw [hc _ (by decide)]; exact h8, by rw [hc _ (by decide)]; exact h9, World.cell?_setCell_same' _ _ _ (by rw [h10]; rfl), by simpa using h11⟩
  have := Kd.R_far (p := ⟨b, 2, none⟩) (ok := fun k => top ≤ k ∧ k ≠ b) ⟨fun k hk => ⟨h1.1 k hk, h7 k hk⟩, h1.2.imp_ (fun x cs hp => (k46_openM hp) ▸ k46_mkM _ _ _ x)⟩ (fun k hk => hk.2) (.string t')
  exact Kd.R_mono this (fun k hk => hk.1)
/-- Steps that go on, and that take a selection: what each tells. -/
def runI (dat : List Int) : List S44 → Nat → Nat → Option (List S46)
  | [], _, _ => some []
  | x :: t, p, s => if x.f0 = 0 ∧ 0 ≤ x.f1 ∧ p + x.f1.toNat ≤ dat.length then (runI dat t (p + x.f1.toNat) s).map (⟨0, 0, strOfNums []⟩ :: ·)
    else if x.f0 = 2 then (runI dat t p p).map (⟨0, 0, strOfNums ((dat.drop s).take (p - s))⟩ :: ·) else none
def impl_RunInput.f (l0 : List Int) (l1 : List S44) : Option (List S46) :=
  if l0.length < 35184372088832 ∧ l1.length < 1000000 then runI l0 l1 0 0 else none
set_option maxRecDepth 100000 in
set_option maxHeartbeats 4000000 in
theorem impl_RunInput.calls (A0 : Option Addr) (c0 : Nat) (l0 : List Int) (A1 : Option Addr) (c1 : Nat) (l1 : List S44) (r : List S46) (w : World)
    (hr0 : Kd.C (Kd.int .u8) w A0 l0.length l0) (hc0 : l0.length ≤ c0) (hr1 : Kd.C k44 w A1 l1.length l1) (hc1 : l1.length ≤ c1) (h : impl_RunInput.f l0 l1 = some r) :
    Calls Tryd.prog 18 #[.slice A0 l0.length c0, .slice A1 l1.length c1] w fun e w' => ∃ v0_, e = .returned v0_ ∧ Kd.R k46 46 w' w.heap.size (fun _ => True) v0_ r ∧ Below w.heap.size w w' := by
  unfold impl_RunInput.f at h
  split at h
  case isFalse => cases h
  case isTrue hl =>
  have HL := Aside0.mk hl
  have HR0 := Aside0.mk hr0
  have HR1 := Aside0.mk hr1
  have HC0 := Aside0.mk hc0
  have HRI := Aside0.mk h
  clear hl hr0 hr1 hc0 h
  go_enter Tryd.func18, Tryd.ntmps18
  go_wp2_with (go_at_call 21; (with_reducible refine (own_fresh _ _ l0 _ HR0.out HC0.out HL.out.1).mono ?_); rintro e w1 ⟨v1, rfl, hb1, hn1⟩; have HN := Aside0.mk hn1; have HB1 := Aside0.mk hb1; clear hn1 hb1)
  go_wp2_with (first | (go_at_call 23; (with_reducible refine HN.out.mono ?_); rintro e wB ⟨gz, rfl, hi, hb2⟩; have HI := Aside0.mk (InT.start hi); have HB := Aside0.mk (HB1.out.trans hb2); clear hi hb2) | ((with_reducible refine gate_dst (N := 15) rfl ?_); refine Kd.R_lit k46 _ 46 ?hg (N := 15) ?hd (xs := ([] : List S46)) (inner := []) (ok := fun k => _ ≤ k) (okp := fun k => _ ≤ k) ?hr ?hp (fun _ hk => hk) (Nat.le_refl _) (Below.refl _ _) (Nat.le_refl _) (by simp) ?_; (case hd => rfl); (case hg => rfl); (case hr => first | (go_simp; done) | (go_simp; rfl)); (case hp => exact (Reps.none _ _)); intro v15 w3 ho4 hb hg_ hnew_; have HO := Aside0.mk ho4; have HB3 := Aside0.mk hb; clear hg_ hnew_ hb ho4))
  have HBT := Aside0.mk HB.out.size
  clear HN HB1
  go_loopw [6, 18] (fun v6 v18 wr => ∃ (k p s : Nat) (out rest : List S46), v18 = .int .i64 (k : Int) ∧ Aside0 (k ≤ l1.length ∧ runI l0 (l1.drop k) p s = some rest ∧ r = out ++ rest ∧ out.length = k ∧ s ≤ p ∧ p ≤ l0.length) ∧ Aside0 (Kd.R k46 46 wr wB.heap.size (fun k => wB.heap.size ≤ k) v6 out) ∧ Aside0 (InT wr w.heap.size wB.heap.size gz l0 p s) ∧ Aside0 (Below w.heap.size w wr) ∧ Aside0 (wB.heap.size ≤ wr.heap.size)) (fun _ v18 _ => l1.length - (intOf v18).toNat)
  case atStart => exact ⟨0, 0, 0, [], r, rfl, ⟨Nat.zero_le _, by simpa using HRI.out, rfl, rfl, Nat.le_refl _, Nat.zero_le _⟩, HO, ⟨HI.out.below HB3.out⟩, ⟨below_then HB.out HB.out.size HB3.out⟩, ⟨HB3.out.size⟩⟩
  case round =>
    obtain ⟨k, p, s, out, rest, rfl, HH, HR, HIT, HBW, HSZ⟩ := hrel
    clear HO HB3
    by_cases hlt : k < l1.length
    · obtain ⟨ad, e1, x0, x1⟩ := at_T44 HR1.out (k : Int) (by omega) (by omega)
      have hx : rd_T44 l1 (k : Int) = l1[k] := by unfold rd_T44; simp [List.getD_eq_getElem?_getD, hlt]
      have hd : l1.drop k = l1[k] :: l1.drop (k + 1) := List.drop_eq_getElem_cons hlt
      have HH2 := HH.out
      rw [hd] at HH2
      rw [hx] at x0 x1
      generalize l1[k] = x at x0 x1 HH2
      cases e1
      rw [Int.toNat_natCast] at x0 x1
      have hy0 := (HBW.out.cell (World.block_lt_of_cell? w _ x0)).trans x0
      have hy1 := (HBW.out.cell (World.block_lt_of_cell? w _ x1)).trans x1
      clear x0 x1 hx hd
      obtain ⟨q1, q2, q3, q4, q5, q6⟩ := HH2
      simp only [runI] at q2
      by_cases hc : x.f0 = 0 ∧ 0 ≤ x.f1 ∧ p + x.f1.toNat ≤ l0.length
      · rw [if_pos hc] at q2
        obtain ⟨rest2, hr2, rfl⟩ := Option.map_eq_some_iff.1 q2
        obtain ⟨f0, f1⟩ := x
        simp only at hc hy0 hy1 hr2
        obtain ⟨rfl, hc1, hc2⟩ := hc
        have HQ := Aside0.mk (And.intro hc1 (And.intro hc2 (And.intro hr2 (And.intro q3 (And.intro q4 (And.intro q5 q6))))))
        clear q1 q2 hr2 hc1 hc2 q3 q4 q5 q6 HH
        have HPB := Aside0.mk (go_bounds HQ.out.1 HQ.out.2.1 HL.out.1)
        have heq := add_toNat (p := p) HQ.out.1
        have HEQ := Aside0.mk heq
        have LM : Aside0 ((out.length + 1) * 32 ≤ 140737488355328) := ⟨len_bound hlt HL.out.2 HQ.out.2.2.2.2.1⟩
        clear heq
        go_wp2_with fail
        (with_reducible refine (in_move gz w.heap.size l0 p s f1 _ ((HIT.out.alloc HSZ.out _).alloc (by have := HSZ.out; simp; omega) _).at HPB.out.1 HPB.out.2).mono ?_)
        rintro e w5 ⟨rfl, hi5, hw5⟩
        rw [HEQ.out] at hi5 hw5
        subst hw5
        have H5 := Aside0.mk (RoundAt.set (RoundAt.made HR.out HIT.out HBW.out HSZ.out HBT.out (below_alloc (below_alloc (Below.refl _ _) _) _) ⟨_, al_eq (by simp)⟩) (by decide) hi5)
        clear hi5
        generalize World.setCell _ _ _ = w5 at H5 ⊢
        obtain ⟨z1, z2, z3, z4, z5, z6, z7, z8, z9, z10, z11⟩ := H5.out
        have HS5 := Aside0.mk z4
        have HR5 := Aside0.mk z1
        have HI5 := Aside0.mk z2
        have HB5 := Aside0.mk z3
        clear z1 z2 z3 z4 z5 z6 z7 z11
        go_wp2_with (at_builtin; refine Kd.R_append k46 (w0 := w5) wB.heap.size rfl (.tmp 103) (.tmp 105) 38 46 (.agg #[(.int .i64 0), (.int .i64 0), (.string ⟨#[]⟩)]) 32 rfl Tryd.underlying38 infoA rfl (by decide) (by omega) u6 out ⟨0, 0, ⟨#[]⟩⟩ [.int .i64 0, .int .i64 0, .string (⟨#[]⟩)] (fun k => wB.heap.size ≤ k) (fun _ => False) rfl rfl (k46_mkM _ _ _ ⟨0, 0, ⟨#[]⟩⟩) (fun _ h => h.elim) (fun k hk => Nat.le_trans HS5.out hk) HR5.out (Below.refl _ _) HS5.out LM.out ?_; intro v6 w6 ho hb hg hat; have HR6 := Aside0.mk ho; have HB6 := Aside0.mk hb; clear ho hb hg hat)
        clear z8 z9 z10 H5
        go_roundw
        case rel => exact ⟨k + 1, _, _, out ++ [⟨0, 0, ⟨#[]⟩⟩], rest2, congrArg (Value.int .i64) (wr1 hlt HL.out.2), ⟨hlt, HQ.out.2.2.1, by rw [HQ.out.2.2.2.1]; simp; rfl, by simp [HQ.out.2.2.2.2.1], Nat.le_trans HQ.out.2.2.2.2.2.1 (Nat.le_add_right _ _), HQ.out.2.1⟩, HR6, ⟨HI5.out.below HB6.out⟩, ⟨HB5.out.trans (HB6.out.mono HBT.out)⟩, ⟨Nat.le_trans HS5.out HB6.out.size⟩⟩
        case measure => exact meas1 hlt HL.out.2
      · rw [if_neg hc] at q2
        by_cases hc2 : x.f0 = 2
        · rw [if_pos hc2] at q2
          obtain ⟨rest2, hr2, rfl⟩ := Option.map_eq_some_iff.1 q2
          obtain ⟨f0, f1⟩ := x
          simp only at hc hc2 hy0 hy1 hr2
          subst hc2
          have HQ := Aside0.mk (And.intro hr2 (And.intro q3 (And.intro q4 (And.intro q5 q6))))
          clear q1 q2 hr2 hc q3 q4 q5 q6 HH
          have LM : Aside0 ((out.length + 1) * 32 ≤ 140737488355328) := ⟨len_bound hlt HL.out.2 HQ.out.2.2.1⟩
          go_wp2_with fail
          (with_reducible refine (in_shift gz w.heap.size p s l0 _ ((HIT.out.alloc HSZ.out _).alloc (by have := HSZ.out; simp; omega) _).at HQ.out.2.2.2.1 HQ.out.2.2.2.2 HL.out.1).mono ?_)
          rintro e w5 ⟨A, g, nq, rfl, ha, hgg, hcells, hi5, hw5⟩
          have hrd : ReadsInt w5 .u8 A (p - s) ((l0.drop s).take (p - s)) := reads_cut ha (fun k hk => by rw [hw5]; exact (World.cell?_setCell_other _ _ _ _ (by intro he; injection he with h1 _ _; exact hgg h1.symm)).trans (show _ = _ from hcells k hk)) HQ.out.2.2.2.1 HQ.out.2.2.2.2 HL.out.1
          have hconv : (convert 22 9 (.slice A (p - s) (p - s))).run Tryd.prog w5 = .ok (.string (strOfNums ((l0.drop s).take (p - s)))) w5 := string_of_reads Tryd.underlying22 Tryd.underlying5 Tryd.underlying9 hrd
          subst hw5
          have H5 := Aside0.mk (RoundAt.set (RoundAt.made HR.out HIT.out HBW.out HSZ.out HBT.out (pw_below_drewN (below_alloc (below_alloc (Below.refl _ _) _) _) nq) ⟨_, (show _ = _ from al_eq (by simp))⟩) (by decide) hi5)
          clear hi5 hrd hcells ha
          generalize World.setCell _ _ _ = w5 at H5 hconv ⊢
          generalize strOfNums _ = txt at hconv HQ
          have H6 := Aside0.mk (RoundAt.text H5.out txt)
          obtain ⟨_, _, _, _, _, _, _, z8, z9, z10, z11⟩ := H5.out
          clear H5
          generalize hw6 : World.setCell _ _ _ = w6 at H6
          obtain ⟨z1, z2, z3, z4, _, _, _, _, _, _, _⟩ := H6.out
          have HS5 := Aside0.mk z4
          have HR5 := Aside0.mk z1
          have HI5 := Aside0.mk z2
          have HB5 := Aside0.mk z3
          clear z1 z2 z3 z4
          have HW6 := Aside0.mk hw6
          clear hw6 H6
          go_wp2_with (at_builtin; rw [HW6.out]; refine Kd.R_append k46 (w0 := w6) wB.heap.size rfl (.tmp 103) (.tmp 105) 38 46 (.agg #[(.int .i64 0), (.int .i64 0), (.string ⟨#[]⟩)]) 32 rfl Tryd.underlying38 infoA rfl (by decide) (by omega) u6 out ⟨0, 0, txt⟩ [.int .i64 0, .int .i64 0, .string txt] (fun k => wB.heap.size ≤ k) (fun _ => False) rfl (by rw [← HW6.out, sc_size]; rfl) (k46_mkM _ _ _ ⟨0, 0, txt⟩) (fun _ h => h.elim) (fun k hk => Nat.le_trans HS5.out hk) HR5.out (Below.refl _ _) HS5.out LM.out ?_; intro v6 w7 ho hb hg hat; have HR6 := Aside0.mk ho; have HB6 := Aside0.mk hb; clear ho hb hg hat)
          clear z8 z9 z10 z11 hconv
          go_roundw
          case rel => exact ⟨k + 1, _, _, out ++ [⟨0, 0, txt⟩], rest2, congrArg (Value.int .i64) (wr1 hlt HL.out.2), ⟨hlt, HQ.out.1, by rw [HQ.out.2.1]; simp, by simp [HQ.out.2.2.1], Nat.le_refl _, HQ.out.2.2.2.2⟩, HR6, ⟨HI5.out.below HB6.out⟩, ⟨HB5.out.trans (HB6.out.mono HBT.out)⟩, ⟨Nat.le_trans HS5.out HB6.out.size⟩⟩
          case measure => exact meas1 hlt HL.out.2
        · rw [if_neg hc2] at q2
          cases q2
    · obtain ⟨q1, q2, q3, q4, q5, q6⟩ := HH.out
      obtain rfl : k = l1.length := by omega
      rw [List.drop_length] at q2
      obtain rfl : [] = rest := Option.some.inj q2
      obtain rfl : r = out := by simpa using q3
      clear q2 q3 q4 q5 q6 HH
      go_wp2
      go_ret
      exact ⟨_, rfl, Kd.R_mono (Kd.R_lower HR.out HBT.out) (fun _ _ => trivial), HBW.out⟩
end Go.Proofs.YtgpmmmlmaaiobaaDoor.Own
