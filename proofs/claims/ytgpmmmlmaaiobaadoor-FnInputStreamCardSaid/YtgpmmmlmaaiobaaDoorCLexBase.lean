/- The contracts of the reader of selections of the package buffer (NewLexerBytes, Move, Shift ..). -/
import Derived.Test.YtgpmmmlmaaiobaaDoorCEof
import Derived.Test.YtgpmmmlmaaiobaaDoorCown
import Derived.Test.YtgpmmmlmaaiobaaDoorOwn
import Derived.Test.YtgpmmmlmaaiobaaDoorCTypes
import Derived.Lib.HexFns
import Derived.Outline
import Derived.Laws.EntriesVeiled
namespace Go.Proofs.YtgpmmmlmaaiobaaDoor.Own
open Go.RowKit Go.Proofs.YtgpmmmlmaaiobaaDoorW.PrintWords Go.Proofs.YtgpmmmlmaaiobaaDoorW.PrintLast
set_option linter.unusedVariables false
set_option linter.unusedSimpArgs false
def u8i (l : List Int) : List Value := l.map (Value.int .u8)
/-- A reader of selections: its bytes, a 0 behind them, where it is, and where its selection begins. -/
def InAt (w : World) (base gz : Nat) (dat : List Int) (pos start : Int) : Prop :=
  ∃ (g cap : Nat) (rst : Value) (cur : Array Value) (fr : Nat × Nat), w.heap[gz]? = some (.cells #[.slice (some ⟨g, 0, none⟩) (dat.length + 1) cap, .int .i64 pos, .int .i64 start, .nilIface, rst] 87 (0, 0)) ∧ base ≤ gz ∧ base ≤ g ∧ g ≠ gz ∧
    w.heap[g]? = some (.cells cur 5 fr) ∧ dat.length + 1 ≤ cap ∧ cap ≤ maxLen ∧ cur.size = cap ∧ cur.toList.take (dat.length + 1) = u8i (dat ++ [0])
theorem row_cellsI {e : Nat} {w : World} {base g n c : Nat} {xs : List Int} (h : Kd.R (Kd.int .u8) e w base (fun _ => True) (.slice (some ⟨g, 0, none⟩) n c) xs) :
    ∃ cur, base ≤ g ∧ w.heap[g]? = some (.cells cur e (0, 0)) ∧ n = xs.length ∧ n ≤ c ∧ c ≤ maxLen ∧ cur.size = c ∧ cur.toList.take n = u8i xs := by
  have hn := (Kd.R_reads' h).1
  rcases (Kd.own_of_R h).2 with ⟨e, _⟩ | ⟨g', cap', cur, e, hb, hg, h1, h2, h3, h4⟩
  · cases e
  · cases e
    rw [← hn] at *
    exact ⟨cur, hb, hg, rfl, h1, h2, by simpa using h3, by simpa [encs, u8i] using h4⟩
section
variable {P : Program} {ops : Array Oper} {rest : List Oper} {o : Oper} {a : Act} {Q : Exit → Act → World → Prop}
theorem append_event {W w1 : World} (hgd : o.guard = none) (s x : Operand) (t : TypeId) (ho : o.op = .call { callee := .builtin .append, args := #[s, x], argTypes := #[t, t] }) {vs vx v : Value} (hs : a.eval s = vs) (hx : a.eval x = vx)
    (hr : (Builtin.append_ #[t, t] o.type #[vs, vx]).run P W = .ok v w1) (h : wpList P ops Q rest (a.put o.dst v) w1) : wpList P ops Q (o :: rest) a W := by
  have hrun : (execOp a.eval o).run P W = .ok (.value v) w1 := by
    unfold execOp
    simp only [ho, resolve, invoke, builtin, Sem.run_bind, Sem.run_pure, Result.andThen_ok, List.map_toArray, List.map_cons, List.map_nil, hs, hx, hr]
  exact Kd.event_run hgd hrun h
end
theorem infoIn : (Tryd.prog.info? 5).map (fun i => (i.zero, i.size, i.bytes)) = some (some (.int .u8 0), 1, 1) := by kernel_rfl
theorem zero_cells (k : Nat) : Builtin.zeroCells (Value.int .u8 0).cells k = (u8i (List.replicate k 0)).toArray := by
  apply Array.ext'
  simp only [Builtin.zeroCells, Value.cells, u8i, List.map_replicate, List.toList_toArray]
  rw [List.eq_replicate_iff]
  refine ⟨by simp, fun b hb => ?_⟩
  simp at hb
  first | exact hb.2.symm | exact hb.2 | (obtain ⟨a, _, rfl⟩ := hb; simp [Nat.mod_one])
theorem al_lt {W : World} {o : Obj} {i : Nat} (h : i < W.heap.size) : (W.alloc o).heap[i]? = W.heap[i]? := (below_alloc (Below.refl W.heap.size W) o).block i h
theorem al_eq {W : World} {o : Obj} {i : Nat} (h : i = W.heap.size) : (W.alloc o).heap[i]? = some o := by subst h; exact heap_alloc_new W o
theorem sc_ne {W : World} {g j k : Nat} {v : Value} (h : k ≠ g) : (W.setCell ⟨g, j, none⟩ v).heap[k]? = W.heap[k]? := Below.heap_setCell W ⟨g, j, none⟩ v k h
theorem sc_size {W : World} {p : Addr} {v : Value} : (W.setCell p v).heap.size = W.heap.size := by simp
theorem sc_mark {w : World} {g i : Nat} {cs : Array Value} {t : TypeId} {fr : Nat × Nat} {v : Value} (hb : w.heap[g]? = some (.cells cs t fr)) : (w.setCell ⟨g, i, none⟩ v).heap[g]? = some (.cells (cs.setIfInBounds i v) t fr) := by
  simp [World.setCell, Array.getElem?_modify, hb]
theorem below_set {base : Nat} {w W : World} (h : Below base w W) (hs : base ≤ W.heap.size) {g j : Nat} {v : Value} (hg : base ≤ g) : Below base w (W.setCell ⟨g, j, none⟩ v) :=
  h.grown (Go.Lib.Hx.grownBy_set (Go.Lib.Hx.grownBy_refl W (some g)) _ rfl _) hs (fun k hk => by obtain rfl := Option.some.inj hk; exact hg)
/-- A copy of bytes: what lies in its room is bytes, too. -/
def OwnAt (w : World) (base g cap : Nat) (l : List Int) : Prop := ∃ (sp : List Int) (fr : Nat × Nat), base ≤ g ∧ w.heap[g]? = some (.cells (u8i (l ++ sp)).toArray 5 fr) ∧ (l ++ sp).length = cap ∧ cap ≤ maxLen ∧ ∀ j, j < cap → w.frozen? ⟨g, j, none⟩ = false
set_option maxRecDepth 20000 in
theorem own_cells (A0 : Option Addr) (c0 : Nat) (l : List Int) (w : World) (hr0 : Kd.C (Kd.int .u8) w A0 l.length l) (hc0 : l.length ≤ c0) (hpos : 0 < l.length) (hl : l.length < 35184372088832) :
    Calls Tryd.prog 21 #[.slice A0 l.length c0] w fun e w' => ∃ g cap, e = .returned (.slice (some ⟨g, 0, none⟩) l.length cap) ∧ OwnAt w' w.heap.size g cap l ∧ Below w.heap.size w w' := by
  obtain ⟨ad, rfl, hcell⟩ := hr0.2.2 hpos
  have hat : ∀ j v, (u8i l)[j]? = some v → w.cell? (ad.add j) = some v := by
    intro j v hj
    have hjl : j < l.length := by have := (List.getElem?_eq_some_iff.1 hj).1; simpa [u8i] using this
    obtain ⟨cs, _, hcs, h4⟩ := hcell j l[j] (List.getElem?_eq_getElem hjl)
    have := h4 0 (.int .u8 l[j]) (by rw [hcs]; rfl)
    have hv : v = .int .u8 l[j] := by simpa [u8i, hjl] using hj.symm
    rw [hv]
    simpa [Kd.int, Kd.scalar] using this
  obtain ⟨i0, hi0, hz0, hs1, hb1⟩ := info_parts infoIn
  have happ := run_append_grow (P := Tryd.prog) (w.alloc (.cells #[] 5)) 22 22 5 i0 (.int .u8 0) Tryd.underlying22 hi0 hz0 ⟨w.heap.size, 0, none⟩ 0 0 [] (by simp) (fun j v hj => by simp at hj) ad l.length c0 (u8i l) (by rw [hs1]; simp [u8i])
    (fun j v hj => pw_cell_below (below_alloc (Below.refl w.heap.size w) _) (hat j v hj)) (by omega) (by omega) (by
      rw [hb1]
      rw [nextslicecap_zero (by omega)]
      omega)
  rw [zero_cells] at happ
  have HC := Aside0.mk hc0
  clear hr0 hcell hat hi0 hz0 hs1 hb1 hc0
  go_enter Tryd.func21, Tryd.ntmps21
  have HAPP := Aside0.mk happ
  clear happ
  go_wp2_with (at_builtin; refine append_event rfl (.tmp 3) (.tmp 4) 22 rfl rfl rfl HAPP.out ?_)
  go_ret
  obtain ⟨cap, hcap⟩ : ∃ cap, cap = grownCap (w.alloc (.cells #[] 5)) l.length 0 5 := ⟨_, rfl⟩
  have hge : l.length ≤ cap := by rw [hcap]; exact grownCap_ge _ _ _ _
  have hle : cap ≤ maxLen := by rw [hcap]; exact grownCap_le_maxLen _ _ _ _ (by have : maxLen = 9223372036854775807 := rfl; omega)
  rw [← hcap]
  have hh := al_eq (W := w.alloc (.cells #[] 5)) (o := .cells (u8i (l ++ List.replicate (cap - l.length) 0)).toArray 5) (i := w.heap.size + 1) (by simp)
  have e : u8i (l ++ List.replicate (cap - l.length) 0) = u8i l ++ u8i (List.replicate (cap - l.length) 0) := by simp [u8i]
  rw [e] at hh
  refine ⟨w.heap.size + 1, cap, rfl, ⟨List.replicate (cap - l.length) 0, (0, 0), by omega, ?_, by simp; omega, hle, fun j _ => blk_frozen (show _ = _ from hh) j⟩, (((Below.refl w.heap.size w).alloc (Nat.le_refl _) _).alloc (by simp) _).drew⟩
  rw [e]
  exact hh
set_option maxHeartbeats 1000000 in
theorem newinput_room (g cap n base : Nat) (l : List Int) (w : World) (hO : OwnAt w base g cap l) (hn : n = l.length) (hbase : base ≤ w.heap.size) (hl : n < 35184372088832) (h0 : 0 < n) (hc : n < cap) :
    Calls Tryd.prog 29 #[.slice (some ⟨g, 0, none⟩) n cap] w fun e w' => ∃ gz, e = .returned (.pointer (some ⟨gz, 0, none⟩)) ∧ InAt w' base gz l 0 0 ∧ Below base w w' := by
  obtain ⟨sp, fr, hbg, hg, hcl, hcm, hfz⟩ := hO
  have hglt : g < w.heap.size := (Array.getElem?_eq_some_iff.1 hg).1
  rw [List.length_append, ← hn] at hcl
  cases sp with
  | nil => simp at hcl; omega
  | cons old sp =>
  have hcell : w.cell? ⟨g, n, none⟩ = some (.int .u8 old) := by
    simp only [World.cell?, hg]
    simp [u8i, hn]
  have hfr : w.frozen? ⟨g, n, none⟩ = false := hfz n hc
  clear hfz
  have al : ∀ (W : World) (o : Obj) (q : Addr), q.block < W.heap.size → (W.alloc o).cell? q = W.cell? q ∧ (W.alloc o).frozen? q = W.frozen? q := fun W o q hq => by
    have hb := al_lt (o := o) hq
    exact ⟨by simp only [World.cell?, hb], by simp only [World.frozen?, hb]⟩
  have h3 : ∀ o1 o2 o3 : Obj, (((w.alloc o1).alloc o2).alloc o3).cell? ⟨g, n, none⟩ = some (.int .u8 old) := fun o1 o2 o3 => by
    rw [(al _ o3 _ (by simp; omega)).1, (al _ o2 _ (by simp; omega)).1, (al _ o1 _ hglt).1, hcell]
  have h4 : ∀ o1 o2 o3 o4 : Obj, ((((w.alloc o1).alloc o2).alloc o3).alloc o4).cell? ⟨g, n, none⟩ = some (.int .u8 old) := fun o1 o2 o3 o4 => by
    rw [(al _ o4 _ (by simp; omega)).1, h3]
  have f4 : ∀ o1 o2 o3 o4 : Obj, ((((w.alloc o1).alloc o2).alloc o3).alloc o4).frozen? ⟨g, n, none⟩ = false := fun o1 o2 o3 o4 => by
    rw [(al _ o4 _ (by simp; omega)).2, (al _ o3 _ (by simp; omega)).2, (al _ o2 _ (by simp; omega)).2, (al _ o1 _ hglt).2, hfr]
  have b6 : ∀ (o1 o3 o4 : Obj) (a b c d e x y : Value) (t : TypeId), ((((((w.alloc o1).alloc (.cells #[a, b, c, d, e] t)).alloc o3).alloc o4).setCell ⟨g, n, none⟩ x).setCell ⟨w.heap.size + 1, 0, none⟩ y).heap[w.heap.size + 1]? = some (.cells #[y, b, c, d, e] t (0, 0)) := fun o1 o3 o4 a b c d e x y t => by
    have := heap_setCell_same (((((w.alloc o1).alloc (.cells #[a, b, c, d, e] t)).alloc o3).alloc o4).setCell ⟨g, n, none⟩ x) (w.heap.size + 1) 0 #[a, b, c, d, e] t y (by
      rw [sc_ne (by omega), al_lt (by simp), al_lt (by simp)]
      exact al_eq (by simp))
    rw [this]
    rfl
  have c6 : ∀ (o1 o3 o4 : Obj) (a b c d e x y : Value) (t : TypeId), ((((((w.alloc o1).alloc (.cells #[a, b, c, d, e] t)).alloc o3).alloc o4).setCell ⟨g, n, none⟩ x).setCell ⟨w.heap.size + 1, 0, none⟩ y).cell? ⟨w.heap.size + 1, 4, none⟩ = some e := fun o1 o3 o4 a b c d e x y t => by
    simp only [World.cell?, b6]; rfl
  have f6 : ∀ (o1 o3 o4 : Obj) (a b c d e x y : Value) (t : TypeId), ((((((w.alloc o1).alloc (.cells #[a, b, c, d, e] t)).alloc o3).alloc o4).setCell ⟨g, n, none⟩ x).setCell ⟨w.heap.size + 1, 0, none⟩ y).frozen? ⟨w.heap.size + 1, 4, none⟩ = false := fun o1 o3 o4 a b c d e x y t => blk_frozen (b6 o1 o3 o4 a b c d e x y t) _
  have B6 := Aside0.mk b6
  clear b6
  have hn0 : ¬ n = 0 := by omega
  have hnb : ((n : Int) == 0) = false := by simp [hn0]
  have hci : (cap : Int) > (n : Int) := by omega
  have hn1c : n + 1 ≤ cap := hc
  have HN := Aside0.mk hn
  have HG := Aside0.mk hg
  have HCL := Aside0.mk hcl
  clear hg hn hcl al
  go_enter Tryd.func29, Tryd.ntmps29
  go_wp2
  go_ret
  clear h3 h4 f4 c6 f6 hcell hfr
  refine ⟨w.heap.size + 1, rfl, ⟨g, cap, ?rst, (u8i (l ++ 0 :: sp)).toArray, fr, ?h1, by omega, hbg, by omega, ?h2, by have := HN.out; omega, hcm, ?h3, ?h4⟩, ?h5⟩
  case h1 =>
    refine (heap_setCell_same _ _ _ _ _ _ (B6.out _ _ _ _ _ _ _ _ _ _ _)).trans ?_
    rw [HN.out]
    rfl
  case h2 =>
    rw [sc_ne (by omega), sc_ne (by omega), sc_mark (g := g) (i := n) (cs := (u8i (l ++ old :: sp)).toArray) (t := 5) (fr := fr) (by rw [al_lt (by simp; omega), al_lt (by simp; omega), al_lt (by simp; omega), al_lt hglt]; exact HG.out), List.setIfInBounds_toArray]
    have : (u8i (l ++ old :: sp)).set n (.int .u8 0) = u8i (l ++ 0 :: sp) := by rw [HN.out]; simp [u8i]
    rw [this]
  case h3 => have := HCL.out; have := HN.out; simp [u8i] at *; omega
  case h4 =>
    rw [show u8i (l ++ 0 :: sp) = u8i (l ++ [0]) ++ u8i sp by simp [u8i], List.toList_toArray, List.take_left' (by simp [u8i])]
  case h5 =>
    have hb4 := ((((Below.refl base w).alloc hbase (.cells #[Value.slice (some ⟨g, 0, none⟩) (n + 1) cap] 22)).alloc (by simp; omega) (.cells #[.slice (some ⟨g, 0, none⟩) n cap, .int .i64 0, .int .i64 0, .nilIface, .nilFunc] 87)).alloc (by simp; omega) (.cells #[.int .i64 (n : Int)] 3)).alloc (by simp; omega) (.cells #[.int .u8 old] 5)
    exact below_set (below_set (below_set hb4 (by simp; omega) hbg) (by simp; omega) (by omega)) (by simp; omega) (by omega)
set_option maxRecDepth 20000 in
set_option maxHeartbeats 1000000 in
theorem newinput_full (g n base : Nat) (l : List Int) (w : World) (hO : OwnAt w base g n l) (hn : n = l.length) (hbase : base ≤ w.heap.size) (hl : n < 35184372088832) (h0 : 0 < n) :
    Calls Tryd.prog 29 #[.slice (some ⟨g, 0, none⟩) n n] w fun e w' => ∃ gz, e = .returned (.pointer (some ⟨gz, 0, none⟩)) ∧ InAt w' base gz l 0 0 ∧ Below base w w' := by
  obtain ⟨sp, fr, hbg, hg, hcl, hcm, _⟩ := hO
  have hglt : g < w.heap.size := (Array.getElem?_eq_some_iff.1 hg).1
  rw [List.length_append, ← hn] at hcl
  obtain rfl := List.eq_nil_of_length_eq_zero (show sp.length = 0 by omega)
  rw [List.append_nil] at hg
  obtain ⟨i0, hi0, hz0, hs1, hb1⟩ := info_parts infoIn
  have olds : ∀ (W : World) (j : Nat) (v : Value), Below w.heap.size w W → (u8i l)[j]? = some v → W.cell? ((⟨g, 0, none⟩ : Addr).add j) = some v := fun W j v hb hj => by
    rw [add_plain, cell_of_row W g _ _ _ fr (by rw [hb.block g hglt]; exact hg)]
    simpa using hj
  have happ : ∀ o1 o2 o3 : Obj, ∃ cap, n + 1 ≤ cap ∧ cap ≤ maxLen ∧ (Builtin.append_ #[22, 22] 22 #[.slice (some ⟨g, 0, none⟩) n n, .slice (some ⟨w.heap.size + 1 + 1 + 1, 0, none⟩) 1 1]).run Tryd.prog ((((w.alloc o1).alloc o2).alloc o3).alloc (.cells #[.int .u8 0] 5)) =
      .ok (.slice (some ⟨w.heap.size + 1 + 1 + 1 + 1, 0, none⟩) (n + 1) cap) (((((w.alloc o1).alloc o2).alloc o3).alloc (.cells #[.int .u8 0] 5)).drew.alloc (.cells (u8i (l ++ 0 :: List.replicate (cap - (n + 1)) 0)).toArray 5)) := fun o1 o2 o3 => by
    have hB : Below w.heap.size w ((((w.alloc o1).alloc o2).alloc o3).alloc (.cells #[.int .u8 0] 5)) := ((((Below.refl w.heap.size w).alloc (Nat.le_refl _) _).alloc (by simp) _).alloc (by simp; omega) _).alloc (by simp; omega) _
    have h := run_append_grow (P := Tryd.prog) ((((w.alloc o1).alloc o2).alloc o3).alloc (.cells #[.int .u8 0] 5)) 22 22 5 i0 (.int .u8 0) Tryd.underlying22 hi0 hz0 ⟨g, 0, none⟩ n n (u8i l) (by rw [hs1]; simp [u8i, hn]) (fun j v hj => olds _ j v hB hj)
      ⟨w.heap.size + 1 + 1 + 1, 0, none⟩ 1 1 [.int .u8 0] (by rw [hs1]; rfl) (fun j v hj => by
        have hj0 : j = 0 := by have := (List.getElem?_eq_some_iff.1 hj).1; simp at this; exact this
        subst hj0
        simp at hj
        subst hj
        rw [add_plain]
        have := al_eq (W := ((w.alloc o1).alloc o2).alloc o3) (o := .cells #[.int .u8 0] 5) (i := w.heap.size + 1 + 1 + 1) (by simp)
        simp only [World.cell?, this]
        rfl) (by omega) (by omega) (by rw [hb1]; have := nextslicecap_le (need := n + 1) (old := n) (by omega); omega)
    refine ⟨grownCap ((((w.alloc o1).alloc o2).alloc o3).alloc (.cells #[.int .u8 0] 5)) (n + 1) n 5, grownCap_ge _ _ _ _, grownCap_le_maxLen _ _ _ _ (by have : maxLen = 9223372036854775807 := rfl; omega), ?_⟩
    rw [h, zero_cells]
    congr 2
    · simp
    · congr 1
      apply Array.ext'
      simp [u8i]
  have HG := Aside0.mk hg
  have HN := Aside0.mk hn
  have hn0 : ¬ n = 0 := by omega
  have hnb : ((n : Int) == 0) = false := by simp [hn0]
  obtain ⟨cap, hc1, hc2, happ⟩ := happ (.cells #[Value.slice (some ⟨g, 0, none⟩) n n] 22) (.cells #[.slice (some ⟨g, 0, none⟩) n n, .int .i64 0, .int .i64 0, .nilIface, .nilFunc] 87) (.cells #[.int .i64 (n : Int)] 3)
  have HAPP := Aside0.mk happ
  clear happ olds hi0 hz0 hs1 hb1 hg hn hcl hcm
  go_enter Tryd.func29, Tryd.ntmps29
  go_wp2_with (at_builtin; refine append_event rfl (.tmp 41) (.tmp 42) 22 rfl rfl rfl HAPP.out ?_)
  go_ret
  refine ⟨w.heap.size + 1, rfl, ⟨w.heap.size + 1 + 1 + 1 + 1, cap, .nilFunc, (u8i (l ++ 0 :: List.replicate (cap - (n + 1)) 0)).toArray, (0, 0), ?h1, by omega, by omega, by omega, ?h2, by have := HN.out; omega, hc2, ?h3, ?h4⟩, ?h5⟩
  case h1 =>
    refine (al_lt (by simp <;> omega)).trans ((al_lt (by simp <;> omega)).trans ((al_lt (by simp <;> omega)).trans ((al_eq (by simp)).trans ?_)))
    rw [HN.out]
  case h2 => exact al_eq (by simp)
  case h3 => have := HN.out; simp [u8i]; omega
  case h4 =>
    rw [show u8i (l ++ 0 :: List.replicate (cap - (n + 1)) 0) = u8i (l ++ [0]) ++ u8i (List.replicate (cap - (n + 1)) 0) by simp [u8i], List.toList_toArray, List.take_left' (by simp [u8i])]
  case h5 =>
    exact (((((Below.refl base w).alloc hbase _).alloc (by simp; omega) _).alloc (by simp; omega) _).alloc (by simp; omega) _).alloc (by simp; omega) _ |>.drew
theorem newinput_none (v : Value) (w : World) (base : Nat) (hbase : base ≤ w.heap.size) (hv : ∃ A c, v = .slice A 0 c) :
    Calls Tryd.prog 29 #[v] w fun e w' => ∃ gz, e = .returned (.pointer (some ⟨gz, 0, none⟩)) ∧ InAt w' base gz [] 0 0 ∧ Below base w w' := by
  obtain ⟨A, c, rfl⟩ := hv
  go_enter Tryd.func29, Tryd.ntmps29
  go_wp2
  go_ret
  refine ⟨w.heap.size + 1, rfl, ⟨w.heap.size + 1 + 1 + 1, 1, .nilFunc, (u8i [0]).toArray, (0, 0), ?h1, by omega, by omega, by omega, ?h2, by simp, by have : maxLen = 9223372036854775807 := rfl; omega, by simp [u8i], by simp [u8i]⟩, ?h5⟩
  case h1 => exact (al_lt (by simp <;> omega)).trans ((al_lt (by simp <;> omega)).trans ((al_eq (by simp)).trans rfl))
  case h2 => exact al_eq (by simp)
  case h5 => exact (((((Below.refl base w).alloc hbase _).alloc (by simp; omega) _).alloc (by simp; omega) _).alloc (by simp; omega) _)
theorem InAt.lt {w : World} {base gz : Nat} {dat : List Int} {pos start : Int} (h : InAt w base gz dat pos start) : gz < w.heap.size := by
  obtain ⟨g, cap, rst, cur, fr, h1, _⟩ := h
  exact (Array.getElem?_eq_some_iff.1 h1).1
theorem InAt.below {w w' : World} {base gz : Nat} {dat : List Int} {pos start : Int} (h : InAt w base gz dat pos start) (hb : Below w.heap.size w w') : InAt w' base gz dat pos start := by
  obtain ⟨g, cap, rst, cur, fr, h1, h2, h3, h4, h5, h6⟩ := h
  exact ⟨g, cap, rst, cur, fr, by rw [hb.block gz (Array.getElem?_eq_some_iff.1 h1).1]; exact h1, h2, h3, h4, by rw [hb.block g (Array.getElem?_eq_some_iff.1 h5).1]; exact h5, h6⟩
theorem InAt.drew {w : World} {base gz : Nat} {dat : List Int} {pos start : Int} (h : InAt w base gz dat pos start) {nq : Nat} : InAt (w.drewN nq) base gz dat pos start := by
  obtain ⟨g, cap, rst, cur, fr, h1, h2, h3, h4, h5, h6⟩ := h
  exact ⟨g, cap, rst, cur, fr, by simpa using h1, h2, h3, h4, by simpa using h5, h6⟩
/-- What stays: every block but the reader's own. -/
theorem in_set {w : World} {base gz : Nat} {dat : List Int} {pos start : Int} (h : InAt w base gz dat pos start) : ∀ (p s : Int),
    InAt (w.setCell ⟨gz, 1, none⟩ (.int .i64 p)) base gz dat p start ∧ InAt (w.setCell ⟨gz, 2, none⟩ (.int .i64 s)) base gz dat pos s ∧ Below base w (w.setCell ⟨gz, 1, none⟩ (.int .i64 p)) ∧ Below base w (w.setCell ⟨gz, 2, none⟩ (.int .i64 s)) := by
  intro p s
  obtain ⟨g, cap, rst, cur, fr, h1, h2, h3, h4, h5, h6⟩ := h
  have hlt := (Array.getElem?_eq_some_iff.1 h1).1
  refine ⟨⟨g, cap, rst, cur, fr, (heap_setCell_same _ _ _ _ _ _ h1).trans rfl, h2, h3, h4, by rw [sc_ne h4]; exact h5, h6⟩, ⟨g, cap, rst, cur, fr, (heap_setCell_same _ _ _ _ _ _ h1).trans rfl, h2, h3, h4, by rw [sc_ne h4]; exact h5, h6⟩, below_set (Below.refl base w) (by omega) h2, below_set (Below.refl base w) (by omega) h2⟩
theorem in_cells {w : World} {base gz : Nat} {dat : List Int} {pos start : Int} (h : InAt w base gz dat pos start) :
    w.cell? ⟨gz, 1, none⟩ = some (.int .i64 pos) ∧ w.cell? ⟨gz, 2, none⟩ = some (.int .i64 start) ∧ (∀ j, w.frozen? ⟨gz, j, none⟩ = false) ∧
    ∃ g cap, w.cell? ⟨gz, 0, none⟩ = some (.slice (some ⟨g, 0, none⟩) (dat.length + 1) cap) ∧ dat.length + 1 ≤ cap ∧ cap ≤ maxLen ∧ g ≠ gz ∧ base ≤ g ∧ (∀ k (hk : k < dat.length), w.cell? ⟨g, k, none⟩ = some (.int .u8 dat[k])) ∧ w.cell? ⟨g, dat.length, none⟩ = some (.int .u8 0) := by
  obtain ⟨g, cap, rst, cur, fr, h1, h2, h3, h4, h5, h6, h7, h8, h9⟩ := h
  refine ⟨by simp only [World.cell?, h1]; rfl, by simp only [World.cell?, h1]; rfl, fun j => blk_frozen h1 _, g, cap, by simp only [World.cell?, h1]; rfl, h6, h7, h4, h3, fun k hk => ?_, ?_⟩
  · rw [cell_of_row w g _ cur _ fr h5, ← Array.getElem?_toList]
    have : cur.toList[k]? = (u8i (dat ++ [0]))[k]? := by rw [← h9, List.getElem?_take, if_pos (by omega)]
    rw [this]
    simp only [u8i, List.map_append]
    rw [List.getElem?_append_left (by simpa using hk)]
    simp [hk]
  · rw [cell_of_row w g _ cur _ fr h5, ← Array.getElem?_toList]
    have : cur.toList[dat.length]? = (u8i (dat ++ [0]))[dat.length]? := by rw [← h9, List.getElem?_take, if_pos (by omega)]
    rw [this]
    simp [u8i]
theorem in_move (gz base : Nat) (dat : List Int) (pos start d : Int) (w : World) (h : InAt w base gz dat pos start) (hp : -140737488355328 < pos ∧ pos < 140737488355328) (hd : -140737488355328 < d ∧ d < 140737488355328) :
    Calls Tryd.prog 30 #[.pointer (some ⟨gz, 0, none⟩), .int .i64 d] w fun e w' => e = .returned (.tuple #[]) ∧ InAt w' base gz dat (pos + d) start ∧ w' = w.setCell ⟨gz, 1, none⟩ (.int .i64 (pos + d)) := by
  obtain ⟨h1, h2, h3, g, cap, h4, _⟩ := in_cells h
  have h5 := h3 1
  have HS := Aside0.mk (in_set h (pos + d) 0).1
  clear h h3 h4
  go_enter Tryd.func30, Tryd.ntmps30
  go_wp2
  go_end0
  exact ⟨rfl, HS.out, rfl⟩
/-- What a selection that is taken tells. -/
def ShiftPost (gz base p s : Nat) (dat : List Int) (w : World) (e : Ending) (w' : World) : Prop :=
  ∃ A g nq, e = .returned (.slice A (p - s) (p - s)) ∧ (s < p → A = some ⟨g, s, none⟩) ∧ g ≠ gz ∧ (∀ k (hk : k < dat.length), w.cell? ⟨g, k, none⟩ = some (.int .u8 dat[k])) ∧ InAt w' base gz dat p p ∧ w' = (w.drewN nq).setCell ⟨gz, 2, none⟩ (.int .i64 p)
theorem in_shift (gz base p s : Nat) (dat : List Int) (w : World) (h : InAt w base gz dat p s) (hs : s ≤ p) (hp : p ≤ dat.length) (hl : dat.length < 35184372088832) :
    Calls Tryd.prog 32 #[.pointer (some ⟨gz, 0, none⟩)] w (ShiftPost gz base p s dat w) := by
  obtain ⟨h1, h2, h3, g, cap, h4, h5, h6, h7, _, h8, _⟩ := in_cells h
  have h9 := h3 2
  have HS := Aside0.mk (fun nq => (in_set (w := w.drewN nq) (InAt.drew h) 0 p).2.1)
  have H8 := Aside0.mk h8
  have hmx : maxLen = 9223372036854775807 := rfl
  clear h h3 h8
  go_enter Tryd.func32, Tryd.ntmps32
  go_wp2
  have e0 : ((p : Int)).toNat = p := rfl
  have e1 : ((s : Int)).toNat = s := rfl
  rcases Nat.eq_or_lt_of_le hs with hps | hps
  · subst hps
    go_quiet (fail)
    all_goals go_wp2
    all_goals go_ret
    all_goals exact ⟨some ⟨g, 0, none⟩, g, nq, by rw [Nat.sub_self]; rfl, by intro hsp; omega, h7, H8.out, HS.out nq, rfl⟩
  · have hps' : ¬ p = s := by omega
    go_quiet (fail)
    all_goals go_wp2
    all_goals go_ret
    all_goals exact ⟨_, g, nq, rfl, by intro hsp; rfl, h7, H8.out, HS.out nq, rfl⟩
/-- A copy of bytes, and a reader of selections over it. -/
def FreshPost (w : World) (l : List Int) (e : Ending) (w1 : World) : Prop :=
  ∃ v, e = .returned v ∧ Below w.heap.size w w1 ∧ Calls Tryd.prog 29 #[v] w1 fun e w' => ∃ gz, e = .returned (.pointer (some ⟨gz, 0, none⟩)) ∧ InAt w' w.heap.size gz l 0 0 ∧ Below w.heap.size w1 w'
theorem own_fresh (A0 : Option Addr) (c0 : Nat) (l : List Int) (w : World) (hr0 : Kd.C (Kd.int .u8) w A0 l.length l) (hc0 : l.length ≤ c0) (hl : l.length < 35184372088832) :
    Calls Tryd.prog 21 #[.slice A0 l.length c0] w (FreshPost w l) := by
  rcases Nat.eq_zero_or_pos l.length with h0 | hpos
  · refine (impl_own.calls A0 c0 l l w hr0 hc0 (by simp [impl_own.f] <;> omega)).mono ?_
    rintro e w' ⟨v, rfl, hv, hb⟩
    refine ⟨v, rfl, hb, ?_⟩
    obtain ⟨A, c, rfl⟩ := Kd.R_slice hv
    obtain rfl : l = [] := List.eq_nil_of_length_eq_zero h0
    exact newinput_none _ w' w.heap.size hb.size ⟨A, c, rfl⟩
  · refine (own_cells A0 c0 l w hr0 hc0 hpos hl).mono ?_
    rintro e w' ⟨g, cap, rfl, hO, hb⟩
    refine ⟨_, rfl, hb, ?_⟩
    have hle : l.length ≤ cap := by obtain ⟨sp, _, _, _, h, _⟩ := hO; simp at h; omega
    rcases Nat.eq_or_lt_of_le hle with hc | hc
    · subst hc
      exact newinput_full g l.length w.heap.size l w' hO rfl hb.size hl hpos
    · exact newinput_room g cap l.length w.heap.size l w' hO rfl hb.size hl hpos hc
/-- A reader that lies below top, as do its bytes. -/
def InT (w : World) (base top gz : Nat) (dat : List Int) (pos start : Int) : Prop :=
  gz < top ∧ InAt w base gz dat pos start ∧ ∀ g n c, w.cell? ⟨gz, 0, none⟩ = some (.slice (some ⟨g, 0, none⟩) n c) → g < top
theorem infoA : (Tryd.prog.info? 46).map (fun i => (i.zero, i.size, i.bytes)) = some (some (.agg #[(.int .i64 0), (.int .i64 0), (.string ⟨#[]⟩)]), 3, 32) := by kernel_rfl
theorem InT.start {w : World} {base gz : Nat} {dat : List Int} {pos start : Int} (h : InAt w base gz dat pos start) : InT w base w.heap.size gz dat pos start := by
  obtain ⟨g, cap, rst, cur, fr, h1, h2, h3, h4, h5, h6⟩ := id h
  refine ⟨h.lt, h, fun g' n c hc => ?_⟩
  have : w.cell? ⟨gz, 0, none⟩ = some (.slice (some ⟨g, 0, none⟩) (dat.length + 1) cap) := by simp only [World.cell?, h1]; rfl
  rw [this] at hc
  cases hc
  exact (Array.getElem?_eq_some_iff.1 h5).1
theorem InT.keep {w w' : World} {base top gz : Nat} {dat : List Int} {pos start : Int} (h : InT w base top gz dat pos start) (hb : ∀ k, k < top → w'.heap[k]? = w.heap[k]?) : InT w' base top gz dat pos start := by
  obtain ⟨ht, h, hg⟩ := h
  obtain ⟨g, cap, rst, cur, fr, h1, h2, h3, h4, h5, h6⟩ := id h
  have hc : w.cell? ⟨gz, 0, none⟩ = some (.slice (some ⟨g, 0, none⟩) (dat.length + 1) cap) := by simp only [World.cell?, h1]; rfl
  refine ⟨ht, ⟨g, cap, rst, cur, fr, by rw [hb gz ht]; exact h1, h2, h3, h4, by rw [hb g (hg _ _ _ hc)]; exact h5, h6⟩, fun g' n c hc' => hg g' n c ?_⟩
  rw [← hc']
  simp only [World.cell?, hb gz ht]
theorem InT.at {w : World} {base top gz : Nat} {dat : List Int} {pos start : Int} (h : InT w base top gz dat pos start) : InAt w base gz dat pos start := h.2.1
theorem InT.lt {w : World} {base top gz : Nat} {dat : List Int} {pos start : Int} (h : InT w base top gz dat pos start) : gz < top := h.1
theorem InT.below {w w' : World} {base top gz : Nat} {dat : List Int} {pos start : Int} (h : InT w base top gz dat pos start) (hb : Below top w w') : InT w' base top gz dat pos start := h.keep (fun k hk => hb.block k hk)
theorem InT.alloc {w : World} {base top gz : Nat} {dat : List Int} {pos start : Int} (h : InT w base top gz dat pos start) (hs : top ≤ w.heap.size) (o : Obj) : InT (w.alloc o) base top gz dat pos start := h.keep (fun k hk => al_lt (by omega))
theorem InT.drew {w : World} {base top gz : Nat} {dat : List Int} {pos start : Int} (h : InT w base top gz dat pos start) {nq : Nat} : InT (w.drewN nq) base top gz dat pos start := h.keep (fun k hk => by simp)
theorem InT.set {w : World} {base top gz : Nat} {dat : List Int} {pos start : Int} (h : InT w base top gz dat pos start) (p s : Int) {j : Nat} (hj : j ≠ 0) {v : Value} (hi : InAt (w.setCell ⟨gz, j, none⟩ v) base gz dat p s) : InT (w.setCell ⟨gz, j, none⟩ v) base top gz dat p s := by
  refine ⟨h.1, hi, fun g n c hc => h.2.2 g n c ?_⟩
  rw [← hc]
  exact (World.cell?_setCell_other _ _ _ _ (by intro he; injection he with _ h2 _; exact hj h2)).symm
theorem add_at (g s j : Nat) : (⟨g, s, none⟩ : Addr).add j = ⟨g, s + j, none⟩ := by simp [Addr.add]
theorem wr1 {k n : Nat} (h : k < n) (hn : n < 1000000) : wrap64 ((k : Int) + 1) = ((k + 1 : Nat) : Int) := by unfold wrap64; omega
theorem meas1 {k n : Nat} (h : k < n) (hn : n < 1000000) : n - (intOf (.int .i64 (wrap64 ((k : Int) + 1)))).toNat < n - (intOf (.int .i64 (k : Int))).toNat := by
  rw [wr1 h hn]
  simp only [intOf, Int.toNat_natCast]
  omega
theorem add_toNat {p : Nat} {f : Int} (h : 0 ≤ f) : (p : Int) + f = ((p + f.toNat : Nat) : Int) := by omega
theorem go_bounds {p n : Nat} {f : Int} (h : 0 ≤ f) (h2 : p + f.toNat ≤ n) (h3 : n < 35184372088832) : (-140737488355328 < (p : Int) ∧ (p : Int) < 140737488355328) ∧ (-140737488355328 < f ∧ f < 140737488355328) := by omega
theorem len_bound {k n m : Nat} (h : k < n) (hn : n < 1000000) (hm : m = k) : (m + 1) * 32 ≤ 140737488355328 := by omega
theorem reads_cut {w5 : World} {A : Option Addr} {g p s : Nat} {dat : List Int} (ha : s < p → A = some ⟨g, s, none⟩) (hc : ∀ k (hk : k < dat.length), w5.cell? ⟨g, k, none⟩ = some (.int .u8 dat[k])) (h1 : s ≤ p) (h2 : p ≤ dat.length) (h3 : dat.length < 35184372088832) : ReadsInt w5 .u8 A (p - s) ((dat.drop s).take (p - s)) := by
  refine ⟨by simp; omega, by omega, fun hpos => ⟨_, ha (by omega), fun j hj => ?_⟩⟩
  rw [add_at]
  refine (hc (s + j) (by omega)).trans ?_
  simp [List.getD_eq_getElem?_getD, hj]
  rw [List.getElem?_eq_getElem (by omega)]
  rfl

theorem lx_rewind (gz base : Nat) (dat : List Int) (pos start d : Int) (w : World) (h : InAt w base gz dat pos start) (hp : -140737488355328 < start ∧ start < 140737488355328) (hd : -140737488355328 < d ∧ d < 140737488355328) :
    Calls Tryd.prog 31 #[.pointer (some ⟨gz, 0, none⟩), .int .i64 d] w fun e w' => e = .returned (.tuple #[]) ∧ InAt w' base gz dat (start + d) start ∧ w' = w.setCell ⟨gz, 1, none⟩ (.int .i64 (start + d)) := by
  obtain ⟨h1, h2, h3, g, cap, h4, _⟩ := in_cells h
  have h5 := h3 1
  have HS := Aside0.mk (in_set h (start + d) 0).1
  clear h h3 h4
  go_enter Tryd.func31, Tryd.ntmps31
  go_wp2
  go_end0
  exact ⟨rfl, HS.out, rfl⟩
theorem lx_skip (gz base : Nat) (dat : List Int) (pos start : Int) (w : World) (h : InAt w base gz dat pos start) :
    Calls Tryd.prog 33 #[.pointer (some ⟨gz, 0, none⟩)] w fun e w' => e = .returned (.tuple #[]) ∧ InAt w' base gz dat pos pos ∧ w' = w.setCell ⟨gz, 2, none⟩ (.int .i64 pos) := by
  obtain ⟨h1, h2, h3, g, cap, h4, _⟩ := in_cells h
  have h5 := h3 2
  have HS := Aside0.mk (in_set h 0 pos).2.1
  clear h h3 h4
  go_enter Tryd.func33, Tryd.ntmps33
  go_wp2
  go_end0
  exact ⟨rfl, HS.out, rfl⟩
theorem lx_pos (gz base : Nat) (dat : List Int) (pos start : Int) (w : World) (h : InAt w base gz dat pos start) (hp : -140737488355328 < pos ∧ pos < 140737488355328) (hd : -140737488355328 < start ∧ start < 140737488355328) :
    Calls Tryd.prog 38 #[.pointer (some ⟨gz, 0, none⟩)] w fun e w' => e = .returned (.int .i64 (pos - start)) ∧ ∃ nq, w' = w.drewN nq := by
  obtain ⟨h1, h2, h3, g, cap, h4, _⟩ := in_cells h
  clear h h3 h4
  go_enter Tryd.func38, Tryd.ntmps38
  go_wp2
  go_quiet (fail)
  all_goals go_wp2
  all_goals go_ret
  all_goals exact ⟨rfl, nq, rfl⟩
theorem lx_offset (gz base : Nat) (dat : List Int) (pos start : Int) (w : World) (h : InAt w base gz dat pos start) :
    Calls Tryd.prog 39 #[.pointer (some ⟨gz, 0, none⟩)] w fun e w' => e = .returned (.int .i64 pos) ∧ w = w' := by
  obtain ⟨h1, h2, h3, g, cap, h4, _⟩ := in_cells h
  clear h h3 h4
  go_enter Tryd.func39, Tryd.ntmps39
  go_wp2
  go_ret
  exact ⟨rfl, rfl⟩
theorem lx_reset (gz base : Nat) (dat : List Int) (pos start : Int) (w : World) (h : InAt w base gz dat pos start) :
    Calls Tryd.prog 41 #[.pointer (some ⟨gz, 0, none⟩)] w fun e w' => e = .returned (.tuple #[]) ∧ InAt w' base gz dat 0 0 ∧ w' = (w.setCell ⟨gz, 2, none⟩ (.int .i64 0)).setCell ⟨gz, 1, none⟩ (.int .i64 0) := by
  obtain ⟨h1, h2, h3, g, cap, h4, _⟩ := in_cells h
  have h5 := h3 1
  have h6 := h3 2
  have HS := Aside0.mk (in_set (in_set h 0 0).2.1 0 0).1
  clear h h3 h4
  go_enter Tryd.func41, Tryd.ntmps41
  go_wp2
  go_end0
  exact ⟨rfl, HS.out, rfl⟩
/-- The byte at a place, a 0 behind the last one. -/
def atL (dat : List Int) (q : Nat) : Int := (dat ++ [0]).getD q 0
theorem atL_cell {w : World} {g : Nat} {dat : List Int} (h8 : ∀ k (hk : k < dat.length), w.cell? ⟨g, k, none⟩ = some (.int .u8 dat[k])) (h9 : w.cell? ⟨g, dat.length, none⟩ = some (.int .u8 0)) {q : Nat} (hq : q ≤ dat.length) : w.cell? ⟨g, q, none⟩ = some (.int .u8 (atL dat q)) := by
  unfold atL
  rcases Nat.eq_or_lt_of_le hq with rfl | hq
  · rw [h9]
    simp
  · rw [h8 q hq, List.getD_eq_getElem?_getD, List.getElem?_append_left hq, List.getElem?_eq_getElem hq]
    rfl
theorem lx_peek (gz base : Nat) (dat : List Int) (pos start d : Int) (w : World) (h : InAt w base gz dat pos start) (hp : -140737488355328 < pos ∧ pos < 140737488355328) (hd : -140737488355328 < d ∧ d < 140737488355328) (h0 : 0 ≤ d + pos) (h1 : d + pos ≤ dat.length) :
    Calls Tryd.prog 34 #[.pointer (some ⟨gz, 0, none⟩), .int .i64 d] w fun e w' => e = .returned (.int .u8 (atL dat (d + pos).toNat)) ∧ w = w' := by
  obtain ⟨k1, k2, k3, g, cap, k4, k5, k6, k7, _, k8, k9⟩ := in_cells h
  have hcell := atL_cell k8 k9 (q := (d + pos).toNat) (by omega)
  have hlt : d + pos < ((dat.length + 1 : Nat) : Int) := by omega
  have hmx : maxLen = 9223372036854775807 := rfl
  clear h k3 k8 k9 k2
  generalize atL dat (d + pos).toNat = v at hcell ⊢
  generalize dat.length + 1 = n at *
  go_enter Tryd.func34, Tryd.ntmps34
  go_wp2
  go_ret
  exact ⟨rfl, rfl⟩
/-- What tells the end. -/
def endL (b : Bool) (u : TypeId) (ev : Value) : Value := if b = true then .iface u ev else .nilIface
theorem in_cell3 {w : World} {base gz : Nat} {dat : List Int} {pos start : Int} (h : InAt w base gz dat pos start) : w.cell? ⟨gz, 3, none⟩ = some .nilIface := by
  obtain ⟨g, cap, rst, cur, fr, h1, _⟩ := h
  simp only [World.cell?, h1]; rfl
def ErrPostL (b : Bool) (u : TypeId) (ev : Value) (w : World) (e : Ending) (w' : World) : Prop :=
  e = .returned (endL b u ev) ∧ ∃ nq, w' = w.drewN nq
theorem lx_peekerr (gz base : Nat) (dat : List Int) (pos start d : Int) (w : World) (u : TypeId) (ev : Value) (hE : w.cell? ⟨0, 0, none⟩ = some (.iface u ev)) (h : InAt w base gz dat pos start) (hl : dat.length < 35184372088832) (hp : -140737488355328 < pos ∧ pos < 140737488355328) (hd : -140737488355328 < d ∧ d < 140737488355328) :
    Calls Tryd.prog 36 #[.pointer (some ⟨gz, 0, none⟩), .int .i64 d] w (ErrPostL (decide ((dat.length : Int) ≤ pos + d)) u ev w) := by
  obtain ⟨h1, h2, h3, g, cap, h4, h5, h6, h7, _, h8, _⟩ := in_cells h
  have h9 := in_cell3 h
  clear h h3 h8 h2
  generalize hn : dat.length = n at *
  have e1 : wrap64 (((n + 1 : Nat) : Int) - 1) = (n : Int) := by unfold wrap64; omega
  have e2 : IntKind.i64.wrap (((n + 1 : Nat) : Int) - 1) = (n : Int) := by rw [← i64_w] at e1; exact e1
  have e3 : wrap64 ((n : Int) + 1 - 1) = (n : Int) := by unfold wrap64; omega
  have e4 : IntKind.i64.wrap ((n : Int) + 1 - 1) = (n : Int) := by rw [← i64_w] at e3; exact e3
  have e5 : wrap64 (pos + d) = pos + d := by unfold wrap64; omega
  have e6 : IntKind.i64.wrap (pos + d) = pos + d := by rw [← i64_w] at e5; exact e5
  have HN := Aside0.mk hn
  clear hn
  by_cases hc : (n : Int) ≤ pos + d
  · have hb : decide ((n : Int) ≤ pos + d) = true := decide_eq_true hc
    rw [hb]
    go_enter Tryd.func36, Tryd.ntmps36
    go_wp2
    go_quiet (fail)
    all_goals go_wp2
    all_goals go_ret
    all_goals exact ⟨rfl, nq, rfl⟩
  · have hb : decide ((n : Int) ≤ pos + d) = false := decide_eq_false hc
    rw [hb]
    go_enter Tryd.func36, Tryd.ntmps36
    go_wp2
    go_quiet (fail)
    all_goals go_wp2
    all_goals go_ret
    all_goals exact ⟨rfl, nq, rfl⟩
/-- What a selection that is told tells. -/
def LexPost (gz base p s : Nat) (dat : List Int) (w : World) (e : Ending) (w' : World) : Prop :=
  ∃ A g nq, e = .returned (.slice A (p - s) (p - s)) ∧ (s < p → A = some ⟨g, s, none⟩) ∧ (∀ k (hk : k < dat.length), w.cell? ⟨g, k, none⟩ = some (.int .u8 dat[k])) ∧ w' = w.drewN nq
theorem lx_lexeme (gz base p s : Nat) (dat : List Int) (w : World) (h : InAt w base gz dat p s) (hs : s ≤ p) (hp : p ≤ dat.length) (hl : dat.length < 35184372088832) :
    Calls Tryd.prog 37 #[.pointer (some ⟨gz, 0, none⟩)] w (LexPost gz base p s dat w) := by
  obtain ⟨h1, h2, h3, g, cap, h4, h5, h6, h7, _, h8, _⟩ := in_cells h
  have H8 := Aside0.mk h8
  have hmx : maxLen = 9223372036854775807 := rfl
  clear h h3 h8
  go_enter Tryd.func37, Tryd.ntmps37
  go_wp2
  have e0 : ((p : Int)).toNat = p := rfl
  have e1 : ((s : Int)).toNat = s := rfl
  rcases Nat.eq_or_lt_of_le hs with hps | hps
  · subst hps
    go_quiet (fail)
    all_goals go_wp2
    all_goals go_ret
    all_goals exact ⟨some ⟨g, 0, none⟩, g, nq, by rw [Nat.sub_self]; rfl, by intro hsp; omega, H8.out, rfl⟩
  · have hps' : ¬ p = s := by omega
    go_quiet (fail)
    all_goals go_wp2
    all_goals go_ret
    all_goals exact ⟨_, g, nq, rfl, by intro hsp; rfl, H8.out, rfl⟩
end Go.Proofs.YtgpmmmlmaaiobaaDoor.Own
