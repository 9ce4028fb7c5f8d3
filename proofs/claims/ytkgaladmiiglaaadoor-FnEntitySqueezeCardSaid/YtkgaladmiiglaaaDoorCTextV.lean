/- A text in a row of one's own that may have been made of a string, and one byte more. -/
import Derived.Test.YtkgaladmiiglaaaDoorProg
import Derived.Below
import Derived.Deep.Draws
import Derived.Deep.AppendLies
import Derived.Maps.AppendAt
import Derived.OwnWalk
import Derived.Laws.BytesArg
import Derived.Laws.MakeOwn
import Derived.Laws.OwnMore
import Derived.Deep.OwnRows
import Derived.Tactics
import Derived.Lib.ConvBytes
import Derived.Laws.Slices
import Derived.WalkKit
import Derived.KernelRfl
import Derived.RowKit3
import Derived.Deep.LoopGhost
import Derived.Deep.QuietTactic
import Derived.BigQuiet
import Derived.WideLaws
import Derived.Deep.DeepCutAuto
import Derived.Deep.CutBlock
import Derived.Deep.RegionHeld3
import Derived.Laws.Rows
import Derived.Lib.AppendStr
import Derived.ArgAppend
import Derived.Laws.IdiomCopy
import Derived.OrdersHeld
import Derived.Laws.BitsLemmas
import Derived.RowKit
import Derived.Test.YtkgaladmiiglaaaDoorOwn
import Derived.Test.YtkgaladmiiglaaaDoorWWords
import Derived.Test.YtkgaladmiiglaaaDoorWLast
import Derived.Test.YtkgaladmiiglaaaDoorWTab
import Derived.Test.YtkgaladmiiglaaaDoorWFour
import Derived.Test.YtkgaladmiiglaaaDoorWQPut
import Derived.Test.YtkgaladmiiglaaaDoorWApart
import Derived.Test.YtkgaladmiiglaaaDoorWArr
import Derived.Test.YtkgaladmiiglaaaDoorWZeros
import Derived.Test.YtkgaladmiiglaaaDoorWFoot
import Derived.Test.YtkgaladmiiglaaaDoorWKept
import Derived.Test.YtkgaladmiiglaaaDoorWShare
import Derived.Test.YtkgaladmiiglaaaDoorWN
import Derived.Test.YtkgaladmiiglaaaDoorWFootNe
import Derived.Test.YtkgaladmiiglaaaDoorWAt
import Derived.Test.YtkgaladmiiglaaaDoorWEqStruct
import Derived.Test.YtkgaladmiiglaaaDoorWRepsOne
import Derived.Test.YtkgaladmiiglaaaDoorWInv
import Derived.Test.YtkgaladmiiglaaaDoorWInvWords
import Derived.Test.YtkgaladmiiglaaaDoorWGuard
import Derived.Test.YtkgaladmiiglaaaDoorWNEv
import Derived.Test.YtkgaladmiiglaaaDoorWMore
import Derived.Maps.Own
import Derived.Maps.Views
import Derived.Maps.StringElems
import Derived.StringKeys
import Derived.WideMake
import Derived.ScopeJumps
import Derived.Lib.HexFns
import Derived.Outline
namespace Go.Proofs.YtkgaladmiiglaaaDoor.Own
open Go.RowKit Go.Proofs.YtkgaladmiiglaaaDoorW.PrintWords Go.Proofs.YtkgaladmiiglaaaDoorW.PrintLast
set_option linter.unusedVariables false
set_option linter.unusedSimpArgs false
def u8i (l : List Int) : List Value := l.map (Value.int .u8)
section
variable {P : Program} {ops : Array Oper} {rest : List Oper} {o : Oper} {a : Act} {Q : Exit → Act → World → Prop}
theorem append_event {W w1 : World} (hgd : o.guard = none) (s x : Operand) (t : TypeId) (ho : o.op = .call { callee := .builtin .append, args := #[s, x], argTypes := #[t, t] }) {vs vx v : Value} (hs : a.eval s = vs) (hx : a.eval x = vx)
    (hr : (Builtin.append_ #[t, t] o.type #[vs, vx]).run P W = .ok v w1) (h : wpList P ops Q rest (a.put o.dst v) w1) : wpList P ops Q (o :: rest) a W := by
  have hrun : (execOp a.eval o).run P W = .ok (.value v) w1 := by
    unfold execOp
    simp only [ho, resolve, invoke, builtin, Sem.run_bind, Sem.run_pure, Result.andThen_ok, List.map_toArray, List.map_cons, List.map_nil, hs, hx, hr]
  exact Kd.event_run hgd hrun h
end
theorem infoIn : (Tryd.prog.info? 5).map (fun i => (i.zero, i.size, i.bytes)) = some (some (.int .u8 0), 1, 1) := by kernel_rfl
theorem zero_cells (k : Nat) : Builtin.zeroCells (Value.int .u8 0).cells k = (u8i (List.replicate k 0)).toArray := by
  apply Array.ext'
  simp only [Builtin.zeroCells, Value.cells, u8i, List.map_replicate, List.toList_toArray]
  rw [List.eq_replicate_iff]
  refine ⟨by simp, fun b hb => ?_⟩
  simp at hb
  first | exact hb.2.symm | exact hb.2 | (obtain ⟨a, _, rfl⟩ := hb; simp [Nat.mod_one])
theorem al_lt {W : World} {o : Obj} {i : Nat} (h : i < W.heap.size) : (W.alloc o).heap[i]? = W.heap[i]? := (below_alloc (Below.refl W.heap.size W) o).block i h
theorem al_eq {W : World} {o : Obj} {i : Nat} (h : i = W.heap.size) : (W.alloc o).heap[i]? = some o := by subst h; exact heap_alloc_new W o
theorem sc_mark {w : World} {g i : Nat} {cs : Array Value} {t : TypeId} {fr : Nat × Nat} {v : Value} (hb : w.heap[g]? = some (.cells cs t fr)) : (w.setCell ⟨g, i, none⟩ v).heap[g]? = some (.cells (cs.setIfInBounds i v) t fr) := by
  simp [World.setCell, Array.getElem?_modify, hb]
theorem below_set {base : Nat} {w W : World} (h : Below base w W) (hs : base ≤ W.heap.size) {g j : Nat} {v : Value} (hg : base ≤ g) : Below base w (W.setCell ⟨g, j, none⟩ v) :=
  h.grown (Go.Lib.Hx.grownBy_set (Go.Lib.Hx.grownBy_refl W (some g)) _ rfl _) hs (fun k hk => by obtain rfl := Option.some.inj hk; exact hg)
def TextV (w : World) (base g cap : Nat) (l : List Int) : Prop :=
  ∃ (cur : Array Value) (fr : Nat × Nat), base ≤ g ∧ w.heap[g]? = some (.cells cur 5 fr) ∧ l.length ≤ cap ∧ cap ≤ maxLen ∧ cur.size = cap ∧ cur.toList.take l.length = u8i l ∧ ∀ j, j < cap → ¬ (fr.1 ≤ j ∧ j < fr.2)
theorem TextV.drew {w : World} {base g cap : Nat} {l : List Int} (h : TextV w base g cap l) (k : Nat) : TextV (w.drewN k) base g cap l := by
  obtain ⟨cur, fr, h1, h2, h3⟩ := h
  exact ⟨cur, fr, h1, by simpa using h2, h3⟩
theorem TextV.alloc {w : World} {base g cap : Nat} {l : List Int} (h : TextV w base g cap l) (o : Obj) : TextV (w.alloc o) base g cap l := by
  obtain ⟨cur, fr, h1, h2, h3⟩ := h
  exact ⟨cur, fr, h1, by rw [al_lt (Array.getElem?_eq_some_iff.1 h2).1]; exact h2, h3⟩
theorem TextV.of_R {e : Nat} {w : World} {base g n c : Nat} {xs : List Int} (he : e = 5) (h : Kd.R (Kd.int .u8) e w base (fun _ => True) (.slice (some ⟨g, 0, none⟩) n c) xs) : n = xs.length ∧ TextV w base g c xs := by
  subst he
  have hn := (Kd.R_reads' h).1
  rcases (Kd.own_of_R h).2 with ⟨e, _⟩ | ⟨g', cap', cur, e, hb, hg, h1, h2, h3, h4⟩
  · cases e
  · cases e
    rw [← hn] at *
    exact ⟨rfl, cur, (0, 0), hb, hg, by rw [hn] at h1; exact h1, h2, by simpa using h3, by rw [← hn]; simpa [encs, u8i] using h4, fun j _ hj => by simp at hj⟩
theorem TextV.cell {w : World} {base g cap : Nat} {l : List Int} (h : TextV w base g cap l) {j : Nat} {v : Value} (hj : (u8i l)[j]? = some v) : w.cell? ⟨g, j, none⟩ = some v := by
  obtain ⟨cur, fr, h1, h2, h3, h4, h5, h6, h7⟩ := h
  have hlt : j < l.length := by have := (List.getElem?_eq_some_iff.1 hj).1; simpa [u8i] using this
  rw [cell_of_row w g j cur _ fr h2, ← Array.getElem?_toList, ← hj, ← h6, List.getElem?_take, if_pos hlt]
theorem TextV.C {w : World} {base g cap : Nat} {l : List Int} (h : TextV w base g cap l) : Kd.C (Kd.int .u8) w (some ⟨g, 0, none⟩) l.length l := by
  have h0 := h
  obtain ⟨cur, fr, h1, h2, h3, h4, h5, h6, h7⟩ := h
  refine Kd.C_of_reads (d := (0 : Int)) (h1 := fun _ => rfl) ⟨rfl, by have : maxLen = 9223372036854775807 := rfl; omega, fun _ => ⟨_, rfl, fun j hj => ?_⟩⟩
  rw [add_plain, h0.cell (v := .int .u8 l[j]) (by simp [u8i, hj])]
  simp [List.getD_eq_getElem?_getD, hj]
theorem text_app {w : World} {base g cap : Nat} {l : List Int} (h : TextV w base g cap l) (hbase : base ≤ w.heap.size) (hl : l.length < 35184372088832) (b : Int) :
    ∃ g' cap' w1, (Builtin.append_ #[22, 22] 22 #[.slice (some ⟨g, 0, none⟩) l.length cap, .slice (some ⟨w.heap.size, 0, none⟩) 1 1]).run Tryd.prog (w.alloc (.cells #[.int .u8 b] 5)) = .ok (.slice (some ⟨g', 0, none⟩) (l.length + 1) cap') w1 ∧
      TextV w1 base g' cap' (l ++ [b]) ∧ Below base w w1 := by
  have hA := h.alloc (.cells #[.int .u8 b] 5)
  obtain ⟨i0, hi0, hz0, hs1, hb1⟩ := info_parts infoIn
  have hnew : ∀ j v, ([.int .u8 b] : List Value)[j]? = some v → (w.alloc (.cells #[.int .u8 b] 5)).cell? ((⟨w.heap.size, 0, none⟩ : Addr).add j) = some v := by
    intro j v hj
    have hj0 : j = 0 := by have := (List.getElem?_eq_some_iff.1 hj).1; simp at this; exact this
    subst hj0
    simp at hj
    subst hj
    rw [add_plain]
    have := al_eq (W := w) (o := .cells #[.int .u8 b] 5) (i := w.heap.size) rfl
    simp only [World.cell?, this]
    rfl
  have hB1 : Below base w (w.alloc (.cells #[.int .u8 b] 5)) := (Below.refl base w).alloc hbase _
  have hsz : (w.alloc (.cells #[.int .u8 b] 5)).heap.size = w.heap.size + 1 := by simp
  by_cases hroom : l.length + 1 ≤ cap
  · obtain ⟨cur, fr, h1, h2, h3, h4, h5, h6, h7⟩ := hA
    have hrun := run_append_room_cells (P := Tryd.prog) (w := w.alloc (.cells #[.int .u8 b] 5)) 22 22 5 i0 Tryd.underlying22 hi0 g 0 l.length cap ⟨w.heap.size, 0, none⟩ 1 1 [.int .u8 b] (by rw [hs1]; rfl) hnew (by simp [Value.oneCell']) hroom
      (fun j hj => by
        have hj0 : j = 0 := by simpa using hj
        subst hj0
        rw [hs1, cell_of_row _ g _ cur _ fr h2]
        simp
        omega)
      (fun j hj => by
        have hj0 : j = 0 := by simpa using hj
        subst hj0
        rw [hs1]
        have := h7 l.length (by omega)
        simp only [World.frozen?, h2]
        simp only [Nat.zero_add, Nat.mul_one, Nat.add_zero]
        simpa using this)
    rw [hs1] at hrun
    simp only [Nat.zero_add, Nat.mul_one] at hrun
    refine ⟨g, cap, _, hrun, ⟨cur.setIfInBounds l.length (.int .u8 b), fr, h1, ?_, by simpa using hroom, h4, by simpa using h5, ?_, h7⟩, ?_⟩
    · exact sc_mark h2
    · rw [List.length_append, List.length_singleton, Array.toList_setIfInBounds]
      have hc : cur.toList.length = cap := by simpa using h5
      apply List.ext_getElem?
      intro q
      rw [List.getElem?_take]
      have hu : u8i (l ++ [b]) = u8i l ++ [.int .u8 b] := by simp [u8i]
      rw [hu, ← h6]
      by_cases hq : q < l.length
      · rw [if_pos (by omega), List.getElem?_set, if_neg (by omega), List.getElem?_append_left (by simp; omega), List.getElem?_take, if_pos hq]
      · by_cases hq1 : q = l.length
        · subst hq1
          rw [if_pos (by omega), List.getElem?_set, if_pos rfl, if_pos (by omega), List.getElem?_append_right (by simp; omega)]
          simp [show min l.length cur.size = l.length by omega]
        · rw [if_neg (by omega), List.getElem?_eq_none (by simp; omega)]
    · exact below_set hB1 (by omega) h1
  · have h2 : l.length = cap := by
      obtain ⟨cur, fr, h1, h2, h3, h4, h5, h6, h7⟩ := hA
      omega
    have hrun := run_append_grow (P := Tryd.prog) (w.alloc (.cells #[.int .u8 b] 5)) 22 22 5 i0 (.int .u8 0) Tryd.underlying22 hi0 hz0 ⟨g, 0, none⟩ l.length cap (u8i l) (by rw [hs1]; simp [u8i]) (fun j v hj => by rw [add_plain]; exact hA.cell hj)
      ⟨w.heap.size, 0, none⟩ 1 1 [.int .u8 b] (by rw [hs1]; rfl) hnew (by omega) (by omega) (by rw [hb1]; have := nextslicecap_le (need := l.length + 1) (old := cap) (by omega); omega)
    obtain ⟨cap', hcap⟩ : ∃ c, c = grownCap (w.alloc (.cells #[.int .u8 b] 5)) (l.length + 1) cap 5 := ⟨_, rfl⟩
    have hge : l.length + 1 ≤ cap' := by rw [hcap]; exact grownCap_ge _ _ _ _
    have hle : cap' ≤ maxLen := by rw [hcap]; exact grownCap_le_maxLen _ _ _ _ (by have : maxLen = 9223372036854775807 := rfl; omega)
    rw [← hcap, zero_cells] at hrun
    refine ⟨_, cap', _, hrun, ⟨_, (0, 0), by rw [hsz]; omega, al_eq (by simp), by simpa using hge, hle, ?_, ?_, fun j _ hj => by simp at hj⟩, ?_⟩
    · simp [u8i]
      omega
    · rw [show (l ++ [b]).length = (u8i l ++ [Value.int .u8 b]).length by simp [u8i]]
      simp only [Array.toList_append, List.toList_toArray]
      rw [List.take_left' rfl]
      simp [u8i]
    · exact hB1.drew.alloc (by simp; omega) _
theorem text_app' {w : World} {base g cap n : Nat} {l : List Int} (h : TextV w base g cap l) (hn : n = l.length) (hbase : base ≤ w.heap.size) (hl : l.length < 35184372088832) (b : Int) :
    ∃ g' cap' w1, (Builtin.append_ #[22, 22] 22 #[.slice (some ⟨g, 0, none⟩) n cap, .slice (some ⟨w.heap.size, 0, none⟩) 1 1]).run Tryd.prog (w.alloc (.cells #[.int .u8 b] 5)) = .ok (.slice (some ⟨g', 0, none⟩) (n + 1) cap') w1 ∧
      TextV w1 base g' cap' (l ++ [b]) ∧ n + 1 = (l ++ [b]).length ∧ Below base w w1 := by
  subst hn
  obtain ⟨g', cap', w1, h1, h2, h3⟩ := text_app h hbase hl b
  exact ⟨g', cap', w1, h1, h2, by simp, h3⟩
theorem TextV.len {w : World} {base g cap : Nat} {l : List Int} (h : TextV w base g cap l) : l.length ≤ cap := by
  obtain ⟨cur, fr, h1, h2, h3, _⟩ := h
  exact h3
theorem TextV.below {w w' : World} {base g cap : Nat} {l : List Int} (h : TextV w base g cap l) (hb : Below w.heap.size w w') : TextV w' base g cap l := by
  obtain ⟨cur, fr, h1, h2, h3⟩ := h
  exact ⟨cur, fr, h1, by rw [hb.block g (Array.getElem?_eq_some_iff.1 h2).1]; exact h2, h3⟩
/-- The bytes of a string. -/
theorem TextV.of_bytes {w : World} {base : Nat} (hbase : base ≤ w.heap.size) (s : ByteArray) (hs : s.size ≤ 140737488355328) :
    (convert 9 22 (.string s)).run Tryd.prog w = .ok (.slice (some ⟨w.heap.size, 0, none⟩) s.size (grownCap w s.size 0 5)) (w.drew.alloc (.cells (bytesRow s (grownCap w s.size 0 5)) 5 ((bytesRow s (grownCap w s.size 0 5)).size, (bytesRow s (grownCap w s.size 0 5)).size + 1))) ∧
    TextV (w.drew.alloc (.cells (bytesRow s (grownCap w s.size 0 5)) 5 ((bytesRow s (grownCap w s.size 0 5)).size, (bytesRow s (grownCap w s.size 0 5)).size + 1))) base w.heap.size (grownCap w s.size 0 5) (numsOf s) := by
  refine ⟨run_bytes_of_string (P := Tryd.prog) w 9 22 5 s Tryd.underlying9 Tryd.underlying22 Tryd.underlying5, ?_⟩
  obtain ⟨cap, hcap⟩ : ∃ c, c = grownCap w s.size 0 5 := ⟨_, rfl⟩
  have hge : s.size ≤ cap := by rw [hcap]; exact grownCap_ge _ _ _ _
  have hle : cap ≤ maxLen := by rw [hcap]; exact grownCap_le_maxLen _ _ _ _ (by have : maxLen = 9223372036854775807 := rfl; omega)
  rw [← hcap]
  have hsz : (bytesRow s cap).size = cap := by (simp [bytesRow]; omega)
  refine ⟨_, _, hbase, al_eq (by simp), by rw [numsOf_length]; exact hge, hle, hsz, ?_, fun j hj h => by simp only [hsz] at h; omega⟩
  rw [numsOf_length]
  unfold bytesRow
  rw [Array.toList_append, List.take_append_of_le_length (by simp)]
  rw [List.take_of_length_le (by simp)]
  simp [u8i, numsOf]
theorem text_bytes {w : World} {base n : Nat} (hbase : base ≤ w.heap.size) (s : ByteArray) (hs : s.size ≤ 140737488355328) (hn : n = s.size) :
    ∃ g cap w1, (convert 9 22 (.string s)).run Tryd.prog w = .ok (.slice (some ⟨g, 0, none⟩) n cap) w1 ∧ TextV w1 base g cap (numsOf s) ∧ n = (numsOf s).length ∧ Below base w w1 ∧ ∀ b g c l, TextV w b g c l → TextV w1 b g c l := by
  subst hn
  obtain ⟨h1, h2⟩ := TextV.of_bytes hbase s hs
  exact ⟨_, _, _, h1, h2, by rw [numsOf_length], (Below.refl base w).drew.alloc (by simpa using hbase) _, fun b g c l h => (h.drew 1).alloc _⟩
theorem row_text {w : World} {b b' : Nat} {v : Value} {xs : List Int} (h : Kd.R (Kd.int .u8) 5 w b' (fun _ => True) v xs) (hb : b ≤ b') (hpos : 0 < xs.length) : ∃ g cap, v = .slice (some ⟨g, 0, none⟩) xs.length cap ∧ TextV w b g cap xs := by
  have h' := Kd.R_lower h hb
  rcases (Kd.own_of_R h).2 with ⟨_, he⟩ | ⟨g, cap, cur, rfl, _⟩
  · omega
  · exact ⟨g, cap, rfl, (TextV.of_R rfl h').2⟩
end Go.Proofs.YtkgaladmiiglaaaDoor.Own
