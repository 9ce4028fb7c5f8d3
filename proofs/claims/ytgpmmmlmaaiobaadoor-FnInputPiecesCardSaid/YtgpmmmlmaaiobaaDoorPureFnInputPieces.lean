/- FnInputPieces, its pure statement: selections that are taken one behind the other are the bytes, cut. For all byte lists and sizes. -/
import Derived.Test.YtgpmmmlmaaiobaaDoorAid
import Derived.Test.YtgpmmmlmaaiobaaDoorPFnInputPiecesx0
import Derived.Test.YtgpmmmlmaaiobaaDoorPFnInputPiecesx1
namespace Go.Proofs.YtgpmmmlmaaiobaaDoor.Pure
open Go.RowKit Go.Proofs.YtgpmmmlmaaiobaaDoor.PFnInputPieces Go.Proofs.YtgpmmmlmaaiobaaDoorW.PrintWords Go.Proofs.YtgpmmmlmaaiobaaDoorW.PrintLast Go.Proofs.YtgpmmmlmaaiobaaDoor.Aid
set_option linter.unusedVariables false
set_option linter.unusedSimpArgs false

theorem few_loop (ls : List (List Int)) (hl : ls.length ≤ 1000) : ∀ (n i : Nat), i + n = ls.length →
    Ev (fun k => laws_fewBytes.l0 k ls (ls.length : Int) (i : Int)) ((ls.drop i).all fun l => decide (l.length ≤ 300))
  | 0, i, hi => by
    refine Ev.step (fun _ => laws_fewBytes.l0.eq_2 ..) (EvNeg (by omega) ?_)
    rw [List.drop_of_length_le (by omega)]
    exact Ev.now _
  | n + 1, i, hi => by
    have hlt : i < ls.length := by omega
    have e : rd_L1 ls (i : Int) = ls[i] := by unfold rd_L1; simp [List.getD_eq_getElem?_getD, List.getElem?_eq_getElem hlt]
    refine Ev.step (fun _ => laws_fewBytes.l0.eq_2 ..) (EvPos (by omega) (EvPos (by omega) (EvPos (by omega) ?_)))
    rw [e, wn hlt (by omega), drop_cons hlt, List.all_cons]
    refine EvIte (fun h => ?_) (fun h => ?_)
    · rw [decide_eq_false (by omega), Bool.false_and]
      exact Ev.now _
    · rw [decide_eq_true (by omega), Bool.true_and]
      exact few_loop ls hl n (i + 1) (by omega)
theorem few_ev (ls : List (List Int)) (hl : ls.length ≤ 1000) : Ev (fun k => laws_fewBytes.f k ls) (ls.all fun l => decide (l.length ≤ 300)) := by
  have := few_loop ls hl ls.length 0 (by omega)
  unfold laws_fewBytes.f
  simpa using this

def sumN (ns : List Int) : Nat := (ns.map Int.toNat).sum
def stepsOf (ns : List Int) : List Own.S44 := ns.flatMap fun n => [(⟨0, n⟩ : Own.S44), ⟨2, 0⟩]
def pieces (dat : List Int) : List Int → Nat → List Own.S46
  | [], _ => []
  | n :: t, a => ⟨0, 0, strOfNums []⟩ :: ⟨0, 0, strOfNums ((dat.drop a).take (a + n.toNat - a))⟩ :: pieces dat t (a + n.toNat)
theorem run_pieces (dat : List Int) : ∀ (ns : List Int) (a : Nat), (∀ n ∈ ns, 0 ≤ n) → a + sumN ns ≤ dat.length → Own.runI dat (stepsOf ns) a a = some (pieces dat ns a)
  | [], a, _, _ => rfl
  | n :: t, a, h, hs => by
    have e : stepsOf (n :: t) = ⟨0, n⟩ :: ⟨2, 0⟩ :: stepsOf t := by simp [stepsOf]
    have hsum : sumN (n :: t) = n.toNat + sumN t := by simp [sumN]
    have ih := run_pieces dat t (a + n.toNat) (fun m hm => h m (List.mem_cons_of_mem _ hm)) (by omega)
    rw [e]
    unfold Own.runI
    rw [if_pos ⟨rfl, h n List.mem_cons_self, by show a + n.toNat ≤ _; omega⟩]
    unfold Own.runI
    rw [if_neg (by intro hh; exact absurd hh.1 (by decide)), if_pos rfl, ih]
    rfl
theorem pieces_len (dat : List Int) : ∀ (ns : List Int) (a : Nat), (pieces dat ns a).length = 2 * ns.length
  | [], _ => rfl
  | n :: t, a => by simp only [pieces, List.length_cons, pieces_len dat t]; omega
theorem steps_len : ∀ ns : List Int, (stepsOf ns).length = 2 * ns.length
  | [] => rfl
  | n :: t => by
    have e : stepsOf (n :: t) = ⟨0, n⟩ :: ⟨2, 0⟩ :: stepsOf t := by simp [stepsOf]
    rw [e, List.length_cons, List.length_cons, steps_len t, List.length_cons]; omega
theorem pieces_at (dat : List Int) : ∀ (ns : List Int) (a j : Nat) (h : j < ns.length), (pieces dat ns a).getD (2 * j + 1) Own.z46 = ⟨0, 0, strOfNums ((dat.drop (a + sumN (ns.take j))).take ns[j].toNat)⟩
  | [], _, _, h => absurd h (by simp)
  | n :: t, a, 0, _ => by simp [pieces, sumN, Nat.add_sub_cancel_left]
  | n :: t, a, j + 1, h => by
    have ih := pieces_at dat t (a + n.toNat) j (by simpa using h)
    have hi : 2 * (j + 1) + 1 = (2 * j + 1) + 1 + 1 := by omega
    rw [hi]
    simp only [pieces, List.getD_cons_succ, List.getElem_cons_succ]
    rw [ih]
    simp [sumN, Nat.add_assoc]
theorem sum_succ {l : List Int} {j : Nat} (h : j < l.length) : sumN (l.take (j + 1)) = sumN (l.take j) + l[j].toNat := by
  unfold sumN
  rw [← List.take_append_getElem h, List.map_append, List.sum_append]
  simp only [List.map_cons, List.map_nil, List.sum_cons, List.sum_nil, Nat.add_zero]
theorem steps_succ {l : List Int} {j : Nat} (h : j < l.length) : stepsOf (l.take (j + 1)) = stepsOf (l.take j) ++ [(⟨0, l[j]⟩ : Own.S44), ⟨2, 0⟩] := by
  unfold stepsOf
  rw [← List.take_append_getElem h, List.flatMap_append]
  rfl
theorem sum_le (l : List Int) (j : Nat) : sumN (l.take j) ≤ sumN l := by
  have e : sumN l = sumN (l.take j) + sumN (l.drop j) := by
    unfold sumN
    rw [← List.sum_append, ← List.map_append, List.take_append_drop]
  omega
theorem w2j {j : Nat} (h : j < 1000) : wrap64 (wrap64 (2 * (j : Int)) + 1) = ((2 * j + 1 : Nat) : Int) := by
  rw [w64 (i := 2 * (j : Int)) (by omega) (by omega), w64 (by omega) (by omega)]; omega
theorem wsum {s : Nat} {x : Int} (h : 0 ≤ x) (hs : s + x.toNat ≤ 300) : wrap64 ((s : Int) + x) = ((s + x.toNat : Nat) : Int) := by
  rw [w64 (by omega) (by omega)]; omega
theorem check_loop (x0 l1 : List Int) (hl : x0.length ≤ 300) (h50 : l1.length ≤ 50) (h0 : ∀ n ∈ l1, 0 ≤ n) (hs : sumN l1 ≤ x0.length) : ∀ n j : Nat, j + n = l1.length →
    Ev (fun k => laws_FnInputPieces.l1 k x0 (sumN (l1.take j) : Int) (pieces x0 l1 0) l1 (l1.length : Int) (j : Int)) true
  | 0, j, hj => Ev.step (fun _ => laws_FnInputPieces.l1.eq_2 ..) (EvNeg (by omega) (Ev.now _))
  | n + 1, j, hj => by
    have hlt : j < l1.length := by omega
    have hx := h0 _ (List.getElem_mem hlt)
    have hss := sum_succ hlt
    have hle := sum_le l1 (j + 1)
    have ih := check_loop x0 l1 hl h50 h0 hs n (j + 1) (by omega)
    have hp := pieces_at x0 l1 0 j hlt
    have hpl := pieces_len x0 l1 0
    refine Ev.step (fun _ => laws_FnInputPieces.l1.eq_2 ..) ?_
    rw [rd_at hlt, w2j (by omega), wsum hx (by omega), wn hlt (by omega), ← hss]
    refine EvPos (by omega) (EvPos (by omega) (EvPos (by omega) (EvPos (by omega) (EvPos (by rw [hpl]; omega) (EvPos (by omega) (EvPos (by omega) (EvPos (by omega) (EvPos ?_ ih))))))))
    unfold Own.rd_T46
    rw [Int.toNat_natCast, Int.toNat_natCast, Int.toNat_natCast, hp, List.drop_take, hss, Nat.add_sub_cancel_left, Nat.zero_add]
theorem build_loop (x0 l1 : List Int) (hl : x0.length ≤ 300) (h50 : l1.length ≤ 50) : ∀ n j : Nat, j + n = l1.length → (∀ x ∈ l1.take j, 0 ≤ x) → sumN (l1.take j) ≤ x0.length →
    Ev (fun k => laws_FnInputPieces.l0 k x0 l1 (stepsOf (l1.take j)) (sumN (l1.take j) : Int) l1 (l1.length : Int) (j : Int)) true
  | 0, j, hj, h0, hs => by
    have e : l1.take j = l1 := List.take_of_length_le (by omega)
    rw [e] at h0 hs ⊢
    have hr : Own.impl_RunInput.f x0 (stepsOf l1) = some (pieces x0 l1 0) := by
      unfold Own.impl_RunInput.f
      rw [if_pos ⟨by omega, by rw [steps_len]; omega⟩]
      exact run_pieces x0 l1 0 h0 (by omega)
    refine Ev.step (fun _ => laws_FnInputPieces.l0.eq_2 ..) (EvNeg (by omega) (EvGet hr (EvPos (by rw [pieces_len, steps_len]) ?_)))
    exact check_loop x0 l1 hl h50 h0 hs l1.length 0 (by omega)
  | n + 1, j, hj, h0, hs => by
    have hlt : j < l1.length := by omega
    have hss := sum_succ hlt
    refine Ev.step (fun _ => laws_FnInputPieces.l0.eq_2 ..) (EvPos (by omega) (EvPos (by omega) (EvPos (by omega) (EvIte (fun _ => Ev.now _) (fun hx => EvIte (fun _ => Ev.now _) (fun hx2 => ?_))))))
    rw [rd_at hlt] at hx hx2 ⊢
    rw [w64 (by omega) (by omega)] at hx2
    have ih := build_loop x0 l1 hl h50 n (j + 1) (by omega) (fun x hm => by
      rw [← List.take_append_getElem hlt] at hm
      rcases List.mem_append.1 hm with hm | hm
      · exact h0 x hm
      · obtain rfl := List.mem_singleton.1 hm
        omega) (by omega)
    refine EvGet rfl (EvPos ?_ ?_)
    · have := steps_len (l1.take j)
      have h2 : (l1.take j).length ≤ l1.length := List.length_take_le' ..
      rw [this]; show 2 * _ + 2 < _; omega
    · rw [wsum (by omega) (by omega), wn hlt (by omega), ← hss, ← steps_succ hlt]
      exact ih
theorem FnInputPieces : ∀ l0 : List Int, l0.length ≤ maxLen → (∀ x ∈ l0, (Lit.int .u8 x).wf = true) → ∀ l1 : List Int, l1.length ≤ maxLen → (∀ x ∈ l1, (Lit.int .i64 x).wf = true) → ∃ k, laws_FnInputPieces.f k l0 l1 = some true := by
  intro l0 _ _ l1 _ _
  refine Ev.rounds ?_
  unfold laws_FnInputPieces.f
  have j1 : ∀ q : Bool, (q = false → l0.length ≤ 300 ∧ l1.length ≤ 50) → Ev (fun k => laws_FnInputPieces.j1 k l0 l1 q) true := by
    intro q hq
    refine Ev.step (fun _ => laws_FnInputPieces.j1.eq_2 ..) (EvIte (fun _ => Ev.now _) (fun h => ?_))
    obtain ⟨h1, h2⟩ := hq (by simpa using h)
    exact build_loop l0 l1 h1 h2 l1.length 0 (by omega) (by simp) (by simp [sumN])
  have j0 : ∀ q : Bool, Ev (fun k => laws_FnInputPieces.j0 k l0 l1 q) true := by
    intro q
    refine Ev.step (fun _ => laws_FnInputPieces.j0.eq_2 ..) (EvIte (fun _ => Ev.now _) (fun h => ?_))
    refine Ev.bind (few_ev _ (by simp)) (EvIte (fun hf => j1 _ (fun hq => ⟨by simpa using hf, ?_⟩)) (fun _ => j1 true (by simp)))
    have := of_decide_eq_false hq
    omega
  exact EvIte (fun _ => j0 _) (fun _ => j0 _)

end Go.Proofs.YtgpmmmlmaaiobaaDoor.Pure
