/- FnUrlTable, its pure statement: both tables tell all bytes that can't be printed, the blank, the percent sign and the number sign, and no letter and no digit. For all bytes. -/
import Derived.Test.YtcghdanppdmfeaaDoorAid
import Derived.Test.YtcghdanppdmfeaaDoorPFnUrlTablex0
import Derived.Test.YtcghdanppdmfeaaDoorPFnUrlTablex1
namespace Go.Proofs.YtcghdanppdmfeaaDoor.Pure
open Go.RowKit Go.Proofs.YtcghdanppdmfeaaDoor.PFnUrlTable Go.Proofs.YtcghdanppdmfeaaDoorW.PrintWords Go.Proofs.YtcghdanppdmfeaaDoorW.PrintLast Go.Proofs.YtcghdanppdmfeaaDoor.Aid
set_option linter.unusedVariables false
set_option linter.unusedSimpArgs false

def lowB (c : Int) : Int := if 65 ≤ c ∧ c ≤ 90 then c + 32 else c
theorem lowB_eq (c : Int) (h0 : 0 ≤ c) (h1 : c ≤ 255) : spec_LowerByte.f c = some (lowB c) := by
  unfold spec_LowerByte.f lowB
  by_cases a : c ≥ 65
  · by_cases b : c ≤ 90
    · rw [if_pos a, if_pos b, if_pos ⟨a, b⟩]
      congr 1
      omega
    · rw [if_pos a, if_neg b, if_neg (by omega)]
  · rw [if_neg a, if_neg (by omega)]

def simB (c : Int) : Bool := (decide (97 ≤ lowB c) && decide (lowB c ≤ 122)) || ((decide (48 ≤ c) && decide (c ≤ 57)) || c == 45)
theorem simple_loop (l : List Int) (hb : Bytes l) (hm : l.length < 140737488355328) : ∀ (n i : Nat), i + n = l.length →
    Ev (fun k => laws_simple.l0 k l (l.length : Int) (i : Int)) ((l.drop i).all simB)
  | 0, i, hi => by
    refine Ev.step (fun _ => laws_simple.l0.eq_2 ..) (EvNeg (by omega) ?_)
    rw [List.drop_of_length_le (by omega)]
    exact Ev.now _
  | n + 1, i, hi => by
    have hlt : i < l.length := by omega
    have hc := hb.at_ hlt
    have ih := simple_loop l hb hm n (i + 1) (by omega)
    refine Ev.step (fun _ => laws_simple.l0.eq_2 ..) (EvPos (by omega) (EvPos (by omega) (EvPos (by omega) ?_)))
    rw [rd_at hlt, wn hlt (by omega)]
    refine EvGet (lowB_eq _ hc.1 hc.2) ?_
    rw [drop_cons hlt, List.all_cons]
    generalize l[i] = c at *
    have yes : simB c = true → Ev (fun k => laws_simple.l0 k l (l.length : Int) ((i + 1 : Nat) : Int)) (simB c && (l.drop (i + 1)).all simB) := fun h => by rw [h, Bool.true_and]; exact ih
    have no : simB c = false → Ev (fun _ => some false) (simB c && (l.drop (i + 1)).all simB) := fun h => by rw [h, Bool.false_and]; exact Ev.now _
    refine EvIte (fun h1 => EvIte (fun h2 => EvIte (fun h3 => yes ?_) (fun h3 => no ?_)) (fun h2 => EvIte (fun h3 => EvIte (fun h4 => yes ?_) (fun h4 => no ?_)) (fun h3 => yes ?_)))
      (fun h1 => EvIte (fun h5 => EvIte (fun h2 => EvIte (fun h3 => yes ?_) (fun h3 => no ?_)) (fun h2 => EvIte (fun h3 => EvIte (fun h4 => yes ?_) (fun h4 => no ?_)) (fun h3 => yes ?_))) (fun h5 => yes ?_))
    all_goals (unfold simB; simp; omega)
theorem simple_ev (l : List Int) (hb : Bytes l) (hm : l.length < 140737488355328) : Ev (fun k => laws_simple.f k l) (l.all simB) := by
  have := simple_loop l hb hm l.length 0 (by omega)
  unfold laws_simple.f
  simpa using this

theorem table_nat : ∀ n : Nat, n < 256 → (((n ≤ 32 ∨ n ≥ 127 ∨ n = 37 ∨ n = 35) → Own.isD n = true ∧ Own.isU n = true) ∧ (([(n : Int)] : List Int).all simB = true → Own.isD n = false ∧ Own.isU n = false)) := by decide +kernel
theorem escaped_eq {c : Int} (t : Int) (h0 : 0 ≤ c) (h1 : c ≤ 255) : Own.impl_Escaped.f c t = some (if t = 1 then Own.isD c.toNat else Own.isU c.toNat) := by
  unfold Own.impl_Escaped.f
  rw [if_pos ⟨h0, by omega⟩]
theorem FnUrlTable : laws_FnUrlTable.Pure := by
  intro c t hc ht
  obtain ⟨h0, h1⟩ := u8_of hc
  obtain ⟨n, rfl⟩ := Int.eq_ofNat_of_zero_le h0
  have hn : n < 256 := by omega
  obtain ⟨hT1, hT2⟩ := table_nat n hn
  refine Ev.rounds ?_
  unfold laws_FnUrlTable.f
  have j : ∀ q, Ev (fun k => laws_FnUrlTable.j0 k (n : Int) t q) true := by
    intro q
    refine Ev.step (fun _ => laws_FnUrlTable.j0.eq_2 ..) (EvIte (fun _ => Ev.now _) (fun _ => ?_))
    refine EvGet (escaped_eq t h0 h1) ?_
    rw [Int.toNat_natCast]
    have told : (n ≤ 32 ∨ n ≥ 127 ∨ n = 37 ∨ n = 35) → (if t = 1 then Own.isD n else Own.isU n) = true := by
      intro h
      obtain ⟨a, b⟩ := hT1 h
      split <;> assumption
    refine EvIte (fun h => EvNow (told (by omega))) (fun h2 => EvIte (fun h => EvNow (told (by omega))) (fun h3 => EvIte (fun h => EvNow (told (by omega))) (fun h4 => EvIte (fun h => EvNow (told (by omega))) (fun h5 => EvIte (fun h6 => ?_) (fun _ => Ev.now _)))))
    refine Ev.bind (simple_ev [(n : Int)] (by intro x hx; simp at hx; omega) (by simp)) (EvNow ?_)
    by_cases hs : ([(n : Int)] : List Int).all simB = true
    · obtain ⟨a, b⟩ := hT2 hs
      rw [a, b] at h6
      simp at h6
    · simpa using hs
  exact EvIte (fun _ => j true) (fun _ => j _)

end Go.Proofs.YtcghdanppdmfeaaDoor.Pure
