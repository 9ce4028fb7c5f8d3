/- The contract of the function isUTF8: whether a text is in UTF-8, as a plain function of its bytes. -/
import Derived.Test.YtpbgmgkpololfaaDoorProg
import Derived.Test.YtpbgmgkpololfaaDoorOwn
import Derived.Laws.RangeAny
import Derived.Laws.DeepStrings4
import Derived.Outline
namespace Go.Proofs.YtpbgmgkpololfaaDoor.Own
open Go.RowKit Go.Proofs.YtpbgmgkpololfaaDoorW.PrintWords Go.Proofs.YtpbgmgkpololfaaDoorW.PrintLast
set_option linter.unusedVariables false
set_option linter.unusedSimpArgs false
/-- The replacement character, that does not stand there itself. -/
def badAt (s : ByteArray) (pos : Nat) : Bool := (Utf8.decode s pos).1 == 65533 && (decide (s.size < pos + 3) || !((s.extract pos (pos + 3)).toList == [239, 191, 189]))
def utfB (s : ByteArray) : Nat → Nat → Bool
  | 0, _ => true
  | b + 1, pos => if pos < s.size then (if badAt s pos = true then false else utfB s b (pos + (Utf8.decode s pos).2)) else true
theorem utf_width (s : ByteArray) (pos : Nat) (h : pos < s.size) : 1 ≤ (Utf8.decode s pos).2 := by
  by_cases ha : (s[pos]'h).toNat < 128
  · rw [decode_ascii s pos h ha]
    exact Nat.le_refl _
  · exact (decode_high s pos h (by omega)).2
theorem utfB_end (s : ByteArray) (b pos : Nat) (h : ¬ pos < s.size) : utfB s b pos = true := by
  cases b with
  | zero => rfl
  | succ b => simp [utfB, h]
theorem iter_below (w : World) (s : ByteArray) (pos : Nat) : Below w.heap.size w (w.iter s pos) := by
  exact below_alloc (Below.refl _ _) _
def laws_isUTF8.f (a0 : ByteArray) : Option Bool := if a0.size ≤ 140737488355328 then some (utfB a0 a0.size 0) else none
set_option maxHeartbeats 1000000 in
theorem laws_isUTF8.calls (s : ByteArray) (r : Bool) (w : World) (h : laws_isUTF8.f s = some r) :
    Calls Tryd.prog 9 #[.string s] w fun e w' => e = .returned (.bool r) ∧ Below w.heap.size w w' := by
  unfold laws_isUTF8.f at h
  by_cases hl : s.size ≤ 140737488355328
  · rw [if_pos hl] at h
    obtain rfl := Option.some.inj h
    clear h
    go_enter Tryd.func9, Tryd.ntmps9
    go_wp2
    go_loopw [3] (fun _ w' => ∃ (pos b : Nat), w' = w.iter s pos ∧ Aside0 (utfB s b pos = utfB s s.size 0) ∧ s.size ≤ pos + b) (fun _ w' => s.size - w'.iterPos w.heap.size)
    case atStart => exact ⟨0, s.size, rfl, ⟨rfl⟩, by omega⟩
    case round =>
      obtain ⟨pos, b, rfl, HU, hb⟩ := hrel
      by_cases hp : pos < s.size
      · have hnx : ∀ ty, (Instr.next (.pointer (some ⟨w.heap.size, 0, none⟩)) true ty).run Tryd.prog (w.iter s pos) = _ := fun ty => run_next_any w s pos ty hp
        have hwd := utf_width s pos hp
        obtain ⟨d, hd⟩ : ∃ d, d = (Utf8.decode s pos).1 := ⟨_, rfl⟩
        rw [← hd] at hnx
        obtain ⟨wd, hwdd⟩ : ∃ wd, wd = (Utf8.decode s pos).2 := ⟨_, rfl⟩
        rw [← hwdd] at hnx hwd
        have HD := Aside0.mk hd
        have HW := Aside0.mk hwdd
        clear hd hwdd
        have hmeas : s.size - (w.iter s (pos + wd)).iterPos w.heap.size < s.size - (w.iter s pos).iterPos w.heap.size := by simp; omega
        have step : badAt s pos = false → ∃ pos1 b1, w.iter s (pos + wd) = w.iter s pos1 ∧ Aside0 (utfB s b1 pos1 = utfB s s.size 0) ∧ s.size ≤ pos1 + b1 := fun hbad => by
          cases b with
          | zero => omega
          | succ b =>
            refine ⟨pos + wd, b, rfl, ⟨?_⟩, by omega⟩
            rw [← HU.out, utfB, if_pos hp, if_neg (by rw [hbad]; simp), ← HW.out]
        have stop : badAt s pos = true → utfB s s.size 0 = false := fun hbad => by
          cases b with
          | zero => omega
          | succ b => rw [← HU.out, utfB, if_pos hp, if_pos hbad]
        have STEP := Aside0.mk step
        have STOP := Aside0.mk stop
        have HM := Aside0.mk hmeas
        clear step stop hmeas
        by_cases h1 : d = 65533
        · by_cases h2 : s.size < pos + 3
          · have hb1 : badAt s pos = true := by unfold badAt; rw [← HD.out, h1]; simp [h2]
            have HR := Aside0.mk (STOP.out hb1)
            clear hb1
            subst h1
            go_wp2
            go_ret
            exact ⟨by rw [HR.out]; rfl, iter_below w s _⟩
          · have hsl : ∀ W : World, (Instr.slice 9 (.string s) (some (.int .i64 (pos : Int))) (some (.int .i64 ((pos : Int) + 3))) none).run Tryd.prog W = .ok (.string (s.extract pos (pos + 3))) W := fun W => by
              rw [run_slice_string_if _ _ _ _ _ _ _ Tryd.underlying9, if_pos (by omega), if_pos (by omega)]
              rfl
            obtain ⟨q, hq⟩ : ∃ q, q = s.extract pos (pos + 3) := ⟨_, rfl⟩
            rw [← hq] at hsl
            by_cases h3 : (q.toList == [239, 191, 189]) = true
            · have hb1 : badAt s pos = false := by unfold badAt; rw [← hq, h3, decide_eq_false h2]; simp
              have HS := Aside0.mk (STEP.out hb1)
              have HQ := Aside0.mk hq
              clear hq hb1
              subst h1
              go_wp2
              go_roundw
              case rel => exact HS.out
              case measure => exact HM.out
            · have h3b : (q.toList == [239, 191, 189]) = false := by simpa using h3
              have hb1 : badAt s pos = true := by unfold badAt; rw [← hq, h3b, ← HD.out, h1]; simp
              have HR := Aside0.mk (STOP.out hb1)
              have HQ := Aside0.mk hq
              clear hq hb1 h3
              subst h1
              go_wp2
              go_ret
              exact ⟨by rw [HR.out]; rfl, iter_below w s _⟩
        · have h1b : (d == 65533) = false := by simpa using h1
          have hb1 : badAt s pos = false := by unfold badAt; rw [← HD.out, h1b]; rfl
          have HS := Aside0.mk (STEP.out hb1)
          clear hb1
          go_wp2
          go_roundw
          case rel => exact HS.out
          case measure => exact HM.out
      · have hnx : ∀ ty, (Instr.next (.pointer (some ⟨w.heap.size, 0, none⟩)) true ty).run Tryd.prog (w.iter s pos) = _ := fun ty => run_next_end w s pos ty hp
        have HR := Aside0.mk (show utfB s s.size 0 = true by rw [← HU.out, utfB_end s b pos hp])
        go_wp2
        go_ret
        exact ⟨by rw [HR.out]; rfl, iter_below w s _⟩
  · rw [if_neg hl] at h
    cases h
end Go.Proofs.YtpbgmgkpololfaaDoor.Own
