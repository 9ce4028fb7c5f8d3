/- The contract of Lexer.PeekRune, at a character that is written as it should be. -/
import Derived.Test.YtgpmmmlmaaiobaaDoorCLexBase
namespace Go.Proofs.YtgpmmmlmaaiobaaDoor.Own
open Go.RowKit Go.Proofs.YtgpmmmlmaaiobaaDoorW.PrintWords Go.Proofs.YtgpmmmlmaaiobaaDoorW.PrintLast
set_option linter.unusedVariables false
set_option linter.unusedSimpArgs false
theorem lx_peek' {gz base : Nat} {dat : List Int} {pos start d : Int} {q : Nat} {c : Int} {w : World} (h : Aside0 (InAt w base gz dat pos start)) (hb : Aside0 ((-140737488355328 < pos ∧ pos < 140737488355328) ∧ (-140737488355328 < d ∧ d < 140737488355328))) (hq : Aside0 (d + pos = q ∧ q ≤ dat.length)) (hc : Aside0 (atL dat q = c)) :
    Calls Tryd.prog 34 #[.pointer (some ⟨gz, 0, none⟩), .int .i64 d] w fun e w' => e = .returned (.int .u8 c) ∧ w = w' := by
  have := lx_peek gz base dat pos start d w h.out hb.out.1 hb.out.2 (by have := hq.out.1; omega) (by have := hq.out; omega)
  rw [hq.out.1, Int.toNat_natCast, hc.out] at this
  exact this
set_option maxHeartbeats 1000000 in
theorem rune1 (gz base : Nat) (dat : List Int) (pos start d : Int) (q : Nat) (c : Int) (w : World) (h : Aside0 (InAt w base gz dat pos start)) (hb : Aside0 ((-140737488355328 < pos ∧ pos < 140737488355328) ∧ (-140737488355328 < d ∧ d < 140737488355328))) (hq : Aside0 (d + pos = q ∧ q ≤ dat.length)) (hc : Aside0 (atL dat q = c)) (h0 : 0 ≤ c) (hlt : c < 192) :
    Calls Tryd.prog 40 #[.pointer (some ⟨gz, 0, none⟩), .int .i64 d] w fun e w' => e = .returned (.tuple #[.int .i32 c, .int .i64 1]) ∧ w = w' := by
  have hd : decide (c < 192) = true := decide_eq_true hlt
  go_enter Tryd.func40, Tryd.ntmps40
  go_wp2_with fail
  refine (lx_peek' h hb hq hc).mono ?_
  rintro e w' ⟨rfl, rfl⟩
  go_wp2
  go_ret2
  exact ⟨rfl, rfl⟩
set_option maxHeartbeats 1000000 in
theorem rune2 (gz base : Nat) (dat : List Int) (pos start d : Int) (q : Nat) (c c1 : Int) (w : World) (h : Aside0 (InAt w base gz dat pos start)) (hb : Aside0 ((-140737488355328 < pos ∧ pos < 140737488355328) ∧ (-140737488355328 < d ∧ d < 140737488355320))) (hq : Aside0 (d + pos = q ∧ q + 1 ≤ dat.length)) (hc : Aside0 (atL dat q = c)) (hc1 : Aside0 (atL dat (q + 1) = c1)) (h0 : 0 ≤ c1) (h1 : c1 < 256) (h2 : 192 ≤ c) (hlt : c < 224) (hne : ¬ c1 = 0) :
    Calls Tryd.prog 40 #[.pointer (some ⟨gz, 0, none⟩), .int .i64 d] w fun e w' => e = .returned (.tuple #[.int .i32 (c % 32 * 64 + c1 % 64), .int .i64 2]) ∧ w = w' := by
  have hd : decide (c < 192) = false := decide_eq_false (by omega)
  have hd2 : decide (c < 224) = true := decide_eq_true hlt
  have hne2 : (c1 == 0) = false := by simpa using hne
  have h3 : ¬ c < 192 := by omega
  have hdb : -140737488355328 < d ∧ d < 140737488355320 := hb.out.2
  go_enter Tryd.func40, Tryd.ntmps40
  go_wp2_with fail
  refine (lx_peek' (q := q) (c := c) h ⟨⟨hb.out.1, by omega⟩⟩ ⟨⟨hq.out.1, by have := hq.out.2; omega⟩⟩ hc).mono ?_
  rintro e w' ⟨rfl, rfl⟩
  go_wp2_with fail
  refine (lx_peek' (q := q + 1) (c := c1) h ⟨⟨hb.out.1, by omega⟩⟩ ⟨⟨by have := hq.out.1; omega, by have := hq.out.2; omega⟩⟩ hc1).mono ?_
  rintro e w' ⟨rfl, rfl⟩
  go_wp2_with fail
  refine (lx_peek' (q := q + 1) (c := c1) h ⟨⟨hb.out.1, by omega⟩⟩ ⟨⟨by have := hq.out.1; omega, by have := hq.out.2; omega⟩⟩ hc1).mono ?_
  rintro e w' ⟨rfl, rfl⟩
  go_wp2
  go_ret2
  exact ⟨rfl, rfl⟩
set_option maxHeartbeats 2000000 in
theorem rune3 (gz base : Nat) (dat : List Int) (pos start d : Int) (q : Nat) (c c1 c2 : Int) (w : World) (h : Aside0 (InAt w base gz dat pos start)) (hb : Aside0 ((-140737488355328 < pos ∧ pos < 140737488355328) ∧ (-140737488355328 < d ∧ d < 140737488355320))) (hq : Aside0 (d + pos = q ∧ q + 2 ≤ dat.length)) (hc : Aside0 (atL dat q = c)) (hc1 : Aside0 (atL dat (q + 1) = c1)) (hc2 : Aside0 (atL dat (q + 2) = c2)) (hl1 : 0 ≤ c1) (hu1 : c1 < 256) (hne1 : ¬ c1 = 0) (hl2 : 0 ≤ c2) (hu2 : c2 < 256) (hne2 : ¬ c2 = 0) (hlo : 224 ≤ c) (hhi : c < 240) :
    Calls Tryd.prog 40 #[.pointer (some ⟨gz, 0, none⟩), .int .i64 d] w fun e w' => e = .returned (.tuple #[.int .i32 (c % 16 * 4096 + c1 % 64 * 64 + c2 % 64), .int .i64 3]) ∧ w = w' := by
  have hd192 : decide (c < 192) = false := decide_eq_false (by omega)
  have hn192 : ¬ c < 192 := by omega
  have hd224 : decide (c < 224) = false := decide_eq_false (by omega)
  have hn224 : ¬ c < 224 := by omega
  have hd240 : decide (c < 240) = true := decide_eq_true (by omega)
  have hn240 : c < 240 := by omega
  have hz1 : (c1 == 0) = false := by simpa using hne1
  have hz2 : (c2 == 0) = false := by simpa using hne2
  have hdb : -140737488355328 < d ∧ d < 140737488355320 := hb.out.2
  go_enter Tryd.func40, Tryd.ntmps40
  go_wp2_with fail
  refine (lx_peek' (q := q) (c := c) h ⟨⟨hb.out.1, by omega⟩⟩ ⟨⟨by have := hq.out.1; omega, by have := hq.out.2; omega⟩⟩ hc).mono ?_
  rintro e w' ⟨rfl, rfl⟩
  go_wp2_with fail
  refine (lx_peek' (q := q + 1) (c := c1) h ⟨⟨hb.out.1, by omega⟩⟩ ⟨⟨by have := hq.out.1; omega, by have := hq.out.2; omega⟩⟩ hc1).mono ?_
  rintro e w' ⟨rfl, rfl⟩
  go_wp2_with fail
  refine (lx_peek' (q := q + 2) (c := c2) h ⟨⟨hb.out.1, by omega⟩⟩ ⟨⟨by have := hq.out.1; omega, by have := hq.out.2; omega⟩⟩ hc2).mono ?_
  rintro e w' ⟨rfl, rfl⟩
  go_wp2_with fail
  refine (lx_peek' (q := q + 1) (c := c1) h ⟨⟨hb.out.1, by omega⟩⟩ ⟨⟨by have := hq.out.1; omega, by have := hq.out.2; omega⟩⟩ hc1).mono ?_
  rintro e w' ⟨rfl, rfl⟩
  go_wp2_with fail
  refine (lx_peek' (q := q + 2) (c := c2) h ⟨⟨hb.out.1, by omega⟩⟩ ⟨⟨by have := hq.out.1; omega, by have := hq.out.2; omega⟩⟩ hc2).mono ?_
  rintro e w' ⟨rfl, rfl⟩
  go_wp2_with fail
  go_ret2
  exact ⟨rfl, rfl⟩
set_option maxHeartbeats 2000000 in
theorem rune4 (gz base : Nat) (dat : List Int) (pos start d : Int) (q : Nat) (c c1 c2 c3 : Int) (w : World) (h : Aside0 (InAt w base gz dat pos start)) (hb : Aside0 ((-140737488355328 < pos ∧ pos < 140737488355328) ∧ (-140737488355328 < d ∧ d < 140737488355320))) (hq : Aside0 (d + pos = q ∧ q + 3 ≤ dat.length)) (hc : Aside0 (atL dat q = c)) (hc1 : Aside0 (atL dat (q + 1) = c1)) (hc2 : Aside0 (atL dat (q + 2) = c2)) (hc3 : Aside0 (atL dat (q + 3) = c3)) (hl1 : 0 ≤ c1) (hu1 : c1 < 256) (hne1 : ¬ c1 = 0) (hl2 : 0 ≤ c2) (hu2 : c2 < 256) (hne2 : ¬ c2 = 0) (hl3 : 0 ≤ c3) (hu3 : c3 < 256) (hne3 : ¬ c3 = 0) (hlo : 240 ≤ c) (hhi : c < 256) :
    Calls Tryd.prog 40 #[.pointer (some ⟨gz, 0, none⟩), .int .i64 d] w fun e w' => e = .returned (.tuple #[.int .i32 (c % 8 * 262144 + c1 % 64 * 4096 + c2 % 64 * 64 + c3 % 64), .int .i64 4]) ∧ w = w' := by
  have hd192 : decide (c < 192) = false := decide_eq_false (by omega)
  have hn192 : ¬ c < 192 := by omega
  have hd224 : decide (c < 224) = false := decide_eq_false (by omega)
  have hn224 : ¬ c < 224 := by omega
  have hd240 : decide (c < 240) = false := decide_eq_false (by omega)
  have hn240 : ¬ c < 240 := by omega
  have hz1 : (c1 == 0) = false := by simpa using hne1
  have hz2 : (c2 == 0) = false := by simpa using hne2
  have hz3 : (c3 == 0) = false := by simpa using hne3
  have hdb : -140737488355328 < d ∧ d < 140737488355320 := hb.out.2
  go_enter Tryd.func40, Tryd.ntmps40
  go_wp2_with fail
  refine (lx_peek' (q := q) (c := c) h ⟨⟨hb.out.1, by omega⟩⟩ ⟨⟨by have := hq.out.1; omega, by have := hq.out.2; omega⟩⟩ hc).mono ?_
  rintro e w' ⟨rfl, rfl⟩
  go_wp2_with fail
  refine (lx_peek' (q := q + 1) (c := c1) h ⟨⟨hb.out.1, by omega⟩⟩ ⟨⟨by have := hq.out.1; omega, by have := hq.out.2; omega⟩⟩ hc1).mono ?_
  rintro e w' ⟨rfl, rfl⟩
  go_wp2_with fail
  refine (lx_peek' (q := q + 2) (c := c2) h ⟨⟨hb.out.1, by omega⟩⟩ ⟨⟨by have := hq.out.1; omega, by have := hq.out.2; omega⟩⟩ hc2).mono ?_
  rintro e w' ⟨rfl, rfl⟩
  go_wp2_with fail
  refine (lx_peek' (q := q + 3) (c := c3) h ⟨⟨hb.out.1, by omega⟩⟩ ⟨⟨by have := hq.out.1; omega, by have := hq.out.2; omega⟩⟩ hc3).mono ?_
  rintro e w' ⟨rfl, rfl⟩
  go_wp2_with fail
  refine (lx_peek' (q := q + 1) (c := c1) h ⟨⟨hb.out.1, by omega⟩⟩ ⟨⟨by have := hq.out.1; omega, by have := hq.out.2; omega⟩⟩ hc1).mono ?_
  rintro e w' ⟨rfl, rfl⟩
  go_wp2_with fail
  refine (lx_peek' (q := q + 2) (c := c2) h ⟨⟨hb.out.1, by omega⟩⟩ ⟨⟨by have := hq.out.1; omega, by have := hq.out.2; omega⟩⟩ hc2).mono ?_
  rintro e w' ⟨rfl, rfl⟩
  go_wp2_with fail
  refine (lx_peek' (q := q + 3) (c := c3) h ⟨⟨hb.out.1, by omega⟩⟩ ⟨⟨by have := hq.out.1; omega, by have := hq.out.2; omega⟩⟩ hc3).mono ?_
  rintro e w' ⟨rfl, rfl⟩
  go_wp2_with fail
  go_ret2
  exact ⟨rfl, rfl⟩
end Go.Proofs.YtgpmmmlmaaiobaaDoor.Own
