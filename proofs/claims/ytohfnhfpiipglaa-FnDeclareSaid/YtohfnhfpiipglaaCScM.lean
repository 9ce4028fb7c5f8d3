/- Lists of names: what is told of them. -/
import Derived.Test.YtohfnhfpiipglaaCScL
namespace Go.Proofs.Ytohfnhfpiipglaa.Own
open Go.RowKit Go.Proofs.YtohfnhfpiipglaaW.PrintWords Go.Proofs.YtohfnhfpiipglaaW.PrintLast
set_option linter.unusedVariables false
set_option linter.unusedSimpArgs false
/-- A row of strings that is read. -/
def SRow (w : World) (A : Option Addr) (L : List ByteArray) : Prop := ∀ j (hj : j < L.length), ∃ ad, A = some ad ∧ w.cell? (ad.add j) = some (.string L[j])
set_option maxHeartbeats 1000000 in
theorem has_any (w : World) (A : Option Addr) (L : List ByteArray) (c : Nat) (s : ByteArray) (hR : SRow w A L) (hl : L.length ≤ 2147483647) :
    Calls Try.prog 8 #[.slice A L.length c, .string s] w fun e w' => e = .returned (.bool (hasB L s)) ∧ w' = w := by
  obtain ⟨n, hn⟩ : ∃ n, n = L.length := ⟨_, rfl⟩
  have HR := Aside0.mk hR
  have HN := Aside0.mk hn
  rw [← hn] at hl ⊢
  clear hR hn
  go_enter Try.func8, Try.ntmps8
  go_wp2
  go_loopw [9] (fun v wr => ∃ k : Nat, v = .int .i64 (k : Int) ∧ k ≤ n ∧ w = wr ∧ Aside0 (∀ j (hj : j < L.length), j < k → (L[j].toList == s.toList) = false)) (fun v _ => n - (intOf v).toNat)
  case atStart => exact ⟨0, rfl, Nat.zero_le _, rfl, ⟨fun j hj h => by omega⟩⟩
  case round =>
    obtain ⟨k, rfl, hk, rfl, HK⟩ := hrel
    by_cases hlt : k < n
    · have hlt2 : k < L.length := by have := HN.out; omega
      obtain ⟨ad, rfl, hc⟩ := HR.out k hlt2
      obtain ⟨x, hx⟩ : ∃ x, x = L[k] := ⟨_, rfl⟩
      rw [← hx] at hc
      have HX := Aside0.mk hx
      clear hx
      cases hq : (x.toList == s.toList) with
      | true =>
        go_wp2
        go_ret
        exact ⟨by rw [show hasB L s = true from List.any_eq_true.2 ⟨x, by rw [HX.out]; exact List.getElem_mem hlt2, hq⟩]; rfl, rfl⟩
      | false =>
        go_wp2
        go_roundw
        case rel => exact ⟨k + 1, by go_num, hlt, trivial, ⟨fun i hi h => by
          rcases Nat.lt_succ_iff_lt_or_eq.1 h with h2 | rfl
          · exact HK.out i hi h2
          · rw [← HX.out]; exact hq⟩⟩
        case measure => simp [intOf] <;> omega
    · obtain rfl : k = n := by omega
      go_wp2
      go_ret
      exact ⟨by rw [show hasB L s = false from by
        rw [Bool.eq_false_iff]
        intro h
        obtain ⟨x, hx, hq⟩ := List.any_eq_true.1 h
        obtain ⟨j, hj, rfl⟩ := List.mem_iff_getElem.1 hx
        rw [HK.out j hj (by have := HN.out; omega)] at hq
        cases hq]; rfl, rfl⟩
/-- All of a row's names are in another. -/
def allIn (a b : List ByteArray) : Bool := a.all (fun x => hasB b x)
theorem allIn_snoc (a b : List ByteArray) (k : Nat) (hk : k < a.length) : allIn (a.take (k + 1)) b = (allIn (a.take k) b && hasB b a[k]) := by
  unfold allIn
  rw [List.take_succ_eq_append_getElem hk, List.all_append]
  simp
theorem allIn_false {a b : List ByteArray} {k : Nat} (hk : k < a.length) (h : hasB b a[k] = false) : allIn a b = false := by
  rw [Bool.eq_false_iff]
  intro h2
  have := List.all_eq_true.1 h2 a[k] (List.getElem_mem hk)
  rw [h] at this
  cases this
set_option maxHeartbeats 1000000 in
theorem same_any (w : World) (A B : Option Addr) (La Lb : List ByteArray) (ca cb : Nat) (hA : SRow w A La) (hla : La.length ≤ 2147483647) (hB : SRow w B Lb) (hlb : Lb.length ≤ 2147483647) :
    Calls Try.prog 9 #[.slice A La.length ca, .slice B Lb.length cb] w fun e w' => e = .returned (.bool (allIn La Lb && allIn Lb La)) ∧ w' = w := by
  obtain ⟨n, hn⟩ : ∃ n, n = La.length := ⟨_, rfl⟩
  obtain ⟨m, hm⟩ : ∃ n, n = Lb.length := ⟨_, rfl⟩
  have HCA := Aside0.mk (show ∀ s, _ from fun s => has_any w A La ca s hA hla)
  have HCB := Aside0.mk (show ∀ s, _ from fun s => has_any w B Lb cb s hB hlb)
  have HA := Aside0.mk hA
  have HB := Aside0.mk hB
  have HN := Aside0.mk hn
  have HM := Aside0.mk hm
  rw [← hn] at hla HCA
  rw [← hm] at hlb HCB
  rw [← hn, ← hm]
  clear hA hB hn hm
  go_enter Try.func9, Try.ntmps9
  go_wp2
  go_loopw [11] (fun v wr => ∃ k : Nat, v = .int .i64 (k : Int) ∧ k ≤ n ∧ w = wr ∧ Aside0 (allIn (La.take k) Lb = true)) (fun v _ => n - (intOf v).toNat)
  case atStart => exact ⟨0, rfl, Nat.zero_le _, rfl, ⟨rfl⟩⟩
  case round =>
    obtain ⟨k, rfl, hk, rfl, HK⟩ := hrel
    by_cases hlt : k < n
    · have hlt2 : k < La.length := by have := HN.out; omega
      obtain ⟨ad, rfl, hc⟩ := HA.out k hlt2
      obtain ⟨x, hx⟩ : ∃ x, x = La[k] := ⟨_, rfl⟩
      rw [← hx] at hc
      have HX := Aside0.mk hx
      clear hx
      go_wp2_with fail
      (with_reducible refine (HCB.out x).mono ?_)
      rintro e w1 ⟨rfl, hw1⟩
      rw [hw1]
      clear hw1
      cases hq : hasB Lb x with
      | true =>
        go_wp2
        go_roundw
        case rel => exact ⟨k + 1, by go_num, hlt, trivial, ⟨by rw [allIn_snoc La Lb k hlt2, HK.out, ← HX.out, hq]; rfl⟩⟩
        case measure => simp [intOf] <;> omega
      | false =>
        go_wp2
        go_ret
        exact ⟨by rw [show allIn La Lb = false from allIn_false hlt2 (by rw [← HX.out]; exact hq)]; rfl, rfl⟩
    · obtain rfl : k = n := by omega
      have HKA := Aside0.mk (show allIn La Lb = true from by have := HK.out; rw [HN.out, List.take_of_length_le (Nat.le_refl _)] at this; exact this)
      clear hlt hk HK
      go_wp2
      go_loopw [22] (fun v wr => ∃ k : Nat, v = .int .i64 (k : Int) ∧ k ≤ m ∧ w = wr ∧ Aside0 (allIn (Lb.take k) La = true)) (fun v _ => m - (intOf v).toNat)
      case atStart => exact ⟨0, rfl, Nat.zero_le _, rfl, ⟨rfl⟩⟩
      case round =>
        obtain ⟨j, rfl, hk, rfl, HK⟩ := hrel
        by_cases hlt : j < m
        · have hlt2 : j < Lb.length := by have := HM.out; omega
          obtain ⟨ad, rfl, hc⟩ := HB.out j hlt2
          obtain ⟨x, hx⟩ : ∃ x, x = Lb[j] := ⟨_, rfl⟩
          rw [← hx] at hc
          have HX := Aside0.mk hx
          clear hx
          go_wp2_with fail
          (with_reducible refine (HCA.out x).mono ?_)
          rintro e w1 ⟨rfl, hw1⟩
          rw [hw1]
          clear hw1
          cases hq : hasB La x with
          | true =>
            go_wp2
            go_roundw
            case rel => exact ⟨j + 1, by go_num, hlt, trivial, ⟨by rw [allIn_snoc Lb La j hlt2, HK.out, ← HX.out, hq]; rfl⟩⟩
            case measure => simp [intOf] <;> omega
          | false =>
            go_wp2
            go_ret
            exact ⟨by rw [show allIn Lb La = false from allIn_false hlt2 (by rw [← HX.out]; exact hq), Bool.and_false]; rfl, rfl⟩
        · obtain rfl : j = m := by omega
          have HKB := Aside0.mk (show allIn Lb La = true from by have := HK.out; rw [HM.out, List.take_of_length_le (Nat.le_refl _)] at this; exact this)
          clear hlt hk HK
          go_wp2
          go_ret
          exact ⟨by rw [HKA.out, HKB.out]; rfl, rfl⟩
/-- Some truth value is told; where it is true, P holds. -/
def IsB (P : Prop) (e : Ending) : Prop := ∃ b : Bool, e = .returned (.bool b) ∧ (b = true → P)
theorem IsB.any (b : Bool) {P : Prop} (h : P) : IsB P (.returned (.bool b)) := ⟨b, rfl, fun _ => h⟩
theorem IsB.no (P : Prop) : IsB P (.returned (.bool false)) := ⟨false, rfl, fun h => by cases h⟩
set_option maxHeartbeats 1000000 in
theorem fits_any (w : World) (A : Option Addr) (L : List ByteArray) (c : Nat) (hR : SRow w A L) (hl : L.length ≤ 9223372036854775807) :
    Calls Try.prog 10 #[.slice A L.length c] w fun e w' => IsB (L.length ≤ 2147483647 ∧ ∀ s ∈ L, s.size ≤ 2147483647) e ∧ w' = w := by
  obtain ⟨n, hn⟩ : ∃ n, n = L.length := ⟨_, rfl⟩
  have HR := Aside0.mk hR
  have HN := Aside0.mk hn
  rw [← hn] at hl ⊢
  clear hR hn
  by_cases hbig : 2147483647 < n
  · go_enter Try.func10, Try.ntmps10
    go_wp2
    go_ret
    exact ⟨IsB.no _, rfl⟩
  go_enter Try.func10, Try.ntmps10
  go_wp2
  go_loopw [10] (fun v wr => ∃ k : Nat, v = .int .i64 (k : Int) ∧ k ≤ n ∧ w = wr ∧ Aside0 (∀ j (hj : j < L.length), j < k → L[j].size ≤ 2147483647)) (fun v _ => n - (intOf v).toNat)
  case atStart => exact ⟨0, rfl, Nat.zero_le _, rfl, ⟨fun j hj h => by omega⟩⟩
  case round =>
    obtain ⟨k, rfl, hk, rfl, HK⟩ := hrel
    by_cases hlt : k < n
    · have hlt2 : k < L.length := by have := HN.out; omega
      obtain ⟨ad, rfl, hc⟩ := HR.out k hlt2
      obtain ⟨x, hx⟩ : ∃ x, x = L[k] := ⟨_, rfl⟩
      rw [← hx] at hc
      have HX := Aside0.mk hx
      clear hx
      by_cases hb : 2147483647 < x.size
      · go_wp2
        go_ret
        exact ⟨IsB.no _, rfl⟩
      · go_wp2
        go_roundw
        case rel => exact ⟨k + 1, by go_num, hlt, trivial, ⟨fun j hj h => by
          rcases Nat.lt_succ_iff_lt_or_eq.1 h with h2 | rfl
          · exact HK.out j hj h2
          · rw [← HX.out]; omega⟩⟩
        case measure => simp [intOf] <;> omega
    · obtain rfl : k = n := by omega
      go_wp2
      go_ret
      exact ⟨IsB.any _ ⟨by omega, fun s hs => by
        obtain ⟨j, hj, rfl⟩ := List.mem_iff_getElem.1 hs
        exact HK.out j hj (by have := HN.out; omega)⟩, rfl⟩
set_option maxHeartbeats 1000000 in
theorem letter_any (w : World) (c : Int) (h0 : 0 ≤ c) (h1 : c < 256) :
    Calls Try.prog 16 #[.int .u8 c] w fun e w' => IsB True e ∧ w' = w := by
  go_enter Try.func16, Try.ntmps16
  go_wp2
  all_goals
    go_ret
    exact ⟨IsB.any _ trivial, rfl⟩
set_option maxHeartbeats 1000000 in
theorem word_any (w : World) (s : ByteArray) (hs : s.size ≤ 9223372036854775807) :
    Calls Try.prog 11 #[.string s] w fun e w' => IsB True e ∧ w' = w := by
  obtain ⟨n, hn⟩ : ∃ n, n = s.size := ⟨_, rfl⟩
  go_enter Try.func11, Try.ntmps11
  go_wp2
  go_loopw [6] (fun v wr => ∃ k : Nat, v = .int .i64 (k : Int) ∧ k ≤ s.size ∧ w = wr) (fun v _ => s.size - (intOf v).toNat)
  case atStart => exact ⟨0, rfl, Nat.zero_le _, rfl⟩
  case round =>
    obtain ⟨k, rfl, hk, rfl⟩ := hrel
    by_cases hlt : k < s.size
    · have hb : (s[k].toNat : Int) < 256 := by have := s[k].toNat_lt; omega
      have hb0 : 0 ≤ (s[k].toNat : Int) := Int.natCast_nonneg _
      go_wp2_with fail
      (with_reducible refine (letter_any w _ hb0 hb).mono ?_)
      rintro e w1 ⟨⟨b, rfl, _⟩, hw1⟩
      rw [hw1]
      clear hw1 hb hb0
      cases b
      all_goals go_wp2
      all_goals first
        | (go_ret
           exact ⟨IsB.any _ trivial, rfl⟩)
        | (go_roundw
           case rel => exact ⟨k + 1, by go_num, hlt, trivial⟩
           case measure => simp [intOf] <;> omega)
    · obtain rfl : k = s.size := by omega
      go_wp2
      go_ret
      exact ⟨IsB.any _ trivial, rfl⟩
end Go.Proofs.Ytohfnhfpiipglaa.Own
