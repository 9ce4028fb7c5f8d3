/- Lists of what is to be declared. -/
import Derived.Test.YtohfnhfpiipglaaCScO
namespace Go.Proofs.Ytohfnhfpiipglaa.Own
open Go.RowKit Go.Proofs.YtohfnhfpiipglaaW.PrintWords Go.Proofs.YtohfnhfpiipglaaW.PrintLast
set_option linter.unusedVariables false
set_option linter.unusedSimpArgs false
/-- A name to declare, and how. -/
structure Dc where
  kind : Int
  name : ByteArray
abbrev Dc.cells (d : Dc) : Value := .agg #[.int .i64 d.kind, .string d.name]
def DRow (w : World) (A : Option Addr) (L : List Dc) : Prop := ∀ j (hj : j < L.length), ∃ ad, A = some ad ∧ w.cell? (ad.add (j * 2)) = some (.int .i64 L[j].kind) ∧ w.cell? ⟨(ad.add (j * 2)).block, (ad.add (j * 2)).off + 1, none⟩ = some (.string L[j].name)
theorem fits6 (w : World) (k : Int) (s : ByteArray) : Calls Try.prog 13 #[.agg #[.int .i64 k, .string s]] w fun e w' => IsB (s.size ≤ 2147483647) e ∧ Below w.heap.size w w' := by
  by_cases h : 2147483647 < s.size
  · go_enter Try.func13, Try.ntmps13
    go_wp2
    go_ret
    exact ⟨IsB.no _, (Below.refl _ _).alloc (Nat.le_refl _) _⟩
  · go_enter Try.func13, Try.ntmps13
    go_wp2
    go_ret
    exact ⟨IsB.any _ (by omega), (Below.refl _ _).alloc (Nat.le_refl _) _⟩
theorem drow_below {w wr : World} {A : Option Addr} {L : List Dc} (h : DRow w A L) (hb : Below w.heap.size w wr) : DRow wr A L := fun j hj => by
  obtain ⟨ad, h1, h2, h3⟩ := h j hj
  exact ⟨ad, h1, (hb.cell (World.block_lt_of_cell? w _ h2)).trans h2, (hb.cell (World.block_lt_of_cell? w _ h3)).trans h3⟩
set_option maxHeartbeats 1000000 in
theorem fits5 (w : World) (A : Option Addr) (L : List Dc) (c : Nat) (hR : DRow w A L) (hl : L.length ≤ 9223372036854775807) :
    Calls Try.prog 5 #[.slice A L.length c] w fun e w' => IsB (L.length ≤ 2147483647 ∧ ∀ d ∈ L, d.name.size ≤ 2147483647) e ∧ Below w.heap.size w w' := by
  obtain ⟨n, hn⟩ : ∃ n, n = L.length := ⟨_, rfl⟩
  have HR := Aside0.mk hR
  have HN := Aside0.mk hn
  rw [← hn] at hl ⊢
  clear hR hn
  by_cases hbig : 2147483647 < n
  · go_enter Try.func5, Try.ntmps5
    go_wp2
    go_ret
    exact ⟨IsB.no _, Below.refl _ _⟩
  have HB0 := Aside0.mk (Below.refl w.heap.size w)
  go_enter Try.func5, Try.ntmps5
  go_wp2
  go_loopw [10] (fun v wr => ∃ k : Nat, v = .int .i64 (k : Int) ∧ k ≤ n ∧ Aside0 (Below w.heap.size w wr) ∧ Aside0 (∀ j (hj : j < L.length), j < k → L[j].name.size ≤ 2147483647)) (fun v _ => n - (intOf v).toNat)
  case atStart => exact ⟨0, rfl, Nat.zero_le _, HB0, ⟨fun j hj h => by omega⟩⟩
  case round =>
    obtain ⟨k, rfl, hk, HB, HK⟩ := hrel
    by_cases hlt : k < n
    · have hlt2 : k < L.length := by have := HN.out; omega
      obtain ⟨ad, rfl, hc0, hc1⟩ := drow_below HR.out HB.out k hlt2
      obtain ⟨x, hx⟩ : ∃ x, x = L[k] := ⟨_, rfl⟩
      rw [← hx] at hc0 hc1
      have HX := Aside0.mk hx
      clear hx
      have HB1 := Aside0.mk (show Below w.heap.size w (wr.alloc (Obj.cells #[.int .i64 x.kind, .string x.name] 29)) from HB.out.alloc HB.out.size _)
      go_wp2_with fail
      (with_reducible refine (fits6 _ x.kind x.name).mono ?_)
      rintro e w2 ⟨⟨b, rfl, hb⟩, hbw⟩
      have HB2 := Aside0.mk (below_step HB1.out hbw)
      clear hbw
      cases b with
      | false =>
        clear hb
        go_wp2
        go_ret
        exact ⟨IsB.no _, HB2.out⟩
      | true =>
        have HNM := Aside0.mk (hb rfl)
        clear hb
        go_wp2
        go_roundw
        case rel => exact ⟨k + 1, by go_num, hlt, HB2, ⟨fun j hj h => by
          rcases Nat.lt_succ_iff_lt_or_eq.1 h with h2 | rfl
          · exact HK.out j hj h2
          · rw [← HX.out]; exact HNM.out⟩⟩
        case measure => simp [intOf] <;> omega
    · obtain rfl : k = n := by omega
      go_wp2
      go_ret
      exact ⟨IsB.any _ ⟨by omega, fun s hs => by
        obtain ⟨j, hj, rfl⟩ := List.mem_iff_getElem.1 hs
        exact HK.out j hj (by have := HN.out; omega)⟩, HB.out⟩
/-- What is within the bounds. -/
def DcOk (d : Dc) : Prop := (d.kind = 0 ∨ d.kind = 1 ∨ d.kind = 2) ∧ d.name.size ≤ 20
set_option maxHeartbeats 2000000 in
theorem declOk (w : World) (A : Option Addr) (L : List Dc) (c : Nat) (hR : DRow w A L) (hl : L.length ≤ 2147483647) (hz : ∀ d ∈ L, d.name.size ≤ 2147483647) :
    Calls Try.prog 6 #[.slice A L.length c] w fun e w' => IsB (L.length ≤ 50 ∧ ∀ d ∈ L, DcOk d) e ∧ Below w.heap.size w w' := by
  obtain ⟨n, hn⟩ : ∃ n, n = L.length := ⟨_, rfl⟩
  have HR := Aside0.mk hR
  have HN := Aside0.mk hn
  have HZ := Aside0.mk hz
  rw [← hn] at hl ⊢
  clear hR hn hz
  have HB0 := Aside0.mk (Below.refl w.heap.size w)
  go_enter Try.func6, Try.ntmps6
  go_wp2
  go_loopw [7] (fun v wr => ∃ k : Nat, v = .int .i64 (k : Int) ∧ k ≤ n ∧ Aside0 (Below w.heap.size w wr) ∧ Aside0 (∀ j (hj : j < L.length), j < k → DcOk L[j])) (fun v _ => n - (intOf v).toNat)
  case atStart => exact ⟨0, rfl, Nat.zero_le _, HB0, ⟨fun j hj h => by omega⟩⟩
  case round =>
    obtain ⟨k, rfl, hk, HB, HK⟩ := hrel
    by_cases hlt : k < n
    · have hlt2 : k < L.length := by have := HN.out; omega
      obtain ⟨ad, rfl, hc0, hc1⟩ := drow_below HR.out HB.out k hlt2
      obtain ⟨x, hx⟩ : ∃ x, x = L[k] := ⟨_, rfl⟩
      rw [← hx] at hc0 hc1
      have hxz : x.name.size ≤ 2147483647 := by rw [hx]; exact HZ.out _ (List.getElem_mem hlt2)
      have HX := Aside0.mk hx
      clear hx
      obtain ⟨kd, hkd⟩ : ∃ y, y = x.kind := ⟨_, rfl⟩
      obtain ⟨nm, hnm⟩ : ∃ y, y = x.name := ⟨_, rfl⟩
      rw [← hkd] at hc0
      rw [← hnm] at hc1 hxz
      have HKD := Aside0.mk hkd
      have HNM := Aside0.mk hnm
      clear hkd hnm
      have HB1 := Aside0.mk (show Below w.heap.size w (wr.alloc (Obj.cells #[.int .i64 kd, .string nm] 29)) from HB.out.alloc HB.out.size _)
      by_cases h0 : kd < 0
      · go_wp2
        go_ret
        exact ⟨IsB.no _, HB1.out⟩
      by_cases h2 : 2 < kd
      · go_wp2
        go_ret
        exact ⟨IsB.no _, HB1.out⟩
      by_cases h20 : 20 < nm.size
      · go_wp2_with fail
        (with_reducible refine (word_any _ nm (by omega)).mono ?_)
        rintro e w3 ⟨⟨b, rfl, _⟩, hw3⟩
        rw [hw3]
        clear hw3
        cases b
        all_goals
          go_wp2
          go_ret
          exact ⟨IsB.no _, HB1.out⟩
      · go_wp2_with fail
        (with_reducible refine (word_any _ nm (by omega)).mono ?_)
        rintro e w3 ⟨⟨b, rfl, _⟩, hw3⟩
        rw [hw3]
        clear hw3
        cases b with
        | false =>
          go_wp2
          go_ret
          exact ⟨IsB.no _, HB1.out⟩
        | true =>
          have HOK := Aside0.mk (show DcOk L[k] by
            rw [← HX.out]
            exact ⟨by rw [← HKD.out]; omega, by rw [← HNM.out]; omega⟩)
          go_wp2
          go_roundw
          case rel => exact ⟨k + 1, by go_num, hlt, HB1, ⟨fun j hj h => by
            rcases Nat.lt_succ_iff_lt_or_eq.1 h with h2 | rfl
            · exact HK.out j hj h2
            · exact HOK.out⟩⟩
          case measure => simp [intOf] <;> omega
    · obtain rfl : k = n := by omega
      go_wp2
      go_ret
      exact ⟨⟨_, rfl, fun h => ⟨by have := of_decide_eq_true h; omega, fun s hs => by
        obtain ⟨j, hj, rfl⟩ := List.mem_iff_getElem.1 hs
        exact HK.out j hj (by have := HN.out; omega)⟩⟩, HB.out⟩
end Go.Proofs.Ytohfnhfpiipglaa.Own
