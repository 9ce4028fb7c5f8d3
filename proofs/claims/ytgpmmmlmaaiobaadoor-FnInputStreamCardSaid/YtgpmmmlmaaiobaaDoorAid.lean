/- Plain lemmas on rounds ('Ev') and lists for the pure statements of this seat. No condition. -/
import Derived.Test.YtgpmmmlmaaiobaaDoorWWords
namespace Go.Proofs.YtgpmmmlmaaiobaaDoor.Aid
open Go.RowKit Go.Proofs.YtgpmmmlmaaiobaaDoorW.PrintWords

theorem EvPos {α : Type} {c : Prop} [Decidable c] {a b : Nat → Option α} {r : α} (h : c) (e : Ev a r) : Ev (fun k => if c then a k else b k) r :=
  Ev.congr (fun _ => if_pos h) e
theorem EvNeg {α : Type} {c : Prop} [Decidable c] {a b : Nat → Option α} {r : α} (h : ¬ c) (e : Ev b r) : Ev (fun k => if c then a k else b k) r :=
  Ev.congr (fun _ => if_neg h) e
theorem EvIte {α : Type} {c : Prop} [Decidable c] {a b : Nat → Option α} {r : α} (h : c → Ev a r) (h' : ¬ c → Ev b r) : Ev (fun k => if c then a k else b k) r := by
  by_cases hc : c
  · exact EvPos hc (h hc)
  · exact EvNeg hc (h' hc)
theorem EvSome {α β : Type} {a : α} {f : Nat → α → Option β} {r : β} (e : Ev (fun k => f k a) r) : Ev (fun k => (some a).bind (f k)) r := e
theorem EvGet {α β : Type} {o : Option α} {a : α} {f : Nat → α → Option β} {r : β} (h : o = some a) (e : Ev (fun k => f k a) r) : Ev (fun k => o.bind (f k)) r := by
  subst h; exact e
theorem EvEq {α : Type} {g : Nat → Option α} {r r' : α} (e : Ev g r) (h : r = r') : Ev g r' := h ▸ e
theorem EvNow {α : Type} {r r' : α} (h : r = r') : Ev (fun _ => some r) r' := h ▸ Ev.now r

theorem w1 {i : Int} (h0 : 0 ≤ i) (h : i < 9223372036854775807) : wrap64 (i + 1) = i + 1 := by unfold wrap64; omega
theorem w64 {i : Int} (h0 : -9223372036854775808 ≤ i) (h : i ≤ 9223372036854775807) : wrap64 i = i := by unfold wrap64; omega
theorem wn {i n : Nat} (h : i < n) (hn : n ≤ 140737488355328) : wrap64 ((i : Int) + 1) = ((i + 1 : Nat) : Int) := by rw [w1 (by omega) (by omega)]; omega
theorem wu {i : Int} (h0 : 0 ≤ i) (h : i < 18446744073709551616) : IntKind.u64.wrap i = i := by
  have e : IntKind.u64.wrap i = i % 18446744073709551616 := by
    simp [IntKind.wrap, IntKind.bits, IntKind.signed]
  rw [e]; omega
theorem rd_at {xs : List Int} {i : Nat} (h : i < xs.length) : rd xs (i : Int) = xs[i] := by
  unfold rd; rw [Int.toNat_natCast, List.getD_eq_getElem?_getD, List.getElem?_eq_getElem h]; rfl
theorem rd_u8 {xs : List Int} (h : ∀ x ∈ xs, (Lit.int .u8 x).wf = true) {i : Nat} (hi : i < xs.length) : 0 ≤ xs[i] ∧ xs[i] ≤ 255 := by
  have := h _ (List.getElem_mem hi)
  simp [Lit.wf, IntKind.min, IntKind.max, IntKind.signed, IntKind.bits] at this
  omega
def Bytes (l : List Int) : Prop := ∀ x ∈ l, 0 ≤ x ∧ x ≤ 255
theorem bytes_of {xs : List Int} (h : ∀ x ∈ xs, (Lit.int .u8 x).wf = true) : Bytes xs := fun x hx => by
  obtain ⟨i, hi, rfl⟩ := List.getElem_of_mem hx
  exact rd_u8 h hi
theorem Bytes.at_ {l : List Int} (h : Bytes l) {i : Nat} (hi : i < l.length) : 0 ≤ l[i] ∧ l[i] ≤ 255 := h _ (List.getElem_mem hi)
theorem Bytes.app {a b : List Int} (h : Bytes a) (h' : Bytes b) : Bytes (a ++ b) := fun x hx => by
  rcases List.mem_append.1 hx with hx | hx
  · exact h x hx
  · exact h' x hx
theorem u8_of {x : Int} (h : (Lit.int .u8 x).wf = true) : 0 ≤ x ∧ x ≤ 255 := by
  have := @rd_u8 [x] (by simpa using h) 0 (by simp)
  simpa using this
theorem drop_cons {α : Type} {l : List α} {i : Nat} (h : i < l.length) : l.drop i = l[i] :: l.drop (i + 1) := List.drop_eq_getElem_cons h
end Go.Proofs.YtgpmmmlmaaiobaaDoor.Aid
