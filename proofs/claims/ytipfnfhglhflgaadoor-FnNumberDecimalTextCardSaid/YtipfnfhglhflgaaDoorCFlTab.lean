/- What a listed table of floats (or of whole numbers) gives a walk: its cells. -/
import Derived.Test.YtipfnfhglhflgaaDoorCTabB
import Derived.Test.YtipfnfhglhflgaaDoorCFl
namespace Go.Proofs.YtipfnfhglhflgaaDoor.Own
open Go.RowKit Go.Proofs.YtipfnfhglhflgaaDoorW.PrintWords Go.Proofs.YtipfnfhglhflgaaDoorW.PrintLast
set_option linter.unusedVariables false
/-- What '+', '-', '*', '/' give where they are valid. -/
def flop (op : BinOp) (x y : Nat) : Nat := (floatBits op .f64 x y).getD 0
/-- The n cells of block g are the floats of f. -/
def FlAt (g n : Nat) (f : Nat → Nat) (w : World) : Prop := ∀ i : Nat, i < n → w.cell? ⟨g, i, none⟩ = some (.float .f64 (f i))
theorem FlAt.below {g n : Nat} {f : Nat → Nat} {w w' : World} (h : FlAt g n f w) (hb : Below w.heap.size w w') : FlAt g n f w' := fun i hi => pw_cell_below hb (h i hi)
theorem trod_float {H : Type} {enc : TypeId × Value → H} {P : Program} {w : World} {base : Nat} {spare : Nat → Bool} {held : Bool} {fuel : Nat} {t : TypeId} {cs : List Value} {x : DataW H × List MemPlace} (ht : P.underlying t = some (.float .f64)) (h : DataW.trod enc P w base spare held fuel t cs = some x) : ∃ b, cs = [.float .f64 b] ∧ x = (.lit (.float .f64 b), []) := by
  cases fuel with
  | zero => simp [DataW.trod] at h
  | succ n =>
    unfold DataW.trod at h
    rw [ht] at h
    split at h <;> simp_all
theorem cells_of_floats {H : Type} {enc : TypeId × Value → H} {P : Program} {w : World} {base : Nat} {sp : Nat → Bool} {held : Bool} {fuel : Nat} {t e : TypeId} {n : Nat} {cs : List Value} {zs : List Nat} {p : List MemPlace}
    (ht : P.underlying t = some (.array n e)) (he : P.underlying e = some (.float .f64)) (hce : P.cellsOf e = 1) (hct : P.cellsOf t = n)
    (h : DataW.trod enc P w base sp held fuel t cs = some ((.agg (zs.map fun z => .lit (.float .f64 z)) : DataW H), p)) : cs = zs.map fun z => Value.float .f64 z := by
  cases fuel with
  | zero => simp [DataW.trod] at h
  | succ fuel =>
    simp only [DataW.trod, ht, hce, hct, Nat.mul_one] at h
    split at h
    · rename_i hl
      obtain ⟨xs, hm, hx⟩ := Option.map_eq_some_iff.1 h
      have hxs : xs.map (·.1) = zs.map fun z => (DataW.lit (.float .f64 z) : DataW H) := by
        have := congrArg Prod.fst hx
        simpa using this
      have hxl : xs.length = n := by simpa using Lib.mapM_length hm
      have hzl : zs.length = n := by
        have := congrArg List.length hxs
        simp at this
        omega
      apply List.ext_getElem?
      intro i
      by_cases hi : i < n
      · obtain ⟨b, hb, hf⟩ := Lib.mapM_at hm i i (by simp [hi])
        obtain ⟨z, hc, rfl⟩ := trod_float he hf
        have h1 : cs[i]? = some (.float .f64 z) := by
          have := congrArg (·[0]?) hc
          simpa [List.getElem?_take, List.getElem?_drop] using this
        have h2 : (xs.map (·.1))[i]? = some (DataW.lit (.float .f64 z) : DataW H) := by simp [hb]
        rw [hxs] at h2
        simp only [List.getElem?_map, Option.map_eq_some_iff, DataW.lit.injEq, Lit.float.injEq, true_and] at h2
        obtain ⟨z', hz', rfl⟩ := h2
        simp [h1, hz']
      · rw [List.getElem?_eq_none (by omega), List.getElem?_eq_none (by simp; omega)]
    · cases h
theorem flAt_of_laid {P : Program} {W : World} {l : List (String × DataW Unit)} {name : String} {d : DataW Unit} {f : Nat → Nat} {g n : Nat} {t e : TypeId}
    (hg : P.globalNamed name = some g) (hty : (P.globals[g]?).map (·.type) = some t) (ht : P.underlying t = some (.array n e)) (he : P.underlying e = some (.float .f64)) (hce : P.cellsOf e = 1) (hct : P.cellsOf t = n)
    (hp : (l.all fun x => x.2.handleName?.isNone) = true) (hx : (name, d) ∈ l) (hd : d = .agg (((List.range n).map f).map fun z => .lit (.float .f64 z))) (h : laidMetH P l W) : FlAt g n f W := by
  rw [MakeChecks.laidMetH_plain _ _ _ hp] at h
  obtain ⟨ps, hv, _⟩ := h
  obtain ⟨g', t', cs, fuel, p, hg', ht', hvar, htr⟩ := laidVars_mem hv _ hx
  obtain rfl := Option.some.inj (hg.symm.trans hg')
  obtain rfl := Option.some.inj (hty.symm.trans ht')
  simp only at htr
  rw [hd] at htr
  have hcs := cells_of_floats ht he hce hct htr
  intro i hi
  have := World.var?_cell hg hvar i
  rw [this, ← Array.getElem?_toList, hcs]
  simp [hi]
/-- The powers of ten. -/
def p10 (k : Nat) : Nat := fl false (10 ^ k) 0
def TabP (w : World) : Prop := FlAt 0 23 p10 w
theorem TabP.below {w w' : World} (h : TabP w) (hb : Below w.heap.size w w') : TabP w' := FlAt.below h hb
theorem TabP.drawn {w w' : World} (h : TabP w) (hb : Drawn0 w w') : TabP w' := h.below hb.below
end Go.Proofs.YtipfnfhglhflgaaDoor.Own
