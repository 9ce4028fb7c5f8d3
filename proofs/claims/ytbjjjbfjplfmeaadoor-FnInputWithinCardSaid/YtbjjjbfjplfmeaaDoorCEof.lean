/- What the listed variable io.EOF gives a walk: there is something in it. -/
import Derived.Test.YtbjjjbfjplfmeaaDoorCTabB
import Derived.ChangeArms
namespace Go.Proofs.YtbjjjbfjplfmeaaDoor.Own
open Go.RowKit Go.Proofs.YtbjjjbfjplfmeaaDoorW.PrintWords Go.Proofs.YtbjjjbfjplfmeaaDoorW.PrintLast
set_option linter.unusedVariables false
/-- The end of the input is told by something. -/
def TabE (w : World) : Prop := ∃ u v, w.cell? ⟨0, 0, none⟩ = some (.iface u v)
theorem TabE.below {w w' : World} (h : TabE w) (hb : Below w.heap.size w w') : TabE w' := by
  obtain ⟨u, v, hc⟩ := h
  exact ⟨u, v, pw_cell_below hb hc⟩
theorem TabE.drawn {w w' : World} (h : TabE w) (hb : Drawn0 w w') : TabE w' := h.below hb.below
theorem iface_of_trod {H : Type} {enc : TypeId × Value → H} {P : Program} {w : World} {base : Nat} {sp : Nat → Bool} {fuel : Nat} {t : TypeId} {ms : Array (String × TypeId)} {cs : List Value} {nm : String} {d : DataW H} {p : List MemPlace}
    (ht : P.underlying t = some (.interface ms)) (h : DataW.trod enc P w base sp false fuel t cs = some (.iface nm d, p)) : ∃ u v, cs = [.iface u v] := by
  cases fuel with
  | zero => simp [DataW.trod] at h
  | succ n =>
    unfold DataW.trod at h
    rw [ht] at h
    split at h <;> simp_all
theorem eof_of_laid {P : Program} {W : World} {l : List (String × DataW Unit)} {name nm : String} {d : DataW Unit} {t : TypeId} {ms : Array (String × TypeId)}
    (hg : P.globalNamed name = some 0) (hty : (P.globals[0]?).map (·.type) = some t) (ht : P.underlying t = some (.interface ms)) (hp : (l.all fun x => x.2.handleName?.isNone) = true) (hx : (name, .iface nm d) ∈ l) (h : laidMetH P l W) : TabE W := by
  rw [MakeChecks.laidMetH_plain _ _ _ hp] at h
  obtain ⟨ps, hv, _⟩ := h
  obtain ⟨g', t', cs, fuel, p, hg', ht', hvar, htr⟩ := laidVars_mem hv _ hx
  obtain rfl := Option.some.inj (hg.symm.trans hg')
  obtain rfl := Option.some.inj (hty.symm.trans ht')
  obtain ⟨u, v, hcs⟩ := iface_of_trod ht htr
  refine ⟨u, v, ?_⟩
  have := World.var?_cell hg hvar 0
  rw [this, ← Array.getElem?_toList, hcs]
  rfl
end Go.Proofs.YtbjjjbfjplfmeaaDoor.Own
