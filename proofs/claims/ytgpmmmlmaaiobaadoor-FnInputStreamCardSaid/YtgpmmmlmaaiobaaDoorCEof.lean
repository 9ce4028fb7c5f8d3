/- What the listed variable io.EOF gives a walk: a pointer to an errorString lies in it. -/
import Derived.Test.YtgpmmmlmaaiobaaDoorCTabB
import Derived.ChangeArms
import Derived.LaidLaws
import Derived.LaidEql
import Derived.KernelRfl
import Derived.Test.YtgpmmmlmaaiobaaDoorProg
namespace Go.Proofs.YtgpmmmlmaaiobaaDoor.Own
open Go.RowKit Go.Proofs.YtgpmmmlmaaiobaaDoorW.PrintWords Go.Proofs.YtgpmmmlmaaiobaaDoorW.PrintLast
set_option linter.unusedVariables false
/-- The end of the input is told by a pointer. -/
def TabE (w : World) : Prop := ∃ a, w.cell? ⟨0, 0, none⟩ = some (.iface 102 (.pointer (some a)))
theorem TabE.some_ {w : World} (h : TabE w) : ∃ u v, w.cell? ⟨0, 0, none⟩ = some (.iface u v) := by
  obtain ⟨a, hc⟩ := h
  exact ⟨_, _, hc⟩
theorem TabE.below {w w' : World} (h : TabE w) (hb : Below w.heap.size w w') : TabE w' := by
  obtain ⟨a, hc⟩ := h
  exact ⟨a, pw_cell_below hb hc⟩
theorem TabE.drawn {w w' : World} (h : TabE w) (hb : Drawn0 w w') : TabE w' := h.below hb.below
theorem starE : "*" ++ "errors.errorString" = "*errors.errorString" := by decide
theorem rowE (u : TypeId) (h : Tryd.prog.typeName? 3 u = some "*errors.errorString") : u = 102 :=
  typeName_ptr_named (nm := "errors.errorString") (by rw [starE]; kernel_rfl) (by kernel_rfl) (by decide) u (by rw [starE]; exact h)
theorem laidVars_rows {P : Program} {w : World} : ∀ {l : List (String × DataW Unit)} {ps : List MemPlace}, DataW.LaidVars P w l ps → ∀ x ∈ l, ∃ g t cs fuel p, P.globalNamed x.1 = some g ∧ (P.globals[g]?).map (·.type) = some t ∧ w.var? P x.1 = some cs ∧
    DataW.trod (fun _ => ()) P w 0 (fun _ => true) false fuel t cs.toList = some (x.2, p) ∧ ∀ y ∈ MemPlace.row ⟨g, 0, none⟩ cs.size, y ∈ ps
  | [], _, _, x, hx => by cases hx
  | (n, d) :: r, ps, ⟨g, t, cs, fuel, p, q, h1, h2, h3, h4, h5, h6⟩, x, hx => by
    rcases List.mem_cons.1 hx with rfl | hx
    · exact ⟨g, t, cs, fuel, p, h1, h2, h3, h4, fun y hy => by rw [h6]; simp [hy]⟩
    · obtain ⟨g', t', cs', f', p', k1, k2, k3, k4, k5⟩ := laidVars_rows h5 x hx
      exact ⟨g', t', cs', f', p', k1, k2, k3, k4, fun y hy => by rw [h6]; simp [k5 y hy]⟩
set_option maxRecDepth 100000 in
theorem eof_of_laid {W : World} {l : List (String × DataW Unit)} {name : String} {text : List UInt8} {t : TypeId} {ms : Array (String × TypeId)}
    (hg : Tryd.prog.globalNamed name = some 0) (hty : (Tryd.prog.globals[0]?).map (·.type) = some t) (ht : Tryd.prog.underlying t = some (.interface ms)) (hp : (l.all fun x => x.2.handleName?.isNone) = true) (hx : (name, .iface "*errors.errorString" (.ptr (.agg [.lit (.string text)]))) ∈ l) (h : laidMetH Tryd.prog l W) : TabE W := by
  rw [MakeChecks.laidMetH_plain _ _ _ hp] at h
  obtain ⟨ps, hv, _, hrows⟩ := h
  obtain ⟨g', t', cs, fuel, p, hg', ht', hvar, htr, hps⟩ := laidVars_rows hv _ hx
  obtain rfl := Option.some.inj (hg.symm.trans hg')
  obtain rfl := Option.some.inj (hty.symm.trans ht')
  obtain ⟨l0⟩ := cs
  have ok : ∀ u v, l0 = [.iface u v] → Value.okWide Tryd.prog W .any 0 u v := fun u v e => by
    subst e
    exact (hrows 0 0 (hps _ (by simp [MemPlace.row]))).2 u v (by simpa using World.var?_cell hg hvar 0)
  obtain ⟨a, _, e1, _⟩ := errorString_of_trod ht rowE Tryd.underlying102 Tryd.underlying119 rfl rfl Tryd.underlying9 (by kernel_rfl) (by kernel_rfl) htr ok
  refine ⟨a, ?_⟩
  have := World.var?_cell hg hvar 0
  rw [this]
  subst e1
  rfl
end Go.Proofs.YtgpmmmlmaaiobaaDoor.Own
