/- What a listed table of truth values gives a walk: its cells, for as long as nothing older is written. -/
import Derived.Test.YtgpmmmlmaaiobaaDoorWMore
import Derived.Lib.LaidTab
import Derived.MakeChecks
import Derived.LaidLaws
import Derived.ChangeArms
namespace Go.Proofs.YtgpmmmlmaaiobaaDoor.Own
open Go.RowKit Go.Proofs.YtgpmmmlmaaiobaaDoorW.PrintWords Go.Proofs.YtgpmmmlmaaiobaaDoorW.PrintLast Go.Proofs.YtgpmmmlmaaiobaaDoorW.PrintMore
set_option linter.unusedVariables false
/-- The 256 cells of block g are the truth values of f. -/
def TabAt (g : Nat) (f : Nat → Bool) (w : World) : Prop := ∀ i : Nat, i < 256 → w.cell? ⟨g, i, none⟩ = some (.bool (f i))
theorem TabAt.below {g : Nat} {f : Nat → Bool} {w w' : World} (h : TabAt g f w) (hb : Below w.heap.size w w') : TabAt g f w' := fun i hi => pw_cell_below hb (h i hi)
theorem TabAt.drawn {g : Nat} {f : Nat → Bool} {w w' : World} (h : TabAt g f w) (hb : Drawn0 w w') : TabAt g f w' := h.below hb.below
theorem TabAt.at {g : Nat} {f : Nat → Bool} {w : World} (h : TabAt g f w) {c : Int} (h0 : 0 ≤ c) (h1 : c < 256) : w.cell? ⟨g, c.toNat, none⟩ = some (.bool (f c.toNat)) := h _ (by omega)
theorem cells_of_bools {H : Type} {enc : TypeId × Value → H} {P : Program} {w : World} {base : Nat} {sp : Nat → Bool} {held : Bool} {fuel : Nat} {t e : TypeId} {n : Nat} {cs : List Value} {zs : List Bool} {p : List MemPlace}
    (ht : P.underlying t = some (.array n e)) (he : P.underlying e = some .bool) (hce : P.cellsOf e = 1) (hct : P.cellsOf t = n)
    (h : DataW.trod enc P w base sp held fuel t cs = some ((.agg (zs.map fun z => .lit (.bool z)) : DataW H), p)) : cs = zs.map fun z => Value.bool z := by
  cases fuel with
  | zero => simp [DataW.trod] at h
  | succ fuel =>
    simp only [DataW.trod, ht, hce, hct, Nat.mul_one] at h
    split at h
    · rename_i hl
      obtain ⟨xs, hm, hx⟩ := Option.map_eq_some_iff.1 h
      have hxs : xs.map (·.1) = zs.map fun z => (DataW.lit (.bool z) : DataW H) := by
        have := congrArg Prod.fst hx
        simpa using this
      have hxl : xs.length = n := by simpa using Lib.mapM_length hm
      have hzl : zs.length = n := by
        have := congrArg List.length hxs
        simp at this
        omega
      apply List.ext_getElem?
      intro i
      by_cases hi : i < n
      · obtain ⟨b, hb, hf⟩ := Lib.mapM_at hm i i (by simp [hi])
        obtain ⟨z, hc, rfl⟩ := DataW.trod_bool he hf
        have h1 : cs[i]? = some (.bool z) := by
          have := congrArg (·[0]?) hc
          simpa [List.getElem?_take, List.getElem?_drop] using this
        have h2 : (xs.map (·.1))[i]? = some (DataW.lit (.bool z) : DataW H) := by simp [hb]
        rw [hxs] at h2
        simp only [List.getElem?_map, Option.map_eq_some_iff, DataW.lit.injEq, Lit.bool.injEq] at h2
        obtain ⟨z', hz', rfl⟩ := h2
        simp [h1, hz']
      · rw [List.getElem?_eq_none (by omega), List.getElem?_eq_none (by simp; omega)]
    · cases h
theorem laidVars_mem {P : Program} {w : World} : ∀ {l : List (String × DataW Unit)} {ps : List MemPlace}, DataW.LaidVars P w l ps → ∀ x ∈ l, ∃ g t cs fuel p, P.globalNamed x.1 = some g ∧ (P.globals[g]?).map (·.type) = some t ∧ w.var? P x.1 = some cs ∧
    DataW.trod (fun _ => ()) P w 0 (fun _ => true) false fuel t cs.toList = some (x.2, p)
  | [], _, _, x, hx => by cases hx
  | (n, d) :: r, ps, ⟨g, t, cs, fuel, p, q, h1, h2, h3, h4, h5, _⟩, x, hx => by
    rcases List.mem_cons.1 hx with rfl | hx
    · exact ⟨g, t, cs, fuel, p, h1, h2, h3, h4⟩
    · exact laidVars_mem h5 x hx
theorem tabAt_of_laid {P : Program} {W : World} {l : List (String × DataW Unit)} {name : String} {d : DataW Unit} {f : Nat → Bool} {g : Nat} {t e : TypeId}
    (hg : P.globalNamed name = some g) (hty : (P.globals[g]?).map (·.type) = some t) (ht : P.underlying t = some (.array 256 e)) (he : P.underlying e = some .bool) (hce : P.cellsOf e = 1) (hct : P.cellsOf t = 256)
    (hp : (l.all fun x => x.2.handleName?.isNone) = true) (hx : (name, d) ∈ l) (hd : d = .agg (((List.range 256).map f).map fun z => .lit (.bool z))) (h : laidMetH P l W) : TabAt g f W := by
  rw [MakeChecks.laidMetH_plain _ _ _ hp] at h
  obtain ⟨ps, hv, _⟩ := h
  obtain ⟨g', t', cs, fuel, p, hg', ht', hvar, htr⟩ := laidVars_mem hv _ hx
  obtain rfl := Option.some.inj (hg.symm.trans hg')
  obtain rfl := Option.some.inj (hty.symm.trans ht')
  simp only at htr
  rw [hd] at htr
  have hcs := cells_of_bools ht he hce hct htr
  intro i hi
  have := World.var?_cell hg hvar i
  rw [this, ← Array.getElem?_toList, hcs]
  simp [hi]
/-! The other way: a world for the witness, the tables laid in it. -/
def cellsOfTab (f : Nat → Bool) : Array Value := (((List.range 256).map f).map Value.bool).toArray
def layTab (f : Nat → Bool) : Obj → Obj
  | .cells _ t frozen => .cells (cellsOfTab f) t frozen
  | o => o
theorem cellsOfTab_plain (f : Nat → Bool) (i : Nat) (u : TypeId) (v : Value) : (cellsOfTab f)[i]? ≠ some (.iface u v) := by
  intro h
  unfold cellsOfTab at h
  rw [← Array.getElem?_toList, List.toList_toArray, List.getElem?_map, Option.map_eq_some_iff] at h
  obtain ⟨b, _, hb⟩ := h
  cases hb
theorem rows_nodup' (g n : Nat) : (MemPlace.row ⟨g, 0, none⟩ n).Nodup := by
  unfold MemPlace.row List.Nodup
  rw [List.pairwise_map]
  refine List.Pairwise.imp ?_ (List.nodup_range (n := n))
  intro a b hab h
  injection h with h1 h2
  simp at h2
  exact hab h2
theorem mem_row' {g n b off : Nat} (h : MemPlace.cell b off ∈ MemPlace.row ⟨g, 0, none⟩ n) : b = g := by
  unfold MemPlace.row at h
  obtain ⟨i, _, hi⟩ := List.mem_map.1 h
  injection hi with h1 h2
  exact h1.symm
def PlainAt (P : Program) (w : World) (g : Nat) (x : String × DataW Unit) : Prop :=
  ∃ t cs fuel ty, P.globalNamed x.1 = some g ∧ (P.globals[g]?).map (·.type) = some t ∧ w.heap[g]? = some (.cells cs ty (0, 0)) ∧
    DataW.trod (fun _ => ()) P w 0 (fun _ => true) false fuel t cs.toList = some (x.2, []) ∧ ∀ (i : Nat) (u : TypeId) (v : Value), cs[i]? ≠ some (.iface u v)
theorem PlainAt.var {P : Program} {w : World} {g : Nat} {x : String × DataW Unit} {cs : Array Value} {ty : TypeId} {fr : Nat × Nat} (hg : P.globalNamed x.1 = some g) (hh : w.heap[g]? = some (.cells cs ty fr)) : w.var? P x.1 = some cs := by
  unfold World.var?
  rw [hg, Option.bind_some, hh]
theorem PlainAt.fits {P : Program} {w : World} {g : Nat} {cs : Array Value} {ty : TypeId} (hh : w.heap[g]? = some (.cells cs ty (0, 0))) (hn : ∀ (i : Nat) (u : TypeId) (v : Value), cs[i]? ≠ some (.iface u v)) (off : Nat) :
    (∃ c t, w.heap[g]? = some (.cells c t (0, 0))) ∧ ∀ u v, w.cell? ⟨g, off, none⟩ = some (.iface u v) → Value.okWide P w .any 0 u v := by
  refine ⟨⟨_, _, hh⟩, fun u v hc => absurd ?_ (hn off u v)⟩
  simpa [World.cell?, hh] using hc
theorem laid_one {P : Program} {w : World} {g : Nat} {x : String × DataW Unit} (h : PlainAt P w g x) : laidMet P [x] w := by
  obtain ⟨t, cs, fuel, ty, h1, h2, h3, h4, h5⟩ := h
  refine ⟨_, ⟨g, t, cs, fuel, [], [], h1, h2, PlainAt.var h1 h3, h4, rfl, rfl⟩, by simpa using rows_nodup' g _, fun b off hb => ?_⟩
  obtain rfl := mem_row' (by simpa using hb)
  exact PlainAt.fits h3 h5 off
theorem laid_two {P : Program} {w : World} {g g' : Nat} {x y : String × DataW Unit} (h : PlainAt P w g x) (h' : PlainAt P w g' y) (hne : g ≠ g') : laidMet P [x, y] w := by
  obtain ⟨t, cs, fuel, ty, h1, h2, h3, h4, h5⟩ := h
  obtain ⟨t', cs', fuel', ty', k1, k2, k3, k4, k5⟩ := h'
  refine ⟨_, ⟨g, t, cs, fuel, [], _, h1, h2, PlainAt.var h1 h3, h4, ⟨g', t', cs', fuel', [], [], k1, k2, PlainAt.var k1 k3, k4, rfl, rfl⟩, rfl⟩, ?_, fun b off hb => ?_⟩
  · simp only [List.append_nil]
    refine List.nodup_append.2 ⟨rows_nodup' g _, rows_nodup' g' _, fun a ha b hb hab => ?_⟩
    subst hab
    cases a with
    | cell c off => exact hne ((mem_row' ha).symm.trans (mem_row' hb))
    | map m =>
      unfold MemPlace.row at ha
      obtain ⟨i, _, hi⟩ := List.mem_map.1 ha
      cases hi
  · simp only [List.append_nil, List.mem_append] at hb
    rcases hb with hb | hb
    · obtain rfl := mem_row' hb
      exact PlainAt.fits h3 h5 off
    · obtain rfl := mem_row' hb
      exact PlainAt.fits k3 k5 off
/-! Tables of bytes, or of pairs of bytes, for a witness alone. -/
def cellsU8 (l : List Nat) : Array Value := (l.map fun n : Nat => Value.int .u8 (n : Int)).toArray
def layU8 (l : List Nat) : Obj → Obj
  | .cells _ t frozen => .cells (cellsU8 l) t frozen
  | o => o
theorem cellsU8_plain (l : List Nat) (i : Nat) (u : TypeId) (v : Value) : (cellsU8 l)[i]? ≠ some (.iface u v) := by
  intro h
  unfold cellsU8 at h
  rw [← Array.getElem?_toList, List.toList_toArray, List.getElem?_map, Option.map_eq_some_iff] at h
  obtain ⟨b, _, hb⟩ := h
  cases hb
/-- The ranges of the second bytes of characters, pair by pair. -/
def u8A : List Nat := [128, 191, 160, 191, 128, 159, 144, 191, 128, 143, 0, 0, 0, 0, 0, 0, 0, 0, 0, 0, 0, 0, 0, 0, 0, 0, 0, 0, 0, 0, 0, 0]
end Go.Proofs.YtgpmmmlmaaiobaaDoor.Own
