/- What the steps over a stream tell; what holds in a round; the reader at its beginning. -/
import Derived.Test.YtgpmmmlmaaiobaaDoorCStJ
namespace Go.Proofs.YtgpmmmlmaaiobaaDoor.Own
open Go.RowKit Go.Proofs.YtgpmmmlmaaiobaaDoorW.PrintWords Go.Proofs.YtgpmmmlmaaiobaaDoorW.PrintLast
set_option linter.unusedVariables false
set_option linter.unusedSimpArgs false
/-- A step that a reader of a stream takes. -/
def okS (x : S44) (p s : Nat) : Prop := (x.f0 = 4 ∨ x.f0 = 9 → (s : Int) ≤ p + x.f1) ∧ x.f0 ≠ 5 ∧ x.f0 ≠ 8 ∧ x.f0 ≠ 10 ∧ x.f0 ≠ 11
instance (x : S44) (p s : Nat) : Decidable (okS x p s) := by unfold okS; infer_instance
def stepS (dat : List Int) (x : S44) (p s : Nat) : Option (Nat × Nat × S46) := if okS x p s then stepL dat x p s else none
def runS (dat : List Int) : List S44 → Nat → Nat → Option (List S46)
  | [], _, _ => some []
  | x :: t, p, s => (stepS dat x p s).bind fun r => (runS dat t r.1 r.2.1).map (r.2.2 :: ·)
/-- What RunStream tells. -/
def impl_RunStream.f (l0 : List Int) (a1 a2 : Int) (l3 : List S44) : Option (List S46) :=
  if l0.length ≤ 300 ∧ l3.length ≤ 1000 ∧ (l0.all fun x => decide (0 ≤ x ∧ x ≤ 255)) = true ∧ (1 ≤ a1 ∧ a1 ≤ 300) ∧ (1 ≤ a2 ∧ a2 ≤ 300) then runS l0 l3 0 0 else none
theorem R_frS {w w' : World} {base b : Nat} {ok : Nat → Prop} {v : Value} {xs : List S46} (h : Kd.R k46 46 w base ok v xs) (hf : FrS stS b w w') : Kd.R k46 46 w' base ok v xs :=
  Kd.R_mono (Kd.R_step (Kd.R_bound h) (fun k ⟨_, _, _, q, hq, cells, hc⟩ _ => hf.2.2.2 k cells q _ hc (by
    have : q = 46 := by
      have he : (k46).E = [] := rfl
      simpa [he] using hq
    subst this
    decide))) (fun _ hk => hk.1)
/-- What holds in a round: behind the step (b: the answer, its numbers and its text; sb: the step). -/
def RoundS (w w5 : World) (base top gz gs pc : Nat) (u : TypeId) (ev : Value) (dat : List Int) (M p s r : Nat) (u6 : Value) (out : List S46) (sb b : Nat) (f0 f1 n0 n1 : Int) (t : ByteArray) : Prop :=
  Kd.R k46 46 w5 base (fun k => k ≠ b) u6 out ∧ StAt w5 base top gz gs pc u ev dat M p s r ∧ Below base w w5 ∧ base ≤ b ∧ base ≤ w5.heap.size ∧ w5.cell? ⟨0, 0, none⟩ = some (.iface u ev) ∧
    w5.heap[sb]? = some (.cells #[.int .i64 f0, .int .i64 f1] 44 (0, 0)) ∧ w5.heap[b]? = some (.cells #[.int .i64 n0, .int .i64 n1, .string t] 46 (0, 0))
section
variable {w w5 w6 : World} {base top gz gs pc : Nat} {u : TypeId} {ev : Value} {dat : List Int} {M p s r : Nat} {u6 : Value} {out : List S46} {sb b : Nat} {f0 f1 n0 n1 : Int} {t : ByteArray}
theorem RoundS.made {wr : World} (HR : Kd.R k46 46 wr base (fun _ => True) u6 out) (HI : StAt wr base top gz gs pc u ev dat M p s r) (HB : Below base w wr) (hbw : base ≤ wr.heap.size) (hE : wr.cell? ⟨0, 0, none⟩ = some (.iface u ev)) :
    RoundS w ((wr.alloc (.cells #[.int .i64 f0, .int .i64 f1] 44)).alloc (.cells #[.int .i64 0, .int .i64 0, .string noT] 46)) base top gz gs pc u ev dat M p s r u6 out wr.heap.size (wr.heap.size + 1) f0 f1 0 0 noT := by
  have f2 : FrS [] base wr ((wr.alloc (.cells #[.int .i64 f0, .int .i64 f1] 44)).alloc (.cells #[.int .i64 0, .int .i64 0, .string noT] 46)) := ((FrS.refl hbw).alloc _).alloc _
  refine ⟨Kd.R_mono (R_frS (Kd.R_bound HR) (f2.mono (by simp))) (fun k hk => by have := hk.2.2.1; omega), HI.fr f2 (by simp) (by simp) (by simp) (by simp), HB.trans f2.1, by omega, f2.to, ?_, ?_, al_eq (by simp)⟩
  · exact (pw_cell_below (below_alloc (below_alloc (Below.refl _ _) _) _) hE)
  · rw [al_lt (by simp)]
    exact al_eq rfl
theorem RoundS.step {M' p' s' r' : Nat} (h : RoundS w w5 base top gz gs pc u ev dat M p s r u6 out sb b f0 f1 n0 n1 t) (hEb : 0 < base) (h1 : StAt w6 base top gz gs pc u ev dat M' p' s' r') (hf : FrS stS base w5 w6) : RoundS w w6 base top gz gs pc u ev dat M' p' s' r' u6 out sb b f0 f1 n0 n1 t := by
  obtain ⟨k1, k2, k3, k4, k5, k6, k7, k8⟩ := h
  exact ⟨R_frS k1 hf, h1, k3.trans hf.1, k4, hf.to, (hf.1.cell hEb).trans k6, hf.at k7 (by decide), hf.at k8 (by decide)⟩
theorem RoundS.put (h : RoundS w w5 base top gz gs pc u ev dat M p s r u6 out sb b f0 f1 n0 n1 t) (hEb : 0 < base) (j : Nat) (v : Value) {m0 m1 : Int} {t' : ByteArray} (hv : #[Value.int .i64 n0, .int .i64 n1, .string t].setIfInBounds j v = #[.int .i64 m0, .int .i64 m1, .string t']) : RoundS w (w5.setCell ⟨b, j, none⟩ v) base top gz gs pc u ev dat M p s r u6 out sb b f0 f1 m0 m1 t' := by
  obtain ⟨k1, k2, k3, k4, k5, k6, k7, k8⟩ := h
  have hf : FrS [46] base w5 (w5.setCell ⟨b, j, none⟩ v) := (FrS.refl k5).set k4 k8 (by simp)
  exact ⟨Kd.R_far k1 (fun k hk => hk) v, k2.fr hf (by decide) (by decide) (by decide) (by decide), k3.trans hf.1, k4, hf.to, (hf.1.cell hEb).trans k6, hf.at k7 (by decide), by rw [← hv]; exact sc_mark k8⟩
theorem RoundS.cells (h : RoundS w w5 base top gz gs pc u ev dat M p s r u6 out sb b f0 f1 n0 n1 t) : w5.cell? ⟨b, 0, none⟩ = some (.int .i64 n0) ∧ w5.cell? ⟨b, 1, none⟩ = some (.int .i64 n1) ∧ w5.cell? ⟨b, 2, none⟩ = some (.string t) ∧ (w5.frozen? ⟨b, 0, none⟩ = false ∧ w5.frozen? ⟨b, 1, none⟩ = false ∧ w5.frozen? ⟨b, 2, none⟩ = false) ∧ w5.cell? ⟨sb, 1, none⟩ = some (.int .i64 f1) := by
  obtain ⟨_, _, _, _, _, _, hy, hz⟩ := h
  exact ⟨(blk_cell hz 0).trans rfl, (blk_cell hz 1).trans rfl, (blk_cell hz 2).trans rfl, ⟨blk_frozen hz 0, blk_frozen hz 1, blk_frozen hz 2⟩, (blk_cell hy 1).trans rfl⟩
theorem RoundS.st (h : RoundS w w5 base top gz gs pc u ev dat M p s r u6 out sb b f0 f1 n0 n1 t) : StAt w5 base top gz gs pc u ev dat M p s r := h.2.1
theorem RoundS.eo (h : RoundS w w5 base top gz gs pc u ev dat M p s r u6 out sb b f0 f1 n0 n1 t) : w5.cell? ⟨0, 0, none⟩ = some (.iface u ev) := h.2.2.2.2.2.1
/-- Behind the answer's being put to the others. -/
theorem RoundS.app (h : RoundS w w5 base top gz gs pc u ev dat M p s r u6 out sb b f0 f1 n0 n1 t) (hEb : 0 < base) (hg : w5.grownBy w6 u6.ownBlock) : StAt w6 base top gz gs pc u ev dat M p s 0 ∧ Below base w w6 ∧ base ≤ w6.heap.size ∧ w6.cell? ⟨0, 0, none⟩ = some (.iface u ev) := by
  obtain ⟨k1, k2, k3, k4, k5, k6, k7, k8⟩ := h
  have hf : FrS [46] base w5 w6 := (FrS.refl k5).grown hg (fun k hk => by
    obtain ⟨_, q1, q2, q, hq, cells, hc⟩ := (Kd.R_bound k1).1 k hk
    have : q = 46 := by
      have he : (k46).E = [] := rfl
      simpa [he] using hq
    subst this
    exact ⟨q1, _, _, _, hc, by simp⟩)
  exact ⟨(k2.fr hf (by decide) (by decide) (by decide) (by decide)).mono (Nat.le_refl _) (Nat.zero_le _), k3.trans hf.1, hf.to, (hf.1.cell hEb).trans k6⟩
end
theorem asS (v : Value) (w : World) : (Instr.typeAssert (.iface 77 v) 90 91 true).run Tryd.prog w = .ok (.tuple #[.nilIface, .bool false]) w := run_typeAssert_lacksB Tryd.underlying91 (by kernel_rfl) (by kernel_rfl) v 90 w
/-- The reader at its beginning. -/
theorem st_new (gs size : Nat) (w : World) (hs : size ≤ 300) :
    Calls Tryd.prog 54 #[.iface 77 (.pointer (some ⟨gs, 0, none⟩)), .int .i64 (size : Int)] w fun e w' => e = .returned (.pointer (some ⟨w.heap.size + 1, 0, none⟩)) ∧
      w' = (w.alloc (.cells (u8i (List.replicate size 0)).toArray 5)).alloc (.cells #[rV gs, .nilIface, .slice none 0 0, .int .i64 0, .int .i64 0, .int .i64 0, .slice (some ⟨w.heap.size, 0, none⟩) 0 size, .int .i64 0, .int .i64 0, .int .i64 0, .int .i64 0] 97) := by
  have hmk : ∀ W : World, (Instr.makeSlice 22 (.int .i64 0) (.int .i64 (size : Int))).run Tryd.prog W = .ok (.slice (some ⟨W.heap.size, 0, none⟩) 0 size) (W.alloc (.cells (u8i (List.replicate size 0)).toArray 5)) := fun W => by
    obtain ⟨i0, hi0, hz0, hs1, hb1⟩ := info_parts infoIn
    have h := run_makeSlice (P := Tryd.prog) W 22 5 i0 (.int .u8 0) Tryd.underlying22 hi0 hz0 .i64 .i64 0 size (by omega) (by omega) (by rw [hs1]; omega) (by rw [hb1]; omega) (by omega)
    rw [hs1, show (Value.int .u8 0).cells = #[Value.int .u8 0] from rfl] at h
    rw [← made_zeros]
    simpa using h
  have has := asS
  go_enter Tryd.func54, Tryd.ntmps54
  go_wp2
  go_ret
  exact ⟨rfl, rfl⟩
theorem st_start {w : World} {base gs size pc : Nat} {u : TypeId} {ev : Value} {dat : List Int} (hb : base ≤ w.heap.size) (hs : size ≤ 300) (hS : SrcAt w w.heap.size base gs dat pc) :
    StAt ((w.alloc (.cells (u8i (List.replicate size 0)).toArray 5)).alloc (.cells #[rV gs, .nilIface, .slice none 0 0, .int .i64 0, .int .i64 0, .int .i64 0, .slice (some ⟨w.heap.size, 0, none⟩) 0 size, .int .i64 0, .int .i64 0, .int .i64 0, .int .i64 0] 97)) base w.heap.size (w.heap.size + 1) gs pc u ev dat 0 0 0 0 := by
  obtain ⟨W, hW⟩ : ∃ W, W = (w.alloc (.cells (u8i (List.replicate size 0)).toArray 5)).alloc (.cells #[rV gs, .nilIface, .slice none 0 0, .int .i64 0, .int .i64 0, .int .i64 0, .slice (some ⟨w.heap.size, 0, none⟩) 0 size, .int .i64 0, .int .i64 0, .int .i64 0, .int .i64 0] 97) := ⟨_, rfl⟩
  have f2 : FrS [] base w W := by rw [hW]; exact ((FrS.refl hb).alloc _).alloc _
  have hz : ZAt W (w.heap.size + 1) (rV gs) .nilIface (.slice none 0 0) (lstL []) (fstL []) 0 (.slice (some ⟨w.heap.size, 0, none⟩) 0 size) ((0 : Nat) : Int) ((0 : Nat) : Int) 0 0 := by rw [hW]; exact al_eq (by simp)
  have hf : FullAt W w.heap.size w.heap.size size (List.replicate size 0) := ⟨Nat.le_refl _, by simp, by omega, by rw [hW, al_lt (by simp)]; exact al_eq rfl⟩
  rw [← hW]
  exact ⟨0, 0, size, w.heap.size, 0, 0, _, [], .nilIface, _, 0, 0, 0, hz, by omega, ⟨⟨[], ⟨⟨by simp [flatB], .inl ⟨rfl, rfl⟩⟩, fun e he => by cases he⟩, trivial, Nat.le_refl _⟩, List.nodup_nil, by simpa using hS.fr f2 (by simp) (by simp), hb, by have := f2.2.2.1; omega, Nat.zero_le _⟩, hf, Nat.zero_le _, by simp, rfl, rfl, Nat.le_refl _, Nat.le_refl _, .inl rfl, Nat.le_refl _⟩
/-- The source, over a copy of the bytes. -/
theorem src_start {w w' : World} {v : Value} {dat : List Int} {pc : Nat} (hb : Below w.heap.size w w') (h : Kd.R (Kd.int .u8) 5 w' w.heap.size (fun _ => True) v dat) :
    ∃ (A : Option Addr) (c : Nat), v = .slice A dat.length c ∧ SrcAt (w'.alloc (.cells #[.slice A dat.length c, .int .i64 (pc : Int)] 79)) (w'.heap.size + 1) w.heap.size w'.heap.size dat pc := by
  rcases (Kd.own_of_R h).2 with ⟨rfl, h0⟩ | ⟨g', cap', cur, rfl, hb', hg, h1, h2, h3, h4⟩
  · have hd : dat = [] := List.eq_nil_of_length_eq_zero h0
    subst hd
    exact ⟨none, 0, rfl, none, 0, al_eq rfl, hb.size, Nat.le_refl _, Nat.zero_le _, fun h => by simp at h⟩
  · have hlt := (Array.getElem?_eq_some_iff.1 hg).1
    refine ⟨_, cap', rfl, _, cap', al_eq rfl, hb.size, h1, h2, fun _ => ⟨g', 0, cur, _, rfl, by omega, (al_lt hlt).trans hg, fun j hj => ?_⟩⟩
    rw [Nat.zero_add, ← Array.getElem?_toList]
    have h5 := congrArg (fun l => l[j]?) h4
    simp only [List.getElem?_take, Nat.mul_one, hj, if_pos] at h5
    rw [h5]
    simp [encs, hj]
end Go.Proofs.YtgpmmmlmaaiobaaDoor.Own
