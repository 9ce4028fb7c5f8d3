/- What the steps of a reader of selections tell, and what holds in a round of RunLexer. -/
import Derived.Test.YtgpmmmlmaaiobaaDoorCLexRune
namespace Go.Proofs.YtgpmmmlmaaiobaaDoor.Own
open Go.RowKit Go.Proofs.YtgpmmmlmaaiobaaDoorW.PrintWords Go.Proofs.YtgpmmmlmaaiobaaDoorW.PrintLast
set_option linter.unusedVariables false
set_option linter.unusedSimpArgs false
theorem truth_any (b : Bool) (w : World) : Calls Tryd.prog 35 #[.bool b] w fun e w' => e = .returned (.int .i64 (if b = true then 1 else 0)) ∧ w = w' := by
  cases b
  · go_enter Tryd.func35, Tryd.ntmps35
    go_wp2
    go_ret
    exact ⟨rfl, rfl⟩
  · go_enter Tryd.func35, Tryd.ntmps35
    go_wp2
    go_ret
    exact ⟨rfl, rfl⟩
theorem infoEP : (Tryd.prog.info? 102).map (·.comparable) = some true := by kernel_rfl
theorem infoES : (Tryd.prog.info? 119).isSome = true := by kernel_rfl
theorem eqEndL (b : Bool) (a : Addr) (W : World) : (binOp .eql 53 (endL b 102 (.pointer (some a))) (.iface 102 (.pointer (some a)))).run Tryd.prog W = .ok (.bool b) W := by
  obtain ⟨i, hi, hc⟩ := Option.map_eq_some_iff.1 infoEP
  obtain ⟨j, hj⟩ := Option.isSome_iff_exists.1 infoES
  unfold endL
  cases b
  · rw [if_neg (by decide)]
    exact run_eql_iface_nil_left W _ _ Tryd.underlying53
  · rw [if_pos rfl]
    exact run_eql_iface_ptr_same W a Tryd.underlying53 Tryd.underlying102 hi hc hj
theorem guardEndL (b : Bool) (a : Addr) (x y : Operand) : eqGuard .eql 53 x y (endL b 102 (.pointer (some a))) (.iface 102 (.pointer (some a))) = pure () := by
  unfold endL
  cases b <;> rfl
/-- What holds in a round: behind the step (b: the answer, its numbers and its text). -/
def RoundL (w w5 : World) (base top gz : Nat) (dat : List Int) (p s : Nat) (u6 : Value) (out : List S46) (b : Nat) (n0 n1 : Int) (t : ByteArray) : Prop :=
  Kd.R k46 46 w5 top (fun k => top ≤ k) u6 out ∧ InT w5 base top gz dat p s ∧ Below base w w5 ∧ top ≤ w5.heap.size ∧ base ≤ top ∧ top ≤ b ∧ (∀ k, u6.ownBlock = some k → k ≠ b) ∧
    ∃ n, w5.heap[b]? = some (.cells #[.int .i64 n0, .int .i64 n1, .string t] n (0, 0))
section
variable {w w5 : World} {base top gz : Nat} {dat : List Int} {p s : Nat} {u6 : Value} {out : List S46} {b : Nat} {n0 n1 : Int} {t : ByteArray}
theorem RoundL.made {wr W2 : World} (HR : Kd.R k46 46 wr top (fun k => top ≤ k) u6 out) (HI : InT wr base top gz dat p s) (HB : Below base w wr) (HS : top ≤ wr.heap.size) (hbt : base ≤ top)
    (h2 : Below wr.heap.size wr W2) (hz : ∃ n, W2.heap[wr.heap.size + 1]? = some (.cells #[.int .i64 n0, .int .i64 n1, .string t] n (0, 0))) : RoundL w W2 base top gz dat p s u6 out (wr.heap.size + 1) n0 n1 t :=
  ⟨Kd.R_below HR h2, HI.keep (fun k hk => h2.block k (by omega)), below_then HB (by omega) h2, by have := h2.size; omega, hbt, by omega, fun k hk => by have := Kd.R_lt HR k hk; omega, hz⟩
theorem RoundL.set {p' s' : Nat} (h : RoundL w w5 base top gz dat p s u6 out b n0 n1 t) {j : Nat} (hj : j ≠ 0) {v : Value} (hi : InAt (w5.setCell ⟨gz, j, none⟩ v) base gz dat p' s') : RoundL w (w5.setCell ⟨gz, j, none⟩ v) base top gz dat p' s' u6 out b n0 n1 t := by
  obtain ⟨h1, h2, h3, h4, h5, h6, h7, n, h8⟩ := h
  have hgt := h2.lt
  have hgb : base ≤ gz := by obtain ⟨_, _, _, _, _, _, h, _⟩ := hi; exact h
  exact ⟨Kd.R_far h1 (fun k hk => by show k ≠ gz; omega) v, h2.set _ _ hj hi, below_set h3 (by omega) hgb, by rw [sc_size]; exact h4, h5, h6, h7, n, by rw [sc_ne (by omega)]; exact h8⟩
theorem RoundL.put (h : RoundL w w5 base top gz dat p s u6 out b n0 n1 t) (j : Nat) (v : Value) {m0 m1 : Int} {t' : ByteArray} (hv : #[Value.int .i64 n0, .int .i64 n1, .string t].setIfInBounds j v = #[.int .i64 m0, .int .i64 m1, .string t']) : RoundL w (w5.setCell ⟨b, j, none⟩ v) base top gz dat p s u6 out b m0 m1 t' := by
  obtain ⟨h1, h2, h3, h4, h5, h6, h7, n, h8⟩ := h
  refine ⟨?_, h2.keep (fun k hk => sc_ne (by omega)), below_set h3 (by omega) (by omega), by rw [sc_size]; exact h4, h5, h6, h7, n, ?_⟩
  · have := Kd.R_far (p := ⟨b, j, none⟩) (ok := fun k => top ≤ k ∧ k ≠ b) ⟨fun k hk => ⟨h1.1 k hk, h7 k hk⟩, h1.2.imp_ (fun x cs hp => (k46_openM hp) ▸ k46_mkM _ _ _ x)⟩ (fun k hk => hk.2) v
    exact Kd.R_mono this (fun k hk => hk.1)
  · rw [sc_mark h8, hv]
theorem RoundL.below {w6 : World} (h : RoundL w w5 base top gz dat p s u6 out b n0 n1 t) (hb : Below w5.heap.size w5 w6) : RoundL w w6 base top gz dat p s u6 out b n0 n1 t := by
  obtain ⟨h1, h2, h3, h4, h5, h6, h7, n, h8⟩ := h
  exact ⟨Kd.R_below h1 hb, h2.below (hb.mono h4), below_then h3 (by omega) hb, by have := hb.size; omega, h5, h6, h7, n, by rw [hb.block b (blk_lt h8)]; exact h8⟩
theorem RoundL.cells (h : RoundL w w5 base top gz dat p s u6 out b n0 n1 t) : w5.cell? ⟨b, 0, none⟩ = some (.int .i64 n0) ∧ w5.cell? ⟨b, 1, none⟩ = some (.int .i64 n1) ∧ w5.cell? ⟨b, 2, none⟩ = some (.string t) ∧ (w5.frozen? ⟨b, 0, none⟩ = false ∧ w5.frozen? ⟨b, 1, none⟩ = false ∧ w5.frozen? ⟨b, 2, none⟩ = false) := by
  obtain ⟨_, _, _, _, _, _, _, n, hz⟩ := h
  exact ⟨(blk_cell hz 0).trans rfl, (blk_cell hz 1).trans rfl, (blk_cell hz 2).trans rfl, blk_frozen hz 0, blk_frozen hz 1, blk_frozen hz 2⟩
end
def runeL (dat : List Int) (q : Nat) : Option (Int × Int) :=
  if atL dat q < 192 then some (atL dat q, 1)
  else if q + 1 ≤ dat.length ∧ atL dat (q + 1) ≠ 0 then
    if atL dat q < 224 then some (atL dat q % 32 * 64 + atL dat (q + 1) % 64, 2)
    else if q + 2 ≤ dat.length ∧ atL dat (q + 2) ≠ 0 then
      if atL dat q < 240 then some (atL dat q % 16 * 4096 + atL dat (q + 1) % 64 * 64 + atL dat (q + 2) % 64, 3)
      else if q + 3 ≤ dat.length ∧ atL dat (q + 3) ≠ 0 then some (atL dat q % 8 * 262144 + atL dat (q + 1) % 64 * 4096 + atL dat (q + 2) % 64 * 64 + atL dat (q + 3) % 64, 4)
      else none
    else none
  else none
def noT : ByteArray := ⟨#[]⟩
def selT (dat : List Int) (p s : Nat) : ByteArray := strOfNums ((dat.drop s).take (p - s))
/-- One step: where the reader is behind it, and what it tells. -/
def stepL (dat : List Int) (x : S44) (p s : Nat) : Option (Nat × Nat × S46) :=
  if x.f0 = 0 then if (s : Int) ≤ p + x.f1 ∧ (p : Int) + x.f1 ≤ dat.length then some (((p : Int) + x.f1).toNat, s, ⟨0, 0, noT⟩) else none
  else if x.f0 = 1 then if 0 ≤ x.f1 ∧ (s : Int) + x.f1 ≤ p then some (((s : Int) + x.f1).toNat, s, ⟨0, 0, noT⟩) else none
  else if x.f0 = 2 then some (p, p, ⟨0, 0, selT dat p s⟩)
  else if x.f0 = 3 then some (p, p, ⟨0, 0, noT⟩)
  else if x.f0 = 4 then if 0 ≤ (p : Int) + x.f1 ∧ (p : Int) + x.f1 ≤ dat.length then some (p, s, ⟨atL dat ((p : Int) + x.f1).toNat, 0, noT⟩) else none
  else if x.f0 = 5 then if 0 ≤ (p : Int) + x.f1 ∧ (p : Int) + x.f1 ≤ dat.length then some (p, s, ⟨if (dat.length : Int) ≤ (p : Int) + x.f1 then 1 else 0, 0, noT⟩) else none
  else if x.f0 = 6 then some (p, s, ⟨0, 0, selT dat p s⟩)
  else if x.f0 = 7 then some (p, s, ⟨(p : Int) - s, 0, noT⟩)
  else if x.f0 = 8 then some (p, s, ⟨p, 0, noT⟩)
  else if x.f0 = 9 then if 0 ≤ (p : Int) + x.f1 ∧ (p : Int) + x.f1 ≤ dat.length then (runeL dat ((p : Int) + x.f1).toNat).map (fun r => (p, s, ⟨r.1, r.2, noT⟩)) else none
  else if x.f0 = 11 then some (0, 0, ⟨0, 0, noT⟩)
  else some (p, s, ⟨0, 0, noT⟩)
def runL (dat : List Int) : List S44 → Nat → Nat → Option (List S46)
  | [], _, _ => some []
  | x :: t, p, s => (stepL dat x p s).bind fun r => (runL dat t r.1 r.2.1).map (r.2.2 :: ·)
theorem stepL_in {dat : List Int} {x : S44} {p s p' s' : Nat} {a : S46} (h : stepL dat x p s = some (p', s', a)) (h1 : s ≤ p) (h2 : p ≤ dat.length) : s' ≤ p' ∧ p' ≤ dat.length := by
  have fin : ∀ {p1 s1 : Nat} {b : S46}, some (p1, s1, b) = some (p', s', a) → s1 ≤ p1 → p1 ≤ dat.length → s' ≤ p' ∧ p' ≤ dat.length := by
    intro p1 s1 b he k1 k2
    simp only [Option.some.injEq, Prod.mk.injEq] at he
    obtain ⟨rfl, rfl, _⟩ := he
    exact ⟨k1, k2⟩
  unfold stepL at h
  by_cases g0 : x.f0 = 0
  · rw [if_pos g0] at h
    by_cases g : (s : Int) ≤ p + x.f1 ∧ (p : Int) + x.f1 ≤ dat.length
    · rw [if_pos g] at h; exact fin h (by omega) (by omega)
    · rw [if_neg g] at h; cases h
  rw [if_neg g0] at h
  by_cases g1 : x.f0 = 1
  · rw [if_pos g1] at h
    by_cases g : 0 ≤ x.f1 ∧ (s : Int) + x.f1 ≤ p
    · rw [if_pos g] at h; exact fin h (by omega) (by omega)
    · rw [if_neg g] at h; cases h
  rw [if_neg g1] at h
  by_cases g2 : x.f0 = 2
  · rw [if_pos g2] at h; exact fin h (by omega) (by omega)
  rw [if_neg g2] at h
  by_cases g3 : x.f0 = 3
  · rw [if_pos g3] at h; exact fin h (by omega) (by omega)
  rw [if_neg g3] at h
  by_cases g4 : x.f0 = 4
  · rw [if_pos g4] at h
    by_cases g : 0 ≤ (p : Int) + x.f1 ∧ (p : Int) + x.f1 ≤ dat.length
    · rw [if_pos g] at h; exact fin h (by omega) (by omega)
    · rw [if_neg g] at h; cases h
  rw [if_neg g4] at h
  by_cases g5 : x.f0 = 5
  · rw [if_pos g5] at h
    by_cases g : 0 ≤ (p : Int) + x.f1 ∧ (p : Int) + x.f1 ≤ dat.length
    · rw [if_pos g] at h; exact fin h (by omega) (by omega)
    · rw [if_neg g] at h; cases h
  rw [if_neg g5] at h
  by_cases g6 : x.f0 = 6
  · rw [if_pos g6] at h; exact fin h (by omega) (by omega)
  rw [if_neg g6] at h
  by_cases g7 : x.f0 = 7
  · rw [if_pos g7] at h; exact fin h (by omega) (by omega)
  rw [if_neg g7] at h
  by_cases g8 : x.f0 = 8
  · rw [if_pos g8] at h; exact fin h (by omega) (by omega)
  rw [if_neg g8] at h
  by_cases g9 : x.f0 = 9
  · rw [if_pos g9] at h
    by_cases g : 0 ≤ (p : Int) + x.f1 ∧ (p : Int) + x.f1 ≤ dat.length
    · rw [if_pos g] at h
      obtain ⟨r, _, h⟩ := Option.map_eq_some_iff.1 h
      exact fin (congrArg some h) (by omega) (by omega)
    · rw [if_neg g] at h; cases h
  rw [if_neg g9] at h
  by_cases g11 : x.f0 = 11
  · rw [if_pos g11] at h; exact fin h (by omega) (by omega)
  rw [if_neg g11] at h
  exact fin h (by omega) (by omega)
/-- What RunLexer tells. -/
def impl_RunLexer.f (l0 : List Int) (l1 : List S44) : Option (List S46) :=
  if l0.length < 35184372088832 ∧ l1.length < 1000000 ∧ (l0.all fun x => decide (0 ≤ x ∧ x ≤ 255)) = true then runL l0 l1 0 0 else none
theorem atL_byte {dat : List Int} (h : (dat.all fun x => decide (0 ≤ x ∧ x ≤ 255)) = true) (q : Nat) : 0 ≤ atL dat q ∧ atL dat q < 256 := by
  unfold atL
  rw [List.getD_eq_getElem?_getD]
  cases he : (dat ++ [0])[q]? with
  | none => simp
  | some v =>
    have hm := List.mem_of_getElem? he
    rcases List.mem_append.1 hm with hm | hm
    · have := of_decide_eq_true (List.all_eq_true.1 h v hm)
      simp only [Option.getD_some]
      omega
    · obtain rfl := List.mem_singleton.1 hm
      simp
/-- A character that is told. -/
theorem rune_any (gz base : Nat) (dat : List Int) (pos start d : Int) (q : Nat) (r : Int × Int) (w : World) (h : Aside0 (InAt w base gz dat pos start)) (hb : Aside0 ((-140737488355328 < pos ∧ pos < 140737488355328) ∧ (-140737488355328 < d ∧ d < 140737488355320))) (hq : d + pos = q) (hq2 : q ≤ dat.length) (hr : runeL dat q = some r) (hby : (dat.all fun x => decide (0 ≤ x ∧ x ≤ 255)) = true) :
    Calls Tryd.prog 40 #[.pointer (some ⟨gz, 0, none⟩), .int .i64 d] w fun e w' => e = .returned (.tuple #[.int .i32 r.1, .int .i64 r.2]) ∧ w = w' := by
  have a0 := atL_byte hby q
  have a1 := atL_byte hby (q + 1)
  have a2 := atL_byte hby (q + 2)
  have a3 := atL_byte hby (q + 3)
  unfold runeL at hr
  split at hr
  · rename_i g0
    obtain rfl := Option.some.inj hr
    exact rune1 gz base dat pos start d q _ w h ⟨⟨hb.out.1, by have := hb.out.2; omega⟩⟩ ⟨⟨hq, hq2⟩⟩ ⟨rfl⟩ a0.1 g0
  · split at hr
    · rename_i g0 g1
      split at hr
      · rename_i g2
        obtain rfl := Option.some.inj hr
        exact rune2 gz base dat pos start d q _ _ w h hb ⟨⟨hq, g1.1⟩⟩ ⟨rfl⟩ ⟨rfl⟩ a1.1 a1.2 (by omega) g2 g1.2
      · split at hr
        · rename_i g2 g3
          split at hr
          · rename_i g4
            obtain rfl := Option.some.inj hr
            exact rune3 gz base dat pos start d q _ _ _ w h hb ⟨⟨hq, g3.1⟩⟩ ⟨rfl⟩ ⟨rfl⟩ ⟨rfl⟩ a1.1 a1.2 g1.2 a2.1 a2.2 g3.2 (by omega) g4
          · split at hr
            · rename_i g4 g5
              obtain rfl := Option.some.inj hr
              exact rune4 gz base dat pos start d q _ _ _ _ w h hb ⟨⟨hq, g5.1⟩⟩ ⟨rfl⟩ ⟨rfl⟩ ⟨rfl⟩ ⟨rfl⟩ a1.1 a1.2 g1.2 a2.1 a2.2 g3.2 a3.1 a3.2 g5.2 (by omega) a0.2
            · cases hr
        · cases hr
    · cases hr
end Go.Proofs.YtgpmmmlmaaiobaaDoor.Own
