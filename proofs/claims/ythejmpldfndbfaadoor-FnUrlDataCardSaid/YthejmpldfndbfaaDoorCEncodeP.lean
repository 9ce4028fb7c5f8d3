/- (Of the table for URLs alone.) The contract of the function EncodeURL of the package: a byte that a table tells is escaped with two large hexadecimal digits, others stay. -/
import Derived.Test.YthejmpldfndbfaaDoorCown
import Derived.Test.YthejmpldfndbfaaDoorCTabU
import Derived.Laws.IdiomCopy
import Derived.Laws.CopyOwn
import Derived.Outline
namespace Go.Proofs.YthejmpldfndbfaaDoor.Own
open Go.RowKit Go.Proofs.YthejmpldfndbfaaDoorW.PrintWords Go.Proofs.YthejmpldfndbfaaDoorW.PrintLast
set_option linter.unusedVariables false
set_option linter.unusedSimpArgs false
theorem infoE : (Tryd.prog.info? 5).map (fun i => (i.zero, i.size, i.bytes)) = some (some (.int .u8 0), 1, 1) := by kernel_rfl
theorem sizeE : (Tryd.prog.info? 5).map (·.size) = some 1 := by kernel_rfl
def u8s (l : List Int) : List Value := l.map (Value.int .u8)
theorem row_cells {e : Nat} {w : World} {base g n c : Nat} {xs : List Int} (h : Kd.R (Kd.int .u8) e w base (fun _ => True) (.slice (some ⟨g, 0, none⟩) n c) xs) :
    ∃ cur, base ≤ g ∧ w.heap[g]? = some (.cells cur e (0, 0)) ∧ n = xs.length ∧ n ≤ c ∧ c ≤ maxLen ∧ cur.size = c ∧ cur.toList.take n = u8s xs := by
  have hn := (Kd.R_reads' h).1
  rcases (Kd.own_of_R h).2 with ⟨e, _⟩ | ⟨g', cap', cur, e, hb, hg, h1, h2, h3, h4⟩
  · cases e
  · cases e
    rw [← hn] at *
    exact ⟨cur, hb, hg, rfl, h1, h2, by simpa using h3, by simpa [encs, u8s] using h4⟩
/-- copy(b[p:], b[q:]) within a row of one's own, q ahead of p. -/
theorem R_copyin_run {P : Program} {W : World} {base : Nat} (t ty e : TypeId) (ht : P.underlying t = some (.slice e)) (hs : (P.info? e).map (·.size) = some 1) {g n c p q : Nat} {xs : List Int}
    (HO : Kd.R (Kd.int .u8) e W base (fun _ => True) (.slice (some ⟨g, 0, none⟩) n c) xs) (hq : q ≤ p) (hp : p ≤ n) (c2 c3 : Nat) {A B : Option Addr} (hA : A = if c = p then some ⟨g, 0, none⟩ else some ⟨g, p, none⟩) (hB : B = if c = q then some ⟨g, 0, none⟩ else some ⟨g, q, none⟩) :
    ∃ w1, (Builtin.copy_ #[t, t] ty #[.slice A (n - p) c2, .slice B (n - q) c3]).run P W = .ok (goInt ((n - p : Nat) : Int)) w1 ∧ Kd.R (Kd.int .u8) e w1 base (fun _ => True) (.slice (some ⟨g, 0, none⟩) n c) (xs.take p ++ (xs.drop q).take (n - p)) ∧ W.grownBy w1 (some g) := by
  obtain ⟨cur, hb, hg, hn, hnc, hcm, hsz, htk⟩ := row_cells HO
  by_cases h0 : n - p = 0
  · refine ⟨W, ?_, ?_, World.grownBy.refl W _⟩
    · have := run_copy_none (P := P) W t t ty e A B (n - p) c2 (n - q) c3 ht hs (by rw [h0]; simp)
      rw [this, h0]
      rfl
    · have e1 : xs.take p ++ (xs.drop q).take (n - p) = xs := by rw [h0, List.take_zero, List.append_nil, List.take_of_length_le (by omega)]
      rw [e1]
      exact HO
  · rw [if_neg (by omega)] at hA hB
    subst hA
    subst hB
    have hl : (u8s ((xs.drop q).take (n - p))).length = n - p := by simp [u8s]; omega
    have hat : ∀ j, j < n → W.cell? ⟨g, j, none⟩ = some (.int .u8 (xs.getD j 0)) := by
      intro j hj
      have h1 : cur.toList[j]? = (u8s xs)[j]? := by rw [← htk, List.getElem?_take, if_pos hj]
      rw [cell_of_row W g _ cur e (0, 0) hg, ← Array.getElem?_toList, h1]
      simp [u8s, List.getD_eq_getElem?_getD, List.getElem?_eq_getElem (show j < xs.length by omega)]
    have hrun := run_copy_cells (P := P) W t t ty e g p (n - p) c2 ⟨g, q, none⟩ (n - q) c3 (u8s ((xs.drop q).take (n - p))) ht hs (by rw [hl]; exact (Nat.min_eq_right (by omega)).symm)
      (fun j v hj => by
        have hjl : j < n - p := by rw [← hl]; exact (List.getElem?_eq_some_iff.1 hj).1
        have e1 : (⟨g, q, none⟩ : Addr).add j = ⟨g, q + j, none⟩ := by rw [← add_plain g q, add_add, add_plain]
        rw [e1, hat (q + j) (by omega)]
        rw [← hj]
        simp [u8s, List.getElem?_take, hjl, List.getD_eq_getElem?_getD, List.getElem?_eq_getElem (show q + j < xs.length by omega)])
      (fun j hj => by rw [hat (p + j) (by omega)]; rfl) (fun j hj => blk_frozen hg _) (fun v hv => by obtain ⟨x, _, rfl⟩ := List.mem_map.1 hv; rfl)
    rw [hl] at hrun
    obtain ⟨cur', h3, h4, h5⟩ := setCells_row (u8s ((xs.drop q).take (n - p))) p W cur hg (by omega)
    obtain ⟨s1, s2, s3, s4⟩ := setCells_same g (u8s ((xs.drop q).take (n - p))) p W
    refine ⟨_, hrun, ?_, ⟨s1, s2, s3, by rw [s4]; exact Nat.le_refl _, fun k' _ hk' => setCells_far _ p k' (fun he => hk' (by rw [he]))⟩⟩
    have hxl : (xs.take p ++ (xs.drop q).take (n - p)).length = n := by simp; omega
    have := R_block (k := .u8) (xs := xs.take p ++ (xs.drop q).take (n - p)) h3 hb (by omega) (by omega) hcm (by
      rw [hxl, h5]
      have e1 : cur.toList.take p = (u8s xs).take p := by rw [← htk, List.take_take, Nat.min_eq_left hp]
      rw [e1, List.take_left' (by simp [u8s]; omega)]
      simp only [u8s, List.map_append, List.map_take, List.map_drop])
    rw [hxl] at this
    exact this
section
variable {P : Program} {ops : Array Oper} {o : Oper} {a : Act} {Q : Exit → Act → World → Prop} {Kc : Act → World → Prop}
theorem R_copyin_step {W : World} (base : Nat) (hw : Region.wanted o (yielded ops a.tmps) = true) (s x : Operand) (t e : TypeId) (ho : o.op = .call { callee := .builtin .copy, args := #[s, x], argTypes := #[t, t] })
    (ht : P.underlying t = some (.slice e)) (hsz : (P.info? e).map (·.size) = some 1) {g n c p q m1 m2 c2 c3 : Nat} {A B : Option Addr} {xs : List Int}
    (hs : a.eval s = .slice A m1 c2) (hx : a.eval x = .slice B m2 c3) (hm1 : m1 = n - p) (hm2 : m2 = n - q) (hA : A = if c = p then some ⟨g, 0, none⟩ else some ⟨g, p, none⟩) (hB : B = if c = q then some ⟨g, 0, none⟩ else some ⟨g, q, none⟩)
    (HO : Kd.R (Kd.int .u8) e W base (fun _ => True) (.slice (some ⟨g, 0, none⟩) n c) xs) (hq : q ≤ p) (hp : p ≤ n)
    (h : ∀ w1, Kd.R (Kd.int .u8) e w1 base (fun _ => True) (.slice (some ⟨g, 0, none⟩) n c) (xs.take p ++ (xs.drop q).take (n - p)) → W.grownBy w1 (some g) → Kc (a.put o.dst (goInt ((n - p : Nat) : Int))) w1) :
    if Region.wanted o (yielded ops a.tmps) = true then Oper.wp P o a W Kc Q else Kc (a.put o.dst undef) W := by
  subst hm1; subst hm2
  obtain ⟨w1, hr, h1, h2⟩ := R_copyin_run (P := P) t o.type e ht hsz HO hq hp c2 c3 hA hB
  rw [if_pos hw]
  unfold Oper.wp execOp
  simp only [ho, resolve, invoke, builtin, Sem.run_bind, Sem.run_pure, Result.andThen_ok, List.map_toArray, List.map_cons, List.map_nil, hs, hx, hr]
  exact h w1 h1 h2
end
abbrev hexS : ByteArray := ⟨#[48, 49, 50, 51, 52, 53, 54, 55, 56, 57, 65, 66, 67, 68, 69, 70]⟩
def byE (c : Int) : Bool := decide (0 ≤ c) && decide (c < 256)
def encI (f : Nat → Bool) : List Int → List Int
  | [] => []
  | c :: t => if f c.toNat = true then 37 :: bt hexS (c / 16) :: bt hexS (c % 16) :: encI f t else c :: encI f t
theorem enc_len (f : Nat → Bool) : ∀ l, l.length ≤ (encI f l).length
  | [] => Nat.le_refl _
  | c :: t => by
    have := enc_len f t
    unfold encI
    split <;> simp <;> omega
theorem enc_yes {f : Nat → Bool} {c : Int} {t : List Int} (h : f c.toNat = true) : encI f (c :: t) = 37 :: bt hexS (c / 16) :: bt hexS (c % 16) :: encI f t := by rw [encI, if_pos h]
theorem enc_no {f : Nat → Bool} {c : Int} {t : List Int} (h : f c.toNat = false) : encI f (c :: t) = c :: encI f t := by rw [encI, if_neg (by rw [h]; simp)]
theorem TabAt.grown {gb g : Nat} {f : Nat → Bool} {w w' : World} (h : TabAt gb f w) (hg : w.grownBy w' (some g)) (hne : gb ≠ g) : TabAt gb f w' := fun i hi => by
  have h1 := h i hi
  have hb := hg.block gb (World.block_lt_of_cell? w _ h1) (by intro e; cases e; exact hne rfl)
  unfold World.cell? at h1 ⊢
  rw [hb]
  exact h1
def HexF (f : Nat → Bool) : Prop := ∀ d : Int, 0 ≤ d → d < 16 → f (bt hexS d).toNat = false
theorem set_mid' {D T : List Int} {c x : Int} {k : Nat} (hk : k = D.length) : (D ++ c :: T).set k x = D ++ x :: T := by
  subst hk
  simp
theorem rdOf_midE {D T : List Int} {c : Int} {k : Nat} (hk : k = D.length) : rdOf 0 (D ++ c :: T) (k : Int) = c := by
  subst hk
  simp [rdOf, List.getD_eq_getElem?_getD]
theorem wadd (k : Nat) (j : Int) (h0 : 0 ≤ j) (h : (k : Int) + j < 9223372036854775808) : wrap64 ((k : Int) + j) = (k : Int) + j := by unfold wrap64; omega
set_option maxRecDepth 20000
def enc.T7 : Bool × List (List Nat × List Nat) := (true, [([], []), ([], []), ([1], [1]), ([0, 2], [0, 2]), ([], []), ([], []), ([5], [5]), ([4, 6], [4, 6]), ([3, 7], [3, 7])])
def enc.B7 : List Nat := [0, 0, 2, 7, 0, 0, 32, 112, 255]
theorem enc.tab7 : rtab .any (opsOf Tryd.f14 7) = enc.T7 := by kernel_rfl
theorem enc.bits7 : waitsOk enc.T7.2 enc.B7 = true := by kernel_rfl
set_option maxHeartbeats 2000000 in
theorem encode_any (f : Nat → Bool) (hf : HexF f) (g0 cap0 base n0 : Nat) (l : List Int) (w : World) (hR : Kd.R (Kd.int .u8) 5 w base (fun _ => True) (.slice (some ⟨g0, 0, none⟩) n0 cap0) l) (hbase : base ≤ w.heap.size) (hm : (encI f l).length < 140737488355328) (hb : l.all byE = true) :
    Calls Tryd.prog 14 #[.slice (some ⟨g0, 0, none⟩) n0 cap0, .agg (cellsOfTab f)] w fun e w' => ∃ g n cap, e = .returned (.slice (some ⟨g, 0, none⟩) n cap) ∧ Kd.R (Kd.int .u8) 5 w' base (fun _ => True) (.slice (some ⟨g, 0, none⟩) n cap) (encI f l) ∧ Below base w w' := by
  have HR := Aside0.mk hR
  have HBy := Aside0.mk hb
  have HF := Aside0.mk hf
  have HBS := Aside0.mk hbase
  obtain ⟨N, hN⟩ : ∃ N, N = (encI f l).length := ⟨_, rfl⟩
  rw [← hN] at hm
  have HN := Aside0.mk hN
  clear hR hb hf hN hbase
  obtain ⟨cs, hcs⟩ : ∃ cs, cs = cellsOfTab f := ⟨_, rfl⟩
  rw [← hcs]
  have HCS := Aside0.mk hcs
  clear hcs
  go_enter Tryd.func14, Tryd.ntmps14
  go_wp2
  obtain ⟨gb, hgb⟩ : ∃ gb, gb = w.heap.size := ⟨_, rfl⟩
  obtain ⟨wb, hwb⟩ : ∃ wb, wb = w.alloc (.cells cs 40) := ⟨_, rfl⟩
  have hT0 : TabAt gb f wb := by
    intro i hi
    have := heap_alloc_new w (.cells cs 40)
    rw [hwb, hgb]
    unfold World.cell?
    rw [this, HCS.out]
    unfold cellsOfTab
    simp [hi]
  have hB0 : Below base w wb := by rw [hwb]; exact (Below.refl base w).alloc HBS.out _
  have hR0 : Kd.R (Kd.int .u8) 5 wb base (fun _ => True) (.slice (some ⟨g0, 0, none⟩) n0 cap0) l := by rw [hwb]; exact Kd.R_alloc HR.out _
  have hne0 : gb ≠ g0 := by
    obtain ⟨cur, _, hg, _⟩ := row_cells HR.out
    have := (Array.getElem?_eq_some_iff.1 hg).1
    omega
  rw [← hwb, ← hgb]
  have HT0 := Aside0.mk hT0
  have HB0 := Aside0.mk hB0
  have HR0 := Aside0.mk hR0
  have HGB := Aside0.mk hgb
  clear hT0 hB0 hR0 hgb hwb HCS
  go_loopw [0, 5] (fun b i wr => ∃ (D T : List Int) (k n g cap : Nat), b = .slice (some ⟨g, 0, none⟩) n cap ∧ i = .int .i64 k ∧ k ≤ n ∧ n ≤ N ∧ gb ≠ g ∧ Aside0 (k = D.length ∧ n = (D ++ T).length) ∧
      Aside0 (Kd.R (Kd.int .u8) 5 wr base (fun _ => True) (.slice (some ⟨g, 0, none⟩) n cap) (D ++ T)) ∧ Aside0 (D ++ encI f T = encI f l) ∧ Aside0 (T.all byE = true) ∧ Aside0 (Below base w wr) ∧ Aside0 (TabAt gb f wr))
    (fun _ i _ => N - (intOf i).toNat)
  case atStart =>
    have h1 := (Kd.R_reads' HR0.out).1
    exact ⟨[], l, 0, n0, g0, cap0, rfl, rfl, Nat.zero_le _, by have := enc_len f l; rw [h1]; have := HN.out; omega, hne0, ⟨⟨rfl, by simpa using h1⟩⟩, ⟨HR0.out⟩, ⟨rfl⟩, ⟨HBy.out⟩, HB0, HT0⟩
  case round =>
    obtain ⟨D, T, k, n, g, cap, rfl, rfl, hkn, hn, hne, HL, HR1, HD, HT, HB1, HTab⟩ := hrel
    cases T with
    | nil =>
      have hkk : k = n := by have := HL.out; simp at this; omega
      subst hkk
      go_wp2
      go_ret
      have e : D = encI f l := by have := HD.out; rw [encI, List.append_nil] at this; exact this
      exact ⟨g, k, cap, rfl, by rw [← e]; simpa using HR1.out, HB1.out⟩
    | cons c T =>
      have hlt : k < n := by have := HL.out; simp at this; omega
      obtain ⟨hcell, hfr⟩ := Kd.R_celln (0 : Int) HR1.out (k : Int) (by omega) (by omega)
      rw [rdOf_midE HL.out.1] at hcell
      simp only [Int.toNat_natCast] at hcell hfr
      have hcb : 0 ≤ c ∧ c < 256 := by
        have := HT.out
        rw [List.all_cons, Bool.and_eq_true] at this
        simpa [byE] using this.1
      have HT' := Aside0.mk (show T.all byE = true from by have := HT.out; rw [List.all_cons, Bool.and_eq_true] at this; exact this.2)
      have htab := TabAt.at HTab.out hcb.1 hcb.2
      cases hfc : f c.toNat with
      | false =>
        rw [hfc] at htab
        have HFC := Aside0.mk hfc
        clear hfc
        go_wp2
        go_roundw
        case rel =>
          refine ⟨D ++ [c], T, k + 1, n, g, cap, rfl, rfl, by omega, hn, hne, ⟨⟨by simp [HL.out.1], by have := HL.out.2; simp at this ⊢; omega⟩⟩, ⟨by simpa using HR1.out⟩, ⟨?_⟩, HT', HB1, HTab⟩
          have := HD.out
          rw [enc_no HFC.out] at this
          simpa using this
        case measure => simp [intOf]; omega
      | true =>
        rw [hfc] at htab
        have HFC := Aside0.mk hfc
        clear hfc
        have hroom : n + 2 ≤ N := by
          have h1 := congrArg List.length HD.out
          rw [enc_yes HFC.out] at h1
          have h2 := enc_len f T
          have h3 := HN.out
          have h4 := HL.out.2
          simp at h1 h4
          omega
        have hC2 : Kd.C (Kd.int .u8) (wr.alloc (.cells #[.int .u8 0, .int .u8 0] 5)) (some ⟨wr.heap.size, 0, none⟩) 2 [0, 0] := by
          refine Kd.C_of_reads (d := (0 : Int)) (h1 := fun _ => rfl) ⟨rfl, by omega, fun _ => ⟨_, rfl, fun j hj => ?_⟩⟩
          rw [add_plain]
          have := heap_alloc_new wr (.cells #[.int .u8 0, .int .u8 0] 5)
          unfold World.cell?
          rw [this]
          match j, hj with
          | 0, _ => rfl
          | 1, _ => rfl
        have HC2 := Aside0.mk hC2
        clear hC2
        have hws : base ≤ wr.heap.size := HB1.out.size |> fun h => Nat.le_trans HBS.out h
        have HWS := Aside0.mk hws
        have HHL := Aside0.mk (show ((D ++ c :: T).length + 2) * 1 ≤ 140737488355328 by have := HL.out.2; omega)
        clear hws
        go_wp2_with ((with_reducible refine gate_builtin (b := .append) (xs := #[.tmp 20, .tmp 21]) rfl ?_); at_builtin; refine Kd.R_append_rows (Kd.int .u8) (w0 := w) base rfl (.tmp 20) (.tmp 21) 22 5 (.int .u8 0) 1 rfl Tryd.underlying22 infoE rfl (by decide) (by omega) (.slice (some ⟨g, 0, none⟩) n cap) (D ++ c :: T) [0, 0] _ _ _ (fun _ => True) (fun _ => False) rfl rfl (Kd.R_alloc HR1.out _) HC2.out (fun _ _ h => h) (fun _ h => h.elim) (fun _ _ => trivial) (HB1.out.alloc HWS.out _) (Nat.le_trans HWS.out (by rw [World.size_alloc]; omega)) HHL.out ?_)
        intro v1 w1 hR2 hB2 hG2 hat2
        rcases (Kd.own_of_R hR2).2 with ⟨_, e0⟩ | ⟨g2, cap2, cur2, rfl, hb2, hg2, _⟩
        · simp at e0
        · obtain ⟨n2, hn2⟩ : ∃ n2, n2 = (D ++ c :: (T ++ [0, 0])).length := ⟨_, rfl⟩
          rw [← hn2] at hR2 hat2 ⊢
          have hn2' : n2 = n + 2 := by have := HL.out.2; simp at hn2 this; omega
          have hk3 : (k : Int) + 3 ≤ n2 := by omega
          have hk1 : (k : Int) + 1 ≤ n2 := by omega
          have hn2b : n2 < 140737488355328 := by omega
          have hne2 : gb ≠ g2 := by
            have h1 := World.block_lt_of_cell? wr _ (HTab.out 0 (by omega))
            simp only [Value.ownBlock, Option.some.injEq] at hat2
            rcases hat2 with e | ⟨b, e, hb⟩
            · omega
            · simp only at h1
              omega
          have hT2 : TabAt gb f w1 := (HTab.out.below (below_alloc (Below.refl _ _) _)).grown hG2 hne
          have HR2 := Aside0.mk hR2
          have HB2 := Aside0.mk hB2
          have HT2 := Aside0.mk hT2
          have HN2 := Aside0.mk hn2'
          have HG2 := Aside0.mk hb2
          clear hR2 hB2 hG2 hat2 hn2 hn2' hT2 hg2 hb2 hcell hfr htab
          have hq13 : k + 1 ≤ k + 3 := by omega
          have hp3 : k + 3 ≤ n2 := by omega
          have hb3 : (k : Int) + 3 < 9223372036854775808 := by omega
          have hw1 := wadd k 1 (by decide) (by omega)
          have hw3 := wadd k 3 (by decide) hb3
          have hk30 : 0 ≤ (k : Int) + 3 := Int.add_nonneg (Int.natCast_nonneg k) (by decide)
          have hk10 : 0 ≤ (k : Int) + 1 := Int.add_nonneg (Int.natCast_nonneg k) (by decide)
          have ht3 : ((k : Int) + 3).toNat = k + 3 := rfl
          have ht1 : ((k : Int) + 1).toNat = k + 1 := rfl
          go_wp2
          refine start_ (n := 9) (S := fun w' => True) (ds := []) #[false, false, false, false, false, false, false, false, false] (by kernel_rfl) rfl rfl trivial (fun hHeld => ?_)
          refine with_tabW enc.tab7 enc.bits7 (fun HT_ HW_ => ?_)
          refine pure_ (i := 0) (N := (some 23)) (v := ?_) (a' := ?_) #[true, false, false, false, false, false, false, false, false] rfl rfl (any_of HT_.out (by kernel_rfl)) (fun _ _ _ h => h) (Or.inl ⟨by rfl, ?_⟩) ?_ ?_
          rotate_left
          · intro w'
            go_simp
            with_reducible rfl
          rotate_left
          · simp only [Act.put, List.setIfInBounds_toArray, List.set_cons_zero, List.set_cons_succ, i64_w, i32_w]
            rfl
          refine pure_ (i := 1) (N := (some 24)) (v := ?_) (a' := ?_) #[true, true, false, false, false, false, false, false, false] rfl rfl (any_of HT_.out (by kernel_rfl)) (fun _ _ _ h => h) (Or.inl ⟨by rfl, ?_⟩) ?_ ?_
          rotate_left
          · intro w'
            go_simp
            with_reducible rfl
          rotate_left
          · simp only [Act.put, List.setIfInBounds_toArray, List.set_cons_zero, List.set_cons_succ, i64_w, i32_w]
            rfl
          refine pure_ (i := 2) (N := (some 25)) (v := ?_) (a' := ?_) #[true, true, true, false, false, false, false, false, false] rfl rfl (any_of HT_.out (by kernel_rfl)) (fun _ _ _ h => h) (Or.inl ⟨by rfl, ?_⟩) ?_ ?_
          rotate_left
          · intro w'
            go_simp
            with_reducible rfl
          rotate_left
          · simp only [Act.put, List.setIfInBounds_toArray, List.set_cons_zero, List.set_cons_succ, i64_w, i32_w]
            rfl
          refine pure_ (i := 4) (N := (some 27)) (v := ?_) (a' := ?_) #[true, true, true, false, true, false, false, false, false] rfl rfl (any_of HT_.out (by kernel_rfl)) (fun _ _ _ h => h) (Or.inl ⟨by rfl, ?_⟩) ?_ ?_
          rotate_left
          · intro w'
            go_simp
            with_reducible rfl
          rotate_left
          · simp only [Act.put, List.setIfInBounds_toArray, List.set_cons_zero, List.set_cons_succ, i64_w, i32_w]
            rfl
          refine pure_ (i := 5) (N := (some 28)) (v := ?_) (a' := ?_) #[true, true, true, false, true, true, false, false, false] rfl rfl (any_of HT_.out (by kernel_rfl)) (fun _ _ _ h => h) (Or.inl ⟨by rfl, ?_⟩) ?_ ?_
          rotate_left
          · intro w'
            go_simp
            with_reducible rfl
          rotate_left
          · simp only [Act.put, List.setIfInBounds_toArray, List.set_cons_zero, List.set_cons_succ, i64_w, i32_w]
            rfl
          refine pure_ (i := 6) (N := (some 29)) (v := ?_) (a' := ?_) #[true, true, true, false, true, true, true, false, false] rfl rfl (any_of HT_.out (by kernel_rfl)) (fun _ _ _ h => h) (Or.inl ⟨by rfl, ?_⟩) ?_ ?_
          rotate_left
          · intro w'
            go_simp
            with_reducible rfl
          rotate_left
          · simp only [Act.put, List.setIfInBounds_toArray, List.set_cons_zero, List.set_cons_succ, i64_w, i32_w]
            rfl
          refine pure_ (i := 3) (N := (some 26)) (v := ?_) (a' := ?_) #[true, true, true, true, true, true, true, false, false] rfl rfl (any_of HT_.out (by kernel_rfl)) (fun _ _ _ h => h) (Or.inl ⟨by rfl, ?_⟩) ?_ ?_
          rotate_left
          · intro w'
            go_simp
            with_reducible rfl
          rotate_left
          · simp only [Act.put, List.setIfInBounds_toArray, List.set_cons_zero, List.set_cons_succ, i64_w, i32_w]
            rfl
          refine pure_ (i := 7) (N := (some 30)) (v := ?_) (a' := ?_) #[true, true, true, true, true, true, true, true, false] rfl rfl (any_of HT_.out (by kernel_rfl)) (fun _ _ _ h => h) (Or.inl ⟨by rfl, ?_⟩) ?_ ?_
          rotate_left
          · intro w'
            go_simp
            with_reducible rfl
          rotate_left
          · simp only [Act.put, List.setIfInBounds_toArray, List.set_cons_zero, List.set_cons_succ, i64_w, i32_w]
            rfl
          refine one_ (i := 8) (N := (some 31)) #[true, true, true, true, true, true, true, true, true] rfl rfl (one_of HT_.out (by kernel_rfl)) (by simp) (fun K_ hK_ => ?_)
          refine R_copyin_step (P := Tryd.prog) base (by rfl) (.tmp 26) (.tmp 30) 22 5 rfl Tryd.underlying22 sizeE (g := g2) (n := n2) (c := cap2) (p := k + 3) (q := k + 1) (m1 := n2 - (k + 3)) (m2 := n2 - (k + 1)) (c2 := cap2 - (k + 3)) (c3 := cap2 - (k + 1)) (A := if cap2 = k + 3 then some ⟨g2, 0, none⟩ else some ⟨g2, k + 3, none⟩) (B := if cap2 = k + 1 then some ⟨g2, 0, none⟩ else some ⟨g2, k + 1, none⟩) (by rfl) (by rfl) rfl rfl rfl rfl (Kd.R_drew HR2.out) hq13 hp3 (fun w3 hR3 hG3 => ?_)
          refine hK_ _ _ trivial (fun _ => ?_)
          refine done_ (done_of HT_.out (by kernel_rfl)) ?_
          clear hw1 hw3 hk30 hk10 ht3 ht1
          have hk1n : k + 1 ≤ n2 := by omega
          have hn2N : n2 ≤ N := by have := HN2.out; omega
          have HM := Aside0.mk (show N - (intOf (.int .i64 ((k : Int) + 1))).toNat < N - (intOf (.int .i64 (k : Int))).toNat from by show N - (k + 1) < N - k; omega)
          obtain ⟨a, b, hL3⟩ : ∃ a b, (D ++ c :: (T ++ [0, 0])).take (k + 3) ++ ((D ++ c :: (T ++ [0, 0])).drop (k + 1)).take (n2 - (k + 3)) = D ++ c :: a :: b :: T := by
            have hU : ∃ a b U, T ++ [0, 0] = a :: b :: U := by
              match T with
              | [] => exact ⟨_, _, _, rfl⟩
              | [x] => exact ⟨_, _, _, rfl⟩
              | x :: y :: T => exact ⟨_, _, _, rfl⟩
            obtain ⟨a, b, U, hU⟩ := hU
            refine ⟨a, b, ?_⟩
            have e1 : (D ++ c :: (T ++ [0, 0])).take (k + 3) = D ++ [c, a, b] := by
              rw [HL.out.1, hU, List.take_append, List.take_of_length_le (by omega), show D.length + 3 - D.length = 3 by omega]
              rfl
            have e2 : (D ++ c :: (T ++ [0, 0])).drop (k + 1) = T ++ [0, 0] := by
              rw [HL.out.1, List.drop_append, List.drop_of_length_le (by omega), show D.length + 1 - D.length = 1 by omega]
              rfl
            have e3 : n2 - (k + 3) = T.length := by
              have h1 := HL.out
              have h2 := HN2.out
              simp at h1
              omega
            rw [e1, e2, e3, List.take_left' rfl]
            simp
          rw [hL3] at hR3
          clear hL3
          have hB3 : Below base w w3 := pw_below_grown (HB2.out.drew) (some g2) (Nat.le_trans HBS.out HB2.out.size) hG3 (fun q hq => by obtain rfl := Option.some.inj hq; exact HG2.out)
          have hT3 : TabAt gb f w3 := TabAt.grown (w := w1.drew) HT2.out hG3 hne2
          obtain ⟨x1, hx1⟩ : ∃ x, bt hexS (c / 16) = x := ⟨_, rfl⟩
          obtain ⟨x2, hx2⟩ : ∃ x, bt hexS (c % 16) = x := ⟨_, rfl⟩
          have hX1 := bt_at (⟨#[48, 49, 50, 51, 52, 53, 54, 55, 56, 57, 65, 66, 67, 68, 69, 70]⟩ : ByteArray) (c / 16)
          have hX2 := bt_at (⟨#[48, 49, 50, 51, 52, 53, 54, 55, 56, 57, 65, 66, 67, 68, 69, 70]⟩ : ByteArray) (c % 16)
          rw [hx1] at hX1
          rw [hx2] at hX2
          have HF1 := Aside0.mk (show f x1.toNat = false from by rw [← hx1]; exact HF.out _ (by omega) (by omega))
          have HF2 := Aside0.mk (show f x2.toNat = false from by rw [← hx2]; exact HF.out _ (by omega) (by omega))
          have HBY := Aside0.mk (show (x1 :: x2 :: T).all byE = true from by
            have h1 := bt_range hexS (c / 16)
            have h2 := bt_range hexS (c % 16)
            rw [hx1] at h1
            rw [hx2] at h2
            rw [List.all_cons, List.all_cons, HT'.out]
            unfold byE
            rw [decide_eq_true h1.1, decide_eq_true h2.1, decide_eq_true (by omega : x1 < 256), decide_eq_true (by omega : x2 < 256)]
            rfl)
          have HL3 := Aside0.mk (show k + 1 = (D ++ [37]).length ∧ n2 = (D ++ [37] ++ x1 :: x2 :: T).length from by
            have h1 := HL.out
            have h2 := HN2.out
            simp at h1 ⊢
            omega)
          have HX1 := Aside0.mk hx1
          have HX2 := Aside0.mk hx2
          clear hx1 hx2
          obtain ⟨c1, f1⟩ := Kd.R_celln (0 : Int) hR3 (k : Int) (by omega) (by omega)
          obtain ⟨p1, q1⟩ := Kd.R_putg hR3 (k : Int) 37
          rw [Int.toNat_natCast] at c1 f1 p1 q1
          rw [set_mid' HL.out.1] at p1
          obtain ⟨c2, f2⟩ := Kd.R_celln (0 : Int) p1 ((k + 1 : Nat) : Int) (by omega) (by omega)
          obtain ⟨p2, q2⟩ := Kd.R_putg p1 ((k + 1 : Nat) : Int) x1
          rw [Int.toNat_natCast] at c2 f2 p2 q2
          rw [show D ++ 37 :: a :: b :: T = (D ++ [37]) ++ a :: b :: T by simp, set_mid' (by simp [HL.out.1])] at p2
          obtain ⟨c3, f3⟩ := Kd.R_celln (0 : Int) p2 ((k + 2 : Nat) : Int) (by omega) (by omega)
          obtain ⟨p3, q3⟩ := Kd.R_putg p2 ((k + 2 : Nat) : Int) x2
          rw [Int.toNat_natCast] at c3 f3 p3 q3
          rw [show (D ++ [37]) ++ x1 :: b :: T = (D ++ [37, x1]) ++ b :: T by simp, set_mid' (by simp [HL.out.1])] at p3
          have hbl : ∀ {wx wy : World}, Below base w wx → wx.grownBy wy (some g2) → Below base w wy := fun {wx wy} hx hg => pw_below_grown hx (some g2) (Nat.le_trans HBS.out hx.size) hg (fun q hq => by obtain rfl := Option.some.inj hq; exact HG2.out)
          have HB5 := Aside0.mk (hbl (hbl (hbl hB3 q1) q2) q3)
          have HT5 := Aside0.mk (((hT3.grown q1 hne2).grown q2 hne2).grown q3 hne2)
          have HR5 := Aside0.mk p3
          clear hR3 hG3 hB3 hT3 p1 p2 p3 q1 q2 q3 hbl
          have h15 := u8_and15 c hcb.1 hcb.2
          have hd1 : 0 ≤ c / 16 ∧ c / 16 < 16 := by omega
          have hd2 : 0 ≤ c % 16 ∧ c % 16 < 16 := by omega
          obtain ⟨j1, hj1⟩ : ∃ j, c / 16 = j := ⟨_, rfl⟩
          obtain ⟨j2, hj2⟩ : ∃ j, c % 16 = j := ⟨_, rfl⟩
          rw [hj1] at hX1 hd1
          rw [hj2] at hX2 hd2 h15
          have p1 := eq_true hd1.1
          have q1 := eq_true hd1.2
          have p2 := eq_true hd2.1
          have q2 := eq_true hd2.2
          clear hd1 hd2 hj2
          have hi0 : (k : Int) < n2 := by omega
          have hi1 : (k : Int) + 1 < n2 := by omega
          have hi2 : (k : Int) + 2 < n2 := by omega
          go_wp2
          go_roundw
          case rel =>
            refine ⟨D ++ [37], x1 :: x2 :: T, k + 1, n2, g2, cap2, rfl, rfl, hk1n, hn2N, hne2, ⟨HL3.out⟩, ⟨?_⟩, ⟨?_⟩, ⟨HBY.out⟩, HB5, HT5⟩
            · have e : D ++ [37] ++ (x1 :: x2 :: T) = D ++ [37, x1] ++ x2 :: T := by simp
              rw [e]
              exact HR5.out
            · have := HD.out
              rw [enc_yes HFC.out, HX1.out, HX2.out] at this
              rw [enc_no HF1.out, enc_no HF2.out]
              simpa using this
          case measure => exact HM.out
set_option maxRecDepth 20000 in
set_option maxHeartbeats 1000000 in
theorem encode_nil (f : Nat → Bool) (base : Nat) (w : World) (hbase : base ≤ w.heap.size) : Calls Tryd.prog 14 #[.slice none 0 0, .agg (cellsOfTab f)] w fun e w' => e = .returned (.slice none 0 0) ∧ Below base w w' := by
  obtain ⟨cs, hcs⟩ : ∃ cs, cs = cellsOfTab f := ⟨_, rfl⟩
  rw [← hcs]
  go_enter Tryd.func14, Tryd.ntmps14
  go_wp2
  refine wp_loop_rounds 1 ?_
  rw [rounds_succ]
  go_wp2
  go_ret
  exact ⟨rfl, (Below.refl base w).alloc hbase _⟩
theorem encode_both (f : Nat → Bool) (hf : HexF f) (base : Nat) (v : Value) (l : List Int) (w : World) (hR : Kd.R (Kd.int .u8) 5 w base (fun _ => True) v l) (hbase : base ≤ w.heap.size) (hm : (encI f l).length < 140737488355328) (hb : l.all byE = true) :
    Calls Tryd.prog 14 #[v, .agg (cellsOfTab f)] w fun e w' => ∃ v', e = .returned v' ∧ Kd.R (Kd.int .u8) 5 w' base (fun _ => True) v' (encI f l) ∧ Below base w w' := by
  rcases (Kd.own_of_R hR).2 with ⟨rfl, h0⟩ | ⟨g, cap, cur, rfl, hg, _⟩
  · obtain rfl := List.eq_nil_of_length_eq_zero h0
    refine (encode_nil f base w hbase).mono ?_
    rintro e w' ⟨rfl, hB⟩
    refine ⟨_, rfl, ?_, hB⟩
    exact Kd.R_of_own (h1 := fun _ => rfl) ⟨rfl, .inl ⟨rfl, rfl⟩⟩ (fun _ _ => trivial)
  · refine (encode_any f hf g cap base l.length l w hR hbase hm hb).mono ?_
    rintro e w' ⟨g', n', cap', rfl, h1, h2⟩
    exact ⟨_, rfl, h1, h2⟩
theorem load_tab {P : Program} {w : World} {g : Nat} {f : Nat → Bool} {t : TypeId} (h : TabAt g f w) (ha : ∀ w, (isAgg t).run P w = .ok true w) (hs : ∀ w, (sizeOf t).run P w = .ok 256 w) : (loadVar t ⟨g, 0, none⟩).run P w = .ok (.agg (cellsOfTab f)) w := by
  have hl := run_loadCells_list (P := P) w ⟨g, 0, none⟩ (cellsOfTab f).toList (by
    intro j v hj
    have hjl : j < 256 := by
      have := (List.getElem?_eq_some_iff.1 hj).1
      simpa [cellsOfTab] using this
    rw [add_plain, h j hjl, ← hj]
    simp [cellsOfTab, hjl])
  have e : (cellsOfTab f).toList.length = 256 := by simp [cellsOfTab]
  rw [e] at hl
  unfold loadVar
  simp only [Sem.run_bind, ha, Result.andThen_ok, if_true, hs]
  rw [hl]
  simp
def ienc.T2 : Bool × List (List Nat × List Nat) := (true, [([], []), ([0], [0]), ([], []), ([1, 2, 1], [1, 2]), ([3, 3], [3]), ([4, 4, 0, 1, 2, 3, 4], [4])])
def ienc.B2 : List Nat := [0, 1, 0, 7, 15, 31]
theorem ienc.tab2 : rtab .any (opsOf Tryd.f9 2) = ienc.T2 := by kernel_rfl
theorem ienc.bits2 : waitsOk ienc.T2.2 ienc.B2 = true := by kernel_rfl
def ienc.T3 : Bool × List (List Nat × List Nat) := (true, [([], []), ([0], [0]), ([], []), ([1, 2, 1], [1, 2]), ([3, 3], [3]), ([4, 4, 0, 1, 2, 3, 4], [4])])
def ienc.B3 : List Nat := [0, 1, 0, 7, 15, 31]
theorem ienc.tab3 : rtab .any (opsOf Tryd.f9 3) = ienc.T3 := by kernel_rfl
theorem ienc.bits3 : waitsOk ienc.T3.2 ienc.B3 = true := by kernel_rfl
theorem load_op {P : Program} {w : World} {g : Nat} {f : Nat → Bool} {t : TypeId} {o : Oper} {ev : Operand → Value} (h : TabAt g f w) (ha : ∀ w, (isAgg t).run P w = .ok true w) (hs : ∀ w, (sizeOf t).run P w = .ok 256 w)
    (ho : o.op = .load t (.global g)) (hev : ev (.global g) = .pointer (some ⟨g, 0, none⟩)) : (execOp ev o).run P w = .ok (.value (.agg (cellsOfTab f))) w := by
  have hl := load_tab (P := P) h ha hs
  unfold execOp
  simp only [ho, hev, Instr.loadAt, Instr.sureAddr, Sem.run_bind, Sem.run_pure, Result.andThen_ok, hl]
theorem agg33 : ∀ w, (isAgg 40).run Tryd.prog w = .ok true w := fun w => by kernel_rfl
theorem size33 : ∀ w, (sizeOf 40).run Tryd.prog w = .ok 256 w := fun w => by kernel_rfl
def impl_EncodeURL.f (l0 : List Int) (a1 : Int) : Option (List Int) := if a1 ≠ 1 ∧ l0.length < 140737488355328 ∧ l0.all byE = true ∧ (encI (if a1 = 1 then isD else isU) l0).length < 140737488355328 then some (encI (if a1 = 1 then isD else isU) l0) else none
theorem hexF_both : HexF isD ∧ HexF isU := by
  have h : ∀ n : Nat, n < 16 → isD (bt hexS (n : Int)).toNat = false ∧ isU (bt hexS (n : Int)).toNat = false := by decide +kernel
  constructor <;> intro d h0 h1 <;> obtain ⟨n, rfl⟩ := Int.eq_ofNat_of_zero_le h0
  · exact (h n (by omega)).1
  · exact (h n (by omega)).2
set_option maxHeartbeats 1000000 in
theorem impl_EncodeURL.calls (A0 : Option Addr) (c0 : Nat) (l0 : List Int) (a1 : Int) (r : List Int) (w : World) (hr0 : Kd.C (Kd.int .u8) w A0 l0.length l0) (hc0 : l0.length ≤ c0) (h : impl_EncodeURL.f l0 a1 = some r) (HTabU : Aside0 (TabU w)) :
    Calls Tryd.prog 9 #[.slice A0 l0.length c0, .int .i64 a1] w fun e w' => ∃ v0_ : Value, e = .returned (v0_) ∧ Kd.R (Kd.int .u8) 5 w' w.heap.size (fun _ => True) v0_ r ∧ Below w.heap.size w w' := by
  unfold impl_EncodeURL.f at h
  by_cases hl : a1 ≠ 1 ∧ l0.length < 140737488355328 ∧ l0.all byE = true ∧ (encI (if a1 = 1 then isD else isU) l0).length < 140737488355328
  · rw [if_pos hl] at h
    obtain rfl := Option.some.inj h
    clear h
    obtain ⟨ht, hl, hby, hel⟩ := hl
    have ho : ∀ l : List Int, l.length < 140737488355328 → impl_own.f l = some l := fun l hl => by unfold impl_own.f; simp [hl]
    have HO := Aside0.mk ho
    have HR := Aside0.mk hr0
    have HY := Aside0.mk hby
    have HEL := Aside0.mk hel
    clear ho hr0 hby hel
    rw [if_neg ht] at HEL ⊢
    go_enter Tryd.func9, Tryd.ntmps9
    go_wp2
    refine start_ (n := 6) (S := fun w' => TabU w') (ds := []) #[false, false, false, false, false, false] (by kernel_rfl) rfl rfl HTabU.out (fun hHeld => ?_)
    refine with_tabW ienc.tab3 ienc.bits3 (fun HT_ HW_ => ?_)
    refine pure_ (i := 0) (N := (some 12)) (v := ?_) (a' := ?_) #[true, false, false, false, false, false] rfl rfl (any_of HT_.out (by kernel_rfl)) (fun _ _ _ h => h) (Or.inl ⟨by rfl, ?_⟩) ?_ ?_
    rotate_left
    · intro w'
      go_simp
      with_reducible rfl
    rotate_left
    · simp only [Act.put, List.setIfInBounds_toArray, List.set_cons_zero, List.set_cons_succ, i64_w, i32_w]
      rfl
    refine take_ (i := 2) (N := (some 14)) (v := ?_) (a' := ?_) #[true, false, true, false, false, false] rfl rfl (take_ofW HT_.out HW_.out (by kernel_rfl)) (fun _ _ _ h => h) (Or.inl ⟨by rfl, ?_⟩) hHeld ?_ ?_
    rotate_left
    · intro w' s0
      refine load_op s0 agg33 size33 ?_ ?_
      all_goals rfl
    rotate_left
    · simp only [Act.put, List.setIfInBounds_toArray, List.set_cons_zero, List.set_cons_succ, i64_w, i32_w]
      rfl
    refine one_ (i := 1) (N := (some 13)) #[true, true, true, false, false, false] rfl rfl (one_of HT_.out (by kernel_rfl)) (by simp) (fun K_ hK_ => ?_)
    refine goes_ Tryd.func12 (by kernel_rfl) rfl #[.slice A0 l0.length c0] (by rfl) rfl rfl (by simp only [List.map_toArray, List.map_cons, List.map_nil]; rfl) ?_
    refine (impl_own.calls A0 c0 l0 l0 _ (Kd.C_drew HR.out) hc0 (HO.out _ hl)).mono ?_
    rintro e w1 ⟨v, rfl, hv, hb⟩
    have HV := Aside0.mk hv
    have HB := Aside0.mk (below_then (below_drew1 (Below.refl w.heap.size w)) (Nat.le_refl _) hb)
    clear hv hb
    refine ⟨_, rfl, ?_⟩
    refine hK_ _ _ (TabAt.below HTabU.out HB.out) (fun _ => ?_)
    refine one_ (i := 3) (N := (some 15)) #[true, true, true, true, false, false] rfl rfl (one_of HT_.out (by kernel_rfl)) (by simp) (fun K_ hK_ => ?_)
    refine goes_ Tryd.func14 (by kernel_rfl) rfl #[v, .agg (cellsOfTab isU)] (by rfl) rfl rfl (by simp only [List.map_toArray, List.map_cons, List.map_nil]; rfl) ?_
    refine (encode_both isU hexF_both.2 w.heap.size v l0 w1 HV.out HB.out.size HEL.out HY.out).mono ?_
    rintro e w2 ⟨v2, rfl, hv2, hb2⟩
    have HV2 := Aside0.mk hv2
    have HB2 := Aside0.mk (HB.out.trans hb2)
    clear hv2 hb2
    refine ⟨_, rfl, ?_⟩
    refine hK_ _ _ (TabAt.below HTabU.out HB2.out) (fun _ => ?_)
    refine one_ (i := 4) (N := (some 16)) #[true, true, true, true, true, false] rfl rfl (one_of HT_.out (by kernel_rfl)) (by simp) (fun K_ hK_ => ?_)
    obtain ⟨A2, c2, rfl⟩ := Kd.R_slice HV2.out
    refine goes_ Tryd.func12 (by kernel_rfl) rfl #[.slice A2 (encI isU l0).length c2] (by rfl) rfl rfl (by simp only [List.map_toArray, List.map_cons, List.map_nil]; rfl) ?_
    refine (impl_own.calls A2 c2 (encI isU l0) (encI isU l0) _ (Kd.R_reads' HV2.out).2.2 (Kd.R_reads' HV2.out).2.1 (HO.out _ HEL.out)).mono ?_
    rintro e w3 ⟨v3, rfl, hv3, hb3⟩
    have HV3 := Aside0.mk hv3
    have HB3 := Aside0.mk (below_then HB2.out HB2.out.size hb3)
    clear hv3 hb3
    refine ⟨_, rfl, ?_⟩
    refine hK_ _ _ (TabAt.below HTabU.out HB3.out) (fun _ => ?_)
    refine pure_ (i := 5) (N := (some 4)) (v := ?_) (a' := ?_) #[true, true, true, true, true, true] rfl rfl (any_of HT_.out (by kernel_rfl)) (fun _ _ _ h => h) (Or.inl ⟨by rfl, ?_⟩) ?_ ?_
    rotate_left
    · intro w'
      go_simp
      with_reducible rfl
    rotate_left
    · simp only [Act.put, List.setIfInBounds_toArray, List.set_cons_zero, List.set_cons_succ, i64_w, i32_w]
      rfl
    refine done_ (done_of HT_.out (by kernel_rfl)) ?_
    go_wp2
    go_ret
    exact ⟨_, rfl, Kd.R_lower HV3.out HB2.out.size, HB3.out⟩
  · rw [if_neg hl] at h
    cases h
end Go.Proofs.YthejmpldfndbfaaDoor.Own
