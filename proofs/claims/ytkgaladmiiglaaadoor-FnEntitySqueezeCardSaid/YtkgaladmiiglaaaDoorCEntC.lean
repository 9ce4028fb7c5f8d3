/- replaceEntities at an entity: its value comes in its place. -/
import Derived.Test.YtkgaladmiiglaaaDoorCEntB
namespace Go.Proofs.YtkgaladmiiglaaaDoor.Own
open Go.RowKit Go.Proofs.YtkgaladmiiglaaaDoorW.PrintWords Go.Proofs.YtkgaladmiiglaaaDoorW.PrintLast
set_option linter.unusedVariables false
set_option linter.unusedSimpArgs false
theorem numsStr (s : ByteArray) : strOfNums (numsOf s) = s := by
  apply baExt
  simp [strOfNums, numsOf]
  exact List.map_id'' (fun x => by simp) _
/-- An entity that is as it should be. -/
structure EnOk (e : En) : Prop where
  two : 2 ≤ e.nm.size
  few : e.nm.size ≤ 20
  chars : ∀ c ∈ numsOf e.nm, (97 ≤ c ∧ c ≤ 122) ∨ (48 ≤ c ∧ c ≤ 57)
  some_ : 1 ≤ e.vl.size
  short : e.vl.size ≤ e.nm.size + 2
  noamp : ∀ c ∈ numsOf e.vl, c ≠ 38
/-- A map without entries (the other way round). -/
def NoRev (w : World) (lo b : Nat) : Prop := lo ≤ b ∧ w.heap[b]? = some (Obj.map #[] 0)
theorem NoRev.look {w : World} {lo b : Nat} (h : NoRev w lo b) (x : Int) (h0 : 0 ≤ x ∧ x < 256) : (Instr.lookup 45 (.map (some b)) (.int .u8 x) true).run Tryd.prog w = .ok (.tuple #[.slice none 0 0, .bool false]) w := by
  have hown : w.ownsMap Tryd.prog 5 valR b 0 (.map []) := ⟨#[], 0, h.2, ⟨by simp, Go.MapKept.stamped_empty 0, by simp⟩, Nat.le_refl _, rfl⟩
  obtain ⟨v, pl, hrun, hv⟩ := hown.look_ok (Go.Maps.int_keyed Tryd.underlying5) Tryd.underlying45 (zeroBytes w) (show valR (.slice none 0 0) = some (.nil, []) from rfl) (Go.Maps.keyOf_int_mk Tryd.underlying5 (a := x) (by simp only [Lit.wf, Bool.and_eq_true, decide_eq_true_eq]; exact ⟨h0.1, by have := h0.2; show x ≤ 255; omega⟩))
  have h1 : v = .slice none 0 0 := by
    have h2 : (DataW.map ([] : List (Lit × DataW Unit))).atKey (.int .u8 x) .nil = .nil := rfl
    rw [h2] at hv
    unfold valR at hv
    split at hv
    · rfl
    · simp at hv
    · cases hv
  rw [hrun, h1]
  rfl
/-- The cells of the text at an entity. -/
structure AtEnt (w : World) (g n i : Nat) (e : En) : Prop where
  amp : w.cell? ⟨g, i, none⟩ = some (.int .u8 38)
  name : ∀ q (hq : q < (numsOf e.nm).length), w.cell? ⟨g, i + 1 + q, none⟩ = some (.int .u8 (numsOf e.nm)[q])
  semi : w.cell? ⟨g, i + 1 + e.nm.size, none⟩ = some (.int .u8 59)
  fits : i + e.nm.size + 2 ≤ n
theorem BRow.at_ent {w : World} {base g n cap : Nat} {pre rest : List Int} {e : En} (h : BRow w base g n cap (pre ++ (38 :: (numsOf e.nm ++ 59 :: rest)))) : AtEnt w g n pre.length e := by
  have hn := h.1
  have hl := numsOf_length e.nm
  simp only [List.length_append, List.length_cons] at hn
  refine ⟨?_, fun q hq => ?_, ?_, by omega⟩
  · rw [(h.cell (k := pre.length) (by simp)).1]
    simp
  · rw [(h.cell (k := pre.length + 1 + q) (by simp; omega)).1]
    congr 2
    rw [List.getElem_append_right (by omega)]
    simp only [show pre.length + 1 + q - pre.length = q + 1 by omega, List.getElem_cons_succ]
    rw [List.getElem_append_left hq]
  · rw [(h.cell (k := pre.length + 1 + e.nm.size) (by simp; omega)).1]
    congr 2
    rw [List.getElem_append_right (by omega)]
    simp only [show pre.length + 1 + e.nm.size - pre.length = e.nm.size + 1 by omega, List.getElem_cons_succ]
    rw [List.getElem_append_right (by omega)]
    simp [hl]
section
variable {P : Program} {ops : Array Oper} {rest : List Oper} {o : Oper} {a : Act} {Q : Exit → Act → World → Prop} {Kc : Act → World → Prop}
theorem copy_event {W w1 : World} (hgd : o.guard = none) (s x : Operand) (t : TypeId) (ho : o.op = .call { callee := .builtin .copy, args := #[s, x], argTypes := #[t, t] }) {vs vx v : Value} (hs : a.eval s = vs) (hx : a.eval x = vx)
    (hr : ∀ ty, (Builtin.copy_ #[t, t] ty #[vs, vx]).run P W = .ok v w1) (h : wpList P ops Q rest (a.put o.dst v) w1) : wpList P ops Q (o :: rest) a W := by
  have hrun : (execOp a.eval o).run P W = .ok (.value v) w1 := by
    unfold execOp
    simp only [ho, resolve, invoke, builtin, Sem.run_bind, Sem.run_pure, Result.andThen_ok, List.map_toArray, List.map_cons, List.map_nil, hs, hx, hr]
  exact Kd.event_run hgd hrun h
theorem copy_step {W w1 : World} (hw : Region.wanted o (yielded ops a.tmps) = true) (s x : Operand) (t : TypeId) (ho : o.op = .call { callee := .builtin .copy, args := #[s, x], argTypes := #[t, t] }) {vs vx v : Value} (hs : a.eval s = vs) (hx : a.eval x = vx)
    (hr : ∀ ty, (Builtin.copy_ #[t, t] ty #[vs, vx]).run P W = .ok v w1) (h : Kc (a.put o.dst v) w1) : if Region.wanted o (yielded ops a.tmps) = true then Oper.wp P o a W Kc Q else Kc (a.put o.dst undef) W := by
  rw [if_pos hw]
  unfold Oper.wp execOp
  simp only [ho, resolve, invoke, builtin, Sem.run_bind, Sem.run_pure, Result.andThen_ok, List.map_toArray, List.map_cons, List.map_nil, hs, hx, hr]
  exact h
end
theorem cutG (g n cap p : Nat) (h : p ≤ n) (z : Int) (hz : z = (p : Int)) (W : World) : (Instr.slice 22 (.slice (some ⟨g, 0, none⟩) n cap) (some (.int .i64 z)) none none).run Tryd.prog W = .ok (.slice (if cap = p then some ⟨g, 0, none⟩ else some ⟨g, p, none⟩) (n - p) (cap - p)) W := by
  subst hz
  obtain ⟨i0, hi0, _, hsz, _⟩ := info_parts infoIn
  have := cut_from (P := Tryd.prog) 22 5 .i64 Tryd.underlying22 hi0 1 hsz (some ⟨g, 0, none⟩) n cap (p : Int) (by omega) (by omega) W
  rw [this]
  simp [add_plain]
/-- The two copies: the value, and what follows. -/
theorem ent_copy {w : World} {base g n cap lo gv cv i jj : Nat} {pre rest nm vb : List Int} (hB : BRow w base g n cap (pre ++ (38 :: (nm ++ 59 :: rest)))) (hT : TextV w lo gv cv vb) (hi : i = pre.length) (hj : jj = i + 1 + nm.length) (hv : vb.length ≤ nm.length + 2) (v : Nat) (hvl : v = vb.length)
    (dp sp : Option Addr) (c1 c2 c3 : Nat) (hds : 0 < n - (jj + 1) → dp = some ⟨g, i + v, none⟩ ∧ sp = some ⟨g, jj + 1, none⟩) :
    ∃ w1 w2, (∀ ty, (Builtin.copy_ #[22, 22] ty #[.slice (some ⟨g, i, none⟩) (n - i) c1, .slice (some ⟨gv, 0, none⟩) v cv]).run Tryd.prog w = .ok (.int .i64 (v : Int)) w1) ∧
      (∀ ty, (Builtin.copy_ #[22, 22] ty #[.slice dp (n - (i + v)) c2, .slice sp (n - (jj + 1)) c3]).run Tryd.prog w1.drew = .ok (.int .i64 ((n - (jj + 1) : Nat) : Int)) w2) ∧
      BRow w2 base g (i + v + (n - (jj + 1))) cap (pre ++ (vb ++ rest)) ∧ w.grownBy w2 (some g) := by
  subst hvl
  have hn := hB.1
  simp only [List.length_append, List.length_cons] at hn
  obtain ⟨w1, r1, B1, g1⟩ := hB.copy i (some ⟨g, i, none⟩) (some ⟨gv, 0, none⟩) vb.length c1 cv vb rfl (by omega) (fun _ => rfl) (fun _ => ⟨_, rfl, fun j hj => by rw [add_plain]; exact hT.cell (by simp [u8i, hj])⟩)
  have B1' : BRow w1.drew base g n cap _ := B1.drewN 1
  obtain ⟨l1, hl1⟩ : ∃ l1, l1 = (pre ++ (38 :: (nm ++ 59 :: rest))).take i ++ (vb ++ (pre ++ (38 :: (nm ++ 59 :: rest))).drop (i + vb.length)) := ⟨_, rfl⟩
  rw [← hl1] at B1'
  have e0 : (pre ++ (38 :: (nm ++ 59 :: rest))).take i = pre := by rw [hi, List.take_left' rfl]
  have e1 : (pre ++ (38 :: (nm ++ 59 :: rest))).drop (jj + 1) = rest := by
    rw [List.drop_append, List.drop_of_length_le (by omega), List.nil_append, show jj + 1 - pre.length = (nm.length + 1) + 1 by omega, List.drop_succ_cons, List.drop_append, List.drop_of_length_le (by omega), show nm.length + 1 - nm.length = 1 by omega]
    rfl
  rw [e0] at hl1
  have e2 : l1.drop (jj + 1) = rest := by
    rw [hl1, ← List.append_assoc, List.drop_append, List.drop_of_length_le (by rw [List.length_append]; omega), List.nil_append, List.drop_drop, List.length_append, ← hi, show i + vb.length + (jj + 1 - (i + vb.length)) = jj + 1 by omega, e1]
  have e3 : l1.take (i + vb.length) = pre ++ vb := by rw [hl1, ← List.append_assoc, List.take_left' (by rw [List.length_append, ← hi])]
  have hrl : rest.length = n - (jj + 1) := by omega
  have hl1n : l1.length = n := B1'.1.symm
  obtain ⟨w2, r2, B2, g2⟩ := B1'.copy (i + vb.length) dp sp (n - (jj + 1)) c2 c3 rest hrl (by omega) (fun h => (hds h).1) (fun h => ⟨_, (hds h).2, fun j hj => by
    have e4 : (⟨g, jj + 1, none⟩ : Addr).add j = ⟨g, jj + 1 + j, none⟩ := by rw [← add_plain g (jj + 1), add_add, add_plain]
    rw [e4, (B1'.cell (k := jj + 1 + j) (by omega)).1]
    congr 2
    have := congrArg (fun l => l[j]?) e2
    simp only [List.getElem?_drop, List.getElem?_eq_getElem hj, List.getElem?_eq_getElem (show jj + 1 + j < l1.length by omega)] at this
    exact Option.some.inj this⟩)
  refine ⟨w1, w2, r1, r2, ?_, (g1.trans (show w1.grownBy w1.drew (some g) from ⟨rfl, rfl, rfl, Nat.le_refl _, fun _ _ _ => rfl⟩)).trans g2⟩
  have B3 := B2.cut (m := i + vb.length + (n - (jj + 1))) (by omega)
  rw [e3] at B3
  have e5 : (pre ++ vb ++ (rest ++ l1.drop (i + vb.length + (n - (jj + 1))))).take (i + vb.length + (n - (jj + 1))) = pre ++ (vb ++ rest) := by
    rw [← List.append_assoc, List.take_left' (by simp only [List.length_append]; omega), List.append_assoc]
  rw [e5] at B3
  exact B3
set_option maxRecDepth 20000 in
set_option maxHeartbeats 8000000 in
theorem replEnt (w : World) (base g n cap lo bm br : Nat) (L : List En) (e : En) (he : e ∈ L) (hok : EnOk e) (hnd : (L.map En.nm).Nodup) (pre rest : List Int) (hB : BRow w base g n cap (pre ++ (38 :: (numsOf e.nm ++ 59 :: rest)))) (hM : EMap w lo bm L) (hV : NoRev w lo br) (hglo : g < lo) (hn : n ≤ 1000000) (i : Nat) (hi : i = pre.length) :
    Calls Tryd.prog 25 #[.slice (some ⟨g, 0, none⟩) n cap, .int .i64 (i : Int), .map (some bm), .map (some br)] w fun ed w' => ∃ n', ed = .returned (.tuple #[.slice (some ⟨g, 0, none⟩) n' cap, .int .i64 ((i : Int) + (e.vl.size : Int) - 1)]) ∧ BRow w' base g n' cap (pre ++ (numsOf e.vl ++ rest)) ∧ w.grownBy w' (some g) := by
  have hat := hB.at_ent
  rw [← hi] at hat
  obtain ⟨gv, cv, hlk, hT⟩ := hM.look hnd he (by have := hok.few; omega)
  have hcv : (convert 22 9 (.slice (some ⟨g, i + 1, none⟩) e.nm.size (cap - (i + 1)))).run Tryd.prog w = .ok (.string e.nm) w := by
    have h1 : ((pre ++ (38 :: (numsOf e.nm ++ 59 :: rest))).drop (i + 1)).take e.nm.size = numsOf e.nm := by
      rw [hi, List.drop_append, List.drop_of_length_le (by omega), show pre.length + 1 - pre.length = 1 by omega]
      simp [← numsOf_length e.nm]
    have h2 := hB.subC (i + 1) e.nm.size (by have := hat.fits; omega)
    rw [h1, ← numsOf_length e.nm] at h2
    have := Kd.C_string (c := cap - (i + 1)) Tryd.underlying22 Tryd.underlying5 Tryd.underlying9 h2
    rw [numsOf_length, numsStr] at this
    exact this
  have hfit := hat.fits
  have hcap : n ≤ cap := by obtain ⟨_, _, cur, _, h, _⟩ := hB; exact h
  obtain ⟨k, hk⟩ : ∃ k, k = e.nm.size := ⟨_, rfl⟩
  obtain ⟨v, hv⟩ : ∃ v, v = e.vl.size := ⟨_, rfl⟩
  have h2 := hok.two
  have h20 := hok.few
  have hs1 := hok.some_
  have hsh := hok.short
  have HCH := Aside0.mk hok.chars
  have HNA := Aside0.mk hok.noamp
  have hamp := hat.amp
  have hsemi := hat.semi
  have HNAME := Aside0.mk hat.name
  have HNL := Aside0.mk (numsOf_length e.nm)
  have HK := Aside0.mk hk
  have HV := Aside0.mk hv
  have HT := Aside0.mk hT
  have HB := Aside0.mk hB
  have HI := Aside0.mk hi
  have HREV := Aside0.mk hV
  have hc1 : w.cell? ⟨g, i + 1, none⟩ = some (.int .u8 ((numsOf e.nm)[0]'(by rw [numsOf_length]; omega))) := by simpa using hat.name 0 (by rw [numsOf_length]; omega)
  obtain ⟨c0, hc0⟩ : ∃ c, c = (numsOf e.nm)[0]'(by rw [numsOf_length]; omega) := ⟨_, rfl⟩
  have hch0 := hok.chars c0 (by rw [hc0]; exact List.getElem_mem _)
  rw [← hc0] at hc1
  have hne35 : (c0 == 35) = false := by simp; omega
  rw [← hk] at hcv hfit h2 h20 hsh hsemi
  rw [← hv] at hlk hs1 hsh ⊢
  clear hB hM hV he hok hnd hat hT hk hv hi hc0 hch0
  go_enter Tryd.func25, Tryd.ntmps25
  go_wp2
  have HNM := Aside0.mk (show ∀ jj : Nat, i + 1 ≤ jj → jj < i + 1 + k → ∃ c, w.cell? ⟨g, jj, none⟩ = some (.int .u8 c) ∧ ((97 ≤ c ∧ c ≤ 122) ∨ (48 ≤ c ∧ c ≤ 57)) from fun jj h1 h2 => by
    have hq2 : jj - (i + 1) < (numsOf e.nm).length := by rw [HNL.out]; have := HK.out; omega
    have hcq := HNAME.out (jj - (i + 1)) hq2
    rw [show i + 1 + (jj - (i + 1)) = jj by omega] at hcq
    exact ⟨_, hcq, HCH.out _ (List.getElem_mem hq2)⟩)
  go_loopw [11] (fun v11 wr => ∃ jj : Nat, v11 = .int .i64 (jj : Int) ∧ i + 1 ≤ jj ∧ jj ≤ i + 1 + k ∧ w = wr) (fun v11 _ => i + 1 + k - (intOf v11).toNat)
  case atStart => exact ⟨i + 1, by go_num, Nat.le_refl _, by omega, rfl⟩
  case round =>
    obtain ⟨jj, rfl, hj0, hjk, rfl⟩ := hrel
    by_cases hlt : jj < i + 1 + k
    · obtain ⟨c, hcq, hcc⟩ := HNM.out jj hj0 hlt
      have h59 : (c == 59) = false := by simp; omega
      have hj1 : jj < n := by omega
      have hj2 : (jj : Int) - (i : Int) - 1 ≤ 31 := by omega
      rcases hcc with ⟨ha, hb⟩ | ⟨ha, hb⟩
      all_goals
        go_wp2
        go_roundw
        case rel => exact ⟨jj + 1, by go_num, by omega, by omega, trivial⟩
        case measure => simp [intOf] <;> omega
    · have hjj : jj = i + 1 + k := by omega
      rw [← hjj] at hsemi
      have hk2 : k = jj - (i + 1) := by omega
      rw [hk2] at hcv
      have hj1 : jj < n := by omega
      have hji : ¬ ((jj : Int) = (i : Int) + 1) := by omega
      have hj3 : (i : Int) + 1 ≤ (jj : Int) := by omega
      have hj4 : (jj : Int) ≤ (cap : Int) := by omega
      have hn3 : (2 : Int) < (jj : Int) + 1 - (i : Int) := by omega
      have hjl : (jj : Int) - (i : Int) - 1 ≤ 31 := by omega
      have HJ := Aside0.mk hjj
      have HK2 := Aside0.mk hk2
      clear hlt hjk hjj hk2
      have hjib : ((jj : Int) == (i : Int) + 1) = false := by simp; omega
      have hci : ¬ (cap = i) := by omega
      have hin : (i : Int) ≤ (n : Int) := by omega
      have hjn : (jj : Int) + 1 ≤ (n : Int) := by omega
      have hivn : (i : Int) + (v : Int) ≤ (n : Int) := by omega
      have HW1_ := Aside0.mk (show wrap64 ((i : Int) + (v : Int)) = (i : Int) + (v : Int) by unfold wrap64; omega)
      have HW2_ := Aside0.mk (show wrap64 ((jj : Int) + 1) = (jj : Int) + 1 by unfold wrap64; omega)
      have hcutA := cutG g n cap (i + v) (by omega) ((i : Int) + (v : Int)) (by omega)
      have hcutB := cutG g n cap (jj + 1) (by omega) ((jj : Int) + 1) (by omega)
      have fin := fun (dp sp : Option Addr) (c1 c2 c3 : Nat) (h : 0 < n - (jj + 1) → dp = some ⟨g, i + v, none⟩ ∧ sp = some ⟨g, jj + 1, none⟩) => ent_copy (dp := dp) (sp := sp) (c1 := c1) (c2 := c2) (c3 := c3) HB.out HT.out HI.out (by rw [HNL.out, ← HK.out]; exact HJ.out) (by rw [numsOf_length, HNL.out, ← HV.out, ← HK.out]; exact hsh) v (by rw [numsOf_length]; exact HV.out) h
      have FIN := Aside0.mk fin
      clear fin
      have hs1_ : (0 : Int) ≤ (n : Int) - ((jj : Int) + 1 - (i : Int)) + (v : Int) := by omega
      have hs2_ : (n : Int) - ((jj : Int) + 1 - (i : Int)) + (v : Int) ≤ (cap : Int) := by have := HJ.out; omega
      have hds : 0 < n - (jj + 1) → (if cap = i + v then (some ⟨g, 0, none⟩ : Option Addr) else some ⟨g, i + v, none⟩) = some ⟨g, i + v, none⟩ ∧ (if cap = jj + 1 then (some ⟨g, 0, none⟩ : Option Addr) else some ⟨g, jj + 1, none⟩) = some ⟨g, jj + 1, none⟩ := fun h => ⟨if_neg (by omega), if_neg (by omega)⟩
      obtain ⟨dp, hdp⟩ : ∃ d, d = (if cap = i + v then (some ⟨g, 0, none⟩ : Option Addr) else some ⟨g, i + v, none⟩) := ⟨_, rfl⟩
      obtain ⟨sp, hsp⟩ : ∃ d, d = (if cap = jj + 1 then (some ⟨g, 0, none⟩ : Option Addr) else some ⟨g, jj + 1, none⟩) := ⟨_, rfl⟩
      rw [← hdp] at hds hcutA
      rw [← hsp] at hds hcutB
      obtain ⟨w1, w2, r1, r2, hB3, hg3⟩ := FIN.out dp sp (cap - i) (cap - (i + v)) (cap - (jj + 1)) hds
      have HCA_ := Aside0.mk hcutA
      have HCB_ := Aside0.mk hcutB
      have r1' := r1 3
      have R2_ := Aside0.mk r2
      have HPOST := Aside0.mk (show BRow w2 base g (n - (jj + 1 - i) + v) cap (pre ++ (numsOf e.vl ++ rest)) ∧ w.grownBy w2 (some g) from ⟨by rw [show n - (jj + 1 - i) + v = i + v + (n - (jj + 1)) by omega]; exact hB3, hg3⟩)
      have hval : (i : Int) + (v : Int) - 1 = (i : Int) + (v : Int) - 1 := rfl
      clear r1 r2 hB3 hg3 hds hdp hsp FIN hfit hval hcutA hcutB
      by_cases hv1 : v = 1
      · have hT0 := HT.out
        have HVN := Aside0.mk (show (numsOf e.vl).length = 1 by rw [numsOf_length]; have := HV.out; omega)
        obtain ⟨r0, hr0⟩ : ∃ c, c = (numsOf e.vl)[0]'(by rw [HVN.out]; decide) := ⟨_, rfl⟩
        have hrc : w.cell? ⟨gv, 0, none⟩ = some (.int .u8 r0) := hT0.cell (by simp [u8i, hr0, List.getElem?_eq_getElem (show 0 < (numsOf e.vl).length by rw [HVN.out]; decide)])
        have hrn := HNA.out r0 (by rw [hr0]; exact List.getElem_mem _)
        have hrb : 0 ≤ r0 ∧ r0 < 256 := by
          have : r0 ∈ numsOf e.vl := by rw [hr0]; exact List.getElem_mem _
          obtain ⟨y, _, rfl⟩ := List.mem_map.1 (show r0 ∈ e.vl.data.toList.map (fun x => (x.toNat : Int)) from by simpa [numsOf] using this)
          have := y.toNat_lt
          omega
        have hrl := HREV.out.look r0 hrb
        have hrb38 : (r0 == 38) = false := by simp; omega
        have hvb : ((v : Int) == 1) = true := by simp; omega
        clear hT0 hr0 hrb hv1
        go_wp2
        clear r1'
        have hw1_ := HW1_.out
        have hw2_ := HW2_.out
        have hcutA := HCA_.out
        have hcutB := HCB_.out
        refine start_ (n := 11) (S := fun w' => True) (ds := []) #[false, false, false, false, false, false, false, false, false, false, false] (by kernel_rfl) rfl rfl trivial (fun hHeld => ?_)
        refine pure_ (i := 0) (N := (some 412)) (v := ?_) (a' := ?_) #[true, false, false, false, false, false, false, false, false, false, false] rfl rfl (by kernel_rfl) (fun _ _ _ h => h) (Or.inl ⟨by rfl, ?_⟩) ?_ ?_
        rotate_left
        · intro w'
          go_simp
          with_reducible rfl
        rotate_left
        · simp only [Act.put, List.setIfInBounds_toArray, List.set_cons_zero, List.set_cons_succ, i64_w, i32_w]
          rfl
        refine pure_ (i := 1) (N := (some 413)) (v := ?_) (a' := ?_) #[true, true, false, false, false, false, false, false, false, false, false] rfl rfl (by kernel_rfl) (fun _ _ _ h => h) (Or.inl ⟨by rfl, ?_⟩) ?_ ?_
        rotate_left
        · intro w'
          go_simp
          with_reducible rfl
        rotate_left
        · simp only [Act.put, List.setIfInBounds_toArray, List.set_cons_zero, List.set_cons_succ, i64_w, i32_w]
          rfl
        refine pure_ (i := 2) (N := (some 414)) (v := ?_) (a' := ?_) #[true, true, true, false, false, false, false, false, false, false, false] rfl rfl (by kernel_rfl) (fun _ _ _ h => h) (Or.inl ⟨by rfl, ?_⟩) ?_ ?_
        rotate_left
        · intro w'
          go_simp
          with_reducible rfl
        rotate_left
        · simp only [Act.put, List.setIfInBounds_toArray, List.set_cons_zero, List.set_cons_succ, i64_w, i32_w]
          rfl
        refine pure_ (i := 3) (N := (some 415)) (v := ?_) (a' := ?_) #[true, true, true, true, false, false, false, false, false, false, false] rfl rfl (by kernel_rfl) (fun _ _ _ h => h) (Or.inl ⟨by rfl, ?_⟩) ?_ ?_
        rotate_left
        · intro w'
          go_simp
          with_reducible rfl
        rotate_left
        · simp only [Act.put, List.setIfInBounds_toArray, List.set_cons_zero, List.set_cons_succ, i64_w, i32_w]
          rfl
        refine pure_ (i := 4) (N := (some 416)) (v := ?_) (a' := ?_) #[true, true, true, true, true, false, false, false, false, false, false] rfl rfl (by kernel_rfl) (fun _ _ _ h => h) (Or.inl ⟨by rfl, ?_⟩) ?_ ?_
        rotate_left
        · intro w'
          go_simp
          with_reducible rfl
        rotate_left
        · simp only [Act.put, List.setIfInBounds_toArray, List.set_cons_zero, List.set_cons_succ, i64_w, i32_w]
          rfl
        refine pure_ (i := 5) (N := (some 417)) (v := ?_) (a' := ?_) #[true, true, true, true, true, true, false, false, false, false, false] rfl rfl (by kernel_rfl) (fun _ _ _ h => h) (Or.inl ⟨by rfl, ?_⟩) ?_ ?_
        rotate_left
        · intro w'
          go_simp
          with_reducible rfl
        rotate_left
        · simp only [Act.put, List.setIfInBounds_toArray, List.set_cons_zero, List.set_cons_succ, i64_w, i32_w]
          rfl
        refine pure_ (i := 6) (N := (some 418)) (v := ?_) (a' := ?_) #[true, true, true, true, true, true, true, false, false, false, false] rfl rfl (by kernel_rfl) (fun _ _ _ h => h) (Or.inl ⟨by rfl, ?_⟩) ?_ ?_
        rotate_left
        · intro w'
          go_simp
          with_reducible rfl
        rotate_left
        · simp only [Act.put, List.setIfInBounds_toArray, List.set_cons_zero, List.set_cons_succ, i64_w, i32_w]
          rfl
        refine pure_ (i := 7) (N := (some 419)) (v := ?_) (a' := ?_) #[true, true, true, true, true, true, true, true, false, false, false] rfl rfl (by kernel_rfl) (fun _ _ _ h => h) (Or.inl ⟨by rfl, ?_⟩) ?_ ?_
        rotate_left
        · intro w'
          go_simp
          with_reducible rfl
        rotate_left
        · simp only [Act.put, List.setIfInBounds_toArray, List.set_cons_zero, List.set_cons_succ, i64_w, i32_w]
          rfl
        refine pure_ (i := 8) (N := (some 420)) (v := ?_) (a' := ?_) #[true, true, true, true, true, true, true, true, true, false, false] rfl rfl (by kernel_rfl) (fun _ _ _ h => h) (Or.inl ⟨by rfl, ?_⟩) ?_ ?_
        rotate_left
        · intro w'
          go_simp
          with_reducible rfl
        rotate_left
        · simp only [Act.put, List.setIfInBounds_toArray, List.set_cons_zero, List.set_cons_succ, i64_w, i32_w]
          rfl
        refine pure_ (i := 9) (N := (some 421)) (v := ?_) (a' := ?_) #[true, true, true, true, true, true, true, true, true, true, false] rfl rfl (by kernel_rfl) (fun _ _ _ h => h) (Or.inl ⟨by rfl, ?_⟩) ?_ ?_
        rotate_left
        · intro w'
          go_simp
          with_reducible rfl
        rotate_left
        · simp only [Act.put, List.setIfInBounds_toArray, List.set_cons_zero, List.set_cons_succ, i64_w, i32_w]
          rfl
        refine one_ (i := 10) (N := (some 422)) #[true, true, true, true, true, true, true, true, true, true, true] rfl rfl (by kernel_rfl) (by simp) (fun K_ hK_ => ?_)
        refine copy_step (P := Tryd.prog) (by rfl) (.tmp 417) (.tmp 421) 22 rfl rfl rfl R2_.out ?_
        refine hK_ _ _ trivial (fun _ => ?_)
        refine done_ (by kernel_rfl) ?_
        clear hw1_ hw2_ hcutA hcutB
        go_wp2
        go_ret2
        exact ⟨_, rfl, HPOST.out⟩
      · have hvb : ((v : Int) == 1) = false := by simp; omega
        go_wp2
        clear r1'
        have hw1_ := HW1_.out
        have hw2_ := HW2_.out
        have hcutA := HCA_.out
        have hcutB := HCB_.out
        refine start_ (n := 11) (S := fun w' => True) (ds := []) #[false, false, false, false, false, false, false, false, false, false, false] (by kernel_rfl) rfl rfl trivial (fun hHeld => ?_)
        refine pure_ (i := 0) (N := (some 412)) (v := ?_) (a' := ?_) #[true, false, false, false, false, false, false, false, false, false, false] rfl rfl (by kernel_rfl) (fun _ _ _ h => h) (Or.inl ⟨by rfl, ?_⟩) ?_ ?_
        rotate_left
        · intro w'
          go_simp
          with_reducible rfl
        rotate_left
        · simp only [Act.put, List.setIfInBounds_toArray, List.set_cons_zero, List.set_cons_succ, i64_w, i32_w]
          rfl
        refine pure_ (i := 1) (N := (some 413)) (v := ?_) (a' := ?_) #[true, true, false, false, false, false, false, false, false, false, false] rfl rfl (by kernel_rfl) (fun _ _ _ h => h) (Or.inl ⟨by rfl, ?_⟩) ?_ ?_
        rotate_left
        · intro w'
          go_simp
          with_reducible rfl
        rotate_left
        · simp only [Act.put, List.setIfInBounds_toArray, List.set_cons_zero, List.set_cons_succ, i64_w, i32_w]
          rfl
        refine pure_ (i := 2) (N := (some 414)) (v := ?_) (a' := ?_) #[true, true, true, false, false, false, false, false, false, false, false] rfl rfl (by kernel_rfl) (fun _ _ _ h => h) (Or.inl ⟨by rfl, ?_⟩) ?_ ?_
        rotate_left
        · intro w'
          go_simp
          with_reducible rfl
        rotate_left
        · simp only [Act.put, List.setIfInBounds_toArray, List.set_cons_zero, List.set_cons_succ, i64_w, i32_w]
          rfl
        refine pure_ (i := 3) (N := (some 415)) (v := ?_) (a' := ?_) #[true, true, true, true, false, false, false, false, false, false, false] rfl rfl (by kernel_rfl) (fun _ _ _ h => h) (Or.inl ⟨by rfl, ?_⟩) ?_ ?_
        rotate_left
        · intro w'
          go_simp
          with_reducible rfl
        rotate_left
        · simp only [Act.put, List.setIfInBounds_toArray, List.set_cons_zero, List.set_cons_succ, i64_w, i32_w]
          rfl
        refine pure_ (i := 4) (N := (some 416)) (v := ?_) (a' := ?_) #[true, true, true, true, true, false, false, false, false, false, false] rfl rfl (by kernel_rfl) (fun _ _ _ h => h) (Or.inl ⟨by rfl, ?_⟩) ?_ ?_
        rotate_left
        · intro w'
          go_simp
          with_reducible rfl
        rotate_left
        · simp only [Act.put, List.setIfInBounds_toArray, List.set_cons_zero, List.set_cons_succ, i64_w, i32_w]
          rfl
        refine pure_ (i := 5) (N := (some 417)) (v := ?_) (a' := ?_) #[true, true, true, true, true, true, false, false, false, false, false] rfl rfl (by kernel_rfl) (fun _ _ _ h => h) (Or.inl ⟨by rfl, ?_⟩) ?_ ?_
        rotate_left
        · intro w'
          go_simp
          with_reducible rfl
        rotate_left
        · simp only [Act.put, List.setIfInBounds_toArray, List.set_cons_zero, List.set_cons_succ, i64_w, i32_w]
          rfl
        refine pure_ (i := 6) (N := (some 418)) (v := ?_) (a' := ?_) #[true, true, true, true, true, true, true, false, false, false, false] rfl rfl (by kernel_rfl) (fun _ _ _ h => h) (Or.inl ⟨by rfl, ?_⟩) ?_ ?_
        rotate_left
        · intro w'
          go_simp
          with_reducible rfl
        rotate_left
        · simp only [Act.put, List.setIfInBounds_toArray, List.set_cons_zero, List.set_cons_succ, i64_w, i32_w]
          rfl
        refine pure_ (i := 7) (N := (some 419)) (v := ?_) (a' := ?_) #[true, true, true, true, true, true, true, true, false, false, false] rfl rfl (by kernel_rfl) (fun _ _ _ h => h) (Or.inl ⟨by rfl, ?_⟩) ?_ ?_
        rotate_left
        · intro w'
          go_simp
          with_reducible rfl
        rotate_left
        · simp only [Act.put, List.setIfInBounds_toArray, List.set_cons_zero, List.set_cons_succ, i64_w, i32_w]
          rfl
        refine pure_ (i := 8) (N := (some 420)) (v := ?_) (a' := ?_) #[true, true, true, true, true, true, true, true, true, false, false] rfl rfl (by kernel_rfl) (fun _ _ _ h => h) (Or.inl ⟨by rfl, ?_⟩) ?_ ?_
        rotate_left
        · intro w'
          go_simp
          with_reducible rfl
        rotate_left
        · simp only [Act.put, List.setIfInBounds_toArray, List.set_cons_zero, List.set_cons_succ, i64_w, i32_w]
          rfl
        refine pure_ (i := 9) (N := (some 421)) (v := ?_) (a' := ?_) #[true, true, true, true, true, true, true, true, true, true, false] rfl rfl (by kernel_rfl) (fun _ _ _ h => h) (Or.inl ⟨by rfl, ?_⟩) ?_ ?_
        rotate_left
        · intro w'
          go_simp
          with_reducible rfl
        rotate_left
        · simp only [Act.put, List.setIfInBounds_toArray, List.set_cons_zero, List.set_cons_succ, i64_w, i32_w]
          rfl
        refine one_ (i := 10) (N := (some 422)) #[true, true, true, true, true, true, true, true, true, true, true] rfl rfl (by kernel_rfl) (by simp) (fun K_ hK_ => ?_)
        refine copy_step (P := Tryd.prog) (by rfl) (.tmp 417) (.tmp 421) 22 rfl rfl rfl R2_.out ?_
        refine hK_ _ _ trivial (fun _ => ?_)
        refine done_ (by kernel_rfl) ?_
        clear hw1_ hw2_ hcutA hcutB
        go_wp2
        go_ret2
        exact ⟨_, rfl, HPOST.out⟩
end Go.Proofs.YtkgaladmiiglaaaDoor.Own
