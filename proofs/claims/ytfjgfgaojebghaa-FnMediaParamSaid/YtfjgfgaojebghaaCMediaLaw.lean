/- The laws FnMedia and FnMediaParam: they answer true. -/
import Derived.Test.YtfjgfgaojebghaaCMedia
import Derived.Test.YtfjgfgaojebghaaCMediaText
namespace Go.Proofs.Ytfjgfgaojebghaa.Own
open Go.RowKit Go.Proofs.YtfjgfgaojebghaaW.PrintWords Go.Proofs.YtfjgfgaojebghaaW.PrintLast
set_option linter.unusedVariables false
set_option linter.unusedSimpArgs false
theorem u8s_nums (s : ByteArray) : u8s (numsOf s) = s.data.toList := by rw [← strOf_data, ← ByteArray.toList_eq, str_nums, ByteArray.toList_eq]
theorem headT_eq (a0 a1 : ByteArray) : headT a0 a1 = numsOf a0 ++ 47 :: numsOf a1 := by
  unfold headT
  rw [numsOf_app, numsOf_app, show numsOf (⟨#[47]⟩ : ByteArray) = [47] from rfl]
  simp
theorem prmsT_mem {l2 l3 : List ByteArray} : ∀ {m : Nat} {p : Prm}, p ∈ prmsT l2 l3 m → ∃ q, q < m ∧ p = (numsOf (nmAt l2 q), numsOf (nmAt l3 q))
  | 0, p, h => by simp [prmsT] at h
  | m + 1, p, h => by
    rw [prmsT, List.mem_append] at h
    rcases h with h | h
    · obtain ⟨q, hq, e⟩ := prmsT_mem h
      exact ⟨q, by omega, e⟩
    · exact ⟨m, by omega, by simpa using h⟩
theorem prmsT_len (l2 l3 : List ByteArray) : ∀ m, (prmsT l2 l3 m).length = m
  | 0 => rfl
  | m + 1 => by rw [prmsT, List.length_append, prmsT_len]; rfl
theorem tok_ne {s : ByteArray} (h : TokFrom s 0) : ∀ c ∈ numsOf s, (c ≠ 61 ∧ c ≠ 59 ∧ c ≠ 32) ∧ 0 ≤ c ∧ c < 256 := fun c hc => by
  have := h.all c hc
  unfold tokB at this
  omega
theorem okMed {a0 a1 : ByteArray} {l2 l3 : List ByteArray} (h : OkText a0 a1 l2 l3) : MedOk (headT a0 a1) (prmsT l2 l3 l2.length) where
  three := by
    have h0 := h.kind.1
    have h1 := h.sub.1
    rw [headT_eq, List.length_append, List.length_cons, numsOf_length, numsOf_length]
    omega
  head := fun c hc => by
    rw [headT_eq, List.mem_append, List.mem_cons] at hc
    rcases hc with hc | rfl | hc
    · have := tok_ne h.kind c hc; omega
    · decide
    · have := tok_ne h.sub c hc; omega
  keys := fun p hp c hc => by
    obtain ⟨q, hq, rfl⟩ := prmsT_mem hp
    exact (tok_ne (h.all q hq).name c hc).1
  vals := fun p hp c hc => by
    obtain ⟨q, hq, rfl⟩ := prmsT_mem hp
    exact (tok_ne (h.all q hq).value c hc).1.2
  pos := fun p hp => by
    obtain ⟨q, hq, rfl⟩ := prmsT_mem hp
    have := (h.all q hq).value.1
    rw [numsOf_length]
    omega
theorem okBytes {a0 a1 : ByteArray} {l2 l3 : List ByteArray} {bl : Bool} (h : OkText a0 a1 l2 l3) : ∀ c ∈ textM (headT a0 a1) (prmsT l2 l3 l2.length) bl, 0 ≤ c ∧ c < 256 := fun c hc => by
  unfold textM at hc
  rw [List.mem_append] at hc
  rcases hc with hc | hc
  · rw [headT_eq, List.mem_append, List.mem_cons] at hc
    rcases hc with hc | rfl | hc
    · exact (tok_ne h.kind c hc).2
    · decide
    · exact (tok_ne h.sub c hc).2
  · obtain ⟨p, hp, hc⟩ := List.mem_flatMap.1 hc
    obtain ⟨q, hq, rfl⟩ := prmsT_mem hp
    unfold segM at hc
    rw [List.mem_cons, List.mem_append, List.mem_append, List.mem_cons] at hc
    rcases hc with rfl | hc | hc | rfl | hc
    · decide
    · cases bl <;> simp at hc
      subst hc
      decide
    · exact (tok_ne (h.all q hq).name c hc).2
    · decide
    · exact (tok_ne (h.all q hq).value c hc).2
theorem ba_ext {a b : ByteArray} (h : a.data.toList = b.data.toList) : a = b := by
  apply ByteArray.ext
  exact Array.ext' h
theorem okNew {l2 l3 : List ByteArray} : ∀ {m : Nat}, (∀ i, i < m → OkAt l2 l3 i) → ((prmsT l2 l3 m).map fun p => u8s p.1).Nodup
  | 0, _ => List.nodup_nil
  | m + 1, h => by
    rw [prmsT, List.map_append, List.nodup_append]
    refine ⟨okNew (fun i hi => h i (by omega)), by simp, fun x hx y hy e => ?_⟩
    obtain ⟨p, hp, rfl⟩ := List.mem_map.1 hx
    obtain ⟨q, hq, rfl⟩ := prmsT_mem hp
    have hy' : y = u8s (numsOf (nmAt l2 m)) := by simpa using hy
    subst hy'
    simp only [u8s_nums] at e
    exact (h m (by omega)).new q hq (ba_ext e)
theorem find_prms {l2 l3 : List ByteArray} : ∀ {m : Nat}, (∀ i, i < m → OkAt l2 l3 i) → ∀ {q : Nat}, q < m → (prmsT l2 l3 m).find? (fun p => u8s p.1 == (nmAt l2 q).data.toList) = some (numsOf (nmAt l2 q), numsOf (nmAt l3 q))
  | 0, _, q, hq => by omega
  | m + 1, h, q, hq => by
    rw [prmsT, List.find?_append]
    by_cases e : q < m
    · rw [find_prms (fun i hi => h i (by omega)) e]
      rfl
    · obtain rfl : q = m := by omega
      have : (prmsT l2 l3 q).find? (fun p => u8s p.1 == (nmAt l2 q).data.toList) = none := by
        rw [List.find?_eq_none]
        intro p hp hpe
        obtain ⟨r, hr, rfl⟩ := prmsT_mem hp
        have hpe' : u8s (numsOf (nmAt l2 r)) = (nmAt l2 q).data.toList := by simpa using hpe
        rw [u8s_nums] at hpe'
        exact (h q (by omega)).new r hr (ba_ext hpe')
      rw [this]
      simp [u8s_nums]
def thereT (l2 : List ByteArray) (o : ByteArray) : Nat → Bool
  | 0 => false
  | m + 1 => thereT l2 o m || ((nmAt l2 m).toList == o.toList)
theorem find_there {l2 l3 : List ByteArray} (o : ByteArray) : ∀ m, (findM (prmsT l2 l3 m) o.data.toList).2 = thereT l2 o m := by
  intro m
  have : ∀ ps : List Prm, (findM ps o.data.toList).2 = ps.any fun p => u8s p.1 == o.data.toList := by
    intro ps
    unfold findM
    cases hf : ps.find? (fun p => u8s p.1 == o.data.toList) with
    | none =>
      symm
      rw [Bool.eq_false_iff]
      intro ha
      rw [List.any_eq_true] at ha
      obtain ⟨p, hp, hq⟩ := ha
      exact (List.find?_eq_none.1 hf p hp) hq
    | some p =>
      symm
      exact List.any_eq_true.2 ⟨p, List.mem_of_find?_eq_some hf, by simpa using List.find?_some hf⟩
  rw [this]
  induction m with
  | zero => rfl
  | succ m ih => rw [prmsT, List.any_append, ih, thereT]; simp [u8s_nums, ByteArray.toList_eq]
section
variable (a0 a1 : ByteArray) (A2 : Option Addr) (c2 : Nat) (l2 : List ByteArray) (A3 : Option Addr) (c3 : Nat) (l3 : List ByteArray) (bl : Bool) (w : World)
set_option maxHeartbeats 4000000 in
theorem fnMedia_true (hr2 : Kd.C Kd.string w A2 l2.length l2) (hc2 : l2.length ≤ c2) (hr3 : Kd.C Kd.string w A3 l3.length l3) (hc3 : l3.length ≤ c3) :
    Calls Try.prog 3 #[.string a0, .string a1, .slice A2 l2.length c2, .slice A3 l3.length c3, .bool bl] w fun e w' => e = .returned (.bool true) ∧ Below w.heap.size w w' := by
  by_cases b0 : 2147483647 < a0.size
  · go_enter Try.func3, Try.ntmps3
    go_wp2
    go_ret
    exact ⟨rfl, Below.refl _ _⟩
  by_cases b1 : 2147483647 < a1.size
  · go_enter Try.func3, Try.ntmps3
    go_wp2
    go_ret
    exact ⟨rfl, Below.refl _ _⟩
  obtain ⟨r2, ⟨k2, hk2⟩, h2⟩ := fits_ev l2
  obtain ⟨r3, ⟨k3, hk3⟩, h3⟩ := fits_ev l3
  have HK2 := Aside0.mk (hk2 k2 (Nat.le_refl _))
  have HK3 := Aside0.mk (hk3 k3 (Nat.le_refl _))
  have HR2 := Aside0.mk hr2
  have HR3 := Aside0.mk hr3
  have HC := Aside0.mk (And.intro hc2 hc3)
  clear hk2 hk3 hr2 hr3 hc2 hc3
  cases r2 with
  | false =>
    clear h2 h3
    go_enter Try.func3, Try.ntmps3
    go_wp2_with (go_at_call 5; (with_reducible refine (laws_zzFits4.calls k2 A2 c2 l2 false _ HR2.out HC.out.1 HK2.out).mono ?_); rintro e w' ⟨rfl, ⟨nd, rfl⟩⟩)
    go_ret
    exact ⟨rfl, pw_below_drewN (Below.refl _ _) _⟩
  | true =>
  cases r3 with
  | false =>
    clear h2 h3
    go_enter Try.func3, Try.ntmps3
    go_wp2_with (first | (go_at_call 5; (with_reducible refine (laws_zzFits4.calls k2 A2 c2 l2 true _ HR2.out HC.out.1 HK2.out).mono ?_); rintro e w' ⟨rfl, ⟨nd, rfl⟩⟩) | (go_at_call 5; (with_reducible refine (laws_zzFits4.calls k3 A3 c3 l3 false _ (Kd.C_drewN HR3.out _) HC.out.2 HK3.out).mono ?_); rintro e w' ⟨rfl, ⟨nd', rfl⟩⟩))
    go_ret
    exact ⟨rfl, by (repeat apply pw_below_drewN); exact Below.refl _ _⟩
  | true =>
  have HF := Aside0.mk (And.intro (h2 rfl).2 (h3 rfl).2)
  clear h2 h3
  have HBB := Aside0.mk (show a0.size ≤ 2147483647 ∧ a1.size ≤ 2147483647 from ⟨by omega, by omega⟩)
  go_enter Try.func3, Try.ntmps3
  go_wp2_with (first | (go_at_call 5; (with_reducible refine (laws_zzFits4.calls k2 A2 c2 l2 true _ HR2.out HC.out.1 HK2.out).mono ?_); rintro e w' ⟨rfl, ⟨nd, rfl⟩⟩) | (go_at_call 5; (with_reducible refine (laws_zzFits4.calls k3 A3 c3 l3 true _ (Kd.C_drewN HR3.out _) HC.out.2 HK3.out).mono ?_); rintro e w2 ⟨rfl, ⟨nd', hw2⟩⟩; have HW := Aside0.mk (show Below w.heap.size w w2 from (by rw [hw2]; (repeat apply pw_below_drewN); exact Below.refl _ _)); clear hw2))
  (with_reducible refine (mediaText_any a0 a1 A2 c2 l2 A3 c3 l3 bl w2 (Kd.C_below HR2.out HW.out) HC.out.1 (Kd.C_below HR3.out HW.out) HC.out.2 HBB.out.1 HBB.out.2 HF.out.1 HF.out.2).mono ?_)
  rintro e w3 ⟨hb3, (rfl | ⟨g, n, cap, rfl, hn, hn3, hT, hok⟩)⟩
  · have HB3 := Aside0.mk (below_step HW.out hb3)
    clear hb3
    go_wp2
    go_ret
    exact ⟨rfl, HB3.out⟩
  · obtain ⟨T, hTe⟩ : ∃ T, T = textM (headT a0 a1) (prmsT l2 l3 l2.length) bl := ⟨_, rfl⟩
    rw [← hTe] at hn hT
    subst hn
    have HB3 := Aside0.mk (below_step HW.out hb3)
    have HT := Aside0.mk hT
    have HOK := Aside0.mk hok
    have HTE := Aside0.mk hTe
    have hH : (headT a0 a1).length = a0.size + 1 + a1.size := by rw [headT_eq, List.length_append, List.length_cons, numsOf_length, numsOf_length]; omega
    have z0 := hok.kind.2.1
    have z1 := hok.sub.2.1
    have hz47 : (⟨#[47]⟩ : ByteArray).size = 1 := rfl
    have hs1 : (a0 ++ (⟨#[47]⟩ : ByteArray)).size = a0.size + 1 := by rw [ByteArray.size_append, hz47]
    have hs2 : ((a0 ++ (⟨#[47]⟩ : ByteArray)) ++ a1).size = a0.size + 1 + a1.size := by rw [ByteArray.size_append, hs1]
    have hlen : (((prmsT l2 l3 l2.length).length : Int) == (l2.length : Int)) = true := by rw [prmsT_len]; exact beq_self_eq_true _
    clear hb3 hT hok hTe
    go_wp2_with fail
    (with_reducible refine (impl_MediaType.calls (some ⟨g, 0, none⟩) cap T (headT a0 a1) (prmsT l2 l3 l2.length) bl w3 HT.out.C HT.out.len HTE.out (okMed HOK.out) (okNew HOK.out.all) (by rw [HTE.out]; exact okBytes HOK.out) (by omega)).mono ?_)
    rintro e w4 ⟨v0, rfl, hv, hb4⟩
    obtain ⟨g4, cap4, rfl, hT4⟩ := row_text (b := w.heap.size) hv HB3.out.size (by omega)
    have HB4 := Aside0.mk (below_step HB3.out hb4)
    have hcv : (convert 24 9 (.slice (some ⟨g4, 0, none⟩) (headT a0 a1).length cap4)).run Try.prog w4 = .ok (.string (strOfNums (headT a0 a1))) w4 := Kd.C_string (c := cap4) Try.underlying24 Try.underlying5 Try.underlying9 hT4.C
    obtain ⟨S, hS⟩ : ∃ S, S = strOfNums (headT a0 a1) := ⟨_, rfl⟩
    have hse : (S.toList == ((a0 ++ (⟨#[47]⟩ : ByteArray)) ++ a1).toList) = true := by
      rw [hS]
      unfold headT
      rw [str_nums]
      exact beq_self_eq_true _
    rw [← hS] at hcv
    obtain ⟨hn, hhn⟩ : ∃ hn, hn = (headT a0 a1).length := ⟨_, rfl⟩
    obtain ⟨pn, hpn⟩ : ∃ pn, pn = (prmsT l2 l3 l2.length).length := ⟨_, rfl⟩
    rw [← hhn] at hcv ⊢
    rw [← hpn] at hlen ⊢
    clear hS hv hb4 hT4 hH hhn hpn
    go_wp2
    go_ret
    exact ⟨rfl, HB4.out⟩
set_option maxHeartbeats 4000000 in
theorem fnMediaParam_true (a5 : ByteArray) (hr2 : Kd.C Kd.string w A2 l2.length l2) (hc2 : l2.length ≤ c2) (hr3 : Kd.C Kd.string w A3 l3.length l3) (hc3 : l3.length ≤ c3) :
    Calls Try.prog 4 #[.string a0, .string a1, .slice A2 l2.length c2, .slice A3 l3.length c3, .bool bl, .string a5] w fun e w' => e = .returned (.bool true) ∧ Below w.heap.size w w' := by
  by_cases b0 : 2147483647 < a0.size
  · go_enter Try.func4, Try.ntmps4
    go_wp2
    go_ret
    exact ⟨rfl, Below.refl _ _⟩
  by_cases b1 : 2147483647 < a1.size
  · go_enter Try.func4, Try.ntmps4
    go_wp2
    go_ret
    exact ⟨rfl, Below.refl _ _⟩
  obtain ⟨r2, ⟨k2, hk2⟩, h2⟩ := fits_ev l2
  obtain ⟨r3, ⟨k3, hk3⟩, h3⟩ := fits_ev l3
  have HK2 := Aside0.mk (hk2 k2 (Nat.le_refl _))
  have HK3 := Aside0.mk (hk3 k3 (Nat.le_refl _))
  have HR2 := Aside0.mk hr2
  have HR3 := Aside0.mk hr3
  have HC := Aside0.mk (And.intro hc2 hc3)
  clear hk2 hk3 hr2 hr3 hc2 hc3
  cases r2 with
  | false =>
    clear h2 h3
    go_enter Try.func4, Try.ntmps4
    go_wp2_with (go_at_call 5; (with_reducible refine (laws_zzFits4.calls k2 A2 c2 l2 false _ HR2.out HC.out.1 HK2.out).mono ?_); rintro e w' ⟨rfl, ⟨nd, rfl⟩⟩)
    go_ret
    exact ⟨rfl, pw_below_drewN (Below.refl _ _) _⟩
  | true =>
  cases r3 with
  | false =>
    clear h2 h3
    go_enter Try.func4, Try.ntmps4
    go_wp2_with (first | (go_at_call 5; (with_reducible refine (laws_zzFits4.calls k2 A2 c2 l2 true _ HR2.out HC.out.1 HK2.out).mono ?_); rintro e w' ⟨rfl, ⟨nd, rfl⟩⟩) | (go_at_call 5; (with_reducible refine (laws_zzFits4.calls k3 A3 c3 l3 false _ (Kd.C_drewN HR3.out _) HC.out.2 HK3.out).mono ?_); rintro e w' ⟨rfl, ⟨nd', rfl⟩⟩))
    go_ret
    exact ⟨rfl, by (repeat apply pw_below_drewN); exact Below.refl _ _⟩
  | true =>
  by_cases b5 : 2147483647 < a5.size
  · clear h2 h3
    go_enter Try.func4, Try.ntmps4
    go_wp2_with (first | (go_at_call 5; (with_reducible refine (laws_zzFits4.calls k2 A2 c2 l2 true _ HR2.out HC.out.1 HK2.out).mono ?_); rintro e w' ⟨rfl, ⟨nd, rfl⟩⟩) | (go_at_call 5; (with_reducible refine (laws_zzFits4.calls k3 A3 c3 l3 true _ (Kd.C_drewN HR3.out _) HC.out.2 HK3.out).mono ?_); rintro e w' ⟨rfl, ⟨nd', rfl⟩⟩))
    go_ret
    exact ⟨rfl, by (repeat apply pw_below_drewN); exact Below.refl _ _⟩
  have HF := Aside0.mk (And.intro (h2 rfl).2 (h3 rfl).2)
  clear h2 h3
  have HBB := Aside0.mk (show a0.size ≤ 2147483647 ∧ a1.size ≤ 2147483647 from ⟨by omega, by omega⟩)
  go_enter Try.func4, Try.ntmps4
  go_wp2_with (first | (go_at_call 5; (with_reducible refine (laws_zzFits4.calls k2 A2 c2 l2 true _ HR2.out HC.out.1 HK2.out).mono ?_); rintro e w' ⟨rfl, ⟨nd, rfl⟩⟩) | (go_at_call 5; (with_reducible refine (laws_zzFits4.calls k3 A3 c3 l3 true _ (Kd.C_drewN HR3.out _) HC.out.2 HK3.out).mono ?_); rintro e w2 ⟨rfl, ⟨nd', hw2⟩⟩; have HW := Aside0.mk (show Below w.heap.size w w2 from (by rw [hw2]; (repeat apply pw_below_drewN); exact Below.refl _ _)); clear hw2))
  (with_reducible refine (mediaText_any a0 a1 A2 c2 l2 A3 c3 l3 bl w2 (Kd.C_below HR2.out HW.out) HC.out.1 (Kd.C_below HR3.out HW.out) HC.out.2 HBB.out.1 HBB.out.2 HF.out.1 HF.out.2).mono ?_)
  rintro e w3 ⟨hb3, (rfl | ⟨g, n, cap, rfl, hn, hn3, hT, hok⟩)⟩
  · have HB3 := Aside0.mk (below_step HW.out hb3)
    clear hb3
    go_wp2
    go_ret
    exact ⟨rfl, HB3.out⟩
  · obtain ⟨T, hTe⟩ : ∃ T, T = textM (headT a0 a1) (prmsT l2 l3 l2.length) bl := ⟨_, rfl⟩
    rw [← hTe] at hn hT
    subst hn
    have HB3 := Aside0.mk (below_step HW.out hb3)
    have HT := Aside0.mk hT
    have HOK := Aside0.mk hok
    have HTE := Aside0.mk hTe
    have HLN := Aside0.mk (show T.length < 1000000 by omega)
    have HT' := Aside0.mk (show TextV w3 w.heap.size g cap T from by obtain ⟨cur, fr, h1, h2⟩ := hT; exact ⟨cur, fr, Nat.le_trans HW.out.size h1, h2⟩)
    have HF5 := Aside0.mk (show a5.size ≤ 140737488355328 by omega)
    have hlen := HOK.out.len
    have hfew := HOK.out.few
    clear hb3 hT hok hTe
    go_wp2
    go_loopw [15, 58] (fun th i wr => ∃ k : Nat, th = .bool (thereT l2 a5 k) ∧ i = .int .i64 k ∧ k ≤ l2.length ∧ Aside0 (TextV wr w.heap.size g cap T) ∧ Aside0 (Below w.heap.size w wr)) (fun _ i _ => l2.length - (intOf i).toNat)
    case atStart => exact ⟨0, rfl, rfl, Nat.zero_le _, HT', HB3⟩
    case round =>
      obtain ⟨k, rfl, rfl, hk, HTk, HBk⟩ := hrel
      by_cases hlt : k < l2.length
      · obtain ⟨ad2, e2, hx2⟩ := Kd.at_string HR2.out (k : Int) (by omega) (by omega)
        obtain ⟨ad3, e3, hx3⟩ := Kd.at_string HR3.out (k : Int) (by omega) (by omega)
        cases e2
        cases e3
        have HX3 := Aside0.mk hx3
        replace hx2 := (HBk.out.cell (World.block_lt_of_cell? w _ hx2)).trans hx2
        simp only [Int.toNat_natCast] at hx2
        replace HX3 := Aside0.mk (show w.cell? (ad3.add k) = some (.string (nmAt l3 k)) from by have := HX3.out; simpa only [Int.toNat_natCast] using this)
        clear hx3
        obtain ⟨nm, hnm⟩ : ∃ nm, nm = nmAt l2 k := ⟨_, rfl⟩
        obtain ⟨vl, hvl⟩ : ∃ vl, vl = nmAt l3 k := ⟨_, rfl⟩
        rw [show rdOf ByteArray.empty l2 (k : Int) = nm from hnm.symm] at hx2
        obtain ⟨SV, hSV⟩ : ∃ SV, SV = strOfNums (numsOf vl) := ⟨_, rfl⟩
        have hfind : findM (prmsT l2 l3 l2.length) nm.data.toList = (SV, true) := by
          unfold findM
          rw [hnm, find_prms HOK.out.all hlt, hSV, hvl]
        have HFD := Aside0.mk hfind
        have HNM := Aside0.mk (And.intro hnm hvl)
        have hse : (SV.toList == vl.toList) = true := by rw [hSV, str_nums]; exact beq_self_eq_true _
        have hsn : (SV.toList != vl.toList) = false := by rw [bne, hse]; rfl
        have HSZ := Aside0.mk (show nm.size ≤ 140737488355328 by rw [hnm]; have := (HOK.out.all k hlt).name.2.1; omega)
        have hlt3 : k < l3.length := by omega
        clear hfind hnm hvl hSV hk
        obtain ⟨th, hth⟩ : ∃ th, th = thereT l2 a5 k := ⟨_, rfl⟩
        rw [← hth]
        have HTH := Aside0.mk hth
        clear hth
        go_wp2_with fail
        (with_reducible refine (impl_MediaParam.calls (some ⟨g, 0, none⟩) cap T nm (headT a0 a1) (prmsT l2 l3 l2.length) bl SV true wr HTk.out.C HTk.out.len HTE.out (okMed HOK.out) (okNew HOK.out.all) (by rw [HTE.out]; exact okBytes HOK.out) HLN.out HSZ.out HFD.out).mono ?_)
        rintro e w5 ⟨rfl, hb5⟩
        have HT5 := Aside0.mk (HTk.out.below hb5)
        have HB5 := Aside0.mk (below_step HBk.out hb5)
        have hx3 := (HB5.out.cell (World.block_lt_of_cell? w _ HX3.out)).trans HX3.out
        rw [← HNM.out.2] at hx3
        clear hb5 hx2
        cases th with
        | true =>
          go_wp2
          go_roundw
          case rel => exact ⟨k + 1, by rw [thereT, ← HTH.out]; rfl, by go_num, by omega, HT5, HB5⟩
          case measure => simp [intOf]; omega
        | false =>
          go_wp2
          go_roundw
          case rel => exact ⟨k + 1, by rw [thereT, ← HTH.out, ← HNM.out.1]; rfl, by go_num, by omega, HT5, HB5⟩
          case measure => simp [intOf]; omega
      · obtain rfl : k = l2.length := by omega
        obtain ⟨⟨so, bo⟩, hso⟩ : ∃ p, findM (prmsT l2 l3 l2.length) a5.data.toList = p := ⟨_, rfl⟩
        have hbo : bo = thereT l2 a5 l2.length := by
          have := find_there (l2 := l2) (l3 := l3) a5 l2.length
          rw [hso] at this
          exact this
        rw [← hbo]
        have HFD := Aside0.mk hso
        clear hso hbo
        go_wp2_with fail
        (with_reducible refine (impl_MediaParam.calls (some ⟨g, 0, none⟩) cap T a5 (headT a0 a1) (prmsT l2 l3 l2.length) bl so bo wr HTk.out.C HTk.out.len HTE.out (okMed HOK.out) (okNew HOK.out.all) (by rw [HTE.out]; exact okBytes HOK.out) HLN.out HF5.out HFD.out).mono ?_)
        rintro e w5 ⟨rfl, hb5⟩
        have HB5 := Aside0.mk (below_step HBk.out hb5)
        clear hb5
        cases bo
        · go_wp2
          go_ret
          exact ⟨rfl, HB5.out⟩
        · go_wp2
          go_ret
          exact ⟨rfl, HB5.out⟩
end
end Go.Proofs.Ytfjgfgaojebghaa.Own
