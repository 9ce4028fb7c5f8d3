/- The contracts of MediaType and MediaParam, for a media type that is written as it should be, its parameters' names all different. -/
import Derived.Test.YtfjgfgaojebghaaCMediaB
import Derived.Maps.OwnSet
namespace Go.Proofs.Ytfjgfgaojebghaa.Own
open Go.RowKit Go.Proofs.YtfjgfgaojebghaaW.PrintWords Go.Proofs.YtfjgfgaojebghaaW.PrintLast
set_option linter.unusedVariables false
set_option linter.unusedSimpArgs false
theorem list_snoc_ind {α : Type} {C : List α → Prop} (h0 : C []) (hs : ∀ l x, C l → C (l ++ [x])) : ∀ l, C l := by
  intro l
  have : ∀ n (l : List α), l.length = n → C l := by
    intro n
    induction n with
    | zero => intro l hl; obtain rfl := List.eq_nil_of_length_eq_zero hl; exact h0
    | succ n ih =>
      intro l hl
      have hne : l ≠ [] := by intro e; subst e; cases hl
      rw [← List.dropLast_concat_getLast hne]
      exact hs _ _ (ih _ (by rw [List.length_dropLast]; omega))
  exact this _ l rfl
theorem key_lit (x : List UInt8) : WideAt.IsKeyLit (.string x) := trivial
theorem mapM_tidy : ∀ ps : List Prm, Maps.Tidy (mapM ps) := list_snoc_ind Maps.tidy_empty (fun l x h => by rw [mapM_snoc]; exact h.put (key_lit _) _)
theorem mapM_has (key : List UInt8) : ∀ ps : List Prm, Maps.has (mapM ps) (.string key) = ps.any (fun p => u8s p.1 == key) := list_snoc_ind rfl (fun l x h => by
  rw [mapM_snoc, List.any_append]
  by_cases e : u8s x.1 = key
  · subst e
    rw [Maps.has_put_same (mapM_tidy l).isMap (key_lit _)]
    simp
  · rw [Maps.has_put_other (by intro he; injection he with he; exact e he.symm), h]
    simp [e])
theorem mapM_at (key : List UInt8) (z : DataW Unit) : ∀ ps : List Prm, (ps.map fun p => u8s p.1).Nodup → (mapM ps).atKey (.string key) z = match ps.find? (fun p => u8s p.1 == key) with | some p => .lit (.string (u8s p.2)) | none => z := list_snoc_ind (fun _ => rfl) (fun l x h hn => by
  rw [List.map_append, List.nodup_append] at hn
  obtain ⟨n1, _, n3⟩ := hn
  rw [mapM_snoc, List.find?_append]
  by_cases e : u8s x.1 = key
  · subst e
    rw [Maps.atKey_put_same (mapM_tidy l).isMap (key_lit _)]
    have hnone : l.find? (fun p => u8s p.1 == u8s x.1) = none := by
      rw [List.find?_eq_none]
      intro p hp hq
      exact n3 (u8s p.1) (List.mem_map.2 ⟨p, hp, rfl⟩) (u8s x.1) (by simp) (by simpa using hq)
    rw [hnone]
    simp
  · rw [Maps.atKey_put_other (by intro he; injection he with he; exact e he.symm), h n1]
    have : [x].find? (fun p => u8s p.1 == key) = none := by simp [e]
    rw [this]
    cases l.find? (fun p => u8s p.1 == key) <;> rfl)
theorem mapM_size : ∀ ps : List Prm, (ps.map fun p => u8s p.1).Nodup → Maps.size (mapM ps) = ps.length := list_snoc_ind (fun _ => rfl) (fun l x h hn => by
  rw [List.map_append, List.nodup_append] at hn
  obtain ⟨n1, _, n3⟩ := hn
  rw [mapM_snoc, Maps.size_put (mapM_tidy l), mapM_has, if_neg, h n1]
  · simp
  · intro ha
    rw [List.any_eq_true] at ha
    obtain ⟨p, hp, hq⟩ := ha
    exact n3 (u8s p.1) (List.mem_map.2 ⟨p, hp, rfl⟩) (u8s x.1) (by simp) (by simpa using hq))
theorem zeroStr (W : World) : (zeroValue 9).run Try.prog W = .ok (.string ⟨#[]⟩) W := by kernel_rfl
/-- What stands for a key. -/
def findM (ps : List Prm) (key : List UInt8) : ByteArray × Bool := match ps.find? (fun p => u8s p.1 == key) with | some p => (strOfNums p.2, true) | none => (⟨#[]⟩, false)
theorem look_own {w : World} {B n : Nat} {ps : List Prm} (h : w.ownsMap Try.prog 9 (plainElem Try.prog 9) B n (mapM ps)) (hn : (ps.map fun p => u8s p.1).Nodup) (s : ByteArray) (hs : s.size ≤ maxLen) :
    (Instr.lookup 36 (.map (some B)) (.string s) true).run Try.prog w = .ok (.tuple #[.string (findM ps s.data.toList).1, .bool (findM ps s.data.toList).2]) w := by
  obtain ⟨v, pl, hrun, hv⟩ := h.look_ok (Go.Maps.string_keyed Try.underlying9) Try.underlying36 (zeroStr w) (plainElem_string (H := Unit) Try.underlying9 (s := ⟨#[]⟩) (by simp [ByteArray.size])) (Go.WideMaps.keyOf_string_mk (P := Try.prog) (k := 9) Try.underlying9 hs)
  obtain ⟨c, rfl, hc, _⟩ := plainElem_string_inv Try.underlying9 hv
  rw [hrun]
  have h1 := congrArg Prod.fst hc
  simp only at h1
  rw [mapM_at _ _ ps hn] at h1
  rw [mapM_has]
  unfold findM
  have hany : ps.any (fun p => u8s p.1 == s.data.toList) = (ps.find? (fun p => u8s p.1 == s.data.toList)).isSome := by rw [Bool.eq_iff_iff, List.any_eq_true, List.find?_isSome]
  rw [hany]
  cases hf : ps.find? (fun p => u8s p.1 == s.data.toList) with
  | none =>
    rw [hf] at h1
    simp only [DataW.lit.injEq, Lit.string.injEq] at h1
    have : c = ⟨#[]⟩ := by
      apply ByteArray.ext
      apply Array.ext'
      exact h1.symm
    rw [this]
    rfl
  | some p =>
    rw [hf] at h1
    simp only [DataW.lit.injEq, Lit.string.injEq] at h1
    have : c = strOfNums p.2 := by
      apply ByteArray.ext
      apply Array.ext'
      rw [strOf_data]
      exact h1.symm
    rw [this]
    rfl
theorem own_first (A0 : Option Addr) (c0 : Nat) (l : List Int) (w : World) (hr0 : Kd.C (Kd.int .u8) w A0 l.length l) (hc0 : l.length ≤ c0) (hl : l.length < 1000000) (h0 : 0 < l.length) :
    Calls Try.prog 13 #[.slice A0 l.length c0] w fun e w' => ∃ g cap, e = .returned (.slice (some ⟨g, 0, none⟩) l.length cap) ∧ Kd.C (Kd.int .u8) w' (some ⟨g, 0, none⟩) l.length l ∧ l.length ≤ cap ∧ Below w.heap.size w w' := by
  refine (impl_own.calls A0 c0 l l w hr0 hc0 (by simp [impl_own.f] <;> omega)).mono ?_
  rintro e w' ⟨v, rfl, hv, hb⟩
  rcases (Kd.own_of_R hv).2 with ⟨_, he⟩ | ⟨g, cap, cur, rfl, _⟩
  · omega
  · exact ⟨g, cap, rfl, (Kd.R_reads' hv).2.2, (Kd.R_reads' hv).2.1, hb⟩
set_option maxHeartbeats 2000000 in
theorem impl_MediaType.calls (A0 : Option Addr) (c0 : Nat) (l0 : List Int) (H : List Int) (ps : List Prm) (bl : Bool) (w : World) (hr0 : Kd.C (Kd.int .u8) w A0 l0.length l0) (hc0 : l0.length ≤ c0) (e1 : l0 = textM H ps bl) (e2 : MedOk H ps) (e3 : (ps.map fun p => u8s p.1).Nodup) (e4 : ∀ c ∈ l0, 0 ≤ c ∧ c < 256) (e5 : l0.length < 1000000) :
    Calls Try.prog 7 #[.slice A0 l0.length c0] w fun e w' => ∃ v0_, e = .returned (.tuple #[v0_, .int .i64 (ps.length : Int)]) ∧ Kd.R (Kd.int .u8) 5 w' w.heap.size (fun _ => True) v0_ H ∧ Below w.heap.size w w' := by
  have hlH : H.length ≤ l0.length := by rw [e1]; unfold textM; simp
  have hpos : 0 < l0.length := by have := e2.three; omega
  have HH := Aside0.mk (And.intro e1 (And.intro e2 (And.intro e3 e4)))
  have HO := Aside0.mk (show impl_own.f H = some H by simp [impl_own.f] <;> omega)
  have HR := Aside0.mk hr0
  have HP := Aside0.mk hpos
  have HLH := Aside0.mk hlH
  clear e1 e2 e3 e4 hr0 hpos hlH
  go_enter Try.func7, Try.ntmps7
  go_wp2_with fail
  (with_reducible refine (own_first A0 c0 l0 w HR.out hc0 e5 HP.out).mono ?_)
  rintro e w1 ⟨g, cap, rfl, hC, hcap, hb⟩
  have HC1 := Aside0.mk (And.intro hC hcap)
  have HB1 := Aside0.mk hb
  clear hC hcap hb
  go_wp2_with fail
  (with_reducible refine (media_any g cap l0.length l0 H ps bl w1 HC1.out.1 HH.out.1 rfl HC1.out.2 (by omega) HH.out.2.1 HH.out.2.2.2).mono ?_)
  rintro e w2 (⟨rfl, rfl, hb2⟩ | ⟨B, rfl, hown, hb2, hB⟩)
  · have HC2 := Aside0.mk (show Kd.C (Kd.int .u8) w2 (some ⟨g, 0, none⟩) H.length H from by
      have := Kd.C_take (m := H.length) (Kd.C_below HC1.out.1 hb2) HLH.out
      rw [HH.out.1] at this
      simpa [textM] using this)
    have HB2 := Aside0.mk (below_step HB1.out hb2)
    clear hb2
    go_wp2_with fail
    (with_reducible refine (impl_own.calls (some ⟨g, 0, none⟩) cap H H w2 HC2.out (Nat.le_trans HLH.out HC1.out.2) HO.out).mono ?_)
    rintro e w3 ⟨v, rfl, hv, hb3⟩
    have HV := Aside0.mk hv
    have HB3 := Aside0.mk (below_step HB2.out hb3)
    clear hv hb3
    go_wp2
    go_ret2
    exact ⟨v, rfl, Kd.R_lower HV.out HB2.out.size, HB3.out⟩
  · have HC2 := Aside0.mk (show Kd.C (Kd.int .u8) w2 (some ⟨g, 0, none⟩) H.length H from by
      have := Kd.C_take (m := H.length) (Kd.C_below HC1.out.1 hb2) HLH.out
      rw [HH.out.1] at this
      simpa [textM] using this)
    have HB2 := Aside0.mk (below_step HB1.out hb2)
    have HOW := Aside0.mk hown
    clear hb2 hown
    go_wp2_with fail
    (with_reducible refine (impl_own.calls (some ⟨g, 0, none⟩) cap H H w2 HC2.out (Nat.le_trans HLH.out HC1.out.2) HO.out).mono ?_)
    rintro e w3 ⟨v, rfl, hv, hb3⟩
    have HV := Aside0.mk hv
    have HB3 := Aside0.mk (below_step HB2.out hb3)
    have HOW3 := Aside0.mk (HOW.out.kept (show w2.grownBy w3 none from grown_of_below hb3 none) (by simp))
    have hlen := HOW3.out.len Try.underlying36 3
    rw [mapM_size ps HH.out.2.2.1] at hlen
    clear hv hb3
    go_wp2
    go_ret2
    exact ⟨v, rfl, Kd.R_lower HV.out HB2.out.size, HB3.out⟩
theorem look_nil_str (s : ByteArray) (W : World) (hs : s.size ≤ maxLen) : (Instr.lookup 36 (.map none) (.string s) true).run Try.prog W = .ok (.tuple #[.string ⟨#[]⟩, .bool false]) W :=
  Maps.look_nil true (Go.Maps.string_keyed Try.underlying9) Try.underlying36 (zeroStr W) (Go.WideMaps.keyOf_string_mk (P := Try.prog) (k := 9) Try.underlying9 hs)
set_option maxHeartbeats 2000000 in
theorem impl_MediaParam.calls (A0 : Option Addr) (c0 : Nat) (l0 : List Int) (a1 : ByteArray) (H : List Int) (ps : List Prm) (bl : Bool) (r0 : ByteArray) (r1 : Bool) (w : World) (hr0 : Kd.C (Kd.int .u8) w A0 l0.length l0) (hc0 : l0.length ≤ c0) (e1 : l0 = textM H ps bl) (e2 : MedOk H ps) (e3 : (ps.map fun p => u8s p.1).Nodup) (e4 : ∀ c ∈ l0, 0 ≤ c ∧ c < 256) (e5 : l0.length < 1000000) (hsz : a1.size ≤ 140737488355328) (he : findM ps a1.data.toList = (r0, r1)) :
    Calls Try.prog 8 #[.slice A0 l0.length c0, .string a1] w fun e w' => e = .returned (.tuple #[.string r0, .bool r1]) ∧ Below w.heap.size w w' := by
  have hpos : 0 < l0.length := by
    have := e2.three
    rw [e1]
    unfold textM
    simp
    omega
  have HE := Aside0.mk he
  have HH := Aside0.mk (And.intro e1 (And.intro e2 (And.intro e3 e4)))
  have HR := Aside0.mk hr0
  have HP := Aside0.mk hpos
  have HSZ := Aside0.mk hsz
  clear e1 e2 e3 e4 hr0 hpos he hsz
  go_enter Try.func8, Try.ntmps8
  go_wp2_with fail
  (with_reducible refine (own_first A0 c0 l0 w HR.out hc0 e5 HP.out).mono ?_)
  rintro e w1 ⟨g, cap, rfl, hC, hcap, hb⟩
  have HC1 := Aside0.mk (And.intro hC hcap)
  have HB1 := Aside0.mk hb
  clear hC hcap hb
  go_wp2_with fail
  (with_reducible refine (media_any g cap l0.length l0 H ps bl w1 HC1.out.1 HH.out.1 rfl HC1.out.2 (by omega) HH.out.2.1 HH.out.2.2.2).mono ?_)
  rintro e w2 (⟨rfl, rfl, hb2⟩ | ⟨B, rfl, hown, hb2, hB⟩)
  · have HB2 := Aside0.mk (below_step HB1.out hb2)
    have hlk := look_nil_str a1 w2 (by have hmx : maxLen = 9223372036854775807 := rfl; have := HSZ.out; omega)
    clear hb2
    go_wp2
    go_ret2
    have h1 : r0 = ⟨#[]⟩ := by have := congrArg Prod.fst HE.out; exact this.symm
    have h2 : r1 = false := by have := congrArg Prod.snd HE.out; exact this.symm
    exact ⟨by rw [h1, h2]; rfl, HB2.out⟩
  · have HB2 := Aside0.mk (below_step HB1.out hb2)
    have hlk := look_own hown HH.out.2.2.1 a1 (by have hmx : maxLen = 9223372036854775807 := rfl; have := HSZ.out; omega)
    rw [HE.out] at hlk
    clear hb2 hown
    go_wp2
    go_ret2
    exact ⟨rfl, HB2.out⟩
end Go.Proofs.Ytfjgfgaojebghaa.Own
