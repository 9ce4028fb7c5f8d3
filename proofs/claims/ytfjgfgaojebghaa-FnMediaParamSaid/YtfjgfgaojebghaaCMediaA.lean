/- A media type with parameters: its text, and what its parameters make of a map. No program in sight. -/
import Derived.Test.YtfjgfgaojebghaaCown
import Derived.Test.YtfjgfgaojebghaaOwn
import Derived.Maps.Own
import Derived.Maps.Views
import Derived.Maps.StringElems
import Derived.StringKeys
import Derived.WideMake
import Derived.ScopeJumps
import Derived.Outline
namespace Go.Proofs.Ytfjgfgaojebghaa.Own
open Go.RowKit Go.Proofs.YtfjgfgaojebghaaW.PrintWords Go.Proofs.YtfjgfgaojebghaaW.PrintLast
set_option linter.unusedVariables false
set_option linter.unusedSimpArgs false
theorem infoM : (Try.prog.info? 5).map (fun i => (i.zero, i.size, i.bytes)) = some (some (.int .u8 0), 1, 1) := by kernel_rfl
abbrev Prm := List Int × List Int
/-- A parameter, with or without a blank behind its semicolon. -/
def segM (bl : Bool) (p : Prm) : List Int := 59 :: ((if bl = true then [32] else []) ++ (p.1 ++ 61 :: p.2))
def textM (H : List Int) (ps : List Prm) (bl : Bool) : List Int := H ++ ps.flatMap (segM bl)
structure MedOk (H : List Int) (ps : List Prm) : Prop where
  three : 3 ≤ H.length
  head : ∀ c ∈ H, c ≠ 59 ∧ c ≠ 32
  keys : ∀ p ∈ ps, ∀ c ∈ p.1, c ≠ 61 ∧ c ≠ 59 ∧ c ≠ 32
  vals : ∀ p ∈ ps, ∀ c ∈ p.2, c ≠ 59 ∧ c ≠ 32
  pos : ∀ p ∈ ps, 0 < p.2.length
def blN (bl : Bool) : Nat := if bl = true then 1 else 0
theorem segM_len (bl : Bool) (p : Prm) : (segM bl p).length = 1 + blN bl + p.1.length + 1 + p.2.length := by
  unfold segM blN
  cases bl <;> simp <;> omega
/-- Where the parameter j begins. -/
def offM (H : List Int) (ps : List Prm) (bl : Bool) (j : Nat) : Nat := (textM H (ps.take j) bl).length
theorem offM_zero (H : List Int) (ps : List Prm) (bl : Bool) : offM H ps bl 0 = H.length := by simp [offM, textM]
theorem offM_all (H : List Int) (ps : List Prm) (bl : Bool) {j : Nat} (h : ps.length ≤ j) : offM H ps bl j = (textM H ps bl).length := by unfold offM; rw [List.take_of_length_le h]
theorem offM_succ (H : List Int) (ps : List Prm) (bl : Bool) {j : Nat} (h : j < ps.length) : offM H ps bl (j + 1) = offM H ps bl j + (1 + blN bl + ps[j].1.length + 1 + ps[j].2.length) := by
  unfold offM textM
  rw [List.take_succ_eq_append_getElem h, List.flatMap_append, ← segM_len]
  simp
  omega
theorem textM_split (H : List Int) (ps : List Prm) (bl : Bool) {j : Nat} (h : j < ps.length) : textM H ps bl = textM H (ps.take j) bl ++ (segM bl ps[j] ++ (ps.drop (j + 1)).flatMap (segM bl)) := by
  have e : ps.flatMap (segM bl) = (ps.take j ++ (ps[j] :: ps.drop (j + 1))).flatMap (segM bl) := by rw [← List.drop_eq_getElem_cons h, List.take_append_drop]
  unfold textM
  rw [e, List.flatMap_append, List.flatMap_cons, List.append_assoc]
theorem atM (H : List Int) (ps : List Prm) (bl : Bool) {j : Nat} (h : j < ps.length) (t : Nat) (ht : t < (segM bl ps[j]).length) : (textM H ps bl).getD (offM H ps bl j + t) 0 = (segM bl ps[j]).getD t 0 := by
  rw [textM_split H ps bl h, List.getD_eq_getElem?_getD, List.getD_eq_getElem?_getD, List.getElem?_append_right (by unfold offM; omega)]
  unfold offM
  rw [Nat.add_sub_cancel_left, List.getElem?_append_left ht]
theorem offM_lt (H : List Int) (ps : List Prm) (bl : Bool) {j : Nat} (h : j < ps.length) : offM H ps bl j + (segM bl ps[j]).length ≤ (textM H ps bl).length := by
  rw [textM_split H ps bl h]
  unfold offM
  simp
section
variable {H : List Int} {ps : List Prm} {bl : Bool} {j : Nat}
/-- The bytes of a parameter, by their places. -/
theorem m_semi (h : j < ps.length) : (textM H ps bl).getD (offM H ps bl j) 0 = 59 := by
  have := atM H ps bl h 0 (by rw [segM_len]; omega)
  simpa [segM] using this
theorem m_blank (h : j < ps.length) (hb : bl = true) : (textM H ps bl).getD (offM H ps bl j + 1) 0 = 32 := by
  have := atM H ps bl h 1 (by rw [segM_len]; unfold blN; rw [hb]; simp <;> omega)
  rw [this]
  simp [segM, hb]
theorem seg_key {p : Prm} {t : Nat} (ht : t < p.1.length) : (segM bl p).getD (1 + blN bl + t) 0 = p.1[t] := by
  unfold segM blN
  cases bl
  · rw [if_neg (by decide), if_neg (by decide), show 1 + 0 + t = t + 1 by omega, List.getD_cons_succ, List.nil_append, List.getD_eq_getElem?_getD, List.getElem?_append_left ht, List.getElem?_eq_getElem ht]
    rfl
  · rw [if_pos rfl, if_pos rfl, show 1 + 1 + t = (t + 1) + 1 by omega, List.getD_cons_succ, List.singleton_append, List.getD_cons_succ, List.getD_eq_getElem?_getD, List.getElem?_append_left ht, List.getElem?_eq_getElem ht]
    rfl
theorem seg_eq {p : Prm} : (segM bl p).getD (1 + blN bl + p.1.length) 0 = 61 := by
  unfold segM blN
  cases bl
  · rw [if_neg (by decide), if_neg (by decide), show 1 + 0 + p.1.length = p.1.length + 1 by omega, List.getD_cons_succ, List.nil_append, List.getD_eq_getElem?_getD, List.getElem?_append_right (Nat.le_refl _), Nat.sub_self]
    rfl
  · rw [if_pos rfl, if_pos rfl, show 1 + 1 + p.1.length = (p.1.length + 1) + 1 by omega, List.getD_cons_succ, List.singleton_append, List.getD_cons_succ, List.getD_eq_getElem?_getD, List.getElem?_append_right (Nat.le_refl _), Nat.sub_self]
    rfl
theorem seg_val {p : Prm} {t : Nat} (ht : t < p.2.length) : (segM bl p).getD (1 + blN bl + p.1.length + 1 + t) 0 = p.2[t] := by
  unfold segM blN
  cases bl
  · rw [if_neg (by decide), if_neg (by decide), show 1 + 0 + p.1.length + 1 + t = (p.1.length + 1 + t) + 1 by omega, List.getD_cons_succ, List.nil_append, List.getD_eq_getElem?_getD, List.getElem?_append_right (by omega), show p.1.length + 1 + t - p.1.length = t + 1 by omega, List.getElem?_cons_succ, List.getElem?_eq_getElem ht]
    rfl
  · rw [if_pos rfl, if_pos rfl, show 1 + 1 + p.1.length + 1 + t = (p.1.length + 1 + t + 1) + 1 by omega, List.getD_cons_succ, List.singleton_append, List.getD_cons_succ, List.getD_eq_getElem?_getD, List.getElem?_append_right (by omega), show p.1.length + 1 + t - p.1.length = t + 1 by omega, List.getElem?_cons_succ, List.getElem?_eq_getElem ht]
    rfl
theorem m_key (h : j < ps.length) {t : Nat} (ht : t < ps[j].1.length) : (textM H ps bl).getD (offM H ps bl j + (1 + blN bl + t)) 0 = ps[j].1[t] := by
  rw [atM H ps bl h _ (by rw [segM_len]; omega), seg_key ht]
theorem m_eq (h : j < ps.length) : (textM H ps bl).getD (offM H ps bl j + (1 + blN bl + ps[j].1.length)) 0 = 61 := by
  rw [atM H ps bl h _ (by rw [segM_len]; omega), seg_eq]
theorem m_val (h : j < ps.length) {t : Nat} (ht : t < ps[j].2.length) : (textM H ps bl).getD (offM H ps bl j + (1 + blN bl + ps[j].1.length + 1 + t)) 0 = ps[j].2[t] := by
  rw [atM H ps bl h _ (by rw [segM_len]; omega), seg_val ht]
theorem m_head {k : Nat} (hk : k < H.length) : (textM H ps bl).getD k 0 = H[k] := by
  unfold textM
  rw [List.getD_eq_getElem?_getD, List.getElem?_append_left hk, List.getElem?_eq_getElem hk]
  rfl
end
/-- The bytes of a list, as a key of a map. -/
def u8s (l : List Int) : List UInt8 := l.map fun n => UInt8.ofNat n.toNat
/-- What parameters make of a map. -/
def mapM (ps : List Prm) : DataW Unit := ps.foldl (fun m p => m.put (.string (u8s p.1)) (.lit (.string (u8s p.2)))) (.map [])
theorem mapM_snoc (ps : List Prm) (p : Prm) : mapM (ps ++ [p]) = (mapM ps).put (.string (u8s p.1)) (.lit (.string (u8s p.2))) := by simp [mapM]
theorem strOf_data (l : List Int) : (strOfNums l).data.toList = u8s l := by simp [strOfNums, u8s]
theorem strOf_size (l : List Int) : (strOfNums l).size = l.length := by show (strOfNums l).data.size = _; simp [strOfNums]
theorem strOf_bt {l : List Int} (hb : ∀ x ∈ l, 0 ≤ x ∧ x < 256) {k : Nat} (hk : k < l.length) : bt (strOfNums l) (k : Int) = l.getD k 0 := by
  unfold bt
  rw [Int.toNat_natCast]
  have hs : k < (strOfNums l).size := by rw [strOf_size]; exact hk
  simp only [hs, dif_pos]
  have e : (strOfNums l)[k] = UInt8.ofNat l[k].toNat := by
    show (strOfNums l).data[k]'(by simpa using hs) = _
    simp [strOfNums]
  rw [e, List.getD_eq_getElem?_getD, List.getElem?_eq_getElem hk]
  have := hb _ (List.getElem_mem hk)
  simp
  omega
theorem strOf_cut (l : List Int) (a b : Nat) (h : a ≤ b) (hb : b ≤ l.length) : ((strOfNums l).extract a b).data.toList = u8s ((l.take b).drop a) := by
  rw [ByteArray.data_extract]
  simp [strOfNums, u8s, List.map_take, List.map_drop, List.take_drop]
  rw [show a + (b - a) = b by omega]
theorem cut_key {H : List Int} {ps : List Prm} {bl : Bool} {j : Nat} (h : j < ps.length) : ((textM H ps bl).take (offM H ps bl j + (1 + blN bl + ps[j].1.length))).drop (offM H ps bl j + (1 + blN bl)) = ps[j].1 := by
  apply List.ext_getElem?
  intro t
  rw [List.getElem?_drop, List.getElem?_take]
  have hlt := offM_lt H ps bl h
  rw [segM_len] at hlt
  by_cases ht : t < ps[j].1.length
  · rw [if_pos (by omega)]
    have := m_key (H := H) (bl := bl) h ht
    rw [List.getD_eq_getElem?_getD, show offM H ps bl j + (1 + blN bl + t) = offM H ps bl j + (1 + blN bl) + t by omega, List.getElem?_eq_getElem (by omega)] at this
    rw [List.getElem?_eq_getElem (by omega), List.getElem?_eq_getElem ht]
    exact congrArg some this
  · rw [if_neg (by omega), List.getElem?_eq_none (by omega)]
theorem cut_val {H : List Int} {ps : List Prm} {bl : Bool} {j : Nat} (h : j < ps.length) : ((textM H ps bl).take (offM H ps bl j + (1 + blN bl + ps[j].1.length + 1 + ps[j].2.length))).drop (offM H ps bl j + (1 + blN bl + ps[j].1.length + 1)) = ps[j].2 := by
  apply List.ext_getElem?
  intro t
  rw [List.getElem?_drop, List.getElem?_take]
  have hlt := offM_lt H ps bl h
  rw [segM_len] at hlt
  by_cases ht : t < ps[j].2.length
  · rw [if_pos (by omega)]
    have := m_val (H := H) (bl := bl) h ht
    rw [List.getD_eq_getElem?_getD, show offM H ps bl j + (1 + blN bl + ps[j].1.length + 1 + t) = offM H ps bl j + (1 + blN bl + ps[j].1.length + 1) + t by omega, List.getElem?_eq_getElem (by omega)] at this
    rw [List.getElem?_eq_getElem (by omega), List.getElem?_eq_getElem ht]
    exact congrArg some this
  · rw [if_neg (by omega), List.getElem?_eq_none (by omega)]
end Go.Proofs.Ytfjgfgaojebghaa.Own
