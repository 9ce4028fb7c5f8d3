/- A scope of names: its own cells, its variables, its index of names. -/
import Derived.Test.YtohfnhfpiipglaaCTextV
import Derived.Maps.OwnSet
namespace Go.Proofs.Ytohfnhfpiipglaa.Own
open Go.RowKit Go.Proofs.YtohfnhfpiipglaaW.PrintWords Go.Proofs.YtohfnhfpiipglaaW.PrintLast
set_option linter.unusedVariables false
set_option linter.unusedSimpArgs false
/-- A variable: its name, its block, its name's row, its uses, how it is declared. -/
structure Ent where
  name : ByteArray
  p : Nat
  gn : Nat
  cap : Nat
  uses : Int
  decl : Int
abbrev Ent.at (e : Ent) : Value := .pointer (some ⟨e.p, 0, none⟩)
structure VarAt (w : World) (base : Nat) (e : Ent) : Prop where
  blk : w.heap[e.p]? = some (.cells #[.slice (some ⟨e.gn, 0, none⟩) e.name.size e.cap, .pointer none, .int .u16 e.uses, .int .u16 e.decl] 54 (0, 0))
  lo : base ≤ e.p
  txt : TextV w base e.gn e.cap (numsOf e.name)
  few : e.name.size ≤ 20
  used : 0 ≤ e.uses ∧ e.uses ≤ 200
/-- A row of pointers to variables. -/
def RowP (w : World) (base : Nat) (v : Value) (es : List Ent) : Prop :=
  (v = .slice none 0 0 ∧ es = []) ∨ ∃ g cap cur, v = .slice (some ⟨g, 0, none⟩) es.length cap ∧ base ≤ g ∧ w.heap[g]? = some (.cells cur 45 (0, 0)) ∧ es.length ≤ cap ∧ cap ≤ maxLen ∧ cur.size = cap ∧ cur.toList.take es.length = es.map Ent.at ∧ es ≠ []
/-- A name in the index: its list's row, and what stands there. -/
structure Ix where
  name : ByteArray
  g : Nat
  cap : Nat
  idx : Int
def ixD (i : Ix) : DataW Unit := .slice [.lit (.int .i64 i.g), .lit (.int .i64 i.cap)] []
/-- How a list of the index is read: where it lies. -/
def ixR (v : Value) : Option (DataW Unit × List MemPlace) := match v with
  | .slice none 0 0 => some (.nil, [])
  | .slice (some ⟨g, 0, none⟩) 1 cap => some (.slice [.lit (.int .i64 g), .lit (.int .i64 cap)] [], [])
  | _ => none
theorem ixR_nil {v : Value} {ps : List MemPlace} (h : ixR v = some (.nil, ps)) : v = .slice none 0 0 := by
  unfold ixR at h
  split at h
  · rfl
  · simp at h
  · cases h
theorem ixR_inv {v : Value} {i : Ix} {ps : List MemPlace} (h : ixR v = some (ixD i, ps)) : v = .slice (some ⟨i.g, 0, none⟩) 1 i.cap := by
  unfold ixR ixD at h
  split at h
  · simp at h
  · simp at h
    obtain ⟨⟨h1, h2⟩, _⟩ := h
    have h1' := Int.ofNat.inj h1
    have h2' := Int.ofNat.inj h2
    rw [h1', h2']
  · cases h
theorem ixR_mk (i : Ix) : ixR (.slice (some ⟨i.g, 0, none⟩) 1 i.cap) = some (ixD i, []) := rfl
def mapI (I : List Ix) : DataW Unit := I.foldl (fun m i => m.put (.string i.name.data.toList) (ixD i)) (.map [])
theorem mapI_snoc (I : List Ix) (i : Ix) : mapI (I ++ [i]) = (mapI I).put (.string i.name.data.toList) (ixD i) := by simp [mapI]
theorem list_snoc_ind {α : Type} {C : List α → Prop} (h0 : C []) (hs : ∀ l x, C l → C (l ++ [x])) : ∀ l, C l := by
  intro l
  have : ∀ n (l : List α), l.length = n → C l := by
    intro n
    induction n with
    | zero => intro l hl; obtain rfl := List.eq_nil_of_length_eq_zero hl; exact h0
    | succ n ih =>
      intro l hl
      have hne : l ≠ [] := by intro e; subst e; cases hl
      rw [← List.dropLast_concat_getLast hne]
      exact hs _ _ (ih _ (by rw [List.length_dropLast]; omega))
  exact this _ l rfl
theorem key_lit (x : List UInt8) : WideAt.IsKeyLit (.string x) := trivial
theorem mapI_tidy : ∀ I : List Ix, Maps.Tidy (mapI I) := list_snoc_ind Maps.tidy_empty (fun l x h => by rw [mapI_snoc]; exact h.put (key_lit _) _)
theorem ba_ext {a b : ByteArray} (h : a.data.toList = b.data.toList) : a = b := by
  apply ByteArray.ext
  exact Array.ext' h
/-- What stands in the index for a name. -/
theorem mapI_at (s : ByteArray) : ∀ I : List Ix, (I.map Ix.name).Nodup → (mapI I).atKey (.string s.data.toList) .nil = match I.find? (fun i => i.name.data.toList == s.data.toList) with | some i => ixD i | none => .nil := list_snoc_ind (fun _ => rfl) (fun l x h hn => by
  rw [List.map_append, List.nodup_append] at hn
  obtain ⟨n1, _, n3⟩ := hn
  rw [mapI_snoc, List.find?_append]
  by_cases e : x.name.data.toList = s.data.toList
  · rw [e, Maps.atKey_put_same (mapI_tidy l).isMap (key_lit _)]
    have hnone : l.find? (fun i => i.name.data.toList == s.data.toList) = none := by
      rw [List.find?_eq_none]
      intro p hp hq
      have hq' : p.name.data.toList = s.data.toList := by simpa using hq
      exact n3 p.name (List.mem_map.2 ⟨p, hp, rfl⟩) x.name (by simp) (ba_ext (hq'.trans e.symm))
    rw [hnone, show [x].find? (fun i => i.name.data.toList == s.data.toList) = some x from List.find?_cons_of_pos (by rw [e]; exact beq_self_eq_true _)]
    rfl
  · rw [Maps.atKey_put_other (by intro he; injection he with he; exact e he.symm), h n1]
    have : [x].find? (fun i => i.name.data.toList == s.data.toList) = none := List.find?_eq_none.2 (fun y hy hq => by obtain rfl := List.mem_singleton.1 hy; exact e (eq_of_beq hq))
    rw [this]
    cases l.find? (fun i => i.name.data.toList == s.data.toList) <;> rfl)
/-- The index: none below sixteen names; then a list of one number for each. -/
def IndexAt (w : World) (base : Nat) (vM : Value) (ns : List (ByteArray × Int)) : Prop :=
  (ns.length < 16 ∧ vM = .map none) ∨ ∃ (gm : Nat) (I : List Ix), 16 ≤ ns.length ∧ vM = .map (some gm) ∧ base ≤ gm ∧ w.ownsMap Try.prog 9 ixR gm ns.length (mapI I) ∧ I.map (fun i => (i.name, i.idx)) = ns ∧
    ∀ i ∈ I, base ≤ i.g ∧ 1 ≤ i.cap ∧ ∃ cur, w.heap[i.g]? = some (.cells cur 3 (0, 0)) ∧ cur[0]? = some (.int .i64 i.idx)
def namesD : List Ent → Nat → List (ByteArray × Int)
  | [], _ => []
  | e :: t, k => (e.name, (k : Int)) :: namesD t (k + 1)
def namesU : List Ent → Nat → List (ByteArray × Int)
  | [], _ => []
  | e :: t, k => (e.name, -(k : Int) - 1) :: namesU t (k + 1)
structure ScAt (w : World) (base gs : Nat) (D U : List Ent) : Prop where
  all : ∃ vD vU vM, w.heap[gs]? = some (.cells #[.pointer none, .pointer (some ⟨gs, 0, none⟩), vD, vU, vM, .slice none 0 0, .int .i64 0, .int .i64 0, .int .i64 0, .bool true, .bool false] 42 (0, 0)) ∧ base ≤ gs ∧
    RowP w base vD D ∧ RowP w base vU U ∧ (∀ g, vD.ownBlock = some g → vU.ownBlock ≠ some g) ∧ IndexAt w base vM (namesD D 0 ++ namesU U 0)
  vars : ∀ e ∈ D ++ U, VarAt w base e
  new : ((D ++ U).map Ent.name).Nodup
  apart : ((D ++ U).map Ent.p).Nodup
  few : (D ++ U).length ≤ 60
/-- Two texts in rows, compared. -/
theorem bytesEqual_any (A B : Option Addr) (ca cb : Nat) (xs ys : List Int) (w : World) (hx : Kd.C (Kd.int .u8) w A xs.length xs) (hy : Kd.C (Kd.int .u8) w B ys.length ys) :
    Calls Try.prog 20 #[.slice A xs.length ca, .slice B ys.length cb] w fun e w' => e = .returned (.bool ((strOfNums xs).toList == (strOfNums ys).toList)) ∧ w' = w := by
  have h1 : (convert 48 9 (.slice A xs.length ca)).run Try.prog w = .ok (.string (strOfNums xs)) w := Kd.C_string (c := ca) Try.underlying48 Try.underlying5 Try.underlying9 hx
  have h2 : (convert 48 9 (.slice B ys.length cb)).run Try.prog w = .ok (.string (strOfNums ys)) w := Kd.C_string (c := cb) Try.underlying48 Try.underlying5 Try.underlying9 hy
  obtain ⟨n, hn⟩ : ∃ n, n = xs.length := ⟨_, rfl⟩
  obtain ⟨m, hm⟩ : ∃ m, m = ys.length := ⟨_, rfl⟩
  obtain ⟨S1, hS1⟩ : ∃ S, S = strOfNums xs := ⟨_, rfl⟩
  obtain ⟨S2, hS2⟩ : ∃ S, S = strOfNums ys := ⟨_, rfl⟩
  rw [← hn, ← hS1] at h1
  rw [← hm, ← hS2] at h2
  rw [← hn, ← hm, ← hS1, ← hS2]
  clear hn hm hS1 hS2 hx hy
  go_enter Try.func20, Try.ntmps20
  go_wp2
  go_ret
  exact ⟨rfl, rfl⟩
end Go.Proofs.Ytohfnhfpiipglaa.Own
