/- A table of entities: what stands for a name. -/
import Derived.Test.YtkgaladmiiglaaaDoorCTextV
import Derived.Maps.OwnSet
import Derived.Maps.Views
namespace Go.Proofs.YtkgaladmiiglaaaDoor.Own
open Go.RowKit Go.Proofs.YtkgaladmiiglaaaDoorW.PrintWords Go.Proofs.YtkgaladmiiglaaaDoorW.PrintLast
set_option linter.unusedVariables false
set_option linter.unusedSimpArgs false
/-- An entity: its name, and what it stands for. -/
structure En where
  nm : ByteArray
  vl : ByteArray
/-- An entity in the table: where its value lies. -/
structure Vx where
  en : En
  g : Nat
  cap : Nat
def vxD (x : Vx) : DataW Unit := .slice [.lit (.int .i64 x.g), .lit (.int .i64 x.en.vl.size), .lit (.int .i64 x.cap)] []
def valR (v : Value) : Option (DataW Unit × List MemPlace) := match v with
  | .slice none 0 0 => some (.nil, [])
  | .slice (some ⟨g, 0, none⟩) n cap => some (.slice [.lit (.int .i64 g), .lit (.int .i64 n), .lit (.int .i64 cap)] [], [])
  | _ => none
theorem valR_inv {v : Value} {x : Vx} {ps : List MemPlace} (h : valR v = some (vxD x, ps)) : v = .slice (some ⟨x.g, 0, none⟩) x.en.vl.size x.cap := by
  unfold valR vxD at h
  split at h
  · simp at h
  · simp at h
    obtain ⟨⟨h1, h2, h3⟩, _⟩ := h
    have h1' := Int.ofNat.inj h1
    have h2' := Int.ofNat.inj h2
    have h3' := Int.ofNat.inj h3
    rw [h1', h2', h3']
  · cases h
def mapV (X : List Vx) : DataW Unit := X.foldl (fun m x => m.put (.string x.en.nm.data.toList) (vxD x)) (.map [])
theorem mapV_snoc (X : List Vx) (x : Vx) : mapV (X ++ [x]) = (mapV X).put (.string x.en.nm.data.toList) (vxD x) := by simp [mapV]
theorem snoc_ind {α : Type} {C : List α → Prop} (h0 : C []) (hs : ∀ l x, C l → C (l ++ [x])) : ∀ l, C l := by
  intro l
  have : ∀ n (l : List α), l.length = n → C l := by
    intro n
    induction n with
    | zero => intro l hl; obtain rfl := List.eq_nil_of_length_eq_zero hl; exact h0
    | succ n ih =>
      intro l hl
      have hne : l ≠ [] := by intro e; subst e; cases hl
      rw [← List.dropLast_concat_getLast hne]
      exact hs _ _ (ih _ (by rw [List.length_dropLast]; omega))
  exact this _ l rfl
theorem keyLit (x : List UInt8) : WideAt.IsKeyLit (.string x) := trivial
theorem mapV_tidy : ∀ X : List Vx, Maps.Tidy (mapV X) := snoc_ind Maps.tidy_empty (fun l x h => by rw [mapV_snoc]; exact h.put (keyLit _) _)
theorem baExt {a b : ByteArray} (h : a.data.toList = b.data.toList) : a = b := by
  apply ByteArray.ext
  exact Array.ext' h
theorem mapV_at (s : ByteArray) : ∀ X : List Vx, (X.map fun x => x.en.nm).Nodup → (mapV X).atKey (.string s.data.toList) .nil = match X.find? (fun i => i.en.nm.data.toList == s.data.toList) with | some i => vxD i | none => .nil := snoc_ind (fun _ => rfl) (fun l x h hn => by
  rw [List.map_append, List.nodup_append] at hn
  obtain ⟨n1, _, n3⟩ := hn
  rw [mapV_snoc, List.find?_append]
  by_cases e : x.en.nm.data.toList = s.data.toList
  · rw [e, Maps.atKey_put_same (mapV_tidy l).isMap (keyLit _)]
    have hnone : l.find? (fun i => i.en.nm.data.toList == s.data.toList) = none := by
      rw [List.find?_eq_none]
      intro p hp hq
      have hq' : p.en.nm.data.toList = s.data.toList := by simpa using hq
      exact n3 p.en.nm (List.mem_map.2 ⟨p, hp, rfl⟩) x.en.nm (by simp) (baExt (hq'.trans e.symm))
    rw [hnone, show [x].find? (fun i => i.en.nm.data.toList == s.data.toList) = some x from List.find?_cons_of_pos (by rw [e]; exact beq_self_eq_true _)]
    rfl
  · rw [Maps.atKey_put_other (by intro he; injection he with he; exact e he.symm), h n1]
    have : [x].find? (fun i => i.en.nm.data.toList == s.data.toList) = none := List.find?_eq_none.2 (fun y hy hq => by obtain rfl := List.mem_singleton.1 hy; exact e (eq_of_beq hq))
    rw [this]
    cases l.find? (fun i => i.en.nm.data.toList == s.data.toList) <;> rfl)
theorem mapV_has (key : List UInt8) : ∀ X : List Vx, Maps.has (mapV X) (.string key) = X.any (fun x => x.en.nm.data.toList == key) := snoc_ind rfl (fun l x h => by
  rw [mapV_snoc, List.any_append]
  by_cases e : x.en.nm.data.toList = key
  · subst e
    rw [Maps.has_put_same (mapV_tidy l).isMap (keyLit _)]
    simp
  · rw [Maps.has_put_other (by intro he; injection he with he; exact e he.symm), h]
    simp [e])
/-- The table lies in blocks from lo on. -/
def EMap (w : World) (lo b : Nat) (l : List En) : Prop := ∃ X : List Vx, X.map Vx.en = l ∧ lo ≤ b ∧ w.ownsMap Tryd.prog 9 valR b X.length (mapV X) ∧ ∀ x ∈ X, TextV w lo x.g x.cap (numsOf x.en.vl)
theorem EMap.keep {w w' : World} {lo b : Nat} {l : List En} (h : EMap w lo b l) (hk : ∀ (k : Nat) (o : Obj), lo ≤ k → w.heap[k]? = some o → w'.heap[k]? = some o) : EMap w' lo b l := by
  obtain ⟨X, h1, h2, h3, h4⟩ := h
  refine ⟨X, h1, h2, ?_, fun x hx => ?_⟩
  · obtain ⟨es, clock, hb2, F, hs, hD⟩ := h3
    exact ⟨es, clock, hk _ _ h2 hb2, F, hs, hD⟩
  · obtain ⟨cur, fr, k1, k2, k3⟩ := h4 x hx
    exact ⟨cur, fr, k1, hk _ _ k1 k2, k3⟩
theorem zeroBytes (W : World) : (zeroValue 22).run Tryd.prog W = .ok (.slice none 0 0) W := by kernel_rfl
/-- The table, asked for a name that it holds. -/
theorem EMap.look {w : World} {lo b : Nat} {l : List En} (h : EMap w lo b l) (hn : (l.map En.nm).Nodup) {e : En} (he : e ∈ l) (hs : e.nm.size ≤ 1000) :
    ∃ g cap, (Instr.lookup 43 (.map (some b)) (.string e.nm) true).run Tryd.prog w = .ok (.tuple #[.slice (some ⟨g, 0, none⟩) e.vl.size cap, .bool true]) w ∧ TextV w lo g cap (numsOf e.vl) := by
  obtain ⟨X, rfl, h2, h3, h4⟩ := h
  obtain ⟨v, pl, hrun, hv⟩ := h3.look_ok (Go.Maps.string_keyed Tryd.underlying9) Tryd.underlying43 (zeroBytes w) (show valR (.slice none 0 0) = some (.nil, []) from rfl) (Go.WideMaps.keyOf_string_mk (P := Tryd.prog) (k := 9) Tryd.underlying9 (s := e.nm) (by have : maxLen = 9223372036854775807 := rfl; omega))
  obtain ⟨x, hx, hxe⟩ := List.mem_map.1 he
  rw [mapV_has] at hrun
  rw [mapV_at _ X (by rw [List.map_map] at hn; exact hn)] at hv
  have hf : X.find? (fun i => i.en.nm.data.toList == e.nm.data.toList) = some x := by
    cases hf : X.find? (fun i => i.en.nm.data.toList == e.nm.data.toList) with
    | none => exact absurd (beq_self_eq_true _) (by have := List.find?_eq_none.1 hf x hx; rw [hxe] at this; exact this)
    | some y =>
      have hy := List.mem_of_find?_eq_some hf
      have hq := eq_of_beq (List.find?_some (p := fun i : Vx => i.en.nm.data.toList == e.nm.data.toList) hf)
      have hyn : y.en.nm = x.en.nm := by rw [hxe]; exact baExt hq
      obtain ⟨i, hi, rfl⟩ := List.mem_iff_getElem.1 hy
      obtain ⟨j, hj, rfl⟩ := List.mem_iff_getElem.1 hx
      have : i = j := (List.getElem_inj (xs := (X.map Vx.en).map En.nm) (i := i) (j := j) (h₀ := by simpa using hi) (h₁ := by simpa using hj) hn).1 (by simpa using hyn)
      subst this
      rfl
  rw [hf] at hv
  have hv' := valR_inv hv
  have ha : X.any (fun x => x.en.nm.data.toList == e.nm.data.toList) = true := List.any_eq_true.2 ⟨x, hx, by rw [hxe]; exact beq_self_eq_true _⟩
  rw [ha, hv', hxe] at hrun
  have ht := h4 x hx
  rw [hxe] at ht
  exact ⟨x.g, x.cap, hrun, ht⟩
/-- A row of entities that is read. -/
def EnRow (w : World) (A : Option Addr) (L : List En) : Prop := ∀ j (hj : j < L.length), ∃ ad, A = some ad ∧ w.cell? (ad.add (j * 2)) = some (.string L[j].nm) ∧ w.cell? ⟨(ad.add (j * 2)).block, (ad.add (j * 2)).off + 1, none⟩ = some (.string L[j].vl)
theorem EnRow.below {w wr : World} {A : Option Addr} {L : List En} (h : EnRow w A L) (hb : Below w.heap.size w wr) : EnRow wr A L := fun j hj => by
  obtain ⟨ad, h1, h2, h3⟩ := h j hj
  exact ⟨ad, h1, (hb.cell (World.block_lt_of_cell? w _ h2)).trans h2, (hb.cell (World.block_lt_of_cell? w _ h3)).trans h3⟩
set_option maxHeartbeats 2000000 in
theorem table_of (w : World) (A : Option Addr) (L : List En) (c : Nat) (hR : EnRow w A L) (hl : L.length ≤ 1000) (hsz : ∀ e ∈ L, e.nm.size ≤ 1000 ∧ e.vl.size ≤ 1000) :
    Calls Tryd.prog 20 #[.slice A L.length c] w fun e w' => ∃ b, e = .returned (.map (some b)) ∧ EMap w' w.heap.size b L ∧ Below w.heap.size w w' := by
  obtain ⟨n, hn⟩ : ∃ n, n = L.length := ⟨_, rfl⟩
  have HR := Aside0.mk hR
  have HN := Aside0.mk hn
  have HSZ := Aside0.mk hsz
  rw [← hn] at hl ⊢
  clear hR hn hsz
  have hmk : ∀ W : World, (Instr.makeMap 43 none).run Tryd.prog W = .ok (.map (some W.heap.size)) (W.alloc (.map #[] 0)) := fun W => run_makeMap_plain (w := W) _
  have HM0 := Aside0.mk (World.ownsMap_made w Tryd.prog 9 valR)
  have HB0 := Aside0.mk ((Below.refl w.heap.size w).alloc (Nat.le_refl _) (.map #[] 0))
  go_enter Tryd.func20, Tryd.ntmps20
  go_wp2
  clear hmk
  go_loopw [9] (fun v wr => ∃ (k : Nat) (X : List Vx), v = .int .i64 (k : Int) ∧ k ≤ n ∧ Aside0 (X.map Vx.en = L.take k ∧ wr.ownsMap Tryd.prog 9 valR w.heap.size X.length (mapV X) ∧ ∀ x ∈ X, TextV wr w.heap.size x.g x.cap (numsOf x.en.vl) ∧ x.g ≠ w.heap.size) ∧ Aside0 (Below w.heap.size w wr)) (fun v _ => n - (intOf v).toNat)
  case atStart => exact ⟨0, [], rfl, Nat.zero_le _, ⟨rfl, HM0.out, fun x hx => (by cases hx)⟩, HB0⟩
  case round =>
    obtain ⟨k, X, rfl, hk, HX, HB⟩ := hrel
    by_cases hlt : k < n
    · have hlt2 : k < L.length := by have := HN.out; omega
      obtain ⟨ad, rfl, hc0, hc1⟩ := HR.out.below HB.out k hlt2
      obtain ⟨e, he⟩ : ∃ x, x = L[k] := ⟨_, rfl⟩
      rw [← he] at hc0 hc1
      have HE := Aside0.mk he
      have hes := HSZ.out L[k] (List.getElem_mem hlt2)
      rw [← he] at hes
      clear he
      obtain ⟨nm, hnm⟩ : ∃ y, y = e.nm := ⟨_, rfl⟩
      obtain ⟨vl, hvl⟩ : ∃ y, y = e.vl := ⟨_, rfl⟩
      rw [← hnm] at hc0 hes
      rw [← hvl] at hc1 hes
      have HNM := Aside0.mk (And.intro hnm hvl)
      clear hnm hvl
      have hgA := World.grownBy_alloc wr (Obj.cells #[.string nm, .string vl] 36) none
      have hsA : w.heap.size ≤ (wr.alloc (Obj.cells #[.string nm, .string vl] 36)).heap.size := Nat.le_trans HB.out.size hgA.size
      obtain ⟨hcv, hT⟩ := TextV.of_bytes (w := wr.alloc (Obj.cells #[.string nm, .string vl] 36)) hsA vl (by omega)
      obtain ⟨cap, hcap⟩ : ∃ c, c = grownCap (wr.alloc (Obj.cells #[.string nm, .string vl] 36)) vl.size 0 5 := ⟨_, rfl⟩
      rw [← hcap] at hcv hT
      obtain ⟨W1, hW1⟩ : ∃ W1, W1 = ((wr.alloc (Obj.cells #[.string nm, .string vl] 36)).drew.alloc (.cells (bytesRow vl cap) 5 ((bytesRow vl cap).size, (bytesRow vl cap).size + 1))) := ⟨_, rfl⟩
      rw [← hW1] at hcv hT
      have hg1 : wr.grownBy W1 none := by
        rw [hW1]
        exact (hgA.trans (show (wr.alloc (Obj.cells #[.string nm, .string vl] 36)).grownBy (wr.alloc (Obj.cells #[.string nm, .string vl] 36)).drew none from ⟨rfl, rfl, rfl, Nat.le_refl _, fun _ _ _ => rfl⟩)).trans (World.grownBy_alloc _ _ _)
      have hsz1 : (wr.alloc (Obj.cells #[.string nm, .string vl] 36)).heap.size = wr.heap.size + 1 := by simp
      have hown1 := HX.out.2.1.kept hg1 (by simp)
      obtain ⟨w2, hput, hown2, hg2⟩ := hown1.update (Go.Maps.string_keyed Tryd.underlying9) Tryd.underlying43 (by have h1 := congrArg List.length HX.out.1; simp at h1; have : maxLen = 9223372036854775807 := rfl; omega) (Go.WideMaps.keyOf_string_mk (P := Tryd.prog) (k := 9) Tryd.underlying9 (s := nm) (by have : maxLen = 9223372036854775807 := rfl; omega)) (show valR (.slice (some ⟨(wr.alloc (Obj.cells #[.string nm, .string vl] 36)).heap.size, 0, none⟩) vl.size cap) = some (vxD ⟨⟨nm, vl⟩, _, cap⟩, []) from rfl)
      have HX2 := Aside0.mk (show ∃ X' : List Vx, X'.map Vx.en = L.take (k + 1) ∧ w2.ownsMap Tryd.prog 9 valR w.heap.size X'.length (mapV X') ∧ ∀ x ∈ X', TextV w2 w.heap.size x.g x.cap (numsOf x.en.vl) ∧ x.g ≠ w.heap.size by
        refine ⟨X ++ [⟨⟨nm, vl⟩, _, cap⟩], ?_, by rw [mapV_snoc, List.length_append]; exact hown2, fun x hx => ?_⟩
        · rw [List.map_append, HX.out.1, List.take_succ_eq_append_getElem hlt2, ← HE.out, HNM.out.1, HNM.out.2]
          rfl
        · have key : TextV W1 w.heap.size x.g x.cap (numsOf x.en.vl) ∧ x.g ≠ w.heap.size := by
            rcases List.mem_append.1 hx with hx | hx
            · obtain ⟨k1, k2⟩ := HX.out.2.2 x hx
              obtain ⟨cur, fr, j1, j2, j3⟩ := k1
              exact ⟨⟨cur, fr, j1, (hg1.block _ (Array.getElem?_eq_some_iff.1 j2).1 (by simp)).trans j2, j3⟩, k2⟩
            · obtain rfl := List.mem_singleton.1 hx
              have hlt0 := HX.out.2.1.lt
              exact ⟨hT, by show (wr.alloc _).heap.size ≠ _; rw [hsz1]; omega⟩
          obtain ⟨⟨cur, fr, j1, j2, j3⟩, k2⟩ := key
          exact ⟨⟨cur, fr, j1, (hg2.block _ (Array.getElem?_eq_some_iff.1 j2).1 (by simpa using k2)).trans j2, j3⟩, k2⟩)
      have HB2 := Aside0.mk (show Below w.heap.size w w2 from (HB.out.grown hg1 HB.out.size (fun q hq => by cases hq)).grown hg2 (Nat.le_trans HB.out.size hg1.size) (fun q hq => by cases hq; exact Nat.le_refl _))
      rw [hsz1] at hcv hput
      clear hT hW1 hg1 hsz1 hown1 hown2 hg2 hsA hgA hcap
      go_wp2
      go_roundw
      case rel =>
        obtain ⟨X', hX'⟩ := HX2.out
        exact ⟨k + 1, X', by go_num, hlt, ⟨hX'⟩, HB2⟩
      case measure => simp [intOf] <;> omega
    · obtain rfl : k = n := by omega
      have HF := Aside0.mk (show EMap wr w.heap.size w.heap.size L from ⟨X, by rw [HX.out.1, HN.out, List.take_of_length_le (Nat.le_refl _)], Nat.le_refl _, HX.out.2.1, fun x hx => (HX.out.2.2 x hx).1⟩)
      go_wp2
      go_ret
      exact ⟨_, rfl, HF.out, HB.out⟩
end Go.Proofs.YtkgaladmiiglaaaDoor.Own
