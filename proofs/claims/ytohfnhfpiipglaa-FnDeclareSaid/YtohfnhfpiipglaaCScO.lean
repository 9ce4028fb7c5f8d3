/- impl.Use: the names that are used without being declared. -/
import Derived.Test.YtohfnhfpiipglaaCScN
namespace Go.Proofs.Ytohfnhfpiipglaa.Own
open Go.RowKit Go.Proofs.YtohfnhfpiipglaaW.PrintWords Go.Proofs.YtohfnhfpiipglaaW.PrintLast
set_option linter.unusedVariables false
set_option linter.unusedSimpArgs false
/-- A new scope. -/
theorem sc_new (w : World) : ScAt (w.alloc (.cells #[.pointer none, .pointer (some ⟨w.heap.size, 0, none⟩), .slice none 0 0, .slice none 0 0, .map none, .slice none 0 0, .int .i64 0, .int .i64 0, .int .i64 0, .bool true, .bool false] 42)) w.heap.size w.heap.size [] [] :=
  ⟨⟨.slice none 0 0, .slice none 0 0, .map none, al_eq rfl, Nat.le_refl _, .inl ⟨rfl, rfl⟩, .inl ⟨rfl, rfl⟩, fun g hg => (by cases hg), .inl ⟨by decide, rfl⟩⟩, fun e he => (by cases he), List.nodup_nil, List.nodup_nil, by decide⟩
/-- The bytes of a string, in a row of their own. -/
theorem bytes_of {w : World} {base : Nat} (hbase : base ≤ w.heap.size) (s : ByteArray) (hs : s.size ≤ 20) : ∃ g cap w1, (convert 9 48 (.string s)).run Try.prog w = .ok (.slice (some ⟨g, 0, none⟩) s.size cap) w1 ∧ TextV w1 base g cap (numsOf s) ∧ w.grownBy w1 none ∧ Below base w w1 := by
  obtain ⟨h1, h2⟩ := TextV.of_bytes hbase s (by omega)
  exact ⟨_, _, _, h1, h2, (show w.grownBy w.drew none from ⟨rfl, rfl, rfl, Nat.le_refl _, fun _ _ _ => rfl⟩).trans (World.grownBy_alloc _ _ _), (Below.refl base w).drew.alloc (by simpa using hbase) _⟩
theorem decl_names (st : List (ByteArray × Int)) (d : Int) (name s : ByteArray) : s ∈ (declStep st d name).1.map Prod.fst ↔ s ∈ st.map Prod.fst ∨ s = name := by
  unfold declStep
  cases hf : st.find? (fun x => x.1.toList == name.toList) with
  | some x =>
    show s ∈ st.map Prod.fst ↔ _
    refine ⟨Or.inl, fun h => h.elim id (fun h => ?_)⟩
    have h1 := List.mem_of_find?_eq_some hf
    have h2 := eq_of_beq (List.find?_some (p := fun x : ByteArray × Int => x.1.toList == name.toList) hf)
    have h3 : x.1 = name := by
      apply ba_ext
      rw [← ByteArray.toList_eq, ← ByteArray.toList_eq, h2]
    rw [h, ← h3]
    exact List.mem_map.2 ⟨x, h1, rfl⟩
  | none =>
    show s ∈ (st ++ [(name, d)]).map Prod.fst ↔ _
    simp
theorem decl_kinds (st : List (ByteArray × Int)) (d : Int) (name : ByteArray) (P : Int → Prop) (hd : P d) (h : ∀ x ∈ st, P x.2) : ∀ x ∈ (declStep st d name).1, P x.2 := by
  unfold declStep
  cases hf : st.find? (fun x => x.1.toList == name.toList) with
  | some y => exact h
  | none =>
    intro x hx
    rcases List.mem_append.1 hx with hx | hx
    · exact h x hx
    · obtain rfl := List.mem_singleton.1 hx
      exact hd
theorem decl_len (st : List (ByteArray × Int)) (d : Int) (name : ByteArray) : (declStep st d name).1.length ≤ st.length + 1 := by
  unfold declStep
  cases hf : st.find? (fun x => x.1.toList == name.toList) with
  | some y => exact Nat.le_succ _
  | none => simp
/-- The scope under way. -/
structure DInv (w : World) (base gs : Nat) (k : Nat) (st : List (ByteArray × Int)) (wr : World) (D : List Ent) : Prop where
  sc : ScAt wr base gs D []
  st : ndOf D = st
  uses : ∀ e ∈ D, e.uses ≤ (k : Int)
  decl : ∀ e ∈ D, e.decl = 1 ∨ e.decl = 3 ∨ e.decl = 5
  len : D.length ≤ k
  below : Below base w wr
theorem DInv.step {w wr w1 w2 : World} {base gs k : Nat} {st : List (ByteArray × Int)} {D : List Ent} {d : Int} {name : ByteArray} {ok : Bool} (h : DInv w base gs k st wr D) (hd : d = 1 ∨ d = 3 ∨ d = 5) (hb : Below base wr w1) (hp : DeclPost base gs D d (k : Int) name w1 ok w2) :
    ∃ D', DInv w base gs (k + 1) (declStep st d name).1 w2 D' ∧ ok = (declStep st d name).2 := by
  obtain ⟨D', h1, h2, h3, h4⟩ := hp
  rw [h.st] at h2
  have h5 : ndOf D' = (declStep st d name).1 := congrArg Prod.fst h2
  have h6 : ok = (declStep st d name).2 := congrArg Prod.snd h2
  refine ⟨D', ⟨h1, h5, fun e he => ?_, fun e he => ?_, ?_, (h.below.trans hb).trans h4.below⟩, h6⟩
  · have := h3 e he
    omega
  · have := decl_kinds st d name (fun z => z = 1 ∨ z = 3 ∨ z = 5) hd (fun x hx => by
      rw [← h.st] at hx
      obtain ⟨e0, he0, rfl⟩ := List.mem_map.1 hx
      exact h.decl e0 he0) (e.name, e.decl) (by rw [← h5]; exact List.mem_map.2 ⟨e, he, rfl⟩)
    exact this
  · have := decl_len st d name
    rw [← h5, ← h.st] at this
    simp [ndOf] at this
    have := h.len
    omega
/-- The names used without being declared, each once, in the order of use. -/
def useOne (dn un : List ByteArray) (s : ByteArray) : List ByteArray := if hasB dn s || hasB un s then un else un ++ [s]
def useAll (dn L : List ByteArray) : List ByteArray := L.foldl (useOne dn) []
theorem useAll_snoc (dn L : List ByteArray) (k : Nat) (hk : k < L.length) : useAll dn (L.take (k + 1)) = useOne dn (useAll dn (L.take k)) L[k] := by
  unfold useAll
  rw [List.take_succ_eq_append_getElem hk, List.foldl_append]
  rfl
theorem useStep_one {dn dn' un : List ByteArray} {s : ByteArray} (h : ∀ s, s ∈ dn ↔ s ∈ dn') : useStep dn un s = useOne dn' un s := by
  unfold useStep useOne
  have h1 : (hasB (dn ++ un) s = true) ↔ ((hasB dn' s || hasB un s) = true) := by
    rw [hasB_iff, List.mem_append, Bool.or_eq_true, hasB_iff, hasB_iff, h s]
  by_cases h2 : (hasB dn' s || hasB un s) = true
  · rw [if_pos (h1.2 h2), if_pos h2]
  · rw [if_neg (fun h3 => h2 (h1.1 h3)), if_neg h2]
structure UInv (w : World) (base gs : Nat) (k : Nat) (dn un : List ByteArray) (wr : World) (D U : List Ent) : Prop where
  sc : ScAt wr base gs D U
  dn : ∀ s, s ∈ D.map Ent.name ↔ s ∈ dn
  un : U.map Ent.name = un
  pos : ∀ e ∈ U, 0 < e.uses
  uses : ∀ e ∈ D ++ U, e.uses ≤ (k : Int)
  len : (D ++ U).length ≤ k
  below : Below base w wr
theorem useStep_len (dn un : List ByteArray) (s : ByteArray) : (useStep dn un s).length ≤ un.length + 1 := by
  unfold useStep
  split <;> simp
theorem UInv.step {w wr w1 w2 : World} {base gs k : Nat} {dn un : List ByteArray} {D U : List Ent} {name : ByteArray} (h : UInv w base gs k dn un wr D U) (hb : Below base wr w1) (hp : UsePost base gs D U (k : Int) name w1 w2) :
    ∃ D' U', UInv w base gs (k + 1) dn (useOne dn un name) w2 D' U' := by
  obtain ⟨D', U', h1, h2, h3, h4, h5, h6⟩ := hp
  rw [h.un, useStep_one h.dn] at h3
  refine ⟨D', U', h1, fun s => by rw [h2]; exact h.dn s, h3, h4, fun e he => by have := h5 e he; omega, ?_, (h.below.trans hb).trans h6.below⟩
  have hl := h.len
  have hd : D'.length = D.length := by have := congrArg List.length h2; simpa using this
  have hu : U'.length ≤ U.length + 1 := by
    have h7 := congrArg List.length h3
    have h8 := congrArg List.length h.un
    simp only [List.length_map] at h7 h8
    unfold useOne at h7
    split at h7
    · omega
    · simp at h7
      omega
  rw [List.length_append] at hl ⊢
  omega
theorem srow_below {w wr : World} {A : Option Addr} {L : List ByteArray} (h : SRow w A L) (hb : Below w.heap.size w wr) : SRow wr A L := fun j hj => by
  obtain ⟨ad, h1, h2⟩ := h j hj
  exact ⟨ad, h1, (hb.cell (World.block_lt_of_cell? w _ h2)).trans h2⟩
set_option maxHeartbeats 2000000 in
theorem implUse (w : World) (A1 A2 : Option Addr) (L1 L2 : List ByteArray) (c1 c2 : Nat) (hR1 : SRow w A1 L1) (hR2 : SRow w A2 L2) (h50 : L1.length + L2.length ≤ 50) (hs1 : ∀ s ∈ L1, s.size ≤ 20) (hs2 : ∀ s ∈ L2, s.size ≤ 20) :
    Calls Try.prog 12 #[.slice A1 L1.length c1, .slice A2 L2.length c2] w fun e w' => ∃ v, e = .returned v ∧ ORow w' w.heap.size 9 v ((useAll L1 L2).map Value.string) ∧ Below w.heap.size w w' := by
  obtain ⟨n, hn⟩ : ∃ n, n = L1.length := ⟨_, rfl⟩
  obtain ⟨m, hm⟩ : ∃ n, n = L2.length := ⟨_, rfl⟩
  have HR1 := Aside0.mk hR1
  have HR2 := Aside0.mk hR2
  have HS1 := Aside0.mk hs1
  have HS2 := Aside0.mk hs2
  have HN := Aside0.mk hn
  have HM := Aside0.mk hm
  rw [← hn, ← hm] at h50 ⊢
  have HSC := Aside0.mk (show DInv w w.heap.size w.heap.size 0 [] _ [] from ⟨sc_new w, rfl, fun e he => (by cases he), fun e he => (by cases he), Nat.le_refl _, (Below.refl _ _).alloc (Nat.le_refl _) _⟩)
  clear hR1 hR2 hs1 hs2 hn hm
  obtain ⟨gs, hgs⟩ : ∃ g, g = w.heap.size := ⟨_, rfl⟩
  have HGS := Aside0.mk hgs
  clear hgs
  go_enter Try.func12, Try.ntmps12
  go_wp2
  go_loopw [18] (fun v wr => ∃ k : Nat, v = .int .i64 (k : Int) ∧ k ≤ n ∧ ∃ st D, Aside0 (DInv w w.heap.size w.heap.size k st wr D) ∧ Aside0 (∀ s, s ∈ st.map Prod.fst ↔ s ∈ L1.take k)) (fun v _ => n - (intOf v).toNat)
  case atStart => exact ⟨0, rfl, Nat.zero_le _, [], [], HSC, ⟨fun s => by simp⟩⟩
  case round =>
    obtain ⟨k, rfl, hk, st, D, HD, HST⟩ := hrel
    by_cases hlt : k < n
    · have hlt2 : k < L1.length := by have := HN.out; omega
      obtain ⟨ad, rfl, hc⟩ := srow_below HR1.out HD.out.below k hlt2
      obtain ⟨x, hx⟩ : ∃ x, x = L1[k] := ⟨_, rfl⟩
      rw [← hx] at hc
      have HX := Aside0.mk hx
      have hxs : x.size ≤ 20 := by rw [hx]; exact HS1.out _ (List.getElem_mem hlt2)
      obtain ⟨g, cap, w1, hcv, hT, hg, hb⟩ := bytes_of (w := wr) HD.out.below.size x hxs
      have HT := Aside0.mk hT
      have HG := Aside0.mk hg
      have HB := Aside0.mk hb
      have HXS := Aside0.mk hxs
      clear hx hT hg hb hxs
      go_wp2_with fail
      (with_reducible refine (declare_any w1 w.heap.size w.heap.size D (HD.out.sc.grown HG.out) (Nat.le_trans HD.out.below.size HG.out.size) (by have := HD.out.len; omega) (k : Int) (by omega) (by omega) HD.out.uses HD.out.decl x HXS.out g cap HT.out 1 (.inl rfl)).mono ?_)
      rintro e w2 ⟨pv, ok, rfl, hp⟩
      obtain ⟨D', hD', _⟩ := HD.out.step (.inl rfl) HB.out hp
      have HD' := Aside0.mk hD'
      clear hp hD'
      go_wp2
      go_roundw
      case rel => exact ⟨k + 1, by go_num, hlt, _, D', HD', ⟨fun s => by
        rw [decl_names, HST.out s, List.take_succ_eq_append_getElem hlt2, List.mem_append, List.mem_singleton, ← HX.out]⟩⟩
      case measure => simp [intOf] <;> omega
    · obtain rfl : k = n := by omega
      have HU0 := Aside0.mk (show UInv w w.heap.size w.heap.size k L1 [] wr D [] from ⟨HD.out.sc, fun s => by
        have h1 := HST.out s
        rw [HN.out, List.take_of_length_le (Nat.le_refl _)] at h1
        rw [← h1, ← HD.out.st]
        simp [ndOf], rfl, fun e he => (by cases he), fun e he => (by rw [List.append_nil] at he; exact HD.out.uses e he), (by rw [List.append_nil]; exact HD.out.len), HD.out.below⟩)
      clear HD HST hlt hk
      go_wp2
      go_loopw [29] (fun v wr => ∃ j : Nat, v = .int .i64 (j : Int) ∧ j ≤ m ∧ ∃ D U, Aside0 (UInv w w.heap.size w.heap.size (k + j) L1 (useAll L1 (L2.take j)) wr D U)) (fun v _ => m - (intOf v).toNat)
      case atStart => exact ⟨0, rfl, Nat.zero_le _, _, _, HU0⟩
      case round =>
        obtain ⟨j, rfl, hj, D, U, HU⟩ := hrel
        by_cases hlt : j < m
        · have hlt2 : j < L2.length := by have := HM.out; omega
          obtain ⟨ad, rfl, hc⟩ := srow_below HR2.out HU.out.below j hlt2
          obtain ⟨x, hx⟩ : ∃ x, x = L2[j] := ⟨_, rfl⟩
          rw [← hx] at hc
          have HX := Aside0.mk hx
          have hxs : x.size ≤ 20 := by rw [hx]; exact HS2.out _ (List.getElem_mem hlt2)
          obtain ⟨g, cap, w1, hcv, hT, hg, hb⟩ := bytes_of (w := wr) HU.out.below.size x hxs
          have HT := Aside0.mk hT
          have HG := Aside0.mk hg
          have HB := Aside0.mk hb
          have HXS := Aside0.mk hxs
          clear hx hT hg hb hxs
          go_wp2_with fail
          (with_reducible refine (use_any w1 w.heap.size w.heap.size D U (HU.out.sc.grown HG.out) (Nat.le_trans HU.out.below.size HG.out.size) (by have := HU.out.len; omega) ((k + j : Nat) : Int) (by omega) (by omega) HU.out.uses HU.out.pos x HXS.out g cap HT.out).mono ?_)
          rintro e w2 ⟨pv, rfl, hp⟩
          obtain ⟨D', U', hD'⟩ := HU.out.step HB.out hp
          have HU' := Aside0.mk hD'
          clear hp hD'
          go_wp2
          go_roundw
          case rel => exact ⟨j + 1, by go_num, hlt, D', U', ⟨by rw [useAll_snoc L1 L2 j hlt2, ← HX.out]; exact HU'.out⟩⟩
          case measure => simp [intOf] <;> omega
        · obtain rfl : j = m := by omega
          have hun := HU.out.un
          rw [HM.out, List.take_of_length_le (Nat.le_refl _)] at hun
          have HUN := Aside0.mk hun
          obtain ⟨vD, vU, vM, h1, h2, h3, h4, h5, h6⟩ := HU.out.sc.all
          have hc3 : wr.cell? ⟨w.heap.size, 3, none⟩ = some vU := by simp only [World.cell?, h1]; rfl
          have HROW := Aside0.mk h4
          clear h1 h2 h3 h4 h5 h6 hun hlt hj
          go_wp2_with fail
          (with_reducible refine (namesOf_any wr w.heap.size vU U HROW.out (fun e he => HU.out.sc.vars e (List.mem_append_right _ he)) (by have := HU.out.len; rw [List.length_append] at this; omega)).mono ?_)
          rintro e w3 ⟨v, rfl, ho, hb⟩
          have HO := Aside0.mk (show ORow w3 w.heap.size 9 v ((useAll L1 L2).map Value.string) by rw [← HUN.out]; exact ho.lower HU.out.below.size)
          have HB := Aside0.mk (below_step HU.out.below hb)
          clear ho hb
          go_wp2
          go_ret
          exact ⟨_, rfl, HO.out, HB.out⟩
end Go.Proofs.Ytohfnhfpiipglaa.Own
