/- impl.Declare: which names could be declared, and the names that are there. -/
import Derived.Test.YtohfnhfpiipglaaCScQ
namespace Go.Proofs.Ytohfnhfpiipglaa.Own
open Go.RowKit Go.Proofs.YtohfnhfpiipglaaW.PrintWords Go.Proofs.YtohfnhfpiipglaaW.PrintLast
set_option linter.unusedVariables false
set_option linter.unusedSimpArgs false
def kOf (k : Int) : Int := if k = 1 then 3 else if k = 2 then 5 else 1
theorem kOf_any (k : Int) : kOf k = 1 ∨ kOf k = 3 ∨ kOf k = 5 := by
  unfold kOf
  split
  · exact .inr (.inl rfl)
  · split
    · exact .inr (.inr rfl)
    · exact .inl rfl
def runOne (s : List (ByteArray × Int) × List Bool) (d : Dc) : List (ByteArray × Int) × List Bool := ((declStep s.1 (kOf d.kind) d.name).1, s.2 ++ [(declStep s.1 (kOf d.kind) d.name).2])
def runD (L : List Dc) : List (ByteArray × Int) × List Bool := L.foldl runOne ([], [])
theorem runD_snoc (L : List Dc) (k : Nat) (hk : k < L.length) : runD (L.take (k + 1)) = runOne (runD (L.take k)) L[k] := by
  unfold runD
  rw [List.take_succ_eq_append_getElem hk, List.foldl_append]
  rfl
theorem runD_len (L : List Dc) : (runD L).2.length = L.length := by
  have h : ∀ (l : List Dc) (s : List (ByteArray × Int) × List Bool), (l.foldl runOne s).2.length = s.2.length + l.length := fun l => by
    induction l with
    | nil => intro s; rfl
    | cons a t ih =>
      intro s
      rw [List.foldl_cons, ih]
      simp [runOne]
      omega
  have := h L ([], [])
  unfold runD
  simpa using this
set_option maxHeartbeats 4000000 in
theorem implDeclare (w : World) (A : Option Addr) (L : List Dc) (c : Nat) (hR : DRow w A L) (h50 : L.length ≤ 50) (hok : ∀ d ∈ L, DcOk d) :
    Calls Try.prog 7 #[.slice A L.length c] w fun e w' => ∃ v1 v2, e = .returned (.tuple #[v1, v2]) ∧ ORow w' w.heap.size 4 v1 ((runD L).2.map Value.bool) ∧ ORow w' w.heap.size 9 v2 (((runD L).1.map Prod.fst).map Value.string) ∧ Below w.heap.size w w' := by
  obtain ⟨n, hn⟩ : ∃ n, n = L.length := ⟨_, rfl⟩
  have HR := Aside0.mk hR
  have HN := Aside0.mk hn
  have HOK := Aside0.mk hok
  rw [← hn] at h50 ⊢
  clear hR hn hok
  obtain ⟨W1, hW1⟩ : ∃ W1, W1 = w.alloc (.cells #[.pointer none, .pointer (some ⟨w.heap.size, 0, none⟩), .slice none 0 0, .slice none 0 0, .map none, .slice none 0 0, .int .i64 0, .int .i64 0, .int .i64 0, .bool true, .bool false] 42) := ⟨_, rfl⟩
  have b1 : Below w.heap.size w W1 := by rw [hW1]; exact (Below.refl _ _).alloc (Nat.le_refl _) _
  have hsz1 : W1.heap.size = w.heap.size + 1 := by rw [hW1]; simp
  have s1 : ScAt W1 w.heap.size w.heap.size [] [] := by rw [hW1]; exact sc_new w
  have HD0 := Aside0.mk (show DInv w w.heap.size w.heap.size 0 [] (W1.alloc (.cells #[] 4)) [] from ⟨s1.grown (World.grownBy_alloc _ _ _), rfl, fun e he => (by cases he), fun e he => (by cases he), Nat.le_refl _, b1.alloc b1.size _⟩)
  have HO0 := Aside0.mk (ORow.new W1 b1.size 4)
  rw [hsz1, hW1] at HO0
  rw [hW1] at HD0
  clear b1 hsz1 s1 hW1
  go_enter Try.func7, Try.ntmps7
  go_wp2
  go_loopw [5, 20] (fun o v wr => ∃ k : Nat, v = .int .i64 (k : Int) ∧ k ≤ n ∧ ∃ D, Aside0 (DInv w w.heap.size w.heap.size k (runD (L.take k)).1 wr D) ∧ Aside0 (ORow wr w.heap.size 4 o ((runD (L.take k)).2.map Value.bool))) (fun _ v _ => n - (intOf v).toNat)
  case atStart => exact ⟨0, rfl, Nat.zero_le _, [], HD0, HO0⟩
  case round =>
    obtain ⟨k, rfl, hk, D, HD, HO⟩ := hrel
    by_cases hlt : k < n
    · have hlt2 : k < L.length := by have := HN.out; omega
      obtain ⟨ad, rfl, hc0, hc1⟩ := drow_below HR.out HD.out.below k hlt2
      obtain ⟨x, hx⟩ : ∃ x, x = L[k] := ⟨_, rfl⟩
      rw [← hx] at hc0 hc1
      have hxo : DcOk x := by rw [hx]; exact HOK.out _ (List.getElem_mem hlt2)
      have HX := Aside0.mk hx
      clear hx
      obtain ⟨kd, hkd⟩ : ∃ y, y = x.kind := ⟨_, rfl⟩
      obtain ⟨nm, hnm⟩ : ∃ y, y = x.name := ⟨_, rfl⟩
      obtain ⟨hk3, hn20⟩ := hxo
      rw [← hkd] at hc0 hk3
      rw [← hnm] at hc1 hn20
      have HKD := Aside0.mk hkd
      have HNM := Aside0.mk hnm
      clear hkd hnm
      have hgA := World.grownBy_alloc wr (Obj.cells #[.int .i64 kd, .string nm] 29) none
      obtain ⟨g, cap, w1, hcv, hT, hg, hb⟩ := bytes_of (w := wr.alloc (Obj.cells #[.int .i64 kd, .string nm] 29)) (base := w.heap.size) (Nat.le_trans HD.out.below.size hgA.size) nm hn20
      have HT := Aside0.mk hT
      have HG := Aside0.mk (hgA.trans hg)
      have HB := Aside0.mk (show Below w.heap.size wr w1 from ((Below.refl w.heap.size wr).alloc HD.out.below.size _).trans hb)
      have HN20 := Aside0.mk hn20
      have hcl : ∀ (dd : Int), dd = kOf kd → Calls Try.prog 14 #[.pointer (some ⟨w.heap.size, 0, none⟩), .int .u16 dd, .slice (some ⟨g, 0, none⟩) nm.size cap] w1 fun e w' => ∃ pv ok, e = .returned (.tuple #[pv, .bool ok]) ∧ DeclPost w.heap.size w.heap.size D dd (k : Int) nm w1 ok w' := fun dd hdd =>
        declare_any w1 w.heap.size w.heap.size D (HD.out.sc.grown HG.out) (Nat.le_trans HD.out.below.size HG.out.size) (by have := HD.out.len; omega) (k : Int) (by omega) (by omega) HD.out.uses HD.out.decl nm HN20.out g cap HT.out dd (by rw [hdd]; exact kOf_any kd)
      have HCL := Aside0.mk hcl
      clear hT hg hb hn20 hgA hcl
      have fin : ∀ (dd : Int) (pv : Value) (ok : Bool) (w2 : World), dd = kOf kd → DeclPost w.heap.size w.heap.size D dd (k : Int) nm w1 ok w2 → ∃ D' v3 w3, Aside0 (∀ ty, (Builtin.append_ #[24, 24] ty #[u5, .slice (some ⟨w2.heap.size, 0, none⟩) 1 1]).run Try.prog (w2.alloc (.cells #[.bool ok] 4)) = .ok v3 w3) ∧
          Aside0 (DInv w w.heap.size w.heap.size (k + 1) (runD (L.take (k + 1))).1 w3 D') ∧ Aside0 (ORow w3 w.heap.size 4 v3 ((runD (L.take (k + 1))).2.map Value.bool)) := fun dd pv ok w2 hdd hp => by
        have hfr : Fr w.heap.size w1 w2 := by
          obtain ⟨_, _, _, _, h⟩ := hp
          exact h
        obtain ⟨D', hD', hok'⟩ := HD.out.step (by rw [hdd]; exact kOf_any kd) HB.out hp
        have ho2 : ORow w2 w.heap.size 4 u5 ((runD (L.take k)).2.map Value.bool) := HO.out.block (fun g cur hc => hfr.other _ _ _ _ ((HG.out.block g (Array.getElem?_eq_some_iff.1 hc).1 (by simp)).trans hc) (by decide) (by decide) (by decide))
        obtain ⟨v3, w3, happ, ho3, hg3, _⟩ := ORow.app Try.underlying24 infoBool rfl (by decide) ho2 hD'.below.size (by rw [List.length_map, runD_len, List.length_take]; omega) (.bool ok) rfl
        obtain ⟨g0, c0, cur0, hov, howb, hbg, hblk⟩ := ho2.own
        have hrun : runD (L.take (k + 1)) = ((declStep (runD (L.take k)).1 dd nm).1, (runD (L.take k)).2 ++ [ok]) := by rw [runD_snoc L k hlt2, ← HX.out, runOne, ← HKD.out, ← HNM.out, ← hdd, ← hok']
        refine ⟨D', v3, w3, ⟨happ⟩, ⟨⟨hD'.sc.keep (fun i o hi hm => ?_), by rw [hrun]; exact hD'.st, hD'.uses, hD'.decl, hD'.len, (hD'.below.alloc hD'.below.size _).grown hg3 (by have := hD'.below.size; simp; omega) (fun q hq => by rw [howb] at hq; cases hq; exact hbg)⟩⟩, ⟨by rw [hrun, List.map_append]; exact ho3⟩⟩
        have hi2 := (al_lt (o := .cells #[.bool ok] 4) (Array.getElem?_eq_some_iff.1 hi).1).trans hi
        rw [hg3.block i (Array.getElem?_eq_some_iff.1 hi2).1 (fun e => by
          rw [howb] at e
          cases e
          rw [hblk] at hi
          cases hi
          rcases hm with h | h | h | h | h <;> exact absurd h (by decide))]
        exact hi2
      have FIN := Aside0.mk fin
      clear fin
      rcases hk3 with rfl | rfl | rfl
      all_goals
        go_wp2_with fail
        first
          | (with_reducible refine (HCL.out 1 (by decide)).mono ?_)
          | (with_reducible refine (HCL.out 3 (by decide)).mono ?_)
          | (with_reducible refine (HCL.out 5 (by decide)).mono ?_)
        rintro e w2 ⟨pv, ok, rfl, hp⟩
        obtain ⟨D', v3, w3, HAPP, HD', HO'⟩ := FIN.out _ pv ok w2 (by decide) hp
        clear hp
        go_wp2_with (at_builtin; refine append_event rfl (.tmp 39) (.tmp 41) 24 rfl rfl rfl (HAPP.out _) ?_)
        go_roundw
        case rel => exact ⟨k + 1, by go_num, hlt, D', HD', HO'⟩
        case measure => simp [intOf] <;> omega
    · obtain rfl : k = n := by omega
      have HO1 := Aside0.mk (show ORow wr w.heap.size 4 u5 ((runD L).2.map Value.bool) from by have := HO.out; rw [HN.out, List.take_of_length_le (Nat.le_refl _)] at this; exact this)
      have HST := Aside0.mk (show D.map Ent.name = (runD L).1.map Prod.fst from by
        have h := HD.out.st
        rw [HN.out, List.take_of_length_le (Nat.le_refl _)] at h
        rw [← h]
        simp [ndOf])
      obtain ⟨vD, vU, vM, h1, h2, h3, h4, h5, h6⟩ := HD.out.sc.all
      have hc2 : wr.cell? ⟨w.heap.size, 2, none⟩ = some vD := by simp only [World.cell?, h1]; rfl
      have HROW := Aside0.mk h3
      clear h1 h2 h3 h4 h5 h6 hlt hk HO
      go_wp2_with fail
      (with_reducible refine (namesOf_any wr w.heap.size vD D HROW.out (fun e he => HD.out.sc.vars e (List.mem_append_left _ he)) (by have := HD.out.len; omega)).mono ?_)
      rintro e w3 ⟨v, rfl, ho, hb⟩
      have HO3 := Aside0.mk (show ORow w3 w.heap.size 9 v (((runD L).1.map Prod.fst).map Value.string) by rw [← HST.out]; exact ho.lower HD.out.below.size)
      have HO2 := Aside0.mk (HO1.out.below hb)
      have HB := Aside0.mk (below_step HD.out.below hb)
      clear ho hb
      go_wp2
      go_ret2
      exact ⟨_, _, rfl, HO2.out, HO3.out, HB.out⟩
end Go.Proofs.Ytohfnhfpiipglaa.Own
