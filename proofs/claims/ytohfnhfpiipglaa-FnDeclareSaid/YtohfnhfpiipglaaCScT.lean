/- The law FnDeclare: it answers true. -/
import Derived.Test.YtohfnhfpiipglaaCScS
namespace Go.Proofs.Ytohfnhfpiipglaa.Own
open Go.RowKit Go.Proofs.YtohfnhfpiipglaaW.PrintWords Go.Proofs.YtohfnhfpiipglaaW.PrintLast
set_option linter.unusedVariables false
set_option linter.unusedSimpArgs false
theorem Rows.new_ {w W : World} {rs : List Row} (h : Rows w W rs) (T : TypeId) (cs : List Value) (n : Nat) (hn : n = cs.length) (hl : n ≤ 1000) (q : Nat) (hq : q = W.heap.size) : Rows w (W.alloc (.cells cs.toArray T)) (rs ++ [⟨T, .slice (some ⟨q, 0, none⟩) n n, cs⟩]) := by
  subst hq
  exact h.new T cs n hn hl
theorem local_cell {w W : World} {rs : List Row} (h : Rows w W rs) {T : TypeId} {gl : Nat} {kd : Int} {nm : ByteArray} (hi : rs[5]? = some ⟨T, .slice (some ⟨gl, 0, none⟩) 2 2, [.int .i64 kd, .string nm]⟩) : W.cell? ⟨gl, 1, none⟩ = some (.string nm) := by
  obtain ⟨g, cap, h1, h2⟩ := (h.at hi).cell
  cases h1
  exact h2 1 (by simp)
theorem local_cell0 {w W : World} {rs : List Row} (h : Rows w W rs) {T : TypeId} {gl : Nat} {kd : Int} {nm : ByteArray} (hi : rs[5]? = some ⟨T, .slice (some ⟨gl, 0, none⟩) 2 2, [.int .i64 kd, .string nm]⟩) : W.cell? ⟨gl, 0, none⟩ = some (.int .i64 kd) := by
  obtain ⟨g, cap, h1, h2⟩ := (h.at hi).cell
  cases h1
  exact h2 0 (by simp)
theorem there_take (L : List Dc) : ∀ k, k ≤ L.length → ThereOk (runD (L.take k)).1 ((L.take k).map Dc.name)
  | 0, _ => fun s => by simp [runD]
  | k + 1, hk => by
    rw [runD_snoc L k (by omega), List.take_succ_eq_append_getElem (by omega), List.map_append]
    exact decl_there (there_take L k (by omega)) _ _
theorem allIn_of {a b : List ByteArray} (h : ∀ s ∈ a, s ∈ b) : allIn a b = true := by
  unfold allIn
  rw [List.all_eq_true]
  exact fun x hx => (hasB_iff b x).2 (h x hx)
theorem Rows.take_ {w W : World} {rs rs' : List Row} (h : Rows w W rs) (k : Nat) (he : rs.take k = rs') : Rows w W rs' := by
  subst he
  exact h.sub (List.take_sublist k _)
theorem Rows.drew {w W : World} {rs : List Row} (h : Rows w W rs) : Rows w W.drew rs := h.below (below_drew (Below.refl _ _))
theorem Rows.srow {w W : World} {rs : List Row} (h : Rows w W rs) {i : Nat} {A : Option Addr} {n c : Nat} {L : List ByteArray} (hi : rs[i]? = some ⟨9, .slice A n c, L.map Value.string⟩) : SRow W A L := by
  obtain ⟨A', c', e, s⟩ := (h.at hi).srow
  cases e
  exact s
theorem Rows.got {w W : World} {rs : List Row} (h : Rows w W rs) {g n c : Nat} {L : List Dc} (hi : rs[0]? = some ⟨4, .slice (some ⟨g, 0, none⟩) n c, (runD L).2.map Value.bool⟩) {k : Nat} (hk : k < L.length) : W.cell? ⟨g, k, none⟩ = some (.bool (declStep (runD (L.take k)).1 (kOf L[k].kind) L[k].name).2) := by
  obtain ⟨g', c', e, h2⟩ := (h.at hi).cell
  cases e
  rw [h2 k (by simp [runD_len]; exact hk), List.getElem_map, runD_at L k hk]
set_option maxHeartbeats 8000000 in
theorem fnDeclare_true (A : Option Addr) (c : Nat) (L : List Dc) (w : World) (hr : DRow w A L) (hl : L.length ≤ 9223372036854775807) :
    Calls Try.prog 3 #[.slice A L.length c] w fun e w' => e = .returned (.bool true) ∧ Below w.heap.size w w' := by
  have F5 := Aside0.mk (fits5 w A L c hr hl)
  have HDR := Aside0.mk hr
  obtain ⟨n, hn⟩ : ∃ n, n = L.length := ⟨_, rfl⟩
  have HN := Aside0.mk hn
  rw [← hn] at F5 ⊢
  clear hr hl hn
  go_enter Try.func3, Try.ntmps3
  go_wp2_with fail
  (with_reducible refine F5.out.mono ?_)
  rintro e w1 ⟨⟨b, rfl, hb⟩, hbw1⟩
  have HB1 := Aside0.mk hbw1
  clear hbw1
  cases b with
  | false =>
    clear hb
    go_wp2
    go_ret
    exact ⟨rfl, HB1.out⟩
  | true =>
  have HZ := Aside0.mk (hb rfl)
  clear hb
  have DOK := Aside0.mk (declOk w1 A L c (drow_below HDR.out HB1.out) (by have := HZ.out.1; have := HN.out; omega) HZ.out.2)
  rw [← HN.out] at DOK
  go_wp2_with fail
  (with_reducible refine DOK.out.mono ?_)
  rintro e w2 ⟨⟨b, rfl, hb⟩, hbw2⟩
  have HB2 := Aside0.mk (below_step HB1.out hbw2)
  clear hbw2
  cases b with
  | false =>
    clear hb
    go_wp2
    go_ret
    exact ⟨rfl, HB2.out⟩
  | true =>
  have hn50 := (hb rfl).1
  have HOK := Aside0.mk (hb rfl).2
  clear hb
  have IMP := Aside0.mk (implDeclare w2 A L c (drow_below HDR.out HB2.out) (by have := HN.out; omega) HOK.out)
  rw [← HN.out] at IMP
  go_wp2_with fail
  (with_reducible refine IMP.out.mono ?_)
  rintro e w3 ⟨v1, v2, rfl, ho1, ho2, hbw3⟩
  have HB3 := Aside0.mk (below_step HB2.out hbw3)
  replace ho1 := ho1.lower HB2.out.size
  replace ho2 := ho2.lower HB2.out.size
  obtain ⟨g1, cap1, hv1, hcell1⟩ := ho1.cell
  rw [List.length_map, runD_len, ← HN.out] at hv1
  obtain ⟨A2, cap2, hv2, hs2⟩ := ho2.srow
  have hs : (w3.alloc (.cells #[] 9)).heap.size = w3.heap.size + 1 := by simp
  have hss : ((w3.alloc (.cells #[] 9)).alloc (.cells #[] 9)).heap.size = w3.heap.size + 2 := by simp
  have hrows : Rows w w3 [⟨4, v1, (runD L).2.map Value.bool⟩, ⟨9, v2, ((runD L).1.map Prod.fst).map Value.string⟩] := by
    refine ⟨HB3.out, fun r hr => ?_, ?_⟩
    · simp only [List.mem_cons, List.not_mem_nil, or_false] at hr
      rcases hr with rfl | rfl
      · exact ho1
      · exact ho2
    · obtain ⟨a1, _, cu1, _, e1, _, b1⟩ := ho1.own
      obtain ⟨a2, _, cu2, _, e2, _, b2⟩ := ho2.own
      simp only [List.map_cons, List.map_nil, e1, e2]
      refine List.nodup_cons.2 ⟨fun h => ?_, by simp⟩
      simp only [List.mem_singleton, Option.some.injEq] at h
      rw [h, b2] at b1
      cases b1
  have HR3 := Aside0.mk (((hrows.new_ 9 [] 0 rfl (by decide) w3.heap.size rfl).new_ 9 [] 0 rfl (by decide) (w3.heap.size + 1) hs.symm).new_ 9 [] 0 rfl (by decide) (w3.heap.size + 2) hss.symm)
  have HL0 := Aside0.mk (show LexOk (runD (L.take 0)).1 [] from fun s => by simp [runD])
  have HV1 := Aside0.mk hv1
  have HV2 := Aside0.mk hv2
  clear hs hss hrows ho1 ho2 hcell1 hs2 hbw3 hv2
  subst hv1
  go_wp2
  go_loopw [5, 6, 7, 32] (fun th lv du i wr => ∃ (k : Nat) (lxs : List ByteArray), i = .int .i64 (k : Int) ∧ k ≤ n ∧ lxs.length ≤ k ∧ Aside0 (Rows w wr [⟨4, .slice (some ⟨g1, 0, none⟩) n cap1, (runD L).2.map Value.bool⟩, ⟨9, v2, ((runD L).1.map Prod.fst).map Value.string⟩, ⟨9, th, ((L.take k).map Dc.name).map Value.string⟩, ⟨9, lv, lxs.map Value.string⟩, ⟨9, du, ((L.take k).map Dc.name).map Value.string⟩]) ∧ Aside0 (LexOk (runD (L.take k)).1 lxs)) (fun _ _ _ i _ => n - (intOf i).toNat)
  case atStart => exact ⟨0, [], rfl, Nat.zero_le _, Nat.zero_le _, HR3, HL0⟩
  case round =>
    obtain ⟨k, lxs, rfl, hk, hlx, HR, HLX0⟩ := hrel
    by_cases hlt : k < n
    · have hlt2 : k < L.length := by have := HN.out; omega
      obtain ⟨ad, rfl, hc0, hc1⟩ := drow_below HDR.out HR.out.1 k hlt2
      obtain ⟨x, hx⟩ : ∃ x, x = L[k] := ⟨_, rfl⟩
      have hxo : DcOk x := by rw [hx]; exact HOK.out _ (List.getElem_mem hlt2)
      have hgot := fun (W : World) rs (h : Rows w W rs) hi => Rows.got h (g := g1) (n := n) (c := cap1) hi hlt2
      obtain ⟨ths, hths⟩ : ∃ ths, ths = (L.take k).map Dc.name := ⟨_, rfl⟩
      have HTH := Aside0.mk (show (L.take (k + 1)).map Dc.name = ths ++ [x.name] by rw [List.take_succ_eq_append_getElem hlt2, List.map_append, hths, hx]; rfl)
      have hlex := decl_lex (runD_nodup L k (Nat.le_of_lt hlt2)) HLX0.out (there_take L k (Nat.le_of_lt hlt2)) L[k].kind L[k].name
      have hfine := decl_fine (runD_nodup L k (Nat.le_of_lt hlt2)) HLX0.out (there_take L k (Nat.le_of_lt hlt2)) L[k].kind L[k].name
      have hsn : (declStep (runD (L.take k)).1 (kOf L[k].kind) L[k].name).1 = (runD (L.take (k + 1))).1 := by rw [runD_snoc L k hlt2]; rfl
      rw [hsn, hfine] at hlex
      rw [hfine] at hgot
      rw [← hths] at HR hlex hgot
      rw [← hx] at hc0 hc1 hlex hgot
      have HLEN := Aside0.mk (show (ths.map Value.string).length ≤ 1000000 by rw [List.length_map, hths, List.length_map, List.length_take]; omega)
      have hthl : ths.length ≤ 2147483647 := by rw [hths, List.length_map, List.length_take]; omega
      clear hx hfine hsn hths
      obtain ⟨kd, hkd⟩ : ∃ y, y = x.kind := ⟨_, rfl⟩
      obtain ⟨nm, hnm⟩ : ∃ y, y = x.name := ⟨_, rfl⟩
      have hk3 := hxo.1
      rw [← hkd] at hc0 hk3 hlex hgot
      rw [← hnm] at hc1 HTH hlex hgot
      clear hkd hnm hxo
      obtain ⟨At, ct, rfl, _⟩ := (HR.out.at (i := 2) rfl).srow
      obtain ⟨Al, cl, rfl, _⟩ := (HR.out.at (i := 3) rfl).srow
      have HRA := Aside0.mk (HR.out.new_ 29 [.int .i64 kd, .string nm] 2 rfl (by decide) wr.heap.size rfl)
      have HC1 := Aside0.mk (has_any _ Al lxs cl nm (HRA.out.srow (i := 3) rfl) (by omega))
      have HC2 := Aside0.mk (has_any _ At ths ct nm (HRA.out.srow (i := 2) rfl) hthl)
      have hgi := hgot _ _ HRA.out rfl
      have HLEXG := Aside0.mk hlex
      have HLXL := Aside0.mk hlx
      clear hlex hgot hlx
      cases h1 : hasB lxs nm with
      | true =>
        rw [h1] at hgi
        have HLEX := Aside0.mk (show LexOk (runD (L.take (k + 1))).1 lxs by have := HLEXG.out; rw [h1] at this; exact this)
        have HLX := Aside0.mk (show lxs.length ≤ k + 1 by have := HLXL.out; omega)
        rw [h1] at HC1
        clear h1
        go_wp2_with fail
        (with_reducible refine HC1.out.mono ?_)
        rintro e w5 ⟨rfl, hw5⟩
        rw [hw5]
        clear hw5
        go_wp2
        obtain ⟨W, hW⟩ : ∃ W, W = wr.alloc (Obj.cells #[.int .i64 kd, .string nm] 29) := ⟨_, rfl⟩
        rw [← hW]
        have HR0_ := Rows.drew (show Rows w W _ from by rw [hW]; exact HRA.out)
        clear hW hgi
        refine start_ (n := 12) (S := fun w' => w'.cell? ⟨wr.heap.size, 1, none⟩ = some (.string nm)) (ds := []) #[false, false, false, false, false, false, false, false, false, false, false, false] (by kernel_rfl) rfl rfl (local_cell HR0_ rfl) (fun hHeld => ?_)
        refine pure_ (i := 0) (N := some 71) (v := ?_) (a' := ?_) #[true, false, false, false, false, false, false, false, false, false, false, false] rfl rfl (by kernel_rfl) (fun _ _ _ h => h) (Or.inl ⟨by rfl, ?_⟩) ?_ ?_
        rotate_left
        · intro w'
          go_simp
          with_reducible rfl
        rotate_left
        · simp only [Act.put, List.setIfInBounds_toArray, List.set_cons_zero, List.set_cons_succ, i64_w, i32_w]
          rfl
        refine pure_ (i := 1) (N := some 72) (v := ?_) (a' := ?_) #[true, true, false, false, false, false, false, false, false, false, false, false] rfl rfl (by kernel_rfl) (fun _ _ _ h => h) (Or.inl ⟨by rfl, ?_⟩) ?_ ?_
        rotate_left
        · intro w'
          go_simp
          with_reducible rfl
        rotate_left
        · simp only [Act.put, List.setIfInBounds_toArray, List.set_cons_zero, List.set_cons_succ, i64_w, i32_w]
          rfl
        refine take_ (i := 2) (N := some 73) (v := ?_) (a' := ?_) #[true, true, true, false, false, false, false, false, false, false, false, false] rfl rfl (by kernel_rfl) (fun _ _ _ h => h) (Or.inl ⟨by rfl, ?_⟩) hHeld ?_ ?_
        rotate_left
        · intro w' s0
          go_simp
          with_reducible rfl
        rotate_left
        · simp only [Act.put, List.setIfInBounds_toArray, List.set_cons_zero, List.set_cons_succ, i64_w, i32_w]
          rfl
        refine pure_ (i := 5) (N := some 76) (v := ?_) (a' := ?_) #[true, true, true, false, false, true, false, false, false, false, false, false] rfl rfl (by kernel_rfl) (fun _ _ _ h => h) (Or.inl ⟨by rfl, ?_⟩) ?_ ?_
        rotate_left
        · intro w'
          go_simp
          with_reducible rfl
        rotate_left
        · simp only [Act.put, List.setIfInBounds_toArray, List.set_cons_zero, List.set_cons_succ, i64_w, i32_w]
          rfl
        refine pure_ (i := 6) (N := some 77) (v := ?_) (a' := ?_) #[true, true, true, false, false, true, true, false, false, false, false, false] rfl rfl (by kernel_rfl) (fun _ _ _ h => h) (Or.inl ⟨by rfl, ?_⟩) ?_ ?_
        rotate_left
        · intro w'
          go_simp
          with_reducible rfl
        rotate_left
        · simp only [Act.put, List.setIfInBounds_toArray, List.set_cons_zero, List.set_cons_succ, i64_w, i32_w]
          rfl
        refine take_ (i := 7) (N := some 78) (v := ?_) (a' := ?_) #[true, true, true, false, false, true, true, true, false, false, false, false] rfl rfl (by kernel_rfl) (fun _ _ _ h => h) (Or.inl ⟨by rfl, ?_⟩) hHeld ?_ ?_
        rotate_left
        · intro w' s0
          go_simp
          with_reducible rfl
        rotate_left
        · simp only [Act.put, List.setIfInBounds_toArray, List.set_cons_zero, List.set_cons_succ, i64_w, i32_w]
          rfl
        refine two_ (i := 3) (j := 8) (Ni := some 74) (Nj := some 79) #[true, true, true, true, false, true, true, true, false, false, false, false] #[true, true, true, false, false, true, true, true, true, false, false, false] rfl rfl rfl rfl (by kernel_rfl) (by simp) (by simp) (fun K_ hK_ => ?_) (fun K_ hK_ => ?_)
        · skip
          refine value_ (w1 := ?_) (v := ?_) (by rfl) rfl ?_ ?_
          rotate_left 2
          · go_simp
            constructor
            · rfl
            · rfl
          have HR1_ := HR0_.new_ 9 [.string nm] 1 rfl (by decide) (W.heap.size) (rfl)
          refine hK_ _ (W.drew.alloc (.cells #[.string nm] 9)) (local_cell HR1_ rfl) (fun _ => ?_)
          refine norm_ (a' := ?_) ?_ ?_
          rotate_left
          · show Act.put _ (some 74) _ = _
            simp only [Act.put, List.setIfInBounds_toArray, List.set_cons_zero, List.set_cons_succ]
            rfl
          refine two_ (i := 4) (j := 8) (Ni := some 75) (Nj := some 79) #[true, true, true, true, true, true, true, true, false, false, false, false] #[true, true, true, true, false, true, true, true, true, false, false, false] rfl rfl rfl rfl (by kernel_rfl) (by simp) (by simp) (fun K_ hK_ => ?_) (fun K_ hK_ => ?_)
          · skip
            obtain ⟨va_, W2_, happ_, HR2_⟩ := HR1_.app Try.underlying25 infoStr rfl (by decide) (i := 2) (j := 6) rfl rfl HLEN.out rfl
            have HAP_ := Aside0.mk happ_
            refine ev_append (by rfl) (.tmp 71) (.tmp 74) 25 rfl rfl rfl HAP_.out ?_
            refine hK_ _ W2_ (local_cell HR2_ rfl) (fun _ => ?_)
            refine norm_ (a' := ?_) ?_ ?_
            rotate_left
            · show Act.put _ (some 75) _ = _
              simp only [Act.put, List.setIfInBounds_toArray, List.set_cons_zero, List.set_cons_succ]
              rfl
            refine one_ (i := 8) (N := some 79) #[true, true, true, true, true, true, true, true, true, false, false, false] rfl rfl (by kernel_rfl) (by simp) (fun K_ hK_ => ?_)
            refine value_ (w1 := ?_) (v := ?_) (by rfl) rfl ?_ ?_
            rotate_left 2
            · go_simp
              constructor
              · rfl
              · rfl
            have HR3_ := HR2_.new_ 9 [.string nm] 1 rfl (by decide) (W2_.heap.size) (rfl)
            refine hK_ _ (W2_.alloc (.cells #[.string nm] 9)) (local_cell HR3_ rfl) (fun _ => ?_)
            refine norm_ (a' := ?_) ?_ ?_
            rotate_left
            · show Act.put _ (some 79) _ = _
              simp only [Act.put, List.setIfInBounds_toArray, List.set_cons_zero, List.set_cons_succ]
              rfl
            refine one_ (i := 9) (N := some 80) #[true, true, true, true, true, true, true, true, true, true, false, false] rfl rfl (by kernel_rfl) (by simp) (fun K_ hK_ => ?_)
            obtain ⟨vb_, W4_, happ_, HR4_⟩ := HR3_.app Try.underlying25 infoStr rfl (by decide) (i := 4) (j := 7) rfl rfl HLEN.out rfl
            have HAP_ := Aside0.mk happ_
            refine ev_append (by rfl) (.tmp 76) (.tmp 79) 25 rfl rfl rfl HAP_.out ?_
            refine hK_ _ W4_ (local_cell HR4_ rfl) (fun _ => ?_)
            refine norm_ (a' := ?_) ?_ ?_
            rotate_left
            · show Act.put _ (some 80) _ = _
              simp only [Act.put, List.setIfInBounds_toArray, List.set_cons_zero, List.set_cons_succ]
              rfl
            refine pure_ (i := 10) (N := some 5) (v := ?_) (a' := ?_) #[true, true, true, true, true, true, true, true, true, true, true, false] rfl rfl (by kernel_rfl) (fun _ _ _ h => h) (Or.inl ⟨by rfl, ?_⟩) ?_ ?_
            rotate_left
            · intro w'
              go_simp
              with_reducible rfl
            rotate_left
            · simp only [Act.put, List.setIfInBounds_toArray, List.set_cons_zero, List.set_cons_succ, i64_w, i32_w]
              rfl
            refine pure_ (i := 11) (N := some 7) (v := ?_) (a' := ?_) #[true, true, true, true, true, true, true, true, true, true, true, true] rfl rfl (by kernel_rfl) (fun _ _ _ h => h) (Or.inl ⟨by rfl, ?_⟩) ?_ ?_
            rotate_left
            · intro w'
              go_simp
              with_reducible rfl
            rotate_left
            · simp only [Act.put, List.setIfInBounds_toArray, List.set_cons_zero, List.set_cons_succ, i64_w, i32_w]
              rfl
            refine done_ (by kernel_rfl) ?_
            have HF_ := Aside0.mk (show Rows w W4_ [⟨4, .slice (some ⟨g1, 0, none⟩) n cap1, (runD L).2.map Value.bool⟩, ⟨9, v2, ((runD L).1.map Prod.fst).map Value.string⟩, ⟨9, va_, ((L.take (k + 1)).map Dc.name).map Value.string⟩, ⟨9, .slice Al lxs.length cl, lxs.map Value.string⟩, ⟨9, vb_, ((L.take (k + 1)).map Dc.name).map Value.string⟩] from by rw [HTH.out, List.map_append]; exact HR4_.take_ 5 rfl)
            go_wp2
            go_roundw
            case rel => exact ⟨k + 1, lxs, by go_num, hlt, HLX.out, HF_, HLEX⟩
            case measure => simp [intOf] <;> omega
          · skip
            refine value_ (w1 := ?_) (v := ?_) (by rfl) rfl ?_ ?_
            rotate_left 2
            · go_simp
              constructor
              · rfl
              · rfl
            have HR5_ := HR1_.new_ 9 [.string nm] 1 rfl (by decide) (W.heap.size + 1) (by simp)
            refine hK_ _ ((W.drew.alloc (.cells #[.string nm] 9)).alloc (.cells #[.string nm] 9)) (local_cell HR5_ rfl) (fun _ => ?_)
            refine norm_ (a' := ?_) ?_ ?_
            rotate_left
            · show Act.put _ (some 79) _ = _
              simp only [Act.put, List.setIfInBounds_toArray, List.set_cons_zero, List.set_cons_succ]
              rfl
            refine one_ (i := 4) (N := some 75) #[true, true, true, true, true, true, true, true, true, false, false, false] rfl rfl (by kernel_rfl) (by simp) (fun K_ hK_ => ?_)
            obtain ⟨va_, W6_, happ_, HR6_⟩ := HR5_.app Try.underlying25 infoStr rfl (by decide) (i := 2) (j := 6) rfl rfl HLEN.out rfl
            have HAP_ := Aside0.mk happ_
            refine ev_append (by rfl) (.tmp 71) (.tmp 74) 25 rfl rfl rfl HAP_.out ?_
            refine hK_ _ W6_ (local_cell HR6_ rfl) (fun _ => ?_)
            refine norm_ (a' := ?_) ?_ ?_
            rotate_left
            · show Act.put _ (some 75) _ = _
              simp only [Act.put, List.setIfInBounds_toArray, List.set_cons_zero, List.set_cons_succ]
              rfl
            refine one_ (i := 9) (N := some 80) #[true, true, true, true, true, true, true, true, true, true, false, false] rfl rfl (by kernel_rfl) (by simp) (fun K_ hK_ => ?_)
            obtain ⟨vb_, W7_, happ_, HR7_⟩ := HR6_.app Try.underlying25 infoStr rfl (by decide) (i := 4) (j := 7) rfl rfl HLEN.out rfl
            have HAP_ := Aside0.mk happ_
            refine ev_append (by rfl) (.tmp 76) (.tmp 79) 25 rfl rfl rfl HAP_.out ?_
            refine hK_ _ W7_ (local_cell HR7_ rfl) (fun _ => ?_)
            refine norm_ (a' := ?_) ?_ ?_
            rotate_left
            · show Act.put _ (some 80) _ = _
              simp only [Act.put, List.setIfInBounds_toArray, List.set_cons_zero, List.set_cons_succ]
              rfl
            refine pure_ (i := 10) (N := some 5) (v := ?_) (a' := ?_) #[true, true, true, true, true, true, true, true, true, true, true, false] rfl rfl (by kernel_rfl) (fun _ _ _ h => h) (Or.inl ⟨by rfl, ?_⟩) ?_ ?_
            rotate_left
            · intro w'
              go_simp
              with_reducible rfl
            rotate_left
            · simp only [Act.put, List.setIfInBounds_toArray, List.set_cons_zero, List.set_cons_succ, i64_w, i32_w]
              rfl
            refine pure_ (i := 11) (N := some 7) (v := ?_) (a' := ?_) #[true, true, true, true, true, true, true, true, true, true, true, true] rfl rfl (by kernel_rfl) (fun _ _ _ h => h) (Or.inl ⟨by rfl, ?_⟩) ?_ ?_
            rotate_left
            · intro w'
              go_simp
              with_reducible rfl
            rotate_left
            · simp only [Act.put, List.setIfInBounds_toArray, List.set_cons_zero, List.set_cons_succ, i64_w, i32_w]
              rfl
            refine done_ (by kernel_rfl) ?_
            have HF_ := Aside0.mk (show Rows w W7_ [⟨4, .slice (some ⟨g1, 0, none⟩) n cap1, (runD L).2.map Value.bool⟩, ⟨9, v2, ((runD L).1.map Prod.fst).map Value.string⟩, ⟨9, va_, ((L.take (k + 1)).map Dc.name).map Value.string⟩, ⟨9, .slice Al lxs.length cl, lxs.map Value.string⟩, ⟨9, vb_, ((L.take (k + 1)).map Dc.name).map Value.string⟩] from by rw [HTH.out, List.map_append]; exact HR7_.take_ 5 rfl)
            go_wp2
            go_roundw
            case rel => exact ⟨k + 1, lxs, by go_num, hlt, HLX.out, HF_, HLEX⟩
            case measure => simp [intOf] <;> omega
        · skip
          refine value_ (w1 := ?_) (v := ?_) (by rfl) rfl ?_ ?_
          rotate_left 2
          · go_simp
            constructor
            · rfl
            · rfl
          have HR8_ := HR0_.new_ 9 [.string nm] 1 rfl (by decide) (W.heap.size) (rfl)
          refine hK_ _ (W.drew.alloc (.cells #[.string nm] 9)) (local_cell HR8_ rfl) (fun _ => ?_)
          refine norm_ (a' := ?_) ?_ ?_
          rotate_left
          · show Act.put _ (some 79) _ = _
            simp only [Act.put, List.setIfInBounds_toArray, List.set_cons_zero, List.set_cons_succ]
            rfl
          refine one_ (i := 3) (N := some 74) #[true, true, true, true, false, true, true, true, true, false, false, false] rfl rfl (by kernel_rfl) (by simp) (fun K_ hK_ => ?_)
          refine value_ (w1 := ?_) (v := ?_) (by rfl) rfl ?_ ?_
          rotate_left 2
          · go_simp
            constructor
            · rfl
            · rfl
          have HR9_ := HR8_.new_ 9 [.string nm] 1 rfl (by decide) (W.heap.size + 1) (by simp)
          refine hK_ _ ((W.drew.alloc (.cells #[.string nm] 9)).alloc (.cells #[.string nm] 9)) (local_cell HR9_ rfl) (fun _ => ?_)
          refine norm_ (a' := ?_) ?_ ?_
          rotate_left
          · show Act.put _ (some 74) _ = _
            simp only [Act.put, List.setIfInBounds_toArray, List.set_cons_zero, List.set_cons_succ]
            rfl
          refine one_ (i := 4) (N := some 75) #[true, true, true, true, true, true, true, true, true, false, false, false] rfl rfl (by kernel_rfl) (by simp) (fun K_ hK_ => ?_)
          obtain ⟨va_, W10_, happ_, HR10_⟩ := HR9_.app Try.underlying25 infoStr rfl (by decide) (i := 2) (j := 7) rfl rfl HLEN.out rfl
          have HAP_ := Aside0.mk happ_
          refine ev_append (by rfl) (.tmp 71) (.tmp 74) 25 rfl rfl rfl HAP_.out ?_
          refine hK_ _ W10_ (local_cell HR10_ rfl) (fun _ => ?_)
          refine norm_ (a' := ?_) ?_ ?_
          rotate_left
          · show Act.put _ (some 75) _ = _
            simp only [Act.put, List.setIfInBounds_toArray, List.set_cons_zero, List.set_cons_succ]
            rfl
          refine one_ (i := 9) (N := some 80) #[true, true, true, true, true, true, true, true, true, true, false, false] rfl rfl (by kernel_rfl) (by simp) (fun K_ hK_ => ?_)
          obtain ⟨vb_, W11_, happ_, HR11_⟩ := HR10_.app Try.underlying25 infoStr rfl (by decide) (i := 4) (j := 6) rfl rfl HLEN.out rfl
          have HAP_ := Aside0.mk happ_
          refine ev_append (by rfl) (.tmp 76) (.tmp 79) 25 rfl rfl rfl HAP_.out ?_
          refine hK_ _ W11_ (local_cell HR11_ rfl) (fun _ => ?_)
          refine norm_ (a' := ?_) ?_ ?_
          rotate_left
          · show Act.put _ (some 80) _ = _
            simp only [Act.put, List.setIfInBounds_toArray, List.set_cons_zero, List.set_cons_succ]
            rfl
          refine pure_ (i := 10) (N := some 5) (v := ?_) (a' := ?_) #[true, true, true, true, true, true, true, true, true, true, true, false] rfl rfl (by kernel_rfl) (fun _ _ _ h => h) (Or.inl ⟨by rfl, ?_⟩) ?_ ?_
          rotate_left
          · intro w'
            go_simp
            with_reducible rfl
          rotate_left
          · simp only [Act.put, List.setIfInBounds_toArray, List.set_cons_zero, List.set_cons_succ, i64_w, i32_w]
            rfl
          refine pure_ (i := 11) (N := some 7) (v := ?_) (a' := ?_) #[true, true, true, true, true, true, true, true, true, true, true, true] rfl rfl (by kernel_rfl) (fun _ _ _ h => h) (Or.inl ⟨by rfl, ?_⟩) ?_ ?_
          rotate_left
          · intro w'
            go_simp
            with_reducible rfl
          rotate_left
          · simp only [Act.put, List.setIfInBounds_toArray, List.set_cons_zero, List.set_cons_succ, i64_w, i32_w]
            rfl
          refine done_ (by kernel_rfl) ?_
          have HF_ := Aside0.mk (show Rows w W11_ [⟨4, .slice (some ⟨g1, 0, none⟩) n cap1, (runD L).2.map Value.bool⟩, ⟨9, v2, ((runD L).1.map Prod.fst).map Value.string⟩, ⟨9, va_, ((L.take (k + 1)).map Dc.name).map Value.string⟩, ⟨9, .slice Al lxs.length cl, lxs.map Value.string⟩, ⟨9, vb_, ((L.take (k + 1)).map Dc.name).map Value.string⟩] from by rw [HTH.out, List.map_append]; exact HR11_.take_ 5 rfl)
          go_wp2
          go_roundw
          case rel => exact ⟨k + 1, lxs, by go_num, hlt, HLX.out, HF_, HLEX⟩
          case measure => simp [intOf] <;> omega
      | false =>
        rw [h1] at hgi
        by_cases hk2 : kd = 2
        · obtain rfl := hk2
          cases h2 : hasB ths nm with
          | true =>
            rw [h2] at hgi
            replace hgi : (wr.alloc (Obj.cells #[.int .i64 2, .string nm] 29)).cell? ⟨g1, k, none⟩ = some (.bool false) := by simpa using hgi
            have HLEX := Aside0.mk (show LexOk (runD (L.take (k + 1))).1 lxs by have := HLEXG.out; rw [h1, h2] at this; exact this)
            have HLX := Aside0.mk (show lxs.length ≤ k + 1 by have := HLXL.out; omega)
            rw [h1] at HC1
            rw [h2] at HC2
            clear h1 h2 hk3
            go_wp2_with fail
            (with_reducible refine HC1.out.mono ?_)
            rintro e w5 ⟨rfl, hw5⟩
            rw [hw5]
            clear hw5
            go_wp2_with fail
            (with_reducible refine HC2.out.mono ?_)
            rintro e w5 ⟨rfl, hw5⟩
            rw [hw5]
            clear hw5
            go_wp2
            obtain ⟨W, hW⟩ : ∃ W, W = wr.alloc (Obj.cells #[.int .i64 2, .string nm] 29) := ⟨_, rfl⟩
            rw [← hW]
            have HR0_ := Rows.drew (show Rows w W _ from by rw [hW]; exact HRA.out)
            clear hW hgi
            refine start_ (n := 12) (S := fun w' => w'.cell? ⟨wr.heap.size, 1, none⟩ = some (.string nm)) (ds := []) #[false, false, false, false, false, false, false, false, false, false, false, false] (by kernel_rfl) rfl rfl (local_cell HR0_ rfl) (fun hHeld => ?_)
            refine pure_ (i := 0) (N := some 71) (v := ?_) (a' := ?_) #[true, false, false, false, false, false, false, false, false, false, false, false] rfl rfl (by kernel_rfl) (fun _ _ _ h => h) (Or.inl ⟨by rfl, ?_⟩) ?_ ?_
            rotate_left
            · intro w'
              go_simp
              with_reducible rfl
            rotate_left
            · simp only [Act.put, List.setIfInBounds_toArray, List.set_cons_zero, List.set_cons_succ, i64_w, i32_w]
              rfl
            refine pure_ (i := 1) (N := some 72) (v := ?_) (a' := ?_) #[true, true, false, false, false, false, false, false, false, false, false, false] rfl rfl (by kernel_rfl) (fun _ _ _ h => h) (Or.inl ⟨by rfl, ?_⟩) ?_ ?_
            rotate_left
            · intro w'
              go_simp
              with_reducible rfl
            rotate_left
            · simp only [Act.put, List.setIfInBounds_toArray, List.set_cons_zero, List.set_cons_succ, i64_w, i32_w]
              rfl
            refine take_ (i := 2) (N := some 73) (v := ?_) (a' := ?_) #[true, true, true, false, false, false, false, false, false, false, false, false] rfl rfl (by kernel_rfl) (fun _ _ _ h => h) (Or.inl ⟨by rfl, ?_⟩) hHeld ?_ ?_
            rotate_left
            · intro w' s0
              go_simp
              with_reducible rfl
            rotate_left
            · simp only [Act.put, List.setIfInBounds_toArray, List.set_cons_zero, List.set_cons_succ, i64_w, i32_w]
              rfl
            refine pure_ (i := 5) (N := some 76) (v := ?_) (a' := ?_) #[true, true, true, false, false, true, false, false, false, false, false, false] rfl rfl (by kernel_rfl) (fun _ _ _ h => h) (Or.inl ⟨by rfl, ?_⟩) ?_ ?_
            rotate_left
            · intro w'
              go_simp
              with_reducible rfl
            rotate_left
            · simp only [Act.put, List.setIfInBounds_toArray, List.set_cons_zero, List.set_cons_succ, i64_w, i32_w]
              rfl
            refine pure_ (i := 6) (N := some 77) (v := ?_) (a' := ?_) #[true, true, true, false, false, true, true, false, false, false, false, false] rfl rfl (by kernel_rfl) (fun _ _ _ h => h) (Or.inl ⟨by rfl, ?_⟩) ?_ ?_
            rotate_left
            · intro w'
              go_simp
              with_reducible rfl
            rotate_left
            · simp only [Act.put, List.setIfInBounds_toArray, List.set_cons_zero, List.set_cons_succ, i64_w, i32_w]
              rfl
            refine take_ (i := 7) (N := some 78) (v := ?_) (a' := ?_) #[true, true, true, false, false, true, true, true, false, false, false, false] rfl rfl (by kernel_rfl) (fun _ _ _ h => h) (Or.inl ⟨by rfl, ?_⟩) hHeld ?_ ?_
            rotate_left
            · intro w' s0
              go_simp
              with_reducible rfl
            rotate_left
            · simp only [Act.put, List.setIfInBounds_toArray, List.set_cons_zero, List.set_cons_succ, i64_w, i32_w]
              rfl
            refine two_ (i := 3) (j := 8) (Ni := some 74) (Nj := some 79) #[true, true, true, true, false, true, true, true, false, false, false, false] #[true, true, true, false, false, true, true, true, true, false, false, false] rfl rfl rfl rfl (by kernel_rfl) (by simp) (by simp) (fun K_ hK_ => ?_) (fun K_ hK_ => ?_)
            · skip
              refine value_ (w1 := ?_) (v := ?_) (by rfl) rfl ?_ ?_
              rotate_left 2
              · go_simp
                constructor
                · rfl
                · rfl
              have HR1_ := HR0_.new_ 9 [.string nm] 1 rfl (by decide) (W.heap.size) (rfl)
              refine hK_ _ (W.drew.alloc (.cells #[.string nm] 9)) (local_cell HR1_ rfl) (fun _ => ?_)
              refine norm_ (a' := ?_) ?_ ?_
              rotate_left
              · show Act.put _ (some 74) _ = _
                simp only [Act.put, List.setIfInBounds_toArray, List.set_cons_zero, List.set_cons_succ]
                rfl
              refine two_ (i := 4) (j := 8) (Ni := some 75) (Nj := some 79) #[true, true, true, true, true, true, true, true, false, false, false, false] #[true, true, true, true, false, true, true, true, true, false, false, false] rfl rfl rfl rfl (by kernel_rfl) (by simp) (by simp) (fun K_ hK_ => ?_) (fun K_ hK_ => ?_)
              · skip
                obtain ⟨va_, W2_, happ_, HR2_⟩ := HR1_.app Try.underlying25 infoStr rfl (by decide) (i := 2) (j := 6) rfl rfl HLEN.out rfl
                have HAP_ := Aside0.mk happ_
                refine ev_append (by rfl) (.tmp 71) (.tmp 74) 25 rfl rfl rfl HAP_.out ?_
                refine hK_ _ W2_ (local_cell HR2_ rfl) (fun _ => ?_)
                refine norm_ (a' := ?_) ?_ ?_
                rotate_left
                · show Act.put _ (some 75) _ = _
                  simp only [Act.put, List.setIfInBounds_toArray, List.set_cons_zero, List.set_cons_succ]
                  rfl
                refine one_ (i := 8) (N := some 79) #[true, true, true, true, true, true, true, true, true, false, false, false] rfl rfl (by kernel_rfl) (by simp) (fun K_ hK_ => ?_)
                refine value_ (w1 := ?_) (v := ?_) (by rfl) rfl ?_ ?_
                rotate_left 2
                · go_simp
                  constructor
                  · rfl
                  · rfl
                have HR3_ := HR2_.new_ 9 [.string nm] 1 rfl (by decide) (W2_.heap.size) (rfl)
                refine hK_ _ (W2_.alloc (.cells #[.string nm] 9)) (local_cell HR3_ rfl) (fun _ => ?_)
                refine norm_ (a' := ?_) ?_ ?_
                rotate_left
                · show Act.put _ (some 79) _ = _
                  simp only [Act.put, List.setIfInBounds_toArray, List.set_cons_zero, List.set_cons_succ]
                  rfl
                refine one_ (i := 9) (N := some 80) #[true, true, true, true, true, true, true, true, true, true, false, false] rfl rfl (by kernel_rfl) (by simp) (fun K_ hK_ => ?_)
                obtain ⟨vb_, W4_, happ_, HR4_⟩ := HR3_.app Try.underlying25 infoStr rfl (by decide) (i := 4) (j := 7) rfl rfl HLEN.out rfl
                have HAP_ := Aside0.mk happ_
                refine ev_append (by rfl) (.tmp 76) (.tmp 79) 25 rfl rfl rfl HAP_.out ?_
                refine hK_ _ W4_ (local_cell HR4_ rfl) (fun _ => ?_)
                refine norm_ (a' := ?_) ?_ ?_
                rotate_left
                · show Act.put _ (some 80) _ = _
                  simp only [Act.put, List.setIfInBounds_toArray, List.set_cons_zero, List.set_cons_succ]
                  rfl
                refine pure_ (i := 10) (N := some 5) (v := ?_) (a' := ?_) #[true, true, true, true, true, true, true, true, true, true, true, false] rfl rfl (by kernel_rfl) (fun _ _ _ h => h) (Or.inl ⟨by rfl, ?_⟩) ?_ ?_
                rotate_left
                · intro w'
                  go_simp
                  with_reducible rfl
                rotate_left
                · simp only [Act.put, List.setIfInBounds_toArray, List.set_cons_zero, List.set_cons_succ, i64_w, i32_w]
                  rfl
                refine pure_ (i := 11) (N := some 7) (v := ?_) (a' := ?_) #[true, true, true, true, true, true, true, true, true, true, true, true] rfl rfl (by kernel_rfl) (fun _ _ _ h => h) (Or.inl ⟨by rfl, ?_⟩) ?_ ?_
                rotate_left
                · intro w'
                  go_simp
                  with_reducible rfl
                rotate_left
                · simp only [Act.put, List.setIfInBounds_toArray, List.set_cons_zero, List.set_cons_succ, i64_w, i32_w]
                  rfl
                refine done_ (by kernel_rfl) ?_
                have HF_ := Aside0.mk (show Rows w W4_ [⟨4, .slice (some ⟨g1, 0, none⟩) n cap1, (runD L).2.map Value.bool⟩, ⟨9, v2, ((runD L).1.map Prod.fst).map Value.string⟩, ⟨9, va_, ((L.take (k + 1)).map Dc.name).map Value.string⟩, ⟨9, .slice Al lxs.length cl, lxs.map Value.string⟩, ⟨9, vb_, ((L.take (k + 1)).map Dc.name).map Value.string⟩] from by rw [HTH.out, List.map_append]; exact HR4_.take_ 5 rfl)
                go_wp2
                go_roundw
                case rel => exact ⟨k + 1, lxs, by go_num, hlt, HLX.out, HF_, HLEX⟩
                case measure => simp [intOf] <;> omega
              · skip
                refine value_ (w1 := ?_) (v := ?_) (by rfl) rfl ?_ ?_
                rotate_left 2
                · go_simp
                  constructor
                  · rfl
                  · rfl
                have HR5_ := HR1_.new_ 9 [.string nm] 1 rfl (by decide) (W.heap.size + 1) (by simp)
                refine hK_ _ ((W.drew.alloc (.cells #[.string nm] 9)).alloc (.cells #[.string nm] 9)) (local_cell HR5_ rfl) (fun _ => ?_)
                refine norm_ (a' := ?_) ?_ ?_
                rotate_left
                · show Act.put _ (some 79) _ = _
                  simp only [Act.put, List.setIfInBounds_toArray, List.set_cons_zero, List.set_cons_succ]
                  rfl
                refine one_ (i := 4) (N := some 75) #[true, true, true, true, true, true, true, true, true, false, false, false] rfl rfl (by kernel_rfl) (by simp) (fun K_ hK_ => ?_)
                obtain ⟨va_, W6_, happ_, HR6_⟩ := HR5_.app Try.underlying25 infoStr rfl (by decide) (i := 2) (j := 6) rfl rfl HLEN.out rfl
                have HAP_ := Aside0.mk happ_
                refine ev_append (by rfl) (.tmp 71) (.tmp 74) 25 rfl rfl rfl HAP_.out ?_
                refine hK_ _ W6_ (local_cell HR6_ rfl) (fun _ => ?_)
                refine norm_ (a' := ?_) ?_ ?_
                rotate_left
                · show Act.put _ (some 75) _ = _
                  simp only [Act.put, List.setIfInBounds_toArray, List.set_cons_zero, List.set_cons_succ]
                  rfl
                refine one_ (i := 9) (N := some 80) #[true, true, true, true, true, true, true, true, true, true, false, false] rfl rfl (by kernel_rfl) (by simp) (fun K_ hK_ => ?_)
                obtain ⟨vb_, W7_, happ_, HR7_⟩ := HR6_.app Try.underlying25 infoStr rfl (by decide) (i := 4) (j := 7) rfl rfl HLEN.out rfl
                have HAP_ := Aside0.mk happ_
                refine ev_append (by rfl) (.tmp 76) (.tmp 79) 25 rfl rfl rfl HAP_.out ?_
                refine hK_ _ W7_ (local_cell HR7_ rfl) (fun _ => ?_)
                refine norm_ (a' := ?_) ?_ ?_
                rotate_left
                · show Act.put _ (some 80) _ = _
                  simp only [Act.put, List.setIfInBounds_toArray, List.set_cons_zero, List.set_cons_succ]
                  rfl
                refine pure_ (i := 10) (N := some 5) (v := ?_) (a' := ?_) #[true, true, true, true, true, true, true, true, true, true, true, false] rfl rfl (by kernel_rfl) (fun _ _ _ h => h) (Or.inl ⟨by rfl, ?_⟩) ?_ ?_
                rotate_left
                · intro w'
                  go_simp
                  with_reducible rfl
                rotate_left
                · simp only [Act.put, List.setIfInBounds_toArray, List.set_cons_zero, List.set_cons_succ, i64_w, i32_w]
                  rfl
                refine pure_ (i := 11) (N := some 7) (v := ?_) (a' := ?_) #[true, true, true, true, true, true, true, true, true, true, true, true] rfl rfl (by kernel_rfl) (fun _ _ _ h => h) (Or.inl ⟨by rfl, ?_⟩) ?_ ?_
                rotate_left
                · intro w'
                  go_simp
                  with_reducible rfl
                rotate_left
                · simp only [Act.put, List.setIfInBounds_toArray, List.set_cons_zero, List.set_cons_succ, i64_w, i32_w]
                  rfl
                refine done_ (by kernel_rfl) ?_
                have HF_ := Aside0.mk (show Rows w W7_ [⟨4, .slice (some ⟨g1, 0, none⟩) n cap1, (runD L).2.map Value.bool⟩, ⟨9, v2, ((runD L).1.map Prod.fst).map Value.string⟩, ⟨9, va_, ((L.take (k + 1)).map Dc.name).map Value.string⟩, ⟨9, .slice Al lxs.length cl, lxs.map Value.string⟩, ⟨9, vb_, ((L.take (k + 1)).map Dc.name).map Value.string⟩] from by rw [HTH.out, List.map_append]; exact HR7_.take_ 5 rfl)
                go_wp2
                go_roundw
                case rel => exact ⟨k + 1, lxs, by go_num, hlt, HLX.out, HF_, HLEX⟩
                case measure => simp [intOf] <;> omega
            · skip
              refine value_ (w1 := ?_) (v := ?_) (by rfl) rfl ?_ ?_
              rotate_left 2
              · go_simp
                constructor
                · rfl
                · rfl
              have HR8_ := HR0_.new_ 9 [.string nm] 1 rfl (by decide) (W.heap.size) (rfl)
              refine hK_ _ (W.drew.alloc (.cells #[.string nm] 9)) (local_cell HR8_ rfl) (fun _ => ?_)
              refine norm_ (a' := ?_) ?_ ?_
              rotate_left
              · show Act.put _ (some 79) _ = _
                simp only [Act.put, List.setIfInBounds_toArray, List.set_cons_zero, List.set_cons_succ]
                rfl
              refine one_ (i := 3) (N := some 74) #[true, true, true, true, false, true, true, true, true, false, false, false] rfl rfl (by kernel_rfl) (by simp) (fun K_ hK_ => ?_)
              refine value_ (w1 := ?_) (v := ?_) (by rfl) rfl ?_ ?_
              rotate_left 2
              · go_simp
                constructor
                · rfl
                · rfl
              have HR9_ := HR8_.new_ 9 [.string nm] 1 rfl (by decide) (W.heap.size + 1) (by simp)
              refine hK_ _ ((W.drew.alloc (.cells #[.string nm] 9)).alloc (.cells #[.string nm] 9)) (local_cell HR9_ rfl) (fun _ => ?_)
              refine norm_ (a' := ?_) ?_ ?_
              rotate_left
              · show Act.put _ (some 74) _ = _
                simp only [Act.put, List.setIfInBounds_toArray, List.set_cons_zero, List.set_cons_succ]
                rfl
              refine one_ (i := 4) (N := some 75) #[true, true, true, true, true, true, true, true, true, false, false, false] rfl rfl (by kernel_rfl) (by simp) (fun K_ hK_ => ?_)
              obtain ⟨va_, W10_, happ_, HR10_⟩ := HR9_.app Try.underlying25 infoStr rfl (by decide) (i := 2) (j := 7) rfl rfl HLEN.out rfl
              have HAP_ := Aside0.mk happ_
              refine ev_append (by rfl) (.tmp 71) (.tmp 74) 25 rfl rfl rfl HAP_.out ?_
              refine hK_ _ W10_ (local_cell HR10_ rfl) (fun _ => ?_)
              refine norm_ (a' := ?_) ?_ ?_
              rotate_left
              · show Act.put _ (some 75) _ = _
                simp only [Act.put, List.setIfInBounds_toArray, List.set_cons_zero, List.set_cons_succ]
                rfl
              refine one_ (i := 9) (N := some 80) #[true, true, true, true, true, true, true, true, true, true, false, false] rfl rfl (by kernel_rfl) (by simp) (fun K_ hK_ => ?_)
              obtain ⟨vb_, W11_, happ_, HR11_⟩ := HR10_.app Try.underlying25 infoStr rfl (by decide) (i := 4) (j := 6) rfl rfl HLEN.out rfl
              have HAP_ := Aside0.mk happ_
              refine ev_append (by rfl) (.tmp 76) (.tmp 79) 25 rfl rfl rfl HAP_.out ?_
              refine hK_ _ W11_ (local_cell HR11_ rfl) (fun _ => ?_)
              refine norm_ (a' := ?_) ?_ ?_
              rotate_left
              · show Act.put _ (some 80) _ = _
                simp only [Act.put, List.setIfInBounds_toArray, List.set_cons_zero, List.set_cons_succ]
                rfl
              refine pure_ (i := 10) (N := some 5) (v := ?_) (a' := ?_) #[true, true, true, true, true, true, true, true, true, true, true, false] rfl rfl (by kernel_rfl) (fun _ _ _ h => h) (Or.inl ⟨by rfl, ?_⟩) ?_ ?_
              rotate_left
              · intro w'
                go_simp
                with_reducible rfl
              rotate_left
              · simp only [Act.put, List.setIfInBounds_toArray, List.set_cons_zero, List.set_cons_succ, i64_w, i32_w]
                rfl
              refine pure_ (i := 11) (N := some 7) (v := ?_) (a' := ?_) #[true, true, true, true, true, true, true, true, true, true, true, true] rfl rfl (by kernel_rfl) (fun _ _ _ h => h) (Or.inl ⟨by rfl, ?_⟩) ?_ ?_
              rotate_left
              · intro w'
                go_simp
                with_reducible rfl
              rotate_left
              · simp only [Act.put, List.setIfInBounds_toArray, List.set_cons_zero, List.set_cons_succ, i64_w, i32_w]
                rfl
              refine done_ (by kernel_rfl) ?_
              have HF_ := Aside0.mk (show Rows w W11_ [⟨4, .slice (some ⟨g1, 0, none⟩) n cap1, (runD L).2.map Value.bool⟩, ⟨9, v2, ((runD L).1.map Prod.fst).map Value.string⟩, ⟨9, va_, ((L.take (k + 1)).map Dc.name).map Value.string⟩, ⟨9, .slice Al lxs.length cl, lxs.map Value.string⟩, ⟨9, vb_, ((L.take (k + 1)).map Dc.name).map Value.string⟩] from by rw [HTH.out, List.map_append]; exact HR11_.take_ 5 rfl)
              go_wp2
              go_roundw
              case rel => exact ⟨k + 1, lxs, by go_num, hlt, HLX.out, HF_, HLEX⟩
              case measure => simp [intOf] <;> omega
          | false =>
            rw [h2] at hgi
            replace hgi : (wr.alloc (Obj.cells #[.int .i64 2, .string nm] 29)).cell? ⟨g1, k, none⟩ = some (.bool true) := by simpa using hgi
            have HLEX := Aside0.mk (show LexOk (runD (L.take (k + 1))).1 (lxs ++ [nm]) by have := HLEXG.out; rw [h1, h2] at this; exact this)
            have HLX := Aside0.mk (show (lxs ++ [nm]).length ≤ k + 1 by have := HLXL.out; rw [List.length_append]; exact Nat.succ_le_succ this)
            obtain ⟨v5, W, happ5, HRB⟩ := (HRA.out.new_ 9 [.string nm] 1 rfl (by decide) (wr.heap.size + 1) (by simp)).app Try.underlying25 infoStr rfl (by decide) (i := 3) (j := 6) rfl rfl (by rw [List.length_map]; have := HLXL.out; omega) rfl
            have HAPP5 := Aside0.mk happ5
            have HRB6 := Aside0.mk (show Rows w W [⟨4, .slice (some ⟨g1, 0, none⟩) n cap1, (runD L).2.map Value.bool⟩, ⟨9, v2, ((runD L).1.map Prod.fst).map Value.string⟩, ⟨9, .slice At ths.length ct, ths.map Value.string⟩, ⟨9, v5, (lxs ++ [nm]).map Value.string⟩, ⟨9, u7, ths.map Value.string⟩, ⟨29, .slice (some ⟨wr.heap.size, 0, none⟩) 2 2, [.int .i64 2, .string nm]⟩] from by rw [List.map_append]; exact HRB.take_ 6 rfl)
            rw [h1] at HC1
            rw [h2] at HC2
            clear h1 h2 hk3 happ5 HRB
            go_wp2_with fail
            (with_reducible refine HC1.out.mono ?_)
            rintro e w5 ⟨rfl, hw5⟩
            rw [hw5]
            clear hw5
            go_wp2_with fail
            (with_reducible refine HC2.out.mono ?_)
            rintro e w5 ⟨rfl, hw5⟩
            rw [hw5]
            clear hw5
            go_wp2_with (at_builtin; refine append_event rfl (.tmp 66) (.tmp 69) 25 rfl rfl rfl (HAPP5.out _) ?_)
            have HR0_ := HRB6.out.drew
            clear hgi
            refine start_ (n := 12) (S := fun w' => w'.cell? ⟨wr.heap.size, 1, none⟩ = some (.string nm)) (ds := []) #[false, false, false, false, false, false, false, false, false, false, false, false] (by kernel_rfl) rfl rfl (local_cell HR0_ rfl) (fun hHeld => ?_)
            refine pure_ (i := 0) (N := some 71) (v := ?_) (a' := ?_) #[true, false, false, false, false, false, false, false, false, false, false, false] rfl rfl (by kernel_rfl) (fun _ _ _ h => h) (Or.inl ⟨by rfl, ?_⟩) ?_ ?_
            rotate_left
            · intro w'
              go_simp
              with_reducible rfl
            rotate_left
            · simp only [Act.put, List.setIfInBounds_toArray, List.set_cons_zero, List.set_cons_succ, i64_w, i32_w]
              rfl
            refine pure_ (i := 1) (N := some 72) (v := ?_) (a' := ?_) #[true, true, false, false, false, false, false, false, false, false, false, false] rfl rfl (by kernel_rfl) (fun _ _ _ h => h) (Or.inl ⟨by rfl, ?_⟩) ?_ ?_
            rotate_left
            · intro w'
              go_simp
              with_reducible rfl
            rotate_left
            · simp only [Act.put, List.setIfInBounds_toArray, List.set_cons_zero, List.set_cons_succ, i64_w, i32_w]
              rfl
            refine take_ (i := 2) (N := some 73) (v := ?_) (a' := ?_) #[true, true, true, false, false, false, false, false, false, false, false, false] rfl rfl (by kernel_rfl) (fun _ _ _ h => h) (Or.inl ⟨by rfl, ?_⟩) hHeld ?_ ?_
            rotate_left
            · intro w' s0
              go_simp
              with_reducible rfl
            rotate_left
            · simp only [Act.put, List.setIfInBounds_toArray, List.set_cons_zero, List.set_cons_succ, i64_w, i32_w]
              rfl
            refine pure_ (i := 5) (N := some 76) (v := ?_) (a' := ?_) #[true, true, true, false, false, true, false, false, false, false, false, false] rfl rfl (by kernel_rfl) (fun _ _ _ h => h) (Or.inl ⟨by rfl, ?_⟩) ?_ ?_
            rotate_left
            · intro w'
              go_simp
              with_reducible rfl
            rotate_left
            · simp only [Act.put, List.setIfInBounds_toArray, List.set_cons_zero, List.set_cons_succ, i64_w, i32_w]
              rfl
            refine pure_ (i := 6) (N := some 77) (v := ?_) (a' := ?_) #[true, true, true, false, false, true, true, false, false, false, false, false] rfl rfl (by kernel_rfl) (fun _ _ _ h => h) (Or.inl ⟨by rfl, ?_⟩) ?_ ?_
            rotate_left
            · intro w'
              go_simp
              with_reducible rfl
            rotate_left
            · simp only [Act.put, List.setIfInBounds_toArray, List.set_cons_zero, List.set_cons_succ, i64_w, i32_w]
              rfl
            refine take_ (i := 7) (N := some 78) (v := ?_) (a' := ?_) #[true, true, true, false, false, true, true, true, false, false, false, false] rfl rfl (by kernel_rfl) (fun _ _ _ h => h) (Or.inl ⟨by rfl, ?_⟩) hHeld ?_ ?_
            rotate_left
            · intro w' s0
              go_simp
              with_reducible rfl
            rotate_left
            · simp only [Act.put, List.setIfInBounds_toArray, List.set_cons_zero, List.set_cons_succ, i64_w, i32_w]
              rfl
            refine two_ (i := 3) (j := 8) (Ni := some 74) (Nj := some 79) #[true, true, true, true, false, true, true, true, false, false, false, false] #[true, true, true, false, false, true, true, true, true, false, false, false] rfl rfl rfl rfl (by kernel_rfl) (by simp) (by simp) (fun K_ hK_ => ?_) (fun K_ hK_ => ?_)
            · skip
              refine value_ (w1 := ?_) (v := ?_) (by rfl) rfl ?_ ?_
              rotate_left 2
              · go_simp
                constructor
                · rfl
                · rfl
              have HR1_ := HR0_.new_ 9 [.string nm] 1 rfl (by decide) (W.heap.size) (rfl)
              refine hK_ _ (W.drew.alloc (.cells #[.string nm] 9)) (local_cell HR1_ rfl) (fun _ => ?_)
              refine norm_ (a' := ?_) ?_ ?_
              rotate_left
              · show Act.put _ (some 74) _ = _
                simp only [Act.put, List.setIfInBounds_toArray, List.set_cons_zero, List.set_cons_succ]
                rfl
              refine two_ (i := 4) (j := 8) (Ni := some 75) (Nj := some 79) #[true, true, true, true, true, true, true, true, false, false, false, false] #[true, true, true, true, false, true, true, true, true, false, false, false] rfl rfl rfl rfl (by kernel_rfl) (by simp) (by simp) (fun K_ hK_ => ?_) (fun K_ hK_ => ?_)
              · skip
                obtain ⟨va_, W2_, happ_, HR2_⟩ := HR1_.app Try.underlying25 infoStr rfl (by decide) (i := 2) (j := 6) rfl rfl HLEN.out rfl
                have HAP_ := Aside0.mk happ_
                refine ev_append (by rfl) (.tmp 71) (.tmp 74) 25 rfl rfl rfl HAP_.out ?_
                refine hK_ _ W2_ (local_cell HR2_ rfl) (fun _ => ?_)
                refine norm_ (a' := ?_) ?_ ?_
                rotate_left
                · show Act.put _ (some 75) _ = _
                  simp only [Act.put, List.setIfInBounds_toArray, List.set_cons_zero, List.set_cons_succ]
                  rfl
                refine one_ (i := 8) (N := some 79) #[true, true, true, true, true, true, true, true, true, false, false, false] rfl rfl (by kernel_rfl) (by simp) (fun K_ hK_ => ?_)
                refine value_ (w1 := ?_) (v := ?_) (by rfl) rfl ?_ ?_
                rotate_left 2
                · go_simp
                  constructor
                  · rfl
                  · rfl
                have HR3_ := HR2_.new_ 9 [.string nm] 1 rfl (by decide) (W2_.heap.size) (rfl)
                refine hK_ _ (W2_.alloc (.cells #[.string nm] 9)) (local_cell HR3_ rfl) (fun _ => ?_)
                refine norm_ (a' := ?_) ?_ ?_
                rotate_left
                · show Act.put _ (some 79) _ = _
                  simp only [Act.put, List.setIfInBounds_toArray, List.set_cons_zero, List.set_cons_succ]
                  rfl
                refine one_ (i := 9) (N := some 80) #[true, true, true, true, true, true, true, true, true, true, false, false] rfl rfl (by kernel_rfl) (by simp) (fun K_ hK_ => ?_)
                obtain ⟨vb_, W4_, happ_, HR4_⟩ := HR3_.app Try.underlying25 infoStr rfl (by decide) (i := 4) (j := 7) rfl rfl HLEN.out rfl
                have HAP_ := Aside0.mk happ_
                refine ev_append (by rfl) (.tmp 76) (.tmp 79) 25 rfl rfl rfl HAP_.out ?_
                refine hK_ _ W4_ (local_cell HR4_ rfl) (fun _ => ?_)
                refine norm_ (a' := ?_) ?_ ?_
                rotate_left
                · show Act.put _ (some 80) _ = _
                  simp only [Act.put, List.setIfInBounds_toArray, List.set_cons_zero, List.set_cons_succ]
                  rfl
                refine pure_ (i := 10) (N := some 5) (v := ?_) (a' := ?_) #[true, true, true, true, true, true, true, true, true, true, true, false] rfl rfl (by kernel_rfl) (fun _ _ _ h => h) (Or.inl ⟨by rfl, ?_⟩) ?_ ?_
                rotate_left
                · intro w'
                  go_simp
                  with_reducible rfl
                rotate_left
                · simp only [Act.put, List.setIfInBounds_toArray, List.set_cons_zero, List.set_cons_succ, i64_w, i32_w]
                  rfl
                refine pure_ (i := 11) (N := some 7) (v := ?_) (a' := ?_) #[true, true, true, true, true, true, true, true, true, true, true, true] rfl rfl (by kernel_rfl) (fun _ _ _ h => h) (Or.inl ⟨by rfl, ?_⟩) ?_ ?_
                rotate_left
                · intro w'
                  go_simp
                  with_reducible rfl
                rotate_left
                · simp only [Act.put, List.setIfInBounds_toArray, List.set_cons_zero, List.set_cons_succ, i64_w, i32_w]
                  rfl
                refine done_ (by kernel_rfl) ?_
                have HF_ := Aside0.mk (show Rows w W4_ [⟨4, .slice (some ⟨g1, 0, none⟩) n cap1, (runD L).2.map Value.bool⟩, ⟨9, v2, ((runD L).1.map Prod.fst).map Value.string⟩, ⟨9, va_, ((L.take (k + 1)).map Dc.name).map Value.string⟩, ⟨9, v5, (lxs ++ [nm]).map Value.string⟩, ⟨9, vb_, ((L.take (k + 1)).map Dc.name).map Value.string⟩] from by rw [HTH.out, List.map_append]; exact HR4_.take_ 5 rfl)
                go_wp2
                go_roundw
                case rel => exact ⟨k + 1, (lxs ++ [nm]), by go_num, hlt, HLX.out, HF_, HLEX⟩
                case measure => simp [intOf] <;> omega
              · skip
                refine value_ (w1 := ?_) (v := ?_) (by rfl) rfl ?_ ?_
                rotate_left 2
                · go_simp
                  constructor
                  · rfl
                  · rfl
                have HR5_ := HR1_.new_ 9 [.string nm] 1 rfl (by decide) (W.heap.size + 1) (by simp)
                refine hK_ _ ((W.drew.alloc (.cells #[.string nm] 9)).alloc (.cells #[.string nm] 9)) (local_cell HR5_ rfl) (fun _ => ?_)
                refine norm_ (a' := ?_) ?_ ?_
                rotate_left
                · show Act.put _ (some 79) _ = _
                  simp only [Act.put, List.setIfInBounds_toArray, List.set_cons_zero, List.set_cons_succ]
                  rfl
                refine one_ (i := 4) (N := some 75) #[true, true, true, true, true, true, true, true, true, false, false, false] rfl rfl (by kernel_rfl) (by simp) (fun K_ hK_ => ?_)
                obtain ⟨va_, W6_, happ_, HR6_⟩ := HR5_.app Try.underlying25 infoStr rfl (by decide) (i := 2) (j := 6) rfl rfl HLEN.out rfl
                have HAP_ := Aside0.mk happ_
                refine ev_append (by rfl) (.tmp 71) (.tmp 74) 25 rfl rfl rfl HAP_.out ?_
                refine hK_ _ W6_ (local_cell HR6_ rfl) (fun _ => ?_)
                refine norm_ (a' := ?_) ?_ ?_
                rotate_left
                · show Act.put _ (some 75) _ = _
                  simp only [Act.put, List.setIfInBounds_toArray, List.set_cons_zero, List.set_cons_succ]
                  rfl
                refine one_ (i := 9) (N := some 80) #[true, true, true, true, true, true, true, true, true, true, false, false] rfl rfl (by kernel_rfl) (by simp) (fun K_ hK_ => ?_)
                obtain ⟨vb_, W7_, happ_, HR7_⟩ := HR6_.app Try.underlying25 infoStr rfl (by decide) (i := 4) (j := 7) rfl rfl HLEN.out rfl
                have HAP_ := Aside0.mk happ_
                refine ev_append (by rfl) (.tmp 76) (.tmp 79) 25 rfl rfl rfl HAP_.out ?_
                refine hK_ _ W7_ (local_cell HR7_ rfl) (fun _ => ?_)
                refine norm_ (a' := ?_) ?_ ?_
                rotate_left
                · show Act.put _ (some 80) _ = _
                  simp only [Act.put, List.setIfInBounds_toArray, List.set_cons_zero, List.set_cons_succ]
                  rfl
                refine pure_ (i := 10) (N := some 5) (v := ?_) (a' := ?_) #[true, true, true, true, true, true, true, true, true, true, true, false] rfl rfl (by kernel_rfl) (fun _ _ _ h => h) (Or.inl ⟨by rfl, ?_⟩) ?_ ?_
                rotate_left
                · intro w'
                  go_simp
                  with_reducible rfl
                rotate_left
                · simp only [Act.put, List.setIfInBounds_toArray, List.set_cons_zero, List.set_cons_succ, i64_w, i32_w]
                  rfl
                refine pure_ (i := 11) (N := some 7) (v := ?_) (a' := ?_) #[true, true, true, true, true, true, true, true, true, true, true, true] rfl rfl (by kernel_rfl) (fun _ _ _ h => h) (Or.inl ⟨by rfl, ?_⟩) ?_ ?_
                rotate_left
                · intro w'
                  go_simp
                  with_reducible rfl
                rotate_left
                · simp only [Act.put, List.setIfInBounds_toArray, List.set_cons_zero, List.set_cons_succ, i64_w, i32_w]
                  rfl
                refine done_ (by kernel_rfl) ?_
                have HF_ := Aside0.mk (show Rows w W7_ [⟨4, .slice (some ⟨g1, 0, none⟩) n cap1, (runD L).2.map Value.bool⟩, ⟨9, v2, ((runD L).1.map Prod.fst).map Value.string⟩, ⟨9, va_, ((L.take (k + 1)).map Dc.name).map Value.string⟩, ⟨9, v5, (lxs ++ [nm]).map Value.string⟩, ⟨9, vb_, ((L.take (k + 1)).map Dc.name).map Value.string⟩] from by rw [HTH.out, List.map_append]; exact HR7_.take_ 5 rfl)
                go_wp2
                go_roundw
                case rel => exact ⟨k + 1, (lxs ++ [nm]), by go_num, hlt, HLX.out, HF_, HLEX⟩
                case measure => simp [intOf] <;> omega
            · skip
              refine value_ (w1 := ?_) (v := ?_) (by rfl) rfl ?_ ?_
              rotate_left 2
              · go_simp
                constructor
                · rfl
                · rfl
              have HR8_ := HR0_.new_ 9 [.string nm] 1 rfl (by decide) (W.heap.size) (rfl)
              refine hK_ _ (W.drew.alloc (.cells #[.string nm] 9)) (local_cell HR8_ rfl) (fun _ => ?_)
              refine norm_ (a' := ?_) ?_ ?_
              rotate_left
              · show Act.put _ (some 79) _ = _
                simp only [Act.put, List.setIfInBounds_toArray, List.set_cons_zero, List.set_cons_succ]
                rfl
              refine one_ (i := 3) (N := some 74) #[true, true, true, true, false, true, true, true, true, false, false, false] rfl rfl (by kernel_rfl) (by simp) (fun K_ hK_ => ?_)
              refine value_ (w1 := ?_) (v := ?_) (by rfl) rfl ?_ ?_
              rotate_left 2
              · go_simp
                constructor
                · rfl
                · rfl
              have HR9_ := HR8_.new_ 9 [.string nm] 1 rfl (by decide) (W.heap.size + 1) (by simp)
              refine hK_ _ ((W.drew.alloc (.cells #[.string nm] 9)).alloc (.cells #[.string nm] 9)) (local_cell HR9_ rfl) (fun _ => ?_)
              refine norm_ (a' := ?_) ?_ ?_
              rotate_left
              · show Act.put _ (some 74) _ = _
                simp only [Act.put, List.setIfInBounds_toArray, List.set_cons_zero, List.set_cons_succ]
                rfl
              refine one_ (i := 4) (N := some 75) #[true, true, true, true, true, true, true, true, true, false, false, false] rfl rfl (by kernel_rfl) (by simp) (fun K_ hK_ => ?_)
              obtain ⟨va_, W10_, happ_, HR10_⟩ := HR9_.app Try.underlying25 infoStr rfl (by decide) (i := 2) (j := 7) rfl rfl HLEN.out rfl
              have HAP_ := Aside0.mk happ_
              refine ev_append (by rfl) (.tmp 71) (.tmp 74) 25 rfl rfl rfl HAP_.out ?_
              refine hK_ _ W10_ (local_cell HR10_ rfl) (fun _ => ?_)
              refine norm_ (a' := ?_) ?_ ?_
              rotate_left
              · show Act.put _ (some 75) _ = _
                simp only [Act.put, List.setIfInBounds_toArray, List.set_cons_zero, List.set_cons_succ]
                rfl
              refine one_ (i := 9) (N := some 80) #[true, true, true, true, true, true, true, true, true, true, false, false] rfl rfl (by kernel_rfl) (by simp) (fun K_ hK_ => ?_)
              obtain ⟨vb_, W11_, happ_, HR11_⟩ := HR10_.app Try.underlying25 infoStr rfl (by decide) (i := 4) (j := 6) rfl rfl HLEN.out rfl
              have HAP_ := Aside0.mk happ_
              refine ev_append (by rfl) (.tmp 76) (.tmp 79) 25 rfl rfl rfl HAP_.out ?_
              refine hK_ _ W11_ (local_cell HR11_ rfl) (fun _ => ?_)
              refine norm_ (a' := ?_) ?_ ?_
              rotate_left
              · show Act.put _ (some 80) _ = _
                simp only [Act.put, List.setIfInBounds_toArray, List.set_cons_zero, List.set_cons_succ]
                rfl
              refine pure_ (i := 10) (N := some 5) (v := ?_) (a' := ?_) #[true, true, true, true, true, true, true, true, true, true, true, false] rfl rfl (by kernel_rfl) (fun _ _ _ h => h) (Or.inl ⟨by rfl, ?_⟩) ?_ ?_
              rotate_left
              · intro w'
                go_simp
                with_reducible rfl
              rotate_left
              · simp only [Act.put, List.setIfInBounds_toArray, List.set_cons_zero, List.set_cons_succ, i64_w, i32_w]
                rfl
              refine pure_ (i := 11) (N := some 7) (v := ?_) (a' := ?_) #[true, true, true, true, true, true, true, true, true, true, true, true] rfl rfl (by kernel_rfl) (fun _ _ _ h => h) (Or.inl ⟨by rfl, ?_⟩) ?_ ?_
              rotate_left
              · intro w'
                go_simp
                with_reducible rfl
              rotate_left
              · simp only [Act.put, List.setIfInBounds_toArray, List.set_cons_zero, List.set_cons_succ, i64_w, i32_w]
                rfl
              refine done_ (by kernel_rfl) ?_
              have HF_ := Aside0.mk (show Rows w W11_ [⟨4, .slice (some ⟨g1, 0, none⟩) n cap1, (runD L).2.map Value.bool⟩, ⟨9, v2, ((runD L).1.map Prod.fst).map Value.string⟩, ⟨9, va_, ((L.take (k + 1)).map Dc.name).map Value.string⟩, ⟨9, v5, (lxs ++ [nm]).map Value.string⟩, ⟨9, vb_, ((L.take (k + 1)).map Dc.name).map Value.string⟩] from by rw [HTH.out, List.map_append]; exact HR11_.take_ 5 rfl)
              go_wp2
              go_roundw
              case rel => exact ⟨k + 1, (lxs ++ [nm]), by go_num, hlt, HLX.out, HF_, HLEX⟩
              case measure => simp [intOf] <;> omega
        · have hkb : (kd == 2) = false := by simp [hk2]
          rw [hkb] at hgi
          replace hgi : (wr.alloc (Obj.cells #[.int .i64 kd, .string nm] 29)).cell? ⟨g1, k, none⟩ = some (.bool true) := by simpa using hgi
          have HLEX := Aside0.mk (show LexOk (runD (L.take (k + 1))).1 lxs by have := HLEXG.out; rw [hkb, Bool.and_false] at this; exact this)
          have HLX := Aside0.mk (show lxs.length ≤ k + 1 by have := HLXL.out; omega)
          rw [h1] at HC1
          clear h1 hk3
          go_wp2_with fail
          (with_reducible refine HC1.out.mono ?_)
          rintro e w5 ⟨rfl, hw5⟩
          rw [hw5]
          clear hw5
          go_wp2
          obtain ⟨W, hW⟩ : ∃ W, W = wr.alloc (Obj.cells #[.int .i64 kd, .string nm] 29) := ⟨_, rfl⟩
          rw [← hW]
          have HR0_ := Rows.drew (show Rows w W _ from by rw [hW]; exact HRA.out)
          clear hW hgi
          refine start_ (n := 12) (S := fun w' => w'.cell? ⟨wr.heap.size, 1, none⟩ = some (.string nm)) (ds := []) #[false, false, false, false, false, false, false, false, false, false, false, false] (by kernel_rfl) rfl rfl (local_cell HR0_ rfl) (fun hHeld => ?_)
          refine pure_ (i := 0) (N := some 71) (v := ?_) (a' := ?_) #[true, false, false, false, false, false, false, false, false, false, false, false] rfl rfl (by kernel_rfl) (fun _ _ _ h => h) (Or.inl ⟨by rfl, ?_⟩) ?_ ?_
          rotate_left
          · intro w'
            go_simp
            with_reducible rfl
          rotate_left
          · simp only [Act.put, List.setIfInBounds_toArray, List.set_cons_zero, List.set_cons_succ, i64_w, i32_w]
            rfl
          refine pure_ (i := 1) (N := some 72) (v := ?_) (a' := ?_) #[true, true, false, false, false, false, false, false, false, false, false, false] rfl rfl (by kernel_rfl) (fun _ _ _ h => h) (Or.inl ⟨by rfl, ?_⟩) ?_ ?_
          rotate_left
          · intro w'
            go_simp
            with_reducible rfl
          rotate_left
          · simp only [Act.put, List.setIfInBounds_toArray, List.set_cons_zero, List.set_cons_succ, i64_w, i32_w]
            rfl
          refine take_ (i := 2) (N := some 73) (v := ?_) (a' := ?_) #[true, true, true, false, false, false, false, false, false, false, false, false] rfl rfl (by kernel_rfl) (fun _ _ _ h => h) (Or.inl ⟨by rfl, ?_⟩) hHeld ?_ ?_
          rotate_left
          · intro w' s0
            go_simp
            with_reducible rfl
          rotate_left
          · simp only [Act.put, List.setIfInBounds_toArray, List.set_cons_zero, List.set_cons_succ, i64_w, i32_w]
            rfl
          refine pure_ (i := 5) (N := some 76) (v := ?_) (a' := ?_) #[true, true, true, false, false, true, false, false, false, false, false, false] rfl rfl (by kernel_rfl) (fun _ _ _ h => h) (Or.inl ⟨by rfl, ?_⟩) ?_ ?_
          rotate_left
          · intro w'
            go_simp
            with_reducible rfl
          rotate_left
          · simp only [Act.put, List.setIfInBounds_toArray, List.set_cons_zero, List.set_cons_succ, i64_w, i32_w]
            rfl
          refine pure_ (i := 6) (N := some 77) (v := ?_) (a' := ?_) #[true, true, true, false, false, true, true, false, false, false, false, false] rfl rfl (by kernel_rfl) (fun _ _ _ h => h) (Or.inl ⟨by rfl, ?_⟩) ?_ ?_
          rotate_left
          · intro w'
            go_simp
            with_reducible rfl
          rotate_left
          · simp only [Act.put, List.setIfInBounds_toArray, List.set_cons_zero, List.set_cons_succ, i64_w, i32_w]
            rfl
          refine take_ (i := 7) (N := some 78) (v := ?_) (a' := ?_) #[true, true, true, false, false, true, true, true, false, false, false, false] rfl rfl (by kernel_rfl) (fun _ _ _ h => h) (Or.inl ⟨by rfl, ?_⟩) hHeld ?_ ?_
          rotate_left
          · intro w' s0
            go_simp
            with_reducible rfl
          rotate_left
          · simp only [Act.put, List.setIfInBounds_toArray, List.set_cons_zero, List.set_cons_succ, i64_w, i32_w]
            rfl
          refine two_ (i := 3) (j := 8) (Ni := some 74) (Nj := some 79) #[true, true, true, true, false, true, true, true, false, false, false, false] #[true, true, true, false, false, true, true, true, true, false, false, false] rfl rfl rfl rfl (by kernel_rfl) (by simp) (by simp) (fun K_ hK_ => ?_) (fun K_ hK_ => ?_)
          · skip
            refine value_ (w1 := ?_) (v := ?_) (by rfl) rfl ?_ ?_
            rotate_left 2
            · go_simp
              constructor
              · rfl
              · rfl
            have HR1_ := HR0_.new_ 9 [.string nm] 1 rfl (by decide) (W.heap.size) (rfl)
            refine hK_ _ (W.drew.alloc (.cells #[.string nm] 9)) (local_cell HR1_ rfl) (fun _ => ?_)
            refine norm_ (a' := ?_) ?_ ?_
            rotate_left
            · show Act.put _ (some 74) _ = _
              simp only [Act.put, List.setIfInBounds_toArray, List.set_cons_zero, List.set_cons_succ]
              rfl
            refine two_ (i := 4) (j := 8) (Ni := some 75) (Nj := some 79) #[true, true, true, true, true, true, true, true, false, false, false, false] #[true, true, true, true, false, true, true, true, true, false, false, false] rfl rfl rfl rfl (by kernel_rfl) (by simp) (by simp) (fun K_ hK_ => ?_) (fun K_ hK_ => ?_)
            · skip
              obtain ⟨va_, W2_, happ_, HR2_⟩ := HR1_.app Try.underlying25 infoStr rfl (by decide) (i := 2) (j := 6) rfl rfl HLEN.out rfl
              have HAP_ := Aside0.mk happ_
              refine ev_append (by rfl) (.tmp 71) (.tmp 74) 25 rfl rfl rfl HAP_.out ?_
              refine hK_ _ W2_ (local_cell HR2_ rfl) (fun _ => ?_)
              refine norm_ (a' := ?_) ?_ ?_
              rotate_left
              · show Act.put _ (some 75) _ = _
                simp only [Act.put, List.setIfInBounds_toArray, List.set_cons_zero, List.set_cons_succ]
                rfl
              refine one_ (i := 8) (N := some 79) #[true, true, true, true, true, true, true, true, true, false, false, false] rfl rfl (by kernel_rfl) (by simp) (fun K_ hK_ => ?_)
              refine value_ (w1 := ?_) (v := ?_) (by rfl) rfl ?_ ?_
              rotate_left 2
              · go_simp
                constructor
                · rfl
                · rfl
              have HR3_ := HR2_.new_ 9 [.string nm] 1 rfl (by decide) (W2_.heap.size) (rfl)
              refine hK_ _ (W2_.alloc (.cells #[.string nm] 9)) (local_cell HR3_ rfl) (fun _ => ?_)
              refine norm_ (a' := ?_) ?_ ?_
              rotate_left
              · show Act.put _ (some 79) _ = _
                simp only [Act.put, List.setIfInBounds_toArray, List.set_cons_zero, List.set_cons_succ]
                rfl
              refine one_ (i := 9) (N := some 80) #[true, true, true, true, true, true, true, true, true, true, false, false] rfl rfl (by kernel_rfl) (by simp) (fun K_ hK_ => ?_)
              obtain ⟨vb_, W4_, happ_, HR4_⟩ := HR3_.app Try.underlying25 infoStr rfl (by decide) (i := 4) (j := 7) rfl rfl HLEN.out rfl
              have HAP_ := Aside0.mk happ_
              refine ev_append (by rfl) (.tmp 76) (.tmp 79) 25 rfl rfl rfl HAP_.out ?_
              refine hK_ _ W4_ (local_cell HR4_ rfl) (fun _ => ?_)
              refine norm_ (a' := ?_) ?_ ?_
              rotate_left
              · show Act.put _ (some 80) _ = _
                simp only [Act.put, List.setIfInBounds_toArray, List.set_cons_zero, List.set_cons_succ]
                rfl
              refine pure_ (i := 10) (N := some 5) (v := ?_) (a' := ?_) #[true, true, true, true, true, true, true, true, true, true, true, false] rfl rfl (by kernel_rfl) (fun _ _ _ h => h) (Or.inl ⟨by rfl, ?_⟩) ?_ ?_
              rotate_left
              · intro w'
                go_simp
                with_reducible rfl
              rotate_left
              · simp only [Act.put, List.setIfInBounds_toArray, List.set_cons_zero, List.set_cons_succ, i64_w, i32_w]
                rfl
              refine pure_ (i := 11) (N := some 7) (v := ?_) (a' := ?_) #[true, true, true, true, true, true, true, true, true, true, true, true] rfl rfl (by kernel_rfl) (fun _ _ _ h => h) (Or.inl ⟨by rfl, ?_⟩) ?_ ?_
              rotate_left
              · intro w'
                go_simp
                with_reducible rfl
              rotate_left
              · simp only [Act.put, List.setIfInBounds_toArray, List.set_cons_zero, List.set_cons_succ, i64_w, i32_w]
                rfl
              refine done_ (by kernel_rfl) ?_
              have HF_ := Aside0.mk (show Rows w W4_ [⟨4, .slice (some ⟨g1, 0, none⟩) n cap1, (runD L).2.map Value.bool⟩, ⟨9, v2, ((runD L).1.map Prod.fst).map Value.string⟩, ⟨9, va_, ((L.take (k + 1)).map Dc.name).map Value.string⟩, ⟨9, .slice Al lxs.length cl, lxs.map Value.string⟩, ⟨9, vb_, ((L.take (k + 1)).map Dc.name).map Value.string⟩] from by rw [HTH.out, List.map_append]; exact HR4_.take_ 5 rfl)
              go_wp2
              go_roundw
              case rel => exact ⟨k + 1, lxs, by go_num, hlt, HLX.out, HF_, HLEX⟩
              case measure => simp [intOf] <;> omega
            · skip
              refine value_ (w1 := ?_) (v := ?_) (by rfl) rfl ?_ ?_
              rotate_left 2
              · go_simp
                constructor
                · rfl
                · rfl
              have HR5_ := HR1_.new_ 9 [.string nm] 1 rfl (by decide) (W.heap.size + 1) (by simp)
              refine hK_ _ ((W.drew.alloc (.cells #[.string nm] 9)).alloc (.cells #[.string nm] 9)) (local_cell HR5_ rfl) (fun _ => ?_)
              refine norm_ (a' := ?_) ?_ ?_
              rotate_left
              · show Act.put _ (some 79) _ = _
                simp only [Act.put, List.setIfInBounds_toArray, List.set_cons_zero, List.set_cons_succ]
                rfl
              refine one_ (i := 4) (N := some 75) #[true, true, true, true, true, true, true, true, true, false, false, false] rfl rfl (by kernel_rfl) (by simp) (fun K_ hK_ => ?_)
              obtain ⟨va_, W6_, happ_, HR6_⟩ := HR5_.app Try.underlying25 infoStr rfl (by decide) (i := 2) (j := 6) rfl rfl HLEN.out rfl
              have HAP_ := Aside0.mk happ_
              refine ev_append (by rfl) (.tmp 71) (.tmp 74) 25 rfl rfl rfl HAP_.out ?_
              refine hK_ _ W6_ (local_cell HR6_ rfl) (fun _ => ?_)
              refine norm_ (a' := ?_) ?_ ?_
              rotate_left
              · show Act.put _ (some 75) _ = _
                simp only [Act.put, List.setIfInBounds_toArray, List.set_cons_zero, List.set_cons_succ]
                rfl
              refine one_ (i := 9) (N := some 80) #[true, true, true, true, true, true, true, true, true, true, false, false] rfl rfl (by kernel_rfl) (by simp) (fun K_ hK_ => ?_)
              obtain ⟨vb_, W7_, happ_, HR7_⟩ := HR6_.app Try.underlying25 infoStr rfl (by decide) (i := 4) (j := 7) rfl rfl HLEN.out rfl
              have HAP_ := Aside0.mk happ_
              refine ev_append (by rfl) (.tmp 76) (.tmp 79) 25 rfl rfl rfl HAP_.out ?_
              refine hK_ _ W7_ (local_cell HR7_ rfl) (fun _ => ?_)
              refine norm_ (a' := ?_) ?_ ?_
              rotate_left
              · show Act.put _ (some 80) _ = _
                simp only [Act.put, List.setIfInBounds_toArray, List.set_cons_zero, List.set_cons_succ]
                rfl
              refine pure_ (i := 10) (N := some 5) (v := ?_) (a' := ?_) #[true, true, true, true, true, true, true, true, true, true, true, false] rfl rfl (by kernel_rfl) (fun _ _ _ h => h) (Or.inl ⟨by rfl, ?_⟩) ?_ ?_
              rotate_left
              · intro w'
                go_simp
                with_reducible rfl
              rotate_left
              · simp only [Act.put, List.setIfInBounds_toArray, List.set_cons_zero, List.set_cons_succ, i64_w, i32_w]
                rfl
              refine pure_ (i := 11) (N := some 7) (v := ?_) (a' := ?_) #[true, true, true, true, true, true, true, true, true, true, true, true] rfl rfl (by kernel_rfl) (fun _ _ _ h => h) (Or.inl ⟨by rfl, ?_⟩) ?_ ?_
              rotate_left
              · intro w'
                go_simp
                with_reducible rfl
              rotate_left
              · simp only [Act.put, List.setIfInBounds_toArray, List.set_cons_zero, List.set_cons_succ, i64_w, i32_w]
                rfl
              refine done_ (by kernel_rfl) ?_
              have HF_ := Aside0.mk (show Rows w W7_ [⟨4, .slice (some ⟨g1, 0, none⟩) n cap1, (runD L).2.map Value.bool⟩, ⟨9, v2, ((runD L).1.map Prod.fst).map Value.string⟩, ⟨9, va_, ((L.take (k + 1)).map Dc.name).map Value.string⟩, ⟨9, .slice Al lxs.length cl, lxs.map Value.string⟩, ⟨9, vb_, ((L.take (k + 1)).map Dc.name).map Value.string⟩] from by rw [HTH.out, List.map_append]; exact HR7_.take_ 5 rfl)
              go_wp2
              go_roundw
              case rel => exact ⟨k + 1, lxs, by go_num, hlt, HLX.out, HF_, HLEX⟩
              case measure => simp [intOf] <;> omega
          · skip
            refine value_ (w1 := ?_) (v := ?_) (by rfl) rfl ?_ ?_
            rotate_left 2
            · go_simp
              constructor
              · rfl
              · rfl
            have HR8_ := HR0_.new_ 9 [.string nm] 1 rfl (by decide) (W.heap.size) (rfl)
            refine hK_ _ (W.drew.alloc (.cells #[.string nm] 9)) (local_cell HR8_ rfl) (fun _ => ?_)
            refine norm_ (a' := ?_) ?_ ?_
            rotate_left
            · show Act.put _ (some 79) _ = _
              simp only [Act.put, List.setIfInBounds_toArray, List.set_cons_zero, List.set_cons_succ]
              rfl
            refine one_ (i := 3) (N := some 74) #[true, true, true, true, false, true, true, true, true, false, false, false] rfl rfl (by kernel_rfl) (by simp) (fun K_ hK_ => ?_)
            refine value_ (w1 := ?_) (v := ?_) (by rfl) rfl ?_ ?_
            rotate_left 2
            · go_simp
              constructor
              · rfl
              · rfl
            have HR9_ := HR8_.new_ 9 [.string nm] 1 rfl (by decide) (W.heap.size + 1) (by simp)
            refine hK_ _ ((W.drew.alloc (.cells #[.string nm] 9)).alloc (.cells #[.string nm] 9)) (local_cell HR9_ rfl) (fun _ => ?_)
            refine norm_ (a' := ?_) ?_ ?_
            rotate_left
            · show Act.put _ (some 74) _ = _
              simp only [Act.put, List.setIfInBounds_toArray, List.set_cons_zero, List.set_cons_succ]
              rfl
            refine one_ (i := 4) (N := some 75) #[true, true, true, true, true, true, true, true, true, false, false, false] rfl rfl (by kernel_rfl) (by simp) (fun K_ hK_ => ?_)
            obtain ⟨va_, W10_, happ_, HR10_⟩ := HR9_.app Try.underlying25 infoStr rfl (by decide) (i := 2) (j := 7) rfl rfl HLEN.out rfl
            have HAP_ := Aside0.mk happ_
            refine ev_append (by rfl) (.tmp 71) (.tmp 74) 25 rfl rfl rfl HAP_.out ?_
            refine hK_ _ W10_ (local_cell HR10_ rfl) (fun _ => ?_)
            refine norm_ (a' := ?_) ?_ ?_
            rotate_left
            · show Act.put _ (some 75) _ = _
              simp only [Act.put, List.setIfInBounds_toArray, List.set_cons_zero, List.set_cons_succ]
              rfl
            refine one_ (i := 9) (N := some 80) #[true, true, true, true, true, true, true, true, true, true, false, false] rfl rfl (by kernel_rfl) (by simp) (fun K_ hK_ => ?_)
            obtain ⟨vb_, W11_, happ_, HR11_⟩ := HR10_.app Try.underlying25 infoStr rfl (by decide) (i := 4) (j := 6) rfl rfl HLEN.out rfl
            have HAP_ := Aside0.mk happ_
            refine ev_append (by rfl) (.tmp 76) (.tmp 79) 25 rfl rfl rfl HAP_.out ?_
            refine hK_ _ W11_ (local_cell HR11_ rfl) (fun _ => ?_)
            refine norm_ (a' := ?_) ?_ ?_
            rotate_left
            · show Act.put _ (some 80) _ = _
              simp only [Act.put, List.setIfInBounds_toArray, List.set_cons_zero, List.set_cons_succ]
              rfl
            refine pure_ (i := 10) (N := some 5) (v := ?_) (a' := ?_) #[true, true, true, true, true, true, true, true, true, true, true, false] rfl rfl (by kernel_rfl) (fun _ _ _ h => h) (Or.inl ⟨by rfl, ?_⟩) ?_ ?_
            rotate_left
            · intro w'
              go_simp
              with_reducible rfl
            rotate_left
            · simp only [Act.put, List.setIfInBounds_toArray, List.set_cons_zero, List.set_cons_succ, i64_w, i32_w]
              rfl
            refine pure_ (i := 11) (N := some 7) (v := ?_) (a' := ?_) #[true, true, true, true, true, true, true, true, true, true, true, true] rfl rfl (by kernel_rfl) (fun _ _ _ h => h) (Or.inl ⟨by rfl, ?_⟩) ?_ ?_
            rotate_left
            · intro w'
              go_simp
              with_reducible rfl
            rotate_left
            · simp only [Act.put, List.setIfInBounds_toArray, List.set_cons_zero, List.set_cons_succ, i64_w, i32_w]
              rfl
            refine done_ (by kernel_rfl) ?_
            have HF_ := Aside0.mk (show Rows w W11_ [⟨4, .slice (some ⟨g1, 0, none⟩) n cap1, (runD L).2.map Value.bool⟩, ⟨9, v2, ((runD L).1.map Prod.fst).map Value.string⟩, ⟨9, va_, ((L.take (k + 1)).map Dc.name).map Value.string⟩, ⟨9, .slice Al lxs.length cl, lxs.map Value.string⟩, ⟨9, vb_, ((L.take (k + 1)).map Dc.name).map Value.string⟩] from by rw [HTH.out, List.map_append]; exact HR11_.take_ 5 rfl)
            go_wp2
            go_roundw
            case rel => exact ⟨k + 1, lxs, by go_num, hlt, HLX.out, HF_, HLEX⟩
            case measure => simp [intOf] <;> omega
    · obtain rfl : k = n := by omega
      have hthf : (L.take k).map Dc.name = L.map Dc.name := by rw [HN.out, List.take_of_length_le (Nat.le_refl _)]
      have hst : (L.take k) = L := by rw [HN.out, List.take_of_length_le (Nat.le_refl _)]
      have hth := there_take L k (by rw [HN.out]; exact Nat.le_refl _)
      rw [hst] at hth
      rw [hthf] at HR
      obtain ⟨Ad, cd, rfl, sd⟩ := (HR.out.at (i := 4) rfl).srow
      have hv2 := HV2.out
      subst hv2
      have s2 := HR.out.srow (i := 1) (A := A2) rfl
      have HSM := Aside0.mk (same_any wr A2 Ad _ _ cap2 cd s2 (by
        have h1 : ∀ j, j ≤ L.length → (runD (L.take j)).1.length ≤ j := fun j => by
          induction j with
          | zero => intro _; exact Nat.le_refl _
          | succ j ih =>
            intro hj
            rw [runD_snoc L j (by omega)]
            have := decl_len (runD (L.take j)).1 (kOf L[j].kind) L[j].name
            have := ih (by omega)
            show (declStep _ _ _).1.length ≤ _
            omega
        have := h1 k (by rw [HN.out]; exact Nat.le_refl _)
        rw [hst] at this
        rw [List.length_map]
        omega) sd (by rw [List.length_map, ← HN.out]; omega))
      rw [allIn_of (fun s hs => (hth s).2 hs), allIn_of (fun s hs => (hth s).1 hs)] at HSM
      obtain ⟨n2, hn2⟩ : ∃ y, y = ((runD L).1.map Prod.fst).length := ⟨_, rfl⟩
      obtain ⟨n3, hn3⟩ : ∃ y, y = (L.map Dc.name).length := ⟨_, rfl⟩
      rw [← hn2, ← hn3] at HSM
      rw [← hn2, ← hn3]
      have HBF := Aside0.mk HR.out.1
      clear hthf hst hth sd s2 hn2 hn3 hlt hk
      go_wp2_with fail
      (with_reducible refine HSM.out.mono ?_)
      rintro e w5 ⟨rfl, hw5⟩
      rw [hw5]
      clear hw5
      go_wp2
      go_ret
      exact ⟨rfl, HBF.out⟩
end Go.Proofs.Ytohfnhfpiipglaa.Own
