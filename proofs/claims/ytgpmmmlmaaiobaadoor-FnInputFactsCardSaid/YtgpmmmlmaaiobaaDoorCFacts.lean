/- The contract of InputFacts: a reader of selections over bytes, or over a text, tells these, how many there are, and whether it is at its end. -/
import Derived.Test.YtgpmmmlmaaiobaaDoorCInput
import Derived.Test.YtgpmmmlmaaiobaaDoorCEof
import Derived.Deep.RegionHeld3
namespace Go.Proofs.YtgpmmmlmaaiobaaDoor.Own
open Go.RowKit Go.Proofs.YtgpmmmlmaaiobaaDoorW.PrintWords Go.Proofs.YtgpmmmlmaaiobaaDoorW.PrintLast
set_option linter.unusedVariables false
set_option linter.unusedSimpArgs false
def BytesPost (dat : List Int) (w : World) (e : Ending) (w' : World) : Prop :=
  ∃ A nq, e = .returned (.slice A dat.length dat.length) ∧ ReadsInt w .u8 A dat.length dat ∧ w' = w.drewN nq
theorem in_bytes (gz base : Nat) (p s : Int) (dat : List Int) (w : World) (h : InAt w base gz dat p s) (hl : dat.length < 35184372088832) :
    Calls Tryd.prog 25 #[.pointer (some ⟨gz, 0, none⟩)] w (BytesPost dat w) := by
  obtain ⟨h1, h2, h3, g, cap, h4, h5, h6, h7, _, h8, _⟩ := in_cells h
  have HR : Aside0 (ReadsInt w .u8 (some ⟨g, 0, none⟩) dat.length dat) := ⟨by
    have := reads_cut (w5 := w) (A := some ⟨g, 0, none⟩) (g := g) (p := dat.length) (s := 0) (dat := dat) (fun _ => rfl) h8 (Nat.zero_le _) (Nat.le_refl _) hl
    simpa using this⟩
  have hmx : maxLen = 9223372036854775807 := rfl
  clear h h3 h8 h1 h2
  generalize hn : dat.length = n at *
  have e0 : (((n + 1 : Nat) : Int) - 1) = (n : Int) := by omega
  have e1 : wrap64 (((n + 1 : Nat) : Int) - 1) = (n : Int) := by unfold wrap64; omega
  have e2 : IntKind.i64.wrap (((n + 1 : Nat) : Int) - 1) = (n : Int) := by rw [← i64_w] at e1; exact e1
  have e3 : wrap64 ((n : Int) + 1 - 1) = (n : Int) := by unfold wrap64; omega
  have e4 : IntKind.i64.wrap ((n : Int) + 1 - 1) = (n : Int) := by rw [← i64_w] at e3; exact e3
  go_enter Tryd.func25, Tryd.ntmps25
  go_wp2
  go_quiet (fail)
  all_goals go_wp2
  all_goals go_ret
  all_goals exact ⟨_, nq, by rw [hn]; rfl, by rw [hn]; exact HR.out, rfl⟩
theorem in_len (gz base : Nat) (p s : Int) (dat : List Int) (w : World) (h : InAt w base gz dat p s) (hl : dat.length < 35184372088832) :
    Calls Tryd.prog 26 #[.pointer (some ⟨gz, 0, none⟩)] w fun e w' => e = .returned (.int .i64 (dat.length : Int)) ∧ w = w' := by
  obtain ⟨h1, h2, h3, g, cap, h4, h5, h6, h7, _, h8, _⟩ := in_cells h
  clear h h3 h8 h1 h2
  generalize hn : dat.length = n at *
  have e1 : wrap64 (((n + 1 : Nat) : Int) - 1) = (n : Int) := by unfold wrap64; omega
  have e3 : wrap64 ((n : Int) + 1 - 1) = (n : Int) := by unfold wrap64; omega
  go_enter Tryd.func26, Tryd.ntmps26
  go_wp2
  go_ret
  simp [e1, e3]
/-- What tells the end. -/
def endV (n : Nat) (u : TypeId) (ev : Value) : Value := if n = 0 then .iface u ev else .nilIface
def ErrPost (dat : List Int) (u : TypeId) (ev : Value) (w : World) (e : Ending) (w' : World) : Prop :=
  e = .returned (endV dat.length u ev) ∧ ∃ nq, w' = w.drewN nq
theorem in_cell3 {w : World} {base gz : Nat} {dat : List Int} {pos start : Int} (h : InAt w base gz dat pos start) : w.cell? ⟨gz, 3, none⟩ = some .nilIface := by
  obtain ⟨g, cap, rst, cur, fr, h1, _⟩ := h
  simp only [World.cell?, h1]; rfl
theorem in_peekerr (gz base : Nat) (dat : List Int) (w : World) (u : TypeId) (ev : Value) (hE : w.cell? ⟨0, 0, none⟩ = some (.iface u ev)) (h : InAt w base gz dat 0 0) (hl : dat.length < 35184372088832) :
    Calls Tryd.prog 47 #[.pointer (some ⟨gz, 0, none⟩), .int .i64 0] w (ErrPost dat u ev w) := by
  obtain ⟨h1, h2, h3, g, cap, h4, h5, h6, h7, _, h8, _⟩ := in_cells h
  have h9 := in_cell3 h
  clear h h3 h8 h2
  generalize hn : dat.length = n at *
  have e1 : wrap64 (((n + 1 : Nat) : Int) - 1) = (n : Int) := by unfold wrap64; omega
  have e2 : IntKind.i64.wrap (((n + 1 : Nat) : Int) - 1) = (n : Int) := by rw [← i64_w] at e1; exact e1
  have e3 : wrap64 ((n : Int) + 1 - 1) = (n : Int) := by unfold wrap64; omega
  have e4 : IntKind.i64.wrap ((n : Int) + 1 - 1) = (n : Int) := by rw [← i64_w] at e3; exact e3
  rcases Nat.eq_zero_or_pos n with h0 | h0
  · subst h0
    go_enter Tryd.func47, Tryd.ntmps47
    go_wp2
    go_quiet (fail)
    all_goals go_wp2
    all_goals go_ret
    all_goals exact ⟨by rw [hn]; rfl, nq, rfl⟩
  · have hd : decide ((n : Int) ≤ 0) = false := decide_eq_false (by omega)
    have hd2 : n ≠ 0 := by omega
    go_enter Tryd.func47, Tryd.ntmps47
    go_wp2
    go_quiet (fail)
    all_goals go_wp2
    all_goals go_ret
    all_goals exact ⟨by unfold endV; rw [if_neg (by omega)]; rfl, nq, rfl⟩
theorem in_err (gz base : Nat) (dat : List Int) (w : World) (u : TypeId) (ev : Value) (hE : w.cell? ⟨0, 0, none⟩ = some (.iface u ev)) (h : InAt w base gz dat 0 0) (hl : dat.length < 35184372088832) :
    Calls Tryd.prog 27 #[.pointer (some ⟨gz, 0, none⟩)] w (ErrPost dat u ev w) := by
  go_enter Tryd.func27, Tryd.ntmps27
  go_wp2_with (go_at_call 47; (with_reducible refine (in_peekerr gz base dat w u ev hE h hl).mono ?_); rintro e w' ⟨rfl, hw⟩)
  go_ret
  exact ⟨rfl, hw⟩
theorem bytesRow_eq (b : ByteArray) (cap : Nat) : bytesRow b cap = (u8i (bytesOf b ++ List.replicate (cap - b.size) 0)).toArray := by
  apply Array.ext'
  simp [bytesRow, u8i, bytesOf]
theorem bytesOf_len (b : ByteArray) : (bytesOf b).length = b.size := by unfold bytesOf; rw [List.length_map, Array.length_toList]; rfl
theorem in_newstring (b : ByteArray) (w : World) (hb : b.size < 35184372088832) :
    Calls Tryd.prog 24 #[.string b] w fun e w' => ∃ gz, e = .returned (.pointer (some ⟨gz, 0, none⟩)) ∧ InAt w' w.heap.size gz (bytesOf b) 0 0 ∧ Below w.heap.size w w' := by
  have hconv : ∀ W : World, (convert 9 22 (.string b)).run Tryd.prog W = .ok (.slice (some ⟨W.heap.size, 0, none⟩) b.size (grownCap W b.size 0 5)) (W.drew.alloc (.cells (bytesRow b (grownCap W b.size 0 5)) 5 ((bytesRow b (grownCap W b.size 0 5)).size, (bytesRow b (grownCap W b.size 0 5)).size + 1))) :=
    fun W => run_bytes_of_string (P := Tryd.prog) W 9 22 5 b Tryd.underlying9 Tryd.underlying22 Tryd.underlying5
  obtain ⟨cap, hcap⟩ : ∃ cap, cap = grownCap w b.size 0 5 := ⟨_, rfl⟩
  have hge : b.size ≤ cap := by rw [hcap]; exact grownCap_ge _ _ _ _
  have hle : cap ≤ maxLen := by rw [hcap]; exact grownCap_le_maxLen _ _ _ _ (by have : maxLen = 9223372036854775807 := rfl; omega)
  have hlen := bytesOf_len b
  go_enter Tryd.func24, Tryd.ntmps24
  go_wp2_with fail
  rw [← hcap]
  generalize hW : World.drew _ = W
  have hh : W.heap[w.heap.size]? = some (.cells (bytesRow b cap) 5 ((bytesRow b cap).size, (bytesRow b cap).size + 1)) := by
    rw [← hW]; exact al_eq rfl
  have hB : Below w.heap.size w W := by rw [← hW]; exact ((Below.refl w.heap.size w).alloc (Nat.le_refl _) _).drew
  have hBs : w.heap.size ≤ W.heap.size := hB.size
  have hsz : (bytesRow b cap).size = cap := by rw [bytesRow_eq, List.size_toArray]; unfold u8i; rw [List.length_map, List.length_append, hlen, List.length_replicate]; omega
  have hO : OwnAt W w.heap.size w.heap.size cap (bytesOf b) := ⟨List.replicate (cap - b.size) 0, _, Nat.le_refl _, by rw [hh, bytesRow_eq], by rw [List.length_append, hlen, List.length_replicate]; omega, hle, fun j hj => by simp only [World.frozen?, hh]; rw [hsz]; simp only [Bool.and_eq_false_iff, decide_eq_false_iff_not]; omega⟩
  have key : Calls Tryd.prog 23 #[.slice (some ⟨w.heap.size, 0, none⟩) b.size cap] W fun e w' => ∃ gz, e = .returned (.pointer (some ⟨gz, 0, none⟩)) ∧ InAt w' w.heap.size gz (bytesOf b) 0 0 ∧ Below w.heap.size W w' := by
    rcases Nat.eq_zero_or_pos b.size with h0 | h0
    · have e : bytesOf b = [] := List.eq_nil_of_length_eq_zero (by omega)
      rw [e, h0]
      exact newinput_none _ W w.heap.size hBs ⟨_, _, rfl⟩
    · rcases Nat.eq_or_lt_of_le hge with hc | hc
      · subst hc
        exact newinput_full _ b.size w.heap.size (bytesOf b) W hO hlen.symm hBs hb h0
      · exact newinput_room _ cap b.size w.heap.size (bytesOf b) W hO hlen.symm hBs hb h0 hc
  have HB := Aside0.mk hB
  have HK := Aside0.mk key
  clear hh hB hBs hsz hO key hconv hW hge hle hlen
  go_wp2_with (go_at_call 23; (with_reducible refine HK.out.mono ?_); rintro e w' ⟨gz, rfl, hi, hb2⟩; have HI := Aside0.mk hi; have HB2 := Aside0.mk hb2; clear hi hb2)
  go_ret
  exact ⟨gz, rfl, HI.out, HB.out.trans HB2.out⟩
theorem infoEP : (Tryd.prog.info? 102).map (·.comparable) = some true := by kernel_rfl
theorem infoES : (Tryd.prog.info? 119).isSome = true := by kernel_rfl
theorem eqEnd (n : Nat) (a : Addr) (W : World) : (binOp .eql 53 (endV n 102 (.pointer (some a))) (.iface 102 (.pointer (some a)))).run Tryd.prog W = .ok (.bool (decide (n = 0))) W := by
  obtain ⟨i, hi, hc⟩ := Option.map_eq_some_iff.1 infoEP
  obtain ⟨j, hj⟩ := Option.isSome_iff_exists.1 infoES
  unfold endV
  by_cases h : n = 0
  · rw [if_pos h, decide_eq_true h]
    exact run_eql_iface_ptr_same W a Tryd.underlying53 Tryd.underlying102 hi hc hj
  · rw [if_neg h, decide_eq_false h]
    exact run_eql_iface_nil_left W _ _ Tryd.underlying53
theorem guardEnd (n : Nat) (a : Addr) (x y : Operand) : eqGuard .eql 53 x y (endV n 102 (.pointer (some a))) (.iface 102 (.pointer (some a))) = pure () := by
  unfold endV
  split
  · rfl
  · rfl
theorem InAt.lower {w : World} {base base' gz : Nat} {dat : List Int} {pos start : Int} (h : InAt w base gz dat pos start) (hb : base' ≤ base) : InAt w base' gz dat pos start := by
  obtain ⟨g, cap, rst, cur, fr, h1, h2, h3, h4⟩ := h
  exact ⟨g, cap, rst, cur, fr, h1, by omega, by omega, h4⟩
/-- What stays while a reader is only read. -/
def FS (base gz g : Nat) (dat : List Int) (w0 w : World) : Prop := InAt w base gz dat 0 0 ∧ (∃ n c, w.cell? ⟨gz, 0, none⟩ = some (.slice (some ⟨g, 0, none⟩) n c)) ∧ Below base w0 w ∧ base ≤ w.heap.size
theorem FS.start {base gz : Nat} {dat : List Int} {w0 w : World} (h : InAt w base gz dat 0 0) (hb : Below base w0 w) (hs : base ≤ w.heap.size) : ∃ g, FS base gz g dat w0 w := by
  obtain ⟨_, _, _, g, cap, h4, _⟩ := in_cells h
  exact ⟨g, h, ⟨_, _, h4⟩, hb, hs⟩
theorem FS.below {base gz g : Nat} {dat : List Int} {w0 w w' : World} (h : FS base gz g dat w0 w) (hb : Below w.heap.size w w') : FS base gz g dat w0 w' := by
  obtain ⟨h1, ⟨n, c, h2⟩, h3, h4⟩ := h
  exact ⟨h1.below hb, ⟨n, c, pw_cell_below hb h2⟩, below_then h3 h4 hb, Nat.le_trans h4 hb.size⟩
theorem FS.bytes {base gz g : Nat} {dat : List Int} {w0 w : World} (h : FS base gz g dat w0 w) (hl : dat.length < 35184372088832) :
    Calls Tryd.prog 25 #[.pointer (some ⟨gz, 0, none⟩)] w fun e w' => e = .returned (.slice (some ⟨g, 0, none⟩) dat.length dat.length) ∧ ∃ nq, w' = w.drewN nq := by
  obtain ⟨h, ⟨n', c', hg⟩, _⟩ := h
  obtain ⟨h1, h2, h3, g', cap, h4, h5, h6, h7, _, h8, _⟩ := in_cells h
  obtain rfl : g' = g := by rw [h4] at hg; cases hg; rfl
  have hmx : maxLen = 9223372036854775807 := rfl
  clear h h3 h8 h1 h2 hg
  generalize hn : dat.length = n at *
  have e0 : (((n + 1 : Nat) : Int) - 1) = (n : Int) := by omega
  have e1 : wrap64 (((n + 1 : Nat) : Int) - 1) = (n : Int) := by unfold wrap64; omega
  have e2 : IntKind.i64.wrap (((n + 1 : Nat) : Int) - 1) = (n : Int) := by rw [← i64_w] at e1; exact e1
  have e3 : wrap64 ((n : Int) + 1 - 1) = (n : Int) := by unfold wrap64; omega
  have e4 : IntKind.i64.wrap ((n : Int) + 1 - 1) = (n : Int) := by rw [← i64_w] at e3; exact e3
  go_enter Tryd.func25, Tryd.ntmps25
  go_wp2
  go_quiet (fail)
  all_goals go_wp2
  all_goals go_ret
  all_goals exact ⟨rfl, nq, rfl⟩
theorem FS.reads {base gz g : Nat} {dat : List Int} {w0 w : World} (h : FS base gz g dat w0 w) (hl : dat.length < 35184372088832) : Kd.C (Kd.int .u8) w (some ⟨g, 0, none⟩) dat.length dat := by
  obtain ⟨h, ⟨n', c', hg⟩, _⟩ := h
  obtain ⟨h1, h2, h3, g', cap, h4, h5, h6, h7, _, h8, _⟩ := in_cells h
  obtain rfl : g' = g := by rw [h4] at hg; cases hg; rfl
  have := reads_cut (w5 := w) (A := some ⟨g', 0, none⟩) (g := g') (p := dat.length) (s := 0) (dat := dat) (fun _ => rfl) h8 (Nat.zero_le _) (Nat.le_refl _) hl
  have h' : ReadsInt w .u8 (some ⟨g', 0, none⟩) dat.length dat := by simpa using this
  exact Kd.C_of_reads (d := (0 : Int)) (h1 := fun _ => rfl) h'
theorem back_bytes {l : List Int} (h : ∀ x ∈ l, 0 ≤ x ∧ x ≤ 255) : bytesOf (strOfNums l) = l := by
  unfold bytesOf strOfNums
  simp only [List.map_map]
  refine (List.map_congr_left (g := id) fun x hx => ?_).trans (List.map_id _)
  have := h x hx
  simp
  omega
def impl_InputFacts.f (l0 : List Int) (a1 : Bool) : Option (List Int × Int × Bool) :=
  if l0.length < 35184372088832 ∧ (l0.all fun x => decide (0 ≤ x ∧ x ≤ 255)) = true then some (l0, (l0.length : Int), decide (l0.length = 0)) else none
set_option maxRecDepth 20000 in
set_option maxHeartbeats 2000000 in
theorem impl_InputFacts.calls (A0 : Option Addr) (c0 : Nat) (l0 : List Int) (a1 : Bool) (r1 : List Int) (r2 : Int) (r3 : Bool) (w : World) (hr0 : Kd.C (Kd.int .u8) w A0 l0.length l0) (hc0 : l0.length ≤ c0) (h : impl_InputFacts.f l0 a1 = some (r1, r2, r3)) (HTabE : Aside0 (TabE w)) :
    Calls Tryd.prog 12 #[.slice A0 l0.length c0, .bool a1] w fun e w' => ∃ v0_ : Value, e = .returned (.tuple #[v0_, .int .i64 r2, .bool r3]) ∧ Kd.R (Kd.int .u8) 5 w' w.heap.size (fun _ => True) v0_ r1 ∧ Below w.heap.size w w' := by
  unfold impl_InputFacts.f at h
  split at h
  case isFalse => cases h
  case isTrue hl =>
  have h := Option.some.inj h
  injection h with e1 h
  injection h with e2 e3
  subst e1 e2 e3
  obtain ⟨hl1, hl2⟩ := hl
  have hbk : bytesOf (strOfNums l0) = l0 := back_bytes (fun x hx => of_decide_eq_true (List.all_eq_true.1 hl2 x hx))
  have hconv : ∀ W : World, Below w.heap.size w W → (convert 22 9 (.slice A0 l0.length c0)).run Tryd.prog W = .ok (.string (strOfNums l0)) W := fun W hW => Kd.C_string (c := c0) Tryd.underlying22 Tryd.underlying5 Tryd.underlying9 (Kd.C_below hr0 hW)
  obtain ⟨ae, hE⟩ := HTabE.out
  have HO := Aside0.mk (show impl_own.f l0 = some l0 from by simp [impl_own.f] <;> omega)
  have HL := Aside0.mk hl1
  have HR0 := Aside0.mk hr0
  have HC0 := Aside0.mk hc0
  have HBK := Aside0.mk hbk
  have HCV := Aside0.mk hconv
  have HE := Aside0.mk hE
  have hss : (strOfNums l0).size = l0.length := by have := bytesOf_len (strOfNums l0); rw [hbk] at this; exact this.symm
  have HSS := Aside0.mk hss
  clear hl1 hl2 hr0 hc0 hbk hconv hE HTabE hss
  have HE1 : Aside0 (∀ {gz g : Nat} (W : World), FS w.heap.size gz g l0 w W → W.cell? ⟨0, 0, none⟩ = some (.iface 102 (.pointer (some ae)))) := ⟨fun W hW => pw_cell_below hW.2.2.1 HE.out⟩
  cases a1
  case false =>
    go_enter Tryd.func12, Tryd.ntmps12
    go_wp2_with (go_at_call 21; (with_reducible refine (own_fresh _ _ l0 _ HR0.out HC0.out HL.out).mono ?_); rintro e w1 ⟨v1, rfl, hb1, hn1⟩; have HN := Aside0.mk hn1; have HB1 := Aside0.mk hb1; clear hn1 hb1)
    go_wp2_with (go_at_call 23; (with_reducible refine HN.out.mono ?_); rintro e wB ⟨gz, rfl, hi, hb2⟩; have HB := Aside0.mk (HB1.out.trans hb2); have HI := Aside0.mk hi; clear hi hb2)
    clear HN HB1
    obtain ⟨g, hF⟩ := FS.start HI.out HB.out HB.out.size
    have HF := Aside0.mk hF
    clear hF HI HB
    go_wp2_with fail
    have hEq := eqEnd l0.length ae
    have hGd := guardEnd l0.length ae
    obtain ⟨bz, hbz⟩ : ∃ b, b = decide (l0.length = 0) := ⟨_, rfl⟩
    rw [← hbz] at hEq
    have HBZ := Aside0.mk hbz
    clear hbz
    refine start_ (n := 12) (S := fun w' => w'.cell? ⟨0, 0, none⟩ = some (.iface 102 (.pointer (some ae)))) (ds := []) #[false, false, false, false, false, false, false, false, false, false, false, false] (by kernel_rfl) rfl rfl (pw_cell_below (below_drew (Below.refl _ _)) (HE1.out _ HF.out)) (fun hHeld => ?_)
    refine pure_ (i := 0) (N := (some 15)) (v := ?_) (a' := ?_) #[true, false, false, false, false, false, false, false, false, false, false, false] rfl rfl (by kernel_rfl) (fun _ _ _ h => h) (Or.inl ⟨by rfl, ?_⟩) ?_ ?_
    rotate_left
    · intro w'
      go_simp
      with_reducible rfl
    rotate_left
    · simp only [Act.put, List.setIfInBounds_toArray, List.set_cons_zero, List.set_cons_succ, i64_w, i32_w]
      rfl
    refine pure_ (i := 3) (N := (some 18)) (v := ?_) (a' := ?_) #[true, false, false, true, false, false, false, false, false, false, false, false] rfl rfl (by kernel_rfl) (fun _ _ _ h => h) (Or.inl ⟨by rfl, ?_⟩) ?_ ?_
    rotate_left
    · intro w'
      go_simp
      with_reducible rfl
    rotate_left
    · simp only [Act.put, List.setIfInBounds_toArray, List.set_cons_zero, List.set_cons_succ, i64_w, i32_w]
      rfl
    refine pure_ (i := 5) (N := (some 20)) (v := ?_) (a' := ?_) #[true, false, false, true, false, true, false, false, false, false, false, false] rfl rfl (by kernel_rfl) (fun _ _ _ h => h) (Or.inl ⟨by rfl, ?_⟩) ?_ ?_
    rotate_left
    · intro w'
      go_simp
      with_reducible rfl
    rotate_left
    · simp only [Act.put, List.setIfInBounds_toArray, List.set_cons_zero, List.set_cons_succ, i64_w, i32_w]
      rfl
    refine take_ (i := 7) (N := (some 22)) (v := ?_) (a' := ?_) #[true, false, false, true, false, true, false, true, false, false, false, false] rfl rfl (by kernel_rfl) (fun _ _ _ h => h) (Or.inl ⟨by rfl, ?_⟩) hHeld ?_ ?_
    rotate_left
    · intro w' s0
      go_simp
      with_reducible rfl
    rotate_left
    · simp only [Act.put, List.setIfInBounds_toArray, List.set_cons_zero, List.set_cons_succ, i64_w, i32_w]
      rfl
    refine one_ (i := 1) (N := (some 16)) #[true, true, false, true, false, true, false, true, false, false, false, false] rfl rfl (by kernel_rfl) (by simp) (fun K_ hK_ => ?_)
    refine goes_ Tryd.func25 (by kernel_rfl) rfl #[.pointer (some ⟨gz, 0, none⟩)] (by rfl) rfl rfl (by simp only [List.map_toArray, List.map_cons, List.map_nil]; rfl) ?_
    refine (FS.bytes (HF.out.below (below_drew (Below.refl _ _))) HL.out).mono ?_
    rintro e wa ⟨rfl, ⟨nq1, hwa⟩⟩
    have HFa := Aside0.mk ((HF.out.below (below_drew (Below.refl _ _))).below (show Below _ _ wa from by rw [hwa]; exact pw_below_drewN (Below.refl _ _) nq1))
    have HEa := Aside0.mk (HE1.out wa HFa.out)
    clear hwa
    refine ⟨_, rfl, ?_⟩
    refine hK_ _ _ HEa.out (fun _ => ?_)
    refine one_ (i := 2) (N := (some 17)) #[true, true, true, true, false, true, false, true, false, false, false, false] rfl rfl (by kernel_rfl) (by simp) (fun K_ hK_ => ?_)
    refine goes_ Tryd.func21 (by kernel_rfl) rfl #[.slice (some ⟨g, 0, none⟩) l0.length l0.length] (by rfl) rfl rfl (by simp only [List.map_toArray, List.map_cons, List.map_nil]; rfl) ?_
    refine (impl_own.calls _ _ l0 l0 _ (FS.reads HFa.out HL.out) (Nat.le_refl _) HO.out).mono ?_
    rintro e wb ⟨v, rfl, hv, hb⟩
    have HV := Aside0.mk (Kd.R_lower hv HFa.out.2.2.2)
    have HFb := Aside0.mk (HFa.out.below hb)
    have HEb := Aside0.mk (HE1.out wb HFb.out)
    clear hv hb
    refine ⟨_, rfl, ?_⟩
    refine hK_ _ _ HEb.out (fun _ => ?_)
    refine one_ (i := 4) (N := (some 19)) #[true, true, true, true, true, true, false, true, false, false, false, false] rfl rfl (by kernel_rfl) (by simp) (fun K_ hK_ => ?_)
    refine goes_ Tryd.func26 (by kernel_rfl) rfl #[.pointer (some ⟨gz, 0, none⟩)] (by rfl) rfl rfl (by simp only [List.map_toArray, List.map_cons, List.map_nil]; rfl) ?_
    refine (in_len gz w.heap.size 0 0 l0 _ HFb.out.1 HL.out).mono ?_
    rintro e wc ⟨rfl, hwc⟩
    subst hwc
    refine ⟨_, rfl, ?_⟩
    refine hK_ _ _ HEb.out (fun _ => ?_)
    refine one_ (i := 6) (N := (some 21)) #[true, true, true, true, true, true, true, true, false, false, false, false] rfl rfl (by kernel_rfl) (by simp) (fun K_ hK_ => ?_)
    refine goes_ Tryd.func27 (by kernel_rfl) rfl #[.pointer (some ⟨gz, 0, none⟩)] (by rfl) rfl rfl (by simp only [List.map_toArray, List.map_cons, List.map_nil]; rfl) ?_
    refine (in_err gz w.heap.size l0 _ 102 (.pointer (some ae)) HEb.out HFb.out.1 HL.out).mono ?_
    rintro e wd ⟨rfl, ⟨nq4, hwd⟩⟩
    have HBd := Aside0.mk (show Below wb.heap.size wb wd from by rw [hwd]; exact pw_below_drewN (Below.refl _ _) nq4)
    clear hwd
    have HEd := Aside0.mk (pw_cell_below HBd.out HEb.out)
    refine ⟨_, rfl, ?_⟩
    refine hK_ _ _ HEd.out (fun _ => ?_)
    refine pure_ (i := 8) (N := (some 23)) (v := ?_) (a' := ?_) #[true, true, true, true, true, true, true, true, true, false, false, false] rfl rfl (by kernel_rfl) (fun _ _ _ h => h) (Or.inl ⟨by rfl, ?_⟩) ?_ ?_
    rotate_left
    · intro w'
      go_simp
      with_reducible rfl
    rotate_left
    · simp only [Act.put, List.setIfInBounds_toArray, List.set_cons_zero, List.set_cons_succ, i64_w, i32_w]
      rfl
    refine pure_ (i := 9) (N := (some 4)) (v := ?_) (a' := ?_) #[true, true, true, true, true, true, true, true, true, true, false, false] rfl rfl (by kernel_rfl) (fun _ _ _ h => h) (Or.inl ⟨by rfl, ?_⟩) ?_ ?_
    rotate_left
    · intro w'
      go_simp
      with_reducible rfl
    rotate_left
    · simp only [Act.put, List.setIfInBounds_toArray, List.set_cons_zero, List.set_cons_succ, i64_w, i32_w]
      rfl
    refine pure_ (i := 10) (N := (some 5)) (v := ?_) (a' := ?_) #[true, true, true, true, true, true, true, true, true, true, true, false] rfl rfl (by kernel_rfl) (fun _ _ _ h => h) (Or.inl ⟨by rfl, ?_⟩) ?_ ?_
    rotate_left
    · intro w'
      go_simp
      with_reducible rfl
    rotate_left
    · simp only [Act.put, List.setIfInBounds_toArray, List.set_cons_zero, List.set_cons_succ, i64_w, i32_w]
      rfl
    refine pure_ (i := 11) (N := (some 6)) (v := ?_) (a' := ?_) #[true, true, true, true, true, true, true, true, true, true, true, true] rfl rfl (by kernel_rfl) (fun _ _ _ h => h) (Or.inl ⟨by rfl, ?_⟩) ?_ ?_
    rotate_left
    · intro w'
      go_simp
      with_reducible rfl
    rotate_left
    · simp only [Act.put, List.setIfInBounds_toArray, List.set_cons_zero, List.set_cons_succ, i64_w, i32_w]
      rfl
    refine done_ (by kernel_rfl) ?_
    go_wp2
    go_ret3
    exact ⟨_, by rw [HBZ.out]; rfl, Kd.R_below HV.out HBd.out, below_then HFb.out.2.2.1 HFb.out.2.2.2 HBd.out⟩
  case true =>
    go_enter Tryd.func12, Tryd.ntmps12
    go_wp2_with (go_at_call 21; (with_reducible refine (own_fresh _ _ l0 _ HR0.out HC0.out HL.out).mono ?_); rintro e w1 ⟨v1, rfl, hb1, hn1⟩; have HN := Aside0.mk hn1; have HB1 := Aside0.mk hb1; clear hn1 hb1)
    go_wp2_with (go_at_call 23; (with_reducible refine HN.out.mono ?_); rintro e wB ⟨gz0, rfl, hi, hb2⟩; have HB0 := Aside0.mk (HB1.out.trans hb2); clear hi hb2)
    clear HN HB1
    have hcv := HCV.out wB HB0.out
    go_wp2_with fail
    rw [hcv]
    go_wp2_with fail
    (with_reducible refine (in_newstring (strOfNums l0) wB (by rw [HSS.out]; exact HL.out)).mono ?_)
    rintro e wS ⟨gz, rfl, hi, hb2⟩
    rw [HBK.out] at hi
    have HI := Aside0.mk (hi.lower HB0.out.size)
    have HB := Aside0.mk (below_then HB0.out HB0.out.size hb2)
    clear hi hb2
    clear hcv HB0
    obtain ⟨g, hF⟩ := FS.start HI.out HB.out HB.out.size
    have HF := Aside0.mk hF
    clear hF HI HB
    go_wp2_with fail
    have hEq := eqEnd l0.length ae
    have hGd := guardEnd l0.length ae
    obtain ⟨bz, hbz⟩ : ∃ b, b = decide (l0.length = 0) := ⟨_, rfl⟩
    rw [← hbz] at hEq
    have HBZ := Aside0.mk hbz
    clear hbz
    refine start_ (n := 12) (S := fun w' => w'.cell? ⟨0, 0, none⟩ = some (.iface 102 (.pointer (some ae)))) (ds := []) #[false, false, false, false, false, false, false, false, false, false, false, false] (by kernel_rfl) rfl rfl (pw_cell_below (below_drew (Below.refl _ _)) (HE1.out _ HF.out)) (fun hHeld => ?_)
    refine pure_ (i := 0) (N := (some 15)) (v := ?_) (a' := ?_) #[true, false, false, false, false, false, false, false, false, false, false, false] rfl rfl (by kernel_rfl) (fun _ _ _ h => h) (Or.inl ⟨by rfl, ?_⟩) ?_ ?_
    rotate_left
    · intro w'
      go_simp
      with_reducible rfl
    rotate_left
    · simp only [Act.put, List.setIfInBounds_toArray, List.set_cons_zero, List.set_cons_succ, i64_w, i32_w]
      rfl
    refine pure_ (i := 3) (N := (some 18)) (v := ?_) (a' := ?_) #[true, false, false, true, false, false, false, false, false, false, false, false] rfl rfl (by kernel_rfl) (fun _ _ _ h => h) (Or.inl ⟨by rfl, ?_⟩) ?_ ?_
    rotate_left
    · intro w'
      go_simp
      with_reducible rfl
    rotate_left
    · simp only [Act.put, List.setIfInBounds_toArray, List.set_cons_zero, List.set_cons_succ, i64_w, i32_w]
      rfl
    refine pure_ (i := 5) (N := (some 20)) (v := ?_) (a' := ?_) #[true, false, false, true, false, true, false, false, false, false, false, false] rfl rfl (by kernel_rfl) (fun _ _ _ h => h) (Or.inl ⟨by rfl, ?_⟩) ?_ ?_
    rotate_left
    · intro w'
      go_simp
      with_reducible rfl
    rotate_left
    · simp only [Act.put, List.setIfInBounds_toArray, List.set_cons_zero, List.set_cons_succ, i64_w, i32_w]
      rfl
    refine take_ (i := 7) (N := (some 22)) (v := ?_) (a' := ?_) #[true, false, false, true, false, true, false, true, false, false, false, false] rfl rfl (by kernel_rfl) (fun _ _ _ h => h) (Or.inl ⟨by rfl, ?_⟩) hHeld ?_ ?_
    rotate_left
    · intro w' s0
      go_simp
      with_reducible rfl
    rotate_left
    · simp only [Act.put, List.setIfInBounds_toArray, List.set_cons_zero, List.set_cons_succ, i64_w, i32_w]
      rfl
    refine one_ (i := 1) (N := (some 16)) #[true, true, false, true, false, true, false, true, false, false, false, false] rfl rfl (by kernel_rfl) (by simp) (fun K_ hK_ => ?_)
    refine goes_ Tryd.func25 (by kernel_rfl) rfl #[.pointer (some ⟨gz, 0, none⟩)] (by rfl) rfl rfl (by simp only [List.map_toArray, List.map_cons, List.map_nil]; rfl) ?_
    refine (FS.bytes (HF.out.below (below_drew (Below.refl _ _))) HL.out).mono ?_
    rintro e wa ⟨rfl, ⟨nq1, hwa⟩⟩
    have HFa := Aside0.mk ((HF.out.below (below_drew (Below.refl _ _))).below (show Below _ _ wa from by rw [hwa]; exact pw_below_drewN (Below.refl _ _) nq1))
    have HEa := Aside0.mk (HE1.out wa HFa.out)
    clear hwa
    refine ⟨_, rfl, ?_⟩
    refine hK_ _ _ HEa.out (fun _ => ?_)
    refine one_ (i := 2) (N := (some 17)) #[true, true, true, true, false, true, false, true, false, false, false, false] rfl rfl (by kernel_rfl) (by simp) (fun K_ hK_ => ?_)
    refine goes_ Tryd.func21 (by kernel_rfl) rfl #[.slice (some ⟨g, 0, none⟩) l0.length l0.length] (by rfl) rfl rfl (by simp only [List.map_toArray, List.map_cons, List.map_nil]; rfl) ?_
    refine (impl_own.calls _ _ l0 l0 _ (FS.reads HFa.out HL.out) (Nat.le_refl _) HO.out).mono ?_
    rintro e wb ⟨v, rfl, hv, hb⟩
    have HV := Aside0.mk (Kd.R_lower hv HFa.out.2.2.2)
    have HFb := Aside0.mk (HFa.out.below hb)
    have HEb := Aside0.mk (HE1.out wb HFb.out)
    clear hv hb
    refine ⟨_, rfl, ?_⟩
    refine hK_ _ _ HEb.out (fun _ => ?_)
    refine one_ (i := 4) (N := (some 19)) #[true, true, true, true, true, true, false, true, false, false, false, false] rfl rfl (by kernel_rfl) (by simp) (fun K_ hK_ => ?_)
    refine goes_ Tryd.func26 (by kernel_rfl) rfl #[.pointer (some ⟨gz, 0, none⟩)] (by rfl) rfl rfl (by simp only [List.map_toArray, List.map_cons, List.map_nil]; rfl) ?_
    refine (in_len gz w.heap.size 0 0 l0 _ HFb.out.1 HL.out).mono ?_
    rintro e wc ⟨rfl, hwc⟩
    subst hwc
    refine ⟨_, rfl, ?_⟩
    refine hK_ _ _ HEb.out (fun _ => ?_)
    refine one_ (i := 6) (N := (some 21)) #[true, true, true, true, true, true, true, true, false, false, false, false] rfl rfl (by kernel_rfl) (by simp) (fun K_ hK_ => ?_)
    refine goes_ Tryd.func27 (by kernel_rfl) rfl #[.pointer (some ⟨gz, 0, none⟩)] (by rfl) rfl rfl (by simp only [List.map_toArray, List.map_cons, List.map_nil]; rfl) ?_
    refine (in_err gz w.heap.size l0 _ 102 (.pointer (some ae)) HEb.out HFb.out.1 HL.out).mono ?_
    rintro e wd ⟨rfl, ⟨nq4, hwd⟩⟩
    have HBd := Aside0.mk (show Below wb.heap.size wb wd from by rw [hwd]; exact pw_below_drewN (Below.refl _ _) nq4)
    clear hwd
    have HEd := Aside0.mk (pw_cell_below HBd.out HEb.out)
    refine ⟨_, rfl, ?_⟩
    refine hK_ _ _ HEd.out (fun _ => ?_)
    refine pure_ (i := 8) (N := (some 23)) (v := ?_) (a' := ?_) #[true, true, true, true, true, true, true, true, true, false, false, false] rfl rfl (by kernel_rfl) (fun _ _ _ h => h) (Or.inl ⟨by rfl, ?_⟩) ?_ ?_
    rotate_left
    · intro w'
      go_simp
      with_reducible rfl
    rotate_left
    · simp only [Act.put, List.setIfInBounds_toArray, List.set_cons_zero, List.set_cons_succ, i64_w, i32_w]
      rfl
    refine pure_ (i := 9) (N := (some 4)) (v := ?_) (a' := ?_) #[true, true, true, true, true, true, true, true, true, true, false, false] rfl rfl (by kernel_rfl) (fun _ _ _ h => h) (Or.inl ⟨by rfl, ?_⟩) ?_ ?_
    rotate_left
    · intro w'
      go_simp
      with_reducible rfl
    rotate_left
    · simp only [Act.put, List.setIfInBounds_toArray, List.set_cons_zero, List.set_cons_succ, i64_w, i32_w]
      rfl
    refine pure_ (i := 10) (N := (some 5)) (v := ?_) (a' := ?_) #[true, true, true, true, true, true, true, true, true, true, true, false] rfl rfl (by kernel_rfl) (fun _ _ _ h => h) (Or.inl ⟨by rfl, ?_⟩) ?_ ?_
    rotate_left
    · intro w'
      go_simp
      with_reducible rfl
    rotate_left
    · simp only [Act.put, List.setIfInBounds_toArray, List.set_cons_zero, List.set_cons_succ, i64_w, i32_w]
      rfl
    refine pure_ (i := 11) (N := (some 6)) (v := ?_) (a' := ?_) #[true, true, true, true, true, true, true, true, true, true, true, true] rfl rfl (by kernel_rfl) (fun _ _ _ h => h) (Or.inl ⟨by rfl, ?_⟩) ?_ ?_
    rotate_left
    · intro w'
      go_simp
      with_reducible rfl
    rotate_left
    · simp only [Act.put, List.setIfInBounds_toArray, List.set_cons_zero, List.set_cons_succ, i64_w, i32_w]
      rfl
    refine done_ (by kernel_rfl) ?_
    go_wp2
    go_ret3
    exact ⟨_, by rw [HBZ.out]; rfl, Kd.R_below HV.out HBd.out, below_then HFb.out.2.2.1 HFb.out.2.2.2 HBd.out⟩
end Go.Proofs.YtgpmmmlmaaiobaaDoor.Own
