/- The contract of Mediatype, for a type and parameters that are written as they should be. -/
import Derived.Test.YtfjgfgaojebghaaCMediaA
import Derived.Laws.DeepStrings4
namespace Go.Proofs.Ytfjgfgaojebghaa.Own
open Go.RowKit Go.Proofs.YtfjgfgaojebghaaW.PrintWords Go.Proofs.YtfjgfgaojebghaaW.PrintLast
set_option linter.unusedVariables false
set_option linter.unusedSimpArgs false
theorem wp_scope_jumps' {P : Program} {a : Act} {w : World} {Q : Exit → Act → World → Prop} {c rest : Code} (l : Nat) (J : Act → World → Prop) (μ : Act → World → Nat) (hf : findLabel c l = some (.seq .skip rest))
    (pass : ∀ a w, J a w → rest.wp P (Exit.jump l (fun a' w' => J a' w' ∧ μ a' w' < μ a w) Q) a w)
    (first : (∀ a w, J a w → rest.wp P (Exit.jump l J Q) a w) → c.wp P (Exit.jump l J Q) a w) : (Code.scope c).wp P Q a w :=
  wp_scope_jumps l J μ hf (first (fun a w h => wp_mono (pass a w h) (fun e a' w' hq => by
    cases e with
    | goto l' => obtain ⟨h1, h2, _⟩ := hq; exact ⟨h1, h2⟩
    | normal => exact hq
    | exit id => exact hq
    | ret => exact hq
    | panic ch => exact hq
    | outgrown => exact hq))) (fun a w h => wp_seq (wp_skip (pass a w h)))
def frameJ (g n cap hl B o : Nat) (S : ByteArray) (f : Nat → Value) : Act := { tmps := #[.slice (some ⟨g, 0, none⟩) n cap, undef, .slice none 0 0, .map none, f 4, .int .i64 (n : Int), .slice (some ⟨g, 0, none⟩) hl cap, .map (some B), .int .i64 (o : Int), .string S, f 10, f 11, f 12, f 13, f 14, f 15, f 16, f 17, f 18, f 19, f 20, f 21, f 22, f 23, f 24, f 25, f 26, f 27, f 28, f 29, f 30, f 31, f 32, f 33, f 34, f 35, f 36, f 37, f 38, f 39, f 40, f 41, f 42, f 43, f 44, f 45, f 46, f 47, f 48, f 49, f 50, f 51, f 52, f 53, f 54, f 55, f 56, f 57, f 58, f 59, f 60, f 61, f 62, f 63, f 64, f 65, f 66, f 67, f 68, f 69, f 70, f 71, f 72, f 73, f 74, f 75, f 76, f 77, f 78, f 79, f 80, f 81, f 82, f 83, f 84, f 85, f 86, f 87, f 88, f 89, f 90, f 91, f 92, f 93, f 94, f 95, f 96, f 97, f 98, f 99, f 100, f 101, f 102, f 103, f 104, f 105, f 106, f 107, f 108, f 109, f 110, f 111, f 112, f 113, f 114, f 115, f 116, f 117, f 118, f 119, f 120, f 121, f 122, f 123, f 124, f 125, f 126, f 127, f 128, f 129, f 130, f 131, f 132, f 133, f 134, f 135, f 136, f 137, f 138, f 139, f 140, f 141, f 142, f 143, f 144, f 145, f 146, f 147, f 148, f 149, f 150, f 151, f 152, f 153, f 154, f 155, f 156, f 157, f 158, f 159, f 160, f 161, f 162, f 163, f 164, f 165, f 166, f 167, f 168, f 169, f 170, f 171, f 172, f 173, f 174, f 175, f 176, f 177, f 178, f 179, f 180, f 181, f 182, f 183, f 184, f 185, f 186, f 187, f 188, f 189, f 190, f 191, f 192, f 193, f 194, f 195, f 196, f 197, f 198, f 199, f 200, f 201, f 202, f 203], defers := [] }
theorem jump_mk {X : Nat → Nat → Prop} {F : Nat → (Nat → Value) → Act} (a : Act) (j o : Nat) (h : a = F o (fun i => a.tmps.getD i undef)) (hx : X j o) : ∃ (j o : Nat) (f : Nat → Value), a = F o f ∧ X j o := ⟨j, o, _, h, hx⟩
/-- What holds where the parameter j begins: the map that those ahead of it have made. -/
def JumpM (H : List Int) (ps : List Prm) (bl : Bool) (w : World) (B : Nat) (w' : World) (j o : Nat) : Prop :=
  j < ps.length ∧ o = offM H ps bl j ∧ w'.ownsMap Try.prog 9 (plainElem Try.prog 9) B j (mapM (ps.take j)) ∧ Below w.heap.size w w' ∧ w.heap.size ≤ B
/-- What Mediatype tells. -/
def MediaPost (H : List Int) (ps : List Prm) (g cap : Nat) (w : World) (e : Ending) (w' : World) : Prop :=
  (ps = [] ∧ e = .returned (.tuple #[.slice (some ⟨g, 0, none⟩) H.length cap, .map none]) ∧ Below w.heap.size w w') ∨
  ∃ B, e = .returned (.tuple #[.slice (some ⟨g, 0, none⟩) H.length cap, .map (some B)]) ∧ w'.ownsMap Try.prog 9 (plainElem Try.prog 9) B ps.length (mapM ps) ∧ Below w.heap.size w w' ∧ w.heap.size ≤ B
theorem str_at {l : List Int} (hb : ∀ x ∈ l, 0 ≤ x ∧ x < 256) {S : ByteArray} (hS : S = strOfNums l) {q : Nat} (hq : q < S.size) : (S[q].toNat : Int) = l.getD q 0 := by
  subst hS
  have := strOf_bt hb (k := q) (by rw [strOf_size] at hq; exact hq)
  unfold bt at this
  simp only [Int.toNat_natCast, hq, dif_pos] at this
  exact this
theorem str_slice {S : ByteArray} {q r : Nat} (h1 : q ≤ r) (h2 : r ≤ S.size) (W : World) : (Instr.slice 9 (.string S) (some (.int .i64 (q : Int))) (some (.int .i64 (r : Int))) none).run Try.prog W = .ok (.string (S.extract q r)) W := by
  have := run_slice_string_if (P := Try.prog) W 9 S .i64 .i64 (q : Int) (r : Int) Try.underlying9
  rw [if_pos ⟨by omega, by omega⟩, if_pos ⟨by omega, by omega⟩] at this
  simpa using this
theorem cut_size {S : ByteArray} {n q r : Nat} (h : S.size = n) (hn : n < 140737488355328) : (S.extract q r).size ≤ maxLen := by
  rw [ByteArray.size_extract]
  have : maxLen = 9223372036854775807 := rfl
  omega
theorem plen_aux (bl : Bool) : ∀ ps : List Prm, ps.length ≤ (ps.flatMap (segM bl)).length
  | [] => Nat.le_refl _
  | p :: t => by
    rw [List.flatMap_cons, List.length_append, segM_len, List.length_cons]
    have := plen_aux bl t
    omega
theorem plen (H : List Int) (ps : List Prm) (bl : Bool) : ps.length ≤ (textM H ps bl).length := by
  unfold textM
  rw [List.length_append]
  have := plen_aux bl ps
  omega
theorem beq_t {x y : Int} (h : x = y) : (x == y) = true := by simp [h]
theorem beq_f {x y : Int} (h : x ≠ y) : (x == y) = false := by simp [h]
theorem bne_t {x y : Int} (h : x ≠ y) : (x != y) = true := by simp [h]
theorem bne_f {x y : Int} (h : x = y) : (x != y) = false := by simp [h]
set_option maxRecDepth 100000 in
set_option maxHeartbeats 8000000 in
theorem media_any (g cap n : Nat) (l : List Int) (H : List Int) (ps : List Prm) (bl : Bool) (w : World) (hC : Kd.C (Kd.int .u8) w (some ⟨g, 0, none⟩) n l) (hl : l = textM H ps bl) (hn : n = l.length) (hnc : n ≤ cap) (hm : n < 140737488355328) (hok : MedOk H ps) (hby : ∀ x ∈ l, 0 ≤ x ∧ x < 256) :
    Calls Try.prog 12 #[.slice (some ⟨g, 0, none⟩) n cap] w (MediaPost H ps g cap w) := by
  have hcell : ∀ k, k < n → w.cell? ⟨g, k, none⟩ = some (.int .u8 (l.getD k 0)) := fun k hk => by
    obtain ⟨ad, e, hc⟩ := Kd.at_int hC (k : Int) (by omega) (by omega)
    cases e
    rw [add_plain] at hc
    simpa [rd] using hc
  have hH : H.length ≤ n := by rw [hn, hl]; unfold textM; simp
  have hh : ∀ k (hk : k < H.length), l.getD k 0 = H[k] := fun k hk => by rw [hl]; exact m_head hk
  have hn3 : 3 ≤ n := by have := hok.three; omega
  have h0 := hcell 0 (by omega)
  have hb0 : (l.getD 0 0 == 32) = false := by
    have := hok.three
    rw [hh 0 (by omega)]
    exact beq_f (hok.head _ (List.getElem_mem _)).2
  have hn0 : 0 < n := by omega
  have hcap0 : ¬ cap = 0 := by omega
  obtain ⟨i0, hi0, _, hsz, _⟩ := info_parts infoM
  have hcut := cut_from (P := Try.prog) 24 5 .i64 Try.underlying24 hi0 1 hsz (some ⟨g, 0, none⟩) n cap 0 (by omega) (by omega)
  rw [show (0 : Int).toNat = 0 from rfl, if_neg hcap0, Option.map_some, add_plain] at hcut
  simp only [Nat.zero_mul, Nat.sub_zero] at hcut
  generalize l.getD 0 0 = c0 at h0 hb0
  have HCELL := Aside0.mk hcell
  have HOK := Aside0.mk hok
  have HCC := Aside0.mk hC
  have HL := Aside0.mk (And.intro hl (And.intro hn (And.intro hby hh)))
  clear hcell hl hn hby hok hC hh hi0 hsz
  go_enter Try.func12, Try.ntmps12
  go_wp2
  refine wp_loop_rounds 1 ?_
  rw [rounds_succ]
  go_wp2
  clear hcut h0 hb0
  go_loopg [6, 7, 8] (H.length - 3) (fun gk m p i wx => ∃ k : Nat, 3 ≤ k ∧ k ≤ H.length ∧ gk = H.length - k ∧ m = .slice (some ⟨g, 0, none⟩) n cap ∧ p = .map none ∧ i = .int .i64 k ∧ w = wx)
  case atStart => exact ⟨3, Nat.le_refl _, HOK.out.three, rfl, rfl, rfl, rfl, rfl⟩
  case round =>
    obtain ⟨k, hk3, hk, rfl, rfl, rfl, rfl, rfl⟩ := hrel
    by_cases hlt : k < H.length
    · have hcell := HCELL.out k (by omega)
      obtain ⟨g1, g2⟩ := HOK.out.head _ (List.getElem_mem hlt)
      rw [HL.out.2.2.2 k hlt] at hcell
      generalize H[k] = c at hcell g1 g2
      have hb1 := beq_f g1
      have hb2 := beq_f g2
      have hkn : k < n := by omega
      clear g1 g2
      go_wp2
      go_roundg (H.length - (k + 1))
      case measure => omega
      case rel => exact ⟨k + 1, by omega, by omega, rfl, rfl, rfl, by go_num, rfl⟩
    · have hkH : k = H.length := by omega
      by_cases hps : ps = []
      · have hkn : k = n := by rw [HL.out.2.1, HL.out.1, hps, hkH]; simp [textM]
        have hknl : ¬ k < n := by omega
        have HK := Aside0.mk (And.intro hkH (And.intro hps hkn))
        clear hkH hps hkn hlt hk
        go_wp2
        go_ret2
        exact .inl ⟨HK.out.2.1, by rw [← HK.out.1, HK.out.2.2]; rfl, Below.refl _ _⟩
      · have hp0 : 0 < ps.length := List.length_pos_iff.2 hps
        have hs0 : l.getD k 0 = 59 := by
          have := m_semi (H := H) (bl := bl) hp0
          rw [offM_zero] at this
          rw [HL.out.1, hkH]
          exact this
        have hkn : k < n := by
          have := offM_lt H ps bl hp0
          rw [offM_zero, segM_len] at this
          rw [HL.out.2.1, HL.out.1]
          omega
        have hcell := HCELL.out k hkn
        rw [hs0] at hcell
        have hmk : ∀ W : World, (Instr.makeMap 36 none).run Try.prog W = .ok (.map (some W.heap.size)) (W.alloc (.map #[] 0)) := fun W => run_makeMap_plain (w := W) _
        obtain ⟨S, hS⟩ : ∃ S, S = strOfNums l := ⟨_, rfl⟩
        have hcv : ∀ o : Obj, (convert 24 9 (.slice (some ⟨g, 0, none⟩) n cap)).run Try.prog (w.alloc o) = .ok (.string S) (w.alloc o) := fun o => by rw [hS]; exact Kd.C_string (c := cap) Try.underlying24 Try.underlying5 Try.underlying9 (Kd.C_below HCC.out (below_alloc (Below.refl _ _) o))
        have HK := Aside0.mk (And.intro hkH (And.intro hp0 hS))
        clear hkH hps hlt hk hs0 hp0 hS
        go_wp2
        refine wp_scope_jumps' 0 (fun a' w' => ∃ (j o : Nat) (f : Nat → Value), a' = frameJ g n cap k w.heap.size o S f ∧ JumpM H ps bl w w.heap.size w' j o) (fun a' _ => n - (intOf (a'.tmps.getD 8 undef)).toNat) rfl ?_ ?_
        · rintro a' w' ⟨j, o, f, rfl, hJ⟩
          clear hcv hmk hcell
          unfold frameJ
          obtain ⟨hj, ho, hown, hbel, hBw⟩ := hJ
          have hlt := offM_lt H ps bl hj
          rw [segM_len] at hlt
          have hSn : S.size = n := by rw [HK.out.2.2, strOf_size, HL.out.2.1]
          have hat : ∀ q (hq : q < S.size), (S[q].toNat : Int) = (textM H ps bl).getD q 0 := fun q hq => by rw [← HL.out.1]; exact str_at HL.out.2.2.1 HK.out.2.2 hq
          obtain ⟨ks, hks⟩ : ∃ ks, ks = o + (1 + blN bl) := ⟨_, rfl⟩
          obtain ⟨ke, hke⟩ : ∃ ke, ke = ks + ps[j].1.length := ⟨_, rfl⟩
          obtain ⟨ve, hve⟩ : ∃ ve, ve = ke + 1 + ps[j].2.length := ⟨_, rfl⟩
          have hnl : n = (textM H ps bl).length := by rw [HL.out.2.1, HL.out.1]
          have hvn : ve ≤ n := by rw [hnl]; omega
          have hbl : blN bl ≤ 1 := by unfold blN; split <;> omega
          have hvp : 0 < ps[j].2.length := HOK.out.pos _ (List.getElem_mem hj)
          have A1 : ∀ q (hq : q < S.size), o + 1 ≤ q → q < ks → (S[q].toNat : Int) = 32 := fun q hq h1 h2 => by
            have hb : bl = true := by cases hb : bl with
              | true => rfl
              | false => rw [hb] at hks; unfold blN at hks; simp at hks; omega
            have hq1 : q = o + 1 := by rw [hb] at hks; unfold blN at hks; simp at hks; omega
            rw [hat, hq1, ho]
            exact m_blank hj hb
          have A2 : ∀ q (hq : q < S.size), ks ≤ q → q < ke → (S[q].toNat : Int) ≠ 61 ∧ (S[q].toNat : Int) ≠ 59 ∧ (S[q].toNat : Int) ≠ 32 := fun q hq h1 h2 => by
            have := m_key (H := H) (bl := bl) hj (t := q - ks) (by omega)
            rw [hat, show q = offM H ps bl j + (1 + blN bl + (q - ks)) by omega, this]
            exact HOK.out.keys _ (List.getElem_mem hj) _ (List.getElem_mem _)
          have A3 : ∀ (hq : ke < S.size), (S[ke].toNat : Int) = 61 := fun hq => by
            have := m_eq (H := H) (bl := bl) hj
            rw [hat, show ke = offM H ps bl j + (1 + blN bl + ps[j].1.length) by omega, this]
          have A4 : ∀ q (hq : q < S.size), ke + 1 ≤ q → q < ve → (S[q].toNat : Int) ≠ 59 ∧ (S[q].toNat : Int) ≠ 32 := fun q hq h1 h2 => by
            have := m_val (H := H) (bl := bl) hj (t := q - (ke + 1)) (by omega)
            rw [hat, show q = offM H ps bl j + (1 + blN bl + ps[j].1.length + 1 + (q - (ke + 1))) by omega, this]
            exact HOK.out.vals _ (List.getElem_mem hj) _ (List.getElem_mem _)
          have hso : offM H ps bl (j + 1) = ve := by rw [offM_succ H ps bl hj]; omega
          have A5 : ∀ (hq : ve < S.size), (S[ve].toNat : Int) = 59 ∧ j + 1 < ps.length := fun hq => by
            have hj1 : j + 1 < ps.length := by
              apply Decidable.byContradiction
              intro hge
              have := offM_all H ps bl (j := j + 1) (by omega)
              rw [hso, ← hnl] at this
              omega
            refine ⟨?_, hj1⟩
            rw [hat, ← hso]
            exact m_semi hj1
          have A6 : ve = n → j + 1 = ps.length := fun hvn => by
            apply Decidable.byContradiction
            intro hne
            have := offM_lt H ps bl (j := j + 1) (by omega)
            rw [hso, segM_len, ← hnl] at this
            omega
          have hkey : (S.extract ks ke).data.toList = u8s ps[j].1 := by
            rw [HK.out.2.2, strOf_cut _ _ _ (by omega) (by rw [← HL.out.2.1]; omega), HL.out.1, hke, hks, ho]
            have := cut_key (H := H) (bl := bl) hj
            rw [show offM H ps bl j + (1 + blN bl) + ps[j].1.length = offM H ps bl j + (1 + blN bl + ps[j].1.length) by omega, this]
          have hval : (S.extract (ke + 1) ve).data.toList = u8s ps[j].2 := by
            rw [HK.out.2.2, strOf_cut _ _ _ (by omega) (by rw [← HL.out.2.1]; omega), HL.out.1, hve, hke, hks, ho]
            have := cut_val (H := H) (bl := bl) hj
            rw [show offM H ps bl j + (1 + blN bl) + ps[j].1.length + 1 + ps[j].2.length = offM H ps bl j + (1 + blN bl + ps[j].1.length + 1 + ps[j].2.length) by omega, show offM H ps bl j + (1 + blN bl) + ps[j].1.length + 1 = offM H ps bl j + (1 + blN bl + ps[j].1.length + 1) by omega, this]
          have hkz : ke < ve := by omega
          have hko : o + 1 ≤ ks := by omega
          have hke2 : ks ≤ ke := by omega
          have hks3 : ks ≤ o + 2 := by omega
          have hve2 : ke + 1 < ve := by omega
          have HA := Aside0.mk (And.intro A1 (And.intro A2 (And.intro A3 (And.intro A4 (And.intro A5 A6)))))
          have HKV := Aside0.mk (And.intro hkey (And.intro hval (And.intro hso hSn)))
          have HJ := Aside0.mk (And.intro hj (And.intro ho (And.intro hown (And.intro hbel hBw))))
          have hSle : n ≤ S.size := by omega
          clear A1 A2 A3 A4 A5 A6 hkey hval hso hSn ho hown hbel hBw hat hlt hks hke hve hnl hbl hvp
          go_wp2
          go_loopg [8] (ks - (o + 1)) (fun gk i wx => ∃ q : Nat, o + 1 ≤ q ∧ q ≤ ks ∧ gk = ks - q ∧ i = .int .i64 (q : Int) ∧ w' = wx)
          case atStart => exact ⟨o + 1, Nat.le_refl _, hko, rfl, by go_num, rfl⟩
          case round =>
            obtain ⟨q, hq1, hq2, rfl, rfl, rfl⟩ := hrel
            have hqn : q < n := by omega
            have hqS : q < S.size := by omega
            by_cases hlt : q < ks
            · have hb := beq_t (HA.out.1 q hqS hq1 hlt)
              go_wp2
              go_roundg (ks - (q + 1))
              case measure => omega
              case rel => exact ⟨q + 1, by omega, by omega, rfl, by go_num, rfl⟩
            · obtain rfl : q = ks := by omega
              have hb : ((S[q].toNat : Int) == 32) = false := by
                by_cases hkk : q < ke
                · exact beq_f (HA.out.2.1 q hqS (Nat.le_refl _) hkk).2.2
                · obtain rfl : q = ke := by omega
                  exact beq_f (by rw [HA.out.2.2.1 hqS]; decide)
              clear hlt hq1 hq2
              go_wp2
              clear hb
              have HQ0 := Aside0.mk (show q ≤ ke from hke2)
              go_loopg [8] (ke - q) (fun gk i wx => ∃ r : Nat, q ≤ r ∧ r ≤ ke ∧ gk = ke - r ∧ i = .int .i64 (r : Int) ∧ w' = wx)
              case atStart => exact ⟨q, Nat.le_refl _, HQ0.out, rfl, rfl, rfl⟩
              case round =>
                obtain ⟨r, hr1, hr2, rfl, rfl, rfl⟩ := hrel
                have hrn : r < n := by omega
                have hrS : r < S.size := by omega
                by_cases hlt : r < ke
                · obtain ⟨g1, g2, g3⟩ := HA.out.2.1 r hrS hr1 hlt
                  have hb1 := bne_t g1
                  have hb2 := bne_t g2
                  have hb3 := bne_t g3
                  clear g1 g2 g3
                  go_wp2
                  go_roundg (ke - (r + 1))
                  case measure => omega
                  case rel => exact ⟨r + 1, by omega, by omega, rfl, by go_num, rfl⟩
                · obtain rfl : r = ke := by omega
                  have h61 := HA.out.2.2.1 hrS
                  have hb1 := bne_f h61
                  have hb2 := beq_t h61
                  have hb3 : ((S[r].toNat : Int) == 32) = false := beq_f (by rw [h61]; decide)
                  have hqr : q ≤ r := hr1
                  have hrn1 : r + 1 < n := by omega
                  have hrS1 : r + 1 < S.size := by omega
                  have hb4 := beq_f (HA.out.2.2.2.1 (r + 1) hrS1 (Nat.le_refl _) hve2).2
                  have hsl := str_slice (S := S) hqr (Nat.le_of_lt hrS)
                  obtain ⟨K0, hK0⟩ : ∃ K0, K0 = S.extract q r := ⟨_, rfl⟩
                  rw [← hK0] at hsl
                  have HK0 := Aside0.mk hK0
                  clear h61 hlt hr1 hr2 hK0
                  go_wp2
                  refine wp_loop_rounds 1 ?_
                  rw [rounds_succ]
                  go_wp2
                  refine wp_loop_rounds 1 ?_
                  rw [rounds_succ]
                  go_wp2
                  clear hsl hb1 hb2 hb3 hb4
                  have HR0 := Aside0.mk hve2
                  go_loopg [8] (ve - (r + 1)) (fun gk i wx => ∃ t : Nat, r + 1 ≤ t ∧ t ≤ ve ∧ gk = ve - t ∧ i = .int .i64 (t : Int) ∧ w' = wx)
                  case atStart => exact ⟨r + 1, Nat.le_refl _, Nat.le_of_lt HR0.out, rfl, by go_num, rfl⟩
                  case round =>
                    obtain ⟨t, ht1, ht2, rfl, rfl, rfl⟩ := hrel
                    by_cases hlt : t < ve
                    · have htn : t < n := by omega
                      have htS : t < S.size := by omega
                      obtain ⟨g1, g2⟩ := HA.out.2.2.2.1 t htS ht1 hlt
                      have hb1 := bne_t g1
                      have hb2 := bne_t g2
                      clear g1 g2
                      go_wp2
                      go_roundg (ve - (t + 1))
                      case measure => omega
                      case rel => exact ⟨t + 1, by omega, by omega, rfl, by go_num, rfl⟩
                    · obtain rfl : t = ve := by omega
                      have hslv := str_slice (S := S) (q := r + 1) (r := t) ht1 (by omega)
                      obtain ⟨V0, hV0⟩ : ∃ V0, V0 = S.extract (r + 1) t := ⟨_, rfl⟩
                      rw [← hV0] at hslv
                      simp only [Int.natCast_add, Int.natCast_one] at hslv
                      have HKY := Aside0.mk (Go.WideMaps.keyOf_string_mk (P := Try.prog) (k := 9) Try.underlying9 (s := K0) (by rw [HK0.out]; exact cut_size HKV.out.2.2.2 hm))
                      have HVL := Aside0.mk (plainElem_string (H := Unit) (P := Try.prog) (e := 9) Try.underlying9 (s := V0) (by rw [hV0]; exact cut_size HKV.out.2.2.2 hm))
                      have HV0 := Aside0.mk hV0
                      clear hlt ht1 ht2 hV0
                      have NEXT : Aside0 (∀ {w4 : World}, w4.ownsMap Try.prog 9 (plainElem Try.prog 9) w.heap.size (j + 1) ((mapM (ps.take j)).put (.string K0.data.toList) (.lit (.string V0.data.toList))) → w4.ownsMap Try.prog 9 (plainElem Try.prog 9) w.heap.size (j + 1) (mapM (ps.take (j + 1)))) := ⟨fun hm => by
                        rw [List.take_succ_eq_append_getElem HJ.out.1, mapM_snoc, ← HKV.out.1, ← HKV.out.2.1, ← HK0.out, ← HV0.out]
                        exact hm⟩
                      have FIN : Aside0 (∀ {w4 : World}, j + 1 = ps.length → w4.ownsMap Try.prog 9 (plainElem Try.prog 9) w.heap.size (j + 1) ((mapM (ps.take j)).put (.string K0.data.toList) (.lit (.string V0.data.toList))) → w4.ownsMap Try.prog 9 (plainElem Try.prog 9) w.heap.size ps.length (mapM ps)) := ⟨fun he hm => by
                        have := NEXT.out hm
                        rw [List.take_of_length_le (by omega), he] at this
                        exact this⟩
                      by_cases hlast : t < n
                      · have htS : t < S.size := by omega
                        have h59 := (HA.out.2.2.2.2.1 htS).1
                        have hb1 := bne_f h59
                        have hb2 := beq_t h59
                        have hb3 : ((S[t].toNat : Int) == 32) = false := beq_f (by rw [h59]; decide)
                        clear h59
                        go_wp2_with (at_mapUpdate; refine wpList_mapUpdate_own _ rfl (.tmp 176) (.tmp 177) (.tmp 181) 36 rfl 9 9 (Go.Maps.string_keyed Try.underlying9) Try.underlying36 (plainElem Try.prog 9) w.heap.size j _ rfl HJ.out.2.2.1 (by have hmx : maxLen = 9223372036854775807 := rfl; have h1 := HJ.out.1; have h2 := plen H ps bl; rw [← HL.out.1, ← HL.out.2.1] at h2; omega) _ _ _ rfl rfl HKY.out _ [] HVL.out ?_; intro w4 hm4 hg4; have HM4 := Aside0.mk hm4; have HG4 := Aside0.mk hg4; clear hm4 hg4)
                        refine wp_loop_rounds 1 ?_
                        rw [rounds_succ]
                        go_wp2
                        go_step3
                        refine ⟨rfl, jump_mk (F := fun o f => frameJ g n cap k w.heap.size o S f) (X := fun j o => JumpM H ps bl w w.heap.size _ j o) _ (j + 1) t ?_ ?_, ?_⟩
                        · rfl
                        · exact ⟨(HA.out.2.2.2.2.1 htS).2, HKV.out.2.2.1.symm, NEXT.out HM4.out, HJ.out.2.2.2.1.grown HG4.out HJ.out.2.2.2.1.size (fun b hb => by obtain rfl := Option.some.inj hb; exact Nat.le_refl _), Nat.le_refl _⟩
                        · simp [intOf]
                          omega
                      · have hnt : ¬ t < n := hlast
                        have HLA := Aside0.mk (HA.out.2.2.2.2.2 (by omega))
                        go_wp2_with (at_mapUpdate; refine wpList_mapUpdate_own _ rfl (.tmp 176) (.tmp 177) (.tmp 181) 36 rfl 9 9 (Go.Maps.string_keyed Try.underlying9) Try.underlying36 (plainElem Try.prog 9) w.heap.size j _ rfl HJ.out.2.2.1 (by have hmx : maxLen = 9223372036854775807 := rfl; have h1 := HJ.out.1; have h2 := plen H ps bl; rw [← HL.out.1, ← HL.out.2.1] at h2; omega) _ _ _ rfl rfl HKY.out _ [] HVL.out ?_; intro w4 hm4 hg4; have HM4 := Aside0.mk hm4; have HG4 := Aside0.mk hg4; clear hm4 hg4)
                        refine wp_loop_rounds 1 ?_
                        rw [rounds_succ]
                        go_wp2
                        simp only [Exit.jump]
                        go_wp2
                        go_ret2
                        exact .inr ⟨w.heap.size, by rw [← HK.out.1]; rfl, FIN.out HLA.out HM4.out, HJ.out.2.2.2.1.grown HG4.out HJ.out.2.2.2.1.size (fun b hb => by obtain rfl := Option.some.inj hb; exact Nat.le_refl _), Nat.le_refl _⟩
        · intro HREST0
          have HREST := Aside0.mk HREST0
          clear HREST0
          go_wp2
          go_step3
          rename_i hk_
          refine hk_ _ _ ?_
          refine HREST.out _ _ (jump_mk (F := fun o f => frameJ g n cap k w.heap.size o S f) (X := fun j o => JumpM H ps bl w w.heap.size _ j o) _ 0 k ?_ ?_)
          · rfl
          · exact ⟨HK.out.2.1, by rw [offM_zero]; exact HK.out.1, World.ownsMap_made _ _ _ _, (Below.refl _ _).alloc (Nat.le_refl _) _, Nat.le_refl _⟩
end Go.Proofs.Ytfjgfgaojebghaa.Own
