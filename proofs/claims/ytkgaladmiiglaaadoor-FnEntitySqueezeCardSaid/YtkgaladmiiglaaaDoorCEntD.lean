/- ReplaceEntities: each entity's value in its place. -/
import Derived.Test.YtkgaladmiiglaaaDoorCEntC
namespace Go.Proofs.YtkgaladmiiglaaaDoor.Own
open Go.RowKit Go.Proofs.YtkgaladmiiglaaaDoorW.PrintWords Go.Proofs.YtkgaladmiiglaaaDoorW.PrintLast
set_option linter.unusedVariables false
set_option linter.unusedSimpArgs false
/-- A text of bytes and entities. -/
inductive Tk where
  | ch : Int → Tk
  | ent : En → Tk
def Tk.tx : Tk → List Int
  | .ch c => [c]
  | .ent x => 38 :: (numsOf x.nm ++ [59])
def Tk.du : Tk → List Int
  | .ch c => [c]
  | .ent x => numsOf x.vl
def txT (l : List Tk) : List Int := l.flatMap Tk.tx
def duT (l : List Tk) : List Int := l.flatMap Tk.du
def TkOk (L : List En) : Tk → Prop
  | .ch c => c ≠ 38 ∧ 0 ≤ c ∧ c < 256
  | .ent x => x ∈ L ∧ EnOk x
def lenW (v : Value) : Nat := match v with
  | .slice _ n _ => n
  | _ => 0
set_option maxHeartbeats 2000000 in
theorem replace_any (w : World) (base g cap lo bm br : Nat) (L : List En) (hnd : (L.map En.nm).Nodup) (T : List Tk) (hT : ∀ t ∈ T, TkOk L t) (n : Nat) (hB : BRow w base g n cap (txT T)) (hM : EMap w lo bm L) (hV : NoRev w lo br) (hglo : g < lo) (hn : n ≤ 1000000) :
    Calls Tryd.prog 19 #[.slice (some ⟨g, 0, none⟩) n cap, .map (some bm), .map (some br)] w fun ed w' => ∃ n', ed = .returned (.slice (some ⟨g, 0, none⟩) n' cap) ∧ BRow w' base g n' cap (duT T) ∧ w.grownBy w' (some g) := by
  have HB := Aside0.mk hB
  have HM := Aside0.mk hM
  have HV := Aside0.mk hV
  have HT := Aside0.mk hT
  have HND := Aside0.mk hnd
  have HG0 := Aside0.mk (World.grownBy.refl w (some g))
  clear hB hM hV hT hnd
  go_enter Tryd.func19, Tryd.ntmps19
  go_wp2
  go_loopw [0, 7] (fun v0 v7 wr => ∃ (n' i : Nat) (pre : List Int) (R : List Tk), v0 = .slice (some ⟨g, 0, none⟩) n' cap ∧ v7 = .int .i64 (i : Int) ∧ i ≤ n' ∧ n' ≤ n ∧ Aside0 (i = pre.length ∧ BRow wr base g n' cap (pre ++ txT R) ∧ (∀ t ∈ R, TkOk L t) ∧ pre ++ duT R = duT T ∧ w.grownBy wr (some g))) (fun v0 v7 _ => lenW v0 - (intOf v7).toNat)
  case atStart => exact ⟨n, 0, [], T, rfl, rfl, Nat.zero_le _, Nat.le_refl _, ⟨rfl, HB.out, HT.out, rfl, HG0.out⟩⟩
  case round =>
    obtain ⟨n', i, pre, R, rfl, rfl, hi, hn', HI⟩ := hrel
    obtain ⟨h1, hB, hTk, hdu, hg⟩ := HI.out
    have hlen := hB.1
    rw [List.length_append, ← h1] at hlen
    cases R with
    | nil =>
      have : i = n' := by simp [txT] at hlen; omega
      subst this
      have HF := Aside0.mk (show BRow wr base g i cap (duT T) ∧ w.grownBy wr (some g) from ⟨by rw [← hdu]; simpa [duT, txT] using hB, hg⟩)
      clear h1 hB hTk hdu hg hlen
      go_wp2
      go_ret
      exact ⟨_, rfl, HF.out⟩
    | cons tk R =>
      cases tk with
      | ch c =>
        obtain ⟨hc38, hc0, hc1⟩ := hTk (.ch c) (by simp)
        have hlt : i < n' := by simp [txT, Tk.tx] at hlen; omega
        have hcell : wr.cell? ⟨g, i, none⟩ = some (.int .u8 c) := by
          rw [(hB.cell (k := i) (by rw [← hB.1]; exact hlt)).1]
          congr 2
          rw [List.getElem_append_right (by omega)]
          simp [txT, Tk.tx, h1]
        have hcb : (c == 38) = false := by simp [hc38]
        have HI2 := Aside0.mk (show i + 1 = (pre ++ [c]).length ∧ BRow wr base g n' cap ((pre ++ [c]) ++ txT R) ∧ (∀ t ∈ R, TkOk L t) ∧ (pre ++ [c]) ++ duT R = duT T ∧ w.grownBy wr (some g) from ⟨by simp; omega, by simpa [txT, Tk.tx] using hB, fun t ht => hTk t (List.mem_cons_of_mem _ ht), by rw [← hdu]; simp [duT, Tk.du], hg⟩)
        clear h1 hB hTk hdu hg hlen hc38
        go_wp2
        go_roundw
        case rel => exact ⟨n', i + 1, pre ++ [c], R, rfl, by go_num, hlt, hn', HI2⟩
        case measure => simp [intOf, lenW] <;> omega
      | ent e =>
        obtain ⟨heL, hok⟩ := hTk (.ent e) (by simp)
        have hB' : BRow wr base g n' cap (pre ++ (38 :: (numsOf e.nm ++ 59 :: txT R))) := by simpa [txT, Tk.tx] using hB
        have hat := hB'.at_ent
        rw [← h1] at hat
        have hfit := hat.fits
        have hamp := hat.amp
        have h2 := hok.two
        have hs1 := hok.some_
        have hsh := hok.short
        have hi3 : (i : Int) + 3 < (n' : Int) := by omega
        have hlt : i < n' := by omega
        have HCALL := Aside0.mk (replEnt wr base g n' cap lo bm br L e heL hok HND.out pre (txT R) hB' (HM.out.keep (fun k o hk hb => (hg.block k (Array.getElem?_eq_some_iff.1 hb).1 (by simp; omega)).trans hb)) ⟨HV.out.1, (hg.block br (Array.getElem?_eq_some_iff.1 HV.out.2).1 (by have := HV.out.1; simp; omega)).trans HV.out.2⟩ hglo (by omega) i h1)
        have HN' := Aside0.mk (show ∀ n'', (BRow wr base g n' cap (pre ++ (38 :: (numsOf e.nm ++ 59 :: txT R))) → n'' + e.nm.size + 2 = n' + e.vl.size → True) from fun _ _ _ => trivial)
        have HPRE := Aside0.mk (And.intro h1 (And.intro hB'.1 (And.intro hdu hg)))
        have HTK := Aside0.mk (show ∀ t ∈ R, TkOk L t from fun t ht => hTk t (List.mem_cons_of_mem _ ht))
        obtain ⟨v, hv⟩ : ∃ y, y = e.vl.size := ⟨_, rfl⟩
        have HV2 := Aside0.mk hv
        rw [← hv] at HCALL hs1 hsh
        clear h1 hB hB' hTk hdu hg hlen hat hok heL hv HN'
        go_wp2_with fail
        (with_reducible refine HCALL.out.mono ?_)
        rintro ed w2 ⟨n'', rfl, hB2, hg2⟩
        have hl2 := hB2.1
        have HI2 := Aside0.mk (show i + v = (pre ++ numsOf e.vl).length ∧ BRow w2 base g n'' cap ((pre ++ numsOf e.vl) ++ txT R) ∧ (∀ t ∈ R, TkOk L t) ∧ (pre ++ numsOf e.vl) ++ duT R = duT T ∧ w.grownBy w2 (some g) from ⟨by rw [List.length_append, numsOf_length, ← HV2.out, ← HPRE.out.1], by rw [List.append_assoc]; exact hB2, HTK.out, by rw [← HPRE.out.2.2.1]; simp [duT, Tk.du], HPRE.out.2.2.2.trans hg2⟩)
        have hm1 : n'' + (e.nm.size + 2) = n' + v := by
          have h3 := HPRE.out.2.1
          simp only [List.length_append, List.length_cons, numsOf_length] at hl2 h3
          have := HV2.out
          omega
        clear hB2 hg2 hl2
        have hfit2 : i + v ≤ n'' := by omega
        have hge : n'' - (i + v) < n' - i := by omega
        have hle2 : n'' ≤ n := by omega
        clear hm1 hsh hfit h2
        go_wp2
        go_roundw
        case rel => exact ⟨n'', i + v, pre ++ numsOf e.vl, R, rfl, by go_num, hfit2, hle2, HI2⟩
        case measure => simp [intOf, lenW] <;> omega
end Go.Proofs.YtkgaladmiiglaaaDoor.Own
