import Derived.Test.Qxb6609426aModsWalksA
import Derived.WalkKit
import Derived.Below

namespace Go.Proofs.Qxb6609426aMods.Lines
open Go.RowKit
set_option linter.unusedVariables false
theorem setc {w : World} {a : Addr} {k : IntKind} {x y : Int} (h : x = y) : w.setCell a (.int k x) = w.setCell a (.int k y) := by rw [h]
theorem hid {p : Prop} (h : p) : Hid p := h


set_option maxHeartbeats 400000 in
theorem check19 (B g len : Nat) (f : Nat → Int) (run : Int) (w : World) (hlen : len ≤ 1048576) (hr0 : 0 ≤ run) (hr1 : run < 65536)
    (hrun : w.cell? ⟨B, 8, none⟩ = some (.int .i64 run)) (hfz : w.frozen? ⟨B, 8, none⟩ = false)
    (hc : ∀ i, i < len → w.cell? ⟨g, i, none⟩ = some (.int .u8 (f i))) :
    Calls Trym.prog 19 #[.pointer (some ⟨B, 0, none⟩), .slice (some ⟨g, 0, none⟩) len len] w fun e w' => ∃ r q : Int, e = .returned (.int .i64 r) ∧ Answer f run len r q ∧ (q = run ∧ w' = w ∨ w' = w.setCell ⟨B, 8, none⟩ (.int .i64 q)) := by
  have HC : Hid (∀ i, i < len → w.cell? ⟨g, i, none⟩ = some (.int .u8 (f i))) := hc
  clear hc
  go_enter Trym.func19, Trym.ntmps19
  go_wp2_with fail
  go_loop [5] (fun t => ∃ frm : Nat, frm ≤ len ∧ Hid (Upto f run frm) ∧ ((0 < run ∧ frm = 0 ∧ t = .int .i64 (-run)) ∨ (t = .int .i64 (frm : Int) ∧ Hid (st f run frm = (frm : Int))))) (fun t => ((len : Int) - intOf t).toNat)
  case atStart =>
    refine ⟨0, Nat.zero_le _, fun j hj => by rw [show j = 0 from Nat.le_zero.1 hj]; simp [st]; omega, ?_⟩
    by_cases h : run = 0
    · exact .inr ⟨by rw [h]; rfl, show _ = _ by rw [h]; rfl⟩
    · exact .inl ⟨by omega, rfl, rfl⟩
  case round =>
    obtain ⟨frm, hf, HU, ⟨hp, rfl, rfl⟩ | ⟨rfl, HS⟩⟩ := hrel
    · by_cases hw : -run + 65536 ≤ (len : Int)
      · go_wp2_with fail
        refine (last23 _ g 0 _ _ f _ (by omega) (fun _ => rfl) (fun i hi => ?_)).mono ?_
        · rw [Nat.zero_add]; exact HC.out i (by omega)
        rintro e w' ⟨⟨r, rfl, hr⟩, rfl⟩
        rcases hr with ⟨rfl, hno⟩ | ⟨i, hi, rfl, hnl, hno⟩
        · have HN := hid hno
          clear hno
          go_wp2
          go_ret
          have hl := long_of f run hr0 0 (-run + 65536).toNat HU.out (fun k h1 h2 => HN.out k (by omega)) (by rw [st_zero]; omega)
          exact ⟨_, run, rfl, .inl ⟨_, by omega, hl.1, by rw [hl.2, st_zero]; omega, rfl⟩, .inl ⟨rfl, rfl⟩⟩
        · have HN := hid hnl
          clear hno hnl
          go_wp2
          have hs := upto_step f run hr0 0 i HU.out (by rw [Nat.zero_add]; exact HN.out) (by rw [st_zero]; omega)
          rw [Nat.zero_add] at hs
          go_round
          case rel => exact ⟨i + 1, by omega, hs.1, .inr ⟨by go_num, hs.2⟩⟩
          case measure => simp [intOf]; omega
      · by_cases hl0 : len = 0
        · subst hl0
          go_wp2_with fail
          refine (last23 _ g 0 _ _ f _ (by omega) (fun _ => rfl) (fun i hi => by omega)).mono ?_
          rintro e w' ⟨⟨r, rfl, hr⟩, rfl⟩
          rcases hr with ⟨rfl, hno⟩ | ⟨i, hi, rfl, hnl, hno⟩
          · clear hno
            go_wp2
            go_ret
            exact ⟨_, _, rfl, .inr ⟨HU.out, rfl, rfl⟩, .inr (setc (by rw [st_zero]; omega))⟩
          · omega
        · go_wp2_with fail
          refine (last23 _ g 0 _ _ f _ (by omega) (fun _ => rfl) (fun i hi => ?_)).mono ?_
          · rw [Nat.zero_add]; exact HC.out i (by omega)
          rintro e w' ⟨⟨r, rfl, hr⟩, rfl⟩
          have hue := upto_end f run hr0 0 len HU.out (by rw [st_zero]; omega)
          rcases hr with ⟨rfl, hno⟩ | ⟨i, hi, rfl, hnl, hno⟩
          · have HE := hid (st_rest f run 0 len (Nat.zero_le _) (fun k h1 h2 => hno k h2))
            have HUE := hid hue
            clear hno hue
            go_wp2
            go_ret
            exact ⟨_, _, rfl, .inr ⟨HUE.out, rfl, rfl⟩, .inr (setc (by rw [HE.out, st_zero]; omega))⟩
          · have HE := hid (st_last f run 0 i len (by omega) (by rw [Nat.zero_add]; exact hnl) (fun k h1 h2 => hno k (by omega) h2))
            have HUE := hid hue
            clear hno hue hnl
            go_wp2
            go_ret
            exact ⟨_, _, rfl, .inr ⟨HUE.out, rfl, rfl⟩, .inr (by rw [HE.out]; simp)⟩
    · by_cases hw : (frm : Int) + 65536 ≤ (len : Int)
      · go_wp2_with fail
        refine (last23 _ g frm _ _ (fun i => f (frm + i)) _ (by omega) (fun _ => rfl) (fun i hi => HC.out (frm + i) (by omega))).mono ?_
        rintro e w' ⟨⟨r, rfl, hr⟩, rfl⟩
        rcases hr with ⟨rfl, hno⟩ | ⟨i, hi, rfl, hnl, hno⟩
        · have hl := long_of f run hr0 frm 65536 HU.out (fun k h1 h2 => by have : f (frm + (k - frm)) ≠ 10 := hno (k - frm) (by omega); rwa [show frm + (k - frm) = k by omega] at this) (by rw [HS.out]; omega)
          have HL := hid hl
          clear hno hl
          go_wp2
          go_ret
          exact ⟨_, run, rfl, .inl ⟨_, by omega, HL.out.1, by rw [HL.out.2, HS.out]; omega, rfl⟩, .inl ⟨rfl, rfl⟩⟩
        · have hs := upto_step f run hr0 frm i HU.out hnl (by rw [HS.out]; omega)
          have HN := hid hs
          clear hno hnl hs
          go_wp2
          go_round
          case rel => exact ⟨frm + i + 1, by omega, HN.out.1, .inr ⟨by go_num, HN.out.2⟩⟩
          case measure => simp [intOf]; omega
      · by_cases hl0 : frm = len
        · subst hl0
          go_wp2_with fail
          refine (last23 _ g 0 _ _ f _ (by omega) (fun _ => rfl) (fun i hi => by omega)).mono ?_
          rintro e w' ⟨⟨r, rfl, hr⟩, rfl⟩
          rcases hr with ⟨rfl, hno⟩ | ⟨i, hi, rfl, hnl, hno⟩
          · clear hno
            go_wp2
            go_ret
            exact ⟨_, _, rfl, .inr ⟨HU.out, rfl, rfl⟩, .inr (setc (by rw [HS.out]; omega))⟩
          · omega
        · go_wp2_with fail
          refine (last23 _ g frm _ _ (fun i => f (frm + i)) _ (by omega) (fun _ => rfl) (fun i hi => HC.out (frm + i) (by omega))).mono ?_
          rintro e w' ⟨⟨r, rfl, hr⟩, rfl⟩
          have hue := upto_end f run hr0 frm len HU.out (by rw [HS.out]; omega)
          rcases hr with ⟨rfl, hno⟩ | ⟨i, hi, rfl, hnl, hno⟩
          · have HE := hid (st_rest f run frm len hf (fun k h1 h2 => by have : f (frm + (k - frm)) ≠ 10 := hno (k - frm) (by omega); rwa [show frm + (k - frm) = k by omega] at this))
            have HUE := hid hue
            clear hno hue
            go_wp2
            go_ret
            exact ⟨_, _, rfl, .inr ⟨HUE.out, rfl, rfl⟩, .inr (setc (by rw [HE.out, HS.out]))⟩
          · have HE := hid (st_last f run frm i len (by omega) hnl (fun k h1 h2 => by have : f (frm + (k - frm)) ≠ 10 := hno (k - frm) (by omega) (by omega); rwa [show frm + (k - frm) = k by omega] at this))
            have HUE := hid hue
            clear hno hue hnl
            go_wp2
            go_ret
            exact ⟨_, _, rfl, .inr ⟨HUE.out, rfl, rfl⟩, .inr (setc (by rw [HE.out]; omega))⟩
end Go.Proofs.Qxb6609426aMods.Lines
