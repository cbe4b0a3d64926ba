/- WHAT: what a block encrypted by tea's Encrypt is: for keys of 16 bytes, blocks of 8, 0 to 200 rounds. -/
import Derived.Test.YtbepfmhkccgnfaaBase
namespace Go.Proofs.Ytbepfmhkccgnfaa
open Go.RowKit
set_option maxHeartbeats 800000 in
theorem enc_any (c sb so scap g : Nat) (ks bs : List Int) (rounds : Int) (cs : Array Value) (w : World)
    (hk : CB w c 0 ks) (hkz : InB ks) (hkl : ks.length = 16) (hr : w.cell? ⟨c, 16, none⟩ = some (.int .i64 rounds)) (hr0 : 0 ≤ rounds) (hr1 : rounds ≤ 200)
    (hb : CB w sb so bs) (hbz : InB bs) (hbl : bs.length = 8) (hcap : 8 ≤ scap) (hcap2 : scap ≤ maxLen)
    (hg : w.heap[g]? = some (.cells cs 5 (0, 0))) (hgs : cs.size = 8) :
    Calls Try.prog 16 #[.pointer (some ⟨c, 0, none⟩), .slice (some ⟨g, 0, none⟩) 8 8, .slice (some ⟨sb, so, none⟩) 8 scap] w fun e w' => e = .returned (.tuple #[]) ∧ w.grownBy w' (some g) ∧
      w'.heap[g]? = some (.cells (put4 (put4 cs 0 (teaTo ⟨beAt ks 0, beAt ks 4, beAt ks 8, beAt ks 12⟩ (beAt bs 0) (beAt bs 4) (rounds / 2).toNat).1) 4 (teaTo ⟨beAt ks 0, beAt ks 4, beAt ks 8, beAt ks 12⟩ (beAt bs 0) (beAt bs 4) (rounds / 2).toNat).2.1) 5 (0, 0)) := by
  have HK := Lib.hid hkl; have HB := Lib.hid hbl; have HG := Lib.hid hg; have HGS := Lib.hid hgs
  clear hkl hbl hg hgs
  have hx0 : 0 ≤ beAt bs 0 ∧ beAt bs 0 < 4294967296 := beAt_bd _ _
  have hx1 : 0 ≤ beAt bs 4 ∧ beAt bs 4 < 4294967296 := beAt_bd _ _
  unfold maxLen at hcap2
  go_enter Try.func16, Try.ntmps16
  go_wp2_with fail
  go_quiet ((go_at_call 25; first | with_reducible (exact be_q0 hb hbz (by have := HB.out; omega) (by omega)) | with_reducible (exact be_q 4 hb hbz (by have := HB.out; omega) (by omega))))
  go_wp2_with fail
  go_quiet ((go_at_call 25; first | with_reducible (exact be_qk 0 hk hkz (by have := HK.out; omega) (by omega)) | with_reducible (exact be_qk 4 hk hkz (by have := HK.out; omega) (by omega)) | with_reducible (exact be_qk 8 hk hkz (by have := HK.out; omega) (by omega)) | with_reducible (exact be_qk 12 hk hkz (by have := HK.out; omega) (by omega))))
  go_wp2_with fail
  go_loop [6, 7, 12, 14] (fun v0 v1 s i => TeaRel (rounds / 2) ⟨beAt ks 0, beAt ks 4, beAt ks 8, beAt ks 12⟩ (beAt bs 0) (beAt bs 4) v0 v1 s i) (fun _ _ _ i => (rounds / 2 - intOf i).toNat)
  case atStart => exact TeaRel.start (by omega) hx0 hx1
  case round =>
    obtain ⟨k, a, b, c', hT, hk1, rfl, rfl, rfl, rfl, ⟨ha0, ha1⟩, ⟨hb0, hb1⟩, hc0, hc1⟩ := hrel
    have HT := Lib.hid hT; clear hT
    by_cases hlt : (k : Int) < rounds / 2
    · go_wp2
      go_round
      case rel =>
        refine ⟨_, _, _, _, ?_, rfl, rfl, rfl, rfl⟩
        refine TeaRel.next HT.out hlt ?_ ?_ ?_
        · rfl
        · simp only [tF, Int.add_emod_emod]
        · simp only [tF, Int.add_emod_emod, Int.emod_add_emod]
      case measure => simp [intOf]; omega
    · go_wp2_with fail
      refine (put_any g 0 8 8 cs 5 a _ (by exact HG.out) (by have := HGS.out; omega) (by omega) ha0 ha1).mono ?_
      rintro e w1 ⟨rfl, hgr1, hg1⟩
      have HG1 := Lib.hid hg1; clear hg1
      go_wp2_with fail
      refine (put_any g 4 4 4 _ 5 b _ HG1.out (by rw [size_put4]; have := HGS.out; omega) (by omega) hb0 hb1).mono ?_
      rintro e w2 ⟨rfl, hgr2, hg2⟩
      have HG2 := Lib.hid hg2; clear hg2
      go_wp2_with fail
      go_end0
      refine ⟨rfl, ?_, ?_⟩
      · exact gtrans (gtrans (grown_drewN (World.grownBy.refl w _) _) hgr1) hgr2
      · have : (rounds / 2).toNat = k := by omega
        rw [this, HT.out]
        exact HG2.out
end Go.Proofs.Ytbepfmhkccgnfaa
