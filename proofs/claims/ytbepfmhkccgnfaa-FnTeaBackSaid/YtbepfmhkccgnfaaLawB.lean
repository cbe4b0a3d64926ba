/- WHAT: laws.FnTeaBack returns true at every input. -/
import Derived.Test.YtbepfmhkccgnfaaPlain
import Derived.Test.YtbepfmhkccgnfaaArgs
namespace Go.Proofs.Ytbepfmhkccgnfaa
open Go.RowKit
set_option maxHeartbeats 800000 in
theorem law4_out (ao bo : Option Addr) (n kc m bc : Nat) (r : Int) (w : World) (hn : n ≤ maxLen) (hm : m ≤ maxLen)
    (h : ¬ (n = 16 ∧ m = 8 ∧ 0 ≤ r ∧ r ≤ 200 ∧ r % 2 = 0)) :
    Calls Try.prog 4 #[.slice ao n kc, .int .i64 r, .slice bo m bc] w fun e w' => e = .returned (.bool true) ∧ w = w' := by
  unfold maxLen at hn hm
  by_cases h1 : 2147483647 < (n : Int)
  · clear h
    go_enter Try.func4, Try.ntmps4
    go_wp2
    go_ret
    exact ⟨rfl, rfl⟩
  by_cases h2 : 2147483647 < (m : Int)
  · clear h
    go_enter Try.func4, Try.ntmps4
    go_wp2
    go_ret
    exact ⟨rfl, rfl⟩
  by_cases h3 : n = 16
  · subst h3
    by_cases h4 : m = 8
    · subst h4
      by_cases h5 : r < 0
      · clear h
        go_enter Try.func4, Try.ntmps4
        go_wp2
        go_ret
        exact ⟨rfl, rfl⟩
      by_cases h6 : 200 < r
      · clear h
        go_enter Try.func4, Try.ntmps4
        go_wp2
        go_ret
        exact ⟨rfl, rfl⟩
      have h7 : (r % 2 == 1) = true := by rw [beq_iff_eq]; omega
      clear h
      go_enter Try.func4, Try.ntmps4
      go_wp2
      go_ret
      exact ⟨rfl, rfl⟩
    · have h4' : ((m : Int) != 8) = true := by rw [bne_iff_ne]; omega
      clear h
      go_enter Try.func4, Try.ntmps4
      go_wp2
      go_ret
      exact ⟨rfl, rfl⟩
  · have h3' : ((n : Int) != 16) = true := by rw [bne_iff_ne]; omega
    clear h
    go_enter Try.func4, Try.ntmps4
    go_wp2
    go_ret
    exact ⟨rfl, rfl⟩
set_option maxHeartbeats 800000 in
theorem law4_in (kb ko kcap sb so scap : Nat) (ks bs8 : List Int) (r : Int) (w : World) (hr0 : 0 ≤ r) (hr1 : r ≤ 200) (hev : r % 2 = 0)
    (hk : CB w kb ko ks) (hkz : InB ks) (hkl : ks.length = 16) (hkc : 16 ≤ kcap) (hkc2 : kcap ≤ maxLen)
    (hb : CB w sb so bs8) (hbz : InB bs8) (hbl : bs8.length = 8) (hcap : 8 ≤ scap) (hcap2 : scap ≤ maxLen) :
    Calls Try.prog 4 #[.slice (some ⟨kb, ko, none⟩) 16 kcap, .int .i64 r, .slice (some ⟨sb, so, none⟩) 8 scap] w fun e w' => e = .returned (.bool true) ∧ Below w.heap.size w w' := by
  have kblt := block_lt_of_cell (hk 0 (by omega))
  have sblt := block_lt_of_cell (hb 0 (by omega))
  have HK := Lib.hid hk; have HB := Lib.hid hb; have HKL := Lib.hid hkl; have HBL := Lib.hid hbl
  have ht : (r % 2 == 1) = false := by rw [beq_eq_false_iff_ne]; omega
  have bx0 : In32 (beAt bs8 0) := beAt_bd _ _
  have bx4 : In32 (beAt bs8 4) := beAt_bd _ _
  have HX0 := Lib.hid bx0; have HX4 := Lib.hid bx4
  have PL : ∀ n : Nat, Hid (bs [(teaFrom ⟨beAt ks 0, beAt ks 4, beAt ks 8, beAt ks 12⟩ (beAt (bs [(teaTo ⟨beAt ks 0, beAt ks 4, beAt ks 8, beAt ks 12⟩ (beAt bs8 0) (beAt bs8 4) n).1, (teaTo ⟨beAt ks 0, beAt ks 4, beAt ks 8, beAt ks 12⟩ (beAt bs8 0) (beAt bs8 4) n).2.1]) 0) (beAt (bs [(teaTo ⟨beAt ks 0, beAt ks 4, beAt ks 8, beAt ks 12⟩ (beAt bs8 0) (beAt bs8 4) n).1, (teaTo ⟨beAt ks 0, beAt ks 4, beAt ks 8, beAt ks 12⟩ (beAt bs8 0) (beAt bs8 4) n).2.1]) 4) (2654435769 * (n : Int) % 4294967296) n).1,
      (teaFrom ⟨beAt ks 0, beAt ks 4, beAt ks 8, beAt ks 12⟩ (beAt (bs [(teaTo ⟨beAt ks 0, beAt ks 4, beAt ks 8, beAt ks 12⟩ (beAt bs8 0) (beAt bs8 4) n).1, (teaTo ⟨beAt ks 0, beAt ks 4, beAt ks 8, beAt ks 12⟩ (beAt bs8 0) (beAt bs8 4) n).2.1]) 0) (beAt (bs [(teaTo ⟨beAt ks 0, beAt ks 4, beAt ks 8, beAt ks 12⟩ (beAt bs8 0) (beAt bs8 4) n).1, (teaTo ⟨beAt ks 0, beAt ks 4, beAt ks 8, beAt ks 12⟩ (beAt bs8 0) (beAt bs8 4) n).2.1]) 4) (2654435769 * (n : Int) % 4294967296) n).2.1] = bs8) := by
    intro n
    obtain ⟨b1, b2, _⟩ := teaTo_bd ⟨beAt ks 0, beAt ks 4, beAt ks 8, beAt ks 12⟩ (beAt bs8 0) (beAt bs8 4) bx0 bx4 n
    refine Lib.hid ?_
    rw [beAt_bs0 b1, beAt_bs4 b2, teaFrom_back _ _ _ bx0 bx4 n _ _ _ rfl rfl rfl]
    exact bs_be bs8 hbz hbl
  have HPL := Lib.hid PL; clear PL
  have BD := Lib.hid (fun n : Nat => teaTo_bd ⟨beAt ks 0, beAt ks 4, beAt ks 8, beAt ks 12⟩ (beAt bs8 0) (beAt bs8 4) bx0 bx4 n)
  have C1 := Lib.hid (specTea_any kb ko kcap sb so scap ks bs8 r w hk hkz hkl hkc hkc2 hr0 hr1 hb hbz hbl hcap hcap2)
  have HE := Lib.hid hev
  clear hk hb hkl hbl hev bx0 bx4
  go_enter Try.func4, Try.ntmps4
  go_wp2_with fail
  refine C1.out.mono ?_
  rintro e w1 ⟨v1, rfl, hs1, hw1⟩
  obtain ⟨g1, cp1, rfl, hg1, hg1', hc1, hc1', hcb1⟩ := hs1
  have HW1 := Lib.hid hw1; have HS1 := Lib.hid hcb1
  clear hw1 hcb1
  go_wp2_with fail
  refine (tea_dec kb ko kcap g1 0 cp1 ks _ r w1 (HK.out.below HW1.out kblt) hkz HKL.out hr0 hr1 HE.out HS1.out (bs_inB (BD.out _).1 (BD.out _).2.1) rfl).mono ?_
  rintro e w2 ⟨v2, rfl, hs2, hw2⟩
  have hnat : ((r / 2).toNat : Int) = r / 2 := by omega
  have hp := (HPL.out (r / 2).toNat).out
  rw [hnat] at hp
  rw [hp] at hs2
  clear hp hnat
  obtain ⟨g2, cp2, rfl, hg2, hg2', hc2, hc2', hcb2⟩ := hs2
  have HW2 := Lib.hid (HW1.out.trans (hw2.mono HW1.out.size)); have HS2 := Lib.hid hcb2
  clear hw2 hcb2
  go_wp2_with fail
  refine (specTea_any kb ko kcap sb so scap ks bs8 64 w2 (HK.out.below HW2.out kblt) hkz HKL.out hkc hkc2 (by omega) (by omega) (HB.out.below HW2.out sblt) hbz HBL.out hcap hcap2).mono ?_
  rintro e w3 ⟨v3, rfl, hs3, hw3⟩
  obtain ⟨g3, cp3, rfl, hg3, hg3', hc3, hc3', hcb3⟩ := hs3
  have HW3 := Lib.hid (HW2.out.trans (hw3.mono HW2.out.size)); have HS3 := Lib.hid hcb3; have HX3 := Lib.hid hw3
  clear hw3 hcb3
  go_wp2_with fail
  refine (plain_dec kb ko kcap g3 0 cp3 ks _ w3 (HK.out.below HW3.out kblt) hkz HKL.out HS3.out (bs_inB (BD.out _).1 (BD.out _).2.1) rfl).mono ?_
  rintro e w4 ⟨v4, rfl, hs4, hw4⟩
  have hp := (HPL.out 32).out
  have hp' : Sl w3.heap.size v4 bs8 w4 := hp ▸ hs4
  clear hp hs4
  obtain ⟨g4, cp4, rfl, hg4, hg4', hc4, hc4', hcb4⟩ := hp'
  have HW4 := Lib.hid (HW3.out.trans (hw4.mono HW3.out.size)); have HS4 := Lib.hid hcb4; have HX4' := Lib.hid hw4
  clear hw4 hcb4
  rw [HBL.out]
  go_wp2_with fail
  refine (same_eq g2 0 8 cp2 sb so 8 scap bs8 w4 ((HS2.out.below HX3.out hg2').below HX4'.out (Nat.lt_of_lt_of_le hg2' HX3.out.size)) HBL.out (HB.out.below HW4.out sblt) HBL.out).mono ?_
  rintro e w' ⟨rfl, rfl⟩
  go_wp2_with fail
  refine (same_eq g4 0 8 cp4 sb so 8 scap bs8 w4 HS4.out HBL.out (HB.out.below HW4.out sblt) HBL.out).mono ?_
  rintro e w' ⟨rfl, rfl⟩
  go_wp2
  go_ret
  exact ⟨rfl, HW4.out⟩
theorem law4_any (kv bv : Value) (n m : Nat) (ks bs8 : List Int) (r : Int) (w : World) (hk : Arg w kv n ks) (hb : Arg w bv m bs8) :
    Calls Try.prog 4 #[kv, .int .i64 r, bv] w fun e w' => e = .returned (.bool true) ∧ Below w.heap.size w w' := by
  by_cases h : n = 16 ∧ m = 8 ∧ 0 ≤ r ∧ r ≤ 200 ∧ r % 2 = 0
  · obtain ⟨rfl, rfl, h0, h1, h2⟩ := h
    obtain ⟨kb, ko, kcap, rfl, k1, k2, k3, k4, k5⟩ := hk.open (by omega)
    obtain ⟨sb, so, scap, rfl, s1, s2, s3, s4, s5⟩ := hb.open (by omega)
    exact law4_in kb ko kcap sb so scap ks bs8 r w h0 h1 h2 k1 k5 k2 k3 k4 s1 s5 s2 s3 s4
  · obtain ⟨ao, kc, rfl, h1⟩ := hk.form
    obtain ⟨bo, bc, rfl, h2⟩ := hb.form
    exact (law4_out ao bo n kc m bc r w h1 h2 h).mono fun _ _ ⟨h3, h4⟩ => ⟨h3, h4 ▸ Below.refl _ _⟩
end Go.Proofs.Ytbepfmhkccgnfaa
