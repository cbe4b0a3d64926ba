/- WHAT: laws.FnXtea returns true at every input. -/
import Derived.Test.YtbepfmhkccgnfaaXSpec
namespace Go.Proofs.Ytbepfmhkccgnfaa
open Go.RowKit
theorem xBack_step (t0 t1 : Int) (st : Int × Int) (h0 : In32 st.1) (h1 : In32 st.2) : xBack t0 t1 (xStep t0 t1 st) = st := by
  obtain ⟨a, b⟩ := st
  simp only at h0 h1
  simp only [xBack, xStep]
  rw [undo b _ h1, undo a _ h0]
theorem xTo_bd (tb : Nat → Int) (x0 x1 : Int) (h0 : In32 x0) (h1 : In32 x1) (n : Nat) : In32 (xTo tb x0 x1 n).1 ∧ In32 (xTo tb x0 x1 n).2 := by
  cases n with
  | zero => exact ⟨h0, h1⟩
  | succ n => exact ⟨mod32 _, mod32 _⟩
theorem xFrom_to (tb : Nat → Int) (x0 x1 : Int) (h0 : In32 x0) (h1 : In32 x1) (j : Nat) (hj : j ≤ 32) :
    xFrom tb (xTo tb x0 x1 32).1 (xTo tb x0 x1 32).2 j = xTo tb x0 x1 (32 - j) := by
  induction j with
  | zero => rfl
  | succ j ih =>
    show xBack _ _ (xFrom _ _ _ j) = _
    rw [ih (by omega)]
    obtain ⟨m, hm⟩ : ∃ m, 32 - j = m + 1 := ⟨31 - j, by omega⟩
    have hm' : 32 - (j + 1) = m := by omega
    have e : 62 - 2 * j = 2 * m := by omega
    rw [hm, hm', e]
    obtain ⟨b0, b1⟩ := xTo_bd tb x0 x1 h0 h1 m
    exact xBack_step _ _ _ b0 b1
/-- decryption undoes encryption -/
theorem xFrom_back (tb : Nat → Int) (x0 x1 : Int) (h0 : In32 x0) (h1 : In32 x1) : xFrom tb (xTo tb x0 x1 32).1 (xTo tb x0 x1 32).2 32 = (x0, x1) :=
  xFrom_to tb x0 x1 h0 h1 32 (Nat.le_refl _)
set_option maxHeartbeats 800000 in
theorem law6_out (ao bo : Option Addr) (n kc m bc : Nat) (w : World) (hn : n ≤ maxLen) (hm : m ≤ maxLen)
    (h : ¬ (n ≤ 1000 ∧ m = 8)) :
    Calls Try.prog 6 #[.slice ao n kc, .slice bo m bc] w fun e w' => e = .returned (.bool true) ∧ w = w' := by
  unfold maxLen at hn hm
  by_cases h1 : 2147483647 < (n : Int)
  · clear h
    go_enter Try.func6, Try.ntmps6
    go_wp2
    go_ret
    exact ⟨rfl, rfl⟩
  by_cases h2 : 2147483647 < (m : Int)
  · clear h
    go_enter Try.func6, Try.ntmps6
    go_wp2
    go_ret
    exact ⟨rfl, rfl⟩
  by_cases h4 : m = 8
  · subst h4
    have h3 : 1000 < (n : Int) := by omega
    clear h
    go_enter Try.func6, Try.ntmps6
    go_wp2
    go_ret
    exact ⟨rfl, rfl⟩
  · have h4' : ((m : Int) != 8) = true := by rw [bne_iff_ne]; omega
    clear h
    go_enter Try.func6, Try.ntmps6
    go_wp2
    go_ret
    exact ⟨rfl, rfl⟩
/-- sixteen zero bytes -/
def zero16 : Array Value := #[.int .u8 0, .int .u8 0, .int .u8 0, .int .u8 0, .int .u8 0, .int .u8 0, .int .u8 0, .int .u8 0, .int .u8 0, .int .u8 0, .int .u8 0, .int .u8 0, .int .u8 0, .int .u8 0, .int .u8 0, .int .u8 0]
def zs16 : List Int := [0, 0, 0, 0, 0, 0, 0, 0, 0, 0, 0, 0, 0, 0, 0, 0]
theorem mk16 (w : World) : (Instr.makeSlice 22 (.int .i64 16) (.int .i64 16)).run Try.prog w = .ok (.slice (some ⟨w.heap.size, 0, none⟩) 16 16) (w.alloc (.cells zero16 5)) := by kernel_rfl
theorem cb_zero16 (w : World) : CB (w.alloc (.cells zero16 5)) w.heap.size 0 zs16 := CB.of_cells (heap_alloc_new w _) (by rfl)
theorem inB_zs16 : InB zs16 := by intro z hz; simp [zs16] at hz; omega
theorem cloneKey_arg {w : World} {v : Value} {n : Nat} {zs : List Int} (h : Arg w v n zs) (hn : n ≤ 2000) : CloneKey v n w := by
  by_cases h0 : 0 < n
  · obtain ⟨b, off, cap, rfl, k1, k2, _⟩ := h.open h0
    exact cloneKey_some b off n cap zs w k1 k2 (by omega)
  · obtain rfl : n = 0 := by omega
    rcases h with ⟨rfl, _, _⟩ | ⟨a, cap, rfl, _⟩
    · exact cloneKey_nil w
    · exact cloneKey_zero a cap w
/-- an argument reads in a later world as it did -/
theorem Arg.below {w w' : World} {v : Value} {n : Nat} {zs : List Int} (h : Arg w v n zs) (hb : Below w.heap.size w w') : Arg w' v n zs := by
  rcases h with h | ⟨a, cap, rfl, hc, h1, h2, h3, h4⟩
  · exact .inl h
  · exact .inr ⟨a, cap, rfl, fun i hi => (hb.cell (p := a.add i) (block_lt_of_cell (hc i hi))).trans (hc i hi), h1, h2, h3, h4⟩
set_option maxHeartbeats 1600000 in
theorem law6_ref (ao : Option Addr) (kc n sb so scap : Nat) (ks bs8 : List Int) (w : World) (hk : Arg w (.slice ao n kc) n ks) (hn : n ≤ 1000) (hn16 : ¬ n = 16)
    (hb : CB w sb so bs8) (hbz : InB bs8) (hbl : bs8.length = 8) :
    Calls Try.prog 6 #[.slice ao n kc, .slice (some ⟨sb, so, none⟩) 8 scap] w fun e w' => e = .returned (.bool true) ∧ Below w.heap.size w w' := by
  have sblt := block_lt_of_cell (hb 0 (by omega))
  have HB := Lib.hid hb; have HBL := Lib.hid hbl
  have C1 := Lib.hid (xtea_ref _ (.slice (some ⟨sb, so, none⟩) 8 scap) false n w (cloneKey_arg hk (by omega)) hn16)
  have ht : ((n : Int) != 16) = true := by rw [bne_iff_ne]; omega
  have hmk := mk16
  clear hk hb hbl hn16
  go_enter Try.func6, Try.ntmps6
  go_wp2_with fail
  refine C1.out.mono ?_
  rintro e w1 ⟨rfl, hw1⟩
  have HW1 := Lib.hid hw1
  clear hw1
  go_wp2_with fail
  refine (xtea_enc w1.heap.size 0 16 sb so scap zs16 bs8 _ (cb_zero16 w1) inB_zs16 rfl (HB.out.newer HW1.out sblt) hbz HBL.out).mono ?_
  rintro e w3 ⟨v3, rfl, ⟨g3, cp3, rfl, _⟩, hw3⟩
  have HW3 := Lib.hid ((HW1.out.alloc HW1.out.size (.cells zero16 5)).trans (hw3.mono (by have := HW1.out.size; simp; omega)))
  clear hw3
  go_wp2
  go_ret
  exact ⟨rfl, HW3.out⟩
set_option maxHeartbeats 1600000 in
theorem law6_in (kb ko kcap sb so scap : Nat) (ks bs8 : List Int) (w : World)
    (hk : CB w kb ko ks) (hkz : InB ks) (hkl : ks.length = 16) (hkc : 16 ≤ kcap) (hkc2 : kcap ≤ maxLen)
    (hb : CB w sb so bs8) (hbz : InB bs8) (hbl : bs8.length = 8) (hcap : 8 ≤ scap) (hcap2 : scap ≤ maxLen) :
    Calls Try.prog 6 #[.slice (some ⟨kb, ko, none⟩) 16 kcap, .slice (some ⟨sb, so, none⟩) 8 scap] w fun e w' => e = .returned (.bool true) ∧ Below w.heap.size w w' := by
  have kblt := block_lt_of_cell (hk 0 (by omega))
  have sblt := block_lt_of_cell (hb 0 (by omega))
  have HK := Lib.hid hk; have HB := Lib.hid hb; have HKL := Lib.hid hkl; have HBL := Lib.hid hbl
  have bx0 : In32 (beAt bs8 0) := beAt_bd _ _
  have bx4 : In32 (beAt bs8 4) := beAt_bd _ _
  have BD := Lib.hid (xTo_bd (xTab ks) (beAt bs8 0) (beAt bs8 4) bx0 bx4 32)
  have pl : bs [(xFrom (xTab ks) (beAt (bs [(xTo (xTab ks) (beAt bs8 0) (beAt bs8 4) 32).1, (xTo (xTab ks) (beAt bs8 0) (beAt bs8 4) 32).2]) 0) (beAt (bs [(xTo (xTab ks) (beAt bs8 0) (beAt bs8 4) 32).1, (xTo (xTab ks) (beAt bs8 0) (beAt bs8 4) 32).2]) 4) 32).1,
      (xFrom (xTab ks) (beAt (bs [(xTo (xTab ks) (beAt bs8 0) (beAt bs8 4) 32).1, (xTo (xTab ks) (beAt bs8 0) (beAt bs8 4) 32).2]) 0) (beAt (bs [(xTo (xTab ks) (beAt bs8 0) (beAt bs8 4) 32).1, (xTo (xTab ks) (beAt bs8 0) (beAt bs8 4) 32).2]) 4) 32).2] = bs8 := by
    rw [beAt_bs0 BD.out.1, beAt_bs4 BD.out.2, xFrom_back _ _ _ bx0 bx4]
    exact bs_be bs8 hbz hbl
  have PL := Lib.hid pl
  have C1 := Lib.hid (xtea_enc kb ko kcap sb so scap ks bs8 w hk hkz hkl hb hbz hbl)
  have hmk := mk16
  clear hk hb hkl hbl bx0 bx4 pl
  go_enter Try.func6, Try.ntmps6
  go_wp2_with fail
  refine C1.out.mono ?_
  rintro e w1 ⟨v1, rfl, hs1, hw1⟩
  obtain ⟨g1, cp1, rfl, hg1, hg1', hc1, hc1', hcb1⟩ := hs1
  have HW1 := Lib.hid hw1; have HS1 := Lib.hid hcb1
  clear hw1 hcb1
  go_wp2_with fail
  refine (xtea_enc w1.heap.size 0 16 sb so scap zs16 bs8 _ (cb_zero16 w1) inB_zs16 rfl (HB.out.newer HW1.out sblt) hbz HBL.out).mono ?_
  rintro e w2 ⟨v2, rfl, ⟨g2, cp2, rfl, _⟩, hw2⟩
  have HX2 := Lib.hid (((Below.refl w1.heap.size w1).alloc (Nat.le_refl _) (.cells zero16 5)).trans (hw2.mono (by simp)))
  have HW2 := Lib.hid (HW1.out.trans (HX2.out.mono HW1.out.size))
  clear hw2
  go_wp2_with fail
  have hs2 := HS1.out.below HX2.out hg1'
  have HS2 := Lib.hid hs2
  clear hs2
  have hl2 := Nat.lt_of_lt_of_le hg1' HX2.out.size
  refine (xtea_dec kb ko kcap g1 0 cp1 ks _ w2 (HK.out.below HW2.out kblt) hkz HKL.out HS2.out (bs_inB BD.out.1 BD.out.2) rfl).mono ?_
  rintro e w3 ⟨v3, rfl, hs3, hw3⟩
  have hp' : Sl w2.heap.size v3 bs8 w3 := PL.out ▸ hs3
  clear hs3
  obtain ⟨g3, cp3, rfl, hg3, hg3', hc3, hc3', hcb3⟩ := hp'
  have HW3 := Lib.hid (HW2.out.trans (hw3.mono HW2.out.size)); have HS3 := Lib.hid hcb3; have HX3 := Lib.hid hw3
  clear hw3 hcb3
  rw [HBL.out]
  go_wp2_with fail
  refine (specXtea_any kb ko kcap sb so scap ks bs8 w3 (HK.out.below HW3.out kblt) hkz HKL.out hkc hkc2 (HB.out.below HW3.out sblt) hbz HBL.out hcap hcap2).mono ?_
  rintro e w4 ⟨v4, rfl, hs4, hw4⟩
  obtain ⟨g4, cp4, rfl, hg4, hg4', hc4, hc4', hcb4⟩ := hs4
  have HW4 := Lib.hid (HW3.out.trans (hw4.mono HW3.out.size)); have HS4 := Lib.hid hcb4; have HX4 := Lib.hid hw4
  clear hw4 hcb4
  go_wp2_with fail
  refine (same_eq g1 0 _ cp1 g4 0 _ cp4 _ w4 ((HS2.out.below HX3.out hl2).below HX4.out (Nat.lt_of_lt_of_le hl2 HX3.out.size)) rfl HS4.out rfl).mono ?_
  rintro e w' ⟨rfl, rfl⟩
  go_wp2_with fail
  refine (same_eq g3 0 8 cp3 sb so 8 scap bs8 w4 (HS3.out.below HX4.out hg3') HBL.out (HB.out.below HW4.out sblt) HBL.out).mono ?_
  rintro e w' ⟨rfl, rfl⟩
  go_wp2
  go_ret
  exact ⟨rfl, HW4.out⟩
theorem law6_any (kv bv : Value) (n m : Nat) (ks bs8 : List Int) (w : World) (hk : Arg w kv n ks) (hb : Arg w bv m bs8) :
    Calls Try.prog 6 #[kv, bv] w fun e w' => e = .returned (.bool true) ∧ Below w.heap.size w w' := by
  by_cases h : n ≤ 1000 ∧ m = 8
  · obtain ⟨h0, rfl⟩ := h
    obtain ⟨sb, so, scap, rfl, s1, s2, s3, s4, s5⟩ := hb.open (by omega)
    by_cases h16 : n = 16
    · subst h16
      obtain ⟨kb, ko, kcap, rfl, k1, k2, k3, k4, k5⟩ := hk.open (by omega)
      exact law6_in kb ko kcap sb so scap ks bs8 w k1 k5 k2 k3 k4 s1 s5 s2 s3 s4
    · obtain ⟨ao, kc, rfl, _⟩ := hk.form
      exact law6_ref ao kc n sb so scap ks bs8 w hk h0 h16 s1 s5 s2
  · obtain ⟨ao, kc, rfl, h1⟩ := hk.form
    obtain ⟨bo, bc, rfl, h2⟩ := hb.form
    exact (law6_out ao bo n kc m bc w h1 h2 h).mono fun _ _ ⟨h3, h4⟩ => ⟨h3, h4 ▸ Below.refl _ _⟩
end Go.Proofs.Ytbepfmhkccgnfaa
