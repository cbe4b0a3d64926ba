/- WHAT: xtea.initCipher makes the table of a key of 16 bytes. -/
import Derived.Test.YtbepfmhkccgnfaaXCrypt
import Derived.Test.YtbepfmhkccgnfaaNew
import Derived.StillTailTactics
namespace Go.Proofs.Ytbepfmhkccgnfaa
open Go.RowKit
theorem grown_drew {a w : World} {row : Option Nat} (h : a.grownBy w row) : a.grownBy w.drew row := ⟨h.os, h.tape, h.output, h.size, h.block⟩
def kArr (ks : List Int) (i : Nat) : Array Value := Array.ofFn (n := 4) fun t => if t.val < i then .int .u32 (beAt ks (4 * t.val)) else .int .u32 0
def K1Rel (w : World) (ks : List Int) (iv : Value) (wr : World) : Prop :=
  ∃ i : Nat, i ≤ 4 ∧ iv = .int .i64 (i : Int) ∧ Below w.heap.size w wr ∧ wr.heap[w.heap.size]? = some (.cells (kArr ks i) 39 (0, 0))
theorem kArr_next (ks : List Int) (i : Nat) : (kArr ks i).setIfInBounds i (.int .u32 (beAt ks (4 * i))) = kArr ks (i + 1) := by
  apply Array.ext
  · simp [kArr]
  · intro j h1 h2
    rw [Array.getElem_setIfInBounds]
    · by_cases hij : i = j
      · subst hij; simp [kArr]
      · have hl : j < i + 1 ↔ j < i := by omega
        simp [kArr, hij, hl]
    · simpa using h1
theorem kArr_size (ks : List Int) (i : Nat) : (kArr ks i).size = 4 := by simp [kArr]
/-- the sum after some double rounds; the table -/
def xSum (k : Nat) : Int := 2654435769 * (k : Int) % 4294967296
theorem xSum_next (k : Nat) : (xSum k + 2654435769) % 4294967296 = xSum (k + 1) := by unfold xSum; omega
theorem xSum_bd (k : Nat) : 0 ≤ xSum k ∧ xSum k < 4294967296 := mod32 _
def xTab (ks : List Int) (t : Nat) : Int :=
  if t % 2 = 0 then (xSum (t / 2) + beAt ks (4 * (xSum (t / 2) % 4).toNat)) % 4294967296
  else (xSum (t / 2 + 1) + beAt ks (4 * (xSum (t / 2 + 1) / 2048 % 4).toNat)) % 4294967296
theorem xTab_bd (ks : List Int) (t : Nat) : In32 (xTab ks t) := by unfold xTab; split <;> exact mod32 _
theorem xTab_even (ks : List Int) (k : Nat) : xTab ks (2 * k) = (xSum k + beAt ks (4 * (xSum k % 4).toNat)) % 4294967296 := by
  unfold xTab; rw [if_pos (by omega), show 2 * k / 2 = k from by omega]
theorem xTab_odd (ks : List Int) (k : Nat) : xTab ks (2 * k + 1) = (xSum (k + 1) + beAt ks (4 * (xSum (k + 1) / 2048 % 4).toNat)) % 4294967296 := by
  unfold xTab; rw [if_neg (by omega), show (2 * k + 1) / 2 = k from by omega]
def tArr (ks : List Int) (cs : Array Value) (j : Nat) : Array Value := Array.ofFn (n := 64) fun t => if t.val < j then .int .u32 (xTab ks t.val) else cs.getD t.val undef
theorem tArr_size (ks : List Int) (cs : Array Value) (j : Nat) : (tArr ks cs j).size = 64 := by simp [tArr]
theorem tArr_zero (ks : List Int) (cs : Array Value) (h : cs.size = 64) : tArr ks cs 0 = cs := by
  apply Array.ext
  · simp [tArr, h]
  · intro j h1 h2; simp [tArr, h2]
theorem tArr_next (ks : List Int) (cs : Array Value) (i : Nat) : (tArr ks cs i).setIfInBounds i (.int .u32 (xTab ks i)) = tArr ks cs (i + 1) := by
  apply Array.ext
  · simp [tArr]
  · intro j h1 h2
    rw [Array.getElem_setIfInBounds]
    · by_cases hij : i = j
      · subst hij; simp [tArr]
      · have hl : j < i + 1 ↔ j < i := by omega
        simp [tArr, hij, hl]
    · simpa using h1
theorem tArr_cu {w : World} {c : Nat} {ks : List Int} {cs : Array Value} {fr : Nat × Nat} (h : w.heap[c]? = some (.cells (tArr ks cs 64) 56 fr)) : CU w c 64 (xTab ks) := by
  intro i hi
  rw [cell_of_row w c i _ 56 fr h]
  simp [tArr, hi]
def T2Rel (w : World) (c : Nat) (ks : List Int) (cs : Array Value) (s i : Value) (wr : World) : Prop :=
  ∃ k : Nat, k ≤ 32 ∧ s = .int .u32 (xSum k) ∧ i = .int .i64 ((2 * k : Nat) : Int) ∧ w.grownBy wr (some c) ∧ wr.heap[c]? = some (.cells (tArr ks cs (2 * k)) 56 (0, 0)) ∧
    wr.heap[w.heap.size]? = some (.cells (kArr ks 4) 39 (0, 0))
theorem and3 (x : Int) (h : 0 ≤ x ∧ x < 4294967296) : bits .and .u32 x 3 = x % 4 := by
  rw [u32_and x 3 h.1 h.2 (by omega) (by omega)]
  rw [show (3 : Int).toNat = 3 from rfl, nat_mask2]
  omega
theorem kArr_cell {w : World} {g p : Nat} {ks : List Int} {fr : Nat × Nat} (h : w.heap[g]? = some (.cells (kArr ks 4) 39 fr)) (hp : p < 4) : w.cell? ⟨g, p, none⟩ = some (.int .u32 (beAt ks (4 * p))) := by
  rw [cell_of_row w g p _ 39 fr h]
  simp [kArr, hp]
theorem tArr_cell {w : World} {g j : Nat} {ks : List Int} {cs : Array Value} {i : Nat} {fr : Nat × Nat} (h : w.heap[g]? = some (.cells (tArr ks cs i) 56 fr)) (hj : j < 64) : ∃ x, w.cell? ⟨g, j, none⟩ = some x :=
  ⟨_, by rw [cell_of_row w g j _ 56 fr h]; exact Array.getElem?_eq_getElem (by rw [tArr_size]; exact hj)⟩
set_option maxHeartbeats 1600000 in
theorem init_any (c kb ko kcap : Nat) (ks : List Int) (cs : Array Value) (w : World) (hk : CB w kb ko ks) (hkz : InB ks) (hkl : ks.length = 16)
    (hc : w.heap[c]? = some (.cells cs 56 (0, 0))) (hcs : cs.size = 64) :
    Calls Try.prog 27 #[.pointer (some ⟨c, 0, none⟩), .slice (some ⟨kb, ko, none⟩) 16 kcap] w fun e w' => e = .returned (.tuple #[]) ∧ w.grownBy w' (some c) ∧ w'.heap[c]? = some (.cells (tArr ks cs 64) 56 (0, 0)) := by
  have clt := lt_of_block hc
  have kblt := block_lt_of_cell (hk 0 (by omega))
  have HK := Lib.hid hk; have HKL := Lib.hid hkl; have HC := Lib.hid hc; have HCS := Lib.hid hcs
  clear hk hkl hc hcs
  go_enter Try.func27, Try.ntmps27
  go_wp2_with fail
  go_loopw [5] (fun i wr => K1Rel w ks i wr) (fun i _ => 4 - (intOf i).toNat)
  case atStart => exact ⟨0, by omega, rfl, (Below.refl _ _).alloc (Nat.le_refl _) _, heap_alloc_new w _⟩
  case round =>
    obtain ⟨i, hi, rfl, hB, hH⟩ := hrel
    have HB := Lib.hid hB; have HH := Lib.hid hH; clear hB hH
    by_cases hlt : i < 4
    · have hkr := HK.out.below HB.out kblt
      have z0 := hkz.at' (4 * i) (by have := HKL.out; omega)
      have z1 := hkz.at' (4 * i + 1) (by have := HKL.out; omega)
      have z2 := hkz.at' (4 * i + 2) (by have := HKL.out; omega)
      have z3 := hkz.at' (4 * i + 3) (by have := HKL.out; omega)
      have c0 := hkr (4 * i) (by have := HKL.out; omega)
      have c1 := hkr (4 * i + 1) (by have := HKL.out; omega)
      have c2 := hkr (4 * i + 2) (by have := HKL.out; omega)
      have c3 := hkr (4 * i + 3) (by have := HKL.out; omega)
      clear hkr
      have hb : beAt ks (4 * i) = beI (ks.getD (4 * i) 0) (ks.getD (4 * i + 1) 0) (ks.getD (4 * i + 2) 0) (ks.getD (4 * i + 3) 0) := rfl
      obtain ⟨y0, hy0⟩ : ∃ y, y = ks.getD (4 * i) 0 := ⟨_, rfl⟩
      obtain ⟨y1, hy1⟩ : ∃ y, y = ks.getD (4 * i + 1) 0 := ⟨_, rfl⟩
      obtain ⟨y2, hy2⟩ : ∃ y, y = ks.getD (4 * i + 2) 0 := ⟨_, rfl⟩
      obtain ⟨y3, hy3⟩ : ∃ y, y = ks.getD (4 * i + 3) 0 := ⟨_, rfl⟩
      rw [← hy0, ← hy1, ← hy2, ← hy3] at hb
      rw [← hy0] at z0 c0
      rw [← hy1] at z1 c1
      rw [← hy2] at z2 c2
      rw [← hy3] at z3 c3
      have HBE := Lib.hid hb
      clear hb hy0 hy1 hy2 hy3
      have kx : ∃ x, wr.cell? ⟨w.heap.size, i, none⟩ = some x := ⟨_, by rw [cell_of_row wr _ i _ 39 (0, 0) HH.out]; exact Array.getElem?_eq_getElem (by rw [kArr_size]; exact hlt)⟩
      obtain ⟨x, kx⟩ := kx
      have kf : wr.frozen? ⟨w.heap.size, i, none⟩ = false := frozen_of_row wr _ i _ 39 HH.out
      go_wp2_with fail
      have s0 : IntKind.i64.wrap ((i : Int) * 4) = (i : Int) * 4 := IntWalk.i64_in _ (by omega)
      have s1 : IntKind.i64.wrap ((i : Int) * 4 + 1) = (i : Int) * 4 + 1 := IntWalk.i64_in _ (by omega)
      have s2 : IntKind.i64.wrap ((i : Int) * 4 + 2) = (i : Int) * 4 + 2 := IntWalk.i64_in _ (by omega)
      have s3 : IntKind.i64.wrap ((i : Int) * 4 + 3) = (i : Int) * 4 + 3 := IntWalk.i64_in _ (by omega)
      have n0 : ((i : Int) * 4).toNat = 4 * i := by omega
      have n1 : ((i : Int) * 4 + 1).toNat = 4 * i + 1 := by omega
      have n2 : ((i : Int) * 4 + 2).toNat = 4 * i + 2 := by omega
      have n3 : ((i : Int) * 4 + 3).toNat = 4 * i + 3 := by omega
      have l0 : 0 ≤ (i : Int) * 4 := by omega
      have l1 : 0 ≤ (i : Int) * 4 + 1 := by omega
      have l2 : 0 ≤ (i : Int) * 4 + 2 := by omega
      have l3 : 0 ≤ (i : Int) * 4 + 3 := by omega
      have m0 : (i : Int) * 4 < 16 := by omega
      have m1 : (i : Int) * 4 + 1 < 16 := by omega
      have m2 : (i : Int) * 4 + 2 < 16 := by omega
      have m3 : (i : Int) * 4 + 3 < 16 := by omega
      have r0 : IntKind.u32.wrap y0 = y0 := by rw [IntKind.wrap_u32']; omega
      have r1 : IntKind.u32.wrap y1 = y1 := by rw [IntKind.wrap_u32']; omega
      have r2 : IntKind.u32.wrap y2 = y2 := by rw [IntKind.wrap_u32']; omega
      have r3 : IntKind.u32.wrap y3 = y3 := by rw [IntKind.wrap_u32']; omega
      have q0 : IntKind.u32.wrap (y0 * 16777216) = y0 * 16777216 := by rw [IntKind.wrap_u32']; omega
      have q1 : IntKind.u32.wrap (y1 * 65536) = y1 * 65536 := by rw [IntKind.wrap_u32']; omega
      have q2 : IntKind.u32.wrap (y2 * 256) = y2 * 256 := by rw [IntKind.wrap_u32']; omega
      go_still_tail 32, (by kernel_rfl)
      clear s0 s1 s2 s3 n0 n1 n2 n3 l0 l1 l2 l3 m0 m1 m2 m3 r0 r1 r2 r3 q0 q1 q2 c0 c1 c2 c3
      change wpList _ _ _ _ _ wr.drew
      go_wp2
      go_roundw
      case rel =>
        refine ⟨i + 1, by omega, by simp, ?_, ?_⟩
        · exact (HB.out.setCell (Nat.le_refl _) _).drew
        · have e := heap_setCell_same wr w.heap.size i _ 39 (.int .u32 (beAt ks (4 * i))) HH.out
          rw [kArr_next] at e
          rw [← e, HBE.out]
          rfl
      case measure => simp [intOf]; omega
    · obtain rfl : i = 4 := by omega
      rw [show ((4 : Nat) : Int) = 4 from rfl]
      have HGB : Hid (w.grownBy wr (some c)) := Lib.hid ⟨HB.out.os, HB.out.tape, HB.out.output, HB.out.size, fun k hk _ => HB.out.block k hk⟩
      have HC1 : Hid (wr.heap[c]? = some (.cells (tArr ks cs 0) 56 (0, 0))) := Lib.hid (by rw [tArr_zero ks cs HCS.out]; exact (HB.out.block c clt).trans HC.out)
      obtain ⟨wo, rfl⟩ : ∃ wo : World, wo = wr := ⟨_, rfl⟩
      go_wp2_with fail
      go_loopw [7, 8] (fun s i wr => T2Rel w c ks cs s i wr) (fun _ i _ => 64 - (intOf i).toNat)
      case atStart => exact ⟨0, by omega, rfl, rfl, HGB.out, HC1.out, HH.out⟩
      case round =>
        obtain ⟨k, hk, rfl, rfl, hgb, hcb, hkb⟩ := hrel
        have GB := Lib.hid hgb; have CBK := Lib.hid hcb; have KBK := Lib.hid hkb
        clear hgb hcb hkb
        have hne : ¬ c = w.heap.size := by omega
        by_cases hlt : k < 32
        · obtain ⟨s, hs⟩ : ∃ s, s = xSum k := ⟨_, rfl⟩
          have hs1 := xSum_next k
          obtain ⟨s1, hs1'⟩ : ∃ s, s = xSum (k + 1) := ⟨_, rfl⟩
          have bs0 := xSum_bd k
          have bs1 := xSum_bd (k + 1)
          rw [← hs] at hs1 bs0 ⊢
          rw [← hs1'] at hs1 bs1
          obtain ⟨j, hj⟩ : ∃ j, j = 2 * k := ⟨_, rfl⟩
          rw [← hj]
          have hj63 : j + 1 < 64 := by omega
          have a0 := and3 s bs0
          have a1 := and3 (s1 / 2048) (by omega)
          obtain ⟨p, hp⟩ : ∃ p : Nat, p = (s % 4).toNat := ⟨_, rfl⟩
          obtain ⟨q, hq⟩ : ∃ q : Nat, q = (s1 / 2048 % 4).toNat := ⟨_, rfl⟩
          have hp4 : p < 4 := by omega
          have hq4 : q < 4 := by omega
          have k0 := kArr_cell KBK.out hp4
          have k1 := kArr_cell KBK.out hq4
          obtain ⟨x0, t0⟩ := tArr_cell CBK.out (show j < 64 by omega)
          obtain ⟨x1, t1⟩ := tArr_cell CBK.out hj63
          have f0 : wr.frozen? ⟨c, j, none⟩ = false := frozen_of_row wr _ _ _ 56 CBK.out
          have f1 : wr.frozen? ⟨c, j + 1, none⟩ = false := frozen_of_row wr _ _ _ 56 CBK.out
          obtain ⟨y, hy⟩ : ∃ y, y = beAt ks (4 * p) := ⟨_, rfl⟩
          obtain ⟨z, hz⟩ : ∃ z, z = beAt ks (4 * q) := ⟨_, rfl⟩
          rw [← hy] at k0
          rw [← hz] at k1
          have b0 : 0 ≤ s % 4 := by omega
          have b1 : s % 4 < 4 := by omega
          have d0 : 0 ≤ s1 / 2048 % 4 := by omega
          have d1 : s1 / 2048 % 4 < 4 := by omega
          have hp' := hp.symm
          have hq' := hq.symm
          have HS := Lib.hid hs; have HS1 := Lib.hid hs1'; have HJ := Lib.hid hj; have HY := Lib.hid hy; have HZ := Lib.hid hz
          have HP := Lib.hid hp; have HQ := Lib.hid hq
          clear hs hs1' hj hy hz hp hq
          go_wp2_with fail
          go_still_tail 11, (by kernel_rfl)
          change wpList _ _ _ _ _ wr.drew
          go_wp2_with fail
          rw [hs1]
          obtain ⟨w2, hw2⟩ : ∃ w2, w2 = (wr.setCell ⟨c, j, none⟩ (.int .u32 ((s + y) % 4294967296))).drew := ⟨_, rfl⟩
          have k2 : w2.cell? ⟨w.heap.size, q, none⟩ = some (.int .u32 z) := by
            rw [hw2, ← k1]
            exact World.cell?_of_block (w := wr) (heap_setCell_other wr ⟨c, j, none⟩ w.heap.size _ (fun h => hne h.symm))
          have n0 := heap_setCell_same wr c j _ 56 (.int .u32 ((s + y) % 4294967296)) CBK.out
          have t2 : ∃ x, w2.cell? ⟨c, j + 1, none⟩ = some x := ⟨_, by rw [cell_of_row w2 c (j + 1) _ 56 (0, 0) (by rw [hw2]; exact n0)]; exact Array.getElem?_eq_getElem (by simp [tArr_size]; exact hj63)⟩
          obtain ⟨x2, t2⟩ := t2
          have f2 : w2.frozen? ⟨c, j + 1, none⟩ = false := frozen_of_row w2 _ _ _ 56 (by rw [hw2]; exact n0)
          rw [← hw2]
          have HW2 := Lib.hid hw2
          clear hw2 n0 k1 k0 t0 t1 f0 f1
          have l0 : 0 ≤ (j : Int) + 1 := by omega
          have l1 : (j : Int) + 1 < 64 := by omega
          have l2 : ((j : Int) + 1).toNat = j + 1 := by omega
          go_still_tail 12, (by kernel_rfl)
          clear l0 l1 l2
          change wpList _ _ _ _ _ w2.drew
          go_wp2
          go_roundw
          case rel =>
            have e := HJ.out
            have n1 := heap_setCell_same wr c j _ 56 (.int .u32 (xTab ks j)) CBK.out
            rw [← e, tArr_next] at n1
            have n2 := heap_setCell_same _ c (j + 1) _ 56 (.int .u32 (xTab ks (j + 1))) n1
            rw [tArr_next] at n2
            have v0 : (s + y) % 4294967296 = xTab ks j := by rw [e, xTab_even, HS.out, HY.out, HP.out, HS.out]
            have v1 : (s1 + z) % 4294967296 = xTab ks (j + 1) := by rw [e, xTab_odd, HS1.out, HZ.out, HQ.out, HS1.out]
            rw [v1, HW2.out, v0]
            have e5 : (j : Int) + 1 + 1 = ((2 * (k + 1) : Nat) : Int) := by omega
            refine ⟨k + 1, by omega, by rw [HS1.out], by rw [e5], ?_, ?_, ?_⟩
            · exact grown_drew (gtrans (grown_drew (gtrans GB.out (grown_setCell wr c j _))) (grown_setCell _ c (j + 1) _))
            · have e2 : 2 * (k + 1) = j + 1 + 1 := by omega
              rw [e2]
              exact n2
            · rw [← KBK.out]
              have h1 := heap_setCell_other (wr.setCell ⟨c, j, none⟩ (.int .u32 (xTab ks j))) ⟨c, j + 1, none⟩ w.heap.size (.int .u32 (xTab ks (j + 1))) (fun h => hne h.symm)
              have h2 := heap_setCell_other wr ⟨c, j, none⟩ w.heap.size (.int .u32 (xTab ks j)) (fun h => hne h.symm)
              rw [← h2, ← h1]
              rfl
          case measure => simp [intOf]; omega
        · obtain rfl : k = 32 := by omega
          go_wp2
          go_end0
          exact ⟨rfl, GB.out, CBK.out⟩
end Go.Proofs.Ytbepfmhkccgnfaa
