/- WHAT: a block encrypted by the reference of XTEA: keys of 16 bytes, blocks of 8 bytes. -/
import Derived.Test.YtbepfmhkccgnfaaXImpl
import Derived.Test.YtbepfmhkccgnfaaArgs
namespace Go.Proofs.Ytbepfmhkccgnfaa
open Go.RowKit
def SRel (ks : List Int) (x0 x1 : Int) (v0 v1 s i : Value) : Prop :=
  ∃ (k : Nat) (a b : Int), xTo (xTab ks) x0 x1 k = (a, b) ∧ k ≤ 32 ∧ i = .int .i64 (k : Int) ∧ v0 = .int .u32 a ∧ v1 = .int .u32 b ∧ s = .int .u32 (xSum k) ∧ (0 ≤ a ∧ a < 4294967296) ∧ (0 ≤ b ∧ b < 4294967296)
theorem SRel.next {ks : List Int} {x0 x1 a b a' b' s' i : Int} {k : Nat} (h : xTo (xTab ks) x0 x1 k = (a, b)) (hk : k < 32) (hi : i = (k : Int) + 1) (hs : s' = xSum (k + 1))
    (ha : a' = (a + xMix b (xTab ks (2 * k))) % 4294967296) (hb : b' = (b + xMix a' (xTab ks (2 * k + 1))) % 4294967296) :
    SRel ks x0 x1 (.int .u32 a') (.int .u32 b') (.int .u32 s') (.int .i64 i) := by
  refine ⟨k + 1, a', b', ?_, by omega, by rw [hi]; rfl, rfl, rfl, by rw [hs], ?_, ?_⟩
  · show xStep _ _ (xTo (xTab ks) x0 x1 k) = _
    rw [h, hb, ha]; rfl
  · rw [ha]; exact mod32 _
  · rw [hb]; exact mod32 _
def kLit (ks : List Int) : Array Value := #[.int .u32 (beAt ks 0), .int .u32 (beAt ks 4), .int .u32 (beAt ks 8), .int .u32 (beAt ks 12)]
theorem kLit_cell {w : World} {g p : Nat} {ks : List Int} {fr : Nat × Nat} (h : w.heap[g]? = some (.cells (kLit ks) 39 fr)) (hp : p < 4) : w.cell? ⟨g, p, none⟩ = some (.int .u32 (beAt ks (4 * p))) := by
  rw [cell_of_row w g p _ 39 fr h]
  match p, hp with
  | 0, _ => rfl
  | 1, _ => rfl
  | 2, _ => rfl
  | 3, _ => rfl
set_option maxHeartbeats 1600000 in
theorem specXtea_any (kb ko kcap sb so scap : Nat) (ks bs8 : List Int) (w : World)
    (hk : CB w kb ko ks) (hkz : InB ks) (hkl : ks.length = 16) (hkc : 16 ≤ kcap) (hkc2 : kcap ≤ maxLen)
    (hb : CB w sb so bs8) (hbz : InB bs8) (hbl : bs8.length = 8) (hcap : 8 ≤ scap) (hcap2 : scap ≤ maxLen) :
    Calls Try.prog 12 #[.slice (some ⟨kb, ko, none⟩) 16 kcap, .slice (some ⟨sb, so, none⟩) 8 scap] w fun e w' => ∃ v, e = .returned v ∧
      Sl w.heap.size v (bs [(xTo (xTab ks) (beAt bs8 0) (beAt bs8 4) 32).1, (xTo (xTab ks) (beAt bs8 0) (beAt bs8 4) 32).2]) w' ∧ Below w.heap.size w w' := by
  have KW := Lib.hid (keyWords_any kb ko kcap ks w hk hkz hkl hkc hkc2)
  have sblt := block_lt_of_cell (hb 0 (by omega))
  have HB := Lib.hid hb
  have HBL := Lib.hid hbl
  have hx0 : 0 ≤ beAt bs8 0 ∧ beAt bs8 0 < 4294967296 := beAt_bd _ _
  have hx1 : 0 ≤ beAt bs8 4 ∧ beAt bs8 4 < 4294967296 := beAt_bd _ _
  clear hk hkz hkl hkc hkc2 hb hbl
  unfold maxLen at hcap2
  have e4 : ¬ scap = 4 := by omega
  go_enter Try.func12, Try.ntmps12
  go_wp2_with fail
  refine KW.out.mono ?_
  rintro e w1 ⟨rfl, hb1⟩
  have hb1' : CB w1 sb so bs8 := HB.out.below hb1 sblt
  have hlt1 := block_lt_of_cell (hb1' 0 (by have := HBL.out; omega))
  have hb2 : CB (w1.alloc (.cells (kLit ks) 39)) sb so bs8 := hb1'.of_block (Below.heap_alloc w1 _ sb hlt1)
  have HB2 := Lib.hid hb2
  have HBW := Lib.hid hb1
  clear hb1 hb1' hb2
  unfold keyAgg
  go_wp2_with fail
  go_quiet ((go_at_call 19; first | exact word_q0 HB2.out hbz (by have := HBL.out; omega) (by omega) | exact word_q 4 HB2.out hbz (by have := HBL.out; omega) (by omega)))
  go_wp2_with fail
  obtain ⟨w2, hw2⟩ : ∃ w2, w2 = (w1.alloc (.cells (kLit ks) 39)).drewN nq := ⟨_, rfl⟩
  change Code.wp _ _ _ _ ((w1.alloc (.cells (kLit ks) 39)).drewN nq)
  rw [← hw2]
  have HW2 := Lib.hid hw2; clear hw2
  have HK2 : Hid (w2.heap[w1.heap.size]? = some (.cells (kLit ks) 39 (0, 0))) := Lib.hid (by rw [HW2.out]; exact heap_alloc_new w1 _)
  go_loop [6, 7, 8, 9] (fun v0 v1 s i => SRel ks (beAt bs8 0) (beAt bs8 4) v0 v1 s i) (fun _ _ _ i => 32 - (intOf i).toNat)
  case atStart => exact ⟨0, _, _, rfl, by omega, rfl, rfl, rfl, rfl, hx0, hx1⟩
  case round =>
    obtain ⟨k, a, b, hst, hk, rfl, rfl, rfl, rfl, ⟨ha0, ha1⟩, ⟨hb0, hb1⟩⟩ := hrel
    have HST := Lib.hid hst; clear hst
    by_cases hlt : k < 32
    · obtain ⟨s, hs⟩ : ∃ s, s = xSum k := ⟨_, rfl⟩
      have hs1 := xSum_next k
      have bs0 := xSum_bd k
      rw [← hs] at hs1 bs0 ⊢
      have a0 := and3 s bs0
      have a1 := and3 ((s + 2654435769) % 4294967296 / 2048) (by omega)
      obtain ⟨p, hp⟩ : ∃ p : Nat, p = (s % 4).toNat := ⟨_, rfl⟩
      obtain ⟨q, hq⟩ : ∃ q : Nat, q = ((s + 2654435769) % 4294967296 / 2048 % 4).toNat := ⟨_, rfl⟩
      have hp4 : p < 4 := by omega
      have hq4 : q < 4 := by omega
      have k0 := kLit_cell HK2.out hp4
      have k1 := kLit_cell HK2.out hq4
      obtain ⟨y, hy⟩ : ∃ y, y = beAt ks (4 * p) := ⟨_, rfl⟩
      obtain ⟨z, hz⟩ : ∃ z, z = beAt ks (4 * q) := ⟨_, rfl⟩
      rw [← hy] at k0
      rw [← hz] at k1
      have b0 : 0 ≤ s % 4 := by omega
      have b1 : s % 4 < 4 := by omega
      have d0 : 0 ≤ (s + 2654435769) % 4294967296 / 2048 % 4 := by omega
      have d1 : (s + 2654435769) % 4294967296 / 2048 % 4 < 4 := by omega
      have hp' := hp.symm
      have hq' := hq.symm
      have HS := Lib.hid hs; have HS1 := Lib.hid hs1; have HY := Lib.hid hy; have HZ := Lib.hid hz
      have HP := Lib.hid hp; have HQ := Lib.hid hq
      clear hs hs1 hy hz hp hq
      go_wp2
      go_round
      case rel =>
        have t0 : (s + y) % 4294967296 = xTab ks (2 * k) := by rw [xTab_even, HY.out, HP.out, HS.out]
        have t1 : (s + 2654435769 + z) % 4294967296 = xTab ks (2 * k + 1) := by
          rw [xTab_odd, ← HS1.out, HZ.out, HQ.out, Int.emod_add_emod]
        rw [t0, t1]
        refine SRel.next HST.out hlt rfl HS1.out rfl ?_
        simp only [xMix, Int.add_emod_emod]
      case measure => simp [intOf]; omega
    · obtain rfl : k = 32 := by omega
      go_wp2_with fail
      refine (words_any _ 2 2 [a, b] _ (cw_pair (t := 38) (fr := (0, 0)) ?hh) (u32_pair ⟨ha0, ha1⟩ ⟨hb0, hb1⟩) rfl (by omega)).mono ?_
      case hh => exact heap_alloc_new w2 _
      rintro e w3 ⟨v, rfl, hown, hb3⟩
      have HO := Lib.hid hown; have H3 := Lib.hid hb3
      clear hown hb3
      go_wp2
      go_ret
      rw [HST.out]
      have hsz := HBW.out.size
      have hB2 : Below w.heap.size w w2 := by rw [HW2.out]; exact below_drewN' (HBW.out.alloc hsz _) _
      have hsz2 := hB2.size
      have hB : Below w.heap.size w w3 := (hB2.alloc hsz2 _).trans (H3.out.mono (by simp; omega))
      exact ⟨_, rfl, sl_of_owns HO.out (by simp; omega) (by simp [bs_len]) (by omega), hB⟩
end Go.Proofs.Ytbepfmhkccgnfaa
