/- WHAT: xtea's encryptBlock and decryptBlock by a table of 64 numbers: blocks of 8 bytes. -/
import Derived.Test.YtbepfmhkccgnfaaXBlock
import Derived.Test.YtbepfmhkccgnfaaPlain
namespace Go.Proofs.Ytbepfmhkccgnfaa
open Go.RowKit
def xMix (v t : Int) : Int := bits .xor .u32 ((bits .xor .u32 (v * 16 % 4294967296) (v / 32) + v) % 4294967296) t
def xStep (t0 t1 : Int) (st : Int × Int) : Int × Int :=
  ((st.1 + xMix st.2 t0) % 4294967296, (st.2 + xMix ((st.1 + xMix st.2 t0) % 4294967296) t1) % 4294967296)
def xTo (tb : Nat → Int) (x0 x1 : Int) : Nat → Int × Int
  | 0 => (x0, x1)
  | k + 1 => xStep (tb (2 * k)) (tb (2 * k + 1)) (xTo tb x0 x1 k)
def xBack (t0 t1 : Int) (st : Int × Int) : Int × Int :=
  ((st.1 - xMix ((st.2 - xMix st.1 t1) % 4294967296) t0) % 4294967296, (st.2 - xMix st.1 t1) % 4294967296)
def xFrom (tb : Nat → Int) (y0 y1 : Int) : Nat → Int × Int
  | 0 => (y0, y1)
  | k + 1 => xBack (tb (62 - 2 * k)) (tb (62 - 2 * k + 1)) (xFrom tb y0 y1 k)
/-- the cells of a block from its head read as these numbers -/
def CU (w : World) (b n : Nat) (tb : Nat → Int) : Prop := ∀ i, i < n → w.cell? ⟨b, i, none⟩ = some (.int .u32 (tb i))
theorem CU.drewN {w : World} {b m : Nat} {tb : Nat → Int} (h : CU w b m tb) (n : Nat) : CU (w.drewN n) b m tb := by intro i hi; simpa using h i hi
theorem CU.of_block {w w' : World} {b m : Nat} {tb : Nat → Int} (h : CU w b m tb) (hb : w'.heap[b]? = w.heap[b]?) : CU w' b m tb :=
  fun i hi => (World.cell?_of_block (w := w) (a := ⟨b, i, none⟩) hb).trans (h i hi)
def XRel (tb : Nat → Int) (x0 x1 : Int) (v0 v1 i : Value) : Prop :=
  ∃ (k : Nat) (a b : Int), xTo tb x0 x1 k = (a, b) ∧ k ≤ 32 ∧ i = .int .i64 ((2 * k : Nat) : Int) ∧ v0 = .int .u32 a ∧ v1 = .int .u32 b ∧ (0 ≤ a ∧ a < 4294967296) ∧ (0 ≤ b ∧ b < 4294967296)
theorem XRel.next {tb : Nat → Int} {x0 x1 a b a' b' : Int} {k : Nat} {i : Int} (h : xTo tb x0 x1 k = (a, b)) (hk : k < 32) (hi : i = 2 * (k : Int) + 2)
    (ha : a' = (a + xMix b (tb (2 * k))) % 4294967296) (hb : b' = (b + xMix a' (tb (2 * k + 1))) % 4294967296) :
    XRel tb x0 x1 (.int .u32 a') (.int .u32 b') (.int .i64 i) := by
  refine ⟨k + 1, a', b', ?_, by omega, by rw [hi]; congr 1, rfl, rfl, ?_, ?_⟩
  · show xStep _ _ (xTo tb x0 x1 k) = _
    rw [h, hb, ha]; rfl
  · rw [ha]; exact mod32 _
  · rw [hb]; exact mod32 _
set_option maxHeartbeats 800000 in
theorem xenc_any (c sb so scap g : Nat) (tb : Nat → Int) (bs8 : List Int) (cs : Array Value) (w : World)
    (ht : CU w c 64 tb) (htb : ∀ i, In32 (tb i)) (hb : CB w sb so bs8) (hbz : InB bs8) (hbl : bs8.length = 8)
    (hg : w.heap[g]? = some (.cells cs 5 (0, 0))) (hgs : cs.size = 8) :
    Calls Try.prog 29 #[.pointer (some ⟨c, 0, none⟩), .slice (some ⟨g, 0, none⟩) 8 8, .slice (some ⟨sb, so, none⟩) 8 scap] w fun e w' => e = .returned (.tuple #[]) ∧ w.grownBy w' (some g) ∧
      w'.heap[g]? = some (.cells (put4 (put4 cs 0 (xTo tb (beAt bs8 0) (beAt bs8 4) 32).1) 4 (xTo tb (beAt bs8 0) (beAt bs8 4) 32).2) 5 (0, 0)) := by
  have HT := Lib.hid ht; have HTB := Lib.hid htb
  have HG := Lib.hid hg; have HGS := Lib.hid hgs
  have hx0 := beAt_bd bs8 0
  have hx1 := beAt_bd bs8 4
  have C := Lib.hid (blk_any sb so 8 scap bs8 w hb hbz (by omega) (by omega))
  clear ht htb hb hbz hbl hg hgs
  go_enter Try.func29, Try.ntmps29
  go_wp2_with fail
  refine C.out.mono ?_
  rintro e w1 ⟨rfl, k1, rfl⟩
  go_wp2_with fail
  go_loop [6, 7, 8] (fun v0 v1 i => XRel tb (beAt bs8 0) (beAt bs8 4) v0 v1 i) (fun _ _ i => 64 - (intOf i).toNat)
  case atStart => exact ⟨0, _, _, rfl, by omega, rfl, rfl, rfl, hx0, hx1⟩
  case round =>
    obtain ⟨k, a, b, hst, hk, rfl, rfl, rfl, ⟨ha0, ha1⟩, ⟨hb0, hb1⟩⟩ := hrel
    have HST := Lib.hid hst; clear hst
    obtain ⟨j, hj⟩ : ∃ j, j = 2 * k := ⟨_, rfl⟩
    rw [← hj]
    have HJ := Lib.hid hj; clear hj
    have hj64 : j ≤ 64 := by have := HJ.out; omega
    by_cases hlt : j < 64
    · have hj63 : j + 1 < 64 := by have := HJ.out; omega
      have t0 := (HT.out.drewN k1) j (by omega)
      have t1 := (HT.out.drewN k1) (j + 1) (by omega)
      obtain ⟨p0, p1⟩ := HTB.out j
      obtain ⟨q0, q1⟩ := HTB.out (j + 1)
      obtain ⟨y0, hy0⟩ : ∃ y, y = tb j := ⟨_, rfl⟩
      obtain ⟨y1, hy1⟩ : ∃ y, y = tb (j + 1) := ⟨_, rfl⟩
      rw [← hy0] at t0 p0 p1
      rw [← hy1] at t1 q0 q1
      have HY0 := Lib.hid hy0; have HY1 := Lib.hid hy1
      clear hy0 hy1
      go_wp2
      go_round
      case rel =>
        have e := HJ.out
        refine XRel.next HST.out (by omega) (by omega) ?_ ?_
        · rw [← e, ← HY0.out]; rfl
        · rw [← e, ← HY1.out]; simp only [xMix, Int.add_emod_emod]
      case measure => simp [intOf]; omega
    · go_wp2_with fail
      refine (out_any g 8 8 cs 5 a b _ (by exact HG.out) (by have := HGS.out; omega) (by omega) ha0 ha1 hb0 hb1).mono ?_
      rintro e w2 ⟨rfl, hgr, hh⟩
      have HH := Lib.hid hh; clear hh
      have HGR := Lib.hid hgr; clear hgr
      go_wp2_with fail
      go_end0
      have hk32 : k = 32 := by have := HJ.out; omega
      subst hk32
      refine ⟨rfl, gtrans (grown_drewN (World.grownBy.refl w _) _) HGR.out, ?_⟩
      rw [HST.out]
      exact HH.out
def XUn (tb : Nat → Int) (y0 y1 : Int) (v0 v1 i : Value) : Prop :=
  ∃ (k : Nat) (a b : Int), xFrom tb y0 y1 k = (a, b) ∧ k ≤ 32 ∧ i = .int .i64 ((64 - 2 * k : Nat) : Int) ∧ v0 = .int .u32 a ∧ v1 = .int .u32 b ∧ (0 ≤ a ∧ a < 4294967296) ∧ (0 ≤ b ∧ b < 4294967296)
theorem XUn.next {tb : Nat → Int} {x0 x1 a b a' b' : Int} {k : Nat} {i : Int} (h : xFrom tb x0 x1 k = (a, b)) (hk : k < 32) (hi : i = 62 - 2 * (k : Int))
    (hb : b' = (b - xMix a (tb (62 - 2 * k + 1))) % 4294967296) (ha : a' = (a - xMix b' (tb (62 - 2 * k))) % 4294967296) :
    XUn tb x0 x1 (.int .u32 a') (.int .u32 b') (.int .i64 i) := by
  have e : i = ((64 - 2 * (k + 1) : Nat) : Int) := by omega
  refine ⟨k + 1, a', b', ?_, by omega, by rw [e], rfl, rfl, ?_, ?_⟩
  · show xBack _ _ (xFrom tb x0 x1 k) = _
    rw [h, ha, hb]; rfl
  · rw [ha]; exact mod32 _
  · rw [hb]; exact mod32 _
set_option maxHeartbeats 800000 in
theorem xdec_any (c sb so scap g : Nat) (tb : Nat → Int) (bs8 : List Int) (cs : Array Value) (w : World)
    (ht : CU w c 64 tb) (htb : ∀ i, In32 (tb i)) (hb : CB w sb so bs8) (hbz : InB bs8) (hbl : bs8.length = 8)
    (hg : w.heap[g]? = some (.cells cs 5 (0, 0))) (hgs : cs.size = 8) :
    Calls Try.prog 28 #[.pointer (some ⟨c, 0, none⟩), .slice (some ⟨g, 0, none⟩) 8 8, .slice (some ⟨sb, so, none⟩) 8 scap] w fun e w' => e = .returned (.tuple #[]) ∧ w.grownBy w' (some g) ∧
      w'.heap[g]? = some (.cells (put4 (put4 cs 0 (xFrom tb (beAt bs8 0) (beAt bs8 4) 32).1) 4 (xFrom tb (beAt bs8 0) (beAt bs8 4) 32).2) 5 (0, 0)) := by
  have HT := Lib.hid ht; have HTB := Lib.hid htb
  have HG := Lib.hid hg; have HGS := Lib.hid hgs
  have hx0 := beAt_bd bs8 0
  have hx1 := beAt_bd bs8 4
  have C := Lib.hid (blk_any sb so 8 scap bs8 w hb hbz (by omega) (by omega))
  clear ht htb hb hbz hbl hg hgs
  go_enter Try.func28, Try.ntmps28
  go_wp2_with fail
  refine C.out.mono ?_
  rintro e w1 ⟨rfl, k1, rfl⟩
  go_wp2_with fail
  go_loop [6, 7, 8] (fun v0 v1 i => XUn tb (beAt bs8 0) (beAt bs8 4) v0 v1 i) (fun _ _ i => (intOf i).toNat)
  case atStart => exact ⟨0, _, _, rfl, by omega, rfl, rfl, rfl, hx0, hx1⟩
  case round =>
    obtain ⟨k, a, b, hst, hk, rfl, rfl, rfl, ⟨ha0, ha1⟩, ⟨hb0, hb1⟩⟩ := hrel
    have HST := Lib.hid hst; clear hst
    by_cases hlt : k < 32
    · obtain ⟨j, hj⟩ : ∃ j, j = 62 - 2 * k := ⟨_, rfl⟩
      have e2 : (((64 - 2 * k : Nat) : Int)) = (j : Int) + 2 := by omega
      rw [e2]
      have HJ := Lib.hid hj; clear hj e2
      have hj63 : j + 1 < 64 := by have := HJ.out; omega
      have t0 := (HT.out.drewN k1) j (by omega)
      have t1 := (HT.out.drewN k1) (j + 1) (by omega)
      obtain ⟨p0, p1⟩ := HTB.out j
      obtain ⟨q0, q1⟩ := HTB.out (j + 1)
      obtain ⟨y0, hy0⟩ : ∃ y, y = tb j := ⟨_, rfl⟩
      obtain ⟨y1, hy1⟩ : ∃ y, y = tb (j + 1) := ⟨_, rfl⟩
      rw [← hy0] at t0 p0 p1
      rw [← hy1] at t1 q0 q1
      have HY0 := Lib.hid hy0; have HY1 := Lib.hid hy1
      clear hy0 hy1
      go_wp2
      go_round
      case rel =>
        have e := HJ.out
        refine XUn.next HST.out (by omega) (by omega) ?_ ?_
        · rw [← e, ← HY1.out]; rfl
        · rw [← e, ← HY0.out]; simp only [xMix, Int.add_emod_emod]
      case measure => simp [intOf]; omega
    · obtain rfl : k = 32 := by omega
      go_wp2_with fail
      refine (out_any g 8 8 cs 5 a b _ (by exact HG.out) (by have := HGS.out; omega) (by omega) ha0 ha1 hb0 hb1).mono ?_
      rintro e w2 ⟨rfl, hgr, hh⟩
      have HH := Lib.hid hh; clear hh
      have HGR := Lib.hid hgr; clear hgr
      go_wp2_with fail
      go_end0
      refine ⟨rfl, gtrans (grown_drewN (World.grownBy.refl w _) _) HGR.out, ?_⟩
      rw [HST.out]
      exact HH.out
end Go.Proofs.Ytbepfmhkccgnfaa
