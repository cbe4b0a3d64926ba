/- WHAT: what a block decrypted by tea's Decrypt is: for keys of 16 bytes, blocks of 8, 0 to 200 rounds. -/
import Derived.Test.YtbepfmhkccgnfaaBase
namespace Go.Proofs.Ytbepfmhkccgnfaa
open Go.RowKit

def teaBack (K : K4) (st : Int × Int × Int) : Int × Int × Int :=
  ((st.1 - tF ((st.2.1 - tF st.1 st.2.2 K.c K.d) % 4294967296) st.2.2 K.a K.b) % 4294967296,
   (st.2.1 - tF st.1 st.2.2 K.c K.d) % 4294967296,
   (st.2.2 - 2654435769) % 4294967296)
def teaFrom (K : K4) (y0 y1 s : Int) : Nat → Int × Int × Int
  | 0 => (y0, y1, s)
  | k + 1 => teaBack K (teaFrom K y0 y1 s k)
def UnRel (n : Int) (K : K4) (y0 y1 s0 : Int) (v0 v1 s i : Value) : Prop :=
  ∃ (k : Nat) (a b c : Int), teaFrom K y0 y1 s0 k = (a, b, c) ∧ (k : Int) ≤ n ∧ i = .int .i64 k ∧ v0 = .int .u32 a ∧ v1 = .int .u32 b ∧ s = .int .u32 c ∧ (0 ≤ a ∧ a < 4294967296) ∧ (0 ≤ b ∧ b < 4294967296) ∧ (0 ≤ c ∧ c < 4294967296)
theorem UnRel.start {n : Int} {K : K4} {y0 y1 s0 : Int} (hn : 0 ≤ n) (h0 : 0 ≤ y0 ∧ y0 < 4294967296) (h1 : 0 ≤ y1 ∧ y1 < 4294967296) (h2 : 0 ≤ s0 ∧ s0 < 4294967296) : UnRel n K y0 y1 s0 (.int .u32 y0) (.int .u32 y1) (.int .u32 s0) (.int .i64 0) :=
  ⟨0, y0, y1, s0, rfl, by simpa using hn, rfl, rfl, rfl, rfl, h0, h1, h2⟩
theorem UnRel.next {n : Int} {K : K4} {y0 y1 s0 a b c a' b' s' : Int} {k : Nat} (h : teaFrom K y0 y1 s0 k = (a, b, c)) (hk : (k : Int) < n)
    (hs : s' = (c - 2654435769) % 4294967296) (hb : b' = (b - tF a c K.c K.d) % 4294967296) (ha : a' = (a - tF b' c K.a K.b) % 4294967296) :
    UnRel n K y0 y1 s0 (.int .u32 a') (.int .u32 b') (.int .u32 s') (.int .i64 (k + 1)) := by
  refine ⟨k + 1, a', b', s', ?_, by omega, by simp, rfl, rfl, rfl, ?_, ?_, ?_⟩
  · show teaBack K _ = _
    rw [h, ha, hb, hs]
    rfl
  · rw [ha]; exact mod32 _
  · rw [hb]; exact mod32 _
  · rw [hs]; exact mod32 _
set_option maxHeartbeats 800000 in
theorem dec_any (c sb so scap g : Nat) (ks bs : List Int) (rounds : Int) (cs : Array Value) (w : World)
    (hk : CB w c 0 ks) (hkz : InB ks) (hkl : ks.length = 16) (hr : w.cell? ⟨c, 16, none⟩ = some (.int .i64 rounds)) (hr0 : 0 ≤ rounds) (hr1 : rounds ≤ 200)
    (hb : CB w sb so bs) (hbz : InB bs) (hbl : bs.length = 8) (hcap : 8 ≤ scap) (hcap2 : scap ≤ maxLen)
    (hg : w.heap[g]? = some (.cells cs 5 (0, 0))) (hgs : cs.size = 8) :
    Calls Try.prog 15 #[.pointer (some ⟨c, 0, none⟩), .slice (some ⟨g, 0, none⟩) 8 8, .slice (some ⟨sb, so, none⟩) 8 scap] w fun e w' => e = .returned (.tuple #[]) ∧ w.grownBy w' (some g) ∧
      w'.heap[g]? = some (.cells (put4 (put4 cs 0 (teaFrom ⟨beAt ks 0, beAt ks 4, beAt ks 8, beAt ks 12⟩ (beAt bs 0) (beAt bs 4) (2654435769 * (rounds / 2) % 4294967296) (rounds / 2).toNat).1) 4 (teaFrom ⟨beAt ks 0, beAt ks 4, beAt ks 8, beAt ks 12⟩ (beAt bs 0) (beAt bs 4) (2654435769 * (rounds / 2) % 4294967296) (rounds / 2).toNat).2.1) 5 (0, 0)) := by
  have HK := Lib.hid hkl; have HB := Lib.hid hbl; have HG := Lib.hid hg; have HGS := Lib.hid hgs
  clear hkl hbl hg hgs
  have hx0 : 0 ≤ beAt bs 0 ∧ beAt bs 0 < 4294967296 := beAt_bd _ _
  have hx1 : 0 ≤ beAt bs 4 ∧ beAt bs 4 < 4294967296 := beAt_bd _ _
  unfold maxLen at hcap2
  go_enter Try.func15, Try.ntmps15
  go_wp2_with fail
  go_quiet ((go_at_call 25; first | with_reducible (exact be_q0 hb hbz (by have := HB.out; omega) (by omega)) | with_reducible (exact be_q 4 hb hbz (by have := HB.out; omega) (by omega))))
  go_wp2_with fail
  go_quiet ((go_at_call 25; first | with_reducible (exact be_qk 0 hk hkz (by have := HK.out; omega) (by omega)) | with_reducible (exact be_qk 4 hk hkz (by have := HK.out; omega) (by omega)) | with_reducible (exact be_qk 8 hk hkz (by have := HK.out; omega) (by omega)) | with_reducible (exact be_qk 12 hk hkz (by have := HK.out; omega) (by omega))))
  go_wp2_with fail
  go_loop [6, 7, 13, 14] (fun v0 v1 s i => UnRel (rounds / 2) ⟨beAt ks 0, beAt ks 4, beAt ks 8, beAt ks 12⟩ (beAt bs 0) (beAt bs 4) (2654435769 * (rounds / 2) % 4294967296) v0 v1 s i) (fun _ _ _ i => (rounds / 2 - intOf i).toNat)
  case atStart => exact UnRel.start (by omega) hx0 hx1 (mod32 _)
  case round =>
    obtain ⟨k, a, b, c', hT, hk1, rfl, rfl, rfl, rfl, ⟨ha0, ha1⟩, ⟨hb0, hb1⟩, hc0, hc1⟩ := hrel
    have HT := Lib.hid hT; clear hT
    by_cases hlt : (k : Int) < rounds / 2
    · go_wp2
      go_round
      case rel =>
        refine UnRel.next HT.out hlt ?_ ?_ ?_
        · rfl
        · simp only [tF]
        · simp only [tF, Int.emod_add_emod]
      case measure => simp [intOf]; omega
    · go_wp2_with fail
      refine (put_any g 0 8 8 cs 5 a _ (by exact HG.out) (by have := HGS.out; omega) (by omega) ha0 ha1).mono ?_
      rintro e w1 ⟨rfl, hgr1, hg1⟩
      have HG1 := Lib.hid hg1; clear hg1
      go_wp2_with fail
      refine (put_any g 4 4 4 _ 5 b _ HG1.out (by rw [size_put4]; have := HGS.out; omega) (by omega) hb0 hb1).mono ?_
      rintro e w2 ⟨rfl, hgr2, hg2⟩
      have HG2 := Lib.hid hg2; clear hg2
      go_wp2_with fail
      go_end0
      refine ⟨rfl, ?_, ?_⟩
      · exact gtrans (gtrans (grown_drewN (World.grownBy.refl w _) _) hgr1) hgr2
      · have : (rounds / 2).toNat = k := by omega
        rw [this, HT.out]
        exact HG2.out
end Go.Proofs.Ytbepfmhkccgnfaa
