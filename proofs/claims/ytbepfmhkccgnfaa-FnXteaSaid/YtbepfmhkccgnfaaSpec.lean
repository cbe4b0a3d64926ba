/- WHAT: a block encrypted by the reference of TEA: for keys of 16 bytes, blocks of 8, 0 to 200 rounds. -/
import Derived.Test.YtbepfmhkccgnfaaWords
import Derived.Deep.RegionHeld3
namespace Go.Proofs.Ytbepfmhkccgnfaa
open Go.RowKit
theorem word_q0 {b off n cap m : Nat} {zs : List Int} {w : World} (hc : CB w b off zs) (hz : InB zs) (hi : 4 ≤ zs.length) (hn : 4 ≤ n) :
    Calls Try.prog 19 #[.slice (some ⟨b, off, none⟩) n cap] (w.drewN m) fun e w'' => e = .returned (.int .u32 (beAt zs 0)) ∧ ∃ m, w'' = w.drewN m :=
  Calls.quiet_of (word_at b off 0 n cap zs (w.drewN m) (hc.drewN m) hz (by omega) hn)
theorem word_q (i : Nat) {b off n cap m : Nat} {zs : List Int} {w : World} (hc : CB w b off zs) (hz : InB zs) (hi : i + 4 ≤ zs.length) (hn : 4 ≤ n) :
    Calls Try.prog 19 #[.slice (some ⟨b, off + i, none⟩) n cap] (w.drewN m) fun e w'' => e = .returned (.int .u32 (beAt zs i)) ∧ ∃ m, w'' = w.drewN m :=
  Calls.quiet_of (word_at b off i n cap zs (w.drewN m) (hc.drewN m) hz hi hn)
theorem below_drewN' {B : Nat} {a w : World} (h : Below B a w) (n : Nat) : Below B a (w.drewN n) := ⟨h.os, h.tape, h.output, h.size, h.block⟩
theorem owns_weaken {w : World} {B B' e size n : Nat} {v : Value} {xs : List Value} (h : w.ownsRow B e size v n xs) (hB : B' ≤ B) : w.ownsRow B' e size v n xs := by
  obtain ⟨h1, h2⟩ := h
  refine ⟨h1, ?_⟩
  rcases h2 with h2 | ⟨g, cap, cur, r1, r2, r3⟩
  · exact .inl h2
  · exact .inr ⟨g, cap, cur, r1, Nat.le_trans hB r2, r3⟩
theorem sl_of_owns {B B' n : Nat} {v : Value} {zs : List Int} {w : World} (h : w.ownsRow B' 5 1 v n (zs.map (Value.int .u8))) (hB : B ≤ B') (hn : n = zs.length) (h0 : 0 < n) : Sl B v zs w := by
  subst hn
  refine (own_of (owns_weaken h hB) ?_).sl
  intro e
  obtain ⟨_, h | ⟨g, cap, cur, r1, _⟩⟩ := h
  · omega
  · rw [e] at r1; cases r1
theorem u32_pair {a b : Int} (ha : 0 ≤ a ∧ a < 4294967296) (hb : 0 ≤ b ∧ b < 4294967296) : U32 [a, b] := by
  intro i
  match i with
  | 0 => simpa using ha
  | 1 => simpa using hb
  | i + 2 => simp
theorem cw_pair {w : World} {g : Nat} {a b : Int} {t : TypeId} {fr : Nat × Nat} (h : w.heap[g]? = some (.cells #[.int .u32 a, .int .u32 b] t fr)) : CW w g [a, b] := by
  intro i hi
  rw [cell_of_row w g i _ t fr h]
  match i, hi with
  | 0, _ => rfl
  | 1, _ => rfl
set_option maxHeartbeats 800000 in
theorem specTea_any (kb ko kcap sb so scap : Nat) (ks bs8 : List Int) (rounds : Int) (w : World)
    (hk : CB w kb ko ks) (hkz : InB ks) (hkl : ks.length = 16) (hkc : 16 ≤ kcap) (hkc2 : kcap ≤ maxLen) (hr0 : 0 ≤ rounds) (hr1 : rounds ≤ 200)
    (hb : CB w sb so bs8) (hbz : InB bs8) (hbl : bs8.length = 8) (hcap : 8 ≤ scap) (hcap2 : scap ≤ maxLen) :
    Calls Try.prog 10 #[.slice (some ⟨kb, ko, none⟩) 16 kcap, .int .i64 rounds, .slice (some ⟨sb, so, none⟩) 8 scap] w fun e w' => ∃ v, e = .returned v ∧
      Sl w.heap.size v (bs [(teaTo ⟨beAt ks 0, beAt ks 4, beAt ks 8, beAt ks 12⟩ (beAt bs8 0) (beAt bs8 4) (rounds / 2).toNat).1, (teaTo ⟨beAt ks 0, beAt ks 4, beAt ks 8, beAt ks 12⟩ (beAt bs8 0) (beAt bs8 4) (rounds / 2).toNat).2.1]) w' ∧ Below w.heap.size w w' := by
  have KW := Lib.hid (keyWords_any kb ko kcap ks w hk hkz hkl hkc hkc2)
  have sblt := block_lt_of_cell (hb 0 (by omega))
  have HB := Lib.hid hb
  have HBL := Lib.hid hbl
  have hx0 : 0 ≤ beAt bs8 0 ∧ beAt bs8 0 < 4294967296 := beAt_bd _ _
  have hx1 : 0 ≤ beAt bs8 4 ∧ beAt bs8 4 < 4294967296 := beAt_bd _ _
  clear hk hkz hkl hkc hkc2 hb hbl
  unfold maxLen at hcap2
  have e4 : ¬ scap = 4 := by omega
  go_enter Try.func10, Try.ntmps10
  go_wp2_with fail
  refine KW.out.mono ?_
  rintro e w1 ⟨rfl, hb1⟩
  have hb1' : CB w1 sb so bs8 := HB.out.below hb1 sblt
  have hlt1 := block_lt_of_cell (hb1' 0 (by have := HBL.out; omega))
  have hb2 : CB (w1.alloc (.cells #[.int .u32 (beAt ks 0), .int .u32 (beAt ks 4), .int .u32 (beAt ks 8), .int .u32 (beAt ks 12)] 39)) sb so bs8 := hb1'.of_block (Below.heap_alloc w1 _ sb hlt1)
  have HB2 := Lib.hid hb2
  have HBW := Lib.hid hb1
  clear hb1 hb1' hb2
  unfold keyAgg
  go_wp2_with fail
  go_quiet ((go_at_call 19; first | with_reducible (exact word_q0 HB2.out hbz (by have := HBL.out; omega) (by omega)) | with_reducible (exact word_q 4 HB2.out hbz (by have := HBL.out; omega) (by omega))))
  go_wp2_with fail
  go_loop [8, 9, 10, 11] (fun v0 v1 s i => TeaRel (rounds / 2) ⟨beAt ks 0, beAt ks 4, beAt ks 8, beAt ks 12⟩ (beAt bs8 0) (beAt bs8 4) v0 v1 s i) (fun _ _ _ i => (rounds / 2 - intOf i).toNat)
  case atStart => exact TeaRel.start (by omega) hx0 hx1
  case round =>
    obtain ⟨k, a, b, c', hT, hk1, rfl, rfl, rfl, rfl, ⟨ha0, ha1⟩, ⟨hb0, hb1⟩, hc0, hc1⟩ := hrel
    have HT := Lib.hid hT; clear hT
    by_cases hlt : (k : Int) < rounds / 2
    · go_wp2
      go_round
      case rel =>
        refine TeaRel.next HT.out hlt ?_ ?_ ?_
        · rfl
        · simp only [tF, Int.add_emod_emod]
        · simp only [tF, Int.add_emod_emod, Int.emod_add_emod]
      case measure => simp [intOf]; omega
    · go_wp2_with fail
      refine (words_any _ 2 2 [a, b] _ (cw_pair (t := 38) (fr := (0, 0)) ?hh) (u32_pair ⟨ha0, ha1⟩ ⟨hb0, hb1⟩) rfl (by omega)).mono ?_
      case hh => exact heap_alloc2_new w1 _ _
      rintro e w3 ⟨v, rfl, hown, hb3⟩
      have HO := Lib.hid hown; have H3 := Lib.hid hb3
      clear hown hb3
      go_wp2
      go_ret
      have hk : (rounds / 2).toNat = k := by omega
      rw [hk, HT.out]
      have hsz := HBW.out.size
      have hB : Below w.heap.size w w3 := by
        refine Below.trans ?_ (H3.out.mono ?_)
        · exact below_drewN' ((HBW.out.alloc hsz _).alloc (by simp; omega) _) _
        · simp; omega
      refine ⟨_, rfl, ?_, hB⟩
      exact sl_of_owns HO.out (by simp; omega) (by simp [bs_len]) (by omega)
end Go.Proofs.Ytbepfmhkccgnfaa
