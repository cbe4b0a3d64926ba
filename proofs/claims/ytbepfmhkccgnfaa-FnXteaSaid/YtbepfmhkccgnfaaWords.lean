/- WHAT: the reference's keyWords, words, and laws.same: for keys of 16 bytes, any words that fit, any two slices of bytes. -/
import Derived.Test.YtbepfmhkccgnfaaNew
import Derived.Deep.RegionHeld3
import Derived.BigRegion
import Derived.Laws.BytesArg
namespace Go.Proofs.Ytbepfmhkccgnfaa
open Go.RowKit
def keyAgg (zs : List Int) : Value := .agg #[.int .u32 (beAt zs 0), .int .u32 (beAt zs 4), .int .u32 (beAt zs 8), .int .u32 (beAt zs 12)]
theorem word_at0 {b off n cap : Nat} {zs : List Int} {w : World} (hc : CB w b off zs) (hz : InB zs) (hi : 4 ≤ zs.length) (hn : 4 ≤ n) :
    Calls Try.prog 19 #[.slice (some ⟨b, off, none⟩) n cap] w fun e w' => e = .returned (.int .u32 (beAt zs 0)) ∧ Quiet w w' := word_at b off 0 n cap zs w hc hz (by omega) hn
/-- the world inside 'keyWords': the argument reads as it did, the result's variable is there -/
def KW (w : World) (b off : Nat) (zs : List Int) (w' : World) : Prop := CB w' b off zs ∧ Below w.heap.size w w' ∧ ∃ cs : Array Value, w'.heap[w.heap.size]? = some (.cells cs 39 (0, 0)) ∧ cs.size = 4
theorem KW.quiet {w : World} {b off : Nat} {zs : List Int} {w1 w2 : World} (h : KW w b off zs w1) (hq : Quiet w1 w2) : KW w b off zs w2 := by
  obtain ⟨h1, h2, cs, h3, h4⟩ := h
  obtain ⟨m, rfl⟩ := hq
  exact ⟨h1.drewN m, ⟨h2.os, h2.tape, h2.output, h2.size, h2.block⟩, cs, h3, h4⟩
theorem KW.drew {w : World} {b off : Nat} {zs : List Int} {w1 : World} (h : KW w b off zs w1) : KW w b off zs w1.drew := h.quiet ⟨1, rfl⟩
theorem KW.set {w : World} {b off : Nat} {zs : List Int} {w1 : World} (h : KW w b off zs w1) (hb : b < w.heap.size) (i : Nat) (v : Value) : KW w b off zs (w1.setCell ⟨w.heap.size, i, none⟩ v) := by
  obtain ⟨h1, h2, cs, h3, h4⟩ := h
  exact ⟨h1.of_block (heap_setCell_other w1 ⟨w.heap.size, i, none⟩ b v (by simp; omega)), h2.setCell (Nat.le_refl _) v, _, heap_setCell_same w1 _ i cs 39 v h3, by simpa using h4⟩
theorem KW.set4 {w : World} {b off : Nat} {zs : List Int} {w1 : World} {v0 v1 v2 v3 : Value} (h : KW w b off zs w1) (hb : b < w.heap.size) :
    KW w b off zs ((((w1.setCell ⟨w.heap.size, 0, none⟩ v0).setCell ⟨w.heap.size, 1, none⟩ v1).setCell ⟨w.heap.size, 2, none⟩ v2).setCell ⟨w.heap.size, 3, none⟩ v3) :=
  (((h.set hb 0 v0).set hb 1 v1).set hb 2 v2).set hb 3 v3
theorem array4 {α : Type} (cs : Array α) (h : cs.size = 4) : ∃ a b c d, cs = #[a, b, c, d] := by
  obtain ⟨l⟩ := cs
  match l, h with
  | [a, b, c, d], _ => exact ⟨a, b, c, d, rfl⟩
theorem KW.block4 {w : World} {b off : Nat} {zs : List Int} {w1 : World} {v0 v1 v2 v3 : Value} (h : KW w b off zs w1) :
    ((((w1.setCell ⟨w.heap.size, 0, none⟩ v0).setCell ⟨w.heap.size, 1, none⟩ v1).setCell ⟨w.heap.size, 2, none⟩ v2).setCell ⟨w.heap.size, 3, none⟩ v3).heap[w.heap.size]? = some (.cells #[v0, v1, v2, v3] 39 (0, 0)) := by
  obtain ⟨_, _, cs, h3, h4⟩ := h
  obtain ⟨a, b, c, d, rfl⟩ := array4 cs h4
  exact st4_block w1 w.heap.size 0 #[a, b, c, d] 39 v0 v1 v2 v3 h3
theorem KW.cells {w : World} {b off : Nat} {zs : List Int} {w1 : World} (h : KW w b off zs w1) :
    (∃ x0, w1.cell? ⟨w.heap.size, 0, none⟩ = some x0) ∧ (∃ x1, w1.cell? ⟨w.heap.size, 1, none⟩ = some x1) ∧ (∃ x2, w1.cell? ⟨w.heap.size, 2, none⟩ = some x2) ∧ (∃ x3, w1.cell? ⟨w.heap.size, 3, none⟩ = some x3) ∧
      w1.frozen? ⟨w.heap.size, 0, none⟩ = false ∧ w1.frozen? ⟨w.heap.size, 1, none⟩ = false ∧ w1.frozen? ⟨w.heap.size, 2, none⟩ = false ∧ w1.frozen? ⟨w.heap.size, 3, none⟩ = false := by
  obtain ⟨_, _, cs, h3, h4⟩ := h
  have c : ∀ j, j < 4 → ∃ x, w1.cell? ⟨w.heap.size, j, none⟩ = some x := fun j hj => ⟨cs[j]'(by omega), by rw [cell_of_row w1 _ j cs 39 (0, 0) h3]; simp [h4, hj]⟩
  exact ⟨c 0 (by omega), c 1 (by omega), c 2 (by omega), c 3 (by omega), frozen_of_row w1 _ _ cs 39 h3, frozen_of_row w1 _ _ cs 39 h3, frozen_of_row w1 _ _ cs 39 h3, frozen_of_row w1 _ _ cs 39 h3⟩
theorem KW.call0 {w : World} {b off n cap : Nat} {zs : List Int} {w1 : World} (h : KW w b off zs w1) (hz : InB zs) (hi : 4 ≤ zs.length) (hn : 4 ≤ n) :
    Calls Try.prog 19 #[.slice (some ⟨b, off, none⟩) n cap] w1 fun e w' => e = .returned (.int .u32 (beAt zs 0)) ∧ KW w b off zs w' :=
  (word_at0 h.1 hz hi hn).mono fun _ _ ⟨h1, h2⟩ => ⟨h1, h.quiet h2⟩
theorem KW.call (i : Nat) {w : World} {b off n cap : Nat} {zs : List Int} {w1 : World} (h : KW w b off zs w1) (hz : InB zs) (hi : i + 4 ≤ zs.length) (hn : 4 ≤ n) :
    Calls Try.prog 19 #[.slice (some ⟨b, off + i, none⟩) n cap] w1 fun e w' => e = .returned (.int .u32 (beAt zs i)) ∧ KW w b off zs w' :=
  (word_at b off i n cap zs w1 h.1 hz hi hn).mono fun _ _ ⟨h1, h2⟩ => ⟨h1, h.quiet h2⟩
set_option maxHeartbeats 3000000 in
theorem keyWords_any (b off cap : Nat) (zs : List Int) (w : World) (hc : CB w b off zs) (hz : InB zs) (hn : zs.length = 16) (hcap : 16 ≤ cap) (hcap2 : cap ≤ maxLen) :
    Calls Try.prog 18 #[.slice (some ⟨b, off, none⟩) 16 cap] w fun e w' => e = .returned (keyAgg zs) ∧ Below w.heap.size w w' := by
  have HN := Lib.hid hn; clear hn
  unfold maxLen at hcap2
  have e4 : ¬ cap = 4 := by omega
  have e8 : ¬ cap = 8 := by omega
  have e12 : ¬ cap = 12 := by omega
  have hlt := block_lt_of_cell (hc 0 (by have := HN.out; omega))
  go_enter Try.func18, Try.ntmps18
  go_wp2_with fail
  have HK : KW w b off zs (w.alloc (.cells #[.int .u32 0, .int .u32 0, .int .u32 0, .int .u32 0] 39)) :=
    ⟨CB.of_block hc (Below.heap_alloc w _ b hlt), (Below.refl _ _).alloc (Nat.le_refl _) _, _, heap_alloc_new w _, rfl⟩
  clear hc
  go_region_held3 (fun w' => KW w b off zs w') (first | with_reducible exact HK.drew | with_reducible assumption | exact KW.set4 (by with_reducible assumption) hlt) (first
    | (go_at_call 19; with_reducible refine (KW.call0 (by assumption) hz (by have := HN.out; omega) (by omega)).mono ?_; rintro e w' ⟨rfl, hq⟩)
    | (go_at_call 19; with_reducible refine (KW.call 4 (by assumption) hz (by have := HN.out; omega) (by omega)).mono ?_; rintro e w' ⟨rfl, hq⟩)
    | (go_at_call 19; with_reducible refine (KW.call 8 (by assumption) hz (by have := HN.out; omega) (by omega)).mono ?_; rintro e w' ⟨rfl, hq⟩)
    | (go_at_call 19; with_reducible refine (KW.call 12 (by assumption) hz (by have := HN.out; omega) (by omega)).mono ?_; rintro e w' ⟨rfl, hq⟩; obtain ⟨⟨x0, c0⟩, ⟨x1, c1⟩, ⟨x2, c2⟩, ⟨x3, c3⟩, f0, f1, f2, f3⟩ := hq.cells))
  go_wp2
  exact bodyPost_ret (v := keyAgg zs) (results_cell_row rfl _ _ w.heap.size 39 _ (0, 0) (.array 4 38) rfl hq.block4 Try.underlying39 rfl (by kernel_rfl)) rfl ⟨rfl, (hq.set4 hlt).2.1⟩

/-- a number's four bytes, the highest first -/
def b4 (x : Int) : List Int := [x / 16777216, x / 65536 % 256, x / 256 % 256, x % 256]
def bs (xs : List Int) : List Int := xs.flatMap b4
theorem bs_len (xs : List Int) : (bs xs).length = 4 * xs.length := by
  induction xs with
  | nil => rfl
  | cons x r ih => simp [bs, b4] at ih ⊢; omega
theorem bs_snoc (xs : List Int) (k : Nat) (h : k < xs.length) : bs (xs.take (k + 1)) = bs (xs.take k) ++ b4 (xs.getD k 0) := by
  rw [List.take_succ_eq_append_getElem h]; unfold bs; rw [List.flatMap_append]; simp [h]
/-- the variadic argument's cells -/
def CW (w : World) (b : Nat) (xs : List Int) : Prop := ∀ i, i < xs.length → w.cell? ⟨b, i, none⟩ = some (.int .u32 (xs.getD i 0))
def U32 (xs : List Int) : Prop := ∀ i, 0 ≤ xs.getD i 0 ∧ xs.getD i 0 < 4294967296
/-- the loop of 'words' -/
def WRel (w : World) (xs : List Int) (v i : Value) (wr : World) : Prop :=
  ∃ k : Nat, k ≤ xs.length ∧ i = .int .i64 k ∧ wr.ownsRow w.heap.size 5 1 v (4 * k) ((bs (xs.take k)).map (Value.int .u8)) ∧ Below w.heap.size w wr
set_option maxHeartbeats 800000 in
theorem words_any (b n cap : Nat) (xs : List Int) (w : World) (hc : CW w b xs) (hu : U32 xs) (hn : xs.length = n) (hn2 : n ≤ 1000) :
    Calls Try.prog 20 #[.slice (some ⟨b, 0, none⟩) n cap] w fun e w' => ∃ v, e = .returned v ∧ w'.ownsRow w.heap.size 5 1 v (4 * n) ((bs xs).map (Value.int .u8)) ∧ Below w.heap.size w w' := by
  have HN := Lib.hid hn; clear hn
  obtain ⟨i0, hi, hz0, hz1, hz2⟩ := info_parts Try.info5
  go_enter Try.func20, Try.ntmps20
  go_wp2_with fail
  go_loopw [3, 9] (fun v i wr => WRel w xs v i wr) (fun _ i _ => n - (intOf i).toNat)
  case atStart => exact ⟨0, Nat.zero_le _, rfl, owns_empty w, (Below.refl _ _).alloc (Nat.le_refl _) _⟩
  case round =>
    obtain ⟨k, hk, rfl, hown, hb⟩ := hrel
    have hk' : k ≤ n := by have := HN.out; omega
    clear hk
    by_cases hlt : k < n
    · have hcx : wr.cell? ⟨b, k, none⟩ = some (.int .u32 (xs.getD k 0)) := by
        have h1 := hc k (by have := HN.out; omega)
        exact (hb.cell (p := ⟨b, k, none⟩) (block_lt_of_cell h1)).trans h1
      obtain ⟨u0, u1⟩ := hu k
      generalize hx : xs.getD k 0 = x at *
      have HX := Lib.hid hx; clear hx
      have HC := Lib.hid hc; clear hc
      have HU := Lib.hid hu; clear hu
      have HO := Lib.hid hown; clear hown
      have HB := Lib.hid hb; clear hb
      go_wp2_with (at_builtin; refine wpList_append_own _ rfl _ _ 22 rfl w.heap.size 5 i0 (.int .u8 0) 1 1 Try.underlying22 hi hz0 hz1 hz2 rfl (by decide) _ (4 * k) _ rfl (HO.out.alloc _) ⟨wr.heap.size, 0, none⟩ 4 4 ((b4 x).map (Value.int .u8)) rfl rfl ?c1 ?c2 ?c3 ?c4 ?c5 ?_)
      case c1 =>
        intro j u hj
        have h1 : ((⟨wr.heap.size, 0, none⟩ : Addr).add j) = ⟨wr.heap.size, j, none⟩ := by unfold Addr.add; split <;> simp_all
        rw [h1, cell_of_row _ _ _ _ 5 (0, 0) (heap_alloc_new wr _)]
        simpa [b4] using hj
      case c2 => exact u8s_one _
      case c3 => unfold maxLen; omega
      case c4 => omega
      case c5 => have := HB.out.size; simp; omega
      intro v' w1 hown' hgrow _
      have HO1 := Lib.hid hown'; have HG1 := Lib.hid hgrow
      clear hown' hgrow
      have hlt' : k < xs.length := by have := HN.out; omega
      go_wp2
      go_roundw
      case rel =>
        refine ⟨k + 1, by omega, by simp, ?_, ?_⟩
        · rw [bs_snoc xs k hlt', HX.out, List.map_append]
          exact HO1.out
        · exact (HB.out.alloc HB.out.size _).grown HG1.out (by have := HB.out.size; simp; omega) (fun j hj => (HO.out.lt j hj).1)
      case measure => simp [intOf]; omega
    · have HO := Lib.hid hown; clear hown
      have HB := Lib.hid hb; clear hb
      have hkn : k = n := by omega
      have HKN := Lib.hid hkn; clear hkn
      go_wp2
      go_ret
      refine ⟨_, rfl, ?_, HB.out⟩
      have h1 := HO.out
      rw [HKN.out, List.take_of_length_le (by have := HN.out; omega)] at h1
      exact h1
set_option maxHeartbeats 400000 in
theorem same_eq (b1 o1 n1 c1 b2 o2 n2 c2 : Nat) (zs : List Int) (w : World) (h1 : CB w b1 o1 zs) (l1 : zs.length = n1) (h2 : CB w b2 o2 zs) (l2 : zs.length = n2) :
    Calls Try.prog 9 #[.slice (some ⟨b1, o1, none⟩) n1 c1, .slice (some ⟨b2, o2, none⟩) n2 c2] w fun e w' => e = .returned (.bool true) ∧ w = w' := by
  have r1 := run_convert_bytes_arg (P := Try.prog) w 22 5 Try.underlying22 Try.underlying5 b1 o1 n1 c1 zs l1 (fun i hi => h1 i (by omega)) 9 Try.underlying9
  have r2 := run_convert_bytes_arg (P := Try.prog) w 22 5 Try.underlying22 Try.underlying5 b2 o2 n2 c2 zs l2 (fun i hi => h2 i (by omega)) 9 Try.underlying9
  clear h1 h2 l1 l2
  generalize strOfNums zs = s at *
  go_enter Try.func9, Try.ntmps9
  go_wp2
  go_ret
  exact ⟨by simp, rfl⟩
end Go.Proofs.Ytbepfmhkccgnfaa
