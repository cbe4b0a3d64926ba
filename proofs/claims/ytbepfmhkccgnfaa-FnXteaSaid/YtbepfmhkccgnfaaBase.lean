/- The base of the proofs about TEA and XTEA: reading and writing four bytes, no condition beyond those of each theorem. -/
import Derived.Test.YtbepfmhkccgnfaaRows
import Derived.WalkKit
import Derived.WalkSpells
import Derived.WalkLawsBesides
import Derived.Deep.QuietTactic
import Derived.BigQuiet
import Derived.Lib.Hide
import Derived.Laws.BitsAllLaws
namespace Go.Proofs.Ytbepfmhkccgnfaa
open Go.RowKit

/-- the cells of block b from off on read as these bytes -/
def CB (w : World) (b off : Nat) (zs : List Int) : Prop := ∀ i, i < zs.length → w.cell? ⟨b, off + i, none⟩ = some (.int .u8 (zs.getD i 0))
def InB (zs : List Int) : Prop := ∀ z ∈ zs, 0 ≤ z ∧ z ≤ 255
theorem InB.at' {zs : List Int} (h : InB zs) (i : Nat) (hi : i < zs.length) : 0 ≤ zs.getD i 0 ∧ zs.getD i 0 ≤ 255 := by
  have : zs.getD i 0 = zs[i] := by simp [hi]
  rw [this]; exact h _ (List.getElem_mem hi)
/-- the number of four bytes, as the walk writes it -/
def beI (z0 z1 z2 z3 : Int) : Int := bits .or .u32 (bits .or .u32 (bits .or .u32 (z0 * 16777216) (z1 * 65536)) (z2 * 256)) z3
def beAt (zs : List Int) (i : Nat) : Int := beI (zs.getD i 0) (zs.getD (i + 1) 0) (zs.getD (i + 2) 0) (zs.getD (i + 3) 0)
def Quiet (w w' : World) : Prop := ∃ k, w' = w.drewN k

set_option maxHeartbeats 400000 in
theorem word4 (b off n cap : Nat) (z0 z1 z2 z3 : Int) (w : World)
    (h0 : w.cell? ⟨b, off, none⟩ = some (.int .u8 z0)) (h1 : w.cell? ⟨b, off + 1, none⟩ = some (.int .u8 z1))
    (h2 : w.cell? ⟨b, off + 2, none⟩ = some (.int .u8 z2)) (h3 : w.cell? ⟨b, off + 3, none⟩ = some (.int .u8 z3))
    (hn : 4 ≤ n) (a0 : 0 ≤ z0) (a1 : 0 ≤ z1) (a2 : 0 ≤ z2) (a3 : 0 ≤ z3) (b0 : z0 ≤ 255) (b1 : z1 ≤ 255) (b2 : z2 ≤ 255) (b3 : z3 ≤ 255) :
    Calls Try.prog 19 #[.slice (some ⟨b, off, none⟩) n cap] w fun e w' => e = .returned (.int .u32 (beI z0 z1 z2 z3)) ∧ Quiet w w' := by
  go_enter Try.func19, Try.ntmps19
  go_wp2
  go_quiet (fail)
  go_wp2
  go_ret
  exact ⟨rfl, _, rfl⟩
set_option maxHeartbeats 400000 in
theorem be4 (b off n cap : Nat) (z0 z1 z2 z3 : Int) (w : World)
    (h0 : w.cell? ⟨b, off, none⟩ = some (.int .u8 z0)) (h1 : w.cell? ⟨b, off + 1, none⟩ = some (.int .u8 z1))
    (h2 : w.cell? ⟨b, off + 2, none⟩ = some (.int .u8 z2)) (h3 : w.cell? ⟨b, off + 3, none⟩ = some (.int .u8 z3))
    (hn : 4 ≤ n) (a0 : 0 ≤ z0) (a1 : 0 ≤ z1) (a2 : 0 ≤ z2) (a3 : 0 ≤ z3) (b0 : z0 ≤ 255) (b1 : z1 ≤ 255) (b2 : z2 ≤ 255) (b3 : z3 ≤ 255) :
    Calls Try.prog 25 #[.slice (some ⟨b, off, none⟩) n cap] w fun e w' => e = .returned (.int .u32 (beI z0 z1 z2 z3)) ∧ Quiet w w' := by
  go_enter Try.func25, Try.ntmps25
  go_wp2
  go_quiet (fail)
  go_wp2
  go_ret
  exact ⟨rfl, _, rfl⟩
theorem word_at (b off i n cap : Nat) (zs : List Int) (w : World) (hc : CB w b off zs) (hz : InB zs) (hi : i + 4 ≤ zs.length) (hn : 4 ≤ n) :
    Calls Try.prog 19 #[.slice (some ⟨b, off + i, none⟩) n cap] w fun e w' => e = .returned (.int .u32 (beAt zs i)) ∧ Quiet w w' := by
  have := hz.at' i (by omega); have := hz.at' (i + 1) (by omega); have := hz.at' (i + 2) (by omega); have := hz.at' (i + 3) (by omega)
  exact word4 b (off + i) n cap _ _ _ _ w (hc i (by omega)) (hc (i + 1) (by omega)) (hc (i + 2) (by omega)) (hc (i + 3) (by omega)) hn (by omega) (by omega) (by omega) (by omega) (by omega) (by omega) (by omega) (by omega)
theorem be_at (b off i n cap : Nat) (zs : List Int) (w : World) (hc : CB w b off zs) (hz : InB zs) (hi : i + 4 ≤ zs.length) (hn : 4 ≤ n) :
    Calls Try.prog 25 #[.slice (some ⟨b, off + i, none⟩) n cap] w fun e w' => e = .returned (.int .u32 (beAt zs i)) ∧ Quiet w w' := by
  have := hz.at' i (by omega); have := hz.at' (i + 1) (by omega); have := hz.at' (i + 2) (by omega); have := hz.at' (i + 3) (by omega)
  exact be4 b (off + i) n cap _ _ _ _ w (hc i (by omega)) (hc (i + 1) (by omega)) (hc (i + 2) (by omega)) (hc (i + 3) (by omega)) hn (by omega) (by omega) (by omega) (by omega) (by omega) (by omega) (by omega) (by omega)

/-- v's bytes put at i -/
def put4 (cs : Array Value) (i : Nat) (v : Int) : Array Value :=
  (((cs.setIfInBounds i (.int .u8 (v / 16777216))).setIfInBounds (i + 1) (.int .u8 (v / 65536 % 256))).setIfInBounds (i + 2) (.int .u8 (v / 256 % 256))).setIfInBounds (i + 3) (.int .u8 (v % 256))
theorem size_put4 (cs : Array Value) (i : Nat) (v : Int) : (put4 cs i v).size = cs.size := by simp [put4]
theorem grown_setCell (w : World) (g i : Nat) (v : Value) : w.grownBy (w.setCell ⟨g, i, none⟩ v) (some g) :=
  ⟨rfl, rfl, rfl, by simp [World.setCell], fun k _ hk => heap_setCell_other w ⟨g, i, none⟩ k v (fun e => hk (by rw [e]))⟩
theorem gtrans {a b c : World} {row : Option Nat} (h : a.grownBy b row) (k : b.grownBy c row) : a.grownBy c row :=
  ⟨k.os.trans h.os, k.tape.trans h.tape, k.output.trans h.output, Nat.le_trans h.size k.size, fun i hi hr => (k.block i (Nat.lt_of_lt_of_le hi h.size) hr).trans (h.block i hi hr)⟩
/-- four stores one after the other -/
def st4 (w : World) (g i : Nat) (a b c d : Value) : World :=
  (((w.setCell ⟨g, i, none⟩ a).setCell ⟨g, i + 1, none⟩ b).setCell ⟨g, i + 2, none⟩ c).setCell ⟨g, i + 3, none⟩ d
theorem st4_grown (w : World) (g i : Nat) (a b c d : Value) : w.grownBy (st4 w g i a b c d) (some g) :=
  gtrans (gtrans (gtrans (grown_setCell w g i a) (grown_setCell _ g (i + 1) b)) (grown_setCell _ g (i + 2) c)) (grown_setCell _ g (i + 3) d)
theorem st4_block (w : World) (g i : Nat) (cs : Array Value) (t : TypeId) (a b c d : Value) (hg : w.heap[g]? = some (.cells cs t (0, 0))) :
    (st4 w g i a b c d).heap[g]? = some (.cells ((((cs.setIfInBounds i a).setIfInBounds (i + 1) b).setIfInBounds (i + 2) c).setIfInBounds (i + 3) d) t (0, 0)) := by
  have h1 := heap_setCell_same w g i cs t a hg
  have h2 := heap_setCell_same _ g (i + 1) _ t b h1
  have h3 := heap_setCell_same _ g (i + 2) _ t c h2
  exact heap_setCell_same _ g (i + 3) _ t d h3
set_option maxHeartbeats 400000 in
theorem put_cells (g i n cap : Nat) (x0 x1 x2 x3 : Value) (v : Int) (w : World) (c0 : w.cell? ⟨g, i, none⟩ = some x0) (c1 : w.cell? ⟨g, i + 1, none⟩ = some x1)
    (c2 : w.cell? ⟨g, i + 2, none⟩ = some x2) (c3 : w.cell? ⟨g, i + 3, none⟩ = some x3)
    (f0 : w.frozen? ⟨g, i, none⟩ = false) (f1 : w.frozen? ⟨g, i + 1, none⟩ = false) (f2 : w.frozen? ⟨g, i + 2, none⟩ = false) (f3 : w.frozen? ⟨g, i + 3, none⟩ = false)
    (hn : 4 ≤ n) (v0 : 0 ≤ v) (v1 : v < 4294967296) :
    Calls Try.prog 26 #[.slice (some ⟨g, i, none⟩) n cap, .int .u32 v] w fun e w' => e = .returned (.tuple #[]) ∧ w' = st4 w g i (.int .u8 (v / 16777216)) (.int .u8 (v / 65536 % 256)) (.int .u8 (v / 256 % 256)) (.int .u8 (v % 256)) := by
  go_enter Try.func26, Try.ntmps26
  go_wp2
  go_end0
  exact ⟨rfl, rfl⟩
theorem put_any (g i n cap : Nat) (cs : Array Value) (t : TypeId) (v : Int) (w : World) (hg : w.heap[g]? = some (.cells cs t (0, 0))) (hi : i + 4 ≤ cs.size) (hn : 4 ≤ n) (v0 : 0 ≤ v) (v1 : v < 4294967296) :
    Calls Try.prog 26 #[.slice (some ⟨g, i, none⟩) n cap, .int .u32 v] w fun e w' => e = .returned (.tuple #[]) ∧ w.grownBy w' (some g) ∧ w'.heap[g]? = some (.cells (put4 cs i v) t (0, 0)) := by
  have c : ∀ j, j < cs.size → ∃ x, w.cell? ⟨g, j, none⟩ = some x := fun j hj => ⟨cs[j], by rw [cell_of_row w g j cs t (0, 0) hg]; simp [hj]⟩
  obtain ⟨x0, c0⟩ := c i (by omega)
  obtain ⟨x1, c1⟩ := c (i + 1) (by omega)
  obtain ⟨x2, c2⟩ := c (i + 2) (by omega)
  obtain ⟨x3, c3⟩ := c (i + 3) (by omega)
  refine (put_cells g i n cap x0 x1 x2 x3 v w c0 c1 c2 c3 (frozen_of_row w g _ cs t hg) (frozen_of_row w g _ cs t hg) (frozen_of_row w g _ cs t hg) (frozen_of_row w g _ cs t hg) hn v0 v1).mono ?_
  rintro e w' ⟨rfl, rfl⟩
  exact ⟨rfl, st4_grown .., st4_block w g i cs t _ _ _ _ hg⟩
theorem CB.drewN {w : World} {b off : Nat} {zs : List Int} (h : CB w b off zs) (n : Nat) : CB (w.drewN n) b off zs := by
  intro i hi; have := h i hi; simpa using this
/-- 'be32' inside a region that draws -/
theorem be_q0 {b off n cap m : Nat} {zs : List Int} {w : World} (hc : CB w b off zs) (hz : InB zs) (hi : 4 ≤ zs.length) (hn : 4 ≤ n) :
    Calls Try.prog 25 #[.slice (some ⟨b, off, none⟩) n cap] (w.drewN m) fun e w'' => e = .returned (.int .u32 (beAt zs 0)) ∧ ∃ m, w'' = w.drewN m :=
  Calls.quiet_of (be_at b off 0 n cap zs (w.drewN m) (hc.drewN m) hz (by omega) hn)
theorem be_q (i : Nat) {b off n cap m : Nat} {zs : List Int} {w : World} (hc : CB w b off zs) (hz : InB zs) (hi : i + 4 ≤ zs.length) (hn : 4 ≤ n) :
    Calls Try.prog 25 #[.slice (some ⟨b, off + i, none⟩) n cap] (w.drewN m) fun e w'' => e = .returned (.int .u32 (beAt zs i)) ∧ ∃ m, w'' = w.drewN m :=
  Calls.quiet_of (be_at b off i n cap zs (w.drewN m) (hc.drewN m) hz hi hn)
theorem quiet_add {P : Program} {f : FuncId} {args : Array Value} {w : World} {a n : Nat} {v : Value}
    (h : Calls P f args (w.drewN (a + n)) fun e w' => e = .returned v ∧ ∃ m, w' = (w.drewN (a + n)).drewN m) :
    Calls P f args (w.drewN (a + n)) fun e w'' => e = .returned v ∧ ∃ m, w'' = w.drewN (a + m) :=
  h.mono fun _ _ ⟨he, m, hm⟩ => ⟨he, n + m, by rw [hm, World.drewN_drewN, Nat.add_assoc]⟩
/-- 'be32' of the key's part, behind an earlier draw -/
theorem be_qk (i : Nat) {b n cap a m : Nat} {zs : List Int} {w : World} (hc : CB w b 0 zs) (hz : InB zs) (hi : i + 4 ≤ zs.length) (hn : 4 ≤ n) :
    Calls Try.prog 25 #[.slice (some ⟨b, i, none⟩) n cap] (w.drewN (a + m)) fun e w'' => e = .returned (.int .u32 (beAt zs i)) ∧ ∃ m, w'' = w.drewN (a + m) := by
  have := be_at b 0 i n cap zs (w.drewN (a + m)) (hc.drewN _) hz hi hn
  rw [Nat.zero_add] at this
  exact quiet_add this

/-! the plain functions of TEA, in the walk's own form -/
structure K4 where
  a : Int
  b : Int
  c : Int
  d : Int
def tF (v s k0 k1 : Int) : Int := bits .xor .u32 (bits .xor .u32 ((v * 16 + k0) % 4294967296) ((v + s) % 4294967296)) ((v / 32 + k1) % 4294967296)
def teaStep (K : K4) (st : Int × Int × Int) : Int × Int × Int :=
  ((st.1 + tF st.2.1 ((st.2.2 + 2654435769) % 4294967296) K.a K.b) % 4294967296,
   (st.2.1 + tF ((st.1 + tF st.2.1 ((st.2.2 + 2654435769) % 4294967296) K.a K.b) % 4294967296) ((st.2.2 + 2654435769) % 4294967296) K.c K.d) % 4294967296,
   (st.2.2 + 2654435769) % 4294967296)
def teaTo (K : K4) (x0 x1 : Int) : Nat → Int × Int × Int
  | 0 => (x0, x1, 0)
  | k + 1 => teaStep K (teaTo K x0 x1 k)
/-- the loop's state after some rounds -/
def TeaRel (n : Int) (K : K4) (x0 x1 : Int) (v0 v1 s i : Value) : Prop :=
  ∃ (k : Nat) (a b c : Int), teaTo K x0 x1 k = (a, b, c) ∧ (k : Int) ≤ n ∧ i = .int .i64 k ∧ v0 = .int .u32 a ∧ v1 = .int .u32 b ∧ s = .int .u32 c ∧ (0 ≤ a ∧ a < 4294967296) ∧ (0 ≤ b ∧ b < 4294967296) ∧ (0 ≤ c ∧ c < 4294967296)
theorem TeaRel.start {n : Int} {K : K4} {x0 x1 : Int} (hn : 0 ≤ n) (h0 : 0 ≤ x0 ∧ x0 < 4294967296) (h1 : 0 ≤ x1 ∧ x1 < 4294967296) : TeaRel n K x0 x1 (.int .u32 x0) (.int .u32 x1) (.int .u32 0) (.int .i64 0) :=
  ⟨0, x0, x1, 0, rfl, by simpa using hn, rfl, rfl, rfl, rfl, h0, h1, by omega⟩
theorem mod32 (x : Int) : 0 ≤ x % 4294967296 ∧ x % 4294967296 < 4294967296 := by omega
theorem TeaRel.next {n : Int} {K : K4} {x0 x1 a b c a' b' s' : Int} {k : Nat} (h : teaTo K x0 x1 k = (a, b, c)) (hk : (k : Int) < n)
    (hs : s' = (c + 2654435769) % 4294967296) (ha : a' = (a + tF b s' K.a K.b) % 4294967296) (hb : b' = (b + tF a' s' K.c K.d) % 4294967296) :
    TeaRel n K x0 x1 (.int .u32 a') (.int .u32 b') (.int .u32 s') (.int .i64 (k + 1)) := by
  refine ⟨k + 1, a', b', s', ?_, by omega, by simp, rfl, rfl, rfl, ?_, ?_, ?_⟩
  · show teaStep K _ = _
    rw [h, hb, ha, hs]
    rfl
  · rw [ha]; exact mod32 _
  · rw [hb]; exact mod32 _
  · rw [hs]; exact mod32 _
theorem grown_drewN {a w : World} {row : Option Nat} (h : a.grownBy w row) (n : Nat) : a.grownBy (w.drewN n) row := ⟨h.os, h.tape, h.output, h.size, h.block⟩
theorem u32_or_bd (a b : Int) : 0 ≤ bits .or .u32 a b ∧ bits .or .u32 a b < 4294967296 := by
  show 0 ≤ IntKind.u32.wrap _ ∧ IntKind.u32.wrap _ < _
  rw [IntKind.wrap_u32']; omega
theorem or_join (a b : Int) (p : Nat) (ha : 0 ≤ a) (hb : 0 ≤ b) (ha' : a < 4294967296) (hb' : b < 4294967296) (hm : a.toNat % 2 ^ p = 0) (hp : b.toNat < 2 ^ p) : bits .or .u32 a b = a + b := by
  rw [u32_or a b ha ha' hb hb', nat_join p _ _ hm hp]; omega
theorem beI_eq (z0 z1 z2 z3 : Int) (h0 : 0 ≤ z0 ∧ z0 ≤ 255) (h1 : 0 ≤ z1 ∧ z1 ≤ 255) (h2 : 0 ≤ z2 ∧ z2 ≤ 255) (h3 : 0 ≤ z3 ∧ z3 ≤ 255) :
    beI z0 z1 z2 z3 = z0 * 16777216 + z1 * 65536 + z2 * 256 + z3 := by
  unfold beI
  rw [or_join (z0 * 16777216) (z1 * 65536) 24 (by omega) (by omega) (by omega) (by omega) (by omega) (by omega)]
  rw [or_join (z0 * 16777216 + z1 * 65536) (z2 * 256) 16 (by omega) (by omega) (by omega) (by omega) (by omega) (by omega)]
  rw [or_join (z0 * 16777216 + z1 * 65536 + z2 * 256) z3 8 (by omega) (by omega) (by omega) (by omega) (by omega) (by omega)]
theorem beAt_bd (zs : List Int) (i : Nat) : 0 ≤ beAt zs i ∧ beAt zs i < 4294967296 := u32_or_bd _ _
end Go.Proofs.Ytbepfmhkccgnfaa
