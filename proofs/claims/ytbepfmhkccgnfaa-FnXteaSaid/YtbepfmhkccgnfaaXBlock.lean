/- WHAT: xtea.blockToUint32 and uint32ToBlock: blocks of 8 bytes. -/
import Derived.Test.YtbepfmhkccgnfaaBase

namespace Go.Proofs.Ytbepfmhkccgnfaa
open Go.RowKit
set_option maxHeartbeats 800000 in
theorem blk8 (b off n cap : Nat) (z0 z1 z2 z3 z4 z5 z6 z7 : Int) (w : World)
    (h0 : w.cell? ⟨b, off, none⟩ = some (.int .u8 z0)) (h1 : w.cell? ⟨b, off + 1, none⟩ = some (.int .u8 z1))
    (h2 : w.cell? ⟨b, off + 2, none⟩ = some (.int .u8 z2)) (h3 : w.cell? ⟨b, off + 3, none⟩ = some (.int .u8 z3))
    (h4 : w.cell? ⟨b, off + 4, none⟩ = some (.int .u8 z4)) (h5 : w.cell? ⟨b, off + 5, none⟩ = some (.int .u8 z5))
    (h6 : w.cell? ⟨b, off + 6, none⟩ = some (.int .u8 z6)) (h7 : w.cell? ⟨b, off + 7, none⟩ = some (.int .u8 z7))
    (hn : 8 ≤ n) (a0 : 0 ≤ z0 ∧ z0 ≤ 255) (a1 : 0 ≤ z1 ∧ z1 ≤ 255) (a2 : 0 ≤ z2 ∧ z2 ≤ 255) (a3 : 0 ≤ z3 ∧ z3 ≤ 255)
    (a4 : 0 ≤ z4 ∧ z4 ≤ 255) (a5 : 0 ≤ z5 ∧ z5 ≤ 255) (a6 : 0 ≤ z6 ∧ z6 ≤ 255) (a7 : 0 ≤ z7 ∧ z7 ≤ 255) :
    Calls Try.prog 30 #[.slice (some ⟨b, off, none⟩) n cap] w fun e w' => e = .returned (.tuple #[.int .u32 (beI z0 z1 z2 z3), .int .u32 (beI z4 z5 z6 z7)]) ∧ Quiet w w' := by
  go_enter Try.func30, Try.ntmps30
  go_wp2
  go_quiet (fail)
  go_wp2
  go_quiet (fail)
  go_wp2
  go_ret2
  exact ⟨rfl, _, World.drewN_drewN _ _ _⟩
theorem blk_any (b off n cap : Nat) (zs : List Int) (w : World) (hc : CB w b off zs) (hz : InB zs) (hi : 8 ≤ zs.length) (hn : 8 ≤ n) :
    Calls Try.prog 30 #[.slice (some ⟨b, off, none⟩) n cap] w fun e w' => e = .returned (.tuple #[.int .u32 (beAt zs 0), .int .u32 (beAt zs 4)]) ∧ Quiet w w' :=
  blk8 b off n cap _ _ _ _ _ _ _ _ w (hc 0 (by omega)) (hc 1 (by omega)) (hc 2 (by omega)) (hc 3 (by omega)) (hc 4 (by omega)) (hc 5 (by omega)) (hc 6 (by omega)) (hc 7 (by omega)) hn
    (hz.at' 0 (by omega)) (hz.at' 1 (by omega)) (hz.at' 2 (by omega)) (hz.at' 3 (by omega)) (hz.at' 4 (by omega)) (hz.at' 5 (by omega)) (hz.at' 6 (by omega)) (hz.at' 7 (by omega))
set_option maxHeartbeats 800000 in
theorem out_cells (g n cap : Nat) (x0 x1 x2 x3 x4 x5 x6 x7 : Value) (a b : Int) (w : World) (c0 : w.cell? ⟨g, 0, none⟩ = some x0) (c1 : w.cell? ⟨g, 1, none⟩ = some x1)
    (c2 : w.cell? ⟨g, 2, none⟩ = some x2) (c3 : w.cell? ⟨g, 3, none⟩ = some x3) (c4 : w.cell? ⟨g, 4, none⟩ = some x4) (c5 : w.cell? ⟨g, 5, none⟩ = some x5) (c6 : w.cell? ⟨g, 6, none⟩ = some x6) (c7 : w.cell? ⟨g, 7, none⟩ = some x7)
    (f0 : w.frozen? ⟨g, 0, none⟩ = false) (f1 : w.frozen? ⟨g, 1, none⟩ = false) (f2 : w.frozen? ⟨g, 2, none⟩ = false) (f3 : w.frozen? ⟨g, 3, none⟩ = false)
    (f4 : w.frozen? ⟨g, 4, none⟩ = false) (f5 : w.frozen? ⟨g, 5, none⟩ = false) (f6 : w.frozen? ⟨g, 6, none⟩ = false) (f7 : w.frozen? ⟨g, 7, none⟩ = false)
    (hn : 8 ≤ n) (a0 : 0 ≤ a) (a1 : a < 4294967296) (b0 : 0 ≤ b) (b1 : b < 4294967296) :
    Calls Try.prog 31 #[.int .u32 a, .int .u32 b, .slice (some ⟨g, 0, none⟩) n cap] w fun e w' => e = .returned (.tuple #[]) ∧
      w' = st4 (st4 w g 0 (.int .u8 (a / 16777216)) (.int .u8 (a / 65536 % 256)) (.int .u8 (a / 256 % 256)) (.int .u8 (a % 256))) g 4 (.int .u8 (b / 16777216)) (.int .u8 (b / 65536 % 256)) (.int .u8 (b / 256 % 256)) (.int .u8 (b % 256)) := by
  go_enter Try.func31, Try.ntmps31
  go_wp2
  go_end0
  exact ⟨rfl, rfl⟩
theorem out_any (g n cap : Nat) (cs : Array Value) (t : TypeId) (a b : Int) (w : World) (hg : w.heap[g]? = some (.cells cs t (0, 0))) (hi : 8 ≤ cs.size) (hn : 8 ≤ n) (a0 : 0 ≤ a) (a1 : a < 4294967296) (b0 : 0 ≤ b) (b1 : b < 4294967296) :
    Calls Try.prog 31 #[.int .u32 a, .int .u32 b, .slice (some ⟨g, 0, none⟩) n cap] w fun e w' => e = .returned (.tuple #[]) ∧ w.grownBy w' (some g) ∧ w'.heap[g]? = some (.cells (put4 (put4 cs 0 a) 4 b) t (0, 0)) := by
  have c : ∀ j, j < cs.size → ∃ x, w.cell? ⟨g, j, none⟩ = some x := fun j hj => ⟨cs[j], by rw [cell_of_row w g j cs t (0, 0) hg]; simp [hj]⟩
  obtain ⟨x0, c0⟩ := c 0 (by omega)
  obtain ⟨x1, c1⟩ := c 1 (by omega)
  obtain ⟨x2, c2⟩ := c 2 (by omega)
  obtain ⟨x3, c3⟩ := c 3 (by omega)
  obtain ⟨x4, c4⟩ := c 4 (by omega)
  obtain ⟨x5, c5⟩ := c 5 (by omega)
  obtain ⟨x6, c6⟩ := c 6 (by omega)
  obtain ⟨x7, c7⟩ := c 7 (by omega)
  have f : ∀ j, w.frozen? ⟨g, j, none⟩ = false := fun j => frozen_of_row w g j cs t hg
  refine (out_cells g n cap x0 x1 x2 x3 x4 x5 x6 x7 a b w c0 c1 c2 c3 c4 c5 c6 c7 (f 0) (f 1) (f 2) (f 3) (f 4) (f 5) (f 6) (f 7) hn a0 a1 b0 b1).mono ?_
  rintro e w' ⟨rfl, rfl⟩
  exact ⟨rfl, gtrans (st4_grown ..) (st4_grown ..), st4_block _ g 4 _ t _ _ _ _ (st4_block w g 0 cs t _ _ _ _ hg)⟩
end Go.Proofs.Ytbepfmhkccgnfaa
