/- WHAT: xtea.NewCipher, Encrypt, Decrypt and the thin package's Xtea: keys of 16 bytes, blocks of 8; other keys are refused. -/
import Derived.Test.YtbepfmhkccgnfaaXInit
import Derived.Test.YtbepfmhkccgnfaaImpl
namespace Go.Proofs.Ytbepfmhkccgnfaa
open Go.RowKit
/-- the zero table -/
def zero64 : Array Value := #[.int .u32 0, .int .u32 0, .int .u32 0, .int .u32 0, .int .u32 0, .int .u32 0, .int .u32 0, .int .u32 0, .int .u32 0, .int .u32 0, .int .u32 0, .int .u32 0, .int .u32 0, .int .u32 0, .int .u32 0, .int .u32 0, .int .u32 0, .int .u32 0, .int .u32 0, .int .u32 0, .int .u32 0, .int .u32 0, .int .u32 0, .int .u32 0, .int .u32 0, .int .u32 0, .int .u32 0, .int .u32 0, .int .u32 0, .int .u32 0, .int .u32 0, .int .u32 0, .int .u32 0, .int .u32 0, .int .u32 0, .int .u32 0, .int .u32 0, .int .u32 0, .int .u32 0, .int .u32 0, .int .u32 0, .int .u32 0, .int .u32 0, .int .u32 0, .int .u32 0, .int .u32 0, .int .u32 0, .int .u32 0, .int .u32 0, .int .u32 0, .int .u32 0, .int .u32 0, .int .u32 0, .int .u32 0, .int .u32 0, .int .u32 0, .int .u32 0, .int .u32 0, .int .u32 0, .int .u32 0, .int .u32 0, .int .u32 0, .int .u32 0, .int .u32 0]
set_option maxHeartbeats 800000 in
theorem xnew_good (b off cap : Nat) (ks : List Int) (w : World) (hc : CB w b off ks) (hz : InB ks) (hn : ks.length = 16) :
    Calls Try.prog 21 #[.slice (some ⟨b, off, none⟩) 16 cap] w fun e w' => e = .returned (.tuple #[.pointer (some ⟨w.heap.size, 0, none⟩), .nilIface]) ∧ Below w.heap.size w w' ∧
      w'.heap[w.heap.size]? = some (.cells (tArr ks zero64 64) 56 (0, 0)) := by
  have blt := block_lt_of_cell (hc 0 (by omega))
  have C := Lib.hid (init_any w.heap.size b off cap ks zero64 (w.alloc (.cells zero64 56)) (hc.of_block (Below.heap_alloc w _ b blt)) hz hn (heap_alloc_new w _) rfl)
  clear hc hn
  go_enter Try.func21, Try.ntmps21
  go_wp2_with fail
  refine C.out.mono ?_
  rintro e w1 ⟨rfl, hg, hh⟩
  have HG := Lib.hid hg; have HH := Lib.hid hh
  clear hg hh
  go_wp2
  go_ret2
  exact ⟨rfl, ((Below.refl _ _).alloc (Nat.le_refl _) _).grown HG.out (by simp) (fun k hk => by injection hk with hk; omega), HH.out⟩
set_option maxHeartbeats 800000 in
theorem xnew_len (b : Option Addr) (n cap : Nat) (w : World) (hn : ¬ n = 16) :
    Calls Try.prog 21 #[.slice b n cap] w fun e w' => e = .returned (.tuple #[.pointer none, .iface 53 (.int .i64 n)]) ∧ w = w' := by
  have ht : ((n : Int) == 16) = false := by rw [beq_eq_false_iff_ne]; omega
  go_enter Try.func21, Try.ntmps21
  go_wp2
  go_ret2
  exact ⟨rfl, rfl⟩
set_option maxHeartbeats 400000 in
theorem xEnc (c sb so scap g : Nat) (tb : Nat → Int) (bs8 : List Int) (cs : Array Value) (w : World)
    (ht : CU w c 64 tb) (htb : ∀ i, In32 (tb i)) (hb : CB w sb so bs8) (hbz : InB bs8) (hbl : bs8.length = 8)
    (hg : w.heap[g]? = some (.cells cs 5 (0, 0))) (hgs : cs.size = 8) :
    Calls Try.prog 23 #[.pointer (some ⟨c, 0, none⟩), .slice (some ⟨g, 0, none⟩) 8 8, .slice (some ⟨sb, so, none⟩) 8 scap] w fun e w' => e = .returned (.tuple #[]) ∧ w.grownBy w' (some g) ∧
      w'.heap[g]? = some (.cells (put4 (put4 cs 0 (xTo tb (beAt bs8 0) (beAt bs8 4) 32).1) 4 (xTo tb (beAt bs8 0) (beAt bs8 4) 32).2) 5 (0, 0)) := by
  have C := Lib.hid (xenc_any c sb so scap g tb bs8 cs w ht htb hb hbz hbl hg hgs)
  clear ht htb hb hbz hbl hg hgs
  go_enter Try.func23, Try.ntmps23
  go_wp2_with fail
  refine C.out.mono ?_
  rintro e w1 ⟨rfl, hg, hh⟩
  have HG := Lib.hid hg; have HH := Lib.hid hh
  clear hg hh
  go_wp2_with fail
  go_end0
  exact ⟨rfl, HG.out, HH.out⟩
set_option maxHeartbeats 400000 in
theorem xDec (c sb so scap g : Nat) (tb : Nat → Int) (bs8 : List Int) (cs : Array Value) (w : World)
    (ht : CU w c 64 tb) (htb : ∀ i, In32 (tb i)) (hb : CB w sb so bs8) (hbz : InB bs8) (hbl : bs8.length = 8)
    (hg : w.heap[g]? = some (.cells cs 5 (0, 0))) (hgs : cs.size = 8) :
    Calls Try.prog 22 #[.pointer (some ⟨c, 0, none⟩), .slice (some ⟨g, 0, none⟩) 8 8, .slice (some ⟨sb, so, none⟩) 8 scap] w fun e w' => e = .returned (.tuple #[]) ∧ w.grownBy w' (some g) ∧
      w'.heap[g]? = some (.cells (put4 (put4 cs 0 (xFrom tb (beAt bs8 0) (beAt bs8 4) 32).1) 4 (xFrom tb (beAt bs8 0) (beAt bs8 4) 32).2) 5 (0, 0)) := by
  have C := Lib.hid (xdec_any c sb so scap g tb bs8 cs w ht htb hb hbz hbl hg hgs)
  clear ht htb hb hbz hbl hg hgs
  go_enter Try.func22, Try.ntmps22
  go_wp2_with fail
  refine C.out.mono ?_
  rintro e w1 ⟨rfl, hg, hh⟩
  have HG := Lib.hid hg; have HH := Lib.hid hh
  clear hg hh
  go_wp2_with fail
  go_end0
  exact ⟨rfl, HG.out, HH.out⟩
set_option maxHeartbeats 800000 in
theorem xtea_enc (kb ko kcap sb so scap : Nat) (ks bs8 : List Int) (w : World)
    (hk : CB w kb ko ks) (hkz : InB ks) (hkl : ks.length = 16)
    (hb : CB w sb so bs8) (hbz : InB bs8) (hbl : bs8.length = 8) :
    Calls Try.prog 11 #[.slice (some ⟨kb, ko, none⟩) 16 kcap, .slice (some ⟨sb, so, none⟩) 8 scap, .bool false] w fun e w' => ∃ v, e = .returned (.tuple #[v, .bool true]) ∧
      Sl w.heap.size v (bs [(xTo (xTab ks) (beAt bs8 0) (beAt bs8 4) 32).1, (xTo (xTab ks) (beAt bs8 0) (beAt bs8 4) 32).2]) w' ∧ Below w.heap.size w w' := by
  have sblt := block_lt_of_cell (hb 0 (by omega))
  have HB := Lib.hid hb
  have HBL := Lib.hid hbl
  have HKL := Lib.hid hkl
  have C1 := Lib.hid (clone_any kb ko 16 kcap ks w hk hkl (by omega))
  clear hb hbl hkl hk
  go_enter Try.func11, Try.ntmps11
  go_wp2_with fail
  refine C1.out.mono ?_
  rintro e w1 ⟨v1, rfl, hs1, hw1⟩
  have HW1 := Lib.hid hw1
  obtain ⟨g1, cp1, rfl, hg1, hg1', hc1, hc1', hcb1⟩ := hs1
  have HCB1 := Lib.hid hcb1
  clear hw1 hcb1
  rw [HKL.out]
  go_wp2_with fail
  refine (xnew_good g1 0 cp1 ks w1 HCB1.out hkz HKL.out).mono ?_
  rintro e w2 ⟨rfl, hw2, hh2⟩
  have HW2 := Lib.hid hw2; have HH2 := Lib.hid hh2
  clear hw2 hh2
  have hmk := mk8
  go_wp2_with fail
  have HB12 := Lib.hid (HW1.out.trans (HW2.out.mono HW1.out.size))
  have HCB2 := Lib.hid (CB.newer (o := .cells zero8 5) HB.out HB12.out sblt)
  refine (clone_any sb so 8 scap bs8 _ HCB2.out HBL.out (by omega)).mono ?_
  rintro e w3 ⟨v3, rfl, hs3, hw3⟩
  have HW3 := Lib.hid hw3
  obtain ⟨g3, cp3, rfl, hg3, hg3', hc3, hc3', hcb3⟩ := hs3
  have HCB3 := Lib.hid hcb3
  clear hw3 hcb3
  rw [HBL.out]
  have hsz1 := HW1.out.size
  have hsz2 := HW2.out.size
  have hsz3 : w2.heap.size + 1 ≤ w3.heap.size := by have := HW3.out.size; simpa using this
  have hcl : w1.heap.size < w2.heap.size := lt_of_block HH2.out
  have hh3 : w3.heap[w1.heap.size]? = some (.cells (tArr ks zero64 64) 56 (0, 0)) :=
    (HW3.out.block _ (by simp; omega)).trans ((Below.heap_alloc w2 _ _ hcl).trans HH2.out)
  have hz3 : w3.heap[w2.heap.size]? = some (.cells zero8 5 (0, 0)) := (HW3.out.block _ (by simp)).trans (heap_alloc_new w2 _)
  have C := Lib.hid (xEnc w1.heap.size g3 0 cp3 w2.heap.size (xTab ks) bs8 zero8 w3 (tArr_cu hh3) (xTab_bd ks) HCB3.out hbz HBL.out hz3 rfl)
  clear hh3 hz3
  go_wp2_with fail
  refine C.out.mono ?_
  rintro e w4 ⟨rfl, hgr, hh4⟩
  have HG := Lib.hid hgr; have HH4 := Lib.hid hh4
  clear hgr hh4
  go_wp2
  go_ret2
  have hlt4 := lt_of_block HH4.out
  have hsb : Below w.heap.size w w4 := by
    have h1 : Below w.heap.size w w3 := (HB12.out.alloc (by omega) _).trans (HW3.out.mono (by simp; omega))
    exact h1.grown HG.out (by omega) (fun k hk => by injection hk with hk; omega)
  refine ⟨_, rfl, ⟨w2.heap.size, 8, rfl, by omega, hlt4, by rw [bs_len]; simp, by decide, put_two HH4.out⟩, hsb⟩
set_option maxHeartbeats 800000 in
theorem xtea_dec (kb ko kcap sb so scap : Nat) (ks bs8 : List Int) (w : World)
    (hk : CB w kb ko ks) (hkz : InB ks) (hkl : ks.length = 16)
    (hb : CB w sb so bs8) (hbz : InB bs8) (hbl : bs8.length = 8) :
    Calls Try.prog 11 #[.slice (some ⟨kb, ko, none⟩) 16 kcap, .slice (some ⟨sb, so, none⟩) 8 scap, .bool true] w fun e w' => ∃ v, e = .returned (.tuple #[v, .bool true]) ∧
      Sl w.heap.size v (bs [(xFrom (xTab ks) (beAt bs8 0) (beAt bs8 4) 32).1, (xFrom (xTab ks) (beAt bs8 0) (beAt bs8 4) 32).2]) w' ∧ Below w.heap.size w w' := by
  have sblt := block_lt_of_cell (hb 0 (by omega))
  have HB := Lib.hid hb
  have HBL := Lib.hid hbl
  have HKL := Lib.hid hkl
  have C1 := Lib.hid (clone_any kb ko 16 kcap ks w hk hkl (by omega))
  clear hb hbl hkl hk
  go_enter Try.func11, Try.ntmps11
  go_wp2_with fail
  refine C1.out.mono ?_
  rintro e w1 ⟨v1, rfl, hs1, hw1⟩
  have HW1 := Lib.hid hw1
  obtain ⟨g1, cp1, rfl, hg1, hg1', hc1, hc1', hcb1⟩ := hs1
  have HCB1 := Lib.hid hcb1
  clear hw1 hcb1
  rw [HKL.out]
  go_wp2_with fail
  refine (xnew_good g1 0 cp1 ks w1 HCB1.out hkz HKL.out).mono ?_
  rintro e w2 ⟨rfl, hw2, hh2⟩
  have HW2 := Lib.hid hw2; have HH2 := Lib.hid hh2
  clear hw2 hh2
  have hmk := mk8
  go_wp2_with fail
  have HB12 := Lib.hid (HW1.out.trans (HW2.out.mono HW1.out.size))
  have HCB2 := Lib.hid (CB.newer (o := .cells zero8 5) HB.out HB12.out sblt)
  refine (clone_any sb so 8 scap bs8 _ HCB2.out HBL.out (by omega)).mono ?_
  rintro e w3 ⟨v3, rfl, hs3, hw3⟩
  have HW3 := Lib.hid hw3
  obtain ⟨g3, cp3, rfl, hg3, hg3', hc3, hc3', hcb3⟩ := hs3
  have HCB3 := Lib.hid hcb3
  clear hw3 hcb3
  rw [HBL.out]
  have hsz1 := HW1.out.size
  have hsz2 := HW2.out.size
  have hsz3 : w2.heap.size + 1 ≤ w3.heap.size := by have := HW3.out.size; simpa using this
  have hcl : w1.heap.size < w2.heap.size := lt_of_block HH2.out
  have hh3 : w3.heap[w1.heap.size]? = some (.cells (tArr ks zero64 64) 56 (0, 0)) :=
    (HW3.out.block _ (by simp; omega)).trans ((Below.heap_alloc w2 _ _ hcl).trans HH2.out)
  have hz3 : w3.heap[w2.heap.size]? = some (.cells zero8 5 (0, 0)) := (HW3.out.block _ (by simp)).trans (heap_alloc_new w2 _)
  have C := Lib.hid (xDec w1.heap.size g3 0 cp3 w2.heap.size (xTab ks) bs8 zero8 w3 (tArr_cu hh3) (xTab_bd ks) HCB3.out hbz HBL.out hz3 rfl)
  clear hh3 hz3
  go_wp2_with fail
  refine C.out.mono ?_
  rintro e w4 ⟨rfl, hgr, hh4⟩
  have HG := Lib.hid hgr; have HH4 := Lib.hid hh4
  clear hgr hh4
  go_wp2
  go_ret2
  have hlt4 := lt_of_block HH4.out
  have hsb : Below w.heap.size w w4 := by
    have h1 : Below w.heap.size w w3 := (HB12.out.alloc (by omega) _).trans (HW3.out.mono (by simp; omega))
    exact h1.grown HG.out (by omega) (fun k hk => by injection hk with hk; omega)
  refine ⟨_, rfl, ⟨w2.heap.size, 8, rfl, by omega, hlt4, by rw [bs_len]; simp, by decide, put_two HH4.out⟩, hsb⟩
theorem neq_nil53 (n : Int) (w : World) : (binOp .neq 32 (.iface 53 (.int .i64 n)) .nilIface).run Try.prog w = .ok (.bool true) w := by kernel_rfl
set_option maxHeartbeats 800000 in
theorem xtea_ref (v blk : Value) (back : Bool) (n : Nat) (w : World) (h : CloneKey v n w) (hn : ¬ n = 16) :
    Calls Try.prog 11 #[v, blk, .bool back] w fun e w' => e = .returned (.tuple #[.slice none 0 0, .bool false]) ∧ Below w.heap.size w w' := by
  have C1 := Lib.hid h
  have HN := Lib.hid hn
  clear h hn
  go_enter Try.func11, Try.ntmps11
  go_wp2_with fail
  refine C1.out.mono ?_
  rintro e w1 ⟨a, cap, rfl, hb1⟩
  have HB1 := Lib.hid hb1; clear hb1
  go_wp2_with fail
  refine (xnew_len a n cap w1 HN.out).mono ?_
  rintro e w2 ⟨rfl, rfl⟩
  go_wp2
  go_ret2
  exact ⟨rfl, HB1.out⟩
end Go.Proofs.Ytbepfmhkccgnfaa
