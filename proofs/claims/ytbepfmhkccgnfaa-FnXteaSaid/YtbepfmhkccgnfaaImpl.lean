/- WHAT: what the thin package's Tea and TeaPlain answer: keys of 16 bytes, blocks of 8, 0 to 200 rounds; what is refused. -/
import Derived.Test.YtbepfmhkccgnfaaEnc
import Derived.Test.YtbepfmhkccgnfaaDec
import Derived.Test.YtbepfmhkccgnfaaSpec
namespace Go.Proofs.Ytbepfmhkccgnfaa
open Go.RowKit
theorem cells17_cb {w : World} {g : Nat} {zs : List Int} {r : Int} (h : w.heap[g]? = some (.cells (cells17 zs r).toArray 50 (0, 0))) : CB w g 0 zs :=
  CB.of_cells h (by simp [cells17])
theorem cells17_r {w : World} {g : Nat} {zs : List Int} {r : Int} (h : w.heap[g]? = some (.cells (cells17 zs r).toArray 50 (0, 0))) (hl : zs.length = 16) : w.cell? ⟨g, 16, none⟩ = some (.int .i64 r) := by
  rw [cell_of_row w g 16 _ 50 (0, 0) h]; simp [cells17, hl]
/-- eight zero bytes -/
def zero8 : Array Value := #[.int .u8 0, .int .u8 0, .int .u8 0, .int .u8 0, .int .u8 0, .int .u8 0, .int .u8 0, .int .u8 0]
theorem mk8 (w : World) : (Instr.makeSlice 22 (.int .i64 8) (.int .i64 8)).run Try.prog w = .ok (.slice (some ⟨w.heap.size, 0, none⟩) 8 8) (w.alloc (.cells zero8 5)) := by kernel_rfl
/-- the block that holds two numbers' bytes -/
theorem put_two {w : World} {g : Nat} {a b : Int} {fr : Nat × Nat} (h : w.heap[g]? = some (.cells (put4 (put4 zero8 0 a) 4 b) 5 fr)) : CB w g 0 (bs [a, b]) :=
  CB.of_cells h (by rfl)
theorem CB.newer {w w1 : World} {b off : Nat} {zs : List Int} {o : Obj} (h : CB w b off zs) (hw : Below w.heap.size w w1) (hb : b < w.heap.size) : CB (w1.alloc o) b off zs :=
  (h.below hw hb).of_block (Below.heap_alloc w1 o b (Nat.lt_of_lt_of_le hb hw.size))
set_option maxHeartbeats 800000 in
theorem tea_enc (kb ko kcap sb so scap : Nat) (ks bs8 : List Int) (rounds : Int) (w : World)
    (hk : CB w kb ko ks) (hkz : InB ks) (hkl : ks.length = 16) (hr0 : 0 ≤ rounds) (hr1 : rounds ≤ 200) (hev : rounds % 2 = 0)
    (hb : CB w sb so bs8) (hbz : InB bs8) (hbl : bs8.length = 8) :
    Calls Try.prog 7 #[.slice (some ⟨kb, ko, none⟩) 16 kcap, .int .i64 rounds, .slice (some ⟨sb, so, none⟩) 8 scap, .bool false] w fun e w' => ∃ v, e = .returned (.tuple #[v, .bool true]) ∧
      Sl w.heap.size v (bs [(teaTo ⟨beAt ks 0, beAt ks 4, beAt ks 8, beAt ks 12⟩ (beAt bs8 0) (beAt bs8 4) (rounds / 2).toNat).1, (teaTo ⟨beAt ks 0, beAt ks 4, beAt ks 8, beAt ks 12⟩ (beAt bs8 0) (beAt bs8 4) (rounds / 2).toNat).2.1]) w' ∧ Below w.heap.size w w' := by
  have sblt := block_lt_of_cell (hb 0 (by omega))
  have HB := Lib.hid hb
  have HBL := Lib.hid hbl
  have HKL := Lib.hid hkl
  have HE := Lib.hid hev
  have C1 := Lib.hid (clone_any kb ko 16 kcap ks w hk hkl (by omega))
  clear hb hbl hkl hk hev
  go_enter Try.func7, Try.ntmps7
  go_wp2_with fail
  refine C1.out.mono ?_
  rintro e w1 ⟨v1, rfl, hs1, hw1⟩
  have HW1 := Lib.hid hw1
  obtain ⟨g1, cp1, rfl, hg1, hg1', hc1, hc1', hcb1⟩ := hs1
  have HCB1 := Lib.hid hcb1
  clear hw1 hcb1
  rw [HKL.out]
  go_wp2_with fail
  refine (newr_good g1 0 cp1 ks rounds w1 HCB1.out HKL.out hr0 hr1 HE.out).mono ?_
  rintro e w2 ⟨rfl, hw2, hh2⟩
  have HW2 := Lib.hid hw2; have HH2 := Lib.hid hh2
  clear hw2 hh2
  have hmk := mk8
  go_wp2_with fail
  have HB12 := Lib.hid (HW1.out.trans (HW2.out.mono HW1.out.size))
  have HCB2 := Lib.hid (CB.newer (o := .cells zero8 5) HB.out HB12.out sblt)
  refine (clone_any sb so 8 scap bs8 _ HCB2.out HBL.out (by omega)).mono ?_
  rintro e w3 ⟨v3, rfl, hs3, hw3⟩
  have HW3 := Lib.hid hw3
  obtain ⟨g3, cp3, rfl, hg3, hg3', hc3, hc3', hcb3⟩ := hs3
  have HCB3 := Lib.hid hcb3
  clear hw3 hcb3
  rw [HBL.out]
  have hsz1 := HW1.out.size
  have hsz2 := HW2.out.size
  have hsz3 : w2.heap.size + 1 ≤ w3.heap.size := by have := HW3.out.size; simpa using this
  have hcl : w1.heap.size < w2.heap.size := lt_of_block HH2.out
  have hh3 : w3.heap[w1.heap.size]? = some (.cells (cells17 ks rounds).toArray 50 (0, 0)) :=
    (HW3.out.block _ (by simp; omega)).trans ((Below.heap_alloc w2 _ _ hcl).trans HH2.out)
  have hz3 : w3.heap[w2.heap.size]? = some (.cells zero8 5 (0, 0)) := (HW3.out.block _ (by simp)).trans (heap_alloc_new w2 _)
  have C := Lib.hid (enc_any w1.heap.size g3 0 cp3 w2.heap.size ks bs8 rounds zero8 w3 (cells17_cb hh3) hkz HKL.out (cells17_r hh3 HKL.out) hr0 hr1 HCB3.out hbz HBL.out (by have := HBL.out; omega) hc3' hz3 rfl)
  clear hh3 hz3
  go_wp2_with fail
  refine C.out.mono ?_
  rintro e w4 ⟨rfl, hgr, hh4⟩
  have HG := Lib.hid hgr; have HH4 := Lib.hid hh4
  clear hgr hh4
  go_wp2
  go_ret2
  have hlt4 := lt_of_block HH4.out
  have hsb : Below w.heap.size w w4 := by
    have h1 : Below w.heap.size w w3 := (HB12.out.alloc (by omega) _).trans (HW3.out.mono (by simp; omega))
    exact h1.grown HG.out (by omega) (fun k hk => by injection hk with hk; omega)
  refine ⟨_, rfl, ⟨w2.heap.size, 8, rfl, by omega, hlt4, by rw [bs_len]; simp, by decide, put_two HH4.out⟩, hsb⟩
set_option maxHeartbeats 800000 in
theorem tea_dec (kb ko kcap sb so scap : Nat) (ks bs8 : List Int) (rounds : Int) (w : World)
    (hk : CB w kb ko ks) (hkz : InB ks) (hkl : ks.length = 16) (hr0 : 0 ≤ rounds) (hr1 : rounds ≤ 200) (hev : rounds % 2 = 0)
    (hb : CB w sb so bs8) (hbz : InB bs8) (hbl : bs8.length = 8) :
    Calls Try.prog 7 #[.slice (some ⟨kb, ko, none⟩) 16 kcap, .int .i64 rounds, .slice (some ⟨sb, so, none⟩) 8 scap, .bool true] w fun e w' => ∃ v, e = .returned (.tuple #[v, .bool true]) ∧
      Sl w.heap.size v (bs [(teaFrom ⟨beAt ks 0, beAt ks 4, beAt ks 8, beAt ks 12⟩ (beAt bs8 0) (beAt bs8 4) (2654435769 * (rounds / 2) % 4294967296) (rounds / 2).toNat).1, (teaFrom ⟨beAt ks 0, beAt ks 4, beAt ks 8, beAt ks 12⟩ (beAt bs8 0) (beAt bs8 4) (2654435769 * (rounds / 2) % 4294967296) (rounds / 2).toNat).2.1]) w' ∧ Below w.heap.size w w' := by
  have sblt := block_lt_of_cell (hb 0 (by omega))
  have HB := Lib.hid hb
  have HBL := Lib.hid hbl
  have HKL := Lib.hid hkl
  have HE := Lib.hid hev
  have C1 := Lib.hid (clone_any kb ko 16 kcap ks w hk hkl (by omega))
  clear hb hbl hkl hk hev
  go_enter Try.func7, Try.ntmps7
  go_wp2_with fail
  refine C1.out.mono ?_
  rintro e w1 ⟨v1, rfl, hs1, hw1⟩
  have HW1 := Lib.hid hw1
  obtain ⟨g1, cp1, rfl, hg1, hg1', hc1, hc1', hcb1⟩ := hs1
  have HCB1 := Lib.hid hcb1
  clear hw1 hcb1
  rw [HKL.out]
  go_wp2_with fail
  refine (newr_good g1 0 cp1 ks rounds w1 HCB1.out HKL.out hr0 hr1 HE.out).mono ?_
  rintro e w2 ⟨rfl, hw2, hh2⟩
  have HW2 := Lib.hid hw2; have HH2 := Lib.hid hh2
  clear hw2 hh2
  have hmk := mk8
  go_wp2_with fail
  have HB12 := Lib.hid (HW1.out.trans (HW2.out.mono HW1.out.size))
  have HCB2 := Lib.hid (CB.newer (o := .cells zero8 5) HB.out HB12.out sblt)
  refine (clone_any sb so 8 scap bs8 _ HCB2.out HBL.out (by omega)).mono ?_
  rintro e w3 ⟨v3, rfl, hs3, hw3⟩
  have HW3 := Lib.hid hw3
  obtain ⟨g3, cp3, rfl, hg3, hg3', hc3, hc3', hcb3⟩ := hs3
  have HCB3 := Lib.hid hcb3
  clear hw3 hcb3
  rw [HBL.out]
  have hsz1 := HW1.out.size
  have hsz2 := HW2.out.size
  have hsz3 : w2.heap.size + 1 ≤ w3.heap.size := by have := HW3.out.size; simpa using this
  have hcl : w1.heap.size < w2.heap.size := lt_of_block HH2.out
  have hh3 : w3.heap[w1.heap.size]? = some (.cells (cells17 ks rounds).toArray 50 (0, 0)) :=
    (HW3.out.block _ (by simp; omega)).trans ((Below.heap_alloc w2 _ _ hcl).trans HH2.out)
  have hz3 : w3.heap[w2.heap.size]? = some (.cells zero8 5 (0, 0)) := (HW3.out.block _ (by simp)).trans (heap_alloc_new w2 _)
  have C := Lib.hid (dec_any w1.heap.size g3 0 cp3 w2.heap.size ks bs8 rounds zero8 w3 (cells17_cb hh3) hkz HKL.out (cells17_r hh3 HKL.out) hr0 hr1 HCB3.out hbz HBL.out (by have := HBL.out; omega) hc3' hz3 rfl)
  clear hh3 hz3
  go_wp2_with fail
  refine C.out.mono ?_
  rintro e w4 ⟨rfl, hgr, hh4⟩
  have HG := Lib.hid hgr; have HH4 := Lib.hid hh4
  clear hgr hh4
  go_wp2
  go_ret2
  have hlt4 := lt_of_block HH4.out
  have hsb : Below w.heap.size w w4 := by
    have h1 : Below w.heap.size w w3 := (HB12.out.alloc (by omega) _).trans (HW3.out.mono (by simp; omega))
    exact h1.grown HG.out (by omega) (fun k hk => by injection hk with hk; omega)
  refine ⟨_, rfl, ⟨w2.heap.size, 8, rfl, by omega, hlt4, by rw [bs_len]; simp, by decide, put_two HH4.out⟩, hsb⟩
set_option maxHeartbeats 800000 in
theorem plain_enc (kb ko kcap sb so scap : Nat) (ks bs8 : List Int) (w : World)
    (hk : CB w kb ko ks) (hkz : InB ks) (hkl : ks.length = 16)
    (hb : CB w sb so bs8) (hbz : InB bs8) (hbl : bs8.length = 8) :
    Calls Try.prog 8 #[.slice (some ⟨kb, ko, none⟩) 16 kcap, .slice (some ⟨sb, so, none⟩) 8 scap, .bool false] w fun e w' => ∃ v, e = .returned (.tuple #[v, .bool true]) ∧
      Sl w.heap.size v (bs [(teaTo ⟨beAt ks 0, beAt ks 4, beAt ks 8, beAt ks 12⟩ (beAt bs8 0) (beAt bs8 4) 32).1, (teaTo ⟨beAt ks 0, beAt ks 4, beAt ks 8, beAt ks 12⟩ (beAt bs8 0) (beAt bs8 4) 32).2.1]) w' ∧ Below w.heap.size w w' := by
  have sblt := block_lt_of_cell (hb 0 (by omega))
  have HB := Lib.hid hb
  have HBL := Lib.hid hbl
  have HKL := Lib.hid hkl
  have C1 := Lib.hid (clone_any kb ko 16 kcap ks w hk hkl (by omega))
  clear hb hbl hkl hk
  go_enter Try.func8, Try.ntmps8
  go_wp2_with fail
  refine C1.out.mono ?_
  rintro e w1 ⟨v1, rfl, hs1, hw1⟩
  have HW1 := Lib.hid hw1
  obtain ⟨g1, cp1, rfl, hg1, hg1', hc1, hc1', hcb1⟩ := hs1
  have HCB1 := Lib.hid hcb1
  clear hw1 hcb1
  rw [HKL.out]
  go_wp2_with fail
  refine (new_good g1 0 cp1 ks w1 HCB1.out HKL.out).mono ?_
  rintro e w2 ⟨rfl, hw2, hh2⟩
  have HW2 := Lib.hid hw2; have HH2 := Lib.hid hh2
  clear hw2 hh2
  have hmk := mk8
  go_wp2_with fail
  have HB12 := Lib.hid (HW1.out.trans (HW2.out.mono HW1.out.size))
  have HCB2 := Lib.hid (CB.newer (o := .cells zero8 5) HB.out HB12.out sblt)
  refine (clone_any sb so 8 scap bs8 _ HCB2.out HBL.out (by omega)).mono ?_
  rintro e w3 ⟨v3, rfl, hs3, hw3⟩
  have HW3 := Lib.hid hw3
  obtain ⟨g3, cp3, rfl, hg3, hg3', hc3, hc3', hcb3⟩ := hs3
  have HCB3 := Lib.hid hcb3
  clear hw3 hcb3
  rw [HBL.out]
  have hsz1 := HW1.out.size
  have hsz2 := HW2.out.size
  have hsz3 : w2.heap.size + 1 ≤ w3.heap.size := by have := HW3.out.size; simpa using this
  have hcl : w1.heap.size < w2.heap.size := lt_of_block HH2.out
  have hh3 : w3.heap[w1.heap.size]? = some (.cells (cells17 ks 64).toArray 50 (0, 0)) :=
    (HW3.out.block _ (by simp; omega)).trans ((Below.heap_alloc w2 _ _ hcl).trans HH2.out)
  have hz3 : w3.heap[w2.heap.size]? = some (.cells zero8 5 (0, 0)) := (HW3.out.block _ (by simp)).trans (heap_alloc_new w2 _)
  have C := Lib.hid (enc_any w1.heap.size g3 0 cp3 w2.heap.size ks bs8 64 zero8 w3 (cells17_cb hh3) hkz HKL.out (cells17_r hh3 HKL.out) (by omega) (by omega) HCB3.out hbz HBL.out (by have := HBL.out; omega) hc3' hz3 rfl)
  clear hh3 hz3
  go_wp2_with fail
  refine C.out.mono ?_
  rintro e w4 ⟨rfl, hgr, hh4⟩
  have HG := Lib.hid hgr; have HH4 := Lib.hid hh4
  clear hgr hh4
  go_wp2
  go_ret2
  have hlt4 := lt_of_block HH4.out
  have hsb : Below w.heap.size w w4 := by
    have h1 : Below w.heap.size w w3 := (HB12.out.alloc (by omega) _).trans (HW3.out.mono (by simp; omega))
    exact h1.grown HG.out (by omega) (fun k hk => by injection hk with hk; omega)
  refine ⟨_, rfl, ⟨w2.heap.size, 8, rfl, by omega, hlt4, by rw [bs_len]; simp, by decide, put_two HH4.out⟩, hsb⟩
set_option maxHeartbeats 800000 in
theorem plain_dec (kb ko kcap sb so scap : Nat) (ks bs8 : List Int) (w : World)
    (hk : CB w kb ko ks) (hkz : InB ks) (hkl : ks.length = 16)
    (hb : CB w sb so bs8) (hbz : InB bs8) (hbl : bs8.length = 8) :
    Calls Try.prog 8 #[.slice (some ⟨kb, ko, none⟩) 16 kcap, .slice (some ⟨sb, so, none⟩) 8 scap, .bool true] w fun e w' => ∃ v, e = .returned (.tuple #[v, .bool true]) ∧
      Sl w.heap.size v (bs [(teaFrom ⟨beAt ks 0, beAt ks 4, beAt ks 8, beAt ks 12⟩ (beAt bs8 0) (beAt bs8 4) (2654435769 * 32 % 4294967296) 32).1, (teaFrom ⟨beAt ks 0, beAt ks 4, beAt ks 8, beAt ks 12⟩ (beAt bs8 0) (beAt bs8 4) (2654435769 * 32 % 4294967296) 32).2.1]) w' ∧ Below w.heap.size w w' := by
  have sblt := block_lt_of_cell (hb 0 (by omega))
  have HB := Lib.hid hb
  have HBL := Lib.hid hbl
  have HKL := Lib.hid hkl
  have C1 := Lib.hid (clone_any kb ko 16 kcap ks w hk hkl (by omega))
  clear hb hbl hkl hk
  go_enter Try.func8, Try.ntmps8
  go_wp2_with fail
  refine C1.out.mono ?_
  rintro e w1 ⟨v1, rfl, hs1, hw1⟩
  have HW1 := Lib.hid hw1
  obtain ⟨g1, cp1, rfl, hg1, hg1', hc1, hc1', hcb1⟩ := hs1
  have HCB1 := Lib.hid hcb1
  clear hw1 hcb1
  rw [HKL.out]
  go_wp2_with fail
  refine (new_good g1 0 cp1 ks w1 HCB1.out HKL.out).mono ?_
  rintro e w2 ⟨rfl, hw2, hh2⟩
  have HW2 := Lib.hid hw2; have HH2 := Lib.hid hh2
  clear hw2 hh2
  have hmk := mk8
  go_wp2_with fail
  have HB12 := Lib.hid (HW1.out.trans (HW2.out.mono HW1.out.size))
  have HCB2 := Lib.hid (CB.newer (o := .cells zero8 5) HB.out HB12.out sblt)
  refine (clone_any sb so 8 scap bs8 _ HCB2.out HBL.out (by omega)).mono ?_
  rintro e w3 ⟨v3, rfl, hs3, hw3⟩
  have HW3 := Lib.hid hw3
  obtain ⟨g3, cp3, rfl, hg3, hg3', hc3, hc3', hcb3⟩ := hs3
  have HCB3 := Lib.hid hcb3
  clear hw3 hcb3
  rw [HBL.out]
  have hsz1 := HW1.out.size
  have hsz2 := HW2.out.size
  have hsz3 : w2.heap.size + 1 ≤ w3.heap.size := by have := HW3.out.size; simpa using this
  have hcl : w1.heap.size < w2.heap.size := lt_of_block HH2.out
  have hh3 : w3.heap[w1.heap.size]? = some (.cells (cells17 ks 64).toArray 50 (0, 0)) :=
    (HW3.out.block _ (by simp; omega)).trans ((Below.heap_alloc w2 _ _ hcl).trans HH2.out)
  have hz3 : w3.heap[w2.heap.size]? = some (.cells zero8 5 (0, 0)) := (HW3.out.block _ (by simp)).trans (heap_alloc_new w2 _)
  have C := Lib.hid (dec_any w1.heap.size g3 0 cp3 w2.heap.size ks bs8 64 zero8 w3 (cells17_cb hh3) hkz HKL.out (cells17_r hh3 HKL.out) (by omega) (by omega) HCB3.out hbz HBL.out (by have := HBL.out; omega) hc3' hz3 rfl)
  clear hh3 hz3
  go_wp2_with fail
  refine C.out.mono ?_
  rintro e w4 ⟨rfl, hgr, hh4⟩
  have HG := Lib.hid hgr; have HH4 := Lib.hid hh4
  clear hgr hh4
  go_wp2
  go_ret2
  have hlt4 := lt_of_block HH4.out
  have hsb : Below w.heap.size w w4 := by
    have h1 : Below w.heap.size w w3 := (HB12.out.alloc (by omega) _).trans (HW3.out.mono (by simp; omega))
    exact h1.grown HG.out (by omega) (fun k hk => by injection hk with hk; omega)
  refine ⟨_, rfl, ⟨w2.heap.size, 8, rfl, by omega, hlt4, by rw [bs_len]; simp, by decide, put_two HH4.out⟩, hsb⟩
/-- what Clone makes of a key: a slice value of that length -/
def CloneKey (v : Value) (n : Nat) (w : World) : Prop := Calls Try.prog 14 #[v] w fun e w' => ∃ a cap, e = .returned (.slice a n cap) ∧ Below w.heap.size w w'
theorem cloneKey_nil (w : World) : CloneKey (.slice none 0 0) 0 w := (clone_nil w).mono fun _ _ ⟨h1, h2⟩ => ⟨none, 0, h1, h2 ▸ Below.refl _ _⟩
theorem cloneKey_some (b off n cap : Nat) (zs : List Int) (w : World) (hc : CB w b off zs) (hn : zs.length = n) (hn2 : n ≤ 140737488355328) : CloneKey (.slice (some ⟨b, off, none⟩) n cap) n w :=
  (clone_any b off n cap zs w hc hn hn2).mono fun _ _ ⟨_, h1, ⟨g, cp, h2, _⟩, h3⟩ => ⟨some ⟨g, 0, none⟩, cp, by rw [h1, h2, hn], h3⟩
set_option maxHeartbeats 400000 in
theorem cloneKey_zero (ad : Addr) (cap : Nat) (w : World) : CloneKey (.slice (some ad) 0 cap) 0 w := by
  unfold CloneKey
  have h0 := fun wx => Lib.run_eql_slice_nil (P := Try.prog) wx 22 5 (some ad) 0 cap 0 0 Try.underlying22
  obtain ⟨i0, hi, hz0, hz1, hz2⟩ := info_parts Try.info5
  go_enter Try.func14, Try.ntmps14
  go_wp2_with (at_builtin; refine wpList_append_own _ rfl _ _ 22 rfl w.heap.size 5 i0 (.int .u8 0) 1 1 Try.underlying22 hi hz0 hz1 hz2 rfl (by decide) _ _ [] rfl (owns_empty w) ad 0 cap [] rfl ?c1 ?c2 ?c3 ?c4 ?c5 ?c6 ?_)
  case c1 => rfl
  case c2 => intro j u hj; simp at hj
  case c3 => intro u hu; cases hu
  case c4 => unfold maxLen; omega
  case c5 => omega
  case c6 => simp
  intro v' w1 hown hgrow hnil
  have hex : ∃ g cp, v' = .slice (some ⟨g, 0, none⟩) 0 cp := by
    obtain ⟨_, h | ⟨g, cp, cur, h1, _⟩⟩ := hown
    · exact absurd h.1 (by simpa using hnil)
    · exact ⟨g, cp, h1⟩
  obtain ⟨g, cp, hv⟩ := hex
  have hB : Below w.heap.size w w1 := by
    refine (Below.alloc (Below.refl _ _) (Nat.le_refl _) _).grown hgrow (by simp) ?_
    intro k hk; simp [Value.ownBlock] at hk; omega
  clear hown hgrow hnil
  rw [hv]
  clear hv
  go_wp2
  go_ret
  exact ⟨_, _, rfl, hB⟩
theorem neq_nil (p : Addr) (w : World) : (binOp .neq 32 (.iface 59 (.pointer (some p))) .nilIface).run Try.prog w = .ok (.bool true) w := by kernel_rfl
set_option maxHeartbeats 800000 in
theorem tea_ref (v blk : Value) (back : Bool) (n : Nat) (rounds : Int) (w : World) (h : CloneKey v n w) (hn : ¬ n = 16) (hn2 : n ≤ 2000) :
    Calls Try.prog 7 #[v, .int .i64 rounds, blk, .bool back] w fun e w' => e = .returned (.tuple #[.slice none 0 0, .bool false]) ∧ Below w.heap.size w w' := by
  have C1 := Lib.hid h
  have HN := Lib.hid hn; have HN2 := Lib.hid hn2
  clear h hn hn2
  go_enter Try.func7, Try.ntmps7
  go_wp2_with fail
  refine C1.out.mono ?_
  rintro e w1 ⟨a, cap, rfl, hb1⟩
  have HB1 := Lib.hid hb1; clear hb1
  go_wp2_with fail
  refine (newr_len a n cap rounds w1 HN.out HN2.out).mono ?_
  rintro e w2 ⟨p, rfl, hb2⟩
  have HB2 := Lib.hid hb2; clear hb2
  go_wp2
  go_ret2
  exact ⟨rfl, HB1.out.trans (HB2.out.mono HB1.out.size)⟩
set_option maxHeartbeats 800000 in
theorem tea_ref_odd (b off cap : Nat) (blk : Value) (back : Bool) (zs : List Int) (rounds : Int) (w : World) (hc : CB w b off zs) (hl : zs.length = 16) (hr0 : 0 ≤ rounds) (hr1 : rounds ≤ 200) (hev : ¬ rounds % 2 = 0) :
    Calls Try.prog 7 #[.slice (some ⟨b, off, none⟩) 16 cap, .int .i64 rounds, blk, .bool back] w fun e w' => e = .returned (.tuple #[.slice none 0 0, .bool false]) ∧ Below w.heap.size w w' := by
  have C1 := Lib.hid (clone_any b off 16 cap zs w hc hl (by omega))
  have HL := Lib.hid hl; have HE := Lib.hid hev
  clear hc hl hev
  go_enter Try.func7, Try.ntmps7
  go_wp2_with fail
  refine C1.out.mono ?_
  rintro e w1 ⟨v1, rfl, hs1, hb1⟩
  obtain ⟨g1, cp1, rfl, hg1, hg1', hc1, hc1', hcb1⟩ := hs1
  have HB1 := Lib.hid hb1; clear hb1 hcb1
  rw [HL.out]
  go_wp2_with fail
  refine (newr_odd g1 0 cp1 rounds w1 hr0 hr1 HE.out).mono ?_
  rintro e w2 ⟨p, rfl, hb2⟩
  have HB2 := Lib.hid hb2; clear hb2
  go_wp2
  go_ret2
  exact ⟨rfl, HB1.out.trans (HB2.out.mono HB1.out.size)⟩
set_option maxHeartbeats 800000 in
theorem plain_ref (v blk : Value) (back : Bool) (n : Nat) (w : World) (h : CloneKey v n w) (hn : ¬ n = 16) (hn2 : n ≤ 2000) :
    Calls Try.prog 8 #[v, blk, .bool back] w fun e w' => e = .returned (.tuple #[.slice none 0 0, .bool false]) ∧ Below w.heap.size w w' := by
  have C1 := Lib.hid h
  have HN := Lib.hid hn; have HN2 := Lib.hid hn2
  clear h hn hn2
  go_enter Try.func8, Try.ntmps8
  go_wp2_with fail
  refine C1.out.mono ?_
  rintro e w1 ⟨a, cap, rfl, hb1⟩
  have HB1 := Lib.hid hb1; clear hb1
  go_wp2_with fail
  refine (new_len a n cap w1 HN.out HN2.out).mono ?_
  rintro e w2 ⟨p, rfl, hb2⟩
  have HB2 := Lib.hid hb2; clear hb2
  go_wp2
  go_ret2
  exact ⟨rfl, HB1.out.trans (HB2.out.mono HB1.out.size)⟩
end Go.Proofs.Ytbepfmhkccgnfaa
