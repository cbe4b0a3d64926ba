/- WHAT: laws.FnTeaRefused returns true at every input. -/
import Derived.Test.YtbepfmhkccgnfaaImpl
import Derived.Test.YtbepfmhkccgnfaaArgs
namespace Go.Proofs.Ytbepfmhkccgnfaa
open Go.RowKit
set_option maxHeartbeats 800000 in
theorem law5_out (ao bo : Option Addr) (n kc m bc : Nat) (r : Int) (w : World) (hn : n ≤ maxLen) (hm : m ≤ maxLen)
    (h : ¬ (n ≤ 1000 ∧ m = 8 ∧ 0 ≤ r ∧ r ≤ 200)) :
    Calls Try.prog 5 #[.slice ao n kc, .int .i64 r, .slice bo m bc] w fun e w' => e = .returned (.bool true) ∧ w = w' := by
  unfold maxLen at hn hm
  by_cases h1 : 2147483647 < (n : Int)
  · clear h
    go_enter Try.func5, Try.ntmps5
    go_wp2
    go_ret
    exact ⟨rfl, rfl⟩
  by_cases h2 : 2147483647 < (m : Int)
  · clear h
    go_enter Try.func5, Try.ntmps5
    go_wp2
    go_ret
    exact ⟨rfl, rfl⟩
  by_cases h4 : m = 8
  · subst h4
    by_cases h3 : 1000 < (n : Int)
    · clear h
      go_enter Try.func5, Try.ntmps5
      go_wp2
      go_ret
      exact ⟨rfl, rfl⟩
    by_cases h5 : r < 0
    · clear h
      go_enter Try.func5, Try.ntmps5
      go_wp2
      go_ret
      exact ⟨rfl, rfl⟩
    have h6 : 200 < r := by omega
    clear h
    go_enter Try.func5, Try.ntmps5
    go_wp2
    go_ret
    exact ⟨rfl, rfl⟩
  · have h4' : ((m : Int) != 8) = true := by rw [bne_iff_ne]; omega
    clear h
    go_enter Try.func5, Try.ntmps5
    go_wp2
    go_ret
    exact ⟨rfl, rfl⟩
/-- sixteen zero bytes -/
def zero16 : Array Value := #[.int .u8 0, .int .u8 0, .int .u8 0, .int .u8 0, .int .u8 0, .int .u8 0, .int .u8 0, .int .u8 0, .int .u8 0, .int .u8 0, .int .u8 0, .int .u8 0, .int .u8 0, .int .u8 0, .int .u8 0, .int .u8 0]
def zs16 : List Int := [0, 0, 0, 0, 0, 0, 0, 0, 0, 0, 0, 0, 0, 0, 0, 0]
theorem mk16 (w : World) : (Instr.makeSlice 22 (.int .i64 16) (.int .i64 16)).run Try.prog w = .ok (.slice (some ⟨w.heap.size, 0, none⟩) 16 16) (w.alloc (.cells zero16 5)) := by kernel_rfl
theorem cb_zero16 (w : World) : CB (w.alloc (.cells zero16 5)) w.heap.size 0 zs16 := CB.of_cells (heap_alloc_new w _) (by rfl)
theorem inB_zs16 : InB zs16 := by intro z hz; simp [zs16] at hz; omega
theorem cloneKey_arg {w : World} {v : Value} {n : Nat} {zs : List Int} (h : Arg w v n zs) (hn : n ≤ 2000) : CloneKey v n w := by
  by_cases h0 : 0 < n
  · obtain ⟨b, off, cap, rfl, k1, k2, _⟩ := h.open h0
    exact cloneKey_some b off n cap zs w k1 k2 (by omega)
  · obtain rfl : n = 0 := by omega
    rcases h with ⟨rfl, _, _⟩ | ⟨a, cap, rfl, _⟩
    · exact cloneKey_nil w
    · exact cloneKey_zero a cap w
/-- whether a key and a number of rounds are taken -/
def ok1 (n : Nat) (r : Int) : Bool := decide (n = 16 ∧ r % 2 = 0)
def ok2 (n : Nat) : Bool := decide (n = 16)
/-- what Tea and TeaPlain answer besides the block -/
theorem tea_any (kv : Value) (n : Nat) (ks : List Int) (r : Int) (sb so scap : Nat) (bs8 : List Int) (w : World) (hk : Arg w kv n ks) (hn : n ≤ 2000) (hr0 : 0 ≤ r) (hr1 : r ≤ 200)
    (hb : CB w sb so bs8) (hbz : InB bs8) (hbl : bs8.length = 8) :
    Calls Try.prog 7 #[kv, .int .i64 r, .slice (some ⟨sb, so, none⟩) 8 scap, .bool false] w fun e w' => ∃ a c d, e = .returned (.tuple #[.slice a c d, .bool (ok1 n r)]) ∧ Below w.heap.size w w' := by
  by_cases h : n = 16
  · subst h
    obtain ⟨kb, ko, kcap, rfl, k1, k2, k3, k4, k5⟩ := hk.open (by omega)
    by_cases he : r % 2 = 0
    · refine (tea_enc kb ko kcap sb so scap ks bs8 r w k1 k5 k2 hr0 hr1 he hb hbz hbl).mono ?_
      rintro e w' ⟨v, rfl, ⟨g, cap, rfl, _⟩, h2⟩
      have ho : ok1 16 r = true := by simp [ok1, he]
      exact ⟨_, _, _, by rw [ho], h2⟩
    · refine (tea_ref_odd kb ko kcap _ false ks r w k1 k2 hr0 hr1 he).mono ?_
      rintro e w' ⟨rfl, h2⟩
      exact ⟨none, 0, 0, by simp [ok1, he], h2⟩
  · refine (tea_ref kv _ false n r w (cloneKey_arg hk hn) h hn).mono ?_
    rintro e w' ⟨rfl, h2⟩
    exact ⟨none, 0, 0, by simp [ok1, h], h2⟩
theorem plain_any (kv : Value) (n : Nat) (ks : List Int) (sb so scap : Nat) (bs8 : List Int) (w : World) (hk : Arg w kv n ks) (hn : n ≤ 2000)
    (hb : CB w sb so bs8) (hbz : InB bs8) (hbl : bs8.length = 8) :
    Calls Try.prog 8 #[kv, .slice (some ⟨sb, so, none⟩) 8 scap, .bool false] w fun e w' => ∃ a c d, e = .returned (.tuple #[.slice a c d, .bool (ok2 n)]) ∧ Below w.heap.size w w' := by
  by_cases h : n = 16
  · subst h
    obtain ⟨kb, ko, kcap, rfl, k1, k2, k3, k4, k5⟩ := hk.open (by omega)
    refine (plain_enc kb ko kcap sb so scap ks bs8 w k1 k5 k2 hb hbz hbl).mono ?_
    rintro e w' ⟨v, rfl, ⟨g, cap, rfl, _⟩, h2⟩
    have ho : ok2 16 = true := by simp [ok2]
    exact ⟨_, _, _, by rw [ho], h2⟩
  · refine (plain_ref kv _ false n w (cloneKey_arg hk hn) h hn).mono ?_
    rintro e w' ⟨rfl, h2⟩
    exact ⟨none, 0, 0, by simp [ok2, h], h2⟩
/-- an argument reads in a later world as it did -/
theorem Arg.below {w w' : World} {v : Value} {n : Nat} {zs : List Int} (h : Arg w v n zs) (hb : Below w.heap.size w w') : Arg w' v n zs := by
  rcases h with h | ⟨a, cap, rfl, hc, h1, h2, h3, h4⟩
  · exact .inl h
  · exact .inr ⟨a, cap, rfl, fun i hi => (hb.cell (p := a.add i) (block_lt_of_cell (hc i hi))).trans (hc i hi), h1, h2, h3, h4⟩
set_option maxHeartbeats 1600000 in
theorem law5_way (q1 q2 x1 : Bool) (ao : Option Addr) (kc n sb so scap : Nat) (ks bs8 : List Int) (r : Int) (w : World) (hk : Arg w (.slice ao n kc) n ks) (hn : n ≤ 1000) (hr0 : 0 ≤ r) (hr1 : r ≤ 200)
    (hb : CB w sb so bs8) (hbz : InB bs8) (hbl : bs8.length = 8)
    (t1 : ((n : Int) == 16) = q1) (t2 : (r % 2 == 0) = q2) (h1 : ok1 n r = x1) (h2 : ok2 n = q1) (hx : x1 = (q1 && q2)) :
    Calls Try.prog 5 #[.slice ao n kc, .int .i64 r, .slice (some ⟨sb, so, none⟩) 8 scap] w fun e w' => e = .returned (.bool true) ∧ Below w.heap.size w w' := by
  have sblt := block_lt_of_cell (hb 0 (by omega))
  have HK := Lib.hid hk; have HB := Lib.hid hb; have HBL := Lib.hid hbl
  have c1 := tea_any _ n ks r sb so scap bs8 w hk (by omega) hr0 hr1 hb hbz hbl
  rw [h1] at c1
  have C1 := Lib.hid c1
  have H2 := Lib.hid h2
  have hmk := mk16
  clear hk hb hbl c1 h1 h2
  cases q1 <;> cases q2 <;> cases x1 <;> simp at hx
  all_goals
    clear hx
    go_enter Try.func5, Try.ntmps5
    go_wp2_with fail
    refine C1.out.mono ?_
    rintro e w1 ⟨a1, b1, c1, rfl, hw1⟩
    have HW1 := Lib.hid hw1
    clear hw1
    go_wp2_with fail
    have c2 := plain_any _ n ks sb so scap bs8 w1 (HK.out.below HW1.out) (by omega) (HB.out.below HW1.out sblt) hbz HBL.out
    rw [H2.out] at c2
    refine c2.mono ?_
    clear c2
    rintro e w2 ⟨a2, b2, c2, rfl, hw2⟩
    have HW2 := Lib.hid (HW1.out.trans (hw2.mono HW1.out.size))
    clear hw2
    go_wp2_with fail
    refine (plain_enc w2.heap.size 0 16 sb so scap zs16 bs8 _ (cb_zero16 w2) inB_zs16 rfl (HB.out.newer HW2.out sblt) hbz HBL.out).mono ?_
    rintro e w3 ⟨v3, rfl, ⟨g3, cp3, rfl, _⟩, hw3⟩
    have HW3 := Lib.hid ((HW2.out.alloc HW2.out.size (.cells zero16 5)).trans (hw3.mono (by have := HW2.out.size; simp; omega)))
    clear hw3
    go_wp2
    go_ret
    exact ⟨rfl, HW3.out⟩
theorem law5_in (ao : Option Addr) (kc n sb so scap : Nat) (ks bs8 : List Int) (r : Int) (w : World) (hk : Arg w (.slice ao n kc) n ks) (hn : n ≤ 1000) (hr0 : 0 ≤ r) (hr1 : r ≤ 200)
    (hb : CB w sb so bs8) (hbz : InB bs8) (hbl : bs8.length = 8) :
    Calls Try.prog 5 #[.slice ao n kc, .int .i64 r, .slice (some ⟨sb, so, none⟩) 8 scap] w fun e w' => e = .returned (.bool true) ∧ Below w.heap.size w w' := by
  refine law5_way ((n : Int) == 16) (r % 2 == 0) (ok1 n r) ao kc n sb so scap ks bs8 r w hk hn hr0 hr1 hb hbz hbl rfl rfl rfl ?_ ?_
  · unfold ok2; rw [Bool.eq_iff_iff]; simp; omega
  · unfold ok1; rw [Bool.eq_iff_iff]; simp; omega
theorem law5_any (kv bv : Value) (n m : Nat) (ks bs8 : List Int) (r : Int) (w : World) (hk : Arg w kv n ks) (hb : Arg w bv m bs8) :
    Calls Try.prog 5 #[kv, .int .i64 r, bv] w fun e w' => e = .returned (.bool true) ∧ Below w.heap.size w w' := by
  by_cases h : n ≤ 1000 ∧ m = 8 ∧ 0 ≤ r ∧ r ≤ 200
  · obtain ⟨h0, rfl, h1, h2⟩ := h
    obtain ⟨ao, kc, rfl, _⟩ := hk.form
    obtain ⟨sb, so, scap, rfl, s1, s2, s3, s4, s5⟩ := hb.open (by omega)
    exact law5_in ao kc n sb so scap ks bs8 r w hk h0 h1 h2 s1 s5 s2
  · obtain ⟨ao, kc, rfl, h1⟩ := hk.form
    obtain ⟨bo, bc, rfl, h2⟩ := hb.form
    exact (law5_out ao bo n kc m bc r w h1 h2 h).mono fun _ _ ⟨h3, h4⟩ => ⟨h3, h4 ▸ Below.refl _ _⟩
end Go.Proofs.Ytbepfmhkccgnfaa
