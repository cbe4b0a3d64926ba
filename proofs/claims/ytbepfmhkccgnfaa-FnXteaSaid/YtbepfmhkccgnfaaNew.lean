/- WHAT: slices.Clone of bytes, errors.New, and tea.NewCipherWithRounds and NewCipher: for keys of any length up to 2^47 bytes. -/
import Derived.Test.YtbepfmhkccgnfaaBase
import Derived.Laws.CopyOwn
namespace Go.Proofs.Ytbepfmhkccgnfaa
open Go.RowKit
theorem Try.info5 : (Try.prog.info? 5).map (fun i => (i.zero, i.size, i.bytes)) = some (some (.int .u8 0), 1, 1) := by kernel_rfl
theorem owns_empty (w : World) : (w.alloc (.cells #[] 5)).ownsRow w.heap.size 5 1 (.slice (some ⟨w.heap.size, 0, none⟩) 0 0) 0 [] :=
  ⟨rfl, .inr ⟨w.heap.size, 0, #[], rfl, Nat.le_refl _, heap_alloc_new w _, Nat.le_refl _, Nat.zero_le _, rfl, rfl⟩⟩
/-- a slice value that is the call's own: at the head of a block that lies from B on, and holds just these bytes first -/
def Own (B : Nat) (v : Value) (zs : List Int) (w : World) : Prop :=
  ∃ g cap cur, v = .slice (some ⟨g, 0, none⟩) zs.length cap ∧ B ≤ g ∧ w.heap[g]? = some (.cells cur 5 (0, 0)) ∧ zs.length ≤ cap ∧ cap ≤ maxLen ∧ cur.toList.take zs.length = zs.map (Value.int .u8)
theorem own_of {B : Nat} {v : Value} {zs : List Int} {w : World} (h : w.ownsRow B 5 1 v zs.length (zs.map (Value.int .u8))) (hv : v ≠ .slice none 0 0) : Own B v zs w := by
  obtain ⟨_, h | ⟨g, cap, cur, h1, h2, h3, h4, h5, h6, h7⟩⟩ := h
  · exact absurd h.1 hv
  · exact ⟨g, cap, cur, h1, h2, h3, h4, h5, by simpa using h7⟩
set_option maxHeartbeats 400000 in
theorem clone_some (b off n cap : Nat) (zs : List Int) (w : World) (hc : CB w b off zs) (hn : zs.length = n) (hn2 : n ≤ 140737488355328) :
    Calls Try.prog 14 #[.slice (some ⟨b, off, none⟩) n cap] w fun e w' => ∃ v, e = .returned v ∧ Own w.heap.size v zs w' ∧ Below w.heap.size w w' := by
  have hN := Lib.hid hn; clear hn
  have h0 := fun wx => Lib.run_eql_slice_nil (P := Try.prog) wx 22 5 (some ⟨b, off, none⟩) n cap 0 0 Try.underlying22
  obtain ⟨i0, hi, hz0, hz1, hz2⟩ := info_parts Try.info5
  have HC := Lib.hid hc; clear hc
  go_enter Try.func14, Try.ntmps14
  go_wp2_with (at_builtin; refine wpList_append_own _ rfl _ _ 22 rfl w.heap.size 5 i0 (.int .u8 0) 1 1 Try.underlying22 hi hz0 hz1 hz2 rfl (by decide) _ _ [] rfl (owns_empty w) ⟨b, off, none⟩ n cap (zs.map (Value.int .u8)) rfl ?c1 ?c2 ?c3 ?c4 ?c5 ?c6 ?_)
  case c1 => have := hN.out; simpa using this
  case c2 =>
    intro j u hj
    obtain ⟨hj', rfl⟩ := List.getElem?_eq_some_iff.1 hj
    have hj2 : j < zs.length := by simpa using hj'
    have h1 := HC.out j hj2
    have h2 : (w.alloc (.cells #[] 5)).cell? ⟨b, off + j, none⟩ = some (.int .u8 (zs.getD j 0)) := by
      rw [← h1]
      exact World.cell?_of_block (w := w) (Below.heap_alloc w _ b (block_lt_of_cell h1))
    have h3 : (⟨b, off, none⟩ : Addr).add j = ⟨b, off + j, none⟩ := by
      unfold Addr.add; split <;> simp_all
    rw [h3, h2]
    simp [hj2]
  case c3 => intro u hu; simp at hu; obtain ⟨a, _, rfl⟩ := hu; rfl
  case c4 => unfold maxLen; omega
  case c5 => omega
  case c6 => simp
  intro v' w1 hown hgrow hnil
  have hown' : w1.ownsRow w.heap.size 5 1 v' zs.length (zs.map (Value.int .u8)) := by rw [hN.out]; exact hown
  have HO := Lib.hid (own_of hown' hnil)
  have hB : Below w.heap.size w w1 := by
    refine (Below.alloc (Below.refl _ _) (Nat.le_refl _) _).grown hgrow (by simp) ?_
    intro k hk; simp [Value.ownBlock] at hk; omega
  clear hown hown' hgrow hnil
  go_wp2
  go_ret
  exact ⟨_, rfl, HO.out, hB⟩
theorem clone_nil (w : World) :
    Calls Try.prog 14 #[.slice none 0 0] w fun e w' => e = .returned (.slice none 0 0) ∧ w = w' := by
  have h0 := fun wx => Lib.run_eql_slice_nil (P := Try.prog) wx 22 5 none 0 0 0 0 Try.underlying22
  go_enter Try.func14, Try.ntmps14
  go_wp2
  go_ret
  exact ⟨rfl, rfl⟩
/-- a slice of bytes of the call's own: it lies at the head of a block from B on and reads as these bytes -/
def Sl (B : Nat) (v : Value) (zs : List Int) (w : World) : Prop :=
  ∃ g cap, v = .slice (some ⟨g, 0, none⟩) zs.length cap ∧ B ≤ g ∧ g < w.heap.size ∧ zs.length ≤ cap ∧ cap ≤ maxLen ∧ CB w g 0 zs
theorem CB.of_block {w w' : World} {b off : Nat} {zs : List Int} (h : CB w b off zs) (hb : w'.heap[b]? = w.heap[b]?) : CB w' b off zs :=
  fun i hi => (World.cell?_of_block (w := w) (a := ⟨b, off + i, none⟩) hb).trans (h i hi)
theorem CB.below {w w' : World} {b off B : Nat} {zs : List Int} (h : CB w b off zs) (hb : Below B w w') (hB : b < B) : CB w' b off zs := h.of_block (hb.block b hB)
theorem CB.grown {w w' : World} {b off g : Nat} {zs : List Int} (h : CB w b off zs) (hb : w.grownBy w' (some g)) (hB : b < w.heap.size) (hne : b ≠ g) : CB w' b off zs :=
  h.of_block (hb.block b hB (fun e => hne (by injection e)))
theorem Sl.below {w w' : World} {B : Nat} {v : Value} {zs : List Int} (h : Sl B v zs w) (hb : Below w.heap.size w w') : Sl B v zs w' := by
  obtain ⟨g, cap, h1, h2, h3, h4, h5, h6⟩ := h
  exact ⟨g, cap, h1, h2, Nat.lt_of_lt_of_le h3 hb.size, h4, h5, h6.below hb h3⟩
theorem CB.of_cells {w : World} {g : Nat} {cur : Array Value} {t : TypeId} {fr : Nat × Nat} {zs : List Int} (h : w.heap[g]? = some (.cells cur t fr)) (hc : cur.toList.take zs.length = zs.map (Value.int .u8)) : CB w g 0 zs := by
  intro i hi
  rw [cell_of_row w g _ cur t fr h]
  have h1 : (cur.toList.take zs.length)[i]? = some (.int .u8 (zs.getD i 0)) := by rw [hc]; simp [hi]
  rw [List.getElem?_take] at h1
  simp only [hi, if_true] at h1
  simpa using h1
theorem Own.sl {B : Nat} {v : Value} {zs : List Int} {w : World} (h : Own B v zs w) : Sl B v zs w := by
  obtain ⟨g, cap, cur, h1, h2, h3, h4, h5, h6⟩ := h
  exact ⟨g, cap, h1, h2, lt_of_block h3, h4, h5, CB.of_cells h3 h6⟩
theorem clone_any (b off n cap : Nat) (zs : List Int) (w : World) (hc : CB w b off zs) (hn : zs.length = n) (hn2 : n ≤ 140737488355328) :
    Calls Try.prog 14 #[.slice (some ⟨b, off, none⟩) n cap] w fun e w' => ∃ v, e = .returned v ∧ Sl w.heap.size v zs w' ∧ Below w.heap.size w w' :=
  (clone_some b off n cap zs w hc hn hn2).mono fun _ _ ⟨v, h1, h2, h3⟩ => ⟨v, h1, h2.sl, h3⟩
theorem i64_and1 (r : Int) (h0 : 0 ≤ r) (h1 : r < 9223372036854775808) : bits .and .i64 r 1 = r % 2 := by
  obtain ⟨n, rfl⟩ := Int.eq_ofNat_of_zero_le h0
  show IntKind.i64.wrap ((BitVec.ofInt 64 (n : Int) &&& BitVec.ofInt 64 1).toNat : Int) = _
  have e1 : (BitVec.ofInt 64 (n : Int) &&& BitVec.ofInt 64 1).toNat = n % 2 := by
    rw [BitVec.toNat_and]
    have h1 : (BitVec.ofInt 64 (n : Int)).toNat = n := by simp; omega
    have h2 : (BitVec.ofInt 64 1).toNat = 1 := by decide
    rw [h1, h2]; exact nat_mask1 n
  rw [e1]
  rw [IntKind.wrap_i64]
  omega
theorem even_test {r : Int} (h0 : 0 ≤ r) (h1 : r ≤ 200) (h : r % 2 = 0) : (bits .and .i64 r 1 != 0) = false := by rw [i64_and1 r h0 (by omega), h]; rfl
theorem odd_test {r : Int} (h0 : 0 ≤ r) (h1 : r ≤ 200) (h : ¬ r % 2 = 0) : (bits .and .i64 r 1 != 0) = true := by
  rw [i64_and1 r h0 (by omega), bne_iff_ne]; exact h
set_option maxHeartbeats 400000 in
theorem errnew_any (s : ByteArray) (w : World) :
    Calls Try.prog 24 #[.string s] w fun e w' => e = .returned (.iface 59 (.pointer (some ⟨w.heap.size, 0, none⟩))) ∧ Below w.heap.size w w' := by
  go_enter Try.func24, Try.ntmps24
  go_wp2
  go_ret
  exact ⟨rfl, (Below.refl _ _).alloc (Nat.le_refl _) _⟩
/-- the cells of a cipher -/
def cells17 (zs : List Int) (r : Int) : List Value := zs.map (Value.int .u8) ++ [.int .i64 r]
theorem cb_src {w : World} {b off : Nat} {zs : List Int} (hc : CB w b off zs) (o : Obj) : ∀ j u, (zs.map (Value.int .u8))[j]? = some u → (w.alloc o).cell? ((⟨b, off, none⟩ : Addr).add j) = some u := by
  intro j u hj
  obtain ⟨hj', rfl⟩ := List.getElem?_eq_some_iff.1 hj
  have hj2 : j < zs.length := by simpa using hj'
  have h1 := hc j hj2
  have h2 : (w.alloc o).cell? ⟨b, off + j, none⟩ = some (.int .u8 (zs.getD j 0)) := by
    rw [← h1]
    exact World.cell?_of_block (w := w) (Below.heap_alloc w _ b (block_lt_of_cell h1))
  have h3 : (⟨b, off, none⟩ : Addr).add j = ⟨b, off + j, none⟩ := by
    unfold Addr.add; split <;> simp_all
  rw [h3, h2]
  simp [hj2]
theorem u8s_one (zs : List Int) : ∀ v ∈ zs.map (Value.int .u8), v.oneCell' = true := by
  intro u hu; simp at hu; obtain ⟨a, _, rfl⟩ := hu; rfl
theorem list16 {α : Type} (l : List α) (h : l.length = 16) : ∃ a0 a1 a2 a3 a4 a5 a6 a7 a8 a9 a10 a11 a12 a13 a14 a15, l = [a0, a1, a2, a3, a4, a5, a6, a7, a8, a9, a10, a11, a12, a13, a14, a15] := by
  match l, h with
  | [a0, a1, a2, a3, a4, a5, a6, a7, a8, a9, a10, a11, a12, a13, a14, a15], _ => exact ⟨_, _, _, _, _, _, _, _, _, _, _, _, _, _, _, _, rfl⟩
set_option maxHeartbeats 400000 in
theorem newr_good (b off cap : Nat) (zs : List Int) (rounds : Int) (w : World) (hc : CB w b off zs) (hn : zs.length = 16) (hr0 : 0 ≤ rounds) (hr1 : rounds ≤ 200) (hev : rounds % 2 = 0) :
    Calls Try.prog 13 #[.slice (some ⟨b, off, none⟩) 16 cap, .int .i64 rounds] w fun e w' => e = .returned (.tuple #[.pointer (some ⟨w.heap.size, 0, none⟩), .nilIface]) ∧ Below w.heap.size w w' ∧
      w'.heap[w.heap.size]? = some (.cells (cells17 zs rounds).toArray 50 (0, 0)) := by
  have HC := Lib.hid hc; clear hc
  have HN := Lib.hid hn; clear hn
  have ht := even_test hr0 hr1 hev
  clear hev
  go_enter Try.func13, Try.ntmps13
  go_wp2_with (with_reducible refine wpList_copy_own rfl (.tmp 21) (.tmp 22) 22 22 rfl 5 Try.underlying22 (by kernel_rfl) w.heap.size 0 16 16 ⟨b, off, none⟩ 16 cap rfl rfl _ 50 (heap_alloc_new w _) (zs.map (Value.int .u8)) ?c1 ?c2 ?c3 ?c4 ?_)
  case c1 => have := HN.out; simpa using this
  case c2 => exact cb_src HC.out _
  case c3 => have := HN.out; simp; omega
  case c4 => exact u8s_one zs
  go_wp2
  go_ret2
  refine ⟨rfl, ?_, ?_⟩
  · exact below_setRow ((Below.refl _ _).alloc (Nat.le_refl _) _) (Nat.le_refl _) _
  · rw [setRow_heap _ _ _ _ _ _ (heap_alloc_new w _), HN.out]
    rfl
theorem newr_len (b : Option Addr) (n cap : Nat) (rounds : Int) (w : World) (hn : ¬ n = 16) (_hn2 : n ≤ 2000) :
    Calls Try.prog 13 #[.slice b n cap, .int .i64 rounds] w fun e w' => ∃ p, e = .returned (.tuple #[.pointer none, .iface 59 (.pointer (some p))]) ∧ Below w.heap.size w w' := by
  have ht : ((n : Int) != 16) = true := by rw [bne_iff_ne]; omega
  go_enter Try.func13, Try.ntmps13
  go_wp2_with (go_at_call 24; refine (errnew_any _ _).mono ?_; rintro e w' ⟨rfl, hb⟩)
  go_ret2
  exact ⟨_, rfl, hb⟩
theorem newr_odd (b off cap : Nat) (rounds : Int) (w : World) (hr0 : 0 ≤ rounds) (hr1 : rounds ≤ 200) (hev : ¬ rounds % 2 = 0) :
    Calls Try.prog 13 #[.slice (some ⟨b, off, none⟩) 16 cap, .int .i64 rounds] w fun e w' => ∃ p, e = .returned (.tuple #[.pointer none, .iface 59 (.pointer (some p))]) ∧ Below w.heap.size w w' := by
  have ht := odd_test hr0 hr1 hev
  clear hev
  go_enter Try.func13, Try.ntmps13
  go_wp2_with (go_at_call 24; refine (errnew_any _ _).mono ?_; rintro e w' ⟨rfl, hb⟩)
  go_ret2
  exact ⟨_, rfl, hb⟩
set_option maxHeartbeats 400000 in
theorem new_good (b off cap : Nat) (zs : List Int) (w : World) (hc : CB w b off zs) (hn : zs.length = 16) :
    Calls Try.prog 17 #[.slice (some ⟨b, off, none⟩) 16 cap] w fun e w' => e = .returned (.tuple #[.pointer (some ⟨w.heap.size, 0, none⟩), .nilIface]) ∧ Below w.heap.size w w' ∧
      w'.heap[w.heap.size]? = some (.cells (cells17 zs 64).toArray 50 (0, 0)) := by
  have C := Lib.hid (newr_good b off cap zs 64 w hc hn (by omega) (by omega) (by omega))
  clear hc hn
  go_enter Try.func17, Try.ntmps17
  go_wp2_with fail
  refine C.out.mono ?_
  rintro e w' ⟨rfl, hb, hh⟩
  have HH := Lib.hid hh; clear hh
  go_wp2
  go_ret2
  exact ⟨rfl, hb, HH.out⟩
set_option maxHeartbeats 400000 in
theorem new_len (b : Option Addr) (n cap : Nat) (w : World) (hn : ¬ n = 16) (hn2 : n ≤ 2000) :
    Calls Try.prog 17 #[.slice b n cap] w fun e w' => ∃ p, e = .returned (.tuple #[.pointer none, .iface 59 (.pointer (some p))]) ∧ Below w.heap.size w w' := by
  have C := Lib.hid (newr_len b n cap 64 w hn hn2)
  clear hn hn2
  go_enter Try.func17, Try.ntmps17
  go_wp2_with fail
  refine C.out.mono ?_
  rintro e w' ⟨p, rfl, hb⟩
  go_wp2
  go_ret2
  exact ⟨_, rfl, hb⟩
end Go.Proofs.Ytbepfmhkccgnfaa
