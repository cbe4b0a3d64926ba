/- WHAT: plain lemmas: TEA's decryption undoes its encryption; eight bytes are read and written back. -/
import Derived.Test.YtbepfmhkccgnfaaImpl
namespace Go.Proofs.Ytbepfmhkccgnfaa
open Go.RowKit
def In32 (x : Int) : Prop := 0 ≤ x ∧ x < 4294967296
theorem teaTo_bd (K : K4) (x0 x1 : Int) (h0 : In32 x0) (h1 : In32 x1) (n : Nat) : In32 (teaTo K x0 x1 n).1 ∧ In32 (teaTo K x0 x1 n).2.1 ∧ In32 (teaTo K x0 x1 n).2.2 := by
  cases n with
  | zero => exact ⟨h0, h1, by simp [teaTo, In32]⟩
  | succ n => exact ⟨mod32 _, mod32 _, mod32 _⟩
theorem teaTo_sum (K : K4) (x0 x1 : Int) (n : Nat) : (teaTo K x0 x1 n).2.2 = 2654435769 * (n : Int) % 4294967296 := by
  induction n with
  | zero => rfl
  | succ n ih =>
    show ((teaTo K x0 x1 n).2.2 + 2654435769) % 4294967296 = _
    rw [ih]; omega
theorem undo (x y : Int) (h : In32 x) : ((x + y) % 4294967296 - y) % 4294967296 = x := by unfold In32 at h; omega
theorem teaBack_step (K : K4) (st : Int × Int × Int) (h0 : In32 st.1) (h1 : In32 st.2.1) (h2 : In32 st.2.2) : teaBack K (teaStep K st) = st := by
  obtain ⟨a, b, c⟩ := st
  simp only at h0 h1 h2
  simp only [teaBack, teaStep]
  rw [undo b _ h1, undo a _ h0, undo c _ h2]
theorem teaFrom_to (K : K4) (x0 x1 : Int) (h0 : In32 x0) (h1 : In32 x1) (n : Nat) (j : Nat) (hj : j ≤ n) :
    teaFrom K (teaTo K x0 x1 n).1 (teaTo K x0 x1 n).2.1 (teaTo K x0 x1 n).2.2 j = teaTo K x0 x1 (n - j) := by
  induction j with
  | zero => rfl
  | succ j ih =>
    show teaBack K _ = _
    rw [ih (by omega)]
    obtain ⟨m, hm⟩ : ∃ m, n - j = m + 1 := ⟨n - j - 1, by omega⟩
    have hm' : n - (j + 1) = m := by omega
    rw [hm, hm']
    obtain ⟨b0, b1, b2⟩ := teaTo_bd K x0 x1 h0 h1 m
    exact teaBack_step K _ b0 b1 b2
/-- decryption undoes encryption -/
theorem teaFrom_back (K : K4) (x0 x1 : Int) (h0 : In32 x0) (h1 : In32 x1) (n : Nat) (a b s : Int) (ha : (teaTo K x0 x1 n).1 = a) (hb : (teaTo K x0 x1 n).2.1 = b) (hs : 2654435769 * (n : Int) % 4294967296 = s) :
    teaFrom K a b s n = (x0, x1, 0) := by
  subst ha hb hs
  rw [← teaTo_sum K x0 x1 n, teaFrom_to K x0 x1 h0 h1 n n (Nat.le_refl _), Nat.sub_self]
  rfl
theorem bs_pair (a b : Int) : bs [a, b] = [a / 16777216, a / 65536 % 256, a / 256 % 256, a % 256, b / 16777216, b / 65536 % 256, b / 256 % 256, b % 256] := rfl
theorem bs_inB {a b : Int} (ha : In32 a) (hb : In32 b) : InB (bs [a, b]) := by
  unfold In32 at ha hb
  intro z hz
  rw [bs_pair] at hz
  simp only [List.mem_cons, List.not_mem_nil, or_false] at hz
  omega
theorem beAt_bs0 {a b : Int} (ha : In32 a) : beAt (bs [a, b]) 0 = a := by
  unfold In32 at ha
  show beI (a / 16777216) (a / 65536 % 256) (a / 256 % 256) (a % 256) = a
  rw [beI_eq _ _ _ _ (by omega) (by omega) (by omega) (by omega)]; omega
theorem beAt_bs4 {a b : Int} (hb : In32 b) : beAt (bs [a, b]) 4 = b := by
  unfold In32 at hb
  show beI (b / 16777216) (b / 65536 % 256) (b / 256 % 256) (b % 256) = b
  rw [beI_eq _ _ _ _ (by omega) (by omega) (by omega) (by omega)]; omega
theorem list8 {α : Type} (l : List α) (h : l.length = 8) : ∃ a0 a1 a2 a3 a4 a5 a6 a7, l = [a0, a1, a2, a3, a4, a5, a6, a7] := by
  match l, h with
  | [a0, a1, a2, a3, a4, a5, a6, a7], _ => exact ⟨_, _, _, _, _, _, _, _, rfl⟩
/-- eight bytes are read and written back -/
theorem bs_be (zs : List Int) (hz : InB zs) (hl : zs.length = 8) : bs [beAt zs 0, beAt zs 4] = zs := by
  obtain ⟨a0, a1, a2, a3, a4, a5, a6, a7, rfl⟩ := list8 zs hl
  have m : ∀ x ∈ [a0, a1, a2, a3, a4, a5, a6, a7], 0 ≤ x ∧ x ≤ 255 := hz
  simp only [List.mem_cons, List.not_mem_nil, or_false, forall_eq_or_imp, forall_eq] at m
  obtain ⟨m0, m1, m2, m3, m4, m5, m6, m7⟩ := m
  have e0 : beAt [a0, a1, a2, a3, a4, a5, a6, a7] 0 = a0 * 16777216 + a1 * 65536 + a2 * 256 + a3 := beI_eq a0 a1 a2 a3 m0 m1 m2 m3
  have e4 : beAt [a0, a1, a2, a3, a4, a5, a6, a7] 4 = a4 * 16777216 + a5 * 65536 + a6 * 256 + a7 := beI_eq a4 a5 a6 a7 m4 m5 m6 m7
  rw [e0, e4, bs_pair]
  simp only [List.cons.injEq, and_true]
  refine ⟨?_, ?_, ?_, ?_, ?_, ?_, ?_, ?_⟩ <;> omega
end Go.Proofs.Ytbepfmhkccgnfaa
