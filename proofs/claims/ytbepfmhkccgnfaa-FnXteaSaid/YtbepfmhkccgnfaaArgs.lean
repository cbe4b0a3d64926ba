/- WHAT: a []byte that comes in, as the walks of the laws take it: nil, or cells that read as bytes. -/
import Derived.Test.YtbepfmhkccgnfaaBase
import Derived.OpenShut
namespace Go.Proofs.Ytbepfmhkccgnfaa
open Go.RowKit
/-- a []byte as it comes in -/
def Arg (w : World) (v : Value) (n : Nat) (zs : List Int) : Prop :=
  (v = .slice none 0 0 ∧ n = 0 ∧ zs = []) ∨ ∃ a cap, v = .slice (some a) n cap ∧ (∀ i, i < zs.length → w.cell? (a.add i) = some (.int .u8 (zs.getD i 0))) ∧ zs.length = n ∧ n ≤ cap ∧ cap ≤ maxLen ∧ InB zs
theorem Arg.form {w : World} {v : Value} {n : Nat} {zs : List Int} (h : Arg w v n zs) : ∃ ao cap, v = .slice ao n cap ∧ n ≤ maxLen := by
  rcases h with ⟨rfl, rfl, _⟩ | ⟨a, cap, rfl, _, _, h1, h2, _⟩
  · exact ⟨_, _, rfl, Nat.zero_le _⟩
  · exact ⟨_, _, rfl, by omega⟩
theorem Arg.open {w : World} {v : Value} {n : Nat} {zs : List Int} (h : Arg w v n zs) (hn : 0 < n) : ∃ b off cap, v = .slice (some ⟨b, off, none⟩) n cap ∧ CB w b off zs ∧ zs.length = n ∧ n ≤ cap ∧ cap ≤ maxLen ∧ InB zs := by
  rcases h with ⟨_, rfl, _⟩ | ⟨a, cap, rfl, hc, hl, h1, h2, h3⟩
  · omega
  · obtain ⟨b, off, rfl, hc'⟩ := ints_at hc (by omega)
    exact ⟨b, off, cap, rfl, hc', hl, h1, h2, h3⟩
/-- what the opened argument gives -/
theorem arg_of_row {w : World} {a : Option Addr} {len cap : Nat} {zs : List Int}
    (h : (a = none ∧ len = 0 ∧ cap = 0 ∧ zs = []) ∨ ∃ x, a = some x ∧ len ≤ cap ∧ cap ≤ maxLen ∧ zs.length = cap ∧ (∀ i, i < zs.length → w.cell? (x.add i) = some (.int .u8 (zs.getD i 0))) ∧ ∀ n ∈ zs, (Lit.int .u8 n).wf = true) :
    Arg w (.slice a len cap) len (zs.take len) := by
  rcases h with ⟨rfl, rfl, rfl, rfl⟩ | ⟨x, rfl, h1, h2, h3, h4, h5⟩
  · exact .inl ⟨rfl, rfl, rfl⟩
  · refine .inr ⟨x, cap, rfl, ?_, by simp; omega, h1, h2, ?_⟩
    · intro i hi
      have hi' : i < len := by simp at hi; omega
      rw [h4 i (by omega)]
      simp [List.getD, hi']
    · intro z hz
      have := bounds_u8 (h5 z (List.mem_of_mem_take hz))
      omega
end Go.Proofs.Ytbepfmhkccgnfaa
