/-
  PLAIN FACTS ON THE MODEL's DECODER: a rune that begins with a byte beyond ASCII spans bytes beyond ASCII alone.
-/
import Derived.Laws.RangeAny
import Derived.Laws.Runes
import Derived.Lib.IndexAny
import Derived.Lib.Strings
import Derived.Lib.IndexBytes
namespace Go.Proofs.Qxb6600191a.Utf
open Go

theorem decode_span (s : ByteArray) (pos : Nat) (h : pos < s.size) (ha : 128 ≤ (s[pos]'h).toNat) :
    pos + (Utf8.decode s pos).2 ≤ s.size ∧ ∀ k, k < (Utf8.decode s pos).2 → 128 ≤ (s.get! (pos + k)).toNat := by
  have hn : ¬ (s[pos]'h).toNat < 128 := by omega
  have h0 : 128 ≤ (s.get! (pos + 0)).toNat := by rw [get_at s pos h]; exact ha
  have one : ∀ k, k < 1 → 128 ≤ (s.get! (pos + k)).toNat := fun k hk => by
    obtain rfl : k = 0 := by omega
    exact h0
  simp only [Utf8.decode, get_at s pos h, hn, if_false]
  split
  · rename_i h1
    simp only [Bool.and_eq_true, decide_eq_true_eq, beq_iff_eq] at h1
    split
    · refine ⟨by show pos + 2 ≤ _; omega, fun k (hk : k < 2) => ?_⟩
      rcases (by omega : k = 0 ∨ k = 1) with rfl | rfl
      · exact h0
      · omega
    · exact ⟨by show pos + 1 ≤ _; omega, one⟩
  · split
    · rename_i h1
      simp only [Bool.and_eq_true, decide_eq_true_eq, beq_iff_eq] at h1
      split
      · refine ⟨by show pos + 3 ≤ _; omega, fun k (hk : k < 3) => ?_⟩
        rcases (by omega : k = 0 ∨ k = 1 ∨ k = 2) with rfl | rfl | rfl
        · exact h0
        · omega
        · omega
      · exact ⟨by show pos + 1 ≤ _; omega, one⟩
    · split
      · rename_i h1
        simp only [Bool.and_eq_true, decide_eq_true_eq, beq_iff_eq] at h1
        split
        · refine ⟨by show pos + 4 ≤ _; omega, fun k (hk : k < 4) => ?_⟩
          rcases (by omega : k = 0 ∨ k = 1 ∨ k = 2 ∨ k = 3) with rfl | rfl | rfl | rfl
          · exact h0
          · omega
          · omega
          · omega
        · exact ⟨by show pos + 1 ≤ _; omega, one⟩
      · exact ⟨by show pos + 1 ≤ _; omega, one⟩

theorem get_bang (s : ByteArray) (j : Nat) (h : j < s.size) : s.data.toList[j]? = some (s.get! j) := by
  rw [Lib.data_getElem? s j h]
  congr 1
  show s[j] = s.data[j]!
  rw [getElem!_pos s.data j (by simpa using h)]
  rfl

/-- the loop's relation over such a rune -/
theorem noAny_span {s chars : ByteArray} {pos : Nat} (h : pos < s.size) (ha : 128 ≤ (s[pos]'h).toNat) (hac : ∀ b ∈ chars.data.toList, b.toNat < 128)
    (hn : Lib.NoAny s.data.toList chars.data.toList pos) : Lib.NoAny s.data.toList chars.data.toList (pos + (Utf8.decode s pos).2) := by
  obtain ⟨h1, h2⟩ := decode_span s pos h ha
  intro j b hj hb
  by_cases hjp : j < pos
  · exact hn j b hjp hb
  · have h3 := h2 (j - pos) (by omega)
    rw [show pos + (j - pos) = j by omega] at h3
    rw [get_bang s j (by omega)] at hb
    have h4 : s.get! j = b := by simpa using hb
    rw [h4] at h3
    cases hc : chars.data.toList.contains b
    · rfl
    · have := hac b (by simpa using hc)
      omega

theorem indexByte_high {l : List UInt8} {c : UInt8} (hl : ∀ b ∈ l, b.toNat < 128) (hc : 128 ≤ c.toNat) : Lib.indexByte l c = -1 := by
  induction l with
  | nil => rfl
  | cons x l ih =>
    have h1 := hl x List.mem_cons_self
    have h2 := ih fun b hb => hl b (List.mem_cons_of_mem _ hb)
    have hx : (x == c) = false := beq_eq_false_iff_ne.2 fun e => by rw [e] at h1; omega
    unfold Lib.indexByte
    rw [hx, h2]
    rfl

end Go.Proofs.Qxb6600191a.Utf
