/-
  CONTRACTS: hasByte (12), internal/stringslite.Cut (34) and strings.Cut (31) at a separator of one byte, splitReference (27), ZZsplitReference (13).
-/
import Derived.Test.Qxb6000715aShelf
import Derived.Test.Qxb6000715aPlain
import Derived.WalkKit
import Derived.WalkSpells
import Derived.Deep.Draws
namespace Go.Proofs.Qxb6000715a
open Go.RowKit Plain

theorem take_snoc (s : ByteArray) (k : Nat) (h : k < s.size) : s.data.toList.take (k + 1) = s.data.toList.take k ++ [s[k]] := by
  rw [List.take_succ_eq_append_getElem (by simpa using h)]; rfl

set_option maxHeartbeats 400000 in
theorem hasByte_any (s : ByteArray) (c : Int) (w : World) (hs : s.size ≤ maxLen) :
    Calls Try.prog 12 #[.string s, .int .u8 c] w fun e w' => e = .returned (.bool (hasB s.data.toList c)) ∧ w' = w := by
  unfold maxLen at hs
  go_enter Try.func12, Try.ntmps12
  go_wp2
  go_loop [5] (fun i => ∃ k : Nat, k ≤ s.size ∧ i = .int .i64 k ∧ Hid (hasB (s.data.toList.take k) c = false)) (fun i => s.size - (intOf i).toNat)
  case atStart => exact ⟨0, Nat.zero_le _, rfl, rfl⟩
  case round =>
    obtain ⟨k, hk, rfl, hh⟩ := hrel
    by_cases hlt : k < s.size
    · have hts : hasB (s.data.toList.take (k + 1)) c = ((s[k].toNat : Int) == c) := by
        rw [take_snoc s k hlt, hasB_append, hh.out, hasB_one]; rfl
      have HS : Hid (hasB (s.data.toList.take (k + 1)) c = ((s[k].toNat : Int) == c)) := hts
      clear hts
      go_wp2
      · have h1 : ((s[k].toNat : Int) == c) = true := by assumption
        have h2 : hasB s.data.toList c = true := by
          rw [← List.take_append_drop (k + 1) s.data.toList, hasB_append, HS.out, h1]; rfl
        go_ret
        rw [h2]
        exact ⟨rfl, rfl⟩
      · have h1 : ((s[k].toNat : Int) == c) = false := by assumption
        go_round
        case rel => exact ⟨k + 1, by omega, by go_num, HS.out.trans h1⟩
        case measure => simp [intOf]; omega
    · have e : s.data.toList.take k = s.data.toList := List.take_of_length_le (by rw [← Lib.size_eq]; omega)
      have h2 : hasB s.data.toList c = false := by rw [← e]; exact hh.out
      have H2 : Hid (hasB s.data.toList c = false) := h2
      clear h2 e
      go_wp2
      go_ret
      rw [H2.out]
      exact ⟨rfl, rfl⟩

theorem data_extract0 (s : ByteArray) (i : Nat) : (s.extract 0 i).data.toList = s.data.toList.take i := by
  rw [Lib.extract_data]; simp
theorem data_extract1 (s : ByteArray) (i : Nat) : (s.extract i s.size).data.toList = s.data.toList.drop i := Lib.extract_to_end s i

set_option maxHeartbeats 1000000 in
/-- internal/stringslite.Index at one byte -/
theorem index_one (s : ByteArray) (c : UInt8) (w : World) :
    Calls Try.prog 38 #[.string s, .string ⟨#[c]⟩] w fun e w' => e = .returned (.int .i64 (Lib.indexByte s.data.toList c)) ∧ w' = w := by
  cases heq : ([c] == s.toList)
  · go_enter Try.func38, Try.ntmps38
    go_wp2_with (go_at_call 44; refine (Try.stringslite_IndexByte _ _ _).mono ?_; rintro e w' ⟨rfl, rfl⟩)
    go_ret
    exact ⟨rfl, rfl⟩
  · have e1 : s.data.toList = [c] := by rw [← Lib.toList_data]; simpa using (beq_iff_eq.1 heq).symm
    have E1 : Hid (s.data.toList = [c]) := e1
    clear e1
    go_enter Try.func38, Try.ntmps38
    go_wp2
    go_ret
    exact ⟨by rw [E1.out]; simp [Lib.indexByte], rfl⟩

set_option maxHeartbeats 1000000 in
/-- internal/stringslite.Cut at one byte -/
theorem cutl_any (s : ByteArray) (c : UInt8) (w : World) (hs : s.size ≤ maxLen) :
    Calls Try.prog 34 #[.string s, .string ⟨#[c]⟩] w fun e w' => ∃ a b : ByteArray, ∃ f : Bool, e = .returned (.tuple #[.string a, .string b, .bool f]) ∧
      Hid (CutAt c s.data.toList a.data.toList b.data.toList f ∧ a.size ≤ s.size ∧ b.size ≤ s.size) ∧ ∃ n, w' = w.drewN n := by
  unfold maxLen at hs
  rcases indexByte_cases s.data.toList c with ⟨h1, h2⟩ | ⟨i, h1, hi, h3, h4⟩
  · have HR : Hid (Lib.indexByte s.data.toList c = -1) := h1
    clear h1
    go_enter Try.func34, Try.ntmps34
    go_wp2_with (go_at_call 38; refine (index_one _ _ _).mono ?_; rintro e w' ⟨rfl, rfl⟩; rw [HR.out])
    go_ret3
    exact ⟨s, ⟨#[]⟩, false, rfl, ⟨.inl ⟨rfl, h2, rfl, rfl⟩, Nat.le_refl _, Nat.zero_le _⟩, 0, rfl⟩
  · rw [← Lib.size_eq] at hi
    have HR : Hid (Lib.indexByte s.data.toList c = (i : Int)) := h1
    have H3 : Hid (s.data.toList = s.data.toList.take i ++ c :: s.data.toList.drop (i + 1)) := h3
    clear h1 h3
    have c1 : (0 : Int) ≤ ↑i := by omega
    have c2 : (↑i : Int) ≤ ↑s.size := by omega
    have c3 : (0 : Int) ≤ ↑i + 1 := by omega
    have c4 : (↑i + 1 : Int) ≤ ↑s.size := by omega
    go_enter Try.func34, Try.ntmps34
    go_wp2_with (go_at_call 38; refine (index_one _ _ _).mono ?_; rintro e w' ⟨rfl, rfl⟩; rw [HR.out])
    go_region
    go_wp2
    go_ret3
    refine ⟨s.extract 0 i, s.extract (i + 1) s.size, true, rfl, ⟨.inr ⟨rfl, ?_, ?_⟩, ?_, ?_⟩, 1, rfl⟩
    · rw [data_extract0, data_extract1]; exact H3.out
    · rw [data_extract0]; exact h4
    · rw [ByteArray.size_extract]; omega
    · rw [ByteArray.size_extract]; omega

set_option maxHeartbeats 1000000 in
/-- strings.Cut at one byte -/
theorem cut_any (s : ByteArray) (c : UInt8) (w : World) (hs : s.size ≤ maxLen) :
    Calls Try.prog 31 #[.string s, .string ⟨#[c]⟩] w fun e w' => ∃ a b : ByteArray, ∃ f : Bool, e = .returned (.tuple #[.string a, .string b, .bool f]) ∧
      Hid (CutAt c s.data.toList a.data.toList b.data.toList f ∧ a.size ≤ s.size ∧ b.size ≤ s.size) ∧ ∃ n, w' = w.drewN n := by
  go_enter Try.func31, Try.ntmps31
  go_wp2_with (go_at_call 34; refine (cutl_any _ _ _ hs).mono ?_; rintro e w' ⟨a, b, f, rfl, hc, n, rfl⟩)
  go_ret3
  exact ⟨a, b, f, rfl, hc, n, rfl⟩

theorem last58 (s : ByteArray) (w : World) (hs : s.size < 4611686018427387904) {x : Int} (hx : Lib.lastIndexByte s 58 = x) :
    Calls Try.prog 32 #[.string s, .string ⟨#[58]⟩] w fun e w' => e = .returned (.int .i64 x) ∧ w' = w :=
  hx ▸ Try.strings_LastIndex_one s ⟨#[58]⟩ rfl hs w
theorem last47 (s : ByteArray) (w : World) (hs : s.size < 4611686018427387904) {x : Int} (hx : Lib.lastIndexByte s 47 = x) :
    Calls Try.prog 32 #[.string s, .string ⟨#[47]⟩] w fun e w' => e = .returned (.int .i64 x) ∧ w' = w :=
  hx ▸ Try.strings_LastIndex_one s ⟨#[47]⟩ rfl hs w

theorem split_of_cut {l a b r t v : List UInt8} {f : Bool} (hc : CutAt 64 l a b f) (ht : TagSplit a r t) (hv : (f = true ∧ v = b) ∨ (f = false ∧ v = t)) : Split l r v := by
  rcases hc with ⟨hf, hn, rfl, _⟩ | ⟨hf, hl, hn⟩
  · rcases hv with ⟨h1, _⟩ | ⟨_, rfl⟩
    · rw [hf] at h1; exact absurd h1 (by decide)
    · exact .inl ⟨hn, ht⟩
  · rcases hv with ⟨_, rfl⟩ | ⟨h1, _⟩
    · exact .inr ⟨a, t, hl, hn, ht⟩
    · rw [hf] at h1; exact absurd h1 (by decide)

set_option maxHeartbeats 1000000 in
/-- splitReference -/
theorem split_any (s : ByteArray) (w : World) (hs : s.size ≤ 1073741824) :
    Calls Try.prog 27 #[.string s] w fun e w' => ∃ r v : ByteArray, e = .returned (.tuple #[.string r, .string v]) ∧
      Hid (Split s.data.toList r.data.toList v.data.toList ∧ r.size ≤ s.size ∧ v.size ≤ s.size) ∧ ∃ n, w' = w.drewN n := by
  have hs' : s.size ≤ maxLen := by unfold maxLen; omega
  go_enter Try.func27, Try.ntmps27
  go_wp2_with (go_at_call 31; refine (cut_any _ _ _ hs').mono ?_; rintro e w' ⟨a, b, f, rfl, hc, n, rfl⟩)
  have ha : a.size < 4611686018427387904 := by have := hc.out.2.1; omega
  by_cases ht : Lib.lastIndexByte a 47 < Lib.lastIndexByte a 58
  · obtain ⟨i, hi, hia, htag⟩ := tag_yes a ht
    obtain ⟨j, hj⟩ : ∃ j : Int, Lib.lastIndexByte a 47 = j := ⟨_, rfl⟩
    have hji : j < (i : Int) := by rw [← hj, ← hi]; exact ht
    have H1 : Hid (Lib.lastIndexByte a 58 = (i : Int)) := hi
    have H2 : Hid (Lib.lastIndexByte a 47 = j) := hj
    have H3 : Hid (IsTag a.data.toList (a.data.toList.take i) (a.data.toList.drop (i + 1))) := htag
    clear ht hi hj htag
    have c1 : (0 : Int) ≤ ↑i := by omega
    have c2 : (↑i : Int) ≤ ↑a.size := by omega
    have c3 : (0 : Int) ≤ ↑i + 1 := by omega
    have c4 : (↑i + 1 : Int) ≤ ↑a.size := by omega
    refine (last58 a _ ha H1.out).mono ?_
    rintro e w' ⟨rfl, rfl⟩
    go_wp2_with (go_at_call 32; refine (last47 a _ ha H2.out).mono ?_; rintro e w' ⟨rfl, rfl⟩)
    go_region
    go_wp2
    · go_ret2
      refine ⟨a.extract 0 i, b, rfl, ⟨split_of_cut hc.out.1 (.inl (by rw [data_extract0]; exact H3.out)) (.inl ⟨by assumption, rfl⟩), ?_, hc.out.2.2⟩, n + 1, rfl⟩
      have := hc.out.2.1
      rw [ByteArray.size_extract]; omega
    · go_ret2
      refine ⟨a.extract 0 i, a.extract (i + 1) a.size, rfl, ⟨split_of_cut hc.out.1 (.inl (by rw [data_extract0, data_extract1]; exact H3.out)) (.inr ⟨by assumption, rfl⟩), ?_, ?_⟩, n + 1, rfl⟩
      · have := hc.out.2.1
        rw [ByteArray.size_extract]; omega
      · have := hc.out.2.1
        rw [ByteArray.size_extract]; omega
  · have htag := tag_no a ht
    obtain ⟨j, hj⟩ : ∃ j : Int, Lib.lastIndexByte a 47 = j := ⟨_, rfl⟩
    obtain ⟨i, hi⟩ : ∃ i : Int, Lib.lastIndexByte a 58 = i := ⟨_, rfl⟩
    have hji : ¬ j < i := by rw [← hj, ← hi]; exact ht
    have H1 : Hid (Lib.lastIndexByte a 58 = i) := hi
    have H2 : Hid (Lib.lastIndexByte a 47 = j) := hj
    have H3 : Hid (NoTag a.data.toList) := htag
    clear ht hi hj htag
    refine (last58 a _ ha H1.out).mono ?_
    rintro e w' ⟨rfl, rfl⟩
    go_wp2_with (go_at_call 32; refine (last47 a _ ha H2.out).mono ?_; rintro e w' ⟨rfl, rfl⟩)
    · go_ret2
      exact ⟨a, b, rfl, ⟨split_of_cut hc.out.1 (.inr ⟨H3.out, rfl, rfl⟩) (.inl ⟨by assumption, rfl⟩), hc.out.2.1, hc.out.2.2⟩, n, rfl⟩
    · go_ret2
      exact ⟨a, ⟨#[]⟩, rfl, ⟨split_of_cut hc.out.1 (.inr ⟨H3.out, rfl, rfl⟩) (.inr ⟨by assumption, rfl⟩), hc.out.2.1, Nat.zero_le _⟩, n, rfl⟩

set_option maxHeartbeats 1000000 in
/-- ZZsplitReference -/
theorem zzsplit_any (s : ByteArray) (w : World) (hs : s.size ≤ 1073741824) :
    Calls Try.prog 13 #[.string s] w fun e w' => ∃ r v : ByteArray, e = .returned (.tuple #[.string r, .string v]) ∧
      Hid (Split s.data.toList r.data.toList v.data.toList ∧ r.size ≤ s.size ∧ v.size ≤ s.size) ∧ ∃ n, w' = w.drewN n := by
  go_enter Try.func13, Try.ntmps13
  go_wp2_with (go_at_call 27; refine (split_any _ _ hs).mono ?_; rintro e w' ⟨r, v, rfl, hc, n, rfl⟩)
  go_ret2
  exact ⟨r, v, rfl, hc, n, rfl⟩

end Go.Proofs.Qxb6000715a
