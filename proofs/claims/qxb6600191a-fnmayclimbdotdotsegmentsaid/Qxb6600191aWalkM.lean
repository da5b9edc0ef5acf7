/-
  CONTRACTS: mayClimb (30), ZZmayClimb (23) WHERE A SEGMENT OF TWO DOTS STANDS: they say yes. THE WALK OF FnMayClimbDotDotSegment (10).
  46 is the dot, 47 the slash.
-/
import Derived.Test.Qxb6600191aShelf
import Derived.WalkKit
import Derived.WalkSpells
import Derived.RowKit3
import Derived.Laws.Concat
import Derived.Lib.Strings
import Derived.Lib.IndexBytes
namespace Go.Proofs.Qxb6600191a
open Go.RowKit

/-- the twelve bytes that a glob takes for signs -/
def globBytes : List UInt8 := [42, 63, 91, 93, 123, 125, 40, 41, 33, 43, 64, 92]

/-- strings.IndexByte over them -/
theorem glob_any (c : Int) (w : World) :
    Calls Try.prog 33 #[.string ⟨#[42, 63, 91, 93, 123, 125, 40, 41, 33, 43, 64, 92]⟩, .int .u8 c] w fun e w' => e = .returned (.int .i64 (Lib.indexByte globBytes c.toNat.toUInt8)) ∧ w' = w :=
  Try.strings_IndexByte _ c w

/-- a segment of two dots begins at p -/
structure Dots (s : ByteArray) (p : Nat) : Prop where
  room : p + 2 ≤ s.size
  front : ∀ h : p - 1 < s.size, 1 ≤ p → (s[p - 1]'h).toNat = 47
  one : ∀ h : p < s.size, (s[p]'h).toNat = 46
  two : ∀ h : p + 1 < s.size, (s[p + 1]'h).toNat = 46
  rear : ∀ h : p + 2 < s.size, (s[p + 2]'h).toNat = 47

set_option maxHeartbeats 2000000 in
theorem mayClimb_yes (s : ByteArray) (p : Nat) (w : World) (hs : s.size ≤ 1073741824) (hd : Dots s p) :
    Calls Try.prog 30 #[.string s] w fun e w' => e = .returned (.bool true) ∧ w' = w := by
  have HD : Hid (Dots s p) := hd
  have hroom := hd.room
  clear hd
  go_enter Try.func30, Try.ntmps30
  go_wp2
  go_loop [3, 4, 5, 6, 7] (fun dp dt br i _ => ∃ (k : Nat) (d t : Int) (b : Bool), k ≤ p + 2 ∧ 0 ≤ d ∧ d ≤ k ∧ 0 ≤ t ∧ t ≤ k ∧ i = .int .i64 k ∧ dp = .int .i64 d ∧ dt = .int .i64 t ∧ br = .bool b ∧
      Hid ((p ≤ k → b = true) ∧ (p + 1 ≤ k → 1 ≤ t) ∧ (p + 2 ≤ k → 2 ≤ t))) (fun _ _ _ i _ => p + 2 - (intOf i).toNat)
  case atStart => exact ⟨0, 0, 0, true, by omega, by omega, by omega, by omega, by omega, rfl, rfl, rfl, rfl, by simp [Hid]⟩
  case round =>
    obtain ⟨k, d, t, b, hk, hd0, hdk, ht0, htk, rfl, rfl, rfl, rfl, hh⟩ := hrel
    by_cases hkp : k < p
    · have hlt : k < s.size := by omega
      have hne : ((k : Int) == (s.size : Int)) = false := beq_eq_false_iff_ne.2 (by omega)
      cases hsl : (((s[k]'hlt).toNat : Int) == 47)
      · have vac : Hid (¬ p ≤ k + 1) := by
          show ¬ p ≤ k + 1
          intro h
          obtain rfl : k = p - 1 := by omega
          have h1 := HD.out.front hlt (by omega)
          have h2 : ((s[p - 1]'hlt).toNat : Int) ≠ 47 := beq_eq_false_iff_ne.1 hsl
          omega
        go_wp2_with (go_at_call 33; refine (glob_any _ _).mono ?_; rintro e w' ⟨rfl, rfl⟩)
        all_goals
          go_round
          case rel =>
            refine ⟨k + 1, _, _, _, ?_, ?_, ?_, ?_, ?_, by go_num, rfl, rfl, rfl, ?_⟩
            all_goals first
              | omega
              | exact ⟨fun h => absurd h vac.out, fun h => absurd (by omega) vac.out, fun h => absurd (by omega) vac.out⟩
          case measure => simp [intOf]; omega
      · cases b
        · go_wp2
          all_goals
            go_round
            case rel =>
              refine ⟨k + 1, _, _, _, ?_, ?_, ?_, ?_, ?_, by go_num, rfl, rfl, rfl, ?_⟩
              all_goals first
                | omega
                | exact ⟨fun _ => rfl, fun h => absurd h (by omega), fun h => absurd h (by omega)⟩
            case measure => simp [intOf]; omega
        · by_cases h2 : 2 ≤ t
          · go_wp2
            go_ret
            exact ⟨rfl, rfl⟩
          · cases hd00 : (d == 0)
            · go_wp2
              go_round
              case rel => exact ⟨k + 1, _, _, _, by omega, by omega, by omega, by omega, by omega, by go_num, rfl, rfl, rfl, ⟨fun _ => rfl, fun h => absurd h (by omega), fun h => absurd h (by omega)⟩⟩
              case measure => simp [intOf]; omega
            · go_wp2
              go_round
              case rel => exact ⟨k + 1, _, _, _, by omega, by omega, by omega, by omega, by omega, by go_num, rfl, rfl, rfl, ⟨fun _ => rfl, fun h => absurd h (by omega), fun h => absurd h (by omega)⟩⟩
              case measure => simp [intOf]; omega
    · obtain rfl : b = true := hh.out.1 (by omega)
      by_cases hk2 : k = p + 2
      · have ht2 : 2 ≤ t := hh.out.2.2 (by omega)
        subst hk2
        by_cases hend : p + 2 = s.size
        · have heq : ((p + 2 : Nat) : Int) = (s.size : Int) := by omega
          have hee : (((p + 2 : Nat) : Int) == (s.size : Int)) = true := beq_iff_eq.2 heq
          clear heq
          go_wp2
          go_ret
          exact ⟨rfl, rfl⟩
        · have hlt : p + 2 < s.size := by omega
          have hne : (((p + 2 : Nat) : Int) == (s.size : Int)) = false := beq_eq_false_iff_ne.2 (by omega)
          have hsl : ((s[p + 2]'hlt).toNat : Int) = 47 := by have := HD.out.rear hlt; omega
          have hs2 : (((s[p + 2]'hlt).toNat : Int) == 47) = true := beq_iff_eq.2 hsl
          clear hsl
          go_wp2
          go_ret
          exact ⟨rfl, rfl⟩
      · have hlt : k < s.size := by omega
        have hne : ((k : Int) == (s.size : Int)) = false := beq_eq_false_iff_ne.2 (by omega)
        have h46 : (s[k]'hlt).toNat = 46 := by
          rcases (by omega : k = p ∨ k = p + 1) with rfl | rfl
          · exact HD.out.one hlt
          · exact HD.out.two hlt
        have hsl : (((s[k]'hlt).toNat : Int) == 47) = false := beq_eq_false_iff_ne.2 (by omega)
        have hsd : (((s[k]'hlt).toNat : Int) == 46) = true := beq_iff_eq.2 (by omega)
        clear h46
        go_wp2
        go_round
        case rel =>
          have h1 := hh.out.2.1
          exact ⟨k + 1, _, _, _, by omega, by omega, by omega, by omega, by omega, by go_num, rfl, rfl, rfl, ⟨fun _ => rfl, fun _ => by omega, fun _ => by omega⟩⟩
        case measure => simp [intOf]; omega

set_option maxHeartbeats 1000000 in
theorem zzmayClimb_yes (s : ByteArray) (p : Nat) (w : World) (hs : s.size ≤ 1073741824) (hd : Dots s p) :
    Calls Try.prog 23 #[.string s] w fun e w' => e = .returned (.bool true) ∧ w' = w := by
  go_enter Try.func23, Try.ntmps23
  go_wp2_with (go_at_call 30; refine (mayClimb_yes _ _ _ hs hd).mono ?_; rintro e w' ⟨rfl, rfl⟩)
  go_ret
  exact ⟨rfl, rfl⟩

/-! ### where the two dots stand -/
theorem byte_of (s : ByteArray) (i : Nat) (h : i < s.size) {c : UInt8} (e : s.data.toList[i]? = some c) : (s[i]'h).toNat = c.toNat := by
  rw [Lib.data_getElem? s i h] at e
  rw [Option.some.inj e]

theorem dots_of {s : ByteArray} {x y : List UInt8} (h : s.data.toList = x ++ 46 :: 46 :: y) (hx : x = [] ∨ ∃ x', x = x' ++ [47]) (hy : y = [] ∨ ∃ y', y = 47 :: y') : Dots s x.length := by
  have hsz : s.size = x.length + 2 + y.length := by rw [Lib.size_eq, h]; simp; omega
  refine ⟨by omega, fun hl h1 => ?_, fun hl => ?_, fun hl => ?_, fun hl => ?_⟩
  · rcases hx with rfl | ⟨x', rfl⟩
    · simp at h1
    · refine byte_of s _ hl (c := 47) ?_
      rw [h]; simp
  · refine byte_of s _ hl (c := 46) ?_
    rw [h]; simp
  · refine byte_of s _ hl (c := 46) ?_
    rw [h, List.getElem?_append_right (by omega)]; simp
  · rcases hy with rfl | ⟨y', rfl⟩
    · simp at hsz; omega
    · refine byte_of s _ hl (c := 47) ?_
      rw [h, List.getElem?_append_right (by omega)]; simp

theorem dots1 (a b : ByteArray) : Dots (a ++ ⟨#[47, 46, 46, 47]⟩ ++ b) (a.data.toList ++ [47]).length :=
  dots_of (y := 47 :: b.data.toList) (by simp [ByteArray.data_append]) (.inr ⟨_, rfl⟩) (.inr ⟨_, rfl⟩)
theorem dots2 (a : ByteArray) : Dots (a ++ ⟨#[47, 46, 46]⟩) (a.data.toList ++ [47]).length :=
  dots_of (y := []) (by simp [ByteArray.data_append]) (.inr ⟨_, rfl⟩) (.inl rfl)
theorem dots3 (b : ByteArray) : Dots (⟨#[46, 46, 47]⟩ ++ b) ([] : List UInt8).length :=
  dots_of (y := 47 :: b.data.toList) (by simp [ByteArray.data_append]) (.inl rfl) (.inr ⟨_, rfl⟩)
theorem dots4 : Dots ⟨#[46, 46]⟩ ([] : List UInt8).length :=
  dots_of (y := []) (by rfl) (.inl rfl) (.inl rfl)

set_option maxHeartbeats 2000000 in
theorem walk10 (a0 a1 : ByteArray) (w0 : a0.size ≤ maxLen) (w1 : a1.size ≤ maxLen) (w : World) :
    Calls Try.prog 10 #[.string a0, .string a1] w fun e w' => e = .returned (.bool true) ∧ Grown w w' := by
  unfold maxLen at w0 w1
  by_cases hb : a0.size + a1.size ≤ 1048576
  · by_cases hc : a0.size ≤ 65536 ∧ a1.size ≤ 65536
    · obtain ⟨hc0, hc1⟩ := hc
      go_enter Try.func10, Try.ntmps10
      go_wp2_with (go_at_call 25; go_in)
      refine (zzmayClimb_yes _ _ _ ?_ (dots1 a0 a1)).mono ?_
      · rw [ByteArray.size_append, ByteArray.size_append]; show a0.size + 4 + a1.size ≤ _; omega
      rintro e w' ⟨rfl, rfl⟩
      go_wp2_with fail
      refine (zzmayClimb_yes _ _ _ ?_ (dots2 a0)).mono ?_
      · rw [ByteArray.size_append]; show a0.size + 3 ≤ _; omega
      rintro e w' ⟨rfl, rfl⟩
      go_wp2_with fail
      refine (zzmayClimb_yes _ _ _ ?_ (dots3 a1)).mono ?_
      · rw [ByteArray.size_append]; show 3 + a1.size ≤ _; omega
      rintro e w' ⟨rfl, rfl⟩
      go_wp2_with fail
      refine (zzmayClimb_yes _ _ _ ?_ dots4).mono ?_
      · decide
      rintro e w' ⟨rfl, rfl⟩
      go_wp2
      go_ret
      exact ⟨rfl, Grown.refl _⟩
    · by_cases hc0 : a0.size ≤ 65536
      · have hc1 : ¬ a1.size ≤ 65536 := fun h => hc ⟨hc0, h⟩
        clear hc
        go_enter Try.func10, Try.ntmps10
        go_wp2_with (go_at_call 25; go_in)
        go_ret
        exact ⟨rfl, Grown.refl _⟩
      · clear hc
        go_enter Try.func10, Try.ntmps10
        go_wp2_with (go_at_call 25; go_in)
        go_ret
        exact ⟨rfl, Grown.refl _⟩
  · go_enter Try.func10, Try.ntmps10
    go_wp2_with (go_at_call 25; go_in)
    all_goals (go_ret; exact ⟨rfl, Grown.refl _⟩)

end Go.Proofs.Qxb6600191a
