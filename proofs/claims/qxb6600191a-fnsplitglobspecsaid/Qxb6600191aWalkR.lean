/-
  CONTRACT: strings.IndexRune (34) at a rune beyond ASCII, in a string of ASCII bytes: -1.
-/
import Derived.Test.Qxb6600191aShelf
import Derived.Test.Qxb6600191aShelfAny
import Derived.Test.Qxb6600191aUtf
import Derived.WalkKit
import Derived.WalkSpells
import Derived.Deep.Draws
import Derived.Deep.LoopGhost
import Derived.Below
import Derived.WalkMore
import Derived.Deep.RegionWith
namespace Go.Proofs.Qxb6600191a
open Go.RowKit

set_option maxHeartbeats 2000000 in
set_option maxRecDepth 1000000 in
/-- the error rune -/
theorem rune_err (chars : ByteArray) (w : World) (hac : ∀ b ∈ chars.data.toList, b.toNat < 128) :
    Calls Try.prog 34 #[.string chars, .int .i32 65533] w fun e w' => e = .returned (.int .i64 (-1)) ∧ Below w.heap.size w w' := by
  have HA : Aside (∀ b ∈ chars.data.toList, b.toNat < 128) := hac
  clear hac
  go_enter Try.func34, Try.ntmps34
  go_wp2
  go_loopg [5, 6] chars.size (fun g _ _ wx => ∃ i : Nat, i + g = chars.size ∧ wx = w.iter chars i)
  case atStart => exact ⟨0, by omega, rfl⟩
  case round =>
    obtain ⟨i, hig, rfl⟩ := hrel
    cases gk with
    | zero =>
      obtain rfl : i = chars.size := by omega
      have hnx := fun ty => run_next_end (P := Try.prog) w chars chars.size ty (by omega)
      go_wp2
      go_ret
      exact ⟨rfl, (Below.refl _ _).alloc (Nat.le_refl _) _⟩
    | succ g =>
      have hi : i < chars.size := by omega
      obtain ⟨x, hx⟩ : ∃ x : UInt8, chars[i]'hi = x := ⟨_, rfl⟩
      have hx128 : x.toNat < 128 := by rw [← hx]; exact HA.out _ (Array.getElem_mem_toList (xs := chars.data) hi)
      have hnx := fun ty => run_next_ascii (P := Try.prog) w chars i ty hi (by rw [hx]; exact hx128)
      rw [hx] at hnx
      have hne : ((x.toNat : Int) == 65533) = false := beq_eq_false_iff_ne.2 (by omega)
      clear hx
      go_wp2
      go_roundg g
      case measure => omega
      case rel => exact ⟨i + 1, by omega, rfl⟩

set_option maxHeartbeats 2000000 in
set_option maxRecDepth 1000000 in
/-- no rune -/
theorem rune_bad (chars : ByteArray) (r : Int) (w : World) (h1 : 55296 ≤ r) (h2 : r ≤ 57343 ∨ 1114111 < r) :
    Calls Try.prog 34 #[.string chars, .int .i32 r] w fun e w' => e = .returned (.int .i64 (-1)) ∧ Below w.heap.size w w' := by
  have c1 : (r == 65533) = false := beq_eq_false_iff_ne.2 (by omega)
  rcases h2 with h2 | h2
  · go_enter Try.func34, Try.ntmps34
    go_wp2_with (go_at_call 40; go_in)
    go_ret
    exact ⟨rfl, Below.refl _ _⟩
  · go_enter Try.func34, Try.ntmps34
    go_wp2_with (go_at_call 40; go_in)
    go_ret
    exact ⟨rfl, Below.refl _ _⟩

/-- strings.IndexByte of a byte beyond ASCII in ASCII bytes -/
theorem ib_high (s : ByteArray) (c : Int) (w : World) (hs : ∀ b ∈ s.data.toList, b.toNat < 128) (h1 : 128 ≤ c) (h2 : c < 256) :
    Calls Try.prog 33 #[.string s, .int .u8 c] w fun e w' => e = .returned (.int .i64 (-1)) ∧ w' = w :=
  (Try.strings_IndexByte s c w).mono fun _ _ h => ⟨by
    rw [h.1, Utf.indexByte_high hs (by simp; omega)], h.2⟩

theorem encode_some (r : Int) (h1 : 128 ≤ r) (h2 : r < 55296 ∨ (57343 < r ∧ r ≤ 1114111)) : ∃ (rs : ByteArray) (k : Nat), Utf8.encode r = rs ∧ rs.size = k + 1 ∧ 1 ≤ k ∧ k ≤ 3 ∧ ∀ h : k < rs.size, 128 ≤ (rs[k]'h).toNat := by
  have hv : Utf8.valid r = true := by rw [validRune_eq]; unfold validRune; exact decide_eq_true (by omega)
  obtain ⟨e1, e2, e3⟩ := encode_facts r hv h1
  refine ⟨Utf8.encode r, (Utf8.encode r).size - 1, rfl, by omega, by omega, by omega, e3⟩

set_option maxHeartbeats 2000000 in
set_option maxRecDepth 1000000 in
/-- a rune beyond ASCII -/
theorem rune_high (chars : ByteArray) (r : Int) (w : World) (h1 : 128 ≤ r) (h2 : r < 55296 ∨ (57343 < r ∧ r ≤ 1114111)) (h3 : r ≠ 65533) (hac : ∀ b ∈ chars.data.toList, b.toNat < 128) :
    Calls Try.prog 34 #[.string chars, .int .i32 r] w fun e w' => e = .returned (.int .i64 (-1)) ∧ Below w.heap.size w w' := by
  have c1 : (r == 65533) = false := beq_eq_false_iff_ne.2 h3
  obtain ⟨rs, k, hrs, hsz, hk1, hk3, hlast⟩ := encode_some r h1 h2
  have HA : Aside (∀ b ∈ chars.data.toList, b.toNat < 128) := hac
  have HL : Aside (∀ h : k < rs.size, 128 ≤ (rs[k]'h).toNat) := hlast
  clear hac hlast
  rcases h2 with h2 | ⟨h2, h4⟩
  all_goals
    go_enter Try.func34, Try.ntmps34
    go_wp2_with (go_at_call 40; go_in)
    go_step3
    by_cases hk : k < chars.size
    · have hkr : k < rs.size := by omega
      have hb1 : 128 ≤ (rs[k]'hkr).toNat := HL.out hkr
      have hb3 : (rs[k]'hkr).toNat < 256 := (rs[k]'hkr).toNat_lt
      have hb2 : (chars[k]'hk).toNat < 128 := HA.out _ (Array.getElem_mem_toList (xs := chars.data) hk)
      have hne : ((((chars[k]'hk).toNat : Int)) != (((rs[k]'hkr).toNat : Int))) = true := bne_iff_ne.2 (by omega)
      have c2 : (0 : Int) ≤ (k : Int) + 1 := by omega
      have c3 : (k : Int) + 1 ≤ (chars.size : Int) := by omega
      have c4 : (k : Int) < (k : Int) + 1 := by omega
      have hwr : IntKind.i64.wrap ((k : Int) + 1) = (k : Int) + 1 := wrap_small _ (by omega) (by omega)
      have hsl : ∀ wx, (Instr.slice 9 (.string chars) (some (.int .i64 ((k : Int) + 1))) none none).run Try.prog wx = .ok (.string (chars.extract (k + 1) chars.size)) wx := fun wx => by
        rw [run_slice_string_from_if wx 9 chars .i64 _ Try.underlying9, if_pos ⟨c2, c3⟩]; rfl
      have HI : Aside (∀ b ∈ (chars.extract (k + 1) chars.size).data.toList, b.toNat < 128) := fun b hb => HA.out b (mem_extract hb)
      go_wp2
      refine wp_loop_rounds 1 ?_
      rw [rounds_succ]
      go_wp2
      go_step3
      go_wp2
      go_region
      go_wp2
      go_region_with (go_at_call 33; refine (ib_high _ _ _ HI.out (by omega) (by omega)).mono ?_; rintro e w' ⟨rfl, rfl⟩)
      go_wp2
      rw [Exit.noGoto_ret]
      go_wp2
      rw [Exit.noGoto_ret]
      go_ret
      exact ⟨rfl, Below.drew (Below.drew (Below.refl _ _))⟩
    · go_wp2
      refine wp_loop_rounds 1 ?_
      rw [rounds_succ]
      go_wp2
      rw [Exit.noGoto_ret]
      go_ret
      exact ⟨rfl, Below.refl _ _⟩

end Go.Proofs.Qxb6600191a
