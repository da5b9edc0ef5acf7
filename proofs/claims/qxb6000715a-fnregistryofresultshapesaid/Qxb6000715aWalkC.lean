/-
  THE WALK OF FnSplitReferenceComposeRoundTrip (4).
-/
import Derived.Test.Qxb6000715aWalkB
namespace Go.Proofs.Qxb6000715a
open Go.RowKit Plain

/-! ### the plain law -/
theorem not_mem_joined {a b : List UInt8} {c x : UInt8} (ha : x ∉ a) (hb : x ∉ b) (hc : x ≠ c) : x ∉ a ++ c :: b := by
  intro h
  rcases List.mem_append.1 h with h | h
  · exact ha h
  · rcases List.mem_cons.1 h with h | h
    · exact hc h
    · exact hb h

theorem compose1 {repo tag r v : List UInt8} (h64 : (64 : UInt8) ∉ repo) (t58 : (58 : UInt8) ∉ tag) (t47 : (47 : UInt8) ∉ tag) (t64 : (64 : UInt8) ∉ tag)
    (h : Split (repo ++ 58 :: tag) r v) : r = repo ∧ v = tag :=
  h.unique (.inl ⟨not_mem_joined h64 t64 (by decide), .inl ⟨rfl, t58, t47⟩⟩)

theorem compose2 {repo tag d r v : List UInt8} (h64 : (64 : UInt8) ∉ repo) (t58 : (58 : UInt8) ∉ tag) (t47 : (47 : UInt8) ∉ tag) (t64 : (64 : UInt8) ∉ tag)
    (h : Split ((repo ++ 58 :: tag) ++ 64 :: d) r v) : r = repo ∧ v = d :=
  h.unique (.inr ⟨_, tag, rfl, not_mem_joined h64 t64 (by decide), .inl ⟨rfl, t58, t47⟩⟩)

theorem compose3 {repo d r3 v3 r4 v4 : List UInt8} (h64 : (64 : UInt8) ∉ repo) (h : Split (repo ++ 64 :: d) r3 v3) (h4 : Split repo r4 v4) : r3 = r4 ∧ v3 = d :=
  h.unique (.inr ⟨repo, v4, rfl, h64, h4.noAt h64⟩)

theorem same_of {a b : ByteArray} (h : a.data.toList = b.data.toList) : a = b := by
  rw [← Lib.mk_data a, ← Lib.mk_data b, h]

theorem data_join (a b : ByteArray) (c : UInt8) : (a ++ ⟨#[c]⟩ ++ b).data.toList = a.data.toList ++ c :: b.data.toList := by
  simp [ByteArray.data_append]

theorem size_join (a b : ByteArray) (c : UInt8) : (a ++ ⟨#[c]⟩ ++ b).size = a.size + 1 + b.size := by
  rw [Lib.size_eq, data_join, Lib.size_eq, Lib.size_eq]
  simp; omega

set_option maxHeartbeats 400000 in
theorem walk4 (a0 a1 a2 : ByteArray) (w0 : a0.size ≤ maxLen) (w1 : a1.size ≤ maxLen) (w2 : a2.size ≤ maxLen) (w : World) :
    Calls Try.prog 4 #[.string a0, .string a1, .string a2] w fun e w' => e = .returned (.bool true) ∧ Grown w w' := by
  have m0 := w0
  have m1 := w1
  have m2 := w2
  unfold maxLen at w0 w1 w2
  by_cases hb : a0.size + a1.size + a2.size ≤ 1048576
  · cases c0 : hasB a0.data.toList 64
    · cases c1 : hasB a1.data.toList 58
      · cases c2 : hasB a1.data.toList 47
        · cases c3 : hasB a1.data.toList 64
          · have C0 : Hid (hasB a0.data.toList 64 = false) := c0
            have C1 : Hid (hasB a1.data.toList 58 = false) := c1
            have C2 : Hid (hasB a1.data.toList 47 = false) := c2
            have C3 : Hid (hasB a1.data.toList 64 = false) := c3
            clear c0 c1 c2 c3
            go_enter Try.func4, Try.ntmps4
            go_wp2_with (go_at_call 14; go_in)
            refine (hasByte_is _ _ _ m0 C0).mono ?_
            rintro e w' ⟨rfl, rfl⟩
            go_wp2_with fail
            refine (hasByte_is _ _ _ m1 C1).mono ?_
            rintro e w' ⟨rfl, rfl⟩
            go_wp2_with fail
            refine (hasByte_is _ _ _ m1 C2).mono ?_
            rintro e w' ⟨rfl, rfl⟩
            go_wp2_with fail
            refine (hasByte_is _ _ _ m1 C3).mono ?_
            rintro e w' ⟨rfl, rfl⟩
            go_wp2_with fail
            refine (zzsplit_any _ _ ?_).mono ?_
            · rw [size_join]; omega
            rintro e w' ⟨r1, v1, rfl, hc1, n1, rfl⟩
            have h1 := compose1 ((hasB_false _ 64).1 C0.out) ((hasB_false _ 58).1 C1.out) ((hasB_false _ 47).1 C2.out) ((hasB_false _ 64).1 C3.out) (data_join a0 a1 58 ▸ hc1.out.1)
            obtain rfl := same_of h1.1
            obtain rfl := same_of h1.2
            clear h1 hc1
            go_wp2_with fail
            refine (zzsplit_any _ _ ?_).mono ?_
            · rw [size_join, size_join]; omega
            rintro e w' ⟨r2, v2, rfl, hc2, n2, rfl⟩
            have h2 := compose2 ((hasB_false _ 64).1 C0.out) ((hasB_false _ 58).1 C1.out) ((hasB_false _ 47).1 C2.out) ((hasB_false _ 64).1 C3.out) (by have h := hc2.out.1; rwa [data_join, data_join] at h)
            obtain rfl := same_of h2.1
            obtain rfl := same_of h2.2
            clear h2 hc2
            go_wp2_with fail
            refine (zzsplit_any _ _ ?_).mono ?_
            · rw [size_join]; omega
            rintro e w' ⟨r3, v3, rfl, hc3, n3, rfl⟩
            go_wp2_with fail
            refine (zzsplit_any _ _ ?_).mono ?_
            · omega
            rintro e w' ⟨r4, v4, rfl, hc4, n4, rfl⟩
            have h3 := compose3 ((hasB_false _ 64).1 C0.out) (data_join r2 v2 64 ▸ hc3.out.1) hc4.out.1
            obtain rfl := same_of h3.1
            obtain rfl := same_of h3.2
            clear h3 hc3 hc4
            go_wp2
            go_ret
            exact ⟨rfl, grown_drewN (grown_drewN (grown_drewN (grown_drewN (Grown.refl _) n1) n2) n3) n4⟩
          · have C0 : Hid (hasB a0.data.toList 64 = false) := c0
            have C1 : Hid (hasB a1.data.toList 58 = false) := c1
            have C2 : Hid (hasB a1.data.toList 47 = false) := c2
            have C3 : Hid (hasB a1.data.toList 64 = true) := c3
            clear c0 c1 c2 c3
            go_enter Try.func4, Try.ntmps4
            go_wp2_with (go_at_call 14; go_in)
            refine (hasByte_is _ _ _ m0 C0).mono ?_
            rintro e w' ⟨rfl, rfl⟩
            go_wp2_with fail
            refine (hasByte_is _ _ _ m1 C1).mono ?_
            rintro e w' ⟨rfl, rfl⟩
            go_wp2_with fail
            refine (hasByte_is _ _ _ m1 C2).mono ?_
            rintro e w' ⟨rfl, rfl⟩
            go_wp2_with fail
            refine (hasByte_is _ _ _ m1 C3).mono ?_
            rintro e w' ⟨rfl, rfl⟩
            go_wp2
            go_ret
            exact ⟨rfl, Grown.refl _⟩
        · have C0 : Hid (hasB a0.data.toList 64 = false) := c0
          have C1 : Hid (hasB a1.data.toList 58 = false) := c1
          have C2 : Hid (hasB a1.data.toList 47 = true) := c2
          clear c0 c1 c2
          go_enter Try.func4, Try.ntmps4
          go_wp2_with (go_at_call 14; go_in)
          refine (hasByte_is _ _ _ m0 C0).mono ?_
          rintro e w' ⟨rfl, rfl⟩
          go_wp2_with fail
          refine (hasByte_is _ _ _ m1 C1).mono ?_
          rintro e w' ⟨rfl, rfl⟩
          go_wp2_with fail
          refine (hasByte_is _ _ _ m1 C2).mono ?_
          rintro e w' ⟨rfl, rfl⟩
          go_wp2
          go_ret
          exact ⟨rfl, Grown.refl _⟩
      · have C0 : Hid (hasB a0.data.toList 64 = false) := c0
        have C1 : Hid (hasB a1.data.toList 58 = true) := c1
        clear c0 c1
        go_enter Try.func4, Try.ntmps4
        go_wp2_with (go_at_call 14; go_in)
        refine (hasByte_is _ _ _ m0 C0).mono ?_
        rintro e w' ⟨rfl, rfl⟩
        go_wp2_with fail
        refine (hasByte_is _ _ _ m1 C1).mono ?_
        rintro e w' ⟨rfl, rfl⟩
        go_wp2
        go_ret
        exact ⟨rfl, Grown.refl _⟩
    · have C0 : Hid (hasB a0.data.toList 64 = true) := c0
      clear c0
      go_enter Try.func4, Try.ntmps4
      go_wp2_with (go_at_call 14; go_in)
      refine (hasByte_is _ _ _ m0 C0).mono ?_
      rintro e w' ⟨rfl, rfl⟩
      go_wp2
      go_ret
      exact ⟨rfl, Grown.refl _⟩
  · go_enter Try.func4, Try.ntmps4
    go_wp2_with (go_at_call 14; go_in)
    all_goals (go_ret; exact ⟨rfl, Grown.refl _⟩)

end Go.Proofs.Qxb6000715a
