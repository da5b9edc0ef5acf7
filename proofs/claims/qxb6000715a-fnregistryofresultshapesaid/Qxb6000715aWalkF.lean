/-
  THE WALK OF FnRegistryOfNamedHost (8).
-/
import Derived.Test.Qxb6000715aWalkE
namespace Go.Proofs.Qxb6000715a
open Go.RowKit Plain

/-! ### the plain law -/
theorem head_kept {h rest r v : List UInt8} {c : UInt8} (hc : c ≠ 47) (e : h ++ 47 :: rest = r ++ c :: v) (hh : c ∉ h ∨ (47 : UInt8) ∉ v) : ∃ t, r = h ++ 47 :: t := by
  rcases List.append_eq_append_iff.1 e with ⟨xs, h1, h2⟩ | ⟨ys, h1, h2⟩
  · cases xs with
    | nil => simp at h2; exact absurd h2.1.symm hc
    | cons x t =>
      simp at h2
      exact ⟨t, by rw [h1, h2.1]⟩
  · cases ys with
    | nil => simp at h2; exact absurd h2.1 hc
    | cons x t =>
      simp at h2
      rcases hh with hh | hh
      · exact absurd (by rw [h1, h2.1]; simp) hh
      · exact absurd (by rw [h2.2]; simp) hh

theorem tag_head {h rest r t : List UInt8} (ht : TagSplit (h ++ 47 :: rest) r t) : ∃ x, r = h ++ 47 :: x := by
  rcases ht with ⟨h1, _, h3⟩ | ⟨_, h1, _⟩
  · exact head_kept (by decide) h1 (.inr h3)
  · exact ⟨rest, h1⟩

theorem split_head {h rest r v : List UInt8} (h64 : (64 : UInt8) ∉ h) (hs : Split (h ++ 47 :: rest) r v) : ∃ x, r = h ++ 47 :: x := by
  rcases hs with ⟨_, ht⟩ | ⟨p, t, hl, _, ht⟩
  · exact tag_head ht
  · obtain ⟨x, hx⟩ := head_kept (c := 64) (by decide) hl (.inl h64)
    rw [hx] at ht
    exact tag_head ht

theorem reg_named {h rest x : List UInt8} (h47 : (47 : UInt8) ∉ h) (h64 : (64 : UInt8) ∉ h) (hn : names h = true) (hr : Reg (h ++ 47 :: rest) x) : x = h := by
  obtain ⟨r, v, a, b, f, hs, hc, hx⟩ := hr
  obtain ⟨t, ht⟩ := split_head h64 hs
  rcases hc with ⟨_, h1, _⟩ | ⟨hf, h1, h2⟩
  · exact absurd (by rw [ht]; simp) h1
  · obtain ⟨e1, _⟩ := first_unique (h1.symm.trans ht) h2 h47
    rw [hx, hf, e1, hn]
    rfl

set_option maxHeartbeats 2000000 in
theorem walk8 (a0 a1 : ByteArray) (w0 : a0.size ≤ maxLen) (w1 : a1.size ≤ maxLen) (w : World) :
    Calls Try.prog 8 #[.string a0, .string a1] w fun e w' => e = .returned (.bool true) ∧ Below w.heap.size w w' := by
  have m0 := w0
  unfold maxLen at w0 w1
  by_cases hb : a0.size + a1.size ≤ 1048576
  · cases e0 : a0.toList.isEmpty
    · cases e1 : (a0.toList == [100, 111, 99, 107, 101, 114, 46, 105, 111])
      · cases c47 : hasB a0.data.toList 47
        · have C47 : Hid (hasB a0.data.toList 47 = false) := c47
          clear c47
          cases c64 : hasB a0.data.toList 64
          · have C64 : Hid (hasB a0.data.toList 64 = false) := c64
            clear c64
            go_enter Try.func8, Try.ntmps8
            go_wp2_with (go_at_call 21; go_in)
            refine (hasByte_is _ _ _ m0 C47).mono ?_
            rintro e w' ⟨rfl, rfl⟩
            go_wp2_with fail
            refine (hasByte_is _ _ _ m0 C64).mono ?_
            rintro e w' ⟨rfl, rfl⟩
            go_wp2_with fail
            cases c46 : hasB a0.data.toList 46
            · have C46 : Hid (hasB a0.data.toList 46 = false) := c46
              clear c46
              cases c58 : hasB a0.data.toList 58
              · have C58 : Hid (hasB a0.data.toList 58 = false) := c58
                clear c58
                cases el : (a0.toList == [108, 111, 99, 97, 108, 104, 111, 115, 116])
                · refine (hasByte_is _ _ _ m0 C46).mono ?_
                  rintro e w' ⟨rfl, rfl⟩
                  go_wp2_with fail
                  refine (hasByte_is _ _ _ m0 C58).mono ?_
                  rintro e w' ⟨rfl, rfl⟩
                  go_wp2
                  go_ret
                  exact ⟨rfl, Below.refl _ _⟩
                · have HN : Hid (names a0.data.toList = true) := by
                    show names _ = true
                    unfold names dockerIo localHost
                    rw [← eq_bytes, ← eq_bytes, e1, el, C46.out, C58.out]; rfl
                  refine (hasByte_is _ _ _ m0 C46).mono ?_
                  rintro e w' ⟨rfl, rfl⟩
                  go_wp2_with fail
                  refine (hasByte_is _ _ _ m0 C58).mono ?_
                  rintro e w' ⟨rfl, rfl⟩
                  go_wp2_with fail
                  refine (zzregistry_any _ _ ?_).mono ?_
                  · rw [size_join]; omega
                  rintro e w' ⟨h, rfl, hh, hbl⟩
                  have he := reg_named ((hasB_false _ 47).1 C47.out) ((hasB_false _ 64).1 C64.out) HN.out (data_join a0 a1 47 ▸ hh.out.1)
                  obtain rfl := same_of he
                  clear he hh
                  go_wp2
                  go_ret
                  exact ⟨rfl, hbl⟩
              · have C58 : Hid (hasB a0.data.toList 58 = true) := c58
                clear c58
                have HN : Hid (names a0.data.toList = true) := by
                  show names _ = true
                  unfold names dockerIo localHost
                  rw [← eq_bytes, ← eq_bytes, e1, C46.out, C58.out]; rfl
                refine (hasByte_is _ _ _ m0 C46).mono ?_
                rintro e w' ⟨rfl, rfl⟩
                go_wp2_with fail
                refine (hasByte_is _ _ _ m0 C58).mono ?_
                rintro e w' ⟨rfl, rfl⟩
                go_wp2_with fail
                refine (zzregistry_any _ _ ?_).mono ?_
                · rw [size_join]; omega
                rintro e w' ⟨h, rfl, hh, hbl⟩
                have he := reg_named ((hasB_false _ 47).1 C47.out) ((hasB_false _ 64).1 C64.out) HN.out (data_join a0 a1 47 ▸ hh.out.1)
                obtain rfl := same_of he
                clear he hh
                go_wp2
                go_ret
                exact ⟨rfl, hbl⟩
            · have C46 : Hid (hasB a0.data.toList 46 = true) := c46
              clear c46
              have HN : Hid (names a0.data.toList = true) := by
                show names _ = true
                unfold names dockerIo localHost
                rw [← eq_bytes, ← eq_bytes, e1, C46.out]; rfl
              refine (hasByte_is _ _ _ m0 C46).mono ?_
              rintro e w' ⟨rfl, rfl⟩
              go_wp2_with fail
              refine (zzregistry_any _ _ ?_).mono ?_
              · rw [size_join]; omega
              rintro e w' ⟨h, rfl, hh, hbl⟩
              have he := reg_named ((hasB_false _ 47).1 C47.out) ((hasB_false _ 64).1 C64.out) HN.out (data_join a0 a1 47 ▸ hh.out.1)
              obtain rfl := same_of he
              clear he hh
              go_wp2
              go_ret
              exact ⟨rfl, hbl⟩
          · have C64 : Hid (hasB a0.data.toList 64 = true) := c64
            clear c64
            go_enter Try.func8, Try.ntmps8
            go_wp2_with (go_at_call 21; go_in)
            refine (hasByte_is _ _ _ m0 C47).mono ?_
            rintro e w' ⟨rfl, rfl⟩
            go_wp2_with fail
            refine (hasByte_is _ _ _ m0 C64).mono ?_
            rintro e w' ⟨rfl, rfl⟩
            go_wp2
            go_ret
            exact ⟨rfl, Below.refl _ _⟩
        · have C47 : Hid (hasB a0.data.toList 47 = true) := c47
          clear c47
          go_enter Try.func8, Try.ntmps8
          go_wp2_with (go_at_call 21; go_in)
          refine (hasByte_is _ _ _ m0 C47).mono ?_
          rintro e w' ⟨rfl, rfl⟩
          go_wp2
          go_ret
          exact ⟨rfl, Below.refl _ _⟩
      · go_enter Try.func8, Try.ntmps8
        go_wp2_with (go_at_call 21; go_in)
        go_ret
        exact ⟨rfl, Below.refl _ _⟩
    · go_enter Try.func8, Try.ntmps8
      go_wp2_with (go_at_call 21; go_in)
      all_goals (go_ret; exact ⟨rfl, Below.refl _ _⟩)
  · go_enter Try.func8, Try.ntmps8
    go_wp2_with (go_at_call 21; go_in)
    all_goals (go_ret; exact ⟨rfl, Below.refl _ _⟩)

end Go.Proofs.Qxb6000715a
