/-
  THE WALK OF FnRegistryOfResultShape (6).
-/
import Derived.Test.Qxb6000715aWalkF
namespace Go.Proofs.Qxb6000715a
open Go.RowKit Plain

/-! ### the plain law -/
theorem hub_ne : hub ≠ [] := by decide

/-- what the law asks of the answer -/
theorem reg_shape {l h : List UInt8} (hr : Reg l h) : h = hub ∨
    (h ≠ [] ∧ h ≠ dockerIo ∧ (47 : UInt8) ∈ l ∧ (47 : UInt8) ∉ h ∧ (64 : UInt8) ∉ h ∧ (∃ x, l = (h ++ [47]) ++ x) ∧ ((hasB h 46 || hasB h 58 || h == localHost) = true)) := by
  obtain ⟨r, v, a, b, f, hs, hc, hx⟩ := hr
  cases hf : (f && names a)
  · rw [hf] at hx; exact .inl hx
  · rw [hf] at hx
    have hx' : h = a := hx
    subst hx'
    rw [Bool.and_eq_true] at hf
    obtain ⟨hf1, hn⟩ := hf
    unfold names at hn
    rw [Bool.and_eq_true] at hn
    obtain ⟨hn1, hn2⟩ := hn
    rcases hc with ⟨h1, _⟩ | ⟨_, h1, h2⟩
    · rw [h1] at hf1; exact absurd hf1 (by decide)
    · obtain ⟨x, hpre⟩ := hs.pre
      refine .inr ⟨?_, ?_, ?_, h2, ?_, ⟨b ++ x, ?_⟩, hn2⟩
      · rintro rfl
        exact absurd hn2 (by decide)
      · rintro rfl
        exact absurd hn1 (by decide)
      · rw [hpre, h1]; simp
      · intro hm
        exact hs.noAtIn (by rw [h1]; exact List.mem_append_left _ hm)
      · rw [hpre, h1]; simp

theorem data_snoc (a : ByteArray) (c : UInt8) : (a ++ ⟨#[c]⟩).data.toList = a.data.toList ++ [c] := by
  simp [ByteArray.data_append]

set_option maxHeartbeats 2000000 in
theorem walk6 (a0 : ByteArray) (w0 : a0.size ≤ maxLen) (w : World) :
    Calls Try.prog 6 #[.string a0] w fun e w' => e = .returned (.bool true) ∧ Below w.heap.size w w' := by
  have m0 := w0
  unfold maxLen at w0
  by_cases hb : a0.size ≤ 1048576
  · go_enter Try.func6, Try.ntmps6
    go_wp2_with (go_at_call 18; go_in)
    refine (zzregistry_any _ _ (by omega)).mono ?_
    rintro e w' ⟨h, rfl, hh, hbl⟩
    have hsh := reg_shape hh.out.1
    have hhs : h.size ≤ 1048576 + 15 := by have := hh.out.2; omega
    have hhm : h.size ≤ maxLen := by unfold maxLen; omega
    clear hh
    cases heh : (h.toList == [105, 110, 100, 101, 120, 46, 100, 111, 99, 107, 101, 114, 46, 105, 111])
    · have hne : h.data.toList ≠ hub := by
        rw [← Lib.toList_data]
        exact beq_eq_false_iff_ne.1 heh
      obtain ⟨s1, s2, s3, s4, s5, s6, s7⟩ := hsh.resolve_left hne
      have hemp : h.toList.isEmpty = false := by
        rw [Lib.toList_data]
        cases hq : h.data.toList with
        | nil => exact absurd hq s1
        | cons _ _ => rfl
      have hdk : (h.toList == [100, 111, 99, 107, 101, 114, 46, 105, 111]) = false := by
        rw [Lib.toList_data]; exact beq_eq_false_iff_ne.2 s2
      have C0 : Hid (hasB a0.data.toList 47 = true) := (hasB_iff _ 47).2 s3
      have C1 : Hid (hasB h.data.toList 47 = false) := (hasB_false _ 47).2 s4
      have C2 : Hid (hasB h.data.toList 64 = false) := (hasB_false _ 64).2 s5
      have H6 : Hid (∃ x, a0.data.toList = (h ++ ⟨#[47]⟩).data.toList ++ x) := by
        show ∃ x, _
        rw [data_snoc]; exact s6
      have H7 : Hid ((hasB h.data.toList 46 || hasB h.data.toList 58 || h.data.toList == localHost) = true) := s7
      clear hsh hne s1 s2 s3 s4 s5 s6 s7
      go_wp2_with fail
      refine (hasByte_is _ _ _ m0 C0).mono ?_
      rintro e w' ⟨rfl, rfl⟩
      go_wp2_with fail
      refine (hasByte_is _ _ _ hhm C1).mono ?_
      rintro e w' ⟨rfl, rfl⟩
      go_wp2_with fail
      refine (hasByte_is _ _ _ hhm C2).mono ?_
      rintro e w' ⟨rfl, rfl⟩
      go_wp2_with fail
      refine (hasPrefix_yes _ _ _ H6).mono ?_
      rintro e w' ⟨rfl, rfl⟩
      go_wp2_with fail
      cases c46 : hasB h.data.toList 46
      · have C46 : Hid (hasB h.data.toList 46 = false) := c46
        clear c46
        refine (hasByte_is _ _ _ hhm C46).mono ?_
        rintro e w' ⟨rfl, rfl⟩
        go_wp2_with fail
        cases c58 : hasB h.data.toList 58
        · have C58 : Hid (hasB h.data.toList 58 = false) := c58
          clear c58
          have hloc : (h.toList == [108, 111, 99, 97, 108, 104, 111, 115, 116]) = true := by
            have h7 := H7.out
            rw [C46.out, C58.out] at h7
            rw [Lib.toList_data]; exact h7
          refine (hasByte_is _ _ _ hhm C58).mono ?_
          rintro e w' ⟨rfl, rfl⟩
          go_wp2
          go_ret
          exact ⟨rfl, hbl⟩
        · have C58 : Hid (hasB h.data.toList 58 = true) := c58
          clear c58
          refine (hasByte_is _ _ _ hhm C58).mono ?_
          rintro e w' ⟨rfl, rfl⟩
          go_wp2
          go_ret
          exact ⟨rfl, hbl⟩
      · have C46 : Hid (hasB h.data.toList 46 = true) := c46
        clear c46
        refine (hasByte_is _ _ _ hhm C46).mono ?_
        rintro e w' ⟨rfl, rfl⟩
        go_wp2
        go_ret
        exact ⟨rfl, hbl⟩
    · have hemp : h.toList.isEmpty = false := by
        rw [beq_iff_eq.1 heh]; rfl
      cases c0 : hasB a0.data.toList 47
      · have C0 : Hid (hasB a0.data.toList 47 = false) := c0
        clear c0 hsh
        go_wp2_with fail
        refine (hasByte_is _ _ _ m0 C0).mono ?_
        rintro e w' ⟨rfl, rfl⟩
        go_wp2
        go_ret
        exact ⟨rfl, hbl⟩
      · have C0 : Hid (hasB a0.data.toList 47 = true) := c0
        clear c0 hsh
        go_wp2_with fail
        refine (hasByte_is _ _ _ m0 C0).mono ?_
        rintro e w' ⟨rfl, rfl⟩
        go_wp2
        go_ret
        exact ⟨rfl, hbl⟩
  · go_enter Try.func6, Try.ntmps6
    go_wp2_with (go_at_call 18; go_in)
    go_ret
    exact ⟨rfl, Below.refl _ _⟩

end Go.Proofs.Qxb6000715a
