/-
  CONTRACTS: hasPrefix (16), hasSuffix (17) where they say yes; THE WALK OF FnSplitReferenceHalvesArePieces (5).
-/
import Derived.Test.Qxb6000715aWalkC
namespace Go.Proofs.Qxb6000715a
open Go.RowKit Plain

/-! ### the plain law -/
namespace Plain
theorem TagSplit.pre {p r t : List UInt8} (h : TagSplit p r t) : ∃ x, p = r ++ x := by
  rcases h with h | ⟨_, rfl, _⟩
  · exact ⟨_, h.1⟩
  · exact ⟨[], by simp⟩
theorem TagSplit.suf {p r t : List UInt8} (h : TagSplit p r t) : ∃ x, p = x ++ t := by
  rcases h with h | ⟨_, rfl, rfl⟩
  · exact ⟨r ++ [58], by rw [h.1]; simp⟩
  · exact ⟨r, by simp⟩
theorem Split.pre {l r v : List UInt8} (h : Split l r v) : ∃ x, l = r ++ x := by
  rcases h with ⟨_, h⟩ | ⟨p, t, hl, _, h⟩
  · exact h.pre
  · obtain ⟨x, hx⟩ := h.pre
    exact ⟨x ++ 64 :: v, by rw [hl, hx, List.append_assoc]⟩
theorem Split.suf {l r v : List UInt8} (h : Split l r v) : ∃ x, l = x ++ v := by
  rcases h with ⟨_, h⟩ | ⟨p, t, hl, _, h⟩
  · exact h.suf
  · exact ⟨p ++ [64], by rw [hl]; simp⟩
theorem Split.noAtIn {l r v : List UInt8} (h : Split l r v) : (64 : UInt8) ∉ r := by
  rcases h with ⟨hn, h⟩ | ⟨p, t, hl, hn, h⟩
  · obtain ⟨x, hx⟩ := h.pre
    exact fun hm => hn (by rw [hx]; exact List.mem_append_left _ hm)
  · obtain ⟨x, hx⟩ := h.pre
    exact fun hm => hn (by rw [hx]; exact List.mem_append_left _ hm)
theorem Split.whole {l r v : List UInt8} (h : Split l r v) (e : r = l) : v = [] := by
  rcases h with ⟨_, h⟩ | ⟨p, t, hl, hn, h⟩
  · exact (h.whole e).1
  · obtain ⟨x, hx⟩ := h.pre
    have h1 := congrArg List.length hl
    have h2 := congrArg List.length hx
    rw [e] at h2
    simp at h1 h2
    omega
theorem Split.room {l r v : List UInt8} (h : Split l r v) (e : r ≠ l) : r.length + v.length + 1 ≤ l.length := by
  rcases h with ⟨_, h⟩ | ⟨p, t, hl, hn, h⟩
  · have h1 := congrArg List.length (h.cut e)
    simp at h1
    omega
  · obtain ⟨x, hx⟩ := h.pre
    have h1 := congrArg List.length hl
    have h2 := congrArg List.length hx
    simp at h1 h2
    omega
theorem Split.plain {l r v : List UInt8} (h : Split l r v) (h1 : (58 : UInt8) ∉ l) (h2 : (64 : UInt8) ∉ l) : r = l ∧ v = [] := by
  rcases h.noAt h2 with h | ⟨_, h3, h4⟩
  · exact absurd (by rw [h.1]; simp) h1
  · exact ⟨h3, h4⟩

end Plain

theorem take_pre {s p : ByteArray} {x : List UInt8} (h : s.data.toList = p.data.toList ++ x) : ((s.extract 0 p.size).toList == p.toList) = true := by
  rw [beq_iff_eq, Lib.toList_data, Lib.toList_data, data_extract0, h, Lib.size_eq]
  simp
theorem drop_suf {s p : ByteArray} {x : List UInt8} (h : s.data.toList = x ++ p.data.toList) : ((s.extract (s.size - p.size) s.size).toList == p.toList) = true := by
  rw [beq_iff_eq, Lib.toList_data, Lib.toList_data, data_extract1, Lib.size_eq, Lib.size_eq, h]
  simp
theorem size_pre {s p : ByteArray} {x : List UInt8} (h : s.data.toList = p.data.toList ++ x) : p.size ≤ s.size := by
  rw [Lib.size_eq, Lib.size_eq, h]; simp
theorem size_suf {s p : ByteArray} {x : List UInt8} (h : s.data.toList = x ++ p.data.toList) : p.size ≤ s.size := by
  rw [Lib.size_eq, Lib.size_eq, h]; simp

set_option maxHeartbeats 400000 in
theorem hasPrefix_yes (s p : ByteArray) (w : World) (h : Hid (∃ x, s.data.toList = p.data.toList ++ x)) :
    Calls Try.prog 16 #[.string s, .string p] w fun e w' => e = .returned (.bool true) ∧ w' = w := by
  have h1 : p.size ≤ s.size := by obtain ⟨x, hx⟩ := h.out; exact size_pre hx
  have h2 : ((s.extract 0 p.size).toList == p.toList) = true := by obtain ⟨x, hx⟩ := h.out; exact take_pre hx
  have h3 : (p.size : Int) ≤ s.size := by omega
  go_enter Try.func16, Try.ntmps16
  go_wp2
  go_ret
  exact ⟨rfl, rfl⟩

set_option maxHeartbeats 400000 in
theorem hasSuffix_yes (s p : ByteArray) (w : World) (hs : s.size ≤ maxLen) (h : Hid (∃ x, s.data.toList = x ++ p.data.toList)) :
    Calls Try.prog 17 #[.string s, .string p] w fun e w' => e = .returned (.bool true) ∧ w' = w := by
  unfold maxLen at hs
  have h1 : p.size ≤ s.size := by obtain ⟨x, hx⟩ := h.out; exact size_suf hx
  have h2 : ((s.extract (s.size - p.size) s.size).toList == p.toList) = true := by obtain ⟨x, hx⟩ := h.out; exact drop_suf hx
  have h3 : (p.size : Int) ≤ s.size := by omega
  go_enter Try.func17, Try.ntmps17
  go_wp2
  go_ret
  exact ⟨rfl, rfl⟩

set_option maxHeartbeats 1000000 in
theorem walk5 (a0 : ByteArray) (w0 : a0.size ≤ maxLen) (w : World) :
    Calls Try.prog 5 #[.string a0] w fun e w' => e = .returned (.bool true) ∧ Grown w w' := by
  have w1 := w0
  unfold maxLen at w0
  by_cases hb : a0.size ≤ 1048576
  · go_enter Try.func5, Try.ntmps5
    go_wp2_with (first
      | (go_at_call 13; refine (zzsplit_any _ _ (by omega)).mono ?_; rintro e w' ⟨r, v, rfl, hc, n, rfl⟩)
      | (go_at_call 15; go_in))
    have H1 : Hid (∃ x, a0.data.toList = r.data.toList ++ x) := hc.out.1.pre
    refine (hasPrefix_yes _ _ _ H1).mono ?_
    rintro e w' ⟨rfl, rfl⟩
    have H2 : Hid (hasB r.data.toList 64 = false) := (hasB_false _ 64).2 hc.out.1.noAtIn
    have hrs : r.size ≤ maxLen := by unfold maxLen; have := hc.out.2.1; omega
    have hvs : v.size ≤ 1048576 := by have := hc.out.2.2; omega
    have hrs2 : r.size ≤ 1048576 := by have := hc.out.2.1; omega
    go_wp2_with fail
    refine (hasByte_is _ _ _ hrs H2).mono ?_
    rintro e w' ⟨rfl, rfl⟩
    have H3 : Hid (∃ x, a0.data.toList = x ++ v.data.toList) := hc.out.1.suf
    go_wp2_with fail
    refine (hasSuffix_yes _ _ _ w1 H3).mono ?_
    rintro e w' ⟨rfl, rfl⟩
    clear hrs
    cases heq : (r.toList == a0.toList)
    · have hre : r.data.toList ≠ a0.data.toList := by
        rw [← Lib.toList_data, ← Lib.toList_data]
        exact beq_eq_false_iff_ne.1 heq
      have hroom : r.size + v.size + 1 ≤ a0.size := by
        have := hc.out.1.room hre
        rw [Lib.size_eq, Lib.size_eq, Lib.size_eq]; exact this
      have HNE : Hid (r.data.toList ≠ a0.data.toList) := hre
      clear hre
      cases c1 : hasB a0.data.toList 58
      · have C1 : Hid (hasB a0.data.toList 58 = false) := c1
        clear c1
        cases c2 : hasB a0.data.toList 64
        · exact absurd (hc.out.1.plain ((hasB_false _ 58).1 C1.out) ((hasB_false _ 64).1 c2)).1 HNE.out
        · have C2 : Hid (hasB a0.data.toList 64 = true) := c2
          clear c2
          go_wp2_with fail
          refine (hasByte_is _ _ _ w1 C1).mono ?_
          rintro e w' ⟨rfl, rfl⟩
          go_wp2_with fail
          refine (hasByte_is _ _ _ w1 C2).mono ?_
          rintro e w' ⟨rfl, rfl⟩
          go_wp2
          go_ret
          exact ⟨rfl, grown_drewN (Grown.refl _) n⟩
      · have C1 : Hid (hasB a0.data.toList 58 = true) := c1
        clear c1
        go_wp2_with fail
        refine (hasByte_is _ _ _ w1 C1).mono ?_
        rintro e w' ⟨rfl, rfl⟩
        go_wp2
        go_ret
        exact ⟨rfl, grown_drewN (Grown.refl _) n⟩
    · have hre : r.data.toList = a0.data.toList := by
        rw [← Lib.toList_data, ← Lib.toList_data]
        exact beq_iff_eq.1 heq
      have hve : v.toList.isEmpty = true := by rw [Lib.toList_data, hc.out.1.whole hre]; rfl
      clear hre
      cases c1 : hasB a0.data.toList 58
      · have C1 : Hid (hasB a0.data.toList 58 = false) := c1
        clear c1
        cases c2 : hasB a0.data.toList 64
        · have C2 : Hid (hasB a0.data.toList 64 = false) := c2
          clear c2
          go_wp2_with fail
          refine (hasByte_is _ _ _ w1 C1).mono ?_
          rintro e w' ⟨rfl, rfl⟩
          go_wp2_with fail
          refine (hasByte_is _ _ _ w1 C2).mono ?_
          rintro e w' ⟨rfl, rfl⟩
          go_wp2
          go_ret
          exact ⟨rfl, grown_drewN (Grown.refl _) n⟩
        · have C2 : Hid (hasB a0.data.toList 64 = true) := c2
          clear c2
          go_wp2_with fail
          refine (hasByte_is _ _ _ w1 C1).mono ?_
          rintro e w' ⟨rfl, rfl⟩
          go_wp2_with fail
          refine (hasByte_is _ _ _ w1 C2).mono ?_
          rintro e w' ⟨rfl, rfl⟩
          go_wp2
          go_ret
          exact ⟨rfl, grown_drewN (Grown.refl _) n⟩
      · have C1 : Hid (hasB a0.data.toList 58 = true) := c1
        clear c1
        go_wp2_with fail
        refine (hasByte_is _ _ _ w1 C1).mono ?_
        rintro e w' ⟨rfl, rfl⟩
        go_wp2
        go_ret
        exact ⟨rfl, grown_drewN (Grown.refl _) n⟩
  · go_enter Try.func5, Try.ntmps5
    go_wp2_with (go_at_call 15; go_in)
    go_ret
    exact ⟨rfl, Grown.refl _⟩

end Go.Proofs.Qxb6000715a
