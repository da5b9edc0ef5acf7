/-
  CONTRACTS: plainNames (29), ZZplainNames (16) over bytes that are no signs; THE WALK OF FnSplitGlobParts (4).
-/
import Derived.Test.Qxb6600191aWalkS
namespace Go.Proofs.Qxb6600191a
open Go.RowKit Plain

theorem sign_ne {s : ByteArray} {k : Nat} (hk : k < s.size) (hn : NoSign s.data.toList) (c : UInt8) (hc : signs.contains c = true) : (((s[k]'hk).toNat : Int) == (c.toNat : Int)) = false := by
  refine beq_eq_false_iff_ne.2 fun e => ?_
  have h1 : s[k]'hk = c := UInt8.toNat_inj.1 (by omega)
  have h2 := hn _ (Array.getElem_mem_toList (xs := s.data) hk)
  have h3 : signs.contains (s[k]'hk) = false := h2
  rw [h1, hc] at h3
  exact absurd h3 (by decide)

set_option maxHeartbeats 1000000 in
theorem plain_any (s : ByteArray) (w : World) (hs : s.size ≤ 1073741824) (hn : NoSign s.data.toList) :
    Calls Try.prog 29 #[.string s] w fun e w' => e = .returned (.tuple #[.int .i64 s.size, .bool true]) ∧ w' = w := by
  have HN : Hid (NoSign s.data.toList) := hn
  clear hn
  go_enter Try.func29, Try.ntmps29
  go_wp2
  go_loop [4, 5] (fun nm i => ∃ (k : Nat) (m : Int), k ≤ s.size ∧ i = .int .i64 k ∧ nm = .int .i64 m) (fun _ i => s.size - (intOf i).toNat)
  case atStart => exact ⟨0, 0, Nat.zero_le _, rfl, rfl⟩
  case round =>
    obtain ⟨k, m, hk, rfl, rfl⟩ := hrel
    by_cases hlt : k < s.size
    · have n1 : (((s[k]'hlt).toNat : Int) == 42) = false := sign_ne hlt HN.out 42 (by decide)
      have n2 : (((s[k]'hlt).toNat : Int) == 63) = false := sign_ne hlt HN.out 63 (by decide)
      have n3 : (((s[k]'hlt).toNat : Int) == 123) = false := sign_ne hlt HN.out 123 (by decide)
      have n4 : (((s[k]'hlt).toNat : Int) == 92) = false := sign_ne hlt HN.out 92 (by decide)
      go_wp2
      all_goals
        go_round
        case rel => exact ⟨k + 1, _, by omega, by go_num, rfl⟩
        case measure => simp [intOf]; omega
    · go_wp2
      go_ret2
      exact ⟨rfl, rfl⟩

set_option maxHeartbeats 1000000 in
theorem zzplain_any (s : ByteArray) (w : World) (hs : s.size ≤ 1073741824) (hn : NoSign s.data.toList) :
    Calls Try.prog 16 #[.string s] w fun e w' => e = .returned (.tuple #[.int .i64 s.size, .bool true]) ∧ w' = w := by
  go_enter Try.func16, Try.ntmps16
  go_wp2_with (go_at_call 29; refine (plain_any _ _ hs hn).mono ?_; rintro e w' ⟨rfl, rfl⟩)
  go_ret2
  exact ⟨rfl, rfl⟩

theorem same_of {a b : ByteArray} (h : a.data.toList = b.data.toList) : a = b := by
  rw [← Lib.mk_data a, ← Lib.mk_data b, h]
theorem none_of {a : ByteArray} (h : a.data.toList = []) : a = ⟨#[]⟩ := same_of h

set_option maxHeartbeats 1000000 in
theorem walk4 (a0 : ByteArray) (w0 : a0.size ≤ maxLen) (w : World) :
    Calls Try.prog 4 #[.string a0] w fun e w' => e = .returned (.bool true) ∧ Below w.heap.size w w' := by
  unfold maxLen at w0
  by_cases hb : a0.size ≤ 65536
  · go_enter Try.func4, Try.ntmps4
    go_wp2_with (go_at_call 15; go_in)
    refine (zzsplit_any _ _ (by omega)).mono ?_
    rintro e w1 ⟨f, u, rfl, hc, hb1⟩
    have hfs : f.size ≤ 65536 := by have := hc.out.2.1; omega
    have hus : u.size ≤ 65536 := by have := hc.out.2.2; omega
    go_wp2_with fail
    refine (zzsplit_any _ _ (by omega)).mono ?_
    rintro e w2 ⟨f2, u2, rfl, hc2, hb2⟩
    have h2 := hc2.out.1.none hc.out.1.fixed
    obtain rfl := same_of h2.1
    obtain rfl := none_of h2.2
    clear h2 hc2
    have hb12 : Below w.heap.size w w2 := hb1.trans (hb2.mono hb1.size)
    have HB : Hid (Below w.heap.size w w2) := hb12
    cases hue : u.toList.isEmpty
    · have hun : u.data.toList ≠ [] := by
        intro h0
        rw [Lib.toList_data, h0] at hue
        exact absurd hue (by decide)
      have hw := hc.out.1.wild hun
      have HW : Hid (Wild u.data.toList) := hw
      clear hun hw hb12 hb1 hb2
      go_wp2_with fail
      refine (zzsplit_any _ _ (by omega)).mono ?_
      rintro e w3 ⟨f3, u3, rfl, hc3, hb3⟩
      have h3 := hc3.out.1.again HW.out
      obtain rfl := none_of h3.1
      obtain rfl := same_of h3.2
      clear h3 hc3
      go_wp2_with fail
      refine (zzplain_any _ _ (by omega) hc.out.1.fixed).mono ?_
      rintro e w' ⟨rfl, rfl⟩
      go_wp2
      go_ret
      exact ⟨rfl, HB.out.trans (hb3.mono HB.out.size)⟩
    · clear hb12 hb1 hb2
      go_wp2_with fail
      refine (zzplain_any _ _ (by omega) hc.out.1.fixed).mono ?_
      rintro e w' ⟨rfl, rfl⟩
      go_wp2
      go_ret
      exact ⟨rfl, HB.out⟩
  · by_cases hb2 : a0.size ≤ 1048576
    · go_enter Try.func4, Try.ntmps4
      go_wp2_with (go_at_call 15; go_in)
      go_ret
      exact ⟨rfl, Below.refl _ _⟩
    · go_enter Try.func4, Try.ntmps4
      go_wp2_with (go_at_call 15; go_in)
      go_ret
      exact ⟨rfl, Below.refl _ _⟩

end Go.Proofs.Qxb6600191a
