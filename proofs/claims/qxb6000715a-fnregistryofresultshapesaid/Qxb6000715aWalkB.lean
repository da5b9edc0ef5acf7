/-
  THE WALK OF FnSplitReferenceTagCarriesNoSeparator (3).
-/
import Derived.Test.Qxb6000715aWalkA
import Derived.RowKit3
import Derived.Laws.Concat
namespace Go.Proofs.Qxb6000715a
open Go.RowKit Plain

theorem grown_drewN {a w : World} (h : Grown a w) (n : Nat) : Grown a (w.drewN n) := h

/-- hasByte, the answer given -/
theorem hasByte_is (s : ByteArray) (c : Int) (w : World) (hs : s.size ≤ maxLen) {x : Bool} (hx : Hid (hasB s.data.toList c = x)) :
    Calls Try.prog 12 #[.string s, .int .u8 c] w fun e w' => e = .returned (.bool x) ∧ w' = w :=
  (hasByte_any s c w hs).mono fun _ _ h => ⟨by rw [h.1, hx.out], h.2⟩

theorem ret_bool {a b : Bool} (h : a = b) : Ending.returned (.bool a) = .returned (.bool b) := by rw [h]

theorem concat_eq {r v a0 : ByteArray} (h : r.data.toList ++ 58 :: v.data.toList = a0.data.toList) : ((r ++ ⟨#[58]⟩ ++ v).toList == a0.toList) = true := by
  rw [beq_iff_eq, Lib.toList_data, Lib.toList_data, ← h]
  simp [ByteArray.data_append]

theorem slash_here {l : List UInt8} (k : Nat) : Hid ((47 : UInt8) ∉ (l.take (k + 1)).drop ((k : Int) + 1).toNat) := by
  show (47 : UInt8) ∉ _
  rw [List.drop_of_length_le (by rw [List.length_take]; omega)]
  simp

theorem slash_not {a0 : ByteArray} {k : Nat} {x : Int} (hlt : k < a0.size) (hx : x < k) (h : Hid ((47 : UInt8) ∉ (a0.data.toList.take k).drop (x + 1).toNat))
    (hne : ((a0[k].toNat : Int) == 47) = false) : Hid ((47 : UInt8) ∉ (a0.data.toList.take (k + 1)).drop (x + 1).toNat) := by
  show (47 : UInt8) ∉ _
  rw [take_snoc a0 k hlt, List.drop_append_of_le_length (by rw [List.length_take, ← Lib.size_eq]; omega)]
  intro hm
  rcases List.mem_append.1 hm with h1 | h1
  · exact h.out h1
  · have h2 : (47 : UInt8) = a0[k] := by simpa using h1
    rw [← h2] at hne
    exact absurd hne (by decide)

set_option maxHeartbeats 1000000 in
theorem walk3 (a0 : ByteArray) (w0 : a0.size ≤ maxLen) (w : World) :
    Calls Try.prog 3 #[.string a0] w fun e w' => e = .returned (.bool true) ∧ Grown w w' := by
  have w1 := w0
  unfold maxLen at w0
  by_cases hb : a0.size ≤ 1048576
  · cases hat : hasB a0.data.toList 64
    · have HAT : Hid (hasB a0.data.toList 64 = false) := hat
      clear hat
      go_enter Try.func3, Try.ntmps3
      go_wp2_with (go_at_call 11; go_in)
      refine (hasByte_is _ _ _ w1 HAT).mono ?_
      rintro e w' ⟨rfl, rfl⟩
      go_wp2_with (go_at_call 13; refine (zzsplit_any _ _ (by omega)).mono ?_; rintro e w' ⟨r, v, rfl, hc, n, rfl⟩)
      have hts : TagSplit a0.data.toList r.data.toList v.data.toList := hc.out.1.noAt ((hasB_false _ 64).1 HAT.out)
      have hv1 : Hid (hasB v.data.toList 58 = false) := (hasB_false _ 58).2 hts.ver.1
      have hv2 : Hid (hasB v.data.toList 47 = false) := (hasB_false _ 47).2 hts.ver.2
      have HT : Hid (TagSplit a0.data.toList r.data.toList v.data.toList) := hts
      have hvs : v.size ≤ maxLen := by unfold maxLen; have := hc.out.2.2; omega
      clear hts
      refine (hasByte_is v _ _ hvs hv1).mono ?_
      rintro e w' ⟨rfl, rfl⟩
      go_wp2_with fail
      refine (hasByte_is v _ _ hvs hv2).mono ?_
      rintro e w' ⟨rfl, rfl⟩
      have hrs : r.size ≤ 1048576 := by have := hc.out.2.1; omega
      have hvs2 : v.size ≤ 1048576 := by have := hc.out.2.2; omega
      clear hvs
      cases heq : (r.toList == a0.toList)
      · have hre : r.data.toList ≠ a0.data.toList := by
          rw [← Lib.toList_data, ← Lib.toList_data]
          exact beq_eq_false_iff_ne.1 heq
        have HE : Hid (r.data.toList ++ 58 :: v.data.toList = a0.data.toList) := HT.out.cut hre
        clear hre
        go_wp2
        go_ret
        exact ⟨ret_bool (concat_eq HE.out), grown_drewN (Grown.refl _) n⟩
      · have hre : r.data.toList = a0.data.toList := by
          rw [← Lib.toList_data, ← Lib.toList_data]
          exact beq_iff_eq.1 heq
        obtain ⟨hv0, hno⟩ := HT.out.whole hre
        have hve : v.toList.isEmpty = true := by rw [Lib.toList_data, hv0]; rfl
        have HN : Hid (NoTag a0.data.toList) := hno
        clear hre hv0 hno
        go_wp2
        go_loop [5, 6] (fun l i => ∃ (x : Int) (k : Nat), k ≤ a0.size ∧ -1 ≤ x ∧ x < k ∧ i = .int .i64 k ∧ l = .int .i64 x ∧ Hid ((47 : UInt8) ∉ (a0.data.toList.take k).drop (x + 1).toNat)) (fun _ i => a0.size - (intOf i).toNat)
        case atStart => exact ⟨-1, 0, Nat.zero_le _, by omega, by omega, rfl, rfl, by simp [Hid]⟩
        case round =>
          obtain ⟨x, k, hk, hx1, hx2, rfl, rfl, hh⟩ := hrel
          by_cases hlt : k < a0.size
          · go_wp2
            · go_round
              case rel => exact ⟨(k : Int), k + 1, by omega, by omega, by omega, by go_num, rfl, slash_here k⟩
              case measure => simp [intOf]; omega
            · have hne : ((a0[k].toNat : Int) == 47) = false := by assumption
              go_round
              case rel => exact ⟨x, k + 1, by omega, by omega, by omega, by go_num, rfl, slash_not hlt hx2 hh hne⟩
              case measure => simp [intOf]; omega
          · go_wp2_with fail
            have hk2 : k = a0.size := by omega
            have hf : Hid (hasB (a0.extract (x + 1).toNat a0.size).data.toList 58 = false) := by
              refine (hasB_false _ 58).2 ?_
              rw [data_extract1]
              refine HN.out.tail (List.take_append_drop (x + 1).toNat a0.data.toList).symm ?_
              have h1 := hh.out
              rwa [List.take_of_length_le (by rw [← Lib.size_eq]; omega)] at h1
            have hsz : (a0.extract (x + 1).toNat a0.size).size ≤ maxLen := by unfold maxLen; rw [ByteArray.size_extract]; omega
            refine (hasByte_is (a0.extract (x + 1).toNat a0.size) _ _ hsz hf).mono ?_
            rintro e w' ⟨rfl, rfl⟩
            go_wp2
            go_ret
            exact ⟨rfl, grown_drewN (Grown.refl _) n⟩
    · have HAT : Hid (hasB a0.data.toList 64 = true) := hat
      clear hat
      go_enter Try.func3, Try.ntmps3
      go_wp2_with (go_at_call 11; go_in)
      refine (hasByte_is _ _ _ w1 HAT).mono ?_
      rintro e w' ⟨rfl, rfl⟩
      go_wp2
      go_ret
      exact ⟨rfl, Grown.refl _⟩
  · go_enter Try.func3, Try.ntmps3
    go_wp2_with (go_at_call 11; go_in)
    go_ret
    exact ⟨rfl, Grown.refl _⟩

end Go.Proofs.Qxb6000715a
