/-
  CONTRACTS: splitGlob (27), ZZsplitGlob (13).
-/
import Derived.Test.Qxb6600191aPlain
import Derived.Test.Qxb6600191aWalkI
import Derived.WalkSmall
namespace Go.Proofs.Qxb6600191a
open Go.RowKit Plain

theorem data_extract0 (s : ByteArray) (i : Nat) : (s.extract 0 i).data.toList = s.data.toList.take i := by
  rw [Lib.extract_data]; simp
theorem data_extract1 (s : ByteArray) (i : Nat) : (s.extract i s.size).data.toList = s.data.toList.drop i := Lib.extract_to_end s i

/-- strings.IndexAny over the signs -/
theorem any_is (s : ByteArray) (w : World) (hs : s.size < 4294967281) {x : Int} (hx : Hid (Lib.indexAny s.data.toList signs = x)) :
    Calls Try.prog 31 #[.string s, .string ⟨#[42, 63, 91, 93, 123, 125, 40, 41, 33, 43, 64, 92]⟩] w fun e w' => e = .returned (.int .i64 x) ∧ Below w.heap.size w w' :=
  (indexAny_any s ⟨#[42, 63, 91, 93, 123, 125, 40, 41, 33, 43, 64, 92]⟩ w (by decide) hs (by decide) (by decide)).mono fun _ _ h => ⟨by rw [h.1]; exact congrArg (fun n => Ending.returned (.int .i64 n)) hx.out, h.2⟩

theorem last_is (s : ByteArray) (w : World) (hs : s.size < 4611686018427387904) {x : Int} (hx : Hid (Lib.lastIndexByte s 47 = x)) :
    Calls Try.prog 32 #[.string s, .int .u8 47] w fun e w' => e = .returned (.int .i64 x) ∧ w' = w :=
  (Try.strings_LastIndexByte s 47 hs w).mono fun _ _ h => ⟨by rw [h.1, hx.out], h.2⟩

set_option maxHeartbeats 1000000 in
/-- splitGlob -/
theorem split_any (s : ByteArray) (w : World) (hs : s.size ≤ 1073741824) :
    Calls Try.prog 27 #[.string s] w fun e w' => ∃ f u : ByteArray, e = .returned (.tuple #[.string f, .string u]) ∧
      Hid (Split s.data.toList f.data.toList u.data.toList ∧ f.size ≤ s.size ∧ u.size ≤ s.size) ∧ Below w.heap.size w w' := by
  rcases first_cases s.data.toList with ⟨h1, h2⟩ | ⟨x, g, y, hl, h1, hx, hg⟩
  · have HI : Hid (Lib.indexAny s.data.toList signs = -1) := h1
    clear h1
    go_enter Try.func27, Try.ntmps27
    go_wp2_with (go_at_call 31; refine (any_is _ _ (by omega) HI).mono ?_; rintro e w' ⟨rfl, hb⟩)
    go_ret2
    exact ⟨s, ⟨#[]⟩, rfl, ⟨.inl ⟨h2, rfl, rfl⟩, Nat.le_refl _, Nat.zero_le _⟩, hb⟩
  · have HI : Hid (Lib.indexAny s.data.toList signs = (x.length : Int)) := h1
    have hsz : x.length < s.size := by rw [Lib.size_eq, hl]; simp
    have hpx : (s.extract 0 x.length).data.toList = x := by rw [data_extract0, hl]; simp
    have HL : Hid (s.data.toList = x ++ g :: y) := hl
    have HP : Hid ((s.extract 0 x.length).data.toList = x) := hpx
    have hxs : (s.extract 0 x.length).size < 4611686018427387904 := by rw [ByteArray.size_extract]; omega
    clear h1 hl hpx
    obtain ⟨n, hn⟩ : ∃ n, x.length = n := ⟨_, rfl⟩
    rcases lastIndexByte_cases (s.extract 0 x.length) 47 with ⟨e1, e2⟩ | ⟨j, e1, e2, e3, e4⟩
    · have H1 : Hid (Lib.lastIndexByte (s.extract 0 x.length) 47 = -1) := e1
      have H2 : Hid ((47 : UInt8) ∉ x) := by show (47 : UInt8) ∉ x; rw [← HP.out]; exact e2
      clear e1 e2
      rw [hn] at HI hsz hxs H1
      have HN : Hid (x.length = n) := hn
      clear hn HP
      go_enter Try.func27, Try.ntmps27
      go_wp2_with (go_at_call 31; refine (any_is _ _ (by omega) HI).mono ?_; rintro e w' ⟨rfl, hb⟩)
      refine (last_is _ _ hxs H1).mono ?_
      rintro e w' ⟨rfl, rfl⟩
      go_wp2
      go_ret2
      exact ⟨⟨#[]⟩, s, rfl, ⟨.inr ⟨⟨x, g, y, HL.out, hx, H2.out, hg⟩, .inl ⟨rfl, rfl⟩⟩, Nat.zero_le _, Nat.le_refl _⟩, hb⟩
    · have H1 : Hid (Lib.lastIndexByte (s.extract 0 x.length) 47 = (j : Int)) := e1
      have hjx : j < x.length := by rw [ByteArray.size_extract] at e2; omega
      rw [HP.out] at e3 e4
      have hq : s.data.toList = x.take j ++ 47 :: (x.drop (j + 1) ++ g :: y) := by
        rw [HL.out]
        conv => lhs; rw [e3]
        simp
      have hlen : (x.take j).length = j := by rw [List.length_take]; omega
      have ht : s.data.toList.take j = x.take j := by
        rw [hq, List.take_append_of_le_length (by omega)]; exact List.take_of_length_le (by omega)
      have hdr : s.data.toList.drop (j + 1) = x.drop (j + 1) ++ g :: y := by
        rw [hq, List.drop_append]
        rw [hlen, List.drop_of_length_le (by omega), show j + 1 - j = 1 by omega]; simp
      have hnq : NoSign (x.take j) := noSign_left (b := x.drop j) (by rw [List.take_append_drop]; exact hx)
      have hnd : NoSign (x.drop (j + 1)) := noSign_right (a := x.take (j + 1)) (by rw [List.take_append_drop]; exact hx)
      have HW : Hid (Wild (s.extract (j + 1) s.size).data.toList) := by
        show Wild _
        rw [data_extract1, hdr]
        exact ⟨_, g, y, rfl, hnd, e4, hg⟩
      have HQ : Hid (s.data.toList = (s.extract 0 j).data.toList ++ 47 :: (s.extract (j + 1) s.size).data.toList) := by
        show _ = _
        rw [data_extract0, data_extract1, hdr, ht, ← hq]
      have HNQ : Hid (NoSign (s.extract 0 j).data.toList) := by
        show NoSign _
        rw [data_extract0, ht]; exact hnq
      clear e1 e2 e3 e4 hq ht hdr hnq hnd hlen
      rw [hn] at HI hsz hxs H1 hjx
      clear hn HP HL
      have c1 : (0 : Int) ≤ ↑j := by omega
      have c2 : (↑j : Int) ≤ ↑s.size := by omega
      have c3 : (0 : Int) ≤ ↑j + 1 := by omega
      have c4 : (↑j + 1 : Int) ≤ ↑s.size := by omega
      have c5 : (1 : Int) ≤ ↑s.size := by omega
      by_cases hj0 : j = 0
      · subst hj0
        have H1' : Hid (Lib.lastIndexByte (s.extract 0 n) 47 = 0) := H1.out
        go_enter Try.func27, Try.ntmps27
        go_wp2_with (go_at_call 31; refine (any_is _ _ (by omega) HI).mono ?_; rintro e w' ⟨rfl, hb⟩)
        refine (last_is _ _ hxs H1').mono ?_
        rintro e w' ⟨rfl, rfl⟩
        go_wp2
        go_region
        go_wp2
        go_ret2
        refine ⟨⟨#[47]⟩, s.extract 1 s.size, rfl, ⟨.inr ⟨HW.out, .inr ⟨_, HQ.out, HNQ.out, .inl ⟨?_, rfl⟩⟩⟩, by show 1 ≤ _; omega, ?_⟩, Below.drew hb⟩
        · rw [data_extract0]; rfl
        · rw [ByteArray.size_extract]; omega
      · have hj1 : ((j : Int) == 0) = false := beq_eq_false_iff_ne.2 (by omega)
        go_enter Try.func27, Try.ntmps27
        go_wp2_with (go_at_call 31; refine (any_is _ _ (by omega) HI).mono ?_; rintro e w' ⟨rfl, hb⟩)
        refine (last_is _ _ hxs H1).mono ?_
        rintro e w' ⟨rfl, rfl⟩
        go_wp2
        go_region
        go_wp2
        go_ret2
        refine ⟨s.extract 0 j, s.extract (j + 1) s.size, rfl, ⟨.inr ⟨HW.out, .inr ⟨_, HQ.out, HNQ.out, .inr ⟨?_, rfl⟩⟩⟩, ?_, ?_⟩, Below.drew hb⟩
        · intro h0
          have := congrArg List.length h0
          rw [← Lib.size_eq, ByteArray.size_extract, List.length_nil] at this
          omega
        · rw [ByteArray.size_extract]; omega
        · rw [ByteArray.size_extract]; omega

set_option maxHeartbeats 1000000 in
/-- ZZsplitGlob -/
theorem zzsplit_any (s : ByteArray) (w : World) (hs : s.size ≤ 1073741824) :
    Calls Try.prog 13 #[.string s] w fun e w' => ∃ f u : ByteArray, e = .returned (.tuple #[.string f, .string u]) ∧
      Hid (Split s.data.toList f.data.toList u.data.toList ∧ f.size ≤ s.size ∧ u.size ≤ s.size) ∧ Below w.heap.size w w' := by
  go_enter Try.func13, Try.ntmps13
  go_wp2_with (go_at_call 27; refine (split_any _ _ hs).mono ?_; rintro e w' ⟨f, u, rfl, hc, hb⟩)
  go_ret2
  exact ⟨f, u, rfl, hc, hb⟩

end Go.Proofs.Qxb6600191a
