/-
  CONTRACTS: zzpb1GlobByte (28), zzpb1FirstGlob (14); THE WALK OF FnSplitGlobSpec (3).
-/
import Derived.Test.Qxb6600191aWalkN
namespace Go.Proofs.Qxb6600191a
open Go.RowKit Plain

/-- is the number one of the twelve? -/
def signN (n : Int) : Bool := n == 42 || n == 63 || n == 91 || n == 93 || n == 123 || n == 125 || n == 40 || n == 41 || n == 33 || n == 43 || n == 64 || n == 92

theorem signN_eq (x : UInt8) : signN (x.toNat : Int) = signs.contains x := by
  have e : ∀ c : UInt8, ((x.toNat : Int) == (c.toNat : Int)) = (x == c) := fun c => by
    rw [Bool.eq_iff_iff, beq_iff_eq, beq_iff_eq]
    exact ⟨fun h => UInt8.toNat_inj.1 (by omega), fun h => by rw [h]⟩
  have e1 : ((x.toNat : Int) == 42) = (x == 42) := e 42
  have e2 : ((x.toNat : Int) == 63) = (x == 63) := e 63
  have e3 : ((x.toNat : Int) == 91) = (x == 91) := e 91
  have e4 : ((x.toNat : Int) == 93) = (x == 93) := e 93
  have e5 : ((x.toNat : Int) == 123) = (x == 123) := e 123
  have e6 : ((x.toNat : Int) == 125) = (x == 125) := e 125
  have e7 : ((x.toNat : Int) == 40) = (x == 40) := e 40
  have e8 : ((x.toNat : Int) == 41) = (x == 41) := e 41
  have e9 : ((x.toNat : Int) == 33) = (x == 33) := e 33
  have e10 : ((x.toNat : Int) == 43) = (x == 43) := e 43
  have e11 : ((x.toNat : Int) == 64) = (x == 64) := e 64
  have e12 : ((x.toNat : Int) == 92) = (x == 92) := e 92
  unfold signN signs
  rw [e1, e2, e3, e4, e5, e6, e7, e8, e9, e10, e11, e12]
  simp only [List.contains_cons, List.contains_nil, Bool.or_false, Bool.or_assoc]

theorem ret_bool {a b : Bool} (h : a = b) : Ending.returned (.bool a) = .returned (.bool b) := by rw [h]
theorem ret_int {k : IntKind} {a b : Int} (h : a = b) : Ending.returned (.int k a) = .returned (.int k b) := by rw [h]

set_option maxHeartbeats 1000000 in
theorem globByte_any (n : Int) (w : World) :
    Calls Try.prog 28 #[.int .u8 n] w fun e w' => e = .returned (.bool (signN n)) ∧ w' = w := by
  go_enter Try.func28, Try.ntmps28
  go_wp2
  all_goals
    go_ret
    refine ⟨ret_bool ?_, rfl⟩
    simp [signN, *]

set_option maxHeartbeats 1000000 in
theorem firstGlob_any (s : ByteArray) (w : World) (hs : s.size ≤ 1073741824) :
    Calls Try.prog 14 #[.string s] w fun e w' => e = .returned (.int .i64 (Lib.indexAny s.data.toList signs)) ∧ w' = w := by
  go_enter Try.func14, Try.ntmps14
  go_wp2
  go_loop [3] (fun i => ∃ k : Nat, k ≤ s.size ∧ i = .int .i64 k ∧ Hid (Lib.NoAny s.data.toList signs k)) (fun i => s.size - (intOf i).toNat)
  case atStart => exact ⟨0, Nat.zero_le _, rfl, Lib.NoAny.zero _ _⟩
  case round =>
    obtain ⟨k, hk, rfl, hh⟩ := hrel
    by_cases hlt : k < s.size
    · obtain ⟨x, hx⟩ : ∃ x : UInt8, s[k]'hlt = x := ⟨_, rfl⟩
      have hxl : s.data.toList[k]? = some x := by rw [← hx]; exact Lib.data_getElem? s k hlt
      have HX : Hid (s.data.toList[k]? = some x) := hxl
      clear hxl
      cases hc : signs.contains x
      · have hsn : signN (x.toNat : Int) = false := by rw [signN_eq]; exact hc
        go_wp2_with (go_at_call 28; refine (globByte_any _ _).mono ?_; rintro e w' ⟨rfl, rfl⟩)
        go_round
        case rel => exact ⟨k + 1, by omega, by go_num, hh.out.succ HX.out hc⟩
        case measure => simp [intOf]; omega
      · have hsn : signN (x.toNat : Int) = true := by rw [signN_eq]; exact hc
        go_wp2_with (go_at_call 28; refine (globByte_any _ _).mono ?_; rintro e w' ⟨rfl, rfl⟩)
        go_ret
        exact ⟨by rw [Lib.indexAny_hit hh.out HX.out hc]; rfl, rfl⟩
    · have he : Lib.indexAny s.data.toList signs = -1 := Lib.indexAny_none (by rw [← Lib.size_eq, show s.size = k by omega]; exact hh.out)
      have HE : Hid (Lib.indexAny s.data.toList signs = -1) := he
      clear he
      go_wp2
      go_ret
      exact ⟨by rw [HE.out]; rfl, rfl⟩

theorem firstGlob_is (s : ByteArray) (w : World) (hs : s.size ≤ 1073741824) {n : Int} (hn : Hid (Lib.indexAny s.data.toList signs = n)) :
    Calls Try.prog 14 #[.string s] w fun e w' => e = .returned (.int .i64 n) ∧ w' = w :=
  (firstGlob_any s w hs).mono fun _ _ h => ⟨by rw [h.1, hn.out], h.2⟩

/-! ### plain facts -/
theorem any_none {l : List UInt8} (h : NoSign l) : Lib.indexAny l signs = -1 := by
  rcases first_cases l with ⟨h1, _⟩ | ⟨x, g, y, hl, _, _, hg⟩
  · exact h1
  · rw [hl] at h; exact (noSign_not hg h).elim

theorem any_wild {x y : List UInt8} {g : UInt8} (hx : NoSign x) (hg : signs.contains g = true) : Lib.indexAny (x ++ g :: y) signs = (x.length : Int) := by
  rcases first_cases (x ++ g :: y) with ⟨_, h1⟩ | ⟨x', g', y', hl, h1, hx', hg'⟩
  · exact (noSign_not hg h1).elim
  · rw [h1, (first_unique hg hg' hl hx hx').1]

theorem any_some {l : List UInt8} (h : ¬ NoSign l) : ∃ n : Nat, Lib.indexAny l signs = (n : Int) := by
  rcases first_cases l with ⟨_, h1⟩ | ⟨x, g, y, _, h1, _, _⟩
  · exact absurd h1 h
  · exact ⟨_, h1⟩

theorem Plain.Split.some {l f u : List UInt8} (h : Split l f u) (hw : Wild u) : ¬ NoSign l := by
  intro hn
  obtain ⟨x, g, y, hu, _, _, hg⟩ := hw
  rcases h.none hn with ⟨_, h2⟩
  rw [hu] at h2
  simp at h2

set_option maxHeartbeats 1000000 in
theorem walk3 (a0 : ByteArray) (w0 : a0.size ≤ maxLen) (w : World) :
    Calls Try.prog 3 #[.string a0] w fun e w' => e = .returned (.bool true) ∧ Below w.heap.size w w' := by
  unfold maxLen at w0
  by_cases hb : a0.size ≤ 65536
  · go_enter Try.func3, Try.ntmps3
    go_wp2_with (go_at_call 12; go_in)
    refine (zzsplit_any _ _ (by omega)).mono ?_
    rintro e w1 ⟨f, u, rfl, hc, hb1⟩
    have hfs : f.size ≤ 65536 := by have := hc.out.2.1; omega
    have hus : u.size ≤ a0.size := hc.out.2.2
    rcases hc.out.1 with ⟨hn, h1, h2⟩ | ⟨hw, hlf⟩
    · have HI : Hid (Lib.indexAny a0.data.toList signs = -1) := any_none hn
      obtain rfl := same_of h1
      obtain rfl := none_of h2
      clear h1 h2 hn hc
      go_wp2_with fail
      refine (firstGlob_is _ _ (by omega) HI).mono ?_
      rintro e w' ⟨rfl, rfl⟩
      go_wp2
      go_ret
      exact ⟨rfl, hb1⟩
    · obtain ⟨n, hnn⟩ := any_some (Plain.Split.some hc.out.1 hw)
      have HI : Hid (Lib.indexAny a0.data.toList signs = (n : Int)) := hnn
      have HW : Hid (Wild u.data.toList) := hw
      have HL : Hid ((a0.data.toList = u.data.toList ∧ f.data.toList = []) ∨ ∃ q, a0.data.toList = q ++ 47 :: u.data.toList ∧ NoSign q ∧ Head q f.data.toList) := hlf
      clear hnn hw hlf hc
      obtain ⟨x, g, y, hux, hxn, hx47, hg⟩ := HW.out
      have HU : Hid (Lib.indexAny u.data.toList signs = (x.length : Int)) := by
        show _ = _
        rw [hux]; exact any_wild hxn hg
      have hxu : x.length ≤ u.size := by rw [Lib.size_eq, hux]; simp
      have HNE : Hid (∀ (k : Nat) (h : k < u.size), k < x.length → (((u[k]'h).toNat : Int) == 47) = false) := fun k h hk => by
        refine beq_eq_false_iff_ne.2 fun e => hx47 ?_
        have h1 := Lib.data_getElem? u k h
        rw [hux, List.getElem?_append_left hk] at h1
        have h2 : u[k]'h = 47 := UInt8.toNat_inj.1 (by show (u[k]'h).toNat = 47; omega)
        rw [h2] at h1
        exact List.mem_of_getElem? h1
      have hu32 : u.size ≤ 1073741824 := by omega
      obtain ⟨wg, hwg⟩ : ∃ wg, x.length = wg := ⟨_, rfl⟩
      rw [hwg] at HU hxu HNE
      clear hux hxn hx47 hg hwg HW
      rcases HL.out with ⟨hl, hf⟩ | ⟨q, hl, hq, hh⟩
      · have hsz : a0.size - u.size = 0 := by rw [Lib.size_eq, Lib.size_eq, hl]; omega
        have hsuf : (a0.toList == u.toList) = true := by
          rw [beq_iff_eq, Lib.toList_data, Lib.toList_data, hl]
        have hpe : ByteArray.empty.toList.isEmpty = true := by rw [Lib.toList_data]; rfl
        have hfe : f.toList.isEmpty = true := by rw [Lib.toList_data, hf]; rfl
        clear hl hf HL
        go_wp2_with fail
        refine (firstGlob_is _ _ (by omega) HI).mono ?_
        rintro e w' ⟨rfl, rfl⟩
        go_wp2_with fail
        refine (firstGlob_is _ _ hu32 HU).mono ?_
        rintro e w' ⟨rfl, rfl⟩
        go_wp2
        go_loop [7] (fun i => ∃ k : Nat, k ≤ wg ∧ i = .int .i64 k) (fun i => wg - (intOf i).toNat)
        case atStart => exact ⟨0, Nat.zero_le _, rfl⟩
        case round =>
          obtain ⟨k, hk, rfl⟩ := hrel
          by_cases hlt : k < wg
          · have hku : k < u.size := by omega
            have hne := HNE.out k hku hlt
            go_wp2
            go_round
            case rel => exact ⟨k + 1, by omega, by go_num⟩
            case measure => simp [intOf]; omega
          · go_wp2
            go_ret
            exact ⟨rfl, hb1⟩
      · obtain ⟨m, hm⟩ : ∃ m, q.length = m := ⟨_, rfl⟩
        have hsz : a0.size - u.size = m + 1 := by rw [Lib.size_eq, Lib.size_eq, hl, ← hm]; simp; omega
        have hsuf : ((a0.extract (m + 1) a0.size).toList == u.toList) = true := by
          rw [beq_iff_eq, Lib.toList_data, Lib.toList_data, data_extract1, hl, List.drop_append, List.drop_of_length_le (by omega), hm, show m + 1 - m = 1 by omega]
          simp
        obtain ⟨P, hP⟩ : ∃ P, a0.extract 0 (m + 1) = P := ⟨_, rfl⟩
        have hPd : P.data.toList = q ++ [47] := by
          rw [← hP, data_extract0, hl, List.take_append, List.take_of_length_le (by omega), hm, show m + 1 - m = 1 by omega]
          simp
        have hPs : P.size = m + 1 := by rw [Lib.size_eq, hPd, ← hm]; simp
        have hpe : P.toList.isEmpty = false := by rw [Lib.toList_data, hPd]; cases q <;> rfl
        have hPm : m < P.size := by omega
        have hP47 : (((P[m]'hPm).toNat : Int) != 47) = false := by
          have h1 := Lib.data_getElem? P m hPm
          rw [hPd, List.getElem?_append_right (by omega), hm, Nat.sub_self] at h1
          have h2 : (47 : UInt8) = P[m]'hPm := by simpa using h1
          rw [← h2]; rfl
        have HF : Hid (Lib.indexAny P.data.toList signs = -1) := by
          show _ = _
          rw [hPd]
          exact any_none (noSign_append hq (fun b hb => by
            have h3 : b = 47 := by simpa using hb
            rw [h3]; decide))
        obtain ⟨Q, hQ⟩ : ∃ Q, P.extract 0 m = Q := ⟨_, rfl⟩
        have hQd : Q.data.toList = q := by rw [← hQ, data_extract0, hPd, ← hm]; simp
        have HH : Hid ((Q.toList.isEmpty = true ∧ (f.toList == [47]) = true) ∨ (Q.toList.isEmpty = false ∧ (f.toList == Q.toList) = true)) := by
          show _ ∨ _
          rw [Lib.toList_data, Lib.toList_data, hQd]
          rcases hh with ⟨h1, h2⟩ | ⟨h1, h2⟩
          · exact .inl ⟨by rw [h1]; rfl, by rw [h2]; rfl⟩
          · refine .inr ⟨?_, by rw [h2]; exact beq_self_eq_true q⟩
            cases q with
            | nil => exact absurd rfl h1
            | cons _ _ => rfl
        clear hl hq hh hm hPd hQd HL
        go_wp2_with fail
        refine (firstGlob_is _ _ (by omega) HI).mono ?_
        rintro e w' ⟨rfl, rfl⟩
        go_wp2_with fail
        refine (firstGlob_is _ _ hu32 HU).mono ?_
        rintro e w' ⟨rfl, rfl⟩
        go_wp2
        go_loop [7] (fun i => ∃ k : Nat, k ≤ wg ∧ i = .int .i64 k) (fun i => wg - (intOf i).toNat)
        case atStart => exact ⟨0, Nat.zero_le _, rfl⟩
        case round =>
          obtain ⟨k, hk, rfl⟩ := hrel
          by_cases hlt : k < wg
          · have hku : k < u.size := by omega
            have hne := HNE.out k hku hlt
            go_wp2
            go_round
            case rel => exact ⟨k + 1, by omega, by go_num⟩
            case measure => simp [intOf]; omega
          · go_wp2_with fail
            refine (firstGlob_is _ _ (by omega) HF).mono ?_
            rintro e w' ⟨rfl, rfl⟩
            rcases HH.out with ⟨e1, e2⟩ | ⟨e1, e2⟩
            · go_wp2
              go_ret
              exact ⟨rfl, hb1⟩
            · go_wp2
              go_ret
              exact ⟨rfl, hb1⟩
  · by_cases hb2 : a0.size ≤ 1048576
    · go_enter Try.func3, Try.ntmps3
      go_wp2_with (go_at_call 12; go_in)
      go_ret
      exact ⟨rfl, Below.refl _ _⟩
    · go_enter Try.func3, Try.ntmps3
      go_wp2_with (go_at_call 12; go_in)
      go_ret
      exact ⟨rfl, Below.refl _ _⟩

end Go.Proofs.Qxb6600191a
