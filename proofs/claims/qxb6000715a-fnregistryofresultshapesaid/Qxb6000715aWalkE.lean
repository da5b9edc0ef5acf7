/-
  CONTRACTS: strings.ContainsAny (33) at dot and colon, registryOf (28), ZZregistryOf (19).
  46 is the dot; dockerIo and localHost are the two hosts that the text names, hub is the answer where no host is named.
-/
import Derived.Test.Qxb6000715aWalkD
import Derived.Test.Qxb6000715aWalkI
import Derived.WalkSmall
namespace Go.Proofs.Qxb6000715a
open Go.RowKit Plain

def dockerIo : List UInt8 := [100, 111, 99, 107, 101, 114, 46, 105, 111]
def localHost : List UInt8 := [108, 111, 99, 97, 108, 104, 111, 115, 116]
def hub : List UInt8 := [105, 110, 100, 101, 120, 46, 100, 111, 99, 107, 101, 114, 46, 105, 111]

/-- does the element a name a host? -/
def names (a : List UInt8) : Bool := !(a == dockerIo) && (hasB a 46 || hasB a 58 || a == localHost)

/-- what registryOf gives -/
def Reg (l h : List UInt8) : Prop :=
  ∃ r v a b f, Split l r v ∧ CutAt 47 r a b f ∧ h = (if f && names a then a else hub)

theorem contains_dot_colon (l : List UInt8) : decide (0 ≤ Lib.indexAny l [46, 58]) = (hasB l 46 || hasB l 58) := by
  induction l with
  | nil => rfl
  | cons x l ih =>
    have hge := Lib.indexAny_ge [46, 58] l
    have e1 : hasB (x :: l) 46 = ((x.toNat : Int) == 46 || hasB l 46) := rfl
    have e2 : hasB (x :: l) 58 = ((x.toNat : Int) == 58 || hasB l 58) := rfl
    have e3 : ∀ c : UInt8, ((x.toNat : Int) == (c.toNat : Int)) = (x == c) := fun c => by
      rw [Bool.eq_iff_iff, beq_iff_eq, beq_iff_eq]
      exact ⟨fun h => UInt8.toNat_inj.1 (by omega), fun h => by rw [h]⟩
    have e46 := e3 46
    have e58 := e3 58
    have f46 : ((x.toNat : Int) == 46) = (x == 46) := e46
    have f58 : ((x.toNat : Int) == 58) = (x == 58) := e58
    have eu : Lib.indexAny (x :: l) [46, 58] = if ([46, 58] : List UInt8).contains x then 0 else if Lib.indexAny l [46, 58] == -1 then -1 else Lib.indexAny l [46, 58] + 1 := rfl
    rw [e1, e2, f46, f58, eu]
    cases h1 : (x == 46)
    · cases h2 : (x == 58)
      · have hc : ([46, 58] : List UInt8).contains x = false := by
          have n1 : x ≠ 46 := beq_eq_false_iff_ne.1 h1
          have n2 : x ≠ 58 := beq_eq_false_iff_ne.1 h2
          simp [n1, n2]
        simp only [Bool.false_or]
        rw [← ih, hc]
        by_cases hm : Lib.indexAny l [46, 58] = -1
        · rw [hm]; rfl
        · have h0 : 0 ≤ Lib.indexAny l [46, 58] := by omega
          have h9 : (Lib.indexAny l [46, 58] == -1) = false := beq_eq_false_iff_ne.2 hm
          rw [h9, decide_eq_true h0]
          exact decide_eq_true (by show 0 ≤ Lib.indexAny l [46, 58] + 1; omega)
      · have hc : ([46, 58] : List UInt8).contains x = true := by
          have n2 : x = 58 := beq_iff_eq.1 h2
          simp [n2]
        rw [hc]
        simp
    · have hc : ([46, 58] : List UInt8).contains x = true := by
        have n2 : x = 46 := beq_iff_eq.1 h1
        simp [n2]
      rw [hc]
      simp

set_option maxHeartbeats 1000000 in
theorem containsAny_any (s : ByteArray) (w : World) (hs : s.size < 4294967281) :
    Calls Try.prog 33 #[.string s, .string ⟨#[46, 58]⟩] w fun e w' => e = .returned (.bool (hasB s.data.toList 46 || hasB s.data.toList 58)) ∧ Below w.heap.size w w' := by
  have hD : Aside (decide (0 ≤ Lib.indexAny s.data.toList [46, 58]) = (hasB s.data.toList 46 || hasB s.data.toList 58)) := contains_dot_colon _
  have c := indexAny_any s ⟨#[46, 58]⟩ w (by decide) hs (by decide) (by decide)
  go_enter Try.func33, Try.ntmps33
  go_wp2_with (go_at_call 37; refine c.mono ?_; rintro e w' ⟨rfl, hw⟩)
  go_ret
  exact ⟨ret_bool hD.out, hw⟩

theorem containsAny_is (s : ByteArray) (w : World) (hs : s.size < 4294967281) {x : Bool} (hx : Hid ((hasB s.data.toList 46 || hasB s.data.toList 58) = x)) :
    Calls Try.prog 33 #[.string s, .string ⟨#[46, 58]⟩] w fun e w' => e = .returned (.bool x) ∧ Below w.heap.size w w' :=
  (containsAny_any s w hs).mono fun _ _ h => ⟨by rw [h.1, hx.out], h.2⟩

theorem eq_bytes (a : ByteArray) (l : List UInt8) : (a.toList == l) = (a.data.toList == l) := by rw [Lib.toList_data]

set_option maxHeartbeats 1000000 in
/-- registryOf -/
theorem registry_any (s : ByteArray) (w : World) (hs : s.size ≤ 1073741824) :
    Calls Try.prog 28 #[.string s] w fun e w' => ∃ h : ByteArray, e = .returned (.string h) ∧ Hid (Reg s.data.toList h.data.toList ∧ h.size ≤ s.size + 15) ∧ Below w.heap.size w w' := by
  go_enter Try.func28, Try.ntmps28
  go_wp2_with (go_at_call 27; refine (split_any _ _ hs).mono ?_; rintro e w' ⟨r, v, rfl, hc, n, rfl⟩)
  have hr : r.size ≤ maxLen := by unfold maxLen; have := hc.out.2.1; omega
  refine (cut_any r 47 _ hr).mono ?_
  rintro e w' ⟨a, b, f, rfl, hk, m, rfl⟩
  have ha : a.size < 4294967281 := by have := hc.out.2.1; have := hk.out.2.1; omega
  have hle : a.size ≤ s.size := by have := hc.out.2.1; have := hk.out.2.1; omega
  clear hr
  cases f
  · go_wp2
    go_ret
    exact ⟨⟨#[105, 110, 100, 101, 120, 46, 100, 111, 99, 107, 101, 114, 46, 105, 111]⟩, rfl, ⟨⟨_, _, _, _, _, hc.out.1, hk.out.1, rfl⟩, by show 15 ≤ _; omega⟩, below_drewN (Below.refl _ _) (n + m)⟩
  · cases hd : (a.toList == [100, 111, 99, 107, 101, 114, 46, 105, 111])
    · cases hx : (hasB a.data.toList 46 || hasB a.data.toList 58)
      · have HX : Hid ((hasB a.data.toList 46 || hasB a.data.toList 58) = false) := hx
        clear hx
        cases hl : (a.toList == [108, 111, 99, 97, 108, 104, 111, 115, 116])
        · have HN : Hid (names a.data.toList = false) := by
            show names _ = false
            unfold names dockerIo localHost
            rw [← eq_bytes, ← eq_bytes, hd, hl, HX.out]; rfl
          go_wp2_with (go_at_call 33; refine (containsAny_is _ _ ha HX).mono ?_; rintro e w' ⟨rfl, hb⟩)
          go_ret
          exact ⟨⟨#[105, 110, 100, 101, 120, 46, 100, 111, 99, 107, 101, 114, 46, 105, 111]⟩, rfl, ⟨⟨_, _, _, _, _, hc.out.1, hk.out.1, by rw [HN.out]; rfl⟩, by show 15 ≤ _; omega⟩, (below_drewN (Below.refl _ _) (n + m)).trans hb⟩
        · have HN : Hid (names a.data.toList = true) := by
            show names _ = true
            unfold names dockerIo localHost
            rw [← eq_bytes, ← eq_bytes, hd, hl, HX.out]; rfl
          go_wp2_with (go_at_call 33; refine (containsAny_is _ _ ha HX).mono ?_; rintro e w' ⟨rfl, hb⟩)
          go_ret
          exact ⟨a, rfl, ⟨⟨_, _, _, _, _, hc.out.1, hk.out.1, by rw [HN.out]; rfl⟩, by omega⟩, (below_drewN (Below.refl _ _) (n + m)).trans hb⟩
      · have HX : Hid ((hasB a.data.toList 46 || hasB a.data.toList 58) = true) := hx
        clear hx
        have HN : Hid (names a.data.toList = true) := by
          show names _ = true
          unfold names dockerIo localHost
          rw [← eq_bytes, ← eq_bytes, hd, HX.out]; rfl
        go_wp2_with (go_at_call 33; refine (containsAny_is _ _ ha HX).mono ?_; rintro e w' ⟨rfl, hb⟩)
        go_ret
        exact ⟨a, rfl, ⟨⟨_, _, _, _, _, hc.out.1, hk.out.1, by rw [HN.out]; rfl⟩, by omega⟩, (below_drewN (Below.refl _ _) (n + m)).trans hb⟩
    · have HN : Hid (names a.data.toList = false) := by
        show names _ = false
        unfold names dockerIo
        rw [← eq_bytes, hd]; rfl
      go_wp2
      go_ret
      exact ⟨⟨#[105, 110, 100, 101, 120, 46, 100, 111, 99, 107, 101, 114, 46, 105, 111]⟩, rfl, ⟨⟨_, _, _, _, _, hc.out.1, hk.out.1, by rw [HN.out]; rfl⟩, by show 15 ≤ _; omega⟩, below_drewN (Below.refl _ _) (n + m)⟩

set_option maxHeartbeats 1000000 in
/-- ZZregistryOf -/
theorem zzregistry_any (s : ByteArray) (w : World) (hs : s.size ≤ 1073741824) :
    Calls Try.prog 19 #[.string s] w fun e w' => ∃ h : ByteArray, e = .returned (.string h) ∧ Hid (Reg s.data.toList h.data.toList ∧ h.size ≤ s.size + 15) ∧ Below w.heap.size w w' := by
  go_enter Try.func19, Try.ntmps19
  go_wp2_with (go_at_call 28; refine (registry_any _ _ hs).mono ?_; rintro e w' ⟨h, rfl, hh, hb⟩)
  go_ret
  exact ⟨h, rfl, hh, hb⟩

end Go.Proofs.Qxb6000715a
