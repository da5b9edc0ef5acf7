/-
  CONTRACT: strings.IndexAny (31) at whatever string, the set of bytes ASCII and of two bytes or more.
-/
import Derived.Test.Qxb6600191aWalkR
import Derived.Lib.OthersKept
namespace Go.Proofs.Qxb6600191a
open Go.RowKit

theorem rune_none (chars : ByteArray) (r : Int) (w : World) (h1 : 128 ≤ r) (hac : ∀ b ∈ chars.data.toList, b.toNat < 128) :
    Calls Try.prog 34 #[.string chars, .int .i32 r] w fun e w' => e = .returned (.int .i64 (-1)) ∧ Below w.heap.size w w' := by
  by_cases h2 : r = 65533
  · subst h2; exact rune_err chars w hac
  · by_cases h3 : r < 55296
    · exact rune_high chars r w h1 (.inl h3) h2 hac
    · by_cases h4 : 57343 < r ∧ r ≤ 1114111
      · exact rune_high chars r w h1 (.inr h4) h2 hac
      · exact rune_bad chars r w (by omega) (by omega)

theorem rune_ascii (s : ByteArray) (r : Int) (w : World) (h0 : 0 ≤ r) (h1 : r < 128) :
    Calls Try.prog 34 #[.string s, .int .i32 r] w fun e w' => e = .returned (.int .i64 (Lib.indexByte s.data.toList r.toNat.toUInt8)) ∧ Below w.heap.size w w' :=
  (Any.strings_IndexRune_ascii (ρ := Try.lays153_ren) { Try.lays153 with } s r w h0 h1).mono fun _ _ h => ⟨h.1, h.2 ▸ Below.refl _ _⟩

theorem should_any (n : Int) (w : World) : Calls Try.prog 35 #[.int .i64 n] w fun e w' => e = .returned (.bool (decide (8 < n))) ∧ w' = w :=
  Any.strings_shouldUseASCIISet (ρ := Try.lays153_ren) { Try.lays153 with } n w

set_option maxHeartbeats 2000000 in
set_option maxRecDepth 1000000 in
theorem indexAny_short (s chars : ByteArray) (w : World) (h2 : 2 ≤ chars.size) (h8 : s.size ≤ 8) (hac : ∀ b ∈ chars.data.toList, b.toNat < 128) :
    Calls Try.prog 31 #[.string s, .string chars] w fun e w' => e = .returned (.int .i64 (Lib.indexAny s.data.toList chars.data.toList)) ∧ Below w.heap.size w w' := by
  have HA : Aside (∀ b ∈ chars.data.toList, b.toNat < 128) := hac
  clear hac
  have hemp : chars.toList.isEmpty = false := by
    rw [Lib.toList_data]
    cases h : chars.data.toList with
    | nil => have := Lib.size_eq chars; rw [h, List.length_nil] at this; omega
    | cons _ _ => rfl
  have hn1 : ((chars.size : Int) == 1) = false := beq_eq_false_iff_ne.2 (by omega)
  have h8z : decide ((8 : Int) < (s.size : Int)) = false := decide_eq_false (by omega)
  go_enter Try.func31, Try.ntmps31
  go_wp2_with (go_at_call 35; refine (should_any _ _).mono ?_; rintro e w' ⟨rfl, hw⟩; rw [hw, h8z])
  go_loopg [9, 10] s.size (fun gf _ _ wx => ∃ pos : Nat, wx.heap[w.heap.size]? = some (.stringIter s pos) ∧ Below w.heap.size w wx ∧ Lib.NoAny s.data.toList chars.data.toList pos ∧ s.size ≤ pos + gf ∧ pos ≤ s.size)
  case atStart => exact ⟨0, World.iter_heap w s 0, (Below.refl _ w).alloc (Nat.le_refl _) _, Lib.NoAny.zero _ _, by omega, by omega⟩
  case round =>
    obtain ⟨pos, hit, hbw, hno, hfu, hle⟩ := hrel
    have HN : Aside (Lib.NoAny s.data.toList chars.data.toList pos) := hno
    have HB : Aside (Below w.heap.size w wr) := hbw
    clear hno hbw
    by_cases hps : pos < s.size
    · obtain ⟨g', rfl⟩ : ∃ g', gk = g' + 1 := ⟨gk - 1, by omega⟩
      by_cases hasc : (s[pos]'hps).toNat < 128
      · have hnx : ∀ ty, (Instr.next (.pointer (some ⟨w.heap.size, 0, none⟩)) true ty).run Try.prog wr = _ := fun ty => Lib.run_next_ascii_at wr w.heap.size s pos ty hit hps hasc
        obtain ⟨x, hx⟩ : ∃ x : UInt8, s[pos]'hps = x := ⟨_, rfl⟩
        have hxl : s.data.toList[pos]? = some x := by rw [← hx]; exact Lib.data_getElem? s pos hps
        have Hx : Aside (s.data.toList[pos]? = some x) := hxl
        rw [hx] at hnx hasc
        have hit2 := Lib.iterAt_heap wr w.heap.size s pos (pos + 1) hit
        have hbw2 := Lib.below_iterAt HB.out (k := w.heap.size) (Nat.le_refl _) s (pos + 1)
        obtain ⟨W, hWd⟩ : ∃ W, wr.iterAt w.heap.size s (pos + 1) = W := ⟨_, rfl⟩
        rw [hWd] at hnx hit2 hbw2
        have hltW : w.heap.size < W.heap.size := (Array.getElem?_eq_some_iff.1 hit2).1
        have HI : Aside (W.heap[w.heap.size]? = some (.stringIter s (pos + 1))) := hit2
        have HB2 : Aside (Below w.heap.size w W) := hbw2
        clear hxl hx hit hit2 hbw2 hWd
        have hcon := Lib.contains_iff_indexByte chars.data.toList x
        have hback : ((x.toNat : Int)).toNat.toUInt8 = x := by simp
        have cS := rune_ascii chars (x.toNat : Int) W (by omega) (by omega)
        rw [hback] at cS
        clear hback
        cases hin : chars.data.toList.contains x
        · rw [hin] at hcon
          have hlt : ¬ ((0 : Int) ≤ Lib.indexByte chars.data.toList x) := of_decide_eq_false hcon.symm
          clear hcon
          go_wp2_with (go_at_call 34; refine cS.mono ?_; rintro e W' ⟨rfl, hbc⟩)
          go_roundg g'
          case measure => omega
          case rel => exact ⟨pos + 1, (hbc.block _ hltW).trans HI.out, (HB2.out.trans (hbc.mono HB2.out.size)), HN.out.succ Hx.out hin, by omega, by omega⟩
        · rw [hin] at hcon
          have hge : (0 : Int) ≤ Lib.indexByte chars.data.toList x := of_decide_eq_true hcon.symm
          clear hcon
          go_wp2_with (go_at_call 34; refine cS.mono ?_; rintro e W' ⟨rfl, hbc⟩)
          go_ret
          exact ⟨by rw [Lib.indexAny_hit HN.out Hx.out hin]; rfl, (HB2.out.trans (hbc.mono HB2.out.size))⟩
      · have hnx : ∀ ty, (Instr.next (.pointer (some ⟨w.heap.size, 0, none⟩)) true ty).run Try.prog wr = _ := fun ty => Lib.run_next_any_at wr w.heap.size s pos ty hit hps
        have hsp := Utf.decode_span s pos hps (by omega)
        have hhi := decode_high s pos hps (by omega)
        have hna := Utf.noAny_span hps (by omega) HA.out HN.out
        obtain ⟨R, hR⟩ : ∃ R, (Utf8.decode s pos).1 = R := ⟨_, rfl⟩
        obtain ⟨K, hK⟩ : ∃ K, (Utf8.decode s pos).2 = K := ⟨_, rfl⟩
        rw [hR, hK] at hnx hhi
        rw [hK] at hna hsp
        have hspan : pos + K ≤ s.size := hsp.1
        have hK1 : 1 ≤ K := hhi.2
        have hit2 := Lib.iterAt_heap wr w.heap.size s pos (pos + K) hit
        have hbw2 := Lib.below_iterAt HB.out (k := w.heap.size) (Nat.le_refl _) s (pos + K)
        obtain ⟨W, hWd⟩ : ∃ W, wr.iterAt w.heap.size s (pos + K) = W := ⟨_, rfl⟩
        rw [hWd] at hnx hit2 hbw2
        have hltW : w.heap.size < W.heap.size := (Array.getElem?_eq_some_iff.1 hit2).1
        have HI : Aside (W.heap[w.heap.size]? = some (.stringIter s (pos + K))) := hit2
        have HB2 : Aside (Below w.heap.size w W) := hbw2
        have HNA : Aside (Lib.NoAny s.data.toList chars.data.toList (pos + K)) := hna
        have cS := rune_none chars (R : Int) W (by omega) HA.out
        clear hit hit2 hbw2 hWd hR hK hna hsp hhi hasc
        go_wp2_with (go_at_call 34; refine cS.mono ?_; rintro e W' ⟨rfl, hbc⟩)
        go_roundg g'
        case measure => omega
        case rel => exact ⟨pos + K, (hbc.block _ hltW).trans HI.out, (HB2.out.trans (hbc.mono HB2.out.size)), HNA.out, by omega, by omega⟩
    · have hnx : ∀ ty, (Instr.next (.pointer (some ⟨w.heap.size, 0, none⟩)) true ty).run Try.prog wr = _ := fun ty => Lib.run_next_end_at wr w.heap.size s pos ty hit hps
      have hpe : s.size ≤ pos := by omega
      have he : Lib.indexAny s.data.toList chars.data.toList = -1 := Lib.indexAny_none (by rw [← Lib.size_eq]; exact fun j b hj hb => HN.out j b (by omega) hb)
      have HE : Aside (Lib.indexAny s.data.toList chars.data.toList = -1) := he
      clear he hit
      go_wp2
      go_ret
      exact ⟨by rw [HE.out]; rfl, HB.out⟩

theorem set_info : (Try.prog.info? 36).map (fun i => (i.zero, i.size)) = some (some (.agg (Array.replicate 256 (.bool false))), 256) := by kernel_rfl

/-- strings.IndexAny: the set is ASCII, of two bytes or more; the string is whatever -/
theorem indexAny_any (s chars : ByteArray) (w : World) (h2 : 2 ≤ chars.size) (hs : s.size < 4294967281) (hcs : chars.size < 4294967281) (hac : ∀ b ∈ chars.data.toList, b.toNat < 128) :
    Calls Try.prog 31 #[.string s, .string chars] w fun e w' => e = .returned (.int .i64 (Lib.indexAny s.data.toList chars.data.toList)) ∧ Below w.heap.size w w' := by
  by_cases h8 : s.size ≤ 8
  · exact indexAny_short s chars w h2 h8 hac
  · refine (Any.strings_IndexAny_long Try.lays153 (zero_of_info set_info).1 (zero_of_info set_info).2 s chars w h2 (by omega) hs hcs (fun j b hb => hac b (List.mem_of_getElem? hb))).mono fun e w' ⟨h1, h3⟩ => ⟨h1, ?_⟩
    rw [h3]
    exact ((Below.refl _ _).alloc (Nat.le_refl _) _).alloc (by simp) _

end Go.Proofs.Qxb6600191a
