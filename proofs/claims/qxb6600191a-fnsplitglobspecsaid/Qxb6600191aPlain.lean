/-
  THE PLAIN LAYER OF splitGlob: a relation between lists of bytes, and the laws over it. No program, no world.
  47 is the slash.
-/
import Derived.Lib.Strings
import Derived.Lib.LastIndexByte
import Derived.Lib.IndexLaws
import Derived.Lib.IndexBytes
import Derived.Lib.IndexAny
namespace Go.Proofs.Qxb6600191a.Plain

/-- the twelve bytes that a glob takes for signs -/
def signs : List UInt8 := [42, 63, 91, 93, 123, 125, 40, 41, 33, 43, 64, 92]
def NoSign (l : List UInt8) : Prop := ∀ b ∈ l, signs.contains b = false

theorem parts_at {l : List UInt8} {i : Nat} {c : UInt8} (h : l[i]? = some c) : l = l.take i ++ c :: l.drop (i + 1) := by
  obtain ⟨hi, e⟩ := List.getElem?_eq_some_iff.1 h
  rw [← e]
  conv => lhs; rw [← List.take_append_drop i l]
  rw [List.drop_eq_getElem_cons hi]

theorem bang_eq (s : ByteArray) (j : Nat) (hj : j < s.size) : s.data.toList[j]? = some (s.data[j]!) := by
  rw [getElem!_pos s.data j (by simpa using hj)]
  simp

theorem lastIndexByte_cases (s : ByteArray) (c : UInt8) :
    (Lib.lastIndexByte s c.toNat = -1 ∧ c ∉ s.data.toList) ∨
    (∃ i : Nat, Lib.lastIndexByte s c.toNat = i ∧ i < s.size ∧ s.data.toList = s.data.toList.take i ++ c :: s.data.toList.drop (i + 1) ∧ c ∉ s.data.toList.drop (i + 1)) := by
  rcases Lib.lastIndexByte_spec s c.toNat with ⟨h, hn⟩ | ⟨i, hi, h, hc, hn⟩
  · refine .inl ⟨h, fun hm => ?_⟩
    obtain ⟨k, hk, e⟩ := List.mem_iff_getElem.1 hm
    have hk' : k < s.size := by rw [Lib.size_eq]; exact hk
    have h1 := bang_eq s k hk'
    rw [List.getElem?_eq_getElem hk, e] at h1
    have h2 : c = s.data[k]! := by simpa using h1
    exact hn k hk' (by rw [← h2])
  · have h1 := bang_eq s i hi
    have h2 : s.data[i]! = c := UInt8.toNat_inj.1 (by omega)
    rw [h2] at h1
    refine .inr ⟨i, h, hi, parts_at h1, fun hm => ?_⟩
    obtain ⟨k, hk, e⟩ := List.mem_iff_getElem.1 hm
    rw [List.getElem_drop] at e
    have hk' : i + 1 + k < s.size := by rw [Lib.size_eq]; rw [List.length_drop] at hk; omega
    have h3 := bang_eq s (i + 1 + k) hk'
    rw [List.getElem?_eq_getElem (by rw [← Lib.size_eq]; exact hk'), e] at h3
    have h4 : c = s.data[i + 1 + k]! := by simpa using h3
    exact hn (i + 1 + k) (by omega) hk' (by rw [← h4])

/-! ### the first sign -/
theorem noSign_append {a b : List UInt8} (ha : NoSign a) (hb : NoSign b) : NoSign (a ++ b) := fun x hx => by
  rcases List.mem_append.1 hx with h | h
  · exact ha x h
  · exact hb x h
theorem noSign_left {a b : List UInt8} (h : NoSign (a ++ b)) : NoSign a := fun x hx => h x (List.mem_append_left _ hx)
theorem noSign_right {a b : List UInt8} (h : NoSign (a ++ b)) : NoSign b := fun x hx => h x (List.mem_append_right _ hx)
theorem noSign_not {a b : List UInt8} {g : UInt8} (hg : signs.contains g = true) (h : NoSign (a ++ g :: b)) : False := by
  have := h g (by simp)
  rw [hg] at this
  exact absurd this (by decide)

/-- strings.IndexAny over the signs -/
theorem first_cases : ∀ l : List UInt8, (Lib.indexAny l signs = -1 ∧ NoSign l) ∨
    ∃ x g y, l = x ++ g :: y ∧ Lib.indexAny l signs = (x.length : Int) ∧ NoSign x ∧ signs.contains g = true
  | [] => .inl ⟨rfl, fun _ h => by simp at h⟩
  | b :: l => by
    have eu : Lib.indexAny (b :: l) signs = if signs.contains b then 0 else if Lib.indexAny l signs == -1 then -1 else Lib.indexAny l signs + 1 := rfl
    cases hb : signs.contains b
    · rcases first_cases l with ⟨h1, h2⟩ | ⟨x, g, y, h1, h2, h3, h4⟩
      · refine .inl ⟨by rw [eu, hb, h1]; rfl, fun c hc => ?_⟩
        rcases List.mem_cons.1 hc with rfl | hc
        · exact hb
        · exact h2 c hc
      · refine .inr ⟨b :: x, g, y, by rw [h1]; rfl, ?_, fun c hc => ?_, h4⟩
        · have h5 : (Lib.indexAny l signs == -1) = false := by rw [h2]; exact beq_eq_false_iff_ne.2 (by omega)
          rw [eu, hb, h5, h2]
          simp
        · rcases List.mem_cons.1 hc with rfl | hc
          · exact hb
          · exact h3 c hc
    · exact .inr ⟨[], b, l, rfl, by rw [eu, hb]; rfl, fun _ h => by simp at h, hb⟩

theorem first_unique {g g' : UInt8} (hg : signs.contains g = true) (hg' : signs.contains g' = true) :
    ∀ {x x' y y' : List UInt8}, x ++ g :: y = x' ++ g' :: y' → NoSign x → NoSign x' → x = x' ∧ g :: y = g' :: y'
  | [], [], y, y', h, _, _ => ⟨rfl, by simpa using h⟩
  | [], a :: x', y, y', h, _, hn => by
    simp only [List.nil_append, List.cons_append, List.cons.injEq] at h
    have := hn a List.mem_cons_self
    rw [← h.1, hg] at this
    exact absurd this (by decide)
  | a :: x, [], y, y', h, hn, _ => by
    simp only [List.nil_append, List.cons_append, List.cons.injEq] at h
    have := hn a List.mem_cons_self
    rw [h.1, hg'] at this
    exact absurd this (by decide)
  | a :: x, b :: x', y, y', h, hn, hn' => by
    simp only [List.cons_append, List.cons.injEq] at h
    obtain ⟨h1, h2⟩ := first_unique hg hg' h.2 (fun c hc => hn c (List.mem_cons_of_mem _ hc)) (fun c hc => hn' c (List.mem_cons_of_mem _ hc))
    exact ⟨by rw [h.1, h1], h2⟩

/-! ### what splitGlob gives -/
/-- a fixed part q with its slash behind it: the root alone is a slash -/
def Head (q f : List UInt8) : Prop := (q = [] ∧ f = [47]) ∨ (q ≠ [] ∧ f = q)
/-- the wild part: no slash before its first sign -/
def Wild (u : List UInt8) : Prop := ∃ x g y, u = x ++ g :: y ∧ NoSign x ∧ (47 : UInt8) ∉ x ∧ signs.contains g = true
def Split (l f u : List UInt8) : Prop :=
  (NoSign l ∧ f = l ∧ u = []) ∨ (Wild u ∧ ((l = u ∧ f = []) ∨ ∃ q, l = q ++ 47 :: u ∧ NoSign q ∧ Head q f))

theorem Split.fixed {l f u : List UInt8} (h : Split l f u) : NoSign f := by
  rcases h with ⟨h1, rfl, _⟩ | ⟨_, ⟨_, rfl⟩ | ⟨q, _, hq, ⟨_, rfl⟩ | ⟨_, rfl⟩⟩⟩
  · exact h1
  · exact fun _ h => by simp at h
  · exact fun b hb => by
      have : b = 47 := by simpa using hb
      rw [this]; decide
  · exact hq

theorem Split.none {l f u : List UInt8} (h : Split l f u) (hn : NoSign l) : f = l ∧ u = [] := by
  rcases h with ⟨_, h1, h2⟩ | ⟨⟨x, g, y, hu, _, _, hg⟩, ⟨hl, _⟩ | ⟨q, hl, _, _⟩⟩
  · exact ⟨h1, h2⟩
  · rw [hl, hu] at hn; exact (noSign_not hg hn).elim
  · rw [hl, hu] at hn
    have h2 : NoSign ((q ++ 47 :: x) ++ g :: y) := by simpa using hn
    exact (noSign_not hg h2).elim

theorem Split.wild {l f u : List UInt8} (h : Split l f u) (hu : u ≠ []) : Wild u := by
  rcases h with ⟨_, _, h2⟩ | ⟨h, _⟩
  · exact absurd h2 hu
  · exact h

/-- a wild part is split into nothing and itself -/
theorem Split.again {l f u : List UInt8} (h : Split l f u) (hw : Wild l) : f = [] ∧ u = l := by
  obtain ⟨x, g, y, hl, hx, h47, hg⟩ := hw
  rcases h with ⟨h1, _, _⟩ | ⟨⟨x', g', y', hu, hx', _, hg'⟩, ⟨h1, h2⟩ | ⟨q, h1, hq, _⟩⟩
  · rw [hl] at h1; exact (noSign_not hg h1).elim
  · exact ⟨h2, h1.symm⟩
  · have h3 : x ++ g :: y = (q ++ 47 :: x') ++ g' :: y' := by rw [← hl, h1, hu]; simp
    obtain ⟨e, _⟩ := first_unique hg hg' h3 hx (noSign_append hq (fun b hb => by
      rcases List.mem_cons.1 hb with rfl | hb
      · decide
      · exact hx' b hb))
    exact absurd (by rw [e]; simp) h47

end Go.Proofs.Qxb6600191a.Plain
