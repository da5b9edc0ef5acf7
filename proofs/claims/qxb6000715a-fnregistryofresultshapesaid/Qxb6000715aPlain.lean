/-
  THE PLAIN LAYER: what splitReference gives, as a relation between lists of bytes; and the laws over it. No program, no world.
  58 is the colon, 47 the slash, 64 the at sign.
-/
import Derived.Lib.Strings
import Derived.Lib.LastIndexByte
import Derived.Lib.IndexLaws
import Derived.Lib.IndexBytes
namespace Go.Proofs.Qxb6000715a.Plain

/-- the byte c (a number) stands in l -/
def hasB (l : List UInt8) (c : Int) : Bool := l.any fun b => (b.toNat : Int) == c

theorem hasB_iff (l : List UInt8) (c : UInt8) : hasB l (c.toNat : Int) = true ↔ c ∈ l := by
  unfold hasB
  rw [List.any_eq_true]
  constructor
  · rintro ⟨x, hx, h⟩
    have h1 : (x.toNat : Int) = c.toNat := by simpa using h
    have h2 : x = c := UInt8.toNat_inj.1 (by omega)
    exact h2 ▸ hx
  · intro h
    exact ⟨c, h, by simp⟩

theorem hasB_false (l : List UInt8) (c : UInt8) : hasB l (c.toNat : Int) = false ↔ c ∉ l := by
  rw [← Bool.not_eq_true, hasB_iff]

theorem hasB_nil (c : Int) : hasB [] c = false := rfl
theorem hasB_append (l m : List UInt8) (c : Int) : hasB (l ++ m) c = (hasB l c || hasB m c) := by
  unfold hasB; rw [List.any_append]
theorem hasB_one (b : UInt8) (c : Int) : hasB [b] c = ((b.toNat : Int) == c) := by
  unfold hasB; simp

/-- p is r, a colon, t; and t bears neither colon nor slash -/
def IsTag (p r t : List UInt8) : Prop := p = r ++ 58 :: t ∧ (58 : UInt8) ∉ t ∧ (47 : UInt8) ∉ t
def NoTag (p : List UInt8) : Prop := ∀ r t, ¬ IsTag p r t
def TagSplit (p r v : List UInt8) : Prop := IsTag p r v ∨ (NoTag p ∧ r = p ∧ v = [])
/-- what splitReference gives -/
def Split (l r v : List UInt8) : Prop :=
  ((64 : UInt8) ∉ l ∧ TagSplit l r v) ∨ (∃ p t, l = p ++ 64 :: v ∧ (64 : UInt8) ∉ p ∧ TagSplit p r t)

/-- cutting at the first c is unique -/
theorem first_unique {c : UInt8} : ∀ {p p' d d' : List UInt8}, p ++ c :: d = p' ++ c :: d' → c ∉ p → c ∉ p' → p = p' ∧ d = d'
  | [], [], d, d', h, _, _ => by simpa using h
  | [], a :: p', d, d', h, _, hn => by
    simp only [List.nil_append, List.cons_append, List.cons.injEq] at h
    exact absurd (by rw [h.1]; exact List.mem_cons_self) hn
  | a :: p, [], d, d', h, hn, _ => by
    simp only [List.nil_append, List.cons_append, List.cons.injEq] at h
    exact absurd (by rw [h.1]; exact List.mem_cons_self) hn
  | a :: p, b :: p', d, d', h, hn, hn' => by
    simp only [List.cons_append, List.cons.injEq] at h
    obtain ⟨h1, h2⟩ := first_unique h.2 (fun hc => hn (List.mem_cons_of_mem _ hc)) (fun hc => hn' (List.mem_cons_of_mem _ hc))
    exact ⟨by rw [h.1, h1], h2⟩

/-- cutting at the last c is unique -/
theorem last_unique {c : UInt8} {p p' d d' : List UInt8} (h : p ++ c :: d = p' ++ c :: d') (hn : c ∉ d) (hn' : c ∉ d') : p = p' ∧ d = d' := by
  have h2 := congrArg List.reverse h
  simp only [List.reverse_append, List.reverse_cons, List.append_assoc, List.singleton_append] at h2
  obtain ⟨e1, e2⟩ := first_unique h2 (by simpa using hn) (by simpa using hn')
  exact ⟨List.reverse_inj.1 e2, List.reverse_inj.1 e1⟩

theorem IsTag.unique {p r t r' t' : List UInt8} (h : IsTag p r t) (h' : IsTag p r' t') : r = r' ∧ t = t' :=
  last_unique (h.1.symm.trans h'.1) h.2.1 h'.2.1

theorem TagSplit.unique {p r t r' t' : List UInt8} (h : TagSplit p r t) (h' : TagSplit p r' t') : r = r' ∧ t = t' := by
  rcases h with h | ⟨hn, rfl, rfl⟩ <;> rcases h' with h' | ⟨hn', rfl, rfl⟩
  · exact h.unique h'
  · exact absurd h (hn' _ _)
  · exact absurd h' (hn _ _)
  · exact ⟨rfl, rfl⟩

/-- two lists that part at the first at sign -/
theorem no_at_parts {p d q : List UInt8} (h : q = p ++ 64 :: d) (hq : (64 : UInt8) ∉ q) : False := hq (by rw [h]; simp)

theorem Split.unique {l r v r' v' : List UInt8} (h : Split l r v) (h' : Split l r' v') : r = r' ∧ v = v' := by
  rcases h with ⟨hn, h⟩ | ⟨p, t, hl, hp, h⟩ <;> rcases h' with ⟨hn', h'⟩ | ⟨p', t', hl', hp', h'⟩
  · exact h.unique h'
  · exact (no_at_parts hl' hn).elim
  · exact (no_at_parts hl hn').elim
  · obtain ⟨rfl, e⟩ := first_unique (hl.symm.trans hl') hp hp'
    exact ⟨(h.unique h').1, e⟩

/-! ### the first law -/
theorem TagSplit.ver {p r v : List UInt8} (h : TagSplit p r v) : (58 : UInt8) ∉ v ∧ (47 : UInt8) ∉ v := by
  rcases h with h | ⟨_, _, rfl⟩
  · exact h.2
  · exact ⟨by simp, by simp⟩

theorem Split.noAt {l r v : List UInt8} (h : Split l r v) (hn : (64 : UInt8) ∉ l) : TagSplit l r v := by
  rcases h with ⟨_, h⟩ | ⟨p, t, hl, _, _⟩
  · exact h
  · exact (no_at_parts hl hn).elim

theorem IsTag.ne {p r t : List UInt8} (h : IsTag p r t) : r ≠ p := by
  intro e
  have h1 := congrArg List.length h.1
  rw [e] at h1
  simp at h1

theorem TagSplit.whole {p r v : List UInt8} (h : TagSplit p r v) (e : r = p) : v = [] ∧ NoTag p := by
  rcases h with h | ⟨hn, _, hv⟩
  · exact absurd e h.ne
  · exact ⟨hv, hn⟩

theorem TagSplit.cut {p r v : List UInt8} (h : TagSplit p r v) (e : r ≠ p) : r ++ 58 :: v = p := by
  rcases h with h | ⟨_, hr, _⟩
  · exact h.1.symm
  · exact absurd hr e

/-- a list that holds c parts at its last c -/
theorem last_exists {c : UInt8} {l : List UInt8} (h : c ∈ l) : ∃ a b, l = a ++ c :: b ∧ c ∉ b := by
  induction l with
  | nil => simp at h
  | cons x l ih =>
    by_cases hc : c ∈ l
    · obtain ⟨a, b, rfl, hb⟩ := ih hc
      exact ⟨x :: a, b, rfl, hb⟩
    · rcases List.mem_cons.1 h with rfl | h'
      · exact ⟨[], l, rfl, hc⟩
      · exact absurd h' hc

theorem first_exists {c : UInt8} {l : List UInt8} (h : c ∈ l) : ∃ a b, l = a ++ c :: b ∧ c ∉ a := by
  induction l with
  | nil => simp at h
  | cons x l ih =>
    by_cases hx : c = x
    · exact ⟨[], l, by rw [hx]; rfl, by simp⟩
    · obtain ⟨a, b, e, hb⟩ := ih ((List.mem_cons.1 h).resolve_left hx)
      exact ⟨x :: a, b, by rw [e]; rfl, fun hm => by rcases List.mem_cons.1 hm with h1 | h1; exact hx h1; exact hb h1⟩

/-- without a tag nothing behind the last slash is a colon -/
theorem NoTag.tail {l a b : List UInt8} (h : NoTag l) (hl : l = a ++ b) (hb : (47 : UInt8) ∉ b) : (58 : UInt8) ∉ b := by
  intro hm
  obtain ⟨x, y, rfl, hy⟩ := last_exists hm
  refine h (a ++ x) y ⟨by rw [hl, List.append_assoc], hy, fun hs => hb ?_⟩
  simp [hs]

/-! ### what the walk of splitReference hands over -/
theorem noTag_of {p : List UInt8} (h : ∀ a t, p = a ++ 58 :: t → (58 : UInt8) ∉ t → (47 : UInt8) ∈ t) : NoTag p :=
  fun r t ht => ht.2.2 (h r t ht.1 ht.2.1)

theorem parts_at {l : List UInt8} {i : Nat} {c : UInt8} (h : l[i]? = some c) : l = l.take i ++ c :: l.drop (i + 1) := by
  obtain ⟨hi, e⟩ := List.getElem?_eq_some_iff.1 h
  rw [← e]
  conv => lhs; rw [← List.take_append_drop i l]
  rw [List.drop_eq_getElem_cons hi]

theorem indexByte_cases (l : List UInt8) (c : UInt8) :
    (Lib.indexByte l c = -1 ∧ c ∉ l) ∨ (∃ i : Nat, Lib.indexByte l c = i ∧ i < l.length ∧ l = l.take i ++ c :: l.drop (i + 1) ∧ c ∉ l.take i) := by
  by_cases h : Lib.indexByte l c = -1
  · refine .inl ⟨h, fun hm => ?_⟩
    obtain ⟨k, hk, e⟩ := List.mem_iff_getElem.1 hm
    exact Lib.indexByte_none h k (List.getElem?_eq_some_iff.2 ⟨hk, e⟩)
  · have hge := Lib.indexByte_ge l c
    obtain ⟨o, ho⟩ : ∃ o : Nat, Lib.indexByte l c = o := ⟨(Lib.indexByte l c).toNat, by omega⟩
    obtain ⟨h1, h2⟩ := Lib.indexByte_some ho
    refine .inr ⟨o, ho, (List.getElem?_eq_some_iff.1 h1).1, parts_at h1, fun hm => ?_⟩
    obtain ⟨k, hk, e⟩ := List.mem_iff_getElem.1 hm
    have hk' : k < o := by rw [List.length_take] at hk; omega
    rw [List.getElem_take] at e
    exact h2 k hk' (List.getElem?_eq_some_iff.2 ⟨_, e⟩)

theorem bang_eq (s : ByteArray) (j : Nat) (hj : j < s.size) : s.data.toList[j]? = some (s.data[j]!) := by
  rw [getElem!_pos s.data j (by simpa using hj)]
  simp

theorem lastIndexByte_cases (s : ByteArray) (c : UInt8) :
    (Lib.lastIndexByte s c.toNat = -1 ∧ c ∉ s.data.toList) ∨
    (∃ i : Nat, Lib.lastIndexByte s c.toNat = i ∧ i < s.size ∧ s.data.toList = s.data.toList.take i ++ c :: s.data.toList.drop (i + 1) ∧ c ∉ s.data.toList.drop (i + 1)) := by
  rcases Lib.lastIndexByte_spec s c.toNat with ⟨h, hn⟩ | ⟨i, hi, h, hc, hn⟩
  · refine .inl ⟨h, fun hm => ?_⟩
    obtain ⟨k, hk, e⟩ := List.mem_iff_getElem.1 hm
    have hk' : k < s.size := by rw [Lib.size_eq]; exact hk
    have h1 := bang_eq s k hk'
    rw [List.getElem?_eq_getElem hk, e] at h1
    have h2 : c = s.data[k]! := by simpa using h1
    exact hn k hk' (by rw [← h2])
  · have h1 := bang_eq s i hi
    have h2 : s.data[i]! = c := UInt8.toNat_inj.1 (by omega)
    rw [h2] at h1
    refine .inr ⟨i, h, hi, parts_at h1, fun hm => ?_⟩
    obtain ⟨k, hk, e⟩ := List.mem_iff_getElem.1 hm
    rw [List.getElem_drop] at e
    have hk' : i + 1 + k < s.size := by rw [Lib.size_eq]; rw [List.length_drop] at hk; omega
    have h3 := bang_eq s (i + 1 + k) hk'
    rw [List.getElem?_eq_getElem (by rw [← Lib.size_eq]; exact hk'), e] at h3
    have h4 : c = s.data[i + 1 + k]! := by simpa using h3
    exact hn (i + 1 + k) (by omega) hk' (by rw [← h4])

/-- what strings.Cut at one byte gives -/
def CutAt (c : UInt8) (l a b : List UInt8) (f : Bool) : Prop :=
  (f = false ∧ c ∉ l ∧ a = l ∧ b = []) ∨ (f = true ∧ l = a ++ c :: b ∧ c ∉ a)

/-- the colon's last place is behind the slash's: a tag -/
theorem tag_yes (p : ByteArray) (h : Lib.lastIndexByte p 47 < Lib.lastIndexByte p 58) :
    ∃ i : Nat, Lib.lastIndexByte p 58 = i ∧ i < p.size ∧ IsTag p.data.toList (p.data.toList.take i) (p.data.toList.drop (i + 1)) := by
  rcases lastIndexByte_cases p 58 with ⟨h1, _⟩ | ⟨i, h1, hi, hl, hn⟩
  · have h0 : -1 ≤ Lib.lastIndexByte p 47 := by
      rcases lastIndexByte_cases p 47 with ⟨h2, _⟩ | ⟨j, h2, _⟩
      · have h2' : Lib.lastIndexByte p 47 = -1 := h2
        omega
      · have h2' : Lib.lastIndexByte p 47 = (j : Int) := h2
        omega
    have h1' : Lib.lastIndexByte p 58 = -1 := h1
    omega
  · have h1' : Lib.lastIndexByte p 58 = (i : Int) := h1
    refine ⟨i, h1', hi, hl, hn, fun hm => ?_⟩
    rcases lastIndexByte_cases p 47 with ⟨_, h3⟩ | ⟨j, h2, hj, hl2, hn2⟩
    · exact h3 (List.mem_of_mem_drop hm)
    · have h2' : Lib.lastIndexByte p 47 = (j : Int) := h2
      have hji : j + 1 ≤ i + 1 := by omega
      have e : p.data.toList.drop (i + 1) = (p.data.toList.drop (j + 1)).drop (i - j) := by rw [List.drop_drop]; congr 1; omega
      rw [e] at hm
      exact hn2 (List.mem_of_mem_drop hm)

theorem tag_no (p : ByteArray) (h : ¬ Lib.lastIndexByte p 47 < Lib.lastIndexByte p 58) : NoTag p.data.toList := by
  intro r t ht
  have hm : (58 : UInt8) ∈ p.data.toList := by rw [ht.1]; simp
  rcases lastIndexByte_cases p 58 with ⟨_, h3⟩ | ⟨i, h1, hi, hl, hn⟩
  · exact h3 hm
  · have h1' : Lib.lastIndexByte p 58 = (i : Int) := h1
    obtain ⟨er, et⟩ := last_unique (ht.1.symm.trans hl) ht.2.1 hn
    rcases lastIndexByte_cases p 47 with ⟨h2, _⟩ | ⟨j, h2, hj, hl2, hn2⟩
    · have h2' : Lib.lastIndexByte p 47 = -1 := h2
      omega
    · have h2' : Lib.lastIndexByte p 47 = (j : Int) := h2
      have hij : i ≤ j := by omega
      have hne : i ≠ j := by
        rintro rfl
        have e1 : p.data.toList[i]? = some 58 := by rw [hl, List.getElem?_append_right (by rw [List.length_take]; omega)]; rw [List.length_take, ← Lib.size_eq, Nat.min_eq_left (by omega)]; simp
        have e2 : p.data.toList[i]? = some 47 := by rw [hl2, List.getElem?_append_right (by rw [List.length_take]; omega)]; rw [List.length_take, ← Lib.size_eq, Nat.min_eq_left (by omega)]; simp
        rw [e1] at e2
        exact absurd (Option.some.inj e2) (by decide)
      refine ht.2.2 ?_
      rw [et]
      have e2 : p.data.toList[j]? = some 47 := by rw [hl2, List.getElem?_append_right (by rw [List.length_take]; omega)]; rw [List.length_take, ← Lib.size_eq, Nat.min_eq_left (by omega)]; simp
      have e3 : (p.data.toList.drop (i + 1))[j - (i + 1)]? = some 47 := by rw [List.getElem?_drop, ← e2]; congr 1; omega
      exact List.mem_of_getElem? e3

end Go.Proofs.Qxb6000715a.Plain
