/-
  Seat b6602938a: plain mathematics: how many different values of a list are offered, and when that is all of them. No Go here.
-/
import Derived.Test.Qxb6602938aCore
namespace Go.Proofs.Qxb6602938a

/-- How many different ones of the first j values V are among the n values S. -/
def cnt (S : Nat → ByteArray) (n : Nat) (V : Nat → ByteArray) : Nat → Nat
  | 0 => 0
  | j + 1 => cnt S n V j + (if (offB S (V j) n && !offB V (V j) j) = true then 1 else 0)

/-- The first n values S are pairwise different, and each is among the m values V. -/
def okTo (S V : Nat → ByteArray) (m : Nat) : Nat → Bool
  | 0 => true
  | i + 1 => okTo S V m i && !offB S (S i) i && offB V (S i) m

/-- Those different ones, in the order in which they come. -/
def firsts (S : Nat → ByteArray) (n : Nat) (V : Nat → ByteArray) : Nat → List (List UInt8)
  | 0 => []
  | j + 1 => firsts S n V j ++ (if (offB S (V j) n && !offB V (V j) j) = true then [(V j).toList] else [])

def keys (S : Nat → ByteArray) : Nat → List (List UInt8)
  | 0 => []
  | n + 1 => keys S n ++ [(S n).toList]

theorem keys_length (S : Nat → ByteArray) (n : Nat) : (keys S n).length = n := by
  induction n with
  | zero => rfl
  | succ n ih => simp [keys, ih]

theorem mem_keys (S : Nat → ByteArray) (x : List UInt8) (n : Nat) : x ∈ keys S n ↔ ∃ i, i < n ∧ (S i).toList = x := by
  induction n with
  | zero => simp [keys]
  | succ n ih =>
    simp only [keys, List.mem_append, ih, List.mem_singleton]
    constructor
    · rintro (⟨i, hi, e⟩ | e)
      · exact ⟨i, by omega, e⟩
      · exact ⟨n, by omega, e.symm⟩
    · rintro ⟨i, hi, e⟩
      by_cases h : i = n
      · subst h; exact .inr e.symm
      · exact .inl ⟨i, by omega, e⟩

theorem offB_mem (S : Nat → ByteArray) (x : ByteArray) (n : Nat) : offB S x n = true ↔ x.toList ∈ keys S n := by
  rw [offB_true_iff, mem_keys]
  simp

theorem firsts_length (S : Nat → ByteArray) (n : Nat) (V : Nat → ByteArray) (j : Nat) : (firsts S n V j).length = cnt S n V j := by
  induction j with
  | zero => rfl
  | succ j ih =>
    simp only [firsts, cnt, List.length_append, ih]
    split <;> rfl

theorem mem_firsts (S : Nat → ByteArray) (n : Nat) (V : Nat → ByteArray) (x : List UInt8) (j : Nat) : x ∈ firsts S n V j ↔ x ∈ keys V j ∧ x ∈ keys S n := by
  induction j with
  | zero => simp [firsts, keys]
  | succ j ih =>
    simp only [firsts, keys, List.mem_append, ih, List.mem_singleton]
    by_cases hc : (offB S (V j) n && !offB V (V j) j) = true
    · rw [if_pos hc]
      simp only [Bool.and_eq_true, offB_mem] at hc
      constructor
      · rintro (⟨h1, h2⟩ | h)
        · exact ⟨.inl h1, h2⟩
        · have e : x = (V j).toList := by simpa using h
          subst e
          exact ⟨.inr rfl, hc.1⟩
      · rintro ⟨h1 | h1, h2⟩
        · exact .inl ⟨h1, h2⟩
        · exact .inr (by simp [h1])
    · rw [if_neg hc]
      constructor
      · rintro (⟨h1, h2⟩ | h)
        · exact ⟨.inl h1, h2⟩
        · simp at h
      · rintro ⟨h1 | h1, h2⟩
        · exact .inl ⟨h1, h2⟩
        · subst h1
          refine .inl ⟨?_, h2⟩
          rw [← offB_mem] at h2 ⊢
          rw [h2] at hc
          simpa using hc

theorem nodup_firsts (S : Nat → ByteArray) (n : Nat) (V : Nat → ByteArray) (j : Nat) : (firsts S n V j).Nodup := by
  induction j with
  | zero => simp [firsts]
  | succ j ih =>
    simp only [firsts]
    split
    · rename_i hc
      simp only [Bool.and_eq_true, Bool.not_eq_true'] at hc
      rw [List.nodup_append]
      refine ⟨ih, by simp, ?_⟩
      intro a ha b hb e
      have eb : b = (V j).toList := by simpa using hb
      subst e
      subst eb
      have := ((mem_firsts S n V _ j).1 ha).1
      rw [← offB_mem, hc.2] at this
      cases this
    · simpa using ih

theorem length_le_of_subset {l1 : List (List UInt8)} (h1 : l1.Nodup) : ∀ {l2 : List (List UInt8)}, (∀ x ∈ l1, x ∈ l2) → l1.length ≤ l2.length := by
  induction l1 with
  | nil => intro l2 _; simp
  | cons a t ih =>
    intro l2 h
    rw [List.nodup_cons] at h1
    have ha : a ∈ l2 := h a (by simp)
    have := ih h1.2 (l2 := l2.erase a) (fun x hx => by
      have hne : x ≠ a := fun e => h1.1 (e ▸ hx)
      exact (List.mem_erase_of_ne hne).2 (h x (by simp [hx])))
    rw [List.length_erase_of_mem ha] at this
    have hpos : 0 < l2.length := List.length_pos_of_mem ha
    simp
    omega

theorem dup_of_not_nodup : ∀ {l : List (List UInt8)}, ¬ l.Nodup → ∃ x, x ∈ l.erase x ∧ x ∈ l
  | [], h => absurd List.nodup_nil h
  | a :: t, h => by
    rw [List.nodup_cons] at h
    by_cases ha : a ∈ t
    · exact ⟨a, by simpa using ha, by simp⟩
    · obtain ⟨x, hx, hxt⟩ := dup_of_not_nodup (l := t) (fun ht => h ⟨ha, ht⟩)
      refine ⟨x, ?_, by simp [hxt]⟩
      by_cases e : a = x
      · subst e; exact absurd hxt ha
      · rw [List.erase_cons_tail (by simpa using e)]
        simp [hx]

theorem nodup_keys (S : Nat → ByteArray) (n : Nat) : (keys S n).Nodup ↔ ∀ i, i < n → offB S (S i) i = false := by
  induction n with
  | zero => simp [keys]
  | succ n ih =>
    simp only [keys]
    rw [List.nodup_append]
    constructor
    · rintro ⟨h1, _, h3⟩ i hi
      by_cases e : i = n
      · subst e
        rw [Bool.eq_false_iff]
        intro ht
        exact h3 _ ((offB_mem S (S i) i).1 ht) _ (by simp) rfl
      · exact ih.1 h1 i (by omega)
    · intro h
      refine ⟨ih.2 fun i hi => h i (by omega), by simp, ?_⟩
      intro a ha b hb e
      have eb : b = (S n).toList := by simpa using hb
      subst e
      subst eb
      rw [← offB_mem, h n (by omega)] at ha
      cases ha

theorem okTo_iff (S V : Nat → ByteArray) (m n : Nat) : okTo S V m n = true ↔ ∀ i, i < n → offB S (S i) i = false ∧ offB V (S i) m = true := by
  induction n with
  | zero => simp [okTo]
  | succ n ih =>
    simp only [okTo, Bool.and_eq_true, ih, Bool.not_eq_true']
    constructor
    · rintro ⟨⟨h1, h2⟩, h3⟩ i hi
      by_cases e : i = n
      · subst e; exact ⟨h2, h3⟩
      · exact h1 i (by omega)
    · intro h
      exact ⟨⟨fun i hi => h i (by omega), (h n (by omega)).1⟩, (h n (by omega)).2⟩

/-- ALL OF THEM just if they are pairwise different and each is offered. -/
theorem cnt_eq_iff (S : Nat → ByteArray) (n : Nat) (V : Nat → ByteArray) (m : Nat) : cnt S n V m = n ↔ okTo S V m n = true := by
  have hlen := firsts_length S n V m
  have hnd := nodup_firsts S n V m
  have hsub : ∀ x ∈ firsts S n V m, x ∈ keys S n := fun x hx => ((mem_firsts S n V x m).1 hx).2
  have hle := length_le_of_subset hnd hsub
  have hk := keys_length S n
  rw [okTo_iff]
  constructor
  · intro h
    have hback : ∀ x ∈ keys S n, x ∈ firsts S n V m := by
      intro x hx
      by_cases hm : x ∈ firsts S n V m
      · exact hm
      · have := length_le_of_subset (l1 := x :: firsts S n V m) (List.nodup_cons.2 ⟨hm, hnd⟩) (l2 := keys S n) (fun y hy => by
          rcases List.mem_cons.1 hy with rfl | hy
          · exact hx
          · exact hsub y hy)
        simp at this
        omega
    have hnk : (keys S n).Nodup := by
      by_cases hn : (keys S n).Nodup
      · exact hn
      · obtain ⟨x, hx, hxm⟩ := dup_of_not_nodup hn
        have := length_le_of_subset hnd (l2 := (keys S n).erase x) (fun y hy => by
          by_cases e : y = x
          · subst e; exact hx
          · exact (List.mem_erase_of_ne e).2 (hsub y hy))
        rw [List.length_erase_of_mem hxm] at this
        have hpos : 0 < (keys S n).length := List.length_pos_of_mem hxm
        omega
    intro i hi
    refine ⟨(nodup_keys S n).1 hnk i hi, ?_⟩
    rw [offB_mem]
    exact ((mem_firsts S n V _ m).1 (hback _ ((mem_keys S _ n).2 ⟨i, hi, rfl⟩))).1
  · intro h
    have hnk : (keys S n).Nodup := (nodup_keys S n).2 fun i hi => (h i hi).1
    have := length_le_of_subset hnk (l2 := firsts S n V m) (fun x hx => by
      obtain ⟨i, hi, rfl⟩ := (mem_keys S x n).1 hx
      exact (mem_firsts S n V _ m).2 ⟨(offB_mem V (S i) m).1 (h i hi).2, hx⟩)
    omega

theorem cnt_le (S : Nat → ByteArray) (n : Nat) (V : Nat → ByteArray) (j : Nat) : cnt S n V j ≤ j := by
  induction j with
  | zero => exact Nat.le_refl _
  | succ j ih =>
    simp only [cnt]
    split <;> omega

end Go.Proofs.Qxb6602938a
