/-
  THE PLAIN LAW: the map's keys, the distinct addresses, the law's own sorted list. No Go in sight.
-/
import Derived.Test.YbulkdlbcDoorLast
namespace Go.Proofs.YbulkdlbcDoor

section
variable (A : Nat → ByteArray) (L : Nat → Int)

/-- What the map binds behind 'k' rounds. -/
def gUpto : Nat → List UInt8 → Option Int
  | 0, _ => none
  | k + 1, s => if s = (A k).data.toList then some (L k) else gUpto k s

/-- The distinct keys behind 'k' rounds, in the order of their first coming. -/
def firsts : Nat → List (List UInt8)
  | 0 => []
  | k + 1 => if (gUpto A L k (A k).data.toList).isSome then firsts k else firsts k ++ [(A k).data.toList]

theorem gUpto_succ (k : Nat) (s : List UInt8) : gUpto A L (k + 1) s = if s = (A k).data.toList then some (L k) else gUpto A L k s := rfl

theorem gUpto_some {k : Nat} {s : List UInt8} : (gUpto A L k s).isSome = true ↔ ∃ j, j < k ∧ (A j).data.toList = s := by
  induction k with
  | zero => simp [gUpto]
  | succ k ih =>
    unfold gUpto
    by_cases h : s = (A k).data.toList
    · rw [if_pos h]
      simp only [Option.isSome_some, true_iff]
      exact ⟨k, by omega, h.symm⟩
    · rw [if_neg h, ih]
      constructor
      · rintro ⟨j, hj, e⟩
        exact ⟨j, by omega, e⟩
      · rintro ⟨j, hj, e⟩
        exact ⟨j, by have : j ≠ k := fun e' => h (by rw [← e, e']); omega, e⟩

theorem mem_firsts {k : Nat} {s : List UInt8} : s ∈ firsts A L k ↔ (gUpto A L k s).isSome = true := by
  induction k with
  | zero => simp [firsts, gUpto]
  | succ k ih =>
    unfold firsts
    by_cases h : (gUpto A L k (A k).data.toList).isSome = true
    · rw [if_pos h, ih]
      rw [gUpto_succ]
      by_cases e : s = (A k).data.toList
      · rw [if_pos e, e]
        simp only [Option.isSome_some, iff_true]
        exact h
      · rw [if_neg e]
    · rw [if_neg h, List.mem_append, ih, List.mem_singleton]
      rw [gUpto_succ]
      by_cases e : s = (A k).data.toList
      · rw [if_pos e]
        simp [e]
      · rw [if_neg e]
        simp [e]

theorem nodup_firsts (k : Nat) : (firsts A L k).Nodup := by
  induction k with
  | zero => simp [firsts]
  | succ k ih =>
    unfold firsts
    split
    · exact ih
    · rename_i h
      rw [List.nodup_append]
      refine ⟨ih, by simp, fun a ha b hb => ?_⟩
      simp only [List.mem_singleton] at hb
      subst hb
      intro e
      subst e
      exact h ((mem_firsts A L).1 ha)

theorem len_firsts_le (k : Nat) : (firsts A L k).length ≤ k := by
  induction k with
  | zero => simp [firsts]
  | succ k ih =>
    unfold firsts
    split
    · omega
    · simp
      omega

/-- The last index of its address: the map binds the address to its time. -/
theorem gUpto_last {n i : Nat} (hi : i < n) (hl : lastB A n i = true) : gUpto A L n (A i).data.toList = some (L i) := by
  have hl' : ∀ j, j < n → i < j → A j ≠ A i := by simpa [lastB] using hl
  clear hl
  induction n with
  | zero => omega
  | succ n ih =>
    unfold gUpto
    by_cases h : i = n
    · subst h
      rw [if_pos rfl]
    · have hne : A n ≠ A i := hl' n (by omega) (by omega)
      rw [if_neg (fun e => hne (bytes_ext e.symm))]
      exact ih (by omega) (fun j hj hij => hl' j (by omega) hij)

/-- The addresses of the last indices below 'k'. -/
def lasts (n : Nat) : Nat → List (List UInt8)
  | 0 => []
  | k + 1 => if lastB A n k then lasts n k ++ [(A k).data.toList] else lasts n k

theorem mem_lasts {n k : Nat} {s : List UInt8} : s ∈ lasts A n k ↔ ∃ j, j < k ∧ lastB A n j = true ∧ (A j).data.toList = s := by
  induction k with
  | zero => simp [lasts]
  | succ k ih =>
    unfold lasts
    split
    · rename_i h
      rw [List.mem_append, ih, List.mem_singleton]
      constructor
      · rintro (⟨j, hj, a, b⟩ | rfl)
        · exact ⟨j, by omega, a, b⟩
        · exact ⟨k, by omega, h, rfl⟩
      · rintro ⟨j, hj, a, b⟩
        by_cases e : j = k
        · subst e
          exact .inr b.symm
        · exact .inl ⟨j, by omega, a, b⟩
    · rename_i h
      rw [ih]
      constructor
      · rintro ⟨j, hj, a, b⟩
        exact ⟨j, by omega, a, b⟩
      · rintro ⟨j, hj, a, b⟩
        exact ⟨j, by have : j ≠ k := fun e => h (e ▸ a); omega, a, b⟩

theorem fresh_last {n k : Nat} (hkn : k < n) : (A k).data.toList ∉ lasts A n k := by
  rw [mem_lasts]
  rintro ⟨j, hj, hl, e⟩
  have hl' : ∀ i, i < n → j < i → A i ≠ A j := by simpa [lastB] using hl
  exact hl' k hkn hj (bytes_ext e.symm)

theorem nodup_lasts {n : Nat} : ∀ k, k ≤ n → (lasts A n k).Nodup
  | 0, _ => by simp [lasts]
  | k + 1, h => by
    unfold lasts
    split
    · rw [List.nodup_append]
      refine ⟨nodup_lasts k (by omega), by simp, fun a ha b hb => ?_⟩
      simp only [List.mem_singleton] at hb
      subst hb
      intro e
      subst e
      exact fresh_last A (by omega) ha
    · exact nodup_lasts k (by omega)

theorem len_lasts_le (n k : Nat) : (lasts A n k).length ≤ k := by
  induction k with
  | zero => simp [lasts]
  | succ k ih =>
    unfold lasts
    split
    · simp
      omega
    · omega

/-- Every address has a last index. -/
theorem has_last {n : Nat} : ∀ (m j : Nat), n - j = m → j < n → ∃ i, i < n ∧ lastB A n i = true ∧ A i = A j := by
  intro m
  induction m using Nat.strongRecOn with
  | _ m ih =>
    intro j hm hj
    by_cases h : lastB A n j = true
    · exact ⟨j, hj, h, rfl⟩
    · have : ∃ i, i < n ∧ j < i ∧ A i = A j := by
        simp only [lastB, decide_eq_true_eq] at h
        false_or_by_contra
        rename_i hno
        exact h (fun i hi hij e => hno ⟨i, hi, hij, e⟩)
      obtain ⟨i, hi, hij, e⟩ := this
      obtain ⟨i', h1, h2, h3⟩ := ih (n - i) (by omega) i rfl hi
      exact ⟨i', h1, h2, h3.trans e⟩

theorem mem_lasts_all {n : Nat} {s : List UInt8} : s ∈ lasts A n n ↔ (gUpto A L n s).isSome = true := by
  rw [mem_lasts, gUpto_some]
  constructor
  · rintro ⟨j, hj, _, e⟩
    exact ⟨j, hj, e⟩
  · rintro ⟨j, hj, e⟩
    obtain ⟨i, h1, h2, h3⟩ := has_last A (n - j) j rfl hj
    exact ⟨i, h1, h2, by rw [h3, e]⟩

/-- As many distinct addresses as the map has keys. -/
theorem lasts_firsts (n : Nat) : (lasts A n n).length = (firsts A L n).length :=
  ((List.perm_ext_iff_of_nodup (nodup_lasts A n (Nat.le_refl _)) (nodup_firsts A L n)).2 (fun s => by rw [mem_lasts_all A L, mem_firsts])).length_eq
end

/-! ### The law's insertion -/
/-- Two sorted lists of the same members are one. -/
theorem sorted_eq {l l' : List (List UInt8)} (h1 : l.Nodup) (h2 : l'.Nodup) (s1 : l.Pairwise (fun x y => x ≤ y)) (s2 : l'.Pairwise (fun x y => x ≤ y)) (hm : ∀ s, s ∈ l ↔ s ∈ l') : l = l' :=
  List.Perm.eq_of_pairwise (le := fun a b => a ≤ b) (fun _ _ _ _ h1 h2 => List.le_antisymm h1 h2) s1 s2 ((List.perm_ext_iff_of_nodup h1 h2).2 hm)
end Go.Proofs.YbulkdlbcDoor
