/-
  THE PLAIN LAWS: what zzLastIndex, zzDistinct and zzBuildMap have to do with one another. No Go text is walked here.
-/
import Derived.Test.YoefzwMaps
namespace Go.Proofs.Yoefzw

theorem keyV_list (x : List UInt8) : (keyV x).data.toList = x := by simp [keyV]
theorem keyV_of (s : ByteArray) : keyV s.data.toList = s := WideShapes.bytes_inj (keyV_list _)
theorem keyV_inj {x y : List UInt8} (h : keyV x = keyV y) : x = y := by rw [← keyV_list x, ← keyV_list y, h]

/-- A key that is there has a last place. -/
theorem lastIdx_mem (ks : Nat → ByteArray) (s : ByteArray) : ∀ n : Nat, (∃ k, k < n ∧ ks k = s) → ∃ j : Nat, j < n ∧ lastIdx ks s n = j ∧ ks j = s
  | 0, ⟨k, hk, _⟩ => by omega
  | n + 1, ⟨k, hk, he⟩ => by
    unfold lastIdx
    by_cases h : ks n = s
    · exact ⟨n, by omega, by rw [if_pos h], h⟩
    · rw [if_neg h]
      have hkn : k < n := by
        by_cases e : k = n
        · subst e; exact absurd he h
        · omega
      obtain ⟨j, h1, h2, h3⟩ := lastIdx_mem ks s n ⟨k, hkn, he⟩
      exact ⟨j, by omega, h2, h3⟩

theorem lastIdx_none (ks : Nat → ByteArray) (s : ByteArray) : ∀ n : Nat, lastIdx ks s n < 0 → ∀ k, k < n → ks k ≠ s
  | 0, _, k, hk => by omega
  | n + 1, h, k, hk => by
    unfold lastIdx at h
    by_cases e : ks n = s
    · rw [if_pos e] at h; omega
    · rw [if_neg e] at h
      by_cases ek : k = n
      · subst ek; exact e
      · exact lastIdx_none ks s n h k (by omega)

/-- The map that zzBuildMap builds holds at each key the value at its last place. -/
theorem tab_last (ks : Nat → ByteArray) (vs : Nat → Int) (s : ByteArray) (j : Nat) : ∀ n : Nat, lastIdx ks s n = j → tab ks vs n s.data.toList = some (vs j)
  | 0, h => by simp [lastIdx] at h
  | n + 1, h => by
    unfold lastIdx at h
    unfold tab upd
    by_cases e : ks n = s
    · rw [if_pos e] at h
      obtain rfl : n = j := by omega
      rw [if_pos (by rw [e])]
    · rw [if_neg e] at h
      rw [if_neg (fun h1 => e (WideShapes.bytes_inj h1.symm))]
      exact tab_last ks vs s j n h

theorem tab_isSome (ks : Nat → ByteArray) (vs : Nat → Int) (x : List UInt8) : ∀ n : Nat, (tab ks vs n x).isSome = true ↔ ∃ k, k < n ∧ (ks k).data.toList = x
  | 0 => by simp [tab]
  | n + 1 => by
    unfold tab upd
    by_cases e : x = (ks n).data.toList
    · rw [if_pos e]
      simp
      exact ⟨n, by omega, e.symm⟩
    · rw [if_neg e, tab_isSome ks vs x n]
      constructor
      · rintro ⟨k, hk, h⟩
        exact ⟨k, by omega, h⟩
      · rintro ⟨k, hk, h⟩
        refine ⟨k, ?_, h⟩
        by_cases ek : k = n
        · subst ek; exact absurd h.symm e
        · omega

/-- The places among the first k (of n) at which a key stands for the last time. -/
def lasts (ks : Nat → ByteArray) (n k : Nat) : List Nat := (List.range k).filter (fun i => decide (lastIdx ks (ks i) n = i))

theorem distinctTo_eq (ks : Nat → ByteArray) (n : Nat) : ∀ k, distinctTo ks n k = (lasts ks n k).length
  | 0 => rfl
  | k + 1 => by
    unfold lasts distinctTo
    rw [List.range_succ, List.filter_append, List.length_append, distinctTo_eq ks n k]
    unfold lasts
    by_cases h : lastIdx ks (ks k) n = k
    · rw [if_pos h]; simp [h]
    · rw [if_neg h]; simp [h]

theorem distinct_len (ks : Nat → ByteArray) (n : Nat) (ss : List (List UInt8)) (hnd : ss.Nodup) (hm : ∀ x, x ∈ ss ↔ ∃ k, k < n ∧ (ks k).data.toList = x) : distinctTo ks n n = ss.length := by
  rw [distinctTo_eq]
  have hp : ((lasts ks n n).map fun i => (ks i).data.toList).Perm ss := by
    refine (List.perm_ext_iff_of_nodup ?_ hnd).2 fun x => ?_
    · unfold lasts
      refine List.pairwise_map.2 ?_
      refine List.Pairwise.imp_of_mem (R := fun a b => a ≠ b) (fun {a b} ha hb hne e => hne ?_) (List.Pairwise.filter _ List.nodup_range)
      have h1 : lastIdx ks (ks a) n = a := by simpa using (List.mem_filter.1 ha).2
      have h2 : lastIdx ks (ks b) n = b := by simpa using (List.mem_filter.1 hb).2
      rw [WideShapes.bytes_inj e] at h1
      omega
    · rw [hm x, List.mem_map]
      constructor
      · rintro ⟨i, hi, rfl⟩
        exact ⟨i, by simpa using (List.mem_filter.1 hi).1, rfl⟩
      · rintro ⟨k, hk, rfl⟩
        obtain ⟨j, h1, h2, h3⟩ := lastIdx_mem ks (ks k) n ⟨k, hk, rfl⟩
        exact ⟨j, List.mem_filter.2 ⟨by simpa using h1, by rw [h3]; simpa using h2⟩, by rw [h3]⟩
  rw [← hp.length_eq, List.length_map]

/-- The place of the i-th key that the iterator hands out. -/
def place (ks : Nat → ByteArray) (n : Nat) (ss : List (List UInt8)) (i : Nat) : Nat := (lastIdx ks (keyV (ss.getD i [])) n).toNat

theorem place_spec {ks : Nat → ByteArray} {n : Nat} {ss : List (List UInt8)} (hm : ∀ x, x ∈ ss ↔ ∃ k, k < n ∧ (ks k).data.toList = x) {i : Nat} (hi : i < ss.length) :
    lastIdx ks (keyV (ss.getD i [])) n = place ks n ss i ∧ place ks n ss i < n ∧ ks (place ks n ss i) = keyV (ss.getD i []) := by
  have hx : ss.getD i [] ∈ ss := by simp [List.getD, hi]
  obtain ⟨k, hk, he⟩ := (hm _).1 hx
  obtain ⟨j, h1, h2, h3⟩ := lastIdx_mem ks (keyV (ss.getD i [])) n ⟨k, hk, by rw [← he, keyV_of]⟩
  have e : place ks n ss i = j := by unfold place; rw [h2]; simp
  rw [e]
  exact ⟨h2, h1, h3⟩

theorem place_inj {ks : Nat → ByteArray} {n : Nat} {ss : List (List UInt8)} (hnd : ss.Nodup) (hm : ∀ x, x ∈ ss ↔ ∃ k, k < n ∧ (ks k).data.toList = x) (i j : Nat) (hi : i < ss.length) (hj : j < ss.length) (h : place ks n ss i = place ks n ss j) : i = j := by
  have h1 := (place_spec hm hi).2.2
  have h2 := (place_spec hm hj).2.2
  rw [h, h2] at h1
  have h3 := keyV_inj h1
  simp only [List.getD_eq_getElem?_getD, List.getElem?_eq_getElem hi, List.getElem?_eq_getElem hj, Option.getD_some] at h3
  exact ((List.getElem_inj hnd).1 h3).symm

end Go.Proofs.Yoefzw
