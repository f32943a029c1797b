/-
  THE PLAIN LAWS OF THE LOOP THAT OVERWRITES EACH KEY's VALUE; and what stands while a map's block turns.
-/
import Derived.Test.YoefzwWalkAll
namespace Go.Proofs.Yoefzw
open Go.RowKit Go.Maps Go.WideMaps

theorem lastIdx_at (ks : Nat → ByteArray) (s : ByteArray) (j : Nat) : ∀ n : Nat, lastIdx ks s n = j → j < n ∧ ks j = s
  | 0, h => by simp [lastIdx] at h
  | n + 1, h => by
    unfold lastIdx at h
    by_cases e : ks n = s
    · rw [if_pos e] at h
      obtain rfl : n = j := by omega
      exact ⟨by omega, e⟩
    · rw [if_neg e] at h
      obtain ⟨h1, h2⟩ := lastIdx_at ks s j n h
      exact ⟨by omega, h2⟩

/-- What the map holds behind k rounds of the loop that overwrites each key's value at its last place. -/
def live (ks : Nat → ByteArray) (vs lt : Nat → Int) (n : Nat) : Nat → List UInt8 → Option Int
  | 0 => tab ks vs n
  | k + 1 => if lastIdx ks (ks k) n = k then upd (live ks vs lt n k) (ks k).data.toList (lt k) else live ks vs lt n k

theorem live_last (ks : Nat → ByteArray) (vs lt : Nat → Int) (n : Nat) (s : ByteArray) (j : Nat) (h : lastIdx ks s n = j) : ∀ k : Nat, j < k → live ks vs lt n k s.data.toList = some (lt j)
  | 0, hj => by omega
  | k + 1, hj => by
    have hs := (lastIdx_at ks s j n h).2
    unfold live
    by_cases e : lastIdx ks (ks k) n = k
    · rw [if_pos e]
      unfold upd
      by_cases e2 : s.data.toList = (ks k).data.toList
      · rw [if_pos e2]
        rw [WideShapes.bytes_inj e2] at h
        obtain rfl : j = k := by omega
        rfl
      · rw [if_neg e2]
        refine live_last ks vs lt n s j h k ?_
        by_cases ejk : j = k
        · subst ejk; exact absurd (by rw [hs]) e2
        · omega
    · rw [if_neg e]
      refine live_last ks vs lt n s j h k ?_
      by_cases ejk : j = k
      · subst ejk; rw [hs] at e; exact absurd h e
      · omega

/-- Only the map's block, which holds no cell, and new blocks have turned. -/
theorem RowIs.map {w w' : World} {B bm : Nat} {a : Option Addr} {n : Nat} {f : Nat → Value} (h : RowIs w B a n f) (hg : w.grownBy w' (some bm)) (hno : ∀ o, w.cell? ⟨bm, o, none⟩ = none) : RowIs w' B a n f := by
  rcases h with h | ⟨b, off, h1, h2, h3⟩
  · exact .inl h
  · exact .inr ⟨b, off, h1, h2, fun k hk => hg.cell (h3 k hk) (fun e => by cases e; have := h3 k hk; rw [hno] at this; cases this)⟩

theorem IterAt.map {w w' : World} {it bm bm' : Nat} {i : Int} {ss : List (List UInt8)} (h : IterAt w it bm i ss) (hg : w.grownBy w' (some bm')) (hno : ∀ o, w.cell? ⟨bm', o, none⟩ = none) : IterAt w' it bm i ss := by
  obtain ⟨a, c, h0, h1, h2, h3, h4, h5⟩ := h
  have hne : some it ≠ some bm' := fun e => by cases e; rw [hno] at h0; cases h0
  refine ⟨a, c, hg.cell h0 hne, hg.cell h1 hne, hg.cell h2 hne, hg.cell h3 hne, ?_, h5.map hg hno⟩
  rw [World.frozen?_of_block (w := w) (hg.block it (World.block_lt_of_cell? w _ h0) hne)]
  exact h4
end Go.Proofs.Yoefzw
