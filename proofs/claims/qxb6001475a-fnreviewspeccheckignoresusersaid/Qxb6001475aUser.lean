/-
  WHAT THE THIRD LAW's WALKS SHARE.
-/
import Derived.Test.Qxb6001475aRecover
import Derived.Test.Qxb6001475aClone
import Derived.Test.Qxb6001475aBags
namespace Go.Proofs.Qxb6001475a
open Go.RowKit Go.WideMaps Go.Maps

/-- The elements, in a world in which nothing old has turned. -/
theorem StrRow.cell {w w1 : World} {ad : Addr} {len : Nat} {ss : Nat → ByteArray} (h : StrRow w (some ad) len ss) (hB : Below w.heap.size w w1) (k : Nat) (hk : k < len) : w1.cell? (ad.add k) = some (.string (ss k)) := by
  rcases h with rfl | ⟨b, off, e, hb, hc⟩
  · omega
  · cases e
    have e1 : (⟨b, off, none⟩ : Addr).add k = ⟨b, off + k, none⟩ := by
      unfold Addr.add
      split
      · rename_i h0
        rw [h0, Nat.add_zero]
      · rfl
    rw [e1]
    exact (hB.cell (by exact hb)).trans (hc k hk)

/-- cloneStrings, whatever it is given. -/
theorem clone12_any (a : Option Addr) (len cap : Nat) (ss : Nat → ByteArray) (w : World) (hl : len ≤ 65536) (hn : a = none → len = 0 ∧ cap = 0) (h : StrRow w a len ss) :
    Calls Try.prog 12 #[.slice a len cap] w fun e w' => ∃ g l c, e = .returned (.slice g l c) ∧ Below w.heap.size w w' := by
  cases a with
  | none =>
    obtain ⟨rfl, rfl⟩ := hn rfl
    refine (clone12_none w).mono ?_
    rintro e w' ⟨rfl, rfl⟩
    exact ⟨none, 0, 0, rfl, Below.refl _ _⟩
  | some ad =>
    refine (clone12_some ad len cap ss w hl ?_).mono ?_
    · intro k hk
      exact h.cell (Below.refl _ _) k hk
    · rintro e w' ⟨rfl, _, _, hB⟩
      exact ⟨_, _, _, rfl, hB⟩

theorem loc_new {u v' : Value} {w0 : World} {o : Obj} (h : v'.ownBlock = u.ownBlock ∨ v'.ownBlock = some (w0.alloc o).heap.size) : v'.ownBlock = u.ownBlock ∨ ∃ g, v'.ownBlock = some g ∧ w0.heap.size ≤ g := by
  rcases h with h | h
  · exact .inl h
  · exact .inr ⟨_, h, by simp⟩

theorem below_alloc {a w : World} (h : Below a.heap.size a w) (o : Obj) : Below a.heap.size a (w.alloc o) := h.alloc h.size o

theorem law9 : Keyed Try.prog 9 := string_keyed Try.underlying9
theorem zero27 (w : World) : (zeroValue 27).run Try.prog w = .ok (.slice none 0 0) w := by kernel_rfl

end Go.Proofs.Qxb6001475a
