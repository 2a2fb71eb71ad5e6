/-
  THE WALK OF cloneStrings: a new row that holds the same strings; nothing that was there has turned.
-/
import Derived.Test.Qxb6001475aSizes
import Derived.Laws.CopyOwn
import Derived.Deep.OwnRows
namespace Go.Proofs.Qxb6001475a
open Go.RowKit

theorem Try.info9 : (Try.prog.info? 9).map (fun i => (i.zero, i.size, i.bytes)) = some (some (.string ⟨#[]⟩), 1, 16) := by kernel_rfl
theorem Try.size9 : (Try.prog.info? 9).map (·.size) = some 1 := by kernel_rfl

/-- What the builtin copy does behind the make. -/
theorem copy_run (ad : Addr) (len cap : Nat) (ss : Nat → ByteArray) (w : World) (C : Array Value) (hC : C.size = len)
    (hcell : ∀ k, k < len → w.cell? (ad.add k) = some (.string (ss k))) :
    ∃ W2, (Builtin.copy_ #[27, 27] 3 #[.slice (some ⟨w.heap.size, 0, none⟩) len len, .slice (some ad) len cap]).run Try.prog (w.alloc (.cells C 9)) = .ok (goInt len) W2 ∧
      w.heap.size < W2.heap.size ∧ (∀ k, k < len → W2.cell? ⟨w.heap.size, k, none⟩ = some (.string (ss k))) ∧ Below w.heap.size w W2 := by
  obtain ⟨cs, hcs⟩ : ∃ cs : List Value, cs = (List.range len).map (fun k => .string (ss k)) := ⟨_, rfl⟩
  have hlen : cs.length = len := by rw [hcs]; simp
  have hg : (w.alloc (.cells C 9)).heap[w.heap.size]? = some (.cells C 9 (0, 0)) := heap_alloc_new w _
  have hget : ∀ j v, cs[j]? = some v → j < len ∧ v = .string (ss j) := by
    intro j v hv
    have hj : j < cs.length := (List.getElem?_eq_some_iff.1 hv).1
    rw [hlen] at hj
    refine ⟨hj, ?_⟩
    rw [hcs] at hv
    simp [hj] at hv
    exact hv.symm
  have hrun := run_copy_row (P := Try.prog) (w.alloc (.cells C 9)) 27 27 3 9 w.heap.size 0 len len ad len cap C 9 cs Try.underlying27 Try.size9 hg (by rw [hlen]; simp)
    (fun j v hv => by
      obtain ⟨hj, rfl⟩ := hget j v hv
      exact Lib.cell?_alloc_some _ (hcell j hj)) (by omega)
    (fun v hv => by
      obtain ⟨j, hj⟩ := List.getElem?_of_mem hv
      obtain ⟨_, rfl⟩ := hget j v hj
      rfl)
  rw [hlen] at hrun
  refine ⟨_, hrun, by simp [World.setRow], fun k hk => ?_, below_setRow ((Below.refl _ _).alloc (Nat.le_refl _) _) (Nat.le_refl _) _⟩
  rw [cell_setRow_same _ _ _ _ _ _ _ hg]
  have e : (List.take 0 C.toList ++ cs ++ List.drop (0 + len) C.toList)[k]? = some (.string (ss k)) := by
    rw [List.take_zero, List.nil_append, List.getElem?_append_left (by omega), hcs]
    simp [hk]
  simpa using e

set_option maxHeartbeats 400000 in
theorem clone12_some (ad : Addr) (len cap : Nat) (ss : Nat → ByteArray) (w : World) (hl : len ≤ 65536)
    (hcell : ∀ k, k < len → w.cell? (ad.add k) = some (.string (ss k))) :
    Calls Try.prog 12 #[.slice (some ad) len cap] w fun e w' => e = .returned (.slice (some ⟨w.heap.size, 0, none⟩) len len) ∧ w.heap.size < w'.heap.size ∧
      (∀ k, k < len → w'.cell? ⟨w.heap.size, k, none⟩ = some (.string (ss k))) ∧ Below w.heap.size w w' := by
  have heq := fun w => Lib.run_eql_slice_nil (P := Try.prog) w 27 9 (some ad) len cap 0 0 Try.underlying27
  have hmk := run_make_row' (P := Try.prog) 27 9 (.string ⟨#[]⟩) 16 Try.underlying27 Try.info9 rfl .i64 .i64 len (by omega) (by omega)
  obtain ⟨W2, hcp, h1, h2, h3⟩ := copy_run ad len cap ss w (madeCells #[.string ⟨#[]⟩] len) (size_madeCells _ _) hcell
  have H1 : Hid (w.heap.size < W2.heap.size) := h1
  have H2 : Hid (∀ k, k < len → W2.cell? ⟨w.heap.size, k, none⟩ = some (.string (ss k))) := h2
  have H3 : Hid (Below w.heap.size w W2) := h3
  clear h1 h2 h3 hcell
  go_enter Try.func12, Try.ntmps12
  go_wp2
  go_ret
  exact ⟨rfl, H1.out, H2.out, H3.out⟩

theorem clone12_none (w : World) :
    Calls Try.prog 12 #[.slice none 0 0] w fun e w' => e = .returned (.slice none 0 0) ∧ w = w' := by
  have heq := fun w => Lib.run_eql_slice_nil (P := Try.prog) w 27 9 none 0 0 0 0 Try.underlying27
  go_enter Try.func12, Try.ntmps12
  go_wp2
  go_ret
  exact ⟨rfl, rfl⟩
end Go.Proofs.Qxb6001475a
