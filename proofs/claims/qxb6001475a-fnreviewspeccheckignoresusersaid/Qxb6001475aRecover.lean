/-
  THE WALK OF recoverAttrs.
-/
import Derived.Test.Qxb6001475aWalks
namespace Go.Proofs.Qxb6001475a
open Go.RowKit

set_option maxHeartbeats 400000 in
/-- recoverAttrs of a spec that asks about a path. -/
theorem recover9_path (un ui : ByteArray) (ga : Option Addr) (gl gc : Nat) (mr : Option Nat) (b : Nat) (p v : ByteArray) (w : World) (hb : b < w.heap.size)
    (h0 : w.cell? ⟨b, 0, none⟩ = some (.string p)) (h1 : w.cell? ⟨b, 1, none⟩ = some (.string v)) :
    Calls Try.prog 9 #[.agg #[.pointer none, .pointer (some ⟨b, 0, none⟩), .string un, .string ui, .slice ga gl gc, .map mr]] w fun e w' =>
      e = .returned (.tuple #[.agg #[.string v, .string ⟨#[]⟩, .string ⟨#[]⟩, .string ⟨#[]⟩, .string ⟨#[]⟩, .string ⟨#[]⟩, .string p], .bool true]) ∧
      ∃ c1 c2 c3 : Array Value, w' = ((w.alloc (.cells c1 30)).alloc (.cells c2 24)).alloc (.cells c3 24) := by
  have hb1 : b < w.heap.size + 1 := by omega
  have hb2 : b < w.heap.size + 1 + 1 := by omega
  go_enter Try.func9, Try.ntmps9
  go_wp2
  simp [bodyPost, results, Try.results9, go_sem]
  exact ⟨_, _, _, rfl⟩

set_option maxHeartbeats 400000 in
/-- recoverAttrs of a spec that asks about a resource. -/
theorem recover9_res (un ui : ByteArray) (ga : Option Addr) (gl gc : Nat) (mr : Option Nat) (b : Nat) (a0 a1 a2 a3 a4 a5 : ByteArray) (w : World) (hb : b < w.heap.size)
    (h0 : w.cell? ⟨b, 0, none⟩ = some (.string a0)) (h1 : w.cell? ⟨b, 1, none⟩ = some (.string a1)) (h2 : w.cell? ⟨b, 2, none⟩ = some (.string a2))
    (h3 : w.cell? ⟨b, 3, none⟩ = some (.string a3)) (h4 : w.cell? ⟨b, 4, none⟩ = some (.string a4)) (h5 : w.cell? ⟨b, 5, none⟩ = some (.string a5)) :
    Calls Try.prog 9 #[.agg #[.pointer (some ⟨b, 0, none⟩), .pointer none, .string un, .string ui, .slice ga gl gc, .map mr]] w fun e w' =>
      e = .returned (.tuple #[.agg #[.string a0, .string a1, .string a2, .string a3, .string a4, .string a5, .string ⟨#[]⟩], .bool true]) ∧
      ∃ c1 c2 c3 : Array Value, w' = ((w.alloc (.cells c1 30)).alloc (.cells c2 24)).alloc (.cells c3 24) := by
  have hb1 : b < w.heap.size + 1 := by omega
  have hb2 : b < w.heap.size + 1 + 1 := by omega
  go_enter Try.func9, Try.ntmps9
  go_wp2
  simp [bodyPost, results, Try.results9, go_sem]
  exact ⟨_, _, _, rfl⟩
end Go.Proofs.Qxb6001475a
