/-
  THE WALK OF THE THIRD LAW, attrs WITHOUT A PATH: the review spec's check does not hang on the user.
-/
import Derived.Test.Qxb6001475aUser
namespace Go.Proofs.Qxb6001475a
open Go.RowKit Go.WideMaps Go.Maps

set_option maxRecDepth 100000 in
set_option maxHeartbeats 1600000 in
theorem user_some_res (un ui a0 a1 a2 a3 a4 a5 a6 : ByteArray) (g2 : Option Addr) (l2 c2 : Nat) (ad : Addr) (l3 c3 : Nat) (s2 s3 : Nat → ByteArray) (w : World)
    (m2 : l2 ≤ 9223372036854775807) (n2 : Hid (g2 = none → l2 = 0 ∧ c2 = 0)) (r2 : StrRow w g2 l2 s2) (m3 : l3 ≤ 9223372036854775807) (r3 : StrRow w (some ad) l3 s3) (z3 : Hid (∀ k, k < l3 → (s3 k).size ≤ maxLen)) (hp : (a6.toList == []) = true) :
    Calls Try.prog 5 #[.string un, .string ui, .slice g2 l2 c2, .slice (some ad) l3 c3, .string a0, .string a1, .string a2, .string a3, .string a4, .string a5, .string a6] w
      fun e w' => e = .returned (.bool true) ∧ Below w.heap.size w w' := by
  have hmm := @run_makeMap Try.prog
  have hne := fun (w : World) (x : Addr) => run_neq_slice_nil_any (P := Try.prog) w 27 9 (some x) l3 l3 0 0 Try.underlying27
  obtain ⟨i0, hi, hz0, hz1, hz2⟩ := info_parts Try.info9
  go_enter Try.func5, Try.ntmps5
  go_wp2_with fail
  refine (bytes10 un ui a0 a1 a2 a3 a4 a5 a6 g2 l2 c2 (some ad) l3 c3 s2 s3 _ m2 m3 r2 r3).mono ?_
  rintro e w1 ⟨⟨z, rfl⟩, rfl⟩
  cases z
  · go_wp2
    go_ret
    exact ⟨rfl, Below.refl _ _⟩
  go_wp2_with fail
  all_goals try (go_ret; exact ⟨rfl, Below.refl _ _⟩)
  have b2 : l2 ≤ 65536 := by omega
  have b3 : l3 ≤ 65536 := by omega
  refine (count11 g2 l2 c2 s2 _ m2 r2).mono ?_
  rintro e w1 ⟨⟨y2, rfl⟩, rfl⟩
  go_wp2_with fail
  refine (count11 (some ad) l3 c3 s3 _ m3 r3).mono ?_
  rintro e w1 ⟨⟨y3, rfl⟩, rfl⟩
  go_wp2_with fail
  · go_ret
    exact ⟨rfl, Below.refl _ _⟩
  refine (clone12_any g2 l2 c2 s2 _ b2 n2.out r2).mono ?_
  rintro e w1 ⟨g, l, c, rfl, hB1⟩
  go_wp2_with fail
  refine (clone12_some ad l3 c3 s3 _ b3 (r3.cell hB1)).mono ?_
  rintro e w2 ⟨rfl, hs2, hc2, hB2⟩
  have HC : Hid (∀ k, k < l3 → w2.cell? ⟨w1.heap.size, k, none⟩ = some (.string (s3 k))) := hc2
  clear hc2
  go_wp2_with fail
  go_loopw [24] (fun i wr => ∃ k : Nat, k ≤ l3 ∧ i = .int .i64 k ∧ Bags wr Try.prog 9 (w2.heap.size + 1) 9 w2.heap.size k ∧ Below w2.heap.size w2 wr ∧ w2.heap.size + 1 ≤ wr.heap.size)
    (fun i _ => l3 - (intOf i).toNat)
  case atStart => exact ⟨0, Nat.zero_le _, rfl, bags_made _ _ _ _, (Below.refl _ _).alloc (Nat.le_refl _) _, by simp⟩
  case round =>
    obtain ⟨k, hk, rfl, hown, hnx, hws⟩ := hrel
    by_cases hlt : k < l3
    · have hcx : wr.cell? ⟨w1.heap.size, k, none⟩ = some (.string (s3 k)) := (hnx.cell (by exact hs2)).trans (HC.out k hlt)
      have hkey := keyOf_string_mk Try.underlying9 (z3.out k hlt)
      go_wp2_with (first
        | (at_lookup; refine wpList_lookup_bags _ rfl _ _ 28 rfl 9 27 9 law9 Try.underlying28 (zero27 _) (w2.heap.size + 1) w2.heap.size k rfl hown (by unfold maxLen; omega) _ _ rfl hkey ?_; intro v xs hoi hzl hback)
        | (at_builtin; refine wpList_append_own_at _ rfl _ _ 27 rfl (w2.heap.size + 1) 9 i0 (.string ⟨#[]⟩) 1 16 Try.underlying27 hi hz0 hz1 hz2 rfl (by decide) v _ _ rfl (hoi.alloc _) ⟨wr.heap.size, 0, none⟩ 1 1 [.string (s3 k)] rfl rfl (cell_one_new _ _ _) (by simp [Value.oneCell']) (by unfold maxLen; omega) (by omega) (by simp; omega) ?_; intro v' w4 hown' hgrow hnil hloc)
        | (at_mapUpdate; refine wpList_mapUpdate_bags _ rfl _ _ _ 28 rfl (xs' := xs ++ [.string (s3 k)]) hback rfl rfl rfl ((World.grownBy_alloc _ _ _).trans hgrow) (by rw [List.length_append]; exact hown') (by simp; omega) (loc_new hloc) ?_; intro w5 hown2 hgrow2))
      have hall := (World.grownBy_alloc wr _ _).trans hgrow
      go_roundw
      case rel =>
        exact ⟨k + 1, by omega, by go_num, hown2, Below.bags hnx hoi hall hgrow2 hnx.size (Nat.le_succ _) (Nat.le_refl _), Nat.le_trans hws (Nat.le_trans hall.size hgrow2.size)⟩
      case measure => simp [intOf]; omega
    · have HB : Hid (Below w.heap.size w wr) := (hB1.trans (hB2.mono hB1.size)).trans (hnx.mono (Nat.le_trans hB1.size hB2.size))
      clear hnx hown hB2 hB1 HC hws hs2
      go_wp2_with fail
      refine (new7_res un ui g l c (some w2.heap.size) a0 a1 a2 a3 a4 a5 a6 _ hp).mono ?_
      rintro e w6 ⟨rfl, d1, d2, d3, e1, e2, e3, e4, rfl⟩
      go_wp2_with fail
      refine (new7_res _ _ _ _ _ _ a0 a1 a2 a3 a4 a5 a6 _ hp).mono ?_
      rintro e w6 ⟨rfl, f1, f2, f3, f4, f5, f6, f7, rfl⟩
      go_wp2_with fail
      refine (recover9_res _ _ _ _ _ _ _ a0 a1 a2 a3 a4 a5 _ (by simp) (by simp [go_sem]) (by simp [go_sem]) (by simp [go_sem]) (by simp [go_sem]) (by simp [go_sem]) (by simp [go_sem])).mono ?_
      rintro e w6 ⟨rfl, j1, j2, j3, rfl⟩
      go_wp2_with fail
      refine (recover9_res _ _ _ _ _ _ _ a0 a1 a2 a3 a4 a5 _ (by simp) (by simp [go_sem]) (by simp [go_sem]) (by simp [go_sem]) (by simp [go_sem]) (by simp [go_sem]) (by simp [go_sem])).mono ?_
      rintro e w6 ⟨rfl, j4, j5, j6, rfl⟩
      go_wp2
      go_ret
      refine ⟨rfl, ?_⟩
      repeat (with_reducible refine below_alloc ?_ _)
      exact HB.out

set_option maxRecDepth 100000 in
set_option maxHeartbeats 1600000 in
theorem user_none_res (un ui a0 a1 a2 a3 a4 a5 a6 : ByteArray) (g2 : Option Addr) (l2 c2 : Nat) (s2 : Nat → ByteArray) (w : World)
    (m2 : l2 ≤ 9223372036854775807) (n2 : Hid (g2 = none → l2 = 0 ∧ c2 = 0)) (r2 : StrRow w g2 l2 s2) (hp : (a6.toList == []) = true) :
    Calls Try.prog 5 #[.string un, .string ui, .slice g2 l2 c2, .slice none 0 0, .string a0, .string a1, .string a2, .string a3, .string a4, .string a5, .string a6] w
      fun e w' => e = .returned (.bool true) ∧ Below w.heap.size w w' := by
  have hne := fun (w : World) => run_neq_slice_nil_any (P := Try.prog) w 27 9 none 0 0 0 0 Try.underlying27
  go_enter Try.func5, Try.ntmps5
  go_wp2_with fail
  refine (bytes10 un ui a0 a1 a2 a3 a4 a5 a6 g2 l2 c2 none 0 0 s2 s2 _ m2 (by omega) r2 (.inl rfl)).mono ?_
  rintro e w1 ⟨⟨z, rfl⟩, rfl⟩
  cases z
  · go_wp2
    go_ret
    exact ⟨rfl, Below.refl _ _⟩
  go_wp2_with fail
  all_goals try (go_ret; exact ⟨rfl, Below.refl _ _⟩)
  have b2 : l2 ≤ 65536 := by omega
  refine (count11 g2 l2 c2 s2 _ m2 r2).mono ?_
  rintro e w1 ⟨⟨y2, rfl⟩, rfl⟩
  go_wp2_with fail
  refine (count11 none 0 0 s2 _ (by omega) (.inl rfl)).mono ?_
  rintro e w1 ⟨⟨y3, rfl⟩, rfl⟩
  go_wp2_with fail
  · go_ret
    exact ⟨rfl, Below.refl _ _⟩
  refine (clone12_any g2 l2 c2 s2 _ b2 n2.out r2).mono ?_
  rintro e w1 ⟨g, l, c, rfl, hB1⟩
  go_wp2_with fail
  refine (clone12_none _).mono ?_
  rintro e w2 ⟨rfl, rfl⟩
  have HB : Hid (Below w.heap.size w w1) := hB1
  clear hB1
  go_wp2_with fail
  refine (new7_res un ui g l c none a0 a1 a2 a3 a4 a5 a6 _ hp).mono ?_
  rintro e w6 ⟨rfl, d1, d2, d3, e1, e2, e3, e4, rfl⟩
  go_wp2_with fail
  refine (new7_res _ _ _ _ _ _ a0 a1 a2 a3 a4 a5 a6 _ hp).mono ?_
  rintro e w6 ⟨rfl, f1, f2, f3, f4, f5, f6, f7, rfl⟩
  go_wp2_with fail
  refine (recover9_res _ _ _ _ _ _ _ a0 a1 a2 a3 a4 a5 _ (by simp) (by simp [go_sem]) (by simp [go_sem]) (by simp [go_sem]) (by simp [go_sem]) (by simp [go_sem]) (by simp [go_sem])).mono ?_
  rintro e w6 ⟨rfl, j1, j2, j3, rfl⟩
  go_wp2_with fail
  refine (recover9_res _ _ _ _ _ _ _ a0 a1 a2 a3 a4 a5 _ (by simp) (by simp [go_sem]) (by simp [go_sem]) (by simp [go_sem]) (by simp [go_sem]) (by simp [go_sem]) (by simp [go_sem])).mono ?_
  rintro e w6 ⟨rfl, j4, j5, j6, rfl⟩
  go_wp2
  go_ret
  refine ⟨rfl, ?_⟩
  repeat (with_reducible refine below_alloc ?_ _)
  exact HB.out

end Go.Proofs.Qxb6001475a
