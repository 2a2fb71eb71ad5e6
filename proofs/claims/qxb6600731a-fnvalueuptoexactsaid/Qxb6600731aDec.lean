/-
  THE PLAIN LAW OF DECIMAL TEXT: no walk here.
-/
import Derived.Test.Qxb6600731aItoa
import Derived.Test.Qxb6600731aGreater
import Derived.Test.Qxb6600731aUpTo
namespace Go.Proofs.Qxb6600731a

/-- The number that digits write. -/
def val (l : List UInt8) : Nat := l.foldl (fun v c => v * 10 + (c.toNat - 48)) 0

theorem val_snoc (l : List UInt8) (c : UInt8) : val (l ++ [c]) = val l * 10 + (c.toNat - 48) := by simp [val, List.foldl_append]

theorem foldl_val (l : List UInt8) : ∀ v : Nat, l.foldl (fun v c => v * 10 + (c.toNat - 48)) v = v * 10 ^ l.length + val l := by
  induction l with
  | nil => intro v; simp [val]
  | cons c l ih =>
    intro v
    have h1 := ih (v * 10 + (c.toNat - 48))
    have h2 := ih (c.toNat - 48)
    rw [List.foldl_cons, h1]
    show _ = v * 10 ^ (l.length + 1) + (c :: l).foldl (fun v c => v * 10 + (c.toNat - 48)) 0
    rw [List.foldl_cons, Nat.zero_mul, Nat.zero_add, h2, Nat.add_mul, Nat.pow_succ, Nat.mul_comm (10 ^ l.length) 10, ← Nat.mul_assoc, Nat.add_assoc]

theorem val_cons (c : UInt8) (l : List UInt8) : val (c :: l) = (c.toNat - 48) * 10 ^ l.length + val l := by
  have h := foldl_val l (0 * 10 + (c.toNat - 48))
  rw [Nat.zero_mul, Nat.zero_add] at h
  show (c :: l).foldl (fun v c => v * 10 + (c.toNat - 48)) 0 = _
  rw [List.foldl_cons, Nat.zero_mul, Nat.zero_add]
  exact h

theorem Digits.tail {c : UInt8} {l : List UInt8} (h : Digits (c :: l)) : Digits l := fun x hx => h x (List.mem_cons_of_mem _ hx)
theorem Digits.head {c : UInt8} {l : List UInt8} (h : Digits (c :: l)) : 48 ≤ c.toNat ∧ c.toNat ≤ 57 := h c List.mem_cons_self

theorem val_lt : ∀ {l : List UInt8}, Digits l → val l < 10 ^ l.length
  | [], _ => by simp [val]
  | c :: l, h => by
    have h1 := val_lt h.tail
    have h2 := h.head
    rw [val_cons, List.length_cons, Nat.pow_succ]
    have h3 : (c.toNat - 48) * 10 ^ l.length ≤ 9 * 10 ^ l.length := Nat.mul_le_mul_right _ (by omega)
    omega

theorem val_ge {c : UInt8} {l : List UInt8} (h : Digits (c :: l)) (h0 : c.toNat ≠ 48) : 10 ^ l.length ≤ val (c :: l) := by
  have h2 := h.head
  rw [val_cons]
  have h3 : 1 * 10 ^ l.length ≤ (c.toNat - 48) * 10 ^ l.length := Nat.mul_le_mul_right _ (by omega)
  omega

/-- c * m + v with v < m: c and v are told by the sum. -/
theorem split_lt {m c c' v v' : Nat} (hv : v < m) (hc : c < c') : c * m + v < c' * m + v' := by
  have h : (c + 1) * m ≤ c' * m := Nat.mul_le_mul_right _ hc
  rw [Nat.add_mul] at h
  omega

theorem lex_val : ∀ {p q : List UInt8}, Digits p → Digits q → p.length = q.length → lexGt p q = decide (val q < val p)
  | [], [], _, _, _ => by simp [lexGt, val]
  | [], _ :: _, _, _, h => by simp at h
  | _ :: _, [], _, _, h => by simp at h
  | c :: p, d :: q, hp, hq, h => by
    have hl : p.length = q.length := by simpa using h
    have ih := lex_val hp.tail hq.tail hl
    have h1 := hp.head
    have h2 := hq.head
    have l1 := val_lt hp.tail
    have l2 := val_lt hq.tail
    rw [← hl] at l2
    unfold lexGt
    rw [val_cons, val_cons, ← hl]
    by_cases e : c = d
    · rw [if_pos e, ih, e]
      exact decide_eq_decide.2 (by omega)
    · rw [if_neg e]
      have e' : c.toNat ≠ d.toNat := fun x => e (UInt8.toNat_inj.1 x)
      refine decide_eq_decide.2 ?_
      rw [UInt8.lt_iff_toNat_lt]
      constructor
      · intro hlt
        exact split_lt l2 (by omega)
      · intro hlt
        rcases Nat.lt_or_ge d.toNat c.toNat with hh | hh
        · exact hh
        · have := split_lt (c := c.toNat - 48) (c' := d.toNat - 48) (v' := val q) l1 (by omega)
          omega

theorem val_inj : ∀ {p q : List UInt8}, Digits p → Digits q → p.length = q.length → val p = val q → p = q
  | [], [], _, _, _, _ => rfl
  | [], _ :: _, _, _, h, _ => by simp at h
  | _ :: _, [], _, _, h, _ => by simp at h
  | c :: p, d :: q, hp, hq, h, hv => by
    have hl : p.length = q.length := by simpa using h
    have h1 := hp.head
    have h2 := hq.head
    have l1 := val_lt hp.tail
    have l2 := val_lt hq.tail
    rw [← hl] at l2
    rw [val_cons, val_cons, ← hl] at hv
    have e : c.toNat = d.toNat := by
      rcases Nat.lt_trichotomy c.toNat d.toNat with hh | hh | hh
      · have := split_lt (c := c.toNat - 48) (c' := d.toNat - 48) (v' := val q) l1 (by omega)
        omega
      · exact hh
      · have := split_lt (c := d.toNat - 48) (c' := c.toNat - 48) (v' := val p) l2 (by omega)
        omega
    rw [e] at hv
    rw [UInt8.toNat_inj.1 e, val_inj hp.tail hq.tail hl (by omega)]

/-- The bytes of fnItoa's text. -/
def decB (n J : Nat) : List UInt8 := (decTo n J).map fun z => UInt8.ofNat z.toNat

theorem decB_length (n J : Nat) : (decB n J).length = J := by simp [decB, decTo_length]

theorem decB_succ (n J : Nat) : decB n (J + 1) = UInt8.ofNat (48 + n / 10 ^ J % 10) :: decB n J := by
  simp only [decB, decTo, List.map_cons, Int.toNat_natCast]

theorem byte_toNat (d : Nat) (h : d < 10) : (UInt8.ofNat (48 + d)).toNat = 48 + d := by
  simp [UInt8.toNat_ofNat']
  omega

theorem decB_digits (n : Nat) : ∀ J, Digits (decB n J)
  | 0 => fun c hc => by simp [decB, decTo] at hc
  | J + 1 => fun c hc => by
    rw [decB_succ] at hc
    rcases List.mem_cons.1 hc with h | h
    · rw [h, byte_toNat _ (Nat.mod_lt _ (by decide))]
      have := Nat.mod_lt (n / 10 ^ J) (show 0 < 10 by decide)
      omega
    · exact decB_digits n J c h

theorem decB_val (n : Nat) : ∀ J, val (decB n J) = n % 10 ^ J
  | 0 => by simp [decB, decTo, val, Nat.mod_one]
  | J + 1 => by
    rw [decB_succ, val_cons, decB_length, decB_val n J, byte_toNat _ (Nat.mod_lt _ (by decide)), Nat.pow_succ, Nat.mod_mul]
    rw [Nat.add_sub_cancel_left, Nat.mul_comm, Nat.add_comm]

theorem str_decB (n J : Nat) : strOfNums (decTo n J) = ⟨(decB n J).toArray⟩ := rfl

/-- A text of digits without a leading zero is fnItoa's text of its number. -/
theorem text_of {c : UInt8} {p : List UInt8} (h : Digits (c :: p)) (h0 : c.toNat ≠ 48) (hv : val (c :: p) < 18446744073709551616) :
    IsLen (val (c :: p)) (p.length + 1) ∧ strOfNums (decTo (val (c :: p)) (p.length + 1)) = ⟨(c :: p).toArray⟩ := by
  have hlt := val_lt h
  rw [List.length_cons] at hlt
  have hge := val_ge h h0
  have h20 : p.length + 1 ≤ 20 := by
    rcases Nat.lt_or_ge p.length 20 with hh | hh
    · omega
    · have h3 : 10 ^ 20 ≤ 10 ^ p.length := Nat.pow_le_pow_right (by decide) hh
      have h4 := pow20
      omega
  refine ⟨⟨by omega, h20, hlt, .inr (by rw [Nat.add_sub_cancel]; exact hge)⟩, ?_⟩
  rw [str_decB]
  have e : decB (val (c :: p)) (p.length + 1) = c :: p := by
    refine val_inj (decB_digits _ _) h (by rw [decB_length, List.length_cons]) ?_
    rw [decB_val, Nat.mod_eq_of_lt hlt]
  rw [e]

theorem len_unique {n J K : Nat} (h : IsLen n J) (k : IsLen n K) : J = K := by
  obtain ⟨h1, _, h3, h4⟩ := h
  obtain ⟨k1, _, k3, k4⟩ := k
  rcases Nat.lt_trichotomy J K with hh | hh | hh
  · exfalso
    have h5 : 10 ^ J ≤ 10 ^ (K - 1) := Nat.pow_le_pow_right (by decide) (by omega)
    rcases k4 with k4 | k4 <;> omega
  · exact hh
  · exfalso
    have h5 : 10 ^ K ≤ 10 ^ (J - 1) := Nat.pow_le_pow_right (by decide) (by omega)
    rcases h4 with h4 | h4 <;> omega

/-- fnGreater of a text without a leading zero and fnItoa's text of lim. -/
theorem gt_of {c : UInt8} {p : List UInt8} (h : Digits (c :: p)) (h0 : c.toNat ≠ 48) (lim J : Nat) (hJ : IsLen lim J) (s : ByteArray) (hs : s.data.toList = c :: p) :
    textGt s (strOfNums (decTo lim J)) = decide (lim < val (c :: p)) := by
  obtain ⟨j1, _, j3, j4⟩ := hJ
  have e1 : s.size = p.length + 1 := by
    have : s.size = s.data.toList.length := by simp
    rw [this, hs, List.length_cons]
  have e2 : (strOfNums (decTo lim J)).size = J := by rw [strOfNums_size, decTo_length]
  have e3 : (strOfNums (decTo lim J)).data.toList = decB lim J := by rw [str_decB]
  have hv : val (decB lim J) = lim := by rw [decB_val, Nat.mod_eq_of_lt j3]
  have hlt := val_lt h
  have hge := val_ge h h0
  rw [List.length_cons] at hlt
  unfold textGt
  rw [e1, e2, e3, hs]
  by_cases e : p.length + 1 = J
  · rw [if_pos e, lex_val h (decB_digits _ _) (by rw [decB_length, List.length_cons, e]), hv]
  · rw [if_neg e]
    refine decide_eq_decide.2 ⟨fun hh => ?_, fun hh => ?_⟩
    · have h5 : 10 ^ J ≤ 10 ^ p.length := Nat.pow_le_pow_right (by decide) (by omega)
      omega
    · rcases Nat.lt_or_ge J (p.length + 1) with h6 | h6
      · exact h6
      · exfalso
        have h5 : 10 ^ (p.length + 1) ≤ 10 ^ (J - 1) := Nat.pow_le_pow_right (by decide) (by omega)
        rcases j4 with j4 | j4 <;> omega

/-- Past lim, further digits change nothing. -/
theorem upTo_stop (lim : Nat) (r : List UInt8) : ∀ l : List UInt8, lim < upTo lim l → upTo lim (l ++ r) = upTo lim l := by
  induction r with
  | nil => intro l _; rw [List.append_nil]
  | cons c r ih =>
    intro l h
    have e : upTo lim (l ++ [c]) = upTo lim l := by
      rw [upTo_snoc]
      unfold stepUp
      rw [if_neg (by omega)]
    have e2 : l ++ c :: r = (l ++ [c]) ++ r := by simp
    rw [e2, ih (l ++ [c]) (by omega), e]

theorem fold_lt (lim : Nat) (hl : lim < 1844674407370955161) : ∀ (l : List UInt8) (v : Nat), v < 18446744073709551616 → Digits l → l.foldl (stepUp lim) v < 18446744073709551616
  | [], v, hv, _ => hv
  | c :: l, v, hv, hd => by
    rw [List.foldl_cons]
    refine fold_lt lim hl l _ ?_ hd.tail
    have h2 := hd.head
    unfold stepUp
    split <;> omega

/-- The answer stays within a word. -/
theorem upTo_lt (lim : Nat) (hl : lim < 1844674407370955161) (l : List UInt8) (hd : Digits l) : upTo lim l < 18446744073709551616 :=
  fold_lt lim hl l 0 (by decide) hd
end Go.Proofs.Qxb6600731a
