/-
  THE WALK OF fnModelUpTo: its answer is fnItoa's text of valueUpTo's number.
-/
import Derived.Test.Qxb6600731aDec
import Derived.Lib.Strings
import Derived.Lib.IndexBytes
namespace Go.Proofs.Qxb6600731a
open Go.RowKit

/-- The digits from place st up to m. -/
def pref (s : ByteArray) (st m : Nat) : List UInt8 := (s.data.toList.take m).drop st

theorem pref_snoc (s : ByteArray) (st m : Nat) (h : st ≤ m) (hm : m < s.size) : pref s st (m + 1) = pref s st m ++ [s[m]] := by
  have hl : (s.data.toList.take m).length = m := by
    rw [List.length_take]
    have : m < s.data.toList.length := by simpa using hm
    omega
  unfold pref
  rw [take_snoc s m hm, List.drop_append_of_le_length (by omega)]

theorem pref_cons (s : ByteArray) (st m : Nat) (h : st < m) (hm : m ≤ s.size) (hst : st < s.size) : pref s st m = s[st] :: (s.data.toList.take m).drop (st + 1) := by
  have hm' : m ≤ s.data.toList.length := by simpa using hm
  have hl : st < (s.data.toList.take m).length := by
    rw [List.length_take]
    omega
  unfold pref
  rw [List.drop_eq_getElem_cons hl, List.getElem_take]
  rfl

theorem pref_data (s : ByteArray) (st m : Nat) : (s.extract st m).data.toList = pref s st m := by
  rw [Lib.extract_data]
  unfold pref
  rw [List.drop_take]

theorem pref_digits {s : ByteArray} (hd : Digits s.data.toList) (st m : Nat) : Digits (pref s st m) :=
  fun c hc => hd c (List.mem_of_mem_take (List.mem_of_mem_drop hc))

theorem str_ext {s t : ByteArray} (h : s.data.toList = t.data.toList) : s = t := by
  obtain ⟨⟨l⟩⟩ := s
  obtain ⟨⟨r⟩⟩ := t
  have e : l = r := h
  rw [e]

/-- What the walk wants to know of a prefix that is asked about. -/
theorem ask (s lt : ByteArray) (st m lim J : Nat) (hd : Digits s.data.toList) (hst : st < s.size) (h48 : s[st].toNat ≠ 48) (h : st ≤ m) (hm : m < s.size) (hJ : IsLen lim J) (hlt : lt = strOfNums (decTo lim J)) :
    textGt (s.extract st (m + 1)) lt = decide (lim < val (pref s st (m + 1))) := by
  have e := pref_cons s st (m + 1) (by omega) (by omega) hst
  have hdg := pref_digits hd st (m + 1)
  rw [hlt, e]
  rw [e] at hdg
  exact gt_of hdg h48 lim J hJ _ (by rw [pref_data, e])

/-- What the walk wants to know of a prefix that is handed back. -/
theorem give (s : ByteArray) (st m : Nat) (hd : Digits s.data.toList) (hst : st < s.size) (h48 : s[st].toNat ≠ 48) (h : st < m) (hm : m ≤ s.size) (v : Nat) (hv : v = val (pref s st m)) (hv2 : v < 18446744073709551616) :
    ∃ J, IsLen v J ∧ s.extract st m = strOfNums (decTo v J) := by
  have e := pref_cons s st m h hm hst
  have hdg := pref_digits hd st m
  rw [e] at hdg hv
  rw [hv] at hv2
  obtain ⟨h1, h2⟩ := text_of hdg h48 hv2
  rw [hv]
  refine ⟨_, h1, ?_⟩
  rw [h2]
  refine str_ext ?_
  rw [pref_data, e]

theorem zero_step (lim : Nat) (s : ByteArray) (k : Nat) (hk : k < s.size) (h : upTo lim (s.data.toList.take k) = 0) (hc : s[k].toNat = 48) : upTo lim (s.data.toList.take (k + 1)) = 0 := by
  rw [take_snoc s k hk, upTo_snoc, h]
  unfold stepUp
  rw [if_pos (Nat.zero_le _), hc]

theorem up_step (lim : Nat) (s : ByteArray) (st m : Nat) (h : st ≤ m) (hm : m < s.size) (hu : upTo lim (s.data.toList.take m) = val (pref s st m)) (hle : val (pref s st m) ≤ lim) :
    upTo lim (s.data.toList.take (m + 1)) = val (pref s st (m + 1)) := by
  rw [take_snoc s m hm, upTo_snoc, hu, pref_snoc s st m h hm, val_snoc]
  unfold stepUp
  rw [if_pos hle]

theorem up_stop (lim : Nat) (s : ByteArray) (m : Nat) (h : lim < upTo lim (s.data.toList.take m)) : upTo lim s.data.toList = upTo lim (s.data.toList.take m) := by
  have e := upTo_stop lim (s.data.toList.drop m) (s.data.toList.take m) h
  rw [List.take_append_drop] at e
  exact e

theorem below_drewN' {B n : Nat} {a w : World} (h : Below B a w) : Below B a (w.drewN n) := ⟨h.os, h.tape, h.output, h.size, h.block⟩

theorem hide_ask {p : Prop} (h : p) : Hid p := h

set_option maxHeartbeats 400000 in
/-- fnModelUpTo. -/
theorem model11 (s : ByteArray) (lim : Nat) (hl : lim < 1844674407370955161) (hs : s.size ≤ 1048576) (hd : Digits s.data.toList) (w : World) :
    Calls Try.prog 11 #[.string s, .int .u64 (lim : Int)] w fun e w' => (∃ J, IsLen (upTo lim s.data.toList) J ∧ e = .returned (.string (strOfNums (decTo (upTo lim s.data.toList) J)))) ∧ Below w.heap.size w w' := by
  have HD : Hid (Digits s.data.toList) := hd
  have HV : Hid (upTo lim s.data.toList < 18446744073709551616) := upTo_lt lim hl _ hd
  clear hd
  go_enter Try.func11, Try.ntmps11
  go_wp2_with fail
  refine (itoa10 lim (by omega) _).mono ?_
  rintro e w1 ⟨⟨JL, hJL, rfl⟩, hB1⟩
  have HJL : Hid (IsLen lim JL) := hJL
  clear hJL
  obtain ⟨lt, hlt⟩ : ∃ lt, lt = strOfNums (decTo lim JL) := ⟨_, rfl⟩
  rw [← hlt]
  have HLT : Hid (lt = strOfNums (decTo lim JL)) := hlt
  clear hlt
  go_wp2
  go_loop [6] (fun i => ∃ k : Nat, k ≤ s.size ∧ i = .int .i64 k ∧ Hid (upTo lim (s.data.toList.take k) = 0)) (fun i => s.size - (intOf i).toNat)
  case atStart => exact ⟨0, Nat.zero_le _, rfl, rfl⟩
  case round =>
    obtain ⟨k, hk, rfl, Hz⟩ := hrel
    by_cases hlt : k < s.size
    · have i1 : (k : Int) < (s.size : Int) := by omega
      by_cases hc : s[k].toNat = 48
      · have hb : ((s[k].toNat : Int) == 48) = true := by rw [hc]; rfl
        have HZ : Hid (upTo lim (s.data.toList.take (k + 1)) = 0) := zero_step lim s k hlt Hz.out hc
        clear hc
        go_wp2
        go_round
        case rel => exact ⟨k + 1, by omega, by go_num, HZ⟩
        case measure => simp [intOf]; omega
      · have hb : ((s[k].toNat : Int) == 48) = false := by simp; omega
        have HC : Hid (¬ s[k].toNat = 48) := hc
        clear hc
        have hkn : ((k : Int) == (s.size : Int)) = false := by simp; omega
        go_wp2
        have HB1 : Hid (Below w.heap.size w w1) := hB1
        clear hB1 hb hkn
        go_loopw [7] (fun i wr => ∃ m : Nat, k ≤ m ∧ m ≤ s.size ∧ i = .int .i64 m ∧ Hid (upTo lim (s.data.toList.take m) = val (pref s k m)) ∧ Hid (val (pref s k m) ≤ lim) ∧ Hid (Below w.heap.size w wr)) (fun i _ => s.size - (intOf i).toNat)
        case atStart =>
          have e0 : pref s k k = [] := by
            unfold pref
            exact List.drop_of_length_le (List.length_take_le _ _)
          refine ⟨k, Nat.le_refl _, hk, rfl, ?_, ?_, HB1⟩
          · show upTo lim (s.data.toList.take k) = val (pref s k k)
            rw [Hz.out, e0]
            rfl
          · show val (pref s k k) ≤ lim
            rw [e0]
            exact Nat.zero_le _
        case round =>
          obtain ⟨m, hkm, hms, rfl, Hu, Hle, HB⟩ := hrel
          by_cases hmlt : m < s.size
          · have HA := hide_ask (ask s lt k m lim JL HD.out hlt HC.out hkm hmlt HJL.out HLT.out)
            have HU : Hid (upTo lim (s.data.toList.take (m + 1)) = val (pref s k (m + 1))) := up_step lim s k m hkm hmlt Hu.out Hle.out
            by_cases hgt : lim < val (pref s k (m + 1))
            · have HT : Hid (textGt (s.extract k (m + 1)) lt = true) := by
                show _ = _
                rw [HA.out]
                simpa using hgt
              have HG : Hid (upTo lim s.data.toList = val (pref s k (m + 1))) := by
                have e := up_stop lim s (m + 1) (by rw [HU.out]; exact hgt)
                exact e.trans HU.out
              obtain ⟨J, hJ, hstr⟩ := give s k (m + 1) HD.out hlt HC.out (by omega) (by omega) _ HG.out HV.out
              have HJ : Hid (IsLen (upTo lim s.data.toList) J) := hJ
              have HR : Hid (s.extract k (m + 1) = strOfNums (decTo (upTo lim s.data.toList) J)) := hstr
              clear hgt hJ hstr
              go_wp2_with fail
              refine (greater19 _ lt (by simp; omega) _).mono ?_
              rintro e w2 ⟨rfl, nd, rfl⟩
              rw [HT.out]
              go_wp2
              go_ret
              exact ⟨⟨J, HJ.out, ret_str HR.out⟩, below_drewN' HB.out⟩
            · have HT : Hid (textGt (s.extract k (m + 1)) lt = false) := by
                show _ = _
                rw [HA.out]
                simpa using hgt
              have HL2 : Hid (val (pref s k (m + 1)) ≤ lim) := Nat.le_of_not_lt hgt
              clear hgt
              go_wp2_with fail
              refine (greater19 _ lt (by simp; omega) _).mono ?_
              rintro e w2 ⟨rfl, nd, rfl⟩
              rw [HT.out]
              go_wp2
              go_roundw
              case rel => exact ⟨m + 1, by omega, by omega, by go_num, HU, HL2, below_drewN' HB.out⟩
              case measure => simp [intOf]; omega
          · obtain rfl : m = s.size := by omega
            have HG : Hid (upTo lim s.data.toList = val (pref s k s.size)) := by
              have e := Hu.out
              have e2 : s.data.toList.take s.size = s.data.toList := List.take_of_length_le (by simp)
              rw [e2] at e
              exact e
            obtain ⟨J, hJ, hstr⟩ := give s k s.size HD.out hlt HC.out hlt (Nat.le_refl _) _ HG.out HV.out
            have HJ : Hid (IsLen (upTo lim s.data.toList) J) := hJ
            have HR : Hid (s.extract k s.size = strOfNums (decTo (upTo lim s.data.toList) J)) := hstr
            clear hJ hstr
            go_wp2
            go_ret
            exact ⟨⟨J, HJ.out, ret_str HR.out⟩, HB.out⟩
    · obtain rfl : k = s.size := by omega
      have HZ : Hid (upTo lim s.data.toList = 0) := by
        have h := Hz.out
        rw [List.take_of_length_le (by simp)] at h
        exact h
      go_wp2
      go_ret
      refine ⟨⟨1, ?_, ?_⟩, hB1⟩
      · rw [HZ.out]
        exact ⟨by decide, by decide, by decide, .inl rfl⟩
      · rw [HZ.out]
        rfl
end Go.Proofs.Qxb6600731a
