/-
  A MAP OF SLICES THAT THE CALL HAS MADE ITSELF, WRITTEN BY 'extra[k] = append(extra[k], k)' IN A LOOP. What the slices hold is not said: only that each lies in a row of the call's own,
  so that the appends and stores leave alone all that was there before. After the kit's law for rows of integers (Derived/Maps/OwnRows.lean), turned to rows of whatever one-cell elements.
-/
import Derived.Maps.OwnRows
namespace Go.Proofs.Qxb6001475a
open Go.ChangeMaps Go.MapKept Go.RowKit
open Go.WideElems (Fit rd rg pl rd_val)
open Go.Maps (Keyed)

/-- A reader that looks at nothing. -/
def anyRead (_ : Value) : Option (DataW Unit × List MemPlace) := some (.nil, [])

/-- BLOCK b IS A MAP OF AT MOST n ENTRIES; EACH ELEMENT IS nil OR OWNS A ROW FROM 'base' ON, OF AT MOST n CELLS; NO TWO KEYS' SLICES LIE IN ONE ROW. -/
def Bags (w : World) (P : Program) (k : TypeId) (base : Nat) (e : TypeId) (b n : Nat) : Prop :=
  ∃ es clock, w.heap[b]? = some (.map es clock) ∧ Fit P k anyRead es clock ∧ es.size ≤ n ∧ b < base ∧
    (∀ x ∈ es.toList, ∃ xs : List Value, w.ownsRow base e 1 x.val xs.length xs ∧ xs.length ≤ n) ∧
    ∀ x ∈ es.toList, ∀ y ∈ es.toList, x.key ≠ y.key → x.val.ownBlock = none ∨ x.val.ownBlock ≠ y.val.ownBlock

/-- THE WAY BACK: whatever is done to v's own row and to new blocks alone, a store at this key of a slice that lies in v's row or in a new block leaves 'Bags' again. -/
def Back (w : World) (P : Program) (t k : TypeId) (base : Nat) (e : TypeId) (b n : Nat) (key v : Value) : Prop :=
  ∀ (w1 : World) (v' : Value) (xs' : List Value), w.grownBy w1 v.ownBlock → w1.ownsRow base e 1 v' xs'.length xs' → xs'.length ≤ n + 1 →
    (v'.ownBlock = v.ownBlock ∨ ∃ g, v'.ownBlock = some g ∧ w.heap.size ≤ g) →
    ∃ w2, (Instr.mapUpdate t (.map (some b)) key v').run P w1 = .ok () w2 ∧ Bags w2 P k base e b (n + 1) ∧ w1.grownBy w2 (some b)

section
variable {w : World} {P : Program} {k : TypeId} {base : Nat} {e : TypeId} {b n : Nat} {v : Value}

theorem bags_made (w : World) (P : Program) (k e : TypeId) : Bags (w.alloc (.map #[] 0)) P k (w.heap.size + 1) e w.heap.size 0 :=
  ⟨#[], 0, (MapKept.heap_alloc w _).1, ⟨by simp, stamped_empty 0, by simp⟩, Nat.le_refl _, Nat.lt_succ_self _, by simp, by simp⟩

theorem bags_back {t E : TypeId} {es : Array MapEntry} {clock : Nat} {key : Value} {kl : Lit} (K : Keyed P k) (ht : P.underlying t = some (.map k E)) (hb : w.heap[b]? = some (.map es clock)) (F : Fit P k anyRead es clock)
    (hs : es.size ≤ n) (hn : n < maxLen) (hbb : b < base) (hown : ∀ x ∈ es.toList, ∃ xs : List Value, w.ownsRow base e 1 x.val xs.length xs ∧ xs.length ≤ n)
    (hap : ∀ x ∈ es.toList, ∀ y ∈ es.toList, x.key ≠ y.key → x.val.ownBlock = none ∨ x.val.ownBlock ≠ y.val.ownBlock)
    (hkey : keyOf P k key = some kl) (hv : ∀ x ∈ es.toList, x.key ≠ key → x.val.ownBlock = none ∨ x.val.ownBlock ≠ v.ownBlock) (hvb : v.ownBlock ≠ some b) :
    Back w P t k base e b n key v := by
  intro w1 v' xs' hg hown' hl' hloc
  have hblt : b < w.heap.size := (Array.getElem?_eq_some_iff.1 hb).1
  have hb1 : w1.heap[b]? = some (.map es clock) := (hg.block b hblt (fun e1 => hvb e1.symm)).trans hb
  obtain ⟨es', clock', hrun, F', hput, _, _, hwho⟩ := Maps.fit_store (R' := anyRead) K ht hb1 F (Nat.lt_of_le_of_lt hs hn) (fun _ _ _ _ hz => hz) hkey (rfl : anyRead v' = some (.nil, []))
  have hg2 : w1.grownBy (setBlock w1 b (.map es' clock')) (some b) := ⟨rfl, rfl, rfl, by simp [setBlock], fun i _ hi => heap_setBlock_other hb1 _ (fun e1 => hi (by rw [e1]))⟩
  have own_ne : ∀ {u : Value} {ys : List Value}, w1.ownsRow base e 1 u ys.length ys → u.ownBlock = none ∨ u.ownBlock ≠ some b := fun {u ys} ho => by
    cases hu : u.ownBlock with
    | none => exact Or.inl rfl
    | some g =>
      refine Or.inr (fun e1 => ?_)
      have := (ho.lt g hu).1
      cases e1
      omega
  have old_new : ∀ x ∈ es.toList, x.key ≠ key → x.val.ownBlock = none ∨ x.val.ownBlock ≠ v'.ownBlock := by
    intro x hx hne
    rcases hloc with h1 | ⟨g, h1, h2⟩
    · rw [h1]
      exact hv x hx hne
    · cases hx' : x.val.ownBlock with
      | none => exact Or.inl rfl
      | some gx =>
        obtain ⟨ys, ho, _⟩ := hown x hx
        have := (ho.lt gx hx').2
        refine Or.inr (fun e1 => ?_)
        rw [h1] at e1
        cases e1
        omega
  refine ⟨_, hrun, ⟨es', clock', heap_setBlock_same hb1 _, F', ?_, hbb, ?_, ?_⟩, hg2⟩
  · have e1 : es'.size = ((es'.toList.map (rg P k anyRead)).foldr DataW.insert []).length := by rw [length_sorted]; simp
    rw [e1, hput]
    unfold putKey
    rw [length_insert]
    have e2 := List.length_filter_le (notKey kl) ((es.toList.map (rg P k anyRead)).foldr DataW.insert [])
    rw [length_sorted] at e2
    simp at e2
    omega
  · intro x hx
    rcases hwho x hx with ⟨hx0, hne⟩ | ⟨_, hval⟩
    · obtain ⟨ys, ho, hl⟩ := hown x hx0
      have ho1 := ho.kept hg (hv x hx0 hne)
      exact ⟨ys, ho1.kept hg2 (own_ne ho1), by omega⟩
    · rw [hval]
      exact ⟨xs', hown'.kept hg2 (own_ne hown'), hl'⟩
  · intro x hx y hy hne
    rcases hwho x hx with ⟨hx0, hxk⟩ | ⟨hxk, hxv⟩ <;> rcases hwho y hy with ⟨hy0, hyk⟩ | ⟨hyk, hyv⟩
    · exact hap x hx0 y hy0 hne
    · rw [hyv]
      exact old_new x hx0 hxk
    · rw [hxv]
      cases hv' : v'.ownBlock with
      | none => exact Or.inl rfl
      | some g =>
        refine Or.inr (fun e1 => ?_)
        rcases old_new y hy0 hyk with h | h
        · rw [h] at e1
          cases e1
        · exact h (by rw [hv', e1])
    · exact absurd (hxk.trans hyk.symm) hne

/-- 'm[k]' ON SUCH A MAP: the slice, the row that it owns, and the way back. -/
theorem Bags.at {t E : TypeId} {key : Value} {kl : Lit} (h : Bags w P k base e b n) (K : Keyed P k) (ht : P.underlying t = some (.map k E)) (hz : (zeroValue E).run P w = .ok (.slice none 0 0) w) (hn : n < maxLen) (hkey : keyOf P k key = some kl) :
    ∃ v, ∃ xs : List Value, (Instr.lookup t (.map (some b)) key false).run P w = .ok v w ∧ w.ownsRow base e 1 v xs.length xs ∧ xs.length ≤ n ∧ Back w P t k base e b n key v := by
  obtain ⟨es, clock, hb, F, hs, hbb, hown, hap⟩ := h
  rcases Maps.fit_look false K ht hz hb F hkey with ⟨hrun, _, _⟩ | ⟨e0, y, hm0, h3, hrun, _, _, _⟩
  · refine ⟨.slice none 0 0, [], hrun, World.ownsRow_nil _ _ _ _, Nat.zero_le _, bags_back K ht hb F hs hn hbb hown hap hkey (fun x _ _ => ?_) (by simp [Value.ownBlock])⟩
    cases x.val.ownBlock <;> simp [Value.ownBlock]
  · obtain ⟨xs, ho, hl⟩ := hown e0 hm0
    refine ⟨e0.val, xs, hrun, ho, hl, bags_back K ht hb F hs hn hbb hown hap hkey (fun x hx hne => hap x hx e0 hm0 (by rw [h3]; exact hne)) (fun e1 => ?_)⟩
    have := (ho.lt b e1).1
    omega

/-- 'Below' THROUGH A WHOLE ROUND. -/
theorem Below.bags {B : Nat} {a w1 w2 : World} {xs : List Value} (hnx : Below B a w) (ho : w.ownsRow base e 1 v xs.length xs) (hg : w.grownBy w1 v.ownBlock) (hg2 : w1.grownBy w2 (some b)) (hB : B ≤ w.heap.size) (hBase : B ≤ base) (hBb : B ≤ b) : Below B a w2 :=
  (hnx.grown hg hB (fun j hj => Nat.le_trans hBase (ho.lt j hj).1)).grown hg2 (Nat.le_trans hB hg.size) (fun j hj => by cases hj; exact hBb)
end

/-- THE LOOK-UP AT THE OPERATION. -/
theorem wpList_lookup_bags {P : Program} (w : World) {ops : Array Oper} {rest : List Oper} {o : Oper} {a : Act} {Q : Exit → Act → World → Prop}
    (hg : o.guard = none) (m x : Operand) (t : TypeId) (hop : o.op = Op.lookup t m x false)
    (k E e : TypeId) (K : Keyed P k) (ht : P.underlying t = some (.map k E)) (hz : (zeroValue E).run P w = .ok (.slice none 0 0) w) (base b n : Nat)
    (hm : a.eval m = .map (some b)) (hown : Bags w P k base e b n) (hn : n < maxLen) (key : Value) (kl : Lit) (hx : a.eval x = key) (hkey : keyOf P k key = some kl)
    (hK : ∀ (v : Value) (xs : List Value), w.ownsRow base e 1 v xs.length xs → xs.length ≤ n → Back w P t k base e b n key v → wpList P ops Q rest (a.put o.dst v) w) :
    wpList P ops Q (o :: rest) a w := by
  refine wpList_plain hg fun K' hK' => ?_
  obtain ⟨v, xs, hrun, ho, hl, hback⟩ := hown.at K ht hz hn hkey
  unfold Oper.wp
  simp [execOp, hop, hm, hx, hrun, Result.andThen]
  exact hK' _ _ (hK v xs ho hl hback)

/-- THE STORE AT THE OPERATION, BY THE WAY BACK. -/
theorem wpList_mapUpdate_bags {P : Program} (w : World) {ops : Array Oper} {rest : List Oper} {o : Oper} {a : Act} {Q : Exit → Act → World → Prop}
    (hg : o.guard = none) (m x v : Operand) (t : TypeId) (hop : o.op = Op.mapUpdate t m x v)
    {w0 : World} {k : TypeId} {base : Nat} {e : TypeId} {b n : Nat} {key u v' : Value} {xs' : List Value}
    (hback : Back w0 P t k base e b n key u) (hm : a.eval m = .map (some b)) (hx : a.eval x = key) (hv : a.eval v = v')
    (hgr : w0.grownBy w u.ownBlock) (hown' : w.ownsRow base e 1 v' xs'.length xs') (hl' : xs'.length ≤ n + 1) (hloc : v'.ownBlock = u.ownBlock ∨ ∃ g, v'.ownBlock = some g ∧ w0.heap.size ≤ g)
    (hK : ∀ w2, Bags w2 P k base e b (n + 1) → w.grownBy w2 (some b) → wpList P ops Q rest (a.put o.dst undef) w2) :
    wpList P ops Q (o :: rest) a w := by
  refine wpList_plain hg fun K' hK' => ?_
  obtain ⟨w2, hrun, r1, r2⟩ := hback w v' xs' hgr hown' hl' hloc
  unfold Oper.wp
  simp [execOp, hop, hm, hx, hv, hrun, Result.andThen]
  exact hK' _ _ (hK w2 r1 r2)
end Go.Proofs.Qxb6001475a
