/- The decoder against the reference: tables made of lengths. The decoder against the reference: the lengths of a block's codes. The decoder against the reference: the head of a block with codes of its own. The decoder against the reference: the next block. -/
import Derived.Test.YtbbnibbdiiffkaaDoorM23

/- The decoder against the reference: tables made of lengths. -/
namespace Go.Proofs.YtbbnibbdiiffkaaDoor
open Go.RowKit

section
variable {l : List Nat}
theorem tabL_min (l : List Nat) : (tabL l).min = minL l := rfl
theorem maxL_zero : ∀ {l : List Nat}, maxL l = 0 → ∀ x ∈ l, x = 0 := fun {l} h x hx => Nat.le_zero.1 (h ▸ maxL_ge l x hx)
theorem usedL_zero : ∀ {l : List Nat}, usedL l = 0 → ∀ x ∈ l, x = 0 := by
  intro l
  induction l with
  | nil => intro _ x hx; cases hx
  | cons y l ih =>
    intro h x hx
    rw [usedL] at h
    rcases List.mem_cons.1 hx with rfl | hx
    · rcases Nat.eq_zero_or_pos x with q | q
      · exact q
      · rw [if_pos q] at h; omega
    · exact ih (by omega) x hx
theorem maxL_of_zero : ∀ {l : List Nat}, (∀ x ∈ l, x = 0) → maxL l = 0 := fun h => Nat.le_zero.1 (maxL_le fun x hx => Nat.le_of_eq (h x hx))
theorem roomL_zero : ∀ {l : List Nat}, (∀ x ∈ l, x = 0) → roomL l = 32768 := by
  intro l
  induction l with
  | nil => intro _; rfl
  | cons y l ih =>
    intro h
    rw [roomL, ih fun x hx => h x (List.mem_cons_of_mem _ hx), h y (List.mem_cons_self ..)]
    rfl
theorem en15 (h15 : ∀ x ∈ l, x ≤ 15) : enL l 15 = enL l (maxL l) * 2 ^ (15 - maxL l) := by
  have h := enL_above l (15 - maxL l)
  rw [show maxL l + (15 - maxL l) = 15 by have := maxL_le h15; omega] at h
  exact h
theorem minL_get {i : Nat} (hi : i < l.length) (h0 : 0 < l.getD i 0) : minL l ≤ l.getD i 0 ∧ 1 ≤ minL l := by
  have hm : l.getD i 0 ∈ l := by rw [List.getD_eq_getElem?_getD, List.getElem?_eq_getElem hi]; exact List.getElem_mem hi
  have h := minL_spec _ hm (Nat.ne_of_gt h0)
  exact ⟨h.2, Nat.pos_of_ne_zero h.1⟩
/-- Complete lengths. -/
theorem init_whole (h15 : ∀ x ∈ l, x ≤ 15) (hw : roomL l = 0) : initH l = (true, tabL l) ∧ TabF (tabL l) l ∧ Whole l := by
  have hr := roomL_en l h15
  have he : enL l 15 = 32768 := by omega
  have h1 := en15 h15
  have hm15 := maxL_le h15
  have hm0 : maxL l ≠ 0 := fun h => by
    have := roomL_zero (maxL_zero h); omega
  have hc : enL l (maxL l) = 2 ^ maxL l := by
    have h2 : (2 : Nat) ^ maxL l * 2 ^ (15 - maxL l) = 32768 := by rw [← Nat.pow_add, show maxL l + (15 - maxL l) = 15 by omega]
    exact Nat.eq_of_mul_eq_mul_right (Nat.two_pow_pos (15 - maxL l)) (by omega)
  refine ⟨?_, ⟨h15, Nat.le_of_eq he, tabL_tab h15 (.inl hc), minL_le h15, .inl he⟩, he⟩
  unfold initH
  rw [if_neg hm0, if_pos (.inl hc)]
/-- Too many codes. -/
theorem init_over (h15 : ∀ x ∈ l, x ≤ 15) (hw : roomL l < 0) : (initH l).1 = false := by
  have hr := roomL_en l h15
  have h1 := en15 h15
  have hm15 := maxL_le h15
  have hm0 : maxL l ≠ 0 := fun h => by
    have := roomL_zero (maxL_zero h); omega
  unfold initH
  rw [if_neg hm0, if_neg]
  rintro (h | ⟨h, h2⟩)
  · rw [h, ← Nat.pow_add, show maxL l + (15 - maxL l) = 15 by omega] at h1
    omega
  · rw [h, h2] at h1
    omega
/-- No code at all. -/
theorem init_none (h : usedL l = 0) : initH l = (true, hd0) := by
  unfold initH
  rw [if_pos (maxL_of_zero (usedL_zero h))]
theorem usedL_of_zero : ∀ {l : List Nat}, (∀ x ∈ l, x = 0) → usedL l = 0 := by
  intro l
  induction l with
  | nil => intro _; rfl
  | cons y l ih =>
    intro h
    rw [usedL, ih fun x hx => h x (List.mem_cons_of_mem _ hx), h y (List.mem_cons_self ..)]
    rfl
/-- One code of one bit. -/
theorem init_one (hu : usedL l = 1) (hr : roomL l = 16384) : initH l = (true, tabL l) ∧ TabF (tabL l) l := by
  obtain ⟨v, hv⟩ := book_one hu hr
  obtain ⟨x, h0, hx, hy⟩ := used_one l hu
  have h2 : ((2 ^ (15 - x) : Nat) : Int) = 2 ^ (15 - x) := by simp
  obtain rfl : x = 1 := pow_inj15 h0 (by omega)
  have h1 : ∀ y ∈ l, y ≤ 1 := fun y h => by rcases hy y h with q | q <;> omega
  have h15 : ∀ y ∈ l, y ≤ 15 := fun y h => Nat.le_trans (h1 y h) (by decide)
  have hm1 : maxL l = 1 := by
    have := maxL_le h1
    rcases Nat.eq_zero_or_pos (maxL l) with q | q
    · have := usedL_of_zero (maxL_zero q); omega
    · omega
  have he := roomL_en l h15
  have h3 := en15 h15
  rw [hm1] at h3
  have he1 : enL l 1 = 1 := by
    have e : (2 : Nat) ^ (15 - 1) = 16384 := rfl
    rw [e] at h3; omega
  refine ⟨?_, ⟨h15, by omega, tabL_tab h15 (.inr ⟨by rw [hm1]; exact he1, hm1⟩), minL_le h15, .inr ⟨⟨fun i hi h0 => ?_, by rw [hv]; exact (show 1 < 2 by decide)⟩, ?_⟩⟩⟩
  · unfold initH
    rw [if_neg (by omega), if_pos (.inr ⟨by rw [hm1]; exact he1, hm1⟩)]
  · have hm : l.getD i 0 ∈ l := by rw [List.getD_eq_getElem?_getD, List.getElem?_eq_getElem hi]; exact List.getElem_mem hi
    have hl1 : l.getD i 0 = 1 := by have := h1 _ hm; omega
    have hlt := cdL_lt l i hi h0
    rw [hl1, he1] at hlt
    exact ⟨hl1, by omega⟩
  · have : ∃ i, i < l.length ∧ 0 < l.getD i 0 := by
      apply Classical.byContradiction
      intro hno
      have hz : ∀ x ∈ l, x = 0 := fun x hx => by
        obtain ⟨i, hi, rfl⟩ := List.getElem_of_mem hx
        rcases Nat.eq_zero_or_pos l[i] with q | q
        · exact q
        · exact absurd ⟨i, hi, by rw [List.getD_eq_getElem?_getD, List.getElem?_eq_getElem hi]; exact q⟩ hno
      have := usedL_of_zero hz; omega
    obtain ⟨i, hi, h0⟩ := this
    exact (minL_get hi h0).2
/-- A table's least length may be raised. -/
theorem TabF.raise {h : HD} (T : TabF h l) (hw : Whole l) {m : Nat} (hm : m ≤ 15) : TabF { h with min := m } l :=
  ⟨T.h15, T.room, ⟨fun i b h1 h2 h3 => T.tab.hit i b h1 h2 h3, fun b h1 => T.tab.miss b h1⟩, hm, .inl hw⟩
variable {E : Errs} {src D : List Nat} {FR : Nat × List Nat × Int} {s : DS}
theorem wholeE_end {e : Int} (h : 0 ≤ e) (l : List Nat) : wholeE e l = e := by
  unfold wholeE stopE
  split
  · rw [if_neg (by omega)]
  · split
    · rw [if_neg (by omega)]
    · rfl
theorem distE_end {e : Int} (h : 0 ≤ e) (l : List Nat) : distE e l = e := by
  unfold distE
  split
  · exact wholeE_end h l
  · rfl
/-- The tables of a block's codes, made of the lengths told. -/
theorem rhEnd_sim (live : Live FR.2.2) {b : Bool} {nl nd p : Nat} {out : List Nat} (hnl257 : 257 ≤ nl) (hb : BitsOK s) (hK : KF src D FR b (dynTail src D nl out (s.bits.take (nl + nd), p, -1))) :
    ((rhEnd nl nd s).1 = .nilIface ∧ CB (s.bits.take nl) ((s.bits.drop nl).take nd) (rhEnd nl nd s).2.h1 (some (rhEnd nl nd s).2.h2) ∧ KC src D FR b (s.bits.take nl) ((s.bits.drop nl).take nd) p out ∧ ∃ h1 h2, (rhEnd nl nd s).2 = { s with h1 := h1, h2 := h2 }) ∨
      ((∃ r, (rhEnd nl nd s).1 = corV r) ∧ FR.2 = (out, 2)) := by
  have e1 : (s.bits.take (nl + nd)).take nl = s.bits.take nl := by rw [List.take_take, Nat.min_eq_left (Nat.le_add_right nl nd)]
  have e2 : (s.bits.take (nl + nd)).drop nl = (s.bits.drop nl).take nd := by rw [List.drop_take, Nat.add_sub_cancel_left]
  have hl15 : ∀ x ∈ s.bits.take nl, x ≤ 15 := fun x hx => hb.2 x (List.mem_of_mem_take hx)
  have hd15 : ∀ x ∈ (s.bits.drop nl).take nd, x ≤ 15 := fun x hx => hb.2 x (List.mem_of_mem_drop (List.mem_of_mem_take hx))
  unfold dynTail at hK
  simp only [] at hK
  rw [if_pos (show (-1 : Int) < 0 by decide), e1, e2] at hK
  unfold codedS at hK
  have off : ∀ e : Int, 0 ≤ e → KF src D FR b (codedGo (bookL (s.bits.take nl)) (bookL ((s.bits.drop nl).take nd)) (usedL ((s.bits.drop nl).take nd)) src D (8 * src.length + 1) p out e) → FR.2 = (out, e) := fun e he h => by
    rw [codedGo_off _ (by omega)] at h
    exact h.bad' rfl he
  have dd : ∀ e : Int, e = 0 → FR.2 = (out, e) → False := fun e he h => by
    rw [h] at live; unfold Live at live; simp only [] at live; omega
  by_cases h256 : (s.bits.take (nl + nd)).getD 256 0 = 0
  · rw [if_pos h256] at hK
    have e3 : stopE (-1) 0 = 0 := rfl
    rw [e3, wholeE_end (by decide), distE_end (by decide)] at hK
    exact (dd 0 rfl (off 0 (by decide) hK)).elim
  · rw [if_neg h256] at hK
    rcases Int.lt_trichotomy (roomL (s.bits.take nl)) 0 with q | q | q
    · have e3 : wholeE (-1) (s.bits.take nl) = 2 := by unfold wholeE; rw [if_pos q]; rfl
      rw [e3, distE_end (by decide)] at hK
      right
      refine ⟨⟨s.ro, ?_⟩, off 2 (by decide) hK⟩
      unfold rhEnd
      rw [if_neg (by rw [init_over hl15 q]; decide)]
    · have e3 : wholeE (-1) (s.bits.take nl) = -1 := by unfold wholeE; rw [if_neg (by omega), if_neg (by omega)]
      rw [e3] at hK
      obtain ⟨i1, i2, i3⟩ := init_whole hl15 q
      -- the end of block's length
      by_cases hnl : 256 < nl
      · have h256b : (s.bits.take nl).getD 256 0 = s.bits.getD 256 0 := by
          rw [List.getD_eq_getElem?_getD, List.getElem?_take, if_pos hnl, ← List.getD_eq_getElem?_getD]
        have h256c : (s.bits.take (nl + nd)).getD 256 0 = s.bits.getD 256 0 := by
          rw [List.getD_eq_getElem?_getD, List.getElem?_take, if_pos (by omega), ← List.getD_eq_getElem?_getD]
        have hpos : 0 < (s.bits.take nl).getD 256 0 := by rw [h256b, ← h256c]; omega
        have hlen : 256 < (s.bits.take nl).length := by
          apply Classical.byContradiction
          intro hno
          rw [List.getD_eq_getElem?_getD, List.getElem?_eq_none (by omega)] at hpos
          exact absurd hpos (by decide)
        have hmin := (minL_get hlen hpos).1
        have he15 : (s.bits.take nl).getD 256 0 ≤ 15 := hl15 _ (by rw [List.getD_eq_getElem?_getD, List.getElem?_eq_getElem hlen]; exact List.getElem_mem hlen)
        have hmx : Nat.max (tabL (s.bits.take nl)).min (s.bits.getD 256 0) = (s.bits.take nl).getD 256 0 := by
          rw [← h256b, tabL_min]; exact Nat.max_eq_right hmin
        have good : ∀ h, initH ((s.bits.drop nl).take nd) = (true, h) → (usedL ((s.bits.drop nl).take nd) = 0 ∨ (TabF h ((s.bits.drop nl).take nd) ∧ ∀ i, i < ((s.bits.drop nl).take nd).length → 0 < ((s.bits.drop nl).take nd).getD i 0 → h.min ≤ ((s.bits.drop nl).take nd).getD i 0)) →
            KC src D FR b (s.bits.take nl) ((s.bits.drop nl).take nd) p out →
            ((rhEnd nl nd s).1 = .nilIface ∧ CB (s.bits.take nl) ((s.bits.drop nl).take nd) (rhEnd nl nd s).2.h1 (some (rhEnd nl nd s).2.h2) ∧ KC src D FR b (s.bits.take nl) ((s.bits.drop nl).take nd) p out ∧ ∃ h1 h2, (rhEnd nl nd s).2 = { s with h1 := h1, h2 := h2 }) := by
          intro h hi hd hk
          have er : rhEnd nl nd s = (.nilIface, { s with h1 := { tabL (s.bits.take nl) with min := (s.bits.take nl).getD 256 0 }, h2 := h }) := by
            unfold rhEnd
            rw [i1, hi]
            simp only [if_true]
            rw [hmx]
          rw [er]
          exact ⟨rfl, ⟨i2.raise i3 he15, i3, hpos, Nat.le_refl _, .inr ⟨h, rfl, hd⟩⟩, hk, _, _, rfl⟩
        have hkc : distE (-1) ((s.bits.drop nl).take nd) = -1 → KC src D FR b (s.bits.take nl) ((s.bits.drop nl).take nd) p out := fun e => by
          rw [e] at hK; exact ⟨8 * src.length + 1, by omega, hK⟩
        generalize hdl : (s.bits.drop nl).take nd = ds at *
        by_cases hcase : 1 < usedL ds ∨ (usedL ds = 1 ∧ roomL ds ≠ 16384)
        · have e4 : distE (-1) ds = wholeE (-1) ds := if_pos hcase
          rcases Int.lt_trichotomy (roomL ds) 0 with q2 | q2 | q2
          · have e5 : wholeE (-1) ds = 2 := by unfold wholeE; rw [if_pos q2]; rfl
            rw [e4, e5] at hK
            right
            refine ⟨⟨s.ro, ?_⟩, off 2 (by decide) hK⟩
            unfold rhEnd
            rw [i1, hdl]
            simp only [if_true]
            rw [if_neg (by rw [init_over hd15 q2]; decide)]
          · have e5 : wholeE (-1) ds = -1 := by unfold wholeE; rw [if_neg (by omega), if_neg (by omega)]
            obtain ⟨j1, j2, -⟩ := init_whole hd15 q2
            exact .inl (good _ j1 (.inr ⟨j2, fun i hi h0 => (minL_get hi h0).1⟩) (hkc (by rw [e4, e5])))
          · have e5 : wholeE (-1) ds = 0 := by unfold wholeE; rw [if_neg (by omega), if_pos q2]; rfl
            rw [e4, e5] at hK
            exact (dd 0 rfl (off 0 (by decide) hK)).elim
        · have e4 : distE (-1) ds = -1 := if_neg hcase
          by_cases hu : usedL ds = 0
          · exact .inl (good _ (init_none hu) (.inl hu) (hkc e4))
          · have hu1 : usedL ds = 1 := by omega
            have hr1 : roomL ds = 16384 := Classical.byContradiction fun h => hcase (.inr ⟨hu1, h⟩)
            obtain ⟨j1, j2⟩ := init_one hu1 hr1
            exact .inl (good _ j1 (.inr ⟨j2, fun i hi h0 => (minL_get hi h0).1⟩) (hkc e4))
      · exact absurd hnl257 (by omega)
    · have e3 : wholeE (-1) (s.bits.take nl) = 0 := by unfold wholeE; rw [if_neg (by omega), if_pos q]; rfl
      rw [e3, distE_end (by decide)] at hK
      exact (dd 0 rfl (off 0 (by decide) hK)).elim
end
end Go.Proofs.YtbbnibbdiiffkaaDoor

/- The decoder against the reference: the lengths of a block's codes. -/
namespace Go.Proofs.YtbbnibbdiiffkaaDoor
open Go.RowKit

section
variable {E : Errs} {src D : List Nat} {FR : Nat × List Nat × Int} {s : DS}
theorem take_set (l : List Nat) (i x : Nat) (h : i < l.length) : (l.set i x).take (i + 1) = l.take i ++ [x] := by
  apply List.ext_getElem?
  intro j
  rw [List.getElem?_take]
  rcases Nat.lt_trichotomy j i with q | q | q
  · rw [if_pos (by omega), List.getElem?_set_ne (by omega), List.getElem?_append_left (by rw [List.length_take]; omega), List.getElem?_take, if_pos q]
  · subst q
    rw [if_pos (by omega), List.getElem?_set_self h, List.getElem?_append_right (by rw [List.length_take]; omega), List.length_take, Nat.min_eq_left (Nat.le_of_lt h), Nat.sub_self]
    rfl
  · rw [if_neg (by omega), List.getElem?_eq_none (by rw [List.length_append, List.length_take, List.length_singleton]; omega)]
theorem take_fill (l : List Nat) (i v : Nat) : ∀ r, i + r ≤ l.length → (fillR l i v r).take (i + r) = l.take i ++ List.replicate r v := by
  intro r
  induction r with
  | zero => intro _; rw [List.replicate_zero, List.append_nil]; rfl
  | succ r ih =>
    intro h
    rw [fillR, ← Nat.add_assoc, take_set _ _ _ (by rw [fillR_len]; omega), ih (by omega), List.replicate_succ', List.append_assoc]
/-- A place in a block's head. -/
structure Ah (src : List Nat) (s : DS) (p : Nat) : Prop where
  bits : Bits src p s.k s.b s.nb
  ple : p ≤ 8 * src.length
  nb : s.nb ≤ 7
/-- What the reading of a block's codes comes to. -/
def HeadR (E : Errs) (src D : List Nat) (FR : Nat × List Nat × Int) (b : Bool) (out : List Nat) (R : Value × DS) : Prop :=
  (R.1 = .nilIface ∧ ∃ lit dist p, CB lit dist R.2.h1 (some R.2.h2) ∧ KC src D FR b lit dist p out ∧ Ah src R.2 p) ∨ (R.1 = E.uneV ∧ FR.2 = (out, 3)) ∨ ((∃ r, R.1 = corV r) ∧ FR.2 = (out, 2))
theorem dynTail_bad {b : Bool} {nl : Nat} {out : List Nat} {t : List Nat × Nat × Int} (hK : KF src D FR b (dynTail src D nl out t)) (h : 0 ≤ t.2.2) : FR.2 = (out, t.2.2) := by
  unfold dynTail at hK
  rw [if_neg (by omega)] at hK
  exact hK.bad' rfl h
theorem toldGo_stop {M : List (Nat × Nat)} {many : Nat} {l : List Nat} {p : Nat} {e : Int} (f : Nat) (h : ¬ (l.length < many ∧ e < 0)) : toldGo M src many f l p e = (l, p, e) := by
  cases f with
  | zero => rfl
  | succ f => rw [toldGo, if_neg h]
variable (live : Live FR.2.2) (hby : ∀ x ∈ src, x < 256)
include live hby in
theorem rhSyms_sim {gl : List Nat} {b : Bool} {nl nd : Nat} {out : List Nat} (hn1 : 257 ≤ nl) (hn2 : nl + nd ≤ 316) (hgl : gl.length = 19) : ∀ g f i (s : DS) p, TabF s.h1 gl → (∀ j, j < gl.length → 0 < gl.getD j 0 → s.h1.min ≤ gl.getD j 0) → BitsOK s → Ah src s p → i ≤ nl + nd → nl + nd < i + g → nl + nd < i + f →
    KF src D FR b (dynTail src D nl out (toldGo (bookL gl) src (nl + nd) f (s.bits.take i) p (-1))) → HeadR E src D FR b out (rhSyms E src nl nd g i s) := by
  intro g
  induction g with
  | zero => intro f i s p hT hmn hB hA hi hg; omega
  | succ g ih =>
    intro f i s p hT hmn hB hA hi hg hf hK
    have hlen : (s.bits.take i).length = i := by rw [List.length_take, hB.1]; omega
    rw [rhSyms]
    by_cases hlt : i < nl + nd
    · rw [if_pos hlt]
      obtain ⟨f, rfl⟩ : ∃ f', f = f' + 1 := ⟨f - 1, by omega⟩
      rw [toldGo, if_pos ⟨by rw [hlen]; exact hlt, by decide⟩] at hK
      simp only [] at hK
      unfold rhStep
      rcases sym_sim hby hT hA.bits hA.ple _ rfl with ⟨e, hok, hq⟩ | ⟨e, k', b', nb', hq⟩ | e
      · generalize symS (bookL gl) src p (-1) = t at *
        obtain ⟨x, q, et⟩ := t
        simp only [] at e hok hq
        subst e
        have hpos := hok.pos
        have hle := hok.le
        have hat := hok.at_
        have hx19 : x < 19 := by rw [← hgl]; exact hok.lt
        have hm := hmn x hok.lt hpos
        have hnb := hA.nb
        rw [if_pos (show (-1 : Int) < 0 by decide)] at hK
        rcases hq with ⟨k', nb', hq, hBt, hnb'⟩ | ⟨hq, -⟩
        · rw [hq]
          simp only []
          obtain ⟨s1, hs1⟩ : ∃ s1, s1 = (HR.sym x k' (leL src q nb') nb').st s := ⟨_, rfl⟩
          rw [← hs1]
          have f1 : s1.bits = s.bits ∧ s1.h1 = s.h1 ∧ s1.k = k' ∧ s1.b = leL src q nb' ∧ s1.nb = nb' := by rw [hs1]; exact ⟨rfl, rfl, rfl, rfl, rfl⟩
          obtain ⟨f1, f2, f3, f4, f5⟩ := f1
          have hA1 : Ah src s1 q := ⟨by rw [f3, f4, f5]; exact hBt, hle, by rw [f5]; omega⟩
          have hB1 : BitsOK s1 := by unfold BitsOK; rw [f1]; exact hB
          have hil : i < s1.bits.length := by rw [f1, hB.1]; omega
          unfold rhX
          by_cases h16 : x < 16
          · rw [if_pos h16]
            rw [if_neg (fun h => by omega)] at hK
            have er : repS src (s.bits.take i) x q (-1) = (1, x, q, -1) := by unfold repS; rw [if_neg (by omega), if_neg (by omega), if_neg (by omega)]
            rw [er] at hK
            simp only [] at hK
            have em : manyE (-1) ((s.bits.take i).length + 1) (nl + nd) = -1 := if_neg (fun h => by rw [hlen] at h; omega)
            rw [em] at hK
            have et : (s1.bits.set i x).take (i + 1) = s.bits.take i ++ List.replicate 1 x := by rw [take_set _ _ _ hil, f1]; rfl
            rw [← et] at hK
            refine ih f (i + 1) { s1 with bits := s1.bits.set i x } q (by rw [f2]; exact hT) (by rw [f2]; exact hmn) ⟨by show (s1.bits.set i x).length = 316; rw [List.length_set, f1]; exact hB.1, mem_set_le hB1.2 (by omega)⟩ ⟨hA1.bits, hA1.ple, hA1.nb⟩ (by omega) (by omega) (by omega) hK
          · rw [if_neg h16]
            by_cases h0 : x = 16 ∧ i = 0
            · rw [if_pos h0]
              rw [if_pos ⟨h0.1, by rw [hlen]; exact h0.2⟩] at hK
              have := dynTail_bad hK (show (0 : Int) ≤ 2 by decide)
              exact .inr (.inr ⟨⟨s1.ro, rfl⟩, this⟩)
            · rw [if_neg h0]
              rw [if_neg (fun h => h0 ⟨h.1, by rw [hlen] at h; exact h.2⟩)] at hK
              obtain ⟨v, hv⟩ : ∃ v, v = (if x = 16 then s1.bits.getD (i - 1) 0 else 0) := ⟨_, rfl⟩
              have hv15 : v ≤ 15 := by
                rw [hv]
                split
                · rw [List.getD_eq_getElem?_getD, List.getElem?_eq_getElem (show i - 1 < s1.bits.length by omega)]
                  exact hB1.2 _ (List.getElem_mem _)
                · exact Nat.zero_le _
              rw [← hv]
              obtain ⟨ex, hex⟩ : ∃ ex, ex = exN x := ⟨_, rfl⟩
              obtain ⟨rp, hrp⟩ : ∃ rp, rp = rpN x := ⟨_, rfl⟩
              have hex32 : ex ≤ 32 := by rw [hex]; unfold exN; split <;> first | decide | (split <;> decide)
              have er : repS src (s.bits.take i) x q (-1) = (rp + (bitsAt src q (-1) ex).1, v, (bitsAt src q (-1) ex).2.1, (bitsAt src q (-1) ex).2.2) := by
                have hxx : x = 16 ∨ x = 17 ∨ x = 18 := by omega
                rcases hxx with rfl | rfl | rfl
                · have e1 : v = (s.bits.take i).getD ((s.bits.take i).length - 1) 0 := by
                    rw [hv, if_pos rfl, f1, hlen, List.getD_eq_getElem?_getD, List.getD_eq_getElem?_getD, List.getElem?_take, if_pos (by omega)]
                  rw [e1, hrp, hex]; rfl
                · have e1 : v = 0 := by rw [hv, if_neg (by decide)]
                  rw [e1, hrp, hex]; rfl
                · have e1 : v = 0 := by rw [hv, if_neg (by decide)]
                  rw [e1, hrp, hex]; rfl
              rw [er] at hK
              simp only [] at hK
              unfold rhRep
              rw [← hex, ← hrp]
              by_cases hle2 : q + ex ≤ 8 * src.length
              · obtain ⟨n1, k, ro, b2, nb, n2, n3, n4, n5, n6⟩ := need_ok hby hA1.bits hex32 hle2
                rw [if_pos n1, n4]
                rw [bitsAt_ok src q ex hle2] at hK
                simp only [] at hK
                have em2 : (need src ex 4 s1).2.b % 2 ^ ex = leL src q ex := by rw [n2]; exact n3
                rw [em2, show (need src ex 4 s1).2.bits = s1.bits by rw [n2]]
                have hrep1 : 1 ≤ rp + leL src q ex := by
                  have : 3 ≤ rp := by rw [hrp]; unfold rpN; split <;> first | decide | (split <;> decide)
                  omega
                generalize rp + leL src q ex = rep at *
                by_cases hov : nl + nd < i + rep
                · rw [if_pos hov]
                  have em : manyE (-1) ((s.bits.take i).length + rep) (nl + nd) = 2 := if_pos ⟨by decide, by rw [hlen]; exact hov⟩
                  rw [em, toldGo_stop _ (fun h => absurd h.2 (by decide))] at hK
                  have := dynTail_bad hK (show (0 : Int) ≤ 2 by decide)
                  exact .inr (.inr ⟨⟨_, rfl⟩, this⟩)
                · rw [if_neg hov]
                  have em : manyE (-1) ((s.bits.take i).length + rep) (nl + nd) = -1 := if_neg (fun h => by rw [hlen] at h; omega)
                  rw [em] at hK
                  have hrep : 1 ≤ rep := by have := hrep1; omega
                  have et : (fillR s1.bits i v rep).take (i + rep) = s.bits.take i ++ List.replicate rep v := by rw [take_fill _ _ _ _ (by rw [f1, hB.1]; omega), f1]
                  rw [← et] at hK
                  refine ih f (i + rep) { s1 with k := k, ro := ro, b := b2 / 2 ^ ex, nb := nb - ex, bits := fillR s1.bits i v rep } (q + ex) (by rw [f2]; exact hT) (by rw [f2]; exact hmn) ⟨by show (fillR s1.bits i v rep).length = 316; rw [fillR_len, f1]; exact hB.1, fillR_mem hv15 _ _ _ hB1.2⟩ ⟨n5, hle2, ?_⟩ (by omega) (by omega) (by omega) hK
                  have := hA1.nb
                  show nb - ex ≤ 7
                  omega
              · rw [if_neg (by rw [need_eof hby hA1.bits hex32 (by omega)]; decide)]
                have hs := bitsAt_short src q ex (by omega) hle
                generalize bitsAt src q (-1) ex = u at *
                obtain ⟨y1, y2, y3⟩ := u
                simp only [Prod.mk.injEq] at hs hK
                obtain ⟨rfl, rfl⟩ := hs
                have em : manyE 3 ((s.bits.take i).length + (rp + y1)) (nl + nd) = 3 := if_neg (fun h => absurd h.1 (by decide))
                rw [em, toldGo_stop _ (fun h => absurd h.2 (by decide))] at hK
                have := dynTail_bad hK (show (0 : Int) ≤ 3 by decide)
                exact .inr (.inl ⟨rfl, this⟩)
        · omega
      · rw [hq]
        generalize symS (bookL gl) src p (-1) = t at *
        obtain ⟨x, q, et⟩ := t
        simp only [] at e
        subst e
        rw [if_neg (show ¬ (3 : Int) < 0 by decide)] at hK
        have := dynTail_bad hK (show (0 : Int) ≤ 3 by decide)
        exact .inr (.inl ⟨rfl, this⟩)
      · generalize symS (bookL gl) src p (-1) = t at *
        obtain ⟨x, q, et⟩ := t
        simp only [] at e
        subst e
        rw [if_neg (show ¬ (0 : Int) < 0 by decide)] at hK
        have := dynTail_bad hK (show (0 : Int) ≤ 0 by decide)
        rw [this] at live
        unfold Live at live
        simp only [] at live
        omega
    · rw [if_neg hlt]
      obtain rfl : i = nl + nd := by omega
      rw [toldGo_stop _ (fun h => by rw [hlen] at h; omega)] at hK
      rcases rhEnd_sim live hn1 hB hK with ⟨h1, h2, h3, h4, h5, h6⟩ | ⟨h1, h2⟩
      · refine .inl ⟨h1, _, _, p, h2, h3, ?_⟩
        rw [h6]
        exact ⟨hA.bits, hA.ple, hA.nb⟩
      · exact .inr (.inr ⟨h1, h2⟩)
end
end Go.Proofs.YtbbnibbdiiffkaaDoor

/- The decoder against the reference: the head of a block with codes of its own. -/
namespace Go.Proofs.YtbbnibbdiiffkaaDoor
open Go.RowKit

theorem order_ne_all : ((List.range 19).all fun i => (List.range 19).all fun j => i == j || !(orderL.getD i 0 == orderL.getD j 0)) = true := by kernel_rfl
theorem order_ne {i j : Nat} (hi : i < 19) (hj : j < 19) (h : i ≠ j) : orderL.getD i 0 ≠ orderL.getD j 0 := by
  have h1 := List.all_eq_true.1 (List.all_eq_true.1 order_ne_all i (List.mem_range.2 hi)) j (List.mem_range.2 hj)
  intro e
  rw [e] at h1
  simp [h] at h1
theorem rhZ_comm (a x : Nat) : ∀ r i (l : List Nat), (∀ j, i ≤ j → j < i + r → orderL.getD j 0 ≠ a) → rhZ (l.set a x) r i = (rhZ l r i).set a x := by
  intro r
  induction r with
  | zero => intro i l _; rfl
  | succ r ih =>
    intro i l h
    rw [rhZ, rhZ, List.set_comm _ _ (h i (Nat.le_refl _) (by omega)).symm, ih (i + 1) _ (fun j h1 h2 => h j (by omega) (by omega))]
theorem rhZ_all (l : List Nat) (h : l.length = 19) : rhZ l 19 0 = zero19 := by
  rcases l with _ | ⟨a0, l⟩
  · exact absurd h (by simp)
  rcases l with _ | ⟨a1, l⟩
  · exact absurd h (by simp)
  rcases l with _ | ⟨a2, l⟩
  · exact absurd h (by simp)
  rcases l with _ | ⟨a3, l⟩
  · exact absurd h (by simp)
  rcases l with _ | ⟨a4, l⟩
  · exact absurd h (by simp)
  rcases l with _ | ⟨a5, l⟩
  · exact absurd h (by simp)
  rcases l with _ | ⟨a6, l⟩
  · exact absurd h (by simp)
  rcases l with _ | ⟨a7, l⟩
  · exact absurd h (by simp)
  rcases l with _ | ⟨a8, l⟩
  · exact absurd h (by simp)
  rcases l with _ | ⟨a9, l⟩
  · exact absurd h (by simp)
  rcases l with _ | ⟨a10, l⟩
  · exact absurd h (by simp)
  rcases l with _ | ⟨a11, l⟩
  · exact absurd h (by simp)
  rcases l with _ | ⟨a12, l⟩
  · exact absurd h (by simp)
  rcases l with _ | ⟨a13, l⟩
  · exact absurd h (by simp)
  rcases l with _ | ⟨a14, l⟩
  · exact absurd h (by simp)
  rcases l with _ | ⟨a15, l⟩
  · exact absurd h (by simp)
  rcases l with _ | ⟨a16, l⟩
  · exact absurd h (by simp)
  rcases l with _ | ⟨a17, l⟩
  · exact absurd h (by simp)
  rcases l with _ | ⟨a18, l⟩
  · exact absurd h (by simp)
  rcases l with _ | ⟨_, l⟩
  · kernel_rfl
  · exact absurd h (by simp)
theorem rhZ_step (l : List Nat) (i v : Nat) (hi : i < 19) : rhZ (l.set (orderL.getD i 0) v) (19 - (i + 1)) (i + 1) = (rhZ l (19 - i) i).set (orderL.getD i 0) v := by
  have e : 19 - i = (19 - (i + 1)) + 1 := by omega
  have hd : ∀ j, i + 1 ≤ j → j < i + 1 + (19 - (i + 1)) → orderL.getD j 0 ≠ orderL.getD i 0 := fun j h1 h2 => order_ne (by omega) hi (by omega)
  rw [e, rhZ, rhZ_comm _ _ _ _ _ hd, rhZ_comm _ _ _ _ _ hd, List.set_set]
section
variable {E : Errs} {src D : List Nat} {FR : Nat × List Nat × Int} {s : DS}
theorem lenGo_stay (p : Nat) {e : Int} {k : Nat} (h : (lenGo src p e k).2.2 = 3) : ∀ m, (lenGo src p e (k + m)).2.2 = 3 := by
  intro m
  induction m with
  | zero => exact h
  | succ m ih =>
    rw [← Nat.add_assoc, lenGo]
    simp only []
    rw [ih, bitsAt_off _ _ (show ¬ (3 : Int) < 0 by decide)]
theorem lenGo_small (p : Nat) (e : Int) : ∀ k, ∀ x ∈ (lenGo src p e k).1, x ≤ 15 := by
  intro k
  induction k with
  | zero =>
    intro x hx
    have : x ∈ zero19 := hx
    unfold zero19 at this
    rw [(List.mem_replicate.1 this).2]; exact Nat.zero_le _
  | succ k ih =>
    rw [lenGo]
    refine mem_set_le ih ?_
    have := bitsAt_lt src (lenGo src p e k).2.1 (lenGo src p e k).2.2 3
    omega
theorem lenGo_l19 (p : Nat) (e : Int) : ∀ k, (lenGo src p e k).1.length = 19 := by
  intro k
  induction k with
  | zero => rfl
  | succ k ih => rw [lenGo, List.length_set]; exact ih
variable (live : Live FR.2.2) (hby : ∀ x ∈ src, x < 256)
include live hby in
theorem rhTab_sim {b : Bool} {nl nd p : Nat} {out gl : List Nat} (hn1 : 257 ≤ nl) (hn2 : nl + nd ≤ 316) (hgl : gl.length = 19) (h15 : ∀ x ∈ gl, x ≤ 15) (hB : BitsOK s) (hA : Ah src s p) (hcb : s.cb = gl)
    (hK : KF src D FR b (dynTail src D nl out (toldS (bookL gl) src (nl + nd) p (wholeE (-1) gl)))) : HeadR E src D FR b out (rhTab E src nl nd s) := by
  unfold rhTab
  subst hcb
  unfold toldS at hK
  rcases Int.lt_trichotomy (roomL s.cb) 0 with q | q | q
  · have e3 : wholeE (-1) s.cb = 2 := by unfold wholeE; rw [if_pos q]; rfl
    rw [e3, toldGo_stop _ (fun h => absurd h.2 (by decide))] at hK
    rw [if_neg (by rw [init_over h15 q]; decide)]
    exact .inr (.inr ⟨⟨_, rfl⟩, dynTail_bad hK (show (0 : Int) ≤ 2 by decide)⟩)
  · have e3 : wholeE (-1) s.cb = -1 := by unfold wholeE; rw [if_neg (by omega), if_neg (by omega)]
    rw [e3] at hK
    obtain ⟨i1, i2, -⟩ := init_whole h15 q
    rw [i1]
    show HeadR E src D FR b out (rhSyms E src nl nd (nl + nd + 1) 0 { s with h1 := tabL s.cb })
    have e0 : (s.bits.take 0) = [] := List.take_zero
    rw [← e0] at hK
    exact rhSyms_sim live hby hn1 hn2 hgl (nl + nd + 1) (nl + nd + 1) 0 { s with h1 := tabL s.cb } p i2 (fun j hj h0 => (minL_get hj h0).1) hB ⟨hA.bits, hA.ple, hA.nb⟩ (Nat.zero_le _) (by omega) (by omega) hK
  · have e3 : wholeE (-1) s.cb = 0 := by unfold wholeE; rw [if_neg (by omega), if_pos q]; rfl
    rw [e3, toldGo_stop _ (fun h => absurd h.2 (by decide))] at hK
    have := dynTail_bad hK (show (0 : Int) ≤ 0 by decide)
    rw [this] at live
    unfold Live at live
    simp only [] at live
    omega
include live hby in
theorem rhCb_sim {b : Bool} {nl nd nc p0 : Nat} {out : List Nat} (hn1 : 257 ≤ nl) (hn2 : nl + nd ≤ 316) (hnc : nc ≤ 19) : ∀ r i (s : DS) p, i + r = nc → BitsOK s → s.cb.length = 19 → Ah src s p → rhZ s.cb (19 - i) i = (lenGo src p0 (-1) i).1 → (lenGo src p0 (-1) i).2 = (p, -1) →
    KF src D FR b (dynTail src D nl out (toldS (bookL (lenGo src p0 (-1) nc).1) src (nl + nd) (lenGo src p0 (-1) nc).2.1 (if (lenGo src p0 (-1) nc).2.2 < 0 then wholeE (lenGo src p0 (-1) nc).2.2 (lenGo src p0 (-1) nc).1 else (lenGo src p0 (-1) nc).2.2))) →
    HeadR E src D FR b out (rhCb E src nl nd nc r i s) := by
  intro r
  induction r with
  | zero =>
    intro i s p hi hB hl hA hz hg hK
    obtain rfl : i = nc := by omega
    rw [rhCb]
    have e1 : (lenGo src p0 (-1) i).2.2 = -1 := by rw [hg]
    have e2 : (lenGo src p0 (-1) i).2.1 = p := by rw [hg]
    rw [e1, e2, if_pos (by decide)] at hK
    exact rhTab_sim (s := { s with cb := rhZ s.cb (19 - i) i }) live hby hn1 hn2 (lenGo_l19 _ _ _) (lenGo_small _ _ _) hB ⟨hA.bits, hA.ple, hA.nb⟩ hz hK
  | succ r ih =>
    intro i s p hi hB hl hA hz hg hK
    rw [rhCb]
    have e1 : (lenGo src p0 (-1) i).2.2 = -1 := by rw [hg]
    have e2 : (lenGo src p0 (-1) i).2.1 = p := by rw [hg]
    by_cases hle : p + 3 ≤ 8 * src.length
    · obtain ⟨n1, k, ro, b2, nb, n2, n3, n4, n5, n6⟩ := need_ok hby hA.bits (show 3 ≤ 32 by decide) hle
      rw [if_pos n1, n4]
      have ev : (need src 3 4 s).2.b % 8 = leL src p 3 := by rw [n2]; exact n3
      rw [ev]
      have hstep : lenGo src p0 (-1) (i + 1) = ((lenGo src p0 (-1) i).1.set (orderL.getD i 0) (leL src p 3), p + 3, -1) := by
        rw [lenGo, e1, e2, bitsAt_ok src p 3 hle]
      refine ih (i + 1) { s with k := k, ro := ro, b := b2 / 2 ^ 3, nb := nb - 3, cb := s.cb.set (orderL.getD i 0) (leL src p 3) } (p + 3) (by omega) hB (by show (s.cb.set _ _).length = 19; rw [List.length_set]; exact hl) ⟨n5, hle, ?_⟩ ?_ (by rw [hstep]) hK
      · have := hA.nb
        show nb - 3 ≤ 7
        omega
      · show rhZ (s.cb.set (orderL.getD i 0) (leL src p 3)) (19 - (i + 1)) (i + 1) = _
        rw [rhZ_step _ _ _ (by omega), hz, hstep]
    · rw [if_neg (by rw [need_eof hby hA.bits (show 3 ≤ 32 by decide) (by omega)]; decide)]
      have hs := bitsAt_short src p 3 (by omega) hA.ple
      have h3 : (lenGo src p0 (-1) (i + 1)).2.2 = 3 := by
        rw [lenGo, e1, e2]
        simp only []
        rw [hs]
      have h4 := lenGo_stay p0 h3 r
      rw [show i + 1 + r = nc by omega] at h4
      rw [h4, if_neg (by decide)] at hK
      unfold toldS at hK
      rw [toldGo_stop _ (fun h => absurd h.2 (by decide))] at hK
      exact .inr (.inl ⟨rfl, dynTail_bad hK (show (0 : Int) ≤ 3 by decide)⟩)
/-- The rest of a block's head in the reference. -/
def dynRest (src D : List Nat) (out : List Nat) (lits dists p n : Nat) (e : Int) : Nat × List Nat × Int :=
  dynTail src D lits out (toldS (bookL (lenGo src p e n).1) src (lits + dists) (lenGo src p e n).2.1 (if (lenGo src p e n).2.2 < 0 then wholeE (lenGo src p e n).2.2 (lenGo src p e n).1 else (lenGo src p e n).2.2))
theorem dynS_rest (src D : List Nat) (p : Nat) (out : List Nat) (e : Int) : dynS src D p out e = dynRest src D out (257 + (bitsAt src p e 5).1) (1 + (bitsAt src (bitsAt src p e 5).2.1 (bitsAt src p e 5).2.2 5).1)
    (bitsAt src (bitsAt src (bitsAt src p e 5).2.1 (bitsAt src p e 5).2.2 5).2.1 (bitsAt src (bitsAt src p e 5).2.1 (bitsAt src p e 5).2.2 5).2.2 4).2.1
    (4 + (bitsAt src (bitsAt src (bitsAt src p e 5).2.1 (bitsAt src p e 5).2.2 5).2.1 (bitsAt src (bitsAt src p e 5).2.1 (bitsAt src p e 5).2.2 5).2.2 4).1)
    (headE (bitsAt src (bitsAt src (bitsAt src p e 5).2.1 (bitsAt src p e 5).2.2 5).2.1 (bitsAt src (bitsAt src p e 5).2.1 (bitsAt src p e 5).2.2 5).2.2 4).2.2 (257 + (bitsAt src p e 5).1) (1 + (bitsAt src (bitsAt src p e 5).2.1 (bitsAt src p e 5).2.2 5).1)) := rfl
theorem dynRest_off {b : Bool} {out : List Nat} {lits dists p n : Nat} {e : Int} (h : KF src D FR b (dynRest src D out lits dists p n e)) (he : 0 ≤ e) : FR.2 = (out, e) := by
  unfold dynRest at h
  have e1 := lenGo_off src p (show ¬ e < 0 by omega) n
  have e2 : (lenGo src p e n).2.2 = e := by rw [e1]
  rw [e2, if_neg (by omega)] at h
  unfold toldS at h
  rw [toldGo_stop _ (fun q => by omega)] at h
  exact dynTail_bad h he
include live hby in
theorem rhS_sim {b : Bool} {p : Nat} {out : List Nat} (hB : BitsOK s) (hcl : s.cb.length = 19) (hA : Ah src s p) (hK : KF src D FR b (dynS src D p out (-1))) : HeadR E src D FR b out (rhS E src s) := by
  rw [dynS_rest] at hK
  have h3 : ∀ x y, headE 3 x y = 3 := fun x y => if_neg (fun h => absurd h.1 (by decide))
  have hd3 : FR.2 = (out, 3) → HeadR E src D FR b out (E.uneV, (need src 14 4 s).2) := fun h => .inr (.inl ⟨rfl, h⟩)
  unfold rhS
  by_cases hle : p + 14 ≤ 8 * src.length
  · obtain ⟨n1, k, ro, b2, nb, n2, n3, n4, n5, n6⟩ := need_ok hby hA.bits (show 14 ≤ 32 by decide) hle
    obtain ⟨e0, k0, ro0, b0, nb0, q1, q2, q3, q4, q5⟩ := need_bits hby p 14 4 s hA.bits (by omega)
    rw [if_pos n1]
    have hnb14 : 14 ≤ nb0 := q3 (by rw [q1] at n1; exact n1)
    rw [q1] at n2 n4 ⊢
    simp only [] at n2 n4 ⊢
    have w1 := q2.low (show 5 ≤ nb0 by omega)
    have t1 := q2.take (show 5 ≤ nb0 by omega)
    have w2 := t1.low (show 5 ≤ nb0 - 5 by omega)
    have t2 := t1.take (show 5 ≤ nb0 - 5 by omega)
    have w3 := t2.low (show 4 ≤ nb0 - 5 - 5 by omega)
    have t3 := t2.take (show 4 ≤ nb0 - 5 - 5 by omega)
    rw [bitsAt_ok src p 5 (by omega)] at hK
    simp only [] at hK
    rw [bitsAt_ok src (p + 5) 5 (by omega)] at hK
    simp only [] at hK
    rw [bitsAt_ok src (p + 5 + 5) 4 (by omega)] at hK
    simp only [] at hK
    have w1 : b0 % 32 = leL src p 5 := w1
    have w2 : b0 / 32 % 32 = leL src (p + 5) 5 := w2
    have w3 : b0 / 32 / 32 % 16 = leL src (p + 5 + 5) 4 := w3
    have hx1 := leL_lt src p 5
    have hx2 := leL_lt src (p + 5) 5
    have hx3 := leL_lt src (p + 5 + 5) 4
    have hx3 : leL src (p + 5 + 5) 4 < 16 := hx3
    unfold rh1 rh2 rh3
    simp only []
    rw [w1, w2, w3]
    have dead0 : headE (-1) (257 + leL src p 5) (1 + leL src (p + 5) 5) = 0 → False := fun h => by
      rw [h] at hK
      have := dynRest_off hK (show (0 : Int) ≤ 0 by decide)
      rw [this] at live
      unfold Live at live
      simp only [] at live
      omega
    by_cases h1 : 286 < leL src p 5 + 257
    · exact (dead0 (if_pos ⟨by decide, .inl (by omega)⟩)).elim
    · rw [if_neg h1]
      by_cases h2 : 30 < leL src (p + 5) 5 + 1
      · exact (dead0 (if_pos ⟨by decide, .inr (by omega)⟩)).elim
      · rw [if_neg h2]
        have he : headE (-1) (257 + leL src p 5) (1 + leL src (p + 5) 5) = -1 := if_neg (fun h => by omega)
        rw [he, Nat.add_comm 257, Nat.add_comm 1 (leL src (p + 5) 5), Nat.add_comm 4 (leL src (p + 5 + 5) 4)] at hK
        refine rhCb_sim (p0 := p + 5 + 5 + 4) live hby (by omega) (by omega) (by omega) (leL src (p + 5 + 5) 4 + 4) 0 { s with k := k0, ro := ro0, b := b0 / 32 / 32 / 16, nb := nb0 - 14 } (p + 5 + 5 + 4) (Nat.zero_add _) hB hcl ⟨?_, by omega, ?_⟩ (rhZ_all _ hcl) rfl hK
        · have e : nb0 - 5 - 5 - 4 = nb0 - 14 := by omega
          rw [e] at t3
          exact t3
        · have := hA.nb
          show nb0 - 14 ≤ 7
          omega
  · rw [if_neg (by rw [need_eof hby hA.bits (show 14 ≤ 32 by decide) (by omega)]; decide)]
    refine hd3 ?_
    have hpl := hA.ple
    by_cases h5 : p + 5 ≤ 8 * src.length
    · rw [bitsAt_ok src p 5 h5] at hK
      simp only [] at hK
      by_cases h10 : p + 5 + 5 ≤ 8 * src.length
      · rw [bitsAt_ok src (p + 5) 5 h10] at hK
        simp only [] at hK
        have hs := bitsAt_short src (p + 5 + 5) 4 (by omega) h10
        have hs2 : (bitsAt src (p + 5 + 5) (-1) 4).2.2 = 3 := by rw [hs]
        rw [hs2, h3] at hK
        exact dynRest_off hK (show (0 : Int) ≤ 3 by decide)
      · have hs := bitsAt_short src (p + 5) 5 (by omega) h5
        have hs2 : (bitsAt src (p + 5) (-1) 5).2.2 = 3 := by rw [hs]
        rw [hs2, bitsAt_off _ _ (show ¬ (3 : Int) < 0 by decide) 4, h3] at hK
        exact dynRest_off hK (show (0 : Int) ≤ 3 by decide)
    · have hs := bitsAt_short src p 5 (by omega) hpl
      have hs2 : (bitsAt src p (-1) 5).2.2 = 3 := by rw [hs]
      rw [hs2, bitsAt_off _ _ (show ¬ (3 : Int) < 0 by decide) 5, bitsAt_off _ _ (show ¬ (3 : Int) < 0 by decide) 4, h3] at hK
      exact dynRest_off hK (show (0 : Int) ≤ 3 by decide)
end
end Go.Proofs.YtbbnibbdiiffkaaDoor

/- The decoder against the reference: the next block. -/
namespace Go.Proofs.YtbbnibbdiiffkaaDoor
open Go.RowKit

theorem fix_one : fixLit.getD 256 0 = 7 ∧ roomL fixLit = 0 := by refine ⟨by kernel_rfl, by kernel_rfl⟩
set_option maxRecDepth 100000 in
theorem fix_min : (initH fixLit).2.min ≤ 7 := by
  obtain ⟨h1, -, -⟩ := init_whole fix_le.1 fix_one.2
  have e : (initH fixLit).2 = tabL fixLit := by rw [h1]
  rw [e, tabL_min]
  have hi : 256 < fixLit.length := by
    apply Classical.byContradiction
    intro h
    have := fix_one.1
    rw [List.getD_eq_getElem?_getD, List.getElem?_eq_none (by omega)] at this
    exact absurd this (by decide)
  have := (minL_get hi (by rw [fix_one.1]; decide)).1
  rw [fix_one.1] at this
  exact this
set_option maxRecDepth 100000 in
theorem fix_cb : CB fixLit fixDist (initH fixLit).2 none := by
  obtain ⟨h1, h2, h3⟩ := init_whole fix_le.1 fix_one.2
  refine ⟨by rw [h1]; exact h2, h3, by rw [fix_one.1]; decide, by rw [fix_one.1]; exact fix_min, .inl ⟨rfl, rfl⟩⟩
/-- What a step leaves. -/
def StepR (I : Ids) (E : Errs) (src D : List Nat) (FR : Nat × List Nat × Int) (base : List Nat) (s : DS) : Prop :=
  ∃ out, base ++ trL s ++ pend s = out ∧ (Ended E FR s out ∨ (s.step = stepV 24 ∧ ∃ lit dist hl hd, CB lit dist hl hd ∧ TabOf I s s.hl hl ∧ ((hd = none ∧ s.hd = .pointer none) ∨ ∃ h, hd = some h ∧ s.hd = .pointer (some ⟨I.F, 520, none⟩) ∧ h = s.h2) ∧ PauseR src D FR lit dist s out) ∨
    (s.step = stepV 38 ∧ StoR src D FR s out) ∨ (s.step = stepV 14 ∧ NextR src D FR s out))
section
variable {I : Ids} {E : Errs} {src D : List Nat} {FR : Nat × List Nat × Int} {s : DS} {base : List Nat}
theorem DoneS.stepR (h : DoneS E src D FR base s) : StepR I E src D FR base s := by
  obtain ⟨o, h1, h2 | h2 | h2⟩ := h
  · exact ⟨o, h1, .inl h2⟩
  · exact ⟨o, h1, .inr (.inr (.inl h2))⟩
  · exact ⟨o, h1, .inr (.inr (.inr h2))⟩
theorem DoneR.stepR {s0 : DS} {lit dist : List Nat} {hl : HD} {hd : Option HD} (h : DoneR E src D FR lit dist base s) (C : CB lit dist hl hd) (hf : Bfr s0 s) (ht : TabOf I s0 s0.hl hl) (hp : (hd = none ∧ s0.hd = .pointer none) ∨ ∃ h, hd = some h ∧ s0.hd = .pointer (some ⟨I.F, 520, none⟩) ∧ h = s0.h2) : StepR I E src D FR base s := by
  obtain ⟨o, h1, h2 | ⟨h2, h3⟩ | h2⟩ := h
  · exact ⟨o, h1, .inl h2⟩
  · refine ⟨o, h1, .inr (.inl ⟨h2, lit, dist, hl, hd, C, ?_, ?_, h3⟩)⟩
    · rcases ht with ⟨a, b⟩ | ⟨a, b⟩ | ⟨X, a, b, c⟩
      · exact .inl ⟨hf.hl.trans a, b.trans hf.h1.symm⟩
      · exact .inr (.inl ⟨hf.hl.trans a, b.trans hf.h2.symm⟩)
      · exact .inr (.inr ⟨X, hf.hl.trans a, rfl, c.trans hf.hx.symm⟩)
    · rcases hp with ⟨a, b⟩ | ⟨t, a, b, c⟩
      · exact .inl ⟨a, hf.hd.trans b⟩
      · exact .inr ⟨t, a, hf.hd.trans b, c.trans hf.h2.symm⟩
  · exact ⟨o, h1, .inr (.inr (.inr h2))⟩
theorem err_step (ht : trN s.tr = 0) {s' : DS} {out : List Nat} (e1 : s'.hist = s.hist) (e2 : s'.wr = s.wr) (e3 : s'.rd = s.rd) (e4 : s'.tr = s.tr) (hb : base ++ pend s = out) (he : Ended E FR s' out) : StepR I E src D FR base s' := by
  refine ⟨out, ?_, .inl he⟩
  have a : trL s' = [] := trL_zero (by rw [e4]; exact ht)
  have b : pend s' = pend s := by unfold pend; rw [e1, e2, e3]
  rw [a, b, List.append_nil]; exact hb
theorem fr_end (hne : E.eof ≠ E.une) {out : List Nat} {s' : DS} (hF : (FR.2 = (out, 3) ∧ s'.err = E.uneV) ∨ (FR.2 = (out, 2) ∧ ∃ r, s'.err = corV r)) : Ended E FR s' out := by
  rcases hF with ⟨hF, he⟩ | ⟨hF, r, he⟩
  · refine ⟨fun q => ?_, fun _ => by rw [he]; exact eof_ne_une E hne, fun _ => he, by rw [hF]; exact List.prefix_refl _⟩
    rw [hF] at q; exact absurd (show (3 : Int) = 1 from q) (by decide)
  · refine ⟨fun q => ?_, fun _ => by rw [he]; exact cor_ne_eof E r, fun q => ?_, by rw [hF]; exact List.prefix_refl _⟩
    · rw [hF] at q; exact absurd (show (2 : Int) = 1 from q) (by decide)
    · rw [hF] at q; exact absurd (show (2 : Int) = 3 from q) (by decide)
variable (hne : E.eof ≠ E.une) (live : Live FR.2.2) (hby : ∀ x ∈ src, x < 256)
include hne live hby in
/-- A block's codes are begun. -/
theorem begin_sim {s0 : DS} {lit dist : List Nat} {hl : HD} {hd : Option HD} {p : Nat} {out : List Nat} (C : CB lit dist hl hd) (h1 : Safe hl) (h2 : ∀ t, hd = some t → Safe t) (hdl : D.length ≤ 32768) (hn : NumOK src s0) (hK : KC src D FR s0.final lit dist p out) (hA : At src D 7 s0 p out) (hcp : Cp s0) (hd1 : s0.st = 1 → 1 ≤ s0.dist)
    (hb : base ++ pend s0 = out) (ht : TabOf I s0 s0.hl hl) (hp : (hd = none ∧ s0.hd = .pointer none) ∨ ∃ h, hd = some h ∧ s0.hd = .pointer (some ⟨I.F, 520, none⟩) ∧ h = s0.h2) : StepR I E src D FR base (hbS I E src hl hd s0) := by
  have hA2 : At src D (lit.getD 256 0 + 7) s0 p out := ⟨hA.bits, hA.ple, Nat.le_trans hA.nb (Nat.le_add_left 7 _), hA.win, hA.ol, hA.er⟩
  have hfr := (hbS_stop (I := I) (E := E) hn.1 hn.2.1 hn.2.2.1 hn.2.2.2.1 hd1 h1 h2).fr
  refine (hbS_sim (base := base) hne live hby C h1 h2 hdl hn (fun q => ?_) (fun _ => ⟨p, out, hK, hA2, hcp, hb⟩)).stepR C hfr ht hp
  obtain ⟨c1, c2⟩ := hcp q
  refine ⟨p, out, out, hK, hA2, hA.ol, hd1 q, c2, ?_, hb⟩
  rw [c1]; rfl
omit hne live hby in
theorem KB.block {p : Nat} {out : List Nat} (h : KB src D FR p out) (hp : p ≤ 8 * src.length) : KF src D FR (blockS src D p out (-1)).1 (blockS src D p out (-1)).2 := by
  obtain ⟨f, h1, h2⟩ := h
  cases f with
  | zero => omega
  | succ f =>
    rw [inflGo_on f (by decide)] at h2
    refine ⟨f, fun q => ?_, h2⟩
    have := blockS_pos (src := src) (dict := D) (p := p) (out := out) (by decide) q
    omega
include hne in
omit live hby in
theorem short_block {b : Bool} {t p : Nat} {out : List Nat} (h : KF src D FR b (kindS src D t p out 3)) {s' : DS} (he : s'.err = E.uneV) : Ended E FR s' out := by
  have _ := hne
  have e := kindS_off src D t p out (e := 3) (by decide)
  have hF := h.bad (by rw [e]; decide)
  have h3 : FR.2.2 = 3 := by rw [hF]; exact e
  refine ⟨fun q => ?_, fun q => ?_, fun _ => he, (kindS_pre t p out 3).trans h.pre⟩
  · rw [h3] at q; exact absurd q (by decide)
  · rw [h3] at q; exact absurd q (by decide)
include hne live hby in
set_option maxRecDepth 100000 in
/-- The next block. -/
theorem nextS_sim (hn : NumOK src s) (hdl : D.length ≤ 32768) {out : List Nat} (hN : NextR src D FR s out) (hb : base ++ pend s = out) (hB : BitsOK s) (hcl : s.cb.length = 19) (hd1 : s.st = 1 → 1 ≤ s.dist) (X : Nat) (la lb : Value) : StepR I E src D FR base (nextS I E src X la lb s) := by
  obtain ⟨p, hK, hA, -, hcp⟩ := hN
  obtain ⟨n1, n2, n3, n4, n5⟩ := hn
  have hK := hK.block hA.ple
  unfold blockS at hK
  simp only [] at hK
  unfold nextS
  by_cases hle : p + 3 ≤ 8 * src.length
  · obtain ⟨m1, k, ro, b2, nb, m2, m3, m4, m5, m6⟩ := need_ok hby hA.bits (show 3 ≤ 32 by decide) hle
    obtain ⟨e0, k0, ro0, b0, nb0, q1, q2, q3, q4, q5⟩ := need_bits hby p 3 4 s hA.bits (by omega)
    rw [if_pos m1]
    have hnb3 : 3 ≤ nb0 := q3 (by rw [q1] at m1; exact m1)
    rw [q1] at m2 m4 ⊢
    simp only [] at m2 m4 ⊢
    have w1 := q2.low (show 1 ≤ nb0 by omega)
    have t1 := q2.take (show 1 ≤ nb0 by omega)
    have w2 := t1.low (show 2 ≤ nb0 - 1 by omega)
    have t2 := t1.take (show 2 ≤ nb0 - 1 by omega)
    have w1 : b0 % 2 = leL src p 1 := w1
    have w2 : b0 / 2 % 4 = leL src (p + 1) 2 := w2
    have e1 : bitP src p (-1) = p + 1 := if_pos ⟨by decide, by omega⟩
    have e2 : bitE src p (-1) = -1 := if_neg (fun h => by omega)
    have e3 : bitR src p (-1) = leL src p 1 := by
      unfold bitR
      rw [if_pos ⟨by decide, by omega⟩]
      show bitV src p = 0 + bitV src (p + 0) * 1
      rw [Nat.zero_add, Nat.mul_one]; rfl
    rw [e1, e2, e3, bitsAt_ok src (p + 1) 2 (by omega)] at hK
    simp only [] at hK
    rw [← w1, ← w2, show p + 1 + 2 = p + 3 from rfl] at hK
    obtain ⟨sh, hsh⟩ : ∃ sh, sh = hdS { s with k := k0, ro := ro0, b := b0, nb := nb0 } := ⟨_, rfl⟩
    rw [← hsh]
    have f1 : sh.final = (b0 % 2 == 1) := by rw [hsh]; rfl
    have hA1 : At src D 7 sh (p + 3) out := by
      have hnb := hA.nb
      rw [hsh]
      refine ⟨?_, hle, ?_, hA.win.of rfl rfl rfl, hA.ol, hA.er⟩
      · show Bits src (p + 3) k0 (b0 / 8) (nb0 - 3)
        have e : b0 / 2 ^ 1 / 2 ^ 2 = b0 / 8 := by rw [Nat.div_div_eq_div_mul]
        rw [e, show nb0 - 1 - 2 = nb0 - 3 by omega] at t2
        exact t2
      · show nb0 - 3 ≤ 7
        omega
    have g : sh.wr = s.wr ∧ sh.rd = s.rd ∧ sh.tr = s.tr ∧ sh.st = s.st ∧ sh.dist = s.dist ∧ sh.len = s.len ∧ sh.hist = s.hist ∧ sh.full = s.full ∧ sh.bits = s.bits ∧ sh.cb = s.cb := by rw [hsh]; exact ⟨rfl, rfl, rfl, rfl, rfl, rfl, rfl, rfl, rfl, rfl⟩
    obtain ⟨g1, g2, g3, g4, g5, g6, g7, g8, g9, g10⟩ := g
    have hcp1 : Cp sh := by
      intro q
      have := hcp (g4 ▸ q)
      refine ⟨by rw [g6]; exact this.1, ?_⟩
      have e : histN sh = histN s := by unfold histN; rw [g8, g1]
      rw [e, g5]; exact this.2
    have hb1 : base ++ pend sh = out := by rw [← hb]; unfold pend; rw [g7, g1, g2]
    have ht1 : trN sh.tr = 0 := by rw [g3]; exact n5
    have hw1 : sh.wr < 32768 := by rw [g1]; exact n3
    have hr1 : sh.rd ≤ sh.wr := by rw [g1, g2]; exact n4
    have hdd : sh.st = 1 → 1 ≤ sh.dist := by rw [g4, g5]; exact hd1
    have hB1 : BitsOK sh := by unfold BitsOK; rw [g9]; exact hB
    have hk1 : sh.k ≤ src.length := hA1.bits.k
    have hnb1 : sh.nb ≤ 24 := Nat.le_trans hA1.nb (by decide)
    rw [← f1] at hK
    generalize b0 / 2 % 4 = t at *
    clear hsh m1 m2 m3 m4 m5 m6 q1 q2 q3 q4 q5 t1 t2 w1 w2 e1 e2 e3
    unfold nextT
    unfold kindS at hK
    by_cases c0 : t = 0
    · rw [if_pos c0] at hK ⊢
      exact (dataBlock_sim hby hne live hK hA1 hcp1 hb1 ht1 hw1 hr1).stepR
    · rw [if_neg c0] at hK ⊢
      by_cases c1 : t = 1
      · rw [if_pos c1] at hK ⊢
        unfold fixS
        have hKC : KC src D FR sh.final fixLit fixDist (p + 3) out := ⟨8 * src.length + 1, by omega, hK⟩
        exact begin_sim (s0 := { sh with hl := .pointer (some ⟨X, 0, none⟩), hx := (initH fixLit).2, hd := .pointer none }) hne live hby fix_cb fix_safe (fun t e => by cases e) hdl ⟨hk1, hnb1, hw1, hr1, ht1⟩ hKC ⟨hA1.bits, hA1.ple, hA1.nb, hA1.win.of rfl rfl rfl, hA1.ol, hA1.er⟩ hcp1 hdd hb1 (.inr (.inr ⟨X, rfl, rfl, rfl⟩)) (.inl ⟨rfl, rfl⟩)
      · rw [if_neg c1] at hK ⊢
        by_cases c2 : t = 2
        · rw [if_pos c2] at hK ⊢
          have hH := rhS_sim (E := E) live hby hB1 (by rw [g10]; exact hcl) ⟨hA1.bits, hA1.ple, hA1.nb⟩ hK
          have hk := rhS_kept E src sh
          have hg := rhS_good E src hB1
          generalize rhS E src sh = R at *
          obtain ⟨rv, sr⟩ := R
          have hps : pend sr = pend sh := by unfold pend; rw [hk.hist, hk.wr, hk.rd]
          rcases hH with ⟨hv, lit, dist, p2, C, hKC, hA2⟩ | ⟨hv, hF⟩ | ⟨⟨r, hv⟩, hF⟩
          · have hv : rv = .nilIface := hv
            subst hv
            obtain ⟨-, s1, s2⟩ | q | ⟨ro, q⟩ := hg
            · show StepR I E src D FR base (dynG I E src la lb sr)
              unfold dynG
              have hwin : Win sr (D ++ out) := hA1.win.of hk.hist hk.wr hk.full
              have hcs : Cp sr := fun q => by
                have := hcp1 (hk.st ▸ q)
                refine ⟨by rw [hk.len]; exact this.1, ?_⟩
                have e : histN sr = histN sh := by unfold histN; rw [hk.full, hk.wr]
                rw [e, hk.dist]; exact this.2
              have hfin : sr.final = sh.final := hk.final
              exact begin_sim (s0 := { sr.ln la lb with err := .nilIface, hl := .pointer (some ⟨I.F, 5, none⟩), hd := .pointer (some ⟨I.F, 520, none⟩) }) hne live hby C s1 (fun t e => by cases e; exact s2) hdl
                ⟨hA2.bits.k, Nat.le_trans hA2.nb (by decide), by show sr.wr < 32768; rw [hk.wr]; exact hw1, by show sr.rd ≤ sr.wr; rw [hk.wr, hk.rd]; exact hr1, by show trN sr.tr = 0; rw [hk.tr]; exact ht1⟩ (by show KC src D FR sr.final lit dist p2 out; rw [hfin]; exact hKC)
                ⟨hA2.bits, hA2.ple, hA2.nb, hwin.of rfl rfl rfl, hA1.ol, rfl⟩ hcs (fun q => by show 1 ≤ sr.dist; rw [hk.dist]; exact hdd (hk.st ▸ q)) (by rw [← hb1, ← hps]; rfl) (.inl ⟨rfl, rfl⟩) (.inr ⟨sr.h2, rfl, rfl, rfl⟩)
            · exact absurd q.symm (uneV_ne E)
            · exact absurd q.symm (corV_ne ro)
          · have hv : rv = E.uneV := hv
            subst hv
            exact err_step (s := sh) ht1 hk.hist hk.wr hk.rd hk.tr hb1 (fr_end hne (.inl ⟨hF, rfl⟩))
          · have hv : rv = corV r := hv
            subst hv
            exact err_step (s := sh) ht1 hk.hist hk.wr hk.rd hk.tr hb1 (fr_end hne (.inr ⟨hF, r, rfl⟩))
        · rw [if_neg c2] at hK ⊢
          have hF := hK.bad' (out := out) (k := 2) rfl (by decide)
          exact err_step (s := sh) ht1 rfl rfl rfl rfl hb1 (fr_end hne (.inr ⟨hF, _, rfl⟩))
  · rw [if_neg (by rw [need_eof hby hA.bits (show 3 ≤ 32 by decide) (by omega)]; decide)]
    obtain ⟨k, ro, b, nb, e2⟩ := need_keep src 3 4 s
    have hpl := hA.ple
    have h3 : (bitsAt src (bitP src p (-1)) (bitE src p (-1)) 2).2.2 = 3 := by
      by_cases h8 : p / 8 < src.length
      · have e1 : bitP src p (-1) = p + 1 := if_pos ⟨by decide, h8⟩
        have e3 : bitE src p (-1) = -1 := if_neg (fun h => by omega)
        rw [e1, e3, bitsAt_short src (p + 1) 2 (by omega) (by omega)]
      · have e3 : bitE src p (-1) = 3 := if_pos ⟨by decide, by omega⟩
        rw [e3, bitsAt_off _ _ (show ¬ (3 : Int) < 0 by decide) 2]
    rw [h3] at hK
    refine err_step (s := s) n5 ?_ ?_ ?_ ?_ hb (short_block hne hK rfl) <;> (rw [e2])
end
end Go.Proofs.YtbbnibbdiiffkaaDoor
