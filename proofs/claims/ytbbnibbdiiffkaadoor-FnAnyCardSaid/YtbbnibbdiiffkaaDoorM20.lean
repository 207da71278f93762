/- The decoder's steps: what holds ahead of each, and that they come to an end. Reading from the decoder: the walk, over any relation that the decoder's steps keep. -/
import Derived.Test.YtbbnibbdiiffkaaDoorM19

/- The decoder's steps: what holds ahead of each, and that they come to an end. -/
namespace Go.Proofs.YtbbnibbdiiffkaaDoor
open Go.RowKit

section
variable {I : Ids} {E : Errs} {src : List Nat} {s0 s : DS}
/-- The place in the source, and the bits left. -/
def Kb (src : List Nat) (s s' : DS) : Prop := s.k ≤ src.length → s'.k ≤ src.length ∧ bl src s' ≤ bl src s
theorem Kb.refl (s : DS) : Kb src s s := fun h => ⟨h, Nat.le_refl _⟩
theorem Kb.trans {a b c : DS} (h : Kb src a b) (k : Kb src b c) : Kb src a c := fun q => ⟨(k (h q).1).1, Nat.le_trans (k (h q).1).2 (h q).2⟩
theorem Kb.need (n g : Nat) (s : DS) : Kb src s (need src n g s).2 := fun h => by
  obtain ⟨q1, -, -⟩ := need_near src n g s h
  exact ⟨q1.kle, Nat.le_of_eq q1.bl⟩
theorem Kb.take (n : Nat) (s : DS) : Kb src s (takeB n s) := fun h => ⟨h, Nat.add_le_add_left (Nat.sub_le _ _) _⟩
def HRKb (src : List Nat) (k0 nb0 : Nat) : HR → Prop
  | .sym _ k _ nb => k ≤ src.length ∧ 8 * (src.length - k) + nb ≤ 8 * (src.length - k0) + nb0
  | .eof k _ nb => k ≤ src.length ∧ 8 * (src.length - k) + nb ≤ 8 * (src.length - k0) + nb0
  | .bad k _ nb => k ≤ src.length ∧ 8 * (src.length - k) + nb ≤ 8 * (src.length - k0) + nb0
theorem HRKb.mono {k0 nb0 k1 nb1 : Nat} {r : HR} (h : HRKb src k1 nb1 r) (hle : 8 * (src.length - k1) + nb1 ≤ 8 * (src.length - k0) + nb0) : HRKb src k0 nb0 r := by
  cases r <;> exact ⟨h.1, Nat.le_trans h.2 hle⟩
theorem hsGo_kb (h : HD) (f : Nat) : ∀ (e : Bool) (k b nb : Nat), k ≤ src.length → HRKb src k nb (hsGo src h f (e, k, b, nb)) := by
  induction f with
  | zero => intro e k b nb hk; exact ⟨hk, Nat.le_refl _⟩
  | succ f ih =>
    intro e k b nb hk
    cases e with
    | true => exact ⟨hk, Nat.le_refl _⟩
    | false =>
      rw [hsGo_step]
      by_cases h1 : look h b % 16 ≤ nb
      · rw [if_pos h1]
        by_cases h0 : look h b % 16 = 0
        · rw [if_pos h0]; exact ⟨hk, Nat.le_refl _⟩
        · rw [if_neg h0]; exact ⟨hk, Nat.add_le_add_left (Nat.sub_le _ _) _⟩
      · rw [if_neg h1]
        obtain ⟨q1, q2, q3, q4⟩ := fill_props (src := src) (look h b % 16) 16 k b nb hk
        generalize fill src (look h b % 16) 16 k b nb = F at *
        obtain ⟨e', k', b', nb'⟩ := F
        simp only [] at q1 q2 q3 q4
        exact (ih e' k' b' nb' q2).mono (by omega)
theorem Kb.sym (s : DS) (t : HD) : Kb src s ((hsM src t s.k s.b s.nb).st s) := fun h => by
  obtain ⟨q1, q2, q3, q4⟩ := fill_props (src := src) t.min 16 s.k s.b s.nb h
  have : HRKb src s.k s.nb (hsM src t s.k s.b s.nb) := by
    unfold hsM
    generalize fill src t.min 16 s.k s.b s.nb = F at *
    obtain ⟨e', k', b', nb'⟩ := F
    simp only [] at q1 q2 q3 q4
    exact (hsGo_kb t 17 e' k' b' nb' q2).mono (by omega)
  cases hq : hsM src t s.k s.b s.nb <;> (rw [hq] at this; exact this)
theorem rhX_kb (E : Errs) (n i x : Nat) (s : DS) : Kb src s (rhX E src n i x s).ds := by
  unfold rhX
  split
  · exact fun h => ⟨h, Nat.le_refl _⟩
  · split
    · exact .refl s
    · split
      · refine (Kb.need (exN x) 4 s).trans ?_
        unfold rhRep
        split
        · exact Kb.take _ _
        · exact (Kb.take (exN x) _).trans fun h => ⟨h, Nat.le_refl _⟩
      · exact Kb.need (exN x) 4 s
theorem rhStep_kb (E : Errs) (n i : Nat) (s : DS) : Kb src s (rhStep E src n i s).ds := by
  have h1 := Kb.sym (src := src) s s.h1
  unfold rhStep
  cases hq : hsM src s.h1 s.k s.b s.nb with
  | sym x k b nb => rw [hq] at h1; exact h1.trans (rhX_kb _ _ _ _ _)
  | eof k b nb => rw [hq] at h1; exact h1
  | bad k b nb => rw [hq] at h1; exact h1
theorem rhEnd_kb (nl nd : Nat) (s : DS) : Kb src s (rhEnd nl nd s).2 := by
  unfold rhEnd
  split
  · split <;> exact fun h => ⟨h, Nat.le_refl _⟩
  · exact fun h => ⟨h, Nat.le_refl _⟩
theorem rhSyms_kb (E : Errs) (nl nd : Nat) : ∀ f i s, Kb src s (rhSyms E src nl nd f i s).2 := by
  intro f
  induction f with
  | zero => intro i s; exact rhEnd_kb nl nd s
  | succ f ih =>
    intro i s
    rw [rhSyms]
    split
    · have h1 := rhStep_kb (src := src) E (nl + nd) i s
      cases hq : rhStep E src (nl + nd) i s with
      | ok i' s' => rw [hq] at h1; exact h1.trans (ih i' s')
      | err v s' => rw [hq] at h1; exact h1
    · exact rhEnd_kb nl nd s
theorem rhTab_kb (E : Errs) (nl nd : Nat) (s : DS) : Kb src s (rhTab E src nl nd s).2 := by
  have h0 : Kb src s { s with h1 := (initH s.cb).2 } := fun h => ⟨h, Nat.le_refl _⟩
  unfold rhTab
  split
  · exact h0.trans (rhSyms_kb E nl nd _ _ _)
  · exact h0
theorem rhCb_kb (E : Errs) (nl nd nc : Nat) : ∀ r i s, Kb src s (rhCb E src nl nd nc r i s).2 := by
  intro r
  induction r with
  | zero => intro i s; exact Kb.trans (b := { s with cb := rhZ s.cb (19 - nc) nc }) (fun h => ⟨h, Nat.le_refl _⟩) (rhTab_kb _ _ _ _)
  | succ r ih =>
    intro i s
    have h1 := Kb.need (src := src) 3 4 s
    rw [rhCb]
    split
    · refine (h1.trans (Kb.take 3 _)).trans (Kb.trans ?_ (ih _ _))
      exact fun h => ⟨h, Nat.le_refl _⟩
    · exact h1
theorem rhS_kb (E : Errs) (s : DS) : Kb src s (rhS E src s).2 := by
  have h1 := Kb.need (src := src) 14 4 s
  unfold rhS
  generalize need src 14 4 s = N at *
  refine h1.trans ?_
  split
  · unfold rh1
    split
    · exact .refl _
    · unfold rh2
      split
      · exact fun h => ⟨h, Nat.le_refl _⟩
      · unfold rh3
        refine Kb.trans ?_ (rhCb_kb _ _ _ _ _ _ _)
        exact fun h => ⟨h, Nat.add_le_add_left (Nat.sub_le _ _) _⟩
  · exact .refl _

/-- What holds ahead of a step. -/
structure Str (I : Ids) (src : List Nat) (s : DS) : Prop where
  rk : RK s
  blen : s.bits.length = 316
  kle : s.k ≤ src.length
  wr : s.wr < 32768
  rd : s.rd ≤ s.wr
  st : s.st = 0 ∨ s.st = 1
  dist : s.st = 1 → 1 ≤ s.dist
  step : s.step = stepV 14 ∨ (s.step = stepV 24 ∧ ∃ hl hd, HOK I hl hd s ∧ Safe hl ∧ ∀ h, hd = some h → Safe h) ∨ s.step = stepV 38
/-- A step. -/
inductive Stp (I : Ids) (E : Errs) (src : List Nat) (s : DS) : DS → Prop
  | next (X : Nat) (la lb : Value) : s.step = stepV 14 →
      ((need src 3 4 s).1 = true → (need src 3 4 s).2.b / 2 % 4 = 2 → (rhS E src (hdS (need src 3 4 s).2)).1 = .nilIface → RK ((rhS E src (hdS (need src 3 4 s).2)).2.ln la lb)) →
      Stp I E src s (nextS I E src X la lb s)
  | block (hl : HD) (hd : Option HD) : s.step = stepV 24 → HOK I hl hd s → Safe hl → (∀ h, hd = some h → Safe h) → Stp I E src s (hbS I E src hl hd s)
  | data : s.step = stepV 38 → Stp I E src s (copyDataS I E src s)
def is14 : Value → Bool
  | .func (.func 14) _ _ => true
  | _ => false
/-- Steps that are left, at most. -/
def measV (n : Nat) (k nb : Nat) (step err tr : Value) : Nat :=
  if isNil err = true ∧ trN tr = 0 then 1 + 2 * (8 * (n - k) + nb) + (if is14 step then 0 else 1) else 0
def meas (src : List Nat) (s : DS) : Nat := measV src.length s.k s.nb s.step s.err s.tr
theorem meas_le (src : List Nat) (s : DS) (h : isNil s.err = true ∧ trN s.tr = 0) : meas src s = 1 + 2 * bl src s + (if is14 s.step then 0 else 1) := by
  unfold meas measV; rw [if_pos h]; rfl
theorem meas_zero (src : List Nat) (s : DS) (h : ¬ (isNil s.err = true ∧ trN s.tr = 0)) : meas src s = 0 := by
  unfold meas measV; rw [if_neg h]
/-- What a step leaves. -/
structure Aft (I : Ids) (E : Errs) (src : List Nat) (s s' : DS) : Prop where
  wr : s'.wr < 32768
  rd : s'.rd ≤ s'.wr
  tr : s'.tr = s.tr ∨ (TrOK I s'.tr ∧ s'.wr ≤ s'.rd)
  str : s'.err = .nilIface → Str I src s'
  meas : meas src s' < meas src s
  errs : s'.err = .nilIface ∨ Bad E s'.err
theorem Stop.str (h : Stop I E src s0 s) (hs : RK s0) (hb0 : s0.bits.length = 316) (hst : s0.st = 0 ∨ s0.st = 1) (hd0 : s0.st = 1 → 1 ≤ s0.dist) (_he0 : s0.err = .nilIface) {hl : HD} {hd : Option HD} (hk : HOK I hl hd s0) (h1 : Safe hl) (h2 : ∀ t, hd = some t → Safe t) (he : s.err = .nilIface) : Str I src s := by
  have f := h.fr
  have hst' : (s.st = 0 ∨ s.st = 1) ∧ (s.st = 1 → 1 ≤ s.dist) := by
    have hd' : s0.st = 1 → 1 ≤ s.dist := fun q => by
      rcases h.dist with q1 | q1
      · exact q1
      · rw [q1]; exact hd0 q
    rcases h.st with q | q | ⟨q, q2⟩
    · exact ⟨by rw [q]; exact hst, fun e => hd' (q ▸ e)⟩
    · exact ⟨.inl q, fun e => by rw [q] at e; cases e⟩
    · exact ⟨.inr q, fun _ => q2⟩
  refine ⟨⟨h.nb, by rw [f.h1, f.l1]; exact hs.t1, by rw [f.h2, f.l2]; exact hs.t2, by rw [f.bits]; exact hs.bits, by rw [f.cb]; exact hs.cb⟩, by rw [f.bits]; exact hb0, h.kle, h.wr, h.rd, hst'.1, hst'.2, ?_⟩
  rcases h.how with q | ⟨-, q, -⟩ | ⟨-, q, -⟩
  · exact absurd he q.ne
  · refine .inr (.inl ⟨q, hl, hd, ⟨?_, ?_, h.nb, h.wr, h.rd⟩, h1, h2⟩)
    · rcases hk.tl with ⟨a, b⟩ | ⟨a, b⟩ | ⟨X, a, b, c⟩
      · exact .inl ⟨f.hl.trans a, b.trans f.h1.symm⟩
      · exact .inr (.inl ⟨f.hl.trans a, b.trans f.h2.symm⟩)
      · exact .inr (.inr ⟨X, f.hl.trans a, rfl, c.trans f.hx.symm⟩)
    · rcases hk.td with ⟨a, b⟩ | ⟨t, a, b, c⟩
      · exact .inl ⟨a, f.hd.trans b⟩
      · exact .inr ⟨t, a, f.hd.trans b, c.trans f.h2.symm⟩
  · exact .inl q
theorem Sto.str (h : Sto I E src s0 s) (hs : RK s0) (hb0 : s0.bits.length = 316) (hst : s0.st = 0 ∨ s0.st = 1) (hd0 : s0.st = 1 → 1 ≤ s0.dist) (he : s.err = .nilIface) : Str I src s := by
  have f := h.fr
  refine ⟨⟨h.nb, by rw [f.h1, f.l1]; exact hs.t1, by rw [f.h2, f.l2]; exact hs.t2, by rw [f.bits]; exact hs.bits, by rw [f.cb]; exact hs.cb⟩, by rw [f.bits]; exact hb0, h.kle, h.wr, h.rd, by rw [h.st]; exact hst, by rw [h.st, h.dist]; exact hd0, ?_⟩
  rcases h.how with q | ⟨-, q, -⟩ | ⟨-, q, -⟩
  · exact absurd he q.ne
  · exact .inr (.inr q)
  · exact .inl q
theorem meas_dec {s' : DS} (he : s.err = .nilIface) (ht : trN s.tr = 0) (how : s'.err ≠ .nilIface ∨ 0 < trN s'.tr ∨ (s'.step = stepV 14 ∧ (bl src s' < bl src s ∨ (is14 s.step = false ∧ bl src s' ≤ bl src s)))) : meas src s' < meas src s := by
  have h1 := meas_le src s ⟨(isNil_iff _).2 he, ht⟩
  by_cases hc : isNil s'.err = true ∧ trN s'.tr = 0
  · rcases how with q | q | ⟨q1, q2⟩
    · exact absurd ((isNil_iff _).1 hc.1) q
    · omega
    · have h2 := meas_le src s' hc
      rw [h1, h2, q1]
      have : is14 (stepV 14) = true := rfl
      rw [if_pos this]
      rcases q2 with q2 | ⟨q3, q2⟩
      · omega
      · rw [if_neg (by rw [q3]; decide)]; omega
  · rw [meas_zero src s' hc, h1]; omega
theorem Stop.aft {sb : DS} (h : Stop I E src sb s0) (hs : Str I src s0 ∨ s0.err ≠ .nilIface) (heb : sb.err = .nilIface) (he : s.err = .nilIface) (ht : trN s.tr = 0) (htb : sb.tr = s.tr) (hbb : YtbbnibbdiiffkaaDoor.bl src sb < YtbbnibbdiiffkaaDoor.bl src s ∨ (is14 s.step = false ∧ YtbbnibbdiiffkaaDoor.bl src sb ≤ YtbbnibbdiiffkaaDoor.bl src s)) : Aft I E src s s0 := by
  refine ⟨h.wr, h.rd, by rw [← htb]; exact h.tr, fun q => hs.resolve_right fun c => c q, meas_dec he ht ?_, h.how.elim .inr fun q => .inl (q.elim (fun q => q.1.trans heb) (fun q => q.1.trans heb))⟩
  have hb := h.bl
  rcases h.how with q | ⟨-, -, q⟩ | ⟨-, q, -⟩
  · exact .inl q.ne
  · exact .inr (.inl q)
  · refine .inr (.inr ⟨q, ?_⟩)
    rcases hbb with q | ⟨q1, q2⟩
    · exact .inl (by omega)
    · exact .inr ⟨q1, by omega⟩
theorem Sto.aft {sb : DS} (h : Sto I E src sb s0) (hs : s0.err = .nilIface → Str I src s0) (heb : sb.err = .nilIface) (he : s.err = .nilIface) (ht : trN s.tr = 0) (htb : sb.tr = s.tr) (hbb : YtbbnibbdiiffkaaDoor.bl src sb < YtbbnibbdiiffkaaDoor.bl src s ∨ (is14 s.step = false ∧ YtbbnibbdiiffkaaDoor.bl src sb ≤ YtbbnibbdiiffkaaDoor.bl src s)) : Aft I E src s s0 := by
  refine ⟨h.wr, h.rd, by rw [← htb]; exact h.tr, hs, meas_dec he ht ?_, h.how.elim .inr fun q => .inl (q.elim (fun q => q.1.trans heb) (fun q => q.1.trans heb))⟩
  have hb := h.bl
  rcases h.how with q | ⟨-, -, q⟩ | ⟨-, q, -⟩
  · exact .inl q.ne
  · exact .inr (.inl q)
  · refine .inr (.inr ⟨q, ?_⟩)
    rcases hbb with q | ⟨q1, q2⟩
    · exact .inl (by omega)
    · exact .inr ⟨q1, by omega⟩
theorem fix_safe : Safe (initH fixLit).2 := initH_safe fix_le.1 (Nat.le_trans fix_len.1 (by decide))
theorem rhX_blen {E : Errs} {n i x : Nat} {s : DS} (h : s.bits.length = 316) : (rhX E src n i x s).ds.bits.length = 316 := by
  unfold rhX
  split
  · show (s.bits.set i x).length = 316; rw [List.length_set]; exact h
  · split
    · exact h
    · obtain ⟨k, ro, b, nb, e⟩ := need_keep src (exN x) 4 s
      have hn : (need src (exN x) 4 s).2.bits.length = 316 := by rw [e]; exact h
      generalize need src (exN x) 4 s = N at *
      split
      · unfold rhRep
        split
        · exact hn
        · show (fillR N.2.bits i _ _).length = 316; rw [fillR_len]; exact hn
      · exact hn
theorem rhStep_blen {E : Errs} {n i : Nat} {s : DS} (h : s.bits.length = 316) : (rhStep E src n i s).ds.bits.length = 316 := by
  unfold rhStep
  cases hq : hsM src s.h1 s.k s.b s.nb with
  | sym x k b nb => exact rhX_blen (s := (HR.sym x k b nb).st s) h
  | eof k b nb => exact h
  | bad k b nb => exact h
theorem rhEnd_blen {nl nd : Nat} {s : DS} (h : s.bits.length = 316) : (rhEnd nl nd s).2.bits.length = 316 := by
  unfold rhEnd
  split
  · split <;> exact h
  · exact h
theorem rhSyms_blen {E : Errs} {nl nd : Nat} : ∀ f i (s : DS), s.bits.length = 316 → (rhSyms E src nl nd f i s).2.bits.length = 316 := by
  intro f
  induction f with
  | zero => intro i s h; exact rhEnd_blen h
  | succ f ih =>
    intro i s h
    rw [rhSyms]
    split
    · have h1 := rhStep_blen (src := src) (E := E) (n := nl + nd) (i := i) h
      cases hq : rhStep E src (nl + nd) i s with
      | ok i' s' => rw [hq] at h1; exact ih i' s' h1
      | err v s' => rw [hq] at h1; exact h1
    · exact rhEnd_blen h
theorem rhTab_blen {E : Errs} {nl nd : Nat} {s : DS} (h : s.bits.length = 316) : (rhTab E src nl nd s).2.bits.length = 316 := by
  unfold rhTab
  split
  · exact rhSyms_blen _ _ _ h
  · exact h
theorem rhCb_blen {E : Errs} {nl nd nc : Nat} : ∀ r i (s : DS), s.bits.length = 316 → (rhCb E src nl nd nc r i s).2.bits.length = 316 := by
  intro r
  induction r with
  | zero => intro i s h; exact rhTab_blen h
  | succ r ih =>
    intro i s h
    obtain ⟨k, ro, b, nb, e⟩ := need_keep src 3 4 s
    have hn : (need src 3 4 s).2.bits.length = 316 := by rw [e]; exact h
    rw [rhCb]
    split
    · exact ih _ _ hn
    · exact hn
theorem rhS_blen (E : Errs) (src : List Nat) {s : DS} (h : s.bits.length = 316) : (rhS E src s).2.bits.length = 316 := by
  obtain ⟨k, ro, b, nb, e⟩ := need_keep src 14 4 s
  have hn : (need src 14 4 s).2.bits.length = 316 := by rw [e]; exact h
  unfold rhS
  generalize need src 14 4 s = N at *
  split
  · unfold rh1
    split
    · exact hn
    · unfold rh2
      split
      · exact hn
      · exact rhCb_blen _ _ _ hn
  · exact hn
set_option maxRecDepth 100000 in
/-- Every step keeps what holds ahead of a step, and steps come to an end. -/
theorem stp_aft {s' : DS} (hs : Str I src s) (he : s.err = .nilIface) (ht : trN s.tr = 0) (h : Stp I E src s s') : Aft I E src s s' := by
  have hdd : (s.st = 0 ∨ s.st = 1) := hs.st
  cases h with
  | data hst =>
    have h1 := copyData_sto (I := I) (E := E) (s0 := s) (s1 := s) (.refl s) hs.kle hs.rk.nb hs.wr hs.rd (Nat.le_refl _) rfl rfl rfl rfl
    exact h1.aft (h1.str hs.rk hs.blen hs.st hs.dist) he he ht rfl (.inr ⟨by rw [hst]; rfl, Nat.le_refl _⟩)
  | block hl hd hst hk s1 s2 =>
    have h1 := hbS_stop (I := I) (E := E) hs.kle hs.rk.nb hs.wr hs.rd hs.dist s1 s2
    refine h1.aft ?_ he he ht rfl (.inr ⟨by rw [hst]; rfl, Nat.le_refl _⟩)
    rcases Classical.em ((hbS I E src hl hd s).err = .nilIface) with q | q
    · exact .inl (h1.str hs.rk hs.blen hs.st hs.dist he hk s1 s2 q)
    · exact .inr q
  | next X la lb hst hrk =>
    obtain ⟨q1, q2, q3⟩ := need_near src 3 4 s hs.kle
    have hn24 := hs.rk.nb
    obtain ⟨N, hN⟩ : ∃ N, N = need src 3 4 s := ⟨_, rfl⟩
    unfold nextS
    rw [← hN] at q1 q2 q3 hrk ⊢
    obtain ⟨e, sn⟩ := N
    simp only [] at q1 q2 q3 hrk ⊢
    have hbn : bl src sn = bl src s := q1.bl
    have hkn := q1.kle
    have hnn : sn.nb ≤ 24 := by omega
    have h3 : e = true → 3 ≤ sn.nb := q3 (by omega)
    obtain ⟨k', ro', b', nb', hsn⟩ := q1.eq
    cases e with
    | false =>
      rw [if_neg (by decide), hsn]
      exact ⟨hs.wr, hs.rd, .inl rfl, fun q => absurd q (uneV_ne E), meas_dec he ht (.inl (uneV_ne E)), .inr (Bad.une E)⟩
    | true =>
      rw [if_pos rfl]
      have h3 := h3 rfl
      have hrk := hrk rfl
      obtain ⟨sh, hsh⟩ : ∃ sh, sh = hdS sn := ⟨_, rfl⟩
      rw [← hsh] at hrk ⊢
      have hbh : bl src sh < bl src s := by rw [← hbn, hsh]; show 8 * (src.length - sn.k) + (sn.nb - 3) < 8 * (src.length - sn.k) + sn.nb; omega
      have hS : Str I src sh := by
        rw [hsh, hsn]
        rw [hsn] at hkn hnn
        exact ⟨⟨by show nb' - 3 ≤ 24; have : nb' ≤ 24 := hnn; omega, hs.rk.t1, hs.rk.t2, hs.rk.bits, hs.rk.cb⟩, hs.blen, hkn, hs.wr, hs.rd, hs.st, hs.dist, .inl hst⟩
      have hte : sh.tr = s.tr := by rw [hsh, hsn]; rfl
      have hee : sh.err = .nilIface := by rw [hsh, hsn]; exact he
      generalize sn.b / 2 % 4 = t at *
      clear hsh hsn q1 q2 q3 hbn hkn hnn h3 hN
      unfold nextT
      by_cases t0 : t = 0
      · rw [if_pos t0]
        have h1 := dataBlock_sto (I := I) (E := E) hS.kle hS.wr hS.rd
        exact h1.aft (h1.str hS.rk hS.blen hS.st hS.dist) hee he ht hte (.inl hbh)
      · rw [if_neg t0]
        by_cases t1 : t = 1
        · rw [if_pos t1]
          unfold fixS
          have hk : HOK I (initH fixLit).2 none { sh with hl := .pointer (some ⟨X, 0, none⟩), hx := (initH fixLit).2, hd := .pointer none } := ⟨.inr (.inr ⟨X, rfl, rfl, rfl⟩), .inl ⟨rfl, rfl⟩, hS.rk.nb, hS.wr, hS.rd⟩
          have h1 := hbS_stop (I := I) (E := E) (src := src) (s := { sh with hl := .pointer (some ⟨X, 0, none⟩), hx := (initH fixLit).2, hd := .pointer none }) (hd := none) hS.kle hS.rk.nb hS.wr hS.rd hS.dist fix_safe (fun t e => by cases e)
          refine h1.aft ?_ hee he ht hte (.inl hbh)
          rcases Classical.em ((hbS I E src (initH fixLit).2 none { sh with hl := .pointer (some ⟨X, 0, none⟩), hx := (initH fixLit).2, hd := .pointer none }).err = .nilIface) with q | q
          · exact .inl (h1.str ⟨hS.rk.nb, hS.rk.t1, hS.rk.t2, hS.rk.bits, hS.rk.cb⟩ hS.blen hS.st hS.dist hee hk fix_safe (fun t e => by cases e) q)
          · exact .inr q
        · rw [if_neg t1]
          by_cases t2 : t = 2
          · rw [if_pos t2]
            have hk := rhS_kept E src sh
            have hb := rhS_kb (src := src) E sh hS.kle
            have hg := rhS_good E src (s := sh) ⟨hS.blen, hS.rk.bits⟩
            have hln := rhS_blen E src (s := sh) hS.blen
            have hrk := hrk t2
            generalize rhS E src sh = R at *
            obtain ⟨rv, sr⟩ := R
            simp only [] at hk hb hg hrk hln
            rcases hg with ⟨hv, g1, g2⟩ | hv | ⟨ro, hv⟩
            · simp only [] at hv g1 g2
              subst hv
              have hrk := hrk rfl
              show Aft I E src s (dynG I E src la lb sr)
              unfold dynG
              have w1 : sr.wr < 32768 := by rw [hk.wr]; exact hS.wr
              have w2 : sr.rd ≤ sr.wr := by rw [hk.wr, hk.rd]; exact hS.rd
              have w3 : sr.st = 0 ∨ sr.st = 1 := by rw [hk.st]; exact hS.st
              have w4 : sr.st = 1 → 1 ≤ sr.dist := by rw [hk.st, hk.dist]; exact hS.dist
              have hkk : HOK I sr.h1 (some sr.h2) { sr.ln la lb with err := .nilIface, hl := .pointer (some ⟨I.F, 5, none⟩), hd := .pointer (some ⟨I.F, 520, none⟩) } := ⟨.inl ⟨rfl, rfl⟩, .inr ⟨sr.h2, rfl, rfl, rfl⟩, hrk.nb, w1, w2⟩
              have h1 := hbS_stop (I := I) (E := E) (src := src) (hd := some sr.h2) (s := { sr.ln la lb with err := .nilIface, hl := .pointer (some ⟨I.F, 5, none⟩), hd := .pointer (some ⟨I.F, 520, none⟩) }) hb.1 hrk.nb w1 w2 w4 g1 (fun t e => by cases e; exact g2)
              refine h1.aft ?_ rfl he ht (hk.tr.trans hte) (.inl (Nat.lt_of_le_of_lt hb.2 hbh))
              rcases Classical.em ((hbS I E src sr.h1 (some sr.h2) { sr.ln la lb with err := .nilIface, hl := .pointer (some ⟨I.F, 5, none⟩), hd := .pointer (some ⟨I.F, 520, none⟩) }).err = .nilIface) with q | q
              · exact .inl (h1.str ⟨hrk.nb, hrk.t1, hrk.t2, hrk.bits, hrk.cb⟩ hln w3 w4 rfl hkk g1 (fun t e => by cases e; exact g2) q)
              · exact .inr q
            · simp only [] at hv
              subst hv
              exact ⟨by show sr.wr < 32768; rw [hk.wr]; exact hS.wr, by show sr.rd ≤ sr.wr; rw [hk.wr, hk.rd]; exact hS.rd, .inl (hk.tr.trans hte), fun q => absurd q (uneV_ne E), meas_dec he ht (.inl (uneV_ne E)), .inr (Bad.une E)⟩
            · simp only [] at hv
              subst hv
              exact ⟨by show sr.wr < 32768; rw [hk.wr]; exact hS.wr, by show sr.rd ≤ sr.wr; rw [hk.wr, hk.rd]; exact hS.rd, .inl (hk.tr.trans hte), fun q => absurd q (corV_ne _), meas_dec he ht (.inl (corV_ne _)), .inr (Bad.cor _)⟩
          · rw [if_neg t2]
            exact ⟨hS.wr, hS.rd, .inl hte, fun q => absurd q (corV_ne _), meas_dec he ht (.inl (corV_ne _)), .inr (Bad.cor _)⟩
end
end Go.Proofs.YtbbnibbdiiffkaaDoor

/- Reading from the decoder: the walk, over any relation that the decoder's steps keep. -/
namespace Go.Proofs.YtbbnibbdiiffkaaDoor
open Go.RowKit

def ErrV (E : Errs) (v : Value) : Prop := v = .nilIface ∨ v = E.eofV ∨ v = E.uneV ∨ ∃ ro, v = corV ro
/-- What is left is flushed, in case of an error. -/
def flE (I : Ids) (s : DS) : DS := if isNil s.err = false ∧ trN s.tr = 0 then outS I s else s
/-- A relation between a decoder's state and what it has given so far that the steps keep. -/
structure Runs (I : Ids) (E : Errs) (src : List Nat) (V : DS → List Nat → Prop) : Prop where
  str : ∀ s g, V s g → s.err = .nilIface → Str I src s
  num : ∀ s g, V s g → s.wr < 32768 ∧ s.rd ≤ s.wr ∧ TrOK I s.tr ∧ ErrV E s.err
  take : ∀ s g n v, V s g → n ≤ trN s.tr → TrOK I v → trN v = trN s.tr - n → trL { s with tr := v } = (trL s).drop n → V { s with tr := v } (g ++ (trL s).take n)
  step : ∀ s g s', V s g → s.err = .nilIface → trN s.tr = 0 → Stp I E src s s' → V (flE I s') g

section
variable {I : Ids} {E : Errs} {src : List Nat} {srcV : Value} {w w' wz : World} {cs : Array Value} {s : DS} {V : DS → List Nat → Prop}
/-- A block beside the decoder. -/
structure Bes (I : Ids) (srcV : Value) (w : World) (Y : Nat) : Prop where
  own : ¬ I.own Y
  lo : I.lo ≤ Y
  src : ∀ b off n c, srcV = .slice (some ⟨b, off, none⟩) n c → b ≠ Y
  ty : ∀ c t, w.heap[Y]? = some (.cells c t (0, 0)) → t = 5
theorem Dec.beside {Y : Nat} (h : Dec I E src srcV w cs s) (hY : Bes I srcV w Y) (hf : Frm (fun k => k = Y) w w') : Dec I E src srcV w' cs s := by
  have hb : ∀ k o, w.heap[k]? = some o → k ≠ Y → w'.heap[k]? = some o := fun k o hk hne => by rw [hf.block k (lt_of_block hk) hne]; exact hk
  have hn : ∀ k, I.own k → k ≠ Y := fun k hk e => hY.own (e ▸ hk)
  obtain ⟨pr, hR⟩ := h.bR
  have hls : ∀ k c t, k = Y → w.heap[k]? = some (.cells c t (0, 0)) → t ≠ 115 ∧ t ≠ 49 := fun k c t e hc => by
    rw [hY.ty c t (e ▸ hc)]; decide
  refine ⟨hb _ _ h.bF (hn _ (.inl rfl)), h.fc, ⟨pr, hb _ _ hR (hn _ (.inr (.inl rfl)))⟩, hb _ _ h.bD (hn _ (.inr (.inr (.inl rfl)))), hb _ _ h.bB (hn _ (.inr (.inr (.inr (.inl rfl))))), hb _ _ h.bC (hn _ (.inr (.inr (.inr (.inr rfl))))),
    h.bS.frm hf (fun b off n c e q => hY.src b off n c e q), h.notOwn, h.gl.frm hf (fun k e => e ▸ hY.lo), h.ok, h.lk1.frm hf hls, h.lk2.frm hf hls, ?_,
    h.hlen, h.blen, h.clen, h.kle, h.small, h.bytes, h.b32, h.nb32, h.ro, h.wr, h.rd, h.dlen, h.ddist⟩
  intro X hX
  obtain ⟨c, lv, q1, q2, q3⟩ := h.tx X hX
  exact ⟨c, lv, hb X _ q1 (fun e => by have := hY.ty c 54 (e ▸ q1); exact absurd this (by decide)), q2, q3.frm hf hls⟩
/-- The steps left, read off memory. -/
def measW (I : Ids) (src : List Nat) (w : World) : Nat :=
  match w.cell? ⟨I.R, 1, none⟩, w.cell? ⟨I.F, 4, none⟩, w.cell? ⟨I.F, 1045, none⟩, w.cell? ⟨I.F, 1048, none⟩, w.cell? ⟨I.F, 1049, none⟩ with
  | some (.int _ k), some (.int _ nb), some st, some er, some tr => measV src.length k.toNat nb.toNat st er tr
  | _, _, _, _, _ => 0
theorem Dec.measW (h : Dec I E src srcV w cs s) : measW I src w = meas src s := by
  obtain ⟨pr, hR⟩ := h.bR
  have cr : w.cell? ⟨I.R, 1, none⟩ = some (.int .i64 s.k) := by simp [World.cell?, hR]
  unfold YtbbnibbdiiffkaaDoor.measW meas
  rw [cr, h.c_nb, h.c_step, h.c_err, h.c_tr]
  rfl
/-- What Read leaves. -/
def RdPost (I : Ids) (E : Errs) (src : List Nat) (srcV : Value) (V : DS → List Nat → Prop) (Y m : Nat) (g : List Nat) (w : World) (r : Ending) (w' : World) : Prop :=
  ∃ (s' : DS) (c' : Array Value) (n : Nat) (ev : Value) (buf : List Nat), r = .returned (.tuple #[vi n, ev]) ∧ Dec I E src srcV w' c' s' ∧ Frm (fun k => I.own k ∨ k = Y) w w' ∧ n ≤ m ∧
    w'.heap[Y]? = some (.cells (bytesA buf) 5 (0, 0)) ∧ buf.length = m ∧ V s' (g ++ buf.take n) ∧ ((ev = .nilIface ∧ 0 < n) ∨ (ev ≠ .nilIface ∧ ev = s'.err ∧ trN s'.tr = 0))
set_option maxRecDepth 100000 in
theorem copy_run {wr : World} {Y m o n c q : Nat} {hist : List Nat} (hY : wr.heap[Y]? = some (.cells (bytesA (List.replicate m 0)) 5 (0, 0))) (hD : wr.heap[I.D]? = some (.cells (bytesA hist) 5 (0, 0))) (hq : q = Nat.min n m) (ho : o + n ≤ hist.length) :
    (Builtin.copy_ #[22, 22] 3 #[.slice (some ⟨Y, 0, none⟩) m m, .slice (some ⟨I.D, o, none⟩) n c]).run Tryd.prog wr = .ok (.int .i64 (q : Int)) (wr.setRow Y (bytesA ((hist.drop o).take q ++ List.replicate (m - q) 0))) := by
  have hqn : q ≤ n := by rw [hq]; exact Nat.min_le_left _ _
  have hqm : q ≤ m := by rw [hq]; exact Nat.min_le_right _ _
  have hlen : (((hist.drop o).take q).map u8).length = q := by rw [List.length_map, List.length_take, List.length_drop]; omega
  rw [run_copy_row (P := Tryd.prog) wr 22 22 3 5 Y 0 m m ⟨I.D, o, none⟩ n c (bytesA (List.replicate m 0)) 5 (((hist.drop o).take q).map u8) Tryd.underlying22 info5s hY (by rw [hlen]; exact hq) ?_ (by rw [hlen]; unfold bytesA; simp; exact hqm) ?_, hlen]
  · congr 2
    unfold bytesA
    simp only [List.take_zero, List.nil_append, List.map_append, Nat.zero_add, List.map_replicate, List.drop_replicate]
  · intro j v hj
    rw [List.getElem?_map] at hj
    cases hx : ((hist.drop o).take q)[j]? with
    | none => rw [hx] at hj; cases hj
    | some x =>
      rw [hx] at hj
      rw [List.getElem?_take] at hx
      split at hx
      · rw [List.getElem?_drop] at hx
        have ea : (⟨I.D, o, none⟩ : Addr).add j = ⟨I.D, o + j, none⟩ := by
          unfold Addr.add
          split
          · rename_i h0; rw [h0]; rfl
          · rfl
        rw [ea]
        simp only [World.cell?, hD, bytesA, List.getElem?_toArray, List.getElem?_map]
        rw [hx]; exact hj
      · cases hx
  · intro v hv
    obtain ⟨x, -, rfl⟩ := List.mem_map.1 hv
    rfl
theorem ErrV.cases {v : Value} (h : ErrV E v) : v = .nilIface ∨ ∃ k x, v = .iface k x := by
  rcases h with h | h | h | ⟨ro, h⟩
  · exact .inl h
  · exact .inr ⟨_, _, h⟩
  · exact .inr ⟨_, _, h⟩
  · exact .inr ⟨_, _, h⟩
theorem TrOK.zero {v : Value} (h : TrOK I v) (h0 : trN v = 0) : ∃ a c, v = .slice a 0 c := by
  rcases h with h | ⟨o, n, c, h, -, -⟩
  · exact ⟨none, 0, h⟩
  · refine ⟨some ⟨I.D, o, none⟩, c, ?_⟩
    rw [h] at h0
    have h0 : n = 0 := h0
    rw [h, h0]
theorem TrOK.pos {v : Value} (h : TrOK I v) (h0 : trN v ≠ 0) : ∃ a n c, v = .slice a n c ∧ 0 < n := by
  rcases h with h | ⟨o, n, c, h, -, -⟩
  · exact absurd (by rw [h]; rfl) h0
  · refine ⟨some ⟨I.D, o, none⟩, n, c, h, ?_⟩
    rw [h] at h0
    exact Nat.pos_of_ne_zero h0
/-- What a step leaves in memory. -/
def StPost (I : Ids) (E : Errs) (src : List Nat) (srcV : Value) (w : World) (s : DS) (r : Ending) (w' : World) : Prop := r = .returned (.tuple #[]) ∧ ∃ s' c', Dec I E src srcV w' c' s' ∧ Imp I w w' ∧ Stp I E src s s'
theorem step_calls (hD : Dec I E src srcV w cs s) (ts : Tidy srcV) (hS : Str I src s) (he : s.err = .nilIface) :
    (s.step = stepV 14 ∧ Calls Tryd.prog 14 #[.pointer (some ⟨I.F, 0, none⟩)] w (StPost I E src srcV w s)) ∨ (s.step = stepV 24 ∧ Calls Tryd.prog 24 #[.pointer (some ⟨I.F, 0, none⟩)] w (StPost I E src srcV w s)) ∨
      (s.step = stepV 38 ∧ Calls Tryd.prog 38 #[.pointer (some ⟨I.F, 0, none⟩)] w (StPost I E src srcV w s)) := by
  rcases hS.step with h | ⟨h, hl, hd, hk, h1, h2⟩ | h
  · refine .inl ⟨h, (nextBlock_any hD hS.rk he hS.st hS.dist ts hS.wr hS.rd).mono ?_⟩
    rintro r w' ⟨rfl, hi, X, la, lb, c', hD', hk'⟩
    exact ⟨rfl, _, c', hD', hi, .next X la lb h hk'⟩
  · refine .inr (.inl ⟨h, (huffmanBlock_any hD hl hd hk h1 h2 hS.st hS.dist).mono ?_⟩)
    rintro r w' ⟨rfl, ⟨c', hD'⟩, hi⟩
    exact ⟨rfl, _, c', hD', hi, .block hl hd h hk h1 h2⟩
  · refine .inr (.inr ⟨h, (copyData_any hD ts hS.wr hS.rd).mono ?_⟩)
    rintro r w' ⟨rfl, ⟨c', hD'⟩, hi⟩
    exact ⟨rfl, _, c', hD', hi, .data h⟩
theorem Frm.own2 {Y : Nat} (h : Imp I w w') : Frm (fun k => I.own k ∨ k = Y) w w' := h.mono fun _ _ e => .inl e
set_option maxRecDepth 100000 in
set_option maxHeartbeats 4000000 in
theorem readD_any (hV : Runs I E src V) (ts : Tidy srcV) (Y m : Nat) (hm : 1 ≤ m) (hm2 : m ≤ 100000) (g : List Nat) (hD : Dec I E src srcV w cs s) (hg : V s g) (hY : Bes I srcV w Y) (hb : w.heap[Y]? = some (.cells (bytesA (List.replicate m 0)) 5 (0, 0))) :
    Calls Tryd.prog 89 #[.pointer (some ⟨I.F, 0, none⟩), .slice (some ⟨Y, 0, none⟩) m m] w (RdPost I E src srcV V Y m g w) := by
  generalize hP : RdPost I E src srcV V Y m g w = Post at *
  have HP := Lib.hid hP
  clear hP
  go_enter Tryd.func89, Tryd.ntmps89
  go_wp2_with fail
  go_loopw [] (fun wr => ∃ (s' : DS) (c' : Array Value), Dec I E src srcV wr c' s' ∧ V s' g ∧ Imp I w wr) (fun wr => measW I src wr)
  case atStart => exact ⟨s, cs, hD, hg, Frm.refl _ _⟩
  case round =>
    obtain ⟨s1, c1, hD1, hg1, f1⟩ := hrel
    obtain ⟨n1, n2, n3, n4⟩ := hV.num s1 g hg1
    have ctr := hD1.c_tr
    by_cases h0 : trN s1.tr = 0
    · obtain ⟨ta, tc, htr⟩ := n3.zero h0
      have htl := trL_nil n3 h0
      rw [htr] at ctr
      have cer := hD1.c_err
      rcases n4.cases with he | ⟨ek, ex, he⟩
      · --[[n
        have hS := hV.str s1 g hg1 he
        have hcalls := step_calls hD1 ts hS he
        have cst := hD1.c_step
        rw [he] at cer
        have HAF : Hid (∀ s2, Stp I E src s1 s2 → Aft I E src s1 s2 ∧ V (flE I s2) g ∧ ErrV E s2.err ∧ TrOK I s2.tr ∧ Str I src s1) := Lib.hid (fun s2 hs => by
          have ha := stp_aft hS he h0 hs
          have hv := hV.step s1 g s2 hg1 he h0 hs
          refine ⟨ha, hv, ?_, ?_, hS⟩
          · have := (hV.num _ _ hv).2.2.2
            unfold flE at this
            split at this
            · rw [(outS_keep s2).2.2.2.2.1] at this; exact this
            · exact this
          · rcases ha.tr with q | q
            · rw [q]; exact n3
            · exact q.1)
        have HME := Lib.hid (hD1.measW)
        have HF1 := Lib.hid f1
        clear hS hV hD HP hg hY hb n1 n2 n3 n4 he htl h0 hg1 htr f1 hD1
        rcases hcalls with ⟨hst, hc⟩ | ⟨hst, hc⟩ | ⟨hst, hc⟩ <;>
        · rw [hst] at cst
          unfold stepV at cst
          clear hst
          go_wp2_with fail
          refine hc.mono ?_
          rintro r w2 ⟨rfl, s2, c2, hD2, f2, hst2⟩
          obtain ⟨haf, hv2, her2, htr2, hS1⟩ := HAF.out s2 hst2
          have f3 : Imp I w w2 := HF1.out.trans f2
          have hms : meas src s2 < meas src s1 := haf.meas
          clear hc f2 cer ctr cst
          rcases her2.cases with he2 | ⟨ek, ex, he2⟩
          · have cer2 := hD2.c_err
            rw [he2] at cer2
            have hfl : flE I s2 = s2 := by unfold flE; rw [he2, if_neg (fun h => by cases h.1)]
            rw [hfl] at hv2
            have HX := Lib.hid (And.intro hD2 (And.intro hv2 (And.intro f3 hms)))
            clear hD2 hv2 f3 hms haf hfl he2 her2 htr2 hS1 hst2
            go_wp2_with fail
            go_roundw
            case rel => exact ⟨s2, c2, HX.out.1, HX.out.2.1, HX.out.2.2.1⟩
            case measure => show measW I src _ < measW I src wr; rw [HX.out.1.measW, HME.out]; exact HX.out.2.2.2
          · have cer2 := hD2.c_err
            rw [he2] at cer2
            have ctr2 := hD2.c_tr
            by_cases ht2 : trN s2.tr = 0
            · obtain ⟨ta2, tc2, htr3⟩ := htr2.zero ht2
              rw [htr3] at ctr2
              have hfl : flE I s2 = outS I s2 := by unfold flE; rw [he2, if_pos ⟨rfl, ht2⟩]
              rw [hfl] at hv2
              have hrf := readFlush_any hD2 (Nat.lt_of_le_of_lt haf.rd haf.wr) haf.rd
              have hm0 : meas src (outS I s2) < meas src s1 := by
                have : meas src (outS I s2) = 0 := meas_zero src _ (fun h => by rw [(outS_keep s2).2.2.2.2.1, he2] at h; cases h.1)
                omega
              have HX := Lib.hid (And.intro hv2 (And.intro f3 hm0))
              clear hD2 hv2 f3 hms haf hfl he2 her2 htr2 hS1 hst2 hm0 ht2
              obtain ⟨oa, on, oc, hov⟩ : ∃ oa on oc, I.out s2 = .slice oa on oc := ⟨_, _, _, rfl⟩
              rw [hov] at hrf
              have HOV := Lib.hid hov
              clear hov
              go_wp2_with fail
              refine hrf.mono ?_
              rintro r w4 ⟨rfl, ⟨c4, hD4⟩, f4⟩
              have ztr := hD4.fz 1049
              have ctr4 := hD4.c_tr
              have hD5 := hD4.set_tr (.slice oa on oc)
              obtain ⟨c5, hD5'⟩ : ∃ c5, Dec I E src srcV (w4.setCell ⟨I.F, 1049, none⟩ (.slice oa on oc)) c5 (outS I s2) := ⟨_, by unfold outS; rw [HOV.out]; exact hD5⟩
              have HD5 := Lib.hid (And.intro hD5' ((HX.out.2.1.trans f4).trans (Imp.setF I _ 1049 (.slice oa on oc))))
              clear hD5'
              clear hrf hD4 hD5 f4
              go_wp2_with fail
              go_roundw
              case rel => exact ⟨outS I s2, _, HD5.out.1, HX.out.1, HD5.out.2⟩
              case measure => show measW I src _ < measW I src wr; rw [Dec.measW (s := outS I s2) HD5.out.1, HME.out]; exact HX.out.2.2
            · obtain ⟨ta2, tn2, tc2, htr3, hpos⟩ := htr2.pos ht2
              rw [htr3] at ctr2
              have y1 : ¬ (tn2 : Int) = 0 := by omega
              have hfl : flE I s2 = s2 := by unfold flE; rw [if_neg (fun h => ht2 h.2)]
              rw [hfl] at hv2
              have HX := Lib.hid (And.intro hD2 (And.intro hv2 (And.intro f3 hms)))
              clear hD2 hv2 f3 hms haf hfl he2 her2 htr2 hS1 hst2 ht2 hpos
              go_wp2_with fail
              go_roundw
              case rel => exact ⟨s2, c2, HX.out.1, HX.out.2.1, HX.out.2.2.1⟩
              case measure => show measW I src _ < measW I src wr; rw [HX.out.1.measW, HME.out]; exact HX.out.2.2.2
      · --[[e
        have HB : Hid (∀ w3 c3, Dec I E src srcV w3 c3 s1 → Frm (fun k => I.own k ∨ k = Y) w w3 → w3.heap[Y]? = some (.cells (bytesA (List.replicate m 0)) 5 (0, 0)) → Post (.returned (.tuple #[vi 0, .iface ek ex])) w3) := Lib.hid (by
          intro w3 c3 h1 h2 h3
          rw [← HP.out]
          refine ⟨s1, c3, 0, .iface ek ex, List.replicate m 0, rfl, h1, h2, Nat.zero_le _, h3, List.length_replicate, ?_, .inr ⟨(fun h => by cases h), he.symm, h0⟩⟩
          rw [List.take_zero, List.append_nil]; exact hg1)
        rw [he] at cer
        have hY3 : wr.heap[Y]? = some (.cells (bytesA (List.replicate m 0)) 5 (0, 0)) := by rw [f1.block Y (lt_of_block hb) hY.own]; exact hb
        have HD3 := Lib.hid (And.intro hD1 (And.intro (Frm.own2 (Y := Y) f1) hY3))
        clear hY3 f1 hD1 hg1 htr htl n1 n2 n3 n4 hV hY hb hg h0 he HP hD
        go_wp2_with fail
        go_quiet (fail)
        go_wp2_with fail
        first | go_returns | go_ret2 | skip
        exact HB.out _ _ (HD3.out.1.drewN nq) (HD3.out.2.1.drewN nq) HD3.out.2.2
    · rcases n3 with n3 | ⟨o, n, c, n3, n5, n6⟩
      · exact absurd (by rw [n3]; rfl) h0
      · have hn0 : 0 < n := by rw [n3] at h0; exact Nat.pos_of_ne_zero h0
        have hYr : wr.heap[Y]? = some (.cells (bytesA (List.replicate m 0)) 5 (0, 0)) := by rw [f1.block Y (lt_of_block hb) hY.own]; exact hb
        have hBr : Bes I srcV wr Y := ⟨hY.own, hY.lo, hY.src, fun c t e => by rw [hYr] at e; cases e; rfl⟩
        obtain ⟨q, hq⟩ : ∃ q, q = Nat.min n m := ⟨_, rfl⟩
        have hqn : q ≤ n := by rw [hq]; exact Nat.min_le_left _ _
        have hqm : q ≤ m := by rw [hq]; exact Nat.min_le_right _ _
        have hq1 : 0 < q := by rw [hq]; exact Nat.lt_min.2 ⟨hn0, hm⟩
        have hor : q = n ∨ q < n := by omega
        have hrun := copy_run (I := I) (c := c) hYr hD1.bD hq (by rw [hD1.hlen]; exact n6)
        have hD2 := hD1.beside hBr (Frm.setRow (S := fun k => k = Y) (Frm.refl _ wr) (g := Y) rfl (bytesA ((s1.hist.drop o).take q ++ List.replicate (m - q) 0)))
        have hY2 : (wr.setRow Y (bytesA ((s1.hist.drop o).take q ++ List.replicate (m - q) 0))).heap[Y]? = some (.cells (bytesA ((s1.hist.drop o).take q ++ List.replicate (m - q) 0)) 5 (0, 0)) := setRow_heap _ _ _ _ _ _ hYr
        have f2 : Frm (fun k => I.own k ∨ k = Y) w (wr.setRow Y (bytesA ((s1.hist.drop o).take q ++ List.replicate (m - q) 0))) := (Frm.own2 f1).setRow (.inr rfl) _
        have hbl : ((s1.hist.drop o).take q).length = q := by rw [List.length_take, List.length_drop, hD1.hlen]; omega
        have htl : (trL s1).take q = (s1.hist.drop o).take q := by unfold trL; rw [n3]; simp only [List.take_take]; rw [Nat.min_eq_left hqn]
        obtain ⟨buf, hbuf⟩ : ∃ buf, buf = (s1.hist.drop o).take q ++ List.replicate (m - q) 0 := ⟨_, rfl⟩
        rw [← hbuf] at hrun hD2 hY2 f2
        have hb1 : buf.length = m := by rw [hbuf, List.length_append, hbl, List.length_replicate]; omega
        have hb2 : buf.take q = (trL s1).take q := by rw [htl, hbuf]; exact List.take_left' hbl
        have HB : Hid (∀ (v : Value) (w3 : World) (c3 : Array Value) (ev : Value), TrOK I v → trN v = n - q → trL { s1 with tr := v } = (trL s1).drop q → Dec I E src srcV w3 c3 { s1 with tr := v } → Frm (fun k => I.own k ∨ k = Y) w w3 → w3.heap[Y]? = some (.cells (bytesA buf) 5 (0, 0)) →
            (ev = .nilIface ∨ (ev = s1.err ∧ n - q = 0)) → Post (.returned (.tuple #[vi q, ev])) w3) := Lib.hid (by
          intro v w3 c3 ev h1 h2 h3 h4 h5 h6 h7
          rw [← HP.out]
          refine ⟨{ s1 with tr := v }, c3, q, ev, buf, rfl, h4, h5, hqm, h6, hb1, ?_, ?_⟩
          · rw [hb2]
            exact hV.take s1 g q v hg1 (by rw [n3]; exact hqn) h1 (by rw [n3]; exact h2) h3
          · rcases h7 with h7 | ⟨h7, h8⟩
            · exact .inl ⟨h7, hq1⟩
            · rcases Classical.em (ev = .nilIface) with q1 | q1
              · exact .inl ⟨q1, hq1⟩
              · exact .inr ⟨q1, h7, h2.trans h8⟩)
        have htd : ∀ k l d, trL { s1 with tr := .slice (some ⟨I.D, k, none⟩) l d } = (s1.hist.drop k).take l := fun k l d => rfl
        have htd1 : (trL s1).drop q = (s1.hist.drop (o + q)).take (n - q) := by unfold trL; rw [n3]; simp only [List.drop_take, List.drop_drop]
        rw [n3] at ctr
        have y1 : (0 : Int) < (n : Int) := Int.ofNat_lt.2 hn0
        have HRUN := Lib.hid hrun
        have HSRC := Lib.hid (And.intro hD2 (And.intro hY2 f2))
        have ctr2 := hD2.c_tr
        have ztr2 := hD2.fz 1049
        rw [n3] at ctr2
        have HTD := Lib.hid htd
        have HTD1 := Lib.hid htd1
        have HNUM := Lib.hid (And.intro hqn (And.intro hqm (And.intro n5 n6)))
        have HQ := Lib.hid hq
        clear hq htd htd1 hqn hqm hq1 hn0 n1 n2 n3 n4 n5 n6 h0 hg1 hrun htl hbl hb1 hb2 hbuf hYr hBr f1 hD2 hY2 f2 HP
        rcases hor with rfl | hlt
        · by_cases hcq : c = q
          · subst hcq
            have hD3 := HSRC.out.1.set_tr (.slice (some ⟨I.D, o, none⟩) 0 0)
            have hY3 : ((wr.setRow Y (bytesA buf)).setCell ⟨I.F, 1049, none⟩ (.slice (some ⟨I.D, o, none⟩) 0 0)).heap[Y]? = some (.cells (bytesA buf) 5 (0, 0)) := by rw [heap_setCell_other _ _ _ _ (fun e => hY.own (.inl e))]; exact HSRC.out.2.1
            have f3 := HSRC.out.2.2.trans (Frm.own2 (Y := Y) (Imp.setF I (wr.setRow Y (bytesA buf)) 1049 (.slice (some ⟨I.D, o, none⟩) 0 0)))
            have ctr3 := hD3.c_tr
            have cer3 := hD3.c_err
            have HD3 := Lib.hid (And.intro hD3 (And.intro f3 hY3))
            clear hD3 f3 hY3
            go_wp2_with fail
            rw [HRUN.out]
            go_wp2_with fail
            go_quiet (fail)
            go_wp2_with fail
            first | go_returns | go_ret2 | skip
            exact HB.out (.slice (some ⟨I.D, o, none⟩) 0 0) _ _ _ (.inr ⟨o, 0, 0, rfl, Nat.le_refl _, by have := HNUM.out.2.2.2; omega⟩) (by rw [Nat.sub_self]; rfl) (by rw [HTD.out, HTD1.out, Nat.sub_self, List.take_zero, List.take_zero]) (HD3.out.1.drewN nq) (HD3.out.2.1.drewN nq) HD3.out.2.2 (.inr ⟨rfl, Nat.sub_self _⟩)
          · have hD3 := HSRC.out.1.set_tr (.slice (some ⟨I.D, o + q, none⟩) 0 (c - q))
            have hY3 : ((wr.setRow Y (bytesA buf)).setCell ⟨I.F, 1049, none⟩ (.slice (some ⟨I.D, o + q, none⟩) 0 (c - q))).heap[Y]? = some (.cells (bytesA buf) 5 (0, 0)) := by rw [heap_setCell_other _ _ _ _ (fun e => hY.own (.inl e))]; exact HSRC.out.2.1
            have f3 := HSRC.out.2.2.trans (Frm.own2 (Y := Y) (Imp.setF I (wr.setRow Y (bytesA buf)) 1049 (.slice (some ⟨I.D, o + q, none⟩) 0 (c - q))))
            have ctr3 := hD3.c_tr
            have cer3 := hD3.c_err
            have HD3 := Lib.hid (And.intro hD3 (And.intro f3 hY3))
            clear hD3 f3 hY3
            go_wp2_with fail
            rw [HRUN.out]
            go_wp2_with fail
            go_quiet (fail)
            go_wp2_with fail
            first | go_returns | go_ret2 | skip
            exact HB.out (.slice (some ⟨I.D, o + q, none⟩) 0 (c - q)) _ _ _ (.inr ⟨o + q, 0, c - q, rfl, Nat.zero_le _, by have := HNUM.out.2.2.2; omega⟩) (by rw [Nat.sub_self]; rfl) (by rw [HTD.out, HTD1.out, Nat.sub_self]) (HD3.out.1.drewN nq) (HD3.out.2.1.drewN nq) HD3.out.2.2 (.inr ⟨rfl, Nat.sub_self _⟩)
        · obtain rfl : q = m := by
            rcases Nat.le_total n m with h | h
            · exact absurd ((HQ.out).trans (Nat.min_eq_left h)) (Nat.ne_of_lt hlt)
            · exact (HQ.out).trans (Nat.min_eq_right h)
          have hcq : ¬ c = q := by have := HNUM.out.2.2.1; omega
          obtain ⟨r, hr⟩ : ∃ r, r = n - q := ⟨_, rfl⟩
          have y4 : n - q = r := hr.symm
          have y5 : (q : Int) ≤ (n : Int) := by omega
          have y6 : (q : Int) ≤ (c : Int) := by have := HNUM.out.2.2.1; omega
          have y7 : ¬ ((r : Int) == 0) = true := by rw [beq_iff_eq]; omega
          have y8 : (n : Int) - (q : Int) = (r : Int) := by omega
          have y9 : (n : Int) ≤ (c : Int) := by have := HNUM.out.2.2.1; omega
          have y10 : ¬ (r : Int) = 0 := by omega
          clear hr y7
          have hD3 := HSRC.out.1.set_tr (.slice (some ⟨I.D, o + q, none⟩) r (c - q))
          have hY3 : ((wr.setRow Y (bytesA buf)).setCell ⟨I.F, 1049, none⟩ (.slice (some ⟨I.D, o + q, none⟩) r (c - q))).heap[Y]? = some (.cells (bytesA buf) 5 (0, 0)) := by rw [heap_setCell_other _ _ _ _ (fun e => hY.own (.inl e))]; exact HSRC.out.2.1
          have f3 := HSRC.out.2.2.trans (Frm.own2 (Y := Y) (Imp.setF I (wr.setRow Y (bytesA buf)) 1049 (.slice (some ⟨I.D, o + q, none⟩) r (c - q))))
          have ctr3 := hD3.c_tr
          have cer3 := hD3.c_err
          have HD3 := Lib.hid (And.intro hD3 (And.intro f3 hY3))
          clear hD3 f3 hY3
          go_wp2_with fail
          rw [HRUN.out]
          go_wp2_with fail
          first | go_returns | go_ret2 | skip
          exact HB.out (.slice (some ⟨I.D, o + q, none⟩) r (c - q)) _ _ _ (.inr ⟨o + q, r, c - q, rfl, by have := HNUM.out.2.2.1; omega, by have := HNUM.out.2.2.2; omega⟩) y4.symm (by rw [HTD.out, HTD1.out, y4]) HD3.out.1 HD3.out.2.1 HD3.out.2.2 (.inl rfl)
end
end Go.Proofs.YtbbnibbdiiffkaaDoor
