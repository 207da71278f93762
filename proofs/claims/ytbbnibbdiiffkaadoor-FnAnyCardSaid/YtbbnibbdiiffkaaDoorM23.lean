/- The decoder against the reference: a pass through a block of codes. The decoder against the reference: stored bytes. -/
import Derived.Test.YtbbnibbdiiffkaaDoorM20
import Derived.Test.YtbbnibbdiiffkaaDoorM22

/- The decoder against the reference: a pass through a block of codes. -/
namespace Go.Proofs.YtbbnibbdiiffkaaDoor
open Go.RowKit

/-- An end that the reference tells. -/
def Live (e : Int) : Prop := e = 1 ∨ e = 2 ∨ e = 3
/-- The decoder has stopped where the reference says. -/
structure Ended (E : Errs) (FR : Nat × List Nat × Int) (s : DS) (out : List Nat) : Prop where
  one : FR.2.2 = 1 → s.err = E.eofV ∧ out = FR.2.1
  two : FR.2.2 = 2 → s.err ≠ E.eofV ∧ s.err ≠ .nilIface
  three : FR.2.2 = 3 → s.err = E.uneV
  pre : out <+: FR.2.1
/-- The tables of a block. -/
structure CB (lit dist : List Nat) (hl : HD) (hd : Option HD) : Prop where
  lt : TabF hl lit
  wl : Whole lit
  e1 : 0 < lit.getD 256 0
  mn : hl.min ≤ lit.getD 256 0
  d : (hd = none ∧ dist = fixDist) ∨ ∃ h, hd = some h ∧ (usedL dist = 0 ∨ (TabF h dist ∧ ∀ i, i < dist.length → 0 < dist.getD i 0 → h.min ≤ dist.getD i 0))
/-- A decoder at some place of the source. -/
structure At (src D : List Nat) (nbm : Nat) (s : DS) (p : Nat) (out : List Nat) : Prop where
  bits : Bits src p s.k s.b s.nb
  ple : p ≤ 8 * src.length
  nb : s.nb ≤ nbm
  win : Win s (D ++ out)
  ol : out.length ≤ 131072
  er : s.err = .nilIface
def dStep2 (src D : List Nat) (out : List Nat) (len d p : Nat) : Bool × Nat × List Nat × Int :=
  if (distanceL d).1 = 0 then (true, p, out, 2) else (false, (bitsAt src p (-1) (distanceL d).2).2.1, (farS D out (bitsAt src p (-1) (distanceL d).2).2.2 len ((distanceL d).1 + (bitsAt src p (-1) (distanceL d).2).1)).1, (farS D out (bitsAt src p (-1) (distanceL d).2).2.2 len ((distanceL d).1 + (bitsAt src p (-1) (distanceL d).2).1)).2)
/-- A distance in the reference, its symbol read. -/
def dStep (src D : List Nat) (out : List Nat) (len : Nat) (t : Nat × Nat × Int) : Bool × Nat × List Nat × Int :=
  if t.2.2 < 0 then dStep2 src D out len t.1 t.2.1 else (true, t.2.1, out, t.2.2)
def Cp (s : DS) : Prop := s.st = 1 → s.len = 0 ∧ s.dist ≤ histN s

theorem fixD_all : ((List.range 32).all fun i => cdL fixDist i == i && fixDist.getD i 0 == 5) = true := by kernel_rfl
theorem fixD_at {i : Nat} (h : i < 32) : cdL fixDist i = i ∧ fixDist.getD i 0 = 5 := by
  have := List.all_eq_true.1 fixD_all i (List.mem_range.2 h)
  rw [Bool.and_eq_true, beq_iff_eq, beq_iff_eq] at this
  exact this
theorem fixD_fine : Fine fixDist := by
  refine ⟨fix_le.2, ?_⟩
  have h := roomL_en fixDist fix_le.2
  have e : roomL fixDist = 0 := by kernel_rfl
  omega
theorem symGo_e (M : List (Nat × Nat)) (src : List Nat) : ∀ n c p, (symGo M src n c p).2.2 = -1 ∨ 0 ≤ (symGo M src n c p).2.2 := by
  intro n
  induction n with
  | zero => intro c p; exact .inr (show (0 : Int) ≤ 0 by decide)
  | succ n ih =>
    intro c p
    rw [symGo]
    split
    · split
      · exact .inl rfl
      · split
        · exact .inr (show (0 : Int) ≤ 0 by decide)
        · exact ih _ _
    · exact .inr (show (0 : Int) ≤ 3 by decide)
theorem symS_e (M : List (Nat × Nat)) (src : List Nat) (p : Nat) (h : (symS M src p (-1)).2.2 < 0) : (symS M src p (-1)).2.2 = -1 := by
  have e : symS M src p (-1) = symGo M src 15 1 p := if_pos (by decide)
  rw [e] at h ⊢
  rcases symGo_e M src 15 1 p with q | q
  · exact q
  · omega
theorem lengthL_pos {v : Nat} (h1 : 257 ≤ v) (h2 : v < 286) : (lengthL v).1 ≠ 0 := by
  unfold lengthL
  split
  · decide
  · split
    · show v - 254 ≠ 0; omega
    · rw [if_pos (by omega)]
      show 3 + _ ≠ 0
      omega
theorem lengthL_none {v : Nat} (h : 286 ≤ v) : (lengthL v).1 = 0 := by
  unfold lengthL
  rw [if_neg (by omega), if_neg (by omega), if_neg (by omega)]
section
variable {E : Errs} {src D : List Nat} {FR : Nat × List Nat × Int} {lit dist : List Nat} {hl : HD} {hd : Option HD} {I : Ids} {s : DS} {base : List Nat}
theorem eof_ne_une (E : Errs) (h : E.eof ≠ E.une) : E.uneV ≠ E.eofV ∧ E.uneV ≠ .nilIface := by
  refine ⟨fun e => ?_, uneV_ne E⟩
  unfold Errs.uneV Errs.eofV at e
  simp only [Value.iface.injEq, Value.pointer.injEq, Option.some.injEq] at e
  exact h e.2.symm
theorem cor_ne_eof (E : Errs) (r : Nat) : corV r ≠ E.eofV ∧ corV r ≠ .nilIface := by
  refine ⟨fun e => ?_, corV_ne r⟩
  unfold corV Errs.eofV at e
  simp only [Value.iface.injEq] at e
  exact absurd e.1 (by decide)
theorem extH_app (H : List Nat) (d n : Nat) : ∃ x, extH H d n = H ++ x ∧ x.length = n := by
  induction n with
  | zero => exact ⟨[], (List.append_nil H).symm, rfl⟩
  | succ n ih =>
    obtain ⟨x, h1, h2⟩ := ih
    exact ⟨x ++ [(extH H d n).getD ((extH H d n).length - d) 0], by rw [extH, h1, List.append_assoc], by rw [List.length_append, h2]; rfl⟩
theorem pend_grow {s s' : DS} {H x : List Nat} (h : Win s H) (h' : Win s' (H ++ x)) (hw : s'.wr = s.wr + x.length) (hr : s'.rd = s.rd) (hle : s.rd ≤ s.wr) : pend s' = pend s ++ x := by
  have a := h.wrH.1
  rw [h.pend, h'.pend, List.length_append, hw, hr, show H.length + x.length - (s.wr + x.length) + s.rd = H.length - s.wr + s.rd by omega]
  exact List.drop_append_of_le_length (by omega)
theorem pend_nil {s : DS} (h : s.wr ≤ s.rd) : pend s = [] := by
  unfold pend
  exact List.drop_eq_nil_of_le (by rw [List.length_take]; exact Nat.le_trans (Nat.min_le_left _ _) h)
theorem trL_out (s : DS) (_hl : s.hist.length = 32768) : trL (outS I s) = pend s := by
  have e : (outS I s).tr = .slice (some ⟨I.D, s.rd, none⟩) (s.wr - s.rd) (32768 - s.rd) := rfl
  have e2 : (outS I s).hist = s.hist := by unfold outS flushS; split <;> rfl
  unfold trL
  rw [e, e2]
  unfold pend
  rw [List.drop_take]
theorem outS_win {s : DS} {H : List Nat} (h : Win s H) : Win (outS I s) H := by
  have hf := h.flush
  exact ⟨hf.len, hf.le, hf.part, hf.whole, hf.at_, hf.get⟩
theorem Win.of {s s' : DS} {H : List Nat} (h : Win s H) (e1 : s'.hist = s.hist) (e2 : s'.wr = s.wr) (e3 : s'.full = s.full) : Win s' H :=
  ⟨by rw [e1]; exact h.len, by rw [e2]; exact h.le, by rw [e2, e3]; exact h.part, by rw [e3]; exact h.whole, by rw [e2]; exact h.at_, by rw [e1]; exact h.get⟩
def LitR (src D : List Nat) (FR : Nat × List Nat × Int) (lit dist base : List Nat) (s : DS) : Prop :=
  ∃ p out, KC src D FR s.final lit dist p out ∧ At src D (lit.getD 256 0 + 7) s p out ∧ Cp s ∧ base ++ pend s = out
def CopyR (src D : List Nat) (FR : Nat × List Nat × Int) (lit dist base : List Nat) (s : DS) : Prop :=
  ∃ p out out2, KC src D FR s.final lit dist p out2 ∧ At src D (lit.getD 256 0 + 7) s p out ∧ out2.length ≤ 131072 ∧ 1 ≤ s.dist ∧ s.dist ≤ histN s ∧ D ++ out2 = extH (D ++ out) s.dist s.len ∧ base ++ pend s = out
def PauseR (src D : List Nat) (FR : Nat × List Nat × Int) (lit dist : List Nat) (s : DS) (out : List Nat) : Prop :=
  ∃ p out2, KC src D FR s.final lit dist p out2 ∧ At src D (lit.getD 256 0 + 7) s p out ∧ out2.length ≤ 131072 ∧ ((s.st = 0 ∧ out2 = out) ∨ (s.st = 1 ∧ 1 ≤ s.dist ∧ s.dist ≤ histN s ∧ D ++ out2 = extH (D ++ out) s.dist s.len))
def NextR (src D : List Nat) (FR : Nat × List Nat × Int) (s : DS) (out : List Nat) : Prop := ∃ p, KB src D FR p out ∧ At src D 7 s p out ∧ s.final = false ∧ Cp s
def DoneR (E : Errs) (src D : List Nat) (FR : Nat × List Nat × Int) (lit dist base : List Nat) (s : DS) : Prop :=
  ∃ out, base ++ trL s ++ pend s = out ∧ (Ended E FR s out ∨ (s.step = stepV 24 ∧ PauseR src D FR lit dist s out) ∨ (s.step = stepV 14 ∧ NextR src D FR s out))
/-- An error in the block. -/
theorem err_done (ht : trL s = []) {s' : DS} {out : List Nat} (e1 : s'.hist = s.hist) (e2 : s'.wr = s.wr) (e3 : s'.rd = s.rd) (e4 : s'.tr = s.tr) (hb : base ++ pend s = out) (he : Ended E FR s' out) : DoneR E src D FR lit dist base s' := by
  refine ⟨out, ?_, .inl he⟩
  have a : trL s' = [] := by unfold trL at ht ⊢; rw [e4, e1]; exact ht
  have b : pend s' = pend s := by unfold pend; rw [e1, e2, e3]
  rw [a, b, List.append_nil]; exact hb
theorem trL_zero {s : DS} (h : trN s.tr = 0) : trL s = [] := by
  unfold trL
  split
  · rename_i a n c e
    rw [e] at h
    have h : n = 0 := h
    rw [h]; exact List.take_zero
  · rfl
variable (hne : E.eof ≠ E.une) (live : Live FR.2.2)
include hne live
omit live in
/-- The reference is short where the decoder is. -/
theorem short_end {b : Bool} {p : Nat} {out : List Nat} (h : KF src D FR b (p, out, 3)) {s' : DS} (he : s'.err = E.uneV) : Ended E FR s' out := by
  have e := h.bad (show (0 : Int) ≤ 3 by decide)
  refine ⟨fun q => ?_, fun _ => by rw [he]; exact eof_ne_une E hne, fun _ => he, h.pre⟩
  rw [e] at q
  exact absurd (show (3 : Int) = 1 from q) (by decide)
omit live hne in
/-- The reference says wrong, and so does the decoder. -/
theorem wrong_end {b : Bool} {p : Nat} {out : List Nat} (h : KF src D FR b (p, out, 2)) {s' : DS} {r : Nat} (he : s'.err = corV r) : Ended E FR s' out := by
  have e := h.bad (show (0 : Int) ≤ 2 by decide)
  refine ⟨fun q => ?_, fun _ => by rw [he]; exact cor_ne_eof E r, fun q => ?_, h.pre⟩
  · rw [e] at q; exact absurd (show (2 : Int) = 1 from q) (by decide)
  · rw [e] at q; exact absurd (show (2 : Int) = 3 from q) (by decide)
omit live in
/-- The decoder wants more bits than there are, early. -/
theorem early_end {out : List Nat} (h1 : FR.2.2 ≠ 1) (hp : out <+: FR.2.1) {s' : DS} (he : s'.err = E.uneV) : Ended E FR s' out :=
  ⟨fun q => absurd q h1, fun _ => by rw [he]; exact eof_ne_une E hne, fun _ => he, hp⟩
omit hne in
theorem dead {b : Bool} {p : Nat} {out : List Nat} {k : Int} (h : KF src D FR b (p, out, k)) (hk : k = 0 ∨ k = 4) : False := by
  have e := h.bad (by show 0 ≤ k; omega)
  rw [e] at live
  unfold Live at live
  simp only [] at live
  omega
/-- A distance, and the copy it asks for. -/
theorem far_sim {len d p0 p : Nat} {out : List Nat} {r : Bool × Nat × List Nat × Int} (hK1 : r.1 = false → 0 ≤ r.2.2.2 → KF src D FR s.final r.2) (hK2 : r.1 = false → r.2.2.2 = -1 → p0 < r.2.1 → KC src D FR s.final lit dist r.2.1 r.2.2.1) (hpp : p0 < p)
    (hr : r = (false, p, (farS D out (-1) len d).1, (farS D out (-1) len d).2)) (hA : At src D (lit.getD 256 0 + 7) s p out) (hb : base ++ pend s = out) (ht : trN s.tr = 0) (hd1 : 1 ≤ d) (_hdl : D.length ≤ 32768) :
    HBP (LitR src D FR lit dist base) (CopyR src D FR lit dist base) (DoneR E src D FR lit dist base) (hbFar len d s) := by
  have _ := hne
  subst hr
  have hH := hA.win.hist
  have hol := hA.ol
  rw [List.length_append] at hH
  unfold hbFar
  by_cases hf : histN s < d
  · rw [if_pos hf]
    have hw : 32768 < d ∨ D.length + out.length < d := by
      rw [hH] at hf
      rcases Nat.lt_or_ge 32768 d with q | q
      · exact .inl q
      · right
        rcases Nat.le_total (D.length + out.length) 32768 with q1 | q1
        · rw [show Nat.min (D.length + out.length) 32768 = D.length + out.length from Nat.min_eq_left q1] at hf; exact hf
        · rw [show Nat.min (D.length + out.length) 32768 = 32768 from Nat.min_eq_right q1] at hf; omega
    have e : farS D out (-1) len d = (out, 2) := by unfold farS; rw [if_pos (by decide), if_pos hw]
    rw [e] at hK1
    exact err_done (trL_zero ht) rfl rfl rfl rfl hb (wrong_end (r := s.ro) (hK1 rfl (show (0 : Int) ≤ 2 by decide)) rfl)
  · rw [if_neg hf]
    have hw : ¬ (32768 < d ∨ D.length + out.length < d) := by
      rw [hH] at hf
      have h1 : Nat.min (D.length + out.length) 32768 ≤ 32768 := Nat.min_le_right _ _
      have h2 : Nat.min (D.length + out.length) 32768 ≤ D.length + out.length := Nat.min_le_left _ _
      omega
    have e : farS D out (-1) len d = farGo D d out (-1) len := by unfold farS; rw [if_pos (by decide), if_neg hw]
    rw [e] at hK1 hK2
    by_cases hlong : out.length + len ≤ 131072
    · obtain ⟨g1, g2, g3⟩ := farGo_ext D out d (by omega) len hlong
      have hk := hK2 rfl g1 hpp
      exact ⟨p, out, (farGo D d out (-1) len).1, hk, ⟨hA.bits, hA.ple, hA.nb, hA.win.of rfl rfl rfl, hA.ol, hA.er⟩, by omega, hd1, by show d ≤ histN s; omega, g2, hb⟩
    · have g := farGo_long D out d len hol (by omega)
      have hk := hK1 rfl (by show 0 ≤ (farGo D d out (-1) len).2; rw [g]; decide)
      have hk2 : KF src D FR s.final (p, (farGo D d out (-1) len).1, (farGo D d out (-1) len).2) := hk
      rw [g] at hk2
      exact (dead live hk2 (.inr rfl)).elim
variable (hby : ∀ x ∈ src, x < 256)
include hby
/-- The rest of a distance. -/
theorem dist_sim {len d p0 p : Nat} {out : List Nat} {r : Bool × Nat × List Nat × Int} (hK0 : r.1 = true → KF src D FR s.final r.2) (hK1 : r.1 = false → 0 ≤ r.2.2.2 → KF src D FR s.final r.2) (hK2 : r.1 = false → r.2.2.2 = -1 → p0 < r.2.1 → KC src D FR s.final lit dist r.2.1 r.2.2.1) (hpp : p0 < p)
    (hr : r = dStep2 src D out len d p)
    (hA : At src D (lit.getD 256 0 + 7) s p out) (hb : base ++ pend s = out) (ht : trN s.tr = 0) (hdl : D.length ≤ 32768) :
    HBP (LitR src D FR lit dist base) (CopyR src D FR lit dist base) (DoneR E src D FR lit dist base) (hbDist E src len d s) := by
  unfold dStep2 at hr
  unfold hbDist
  by_cases h4 : d < 4
  · rw [if_pos h4]
    have e : distanceL d = (d + 1, 0) := by unfold distanceL; rw [if_pos (by omega)]
    rw [e, if_neg (by simp)] at hr
    exact far_sim hne live hK1 hK2 hpp hr hA hb ht (by omega) hdl
  · rw [if_neg h4]
    by_cases h30 : d < 30
    · rw [if_pos h30]
      obtain ⟨x, hx⟩ : ∃ x, x = (d - 2) / 2 := ⟨_, rfl⟩
      have e : distanceL d = (1 + (2 + d % 2) * 2 ^ x, x) := by
        unfold distanceL
        rw [if_neg (by omega), if_pos (by omega), hx, show d / 2 - 1 = (d - 2) / 2 by omega]
      rw [← hx]
      rw [e, if_neg (by simp only []; omega)] at hr
      simp only [] at hr
      have hx16 : x ≤ 32 := by omega
      by_cases hle : p + x ≤ 8 * src.length
      · obtain ⟨n1, k, ro, b, nb, n2, n3, n4, n5, n6⟩ := need_ok hby hA.bits hx16 hle
        rw [if_pos n1, n4]
        rw [bitsAt_ok src p x hle] at hr
        simp only [] at hr
        have hdist : 2 ^ (x + 1) + 1 + (d % 2 * 2 ^ x + (need src x 4 s).2.b % 2 ^ x) = 1 + (2 + d % 2) * 2 ^ x + leL src p x := by
          rw [n2]
          simp only []
          rw [n3, Nat.pow_succ, Nat.add_mul]
          omega
        rw [hdist]
        refine far_sim (s := { s with k := k, ro := ro, b := b / 2 ^ x, nb := nb - x }) hne live hK1 hK2 (Nat.lt_of_lt_of_le hpp (Nat.le_add_right p x)) hr ⟨n5, hle, ?_, hA.win.of rfl rfl rfl, hA.ol, hA.er⟩ hb ht (by omega) hdl
        have := hA.nb
        show nb - x ≤ lit.getD 256 0 + 7
        omega
      · rw [if_neg (by rw [need_eof hby hA.bits hx16 (by omega)]; decide)]
        have hs := bitsAt_short src p x (by omega) hA.ple
        obtain ⟨k, ro, b, nb, e2⟩ := need_keep src x 4 s
        generalize bitsAt src p (-1) x = u at *
        obtain ⟨y1, y2, y3⟩ := u
        simp only [Prod.mk.injEq] at hs hr
        obtain ⟨rfl, rfl⟩ := hs
        have e3 : farS D out 3 len (1 + (2 + d % 2) * 2 ^ x + y1) = (out, 3) := if_neg (by decide)
        rw [e3] at hr
        subst hr
        refine err_done (s := s) (trL_zero ht) ?_ ?_ ?_ ?_ hb (short_end hne (hK1 rfl (show (0 : Int) ≤ 3 by decide)) rfl) <;> (rw [e2])
    · rw [if_neg h30]
      have e : distanceL d = (0, 0) := by unfold distanceL; rw [if_neg (by omega), if_neg (by omega)]
      rw [e, if_pos rfl] at hr
      subst hr
      exact err_done (s := s) (trL_zero ht) rfl rfl rfl rfl hb (wrong_end (r := s.ro) (hK0 rfl) rfl)
/-- A distance's symbol, and what follows. -/
theorem sym_part (C : CB lit dist hl hd) {len p0 p : Nat} {out : List Nat} {r : Bool × Nat × List Nat × Int} (hu : usedL dist ≠ 0) (hK0 : r.1 = true → KF src D FR s.final r.2) (hK1 : r.1 = false → 0 ≤ r.2.2.2 → KF src D FR s.final r.2) (hK2 : r.1 = false → r.2.2.2 = -1 → p0 < r.2.1 → KC src D FR s.final lit dist r.2.1 r.2.2.1) (hpp : p0 < p)
    (hr : r = dStep src D out len (symS (bookL dist) src p (-1)))
    (hA : At src D (lit.getD 256 0 + 7) s p out) (hb : base ++ pend s = out) (ht : trN s.tr = 0) (hdl : D.length ≤ 32768) :
    HBP (LitR src D FR lit dist base) (CopyR src D FR lit dist base) (DoneR E src D FR lit dist base) (hbSym E src hd len s) := by
  unfold hbSym
  have hnb := hA.nb
  rcases C.d with ⟨rfl, rfl⟩ | ⟨h, rfl, hdd⟩
  · simp only []
    rcases symS_canon fixD_fine.1 fixD_fine.2 src p _ rfl with ⟨e, hok⟩ | ⟨e, -, -, hno⟩ | e
    · generalize symS (bookL fixDist) src p (-1) = t at *
      obtain ⟨d, q, et⟩ := t
      simp only [] at e hok
      subst e
      have hr : r = dStep2 src D out len d q := hr
      obtain ⟨c1, c2⟩ := fixD_at hok.lt
      have hat := hok.at_
      have hle := hok.le
      have hc := hok.code
      rw [c2] at hat hc
      rw [c1] at hc
      have hle5 : p + 5 ≤ 8 * src.length := by omega
      obtain ⟨n1, k, ro, b, nb, n2, n3, n4, n5, n6⟩ := need_ok hby hA.bits (show 5 ≤ 32 by decide) hle5
      rw [if_pos n1, n4]
      have hd5 : rev 5 ((need src 5 4 s).2.b % 32) = d := by
        have e5 : (need src 5 4 s).2.b % 32 = leL src p 5 := by rw [n2]; exact n3
        rw [e5, hc, rev_le]
      rw [hd5]
      subst hat
      refine dist_sim (s := { s with k := k, ro := ro, b := b / 2 ^ 5, nb := nb - 5 }) hne live hby hK0 hK1 hK2 (Nat.lt_of_lt_of_le hpp (Nat.le_add_right p 5)) hr ⟨n5, hle, ?_, hA.win.of rfl rfl rfl, hA.ol, hA.er⟩ hb ht hdl
      show nb - 5 ≤ lit.getD 256 0 + 7
      omega
    · have h5 : 8 * src.length < p + 5 := by
        rcases Nat.lt_or_ge (8 * src.length) (p + 5) with q | q
        · exact q
        · have hv := vL_lt src p 5
          have hv : vL src p 5 < 32 := hv
          obtain ⟨c1, c2⟩ := fixD_at hv
          exact absurd (by rw [c1, c2]) (hno (vL src p 5) hv (by rw [c2]; decide) (by rw [c2]; exact q))
      generalize symS (bookL fixDist) src p (-1) = t at *
      obtain ⟨d, q, et⟩ := t
      simp only [] at e
      subst e
      have hr : r = (true, q, out, 3) := hr
      subst hr
      rw [if_neg (by rw [need_eof hby hA.bits (show 5 ≤ 32 by decide) h5]; decide)]
      obtain ⟨k, ro, b, nb, e2⟩ := need_keep src 5 4 s
      refine err_done (s := s) (trL_zero ht) ?_ ?_ ?_ ?_ hb (short_end hne (hK0 rfl) rfl) <;> (rw [e2])
    · generalize symS (bookL fixDist) src p (-1) = t at *
      obtain ⟨d, q, et⟩ := t
      simp only [] at e
      subst e
      have hr : r = (true, q, out, 0) := hr
      subst hr
      exact (dead live (hK0 rfl) (.inl rfl)).elim
  · simp only []
    obtain ⟨T, hmn⟩ := hdd.resolve_left hu
    rcases sym_sim hby T hA.bits hA.ple _ rfl with ⟨e, hok, hq⟩ | ⟨e, k', b', nb', hq⟩ | e
    · generalize symS (bookL dist) src p (-1) = t at *
      obtain ⟨d, q, et⟩ := t
      simp only [] at e hok hq
      subst e
      have hr : r = dStep2 src D out len d q := hr
      have hpos := hok.pos
      have hat := hok.at_
      have hle := hok.le
      have hm := hmn d hok.lt hpos
      rcases hq with ⟨k', nb', hq, hB, hnb'⟩ | ⟨hq, -⟩
      · rw [hq]
        refine dist_sim (s := (HR.sym d k' (leL src q nb') nb').st s) hne live hby hK0 hK1 hK2 (by omega) hr ⟨hB, hle, ?_, hA.win.of rfl rfl rfl, hA.ol, hA.er⟩ hb ht hdl
        show nb' ≤ lit.getD 256 0 + 7
        omega
      · omega
    · rw [hq]
      generalize symS (bookL dist) src p (-1) = t at *
      obtain ⟨d, q, et⟩ := t
      simp only [] at e
      subst e
      have hr : r = (true, q, out, 3) := hr
      subst hr
      exact err_done (s := s) (trL_zero ht) rfl rfl rfl rfl hb (short_end hne (hK0 rfl) rfl)
    · generalize symS (bookL dist) src p (-1) = t at *
      obtain ⟨d, q, et⟩ := t
      simp only [] at e
      subst e
      have hr : r = (true, q, out, 0) := hr
      subst hr
      exact (dead live (hK0 rfl) (.inl rfl)).elim
omit hne live hby in
theorem outS_hist (s : DS) : (outS I s).hist = s.hist := by unfold outS flushS; split <;> rfl
omit hne live hby in
theorem flush_tot {s' : DS} (hl : s.hist.length = 32768) (hw : s.wr ≤ 32768) (e1 : s'.tr = (outS I s).tr) (e2 : s'.hist = s.hist) (e3 : s'.wr = (outS I s).wr) (e4 : s'.rd = (outS I s).rd) : base ++ trL s' ++ pend s' = base ++ pend s := by
  have a : trL s' = pend s := by
    rw [← trL_out (I := I) s hl]
    unfold trL
    have : (outS I s).hist = s.hist := by unfold outS flushS; split <;> rfl
    rw [e1, e2, this]
  have b : pend s' = [] := pend_nil (by rw [e3, e4, (outS_wr (I := I) s hw).2]; exact Nat.le_refl _)
  rw [a, b, List.append_nil]
omit hne live hby in
/-- A block has ended. -/
theorem finish_sim {q : Nat} {out : List Nat} (hK : KF src D FR s.final (q, out, -1)) (hA : At src D 7 s q out) (hcp : Cp s) (hb : base ++ pend s = out) (ht : trN s.tr = 0) : DoneR E src D FR lit dist base (finishS I E s) := by
  unfold finishS
  cases hf : s.final with
  | false =>
    rw [if_neg (by decide)]
    rw [hf] at hK
    refine ⟨out, ?_, .inr (.inr ⟨rfl, q, hK.more rfl, ⟨hA.bits, hA.ple, hA.nb, hA.win.of rfl rfl rfl, hA.ol, hA.er⟩, hf, hcp⟩)⟩
    show base ++ trL s ++ pend s = out
    rw [trL_zero ht, List.append_nil]; exact hb
  | true =>
    rw [if_pos rfl]
    rw [hf] at hK
    have e := hK.last rfl
    have hend : ∀ s' : DS, s'.err = E.eofV → Ended E FR s' out := fun s' he => by
      refine ⟨fun _ => ⟨he, by rw [e]⟩, fun q => ?_, fun q => ?_, by rw [e]; exact List.prefix_refl _⟩
      · rw [e] at q; exact absurd (show (1 : Int) = 2 from q) (by decide)
      · rw [e] at q; exact absurd (show (1 : Int) = 3 from q) (by decide)
    unfold lastS
    by_cases hrw : s.rd < s.wr
    · rw [if_pos hrw]
      refine ⟨out, ?_, .inl (hend _ rfl)⟩
      exact (flush_tot (I := I) (s := s) hA.win.len hA.win.le rfl (outS_hist s) rfl rfl).trans hb
    · rw [if_neg hrw]
      refine ⟨out, ?_, .inl (hend _ rfl)⟩
      show base ++ trL s ++ pend s = out
      rw [trL_zero ht, List.append_nil]; exact hb
omit hne live hby in
theorem CB.fl (C : CB lit dist hl hd) : Fine lit := ⟨C.lt.h15, C.lt.room⟩
omit hne live hby in
theorem CB.fd (C : CB lit dist hl hd) : usedL dist = 0 ∨ Fine dist := by
  rcases C.d with ⟨-, rfl⟩ | ⟨h, -, q | ⟨q, -⟩⟩
  · exact .inr fixD_fine
  · exact .inl q
  · exact .inr ⟨q.h15, q.room⟩
/-- A pass, from a literal on. -/
theorem lit_sim (C : CB lit dist hl hd) {p : Nat} {out : List Nat} (hK : KC src D FR s.final lit dist p out) (hA : At src D (lit.getD 256 0 + 7) s p out) (hcp : Cp s) (hb : base ++ pend s = out) (ht : trN s.tr = 0) (hw : s.wr < 32768) (hr : s.rd ≤ s.wr) (hdl : D.length ≤ 32768) :
    HBP (LitR src D FR lit dist base) (CopyR src D FR lit dist base) (DoneR E src D FR lit dist base) (hbLit I E src hl hd s) := by
  obtain ⟨K0, K1, K2⟩ := hK.step hA.ple _ rfl
  obtain ⟨r, hre⟩ : ∃ r, r = codedStep (bookL lit) (bookL dist) (usedL dist) src D p out (-1) := ⟨_, rfl⟩
  rw [← hre] at K0 K1 K2
  unfold codedStep at hre
  simp only [] at hre
  have hnb := hA.nb
  have hmn := C.mn
  unfold hbLit
  rcases sym_sim hby C.lt hA.bits hA.ple _ rfl with ⟨e, hok, hq⟩ | ⟨e, k', b', nb', hq⟩ | e
  · generalize symS (bookL lit) src p (-1) = t at *
    obtain ⟨v, q, et⟩ := t
    simp only [] at e hok hq
    subst e
    have hpos := hok.pos
    have hat := hok.at_
    have hle := hok.le
    rw [if_pos (show (-1 : Int) < 0 by decide)] at hre
    simp only [] at hre
    rcases hq with ⟨k', nb', hq, hB, hnb'⟩ | ⟨hq, k', b', nb', hq2⟩
    · rw [hq]
      simp only []
      obtain ⟨s1, hs1⟩ : ∃ s1, s1 = (HR.sym v k' (leL src q nb') nb').st s := ⟨_, rfl⟩
      rw [← hs1]
      have hA1 : At src D (lit.getD 256 0 + 7) s1 q out := by
        rw [hs1]
        exact ⟨hB, hle, by show nb' ≤ _; omega, hA.win.of rfl rfl rfl, hA.ol, hA.er⟩
      have f1 : s1.final = s.final ∧ s1.wr = s.wr ∧ s1.rd = s.rd ∧ s1.tr = s.tr ∧ s1.nb = nb' ∧ s1.k = k' := by rw [hs1]; exact ⟨rfl, rfl, rfl, rfl, rfl, rfl⟩
      obtain ⟨f1, f2, f3, f4, f5, f6⟩ := f1
      have hcp1 : Cp s1 := by rw [hs1]; exact hcp
      have hb1 : base ++ pend s1 = out := by rw [hs1]; exact hb
      have ht1 : trN s1.tr = 0 := by rw [f4]; exact ht
      rw [← f1] at K0 K1 K2
      unfold hbVal
      by_cases h1 : v < 256
      · rw [if_pos h1] at hre ⊢
        subst hre
        rcases giveE_or out with ⟨g1, g2⟩ | ⟨g1, g2⟩
        · have hk := K2 rfl g1 (show p < q by omega)
          have eo : giveO out (-1) v = out ++ [v] := if_pos ⟨by decide, g2⟩
          have hk : KC src D FR s1.final lit dist q (out ++ [v]) := by rw [← eo]; exact hk
          have hwin : Win (putB s1 v) (D ++ (out ++ [v])) := by rw [← List.append_assoc]; exact hA1.win.put v (by rw [f2]; exact hw)
          have hpd : pend (putB s1 v) = pend s1 ++ [v] := pend_grow (H := D ++ out) (x := [v]) hA1.win (by rw [List.append_assoc]; exact hwin) rfl rfl (by rw [f2, f3]; exact hr)
          have hb2 : base ++ pend (putB s1 v) = out ++ [v] := by rw [hpd, ← List.append_assoc, hb1]
          have hol : (out ++ [v]).length ≤ 131072 := by rw [List.length_append]; show out.length + 1 ≤ 131072; omega
          have hA2 : At src D (lit.getD 256 0 + 7) (putB s1 v) q (out ++ [v]) := ⟨hA1.bits, hle, hA1.nb, hwin, hol, hA1.er⟩
          by_cases hwr : (putB s1 v).wr = 32768
          · rw [if_pos hwr]
            obtain ⟨z1, z2, z3, -, z5, z6, z7, z8, z9, z10, z11⟩ := outS_keep (I := I) (putB s1 v)
            refine ⟨out ++ [v], ?_, .inr (.inl ⟨rfl, q, out ++ [v], ?_, ⟨?_, hle, ?_, (outS_win (I := I) hwin).of rfl rfl rfl, hol, z5.trans hA1.er⟩, hol, .inl ⟨rfl, rfl⟩⟩)⟩
            · exact (flush_tot (I := I) (s := putB s1 v) hwin.len hwin.le rfl (outS_hist (putB s1 v)) rfl rfl).trans hb2
            · show KC src D FR (outS I (putB s1 v)).final lit dist q (out ++ [v])
              rw [z10]; exact hk
            · show Bits src q (outS I (putB s1 v)).k (outS I (putB s1 v)).b (outS I (putB s1 v)).nb
              rw [z1, z2, z3]; exact hA1.bits
            · show (outS I (putB s1 v)).nb ≤ _
              rw [z2]; exact hA1.nb
          · rw [if_neg hwr]
            refine ⟨q, out ++ [v], hk, hA2, ?_, hb2⟩
            intro q1
            obtain ⟨c1, c2⟩ := hcp1 q1
            refine ⟨c1, Nat.le_trans c2 ?_⟩
            unfold histN putB
            simp only []
            split <;> omega
        · have hk : KF src D FR s1.final (q, giveO out (-1) v, giveE out (-1)) := K1 rfl (by show 0 ≤ giveE out (-1); rw [g1]; decide)
          rw [g1] at hk
          exact (dead live hk (.inr rfl)).elim
      · rw [if_neg h1] at hre ⊢
        by_cases h2 : v = 256
        · rw [if_pos h2] at hre ⊢
          subst hre
          have hk : KF src D FR s1.final (q, out, -1) := K0 rfl
          refine finish_sim hk ⟨hA1.bits, hle, ?_, hA1.win, hA1.ol, hA1.er⟩ hcp1 hb1 ht1
          rw [f5]
          rw [h2] at hnb'
          omega
        · rw [if_neg h2] at hre ⊢
          by_cases h3 : v < 286
          · rw [if_pos h3]
            have hl0 : (lengthL v).1 ≠ 0 := lengthL_pos (by omega) h3
            rw [if_neg hl0] at hre
            unfold hbLen
            obtain ⟨ex, hex⟩ : ∃ ex, ex = (lengthL v).2 := ⟨_, rfl⟩
            have hx32 : ex ≤ 32 := by rw [hex]; exact Nat.le_trans (lengthL_ex v) (by decide)
            rw [← hex] at hre ⊢
            generalize hlb : (lengthL v).1 = lb at *
            by_cases hle2 : q + ex ≤ 8 * src.length
            · obtain ⟨n1, k, ro, b, nb, n2, n3, n4, n5, n6⟩ := need_ok hby hA1.bits hx32 hle2
              rw [if_pos n1, n4]
              have el : lb + (need src ex 4 s1).2.b % 2 ^ ex = lb + leL src q ex := by rw [n2]; simp only []; rw [n3]
              rw [el]
              rw [bitsAt_ok src q ex hle2] at hre
              simp only [] at hre
              by_cases hc : (-1 : Int) < 0 ∧ v = 284 ∧ lb + leL src q ex = 258
              · rw [if_pos hc] at hre
                subst hre
                exact (dead live (K0 rfl) (.inl rfl)).elim
              · rw [if_neg hc] at hre
                by_cases hu : usedL dist = 0
                · rw [if_pos hu] at hre
                  subst hre
                  have hk : KF src D FR s1.final (q + ex, out, stopE (-1) 0) := K0 rfl
                  exact (dead live hk (.inl rfl)).elim
                · rw [if_neg hu] at hre
                  have hre : r = dStep src D out (lb + leL src q ex) (symS (bookL dist) src (q + ex) (-1)) := by
                    rw [hre]
                    have hse := symS_e (bookL dist) src (q + ex)
                    generalize symS (bookL dist) src (q + ex) (-1) = t at *
                    unfold dStep dStep2
                    by_cases ht0 : t.2.2 < 0
                    · rw [if_pos ht0, if_pos ht0]
                      have : t.2.2 = -1 := hse ht0
                      rw [this]
                    · rw [if_neg ht0, if_neg ht0]
                  refine sym_part (s := { s1 with k := k, ro := ro, b := b / 2 ^ ex, nb := nb - ex }) hne live hby C hu K0 K1 K2 (show p < q + ex by omega) hre ⟨n5, hle2, ?_, hA1.win.of rfl rfl rfl, hA1.ol, hA1.er⟩ hb1 ht1 hdl
                  show nb - ex ≤ lit.getD 256 0 + 7
                  have := hA1.nb
                  omega
            · rw [if_neg (by rw [need_eof hby hA1.bits hx32 (by omega)]; decide)]
              have hs := bitsAt_short src q ex (by omega) hle
              obtain ⟨k, ro, b, nb, e2⟩ := need_keep src ex 4 s1
              generalize bitsAt src q (-1) ex = u at *
              obtain ⟨y1, y2, y3⟩ := u
              simp only [Prod.mk.injEq] at hs hre
              obtain ⟨rfl, rfl⟩ := hs
              rw [if_neg (fun h => absurd h.1 (by decide))] at hre
              have hre : r = (true, 8 * src.length, out, 3) := by
                rw [hre]
                by_cases hu : usedL dist = 0
                · rw [if_pos hu]; rfl
                · rw [if_neg hu]
                  have e2 : symS (bookL dist) src (8 * src.length) 3 = (0, 8 * src.length, 3) := if_neg (by decide)
                  rw [e2]
                  rfl
              subst hre
              refine err_done (s := s1) (trL_zero ht1) ?_ ?_ ?_ ?_ hb1 (short_end hne (K0 rfl) rfl) <;> (rw [e2])
          · rw [if_neg h3]
            have hl0 : (lengthL v).1 = 0 := lengthL_none (by omega)
            rw [if_pos hl0] at hre
            subst hre
            exact err_done (s := s1) (trL_zero ht1) rfl rfl rfl rfl hb1 (wrong_end (r := s1.ro) (K0 rfl) rfl)
    · rw [hq2]
      exact err_done (s := s) (trL_zero ht) rfl rfl rfl rfl hb (early_end hne (hK.noend C.fl C.fd hA.ple (by omega)) hK.pre rfl)
  · rw [hq]
    generalize symS (bookL lit) src p (-1) = t at *
    obtain ⟨v, q, et⟩ := t
    simp only [] at e
    subst e
    rw [if_neg (show ¬ (3 : Int) < 0 by decide)] at hre
    subst hre
    exact err_done (s := s) (trL_zero ht) rfl rfl rfl rfl hb (short_end hne (K0 rfl) rfl)
  · generalize symS (bookL lit) src p (-1) = t at *
    obtain ⟨v, q, et⟩ := t
    simp only [] at e
    subst e
    rw [if_neg (show ¬ (0 : Int) < 0 by decide)] at hre
    subst hre
    exact (dead live (K0 rfl) (.inl rfl)).elim
omit hne live hby in
theorem histN_mono {s s' : DS} (hf : s'.full = s.full) (hw : s.wr ≤ s'.wr) : histN s ≤ histN s' := by
  unfold histN
  rw [hf]
  split
  · exact Nat.le_refl _
  · exact hw
omit hne live hby in
theorem histN_out (s : DS) (h : s.wr ≤ 32768) : histN s ≤ histN (outS I s) := by
  have e : histN (outS I s) = if s.wr = 32768 then 32768 else histN s := by unfold outS flushS; split <;> rfl
  rw [e]
  split
  · unfold histN; split <;> omega
  · exact Nat.le_refl _
omit hne live hby in
/-- A pass, from a copy on. -/
theorem copy_sim (h : CopyR src D FR lit dist base s) (_ht : trN s.tr = 0) (hw : s.wr < 32768) (hr : s.rd ≤ s.wr) : HBP (LitR src D FR lit dist base) (CopyR src D FR lit dist base) (DoneR E src D FR lit dist base) (hbCopy I s) := by
  obtain ⟨p, out, out2, hK, hA, ho2, hd1, hdh, hx, hb⟩ := h
  obtain ⟨a1, a2, a3, a4, a5, a6, a7, a8, a9, a10, a11⟩ := cpA_more s
  have hwin := hA.win.cpA hd1 hdh
  have hc := cpN_eq s
  have hcl : cpN s ≤ s.len := by rw [hc]; exact Nat.min_le_left _ _
  have hcw : cpN s ≤ 32768 - s.wr := by rw [hc]; exact Nat.min_le_right _ _
  have hor : cpN s = s.len ∨ cpN s = 32768 - s.wr := by
    rw [hc]
    rcases Nat.le_total s.len (32768 - s.wr) with q | q
    · exact .inl (Nat.min_eq_left q)
    · exact .inr (Nat.min_eq_right q)
  obtain ⟨x, hx1, hx2⟩ := extH_app (D ++ out) s.dist (cpN s)
  obtain ⟨y, hy1, hy2⟩ := extH_app (extH (D ++ out) s.dist (cpN s)) s.dist (s.len - cpN s)
  have hsum : extH (D ++ out) s.dist s.len = extH (extH (D ++ out) s.dist (cpN s)) s.dist (s.len - cpN s) := by rw [extH_add]; congr 1; omega
  have hout3 : D ++ (out ++ x) = extH (D ++ out) s.dist (cpN s) := by rw [hx1, List.append_assoc]
  have hout2 : out2 = out ++ x ++ y := by
    have e : D ++ out2 = D ++ (out ++ x ++ y) := by rw [hx, hsum, hy1, hx1]; simp only [List.append_assoc]
    exact List.append_cancel_left e
  rw [← hout3] at hwin
  unfold hbCopy
  generalize cpN s = c at *
  generalize cpA s = a at *
  have hpd : pend a = pend s ++ x := pend_grow (H := D ++ out) hA.win (by rw [List.append_assoc]; exact hwin) (by rw [a9, hx2]) a4 hr
  have hb2 : base ++ pend a = out ++ x := by rw [hpd, ← List.append_assoc, hb]
  have hol3 : (out ++ x).length ≤ 131072 := by
    have := congrArg List.length hout2
    rw [List.length_append] at this
    omega
  have hAa : At src D (lit.getD 256 0 + 7) a p (out ++ x) := ⟨by rw [a2, a3, a11]; exact hA.bits, hA.ple, by rw [a3]; exact hA.nb, hwin, hol3, a6.trans hA.er⟩
  have hKa : KC src D FR a.final lit dist p out2 := by rw [a1.final]; exact hK
  unfold cpT
  simp only []
  by_cases hp : a.wr = 32768 ∨ 0 < s.len - c
  · rw [if_pos hp]
    have hwr : a.wr = 32768 := by omega
    obtain ⟨z1, z2, z3, -, z5, z6, z7, z8, z9, z10, z11⟩ := outS_keep (I := I) { a with len := s.len - c }
    have hwl : Win ({ a with len := s.len - c } : DS) (D ++ (out ++ x)) := hwin.of rfl rfl rfl
    refine ⟨out ++ x, ?_, .inr (.inl ⟨rfl, p, out2, ?_, ⟨?_, hA.ple, ?_, (outS_win (I := I) hwl).of rfl rfl rfl, hol3, z5.trans hAa.er⟩, ho2, .inr ⟨rfl, ?_, ?_, ?_⟩⟩)⟩
    · exact (flush_tot (I := I) (s := { a with len := s.len - c }) hwl.len hwl.le rfl (outS_hist _) rfl rfl).trans hb2
    · show KC src D FR (outS I { a with len := s.len - c }).final lit dist p out2
      rw [z10]; exact hKa
    · show Bits src p (outS I { a with len := s.len - c }).k (outS I { a with len := s.len - c }).b (outS I { a with len := s.len - c }).nb
      rw [z1, z2, z3]; exact hAa.bits
    · show (outS I { a with len := s.len - c }).nb ≤ _
      rw [z2]; exact hAa.nb
    · show 1 ≤ (outS I { a with len := s.len - c }).dist
      rw [z7]; show 1 ≤ a.dist; rw [a8]; exact hd1
    · have hh := histN_out (I := I) { a with len := s.len - c } (by show a.wr ≤ 32768; omega)
      have hm : histN s ≤ histN a := histN_mono a10 (by omega)
      have hh2 : histN a ≤ histN (outS I { a with len := s.len - c }) := hh
      have h7 : (outS I { a with len := s.len - c }).dist = s.dist := z7.trans a8
      have h8 : (outS I { a with len := s.len - c }).dist ≤ histN (outS I { a with len := s.len - c }) := by rw [h7]; omega
      exact h8
    · show D ++ out2 = extH (D ++ (out ++ x)) (outS I { a with len := s.len - c }).dist (outS I { a with len := s.len - c }).len
      rw [z7, z8, hx, hsum, hout3]
      show _ = extH _ a.dist (s.len - c)
      rw [a8]
  · rw [if_neg hp]
    have hc0 : s.len - c = 0 := by omega
    have hy0 : y = [] := List.eq_nil_of_length_eq_zero (by omega)
    rw [hy0, List.append_nil] at hout2
    rw [hout2] at hKa
    refine ⟨p, out ++ x, hKa, ⟨hAa.bits, hAa.ple, hAa.nb, hwin.of rfl rfl rfl, hol3, hAa.er⟩, fun _ => ⟨hc0, ?_⟩, hb2⟩
    show a.dist ≤ histN a
    rw [a8]
    exact Nat.le_trans hdh (histN_mono a10 (by omega))
/-- What the passes of a block's code ask of the numbers. -/
def NumOK (src : List Nat) (s : DS) : Prop := s.k ≤ src.length ∧ s.nb ≤ 24 ∧ s.wr < 32768 ∧ s.rd ≤ s.wr ∧ trN s.tr = 0
omit hne live hby in
theorem Num.ok {s' : DS} (h : Num src s s') (ht : trN s.tr = 0) : NumOK src s' := ⟨h.kle, h.nb, h.wr, h.rd, by rw [h.tr]; exact ht⟩
/-- The whole of a block's code. -/
theorem hbGo_sim (C : CB lit dist hl hd) (h1 : Safe hl) (h2 : ∀ t, hd = some t → Safe t) (hdl : D.length ≤ 32768) : ∀ (m : Nat) (hb : HB),
    HBP (fun s => LitR src D FR lit dist base s ∧ NumOK src s ∧ 2 * bl src s < m) (fun s => CopyR src D FR lit dist base s ∧ NumOK src s ∧ 2 * bl src s + 1 < m) (DoneR E src D FR lit dist base) hb → DoneR E src D FR lit dist base (hbGo I E src hl hd m hb) := by
  intro m
  induction m with
  | zero =>
    intro hb h
    cases hb with
    | done s => exact h
    | lit s => exact absurd h.2.2 (Nat.not_lt_zero _)
    | copy s => exact absurd h.2.2 (Nat.not_lt_zero _)
  | succ m ih =>
    intro hb h
    cases hb with
    | done s => exact h
    | lit s =>
      obtain ⟨⟨p, out, hK, hA, hcp, hbs⟩, ⟨n1, n2, n3, n4, n5⟩, hm⟩ := h
      have hp := lit_bp (I := I) (E := E) (Num.refl (s := s) n1 n2 n3 n4) h1 h2
      have hs := lit_sim (I := I) hne live hby C hK hA hcp hbs n5 n3 n4 hdl
      rw [hbGo]
      refine ih _ ?_
      generalize hbLit I E src hl hd s = x at *
      cases x with
      | done s' => exact hs
      | lit s' => exact ⟨hs, hp.1.ok n5, by have := hp.2; omega⟩
      | copy s' => exact ⟨hs, hp.1.ok n5, by have := hp.2.1; omega⟩
    | copy s =>
      obtain ⟨hC, ⟨n1, n2, n3, n4, n5⟩, hm⟩ := h
      have hd1 : 1 ≤ s.dist := by obtain ⟨p, out, out2, -, -, -, q, -⟩ := hC; exact q
      have hp := copy_bp (I := I) (E := E) (n := 0) (Num.refl (s := s) n1 n2 n3 n4) hd1 (Nat.le_refl _)
      have hs := copy_sim (E := E) (I := I) hC n5 n3 n4
      rw [hbGo]
      refine ih _ ?_
      cases hx : hbCopy I s with
      | done s' => rw [hx] at hs; exact hs
      | lit s' => rw [hx] at hp hs; exact ⟨hs, hp.1.ok n5, by have := hp.2; omega⟩
      | copy s' => unfold hbCopy cpT at hx; split at hx <;> cases hx
/-- A block of codes, begun or gone on with. -/
theorem hbS_sim (C : CB lit dist hl hd) (h1 : Safe hl) (h2 : ∀ t, hd = some t → Safe t) (hdl : D.length ≤ 32768) (hn : NumOK src s) (hc : s.st = 1 → CopyR src D FR lit dist base s) (hl0 : s.st ≠ 1 → LitR src D FR lit dist base s) :
    DoneR E src D FR lit dist base (hbS I E src hl hd s) := by
  unfold hbS
  have hb : 2 * bl src s + 1 < 16 * src.length + 100 := by have := hn.2.1; unfold bl; omega
  refine hbGo_sim hne live hby C h1 h2 hdl _ _ ?_
  split
  · rename_i h; exact ⟨hc h, hn, hb⟩
  · rename_i h; exact ⟨hl0 h, hn, Nat.lt_of_succ_lt hb⟩
end
end Go.Proofs.YtbbnibbdiiffkaaDoor

/- The decoder against the reference: stored bytes. -/
namespace Go.Proofs.YtbbnibbdiiffkaaDoor
open Go.RowKit

section
variable {E : Errs} {src D : List Nat} {FR : Nat × List Nat × Int} {lit dist : List Nat} {I : Ids} {s : DS} {base : List Nat}
theorem Win.row {s s' : DS} {H x : List Nat} (h : Win s H) (hw : s.wr + x.length ≤ 32768) (e1 : s'.hist = spl s.hist s.wr x) (e2 : s'.wr = s.wr + x.length) (e3 : s'.full = s.full) : Win s' (H ++ x) := by
  have hl := h.len
  have ha := h.at_
  have hf : s.wr + x.length ≤ s.hist.length := by rw [hl]; exact hw
  refine ⟨by rw [e1, spl_len hf]; exact hl, by rw [e2]; exact hw, fun q => ?_, fun q => ?_, ?_, fun i h1 h2 => ?_⟩
  · rw [e3] at q; rw [List.length_append, h.part q, e2]
  · rw [e3] at q; have := h.whole q; rw [List.length_append]; omega
  · rw [List.length_append, e2]; omega
  · rw [List.length_append] at h1 h2
    rw [e1, spl_getD hf]
    by_cases hi : i < H.length
    · rw [if_neg (by omega), List.getD_eq_getElem?_getD (l := H ++ x), List.getElem?_append_left hi, ← List.getD_eq_getElem?_getD]
      exact h.get i hi (by omega)
    · have hm : i % 32768 = s.wr + (i - H.length) := by omega
      rw [hm, if_pos ⟨by omega, by omega⟩, List.getD_eq_getElem?_getD (l := H ++ x), List.getElem?_append_right (by omega), ← List.getD_eq_getElem?_getD]
      congr 1; omega
theorem stGo_end (p : Nat) (out : List Nat) {e : Int} (h : 0 ≤ e) : ∀ n, (stGo src p out e n).2 = (out, e) := by
  intro n
  induction n with
  | zero => rfl
  | succ n ih =>
    rw [stGo]
    have e1 : (stGo src p out e n).2.2 = e := by rw [ih]
    have e2 : (stGo src p out e n).2.1 = out := by rw [ih]
    rw [e1, e2]
    have e3 := bitsAt_off src (stGo src p out e n).1 (show ¬ e < 0 by omega) 8
    rw [e3]
    obtain ⟨g1, g2⟩ := give_off (out := out) (e := e) 0 (by omega)
    show (giveO out e 0, giveE out e) = _
    rw [g1, g2]
theorem stGo_add (p : Nat) (out : List Nat) (e : Int) (a : Nat) : ∀ b, stGo src p out e (a + b) = stGo src (stGo src p out e a).1 (stGo src p out e a).2.1 (stGo src p out e a).2.2 b := by
  intro b
  induction b with
  | zero => rfl
  | succ b ih => rw [Nat.add_succ, stGo, stGo, ih]
theorem KF.bad' {b : Bool} {r : Nat × List Nat × Int} (h : KF src D FR b r) {out : List Nat} {k : Int} (e : r.2 = (out, k)) (hk : 0 ≤ k) : FR.2 = (out, k) := by
  have e1 : r.2.1 = out := by rw [e]
  have e2 : r.2.2 = k := by rw [e]
  have := h.bad (by rw [e2]; exact hk)
  rw [this, ← e]
variable (hby : ∀ x ∈ src, x < 256)
include hby in
/-- Bytes that are there. -/
theorem stGo_ok (k : Nat) (out : List Nat) : ∀ n, k + n ≤ src.length → out.length + n ≤ 131072 → stGo src (8 * k) out (-1) n = (8 * (k + n), out ++ (src.drop k).take n, -1) := by
  intro n
  induction n with
  | zero => intro _ _; rw [List.take_zero, List.append_nil]; rfl
  | succ n ih =>
    intro h1 h2
    have hi := ih (by omega) (by omega)
    rw [stGo, hi]
    simp only []
    have hb := bitsAt_ok src (8 * (k + n)) 8 (by omega)
    rw [hb]
    simp only []
    have hlen : ((src.drop k).take n).length = n := by rw [List.length_take, List.length_drop]; omega
    have hl : (out ++ (src.drop k).take n).length < 131072 := by rw [List.length_append, hlen]; omega
    have g1 : giveE (out ++ (src.drop k).take n) (-1) = -1 := by unfold giveE; rw [if_neg (fun q => by omega)]
    have g2 : giveO (out ++ (src.drop k).take n) (-1) (leL src (8 * (k + n)) 8) = out ++ (src.drop k).take n ++ [leL src (8 * (k + n)) 8] := if_pos ⟨by decide, hl⟩
    rw [g1, g2, byte_le hby, List.append_assoc]
    have e : (src.drop k).take (n + 1) = (src.drop k).take n ++ [src.getD (k + n) 0] := by
      rw [List.take_add_one, List.getElem?_drop, List.getElem?_eq_getElem (show k + n < src.length by omega), List.getD_eq_getElem?_getD, List.getElem?_eq_getElem (show k + n < src.length by omega)]
      rfl
    rw [e]
    rfl
/-- Within stored bytes. -/
def StoR (src D : List Nat) (FR : Nat × List Nat × Int) (s : DS) (out : List Nat) : Prop :=
  KS src D FR s.final (8 * s.k) out s.len ∧ s.nb = 0 ∧ s.b = 0 ∧ s.k ≤ src.length ∧ Win s (D ++ out) ∧ out.length ≤ 131072 ∧ (s.st = 1 → s.dist ≤ histN s) ∧ s.err = .nilIface
def DoneS (E : Errs) (src D : List Nat) (FR : Nat × List Nat × Int) (base : List Nat) (s : DS) : Prop :=
  ∃ out, base ++ trL s ++ pend s = out ∧ (Ended E FR s out ∨ (s.step = stepV 38 ∧ StoR src D FR s out) ∨ (s.step = stepV 14 ∧ NextR src D FR s out))
theorem finish_fin {q : Nat} {out : List Nat} (hK : KF src D FR s.final (q, out, -1)) (hA : At src D 7 s q out) (hcp : Cp s) (hb : base ++ pend s = out) (ht : trN s.tr = 0) : DoneS E src D FR base (finishS I E s) := by
  obtain ⟨o, h1, h2 | ⟨h2, -⟩ | h2⟩ := finish_sim (E := E) (I := I) (lit := []) (dist := []) hK hA hcp hb ht
  · exact ⟨o, h1, .inl h2⟩
  · have e : (finishS I E s).step = stepV 14 := rfl
    rw [e] at h2
    unfold stepV at h2
    simp at h2
  · exact ⟨o, h1, .inr (.inr h2)⟩
variable (hne : E.eof ≠ E.une) (live : Live FR.2.2)
theorem stGo_long (k : Nat) (out : List Nat) (n : Nat) (h1 : k + n ≤ src.length) (h2 : 131072 < out.length + n) (ho : out.length ≤ 131072) (hby : ∀ x ∈ src, x < 256) : (stGo src (8 * k) out (-1) n).2.2 = 4 := by
  obtain ⟨n0, hn0⟩ : ∃ n0, out.length + n0 = 131072 := ⟨131072 - out.length, by omega⟩
  have hi := stGo_ok hby k out n0 (by omega) (by omega)
  obtain ⟨m, rfl⟩ : ∃ m, n = n0 + (1 + m) := ⟨n - n0 - 1, by omega⟩
  rw [stGo_add, hi, stGo_add]
  have hlen : (out ++ (src.drop k).take n0).length = 131072 := by rw [List.length_append, List.length_take, List.length_drop]; omega
  have e1 : (stGo src (8 * (k + n0)) (out ++ (src.drop k).take n0) (-1) 1).2 = (out ++ (src.drop k).take n0, 4) := by
    rw [stGo, stGo]
    simp only []
    rw [bitsAt_ok src (8 * (k + n0)) 8 (by omega)]
    simp only []
    have g1 : giveE (out ++ (src.drop k).take n0) (-1) = 4 := by unfold giveE; rw [if_pos ⟨by decide, by omega⟩]
    have g2 : giveO (out ++ (src.drop k).take n0) (-1) (leL src (8 * (k + n0)) 8) = out ++ (src.drop k).take n0 := by unfold giveO; rw [if_neg (fun q => by omega)]
    rw [g1, g2]
  simp only []
  rw [show (stGo src (8 * (k + n0)) (out ++ (src.drop k).take n0) (-1) 1).2.2 = 4 by rw [e1], show (stGo src (8 * (k + n0)) (out ++ (src.drop k).take n0) (-1) 1).2.1 = out ++ (src.drop k).take n0 by rw [e1]]
  rw [stGo_end _ _ (by decide)]
include hne live hby in
theorem copyData_sim {out : List Nat} (h : StoR src D FR s out) (hb : base ++ pend s = out) (ht : trN s.tr = 0) (hw : s.wr < 32768) (hr : s.rd ≤ s.wr) : DoneS E src D FR base (copyDataS I E src s) := by
  have _ := hne
  obtain ⟨hK, hn0, hb0, hkl, hwin, hol, hdi, her⟩ := h
  have hq1 : cdQ src s ≤ src.length - s.k := Nat.min_le_left _ _
  have hq2 : cdQ src s ≤ cdN s := Nat.min_le_right _ _
  have hq3 : cdN s ≤ 32768 - s.wr := Nat.min_le_left _ _
  have hq4 : cdN s ≤ s.len := Nat.min_le_right _ _
  have hor : cdN s = s.len ∨ cdN s = 32768 - s.wr := by
    unfold cdN
    rcases Nat.le_total (32768 - s.wr) s.len with q | q
    · exact .inr (Nat.min_eq_left q)
    · exact .inl (Nat.min_eq_right q)
  have horq : cdQ src s = cdN s ∨ cdQ src s = src.length - s.k := by
    unfold cdQ
    rcases Nat.le_total (src.length - s.k) (cdN s) with q | q
    · exact .inr (Nat.min_eq_left q)
    · exact .inl (Nat.min_eq_right q)
  obtain ⟨a1, a2, a3, a4, a5, a6, a7, a8, a9, a10⟩ := cdA_more src s (cdQ src s)
  have a11 : (cdA src s (cdQ src s)).hist = spl s.hist s.wr ((src.drop s.k).take (cdQ src s)) ∧ (cdA src s (cdQ src s)).full = s.full ∧ (cdA src s (cdQ src s)).b = s.b := ⟨rfl, rfl, rfl⟩
  obtain ⟨a11, a12, a13⟩ := a11
  unfold copyDataS
  generalize cdQ src s = q at *
  generalize cdN s = c at *
  generalize cdA src s q = a at *
  have hxl : ((src.drop s.k).take q).length = q := by rw [List.length_take, List.length_drop]; omega
  unfold KS at hK
  obtain ⟨rest, hrest⟩ : ∃ rest, s.len = q + rest := ⟨s.len - q, by omega⟩
  rw [hrest, stGo_add] at hK
  by_cases hlong : out.length + q ≤ 131072
  · rw [stGo_ok hby s.k out q (by omega) hlong] at hK
    simp only [] at hK
    generalize hx : (src.drop s.k).take q = x at *
    have hwa : Win a (D ++ (out ++ x)) := by rw [← List.append_assoc]; exact hwin.row (by omega) a11 (by rw [a8, hxl]) a12
    have hpd : pend a = pend s ++ x := pend_grow (H := D ++ out) hwin (by rw [List.append_assoc]; exact hwa) (by rw [a8, hxl]) a3 hr
    have hb2 : base ++ pend a = out ++ x := by rw [hpd, ← List.append_assoc, hb]
    have hol2 : (out ++ x).length ≤ 131072 := by rw [List.length_append]; omega
    have hta : trN a.tr = 0 := by rw [a4]; exact ht
    have hdi2 : a.st = 1 → a.dist ≤ histN a := fun q1 => by
      rw [a7]
      exact Nat.le_trans (hdi (a6 ▸ q1)) (histN_mono a12 (by omega))
    by_cases hqc : q = c
    · rw [if_pos hqc]
      unfold cdB
      by_cases hp : a.wr = 32768 ∨ 0 < a.len
      · rw [if_pos hp]
        have hwr : a.wr = 32768 := by omega
        obtain ⟨z1, z2, z3, -, z5, z6, z7, z8, z9, z10, z11⟩ := outS_keep (I := I) a
        refine ⟨out ++ x, ?_, .inr (.inl ⟨rfl, ?_, ?_, ?_, ?_, (outS_win (I := I) hwa).of rfl rfl rfl, hol2, fun q1 => ?_, z5.trans (a5.trans her)⟩)⟩
        · exact (flush_tot (I := I) (s := a) hwa.len hwa.le rfl (outS_hist a) rfl rfl).trans hb2
        · show KS src D FR (outS I a).final (8 * (outS I a).k) (out ++ x) (outS I a).len
          rw [z10, z1, z8, a1.final, a10, a9, hrest, Nat.add_sub_cancel_left]; exact hK
        · show (outS I a).nb = 0; rw [z2, a2]; exact hn0
        · show (outS I a).b = 0; rw [z3, a13]; exact hb0
        · show (outS I a).k ≤ _; rw [z1, a10]; omega
        · have h1 : (outS I a).dist ≤ histN (outS I a) := by
            rw [z7]; exact Nat.le_trans (hdi2 (z6 ▸ q1)) (histN_out (I := I) a (by omega))
          exact h1
      · rw [if_neg hp]
        have hr0 : rest = 0 := by omega
        rw [hr0] at hK
        have hK2 : KF src D FR a.final (8 * (s.k + q), out ++ x, -1) := by rw [a1.final]; exact hK
        refine finish_fin hK2 ⟨?_, by omega, by omega, hwa, hol2, a5.trans her⟩ (fun q1 => ⟨by omega, hdi2 q1⟩) hb2 hta
        refine ⟨by omega, by omega, ?_⟩
        rw [a13, hb0, a2, hn0]; rfl
    · rw [if_neg hqc]
      have hqs : s.k + q = src.length := by omega
      obtain ⟨m, hm⟩ : ∃ m, rest = 1 + m := ⟨rest - 1, by omega⟩
      rw [hm, stGo_add] at hK
      have e1 : (stGo src (8 * (s.k + q)) (out ++ x) (-1) 1).2 = (out ++ x, 3) := by
        rw [stGo, stGo]
        simp only []
        have hs := bitsAt_short src (8 * (s.k + q)) 8 (by omega) (by omega)
        generalize bitsAt src (8 * (s.k + q)) (-1) 8 = u at *
        obtain ⟨y1, y2, y3⟩ := u
        simp only [Prod.mk.injEq] at hs
        obtain ⟨rfl, rfl⟩ := hs
        obtain ⟨g1, g2⟩ := give_off (out := out ++ x) (e := 3) y1 (by decide)
        simp only []
        rw [g1, g2]
      rw [show (stGo src (8 * (s.k + q)) (out ++ x) (-1) 1).2.2 = 3 by rw [e1], show (stGo src (8 * (s.k + q)) (out ++ x) (-1) 1).2.1 = out ++ x by rw [e1]] at hK
      have hF := hK.bad' (stGo_end _ _ (by decide) m) (by decide)
      refine ⟨out ++ x, ?_, .inl ⟨fun q => ?_, fun q => ?_, fun _ => rfl, by rw [hF]; exact List.prefix_refl _⟩⟩
      · show base ++ trL a ++ pend a = out ++ x
        rw [trL_zero hta, List.append_nil]; exact hb2
      · rw [hF] at q; exact absurd (show (3 : Int) = 1 from q) (by decide)
      · rw [hF] at q; exact absurd (show (3 : Int) = 2 from q) (by decide)
  · exfalso
    have h4 := stGo_long s.k out q (by omega) (by omega) hol hby
    have hF := hK.bad (by rw [h4, stGo_end _ _ (by decide)]; exact (show (0 : Int) ≤ 4 by decide))
    have h5 : FR.2.2 = 4 := by
      rw [hF]
      simp only []
      rw [h4, stGo_end _ _ (by decide)]
    unfold Live at live
    omega
include hby in
theorem two_bytes (k : Nat) : leL src (8 * k) 16 = dbN src k := by
  have h := leL_add src (8 * k) 8 8
  have e : leL src (8 * k) 16 = leL src (8 * k) (8 + 8) := rfl
  rw [e, h, byte_le hby, show 8 * k + 8 = 8 * (k + 1) by omega, byte_le hby]
  rfl
include hne live hby in
/-- A block of stored bytes. -/
theorem dataBlock_sim {p : Nat} {out : List Nat} (hK : KF src D FR s.final (storedS src p out (-1))) (hA : At src D 7 s p out) (hcp : Cp s) (hb : base ++ pend s = out) (ht : trN s.tr = 0) (hw : s.wr < 32768) (hr : s.rd ≤ s.wr) : DoneS E src D FR base (dataBlockS I E src s) := by
  have hat := hA.bits.at_
  have hkl := hA.bits.k
  have hnb := hA.nb
  have hp8 : (p + 7) / 8 * 8 = 8 * s.k := by omega
  have hq1 : dbQ src s ≤ src.length - s.k := Nat.min_le_left _ _
  have hq2 : dbQ src s ≤ 4 := Nat.min_le_right _ _
  have hor : dbQ src s = 4 ∨ dbQ src s = src.length - s.k := by
    unfold dbQ
    rcases Nat.le_total (src.length - s.k) 4 with q | q
    · exact .inr (Nat.min_eq_left q)
    · exact .inl (Nat.min_eq_right q)
  unfold storedS at hK
  simp only [] at hK
  rw [hp8] at hK
  obtain ⟨a, ha⟩ : ∃ a, a = dbA src s := ⟨_, rfl⟩
  have a1 : a.final = s.final ∧ a.nb = 0 ∧ a.rd = s.rd ∧ a.wr = s.wr ∧ a.tr = s.tr ∧ a.st = s.st ∧ a.dist = s.dist ∧ a.k = s.k + dbQ src s ∧ a.hist = s.hist ∧ a.full = s.full ∧ a.b = 0 ∧ a.len = s.len ∧ a.err = s.err := by
    rw [ha]; unfold dbA gotB
    exact ⟨rfl, rfl, rfl, rfl, rfl, rfl, rfl, rfl, rfl, rfl, rfl, rfl, rfl⟩
  obtain ⟨a1, a2, a3, a4, a5, a6, a7, a8, a9, a10, a11, a12, a13⟩ := a1
  have hpa : pend a = pend s := by unfold pend; rw [a9, a4, a3]
  have hwa : Win a (D ++ out) := hA.win.of a9 a4 a10
  have hha : histN a = histN s := by unfold histN; rw [a10, a4]
  have hta : trN a.tr = 0 := by rw [a5]; exact ht
  have herr : ∀ s' : DS, s'.hist = a.hist → s'.wr = a.wr → s'.rd = a.rd → s'.tr = a.tr → Ended E FR s' out → DoneS E src D FR base s' := fun s' e1 e2 e3 e4 he => by
    refine ⟨out, ?_, .inl he⟩
    have b1 : trL s' = [] := trL_zero (by rw [e4]; exact hta)
    have b2 : pend s' = pend s := by rw [← hpa]; unfold pend; rw [e1, e2, e3]
    rw [b1, b2, List.append_nil]; exact hb
  unfold dataBlockS
  rw [← ha]
  by_cases h4 : dbQ src s = 4
  · rw [if_pos h4]
    rw [bitsAt_ok src (8 * s.k) 16 (by omega)] at hK
    simp only [] at hK
    rw [bitsAt_ok src (8 * s.k + 16) 16 (by omega)] at hK
    simp only [] at hK
    rw [two_bytes hby, show 8 * s.k + 16 = 8 * (s.k + 2) by omega, two_bytes hby, show 8 * (s.k + 2) + 16 = 8 * (s.k + 4) by omega] at hK
    generalize dbN src s.k = n at *
    generalize dbN src (s.k + 2) = m at *
    unfold dbT
    by_cases hnm : n + m = 65535
    · rw [if_pos hnm]
      have e : lenE (-1) n m = -1 := if_neg (fun q => q.2 hnm)
      rw [e] at hK
      by_cases hn0 : n = 0
      · rw [if_pos hn0]
        rw [hn0] at hK
        have hK2 : KF src D FR a.final (8 * (s.k + 4), out, -1) := by rw [a1]; exact hK
        obtain ⟨z1, z2, z3, -, z5, z6, z7, z8, z9, z10, z11⟩ := outS_keep (I := I) a
        have hwo := outS_win (I := I) hwa
        obtain ⟨w1, w2⟩ := outS_wr (I := I) a (by omega)
        have htot := (flush_tot (I := I) (s := a) (s' := outS I a) (base := base) hwa.len hwa.le rfl (outS_hist a) rfl rfl)
        rw [hpa, hb] at htot
        unfold finishS
        cases hf : a.final with
        | false =>
          rw [hf] at hK2
          rw [if_neg (by rw [z10, hf]; decide)]
          refine ⟨out, htot, .inr (.inr ⟨rfl, 8 * (s.k + 4), hK2.more rfl, ⟨?_, ?_, ?_, hwo.of rfl rfl rfl, hA.ol, z5.trans (a13.trans hA.er)⟩, z10.trans hf, fun q1 => ?_⟩)⟩
          · show Bits src (8 * (s.k + 4)) (outS I a).k (outS I a).b (outS I a).nb
            rw [z1, z2, z3, a8, a2, a11, h4]
            exact ⟨rfl, by omega, rfl⟩
          · omega
          · show (outS I a).nb ≤ 7; rw [z2, a2]; decide
          · have q2 : s.st = 1 := a6 ▸ (z6 ▸ q1)
            obtain ⟨c1, c2⟩ := hcp q2
            refine ⟨(z8.trans a12).trans c1, ?_⟩
            have h7 : (outS I a).dist ≤ histN (outS I a) := by
              rw [z7, a7]
              exact Nat.le_trans c2 (hha ▸ histN_out (I := I) a (by omega))
            exact h7
        | true =>
          rw [hf] at hK2
          have e2 := hK2.last rfl
          rw [if_pos (by rw [z10, hf])]
          unfold lastS
          rw [if_neg (by omega)]
          refine ⟨out, htot, .inl ⟨fun _ => ⟨rfl, by rw [e2]⟩, fun q => ?_, fun q => ?_, by rw [e2]; exact List.prefix_refl _⟩⟩
          · rw [e2] at q; exact absurd (show (1 : Int) = 2 from q) (by decide)
          · rw [e2] at q; exact absurd (show (1 : Int) = 3 from q) (by decide)
      · rw [if_neg hn0]
        refine copyData_sim (s := { a with len := n }) (out := out) hby hne live ⟨?_, a2, a11, ?_, hwa.of rfl rfl rfl, hA.ol, fun q1 => ?_, a13.trans hA.er⟩ (by rw [← hb, ← hpa]; rfl) hta (by show a.wr < 32768; omega) (by show a.rd ≤ a.wr; omega)
        · show KF src D FR a.final (stGo src (8 * a.k) out (-1) n)
          rw [a1, a8, h4]; exact hK
        · show a.k ≤ src.length; omega
        · show a.dist ≤ histN a
          rw [a7, hha]; exact (hcp (a6 ▸ q1)).2
    · rw [if_neg hnm]
      have e : lenE (-1) n m = 2 := if_pos ⟨by decide, hnm⟩
      rw [e] at hK
      have hF := hK.bad' (stGo_end _ _ (by decide) n) (by decide)
      refine herr _ rfl rfl rfl rfl ⟨fun q => ?_, fun _ => cor_ne_eof E _, fun q => ?_, by rw [hF]; exact List.prefix_refl _⟩
      · rw [hF] at q; exact absurd (show (2 : Int) = 1 from q) (by decide)
      · rw [hF] at q; exact absurd (show (2 : Int) = 3 from q) (by decide)
  · rw [if_neg h4]
    have hF : FR.2 = (out, 3) := by
      by_cases h16 : 8 * s.k + 16 ≤ 8 * src.length
      · rw [bitsAt_ok src (8 * s.k) 16 h16] at hK
        simp only [] at hK
        have hs := bitsAt_short src (8 * s.k + 16) 16 (by omega) h16
        generalize bitsAt src (8 * s.k + 16) (-1) 16 = u at *
        obtain ⟨y1, y2, y3⟩ := u
        simp only [Prod.mk.injEq] at hs
        obtain ⟨rfl, rfl⟩ := hs
        simp only [] at hK
        have e : ∀ n m, lenE 3 n m = 3 := fun n m => if_neg (fun q => absurd q.1 (by decide))
        rw [e] at hK
        exact hK.bad' (stGo_end _ _ (by decide) _) (by decide)
      · have hs := bitsAt_short src (8 * s.k) 16 (by omega) (by omega)
        generalize bitsAt src (8 * s.k) (-1) 16 = u at *
        obtain ⟨y1, y2, y3⟩ := u
        simp only [Prod.mk.injEq] at hs
        obtain ⟨rfl, rfl⟩ := hs
        simp only [] at hK
        rw [bitsAt_off src (8 * src.length) (show ¬ (3 : Int) < 0 by decide) 16] at hK
        have e : ∀ n m, lenE 3 n m = 3 := fun n m => if_neg (fun q => absurd q.1 (by decide))
        rw [e] at hK
        exact hK.bad' (stGo_end _ _ (by decide) _) (by decide)
    refine herr _ rfl rfl rfl rfl ⟨fun q => ?_, fun _ => eof_ne_une E hne, fun _ => rfl, by rw [hF]; exact List.prefix_refl _⟩
    rw [hF] at q; exact absurd (show (3 : Int) = 1 from q) (by decide)
end
end Go.Proofs.YtbbnibbdiiffkaaDoor
