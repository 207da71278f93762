/- The relation between the decoder and the reference that every step keeps. The relation at first, and at the end. FnAny is true: the walk. What the condition of FnAny's row gives a walk: the listed variables' cells; the arguments opened. FnAny is true, whatever the bytes, the dictionary and the sizes of the reads. FnAny's row is proved. -/
import Derived.ChangeSame
import Derived.ChangeVars
import Derived.RowKit
import Derived.LaidLaws
import Derived.LaidHandle
import Derived.ProofKit
import Derived.LaidMore
import Derived.OpenShut
import Derived.OpenVars
import Derived.JoinedOf
import Derived.Carry
import Derived.Stop.Joined
import Derived.Test.YtbbnibbdiiffkaaDoorM06
import Derived.Test.YtbbnibbdiiffkaaDoorM20
import Derived.Test.YtbbnibbdiiffkaaDoorM22
import Derived.Test.YtbbnibbdiiffkaaDoorM24

/- The relation between the decoder and the reference that every step keeps. -/
namespace Go.Proofs.YtbbnibbdiiffkaaDoor
open Go.RowKit

section
variable {I : Ids} {E : Errs} {src D : List Nat} {FR : Nat × List Nat × Int} {s : DS} {base : List Nat}
theorem rhZ_len : ∀ r i (l : List Nat), (rhZ l r i).length = l.length := by
  intro r
  induction r with
  | zero => intro i l; rfl
  | succ r ih => intro i l; rw [rhZ, ih, List.length_set]
theorem rhX_clen {n i x : Nat} {s : DS} : (rhX E src n i x s).ds.cb.length = s.cb.length := by
  unfold rhX
  split
  · rfl
  · split
    · rfl
    · obtain ⟨k, ro, b, nb, e⟩ := need_keep src (exN x) 4 s
      have hn : (need src (exN x) 4 s).2.cb = s.cb := by rw [e]
      generalize need src (exN x) 4 s = N at *
      split
      · unfold rhRep
        split <;> (show N.2.cb.length = _; rw [hn])
      · show N.2.cb.length = _; rw [hn]
theorem rhStep_clen {n i : Nat} {s : DS} : (rhStep E src n i s).ds.cb.length = s.cb.length := by
  unfold rhStep
  cases hq : hsM src s.h1 s.k s.b s.nb with
  | sym x k b nb => exact rhX_clen (s := (HR.sym x k b nb).st s)
  | eof k b nb => rfl
  | bad k b nb => rfl
theorem rhEnd_clen {nl nd : Nat} {s : DS} : (rhEnd nl nd s).2.cb.length = s.cb.length := by
  unfold rhEnd
  split
  · split <;> rfl
  · rfl
theorem rhSyms_clen {nl nd : Nat} : ∀ f i (s : DS), (rhSyms E src nl nd f i s).2.cb.length = s.cb.length := by
  intro f
  induction f with
  | zero => intro i s; exact rhEnd_clen
  | succ f ih =>
    intro i s
    rw [rhSyms]
    split
    · have h1 := rhStep_clen (E := E) (src := src) (n := nl + nd) (i := i) (s := s)
      cases hq : rhStep E src (nl + nd) i s with
      | ok i' s' => rw [hq] at h1; exact (ih i' s').trans h1
      | err v s' => rw [hq] at h1; exact h1
    · exact rhEnd_clen
theorem rhTab_clen {nl nd : Nat} {s : DS} : (rhTab E src nl nd s).2.cb.length = s.cb.length := by
  unfold rhTab
  split
  · exact rhSyms_clen _ _ _
  · rfl
theorem rhCb_clen {nl nd nc : Nat} : ∀ r i (s : DS), (rhCb E src nl nd nc r i s).2.cb.length = s.cb.length := by
  intro r
  induction r with
  | zero => intro i s; exact rhTab_clen.trans (rhZ_len _ _ _)
  | succ r ih =>
    intro i s
    obtain ⟨k, ro, b, nb, e⟩ := need_keep src 3 4 s
    have hn : (need src 3 4 s).2.cb = s.cb := by rw [e]
    rw [rhCb]
    split
    · exact (ih _ _).trans (by simp only [List.length_set])
    · show (need src 3 4 s).2.cb.length = _; rw [hn]
theorem rhS_clen (E : Errs) (src : List Nat) (s : DS) : (rhS E src s).2.cb.length = s.cb.length := by
  obtain ⟨k, ro, b, nb, e⟩ := need_keep src 14 4 s
  have hn : (need src 14 4 s).2.cb = s.cb := by rw [e]
  unfold rhS
  generalize need src 14 4 s = N at *
  split
  · unfold rh1
    split
    · show N.2.cb.length = _; rw [hn]
    · unfold rh2
      split
      · show N.2.cb.length = _; rw [hn]
      · rw [← hn]; exact rhCb_clen _ _ _
  · show N.2.cb.length = _; rw [hn]
theorem HOK.uniq {hl hl' : HD} {hd hd' : Option HD} (h : HOK I hl hd s) (h2 : TabOf I s s.hl hl') (h3 : (hd' = none ∧ s.hd = .pointer none) ∨ ∃ h, hd' = some h ∧ s.hd = .pointer (some ⟨I.F, 520, none⟩) ∧ h = s.h2) : hl = hl' ∧ hd = hd' := by
  refine ⟨?_, ?_⟩
  · rcases h.tl with ⟨a, b⟩ | ⟨a, b⟩ | ⟨X, a, -, b⟩ <;> rcases h2 with ⟨c, d⟩ | ⟨c, d⟩ | ⟨Y, c, -, d⟩ <;> first
      | exact b.trans d.symm
      | (rw [a] at c; simp at c)
  · rcases h.td with ⟨a, b⟩ | ⟨t, a, b, c⟩ <;> rcases h3 with ⟨d, e⟩ | ⟨u, d, e, f⟩
    · exact a.trans d.symm
    · rw [b] at e; simp at e
    · rw [b] at e; simp at e
    · rw [a, d, c, f]
/-- The relation. -/
structure VR (E : Errs) (src D : List Nat) (FR : Nat × List Nat × Int) (I : Ids) (s : DS) (g : List Nat) : Prop where
  str : s.err = .nilIface → Str I src s
  wr : s.wr < 32768
  rd : s.rd ≤ s.wr
  tr : TrOK I s.tr
  err : ErrV E s.err
  cl : s.cb.length = 19
  fl : s.err ≠ .nilIface → s.wr ≤ s.rd
  sim : Live FR.2.2 → StepR I E src D FR g s
theorem Ended.ne {out : List Nat} (h : Ended E FR s out) (live : Live FR.2.2) : s.err ≠ .nilIface := by
  rcases live with q | q | q
  · rw [(h.one q).1]; exact eofV_ne E
  · exact (h.two q).2
  · rw [h.three q]; exact uneV_ne E
theorem StepR.tr {v : Value} {n : Nat} (h : StepR I E src D FR base s) (ht : trL { s with tr := v } = (trL s).drop n) : StepR I E src D FR (base ++ (trL s).take n) { s with tr := v } := by
  obtain ⟨out, h1, h2⟩ := h
  refine ⟨out, ?_, ?_⟩
  · have e : pend { s with tr := v } = pend s := rfl
    rw [e, ht, List.append_assoc base, List.take_append_drop]; exact h1
  · rcases h2 with h2 | ⟨h2, lit, dist, hl, hd, C, t1, t2, p, o2, k1, k2, k3, k4⟩ | ⟨h2, k1, k2, k3, k4, k5, k6⟩ | ⟨h2, p, k1, k2, k3, k4⟩
    · exact .inl ⟨h2.one, h2.two, h2.three, h2.pre⟩
    · exact .inr (.inl ⟨h2, lit, dist, hl, hd, C, t1, t2, p, o2, k1, ⟨k2.bits, k2.ple, k2.nb, k2.win.of rfl rfl rfl, k2.ol, k2.er⟩, k3, k4⟩)
    · exact .inr (.inr (.inl ⟨h2, k1, k2, k3, k4, k5.of rfl rfl rfl, k6⟩))
    · exact .inr (.inr (.inr ⟨h2, p, k1, ⟨k2.bits, k2.ple, k2.nb, k2.win.of rfl rfl rfl, k2.ol, k2.er⟩, k3, k4⟩))
theorem Str.tr {v : Value} (h : Str I src s) : Str I src { s with tr := v } := by
  refine ⟨⟨h.rk.nb, h.rk.t1, h.rk.t2, h.rk.bits, h.rk.cb⟩, h.blen, h.kle, h.wr, h.rd, h.st, h.dist, ?_⟩
  rcases h.step with q | ⟨q, hl, hd, k, h1, h2⟩ | q
  · exact .inl q
  · exact .inr (.inl ⟨q, hl, hd, ⟨k.tl, k.td, k.nb, k.wr, k.rd⟩, h1, h2⟩)
  · exact .inr (.inr q)
theorem stp_clen {s' : DS} (hs : Str I src s) (h : Stp I E src s s') : s'.cb.length = s.cb.length := by
  cases h with
  | data hst => rw [(copyData_sto (I := I) (E := E) (s0 := s) (s1 := s) (.refl s) hs.kle hs.rk.nb hs.wr hs.rd (Nat.le_refl _) rfl rfl rfl rfl).fr.cb]
  | block hl hd hst hk s1 s2 => rw [(hbS_stop (I := I) (E := E) hs.kle hs.rk.nb hs.wr hs.rd hs.dist s1 s2).fr.cb]
  | next X la lb hst hrk =>
    have hq := need_near src 3 4 s hs.kle
    obtain ⟨k, ro, b, nb, e⟩ := need_keep src 3 4 s
    obtain ⟨q1, q2, -⟩ := hq
    have hkn := q1.kle
    have h24 := hs.rk.nb
    unfold nextS
    generalize need src 3 4 s = N at *
    obtain ⟨ee, sn⟩ := N
    simp only [] at e q2 hkn hrk ⊢
    split
    · obtain ⟨sh, hsh⟩ : ∃ sh, sh = hdS sn := ⟨_, rfl⟩
      rw [← hsh] at hrk ⊢
      have g : sh.cb = s.cb ∧ sh.wr = s.wr ∧ sh.rd = s.rd ∧ sh.bits = s.bits ∧ sh.st = s.st ∧ sh.dist = s.dist ∧ sh.k = sn.k ∧ sh.nb ≤ 24 := by
        rw [hsh]
        refine ⟨by unfold hdS; rw [e], by unfold hdS; rw [e], by unfold hdS; rw [e], by unfold hdS; rw [e], by unfold hdS; rw [e], by unfold hdS; rw [e], rfl, ?_⟩
        show sn.nb - 3 ≤ 24
        omega
      obtain ⟨g1, g2, g3, g4, g5, g6, g7, g8⟩ := g
      have hk1 : sh.k ≤ src.length := by rw [g7]; exact hkn
      unfold nextT
      split
      · rw [(dataBlock_sto (I := I) (E := E) hk1 (by rw [g2]; exact hs.wr) (by rw [g2, g3]; exact hs.rd)).fr.cb, g1]
      · split
        · unfold fixS
          have := (hbS_stop (I := I) (E := E) (src := src) (s := { sh with hl := .pointer (some ⟨X, 0, none⟩), hx := (initH fixLit).2, hd := .pointer none }) (hd := none) hk1 g8 (by show sh.wr < 32768; rw [g2]; exact hs.wr) (by show sh.rd ≤ sh.wr; rw [g2, g3]; exact hs.rd) (fun q => by show 1 ≤ sh.dist; rw [g6]; exact hs.dist (g5 ▸ q)) fix_safe (fun t e => by cases e)).fr.cb
          rw [this]
          show sh.cb.length = _
          rw [g1]
        · split
          · rename_i ht2
            have hk := rhS_kept E src sh
            have hkb := rhS_kb (src := src) E sh hk1
            have hg := rhS_good E src (s := sh) ⟨by rw [g4]; exact hs.blen, by rw [g4]; exact hs.rk.bits⟩
            have hcl := rhS_clen E src sh
            have hrk2 : ee = true := by assumption
            have hrk := hrk hrk2 ht2
            generalize rhS E src sh = R at *
            obtain ⟨rv, sr⟩ := R
            simp only [] at hk hkb hg hcl hrk
            rcases hg with ⟨hv, s1, s2⟩ | hv | ⟨r, hv⟩
            · simp only [] at hv s1 s2
              subst hv
              have hrk := hrk rfl
              show (dynG I E src la lb sr).cb.length = _
              unfold dynG
              have := (hbS_stop (I := I) (E := E) (src := src) (hd := some sr.h2) (s := { sr.ln la lb with err := .nilIface, hl := .pointer (some ⟨I.F, 5, none⟩), hd := .pointer (some ⟨I.F, 520, none⟩) }) hkb.1 hrk.nb (by show sr.wr < 32768; rw [hk.wr, g2]; exact hs.wr) (by show sr.rd ≤ sr.wr; rw [hk.wr, hk.rd, g2, g3]; exact hs.rd) (fun q => by show 1 ≤ sr.dist; rw [hk.dist, g6]; exact hs.dist (g5 ▸ (hk.st ▸ q))) s1 (fun t e => by cases e; exact s2)).fr.cb
              rw [this]
              show sr.cb.length = _
              rw [hcl, g1]
            · simp only [] at hv
              subst hv
              show sr.cb.length = _
              rw [hcl, g1]
            · simp only [] at hv
              subst hv
              show sr.cb.length = _
              rw [hcl, g1]
          · show sh.cb.length = _
            rw [g1]
    · show sn.cb.length = _
      rw [e]
theorem step_ne {a b : Nat} (h : stepV a = stepV b) : a = b := by
  unfold stepV at h
  simpa using h
theorem step_sim (hne : E.eof ≠ E.une) (live : Live FR.2.2) (hby : ∀ x ∈ src, x < 256) (hdl : D.length ≤ 32768) {s' : DS} {g : List Nat} (h : VR E src D FR I s g) (he : s.err = .nilIface) (ht : trN s.tr = 0) (hst : Stp I E src s s') : StepR I E src D FR g s' := by
  have hS := h.str he
  have hn : NumOK src s := ⟨hS.kle, hS.rk.nb, hS.wr, hS.rd, ht⟩
  obtain ⟨out, h1, h2⟩ := h.sim live
  rw [trL_zero ht, List.append_nil] at h1
  rcases h2 with h2 | ⟨h2, lit, dist, hl', hd', C, t1, t2, p, o2, k1, k2, k3, k4⟩ | ⟨h2, k1⟩ | ⟨h2, k1⟩
  · exact absurd he (h2.ne live)
  · cases hst with
    | next X la lb q hrk => exact absurd (step_ne (q.symm.trans h2)) (by decide)
    | data q => exact absurd (step_ne (q.symm.trans h2)) (by decide)
    | block hl hd q hk s1 s2 =>
      obtain ⟨rfl, rfl⟩ := hk.uniq t1 t2
      have hfr := (hbS_stop (I := I) (E := E) hS.kle hS.rk.nb hS.wr hS.rd hS.dist s1 s2).fr
      refine (hbS_sim (base := g) hne live hby C s1 s2 hdl hn (fun q1 => ?_) (fun q1 => ?_)).stepR C hfr t1 t2
      · rcases k4 with ⟨q2, -⟩ | ⟨-, m1, m2, m3⟩
        · rw [q2] at q1; exact absurd q1 (by decide)
        · exact ⟨p, out, o2, k1, k2, k3, m1, m2, m3, h1⟩
      · rcases k4 with ⟨-, q2⟩ | ⟨q2, -⟩
        · rw [q2] at k1
          exact ⟨p, out, k1, k2, fun q3 => absurd q3 q1, h1⟩
        · exact absurd q2 q1
  · cases hst with
    | next X la lb q hrk => exact absurd (step_ne (q.symm.trans h2)) (by decide)
    | block hl hd q hk s1 s2 => exact absurd (step_ne (q.symm.trans h2)) (by decide)
    | data q => exact (copyData_sim hby hne live k1 h1 ht hS.wr hS.rd).stepR
  · cases hst with
    | block hl hd q hk s1 s2 => exact absurd (step_ne (q.symm.trans h2)) (by decide)
    | data q => exact absurd (step_ne (q.symm.trans h2)) (by decide)
    | next X la lb q hrk => exact nextS_sim hne live hby hn hdl k1 h1 ⟨hS.blen, hS.rk.bits⟩ h.cl hS.dist X la lb
/-- What is left is flushed: all that was given stays. -/
theorem StepR.flush (_live : Live FR.2.2) (h : StepR I E src D FR base s) (he : s.err ≠ .nilIface) (ht : trN s.tr = 0) (hw : s.wr ≤ 32768) : StepR I E src D FR base (outS I s) := by
  obtain ⟨out, h1, h2⟩ := h
  rw [trL_zero ht, List.append_nil] at h1
  have e1 : trL (outS I s) = pend s := by
    have e : (outS I s).tr = .slice (some ⟨I.D, s.rd, none⟩) (s.wr - s.rd) (32768 - s.rd) := rfl
    unfold trL
    rw [e, outS_hist]
    unfold pend
    rw [List.drop_take]
  have e2 : pend (outS I s) = [] := pend_nil (by rw [(outS_wr (I := I) s hw).2]; exact Nat.le_refl _)
  have e3 : (outS I s).err = s.err := (outS_keep (I := I) s).2.2.2.2.1
  refine ⟨out, by rw [e1, e2, List.append_nil]; exact h1, ?_⟩
  rcases h2 with h2 | ⟨-, lit, dist, hl', hd', C, t1, t2, p, o2, k1, k2, k3, k4⟩ | ⟨-, k1, k2, k3, k4, k5, k6, k7, k8⟩ | ⟨-, p, k1, k2, k3⟩
  · exact .inl ⟨by rw [e3]; exact h2.one, by rw [e3]; exact h2.two, by rw [e3]; exact h2.three, h2.pre⟩
  · exact absurd k2.er he
  · exact absurd k8 he
  · exact absurd k2.er he
/-- Every step keeps the relation. -/
theorem vr_runs (hne : E.eof ≠ E.une) (hby : ∀ x ∈ src, x < 256) (hdl : D.length ≤ 32768) : Runs I E src (VR E src D FR I) := by
  refine ⟨fun s g h he => h.str he, fun s g h => ⟨h.wr, h.rd, h.tr, h.err⟩, fun s g n v h hn hv h1 h2 => ?_, fun s g s' h he ht hst => ?_⟩
  · exact ⟨fun e => (h.str e).tr, h.wr, h.rd, hv, h.err, h.cl, h.fl, fun live => (h.sim live).tr h2⟩
  · have hS := h.str he
    have ha := stp_aft hS he ht hst
    have hcl : s'.cb.length = 19 := (stp_clen hS hst).trans h.cl
    have her : ErrV E s'.err := by
      rcases ha.errs with q | q | q | q
      · exact .inl q
      · exact .inr (.inl q)
      · exact .inr (.inr (.inl q))
      · exact .inr (.inr (.inr q))
    have htr : TrOK I s'.tr := by
      rcases ha.tr with q | q
      · rw [q]; exact h.tr
      · exact q.1
    unfold flE
    split
    · rename_i hc
      have hen : s'.err ≠ .nilIface := fun e => by rw [e] at hc; exact absurd hc.1 (by decide)
      have hw : s'.wr ≤ 32768 := Nat.le_of_lt ha.wr
      obtain ⟨w1, w2⟩ := outS_wr (I := I) s' hw
      have e3 : (outS I s').err = s'.err := (outS_keep (I := I) s').2.2.2.2.1
      refine ⟨fun e => absurd (e3.symm.trans e) hen, w1, Nat.le_of_eq w2, (outS_tr (I := I) s' ha.rd hw).1, by rw [e3]; exact her, by rw [(outS_keep (I := I) s').2.2.2.2.2.2.2.2.2.2.cb]; exact hcl, fun _ => Nat.le_of_eq w2.symm, fun live => ?_⟩
      exact (step_sim hne live hby hdl h he ht hst).flush live hen hc.2 hw
    · rename_i hc
      refine ⟨ha.str, ha.wr, ha.rd, htr, her, hcl, fun hen => ?_, fun live => step_sim hne live hby hdl h he ht hst⟩
      have hnn : isNil s'.err = false := by
        cases hq : isNil s'.err with
        | false => rfl
        | true => exact absurd ((isNil_iff _).1 hq) hen
      have ht0 : trN s'.tr ≠ 0 := fun q => hc ⟨hnn, q⟩
      rcases ha.tr with q | q
      · rw [q] at ht0; exact absurd ht ht0
      · exact q.2
end
end Go.Proofs.YtbbnibbdiiffkaaDoor

/- The relation at first, and at the end. -/
namespace Go.Proofs.YtbbnibbdiiffkaaDoor
open Go.RowKit

section
variable {I : Ids} {E : Errs} {src dict : List Nat}
theorem wrI_lt (dict : List Nat) : wrI dict < 32768 := by
  unfold wrI
  have h := lastD_len dict
  have : Nat.min dict.length 32768 ≤ 32768 := Nat.min_le_right _ _
  split <;> omega
theorem ds0_str : Str I src (ds0 dict) := by
  refine ⟨⟨Nat.zero_le _, ⟨Nat.zero_le _, fun _ => ⟨rfl, rfl⟩⟩, ⟨Nat.zero_le _, fun _ => ⟨rfl, rfl⟩⟩, fun x hx => ?_, fun x hx => ?_⟩, List.length_replicate, Nat.zero_le _, ?_, ?_, .inl rfl, fun h => ?_, .inl rfl⟩
  · rw [(List.mem_replicate.1 hx).2]; exact Nat.zero_le _
  · rw [(List.mem_replicate.1 hx).2]; exact Nat.zero_le _
  · rw [ds0_wr]; exact wrI_lt dict
  · rw [ds0_rd, ds0_wr]; exact Nat.le_refl _
  · exact absurd (show (0 : Nat) = 1 from h) (by decide)
theorem ds0_win : Win (ds0 dict) (lastD dict) := by
  have hl := lastD_len dict
  have hm : Nat.min dict.length 32768 ≤ 32768 := Nat.min_le_right _ _
  have hh : (ds0 dict).hist = winL dict := by simp only [ds0]
  refine ⟨by rw [hh]; exact winL_len dict, by rw [ds0_wr]; exact Nat.le_of_lt (wrI_lt dict), fun h => ?_, fun h => ?_, ?_, fun i h1 h2 => ?_⟩
  · rw [ds0_full] at h
    rw [ds0_wr]
    unfold wrI
    rw [if_neg (of_decide_eq_false h)]
  · rw [ds0_full] at h
    exact Nat.le_of_eq (of_decide_eq_true h).symm
  · rw [ds0_wr]
    unfold wrI
    split
    · rename_i h; rw [h]
    · rfl
  · rw [hh, Nat.mod_eq_of_lt (by omega)]
    unfold winL
    rw [List.getD_eq_getElem?_getD, List.getElem?_append_left h1, ← List.getD_eq_getElem?_getD]
theorem vr_init : VR E src (lastD dict) (inflS src (lastD dict)) I (ds0 dict) [] := by
  refine ⟨fun _ => ds0_str, by rw [ds0_wr]; exact wrI_lt dict, by rw [ds0_rd, ds0_wr]; exact Nat.le_refl _, .inl rfl, .inl rfl, List.length_replicate, fun h => absurd rfl h, fun _ => ?_⟩
  refine ⟨[], ?_, .inr (.inr (.inr ⟨rfl, 0, ⟨8 * src.length + 1, by omega, rfl⟩, ⟨⟨rfl, Nat.zero_le _, rfl⟩, Nat.zero_le _, Nat.zero_le _, ?_, Nat.zero_le _, rfl⟩, rfl, fun h => absurd (show (0 : Nat) = 1 from h) (by decide)⟩))⟩
  · have h1 : trL (ds0 dict) = [] := rfl
    have h2 : pend (ds0 dict) = [] := pend_nil (by rw [ds0_wr, ds0_rd]; exact Nat.le_refl _)
    rw [h1, h2]; rfl
  · rw [List.append_nil]; exact ds0_win
theorem giveO_len {out : List Nat} (e : Int) (b : Nat) (h : out.length ≤ 131072) : (giveO out e b).length ≤ 131072 := by
  unfold giveO
  split
  · rename_i q; rw [List.length_append]; have := q.2; show out.length + 1 ≤ 131072; omega
  · exact h
theorem farGo_len (D : List Nat) (d : Nat) {out : List Nat} (e : Int) (h : out.length ≤ 131072) (n : Nat) : (farGo D d out e n).1.length ≤ 131072 := by
  induction n with
  | zero => exact h
  | succ n ih => exact giveO_len _ _ ih
theorem farS_len (D : List Nat) {out : List Nat} (e : Int) (len d : Nat) (h : out.length ≤ 131072) : (farS D out e len d).1.length ≤ 131072 := by
  unfold farS
  split
  · split
    · exact h
    · exact farGo_len _ _ _ h _
  · exact h
theorem codedStep_len {D : List Nat} (M N : List (Nat × Nat)) (u p : Nat) {out : List Nat} (e : Int) (h : out.length ≤ 131072) : (codedStep M N u src D p out e).2.2.1.length ≤ 131072 := by
  unfold codedStep
  simp only []
  split
  · split
    · exact giveO_len _ _ h
    · split
      · exact h
      · split
        · exact h
        · split
          · exact h
          · split
            · exact h
            · split
              · split
                · exact h
                · exact farS_len _ _ _ _ h
              · exact h
  · exact h
theorem codedGo_len {D : List Nat} (M N : List (Nat × Nat)) (u : Nat) : ∀ f p (out : List Nat) e, out.length ≤ 131072 → (codedGo M N u src D f p out e).2.1.length ≤ 131072 := by
  intro f
  induction f with
  | zero => intro p out e h; exact h
  | succ f ih =>
    intro p out e h
    rw [codedGo]
    split
    · simp only []
      split
      · exact codedStep_len M N u p e h
      · exact ih _ _ _ (codedStep_len M N u p e h)
    · exact h
theorem stGo_len' (p : Nat) {out : List Nat} (e : Int) (h : out.length ≤ 131072) (k : Nat) : (stGo src p out e k).2.1.length ≤ 131072 := by
  induction k with
  | zero => exact h
  | succ k ih => exact giveO_len _ _ ih
theorem kindS_len {D : List Nat} (t p : Nat) {out : List Nat} (e : Int) (h : out.length ≤ 131072) : (kindS src D t p out e).2.1.length ≤ 131072 := by
  unfold kindS
  split
  · unfold storedS; exact stGo_len' _ _ h _
  · split
    · exact codedGo_len _ _ _ _ _ _ _ h
    · split
      · unfold dynS dynTail
        simp only []
        generalize toldS _ _ _ _ _ = t
        split
        · exact codedGo_len _ _ _ _ _ _ _ h
        · exact h
      · exact h
theorem inflGo_len {D : List Nat} : ∀ f p (out : List Nat) e, out.length ≤ 131072 → (inflGo src D f p out e).2.1.length ≤ 131072 := by
  intro f
  induction f with
  | zero => intro p out e h; exact h
  | succ f ih =>
    intro p out e h
    rw [inflGo]
    split
    · exact ih _ _ _ (kindS_len _ _ _ h)
    · exact h
/-- What an unpacking gives fits the reference. -/
theorem un_fits (hne : E.eof ≠ E.une) {D out : List Nat} {fin : Int} (h : UnEnd E (VR E src D (inflS src D) I) out fin) : Fits (inflS src D) out fin := by
  have hlen : (inflS src D).2.1.length ≤ 131072 := inflGo_len _ _ _ _ (Nat.zero_le _)
  generalize inflS src D = FR at *
  rcases h with ⟨-, hl, s, hv⟩ | ⟨s, hv, ht, hf⟩
  · have key : Live FR.2.2 → False := fun live => by
      obtain ⟨o, h1, h2⟩ := hv.sim live
      have h3 : out.length ≤ o.length := by rw [← h1, List.append_assoc, List.length_append]; exact Nat.le_add_right _ _
      have h4 : o.length ≤ 131072 := by
        rcases h2 with h2 | ⟨-, lit, dist, hl', hd', C, t1, t2, p, o2, k1, k2, k3, k4⟩ | ⟨-, k1, k2, k3, k4, k5, k6, k7, k8⟩ | ⟨-, p, k1, k2, k3⟩
        · exact Nat.le_trans h2.pre.length_le hlen
        · exact k2.ol
        · exact k6
        · exact k2.ol
      omega
    exact ⟨fun q => (key (.inl q)).elim, fun q => (key (.inr (.inr q))).elim, fun q => (key (.inr (.inl q))).elim⟩
  · have hen : s.err ≠ .nilIface := by
      rcases hf with ⟨q, -⟩ | ⟨q, -⟩ | ⟨⟨r, q⟩, -⟩
      · rw [q]; exact eofV_ne E
      · rw [q]; exact uneV_ne E
      · rw [q]; exact corV_ne r
    have hend : Live FR.2.2 → Ended E FR s out := fun live => by
      obtain ⟨o, h1, h2⟩ := hv.sim live
      rw [trL_zero ht, List.append_nil, pend_nil (hv.fl hen), List.append_nil] at h1
      subst h1
      rcases h2 with h2 | ⟨-, lit, dist, hl', hd', C, t1, t2, p, o2, k1, k2, k3, k4⟩ | ⟨-, k1, k2, k3, k4, k5, k6, k7, k8⟩ | ⟨-, p, k1, k2, k3⟩
      · exact h2
      · exact absurd k2.er hen
      · exact absurd k8 hen
      · exact absurd k2.er hen
    have u1 := (eof_ne_une E hne).1
    refine ⟨fun q => ?_, fun q => ?_, fun q => ?_⟩
    · obtain ⟨a, b⟩ := (hend (.inl q)).one q
      refine ⟨?_, b⟩
      rcases hf with ⟨-, c⟩ | ⟨c, -⟩ | ⟨⟨r, c⟩, -⟩
      · exact c
      · exact absurd (c.symm.trans a) u1
      · exact absurd (c.symm.trans a) (cor_ne_eof E r).1
    · have he := hend (.inr (.inr q))
      have a := he.three q
      refine ⟨?_, he.pre⟩
      rcases hf with ⟨c, -⟩ | ⟨-, c⟩ | ⟨⟨r, c⟩, -⟩
      · exact absurd (a.symm.trans c) u1
      · exact c
      · have e := c.symm.trans a
        unfold corV Errs.uneV at e
        simp at e
    · have he := hend (.inr (.inl q))
      have a := (he.two q).1
      refine ⟨?_, he.pre⟩
      rcases hf with ⟨c, -⟩ | ⟨-, c⟩ | ⟨-, c⟩
      · exact absurd c a
      · exact .inr c
      · exact .inl c
end
end Go.Proofs.YtbbnibbdiiffkaaDoor

/- FnAny is true: the walk. -/
namespace Go.Proofs.YtbbnibbdiiffkaaDoor
open Go.RowKit

section
variable {w : World}
/-- What FnAny answers. -/
def FaPost (w : World) (r : Ending) (w' : World) : Prop := r = .returned (.bool true) ∧ New w w'
theorem FaPost.now : FaPost w (.returned (.bool true)) w := ⟨rfl, Frm.refl _ w⟩
set_option maxRecDepth 100000 in
set_option maxHeartbeats 1000000 in
theorem fa_1 (a1 a2 a3 : Option Addr) (n m q c1 c2 c3 : Nat) (h1 : 2147483647 < n) :
    Calls Tryd.prog 3 #[.slice a1 n c1, .slice a2 m c2, .slice a3 q c3] w (FaPost w) := by
  have H1 : decide ((2147483647 : Int) < (n : Int)) = true := decide_eq_true (by omega)
  clear h1
  generalize hP : FaPost w = Post at *
  have HP := Lib.hid hP
  clear hP
  go_enter Tryd.func3, Tryd.ntmps3
  go_wp2_with fail
  show Post (.returned (.bool true)) w
  rw [← HP.out]
  exact FaPost.now
set_option maxRecDepth 100000 in
set_option maxHeartbeats 1000000 in
theorem fa_2 (a1 a2 a3 : Option Addr) (n m q c1 c2 c3 : Nat) (h1 : ¬ 2147483647 < n) (h2 : 2147483647 < m) :
    Calls Tryd.prog 3 #[.slice a1 n c1, .slice a2 m c2, .slice a3 q c3] w (FaPost w) := by
  have H1 : decide ((2147483647 : Int) < (n : Int)) = false := decide_eq_false (by omega)
  have H2 : decide ((2147483647 : Int) < (m : Int)) = true := decide_eq_true (by omega)
  clear h1 h2
  generalize hP : FaPost w = Post at *
  have HP := Lib.hid hP
  clear hP
  go_enter Tryd.func3, Tryd.ntmps3
  go_wp2_with fail
  show Post (.returned (.bool true)) w
  rw [← HP.out]
  exact FaPost.now
set_option maxRecDepth 100000 in
set_option maxHeartbeats 1000000 in
theorem fa_3 (a1 a2 a3 : Option Addr) (n m q c1 c2 c3 : Nat) (h1 : ¬ 2147483647 < n) (h2 : ¬ 2147483647 < m) (h3 : 2147483647 < q) :
    Calls Tryd.prog 3 #[.slice a1 n c1, .slice a2 m c2, .slice a3 q c3] w (FaPost w) := by
  have H1 : decide ((2147483647 : Int) < (n : Int)) = false := decide_eq_false (by omega)
  have H2 : decide ((2147483647 : Int) < (m : Int)) = false := decide_eq_false (by omega)
  have H3 : decide ((2147483647 : Int) < (q : Int)) = true := decide_eq_true (by omega)
  clear h1 h2 h3
  generalize hP : FaPost w = Post at *
  have HP := Lib.hid hP
  clear hP
  go_enter Tryd.func3, Tryd.ntmps3
  go_wp2_with fail
  show Post (.returned (.bool true)) w
  rw [← HP.out]
  exact FaPost.now
set_option maxRecDepth 100000 in
set_option maxHeartbeats 1000000 in
theorem fa_4 (a1 a2 a3 : Option Addr) (n m q c1 c2 c3 : Nat) (h1 : ¬ 2147483647 < n) (h2 : ¬ 2147483647 < m) (h3 : ¬ 2147483647 < q) (h4 : 100000 < n) :
    Calls Tryd.prog 3 #[.slice a1 n c1, .slice a2 m c2, .slice a3 q c3] w (FaPost w) := by
  have H1 : decide ((2147483647 : Int) < (n : Int)) = false := decide_eq_false (by omega)
  have H2 : decide ((2147483647 : Int) < (m : Int)) = false := decide_eq_false (by omega)
  have H3 : decide ((2147483647 : Int) < (q : Int)) = false := decide_eq_false (by omega)
  have H4 : decide ((100000 : Int) < (n : Int)) = true := decide_eq_true (by omega)
  clear h1 h2 h3 h4
  generalize hP : FaPost w = Post at *
  have HP := Lib.hid hP
  clear hP
  go_enter Tryd.func3, Tryd.ntmps3
  go_wp2_with fail
  show Post (.returned (.bool true)) w
  rw [← HP.out]
  exact FaPost.now
set_option maxRecDepth 100000 in
set_option maxHeartbeats 1000000 in
theorem fa_5 (a1 a2 a3 : Option Addr) (n m q c1 c2 c3 : Nat) (h1 : ¬ 2147483647 < n) (h2 : ¬ 2147483647 < m) (h3 : ¬ 2147483647 < q) (h4 : ¬ 100000 < n) (h5 : 65536 < m) :
    Calls Tryd.prog 3 #[.slice a1 n c1, .slice a2 m c2, .slice a3 q c3] w (FaPost w) := by
  have H1 : decide ((2147483647 : Int) < (n : Int)) = false := decide_eq_false (by omega)
  have H2 : decide ((2147483647 : Int) < (m : Int)) = false := decide_eq_false (by omega)
  have H3 : decide ((2147483647 : Int) < (q : Int)) = false := decide_eq_false (by omega)
  have H4 : decide ((100000 : Int) < (n : Int)) = false := decide_eq_false (by omega)
  have H5 : decide ((65536 : Int) < (m : Int)) = true := decide_eq_true (by omega)
  clear h1 h2 h3 h4 h5
  generalize hP : FaPost w = Post at *
  have HP := Lib.hid hP
  clear hP
  go_enter Tryd.func3, Tryd.ntmps3
  go_wp2_with fail
  show Post (.returned (.bool true)) w
  rw [← HP.out]
  exact FaPost.now
set_option maxRecDepth 100000 in
set_option maxHeartbeats 1000000 in
theorem fa_6 (a1 a2 a3 : Option Addr) (n m q c1 c2 c3 : Nat) (h1 : ¬ 2147483647 < n) (h2 : ¬ 2147483647 < m) (h3 : ¬ 2147483647 < q) (h4 : ¬ 100000 < n) (h5 : ¬ 65536 < m) {sz : List Int} (hz : RdZ w (.slice a3 q c3) sz) (hb : sizesB sz = false) :
    Calls Tryd.prog 3 #[.slice a1 n c1, .slice a2 m c2, .slice a3 q c3] w (FaPost w) := by
  have H1 : decide ((2147483647 : Int) < (n : Int)) = false := decide_eq_false (by omega)
  have H2 : decide ((2147483647 : Int) < (m : Int)) = false := decide_eq_false (by omega)
  have H3 : decide ((2147483647 : Int) < (q : Int)) = false := decide_eq_false (by omega)
  have H4 : decide ((100000 : Int) < (n : Int)) = false := decide_eq_false (by omega)
  have H5 : decide ((65536 : Int) < (m : Int)) = false := decide_eq_false (by omega)
  have hl : sz.length < 2 ^ 62 := by
    obtain ⟨a, c, e, -⟩ := hz
    simp only [Value.slice.injEq] at e
    omega
  have HSZ := Lib.hid (sizes_any w _ sz hz hl)
  rw [hb] at HSZ
  clear h1 h2 h3 h4 h5 hl hz hb
  generalize hP : FaPost w = Post at *
  have HP := Lib.hid hP
  clear hP
  go_enter Tryd.func3, Tryd.ntmps3
  go_wp2_with (go_at_call 4; refine HSZ.out.mono ?_; rintro r w1 ⟨rfl, hn1⟩)
  show Post (.returned (.bool true)) w1
  rw [← HP.out]
  exact ⟨rfl, hn1⟩
/-- What a reading that is told gives. -/
def FaEnd (w : World) (srcV dictV : Value) (r : Ending) (w' : World) : Prop :=
  ∃ outV fin, r = .returned (.tuple #[outV, .int .i64 fin]) ∧ New w w' ∧ Calls Tryd.prog 6 #[srcV, dictV, outV, .int .i64 fin] w' (fun r w2 => r = .returned (.bool true) ∧ New w' w2)
set_option maxRecDepth 100000 in
set_option maxHeartbeats 1000000 in
theorem fa_7 (a1 a2 a3 : Option Addr) (n m q c1 c2 c3 : Nat) (h1 : ¬ 2147483647 < n) (h2 : ¬ 2147483647 < m) (h3 : ¬ 2147483647 < q) (h4 : ¬ 100000 < n) (h5 : ¬ 65536 < m) {sz : List Int} (hz : RdZ w (.slice a3 q c3) sz) (hb : sizesB sz = true)
    (HU : Hid (∀ w1, New w w1 → Calls Tryd.prog 5 #[.slice a1 n c1, .slice a2 m c2, .slice a3 q c3] w1 (FaEnd w (.slice a1 n c1) (.slice a2 m c2)))) :
    Calls Tryd.prog 3 #[.slice a1 n c1, .slice a2 m c2, .slice a3 q c3] w (FaPost w) := by
  have H1 : decide ((2147483647 : Int) < (n : Int)) = false := decide_eq_false (by omega)
  have H2 : decide ((2147483647 : Int) < (m : Int)) = false := decide_eq_false (by omega)
  have H3 : decide ((2147483647 : Int) < (q : Int)) = false := decide_eq_false (by omega)
  have H4 : decide ((100000 : Int) < (n : Int)) = false := decide_eq_false (by omega)
  have H5 : decide ((65536 : Int) < (m : Int)) = false := decide_eq_false (by omega)
  have hl : sz.length < 2 ^ 62 := by
    obtain ⟨a, c, e, -⟩ := hz
    simp only [Value.slice.injEq] at e
    omega
  have HSZ := Lib.hid (sizes_any w _ sz hz hl)
  rw [hb] at HSZ
  clear h1 h2 h3 h4 h5 hl hz hb
  generalize hP : FaPost w = Post at *
  have HP := Lib.hid hP
  clear hP
  go_enter Tryd.func3, Tryd.ntmps3
  go_wp2_with (go_at_call 4; refine HSZ.out.mono ?_; rintro r w1 ⟨rfl, hn1⟩)
  refine (HU.out w1 hn1).mono ?_
  rintro r w2 ⟨outV, fin, rfl, hn2, hT⟩
  have HT := Lib.hid hT
  have HN := Lib.hid hn2
  clear hT hn2 HU HSZ hn1
  go_wp2_with fail
  refine HT.out.mono ?_
  rintro r w3 ⟨rfl, hn3⟩
  go_wp2_with fail
  show Post (.returned (.bool true)) w3
  rw [← HP.out]
  exact ⟨rfl, HN.out.trans hn3⟩
end
end Go.Proofs.YtbbnibbdiiffkaaDoor

/- What the condition of FnAny's row gives a walk: the listed variables' cells; the arguments opened. -/
namespace Go.Proofs.YtbbnibbdiiffkaaDoor
open Go.ChangeShapes Go.WideShapes Go.RowKit

theorem g_eof : Tryd.prog.globalNamed "io.EOF" = some 0 := by kernel_rfl
theorem g_une : Tryd.prog.globalNamed "io.ErrUnexpectedEOF" = some 1 := by kernel_rfl
theorem g_ord : Tryd.prog.globalNamed "loop.example/pub-flatestreams/pub/goflate.codeOrder" = some 2 := by kernel_rfl
theorem g_short : Tryd.prog.globalNamed "io.ErrShortBuffer" = some 3 := by kernel_rfl
theorem gt_eof : (Tryd.prog.globals[0]?).map (·.type) = some 36 := by kernel_rfl
theorem gt_une : (Tryd.prog.globals[1]?).map (·.type) = some 36 := by kernel_rfl
theorem gt_short : (Tryd.prog.globals[3]?).map (·.type) = some 36 := by kernel_rfl
theorem star_es : "*" ++ "errors.errorString" = "*errors.errorString" := by decide
theorem row119 (u : TypeId) (h : Tryd.prog.typeName? 3 u = some "*errors.errorString") : u = 119 :=
  typeName_ptr_named (nm := "errors.errorString") (by rw [star_es]; kernel_rfl) (by kernel_rfl) (by decide) u (by rw [star_es]; exact h)
theorem c135 : Tryd.prog.cellsOf 135 = 1 := by kernel_rfl
theorem c9 : Tryd.prog.cellsOf 9 = 1 := by kernel_rfl
theorem gt_ord : (Tryd.prog.globals[2]?).map (·.type) = some 66 := by kernel_rfl

theorem ord_lits {H : Type} : [DataW.lit (.int .i64 16), DataW.lit (.int .i64 17), DataW.lit (.int .i64 18), DataW.lit (.int .i64 0), DataW.lit (.int .i64 8), DataW.lit (.int .i64 7), DataW.lit (.int .i64 9), DataW.lit (.int .i64 6), DataW.lit (.int .i64 10), DataW.lit (.int .i64 5), DataW.lit (.int .i64 11), DataW.lit (.int .i64 4), DataW.lit (.int .i64 12), DataW.lit (.int .i64 3), DataW.lit (.int .i64 13), DataW.lit (.int .i64 2), DataW.lit (.int .i64 14), DataW.lit (.int .i64 1), DataW.lit (.int .i64 15)] = orderL.map (fun (n : Nat) => (DataW.lit (.int .i64 (n : Int)) : DataW H)) := rfl
set_option maxRecDepth 100000 in
/-- What the condition gives a walk. -/
theorem gl_of_laid {W : World} (h : laidMetH Tryd.prog Rows.fnAnyRow.laid W) : ∃ E, GL E W.heap.size W := by
  rw [MakeChecks.laidMetH_plain _ _ _ (by kernel_rfl)] at h
  obtain ⟨ps, ⟨g3, t3, cs3, f3, p3, q3, hg3, ht3, hv3, hd3, ⟨g0, t0, cs0, f0, p0, q0, hg0, ht0, hv0, hd0, ⟨g1, t1, cs1, f1, p1, q1, hg1, ht1, hv1, hd1, ⟨g2, t2, cs2, f2, p2, q2, hg2, ht2, hv2, hd2, hq2, e2⟩, e1⟩, e0⟩, e3⟩, hnd, hrows⟩ := h
  obtain rfl := Option.some.inj (g_short.symm.trans hg3)
  obtain rfl := Option.some.inj (g_eof.symm.trans hg0)
  obtain rfl := Option.some.inj (g_une.symm.trans hg1)
  obtain rfl := Option.some.inj (g_ord.symm.trans hg2)
  obtain rfl := Option.some.inj (gt_short.symm.trans ht3)
  obtain rfl := Option.some.inj (gt_eof.symm.trans ht0)
  obtain rfl := Option.some.inj (gt_une.symm.trans ht1)
  obtain rfl := Option.some.inj (gt_ord.symm.trans ht2)
  have hq2' : q2 = [] := hq2
  subst hq2'
  subst e2
  subst e1
  subst e0
  subst e3
  have h3lt : 3 < W.heap.size := by
    unfold World.var? at hv3
    rw [g_short] at hv3
    simp only [Option.bind_some] at hv3
    rcases Nat.lt_or_ge 3 W.heap.size with h | h
    · exact h
    · rw [Array.getElem?_eq_none h] at hv3; cases hv3
  obtain ⟨l0⟩ := cs0
  obtain ⟨l1⟩ := cs1
  have ok0 : ∀ u v, l0 = [.iface u v] → Value.okWide Tryd.prog W .any 0 u v := fun u v e => by
    subst e
    exact (hrows 0 0 (by simp [MemPlace.row])).2 u v (by simpa using World.var?_cell hg0 hv0 0)
  have ok1 : ∀ u v, l1 = [.iface u v] → Value.okWide Tryd.prog W .any 0 u v := fun u v e => by
    subst e
    exact (hrows 1 0 (by simp [MemPlace.row])).2 u v (by simpa using World.var?_cell hg1 hv1 0)
  obtain ⟨a0, s0, rfl, hc0, hs0, hz0, rfl⟩ := errorString_of_trod Tryd.underlying36 row119 Tryd.underlying119 Tryd.underlying135 rfl rfl Tryd.underlying9 c135 c9 hd0 ok0
  obtain ⟨a1, s1, rfl, hc1, hs1, hz1, rfl⟩ := errorString_of_trod Tryd.underlying36 row119 Tryd.underlying119 Tryd.underlying135 rfl rfl Tryd.underlying9 c135 c9 hd1 ok1
  obtain ⟨c0, t0, hb0⟩ := (hrows a0.block a0.off (by simp [MemPlace.row])).1
  obtain ⟨c1, t1, hb1⟩ := (hrows a1.block a1.off (by simp [MemPlace.row])).1
  refine ⟨⟨a0, a1⟩, ?_, ?_, ?_, ⟨c0, t0, hb0⟩, ⟨c1, t1, hb1⟩, ?_, h3lt, ?_, ?_⟩
  · exact (by simpa using World.var?_cell g_eof hv0 0 : W.cell? ⟨0, 0, none⟩ = some (.iface 119 (.pointer (some a0))))
  · exact (by simpa using World.var?_cell g_une hv1 0 : W.cell? ⟨1, 0, none⟩ = some (.iface 119 (.pointer (some a1))))
  · intro j hj
    obtain ⟨xs, m1, rfl, hx1, hlen, hn3, hel⟩ := DataW.trod_array Tryd.underlying66 hd2
    have c3 : Tryd.prog.cellsOf 3 = 1 := by kernel_rfl
    have c66 : Tryd.prog.cellsOf 66 = 19 := by kernel_rfl
    have hjx : j < xs.length := by omega
    have h0 := hel j (by omega)
    rw [c3, Nat.mul_one, List.getElem?_eq_getElem hjx] at h0
    obtain ⟨k, e1, e2, -⟩ := DataW.trod_int Tryd.underlying3 h0
    simp only [Prod.mk.injEq, DataW.agg.injEq, Rows.laid_loop_example_pub_flatestreams_pub_goflate_codeOrder] at hx1
    have hL := congrArg (fun l => l[j]?) (hx1.1.symm.trans (ord_lits (H := Unit)))
    have hjo : j < orderL.length := hj
    simp only [List.getElem?_map, List.getElem?_eq_getElem hjx, List.getElem?_eq_getElem hjo, Option.map_some, e2, Option.some.injEq, DataW.lit.injEq, Lit.int.injEq, true_and] at hL
    have hc := World.var?_cell g_ord hv2 j
    rw [hc, List.getD_eq_getElem?_getD, List.getElem?_eq_getElem hjo, ← Array.getElem?_toList]
    have e3 := congrArg (fun l => l[0]?) e1
    simp only [List.getElem?_take, List.getElem?_drop, Nat.lt_add_one, if_true, Nat.add_zero, List.getElem?_cons_zero] at e3
    rw [e3, hL]
    rfl
  · intro (e : a0 = a1)
    rw [← e, hc0] at hc1
    cases hc1
    rw [hs0] at hs1
    exact absurd hs1 (by decide)
  · exact lt_of_block hb0
  · exact lt_of_block hb1

section
variable {H : Type} {enc : TypeId × Value → H} {W : World} {base : Nat}
set_option maxRecDepth 100000 in
theorem ok_block {t e : TypeId} (ht : Tryd.prog.underlying t = some (.slice e)) {a : Addr} {n c : Nat} (h : Value.okWide Tryd.prog W .any base t (.slice (some a) n c)) : a.block < W.heap.size := by
  unfold Value.okWide at h
  simp only [ht] at h
  unfold Cell.okWide Cell.ok at h
  simp only [ht] at h
  obtain ⟨-, -, -, -, row, cells, hs, -⟩ := h
  unfold World.shape? at hs
  rcases Nat.lt_or_ge a.block W.heap.size with h | h
  · exact h
  · rw [Array.getElem?_eq_none h] at hs; cases hs
set_option maxRecDepth 100000 in
/-- An argument of integers, opened. -/
theorem open_row {t e : TypeId} {k : IntKind} (ht : Tryd.prog.underlying t = some (.slice e)) (he : Tryd.prog.underlying e = some (.int k)) (hc : Tryd.prog.cellsOf e = 1) {v : Value} {d : DataW H} {p : List MemPlace}
    (hv : Value.okWide Tryd.prog W .any base t v) (h : DataW.Trod enc Tryd.prog W 0 (fun _ => true) true t v d p) :
    ∃ (a : Option Addr) (cap : Nat) (zs : List Int), v = .slice a zs.length cap ∧ Tidy v ∧ (∀ b off n c, v = .slice (some ⟨b, off, none⟩) n c → b < W.heap.size) ∧
      (∀ j, j < zs.length → ∃ b off, a = some ⟨b, off, none⟩ ∧ b < W.heap.size ∧ W.cell? ⟨b, off + j, none⟩ = some (.int k (zs.getD j 0))) ∧ (∀ z ∈ zs, (Lit.int k z).wf = true) := by
  obtain ⟨fuel, hf⟩ := h
  obtain ⟨a, n, c, rfl⟩ := okWide_slice ht hv
  rcases open_ints ht he hc hf with ⟨hcs, hx⟩ | ⟨a, len', cap', zs, hcs, -, hl, hm, hz, hx, hcell, hwz⟩
  · simp only [Value.cells, List.cons.injEq, Value.slice.injEq, and_true] at hcs
    obtain ⟨rfl, rfl, rfl⟩ := hcs
    exact ⟨none, 0, [], rfl, fun a n c e => (by cases e; exact ⟨Nat.le_refl _, fun _ => ⟨rfl, rfl⟩⟩), fun _ _ _ _ e => (by cases e), fun j hj => absurd hj (Nat.not_lt_zero _), fun z hz => by cases hz⟩
  · simp only [Value.cells, List.cons.injEq, Value.slice.injEq, and_true] at hcs
    obtain ⟨rfl, rfl, rfl⟩ := hcs
    simp only [if_true] at hz
    have hlen : (zs.take n).length = n := by rw [List.length_take]; omega
    refine ⟨some a, c, zs.take n, by rw [hlen], fun a n c e => ?_, fun b off n' c' e => ?_, fun j hj => ?_, fun z hz => hwz z (List.mem_of_mem_take hz)⟩
    · cases e
      exact ⟨hl, fun f => by cases f⟩
    · cases e
      exact ok_block ht hv
    · rw [hlen] at hj
      have hcj := hcell j (by omega)
      have hb := ok_block ht hv
      obtain ⟨b, off, s⟩ := a
      obtain rfl : s = none := by
        have := hcell 0 (by omega)
        simpa [Addr.add] using World.cell?_spot this
      refine ⟨b, off, rfl, hb, ?_⟩
      rw [add_plain] at hcj
      rw [hcj, List.getD_eq_getElem?_getD, List.getD_eq_getElem?_getD, List.getElem?_take, if_pos hj]
end
end Go.Proofs.YtbbnibbdiiffkaaDoor

/- FnAny is true, whatever the bytes, the dictionary and the sizes of the reads. -/
namespace Go.Proofs.YtbbnibbdiiffkaaDoor
open Go.RowKit

theorem lastD_len' (d : List Nat) : (lastD d).length ≤ 32768 := by
  unfold lastD
  rw [List.length_drop]
  omega
theorem fnAny_any {w : World} {E : Errs} {lo : Nat} {srcV dictV szV : Value} {src dict : List Nat} {sz : List Int} (hg : GL E lo w) (hlo : lo ≤ w.heap.size) (hs : Rd w srcV src) (hst : Tidy srcV) (hd : Rd w dictV dict) (hdt : Tidy dictV)
    (hz : RdZ w szV sz) (hbs : ∀ x ∈ src, x < 256) (hbd : ∀ x ∈ dict, x < 256) (hns : ∀ b off n cap, srcV = .slice (some ⟨b, off, none⟩) n cap → b < w.heap.size) (hnd : ∀ b off n cap, dictV = .slice (some ⟨b, off, none⟩) n cap → b < w.heap.size) :
    Calls Tryd.prog 3 #[srcV, dictV, szV] w (FaPost w) := by
  obtain ⟨a1, c1, rfl, hc1⟩ := hs
  obtain ⟨a2, c2, rfl, hc2⟩ := hd
  obtain ⟨a3, c3, rfl, hc3⟩ := hz
  have hs : Rd w (.slice a1 src.length c1) src := ⟨a1, c1, rfl, hc1⟩
  have hd : Rd w (.slice a2 dict.length c2) dict := ⟨a2, c2, rfl, hc2⟩
  have hz : RdZ w (.slice a3 sz.length c3) sz := ⟨a3, c3, rfl, hc3⟩
  by_cases h1 : 2147483647 < src.length
  · exact fa_1 _ _ _ _ _ _ _ _ _ h1
  by_cases h2 : 2147483647 < dict.length
  · exact fa_2 _ _ _ _ _ _ _ _ _ h1 h2
  by_cases h3 : 2147483647 < sz.length
  · exact fa_3 _ _ _ _ _ _ _ _ _ h1 h2 h3
  by_cases h4 : 100000 < src.length
  · exact fa_4 _ _ _ _ _ _ _ _ _ h1 h2 h3 h4
  by_cases h5 : 65536 < dict.length
  · exact fa_5 _ _ _ _ _ _ _ _ _ h1 h2 h3 h4 h5
  cases hb : sizesB sz with
  | false => exact fa_6 _ _ _ _ _ _ _ _ _ h1 h2 h3 h4 h5 hz hb
  | true =>
    refine fa_7 _ _ _ _ _ _ _ _ _ h1 h2 h3 h4 h5 hz hb (Lib.hid fun w1 hn1 => ?_)
    have hg1 : GL E lo w1 := hg.frm hn1 (fun k e => e.elim)
    have hs1 : Rd w1 (.slice a1 src.length c1) src := hs.frm hn1 (fun _ _ _ _ _ => id)
    have hd1 : Rd w1 (.slice a2 dict.length c2) dict := hd.frm hn1 (fun _ _ _ _ _ => id)
    refine (unpack_any (V := fun I => VR E src (lastD dict) (inflS src (lastD dict)) I) (Lib.hid fun I => vr_runs hg.ne hbs (lastD_len' dict)) (Lib.hid fun I => vr_init) hg1 (Nat.le_trans hlo hn1.size) hs1 hst hd1 hdt (hz.frm' hn1) hb (by omega) (by omega) hbs).mono ?_
    rintro r w2 ⟨I, outV, out, fin, rfl, hn2, hro, -, hend⟩
    have hn12 : New w w2 := hn1.trans hn2
    refine ⟨outV, fin, rfl, hn12, ?_⟩
    exact told_fine w2 _ _ _ src dict out fin (hs.frm hn12 (fun _ _ _ _ _ => id)) (hd.frm hn12 (fun _ _ _ _ _ => id)) hdt hro (by omega) (by omega) hbs hbd (fun b off n cap e => Nat.lt_of_lt_of_le (hns b off n cap e) hn12.size) (fun b off n cap e => Nat.lt_of_lt_of_le (hnd b off n cap e) hn12.size) (un_fits hg.ne hend)
end Go.Proofs.YtbbnibbdiiffkaaDoor

/- FnAny's row is proved. -/
namespace Go.Proofs.YtbbnibbdiiffkaaDoor
open Go.ChangeShapes Go.WideShapes Go.ChangeAt Go.WideMaps Go.WideElems Go.RowKit

theorem own_knob : ownKnob Tryd.prog.godebug = none := by kernel_rfl
theorem laid_out : laidOutB Tryd.prog = true := by kernel_rfl
theorem door_met (os : Os) (args : Array Value) : laidMetH Tryd.prog Rows.fnAnyRow.laid ((World.doorLaid Tryd.prog 400 os).forCall (fun _ _ => 0) ⟨#[], args, []⟩).memory :=
  laidMetH_of_parts3 (fuel := 8) (laidMet_of_run' 8 (by kernel_rfl) (by kernel_rfl)) (by kernel_rfl) (by kernel_rfl)

theorem cells5 : Tryd.prog.cellsOf 5 = 1 := by kernel_rfl
theorem cells3 : Tryd.prog.cellsOf 3 = 1 := by kernel_rfl
section
variable {W : World} {a : Option Addr} {c : Nat} {zs : List Int} {v : Value}
theorem byte_ints (h : ∀ z ∈ zs, (Lit.int .u8 z).wf = true) : ∀ x ∈ zs.map Int.toNat, x < 256 := by
  intro x hx
  obtain ⟨z, hz, rfl⟩ := List.mem_map.1 hx
  have h := h z hz
  have h1 : IntKind.u8.min = 0 := rfl
  have h2 : IntKind.u8.max = 255 := rfl
  simp only [Lit.wf, Bool.and_eq_true, decide_eq_true_eq] at h
  omega
theorem rd_ints (hb : ∀ j, j < zs.length → ∃ b off, a = some ⟨b, off, none⟩ ∧ b < W.heap.size ∧ W.cell? ⟨b, off + j, none⟩ = some (.int .u8 (zs.getD j 0))) (h : ∀ z ∈ zs, (Lit.int .u8 z).wf = true) (e : v = .slice a zs.length c) : Rd W v (zs.map Int.toNat) := by
  refine ⟨a, c, by rw [List.length_map]; exact e, fun j hj => ?_⟩
  rw [List.length_map] at hj
  obtain ⟨b, off, h1, h2, h3⟩ := hb j hj
  refine ⟨b, off, h1, h2, h3.trans ?_⟩
  have h := h _ (List.getElem_mem hj)
  have h1 : IntKind.u8.min = 0 := rfl
  simp only [Lit.wf, Bool.and_eq_true, decide_eq_true_eq] at h
  rw [List.getD_eq_getElem?_getD, List.getD_eq_getElem?_getD, List.getElem?_map, List.getElem?_eq_getElem hj]
  show some (Value.int .u8 zs[j]) = some (.int .u8 ((zs[j].toNat : Nat) : Int))
  rw [Int.toNat_of_nonneg (by omega)]
end

set_option maxRecDepth 100000 in
theorem fnAny_lifted (os : Os) (started : os.Started) (H : Type) (enc : TypeId × Value → H) :
    ReturnsInHanded {} Tryd.checked os 3 .any (fun w args => (Rows.fnAnySpec.pre enc Tryd.prog Tryd.f3 [] false w args ∧ laidMetH Tryd.prog Rows.fnAnyRow.laid w) ∧ sizedMet enc Tryd.prog Tryd.f3 (OpenSpec.ofChange Rows.fnAnySpec) false w args)
      (Rows.fnAnySpec.post enc Tryd.prog Tryd.f3 false true false false) := by
  refine returnsInHanded_of_change_and (C := Tryd.checked) (X := fun w _ => laidMetH Tryd.prog Rows.fnAnyRow.laid w) (fun _ _ _ hh h => h.of_heap hh) own_knob started (by kernel_rfl) Tryd.func3
    (ChangeSpec.witness_shaped (enc := enc) (C := Tryd.checked) (os := os) (X := fun w _ => laidMetH Tryd.prog Rows.fnAnyRow.laid w) false (World.doorLaid Tryd.prog 400 os) #[.slice none 0 0, .slice none 0 0, .slice none 0 0] 8 rfl (World.shaped_of_RefB (by kernel_rfl) (by kernel_rfl)) (by kernel_rfl) (by kernel_rfl) (by kernel_rfl) (door_met os _)) ?_
  intro W base args ds gs before hval0 hW _ _ hL _
  have hval : ∀ (j : Nat) t v, Tryd.f3.params[j]? = some t → args[j]? = some v → Value.okWide Tryd.prog W .any base t v := hval0
  have hW' := hW
  obtain ⟨p, q, hA0, hV, rfl, -, -⟩ := hW
  have hA : DataW.TrodAll enc Tryd.prog W 0 (fun _ => true) true Tryd.f3.params.toList args.toList ds p := hA0
  rw [Tryd.params3] at hA hval
  obtain ⟨v0, v1, v2, d0, d1, d2, p0, p1, p2, rfl, rfl, rfl, h0, h1, h2⟩ := trodAll_three hA
  have w0 := hval 0 22 v0 rfl rfl
  have w1 := hval 1 22 v1 rfl rfl
  have w2 := hval 2 23 v2 rfl rfl
  clear hA0 hval0 hval hA
  have hlt : ∀ x ∈ p0 ++ p1 ++ p2 ++ q, x.block < W.heap.size := fun x hx => by simpa using hW'.lt x hx
  obtain ⟨E, hE⟩ := gl_of_laid hL
  obtain ⟨a0, c0, xs, e0, ht0, hn0, hb0, hw0⟩ := open_row Tryd.underlying22 Tryd.underlying5 cells5 w0 h0
  obtain ⟨a1, c1, ys, e1, ht1, hn1, hb1, hw1⟩ := open_row Tryd.underlying22 Tryd.underlying5 cells5 w1 h1
  obtain ⟨a2, c2, zs, e2, -, -, hb2, -⟩ := open_row Tryd.underlying23 Tryd.underlying3 cells3 w2 h2
  refine (fnAny_any hE (Nat.le_refl _) (rd_ints hb0 hw0 e0) ht0 (rd_ints hb1 hw1 e1) ht1 ⟨a2, c2, e2, hb2⟩ (byte_ints hw0) (byte_ints hw1) hn0 hn1).mono ?_
  rintro e W' ⟨rfl, hN⟩
  have hB : Below W.heap.size W W' := ⟨hN.os, hN.tape, hN.output, hN.size, fun k hk => hN.block k hk id⟩
  have r0 := Below.trod laid_out (by kernel_rfl) (of_decide_eq_true (by kernel_rfl)) h0 hB (fun x hx => hlt x (List.mem_append.2 (.inl (List.mem_append.2 (.inl (List.mem_append.2 (.inl hx)))))))
  have r1 := Below.trod laid_out (by kernel_rfl) (of_decide_eq_true (by kernel_rfl)) h1 hB (fun x hx => hlt x (List.mem_append.2 (.inl (List.mem_append.2 (.inl (List.mem_append.2 (.inr hx)))))))
  have r2 := Below.trod laid_out (by kernel_rfl) (of_decide_eq_true (by kernel_rfl)) h2 hB (fun x hx => hlt x (List.mem_append.2 (.inl (List.mem_append.2 (.inr hx)))))
  have rv := Below.trodVars laid_out hB (by kernel_rfl) hV
  have hg : ∃ g1, gs = [g1] := by
    obtain ⟨-, -, -, -, g1, -, h, -⟩ := trodVars_one hV
    exact ⟨_, h⟩
  obtain ⟨g1, rfl⟩ := hg
  exact ⟨_, rfl, _, _, _, [], p0 ++ (p1 ++ p2), q, hW', trodAll_mk1 (shut_bool Tryd.underlying4 true), trodAll_mk3 r0 r1 r2, rv, hB.frame _, fun h => by cases h⟩

theorem fnAny_holds : Rows.FnAnySaid :=
  OpenClaim.holds_of_wide 3 Tryd.f3 rfl rfl rfl rfl rfl rfl rfl ⟨rfl, rfl, rfl, rfl, rfl⟩ rfl rfl rfl rfl rfl (by kernel_rfl) Tryd.func3 (by kernel_rfl)
    (of_decide_eq_true (by kernel_rfl)) (by unfold Func.isWrapper; first | (rw [if_pos (by decide +kernel)]; kernel_rfl) | (rw [if_neg (by decide +kernel)]; exact ⟨rfl, rfl⟩))
    (fun os started H enc _ => fnAny_lifted os started H enc)
end Go.Proofs.YtbbnibbdiiffkaaDoor
