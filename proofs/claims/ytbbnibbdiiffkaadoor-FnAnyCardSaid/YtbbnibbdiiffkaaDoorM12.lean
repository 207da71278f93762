/- A block of codes, walked: the whole. -/
import Derived.Test.YtbbnibbdiiffkaaDoorM11

/- A block of codes, walked: the whole. -/
namespace Go
namespace Proofs.YtbbnibbdiiffkaaDoor
open Go.RowKit

section
variable {I : Ids} {E : Errs} {src : List Nat} {srcV : Value} {w w' : World} {cs cs' : Array Value} {s : DS}
theorem cpA_props (s : DS) : ∃ h n, cpA s = { s with hist := h, wr := s.wr + n } := by
  unfold cpA
  generalize tryN s s.dist s.len = tn
  by_cases h : tn = 0
  · rw [if_pos h]
    generalize wrN (copied s s.dist 0) s.len = k
    exact ⟨cpyH (cpyH s.hist s.wr s.dist 0) s.wr s.dist k, k, by simp only [copied, Nat.add_zero]⟩
  · rw [if_neg h]
    exact ⟨cpyH s.hist s.wr s.dist tn, tn, by simp only [copied]⟩
theorem tryN_le (s : DS) (d l : Nat) : tryN s d l ≤ l := by unfold tryN; split <;> omega
theorem cpN_le (s : DS) : cpN s ≤ s.len := by
  unfold cpN; split
  · exact Nat.min_le_left _ _
  · exact tryN_le _ _ _
def RE (I : Ids) (E : Errs) (src : List Nat) (srcV : Value) (w0 : World) (n : Nat) (s : DS) (a : Act) (wq : World) : Prop :=
  ∃ c u1 u2 u3 u4 u5 u6 u7 u8 l, l.length = 352 ∧ a = ⟨(.pointer (some ⟨I.F, 0, none⟩) :: u1 :: u2 :: u3 :: u4 :: u5 :: u6 :: u7 :: u8 :: .int .i64 (n : Int) :: l).toArray, []⟩ ∧ Dec I E src srcV wq c s ∧ Imp I w0 wq

def RA (I : Ids) (E : Errs) (src : List Nat) (srcV : Value) (w0 : World) (v x ln : Nat) (c : Array Value) (s : DS) (a : Act) (wq : World) : Prop :=
  ∃ v6, FrD (.pointer (some ⟨I.F, 0, none⟩)) (vi v) (.int .u64 (x : Int)) (.int .i64 (ln : Int)) v6 a ∧ Dec I E src srcV wq c s ∧ Imp I w0 wq
theorem subInt0 {a d b : Nat} (h : a = b + d) : (a : Int) - (d : Int) = (b : Int) := by omega
set_option maxRecDepth 100000 in
set_option maxHeartbeats 8000000 in
theorem huffmanBlock_any (hD : Dec I E src srcV w cs s) (hl : HD) (hd : Option HD) (hk : HOK I hl hd s) (hs1 : Safe hl) (hs2 : ∀ h, hd = some h → Safe h) (hst : s.st = 0 ∨ s.st = 1) (h1 : s.st = 1 → 1 ≤ s.dist) :
    Calls Tryd.prog 24 #[.pointer (some ⟨I.F, 0, none⟩)] w fun r w' => r = .returned (.tuple #[]) ∧ (∃ cs', Dec I E src srcV w' cs' (hbS I E src hl hd s)) ∧ Imp I w w' := by
  have HR0 : Hid (hbS I E src hl hd s = hbGo I E src hl hd (16 * src.length + 100) (if s.st = 1 then .copy s else .lit s)) := Lib.hid rfl
  generalize hRe : hbS I E src hl hd s = R at *
  clear hRe
  go_enter Tryd.func24, Tryd.ntmps24
  refine wp_scope_two rfl rfl (J0 I E src srcV w hl hd R) (J1 I E src srcV w hl hd R) ?_ ?_ ?_
  · have hst' : s.st = 0 ∨ s.st = 1 := hst
    have cst := hD.c_st
    have HKK := Lib.hid hk
    have hB : bl2 src s + 1 < 16 * src.length + 100 := by have := hk.nb; unfold bl2; omega
    have HB := Lib.hid hB
    rcases hst with h0 | h0
    · rw [h0] at cst
      have HR : Hid (R = hbGo I E src hl hd (16 * src.length + 100) (.lit s)) := Lib.hid (by rw [HR0.out, if_neg (by omega)])
      clear hst' hB HR0 h0 h1 hk hs1 hs2
      go_wp2_with fail
      go_step3
      exact .inl ⟨rfl, _, ⟨_, rfl, rfl⟩, cs, s, hD, Imp.refl _ _, HKK.out, HR, Lib.hid (Nat.lt_of_succ_lt HB.out)⟩
    · rw [h0] at cst
      have HR : Hid (R = hbGo I E src hl hd (16 * src.length + 100) (.copy s)) := Lib.hid (by rw [HR0.out, if_pos h0])
      have H1 := Lib.hid (h1 h0)
      clear hst' hB HR0 h0 h1 hk hs1 hs2
      go_wp2_with fail
      go_step3
      exact .inr ⟨rfl, _, ⟨_, rfl, rfl⟩, cs, s, hD, Imp.refl _ _, HKK.out, H1.out, HR, HB⟩
  · rintro m a wx ⟨⟨l, hll, rfl⟩, cx, sx, hDx, fx, hkx, HR', HM⟩
    revert l
    refine fun l hll => AllN_get (n := 361) (K := fun l => Code.wp Tryd.prog _ _ ⟨(_ :: l).toArray, []⟩ wx) ?_ l hll
    iterate 361 intro
    dsimp only [AllN]
    obtain ⟨m, rfl⟩ : ∃ k, m = k + 1 := ⟨m - 1, by have := HM.out; omega⟩
    have chl := hDx.c_hl
    have hsym := huffSym_any hDx sx.hl hl hkx.tl hs1 hkx.nb
    have HR1 : Hid (R = hbGo I E src hl hd m (hbLit I E src hl hd sx)) := Lib.hid HR'.out
    clear HR' HR0 hst h1 hk hD
    have HHK := Lib.hid hkx
    have heof : E.uneV = .iface 119 (.pointer (some E.une)) := rfl
    cases hq : hsM src hl sx.k sx.b sx.nb with
    | eof k b nb =>
      have HE : Hid (R = (HR.eof k b nb).fin E sx) := Lib.hid (by rw [HR1.out]; unfold hbLit; rw [hq]; cases m <;> rfl)
      rw [hq] at hsym
      have hv : (HR.eof k b nb).val E sx = .tuple #[vi 0, .iface 119 (.pointer (some E.une))] := rfl
      rw [hv] at hsym
      clear hv heof HR1 hq hkx
      generalize hSv : sx.hl = hlv at *
      clear hSv
      go_wp2_with fail
      refine hsym.mono ?_; rintro r w2 ⟨rfl, ⟨c2, hD2⟩, f2⟩
      have z := hD2.fz 1048
      have c48 := hD2.c_err
      have hD3 := hD2.set_err (.iface 119 (.pointer (some E.une)))
      have f3 := (fx.trans f2).trans (Imp.setF I w2 1048 (.iface 119 (.pointer (some E.une))))
      have HD := Lib.hid hD3
      have HF := Lib.hid f3
      clear hsym hD2 hD3 f2 f3 fx hDx
      go_wp2_with fail
      rw [Exit.jumps_ret]
      go_returns
      rw [HE.out]
      exact ⟨rfl, ⟨_, HD.out⟩, HF.out⟩
    | bad k b nb =>
      have HE : Hid (R = (HR.bad k b nb).fin E sx) := Lib.hid (by rw [HR1.out]; unfold hbLit; rw [hq]; cases m <;> rfl)
      rw [hq] at hsym
      obtain ⟨ro, hro⟩ : ∃ x, x = sx.ro + (k - sx.k) := ⟨_, rfl⟩
      have hv : (HR.bad k b nb).val E sx = .tuple #[vi 0, .iface 78 (.int .i64 (ro : Int))] := by rw [hro]; rfl
      rw [hv] at hsym
      have HV : Hid (corV (sx.ro + (k - sx.k)) = .iface 78 (.int .i64 (ro : Int))) := Lib.hid (by rw [hro]; rfl)
      clear hv heof HR1 hq hkx hro
      generalize hSv : sx.hl = hlv at *
      clear hSv
      go_wp2_with fail
      refine hsym.mono ?_; rintro r w2 ⟨rfl, ⟨c2, hD2⟩, f2⟩
      have z := hD2.fz 1048
      have c48 := hD2.c_err
      have hD3 := hD2.set_err (.iface 78 (.int .i64 (ro : Int)))
      have f3 := (fx.trans f2).trans (Imp.setF I w2 1048 (.iface 78 (.int .i64 (ro : Int))))
      have HD := Lib.hid hD3
      have HF := Lib.hid f3
      clear hsym hD2 hD3 f2 f3 fx hDx
      go_wp2_with fail
      rw [Exit.jumps_ret]
      go_returns
      rw [HE.out]
      have hh : (HR.bad k b nb).fin E sx = { (HR.bad k b nb).st sx with err := .iface 78 (.int .i64 (ro : Int)) } :=  congrArg (fun e => ({ (HR.bad k b nb).st sx with err := e } : DS)) HV.out
      rw [hh]
      exact ⟨rfl, ⟨_, HD.out⟩, HF.out⟩
    | sym v k b nb =>
      have HE : Hid (hbLit I E src hl hd sx = hbVal I E src hd v ((HR.sym v k b nb).st sx)) := Lib.hid (by unfold hbLit; rw [hq])
      obtain ⟨hp1, hp2, hp3, hp4, hp5⟩ := hsM_props hs1 hDx.kle hkx.nb hq
      have hk1 : HOK I hl hd ((HR.sym v k b nb).st sx) := ⟨hkx.tl, hkx.td, hp4, hkx.wr, hkx.rd⟩
      have HM1 : Hid (bl2 src ((HR.sym v k b nb).st sx) + 1 < m) := Lib.hid (by have := HM.out; unfold bl2 at *; show 2 * (8 * (src.length - k) + nb) + 1 < m; omega)
      have HR2 : Hid (R = hbGo I E src hl hd m (hbVal I E src hd v ((HR.sym v k b nb).st sx))) := Lib.hid (by rw [HR1.out, HE.out])
      rw [hq] at hsym
      have hv : (HR.sym v k b nb).val E sx = .tuple #[vi v, .nilIface] := rfl
      rw [hv] at hsym
      clear hv heof HR1 hq HE hp1 hp2 hp3 hp4 hkx
      have hv27 : v < 134217728 := hp5
      clear hp5
      generalize hSv : sx.hl = hlv at *
      clear hSv
      generalize (HR.sym v k b nb).st sx = s1 at *
      by_cases hv1 : v < 256
      · have x1 : (v : Int) < 256 := by omega
        have x2 : IntKind.u8.wrap (v : Int) = (v : Int) := wrap_u8_id _ (by omega) (by omega)
        have hwr := hk1.wr
        go_wp2_with fail
        refine hsym.mono ?_; rintro r w2 ⟨rfl, ⟨c2, hD2⟩, f2⟩
        have hwb := writeByte_any hD2 v hwr
        have f2 := fx.trans f2
        clear hsym fx hDx
        go_wp2_with fail
        refine hwb.mono ?_; rintro r w3 ⟨rfl, ⟨c3, hD3⟩, f3⟩
        have f3 := f2.trans f3
        have haw := availWrite_any hD3
        clear hwb f2 hD2
        by_cases hfull : (putB s1 v).wr = 32768
        · have HE : Hid (R = { outS I (putB s1 v) with step := stepV 24, st := 0 }) := Lib.hid (by rw [HR2.out]; unfold hbVal; rw [if_pos hv1, if_pos hfull, hbGo_done])
          have hav0 : 32768 - (putB s1 v).wr = 0 := by rw [hfull]
          rw [hav0] at haw
          have hrf := fun w c (h : Dec I E src srcV w c (putB s1 v)) => readFlush_any h (Nat.lt_of_le_of_lt hk1.rd hk1.wr) (Nat.le_succ_of_le hk1.rd)
          unfold Ids.out at hrf
          clear hav0 hfull HR2 HM1 hwr
          generalize putB s1 v = a at *
          go_wp2_with fail
          refine haw.mono ?_; rintro r w4 ⟨rfl, hD4, f4⟩
          have f4 := f3.trans f4
          have hrf4 := hrf _ _ hD4
          clear haw f3 hD3 hrf
          go_wp2_with fail
          refine hrf4.mono ?_; rintro r w8 ⟨rfl, ⟨c8, hD8⟩, f8⟩
          have z8 := hD8.fz 1049
          have c49 := hD8.c_tr
          have hD9 := hD8.set_tr (I.out a)
          have f9 := (f4.trans f8).trans (Imp.setF I w8 1049 (I.out a))
          have z9 := hD9.fz 1045
          have c45 := hD9.c_step
          have hD10 := hD9.set_step (stepV 24)
          have z10 := hD10.fz 1046
          have c46 := hD10.c_st
          have hD11 := hD10.set_st 0
          have f11 := (f9.trans (Imp.setF I _ 1045 (stepV 24))).trans (Imp.setF I _ 1046 (.int .i64 (0 : Nat)))
          rw [show ((0 : Nat) : Int) = 0 from rfl] at hD11 f11
          have HD := Lib.hid hD11
          have HF := Lib.hid f11
          clear hD8 hD9 hD10 hD11 f8 f9 f11 hrf4 f4 hD4
          unfold stepV Ids.out at HD HF
          unfold Ids.out at z9 c45
          unfold stepV Ids.out at z10 c46
          go_wp2_with fail
          rw [Exit.jumps_ret]
          go_returns
          rw [HE.out]
          exact ⟨rfl, ⟨_, HD.out⟩, HF.out⟩
        · have hwr3 : (putB s1 v).wr < 32768 := by have := hD3.wr; omega
          have HR3 : Hid (R = hbGo I E src hl hd m (.lit (putB s1 v))) := Lib.hid (by rw [HR2.out]; unfold hbVal; rw [if_pos hv1, if_neg hfull])
          have HK3 := Lib.hid (hk1.putB v hwr3)
          have HM3 : Hid (bl2 src (putB s1 v) < m) := Lib.hid (by have := HM1.out; show bl2 src s1 < m; omega)
          obtain ⟨av, hav⟩ : ∃ x, x = 32768 - (putB s1 v).wr := ⟨_, rfl⟩
          have hav0 : ((av : Int) == 0) = false := beq_eq_false_iff_ne.2 (by omega)
          rw [← hav] at haw
          clear hav hfull HR2 HM1 hwr hwr3 hk1
          generalize putB s1 v = a at *
          go_wp2_with fail
          refine haw.mono ?_; rintro r w4 ⟨rfl, hD4, f4⟩
          have f4 := f3.trans f4
          clear haw f3 hD3
          go_wp2_with fail
          go_step3
          exact .inl ⟨rfl, m, Nat.lt_succ_self _, ⟨_, rfl, rfl⟩, _, _, hD4, f4, HK3.out, HR3, HM3⟩
      · by_cases hv2 : v = 256
        · have HE : Hid (R = finishS I E s1) := Lib.hid (by rw [HR2.out]; unfold hbVal; rw [if_neg hv1, if_pos hv2, hbGo_done])
          have x1 : ¬ (v : Int) < 256 := by omega
          have x2 : ((v : Int) == 256) = true := beq_iff_eq.2 (by omega)
          have hrd : s1.rd < 32768 ∧ s1.rd ≤ s1.wr := ⟨Nat.lt_of_le_of_lt hk1.rd hk1.wr, hk1.rd⟩
          clear hv1 hv2 HR2 HM1 hk1 hv27
          go_wp2_with fail
          refine hsym.mono ?_; rintro r w2 ⟨rfl, ⟨c2, hD2⟩, f2⟩
          have f2 := fx.trans f2
          have hfin := finishBlock_any hD2 hrd.1 hrd.2
          clear hsym fx hDx
          go_wp2_with fail
          refine hfin.mono ?_; rintro r w3 ⟨rfl, ⟨c3, hD3⟩, f3⟩
          go_wp2_with fail
          rw [Exit.jumps_ret]
          go_returns
          rw [HE.out]
          exact ⟨rfl, ⟨_, hD3⟩, f2.trans f3⟩
        · by_cases hv3 : v < 286
          · have HR3 : Hid (R = hbGo I E src hl hd m (hbLen E src hd v s1)) := Lib.hid (by rw [HR2.out]; unfold hbVal; rw [if_neg hv1, if_neg hv2, if_pos hv3])
            have hls := lengthL_small v hv3 (by omega)
            have HLN : Hid (R = hbGo I E src hl hd m (if (need src (lengthL v).2 4 s1).1 then
              hbSym E src hd ((lengthL v).1 + (need src (lengthL v).2 4 s1).2.b % 2 ^ (lengthL v).2) (takeB (lengthL v).2 (need src (lengthL v).2 4 s1).2)
              else .done { (need src (lengthL v).2 4 s1).2 with err := E.uneV })) := Lib.hid HR3.out
            have hlb : (lengthL v).1 ≤ 300 ∧ (lengthL v).2 ≤ 5 := lengthL_bd v
            generalize (lengthL v).1 = ln at *
            generalize (lengthL v).2 = x at *
            have x1 : ¬ (v : Int) < 256 := by omega
            have x2 : ((v : Int) == 256) = false := beq_eq_false_iff_ne.2 (by omega)
            clear HR2 HR3
            go_wp2_with fail
            refine hsym.mono ?_; rintro r w2 ⟨rfl, ⟨c2, hD2⟩, f2⟩
            have f2 := fx.trans f2
            clear hsym fx hDx
            go_upto_block 1 with fail
            refine wp_cut2 (RA I E src srcV w v x ln c2 s1) ?_ ?_
            · skip
              have x1b : decide ((v : Int) < 256) = false := decide_eq_false (fun h => hv1 (Int.ofNat_lt.1 h))
              by_cases hb0 : v < 265
              · obtain ⟨hln, hx⟩ := hls.1 hb0
                clear hls
                have y0 : decide ((v : Int) < 265) = true := decide_eq_true (Int.ofNat_lt.2 hb0)
                have z : wrap64 ((v : Int) - 254) = (ln : Int) := subInt hln (Nat.le_trans (Nat.le_of_lt hb0) (by decide))
                have HX : Hid (x = 0) := Lib.hid hx
                clear x1 hv27 hln hx hlb HLN HM1 hk1 hv1 hv2 hv3 hb0
                go_wp2_with fail
                exact ⟨_, ⟨_, _, _, _, _, _, rfl, by rw [HX.out]; first | rfl | (rw [z]; rfl)⟩, hD2, f2⟩
              · by_cases hb1 : v < 269
                · obtain ⟨hln, hx⟩ := hls.2.1 (Nat.not_lt.1 hb0) hb1
                  clear hls
                  have y0 : decide ((v : Int) < 265) = false := decide_eq_false (fun h => hb0 (Int.ofNat_lt.1 h))
                  have y1 : decide ((v : Int) < 269) = true := decide_eq_true (Int.ofNat_lt.2 hb1)
                  obtain ⟨m2, hm2⟩ : ∃ y, y = v * 2 := ⟨_, rfl⟩
                  have hm3 : m2 ≤ 1000000 := by rw [hm2]; exact Nat.le_trans (Nat.mul_le_mul_right _ (Nat.le_of_lt hb1)) (by decide)
                  have z1 : wrap64 ((v : Int) * 2) = (m2 : Int) := mulInt (c := 2) hm2 hm3
                  have z2 : wrap64 ((m2 : Int) - 519) = (ln : Int) := subInt (d := 519) (by rw [hm2]; exact hln) hm3
                  have HX : Hid (x = 1) := Lib.hid hx
                  clear x1 hv27 hln hx hlb HLN HM1 hk1 hv1 hv2 hv3 hb0 hb1 hm2 hm3
                  go_wp2_with fail
                  exact ⟨_, ⟨_, _, _, _, _, _, rfl, by rw [HX.out]; first | rfl | (rw [z2]; rfl)⟩, hD2, f2⟩
                · by_cases hb2 : v < 273
                  · obtain ⟨hln, hx⟩ := hls.2.2.1 (Nat.not_lt.1 hb1) hb2
                    clear hls
                    have y0 : decide ((v : Int) < 265) = false := decide_eq_false (fun h => hb0 (Int.ofNat_lt.1 h))
                    have y1 : decide ((v : Int) < 269) = false := decide_eq_false (fun h => hb1 (Int.ofNat_lt.1 h))
                    have y2 : decide ((v : Int) < 273) = true := decide_eq_true (Int.ofNat_lt.2 hb2)
                    obtain ⟨m2, hm2⟩ : ∃ y, y = v * 4 := ⟨_, rfl⟩
                    have hm3 : m2 ≤ 1000000 := by rw [hm2]; exact Nat.le_trans (Nat.mul_le_mul_right _ (Nat.le_of_lt hb2)) (by decide)
                    have z1 : wrap64 ((v : Int) * 4) = (m2 : Int) := mulInt (c := 4) hm2 hm3
                    have z2 : wrap64 ((m2 : Int) - 1057) = (ln : Int) := subInt (d := 1057) (by rw [hm2]; exact hln) hm3
                    have HX : Hid (x = 2) := Lib.hid hx
                    clear x1 hv27 hln hx hlb HLN HM1 hk1 hv1 hv2 hv3 hb0 hb1 hb2 hm2 hm3
                    go_wp2_with fail
                    exact ⟨_, ⟨_, _, _, _, _, _, rfl, by rw [HX.out]; first | rfl | (rw [z2]; rfl)⟩, hD2, f2⟩
                  · by_cases hb3 : v < 277
                    · obtain ⟨hln, hx⟩ := hls.2.2.2.1 (Nat.not_lt.1 hb2) hb3
                      clear hls
                      have y0 : decide ((v : Int) < 265) = false := decide_eq_false (fun h => hb0 (Int.ofNat_lt.1 h))
                      have y1 : decide ((v : Int) < 269) = false := decide_eq_false (fun h => hb1 (Int.ofNat_lt.1 h))
                      have y2 : decide ((v : Int) < 273) = false := decide_eq_false (fun h => hb2 (Int.ofNat_lt.1 h))
                      have y3 : decide ((v : Int) < 277) = true := decide_eq_true (Int.ofNat_lt.2 hb3)
                      obtain ⟨m2, hm2⟩ : ∃ y, y = v * 8 := ⟨_, rfl⟩
                      have hm3 : m2 ≤ 1000000 := by rw [hm2]; exact Nat.le_trans (Nat.mul_le_mul_right _ (Nat.le_of_lt hb3)) (by decide)
                      have z1 : wrap64 ((v : Int) * 8) = (m2 : Int) := mulInt (c := 8) hm2 hm3
                      have z2 : wrap64 ((m2 : Int) - 2149) = (ln : Int) := subInt (d := 2149) (by rw [hm2]; exact hln) hm3
                      have HX : Hid (x = 3) := Lib.hid hx
                      clear x1 hv27 hln hx hlb HLN HM1 hk1 hv1 hv2 hv3 hb0 hb1 hb2 hb3 hm2 hm3
                      go_wp2_with fail
                      exact ⟨_, ⟨_, _, _, _, _, _, rfl, by rw [HX.out]; first | rfl | (rw [z2]; rfl)⟩, hD2, f2⟩
                    · by_cases hb4 : v < 281
                      · obtain ⟨hln, hx⟩ := hls.2.2.2.2.1 (Nat.not_lt.1 hb3) hb4
                        clear hls
                        have y0 : decide ((v : Int) < 265) = false := decide_eq_false (fun h => hb0 (Int.ofNat_lt.1 h))
                        have y1 : decide ((v : Int) < 269) = false := decide_eq_false (fun h => hb1 (Int.ofNat_lt.1 h))
                        have y2 : decide ((v : Int) < 273) = false := decide_eq_false (fun h => hb2 (Int.ofNat_lt.1 h))
                        have y3 : decide ((v : Int) < 277) = false := decide_eq_false (fun h => hb3 (Int.ofNat_lt.1 h))
                        have y4 : decide ((v : Int) < 281) = true := decide_eq_true (Int.ofNat_lt.2 hb4)
                        obtain ⟨m2, hm2⟩ : ∃ y, y = v * 16 := ⟨_, rfl⟩
                        have hm3 : m2 ≤ 1000000 := by rw [hm2]; exact Nat.le_trans (Nat.mul_le_mul_right _ (Nat.le_of_lt hb4)) (by decide)
                        have z1 : wrap64 ((v : Int) * 16) = (m2 : Int) := mulInt (c := 16) hm2 hm3
                        have z2 : wrap64 ((m2 : Int) - 4365) = (ln : Int) := subInt (d := 4365) (by rw [hm2]; exact hln) hm3
                        have HX : Hid (x = 4) := Lib.hid hx
                        clear x1 hv27 hln hx hlb HLN HM1 hk1 hv1 hv2 hv3 hb0 hb1 hb2 hb3 hb4 hm2 hm3
                        go_wp2_with fail
                        exact ⟨_, ⟨_, _, _, _, _, _, rfl, by rw [HX.out]; first | rfl | (rw [z2]; rfl)⟩, hD2, f2⟩
                      · by_cases hb5 : v < 285
                        · obtain ⟨hln, hx⟩ := hls.2.2.2.2.2.1 (Nat.not_lt.1 hb4) hb5
                          clear hls
                          have y0 : decide ((v : Int) < 265) = false := decide_eq_false (fun h => hb0 (Int.ofNat_lt.1 h))
                          have y1 : decide ((v : Int) < 269) = false := decide_eq_false (fun h => hb1 (Int.ofNat_lt.1 h))
                          have y2 : decide ((v : Int) < 273) = false := decide_eq_false (fun h => hb2 (Int.ofNat_lt.1 h))
                          have y3 : decide ((v : Int) < 277) = false := decide_eq_false (fun h => hb3 (Int.ofNat_lt.1 h))
                          have y4 : decide ((v : Int) < 281) = false := decide_eq_false (fun h => hb4 (Int.ofNat_lt.1 h))
                          have y5 : decide ((v : Int) < 285) = true := decide_eq_true (Int.ofNat_lt.2 hb5)
                          obtain ⟨m2, hm2⟩ : ∃ y, y = v * 32 := ⟨_, rfl⟩
                          have hm3 : m2 ≤ 1000000 := by rw [hm2]; exact Nat.le_trans (Nat.mul_le_mul_right _ (Nat.le_of_lt hb5)) (by decide)
                          have z1 : wrap64 ((v : Int) * 32) = (m2 : Int) := mulInt (c := 32) hm2 hm3
                          have z2 : wrap64 ((m2 : Int) - 8861) = (ln : Int) := subInt (d := 8861) (by rw [hm2]; exact hln) hm3
                          have HX : Hid (x = 5) := Lib.hid hx
                          clear x1 hv27 hln hx hlb HLN HM1 hk1 hv1 hv2 hv3 hb0 hb1 hb2 hb3 hb4 hb5 hm2 hm3
                          go_wp2_with fail
                          exact ⟨_, ⟨_, _, _, _, _, _, rfl, by rw [HX.out]; first | rfl | (rw [z2]; rfl)⟩, hD2, f2⟩
                        · obtain ⟨hln, hx⟩ := hls.2.2.2.2.2.2 (Nat.not_lt.1 hb5)
                          clear hls
                          have y0 : decide ((v : Int) < 265) = false := decide_eq_false (fun h => hb0 (Int.ofNat_lt.1 h))
                          have y1 : decide ((v : Int) < 269) = false := decide_eq_false (fun h => hb1 (Int.ofNat_lt.1 h))
                          have y2 : decide ((v : Int) < 273) = false := decide_eq_false (fun h => hb2 (Int.ofNat_lt.1 h))
                          have y3 : decide ((v : Int) < 277) = false := decide_eq_false (fun h => hb3 (Int.ofNat_lt.1 h))
                          have y4 : decide ((v : Int) < 281) = false := decide_eq_false (fun h => hb4 (Int.ofNat_lt.1 h))
                          have y5 : decide ((v : Int) < 285) = false := decide_eq_false (fun h => hb5 (Int.ofNat_lt.1 h))
                          have y6 : decide ((v : Int) < 286) = true := decide_eq_true (Int.ofNat_lt.2 hv3)
                          have HX : Hid (x = 0) := Lib.hid hx
                          have HL : Hid (ln = 258) := Lib.hid hln.symm
                          clear x1 hv27 hln hx hlb HLN HM1 hk1 hv1 hv2 hv3 hb0 hb1 hb2 hb3 hb4 hb5
                          go_wp2_with fail
                          exact ⟨_, ⟨_, _, _, _, _, _, rfl, by rw [HX.out, HL.out]; rfl⟩, hD2, f2⟩
            · rintro a wq ⟨v6, ⟨u1, u3, u7, u8, u9, l, hlen, rfl⟩, hD3, f3⟩
              clear hD2 f2 hls x1 x2 hs1 hv1 hv2 hv3 hll
              revert l
              refine fun l hlen => AllN_get (n := 352) (K := fun l => Exit.then _ _ .normal ⟨(_ :: _ :: _ :: _ :: _ :: _ :: _ :: _ :: _ :: _ :: l).toArray, []⟩ wq) ?_ l hlen
              iterate 352 intro
              dsimp only [AllN]
              have hnear := need_near src x 4 s1 hD3.kle
              generalize hNN : need src x 4 s1 = N at *
              have HN := Lib.hid hNN.symm
              clear hNN
              have cnb := hD3.c_nb
              go_step
              go_step
              go_upto_region 38 with fail
              iterate 10 (first | go_values | go_skip | go_guarded | go_step | go_upon | go_simp)
              refine wp_cut2 (RB I E src srcV w N v ln x) ?_ ?_
              · by_cases hx0 : x = 0
                · have y1 : ¬ (x : Int) > 0 := by omega
                  have hN : N = (true, s1) := by rw [HN.out, hx0]; unfold need; rw [if_neg (Nat.not_lt_zero _)]
                  have HN1 : Hid (N.1 = true) := Lib.hid (by rw [hN])
                  have HN2 : Hid (takeB x N.2 = s1) := Lib.hid (by rw [hN, hx0]; unfold takeB; simp only [Nat.pow_zero, Nat.div_one, Nat.sub_zero])
                  have HN3 : Hid (ln + N.2.b % 2 ^ x = ln) := Lib.hid (by rw [hx0, Nat.pow_zero, Nat.mod_one]; rfl)
                  clear hN hx0 hnear
                  go_wp2_with fail
                  exact ⟨HN1.out, _, _, _, ⟨_, _, _, _, _, _, rfl, by rw [HN3.out]⟩, by rw [HN2.out]; exact hD3, f3⟩
                · have y1 : (x : Int) > 0 := by omega
                  have y1n : 0 < x := by omega
                  have hle := hD3.kle
                  have hx5 := hlb.2
                  have hlnb : ln ≤ 100000 := Nat.le_trans hlb.1 (by decide)
                  have hnb1 := hk1.nb
                  have HNR := Lib.hid hnear
                  clear hnear hlb hx0 cnb
                  go_wp2_with fail
                  simp only [decide_eq_true y1n]
                  go_loopw [3] (fun ev wr => ∃ (g : Nat) (s' : DS) (c' : Array Value), Dec I E src srcV wr c' s' ∧ Imp I w wr ∧ Near src s1 s' ∧ s'.nb ≤ 24 ∧ Hid (N = need src x g s') ∧ Hid (x ≤ s'.nb + 8 * g)) (fun ev wr => 40 - nbW I wr)
                  case atStart => exact ⟨4, s1, _, hD3, f3, .refl hle, hnb1, HN, Lib.hid (by omega)⟩
                  case round =>
                    obtain ⟨g, s', c', hD4, f4, hne, hnb, HNg, HG⟩ := hrel
                    clear hD3 f3
                    have cnb := hD4.c_nb
                    have cr := hD4.c_r
                    by_cases hlt : s'.nb < x
                    · have y2 : (s'.nb : Int) < (x : Int) := by omega
                      obtain ⟨g, rfl⟩ : ∃ g', g = g' + 1 := ⟨g - 1, by have := HG.out; omega⟩
                      have hmb := moreBits_any hD4 hnb
                      by_cases hk : s'.k < src.length
                      · have hE : moreB src E s' = (.nilIface, { s' with k := s'.k + 1, ro := s'.ro + 1, b := s'.b ||| src.getD s'.k 0 * 2 ^ s'.nb, nb := s'.nb + 8 }) := if_pos hk
                        rw [hE] at hmb; clear hE
                        have hne2 := hne.step hk
                        have HN5 : Hid (N = need src x g { s' with k := s'.k + 1, ro := s'.ro + 1, b := s'.b ||| src.getD s'.k 0 * 2 ^ s'.nb, nb := s'.nb + 8 }) := Lib.hid (by rw [HNg.out, need, if_pos hlt, if_pos hk])
                        have HG5 : Hid (x ≤ s'.nb + 8 + 8 * g) := Lib.hid (by have := HG.out; omega)
                        have HB5 : Hid (s'.nb + 8 ≤ 24) := Lib.hid (by omega)
                        have HM5 : Hid (40 - (s'.nb + 8) < 40 - nbW I wr) := Lib.hid (by rw [hD4.nbW]; omega)
                        clear hne hnb hlt hk HNg HG
                        go_wp2_with fail
                        refine hmb.mono ?_; rintro r w5 ⟨rfl, ⟨c5, hD5⟩, f5⟩
                        have f5 := f4.trans f5
                        clear hmb f4 hD4 cnb cr
                        go_wp2_with fail
                        go_roundw
                        case rel => exact ⟨g, _, c5, hD5, f5, hne2, HB5.out, HN5, HG5⟩
                        case measure => show 40 - nbW I w5 < 40 - nbW I wr; rw [hD5.nbW]; exact HM5.out
                      · have hE : moreB src E s' = (E.uneV, s') := if_neg hk
                        rw [hE] at hmb; clear hE
                        unfold Errs.uneV at hmb
                        have HE : Hid (R = { s' with err := .iface 119 (.pointer (some E.une)) }) := Lib.hid (by
                          rw [HLN.out, HNg.out, need, if_pos hlt, if_neg hk]
                          exact hbGo_done _ _ _ _ _ _ _)
                        clear hne hnb hlt hk HNg HG HNR HN HLN
                        go_wp2_with fail
                        refine hmb.mono ?_; rintro r w5 ⟨rfl, ⟨c5, hD5⟩, f5⟩
                        have f5 := f4.trans f5
                        have z48 := hD5.fz 1048
                        have c48 := hD5.c_err
                        have HD := Lib.hid (hD5.set_err (.iface 119 (.pointer (some E.une))))
                        have HF := Lib.hid (f5.trans (Imp.setF I w5 1048 (.iface 119 (.pointer (some E.une)))))
                        clear hmb f4 hD4 cnb cr hD5 f5
                        go_wp2_with fail
                        simp only [Exit.jumps_ret]
                        go_returns
                        rw [HE.out]
                        exact ⟨rfl, ⟨_, HD.out⟩, HF.out⟩
                    · have y2 : ¬ (s'.nb : Int) < (x : Int) := by omega
                      have hN : N = (true, s') := by
                        rw [HNg.out]; cases g with
                        | zero => rfl
                        | succ g => rw [need, if_neg hlt]
                      have cb := hD4.c_b
                      have z3 := hD4.fz 3
                      obtain ⟨e, q, nn, le, he, hq, hnn, hle2, hq32, hn24, he8, a1, a2, a3, a4, a5⟩ := takeArith (b := s'.b) (nb := s'.nb) (x := x) (ln := ln) (Nat.le_trans hx5 (by decide)) hD4.b32 (Nat.not_lt.1 hlt) hnb (Nat.le_trans (Nat.le_refl _) hlnb)
                      have hD5 := hD4.set_b q hq32
                      have cnb5 := hD5.c_nb
                      have cb5 := hD5.c_b
                      have z5 := hD5.fz 4
                      have z6 := hD5.fz 3
                      have hD6 := hD5.set_nb nn (Nat.le_trans hn24 (by decide))
                      have f6 := (f4.trans (Imp.setF I wr 3 (.int .u32 (q : Int)))).trans (Imp.setF I _ 4 (.int .u64 (nn : Int)))
                      have HD6 := Lib.hid hD6
                      have HF6 := Lib.hid f6
                      have HTK : Hid (takeB x N.2 = { s' with b := q, nb := nn }) := Lib.hid (by rw [hN]; unfold takeB; rw [hq, hnn])
                      have HLE : Hid (ln + N.2.b % 2 ^ x = le) := Lib.hid (by rw [hN]; exact hle2)
                      have HN1 : Hid (N.1 = true) := Lib.hid (by rw [hN])
                      simp only [] at cnb5
                      clear hN hD4 hD5 hD6 f4 f6 he hq hnn hle2 hlt hne HNg HG HNR HN HLN hq32 hn24 he8 hlnb hx5
                      go_wp2_with fail
                      exact ⟨HN1.out, _, _, _, ⟨_, _, _, _, _, _, rfl, by rw [HLE.out]⟩, by rw [HTK.out]; exact HD6.out, HF6.out⟩
              · rintro a wq2 ⟨hN1, v4, v6', c3, ⟨u1, u3, u7, u8, u9, l, hlen, rfl⟩, hD4, f4⟩
                have hk2 : HOK I hl hd (takeB x N.2) := (hk1.near hnear.1 (by have := hk1.nb; have := hlb.2; rcases hnear.2.1 with q | q <;> omega)).take x
                have HM2 : Hid (bl2 src (takeB x N.2) + 1 < m) := Lib.hid (by have := HM1.out; have h2 := bl2_take (src := src) x N.2; rw [hnear.1.bl2] at h2; omega)
                have HR2 : Hid (R = hbGo I E src hl hd m (hbSym E src hd (ln + N.2.b % 2 ^ x) (takeB x N.2))) := Lib.hid (by rw [HLN.out, if_pos hN1])
                have hle : ln + N.2.b % 2 ^ x ≤ 1000 := by
                  have h1 := Nat.mod_lt N.2.b (Nat.two_pow_pos x)
                  have h2 : 2 ^ x ≤ 2 ^ 5 := Nat.pow_le_pow_right (by decide) hlb.2
                  have h3 := hlb.1
                  omega
                clear hnear HLN HM1 hk1 hlb HN cnb hN1 hD3 f3
                generalize ln + N.2.b % 2 ^ x = le at *
                generalize takeB x N.2 = s2 at *
                clear HM HHK
                revert l
                refine fun l hlen => AllN_get (n := 352) (K := fun l => Exit.then _ _ .normal ⟨(_ :: _ :: _ :: _ :: _ :: _ :: _ :: _ :: _ :: _ :: l).toArray, []⟩ wq2) ?_ l hlen
                iterate 352 intro
                dsimp only [AllN]
                go_step
                go_step
                iterate 8 (first | go_values | go_skip | go_guarded | go_step | go_upon | go_simp)
                go_step
                refine wp_cut2 (RC I E src srcV w hl hd R m le) ?_ ?_
                · have chd := hD4.c_hd
                  have hle4 := hD4.kle
                  have hnb2 := hk2.nb
                  rcases hk2.td with ⟨hd0, hd1⟩ | ⟨h, hd0, hd1, hd2⟩
                  · rw [hd1] at chd
                    obtain ⟨N, hN⟩ : ∃ N, N = need src 5 4 s2 := ⟨_, rfl⟩
                    have HN := Lib.hid hN
                    have HR3 : Hid (R = hbGo I E src hl hd m (if N.1 then hbDist E src le (rev 5 (N.2.b % 32)) (takeB 5 N.2) else .done { N.2 with err := E.uneV })) := Lib.hid (by rw [HR2.out, hN]; unfold hbSym; rw [hd0])
                    clear HR2 hN hd1 hd0
                    go_wp2_with fail
                    go_loopw [3] (fun ev wr => ∃ (g : Nat) (s' : DS) (c' : Array Value), Dec I E src srcV wr c' s' ∧ Imp I w wr ∧ Near src s2 s' ∧ s'.nb ≤ 24 ∧ Hid (N = need src 5 g s') ∧ Hid (5 ≤ s'.nb + 8 * g)) (fun ev wr => 40 - nbW I wr)
                    case atStart => exact ⟨4, s2, _, hD4, f4, .refl hle4, hnb2, HN, Lib.hid (by omega)⟩
                    case round =>
                      obtain ⟨g, s', c', hD5, f5, hne, hnb, HNg, HG⟩ := hrel
                      clear hD4 f4
                      have cnb := hD5.c_nb
                      have cr := hD5.c_r
                      by_cases hlt : s'.nb < 5
                      · have y2 : (s'.nb : Int) < 5 := by omega
                        obtain ⟨g, rfl⟩ : ∃ g', g = g' + 1 := ⟨g - 1, by have := HG.out; omega⟩
                        have hmb := moreBits_any hD5 hnb
                        by_cases hk : s'.k < src.length
                        · have hE : moreB src E s' = (.nilIface, { s' with k := s'.k + 1, ro := s'.ro + 1, b := s'.b ||| src.getD s'.k 0 * 2 ^ s'.nb, nb := s'.nb + 8 }) := if_pos hk
                          rw [hE] at hmb; clear hE
                          have hne2 := hne.step hk
                          have HN5 : Hid (N = need src 5 g { s' with k := s'.k + 1, ro := s'.ro + 1, b := s'.b ||| src.getD s'.k 0 * 2 ^ s'.nb, nb := s'.nb + 8 }) := Lib.hid (by rw [HNg.out, need, if_pos hlt, if_pos hk])
                          have HG5 : Hid (5 ≤ s'.nb + 8 + 8 * g) := Lib.hid (by have := HG.out; omega)
                          have HB5 : Hid (s'.nb + 8 ≤ 24) := Lib.hid (by omega)
                          have HM5 : Hid (40 - (s'.nb + 8) < 40 - nbW I wr) := Lib.hid (by rw [hD5.nbW]; omega)
                          clear hne hnb hlt hk HNg HG
                          go_wp2_with fail
                          refine hmb.mono ?_; rintro r w5 ⟨rfl, ⟨c5, hD6⟩, f6⟩
                          have f6 := f5.trans f6
                          clear hmb f5 hD5 cnb cr
                          go_wp2_with fail
                          go_roundw
                          case rel => exact ⟨g, _, c5, hD6, f6, hne2, HB5.out, HN5, HG5⟩
                          case measure => show 40 - nbW I w5 < 40 - nbW I wr; rw [hD6.nbW]; exact HM5.out
                        · have hE : moreB src E s' = (E.uneV, s') := if_neg hk
                          rw [hE] at hmb; clear hE
                          unfold Errs.uneV at hmb
                          have HE : Hid (R = { s' with err := .iface 119 (.pointer (some E.une)) }) := Lib.hid (by
                            rw [HR3.out, HNg.out, need, if_pos hlt, if_neg hk]
                            exact hbGo_done _ _ _ _ _ _ _)
                          clear hne hnb hlt hk HNg HG HN HR3
                          go_wp2_with fail
                          refine hmb.mono ?_; rintro r w5 ⟨rfl, ⟨c5, hD6⟩, f6⟩
                          have f6 := f5.trans f6
                          have z48 := hD6.fz 1048
                          have c48 := hD6.c_err
                          have HD := Lib.hid (hD6.set_err (.iface 119 (.pointer (some E.une))))
                          have HF := Lib.hid (f6.trans (Imp.setF I w5 1048 (.iface 119 (.pointer (some E.une)))))
                          clear hmb f5 hD5 cnb cr hD6 f6
                          go_wp2_with fail
                          simp only [Exit.jumps_ret]
                          go_returns
                          rw [HE.out]
                          exact ⟨rfl, ⟨_, HD.out⟩, HF.out⟩
                      · have y2 : ¬ (s'.nb : Int) < 5 := by omega
                        have hN : N = (true, s') := by
                          rw [HNg.out]; cases g with
                          | zero => rfl
                          | succ g => rw [need, if_neg hlt]
                        have cb := hD5.c_b
                        have z3 := hD5.fz 3
                        obtain ⟨z, z8, d, q, nn, hz, hq, hnn, hrd, hr8, hz8, hq32, hn24, hd32, a1, a2, a3, a4, a5, a6⟩ := fiveArith (b := s'.b) (nb := s'.nb) hD5.b32 (Nat.not_lt.1 hlt) hnb
                        have hrev := fun w => rev8_any (w := w) z8 hz8
                        rw [hr8] at hrev
                        have hD6 := hD5.set_b q hq32
                        have cnb5 := hD6.c_nb
                        have z5 := hD6.fz 4
                        have hD7 := hD6.set_nb nn (Nat.le_trans hn24 (by decide))
                        have HD7 := Lib.hid hD7
                        have HF7 := Lib.hid ((f5.trans (Imp.setF I wr 3 (.int .u32 (q : Int)))).trans (Imp.setF I _ 4 (.int .u64 (nn : Int))))
                        have hTK : takeB 5 N.2 = { s' with b := q, nb := nn } := by rw [hN]; unfold takeB; rw [hq, hnn]
                        have HHK := Lib.hid (show HOK I hl hd { s' with b := q, nb := nn } by rw [← hTK, hN]; exact (hk2.near hne hnb).take 5)
                        have HRR : Hid (R = hbGo I E src hl hd m (hbDist E src le d { s' with b := q, nb := nn })) := Lib.hid (by rw [HR3.out, ← hTK, if_pos (by rw [hN])]; congr 2; rw [hN, ← hrd])
                        have HMM : Hid (bl2 src { s' with b := q, nb := nn } + 1 < m) := Lib.hid (by have h2 := bl2_take (src := src) 5 N.2; rw [hTK, hN, hne.bl2] at h2; have := HM2.out; omega)
                        have HD27 : Hid (d < 134217728) := Lib.hid (Nat.lt_trans hd32 (by decide))
                        simp only [] at cnb5
                        clear hN hD5 hD6 hD7 f5 hz hq hnn hlt hne HNg HG HN HR3 hq32 hn24 hd32 hrd hr8 hz8 hTK hk2 HM2
                        go_wp2_with fail
                        refine (hrev _).mono ?_; rintro r w8 ⟨rfl, rfl⟩
                        go_wp2_with fail
                        exact ⟨d, _, _, _, _, ⟨_, _, _, _, _, _, rfl, by rw [a4]⟩, HD7.out, HF7.out, HHK.out, HRR, HMM, HD27.out⟩
                  · rw [hd1] at chd
                    have hsym := huffSym_any hD4 (.pointer (some ⟨I.F, 520, none⟩)) h (.inr (.inl ⟨rfl, hd2⟩)) (hs2 h hd0) hnb2
                    have HR3 : Hid (R = hbGo I E src hl hd m (match hsM src h s2.k s2.b s2.nb with | .sym d k b nb => hbDist E src le d ((HR.sym d k b nb).st s2) | r => .done (r.fin E s2))) := Lib.hid (by rw [HR2.out]; unfold hbSym; rw [hd0]; rfl)
                    clear HR2 hd1
                    cases hq : hsM src h s2.k s2.b s2.nb with
                    | eof k b nb =>
                      have HE : Hid (R = (HR.eof k b nb).fin E s2) := Lib.hid (by rw [HR3.out, hq]; exact hbGo_done _ _ _ _ _ _ _)
                      rw [hq] at hsym
                      have hv : (HR.eof k b nb).val E s2 = .tuple #[vi 0, .iface 119 (.pointer (some E.une))] := rfl
                      rw [hv] at hsym
                      clear hv HR3 hq hk2 HM2 hd0 hd2
                      go_wp2_with fail
                      refine hsym.mono ?_; rintro r w5 ⟨rfl, ⟨c5, hD5⟩, f5⟩
                      have z := hD5.fz 1048
                      have c48 := hD5.c_err
                      have HD := Lib.hid (hD5.set_err (.iface 119 (.pointer (some E.une))))
                      have HF := Lib.hid ((f4.trans f5).trans (Imp.setF I w5 1048 (.iface 119 (.pointer (some E.une)))))
                      clear hsym hD4 hD5 f4 f5
                      go_wp2_with fail
                      simp only [Exit.jumps_ret]
                      go_returns
                      rw [HE.out]
                      exact ⟨rfl, ⟨_, HD.out⟩, HF.out⟩
                    | bad k b nb =>
                      have HE : Hid (R = (HR.bad k b nb).fin E s2) := Lib.hid (by rw [HR3.out, hq]; exact hbGo_done _ _ _ _ _ _ _)
                      rw [hq] at hsym
                      obtain ⟨ro, hro⟩ : ∃ x, x = s2.ro + (k - s2.k) := ⟨_, rfl⟩
                      have hv : (HR.bad k b nb).val E s2 = .tuple #[vi 0, .iface 78 (.int .i64 (ro : Int))] := by rw [hro]; rfl
                      rw [hv] at hsym
                      have HV : Hid (corV (s2.ro + (k - s2.k)) = .iface 78 (.int .i64 (ro : Int))) := Lib.hid (by rw [hro]; rfl)
                      clear hv HR3 hq hk2 hro HM2 hd0 hd2
                      go_wp2_with fail
                      refine hsym.mono ?_; rintro r w5 ⟨rfl, ⟨c5, hD5⟩, f5⟩
                      have z := hD5.fz 1048
                      have c48 := hD5.c_err
                      have HD := Lib.hid (hD5.set_err (.iface 78 (.int .i64 (ro : Int))))
                      have HF := Lib.hid ((f4.trans f5).trans (Imp.setF I w5 1048 (.iface 78 (.int .i64 (ro : Int)))))
                      clear hsym hD4 hD5 f4 f5
                      go_wp2_with fail
                      simp only [Exit.jumps_ret]
                      go_returns
                      rw [HE.out]
                      have hh : (HR.bad k b nb).fin E s2 = { (HR.bad k b nb).st s2 with err := .iface 78 (.int .i64 (ro : Int)) } := congrArg (fun e => ({ (HR.bad k b nb).st s2 with err := e } : DS)) HV.out
                      rw [hh]
                      exact ⟨rfl, ⟨_, HD.out⟩, HF.out⟩
                    | sym d k b nb =>
                      obtain ⟨hp1, hp2, hp3, hp4, hp5⟩ := hsM_props (hs2 h hd0) hle4 hnb2 hq
                      have HHK := Lib.hid (show HOK I hl hd ((HR.sym d k b nb).st s2) from ⟨hk2.tl, hk2.td, hp4, hk2.wr, hk2.rd⟩)
                      have HMM : Hid (bl2 src ((HR.sym d k b nb).st s2) + 1 < m) := Lib.hid (by have := HM2.out; unfold bl2 at *; show 2 * (8 * (src.length - k) + nb) + 1 < m; omega)
                      have HRR : Hid (R = hbGo I E src hl hd m (hbDist E src le d ((HR.sym d k b nb).st s2))) := Lib.hid (by rw [HR3.out, hq])
                      have HD27 : Hid (d < 134217728) := Lib.hid hp5
                      rw [hq] at hsym
                      have hv : (HR.sym d k b nb).val E s2 = .tuple #[vi d, .nilIface] := rfl
                      rw [hv] at hsym
                      clear hv HR3 hq hp1 hp2 hp3 hp4 hp5 hk2 HM2 hd0 hd2
                      go_wp2_with fail
                      refine hsym.mono ?_; rintro r w5 ⟨rfl, ⟨c5, hD5⟩, f5⟩
                      have f5 := f4.trans f5
                      clear hsym hD4 f4
                      go_wp2_with fail
                      exact ⟨d, _, _, _, _, ⟨_, _, _, _, _, _, rfl, rfl⟩, hD5, f5, HHK.out, HRR, HMM, HD27.out⟩
                · rintro a wq3 ⟨d, s3, c3', v2, v4', ⟨u1, u3, u7, u8, u9, l, hlen, rfl⟩, hD5, f5, hk3, HR3, HM3, hd27⟩
                  clear HR2 HM2 hk2 hD4 f4
                  revert l
                  refine fun l hlen => AllN_get (n := 352) (K := fun l => Exit.then _ _ .normal ⟨(_ :: _ :: _ :: _ :: _ :: _ :: _ :: _ :: _ :: _ :: l).toArray, []⟩ wq3) ?_ l hlen
                  iterate 352 intro
                  dsimp only [AllN]
                  go_step
                  go_step
                  go_step
                  refine wp_cut2 (RD I E src srcV w hl hd R m le) ?_ ?_
                  · by_cases hd4 : d < 4
                    · have y1 : (d : Int) < 4 := by omega
                      have HR4 : Hid (R = hbGo I E src hl hd m (hbFar le (d + 1) s3)) := Lib.hid (by rw [HR3.out]; unfold hbDist; rw [if_pos hd4])
                      obtain ⟨D, hDD⟩ : ∃ y, y = d + 1 := ⟨_, rfl⟩
                      have y2 : (d : Int) + 1 = (D : Int) := by omega
                      rw [← hDD] at HR4
                      have HD1 : Hid (1 ≤ D ∧ D < 134217728) := Lib.hid (by omega)
                      have Y2 := Lib.hid y2
                      clear HR3 hDD hd4 y2
                      go_wp2_with fail
                      exact ⟨D, _, _, _, _, ⟨_, _, _, _, _, _, rfl, by rw [Y2.out]⟩, hD5, f5, hk3, HR4, HM3, HD1.out⟩
                    · by_cases hd30 : d < 30
                      · skip
                        obtain ⟨dm, x', o, ex, hx, hex, hx13, hx1, hex8, hexm, b1, b1', b2, b3, b4, b5⟩ := distArith (Nat.not_lt.1 hd4) hd30
                        have y1 : ¬ (d : Int) < 4 := by omega
                        have y2 : (d : Int) < 30 := by omega
                        obtain ⟨N', hN⟩ : ∃ N', N' = need src x' 4 s3 := ⟨_, rfl⟩
                        have HN' := Lib.hid hN
                        have HR4 : Hid (R = hbGo I E src hl hd m (if N'.1 then hbFar le (2 ^ (x' + 1) + 1 + (ex + N'.2.b % 2 ^ x')) (takeB x' N'.2) else .done { N'.2 with err := E.uneV })) := Lib.hid (by
                          rw [HR3.out, hN]; unfold hbDist; rw [if_neg hd4, if_pos hd30, hx, hex])
                        have hle5 := hD5.kle
                        have hnb3 := hk3.nb
                        have HXX := Lib.hid (And.intro hx13 (And.intro hex8 hexm))
                        clear HR3 hd4 hd30 hd27 hN hx hex hex8 hexm
                        go_wp2_with fail
                        go_loopw [3] (fun ev wr => ∃ (g : Nat) (s' : DS) (c' : Array Value), Dec I E src srcV wr c' s' ∧ Imp I w wr ∧ Near src s3 s' ∧ s'.nb ≤ 24 ∧ Hid (N' = need src x' g s') ∧ Hid (x' ≤ s'.nb + 8 * g)) (fun ev wr => 40 - nbW I wr)
                        case atStart => exact ⟨4, s3, _, hD5, f5, .refl hle5, hnb3, HN', Lib.hid (by omega)⟩
                        case round =>
                          obtain ⟨g, s', c', hD6, f6, hne, hnb, HNg, HG⟩ := hrel
                          clear hD5 f5
                          have cnb := hD6.c_nb
                          have cr := hD6.c_r
                          by_cases hlt : s'.nb < x'
                          · have y3 : (s'.nb : Int) < (x' : Int) := by omega
                            obtain ⟨g, rfl⟩ : ∃ g', g = g' + 1 := ⟨g - 1, by have := HG.out; omega⟩
                            have hmb := moreBits_any hD6 hnb
                            by_cases hk : s'.k < src.length
                            · have hE : moreB src E s' = (.nilIface, { s' with k := s'.k + 1, ro := s'.ro + 1, b := s'.b ||| src.getD s'.k 0 * 2 ^ s'.nb, nb := s'.nb + 8 }) := if_pos hk
                              rw [hE] at hmb; clear hE
                              have hne2 := hne.step hk
                              have HN5 : Hid (N' = need src x' g { s' with k := s'.k + 1, ro := s'.ro + 1, b := s'.b ||| src.getD s'.k 0 * 2 ^ s'.nb, nb := s'.nb + 8 }) := Lib.hid (by rw [HNg.out, need, if_pos hlt, if_pos hk])
                              have HG5 : Hid (x' ≤ s'.nb + 8 + 8 * g) := Lib.hid (by have := HG.out; omega)
                              have HB5 : Hid (s'.nb + 8 ≤ 24) := Lib.hid (by omega)
                              have HM5 : Hid (40 - (s'.nb + 8) < 40 - nbW I wr) := Lib.hid (by rw [hD6.nbW]; omega)
                              clear hne hnb hlt hk HNg HG hx13 hx1
                              go_wp2_with fail
                              refine hmb.mono ?_; rintro r w5 ⟨rfl, ⟨c5, hD7⟩, f7⟩
                              have f7 := f6.trans f7
                              clear hmb f6 hD6 cnb cr
                              go_wp2_with fail
                              go_roundw
                              case rel => exact ⟨g, _, c5, hD7, f7, hne2, HB5.out, HN5, HG5⟩
                              case measure => show 40 - nbW I w5 < 40 - nbW I wr; rw [hD7.nbW]; exact HM5.out
                            · have hE : moreB src E s' = (E.uneV, s') := if_neg hk
                              rw [hE] at hmb; clear hE
                              unfold Errs.uneV at hmb
                              have HE : Hid (R = { s' with err := .iface 119 (.pointer (some E.une)) }) := Lib.hid (by
                                rw [HR4.out, HNg.out, need, if_pos hlt, if_neg hk]
                                exact hbGo_done _ _ _ _ _ _ _)
                              clear hne hnb hlt hk HNg HG HN' HR4 hx13 hx1
                              go_wp2_with fail
                              refine hmb.mono ?_; rintro r w5 ⟨rfl, ⟨c5, hD7⟩, f7⟩
                              have f7 := f6.trans f7
                              have z48 := hD7.fz 1048
                              have c48 := hD7.c_err
                              have HD := Lib.hid (hD7.set_err (.iface 119 (.pointer (some E.une))))
                              have HF := Lib.hid (f7.trans (Imp.setF I w5 1048 (.iface 119 (.pointer (some E.une)))))
                              clear hmb f6 hD6 cnb cr hD7 f7
                              go_wp2_with fail
                              simp only [Exit.jumps_ret]
                              go_returns
                              rw [HE.out]
                              exact ⟨rfl, ⟨_, HD.out⟩, HF.out⟩
                          · have y3 : ¬ (s'.nb : Int) < (x' : Int) := by omega
                            have hN : N' = (true, s') := by
                              rw [HNg.out]; cases g with
                              | zero => rfl
                              | succ g => rw [need, if_neg hlt]
                            have cb := hD6.c_b
                            have z3 := hD6.fz 3
                            obtain ⟨e, q, nn, le0, he, hq, hnn, -, hq32, hn24, he8, a1, a2, -, a4, a5⟩ := takeArith (b := s'.b) (nb := s'.nb) (x := x') (ln := 0) hx13 hD6.b32 (Nat.not_lt.1 hlt) hnb (by decide)
                            obtain ⟨oe, x1', P, P1, D, hoe, hDD, hD1, hD2, d1, d2, d3, d4, d5⟩ := endArith (x := x') (ex := ex) (e := e) hx13 HXX.out.2.1 HXX.out.2.2 (by rw [← he]; exact Nat.mod_lt _ (Nat.two_pow_pos _))
                            have hD7 := hD6.set_b q hq32
                            have cnb5 := hD7.c_nb
                            have cb5 := hD7.c_b
                            have z5 := hD7.fz 4
                            have hD8 := hD7.set_nb nn (Nat.le_trans hn24 (by decide))
                            have HD8 := Lib.hid hD8
                            have HF8 := Lib.hid ((f6.trans (Imp.setF I wr 3 (.int .u32 (q : Int)))).trans (Imp.setF I _ 4 (.int .u64 (nn : Int))))
                            have hTK : takeB x' N'.2 = { s' with b := q, nb := nn } := by rw [hN]; unfold takeB; rw [hq, hnn]
                            have HHK := Lib.hid (show HOK I hl hd { s' with b := q, nb := nn } by rw [← hTK, hN]; exact (hk3.near hne hnb).take x')
                            have HRR : Hid (R = hbGo I E src hl hd m (hbFar le D { s' with b := q, nb := nn })) := Lib.hid (by
                              rw [HR4.out, ← hTK, if_pos (by rw [hN])]
                              congr 2
                              rw [hN, ← hDD, ← hoe, ← he])
                            have HMM : Hid (bl2 src { s' with b := q, nb := nn } + 1 < m) := Lib.hid (by have h2 := bl2_take (src := src) x' N'.2; rw [hTK, hN, hne.bl2] at h2; have := HM3.out; omega)
                            have HD27 : Hid (1 ≤ D ∧ D < 134217728) := Lib.hid ⟨hD1, Nat.lt_trans hD2 (by decide)⟩
                            simp only [] at cnb5
                            clear hN hD6 hD7 hD8 f6 he hq hnn hlt hne HNg HG HN' HR4 hq32 hn24 he8 hTK hk3 HM3 hoe hDD hD1 hD2 HXX hx13 hx1
                            go_wp2_with fail
                            exact ⟨D, _, _, _, _, ⟨_, _, _, _, _, _, rfl, rfl⟩, HD8.out, HF8.out, HHK.out, HRR, HMM, HD27.out⟩
                      · have y1 : ¬ (d : Int) < 4 := by omega
                        have y2 : ¬ (d : Int) < 30 := by omega
                        have HE : Hid (R = { s3 with err := corV s3.ro }) := Lib.hid (by rw [HR3.out]; unfold hbDist; rw [if_neg hd4, if_neg hd30]; exact hbGo_done _ _ _ _ _ _ _)
                        have c2' := hD5.c_ro
                        have z48 := hD5.fz 1048
                        have c48 := hD5.c_err
                        have HD := Lib.hid (hD5.set_err (corV s3.ro))
                        have HF := Lib.hid (f5.trans (Imp.setF I wq3 1048 (corV s3.ro)))
                        unfold corV at HD HF
                        clear HR3 HM3 hd4 hd30 hd27 hD5 f5
                        go_wp2_with fail
                        simp only [Exit.jumps_ret]
                        go_returns
                        rw [HE.out]
                        exact ⟨rfl, ⟨_, HD.out⟩, HF.out⟩
                  · rintro a wq4 ⟨D, s4, c4', v2', v4'', ⟨u1, u3, u7, u8, u9, l, hlen, rfl⟩, hD6, f6, hk4, HR4, HM4, hD1, hD27⟩
                    clear HR3 HM3 hk3 hD5 f5 hd27
                    revert l
                    refine fun l hlen => AllN_get (n := 352) (K := fun l => Exit.then _ _ .normal ⟨(_ :: _ :: _ :: _ :: _ :: _ :: _ :: _ :: _ :: _ :: l).toArray, []⟩ wq4) ?_ l hlen
                    iterate 352 intro
                    dsimp only [AllN]
                    go_step
                    go_step
                    have hh := histSize_any hD6
                    by_cases hfar : histN s4 < D
                    · have y1 : (D : Int) > (histN s4 : Int) := by omega
                      have HE : Hid (R = { s4 with err := corV s4.ro }) := Lib.hid (by rw [HR4.out]; unfold hbFar; rw [if_pos hfar]; exact hbGo_done _ _ _ _ _ _ _)
                      clear hfar HR4 HM4 hD1 hD27
                      generalize histN s4 = H at *
                      go_wp2_with fail
                      refine hh.mono ?_; rintro r w5 ⟨rfl, hD7, f7⟩
                      have c2' := hD7.c_ro
                      have z48 := hD7.fz 1048
                      have c48 := hD7.c_err
                      have HD := Lib.hid (hD7.set_err (corV s4.ro))
                      have HF := Lib.hid ((f6.trans f7).trans (Imp.setF I w5 1048 (corV s4.ro)))
                      unfold corV at HD HF
                      clear hD6 f6 hD7 f7 hh
                      go_wp2_with fail
                      simp only [Exit.jumps_ret]
                      go_returns
                      rw [HE.out]
                      exact ⟨rfl, ⟨_, HD.out⟩, HF.out⟩
                    · have y1 : ¬ (D : Int) > (histN s4 : Int) := by omega
                      have hDB : D ≤ 32768 := by
                        have h1 := hD6.wr
                        unfold histN at hfar; split at hfar <;> omega
                      have HRR : Hid (R = hbGo I E src hl hd m (.copy { s4 with len := le, dist := D })) := Lib.hid (by rw [HR4.out]; unfold hbFar; rw [if_neg hfar])
                      have HHK := Lib.hid (show HOK I hl hd { s4 with len := le, dist := D } from ⟨hk4.tl, hk4.td, hk4.nb, hk4.wr, hk4.rd⟩)
                      have HMM : Hid (bl2 src { s4 with len := le, dist := D } + 1 < m) := HM4
                      clear hfar HR4 HM4 hD27 hk4
                      generalize histN s4 = H at *
                      go_wp2_with fail
                      refine hh.mono ?_; rintro r w5 ⟨rfl, hD7, f7⟩
                      have c52 := hD7.c_len
                      have z52 := hD7.fz 1052
                      have hD8 := hD7.set_len le (Nat.le_trans hle (by decide))
                      have c53 := hD8.c_dist
                      have z53 := hD8.fz 1053
                      have HD := Lib.hid (hD8.set_dist D hDB)
                      have HF := Lib.hid (((f6.trans f7).trans (Imp.setF I w5 1052 (.int .i64 (le : Int)))).trans (Imp.setF I _ 1053 (.int .i64 (D : Int))))
                      have H1 := Lib.hid hD1
                      simp only [] at c53
                      clear hD6 f6 hD7 hD8 f7 hh hDB hD1
                      go_wp2_with fail
                      go_step3
                      exact .inr ⟨rfl, m, Nat.lt_succ_self _, ⟨_, rfl, rfl⟩, _, _, HD.out, HF.out, HHK.out, H1.out, HRR, HMM⟩
          · have HE : Hid (R = { s1 with err := corV s1.ro }) := Lib.hid (by rw [HR2.out]; unfold hbVal; rw [if_neg hv1, if_neg hv2, if_neg hv3, hbGo_done])
            have x1 : ¬ (v : Int) < 256 := by omega
            have x2 : ((v : Int) == 256) = false := beq_eq_false_iff_ne.2 (by omega)
            have y1 : ¬ (v : Int) < 265 := by omega
            have y2 : ¬ (v : Int) < 269 := by omega
            have y3 : ¬ (v : Int) < 273 := by omega
            have y4 : ¬ (v : Int) < 277 := by omega
            have y5 : ¬ (v : Int) < 281 := by omega
            have y6 : ¬ (v : Int) < 285 := by omega
            have y7 : ¬ (v : Int) < 286 := by omega
            clear hv1 hv2 hv3 HR2 HM1 hk1 hv27
            go_wp2_with fail
            refine hsym.mono ?_; rintro r w2 ⟨rfl, ⟨c2, hD2⟩, f2⟩
            have c2' := hD2.c_ro
            have z48 := hD2.fz 1048
            have c48 := hD2.c_err
            have HD := Lib.hid (hD2.set_err (corV s1.ro))
            have HF := Lib.hid ((fx.trans f2).trans (Imp.setF I w2 1048 (corV s1.ro)))
            unfold corV at HD HF
            clear hsym fx hDx f2 hD2
            go_wp2_with fail
            rw [Exit.jumps_ret]
            go_returns
            rw [HE.out]
            exact ⟨rfl, ⟨_, HD.out⟩, HF.out⟩
  · rintro m a wx ⟨⟨l, hll, rfl⟩, cx, sx, hDx, fx, hkx, hd1x, HR', HM⟩
    revert l
    refine fun l hll => AllN_get (n := 361) (K := fun l => Code.wp Tryd.prog _ _ ⟨(_ :: l).toArray, []⟩ wx) ?_ l hll
    iterate 361 intro
    dsimp only [AllN]
    obtain ⟨m, rfl⟩ : ∃ k, m = k + 1 := ⟨m - 1, by have := HM.out; omega⟩
    have HR1 : Hid (R = hbGo I E src hl hd m (hbCopy I sx)) := Lib.hid HR'.out
    have hwr := hkx.wr
    have HHK := Lib.hid hkx
    have HMM : Hid (bl2 src sx < m) := Lib.hid (by have := HM.out; omega)
    clear HR' HR0 hst h1 hk hD hs1 hs2 HM hkx
    have c52 := hDx.c_len
    have c53 := hDx.c_dist
    have htry := tryCopy_any hDx.drew sx.dist sx.len hd1x hDx.ddist hDx.dlen
    have HNA : Hid (cpN sx = if tryN sx sx.dist sx.len = 0 then wrN (copied sx sx.dist 0) sx.len else tryN sx sx.dist sx.len) := Lib.hid rfl
    have HAA : Hid (cpA sx = if tryN sx sx.dist sx.len = 0 then copied (copied sx sx.dist 0) sx.dist (wrN (copied sx sx.dist 0) sx.len) else copied sx sx.dist (tryN sx sx.dist sx.len)) := Lib.hid rfl
    generalize tryN sx sx.dist sx.len = tn at *
    go_wp2_with fail
    refine wp_cut2 (RE I E src srcV w tn (copied sx sx.dist tn)) ?_ ?_
    · go_region_with (go_at_call 45; go_must (refine Calls.mono htry ?_; rintro r w2 ⟨rfl, ⟨c2, hD2⟩, f2⟩))
      all_goals exact ⟨c2, _, _, _, _, _, _, _, _, _, rfl, rfl, hD2, fx.drew.trans f2⟩
    · rintro a wq ⟨c2, u1, u2, u3, u4, u5, u6, u7, u8, l, hlen, rfl, hD2, f2⟩
      clear htry hDx fx c52 c53 hll
      revert l
      refine fun l hlen => AllN_get (n := 352) (K := fun l => Exit.then _ _ .normal ⟨(_ :: _ :: _ :: _ :: _ :: _ :: _ :: _ :: _ :: _ :: l).toArray, []⟩ wq) ?_ l hlen
      iterate 352 intro
      dsimp only [AllN]
      go_step
      go_step
      go_step
      refine wp_cut2 (RE I E src srcV w (cpN sx) (cpA sx)) ?_ ?_
      · by_cases h0 : tn = 0
        · have y1 : ((tn : Int) == 0) = true := by rw [h0]; rfl
          have HN2 : Hid (cpN sx = wrN (copied sx sx.dist 0) sx.len) := Lib.hid (by rw [HNA.out, if_pos h0])
          have HA2 : Hid (cpA sx = copied (copied sx sx.dist 0) sx.dist (wrN (copied sx sx.dist 0) sx.len)) := Lib.hid (by rw [HAA.out, if_pos h0])
          rw [h0] at hD2
          have c52 : wq.cell? ⟨I.F, 1052, none⟩ = some (.int .i64 (sx.len : Int)) := hD2.c_len
          have c53 : wq.cell? ⟨I.F, 1053, none⟩ = some (.int .i64 (sx.dist : Int)) := hD2.c_dist
          have hwc := writeCopy_any hD2.drew sx.dist sx.len hd1x hD2.ddist hD2.dlen hwr
          clear h0 HNA HAA
          go_wp2_with fail
          go_region_with (go_at_call 46; go_must (refine Calls.mono hwc ?_; rintro r w3 ⟨rfl, ⟨c3, hD3⟩, f3⟩))
          all_goals rw [HN2.out, HA2.out]
          all_goals exact ⟨c3, _, _, _, _, _, _, _, _, _, rfl, rfl, hD3, f2.drew.trans f3⟩
        · have y1 : ((tn : Int) == 0) = false := beq_eq_false_iff_ne.2 (Int.ofNat_ne_zero.2 h0)
          have HN2 : Hid (cpN sx = tn) := Lib.hid (by rw [HNA.out, if_neg h0])
          have HA2 : Hid (cpA sx = copied sx sx.dist tn) := Lib.hid (by rw [HAA.out, if_neg h0])
          clear h0 HNA HAA
          go_wp2_with fail
          exact ⟨c2, _, _, _, _, _, _, _, _, _, rfl, by rw [HN2.out], by rw [HA2.out]; exact hD2, f2⟩
      · rintro a wq2 ⟨c3, u1, u2, u3, u4, u5, u6, u7, u8, l, hlen, rfl, hD3, f3⟩
        clear hD2 f2 HNA HAA
        have hcn := cpN_le sx
        obtain ⟨hh, nn, hcp⟩ := cpA_props sx
        have hdl := hD3.dlen
        have hlx : (cpA sx).len = sx.len := by rw [hcp]
        have hHK2 : (cpA sx).wr < 32768 → HOK I hl hd { cpA sx with len := sx.len - cpN sx } := by
          rw [hcp]; intro h
          exact ⟨HHK.out.tl, HHK.out.td, HHK.out.nb, h, Nat.le_trans HHK.out.rd (Nat.le_add_right _ _)⟩
        have hbl : bl2 src { cpA sx with len := sx.len - cpN sx } = bl2 src sx := by rw [hcp]; rfl
        have hrd : (cpA sx).rd < 32768 ∧ (cpA sx).rd ≤ (cpA sx).wr := by
          rw [hcp]; exact ⟨Nat.lt_of_le_of_lt HHK.out.rd HHK.out.wr, Nat.le_trans HHK.out.rd (Nat.le_add_right _ _)⟩
        have HR2 : Hid (R = hbGo I E src hl hd m (cpT I { cpA sx with len := sx.len - cpN sx })) := HR1
        have c52 := hD3.c_len
        have z52 := hD3.fz 1052
        rw [hlx] at c52 hdl
        obtain ⟨ln, hln⟩ : ∃ x, x = sx.len - cpN sx := ⟨_, rfl⟩
        have y1 : wrap64 ((sx.len : Int) - (cpN sx : Int)) = (ln : Int) := wrapSub hln hcn (Nat.le_trans hdl (by decide))
        rw [← hln] at hHK2 hbl HR2
        have hD4 := hD3.set_len ln (by rw [hln]; exact Nat.le_trans (Nat.sub_le _ _) hdl)
        have f4 := f3.trans (Imp.setF I wq2 1052 (.int .i64 (ln : Int)))
        have HM2 : Hid (bl2 src { cpA sx with len := ln } < m) := Lib.hid (by rw [hbl]; exact HMM.out)
        have hHK3 : ({ cpA sx with len := ln } : DS).wr < 32768 → HOK I hl hd { cpA sx with len := ln } := hHK2
        have hrd2 : ({ cpA sx with len := ln } : DS).rd < 32768 ∧ ({ cpA sx with len := ln } : DS).rd ≤ ({ cpA sx with len := ln } : DS).wr := hrd
        have hla : ({ cpA sx with len := ln } : DS).len = ln := rfl
        clear hHK2 hbl hrd hlx hcp hdl hcn hln HR1 HMM HHK
        generalize cpN sx = cn at *
        generalize ({ cpA sx with len := ln } : DS) = a at *
        revert l
        refine fun l hlen => AllN_get (n := 352) (K := fun l => Exit.then _ _ .normal ⟨(_ :: _ :: _ :: _ :: _ :: _ :: _ :: _ :: _ :: _ :: l).toArray, []⟩ wq2) ?_ l hlen
        iterate 352 intro
        dsimp only [AllN]
        go_step
        go_step
        have hav := availWrite_any hD4
        have hwa := hD4.wr
        by_cases hA : a.wr = 32768
        · have HE : Hid (R = { outS I a with step := stepV 24, st := 1 }) := Lib.hid (by rw [HR2.out]; unfold cpT; rw [if_pos (.inl hA), hbGo_done])
          have y : (32768 - a.wr : Nat) = 0 := by rw [hA]
          rw [y] at hav
          clear y hwa hA HR2 HM2 hHK3 hD3 f3
          go_wp2_with fail
          refine hav.mono ?_; rintro r w7 ⟨rfl, hD7, f7⟩
          have f7 := f4.trans f7
          have hrf := readFlush_any hD7 hrd2.1 hrd2.2
          unfold Ids.out at hrf
          clear f4 hD4 hav hrd2
          go_wp2_with fail
          refine hrf.mono ?_; rintro r w8 ⟨rfl, ⟨c8, hD8⟩, f8⟩
          have z8 := hD8.fz 1049
          have c49 := hD8.c_tr
          have hD9 := hD8.set_tr (I.out a)
          have z9 := hD9.fz 1045
          have c45 := hD9.c_step
          have hD10 := hD9.set_step (stepV 24)
          have z10 := hD10.fz 1046
          have c46 := hD10.c_st
          have hD11 := hD10.set_st 1
          have f11 := (((f7.trans f8).trans (Imp.setF I w8 1049 (I.out a))).trans (Imp.setF I _ 1045 (stepV 24))).trans (Imp.setF I _ 1046 (.int .i64 (1 : Nat)))
          rw [show ((1 : Nat) : Int) = 1 from rfl] at hD11 f11
          have HD := Lib.hid hD11
          have HF := Lib.hid f11
          clear hD7 hD8 hD9 hD10 hD11 f7 f8 f11 hrf
          unfold stepV Ids.out at HD HF
          unfold Ids.out at z9 c45
          unfold stepV Ids.out at z10 c46
          go_wp2_with fail
          simp only [Exit.jumps_ret]
          go_returns
          rw [HE.out]
          exact ⟨rfl, ⟨_, HD.out⟩, HF.out⟩
        · by_cases hB : 0 < a.len
          · have HE : Hid (R = { outS I a with step := stepV 24, st := 1 }) := Lib.hid (by rw [HR2.out]; unfold cpT; rw [if_pos (.inr hB), hbGo_done])
            obtain ⟨v, hv⟩ : ∃ v, v = 32768 - a.wr := ⟨_, rfl⟩
            have y1b : ((v : Int) == 0) = false := beq_eq_false_iff_ne.2 (by omega)
            have y2 : (a.len : Int) > 0 := by omega
            rw [← hv] at hav
            clear hwa hA HR2 HM2 hHK3 hD3 f3 hv hB
            go_wp2_with fail
            refine hav.mono ?_; rintro r w7 ⟨rfl, hD7, f7⟩
            have f7 := f4.trans f7
            have hrf := readFlush_any hD7 hrd2.1 hrd2.2
            unfold Ids.out at hrf
            have c52b := hD7.c_len
            clear f4 hD4 hav hrd2
            go_wp2_with fail
            refine hrf.mono ?_; rintro r w8 ⟨rfl, ⟨c8, hD8⟩, f8⟩
            have z8 := hD8.fz 1049
            have c49 := hD8.c_tr
            have hD9 := hD8.set_tr (I.out a)
            have z9 := hD9.fz 1045
            have c45 := hD9.c_step
            have hD10 := hD9.set_step (stepV 24)
            have z10 := hD10.fz 1046
            have c46 := hD10.c_st
            have hD11 := hD10.set_st 1
            have f11 := (((f7.trans f8).trans (Imp.setF I w8 1049 (I.out a))).trans (Imp.setF I _ 1045 (stepV 24))).trans (Imp.setF I _ 1046 (.int .i64 (1 : Nat)))
            rw [show ((1 : Nat) : Int) = 1 from rfl] at hD11 f11
            have HD := Lib.hid hD11
            have HF := Lib.hid f11
            clear hD7 hD8 hD9 hD10 hD11 f7 f8 f11 hrf
            unfold stepV Ids.out at HD HF
            unfold Ids.out at z9 c45
            unfold stepV Ids.out at z10 c46
            go_wp2_with fail
            simp only [Exit.jumps_ret]
            go_returns
            rw [HE.out]
            exact ⟨rfl, ⟨_, HD.out⟩, HF.out⟩
          · have hK := hHK3 (by omega)
            have HR3 : Hid (R = hbGo I E src hl hd m (.lit a)) := Lib.hid (by rw [HR2.out]; unfold cpT; rw [if_neg (by omega)])
            obtain ⟨v, hv⟩ : ∃ v, v = 32768 - a.wr := ⟨_, rfl⟩
            have y1b : ((v : Int) == 0) = false := beq_eq_false_iff_ne.2 (by omega)
            have y2 : ¬ (a.len : Int) > 0 := by omega
            rw [← hv] at hav
            have HK3 := Lib.hid hK
            clear hwa hA HR2 hHK3 hD3 f3 hv hB hK
            go_wp2_with fail
            refine hav.mono ?_; rintro r w7 ⟨rfl, hD7, f7⟩
            have f7 := f4.trans f7
            have c52b := hD7.c_len
            clear f4 hD4 hav hrd2
            go_wp2_with fail
            go_step3
            exact .inl ⟨rfl, m, Nat.lt_succ_self _, ⟨_, rfl, rfl⟩, _, _, hD7, f7, HK3.out, HR3, HM2⟩
end
end Proofs.YtbbnibbdiiffkaaDoor
end Go
