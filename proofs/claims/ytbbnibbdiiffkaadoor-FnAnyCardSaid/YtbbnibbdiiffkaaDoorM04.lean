/- The reference's reading of a block of symbols. The theory of canonical codes: how many codes of each length, the first code of a length, the code of a symbol. The book of codes: what stands in it. Plain laws of the reference's books and lengths. -/
import Derived.Test.YtbbnibbdiiffkaaDoorM02
import Derived.Test.YtbbnibbdiiffkaaDoorM03

/- The reference's reading of a block of symbols. -/
namespace Go.Proofs.YtbbnibbdiiffkaaDoor
open Go.RowKit

/-- One symbol of a block, and what it gives: whether the block ends with it, the position, the output, the end. -/
def codedStep (M D : List (Nat × Nat)) (used : Nat) (src dict : List Nat) (p : Nat) (out : List Nat) (e : Int) : Bool × Nat × List Nat × Int :=
  let s := symS M src p e
  if s.2.2 < 0 then
    if s.1 < 256 then (false, s.2.1, giveO out s.2.2 s.1, giveE out s.2.2)
    else if s.1 = 256 then (true, s.2.1, out, s.2.2)
    else if (lengthL s.1).1 = 0 then (true, s.2.1, out, 2)
    else
      let a := bitsAt src s.2.1 s.2.2 (lengthL s.1).2
      if a.2.2 < 0 ∧ s.1 = 284 ∧ (lengthL s.1).1 + a.1 = 258 then (true, a.2.1, out, 0)
      else if used = 0 then (true, a.2.1, out, stopE a.2.2 0)
      else
        let d := symS D src a.2.1 a.2.2
        if d.2.2 < 0 then
          if (distanceL d.1).1 = 0 then (true, d.2.1, out, 2)
          else
            let b := bitsAt src d.2.1 d.2.2 (distanceL d.1).2
            let f := farS dict out b.2.2 ((lengthL s.1).1 + a.1) ((distanceL d.1).1 + b.1)
            (false, b.2.1, f.1, f.2)
        else (true, d.2.1, out, d.2.2)
  else (true, s.2.1, out, s.2.2)

def codedGo (M D : List (Nat × Nat)) (used : Nat) (src dict : List Nat) : Nat → Nat → List Nat → Int → Nat × List Nat × Int
  | 0, p, out, e => (p, out, e)
  | f + 1, p, out, e =>
    if e < 0 then
      let r := codedStep M D used src dict p out e
      if r.1 then r.2 else codedGo M D used src dict f r.2.1 r.2.2.1 r.2.2.2
    else (p, out, e)
def codedS (lit dist : List Nat) (src dict : List Nat) (p : Nat) (out : List Nat) (e : Int) : Nat × List Nat × Int :=
  codedGo (bookL lit) (bookL dist) (usedL dist) src dict (8 * src.length + 1) p out e

theorem codedGo_ret {M D : List (Nat × Nat)} {used : Nat} {src dict : List Nat} (f : Nat) {p : Nat} {out : List Nat} {e : Int} (he : e < 0) {r : Nat × List Nat × Int}
    (h : codedStep M D used src dict p out e = (true, r)) : codedGo M D used src dict (f + 1) p out e = r := by
  simp only [codedGo]; rw [if_pos he, h]; rfl
theorem codedGo_on {M D : List (Nat × Nat)} {used : Nat} {src dict : List Nat} (f : Nat) {p : Nat} {out : List Nat} {e : Int} (he : e < 0) {p' : Nat} {out' : List Nat} {e' : Int}
    (h : codedStep M D used src dict p out e = (false, p', out', e')) : codedGo M D used src dict (f + 1) p out e = codedGo M D used src dict f p' out' e' := by
  simp only [codedGo]; rw [if_pos he, h]; rfl
theorem codedGo_off {M D : List (Nat × Nat)} {used : Nat} {src dict : List Nat} (f : Nat) {p : Nat} {out : List Nat} {e : Int} (he : ¬ e < 0) : codedGo M D used src dict f p out e = (p, out, e) := by
  cases f with
  | zero => rfl
  | succ f => simp only [codedGo]; rw [if_neg he]

theorem symGo_pos (M : List (Nat × Nat)) (src : List Nat) : ∀ n c p, (symGo M src n c p).2.2 < 0 → p < (symGo M src n c p).2.1 := by
  intro n
  induction n with
  | zero => intro c p h; simp [symGo] at h
  | succ n ih =>
    intro c p
    simp only [symGo]
    split
    · split
      · intro _; simp
      · split
        · intro h; simp at h
        · intro h; have := ih _ _ h; omega
    · intro h; simp at h
theorem symS_pos {M : List (Nat × Nat)} {src : List Nat} {p : Nat} {e : Int} (h : (symS M src p e).2.2 < 0) : p < (symS M src p e).2.1 := by
  unfold symS at *
  split at h
  · rw [if_pos ‹_›]; exact symGo_pos _ _ _ _ _ h
  · simp at h; omega
theorem bitsAt_pos (src : List Nat) (p : Nat) (e : Int) (n : Nat) : p ≤ (bitsAt src p e n).2.1 := by
  induction n with
  | zero => exact Nat.le_refl _
  | succ n ih =>
    simp only [bitsAt]
    unfold bitP
    split <;> omega
theorem lengthL_bd (k : Nat) : (lengthL k).1 ≤ 300 ∧ (lengthL k).2 ≤ 5 := by
  unfold lengthL
  split
  · simp
  · split
    · simp; omega
    · split
      · rename_i h
        have h2 : 2 ^ ((k - 261) / 4) ≤ 2 ^ 5 := Nat.pow_le_pow_right (by decide) (by omega)
        have h3 : (4 + (k - 261) % 4) * 2 ^ ((k - 261) / 4) ≤ 7 * 2 ^ 5 := Nat.mul_le_mul (by omega) h2
        simp; omega
      · simp
theorem distanceL_bd (d : Nat) : (distanceL d).1 ≤ 24577 ∧ (distanceL d).2 ≤ 13 := by
  unfold distanceL
  split
  · simp; omega
  · split
    · have h2 : 2 ^ (d / 2 - 1) ≤ 2 ^ 13 := Nat.pow_le_pow_right (by decide) (by omega)
      have h3 : (2 + d % 2) * 2 ^ (d / 2 - 1) ≤ 3 * 2 ^ 13 := Nat.mul_le_mul (by omega) h2
      simp; omega
    · simp

/-- How far the reading is from its end. -/
def zMeas (Z n : Nat) (w : World) : Nat :=
  match w.cell? ⟨Z, 1, none⟩, w.cell? ⟨Z, 4, none⟩ with
  | some (.int _ p), some (.int _ e) => if e < 0 then 8 * n + 2 - p.toNat else 0
  | _, _ => 0

section
variable {Z : Nat} {src dict : List Nat} {w : World} {p : Nat} {out : List Nat} {e : Int}
theorem SOK.meas (hS : SOK Z src dict w p out e) (n : Nat) : zMeas Z n w = if e < 0 then 8 * n + 2 - p else 0 := by
  obtain ⟨a, b, c, h⟩ := hS
  unfold zMeas
  rw [h.c1, h.c4]
  simp

/-- What a block's reading carries along: its two books, and the distances' lengths. -/
structure Cry (Z : Nat) (w0 : World) (b1 : Nat) (M : List (Nat × Nat)) (b2 : Nat) (D : List (Nat × Nat)) (v : Value) (dist : List Nat) (w : World) : Prop where
  keep : Keep Z w0 w
  m : w.heap[b1]? = some (mBlk M)
  d : w.heap[b2]? = some (mBlk D)
  r : RdI w v dist
theorem Cry.step {w0 : World} {b1 : Nat} {M : List (Nat × Nat)} {b2 : Nat} {D : List (Nat × Nat)} {v : Value} {dist : List Nat} {w w' : World} (h : Cry Z w0 b1 M b2 D v dist w) (hS : SOK Z src dict w p out e) (hk : Keep Z w w') : Cry Z w0 b1 M b2 D v dist w' :=
  ⟨h.keep.trans hk, map_keep h.m hk hS.blk.choose_spec, map_keep h.d hk hS.blk.choose_spec, h.r.keep hk hS.blk.choose_spec⟩

set_option maxRecDepth 100000 in
set_option maxHeartbeats 4000000 in
theorem coded_any (hS : SOK Z src dict w p out e) (v1 v2 : Value) (lit dist : List Nat) (hv1 : RdI w v1 lit) (hv2 : RdI w v2 dist) (hl1 : lit.length ≤ 300) (hl2 : dist.length ≤ 40) (h15 : ∀ x ∈ lit, x ≤ 15) (h15' : ∀ x ∈ dist, x ≤ 15)
    (hM : e < 0 → 2 ≤ (bookL lit).length ∧ (usedL dist ≠ 0 → 2 ≤ (bookL dist).length ∨ ∃ v, bookL dist = [(2, v)])) :
    Calls Tryd.prog 29 #[.pointer (some ⟨Z, 0, none⟩), v1, v2] w fun r w' => r = .returned (.tuple #[]) ∧
      SOK Z src dict w' (codedS lit dist src dict p out e).1 (codedS lit dist src dict p out e).2.1 (codedS lit dist src dict p out e).2.2 ∧ Keep Z w w' := by
  obtain ⟨a1, c1, rfl⟩ := hv1.shape
  obtain ⟨a2, c2, rfl⟩ := hv2.shape
  go_enter Tryd.func29, Tryd.ntmps29
  go_wp2_with fail
  refine (book_any _ lit _ hv1 (by omega) h15).mono ?_; rintro r w1 ⟨b1, rfl, hb1, hbl1, hn1⟩
  go_wp2_with fail
  refine (book_any _ dist _ (hv2.new hn1) (by omega) h15').mono ?_; rintro r w2 ⟨b2, rfl, hb2, hbl2, hn2⟩
  have hS2 := (hS.new hn1).new hn2
  have hk2 := (hn1.keep Z).trans (hn2.keep Z)
  have hb1' := hn2.heap hb1
  have hd2 := (hv2.new hn1).new hn2
  have hML : (bookL lit).length ≤ 1000 := Nat.le_trans (bookL_len lit) (by omega)
  have hDL : (bookL dist).length ≤ 1000 := Nat.le_trans (bookL_len dist) (by omega)
  have HM1 := Lib.hid (fun x hx => Nat.lt_of_lt_of_le (bookL_lt lit x hx) (show lit.length ≤ 1000 by omega))
  have HM2 := Lib.hid (fun x hx => Nat.lt_of_lt_of_le (bookL_lt dist x hx) (show dist.length ≤ 1000 by omega))
  have HMM := Lib.hid hM
  have HG0 : Hid (codedS lit dist src dict p out e = codedGo (bookL lit) (bookL dist) (usedL dist) src dict (8 * src.length + 1) p out e) := Lib.hid rfl
  generalize hRe : codedS lit dist src dict p out e = R at *
  have HRe := Lib.hid hRe
  clear hRe
  have hC : Cry Z w b1 (bookL lit) b2 (bookL dist) (.slice a2 dist.length c2) dist w2 := ⟨hk2, hb1', hb2, hd2⟩
  clear hM hv1 hv2 h15 h15' hb1 hbl1 hbl2 hn1 hn2 hk2 hb1' hb2 hd2
  generalize bookL lit = M at *
  generalize bookL dist = D at *
  go_wp2_with fail
  go_loopw [8] (fun kv wr => ∃ (pj : Nat) (oj : List Nat) (ej : Int) (f : Nat), SOK Z src dict wr pj oj ej ∧ R = codedGo M D (usedL dist) src dict f pj oj ej ∧ (ej < 0 → 8 * src.length < f + pj) ∧ (ej < 0 → e < 0) ∧
      Cry Z w b1 M b2 D (.slice a2 dist.length c2) dist wr) (fun _ wr => zMeas Z src.length wr)
  case atStart => exact ⟨p, out, e, _, hS2, HG0.out, fun _ => by omega, fun h => h, hC⟩
  case round =>
    clear hS2 HG0 hC w2
    obtain ⟨pj, oj, ej, f, hSj, hR, hf, hee, hCj⟩ := hrel
    have HR := Lib.hid hR
    clear hR
    by_cases he : ej < 0
    · obtain ⟨f, rfl⟩ : ∃ g, f = g + 1 := ⟨f - 1, by have := hf he; have := hSj.posn; omega⟩
      have hfp := hf he
      have hMM := HMM.out (hee he)
      have HE0 := Lib.hid (hee he)
      have hm := hSj.meas src.length
      rw [if_pos he] at hm
      have HME := Lib.hid hm
      have hpj := hSj.posn
      have HM2L := Lib.hid hMM.1
      have HD2L := Lib.hid hMM.2
      have HE := Lib.hid he
      clear hf hee hMM hm
      go_wp2_with fail
      refine (on_yes hSj he).mono ?_; rintro r w3 ⟨rfl, rfl⟩
      go_wp2_with fail
      refine (symbol_any hSj hCj.m (.inl HM2L.out) hML).mono ?_; rintro r w3 ⟨rfl, hS3, hK3⟩
      have hC3 := hCj.step hSj hK3
      have hkB := symS_lt (src := src) HM1.out (by omega) pj ej
      have hps := @symS_pos M src pj ej
      have HSt : Hid (codedStep M D (usedL dist) src dict pj oj ej = codedStep M D (usedL dist) src dict pj oj ej) := Lib.hid rfl
      generalize hsym : symS M src pj ej = s at *
      obtain ⟨k, p1, e1⟩ := s
      simp only [] at hS3 hkB hps
      have HSY := Lib.hid hsym
      clear hsym hK3 hCj HSt
      by_cases h1 : e1 < 0
      · have hps := hps h1
        by_cases hk1 : k < 256
        · have HST : Hid (codedStep M D (usedL dist) src dict pj oj ej = (false, p1, giveO oj e1 k, giveE oj e1)) := by
            unfold codedStep; rw [HSY.out]; simp only []; rw [if_pos h1, if_pos hk1]; exact rfl
          go_wp2_with fail
          refine (on_yes hS3 h1).mono ?_; rintro r w4 ⟨rfl, rfl⟩
          go_wp2_with fail
          refine (give_any hS3 k).mono ?_; rintro r w4 ⟨rfl, hS4, hK4⟩
          have hC4 := hC3.step hS3 hK4
          have hm4 := hS4.meas src.length
          have hp1 := hS3.posn
          go_wp2_with fail
          go_roundw
          case rel => exact ⟨p1, _, _, f, hS4, by rw [HR.out, codedGo_on f he HST.out], fun _ => by omega, fun _ => HE0.out, hC4⟩
          case measure => rw [hm4, HME.out]; split <;> omega
        · by_cases hk2 : k = 256
          · have HST : Hid (codedStep M D (usedL dist) src dict pj oj ej = (true, p1, oj, e1)) := by
              unfold codedStep; rw [HSY.out]; simp only []; rw [if_pos h1, if_neg hk1, if_pos hk2]; exact rfl
            have t1 : ((k : Int) == 256) = true := beq_iff_eq.2 (by omega)
            clear hk2
            go_wp2_with fail
            refine (on_yes hS3 h1).mono ?_; rintro r w4 ⟨rfl, rfl⟩
            go_wp2_with fail
            go_returns
            exact ⟨rfl, by rw [HRe.out, HR.out, codedGo_ret f HE.out HST.out]; exact hS3, hC3.keep⟩
          · have t1 : ((k : Int) == 256) = false := beq_eq_false_iff_ne.2 (by omega)
            have hlb := lengthL_bd k
            have HL : Hid (lengthL k = lengthL k) := Lib.hid rfl
            go_wp2_with fail
            refine (on_yes hS3 h1).mono ?_; rintro r w4 ⟨rfl, rfl⟩
            go_wp2_with fail
            refine (length_any k _ (by omega)).mono ?_; rintro r w4 ⟨rfl, rfl⟩
            generalize hll : lengthL k = L at *
            obtain ⟨least, extra⟩ := L
            simp only [] at hlb
            have HLL := Lib.hid hll
            clear hll HL
            by_cases hl0 : least = 0
            · have HST : Hid (codedStep M D (usedL dist) src dict pj oj ej = (true, p1, oj, 2)) := by
                unfold codedStep; rw [HSY.out]; simp only []; rw [if_pos h1, if_neg hk1, if_neg hk2, HLL.out, if_pos hl0]; exact rfl
              have t2 : ((least : Int) == 0) = true := beq_iff_eq.2 (by omega)
              have hst : stopE e1 2 = 2 := if_pos h1
              clear hl0
              go_wp2_with fail
              refine (stop_any hS3 2 (by omega) (by omega)).mono ?_; rintro r w4 ⟨rfl, hS4, hK4⟩
              rw [hst] at hS4
              go_wp2_with fail
              go_returns
              exact ⟨rfl, by rw [HRe.out, HR.out, codedGo_ret f HE.out HST.out]; exact hS4, hC3.keep.trans hK4⟩
            · have t2 : ((least : Int) == 0) = false := beq_eq_false_iff_ne.2 (by omega)
              go_wp2_with fail
              refine (bits_any hS3 extra (by omega)).mono ?_; rintro r w4 ⟨rfl, hS4, hK4⟩
              have hC4 := hC3.step hS3 hK4
              have hab := bitsAt_lt src p1 e1 extra
              have hap := bitsAt_pos src p1 e1 extra
              have hab2 : 2 ^ extra ≤ 2 ^ 5 := Nat.pow_le_pow_right (by decide) hlb.2
              generalize hA : bitsAt src p1 e1 extra = A at *
              obtain ⟨av, p2, e2⟩ := A
              simp only [] at hS4 hab hap
              have HA := Lib.hid hA
              have hav : av < 32 := by omega
              clear hA hab hab2 hK4
              go_wp2_with fail
              by_cases h2 : e2 < 0
              · refine (on_yes hS4 h2).mono ?_; rintro r w5 ⟨rfl, rfl⟩
                by_cases hk3 : k = 284
                · have t3 : ((k : Int) == 284) = true := beq_iff_eq.2 (by omega)
                  by_cases hl3 : least + av = 258
                  · have HST : Hid (codedStep M D (usedL dist) src dict pj oj ej = (true, p2, oj, 0)) := by
                      unfold codedStep; rw [HSY.out]; simp only []; rw [if_pos h1, if_neg hk1, if_neg hk2, HLL.out, if_neg hl0, HA.out]; simp only []; rw [if_pos ⟨h2, hk3, hl3⟩]; exact rfl
                    have t4 : ((least : Int) + (av : Int) == 258) = true := beq_iff_eq.2 (by omega)
                    have hst : stopE e2 0 = 0 := if_pos h2
                    clear hk3 hl3
                    go_wp2_with fail
                    refine (stop_any hS4 0 (by omega) (by omega)).mono ?_; rintro r w5 ⟨rfl, hS5, hK5⟩
                    rw [hst] at hS5
                    go_wp2_with fail
                    go_returns
                    exact ⟨rfl, by rw [HRe.out, HR.out, codedGo_ret f HE.out HST.out]; exact hS5, hC4.keep.trans hK5⟩
                  · have t4 : ((least : Int) + (av : Int) == 258) = false := beq_eq_false_iff_ne.2 (by omega)
                    have HN := Lib.hid (show ¬ (e2 < 0 ∧ k = 284 ∧ least + av = 258) from fun h => hl3 h.2.2)
                    have HK3 := Lib.hid hk3
                    clear hk3 hl3
                    by_cases hu : usedL dist = 0
                    · have HST : Hid (codedStep M D (usedL dist) src dict pj oj ej = (true, p2, oj, stopE e2 0)) := by
                        unfold codedStep; rw [HSY.out]; simp only []; rw [if_pos h1, if_neg hk1, if_neg hk2, HLL.out, if_neg hl0, HA.out]; simp only []; rw [if_neg HN.out, if_pos hu]; exact rfl
                      have t5 : ((usedL dist : Int) == 0) = true := beq_iff_eq.2 (by omega)
                      have HU := Lib.hid hu
                      clear hu
                      go_wp2_with fail
                      refine (used_any _ dist _ hC4.r (by omega)).mono ?_; rintro r w5 ⟨rfl, rfl⟩
                      go_wp2_with fail
                      refine (stop_any hS4 0 (by omega) (by omega)).mono ?_; rintro r w5 ⟨rfl, hS5, hK5⟩
                      go_wp2_with fail
                      go_returns
                      exact ⟨rfl, by rw [HRe.out, HR.out, codedGo_ret f HE.out HST.out]; exact hS5, hC4.keep.trans hK5⟩
                    · have t5 : ((usedL dist : Int) == 0) = false := beq_eq_false_iff_ne.2 (by omega)
                      have HU := Lib.hid hu
                      clear hu
                      go_wp2_with fail
                      refine (used_any _ dist _ hC4.r (by omega)).mono ?_; rintro r w5 ⟨rfl, rfl⟩
                      go_wp2_with fail
                      refine (symbol_any hS4 hC4.d (HD2L.out HU.out) hDL).mono ?_; rintro r w5 ⟨rfl, hS5, hK5⟩
                      have hC5 := hC4.step hS4 hK5
                      have hdB := symS_lt (src := src) HM2.out (by omega) p2 e2
                      generalize hdd : symS D src p2 e2 = s at *
                      obtain ⟨d, p3, e3⟩ := s
                      simp only [] at hS5 hdB
                      have HD := Lib.hid hdd
                      clear hdd hK5
                      by_cases h3 : e3 < 0
                      · have hp23 := @symS_pos D src p2 e2 (by rw [HD.out]; exact h3)
                        rw [HD.out] at hp23
                        simp only [] at hp23
                        have hdb := distanceL_bd d
                        go_wp2_with fail
                        refine (on_yes hS5 h3).mono ?_; rintro r w6 ⟨rfl, rfl⟩
                        go_wp2_with fail
                        refine (distance_any d _ (by omega)).mono ?_; rintro r w6 ⟨rfl, rfl⟩
                        generalize hdl : distanceL d = L at *
                        obtain ⟨near, more⟩ := L
                        simp only [] at hdb
                        have HDL := Lib.hid hdl
                        clear hdl
                        by_cases hn0 : near = 0
                        · have HST : Hid (codedStep M D (usedL dist) src dict pj oj ej = (true, p3, oj, 2)) := by
                            unfold codedStep; rw [HSY.out]; simp only []; rw [if_pos h1, if_neg hk1, if_neg hk2, HLL.out, if_neg hl0, HA.out]; simp only []; rw [if_neg HN.out, if_neg HU.out, HD.out]; simp only []; rw [if_pos h3, HDL.out, if_pos hn0]; exact rfl
                          have t6 : ((near : Int) == 0) = true := beq_iff_eq.2 (by omega)
                          have hst3 : stopE e3 2 = 2 := if_pos h3
                          clear hn0
                          go_wp2_with fail
                          refine (stop_any hS5 2 (by omega) (by omega)).mono ?_; rintro r w6 ⟨rfl, hS6, hK6⟩
                          rw [hst3] at hS6
                          go_wp2_with fail
                          go_returns
                          exact ⟨rfl, by rw [HRe.out, HR.out, codedGo_ret f HE.out HST.out]; exact hS6, hC5.keep.trans hK6⟩
                        · have t6 : ((near : Int) == 0) = false := beq_eq_false_iff_ne.2 (by omega)
                          go_wp2_with fail
                          refine (bits_any hS5 more (by omega)).mono ?_; rintro r w6 ⟨rfl, hS6, hK6⟩
                          have hC6 := hC5.step hS5 hK6
                          have hbb := bitsAt_lt src p3 e3 more
                          have hbp := bitsAt_pos src p3 e3 more
                          have hbb2 : 2 ^ more ≤ 2 ^ 13 := Nat.pow_le_pow_right (by decide) hdb.2
                          generalize hB : bitsAt src p3 e3 more = B at *
                          obtain ⟨bv, p4, e4⟩ := B
                          simp only [] at hS6 hbb hbp
                          have HB := Lib.hid hB
                          have HST : Hid (codedStep M D (usedL dist) src dict pj oj ej = (false, p4, (farS dict oj e4 (least + av) (near + bv)).1, (farS dict oj e4 (least + av) (near + bv)).2)) := by
                            unfold codedStep; rw [HSY.out]; simp only []; rw [if_pos h1, if_neg hk1, if_neg hk2, HLL.out, if_neg hl0, HA.out]; simp only []; rw [if_neg HN.out, if_neg HU.out, HD.out]; simp only []; rw [if_pos h3, HDL.out, if_neg hn0, HB.out]; exact rfl
                          have hbv : bv < 8192 := by omega
                          have hp4 := hS6.posn
                          clear hB hbb hbb2 hK6
                          go_wp2_with fail
                          refine (far_any hS6 (least + av) (near + bv) (by omega) (by omega) (by omega)).mono ?_; rintro r w7 ⟨rfl, hS7, hK7⟩
                          have hC7 := hC6.step hS6 hK7
                          have hm7 := hS7.meas src.length
                          go_wp2_with fail
                          go_roundw
                          case rel => exact ⟨p4, _, _, f, hS7, by rw [HR.out, codedGo_on f HE.out HST.out], fun _ => by omega, fun _ => HE0.out, hC7⟩
                          case measure => rw [hm7, HME.out]; split <;> omega
                      · have HST : Hid (codedStep M D (usedL dist) src dict pj oj ej = (true, p3, oj, e3)) := by
                          unfold codedStep; rw [HSY.out]; simp only []; rw [if_pos h1, if_neg hk1, if_neg hk2, HLL.out, if_neg hl0, HA.out]; simp only []; rw [if_neg HN.out, if_neg HU.out, HD.out]; simp only []; rw [if_neg h3]; exact rfl
                        go_wp2_with fail
                        refine (on_no hS5 (by omega)).mono ?_; rintro r w6 ⟨rfl, rfl⟩
                        go_wp2_with fail
                        go_returns
                        exact ⟨rfl, by rw [HRe.out, HR.out, codedGo_ret f HE.out HST.out]; exact hS5, hC5.keep⟩
                · have t3 : ((k : Int) == 284) = false := beq_eq_false_iff_ne.2 (by omega)
                  have HN := Lib.hid (show ¬ (e2 < 0 ∧ k = 284 ∧ least + av = 258) from fun h => hk3 h.2.1)
                  clear hk3
                  by_cases hu : usedL dist = 0
                  · have HST : Hid (codedStep M D (usedL dist) src dict pj oj ej = (true, p2, oj, stopE e2 0)) := by
                      unfold codedStep; rw [HSY.out]; simp only []; rw [if_pos h1, if_neg hk1, if_neg hk2, HLL.out, if_neg hl0, HA.out]; simp only []; rw [if_neg HN.out, if_pos hu]; exact rfl
                    have t5 : ((usedL dist : Int) == 0) = true := beq_iff_eq.2 (by omega)
                    have HU := Lib.hid hu
                    clear hu
                    go_wp2_with fail
                    refine (used_any _ dist _ hC4.r (by omega)).mono ?_; rintro r w5 ⟨rfl, rfl⟩
                    go_wp2_with fail
                    refine (stop_any hS4 0 (by omega) (by omega)).mono ?_; rintro r w5 ⟨rfl, hS5, hK5⟩
                    go_wp2_with fail
                    go_returns
                    exact ⟨rfl, by rw [HRe.out, HR.out, codedGo_ret f HE.out HST.out]; exact hS5, hC4.keep.trans hK5⟩
                  · have t5 : ((usedL dist : Int) == 0) = false := beq_eq_false_iff_ne.2 (by omega)
                    have HU := Lib.hid hu
                    clear hu
                    go_wp2_with fail
                    refine (used_any _ dist _ hC4.r (by omega)).mono ?_; rintro r w5 ⟨rfl, rfl⟩
                    go_wp2_with fail
                    refine (symbol_any hS4 hC4.d (HD2L.out HU.out) hDL).mono ?_; rintro r w5 ⟨rfl, hS5, hK5⟩
                    have hC5 := hC4.step hS4 hK5
                    have hdB := symS_lt (src := src) HM2.out (by omega) p2 e2
                    generalize hdd : symS D src p2 e2 = s at *
                    obtain ⟨d, p3, e3⟩ := s
                    simp only [] at hS5 hdB
                    have HD := Lib.hid hdd
                    clear hdd hK5
                    by_cases h3 : e3 < 0
                    · have hp23 := @symS_pos D src p2 e2 (by rw [HD.out]; exact h3)
                      rw [HD.out] at hp23
                      simp only [] at hp23
                      have hdb := distanceL_bd d
                      go_wp2_with fail
                      refine (on_yes hS5 h3).mono ?_; rintro r w6 ⟨rfl, rfl⟩
                      go_wp2_with fail
                      refine (distance_any d _ (by omega)).mono ?_; rintro r w6 ⟨rfl, rfl⟩
                      generalize hdl : distanceL d = L at *
                      obtain ⟨near, more⟩ := L
                      simp only [] at hdb
                      have HDL := Lib.hid hdl
                      clear hdl
                      by_cases hn0 : near = 0
                      · have HST : Hid (codedStep M D (usedL dist) src dict pj oj ej = (true, p3, oj, 2)) := by
                          unfold codedStep; rw [HSY.out]; simp only []; rw [if_pos h1, if_neg hk1, if_neg hk2, HLL.out, if_neg hl0, HA.out]; simp only []; rw [if_neg HN.out, if_neg HU.out, HD.out]; simp only []; rw [if_pos h3, HDL.out, if_pos hn0]; exact rfl
                        have t6 : ((near : Int) == 0) = true := beq_iff_eq.2 (by omega)
                        have hst3 : stopE e3 2 = 2 := if_pos h3
                        clear hn0
                        go_wp2_with fail
                        refine (stop_any hS5 2 (by omega) (by omega)).mono ?_; rintro r w6 ⟨rfl, hS6, hK6⟩
                        rw [hst3] at hS6
                        go_wp2_with fail
                        go_returns
                        exact ⟨rfl, by rw [HRe.out, HR.out, codedGo_ret f HE.out HST.out]; exact hS6, hC5.keep.trans hK6⟩
                      · have t6 : ((near : Int) == 0) = false := beq_eq_false_iff_ne.2 (by omega)
                        go_wp2_with fail
                        refine (bits_any hS5 more (by omega)).mono ?_; rintro r w6 ⟨rfl, hS6, hK6⟩
                        have hC6 := hC5.step hS5 hK6
                        have hbb := bitsAt_lt src p3 e3 more
                        have hbp := bitsAt_pos src p3 e3 more
                        have hbb2 : 2 ^ more ≤ 2 ^ 13 := Nat.pow_le_pow_right (by decide) hdb.2
                        generalize hB : bitsAt src p3 e3 more = B at *
                        obtain ⟨bv, p4, e4⟩ := B
                        simp only [] at hS6 hbb hbp
                        have HB := Lib.hid hB
                        have HST : Hid (codedStep M D (usedL dist) src dict pj oj ej = (false, p4, (farS dict oj e4 (least + av) (near + bv)).1, (farS dict oj e4 (least + av) (near + bv)).2)) := by
                          unfold codedStep; rw [HSY.out]; simp only []; rw [if_pos h1, if_neg hk1, if_neg hk2, HLL.out, if_neg hl0, HA.out]; simp only []; rw [if_neg HN.out, if_neg HU.out, HD.out]; simp only []; rw [if_pos h3, HDL.out, if_neg hn0, HB.out]; exact rfl
                        have hbv : bv < 8192 := by omega
                        have hp4 := hS6.posn
                        clear hB hbb hbb2 hK6
                        go_wp2_with fail
                        refine (far_any hS6 (least + av) (near + bv) (by omega) (by omega) (by omega)).mono ?_; rintro r w7 ⟨rfl, hS7, hK7⟩
                        have hC7 := hC6.step hS6 hK7
                        have hm7 := hS7.meas src.length
                        go_wp2_with fail
                        go_roundw
                        case rel => exact ⟨p4, _, _, f, hS7, by rw [HR.out, codedGo_on f HE.out HST.out], fun _ => by omega, fun _ => HE0.out, hC7⟩
                        case measure => rw [hm7, HME.out]; split <;> omega
                    · have HST : Hid (codedStep M D (usedL dist) src dict pj oj ej = (true, p3, oj, e3)) := by
                        unfold codedStep; rw [HSY.out]; simp only []; rw [if_pos h1, if_neg hk1, if_neg hk2, HLL.out, if_neg hl0, HA.out]; simp only []; rw [if_neg HN.out, if_neg HU.out, HD.out]; simp only []; rw [if_neg h3]; exact rfl
                      go_wp2_with fail
                      refine (on_no hS5 (by omega)).mono ?_; rintro r w6 ⟨rfl, rfl⟩
                      go_wp2_with fail
                      go_returns
                      exact ⟨rfl, by rw [HRe.out, HR.out, codedGo_ret f HE.out HST.out]; exact hS5, hC5.keep⟩
              · refine (on_no hS4 h2).mono ?_; rintro r w5 ⟨rfl, rfl⟩
                have HN := Lib.hid (show ¬ (e2 < 0 ∧ k = 284 ∧ least + av = 258) from fun h => h2 h.1)
                by_cases hu : usedL dist = 0
                · have HST : Hid (codedStep M D (usedL dist) src dict pj oj ej = (true, p2, oj, stopE e2 0)) := by
                    unfold codedStep; rw [HSY.out]; simp only []; rw [if_pos h1, if_neg hk1, if_neg hk2, HLL.out, if_neg hl0, HA.out]; simp only []; rw [if_neg HN.out, if_pos hu]; exact rfl
                  have t5 : ((usedL dist : Int) == 0) = true := beq_iff_eq.2 (by omega)
                  have HU := Lib.hid hu
                  clear hu
                  go_wp2_with fail
                  refine (used_any _ dist _ hC4.r (by omega)).mono ?_; rintro r w5 ⟨rfl, rfl⟩
                  go_wp2_with fail
                  refine (stop_any hS4 0 (by omega) (by omega)).mono ?_; rintro r w5 ⟨rfl, hS5, hK5⟩
                  go_wp2_with fail
                  go_returns
                  exact ⟨rfl, by rw [HRe.out, HR.out, codedGo_ret f HE.out HST.out]; exact hS5, hC4.keep.trans hK5⟩
                · have t5 : ((usedL dist : Int) == 0) = false := beq_eq_false_iff_ne.2 (by omega)
                  have HU := Lib.hid hu
                  clear hu
                  go_wp2_with fail
                  refine (used_any _ dist _ hC4.r (by omega)).mono ?_; rintro r w5 ⟨rfl, rfl⟩
                  go_wp2_with fail
                  refine (symbol_any hS4 hC4.d (HD2L.out HU.out) hDL).mono ?_; rintro r w5 ⟨rfl, hS5, hK5⟩
                  have hC5 := hC4.step hS4 hK5
                  have hdB := symS_lt (src := src) HM2.out (by omega) p2 e2
                  generalize hdd : symS D src p2 e2 = s at *
                  obtain ⟨d, p3, e3⟩ := s
                  simp only [] at hS5 hdB
                  have HD := Lib.hid hdd
                  clear hdd hK5
                  by_cases h3 : e3 < 0
                  · have hp23 := @symS_pos D src p2 e2 (by rw [HD.out]; exact h3)
                    rw [HD.out] at hp23
                    simp only [] at hp23
                    have hdb := distanceL_bd d
                    go_wp2_with fail
                    refine (on_yes hS5 h3).mono ?_; rintro r w6 ⟨rfl, rfl⟩
                    go_wp2_with fail
                    refine (distance_any d _ (by omega)).mono ?_; rintro r w6 ⟨rfl, rfl⟩
                    generalize hdl : distanceL d = L at *
                    obtain ⟨near, more⟩ := L
                    simp only [] at hdb
                    have HDL := Lib.hid hdl
                    clear hdl
                    by_cases hn0 : near = 0
                    · have HST : Hid (codedStep M D (usedL dist) src dict pj oj ej = (true, p3, oj, 2)) := by
                        unfold codedStep; rw [HSY.out]; simp only []; rw [if_pos h1, if_neg hk1, if_neg hk2, HLL.out, if_neg hl0, HA.out]; simp only []; rw [if_neg HN.out, if_neg HU.out, HD.out]; simp only []; rw [if_pos h3, HDL.out, if_pos hn0]; exact rfl
                      have t6 : ((near : Int) == 0) = true := beq_iff_eq.2 (by omega)
                      have hst3 : stopE e3 2 = 2 := if_pos h3
                      clear hn0
                      go_wp2_with fail
                      refine (stop_any hS5 2 (by omega) (by omega)).mono ?_; rintro r w6 ⟨rfl, hS6, hK6⟩
                      rw [hst3] at hS6
                      go_wp2_with fail
                      go_returns
                      exact ⟨rfl, by rw [HRe.out, HR.out, codedGo_ret f HE.out HST.out]; exact hS6, hC5.keep.trans hK6⟩
                    · have t6 : ((near : Int) == 0) = false := beq_eq_false_iff_ne.2 (by omega)
                      go_wp2_with fail
                      refine (bits_any hS5 more (by omega)).mono ?_; rintro r w6 ⟨rfl, hS6, hK6⟩
                      have hC6 := hC5.step hS5 hK6
                      have hbb := bitsAt_lt src p3 e3 more
                      have hbp := bitsAt_pos src p3 e3 more
                      have hbb2 : 2 ^ more ≤ 2 ^ 13 := Nat.pow_le_pow_right (by decide) hdb.2
                      generalize hB : bitsAt src p3 e3 more = B at *
                      obtain ⟨bv, p4, e4⟩ := B
                      simp only [] at hS6 hbb hbp
                      have HB := Lib.hid hB
                      have HST : Hid (codedStep M D (usedL dist) src dict pj oj ej = (false, p4, (farS dict oj e4 (least + av) (near + bv)).1, (farS dict oj e4 (least + av) (near + bv)).2)) := by
                        unfold codedStep; rw [HSY.out]; simp only []; rw [if_pos h1, if_neg hk1, if_neg hk2, HLL.out, if_neg hl0, HA.out]; simp only []; rw [if_neg HN.out, if_neg HU.out, HD.out]; simp only []; rw [if_pos h3, HDL.out, if_neg hn0, HB.out]; exact rfl
                      have hbv : bv < 8192 := by omega
                      have hp4 := hS6.posn
                      clear hB hbb hbb2 hK6
                      go_wp2_with fail
                      refine (far_any hS6 (least + av) (near + bv) (by omega) (by omega) (by omega)).mono ?_; rintro r w7 ⟨rfl, hS7, hK7⟩
                      have hC7 := hC6.step hS6 hK7
                      have hm7 := hS7.meas src.length
                      go_wp2_with fail
                      go_roundw
                      case rel => exact ⟨p4, _, _, f, hS7, by rw [HR.out, codedGo_on f HE.out HST.out], fun _ => by omega, fun _ => HE0.out, hC7⟩
                      case measure => rw [hm7, HME.out]; split <;> omega
                  · have HST : Hid (codedStep M D (usedL dist) src dict pj oj ej = (true, p3, oj, e3)) := by
                      unfold codedStep; rw [HSY.out]; simp only []; rw [if_pos h1, if_neg hk1, if_neg hk2, HLL.out, if_neg hl0, HA.out]; simp only []; rw [if_neg HN.out, if_neg HU.out, HD.out]; simp only []; rw [if_neg h3]; exact rfl
                    go_wp2_with fail
                    refine (on_no hS5 (by omega)).mono ?_; rintro r w6 ⟨rfl, rfl⟩
                    go_wp2_with fail
                    go_returns
                    exact ⟨rfl, by rw [HRe.out, HR.out, codedGo_ret f HE.out HST.out]; exact hS5, hC5.keep⟩
      · have HST : Hid (codedStep M D (usedL dist) src dict pj oj ej = (true, p1, oj, e1)) := by
          unfold codedStep; rw [HSY.out]; simp only []; rw [if_neg h1]; exact rfl
        go_wp2_with fail
        refine (on_no hS3 (by omega)).mono ?_; rintro r w4 ⟨rfl, rfl⟩
        go_wp2_with fail
        go_returns
        exact ⟨rfl, by rw [HRe.out, HR.out, codedGo_ret f he HST.out]; exact hS3, hC3.keep⟩
    · go_wp2_with fail
      refine (on_no hSj (by omega)).mono ?_; rintro r w3 ⟨rfl, rfl⟩
      go_wp2_with fail
      go_returns
      exact ⟨rfl, by rw [HRe.out, HR.out, codedGo_off f (by omega)]; exact hSj, hCj.keep⟩
end
end Go.Proofs.YtbbnibbdiiffkaaDoor

/- The theory of canonical codes: how many codes of each length, the first code of a length, the code of a symbol. -/
namespace Go.Proofs.YtbbnibbdiiffkaaDoor
open Go.RowKit

/-- How often a length stands in a list. -/
def cntL : List Nat → Nat → Nat
  | [], _ => 0
  | x :: l, n => (if x = n then 1 else 0) + cntL l n
def cnL (l : List Nat) (n : Nat) : Nat := if n = 0 then 0 else cntL l n
/-- The first code of a length, and the one behind the last. -/
def stL (l : List Nat) : Nat → Nat
  | 0 => 0
  | n + 1 => 2 * (stL l n + cnL l n)
def enL (l : List Nat) (n : Nat) : Nat := stL l n + cnL l n
/-- The code of the i-th symbol. -/
def rkL (l : List Nat) (i : Nat) : Nat := cntL (l.take i) (l.getD i 0)
def cdL (l : List Nat) (i : Nat) : Nat := stL l (l.getD i 0) + rkL l i

theorem stL_succ (l : List Nat) (n : Nat) : stL l (n + 1) = 2 * enL l n := rfl
theorem cntL_append (a b : List Nat) (n : Nat) : cntL (a ++ b) n = cntL a n + cntL b n := by
  induction a with
  | nil => simp [cntL]
  | cons x a ih => simp [cntL, ih, Nat.add_assoc]
theorem cntL_take (l : List Nat) (i : Nat) (h : i < l.length) (n : Nat) : cntL (l.take (i + 1)) n = cntL (l.take i) n + (if l.getD i 0 = n then 1 else 0) := by
  rw [take_snoc l i h, cntL_append]; simp [cntL]
theorem cntL_take_le (l : List Nat) (i n : Nat) : cntL (l.take i) n ≤ cntL l n := by
  conv => rhs; rw [← List.take_append_drop i l, cntL_append]
  exact Nat.le_add_right _ _
theorem cntL_take_mono (l : List Nat) (n : Nat) {i j : Nat} (h : i ≤ j) : cntL (l.take i) n ≤ cntL (l.take j) n := by
  have : l.take i = (l.take j).take i := by rw [List.take_take, Nat.min_eq_left h]
  rw [this]; exact cntL_take_le _ _ _
theorem rkL_lt (l : List Nat) (i : Nat) (h : i < l.length) : rkL l i < cntL l (l.getD i 0) := by
  have h1 := cntL_take l i h (l.getD i 0)
  have h2 := cntL_take_le l (i + 1) (l.getD i 0)
  rw [if_pos rfl] at h1
  unfold rkL; omega
theorem rkL_mono (l : List Nat) {i j : Nat} (h : i < j) (hj : j < l.length) (he : l.getD i 0 = l.getD j 0) : rkL l i < rkL l j := by
  have h1 := cntL_take l i (by omega) (l.getD i 0)
  have h2 := cntL_take_mono l (l.getD i 0) (show i + 1 ≤ j from h)
  rw [if_pos rfl] at h1
  unfold rkL; rw [← he]; omega

theorem enL_mono (l : List Nat) (n k : Nat) : enL l n * 2 ^ k ≤ enL l (n + k) := by
  induction k with
  | zero => simp
  | succ k ih =>
    have : enL l (n + (k + 1)) = 2 * enL l (n + k) + cnL l (n + k + 1) := rfl
    rw [this, Nat.pow_succ, ← Nat.mul_assoc]; omega
theorem stL_ge (l : List Nat) (n k : Nat) : enL l n * 2 ^ (k + 1) ≤ stL l (n + (k + 1)) := by
  have h := enL_mono l n k
  rw [show n + (k + 1) = (n + k) + 1 by omega, stL_succ, Nat.pow_succ, ← Nat.mul_assoc]; omega
theorem cdL_lt (l : List Nat) (i : Nat) (h : i < l.length) (h0 : 0 < l.getD i 0) : cdL l i < enL l (l.getD i 0) := by
  have := rkL_lt l i h
  unfold cdL enL cnL; rw [if_neg (by omega)]; omega
/-- A shorter code stands ahead of a longer one, and is no beginning of it. -/
theorem cdL_order (l : List Nat) {i j : Nat} (hi : i < l.length) (h0 : 0 < l.getD i 0) (hlt : l.getD i 0 < l.getD j 0) : (cdL l i + 1) * 2 ^ (l.getD j 0 - l.getD i 0) ≤ cdL l j := by
  have h1 := cdL_lt l i hi h0
  obtain ⟨k, hk⟩ : ∃ k, l.getD j 0 - l.getD i 0 = k + 1 := ⟨l.getD j 0 - l.getD i 0 - 1, by omega⟩
  have h2 := stL_ge l (l.getD i 0) k
  rw [show l.getD i 0 + (k + 1) = l.getD j 0 by omega] at h2
  have h3 : (cdL l i + 1) * 2 ^ (k + 1) ≤ enL l (l.getD i 0) * 2 ^ (k + 1) := Nat.mul_le_mul_right _ h1
  rw [hk]
  have : stL l (l.getD j 0) ≤ cdL l j := Nat.le_add_right _ _
  omega

/-- How the codes fill the room. -/
theorem enL_cons (x : Nat) (l : List Nat) (n : Nat) : enL (x :: l) n = enL l n + (if 0 < x ∧ x ≤ n then 2 ^ (n - x) else 0) := by
  induction n with
  | zero =>
    have h : ¬ (0 < x ∧ x ≤ 0) := by omega
    rw [if_neg h]; rfl
  | succ n ih =>
    have e1 : enL (x :: l) (n + 1) = 2 * enL (x :: l) n + ((if x = n + 1 then 1 else 0) + cntL l (n + 1)) := rfl
    have e2 : enL l (n + 1) = 2 * enL l n + cntL l (n + 1) := rfl
    rw [e1, e2, ih]
    by_cases h : 0 < x ∧ x ≤ n
    · rw [if_pos h, if_neg (by omega), if_pos ⟨h.1, by omega⟩, show n + 1 - x = (n - x) + 1 by omega, Nat.pow_succ]; omega
    · rw [if_neg h]
      by_cases h2 : x = n + 1
      · rw [if_pos h2, if_pos ⟨by omega, by omega⟩, show n + 1 - x = 0 by omega]; omega
      · rw [if_neg h2, if_neg (by omega)]; omega
theorem enL_nil (n : Nat) : enL [] n = 0 := by
  induction n with
  | zero => rfl
  | succ n ih => have : enL [] (n + 1) = 2 * enL [] n + 0 := rfl
                 rw [this, ih]
theorem roomL_en (l : List Nat) (h15 : ∀ x ∈ l, x ≤ 15) : roomL l = 32768 - (enL l 15 : Int) := by
  induction l with
  | nil => rw [enL_nil]; rfl
  | cons x l ih =>
    have hx := h15 x (List.mem_cons_self ..)
    rw [roomL, ih (fun y hy => h15 y (List.mem_cons_of_mem _ hy)), enL_cons]
    by_cases h0 : 0 < x
    · rw [if_pos h0, if_pos ⟨h0, hx⟩]
      have : ((2 ^ (15 - x) : Nat) : Int) = 2 ^ (15 - x) := by simp
      omega
    · rw [if_neg h0, if_neg (by omega)]; omega
theorem en_le (l : List Nat) (h : enL l 15 ≤ 32768) (n : Nat) (hn : n ≤ 15) : enL l n ≤ 2 ^ n := by
  have h1 := enL_mono l n (15 - n)
  rw [show n + (15 - n) = 15 by omega] at h1
  have h2 : (2 : Nat) ^ n * 2 ^ (15 - n) = 32768 := by rw [← Nat.pow_add, show n + (15 - n) = 15 by omega]
  have h3 : 0 < 2 ^ (15 - n) := Nat.two_pow_pos _
  exact Nat.le_of_mul_le_mul_right (by omega) h3

/-- The reference's codes are these. -/
theorem codesIn_eq (l : List Nat) (n : Nat) (s : List Nat × Nat) (hs : s.1.length = l.length) : ∀ k, k ≤ l.length →
    (codesIn l n s k).2 = s.2 + cntL (l.take k) n ∧ (codesIn l n s k).1.length = l.length ∧ ∀ i, i < l.length → (codesIn l n s k).1.getD i 0 = if i < k ∧ l.getD i 0 = n then s.2 + rkL l i else s.1.getD i 0 := by
  intro k
  induction k with
  | zero => intro _; exact ⟨by simp [codesIn, cntL], hs, fun i _ => by rw [if_neg (by omega)]; rfl⟩
  | succ k ih =>
    intro hk
    obtain ⟨q1, q2, q3⟩ := ih (by omega)
    have ht := cntL_take l k (by omega) n
    rw [codesIn]
    by_cases h : l.getD k 0 = n
    · rw [if_pos h]
      rw [if_pos h] at ht
      refine ⟨by simp only []; omega, by simp only [List.length_set]; exact q2, fun i hi => ?_⟩
      simp only []
      by_cases hik : i = k
      · subst hik
        rw [if_pos ⟨by omega, h⟩, List.getD_eq_getElem?_getD, List.getElem?_set_self (by omega), q1]
        unfold rkL; rw [h]; rfl
      · rw [List.getD_eq_getElem?_getD, List.getElem?_set_ne (fun e => hik e.symm), ← List.getD_eq_getElem?_getD, q3 i hi]
        by_cases h2 : i < k ∧ l.getD i 0 = n
        · rw [if_pos h2, if_pos ⟨by omega, h2.2⟩]
        · rw [if_neg h2, if_neg (fun e => h2 ⟨by omega, e.2⟩)]
    · rw [if_neg h]
      rw [if_neg h] at ht
      refine ⟨by omega, q2, fun i hi => ?_⟩
      rw [q3 i hi]
      by_cases h2 : i < k ∧ l.getD i 0 = n
      · rw [if_pos h2, if_pos ⟨by omega, h2.2⟩]
      · rw [if_neg h2, if_neg (fun e => h2 ⟨by rcases Nat.lt_or_ge i k with q | q
                                               · exact q
                                               · exact absurd (show l.getD k 0 = n by rw [show k = i by omega]; exact e.2) h, e.2⟩)]
theorem codesOut_eq (l : List Nat) (n : Nat) : (codesOut l n).2 = enL l n ∧ (codesOut l n).1.length = l.length ∧ ∀ i, i < l.length → (codesOut l n).1.getD i 0 = if 0 < l.getD i 0 ∧ l.getD i 0 ≤ n then cdL l i else 0 := by
  induction n with
  | zero =>
    refine ⟨rfl, by simp [codesOut], fun i hi => ?_⟩
    rw [if_neg (by omega)]
    simp [codesOut, List.getD_eq_getElem?_getD, hi]
  | succ n ih =>
    obtain ⟨q1, q2, q3⟩ := ih
    obtain ⟨r1, r2, r3⟩ := codesIn_eq l (n + 1) ((codesOut l n).1, 2 * (codesOut l n).2) q2 l.length (Nat.le_refl _)
    have e : codesOut l (n + 1) = codesIn l (n + 1) ((codesOut l n).1, 2 * (codesOut l n).2) l.length := rfl
    rw [e]
    refine ⟨?_, r2, fun i hi => ?_⟩
    · rw [r1, List.take_length, q1]; rfl
    · rw [r3 i hi]
      by_cases h : l.getD i 0 = n + 1
      · rw [if_pos ⟨hi, h⟩, if_pos (by omega)]
        simp only [q1]
        unfold cdL; rw [h]; rfl
      · rw [if_neg (fun e => h e.2), q3 i hi]
        by_cases h2 : 0 < l.getD i 0 ∧ l.getD i 0 ≤ n
        · rw [if_pos h2, if_pos ⟨h2.1, by omega⟩]
        · rw [if_neg h2, if_neg (by omega)]
theorem codesL_get (l : List Nat) (i : Nat) (hi : i < l.length) (h0 : 0 < l.getD i 0) (h15 : l.getD i 0 ≤ 15) : (codesL l).getD i 0 = cdL l i := by
  have := (codesOut_eq l 15).2.2 i hi
  unfold codesL; rw [this, if_pos ⟨h0, h15⟩]
end Go.Proofs.YtbbnibbdiiffkaaDoor

/- The book of codes: what stands in it. -/
namespace Go.Proofs.YtbbnibbdiiffkaaDoor
open Go.RowKit

theorem mGet_append (M : List (Nat × Nat)) (k v q : Nat) : mGet (M ++ [(k, v)]) q = (mGet M q).or (if k = q then some v else none) := by
  unfold mGet
  rw [List.find?_append]
  cases h : M.find? (fun x => x.1 == q) with
  | some x => simp
  | none =>
    by_cases hk : k = q
    · simp [hk]
    · simp [hk]
theorem mIdx_none {M : List (Nat × Nat)} {k : Nat} (h : mIdx M k = none) : mGet M k = none := by
  rw [mGet_idx, h]; rfl
theorem mGet_none {M : List (Nat × Nat)} {k : Nat} (h : mGet M k = none) : mIdx M k = none := by
  rw [mGet_idx] at h
  cases hi : mIdx M k with
  | none => rfl
  | some j => rw [hi] at h; cases h
theorem mPut_new {M : List (Nat × Nat)} {k v : Nat} (h : mGet M k = none) : mPut M k v = M ++ [(k, v)] := by
  unfold mPut; rw [mGet_none h]

/-- The key of a symbol's code. -/
def keyL (l : List Nat) (i : Nat) : Nat := 2 ^ l.getD i 0 + cdL l i
theorem cdL_lt2 (l : List Nat) (hr : enL l 15 ≤ 32768) (i : Nat) (hi : i < l.length) (h0 : 0 < l.getD i 0) (h15 : l.getD i 0 ≤ 15) : cdL l i < 2 ^ l.getD i 0 :=
  Nat.lt_of_lt_of_le (cdL_lt l i hi h0) (en_le l hr _ h15)
theorem pow_mono' {a b : Nat} (h : a < b) : 2 ^ a * 2 ≤ 2 ^ b := by
  rw [← Nat.pow_succ]; exact Nat.pow_le_pow_right (by decide) h
/-- A code with its 1 ahead tells its length. -/
theorem key_len {a b x y : Nat} (hx : x < 2 ^ a) (hy : y < 2 ^ b) (h : 2 ^ a + x = 2 ^ b + y) : a = b ∧ x = y := by
  rcases Nat.lt_trichotomy a b with q | q | q
  · have := pow_mono' q; omega
  · subst q; exact ⟨rfl, by omega⟩
  · have := pow_mono' q; omega
theorem cdL_inj (l : List Nat) {i j : Nat} (hi : i < l.length) (hj : j < l.length) (he : l.getD i 0 = l.getD j 0) (hc : cdL l i = cdL l j) : i = j := by
  rcases Nat.lt_trichotomy i j with q | q | q
  · have := rkL_mono l q hj he
    unfold cdL at hc; rw [he] at hc; omega
  · exact q
  · have := rkL_mono l q hi he.symm
    unfold cdL at hc; rw [he] at hc; omega

section
variable {l : List Nat} (h15 : ∀ x ∈ l, x ≤ 15) (hr : enL l 15 ≤ 32768)
include h15 hr
theorem key_inj {i j : Nat} (hi : i < l.length) (hj : j < l.length) (h0 : 0 < l.getD i 0) (h0' : 0 < l.getD j 0) (h : keyL l i = keyL l j) : i = j := by
  obtain ⟨e1, e2⟩ := key_len (cdL_lt2 l hr i hi h0 (h15 _ (getD_lt hi))) (cdL_lt2 l hr j hj h0' (h15 _ (getD_lt hj))) h
  exact cdL_inj l hi hj e1 e2
theorem bookKey {i : Nat} (hi : i < l.length) (h0 : 0 < l.getD i 0) : 2 ^ l.getD i 0 ||| (codesL l).getD i 0 = keyL l i := by
  have hb := h15 _ (getD_lt hi)
  rw [codesL_get l i hi h0 hb]
  have := or_add 1 (cdL l i) (l.getD i 0) (cdL_lt2 l hr i hi h0 hb)
  rw [Nat.one_mul] at this
  exact this
/-- What stands in the book. -/
theorem bookGo_get : ∀ k, k ≤ l.length → ∀ q v, mGet (bookGo l k) q = some v ↔ v < k ∧ 0 < l.getD v 0 ∧ keyL l v = q := by
  intro k
  induction k with
  | zero => intro _ q v; simp [bookGo, mGet]
  | succ k ih =>
    intro hk q v
    have ih' := ih (by omega)
    rw [bookGo]
    by_cases h0 : 0 < l.getD k 0
    · rw [if_pos h0, bookKey h15 hr (by omega) h0]
      have hnone : mGet (bookGo l k) (keyL l k) = none := by
        cases hg : mGet (bookGo l k) (keyL l k) with
        | none => rfl
        | some v =>
          obtain ⟨q1, q2, q3⟩ := (ih' _ _).1 hg
          have := key_inj h15 hr (by omega) (by omega) q2 h0 q3
          omega
      rw [mPut_new hnone, mGet_append]
      by_cases hq : keyL l k = q
      · subst hq
        rw [hnone, if_pos rfl]
        simp only [Option.none_or, Option.some.injEq]
        constructor
        · rintro rfl; exact ⟨Nat.lt_succ_self _, h0, rfl⟩
        · rintro ⟨h1, h2, h3⟩; exact (key_inj h15 hr (by omega) (by omega) h2 h0 h3).symm
      · rw [if_neg hq, Option.or_none, ih']
        constructor
        · rintro ⟨h1, h2, h3⟩; exact ⟨by omega, h2, h3⟩
        · rintro ⟨h1, h2, h3⟩
          refine ⟨?_, h2, h3⟩
          rcases Nat.lt_or_ge v k with r | r
          · exact r
          · exact absurd (show keyL l k = q by rw [show k = v by omega]; exact h3) hq
    · rw [if_neg h0, ih']
      constructor
      · rintro ⟨h1, h2, h3⟩; exact ⟨by omega, h2, h3⟩
      · rintro ⟨h1, h2, h3⟩
        refine ⟨?_, h2, h3⟩
        rcases Nat.lt_or_ge v k with r | r
        · exact r
        · exact absurd (show 0 < l.getD k 0 by rw [show k = v by omega]; exact h2) h0
theorem bookL_get (q v : Nat) : mGet (bookL l) q = some v ↔ v < l.length ∧ 0 < l.getD v 0 ∧ keyL l v = q := bookGo_get h15 hr l.length (Nat.le_refl _) q v
theorem bookGo_used : ∀ k, k ≤ l.length → (bookGo l k).length = usedL (l.take k) := by
  intro k
  induction k with
  | zero => intro _; rfl
  | succ k ih =>
    intro hk
    rw [bookGo, take_snoc l k (by omega), usedL_snoc, ← ih (by omega)]
    by_cases h0 : 0 < l.getD k 0
    · rw [if_pos h0, if_pos h0, bookKey h15 hr (by omega) h0]
      have hnone : mGet (bookGo l k) (keyL l k) = none := by
        cases hg : mGet (bookGo l k) (keyL l k) with
        | none => rfl
        | some v =>
          obtain ⟨q1, q2, q3⟩ := (bookGo_get h15 hr k (by omega) _ _).1 hg
          have := key_inj h15 hr (by omega) (by omega) q2 h0 q3
          omega
      rw [mPut_new hnone]; simp
    · rw [if_neg h0, if_neg h0]; rfl
theorem bookL_used : (bookL l).length = usedL l := by
  have := bookGo_used h15 hr l.length (Nat.le_refl _)
  rw [List.take_length] at this; exact this
end
theorem used_zero (l : List Nat) (h : usedL l = 0) : roomL l = 32768 ∧ ∀ y ∈ l, y = 0 := by
  induction l with
  | nil => exact ⟨rfl, fun y hy => by cases hy⟩
  | cons x l ih =>
    rw [usedL] at h
    by_cases h0 : 0 < x
    · rw [if_pos h0] at h; omega
    · rw [if_neg h0, Nat.zero_add] at h
      obtain ⟨q1, q2⟩ := ih h
      refine ⟨by rw [roomL, if_neg h0, q1]; rfl, fun y hy => ?_⟩
      rcases List.mem_cons.1 hy with rfl | hy
      · omega
      · exact q2 y hy
theorem used_one (l : List Nat) (h : usedL l = 1) : ∃ x, 0 < x ∧ roomL l = 32768 - 2 ^ (15 - x) ∧ ∀ y ∈ l, y = 0 ∨ y = x := by
  induction l with
  | nil => cases h
  | cons x l ih =>
    rw [usedL] at h
    by_cases h0 : 0 < x
    · rw [if_pos h0] at h
      obtain ⟨q1, q2⟩ := used_zero l (by omega)
      refine ⟨x, h0, by rw [roomL, if_pos h0, q1], fun y hy => ?_⟩
      rcases List.mem_cons.1 hy with rfl | hy
      · exact .inr rfl
      · exact .inl (q2 y hy)
    · rw [if_neg h0, Nat.zero_add] at h
      obtain ⟨x', q0, q1, q2⟩ := ih h
      refine ⟨x', q0, by rw [roomL, if_neg h0, q1]; omega, fun y hy => ?_⟩
      rcases List.mem_cons.1 hy with rfl | hy
      · exact .inl (by omega)
      · exact q2 y hy
theorem room_used (l : List Nat) : (32768 : Int) - 16384 * usedL l ≤ roomL l := by
  induction l with
  | nil => simp [usedL, roomL]
  | cons x l ih =>
    rw [usedL, roomL]
    by_cases h0 : 0 < x
    · rw [if_pos h0, if_pos h0]
      have h1 : 2 ^ (15 - x) ≤ 2 ^ 14 := Nat.pow_le_pow_right (by decide) (by omega)
      have h2 : ((2 ^ (15 - x) : Nat) : Int) = 2 ^ (15 - x) := by simp
      omega
    · rw [if_neg h0, if_neg h0]; omega
theorem book_two {l : List Nat} (h15 : ∀ x ∈ l, x ≤ 15) (hr : roomL l = 0) : 2 ≤ (bookL l).length := by
  have h1 := roomL_en l h15
  rw [bookL_used h15 (by omega)]
  have := room_used l
  omega
theorem pow_inj15 {x : Nat} (h0 : 0 < x) (h : (2 : Nat) ^ (15 - x) = 16384) : x = 1 := by
  rcases Nat.lt_or_ge x 2 with q | q
  · omega
  · have : (2 : Nat) ^ (15 - x) ≤ 2 ^ 13 := Nat.pow_le_pow_right (by decide) (by omega)
    omega
theorem book_one {l : List Nat} (hu : usedL l = 1) (hr : roomL l = 16384) : ∃ v, bookL l = [(2, v)] := by
  obtain ⟨x, h0, hx, hy⟩ := used_one l hu
  have h2 : ((2 ^ (15 - x) : Nat) : Int) = 2 ^ (15 - x) := by simp
  obtain rfl : x = 1 := pow_inj15 h0 (by omega)
  have h15 : ∀ y ∈ l, y ≤ 15 := fun y h => by rcases hy y h with q | q <;> omega
  have he := roomL_en l h15
  have hl := bookL_used h15 (by omega)
  rw [hu] at hl
  obtain ⟨⟨k, v⟩, hkv⟩ := List.length_eq_one_iff.1 hl
  refine ⟨v, ?_⟩
  have hg : mGet (bookL l) k = some v := by rw [hkv]; simp [mGet]
  obtain ⟨q1, q2, q3⟩ := (bookL_get h15 (by omega) k v).1 hg
  have hv1 : l.getD v 0 = 1 := by rcases hy _ (getD_lt q1) with q | q <;> omega
  have hc := cdL_lt l v q1 q2
  have hm := enL_mono l 1 14
  rw [hv1] at hc
  have hp : (2 : Nat) ^ 14 = 16384 := by decide
  rw [hp, show 1 + 14 = 15 from rfl] at hm
  have hc0 : cdL l v = 0 := by omega
  unfold keyL at q3
  rw [hv1, hc0] at q3
  rw [hkv, ← q3]
end Go.Proofs.YtbbnibbdiiffkaaDoor

/- Plain laws of the reference's books and lengths. -/
namespace Go.Proofs.YtbbnibbdiiffkaaDoor
open Go.RowKit

theorem manyE_lt {e : Int} {a m : Nat} (h : manyE e a m < 0) : a ≤ m := by
  unfold manyE at h
  split at h
  · omega
  · omega
theorem manyE_lt' {e : Int} {a m : Nat} (h : manyE e a m < 0) : e < 0 := by
  unfold manyE at h
  split at h <;> omega
theorem told_len {M : List (Nat × Nat)} {src : List Nat} {many : Nat} : ∀ f l p e, many < f + l.length → l.length ≤ many → (toldGo M src many f l p e).2.2 < 0 → (toldGo M src many f l p e).1.length = many := by
  intro f
  induction f with
  | zero => intro l p e h1 h2 h3; simp [toldGo] at *; omega
  | succ f ih =>
    intro l p e h1 h2 h3
    by_cases hc : l.length < many ∧ e < 0
    · rcases hs : symS M src p e with ⟨k, p1, e1⟩
      by_cases h4 : e1 < 0
      · by_cases h5 : k = 16 ∧ l.length = 0
        · rw [toldGo_bad f hc.1 hc.2 hs h4 h5] at h3; simp at h3
        · rcases hr : repS src l k p1 e1 with ⟨n, v, p2, e2⟩
          have hbd := repS_bd src l k p1 e1
          rw [hr] at hbd
          simp only [] at hbd
          rw [toldGo_rep f hc.1 hc.2 hs h4 h5 hr] at h3 ⊢
          by_cases h6 : manyE e2 (l.length + n) many < 0
          · exact ih _ _ _ (by simp; omega) (by simp; exact manyE_lt h6) h3
          · rw [toldGo_end _ (by simp; omega)] at h3
            exact absurd h3 h6
      · rw [toldGo_off f hc.1 hc.2 hs h4] at h3; exact absurd h3 h4
    · rw [toldGo_end _ hc] at h3 ⊢
      simp only [] at h3 ⊢
      omega
theorem repS_15 {src l : List Nat} {k p : Nat} {e : Int} (hk : k < 19) (hl : ∀ x ∈ l, x ≤ 15) (hne : ¬ (k = 16 ∧ l.length = 0)) : (repS src l k p e).2.1 ≤ 15 := by
  unfold repS
  split
  · exact hl _ (getD_lt (by omega))
  · split
    · simp
    · split
      · simp
      · simp; omega
theorem told_15 {M : List (Nat × Nat)} {src : List Nat} {many : Nat} (hM : ∀ x ∈ M, x.2 < 19) : ∀ f l p e, (∀ x ∈ l, x ≤ 15) → ∀ x ∈ (toldGo M src many f l p e).1, x ≤ 15 := by
  intro f
  induction f with
  | zero => intro l p e h; exact h
  | succ f ih =>
    intro l p e h
    by_cases hc : l.length < many ∧ e < 0
    · rcases hs : symS M src p e with ⟨k, p1, e1⟩
      by_cases h4 : e1 < 0
      · by_cases h5 : k = 16 ∧ l.length = 0
        · rw [toldGo_bad f hc.1 hc.2 hs h4 h5]; exact h
        · rcases hr : repS src l k p1 e1 with ⟨n, v, p2, e2⟩
          have hk : k < 19 := by have := symS_lt (src := src) hM (by omega) p e; rw [hs] at this; exact this
          have hv := repS_15 (src := src) (p := p1) (e := e1) hk h h5
          rw [hr] at hv
          rw [toldGo_rep f hc.1 hc.2 hs h4 h5 hr]
          refine ih _ _ _ fun x hx => ?_
          rcases List.mem_append.1 hx with hx | hx
          · exact h x hx
          · rw [List.eq_of_mem_replicate hx]; exact hv
      · rw [toldGo_off f hc.1 hc.2 hs h4]; exact h
    · rw [toldGo_end _ hc]; exact h
theorem toldS_len {M : List (Nat × Nat)} {src : List Nat} {many p : Nat} {e : Int} (h : (toldS M src many p e).2.2 < 0) : (toldS M src many p e).1.length = many :=
  told_len (many + 1) [] p e (by simp) (by simp) h
theorem toldS_15 {l : List Nat} {src : List Nat} {many p : Nat} {e : Int} (hl : l.length ≤ 19) : ∀ x ∈ (toldS (bookL l) src many p e).1, x ≤ 15 :=
  told_15 (fun x hx => Nat.lt_of_lt_of_le (bookL_lt l x hx) hl) (many + 1) [] p e (fun x hx => by simp at hx)
theorem wholeE_lt {e : Int} {l : List Nat} (h : wholeE e l < 0) : e < 0 ∧ roomL l = 0 := by
  unfold wholeE stopE at h
  split at h
  · split at h <;> omega
  · split at h
    · split at h <;> omega
    · exact ⟨h, by omega⟩
theorem stopE_off {e : Int} (h : ¬ e < 0) (k : Int) : stopE e k = e := if_neg h
theorem wholeE_off {e : Int} (h : ¬ e < 0) (l : List Nat) : wholeE e l = e := by
  unfold wholeE; rw [stopE_off h, stopE_off h]; split <;> (try split) <;> rfl

end Go.Proofs.YtbbnibbdiiffkaaDoor
