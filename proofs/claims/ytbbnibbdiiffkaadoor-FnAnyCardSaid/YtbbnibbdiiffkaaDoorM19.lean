/- The next block: the walk. The decoder's steps in plain words: what every step keeps, whatever the source says. -/
import Derived.Test.YtbbnibbdiiffkaaDoorM12
import Derived.Test.YtbbnibbdiiffkaaDoorM13
import Derived.Test.YtbbnibbdiiffkaaDoorM18

/- The next block: the walk. -/
namespace Go.Proofs.YtbbnibbdiiffkaaDoor
open Go.RowKit

theorem nbArith {b nb : Nat} (hb : b < 2 ^ 32) (hn : 3 ≤ nb) (hn24 : nb ≤ 24) : ∃ f q1 t q n2 : Nat, b % 2 = f ∧ b / 2 = q1 ∧ q1 % 4 = t ∧ q1 / 4 = q ∧ b / 8 = q ∧ nb - 3 = n2 ∧ q1 < 2 ^ 32 ∧ q < 2 ^ 32 ∧ n2 ≤ 24 ∧ f ≤ 1 ∧ (t = 0 ∨ t = 1 ∨ t = 2 ∨ t = 3) ∧
    bits .and .u32 (b : Int) 1 = (f : Int) ∧ (b : Int) / 2 = (q1 : Int) ∧ bits .and .u32 (q1 : Int) 3 = (t : Int) ∧ (q1 : Int) / 4 = (q : Int) ∧ IntKind.u64.wrap ((nb : Int) - 3) = (n2 : Int) ∧ (nb : Int) - 3 = (n2 : Int) := by
  have a1 : bits .and .u32 (b : Int) 1 = ((b % 2 : Nat) : Int) := by
    have := and_u32 b 1 hb (by decide)
    rw [show ((1 : Nat) : Int) = 1 from rfl] at this
    rw [this, show (1 : Nat) = 2 ^ 1 - 1 from rfl, and_mask]
  have a3 : ∀ {b : Nat}, b < 2 ^ 32 → bits .and .u32 (b : Int) 3 = ((b % 4 : Nat) : Int) := fun {b} hb => by
    have := and_u32 b 3 hb (by decide)
    rw [show ((3 : Nat) : Int) = 3 from rfl] at this
    rw [this, show (3 : Nat) = 2 ^ 2 - 1 from rfl, and_mask]
  refine ⟨_, _, _, _, _, rfl, rfl, rfl, rfl, by omega, rfl, by omega, by omega, by omega, by omega, by omega, a1, by omega, a3 (by omega), by omega, ?_, by omega⟩
  rw [IntKind.wrap_u64]; omega

section
variable {I : Ids} {E : Errs} {src : List Nat} {srcV : Value} {w w' wz : World} {cs : Array Value} {s : DS}
theorem New.imp (h : New w w') : Imp I w w' := h.mono fun _ _ e => e.elim
theorem Dec.new (h : Dec I E src srcV w cs s) (hf : New w w') : Dec I E src srcV w' cs s :=
  h.reF s (by rw [hf.block _ (lt_of_block h.bF) id]; exact h.bF) h.fc (hf.mono fun _ _ e => e.elim) rfl (h.links hf.imp h.lk1) (h.links hf.imp h.lk2) rfl rfl rfl rfl rfl rfl rfl rfl rfl rfl rfl rfl
/-- The table that is at hand is another. -/
theorem Dec.set_hlx (h : Dec I E src srcV w cs s) (x : Value) (t : HD) (hx : ∀ X, x = .pointer (some ⟨X, 0, none⟩) → ∃ c lv, w.heap[X]? = some (.cells c 54 (0, 0)) ∧ HDC c 0 t lv ∧ LinksAt w lv t.links) :
    Dec I E src srcV (w.setCell ⟨I.F, 1050, none⟩ x) (cs.setIfInBounds 1050 x) { s with hl := x, hx := t } := by
  have c := h.fc.set_hl x
  exact h.setF 1050 x { s with hl := x, hx := t } ⟨c.size, c.r, c.pb, c.pc, c.hist, c.ro, c.b, c.nb, c.wr, c.rd, c.full, c.step, c.st, c.final, c.err, c.tr, c.hl, c.hd, c.len, c.dist, c.h1, c.h2, c.buf⟩ rfl rfl rfl rfl rfl
    (fun X hX => by obtain ⟨c, lv, h1, h2, h3⟩ := hx X hX; exact ⟨c, lv, by rw [heap_setCell_other _ _ _ _ (fun e => absurd h1 (by rw [show X = I.F from e, h.bF]; intro f; cases f))]; exact h1, h2, h.links (Imp.setF I w _ _) h3⟩) rfl rfl rfl h.b32 h.nb32 h.ro h.wr h.rd h.dlen h.ddist
/-- The pointer to the table is another, and points into the decoder. -/
theorem Dec.set_hlF (h : Dec I E src srcV w cs s) (o : Nat) (ho : o ≠ 0) :
    Dec I E src srcV (w.setCell ⟨I.F, 1050, none⟩ (.pointer (some ⟨I.F, o, none⟩))) (cs.setIfInBounds 1050 (.pointer (some ⟨I.F, o, none⟩))) { s with hl := .pointer (some ⟨I.F, o, none⟩) } :=
  h.set_hl _ fun X hX => by
    simp only [Value.pointer.injEq, Option.some.injEq, Addr.mk.injEq] at hX
    exact absurd hX.2.1 ho
theorem DS.err_same {s : DS} {v : Value} (h : s.err = v) : ({ s with err := v } : DS) = s := by subst h; rfl
/-- What nextBlock leaves. -/
def NbPost (I : Ids) (E : Errs) (src : List Nat) (srcV : Value) (w : World) (s : DS) (r : Ending) (w' : World) : Prop :=
  r = .returned (.tuple #[]) ∧ Imp I w w' ∧ ∃ X la lb c', Dec I E src srcV w' c' (nextS I E src X la lb s) ∧
    ((need src 3 4 s).1 = true → (need src 3 4 s).2.b / 2 % 4 = 2 → (rhS E src (hdS (need src 3 4 s).2)).1 = .nilIface → RK ((rhS E src (hdS (need src 3 4 s).2)).2.ln la lb))
set_option maxRecDepth 100000 in
set_option maxHeartbeats 8000000 in
theorem nextBlock_any (hD : Dec I E src srcV w cs s) (hk : RK s) (herr : s.err = .nilIface) (hst : s.st = 0 ∨ s.st = 1) (hds : s.st = 1 → 1 ≤ s.dist) (ts : Tidy srcV) (hw : s.wr < 32768) (hr : s.rd ≤ s.wr) :
    Calls Tryd.prog 14 #[.pointer (some ⟨I.F, 0, none⟩)] w (NbPost I E src srcV w s) := by
  obtain ⟨N, hN⟩ : ∃ N, N = need src 3 4 s := ⟨_, rfl⟩
  obtain ⟨hkN, ⟨k0, ro0, b0, nb0, heN⟩, hn3⟩ := hk.need hD.kle (Lib.hid hN) (by decide)
  have HP : Hid (∀ w', Imp I w w' → (∃ X la lb c', Dec I E src srcV w' c' (if N.1 then nextT I E src X la lb (N.2.b / 2 % 4) (hdS N.2) else { N.2 with err := E.uneV }) ∧
    (N.1 = true → N.2.b / 2 % 4 = 2 → (rhS E src (hdS N.2)).1 = .nilIface → RK ((rhS E src (hdS N.2)).2.ln la lb))) → NbPost I E src srcV w s (.returned (.tuple #[])) w') := Lib.hid (by
      intro w' hi h
      subst hN
      exact ⟨rfl, hi, h⟩)
  have hnb := hk.nb
  have hle := hD.kle
  have HEN := Lib.hid heN
  have HKN := Lib.hid hkN
  have HN3 := Lib.hid hn3
  have HN := Lib.hid hN
  have HST := Lib.hid (And.intro hst hds)
  have HWR := Lib.hid (And.intro hw hr)
  have HBK := Lib.hid (And.intro hD.blen hkN.bits)
  clear hkN heN hn3 hk hst hds hw hr hN
  generalize NbPost I E src srcV w s = Post at *
  go_enter Tryd.func14, Tryd.ntmps14
  go_wp2_with fail
  go_loopw [] (fun wr => ∃ (g : Nat) (s' : DS) (c' : Array Value), Dec I E src srcV wr c' s' ∧ Imp I w wr ∧ Near src s s' ∧ s'.nb ≤ 24 ∧ s'.err = .nilIface ∧ Hid (N = need src 3 g s') ∧ Hid (3 ≤ s'.nb + 8 * g)) (fun wr => 40 - nbW I wr)
  case atStart => exact ⟨4, s, _, hD, Frm.refl _ _, .refl hle, hnb, herr, HN, Lib.hid (by omega)⟩
  case round =>
    obtain ⟨g, s', c', hD4, f4, hne, hnb, he4, HNg, HG⟩ := hrel
    clear hD HN herr
    have cnb := hD4.c_nb
    have cr := hD4.c_r
    by_cases hlt : s'.nb < 3
    · have y2 : (s'.nb : Int) < 3 := by omega
      obtain ⟨g, rfl⟩ : ∃ g', g = g' + 1 := ⟨g - 1, by have := HG.out; omega⟩
      have hmb := moreBits_any hD4 hnb
      by_cases hk : s'.k < src.length
      · have hE : moreB src E s' = (.nilIface, { s' with k := s'.k + 1, ro := s'.ro + 1, b := s'.b ||| src.getD s'.k 0 * 2 ^ s'.nb, nb := s'.nb + 8 }) := if_pos hk
        rw [hE] at hmb; clear hE
        have hne2 := hne.step hk
        have HN5 : Hid (N = need src 3 g { s' with k := s'.k + 1, ro := s'.ro + 1, b := s'.b ||| src.getD s'.k 0 * 2 ^ s'.nb, nb := s'.nb + 8 }) := Lib.hid (by rw [HNg.out, need, if_pos hlt, if_pos hk])
        have HG5 : Hid (3 ≤ ({ s' with k := s'.k + 1, ro := s'.ro + 1, b := s'.b ||| src.getD s'.k 0 * 2 ^ s'.nb, nb := s'.nb + 8 } : DS).nb + 8 * g) := Lib.hid (by have := HG.out; show 3 ≤ s'.nb + 8 + 8 * g; omega)
        have HB5 : Hid (({ s' with k := s'.k + 1, ro := s'.ro + 1, b := s'.b ||| src.getD s'.k 0 * 2 ^ s'.nb, nb := s'.nb + 8 } : DS).nb ≤ 24) := Lib.hid (by show s'.nb + 8 ≤ 24; omega)
        have HM5 : Hid (40 - ({ s' with k := s'.k + 1, ro := s'.ro + 1, b := s'.b ||| src.getD s'.k 0 * 2 ^ s'.nb, nb := s'.nb + 8 } : DS).nb < 40 - nbW I wr) := Lib.hid (by rw [hD4.nbW]; show 40 - (s'.nb + 8) < 40 - s'.nb; omega)
        have HE5 : Hid (({ s' with k := s'.k + 1, ro := s'.ro + 1, b := s'.b ||| src.getD s'.k 0 * 2 ^ s'.nb, nb := s'.nb + 8 } : DS).err = .nilIface) := Lib.hid he4
        have HS5 : Hid (∀ w5 c5, Dec I E src srcV w5 c5 { s' with k := s'.k + 1, ro := s'.ro + 1, b := s'.b ||| src.getD s'.k 0 * 2 ^ s'.nb, nb := s'.nb + 8 } → ∃ c6, Dec I E src srcV (w5.setCell ⟨I.F, 1048, none⟩ .nilIface) c6 { s' with k := s'.k + 1, ro := s'.ro + 1, b := s'.b ||| src.getD s'.k 0 * 2 ^ s'.nb, nb := s'.nb + 8 }) := Lib.hid (fun w5 c5 h => by
          have h6 := h.set_err .nilIface
          rw [DS.err_same (s := { s' with k := s'.k + 1, ro := s'.ro + 1, b := s'.b ||| src.getD s'.k 0 * 2 ^ s'.nb, nb := s'.nb + 8 }) he4] at h6
          exact ⟨_, h6⟩)
        clear hne hnb hlt hk HNg HG he4
        generalize ({ s' with k := s'.k + 1, ro := s'.ro + 1, b := s'.b ||| src.getD s'.k 0 * 2 ^ s'.nb, nb := s'.nb + 8 } : DS) = s5 at *
        go_wp2_with fail
        refine hmb.mono ?_; rintro r w5 ⟨rfl, ⟨c5, hD5⟩, f5⟩
        have f5 := f4.trans f5
        have zer := hD5.fz 1048
        have cer := hD5.c_err
        obtain ⟨c6, hD6⟩ := HS5.out w5 c5 hD5
        have f6 := f5.trans (Imp.setF I _ 1048 .nilIface)
        have cer6 := hD6.c_err
        rw [HE5.out] at cer6
        have HD6 := Lib.hid (And.intro hD6 f6)
        clear hmb f4 hD4 cnb cr hD5 f5 hD6 f6
        go_wp2_with fail
        go_roundw
        case rel => exact ⟨g, _, c6, HD6.out.1, HD6.out.2, hne2, HB5.out, HE5.out, HN5, HG5⟩
        case measure => show 40 - nbW I _ < 40 - nbW I wr; rw [HD6.out.1.nbW]; exact HM5.out
      · have hE : moreB src E s' = (E.uneV, s') := if_neg hk
        rw [hE] at hmb; clear hE
        unfold Errs.uneV at hmb
        have HE : Hid (N = (false, s')) := Lib.hid (by rw [HNg.out, need, if_pos hlt, if_neg hk])
        clear hne hnb hlt hk HNg HG
        go_wp2_with fail
        refine hmb.mono ?_; rintro r w5 ⟨rfl, ⟨c5, hD5⟩, f5⟩
        have f5 := f4.trans f5
        have zer := hD5.fz 1048
        have cer := hD5.c_err
        have hD6 := hD5.set_err E.uneV
        have f6 := f5.trans (Imp.setF I _ 1048 E.uneV)
        unfold Errs.uneV at hD6 f6
        have cer6 := hD6.c_err
        have HD6 := Lib.hid (And.intro hD6 f6)
        clear hmb f4 hD4 cnb cr hD5 f5 hD6 f6
        go_wp2_with fail
        go_returns
        refine HP.out _ HD6.out.2 ?_
        rw [HE.out]
        exact ⟨0, undef, undef, _, HD6.out.1, fun h => by cases h⟩
    · have y2 : ¬ (s'.nb : Int) < 3 := by omega
      have hNe : N = (true, s') := by
        rw [HNg.out]
        cases g with
        | zero => rfl
        | succ g => rw [need, if_neg hlt]
      have hnb3 : 3 ≤ s'.nb := by omega
      have HEN := HEN.out
      have HKN := HKN.out
      rw [hNe] at HEN HKN
      simp only [] at HEN HKN
      have HBK2 : BitsOK s' := by
        have := HBK.out
        rw [hNe] at this
        rw [HEN] at this ⊢
        exact this
      have hst' : (s'.st = 0 ∨ s'.st = 1) ∧ (s'.st = 1 → 1 ≤ s'.dist) := by rw [HEN]; exact HST.out
      have hwr' : s'.wr < 32768 ∧ s'.rd ≤ s'.wr := by rw [HEN]; exact HWR.out
      obtain ⟨f, q1, t, q, n2, hf, hq1, ht, hq, hq8, hn2, b1, b2, b3, b4, htt, z1, z2, z3, z4, z5, z6⟩ := nbArith hD4.b32 hnb3 hnb
      obtain ⟨fb, hfb⟩ : ∃ fb : Bool, fb = (f == 1) := ⟨_, rfl⟩
      have z7 : ((f : Int) == 1) = fb := by
        rw [hfb]
        rcases (show f = 0 ∨ f = 1 by omega) with rfl | rfl <;> rfl
      have hS : hdS s' = { s' with final := fb, b := q, nb := n2 } := by unfold hdS; rw [hf, hq8, hn2, hfb]
      have ht4 : s'.b / 2 % 4 = t := by rw [hq1, ht]
      have hD5 := hD4.set_final fb
      have hD6 := hD5.set_b q1 b1
      have hD7 := hD6.set_b q b2
      have hD8 := hD7.set_nb n2 (Nat.le_trans b3 (by decide))
      have f8 := (((f4.trans (Imp.setF I _ 1047 (.bool fb))).trans (Imp.setF I _ 3 (.int .u32 (q1 : Int)))).trans (Imp.setF I _ 3 (.int .u32 (q : Int)))).trans (Imp.setF I _ 4 (.int .u64 (n2 : Int)))
      have zf := hD4.fz 1047
      have cf := hD4.c_final
      have cb4 := hD4.c_b
      have cb5 := hD5.c_b
      have cb6 := hD6.c_b
      have cnb7 := hD7.c_nb
      have zb5 := hD5.fz 3
      have zb6 := hD6.fz 3
      have zb7 := hD7.fz 4
      simp only [] at cb5 cb6 cnb7
      obtain ⟨c8, hD8'⟩ : ∃ c8, Dec I E src srcV ((((wr.setCell ⟨I.F, 1047, none⟩ (.bool fb)).setCell ⟨I.F, 3, none⟩ (.int .u32 (q1 : Int))).setCell ⟨I.F, 3, none⟩ (.int .u32 (q : Int))).setCell ⟨I.F, 4, none⟩ (.int .u64 (n2 : Int))) c8 (hdS s') := ⟨_, by rw [hS]; exact hD8⟩
      have hkS : RK (hdS s') := by rw [hS]; exact ⟨b3, HKN.t1, HKN.t2, HKN.bits, HKN.cb⟩
      have hbS' : BitsOK (hdS s') := by rw [hS]; exact HBK2
      have hstS : ((hdS s').st = 0 ∨ (hdS s').st = 1) ∧ ((hdS s').st = 1 → 1 ≤ (hdS s').dist) := by rw [hS]; exact hst'
      have hwrS : (hdS s').wr < 32768 ∧ (hdS s').rd ≤ (hdS s').wr := by rw [hS]; exact hwr'
      have HP2 : Hid (∀ w', Imp I w w' → (∃ X la lb c', Dec I E src srcV w' c' (nextT I E src X la lb t (hdS s')) ∧ (t = 2 → (rhS E src (hdS s')).1 = .nilIface → RK ((rhS E src (hdS s')).2.ln la lb))) → Post (.returned (.tuple #[])) w') := Lib.hid (by
        intro w' hi h
        refine HP.out w' hi ?_
        rw [hNe]
        simp only []
        rw [ht4]
        obtain ⟨X, la, lb, c', h1, h2⟩ := h
        exact ⟨X, la, lb, c', h1, fun _ => h2⟩)
      have HG8 := Lib.hid (And.intro hD8' f8)
      have HQ8 := Lib.hid (And.intro hkS (And.intro hbS' (And.intro hstS hwrS)))
      have HERR : Hid ((hdS s').err = .nilIface) := Lib.hid (by rw [hS]; exact he4)
      have HTS := Lib.hid ts
      clear HKN HEN HBK2 hst' hwr' hf hq1 ht hq hq8 hn2 hfb hS ht4 hD5 hD6 hD7 hD8 f8 hD8' hkS hbS' hstS hwrS hD4 f4 hne hNe HNg HG HP HN3 HST HWR HBK b1 b2 b3 b4 hlt hnb3 he4 ts
      generalize hdS s' = sH at *
      rcases htt with rfl | rfl | rfl | rfl
      · go_wp2_with fail
        refine (dataBlock_any HG8.out.1 HTS.out HQ8.out.2.2.2.1 HQ8.out.2.2.2.2).mono ?_; rintro r w5 ⟨rfl, ⟨c5, hD5⟩, f5⟩
        have f6 := HG8.out.2.trans f5
        go_wp2_with fail
        go_returns
        exact HP2.out _ f6 ⟨0, undef, undef, c5, hD5, fun h => by cases h⟩
      · go_wp2_with fail
        refine (fixedDec_any _).mono ?_; rintro r w5 ⟨X, cX, lv, rfl, hX, hn, hXb, hdc, hlk⟩
        have hD5 := HG8.out.1.new hn
        have f5 := HG8.out.2.trans (New.imp (I := I) hn)
        have zl := hD5.fz 1050
        have cl := hD5.c_hl
        have hD6 := hD5.set_hlx (.pointer (some ⟨X, 0, none⟩)) (initH fixLit).2 (fun X' hX' => by
          simp only [Value.pointer.injEq, Option.some.injEq, Addr.mk.injEq] at hX'
          rw [← hX'.1]
          exact ⟨cX, lv, hXb, hdc, hlk⟩)
        have zd := hD6.fz 1051
        have cd := hD6.c_hd
        have hD7 := hD6.set_hd (.pointer none)
        have f7 := (f5.trans (Imp.setF I _ 1050 (.pointer (some ⟨X, 0, none⟩)))).trans (Imp.setF I _ 1051 (.pointer none))
        obtain ⟨hQ1, hQ2, ⟨hQ3, hQ4⟩, hQ5, hQ6⟩ := HQ8.out
        have hhb := huffmanBlock_any hD7 (initH fixLit).2 none ⟨.inr (.inr ⟨X, rfl, rfl, rfl⟩), .inl ⟨rfl, rfl⟩, hQ1.nb, hQ5, hQ6⟩ (initH_safe fix_le.1 (by decide)) (fun h e => by cases e) hQ3 hQ4
        have HHB := Lib.hid hhb
        have HF7 := Lib.hid f7
        clear hhb f7 hD5 hD6 hD7 f5 hn hXb hdc hlk hX hQ1 hQ2 hQ3 hQ4 hQ5 hQ6
        go_wp2_with fail
        refine HHB.out.mono ?_; rintro r w8 ⟨rfl, ⟨c8, hD8⟩, f8⟩
        have f9 := HF7.out.trans f8
        go_wp2_with fail
        go_returns
        exact HP2.out _ f9 ⟨X, undef, undef, c8, hD8, fun h => by cases h⟩
      · have hrh := readHuffman_any HG8.out.1 HQ8.out.1
        obtain ⟨hQ1, hQ2, ⟨hQ3, hQ4⟩, hQ5, hQ6⟩ := HQ8.out
        have hgd := rhS_good E src hQ2
        have HDY : Hid (∀ X la lb, nextT I E src X la lb 2 sH = dynD I E src la lb (rhS E src sH)) := Lib.hid (fun X la lb => rfl)
        have HKP : Hid ((rhS E src sH).2.st = sH.st ∧ (rhS E src sH).2.dist = sH.dist ∧ (rhS E src sH).2.wr = sH.wr ∧ (rhS E src sH).2.rd = sH.rd) := Lib.hid (by
          have := rhS_kept E src sH
          exact ⟨this.st, this.dist, this.wr, this.rd⟩)
        generalize rhS E src sH = R at *
        obtain ⟨rv, s2⟩ := R
        unfold RhPost at hrh
        simp only [] at hrh
        rcases hgd with ⟨hv, hs1, hs2⟩ | hv | ⟨ro, hv⟩
        · simp only [] at hv hs1 hs2
          subst hv
          clear hQ1 hQ2
          go_wp2_with fail
          refine hrh.mono ?_; rintro r w5 ⟨rfl, f5, la, lb, c5, hD5, hk5⟩
          have f5 := HG8.out.2.trans f5
          have hkR := hk5 (by first | rfl | trivial)
          have zer := hD5.fz 1048
          have cer5 := hD5.c_err
          have hD6 := hD5.set_err .nilIface
          have cer := hD6.c_err
          have zhl := hD6.fz 1050
          have chl := hD6.c_hl
          have hD7 := hD6.set_hlF 5 (by decide)
          have zhd := hD7.fz 1051
          have chd := hD7.c_hd
          have hD8 := hD7.set_hd (.pointer (some ⟨I.F, 520, none⟩))
          have f8 := ((f5.trans (Imp.setF I _ 1048 .nilIface)).trans (Imp.setF I _ 1050 (.pointer (some ⟨I.F, 5, none⟩)))).trans (Imp.setF I _ 1051 (.pointer (some ⟨I.F, 520, none⟩)))
          obtain ⟨k1, k2, k3, k4⟩ : s2.st = sH.st ∧ s2.dist = sH.dist ∧ s2.wr = sH.wr ∧ s2.rd = sH.rd := HKP.out
          have hhb := huffmanBlock_any hD8 s2.h1 (some s2.h2) ⟨.inl ⟨rfl, rfl⟩, .inr ⟨s2.h2, rfl, rfl, rfl⟩, hkR.nb, by show s2.wr < 32768; rw [k3]; exact hQ5, by show s2.rd ≤ s2.wr; rw [k3, k4]; exact hQ6⟩ hs1 (fun h e => by cases e; exact hs2) (by show s2.st = 0 ∨ s2.st = 1; rw [k1]; exact hQ3) (fun h => by show 1 ≤ s2.dist; rw [k2]; exact hQ4 (k1.symm.trans h))
          have HHB := Lib.hid hhb
          have HF8 := Lib.hid f8
          have HKR := Lib.hid hkR
          clear hhb f8 hD5 hD6 hD7 hD8 f5 hkR hk5 k1 k2 k3 k4 hQ3 hQ4 hQ5 hQ6 hs1 hs2 hrh
          go_wp2_with fail
          refine HHB.out.mono ?_; rintro r w8 ⟨rfl, ⟨c8, hD8⟩, f8⟩
          have f9 := HF8.out.trans f8
          go_wp2_with fail
          go_returns
          exact HP2.out _ f9 ⟨0, la, lb, c8, by rw [HDY.out]; exact hD8, fun _ _ => HKR.out⟩
        · simp only [] at hv
          subst hv
          clear hQ1 hQ2 hQ3 hQ4 hQ5 hQ6 HKP
          unfold Errs.uneV at hrh
          go_wp2_with fail
          refine hrh.mono ?_; rintro r w5 ⟨rfl, f5, la, lb, c5, hD5, hk5⟩
          have f5 := HG8.out.2.trans f5
          have zer := hD5.fz 1048
          have cer5 := hD5.c_err
          have hD6 := hD5.set_err E.uneV
          have f6 := f5.trans (Imp.setF I _ 1048 E.uneV)
          unfold Errs.uneV at hD6 f6
          have cer6 := hD6.c_err
          have HD6 := Lib.hid (And.intro hD6 f6)
          clear hD5 hD6 f5 f6 hk5 hrh
          go_wp2_with fail
          go_returns
          exact HP2.out _ HD6.out.2 ⟨0, la, lb, _, by rw [HDY.out]; exact HD6.out.1, fun _ h => by cases h⟩
        · simp only [] at hv
          subst hv
          clear hQ1 hQ2 hQ3 hQ4 hQ5 hQ6 HKP
          unfold corV at hrh
          go_wp2_with fail
          refine hrh.mono ?_; rintro r w5 ⟨rfl, f5, la, lb, c5, hD5, hk5⟩
          have f5 := HG8.out.2.trans f5
          have zer := hD5.fz 1048
          have cer5 := hD5.c_err
          have hD6 := hD5.set_err (.iface 78 (.int .i64 (ro : Int)))
          have f6 := f5.trans (Imp.setF I _ 1048 (.iface 78 (.int .i64 (ro : Int))))
          have cer6 := hD6.c_err
          have HD6 := Lib.hid (And.intro hD6 f6)
          clear hD5 hD6 f5 f6 hk5 hrh
          go_wp2_with fail
          go_returns
          exact HP2.out _ HD6.out.2 ⟨0, la, lb, _, by rw [HDY.out]; exact HD6.out.1, fun _ h => by cases h⟩
      · have hD5 := HG8.out.1
        have cro := hD5.c_ro
        have zer := hD5.fz 1048
        have cer := hD5.c_err
        have hD6 := hD5.set_err (corV sH.ro)
        have f6 := HG8.out.2.trans (Imp.setF I _ 1048 (corV sH.ro))
        have HD6 := Lib.hid (And.intro hD6 f6)
        clear hD5 hD6 f6
        go_wp2_with fail
        go_returns
        exact HP2.out _ HD6.out.2 ⟨0, undef, undef, _, HD6.out.1, fun h => by cases h⟩
end
end Go.Proofs.YtbbnibbdiiffkaaDoor

/- The decoder's steps in plain words: what every step keeps, whatever the source says. -/
namespace Go.Proofs.YtbbnibbdiiffkaaDoor
open Go.RowKit

def isNil : Value → Bool
  | .nilIface => true
  | _ => false
theorem isNil_iff (v : Value) : isNil v = true ↔ v = .nilIface := by cases v <;> simp [isNil]
/-- How many bytes a slice has. -/
def trN : Value → Nat
  | .slice _ n _ => n
  | _ => 0
/-- What is waiting to be read. -/
def trL (s : DS) : List Nat :=
  match s.tr with
  | .slice (some a) n _ => (s.hist.drop a.off).take n
  | _ => []
def TrOK (I : Ids) (v : Value) : Prop := v = .slice none 0 0 ∨ ∃ o n c, v = .slice (some ⟨I.D, o, none⟩) n c ∧ n ≤ c ∧ o + n ≤ 32768
theorem trL_len {I : Ids} {s : DS} (h : TrOK I s.tr) (hl : s.hist.length = 32768) : (trL s).length = trN s.tr := by
  rcases h with h | ⟨o, n, c, h, h1, h2⟩
  · unfold trL trN; rw [h]; rfl
  · unfold trL trN; rw [h]
    simp only [List.length_take, List.length_drop, hl]
    omega
theorem trL_nil {I : Ids} {s : DS} (h : TrOK I s.tr) (h0 : trN s.tr = 0) : trL s = [] := by
  rcases h with h | ⟨o, n, c, h, h1, h2⟩
  · unfold trL; rw [h]
  · rw [h] at h0
    have h0 : n = 0 := h0
    unfold trL; rw [h, h0]; exact List.take_zero
/-- What the steps of a block of codes leave alone. -/
structure Bfr (s0 s : DS) : Prop where
  h1 : s.h1 = s0.h1
  l1 : s.l1 = s0.l1
  h2 : s.h2 = s0.h2
  l2 : s.l2 = s0.l2
  hl : s.hl = s0.hl
  hx : s.hx = s0.hx
  hd : s.hd = s0.hd
  bits : s.bits = s0.bits
  cb : s.cb = s0.cb
  final : s.final = s0.final
theorem Bfr.refl (s : DS) : Bfr s s := ⟨rfl, rfl, rfl, rfl, rfl, rfl, rfl, rfl, rfl, rfl⟩
theorem Bfr.trans {a b c : DS} (h : Bfr a b) (k : Bfr b c) : Bfr a c := ⟨k.h1.trans h.h1, k.l1.trans h.l1, k.h2.trans h.h2, k.l2.trans h.l2, k.hl.trans h.hl, k.hx.trans h.hx, k.hd.trans h.hd, k.bits.trans h.bits, k.cb.trans h.cb, k.final.trans h.final⟩
/-- The bits that are left. -/
def bl (src : List Nat) (s : DS) : Nat := 8 * (src.length - s.k) + s.nb
/-- The numbers of a decoder that goes on. -/
structure Num (src : List Nat) (s0 s : DS) : Prop where
  fr : Bfr s0 s
  kle : s.k ≤ src.length
  nb : s.nb ≤ 24
  wr : s.wr < 32768
  rd : s.rd ≤ s.wr
  bl : bl src s ≤ bl src s0
  tr : s.tr = s0.tr
  err : s.err = s0.err
  st : s.st = s0.st
  dist : 1 ≤ s.dist ∨ s.dist = s0.dist
theorem Num.refl {src : List Nat} {s : DS} (hk : s.k ≤ src.length) (hn : s.nb ≤ 24) (hw : s.wr < 32768) (hr : s.rd ≤ s.wr) : Num src s s := ⟨.refl s, hk, hn, hw, hr, Nat.le_refl _, rfl, rfl, rfl, .inr rfl⟩
/-- An error of the decoder's. -/
def Bad (E : Errs) (v : Value) : Prop := v = E.eofV ∨ v = E.uneV ∨ ∃ ro, v = corV ro
theorem Bad.ne {E : Errs} {v : Value} (h : Bad E v) : v ≠ .nilIface := by
  rcases h with rfl | rfl | ⟨ro, rfl⟩ <;> exact fun h => by cases h
theorem Bad.une (E : Errs) : Bad E E.uneV := .inr (.inl rfl)
theorem Bad.eof (E : Errs) : Bad E E.eofV := .inl rfl
theorem Bad.cor {E : Errs} (r : Nat) : Bad E (corV r) := .inr (.inr ⟨r, rfl⟩)
/-- Where a block's code stops. -/
structure Stop (I : Ids) (E : Errs) (src : List Nat) (s0 s : DS) : Prop where
  fr : Bfr s0 s
  kle : s.k ≤ src.length
  nb : s.nb ≤ 24
  wr : s.wr < 32768
  rd : s.rd ≤ s.wr
  bl : bl src s ≤ bl src s0
  tr : s.tr = s0.tr ∨ (TrOK I s.tr ∧ s.wr ≤ s.rd)
  st : s.st = s0.st ∨ s.st = 0 ∨ (s.st = 1 ∧ 1 ≤ s.dist)
  dist : 1 ≤ s.dist ∨ s.dist = s0.dist
  how : Bad E s.err ∨ (s.err = s0.err ∧ s.step = stepV 24 ∧ 0 < trN s.tr) ∨ (s.err = s0.err ∧ s.step = stepV 14 ∧ s.tr = s0.tr)
def HBP (P Q D : DS → Prop) : HB → Prop
  | .lit s => P s
  | .copy s => Q s
  | .done s => D s
section
variable {I : Ids} {E : Errs} {src : List Nat} {s0 s : DS} {hl : HD} {hd : Option HD}
def BP (I : Ids) (E : Errs) (src : List Nat) (s0 : DS) (n : Nat) : HB → Prop := HBP (fun s => Num src s0 s ∧ bl src s + n ≤ bl src s0) (fun s => Num src s0 s ∧ bl src s + n ≤ bl src s0 ∧ 1 ≤ s.dist) (fun s => Stop I E src s0 s)
theorem Num.stop (h : Num src s0 s) {s' : DS} (he : ∃ v, Bad E v ∧ s' = { s with err := v }) : Stop I E src s0 s' := by
  obtain ⟨v, hv, rfl⟩ := he
  exact ⟨⟨h.fr.h1, h.fr.l1, h.fr.h2, h.fr.l2, h.fr.hl, h.fr.hx, h.fr.hd, h.fr.bits, h.fr.cb, h.fr.final⟩, h.kle, h.nb, h.wr, h.rd, h.bl, .inl h.tr, .inl h.st, h.dist, .inl hv⟩
theorem uneV_ne (E : Errs) : E.uneV ≠ .nilIface := fun h => by cases h
theorem eofV_ne (E : Errs) : E.eofV ≠ .nilIface := fun h => by cases h
theorem corV_ne (r : Nat) : corV r ≠ .nilIface := fun h => by cases h
theorem Num.need (h : Num src s0 s) (n : Nat) (hn : n ≤ 16) : Num src s0 (need src n 4 s).2 ∧ YtbbnibbdiiffkaaDoor.bl src (YtbbnibbdiiffkaaDoor.need src n 4 s).2 = YtbbnibbdiiffkaaDoor.bl src s := by
  obtain ⟨q1, q2, -⟩ := need_near src n 4 s h.kle
  generalize YtbbnibbdiiffkaaDoor.need src n 4 s = N at *
  obtain ⟨e, s'⟩ := N
  simp only [] at q1 q2 ⊢
  have hkl := q1.kle
  have hb : YtbbnibbdiiffkaaDoor.bl src s' = YtbbnibbdiiffkaaDoor.bl src s := q1.bl
  obtain ⟨k, ro, b, nb, rfl⟩ := q1.eq
  have h0 := h.nb
  exact ⟨⟨⟨h.fr.h1, h.fr.l1, h.fr.h2, h.fr.l2, h.fr.hl, h.fr.hx, h.fr.hd, h.fr.bits, h.fr.cb, h.fr.final⟩, hkl, by simp only [] at q2 ⊢; omega, h.wr, h.rd, by rw [hb]; exact h.bl, h.tr, h.err, h.st, h.dist⟩, hb⟩
theorem Num.take (h : Num src s0 s) (n : Nat) : Num src s0 (takeB n s) ∧ YtbbnibbdiiffkaaDoor.bl src (takeB n s) ≤ YtbbnibbdiiffkaaDoor.bl src s := by
  have hb : YtbbnibbdiiffkaaDoor.bl src (takeB n s) ≤ YtbbnibbdiiffkaaDoor.bl src s := Nat.add_le_add_left (Nat.sub_le _ _) _
  exact ⟨⟨⟨h.fr.h1, h.fr.l1, h.fr.h2, h.fr.l2, h.fr.hl, h.fr.hx, h.fr.hd, h.fr.bits, h.fr.cb, h.fr.final⟩, h.kle, Nat.le_trans (Nat.sub_le _ _) h.nb, h.wr, h.rd, Nat.le_trans hb h.bl, h.tr, h.err, h.st, h.dist⟩, hb⟩
theorem Num.sym (h : Num src s0 s) {t : HD} (ht : Safe t) {v k b nb : Nat} (hq : hsM src t s.k s.b s.nb = .sym v k b nb) : Num src s0 ((HR.sym v k b nb).st s) ∧ YtbbnibbdiiffkaaDoor.bl src ((HR.sym v k b nb).st s) + 1 ≤ YtbbnibbdiiffkaaDoor.bl src s := by
  obtain ⟨-, q2, q3, q4, -⟩ := hsM_props ht h.kle h.nb hq
  have hb : YtbbnibbdiiffkaaDoor.bl src ((HR.sym v k b nb).st s) + 1 ≤ YtbbnibbdiiffkaaDoor.bl src s := q3
  exact ⟨⟨⟨h.fr.h1, h.fr.l1, h.fr.h2, h.fr.l2, h.fr.hl, h.fr.hx, h.fr.hd, h.fr.bits, h.fr.cb, h.fr.final⟩, q2, q4, h.wr, h.rd, by have := h.bl; omega, h.tr, h.err, h.st, h.dist⟩, hb⟩
theorem lengthL_ex (v : Nat) : (lengthL v).2 ≤ 16 := by
  unfold lengthL
  split
  · exact Nat.zero_le _
  · split
    · exact Nat.zero_le _
    · split
      · show (v - 261) / 4 ≤ 16; omega
      · exact Nat.zero_le _
def HREnd (src : List Nat) (k0 nb0 : Nat) : HR → Prop
  | .sym .. => True
  | .eof k _ nb => k ≤ src.length ∧ nb ≤ 24 ∧ 8 * (src.length - k) + nb ≤ 8 * (src.length - k0) + nb0
  | .bad k _ nb => k ≤ src.length ∧ nb ≤ 24 ∧ 8 * (src.length - k) + nb ≤ 8 * (src.length - k0) + nb0
theorem hsGo_end (h : HD) (hs : Safe h) (f : Nat) : ∀ (e : Bool) (k b nb : Nat), k ≤ src.length → nb ≤ 24 → HREnd src k nb (hsGo src h f (e, k, b, nb)) := by
  induction f with
  | zero => intro e k b nb hk hn; exact ⟨hk, hn, Nat.le_refl _⟩
  | succ f ih =>
    intro e k b nb hk hn
    cases e with
    | true => exact ⟨hk, hn, Nat.le_refl _⟩
    | false =>
      rw [hsGo_step]
      have hl := look_lt h hs b
      by_cases h1 : look h b % 16 ≤ nb
      · rw [if_pos h1]
        by_cases h0 : look h b % 16 = 0
        · rw [if_pos h0]; exact ⟨hk, hn, Nat.le_refl _⟩
        · rw [if_neg h0]; trivial
      · rw [if_neg h1]
        obtain ⟨q1, q2, q3, q4⟩ := fill_props (src := src) (look h b % 16) 16 k b nb hk
        generalize fill src (look h b % 16) 16 k b nb = F at *
        obtain ⟨e', k', b', nb'⟩ := F
        simp only [] at q1 q2 q3 q4
        have := ih e' k' b' nb' q2 (by omega)
        cases hq : hsGo src h f (e', k', b', nb') with
        | sym v k2 b2 nb2 => trivial
        | eof k2 b2 nb2 => rw [hq] at this; obtain ⟨r1, r2, r3⟩ := this; exact ⟨r1, r2, by omega⟩
        | bad k2 b2 nb2 => rw [hq] at this; obtain ⟨r1, r2, r3⟩ := this; exact ⟨r1, r2, by omega⟩
theorem hsM_end {h : HD} (hs : Safe h) {k b nb : Nat} (hk : k ≤ src.length) (hn : nb ≤ 24) {r : HR} (he : hsM src h k b nb = r) : HREnd src k nb r := by
  have h15 := hs.min15
  obtain ⟨q1, q2, q3, q4⟩ := fill_props (src := src) h.min 16 k b nb hk
  unfold hsM at he
  generalize fill src h.min 16 k b nb = F at *
  obtain ⟨e', k', b', nb'⟩ := F
  simp only [] at q1 q2 q3 q4
  have := hsGo_end h hs 17 e' k' b' nb' q2 (by omega)
  rw [he] at this
  cases r with
  | sym v k2 b2 nb2 => trivial
  | eof k2 b2 nb2 => obtain ⟨r1, r2, r3⟩ := this; exact ⟨r1, r2, by omega⟩
  | bad k2 b2 nb2 => obtain ⟨r1, r2, r3⟩ := this; exact ⟨r1, r2, by omega⟩
theorem Num.bad (h : Num src s0 s) {t : HD} (r : HR) (hr : ∀ v k b nb, r ≠ .sym v k b nb) (hq : hsM src t s.k s.b s.nb = r) (ht : Safe t) : Stop I E src s0 (r.fin E s) := by
  have hp := hsM_end ht h.kle h.nb hq
  cases r with
  | sym v k b nb => exact absurd rfl (hr v k b nb)
  | eof k b nb =>
    obtain ⟨p1, p2, p3⟩ := hp
    exact ⟨⟨h.fr.h1, h.fr.l1, h.fr.h2, h.fr.l2, h.fr.hl, h.fr.hx, h.fr.hd, h.fr.bits, h.fr.cb, h.fr.final⟩, p1, p2, h.wr, h.rd, Nat.le_trans p3 h.bl, .inl h.tr, .inl h.st, h.dist, .inl (Bad.une E)⟩
  | bad k b nb =>
    obtain ⟨p1, p2, p3⟩ := hp
    exact ⟨⟨h.fr.h1, h.fr.l1, h.fr.h2, h.fr.l2, h.fr.hl, h.fr.hx, h.fr.hd, h.fr.bits, h.fr.cb, h.fr.final⟩, p1, p2, h.wr, h.rd, Nat.le_trans p3 h.bl, .inl h.tr, .inl h.st, h.dist, .inl (Bad.cor _)⟩
theorem outS_tr {I : Ids} (s : DS) (hr : s.rd ≤ s.wr) (hw : s.wr ≤ 32768) : TrOK I (outS I s).tr ∧ trN (outS I s).tr = s.wr - s.rd := by
  have e : (outS I s).tr = .slice (some ⟨I.D, s.rd, none⟩) (s.wr - s.rd) (32768 - s.rd) := rfl
  rw [e]
  exact ⟨.inr ⟨s.rd, s.wr - s.rd, 32768 - s.rd, rfl, by omega, by omega⟩, rfl⟩
theorem outS_keep {I : Ids} (s : DS) : (outS I s).k = s.k ∧ (outS I s).nb = s.nb ∧ (outS I s).b = s.b ∧ (outS I s).ro = s.ro ∧ (outS I s).err = s.err ∧ (outS I s).st = s.st ∧ (outS I s).dist = s.dist ∧ (outS I s).len = s.len ∧ (outS I s).step = s.step ∧ (outS I s).final = s.final ∧ Bfr s (outS I s) := by
  unfold outS flushS
  split <;> exact ⟨rfl, rfl, rfl, rfl, rfl, rfl, rfl, rfl, rfl, rfl, ⟨rfl, rfl, rfl, rfl, rfl, rfl, rfl, rfl, rfl, rfl⟩⟩
theorem outS_wr {I : Ids} (s : DS) (hw : s.wr ≤ 32768) : (outS I s).wr < 32768 ∧ (outS I s).rd = (outS I s).wr := by
  unfold outS flushS
  split
  · exact ⟨Nat.zero_lt_succ _, rfl⟩
  · rename_i h; exact ⟨by show s.wr < 32768; omega, rfl⟩
/-- A pause: the window is flushed. -/
theorem pause_stop {s1 : DS} (h : Num src s0 s) (e1 : Bfr s s1) (e2 : s1.k = s.k) (e3 : s1.nb = s.nb) (e4 : s1.err = s.err) (e5 : s1.wr ≤ 32768) (e6 : s1.rd < s1.wr) (st : Nat) (hst : st = 0 ∨ (st = 1 ∧ 1 ≤ s1.dist)) (e7 : 1 ≤ s1.dist ∨ s1.dist = s.dist) :
    Stop I E src s0 { outS I s1 with step := stepV 24, st := st } := by
  obtain ⟨k1, k2, -, -, k5, -, k7, -, -, -, k11⟩ := outS_keep (I := I) s1
  obtain ⟨w1, w2⟩ := outS_wr (I := I) s1 e5
  obtain ⟨t1, t2⟩ := outS_tr (I := I) s1 (by omega) e5
  have fr := (h.fr.trans e1).trans k11
  refine ⟨⟨fr.h1, fr.l1, fr.h2, fr.l2, fr.hl, fr.hx, fr.hd, fr.bits, fr.cb, fr.final⟩, ?_, ?_, w1, Nat.le_of_eq w2, ?_, .inr ⟨t1, Nat.le_of_eq w2.symm⟩, ?_, ?_, .inr (.inl ⟨?_, rfl, ?_⟩)⟩
  · show (outS I s1).k ≤ _; rw [k1, e2]; exact h.kle
  · show (outS I s1).nb ≤ _; rw [k2, e3]; exact h.nb
  · show 8 * (src.length - (outS I s1).k) + (outS I s1).nb ≤ _
    rw [k1, e2, k2, e3]; exact h.bl
  · right
    rcases hst with rfl | ⟨rfl, hd⟩
    · exact .inl rfl
    · exact .inr ⟨rfl, by show 1 ≤ (outS I s1).dist; rw [k7]; exact hd⟩
  · show 1 ≤ (outS I s1).dist ∨ (outS I s1).dist = _
    rw [k7]
    rcases e7 with e7 | e7
    · exact .inl e7
    · rw [e7]; exact h.dist
  · show (outS I s1).err = _; rw [k5, e4]; exact h.err
  · show 0 < trN (outS I s1).tr; rw [t2]; omega
theorem finish_stop (h : Num src s0 s) : Stop I E src s0 (finishS I E s) := by
  have hw : s.wr ≤ 32768 := Nat.le_of_lt h.wr
  unfold finishS
  cases hf : s.final with
  | false =>
    rw [if_neg (by decide)]
    exact ⟨⟨h.fr.h1, h.fr.l1, h.fr.h2, h.fr.l2, h.fr.hl, h.fr.hx, h.fr.hd, h.fr.bits, h.fr.cb, h.fr.final⟩, h.kle, h.nb, h.wr, h.rd, h.bl, .inl h.tr, .inl h.st, h.dist, .inr (.inr ⟨h.err, rfl, h.tr⟩)⟩
  | true =>
    rw [if_pos rfl]
    unfold lastS
    by_cases hrw : s.rd < s.wr
    · rw [if_pos hrw]
      obtain ⟨k1, k2, -, -, k5, k6, k7, -, -, -, k11⟩ := outS_keep (I := I) s
      obtain ⟨w1, w2⟩ := outS_wr (I := I) s hw
      obtain ⟨t1, t2⟩ := outS_tr (I := I) s h.rd hw
      have fr := h.fr.trans k11
      refine ⟨⟨fr.h1, fr.l1, fr.h2, fr.l2, fr.hl, fr.hx, fr.hd, fr.bits, fr.cb, fr.final⟩, ?_, ?_, w1, Nat.le_of_eq w2, ?_, .inr ⟨t1, Nat.le_of_eq w2.symm⟩, ?_, ?_, .inl (Bad.eof E)⟩
      · show (outS I s).k ≤ _; rw [k1]; exact h.kle
      · show (outS I s).nb ≤ _; rw [k2]; exact h.nb
      · show 8 * (src.length - (outS I s).k) + (outS I s).nb ≤ _
        rw [k1, k2]; exact h.bl
      · left; show (outS I s).st = _; rw [k6]; exact h.st
      · show 1 ≤ (outS I s).dist ∨ (outS I s).dist = _
        rw [k7]; exact h.dist
    · rw [if_neg hrw]
      exact ⟨⟨h.fr.h1, h.fr.l1, h.fr.h2, h.fr.l2, h.fr.hl, h.fr.hx, h.fr.hd, h.fr.bits, h.fr.cb, h.fr.final⟩, h.kle, h.nb, h.wr, h.rd, h.bl, .inl h.tr, .inl h.st, h.dist, .inl (Bad.eof E)⟩
/-- A pass, from a literal on. -/
theorem lit_bp (h : Num src s0 s) (h1 : Safe hl) (h2 : ∀ t, hd = some t → Safe t) : BP I E src s0 1 (hbLit I E src hl hd s) := by
  unfold hbLit
  cases hq : hsM src hl s.k s.b s.nb with
  | eof k b nb => exact h.bad _ (fun v k b nb e => by cases e) hq h1
  | bad k b nb => exact h.bad _ (fun v k b nb e => by cases e) hq h1
  | sym v k b nb =>
    obtain ⟨n1, b1⟩ := h.sym h1 hq
    simp only []
    generalize (HR.sym v k b nb).st s = s1 at *
    have hb1 : YtbbnibbdiiffkaaDoor.bl src s1 + 1 ≤ YtbbnibbdiiffkaaDoor.bl src s0 := Nat.le_trans b1 h.bl
    clear b1 hq h
    unfold hbVal
    by_cases hv : v < 256
    · rw [if_pos hv]
      have hput : (putB s1 v).wr = s1.wr + 1 := rfl
      have hw := n1.wr
      have hr := n1.rd
      by_cases hw2 : (putB s1 v).wr = 32768
      · rw [if_pos hw2]
        exact pause_stop (s1 := putB s1 v) n1 ⟨rfl, rfl, rfl, rfl, rfl, rfl, rfl, rfl, rfl, rfl⟩ rfl rfl rfl (Nat.le_of_eq hw2) (by show s1.rd < s1.wr + 1; omega) 0 (.inl rfl) (.inr rfl)
      · rw [if_neg hw2]
        exact ⟨⟨⟨n1.fr.h1, n1.fr.l1, n1.fr.h2, n1.fr.l2, n1.fr.hl, n1.fr.hx, n1.fr.hd, n1.fr.bits, n1.fr.cb, n1.fr.final⟩, n1.kle, n1.nb, by show s1.wr + 1 < 32768; omega, by show s1.rd ≤ s1.wr + 1; omega, n1.bl, n1.tr, n1.err, n1.st, n1.dist⟩, hb1⟩
    · rw [if_neg hv]
      by_cases hv2 : v = 256
      · rw [if_pos hv2]; exact finish_stop n1
      · rw [if_neg hv2]
        by_cases hv3 : v < 286
        · rw [if_pos hv3]
          unfold hbLen
          have hx : (lengthL v).2 ≤ 16 := lengthL_ex v
          obtain ⟨n2, b2⟩ := n1.need (lengthL v).2 hx
          generalize YtbbnibbdiiffkaaDoor.need src (lengthL v).2 4 s1 = N at *
          obtain ⟨e, s2⟩ := N
          simp only [] at n2 b2 ⊢
          cases e with
          | false => exact n2.stop ⟨_, Bad.une E, rfl⟩
          | true =>
            rw [if_pos rfl]
            obtain ⟨n3, b3⟩ := n2.take (lengthL v).2
            generalize takeB (lengthL v).2 s2 = s3 at *
            generalize (lengthL v).1 + s2.b % 2 ^ (lengthL v).2 = len
            have hb3 : YtbbnibbdiiffkaaDoor.bl src s3 + 1 ≤ YtbbnibbdiiffkaaDoor.bl src s0 := by omega
            have hfar : ∀ (dist : Nat) (sx : DS), 1 ≤ dist → Num src s0 sx → YtbbnibbdiiffkaaDoor.bl src sx + 1 ≤ YtbbnibbdiiffkaaDoor.bl src s0 → BP I E src s0 1 (hbFar len dist sx) := by
              intro dist sx hd1 nx bx
              unfold hbFar
              split
              · exact nx.stop ⟨_, Bad.cor _, rfl⟩
              · exact ⟨⟨⟨nx.fr.h1, nx.fr.l1, nx.fr.h2, nx.fr.l2, nx.fr.hl, nx.fr.hx, nx.fr.hd, nx.fr.bits, nx.fr.cb, nx.fr.final⟩, nx.kle, nx.nb, nx.wr, nx.rd, nx.bl, nx.tr, nx.err, nx.st, .inl hd1⟩, bx, hd1⟩
            have hdist : ∀ (d : Nat) (sx : DS), Num src s0 sx → YtbbnibbdiiffkaaDoor.bl src sx + 1 ≤ YtbbnibbdiiffkaaDoor.bl src s0 → BP I E src s0 1 (hbDist E src len d sx) := by
              intro d sx nx bx
              unfold hbDist
              by_cases hd4 : d < 4
              · rw [if_pos hd4]; exact hfar _ _ (by omega) nx bx
              · rw [if_neg hd4]
                by_cases hd30 : d < 30
                · rw [if_pos hd30]
                  obtain ⟨n4, b4⟩ := nx.need ((d - 2) / 2) (by omega)
                  generalize YtbbnibbdiiffkaaDoor.need src ((d - 2) / 2) 4 sx = N at *
                  obtain ⟨e, s4⟩ := N
                  simp only [] at n4 b4 ⊢
                  cases e with
                  | false => exact n4.stop ⟨_, Bad.une E, rfl⟩
                  | true =>
                    rw [if_pos rfl]
                    obtain ⟨n5, b5⟩ := n4.take ((d - 2) / 2)
                    exact hfar _ _ (by have := Nat.two_pow_pos ((d - 2) / 2 + 1); omega) n5 (by omega)
                · rw [if_neg hd30]; exact nx.stop ⟨_, Bad.cor _, rfl⟩
            unfold hbSym
            cases hd with
            | none =>
              simp only []
              obtain ⟨n4, b4⟩ := n3.need 5 (by decide)
              generalize YtbbnibbdiiffkaaDoor.need src 5 4 s3 = N at *
              obtain ⟨e, s4⟩ := N
              simp only [] at n4 b4 ⊢
              cases e with
              | false => exact n4.stop ⟨_, Bad.une E, rfl⟩
              | true =>
                rw [if_pos rfl]
                obtain ⟨n5, b5⟩ := n4.take 5
                exact hdist _ _ n5 (by omega)
            | some t =>
              simp only []
              have ht := h2 t rfl
              cases hq2 : hsM src t s3.k s3.b s3.nb with
              | eof k b nb => exact n3.bad _ (fun v k b nb e => by cases e) hq2 ht
              | bad k b nb => exact n3.bad _ (fun v k b nb e => by cases e) hq2 ht
              | sym d k b nb =>
                obtain ⟨n4, b4⟩ := n3.sym ht hq2
                exact hdist _ _ n4 (by omega)
        · rw [if_neg hv3]; exact n1.stop ⟨_, Bad.cor _, rfl⟩
theorem copied_more (s : DS) (d n : Nat) : Bfr s (copied s d n) ∧ (copied s d n).k = s.k ∧ (copied s d n).nb = s.nb ∧ (copied s d n).rd = s.rd ∧ (copied s d n).tr = s.tr ∧ (copied s d n).err = s.err ∧ (copied s d n).st = s.st ∧ (copied s d n).dist = s.dist ∧ (copied s d n).len = s.len ∧ (copied s d n).full = s.full ∧ (copied s d n).b = s.b := by
  unfold copied; exact ⟨⟨rfl, rfl, rfl, rfl, rfl, rfl, rfl, rfl, rfl, rfl⟩, rfl, rfl, rfl, rfl, rfl, rfl, rfl, rfl, rfl, rfl⟩
theorem cpA_more (s : DS) : Bfr s (cpA s) ∧ (cpA s).k = s.k ∧ (cpA s).nb = s.nb ∧ (cpA s).rd = s.rd ∧ (cpA s).tr = s.tr ∧ (cpA s).err = s.err ∧ (cpA s).st = s.st ∧ (cpA s).dist = s.dist ∧ (cpA s).wr = s.wr + cpN s ∧ (cpA s).full = s.full ∧ (cpA s).b = s.b := by
  unfold cpA cpN
  split
  · obtain ⟨a1, a2, a3, a4, a5, a6, a7, a8, -, a9, a10⟩ := copied_more s s.dist 0
    obtain ⟨b1, b2, b3, b4, b5, b6, b7, b8, -, b9, b10⟩ := copied_more (copied s s.dist 0) s.dist (wrN (copied s s.dist 0) s.len)
    refine ⟨a1.trans b1, b2.trans a2, b3.trans a3, b4.trans a4, b5.trans a5, b6.trans a6, b7.trans a7, b8.trans a8, ?_, b9.trans a9, b10.trans a10⟩
    rw [copied_wr, copied_wr]; rfl
  · obtain ⟨a1, a2, a3, a4, a5, a6, a7, a8, -, a9, a10⟩ := copied_more s s.dist (tryN s s.dist s.len)
    exact ⟨a1, a2, a3, a4, a5, a6, a7, a8, copied_wr _ _ _, a9, a10⟩
/-- A pass, from a copy on. -/
theorem copy_bp (h : Num src s0 s) (hd1 : 1 ≤ s.dist) {n : Nat} (hb : YtbbnibbdiiffkaaDoor.bl src s + n ≤ YtbbnibbdiiffkaaDoor.bl src s0) : BP I E src s0 n (hbCopy I s) := by
  obtain ⟨a1, a2, a3, a4, a5, a6, a7, a8, a9, a10, a11⟩ := cpA_more s
  have hn := cpN_eq s
  have hw := h.wr
  have hr := h.rd
  have hnl : cpN s ≤ s.len := by rw [hn]; exact Nat.min_le_left _ _
  have hnw : cpN s ≤ 32768 - s.wr := by rw [hn]; exact Nat.min_le_right _ _
  have hor : cpN s = s.len ∨ cpN s = 32768 - s.wr := by
    rw [hn]
    rcases Nat.le_total s.len (32768 - s.wr) with q | q
    · exact .inl (Nat.min_eq_left q)
    · exact .inr (Nat.min_eq_right q)
  unfold hbCopy cpT
  generalize cpN s = c at *
  clear hn
  generalize cpA s = a at *
  simp only []
  by_cases hp : a.wr = 32768 ∨ 0 < s.len - c
  · rw [if_pos hp]
    have hwr : a.wr = 32768 := by omega
    exact pause_stop (s1 := { a with len := s.len - c }) h ⟨a1.h1, a1.l1, a1.h2, a1.l2, a1.hl, a1.hx, a1.hd, a1.bits, a1.cb, a1.final⟩ a2 a3 a6 (Nat.le_of_eq hwr) (by show a.rd < a.wr; omega) 1 (.inr ⟨rfl, by show 1 ≤ a.dist; omega⟩) (.inr a8)
  · rw [if_neg hp]
    have fr := h.fr.trans a1
    have hbl : YtbbnibbdiiffkaaDoor.bl src { a with len := s.len - c } = YtbbnibbdiiffkaaDoor.bl src s := by show 8 * (src.length - a.k) + a.nb = _; rw [a2, a3]; rfl
    refine ⟨⟨⟨fr.h1, fr.l1, fr.h2, fr.l2, fr.hl, fr.hx, fr.hd, fr.bits, fr.cb, fr.final⟩, by show a.k ≤ _; rw [a2]; exact h.kle, by show a.nb ≤ _; rw [a3]; exact h.nb, by show a.wr < 32768; omega, by show a.rd ≤ a.wr; omega, by rw [hbl]; exact h.bl, a5.trans h.tr, a6.trans h.err, a7.trans h.st, .inl (by show 1 ≤ a.dist; omega)⟩, by rw [hbl]; exact hb⟩
theorem Num.sub {a b : DS} (h : Num src a b) (k : Num src b s) : Num src a s := ⟨h.fr.trans k.fr, k.kle, k.nb, k.wr, k.rd, Nat.le_trans k.bl h.bl, k.tr.trans h.tr, k.err.trans h.err, k.st.trans h.st, by
  rcases k.dist with q | q
  · exact .inl q
  · rw [q]; exact h.dist⟩
theorem Stop.of {a b : DS} (h : Num src a b) (k : Stop I E src b s) : Stop I E src a s := by
  refine ⟨h.fr.trans k.fr, k.kle, k.nb, k.wr, k.rd, Nat.le_trans k.bl h.bl, ?_, ?_, ?_, ?_⟩
  · rcases k.tr with q | q
    · exact .inl (q.trans h.tr)
    · exact .inr q
  · rcases k.st with q | q
    · exact .inl (q.trans h.st)
    · exact .inr q
  · rcases k.dist with q | q
    · exact .inl q
    · rw [q]; exact h.dist
  · rcases k.how with q | ⟨q1, q2⟩ | ⟨q1, q2, q3⟩
    · exact .inl q
    · exact .inr (.inl ⟨q1.trans h.err, q2⟩)
    · exact .inr (.inr ⟨q1.trans h.err, q2, q3.trans h.tr⟩)
/-- The whole of a block's code, begun or gone on with. -/
theorem hbGo_stop (h1 : Safe hl) (h2 : ∀ t, hd = some t → Safe t) : ∀ (m : Nat) (hb : HB), HBP (fun s => Num src s0 s ∧ 2 * YtbbnibbdiiffkaaDoor.bl src s < m) (fun s => Num src s0 s ∧ 1 ≤ s.dist ∧ 2 * YtbbnibbdiiffkaaDoor.bl src s + 1 < m) (fun s => Stop I E src s0 s) hb → Stop I E src s0 (hbGo I E src hl hd m hb) := by
  intro m
  induction m with
  | zero =>
    intro hb h
    cases hb with
    | done s => exact h
    | lit s => exact absurd h.2 (Nat.not_lt_zero _)
    | copy s => exact absurd h.2.2 (Nat.not_lt_zero _)
  | succ m ih =>
    intro hb h
    cases hb with
    | done s => exact h
    | lit s =>
      obtain ⟨hn, hm⟩ := h
      have hp := lit_bp (I := I) (E := E) (Num.refl hn.kle hn.nb hn.wr hn.rd) h1 h2
      rw [hbGo]
      refine ih _ ?_
      generalize hbLit I E src hl hd s = x at *
      cases x with
      | done s' => exact Stop.of hn hp
      | lit s' => exact ⟨hn.sub hp.1, by have := hp.2; omega⟩
      | copy s' => exact ⟨hn.sub hp.1, hp.2.2, by have := hp.2.1; omega⟩
    | copy s =>
      obtain ⟨hn, hd1, hm⟩ := h
      have hp := copy_bp (I := I) (E := E) (n := 0) (Num.refl hn.kle hn.nb hn.wr hn.rd) hd1 (Nat.le_refl _)
      rw [hbGo]
      refine ih _ ?_
      cases hx : hbCopy I s with
      | done s' => rw [hx] at hp; exact Stop.of hn hp
      | lit s' => rw [hx] at hp; exact ⟨hn.sub hp.1, by have := hp.2; omega⟩
      | copy s' => unfold hbCopy cpT at hx; split at hx <;> cases hx
theorem hbS_stop (hk : s.k ≤ src.length) (hn : s.nb ≤ 24) (hw : s.wr < 32768) (hr : s.rd ≤ s.wr) (hst : s.st = 1 → 1 ≤ s.dist) (h1 : Safe hl) (h2 : ∀ t, hd = some t → Safe t) : Stop I E src s (hbS I E src hl hd s) := by
  unfold hbS
  have hb : 2 * YtbbnibbdiiffkaaDoor.bl src s + 1 < 16 * src.length + 100 := by unfold YtbbnibbdiiffkaaDoor.bl; omega
  refine hbGo_stop h1 h2 _ _ ?_
  split
  · rename_i h; exact ⟨.refl hk hn hw hr, hst h, hb⟩
  · exact ⟨.refl hk hn hw hr, Nat.lt_of_succ_lt hb⟩
/-- Stored bytes, begun or gone on with. -/
structure Sto (I : Ids) (E : Errs) (src : List Nat) (s0 s : DS) : Prop where
  fr : Bfr s0 s
  kle : s.k ≤ src.length
  nb : s.nb ≤ 24
  wr : s.wr < 32768
  rd : s.rd ≤ s.wr
  bl : bl src s ≤ bl src s0
  tr : s.tr = s0.tr ∨ (TrOK I s.tr ∧ s.wr ≤ s.rd)
  st : s.st = s0.st
  dist : s.dist = s0.dist
  how : Bad E s.err ∨ (s.err = s0.err ∧ s.step = stepV 38 ∧ 0 < trN s.tr) ∨ (s.err = s0.err ∧ s.step = stepV 14 ∧ (s.tr = s0.tr ∨ TrOK I s.tr))
theorem finish_sto {s1 : DS} (fr : Bfr s0 s1) (hk : s1.k ≤ src.length) (hn : s1.nb ≤ 24) (hw : s1.wr < 32768) (hr : s1.rd ≤ s1.wr) (hb : YtbbnibbdiiffkaaDoor.bl src s1 ≤ YtbbnibbdiiffkaaDoor.bl src s0) (ht : s1.tr = s0.tr ∨ (TrOK I s1.tr ∧ s1.wr ≤ s1.rd)) (hst : s1.st = s0.st) (hd : s1.dist = s0.dist) (he : s1.err = s0.err) :
    Sto I E src s0 (finishS I E s1) := by
  unfold finishS
  cases hf : s1.final with
  | false =>
    rw [if_neg (by decide)]
    exact ⟨⟨fr.h1, fr.l1, fr.h2, fr.l2, fr.hl, fr.hx, fr.hd, fr.bits, fr.cb, fr.final⟩, hk, hn, hw, hr, hb, ht, hst, hd, .inr (.inr ⟨he, rfl, ht.imp id fun q => q.1⟩)⟩
  | true =>
    rw [if_pos rfl]
    unfold lastS
    by_cases hrw : s1.rd < s1.wr
    · rw [if_pos hrw]
      obtain ⟨k1, k2, -, -, k5, k6, k7, -, -, -, k11⟩ := outS_keep (I := I) s1
      obtain ⟨w1, w2⟩ := outS_wr (I := I) s1 (Nat.le_of_lt hw)
      obtain ⟨t1, t2⟩ := outS_tr (I := I) s1 hr (Nat.le_of_lt hw)
      have fr := fr.trans k11
      refine ⟨⟨fr.h1, fr.l1, fr.h2, fr.l2, fr.hl, fr.hx, fr.hd, fr.bits, fr.cb, fr.final⟩, ?_, ?_, w1, Nat.le_of_eq w2, ?_, .inr ⟨t1, Nat.le_of_eq w2.symm⟩, k6.trans hst, k7.trans hd, .inl (Bad.eof E)⟩
      · show (outS I s1).k ≤ _; rw [k1]; exact hk
      · show (outS I s1).nb ≤ _; rw [k2]; exact hn
      · show 8 * (src.length - (outS I s1).k) + (outS I s1).nb ≤ _
        rw [k1, k2]; exact hb
    · rw [if_neg hrw]
      exact ⟨⟨fr.h1, fr.l1, fr.h2, fr.l2, fr.hl, fr.hx, fr.hd, fr.bits, fr.cb, fr.final⟩, hk, hn, hw, hr, hb, ht, hst, hd, .inl (Bad.eof E)⟩
theorem cdA_more (src : List Nat) (s : DS) (q : Nat) : Bfr s (cdA src s q) ∧ (cdA src s q).nb = s.nb ∧ (cdA src s q).rd = s.rd ∧ (cdA src s q).tr = s.tr ∧ (cdA src s q).err = s.err ∧ (cdA src s q).st = s.st ∧ (cdA src s q).dist = s.dist ∧ (cdA src s q).wr = s.wr + q ∧ (cdA src s q).len = s.len - q ∧ (cdA src s q).k = s.k + q := by
  unfold cdA gotD; exact ⟨⟨rfl, rfl, rfl, rfl, rfl, rfl, rfl, rfl, rfl, rfl⟩, rfl, rfl, rfl, rfl, rfl, rfl, rfl, rfl, rfl⟩
theorem copyData_sto {s1 : DS} (fr : Bfr s0 s1) (hk : s1.k ≤ src.length) (hn : s1.nb ≤ 24) (hw : s1.wr < 32768) (hr : s1.rd ≤ s1.wr) (hb : YtbbnibbdiiffkaaDoor.bl src s1 ≤ YtbbnibbdiiffkaaDoor.bl src s0) (ht : s1.tr = s0.tr) (hst : s1.st = s0.st) (hd : s1.dist = s0.dist) (he : s1.err = s0.err) :
    Sto I E src s0 (copyDataS I E src s1) := by
  have hq1 : cdQ src s1 ≤ src.length - s1.k := Nat.min_le_left _ _
  have hq2 : cdQ src s1 ≤ cdN s1 := Nat.min_le_right _ _
  have hq3 : cdN s1 ≤ 32768 - s1.wr := Nat.min_le_left _ _
  have hq4 : cdN s1 ≤ s1.len := Nat.min_le_right _ _
  have hor : cdN s1 = s1.len ∨ cdN s1 = 32768 - s1.wr := by
    unfold cdN
    rcases Nat.le_total (32768 - s1.wr) s1.len with q | q
    · exact .inr (Nat.min_eq_left q)
    · exact .inl (Nat.min_eq_right q)
  obtain ⟨a1, a2, a3, a4, a5, a6, a7, a8, a9, a10⟩ := cdA_more src s1 (cdQ src s1)
  unfold copyDataS
  generalize cdQ src s1 = q at *
  generalize cdN s1 = c at *
  generalize cdA src s1 q = a at *
  have fra := fr.trans a1
  have hka : a.k ≤ src.length := by omega
  have hbla : YtbbnibbdiiffkaaDoor.bl src a ≤ YtbbnibbdiiffkaaDoor.bl src s0 := by
    refine Nat.le_trans ?_ hb
    show 8 * (src.length - a.k) + a.nb ≤ 8 * (src.length - s1.k) + s1.nb
    omega
  by_cases hqc : q = c
  · rw [if_pos hqc]
    unfold cdB
    by_cases hp : a.wr = 32768 ∨ 0 < a.len
    · rw [if_pos hp]
      have hwr : a.wr = 32768 := by omega
      obtain ⟨k1, k2, -, -, k5, k6, k7, -, -, -, k11⟩ := outS_keep (I := I) a
      obtain ⟨w1, w2⟩ := outS_wr (I := I) a (Nat.le_of_eq hwr)
      obtain ⟨t1, t2⟩ := outS_tr (I := I) a (by omega) (Nat.le_of_eq hwr)
      have fr := fra.trans k11
      refine ⟨⟨fr.h1, fr.l1, fr.h2, fr.l2, fr.hl, fr.hx, fr.hd, fr.bits, fr.cb, fr.final⟩, ?_, ?_, w1, Nat.le_of_eq w2, ?_, .inr ⟨t1, Nat.le_of_eq w2.symm⟩, (k6.trans a6).trans hst, (k7.trans a7).trans hd, .inr (.inl ⟨(k5.trans a5).trans he, rfl, ?_⟩)⟩
      · show (outS I a).k ≤ _; rw [k1]; exact hka
      · show (outS I a).nb ≤ _; rw [k2, a2]; exact hn
      · show 8 * (src.length - (outS I a).k) + (outS I a).nb ≤ _
        rw [k1, k2]; exact hbla
      · show 0 < trN (outS I a).tr; rw [t2]; omega
    · rw [if_neg hp]
      exact finish_sto fra hka (by omega) (by omega) (by omega) hbla (.inl (by rw [a4]; exact ht)) (a6.trans hst) (a7.trans hd) (a5.trans he)
  · rw [if_neg hqc]
    exact ⟨⟨fra.h1, fra.l1, fra.h2, fra.l2, fra.hl, fra.hx, fra.hd, fra.bits, fra.cb, fra.final⟩, hka, by show a.nb ≤ 24; omega, by show a.wr < 32768; omega, by show a.rd ≤ a.wr; omega, hbla, .inl (by rw [show ({ a with err := E.uneV } : DS).tr = a.tr from rfl, a4]; exact ht), a6.trans hst, a7.trans hd, .inl (Bad.une E)⟩
theorem dataBlock_sto (hk : s.k ≤ src.length) (hw : s.wr < 32768) (hr : s.rd ≤ s.wr) : Sto I E src s (dataBlockS I E src s) := by
  have hq1 : dbQ src s ≤ src.length - s.k := Nat.min_le_left _ _
  obtain ⟨a, ha⟩ : ∃ a, a = dbA src s := ⟨_, rfl⟩
  have a1 : Bfr s a ∧ a.nb = 0 ∧ a.rd = s.rd ∧ a.wr = s.wr ∧ a.tr = s.tr ∧ a.err = s.err ∧ a.st = s.st ∧ a.dist = s.dist ∧ a.k = s.k + dbQ src s := by
    rw [ha]; unfold dbA gotB
    exact ⟨⟨rfl, rfl, rfl, rfl, rfl, rfl, rfl, rfl, rfl, rfl⟩, rfl, rfl, rfl, rfl, rfl, rfl, rfl, rfl⟩
  obtain ⟨a1, a2, a3, a4, a5, a6, a7, a8, a9⟩ := a1
  have hka : a.k ≤ src.length := by omega
  have hbla : YtbbnibbdiiffkaaDoor.bl src a ≤ YtbbnibbdiiffkaaDoor.bl src s := by
    show 8 * (src.length - a.k) + a.nb ≤ 8 * (src.length - s.k) + s.nb
    omega
  unfold dataBlockS
  rw [← ha]
  by_cases h4 : dbQ src s = 4
  · rw [if_pos h4]
    generalize dbN src s.k = n
    generalize dbN src (s.k + 2) = m
    unfold dbT
    by_cases hnm : n + m = 65535
    · rw [if_pos hnm]
      by_cases hn0 : n = 0
      · rw [if_pos hn0]
        obtain ⟨k1, k2, -, -, k5, k6, k7, -, -, -, k11⟩ := outS_keep (I := I) a
        obtain ⟨w1, w2⟩ := outS_wr (I := I) a (by omega)
        obtain ⟨t1, t2⟩ := outS_tr (I := I) a (by omega) (by omega)
        refine finish_sto (a1.trans k11) (by omega) (by omega) w1 (Nat.le_of_eq w2) ?_ (.inr ⟨t1, Nat.le_of_eq w2.symm⟩) (k6.trans a7) (k7.trans a8) (k5.trans a6)
        show 8 * (src.length - (outS I a).k) + (outS I a).nb ≤ _
        rw [k1, k2]; exact hbla
      · rw [if_neg hn0]
        exact copyData_sto (s1 := { a with len := n }) ⟨a1.h1, a1.l1, a1.h2, a1.l2, a1.hl, a1.hx, a1.hd, a1.bits, a1.cb, a1.final⟩ hka (by show a.nb ≤ 24; omega) (by show a.wr < 32768; omega) (by show a.rd ≤ a.wr; omega) hbla a5 a7 a8 a6
    · rw [if_neg hnm]
      exact ⟨⟨a1.h1, a1.l1, a1.h2, a1.l2, a1.hl, a1.hx, a1.hd, a1.bits, a1.cb, a1.final⟩, hka, by show a.nb ≤ 24; omega, by show a.wr < 32768; omega, by show a.rd ≤ a.wr; omega, hbla, .inl a5, a7, a8, .inl (Bad.cor _)⟩
  · rw [if_neg h4]
    exact ⟨⟨a1.h1, a1.l1, a1.h2, a1.l2, a1.hl, a1.hx, a1.hd, a1.bits, a1.cb, a1.final⟩, hka, by show a.nb ≤ 24; omega, by show a.wr < 32768; omega, by show a.rd ≤ a.wr; omega, hbla, .inl a5, a7, a8, .inl (Bad.une E)⟩
end
end Go.Proofs.YtbbnibbdiiffkaaDoor
