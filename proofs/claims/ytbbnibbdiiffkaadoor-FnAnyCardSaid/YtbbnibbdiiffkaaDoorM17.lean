/- The head of a block with codes of its own: the other lengths are 0; the first table. The head of a block with codes of its own: a repeat. The head of a block with codes of its own: a repeat's number. The head of a block with codes of its own: the lengths. -/
import Derived.Test.YtbbnibbdiiffkaaDoorM16

/- The head of a block with codes of its own: the other lengths are 0; the first table. -/
namespace Go.Proofs.YtbbnibbdiiffkaaDoor
open Go.RowKit

section
variable {I : Ids} {E : Errs} {src : List Nat} {srcV : Value} {w wz : World} {cs : Array Value} {s : DS}
def CzInv (I : Ids) (E : Errs) (src : List Nat) (srcV : Value) (w : World) (v4 v5 : Value) (nl nd : Nat) (R : Value × DS) (a : Act) (wx : World) : Prop :=
  ∃ i, i ≤ 19 ∧ Slots 340 [(294, undef), (0, .pointer (some ⟨I.F, 0, none⟩)), (4, v4), (5, v5), (9, vi i)] a ∧ PostS I E src srcV w wx (fun s' => RK s' ∧ R = rhTab E src nl nd { s' with cb := rhZ s'.cb (19 - i) i })
set_option maxRecDepth 100000 in
set_option maxHeartbeats 4000000 in
theorem rh_zero (v4 v5 : Value) (nl nd nc : Nat) (hnc : nc ≤ 19) (hD : Dec I E src srcV wz cs s) (f0 : Imp I w wz) (hk : RK s) (R : Value × DS) (HR : Hid (R = rhTab E src nl nd { s with cb := rhZ s.cb (19 - nc) nc }))
    (a : Act) (hS : Slots 340 [(294, undef), (0, .pointer (some ⟨I.F, 0, none⟩)), (4, v4), (5, v5), (9, vi nc)] a) (Q : Exit → Act → World → Prop) :
    Code.wp Tryd.prog (code25b 6) (Exit.then (fun a' wx => Slots 340 [(294, undef), (0, .pointer (some ⟨I.F, 0, none⟩)), (4, v4), (5, v5)] a' ∧ PostS I E src srcV w wx (fun s' => RK s' ∧ R = rhTab E src nl nd s')) Q) a wz := by
  conv => arg 2; whnf
  refine wp_block (wp_loop (CzInv I E src srcV w v4 v5 nl nd R) (fun a _ => 19 - (intOf (a.tmps.getD 9 undef)).toNat) ⟨nc, hnc, hS, s, cs, hD, f0, hk, HR.out⟩ ?_)
  clear HR hk f0 hD hS hnc
  rintro a wr ⟨i, hi, ⟨fl, hfl, rfl, g294, g0, g4, g5, g9, -⟩, s1, c1, hD1, f1, hk1, hR1⟩
  have hmu : fl.toArray.getD 9 undef = vi i := by simp only [Array.getD_eq_getD_getElem?, List.getElem?_toArray, g9]; rfl
  dsimp only []
  rw [hmu]
  clear hmu
  have HR1 := Lib.hid hR1
  clear hR1
  revert g294 g0 g4 g5 g9
  revert fl
  refine fun fl hll => AllN_get (n := 340) (K := fun l => l[294]? = _ → l[0]? = _ → l[4]? = _ → l[5]? = _ → l[9]? = _ → Code.wp Tryd.prog _ _ ⟨l.toArray, []⟩ wr) ?_ fl hll
  iterate 340 intro
  dsimp only [AllN]
  intro g294 g0 g4 g5 g9
  cases g294
  cases g0
  cases g4
  cases g5
  cases g9
  by_cases hlt : i < 19
  · have y0 : (i : Int) < 19 := Int.ofNat_lt.2 hlt
    have y1 : (0 : Int) ≤ (i : Int) := Int.natCast_nonneg i
    have ho := order19 i
    have co := hD1.gl.g2 i hlt
    have cpc := hD1.c_pc
    have hD3 : Dec I E src srcV (wr.setCell ⟨I.C, orderL.getD i 0, none⟩ (.int .i64 0)) c1 { s1 with cb := s1.cb.set (orderL.getD i 0) 0 } := hD1.set_cb (orderL.getD i 0) 0
    have ccb := hD1.c_cb (orderL.getD i 0) ho
    have zcb := hD1.fzC (orderL.getD i 0)
    have f3 := Frm.setCell f1 (p := ⟨I.C, orderL.getD i 0, none⟩) (.inr (.inr (.inr (.inr rfl)))) (.int .i64 0)
    have HR3 : Hid (R = rhTab E src nl nd { ({ s1 with cb := s1.cb.set (orderL.getD i 0) 0 } : DS) with cb := rhZ (s1.cb.set (orderL.getD i 0) 0) (19 - (i + 1)) (i + 1) }) := Lib.hid (by
      rw [HR1.out, show 19 - i = (19 - (i + 1)) + 1 by omega, rhZ])
    have HKF : Hid (RK { s1 with cb := s1.cb.set (orderL.getD i 0) 0 }) := Lib.hid ⟨hk1.nb, hk1.t1, hk1.t2, hk1.bits, mem_set_le hk1.cb (Nat.zero_le _)⟩
    have YK := Lib.hid (wrap_succ hlt (show 19 ≤ 1000 by omega))
    generalize hoo : orderL.getD i 0 = oi at *
    have z8 : (oi : Int) < 19 := Int.ofNat_lt.2 ho
    have z9 : (0 : Int) ≤ (oi : Int) := Int.natCast_nonneg oi
    have HD3 := Lib.hid hD3
    have HF3 := Lib.hid f3
    clear hD1 hD3 f1 f3 hk1 hoo HR1
    go_wp2_with fail
    refine still_tail 9 (by kernel_rfl) (by kernel_rfl) ?_
    simp only [List.take_succ_cons, List.take_zero, List.drop_succ_cons, List.drop_zero]
    repeat still_step
    refine wpStill_nil ?_
    go_wp2_with fail
    exact And.intro ⟨i + 1, hlt, ⟨_, rfl, rfl, And.intro rfl (And.intro rfl (And.intro rfl (And.intro rfl (And.intro (congrArg some (by first | rfl | exact YK.out)) trivial))))⟩, _, _, HD3.out.drew, HF3.out.drew, HKF.out, HR3.out⟩ (meas_step (by first | rfl | exact YK.out) hlt)
  · obtain rfl : i = 19 := by omega
    have HR2 : Hid (R = rhTab E src nl nd s1) := Lib.hid (by rw [HR1.out]; rfl)
    clear HR1
    go_wp2_with fail
    exact And.intro ⟨_, rfl, rfl, And.intro rfl (And.intro rfl (And.intro rfl (And.intro rfl trivial)))⟩ ⟨s1, c1, hD1, f1, hk1, HR2.out⟩

theorem Dec.rdC (h : Dec I E src srcV wz cs s) : RdN wz (.slice (some ⟨I.C, 0, none⟩) 19 19) s.cb := by
  refine ⟨some ⟨I.C, 0, none⟩, 19, by rw [h.clen], fun j hj => ⟨I.C, 0, rfl, lt_of_block h.bC, ?_⟩⟩
  rw [Nat.zero_add]; exact h.c_cb j (by rw [← h.clen]; exact hj)
set_option maxRecDepth 100000 in
set_option maxHeartbeats 4000000 in
theorem rh_tab (v4 v5 : Value) (nl nd : Nat) (hD : Dec I E src srcV wz cs s) (f0 : Imp I w wz) (hk : RK s) (R : Value × DS) (HR : Hid (R = rhTab E src nl nd s))
    (a : Act) (hS : Slots 340 [(294, undef), (0, .pointer (some ⟨I.F, 0, none⟩)), (4, v4), (5, v5)] a) (Q : Exit → Act → World → Prop)
    (hret : ∀ v s' a' wx c' la lb, Slots 340 [(2, v)] a' → (R = (v, s') ∧ v ≠ .nilIface) → Dec I E src srcV wx c' (s'.ln la lb) → Imp I w wx → Q .ret a' wx) :
    Code.wp Tryd.prog (code25 30) (Exit.then (fun a' wx => Slots 340 [(294, undef), (0, .pointer (some ⟨I.F, 0, none⟩)), (4, v4), (5, v5)] a' ∧
      ∃ s' la lb c', Dec I E src srcV wx c' (s'.ln la lb) ∧ Imp I w wx ∧ RK (s'.ln la lb) ∧ (∃ l, (∀ x ∈ l, x ≤ 15) ∧ l.length = 19 ∧ s'.h1 = (initH l).2) ∧ R = rhSyms E src nl nd (nl + nd + 1) 0 s') Q) a wz := by
  obtain ⟨fl, hfl, rfl, g294, g0, g4, g5, -⟩ := hS
  conv => arg 2; whnf
  revert g294 g0 g4 g5
  revert fl
  refine fun fl hll => AllN_get (n := 340) (K := fun l => l[294]? = _ → l[0]? = _ → l[4]? = _ → l[5]? = _ → Code.wp Tryd.prog _ _ ⟨l.toArray, []⟩ wz) ?_ fl hll
  iterate 340 intro
  dsimp only [AllN]
  intro g294 g0 g4 g5
  cases g294
  cases g0
  cases g4
  cases g5
  have hini := init1_any hD.drew hk.t1 (.slice (some ⟨I.C, 0, none⟩) 19 19) s.cb hD.drew.rdC (fun x off n c e => by
    simp only [Value.slice.injEq, Option.some.injEq, Addr.mk.injEq] at e; rw [← e.1.1]; exact Ne.symm hD.ok.FCC) hk.cb (by rw [hD.clen]; decide)
  have cpc := hD.c_pc
  have hm := hk.cb
  have HINI : Hid ((initH s.cb).1 = (initH s.cb).1) := Lib.hid rfl
  have HR1 : Hid (R = if (initH s.cb).1 then rhSyms E src nl nd (nl + nd + 1) 0 { s with h1 := (initH s.cb).2 } else (corV s.ro, { s with h1 := (initH s.cb).2 })) := Lib.hid HR.out
  have hro := hD.c_ro
  have HL : Hid (∃ l, (∀ x ∈ l, x ≤ 15) ∧ l.length = 19 ∧ (initH s.cb).2 = (initH l).2) := Lib.hid ⟨s.cb, hk.cb, hD.clen, rfl⟩
  have HK := Lib.hid hk
  generalize initH s.cb = ih at *
  obtain ⟨ok, hh⟩ := ih
  simp only [] at hini
  clear HR hk hm hD hro HINI
  go_wp2_with fail
  refine still_tail 9 (by kernel_rfl) (by kernel_rfl) ?_
  simp only [List.take_succ_cons, List.take_zero, List.drop_succ_cons, List.drop_zero]
  repeat still_step
  refine wpStill_nil ?_
  go_wp2_with fail
  refine hini.mono ?_; rintro r w3 ⟨rfl, f3, c3, lv, hD3, hti⟩
  have f4 : Imp I w w3 := (f0.drew).trans f3
  have c2 := hD3.c_ro
  simp only [] at c2
  clear f0 f3 hini cpc
  cases ok with
  | false =>
    have HR2 : Hid (R = (corV s.ro, { s with h1 := hh })) := Lib.hid HR1.out
    have hcor : corV s.ro = .iface 78 (.int .i64 (s.ro : Int)) := rfl
    have HC := Lib.hid hcor
    have HD3 := Lib.hid hD3
    clear hD3 hcor HR1
    go_wp2_with fail
    exact hret (corV s.ro) { s with h1 := hh } _ _ c3 lv s.l2 ⟨_, rfl, rfl, And.intro rfl trivial⟩ ⟨HR2.out, fun h => by cases h⟩ HD3.out f4
  | true =>
    have HR2 : Hid (R = rhSyms E src nl nd (nl + nd + 1) 0 { s with h1 := hh }) := Lib.hid HR1.out
    have HD3 := Lib.hid hD3
    clear hD3 HR1
    go_wp2_with fail
    exact And.intro ⟨_, rfl, rfl, And.intro rfl (And.intro rfl (And.intro rfl (And.intro rfl trivial)))⟩ ⟨{ s with h1 := hh }, lv, s.l2, c3, HD3.out, f4, ⟨HK.out.nb, hti, HK.out.t2, HK.out.bits, HK.out.cb⟩, HL.out, HR2.out⟩
end
end Go.Proofs.YtbbnibbdiiffkaaDoor

/- The head of a block with codes of its own: a repeat. -/
namespace Go.Proofs.YtbbnibbdiiffkaaDoor
open Go.RowKit

theorem fillR_mem {B v : Nat} (hv : v ≤ B) (i : Nat) : ∀ (r : Nat) (l : List Nat), (∀ x ∈ l, x ≤ B) → ∀ x ∈ fillR l i v r, x ≤ B := by
  intro r
  induction r with
  | zero => intro l h; exact h
  | succ r ih => intro l h; exact mem_set_le (ih l h) hv
section
variable {I : Ids} {E : Errs} {src : List Nat} {srcV : Value} {w wz : World} {cs : Array Value} {s : DS}
def FlInv (I : Ids) (E : Errs) (src : List Nat) (srcV : Value) (wz : World) (cs : Array Value) (s : DS) (v4 v5 v11 : Value) (i rep v : Nat) (a : Act) (wx : World) : Prop :=
  ∃ j, j ≤ rep ∧ Slots 340 [(294, undef), (0, .pointer (some ⟨I.F, 0, none⟩)), (4, v4), (5, v5), (10, vi (i + j)), (11, v11), (14, vi rep), (16, vi v), (18, vi j)] a ∧ Dec I E src srcV wx cs { s with bits := fillR s.bits i v j } ∧ Imp I wz wx
set_option maxRecDepth 100000 in
set_option maxHeartbeats 4000000 in
theorem rh_fill (v4 v5 v11 : Value) (i rep v : Nat) (hir : i + rep ≤ 316) (hD : Dec I E src srcV wz cs s)
    (a : Act) (hS : Slots 340 [(294, undef), (0, .pointer (some ⟨I.F, 0, none⟩)), (4, v4), (5, v5), (10, vi i), (11, v11), (14, vi rep), (16, vi v), (18, vi 0)] a) (Q : Exit → Act → World → Prop) :
    Code.wp Tryd.prog (code25b 13) (Exit.then (fun a' wx => Slots 340 [(294, undef), (0, .pointer (some ⟨I.F, 0, none⟩)), (4, v4), (5, v5), (10, vi (i + rep)), (11, v11)] a' ∧ Dec I E src srcV wx cs { s with bits := fillR s.bits i v rep } ∧ Imp I wz wx) Q) a wz := by
  conv => arg 2; whnf
  refine wp_block (wp_loop (FlInv I E src srcV wz cs s v4 v5 v11 i rep v) (fun a _ => rep - (intOf (a.tmps.getD 18 undef)).toNat) ⟨0, Nat.zero_le _, hS, hD, Imp.refl _ _⟩ ?_)
  clear hD hS
  rintro a wr ⟨j, hj, ⟨fl, hfl, rfl, g294, g0, g4, g5, g10, g11, g14, g16, g18, -⟩, hD1, f1⟩
  have hmu : fl.toArray.getD 18 undef = vi j := by simp only [Array.getD_eq_getD_getElem?, List.getElem?_toArray, g18]; rfl
  dsimp only []
  rw [hmu]
  clear hmu
  revert g294 g0 g4 g5 g10 g11 g14 g16 g18
  revert fl
  refine fun fl hll => AllN_get (n := 340) (K := fun l => l[294]? = _ → l[0]? = _ → l[4]? = _ → l[5]? = _ → l[10]? = _ → l[11]? = _ → l[14]? = _ → l[16]? = _ → l[18]? = _ → Code.wp Tryd.prog _ _ ⟨l.toArray, []⟩ wr) ?_ fl hll
  iterate 340 intro
  dsimp only [AllN]
  intro g294 g0 g4 g5 g10 g11 g14 g16 g18
  cases g294
  cases g0
  cases g4
  cases g5
  cases g10
  cases g11
  cases g14
  cases g16
  cases g18
  by_cases hlt : j < rep
  · have y0 : (j : Int) < (rep : Int) := Int.ofNat_lt.2 hlt
    have hD2 := hD1.set_bits (i + j) v
    have f2 := Frm.setCell f1 (p := ⟨I.B, i + j, none⟩) (.inr (.inr (.inr (.inl rfl)))) (vi v)
    have cpb := hD1.c_pb
    have cbt := hD1.c_bits (i + j) (by omega)
    have zbt := hD1.fzB (i + j)
    have YK := Lib.hid (wrap_succ hlt (show rep ≤ 1000 by omega))
    have YI := Lib.hid (wrap_succ (k := i + j) (n := 316) (by omega) (by omega))
    have hb : i + j < 316 := by omega
    generalize hij : i + j = ij at *
    have z1 : (ij : Int) < 316 := Int.ofNat_lt.2 hb
    have z2 : (0 : Int) ≤ (ij : Int) := Int.natCast_nonneg ij
    have HIJ : Hid (vi (ij + 1) = vi (i + (j + 1))) := Lib.hid (by rw [← hij, Nat.add_assoc])
    have HD2 : Hid (Dec I E src srcV (wr.setCell ⟨I.B, ij, none⟩ (vi v)) cs { s with bits := fillR s.bits i v (j + 1) }) := Lib.hid (by
      have e : fillR s.bits i v (j + 1) = (fillR s.bits i v j).set ij v := by rw [fillR, hij]
      rw [e]; exact hD2)
    have HF2 := Lib.hid f2
    clear hD1 hD2 f1 f2 hij
    go_wp2_with fail
    exact And.intro ⟨j + 1, hlt, ⟨_, rfl, rfl, And.intro rfl (And.intro rfl (And.intro rfl (And.intro rfl (And.intro (congrArg some ((by first | rfl | exact YI.out : _ = vi (ij + 1)).trans HIJ.out)) (And.intro rfl (And.intro rfl (And.intro rfl (And.intro (congrArg some (by first | rfl | exact YK.out)) trivial))))))))⟩, HD2.out, HF2.out⟩ (meas_step (by first | rfl | exact YK.out) hlt)
  · obtain rfl : j = rep := by omega
    go_wp2_with fail
    exact And.intro ⟨_, rfl, rfl, And.intro rfl (And.intro rfl (And.intro rfl (And.intro rfl (And.intro rfl (And.intro rfl trivial)))))⟩ ⟨hD1, f1⟩

def PostSw (I : Ids) (s : DS) (wz : World) (v4 v5 v11 : Value) (i x : Nat) (a' : Act) (wx : World) : Prop :=
  Slots 340 [(294, undef), (0, .pointer (some ⟨I.F, 0, none⟩)), (4, v4), (5, v5), (10, vi i), (11, v11), (14, vi (rpN x)), (15, .int .u64 (exN x : Nat)), (16, vi (if x = 16 then s.bits.getD (i - 1) 0 else 0))] a' ∧ wx = wz ∧ ¬ (x = 16 ∧ i = 0)
set_option maxRecDepth 100000 in
set_option maxHeartbeats 4000000 in
theorem rh_sw (v4 v5 v11 : Value) (i x : Nat) (hx : x = 16 ∨ x = 17 ∨ x = 18) (hi : i ≤ 316) (hD : Dec I E src srcV wz cs s)
    (a : Act) (hS : Slots 340 [(294, undef), (0, .pointer (some ⟨I.F, 0, none⟩)), (4, v4), (5, v5), (10, vi i), (11, v11), (195, vi x)] a) (Q : Exit → Act → World → Prop)
    (hret : ∀ a', x = 16 ∧ i = 0 → Slots 340 [(2, corV s.ro)] a' → Q .ret a' wz) :
    Code.wp Tryd.prog (code25b 10) (Exit.then (PostSw I s wz v4 v5 v11 i x) Q) a wz := by
  obtain ⟨fl, hfl, rfl, g294, g0, g4, g5, g10, g11, g195, -⟩ := hS
  conv => arg 2; whnf
  revert g294 g0 g4 g5 g10 g11 g195
  revert fl
  refine fun fl hll => AllN_get (n := 340) (K := fun l => l[294]? = _ → l[0]? = _ → l[4]? = _ → l[5]? = _ → l[10]? = _ → l[11]? = _ → l[195]? = _ → Code.wp Tryd.prog _ _ ⟨l.toArray, []⟩ wz) ?_ fl hll
  iterate 340 intro
  dsimp only [AllN]
  intro g294 g0 g4 g5 g10 g11 g195
  cases g294
  cases g0
  cases g4
  cases g5
  cases g10
  cases g11
  cases g195
  have cpb := hD.c_pb
  rcases hx with rfl | rfl | rfl
  · by_cases h0 : i = 0
    · subst h0
      have cro := hD.c_ro
      have HC : Hid (corV s.ro = .iface 78 (.int .i64 (s.ro : Int))) := Lib.hid rfl
      clear hD cpb
      go_wp2_with fail
      exact hret _ (by first | exact ⟨rfl, rfl⟩ | trivial) ⟨_, rfl, rfl, And.intro rfl trivial⟩
    · have y1 : ((i : Int) == 0) = false := beq_eq_false_iff_ne.2 (by omega)
      have y2 : (i : Int) - 1 = ((i - 1 : Nat) : Int) := by omega
      have cbt := hD.c_bits (i - 1) (by omega)
      have hb : i - 1 < 316 := by omega
      generalize hj : i - 1 = j at *
      have y3 : (j : Int) < 316 := Int.ofNat_lt.2 hb
      have y4 : (0 : Int) ≤ (j : Int) := Int.natCast_nonneg j
      have y5 : wrap64 ((i : Int) - 1) = (j : Int) := by rw [y2]; exact w64 (by omega)
      have HJ := Lib.hid hj
      generalize hbv : s.bits.getD j 0 = bv at *
      have HBV := Lib.hid hbv
      clear hD hj hbv
      go_wp2_with fail
      exact And.intro ⟨_, rfl, rfl, And.intro rfl (And.intro rfl (And.intro rfl (And.intro rfl (And.intro rfl (And.intro rfl (And.intro rfl (And.intro rfl (And.intro (congrArg (fun z : Nat => some (vi z)) (by rw [if_pos rfl, HJ.out, HBV.out])) trivial))))))))⟩ ⟨rfl, fun h => h0 h.2⟩
  · clear hD cpb
    go_wp2_with fail
    exact And.intro ⟨_, rfl, rfl, And.intro rfl (And.intro rfl (And.intro rfl (And.intro rfl (And.intro rfl (And.intro rfl (And.intro rfl (And.intro rfl (And.intro rfl trivial))))))))⟩ ⟨rfl, fun h => absurd h.1 (by decide)⟩
  · clear hD cpb
    go_wp2_with fail
    exact And.intro ⟨_, rfl, rfl, And.intro rfl (And.intro rfl (And.intro rfl (And.intro rfl (And.intro rfl (And.intro rfl (And.intro rfl (And.intro rfl (And.intro rfl trivial))))))))⟩ ⟨rfl, fun h => absurd h.1 (by decide)⟩
end
end Go.Proofs.YtbbnibbdiiffkaaDoor

/- The head of a block with codes of its own: a repeat's number. -/
namespace Go.Proofs.YtbbnibbdiiffkaaDoor
open Go.RowKit

theorem and_msk {b e mask : Nat} (hb : b < 2 ^ 32) (hm : mask < 2 ^ 32) (h : mask = 2 ^ e - 1) : bits .and .u32 (b : Int) ((mask : Nat) : Int) = ((b % 2 ^ e : Nat) : Int) := by
  rw [and_u32 b mask hb hm, h, and_mask]
theorem addArith {b nb i rp e mask : Nat} (hb : b < 2 ^ 32) (hm : mask = 2 ^ e - 1) (he7 : e ≤ 7) (hen : e ≤ nb) (hn24 : nb ≤ 24) (hi : i ≤ 316) (hrp : rp ≤ 11) :
    ∃ m q n2 rep sm, b % 2 ^ e = m ∧ b / 2 ^ e = q ∧ nb - e = n2 ∧ rp + m = rep ∧ i + rep = sm ∧ q < 2 ^ 32 ∧ n2 ≤ 24 ∧ rep ≤ 200 ∧ bits .and .u32 (b : Int) ((mask : Nat) : Int) = (m : Int) ∧ (b : Int) / ((2 ^ e : Nat) : Int) = (q : Int) ∧
      IntKind.u64.wrap ((nb : Int) - (e : Int)) = (n2 : Int) ∧ (nb : Int) - (e : Int) = (n2 : Int) ∧ wrap64 ((rp : Int) + (m : Int)) = (rep : Int) ∧ (rp : Int) + (m : Int) = (rep : Int) ∧ wrap64 ((i : Int) + (rep : Int)) = (sm : Int) ∧ (i : Int) + (rep : Int) = (sm : Int) ∧ m ≤ 200 := by
  have h7 : 2 ^ e ≤ 128 := Nat.pow_le_pow_right (n := 2) (by decide) he7
  have hp := Nat.two_pow_pos e
  have hml := Nat.mod_lt b hp
  have hq : b / 2 ^ e ≤ b := Nat.div_le_self _ _
  have ha := and_msk hb (show mask < 2 ^ 32 by omega) hm
  refine ⟨_, _, _, _, _, rfl, rfl, rfl, rfl, rfl, by omega, by omega, by omega, ha, by simp, ?_, by omega, ?_, by omega, ?_, by omega⟩
  · rw [show (nb : Int) - (e : Int) = ((nb - e : Nat) : Int) by omega]; exact wu64 (by omega)
  · exact w64add (by omega) (by omega)
  · exact w64add (by omega) (by omega)

section
variable {I : Ids} {E : Errs} {src : List Nat} {srcV : Value} {w wz : World} {cs : Array Value} {s : DS}
def PostA (I : Ids) (E : Errs) (src : List Nat) (srcV : Value) (wz : World) (v4 v5 : Value) (n i x v : Nat) (s : DS) (a' : Act) (wx : World) : Prop :=
  ∃ i' s' c', rhRep n i x v s = .ok i' s' ∧ Slots 340 [(294, undef), (0, .pointer (some ⟨I.F, 0, none⟩)), (4, v4), (5, v5), (10, vi i'), (11, vi n)] a' ∧ Dec I E src srcV wx c' s' ∧ Imp I wz wx
set_option maxRecDepth 100000 in
set_option maxHeartbeats 4000000 in
theorem rh_add (v4 v5 : Value) (n i x v : Nat) (hx : x = 16 ∨ x = 17 ∨ x = 18) (hi : i < n) (hn : n ≤ 316) (hD : Dec I E src srcV wz cs s) (hnb : s.nb ≤ 24) (hex : exN x ≤ s.nb)
    (a : Act) (hS : Slots 340 [(294, undef), (0, .pointer (some ⟨I.F, 0, none⟩)), (4, v4), (5, v5), (10, vi i), (11, vi n), (14, vi (rpN x)), (15, .int .u64 (exN x : Nat)), (16, vi v)] a) (Q : Exit → Act → World → Prop)
    (hret : ∀ v' s' a' wx c', rhRep n i x v s = .err v' s' → Slots 340 [(2, v')] a' → Dec I E src srcV wx c' s' → Imp I wz wx → Q .ret a' wx) :
    Code.wp Tryd.prog (code25 63) (Exit.then (PostA I E src srcV wz v4 v5 n i x v s) Q) a wz := by
  obtain ⟨fl, hfl, rfl, g294, g0, g4, g5, g10, g11, g14, g15, g16, -⟩ := hS
  conv => arg 2; whnf
  revert g294 g0 g4 g5 g10 g11 g14 g15 g16
  revert fl
  refine fun fl hll => AllN_get (n := 340) (K := fun l => l[294]? = _ → l[0]? = _ → l[4]? = _ → l[5]? = _ → l[10]? = _ → l[11]? = _ → l[14]? = _ → l[15]? = _ → l[16]? = _ → Code.wp Tryd.prog _ _ ⟨l.toArray, []⟩ wz) ?_ fl hll
  iterate 340 intro
  dsimp only [AllN]
  intro g294 g0 g4 g5 g10 g11 g14 g15 g16
  cases g294
  cases g0
  cases g4
  cases g5
  cases g10
  cases g11
  cases g14
  cases g15
  cases g16
  have hrep : rhRep n i x v s = if n < i + (rpN x + s.b % 2 ^ exN x) then .err (corV s.ro) (takeB (exN x) s)
    else .ok (i + (rpN x + s.b % 2 ^ exN x)) { takeB (exN x) s with bits := fillR s.bits i v (rpN x + s.b % 2 ^ exN x) } := rfl
  have hrp : rpN x ≤ 11 := by rcases hx with rfl | rfl | rfl <;> decide
  have he7 : exN x ≤ 7 := by rcases hx with rfl | rfl | rfl <;> decide
  obtain ⟨m, q, n2, rep, sm, hm, hq, hn2, hrr, hsm, hq32, hn24, hrep2, z1, z2, z3, z4, z5, z6, z7, z8, z9⟩ := addArith (e := exN x) (rp := rpN x) hD.b32 rfl he7 hex hnb (show i ≤ 316 by omega) hrp
  have htk : takeB (exN x) s = { s with b := q, nb := n2 } := by unfold takeB; rw [hq, hn2]
  rw [hm, hrr, hsm, htk] at hrep
  have cb := hD.c_b
  have cnb := hD.c_nb
  have zb := hD.fz 3
  have hD2 := hD.set_b q hq32
  have hD3 := hD2.set_nb n2 (Nat.le_trans hn24 (by decide))
  have cnb2 := hD2.c_nb
  have znb2 := hD2.fz 4
  have cro3 := hD3.c_ro
  have f3 := (Imp.setF I wz 3 (.int .u32 (q : Int))).trans (Imp.setF I _ 4 (.int .u64 (n2 : Int)))
  simp only [] at cnb2 cro3
  have HREP := Lib.hid hrep
  have HD3 := Lib.hid hD3
  have HF3 := Lib.hid f3
  have HSM := Lib.hid hsm
  clear hD hD2 hD3 f3 hrep htk hm hq hn2 hrr hsm hrp he7 hex
  rcases hx with rfl | rfl | rfl
  · have e1 : rpN 16 = 3 := rfl
    have e2 : exN 16 = 2 := rfl
    have z1 : bits .and .u32 (s.b : Int) 3 = (m : Int) := z1
    have z2 : (s.b : Int) / 4 = (q : Int) := z2
    have z3 : IntKind.u64.wrap ((s.nb : Int) - 2) = (n2 : Int) := z3
    have z4 : (s.nb : Int) - 2 = (n2 : Int) := z4
    have z6 : 3 + (m : Int) = (rep : Int) := z6
    clear z5 z7
    by_cases hgt : n < sm
    · have y1 : (n : Int) < (sm : Int) := Int.ofNat_lt.2 hgt
      have HE : Hid (rhRep n i 16 v s = .err (corV s.ro) { s with b := q, nb := n2 }) := Lib.hid (by rw [HREP.out, if_pos hgt])
      clear HREP hgt
      go_wp2_with fail
      exact hret _ _ _ _ _ HE.out ⟨_, rfl, rfl, And.intro rfl trivial⟩ HD3.out HF3.out
    · have y1 : ¬ (n : Int) < (sm : Int) := fun h => hgt (Int.ofNat_lt.1 h)
      have HE : Hid (rhRep n i 16 v s = .ok sm { s with b := q, nb := n2, bits := fillR s.bits i v rep }) := Lib.hid (by rw [HREP.out, if_neg hgt])
      have hle : i + rep ≤ 316 := by rw [HSM.out]; exact Nat.le_trans (Nat.le_of_not_lt hgt) hn
      clear HREP hgt
      go_upto_block 13 with fail
      refine wp_cut2 _ (rh_fill v4 v5 (vi n) i rep v hle HD3.out _ ?_ _) ?_
      · exact ⟨_, rfl, rfl, And.intro rfl (And.intro rfl (And.intro rfl (And.intro rfl (And.intro rfl (And.intro rfl (And.intro rfl (And.intro rfl (And.intro rfl trivial))))))))⟩
      · rintro a wx ⟨hS, hD', f'⟩
        rw [HSM.out] at hS
        exact ⟨sm, _, _, HE.out, hS, hD', HF3.out.trans f'⟩
  · have e1 : rpN 17 = 3 := rfl
    have e2 : exN 17 = 3 := rfl
    have z1 : bits .and .u32 (s.b : Int) 7 = (m : Int) := z1
    have z2 : (s.b : Int) / 8 = (q : Int) := z2
    have z3 : IntKind.u64.wrap ((s.nb : Int) - 3) = (n2 : Int) := z3
    have z4 : (s.nb : Int) - 3 = (n2 : Int) := z4
    have z6 : 3 + (m : Int) = (rep : Int) := z6
    clear z5 z7
    by_cases hgt : n < sm
    · have y1 : (n : Int) < (sm : Int) := Int.ofNat_lt.2 hgt
      have HE : Hid (rhRep n i 17 v s = .err (corV s.ro) { s with b := q, nb := n2 }) := Lib.hid (by rw [HREP.out, if_pos hgt])
      clear HREP hgt
      go_wp2_with fail
      exact hret _ _ _ _ _ HE.out ⟨_, rfl, rfl, And.intro rfl trivial⟩ HD3.out HF3.out
    · have y1 : ¬ (n : Int) < (sm : Int) := fun h => hgt (Int.ofNat_lt.1 h)
      have HE : Hid (rhRep n i 17 v s = .ok sm { s with b := q, nb := n2, bits := fillR s.bits i v rep }) := Lib.hid (by rw [HREP.out, if_neg hgt])
      have hle : i + rep ≤ 316 := by rw [HSM.out]; exact Nat.le_trans (Nat.le_of_not_lt hgt) hn
      clear HREP hgt
      go_upto_block 13 with fail
      refine wp_cut2 _ (rh_fill v4 v5 (vi n) i rep v hle HD3.out _ ?_ _) ?_
      · exact ⟨_, rfl, rfl, And.intro rfl (And.intro rfl (And.intro rfl (And.intro rfl (And.intro rfl (And.intro rfl (And.intro rfl (And.intro rfl (And.intro rfl trivial))))))))⟩
      · rintro a wx ⟨hS, hD', f'⟩
        rw [HSM.out] at hS
        exact ⟨sm, _, _, HE.out, hS, hD', HF3.out.trans f'⟩
  · have e1 : rpN 18 = 11 := rfl
    have e2 : exN 18 = 7 := rfl
    have z1 : bits .and .u32 (s.b : Int) 127 = (m : Int) := z1
    have z2 : (s.b : Int) / 128 = (q : Int) := z2
    have z3 : IntKind.u64.wrap ((s.nb : Int) - 7) = (n2 : Int) := z3
    have z4 : (s.nb : Int) - 7 = (n2 : Int) := z4
    have z6 : 11 + (m : Int) = (rep : Int) := z6
    clear z5 z7
    by_cases hgt : n < sm
    · have y1 : (n : Int) < (sm : Int) := Int.ofNat_lt.2 hgt
      have HE : Hid (rhRep n i 18 v s = .err (corV s.ro) { s with b := q, nb := n2 }) := Lib.hid (by rw [HREP.out, if_pos hgt])
      clear HREP hgt
      go_wp2_with fail
      exact hret _ _ _ _ _ HE.out ⟨_, rfl, rfl, And.intro rfl trivial⟩ HD3.out HF3.out
    · have y1 : ¬ (n : Int) < (sm : Int) := fun h => hgt (Int.ofNat_lt.1 h)
      have HE : Hid (rhRep n i 18 v s = .ok sm { s with b := q, nb := n2, bits := fillR s.bits i v rep }) := Lib.hid (by rw [HREP.out, if_neg hgt])
      have hle : i + rep ≤ 316 := by rw [HSM.out]; exact Nat.le_trans (Nat.le_of_not_lt hgt) hn
      clear HREP hgt
      go_upto_block 13 with fail
      refine wp_cut2 _ (rh_fill v4 v5 (vi n) i rep v hle HD3.out _ ?_ _) ?_
      · exact ⟨_, rfl, rfl, And.intro rfl (And.intro rfl (And.intro rfl (And.intro rfl (And.intro rfl (And.intro rfl (And.intro rfl (And.intro rfl (And.intro rfl trivial))))))))⟩
      · rintro a wx ⟨hS, hD', f'⟩
        rw [HSM.out] at hS
        exact ⟨sm, _, _, HE.out, hS, hD', HF3.out.trans f'⟩
end
end Go.Proofs.YtbbnibbdiiffkaaDoor

/- The head of a block with codes of its own: the lengths. -/
namespace Go.Proofs.YtbbnibbdiiffkaaDoor
open Go.RowKit

theorem need_ln (src : List Nat) (n : Nat) (a b : Value) : ∀ g s, need src n g (s.ln a b) = ((need src n g s).1, (need src n g s).2.ln a b) := by
  intro g
  induction g with
  | zero => intro s; rfl
  | succ g ih =>
    intro s
    rw [need, need]
    by_cases h1 : s.nb < n
    · rw [if_pos h1, if_pos h1]
      by_cases h2 : s.k < src.length
      · rw [if_pos h2, if_pos h2]
        exact ih { s with k := s.k + 1, ro := s.ro + 1, b := s.b ||| src.getD s.k 0 * 2 ^ s.nb, nb := s.nb + 8 }
      · rw [if_neg h2, if_neg h2]
    · rw [if_neg h1, if_neg h1]
theorem rhRep_ok {n i x v i' : Nat} {s s2 : DS} {a b : Value} (h : rhRep n i x v (s.ln a b) = .ok i' s2) : ∃ s0, rhRep n i x v s = .ok i' s0 ∧ s2 = s0.ln a b ∧ i < i' ∧ i' ≤ n ∧ ∃ b' nb' bits', s0 = { s with b := b', nb := nb', bits := bits' } ∧ nb' ≤ s.nb ∧ (v ≤ 15 → (∀ y ∈ s.bits, y ≤ 15) → ∀ y ∈ bits', y ≤ 15) := by
  have hrp : 3 ≤ rpN x := by unfold rpN; split <;> first | decide | (split <;> decide)
  unfold rhRep at h ⊢
  by_cases hc : n < i + (rpN x + s.b % 2 ^ exN x)
  · rw [if_pos hc] at h; cases h
  · rw [if_neg hc] at h
    rw [if_neg hc]
    have hc' : ¬ n < i + (rpN x + (s.ln a b).b % 2 ^ exN x) := hc
    cases h
    exact ⟨_, rfl, rfl, by omega, by omega, _, _, _, rfl, Nat.sub_le _ _, fun hv hb => fillR_mem hv _ _ _ hb⟩
theorem rhRep_err {n i x v : Nat} {s s2 : DS} {a b v' : Value} (h : rhRep n i x v (s.ln a b) = .err v' s2) : ∃ s0, rhRep n i x v s = .err v' s0 ∧ s2 = s0.ln a b := by
  unfold rhRep at h ⊢
  by_cases hc : n < i + (rpN x + s.b % 2 ^ exN x)
  · rw [if_pos hc] at h
    rw [if_pos hc]
    cases h
    exact ⟨_, rfl, rfl⟩
  · rw [if_neg hc] at h; cases h
theorem rhRep_nn {n i x v : Nat} {s s2 : DS} {v' : Value} (h : rhRep n i x v s = .err v' s2) : v' ≠ .nilIface := by
  unfold rhRep at h
  split at h
  · cases h; exact fun h => by cases h
  · cases h
theorem hsGo_sym {src : List Nat} {h : HD} : ∀ f r v k b nb, hsGo src h f r = .sym v k b nb → ∃ b0, v = look h b0 / 16 ∧ look h b0 % 16 ≠ 0 := by
  intro f
  induction f with
  | zero => intro r v k b nb e; cases e
  | succ f ih =>
    intro r v k b nb e
    rw [hsGo] at e
    split at e
    · cases e
    · simp only [] at e
      split at e
      · split at e
        · cases e
        · rename_i h2
          cases e
          exact ⟨_, rfl, h2⟩
      · exact ih _ _ _ _ _ e
theorem sym19 {src : List Nat} {l : List Nat} {h : HD} (h15 : ∀ x ∈ l, x ≤ 15) (hl : l.length = 19) (he : h = (initH l).2) {k b nb v k2 b2 nb2 : Nat} (hq : hsM src h k b nb = .sym v k2 b2 nb2) : v < 19 := by
  obtain ⟨b0, rfl, h0⟩ := hsGo_sym _ _ _ _ _ _ hq
  rw [he] at h0 ⊢
  rw [← hl]
  exact look_sym h15 b0 h0

section
variable {I : Ids} {E : Errs} {src : List Nat} {srcV : Value} {w wz : World} {cs : Array Value} {s : DS}
def SyP (I : Ids) (E : Errs) (src : List Nat) (srcV : Value) (w : World) (nl nd : Nat) (R : Value × DS) (i : Nat) (wx : World) : Prop :=
  ∃ s' la lb c' f, Dec I E src srcV wx c' (s'.ln la lb) ∧ Imp I w wx ∧ RK (s'.ln la lb) ∧ (∃ l, (∀ x ∈ l, x ≤ 15) ∧ l.length = 19 ∧ s'.h1 = (initH l).2) ∧ nl + nd < i + f ∧ R = rhSyms E src nl nd f i s'
def SyInv (I : Ids) (E : Errs) (src : List Nat) (srcV : Value) (w : World) (nl nd : Nat) (R : Value × DS) (a : Act) (wx : World) : Prop :=
  ∃ i, i ≤ nl + nd ∧ Slots 340 [(294, undef), (0, .pointer (some ⟨I.F, 0, none⟩)), (4, vi nl), (5, vi nd), (10, vi i), (11, vi (nl + nd))] a ∧ SyP I E src srcV w nl nd R i wx
def SyEnd (I : Ids) (E : Errs) (src : List Nat) (srcV : Value) (w : World) (nl nd : Nat) (R : Value × DS) (a : Act) (wx : World) : Prop :=
  Slots 340 [(294, undef), (0, .pointer (some ⟨I.F, 0, none⟩)), (4, vi nl), (5, vi nd)] a ∧ ∃ s' la lb c', Dec I E src srcV wx c' (s'.ln la lb) ∧ Imp I w wx ∧ RK (s'.ln la lb) ∧ R = rhEnd nl nd s'
set_option maxRecDepth 100000 in
set_option maxHeartbeats 8000000 in
theorem rh_syms (nl nd : Nat) (hn : nl + nd ≤ 316) (R : Value × DS) (a : Act) (hS : SyInv I E src srcV w nl nd R a wz) (Q : Exit → Act → World → Prop)
    (hret : ∀ v s' a' wx c' la lb, Slots 340 [(2, v)] a' → (R = (v, s') ∧ v ≠ .nilIface) → Dec I E src srcV wx c' (s'.ln la lb) → Imp I w wx → Q .ret a' wx) :
    Code.wp Tryd.prog (code25b 8) (Exit.then (SyEnd I E src srcV w nl nd R) Q) a wz := by
  conv => arg 2; whnf
  refine wp_block (wp_loop (SyInv I E src srcV w nl nd R) (fun a _ => (nl + nd) - (intOf (a.tmps.getD 10 undef)).toNat) hS ?_)
  clear hS
  rintro a wr ⟨i, hi, ⟨fl, hfl, rfl, g294, g0, g4, g5, g10, g11, -⟩, s1, la, lb, c1, f, hD1, f1, hk1, ⟨l, hl15, hl19, hlh⟩, hf, hR1⟩
  have hmu : fl.toArray.getD 10 undef = vi i := by simp only [Array.getD_eq_getD_getElem?, List.getElem?_toArray, g10]; rfl
  dsimp only []
  rw [hmu]
  clear hmu
  have HR1 := Lib.hid hR1
  clear hR1
  revert g294 g0 g4 g5 g10 g11
  revert fl
  refine fun fl hll => AllN_get (n := 340) (K := fun l => l[294]? = _ → l[0]? = _ → l[4]? = _ → l[5]? = _ → l[10]? = _ → l[11]? = _ → Code.wp Tryd.prog _ _ ⟨l.toArray, []⟩ wr) ?_ fl hll
  iterate 340 intro
  dsimp only [AllN]
  intro g294 g0 g4 g5 g10 g11
  cases g294
  cases g0
  cases g4
  cases g5
  cases g10
  cases g11
  generalize hnn : nl + nd = n at *
  have HNN := Lib.hid hnn
  by_cases hlt : i < n
  · have y0 : (i : Int) < (n : Int) := Int.ofNat_lt.2 hlt
    have YK := Lib.hid (wrap_succ hlt (show n ≤ 1000 by omega))
    have hb316 : i < 316 := by omega
    obtain ⟨f, rfl⟩ : ∃ f', f = f' + 1 := ⟨f - 1, by omega⟩
    have hf2 : n ≤ i + f := by omega
    have HR2 : Hid (R = match rhStep E src n i s1 with
      | .ok i' s' => rhSyms E src nl nd f i' s'
      | .err v s' => (v, s')) := Lib.hid (by rw [HR1.out, rhSyms, hnn, if_pos hlt]; rfl)
    have hsafe : Safe s1.h1 := by rw [hlh]; exact initH_safe hl15 (by omega)
    have hsym := huffSym_any hD1 (.pointer (some ⟨I.F, 5, none⟩)) s1.h1 (.inl ⟨rfl, rfl⟩) hsafe hk1.nb
    clear HR1 hf
    cases hq : hsM src s1.h1 s1.k s1.b s1.nb with
    | eof k b nb =>
      have hq' : hsM src s1.h1 (s1.ln la lb).k (s1.ln la lb).b (s1.ln la lb).nb = .eof k b nb := hq
      have HE : Hid (R = (E.uneV, (HR.eof k b nb).st s1)) := Lib.hid (by rw [HR2.out]; unfold rhStep; rw [hq]; rfl)
      rw [hq'] at hsym
      have hv : (HR.eof k b nb).val E (s1.ln la lb) = .tuple #[vi 0, .iface 119 (.pointer (some E.une))] := rfl
      rw [hv] at hsym
      clear hv hq hq' HR2 hk1 hlh hsafe hD1
      go_wp2_with fail
      refine hsym.mono ?_; rintro r w2 ⟨rfl, ⟨c2, hD2⟩, f2⟩
      have f3 := f1.trans f2
      clear hsym f1 f2
      go_wp2_with fail
      exact hret _ _ _ _ c2 la lb ⟨_, rfl, rfl, And.intro rfl trivial⟩ ⟨HE.out, fun h => by cases h⟩ hD2 f3
    | bad k b nb =>
      have hq' : hsM src s1.h1 (s1.ln la lb).k (s1.ln la lb).b (s1.ln la lb).nb = .bad k b nb := hq
      obtain ⟨ro, hro⟩ : ∃ x, x = s1.ro + (k - s1.k) := ⟨_, rfl⟩
      have HE : Hid (R = (.iface 78 (.int .i64 (ro : Int)), (HR.bad k b nb).st s1)) := Lib.hid (by rw [HR2.out]; unfold rhStep; rw [hq, hro]; rfl)
      rw [hq'] at hsym
      have hv : (HR.bad k b nb).val E (s1.ln la lb) = .tuple #[vi 0, .iface 78 (.int .i64 (ro : Int))] := by rw [hro]; rfl
      rw [hv] at hsym
      clear hv hq hq' HR2 hk1 hlh hsafe hD1 hro
      go_wp2_with fail
      refine hsym.mono ?_; rintro r w2 ⟨rfl, ⟨c2, hD2⟩, f2⟩
      have f3 := f1.trans f2
      clear hsym f1 f2
      go_wp2_with fail
      exact hret _ _ _ _ c2 la lb ⟨_, rfl, rfl, And.intro rfl trivial⟩ ⟨HE.out, fun h => by cases h⟩ hD2 f3
    | sym x k b nb =>
      have hq' : hsM src s1.h1 (s1.ln la lb).k (s1.ln la lb).b (s1.ln la lb).nb = .sym x k b nb := hq
      have hx19 := sym19 hl15 hl19 hlh hq
      obtain ⟨hp1, hp2, hp3, hp4, hp5⟩ := hsM_props hsafe hD1.kle hk1.nb hq'
      obtain ⟨s2, hs2⟩ : ∃ s2, s2 = (HR.sym x k b nb).st s1 := ⟨_, rfl⟩
      have HR3 : Hid (R = match rhX E src n i x s2 with
        | .ok i' s' => rhSyms E src nl nd f i' s'
        | .err v s' => (v, s')) := Lib.hid (by rw [HR2.out]; unfold rhStep; rw [hq, hs2])
      rw [hq'] at hsym
      have hv : (HR.sym x k b nb).val E (s1.ln la lb) = .tuple #[vi x, .nilIface] := rfl
      rw [hv] at hsym
      have hst : (HR.sym x k b nb).st (s1.ln la lb) = s2.ln la lb := by rw [hs2]; rfl
      rw [hst] at hsym
      have hk2 : RK (s2.ln la lb) := by rw [hs2]; exact ⟨hp4, hk1.t1, hk1.t2, hk1.bits, hk1.cb⟩
      have hh2 : s2.h1 = s1.h1 := by rw [hs2]; rfl
      have HL : Hid (∃ l, (∀ x ∈ l, x ≤ 15) ∧ l.length = 19 ∧ s2.h1 = (initH l).2) := Lib.hid ⟨l, hl15, hl19, hh2.trans hlh⟩
      clear hv hq hq' HR2 hk1 hlh hsafe hD1 hp1 hp2 hp3 hp4 hp5 hst hs2 hh2 hl15 hl19
      by_cases h16 : x < 16
      ·
        have y1 : (x : Int) < 16 := Int.ofNat_lt.2 h16
        have z1 : (i : Int) < 316 := Int.ofNat_lt.2 hb316
        have z2 : (0 : Int) ≤ (i : Int) := Int.natCast_nonneg i
        have HR4 : Hid (R = rhSyms E src nl nd f (i + 1) { s2 with bits := s2.bits.set i x }) := Lib.hid (by rw [HR3.out]; unfold rhX; rw [if_pos h16])
        have hx15 : x ≤ 15 := Nat.le_of_lt_succ h16
        have HK : Hid (RK (({ s2 with bits := s2.bits.set i x } : DS).ln la lb)) := Lib.hid ⟨hk2.nb, hk2.t1, hk2.t2, mem_set_le hk2.bits hx15, hk2.cb⟩
        clear HR3 hk2 h16 hx15
        go_wp2_with fail
        refine hsym.mono ?_; rintro r w2 ⟨rfl, ⟨c2, hD2⟩, f2⟩
        have f3 := f1.trans f2
        have cpb := hD2.c_pb
        have cbt := hD2.c_bits i hb316
        have zbt := hD2.fzB i
        have hD3 := hD2.set_bits i x
        have f4 := Frm.setCell f3 (p := ⟨I.B, i, none⟩) (.inr (.inr (.inr (.inl rfl)))) (vi x)
        have HD3 := Lib.hid hD3
        have HF4 := Lib.hid f4
        clear hsym f1 f2 f3 f4 hD2 hD3
        go_wp2_with fail
        exact And.intro ⟨i + 1, by rw [HNN.out]; exact hlt, ⟨_, rfl, rfl, And.intro rfl (And.intro rfl (And.intro rfl (And.intro rfl (And.intro (congrArg some (by first | rfl | exact YK.out)) (And.intro (congrArg (fun z : Nat => some (vi z)) HNN.out.symm) trivial)))))⟩, { s2 with bits := s2.bits.set i x }, la, lb, c2, f, HD3.out, HF4.out, HK.out, HL.out, by have := HNN.out; omega, HR4.out⟩ (meas_step (by first | rfl | exact YK.out) hlt)
      ·
        have y1 : ¬ (x : Int) < 16 := fun h => h16 (Int.ofNat_lt.1 h)
        have hxx : x = 16 ∨ x = 17 ∨ x = 18 := by omega
        have HR4 : Hid (R = match (if x = 16 ∧ i = 0 then RH.err (corV s2.ro) s2
          else if (need src (exN x) 4 s2).1 then rhRep n i x (if x = 16 then s2.bits.getD (i - 1) 0 else 0) (need src (exN x) 4 s2).2
          else .err E.uneV (need src (exN x) 4 s2).2) with
          | .ok i' s' => rhSyms E src nl nd f i' s'
          | .err v s' => (v, s')) := Lib.hid (by rw [HR3.out]; unfold rhX; rw [if_neg h16])
        clear HR3 h16
        go_wp2_with fail
        refine hsym.mono ?_; rintro r w2 ⟨rfl, ⟨c2, hD2⟩, f2⟩
        have f3 := f1.trans f2
        clear hsym f1 f2
        go_upto_block 10 with fail
        rename_i K10 hK10
        refine wp_cut2 _ (rh_sw (vi nl) (vi nd) (vi n) i x hxx (Nat.le_of_lt hb316) hD2 _ ?_ _ ?_) ?_
        · exact ⟨_, rfl, rfl, And.intro rfl (And.intro rfl (And.intro rfl (And.intro rfl (And.intro rfl (And.intro rfl (And.intro rfl trivial))))))⟩
        · intro a' h0 hS'
          exact hret _ s2 a' w2 c2 la lb hS' ⟨by rw [HR4.out, if_pos h0], fun h => by cases h⟩ hD2 f3
        rintro a wx ⟨⟨fl, hfl, rfl, g294, g0, g4, g5, g10, g11, g14, g15, g16, -⟩, rfl, hne⟩
        refine hK10 _ _ ?_
        clear hK10
        have HR5 : Hid (R = match (if (need src (exN x) 4 s2).1 then rhRep n i x (if x = 16 then s2.bits.getD (i - 1) 0 else 0) (need src (exN x) 4 s2).2
          else .err E.uneV (need src (exN x) 4 s2).2) with
          | .ok i' s' => rhSyms E src nl nd f i' s'
          | .err v s' => (v, s')) := Lib.hid (by rw [HR4.out, if_neg hne])
        have hv15 : (if x = 16 then s2.bits.getD (i - 1) 0 else 0) ≤ 15 := by
          split
          · rcases Nat.lt_or_ge (i - 1) s2.bits.length with h | h
            · rw [List.getD_eq_getElem?_getD, List.getElem?_eq_getElem h]; exact hk2.bits _ (List.getElem_mem h)
            · rw [List.getD_eq_getElem?_getD, List.getElem?_eq_none h]; decide
          · decide
        obtain ⟨N0, hN0⟩ : ∃ N0, N0 = need src (exN x) 4 s2 := ⟨_, rfl⟩
        rw [← hN0] at HR5
        have hN : Hid ((N0.1, N0.2.ln la lb) = need src (exN x) 4 (s2.ln la lb)) := Lib.hid (by rw [need_ln, hN0])
        have he7 : exN x ≤ 14 := by rcases hxx with rfl | rfl | rfl <;> decide
        obtain ⟨hkN, heN, hnN⟩ := hk2.need hD2.kle hN he7
        have hNs : N0.2.h1 = s2.h1 ∧ N0.2.bits = s2.bits := by
          obtain ⟨k', ro', b', nb', e⟩ := heN
          have e1 := congrArg DS.h1 e
          have e2 := congrArg DS.bits e
          exact ⟨e1, e2⟩
        clear HR4 hne hN0 heN
        generalize (if x = 16 then s2.bits.getD (i - 1) 0 else 0) = v at *
        revert g294 g0 g4 g5 g10 g11 g14 g15 g16
        revert fl
        refine fun fl hll => AllN_get (n := 340) (K := fun l => l[294]? = _ → l[0]? = _ → l[4]? = _ → l[5]? = _ → l[10]? = _ → l[11]? = _ → l[14]? = _ → l[15]? = _ → l[16]? = _ → Code.wp Tryd.prog _ _ ⟨l.toArray, []⟩ wx) ?_ fl hll
        iterate 340 intro
        dsimp only [AllN]
        intro g294 g0 g4 g5 g10 g11 g14 g15 g16
        cases g294
        cases g0
        cases g4
        cases g5
        cases g10
        cases g11
        cases g14
        cases g15
        cases g16
        go_upto_block 11 with fail
        rename_i K11 hK11
        refine wp_cut2 _ (rh_needx (exN x) he7 (vi nl) (vi nd) (vi i) (vi n) (vi (rpN x)) (vi v) hD2 f3 hk2.nb (N0.1, N0.2.ln la lb) hN _ ?_ _ ?_) ?_
        · exact ⟨_, rfl, rfl, And.intro rfl (And.intro rfl (And.intro rfl (And.intro rfl (And.intro rfl (And.intro rfl (And.intro rfl (And.intro rfl (And.intro rfl trivial))))))))⟩
        · intro a' wy c' hS' hN1 hD' f'
          exact hret _ N0.2 a' wy c' la lb hS' ⟨by rw [HR5.out, if_neg (by rw [hN1]; decide)], fun h => by cases h⟩ hD' f'
        rintro a wy ⟨⟨fl, hfl, rfl, g294, g0, g4, g5, g10, g11, g14, g16, g15, -⟩, hN1, ⟨c3, hD3⟩, f4⟩
        refine hK11 _ _ ?_
        clear hK11 hD2 f3
        have hN1 : N0.1 = true := hN1
        refine wp_cut2 _ (rh_add (vi nl) (vi nd) n i x v hxx hlt hn hD3 hkN.nb (hnN hN1) _ ⟨fl, hfl, rfl, g294, g0, g4, g5, g10, g11, g14, g15, g16, trivial⟩ _ ?_) ?_
        · intro v' s3 a' wq c' he hS' hD' f'
          obtain ⟨s0, he0, rfl⟩ := rhRep_err he
          exact hret v' s0 a' wq c' la lb hS' ⟨by rw [HR5.out, if_pos hN1, he0], rhRep_nn he0⟩ hD' (f4.trans f')
        rintro a wq ⟨i', s3, c4, he, ⟨fl2, hfl2, rfl, k294, k0, k4, k5, k10, k11, -⟩, hD4, f5⟩
        obtain ⟨s0, he0, rfl, hii, hin, b', nb', bits', hs0, hnb', hbits'⟩ := rhRep_ok he
        have hmu2 : fl2.toArray.getD 10 undef = vi i' := by simp only [Array.getD_eq_getD_getElem?, List.getElem?_toArray, k10]; rfl
        have hkF : RK (s0.ln la lb) := by
          rw [hs0]
          exact ⟨Nat.le_trans hnb' hkN.nb, hkN.t1, hkN.t2, hbits' hv15 hkN.bits, hkN.cb⟩
        have hh0 : s0.h1 = s2.h1 := by rw [hs0]; exact hNs.1
        obtain ⟨l, hl15, hl19, hlh⟩ := HL.out
        refine And.intro ⟨i', by rw [HNN.out]; exact hin, ⟨fl2, hfl2, rfl, k294, k0, k4, k5, k10, by rw [HNN.out]; exact k11, trivial⟩, s0, la, lb, c4, f, hD4, f4.trans f5, hkF, ⟨l, hl15, hl19, hh0.trans hlh⟩, by have := HNN.out; omega, by rw [HR5.out, if_pos hN1, he0]⟩ ?_
        show n - (intOf (fl2.toArray.getD 10 undef)).toNat < n - (intOf (vi i)).toNat
        rw [hmu2]
        show n - i' < n - i
        omega
  · obtain rfl : i = n := by omega
    have y0 : ¬ (i : Int) < (i : Int) := by omega
    obtain ⟨f, rfl⟩ : ∃ f', f = f' + 1 := ⟨f - 1, by omega⟩
    have HR2 : Hid (R = rhEnd nl nd s1) := Lib.hid (by rw [HR1.out, rhSyms, hnn, if_neg (Nat.lt_irrefl _)])
    clear HR1
    go_wp2_with fail
    exact And.intro ⟨_, rfl, rfl, And.intro rfl (And.intro rfl (And.intro rfl (And.intro rfl trivial)))⟩ ⟨s1, la, lb, c1, hD1, f1, hk1, HR2.out⟩
end
end Go.Proofs.YtbbnibbdiiffkaaDoor
