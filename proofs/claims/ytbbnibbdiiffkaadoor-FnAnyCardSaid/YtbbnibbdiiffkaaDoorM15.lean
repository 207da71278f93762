/- A table of codes, made of lengths: all codes are laid. A table of codes, made of lengths: the links are made. A table of codes, made of lengths: the walk. -/
import Derived.Test.YtbbnibbdiiffkaaDoorM14

/- A table of codes, made of lengths: all codes are laid. -/
namespace Go.Proofs.YtbbnibbdiiffkaaDoor
open Go.RowKit

theorem w64k {k : Nat} (h : k ≤ 1000) : wrap64 ((k : Int) * 16) = (k : Int) * 16 := by unfold wrap64; omega
theorem symArith2 {n c k : Nat} (h0 : 0 < n) (hn : n ≤ 15) (hc : c < 32768) (hk : k < 1000) :
    (n : Int) < 16 ∧ (0 : Int) ≤ (n : Int) ∧ wrap64 ((c : Int) + 1) = ((c + 1 : Nat) : Int) ∧ bits .or .i64 (wrap64 ((k : Int) * 16)) (n : Int) = ((16 * k + n : Nat) : Int) ∧ IntKind.u32.wrap ((16 * k + n : Nat) : Int) = ((16 * k + n : Nat) : Int) ∧
    IntKind.u16.wrap (c : Int) = (c : Int) ∧ wrap64 ((rev 16 c : Nat) : Int) = ((rev 16 c : Nat) : Int) ∧ wrap64 (16 - (n : Int)) = ((16 - n : Nat) : Int) ∧ IntKind.u64.wrap ((16 - n : Nat) : Int) = ((16 - n : Nat) : Int) ∧
    (∀ x : Int, x = ((16 - n : Nat) : Int) → Value.int .i64 (((rev 16 c : Nat) : Int) / 2 ^ (16 - n)) = vi (rev n c)) ∧ ((n : Int) == 0) = false ∧ c < 65536 ∧ rev n c < 65536 := by
  obtain ⟨z1, z2, z3, z4, z5, z6, z7, z8, z9, z10, z11, z12⟩ := symArith h0 hn hc hk
  exact ⟨z1, z2, z3, z4, z5, z6, z7, z8, z9, fun _ _ => congrArg (Value.int .i64) z10, z11, z12, rev_bd n c (by omega)⟩

section
variable {w wr : World} {b o t H : Nat} {cs0 : Array Value} {l : List Nat}
set_option maxRecDepth 100000 in
set_option maxHeartbeats 4000000 in
theorem init_lay (ad : Option Addr) (cap : Nat) (hcw : ∀ j, j < l.length → ∃ x off, ad = some ⟨x, off, none⟩ ∧ x < w.heap.size ∧ x ≠ b ∧ w.cell? ⟨x, off + j, none⟩ = some (vi (l.getD j 0)))
    (h15 : ∀ x ∈ l, x ≤ 15) (hlen : l.length ≤ 1000) (hc : enL l (maxL l) = 2 ^ maxL l ∨ (enL l (maxL l) = 1 ∧ maxL l = 1)) (hM : Mid w wr b o t cs0 l H 0) (hbH : b < H) (hwH : w.heap.size ≤ H)
    (a : Act) (hS : Slots 317 [(0, .pointer (some ⟨b, o, none⟩)), (1, .slice ad l.length cap), (11, .pointer (some ⟨H + 1, 0, none⟩))] a) (Q : Exit → Act → World → Prop) :
    Code.wp Tryd.prog (code39 43) (Exit.then (fun a' wx => Slots 317 [] a' ∧ Mid w wx b o t cs0 l H l.length) Q) a wr := by
  obtain ⟨fl, hfl, rfl, g0, g1, g11, -⟩ := hS
  have hm15 := maxL_le h15
  conv => arg 2; whnf
  revert g0 g1 g11
  revert fl
  refine fun fl hll => AllN_get (n := 317) (K := fun l => l[0]? = _ → l[1]? = _ → l[11]? = _ → Code.wp Tryd.prog _ _ ⟨l.toArray, []⟩ wr) ?_ fl hll
  iterate 317 intro
  dsimp only [AllN]
  intro g0 g1 g11
  cases g0
  cases g1
  cases g11
  obtain ⟨wo, rfl⟩ : ∃ wo : World, wo = wr := ⟨_, rfl⟩
  go_wp2_with fail
  refine wp_loop (fun a wx => ∃ k, k ≤ l.length ∧ Slots 317 (keep39 b o H l.length k (.slice ad l.length cap)) a ∧ Mid w wx b o t cs0 l H k) (fun a _ => l.length - (intOf (a.tmps.getD 170 undef)).toNat)
    ⟨0, Nat.zero_le _, ⟨_, rfl, rfl, And.intro rfl (And.intro rfl (And.intro rfl (And.intro rfl (And.intro rfl trivial))))⟩, hM⟩ ?_
  clear hM
  rintro a wr ⟨k, hk, ⟨fl, hfl, rfl, g0, g11, g168, g169, g170, -⟩, hMid⟩
  have hmu : fl.toArray.getD 170 undef = vi k := by simp only [Array.getD_eq_getD_getElem?, List.getElem?_toArray, g170]; rfl
  dsimp only []
  rw [hmu]
  clear hmu
  revert g0 g11 g168 g169 g170
  revert fl
  refine fun fl hll => AllN_get (n := 317) (K := fun l => l[0]? = _ → l[11]? = _ → l[168]? = _ → l[169]? = _ → l[170]? = _ → Code.wp Tryd.prog _ _ ⟨l.toArray, []⟩ wr) ?_ fl hll
  iterate 317 intro
  dsimp only [AllN]
  intro g0 g11 g168 g169 g170
  cases g0
  cases g11
  cases g168
  cases g169
  cases g170
  by_cases hlt : k < l.length
  · obtain ⟨x, off, rfl, q1, q2, q3⟩ := hcw k hlt
    have q4 : wr.cell? ⟨x, off + k, none⟩ = some (vi (l.getD k 0)) := by rw [hMid.fr.cell q1 q2]; exact q3
    have YK := Lib.hid (wrap_succ hlt hlen)
    by_cases hx0 : l.getD k 0 = 0
    · have HMID := Lib.hid (hMid.skip hlt hx0)
      rw [hx0] at q4
      clear hMid hcw q3 hx0
      go_wp2_with fail
      exact ⟨⟨k + 1, hlt, ⟨_, rfl, rfl, And.intro rfl (And.intro rfl (And.intro rfl (And.intro rfl (And.intro (congrArg some (by first | rfl | exact YK.out)) trivial))))⟩, HMID.out⟩, meas_step (by first | rfl | exact YK.out) hlt⟩
    · have hn15 := h15 _ (getD_lt hlt)
      have hn0 : 0 < l.getD k 0 := Nat.pos_of_ne_zero hx0
      have hcs := cd_small h15 hc hlt hx0
      have HLONG := Lib.hid (fun h9 => cd_long h15 hc hlt (show 9 < l.getD k 0 from h9))
      have hnc := ncF_at l k hlt hx0
      have HNS := Lib.hid (ncF_succ l k hlt hx0)
      have hAA := hMid.nx
      have hTT := hMid.ht
      have HBIG := Lib.hid hMid.big
      have hFF := hMid.fr
      clear hMid
      generalize hxx : l.getD k 0 = n at *
      have HXX := Lib.hid hxx
      have cA := hAA.cell n (Nat.lt_succ_of_le hn15)
      have zA := hAA.fz n
      rw [hnc] at cA
      generalize hcc : cdL l k = c at *
      have HCD := Lib.hid hcc
      have hc15 : c < 32768 := Nat.lt_of_lt_of_le hcs (pow_le15 hn15)
      obtain ⟨z1, z2, z3, z4, z5, z6, z7, z8, z9, z10, z11, z12, z13⟩ := symArith2 hn0 hn15 hc15 (Nat.lt_of_lt_of_le hlt hlen)
      have Z10 := Lib.hid (z10 _ rfl)
      have hne1 : b ≠ H + 1 := Nat.ne_of_lt (Nat.lt_succ_of_lt hbH)
      have hrv := fun w' : World => rev16_any (w := w') c z12
      have hst := hAA.set n (c + 1)
      have hFs := Frm.setCell (S := fun k => k = H + 1) (Frm.refl _ wr) (p := ⟨H + 1, n, none⟩) rfl (vi (c + 1))
      have HMS : Hid (Mis w (wr.setCell ⟨H + 1, n, none⟩ (vi (c + 1))) b o t cs0 l H k) := Lib.hid ⟨hst.congr (fun j _ => HNS.out j), hTT.frm hFs hne1, fun h9 => (HBIG.out h9).frm hFs (by omega) (fun i _ => by omega),
        Frm.store hFF (p := ⟨H + 1, n, none⟩) (Nat.le_succ_of_le hwH) (vi (c + 1))⟩
      generalize hr16 : rev 16 c = r16 at *
      generalize hrn : rev n c = r at *
      generalize hch : 16 * k + n = ch at *
      have z3' : (c : Int) + 1 = ((c + 1 : Nat) : Int) := by omega
      generalize hc1 : c + 1 = c1 at *
      have z3'' : wrap64 (c1 : Int) = (c1 : Int) := by rw [← z3', z3, z3']
      have z4' : bits .or .i64 ((k : Int) * 16) (n : Int) = (ch : Int) := by rw [← z4, w64k (Nat.le_of_lt (Nat.lt_of_lt_of_le hlt hlen))]
      have z5' : (ch : Int) % 4294967296 = (ch : Int) := by rw [IntKind.wrap_u32] at z5; exact z5
      have HCS := Lib.hid hcs
      have HCH := Lib.hid hch
      have HRN := Lib.hid hrn
      clear hAA hTT hFF hst hFs hcw q3 hxx hcc hnc HBIG hcs hr16 hrn hc1 hch hx0 hne1 z12 hc15 z10
      go_wp2_with fail
      refine (hrv _).mono ?_; rintro r0 w6 ⟨rfl, nn, rfl⟩
      generalize World.setCell _ _ _ = w5 at *
      have HM6 : Hid (Mis w (w5.drewN nn) b o t cs0 l H k) := Lib.hid ⟨HMS.out.nx.drewN nn, HMS.out.ht.drewN nn, fun h9 => (HMS.out.big h9).drewN nn, HMS.out.fr.drewN nn⟩
      clear HMS q4 zA cA hrv
      generalize w5.drewN nn = w6 at *
      repeat (fail_if_success (show Code.wp _ (Code.seq (Code.region 52 _ _) (Code.cond _ _ _)) _ _ _)
              first | go_values | go_skip | go_guarded | go_step | go_upon | go_simp)
      rename_i K52 hK52
      have hcut : ∀ (fr : Act) (Q : Exit → Act → World → Prop), Slots 317 [(0, .pointer (some ⟨b, o, none⟩)), (11, .pointer (some ⟨H + 1, 0, none⟩)), (168, .slice (some ⟨x, off, none⟩) l.length cap), (169, vi l.length), (170, vi k), (19, vi n), (21, .int .u32 (ch : Int)), (22, vi r)] fr →
          Code.wp Tryd.prog (code39 52) (Exit.then (fun a' wx => Slots 317 (keep39 b o H l.length k (.slice (some ⟨x, off, none⟩) l.length cap)) a' ∧ Mid w wx b o t cs0 l H (k + 1)) Q) fr w6 := fun fr Q hfr => by
        by_cases h9 : n ≤ 9
        · exact init_short k n r c ch l.length _ hlt HXX.out hn0 h9 HCD.out HCS.out HRN.out HCH.out hlen HM6.out hbH fr hfr Q
        · have hL := HLONG.out (Nat.lt_of_not_le h9)
          exact init_long k n r c ch l.length _ HXX.out (Nat.lt_of_not_le h9) hn15 HCD.out HRN.out HCH.out z13 (by rw [HRN.out]; exact hL) hm15 HM6.out hbH hwH fr hfr Q
      refine wp_cut2 _ (hcut _ _ ?_) ?_
      · exact ⟨_, rfl, rfl, And.intro rfl (And.intro rfl (And.intro rfl (And.intro rfl (And.intro rfl (And.intro rfl (And.intro rfl (And.intro (congrArg some Z10.out) trivial)))))))⟩
      clear hcut HM6 HLONG HNS
      rintro a wz ⟨⟨fl, hfl, rfl, g0, g11, g168, g169, g170, -⟩, hMid⟩
      refine hK52 _ _ ?_
      clear hK52
      revert g0 g11 g168 g169 g170
      revert fl
      refine fun fl hll => AllN_get (n := 317) (K := fun l => l[0]? = _ → l[11]? = _ → l[168]? = _ → l[169]? = _ → l[170]? = _ → Code.wp _ _ _ ⟨l.toArray, []⟩ wz) ?_ fl hll
      iterate 317 intro
      dsimp only [AllN]
      intro g0 g11 g168 g169 g170
      cases g0
      cases g11
      cases g168
      cases g169
      cases g170
      clear z1 z2 z3 z3' z3'' z4 z4' z5 z5' z6 z7 z8 z9 z11 z13 Z10
      go_wp2_with fail
      exact ⟨⟨k + 1, hlt, ⟨_, rfl, rfl, And.intro rfl (And.intro rfl (And.intro rfl (And.intro rfl (And.intro (congrArg some (by first | rfl | exact YK.out)) trivial))))⟩, hMid⟩, meas_step (by first | rfl | exact YK.out) hlt⟩
  · obtain rfl : k = l.length := by omega
    clear hcw
    go_wp2_with fail
    exact ⟨⟨_, rfl, rfl, trivial⟩, hMid⟩
end
end Go.Proofs.YtbbnibbdiiffkaaDoor

/- A table of codes, made of lengths: the links are made. -/
namespace Go.Proofs.YtbbnibbdiiffkaaDoor
open Go.RowKit

section
variable {w w1 : World} {b o t H : Nat} {cs0 : Array Value} {l : List Nat}
set_option maxRecDepth 100000 in
set_option maxHeartbeats 4000000 in
theorem init_links (m M : Nat) (sl : Value) (HM : Hid (maxL l = M)) (Hm : Hid (minL l = m)) (HH : Hid (w.heap.size = H)) (hbs : b < H) (hM15 : M ≤ 15) (hl512 : 9 < M → lnkL l ≤ 512)
    (hAm : Arr w1 (H + 1) 113 16 (nxF l (M + 1))) (hTm : HTab w1 b o t cs0 m (fun _ => 0) (.slice none 0 0) 0) (fm : Frm (fun k => k = b) w w1) (hsm : w1.heap.size = H + 2)
    (a : Act) (hS : Slots 317 [(0, .pointer (some ⟨b, o, none⟩)), (1, sl), (7, vi M), (11, .pointer (some ⟨H + 1, 0, none⟩))] a) (Q : Exit → Act → World → Prop) :
    Code.wp Tryd.prog (code39 28) (Exit.then (fun a' wx => Slots 317 [(0, .pointer (some ⟨b, o, none⟩)), (1, sl), (11, .pointer (some ⟨H + 1, 0, none⟩))] a' ∧ Mid w wx b o t cs0 l H 0) Q) a w1 := by
  obtain ⟨fl, hfl, rfl, g0, g1, g7, g11, -⟩ := hS
  conv => arg 2; whnf
  revert g0 g1 g7 g11
  revert fl
  refine fun fl hll => AllN_get (n := 317) (K := fun l => l[0]? = _ → l[1]? = _ → l[7]? = _ → l[11]? = _ → Code.wp Tryd.prog _ _ ⟨l.toArray, []⟩ w1) ?_ fl hll
  iterate 317 intro
  dsimp only [AllN]
  intro g0 g1 g7 g11
  cases g0
  cases g1
  cases g7
  cases g11
  by_cases h9 : 9 < M
  ·
    have hl512' := hl512 h9
    have hcq : (stL l 10 : Int) / 2 = ((lnkL l : Nat) : Int) := by unfold lnkL; omega
    have c10 := hAm.cell 10 (by decide)
    have hnx : nxF l (M + 1) 10 = stL l 10 := by unfold nxF; rw [if_pos (by omega)]
    rw [hnx] at c10
    have hq : M - 9 ≤ 6 := by omega
    have hpw := wp2 (q := M - 9) (by omega)
    have hlk512 : lnkL l < 100000 := by omega
    have hpm1 : 2 ^ (M - 9) ≤ 64 := Nat.pow_le_pow_right (n := 2) (by decide) hq
    have hpm0 := Nat.two_pow_pos (M - 9)
    have hM9 : IntKind.u64.wrap ((M : Int) - 9) = ((M - 9 : Nat) : Int) := wu64sub (a := 9) (by omega) (by omega)
    have HPM : Hid (2 ^ (maxL l - 9) = 2 ^ (M - 9)) := Lib.hid (by rw [HM.out])
    have HLN : Hid (lvOf l H = .slice (some ⟨H + 2, 0, none⟩) (512 - lnkL l) (512 - lnkL l)) := Lib.hid (by unfold lvOf; rw [HM.out, if_pos h9])
    have HMK : Hid (mkOf l = 2 ^ (M - 9) - 1) := Lib.hid (by unfold mkOf; rw [HM.out, if_pos h9])
    generalize 2 ^ (M - 9) = pm at *
    have hk0 : (pm : Int) - 1 = ((pm - 1 : Nat) : Int) := by omega
    have hk1 : wrap64 ((pm : Int) - 1) = ((pm - 1 : Nat) : Int) := w64sub (a := 1) hpm0 (by omega)
    have hk2 : IntKind.u32.wrap ((pm - 1 : Nat) : Int) = ((pm - 1 : Nat) : Int) := wu32 (by omega)
    generalize hpk : pm - 1 = pk at *
    have HPK := Lib.hid hpk
    clear hpk
    have hk3 : wrap64 (512 - ((lnkL l : Nat) : Int)) = ((512 - lnkL l : Nat) : Int) := w64sub (b := 512) (hl512 h9) (by omega)
    have hk4 : IntKind.u64.wrap ((lnkL l : Nat) : Int) = ((lnkL l : Nat) : Int) := wu64 (by omega)
    have HLF := Lib.hid (lnF_zero l)
    have HLS := Lib.hid (lnF_succ l)
    have HLA := Lib.hid (lnF_all l (by rw [HM.out]; exact h9) (hl512 h9))
    generalize hlk : lnkL l = lk at *
    have HLK := Lib.hid hlk
    have HL5 := Lib.hid (hl512 h9)
    clear hlk
    have y2 : (9 : Int) < (M : Int) := by omega
    have c514 := hTm.c_mask
    have z514 := hTm.fz (o + 514)
    have hTm2 : HTab (w1.setCell ⟨b, o + 514, none⟩ (.int .u32 (pk : Int))) b o t cs0 m (fun _ => 0) (.slice none 0 0) pk := hTm.set_mask pk
    have fm2 := fm.setCell (p := ⟨b, o + 514, none⟩) rfl (.int .u32 (pk : Int))
    have hAm2 := hAm.frm (Frm.setCell (S := fun k => k = b) (Frm.refl _ w1) (p := ⟨b, o + 514, none⟩) rfl (.int .u32 (pk : Int))) (by omega)
    have hsm2 : (w1.setCell ⟨b, o + 514, none⟩ (.int .u32 (pk : Int))).heap.size = H + 2 := by simp [hsm]
    have c10b := hAm2.cell 10 (by decide)
    rw [hnx] at c10b
    have hmk := mk52 (512 - lk) (by omega)
    have hn0 : (512 : Int) - (lk : Int) = ((512 - lk : Nat) : Int) := by omega
    generalize hN : 512 - lk = N at *
    have HN := Lib.hid hN
    clear hN
    have hTm3 := HTab.frm hTm2 (Frm.alloc (S := fun _ => False) (Frm.refl _ _) (.cells (madeCells #[.slice none 0 0] N) 115)) (fun h => h)
    have hAm3 := Arr.frm hAm2 (Frm.alloc (S := fun _ => False) (Frm.refl _ _) (.cells (madeCells #[.slice none 0 0] N) 115)) (fun h => h)
    have fm3 := fm2.alloc (.cells (madeCells #[.slice none 0 0] N) 115)
    have hsm3 : ((w1.setCell ⟨b, o + 514, none⟩ (.int .u32 (pk : Int))).alloc (.cells (madeCells #[.slice none 0 0] N) 115)).heap.size = H + 3 := by simp [hsm]
    have hl3 : ((w1.setCell ⟨b, o + 514, none⟩ (.int .u32 (pk : Int))).alloc (.cells (madeCells #[.slice none 0 0] N) 115)).heap[H + 2]? = some (.cells (madeCells #[.slice none 0 0] N) 115) := by rw [← hsm2]; exact heap_alloc_new _ _
    have c513b := hTm3.c_lv
    have z513b := hTm3.fz (o + 513)
    have hTm4 := hTm3.set_lv (.slice (some ⟨H + 2, 0, none⟩) N N)
    have hF4 := Frm.setCell (S := fun k => k = b) (Frm.refl _ ((w1.setCell ⟨b, o + 514, none⟩ (.int .u32 (pk : Int))).alloc (.cells (madeCells #[.slice none 0 0] N) 115))) (p := ⟨b, o + 513, none⟩) rfl (.slice (some ⟨H + 2, 0, none⟩) N N)
    have hAm4 := hAm3.frm hF4 (by omega)
    have fm4 := fm3.trans hF4
    have hL4 : LRow (((w1.setCell ⟨b, o + 514, none⟩ (.int .u32 (pk : Int))).alloc (.cells (madeCells #[.slice none 0 0] N) 115)).setCell ⟨b, o + 513, none⟩ (.slice (some ⟨H + 2, 0, none⟩) N N)) (.slice (some ⟨H + 2, 0, none⟩) N N) N 0 pm (H + 2) (fun i => H + 3 + i) (fun _ _ => 0) :=
      ⟨rfl, ⟨_, by rw [hF4.block (H + 2) (lt_of_block hl3) (by omega)]; exact hl3, size_madeCells _ _, fun i hi => absurd hi (Nat.not_lt_zero i)⟩, fun i hi => absurd hi (Nat.not_lt_zero i)⟩
    have hsm4 : (((w1.setCell ⟨b, o + 514, none⟩ (.int .u32 (pk : Int))).alloc (.cells (madeCells #[.slice none 0 0] N) 115)).setCell ⟨b, o + 513, none⟩ (.slice (some ⟨H + 2, 0, none⟩) N N)).heap.size = H + 3 := by simp [hsm]
    have HT4 := Lib.hid hTm4
    have HA4 := Lib.hid hAm4
    have HF4 := Lib.hid fm4
    have HL4 := Lib.hid hL4
    have HS4 := Lib.hid hsm4
    clear hTm hTm2 hTm3 fm fm2 fm3 hAm hAm2 hAm3 hnx hl512 hTm4 hF4 hAm4 fm4 hL4 hsm4 hsm3 hl3
    have HPW := Lib.hid hpw
    clear hpw
    go_upto_region 30 with fail
    generalize hXX : wrap64 (2 ^ (M - 9)) = X at *
    clear hXX
    obtain rfl : X = (pm : Int) := HPW.out
    go_wp2_with fail
    generalize World.setCell (World.alloc _ _) _ _ = w5 at *
    clear c10 hsm2 c514 z514 c513b z513b c10b hsm hmk hk1 hk2 hk3 hk0 hn0 hM9
    go_loopw [15] (fun jv wr => ∃ i, i ≤ N ∧ jv = .int .u64 ((lk + i : Nat) : Int) ∧ Arr wr (H + 1) 113 16 (nxF l (M + 1)) ∧ HTab wr b o t cs0 m (lnF l i) (.slice (some ⟨H + 2, 0, none⟩) N N) pk ∧
      LRow wr (.slice (some ⟨H + 2, 0, none⟩) N N) N i pm (H + 2) (fun i => H + 3 + i) (fun _ _ => 0) ∧ Frm (fun k => k = b) w wr ∧ wr.heap.size = H + 3 + i) (fun jv _ => 512 - (intOf jv).toNat)
    case atStart => exact ⟨0, Nat.zero_le _, rfl, HA4.out, HT4.out.congr (fun n _ => HLF.out n), HL4.out, HF4.out, HS4.out⟩
    case round =>
      clear HA4 HT4 HL4 HF4 HS4 w5
      obtain ⟨i, hi, rfl, hA, hT, hL, f5, hs5⟩ := hrel
      by_cases hiN : i < N
      ·
        have hj512 : lk + i < 512 := by have := HN.out; omega
        have hsub := wu64sub (a := lk) (b := lk + i) (Nat.le_add_right _ _) (by omega)
        rw [Nat.add_sub_cancel_left] at hsub
        have HLS1 := Lib.hid (HLS.out i hj512)
        have YK := Lib.hid (wrap_succ64 (k := lk + i) (n := 512) hj512 (by omega))
        generalize hj : lk + i = j at *
        have HJ := Lib.hid hj
        have hr16 := rev_bd 16 j (Nat.le_refl _)
        have hr9 : rev 9 j < 512 := rev_lt 9 j
        have y1 : (j : Int) < 512 := by omega
        have y2 := wu16 (n := j) (by omega)
        have y3 : ((rev 16 j : Nat) : Int) / 128 = ((rev 9 j : Nat) : Int) := by
          have := rev16_shr 9 j (by decide)
          rw [show (2 : Nat) ^ (16 - 9) = 128 from rfl] at this
          rw [← this]; rfl
        have hrv := fun w' : World => rev16_any (w := w') j (by omega)
        generalize rev 16 j = r16 at *
        generalize rev 9 j = r9 at *
        have y5 := chunk_or (i := i) (by omega)
        have y6 := wu32 (n := 16 * i + 10) (by omega)
        have y7 : (r9 : Int) < 512 := by omega
        have y8 : (0 : Int) ≤ (r9 : Int) := by omega
        have y9 : (i : Int) < (N : Int) := by omega
        have y10 : (0 : Int) ≤ (i : Int) := by omega
        clear hj
        go_wp2_with fail
        refine (hrv _).mono ?_; rintro r w6 ⟨rfl, nn, rfl⟩
        generalize hcv : 16 * i + 10 = cv at *
        have HCV := Lib.hid hcv
        clear hcv
        have hT6 := hT.drewN nn
        have hA6 := hA.drewN nn
        have hL6 := hL.drewN nn
        have f6 := f5.drewN nn
        have hs6 : (wr.drewN nn).heap.size = H + 3 + i := hs5
        clear hT hA hL f5 hs5 hrv
        generalize wr.drewN nn = w6 at *
        have cc := hT6.c_ch r9 hr9
        have zc := hT6.fz (o + 1 + r9)
        have hT7 : HTab (w6.setCell ⟨b, o + 1 + r9, none⟩ (.int .u32 (cv : Int))) b o t cs0 m (fun j => if j = r9 then cv else lnF l i j) (.slice (some ⟨H + 2, 0, none⟩) N N) pk := hT6.set_ch r9 cv hr9
        have hF7 := Frm.setCell (S := fun k => k = b) (Frm.refl _ w6) (p := ⟨b, o + 1 + r9, none⟩) rfl (.int .u32 (cv : Int))
        have hA7 := hA6.frm hF7 (by omega)
        have hL7 := hL6.frm hF7 (by omega) (fun i _ => by omega)
        have f7 := f6.trans hF7
        have hs7 : (w6.setCell ⟨b, o + 1 + r9, none⟩ (.int .u32 (cv : Int))).heap.size = H + 3 + i := by simp [hs6]
        have HT7 := Lib.hid hT7
        have HA7 := Lib.hid hA7
        have HL7 := Lib.hid hL7
        have HF7 := Lib.hid f7
        have HS7 := Lib.hid hs7
        clear hT6 hA6 hL6 f6 hs6 hT7 hA7 hL7 hF7 f7 hs7
        go_wp2_with fail
        generalize World.setCell _ _ _ = w7 at *
        clear cc zc
        have d1 := HT7.out.c_lv
        obtain ⟨v2, d2⟩ := HL7.out.c_some i hiN
        have zL := HL7.out.fz i
        have hmk := mk115 pm (by omega)
        have hbw : b < w7.heap.size := by have := HS7.out; omega
        have hLw : H + 2 < w7.heap.size := by have := HS7.out; omega
        have e1 : ∀ ob, (w7.drew.alloc ob).cell? ⟨b, o + 513, none⟩ = some (.slice (some ⟨H + 2, 0, none⟩) N N) := fun ob => (World.cell?_of_block (w := w7) (Below.heap_alloc w7.drew ob b hbw)).trans d1
        have e2 : ∀ ob, (w7.drew.alloc ob).cell? ⟨H + 2, i, none⟩ = some v2 := fun ob => (World.cell?_of_block (w := w7) (Below.heap_alloc w7.drew ob (H + 2) hLw)).trans d2
        have e3 : ∀ ob, (w7.drew.alloc ob).frozen? ⟨H + 2, i, none⟩ = false := fun ob => (World.frozen?_of_block (w := w7) (Below.heap_alloc w7.drew ob (H + 2) hLw)).trans zL
        have hs7' : w7.drew.heap.size = H + 3 + i := HS7.out
        clear y1 y2 y3 y5 y6 y7 y8 hsub hr16
        go_region
        generalize hM0 : madeCells #[Value.int .u32 0] pm = M0 at *
        have hmz : M0.size = pm := by rw [← hM0]; exact size_madeCells _ _
        have hmg : ∀ j, j < pm → M0[j]? = some (u32 0) := fun j hj => by rw [← hM0]; exact made_get _ _ j hj
        have hL8 := HL7.out.more2 hiN HS7.out.symm (fun i _ => by omega) hLw (fun _ => rfl) (H + 3 + i) HS7.out.symm M0 hmz hmg
        have hF8 := (Frm.setCell (S := fun k => k = H + 2) (Frm.refl _ w7) (p := ⟨H + 2, i, none⟩) rfl (.slice (some ⟨H + 3 + i, 0, none⟩) pm pm)).alloc (.cells M0 49)
        have hT8 : HTab _ b o t cs0 m (lnF l (i + 1)) (.slice (some ⟨H + 2, 0, none⟩) N N) pk := (HT7.out.frm hF8 (by omega)).congr (fun n hn => HLS1.out n hn)
        have hA8 := HA7.out.frm hF8 (by omega)
        have f8 := (Frm.store HF7.out (p := ⟨H + 2, i, none⟩) (by rw [HH.out]; exact Nat.le_add_right _ _) (.slice (some ⟨H + 3 + i, 0, none⟩) pm pm)).alloc (.cells M0 49)
        have hs8 : ((w7.setCell ⟨H + 2, i, none⟩ (.slice (some ⟨H + 3 + i, 0, none⟩) pm pm)).alloc (.cells M0 49)).heap.size = H + 3 + (i + 1) := by rw [← Nat.add_assoc, ← HS7.out]; simp
        have HT8 := Lib.hid hT8
        have HA8 := Lib.hid hA8
        have HL8 := Lib.hid hL8
        have HF8 := Lib.hid f8
        have HS8 := Lib.hid hs8
        have hjv : (.int .u64 ((j + 1 : Nat) : Int) : Value) = .int .u64 ((lk + (i + 1) : Nat) : Int) := by rw [← HJ.out, Nat.add_assoc]
        have HJV := Lib.hid hjv
        clear d1 d2 zL hmk e1 e2 e3 hs7' hM0 hmz hmg hL8 hF8 hT8 hA8 f8 hs8 hjv HT7 HA7 HL7 HF7 HS7
        generalize World.alloc _ _ = w8 at *
        go_wp2_with fail
        go_roundw
        case rel => exact ⟨i + 1, hiN, by first | exact HJV.out | exact YK.out.trans HJV.out, HA8.out.drewN 1, HT8.out.drewN 1, HL8.out.drewN 1, HF8.out.drewN 1, HS8.out⟩
        case measure => refine meas64 ?_ hj512; first | rfl | exact YK.out
      · obtain rfl : i = N := by omega
        have h5 : lk + i = 512 := by have := HN.out; have := HL5.out; omega
        have hMid : Mid w wr b o t cs0 l H 0 := ⟨hA.congr fun n _ => by rw [← HM.out]; exact nxF_ncF l n, by rw [HLN.out, HMK.out, Hm.out]; exact hT.congr (fun j _ => HLA.out j),
          fun _ => by rw [HLN.out, HPM.out, HLK.out, HN.out]; exact hL, f5⟩
        have HMID := Lib.hid hMid
        rw [h5]
        have y1 : ¬ (((512 : Nat) : Int) < 512) := by decide
        clear hMid hA hT hL f5 hs5 HLN HMK HPM HLK HN h5
        go_wp2_with fail
        exact ⟨⟨_, rfl, rfl, And.intro rfl (And.intro rfl (And.intro rfl trivial))⟩, HMID.out⟩
  ·
    have hlv : lvOf l H = .slice none 0 0 := by unfold lvOf; rw [HM.out, if_neg h9]
    have hmk : mkOf l = 0 := by unfold mkOf; rw [HM.out, if_neg h9]
    have y2 : ¬ (9 : Int) < (M : Int) := by omega
    have hMid : Mid w w1 b o t cs0 l H 0 := ⟨hAm.congr fun n _ => by rw [← HM.out]; exact nxF_ncF l n, by
      rw [hlv, hmk, Hm.out]; exact hTm.congr fun j _ => by rw [chAt, HM.out, if_neg (fun e => h9 e.1)], fun e => absurd (HM.out ▸ e) h9, fm⟩
    have HMID := Lib.hid hMid
    clear hMid hlv hmk hAm hTm fm hsm
    go_wp2_with fail
    exact ⟨⟨_, rfl, rfl, And.intro rfl (And.intro rfl (And.intro rfl trivial))⟩, HMID.out⟩
end
end Go.Proofs.YtbbnibbdiiffkaaDoor

/- A table of codes, made of lengths: the walk. -/
namespace Go.Proofs.YtbbnibbdiiffkaaDoor
open Go.RowKit

section
variable {wr : World}
set_option maxRecDepth 100000 in
set_option maxHeartbeats 4000000 in
theorem init_check (e M : Nat) (p0 sl v6 p11 : Value) (hM : M ≤ 15) (hg : e = 2 ^ M ∨ (e = 1 ∧ M = 1))
    (a : Act) (hS : Slots 317 [(0, p0), (1, sl), (6, v6), (7, vi M), (10, vi e), (11, p11)] a) (Q : Exit → Act → World → Prop) :
    Code.wp Tryd.prog (code39 25) (Exit.then (fun a' wx => Slots 317 [(0, p0), (1, sl), (6, v6), (7, vi M), (11, p11)] a' ∧ wx = wr) Q) a wr := by
  obtain ⟨fl, hfl, rfl, g0, g1, g6, g7, g10, g11, -⟩ := hS
  conv => arg 2; whnf
  revert g0 g1 g6 g7 g10 g11
  revert fl
  refine fun fl hll => AllN_get (n := 317) (K := fun l => l[0]? = _ → l[1]? = _ → l[6]? = _ → l[7]? = _ → l[10]? = _ → l[11]? = _ → Code.wp Tryd.prog _ _ ⟨l.toArray, []⟩ wr) ?_ fl hll
  iterate 317 intro
  dsimp only [AllN]
  intro g0 g1 g6 g7 g10 g11
  cases g0
  cases g1
  cases g6
  cases g7
  cases g10
  cases g11
  have h3 := wu64 (n := M) (by omega)
  have hw := wp2 (q := M) hM
  by_cases h1 : e = 2 ^ M
  · have y2 : ((e : Int) == wrap64 (2 ^ M)) = true := by rw [hw, h1]; exact beq_self_eq_true _
    have y3 : ((e : Int) != wrap64 (2 ^ M)) = false := by rw [bne, y2]; rfl
    clear hg hw h1
    go_wp2_with fail
    exact ⟨⟨_, rfl, rfl, And.intro rfl (And.intro rfl (And.intro rfl (And.intro rfl (And.intro rfl trivial))))⟩, by first | rfl | trivial⟩
  · obtain ⟨rfl, rfl⟩ := hg.resolve_left h1
    clear hg hw h1
    go_wp2_with fail
    exact ⟨⟨_, rfl, rfl, And.intro rfl (And.intro rfl (And.intro rfl (And.intro rfl (And.intro rfl trivial))))⟩, by first | rfl | trivial⟩
end

set_option maxRecDepth 100000 in
set_option maxHeartbeats 8000000 in
theorem init_any (w : World) (b o t : Nat) (cs0 : Array Value) (h : HD) (lv lsV : Value) (l : List Nat) (hb : w.heap[b]? = some (.cells cs0 t (0, 0))) (hsz : o + 515 ≤ cs0.size) (hc : HDC cs0 o h lv)
    (h0 : h.min = 0 → h = hd0 ∧ lv = .slice none 0 0) (hmn : h.min ≤ 15) (hl : RdN w lsV l) (hlb : ∀ x off n c, lsV = .slice (some ⟨x, off, none⟩) n c → x ≠ b) (h15 : ∀ x ∈ l, x ≤ 15) (hlen : l.length ≤ 1000) :
    Calls Tryd.prog 39 #[.pointer (some ⟨b, o, none⟩), lsV] w fun r w' => r = .returned (.bool (initH l).1) ∧ Frm (fun k => k = b) w w' ∧
      ∃ lv', HTab w' b o t cs0 (initH l).2.min (fun j => (initH l).2.ch.getD j 0) lv' (initH l).2.mask ∧ LinksAt w' lv' (initH l).2.links ∧ ((initH l).2.min = 0 → lv' = .slice none 0 0) := by
  obtain ⟨a0, cap, rfl, hcl⟩ := hl
  have hT0 := HDC.htab hb hsz hc
  have hth : ∀ j, j < 515 → (w.cell? ⟨b, o + j, none⟩).isSome = true ∧ w.frozen? ⟨b, o + j, none⟩ = false := fun j hj => by
    refine ⟨?_, frozen_of_row w b _ _ _ hb⟩
    have : o + j < cs0.size := by omega
    simp [World.cell?, hb, Array.getElem?_eq_getElem this]
  have cmin := hT0.c_min
  have hbs := lt_of_block hb
  have hbld : ∀ w : World, (Instr.build 54 #[]).run Tryd.prog w = .ok (.agg hdZ.toArray) w := fun w => run_build w 54 #[] _ built54
  clear hc
  go_enter Tryd.func39, Tryd.ntmps39
  repeat (fail_if_success (show Code.wp _ (Code.seq (Code.region 1 _ _) (Code.cond _ _ _)) _ _ _)
          first | go_values | go_skip | go_guarded | go_step | go_upon | go_simp)
  go_cut [] (fun wx => HTab wx b o t cs0 0 (fun _ => 0) (.slice none 0 0) 0 ∧ wx.heap.size = w.heap.size ∧ Frm (fun k => k = b) w wx)
  case first =>
    by_cases hz : h.min = 0
    · obtain ⟨rfl, rfl⟩ := h0 hz
      have hT1 : HTab w b o t cs0 0 (fun _ => 0) (.slice none 0 0) 0 := HTab.congr hT0 fun j _ => hd0_get j
      have cm : w.cell? ⟨b, o, none⟩ = some (.int .i64 0) := cmin
      clear cmin hT0
      go_wp2_with fail
      go_meet
      exact ⟨hT1, rfl, Frm.refl _ _⟩
    · have y1 : ((h.min : Int) == 0) = false := beq_eq_false_iff_ne.2 (by omega)
      have y2 : ((h.min : Int) != 0) = true := by rw [bne, y1]; rfl
      obtain ⟨hT1, hF1⟩ := htab_zero hb hsz
      have hss := setCells_size b hdZ o w
      have hst := zstore w b o hth
      generalize w.setCells b o hdZ = w1 at *
      clear hT0
      go_wp2_with fail
      go_meet
      exact ⟨hT1, hss, hF1⟩
  case rest =>
    obtain ⟨hT1, hs1, f1⟩ := hcut
    clear hT0 hth cmin hbld hb hsz h0 hmn
    have hcw : ∀ j, j < l.length → ∃ x off, a0 = some ⟨x, off, none⟩ ∧ x < w.heap.size ∧ x ≠ b ∧ w.cell? ⟨x, off + j, none⟩ = some (vi (l.getD j 0)) := fun j hj => by
      obtain ⟨x, off, rfl, q1, q2⟩ := hcl j hj
      exact ⟨x, off, rfl, q1, hlb _ _ _ _ rfl, q2⟩
    clear hcl hlb
    have hA := arr16 wc
    rw [hs1] at hA
    have f2 := f1.alloc (Obj.cells #[Value.int IntKind.i64 0, Value.int IntKind.i64 0, Value.int IntKind.i64 0, Value.int IntKind.i64 0,
          Value.int IntKind.i64 0, Value.int IntKind.i64 0, Value.int IntKind.i64 0, Value.int IntKind.i64 0,
          Value.int IntKind.i64 0, Value.int IntKind.i64 0, Value.int IntKind.i64 0, Value.int IntKind.i64 0,
          Value.int IntKind.i64 0, Value.int IntKind.i64 0, Value.int IntKind.i64 0, Value.int IntKind.i64 0] 113)
    have hs2 : (wc.alloc (Obj.cells #[Value.int IntKind.i64 0, Value.int IntKind.i64 0, Value.int IntKind.i64 0, Value.int IntKind.i64 0,
          Value.int IntKind.i64 0, Value.int IntKind.i64 0, Value.int IntKind.i64 0, Value.int IntKind.i64 0,
          Value.int IntKind.i64 0, Value.int IntKind.i64 0, Value.int IntKind.i64 0, Value.int IntKind.i64 0,
          Value.int IntKind.i64 0, Value.int IntKind.i64 0, Value.int IntKind.i64 0, Value.int IntKind.i64 0] 113)).heap.size = w.heap.size + 1 := by simp [hs1]
    have hT2 := HTab.frm hT1 (Frm.alloc (S := fun _ => False) (Frm.refl _ wc) (Obj.cells #[Value.int IntKind.i64 0, Value.int IntKind.i64 0, Value.int IntKind.i64 0, Value.int IntKind.i64 0,
          Value.int IntKind.i64 0, Value.int IntKind.i64 0, Value.int IntKind.i64 0, Value.int IntKind.i64 0,
          Value.int IntKind.i64 0, Value.int IntKind.i64 0, Value.int IntKind.i64 0, Value.int IntKind.i64 0,
          Value.int IntKind.i64 0, Value.int IntKind.i64 0, Value.int IntKind.i64 0, Value.int IntKind.i64 0] 113)) (fun h => h)
    go_wp2_with fail
    generalize wc.alloc _ = wa at *
    clear hT1 f1 hs1
    generalize hH : w.heap.size = H at *
    have HH := Lib.hid hH
    clear hH
    go_loopw [6, 7, 44] (fun mn mx iv wr => ∃ k, k ≤ l.length ∧ iv = vi k ∧ mn = vi (mnK l k) ∧ mx = vi (mxK l k) ∧ Arr wr H 113 16 (ctF l k) ∧ HTab wr b o t cs0 0 (fun _ => 0) (.slice none 0 0) 0 ∧ Frm (fun k => k = b) w wr ∧ wr.heap.size = H + 1) (fun _ _ iv _ => l.length - (intOf iv).toNat)
    case atStart => exact ⟨0, Nat.zero_le _, rfl, rfl, rfl, hA.congr (fun n _ => by unfold ctF; split <;> rfl), hT2, f2, hs2⟩
    case round =>
      clear hA hT2 f2 hs2
      obtain ⟨k, hk, rfl, rfl, rfl, hA, hT, f3, hs3⟩ := hrel
      by_cases hlt : k < l.length
      ·
        obtain ⟨x, off, rfl, q1, q2, q3⟩ := hcw k hlt
        have q4 : wr.cell? ⟨x, off + k, none⟩ = some (vi (l.getD k 0)) := by rw [f3.cell (by rw [HH.out]; exact q1) q2]; exact q3
        have hx15 := h15 _ (getD_lt hlt)
        have hmn := mnK_le l h15 k
        have hmx := mxK_le l h15 k
        have HM := Lib.hid (mnK_succ l k hlt)
        have HX := Lib.hid (mxK_succ l k hlt)
        have HC0 := Lib.hid (ctF_zero l k hlt)
        have HC1 := Lib.hid (ctF_succ l k hlt)
        have cA := hA.cell (l.getD k 0) (by omega)
        have hct := ctF_le l k (l.getD k 0)
        have hst := hA.set (l.getD k 0) (ctF l k (l.getD k 0) + 1)
        have zA := hA.fz (l.getD k 0)
        generalize hxx : l.getD k 0 = y at *
        have YK := Lib.hid (wrap_succ hlt hlen)
        clear q3 hcw hxx
        by_cases hy0 : y = 0
        · have y1 : ((y : Int) == 0) = true := beq_iff_eq.2 (by omega)
          go_wp2_with fail
          go_roundw
          case rel => exact ⟨k + 1, hlt, by first | rfl | exact YK.out, by rw [HM.out, hy0, minGo_zero], by rw [HX.out, hy0]; exact congrArg (fun z : Nat => vi z) (Nat.max_zero _).symm, hA.congr (fun n _ => HC0.out hy0 n), hT, f3, hs3⟩
          case measure => refine meas_step ?_ hlt; first | rfl | exact YK.out
        · have y1 : ((y : Int) == 0) = false := beq_eq_false_iff_ne.2 (by omega)
          have y2 : (y : Int) < 16 := by omega
          have y3 : (0 : Int) ≤ (y : Int) := by omega
          have f4 := f3.store (p := ⟨H, y, none⟩) (by rw [HH.out]; exact Nat.le_refl _) (vi (ctF l k y + 1))
          have hT4 := hT.frm (Frm.setCell (S := fun k => k = H) (Frm.refl _ wr) (p := ⟨H, y, none⟩) rfl (vi (ctF l k y + 1))) (by have := HH.out; omega)
          have hs4 : (wr.setCell ⟨H, y, none⟩ (vi (ctF l k y + 1))).heap.size = H + 1 := by simp [hs3]
          have hst4 := hst.congr (fun n _ => HC1.out hy0 n)
          generalize ctF l k y = c at *
          have y4 : wrap64 ((c : Int) + 1) = ((c + 1 : Nat) : Int) := by unfold wrap64; omega
          have HY : Hid (¬ y = 0) := Lib.hid hy0
          generalize hm : mnK l k = m at *
          generalize hM : mxK l k = M at *
          have HF4 := Lib.hid f4
          have HT4 := Lib.hid hT4
          have HS4 := Lib.hid hs4
          have HST := Lib.hid hst4
          clear hA hT f3 hs3 hst f4 hT4 hs4 hst4 hm hM HC0 HC1 hy0 hct
          rcases Nat.lt_or_ge M y with hMy | hMy
          · have HX2 : Hid (vi y = vi (mxK l (k + 1))) := Lib.hid (by rw [HX.out]; exact congrArg (fun z : Nat => vi z) (Nat.max_eq_right (Nat.le_of_lt hMy)).symm)
            have z1 : (M : Int) < (y : Int) := by omega
            by_cases hm0 : m = 0
            · have HM2 : Hid (vi y = vi (mnK l (k + 1))) := Lib.hid (by rw [HM.out]; unfold minGo; rw [if_pos ⟨HY.out, .inl hm0⟩])
              have z2 : ((m : Int) == 0) = true := beq_iff_eq.2 (by omega)
              clear HX HM hm0 hMy
              go_wp2_with fail
              go_roundw
              case rel => exact ⟨k + 1, hlt, by first | rfl | exact YK.out, HM2.out, HX2.out, HST.out, HT4.out, HF4.out, HS4.out⟩
              case measure => refine meas_step ?_ hlt; first | rfl | exact YK.out
            rcases Nat.lt_or_ge y m with hym | hym
            · have HM2 : Hid (vi y = vi (mnK l (k + 1))) := Lib.hid (by rw [HM.out]; unfold minGo; rw [if_pos ⟨HY.out, .inr hym⟩])
              have z2 : ((m : Int) == 0) = false := beq_eq_false_iff_ne.2 (by omega)
              have z3 : (y : Int) < (m : Int) := by omega
              clear HX HM hm0 hMy hym
              go_wp2_with fail
              go_roundw
              case rel => exact ⟨k + 1, hlt, by first | rfl | exact YK.out, HM2.out, HX2.out, HST.out, HT4.out, HF4.out, HS4.out⟩
              case measure => refine meas_step ?_ hlt; first | rfl | exact YK.out
            · have HM2 : Hid (vi m = vi (mnK l (k + 1))) := Lib.hid (by rw [HM.out]; unfold minGo; rw [if_neg (fun e => e.2.elim hm0 (fun h => Nat.lt_irrefl _ (Nat.lt_of_lt_of_le h hym)))])
              have z2 : ((m : Int) == 0) = false := beq_eq_false_iff_ne.2 (by omega)
              have z3 : ¬ (y : Int) < (m : Int) := by omega
              clear HX HM hm0 hMy hym
              go_wp2_with fail
              go_roundw
              case rel => exact ⟨k + 1, hlt, by first | rfl | exact YK.out, HM2.out, HX2.out, HST.out, HT4.out, HF4.out, HS4.out⟩
              case measure => refine meas_step ?_ hlt; first | rfl | exact YK.out
          · have HX2 : Hid (vi M = vi (mxK l (k + 1))) := Lib.hid (by rw [HX.out]; exact congrArg (fun z : Nat => vi z) (Nat.max_eq_left hMy).symm)
            have z1 : ¬ (M : Int) < (y : Int) := by omega
            by_cases hm0 : m = 0
            · have HM2 : Hid (vi y = vi (mnK l (k + 1))) := Lib.hid (by rw [HM.out]; unfold minGo; rw [if_pos ⟨HY.out, .inl hm0⟩])
              have z2 : ((m : Int) == 0) = true := beq_iff_eq.2 (by omega)
              clear HX HM hm0 hMy
              go_wp2_with fail
              go_roundw
              case rel => exact ⟨k + 1, hlt, by first | rfl | exact YK.out, HM2.out, HX2.out, HST.out, HT4.out, HF4.out, HS4.out⟩
              case measure => refine meas_step ?_ hlt; first | rfl | exact YK.out
            rcases Nat.lt_or_ge y m with hym | hym
            · have HM2 : Hid (vi y = vi (mnK l (k + 1))) := Lib.hid (by rw [HM.out]; unfold minGo; rw [if_pos ⟨HY.out, .inr hym⟩])
              have z2 : ((m : Int) == 0) = false := beq_eq_false_iff_ne.2 (by omega)
              have z3 : (y : Int) < (m : Int) := by omega
              clear HX HM hm0 hMy hym
              go_wp2_with fail
              go_roundw
              case rel => exact ⟨k + 1, hlt, by first | rfl | exact YK.out, HM2.out, HX2.out, HST.out, HT4.out, HF4.out, HS4.out⟩
              case measure => refine meas_step ?_ hlt; first | rfl | exact YK.out
            · have HM2 : Hid (vi m = vi (mnK l (k + 1))) := Lib.hid (by rw [HM.out]; unfold minGo; rw [if_neg (fun e => e.2.elim hm0 (fun h => Nat.lt_irrefl _ (Nat.lt_of_lt_of_le h hym)))])
              have z2 : ((m : Int) == 0) = false := beq_eq_false_iff_ne.2 (by omega)
              have z3 : ¬ (y : Int) < (m : Int) := by omega
              clear HX HM hm0 hMy hym
              go_wp2_with fail
              go_roundw
              case rel => exact ⟨k + 1, hlt, by first | rfl | exact YK.out, HM2.out, HX2.out, HST.out, HT4.out, HF4.out, HS4.out⟩
              case measure => refine meas_step ?_ hlt; first | rfl | exact YK.out
      · obtain rfl : k = l.length := by omega
        rw [mnK_all, mxK_all] at *
        by_cases hz : maxL l = 0
        · have hI : initH l = (true, hd0) := by unfold initH; rw [if_pos hz]
          have HI := Lib.hid hI
          have y1 : ((maxL l : Int) == 0) = true := beq_iff_eq.2 (by omega)
          clear hI hz
          go_wp2_with fail
          go_returns
          rw [HI.out]
          exact ⟨rfl, f3, _, hT.congr (fun j _ => (hd0_get j).symm), .inl ⟨rfl, _, _, rfl⟩, fun _ => rfl⟩
        · have hI : initH l = if enL l (maxL l) = 2 ^ maxL l ∨ (enL l (maxL l) = 1 ∧ maxL l = 1) then (true, tabL l) else (false, hd0) := by unfold initH; rw [if_neg hz]
          have HI := Lib.hid hI
          have y1 : ((maxL l : Int) == 0) = false := beq_eq_false_iff_ne.2 (by omega)
          obtain ⟨hm0, hmM⟩ := minL_pos hz
          have hM15 := maxL_le h15
          have HZ := Lib.hid hz
          clear hI hz
          generalize hm : minL l = m at *
          generalize hM : maxL l = M at *
          have HM := Lib.hid hM
          have Hm := Lib.hid hm
          clear hm hM
          have hB := arr16 wr
          rw [hs3] at hB
          have f4 := f3.alloc (Obj.cells #[Value.int IntKind.i64 0, Value.int IntKind.i64 0, Value.int IntKind.i64 0, Value.int IntKind.i64 0,
              Value.int IntKind.i64 0, Value.int IntKind.i64 0, Value.int IntKind.i64 0, Value.int IntKind.i64 0,
              Value.int IntKind.i64 0, Value.int IntKind.i64 0, Value.int IntKind.i64 0, Value.int IntKind.i64 0,
              Value.int IntKind.i64 0, Value.int IntKind.i64 0, Value.int IntKind.i64 0, Value.int IntKind.i64 0] 113)
          have hs4 : (wr.alloc (Obj.cells #[Value.int IntKind.i64 0, Value.int IntKind.i64 0, Value.int IntKind.i64 0, Value.int IntKind.i64 0,
              Value.int IntKind.i64 0, Value.int IntKind.i64 0, Value.int IntKind.i64 0, Value.int IntKind.i64 0,
              Value.int IntKind.i64 0, Value.int IntKind.i64 0, Value.int IntKind.i64 0, Value.int IntKind.i64 0,
              Value.int IntKind.i64 0, Value.int IntKind.i64 0, Value.int IntKind.i64 0, Value.int IntKind.i64 0] 113)).heap.size = H + 2 := by simp [hs3]
          have hT4 := HTab.frm hT (Frm.alloc (S := fun _ => False) (Frm.refl _ wr) (Obj.cells #[Value.int IntKind.i64 0, Value.int IntKind.i64 0, Value.int IntKind.i64 0, Value.int IntKind.i64 0,
              Value.int IntKind.i64 0, Value.int IntKind.i64 0, Value.int IntKind.i64 0, Value.int IntKind.i64 0,
              Value.int IntKind.i64 0, Value.int IntKind.i64 0, Value.int IntKind.i64 0, Value.int IntKind.i64 0,
              Value.int IntKind.i64 0, Value.int IntKind.i64 0, Value.int IntKind.i64 0, Value.int IntKind.i64 0] 113)) (fun h => h)
          have hA4 := Arr.frm hA (Frm.alloc (S := fun _ => False) (Frm.refl _ wr) (Obj.cells #[Value.int IntKind.i64 0, Value.int IntKind.i64 0, Value.int IntKind.i64 0, Value.int IntKind.i64 0,
              Value.int IntKind.i64 0, Value.int IntKind.i64 0, Value.int IntKind.i64 0, Value.int IntKind.i64 0,
              Value.int IntKind.i64 0, Value.int IntKind.i64 0, Value.int IntKind.i64 0, Value.int IntKind.i64 0,
              Value.int IntKind.i64 0, Value.int IntKind.i64 0, Value.int IntKind.i64 0, Value.int IntKind.i64 0] 113)) (fun h => h)
          go_wp2_with fail
          generalize wr.alloc _ = wa2 at *
          clear hT hA f3 hs3 wr
          go_loopw [10, 12] (fun cd iv wr => ∃ k, m ≤ k ∧ k ≤ M + 1 ∧ iv = vi k ∧ cd = vi (enL l (k - 1)) ∧ Arr wr H 113 16 (ctF l l.length) ∧ Arr wr (H + 1) 113 16 (nxF l k) ∧ HTab wr b o t cs0 0 (fun _ => 0) (.slice none 0 0) 0 ∧ Frm (fun k => k = b) w wr ∧ wr.heap.size = H + 2) (fun _ iv _ => M + 1 - (intOf iv).toNat)
          case atStart => exact ⟨m, Nat.le_refl _, by omega, rfl, by rw [enL_below _ (by rw [Hm.out]; omega)]; rfl, hA4, hB.congr (fun n _ => by rw [← Hm.out]; exact nxF_min l n), hT4, f4, hs4⟩
          case round =>
            clear hA4 hB hT4 f4 hs4 wa2
            obtain ⟨k, hk1, hk2, rfl, rfl, hA, hB, hT, f3, hs3⟩ := hrel
            by_cases hlt : k ≤ M
            ·
              have hst := hB.set k (stL l k)
              have cA := hA.cell k (by omega)
              have zA := hA.fz k
              obtain ⟨vB, cB⟩ : ∃ v, wr.cell? ⟨H + 1, k, none⟩ = some (vi v) := ⟨_, hB.cell k (by omega)⟩
              have zB := hB.fz k
              have hA5 := hA.frm (Frm.setCell (S := fun k => k = H + 1) (Frm.refl _ wr) (p := ⟨H + 1, k, none⟩) rfl (vi (stL l k))) (by omega)
              have hT5 := hT.frm (Frm.setCell (S := fun k => k = H + 1) (Frm.refl _ wr) (p := ⟨H + 1, k, none⟩) rfl (vi (stL l k))) (by have := HH.out; omega)
              have f5 := f3.store (p := ⟨H + 1, k, none⟩) (by rw [HH.out]; exact Nat.le_succ _) (vi (stL l k))
              have hs5 : (wr.setCell ⟨H + 1, k, none⟩ (vi (stL l k))).heap.size = H + 2 := by simp [hs3]
              have cA5 := hA5.cell k (by omega)
              have hst5 := hst.congr (fun n _ => nxF_succ l k n)
              have hpr := stL_pred l k (by omega)
              have hbd := enL_bd l k (by omega) hlen
              have hen : enL l k = stL l k + ctF l l.length k := by rw [ctF_all]; rfl
              have YK := Lib.hid (wrap_succ (k := k) (n := 1000) (by omega) (by omega))
              have hct := ctF_le l l.length k
              have HCD : Hid (vi (enL l k) = vi (enL l (k + 1 - 1))) := Lib.hid rfl
              generalize enL l k = e2 at *
              generalize enL l (k - 1) = e1 at *
              generalize stL l k = s1 at *
              generalize ctF l l.length k = c1 at *
              have z1 : (k : Int) ≤ (M : Int) := by omega
              have z2 : wrap64 ((e1 : Int) * 2) = (s1 : Int) := by unfold wrap64; omega
              have z3 : wrap64 ((s1 : Int) + (c1 : Int)) = (e2 : Int) := by unfold wrap64; omega
              have z4 : (k : Int) < 16 := by omega
              have z5 : (0 : Int) ≤ (k : Int) := by omega
              have HA5 := Lib.hid hA5
              have HT5 := Lib.hid hT5
              have HF5 := Lib.hid f5
              have HS5 := Lib.hid hs5
              have HST := Lib.hid hst5
              clear hA hB hT f3 hs3 hst hst5 hA5 hT5 f5 hs5 hpr hbd hen hct
              go_wp2_with fail
              go_roundw
              case rel => exact ⟨k + 1, by omega, by omega, by first | rfl | exact YK.out, by first | exact HCD.out | exact (congrArg (Value.int .i64) z3).trans HCD.out, HA5.out, HST.out, HT5.out, HF5.out, HS5.out⟩
              case measure => refine meas_step ?_ (Nat.lt_succ_of_le hlt); first | rfl | exact YK.out
            · obtain rfl : k = M + 1 := by omega
              have z1 : ¬ ((M + 1 : Nat) : Int) ≤ (M : Int) := by omega
              have hpM := Nat.two_pow_pos M
              have hpM2 : 2 ^ M ≤ 32768 := Nat.pow_le_pow_right (n := 2) (by decide) hM15
              have hbd := enL_bd l M hM15 hlen
              have hI := HI.out
              rw [Nat.add_sub_cancel]
              generalize hE : enL l M = e at *
              generalize hP : 2 ^ M = p at *
              have hP1 : (2 : Int) ^ M = (p : Int) := by rw [← hP]; simp
              have hP2 : wrap64 (2 ^ M) = (p : Int) := by rw [hP1]; exact wrap64_nat p (Nat.lt_of_le_of_lt hpM2 (by decide))
              have hP3 : IntKind.u64.wrap (M : Int) = (M : Int) := wu64 (Nat.le_trans hM15 (by decide))
              have HE := Lib.hid hE
              have HP := Lib.hid hP
              by_cases hg : e = p ∨ (e = 1 ∧ M = 1)
              · rw [if_pos hg] at hI
                have HI2 := Lib.hid hI
                have HG := Lib.hid hg
                clear HI hI hP hE hpM
                repeat (fail_if_success (show Code.wp _ (Code.seq (Code.region 25 _ _) (Code.cond _ _ _)) _ _ _)
                        first | go_values | go_skip | go_guarded | go_step | go_upon | go_simp)
                rename_i K25 hK25
                have hg' : e = 2 ^ M ∨ (e = 1 ∧ M = 1) := by rw [HP.out]; exact hg
                have hl5 : 9 < M → lnkL l ≤ 512 := fun h9 => by
                  refine lnkL_le h15 ?_
                  rw [HM.out]
                  rcases HG.out with h | h
                  · rw [HE.out, HP.out, h]
                  · omega
                have hcc : enL l (maxL l) = 2 ^ maxL l ∨ (enL l (maxL l) = 1 ∧ maxL l = 1) := by rw [HM.out, HE.out]; exact hg'
                clear hP1 hP2 hP3 hg
                refine wp_cut2 _ (init_check e M (.pointer (some ⟨b, o, none⟩)) (.slice a0 l.length cap) (vi m) (.pointer (some ⟨H + 1, 0, none⟩)) hM15 hg' _ ?_ _) ?_
                · exact ⟨_, rfl, rfl, And.intro rfl (And.intro rfl (And.intro rfl (And.intro rfl (And.intro rfl (And.intro rfl trivial)))))⟩
                clear hg' hpM2 hbd
                rintro a wz ⟨⟨fl, hfl, rfl, g0, g1, g6, g7, g11, -⟩, rfl⟩
                refine hK25 _ _ ?_
                clear hK25
                have hTm := hT.set_min m
                have hAm := hB.frm (Frm.setCell (S := fun k => k = b) (Frm.refl _ wz) (p := ⟨b, o, none⟩) rfl (vi m)) (by omega)
                have fm := f3.setCell (p := ⟨b, o, none⟩) rfl (vi m)
                have hsm : (wz.setCell ⟨b, o, none⟩ (vi m)).heap.size = H + 2 := by simp [hs3]
                have c0 := hT.c_min
                have z0 := hT.fz o
                clear hA hB hT f3 hs3 hmM hm0
                revert g0 g1 g6 g7 g11
                revert fl
                refine fun fl hll => AllN_get (n := 317) (K := fun l => l[0]? = _ → l[1]? = _ → l[6]? = _ → l[7]? = _ → l[11]? = _ → Code.wp _ _ _ ⟨l.toArray, []⟩ wz) ?_ fl hll
                iterate 317 intro
                dsimp only [AllN]
                intro g0 g1 g6 g7 g11
                cases g0
                cases g1
                cases g6
                cases g7
                cases g11
                repeat (fail_if_success (show Code.wp _ (Code.seq (Code.region 28 _ _) (Code.cond _ _ _)) _ _ _)
                        first | go_values | go_skip | go_guarded | go_step | go_upon | go_simp)
                rename_i K28 hK28
                clear c0 z0
                generalize wz.setCell _ _ = w1 at *
                refine wp_cut2 _ (init_links m M (.slice a0 l.length cap) HM Hm HH hbs hM15 hl5 hAm hTm fm hsm _ ?_ _) ?_
                · exact ⟨_, rfl, rfl, And.intro rfl (And.intro rfl (And.intro rfl (And.intro rfl trivial)))⟩
                clear hAm hTm fm hsm hl5
                rintro a wy ⟨⟨fl, hfl, rfl, g0, g1, g11, -⟩, hMid⟩
                refine hK28 _ _ ?_
                clear hK28
                revert g0 g1 g11
                revert fl
                refine fun fl hll => AllN_get (n := 317) (K := fun l => l[0]? = _ → l[1]? = _ → l[11]? = _ → Code.wp _ _ _ ⟨l.toArray, []⟩ wy) ?_ fl hll
                iterate 317 intro
                dsimp only [AllN]
                intro g0 g1 g11
                cases g0
                cases g1
                cases g11
                repeat (fail_if_success (show Code.wp _ (Code.seq (Code.region 43 _ _) (Code.block _ _)) _ _ _)
                        first | go_values | go_skip | go_guarded | go_step | go_upon | go_simp)
                rename_i K43 hK43
                refine wp_cut2 _ (init_lay a0 cap (by rw [HH.out]; exact hcw) h15 hlen hcc hMid hbs (by rw [HH.out]; exact Nat.le_refl _) _ ?_ _) ?_
                · exact ⟨_, rfl, rfl, And.intro rfl (And.intro rfl (And.intro rfl trivial))⟩
                clear hMid hcw hcc
                rintro a wx ⟨⟨fl, hfl, rfl, -⟩, hMid⟩
                refine hK43 _ _ ?_
                clear hK43
                have HEND := Lib.hid (hMid.ends (by rw [HM.out]; exact HZ.out))
                clear hMid
                revert fl
                refine fun fl hll => AllN_get (n := 317) (K := fun l => Code.wp _ _ _ ⟨l.toArray, []⟩ wx) ?_ fl hll
                iterate 317 intro
                dsimp only [AllN]
                go_wp2_with fail
                go_returns
                rw [HI2.out]
                exact ⟨rfl, HEND.out⟩
              · rw [if_neg hg] at hI
                have HI2 := Lib.hid hI
                have y2 : ((e : Int) == (p : Int)) = false := beq_eq_false_iff_ne.2 (fun h => hg (.inl (Int.ofNat_inj.1 h)))
                have y3 : ((e : Int) != (p : Int)) = true := by rw [bne, y2]; rfl
                have y6 : ((e : Int) != wrap64 (2 ^ M)) = true := by rw [hP2]; exact y3
                clear HI hI hP hE hP1 hP2
                by_cases h1 : e = 1
                · subst h1
                  have y2 : ((1 : Int) == (p : Int)) = false := y2
                  have y6 : ((1 : Int) != wrap64 (2 ^ M)) = true := y6
                  have y5 : ((M : Int) == 1) = false := beq_eq_false_iff_ne.2 (fun h => hg (.inr ⟨rfl, Int.ofNat_inj.1 (h.trans rfl)⟩))
                  clear hg
                  go_wp2_with fail
                  go_returns
                  rw [HI2.out]
                  exact ⟨rfl, f3, _, hT.congr (fun j _ => (hd0_get j).symm), .inl ⟨rfl, _, _, rfl⟩, fun _ => rfl⟩
                · have y4 : ((e : Int) == 1) = false := beq_eq_false_iff_ne.2 (fun h => h1 (Int.ofNat_inj.1 (h.trans rfl)))
                  clear hg h1
                  go_wp2_with fail
                  go_returns
                  rw [HI2.out]
                  exact ⟨rfl, f3, _, hT.congr (fun j _ => (hd0_get j).symm), .inl ⟨rfl, _, _, rfl⟩, fun _ => rfl⟩
end Go.Proofs.YtbbnibbdiiffkaaDoor
