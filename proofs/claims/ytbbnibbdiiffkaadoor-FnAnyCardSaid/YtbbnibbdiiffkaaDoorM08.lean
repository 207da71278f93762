/- The window's copying across its end. A symbol through the tables. A symbol through the tables, walked. -/
import Derived.Test.YtbbnibbdiiffkaaDoorM07

/- The window's copying across its end. -/
namespace Go.Proofs.YtbbnibbdiiffkaaDoor
open Go.RowKit

section
variable {I : Ids} {E : Errs} {src : List Nat} {srcV : Value} {w w' : World} {cs cs' : Array Value} {s : DS}
def wrN (s : DS) (len : Nat) : Nat := Nat.min len (32768 - s.wr)

theorem step_flat (h : List Nat) {B dist a : Nat} (hd : 1 ≤ dist) (hb : dist ≤ B) (ha : a = B - dist) (m q : Nat) (hdv : dist ∣ B + m - a) (hf : B + m + q ≤ 32768) (hq : q ≤ B + m - a) :
    spl (cpyH h B dist m) (B + m) (((cpyH h B dist m).drop a).take q) = cpyH h B dist (m + q) := by
  subst ha
  refine cpy_flat (by omega) hb ?_ hf (by omega)
  have : B + m - (B - dist) = m + dist := by omega
  rw [this] at hdv
  exact (Nat.dvd_add_left (Nat.dvd_refl _)).1 hdv
theorem step_wrap (h : List Nat) {B dist a : Nat} (hb : B < dist) (hd : dist ≤ 32768) (ha : a = 0) (m q : Nat) (h0 : 0 < B + m) (hdv : dist ∣ B + m - a) (hf : B + m + q ≤ 32768) (hq : q ≤ B + m - a) :
    spl (cpyH h B dist m) (B + m) (((cpyH h B dist m).drop a).take q) = cpyH h B dist (m + q) := by
  subst ha
  exact cpy_wrap hb hd (by simpa using hdv) h0 hf (by omega)

set_option maxRecDepth 100000 in
set_option maxHeartbeats 4000000 in
theorem writeCopy_any (hD : Dec I E src srcV w cs s) (dist len : Nat) (hd1 : 1 ≤ dist) (hd2 : dist ≤ 32768) (hl : len ≤ 65535) (hwr : s.wr < 32768) :
    Calls Tryd.prog 46 #[I.dp, vi dist, vi len] w fun r w' => r = .returned (vi (wrN s len)) ∧ (∃ cs', Dec I E src srcV w' cs' (copied s dist (wrN s len))) ∧ Imp I w w' := by
  have ch := hD.c_hist
  have cw := hD.c_wr
  have hhl := hD.hlen
  unfold Ids.dp
  obtain ⟨n, hn⟩ : ∃ n, n = wrN s len := ⟨_, rfl⟩
  have hnl : n ≤ len := by rw [hn]; exact Nat.min_le_left _ _
  have hnw : n ≤ 32768 - s.wr := by rw [hn]; exact Nat.min_le_right _ _
  obtain ⟨e, he⟩ : ∃ e, e = s.wr + n := ⟨_, rfl⟩
  obtain ⟨N, hN⟩ : ∃ N : Nat, N = 32768 := ⟨_, rfl⟩
  obtain ⟨B, hB⟩ : ∃ B, B = s.wr := ⟨_, rfl⟩
  have ch' : w.cell? ⟨I.F, 1037, none⟩ = some (.slice (some ⟨I.D, 0, none⟩) N N) := by rw [hN]; exact ch
  have cw' : w.cell? ⟨I.F, 1038, none⟩ = some (.int .i64 (B : Int)) := by rw [hB]; exact cw
  have hnn : (n = len ∧ len ≤ 32768 - s.wr) ∨ (n = 32768 - s.wr ∧ 32768 - s.wr ≤ len) := by
    rcases Nat.le_total len (32768 - s.wr) with h | h
    · exact .inl ⟨by rw [hn]; exact Nat.min_eq_left h, h⟩
    · exact .inr ⟨by rw [hn]; exact Nat.min_eq_right h, h⟩
  have z6 : min ((B : Int) + len) (N : Int) = (e : Int) := by omega
  have yN : (e : Int) ≤ (N : Int) := by omega
  have z1 : wrap64 ((B : Int) + len) = (B : Int) + len := by unfold wrap64; omega
  have HDD := Lib.hid hD
  have HE := Lib.hid he
  have HN := Lib.hid hN
  have HB := Lib.hid hB
  have HL := Lib.hid hhl
  have HNN := Lib.hid hn
  have HW := Lib.hid hwr
  have heN : e ≤ N := by omega
  have hBe : B ≤ e := by omega
  clear ch cw hhl hD he hB hn hnl hnw hnn
  by_cases hf : dist ≤ B
  · obtain ⟨a, ha⟩ : ∃ a, a = B - dist := ⟨_, rfl⟩
    have z2 : wrap64 ((B : Int) - dist) = (a : Int) := by rw [ha]; unfold wrap64; omega
    have z3 : ¬ ((a : Int) < 0) := by omega
    have HA := Lib.hid ha
    have HDV0 : Hid (dist ∣ B - a ∨ B = e) := Lib.hid (.inl (by rw [ha, show B - (B - dist) = dist by omega]; exact Nat.dvd_refl _))
    have HPO0 : Hid (B < e → 0 < B - a) := Lib.hid (by omega)
    clear ha hN
    go_enter Tryd.func46, Tryd.ntmps46
    go_wp2_with fail
    go_loopw [8] (fun d wr => ∃ (k m : Nat) (cs' : Array Value), d = .int .i64 (k : Int) ∧ Hid (k = B + m) ∧ k ≤ e ∧ Hid (dist ∣ k - a ∨ k = e) ∧ Hid (k < e → 0 < k - a) ∧ Dec I E src srcV wr cs' { s with hist := cpyH s.hist B dist m } ∧ Imp I w wr) (fun d _ => e - (intOf d).toNat)
    case atStart => exact ⟨B, 0, cs, rfl, Lib.hid rfl, hBe, HDV0, HPO0, by rw [cpyH_zero HL.out]; exact HDD.out, Imp.refl _ _⟩
    case round =>
      obtain ⟨k, m, c1, rfl, HK, hke, HV, HP, hD1, f1⟩ := hrel
      have ch1 : wr.cell? ⟨I.F, 1037, none⟩ = some (.slice (some ⟨I.D, 0, none⟩) N N) := by rw [HN.out]; exact hD1.c_hist
      by_cases hlt : k < e
      · have y5 : (k : Int) < (e : Int) := by omega
        have y6 : (0 : Int) ≤ (k : Int) := by omega
        have y9 : (k : Int) ≤ (N : Int) := by omega
        have y10 : ¬ N = k := by omega
        have y12 : ¬ N - k = 0 := by omega
        have y14 : (k : Int) ≤ (e : Int) := by omega
        have y7 : (0 : Int) ≤ (a : Int) := by omega
        have y8 : (a : Int) ≤ (k : Int) := by have := HP.out hlt; omega
        have y11 : ¬ N = a := by omega
        have y13 : ¬ N - a = 0 := by omega
        obtain ⟨q, hq⟩ : ∃ q, q = Nat.min (k - a) (e - k) := ⟨_, rfl⟩
        have HQ := Lib.hid hq
        have hqa : q ≤ k - a := by rw [hq]; exact Nat.min_le_left _ _
        have hqe : q ≤ e - k := by rw [hq]; exact Nat.min_le_right _ _
        have y15 : IntKind.i64.wrap ((k : Int) + (q : Int)) = ((k + q : Nat) : Int) := by
          have := HN.out
          rw [IntKind.wrap_i64]; omega
        have hqq : (q = k - a ∧ k - a ≤ e - k) ∨ (q = e - k ∧ e - k ≤ k - a) := by
          rcases Nat.le_total (k - a) (e - k) with h | h
          · exact .inl ⟨by rw [hq]; exact Nat.min_eq_left h, h⟩
          · exact .inr ⟨by rw [hq]; exact Nat.min_eq_right h, h⟩
        have HKE : Hid (k + q ≤ e) := Lib.hid (by omega)
        have HK2 : Hid (k + q = B + (m + q)) := Lib.hid (by rw [HK.out]; omega)
        have HQ0 : Hid (0 < q) := Lib.hid (by have := HP.out hlt; omega)
        have hdv : dist ∣ k - a := by rcases HV.out with h | h; exact h; omega
        have HV2 : Hid (dist ∣ k + q - a ∨ k + q = e) := Lib.hid (by
          rcases hqq with ⟨h1, -⟩ | ⟨h1, -⟩
          · left
            have : k + q - a = (k - a) + (k - a) := by have := HP.out hlt; omega
            rw [this]; exact Nat.dvd_add hdv hdv
          · right; omega)
        have HP2 : Hid (k + q < e → 0 < k + q - a) := Lib.hid (by have := HP.out hlt; omega)
        have hstep : spl (cpyH s.hist B dist m) k (((cpyH s.hist B dist m).drop a).take q) = cpyH s.hist B dist (m + q) := by
          have h3 := HK.out
          have h4 := HN.out
          rw [h3] at hdv hqa ⊢
          exact step_flat s.hist hd1 hf HA.out m q hdv (by omega) hqa
        have hN' := HN.out
        have hD2 := hD1.drew
        have hlen := cpyH_len s.hist B dist m
        generalize cpyH s.hist B dist m = H at *
        have hcl : ((H.drop a).take q).length = q := cut_len (by omega)
        have hD3 := hD2.copyD k ((H.drop a).take q) (by rw [hcl]; omega)
        have f3 := f1.drew.trans (Imp.rowD I wr.drew (laidOver H k ((H.drop a).take q)))
        have G1 := hD2.bD
        have G3 := hD2.srcD (a := a) (q := q) (by omega)
        simp only [] at G1 G3 hD3
        rw [hstep] at hD3
        generalize hcc : (H.drop a).take q = c at *
        have G2 : (c.map u8).length = Nat.min (k - a) (e - k) := by rw [List.length_map, hcl, HQ.out]
        have G4 : k + (c.map u8).length ≤ (bytesA H).size := by unfold bytesA; rw [List.length_map, hcl]; simp; omega
        have G5 := u8s_one c
        have G7 : (goInt (c.map u8).length) = .int .i64 (q : Int) := by rw [List.length_map, hcl]; rfl
        have H1 := Lib.hid G1
        have H2 := Lib.hid G2
        have H3 := Lib.hid G3
        have H4 := Lib.hid G4
        have H5 := Lib.hid G5
        have H7 := Lib.hid G7
        have HD3 := Lib.hid hD3
        have HF3 := Lib.hid f3
        clear hq hN' hstep hD1 hD2 hD3 f1 f3 G1 G2 G3 G4 G5 G7 hcl hlen hcc hqq hdv
        go_wp2_with fail
        go_region_law (refine step_copy_row rfl (.tmp 63) (.tmp 70) 22 22 rfl 5 Tryd.underlying22 info5s I.D k (e - k) (N - k) ⟨I.D, a, none⟩ (k - a) (N - a) (by simp [Act.eval, Act.put]) (by simp [Act.eval, Act.put]) _ 5 H1.out _ H2.out H3.out H4.out H5.out (.int .i64 (q : Int)) H7.out (laidOver H k c) rfl ?_)
        all_goals simp only [List.getElem_toArray, List.getElem_cons_succ, List.getElem_cons_zero, Act.put, List.setIfInBounds_toArray, List.set_cons_succ, List.set_cons_zero]
        all_goals go_wp2_with fail
        all_goals go_roundw
        all_goals first | (show e - (k + q) < e - k; have := HQ0.out; omega) | exact ⟨k + q, m + q, c1, rfl, HK2, HKE.out, HV2, HP2, HD3.out, HF3.out⟩
      · obtain rfl : k = e := by omega
        have y5 : ¬ (k : Int) < (k : Int) := by omega
        have hmn : m = n := by have h1 := HE.out; have h2 := HB.out; have h3 := HK.out; omega
        have y6 : wrap64 ((k : Int) - (B : Int)) = (m : Int) := by have h3 := HK.out; have := HN.out; unfold wrap64; omega
        have zw := hD1.fz 1038
        have c38 := hD1.c_wr
        have HKB : Hid ((k : Int) - (B : Int) = (m : Int)) := Lib.hid (by have h3 := HK.out; omega)
        have hD2 := hD1.set_wr k (by have := HN.out; omega)
        have f2 := f1.trans (Imp.setF I wr 1038 (.int .i64 (k : Int)))
        have hfc : copied s dist (wrN s len) = { s with hist := cpyH s.hist B dist m, wr := k } := by unfold copied; rw [← HNN.out, HB.out, HE.out, hmn]
        have hD3 := hD2
        change Dec I E src srcV _ _ { s with hist := cpyH s.hist B dist m, wr := k } at hD3
        rw [← hfc] at hD3
        have HD2 := Lib.hid hD3
        have HF2 := Lib.hid f2
        have HM : Hid (vi m = vi (wrN s len)) := Lib.hid (by rw [← HNN.out, hmn])
        clear hD1 hD2 hD3 f1 f2 hfc hmn
        go_wp2_with fail
        go_ret
        exact ⟨by rw [← HM.out]; first | rfl | (show Ending.returned (.int .i64 ((k : Int) - (B : Int))) = _; rw [HKB.out]), ⟨_, HD2.out⟩, HF2.out⟩
  · have z2 : wrap64 ((B : Int) - dist) = (B : Int) - dist := by unfold wrap64; omega
    have z3 : ((B : Int) - dist < 0) := by omega
    obtain ⟨b, hb⟩ : ∃ b, b = N + B - dist := ⟨_, rfl⟩
    have z4 : wrap64 ((B : Int) - dist + N) = (b : Int) := by rw [hb]; unfold wrap64; omega
    have y6 : (0 : Int) ≤ (B : Int) := by omega
    have y7 : (0 : Int) ≤ (b : Int) := by omega
    have y8 : (b : Int) ≤ (N : Int) := by omega
    have y9 : (B : Int) ≤ (e : Int) := by omega
    have y10 : ¬ N = B := by omega
    have y11 : ¬ N = b := by omega
    have y12 : ¬ N - b = 0 := by omega
    have y13 : ¬ N - B = 0 := by omega
    obtain ⟨q0, hq⟩ : ∃ q0, q0 = Nat.min (N - b) (e - B) := ⟨_, rfl⟩
    have hqa : q0 ≤ N - b := by rw [hq]; exact Nat.min_le_left _ _
    have hqe : q0 ≤ e - B := by rw [hq]; exact Nat.min_le_right _ _
    have HQ := Lib.hid hq
    have y15 : IntKind.i64.wrap ((B : Int) + (q0 : Int)) = ((B + q0 : Nat) : Int) := by rw [IntKind.wrap_i64]; omega
    have hstep : spl s.hist B ((s.hist.drop b).take q0) = cpyH s.hist B dist q0 := by
      have := @cpy_first s.hist HL.out B dist q0 (by omega) hd2 (by omega) (by omega)
      rw [show b = B + 32768 - dist by omega]; exact this
    have hD2 := HDD.out.drew
    have hlen := HL.out
    have hcl : ((s.hist.drop b).take q0).length = q0 := cut_len (by omega)
    have hD3 := hD2.copyD B ((s.hist.drop b).take q0) (by rw [hcl]; omega)
    have f3 := ((Imp.refl I w).drew).trans (Imp.rowD I w.drew (laidOver s.hist B ((s.hist.drop b).take q0)))
    have G1 := hD2.bD
    have G3 := hD2.srcD (a := b) (q := q0) (by omega)
    rw [hstep] at hD3
    generalize hcc : (s.hist.drop b).take q0 = c at *
    have G2 : (c.map u8).length = Nat.min (N - b) (e - B) := by rw [List.length_map, hcl, HQ.out]
    have G4 : B + (c.map u8).length ≤ (bytesA s.hist).size := by unfold bytesA; rw [List.length_map, hcl]; simp; omega
    have G5 := u8s_one c
    have G7 : (goInt (c.map u8).length) = .int .i64 (q0 : Int) := by rw [List.length_map, hcl]; rfl
    have H1 := Lib.hid G1
    have H2 := Lib.hid G2
    have H3 := Lib.hid G3
    have H4 := Lib.hid G4
    have H5 := Lib.hid G5
    have H7 := Lib.hid G7
    have HD3 := Lib.hid hD3
    have HF3 := Lib.hid f3
    have HBB := Lib.hid hb
    have HNH := Lib.hid hN
    have HDV : Hid (dist ∣ B + q0 ∨ B + q0 = e) := Lib.hid (by
      rcases Nat.le_total (N - b) (e - B) with h | h
      · left
        have : q0 = N - b := by rw [hq]; exact Nat.min_eq_left h
        rw [show B + q0 = dist by omega]; exact Nat.dvd_refl _
      · right
        have : q0 = e - B := by rw [hq]; exact Nat.min_eq_right h
        omega)
    have HQE : Hid (B + q0 ≤ e) := Lib.hid (by omega)
    have HPO : Hid (B + q0 < e → 0 < B + q0) := Lib.hid (by
      intro h
      rcases Nat.le_total (N - b) (e - B) with h2 | h2
      · have : q0 = N - b := by rw [hq]; exact Nat.min_eq_left h2
        omega
      · have : q0 = e - B := by rw [hq]; exact Nat.min_eq_right h2
        omega)
    clear hstep hD2 hD3 f3 G1 G2 G3 G4 G5 G7 hcl hlen hcc hN hb hq
    go_enter Tryd.func46, Tryd.ntmps46
    go_wp2_with fail
    go_region_law (refine step_copy_row rfl (.tmp 44) (.tmp 50) 22 22 rfl 5 Tryd.underlying22 info5s I.D B (e - B) (N - B) ⟨I.D, b, none⟩ (N - b) (N - b) (by simp [Act.eval, Act.put]) (by simp [Act.eval, Act.put]) _ 5 H1.out _ H2.out H3.out H4.out H5.out (.int .i64 (q0 : Int)) H7.out (laidOver s.hist B c) rfl ?_)
    all_goals simp only [List.getElem_toArray, List.getElem_cons_succ, List.getElem_cons_zero, Act.put, List.setIfInBounds_toArray, List.set_cons_succ, List.set_cons_zero]
    all_goals go_wp2_with fail
    all_goals
      go_loopw [8] (fun d wr => ∃ (k m : Nat) (cs' : Array Value), d = .int .i64 (k : Int) ∧ Hid (k = B + m) ∧ k ≤ e ∧ Hid (dist ∣ k ∨ k = e) ∧ Hid (k < e → 0 < k) ∧ Dec I E src srcV wr cs' { s with hist := cpyH s.hist B dist m } ∧ Imp I w wr) (fun d _ => e - (intOf d).toNat)
      case atStart => exact ⟨B + q0, q0, cs, rfl, Lib.hid rfl, HQE.out, HDV, HPO, HD3.out, HF3.out⟩
      case round =>
        obtain ⟨k, m, c1, rfl, HK, hke, HV, HP, hD1, f1⟩ := hrel
        have ch1 : wr.cell? ⟨I.F, 1037, none⟩ = some (.slice (some ⟨I.D, 0, none⟩) N N) := by rw [HN.out]; exact hD1.c_hist
        by_cases hlt : k < e
        · have y5 : (k : Int) < (e : Int) := by omega
          have y6 : (0 : Int) ≤ (k : Int) := by omega
          have y9 : (k : Int) ≤ (N : Int) := by omega
          have y10 : ¬ N = k := by omega
          have y12 : ¬ N - k = 0 := by omega
          have y14 : (k : Int) ≤ (e : Int) := by omega
          obtain ⟨q, hq⟩ : ∃ q, q = Nat.min (k) (e - k) := ⟨_, rfl⟩
          have HQ := Lib.hid hq
          have hqa : q ≤ k := by rw [hq]; exact Nat.min_le_left _ _
          have hqe : q ≤ e - k := by rw [hq]; exact Nat.min_le_right _ _
          have y15 : IntKind.i64.wrap ((k : Int) + (q : Int)) = ((k + q : Nat) : Int) := by
            have := HN.out
            rw [IntKind.wrap_i64]; omega
          have hqq : (q = k ∧ k ≤ e - k) ∨ (q = e - k ∧ e - k ≤ k) := by
            rcases Nat.le_total (k) (e - k) with h | h
            · exact .inl ⟨by rw [hq]; exact Nat.min_eq_left h, h⟩
            · exact .inr ⟨by rw [hq]; exact Nat.min_eq_right h, h⟩
          have HKE : Hid (k + q ≤ e) := Lib.hid (by omega)
          have HK2 : Hid (k + q = B + (m + q)) := Lib.hid (by rw [HK.out]; omega)
          have HQ0 : Hid (0 < q) := Lib.hid (by have := HP.out hlt; omega)
          have hdv : dist ∣ k := by rcases HV.out with h | h; exact h; omega
          have HV2 : Hid (dist ∣ k + q ∨ k + q = e) := Lib.hid (by
            rcases hqq with ⟨h1, -⟩ | ⟨h1, -⟩
            · left
              have : k + q = k + k := by have := HP.out hlt; omega
              rw [this]; exact Nat.dvd_add hdv hdv
            · right; omega)
          have HP2 : Hid (k + q < e → 0 < k + q) := Lib.hid (by have := HP.out hlt; omega)
          have hstep : spl (cpyH s.hist B dist m) k (((cpyH s.hist B dist m).drop 0).take q) = cpyH s.hist B dist (m + q) := by
            have h3 := HK.out
            have h4 := HN.out
            rw [h3] at hdv hqa ⊢
            exact step_wrap s.hist (by omega) hd2 rfl m q (by have := HP.out hlt; omega) (by simpa using hdv) (by omega) (by simpa using hqa)
          have hN' := HN.out
          have hD2 := hD1.drew
          have hlen := cpyH_len s.hist B dist m
          generalize cpyH s.hist B dist m = H at *
          have hcl : ((H.drop 0).take q).length = q := cut_len (by omega)
          have hD3 := hD2.copyD k ((H.drop 0).take q) (by rw [hcl]; omega)
          have f3 := f1.drew.trans (Imp.rowD I wr.drew (laidOver H k ((H.drop 0).take q)))
          have G1 := hD2.bD
          have G3 := hD2.srcD (a := 0) (q := q) (by omega)
          simp only [] at G1 G3 hD3
          rw [hstep] at hD3
          generalize hcc : (H.drop 0).take q = c at *
          have G2 : (c.map u8).length = Nat.min (k) (e - k) := by rw [List.length_map, hcl, HQ.out]
          have G4 : k + (c.map u8).length ≤ (bytesA H).size := by unfold bytesA; rw [List.length_map, hcl]; simp; omega
          have G5 := u8s_one c
          have G7 : (goInt (c.map u8).length) = .int .i64 (q : Int) := by rw [List.length_map, hcl]; rfl
          have H1 := Lib.hid G1
          have H2 := Lib.hid G2
          have H3 := Lib.hid G3
          have H4 := Lib.hid G4
          have H5 := Lib.hid G5
          have H7 := Lib.hid G7
          have HD3 := Lib.hid hD3
          have HF3 := Lib.hid f3
          clear hq hN' hstep hD1 hD2 hD3 f1 f3 G1 G2 G3 G4 G5 G7 hcl hlen hcc hqq hdv
          go_wp2_with fail
          go_region_law (refine step_copy_row rfl (.tmp 63) (.tmp 70) 22 22 rfl 5 Tryd.underlying22 info5s I.D k (e - k) (N - k) ⟨I.D, 0, none⟩ (k) (N) (by simp [Act.eval, Act.put]) (by simp [Act.eval, Act.put]) _ 5 H1.out _ H2.out H3.out H4.out H5.out (.int .i64 (q : Int)) H7.out (laidOver H k c) rfl ?_)
          all_goals simp only [List.getElem_toArray, List.getElem_cons_succ, List.getElem_cons_zero, Act.put, List.setIfInBounds_toArray, List.set_cons_succ, List.set_cons_zero]
          all_goals go_wp2_with fail
          all_goals go_roundw
          all_goals first | (show e - (k + q) < e - k; have := HQ0.out; omega) | exact ⟨k + q, m + q, c1, rfl, HK2, HKE.out, HV2, HP2, HD3.out, HF3.out⟩
        · obtain rfl : k = e := by omega
          have y5 : ¬ (k : Int) < (k : Int) := by omega
          have hmn : m = n := by have h1 := HE.out; have h2 := HB.out; have h3 := HK.out; omega
          have y6 : wrap64 ((k : Int) - (B : Int)) = (m : Int) := by have h3 := HK.out; have := HN.out; unfold wrap64; omega
          have zw := hD1.fz 1038
          have c38 := hD1.c_wr
          have HKB : Hid ((k : Int) - (B : Int) = (m : Int)) := Lib.hid (by have h3 := HK.out; omega)
          have hD2 := hD1.set_wr k (by have := HN.out; omega)
          have f2 := f1.trans (Imp.setF I wr 1038 (.int .i64 (k : Int)))
          have hfc : copied s dist (wrN s len) = { s with hist := cpyH s.hist B dist m, wr := k } := by unfold copied; rw [← HNN.out, HB.out, HE.out, hmn]
          have hD3 := hD2
          change Dec I E src srcV _ _ { s with hist := cpyH s.hist B dist m, wr := k } at hD3
          rw [← hfc] at hD3
          have HD2 := Lib.hid hD3
          have HF2 := Lib.hid f2
          have HM : Hid (vi m = vi (wrN s len)) := Lib.hid (by rw [← HNN.out, hmn])
          clear hD1 hD2 hD3 f1 f2 hfc hmn
          go_wp2_with fail
          go_ret
          exact ⟨by rw [← HM.out]; first | rfl | (show Ending.returned (.int .i64 ((k : Int) - (B : Int))) = _; rw [HKB.out]), ⟨_, HD2.out⟩, HF2.out⟩
end
end Go.Proofs.YtbbnibbdiiffkaaDoor

/- A symbol through the tables. -/
namespace Go.Proofs.YtbbnibbdiiffkaaDoor
open Go.RowKit

/-- What the table says of some bits. -/
def look (h : HD) (b : Nat) : Nat :=
  if 9 < h.ch.getD (b % 512) 0 % 16 then (h.links.getD (h.ch.getD (b % 512) 0 / 16) []).getD (b / 512 &&& h.mask) 0 else h.ch.getD (b % 512) 0
/-- A table that leads nowhere outside. -/
structure Safe (h : HD) : Prop where
  min15 : h.min ≤ 15
  len : h.ch.length = 512
  ch32 : ∀ j, h.ch.getD j 0 < 2 ^ 31
  lk : ∀ j, 9 < h.ch.getD j 0 % 16 → h.ch.getD j 0 / 16 < h.links.length ∧ (h.links.getD (h.ch.getD j 0 / 16) []).length = h.mask + 1
  mask : h.mask < 2 ^ 16
  lk32 : ∀ i j, (h.links.getD i []).getD j 0 < 2 ^ 31
  llen : h.links.length ≤ 512

/-- What the reading of a symbol comes to. -/
inductive HR where
  | sym (v k b nb : Nat)
  | eof (k b nb : Nat)
  | bad (k b nb : Nat)
def HR.isSym : HR → Option Nat
  | .sym v .. => some v
  | _ => none
/-- Bytes are read until there are n bits: whether they ended, what was read. -/
def fill (src : List Nat) (n : Nat) : Nat → Nat → Nat → Nat → Bool × Nat × Nat × Nat
  | 0, k, b, nb => (false, k, b, nb)
  | g + 1, k, b, nb => if nb < n then if k < src.length then fill src n g (k + 1) (b ||| src.getD k 0 * 2 ^ nb) (nb + 8) else (true, k, b, nb) else (false, k, b, nb)
def hsGo (src : List Nat) (h : HD) : Nat → Bool × Nat × Nat × Nat → HR
  | 0, r => .bad r.2.1 r.2.2.1 r.2.2.2
  | f + 1, r =>
    if r.1 then .eof r.2.1 r.2.2.1 r.2.2.2 else
    let c := look h r.2.2.1
    let n := c % 16
    if n ≤ r.2.2.2 then if n = 0 then .bad r.2.1 r.2.2.1 r.2.2.2 else .sym (c / 16) r.2.1 (r.2.2.1 / 2 ^ n) (r.2.2.2 - n)
    else hsGo src h f (fill src n 16 r.2.1 r.2.2.1 r.2.2.2)
def hsM (src : List Nat) (h : HD) (k b nb : Nat) : HR := hsGo src h 17 (fill src h.min 16 k b nb)

def corV (ro : Nat) : Value := .iface 78 (.int .i64 (ro : Int))
def HR.val (E : Errs) (s : DS) : HR → Value
  | .sym v .. => .tuple #[vi v, .nilIface]
  | .eof .. => .tuple #[vi 0, E.uneV]
  | .bad k .. => .tuple #[vi 0, corV (s.ro + (k - s.k))]
def HR.st (s : DS) : HR → DS
  | .sym _ k b nb => { s with k := k, ro := s.ro + (k - s.k), b := b, nb := nb }
  | .eof k b nb => { s with k := k, ro := s.ro + (k - s.k), b := b, nb := nb }
  | .bad k b nb => { s with k := k, ro := s.ro + (k - s.k), b := b, nb := nb, err := corV (s.ro + (k - s.k)) }

/-- Where a table's pointer leads. -/
def TabOf (I : Ids) (s : DS) (hp : Value) (h : HD) : Prop :=
  (hp = .pointer (some ⟨I.F, 5, none⟩) ∧ h = s.h1) ∨ (hp = .pointer (some ⟨I.F, 520, none⟩) ∧ h = s.h2) ∨ ∃ X, hp = .pointer (some ⟨X, 0, none⟩) ∧ s.hl = hp ∧ h = s.hx
section
variable {I : Ids} {E : Errs} {src : List Nat} {srcV : Value} {w w' : World} {cs cs' : Array Value} {s : DS}
theorem Dec.tab (hD : Dec I E src srcV w cs s) {hp : Value} {h : HD} (ht : TabOf I s hp h) : TabAt w hp h := by
  rcases ht with ⟨rfl, rfl⟩ | ⟨rfl, rfl⟩ | ⟨X, rfl, h2, rfl⟩
  · exact ⟨_, _, _, _, _, rfl, hD.bF, hD.fc.h1, hD.lk1⟩
  · exact ⟨_, _, _, _, _, rfl, hD.bF, hD.fc.h2, hD.lk2⟩
  · obtain ⟨c, lv, q1, q2, q3⟩ := hD.tx X h2
    exact ⟨_, _, _, _, _, rfl, q1, q2, q3⟩
theorem TabOf.st {hp : Value} {h : HD} (ht : TabOf I s hp h) (k ro : Nat) : TabOf I { s with k := k, ro := ro } hp h := ht
end

theorem look_lt (h : HD) (hs : Safe h) (b : Nat) : look h b < 2 ^ 31 := by
  unfold look; split
  · exact hs.lk32 _ _
  · exact hs.ch32 _
theorem hsGo_step {src : List Nat} {h : HD} {f k b nb : Nat} : hsGo src h (f + 1) (false, k, b, nb) =
    if look h b % 16 ≤ nb then if look h b % 16 = 0 then .bad k b nb else .sym (look h b / 16) k (b / 2 ^ (look h b % 16)) (nb - look h b % 16)
    else hsGo src h f (fill src (look h b % 16) 16 k b nb) := by
  simp only [hsGo]; rfl
end Go.Proofs.YtbbnibbdiiffkaaDoor

/- A symbol through the tables, walked. -/
namespace Go.Proofs.YtbbnibbdiiffkaaDoor
open Go.RowKit

section
variable {I : Ids} {E : Errs} {src : List Nat} {srcV : Value} {w w' : World} {cs cs' : Array Value} {s : DS}

theorem ro_step {r k k2 : Nat} (h : k ≤ k2) (h2 : r + (k2 - k) ≤ k2) : r + (k2 + 1 - k) ≤ k2 + 1 ∧ (r + (k2 + 1 - k) = r + (k2 - k) + 1) := by omega
theorem wrap_ro {x y : Nat} (h : y = x + 1) (hx : x ≤ 100000) : wrap64 ((x : Int) + 1) = (y : Int) := by unfold wrap64; omega
theorem and31 {nb : Nat} (h : nb ≤ 31) : bits .and .u64 (nb : Int) 31 = (nb : Int) := by
  have := and_u64 nb 31 (by omega) (by decide)
  rw [show ((31 : Nat) : Int) = 31 from rfl] at this
  rw [this, show (31 : Nat) = 2 ^ 5 - 1 from rfl, and_mask]; congr 1; omega

set_option maxRecDepth 100000 in
set_option maxHeartbeats 4000000 in
theorem huffSym_any (hD : Dec I E src srcV w cs s) (hp : Value) (h : HD) (ht : TabOf I s hp h) (hs : Safe h) (hnb : s.nb ≤ 24) :
    Calls Tryd.prog 40 #[.pointer (some ⟨I.F, 0, none⟩), hp] w fun r w' => r = .returned ((hsM src h s.k s.b s.nb).val E s) ∧ (∃ cs', Dec I E src srcV w' cs' ((hsM src h s.k s.b s.nb).st s)) ∧ Imp I w w' := by
  obtain ⟨tb, tof, tcs, tt, tlv, rfl, htb, htc, htl⟩ := hD.tab ht
  have cmin : w.cell? ⟨tb, tof, none⟩ = some (vi h.min) := by simp [World.cell?, htb, htc.mn]
  have cb := hD.c_b
  have cnb := hD.c_nb
  have hmin := hs.min15
  have hb32 := hD.b32
  have HR0 : Hid (hsM src h s.k s.b s.nb = hsGo src h 17 (fill src h.min 16 s.k s.b s.nb)) := Lib.hid rfl
  generalize hRe : hsM src h s.k s.b s.nb = R at *
  have y0 : IntKind.u64.wrap (h.min : Int) = (h.min : Int) := wrap_u64_id _ (by omega) (by omega)
  have HDD := Lib.hid hD
  clear hRe htb htc htl
  go_enter Tryd.func40, Tryd.ntmps40
  go_wp2_with fail
  go_quiet (fail)
  go_wp2_with fail
  go_loopw [6, 7, 8] (fun nv nbv bv wr => ∃ (f n k b nb : Nat) (c1 : Array Value), nv = .int .u64 (n : Int) ∧ nbv = .int .u64 (nb : Int) ∧ bv = .int .u32 (b : Int) ∧ Hid (R = hsGo src h (f + 1) (fill src n 16 k b nb)) ∧ n ≤ 15 ∧ nb ≤ 24 ∧ b < 2 ^ 32 ∧ Hid (15 < f + n) ∧
      Hid (s.k ≤ k) ∧ Dec I E src srcV wr c1 { s with k := k, ro := s.ro + (k - s.k) } ∧ Imp I w wr) (fun nv _ _ _ => 16 - (intOf nv).toNat)
  case atStart => exact ⟨16, h.min, s.k, s.b, s.nb, cs, rfl, rfl, rfl, HR0, hmin, hnb, hb32, Lib.hid (by omega), Lib.hid (Nat.le_refl _), by rw [Nat.sub_self]; exact HDD.out.drewN _, (Imp.refl _ _).drewN _⟩
  case round =>
    obtain ⟨f, n, k, b, nb, c1, rfl, rfl, rfl, HR, hn, hnb2, hb, HFU, HK, hD1, f1⟩ := hrel
    obtain ⟨wo, rfl⟩ : ∃ wo : World, wo = wr := ⟨_, rfl⟩
    go_wp2_with fail
    go_loopw [7, 8] (fun nbv bv wr => ∃ (g k2 b2 nb2 : Nat) (c2 : Array Value), nbv = .int .u64 (nb2 : Int) ∧ bv = .int .u32 (b2 : Int) ∧ Hid (R = hsGo src h (f + 1) (fill src n g k2 b2 nb2)) ∧ nb2 ≤ 24 ∧ b2 < 2 ^ 32 ∧ Hid (n ≤ nb2 + g) ∧
      Hid (s.k ≤ k2) ∧ Dec I E src srcV wr c2 { s with k := k2, ro := s.ro + (k2 - s.k) } ∧ Imp I w wr) (fun nbv _ _ => 32 - (intOf nbv).toNat)
    case atStart => exact ⟨16, k, b, nb, c1, rfl, rfl, HR, hnb2, hb, Lib.hid (by omega), HK, hD1, f1⟩
    case round =>
      clear hD1 f1 HR HK hb hnb2 wo
      obtain ⟨g, k2, b2, nb2, c2, rfl, rfl, HR, hnb2, hb, HG, HK, hD1, f1⟩ := hrel
      have cr := hD1.c_r
      by_cases hlt : nb2 < n
      · obtain ⟨g, rfl⟩ : ∃ g', g = g' + 1 := ⟨g - 1, by have := HG.out; omega⟩
        have y1 : (nb2 : Int) < (n : Int) := by omega
        have hrb := readByte_any hD1
        by_cases hk : k2 < src.length
        · have hE : readB src E { s with k := k2, ro := s.ro + (k2 - s.k) } = (src.getD k2 0, .nilIface, { s with k := k2 + 1, ro := s.ro + (k2 - s.k) }) := if_pos hk
          rw [hE] at hrb; clear hE
          have HR2 : Hid (R = hsGo src h (f + 1) (fill src n g (k2 + 1) (b2 ||| src.getD k2 0 * 2 ^ nb2) (nb2 + 8))) := Lib.hid (by rw [HR.out, fill, if_pos hlt, if_pos hk])
          have hx := hD1.srcLt k2
          have hsh := shl_lt hx hnb2
          generalize src.getD k2 0 = x at *
          have hro := hD1.ro
          simp only [] at hro
          have y2 := or_shl32 hb hsh
          have y3 : bits .and .u64 (nb2 : Int) 31 = (nb2 : Int) := and31 (by omega)
          have hrs := ro_step HK.out hro
          have y4 := wrap_ro hrs.2 (Nat.le_trans hro (Nat.le_trans (Nat.le_of_lt hk) hD1.small))
          have hro3 := hrs.1
          clear hrs
          generalize hro' : s.ro + (k2 - s.k) = ro at *
          generalize hro2 : s.ro + (k2 + 1 - s.k) = ro2 at *
          go_wp2_with fail
          refine hrb.mono ?_; rintro r w3 ⟨rfl, hD3, f3⟩
          have c2o := hD3.c_ro
          have z2 := hD3.fz 2
          simp only [] at c2o
          have hD4 := hD3.set_ro ro2 hro3
          have f4 := (f1.trans f3).trans (Imp.setF I w3 2 (.int .i64 (ro2 : Int)))
          simp only [] at hD4
          have hD4' : Dec I E src srcV (w3.setCell ⟨I.F, 2, none⟩ (.int .i64 (ro2 : Int))) (c2.setIfInBounds 2 (.int .i64 (ro2 : Int))) { s with k := k2 + 1, ro := s.ro + (k2 + 1 - s.k) } := by rw [hro2]; exact hD4
          have HD4 := Lib.hid hD4'
          have HF4 := Lib.hid f4
          have HB4 := Lib.hid (Nat.or_lt_two_pow hb hsh)
          clear hD1 hD3 hD4 hD4' f1 f3 f4 hrb hro'
          have HG2 : Hid (n ≤ nb2 + 8 + g) := Lib.hid (by have := HG.out; omega)
          have HK2 : Hid (s.k ≤ k2 + 1) := Lib.hid (Nat.le_succ_of_le HK.out)
          have y5 : IntKind.u64.wrap ((nb2 : Int) + 8) = ((nb2 + 8 : Nat) : Int) := by rw [IntKind.wrap_u64]; omega
          go_wp2_with fail
          go_roundw
          case rel => exact ⟨g, k2 + 1, _, nb2 + 8, _, rfl, rfl, HR2, by omega, HB4.out, HG2, HK2, HD4.out, HF4.out⟩
          case measure => show 32 - (nb2 + 8) < 32 - nb2; omega
        · have hE : readB src E { s with k := k2, ro := s.ro + (k2 - s.k) } = (0, E.eofV, { s with k := k2, ro := s.ro + (k2 - s.k) }) := if_neg hk
          rw [hE] at hrb; clear hE
          have HR2 : Hid (R = .eof k2 b2 nb2) := Lib.hid (by rw [HR.out, fill, if_pos hlt, if_neg hk]; rfl)
          have hE : E.eofV = .iface 119 (.pointer (some E.eof)) := rfl
          rw [hE] at hrb
          go_wp2_with fail
          refine hrb.mono ?_; rintro r w3 ⟨rfl, hD3, f3⟩
          have hD4 := hD3.set_b b2 hb
          have hD5 := hD4.set_nb nb2 (by omega)
          have f5 := (((f1.trans f3).trans (Imp.setF I w3 3 (.int .u32 (b2 : Int)))).trans (Imp.setF I _ 4 (.int .u64 (nb2 : Int))))
          have c3 := hD3.c_b
          have c4 := hD3.c_nb
          have z3 := hD3.fz 3
          have z4 := hD3.fz 4
          have hno := noEOF_eof hD5.gl
          unfold Errs.eofV at hno
          have HD5 := Lib.hid hD5
          have HF5 := Lib.hid f5
          clear hD1 hD3 hD4 hD5 f1 f3 f5 hrb
          go_wp2_with fail
          refine hno.mono ?_; rintro r w4 ⟨rfl, rfl⟩
          go_wp2_with fail
          go_returns
          rw [HR2.out]
          exact ⟨rfl, ⟨_, HD5.out⟩, HF5.out⟩
      · have HR2 : Hid (R = if look h b2 % 16 ≤ nb2 then if look h b2 % 16 = 0 then .bad k2 b2 nb2 else .sym (look h b2 / 16) k2 (b2 / 2 ^ (look h b2 % 16)) (nb2 - look h b2 % 16) else hsGo src h f (fill src (look h b2 % 16) 16 k2 b2 nb2)) := Lib.hid (by
          rw [HR.out, ← hsGo_step]
          congr 1
          cases g with
          | zero => rfl
          | succ g => rw [fill, if_neg hlt])
        have y1 : ¬ (nb2 : Int) < (n : Int) := by omega
        obtain ⟨tb', tof', tcs, tt, tlv, he, htb, htc, htl⟩ := hD1.tab (ht.st k2 (s.ro + (k2 - s.k)))
        cases he
        have cch : wr.cell? ⟨tb, tof + 1 + b2 % 512, none⟩ = some (.int .u32 (h.ch.getD (b2 % 512) 0 : Nat)) := (show _ = tcs[tof + 1 + b2 % 512]? by simp [World.cell?, htb]).trans (htc.chs _ (Nat.mod_lt _ (by decide)))
        have clk : wr.cell? ⟨tb, tof + 513, none⟩ = some tlv := by simp [World.cell?, htb, htc.lk]
        have cmk : wr.cell? ⟨tb, tof + 514, none⟩ = some (.int .u32 (h.mask : Nat)) := (show _ = tcs[tof + 514]? by simp [World.cell?, htb]).trans htc.msk
        have y2 : bits .and .u32 (b2 : Int) 511 = ((b2 % 512 : Nat) : Int) := by
          have := and_u32 b2 511 hb (by decide)
          rw [show ((511 : Nat) : Int) = 511 from rfl] at this
          rw [this, show (511 : Nat) = 2 ^ 9 - 1 from rfl, and_mask]
        have y3 : ((b2 % 512 : Nat) : Int) < 512 := by omega
        have y4 : (0 : Int) ≤ ((b2 % 512 : Nat) : Int) := by omega
        have y5 : ((b2 % 512 : Nat) : Int).toNat = b2 % 512 := rfl
        have hc32 := hs.ch32 (b2 % 512)
        have HLK := Lib.hid (hs.lk (b2 % 512))
        have HLO : Hid (look h b2 = if 9 < h.ch.getD (b2 % 512) 0 % 16 then (h.links.getD (h.ch.getD (b2 % 512) 0 / 16) []).getD (b2 / 512 &&& h.mask) 0 else h.ch.getD (b2 % 512) 0) := Lib.hid rfl
        generalize hch : h.ch.getD (b2 % 512) 0 = c at *
        generalize hix : b2 % 512 = ix at *
        have y6 : bits .and .u32 (c : Int) 15 = ((c % 16 : Nat) : Int) := by
          have := and_u32 c 15 (by omega) (by decide)
          rw [show ((15 : Nat) : Int) = 15 from rfl] at this
          rw [this, show (15 : Nat) = 2 ^ 4 - 1 from rfl, and_mask]
        have y7 : IntKind.u64.wrap ((c % 16 : Nat) : Int) = ((c % 16 : Nat) : Int) := wrap_u64_id _ (by omega) (by omega)
        generalize hcn : c % 16 = cn at *

        have hcn' := hcn
        clear hch hix hcn
        have hL31 := look_lt h hs b2
        generalize look h b2 = L at *
        have HCN := Lib.hid hcn'
        go_upto_region 13 with fail
        iterate 17 (first | go_values | go_skip | go_guarded | go_step | go_upon | go_simp)
        go_cut [6, 11] (fun s6 s11 wx => s6 = .int .u64 ((L % 16 : Nat) : Int) ∧ s11 = .int .u32 (L : Int) ∧ Dec I E src srcV wx c2 { s with k := k2, ro := s.ro + (k2 - s.k) } ∧ Imp I w wx)
        case first =>
          by_cases h9 : 9 < cn
          · have y8 : (9 : Int) < (cn : Int) := by omega
            obtain ⟨hl1, hl2⟩ := HLK.out h9
            have hL := HLO.out
            rw [if_pos h9] at hL
            rcases htl with ⟨hnil, -⟩ | ⟨Lb, lcap, lcs, hlv, hlb, hli⟩
            · rw [hnil] at hl1; exact absurd hl1 (Nat.not_lt_zero _)
            obtain ⟨Li, lcap2, ds, q1, q2, q3⟩ := hli (c / 16) hl1
            have hmm : b2 / 512 &&& h.mask ≤ h.mask := Nat.and_le_right
            have q4 := q3 (b2 / 512 &&& h.mask) (by omega)
            have d1 : wr.cell? ⟨Lb, c / 16, none⟩ = some (.slice (some ⟨Li, 0, none⟩) (h.links.getD (c / 16) []).length lcap2) := (show _ = lcs[c / 16]? by simp [World.cell?, hlb]).trans q1
            have d2 : wr.cell? ⟨Li, b2 / 512 &&& h.mask, none⟩ = some (.int .u32 (L : Int)) := (show _ = ds[b2 / 512 &&& h.mask]? by simp [World.cell?, q2]).trans (by rw [q4, ← hL]; rfl)
            have hmk := hs.mask
            have d3 : bits .and .u32 ((b2 : Int) / 512) (h.mask : Int) = ((b2 / 512 &&& h.mask : Nat) : Int) := and_u32 (b2 / 512) h.mask (by omega) (by omega)
            have d4 : (c : Int) / 16 = ((c / 16 : Nat) : Int) := rfl
            have d5 : ((b2 / 512 &&& h.mask : Nat) : Int) < ((h.links.getD (c / 16) []).length : Int) := by omega
            have d6 : ((c / 16 : Nat) : Int) < (h.links.length : Int) := by omega
            generalize hmx : b2 / 512 &&& h.mask = mx at *
            generalize h.links.getD (c / 16) [] = row at *
            generalize hqq : c / 16 = qq at *
            have HQQ := Lib.hid hqq
            have HMX := Lib.hid hmx
            have d7 : (0 : Int) ≤ (qq : Int) := by omega
            have d8 : (0 : Int) ≤ (mx : Int) := by omega
            subst hlv
            have y9 : bits .and .u32 (L : Int) 15 = ((L % 16 : Nat) : Int) := by
              have := and_u32 L 15 (by omega) (by decide)
              rw [show ((15 : Nat) : Int) = 15 from rfl] at this
              rw [this, show (15 : Nat) = 2 ^ 4 - 1 from rfl, and_mask]
            have y10 : IntKind.u64.wrap ((L % 16 : Nat) : Int) = ((L % 16 : Nat) : Int) := wrap_u64_id _ (by omega) (by omega)
            clear hqq hmx hL hl2 q1 q3 q4
            go_wp2_with fail
            go_quiet (fail)
            go_wp2_with fail
            go_meet
            exact ⟨rfl, rfl, hD1.drewN _, f1.drewN _⟩
          · have hL := HLO.out
            rw [if_neg h9] at hL
            have y8 : ¬ (9 : Int) < (cn : Int) := by omega
            have HLL := Lib.hid hL
            have HC6 : Hid ((cn : Int) = ((L % 16 : Nat) : Int)) := Lib.hid (by rw [hL, HCN.out])
            clear hL htl
            go_wp2_with fail
            go_meet
            exact ⟨by rw [HC6.out], by rw [HLL.out], hD1, f1⟩
        case rest =>
          obtain ⟨rfl, rfl, hD2, f2⟩ := hcut
          clear HLO HLK HCN hcn' htl htb htc clk cmk hc32 y2 y3 y4 y5 cch y6 y7 hD1 f1 cr HR
          have hlt16 : L % 16 ≤ 15 := by omega
          generalize hln : L % 16 = ln at *
          by_cases hle : ln ≤ nb2
          · have t1 : (ln : Int) ≤ (nb2 : Int) := by omega
            by_cases h0 : ln = 0
            · have hR : R = .bad k2 b2 nb2 := by rw [HR2.out, if_pos hle, if_pos h0]
              have HR3 := Lib.hid hR
              clear hR HR2
              have t2 : ((ln : Int) == 0) = true := beq_iff_eq.2 (by omega)
              have hD3 := hD2.set_b b2 hb
              have hD4 := hD3.set_nb nb2 (by omega)
              have hD5 := hD4.set_err (corV (s.ro + (k2 - s.k)))
              have f5 := ((f2.trans (Imp.setF I wc 3 (.int .u32 (b2 : Int)))).trans (Imp.setF I _ 4 (.int .u64 (nb2 : Int)))).trans (Imp.setF I _ 1048 (corV (s.ro + (k2 - s.k))))
              have c2o := hD2.c_ro
              have c3 := hD2.c_b
              have c4 := hD2.c_nb
              have c48 := hD2.c_err
              have z3 := hD2.fz 3
              have z4 := hD2.fz 4
              have z48 := hD2.fz 1048
              simp only [] at c2o
              have HV : Hid (HR.val E s (.bad k2 b2 nb2) = .tuple #[vi 0, .iface 78 (.int .i64 ((s.ro + (k2 - s.k) : Nat) : Int))]) := Lib.hid rfl
              unfold corV at hD5 f5
              generalize hro : s.ro + (k2 - s.k) = ro at *
              have HD5 := Lib.hid hD5
              have HF5 := Lib.hid f5
              have HRO := Lib.hid hro
              clear hD2 hD3 hD4 hD5 f2 f5 hro h0 hln hle
              go_wp2_with fail
              go_quiet (fail)
              go_wp2_with fail
              go_ret2
              have hro := HRO.out
              subst hro
              rw [HR3.out]
              exact ⟨rfl, ⟨_, HD5.out.drewN _⟩, HF5.out.drewN _⟩
            · have hR : R = .sym (L / 16) k2 (b2 / 2 ^ ln) (nb2 - ln) := by rw [HR2.out, if_pos hle, if_neg h0]
              have HR3 := Lib.hid hR
              clear hR HR2
              have t2 : ((ln : Int) == 0) = false := beq_eq_false_iff_ne.2 (by omega)
              have t3 : bits .and .u64 (ln : Int) 31 = (ln : Int) := and31 (by omega)
              have hbl : b2 / 2 ^ ln < 2 ^ 32 := Nat.lt_of_le_of_lt (Nat.div_le_self _ _) hb
              have t4 : (b2 : Int) / 2 ^ ln = ((b2 / 2 ^ ln : Nat) : Int) := by simp
              have t5 : IntKind.u64.wrap ((nb2 : Int) - (ln : Int)) = ((nb2 - ln : Nat) : Int) := by rw [IntKind.wrap_u64]; omega
              have hD3 := hD2.set_b (b2 / 2 ^ ln) hbl
              have hD4 := hD3.set_nb (nb2 - ln) (by omega)
              have f5 := ((f2.trans (Imp.setF I wc 3 (.int .u32 ((b2 / 2 ^ ln : Nat) : Int)))).trans (Imp.setF I _ 4 (.int .u64 ((nb2 - ln : Nat) : Int))))
              have c3 := hD2.c_b
              have c4 := hD2.c_nb
              have z3 := hD2.fz 3
              have z4 := hD2.fz 4
              have HD5 := Lib.hid hD4
              have HF5 := Lib.hid f5
              have t6 : (L : Int) / 16 = ((L / 16 : Nat) : Int) := rfl
              generalize hq : b2 / 2 ^ ln = q at *
              generalize hnn : nb2 - ln = nn at *
              generalize hsy : L / 16 = sy at *
              have hsy2 : sy < 2 ^ 31 := by omega
              clear hD2 hD3 hD4 f2 f5 h0 hln hle hq hnn hsy hlt16
              go_wp2_with fail
              go_ret2
              rw [HR3.out]
              exact ⟨rfl, ⟨_, HD5.out⟩, HF5.out⟩
          · have t1 : ¬ (ln : Int) ≤ (nb2 : Int) := by omega
            have hR : R = hsGo src h f (fill src ln 16 k2 b2 nb2) := by rw [HR2.out, if_neg hle]
            obtain ⟨f, rfl⟩ : ∃ f', f = f' + 1 := ⟨f - 1, by have := HFU.out; omega⟩
            have HR3 := Lib.hid hR
            have HFU2 : Hid (15 < f + ln) := Lib.hid (by have := HFU.out; omega)
            have hnl : n < ln := by omega
            have HD2 := Lib.hid hD2
            have HF2 := Lib.hid f2
            clear hR HR2 hD2 f2 hln
            go_wp2_with fail
            go_roundw
            case rel => exact ⟨f, ln, k2, b2, nb2, c2, rfl, rfl, rfl, HR3, hlt16, hnb2, hb, HFU2, HK, HD2.out, HF2.out⟩
            case measure => show 16 - ln < 16 - n; omega
end
end Go.Proofs.YtbbnibbdiiffkaaDoor
