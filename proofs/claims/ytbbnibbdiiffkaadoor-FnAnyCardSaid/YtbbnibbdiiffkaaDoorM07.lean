/- The decoder's reading of bytes: ReadByte, noEOF, moreBits. The window's small methods. The window's copying, plain. The window's copying, walked. -/
import Derived.Test.YtbbnibbdiiffkaaDoorM06

/- The decoder's reading of bytes: ReadByte, noEOF, moreBits. -/
namespace Go.Proofs.YtbbnibbdiiffkaaDoor
open Go.RowKit

section
variable {I : Ids} {E : Errs} {src : List Nat} {srcV : Value} {w w' : World} {cs cs' : Array Value} {s : DS}
theorem Dec.setR (h : Dec I E src srcV w cs s) (i : Nat) (v : Value) (k' : Nat) (hk : k' ≤ src.length) (hro : s.ro ≤ k') (hv : ∀ pr, ∃ pr', (#[srcV, Value.int .i64 s.k, pr] : Array Value).setIfInBounds i v = #[srcV, .int .i64 k', pr']) :
    Dec I E src srcV (w.setCell ⟨I.R, i, none⟩ v) cs { s with k := k' } := by
  have hf : Imp I w (w.setCell ⟨I.R, i, none⟩ v) := Frm.setCell (Frm.refl _ _) (.inr (.inl rfl)) v
  have ho : ∀ k, k ≠ I.R → (w.setCell ⟨I.R, i, none⟩ v).heap[k]? = w.heap[k]? := fun k hk => heap_setCell_other _ _ _ _ (fun e => hk e)
  obtain ⟨pr, hR⟩ := h.bR
  obtain ⟨pr', hpr⟩ := hv pr
  have o := h.ok
  refine ⟨?_, ⟨h.fc.size, h.fc.r, h.fc.pb, h.fc.pc, h.fc.hist, h.fc.ro, h.fc.b, h.fc.nb, h.fc.wr, h.fc.rd, h.fc.full, h.fc.step, h.fc.st, h.fc.final, h.fc.err, h.fc.tr, h.fc.hl, h.fc.hd, h.fc.len, h.fc.dist, h.fc.h1, h.fc.h2, h.fc.buf⟩, ⟨pr', ?_⟩, ?_, ?_, ?_, h.srcs hf, h.notOwn, h.gl.frm hf h.lows, o, h.links hf h.lk1, h.links hf h.lk2, h.txs hf, h.hlen, h.blen, h.clen, hk, h.small, h.bytes, h.b32, h.nb32, hro, h.wr, h.rd, h.dlen, h.ddist⟩
  · rw [ho _ o.FR]; exact h.bF
  · rw [heap_setCell_same w I.R i _ 43 v hR, hpr]
  · rw [ho _ (Ne.symm o.RD)]; exact h.bD
  · rw [ho _ (Ne.symm o.RB)]; exact h.bB
  · rw [ho _ (Ne.symm o.RC)]; exact h.bC

/-- What ReadByte gives. -/
def readB (src : List Nat) (E : Errs) (s : DS) : Nat × Value × DS := if s.k < src.length then (src.getD s.k 0, .nilIface, { s with k := s.k + 1 }) else (0, E.eofV, s)

set_option maxRecDepth 100000 in
set_option maxHeartbeats 1000000 in
theorem readByte_any (hD : Dec I E src srcV w cs s) :
    Calls Tryd.prog 82 #[.pointer (some ⟨I.R, 0, none⟩)] w fun r w' => r = .returned (.tuple #[u8 (readB src E s).1, (readB src E s).2.1]) ∧ Dec I E src srcV w' cs (readB src E s).2.2 ∧ Imp I w w' := by
  obtain ⟨pr, hR⟩ := hD.bR
  have hD1 := hD.setR 2 (.int .i64 (-1)) s.k hD.kle hD.ro (fun pr => ⟨.int .i64 (-1), by simp⟩)
  have f1 : Imp I w (w.setCell ⟨I.R, 2, none⟩ (.int .i64 (-1))) := Frm.setCell (Frm.refl _ _) (.inr (.inl rfl)) _
  have fz : ∀ i, w.frozen? ⟨I.R, i, none⟩ = false := fun i => frozen_of_row w I.R i _ _ hR
  obtain ⟨a, cap, hsv, hcd⟩ := hD.bS
  subst hsv
  have c0 : w.cell? ⟨I.R, 0, none⟩ = some (.slice a src.length cap) := by simp [World.cell?, hR]
  have c1 : w.cell? ⟨I.R, 1, none⟩ = some (.int .i64 s.k) := by simp [World.cell?, hR]
  have c2 : w.cell? ⟨I.R, 2, none⟩ = some pr := by simp [World.cell?, hR]
  have z1 := fz 1
  have z2 := fz 2
  have hkle := hD.kle
  have hsm := hD.small
  have g0 := hD.gl.g0
  by_cases hk : s.k < src.length
  · have hE : readB src E s = (src.getD s.k 0, .nilIface, { s with k := s.k + 1 }) := if_pos hk
    rw [hE]; clear hE
    obtain ⟨b, off, rfl, hb, hcell⟩ := hcd s.k hk
    have hown := hD.notOwn b off src.length cap rfl
    have hne : b ≠ I.R := fun e => hown (.inr (.inl e))
    have hc' : (w.setCell ⟨I.R, 2, none⟩ (.int .i64 (-1))).cell? ⟨b, off + s.k, none⟩ = some (u8 (src.getD s.k 0)) := by
      rw [World.cell?_of_block (w := w) (heap_setCell_other _ _ _ _ (fun e => hne e))]; exact hcell
    have hro' : s.ro ≤ s.k + 1 := Nat.le_succ_of_le hD.ro
    have y1 : wrap64 ((s.k : Int) + 1) = ((s.k + 1 : Nat) : Int) := by unfold wrap64; omega
    have hD2 := hD1.setR 1 (.int .i64 ((s.k + 1 : Nat) : Int)) (s.k + 1) (by omega) hro' (fun pr => ⟨pr, by simp⟩)
    have f2 : Imp I w ((w.setCell ⟨I.R, 2, none⟩ (.int .i64 (-1))).setCell ⟨I.R, 1, none⟩ (.int .i64 ((s.k + 1 : Nat) : Int))) := Frm.setCell f1 (.inr (.inl rfl)) _
    generalize src.getD s.k 0 = x at *
    go_enter Tryd.func82, Tryd.ntmps82
    have d1 : ¬ (s.k : Int) ≥ src.length := by omega
    go_wp2_with fail
    go_quiet (fail)
    go_wp2_with fail
    go_quiet (fail)
    go_wp2_with fail
    go_ret2
    exact ⟨rfl, hD2.drewN _, f2.drewN _⟩
  · have hE : readB src E s = (0, E.eofV, s) := if_neg hk
    rw [hE]; clear hE
    have d1 : (s.k : Int) ≥ src.length := by omega
    go_enter Tryd.func82, Tryd.ntmps82
    go_wp2_with fail
    go_quiet (fail)
    go_wp2_with fail
    go_quiet (fail)
    go_wp2_with fail
    go_ret2
    exact ⟨rfl, (hD1.drewN _).drewN _, (f1.drewN _).drewN _⟩

theorem info119 : (Tryd.prog.info? 119).map (fun i => i.comparable) = some true := by kernel_rfl
theorem info135 : (Tryd.prog.info? 135).map (fun i => decide (i.size = 0)) = some false := by kernel_rfl
theorem eql_same (a : Addr) : (binOp .eql 36 (.iface 119 (.pointer (some a))) (.iface 119 (.pointer (some a)))).run Tryd.prog w = .ok (.bool true) w := by
  obtain ⟨i, hi, hi'⟩ := Option.map_eq_some_iff.1 info119
  obtain ⟨j, hj, hj'⟩ := Option.map_eq_some_iff.1 info135
  exact run_eql_iface_ptr_same w a Tryd.underlying36 Tryd.underlying119 hi hi' hj
theorem eql_other {a b : Addr} (hne : a ≠ b) (ha : ∃ c t, w.heap[a.block]? = some (.cells c t (0, 0))) (hb : ∃ c t, w.heap[b.block]? = some (.cells c t (0, 0))) :
    (binOp .eql 36 (.iface 119 (.pointer (some a))) (.iface 119 (.pointer (some b)))).run Tryd.prog w = .ok (.bool false) w := by
  obtain ⟨i, hi, hi'⟩ := Option.map_eq_some_iff.1 info119
  obtain ⟨j, hj, hj'⟩ := Option.map_eq_some_iff.1 info135
  obtain ⟨ca, ta, ha⟩ := ha
  obtain ⟨cb, tb, hb⟩ := hb
  exact run_eql_iface_ptr_other w Tryd.underlying36 Tryd.underlying119 hi hi' hj (by simpa using hj') hne ha hb

set_option maxRecDepth 100000 in
theorem noEOF_eof (hg : GL E I.lo w) : Calls Tryd.prog 34 #[E.eofV] w fun r w' => r = .returned E.uneV ∧ w' = w := by
  have g0 := hg.g0
  have g1 := hg.g1
  unfold Errs.eofV Errs.uneV at *
  have he := eql_same (w := w) E.eof
  go_enter Tryd.func34, Tryd.ntmps34
  go_wp2_with fail
  go_ret
  exact ⟨rfl, rfl⟩
set_option maxRecDepth 100000 in
theorem noEOF_une (hg : GL E I.lo w) : Calls Tryd.prog 34 #[E.uneV] w fun r w' => r = .returned E.uneV ∧ w' = w := by
  have g0 := hg.g0
  unfold Errs.eofV Errs.uneV at *
  have he := eql_other (w := w) (Ne.symm hg.ne) hg.bune hg.beof
  go_enter Tryd.func34, Tryd.ntmps34
  go_wp2_with fail
  go_ret
  exact ⟨rfl, rfl⟩

/-- What moreBits does. -/
def moreB (src : List Nat) (E : Errs) (s : DS) : Value × DS :=
  if s.k < src.length then (.nilIface, { s with k := s.k + 1, ro := s.ro + 1, b := s.b ||| src.getD s.k 0 * 2 ^ s.nb, nb := s.nb + 8 }) else (E.uneV, s)
theorem or_shl32 {b x nb : Nat} (hb : b < 2 ^ 32) (h : x * 2 ^ nb < 2 ^ 32) : bits .or .u32 (b : Int) ((x : Int) * 2 ^ nb % 4294967296) = ((b ||| x * 2 ^ nb : Nat) : Int) := by
  have e : (x : Int) * 2 ^ nb = ((x * 2 ^ nb : Nat) : Int) := by rw [Int.natCast_mul, Int.natCast_pow]; rfl
  rw [e]
  generalize x * 2 ^ nb = y at *
  rw [show (y : Int) % 4294967296 = y by omega]
  exact or_u32 b y hb h
theorem shl_lt {x nb : Nat} (hx : x < 256) (hn : nb ≤ 24) : x * 2 ^ nb < 2 ^ 32 := by
  have h1 : 2 ^ nb ≤ 2 ^ 24 := Nat.pow_le_pow_right (by decide) hn
  have h2 : x * 2 ^ nb ≤ 255 * 2 ^ 24 := Nat.mul_le_mul (by omega) h1
  omega
theorem Dec.srcLt (h : Dec I E src srcV w cs s) (j : Nat) : src.getD j 0 < 256 := by
  rcases Nat.lt_or_ge j src.length with hj | hj
  · rw [List.getD_eq_getElem?_getD, List.getElem?_eq_getElem hj]; exact h.bytes _ (List.getElem_mem hj)
  · rw [List.getD_eq_getElem?_getD, List.getElem?_eq_none hj]; decide

set_option maxRecDepth 100000 in
set_option maxHeartbeats 1000000 in
theorem moreBits_any (hD : Dec I E src srcV w cs s) (hnb : s.nb ≤ 24) :
    Calls Tryd.prog 21 #[.pointer (some ⟨I.F, 0, none⟩)] w fun r w' => r = .returned (moreB src E s).1 ∧ (∃ cs', Dec I E src srcV w' cs' (moreB src E s).2) ∧ Imp I w w' := by
  have cr := hD.c_r
  have hrb := readByte_any hD
  have hro := hD.ro
  by_cases hk : s.k < src.length
  · have hE : readB src E s = (src.getD s.k 0, .nilIface, { s with k := s.k + 1 }) := if_pos hk
    rw [hE] at hrb; clear hE
    have hE : moreB src E s = (.nilIface, { s with k := s.k + 1, ro := s.ro + 1, b := s.b ||| src.getD s.k 0 * 2 ^ s.nb, nb := s.nb + 8 }) := if_pos hk
    rw [hE]; clear hE
    have hx := hD.srcLt s.k
    have hsh := shl_lt hx hnb
    have hb := hD.b32
    generalize src.getD s.k 0 = x at *
    go_enter Tryd.func21, Tryd.ntmps21
    go_wp2_with fail
    refine hrb.mono ?_; rintro r w1 ⟨rfl, hD1, f1⟩
    have hD2 := hD1.set_ro (s.ro + 1) (Nat.succ_le_succ hro)
    have hD3 := hD2.set_b (s.b ||| x * 2 ^ s.nb) (Nat.or_lt_two_pow hb hsh)
    have hD4 := hD3.set_nb (s.nb + 8) (by omega)
    have c2 := hD1.c_ro
    have c3 := hD1.c_b
    have c4 := hD1.c_nb
    have z2 := hD1.fz 2
    have z3 := hD1.fz 3
    have z4 := hD1.fz 4
    simp only [] at c2 c3 c4 hD4
    have y1 : wrap64 ((s.ro : Int) + 1) = ((s.ro + 1 : Nat) : Int) := by have := hD.kle; have := hD.small; unfold wrap64; omega
    go_wp2_with fail
    refine still_tail 14 (by kernel_rfl) (by kernel_rfl) ?_
    simp only [List.take_succ_cons, List.take_zero, List.drop_succ_cons, List.drop_zero]
    repeat still_step
    refine wpStill_nil ?_
    have y2 : bits .or .u32 (s.b : Int) ((x : Int) * 2 ^ s.nb % 4294967296) = ((s.b ||| x * 2 ^ s.nb : Nat) : Int) := or_shl32 hb hsh
    have f4 := (((f1.setCell (p := ⟨I.F, 2, none⟩) (.inl rfl) (.int .i64 ((s.ro + 1 : Nat) : Int))).setCell (p := ⟨I.F, 3, none⟩) (.inl rfl) (.int .u32 ((s.b ||| x * 2 ^ s.nb : Nat) : Int))).setCell (p := ⟨I.F, 4, none⟩) (.inl rfl) (.int .u64 ((s.nb + 8 : Nat) : Int))).drew
    have hD5 := hD4.drew
    rw [← y2] at hD5 f4
    have HD := Lib.hid hD5
    have HF := Lib.hid f4
    clear hD2 hD3 hD4 hD5 f4 y2
    go_wp2_with fail
    go_ret
    exact ⟨rfl, ⟨_, HD.out⟩, HF.out⟩
  · have hE : readB src E s = (0, E.eofV, s) := if_neg hk
    rw [hE] at hrb; clear hE
    have hE : moreB src E s = (E.uneV, s) := if_neg hk
    rw [hE]; clear hE
    have hE : E.eofV = .iface 119 (.pointer (some E.eof)) := rfl
    go_enter Tryd.func21, Tryd.ntmps21
    go_wp2_with fail
    refine hrb.mono ?_; rintro r w1 ⟨rfl, hD1, f1⟩
    have hn := noEOF_eof hD1.gl
    unfold Errs.eofV at hn
    go_wp2_with fail
    refine hn.mono ?_; rintro r w2 ⟨rfl, rfl⟩
    go_wp2_with fail
    go_ret
    exact ⟨rfl, ⟨_, hD1⟩, f1⟩
end
end Go.Proofs.YtbbnibbdiiffkaaDoor

/- The window's small methods. -/
namespace Go.Proofs.YtbbnibbdiiffkaaDoor
open Go.RowKit

section
variable {I : Ids} {E : Errs} {src : List Nat} {srcV : Value} {w w' : World} {cs cs' : Array Value} {s : DS}
/-- The window's pointer. -/
def Ids.dp (I : Ids) : Value := .pointer (some ⟨I.F, 1037, none⟩)

set_option maxRecDepth 100000 in
set_option maxHeartbeats 1000000 in
theorem availWrite_any (hD : Dec I E src srcV w cs s) : Calls Tryd.prog 42 #[I.dp] w fun r w' => r = .returned (.int .i64 ((32768 - s.wr : Nat) : Int)) ∧ Dec I E src srcV w' cs s ∧ Imp I w w' := by
  have ch := hD.c_hist
  have cw := hD.c_wr
  have hw := hD.wr
  have y : (32768 : Int) - s.wr = ((32768 - s.wr : Nat) : Int) := by omega
  unfold Ids.dp
  go_enter Tryd.func42, Tryd.ntmps42
  go_wp2_with fail
  go_quiet (fail)
  go_wp2_with fail
  go_ret
  exact ⟨rfl, hD.drewN _, (Imp.refl I w).drewN _⟩

set_option maxRecDepth 100000 in
set_option maxHeartbeats 1000000 in
theorem availRead_any (hD : Dec I E src srcV w cs s) (hr : s.rd ≤ s.wr) : Calls Tryd.prog 59 #[I.dp] w fun r w' => r = .returned (.int .i64 ((s.wr - s.rd : Nat) : Int)) ∧ Dec I E src srcV w' cs s ∧ Imp I w w' := by
  have ch := hD.c_rd
  have cw := hD.c_wr
  have hw := hD.wr
  have y : (s.wr : Int) - s.rd = ((s.wr - s.rd : Nat) : Int) := by omega
  unfold Ids.dp
  go_enter Tryd.func59, Tryd.ntmps59
  go_wp2_with fail
  go_quiet (fail)
  go_wp2_with fail
  go_ret
  exact ⟨rfl, hD.drewN _, (Imp.refl I w).drewN _⟩

def histN (s : DS) : Nat := if s.full then 32768 else s.wr
set_option maxRecDepth 100000 in
set_option maxHeartbeats 1000000 in
theorem histSize_any (hD : Dec I E src srcV w cs s) : Calls Tryd.prog 44 #[I.dp] w fun r w' => r = .returned (.int .i64 (histN s : Int)) ∧ Dec I E src srcV w' cs s ∧ Imp I w w' := by
  have ch := hD.c_hist
  have cw := hD.c_wr
  have cf := hD.c_full
  have hw := hD.wr
  unfold Ids.dp histN
  cases hf : s.full with
  | true =>
    rw [hf] at cf
    go_enter Tryd.func44, Tryd.ntmps44
    go_wp2_with fail
    go_ret
    exact ⟨rfl, hD, Imp.refl I w⟩
  | false =>
    rw [hf] at cf
    go_enter Tryd.func44, Tryd.ntmps44
    go_wp2_with fail
    go_ret
    exact ⟨rfl, hD, Imp.refl I w⟩

/-- What of the window is free. -/
def Ids.free (I : Ids) (wr : Nat) : Value := .slice (some ⟨I.D, wr, none⟩) (32768 - wr) (32768 - wr)
set_option maxRecDepth 100000 in
set_option maxHeartbeats 1000000 in
theorem writeSlice_any (hD : Dec I E src srcV w cs s) (hlt : s.wr < 32768) : Calls Tryd.prog 60 #[I.dp] w fun r w' => r = .returned (I.free s.wr) ∧ Dec I E src srcV w' cs s ∧ Imp I w w' := by
  have ch := hD.c_hist
  have cw := hD.c_wr
  have hw := hD.wr
  have y1 : ((s.wr : Int)) ≤ 32768 := by omega
  have y2 : ¬ (32768 = s.wr) := by omega
  have y3 : ¬ (32768 - s.wr = 0) := by omega
  unfold Ids.dp Ids.free
  go_enter Tryd.func60, Tryd.ntmps60
  go_wp2_with fail
  go_quiet (fail)
  go_wp2_with fail
  go_ret
  exact ⟨rfl, hD.drewN _, (Imp.refl I w).drewN _⟩

set_option maxRecDepth 100000 in
set_option maxHeartbeats 1000000 in
theorem writeMark_any (hD : Dec I E src srcV w cs s) (n : Nat) (hn : s.wr + n ≤ 32768) : Calls Tryd.prog 61 #[I.dp, vi n] w fun r w' => r = .returned (.tuple #[]) ∧ (∃ cs', Dec I E src srcV w' cs' { s with wr := s.wr + n }) ∧ Imp I w w' := by
  have cw := hD.c_wr
  have zw := hD.fz 1038
  have y : wrap64 ((s.wr : Int) + n) = ((s.wr + n : Nat) : Int) := by unfold wrap64; omega
  have h2 := hD.set_wr (s.wr + n) hn
  have f2 := Imp.setF I w 1038 (.int .i64 ((s.wr + n : Nat) : Int))
  unfold Ids.dp
  go_enter Tryd.func61, Tryd.ntmps61
  go_wp2_with fail
  go_end0
  exact ⟨rfl, ⟨_, h2⟩, f2⟩

theorem bytesA_set (l : List Nat) (i x : Nat) : (bytesA l).setIfInBounds i (u8 x) = bytesA (l.set i x) := by
  unfold bytesA; rw [List.map_set]; simp
theorem Dec.newD (h : Dec I E src srcV w cs s) (hf : Imp I w w') (hist' : List Nat) (hl : hist'.length = 32768) (hD : w'.heap[I.D]? = some (.cells (bytesA hist') 5 (0, 0)))
    (ho : ∀ k, k = I.F ∨ k = I.R ∨ k = I.B ∨ k = I.C → w'.heap[k]? = w.heap[k]?) : Dec I E src srcV w' cs { s with hist := hist' } := by
  obtain ⟨pr, hR⟩ := h.bR
  exact ⟨by rw [ho _ (.inl rfl)]; exact h.bF, ⟨h.fc.size, h.fc.r, h.fc.pb, h.fc.pc, h.fc.hist, h.fc.ro, h.fc.b, h.fc.nb, h.fc.wr, h.fc.rd, h.fc.full, h.fc.step, h.fc.st, h.fc.final, h.fc.err, h.fc.tr, h.fc.hl, h.fc.hd, h.fc.len, h.fc.dist, h.fc.h1, h.fc.h2, h.fc.buf⟩, ⟨pr, by rw [ho _ (.inr (.inl rfl))]; exact hR⟩, hD, by rw [ho _ (.inr (.inr (.inl rfl)))]; exact h.bB, by rw [ho _ (.inr (.inr (.inr rfl)))]; exact h.bC, h.srcs hf, h.notOwn, h.gl.frm hf h.lows, h.ok, h.links hf h.lk1, h.links hf h.lk2, h.txs hf, hl, h.blen, h.clen, h.kle, h.small, h.bytes, h.b32, h.nb32, h.ro, h.wr, h.rd, h.dlen, h.ddist⟩
theorem Dec.setD (h : Dec I E src srcV w cs s) (i x : Nat) : Dec I E src srcV (w.setCell ⟨I.D, i, none⟩ (u8 x)) cs { s with hist := s.hist.set i x } := by
  have hf : Imp I w (w.setCell ⟨I.D, i, none⟩ (u8 x)) := Frm.setCell (Frm.refl _ _) (.inr (.inr (.inl rfl))) _
  have o := h.ok
  refine h.newD hf _ (by rw [List.length_set]; exact h.hlen) (by rw [heap_setCell_same w I.D i _ 5 _ h.bD, bytesA_set]) fun k hk => heap_setCell_other _ _ _ _ ?_
  rcases hk with rfl | rfl | rfl | rfl
  · exact o.FD
  · exact o.RD
  · exact Ne.symm o.DB
  · exact Ne.symm o.DC

def putB (s : DS) (x : Nat) : DS := { s with hist := s.hist.set s.wr x, wr := s.wr + 1 }
set_option maxRecDepth 100000 in
set_option maxHeartbeats 1000000 in
theorem writeByte_any (hD : Dec I E src srcV w cs s) (x : Nat) (hlt : s.wr < 32768) : Calls Tryd.prog 41 #[I.dp, u8 x] w fun r w' => r = .returned (.tuple #[]) ∧ (∃ cs', Dec I E src srcV w' cs' (putB s x)) ∧ Imp I w w' := by
  have ch := hD.c_hist
  have cw := hD.c_wr
  have zw := hD.fz 1038
  have y : wrap64 ((s.wr : Int) + 1) = ((s.wr + 1 : Nat) : Int) := by unfold wrap64; omega
  have h1 := hD.setD s.wr x
  have h2 := (h1.set_wr (s.wr + 1) hlt).drew
  have f1 : Imp I w (w.setCell ⟨I.D, s.wr, none⟩ (u8 x)) := Frm.setCell (Frm.refl _ _) (.inr (.inr (.inl rfl))) _
  have f2 := (f1.trans (Imp.setF I _ 1038 (.int .i64 ((s.wr + 1 : Nat) : Int)))).drew
  have zD : w.frozen? ⟨I.D, s.wr, none⟩ = false := frozen_of_row w I.D s.wr _ _ hD.bD
  have cD : w.cell? ⟨I.D, s.wr, none⟩ = some (u8 (s.hist.getD s.wr 0)) := by
    simp [World.cell?, hD.bD, bytesA, List.getD_eq_getElem?_getD, hD.hlen, hlt]
  have ne1 := hD.ok.FD
  have y0 : (0 : Int) ≤ s.wr := by omega
  have y1 : (s.wr : Int) < 32768 := by omega
  have y2 : ((s.wr : Int)).toNat = s.wr := by omega
  obtain ⟨N, hN⟩ : ∃ N : Nat, N = 32768 := ⟨_, rfl⟩
  have ch' : w.cell? ⟨I.F, 1037, none⟩ = some (.slice (some ⟨I.D, 0, none⟩) N N) := by rw [hN]; exact ch
  have y3 : (s.wr : Int) < (N : Int) := by rw [hN]; exact y1
  have y4 : s.wr < N := by omega
  have HD := Lib.hid h2
  have HF := Lib.hid f2
  clear ch y1 hlt hN hD h1 h2 f1 f2
  unfold Ids.dp
  unfold putB
  go_enter Tryd.func41, Tryd.ntmps41
  go_wp2_with fail
  refine still_tail 10 (by kernel_rfl) (by kernel_rfl) ?_
  simp only [List.take_succ_cons, List.take_zero, List.drop_succ_cons, List.drop_zero]
  repeat still_step
  refine wpStill_nil ?_
  go_wp2_with fail
  go_end0
  exact ⟨rfl, ⟨_, HD.out⟩, HF.out⟩

/-- What readFlush gives, and what it leaves. -/
def Ids.out (I : Ids) (s : DS) : Value := .slice (some ⟨I.D, s.rd, none⟩) (s.wr - s.rd) (32768 - s.rd)
def flushS (s : DS) : DS := if s.wr = 32768 then { s with wr := 0, rd := 0, full := true } else { s with rd := s.wr }
set_option maxRecDepth 100000 in
set_option maxHeartbeats 1000000 in
theorem readFlush_any (hD : Dec I E src srcV w cs s) (hlt : s.rd < 32768) (hr : s.rd ≤ s.wr) : Calls Tryd.prog 36 #[I.dp] w fun r w' => r = .returned (I.out s) ∧ (∃ cs', Dec I E src srcV w' cs' (flushS s)) ∧ Imp I w w' := by
  have ch := hD.c_hist
  have cw := hD.c_wr
  have cr := hD.c_rd
  have z1 := hD.fz 1038
  have z2 := hD.fz 1039
  have z3 := hD.fz 1040
  have hw := hD.wr
  have h1 := hD.set_rd s.wr hw
  have f1 := Imp.setF I w 1039 (.int .i64 s.wr)
  have c40 := hD.c_full
  have y1 : (0 : Int) ≤ s.rd := by omega
  have y2 : (s.rd : Int) ≤ s.wr := by omega
  have y3 : (s.wr : Int) ≤ 32768 := by omega
  obtain ⟨N, hN⟩ : ∃ N : Nat, N = 32768 := ⟨_, rfl⟩
  have ch' : w.cell? ⟨I.F, 1037, none⟩ = some (.slice (some ⟨I.D, 0, none⟩) N N) := by rw [hN]; exact ch
  have y4 : (s.wr : Int) ≤ (N : Int) := by rw [hN]; exact y3
  have y5 : ¬ N = s.rd := by omega
  have y6 : ¬ N - s.rd = 0 := by omega
  have hout : I.out s = .slice (some ⟨I.D, s.rd, none⟩) (s.wr - s.rd) (N - s.rd) := by rw [hN]; rfl
  rw [hout]
  by_cases hf : s.wr = 32768
  · have hE : flushS s = { s with wr := 0, rd := 0, full := true } := if_pos hf
    rw [hE]; clear hE
    have y7 : ((s.wr : Int) == (N : Int)) = true := beq_iff_eq.2 (by omega)
    have h2 := h1.set_wr 0 (Nat.zero_le _)
    have h3 := h2.set_rd 0 (Nat.zero_le _)
    have h4 := h3.set_full true
    have f4 := ((f1.trans (Imp.setF I _ 1038 (.int .i64 0))).trans (Imp.setF I _ 1039 (.int .i64 0))).trans (Imp.setF I _ 1040 (.bool true))
    have HD := Lib.hid h4
    have HF := Lib.hid f4
    clear ch y3 hlt hN hf hout hD h1 h2 h3 h4 f1 f4
    unfold Ids.dp
    go_enter Tryd.func36, Tryd.ntmps36
    go_wp2_with fail
    go_quiet (fail)
    go_wp2_with fail
    go_quiet (fail)
    go_wp2_with fail
    go_ret
    exact ⟨rfl, ⟨_, (HD.out.drewN _).drewN _⟩, (HF.out.drewN _).drewN _⟩
  · have hE : flushS s = { s with rd := s.wr } := if_neg hf
    rw [hE]; clear hE
    have y7 : ((s.wr : Int) == (N : Int)) = false := beq_eq_false_iff_ne.2 (by omega)
    have HD := Lib.hid h1
    have HF := Lib.hid f1
    clear ch y3 hlt hN hf hout hD h1 f1
    unfold Ids.dp
    go_enter Tryd.func36, Tryd.ntmps36
    go_wp2_with fail
    go_quiet (fail)
    go_wp2_with fail
    go_quiet (fail)
    go_wp2_with fail
    go_ret
    exact ⟨rfl, ⟨_, (HD.out.drewN _).drewN _⟩, (HF.out.drewN _).drewN _⟩
end
end Go.Proofs.YtbbnibbdiiffkaaDoor

/- The window's copying, plain. -/
namespace Go.Proofs.YtbbnibbdiiffkaaDoor
open Go.RowKit

/-- A list laid over another from a place on. -/
def spl (h : List Nat) (off : Nat) (c : List Nat) : List Nat := h.take off ++ (c ++ h.drop (off + c.length))
/-- The byte that stands t places behind the start of what is copied. -/
def prevB (h : List Nat) (base dist t : Nat) : Nat := h.getD ((base + 32768 - dist + t) % 32768) 0
/-- The window, n bytes copied. -/
def cpyH (h : List Nat) (base dist n : Nat) : List Nat := (List.range 32768).map fun j => if base ≤ j ∧ j < base + n then prevB h base dist ((j - base) % dist) else h.getD j 0

theorem cpyH_len (h : List Nat) (base dist n : Nat) : (cpyH h base dist n).length = 32768 := by unfold cpyH; rw [List.length_map, List.length_range]
theorem cpyH_getD (h : List Nat) (base dist n j : Nat) (hj : j < 32768) : (cpyH h base dist n).getD j 0 = if base ≤ j ∧ j < base + n then prevB h base dist ((j - base) % dist) else h.getD j 0 := by
  unfold cpyH
  rw [List.getD_eq_getElem?_getD, List.getElem?_map, List.getElem?_range hj]; rfl
theorem list_ext_getD {a b : List Nat} (hl : a.length = b.length) (h : ∀ j, j < a.length → a.getD j 0 = b.getD j 0) : a = b := by
  apply List.ext_getElem hl
  intro j h1 h2
  have := h j h1
  rwa [List.getD_eq_getElem?_getD, List.getD_eq_getElem?_getD, List.getElem?_eq_getElem h1, List.getElem?_eq_getElem h2] at this
theorem cpyH_zero {h : List Nat} (hl : h.length = 32768) (base dist : Nat) : cpyH h base dist 0 = h := by
  apply list_ext_getD (by rw [cpyH_len, hl])
  intro j hj
  rw [cpyH_len] at hj
  rw [cpyH_getD _ _ _ _ _ hj, if_neg (by omega)]
theorem spl_len {h c : List Nat} {off : Nat} (hf : off + c.length ≤ h.length) : (spl h off c).length = h.length := by simp [spl]; omega
theorem spl_getD {h c : List Nat} {off : Nat} (hf : off + c.length ≤ h.length) (j : Nat) : (spl h off c).getD j 0 = if off ≤ j ∧ j < off + c.length then c.getD (j - off) 0 else h.getD j 0 := by
  unfold spl
  simp only [List.getD_eq_getElem?_getD]
  by_cases h1 : j < off
  · rw [List.getElem?_append_left (by simp; omega), List.getElem?_take, if_pos h1, if_neg (by omega)]
  · have e1 : (List.take off h).length = off := by simp; omega
    rw [List.getElem?_append_right (by omega), e1]
    by_cases h2 : j < off + c.length
    · rw [List.getElem?_append_left (by omega), if_pos ⟨by omega, h2⟩]
    · rw [List.getElem?_append_right (by omega), List.getElem?_drop, if_neg (by omega)]
      congr 2; omega
theorem cut_getD {h : List Nat} {src q i : Nat} (hi : i < q) : ((h.drop src).take q).getD i 0 = h.getD (src + i) 0 := by
  simp only [List.getD_eq_getElem?_getD]
  rw [List.getElem?_take, if_pos hi, List.getElem?_drop]
theorem cut_len {h : List Nat} {src q : Nat} (hf : src + q ≤ h.length) : ((h.drop src).take q).length = q := by simp; omega

theorem cpy_step {h : List Nat} {base dist m src q : Nat} (hfit : base + m + q ≤ 32768) (hsrc : src + q ≤ 32768)
    (hv : ∀ i, i < q → (cpyH h base dist m).getD (src + i) 0 = prevB h base dist ((m + i) % dist)) :
    spl (cpyH h base dist m) (base + m) (((cpyH h base dist m).drop src).take q) = cpyH h base dist (m + q) := by
  have hl := cpyH_len h base dist m
  have hc : (((cpyH h base dist m).drop src).take q).length = q := cut_len (by rw [hl]; exact hsrc)
  have hf : base + m + (((cpyH h base dist m).drop src).take q).length ≤ (cpyH h base dist m).length := by rw [hc, hl]; exact hfit
  apply list_ext_getD (by rw [spl_len hf, hl, cpyH_len])
  intro j hj
  rw [spl_len hf, hl] at hj
  rw [spl_getD hf, hc, cpyH_getD _ _ _ (m + q) _ hj]
  by_cases h1 : base + m ≤ j ∧ j < base + m + q
  · have h3 : base ≤ j ∧ j < base + (m + q) := by omega
    rw [if_pos h1, if_pos h3, cut_getD (by omega), hv _ (by omega), show m + (j - (base + m)) = j - base by omega]
  · have e1 := cpyH_getD h base dist m j hj
    by_cases h2 : base ≤ j ∧ j < base + m
    · have h3 : base ≤ j ∧ j < base + (m + q) := ⟨h2.1, by omega⟩
      rw [if_neg h1, if_pos h3, e1, if_pos h2]
    · have h3 : ¬ (base ≤ j ∧ j < base + (m + q)) := by omega
      rw [if_neg h1, if_neg h3, e1, if_neg h2]

/-- The source lies ahead of the copy, in one piece. -/
theorem cpy_flat {h : List Nat} {base dist m q : Nat} (hd : 0 < dist) (hb : dist ≤ base) (hm : dist ∣ m) (hfit : base + m + q ≤ 32768) (hq : q ≤ m + dist) :
    spl (cpyH h base dist m) (base + m) (((cpyH h base dist m).drop (base - dist)).take q) = cpyH h base dist (m + q) := by
  obtain ⟨t, rfl⟩ := hm
  refine cpy_step hfit (by omega) fun i hi => ?_
  rw [cpyH_getD _ _ _ _ _ (by omega), Nat.mul_add_mod]
  by_cases h1 : i < dist
  · rw [if_neg (by omega), Nat.mod_eq_of_lt h1]
    unfold prevB
    rw [show (base + 32768 - dist + i) = (base - dist + i) + 32768 by omega, Nat.add_mod_right, Nat.mod_eq_of_lt (by omega)]
  · rw [if_pos (by omega), show base - dist + i - base = i - dist by omega]
    congr 1
    rw [show i = (i - dist) + dist by omega, Nat.add_sub_cancel, Nat.add_mod_right]
/-- The first piece, where the source lies at the window's end. -/
theorem cpy_first {h : List Nat} (hl : h.length = 32768) {base dist q : Nat} (hb : base < dist) (hd : dist ≤ 32768) (hq : q ≤ dist - base) (hfit : base + q ≤ 32768) :
    spl h base ((h.drop (base + 32768 - dist)).take q) = cpyH h base dist q := by
  have := @cpy_step h base dist 0 (base + 32768 - dist) q (by omega) (by omega) fun i hi => by
    rw [cpyH_zero hl, Nat.zero_add, Nat.mod_eq_of_lt (by omega)]
    unfold prevB
    rw [Nat.mod_eq_of_lt (by omega)]
  rwa [cpyH_zero hl, Nat.zero_add, Nat.add_zero] at this
theorem succ_of {x d t : Nat} (h0 : 0 < x) (h : x = d * t) : ∃ t', t = t' + 1 := by
  rcases t with _ | t
  · rw [Nat.mul_zero] at h; omega
  · exact ⟨t, rfl⟩
/-- The pieces behind it. -/
theorem cpy_wrap {h : List Nat} {base dist m q : Nat} (hb : base < dist) (hd : dist ≤ 32768) (hm : dist ∣ base + m) (hm0 : 0 < base + m) (hfit : base + m + q ≤ 32768) (hq : q ≤ base + m) :
    spl (cpyH h base dist m) (base + m) (((cpyH h base dist m).drop 0).take q) = cpyH h base dist (m + q) := by
  obtain ⟨t, ht⟩ := hm
  have ht0 : dist ≤ base + m := by
    rcases Nat.eq_zero_or_pos t with rfl | h
    · rw [Nat.mul_zero] at ht; omega
    · rw [ht]; exact Nat.le_mul_of_pos_right _ h
  refine cpy_step hfit (by omega) fun i hi => ?_
  rw [Nat.zero_add, cpyH_getD _ _ _ _ _ (by omega)]
  by_cases h1 : i < base
  · rw [if_neg (by omega)]
    unfold prevB
    have e : (m + i) % dist = dist - base + i := by
      obtain ⟨t', rfl⟩ : ∃ t', t = t' + 1 := succ_of hm0 ht
      rw [Nat.mul_succ] at ht
      rw [show m + i = dist * t' + (dist - base + i) by omega, Nat.mul_add_mod, Nat.mod_eq_of_lt (by omega)]
    rw [e, show base + 32768 - dist + (dist - base + i) = i + 32768 by omega, Nat.add_mod_right, Nat.mod_eq_of_lt (by omega)]
  · rw [if_pos (by omega)]
    congr 1
    obtain ⟨t', rfl⟩ : ∃ t', t = t' + 1 := succ_of hm0 ht
    rw [show m + i = dist * (t' + 1) + (i - base) by omega, Nat.mul_add_mod]
end Go.Proofs.YtbbnibbdiiffkaaDoor

/- The window's copying, walked. -/
namespace Go.Proofs.YtbbnibbdiiffkaaDoor
open Go.RowKit

section
variable {I : Ids} {E : Errs} {src : List Nat} {srcV : Value} {w w' : World} {cs cs' : Array Value} {s : DS}
theorem info5s : (Tryd.prog.info? 5).map (·.size) = some 1 := by kernel_rfl
/-- The row, as the model lays it, when bytes are copied into it. -/
def laidOver (h : List Nat) (off : Nat) (c : List Nat) : Array Value := ((bytesA h).toList.take off ++ (c.map u8 ++ (bytesA h).toList.drop (off + (c.map u8).length))).toArray
theorem laidOver_eq (h : List Nat) (off : Nat) (c : List Nat) : laidOver h off c = bytesA (spl h off c) := by
  unfold laidOver bytesA spl
  simp [List.map_take, List.map_drop]
theorem Imp.rowD (I : Ids) (w : World) (c : Array Value) : Imp I w (w.setRow I.D c) := Frm.setRow (Frm.refl _ _) (.inr (.inr (.inl rfl))) c
theorem Dec.copyD (h : Dec I E src srcV w cs s) (off : Nat) (c : List Nat) (hf : off + c.length ≤ 32768) : Dec I E src srcV (w.setRow I.D (laidOver s.hist off c)) cs { s with hist := spl s.hist off c } := by
  have o := h.ok
  refine h.newD (Imp.rowD I w _) _ (by rw [spl_len (by rw [h.hlen]; exact hf)]; exact h.hlen) (by rw [setRow_heap w I.D _ _ 5 _ h.bD, laidOver_eq]) fun k hk => setRow_other w I.D k _ ?_
  rcases hk with rfl | rfl | rfl | rfl
  · exact o.FD
  · exact o.RD
  · exact Ne.symm o.DB
  · exact Ne.symm o.DC

theorem Dec.cellD (h : Dec I E src srcV w cs s) {j : Nat} (hj : j < 32768) : w.cell? ⟨I.D, j, none⟩ = some (u8 (s.hist.getD j 0)) := by
  have hl := h.hlen
  simp [World.cell?, h.bD, bytesA, List.getD_eq_getElem?_getD, List.getElem?_eq_getElem (show j < s.hist.length by omega)]
theorem Dec.srcD (h : Dec I E src srcV w cs s) {a q : Nat} (hf : a + q ≤ 32768) : ∀ j v, (((s.hist.drop a).take q).map u8)[j]? = some v → w.cell? ((⟨I.D, a, none⟩ : Addr).add j) = some v := by
  intro j v hv
  rw [List.getElem?_map] at hv
  have hlen : ((s.hist.drop a).take q).length = q := cut_len (by rw [h.hlen]; exact hf)
  rcases Nat.lt_or_ge j q with hj | hj
  · rw [List.getElem?_eq_getElem (by omega)] at hv
    cases hv
    have := h.cellD (show a + j < 32768 by omega)
    rw [show (⟨I.D, a, none⟩ : Addr).add j = ⟨I.D, a + j, none⟩ by simp [Addr.add], this, ← cut_getD hj, List.getD_eq_getElem?_getD, List.getElem?_eq_getElem (by omega)]
    rfl
  · rw [List.getElem?_eq_none (by omega)] at hv; cases hv
theorem u8s_one (l : List Nat) : ∀ v ∈ l.map u8, v.oneCell' = true := by
  intro v hv; obtain ⟨x, -, rfl⟩ := List.mem_map.1 hv; rfl

theorem step_copy_row {P : Program} {ops : Array Oper} {o : Oper} {a : Act} {w : World} {K : Act → World → Prop} {Q : Exit → Act → World → Prop} {E : Prop} (hgd : o.guard = none) (d s : Operand) (dT sT : TypeId)
    (ho : o.op = .call { callee := .builtin .copy, args := #[d, s], argTypes := #[dT, sT] }) (elem : TypeId) (hu : P.underlying dT = some (.slice elem)) (hsz : (P.info? elem).map (·.size) = some 1)
    (g off dLen dCap : Nat) (ad : Addr) (sLen sCap : Nat) (hd : a.eval d = .slice (some ⟨g, off, none⟩) dLen dCap) (hs : a.eval s = .slice (some ad) sLen sCap)
    (cur : Array Value) (t : TypeId) (hg : w.heap[g]? = some (.cells cur t (0, 0))) (cs : List Value) (hn : cs.length = Nat.min sLen dLen)
    (hsrc : ∀ j v, cs[j]? = some v → w.cell? (ad.add j) = some v) (hfit : off + cs.length ≤ cur.size) (h1 : ∀ v ∈ cs, v.oneCell' = true)
    (v : Value) (hv : goInt cs.length = v) (row : Array Value) (hrow : (cur.toList.take off ++ (cs ++ cur.toList.drop (off + cs.length))).toArray = row) (h : K (a.put o.dst v) (w.setRow g row)) :
    if Region.wanted o (yielded ops a.tmps) = true then Oper.wp P o a w K Q else E := by
  have hw : Region.wanted o (yielded ops a.tmps) = true := by simp [Region.wanted, hgd]
  rw [if_pos hw]
  subst hv hrow
  have hrun := run_copy_row (P := P) w dT sT o.type elem g off dLen dCap ad sLen sCap cur t cs hu hsz hg hn hsrc hfit h1
  unfold Oper.wp
  simp [execOp, ho, resolve, invoke, builtin, hd, hs, hrun, Result.andThen]
  exact h

def tryN (s : DS) (dist len : Nat) : Nat := if s.wr < dist ∨ 32768 < s.wr + len then 0 else len
def copied (s : DS) (dist n : Nat) : DS := { s with hist := cpyH s.hist s.wr dist n, wr := s.wr + n }

set_option maxRecDepth 100000 in
set_option maxHeartbeats 2000000 in
theorem tryCopy_any (hD : Dec I E src srcV w cs s) (dist len : Nat) (hd1 : 1 ≤ dist) (hd2 : dist ≤ 32768) (hl : len ≤ 65535) :
    Calls Tryd.prog 45 #[I.dp, vi dist, vi len] w fun r w' => r = .returned (vi (tryN s dist len)) ∧ (∃ cs', Dec I E src srcV w' cs' (copied s dist (tryN s dist len))) ∧ Imp I w w' := by
  have ch := hD.c_hist
  have cw := hD.c_wr
  have hw := hD.wr
  have hhl := hD.hlen
  have hc0 : copied s dist 0 = s := by unfold copied; rw [cpyH_zero hhl]; rfl
  unfold Ids.dp
  by_cases h1 : s.wr < dist
  · have hE : tryN s dist len = 0 := if_pos (.inl h1)
    rw [hE, hc0]; clear hE
    go_enter Tryd.func45, Tryd.ntmps45
    go_wp2_with fail
    go_ret
    exact ⟨rfl, ⟨_, hD⟩, Imp.refl _ _⟩
  by_cases h2 : 32768 < s.wr + len
  · have hE : tryN s dist len = 0 := if_pos (.inr h2)
    rw [hE, hc0]; clear hE
    have y1 : wrap64 ((s.wr : Int) + len) = (s.wr : Int) + len := by unfold wrap64; omega
    have y2 : (32768 : Int) < (s.wr : Int) + len := by omega
    go_enter Tryd.func45, Tryd.ntmps45
    go_wp2_with fail
    go_ret
    exact ⟨rfl, ⟨_, hD⟩, Imp.refl _ _⟩
  · have hE : tryN s dist len = len := if_neg (by omega)
    rw [hE]; clear hE
    obtain ⟨e, he⟩ : ∃ e, e = s.wr + len := ⟨_, rfl⟩
    obtain ⟨a, ha⟩ : ∃ a, a = s.wr - dist := ⟨_, rfl⟩
    obtain ⟨N, hN⟩ : ∃ N : Nat, N = 32768 := ⟨_, rfl⟩
    obtain ⟨B, hB⟩ : ∃ B, B = s.wr := ⟨_, rfl⟩
    have ch' : w.cell? ⟨I.F, 1037, none⟩ = some (.slice (some ⟨I.D, 0, none⟩) N N) := by rw [hN]; exact ch
    have cw' : w.cell? ⟨I.F, 1038, none⟩ = some (.int .i64 (B : Int)) := by rw [hB]; exact cw
    have y1 : wrap64 ((B : Int) + len) = (e : Int) := by rw [hB, he]; unfold wrap64; omega
    have y2 : ¬ ((N : Int) < (e : Int)) := by omega
    have y3 : wrap64 ((B : Int) - dist) = (a : Int) := by rw [hB, ha]; unfold wrap64; omega
    have y4 : ¬ ((B : Int) < (dist : Int)) := by omega
    have yN : (e : Int) ≤ (N : Int) := by omega
    have hfin := hD
    have HDD := Lib.hid hD
    have HE := Lib.hid he
    have HA := Lib.hid ha
    have HN := Lib.hid hN
    have HB := Lib.hid hB
    have HC0 := Lib.hid hc0
    have HL := Lib.hid hhl
    clear ch cw hw hhl hc0 h1 h2 hD hfin he ha hN hB
    go_enter Tryd.func45, Tryd.ntmps45
    go_wp2_with fail
    go_loopw [7] (fun d wr => ∃ (k m : Nat) (cs' : Array Value), d = .int .i64 (k : Int) ∧ Hid (k = B + m) ∧ k ≤ e ∧ Hid (dist ∣ m ∨ k = e) ∧ Dec I E src srcV wr cs' { s with hist := cpyH s.hist s.wr dist m } ∧ Imp I w wr) (fun d _ => e - (intOf d).toNat)
    case atStart => exact ⟨B, 0, cs, rfl, Lib.hid rfl, by rw [HE.out, HB.out]; omega, Lib.hid (.inl (Nat.dvd_zero _)), by rw [cpyH_zero HL.out]; exact HDD.out, Imp.refl _ _⟩
    case round =>
      obtain ⟨k, m, c1, rfl, HK, hke, HV, hD1, f1⟩ := hrel
      have ch1 : wr.cell? ⟨I.F, 1037, none⟩ = some (.slice (some ⟨I.D, 0, none⟩) N N) := by rw [HN.out]; exact hD1.c_hist
      by_cases hlt : k < e
      · have y5 : (k : Int) < (e : Int) := by omega
        have y6 : (0 : Int) ≤ (k : Int) := by omega
        have y7 : (0 : Int) ≤ (a : Int) := by omega
        have y8 : (a : Int) ≤ (k : Int) := by have := HA.out; have := HB.out; have := HK.out; omega
        have y9 : (k : Int) ≤ (N : Int) := by omega
        have y10 : ¬ N = k := by omega
        have y11 : ¬ N = a := by omega
        have y12 : ¬ N - k = 0 := by omega
        have y13 : ¬ N - a = 0 := by omega
        have y14 : (k : Int) ≤ (e : Int) := by omega
        obtain ⟨q, hq⟩ : ∃ q, q = Nat.min (k - a) (e - k) := ⟨_, rfl⟩
        have HQ := Lib.hid hq
        have y15 : IntKind.i64.wrap ((k : Int) + (q : Int)) = ((k + q : Nat) : Int) := by
          have : q ≤ e - k := by rw [hq]; exact Nat.min_le_right _ _
          have := HN.out
          rw [IntKind.wrap_i64]; omega
        clear hq
        go_wp2_with fail
        have hqa : q ≤ k - a := by rw [HQ.out]; exact Nat.min_le_left _ _
        have hqe : q ≤ e - k := by rw [HQ.out]; exact Nat.min_le_right _ _
        have hq0 : 0 < q := by
          have h1 := HA.out; have h2 := HB.out; have h3 := HK.out
          have : q = k - a ∨ q = e - k := by
            have := HQ.out; rcases Nat.le_total (k - a) (e - k) with h | h
            · left; rw [this]; exact Nat.min_eq_left h
            · right; rw [this]; exact Nat.min_eq_right h
          omega
        have hN' := HN.out
        have hD2 := hD1.drew
        have hstep : spl (cpyH s.hist s.wr dist m) k (((cpyH s.hist s.wr dist m).drop a).take q) = cpyH s.hist s.wr dist (m + q) := by
          have h1 := HA.out; have h2 := HB.out; have h3 := HK.out
          have hdv : dist ∣ m := by rcases HV.out with h | h; exact h; omega
          have := @cpy_flat s.hist s.wr dist m q (by omega) (by omega) hdv (by omega) (by omega)
          rw [h3, h2, h1]; exact this
        have hlen := cpyH_len s.hist s.wr dist m
        generalize cpyH s.hist s.wr dist m = H at *
        have hcl : ((H.drop a).take q).length = q := cut_len (by omega)
        have hD3 := hD2.copyD k ((H.drop a).take q) (by rw [hcl]; omega)
        have f3 := f1.drew.trans (Imp.rowD I wr.drew (laidOver H k ((H.drop a).take q)))
        have G1 := hD2.bD
        have G3 := hD2.srcD (a := a) (q := q) (by omega)
        simp only [] at G1 G3 hD3
        rw [hstep] at hD3
        generalize hcc : (H.drop a).take q = c at *
        have G2 : (c.map u8).length = Nat.min (k - a) (e - k) := by rw [List.length_map, hcl, HQ.out]
        have G4 : k + (c.map u8).length ≤ (bytesA H).size := by unfold bytesA; rw [List.length_map, hcl]; simp; omega
        have G5 := u8s_one c
        have G7 : (goInt (c.map u8).length) = .int .i64 (q : Int) := by rw [List.length_map, hcl]; rfl
        have H1 := Lib.hid G1
        have H2 := Lib.hid G2
        have H3 := Lib.hid G3
        have H4 := Lib.hid G4
        have H5 := Lib.hid G5
        have H7 := Lib.hid G7
        have HD3 := Lib.hid hD3
        have HF3 := Lib.hid f3
        clear hN' hstep hD1 hD2 hD3 f1 f3 G1 G2 G3 G4 G5 G7 hcl hlen hcc
        have HKE : Hid (k + q ≤ e) := Lib.hid (by omega)
        have HK2 : Hid (k + q = B + (m + q)) := Lib.hid (by rw [HK.out]; omega)
        have HV2 : Hid (dist ∣ m + q ∨ k + q = e) := Lib.hid (by
          have h1 := HA.out; have h2 := HB.out; have h3 := HK.out; have h4 := HQ.out
          rcases Nat.le_total (k - a) (e - k) with h | h
          · left
            have h4 : q = k - a := by rw [h4]; exact Nat.min_eq_left h
            have hdv : dist ∣ m := by rcases HV.out with h | h; exact h; omega
            have : m + q = m + (m + dist) := by omega
            rw [this]
            exact Nat.dvd_add hdv (Nat.dvd_add hdv (Nat.dvd_refl _))
          · right
            have : q = e - k := by rw [h4]; exact Nat.min_eq_right h
            omega)
        go_region_law (refine step_copy_row rfl (.tmp 44) (.tmp 51) 22 22 rfl 5 Tryd.underlying22 info5s I.D k (e - k) (N - k) ⟨I.D, a, none⟩ (k - a) (N - a) (by simp [Act.eval, Act.put]) (by simp [Act.eval, Act.put]) _ 5 H1.out _ H2.out H3.out H4.out H5.out (.int .i64 (q : Int)) H7.out (laidOver H k c) rfl ?_)
        all_goals simp only [List.getElem_toArray, List.getElem_cons_succ, List.getElem_cons_zero, Act.put, List.setIfInBounds_toArray, List.set_cons_succ, List.set_cons_zero]
        all_goals go_wp2_with fail
        all_goals go_roundw
        all_goals first | (show e - (k + q) < e - k; omega) | exact ⟨k + q, m + q, c1, rfl, HK2, HKE.out, HV2, HD3.out, HF3.out⟩
      · obtain rfl : k = e := by omega
        have hm : m = len := by have h1 := HE.out; have h2 := HB.out; have h3 := HK.out; omega
        subst hm
        have y5 : ¬ (k : Int) < (k : Int) := by omega
        have y6 : wrap64 ((k : Int) - (B : Int)) = (m : Int) := by have h3 := HK.out; have := HN.out; unfold wrap64; omega
        have zw := hD1.fz 1038
        have c38 := hD1.c_wr
        have hD2 := hD1.set_wr k (by have := HN.out; omega)
        have f2 := f1.trans (Imp.setF I wr 1038 (.int .i64 (k : Int)))
        have hfc : copied s dist m = { s with hist := cpyH s.hist s.wr dist m, wr := k } := by unfold copied; rw [HE.out]
        have hD3 := hD2
        change Dec I E src srcV _ _ { s with hist := cpyH s.hist s.wr dist m, wr := k } at hD3
        rw [← hfc] at hD3
        have HD2 := Lib.hid hD3
        have HF2 := Lib.hid f2
        clear hD1 hD2 hD3 f1 f2 hfc
        go_wp2_with fail
        go_ret
        exact ⟨rfl, ⟨_, HD2.out⟩, HF2.out⟩
end
end Go.Proofs.YtbbnibbdiiffkaaDoor
