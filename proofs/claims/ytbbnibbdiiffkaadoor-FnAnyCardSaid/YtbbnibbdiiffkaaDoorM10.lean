/- ReadAtLeast and ReadFull over a reader of bytes. The end of a block. ReadFull into the window, and into the decoder's own four bytes. A block that is not compressed: copyData, dataBlock. A block that is not compressed: dataBlock. Bits turned about. -/
import Derived.Deep.DeepMust
import Derived.Lib.Zigzag
import Derived.Test.YtbbnibbdiiffkaaDoorM08
import Derived.Test.YtbbnibbdiiffkaaDoorM09

/- ReadAtLeast and ReadFull over a reader of bytes. -/
namespace Go.Proofs.YtbbnibbdiiffkaaDoor
open Go.RowKit

section
variable {E : Errs} {src : List Nat} {srcV : Value} {w w' : World}
theorem nilAhead_read (R : Nat) (w : World) : (nilAhead 238 29 (.pointer (some ⟨R, 0, none⟩)) "Read").run Tryd.prog w = .ok (some false) w := by kernel_rfl
/-- What ReadFull reports. -/
def rfE (E : Errs) (q n : Nat) : Value := if q = n then .nilIface else if q = 0 then E.eofV else E.uneV
theorem rowOver_nil (row : Array Value) (off : Nat) : rowOver row off [] = row := by simp [rowOver]
theorem Rdr.drew {R g k : Nat} (h : Rdr E R g src srcV w k) : Rdr E R g src srcV w.drew k := h.keep (Frm.refl _ w).drew k h.kle h.bR
/-- Behind a reading. -/
structure Got (E : Errs) (R g : Nat) (src : List Nat) (srcV : Value) (w w' : World) (k q off : Nat) (row : Array Value) (t : TypeId) : Prop where
  rdr : Rdr E R g src srcV w' (k + q)
  two : Two R g w w'
  row : w'.heap[g]? = some (.cells (rowOver row off ((src.drop k).take q)) t (0, 0))

set_option maxRecDepth 100000 in
set_option maxHeartbeats 2000000 in
theorem readAtLeast_any {R g k : Nat} (h : Rdr E R g src srcV w k) (g1 : w.cell? ⟨1, 0, none⟩ = some E.uneV) (hR1 : R ≠ 1) (hG1 : g ≠ 1) (off n cap : Nat) (hcap : n ≤ cap) (hn : n ≤ 100000) (row : Array Value) (t : TypeId) (hg : w.heap[g]? = some (.cells row t (0, 0))) (hfit : off + n ≤ row.size) (q : Nat) (hq : q = Nat.min (src.length - k) n) :
    Calls Tryd.prog 58 #[.iface 29 (.pointer (some ⟨R, 0, none⟩)), .slice (some ⟨g, off, none⟩) n cap, vi n] w fun r w' => r = .returned (.tuple #[vi q, rfE E q n]) ∧ Got E R g src srcV w w' k q off row t := by
  have hqn : q ≤ n := by rw [hq]; exact Nat.min_le_right _ _
  have hqk : q ≤ src.length - k := by rw [hq]; exact Nat.min_le_left _ _
  have hqor : q = n ∨ q = src.length - k := by rw [hq]; simp only [Nat.min_def]; split <;> simp
  have HQ := Lib.hid hq
  have hks := h.kle
  have hsm := h.small
  have HR := Lib.hid h
  have HG := Lib.hid hg
  have HZ : Hid (q = 0 → Got E R g src srcV w w k q off row t) := Lib.hid (fun e => by subst e; exact ⟨h, Frm.refl _ _, by rw [List.take_zero, rowOver_nil]; exact hg⟩)
  have HG1 : Hid (∀ wr, Two R g w wr → wr.cell? ⟨1, 0, none⟩ = some E.uneV) := Lib.hid (fun wr hw => by
    have hlt : (1 : Nat) < w.heap.size := by
      rcases Nat.lt_or_ge 1 w.heap.size with q | q
      · exact q
      · simp [World.cell?, Array.getElem?_eq_none q] at g1
    rw [World.cell?_of_block (hw.block 1 hlt (by rintro (q | q); exact hR1 q.symm; exact hG1 q.symm))]; exact g1)
  have heof : E.eofV = .iface 119 (.pointer (some E.eof)) := rfl
  have HEOF := Lib.hid heof
  clear hq h hg g1 heof
  have hna := nilAhead_read R
  go_enter Tryd.func58, Tryd.ntmps58
  go_wp2_with fail
  go_loopw [6, 7] (fun nv ev wr => ∃ m : Nat, nv = .int .i64 (m : Int) ∧ ((m = 0 ∧ ev = .nilIface ∧ wr = w) ∨ (m = q ∧ 0 < q ∧ ev = .nilIface ∧ Got E R g src srcV w wr k q off row t) ∨ (m = q ∧ q < n ∧ ev = .iface 119 (.pointer (some E.eof)) ∧ Got E R g src srcV w wr k q off row t)))
    (fun nv ev _ => match ev with | .nilIface => n + 1 - (intOf nv).toNat | _ => 0)
  case atStart => exact ⟨0, rfl, .inl ⟨rfl, rfl, rfl⟩⟩
  case round =>
    obtain ⟨m, rfl, hph⟩ := hrel
    have HFIN : Hid (∀ wr, Got E R g src srcV w wr k q off row t → Got E R g src srcV w wr k q off row t) := Lib.hid (fun _ h => h)
    rcases hph with ⟨rfl, rfl, rfl⟩ | ⟨rfl, h0, rfl, hgot⟩ | ⟨rfl, hlt, rfl, hgot⟩
    · by_cases hn0 : n = 0
      · have x1 : ¬ ((0 : Nat) : Int) < (n : Int) := by omega
        have x2 : ((0 : Nat) : Int) ≥ (n : Int) := by omega
        have hq0 : q = 0 := by omega
        have HV : Hid (rfE E q n = .nilIface) := Lib.hid (if_pos (by omega))
        have HG2 := Lib.hid (HZ.out hq0)
        have HQ0 := Lib.hid hq0
        have HN0 := Lib.hid hn0
        clear hq0 hn0 hqor
        go_wp2_with fail
        go_ret2
        have hn0 := HN0.out
        subst hn0
        exact ⟨by rw [HV.out, HQ0.out]; rfl, HG2.out⟩
      · have x1 : ((0 : Nat) : Int) < (n : Int) := by omega
        have x2 : (0 : Int) ≤ (n : Int) := by omega
        have x3 : (n : Int) ≤ (cap : Int) := by omega
        by_cases hk : k < src.length
        · have hread : Calls Tryd.prog 81 #[.pointer (some ⟨R, 0, none⟩), .slice (some ⟨g, off, none⟩) n cap] wr.drew fun r w' => r = .returned (.tuple #[vi q, .nilIface]) ∧ Got E R g src srcV wr w' k q off row t :=
            (read_any HR.out.drew hk off n cap row t HG.out hfit q HQ.out).mono (fun r w' ⟨a, b, c, d⟩ => ⟨a, ⟨b, (Frm.refl _ wr).drew.trans c, d⟩⟩)
          have h0 : 0 < q := by omega
          have x4 : ¬ cap = 0 := by omega
          have x5 : ¬ n = 0 := by omega
          have x6 : wrap64 ((0 : Int) + (q : Int)) = (q : Int) := by unfold wrap64; omega
          have HM : Hid (n + 1 - q < n + 1 - 0) := Lib.hid (by omega)
          have H0 := Lib.hid h0
          clear hn0 hqor h0
          go_wp2_with fail
          go_region_with (go_at_call 81; go_must (refine Calls.mono hread ?_; rintro r w2 ⟨rfl, hgot⟩))
          all_goals clear hread
          all_goals go_wp2_with fail
          all_goals go_roundw
          all_goals (first | exact ⟨q, rfl, .inr (.inl ⟨rfl, H0.out, rfl, hgot⟩)⟩ | exact HM.out)
        · have hread : Calls Tryd.prog 81 #[.pointer (some ⟨R, 0, none⟩), .slice (some ⟨g, off, none⟩) n cap] wr.drew fun r w' => r = .returned (.tuple #[vi 0, .iface 119 (.pointer (some E.eof))]) ∧ (Rdr E R g src srcV w' k ∧ Two R g wr w' ∧ w'.heap = wr.heap) :=
            (readEof_any HR.out.drew hk (.slice (some ⟨g, off, none⟩) n cap)).mono (fun r w' ⟨a, b, c, d⟩ => ⟨a, b, (Frm.refl _ wr).drew.trans c, d⟩)
          have hq0 : q = 0 := by omega
          have HGF : Hid (∀ w', Rdr E R g src srcV w' k → Two R g wr w' → w'.heap = wr.heap → Got E R g src srcV wr w' k q off row t) := Lib.hid (fun w' a b c => by
            rw [hq0]; exact ⟨a, b, by rw [c, List.take_zero, rowOver_nil]; exact HG.out⟩)
          have HLT : Hid (q < n) := Lib.hid (by omega)
          have HQ0 := Lib.hid hq0
          have x4 : ¬ cap = 0 := by omega
          have x5 : ¬ n = 0 := by omega
          have HM : Hid (0 < n + 1 - 0) := Lib.hid (by omega)
          clear hn0 hqor hq0
          go_wp2_with fail
          go_region_with (go_at_call 81; go_must (refine Calls.mono hread ?_; rintro r w2 ⟨rfl, hgot⟩))
          all_goals clear hread
          all_goals go_wp2_with fail
          all_goals go_roundw
          all_goals (first | exact ⟨0, rfl, .inr (.inr ⟨HQ0.out.symm, HLT.out, rfl, HGF.out _ hgot.1 hgot.2.1 hgot.2.2⟩)⟩ | exact HM.out)
    · by_cases hm : m = n
      · have x1 : ¬ (m : Int) < (n : Int) := by omega
        have x2 : (m : Int) ≥ (n : Int) := by omega
        have HV : Hid (rfE E m n = .nilIface) := Lib.hid (if_pos hm)
        have HG2 := Lib.hid hgot
        clear hqor hm hgot
        go_wp2_with fail
        go_ret2
        exact ⟨by rw [HV.out]; rfl, HG2.out⟩
      · have hk : ¬ k + m < src.length := by omega
        have hread : Calls Tryd.prog 81 #[.pointer (some ⟨R, 0, none⟩), .slice (some ⟨g, off + m, none⟩) (n - m) (cap - m)] wr.drew fun r w' => r = .returned (.tuple #[vi 0, .iface 119 (.pointer (some E.eof))]) ∧ (Rdr E R g src srcV w' (k + m) ∧ Two R g wr w' ∧ w'.heap = wr.heap) :=
          (readEof_any hgot.rdr.drew hk _).mono (fun r w' ⟨a, b, c, d⟩ => ⟨a, b, (Frm.refl _ wr).drew.trans c, d⟩)
        have HGF : Hid (∀ w', Rdr E R g src srcV w' (k + m) → Two R g wr w' → w'.heap = wr.heap → Got E R g src srcV w w' k m off row t) := Lib.hid (fun w' a b c =>
          ⟨a, hgot.two.trans b, by rw [c]; exact hgot.row⟩)
        have HLT : Hid (m < n) := Lib.hid (by omega)
        have x1 : (m : Int) < (n : Int) := by omega
        have x2 : (0 : Int) ≤ (m : Int) := by omega
        have x3 : (m : Int) ≤ (n : Int) := by omega
        have x4 : ¬ cap = m := by omega
        have x5 : ¬ cap - m = 0 := by omega
        have x6 : wrap64 ((m : Int) + 0) = (m : Int) := by unfold wrap64; omega
        have x7 : (n : Int) ≤ (cap : Int) := by omega
        have HM : Hid (0 < n + 1 - m) := Lib.hid (by omega)
        clear hqor hgot hm h0
        go_wp2_with fail
        go_region_with (go_at_call 81; go_must (refine Calls.mono hread ?_; rintro r w2 ⟨rfl, hgot⟩))
        all_goals clear hread
        all_goals go_wp2_with fail
        all_goals go_roundw
        all_goals (first | exact ⟨m, rfl, .inr (.inr ⟨rfl, HLT.out, rfl, HGF.out _ hgot.1 hgot.2.1 hgot.2.2⟩)⟩ | exact HM.out)
    · have x1 : (m : Int) < (n : Int) := by omega
      have x2 : ¬ (m : Int) ≥ (n : Int) := by omega
      have HG2 := Lib.hid hgot
      have g0 : wr.cell? ⟨0, 0, none⟩ = some (.iface 119 (.pointer (some E.eof))) := hgot.rdr.g0
      have g1 : wr.cell? ⟨1, 0, none⟩ = some (.iface 119 (.pointer (some E.une))) := HG1.out _ hgot.two
      have he := eql_same (w := wr) E.eof
      by_cases hm0 : m = 0
      · have x3 : ¬ (m : Int) > 0 := by omega
        have HV : Hid (rfE E m n = .iface 119 (.pointer (some E.eof))) := Lib.hid (by unfold rfE; rw [if_neg (by omega), if_pos hm0]; rfl)
        clear hqor hgot hm0
        go_wp2_with fail
        go_ret2
        exact ⟨by rw [HV.out]; rfl, HG2.out⟩
      · have x3 : (m : Int) > 0 := by omega
        have HV : Hid (rfE E m n = .iface 119 (.pointer (some E.une))) := Lib.hid (by unfold rfE; rw [if_neg (by omega), if_neg hm0]; rfl)
        clear hqor hgot hm0
        go_wp2_with fail
        go_ret2
        exact ⟨by rw [HV.out]; rfl, HG2.out⟩

set_option maxRecDepth 100000 in
set_option maxHeartbeats 2000000 in
theorem readFull_any {R g k : Nat} (h : Rdr E R g src srcV w k) (g1 : w.cell? ⟨1, 0, none⟩ = some E.uneV) (hR1 : R ≠ 1) (hG1 : g ≠ 1) (off n cap : Nat) (hcap : n ≤ cap) (hn : n ≤ 100000) (row : Array Value) (t : TypeId) (hg : w.heap[g]? = some (.cells row t (0, 0))) (hfit : off + n ≤ row.size) (q : Nat) (hq : q = Nat.min (src.length - k) n) :
    Calls Tryd.prog 35 #[.iface 29 (.pointer (some ⟨R, 0, none⟩)), .slice (some ⟨g, off, none⟩) n cap] w fun r w' => r = .returned (.tuple #[vi q, rfE E q n]) ∧ Got E R g src srcV w w' k q off row t := by
  have hc := readAtLeast_any h g1 hR1 hG1 off n cap hcap hn row t hg hfit q hq
  clear hq
  go_enter Tryd.func35, Tryd.ntmps35
  go_wp2_with fail
  refine hc.mono ?_; rintro r w2 ⟨rfl, hgot⟩
  go_wp2_with fail
  go_ret2
  exact ⟨rfl, hgot⟩
end
end Go.Proofs.YtbbnibbdiiffkaaDoor

/- The end of a block. -/
namespace Go.Proofs.YtbbnibbdiiffkaaDoor
open Go.RowKit

@[go_sem] theorem run_store_func {P : Program} (w : World) (a : Addr) (m : Mode) (f : Fn) (x y : Array Value) : (store a (.func f x y) m).run P w = stored P w a (.func f x y) m := run_store P w a _ m rfl

section
variable {I : Ids} {E : Errs} {src : List Nat} {srcV : Value} {w w' : World} {cs cs' : Array Value} {s : DS}
/-- The step's values. -/
def stepV (f : Nat) : Value := .func (.func f) #[] #[]
/-- What a flush hands out. -/
def outS (I : Ids) (s : DS) : DS := { flushS s with tr := I.out s }
def lastS (I : Ids) (E : Errs) (s : DS) : DS := { (if s.rd < s.wr then outS I s else s) with err := E.eofV }
def finishS (I : Ids) (E : Errs) (s : DS) : DS := { (if s.final then lastS I E s else s) with step := stepV 14 }

set_option maxRecDepth 100000 in
set_option maxHeartbeats 1000000 in
theorem finishBlock_any (hD : Dec I E src srcV w cs s) (hlt : s.rd < 32768) (hr : s.rd ≤ s.wr) :
    Calls Tryd.prog 37 #[.pointer (some ⟨I.F, 0, none⟩)] w fun r w' => r = .returned (.tuple #[]) ∧ (∃ cs', Dec I E src srcV w' cs' (finishS I E s)) ∧ Imp I w w' := by
  have cf := hD.c_final
  by_cases hf : s.final = true
  · rw [hf] at cf
    by_cases hrw : s.rd < s.wr
    · have hE : finishS I E s = { outS I s with err := E.eofV, step := stepV 14 } := by unfold finishS lastS; rw [if_pos hf, if_pos hrw]
      have HE := Lib.hid hE
      have y1 : ((s.wr - s.rd : Nat) : Int) > 0 := by omega
      clear hE
      go_enter Tryd.func37, Tryd.ntmps37
      go_wp2_with fail
      refine (availRead_any hD hr).mono ?_; rintro r w1 ⟨rfl, hD1, f1⟩
      go_wp2_with fail
      have hrf := readFlush_any hD1 hlt hr
      unfold Ids.out at hrf
      refine hrf.mono ?_; rintro r w2 ⟨rfl, ⟨cs2, hD2⟩, f2⟩
      have z2 := hD2.fz 1049
      have c2 := hD2.c_tr
      try simp only [] at c2
      have hD3 := hD2.set_tr (I.out s)
      have f3 := (f1.trans f2).trans (Imp.setF I w2 1049 (I.out s))
      have g3 : World.cell? _ ⟨0, 0, none⟩ = some (.iface 119 (.pointer (some E.eof))) := hD3.gl.g0
      have z3 := hD3.fz 1048
      have c3 := hD3.c_err
      have hD4 := hD3.set_err (.iface 119 (.pointer (some E.eof)))
      have z4 := hD4.fz 1045
      have c4 := hD4.c_step
      have hD5 := hD4.set_step (stepV 14)
      have f5 := (f3.trans (Imp.setF I _ 1048 (.iface 119 (.pointer (some E.eof))))).trans (Imp.setF I _ 1045 (stepV 14))
      have HD := Lib.hid hD5
      have HF := Lib.hid f5
      clear hD hD1 hD2 hD3 hD4 hD5 f1 f2 f3 f5 hf hrw hlt hr hrf
      unfold stepV at HD HF
      unfold Ids.out at HD HF z3 z4 g3 c3 c4
      try simp only [] at c3 c4
      go_wp2_with fail
      go_end0
      rw [HE.out]
      exact ⟨rfl, ⟨_, HD.out⟩, HF.out⟩
    · have hE : finishS I E s = { s with err := E.eofV, step := stepV 14 } := by unfold finishS lastS; rw [if_pos hf, if_neg hrw]
      have HE := Lib.hid hE
      have y1 : ¬ ((s.wr - s.rd : Nat) : Int) > 0 := by omega
      clear hE
      go_enter Tryd.func37, Tryd.ntmps37
      go_wp2_with fail
      refine (availRead_any hD hr).mono ?_; rintro r w1 ⟨rfl, hD1, f1⟩
      have g3 : World.cell? _ ⟨0, 0, none⟩ = some (.iface 119 (.pointer (some E.eof))) := hD1.gl.g0
      have z3 := hD1.fz 1048
      have c3 := hD1.c_err
      have hD4 := hD1.set_err (.iface 119 (.pointer (some E.eof)))
      have z4 := hD4.fz 1045
      have c4 := hD4.c_step
      have hD5 := hD4.set_step (stepV 14)
      have f5 := (f1.trans (Imp.setF I _ 1048 (.iface 119 (.pointer (some E.eof))))).trans (Imp.setF I _ 1045 (stepV 14))
      have HD := Lib.hid hD5
      have HF := Lib.hid f5
      clear hD hD1 hD4 hD5 f1 f5 hf hrw hlt hr
      unfold stepV at HD HF
      go_wp2_with fail
      go_end0
      rw [HE.out]
      exact ⟨rfl, ⟨_, HD.out⟩, HF.out⟩
  · have hE : finishS I E s = { s with step := stepV 14 } := by unfold finishS; rw [if_neg hf]
    rw [Bool.not_eq_true] at hf
    rw [hf] at cf
    have HE := Lib.hid hE
    clear hE
    have z4 := hD.fz 1045
    have c4 := hD.c_step
    have hD5 := hD.set_step (stepV 14)
    have f5 := Imp.setF I w 1045 (stepV 14)
    have HD := Lib.hid hD5
    have HF := Lib.hid f5
    clear hD hD5 f5 hf hlt hr
    unfold stepV at HD HF
    go_enter Tryd.func37, Tryd.ntmps37
    go_wp2_with fail
    go_end0
    rw [HE.out]
    exact ⟨rfl, ⟨_, HD.out⟩, HF.out⟩
end
end Go.Proofs.YtbbnibbdiiffkaaDoor

/- ReadFull into the window, and into the decoder's own four bytes. -/
namespace Go.Proofs.YtbbnibbdiiffkaaDoor
open Go.RowKit

section
variable {I : Ids} {E : Errs} {src : List Nat} {srcV : Value} {w w' : World} {cs cs' : Array Value} {s : DS}
theorem Dec.rdr (h : Dec I E src srcV w cs s) (ts : Tidy srcV) (g : Nat) (hg : g = I.D ∨ g = I.F) : Rdr E I.R g src srcV w s.k := by
  have o := h.ok
  have hl := h.gl.lo4
  have hgl : I.lo ≤ g := by rcases hg with rfl | rfl; exact o.lD; exact o.lF
  have hR := o.lR
  refine ⟨h.bR, h.bS, ts, fun b off n c e => ?_, ?_, h.kle, h.small, h.gl.g0, by omega, by omega⟩
  · have := h.notOwn b off n c e
    refine ⟨fun q => this (.inr (.inl q)), fun q => ?_⟩
    rcases hg with rfl | rfl
    · exact this (.inr (.inr (.inl q)))
    · exact this (.inl q)
  · rcases hg with rfl | rfl
    · exact Ne.symm o.RD
    · exact o.FR
theorem two_imp {g : Nat} (hg : g = I.D ∨ g = I.F) (h : Two I.R g w w') : Imp I w w' := Frm.mono h fun k c hk => by
  rcases hk with hk | hk
  · exact .inr (.inl hk)
  · rcases hg with rfl | rfl
    · exact .inr (.inr (.inl hk))
    · exact .inl hk
theorem lt_block {k : Nat} {o : Obj} (h : w.heap[k]? = some o) : k < w.heap.size := by
  rcases Nat.lt_or_ge k w.heap.size with q | q
  · exact q
  · rw [Array.getElem?_eq_none q] at h; cases h

/-- So much was read, and laid into the window. -/
def gotD (src : List Nat) (s : DS) (off q : Nat) : DS := { s with k := s.k + q, hist := spl s.hist off ((src.drop s.k).take q) }
theorem cut_len' {k q : Nat} (hq : q ≤ src.length - k) : ((src.drop k).take q).length = q := by rw [List.length_take, List.length_drop]; omega
theorem Dec.gotD (h : Dec I E src srcV w cs s) {q off : Nat} (hg : Got E I.R I.D src srcV w w' s.k q off (bytesA s.hist) 5) (hf : off + q ≤ 32768) (hq : q ≤ src.length - s.k) :
    Dec I E src srcV w' cs (gotD src s off q) := by
  have hi : Imp I w w' := two_imp (.inl rfl) hg.two
  have o := h.ok
  have hl := cut_len' (src := src) hq
  have hk := h.kle
  have hro := h.ro
  have ho : ∀ k, k ≠ I.R → k ≠ I.D → (∃ o, w.heap[k]? = some o) → w'.heap[k]? = w.heap[k]? := fun k h1 h2 ⟨_, h3⟩ => hg.two.block k (lt_block h3) (by rintro (e | e); exact h1 e; exact h2 e)
  refine ⟨by rw [ho _ o.FR o.FD ⟨_, h.bF⟩]; exact h.bF, ⟨h.fc.size, h.fc.r, h.fc.pb, h.fc.pc, h.fc.hist, h.fc.ro, h.fc.b, h.fc.nb, h.fc.wr, h.fc.rd, h.fc.full, h.fc.step, h.fc.st, h.fc.final, h.fc.err, h.fc.tr, h.fc.hl, h.fc.hd, h.fc.len, h.fc.dist, h.fc.h1, h.fc.h2, h.fc.buf⟩, hg.rdr.bR, ?_, by rw [ho _ (Ne.symm o.RB) (Ne.symm o.DB) ⟨_, h.bB⟩]; exact h.bB, by rw [ho _ (Ne.symm o.RC) (Ne.symm o.DC) ⟨_, h.bC⟩]; exact h.bC, h.srcs hi, h.notOwn, h.gl.frm hi h.lows, o, h.links hi h.lk1, h.links hi h.lk2, h.txs hi, ?_, h.blen, h.clen, ?_, h.small, h.bytes, h.b32, h.nb32, ?_, h.wr, h.rd, h.dlen, h.ddist⟩
  · have := hg.row
    rw [this, show rowOver (bytesA s.hist) off ((src.drop s.k).take q) = bytesA (spl s.hist off ((src.drop s.k).take q)) from laidOver_eq _ _ _]; rfl
  · show (spl s.hist off _).length = 32768
    rw [spl_len (by rw [h.hlen, hl]; exact hf)]; exact h.hlen
  · show s.k + q ≤ src.length; omega
  · show s.ro ≤ s.k + q; omega

theorem rowOver_out {row : Array Value} {off : Nat} {c : List Nat} (hf : off + c.length ≤ row.size) {i : Nat} (hi : i < off ∨ off + c.length ≤ i) : (rowOver row off c)[i]? = row[i]? := by
  unfold rowOver
  rw [List.getElem?_toArray, List.length_map]
  have h1 : (row.toList.take off).length = off := by rw [List.length_take, Array.length_toList]; omega
  rcases hi with hi | hi
  · rw [List.getElem?_append_left (by omega), List.getElem?_take, if_pos hi, Array.getElem?_toList]
  · rw [List.getElem?_append_right (by omega), h1, List.getElem?_append_right (by rw [List.length_map]; omega), List.length_map, List.getElem?_drop, Array.getElem?_toList]
    congr 1; omega
theorem rowOver_in {row : Array Value} {off : Nat} {c : List Nat} (hf : off + c.length ≤ row.size) {j : Nat} (hj : j < c.length) : (rowOver row off c)[off + j]? = some (u8 (c.getD j 0)) := by
  unfold rowOver
  rw [List.getElem?_toArray]
  have h1 : (row.toList.take off).length = off := by rw [List.length_take, Array.length_toList]; omega
  rw [List.getElem?_append_right (by omega), h1, List.getElem?_append_left (by rw [List.length_map]; omega), List.getElem?_map, show off + j - off = j by omega, List.getElem?_eq_getElem hj, List.getD_eq_getElem?_getD, List.getElem?_eq_getElem hj]
  rfl
theorem rowOver_size {row : Array Value} {off : Nat} {c : List Nat} (hf : off + c.length ≤ row.size) : (rowOver row off c).size = row.size := by
  unfold rowOver; simp; omega
theorem HDC.over {row : Array Value} {off o : Nat} {c : List Nat} {h : HD} {lv : Value} (hh : HDC row o h lv) (hf : off + c.length ≤ row.size) (ho : o + 515 ≤ off ∨ off + c.length ≤ o) : HDC (rowOver row off c) o h lv :=
  ⟨by rw [rowOver_out hf (by omega)]; exact hh.mn, fun j hj => by rw [rowOver_out hf (by omega)]; exact hh.chs j hj, by rw [rowOver_out hf (by omega)]; exact hh.lk, by rw [rowOver_out hf (by omega)]; exact hh.msk⟩

/-- So much was read into the four bytes. -/
def fourB (src : List Nat) (s : DS) (q : Nat) : List Nat := (List.range 4).map fun j => if j < q then src.getD (s.k + j) 0 else s.buf.getD j 0
def gotB (src : List Nat) (s : DS) (q : Nat) : DS := { s with k := s.k + q, buf := fourB src s q }
theorem fourB_get (q : Nat) {j : Nat} (hj : j < 4) : (fourB src s q).getD j 0 = if j < q then src.getD (s.k + j) 0 else s.buf.getD j 0 := by
  unfold fourB
  rw [List.getD_eq_getElem?_getD, List.getElem?_map, List.getElem?_range hj]; rfl
theorem Dec.gotB (h : Dec I E src srcV w cs s) {q : Nat} (hg : Got E I.R I.F src srcV w w' s.k q 1041 cs 63) (hf : q ≤ 4) (hq : q ≤ src.length - s.k) :
    ∃ cs', Dec I E src srcV w' cs' (gotB src s q) := by
  have hi : Imp I w w' := two_imp (.inr rfl) hg.two
  have o := h.ok
  have hl := cut_len' (src := src) hq
  have hk := h.kle
  have hro := h.ro
  have ho : ∀ k, k ≠ I.R → k ≠ I.F → (∃ o, w.heap[k]? = some o) → w'.heap[k]? = w.heap[k]? := fun k h1 h2 ⟨_, h3⟩ => hg.two.block k (lt_block h3) (by rintro (e | e); exact h1 e; exact h2 e)
  have hfit : 1041 + ((src.drop s.k).take q).length ≤ cs.size := by rw [hl, h.fc.size]; omega
  have hO : ∀ i, i < 1041 ∨ 1045 ≤ i → (rowOver cs 1041 ((src.drop s.k).take q))[i]? = cs[i]? := fun i hi => rowOver_out hfit (by rw [hl]; omega)
  have c := h.fc
  refine ⟨_, hg.row, ⟨by rw [rowOver_size hfit]; exact c.size, ?_, ?_, ?_, ?_, ?_, ?_, ?_, ?_, ?_, ?_, ?_, ?_, ?_, ?_, ?_, ?_, ?_, ?_, ?_, ?_, ?_, ?_⟩, hg.rdr.bR, by rw [ho _ (Ne.symm o.RD) (Ne.symm o.FD) ⟨_, h.bD⟩]; exact h.bD, by rw [ho _ (Ne.symm o.RB) (Ne.symm o.FB) ⟨_, h.bB⟩]; exact h.bB, by rw [ho _ (Ne.symm o.RC) (Ne.symm o.FCC) ⟨_, h.bC⟩]; exact h.bC, h.srcs hi, h.notOwn, h.gl.frm hi h.lows, o, h.links hi h.lk1, h.links hi h.lk2, h.txs hi, h.hlen, h.blen, h.clen, ?_, h.small, h.bytes, h.b32, h.nb32, ?_, h.wr, h.rd, h.dlen, h.ddist⟩
  · rw [hO _ (by omega)]; exact c.r
  · rw [hO _ (by omega)]; exact c.pb
  · rw [hO _ (by omega)]; exact c.pc
  · rw [hO _ (by omega)]; exact c.hist
  · rw [hO _ (by omega)]; exact c.ro
  · rw [hO _ (by omega)]; exact c.b
  · rw [hO _ (by omega)]; exact c.nb
  · rw [hO _ (by omega)]; exact c.wr
  · rw [hO _ (by omega)]; exact c.rd
  · rw [hO _ (by omega)]; exact c.full
  · rw [hO _ (by omega)]; exact c.step
  · rw [hO _ (by omega)]; exact c.st
  · rw [hO _ (by omega)]; exact c.final
  · rw [hO _ (by omega)]; exact c.err
  · rw [hO _ (by omega)]; exact c.tr
  · rw [hO _ (by omega)]; exact c.hl
  · rw [hO _ (by omega)]; exact c.hd
  · rw [hO _ (by omega)]; exact c.len
  · rw [hO _ (by omega)]; exact c.dist
  · exact c.h1.over hfit (.inl (by omega))
  · exact c.h2.over hfit (.inl (by omega))
  · intro j hj
    show _ = some (u8 ((fourB src s q).getD j 0))
    rw [fourB_get q hj]
    by_cases hjq : j < q
    · rw [if_pos hjq, rowOver_in hfit (by omega), cut_getD hjq]
    · rw [if_neg hjq, rowOver_out hfit (by omega)]; exact c.buf j hj
  · show s.k + q ≤ src.length; omega
  · show s.ro ≤ s.k + q; omega

theorem fullD_any (hD : Dec I E src srcV w cs s) (ts : Tidy srcV) (n cap : Nat) (hcap : n ≤ cap) (hn : s.wr + n ≤ 32768) (q : Nat) (hq : q = Nat.min (src.length - s.k) n) :
    Calls Tryd.prog 35 #[.iface 29 (.pointer (some ⟨I.R, 0, none⟩)), .slice (some ⟨I.D, s.wr, none⟩) n cap] w fun r w' => r = .returned (.tuple #[vi q, rfE E q n]) ∧ Dec I E src srcV w' cs (gotD src s s.wr q) ∧ Imp I w w' := by
  have hqn : q ≤ n := by rw [hq]; exact Nat.min_le_right _ _
  have hqk : q ≤ src.length - s.k := by rw [hq]; exact Nat.min_le_left _ _
  have hl := hD.gl.lo4
  have hR := hD.ok.lR
  have hDl := hD.ok.lD
  refine (readFull_any (hD.rdr ts I.D (.inl rfl)) hD.gl.g1 (by omega) (by omega) s.wr n cap hcap (by omega) (bytesA s.hist) 5 hD.bD (by unfold bytesA; rw [List.size_toArray, List.length_map, hD.hlen]; omega) q hq).mono ?_
  rintro r w' ⟨rfl, hg⟩
  exact ⟨rfl, hD.gotD hg (by omega) hqk, two_imp (.inl rfl) hg.two⟩
theorem fullB_any (hD : Dec I E src srcV w cs s) (ts : Tidy srcV) (cap : Nat) (hcap : 4 ≤ cap) (q : Nat) (hq : q = Nat.min (src.length - s.k) 4) :
    Calls Tryd.prog 35 #[.iface 29 (.pointer (some ⟨I.R, 0, none⟩)), .slice (some ⟨I.F, 1041, none⟩) 4 cap] w fun r w' => r = .returned (.tuple #[vi q, rfE E q 4]) ∧ (∃ cs', Dec I E src srcV w' cs' (gotB src s q)) ∧ Imp I w w' := by
  have hqn : q ≤ 4 := by rw [hq]; exact Nat.min_le_right _ _
  have hqk : q ≤ src.length - s.k := by rw [hq]; exact Nat.min_le_left _ _
  have hl := hD.gl.lo4
  have hR := hD.ok.lR
  have hFl := hD.ok.lF
  refine (readFull_any (hD.rdr ts I.F (.inr rfl)) hD.gl.g1 (by omega) (by omega) 1041 4 cap hcap (by omega) cs 63 hD.bF (by rw [hD.fc.size]; omega) q hq).mono ?_
  rintro r w' ⟨rfl, hg⟩
  exact ⟨rfl, hD.gotB hg hqn hqk, two_imp (.inr rfl) hg.two⟩
end
end Go.Proofs.YtbbnibbdiiffkaaDoor

/- A block that is not compressed: copyData, dataBlock. -/
namespace Go.Proofs.YtbbnibbdiiffkaaDoor
open Go.RowKit

section
variable {I : Ids} {E : Errs} {src : List Nat} {srcV : Value} {w w' : World} {cs cs' : Array Value} {s : DS}
theorem wrapAdd {a b c : Nat} (h : c = a + b) (h2 : c ≤ 1000000) : wrap64 ((a : Int) + (b : Int)) = (c : Int) := by unfold wrap64; omega
theorem wrapSub {a b c : Nat} (h : c = a - b) (h1 : b ≤ a) (h2 : a ≤ 1000000) : wrap64 ((a : Int) - (b : Int)) = (c : Int) := by unfold wrap64; omega
theorem cd_arith {wr len k L ro n q : Nat} (h1 : n ≤ len) (h2 : n ≤ 32768 - wr) (hw : wr < 32768) (h3 : q ≤ n) (_h4 : q ≤ L - k) (hk : k ≤ L) (hL : L ≤ 100000) (hro : ro ≤ k) (hl : len ≤ 65535) :
    ro + q ≤ k + q ∧ ro + q ≤ 1000000 ∧ len - q ≤ 65535 ∧ q ≤ len ∧ len ≤ 1000000 ∧ wr + q ≤ 32768 ∧ wr + n ≤ 32768 := by omega
/-- How much is asked for, and how much comes. -/
def cdN (s : DS) : Nat := Nat.min (32768 - s.wr) s.len
def cdQ (src : List Nat) (s : DS) : Nat := Nat.min (src.length - s.k) (cdN s)
def cdA (src : List Nat) (s : DS) (q : Nat) : DS := { gotD src s s.wr q with ro := s.ro + q, len := s.len - q, wr := s.wr + q }
def cdB (I : Ids) (E : Errs) (a : DS) : DS := if a.wr = 32768 ∨ 0 < a.len then { outS I a with step := stepV 38 } else finishS I E a
def copyDataS (I : Ids) (E : Errs) (src : List Nat) (s : DS) : DS := if cdQ src s = cdN s then cdB I E (cdA src s (cdQ src s)) else { cdA src s (cdQ src s) with err := E.uneV }

set_option maxRecDepth 100000 in
set_option maxHeartbeats 2000000 in
theorem copyData_any (hD : Dec I E src srcV w cs s) (ts : Tidy srcV) (hw : s.wr < 32768) (hr : s.rd ≤ s.wr) :
    Calls Tryd.prog 38 #[.pointer (some ⟨I.F, 0, none⟩)] w fun r w' => r = .returned (.tuple #[]) ∧ (∃ cs', Dec I E src srcV w' cs' (copyDataS I E src s)) ∧ Imp I w w' := by
  obtain ⟨N, hN⟩ : ∃ N : Nat, N = 32768 := ⟨_, rfl⟩
  have hws := writeSlice_any hD hw
  unfold Ids.free at hws
  rw [← hN] at hws
  have hn1 : cdN s ≤ s.len := Nat.min_le_right _ _
  have hn2 : cdN s ≤ 32768 - s.wr := Nat.min_le_left _ _
  have hn3 : cdN s = if s.len < N - s.wr then s.len else N - s.wr := by
    unfold cdN; rw [hN]; simp only [Nat.min_def]; split <;> split <;> omega
  have hq1 : cdQ src s ≤ cdN s := Nat.min_le_right _ _
  have hq2 : cdQ src s ≤ src.length - s.k := Nat.min_le_left _ _
  have hq3 : cdQ src s = Nat.min (src.length - s.k) (cdN s) := rfl
  have HE : Hid (copyDataS I E src s = if cdQ src s = cdN s then cdB I E (cdA src s (cdQ src s)) else { cdA src s (cdQ src s) with err := E.uneV }) := Lib.hid rfl
  generalize cdQ src s = q at *
  generalize cdN s = n at *
  have HQ3 := Lib.hid hq3
  have HN3 := Lib.hid hn3
  have HNN := Lib.hid hN
  have hdl := hD.dlen
  have hk := hD.kle
  have hsm := hD.small
  have hro := hD.ro
  clear hq3 hn3 hN
  go_enter Tryd.func38, Tryd.ntmps38
  go_wp2_with fail
  refine hws.mono ?_; rintro r w1 ⟨rfl, hD1, f1⟩
  have cl := hD1.c_len
  go_upto_region 1 with fail
  iterate 25 (first | go_values | go_skip | go_guarded | go_step | go_upon | go_simp)
  go_cut [2] (fun v wx => v = .slice (some ⟨I.D, s.wr, none⟩) n (N - s.wr) ∧ Dec I E src srcV wx cs s ∧ Imp I w wx)
  case first =>
    by_cases hc : s.len < N - s.wr
    · have x1 : ((N - s.wr : Nat) : Int) > (s.len : Int) := by omega
      have x2 : (0 : Int) ≤ (s.len : Int) := by omega
      have x3 : (s.len : Int) ≤ ((N - s.wr : Nat) : Int) := by omega
      have hnn : n = s.len := by rw [HN3.out, if_pos hc]
      have HNE := Lib.hid hnn
      have x4 : (s.len : Int) ≤ (N - s.wr : Nat) := by omega
      clear hnn hc
      go_wp2_with fail
      go_meet
      exact ⟨by rw [HNE.out], hD1, f1⟩
    · have x1 : ¬ ((N - s.wr : Nat) : Int) > (s.len : Int) := by omega
      have hnn : n = N - s.wr := by rw [HN3.out, if_neg hc]
      have HNE := Lib.hid hnn
      clear hnn hc
      go_wp2_with fail
      go_meet
      exact ⟨by rw [HNE.out], hD1, f1⟩
  case rest =>
    obtain ⟨rfl, hD2, f2⟩ := hcut
    clear hD1 f1 cl HN3
    have cr := hD2.c_r
    have har := cd_arith hn1 hn2 hw hq1 hq2 hk hsm hro hdl
    have hrf := fullD_any hD2 ts n (N - s.wr) (by have := HNN.out; omega) har.2.2.2.2.2.2 q HQ3.out
    have hv : rfE E q n = if q = n then .nilIface else if q = 0 then E.eofV else E.uneV := rfl
    have hmark : s.wr + q ≤ 32768 := har.2.2.2.2.2.1
    obtain ⟨ro', hro'⟩ : ∃ x, x = s.ro + q := ⟨_, rfl⟩
    obtain ⟨len', hlen'⟩ : ∃ x, x = s.len - q := ⟨_, rfl⟩
    have x1 : wrap64 ((s.ro : Int) + (q : Int)) = (ro' : Int) := wrapAdd hro' (by rw [hro']; exact har.2.1)
    have x2 : wrap64 ((s.len : Int) - (q : Int)) = (len' : Int) := wrapSub hlen' har.2.2.2.1 har.2.2.2.2.1
    have hrk : ro' ≤ s.k + q := by rw [hro']; exact har.1
    have hl65 : len' ≤ 65535 := by rw [hlen']; exact har.2.2.1
    have HA : Hid (cdA src s q = { gotD src s s.wr q with ro := ro', len := len', wr := s.wr + q }) := Lib.hid (by unfold cdA; rw [← hro', ← hlen'])
    have HLL := Lib.hid hlen'
    clear hro' hlen' har
    by_cases hqn : q = n
    · rw [if_pos hqn] at hv
      rw [hv] at hrf
      have HE2 : Hid (copyDataS I E src s = cdB I E (cdA src s q)) := Lib.hid (by rw [HE.out, if_pos hqn])
      clear HE hv hD hws hro hsm hk hdl
      have HQN := Lib.hid hqn
      clear hqn
      go_wp2_with fail
      refine hrf.mono ?_; rintro r w3 ⟨rfl, hD3, f3⟩
      have c2 := hD3.c_ro
      have z2 := hD3.fz 2
      have hD4 := hD3.set_ro ro' hrk
      have c52 := hD4.c_len
      have z52 := hD4.fz 1052
      have hD5 := hD4.set_len len' hl65
      have f5 := ((f2.trans f3).trans (Imp.setF I w3 2 (.int .i64 (ro' : Int)))).trans (Imp.setF I _ 1052 (.int .i64 (len' : Int)))
      have hmk := writeMark_any hD5 q hmark
      simp only [gotD] at c2 c52 
      clear hrf hD2 f2
      go_wp2_with fail
      refine hmk.mono ?_; rintro r w6 ⟨rfl, ⟨c6, hD6⟩, f6⟩
      have hD6' : Dec I E src srcV w6 c6 (cdA src s q) := by rw [HA.out]; exact hD6
      have har : (cdA src s q).rd < 32768 ∧ (cdA src s q).rd ≤ (cdA src s q).wr := ⟨Nat.lt_of_le_of_lt hr hw, Nat.le_trans hr (Nat.le_add_right _ _)⟩
      clear hD3 hD4 hD5 hD6 hmk f3 c2 z2 c52 z52
      have f6 := f5.trans f6
      clear f5 HA HLL x1 x2 hrk hl65 hmark
      generalize cdA src s q = a at *
      have hav := availWrite_any hD6'
      have hwa := hD6'.wr
      by_cases hA : a.wr = 32768
      · have HE3 : Hid (copyDataS I E src s = { outS I a with step := stepV 38 }) := Lib.hid (by rw [HE2.out]; unfold cdB; rw [if_pos (.inl hA)])
        have y : (32768 - a.wr : Nat) = 0 := by rw [hA]
        rw [y] at hav
        clear y hwa hA HE2
        go_wp2_with fail
        refine hav.mono ?_; rintro r w7 ⟨rfl, hD7, f7⟩
        have f7 := f6.trans f7
        have hrf := readFlush_any hD7 har.1 har.2
        unfold Ids.out at hrf
        clear f6 hD6' hav har
        go_wp2_with fail
        refine hrf.mono ?_; rintro r w8 ⟨rfl, ⟨c8, hD8⟩, f8⟩
        have z8 := hD8.fz 1049
        have c49 := hD8.c_tr
        have hD9 := hD8.set_tr (I.out a)
        have f9 := (f7.trans f8).trans (Imp.setF I w8 1049 (I.out a))
        have z9 := hD9.fz 1045
        have c45 := hD9.c_step
        have hD10 := hD9.set_step (stepV 38)
        have f10 := f9.trans (Imp.setF I _ 1045 (stepV 38))
        have HD := Lib.hid hD10
        have HF := Lib.hid f10
        clear hD7 hD8 hD9 hD10 f7 f8 f9 f10 hrf
        unfold stepV Ids.out at HD HF
        unfold Ids.out at z9 c45
        go_wp2_with fail
        go_returns
        rw [HE3.out]
        exact ⟨rfl, ⟨_, HD.out⟩, HF.out⟩
      · by_cases hB : 0 < a.len
        · have HE3 : Hid (copyDataS I E src s = { outS I a with step := stepV 38 }) := Lib.hid (by rw [HE2.out]; unfold cdB; rw [if_pos (.inr hB)])
          obtain ⟨v, hv⟩ : ∃ v, v = 32768 - a.wr := ⟨_, rfl⟩
          have y1 : ((v : Int) == 0) = false := beq_eq_false_iff_ne.2 (by omega)
          have y2 : (a.len : Int) > 0 := by omega
          rw [← hv] at hav
          clear hwa hA HE2 hv hB
          go_wp2_with fail
          refine hav.mono ?_; rintro r w7 ⟨rfl, hD7, f7⟩
          have f7 := f6.trans f7
          have hrf := readFlush_any hD7 har.1 har.2
          unfold Ids.out at hrf
          have c52 := hD7.c_len
          clear f6 hD6' hav har
          go_wp2_with fail
          refine hrf.mono ?_; rintro r w8 ⟨rfl, ⟨c8, hD8⟩, f8⟩
          have z8 := hD8.fz 1049
          have c49 := hD8.c_tr
          have hD9 := hD8.set_tr (I.out a)
          have f9 := (f7.trans f8).trans (Imp.setF I w8 1049 (I.out a))
          have z9 := hD9.fz 1045
          have c45 := hD9.c_step
          have hD10 := hD9.set_step (stepV 38)
          have f10 := f9.trans (Imp.setF I _ 1045 (stepV 38))
          have HD := Lib.hid hD10
          have HF := Lib.hid f10
          clear hD7 hD8 hD9 hD10 f7 f8 f9 f10 hrf
          unfold stepV Ids.out at HD HF
          unfold Ids.out at z9 c45
          go_wp2_with fail
          go_returns
          rw [HE3.out]
          exact ⟨rfl, ⟨_, HD.out⟩, HF.out⟩
        · have HE3 : Hid (copyDataS I E src s = finishS I E a) := Lib.hid (by rw [HE2.out]; unfold cdB; rw [if_neg (by omega)])
          obtain ⟨v, hv⟩ : ∃ v, v = 32768 - a.wr := ⟨_, rfl⟩
          have y1 : ((v : Int) == 0) = false := beq_eq_false_iff_ne.2 (by omega)
          have y2 : ¬ (a.len : Int) > 0 := by omega
          rw [← hv] at hav
          clear hwa hA HE2 hv hB
          go_wp2_with fail
          refine hav.mono ?_; rintro r w7 ⟨rfl, hD7, f7⟩
          have f7 := f6.trans f7
          have hrf := finishBlock_any hD7 har.1 har.2
          have c52 := hD7.c_len
          clear f6 hD6' hav har
          go_wp2_with fail
          refine hrf.mono ?_; rintro r w8 ⟨rfl, ⟨c8, hD8⟩, f8⟩
          go_wp2_with fail
          go_end0
          rw [HE3.out]
          exact ⟨rfl, ⟨_, hD8⟩, f7.trans f8⟩
    · rw [if_neg hqn] at hv
      have HE2 : Hid (copyDataS I E src s = { cdA src s q with err := E.uneV }) := Lib.hid (by rw [HE.out, if_neg hqn])
      by_cases hq0 : q = 0
      · rw [if_pos hq0] at hv
        rw [hv] at hrf
        unfold Errs.eofV at hrf
        clear HE hv hD hws hro hsm hk hdl hqn hq0
        go_wp2_with fail
        refine hrf.mono ?_; rintro r w3 ⟨rfl, hD3, f3⟩
        have c2 := hD3.c_ro
        have z2 := hD3.fz 2
        have hD4 := hD3.set_ro ro' hrk
        have c52 := hD4.c_len
        have z52 := hD4.fz 1052
        have hD5 := hD4.set_len len' hl65
        have f5 := ((f2.trans f3).trans (Imp.setF I w3 2 (.int .i64 (ro' : Int)))).trans (Imp.setF I _ 1052 (.int .i64 (len' : Int)))
        have hmk := writeMark_any hD5 q hmark
        simp only [gotD] at c2 c52 
        clear hrf hD2 f2
        go_wp2_with fail
        refine hmk.mono ?_; rintro r w6 ⟨rfl, ⟨c6, hD6⟩, f6⟩
        have hD6' : Dec I E src srcV w6 c6 (cdA src s q) := by rw [HA.out]; exact hD6
        clear hD3 hD4 hD5 hD6 hmk f3 c2 z2 c52 z52
        have f6 := f5.trans f6
        clear f5 HA HLL x1 x2 hrk hl65 hmark
        generalize cdA src s q = a at *
        have hno := noEOF_eof hD6'.gl
        unfold Errs.eofV Errs.uneV at hno
        go_wp2_with fail
        refine hno.mono ?_; rintro r w7 ⟨rfl, rfl⟩
        have z8 := hD6'.fz 1048
        have c48 := hD6'.c_err
        have hD9 := hD6'.set_err (.iface 119 (.pointer (some E.une)))
        have f9 := f6.trans (Imp.setF I _ 1048 (.iface 119 (.pointer (some E.une))))
        have HD := Lib.hid hD9
        have HF := Lib.hid f9
        clear hD6' hD9 f6 f9
        go_wp2_with fail
        go_returns
        rw [HE2.out]
        exact ⟨rfl, ⟨_, HD.out⟩, HF.out⟩
      · rw [if_neg hq0] at hv
        rw [hv] at hrf
        unfold Errs.uneV at hrf
        clear HE hv hD hws hro hsm hk hdl hqn hq0
        go_wp2_with fail
        refine hrf.mono ?_; rintro r w3 ⟨rfl, hD3, f3⟩
        have c2 := hD3.c_ro
        have z2 := hD3.fz 2
        have hD4 := hD3.set_ro ro' hrk
        have c52 := hD4.c_len
        have z52 := hD4.fz 1052
        have hD5 := hD4.set_len len' hl65
        have f5 := ((f2.trans f3).trans (Imp.setF I w3 2 (.int .i64 (ro' : Int)))).trans (Imp.setF I _ 1052 (.int .i64 (len' : Int)))
        have hmk := writeMark_any hD5 q hmark
        simp only [gotD] at c2 c52 
        clear hrf hD2 f2
        go_wp2_with fail
        refine hmk.mono ?_; rintro r w6 ⟨rfl, ⟨c6, hD6⟩, f6⟩
        have hD6' : Dec I E src srcV w6 c6 (cdA src s q) := by rw [HA.out]; exact hD6
        clear hD3 hD4 hD5 hD6 hmk f3 c2 z2 c52 z52
        have f6 := f5.trans f6
        clear f5 HA HLL x1 x2 hrk hl65 hmark
        generalize cdA src s q = a at *
        have hno := noEOF_une hD6'.gl
        unfold Errs.eofV Errs.uneV at hno
        go_wp2_with fail
        refine hno.mono ?_; rintro r w7 ⟨rfl, rfl⟩
        have z8 := hD6'.fz 1048
        have c48 := hD6'.c_err
        have hD9 := hD6'.set_err (.iface 119 (.pointer (some E.une)))
        have f9 := f6.trans (Imp.setF I _ 1048 (.iface 119 (.pointer (some E.une))))
        have HD := Lib.hid hD9
        have HF := Lib.hid f9
        clear hD6' hD9 f6 f9
        go_wp2_with fail
        go_returns
        rw [HE2.out]
        exact ⟨rfl, ⟨_, HD.out⟩, HF.out⟩
end
end Go.Proofs.YtbbnibbdiiffkaaDoor

/- A block that is not compressed: dataBlock. -/
namespace Go.Proofs.YtbbnibbdiiffkaaDoor
open Go.RowKit

section
variable {I : Ids} {E : Errs} {src : List Nat} {srcV : Value} {w w' : World} {cs cs' : Array Value} {s : DS}
def dbQ (src : List Nat) (s : DS) : Nat := Nat.min (src.length - s.k) 4
def dbA (src : List Nat) (s : DS) : DS := { gotB src s (dbQ src s) with nb := 0, b := 0, ro := s.ro + dbQ src s }
def dbN (src : List Nat) (k : Nat) : Nat := src.getD k 0 + src.getD (k + 1) 0 * 256
def dbT (I : Ids) (E : Errs) (src : List Nat) (a : DS) (n m : Nat) : DS :=
  if n + m = 65535 then (if n = 0 then finishS I E (outS I a) else copyDataS I E src { a with len := n }) else { a with err := corV a.ro }
def dataBlockS (I : Ids) (E : Errs) (src : List Nat) (s : DS) : DS :=
  if dbQ src s = 4 then dbT I E src (dbA src s) (dbN src s.k) (dbN src (s.k + 2)) else { dbA src s with err := E.uneV }

theorem or_bytes {x v n : Nat} (hx : x < 256) (hv : v < 65536) (h256 : v % 256 = 0) (hn : n = x + v) : bits .or .i64 (x : Int) (v : Int) = (n : Int) := by
  rw [or_i64 x v (by omega) (by omega)]
  obtain ⟨y, rfl⟩ : ∃ y, v = y * 2 ^ 8 := ⟨v / 256, by omega⟩
  rw [or_add' y x 8 hx, hn]
theorem wrap64_id {x : Nat} (h : x < 1000000) : wrap64 (x : Int) = (x : Int) := by unfold wrap64; omega
theorem wrap64_mul {x v : Nat} (h : x < 256) (hv : v = x * 256) : wrap64 ((x : Int) * 256) = (v : Int) := by unfold wrap64; omega
theorem not16 {n v : Nat} (h : n < 65536) (hv : v = 65535 - n) : IntKind.u16.wrap (-(n : Int) - 1) = (v : Int) := by rw [IntKind.wrap_u16]; omega

theorem db_arith {x0 x1 x2 x3 : Nat} (h0 : x0 < 256) (h1 : x1 < 256) (h2 : x2 < 256) (h3 : x3 < 256) : ∃ v1 v3 n m nn : Nat,
    wrap64 (x0 : Int) = x0 ∧ wrap64 (x1 : Int) = x1 ∧ wrap64 (x2 : Int) = x2 ∧ wrap64 (x3 : Int) = x3 ∧ wrap64 ((x1 : Int) * 256) = (v1 : Int) ∧ wrap64 ((x3 : Int) * 256) = (v3 : Int) ∧
    bits .or .i64 (x0 : Int) (v1 : Int) = (n : Int) ∧ bits .or .i64 (x2 : Int) (v3 : Int) = (m : Int) ∧ x0 + x1 * 256 = n ∧ x2 + x3 * 256 = m ∧
    IntKind.u16.wrap (m : Int) = (m : Int) ∧ bits .xor .i64 (-1) (n : Int) = -(n : Int) - 1 ∧ IntKind.u16.wrap (-(n : Int) - 1) = (nn : Int) ∧ n ≤ 65535 ∧ (n + m = 65535 ↔ m = nn) := by
  refine ⟨x1 * 256, x3 * 256, x0 + x1 * 256, x2 + x3 * 256, 65535 - (x0 + x1 * 256), wrap64_id (by omega), wrap64_id (by omega), wrap64_id (by omega), wrap64_id (by omega), wrap64_mul h1 rfl, wrap64_mul h3 rfl,
    or_bytes h0 (by omega) (by omega) rfl, or_bytes h2 (by omega) (by omega) rfl, rfl, rfl, wrap_u16_id _ (by omega) (by omega), Lib.i64_not _ (by omega), not16 (by omega) rfl, by omega, by omega⟩
theorem flush_ok {a : DS} (hw : a.wr < 32768) : (flushS a).rd < 32768 ∧ (flushS a).rd ≤ (flushS a).wr := by
  unfold flushS; rw [if_neg (Nat.ne_of_lt hw)]; exact ⟨hw, Nat.le_refl _⟩

set_option maxRecDepth 100000 in
set_option maxHeartbeats 2000000 in
theorem dataBlock_any (hD : Dec I E src srcV w cs s) (ts : Tidy srcV) (hw : s.wr < 32768) (hr : s.rd ≤ s.wr) :
    Calls Tryd.prog 22 #[.pointer (some ⟨I.F, 0, none⟩)] w fun r w' => r = .returned (.tuple #[]) ∧ (∃ cs', Dec I E src srcV w' cs' (dataBlockS I E src s)) ∧ Imp I w w' := by
  have hq1 : dbQ src s ≤ 4 := Nat.min_le_right _ _
  have hq2 : dbQ src s ≤ src.length - s.k := Nat.min_le_left _ _
  have hq3 : dbQ src s = Nat.min (src.length - s.k) 4 := rfl
  have HE : Hid (dataBlockS I E src s = if dbQ src s = 4 then dbT I E src (dbA src s) (dbN src s.k) (dbN src (s.k + 2)) else { dbA src s with err := E.uneV }) := Lib.hid rfl
  have HA : Hid (dbA src s = { gotB src s (dbQ src s) with nb := 0, b := 0, ro := s.ro + dbQ src s }) := Lib.hid rfl
  generalize dbQ src s = q at *
  have HQ3 := Lib.hid hq3
  clear hq3
  have hk := hD.kle
  have hsm := hD.small
  have hro := hD.ro
  have cnb := hD.c_nb
  have znb := hD.fz 4
  have e0 : ((0 : Nat) : Int) = 0 := rfl
  have hD1 := hD.set_nb 0 (Nat.zero_le _)
  rw [e0] at hD1
  have cb := hD1.c_b
  have zb := hD1.fz 3
  have hD2 := hD1.set_b 0 (by decide)
  rw [e0] at hD2
  have cr := hD2.c_r
  have f2 := (Imp.setF I w 4 (.int .u64 0)).trans (Imp.setF I _ 3 (.int .u32 0))
  simp only [] at cb
  have hrf := fullB_any hD2.drew ts 4 (Nat.le_refl _) q HQ3.out
  have hv : rfE E q 4 = if q = 4 then .nilIface else if q = 0 then E.eofV else E.uneV := rfl
  obtain ⟨ro', hro'⟩ : ∃ x, x = s.ro + q := ⟨_, rfl⟩
  have x1 : wrap64 ((s.ro : Int) + (q : Int)) = (ro' : Int) := wrapAdd hro' (by omega)
  have hrk : ro' ≤ s.k + q := by omega
  rw [← hro'] at HA
  clear hro' e0
  by_cases hq4 : q = 4
  · rw [if_pos hq4] at hv
    rw [hv] at hrf
    have HE2 : Hid (dataBlockS I E src s = dbT I E src (dbA src s) (dbN src s.k) (dbN src (s.k + 2))) := Lib.hid (by rw [HE.out, if_pos hq4])
    have HQ4 := Lib.hid hq4
    clear hv HE hq4 hD hD1 hD2 hq1 hq2 hk hsm hro
    go_enter Tryd.func22, Tryd.ntmps22
    go_wp2_with fail
    go_region_with (go_at_call 35; go_must (refine Calls.mono hrf ?_; rintro r w3 ⟨rfl, ⟨c3, hD3⟩, f3⟩))
    all_goals clear hrf
    simp only [List.getElem_toArray, List.getElem_cons_succ, List.getElem_cons_zero, Act.put, List.setIfInBounds_toArray, List.set_cons_succ, List.set_cons_zero]
    rename_i K hK
    have f4 : Imp I w w3 := (f2.drew).trans f3
    have c2 := hD3.c_ro
    have z2 := hD3.fz 2
    have hD4 := hD3.set_ro ro' hrk
    have f5 := f4.trans (Imp.setF I w3 2 (.int .i64 (ro' : Int)))
    have hD5 : Dec I E src srcV (w3.setCell ⟨I.F, 2, none⟩ (.int .i64 (ro' : Int))) (c3.setIfInBounds 2 (.int .i64 (ro' : Int))) (dbA src s) := by rw [HA.out]; exact hD4
    have hb0 : ∀ j, j < 4 → (dbA src s).buf.getD j 0 = src.getD (s.k + j) 0 := by
      intro j hj
      rw [HA.out]
      show (fourB src s q).getD j 0 = _
      rw [fourB_get q hj, if_pos (by rw [HQ4.out]; exact hj)]
    have b0 := (hD5.cell 1041).trans (hD5.fc.buf 0 (by decide))
    have b1 := (hD5.cell 1042).trans (hD5.fc.buf 1 (by decide))
    have b2 := (hD5.cell 1043).trans (hD5.fc.buf 2 (by decide))
    have b3 := (hD5.cell 1044).trans (hD5.fc.buf 3 (by decide))
    rw [hb0 0 (by decide)] at b0
    rw [hb0 1 (by decide)] at b1
    rw [hb0 2 (by decide)] at b2
    rw [hb0 3 (by decide)] at b3
    have hx0 := hD5.srcLt (s.k + 0)
    have hx1 := hD5.srcLt (s.k + 1)
    have hx2 := hD5.srcLt (s.k + 2)
    have hx3 := hD5.srcLt (s.k + 3)
    have HN1 : Hid (dbN src s.k = src.getD (s.k + 0) 0 + src.getD (s.k + 1) 0 * 256) := Lib.hid rfl
    have HN2 : Hid (dbN src (s.k + 2) = src.getD (s.k + 2) 0 + src.getD (s.k + 3) 0 * 256) := Lib.hid rfl
    simp only [gotB] at c2
    clear hb0
    generalize src.getD (s.k + 0) 0 = x0 at *
    generalize src.getD (s.k + 1) 0 = x1 at *
    generalize src.getD (s.k + 2) 0 = x2 at *
    generalize src.getD (s.k + 3) 0 = x3 at *
    obtain ⟨v1, v3, n, m, nn, w0, w1, w2, w3', w4, w5, y0, y1, hn, hm, z1, z2, z3, hn16, hbad⟩ := db_arith hx0 hx1 hx2 hx3
    have z4 : IntKind.i64.signed = true := rfl
    have hra : (dbA src s).rd ≤ (dbA src s).wr ∧ (dbA src s).wr < 32768 := by rw [HA.out]; exact ⟨hr, hw⟩
    have HE3 : Hid (dataBlockS I E src s = dbT I E src (dbA src s) n m) := Lib.hid (by rw [HE2.out, HN1.out, HN2.out, hn, hm])
    have har : (dbA src s).ro = ro' := by rw [HA.out]
    have HBAD := Lib.hid hbad
    clear HE2 HN1 HN2 HA HQ3 hrk hn hm hx0 hx1 hx2 hx3 hD3 hD4 f2 f3 f4 hbad
    generalize dbA src s = a at *
    refine hK _ _ ?_
    by_cases hb : n + m = 65535
    · have z5 : ((m : Int) != (nn : Int)) = false := by rw [HBAD.out.1 hb]; simp
      by_cases h0 : n = 0
      · have z6 : ((n : Int) == 0) = true := by rw [h0]; rfl
        have HE4 : Hid (dataBlockS I E src s = finishS I E (outS I a)) := Lib.hid (by rw [HE3.out]; unfold dbT; rw [if_pos hb, if_pos h0])
        clear HE3 hb h0 hn16
        go_wp2_with fail
        go_quiet (fail)
        go_wp2_with fail
        go_quiet (fail)
        go_wp2_with fail
        refine (readFlush_any (hD5.drewN _) (Nat.lt_of_le_of_lt hra.1 hra.2) hra.1).mono ?_; rintro r w8 ⟨rfl, ⟨c8, hD8⟩, f8⟩
        unfold Ids.out
        have z8 := hD8.fz 1049
        have c49 := hD8.c_tr
        have hD9 := hD8.set_tr (I.out a)
        have f9 := ((f5.drewN _).trans f8).trans (Imp.setF I w8 1049 (I.out a))
        have hfin := finishBlock_any (s := outS I a) hD9 (flush_ok hra.2).1 (flush_ok hra.2).2
        have HF := Lib.hid f9
        clear hD8 hD9 f8 f9 f5 hD5
        unfold Ids.out at HF hfin
        go_wp2_with fail
        refine hfin.mono ?_; rintro r w9 ⟨rfl, ⟨c9, hD10⟩, f10⟩
        go_wp2_with fail
        go_returns
        rw [HE4.out]
        exact ⟨rfl, ⟨_, hD10⟩, HF.out.trans f10⟩
      · have z6 : ((n : Int) == 0) = false := beq_eq_false_iff_ne.2 (Int.ofNat_ne_zero.2 h0)
        have HE4 : Hid (dataBlockS I E src s = copyDataS I E src { a with len := n }) := Lib.hid (by rw [HE3.out]; unfold dbT; rw [if_pos hb, if_neg h0])
        have c52 := hD5.c_len
        have z52 := hD5.fz 1052
        have hD6 := hD5.set_len n hn16
        have f6 := f5.trans (Imp.setF I _ 1052 (.int .i64 (n : Int)))
        have HD6 := Lib.hid hD6
        have HF6 := Lib.hid f6
        clear HE3 hb h0 hD6 f6 hD5 f5
        go_wp2_with fail
        go_quiet (fail)
        go_wp2_with fail
        go_quiet (fail)
        go_wp2_with fail
        refine (copyData_any (HD6.out.drewN _) ts hra.2 hra.1).mono ?_; rintro r w8 ⟨rfl, ⟨c8, hD8⟩, f8⟩
        go_wp2_with fail
        go_end0
        rw [HE4.out]
        exact ⟨rfl, ⟨_, hD8⟩, (HF6.out.drewN _).trans f8⟩
    · have z5 : ((m : Int) != (nn : Int)) = true := by
        have : m ≠ nn := fun e => hb (HBAD.out.2 e)
        simp; omega
      have HE4 : Hid (dataBlockS I E src s = { a with err := corV a.ro }) := Lib.hid (by rw [HE3.out]; unfold dbT; rw [if_neg hb])
      have hcv : corV a.ro = corV ro' := by rw [har]
      rw [hcv] at HE4
      have c48 := hD5.c_err
      have z48 := hD5.fz 1048
      have c2' := hD5.c_ro
      have HD6 := Lib.hid hD5
      have HF6 := Lib.hid f5
      rw [har] at c2'
      clear HE3 hb hn16 hD5 f5 hcv
      go_wp2_with fail
      go_quiet (fail)
      go_wp2_with fail
      go_quiet (fail)
      go_wp2_with fail
      go_returns
      rw [HE4.out]
      exact ⟨rfl, ⟨_, (HD6.out.drewN _).set_err (corV ro')⟩, (HF6.out.drewN _).trans (Imp.setF I _ 1048 (corV ro'))⟩
  · rw [if_neg hq4] at hv
    have HE2 : Hid (dataBlockS I E src s = { dbA src s with err := E.uneV }) := Lib.hid (by rw [HE.out, if_neg hq4])
    by_cases hq0 : q = 0
    · rw [if_pos hq0] at hv
      rw [hv] at hrf
      unfold Errs.eofV at hrf
      clear hv HE hq4 hq0 hD hD1 hD2 hq1 hq2 hk hsm hro
      go_enter Tryd.func22, Tryd.ntmps22
      go_wp2_with fail
      go_region_with (go_at_call 35; go_must (refine Calls.mono hrf ?_; rintro r w3 ⟨rfl, ⟨c3, hD3⟩, f3⟩))
      all_goals clear hrf
      simp only [List.getElem_toArray, List.getElem_cons_succ, List.getElem_cons_zero, Act.put, List.setIfInBounds_toArray, List.set_cons_succ, List.set_cons_zero]
      rename_i K hK
      have f4 : Imp I w w3 := (f2.drew).trans f3
      have c2 := hD3.c_ro
      have z2 := hD3.fz 2
      have hD4 := hD3.set_ro ro' hrk
      have f5 := f4.trans (Imp.setF I w3 2 (.int .i64 (ro' : Int)))
      have hD5 : Dec I E src srcV (w3.setCell ⟨I.F, 2, none⟩ (.int .i64 (ro' : Int))) (c3.setIfInBounds 2 (.int .i64 (ro' : Int))) (dbA src s) := by rw [HA.out]; exact hD4
      simp only [gotB] at c2
      have hno := noEOF_eof hD5.gl
      unfold Errs.eofV Errs.uneV at hno
      clear hD3 hD4 f2 f3 f4 HA hrk HQ3
      generalize dbA src s = a at *
      refine hK _ _ ?_
      go_wp2_with fail
      refine hno.mono ?_; rintro r w7 ⟨rfl, rfl⟩
      have z8 := hD5.fz 1048
      have c48 := hD5.c_err
      have hD9 := hD5.set_err (.iface 119 (.pointer (some E.une)))
      have f9 := f5.trans (Imp.setF I _ 1048 (.iface 119 (.pointer (some E.une))))
      have HD := Lib.hid hD9
      have HF := Lib.hid f9
      clear hD5 hD9 f5 f9 hno
      go_wp2_with fail
      go_returns
      rw [HE2.out]
      exact ⟨rfl, ⟨_, HD.out⟩, HF.out⟩
    · rw [if_neg hq0] at hv
      rw [hv] at hrf
      unfold Errs.uneV at hrf
      clear hv HE hq4 hq0 hD hD1 hD2 hq1 hq2 hk hsm hro
      go_enter Tryd.func22, Tryd.ntmps22
      go_wp2_with fail
      go_region_with (go_at_call 35; go_must (refine Calls.mono hrf ?_; rintro r w3 ⟨rfl, ⟨c3, hD3⟩, f3⟩))
      all_goals clear hrf
      simp only [List.getElem_toArray, List.getElem_cons_succ, List.getElem_cons_zero, Act.put, List.setIfInBounds_toArray, List.set_cons_succ, List.set_cons_zero]
      rename_i K hK
      have f4 : Imp I w w3 := (f2.drew).trans f3
      have c2 := hD3.c_ro
      have z2 := hD3.fz 2
      have hD4 := hD3.set_ro ro' hrk
      have f5 := f4.trans (Imp.setF I w3 2 (.int .i64 (ro' : Int)))
      have hD5 : Dec I E src srcV (w3.setCell ⟨I.F, 2, none⟩ (.int .i64 (ro' : Int))) (c3.setIfInBounds 2 (.int .i64 (ro' : Int))) (dbA src s) := by rw [HA.out]; exact hD4
      simp only [gotB] at c2
      have hno := noEOF_une hD5.gl
      unfold Errs.eofV Errs.uneV at hno
      clear hD3 hD4 f2 f3 f4 HA hrk HQ3
      generalize dbA src s = a at *
      refine hK _ _ ?_
      go_wp2_with fail
      refine hno.mono ?_; rintro r w7 ⟨rfl, rfl⟩
      have z8 := hD5.fz 1048
      have c48 := hD5.c_err
      have hD9 := hD5.set_err (.iface 119 (.pointer (some E.une)))
      have f9 := f5.trans (Imp.setF I _ 1048 (.iface 119 (.pointer (some E.une))))
      have HD := Lib.hid hD9
      have HF := Lib.hid f9
      clear hD5 hD9 f5 f9 hno
      go_wp2_with fail
      go_returns
      rw [HE2.out]
      exact ⟨rfl, ⟨_, HD.out⟩, HF.out⟩
end
end Go.Proofs.YtbbnibbdiiffkaaDoor

/- Bits turned about. -/
namespace Go.Proofs.YtbbnibbdiiffkaaDoor
open Go.RowKit

/-- The k lowest bits, the first one last. -/
def rev : Nat → Nat → Nat
  | 0, _ => 0
  | k + 1, x => x % 2 * 2 ^ k + rev k (x / 2)

theorem rev_lt (k x : Nat) : rev k x < 2 ^ k := by
  induction k generalizing x with
  | zero => exact Nat.one_pos
  | succ k ih => have := ih (x / 2); have h2 : x % 2 ≤ 1 := by omega
                 have h3 : x % 2 * 2 ^ k ≤ 1 * 2 ^ k := Nat.mul_le_mul_right _ h2
                 rw [rev, Nat.pow_succ]; omega
def tab8 (B : ByteArray) : Bool := B.size == 256 && (List.range 256).all fun i => (B.data.getD i 0).toNat == rev 8 i
theorem tab8_get {B : ByteArray} (hB : tab8 B = true) (x : Nat) (h : x < B.size) : (B[x]'h).toNat = rev 8 x := by
  unfold tab8 at hB
  rw [Bool.and_eq_true, beq_iff_eq, List.all_eq_true] at hB
  have := hB.2 x (List.mem_range.2 (by rw [← hB.1]; exact h))
  rw [beq_iff_eq] at this
  rw [← this]
  have hd : x < B.data.size := h
  simp only [Array.getD_eq_getD_getElem?, Array.getElem?_eq_getElem hd]
  rfl

section
variable {w : World}
set_option maxRecDepth 100000 in
theorem rev8_any (x : Nat) (hx : x < 256) : Calls Tryd.prog 43 #[u8 x] w fun r w' => r = .returned (u8 (rev 8 x)) ∧ w' = w := by
  have x1 : (x : Int) < 256 := by omega
  have x2 : (0 : Int) ≤ (x : Int) := by omega
  go_enter Tryd.func43, Tryd.ntmps43
  go_wp2_with fail
  go_ret
  refine ⟨?_, rfl⟩
  rw [tab8_get (by kernel_rfl) x]
  rfl
end
end Go.Proofs.YtbbnibbdiiffkaaDoor
