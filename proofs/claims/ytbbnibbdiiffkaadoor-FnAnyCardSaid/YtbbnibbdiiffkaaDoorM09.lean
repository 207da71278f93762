/- bytes.Reader's Read, and ReadFull over it. -/
import Derived.Test.YtbbnibbdiiffkaaDoorM06
import Derived.Test.YtbbnibbdiiffkaaDoorM07

/- bytes.Reader's Read, and ReadFull over it. -/
namespace Go.Proofs.YtbbnibbdiiffkaaDoor
open Go.RowKit

section
variable {E : Errs} {src : List Nat} {srcV : Value} {w w' : World}
/-- A reader of bytes lies in block R, k bytes read; its source lies in no block of those that may turn. -/
structure Rdr (E : Errs) (R g : Nat) (src : List Nat) (srcV : Value) (w : World) (k : Nat) : Prop where
  bR : ∃ pr, w.heap[R]? = some (.cells #[srcV, .int .i64 k, pr] 43 (0, 0))
  bS : Rd w srcV src
  ts : Tidy srcV
  own : ∀ b off n c, srcV = .slice (some ⟨b, off, none⟩) n c → b ≠ R ∧ b ≠ g
  ne : g ≠ R
  kle : k ≤ src.length
  small : src.length ≤ 100000
  g0 : w.cell? ⟨0, 0, none⟩ = some E.eofV
  R0 : R ≠ 0
  G0 : g ≠ 0
def Two (R g : Nat) (w w' : World) : Prop := Frm (fun k => k = R ∨ k = g) w w'
theorem Rdr.keep {R g k : Nat} (h : Rdr E R g src srcV w k) (hf : Two R g w w') (k' : Nat) (hk : k' ≤ src.length) (hR : ∃ pr, w'.heap[R]? = some (.cells #[srcV, .int .i64 k', pr] 43 (0, 0))) : Rdr E R g src srcV w' k' := by
  refine ⟨hR, h.bS.frm hf fun b off n c e hs => ?_, h.ts, h.own, h.ne, hk, h.small, ?_, h.R0, h.G0⟩
  · rcases hs with hs | hs
    · exact (h.own b off n c e).1 hs
    · exact (h.own b off n c e).2 hs
  · have hz := h.g0
    have : (0 : Nat) < w.heap.size := by
      rcases Nat.lt_or_ge 0 w.heap.size with q | q
      · exact q
      · simp [World.cell?, Array.getElem?_eq_none q] at hz
    rw [World.cell?_of_block (hf.block 0 this (by rintro (q | q); exact h.R0 q.symm; exact h.G0 q.symm))]; exact hz

/-- The row, as the model lays it. -/
def rowOver (row : Array Value) (off : Nat) (c : List Nat) : Array Value := (row.toList.take off ++ (c.map u8 ++ row.toList.drop (off + (c.map u8).length))).toArray

theorem cut_cells {b so k q : Nat} (hs : ∀ j, j < src.length → w.cell? ⟨b, so + j, none⟩ = some (u8 (src.getD j 0))) (hkq : k + q ≤ src.length) :
    ∀ j v, (((src.drop k).take q).map u8)[j]? = some v → w.cell? ((⟨b, so + k, none⟩ : Addr).add j) = some v := by
  intro j v hv
  have hcl : ((src.drop k).take q).length = q := cut_len hkq
  rw [List.getElem?_map] at hv
  rcases Nat.lt_or_ge j q with hj | hj
  · rw [List.getElem?_eq_getElem (by omega)] at hv
    cases hv
    have := hs (k + j) (by omega)
    rw [show (⟨b, so + k, none⟩ : Addr).add j = ⟨b, so + (k + j), none⟩ by simp [Addr.add, Nat.add_assoc], this, ← cut_getD hj, List.getD_eq_getElem?_getD, List.getElem?_eq_getElem (by omega)]
    rfl
  · rw [List.getElem?_eq_none (by omega)] at hv; cases hv

set_option maxRecDepth 100000 in
set_option maxHeartbeats 2000000 in
theorem readEof_any {R g k : Nat} (h : Rdr E R g src srcV w k) (hk : ¬ k < src.length) (v : Value) :
    Calls Tryd.prog 81 #[.pointer (some ⟨R, 0, none⟩), v] w fun r w' => r = .returned (.tuple #[vi 0, E.eofV]) ∧ Rdr E R g src srcV w' k ∧ Two R g w w' ∧ w'.heap = w.heap := by
  obtain ⟨pr, hR⟩ := h.bR
  obtain ⟨a, cap, hsv, hcd⟩ := h.bS
  subst hsv
  have c0 : w.cell? ⟨R, 0, none⟩ = some (.slice a src.length cap) := by simp [World.cell?, hR]
  have c1 : w.cell? ⟨R, 1, none⟩ = some (.int .i64 k) := by simp [World.cell?, hR]
  have g0 := h.g0
  have d1 : (k : Int) ≥ src.length := by omega
  have hsm := h.small
  go_enter Tryd.func81, Tryd.ntmps81
  go_wp2_with fail
  go_quiet (fail)
  go_wp2_with fail
  go_quiet (fail)
  go_wp2_with fail
  go_ret2
  refine ⟨rfl, h.keep ?_ k h.kle ⟨pr, hR⟩, ?_, rfl⟩
  · exact ((Frm.refl _ w).drewN _).drewN _
  · exact ((Frm.refl _ w).drewN _).drewN _

set_option maxRecDepth 100000 in
set_option maxHeartbeats 2000000 in
theorem read_any {R g k : Nat} (h : Rdr E R g src srcV w k) (hk : k < src.length) (off n cap : Nat) (row : Array Value) (t : TypeId) (hg : w.heap[g]? = some (.cells row t (0, 0))) (hfit : off + n ≤ row.size) (q : Nat) (hq : q = Nat.min (src.length - k) n) :
    Calls Tryd.prog 81 #[.pointer (some ⟨R, 0, none⟩), .slice (some ⟨g, off, none⟩) n cap] w fun r w' => r = .returned (.tuple #[vi q, .nilIface]) ∧ Rdr E R g src srcV w' (k + q) ∧ Two R g w w' ∧
      w'.heap[g]? = some (.cells (rowOver row off ((src.drop k).take q)) t (0, 0)) := by
  obtain ⟨pr, hR⟩ := h.bR
  obtain ⟨a, scap, hsv, hcd⟩ := h.bS
  subst hsv
  obtain ⟨b, so, rfl, hb, -⟩ := hcd k hk
  have hlc := (h.ts _ _ _ rfl).1
  have c0 : w.cell? ⟨R, 0, none⟩ = some (.slice (some ⟨b, so, none⟩) src.length scap) := by simp [World.cell?, hR]
  have c1 : w.cell? ⟨R, 1, none⟩ = some (.int .i64 k) := by simp [World.cell?, hR]
  have c2 : w.cell? ⟨R, 2, none⟩ = some pr := by simp [World.cell?, hR]
  have z1 : w.frozen? ⟨R, 1, none⟩ = false := frozen_of_row w R 1 _ _ hR
  have z2 : w.frozen? ⟨R, 2, none⟩ = false := frozen_of_row w R 2 _ _ hR
  have d1 : ¬ (k : Int) ≥ src.length := by omega
  have d2 : ¬ src.length ≤ k := by omega
  have hsm := h.small
  have hqn : q ≤ n := by rw [hq]; exact Nat.min_le_right _ _
  have hqk : q ≤ src.length - k := by rw [hq]; exact Nat.min_le_left _ _
  have hne := h.own _ _ _ _ rfl
  have hkq : k + q ≤ src.length := by omega
  have hcl : ((src.drop k).take q).length = q := cut_len (by omega)
  have y1 : (0 : Int) ≤ (k : Int) := by omega
  have y2 : (k : Int) ≤ (src.length : Int) := by omega
  have y3 : ¬ scap = k := by omega
  have y4 : ¬ scap - k = 0 := by omega
  have y5 : wrap64 ((k : Int) + (q : Int)) = ((k + q : Nat) : Int) := by unfold wrap64; omega
  have y6 : (src.length : Int) ≤ (scap : Int) := by omega
  go_enter Tryd.func81, Tryd.ntmps81
  go_wp2_with fail
  go_quiet (fail)
  go_wp2_with fail
  generalize hA : (w.drewN nq).setCell ⟨R, 2, none⟩ (.int .i64 (-1)) = wA
  have fA : Two R g w wA := by rw [← hA]; exact Frm.setCell ((Frm.refl _ w).drewN _) (.inl rfl) _
  have hhR : wA.heap[R]? = some (.cells #[.slice (some ⟨b, so, none⟩) src.length scap, .int .i64 k, .int .i64 (-1)] 43 (0, 0)) := by
    rw [← hA, heap_setCell_same (w.drewN nq) R 2 _ 43 _ hR]; simp
  have hhg : wA.heap[g]? = some (.cells row t (0, 0)) := by rw [← hA, heap_setCell_other _ _ _ _ (fun e => h.ne e)]; exact hg
  have hsA : ∀ j, j < src.length → wA.cell? ⟨b, so + j, none⟩ = some (u8 (src.getD j 0)) := by
    intro j hj
    obtain ⟨b', o', e1, e2, e3⟩ := hcd j hj
    cases e1
    have hbk : wA.heap[b]? = w.heap[b]? := by rw [← hA]; exact heap_setCell_other (w.drewN nq) ⟨R, 2, none⟩ b _ (fun e => hne.1 e)
    exact (World.cell?_of_block (a := ⟨b, so + j, none⟩) hbk).trans e3
  clear hA
  have e0 : wA.cell? ⟨R, 0, none⟩ = some (.slice (some ⟨b, so, none⟩) src.length scap) := by simp [World.cell?, hhR]
  have e1 : wA.cell? ⟨R, 1, none⟩ = some (.int .i64 k) := by simp [World.cell?, hhR]
  have G1 : wA.drew.heap[g]? = some (.cells row t (0, 0)) := hhg
  have G3 : ∀ j v, (((src.drop k).take q).map u8)[j]? = some v → wA.drew.cell? ((⟨b, so + k, none⟩ : Addr).add j) = some v := cut_cells (w := wA.drew) hsA hkq
  have f3 : Two R g w (wA.drew.setRow g (rowOver row off ((src.drop k).take q))) := Frm.setRow fA.drew (.inr rfl) _
  have HhR : (wA.drew.setRow g (rowOver row off ((src.drop k).take q))).heap[R]? = some (.cells #[.slice (some ⟨b, so, none⟩) src.length scap, .int .i64 k, .int .i64 (-1)] 43 (0, 0)) := by
    rw [setRow_other _ _ _ _ (Ne.symm h.ne)]; exact hhR
  have Hhg : (wA.drew.setRow g (rowOver row off ((src.drop k).take q))).heap[g]? = some (.cells (rowOver row off ((src.drop k).take q)) t (0, 0)) := setRow_heap _ _ _ _ _ _ G1
  generalize hcc : (src.drop k).take q = c at *
  have G2 : (c.map u8).length = Nat.min (src.length - k) n := by rw [List.length_map, hcl, hq]
  have G4 : off + (c.map u8).length ≤ row.size := by rw [List.length_map, hcl]; omega
  have G5 := u8s_one c
  have G7 : (goInt (c.map u8).length) = .int .i64 (q : Int) := by rw [List.length_map, hcl]; rfl
  have H1 := Lib.hid G1
  have H2 := Lib.hid G2
  have H3 := Lib.hid G3
  have H4 := Lib.hid G4
  have H5 := Lib.hid G5
  have H7 := Lib.hid G7
  have hZ : ∃ wZ, wZ = wA.drew.setRow g (rowOver row off c) := ⟨_, rfl⟩
  obtain ⟨wZ, hZ⟩ := hZ
  rw [← hZ] at f3 HhR Hhg
  have a1 : wZ.cell? ⟨R, 1, none⟩ = some (.int .i64 k) := by simp [World.cell?, HhR]
  have az : wZ.frozen? ⟨R, 1, none⟩ = false := frozen_of_row wZ R 1 _ _ HhR
  have HZ := Lib.hid hZ
  have fF : Two R g w (wZ.setCell ⟨R, 1, none⟩ (.int .i64 ((k + q : Nat) : Int))) := Frm.setCell f3 (.inl rfl) _
  have hFR : (wZ.setCell ⟨R, 1, none⟩ (.int .i64 ((k + q : Nat) : Int))).heap[R]? = some (.cells #[.slice (some ⟨b, so, none⟩) src.length scap, .int .i64 ((k + q : Nat) : Int), .int .i64 (-1)] 43 (0, 0)) := by
    rw [heap_setCell_same wZ R 1 _ 43 _ HhR]; simp
  have hFg : (wZ.setCell ⟨R, 1, none⟩ (.int .i64 ((k + q : Nat) : Int))).heap[g]? = some (.cells (rowOver row off c) t (0, 0)) := by
    rw [heap_setCell_other _ _ _ _ (fun e => h.ne e)]; exact Hhg
  have FIN := Lib.hid (And.intro (h.keep fF (k + q) hkq ⟨_, hFR⟩) (And.intro fF hFg))
  clear fF hFR hFg
  have HF3 := Lib.hid f3
  have HHR := Lib.hid HhR
  have HHG := Lib.hid Hhg
  have HRD := Lib.hid h
  rw [Int.natCast_add] at FIN
  have HCC := Lib.hid hcc
  clear G1 G2 G3 G4 G5 G7 hcl hcc hZ hhR hhg hsA hcd hq f3 HhR Hhg fA h hR hg c0 c1 c2 z1 z2 hne
  go_region_law (refine step_copy_row rfl (.tmp 20) (.tmp 29) 22 22 rfl 5 Tryd.underlying22 info5s g off n cap ⟨b, so + k, none⟩ (src.length - k) (scap - k) (by simp [Act.eval, Act.put]) (by simp [Act.eval, Act.put]) _ t H1.out _ H2.out H3.out H4.out H5.out (.int .i64 (q : Int)) H7.out (rowOver row off c) rfl ?_; rw [← HZ.out])
  all_goals simp only [List.getElem_toArray, List.getElem_cons_succ, List.getElem_cons_zero, Act.put, List.setIfInBounds_toArray, List.set_cons_succ, List.set_cons_zero]
  all_goals clear e0 e1 HRD HZ HF3 HHR HHG H1 H2 H3 H4 H5 H7
  all_goals rename_i K hK
  all_goals refine hK _ _ ?_
  all_goals go_wp2_with fail
  all_goals go_ret2
  all_goals have hcc := HCC.out
  all_goals subst hcc
  all_goals exact ⟨rfl, FIN.out⟩
end
end Go.Proofs.YtbbnibbdiiffkaaDoor
