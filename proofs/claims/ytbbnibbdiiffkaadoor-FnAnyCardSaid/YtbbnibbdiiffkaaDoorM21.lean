/- The window is made. A decoder is made. -/
import Derived.Test.YtbbnibbdiiffkaaDoorM13
import Derived.Test.YtbbnibbdiiffkaaDoorM20

/- The window is made. -/
namespace Go.Proofs.YtbbnibbdiiffkaaDoor
open Go.RowKit

def dd0 : List Value := [.slice none 0 0, .int .i64 0, .int .i64 0, .bool false]
theorem built58 : Tryd.prog.built 58 [(0, .slice none 0 0)] = some dd0.toArray := by kernel_rfl
def zeroWin : List Nat := List.replicate 32768 0
theorem mk22 (n : Nat) (hn : n ≤ 100000) (w : World) : (Instr.makeSlice 22 (.int .i64 (n : Int)) (.int .i64 (n : Int))).run Tryd.prog w = .ok (.slice (some ⟨w.heap.size, 0, none⟩) n n) (w.alloc (.cells (bytesA (List.replicate n 0)) 5 (0, 0))) := by
  have h := run_make_row' (P := Tryd.prog) 22 5 (.int .u8 0) 1 (by kernel_rfl) (by kernel_rfl) rfl .i64 .i64 n (by omega) (by omega) w
  have e : madeCells #[Value.int .u8 0] n = bytesA (List.replicate n 0) := by
    apply Array.ext_getElem?
    intro i
    unfold bytesA
    by_cases hi : i < n
    · rw [made_get _ _ _ hi]
      simp [hi, u8]
    · simp [madeCells, hi]
  rw [e] at h
  exact h
/-- What of a dictionary the window holds at first. -/
def winL (dict : List Nat) : List Nat := lastD dict ++ List.replicate (32768 - (lastD dict).length) 0
def wrI (dict : List Nat) : Nat := if (lastD dict).length = 32768 then 0 else (lastD dict).length
theorem lastD_len (dict : List Nat) : (lastD dict).length = Nat.min dict.length 32768 := by
  unfold lastD
  rw [List.length_drop]
  rcases Nat.le_total dict.length 32768 with h | h
  · rw [show Nat.min dict.length 32768 = dict.length from Nat.min_eq_left h]; omega
  · rw [show Nat.min dict.length 32768 = 32768 from Nat.min_eq_right h]; omega
section
variable {w w' wz : World}
/-- The window's cells in a decoder. -/
structure DD (cs : Array Value) (hv : Value) (wr rd : Nat) (full : Bool) : Prop where
  size : cs.size = 1054
  hist : cs[1037]? = some hv
  wr : cs[1038]? = some (.int .i64 wr)
  rd : cs[1039]? = some (.int .i64 rd)
  full : cs[1040]? = some (.bool full)
theorem DD.set_hist {cs : Array Value} {hv v : Value} {wr rd : Nat} {full : Bool} (h : DD cs hv wr rd full) : DD (cs.setIfInBounds 1037 v) v wr rd full := by
  have hs : 1037 < cs.size := by rw [h.size]; decide
  exact ⟨by rw [Array.size_setIfInBounds]; exact h.size, getElem?_set_same _ hs, by rw [getElem?_set_ne _ (by decide)]; exact h.wr, by rw [getElem?_set_ne _ (by decide)]; exact h.rd, by rw [getElem?_set_ne _ (by decide)]; exact h.full⟩
theorem DD.set_wr {cs : Array Value} {hv : Value} {wr rd x : Nat} {full : Bool} (h : DD cs hv wr rd full) : DD (cs.setIfInBounds 1038 (.int .i64 x)) hv x rd full := by
  have hs : 1038 < cs.size := by rw [h.size]; decide
  exact ⟨by rw [Array.size_setIfInBounds]; exact h.size, by rw [getElem?_set_ne _ (by decide)]; exact h.hist, getElem?_set_same _ hs, by rw [getElem?_set_ne _ (by decide)]; exact h.rd, by rw [getElem?_set_ne _ (by decide)]; exact h.full⟩
theorem DD.set_rd {cs : Array Value} {hv : Value} {wr rd x : Nat} {full : Bool} (h : DD cs hv wr rd full) : DD (cs.setIfInBounds 1039 (.int .i64 x)) hv wr x full := by
  have hs : 1039 < cs.size := by rw [h.size]; decide
  exact ⟨by rw [Array.size_setIfInBounds]; exact h.size, by rw [getElem?_set_ne _ (by decide)]; exact h.hist, by rw [getElem?_set_ne _ (by decide)]; exact h.wr, getElem?_set_same _ hs, by rw [getElem?_set_ne _ (by decide)]; exact h.full⟩
theorem DD.set_full {cs : Array Value} {hv : Value} {wr rd : Nat} {full x : Bool} (h : DD cs hv wr rd full) : DD (cs.setIfInBounds 1040 (.bool x)) hv wr rd x := by
  have hs : 1040 < cs.size := by rw [h.size]; decide
  exact ⟨by rw [Array.size_setIfInBounds]; exact h.size, by rw [getElem?_set_ne _ (by decide)]; exact h.hist, by rw [getElem?_set_ne _ (by decide)]; exact h.wr, by rw [getElem?_set_ne _ (by decide)]; exact h.rd, getElem?_set_same _ hs⟩
/-- The window's cells and bytes in memory. -/
structure DW (F D : Nat) (cs0 : Array Value) (w0 w : World) (hv : Value) (wr rd : Nat) (full : Bool) (hist : Option (List Nat)) : Prop where
  ex : ∃ cs, w.heap[F]? = some (.cells cs 63 (0, 0)) ∧ DD cs hv wr rd full ∧ ∀ i, i < 1037 ∨ 1040 < i → cs[i]? = cs0[i]?
  fr : Frm (fun k => k = F) w0 w
  dn : w0.heap.size = D
  fl : F < w0.heap.size
  hs : match hist with
    | none => w.heap.size = D
    | some l => w.heap[D]? = some (.cells (bytesA l) 5 (0, 0))
variable {F D : Nat} {cs0 : Array Value} {w0 : World} {hv : Value} {wr rd : Nat} {full : Bool} {hist : Option (List Nat)}
theorem DW.set (h : DW F D cs0 w0 w hv wr rd full hist) (i : Nat) (hi : 1037 ≤ i ∧ i ≤ 1040) (v hv' : Value) (wr' rd' : Nat) (full' : Bool) (hdd : ∀ cs, DD cs hv wr rd full → DD (cs.setIfInBounds i v) hv' wr' rd' full') : DW F D cs0 w0 (w.setCell ⟨F, i, none⟩ v) hv' wr' rd' full' hist := by
  obtain ⟨cs, q1, q2, q3⟩ := h.ex
  refine ⟨⟨_, heap_setCell_same w F i cs 63 v q1, hdd cs q2, fun j hj => by rw [getElem?_set_ne _ (by omega)]; exact q3 j hj⟩, h.fr.trans (Frm.setCell (S := fun k => k = F) (Frm.refl _ _) rfl v), h.dn, h.fl, ?_⟩
  have h5 := h.hs
  have h6 := h.fl
  have h7 := h.dn
  cases hist with
  | none => simp only [] at h5 ⊢; rw [← h5]; simp
  | some l => simp only [] at h5 ⊢; rw [heap_setCell_other _ _ _ _ (fun e => by have e : D = F := e; omega)]; exact h5
theorem DW.alloc (h : DW F D cs0 w0 w hv wr rd full none) (l : List Nat) : DW F D cs0 w0 (w.alloc (.cells (bytesA l) 5 (0, 0))) hv wr rd full (some l) := by
  obtain ⟨cs, q1, q2, q3⟩ := h.ex
  have h5 : w.heap.size = D   := h.hs
  refine ⟨⟨cs, ?_, q2, q3⟩, h.fr.alloc _, h.dn, h.fl, ?_⟩
  · rw [(Frm.alloc (S := fun _ => False) (Frm.refl _ w) (.cells (bytesA l) 5 (0, 0))).block F (lt_of_block q1) id]; exact q1
  · show (w.alloc _).heap[D]? = _; rw [← h5]; exact heap_alloc_new w _
theorem DW.row {l : List Nat} (h : DW F D cs0 w0 w hv wr rd full (some l)) (l' : List Nat) : DW F D cs0 w0 (w.setRow D (bytesA l')) hv wr rd full (some l') := by
  obtain ⟨cs, q1, q2, q3⟩ := h.ex
  have h5 : w.heap[D]? = some (.cells (bytesA l) 5 (0, 0))   := h.hs
  have h6 := h.fl
  have h7 := h.dn
  refine ⟨⟨cs, by rw [setRow_other _ _ _ _ (by omega)]; exact q1, q2, q3⟩, ?_, h.dn, h.fl, setRow_heap _ _ _ _ _ _ h5⟩
  have hk := Frm.setRow (S := fun k => k = D) (Frm.refl _ w) (g := D) rfl (bytesA l')
  refine ⟨hk.os.trans h.fr.os, hk.tape.trans h.fr.tape, hk.output.trans h.fr.output, Nat.le_trans h.fr.size hk.size, fun k hk1 hk2 => ?_⟩
  rw [hk.block k (Nat.lt_of_lt_of_le hk1 h.fr.size) (by omega), h.fr.block k hk1 hk2]
theorem DW.drewN (h : DW F D cs0 w0 w hv wr rd full hist) (n : Nat) : DW F D cs0 w0 (w.drewN n) hv wr rd full hist := ⟨h.ex, h.fr.drewN n, h.dn, h.fl, h.hs⟩
theorem DW.cells (h : DW F D cs0 w0 w hv wr rd full hist) : w.cell? ⟨F, 1037, none⟩ = some hv ∧ w.cell? ⟨F, 1038, none⟩ = some (.int .i64 wr) ∧ w.cell? ⟨F, 1039, none⟩ = some (.int .i64 rd) ∧ w.cell? ⟨F, 1040, none⟩ = some (.bool full) ∧ ∀ i, w.frozen? ⟨F, i, none⟩ = false := by
  obtain ⟨cs, q1, q2, q3⟩ := h.ex
  exact ⟨by simp [World.cell?, q1, q2.hist], by simp [World.cell?, q1, q2.wr], by simp [World.cell?, q1, q2.rd], by simp [World.cell?, q1, q2.full], fun i => frozen_of_row w F i _ _ q1⟩
/-- What the window's making leaves. -/
def DiPost (F : Nat) (cs0 : Array Value) (w0 : World) (dict : List Nat) (r : Ending) (w' : World) : Prop :=
  r = .returned (.tuple #[]) ∧ DW F w0.heap.size cs0 w0 w' (.slice (some ⟨w0.heap.size, 0, none⟩) 32768 32768) (wrI dict) (wrI dict) (decide ((lastD dict).length = 32768)) (some (winL dict))
set_option maxRecDepth 100000 in
set_option maxHeartbeats 4000000 in
theorem dictNil_any (F : Nat) (cs : Array Value) (hF : w.heap[F]? = some (.cells cs 63 (0, 0))) (hd : DD cs (.slice none 0 0) 0 0 false) :
    Calls Tryd.prog 15 #[.pointer (some ⟨F, 1037, none⟩), .int .i64 32768, .slice none 0 0] w (DiPost F cs w []) := by
  obtain ⟨Dn, hDn⟩ : ∃ D, w.heap.size = D := ⟨_, rfl⟩
  have H0 : DW F Dn cs w w (.slice none 0 0) 0 0 false none := ⟨⟨cs, hF, hd, fun _ _ => rfl⟩, Frm.refl _ _, hDn, lt_of_block hF, hDn⟩
  have hP : Hid (∀ w', DW F Dn cs w w' (.slice (some ⟨Dn, 0, none⟩) 32768 32768) 0 0 false (some zeroWin) → DiPost F cs w [] (.returned (.tuple #[])) w') := Lib.hid (fun w' h => by subst hDn; exact ⟨rfl, h⟩)
  obtain ⟨h1, h2, h3, h4, hfz⟩ := H0.cells
  have z1 := hfz 1037
  have z2 := hfz 1038
  have z3 := hfz 1039
  have z4 := hfz 1040
  have hmk : ∀ w : World, (Instr.makeSlice 22 (.int .i64 32768) (.int .i64 32768)).run Tryd.prog w = .ok (.slice (some ⟨w.heap.size, 0, none⟩) 32768 32768) (w.alloc (.cells (bytesA zeroWin) 5 (0, 0))) := fun w => mk22 32768 (by decide) w
  have hbld : ∀ w : World, (Instr.build 58 #[(0, .slice none 0 0)]).run Tryd.prog w = .ok (.agg dd0.toArray) w := fun w => run_build w 58 #[(0, .slice none 0 0)] _ built58
  generalize DiPost F cs w [] = Post at *
  have H1 := (((H0.set 1037 (by decide) (.slice none 0 0) (.slice none 0 0) 0 0 false (fun _ h => h.set_hist)).set 1038 (by decide) (.int .i64 0) (.slice none 0 0) 0 0 false (fun _ h => h.set_wr (x := 0))).set 1039 (by decide) (.int .i64 0) (.slice none 0 0) 0 0 false (fun _ h => h.set_rd (x := 0))).set 1040 (by decide) (.bool false) (.slice none 0 0) 0 0 false (fun _ h => h.set_full)
  have HH := Lib.hid (And.intro H1 hmk)
  clear H1 hmk H0 hF hd
  go_enter Tryd.func15, Tryd.ntmps15
  go_wp2_with fail
  rw [HH.out.2]
  have H1 := HH.out.1
  have hsz := H1.hs
  simp only [] at hsz
  rw [hsz]
  clear hsz HH h1 h2 h3 h4 z1 z2 z3 z4 hfz hbld hDn
  generalize (((w.setCell _ _).setCell _ _).setCell _ _).setCell _ _ = W4 at *
  have H2 := H1.alloc zeroWin
  generalize W4.alloc _ = W5 at *
  clear H1
  obtain ⟨h1, h2, h3, h4, hfz⟩ := H2.cells
  have z1 := hfz 1037
  have H3 := H2.set 1037 (by decide) (.slice (some ⟨Dn, 0, none⟩) 32768 32768) (.slice (some ⟨Dn, 0, none⟩) 32768 32768) 0 0 false (fun _ h => h.set_hist)
  have H4 := H3.set 1037 (by decide) (.slice (some ⟨Dn, 0, none⟩) 32768 32768) (.slice (some ⟨Dn, 0, none⟩) 32768 32768) 0 0 false (fun _ h => h.set_hist)
  have H5 := H4.set 1038 (by decide) (.int .i64 0) (.slice (some ⟨Dn, 0, none⟩) 32768 32768) 0 0 false (fun _ h => h.set_wr (x := 0))
  have H6 := H5.set 1039 (by decide) (.int .i64 0) (.slice (some ⟨Dn, 0, none⟩) 32768 32768) 0 0 false (fun _ h => h.set_rd (x := 0))
  have k3 := H3.cells.1
  have k4 := H4.cells.1
  have k5 := H5.cells.1
  have k6 := H5.cells.2.1
  have k7 := H4.cells.2.1
  have k8 := H5.cells.2.2.1
  have z3 := H3.cells.2.2.2.2 1037
  have z4 := H4.cells.2.2.2.2 1038
  have z5 := H5.cells.2.2.2.2 1039
  have HH := Lib.hid H6
  clear H2 H3 H4 H5 H6 hfz
  go_wp2_with fail
  rw [run_copy_nil (P := Tryd.prog) _ 22 22 3 5 _ _ _ Tryd.underlying22 (by rw [info5s]; rfl)]
  go_wp2_with fail
  go_quiet (fail)
  go_wp2_with fail
  go_returns
  exact hP.out _ (HH.out.drewN nq)
theorem copy_win {W : World} {Dn X o q c N : Nat} {L : List Nat} (hN : N = 32768) (hY : W.heap[Dn]? = some (.cells (bytesA zeroWin) 5 (0, 0))) (hq : L.length = q) (hq2 : q ≤ N) (hc : ∀ j, j < q → W.cell? ⟨X, o + j, none⟩ = some (u8 (L.getD j 0))) :
    (Builtin.copy_ #[22, 22] 3 #[.slice (some ⟨Dn, 0, none⟩) N N, .slice (some ⟨X, o, none⟩) q c]).run Tryd.prog W = .ok (.int .i64 (q : Int)) (W.setRow Dn (bytesA (L ++ List.replicate (N - q) 0))) := by
  subst hN
  have hlen : (L.map u8).length = q := by rw [List.length_map, hq]
  have hz : (bytesA zeroWin).size = 32768 := by unfold bytesA zeroWin; rw [List.size_toArray, List.length_map, List.length_replicate]
  rw [run_copy_row (P := Tryd.prog) W 22 22 3 5 Dn 0 32768 32768 ⟨X, o, none⟩ q c (bytesA zeroWin) 5 (L.map u8) Tryd.underlying22 info5s hY (by rw [hlen]; exact (Nat.min_eq_left hq2).symm) ?_ (by rw [hlen, hz]; omega) ?_, hlen]
  · congr 2
    unfold bytesA zeroWin
    simp only [List.take_zero, List.nil_append, List.map_append, Nat.zero_add, List.map_replicate, List.drop_replicate]
  · intro j v hj
    rw [List.getElem?_map] at hj
    rcases Nat.lt_or_ge j L.length with h | h
    · rw [List.getElem?_eq_getElem h] at hj
      have ea : (⟨X, o, none⟩ : Addr).add j = ⟨X, o + j, none⟩ := by
        unfold Addr.add
        split
        · rename_i h0; rw [h0]; rfl
        · rfl
      rw [ea, hc j (by omega), List.getD_eq_getElem?_getD, List.getElem?_eq_getElem h]
      exact hj
    · rw [List.getElem?_eq_none h] at hj; cases hj
  · intro v hv
    obtain ⟨x, -, rfl⟩ := List.mem_map.1 hv
    rfl
set_option maxRecDepth 100000 in
set_option maxHeartbeats 4000000 in
theorem dictInit_any (F : Nat) (cs : Array Value) (hF : w.heap[F]? = some (.cells cs 63 (0, 0))) (hd : DD cs (.slice none 0 0) 0 0 false) (X off cap : Nat) (dict : List Nat) (hne : 0 < dict.length) (hsm : dict.length ≤ 65536) (hcap : dict.length ≤ cap)
    (hX : X < w.heap.size) (hXF : X ≠ F) (hc : ∀ j, j < dict.length → w.cell? ⟨X, off + j, none⟩ = some (u8 (dict.getD j 0))) :
    Calls Tryd.prog 15 #[.pointer (some ⟨F, 1037, none⟩), .int .i64 32768, .slice (some ⟨X, off, none⟩) dict.length cap] w (DiPost F cs w dict) := by
  obtain ⟨Dn, hDn⟩ : ∃ D, w.heap.size = D := ⟨_, rfl⟩
  obtain ⟨N, hN⟩ : ∃ N : Nat, N = 32768 := ⟨_, rfl⟩
  have H0 : DW F Dn cs w w (.slice none 0 0) 0 0 false none := ⟨⟨cs, hF, hd, fun _ _ => rfl⟩, Frm.refl _ _, hDn, lt_of_block hF, hDn⟩
  have hP : Hid (∀ w' q full, q = wrI dict → full = decide ((lastD dict).length = 32768) → DW F Dn cs w w' (.slice (some ⟨Dn, 0, none⟩) N N) q q full (some (winL dict)) → DiPost F cs w dict (.returned (.tuple #[])) w') := Lib.hid (fun w' q full e1 e2 h => by rw [e1, e2, ← hDn, hN] at h; exact And.intro rfl h)
  have hC : Hid (∀ W, Frm (fun k => k = F) w W → ∀ j, j < dict.length → W.cell? ⟨X, off + j, none⟩ = some (u8 (dict.getD j 0))) := Lib.hid (fun W hf j hj => by rw [hf.cell hX hXF]; exact hc j hj)
  obtain ⟨h1, h2, h3, h4, hfz⟩ := H0.cells
  have z1 := hfz 1037
  have z2 := hfz 1038
  have z3 := hfz 1039
  have z4 := hfz 1040
  have hmk : ∀ w : World, (Instr.makeSlice 22 (.int .i64 (N : Int)) (.int .i64 (N : Int))).run Tryd.prog w = .ok (.slice (some ⟨w.heap.size, 0, none⟩) N N) (w.alloc (.cells (bytesA zeroWin) 5 (0, 0))) := fun w => by rw [hN]; exact mk22 32768 (by decide) w
  have hbld : ∀ w : World, (Instr.build 58 #[(0, .slice none 0 0)]).run Tryd.prog w = .ok (.agg dd0.toArray) w := fun w => run_build w 58 #[(0, .slice none 0 0)] _ built58
  generalize DiPost F cs w dict = Post at *
  show Calls Tryd.prog 15 #[.pointer (some ⟨F, 1037, none⟩), .int .i64 ((32768 : Nat) : Int), .slice (some ⟨X, off, none⟩) dict.length cap] w Post
  rw [← hN]
  have x1 : 0 < N := by omega
  have HN := Lib.hid hN
  have H1 := (((H0.set 1037 (by decide) (.slice none 0 0) (.slice none 0 0) 0 0 false (fun _ h => h.set_hist)).set 1038 (by decide) (.int .i64 0) (.slice none 0 0) 0 0 false (fun _ h => h.set_wr (x := 0))).set 1039 (by decide) (.int .i64 0) (.slice none 0 0) 0 0 false (fun _ h => h.set_rd (x := 0))).set 1040 (by decide) (.bool false) (.slice none 0 0) 0 0 false (fun _ h => h.set_full)
  have HH := Lib.hid (And.intro H1 hmk)
  have HL := Lib.hid (lastD_len dict)
  have HWI : Hid (wrI dict = if (lastD dict).length = 32768 then 0 else (lastD dict).length) := Lib.hid rfl
  have HG : Hid (∀ k, dict.length = k + (lastD dict).length → ∀ j, j < (lastD dict).length → (lastD dict).getD j 0 = dict.getD (k + j) 0) := Lib.hid (fun k hk j hj => by
    unfold lastD at hk hj ⊢
    rw [List.length_drop] at hk hj
    rw [List.getD_eq_getElem?_getD, List.getElem?_drop, List.getD_eq_getElem?_getD, show dict.length - 32768 + j = k + j by omega])
  have HW : Hid (winL dict = lastD dict ++ List.replicate (32768 - (lastD dict).length) 0) := Lib.hid rfl
  have HB := Lib.hid (And.intro hne (And.intro hsm hcap))
  generalize dict.length = n at *
  clear hN H1 hmk H0 hF hd hc hX hXF hne hsm hcap
  go_enter Tryd.func15, Tryd.ntmps15
  go_wp2_with fail
  rw [HH.out.2]
  have H1 := HH.out.1
  have hsz := H1.hs
  simp only [] at hsz
  rw [hsz]
  clear hsz HH h1 h2 h3 h4 z1 z2 z3 z4 hfz hbld hDn
  generalize (((w.setCell _ _).setCell _ _).setCell _ _).setCell _ _ = W4 at *
  have H2 := H1.alloc zeroWin
  generalize W4.alloc _ = W5 at *
  clear H1
  obtain ⟨h1, h2, h3, h4, hfz⟩ := H2.cells
  have z1 := hfz 1037
  have H3 := H2.set 1037 (by decide) (.slice (some ⟨Dn, 0, none⟩) N N) (.slice (some ⟨Dn, 0, none⟩) N N) 0 0 false (fun _ h => h.set_hist)
  have H4 := H3.set 1037 (by decide) (.slice (some ⟨Dn, 0, none⟩) N N) (.slice (some ⟨Dn, 0, none⟩) N N) 0 0 false (fun _ h => h.set_hist)
  have k3 := H3.cells.1
  have k4 := H4.cells.1
  have z3 := H3.cells.2.2.2.2 1037
  have HC4 := Lib.hid (hC.out _ H4.fr)
  have H5 := H4.row (winL dict)
  have hz4 := H4.hs
  simp only [] at hz4
  have HZ4 := Lib.hid hz4
  clear hC hz4 H2 H3 hfz
  by_cases hbig : N < n
  · obtain ⟨k0, hk0⟩ : ∃ k0, n = k0 + N := ⟨n - N, by omega⟩
    have hln : (lastD dict).length = N := by rw [HL.out, ← HN.out]; exact Nat.min_eq_right (Nat.le_of_lt hbig)
    have HR := Lib.hid (copy_win HN.out (c := cap - k0) (X := X) (o := off + k0) (L := lastD dict) HZ4.out hln (Nat.le_refl _) (fun j hj => by rw [Nat.add_assoc, HC4.out (k0 + j) (by omega), HG.out k0 (by rw [hln]; exact hk0) j (by rw [hln]; exact hj)]))
    rw [show lastD dict ++ List.replicate (N - N) 0 = winL dict by rw [HW.out, hln, HN.out]] at HR
    generalize World.setRow _ Dn (bytesA (winL dict)) = W8 at *
    have HW1 : Hid (0 = wrI dict ∧ true = decide ((lastD dict).length = 32768)) := Lib.hid ⟨by rw [HWI.out, if_pos (hln.trans HN.out)], by rw [hln, HN.out]; rfl⟩
    have hnc := HB.out.2.2
    have hn6 := HB.out.2.1
    have y1 : (N : Int) < (n : Int) := by omega
    have y2 : (n : Int) - (N : Int) = (k0 : Int) := by omega
    have y3 : (k0 : Int) ≤ (n : Int) := by omega
    have y4 : (n : Int) ≤ (cap : Int) := by omega
    have y5 : ¬ cap = k0 := by omega
    have y6 : n - k0 = N := by omega
    have y7 : k0 ≤ 65536 := by omega
    have y8 : (k0 : Int) ≤ (cap : Int) := by omega
    clear hbig hk0 hln hnc hn6 HL HG HC4 HZ4 HWI HB
    have H6 := H5.set 1038 (by decide) (.int .i64 (N : Int)) (.slice (some ⟨Dn, 0, none⟩) N N) N 0 false (fun _ h => h.set_wr (x := N))
    have k5 := H5.cells.1
    have k6 := H5.cells.2.1
    have k7 := H6.cells.2.1
    have k9 := H6.cells.1
    have z5 := H5.cells.2.2.2.2 1038
    have HH6 := Lib.hid H6
    clear H4 H5 H6
    go_wp2_with fail
    rw [HR.out]
    go_wp2_with fail
    go_quiet (fail)
    have H6 := HH6.out.drewN nq
    clear HH6 HR k3 k4 k5 k6 k7 k9 z1 z3 z5 h1 h2 h3 h4
    generalize World.drewN _ nq = W9 at *
    have H7 := H6.set 1038 (by decide) (.int .i64 0) (.slice (some ⟨Dn, 0, none⟩) N N) 0 0 false (fun _ h => h.set_wr (x := 0))
    have H8 := H7.set 1040 (by decide) (.bool true) (.slice (some ⟨Dn, 0, none⟩) N N) 0 0 true (fun _ h => h.set_full)
    have H9 := H8.set 1039 (by decide) (.int .i64 0) (.slice (some ⟨Dn, 0, none⟩) N N) 0 0 true (fun _ h => h.set_rd (x := 0))
    have k6 := H6.cells.2.1
    have k10 := H7.cells.2.2.2.1
    have k11 := H8.cells.2.1
    have k12 := H8.cells.2.2.1
    have z6 := H6.cells.2.2.2.2 1038
    have z7 := H7.cells.2.2.2.2 1040
    have z8 := H8.cells.2.2.2.2 1039
    have HH := Lib.hid H9
    clear H6 H7 H8 H9
    go_wp2_with fail
    go_returns
    exact hP.out _ 0 true HW1.out.1 HW1.out.2 HH.out
  · have hln : (lastD dict).length = n := by rw [HL.out, ← HN.out]; exact Nat.min_eq_left (by omega)
    have HR := Lib.hid (copy_win HN.out (c := cap) (X := X) (o := off) (L := lastD dict) HZ4.out hln (by omega) (fun j hj => by rw [HC4.out j hj, HG.out 0 (by rw [hln]; omega) j (by rw [hln]; exact hj), Nat.zero_add]))
    rw [show lastD dict ++ List.replicate (N - n) 0 = winL dict by rw [HW.out, hln, HN.out]] at HR
    generalize World.setRow _ Dn (bytesA (winL dict)) = W8 at *
    by_cases h32 : n = N
    · have h33 := h32.symm
      subst h33
      have HW1 : Hid (0 = wrI dict ∧ true = decide ((lastD dict).length = 32768)) := Lib.hid ⟨by rw [HWI.out, if_pos (hln.trans HN.out)], by rw [hln, HN.out]; rfl⟩
      clear hbig hln HL HG HC4 HZ4 HWI HB
      have H6 := H5.set 1038 (by decide) (.int .i64 (N : Int)) (.slice (some ⟨Dn, 0, none⟩) N N) N 0 false (fun _ h => h.set_wr (x := N))
      have k5 := H5.cells.1
      have k6 := H5.cells.2.1
      have k7 := H6.cells.2.1
      have k9 := H6.cells.1
      have z5 := H5.cells.2.2.2.2 1038
      have HH6 := Lib.hid H6
      clear H4 H5 H6
      go_wp2_with fail
      rw [HR.out]
      go_wp2_with fail
      go_quiet (fail)
      have H6 := HH6.out.drewN nq
      clear HH6 HR k3 k4 k5 k6 k7 k9 z1 z3 z5 h1 h2 h3 h4
      generalize World.drewN _ nq = W9 at *
      have H7 := H6.set 1038 (by decide) (.int .i64 0) (.slice (some ⟨Dn, 0, none⟩) N N) 0 0 false (fun _ h => h.set_wr (x := 0))
      have H8 := H7.set 1040 (by decide) (.bool true) (.slice (some ⟨Dn, 0, none⟩) N N) 0 0 true (fun _ h => h.set_full)
      have H9 := H8.set 1039 (by decide) (.int .i64 0) (.slice (some ⟨Dn, 0, none⟩) N N) 0 0 true (fun _ h => h.set_rd (x := 0))
      have k6 := H6.cells.2.1
      have k10 := H7.cells.2.2.2.1
      have k11 := H8.cells.2.1
      have k12 := H8.cells.2.2.1
      have z6 := H6.cells.2.2.2.2 1038
      have z7 := H7.cells.2.2.2.2 1040
      have z8 := H8.cells.2.2.2.2 1039
      have HH := Lib.hid H9
      clear H6 H7 H8 H9
      go_wp2_with fail
      go_returns
      exact hP.out _ 0 true HW1.out.1 HW1.out.2 HH.out
    · have HW1 : Hid (n = wrI dict ∧ false = decide ((lastD dict).length = 32768)) := Lib.hid ⟨by rw [HWI.out, if_neg (by rw [hln, ← HN.out]; exact h32), hln], by rw [hln, ← HN.out]; exact (decide_eq_false h32).symm⟩
      have y1 : ¬ (N : Int) < (n : Int) := by omega
      have y2 : ((n : Int) == (N : Int)) = false := beq_eq_false_iff_ne.2 (by omega)
      clear hbig h32 hln HL HG HC4 HZ4 HWI HB
      have H6 := H5.set 1038 (by decide) (.int .i64 (n : Int)) (.slice (some ⟨Dn, 0, none⟩) N N) n 0 false (fun _ h => h.set_wr (x := n))
      have H7 := H6.set 1039 (by decide) (.int .i64 (n : Int)) (.slice (some ⟨Dn, 0, none⟩) N N) n n false (fun _ h => h.set_rd (x := n))
      have k5 := H5.cells.1
      have k6 := H5.cells.2.1
      have k7 := H6.cells.2.1
      have k8 := H6.cells.2.2.1
      have k9 := H6.cells.1
      have z5 := H5.cells.2.2.2.2 1038
      have z6 := H6.cells.2.2.2.2 1039
      have HH := Lib.hid H7
      clear H4 H5 H6 H7
      go_wp2_with fail
      rw [HR.out]
      go_wp2_with fail
      go_quiet (fail)
      go_wp2_with fail
      go_returns
      exact hP.out _ n false HW1.out.1 HW1.out.2 (HH.out.drewN nq)
end
end Go.Proofs.YtbbnibbdiiffkaaDoor

/- A decoder is made. -/
namespace Go.Proofs.YtbbnibbdiiffkaaDoor
open Go.RowKit

noncomputable def zAt (i : Nat) : Value := Tryd.zeroCells63.getD i undef
/-- The zero value of a decoder, behind its tables. -/
noncomputable def zTail : List Value := [zAt 1035, zAt 1036, .slice none 0 0, .int .i64 0, .int .i64 0, .bool false, u8 0, u8 0, u8 0, u8 0, zAt 1045, .int .i64 0, .bool false, .nilIface, .slice none 0 0, .pointer none, .pointer none, .int .i64 0, .int .i64 0]
noncomputable def zHead : List Value := [zAt 0, zAt 1, .int .i64 0, .int .u32 0, .int .u64 0]
theorem zero63 : Tryd.zeroCells63.toList = zHead ++ (hdZ ++ (hdZ ++ zTail)) := by kernel_rfl
theorem zero65 : Tryd.zeroCells65 = intsA (List.replicate 316 0) := by kernel_rfl
theorem z63_size : Tryd.zeroCells63.size = 1054 := by kernel_rfl
theorem z63_at (i : Nat) : Tryd.zeroCells63[i]? = (zHead ++ (hdZ ++ (hdZ ++ zTail)))[i]? := by rw [← zero63, Array.getElem?_toList]
theorem z63_head {i : Nat} (h : i < 5) : Tryd.zeroCells63[i]? = zHead[i]? := by rw [z63_at, List.getElem?_append_left h]
set_option maxRecDepth 100000 in
theorem z63_h1 {j : Nat} (h : j < 515) : Tryd.zeroCells63[5 + j]? = hdZ[j]? := by
  rw [z63_at, List.getElem?_append_right (Nat.le_add_right 5 j), show 5 + j - zHead.length = j from Nat.add_sub_cancel_left 5 j, List.getElem?_append_left (by rw [hdZ_len]; exact h)]
set_option maxRecDepth 100000 in
theorem z63_h2 {j : Nat} (h : j < 515) : Tryd.zeroCells63[520 + j]? = hdZ[j]? := by
  have e1 : zHead.length = 5 := rfl
  rw [z63_at, List.getElem?_append_right (by rw [e1]; omega), List.getElem?_append_right (by rw [e1, hdZ_len]; omega), List.getElem?_append_left (by rw [e1, hdZ_len]; omega), e1, hdZ_len]
  congr 1; omega
set_option maxRecDepth 100000 in
theorem z63_tail {j : Nat} : Tryd.zeroCells63[1035 + j]? = zTail[j]? := by
  have e1 : zHead.length = 5 := rfl
  rw [z63_at, List.getElem?_append_right (by rw [e1]; omega), List.getElem?_append_right (by rw [e1, hdZ_len]; omega), List.getElem?_append_right (by rw [e1, hdZ_len]; omega), e1, hdZ_len]
  congr 1; omega
theorem hd0_len : hd0.ch.getD 0 0 = 0 := hd0_get 0
set_option maxRecDepth 100000 in
theorem z63_hdc (o : Nat) (cs : Array Value) (h : ∀ j, j < 515 → cs[o + j]? = hdZ[j]?) : HDC cs o hd0 (.slice none 0 0) := by
  refine ⟨h 0 (by decide), fun j hj => ?_, ?_, ?_⟩
  · rw [hd0_get, Nat.add_assoc, Nat.add_comm 1 j, h (j + 1) (by omega)]; exact hdZn_mid 512 j hj
  · rw [h 513 (by decide)]; exact hdZn_lv 512
  · rw [h 514 (by decide)]; exact hdZn_mask 512

/-- A decoder at first. -/
def ds0 (dict : List Nat) : DS :=
  { k := 0, ro := 0, b := 0, nb := 0, wr := wrI dict, rd := wrI dict, full := decide ((lastD dict).length = 32768), step := stepV 14, st := 0, final := false, err := .nilIface, tr := .slice none 0 0, hl := .pointer none, hd := .pointer none, len := 0, dist := 0,
    h1 := hd0, l1 := .slice none 0 0, h2 := hd0, l2 := .slice none 0 0, hx := hd0, bits := List.replicate 316 0, cb := List.replicate 19 0, hist := winL dict, buf := [0, 0, 0, 0] }
theorem ds0_wr (dict : List Nat) : (ds0 dict).wr = wrI dict := by simp only [ds0]
theorem ds0_rd (dict : List Nat) : (ds0 dict).rd = wrI dict := by simp only [ds0]
theorem ds0_full (dict : List Nat) : (ds0 dict).full = decide ((lastD dict).length = 32768) := by simp only [ds0]
section
variable {w w' wz : World}
theorem cell_of {W : World} {F i : Nat} {cs : Array Value} (h : W.heap[F]? = some (.cells cs 63 (0, 0))) (hs : cs.size = 1054) (hi : i < 1054) : ∃ v, W.cell? ⟨F, i, none⟩ = some v :=
  ⟨_, by simp only [World.cell?, h]; exact Array.getElem?_eq_getElem (by omega)⟩
/-- What the making of a decoder leaves; F is the first free block. -/
def NrPost (E : Errs) (src : List Nat) (srcV : Value) (lo R : Nat) (dict : List Nat) (w : World) (r : Ending) (w' : World) : Prop :=
  r = .returned (.iface 67 (.pointer (some ⟨w.heap.size, 0, none⟩))) ∧ New w w' ∧ ∃ cs, Dec ⟨w.heap.size, R, w.heap.size + 3, w.heap.size + 1, w.heap.size + 2, lo⟩ E src srcV w' cs (ds0 dict)
theorem winL_len (dict : List Nat) : (winL dict).length = 32768 := by
  unfold winL
  have h := lastD_len dict
  have : Nat.min dict.length 32768 ≤ 32768 := Nat.min_le_right _ _
  rw [List.length_append, List.length_replicate]; omega
/-- The cells of a decoder that has all but its window. -/
structure Pre (F R : Nat) (cs : Array Value) : Prop where
  size : cs.size = 1054
  r : cs[0]? = some (.iface 29 (.pointer (some ⟨R, 0, none⟩)))
  pb : cs[1035]? = some (.pointer (some ⟨F + 1, 0, none⟩))
  pc : cs[1036]? = some (.pointer (some ⟨F + 2, 0, none⟩))
  step : cs[1045]? = some (stepV 14)
  oth : ∀ i, i ≠ 0 → i ≠ 1 → i ≠ 1035 → i ≠ 1036 → i ≠ 1045 → cs[i]? = Tryd.zeroCells63[i]?
set_option maxRecDepth 100000 in
theorem Pre.fc {F R lo : Nat} {cs cs' : Array Value} {dict : List Nat} (h : Pre F R cs) (hd : DD cs' (.slice (some ⟨F + 3, 0, none⟩) 32768 32768) (wrI dict) (wrI dict) (decide ((lastD dict).length = 32768))) (ho : ∀ i, i < 1037 ∨ 1040 < i → cs'[i]? = cs[i]?) : FC cs' ⟨F, R, F + 3, F + 1, F + 2, lo⟩ (ds0 dict) := by
  have g : ∀ i, (i < 1037 ∨ 1040 < i) → i ≠ 0 → i ≠ 1 → i ≠ 1035 → i ≠ 1036 → i ≠ 1045 → cs'[i]? = Tryd.zeroCells63[i]? := fun i q a b c d e => (ho i q).trans (h.oth i a b c d e)
  have t : ∀ j, (1035 + j < 1037 ∨ 1040 < 1035 + j) → 1035 + j ≠ 1035 → 1035 + j ≠ 1036 → 1035 + j ≠ 1045 → cs'[1035 + j]? = zTail[j]? := fun j q c d e => (g (1035 + j) q (by omega) (by omega) c d e).trans z63_tail
  have b11 : cs'[1046]? = some (.int .i64 0) := t 11 (by omega) (by omega) (by omega) (by omega)
  have b12 : cs'[1047]? = some (.bool false) := t 12 (by omega) (by omega) (by omega) (by omega)
  have b13 : cs'[1048]? = some (.nilIface) := t 13 (by omega) (by omega) (by omega) (by omega)
  have b14 : cs'[1049]? = some (.slice none 0 0) := t 14 (by omega) (by omega) (by omega) (by omega)
  have b15 : cs'[1050]? = some (.pointer none) := t 15 (by omega) (by omega) (by omega) (by omega)
  have b16 : cs'[1051]? = some (.pointer none) := t 16 (by omega) (by omega) (by omega) (by omega)
  have b17 : cs'[1052]? = some (.int .i64 0) := t 17 (by omega) (by omega) (by omega) (by omega)
  have b18 : cs'[1053]? = some (.int .i64 0) := t 18 (by omega) (by omega) (by omega) (by omega)
  have c1 : cs'[1038]? = some (.int .i64 ((ds0 dict).wr : Nat)) := by rw [ds0_wr]; exact hd.wr
  have c2 : cs'[1039]? = some (.int .i64 ((ds0 dict).rd : Nat)) := by rw [ds0_rd]; exact hd.rd
  have c3 : cs'[1040]? = some (.bool (ds0 dict).full) := by rw [ds0_full]; exact hd.full
  have a1 : HDC cs' 5 hd0 (.slice none 0 0) := by
    refine z63_hdc 5 cs' fun j hj => ?_
    rw [g (5 + j) (by omega) (by omega) (by omega) (by omega) (by omega) (by omega)]
    exact z63_h1 hj
  have a2 : HDC cs' 520 hd0 (.slice none 0 0) := by
    refine z63_hdc 520 cs' fun j hj => ?_
    rw [g (520 + j) (by omega) (by omega) (by omega) (by omega) (by omega) (by omega)]
    exact z63_h2 hj
  refine ⟨hd.size, (ho 0 (by decide)).trans h.r, (ho 1035 (by decide)).trans h.pb, (ho 1036 (by decide)).trans h.pc, hd.hist, (g 2 (by decide) (by decide) (by decide) (by decide) (by decide) (by decide)).trans (z63_head (i := 2) (by decide)), (g 3 (by decide) (by decide) (by decide) (by decide) (by decide) (by decide)).trans (z63_head (i := 3) (by decide)), (g 4 (by decide) (by decide) (by decide) (by decide) (by decide) (by decide)).trans (z63_head (i := 4) (by decide)),
    c1, c2, c3, (ho 1045 (by decide)).trans h.step, b11, b12, b13, b14, b15, b16, b17, b18,
    a1, a2, fun j hj => ?_⟩
  rw [show 1041 + j = 1035 + (j + 6) by omega, t (j + 6) (by omega) (by omega) (by omega) (by omega)]
  rcases (show j = 0 ∨ j = 1 ∨ j = 2 ∨ j = 3 by omega) with rfl | rfl | rfl | rfl <;> rfl
/-- The source as it lies ahead of a decoder's making. -/
structure Src0 (E : Errs) (src : List Nat) (srcV : Value) (lo R : Nat) (w : World) : Prop where
  bR : ∃ pr, w.heap[R]? = some (.cells #[srcV, .int .i64 0, pr] 43 (0, 0))
  rd : Rd w srcV src
  ne : ∀ b off n c, srcV = .slice (some ⟨b, off, none⟩) n c → b ≠ R ∧ b < w.heap.size
  gl : GL E lo w
  loR : lo ≤ R
  low : lo ≤ w.heap.size
  small : src.length ≤ 100000
  bytes : ∀ x ∈ src, x < 256
theorem Frm.newF {F : Nat} {a b c : World} (h : New a b) (k : Frm (fun k => k = F) b c) (hF : a.heap.size ≤ F) : New a c :=
  ⟨k.os.trans h.os, k.tape.trans h.tape, k.output.trans h.output, Nat.le_trans h.size k.size, fun j hj _ => by rw [k.block j (Nat.lt_of_lt_of_le hj h.size) (by omega), h.block j hj id]⟩
set_option maxRecDepth 100000 in
theorem nr_fin {E : Errs} {src : List Nat} {srcV : Value} {lo R F : Nat} {dict : List Nat} {w0 : World} {cs : Array Value} (hS : Src0 E src srcV lo R w) (hF : w.heap.size = F) (hn : New w w0) (hs : w0.heap.size = F + 3) (hp : Pre F R cs)
    (hB : w0.heap[F + 1]? = some (.cells (intsA (List.replicate 316 0)) 65 (0, 0))) (hC : w0.heap[F + 2]? = some (.cells (intsA (List.replicate 19 0)) 66 (0, 0)))
    (hW : DW F (F + 3) cs w0 w' (.slice (some ⟨F + 3, 0, none⟩) 32768 32768) (wrI dict) (wrI dict) (decide ((lastD dict).length = 32768)) (some (winL dict))) : NrPost E src srcV lo R dict w (.returned (.iface 67 (.pointer (some ⟨w.heap.size, 0, none⟩)))) w' := by
  obtain ⟨cs', q1, q2, q3⟩ := hW.ex
  have hn' : New w w' := Frm.newF hn hW.fr (Nat.le_of_eq hF)
  obtain ⟨pr, hR⟩ := hS.bR
  have hRl := lt_of_block hR
  have fc := hp.fc (lo := lo) q2 q3
  have hl := hS.low
  have hlR := hS.loR
  have hlen := winL_len dict
  have hwr : wrI dict ≤ 32768 := by
    unfold wrI
    have h := lastD_len dict
    have : Nat.min dict.length 32768 ≤ 32768 := Nat.min_le_right _ _
    split <;> omega
  refine ⟨rfl, hn', cs', ?_⟩
  rw [hF]
  refine ⟨q1, fc, ⟨pr, ?_⟩, hW.hs, ?_, ?_, hS.rd.frm hn' (fun b off n c e => id), ?_, hS.gl.frm hn' (fun k e => e.elim), ?_, .inl ⟨rfl, none, 0, rfl⟩, .inl ⟨rfl, none, 0, rfl⟩, ?_, hlen, ?_, ?_, Nat.zero_le _, hS.small, hS.bytes, by show (0 : Nat) < 2 ^ 32; decide, Nat.zero_le _, Nat.le_refl _, by rw [ds0_wr]; exact hwr, by rw [ds0_rd]; exact hwr, Nat.zero_le _, Nat.zero_le _⟩
  · rw [hn'.block R hRl id]; exact hR
  · rw [hW.fr.block (F + 1) (by omega) (by omega)]; exact hB
  · rw [hW.fr.block (F + 2) (by omega) (by omega)]; exact hC
  · rintro b off n c e (h | h | h | h | h)
    · have h : b = F := h
      have := (hS.ne b off n c e).2; omega
    · exact (hS.ne b off n c e).1 h
    · have h : b = F + 3 := h
      have := (hS.ne b off n c e).2; omega
    · have h : b = F + 1 := h
      have := (hS.ne b off n c e).2; omega
    · have h : b = F + 2 := h
      have := (hS.ne b off n c e).2; omega
  · exact ⟨by show lo ≤ F; omega, hlR, by show lo ≤ F + 3; omega, by show lo ≤ F + 1; omega, by show lo ≤ F + 2; omega, by show F ≠ R; omega, by show F ≠ F + 3; omega, by show F ≠ F + 1; omega, by show F ≠ F + 2; omega, by show R ≠ F + 3; omega, by show R ≠ F + 1; omega, by show R ≠ F + 2; omega, by show F + 3 ≠ F + 1; omega, by show F + 3 ≠ F + 2; omega, by show F + 1 ≠ F + 2; omega⟩
  · intro X hX; cases hX
  · exact List.length_replicate
  · exact List.length_replicate
/-- The world ahead of the window's making. -/
noncomputable def nrW (F : Nat) (w1 : World) : World :=
  ((((w1.setCell ⟨F, 1035, none⟩ (.pointer (some ⟨F + 1, 0, none⟩))).setCell ⟨F, 1036, none⟩ (.pointer (some ⟨F + 1 + 1, 0, none⟩))).setCell ⟨F, 1045, none⟩ (.func (.func 14) #[] #[])).alloc (.cells Tryd.zeroCells65 65)).alloc (.cells (intsA (List.replicate 19 0)) 66)
set_option maxRecDepth 100000 in
theorem nr_pre {F R : Nat} {w1 : World} {cs1 : Array Value} (h1 : w1.heap[F]? = some (.cells cs1 63 (0, 0))) (hcs : cs1 = (Tryd.zeroCells63.setIfInBounds 1 (.pointer none)).setIfInBounds 0 (.iface 29 (.pointer (some ⟨R, 0, none⟩))))
    (hn : New w w1) (hF : w.heap.size = F) (hs : w1.heap.size = F + 1) :
    ∃ cs, (nrW F w1).heap[F]? = some (.cells cs 63 (0, 0)) ∧ Pre F R cs ∧ DD cs (.slice none 0 0) 0 0 false ∧ New w (nrW F w1) ∧ (nrW F w1).heap.size = F + 3 ∧ (nrW F w1).heap[F + 1]? = some (.cells (intsA (List.replicate 316 0)) 65 (0, 0)) ∧ (nrW F w1).heap[F + 2]? = some (.cells (intsA (List.replicate 19 0)) 66 (0, 0)) := by
  have g2 := heap_setCell_same w1 F 1035 cs1 63 (.pointer (some ⟨F + 1, 0, none⟩)) h1
  have g3 := heap_setCell_same _ F 1036 _ 63 (.pointer (some ⟨F + 1 + 1, 0, none⟩)) g2
  have g4 := heap_setCell_same _ F 1045 _ 63 (.func (.func 14) #[] #[]) g3
  have f4 : Frm (fun k => k = F) w1 (((w1.setCell ⟨F, 1035, none⟩ (.pointer (some ⟨F + 1, 0, none⟩))).setCell ⟨F, 1036, none⟩ (.pointer (some ⟨F + 1 + 1, 0, none⟩))).setCell ⟨F, 1045, none⟩ (.func (.func 14) #[] #[])) :=
    ((Frm.setCell (S := fun k => k = F) (Frm.refl _ _) (p := ⟨F, 1035, none⟩) rfl _).setCell (p := ⟨F, 1036, none⟩) rfl _).setCell (p := ⟨F, 1045, none⟩) rfl _
  have s4 : (((w1.setCell ⟨F, 1035, none⟩ (.pointer (some ⟨F + 1, 0, none⟩))).setCell ⟨F, 1036, none⟩ (.pointer (some ⟨F + 1 + 1, 0, none⟩))).setCell ⟨F, 1045, none⟩ (.func (.func 14) #[] #[])).heap.size = F + 1 := by simp [hs]
  have n4 := Frm.newF hn f4 (Nat.le_of_eq hF)
  unfold nrW
  generalize ((w1.setCell ⟨F, 1035, none⟩ (.pointer (some ⟨F + 1, 0, none⟩))).setCell ⟨F, 1036, none⟩ (.pointer (some ⟨F + 1 + 1, 0, none⟩))).setCell ⟨F, 1045, none⟩ (.func (.func 14) #[] #[]) = w4 at *
  rw [zero65]
  have a5 := (Frm.refl (fun _ => False) w4).alloc (.cells (intsA (List.replicate 316 0)) 65)
  have s5 : (w4.alloc (.cells (intsA (List.replicate 316 0)) 65)).heap.size = F + 2 := by simp [s4]
  have b5 : (w4.alloc (.cells (intsA (List.replicate 316 0)) 65)).heap[F + 1]? = some (.cells (intsA (List.replicate 316 0)) 65 (0, 0)) := by rw [← s4]; exact heap_alloc_new w4 _
  have g5 := g4
  rw [← a5.block F (lt_of_block g4) id] at g5
  have n5 := n4.alloc (.cells (intsA (List.replicate 316 0)) 65)
  generalize w4.alloc (.cells (intsA (List.replicate 316 0)) 65) = w5 at *
  have a6 := (Frm.refl (fun _ => False) w5).alloc (.cells (intsA (List.replicate 19 0)) 66)
  have s6 : (w5.alloc (.cells (intsA (List.replicate 19 0)) 66)).heap.size = F + 3 := by simp [s5]
  have b6 : (w5.alloc (.cells (intsA (List.replicate 19 0)) 66)).heap[F + 2]? = some (.cells (intsA (List.replicate 19 0)) 66 (0, 0)) := by rw [← s5]; exact heap_alloc_new w5 _
  have z : 1054 = cs1.size := by rw [hcs, Array.size_setIfInBounds, Array.size_setIfInBounds]; exact z63_size.symm
  have o1 : ∀ i, i ≠ 0 → i ≠ 1 → cs1[i]? = Tryd.zeroCells63[i]? := fun i p q => by rw [hcs, getElem?_set_ne _ (Ne.symm p), getElem?_set_ne _ (Ne.symm q)]
  have o0 : cs1[0]? = some (.iface 29 (.pointer (some ⟨R, 0, none⟩))) := by rw [hcs]; exact getElem?_set_same _ (by rw [Array.size_setIfInBounds, z63_size]; decide)
  refine ⟨_, by rw [a6.block F (lt_of_block g5) id]; exact g5, ⟨?_, ?_, ?_, ?_, ?_, ?_⟩, ⟨?_, ?_, ?_, ?_, ?_⟩, n5.alloc _, s6, by rw [a6.block (F + 1) (lt_of_block b5) id]; exact b5, b6⟩
  · simp only [Array.size_setIfInBounds]; exact z.symm
  · rw [getElem?_set_ne _ (by decide), getElem?_set_ne _ (by decide), getElem?_set_ne _ (by decide)]; exact o0
  · rw [getElem?_set_ne _ (by decide), getElem?_set_ne _ (by decide)]; exact getElem?_set_same _ (by omega)
  · rw [getElem?_set_ne _ (by decide)]; exact getElem?_set_same _ (by rw [Array.size_setIfInBounds]; omega)
  · exact getElem?_set_same _ (by rw [Array.size_setIfInBounds, Array.size_setIfInBounds]; omega)
  · intro i p0 p1 p2 p3 p4
    rw [getElem?_set_ne _ (Ne.symm p4), getElem?_set_ne _ (Ne.symm p3), getElem?_set_ne _ (Ne.symm p2)]; exact o1 i p0 p1
  · simp only [Array.size_setIfInBounds]; exact z.symm
  · rw [getElem?_set_ne _ (by decide), getElem?_set_ne _ (by decide), getElem?_set_ne _ (by decide), o1 1037 (by decide) (by decide)]; exact z63_tail (j := 2)
  · rw [getElem?_set_ne _ (by decide), getElem?_set_ne _ (by decide), getElem?_set_ne _ (by decide), o1 1038 (by decide) (by decide)]; exact z63_tail (j := 3)
  · rw [getElem?_set_ne _ (by decide), getElem?_set_ne _ (by decide), getElem?_set_ne _ (by decide), o1 1039 (by decide) (by decide)]; exact z63_tail (j := 4)
  · rw [getElem?_set_ne _ (by decide), getElem?_set_ne _ (by decide), getElem?_set_ne _ (by decide), o1 1040 (by decide) (by decide)]; exact z63_tail (j := 5)
set_option maxRecDepth 100000 in
set_option maxHeartbeats 4000000 in
theorem newReader_any {E : Errs} {src : List Nat} {srcV : Value} {lo R : Nat} (hS : Src0 E src srcV lo R w) :
    Calls Tryd.prog 8 #[.iface 29 (.pointer (some ⟨R, 0, none⟩))] w (NrPost E src srcV lo R [] w) := by
  obtain ⟨F, hF⟩ : ∃ F, w.heap.size = F := ⟨_, rfl⟩
  have hA : (w.alloc (.cells Tryd.zeroCells63 63)).heap[F]? = some (.cells Tryd.zeroCells63 63 (0, 0)) := by rw [← hF]; exact heap_alloc_new w _
  have hmk := makeReader_any F R Tryd.zeroCells63 hA z63_size
  have HS := Lib.hid (And.intro hS hF)
  have hsz : (w.alloc (.cells Tryd.zeroCells63 63)).heap.size = F + 1 := by rw [← hF]; simp
  have hn0 : New w (w.alloc (.cells Tryd.zeroCells63 63)) := (Frm.refl _ w).alloc _
  generalize hP : NrPost E src srcV lo R [] w = Post at *
  have HP := Lib.hid hP
  clear hP
  go_enter Tryd.func8, Tryd.ntmps8
  go_wp2_with fail
  refine hmk.mono ?_
  rintro r w1 ⟨rfl, hw1⟩
  have hs1 : w1.heap.size = F + 1 := by rw [hw1]; simp [hsz]
  have h1 := heap_setCell_same _ F 0 _ 63 (.iface 29 (.pointer (some ⟨R, 0, none⟩))) (heap_setCell_same _ F 1 _ 63 (.pointer none) hA)
  rw [← hw1] at h1
  have hn1 : New w w1 := by
    rw [hw1]
    exact Frm.newF (F := F) hn0 ((Frm.setCell (S := fun k => k = F) (Frm.refl _ _) (p := ⟨F, 1, none⟩) rfl _).trans (Frm.setCell (S := fun k => k = F) (Frm.refl _ _) (p := ⟨F, 0, none⟩) rfl _)) (Nat.le_of_eq hF)
  clear hw1 hmk hA hsz hn0
  obtain ⟨cs1, hcs1⟩ : ∃ cs1, cs1 = (Tryd.zeroCells63.setIfInBounds 1 (.pointer none)).setIfInBounds 0 (.iface 29 (.pointer (some ⟨R, 0, none⟩))) := ⟨_, rfl⟩
  rw [← hcs1] at h1
  have hz1 : cs1.size = 1054 := by rw [hcs1, Array.size_setIfInBounds, Array.size_setIfInBounds]; exact z63_size
  obtain ⟨v35, c35⟩ := cell_of (i := 1035) h1 hz1 (by decide)
  obtain ⟨v36, c36⟩ := cell_of (i := 1036) h1 hz1 (by decide)
  obtain ⟨v45, c45⟩ := cell_of (i := 1045) h1 hz1 (by decide)
  have z35 := frozen_of_row _ F 1035 _ _ h1
  have z36 := frozen_of_row _ F 1036 _ _ h1
  have z45 := frozen_of_row _ F 1045 _ _ h1
  have HH := Lib.hid (And.intro hcs1 (And.intro h1 (And.intro hn1 hz1)))
  clear hcs1 h1 hn1 hz1
  go_wp2_with fail
  obtain ⟨cs4, q1, q2, q3, q4, q5, q6, q7⟩ := nr_pre HH.out.2.1 HH.out.1 HH.out.2.2.1 HS.out.2 hs1
  have hdi := dictNil_any F cs4 q1 q3
  have hnr : ∀ r w', DiPost F cs4 (nrW F w1) [] r w' → r = .returned (.tuple #[]) ∧ Post (.returned (.iface 67 (.pointer (some ⟨F, 0, none⟩)))) w' := fun r w' hd => by
    refine ⟨hd.1, ?_⟩
    have hd2 := hd.2
    rw [q5] at hd2
    have := nr_fin HS.out.1 HS.out.2 q4 q5 q2 q6 q7 hd2
    rw [HP.out, HS.out.2] at this
    exact this
  have HNR := Lib.hid hnr
  clear q1 q2 q3 q4 q5 q6 q7 hnr HH c35 c36 c45 z35 z36 z45 hs1
  unfold nrW at hdi
  refine hdi.mono ?_
  intro r w2 hd
  obtain ⟨rfl, hpost⟩ := HNR.out r w2 hd
  clear hd hdi
  go_wp2_with fail
  first
  | exact hpost
  | (go_ret; exact hpost)
set_option maxRecDepth 100000 in
set_option maxHeartbeats 4000000 in
theorem newReaderDict_any {E : Errs} {src : List Nat} {srcV : Value} {lo R : Nat} (hS : Src0 E src srcV lo R w) (X off cap : Nat) (dict : List Nat) (hne : 0 < dict.length) (hsm : dict.length ≤ 65536) (hcap : dict.length ≤ cap) (hX : X < w.heap.size) (hc : ∀ j, j < dict.length → w.cell? ⟨X, off + j, none⟩ = some (u8 (dict.getD j 0))) :
    Calls Tryd.prog 9 #[.iface 29 (.pointer (some ⟨R, 0, none⟩)), .slice (some ⟨X, off, none⟩) dict.length cap] w (NrPost E src srcV lo R dict w) := by
  obtain ⟨F, hF⟩ : ∃ F, w.heap.size = F := ⟨_, rfl⟩
  have hA : (w.alloc (.cells Tryd.zeroCells63 63)).heap[F]? = some (.cells Tryd.zeroCells63 63 (0, 0)) := by rw [← hF]; exact heap_alloc_new w _
  have hmk := makeReader_any F R Tryd.zeroCells63 hA z63_size
  have HS := Lib.hid (And.intro hS hF)
  have HD := Lib.hid (And.intro hne (And.intro hsm (And.intro hcap (And.intro hX hc))))
  clear hne hsm hcap hc
  have hsz : (w.alloc (.cells Tryd.zeroCells63 63)).heap.size = F + 1 := by rw [← hF]; simp
  have hn0 : New w (w.alloc (.cells Tryd.zeroCells63 63)) := (Frm.refl _ w).alloc _
  generalize hP : NrPost E src srcV lo R dict w = Post at *
  have HP := Lib.hid hP
  clear hP
  go_enter Tryd.func9, Tryd.ntmps9
  go_wp2_with fail
  refine hmk.mono ?_
  rintro r w1 ⟨rfl, hw1⟩
  have hs1 : w1.heap.size = F + 1 := by rw [hw1]; simp [hsz]
  have h1 := heap_setCell_same _ F 0 _ 63 (.iface 29 (.pointer (some ⟨R, 0, none⟩))) (heap_setCell_same _ F 1 _ 63 (.pointer none) hA)
  rw [← hw1] at h1
  have hn1 : New w w1 := by
    rw [hw1]
    exact Frm.newF (F := F) hn0 ((Frm.setCell (S := fun k => k = F) (Frm.refl _ _) (p := ⟨F, 1, none⟩) rfl _).trans (Frm.setCell (S := fun k => k = F) (Frm.refl _ _) (p := ⟨F, 0, none⟩) rfl _)) (Nat.le_of_eq hF)
  clear hw1 hmk hA hsz hn0
  obtain ⟨cs1, hcs1⟩ : ∃ cs1, cs1 = (Tryd.zeroCells63.setIfInBounds 1 (.pointer none)).setIfInBounds 0 (.iface 29 (.pointer (some ⟨R, 0, none⟩))) := ⟨_, rfl⟩
  rw [← hcs1] at h1
  have hz1 : cs1.size = 1054 := by rw [hcs1, Array.size_setIfInBounds, Array.size_setIfInBounds]; exact z63_size
  obtain ⟨v35, c35⟩ := cell_of (i := 1035) h1 hz1 (by decide)
  obtain ⟨v36, c36⟩ := cell_of (i := 1036) h1 hz1 (by decide)
  obtain ⟨v45, c45⟩ := cell_of (i := 1045) h1 hz1 (by decide)
  have z35 := frozen_of_row _ F 1035 _ _ h1
  have z36 := frozen_of_row _ F 1036 _ _ h1
  have z45 := frozen_of_row _ F 1045 _ _ h1
  have HH := Lib.hid (And.intro hcs1 (And.intro h1 (And.intro hn1 hz1)))
  clear hcs1 h1 hn1 hz1
  go_wp2_with fail
  obtain ⟨cs4, q1, q2, q3, q4, q5, q6, q7⟩ := nr_pre HH.out.2.1 HH.out.1 HH.out.2.2.1 HS.out.2 hs1
  obtain ⟨hne, hsm, hcap, hX, hc⟩ := HD.out
  have hdi := dictInit_any F cs4 q1 q3 X off cap dict hne hsm hcap (by rw [q5]; have := HS.out.2; omega) (by have := HS.out.2; omega) (fun j hj => by rw [q4.cell hX id]; exact hc j hj)
  have hnr : ∀ r w', DiPost F cs4 (nrW F w1) dict r w' → r = .returned (.tuple #[]) ∧ Post (.returned (.iface 67 (.pointer (some ⟨F, 0, none⟩)))) w' := fun r w' hd => by
    refine ⟨hd.1, ?_⟩
    have hd2 := hd.2
    rw [q5] at hd2
    have := nr_fin HS.out.1 HS.out.2 q4 q5 q2 q6 q7 hd2
    rw [HP.out, HS.out.2] at this
    exact this
  have HNR := Lib.hid hnr
  clear hne hsm hcap hX hc q1 q2 q3 q4 q5 q6 q7 hnr HH c35 c36 c45 z35 z36 z45 hs1
  unfold nrW at hdi
  refine hdi.mono ?_
  intro r w2 hd
  obtain ⟨rfl, hpost⟩ := HNR.out r w2 hd
  clear hd hdi
  go_wp2_with fail
  first
  | exact hpost
  | (go_ret; exact hpost)
end
end Go.Proofs.YtbbnibbdiiffkaaDoor
