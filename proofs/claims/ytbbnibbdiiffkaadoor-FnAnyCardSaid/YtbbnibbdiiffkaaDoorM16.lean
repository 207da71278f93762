/- The table of the fixed codes. The decoder with a table made anew, and with a length stored. The head of a block with codes of its own: what the decoder's reading of it comes to. The head of a block with codes of its own: bits that are waited for. Printed by tools/gen_need.py. The head of a block with codes of its own: the lengths of the code length codes. -/
import Derived.Test.YtbbnibbdiiffkaaDoorM15

/- The table of the fixed codes. -/
namespace Go.Proofs.YtbbnibbdiiffkaaDoor
open Go.RowKit

def fixTo (i n : Nat) : Nat := if n < i then fixN n else 0
theorem fixTo_succ (i n : Nat) (x : Nat) (hx : fixN i = x) : (if n = i then x else fixTo i n) = fixTo (i + 1) n := by
  unfold fixTo
  by_cases e : n = i
  · subst e; rw [if_pos rfl, if_pos (Nat.lt_succ_self n), hx]
  · rw [if_neg e]
    by_cases h : n < i
    · rw [if_pos h, if_pos (by omega)]
    · rw [if_neg h, if_neg (by omega)]
def zL (n : Nat) : List Value := List.replicate n (vi 0)
theorem zero95 : Tryd.zeroCells95 = (zL 288).toArray := by kernel_rfl
theorem zL_get (n j : Nat) (h : j < n) : (zL n).toArray[j]? = some (vi 0) := by
  unfold zL; rw [List.getElem?_toArray, List.getElem?_replicate, if_pos h]
theorem arr288 (w : World) : Arr (w.alloc (.cells Tryd.zeroCells95 95)) w.heap.size 95 288 (fun _ => 0) := by
  refine ⟨_, heap_alloc_new w _, ?_, fun n hn => ?_⟩
  · rw [zero95]; unfold zL; rw [List.size_toArray, List.length_replicate]
  · rw [zero95]; exact zL_get 288 n hn

theorem New.step {S : Nat → Prop} {a b c : World} (h : New a b) (k : Frm S b c) (hS : ∀ k, S k → a.heap.size ≤ k) : New a c :=
  ⟨k.os.trans h.os, k.tape.trans h.tape, k.output.trans h.output, Nat.le_trans h.size k.size,
    fun i hi hs => (k.block i (Nat.lt_of_lt_of_le hi h.size) (fun hk => by have := hS i hk; omega)).trans (h.block i hi hs)⟩
theorem hdc_zero : HDC Tryd.zeroCells54 0 hd0 (.slice none 0 0) := by
  have hg : ∀ i, Tryd.zeroCells54[i]? = hdZ[i]? := fun i => by rw [← zero54, Array.getElem?_toList]
  refine ⟨?_, fun j hj => ?_, ?_, ?_⟩
  · rw [hg]; rfl
  · rw [hg, hd0_get, show 0 + 1 + j = j + 1 by omega]; exact hdZn_mid 512 j hj
  · rw [hg]; exact hdZn_lv 512
  · rw [hg]; exact hdZn_mask 512
theorem size54 : Tryd.zeroCells54.size = 515 := by rw [← Array.length_toList, zero54, hdZ_len]
theorem fixLit_len : fixLit.length = 288 := by unfold fixLit; rw [List.length_map, List.length_range]
theorem fixLit_get (j : Nat) (h : j < 288) : fixLit.getD j 0 = fixN j := by
  unfold fixLit; rw [List.getD_eq_getElem?_getD, List.getElem?_map, List.getElem?_range h]; rfl
theorem fixLit_le : ∀ x ∈ fixLit, x ≤ 15 := by
  intro x hx
  unfold fixLit at hx
  obtain ⟨i, -, rfl⟩ := List.mem_map.1 hx
  unfold fixN; split
  · decide
  · split <;> decide
theorem Arr.rd {w : World} {b t N : Nat} {f : Nat → Nat} (h : Arr w b t N f) (l : List Nat) (hl : l.length = N) (hf : ∀ j, j < N → f j = l.getD j 0) (cap : Nat) : RdN w (.slice (some ⟨b, 0, none⟩) N cap) l := by
  refine ⟨some ⟨b, 0, none⟩, cap, by rw [hl], fun j hj => ⟨b, 0, rfl, ?_, ?_⟩⟩
  · obtain ⟨cs, h1, -⟩ := h
    exact lt_of_block h1
  · rw [Nat.zero_add, h.cell j (by omega), hf j (by omega)]

set_option maxRecDepth 100000 in
set_option maxHeartbeats 4000000 in
theorem fixedDec_any (w : World) :
    Calls Tryd.prog 23 #[] w fun r w' => ∃ X cs lv, r = .returned (.pointer (some ⟨X, 0, none⟩)) ∧ w.heap.size ≤ X ∧ New w w' ∧ w'.heap[X]? = some (.cells cs 54 (0, 0)) ∧ HDC cs 0 (initH fixLit).2 lv ∧ LinksAt w' lv (initH fixLit).2.links := by
  have hA0 := arr288 w
  have hn0 := (Frm.refl (fun _ => False) w).alloc (.cells Tryd.zeroCells95 95)
  have hs0 : (w.alloc (.cells Tryd.zeroCells95 95)).heap.size = w.heap.size + 1 := by simp
  go_enter Tryd.func23, Tryd.ntmps23
  go_wp2_with fail
  generalize World.alloc _ _ = w0 at *
  generalize hH : w.heap.size = H at *
  have HH := Lib.hid hH
  clear hH
  go_loopw [2] (fun iv wr => ∃ k, 0 ≤ k ∧ k ≤ 144 ∧ iv = vi k ∧ Arr wr H 95 288 (fixTo k) ∧ New w wr ∧ wr.heap.size = H + 1) (fun iv _ => 144 - (intOf iv).toNat)
  case atStart => exact ⟨0, Nat.le_refl _, by decide, rfl, hA0.congr (fun n _ => by unfold fixTo; rw [if_neg (Nat.not_lt_zero n)]), hn0, hs0⟩
  case round =>
    clear hA0 hn0 hs0 w0
    obtain ⟨k, hk1, hk2, rfl, hA, hn, hs⟩ := hrel
    by_cases hlt : k < 144
    · have y1 : (k : Int) < 144 := by omega
      have y2 : (k : Int) < 288 := by omega
      have y3 : (0 : Int) ≤ (k : Int) := by omega
      have YK := Lib.hid (wrap_succ (k := k) (n := 144) hlt (by omega))
      have cA := hA.cell k (by omega)
      have zA := hA.fz k
      have hA2 : Arr (wr.setCell ⟨H, k, none⟩ (.int .i64 8)) H 95 288 (fixTo (k + 1)) := (hA.set k 8).congr (fun n _ => fixTo_succ k n 8 (by unfold fixN; repeat (first | rw [if_pos (by omega)] | rw [if_neg (by omega)])))
      have hn2 := Frm.store hn (p := ⟨H, k, none⟩) (by rw [HH.out]; exact Nat.le_refl _) (.int .i64 8)
      have hs2 : (wr.setCell ⟨H, k, none⟩ (.int .i64 8)).heap.size = H + 1 := by simp [hs]
      have HA2 := Lib.hid hA2
      have HN2 := Lib.hid hn2
      have HS2 := Lib.hid hs2
      clear hA hn hs hA2 hn2 hs2
      go_wp2_with fail
      go_roundw
      case rel => exact ⟨k + 1, by omega, hlt, by first | rfl | exact YK.out, HA2.out, HN2.out, HS2.out⟩
      case measure => refine meas_step ?_ hlt; first | rfl | exact YK.out
    · obtain rfl : k = 144 := by omega
      have y1 : ¬ (((144 : Nat) : Int) < 144) := by decide
      go_wp2_with fail
      go_loopw [3] (fun iv wr => ∃ k, 144 ≤ k ∧ k ≤ 256 ∧ iv = vi k ∧ Arr wr H 95 288 (fixTo k) ∧ New w wr ∧ wr.heap.size = H + 1) (fun iv _ => 256 - (intOf iv).toNat)
      case atStart => exact ⟨144, Nat.le_refl _, by decide, rfl, hA, hn, hs⟩
      case round =>
        clear hA hn hs
        obtain ⟨k, hk1, hk2, rfl, hA, hn, hs⟩ := hrel
        by_cases hlt : k < 256
        · have y1 : (k : Int) < 256 := by omega
          have y2 : (k : Int) < 288 := by omega
          have y3 : (0 : Int) ≤ (k : Int) := by omega
          have YK := Lib.hid (wrap_succ (k := k) (n := 256) hlt (by omega))
          have cA := hA.cell k (by omega)
          have zA := hA.fz k
          have hA2 : Arr (wr.setCell ⟨H, k, none⟩ (.int .i64 9)) H 95 288 (fixTo (k + 1)) := (hA.set k 9).congr (fun n _ => fixTo_succ k n 9 (by unfold fixN; repeat (first | rw [if_pos (by omega)] | rw [if_neg (by omega)])))
          have hn2 := Frm.store hn (p := ⟨H, k, none⟩) (by rw [HH.out]; exact Nat.le_refl _) (.int .i64 9)
          have hs2 : (wr.setCell ⟨H, k, none⟩ (.int .i64 9)).heap.size = H + 1 := by simp [hs]
          have HA2 := Lib.hid hA2
          have HN2 := Lib.hid hn2
          have HS2 := Lib.hid hs2
          clear hA hn hs hA2 hn2 hs2
          go_wp2_with fail
          go_roundw
          case rel => exact ⟨k + 1, by omega, hlt, by first | rfl | exact YK.out, HA2.out, HN2.out, HS2.out⟩
          case measure => refine meas_step ?_ hlt; first | rfl | exact YK.out
        · obtain rfl : k = 256 := by omega
          have y1 : ¬ (((256 : Nat) : Int) < 256) := by decide
          go_wp2_with fail
          go_loopw [4] (fun iv wr => ∃ k, 256 ≤ k ∧ k ≤ 280 ∧ iv = vi k ∧ Arr wr H 95 288 (fixTo k) ∧ New w wr ∧ wr.heap.size = H + 1) (fun iv _ => 280 - (intOf iv).toNat)
          case atStart => exact ⟨256, Nat.le_refl _, by decide, rfl, hA, hn, hs⟩
          case round =>
            clear hA hn hs
            obtain ⟨k, hk1, hk2, rfl, hA, hn, hs⟩ := hrel
            by_cases hlt : k < 280
            · have y1 : (k : Int) < 280 := by omega
              have y2 : (k : Int) < 288 := by omega
              have y3 : (0 : Int) ≤ (k : Int) := by omega
              have YK := Lib.hid (wrap_succ (k := k) (n := 280) hlt (by omega))
              have cA := hA.cell k (by omega)
              have zA := hA.fz k
              have hA2 : Arr (wr.setCell ⟨H, k, none⟩ (.int .i64 7)) H 95 288 (fixTo (k + 1)) := (hA.set k 7).congr (fun n _ => fixTo_succ k n 7 (by unfold fixN; repeat (first | rw [if_pos (by omega)] | rw [if_neg (by omega)])))
              have hn2 := Frm.store hn (p := ⟨H, k, none⟩) (by rw [HH.out]; exact Nat.le_refl _) (.int .i64 7)
              have hs2 : (wr.setCell ⟨H, k, none⟩ (.int .i64 7)).heap.size = H + 1 := by simp [hs]
              have HA2 := Lib.hid hA2
              have HN2 := Lib.hid hn2
              have HS2 := Lib.hid hs2
              clear hA hn hs hA2 hn2 hs2
              go_wp2_with fail
              go_roundw
              case rel => exact ⟨k + 1, by omega, hlt, by first | rfl | exact YK.out, HA2.out, HN2.out, HS2.out⟩
              case measure => refine meas_step ?_ hlt; first | rfl | exact YK.out
            · obtain rfl : k = 280 := by omega
              have y1 : ¬ (((280 : Nat) : Int) < 280) := by decide
              go_wp2_with fail
              go_loopw [5] (fun iv wr => ∃ k, 280 ≤ k ∧ k ≤ 288 ∧ iv = vi k ∧ Arr wr H 95 288 (fixTo k) ∧ New w wr ∧ wr.heap.size = H + 1) (fun iv _ => 288 - (intOf iv).toNat)
              case atStart => exact ⟨280, Nat.le_refl _, by decide, rfl, hA, hn, hs⟩
              case round =>
                clear hA hn hs
                obtain ⟨k, hk1, hk2, rfl, hA, hn, hs⟩ := hrel
                by_cases hlt : k < 288
                · have y1 : (k : Int) < 288 := by omega
                  have y2 : (k : Int) < 288 := by omega
                  have y3 : (0 : Int) ≤ (k : Int) := by omega
                  have YK := Lib.hid (wrap_succ (k := k) (n := 288) hlt (by omega))
                  have cA := hA.cell k (by omega)
                  have zA := hA.fz k
                  have hA2 : Arr (wr.setCell ⟨H, k, none⟩ (.int .i64 8)) H 95 288 (fixTo (k + 1)) := (hA.set k 8).congr (fun n _ => fixTo_succ k n 8 (by unfold fixN; repeat (first | rw [if_pos (by omega)] | rw [if_neg (by omega)])))
                  have hn2 := Frm.store hn (p := ⟨H, k, none⟩) (by rw [HH.out]; exact Nat.le_refl _) (.int .i64 8)
                  have hs2 : (wr.setCell ⟨H, k, none⟩ (.int .i64 8)).heap.size = H + 1 := by simp [hs]
                  have HA2 := Lib.hid hA2
                  have HN2 := Lib.hid hn2
                  have HS2 := Lib.hid hs2
                  clear hA hn hs hA2 hn2 hs2
                  go_wp2_with fail
                  go_roundw
                  case rel => exact ⟨k + 1, by omega, hlt, by first | rfl | exact YK.out, HA2.out, HN2.out, HS2.out⟩
                  case measure => refine meas_step ?_ hlt; first | rfl | exact YK.out
                · obtain rfl : k = 288 := by omega
                  have y1 : ¬ (((288 : Nat) : Int) < 288) := by decide
                  have hn5 := hn.alloc (.cells Tryd.zeroCells54 54)
                  have hA5 := Arr.frm hA (Frm.alloc (S := fun _ => False) (Frm.refl _ wr) (.cells Tryd.zeroCells54 54)) (fun h => h)
                  have hb5 : (wr.alloc (.cells Tryd.zeroCells54 54)).heap[H + 1]? = some (.cells Tryd.zeroCells54 54) := by rw [← hs]; exact heap_alloc_new _ _
                  have hini := fun w' (h1 : w'.heap[H + 1]? = some (.cells Tryd.zeroCells54 54)) h2 => init_any w' (H + 1) 0 54 Tryd.zeroCells54 hd0 (.slice none 0 0) (.slice (some ⟨H, 0, none⟩) 288 288) fixLit h1 (by rw [size54]; decide) hdc_zero (fun _ => ⟨rfl, rfl⟩) (by decide) h2 (fun x off n c e => by
                    simp only [Value.slice.injEq, Option.some.injEq, Addr.mk.injEq] at e; omega) fixLit_le (by rw [fixLit_len]; decide)
                  have hrd := hA5.rd fixLit fixLit_len (fun j hj => by unfold fixTo; rw [if_pos hj, fixLit_get j hj]) 288
                  have HA5 := Lib.hid hA5
                  have HN5 := Lib.hid hn5
                  clear hA hn hA5 hn5
                  go_wp2_with fail
                  refine (hini _ hb5 hrd).mono ?_
                  rintro r w7 ⟨rfl, hF7, lv, hT7, hL7, -⟩
                  go_wp2_with fail
                  go_returns
                  obtain ⟨cs, k1, -, -, k2⟩ := HTab.hdc (h := (initH fixLit).2) hT7 (fun j _ => rfl)
                  exact ⟨H + 1, cs, lv, rfl, by rw [HH.out]; exact Nat.le_succ _, New.step HN5.out hF7 (fun k hk => by rw [HH.out, hk]; exact Nat.le_succ _), k1, k2, hL7⟩
end Go.Proofs.YtbbnibbdiiffkaaDoor

/- The decoder with a table made anew, and with a length stored. -/
namespace Go.Proofs.YtbbnibbdiiffkaaDoor
open Go.RowKit

/-- A table that can be made anew. -/
def TI (h : HD) (lv : Value) : Prop := h.min ≤ 15 ∧ (h.min = 0 → h = hd0 ∧ lv = .slice none 0 0)
theorem initH_min {l : List Nat} (h15 : ∀ x ∈ l, x ≤ 15) (hl : l.length ≤ 1000) : (initH l).2.min ≤ 15 ∧ ((initH l).2.min = 0 → (initH l).2 = hd0) := by
  refine ⟨(initH_safe h15 hl).min15, fun h => ?_⟩
  unfold initH at h ⊢
  split at h
  · rename_i h0; rw [if_pos h0]
  · rename_i h0
    rw [if_neg h0]
    split at h
    · exact absurd h (minL_pos h0).1
    · rename_i h1; rw [if_neg h1]

section
variable {I : Ids} {E : Errs} {src : List Nat} {srcV : Value} {w w' : World} {cs cs' : Array Value} {s : DS}
theorem Frm.imp {b : Nat} (h : Frm (fun k => k = b) w w') (hb : I.own b) : Imp I w w' := h.mono fun _ _ e => e ▸ hb
/-- The decoder's own cells are others. -/
theorem Dec.reF (h : Dec I E src srcV w cs s) (s' : DS) (hb : w'.heap[I.F]? = some (.cells cs' 63 (0, 0))) (hfc : FC cs' I s') (hf : Frm (fun k => k = I.F) w w') (hk : s'.k = s.k) (hl1 : LinksAt w' s'.l1 s'.h1.links) (hl2 : LinksAt w' s'.l2 s'.h2.links)
    (hhl : s'.hl = s.hl) (hhx : s'.hx = s.hx) (hbits : s'.bits = s.bits) (hcb : s'.cb = s.cb) (hhist : s'.hist = s.hist) (hbb : s'.b = s.b) (hnb : s'.nb = s.nb) (hro : s'.ro = s.ro) (hwr : s'.wr = s.wr) (hrd : s'.rd = s.rd) (hlen : s'.len = s.len) (hdist : s'.dist = s.dist) :
    Dec I E src srcV w' cs' s' := by
  have hi : Imp I w w' := hf.imp (.inl rfl)
  have ho : ∀ k o, w.heap[k]? = some o → k ≠ I.F → w'.heap[k]? = some o := fun k o hk hne => by rw [hf.block k (lt_of_block hk) hne]; exact hk
  obtain ⟨pr, hR⟩ := h.bR
  have o := h.ok
  refine ⟨hb, hfc, ⟨pr, by rw [hk]; exact ho _ _ hR (Ne.symm o.FR)⟩, by rw [hhist]; exact ho _ _ h.bD (Ne.symm o.FD), by rw [hbits]; exact ho _ _ h.bB (Ne.symm o.FB), by rw [hcb]; exact ho _ _ h.bC (Ne.symm o.FCC), h.srcs hi, h.notOwn, h.gl.frm hi h.lows, o, hl1, hl2, ?_,
    by rw [hhist]; exact h.hlen, by rw [hbits]; exact h.blen, by rw [hcb]; exact h.clen, by rw [hk]; exact h.kle, h.small, h.bytes, by rw [hbb]; exact h.b32, by rw [hnb]; exact h.nb32, by rw [hro, hk]; exact h.ro, by rw [hwr]; exact h.wr, by rw [hrd]; exact h.rd, by rw [hlen]; exact h.dlen, by rw [hdist]; exact h.ddist⟩
  rw [hhl, hhx]; exact h.txs hi
theorem Dec.reH1 (h : Dec I E src srcV w cs s) {ch : Nat → Nat} {lv : Value} {t : HD} (hT : HTab w' I.F 5 63 cs t.min ch lv t.mask) (hch : ∀ j, j < 512 → ch j = t.ch.getD j 0) (hL : LinksAt w' lv t.links) (hf : Frm (fun k => k = I.F) w w') :
    ∃ cs', Dec I E src srcV w' cs' { s with h1 := t, l1 := lv } := by
  obtain ⟨cs', q1, q2, q3, q4⟩ := HTab.hdc hT hch
  have g : ∀ i, i < 5 ∨ 520 ≤ i → cs'[i]? = cs[i]? := q3
  have c := h.fc
  refine ⟨cs', h.reF { s with h1 := t, l1 := lv } q1 ⟨by rw [q2]; exact c.size, by rw [g 0 (by decide)]; exact c.r, by rw [g 1035 (by decide)]; exact c.pb, by rw [g 1036 (by decide)]; exact c.pc, by rw [g 1037 (by decide)]; exact c.hist, by rw [g 2 (by decide)]; exact c.ro, by rw [g 3 (by decide)]; exact c.b,
    by rw [g 4 (by decide)]; exact c.nb, by rw [g 1038 (by decide)]; exact c.wr, by rw [g 1039 (by decide)]; exact c.rd, by rw [g 1040 (by decide)]; exact c.full, by rw [g 1045 (by decide)]; exact c.step, by rw [g 1046 (by decide)]; exact c.st, by rw [g 1047 (by decide)]; exact c.final,
    by rw [g 1048 (by decide)]; exact c.err, by rw [g 1049 (by decide)]; exact c.tr, by rw [g 1050 (by decide)]; exact c.hl, by rw [g 1051 (by decide)]; exact c.hd, by rw [g 1052 (by decide)]; exact c.len, by rw [g 1053 (by decide)]; exact c.dist, q4,
    ⟨by rw [g _ (by decide)]; exact c.h2.mn, fun j hj => by rw [g _ (by omega)]; exact c.h2.chs j hj, by rw [g _ (by decide)]; exact c.h2.lk, by rw [g _ (by decide)]; exact c.h2.msk⟩, fun j hj => by rw [g _ (by omega)]; exact c.buf j hj⟩
    hf rfl hL (h.links (hf.imp (.inl rfl)) h.lk2) rfl rfl rfl rfl rfl rfl rfl rfl rfl rfl rfl rfl⟩
theorem Dec.reH2 (h : Dec I E src srcV w cs s) {ch : Nat → Nat} {lv : Value} {t : HD} (hT : HTab w' I.F 520 63 cs t.min ch lv t.mask) (hch : ∀ j, j < 512 → ch j = t.ch.getD j 0) (hL : LinksAt w' lv t.links) (hf : Frm (fun k => k = I.F) w w') :
    ∃ cs', Dec I E src srcV w' cs' { s with h2 := t, l2 := lv } := by
  obtain ⟨cs', q1, q2, q3, q4⟩ := HTab.hdc hT hch
  have g : ∀ i, i < 520 ∨ 1035 ≤ i → cs'[i]? = cs[i]? := q3
  have c := h.fc
  refine ⟨cs', h.reF { s with h2 := t, l2 := lv } q1 ⟨by rw [q2]; exact c.size, by rw [g 0 (by decide)]; exact c.r, by rw [g 1035 (by decide)]; exact c.pb, by rw [g 1036 (by decide)]; exact c.pc, by rw [g 1037 (by decide)]; exact c.hist, by rw [g 2 (by decide)]; exact c.ro, by rw [g 3 (by decide)]; exact c.b,
    by rw [g 4 (by decide)]; exact c.nb, by rw [g 1038 (by decide)]; exact c.wr, by rw [g 1039 (by decide)]; exact c.rd, by rw [g 1040 (by decide)]; exact c.full, by rw [g 1045 (by decide)]; exact c.step, by rw [g 1046 (by decide)]; exact c.st, by rw [g 1047 (by decide)]; exact c.final,
    by rw [g 1048 (by decide)]; exact c.err, by rw [g 1049 (by decide)]; exact c.tr, by rw [g 1050 (by decide)]; exact c.hl, by rw [g 1051 (by decide)]; exact c.hd, by rw [g 1052 (by decide)]; exact c.len, by rw [g 1053 (by decide)]; exact c.dist,
    ⟨by rw [g _ (by decide)]; exact c.h1.mn, fun j hj => by rw [g _ (by omega)]; exact c.h1.chs j hj, by rw [g _ (by decide)]; exact c.h1.lk, by rw [g _ (by decide)]; exact c.h1.msk⟩, q4, fun j hj => by rw [g _ (by omega)]; exact c.buf j hj⟩
    hf rfl (h.links (hf.imp (.inl rfl)) h.lk1) hL rfl rfl rfl rfl rfl rfl rfl rfl rfl rfl rfl rfl⟩

/-- A length is stored. -/
theorem intsA_set (l : List Nat) (i x : Nat) : (intsA l).setIfInBounds i (vi x) = intsA (l.set i x) := by
  unfold intsA; simp
theorem Dec.set_bits (h : Dec I E src srcV w cs s) (i x : Nat) : Dec I E src srcV (w.setCell ⟨I.B, i, none⟩ (vi x)) cs { s with bits := s.bits.set i x } := by
  have hf : Imp I w (w.setCell ⟨I.B, i, none⟩ (vi x)) := Frm.setCell (Frm.refl _ _) (.inr (.inr (.inr (.inl rfl)))) _
  have ho : ∀ k, k ≠ I.B → (w.setCell ⟨I.B, i, none⟩ (vi x)).heap[k]? = w.heap[k]? := fun k hk => heap_setCell_other _ _ _ _ (fun e => hk e)
  obtain ⟨pr, hR⟩ := h.bR
  have o := h.ok
  refine ⟨?_, ⟨h.fc.size, h.fc.r, h.fc.pb, h.fc.pc, h.fc.hist, h.fc.ro, h.fc.b, h.fc.nb, h.fc.wr, h.fc.rd, h.fc.full, h.fc.step, h.fc.st, h.fc.final, h.fc.err, h.fc.tr, h.fc.hl, h.fc.hd, h.fc.len, h.fc.dist, h.fc.h1, h.fc.h2, h.fc.buf⟩, ⟨pr, ?_⟩, ?_, ?_, ?_, h.srcs hf, h.notOwn, h.gl.frm hf h.lows, o, h.links hf h.lk1, h.links hf h.lk2, h.txs hf, h.hlen, by simp only [List.length_set]; exact h.blen, h.clen, h.kle, h.small, h.bytes, h.b32, h.nb32, h.ro, h.wr, h.rd, h.dlen, h.ddist⟩
  · rw [ho _ o.FB]; exact h.bF
  · rw [ho _ o.RB]; exact hR
  · rw [ho _ o.DB]; exact h.bD
  · rw [heap_setCell_same w I.B i _ 65 _ h.bB, intsA_set]
  · rw [ho _ (Ne.symm o.BC)]; exact h.bC
theorem Dec.set_cb (h : Dec I E src srcV w cs s) (i x : Nat) : Dec I E src srcV (w.setCell ⟨I.C, i, none⟩ (vi x)) cs { s with cb := s.cb.set i x } := by
  have hf : Imp I w (w.setCell ⟨I.C, i, none⟩ (vi x)) := Frm.setCell (Frm.refl _ _) (.inr (.inr (.inr (.inr rfl)))) _
  have ho : ∀ k, k ≠ I.C → (w.setCell ⟨I.C, i, none⟩ (vi x)).heap[k]? = w.heap[k]? := fun k hk => heap_setCell_other _ _ _ _ (fun e => hk e)
  obtain ⟨pr, hR⟩ := h.bR
  have o := h.ok
  refine ⟨?_, ⟨h.fc.size, h.fc.r, h.fc.pb, h.fc.pc, h.fc.hist, h.fc.ro, h.fc.b, h.fc.nb, h.fc.wr, h.fc.rd, h.fc.full, h.fc.step, h.fc.st, h.fc.final, h.fc.err, h.fc.tr, h.fc.hl, h.fc.hd, h.fc.len, h.fc.dist, h.fc.h1, h.fc.h2, h.fc.buf⟩, ⟨pr, ?_⟩, ?_, ?_, ?_, h.srcs hf, h.notOwn, h.gl.frm hf h.lows, o, h.links hf h.lk1, h.links hf h.lk2, h.txs hf, h.hlen, h.blen, by simp only [List.length_set]; exact h.clen, h.kle, h.small, h.bytes, h.b32, h.nb32, h.ro, h.wr, h.rd, h.dlen, h.ddist⟩
  · rw [ho _ o.FCC]; exact h.bF
  · rw [ho _ o.RC]; exact hR
  · rw [ho _ o.DC]; exact h.bD
  · rw [ho _ o.BC]; exact h.bB
  · rw [heap_setCell_same w I.C i _ 66 _ h.bC, intsA_set]
theorem Dec.set_min1 (h : Dec I E src srcV w cs s) (x : Nat) : Dec I E src srcV (w.setCell ⟨I.F, 5, none⟩ (vi x)) (cs.setIfInBounds 5 (vi x)) { s with h1 := { s.h1 with min := x } } := by
  have c := h.fc
  have hsz : 5 < cs.size := by rw [c.size]; decide
  have g : ∀ i, i ≠ 5 → (cs.setIfInBounds 5 (vi x))[i]? = cs[i]? := fun i hi => getElem?_set_ne _ (Ne.symm hi)
  refine h.reF _ (heap_setCell_same w I.F 5 cs 63 _ h.bF) ⟨by rw [Array.size_setIfInBounds]; exact c.size, by rw [g 0 (by decide)]; exact c.r, by rw [g 1035 (by decide)]; exact c.pb, by rw [g 1036 (by decide)]; exact c.pc, by rw [g 1037 (by decide)]; exact c.hist, by rw [g 2 (by decide)]; exact c.ro, by rw [g 3 (by decide)]; exact c.b,
    by rw [g 4 (by decide)]; exact c.nb, by rw [g 1038 (by decide)]; exact c.wr, by rw [g 1039 (by decide)]; exact c.rd, by rw [g 1040 (by decide)]; exact c.full, by rw [g 1045 (by decide)]; exact c.step, by rw [g 1046 (by decide)]; exact c.st, by rw [g 1047 (by decide)]; exact c.final,
    by rw [g 1048 (by decide)]; exact c.err, by rw [g 1049 (by decide)]; exact c.tr, by rw [g 1050 (by decide)]; exact c.hl, by rw [g 1051 (by decide)]; exact c.hd, by rw [g 1052 (by decide)]; exact c.len, by rw [g 1053 (by decide)]; exact c.dist,
    ⟨getElem?_set_same _ hsz, fun j hj => by rw [g _ (by omega)]; exact c.h1.chs j hj, by rw [g _ (by decide)]; exact c.h1.lk, by rw [g _ (by decide)]; exact c.h1.msk⟩,
    ⟨by rw [g _ (by decide)]; exact c.h2.mn, fun j hj => by rw [g _ (by omega)]; exact c.h2.chs j hj, by rw [g _ (by decide)]; exact c.h2.lk, by rw [g _ (by decide)]; exact c.h2.msk⟩, fun j hj => by rw [g _ (by omega)]; exact c.buf j hj⟩
    (Frm.setCell (S := fun k => k = I.F) (Frm.refl _ _) rfl _) rfl (h.links (Imp.setF I w 5 _) h.lk1) (h.links (Imp.setF I w 5 _) h.lk2) rfl rfl rfl rfl rfl rfl rfl rfl rfl rfl rfl rfl
theorem Dec.c_bits (h : Dec I E src srcV w cs s) (i : Nat) (hi : i < 316) : w.cell? ⟨I.B, i, none⟩ = some (vi (s.bits.getD i 0)) := by
  have hl := h.blen
  simp [World.cell?, h.bB, intsA, List.getElem?_eq_getElem (show i < s.bits.length by omega), List.getD_eq_getElem?_getD]
theorem Dec.c_cb (h : Dec I E src srcV w cs s) (i : Nat) (hi : i < 19) : w.cell? ⟨I.C, i, none⟩ = some (vi (s.cb.getD i 0)) := by
  have hl := h.clen
  simp [World.cell?, h.bC, intsA, List.getElem?_eq_getElem (show i < s.cb.length by omega), List.getD_eq_getElem?_getD]
theorem Dec.fzB (h : Dec I E src srcV w cs s) (i : Nat) : w.frozen? ⟨I.B, i, none⟩ = false := frozen_of_row w I.B i _ _ h.bB
theorem Dec.fzC (h : Dec I E src srcV w cs s) (i : Nat) : w.frozen? ⟨I.C, i, none⟩ = false := frozen_of_row w I.C i _ _ h.bC

/-- The first table is made of some lengths. -/
theorem init1_any (hD : Dec I E src srcV w cs s) (hti : TI s.h1 s.l1) (lsV : Value) (l : List Nat) (hl : RdN w lsV l) (hlb : ∀ x off n c, lsV = .slice (some ⟨x, off, none⟩) n c → x ≠ I.F) (h15 : ∀ x ∈ l, x ≤ 15) (hlen : l.length ≤ 1000) :
    Calls Tryd.prog 39 #[.pointer (some ⟨I.F, 5, none⟩), lsV] w fun r w' => r = .returned (.bool (initH l).1) ∧ Imp I w w' ∧ ∃ cs' lv, Dec I E src srcV w' cs' { s with h1 := (initH l).2, l1 := lv } ∧ TI (initH l).2 lv := by
  refine (init_any w I.F 5 63 cs s.h1 s.l1 lsV l hD.bF (by rw [hD.fc.size]; decide) hD.fc.h1 hti.2 hti.1 hl hlb h15 hlen).mono ?_
  rintro r w' ⟨rfl, hf, lv, hT, hL, hn⟩
  obtain ⟨cs', hD'⟩ := hD.reH1 hT (fun _ _ => rfl) hL hf
  have hm := initH_min h15 hlen
  exact ⟨rfl, hf.imp (.inl rfl), cs', lv, hD', hm.1, fun h => ⟨hm.2 h, hn h⟩⟩
theorem init2_any (hD : Dec I E src srcV w cs s) (hti : TI s.h2 s.l2) (lsV : Value) (l : List Nat) (hl : RdN w lsV l) (hlb : ∀ x off n c, lsV = .slice (some ⟨x, off, none⟩) n c → x ≠ I.F) (h15 : ∀ x ∈ l, x ≤ 15) (hlen : l.length ≤ 1000) :
    Calls Tryd.prog 39 #[.pointer (some ⟨I.F, 520, none⟩), lsV] w fun r w' => r = .returned (.bool (initH l).1) ∧ Imp I w w' ∧ ∃ cs' lv, Dec I E src srcV w' cs' { s with h2 := (initH l).2, l2 := lv } ∧ TI (initH l).2 lv := by
  refine (init_any w I.F 520 63 cs s.h2 s.l2 lsV l hD.bF (by rw [hD.fc.size]; decide) hD.fc.h2 hti.2 hti.1 hl hlb h15 hlen).mono ?_
  rintro r w' ⟨rfl, hf, lv, hT, hL, hn⟩
  obtain ⟨cs', hD'⟩ := hD.reH2 hT (fun _ _ => rfl) hL hf
  have hm := initH_min h15 hlen
  exact ⟨rfl, hf.imp (.inl rfl), cs', lv, hD', hm.1, fun h => ⟨hm.2 h, hn h⟩⟩
end
end Go.Proofs.YtbbnibbdiiffkaaDoor

/- The head of a block with codes of its own: what the decoder's reading of it comes to. -/
namespace Go.Proofs.YtbbnibbdiiffkaaDoor
open Go.RowKit

/-- The same but for where the tables' links lie. -/
abbrev DS.ln (s : DS) (a b : Value) : DS := { s with l1 := a, l2 := b }
/-- An outcome of a step. -/
inductive RH where
  | err (v : Value) (s : DS)
  | ok (i : Nat) (s : DS)
def fillR (l : List Nat) (i v : Nat) : Nat → List Nat
  | 0 => l
  | r + 1 => (fillR l i v r).set (i + r) v
def exN (x : Nat) : Nat := if x = 16 then 2 else if x = 17 then 3 else 7
def rpN (x : Nat) : Nat := if x = 16 then 3 else if x = 17 then 3 else 11
/-- A repeat, its extra bits read. -/
def rhRep (n i x v : Nat) (s : DS) : RH :=
  if n < i + (rpN x + s.b % 2 ^ exN x) then .err (corV s.ro) (takeB (exN x) s)
  else .ok (i + (rpN x + s.b % 2 ^ exN x)) { takeB (exN x) s with bits := fillR s.bits i v (rpN x + s.b % 2 ^ exN x) }
def rhX (E : Errs) (src : List Nat) (n i x : Nat) (s : DS) : RH :=
  if x < 16 then .ok (i + 1) { s with bits := s.bits.set i x }
  else if x = 16 ∧ i = 0 then .err (corV s.ro) s
  else if (need src (exN x) 4 s).1 then rhRep n i x (if x = 16 then s.bits.getD (i - 1) 0 else 0) (need src (exN x) 4 s).2
  else .err E.uneV (need src (exN x) 4 s).2
def rhStep (E : Errs) (src : List Nat) (n i : Nat) (s : DS) : RH :=
  match hsM src s.h1 s.k s.b s.nb with
  | .sym x k b nb => rhX E src n i x ((HR.sym x k b nb).st s)
  | r => .err (r.err E s) (r.st s)
/-- The tables of the lengths. -/
def rhEnd (nl nd : Nat) (s : DS) : Value × DS :=
  if (initH (s.bits.take nl)).1 then
    if (initH ((s.bits.drop nl).take nd)).1 then
      (.nilIface, { s with h1 := { (initH (s.bits.take nl)).2 with min := Nat.max (initH (s.bits.take nl)).2.min (s.bits.getD 256 0) }, h2 := (initH ((s.bits.drop nl).take nd)).2 })
    else (corV s.ro, { s with h1 := (initH (s.bits.take nl)).2, h2 := (initH ((s.bits.drop nl).take nd)).2 })
  else (corV s.ro, { s with h1 := (initH (s.bits.take nl)).2 })
def rhSyms (E : Errs) (src : List Nat) (nl nd : Nat) : Nat → Nat → DS → Value × DS
  | 0, _, s => rhEnd nl nd s
  | f + 1, i, s =>
    if i < nl + nd then
      match rhStep E src (nl + nd) i s with
      | .ok i' s' => rhSyms E src nl nd f i' s'
      | .err v s' => (v, s')
    else rhEnd nl nd s
def rhTab (E : Errs) (src : List Nat) (nl nd : Nat) (s : DS) : Value × DS :=
  if (initH s.cb).1 then rhSyms E src nl nd (nl + nd + 1) 0 { s with h1 := (initH s.cb).2 } else (corV s.ro, { s with h1 := (initH s.cb).2 })
/-- The other lengths of code lengths are 0. -/
def rhZ (l : List Nat) : Nat → Nat → List Nat
  | 0, _ => l
  | r + 1, i => rhZ (l.set (orderL.getD i 0) 0) r (i + 1)
def rhCb (E : Errs) (src : List Nat) (nl nd nc : Nat) : Nat → Nat → DS → Value × DS
  | 0, _, s => rhTab E src nl nd { s with cb := rhZ s.cb (19 - nc) nc }
  | r + 1, i, s =>
    if (need src 3 4 s).1 then rhCb E src nl nd nc r (i + 1) { takeB 3 (need src 3 4 s).2 with cb := s.cb.set (orderL.getD i 0) ((need src 3 4 s).2.b % 8) }
    else (E.uneV, (need src 3 4 s).2)
def rh3 (E : Errs) (src : List Nat) (nl nd : Nat) (s : DS) : Value × DS :=
  rhCb E src nl nd (s.b % 16 + 4) (s.b % 16 + 4) 0 { s with b := s.b / 16, nb := s.nb - 14 }
def rh2 (E : Errs) (src : List Nat) (nl : Nat) (s : DS) : Value × DS :=
  if 30 < s.b % 32 + 1 then (corV s.ro, s) else rh3 E src nl (s.b % 32 + 1) { s with b := s.b / 32 }
def rh1 (E : Errs) (src : List Nat) (s : DS) : Value × DS :=
  if 286 < s.b % 32 + 257 then (corV s.ro, s) else rh2 E src (s.b % 32 + 257) { s with b := s.b / 32 }
def rhS (E : Errs) (src : List Nat) (s : DS) : Value × DS :=
  if (need src 14 4 s).1 then rh1 E src (need src 14 4 s).2 else (E.uneV, (need src 14 4 s).2)

theorem lkAt_sym (l : List Nat) (h15 : ∀ x ∈ l, x ≤ 15) (o t : Nat) : ∀ k, k ≤ l.length → lkAt l o t k % 16 ≠ 0 → lkAt l o t k / 16 < l.length := by
  intro k
  induction k with
  | zero => intro _ h; exact absurd rfl h
  | succ k ih =>
    intro hk h
    have h2 := h15 _ (getD_lt (l := l) (k := k) (by omega))
    rw [lkAt] at h ⊢
    split at h
    · rename_i hc; rw [if_pos hc]; omega
    · rename_i hc; rw [if_neg hc]; exact ih (by omega) h
/-- The symbols of a table of lengths are places among them. -/
theorem look_sym {l : List Nat} (h15 : ∀ x ∈ l, x ≤ 15) (b : Nat) (h0 : look (initH l).2 b % 16 ≠ 0) : look (initH l).2 b / 16 < l.length := by
  have hz : ∀ b, look hd0 b = 0 := fun b => by
    unfold look
    rw [hd0_get, if_neg (by decide)]
  unfold initH at h0 ⊢
  split at h0
  · rw [hz] at h0; exact absurd rfl h0
  · rename_i hm
    rw [if_neg hm]
    split at h0
    · rename_i hc
      rw [if_pos hc]
      have hj : b % 512 < 512 := Nat.mod_lt _ (by decide)
      have h0 : look (tabL l) b % 16 ≠ 0 := h0
      show look (tabL l) b / 16 < l.length
      have hlk : look (tabL l) b = if 9 < chAt l (b % 512) l.length % 16 then ((tabL l).links.getD (chAt l (b % 512) l.length / 16) []).getD (b / 512 &&& (tabL l).mask) 0 else chAt l (b % 512) l.length := by
        unfold look; rw [tabL_ch l _ hj]
      rcases chAt_form l (b % 512) l.length with ⟨i, q1, q2, q3, q4⟩ | ⟨q1, q2, q3⟩ | q
      · rw [q4, if_neg (by omega)] at hlk; omega
      · have hr := rev_lt 9 (b % 512)
        have hmk : (tabL l).mask = 2 ^ (maxL l - 9) - 1 := by unfold tabL; simp only []; rw [if_pos q1]
        have hp := Nat.two_pow_pos (maxL l - 9)
        have ha : b / 512 &&& (tabL l).mask < 2 ^ (maxL l - 9) := by rw [hmk, and_mask]; exact Nat.mod_lt _ hp
        rw [q3, if_pos (by omega), show (16 * (rev 9 (b % 512) - lnkL l) + 10) / 16 = rev 9 (b % 512) - lnkL l by omega, tabL_lk l q1 _ _ (by omega) ha] at hlk
        rw [hlk] at h0 ⊢
        exact lkAt_sym l h15 _ _ _ (Nat.le_refl _) h0
      · rw [q, if_neg (by decide)] at hlk; rw [hlk] at h0; exact absurd rfl h0
    · rw [hz] at h0; exact absurd rfl h0
end Go.Proofs.YtbbnibbdiiffkaaDoor

/- The head of a block with codes of its own: bits that are waited for. Printed by tools/gen_need.py. -/
namespace Go
/-- A block of code. -/
def findB (id : Nat) : Code → Option Code
  | .seq a b => match findB id a with
    | some c => some c
    | none => findB id b
  | .loop c => findB id c
  | .block i c => if i = id then some (.block i c) else findB id c
  | .scope c => findB id c
  | .cond _ a b => match findB id a with
    | some c => some c
    | none => findB id b
  | _ => none
namespace Proofs.YtbbnibbdiiffkaaDoor
open Go.RowKit
noncomputable def code25 (id : Nat) : Code := (Tryd.f25.body.bind (findC id)).getD .skip
noncomputable def code25b (id : Nat) : Code := (Tryd.f25.body.bind (findB id)).getD .skip
/-- What holds when the bits are there. -/
def PostN (I : Ids) (E : Errs) (src : List Nat) (srcV : Value) (w : World) (n : Nat) (ps : List (Nat × Value)) (N : Bool × DS) (a' : Act) (wx : World) : Prop := Slots n ps a' ∧ N.1 = true ∧ (∃ c', Dec I E src srcV wx c' N.2) ∧ Imp I w wx
section
variable {I : Ids} {E : Errs} {src : List Nat} {srcV : Value} {w wz : World} {cs : Array Value} {s : DS}
set_option maxRecDepth 100000 in
set_option maxHeartbeats 4000000 in
theorem rh_need14 (hD : Dec I E src srcV wz cs s) (f0 : Imp I w wz) (hnb : s.nb ≤ 24) (N : Bool × DS) (HN : Hid (N = need src 14 4 s)) (a : Act) (hS : Slots 340 [(294, undef), (0, .pointer (some ⟨I.F, 0, none⟩))] a) (Q : Exit → Act → World → Prop)
    (hret : ∀ a' wx c', Slots 340 [(2, E.uneV)] a' → N.1 = false → Dec I E src srcV wx c' N.2 → Imp I w wx → Q .ret a' wx) :
    Code.wp Tryd.prog (code25b 0) (Exit.then (PostN I E src srcV w 340 [(294, undef), (0, .pointer (some ⟨I.F, 0, none⟩))] N) Q) a wz := by
  obtain ⟨fl, hfl, rfl, g294, g0, -⟩ := hS
  conv => arg 2; whnf
  revert g294 g0
  revert fl
  refine fun fl hll => AllN_get (n := 340) (K := fun l => l[294]? = _ → l[0]? = _ → Code.wp Tryd.prog _ _ ⟨l.toArray, []⟩ wz) ?_ fl hll
  iterate 340 intro
  dsimp only [AllN]
  intro g294 g0
  cases g294
  cases g0
  have hle := hD.kle
  obtain ⟨wo, rfl⟩ : ∃ wo : World, wo = wz := ⟨_, rfl⟩
  go_wp2_with fail
  go_loopw [3] (fun _ wr => ∃ (g : Nat) (s' : DS) (c' : Array Value), Dec I E src srcV wr c' s' ∧ Imp I w wr ∧ Near src s s' ∧ s'.nb ≤ 24 ∧ Hid (N = need src 14 g s') ∧ Hid (14 ≤ s'.nb + 8 * g)) (fun _ wr => 40 - nbW I wr)
  case atStart => exact ⟨4, s, _, hD, f0, .refl hle, hnb, HN, Lib.hid (by omega)⟩
  case round =>
    obtain ⟨g, s', c', hD4, f4, hne, hnb, HNg, HG⟩ := hrel
    clear hD f0 HN
    have cnb := hD4.c_nb
    have cr := hD4.c_r
    by_cases hlt : s'.nb < 14
    · have y2 : (s'.nb : Int) < 14 := by omega
      obtain ⟨g, rfl⟩ : ∃ g', g = g' + 1 := ⟨g - 1, by have := HG.out; omega⟩
      have hmb := moreBits_any hD4 hnb
      by_cases hk : s'.k < src.length
      · have hE : moreB src E s' = (.nilIface, { s' with k := s'.k + 1, ro := s'.ro + 1, b := s'.b ||| src.getD s'.k 0 * 2 ^ s'.nb, nb := s'.nb + 8 }) := if_pos hk
        rw [hE] at hmb; clear hE
        have hne2 := hne.step hk
        have HN5 : Hid (N = need src 14 g { s' with k := s'.k + 1, ro := s'.ro + 1, b := s'.b ||| src.getD s'.k 0 * 2 ^ s'.nb, nb := s'.nb + 8 }) := Lib.hid (by rw [HNg.out, need, if_pos hlt, if_pos hk])
        have HG5 : Hid (14 ≤ s'.nb + 8 + 8 * g) := Lib.hid (by have := HG.out; omega)
        have HB5 : Hid (s'.nb + 8 ≤ 24) := Lib.hid (by omega)
        have HM5 : Hid (40 - (s'.nb + 8) < 40 - nbW I wr) := Lib.hid (by rw [hD4.nbW]; omega)
        clear hne hnb hlt hk HNg HG
        go_wp2_with fail
        refine hmb.mono ?_; rintro r w5 ⟨rfl, ⟨c5, hD5⟩, f5⟩
        have f5 := f4.trans f5
        clear hmb f4 hD4 cnb cr
        go_wp2_with fail
        go_roundw
        case rel => exact ⟨g, _, c5, hD5, f5, hne2, HB5.out, HN5, HG5⟩
        case measure => show 40 - nbW I w5 < 40 - nbW I wr; rw [hD5.nbW]; exact HM5.out
      · have hE : moreB src E s' = (E.uneV, s') := if_neg hk
        rw [hE] at hmb; clear hE
        unfold Errs.uneV at hmb
        have HE : Hid (N = (false, s')) := Lib.hid (by rw [HNg.out, need, if_pos hlt, if_neg hk])
        clear hne hnb hlt hk HNg HG
        go_wp2_with fail
        refine hmb.mono ?_; rintro r w5 ⟨rfl, ⟨c5, hD5⟩, f5⟩
        have f5 := f4.trans f5
        clear hmb f4 hD4 cnb cr
        go_wp2_with fail
        exact hret _ _ _ ⟨_, rfl, rfl, And.intro rfl trivial⟩ (by rw [HE.out]) (by rw [HE.out]; exact hD5) f5
    · have y2 : ¬ (s'.nb : Int) < 14 := by omega
      have HE : Hid (N = (true, s')) := Lib.hid (by
        rw [HNg.out]; cases g with
        | zero => rfl
        | succ g => rw [need, if_neg hlt])
      clear hne hnb hlt HNg HG
      go_wp2_with fail
      exact And.intro ⟨_, rfl, rfl, And.intro rfl (And.intro rfl (trivial))⟩ (And.intro (by rw [HE.out]) (And.intro ⟨_, by rw [HE.out]; exact hD4⟩ f4))
set_option maxRecDepth 100000 in
set_option maxHeartbeats 4000000 in
theorem rh_need3 (v4 v5 v6 v7 : Value) (hD : Dec I E src srcV wz cs s) (f0 : Imp I w wz) (hnb : s.nb ≤ 24) (N : Bool × DS) (HN : Hid (N = need src 3 4 s)) (a : Act) (hS : Slots 340 [(294, undef), (0, .pointer (some ⟨I.F, 0, none⟩)), (4, v4), (5, v5), (6, v6), (7, v7)] a) (Q : Exit → Act → World → Prop)
    (hret : ∀ a' wx c', Slots 340 [(2, E.uneV)] a' → N.1 = false → Dec I E src srcV wx c' N.2 → Imp I w wx → Q .ret a' wx) :
    Code.wp Tryd.prog (code25b 4) (Exit.then (PostN I E src srcV w 340 [(294, undef), (0, .pointer (some ⟨I.F, 0, none⟩)), (4, v4), (5, v5), (6, v6), (7, v7)] N) Q) a wz := by
  obtain ⟨fl, hfl, rfl, g294, g0, g4, g5, g6, g7, -⟩ := hS
  conv => arg 2; whnf
  revert g294 g0 g4 g5 g6 g7
  revert fl
  refine fun fl hll => AllN_get (n := 340) (K := fun l => l[294]? = _ → l[0]? = _ → l[4]? = _ → l[5]? = _ → l[6]? = _ → l[7]? = _ → Code.wp Tryd.prog _ _ ⟨l.toArray, []⟩ wz) ?_ fl hll
  iterate 340 intro
  dsimp only [AllN]
  intro g294 g0 g4 g5 g6 g7
  cases g294
  cases g0
  cases g4
  cases g5
  cases g6
  cases g7
  have hle := hD.kle
  obtain ⟨wo, rfl⟩ : ∃ wo : World, wo = wz := ⟨_, rfl⟩
  go_wp2_with fail
  go_loopw [8] (fun _ wr => ∃ (g : Nat) (s' : DS) (c' : Array Value), Dec I E src srcV wr c' s' ∧ Imp I w wr ∧ Near src s s' ∧ s'.nb ≤ 24 ∧ Hid (N = need src 3 g s') ∧ Hid (3 ≤ s'.nb + 8 * g)) (fun _ wr => 40 - nbW I wr)
  case atStart => exact ⟨4, s, _, hD, f0, .refl hle, hnb, HN, Lib.hid (by omega)⟩
  case round =>
    obtain ⟨g, s', c', hD4, f4, hne, hnb, HNg, HG⟩ := hrel
    clear hD f0 HN
    have cnb := hD4.c_nb
    have cr := hD4.c_r
    by_cases hlt : s'.nb < 3
    · have y2 : (s'.nb : Int) < 3 := by omega
      obtain ⟨g, rfl⟩ : ∃ g', g = g' + 1 := ⟨g - 1, by have := HG.out; omega⟩
      have hmb := moreBits_any hD4 hnb
      by_cases hk : s'.k < src.length
      · have hE : moreB src E s' = (.nilIface, { s' with k := s'.k + 1, ro := s'.ro + 1, b := s'.b ||| src.getD s'.k 0 * 2 ^ s'.nb, nb := s'.nb + 8 }) := if_pos hk
        rw [hE] at hmb; clear hE
        have hne2 := hne.step hk
        have HN5 : Hid (N = need src 3 g { s' with k := s'.k + 1, ro := s'.ro + 1, b := s'.b ||| src.getD s'.k 0 * 2 ^ s'.nb, nb := s'.nb + 8 }) := Lib.hid (by rw [HNg.out, need, if_pos hlt, if_pos hk])
        have HG5 : Hid (3 ≤ s'.nb + 8 + 8 * g) := Lib.hid (by have := HG.out; omega)
        have HB5 : Hid (s'.nb + 8 ≤ 24) := Lib.hid (by omega)
        have HM5 : Hid (40 - (s'.nb + 8) < 40 - nbW I wr) := Lib.hid (by rw [hD4.nbW]; omega)
        clear hne hnb hlt hk HNg HG
        go_wp2_with fail
        refine hmb.mono ?_; rintro r w5 ⟨rfl, ⟨c5, hD5⟩, f5⟩
        have f5 := f4.trans f5
        clear hmb f4 hD4 cnb cr
        go_wp2_with fail
        go_roundw
        case rel => exact ⟨g, _, c5, hD5, f5, hne2, HB5.out, HN5, HG5⟩
        case measure => show 40 - nbW I w5 < 40 - nbW I wr; rw [hD5.nbW]; exact HM5.out
      · have hE : moreB src E s' = (E.uneV, s') := if_neg hk
        rw [hE] at hmb; clear hE
        unfold Errs.uneV at hmb
        have HE : Hid (N = (false, s')) := Lib.hid (by rw [HNg.out, need, if_pos hlt, if_neg hk])
        clear hne hnb hlt hk HNg HG
        go_wp2_with fail
        refine hmb.mono ?_; rintro r w5 ⟨rfl, ⟨c5, hD5⟩, f5⟩
        have f5 := f4.trans f5
        clear hmb f4 hD4 cnb cr
        go_wp2_with fail
        exact hret _ _ _ ⟨_, rfl, rfl, And.intro rfl trivial⟩ (by rw [HE.out]) (by rw [HE.out]; exact hD5) f5
    · have y2 : ¬ (s'.nb : Int) < 3 := by omega
      have HE : Hid (N = (true, s')) := Lib.hid (by
        rw [HNg.out]; cases g with
        | zero => rfl
        | succ g => rw [need, if_neg hlt])
      clear hne hnb hlt HNg HG
      go_wp2_with fail
      exact And.intro ⟨_, rfl, rfl, And.intro rfl (And.intro rfl (And.intro rfl (And.intro rfl (And.intro rfl (And.intro rfl (trivial))))))⟩ (And.intro (by rw [HE.out]) (And.intro ⟨_, by rw [HE.out]; exact hD4⟩ f4))
set_option maxRecDepth 100000 in
set_option maxHeartbeats 4000000 in
theorem rh_needx (x : Nat) (hn14 : x ≤ 14) (v4 v5 v10 v11 v14 v16 : Value) (hD : Dec I E src srcV wz cs s) (f0 : Imp I w wz) (hnb : s.nb ≤ 24) (N : Bool × DS) (HN : Hid (N = need src x 4 s)) (a : Act) (hS : Slots 340 [(294, undef), (0, .pointer (some ⟨I.F, 0, none⟩)), (4, v4), (5, v5), (10, v10), (11, v11), (14, v14), (16, v16), (15, .int .u64 (x : Int))] a) (Q : Exit → Act → World → Prop)
    (hret : ∀ a' wx c', Slots 340 [(2, E.uneV)] a' → N.1 = false → Dec I E src srcV wx c' N.2 → Imp I w wx → Q .ret a' wx) :
    Code.wp Tryd.prog (code25b 11) (Exit.then (PostN I E src srcV w 340 [(294, undef), (0, .pointer (some ⟨I.F, 0, none⟩)), (4, v4), (5, v5), (10, v10), (11, v11), (14, v14), (16, v16), (15, .int .u64 (x : Int))] N) Q) a wz := by
  obtain ⟨fl, hfl, rfl, g294, g0, g4, g5, g10, g11, g14, g16, g15, -⟩ := hS
  conv => arg 2; whnf
  revert g294 g0 g4 g5 g10 g11 g14 g16 g15
  revert fl
  refine fun fl hll => AllN_get (n := 340) (K := fun l => l[294]? = _ → l[0]? = _ → l[4]? = _ → l[5]? = _ → l[10]? = _ → l[11]? = _ → l[14]? = _ → l[16]? = _ → l[15]? = _ → Code.wp Tryd.prog _ _ ⟨l.toArray, []⟩ wz) ?_ fl hll
  iterate 340 intro
  dsimp only [AllN]
  intro g294 g0 g4 g5 g10 g11 g14 g16 g15
  cases g294
  cases g0
  cases g4
  cases g5
  cases g10
  cases g11
  cases g14
  cases g16
  cases g15
  have hle := hD.kle
  obtain ⟨wo, rfl⟩ : ∃ wo : World, wo = wz := ⟨_, rfl⟩
  go_wp2_with fail
  go_loopw [17] (fun _ wr => ∃ (g : Nat) (s' : DS) (c' : Array Value), Dec I E src srcV wr c' s' ∧ Imp I w wr ∧ Near src s s' ∧ s'.nb ≤ 24 ∧ Hid (N = need src x g s') ∧ Hid (x ≤ s'.nb + 8 * g)) (fun _ wr => 40 - nbW I wr)
  case atStart => exact ⟨4, s, _, hD, f0, .refl hle, hnb, HN, Lib.hid (by omega)⟩
  case round =>
    obtain ⟨g, s', c', hD4, f4, hne, hnb, HNg, HG⟩ := hrel
    clear hD f0 HN
    have cnb := hD4.c_nb
    have cr := hD4.c_r
    by_cases hlt : s'.nb < x
    · have y2 : (s'.nb : Int) < (x : Int) := by omega
      obtain ⟨g, rfl⟩ : ∃ g', g = g' + 1 := ⟨g - 1, by have := HG.out; omega⟩
      have hmb := moreBits_any hD4 hnb
      by_cases hk : s'.k < src.length
      · have hE : moreB src E s' = (.nilIface, { s' with k := s'.k + 1, ro := s'.ro + 1, b := s'.b ||| src.getD s'.k 0 * 2 ^ s'.nb, nb := s'.nb + 8 }) := if_pos hk
        rw [hE] at hmb; clear hE
        have hne2 := hne.step hk
        have HN5 : Hid (N = need src x g { s' with k := s'.k + 1, ro := s'.ro + 1, b := s'.b ||| src.getD s'.k 0 * 2 ^ s'.nb, nb := s'.nb + 8 }) := Lib.hid (by rw [HNg.out, need, if_pos hlt, if_pos hk])
        have HG5 : Hid (x ≤ s'.nb + 8 + 8 * g) := Lib.hid (by have := HG.out; omega)
        have HB5 : Hid (s'.nb + 8 ≤ 24) := Lib.hid (by omega)
        have HM5 : Hid (40 - (s'.nb + 8) < 40 - nbW I wr) := Lib.hid (by rw [hD4.nbW]; omega)
        clear hne hnb hlt hk HNg HG
        go_wp2_with fail
        refine hmb.mono ?_; rintro r w5 ⟨rfl, ⟨c5, hD5⟩, f5⟩
        have f5 := f4.trans f5
        clear hmb f4 hD4 cnb cr
        go_wp2_with fail
        go_roundw
        case rel => exact ⟨g, _, c5, hD5, f5, hne2, HB5.out, HN5, HG5⟩
        case measure => show 40 - nbW I w5 < 40 - nbW I wr; rw [hD5.nbW]; exact HM5.out
      · have hE : moreB src E s' = (E.uneV, s') := if_neg hk
        rw [hE] at hmb; clear hE
        unfold Errs.uneV at hmb
        have HE : Hid (N = (false, s')) := Lib.hid (by rw [HNg.out, need, if_pos hlt, if_neg hk])
        clear hne hnb hlt hk HNg HG
        go_wp2_with fail
        refine hmb.mono ?_; rintro r w5 ⟨rfl, ⟨c5, hD5⟩, f5⟩
        have f5 := f4.trans f5
        clear hmb f4 hD4 cnb cr
        go_wp2_with fail
        exact hret _ _ _ ⟨_, rfl, rfl, And.intro rfl trivial⟩ (by rw [HE.out]) (by rw [HE.out]; exact hD5) f5
    · have y2 : ¬ (s'.nb : Int) < (x : Int) := by omega
      have HE : Hid (N = (true, s')) := Lib.hid (by
        rw [HNg.out]; cases g with
        | zero => rfl
        | succ g => rw [need, if_neg hlt])
      clear hne hnb hlt HNg HG
      go_wp2_with fail
      exact And.intro ⟨_, rfl, rfl, And.intro rfl (And.intro rfl (And.intro rfl (And.intro rfl (And.intro rfl (And.intro rfl (And.intro rfl (And.intro rfl (And.intro rfl (trivial)))))))))⟩ (And.intro (by rw [HE.out]) (And.intro ⟨_, by rw [HE.out]; exact hD4⟩ f4))
end
end Proofs.YtbbnibbdiiffkaaDoor
end Go

/- The head of a block with codes of its own: the lengths of the code length codes. -/
namespace Go.Proofs.YtbbnibbdiiffkaaDoor
open Go.RowKit

/-- What the head's reading needs of the decoder. -/
structure RK (s : DS) : Prop where
  nb : s.nb ≤ 24
  t1 : TI s.h1 s.l1
  t2 : TI s.h2 s.l2
  bits : ∀ x ∈ s.bits, x ≤ 15
  cb : ∀ x ∈ s.cb, x ≤ 15
theorem RK.need {src : List Nat} {s : DS} {N : Bool × DS} {n : Nat} (h : RK s) (hk : s.k ≤ src.length) (hN : Hid (N = need src n 4 s)) (hn : n ≤ 14) : RK N.2 ∧ (∃ k ro b nb, N.2 = { s with k := k, ro := ro, b := b, nb := nb }) ∧ (N.1 = true → n ≤ N.2.nb) := by
  obtain ⟨q1, q2, q3⟩ := need_near src n 4 s hk
  rw [← hN.out] at q1 q2 q3
  obtain ⟨k, ro, b, nb, e⟩ := q1.eq
  have hnb : N.2.nb ≤ 24 := by have := h.nb; omega
  refine ⟨?_, ⟨k, ro, b, nb, e⟩, fun h1 => q3 (by omega) h1⟩
  rw [e] at hnb ⊢
  exact ⟨hnb, h.t1, h.t2, h.bits, h.cb⟩
/-- Some state lies in memory, and P holds of it. -/
def PostS (I : Ids) (E : Errs) (src : List Nat) (srcV : Value) (w wx : World) (P : DS → Prop) : Prop := ∃ s' c', Dec I E src srcV wx c' s' ∧ Imp I w wx ∧ P s'
theorem order19 (i : Nat) : orderL.getD i 0 < 19 := by
  rcases Nat.lt_or_ge i 19 with h | h
  · revert i; decide
  · rw [List.getD_eq_getElem?_getD, List.getElem?_eq_none h]; decide
theorem and7 {b : Nat} (h : b < 2 ^ 32) : bits .and .u32 (b : Int) 7 = ((b % 8 : Nat) : Int) := by
  have := and_u32 b 7 h (by decide)
  rw [show ((7 : Nat) : Int) = 7 from rfl] at this
  rw [this, show (7 : Nat) = 2 ^ 3 - 1 from rfl, and_mask]
theorem mem_set_le {l : List Nat} {B i x : Nat} (h : ∀ y ∈ l, y ≤ B) (hx : x ≤ B) : ∀ y ∈ l.set i x, y ≤ B := fun y hy => by
  rcases List.mem_or_eq_of_mem_set hy with h1 | h1
  · exact h y h1
  · rw [h1]; exact hx
theorem cbArith {b nb i nc : Nat} (hb : b < 2 ^ 32) (h3 : 3 ≤ nb) (hn : nb ≤ 24) (hi : i < nc) (hnc : nc ≤ 19) : ∃ x q n2, b % 8 = x ∧ b / 2 ^ 3 = q ∧ nb - 3 = n2 ∧ x ≤ 15 ∧ q < 2 ^ 32 ∧ n2 ≤ 24 ∧ bits .and .u32 (b : Int) 7 = (x : Int) ∧ (b : Int) / 8 = (q : Int) ∧ IntKind.u64.wrap ((nb : Int) - 3) = (n2 : Int) ∧ (nb : Int) - 3 = (n2 : Int) ∧
    (i : Int) < (nc : Int) ∧ (i : Int) < 19 ∧ (0 : Int) ≤ (i : Int) :=
  ⟨_, _, _, rfl, rfl, rfl, by omega, by omega, by omega, and7 hb, by omega, by rw [IntKind.wrap_u64]; omega, by omega, by omega, by omega, by omega⟩

section
variable {I : Ids} {E : Errs} {src : List Nat} {srcV : Value} {w wz : World} {cs : Array Value} {s : DS}
def CbInv (I : Ids) (E : Errs) (src : List Nat) (srcV : Value) (w : World) (v4 v5 : Value) (nl nd nc : Nat) (R : Value × DS) (a : Act) (wx : World) : Prop :=
  ∃ i, i ≤ nc ∧ Slots 340 [(294, undef), (0, .pointer (some ⟨I.F, 0, none⟩)), (4, v4), (5, v5), (6, vi nc), (7, vi i)] a ∧ PostS I E src srcV w wx (fun s' => RK s' ∧ R = rhCb E src nl nd nc (nc - i) i s')
set_option maxRecDepth 100000 in
set_option maxHeartbeats 4000000 in
theorem rh_cbs (v4 v5 : Value) (nl nd nc : Nat) (hnc : nc ≤ 19) (hD : Dec I E src srcV wz cs s) (f0 : Imp I w wz) (hk : RK s) (R : Value × DS) (HR : Hid (R = rhCb E src nl nd nc nc 0 s))
    (a : Act) (hS : Slots 340 [(294, undef), (0, .pointer (some ⟨I.F, 0, none⟩)), (4, v4), (5, v5), (6, vi nc), (7, vi 0)] a) (Q : Exit → Act → World → Prop)
    (hret : ∀ v s' a' wx c', Slots 340 [(2, v)] a' → (R = (v, s') ∧ v ≠ .nilIface) → Dec I E src srcV wx c' s' → Imp I w wx → Q .ret a' wx) :
    Code.wp Tryd.prog (code25b 2) (Exit.then (fun a' wx => Slots 340 [(294, undef), (0, .pointer (some ⟨I.F, 0, none⟩)), (4, v4), (5, v5), (6, vi nc)] a' ∧ PostS I E src srcV w wx (fun s' => RK s' ∧ R = rhTab E src nl nd { s' with cb := rhZ s'.cb (19 - nc) nc })) Q) a wz := by
  conv => arg 2; whnf
  refine wp_block (wp_loop (CbInv I E src srcV w v4 v5 nl nd nc R) (fun a _ => nc - (intOf (a.tmps.getD 7 undef)).toNat) ⟨0, Nat.zero_le _, hS, s, cs, hD, f0, hk, HR.out⟩ ?_)
  clear HR hk f0 hD hS
  rintro a wr ⟨i, hi, ⟨fl, hfl, rfl, g294, g0, g4, g5, g6, g7, -⟩, s1, c1, hD1, f1, hk1, hR1⟩
  have hmu : fl.toArray.getD 7 undef = vi i := by simp only [Array.getD_eq_getD_getElem?, List.getElem?_toArray, g7]; rfl
  dsimp only []
  rw [hmu]
  clear hmu
  have HR1 := Lib.hid hR1
  clear hR1
  revert g294 g0 g4 g5 g6 g7
  revert fl
  refine fun fl hll => AllN_get (n := 340) (K := fun l => l[294]? = _ → l[0]? = _ → l[4]? = _ → l[5]? = _ → l[6]? = _ → l[7]? = _ → Code.wp Tryd.prog _ _ ⟨l.toArray, []⟩ wr) ?_ fl hll
  iterate 340 intro
  dsimp only [AllN]
  intro g294 g0 g4 g5 g6 g7
  cases g294
  cases g0
  cases g4
  cases g5
  cases g6
  cases g7
  by_cases hlt : i < nc
  · obtain ⟨N, hN⟩ : ∃ N, N = need src 3 4 s1 := ⟨_, rfl⟩
    have HN := Lib.hid hN
    clear hN
    have y0 : (i : Int) < (nc : Int) := Int.ofNat_lt.2 hlt
    obtain ⟨hkN, heN, hn3⟩ := hk1.need hD1.kle HN (by decide)
    have HR2 : Hid (R = if N.1 then rhCb E src nl nd nc (nc - (i + 1)) (i + 1) { takeB 3 N.2 with cb := s1.cb.set (orderL.getD i 0) (N.2.b % 8) } else (E.uneV, N.2)) := Lib.hid (by
      rw [HR1.out, show nc - i = (nc - (i + 1)) + 1 by omega, rhCb, ← HN.out])
    clear HR1
    go_upto_block 4 with fail
    rename_i K4 hK4
    refine wp_cut2 _ (rh_need3 v4 v5 (vi nc) (vi i) hD1 f1 hk1.nb N HN _ ?_ _ ?_) ?_
    · exact ⟨_, rfl, rfl, And.intro rfl (And.intro rfl (And.intro rfl (And.intro rfl (And.intro rfl (And.intro rfl trivial)))))⟩
    · intro a' wx c' hS' hN1 hD' f'
      exact hret _ _ a' wx c' hS' ⟨by rw [HR2.out, hN1]; rfl, fun h => by cases h⟩ hD' f'
    rintro a wx ⟨⟨fl, hfl, rfl, g294, g0, g4, g5, g6, g7, -⟩, hN1, ⟨c2, hD2⟩, f2⟩
    refine hK4 _ _ ?_
    clear hK4 hD1 f1
    have hn3' := hn3 hN1
    clear hn3
    obtain ⟨k', ro', b', nb', hNe⟩ := heN
    have hcb2 : N.2.cb = s1.cb := by rw [hNe]
    have HR3 : Hid (R = rhCb E src nl nd nc (nc - (i + 1)) (i + 1) { takeB 3 N.2 with cb := N.2.cb.set (orderL.getD i 0) (N.2.b % 8) }) := Lib.hid (by rw [HR2.out, if_pos hN1, hcb2])
    clear HR2 hcb2 hNe hN1 HN hk1 hret
    generalize N.2 = s2 at *
    clear N
    obtain ⟨x, q, n2, hx, hq, hn2, hx15, hq32, hn24, z1, z2, z3, z4, z5, z6, z7⟩ := cbArith hD2.b32 hn3' hkN.nb hlt hnc
    have ho := order19 i
    have co := hD2.gl.g2 i (Nat.lt_of_lt_of_le hlt hnc)
    have cpc := hD2.c_pc
    have cb := hD2.c_b
    have hD3 := hD2.set_cb (orderL.getD i 0) x
    have ccb := hD2.c_cb (orderL.getD i 0) ho
    have zcb := hD2.fzC (orderL.getD i 0)
    have hD4 := hD3.set_b q hq32
    have hD5 := hD4.set_nb n2 (Nat.le_trans hn24 (by decide))
    have cb3 := hD3.c_b
    have cnb3 := hD3.c_nb
    have cnb4 := hD4.c_nb
    have zb3 := hD3.fz 3
    have zb4 := hD4.fz 4
    have f3 := Frm.setCell f2 (p := ⟨I.C, orderL.getD i 0, none⟩) (.inr (.inr (.inr (.inr rfl)))) (vi x)
    have f5 := (f3.trans (Imp.setF I _ 3 (.int .u32 (q : Int)))).trans (Imp.setF I _ 4 (.int .u64 (n2 : Int)))
    have hst : ({ takeB 3 s2 with cb := s2.cb.set (orderL.getD i 0) (s2.b % 8) } : DS) = { s2 with cb := s2.cb.set (orderL.getD i 0) x, b := q, nb := n2 } := by unfold takeB; rw [hx, hq, hn2]
    rw [hst] at HR3
    have hkF : RK { s2 with cb := s2.cb.set (orderL.getD i 0) x, b := q, nb := n2 } := ⟨hn24, hkN.t1, hkN.t2, hkN.bits, mem_set_le hkN.cb hx15⟩
    have YK := Lib.hid (wrap_succ hlt (show nc ≤ 1000 by omega))
    generalize hoo : orderL.getD i 0 = oi at *
    have z8 : (oi : Int) < 19 := Int.ofNat_lt.2 ho
    have z9 : (0 : Int) ≤ (oi : Int) := Int.natCast_nonneg oi
    simp only [] at cb3 cnb3 cnb4
    have HD5 := Lib.hid hD5
    have HF5 := Lib.hid f5
    have HKF := Lib.hid hkF
    clear hD2 hD3 hD4 hD5 f2 f3 f5 hst hx hq hn2 hkN hkF hoo
    revert g294 g0 g4 g5 g6 g7
    revert fl
    refine fun fl hll => AllN_get (n := 340) (K := fun l => l[294]? = _ → l[0]? = _ → l[4]? = _ → l[5]? = _ → l[6]? = _ → l[7]? = _ → Code.wp _ _ _ ⟨l.toArray, []⟩ wx) ?_ fl hll
    iterate 340 intro
    dsimp only [AllN]
    intro g294 g0 g4 g5 g6 g7
    cases g294
    cases g0
    cases g4
    cases g5
    cases g6
    cases g7
    go_wp2_with fail
    refine still_tail 15 (by kernel_rfl) (by kernel_rfl) ?_
    simp only [List.take_succ_cons, List.take_zero, List.drop_succ_cons, List.drop_zero]
    repeat still_step
    refine wpStill_nil ?_
    go_wp2_with fail
    exact And.intro ⟨i + 1, hlt, ⟨_, rfl, rfl, And.intro rfl (And.intro rfl (And.intro rfl (And.intro rfl (And.intro rfl (And.intro (congrArg some (by first | rfl | exact YK.out)) trivial)))))⟩, _, _, HD5.out.drew, HF5.out.drew, HKF.out, HR3.out⟩ (meas_step (by first | rfl | exact YK.out) hlt)
  · obtain rfl : i = nc := by omega
    have y0 : ¬ (i : Int) < (i : Int) := by omega
    rw [Nat.sub_self] at HR1
    have HR2 : Hid (R = rhTab E src nl nd { s1 with cb := rhZ s1.cb (19 - i) i }) := Lib.hid (by rw [HR1.out, rhCb])
    go_wp2_with fail
    exact And.intro ⟨_, rfl, rfl, And.intro rfl (And.intro rfl (And.intro rfl (And.intro rfl (And.intro rfl trivial))))⟩ ⟨s1, c1, hD1, f1, hk1, HR2.out⟩
end
end Go.Proofs.YtbbnibbdiiffkaaDoor
