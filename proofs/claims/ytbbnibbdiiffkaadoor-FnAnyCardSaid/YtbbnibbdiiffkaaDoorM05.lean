/- The reference's block with codes of its own. The reference's blocks, and the whole of what it tells of a stream. The reference's Inflate. -/
import Derived.Test.YtbbnibbdiiffkaaDoorM04

/- The reference's block with codes of its own. -/
namespace Go.Proofs.YtbbnibbdiiffkaaDoor
open Go.RowKit

set_option maxRecDepth 100000 in
set_option maxHeartbeats 400000 in
theorem order_exact (w : World) : Calls Tryd.prog 54 #[] w fun r w' => r = .returned (.slice (some ⟨w.heap.size, 0, none⟩) 19 19) ∧ w.alloc (iBlk orderL) = w' := by
  go_enter Tryd.func54, Tryd.ntmps54
  go_wp2
  go_ret
  exact ⟨rfl, rfl⟩

def zero19 : List Nat := List.replicate 19 0
theorem mk19 (w : World) : (Instr.makeSlice 23 (.int .i64 19) (.int .i64 19)).run Tryd.prog w = .ok (.slice (some ⟨w.heap.size, 0, none⟩) 19 19) (w.alloc (iBlk zero19)) := by
  have hmk := run_make_row' (P := Tryd.prog) 23 3 (.int .i64 0) 8 Tryd.underlying23 info3 rfl .i64 .i64 19 (by omega) (by omega) w
  rw [madeCells_zero] at hmk
  exact hmk

/-- The lengths of the codes of code lengths, of which k were told. -/
def lenGo (src : List Nat) (p : Nat) (e : Int) : Nat → List Nat × Nat × Int
  | 0 => (zero19, p, e)
  | k + 1 => ((lenGo src p e k).1.set (orderL.getD k 0) (bitsAt src (lenGo src p e k).2.1 (lenGo src p e k).2.2 3).1,
      (bitsAt src (lenGo src p e k).2.1 (lenGo src p e k).2.2 3).2.1, (bitsAt src (lenGo src p e k).2.1 (lenGo src p e k).2.2 3).2.2)
def headE (e : Int) (lits dists : Nat) : Int := if e < 0 ∧ (286 < lits ∨ 30 < dists) then 0 else e
def distE (e : Int) (dist : List Nat) : Int := if 1 < usedL dist ∨ (usedL dist = 1 ∧ roomL dist ≠ 16384) then wholeE e dist else e
/-- Behind the lengths: the block's symbols. -/
def dynTail (src dict : List Nat) (lits : Nat) (out : List Nat) (t : List Nat × Nat × Int) : Nat × List Nat × Int :=
  if t.2.2 < 0 then
    codedS (t.1.take lits) (t.1.drop lits) src dict t.2.1 out (distE (wholeE (if t.1.getD 256 0 = 0 then stopE t.2.2 0 else t.2.2) (t.1.take lits)) (t.1.drop lits))
  else (t.2.1, out, t.2.2)
def dynS (src dict : List Nat) (p : Nat) (out : List Nat) (e : Int) : Nat × List Nat × Int :=
  let a := bitsAt src p e 5
  let b := bitsAt src a.2.1 a.2.2 5
  let c := bitsAt src b.2.1 b.2.2 4
  let g := lenGo src c.2.1 (headE c.2.2 (257 + a.1) (1 + b.1)) (4 + c.1)
  let t := toldS (bookL g.1) src (257 + a.1 + (1 + b.1)) g.2.1 (if g.2.2 < 0 then wholeE g.2.2 g.1 else g.2.2)
  dynTail src dict (257 + a.1) out t

theorem lenGo_len (src : List Nat) (p : Nat) (e : Int) (k : Nat) : (lenGo src p e k).1.length = 19 := by
  induction k with
  | zero => rfl
  | succ k ih => simp [lenGo, ih]
theorem lenGo_15 (src : List Nat) (p : Nat) (e : Int) (k : Nat) : ∀ x ∈ (lenGo src p e k).1, x ≤ 15 := by
  induction k with
  | zero => intro x hx; simp [lenGo, zero19] at hx; omega
  | succ k ih =>
    intro x hx
    rcases List.mem_or_eq_of_mem_set hx with h | h
    · exact ih x h
    · have := bitsAt_lt src (lenGo src p e k).2.1 (lenGo src p e k).2.2 3; omega
theorem orderL_lt (k : Nat) (h : k < 19) : orderL.getD k 0 < 19 := by
  have : ∀ k, k < 19 → orderL.getD k 0 < 19 := by decide
  exact this k h

theorem intOnly_set {w : World} {g : Nat} {xs : List Nat} {B : Nat} (h : w.heap[g]? = some (iBlk xs)) (hB : B ≤ g) (i : Nat) (v : Value) : IntOnly B w (w.setCell ⟨g, i, none⟩ v) :=
  ⟨rfl, rfl, rfl, by simp, fun k hk _ => heap_setCell_other w _ k v (show k ≠ g by omega),
    fun k o hk ho => by rw [heap_setCell_other w _ k v (fun e => by subst e; rw [h] at hk; exact ho _ _ (Option.some.inj hk).symm)]; exact hk⟩
section
variable {Z : Nat} {src dict : List Nat} {w : World} {p : Nat} {out : List Nat} {e : Int}

theorem rdI_take {b off cap n : Nat} {xs : List Nat} (h : RdI w (.slice (some ⟨b, off, none⟩) n cap) xs) (k : Nat) (hk : k ≤ xs.length) : RdI w (.slice (some ⟨b, off, none⟩) k cap) (xs.take k) := by
  obtain ⟨a', cap', he, hc, h⟩ := h
  simp only [Value.slice.injEq] at he
  obtain ⟨rfl, rfl, rfl⟩ := he
  have hl : (xs.take k).length = k := by simp; omega
  refine ⟨_, cap, by rw [hl], by omega, fun j hj => ?_⟩
  obtain ⟨b', off', c, f, h1, h2, h3⟩ := h j (by omega)
  refine ⟨b', off', c, f, h1, h2, ?_⟩
  rw [h3, List.getD_eq_getElem?_getD, List.getD_eq_getElem?_getD, List.getElem?_take, if_pos (by omega)]
theorem rdI_drop {b off cap n : Nat} {xs : List Nat} (h : RdI w (.slice (some ⟨b, off, none⟩) n cap) xs) (k : Nat) (hk : k ≤ xs.length) : RdI w (.slice (some ⟨b, off + k, none⟩) (xs.length - k) (cap - k)) (xs.drop k) := by
  obtain ⟨a', cap', he, hc, h⟩ := h
  simp only [Value.slice.injEq] at he
  obtain ⟨rfl, rfl, rfl⟩ := he
  have hl : (xs.drop k).length = xs.length - k := by simp
  refine ⟨_, cap - k, by rw [hl], by omega, fun j hj => ?_⟩
  obtain ⟨b', off', c, f, h1, h2, h3⟩ := h (k + j) (by omega)
  cases h1
  refine ⟨b, off + k, c, f, rfl, h2, ?_⟩
  rw [Nat.add_assoc, h3, List.getD_eq_getElem?_getD, List.getD_eq_getElem?_getD, List.getElem?_drop]

theorem told_int (hS : SOK Z src dict w p out e) (m : Int) (many : Nat) (hm : m = (many : Int)) (hmany : many ≤ 400) (v : Value) (xs : List Nat) (hv : RdI w v xs) (hl : xs.length ≤ 1000) (h15 : ∀ x ∈ xs, x ≤ 15)
    (hM : e < 0 → 2 ≤ (bookL xs).length) :
    Calls Tryd.prog 56 #[.pointer (some ⟨Z, 0, none⟩), .int .i64 m, v] w fun r w' => ∃ v', r = .returned v' ∧ RdI w' v' (toldS (bookL xs) src many p e).1 ∧
      SOK Z src dict w' (toldS (bookL xs) src many p e).2.1 out (toldS (bookL xs) src many p e).2.2 ∧ Keep Z w w' := by
  subst hm; exact told_any hS many hmany v xs hv hl h15 hM

theorem coded_pre {E : Int} {lit dist : List Nat} (h1 : ∀ x ∈ lit, x ≤ 15) (h2 : ∀ x ∈ dist, x ≤ 15) (h : distE (wholeE E lit) dist < 0) :
    2 ≤ (bookL lit).length ∧ (usedL dist ≠ 0 → 2 ≤ (bookL dist).length ∨ ∃ v, bookL dist = [(2, v)]) := by
  unfold distE at h
  split at h
  · obtain ⟨h3, h4⟩ := wholeE_lt h
    exact ⟨book_two h1 (wholeE_lt h3).2, fun _ => .inl (book_two h2 h4)⟩
  · refine ⟨book_two h1 (wholeE_lt h).2, fun hu => ?_⟩
    rename_i hn
    exact .inr (book_one (by omega) (by omega))

theorem toldS_off (M : List (Nat × Nat)) (src : List Nat) (many p : Nat) {e : Int} (h : ¬ e < 0) : toldS M src many p e = ([], p, e) := toldGo_end _ (by omega)

set_option maxRecDepth 100000 in
set_option maxHeartbeats 4000000 in
theorem dynamic_any (hS : SOK Z src dict w p out e) :
    Calls Tryd.prog 31 #[.pointer (some ⟨Z, 0, none⟩)] w fun r w' => r = .returned (.tuple #[]) ∧
      SOK Z src dict w' (dynS src dict p out e).1 (dynS src dict p out e).2.1 (dynS src dict p out e).2.2 ∧ Keep Z w w' := by
  have HS0 : Hid (dynS src dict p out e = dynS src dict p out e) := Lib.hid rfl
  go_enter Tryd.func31, Tryd.ntmps31
  go_wp2_with fail
  refine (bits_any hS 5 (by omega)).mono ?_; rintro r w1 ⟨rfl, hS1, hK1⟩
  have ha := bitsAt_lt src p e 5
  generalize hA : bitsAt src p e 5 = A at *
  obtain ⟨av, p1, e1⟩ := A
  simp only [] at hS1 ha
  have HA := Lib.hid hA
  clear hA HS0
  go_wp2_with fail
  refine (bits_any hS1 5 (by omega)).mono ?_; rintro r w2 ⟨rfl, hS2, hK2⟩
  have hb := bitsAt_lt src p1 e1 5
  generalize hB : bitsAt src p1 e1 5 = B at *
  obtain ⟨bv, p2, e2⟩ := B
  simp only [] at hS2 hb
  have HB := Lib.hid hB
  have hK12 := hK1.trans hK2
  clear hB hS1 hK1 hK2
  go_wp2_with fail
  refine (bits_any hS2 4 (by omega)).mono ?_; rintro r w3 ⟨rfl, hS3, hK3⟩
  have hc := bitsAt_lt src p2 e2 4
  generalize hC : bitsAt src p2 e2 4 = C at *
  obtain ⟨cv, p3, e3⟩ := C
  simp only [] at hS3 hc
  have HC := Lib.hid hC
  have hK123 := hK12.trans hK3
  clear hC hS2 hK12 hK3
  have hav : av < 32 := by omega
  have hbv : bv < 32 := by omega
  have hcv : cv < 16 := by omega
  clear ha hb hc
  have HD : Hid (dynS src dict p out e = dynTail src dict (257 + av) out (toldS (bookL (lenGo src p3 (headE e3 (257 + av) (1 + bv)) (4 + cv)).1) src (257 + av + (1 + bv)) (lenGo src p3 (headE e3 (257 + av) (1 + bv)) (4 + cv)).2.1
      (if (lenGo src p3 (headE e3 (257 + av) (1 + bv)) (4 + cv)).2.2 < 0 then wholeE (lenGo src p3 (headE e3 (257 + av) (1 + bv)) (4 + cv)).2.2 (lenGo src p3 (headE e3 (257 + av) (1 + bv)) (4 + cv)).1 else (lenGo src p3 (headE e3 (257 + av) (1 + bv)) (4 + cv)).2.2))) := by
    unfold dynS; simp only []; rw [HA.out]; simp only []; rw [HB.out]; simp only []; rw [HC.out]; exact rfl
  generalize hR : dynS src dict p out e = R at *
  have HRe := Lib.hid hR
  clear hR
  iterate 12 (first | go_values | go_skip | go_guarded | go_step | go_upon | go_simp)
  go_cut [] (fun wx => SOK Z src dict wx p3 out (headE e3 (257 + av) (1 + bv)) ∧ Keep Z w wx)
  case first =>
    by_cases h3 : e3 < 0
    · by_cases hl : 286 < 257 + av
      · have hE : headE e3 (257 + av) (1 + bv) = stopE e3 0 := by unfold headE stopE; rw [if_pos ⟨h3, .inl hl⟩, if_pos h3]
        have HE := Lib.hid hE; clear hE
        go_wp2_with fail
        refine (on_yes hS3 h3).mono ?_; rintro r w4 ⟨rfl, rfl⟩
        go_wp2_with fail
        refine (stop_any hS3 0 (by omega) (by omega)).mono ?_; rintro r w4 ⟨rfl, hS4, hK4⟩
        go_wp2_with fail
        go_meet
        exact ⟨by rw [HE.out]; exact hS4, hK123.trans hK4⟩
      · by_cases hd : 30 < 1 + bv
        · have hE : headE e3 (257 + av) (1 + bv) = stopE e3 0 := by unfold headE stopE; rw [if_pos ⟨h3, .inr hd⟩, if_pos h3]
          have HE := Lib.hid hE; clear hE
          go_wp2_with fail
          refine (on_yes hS3 h3).mono ?_; rintro r w4 ⟨rfl, rfl⟩
          go_wp2_with fail
          refine (stop_any hS3 0 (by omega) (by omega)).mono ?_; rintro r w4 ⟨rfl, hS4, hK4⟩
          go_wp2_with fail
          go_meet
          exact ⟨by rw [HE.out]; exact hS4, hK123.trans hK4⟩
        · have hE : headE e3 (257 + av) (1 + bv) = e3 := by unfold headE; rw [if_neg (by omega)]
          have HE := Lib.hid hE; clear hE
          go_wp2_with fail
          refine (on_yes hS3 h3).mono ?_; rintro r w4 ⟨rfl, rfl⟩
          go_wp2_with fail
          go_meet
          exact ⟨by rw [HE.out]; exact hS3, hK123⟩
    · have hE : headE e3 (257 + av) (1 + bv) = e3 := by unfold headE; rw [if_neg (by omega)]
      have HE := Lib.hid hE; clear hE
      go_wp2_with fail
      refine (on_no hS3 (by omega)).mono ?_; rintro r w4 ⟨rfl, rfl⟩
      go_wp2_with fail
      go_meet
      exact ⟨by rw [HE.out]; exact hS3, hK123⟩
  case rest =>
    obtain ⟨hS4, hK4⟩ := hcut
    clear hS3 hK123
    generalize headE e3 (257 + av) (1 + bv) = e4 at *
    have hmk := mk19 wc
    go_wp2_with fail
    have hg0 : (wc.alloc (iBlk zero19)).heap[wc.heap.size]? = some (iBlk (lenGo src p3 e4 0).1) := heap_alloc_new wc _
    have hn0 : New wc (wc.alloc (iBlk zero19)) := (Frm.refl _ _).alloc _
    have hS5 : SOK Z src dict (wc.alloc (iBlk zero19)) (lenGo src p3 e4 0).2.1 out (lenGo src p3 e4 0).2.2 := hS4.new hn0
    have hK5 := hK4.trans (hn0.keep Z)
    have hZl : Z < wc.heap.size := lt_of_block hS4.blk.choose_spec
    have HGS := Lib.hid (Keep.size hK4)
    clear hmk hn0
    generalize hgg : wc.heap.size = g at hg0 hZl HGS ⊢
    have HGG := Lib.hid hgg
    clear hgg
    generalize wc.alloc (iBlk zero19) = w5 at *
    go_loopw [34] (fun iv wr => ∃ k : Nat, k ≤ 4 + cv ∧ iv = .int .i64 k ∧ wr.heap[g]? = some (iBlk (lenGo src p3 e4 k).1) ∧ SOK Z src dict wr (lenGo src p3 e4 k).2.1 out (lenGo src p3 e4 k).2.2 ∧ Keep Z w wr) (fun i _ => 4 + cv - (intOf i).toNat)
    case atStart => exact ⟨0, Nat.zero_le _, rfl, hg0, hS5, hK5⟩
    case round =>
      clear hg0 hS5 hK5 w5
      obtain ⟨k, hk, rfl, hgk, hSk, hKk⟩ := hrel
      by_cases hlt : k < 4 + cv
      · have HN : Hid (lenGo src p3 e4 (k + 1) = ((lenGo src p3 e4 k).1.set (orderL.getD k 0) (bitsAt src (lenGo src p3 e4 k).2.1 (lenGo src p3 e4 k).2.2 3).1,
          (bitsAt src (lenGo src p3 e4 k).2.1 (lenGo src p3 e4 k).2.2 3).2.1, (bitsAt src (lenGo src p3 e4 k).2.1 (lenGo src p3 e4 k).2.2 3).2.2)) := Lib.hid rfl
        have hll := lenGo_len src p3 e4 k
        generalize lenGo src p3 e4 k = G at *
        obtain ⟨ls, pk, ek⟩ := G
        simp only [] at hgk hSk HN hll
        have ho := orderL_lt k (by omega)
        have hna : New wr (wr.alloc (iBlk orderL)).drew := ((Frm.refl _ _).alloc _).drew
        have hSa := hSk.new hna
        have hga : (wr.alloc (iBlk orderL)).drew.heap[g]? = some (iBlk ls) := hna.heap hgk
        have hoa : (wr.alloc (iBlk orderL)).drew.heap[wr.heap.size]? = some (iBlk orderL) := heap_alloc_new wr _
        have hoc : (wr.alloc (iBlk orderL)).cell? ⟨wr.heap.size, k, none⟩ = some (vi (orderL.getD k 0)) := iBlk_cell hoa (by show k < 19; omega)
        generalize hbt : bitsAt src pk ek 3 = T at *
        have hbl := bitsAt_lt src pk ek 3
        rw [hbt] at hbl
        obtain ⟨tv, pt, et⟩ := T
        simp only [] at hbl HN
        have HBT := Lib.hid hbt
        clear hbt
        generalize orderL.getD k 0 = o at *
        have fin : ∀ (r : Ending) (w3 : World), (r = .returned (vi (bitsAt src pk ek 3).1) ∧ SOK Z src dict w3 (bitsAt src pk ek 3).2.1 out (bitsAt src pk ek 3).2.2 ∧ Keep Z (wr.alloc (iBlk orderL)).drew w3) →
            r = .returned (vi tv) ∧ w3.cell? ⟨wr.heap.size, k, none⟩ = some (vi o) ∧ w3.cell? ⟨g, o, none⟩ = some (vi (ls.getD o 0)) ∧ w3.frozen? ⟨g, o, none⟩ = false ∧
            Hid (SOK Z src dict w3 pt out et ∧ Keep Z w w3 ∧ w3.heap[g]? = some (iBlk ls)) := by
          rintro r w3 ⟨rfl, hS3, hK3⟩
          rw [HBT.out] at hS3 ⊢
          obtain ⟨cs, hcs⟩ := hSa.blk
          have h1 := hK3.other hoa (fun e => by rw [e, hcs] at hoa; cases hoa) (fun c f e => by cases e)
          have h2 := hK3.other hga (fun e => by rw [e, hcs] at hga; cases hga) (fun c f e => by cases e)
          have h3 : w3.cell? ⟨wr.heap.size, k, none⟩ = (wr.alloc (iBlk orderL)).cell? ⟨wr.heap.size, k, none⟩ := by
            rw [iBlk_cell h1 (by show k < 19; omega)]; exact (iBlk_cell hoa (by show k < 19; omega)).symm
          exact ⟨rfl, h3.trans hoc, iBlk_cell h2 (by omega), iBlk_free h2 o, Lib.hid ⟨hS3, hKk.trans ((hna.keep Z).trans hK3), h2⟩⟩
        have FIN := Lib.hid fin
        have HGA := Lib.hid hga
        have HOA := Lib.hid hoa
        clear fin hna hga hoa
        go_upto_region 9 with fail
        go_region_with (first | (go_at_call 54; refine (order_exact _).mono ?_; rintro r w' ⟨rfl, rfl⟩) | (go_at_call 27; refine (bits_any hSa 3 (by omega)).mono ?_; intro r w3 hq; obtain ⟨rfl, hcw, hcg, hfg, HSK⟩ := FIN.out r w3 hq; clear hq))
        all_goals
          go_wp2_with fail
          go_roundw
          case rel => exact ⟨k + 1, hlt, rfl, by rw [HN.out]; exact iBlk_set HSK.out.2.2 o tv, by rw [HN.out]; exact HSK.out.1.intOnly (intOnly_set HSK.out.2.2 (Nat.le_refl _) _ _) (Nat.le_of_lt hZl), HSK.out.2.1.intOnly (intOnly_set HSK.out.2.2 (Nat.le_refl _) _ _) HGS.out⟩
          case measure => simp [intOf]; omega
      · obtain rfl : k = 4 + cv := by omega
        have hrl := iBlk_rd hgk 19 (Nat.le_of_eq (lenGo_len _ _ _ _))
        have hlen := lenGo_len src p3 e4 (4 + cv)
        have h15 := lenGo_15 src p3 e4 (4 + cv)
        rw [hlen] at hrl
        generalize lenGo src p3 e4 (4 + cv) = G at *
        obtain ⟨ls, p5, e5⟩ := G
        simp only [] at hrl hlen h15 hgk hSk HD
        have H15 := Lib.hid h15
        have HLEN := Lib.hid hlen
        clear h15 hlen hgk HGS HGG
        go_wp2_with fail
        by_cases h5 : e5 < 0
        · refine (on_yes hSk h5).mono ?_; rintro r w6 ⟨rfl, rfl⟩
          go_wp2_with fail
          refine (whole_any hSk _ ls hrl (by rw [HLEN.out]; omega) H15.out).mono ?_; rintro r w6 ⟨rfl, hS6, hK6⟩
          have hrl6 := hrl.keep hK6 hSk.blk.choose_spec
          have hK6' := hKk.trans hK6
          go_wp2_with fail
          refine (told_int hS6 _ (257 + av + (1 + bv)) (by omega) (by omega) _ ls hrl6 (by rw [HLEN.out]; omega) H15.out (fun h => book_two H15.out (wholeE_lt h).2)).mono ?_; rintro r w7 ⟨tv, rfl, hrt, hS7, hK7⟩
          have hK7' := hK6'.trans hK7
          have hD := HD.out
          rw [if_pos h5] at hD
          have ht15 := toldS_15 (l := ls) (src := src) (many := 257 + av + (1 + bv)) (p := p5) (e := wholeE e5 ls) (by rw [HLEN.out]; omega)
          have htl := @toldS_len (bookL ls) src (257 + av + (1 + bv)) p5 (wholeE e5 ls)
          generalize toldS (bookL ls) src (257 + av + (1 + bv)) p5 (wholeE e5 ls) = T at *
          obtain ⟨all, p7, e7⟩ := T
          simp only [] at hrt hS7 hD ht15 htl
          have HD7 := Lib.hid hD
          have HT15 := Lib.hid ht15
          have HTL := Lib.hid htl
          clear hD ht15 htl hrl hrl6 hS6 hK6 hSk hKk hK6' hK7 HD
          obtain ⟨ta, tcap, rfl⟩ := hrt.shape
          go_wp2_with fail
          by_cases h7 : e7 < 0
          · refine (on_yes hS7 h7).mono ?_; rintro r w8 ⟨rfl, rfl⟩
            have htl := HTL.out h7
            have hcap := hrt.cap.2
            obtain ⟨tb, toff, tcap', tc, tf, hV, hhb, hcells⟩ := hrt.nonempty (by omega)
            simp only [Value.slice.injEq, true_and] at hV
            obtain ⟨rfl, -⟩ := hV
            have hr1 := rdI_take hrt (257 + av) (by omega)
            have hr2 := rdI_drop hrt (257 + av) (by omega)
            have hc256 := hcells 256 (by omega)
            have htl' : all.length = av + bv + 258 := by omega
            have HTL' := Lib.hid htl'
            have y1 : (0 : Int) ≤ 257 + (av : Int) := by omega
            have y2 : (257 : Int) + (av : Int) ≤ (tcap : Int) := by omega
            have y3 : (257 : Int) + (av : Int) ≤ (all.length : Int) := by omega
            have y4 : (all.length : Int) ≤ (tcap : Int) := by omega
            have y5 : ((257 : Int) + (av : Int)).toNat = 257 + av := by omega
            have y6 : ¬ tcap = 257 + av := by omega
            have y7 : ¬ tcap - (257 + av) = 0 := by omega
            have HL15 := Lib.hid (fun x (hx : x ∈ all.take (257 + av)) => HT15.out x (List.mem_of_mem_take hx))
            have HD15 := Lib.hid (fun x (hx : x ∈ all.drop (257 + av)) => HT15.out x (List.mem_of_mem_drop hx))
            clear hcells hhb htl htl' HTL
            by_cases hz : all.getD 256 0 = 0
            · rw [hz] at hc256
              have HIF := Lib.hid (show (if all.getD 256 0 = 0 then stopE e7 0 else e7) = stopE e7 0 from if_pos hz)
              clear hz
              go_wp2_with fail
              go_quiet (fail)
              go_wp2_with fail
              refine (stop_any (hS7.drewN _) 0 (by omega) (by omega)).mono ?_; rintro r w9 ⟨rfl, hSX, hKs⟩
              have hKX := ((Keep.refl Z w7).drewN _).trans hKs
              go_wp2_with fail
              have hr1x := hr1.keep hKX hS7.blk.choose_spec
              have hr2x := hr2.keep hKX hS7.blk.choose_spec
              refine (whole_any hSX _ (all.take (257 + av)) hr1x (by simp; omega) HL15.out).mono ?_; rintro r w8 ⟨rfl, hS8, hK8⟩
              have hr1y := hr1x.keep hK8 hSX.blk.choose_spec
              have hr2y := hr2x.keep hK8 hSX.blk.choose_spec
              have hK9 := (hK7'.trans hKX).trans hK8
              clear hr1x hr2x hSX hKX hK8
              go_wp2_with fail
              refine (used_any _ (all.drop (257 + av)) _ hr2y (by simp; have := HTL'.out; omega)).mono ?_; rintro r w9 ⟨rfl, rfl⟩
              have hFIN := HD7.out
              unfold dynTail at hFIN
              simp only [] at hFIN
              rw [if_pos h7, HIF.out] at hFIN
              have HFIN := Lib.hid hFIN
              clear hFIN
              by_cases hu1 : 1 < usedL (all.drop (257 + av))
              · have hdE : distE (wholeE (stopE e7 0) (all.take (257 + av))) (all.drop (257 + av)) = wholeE (wholeE (stopE e7 0) (all.take (257 + av))) (all.drop (257 + av)) := if_pos (.inl hu1)
                have HDE := Lib.hid hdE
                clear hdE
                go_wp2_with fail
                refine (whole_any hS8 _ (all.drop (257 + av)) hr2y (by simp; have := HTL'.out; omega) HD15.out).mono ?_; rintro r wz ⟨rfl, hSz, hKz⟩
                rw [← HDE.out] at hSz
                have hr1z := hr1y.keep hKz hS8.blk.choose_spec
                have hr2z := hr2y.keep hKz hS8.blk.choose_spec
                have hKw := hK9.trans hKz
                go_wp2_with fail
                refine (coded_any hSz _ _ (all.take (257 + av)) (all.drop (257 + av)) hr1z hr2z (by simp; omega) (by simp; have := HTL'.out; omega) HL15.out HD15.out (coded_pre HL15.out HD15.out)).mono ?_; rintro r wl ⟨rfl, hSl, hKl⟩
                go_wp2_with fail
                go_end0
                exact ⟨rfl, by rw [HRe.out, HFIN.out]; exact hSl, hKw.trans hKl⟩
              · by_cases hu2 : usedL (all.drop (257 + av)) = 1
                · have t1 : ((usedL (all.drop (257 + av)) : Int) == 1) = true := beq_iff_eq.2 (by omega)
                  by_cases hu3 : roomL (all.drop (257 + av)) = 16384
                  · have hdE : distE (wholeE (stopE e7 0) (all.take (257 + av))) (all.drop (257 + av)) = wholeE (stopE e7 0) (all.take (257 + av)) := if_neg (by omega)
                    have HDE := Lib.hid hdE
                    have t2 : (roomL (all.drop (257 + av)) == 16384) = true := beq_iff_eq.2 hu3
                    have t3 : (roomL (all.drop (257 + av)) != 16384) = false := by rw [hu3]; rfl
                    rw [← HDE.out] at hS8
                    clear hdE hu3 hu2
                    go_wp2_with fail
                    refine (room_any _ (all.drop (257 + av)) _ hr2y (by simp; have := HTL'.out; omega) HD15.out).mono ?_; rintro r wz ⟨rfl, rfl⟩
                    go_wp2_with fail
                    refine (coded_any hS8 _ _ (all.take (257 + av)) (all.drop (257 + av)) hr1y hr2y (by simp; omega) (by simp; have := HTL'.out; omega) HL15.out HD15.out (coded_pre HL15.out HD15.out)).mono ?_; rintro r wl ⟨rfl, hSl, hKl⟩
                    go_wp2_with fail
                    go_end0
                    exact ⟨rfl, by rw [HRe.out, HFIN.out]; exact hSl, hK9.trans hKl⟩
                  · have hdE : distE (wholeE (stopE e7 0) (all.take (257 + av))) (all.drop (257 + av)) = wholeE (wholeE (stopE e7 0) (all.take (257 + av))) (all.drop (257 + av)) := if_pos (.inr ⟨hu2, hu3⟩)
                    have HDE := Lib.hid hdE
                    have t2 : (roomL (all.drop (257 + av)) == 16384) = false := beq_eq_false_iff_ne.2 hu3
                    have t3 : (roomL (all.drop (257 + av)) != 16384) = true := bne_iff_ne.2 hu3
                    clear hdE hu3 hu2
                    go_wp2_with fail
                    refine (room_any _ (all.drop (257 + av)) _ hr2y (by simp; have := HTL'.out; omega) HD15.out).mono ?_; rintro r wz ⟨rfl, rfl⟩
                    go_wp2_with fail
                    refine (whole_any hS8 _ (all.drop (257 + av)) hr2y (by simp; have := HTL'.out; omega) HD15.out).mono ?_; rintro r wz ⟨rfl, hSz, hKz⟩
                    rw [← HDE.out] at hSz
                    have hr1z := hr1y.keep hKz hS8.blk.choose_spec
                    have hr2z := hr2y.keep hKz hS8.blk.choose_spec
                    have hKw := hK9.trans hKz
                    go_wp2_with fail
                    refine (coded_any hSz _ _ (all.take (257 + av)) (all.drop (257 + av)) hr1z hr2z (by simp; omega) (by simp; have := HTL'.out; omega) HL15.out HD15.out (coded_pre HL15.out HD15.out)).mono ?_; rintro r wl ⟨rfl, hSl, hKl⟩
                    go_wp2_with fail
                    go_end0
                    exact ⟨rfl, by rw [HRe.out, HFIN.out]; exact hSl, hKw.trans hKl⟩
                · have hdE : distE (wholeE (stopE e7 0) (all.take (257 + av))) (all.drop (257 + av)) = wholeE (stopE e7 0) (all.take (257 + av)) := if_neg (by omega)
                  have HDE := Lib.hid hdE
                  have t1 : ((usedL (all.drop (257 + av)) : Int) == 1) = false := beq_eq_false_iff_ne.2 (by omega)
                  rw [← HDE.out] at hS8
                  clear hdE hu2
                  go_wp2_with fail
                  refine (coded_any hS8 _ _ (all.take (257 + av)) (all.drop (257 + av)) hr1y hr2y (by simp; omega) (by simp; have := HTL'.out; omega) HL15.out HD15.out (coded_pre HL15.out HD15.out)).mono ?_; rintro r wl ⟨rfl, hSl, hKl⟩
                  go_wp2_with fail
                  go_end0
                  exact ⟨rfl, by rw [HRe.out, HFIN.out]; exact hSl, hK9.trans hKl⟩
            · have HIF := Lib.hid (show (if all.getD 256 0 = 0 then stopE e7 0 else e7) = e7 from if_neg hz)
              have z1 : ((all.getD 256 0 : Nat) : Int) ≠ 0 := by omega
              clear hz
              generalize all.getD 256 0 = x256 at hc256 z1
              have z2 : ((x256 : Int) == 0) = false := beq_eq_false_iff_ne.2 z1
              clear z1
              go_wp2_with fail
              go_quiet (fail)
              go_wp2_with fail
              have hSX := hS7.drewN nq
              have hKX := (Keep.refl Z w7).drewN nq
              have hr1x := hr1.keep hKX hS7.blk.choose_spec
              have hr2x := hr2.keep hKX hS7.blk.choose_spec
              refine (whole_any hSX _ (all.take (257 + av)) hr1x (by simp; omega) HL15.out).mono ?_; rintro r w8 ⟨rfl, hS8, hK8⟩
              have hr1y := hr1x.keep hK8 hSX.blk.choose_spec
              have hr2y := hr2x.keep hK8 hSX.blk.choose_spec
              have hK9 := (hK7'.trans hKX).trans hK8
              clear hr1x hr2x hSX hKX hK8
              go_wp2_with fail
              refine (used_any _ (all.drop (257 + av)) _ hr2y (by simp; have := HTL'.out; omega)).mono ?_; rintro r w9 ⟨rfl, rfl⟩
              have hFIN := HD7.out
              unfold dynTail at hFIN
              simp only [] at hFIN
              rw [if_pos h7, HIF.out] at hFIN
              have HFIN := Lib.hid hFIN
              clear hFIN
              by_cases hu1 : 1 < usedL (all.drop (257 + av))
              · have hdE : distE (wholeE e7 (all.take (257 + av))) (all.drop (257 + av)) = wholeE (wholeE e7 (all.take (257 + av))) (all.drop (257 + av)) := if_pos (.inl hu1)
                have HDE := Lib.hid hdE
                clear hdE
                go_wp2_with fail
                refine (whole_any hS8 _ (all.drop (257 + av)) hr2y (by simp; have := HTL'.out; omega) HD15.out).mono ?_; rintro r wz ⟨rfl, hSz, hKz⟩
                rw [← HDE.out] at hSz
                have hr1z := hr1y.keep hKz hS8.blk.choose_spec
                have hr2z := hr2y.keep hKz hS8.blk.choose_spec
                have hKw := hK9.trans hKz
                go_wp2_with fail
                refine (coded_any hSz _ _ (all.take (257 + av)) (all.drop (257 + av)) hr1z hr2z (by simp; omega) (by simp; have := HTL'.out; omega) HL15.out HD15.out (coded_pre HL15.out HD15.out)).mono ?_; rintro r wl ⟨rfl, hSl, hKl⟩
                go_wp2_with fail
                go_end0
                exact ⟨rfl, by rw [HRe.out, HFIN.out]; exact hSl, hKw.trans hKl⟩
              · by_cases hu2 : usedL (all.drop (257 + av)) = 1
                · have t1 : ((usedL (all.drop (257 + av)) : Int) == 1) = true := beq_iff_eq.2 (by omega)
                  by_cases hu3 : roomL (all.drop (257 + av)) = 16384
                  · have hdE : distE (wholeE e7 (all.take (257 + av))) (all.drop (257 + av)) = wholeE e7 (all.take (257 + av)) := if_neg (by omega)
                    have HDE := Lib.hid hdE
                    have t2 : (roomL (all.drop (257 + av)) == 16384) = true := beq_iff_eq.2 hu3
                    have t3 : (roomL (all.drop (257 + av)) != 16384) = false := by rw [hu3]; rfl
                    rw [← HDE.out] at hS8
                    clear hdE hu3 hu2
                    go_wp2_with fail
                    refine (room_any _ (all.drop (257 + av)) _ hr2y (by simp; have := HTL'.out; omega) HD15.out).mono ?_; rintro r wz ⟨rfl, rfl⟩
                    go_wp2_with fail
                    refine (coded_any hS8 _ _ (all.take (257 + av)) (all.drop (257 + av)) hr1y hr2y (by simp; omega) (by simp; have := HTL'.out; omega) HL15.out HD15.out (coded_pre HL15.out HD15.out)).mono ?_; rintro r wl ⟨rfl, hSl, hKl⟩
                    go_wp2_with fail
                    go_end0
                    exact ⟨rfl, by rw [HRe.out, HFIN.out]; exact hSl, hK9.trans hKl⟩
                  · have hdE : distE (wholeE e7 (all.take (257 + av))) (all.drop (257 + av)) = wholeE (wholeE e7 (all.take (257 + av))) (all.drop (257 + av)) := if_pos (.inr ⟨hu2, hu3⟩)
                    have HDE := Lib.hid hdE
                    have t2 : (roomL (all.drop (257 + av)) == 16384) = false := beq_eq_false_iff_ne.2 hu3
                    have t3 : (roomL (all.drop (257 + av)) != 16384) = true := bne_iff_ne.2 hu3
                    clear hdE hu3 hu2
                    go_wp2_with fail
                    refine (room_any _ (all.drop (257 + av)) _ hr2y (by simp; have := HTL'.out; omega) HD15.out).mono ?_; rintro r wz ⟨rfl, rfl⟩
                    go_wp2_with fail
                    refine (whole_any hS8 _ (all.drop (257 + av)) hr2y (by simp; have := HTL'.out; omega) HD15.out).mono ?_; rintro r wz ⟨rfl, hSz, hKz⟩
                    rw [← HDE.out] at hSz
                    have hr1z := hr1y.keep hKz hS8.blk.choose_spec
                    have hr2z := hr2y.keep hKz hS8.blk.choose_spec
                    have hKw := hK9.trans hKz
                    go_wp2_with fail
                    refine (coded_any hSz _ _ (all.take (257 + av)) (all.drop (257 + av)) hr1z hr2z (by simp; omega) (by simp; have := HTL'.out; omega) HL15.out HD15.out (coded_pre HL15.out HD15.out)).mono ?_; rintro r wl ⟨rfl, hSl, hKl⟩
                    go_wp2_with fail
                    go_end0
                    exact ⟨rfl, by rw [HRe.out, HFIN.out]; exact hSl, hKw.trans hKl⟩
                · have hdE : distE (wholeE e7 (all.take (257 + av))) (all.drop (257 + av)) = wholeE e7 (all.take (257 + av)) := if_neg (by omega)
                  have HDE := Lib.hid hdE
                  have t1 : ((usedL (all.drop (257 + av)) : Int) == 1) = false := beq_eq_false_iff_ne.2 (by omega)
                  rw [← HDE.out] at hS8
                  clear hdE hu2
                  go_wp2_with fail
                  refine (coded_any hS8 _ _ (all.take (257 + av)) (all.drop (257 + av)) hr1y hr2y (by simp; omega) (by simp; have := HTL'.out; omega) HL15.out HD15.out (coded_pre HL15.out HD15.out)).mono ?_; rintro r wl ⟨rfl, hSl, hKl⟩
                  go_wp2_with fail
                  go_end0
                  exact ⟨rfl, by rw [HRe.out, HFIN.out]; exact hSl, hK9.trans hKl⟩
          · refine (on_no hS7 h7).mono ?_; rintro r w8 ⟨rfl, rfl⟩
            go_wp2_with fail
            go_returns
            have hfin : R = (p7, out, e7) := by
              rw [HD7.out]; unfold dynTail; simp only []; rw [if_neg (by omega)]
            exact ⟨rfl, by rw [HRe.out, hfin]; exact hS7, hK7'⟩
        · refine (on_no hSk h5).mono ?_; rintro r w6 ⟨rfl, rfl⟩
          go_wp2_with fail
          refine (told_int hSk _ (257 + av + (1 + bv)) (by omega) (by omega) _ ls hrl (by rw [HLEN.out]; omega) H15.out (fun h => absurd h (by omega))).mono ?_; rintro r w6 ⟨tv, rfl, hrt, hS6, hK6⟩
          rw [toldS_off _ _ _ _ (by omega)] at hS6
          go_wp2_with fail
          refine (on_no hS6 (by omega)).mono ?_; rintro r w7 ⟨rfl, rfl⟩
          go_wp2_with fail
          go_returns
          have hfin : R = (p5, out, e5) := by
            rw [HD.out, if_neg (by omega), toldS_off _ _ _ _ (by omega)]; unfold dynTail; simp only []; rw [if_neg (by omega)]
          exact ⟨rfl, by rw [HRe.out, hfin]; exact hS6, hKk.trans hK6⟩
end
end Go.Proofs.YtbbnibbdiiffkaaDoor

/- The reference's blocks, and the whole of what it tells of a stream. -/
namespace Go.Proofs.YtbbnibbdiiffkaaDoor
open Go.RowKit

/-- A block, by its kind. -/
def kindS (src dict : List Nat) (t p : Nat) (out : List Nat) (e : Int) : Nat × List Nat × Int :=
  if t = 0 then storedS src p out e else if t = 1 then codedS fixLit fixDist src dict p out e else if t = 2 then dynS src dict p out e else (p, out, stopE e 2)
/-- A block: whether it is the final one, the position, the output, the end. -/
def blockS (src dict : List Nat) (p : Nat) (out : List Nat) (e : Int) : Bool × Nat × List Nat × Int :=
  let t := bitsAt src (bitP src p e) (bitE src p e) 2
  (bitR src p e == 1, kindS src dict t.1 t.2.1 out t.2.2)
def finE (b : Bool) (e : Int) : Int := if b then stopE e 1 else e
def inflGo (src dict : List Nat) : Nat → Nat → List Nat → Int → Nat × List Nat × Int
  | 0, p, out, e => (p, out, e)
  | f + 1, p, out, e =>
    if e < 0 then
      let r := blockS src dict p out e
      inflGo src dict f r.2.1 r.2.2.1 (finE r.1 r.2.2.2)
    else (p, out, e)
def inflS (src dict : List Nat) : Nat × List Nat × Int := inflGo src dict (8 * src.length + 1) 0 [] (-1)

theorem inflGo_off {src dict : List Nat} (f : Nat) {p : Nat} {out : List Nat} {e : Int} (h : ¬ e < 0) : inflGo src dict f p out e = (p, out, e) := by
  cases f with
  | zero => rfl
  | succ f => simp only [inflGo]; rw [if_neg h]
theorem inflGo_on {src dict : List Nat} (f : Nat) {p : Nat} {out : List Nat} {e : Int} (h : e < 0) :
    inflGo src dict (f + 1) p out e = inflGo src dict f (blockS src dict p out e).2.1 (blockS src dict p out e).2.2.1 (finE (blockS src dict p out e).1 (blockS src dict p out e).2.2.2) := by
  simp only [inflGo]; rw [if_pos h]

theorem storedS_off (src : List Nat) (p : Nat) (out : List Nat) {e : Int} (h : ¬ e < 0) : (storedS src p out e).2.2 = e := by
  unfold storedS
  simp only [bitsAt_off src _ h]
  unfold lenE
  rw [if_neg (by omega)]
  rfl
theorem codedS_off (lit dist src dict : List Nat) (p : Nat) (out : List Nat) {e : Int} (h : ¬ e < 0) : codedS lit dist src dict p out e = (p, out, e) := codedGo_off _ h
theorem lenGo_off (src : List Nat) (p : Nat) {e : Int} (h : ¬ e < 0) (k : Nat) : (lenGo src p e k).2 = (p, e) := by
  induction k with
  | zero => rfl
  | succ k ih =>
    simp only [lenGo]
    rw [ih]
    simp only [bitsAt_off src _ h]
theorem dynS_off (src dict : List Nat) (p : Nat) (out : List Nat) {e : Int} (h : ¬ e < 0) : (dynS src dict p out e).2.2 = e := by
  unfold dynS
  simp only [bitsAt_off src _ h]
  have h1 : headE e (257 + 0) (1 + 0) = e := by unfold headE; rw [if_neg (by omega)]
  rw [h1]
  have h2 := lenGo_off src p h (4 + 0)
  rcases hg : lenGo src p e (4 + 0) with ⟨ls, q⟩
  rw [hg] at h2
  simp only [] at h2
  subst h2
  simp only []
  rw [if_neg h, toldS_off _ _ _ _ h]
  unfold dynTail
  simp only []
  rw [if_neg h]

theorem symGo_le (M : List (Nat × Nat)) (src : List Nat) : ∀ n c p, p ≤ (symGo M src n c p).2.1 := by
  intro n
  induction n with
  | zero => intro c p; exact Nat.le_refl _
  | succ n ih =>
    intro c p
    simp only [symGo]
    split
    · split
      · simp
      · split
        · simp
        · exact Nat.le_trans (Nat.le_succ p) (ih _ _)
    · exact Nat.le_refl _
theorem symS_le (M : List (Nat × Nat)) (src : List Nat) (p : Nat) (e : Int) : p ≤ (symS M src p e).2.1 := by
  unfold symS; split
  · exact symGo_le _ _ _ _ _
  · exact Nat.le_refl _
theorem stGo_le (src : List Nat) (p : Nat) (out : List Nat) (e : Int) (k : Nat) : p ≤ (stGo src p out e k).1 := by
  induction k with
  | zero => exact Nat.le_refl _
  | succ k ih => exact Nat.le_trans ih (bitsAt_pos _ _ _ _)
theorem storedS_le (src : List Nat) (p : Nat) (out : List Nat) (e : Int) : p ≤ (storedS src p out e).1 := by
  unfold storedS
  simp only []
  refine Nat.le_trans ?_ (stGo_le _ _ _ _ _)
  refine Nat.le_trans ?_ (bitsAt_pos _ _ _ _)
  refine Nat.le_trans ?_ (bitsAt_pos _ _ _ _)
  omega
theorem codedStep_le (M D : List (Nat × Nat)) (u : Nat) (src dict : List Nat) (p : Nat) (out : List Nat) (e : Int) : p ≤ (codedStep M D u src dict p out e).2.1 := by
  have h1 := symS_le M src p e
  unfold codedStep
  simp only []
  generalize symS M src p e = s at *
  have h2 := bitsAt_pos src s.2.1 s.2.2 (lengthL s.1).2
  generalize bitsAt src s.2.1 s.2.2 (lengthL s.1).2 = a at *
  have h3 := symS_le D src a.2.1 a.2.2
  generalize symS D src a.2.1 a.2.2 = d at *
  have h4 := bitsAt_pos src d.2.1 d.2.2 (distanceL d.1).2
  split
  · split
    · exact h1
    · split
      · exact h1
      · split
        · exact h1
        · split
          · simp only []; omega
          · split
            · simp only []; omega
            · split
              · split
                · simp only []; omega
                · simp only []; omega
              · simp only []; omega
  · exact h1
theorem codedGo_le (M D : List (Nat × Nat)) (u : Nat) (src dict : List Nat) : ∀ f p out e, p ≤ (codedGo M D u src dict f p out e).1 := by
  intro f
  induction f with
  | zero => intro p out e; exact Nat.le_refl _
  | succ f ih =>
    intro p out e
    simp only [codedGo]
    have h := codedStep_le M D u src dict p out e
    split
    · split
      · exact h
      · exact Nat.le_trans h (ih _ _ _)
    · exact Nat.le_refl _
theorem codedS_le (lit dist src dict : List Nat) (p : Nat) (out : List Nat) (e : Int) : p ≤ (codedS lit dist src dict p out e).1 := codedGo_le _ _ _ _ _ _ _ _ _
theorem lenGo_le (src : List Nat) (p : Nat) (e : Int) (k : Nat) : p ≤ (lenGo src p e k).2.1 := by
  induction k with
  | zero => exact Nat.le_refl _
  | succ k ih => exact Nat.le_trans ih (bitsAt_pos _ _ _ _)
theorem repS_le (src l : List Nat) (k p : Nat) (e : Int) : p ≤ (repS src l k p e).2.2.1 := by
  unfold repS; split
  · exact bitsAt_pos _ _ _ _
  · split
    · exact bitsAt_pos _ _ _ _
    · split
      · exact bitsAt_pos _ _ _ _
      · exact Nat.le_refl _
theorem toldGo_le (M : List (Nat × Nat)) (src : List Nat) (many : Nat) : ∀ f l p e, p ≤ (toldGo M src many f l p e).2.1 := by
  intro f
  induction f with
  | zero => intro l p e; exact Nat.le_refl _
  | succ f ih =>
    intro l p e
    have h1 := symS_le M src p e
    simp only [toldGo]
    split
    · split
      · split
        · exact h1
        · exact Nat.le_trans h1 (Nat.le_trans (repS_le _ _ _ _ _) (ih _ _ _))
      · exact h1
    · exact Nat.le_refl _
theorem dynS_le (src dict : List Nat) (p : Nat) (out : List Nat) (e : Int) : p ≤ (dynS src dict p out e).1 := by
  unfold dynS
  simp only []
  unfold dynTail
  have h0 := bitsAt_pos src p e 5
  generalize bitsAt src p e 5 = a at *
  have h1 := bitsAt_pos src a.2.1 a.2.2 5
  generalize bitsAt src a.2.1 a.2.2 5 = b at *
  have h2 := bitsAt_pos src b.2.1 b.2.2 4
  generalize bitsAt src b.2.1 b.2.2 4 = c at *
  have h3 := lenGo_le src c.2.1 (headE c.2.2 (257 + a.1) (1 + b.1)) (4 + c.1)
  generalize lenGo src c.2.1 (headE c.2.2 (257 + a.1) (1 + b.1)) (4 + c.1) = g at *
  have h4 : g.2.1 ≤ (toldS (bookL g.1) src (257 + a.1 + (1 + b.1)) g.2.1 (if g.2.2 < 0 then wholeE g.2.2 g.1 else g.2.2)).2.1 := toldGo_le _ _ _ _ _ _ _
  generalize toldS (bookL g.1) src (257 + a.1 + (1 + b.1)) g.2.1 (if g.2.2 < 0 then wholeE g.2.2 g.1 else g.2.2) = t at *
  split
  · exact Nat.le_trans (by omega) (codedS_le _ _ _ _ _ _ _)
  · simp only []; omega
theorem kindS_le (src dict : List Nat) (t p : Nat) (out : List Nat) (e : Int) : p ≤ (kindS src dict t p out e).1 := by
  unfold kindS; split
  · exact storedS_le _ _ _ _
  · split
    · exact codedS_le _ _ _ _ _ _ _
    · split
      · exact dynS_le _ _ _ _ _
      · exact Nat.le_refl _
theorem kindS_off (src dict : List Nat) (t p : Nat) (out : List Nat) {e : Int} (h : ¬ e < 0) : (kindS src dict t p out e).2.2 = e := by
  unfold kindS; split
  · exact storedS_off _ _ _ h
  · split
    · rw [codedS_off _ _ _ _ _ _ h]
    · split
      · exact dynS_off _ _ _ _ h
      · exact stopE_off h _
theorem blockS_pos {src dict : List Nat} {p : Nat} {out : List Nat} {e : Int} (he : e < 0) (h : (blockS src dict p out e).2.2.2 < 0) : p < (blockS src dict p out e).2.1 := by
  unfold blockS at *
  dsimp only [] at *
  by_cases hp : p / 8 < src.length
  · have h1 : bitP src p e = p + 1 := by unfold bitP; rw [if_pos ⟨he, hp⟩]
    have h2 := bitsAt_pos src (bitP src p e) (bitE src p e) 2
    rw [h1] at *
    generalize bitsAt src (p + 1) (bitE src p e) 2 = a at *
    have h3 := kindS_le src dict a.1 a.2.1 out a.2.2
    generalize kindS src dict a.1 a.2.1 out a.2.2 = k at *
    omega
  · have h1 : bitE src p e = 3 := by unfold bitE; rw [if_pos ⟨he, by omega⟩]
    rw [h1, bitsAt_off src _ (by omega)] at h
    dsimp only [] at h
    rw [kindS_off _ _ _ _ _ (by omega)] at h
    omega

set_option maxRecDepth 100000 in
theorem fix_pre : 2 ≤ (bookL fixLit).length ∧ (usedL fixDist ≠ 0 → 2 ≤ (bookL fixDist).length ∨ ∃ v, bookL fixDist = [(2, v)]) := by
  refine ⟨book_two (by decide +kernel) (by decide +kernel), fun _ => .inl (book_two (by decide +kernel) (by decide +kernel))⟩

theorem fix_le : (∀ x ∈ fixLit, x ≤ 15) ∧ (∀ x ∈ fixDist, x ≤ 15) := by
  constructor
  · decide +kernel
  · decide +kernel
theorem fix_len : fixLit.length ≤ 300 ∧ fixDist.length ≤ 40 := by
  constructor
  · decide +kernel
  · decide +kernel

section
variable {Z : Nat} {src dict : List Nat} {w : World} {p : Nat} {out : List Nat} {e : Int}

set_option maxRecDepth 100000 in
set_option maxHeartbeats 2000000 in
theorem block_any (hS : SOK Z src dict w p out e) :
    Calls Tryd.prog 17 #[.pointer (some ⟨Z, 0, none⟩)] w fun r w' => r = .returned (.bool (blockS src dict p out e).1) ∧
      SOK Z src dict w' (blockS src dict p out e).2.1 (blockS src dict p out e).2.2.1 (blockS src dict p out e).2.2.2 ∧ Keep Z w w' := by
  have HB : Hid (blockS src dict p out e = (bitR src p e == 1, kindS src dict (bitsAt src (bitP src p e) (bitE src p e) 2).1 (bitsAt src (bitP src p e) (bitE src p e) 2).2.1 out (bitsAt src (bitP src p e) (bitE src p e) 2).2.2)) := Lib.hid rfl
  have hf := bitR_lt src p e
  go_enter Tryd.func17, Tryd.ntmps17
  go_wp2_with fail
  refine (bit_any hS).mono ?_; rintro r w1 ⟨rfl, hS1, hK1⟩
  go_wp2_with fail
  refine (bits_any hS1 2 (by omega)).mono ?_; rintro r w2 ⟨rfl, hS2, hK2⟩
  have hb2 := bitsAt_lt src (bitP src p e) (bitE src p e) 2
  have hK12 := hK1.trans hK2
  generalize bitsAt src (bitP src p e) (bitE src p e) 2 = T at *
  generalize bitR src p e = fb at *
  generalize hR : blockS src dict p out e = R at *
  have HR := Lib.hid hR
  obtain ⟨t, p2, e2⟩ := T
  simp only [] at hS2 hb2 HB
  have hb2 : t < 4 := by omega
  clear hR hS1 hK1 hK2
  have hfin : Ending.returned (.bool ((fb : Int) == 1)) = .returned (.bool (fb == 1)) := by
    congr 2
    by_cases h : fb = 1
    · subst h; rfl
    · rw [beq_eq_false_iff_ne.2 h, beq_eq_false_iff_ne.2 (by omega)]
  have HF := Lib.hid hfin
  clear hfin
  have hfd : ∀ x ∈ fixLit, x ≤ 15 := fix_le.1
  have hfd' : ∀ x ∈ fixDist, x ≤ 15 := fix_le.2
  by_cases t0 : t = 0
  · subst t0
    have q0 : (((0 : Nat) : Int) == 0) = true := rfl
    go_wp2_with fail
    refine (stored_any hS2).mono ?_; rintro r w3 ⟨rfl, hS3, hK3⟩
    go_wp2_with fail
    have hk : kindS src dict 0 p2 out e2 = storedS src p2 out e2 := rfl
    rw [hk] at HB
    go_ret
    rw [HR.out, HB.out]
    exact ⟨HF.out, hS3, hK12.trans hK3⟩
  have q0 : ((t : Int) == 0) = false := beq_eq_false_iff_ne.2 (by omega)
  by_cases t1 : t = 1
  · subst t1
    have q1 : (((1 : Nat) : Int) == 1) = true := rfl
    go_wp2_with fail
    refine (fixed_any _).mono ?_; rintro r w3 ⟨v1, v2, rfl, hv1, hv2, hn3⟩
    go_wp2_with fail
    refine (coded_any (hS2.new hn3) v1 v2 fixLit fixDist hv1 hv2 fix_len.1 fix_len.2 hfd hfd' (fun _ => fix_pre)).mono ?_; rintro r w4 ⟨rfl, hS4, hK4⟩
    go_wp2_with fail
    have hk : kindS src dict 1 p2 out e2 = codedS fixLit fixDist src dict p2 out e2 := rfl
    rw [hk] at HB
    go_ret
    rw [HR.out, HB.out]
    exact ⟨HF.out, hS4, (hK12.trans (hn3.keep Z)).trans hK4⟩
  have q1 : ((t : Int) == 1) = false := beq_eq_false_iff_ne.2 (by omega)
  by_cases t2 : t = 2
  · subst t2
    have q2 : (((2 : Nat) : Int) == 2) = true := rfl
    go_wp2_with fail
    refine (dynamic_any hS2).mono ?_; rintro r w3 ⟨rfl, hS3, hK3⟩
    go_wp2_with fail
    have hk : kindS src dict 2 p2 out e2 = dynS src dict p2 out e2 := rfl
    rw [hk] at HB
    go_ret
    rw [HR.out, HB.out]
    exact ⟨HF.out, hS3, hK12.trans hK3⟩
  have q2 : ((t : Int) == 2) = false := beq_eq_false_iff_ne.2 (by omega)
  go_wp2_with fail
  refine (stop_any hS2 2 (by omega) (by omega)).mono ?_; rintro r w3 ⟨rfl, hS3, hK3⟩
  go_wp2_with fail
  have hk : kindS src dict t p2 out e2 = (p2, out, stopE e2 2) := by unfold kindS; rw [if_neg t0, if_neg t1, if_neg t2]
  rw [hk] at HB
  go_ret
  rw [HR.out, HB.out]
  exact ⟨HF.out, hS3, hK12.trans hK3⟩
end
end Go.Proofs.YtbbnibbdiiffkaaDoor

/- The reference's Inflate. -/
namespace Go.Proofs.YtbbnibbdiiffkaaDoor
open Go.RowKit

/-- The bytes that a dictionary is worth. -/
def lastD (d : List Nat) : List Nat := d.drop (d.length - 32768)
/-- A slice of bytes as one takes it: none, or at an address with room. -/
def Tidy (v : Value) : Prop := ∀ a n c, v = .slice a n c → n ≤ c ∧ (a = none → n = 0 ∧ c = 0)

theorem stopE_ge (e : Int) : ¬ stopE e 1 < 0 := by unfold stopE; split <;> omega
theorem finE_stop (b : Bool) (e : Int) : finE b e = if b then stopE e 1 else e := rfl

theorem own_rd {w : World} {base n : Nat} {v : Value} {xs : List Nat} (h : w.ownsRow base 5 1 v n (xs.map u8)) : Rd w v xs ∧ Tidy v := by
  have hn : xs.length = n := by have := h.1; simpa using this
  subst hn
  obtain ⟨a, cap, rfl⟩ := own_shape h
  rcases h.2 with ⟨h1, h2⟩ | ⟨g, cap', cur, h1, h2, h3, h4, h5, h6, h7⟩
  · simp only [Value.slice.injEq] at h1
    obtain ⟨rfl, hl, rfl⟩ := h1
    refine ⟨⟨none, 0, rfl, fun j hj => by omega⟩, ?_⟩
    intro a n c he
    simp only [Value.slice.injEq] at he
    obtain ⟨rfl, rfl, rfl⟩ := he
    exact ⟨by omega, fun _ => ⟨hl, rfl⟩⟩
  · simp only [Value.slice.injEq] at h1
    obtain ⟨rfl, -, rfl⟩ := h1
    constructor
    · refine ⟨_, cap, rfl, fun j hj => ⟨g, 0, rfl, lt_of_block h3, ?_⟩⟩
      have : (cur.toList.take (xs.length * 1))[j]? = some (u8 (xs.getD j 0)) := by
        rw [h7]; simp [List.getElem?_eq_getElem hj, List.getD_eq_getElem?_getD]
      rw [List.getElem?_take, if_pos (by omega)] at this
      simp only [World.cell?, h3]
      simpa using this
    · intro a n c he
      simp only [Value.slice.injEq] at he
      obtain ⟨rfl, rfl, rfl⟩ := he
      exact ⟨h4, fun f => by cases f⟩

theorem new_of_keep {w w' : World} {Z : Nat} {o : Obj} (hz : w.heap.size = Z) (h : Keep Z (w.alloc o) w') (n : Nat) : New w (w'.drewN n) := by
  have h0 : New w (w.alloc o) := (Frm.refl _ _).alloc _
  refine ⟨h.os.trans h0.os, h.tape.trans h0.tape, h.output.trans h0.output, Nat.le_trans h0.size h.size, fun k hk hs => ?_⟩
  rw [heap_drewN]
  exact (h.under (by omega) (Nat.lt_of_lt_of_le hk h0.size)).trans (h0.block k hk hs)

set_option maxRecDepth 100000 in
set_option maxHeartbeats 2000000 in
theorem inflate_any (w : World) (srcV dictV : Value) (src dict : List Nat) (hs : Rd w srcV src) (hd : Rd w dictV dict) (ht : Tidy dictV) (hsm : src.length ≤ 100000) (hdm : dict.length ≤ 65536)
    (hus : ∀ x ∈ src, x < 256) (hud : ∀ x ∈ dict, x < 256) (hns : ∀ b off n cap, srcV = .slice (some ⟨b, off, none⟩) n cap → b < w.heap.size) (hnd : ∀ b off n cap, dictV = .slice (some ⟨b, off, none⟩) n cap → b < w.heap.size) :
    Calls Tryd.prog 10 #[srcV, dictV] w fun r w' => ∃ outV, r = .returned (.tuple #[outV, .int .i64 (inflS src (lastD dict)).2.2, vi (((inflS src (lastD dict)).1 + 7) / 8)]) ∧
      Rd w' outV (inflS src (lastD dict)).2.1 ∧ Tidy outV ∧ New w w' := by
  obtain ⟨a, cap, rfl, hcd⟩ := hd
  obtain ⟨a1, cap1, rfl, hcs⟩ := hs
  have ⟨hlc, hnone⟩ := ht _ _ _ rfl
  go_enter Tryd.func10, Tryd.ntmps10
  have HR0 : Hid (inflS src (lastD dict) = inflGo src (lastD dict) (8 * src.length + 1) 0 [] (-1)) := Lib.hid rfl
  generalize hRe : inflS src (lastD dict) = R at *
  have HRe := Lib.hid hRe
  clear hRe
  have hfin : ∀ dv, Rd w dv (lastD dict) → (∀ b off n cap, dv = .slice (some ⟨b, off, none⟩) n cap → b < w.heap.size) →
      SOK w.heap.size src (lastD dict) (w.alloc (.cells #[.slice a1 src.length cap1, .int .i64 0, dv, .slice none 0 0, .int .i64 (-1)] 71)) 0 [] (-1) := by
    intro dv hdv hdn
    refine ⟨_, _, _, ⟨heap_alloc_new w _, Rd.frm ⟨_, _, rfl, hcs⟩ (Frm.alloc (Frm.refl (fun _ => False) w) _) (fun _ _ _ _ _ f => f), hdv.frm (Frm.alloc (Frm.refl (fun _ => False) w) _) (fun _ _ _ _ _ f => f), hns, hdn, World.ownsRow_nil _ _ _ _, Nat.zero_le _, hsm, ?_, Nat.zero_le _, hus, ?_, by omega, by omega⟩⟩
    · unfold lastD; simp; omega
    · intro x hx; exact hud x (List.mem_of_mem_drop hx)
  have HF := Lib.hid hfin
  clear hfin
  have hq0 : New w w := Frm.refl _ _
  by_cases hb : (32768 : Int) < dict.length
  obtain ⟨ad, rfl⟩ : ∃ ad, a = some ad := by cases a with | none => have := hnone rfl; omega | some ad => exact ⟨ad, rfl⟩
  obtain ⟨b0, o0, hb1, hb2⟩ : ∃ b0 o0, ad = ⟨b0, o0, none⟩ ∧ b0 < w.heap.size := by obtain ⟨b0, o0, h1, h2, h3⟩ := hcd 0 (by omega); exact ⟨b0, o0, Option.some.inj h1, h2⟩
  subst hb1
  have hl : lastD dict = dict.drop (dict.length - 32768) := rfl
  have y0 : ((dict.length : Int) - 32768).toNat = dict.length - 32768 := by omega
  have y1 : ¬ cap = dict.length - 32768 := by omega
  have y2 : (dict.length : Int) ≤ cap := by omega
  have y3 : ¬ cap - (dict.length - 32768) = 0 := by omega
  have hS0 := HF.out (.slice (some ⟨b0, o0 + (dict.length - 32768), none⟩) (dict.length - (dict.length - 32768)) (cap - (dict.length - 32768))) (by
    refine ⟨some ⟨b0, o0 + (dict.length - 32768), none⟩, cap - (dict.length - 32768), by rw [hl, List.length_drop], fun j hj => ?_⟩
    rw [hl] at hj
    simp only [List.length_drop] at hj
    obtain ⟨b', off', h1, h2, h3⟩ := hcd (dict.length - 32768 + j) (by omega)
    cases h1
    refine ⟨_, _, rfl, h2, ?_⟩
    rw [Nat.add_assoc, h3, hl, List.getD_eq_getElem?_getD, List.getD_eq_getElem?_getD, List.getElem?_drop]) (by intro b off n c h; cases h; exact hb2)
  clear HF
  go_wp2_with fail
  generalize hdv : Value.slice (some ⟨b0, o0 + (dict.length - 32768), none⟩) (dict.length - (dict.length - 32768)) (cap - (dict.length - 32768)) = dv at *
  rotate_left
  have hl : lastD dict = dict := by unfold lastD; rw [show dict.length - 32768 = 0 by omega]; rfl
  have hS0 := HF.out (.slice a dict.length cap) (by rw [hl]; exact ⟨_, _, rfl, hcd⟩) hnd
  clear HF
  go_wp2_with fail
  all_goals
    generalize hw0 : w.alloc _ = w0 at *
    have HW0 := Lib.hid hw0
    have hsz : w0.heap.size = w.heap.size + 1 := by rw [← hw0]; simp
    clear hw0
    generalize hZ : w.heap.size = Z at *
    have HZ := Lib.hid hZ
    clear hZ
    go_loopw [17, 18] (fun _ _ wr => ∃ (pj : Nat) (oj : List Nat) (ej : Int) (f : Nat), SOK Z src (lastD dict) wr pj oj ej ∧ R = inflGo src (lastD dict) f pj oj ej ∧ (ej < 0 → 8 * src.length < f + pj) ∧ Keep Z w0 wr) (fun _ _ wr => zMeas Z src.length wr)
    case atStart => exact ⟨0, [], -1, _, hS0, HR0.out, fun _ => by omega, Keep.refl _ _⟩
    case round =>
      clear hS0 HR0
      obtain ⟨pj, oj, ej, f, hSj, hR, hf, hKj⟩ := hrel
      have HR := Lib.hid hR
      clear hR
      by_cases he : ej < 0
      · obtain ⟨f, rfl⟩ : ∃ g, f = g + 1 := ⟨f - 1, by have := hf he; have := hSj.posn; omega⟩
        have hfp := hf he
        have hm := hSj.meas src.length
        rw [if_pos he] at hm
        have HME := Lib.hid hm
        have hpj := hSj.posn
        have HE := Lib.hid he
        clear hf hm
        go_wp2_with fail
        refine (on_yes hSj he).mono ?_; rintro r w3 ⟨rfl, rfl⟩
        go_wp2_with fail
        refine (block_any hSj).mono ?_; rintro r w3 ⟨rfl, hS3, hK3⟩
        have hpos := @blockS_pos src (lastD dict) pj oj ej he
        have HG : Hid (R = inflGo src (lastD dict) f (blockS src (lastD dict) pj oj ej).2.1 (blockS src (lastD dict) pj oj ej).2.2.1 (finE (blockS src (lastD dict) pj oj ej).1 (blockS src (lastD dict) pj oj ej).2.2.2)) := Lib.hid (by rw [HR.out, inflGo_on f he])
        generalize blockS src (lastD dict) pj oj ej = B at *
        obtain ⟨fb, p1, o1, e1⟩ := B
        simp only [] at hS3 hpos HG
        have hK := hKj.trans hK3
        have hp1 := hS3.posn
        clear hK3 hKj
        cases fb with
        | true =>
          go_wp2_with fail
          refine (stop_any hS3 1 (by omega) (by omega)).mono ?_; rintro r w4 ⟨rfl, hS4, hK4⟩
          have hm4 := hS4.meas src.length
          go_wp2_with fail
          go_roundw
          case rel => exact ⟨p1, o1, _, f, hS4, HG.out, fun q => absurd q (stopE_ge e1), hK.trans hK4⟩
          case measure => rw [hm4, HME.out, if_neg (stopE_ge e1)]; omega
        | false =>
          have hm4 := hS3.meas src.length
          go_wp2_with fail
          go_roundw
          case rel => exact ⟨p1, o1, _, f, hS3, HG.out, fun q => by have q : e1 < 0 := q; have := hpos q; omega, hK⟩
          case measure => rw [hm4, HME.out]; have := hpos; split <;> omega
      · obtain ⟨srcV', dictV', outV', hA⟩ := hSj
        have hSj : SOK Z src (lastD dict) wr pj oj ej := ⟨_, _, _, hA⟩
        have c1 := hA.c1
        have c3 := hA.c3
        have c4 := hA.c4
        have hpj := hA.pos
        rw [inflGo_off f he] at HR
        have y1 : wrap64 ((pj : Int) + 7) = ((pj + 7 : Nat) : Int) := by unfold wrap64; omega
        have y2 : Int.tdiv ((pj + 7 : Nat) : Int) 8 = (((pj + 7) / 8 : Nat) : Int) := rfl
        go_wp2_with fail
        refine (on_no hSj (by omega)).mono ?_; rintro r w3 ⟨rfl, rfl⟩
        go_wp2_with fail
        go_quiet (fail)
        go_wp2_with fail
        go_ret3
        rw [HR.out]
        refine ⟨outV', ?_, (own_rd (hA.drewN nq).own).1, (own_rd hA.own).2, ?_⟩
        · have y3 : ((pj : Int) + 7) / 8 = (((pj + 7) / 8 : Nat) : Int) := by omega
          show Ending.returned (.tuple #[outV', .int .i64 ej, .int .i64 (((pj : Int) + 7) / 8)]) = _
          rw [y3]
        · rw [← HW0.out] at hKj
          exact new_of_keep HZ.out hKj nq
end Go.Proofs.YtbbnibbdiiffkaaDoor
