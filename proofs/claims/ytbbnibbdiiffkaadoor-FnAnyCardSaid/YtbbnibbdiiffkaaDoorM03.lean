/- The reference's reading of a symbol, bit by bit. The reference's reading of the lengths of codes. -/
import Derived.Deep.RegionWith
import Derived.Test.YtbbnibbdiiffkaaDoorM02

/- The reference's reading of a symbol, bit by bit. -/
namespace Go.Proofs.YtbbnibbdiiffkaaDoor
open Go.RowKit

/-- A walk over the one entry of a map. -/
def itObj (b : Nat) (seen : Array Nat) : Obj := .mapIter (some b) 1 seen 1

theorem run_range_m {w : World} {b v : Nat} (hb : w.heap[b]? = some (mBlk [(2, v)])) :
    (Instr.range 101 (.map (some b))).run Tryd.prog w = .ok (.pointer (some ⟨w.heap.size, 0, none⟩)) (w.alloc (itObj b #[])) := by
  rw [mBlk_eq] at hb
  simp [Instr.range, run_underlying Tryd.underlying101, MapKept.run_getObj_map hb, itObj]

theorem run_next1_m {w : World} {b v i : Nat} (hb : w.heap[b]? = some (mBlk [(2, v)])) (hi : w.heap[i]? = some (itObj b #[])) (ty : TypeId) :
    (Instr.next (.pointer (some ⟨i, 0, none⟩)) false ty).run Tryd.prog w = .ok (.tuple #[.bool true, vi 2, vi v]) (setBlk w i (itObj b #[0])) := by
  rw [mBlk_eq] at hb
  unfold itObj at hi
  simp [Instr.next, getObj, Sem.run, hi, hb, mEnt, choose, Question.forced, setObj, setBlk, itObj]

theorem run_entry_m {w : World} {b v i : Nat} (hb : w.heap[b]? = some (mBlk [(2, v)])) (hi : w.heap[i]? = some (itObj b #[0])) :
    (Instr.entry (.pointer (some ⟨i, 0, none⟩))).run Tryd.prog w = .ok (.tuple #[vi 2, vi v]) w := by
  rw [mBlk_eq] at hb
  unfold itObj at hi
  simp [Instr.entry, getObj, Sem.run, hi, hb, mEnt]

theorem run_next2_m {w : World} {b v i : Nat} (hb : w.heap[b]? = some (mBlk [(2, v)])) (hi : w.heap[i]? = some (itObj b #[0])) (ty : TypeId) :
    (Instr.next (.pointer (some ⟨i, 0, none⟩)) false ty).run Tryd.prog w = .ok (.tuple #[.bool false]) w := by
  rw [mBlk_eq] at hb
  unfold itObj at hi
  simp [Instr.next, getObj, Sem.run, hi, hb, mEnt, choose, Question.forced]

set_option maxRecDepth 100000 in
set_option maxHeartbeats 1000000 in
theorem leads_any {w : World} {b v : Nat} (hb : w.heap[b]? = some (mBlk [(2, v)])) :
    Calls Tryd.prog 64 #[.map (some b), .int .i64 3] w fun r w' => r = .returned (.bool false) ∧ New w w' := by
  have hbl := lt_of_block hb
  have h0 := run_range_m hb
  have hb1 : (w.alloc (itObj b #[])).heap[b]? = some (mBlk [(2, v)]) := by rw [Below.heap_alloc _ _ _ hbl]; exact hb
  have hi1 : (w.alloc (itObj b #[])).heap[w.heap.size]? = some (itObj b #[]) := heap_alloc_new w _
  have hb2 : (setBlk (w.alloc (itObj b #[])) w.heap.size (itObj b #[0])).heap[b]? = some (mBlk [(2, v)]) := by rw [setBlk_other (by omega)]; exact hb1
  have hi2 : (setBlk (w.alloc (itObj b #[])) w.heap.size (itObj b #[0])).heap[w.heap.size]? = some (itObj b #[0]) := setBlk_heap (by simp)
  have h1 := run_next1_m hb1 hi1
  have h2 := run_entry_m hb2 hi2
  have h3 := run_next2_m hb2 hi2
  have hn : New w (setBlk (w.alloc (itObj b #[])) w.heap.size (itObj b #[0])) := ((Frm.refl _ _).alloc _).setBlk (Nat.le_refl _) _
  clear hb1 hi1 hb2 hi2 hb hbl
  go_enter Tryd.func64, Tryd.ntmps64
  go_wp2
  refine wp_loop_rounds 2 ?_
  rw [rounds_succ]
  go_wp2
  refine wp_loop_rounds 1 ?_
  rw [rounds_succ]
  go_wp2
  rw [rounds_succ]
  go_wp2
  go_ret
  exact ⟨rfl, hn⟩


/-- The reading of a symbol by a book, of which n bits may still be read. -/
def symGo (M : List (Nat × Nat)) (src : List Nat) : Nat → Nat → Nat → Nat × Nat × Int
  | 0, _, p => (0, p, 0)
  | n + 1, c, p =>
    if p / 8 < src.length then
      match mGet M (2 * c + bitV src p) with
      | some k => (k, p + 1, -1)
      | none => if M.length < 2 then (0, p + 1, 0) else symGo M src n (2 * c + bitV src p) (p + 1)
    else (0, p, 3)
def symS (M : List (Nat × Nat)) (src : List Nat) (p : Nat) (e : Int) : Nat × Nat × Int := if e < 0 then symGo M src 15 1 p else (0, p, e)

theorem bitV_lt (src : List Nat) (p : Nat) : bitV src p < 2 := by unfold bitV; omega

section
variable {Z : Nat} {src dict : List Nat} {w : World} {p : Nat} {out : List Nat} {e : Int}

theorem SOK.blk (hS : SOK Z src dict w p out e) : ∃ cs, w.heap[Z]? = some (.cells cs 71 (0, 0)) := by
  obtain ⟨_, _, _, h⟩ := hS; exact ⟨_, h.blk⟩
theorem SOK.lo (hS : SOK Z src dict w p out e) : -1 ≤ e := by obtain ⟨_, _, _, h⟩ := hS; exact h.lo
theorem SOK.posn (hS : SOK Z src dict w p out e) : p ≤ 8 * src.length := by obtain ⟨_, _, _, h⟩ := hS; exact h.pos
theorem SOK.new (hS : SOK Z src dict w p out e) {w' : World} (hn : New w w') : SOK Z src dict w' p out e := by
  obtain ⟨a, b, c, h⟩ := hS
  have hk : Keep Z w w' := Frm.mono hn fun _ _ f => f.elim
  refine ⟨a, b, c, h.again hk (hn.heap h.blk) ?_ h.pos h.osmall h.lo h.hi⟩
  obtain ⟨h1, h2⟩ := h.own
  refine ⟨h1, ?_⟩
  rcases h2 with h2 | ⟨g, cap, cur, hv, hg, hh, r⟩
  · exact .inl h2
  · exact .inr ⟨g, cap, cur, hv, hg, hn.heap hh, r⟩
theorem New.keep {w w' : World} (hn : New w w') (Z : Nat) : Keep Z w w' := Frm.mono hn fun _ _ f => f.elim
theorem map_keep {b : Nat} {M : List (Nat × Nat)} {w w' : World} {cs : Array Value} (hb : w.heap[b]? = some (mBlk M)) (hk : Keep Z w w') (hz : w.heap[Z]? = some (.cells cs 71 (0, 0))) : w'.heap[b]? = some (mBlk M) :=
  hk.other hb (fun e => by subst e; rw [hz] at hb; cases hb) (fun c f e => by cases e)

set_option maxRecDepth 100000 in
set_option maxHeartbeats 2000000 in
theorem symbol_any (hS : SOK Z src dict w p out e) {b : Nat} {M : List (Nat × Nat)} (hb : w.heap[b]? = some (mBlk M)) (hM : 2 ≤ M.length ∨ ∃ v, M = [(2, v)]) (hsmall : M.length ≤ 1000) :
    Calls Tryd.prog 49 #[.pointer (some ⟨Z, 0, none⟩), .map (some b)] w fun r w' => r = .returned (vi (symS M src p e).1) ∧
      SOK Z src dict w' (symS M src p e).2.1 out (symS M src p e).2.2 ∧ Keep Z w w' := by
  by_cases he : e < 0
  · have hE : symS M src p e = symGo M src 15 1 p := if_pos he
    have he1 : e = -1 := by have := hS.lo; omega
    subst he1
    generalize symS M src p (-1) = R at *
    have HE := Lib.hid hE
    clear hE he
    go_enter Tryd.func49, Tryd.ntmps49
    go_wp2
    go_loopw [5, 8] (fun cv iv wr => ∃ j c pj : Nat, j ≤ 15 ∧ iv = .int .i64 j ∧ cv = vi c ∧ c < 2 ^ (j + 1) ∧ SOK Z src dict wr pj out (-1) ∧ symGo M src 15 1 p = symGo M src (15 - j) c pj ∧ Keep Z w wr ∧ wr.heap[b]? = some (mBlk M) ∧ (2 ≤ M.length ∨ (j = 0 ∧ c = 1))) (fun _ i _ => 15 - (intOf i).toNat)
    case atStart => exact ⟨0, 1, p, Nat.zero_le _, rfl, rfl, by decide, hS, rfl, Keep.refl _ _, hb, .inr ⟨rfl, rfl⟩⟩
    case round =>
      obtain ⟨j, c, pj, hj, rfl, rfl, hcb, hSj, hG, hKj, hbj, hone⟩ := hrel
      have HONE := Lib.hid hone
      clear hone
      have HG := Lib.hid hG
      clear hG
      have hcb2 : c < 65536 := Nat.lt_of_lt_of_le hcb (Nat.pow_le_pow_right (n := 2) (by decide) (by omega : j + 1 ≤ 16))
      have HCB := Lib.hid hcb
      clear hcb
      by_cases hlt : j < 15
      · obtain ⟨m, hm⟩ : ∃ m, 15 - j = m + 1 := ⟨14 - j, by omega⟩
        have HM := Lib.hid (show 15 - (j + 1) = m by omega)
        rw [hm] at HG
        clear hm
        have hbl := bitV_lt src pj
        have hbR : bitR src pj (-1) < 2 := bitR_lt _ _ _
        go_wp2_with fail
        refine (bit_any hSj).mono ?_; rintro r w1 ⟨rfl, hS1, hK1⟩
        have hb1 := map_keep hbj hK1 hSj.blk.choose_spec
        by_cases hp : pj / 8 < src.length
        · have h1 : bitR src pj (-1) = bitV src pj ∧ bitP src pj (-1) = pj + 1 ∧ bitE src pj (-1) = -1 := by
            unfold bitR bitP bitE; rw [if_pos ⟨by omega, hp⟩, if_pos ⟨by omega, hp⟩, if_neg (by omega)]; exact ⟨rfl, rfl, rfl⟩
          rw [h1.2.1, h1.2.2] at hS1
          rw [h1.1]
          have HG1 : Hid (symGo M src (m + 1) c pj = match mGet M (2 * c + bitV src pj) with | some k => (k, pj + 1, -1) | none => if M.length < 2 then (0, pj + 1, 0) else symGo M src m (2 * c + bitV src pj) (pj + 1)) := by
            simp only [symGo]; rw [if_pos hp]; exact rfl
          generalize bitV src pj = bb at *
          clear h1 hbR
          go_wp2_with fail
          refine (on_yes hS1 (by omega)).mono ?_; rintro r w2 ⟨rfl, rfl⟩
          have hlk := run_lookup_m hb1 (2 * c + bb)
          rw [show vi (2 * c + bb) = .int .i64 (2 * (c : Int) + (bb : Int)) from congrArg (Value.int .i64) (by omega)] at hlk
          have hln := run_len_m hb1 3
          have hc1 : 2 * c + bb < 2 ^ (j + 1 + 1) := by have := HCB.out; rw [Nat.pow_succ]; omega
          have HC1 := Lib.hid hc1
          clear hc1
          cases hg : mGet M (2 * c + bb) with
          | some k =>
            rw [hg] at hlk HG1
            simp only [Option.getD_some, Option.isSome_some] at hlk HG1
            clear hg hln
            go_wp2_with fail
            go_ret
            exact ⟨by rw [HE.out, HG.out, HG1.out]; rfl, by rw [HE.out, HG.out, HG1.out]; exact hS1, hKj.trans hK1⟩
          | none =>
            rw [hg] at hlk HG1
            simp only [Option.getD_none, Option.isSome_none] at hlk HG1
            rcases hM with hM | ⟨v, rfl⟩
            · have HM2 := Lib.hid hM
              clear hg
              have ht : decide ((M.length : Int) < 2) = false := decide_eq_false (by omega)
              clear hM
              go_wp2_with fail
              go_roundw
              case rel => exact ⟨j + 1, 2 * c + bb, pj + 1, hlt, rfl, by go_num, HC1.out, hS1, by rw [HG.out, HG1.out, if_neg (by have := HM2.out; omega), HM.out], hKj.trans hK1, hb1, .inl HM2.out⟩
              case measure => simp [intOf]; omega
            · have hone := HONE.out
              simp only [List.length_cons, List.length_nil] at hone
              obtain ⟨rfl, rfl⟩ : j = 0 ∧ c = 1 := by omega
              have hbb : bb = 1 := by
                rcases (show bb = 0 ∨ bb = 1 by omega) with h | h
                · subst h; simp [mGet] at hg
                · exact h
              subst hbb
              have hln' : Sem.run Tryd.prog (Builtin.len_ #[101] 3 #[Value.map (some b)]) w1 = Result.ok (vi 1) w1 := hln
              have hlk' : Sem.run Tryd.prog (Instr.lookup 101 (Value.map (some b)) (Value.int IntKind.i64 3) true) w1 = Result.ok (Value.tuple #[vi 0, Value.bool false]) w1 := hlk
              clear hln hg hone hlk
              go_wp2_with fail
              refine (leads_any hb1).mono ?_; rintro r w2 ⟨rfl, hn2⟩
              have hS2 := hS1.new hn2
              go_wp2_with fail
              refine (stop_any hS2 0 (by omega) (by omega)).mono ?_; rintro r w3 ⟨rfl, hS3, hK3⟩
              go_wp2_with fail
              go_ret
              exact ⟨by rw [HE.out, HG.out, HG1.out]; rfl, by rw [HE.out, HG.out, HG1.out]; exact hS3, hKj.trans (hK1.trans ((hn2.keep Z).trans hK3))⟩
        · have h1 : bitR src pj (-1) = 0 ∧ bitP src pj (-1) = pj ∧ bitE src pj (-1) = 3 := by
            unfold bitR bitP bitE; rw [if_neg (by omega), if_neg (by omega), if_pos ⟨by omega, by omega⟩]; exact ⟨rfl, rfl, rfl⟩
          rw [h1.2.1, h1.2.2] at hS1
          rw [h1.1]
          have HG1 : Hid (symGo M src (m + 1) c pj = (0, pj, 3)) := by simp only [symGo]; rw [if_neg hp]; exact rfl
          clear h1 hbR
          go_wp2_with fail
          refine (on_no hS1 (by omega)).mono ?_; rintro r w2 ⟨rfl, rfl⟩
          go_wp2_with fail
          go_ret
          exact ⟨by rw [HE.out, HG.out, HG1.out]; rfl, by rw [HE.out, HG.out, HG1.out]; exact hS1, hKj.trans hK1⟩
      · obtain rfl : j = 15 := by omega
        go_wp2_with fail
        refine (stop_any hSj 0 (by omega) (by omega)).mono ?_; rintro r w1 ⟨rfl, hS1, hK1⟩
        go_wp2_with fail
        go_ret
        exact ⟨by rw [HE.out, HG.out]; rfl, by rw [HE.out, HG.out]; exact hS1, hKj.trans hK1⟩
  · have hE : symS M src p e = (0, p, e) := if_neg he
    rw [hE]; clear hE
    have h1 : bitR src p e = 0 ∧ bitP src p e = p ∧ bitE src p e = e := by
      unfold bitR bitP bitE; rw [if_neg (by omega), if_neg (by omega), if_neg (by omega)]; exact ⟨rfl, rfl, rfl⟩
    go_enter Tryd.func49, Tryd.ntmps49
    go_wp2
    refine wp_loop_rounds 1 ?_
    rw [rounds_succ]
    go_wp2_with fail
    refine (bit_any hS).mono ?_; rintro r w1 ⟨rfl, hS1, hK1⟩
    rw [h1.2.1, h1.2.2] at hS1
    rw [h1.1]
    clear h1
    go_wp2_with fail
    refine (on_no hS1 (by omega)).mono ?_; rintro r w2 ⟨rfl, rfl⟩
    go_wp2_with fail
    go_ret
    exact ⟨rfl, hS1, hK1⟩
end
end Go.Proofs.YtbbnibbdiiffkaaDoor

/- The reference's reading of the lengths of codes. -/
namespace Go.Proofs.YtbbnibbdiiffkaaDoor
open Go.RowKit

/-- Only rows of ints from block B on have turned. -/
structure IntOnly (B : Nat) (w w' : World) : Prop where
  os : w'.os = w.os
  tape : w'.tape = w.tape
  output : w'.output = w.output
  size : w.heap.size ≤ w'.heap.size
  low : ∀ k, k < B → k < w.heap.size → w'.heap[k]? = w.heap[k]?
  block : ∀ (k : Nat) (o : Obj), w.heap[k]? = some o → (∀ c f, o ≠ .cells c 3 f) → w'.heap[k]? = some o

theorem intOnly_grown {w w1 : World} {B n : Nat} {v : Value} {xs : List Value} (ho : w.ownsRow B 3 1 v n xs) {o : Obj} (hg : (w.alloc o).grownBy w1 v.ownBlock) : IntOnly B w w1 := by
  refine ⟨hg.os, hg.tape, hg.output, Nat.le_trans (by simp) hg.size, fun k hk hlt => ?_, fun k x hk hx => ?_⟩
  · rw [hg.block k (by simp; omega) (fun e => ?_), Below.heap_alloc _ _ _ hlt]
    have := (ho.lt k e.symm).1; omega
  · have hlt := lt_of_block hk
    rw [hg.block k (by simp; omega) (fun e => ?_), Below.heap_alloc _ _ _ hlt]
    · exact hk
    · rcases ho.2 with ⟨rfl, _⟩ | ⟨g, cap, cur, rfl, _, hh, _⟩
      · simp [Value.ownBlock] at e
      · simp [Value.ownBlock] at e; subst e; rw [hk] at hh; exact hx _ _ (Option.some.inj hh)

section
variable {Z B : Nat} {src dict : List Nat} {w : World} {p : Nat} {out : List Nat} {e : Int}
theorem SOK.drew (hS : SOK Z src dict w p out e) : SOK Z src dict w.drew p out e := by obtain ⟨a, b, c, h⟩ := hS; exact ⟨a, b, c, h.drew⟩
theorem SOK.drewN (hS : SOK Z src dict w p out e) (n : Nat) : SOK Z src dict (w.drewN n) p out e := by obtain ⟨a, b, c, h⟩ := hS; exact ⟨a, b, c, h.drewN n⟩
theorem own_cellI {w : World} {base n : Nat} {a : Option Addr} {c : Nat} {l : List Nat} (h : w.ownsRow base 3 1 (.slice a n c) n (l.map vi)) (j : Nat) (hj : j < l.length) :
    ∃ g, a = some ⟨g, 0, none⟩ ∧ w.cell? ⟨g, j, none⟩ = some (vi (l.getD j 0)) := by
  have hx : (l.map vi)[j]? = some (vi (l.getD j 0)) := by simp [List.getElem?_eq_getElem hj, List.getD_eq_getElem?_getD]
  rcases h.2 with ⟨h1, h2⟩ | ⟨g, cap, cur, h1, _⟩
  · have := h.1; simp [h2] at this; subst this; simp at hj
  · simp only [Value.slice.injEq, true_and] at h1
    obtain ⟨rfl, rfl⟩ := h1
    refine ⟨g, rfl, ?_⟩
    have := h.cells (g := g) rfl j _ hx
    have hadd : (⟨g, 0, none⟩ : Addr).add j = ⟨g, j, none⟩ := by unfold Addr.add; split <;> simp_all
    rw [hadd] at this; exact this
theorem SOK.intOnly (hS : SOK Z src dict w p out e) {w' : World} (h : IntOnly B w w') (hB : Z ≤ B) : SOK Z src dict w' p out e := by
  obtain ⟨srcV, dictV, outV, hA⟩ := hS
  refine ⟨srcV, dictV, outV, ?_⟩
  have hb := h.block Z _ hA.blk (fun c f e => by cases e)
  have rd : ∀ v xs, Rd w v xs → (∀ b off n cap, v = .slice (some ⟨b, off, none⟩) n cap → b < Z) → Rd w' v xs := by
    intro v xs hr hu
    obtain ⟨a, cap, rfl, hr⟩ := hr
    refine ⟨a, cap, rfl, fun j hj => ?_⟩
    obtain ⟨b, off, rfl, hbl, hc⟩ := hr j hj
    refine ⟨b, off, rfl, Nat.lt_of_lt_of_le hbl h.size, ?_⟩
    rw [World.cell?_of_block (w := w) (h.low b (Nat.lt_of_lt_of_le (hu b off _ _ rfl) hB) hbl)]
    exact hc
  refine ⟨hb, rd _ _ hA.rs hA.us, rd _ _ hA.rd hA.ud, hA.us, hA.ud, ?_, hA.pos, hA.small, hA.dsmall, hA.osmall, hA.bytes, hA.dbytes, hA.lo, hA.hi⟩
  obtain ⟨h1, h2⟩ := hA.own
  refine ⟨h1, ?_⟩
  rcases h2 with h2 | ⟨g, cap, cur, hv, hg, hh, r⟩
  · exact .inl h2
  · exact .inr ⟨g, cap, cur, hv, hg, h.block g _ hh (fun c f e => by cases e), r⟩
theorem Keep.intOnly {w0 w w' : World} (h : Keep Z w0 w) (hi : IntOnly B w w') (hB : w0.heap.size ≤ B) : Keep Z w0 w' :=
  ⟨hi.os.trans h.os, hi.tape.trans h.tape, hi.output.trans h.output, Nat.le_trans h.size hi.size,
    fun k hk hs => (hi.low k (by omega) (Nat.lt_of_lt_of_le hk h.size)).trans (Frm.block h k hk hs)⟩
theorem map_intOnly {b : Nat} {M : List (Nat × Nat)} {w w' : World} (hb : w.heap[b]? = some (mBlk M)) (h : IntOnly B w w') : w'.heap[b]? = some (mBlk M) :=
  h.block b _ hb (fun c f e => by cases e)
/-- An owned row of ints stays while the reference reads on. -/
theorem own_keep {w w' : World} {B n : Nat} {v : Value} {xs : List Value} {cs : Array Value} (ho : w.ownsRow B 3 1 v n xs) (hk : Keep Z w w') (hz : w.heap[Z]? = some (.cells cs 71 (0, 0))) : w'.ownsRow B 3 1 v n xs := by
  obtain ⟨h1, h2⟩ := ho
  refine ⟨h1, ?_⟩
  rcases h2 with h2 | ⟨g, cap, cur, hv, hg, hh, r⟩
  · exact .inl h2
  · exact .inr ⟨g, cap, cur, hv, hg, hk.other hh (fun e => by subst e; rw [hz] at hh; cases hh) (fun c f e => by cases e), r⟩
end

/-- How often a length is told again, and which one, behind a symbol. -/
def repS (src : List Nat) (l : List Nat) (k p : Nat) (e : Int) : Nat × Nat × Nat × Int :=
  if k = 16 then (3 + (bitsAt src p e 2).1, l.getD (l.length - 1) 0, (bitsAt src p e 2).2.1, (bitsAt src p e 2).2.2)
  else if k = 17 then (3 + (bitsAt src p e 3).1, 0, (bitsAt src p e 3).2.1, (bitsAt src p e 3).2.2)
  else if k = 18 then (11 + (bitsAt src p e 7).1, 0, (bitsAt src p e 7).2.1, (bitsAt src p e 7).2.2)
  else (1, k, p, e)
def manyE (e : Int) (a many : Nat) : Int := if e < 0 ∧ many < a then 2 else e
/-- The lengths of so many codes. -/
def toldGo (M : List (Nat × Nat)) (src : List Nat) (many : Nat) : Nat → List Nat → Nat → Int → List Nat × Nat × Int
  | 0, l, p, e => (l, p, e)
  | f + 1, l, p, e =>
    if l.length < many ∧ e < 0 then
      let s := symS M src p e
      if s.2.2 < 0 then
        if s.1 = 16 ∧ l.length = 0 then (l, s.2.1, 2)
        else
          let r := repS src l s.1 s.2.1 s.2.2
          toldGo M src many f (l ++ List.replicate r.1 r.2.1) r.2.2.1 (manyE r.2.2.2 (l.length + r.1) many)
      else (l, s.2.1, s.2.2)
    else (l, p, e)
def toldS (M : List (Nat × Nat)) (src : List Nat) (many : Nat) (p : Nat) (e : Int) : List Nat × Nat × Int := toldGo M src many (many + 1) [] p e

theorem repS_16 (src l : List Nat) (k p : Nat) (e : Int) (h : k = 16) : repS src l k p e = (3 + (bitsAt src p e 2).1, l.getD (l.length - 1) 0, (bitsAt src p e 2).2.1, (bitsAt src p e 2).2.2) := if_pos h
theorem repS_17 (src l : List Nat) (k p : Nat) (e : Int) (h : k = 17) : repS src l k p e = (3 + (bitsAt src p e 3).1, 0, (bitsAt src p e 3).2.1, (bitsAt src p e 3).2.2) := by
  unfold repS; rw [if_neg (by omega), if_pos h]
theorem repS_18 (src l : List Nat) (k p : Nat) (e : Int) (h : k = 18) : repS src l k p e = (11 + (bitsAt src p e 7).1, 0, (bitsAt src p e 7).2.1, (bitsAt src p e 7).2.2) := by
  unfold repS; rw [if_neg (by omega), if_neg (by omega), if_pos h]
theorem repS_no (src l : List Nat) (k p : Nat) (e : Int) (h : k ≠ 16) (h' : k ≠ 17) (h'' : k ≠ 18) : repS src l k p e = (1, k, p, e) := by
  unfold repS; rw [if_neg h, if_neg h', if_neg h'']
theorem repS_bd (src l : List Nat) (k p : Nat) (e : Int) : 1 ≤ (repS src l k p e).1 ∧ (repS src l k p e).1 ≤ 138 := by
  have h2 := bitsAt_lt src p e 2
  have h3 := bitsAt_lt src p e 3
  have h7 := bitsAt_lt src p e 7
  unfold repS
  split
  · simp; omega
  · split
    · simp; omega
    · split <;> simp; omega
theorem toldGo_end {M : List (Nat × Nat)} {src : List Nat} {many : Nat} (f : Nat) {l : List Nat} {p : Nat} {e : Int} (h : ¬ (l.length < many ∧ e < 0)) : toldGo M src many f l p e = (l, p, e) := by
  cases f with
  | zero => rfl
  | succ f => simp only [toldGo]; rw [if_neg h]

theorem toldGo_off {M : List (Nat × Nat)} {src : List Nat} {many : Nat} (f : Nat) {l : List Nat} {p : Nat} {e : Int} (h1 : l.length < many) (h2 : e < 0) {k p1 : Nat} {e1 : Int}
    (hs : symS M src p e = (k, p1, e1)) (h3 : ¬ e1 < 0) : toldGo M src many (f + 1) l p e = (l, p1, e1) := by
  simp only [toldGo]; rw [if_pos ⟨h1, h2⟩, hs, if_neg h3]
theorem toldGo_bad {M : List (Nat × Nat)} {src : List Nat} {many : Nat} (f : Nat) {l : List Nat} {p : Nat} {e : Int} (h1 : l.length < many) (h2 : e < 0) {k p1 : Nat} {e1 : Int}
    (hs : symS M src p e = (k, p1, e1)) (h3 : e1 < 0) (h4 : k = 16 ∧ l.length = 0) : toldGo M src many (f + 1) l p e = (l, p1, 2) := by
  simp only [toldGo]; rw [if_pos ⟨h1, h2⟩, hs, if_pos h3, if_pos h4]
theorem toldGo_rep {M : List (Nat × Nat)} {src : List Nat} {many : Nat} (f : Nat) {l : List Nat} {p : Nat} {e : Int} (h1 : l.length < many) (h2 : e < 0) {k p1 : Nat} {e1 : Int}
    (hs : symS M src p e = (k, p1, e1)) (h3 : e1 < 0) (h4 : ¬ (k = 16 ∧ l.length = 0)) {n v p2 : Nat} {e2 : Int} (hr : repS src l k p1 e1 = (n, v, p2, e2)) :
    toldGo M src many (f + 1) l p e = toldGo M src many f (l ++ List.replicate n v) p2 (manyE e2 (l.length + n) many) := by
  simp only [toldGo]; rw [if_pos ⟨h1, h2⟩, hs, if_pos h3, if_neg h4, hr]
theorem symGo_lt {M : List (Nat × Nat)} {src : List Nat} {B : Nat} (hB : ∀ x ∈ M, x.2 < B) (h0 : 0 < B) : ∀ n c p, (symGo M src n c p).1 < B := by
  intro n
  induction n with
  | zero => intro c p; exact h0
  | succ n ih =>
    intro c p
    simp only [symGo]
    split
    · split
      · rename_i k hk
        unfold mGet at hk
        obtain ⟨x, hx, rfl⟩ := Option.map_eq_some_iff.1 hk
        exact hB x (List.mem_of_find?_eq_some hx)
      · split
        · exact h0
        · exact ih _ _
    · exact h0
theorem symS_lt {M : List (Nat × Nat)} {src : List Nat} {B : Nat} (hB : ∀ x ∈ M, x.2 < B) (h0 : 0 < B) (p : Nat) (e : Int) : (symS M src p e).1 < B := by
  unfold symS; split
  · exact symGo_lt hB h0 _ _ _
  · exact h0
theorem mPut_mem {M : List (Nat × Nat)} {k v B : Nat} (hB : ∀ x ∈ M, x.2 < B) (hv : v < B) : ∀ x ∈ mPut M k v, x.2 < B := by
  unfold mPut
  split
  · intro x hx
    obtain ⟨i, hi, rfl⟩ := List.getElem_of_mem hx
    simp only [List.getElem_modify]
    split
    · exact hv
    · exact hB _ (List.getElem_mem _)
  · intro x hx
    rcases List.mem_append.1 hx with h | h
    · exact hB x h
    · simp at h; subst h; exact hv
theorem bookGo_mem (l : List Nat) : ∀ k, ∀ x ∈ bookGo l k, x.2 < k := by
  intro k
  induction k with
  | zero => intro x hx; simp [bookGo] at hx
  | succ k ih =>
    simp only [bookGo]
    have ih' : ∀ x ∈ bookGo l k, x.2 < k + 1 := fun x hx => Nat.lt_succ_of_lt (ih x hx)
    split
    · exact mPut_mem ih' (Nat.lt_succ_self k)
    · exact ih'
theorem mPut_len (M : List (Nat × Nat)) (k v : Nat) : (mPut M k v).length ≤ M.length + 1 := by
  unfold mPut; split <;> simp
theorem bookGo_len (l : List Nat) (k : Nat) : (bookGo l k).length ≤ k := by
  induction k with
  | zero => simp [bookGo]
  | succ k ih =>
    simp only [bookGo]
    have := mPut_len (bookGo l k) (2 ^ l.getD k 0 ||| (codesL l).getD k 0) k
    split <;> omega
theorem bookL_lt (l : List Nat) : ∀ x ∈ bookL l, x.2 < l.length := bookGo_mem l l.length
theorem bookL_len (l : List Nat) : (bookL l).length ≤ l.length := bookGo_len l l.length

def slen : Value → Nat | .slice _ n _ => n | _ => 0

section
variable {Z : Nat} {src dict : List Nat} {w : World} {p : Nat} {out : List Nat} {e : Int}
theorem wrap_3 (n : Nat) (h : n < 2 ^ 2) : IntKind.i64.wrap (3 + (n : Int)) = ((3 + n : Nat) : Int) := by rw [wrap_i64_id _ (by omega) (by omega)]; omega
set_option maxRecDepth 100000 in
set_option maxHeartbeats 4000000 in
theorem told_any (hS : SOK Z src dict w p out e) (many : Nat) (hmany : many ≤ 400) (v : Value) (xs : List Nat) (hv : RdI w v xs) (hl : xs.length ≤ 1000) (h15 : ∀ x ∈ xs, x ≤ 15)
    (hM : e < 0 → 2 ≤ (bookL xs).length) :
    Calls Tryd.prog 56 #[.pointer (some ⟨Z, 0, none⟩), .int .i64 (many : Int), v] w fun r w' => ∃ v', r = .returned v' ∧ RdI w' v' (toldS (bookL xs) src many p e).1 ∧
      SOK Z src dict w' (toldS (bookL xs) src many p e).2.1 out (toldS (bookL xs) src many p e).2.2 ∧ Keep Z w w' := by
  obtain ⟨i0, hi, hz0, hz1, hz2⟩ := info_parts info3
  obtain ⟨va, vcap, rfl⟩ := hv.shape
  have hZl : Z < w.heap.size := lt_of_block hS.blk.choose_spec
  go_enter Tryd.func56, Tryd.ntmps56
  go_wp2_with fail
  refine (book_any _ xs _ hv hl h15).mono ?_; rintro r w1 ⟨b, rfl, hb1, hbl, hn1⟩
  have hS1 := hS.new hn1
  have hk1 := hn1.keep Z
  clear hv h15 hn1 hbl
  have hML : (bookL xs).length ≤ 1000 := Nat.le_trans (bookL_len xs) hl
  have hML2 : ∀ x ∈ bookL xs, x.2 < 1001 := fun x hx => by have := bookL_lt xs x hx; omega
  have HML2 := Lib.hid hML2
  clear hML2
  generalize hMe : bookL xs = M at *
  have HMe := Lib.hid hMe
  clear hMe
  go_wp2_with fail
  go_loopw [8] (fun ov wr => ∃ (l : List Nat) (pj : Nat) (ej : Int) (f : Nat), wr.ownsRow w.heap.size 3 1 ov l.length (l.map vi) ∧ SOK Z src dict wr pj out ej ∧ toldS M src many p e = toldGo M src many f l pj ej ∧
      many < f + l.length ∧ l.length ≤ many + 138 ∧ (ej < 0 → 2 ≤ M.length) ∧ Keep Z w wr ∧ wr.heap[b]? = some (mBlk M)) (fun ov _ => many - slen ov)
  case atStart => exact ⟨[], p, e, many + 1, World.ownsRow_nil _ _ _ _, hS1, rfl, by simp, by simp, hM, hk1, hb1⟩
  case round =>
    clear hM hb1 hS1 hk1 w1
    obtain ⟨l, pj, ej, f, hown, hSj, hT, hf, hlm, hM2, hKj, hbj⟩ := hrel
    obtain ⟨oa, ocap, rfl⟩ := own_shape hown
    have HT := Lib.hid hT; clear hT
    by_cases hlt : l.length < many
    · by_cases he : ej < 0
      · obtain ⟨f, rfl⟩ : ∃ g, f = g + 1 := ⟨f - 1, by omega⟩
        have hMM := Lib.hid (hM2 he)
        have HLT := Lib.hid hlt
        have HE := Lib.hid he
        clear hM2
        go_wp2_with fail
        refine (on_yes hSj he).mono ?_; rintro r w2 ⟨rfl, rfl⟩
        go_wp2_with fail
        refine (symbol_any hSj hbj (.inl hMM.out) hML).mono ?_; rintro r w2 ⟨rfl, hS2, hK2⟩
        have hb2 := map_keep hbj hK2 hSj.blk.choose_spec
        have hown2 := own_keep hown hK2 hSj.blk.choose_spec
        have hK2' := hKj.trans hK2
        have hkB := symS_lt (src := src) HML2.out (by omega) pj ej
        generalize hsym : symS M src pj ej = s at *
        obtain ⟨k, p1, e1⟩ := s
        simp only [] at hS2 hkB
        have HSY := Lib.hid hsym
        clear hsym hK2 hSj hown hKj hbj
        go_upto_block 2 with fail
        go_cut [10, 11] (fun s10 s11 wx => ∃ (n v p2 : Nat) (e2 : Int), s10 = vi n ∧ s11 = vi v ∧ repS src l k p1 e1 = (n, v, p2, e2) ∧ e1 < 0 ∧ ¬ (k = 16 ∧ l.length = 0) ∧ SOK Z src dict wx p2 out e2 ∧ Keep Z w wx ∧
          wx.ownsRow w.heap.size 3 1 (.slice oa l.length ocap) l.length (l.map vi) ∧ wx.heap[b]? = some (mBlk M))
        case first =>
          by_cases h1 : e1 < 0
          · by_cases h16 : k = 16
            · by_cases hl0 : l.length = 0
              · have HR := Lib.hid (toldGo_bad (M := M) (src := src) (many := many) f HLT.out HE.out HSY.out h1 ⟨h16, hl0⟩)
                have ht : ((k : Int) == 16) = true := beq_iff_eq.2 (by omega)
                have ht2 : ((l.length : Int) == 0) = true := beq_iff_eq.2 (by omega)
                have hst : stopE e1 2 = 2 := if_pos h1
                have HH := Lib.hid hl0
                clear h16 hl0
                go_wp2_with fail
                refine (on_yes hS2 h1).mono ?_; rintro r w3 ⟨rfl, rfl⟩
                go_wp2_with fail
                refine (stop_any hS2 2 (by omega) (by omega)).mono ?_; rintro r w3 ⟨rfl, hS3, hK3⟩
                have hown3 := own_keep hown2 hK3 hS2.blk.choose_spec
                rw [hst] at hS3
                clear hst
                go_wp2_with fail
                go_ret
                exact ⟨_, rfl, by rw [HMe.out, HT.out, HR.out]; exact own_rdI hown3, by rw [HMe.out, HT.out, HR.out]; exact hS3, hK2'.trans hK3⟩
              · have hR := repS_16 src l k p1 e1 h16
                have ht : ((k : Int) == 16) = true := beq_iff_eq.2 (by omega)
                have ht2 : ((l.length : Int) == 0) = false := beq_eq_false_iff_ne.2 (by omega)
                have HH := Lib.hid (show ¬ (k = 16 ∧ l.length = 0) from fun h => hl0 h.2)
                have HR := Lib.hid hR
                have hlp : 0 < l.length := by omega
                clear h16 hl0 hR
                go_wp2_with fail
                refine (on_yes hS2 h1).mono ?_; rintro r w3 ⟨rfl, rfl⟩
                go_wp2_with fail
                obtain ⟨g, rfl, hcg⟩ := own_cellI hown2 (l.length - 1) (by omega)
                have hb2l := bitsAt_lt src p1 e1 2
                generalize hlv : l.getD (l.length - 1) 0 = lv at *
                have HLV := Lib.hid hlv
                clear hlv
                have HO2 := Lib.hid hown2
                clear hown2
                have fin : ∀ (r : Ending) (w3 : World), (r = .returned (vi (bitsAt src p1 e1 2).1) ∧ SOK Z src dict w3 (bitsAt src p1 e1 2).2.1 out (bitsAt src p1 e1 2).2.2 ∧ Keep Z w2.drew w3) →
                    r = .returned (vi (bitsAt src p1 e1 2).1) ∧ w3.cell? ⟨g, l.length - 1, none⟩ = some (vi lv) ∧ Hid (SOK Z src dict w3 (bitsAt src p1 e1 2).2.1 out (bitsAt src p1 e1 2).2.2 ∧ Keep Z w2 w3) := by
                  rintro r w3 ⟨rfl, hS3, hK3⟩
                  have hK3' : Keep Z w2 w3 := ((Keep.refl Z w2).drew).trans hK3
                  refine ⟨rfl, ?_, Lib.hid ⟨hS3, hK3'⟩⟩
                  obtain ⟨g', hg', hc'⟩ := own_cellI (own_keep HO2.out hK3' hS2.blk.choose_spec) (l.length - 1) (by omega)
                  cases hg'
                  rw [← HLV.out]; exact hc'
                have FIN := Lib.hid fin
                clear fin
                have x1 : IntKind.i64.wrap ((l.length : Int) - 1) = (l.length : Int) - 1 := wrap_i64_id _ (by omega) (by omega)
                have x2 : (0 : Int) ≤ (l.length : Int) - 1 := by omega
                have x3 : ((l.length : Int) - 1).toNat = l.length - 1 := by omega
                have x4 : (1 : Int) ≤ (l.length : Int) := by omega
                have x5 : (l.length : Int) - 1 < (l.length : Int) := by omega
                go_region_with (go_at_call 27; refine (bits_any hS2.drew 2 (by omega)).mono ?_; intro r w3 hq; obtain ⟨rfl, hcw, HSK⟩ := FIN.out r w3 hq; clear hq)
                all_goals (go_wp2_with fail; go_meet)
                all_goals (first | exact ⟨_, lv, _, _, congrArg (Value.int .i64) (wrap_3 _ hb2l), rfl, HR.out, h1, HH.out, HSK.out.1, hK2'.trans HSK.out.2, own_keep HO2.out HSK.out.2 hS2.blk.choose_spec, map_keep hb2 HSK.out.2 hS2.blk.choose_spec⟩ | skip)
            · by_cases h17 : k = 17
              · have hR := repS_17 src l k p1 e1 h17
                have t16 : ((k : Int) == 16) = false := beq_eq_false_iff_ne.2 (by omega)
                have t17 : ((k : Int) == 17) = true := beq_iff_eq.2 (by omega)
                have HH := Lib.hid (show ¬ (k = 16 ∧ l.length = 0) by omega)
                have HR := Lib.hid hR
                have hb2l := bitsAt_lt src p1 e1 3
                clear h16 h17  hR
                go_wp2_with fail
                refine (on_yes hS2 h1).mono ?_; rintro r w3 ⟨rfl, rfl⟩
                go_wp2_with fail
                refine (bits_any hS2 3 (by omega)).mono ?_; rintro r w3 ⟨rfl, hS3, hK3⟩
                have hown3 := own_keep hown2 hK3 hS2.blk.choose_spec
                have hb3 := map_keep hb2 hK3 hS2.blk.choose_spec
                generalize bitsAt src p1 e1 3 = A at *
                obtain ⟨a1, a2, a3⟩ := A
                simp only [] at hb2l hS3 HR
                have hb3l : a1 < 8 := by omega
                clear hb2l
                go_wp2_with fail
                go_meet
                exact ⟨3 + a1, 0, a2, a3, congrArg (Value.int .i64) (by omega), rfl, HR.out, h1, HH.out, hS3, hK2'.trans hK3, hown3, hb3⟩
              · by_cases h18 : k = 18
                · have hR := repS_18 src l k p1 e1 h18
                  have t16 : ((k : Int) == 16) = false := beq_eq_false_iff_ne.2 (by omega)
                  have t17 : ((k : Int) == 17) = false := beq_eq_false_iff_ne.2 (by omega)
                  have t18 : ((k : Int) == 18) = true := beq_iff_eq.2 (by omega)
                  have HH := Lib.hid (show ¬ (k = 16 ∧ l.length = 0) by omega)
                  have HR := Lib.hid hR
                  have hb2l := bitsAt_lt src p1 e1 7
                  clear h16 h17 h18 hR
                  go_wp2_with fail
                  refine (on_yes hS2 h1).mono ?_; rintro r w3 ⟨rfl, rfl⟩
                  go_wp2_with fail
                  refine (bits_any hS2 7 (by omega)).mono ?_; rintro r w3 ⟨rfl, hS3, hK3⟩
                  have hown3 := own_keep hown2 hK3 hS2.blk.choose_spec
                  have hb3 := map_keep hb2 hK3 hS2.blk.choose_spec
                  generalize bitsAt src p1 e1 7 = A at *
                  obtain ⟨a1, a2, a3⟩ := A
                  simp only [] at hb2l hS3 HR
                  have hb3l : a1 < 128 := by omega
                  clear hb2l
                  go_wp2_with fail
                  go_meet
                  exact ⟨11 + a1, 0, a2, a3, congrArg (Value.int .i64) (by omega), rfl, HR.out, h1, HH.out, hS3, hK2'.trans hK3, hown3, hb3⟩
                · have HR := Lib.hid (repS_no src l k p1 e1 h16 h17 h18)
                  have t16 : ((k : Int) == 16) = false := beq_eq_false_iff_ne.2 (by omega)
                  have t17 : ((k : Int) == 17) = false := beq_eq_false_iff_ne.2 (by omega)
                  have t18 : ((k : Int) == 18) = false := beq_eq_false_iff_ne.2 (by omega)
                  have HH := Lib.hid (show ¬ (k = 16 ∧ l.length = 0) by omega)
                  clear h16 h17 h18
                  go_wp2_with fail
                  refine (on_yes hS2 h1).mono ?_; rintro r w3 ⟨rfl, rfl⟩
                  go_wp2_with fail
                  go_meet
                  exact ⟨1, k, p1, e1, rfl, rfl, HR.out, h1, HH.out, hS2, hK2', hown2, hb2⟩
          · have HR := Lib.hid (toldGo_off (M := M) (src := src) (many := many) f HLT.out HE.out HSY.out h1)
            go_wp2_with fail
            refine (on_no hS2 (by omega)).mono ?_; rintro r w3 ⟨rfl, rfl⟩
            go_wp2_with fail
            go_ret
            exact ⟨_, rfl, by rw [HMe.out, HT.out, HR.out]; exact own_rdI hown2, by rw [HMe.out, HT.out, HR.out]; exact hS2, hK2'⟩
        case rest =>
          obtain ⟨n, v, p2, e2, rfl, rfl, hR, h1, hH, hS3, hK3, hown3, hb3⟩ := hcut
          have hbd := repS_bd src l k p1 e1
          rw [hR] at hbd
          simp only [] at hbd
          have HR := Lib.hid (toldGo_rep (M := M) (src := src) (many := many) f HLT.out HE.out HSY.out h1 hH hR)
          clear hR h1 hH hb2 hown2 hS2 hK2'
          by_cases h2 : e2 < 0
          · by_cases h3 : many < l.length + n
            · have hE : manyE e2 (l.length + n) many = 2 := if_pos ⟨h2, h3⟩
              have hst : stopE e2 2 = 2 := if_pos h2
              go_wp2_with fail
              refine (on_yes hS3 h2).mono ?_; rintro r w4 ⟨rfl, rfl⟩
              go_wp2_with fail
              refine (stop_any hS3 2 (by omega) (by omega)).mono ?_; rintro r wx ⟨rfl, hS4, hK4⟩
              rw [hst] at hS4
              have hown4 := own_keep hown3 hK4 hS3.blk.choose_spec
              have hb4 := map_keep hb3 hK4 hS3.blk.choose_spec
              have hK5 := hK3.trans hK4
              clear hown3 hb3 hK3 hS3 hK4 hst h2 h3
              have hown3 := hown4
              have hb3 := hb4
              have hK3 := hK5
              have hS3 := hS4
              clear hown4 hb4 hK5 hS4
              go_wp2_with fail
              have HEE : Hid (toldS M src many p e = toldGo M src many f (l ++ List.replicate n v) p2 2) := Lib.hid (by rw [HT.out, HR.out, hE])
              have HE3 := Lib.hid (show (2 : Int) < 0 → 2 ≤ M.length from fun _ => hMM.out)
              clear hE
              obtain ⟨wq, rfl⟩ : ∃ x : World, x = wx := ⟨_, rfl⟩
              go_loopw [8, 79] (fun ov iv wr => ∃ q : Nat, q ≤ n ∧ iv = .int .i64 q ∧ wr.ownsRow w.heap.size 3 1 ov (l.length + q) ((l ++ List.replicate q v).map vi) ∧ SOK Z src dict wr p2 out 2 ∧ Keep Z w wr ∧ wr.heap[b]? = some (mBlk M)) (fun _ i _ => n - (intOf i).toNat)
              case atStart => exact ⟨0, Nat.zero_le _, rfl, by simpa using hown3, hS3, hK3, hb3⟩
              case round =>
                clear hown3 hS3 hK3 hb3
                obtain ⟨q, hq, rfl, hownq, hSq, hKq, hbq⟩ := hrel
                obtain ⟨qa, qcap, rfl⟩ := own_shape hownq
                by_cases hqn : q < n
                · have HN := Lib.hid (show (l ++ List.replicate (q + 1) v).map vi = (l ++ List.replicate q v).map vi ++ [vi v] by rw [List.replicate_succ']; simp)
                  have hsz := Keep.size hKq
                  go_wp2_with (at_builtin; refine wpList_append_own _ rfl _ _ 23 rfl w.heap.size 3 i0 (.int .i64 0) 1 8 Tryd.underlying23 hi hz0 hz1 hz2 rfl (by decide) _ _ _ rfl (hownq.alloc _) ⟨wr.heap.size, 0, none⟩ 1 1 [vi v] rfl rfl (one_new _ _ _) (one_cell v) (by unfold maxLen; omega) (by omega) (by simp; omega) ?_; intro v' w1 hown1 hg1 _)
                  have hio := intOnly_grown hownq hg1
                  go_roundw
                  case rel => exact ⟨q + 1, hqn, rfl, by rw [HN.out]; exact hown1, hSq.intOnly hio (Nat.le_of_lt hZl), hKq.intOnly hio (Nat.le_refl _), map_intOnly hbq hio⟩
                  case measure => simp [intOf]; omega
                · obtain rfl : q = n := by omega
                  have hll : (l ++ List.replicate q v).length = l.length + q := by simp
                  have HLL := Lib.hid hll
                  clear hll
                  go_wp2_with fail
                  go_roundw
                  case rel => exact ⟨l ++ List.replicate q v, p2, 2, f, by rw [HLL.out]; exact hownq, hSq, HEE.out, by rw [HLL.out]; omega, by rw [HLL.out]; omega, HE3.out, hKq, hbq⟩
                  case measure => simp [slen]; omega
            · have hE : manyE e2 (l.length + n) many = e2 := if_neg (by omega)
              go_wp2_with fail
              refine (on_yes hS3 h2).mono ?_; rintro r w4 ⟨rfl, rfl⟩
              obtain ⟨wx, rfl⟩ : ∃ x : World, x = wc := ⟨_, rfl⟩
              clear h2
              go_wp2_with fail
              have HEE : Hid (toldS M src many p e = toldGo M src many f (l ++ List.replicate n v) p2 e2) := Lib.hid (by rw [HT.out, HR.out, hE])
              have HE3 := Lib.hid (show e2 < 0 → 2 ≤ M.length from fun _ => hMM.out)
              clear hE
              obtain ⟨wq, rfl⟩ : ∃ x : World, x = wx := ⟨_, rfl⟩
              go_loopw [8, 79] (fun ov iv wr => ∃ q : Nat, q ≤ n ∧ iv = .int .i64 q ∧ wr.ownsRow w.heap.size 3 1 ov (l.length + q) ((l ++ List.replicate q v).map vi) ∧ SOK Z src dict wr p2 out e2 ∧ Keep Z w wr ∧ wr.heap[b]? = some (mBlk M)) (fun _ i _ => n - (intOf i).toNat)
              case atStart => exact ⟨0, Nat.zero_le _, rfl, by simpa using hown3, hS3, hK3, hb3⟩
              case round =>
                clear hown3 hS3 hK3 hb3
                obtain ⟨q, hq, rfl, hownq, hSq, hKq, hbq⟩ := hrel
                obtain ⟨qa, qcap, rfl⟩ := own_shape hownq
                by_cases hqn : q < n
                · have HN := Lib.hid (show (l ++ List.replicate (q + 1) v).map vi = (l ++ List.replicate q v).map vi ++ [vi v] by rw [List.replicate_succ']; simp)
                  have hsz := Keep.size hKq
                  go_wp2_with (at_builtin; refine wpList_append_own _ rfl _ _ 23 rfl w.heap.size 3 i0 (.int .i64 0) 1 8 Tryd.underlying23 hi hz0 hz1 hz2 rfl (by decide) _ _ _ rfl (hownq.alloc _) ⟨wr.heap.size, 0, none⟩ 1 1 [vi v] rfl rfl (one_new _ _ _) (one_cell v) (by unfold maxLen; omega) (by omega) (by simp; omega) ?_; intro v' w1 hown1 hg1 _)
                  have hio := intOnly_grown hownq hg1
                  go_roundw
                  case rel => exact ⟨q + 1, hqn, rfl, by rw [HN.out]; exact hown1, hSq.intOnly hio (Nat.le_of_lt hZl), hKq.intOnly hio (Nat.le_refl _), map_intOnly hbq hio⟩
                  case measure => simp [intOf]; omega
                · obtain rfl : q = n := by omega
                  have hll : (l ++ List.replicate q v).length = l.length + q := by simp
                  have HLL := Lib.hid hll
                  clear hll
                  go_wp2_with fail
                  go_roundw
                  case rel => exact ⟨l ++ List.replicate q v, p2, e2, f, by rw [HLL.out]; exact hownq, hSq, HEE.out, by rw [HLL.out]; omega, by rw [HLL.out]; omega, HE3.out, hKq, hbq⟩
                  case measure => simp [slen]; omega
          · have hE : manyE e2 (l.length + n) many = e2 := if_neg (by omega)
            go_wp2_with fail
            refine (on_no hS3 (by omega)).mono ?_; rintro r w4 ⟨rfl, rfl⟩
            obtain ⟨wx, rfl⟩ : ∃ x : World, x = wc := ⟨_, rfl⟩
            clear h2
            go_wp2_with fail
            have HEE : Hid (toldS M src many p e = toldGo M src many f (l ++ List.replicate n v) p2 e2) := Lib.hid (by rw [HT.out, HR.out, hE])
            have HE3 := Lib.hid (show e2 < 0 → 2 ≤ M.length from fun _ => hMM.out)
            clear hE
            obtain ⟨wq, rfl⟩ : ∃ x : World, x = wx := ⟨_, rfl⟩
            go_loopw [8, 79] (fun ov iv wr => ∃ q : Nat, q ≤ n ∧ iv = .int .i64 q ∧ wr.ownsRow w.heap.size 3 1 ov (l.length + q) ((l ++ List.replicate q v).map vi) ∧ SOK Z src dict wr p2 out e2 ∧ Keep Z w wr ∧ wr.heap[b]? = some (mBlk M)) (fun _ i _ => n - (intOf i).toNat)
            case atStart => exact ⟨0, Nat.zero_le _, rfl, by simpa using hown3, hS3, hK3, hb3⟩
            case round =>
              clear hown3 hS3 hK3 hb3
              obtain ⟨q, hq, rfl, hownq, hSq, hKq, hbq⟩ := hrel
              obtain ⟨qa, qcap, rfl⟩ := own_shape hownq
              by_cases hqn : q < n
              · have HN := Lib.hid (show (l ++ List.replicate (q + 1) v).map vi = (l ++ List.replicate q v).map vi ++ [vi v] by rw [List.replicate_succ']; simp)
                have hsz := Keep.size hKq
                go_wp2_with (at_builtin; refine wpList_append_own _ rfl _ _ 23 rfl w.heap.size 3 i0 (.int .i64 0) 1 8 Tryd.underlying23 hi hz0 hz1 hz2 rfl (by decide) _ _ _ rfl (hownq.alloc _) ⟨wr.heap.size, 0, none⟩ 1 1 [vi v] rfl rfl (one_new _ _ _) (one_cell v) (by unfold maxLen; omega) (by omega) (by simp; omega) ?_; intro v' w1 hown1 hg1 _)
                have hio := intOnly_grown hownq hg1
                go_roundw
                case rel => exact ⟨q + 1, hqn, rfl, by rw [HN.out]; exact hown1, hSq.intOnly hio (Nat.le_of_lt hZl), hKq.intOnly hio (Nat.le_refl _), map_intOnly hbq hio⟩
                case measure => simp [intOf]; omega
              · obtain rfl : q = n := by omega
                have hll : (l ++ List.replicate q v).length = l.length + q := by simp
                have HLL := Lib.hid hll
                clear hll
                go_wp2_with fail
                go_roundw
                case rel => exact ⟨l ++ List.replicate q v, p2, e2, f, by rw [HLL.out]; exact hownq, hSq, HEE.out, by rw [HLL.out]; omega, by rw [HLL.out]; omega, HE3.out, hKq, hbq⟩
                case measure => simp [slen]; omega
      · have hEnd := toldGo_end (M := M) (src := src) (many := many) f (l := l) (p := pj) (e := ej) (by omega)
        have HEnd := Lib.hid hEnd
        clear hEnd hM2
        go_wp2_with fail
        refine (on_no hSj (by omega)).mono ?_; rintro r w2 ⟨rfl, rfl⟩
        go_wp2_with fail
        go_ret
        exact ⟨_, rfl, by rw [HMe.out, HT.out, HEnd.out]; exact own_rdI hown, by rw [HMe.out, HT.out, HEnd.out]; exact hSj, hKj⟩
    · have HEnd := Lib.hid (toldGo_end (M := M) (src := src) (many := many) f (l := l) (p := pj) (e := ej) (by omega))
      clear hM2
      go_wp2_with fail
      go_ret
      exact ⟨_, rfl, by rw [HMe.out, HT.out, HEnd.out]; exact own_rdI hown, by rw [HMe.out, HT.out, HEnd.out]; exact hSj, hKj⟩
end
end Go.Proofs.YtbbnibbdiiffkaaDoor
