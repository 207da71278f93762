/- The reference's functions of numbers and of lists of numbers: the codes' lengths, how many are used, how much room they leave. The reference's fixed codes; its judgement of lengths; its block that is not compressed. The reference's books of codes: maps from a code with a 1 ahead of it to its symbol. -/
import Derived.Deep.OwnRows
import Derived.Maps.Own
import Derived.Test.YtbbnibbdiiffkaaDoorM01

/- The reference's functions of numbers and of lists of numbers: the codes' lengths, how many are used, how much room they leave. -/
namespace Go.Proofs.YtbbnibbdiiffkaaDoor
open Go.RowKit

/-- A slice of ints that can be read, in a block of ints. -/
def RdI (w : World) (v : Value) (xs : List Nat) : Prop :=
  ∃ a cap, v = .slice a xs.length cap ∧ xs.length ≤ cap ∧ ∀ j, j < xs.length → ∃ b off c f, a = some ⟨b, off, none⟩ ∧ w.heap[b]? = some (.cells c 3 f) ∧ c[off + j]? = some (vi (xs.getD j 0))

theorem RdI.nonempty {w : World} {v : Value} {xs : List Nat} (h : RdI w v xs) (hne : 0 < xs.length) :
    ∃ b off cap c f, v = .slice (some ⟨b, off, none⟩) xs.length cap ∧ w.heap[b]? = some (.cells c 3 f) ∧ ∀ j, j < xs.length → w.cell? ⟨b, off + j, none⟩ = some (vi (xs.getD j 0)) := by
  obtain ⟨a, cap, rfl, -, h⟩ := h
  obtain ⟨b, off, c, f, rfl, hb, _⟩ := h 0 hne
  refine ⟨b, off, cap, c, f, rfl, hb, fun j hj => ?_⟩
  obtain ⟨b', off', c', f', he, hb', hc⟩ := h j hj
  cases he
  simp [World.cell?, hb', hc]

theorem RdI.shape {w : World} {v : Value} {xs : List Nat} (h : RdI w v xs) : ∃ a cap, v = .slice a xs.length cap := by
  obtain ⟨a, cap, rfl, _⟩ := h; exact ⟨a, cap, rfl⟩
theorem RdI.cap {w : World} {a : Option Addr} {n cap : Nat} {xs : List Nat} (h : RdI w (.slice a n cap) xs) : n = xs.length ∧ n ≤ cap := by
  obtain ⟨a', cap', he, hc, _⟩ := h
  simp only [Value.slice.injEq] at he
  obtain ⟨-, rfl, rfl⟩ := he
  exact ⟨rfl, hc⟩

theorem RdI.same {w w' : World} {v : Value} {xs : List Nat} (h : RdI w v xs) (hb : ∀ (b : Nat) (c : Array Value) (f : Nat × Nat), w.heap[b]? = some (Obj.cells c 3 f) → w'.heap[b]? = some (Obj.cells c 3 f)) : RdI w' v xs := by
  obtain ⟨a, cap, rfl, hc, h⟩ := h
  refine ⟨a, cap, rfl, hc, fun j hj => ?_⟩
  obtain ⟨b, off, c, f, h1, h2, h3⟩ := h j hj
  exact ⟨b, off, c, f, h1, hb b c f h2, h3⟩
/-- Nothing that was there has turned. -/
abbrev New (w w' : World) : Prop := Frm (fun _ => False) w w'
theorem New.heap {w w' : World} (h : New w w') {k : Nat} {o : Obj} (hk : w.heap[k]? = some o) : w'.heap[k]? = some o := by
  rw [h.block k (lt_of_block hk) (fun f => f)]; exact hk
theorem Frm.store {S : Nat → Prop} {a w : World} (h : Frm S a w) {p : Addr} (hp : a.heap.size ≤ p.block) (u : Value) : Frm S a (w.setCell p u) :=
  ⟨h.os, h.tape, h.output, by simpa using h.size, fun k hk hs => (heap_setCell_other w p k u (by omega)).trans (h.block k hk hs)⟩
theorem RdI.new {w w' : World} {v : Value} {xs : List Nat} (h : RdI w v xs) (hn : New w w') : RdI w' v xs := h.same fun _ _ _ hb => hn.heap hb
theorem RdI.keep {w w' : World} {v : Value} {xs : List Nat} {Z : Nat} {cs : Array Value} (h : RdI w v xs) (hk : Keep Z w w') (hz : w.heap[Z]? = some (.cells cs 71 (0, 0))) : RdI w' v xs :=
  h.same fun b c f hb => hk.other hb (fun e => by subst e; rw [hz] at hb; cases hb) (fun c' f' e => by cases e)

def lengthL (k : Nat) : Nat × Nat :=
  if k = 285 then (258, 0) else if 257 ≤ k ∧ k ≤ 264 then (k - 254, 0)
  else if 265 ≤ k ∧ k ≤ 284 then (3 + (4 + (k - 261) % 4) * 2 ^ ((k - 261) / 4), (k - 261) / 4) else (0, 0)
def distanceL (d : Nat) : Nat × Nat :=
  if d ≤ 3 then (d + 1, 0) else if d ≤ 29 then (1 + (2 + d % 2) * 2 ^ (d / 2 - 1), d / 2 - 1) else (0, 0)
def usedL : List Nat → Nat
  | [] => 0
  | x :: l => (if 0 < x then 1 else 0) + usedL l
def roomL : List Nat → Int
  | [] => 32768
  | x :: l => roomL l - (if 0 < x then 2 ^ (15 - x) else 0)

theorem getD_lt {l : List Nat} {k : Nat} (h : k < l.length) : l.getD k 0 ∈ l := by
  rw [List.getD_eq_getElem?_getD, List.getElem?_eq_getElem h]; exact List.getElem_mem h
theorem take_snoc (l : List Nat) (k : Nat) (h : k < l.length) : l.take (k + 1) = l.take k ++ [l.getD k 0] := by
  rw [List.take_succ_eq_append_getElem h, List.getD_eq_getElem?_getD, List.getElem?_eq_getElem h]; rfl
theorem usedL_snoc (l : List Nat) (x : Nat) : usedL (l ++ [x]) = usedL l + (if 0 < x then 1 else 0) := by
  induction l with
  | nil => simp [usedL]
  | cons y l ih => simp only [List.cons_append, usedL, ih]; omega
theorem roomL_snoc (l : List Nat) (x : Nat) : roomL (l ++ [x]) = roomL l - (if 0 < x then 2 ^ (15 - x) else 0) := by
  induction l with
  | nil => simp [roomL]
  | cons y l ih => simp only [List.cons_append, roomL, ih]; omega
theorem usedL_le (l : List Nat) : usedL l ≤ l.length := by
  induction l with
  | nil => simp [usedL]
  | cons y l ih => simp only [usedL, List.length_cons]; split <;> omega
theorem roomL_bd (l : List Nat) : roomL l ≤ 32768 ∧ 32768 - 32768 * (l.length : Int) ≤ roomL l := by
  induction l with
  | nil => simp [roomL]
  | cons y l ih =>
    simp only [roomL, List.length_cons]
    have h : (2 : Int) ^ (15 - y) ≤ 2 ^ 15 := by exact_mod_cast Nat.pow_le_pow_right (n := 2) (by decide) (by omega : 15 - y ≤ 15)
    have h0 : (0 : Int) < 2 ^ (15 - y) := by exact_mod_cast Nat.two_pow_pos (15 - y)
    split <;> omega

theorem ret_two {a b c d : Int} (h : a = b) (h' : c = d) : Ending.returned (.tuple #[.int .i64 a, .int .i64 c]) = .returned (.tuple #[.int .i64 b, .int .i64 d]) := by rw [h, h']
theorem length_shl (m : Nat) (h : m ≤ 23) : wrap64 (3 + wrap64 ((4 + (m : Int) % 4) * 2 ^ (m / 4))) = ((3 + (4 + (m + 261 - 261) % 4) * 2 ^ ((m + 261 - 261) / 4) : Nat) : Int) := by
  have h2 : 2 ^ (m / 4) ≤ 2 ^ 5 := Nat.pow_le_pow_right (by decide) (by omega)
  have h3 : (4 + m % 4) * 2 ^ (m / 4) ≤ 7 * 2 ^ 5 := Nat.mul_le_mul (by omega) h2
  have e : ((4 + (m : Int) % 4) * 2 ^ (m / 4)) = (((4 + m % 4) * 2 ^ (m / 4) : Nat) : Int) := by simp
  rw [e, wrap64_nat _ (by omega), Nat.add_sub_cancel]
  generalize (4 + m % 4) * 2 ^ (m / 4) = y at *
  unfold wrap64; omega

set_option maxHeartbeats 400000 in
theorem used_any (v : Value) (xs : List Nat) (w : World) (hv : RdI w v xs) (hl : xs.length ≤ 1000) :
    Calls Tryd.prog 51 #[v] w fun r w' => r = .returned (vi (usedL xs)) ∧ w = w' := by
  obtain ⟨a, cap, rfl⟩ := hv.shape
  go_enter Tryd.func51, Tryd.ntmps51
  go_wp2
  go_loop [3, 8] (fun n i => ∃ k : Nat, k ≤ xs.length ∧ i = .int .i64 k ∧ n = vi (usedL (xs.take k))) (fun _ i => xs.length - (intOf i).toNat)
  case atStart => exact ⟨0, Nat.zero_le _, rfl, rfl⟩
  case round =>
    obtain ⟨k, hk, rfl, rfl⟩ := hrel
    have hu := usedL_le (xs.take k)
    have hu2 : (xs.take k).length ≤ k := List.length_take_le _ _
    by_cases hlt : k < xs.length
    · obtain ⟨b, off, cap', c, f, hV, hb, hc⟩ := hv.nonempty (by omega)
      simp only [Value.slice.injEq, true_and] at hV
      obtain ⟨rfl, -⟩ := hV
      have hck := hc k hlt
      have HS := Lib.hid (show usedL (xs.take (k + 1)) = usedL (xs.take k) + (if 0 < xs.getD k 0 then 1 else 0) by rw [take_snoc xs k hlt, usedL_snoc])
      generalize xs.getD k 0 = x at *
      clear hc hb
      by_cases hx : 0 < x
      · go_wp2
        go_round
        case rel => exact ⟨k + 1, hlt, rfl, by rw [HS.out, if_pos hx]; rfl⟩
        case measure => simp [intOf]; omega
      · go_wp2
        go_round
        case rel => exact ⟨k + 1, hlt, rfl, by rw [HS.out, if_neg hx]; rfl⟩
        case measure => simp [intOf]; omega
    · obtain rfl : k = xs.length := by omega
      go_wp2
      go_ret
      exact ⟨rfl, rfl⟩


theorem room_step (x : Nat) (R : Int) (h1 : R ≤ 32768) (h2 : -40000000 ≤ R) : wrap64 (R - wrap64 (2 ^ (15 - x))) = R - 2 ^ (15 - x) := by
  have h : (2 : Int) ^ (15 - x) ≤ 2 ^ 15 := by exact_mod_cast Nat.pow_le_pow_right (n := 2) (by decide) (by omega : 15 - x ≤ 15)
  have h0 : (0 : Int) < 2 ^ (15 - x) := by exact_mod_cast Nat.two_pow_pos (15 - x)
  generalize (2 : Int) ^ (15 - x) = y at *
  unfold wrap64; omega

set_option maxHeartbeats 400000 in
theorem room_any (v : Value) (xs : List Nat) (w : World) (hv : RdI w v xs) (hl : xs.length ≤ 1000) (h15 : ∀ x ∈ xs, x ≤ 15) :
    Calls Tryd.prog 57 #[v] w fun r w' => r = .returned (.int .i64 (roomL xs)) ∧ w = w' := by
  obtain ⟨a, cap, rfl⟩ := hv.shape
  go_enter Tryd.func57, Tryd.ntmps57
  go_wp2
  go_loop [3, 8] (fun n i => ∃ k : Nat, k ≤ xs.length ∧ i = .int .i64 k ∧ n = .int .i64 (roomL (xs.take k))) (fun _ i => xs.length - (intOf i).toNat)
  case atStart => exact ⟨0, Nat.zero_le _, rfl, rfl⟩
  case round =>
    obtain ⟨k, hk, rfl, rfl⟩ := hrel
    have hu := roomL_bd (xs.take k)
    have hu2 : (xs.take k).length ≤ k := List.length_take_le _ _
    by_cases hlt : k < xs.length
    · obtain ⟨b, off, cap', c, f, hV, hb, hc⟩ := hv.nonempty (by omega)
      simp only [Value.slice.injEq, true_and] at hV
      obtain ⟨rfl, -⟩ := hV
      have hck := hc k hlt
      have hx15 := h15 _ (getD_lt hlt)
      have HS := Lib.hid (show roomL (xs.take (k + 1)) = roomL (xs.take k) - (if 0 < xs.getD k 0 then 2 ^ (15 - xs.getD k 0) else 0) by rw [take_snoc xs k hlt, roomL_snoc])
      generalize xs.getD k 0 = x at *
      generalize roomL (xs.take k) = R at *
      have HP := Lib.hid (room_step x R hu.1 (by omega))
      clear hc hb
      by_cases hx : 0 < x
      · go_wp2
        go_round
        case rel => exact ⟨k + 1, hlt, rfl, by rw [HS.out, if_pos hx, HP.out]⟩
        case measure => simp [intOf]; omega
      · go_wp2
        go_round
        case rel => exact ⟨k + 1, hlt, rfl, by rw [HS.out, if_neg hx]; simp⟩
        case measure => simp [intOf]; omega
    · obtain rfl : k = xs.length := by omega
      go_wp2
      go_ret
      exact ⟨rfl, rfl⟩


set_option maxRecDepth 100000 in
set_option maxHeartbeats 400000 in
theorem length_any (k : Nat) (w : World) (hk : k ≤ 1000) :
    Calls Tryd.prog 50 #[vi k] w fun r w' => r = .returned (.tuple #[vi (lengthL k).1, vi (lengthL k).2]) ∧ w = w' := by
  by_cases h1 : k = 285
  · subst h1
    go_enter Tryd.func50, Tryd.ntmps50
    go_wp2
    go_ret2
    exact ⟨rfl, rfl⟩
  · by_cases h2 : 257 ≤ k ∧ k ≤ 264
    · have hE : lengthL k = (k - 254, 0) := by unfold lengthL; rw [if_neg h1, if_pos h2]
      rw [hE]; clear hE
      have h3 : ((k : Int) == 285) = false := by simp; omega
      obtain ⟨h4, h5⟩ := h2
      go_enter Tryd.func50, Tryd.ntmps50
      go_wp2
      go_ret2
      exact ⟨ret_two (by omega) rfl, rfl⟩
    · by_cases h3 : 265 ≤ k ∧ k ≤ 284
      · have hE : lengthL k = (3 + (4 + (k - 261) % 4) * 2 ^ ((k - 261) / 4), (k - 261) / 4) := by unfold lengthL; rw [if_neg h1, if_neg h2, if_pos h3]
        obtain ⟨h4, h5⟩ := h3
        have h6 : ((k : Int) == 285) = false := by simp; omega
        obtain ⟨m, rfl⟩ : ∃ m, k = m + 261 := ⟨k - 261, by omega⟩
        have HF := Lib.hid (length_shl m (by omega))
        rw [hE]; clear hE h1 h2
        go_enter Tryd.func50, Tryd.ntmps50
        go_wp2
        go_ret2
        exact ⟨ret_two HF.out (by simp), rfl⟩
      · have hE : lengthL k = (0, 0) := by unfold lengthL; rw [if_neg h1, if_neg h2, if_neg h3]
        have h6 : ((k : Int) == 285) = false := by simp; omega
        rw [hE]; clear hE
        by_cases h7 : k < 257
        · clear h1 h2 h3
          go_enter Tryd.func50, Tryd.ntmps50
          go_wp2
          go_ret2
          exact ⟨rfl, rfl⟩
        · have h8 : 285 < k := by omega
          clear h1 h2 h3
          go_enter Tryd.func50, Tryd.ntmps50
          go_wp2
          go_ret2
          exact ⟨rfl, rfl⟩

theorem dist_shl (d : Nat) (h4 : 4 ≤ d) (h : d ≤ 29) : wrap64 (1 + wrap64 ((2 + (d : Int) % 2) * 2 ^ (d / 2 - 1))) = ((1 + (2 + d % 2) * 2 ^ (d / 2 - 1) : Nat) : Int) := by
  have h2 : 2 ^ (d / 2 - 1) ≤ 2 ^ 13 := Nat.pow_le_pow_right (by decide) (by omega)
  have h3 : (2 + d % 2) * 2 ^ (d / 2 - 1) ≤ 3 * 2 ^ 13 := Nat.mul_le_mul (by omega) h2
  have e : ((2 + (d : Int) % 2) * 2 ^ (d / 2 - 1)) = (((2 + d % 2) * 2 ^ (d / 2 - 1) : Nat) : Int) := by simp
  rw [e, wrap64_nat _ (by omega)]
  generalize (2 + d % 2) * 2 ^ (d / 2 - 1) = y at *
  unfold wrap64; omega

set_option maxRecDepth 100000 in
set_option maxHeartbeats 400000 in
theorem distance_any (d : Nat) (w : World) (hd : d ≤ 1000) :
    Calls Tryd.prog 52 #[vi d] w fun r w' => r = .returned (.tuple #[vi (distanceL d).1, vi (distanceL d).2]) ∧ w = w' := by
  by_cases h1 : d ≤ 3
  · have hE : distanceL d = (d + 1, 0) := by unfold distanceL; rw [if_pos h1]
    rw [hE]; clear hE
    go_enter Tryd.func52, Tryd.ntmps52
    go_wp2
    go_ret2
    exact ⟨ret_two (by omega) rfl, rfl⟩
  · by_cases h2 : d ≤ 29
    · have hE : distanceL d = (1 + (2 + d % 2) * 2 ^ (d / 2 - 1), d / 2 - 1) := by unfold distanceL; rw [if_neg h1, if_pos h2]
      have HF := Lib.hid (dist_shl d (by omega) h2)
      have hlo : 4 ≤ d := by omega
      rw [hE]; clear hE h1
      go_enter Tryd.func52, Tryd.ntmps52
      go_wp2
      go_ret2
      exact ⟨ret_two HF.out (by omega), rfl⟩
    · have hE : distanceL d = (0, 0) := by unfold distanceL; rw [if_neg h1, if_neg h2]
      rw [hE]; clear hE h1
      go_enter Tryd.func52, Tryd.ntmps52
      go_wp2
      go_ret2
      exact ⟨rfl, rfl⟩


/-- A block of ints. -/
def iBlk (xs : List Nat) : Obj := .cells (xs.map vi).toArray 3 (0, 0)

theorem iBlk_cell {w : World} {g : Nat} {xs : List Nat} (h : w.heap[g]? = some (iBlk xs)) {j : Nat} (hj : j < xs.length) : w.cell? ⟨g, j, none⟩ = some (vi (xs.getD j 0)) := by
  unfold iBlk at h
  simp [World.cell?, h, List.getElem?_eq_getElem hj, List.getD_eq_getElem?_getD]
theorem iBlk_free {w : World} {g : Nat} {xs : List Nat} (h : w.heap[g]? = some (iBlk xs)) (j : Nat) : w.frozen? ⟨g, j, none⟩ = false := frozen_of_row w g j _ _ h
theorem iBlk_set {w : World} {g : Nat} {xs : List Nat} (h : w.heap[g]? = some (iBlk xs)) (j y : Nat) : (w.setCell ⟨g, j, none⟩ (vi y)).heap[g]? = some (iBlk (xs.set j y)) := by
  rw [heap_setCell_same w g j _ 3 _ h]
  unfold iBlk
  simp
theorem iBlk_rd {w : World} {g : Nat} {xs : List Nat} (h : w.heap[g]? = some (iBlk xs)) (cap : Nat) (hc : xs.length ≤ cap) : RdI w (.slice (some ⟨g, 0, none⟩) xs.length cap) xs :=
  ⟨_, cap, rfl, hc, fun j hj => ⟨g, 0, _, _, rfl, h, by simp [List.getElem?_eq_getElem hj, List.getD_eq_getElem?_getD]⟩⟩
theorem madeCells_zero (n : Nat) : Obj.cells (madeCells #[.int .i64 0] n) 3 = iBlk (List.replicate n 0) := by
  unfold iBlk
  congr 1
  apply Array.ext
  · simp [size_madeCells]
  · intro i h1 h2; simp [madeCells, Nat.mod_one]

def orderL : List Nat := [16, 17, 18, 0, 8, 7, 9, 6, 10, 5, 11, 4, 12, 3, 13, 2, 14, 1, 15]

set_option maxRecDepth 100000 in
set_option maxHeartbeats 400000 in
theorem order_any (w : World) : Calls Tryd.prog 54 #[] w fun r w' => ∃ v, r = .returned v ∧ RdI w' v orderL ∧ New w w' := by
  go_enter Tryd.func54, Tryd.ntmps54
  go_wp2
  go_ret
  exact ⟨_, rfl, iBlk_rd (xs := orderL) (heap_alloc_new w _) 19 (by decide), (Frm.refl _ _).alloc _⟩

/-- One round of the canonical codes: those of n bits, up to the k-th symbol. -/
def codesIn (l : List Nat) (n : Nat) (s : List Nat × Nat) : Nat → List Nat × Nat
  | 0 => s
  | k + 1 => if l.getD k 0 = n then ((codesIn l n s k).1.set k (codesIn l n s k).2, (codesIn l n s k).2 + 1) else codesIn l n s k
/-- The canonical codes of up to n bits, and the next one. -/
def codesOut (l : List Nat) : Nat → List Nat × Nat
  | 0 => (List.replicate l.length 0, 0)
  | n + 1 => codesIn l (n + 1) ((codesOut l n).1, 2 * (codesOut l n).2) l.length
def codesL (l : List Nat) : List Nat := (codesOut l 15).1

theorem codesIn_len (l : List Nat) (n : Nat) (s : List Nat × Nat) (k : Nat) : (codesIn l n s k).1.length = s.1.length ∧ (codesIn l n s k).2 ≤ s.2 + k := by
  induction k with
  | zero => exact ⟨rfl, Nat.le_refl _⟩
  | succ k ih => simp only [codesIn]; split <;> simp [ih.1] <;> omega
theorem codesOut_len (l : List Nat) (n : Nat) : (codesOut l n).1.length = l.length ∧ (codesOut l n).2 + l.length ≤ l.length * 2 ^ n := by
  induction n with
  | zero => simp [codesOut]
  | succ n ih =>
    have := codesIn_len l (n + 1) ((codesOut l n).1, 2 * (codesOut l n).2) l.length
    refine ⟨this.1.trans ih.1, ?_⟩
    have h2 := this.2
    have e : l.length * 2 ^ (n + 1) = 2 * (l.length * 2 ^ n) := by rw [Nat.pow_succ]; rw [← Nat.mul_assoc, Nat.mul_comm]
    simp only [codesOut]
    omega
theorem codesOut_bd (l : List Nat) (n : Nat) (hn : n ≤ 15) (hl : l.length ≤ 1000) : (codesOut l n).2 ≤ 40000000 := by
  have h := (codesOut_len l n).2
  have h2 : l.length * 2 ^ n ≤ 1000 * 2 ^ 15 := Nat.mul_le_mul hl (Nat.pow_le_pow_right (by decide) hn)
  omega

set_option maxRecDepth 100000 in
set_option maxHeartbeats 1000000 in
theorem codes_any (v : Value) (xs : List Nat) (w : World) (hv : RdI w v xs) (hl : xs.length ≤ 1000) :
    Calls Tryd.prog 63 #[v] w fun r w' => ∃ v', r = .returned v' ∧ RdI w' v' (codesL xs) ∧ New w w' := by
  obtain ⟨a, cap, rfl⟩ := hv.shape
  have hmk := run_make_row' (P := Tryd.prog) 23 3 (.int .i64 0) 8 Tryd.underlying23 info3 rfl .i64 .i64 xs.length (by omega) (by omega) w
  rw [madeCells_zero] at hmk
  go_enter Tryd.func63, Tryd.ntmps63
  go_wp2
  clear hmk
  have hg0 : (w.alloc (iBlk (List.replicate xs.length 0))).heap[w.heap.size]? = some (iBlk (codesOut xs 0).1) := heap_alloc_new w _
  have hn0 : New w (w.alloc (iBlk (List.replicate xs.length 0))) := (Frm.refl _ _).alloc _
  generalize w.alloc (iBlk (List.replicate xs.length 0)) = w0 at *
  have hg : w.heap.size = w.heap.size := rfl
  generalize hgg : w.heap.size = g at hg0 ⊢
  have HG := Lib.hid hgg; clear hgg
  clear hg
  go_loopw [4, 5] (fun nx n wr => ∃ m : Nat, m ≤ 15 ∧ n = .int .i64 (m + 1 : Nat) ∧ nx = vi (codesOut xs m).2 ∧ wr.heap[g]? = some (iBlk (codesOut xs m).1) ∧ New w wr) (fun _ n _ => 16 - (intOf n).toNat)
  case atStart => exact ⟨0, Nat.zero_le _, rfl, rfl, hg0, hn0⟩
  case round =>
    clear hg0 hn0 w0
    obtain ⟨m, hm, rfl, rfl, hgr, hnr⟩ := hrel
    have hbd := codesOut_bd xs m hm hl
    by_cases hlt : m < 15
    · have HO : Hid (codesOut xs (m + 1) = codesIn xs (m + 1) ((codesOut xs m).1, 2 * (codesOut xs m).2) xs.length) := Lib.hid rfl
      have HL := Lib.hid (codesOut_len xs m).1
      generalize (codesOut xs m).1 = O at *
      generalize (codesOut xs m).2 = N at *
      have HB := Lib.hid hbd
      go_wp2
      clear hbd
      obtain ⟨wo, rfl⟩ : ∃ wo : World, wo = wr := ⟨_, rfl⟩
      go_loopw [4, 19] (fun nx i wr => ∃ k : Nat, k ≤ xs.length ∧ i = .int .i64 k ∧ nx = vi (codesIn xs (m + 1) (O, 2 * N) k).2 ∧ wr.heap[g]? = some (iBlk (codesIn xs (m + 1) (O, 2 * N) k).1) ∧ New w wr) (fun _ i _ => xs.length - (intOf i).toNat)
      case atStart => exact ⟨0, Nat.zero_le _, rfl, congrArg (Value.int .i64) (by simp only [codesIn]; omega), hgr, hnr⟩
      case round =>
        obtain ⟨k, hk, rfl, rfl, hgk, hnk⟩ := hrel
        by_cases hlk : k < xs.length
        · obtain ⟨b, off, cap', c, f, hV, hb, hc⟩ := (hv.new hnk).nonempty (by omega)
          simp only [Value.slice.injEq, true_and] at hV
          obtain ⟨rfl, -⟩ := hV
          have hck := hc k hlk
          have hlen := codesIn_len xs (m + 1) (O, 2 * N) k
          have HS : Hid (codesIn xs (m + 1) (O, 2 * N) (k + 1) = if xs.getD k 0 = m + 1 then ((codesIn xs (m + 1) (O, 2 * N) k).1.set k (codesIn xs (m + 1) (O, 2 * N) k).2, (codesIn xs (m + 1) (O, 2 * N) k).2 + 1) else codesIn xs (m + 1) (O, 2 * N) k) := Lib.hid rfl
          generalize xs.getD k 0 = x at *
          generalize codesIn xs (m + 1) (O, 2 * N) k = R at *
          obtain ⟨O1, N1⟩ := R
          simp only [] at *
          have hO1 : k < O1.length := by have := hlen.1; have := HL.out; simp at *; omega
          have hbd1 : N1 ≤ 90000000 := by have := hlen.2; have := HB.out; simp at *; omega
          have hkO := iBlk_cell hgk hO1
          have hfO := iBlk_free hgk k
          have hst := iBlk_set hgk k N1
          clear hc hb hlen hv
          by_cases hx : x = m + 1
          · have ht : ((x : Int) == ((m + 1 : Nat) : Int)) = true := by simp; omega
            have ht2 : ((x : Int) == (m : Int) + 1) = true := by simp; omega
            have HS2 := Lib.hid (HS.out.trans (if_pos hx)); clear HS hx
            go_wp2
            go_roundw
            case rel => exact ⟨k + 1, hlk, rfl, by rw [HS2.out]; rfl, by rw [HS2.out]; exact hst, hnk.store (Nat.le_of_eq HG.out) _⟩
            case measure => simp [intOf]; omega
          · have ht : ((x : Int) == ((m + 1 : Nat) : Int)) = false := by simp; omega
            have ht2 : ((x : Int) == (m : Int) + 1) = false := by simp; omega
            have HS2 := Lib.hid (HS.out.trans (if_neg hx)); clear HS hx
            go_wp2
            go_roundw
            case rel => exact ⟨k + 1, hlk, rfl, by rw [HS2.out], by rw [HS2.out]; exact hgk, hnk⟩
            case measure => simp [intOf]; omega
        · obtain rfl : k = xs.length := by omega
          go_wp2
          go_roundw
          case rel => exact ⟨m + 1, hlt, by go_num, by rw [HO.out], by rw [HO.out]; exact hgk, hnk⟩
          case measure => simp [intOf]; omega
    · obtain rfl : m = 15 := by omega
      go_wp2
      go_ret
      have hlc := (codesOut_len xs 15).1
      exact ⟨_, rfl, by rw [← hlc]; exact iBlk_rd hgr _ (Nat.le_refl _), hnr⟩

end Go.Proofs.YtbbnibbdiiffkaaDoor

/- The reference's fixed codes; its judgement of lengths; its block that is not compressed. -/
namespace Go.Proofs.YtbbnibbdiiffkaaDoor
open Go.RowKit

def fixN (i : Nat) : Nat := if 144 ≤ i ∧ i ≤ 255 then 9 else if 256 ≤ i ∧ i ≤ 279 then 7 else 8
def fixLit : List Nat := (List.range 288).map fixN
def fixDist : List Nat := List.replicate 32 5

theorem own_rdI {w : World} {base n : Nat} {v : Value} {xs : List Nat} (h : w.ownsRow base 3 1 v n (xs.map vi)) : RdI w v xs := by
  have hn : xs.length = n := by have := h.1; simpa using this
  subst hn
  obtain ⟨a, cap, rfl⟩ := own_shape h
  refine ⟨a, cap, rfl, ?_, fun j hj => ?_⟩
  · rcases h.2 with ⟨h1, h2⟩ | ⟨g, cap', cur, h1, h2, h3, h4, h5, h6, h7⟩
    · omega
    · simp only [Value.slice.injEq] at h1
      obtain ⟨-, -, rfl⟩ := h1
      exact h4
  rcases h.2 with ⟨h1, h2⟩ | ⟨g, cap', cur, h1, h2, h3, h4, h5, h6, h7⟩
  · omega
  · simp only [Value.slice.injEq] at h1
    obtain ⟨rfl, -, rfl⟩ := h1
    refine ⟨g, 0, cur, _, rfl, h3, ?_⟩
    have : (cur.toList.take (xs.length * 1))[j]? = some (vi (xs.getD j 0)) := by
      rw [h7]; simp [List.getElem?_eq_getElem hj, List.getD_eq_getElem?_getD]
    rw [List.getElem?_take, if_pos (by omega)] at this
    simpa using this

theorem one_new (w : World) (x : Value) (t : TypeId) : ∀ (j : Nat) (u : Value), [x][j]? = some u → (w.alloc (.cells #[x] t)).cell? ((⟨w.heap.size, 0, none⟩ : Addr).add j) = some u := by
  intro j u hj
  match j, hj with
  | 0, hj => simp at hj; subst hj; simp [Addr.add]
theorem one_cell (x : Nat) : ∀ u ∈ [vi x], u.oneCell' = true := by
  intro u hu; simp at hu; subst hu; rfl

theorem grown_new {w0 w w1 : World} {B : Nat} {v : Value} {t : TypeId} {sz n : Nat} {xs : List Value} (hn : New w0 w) (ho : w.ownsRow B t sz v n xs) (hB : w0.heap.size ≤ B) {o : Obj} (hg : (w.alloc o).grownBy w1 v.ownBlock) : New w0 w1 := by
  refine ⟨hg.os.trans hn.os, hg.tape.trans hn.tape, hg.output.trans hn.output, Nat.le_trans hn.size (Nat.le_trans (by simp) hg.size), fun k hk hs => ?_⟩
  have hk' : k < w.heap.size := Nat.lt_of_lt_of_le hk hn.size
  rw [hg.block k (by simp; omega) (fun e => by have := (ho.lt k e.symm).1; omega), Below.heap_alloc _ _ _ hk']
  exact hn.block k hk hs

set_option maxRecDepth 100000 in
set_option maxHeartbeats 2000000 in
theorem fixed_any (w : World) : Calls Tryd.prog 30 #[] w fun r w' => ∃ v1 v2, r = .returned (.tuple #[v1, v2]) ∧ RdI w' v1 fixLit ∧ RdI w' v2 fixDist ∧ New w w' := by
  obtain ⟨i0, hi, hz0, hz1, hz2⟩ := info_parts info3
  go_enter Tryd.func30, Tryd.ntmps30
  go_wp2
  go_loopw [2, 6] (fun v i wr => ∃ k : Nat, k ≤ 288 ∧ i = .int .i64 k ∧ wr.ownsRow w.heap.size 3 1 v k (((List.range k).map fixN).map vi) ∧ New w wr) (fun _ i _ => 288 - (intOf i).toNat)
  case atStart => exact ⟨0, Nat.zero_le _, rfl, World.ownsRow_nil _ _ _ _, Frm.refl _ _⟩
  case round =>
    obtain ⟨k, hk, rfl, hown, hnr⟩ := hrel
    by_cases hlt : k < 288
    · have HN := Lib.hid (show ((List.range (k + 1)).map fixN).map vi = ((List.range k).map fixN).map vi ++ [vi (fixN k)] by rw [List.range_succ]; simp)
      have hsz := hnr.size
      have H1 : fixN k = 7 ∨ fixN k = 8 ∨ fixN k = 9 := by unfold fixN; split <;> (try split) <;> simp
      obtain ⟨a, cap, rfl⟩ := own_shape hown
      rcases (show k < 144 ∨ (144 ≤ k ∧ k ≤ 255) ∨ (256 ≤ k ∧ k ≤ 279) ∨ 280 ≤ k from by omega) with h | ⟨h, h'⟩ | ⟨h, h'⟩ | h
      · have hx : fixN k = 8 := by unfold fixN; rw [if_neg (by omega), if_neg (by omega)]
        clear H1
        go_wp2_with (at_builtin; refine wpList_append_own _ rfl _ _ 23 rfl w.heap.size 3 i0 (.int .i64 0) 1 8 Tryd.underlying23 hi hz0 hz1 hz2 rfl (by decide) _ _ _ rfl (hown.alloc _) ⟨wr.heap.size, 0, none⟩ 1 1 [vi 8] rfl rfl (one_new _ _ _) (one_cell 8) (by unfold maxLen; omega) (by omega) (by simp; omega) ?_; intro v' w1 hown1 hg1 _)
        go_roundw
        case rel => exact ⟨k + 1, hlt, rfl, by rw [HN.out, hx]; exact hown1, grown_new hnr hown (Nat.le_refl _) hg1⟩
        case measure => simp [intOf]; omega
      · have hx : fixN k = 9 := by unfold fixN; rw [if_pos ⟨h, h'⟩]
        clear H1
        go_wp2_with (at_builtin; refine wpList_append_own _ rfl _ _ 23 rfl w.heap.size 3 i0 (.int .i64 0) 1 8 Tryd.underlying23 hi hz0 hz1 hz2 rfl (by decide) _ _ _ rfl (hown.alloc _) ⟨wr.heap.size, 0, none⟩ 1 1 [vi 9] rfl rfl (one_new _ _ _) (one_cell 9) (by unfold maxLen; omega) (by omega) (by simp; omega) ?_; intro v' w1 hown1 hg1 _)
        go_roundw
        case rel => exact ⟨k + 1, hlt, rfl, by rw [HN.out, hx]; exact hown1, grown_new hnr hown (Nat.le_refl _) hg1⟩
        case measure => simp [intOf]; omega
      · have hx : fixN k = 7 := by unfold fixN; rw [if_neg (by omega), if_pos ⟨h, h'⟩]
        clear H1
        go_wp2_with (at_builtin; refine wpList_append_own _ rfl _ _ 23 rfl w.heap.size 3 i0 (.int .i64 0) 1 8 Tryd.underlying23 hi hz0 hz1 hz2 rfl (by decide) _ _ _ rfl (hown.alloc _) ⟨wr.heap.size, 0, none⟩ 1 1 [vi 7] rfl rfl (one_new _ _ _) (one_cell 7) (by unfold maxLen; omega) (by omega) (by simp; omega) ?_; intro v' w1 hown1 hg1 _)
        go_roundw
        case rel => exact ⟨k + 1, hlt, rfl, by rw [HN.out, hx]; exact hown1, grown_new hnr hown (Nat.le_refl _) hg1⟩
        case measure => simp [intOf]; omega
      · have hx : fixN k = 8 := by unfold fixN; rw [if_neg (by omega), if_neg (by omega)]
        clear H1
        go_wp2_with (at_builtin; refine wpList_append_own _ rfl _ _ 23 rfl w.heap.size 3 i0 (.int .i64 0) 1 8 Tryd.underlying23 hi hz0 hz1 hz2 rfl (by decide) _ _ _ rfl (hown.alloc _) ⟨wr.heap.size, 0, none⟩ 1 1 [vi 8] rfl rfl (one_new _ _ _) (one_cell 8) (by unfold maxLen; omega) (by omega) (by simp; omega) ?_; intro v' w1 hown1 hg1 _)
        go_roundw
        case rel => exact ⟨k + 1, hlt, rfl, by rw [HN.out, hx]; exact hown1, grown_new hnr hown (Nat.le_refl _) hg1⟩
        case measure => simp [intOf]; omega
    · have hk288 : k = 288 := by omega
      have hr1 := own_rdI hown
      rw [hk288] at hr1
      have HK := Lib.hid hk288
      clear hk288
      obtain ⟨a1, cap1, rfl⟩ := own_shape hown
      clear hown
      go_wp2
      obtain ⟨wo, rfl⟩ : ∃ wo : World, wo = wr := ⟨_, rfl⟩
      go_loopw [3, 28] (fun v i wr => ∃ k : Nat, k ≤ 32 ∧ i = .int .i64 k ∧ wr.ownsRow wo.heap.size 3 1 v k ((List.replicate k 5).map vi) ∧ New wo wr) (fun _ i _ => 32 - (intOf i).toNat)
      case atStart => exact ⟨0, Nat.zero_le _, rfl, World.ownsRow_nil _ _ _ _, Frm.refl _ _⟩
      case round =>
        obtain ⟨k, hk, rfl, hown, hnw⟩ := hrel
        by_cases hlt : k < 32
        · have HN := Lib.hid (show (List.replicate (k + 1) 5).map vi = (List.replicate k 5).map vi ++ [vi 5] by rw [List.replicate_succ']; simp)
          have hsz := hnw.size
          obtain ⟨a, cap, rfl⟩ := own_shape hown
          go_wp2_with (at_builtin; refine wpList_append_own _ rfl _ _ 23 rfl wo.heap.size 3 i0 (.int .i64 0) 1 8 Tryd.underlying23 hi hz0 hz1 hz2 rfl (by decide) _ _ _ rfl (hown.alloc _) ⟨wr.heap.size, 0, none⟩ 1 1 [vi 5] rfl rfl (one_new _ _ _) (one_cell 5) (by unfold maxLen; omega) (by omega) (by simp; omega) ?_; intro v' w1 hown1 hg1 _)
          go_roundw
          case rel => exact ⟨k + 1, hlt, rfl, by rw [HN.out]; exact hown1, grown_new hnw hown (Nat.le_refl _) hg1⟩
          case measure => simp [intOf]; omega
        · obtain rfl : k = 32 := by omega
          have hr2 : RdI wr _ fixDist := own_rdI hown
          have hr1' := hr1.new hnw
          go_wp2
          go_ret2
          exact ⟨_, _, rfl, hr1', hr2, hnr.trans hnw⟩


def wholeE (e : Int) (l : List Nat) : Int := if roomL l < 0 then stopE e 2 else if 0 < roomL l then stopE e 0 else e

/-- So many bytes of a block that is not compressed. -/
def stGo (src : List Nat) (p : Nat) (out : List Nat) (e : Int) : Nat → Nat × List Nat × Int
  | 0 => (p, out, e)
  | k + 1 => ((bitsAt src (stGo src p out e k).1 (stGo src p out e k).2.2 8).2.1,
      giveO (stGo src p out e k).2.1 (bitsAt src (stGo src p out e k).1 (stGo src p out e k).2.2 8).2.2 (bitsAt src (stGo src p out e k).1 (stGo src p out e k).2.2 8).1,
      giveE (stGo src p out e k).2.1 (bitsAt src (stGo src p out e k).1 (stGo src p out e k).2.2 8).2.2)
def lenE (e : Int) (n m : Nat) : Int := if e < 0 ∧ n + m ≠ 65535 then 2 else e
def storedS (src : List Nat) (p : Nat) (out : List Nat) (e : Int) : Nat × List Nat × Int :=
  let a := bitsAt src ((p + 7) / 8 * 8) e 16
  let b := bitsAt src a.2.1 a.2.2 16
  stGo src b.2.1 out (lenE b.2.2 a.1 b.1) a.1

theorem bitsAt_off (src : List Nat) (p : Nat) {e : Int} (h : ¬ e < 0) (n : Nat) : bitsAt src p e n = (0, p, e) := by
  induction n with
  | zero => rfl
  | succ n ih =>
    simp only [bitsAt, ih]
    unfold bitR bitP bitE
    rw [if_neg (by omega), if_neg (by omega), if_neg (by omega)]; simp
theorem stGo_off {src : List Nat} {p : Nat} {out : List Nat} {e : Int} {k : Nat} (h : ¬ (stGo src p out e k).2.2 < 0) : ∀ n, k ≤ n → stGo src p out e n = stGo src p out e k := by
  intro n hn
  obtain ⟨m, rfl⟩ : ∃ m, n = k + m := ⟨n - k, by omega⟩
  clear hn
  induction m with
  | zero => rfl
  | succ m ih =>
    rw [← Nat.add_assoc]
    simp only [stGo, ih, bitsAt_off src _ h]
    rw [(give_off _ h).1, (give_off 0 h).2]

section
variable {Z : Nat} {src dict : List Nat} {w : World} {p : Nat} {out : List Nat} {e : Int}

set_option maxRecDepth 100000 in
set_option maxHeartbeats 400000 in
theorem whole_any (hS : SOK Z src dict w p out e) (v : Value) (xs : List Nat) (hv : RdI w v xs) (hl : xs.length ≤ 1000) (h15 : ∀ x ∈ xs, x ≤ 15) :
    Calls Tryd.prog 55 #[.pointer (some ⟨Z, 0, none⟩), v] w fun r w' => r = .returned (.tuple #[]) ∧ SOK Z src dict w' p out (wholeE e xs) ∧ Keep Z w w' := by
  obtain ⟨a, cap, rfl⟩ := hv.shape
  by_cases h1 : roomL xs < 0
  · have hE : wholeE e xs = stopE e 2 := by unfold wholeE; rw [if_pos h1]
    rw [hE]; clear hE
    go_enter Tryd.func55, Tryd.ntmps55
    go_wp2_with (first | (go_at_call 57; refine (room_any _ xs _ hv hl h15).mono ?_; rintro r w1 ⟨rfl, rfl⟩) | (go_at_call 18; refine (stop_any hS 2 (by omega) (by omega)).mono ?_; rintro r w1 ⟨rfl, hs1, hk1⟩))
    go_returns
    exact ⟨rfl, hs1, hk1⟩
  · by_cases h2 : 0 < roomL xs
    · have hE : wholeE e xs = stopE e 0 := by unfold wholeE; rw [if_neg h1, if_pos h2]
      rw [hE]; clear hE
      go_enter Tryd.func55, Tryd.ntmps55
      go_wp2_with (first | (go_at_call 57; refine (room_any _ xs _ hv hl h15).mono ?_; rintro r w1 ⟨rfl, rfl⟩) | (go_at_call 18; refine (stop_any hS 0 (by omega) (by omega)).mono ?_; rintro r w1 ⟨rfl, hs1, hk1⟩))
      go_returns
      exact ⟨rfl, hs1, hk1⟩
    · have hE : wholeE e xs = e := by unfold wholeE; rw [if_neg h1, if_neg h2]
      rw [hE]; clear hE
      go_enter Tryd.func55, Tryd.ntmps55
      go_wp2_with (go_at_call 57; refine (room_any _ xs _ hv hl h15).mono ?_; rintro r w1 ⟨rfl, rfl⟩)
      go_returns
      exact ⟨rfl, hS, Keep.refl _ _⟩

theorem align_le {p n : Nat} (h : p ≤ 8 * n) : (p + 7) / 8 * 8 ≤ 8 * n := by omega

set_option maxRecDepth 100000 in
set_option maxHeartbeats 2000000 in
theorem stored_any (hS : SOK Z src dict w p out e) :
    Calls Tryd.prog 28 #[.pointer (some ⟨Z, 0, none⟩)] w fun r w' => r = .returned (.tuple #[]) ∧
      SOK Z src dict w' (storedS src p out e).1 (storedS src p out e).2.1 (storedS src p out e).2.2 ∧ Keep Z w w' := by
  obtain ⟨srcV, dictV, outV, hA⟩ := hS
  have c1 := hA.c1
  have f1 := hA.fz 1
  have hsm := hA.small
  have hpos := hA.pos
  have hA1 : SOK Z src dict (w.setCell ⟨Z, 1, none⟩ (vi ((p + 7) / 8 * 8))) ((p + 7) / 8 * 8) out e := ⟨_, _, _, hA.set_p _ (align_le hpos)⟩
  have HS : Hid (storedS src p out e = stGo src (bitsAt src (bitsAt src ((p + 7) / 8 * 8) e 16).2.1 (bitsAt src ((p + 7) / 8 * 8) e 16).2.2 16).2.1 out
    (lenE (bitsAt src (bitsAt src ((p + 7) / 8 * 8) e 16).2.1 (bitsAt src ((p + 7) / 8 * 8) e 16).2.2 16).2.2 (bitsAt src ((p + 7) / 8 * 8) e 16).1 (bitsAt src (bitsAt src ((p + 7) / 8 * 8) e 16).2.1 (bitsAt src ((p + 7) / 8 * 8) e 16).2.2 16).1) (bitsAt src ((p + 7) / 8 * 8) e 16).1) := Lib.hid rfl
  generalize storedS src p out e = R at *
  have HK0 : Keep Z w (w.setCell ⟨Z, 1, none⟩ (vi ((p + 7) / 8 * 8))) := (Keep.refl _ _).setCell _ _
  clear hA
  go_enter Tryd.func28, Tryd.ntmps28
  go_wp2_with fail
  refine (bits_any hA1 16 (by omega)).mono ?_; rintro r w1 ⟨rfl, hS1, hK1⟩
  have hb1 := bitsAt_lt src ((p + 7) / 8 * 8) e 16
  generalize bitsAt src ((p + 7) / 8 * 8) e 16 = A1 at *
  obtain ⟨n, p1, e1⟩ := A1
  simp only [] at hb1 hS1 HS
  clear c1 f1 hpos hA1
  go_wp2_with fail
  refine (bits_any hS1 16 (by omega)).mono ?_; rintro r w2 ⟨rfl, hS2, hK2⟩
  have hb2 := bitsAt_lt src p1 e1 16
  generalize bitsAt src p1 e1 16 = A2 at *
  obtain ⟨m, p2, e2⟩ := A2
  simp only [] at hb2 hS2 HS
  have hk3 := HK0.trans (hK1.trans hK2)
  clear hS1 hK1 hK2 HK0
  go_wp2_with fail
  by_cases he : e2 < 0
  · refine (on_yes hS2 he).mono ?_; rintro r w3 ⟨rfl, rfl⟩
    have hnm : wrap64 ((n : Int) + (m : Int)) = (n : Int) + (m : Int) := by unfold wrap64; omega
    by_cases hz : n + m = 65535
    · have hE : lenE e2 n m = e2 := by unfold lenE; rw [if_neg (by omega)]
      rw [hE] at HS
      have ht : ((n : Int) + (m : Int) == 65535) = true := by simp; omega
      have ht2 : ((n : Int) + (m : Int) != 65535) = false := by simp; omega
      obtain ⟨w3, rfl⟩ : ∃ x : World, x = w2 := ⟨_, rfl⟩
      clear hE hz
      go_wp2_with fail
      have hS3 := hS2
      go_loopw [4] (fun i wr => ∃ k : Nat, k ≤ n ∧ i = .int .i64 k ∧ SOK Z src dict wr (stGo src p2 out e2 k).1 (stGo src p2 out e2 k).2.1 (stGo src p2 out e2 k).2.2 ∧ Keep Z w wr) (fun i _ => n - (intOf i).toNat)
      case atStart => exact ⟨0, Nat.zero_le _, rfl, hS3, hk3⟩
      case round =>
        obtain ⟨k, hk, rfl, hSk, hKk⟩ := hrel
        by_cases hlt : k < n
        · have HN : Hid (stGo src p2 out e2 (k + 1) = ((bitsAt src (stGo src p2 out e2 k).1 (stGo src p2 out e2 k).2.2 8).2.1,
            giveO (stGo src p2 out e2 k).2.1 (bitsAt src (stGo src p2 out e2 k).1 (stGo src p2 out e2 k).2.2 8).2.2 (bitsAt src (stGo src p2 out e2 k).1 (stGo src p2 out e2 k).2.2 8).1,
            giveE (stGo src p2 out e2 k).2.1 (bitsAt src (stGo src p2 out e2 k).1 (stGo src p2 out e2 k).2.2 8).2.2)) := Lib.hid rfl
          have HOff := Lib.hid (fun h => stGo_off (src := src) (p := p2) (out := out) (e := e2) (k := k) h n (by omega))
          generalize stGo src p2 out e2 k = G at *
          obtain ⟨pk, ok, ek⟩ := G
          simp only [] at hSk HN HOff
          by_cases hek : ek < 0
          · go_wp2_with fail
            refine (on_yes hSk hek).mono ?_; rintro r w4 ⟨rfl, rfl⟩
            go_wp2_with fail
            refine (bits_any hSk 8 (by omega)).mono ?_; rintro r w4 ⟨rfl, hS4, hK4⟩
            have hb4 := bitsAt_lt src pk ek 8
            generalize bitsAt src pk ek 8 = A4 at *
            obtain ⟨b4, p4, e4⟩ := A4
            simp only [] at hb4 hS4 HN
            have hb5 : b4 < 256 := by omega
            clear hb4
            go_wp2_with fail
            refine (give_any hS4 b4).mono ?_; rintro r w5 ⟨rfl, hS5, hK5⟩
            go_wp2_with fail
            go_roundw
            case rel => exact ⟨k + 1, hlt, rfl, by rw [HN.out]; exact hS5, hKk.trans (hK4.trans hK5)⟩
            case measure => simp [intOf]; omega
          · go_wp2_with fail
            refine (on_no hSk (by omega)).mono ?_; rintro r w4 ⟨rfl, rfl⟩
            go_wp2_with fail
            go_returns
            exact ⟨rfl, by rw [HS.out, HOff.out (by omega)]; exact hSk, hKk⟩
        · obtain rfl : k = n := by omega
          go_wp2_with fail
          go_returns
          exact ⟨rfl, by rw [HS.out]; exact hSk, hKk⟩
    · have hE : lenE e2 n m = 2 := by unfold lenE; rw [if_pos ⟨he, hz⟩]
      rw [hE] at HS
      have ht : ((n : Int) + (m : Int) == 65535) = false := by simp; omega
      have ht2 : ((n : Int) + (m : Int) != 65535) = true := by simp; omega
      have hst : stopE e2 2 = 2 := if_pos he
      clear hE hz
      go_wp2_with fail
      refine (stop_any hS2 2 (by omega) (by omega)).mono ?_; rintro r w3 ⟨rfl, hS3, hK3⟩
      rw [hst] at hS3
      have hk3 := hk3.trans hK3
      clear hst hK3 ht ht2 hnm hS2 he
      go_wp2_with fail
      go_loopw [4] (fun i wr => ∃ k : Nat, k ≤ n ∧ i = .int .i64 k ∧ SOK Z src dict wr (stGo src p2 out 2 k).1 (stGo src p2 out 2 k).2.1 (stGo src p2 out 2 k).2.2 ∧ Keep Z w wr) (fun i _ => n - (intOf i).toNat)
      case atStart => exact ⟨0, Nat.zero_le _, rfl, hS3, hk3⟩
      case round =>
        obtain ⟨k, hk, rfl, hSk, hKk⟩ := hrel
        by_cases hlt : k < n
        · have HN : Hid (stGo src p2 out 2 (k + 1) = ((bitsAt src (stGo src p2 out 2 k).1 (stGo src p2 out 2 k).2.2 8).2.1,
            giveO (stGo src p2 out 2 k).2.1 (bitsAt src (stGo src p2 out 2 k).1 (stGo src p2 out 2 k).2.2 8).2.2 (bitsAt src (stGo src p2 out 2 k).1 (stGo src p2 out 2 k).2.2 8).1,
            giveE (stGo src p2 out 2 k).2.1 (bitsAt src (stGo src p2 out 2 k).1 (stGo src p2 out 2 k).2.2 8).2.2)) := Lib.hid rfl
          have HOff := Lib.hid (fun h => stGo_off (src := src) (p := p2) (out := out) (e := 2) (k := k) h n (by omega))
          generalize stGo src p2 out 2 k = G at *
          obtain ⟨pk, ok, ek⟩ := G
          simp only [] at hSk HN HOff
          by_cases hek : ek < 0
          · go_wp2_with fail
            refine (on_yes hSk hek).mono ?_; rintro r w4 ⟨rfl, rfl⟩
            go_wp2_with fail
            refine (bits_any hSk 8 (by omega)).mono ?_; rintro r w4 ⟨rfl, hS4, hK4⟩
            have hb4 := bitsAt_lt src pk ek 8
            generalize bitsAt src pk ek 8 = A4 at *
            obtain ⟨b4, p4, e4⟩ := A4
            simp only [] at hb4 hS4 HN
            have hb5 : b4 < 256 := by omega
            clear hb4
            go_wp2_with fail
            refine (give_any hS4 b4).mono ?_; rintro r w5 ⟨rfl, hS5, hK5⟩
            go_wp2_with fail
            go_roundw
            case rel => exact ⟨k + 1, hlt, rfl, by rw [HN.out]; exact hS5, hKk.trans (hK4.trans hK5)⟩
            case measure => simp [intOf]; omega
          · go_wp2_with fail
            refine (on_no hSk (by omega)).mono ?_; rintro r w4 ⟨rfl, rfl⟩
            go_wp2_with fail
            go_returns
            exact ⟨rfl, by rw [HS.out, HOff.out (by omega)]; exact hSk, hKk⟩
        · obtain rfl : k = n := by omega
          go_wp2_with fail
          go_returns
          exact ⟨rfl, by rw [HS.out]; exact hSk, hKk⟩
  · have hE : lenE e2 n m = e2 := by unfold lenE; rw [if_neg (by omega)]
    rw [hE] at HS
    refine (on_no hS2 he).mono ?_; rintro r w3 ⟨rfl, rfl⟩
    obtain ⟨w3, rfl⟩ : ∃ x : World, x = w2 := ⟨_, rfl⟩
    have hS3 := hS2
    clear hE
    go_wp2_with fail
    go_loopw [4] (fun i wr => ∃ k : Nat, k ≤ n ∧ i = .int .i64 k ∧ SOK Z src dict wr (stGo src p2 out e2 k).1 (stGo src p2 out e2 k).2.1 (stGo src p2 out e2 k).2.2 ∧ Keep Z w wr) (fun i _ => n - (intOf i).toNat)
    case atStart => exact ⟨0, Nat.zero_le _, rfl, hS3, hk3⟩
    case round =>
      obtain ⟨k, hk, rfl, hSk, hKk⟩ := hrel
      by_cases hlt : k < n
      · have HN : Hid (stGo src p2 out e2 (k + 1) = ((bitsAt src (stGo src p2 out e2 k).1 (stGo src p2 out e2 k).2.2 8).2.1,
          giveO (stGo src p2 out e2 k).2.1 (bitsAt src (stGo src p2 out e2 k).1 (stGo src p2 out e2 k).2.2 8).2.2 (bitsAt src (stGo src p2 out e2 k).1 (stGo src p2 out e2 k).2.2 8).1,
          giveE (stGo src p2 out e2 k).2.1 (bitsAt src (stGo src p2 out e2 k).1 (stGo src p2 out e2 k).2.2 8).2.2)) := Lib.hid rfl
        have HOff := Lib.hid (fun h => stGo_off (src := src) (p := p2) (out := out) (e := e2) (k := k) h n (by omega))
        generalize stGo src p2 out e2 k = G at *
        obtain ⟨pk, ok, ek⟩ := G
        simp only [] at hSk HN HOff
        by_cases hek : ek < 0
        · go_wp2_with fail
          refine (on_yes hSk hek).mono ?_; rintro r w4 ⟨rfl, rfl⟩
          go_wp2_with fail
          refine (bits_any hSk 8 (by omega)).mono ?_; rintro r w4 ⟨rfl, hS4, hK4⟩
          have hb4 := bitsAt_lt src pk ek 8
          generalize bitsAt src pk ek 8 = A4 at *
          obtain ⟨b4, p4, e4⟩ := A4
          simp only [] at hb4 hS4 HN
          have hb5 : b4 < 256 := by omega
          clear hb4
          go_wp2_with fail
          refine (give_any hS4 b4).mono ?_; rintro r w5 ⟨rfl, hS5, hK5⟩
          go_wp2_with fail
          go_roundw
          case rel => exact ⟨k + 1, hlt, rfl, by rw [HN.out]; exact hS5, hKk.trans (hK4.trans hK5)⟩
          case measure => simp [intOf]; omega
        · go_wp2_with fail
          refine (on_no hSk (by omega)).mono ?_; rintro r w4 ⟨rfl, rfl⟩
          go_wp2_with fail
          go_returns
          exact ⟨rfl, by rw [HS.out, HOff.out (by omega)]; exact hSk, hKk⟩
      · obtain rfl : k = n := by omega
        go_wp2_with fail
        go_returns
        exact ⟨rfl, by rw [HS.out]; exact hSk, hKk⟩
end

end Go.Proofs.YtbbnibbdiiffkaaDoor

/- The reference's books of codes: maps from a code with a 1 ahead of it to its symbol. -/
namespace Go.Proofs.YtbbnibbdiiffkaaDoor
open Go.RowKit

def mEnt (x : (Nat × Nat) × Nat) : MapEntry := { key := vi x.1.1, val := vi x.1.2, born := x.2 }
/-- A map of ints, whose entries were never taken away: the i-th one was the i-th to come. -/
def mBlk (M : List (Nat × Nat)) : Obj := .map (M.zipIdx.map mEnt).toArray M.length
def mGet (M : List (Nat × Nat)) (k : Nat) : Option Nat := (M.find? fun x => x.1 == k).map (·.2)
def mIdx (M : List (Nat × Nat)) (k : Nat) : Option Nat := M.findIdx? fun x => x.1 == k
def mPut (M : List (Nat × Nat)) (k v : Nat) : List (Nat × Nat) :=
  match mIdx M k with
  | some i => M.modify i fun x => (x.1, v)
  | none => M ++ [(k, v)]

theorem findNow_m (k : Nat) : ∀ (M : List (Nat × Nat)) (n i : Nat),
    Instr.findNow (.int .i64) (vi k) ((M.zipIdx n).map mEnt) i = some ((M.findIdx? fun x => x.1 == k).map fun j => (i + j, vi ((M.getD j (0, 0)).2))) := by
  intro M
  induction M with
  | nil => intro n i; rfl
  | cons x M ih =>
    intro n i
    simp only [List.zipIdx_cons, List.map_cons, Instr.findNow, mEnt, Instr.sameNow]
    by_cases h : x.1 = k
    · have h1 : ((k : Int) == (x.1 : Int)) = true := by simp; omega
      simp [List.findIdx?_cons, h]
    · have h1 : ((k : Int) == (x.1 : Int)) = false := by simp; omega
      have h2 : (x.1 == k) = false := by simp; exact h
      simp only [h1, if_true, ih, List.findIdx?_cons, h2, Bool.false_eq_true, if_false]
      congr 1
      simp [Option.map_map, Function.comp_def]
      cases M.findIdx? fun x => x.1 == k <;> simp <;> omega

theorem mGet_idx (M : List (Nat × Nat)) (k : Nat) : mGet M k = (mIdx M k).map fun j => (M.getD j (0, 0)).2 := by
  unfold mGet mIdx
  induction M with
  | nil => rfl
  | cons x M ih =>
    simp only [List.find?_cons, List.findIdx?_cons]
    cases h : (x.1 == k)
    · simp [ih, Option.map_map, Function.comp_def]
    · simp

theorem run_findKey_m (M : List (Nat × Nat)) (k : Nat) (w : World) :
    (Instr.findKey 3 (vi k) (M.zipIdx.map mEnt)).run Tryd.prog w = .ok ((mIdx M k).map fun j => (j, vi ((M.getD j (0, 0)).2))) w := by
  have h := findNow_m k M 0 0
  simp only [Nat.zero_add] at h
  unfold Instr.findKey
  simp [run_underlying Tryd.underlying3, h, mIdx]

theorem run_checkKey_m (e : Bool) (k : Nat) (w : World) : (Instr.checkKey e 10000 3 (vi k)).run Tryd.prog w = .ok () w := by
  unfold Instr.checkKey
  simp [run_underlying Tryd.underlying3]

theorem mBlk_eq (M : List (Nat × Nat)) : mBlk M = .map (M.zipIdx.map mEnt).toArray M.length := rfl

theorem run_lookup_m {w : World} {b : Nat} {M : List (Nat × Nat)} (hb : w.heap[b]? = some (mBlk M)) (k : Nat) :
    (Instr.lookup 101 (.map (some b)) (vi k) true).run Tryd.prog w = .ok (.tuple #[vi ((mGet M k).getD 0), .bool (mGet M k).isSome]) w := by
  rw [mBlk_eq] at hb
  have hz : (zeroValue 3).run Tryd.prog w = .ok (.int .i64 0) w := by kernel_rfl
  have hf := run_findKey_m M k w
  rw [mGet_idx]
  cases hi : mIdx M k with
  | none =>
    rw [hi] at hf
    simp [Instr.lookup, run_underlying Tryd.underlying101, MapKept.run_getObj_map hb, run_checkKey_m, hf, hz, Result.andThen]
  | some j =>
    rw [hi] at hf
    simp [Instr.lookup, run_underlying Tryd.underlying101, MapKept.run_getObj_map hb, run_checkKey_m, hf, Result.andThen]

/-- A world with a block laid anew. -/
def setBlk (w : World) (b : Nat) (o : Obj) : World := { w with heap := w.heap.setIfInBounds b o }

theorem key_same (M : List (Nat × Nat)) (k j : Nat) (h : mIdx M k = some j) : j < M.length ∧ (M.getD j (0, 0)).1 = k := by
  unfold mIdx at h
  rw [List.findIdx?_eq_some_iff_getElem] at h
  obtain ⟨h1, h2, _⟩ := h
  refine ⟨h1, ?_⟩
  rw [List.getD_eq_getElem?_getD, List.getElem?_eq_getElem h1]
  simpa using h2

theorem modify_ent (M : List (Nat × Nat)) (j v k : Nat) (hj : j < M.length) (hk : (M.getD j (0, 0)).1 = k) :
    (M.zipIdx.map mEnt).modify j (fun e => { key := vi k, val := vi v, born := e.born }) = (M.modify j fun x => (x.1, v)).zipIdx.map mEnt := by
  rw [List.getD_eq_getElem?_getD, List.getElem?_eq_getElem hj] at hk
  simp only [Option.getD_some] at hk
  apply List.ext_getElem
  · simp
  · intro i h1 h2
    simp [List.getElem_modify]
    split
    · rename_i e; subst e; simp [mEnt, hk]
    · rfl

theorem run_update_m {w : World} {b : Nat} {M : List (Nat × Nat)} (hb : w.heap[b]? = some (mBlk M)) (k v : Nat) :
    (Instr.mapUpdate 101 (.map (some b)) (vi k) (vi v)).run Tryd.prog w = .ok () (setBlk w b (mBlk (mPut M k v))) := by
  rw [mBlk_eq] at hb
  have hf := run_findKey_m M k w
  unfold mPut
  cases hi : mIdx M k with
  | none =>
    rw [hi] at hf
    simp [Instr.mapUpdate, run_underlying Tryd.underlying101, MapKept.run_getObj_map hb, run_checkKey_m, hf, MapKept.run_setObj_map _ hb, Result.andThen, setBlk, mBlk_eq, List.zipIdx_append, mEnt]
  | some j =>
    rw [hi] at hf
    obtain ⟨hj, hk⟩ := key_same M k j hi
    have he : M[j]? = some (M.getD j (0, 0)) := by simp [List.getElem?_eq_getElem hj, List.getD_eq_getElem?_getD]
    have hs : (Instr.keyThatStays (vi k) (vi k)).run Tryd.prog w = .ok (vi k) w := by
      simp [Instr.keyThatStays, Instr.sameBits]
    have hm := modify_ent M j v k hj hk
    have hkk : (mEnt (M.getD j (0, 0), j)).key = vi k := by simp only [mEnt, hk]
    simp only [Instr.mapUpdate]
    simp [run_underlying Tryd.underlying101, MapKept.run_getObj_map hb, run_checkKey_m, hf]
    rw [he]
    simp only [Option.map_some, Option.getD_some, Function.comp_apply, hkk, hs, Result.andThen, hm, MapKept.run_setObj_map _ hb, setBlk, mBlk_eq]
    simp

theorem run_len_m {w : World} {b : Nat} {M : List (Nat × Nat)} (hb : w.heap[b]? = some (mBlk M)) (ty : TypeId) :
    (Builtin.len_ #[101] ty #[.map (some b)]).run Tryd.prog w = .ok (vi M.length) w := by
  rw [mBlk_eq] at hb
  simp [Builtin.len_, run_underlying Tryd.underlying101, MapKept.run_getObj_map hb, goInt]

theorem run_make_m (w : World) : (Instr.makeMap 101 none).run Tryd.prog w = .ok (.map (some w.heap.size)) (w.alloc (mBlk [])) := by
  rw [run_makeMap]; rfl

theorem setBlk_heap {w : World} {b : Nat} {o : Obj} (h : b < w.heap.size) : (setBlk w b o).heap[b]? = some o := by simp [setBlk, h]
theorem setBlk_other {w : World} {b k : Nat} {o : Obj} (h : k ≠ b) : (setBlk w b o).heap[k]? = w.heap[k]? := by
  simp only [setBlk, Array.getElem?_setIfInBounds]; rw [if_neg (by omega)]
theorem Frm.setBlk {S : Nat → Prop} {a w : World} (h : Frm S a w) {b : Nat} (hb : a.heap.size ≤ b) (o : Obj) : Frm S a (setBlk w b o) :=
  ⟨h.os, h.tape, h.output, by simpa [YtbbnibbdiiffkaaDoor.setBlk] using h.size, fun k hk hs => (setBlk_other (by omega)).trans (h.block k hk hs)⟩

/-- The book of the first k symbols. -/
def bookGo (l : List Nat) : Nat → List (Nat × Nat)
  | 0 => []
  | k + 1 => if 0 < l.getD k 0 then mPut (bookGo l k) (2 ^ l.getD k 0 ||| (codesL l).getD k 0) k else bookGo l k
def bookL (l : List Nat) : List (Nat × Nat) := bookGo l l.length

theorem codesL_len (l : List Nat) : (codesL l).length = l.length := (codesOut_len l 15).1
theorem codesIn_mem (l : List Nat) (n : Nat) (s : List Nat × Nat) (B : Nat) (h1 : ∀ x ∈ s.1, x ≤ B) (h2 : s.2 + l.length ≤ B) : ∀ k, k ≤ l.length → ∀ x ∈ (codesIn l n s k).1, x ≤ B := by
  intro k
  induction k with
  | zero => intro _; exact h1
  | succ k ih =>
    intro hk x hx
    have ih' := ih (by omega)
    have hlen := (codesIn_len l n s k).2
    simp only [codesIn] at hx
    split at hx
    · rcases List.mem_or_eq_of_mem_set hx with h | h
      · exact ih' x h
      · omega
    · exact ih' x hx
theorem codesL_bd (l : List Nat) (hl : l.length ≤ 1000) (k : Nat) : (codesL l).getD k 0 ≤ 90000000 := by
  have key : ∀ n, n ≤ 15 → ∀ x ∈ (codesOut l n).1, x ≤ 90000000 := by
    intro n
    induction n with
    | zero => intro _ x hx; simp [codesOut] at hx; omega
    | succ n ih =>
      intro hn
      have hb := codesOut_bd l n (by omega) hl
      exact codesIn_mem l (n + 1) ((codesOut l n).1, 2 * (codesOut l n).2) 90000000 (ih (by omega)) (show 2 * (codesOut l n).2 + l.length ≤ 90000000 by omega) _ (Nat.le_refl _)
  rcases Nat.lt_or_ge k (codesL l).length with h | h
  · exact key 15 (Nat.le_refl _) _ (getD_lt h)
  · rw [List.getD_eq_getElem?_getD, List.getElem?_eq_none h]; simp

theorem key_or (x c : Nat) (hx : x ≤ 15) (hc : c ≤ 90000000) : bits .or .i64 (wrap64 (2 ^ x)) (c : Int) = ((2 ^ x ||| c : Nat) : Int) := by
  have h : 2 ^ x ≤ 2 ^ 15 := Nat.pow_le_pow_right (by decide) hx
  have e : ((2 : Int) ^ x) = ((2 ^ x : Nat) : Int) := by simp
  rw [e, wrap64_nat _ (by omega), or_i64 _ _ (by omega) (by omega)]

set_option maxRecDepth 100000 in
set_option maxHeartbeats 1000000 in
theorem book_any (v : Value) (xs : List Nat) (w : World) (hv : RdI w v xs) (hl : xs.length ≤ 1000) (h15 : ∀ x ∈ xs, x ≤ 15) :
    Calls Tryd.prog 48 #[v] w fun r w' => ∃ b, r = .returned (.map (some b)) ∧ w'.heap[b]? = some (mBlk (bookL xs)) ∧ w.heap.size ≤ b ∧ New w w' := by
  obtain ⟨a, cap, rfl⟩ := hv.shape
  have hmm := run_make_m w
  go_enter Tryd.func48, Tryd.ntmps48
  go_wp2_with fail
  clear hmm
  have hn0 : New w (w.alloc (mBlk [])) := (Frm.refl _ _).alloc _
  refine (codes_any _ xs _ (hv.new hn0) hl).mono ?_; rintro r w1 ⟨cv, rfl, hcv, hn1⟩
  have hb1 : w1.heap[w.heap.size]? = some (mBlk (bookGo xs 0)) := hn1.heap (heap_alloc_new w _)
  have hn2 := hn0.trans (Frm.mono hn1 fun _ _ f => f)
  obtain ⟨ca, ccap, rfl⟩ := hcv.shape
  have HB := Lib.hid hb1
  have hcc : Value.slice ca (codesL xs).length ccap = Value.slice ca xs.length ccap := by rw [codesL_len]
  rw [hcc] at hcv ⊢
  clear hn0 hn1 hb1 hcc
  go_wp2
  go_loopw [10] (fun i wr => ∃ k : Nat, k ≤ xs.length ∧ i = .int .i64 k ∧ wr.heap[w.heap.size]? = some (mBlk (bookGo xs k)) ∧ New w wr ∧ RdI wr (.slice ca xs.length ccap) (codesL xs)) (fun i _ => xs.length - (intOf i).toNat)
  case atStart => exact ⟨0, Nat.zero_le _, rfl, HB.out, hn2, hcv⟩
  case round =>
    clear HB hn2 hcv w1
    obtain ⟨k, hk, rfl, hbk, hnk, hck⟩ := hrel
    by_cases hlt : k < xs.length
    · obtain ⟨b, off, cap', c, f, hV, hb, hc⟩ := (hv.new hnk).nonempty (by omega)
      simp only [Value.slice.injEq, true_and] at hV
      obtain ⟨rfl, -⟩ := hV
      obtain ⟨b2, off2, cap2, c2, f2, hV2, hb2, hc2⟩ := hck.nonempty (by rw [codesL_len]; omega)
      simp only [Value.slice.injEq] at hV2
      obtain ⟨rfl, -, -⟩ := hV2
      have hxk := hc k hlt
      have hck2 := hc2 k (by rw [codesL_len]; exact hlt)
      have hx15 := h15 _ (getD_lt hlt)
      have hcb := codesL_bd xs hl k
      have HS : Hid (bookGo xs (k + 1) = if 0 < xs.getD k 0 then mPut (bookGo xs k) (2 ^ xs.getD k 0 ||| (codesL xs).getD k 0) k else bookGo xs k) := Lib.hid rfl
      generalize xs.getD k 0 = x at *
      generalize (codesL xs).getD k 0 = y at *
      generalize bookGo xs k = M at *
      clear hc hb hc2 hb2 hv
      by_cases hx : 0 < x
      · have HS2 := Lib.hid (HS.out.trans (if_pos hx))
        have hkey := key_or x y hx15 hcb
        have hup := run_update_m hbk (2 ^ x ||| y) k
        have hbl := lt_of_block hbk
        have h1 : Hid ((setBlk wr w.heap.size (mBlk (mPut M (2 ^ x ||| y) k))).heap[w.heap.size]? = some (mBlk (mPut M (2 ^ x ||| y) k))) := Lib.hid (setBlk_heap hbl)
        have h2 : New w (setBlk wr w.heap.size (mBlk (mPut M (2 ^ x ||| y) k))) := hnk.setBlk (Nat.le_refl _) _
        have h3 : RdI (setBlk wr w.heap.size (mBlk (mPut M (2 ^ x ||| y) k))) (.slice (some ⟨b2, off2, none⟩) xs.length ccap) (codesL xs) :=
          hck.same fun b c f hb => by rw [setBlk_other (fun e => by subst e; rw [hbk] at hb; cases hb)]; exact hb
        clear hbk hcb HS hbl
        go_wp2
        go_roundw
        case rel => exact ⟨k + 1, hlt, rfl, by rw [HS2.out]; exact h1.out, h2, h3⟩
        case measure => simp [intOf]; omega
      · have HS2 := Lib.hid (HS.out.trans (if_neg hx))
        clear HS
        go_wp2
        go_roundw
        case rel => exact ⟨k + 1, hlt, rfl, by rw [HS2.out]; exact hbk, hnk, hck⟩
        case measure => simp [intOf]; omega
    · obtain rfl : k = xs.length := by omega
      go_wp2
      go_ret
      exact ⟨_, rfl, hbk, Nat.le_refl _, hnk⟩
end Go.Proofs.YtbbnibbdiiffkaaDoor
