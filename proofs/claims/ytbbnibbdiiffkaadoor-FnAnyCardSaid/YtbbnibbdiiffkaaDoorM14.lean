/- A table of codes, made of lengths: what lies in memory while it is made. A table of codes, made of lengths: what the loops keep. A table of codes, made of lengths: a short code is laid. A table of codes, made of lengths: a long code is laid. -/
import Derived.Deep.MidRow
import Derived.Test.YtbbnibbdiiffkaaDoorM11
import Derived.Test.YtbbnibbdiiffkaaDoorM13

/- A table of codes, made of lengths: what lies in memory while it is made. -/
namespace Go.Proofs.YtbbnibbdiiffkaaDoor
open Go.RowKit

/-- A block of numbers. -/
def Arr (w : World) (b t N : Nat) (f : Nat → Nat) : Prop := ∃ cs, w.heap[b]? = some (.cells cs t (0, 0)) ∧ cs.size = N ∧ ∀ n, n < N → cs[n]? = some (vi (f n))
section
variable {w w' : World} {b t N : Nat} {f : Nat → Nat}
theorem Arr.cell (h : Arr w b t N f) (n : Nat) (hn : n < N) : w.cell? ⟨b, n, none⟩ = some (vi (f n)) := by
  obtain ⟨cs, h1, h2, h3⟩ := h
  simp [World.cell?, h1, h3 n hn]
theorem Arr.fz (h : Arr w b t N f) (n : Nat) : w.frozen? ⟨b, n, none⟩ = false := by
  obtain ⟨cs, h1, h2, h3⟩ := h
  exact frozen_of_row w b n _ _ h1
theorem Arr.set (h : Arr w b t N f) (n x : Nat) : Arr (w.setCell ⟨b, n, none⟩ (vi x)) b t N (fun k => if k = n then x else f k) := by
  obtain ⟨cs, h1, h2, h3⟩ := h
  refine ⟨_, heap_setCell_same w b n cs t _ h1, by rw [Array.size_setIfInBounds]; exact h2, fun k hk => ?_⟩
  by_cases e : k = n
  · subst e; rw [getElem?_set_same _ (by omega)]; simp only [if_true]
  · rw [getElem?_set_ne _ (fun h => e h.symm)]; simp only [if_neg e]; exact h3 k hk
theorem Arr.frm {S : Nat → Prop} (h : Arr w b t N f) (hf : Frm S w w') (hb : ¬ S b) : Arr w' b t N f := by
  obtain ⟨cs, h1, h2, h3⟩ := h
  exact ⟨cs, by rw [hf.block b (lt_of_block h1) hb]; exact h1, h2, h3⟩
theorem Arr.congr {g : Nat → Nat} (h : Arr w b t N f) (he : ∀ n, n < N → f n = g n) : Arr w b t N g := by
  obtain ⟨cs, h1, h2, h3⟩ := h
  exact ⟨cs, h1, h2, fun n hn => by rw [← he n hn]; exact h3 n hn⟩
theorem Arr.drewN (h : Arr w b t N f) (n : Nat) : Arr (w.drewN n) b t N f := h
end

/-- A table, in the cells of a block. -/
structure HTab (w : World) (b o t : Nat) (cs0 : Array Value) (mn : Nat) (ch : Nat → Nat) (lv : Value) (mask : Nat) : Prop where
  ex : ∃ cs, w.heap[b]? = some (.cells cs t (0, 0)) ∧ cs.size = cs0.size ∧ o + 515 ≤ cs.size ∧ (∀ i, i < o ∨ o + 515 ≤ i → cs[i]? = cs0[i]?) ∧
    cs[o]? = some (vi mn) ∧ (∀ j, j < 512 → cs[o + 1 + j]? = some (u32 (ch j))) ∧ cs[o + 513]? = some lv ∧ cs[o + 514]? = some (u32 mask)
section
variable {w w' : World} {b o t mn mask : Nat} {cs0 : Array Value} {ch : Nat → Nat} {lv : Value}
theorem HTab.fz (h : HTab w b o t cs0 mn ch lv mask) (n : Nat) : w.frozen? ⟨b, n, none⟩ = false := by
  obtain ⟨cs, h1, -⟩ := h.ex
  exact frozen_of_row w b n _ _ h1
theorem HTab.c_min (h : HTab w b o t cs0 mn ch lv mask) : w.cell? ⟨b, o, none⟩ = some (vi mn) := by
  obtain ⟨cs, h1, h2, h3, h4, h5, h6, h7, h8⟩ := h.ex
  simp [World.cell?, h1, h5]
theorem HTab.c_ch (h : HTab w b o t cs0 mn ch lv mask) (j : Nat) (hj : j < 512) : w.cell? ⟨b, o + 1 + j, none⟩ = some (u32 (ch j)) := by
  obtain ⟨cs, h1, h2, h3, h4, h5, h6, h7, h8⟩ := h.ex
  simp [World.cell?, h1, h6 j hj]
theorem HTab.c_lv (h : HTab w b o t cs0 mn ch lv mask) : w.cell? ⟨b, o + 513, none⟩ = some lv := by
  obtain ⟨cs, h1, h2, h3, h4, h5, h6, h7, h8⟩ := h.ex
  simp [World.cell?, h1, h7]
theorem HTab.c_mask (h : HTab w b o t cs0 mn ch lv mask) : w.cell? ⟨b, o + 514, none⟩ = some (u32 mask) := by
  obtain ⟨cs, h1, h2, h3, h4, h5, h6, h7, h8⟩ := h.ex
  simp [World.cell?, h1, h8]
theorem HTab.set_min (h : HTab w b o t cs0 mn ch lv mask) (x : Nat) : HTab (w.setCell ⟨b, o, none⟩ (vi x)) b o t cs0 x ch lv mask := by
  obtain ⟨cs, h1, h2, h3, h4, h5, h6, h7, h8⟩ := h.ex
  exact ⟨_, heap_setCell_same w b _ cs t _ h1, by rw [Array.size_setIfInBounds]; exact h2, by rw [Array.size_setIfInBounds]; exact h3,
    fun i hi => by rw [getElem?_set_ne _ (by omega)]; exact h4 i hi, getElem?_set_same _ (by omega), fun j hj => by rw [getElem?_set_ne _ (by omega)]; exact h6 j hj,
    by rw [getElem?_set_ne _ (by omega)]; exact h7, by rw [getElem?_set_ne _ (by omega)]; exact h8⟩
theorem HTab.set_ch (h : HTab w b o t cs0 mn ch lv mask) (k x : Nat) (hk : k < 512) : HTab (w.setCell ⟨b, o + 1 + k, none⟩ (u32 x)) b o t cs0 mn (fun j => if j = k then x else ch j) lv mask := by
  obtain ⟨cs, h1, h2, h3, h4, h5, h6, h7, h8⟩ := h.ex
  exact ⟨_, heap_setCell_same w b _ cs t _ h1, by rw [Array.size_setIfInBounds]; exact h2, by rw [Array.size_setIfInBounds]; exact h3,
    fun i hi => by rw [getElem?_set_ne _ (by omega)]; exact h4 i hi, by rw [getElem?_set_ne _ (by omega)]; exact h5, fun j hj => by
      by_cases e : j = k
      · subst e; rw [getElem?_set_same _ (by omega), if_pos rfl]
      · rw [getElem?_set_ne _ (by omega), if_neg e]; exact h6 j hj,
    by rw [getElem?_set_ne _ (by omega)]; exact h7, by rw [getElem?_set_ne _ (by omega)]; exact h8⟩
theorem HTab.set_lv (h : HTab w b o t cs0 mn ch lv mask) (x : Value) : HTab (w.setCell ⟨b, o + 513, none⟩ x) b o t cs0 mn ch x mask := by
  obtain ⟨cs, h1, h2, h3, h4, h5, h6, h7, h8⟩ := h.ex
  exact ⟨_, heap_setCell_same w b _ cs t _ h1, by rw [Array.size_setIfInBounds]; exact h2, by rw [Array.size_setIfInBounds]; exact h3,
    fun i hi => by rw [getElem?_set_ne _ (by omega)]; exact h4 i hi, by rw [getElem?_set_ne _ (by omega)]; exact h5, fun j hj => by rw [getElem?_set_ne _ (by omega)]; exact h6 j hj,
    getElem?_set_same _ (by omega), by rw [getElem?_set_ne _ (by omega)]; exact h8⟩
theorem HTab.set_mask (h : HTab w b o t cs0 mn ch lv mask) (x : Nat) : HTab (w.setCell ⟨b, o + 514, none⟩ (u32 x)) b o t cs0 mn ch lv x := by
  obtain ⟨cs, h1, h2, h3, h4, h5, h6, h7, h8⟩ := h.ex
  exact ⟨_, heap_setCell_same w b _ cs t _ h1, by rw [Array.size_setIfInBounds]; exact h2, by rw [Array.size_setIfInBounds]; exact h3,
    fun i hi => by rw [getElem?_set_ne _ (by omega)]; exact h4 i hi, by rw [getElem?_set_ne _ (by omega)]; exact h5, fun j hj => by rw [getElem?_set_ne _ (by omega)]; exact h6 j hj,
    by rw [getElem?_set_ne _ (by omega)]; exact h7, getElem?_set_same _ (by omega)⟩
theorem HTab.frm {S : Nat → Prop} (h : HTab w b o t cs0 mn ch lv mask) (hf : Frm S w w') (hb : ¬ S b) : HTab w' b o t cs0 mn ch lv mask := by
  obtain ⟨cs, h1, h2⟩ := h.ex
  exact ⟨cs, by rw [hf.block b (lt_of_block h1) hb]; exact h1, h2⟩
theorem HTab.congr {g : Nat → Nat} (h : HTab w b o t cs0 mn ch lv mask) (he : ∀ n, n < 512 → ch n = g n) : HTab w b o t cs0 mn g lv mask := by
  obtain ⟨cs, h1, h2, h3, h4, h5, h6, h7, h8⟩ := h.ex
  exact ⟨cs, h1, h2, h3, h4, h5, fun n hn => by rw [← he n hn]; exact h6 n hn, h7, h8⟩
theorem HTab.drewN (h : HTab w b o t cs0 mn ch lv mask) (n : Nat) : HTab (w.drewN n) b o t cs0 mn ch lv mask := ⟨h.ex⟩
/-- The zero value of a table. -/
def hdZn (n : Nat) : List Value := vi 0 :: (List.replicate n (u32 0) ++ [.slice none 0 0, u32 0])
def hdZ : List Value := hdZn 512
theorem hdZn_len (n : Nat) : (hdZn n).length = n + 3 := by unfold hdZn; rw [List.length_cons, List.length_append, List.length_replicate]; rfl
theorem hdZ_len : hdZ.length = 515 := hdZn_len 512
theorem hdZn_mid (n j : Nat) (hj : j < n) : (hdZn n)[j + 1]? = some (u32 0) := by
  unfold hdZn
  rw [List.getElem?_cons_succ, List.getElem?_append_left (by rw [List.length_replicate]; exact hj), List.getElem?_replicate, if_pos hj]
theorem hdZn_lv (n : Nat) : (hdZn n)[n + 1]? = some (.slice none 0 0) := by
  unfold hdZn
  rw [List.getElem?_cons_succ, List.getElem?_append_right (by rw [List.length_replicate]; exact Nat.le_refl _), List.length_replicate, Nat.sub_self]; rfl
theorem hdZn_mask (n : Nat) : (hdZn n)[n + 2]? = some (u32 0) := by
  unfold hdZn
  rw [show n + 2 = (n + 1) + 1 from rfl, List.getElem?_cons_succ, List.getElem?_append_right (by rw [List.length_replicate]; exact Nat.le_succ _), List.length_replicate, show n + 1 - n = 1 by omega]; rfl
end
theorem setCells_row (b t : Nat) : ∀ (vs : List Value) (o : Nat) (w : World) (cs : Array Value), w.heap[b]? = some (.cells cs t (0, 0)) → o + vs.length ≤ cs.size →
    ∃ cs', (w.setCells b o vs).heap[b]? = some (.cells cs' t (0, 0)) ∧ cs'.size = cs.size ∧ (∀ i, i < o ∨ o + vs.length ≤ i → cs'[i]? = cs[i]?) ∧ (∀ i, i < vs.length → cs'[o + i]? = vs[i]?) ∧ Frm (fun k => k = b) w (w.setCells b o vs) := by
  intro vs
  induction vs with
  | nil => intro o w cs h hs; exact ⟨cs, h, rfl, fun _ _ => rfl, fun i hi => absurd hi (Nat.not_lt_zero i), Frm.refl _ _⟩
  | cons v vs ih =>
    intro o w cs h hs
    rw [List.length_cons] at hs
    obtain ⟨cs', q1, q2, q3, q4, q5⟩ := ih (o + 1) (w.setCell ⟨b, o, none⟩ v) _ (heap_setCell_same w b o cs t v h) (by rw [Array.size_setIfInBounds]; omega)
    refine ⟨cs', q1, by rw [q2, Array.size_setIfInBounds], fun i hi => ?_, fun i hi => ?_, Frm.trans (Frm.setCell (S := fun k => k = b) (Frm.refl _ w) rfl v) q5⟩
    · rw [List.length_cons] at hi
      rw [q3 i (by omega), getElem?_set_ne _ (by omega)]
    · rw [List.length_cons] at hi
      cases i with
      | zero => rw [Nat.add_zero, q3 o (by omega), getElem?_set_same _ (by omega)]; rfl
      | succ i => rw [show o + (i + 1) = o + 1 + i by omega, q4 i (by omega)]; rfl
section
variable {w w' : World} {b o t mn mask : Nat} {cs0 : Array Value} {ch : Nat → Nat} {lv : Value}
theorem htab_zero (hh : w.heap[b]? = some (.cells cs0 t (0, 0))) (hs : o + 515 ≤ cs0.size) : HTab (w.setCells b o hdZ) b o t cs0 0 (fun _ => 0) (.slice none 0 0) 0 ∧ Frm (fun k => k = b) w (w.setCells b o hdZ) := by
  have hl : hdZ.length = 515 := hdZ_len
  obtain ⟨cs', q1, q2, q3, q4, q5⟩ := setCells_row b t hdZ o w cs0 hh (by omega)
  rw [hl] at q3 q4
  refine ⟨⟨cs', q1, q2, by omega, q3, q4 0 (by omega), fun j hj => ?_, ?_, ?_⟩, q5⟩
  · rw [show o + 1 + j = o + (j + 1) by omega, q4 (j + 1) (by omega)]; exact hdZn_mid 512 j hj
  · rw [q4 513 (by omega)]; exact hdZn_lv 512
  · rw [q4 514 (by omega)]; exact hdZn_mask 512
theorem hdZ_one : hdZ.toArray.all (·.oneCell') = true := by
  refine all_oneCell_toArray fun v hv => ?_
  unfold hdZ hdZn at hv
  simp only [List.mem_cons, List.mem_append, List.mem_replicate, List.mem_nil_iff, or_false] at hv
  rcases hv with rfl | ⟨-, rfl⟩ | rfl | rfl <;> rfl
theorem HDC.htab {cs : Array Value} {h : HD} (hh : w.heap[b]? = some (.cells cs t (0, 0))) (hs : o + 515 ≤ cs.size) (hc : HDC cs o h lv) : HTab w b o t cs h.min (fun j => h.ch.getD j 0) lv h.mask :=
  ⟨cs, hh, rfl, hs, fun _ _ => rfl, hc.mn, hc.chs, hc.lk, hc.msk⟩
theorem HTab.hdc {h : HD} (ht : HTab w b o t cs0 h.min ch lv h.mask) (hc : ∀ j, j < 512 → ch j = h.ch.getD j 0) :
    ∃ cs, w.heap[b]? = some (.cells cs t (0, 0)) ∧ cs.size = cs0.size ∧ (∀ i, i < o ∨ o + 515 ≤ i → cs[i]? = cs0[i]?) ∧ HDC cs o h lv := by
  obtain ⟨cs, h1, h2, h3, h4, h5, h6, h7, h8⟩ := ht.ex
  exact ⟨cs, h1, h2, h4, ⟨h5, fun j hj => by rw [← hc j hj]; exact h6 j hj, h7, h8⟩⟩
end
theorem setCells_size (b : Nat) : ∀ (vs : List Value) (o : Nat) (w : World), (w.setCells b o vs).heap.size = w.heap.size := by
  intro vs
  induction vs with
  | nil => intro o w; rfl
  | cons v vs ih => intro o w; show ((w.setCell _ v).setCells b (o + 1) vs).heap.size = _; rw [ih]; simp
theorem zero54 : Tryd.zeroCells54.toList = hdZ := by kernel_rfl
theorem zstore (w : World) (b o : Nat) (hth : ∀ j, j < 515 → (w.cell? ⟨b, o + j, none⟩).isSome = true ∧ w.frozen? ⟨b, o + j, none⟩ = false) :
    (storeCells ⟨b, o, none⟩ Tryd.zeroCells54.toList).run Tryd.prog w = .ok () (w.setCells b o hdZ) := by
  rw [zero54]
  have hl := hdZ_len
  have := run_storeCells_cells (P := Tryd.prog) b o hdZ 0 w (fun j hj => (hth j (by omega)).1) (fun j hj => (hth j (by omega)).2) (fun v hv => by
    have := Array.all_eq_true_iff_forall_mem.1 hdZ_one v (by simpa using hv)
    exact this)
  exact this
theorem info54 : (Tryd.prog.info? 54).map (·.size) = some hdZ.toArray.size := by kernel_rfl
theorem built54 : Tryd.prog.built 54 [] = some hdZ.toArray := by kernel_rfl

/-- The rows of links while they are made and filled. -/
structure LRow (w : World) (lv : Value) (N n m L : Nat) (g : Nat → Nat) (F : Nat → Nat → Nat) : Prop where
  lv : lv = .slice (some ⟨L, 0, none⟩) N N
  lb : ∃ cs, w.heap[L]? = some (.cells cs 115 (0, 0)) ∧ cs.size = N ∧ ∀ i, i < n → cs[i]? = some (.slice (some ⟨g i, 0, none⟩) m m)
  rb : ∀ i, i < n → ∃ ds, w.heap[g i]? = some (.cells ds 49 (0, 0)) ∧ ds.size = m ∧ ∀ j, j < m → ds[j]? = some (u32 (F i j))
section
variable {w w' : World} {lv : Value} {N n m L : Nat} {g : Nat → Nat} {F : Nat → Nat → Nat}
theorem LRow.c_row (h : LRow w lv N n m L g F) (i : Nat) (hi : i < n) : w.cell? ⟨L, i, none⟩ = some (.slice (some ⟨g i, 0, none⟩) m m) := by
  obtain ⟨cs, h1, h2, h3⟩ := h.lb
  simp [World.cell?, h1, h3 i hi]
theorem LRow.c_some (h : LRow w lv N n m L g F) (i : Nat) (hi : i < N) : ∃ v, w.cell? ⟨L, i, none⟩ = some v := by
  obtain ⟨cs, h1, h2, h3⟩ := h.lb
  exact ⟨_, by simp only [World.cell?, h1]; exact Array.getElem?_eq_getElem (by omega)⟩
theorem LRow.fz (h : LRow w lv N n m L g F) (i : Nat) : w.frozen? ⟨L, i, none⟩ = false := by
  obtain ⟨cs, h1, h2, h3⟩ := h.lb
  exact frozen_of_row w L i _ _ h1
theorem LRow.c_at (h : LRow w lv N n m L g F) (i j : Nat) (hi : i < n) (hj : j < m) : w.cell? ⟨g i, j, none⟩ = some (u32 (F i j)) := by
  obtain ⟨cs, h1, h2, h3⟩ := h.rb i hi
  simp [World.cell?, h1, h3 j hj]
theorem LRow.fza (h : LRow w lv N n m L g F) (i j : Nat) (hi : i < n) : w.frozen? ⟨g i, j, none⟩ = false := by
  obtain ⟨cs, h1, h2, h3⟩ := h.rb i hi
  exact frozen_of_row w (g i) j _ _ h1
theorem LRow.frm {S : Nat → Prop} (h : LRow w lv N n m L g F) (hf : Frm S w w') (hL : ¬ S L) (hg : ∀ i, i < n → ¬ S (g i)) : LRow w' lv N n m L g F := by
  refine ⟨h.lv, ?_, fun i hi => ?_⟩
  · obtain ⟨cs, h1, h2, h3⟩ := h.lb
    exact ⟨cs, by rw [hf.block L (lt_of_block h1) hL]; exact h1, h2, h3⟩
  · obtain ⟨cs, h1, h2, h3⟩ := h.rb i hi
    exact ⟨cs, by rw [hf.block _ (lt_of_block h1) (hg i hi)]; exact h1, h2, h3⟩
theorem LRow.congr {G : Nat → Nat → Nat} (h : LRow w lv N n m L g F) (he : ∀ i j, i < n → j < m → F i j = G i j) : LRow w lv N n m L g G :=
  ⟨h.lv, h.lb, fun i hi => by
    obtain ⟨cs, h1, h2, h3⟩ := h.rb i hi
    exact ⟨cs, h1, h2, fun j hj => by rw [← he i j hi hj]; exact h3 j hj⟩⟩
theorem LRow.drewN (h : LRow w lv N n m L g F) (k : Nat) : LRow (w.drewN k) lv N n m L g F := ⟨h.lv, h.lb, h.rb⟩
theorem LRow.set (h : LRow w lv N n m L g F) (hL : ∀ i, i < n → g i ≠ L) (hi : ∀ i j, i < n → j < n → g i = g j → i = j) (i0 j0 x : Nat) (h0 : i0 < n) : LRow (w.setCell ⟨g i0, j0, none⟩ (u32 x)) lv N n m L g (fun i j => if i = i0 ∧ j = j0 then x else F i j) := by
  refine ⟨h.lv, ?_, fun i hin => ?_⟩
  · obtain ⟨cs, h1, h2, h3⟩ := h.lb
    exact ⟨cs, by rw [heap_setCell_other _ _ _ _ (fun e => hL i0 h0 e.symm)]; exact h1, h2, h3⟩
  · obtain ⟨cs, h1, h2, h3⟩ := h.rb i hin
    by_cases e : i = i0
    · subst e
      refine ⟨_, heap_setCell_same w (g i) j0 cs 49 _ h1, by rw [Array.size_setIfInBounds]; exact h2, fun j hj => ?_⟩
      by_cases ej : j = j0
      · subst ej; rw [getElem?_set_same _ (by omega), if_pos ⟨rfl, rfl⟩]
      · rw [getElem?_set_ne _ (fun h => ej h.symm), if_neg (fun h => ej h.2)]; exact h3 j hj
    · exact ⟨cs, by rw [heap_setCell_other _ _ _ _ (fun h => e (hi _ _ hin h0 h))]; exact h1, h2, fun j hj => by rw [if_neg (fun h => e h.1)]; exact h3 j hj⟩
/-- One row more. -/
theorem LRow.more (h : LRow w lv N n m L g F) (hn : n < N) (hg : g n = w.heap.size) (hL : L < w.heap.size) (hz : ∀ j, F n j = 0) (o : Obj) (ds : Array Value) (ho : o = .cells ds 49 (0, 0)) (hds : ds.size = m) (hdz : ∀ j, j < m → ds[j]? = some (u32 0)) :
    LRow ((w.alloc o).setCell ⟨L, n, none⟩ (.slice (some ⟨w.heap.size, 0, none⟩) m m)) lv N (n + 1) m L g F := by
  subst ho
  refine ⟨h.lv, ?_, fun i hin => ?_⟩
  · obtain ⟨cs, h1, h2, h3⟩ := h.lb
    have h1' : (w.alloc (.cells ds 49)).heap[L]? = some (.cells cs 115 (0, 0)) := by rw [Below.heap_alloc _ _ _ hL]; exact h1
    refine ⟨_, heap_setCell_same _ L n cs 115 _ h1', by rw [Array.size_setIfInBounds]; exact h2, fun i hi => ?_⟩
    by_cases e : i = n
    · subst e; rw [getElem?_set_same _ (by omega), hg]
    · rw [getElem?_set_ne _ (fun h => e h.symm)]; exact h3 i (by omega)
  · by_cases e : i = n
    · subst e
      refine ⟨ds, ?_, hds, fun j hj => by rw [hz]; exact hdz j hj⟩
      rw [heap_setCell_other _ _ _ _ (by show _ ≠ L; omega), hg]
      exact heap_alloc_new w _
    · obtain ⟨cs, h1, h2, h3⟩ := h.rb i (by omega)
      have := lt_of_block h1
      refine ⟨cs, ?_, h2, h3⟩
      by_cases eL : g i = L
      · obtain ⟨cs2, k1, k2, k3⟩ := h.lb
        rw [eL] at h1; rw [h1] at k1
        simp at k1
      · rw [heap_setCell_other _ _ _ _ eL, Below.heap_alloc _ _ _ this]; exact h1
/-- .. made behind the store. -/
theorem LRow.more2 (h : LRow w lv N n m L g F) (hn : n < N) (hg : g n = w.heap.size) (hgl : ∀ i, i < n → g i ≠ L) (hL : L < w.heap.size) (hz : ∀ j, F n j = 0) (x : Nat) (hx : x = w.heap.size) (ds : Array Value) (hds : ds.size = m) (hdz : ∀ j, j < m → ds[j]? = some (u32 0)) :
    LRow ((w.setCell ⟨L, n, none⟩ (.slice (some ⟨x, 0, none⟩) m m)).alloc (.cells ds 49)) lv N (n + 1) m L g F := by
  have hss : (w.setCell ⟨L, n, none⟩ (.slice (some ⟨x, 0, none⟩) m m)).heap.size = w.heap.size := by simp
  refine ⟨h.lv, ?_, fun i hin => ?_⟩
  · obtain ⟨cs, h1, h2, h3⟩ := h.lb
    refine ⟨_, (Below.heap_alloc _ _ _ (by omega)).trans (heap_setCell_same _ L n cs 115 _ h1), by rw [Array.size_setIfInBounds]; exact h2, fun i hi => ?_⟩
    by_cases e : i = n
    · subst e; rw [getElem?_set_same _ (by omega), hg, hx]
    · rw [getElem?_set_ne _ (fun h => e h.symm)]; exact h3 i (by omega)
  · by_cases e : i = n
    · subst e
      refine ⟨ds, ?_, hds, fun j hj => by rw [hz]; exact hdz j hj⟩
      rw [hg, ← hss]; exact heap_alloc_new _ _
    · obtain ⟨cs, h1, h2, h3⟩ := h.rb i (by omega)
      have := lt_of_block h1
      refine ⟨cs, ?_, h2, h3⟩
      rw [Below.heap_alloc _ _ _ (by omega), heap_setCell_other _ _ _ _ (hgl i (by omega))]; exact h1
end
end Go.Proofs.YtbbnibbdiiffkaaDoor

/- A table of codes, made of lengths: what the loops keep. -/
namespace Go.Proofs.YtbbnibbdiiffkaaDoor
open Go.RowKit

theorem maxL_snoc (a : List Nat) (x : Nat) : maxL (a ++ [x]) = Nat.max (maxL a) x := by
  induction a with
  | nil => simp [maxL]
  | cons y a ih => rw [List.cons_append, maxL, ih, maxL]; exact (Nat.max_assoc _ _ _).symm
def mnK (l : List Nat) (k : Nat) : Nat := (l.take k).foldl minGo 0
def mxK (l : List Nat) (k : Nat) : Nat := maxL (l.take k)
def ctF (l : List Nat) (k n : Nat) : Nat := if n = 0 then 0 else cntL (l.take k) n
theorem mnK_succ (l : List Nat) (k : Nat) (h : k < l.length) : mnK l (k + 1) = minGo (mnK l k) (l.getD k 0) := by
  unfold mnK; rw [take_snoc l k h, List.foldl_append]; rfl
theorem mxK_succ (l : List Nat) (k : Nat) (h : k < l.length) : mxK l (k + 1) = Nat.max (mxK l k) (l.getD k 0) := by
  unfold mxK; rw [take_snoc l k h, maxL_snoc]
theorem mnK_all (l : List Nat) : mnK l l.length = minL l := by unfold mnK minL; rw [List.take_length]
theorem mxK_all (l : List Nat) : mxK l l.length = maxL l := by unfold mxK; rw [List.take_length]
theorem mnK_le (l : List Nat) (h : ∀ x ∈ l, x ≤ 15) (k : Nat) : mnK l k ≤ 15 := minL_le fun x hx => h x (List.mem_of_mem_take hx)
theorem mxK_le (l : List Nat) (h : ∀ x ∈ l, x ≤ 15) (k : Nat) : mxK l k ≤ 15 := maxL_le fun x hx => h x (List.mem_of_mem_take hx)
theorem ctF_zero (l : List Nat) (k : Nat) (h : k < l.length) (h0 : l.getD k 0 = 0) (n : Nat) : ctF l k n = ctF l (k + 1) n := by
  unfold ctF; split
  · rfl
  · rw [cntL_take l k h, if_neg (by omega)]; rfl
theorem ctF_succ (l : List Nat) (k : Nat) (h : k < l.length) (h0 : l.getD k 0 ≠ 0) (n : Nat) : (if n = l.getD k 0 then ctF l k (l.getD k 0) + 1 else ctF l k n) = ctF l (k + 1) n := by
  unfold ctF
  by_cases e : n = l.getD k 0
  · subst e; rw [if_pos rfl, if_neg h0, if_neg h0, cntL_take l k h, if_pos rfl]
  · rw [if_neg e]; split
    · rfl
    · rw [cntL_take l k h, if_neg (fun h => e h.symm)]; rfl
theorem ctF_le (l : List Nat) (k n : Nat) : ctF l k n ≤ l.length := by
  unfold ctF; split
  · exact Nat.zero_le _
  · have : ∀ (m : List Nat), cntL m n ≤ m.length := by
      intro m; induction m with
      | nil => exact Nat.le_refl _
      | cons x m ih => rw [cntL, List.length_cons]; split <;> omega
    exact Nat.le_trans (this _) (by rw [List.length_take]; exact Nat.min_le_right _ _)

theorem arr16 (w : World) : Arr (w.alloc (Obj.cells #[Value.int IntKind.i64 0, Value.int IntKind.i64 0, Value.int IntKind.i64 0, Value.int IntKind.i64 0,
          Value.int IntKind.i64 0, Value.int IntKind.i64 0, Value.int IntKind.i64 0, Value.int IntKind.i64 0,
          Value.int IntKind.i64 0, Value.int IntKind.i64 0, Value.int IntKind.i64 0, Value.int IntKind.i64 0,
          Value.int IntKind.i64 0, Value.int IntKind.i64 0, Value.int IntKind.i64 0, Value.int IntKind.i64 0] 113)) w.heap.size 113 16 (fun _ => 0) := by
  refine ⟨_, heap_alloc_new w _, rfl, fun n hn => ?_⟩
  iterate 16 (rcases n with _ | n; first | rfl | skip)
  omega
theorem arr_le {w : World} {b t N : Nat} {f : Nat → Nat} (_ : Arr w b t N f) : True := trivial
theorem meas_step {l k : Nat} {v : Value} (hv : v = vi (k + 1)) (h : k < l) : l - (intOf v).toNat < l - (intOf (vi k)).toNat := by
  subst hv; exact Nat.sub_lt_sub_left h (Nat.lt_succ_self k)
theorem wrap_succ {k n : Nat} (h : k < n) (hn : n ≤ 1000) : Value.int .i64 (wrap64 ((k : Int) + 1)) = vi (k + 1) := by
  have : wrap64 ((k : Int) + 1) = ((k + 1 : Nat) : Int) := by unfold wrap64; omega
  rw [this]
theorem meas64 {l k : Nat} {v : Value} (hv : v = .int .u64 ((k + 1 : Nat) : Int)) (h : k < l) : l - (intOf v).toNat < l - (intOf (.int .u64 (k : Int))).toNat := by
  subst hv; exact Nat.sub_lt_sub_left h (Nat.lt_succ_self k)
theorem wrap_succ64 {k n : Nat} (h : k < n) (hn : n ≤ 1000) : Value.int .u64 (IntKind.u64.wrap ((k : Int) + 1)) = Value.int .u64 ((k + 1 : Nat) : Int) := by
  have : IntKind.u64.wrap ((k : Int) + 1) = ((k + 1 : Nat) : Int) := wrap_u64_id _ (by omega) (by omega)
  rw [this]
theorem minGo_zero (m : Nat) : minGo m 0 = m := by unfold minGo; rw [if_neg (fun e => e.1 rfl)]
/-- A slice of lengths. -/
def RdN (w : World) (v : Value) (l : List Nat) : Prop :=
  ∃ a cap, v = .slice a l.length cap ∧ ∀ j, j < l.length → ∃ b off, a = some ⟨b, off, none⟩ ∧ b < w.heap.size ∧ w.cell? ⟨b, off + j, none⟩ = some (vi (l.getD j 0))

def nxF (l : List Nat) (i n : Nat) : Nat := if n < i then stL l n else 0
theorem stL_low {l : List Nat} (n : Nat) (h : n ≤ minL l) : stL l n = 0 := by
  cases n with
  | zero => rfl
  | succ n => rw [stL_succ, enL_below n (by omega)]
theorem nxF_min (l : List Nat) (n : Nat) : 0 = nxF l (minL l) n := by
  unfold nxF; split
  · rw [stL_low n (by omega)]
  · rfl
theorem nxF_succ (l : List Nat) (k n : Nat) : (if n = k then stL l k else nxF l k n) = nxF l (k + 1) n := by
  unfold nxF
  by_cases e : n = k
  · subst e; rw [if_pos rfl, if_pos (Nat.lt_succ_self n)]
  · rw [if_neg e]
    by_cases h : n < k
    · rw [if_pos h, if_pos (by omega)]
    · rw [if_neg h, if_neg (by omega)]
theorem ctF_all (l : List Nat) (n : Nat) : ctF l l.length n = cnL l n := by unfold ctF cnL; rw [List.take_length]
theorem stL_pred (l : List Nat) (k : Nat) (h : 0 < k) : enL l (k - 1) * 2 = stL l k := by
  obtain ⟨k, rfl⟩ : ∃ j, k = j + 1 := ⟨k - 1, by omega⟩
  rw [stL_succ, Nat.add_sub_cancel]; omega
theorem maxL_mem (l : List Nat) (h : maxL l ≠ 0) : ∃ x ∈ l, x = maxL l := by
  induction l with
  | nil => exact absurd rfl h
  | cons y l ih =>
    by_cases e : maxL l ≤ y
    · exact ⟨y, List.mem_cons_self .., (Nat.max_eq_left e).symm⟩
    · have he : maxL (y :: l) = maxL l := Nat.max_eq_right (Nat.le_of_lt (Nat.lt_of_not_ge e))
      rw [he] at h ⊢
      obtain ⟨x, q1, q2⟩ := ih h
      exact ⟨x, List.mem_cons_of_mem _ q1, q2⟩
theorem minL_pos {l : List Nat} (h : maxL l ≠ 0) : minL l ≠ 0 ∧ minL l ≤ maxL l := by
  obtain ⟨x, q1, q2⟩ := maxL_mem l h
  have := minL_spec x q1 (by omega)
  exact ⟨this.1, by omega⟩

theorem wu64 {n : Nat} (h : n ≤ 1000) : IntKind.u64.wrap (n : Int) = n := wrap_u64_id _ (by omega) (by omega)
/-- The next codes when i symbols have theirs. -/
def ncF (l : List Nat) (i n : Nat) : Nat := if 0 < n ∧ n ≤ maxL l then stL l n + cntL (l.take i) n else 0
theorem nxF_ncF (l : List Nat) (n : Nat) : nxF l (maxL l + 1) n = ncF l 0 n := by
  unfold nxF ncF
  cases n with
  | zero => rfl
  | succ n =>
    by_cases h : n + 1 < maxL l + 1
    · rw [if_pos h, if_pos ⟨Nat.succ_pos _, by omega⟩]; rfl
    · rw [if_neg h, if_neg (by omega)]
theorem ncF_at (l : List Nat) (i : Nat) (hi : i < l.length) (h0 : l.getD i 0 ≠ 0) : ncF l i (l.getD i 0) = cdL l i := by
  unfold ncF; rw [if_pos ⟨by omega, maxL_ge l _ (getD_lt hi)⟩]; rfl
theorem ncF_zero (l : List Nat) (k : Nat) (h : k < l.length) (h0 : l.getD k 0 = 0) (n : Nat) : ncF l k n = ncF l (k + 1) n := by
  unfold ncF; split
  · rw [cntL_take l k h, if_neg (by omega)]; rfl
  · rfl
theorem ncF_succ (l : List Nat) (k : Nat) (h : k < l.length) (h0 : l.getD k 0 ≠ 0) (n : Nat) : (if n = l.getD k 0 then cdL l k + 1 else ncF l k n) = ncF l (k + 1) n := by
  by_cases e : n = l.getD k 0
  · subst e; rw [if_pos rfl, ← ncF_at l k h h0]; unfold ncF
    have hm := maxL_ge l _ (getD_lt h)
    rw [if_pos ⟨by omega, hm⟩, if_pos ⟨by omega, hm⟩, cntL_take l k h, if_pos rfl]; rfl
  · rw [if_neg e]; unfold ncF; split
    · rw [cntL_take l k h, if_neg (fun h => e h.symm)]; rfl
    · rfl
theorem rev16_shr (n x : Nat) (h : n ≤ 16) : rev 16 x / 2 ^ (16 - n) = rev n x := by
  have := rev_split n (16 - n) x
  rw [show n + (16 - n) = 16 by omega] at this
  have hl := rev_lt (16 - n) (x / 2 ^ n)
  rw [this, Nat.mul_comm, Nat.mul_add_div (Nat.two_pow_pos _), Nat.div_eq_of_lt hl, Nat.add_zero]

/-- The words while the links are made. -/
def lnF (l : List Nat) (i j : Nat) : Nat := if lnkL l ≤ rev 9 j ∧ rev 9 j < lnkL l + i then 16 * (rev 9 j - lnkL l) + 10 else 0
theorem lnF_zero (l : List Nat) (j : Nat) : 0 = lnF l 0 j := by unfold lnF; rw [if_neg (by omega)]
theorem lnF_all (l : List Nat) (h9 : 9 < maxL l) (hl : lnkL l ≤ 512) (j : Nat) : lnF l (512 - lnkL l) j = chAt l j 0 := by
  have := rev_lt 9 j
  unfold lnF chAt
  by_cases h : lnkL l ≤ rev 9 j
  · rw [if_pos ⟨h, by omega⟩, if_pos ⟨h9, h⟩]
  · rw [if_neg (fun e => h e.1), if_neg (fun e => h e.2)]
theorem lnF_succ (l : List Nat) (i : Nat) (hi : lnkL l + i < 512) (j : Nat) (hj : j < 512) : (if j = rev 9 (lnkL l + i) then 16 * i + 10 else lnF l i j) = lnF l (i + 1) j := by
  have h512 : (2 : Nat) ^ 9 = 512 := rfl
  unfold lnF
  by_cases e : j = rev 9 (lnkL l + i)
  · have : rev 9 j = lnkL l + i := by rw [e, rev_rev, h512, Nat.mod_eq_of_lt hi]
    rw [if_pos e, if_pos ⟨by omega, by omega⟩, this, Nat.add_sub_cancel_left]
  · rw [if_neg e]
    have hne : rev 9 j ≠ lnkL l + i := fun h => e (by rw [← h, rev_rev, h512, Nat.mod_eq_of_lt hj])
    by_cases h : lnkL l ≤ rev 9 j ∧ rev 9 j < lnkL l + i
    · rw [if_pos h, if_pos ⟨h.1, by omega⟩]
    · rw [if_neg h, if_neg (by omega)]

theorem mk52 (n : Nat) (hn : n ≤ 512) (w : World) : (Instr.makeSlice 52 (.int .i64 (n : Int)) (.int .i64 (n : Int))).run Tryd.prog w = .ok (.slice (some ⟨w.heap.size, 0, none⟩) n n) (w.alloc (.cells (madeCells #[.slice none 0 0] n) 115)) :=
  run_make_row' (P := Tryd.prog) 52 115 (.slice none 0 0) 24 (by kernel_rfl) (by kernel_rfl) rfl .i64 .i64 n (by omega) (by omega) w
theorem mk115 (n : Nat) (hn : n ≤ 512) (w : World) : (Instr.makeSlice 115 (.int .i64 (n : Int)) (.int .i64 (n : Int))).run Tryd.prog w = .ok (.slice (some ⟨w.heap.size, 0, none⟩) n n) (w.alloc (.cells (madeCells #[.int .u32 0] n) 49)) :=
  run_make_row' (P := Tryd.prog) 115 49 (.int .u32 0) 4 (by kernel_rfl) (by kernel_rfl) rfl .i64 .i64 n (by omega) (by omega) w
theorem made_get (z : Value) (n j : Nat) (hj : j < n) : (madeCells #[z] n)[j]? = some z := by simp [madeCells, hj, Nat.mod_one]
theorem chunk_or {i : Nat} (h : i ≤ 512) : bits .or .u64 (IntKind.u64.wrap ((i : Int) * 16)) 10 = ((16 * i + 10 : Nat) : Int) := by
  rw [wrap_u64_id _ (by omega) (by omega)]
  have := or_u64 (i * 2 ^ 4) 10 (by omega) (by decide)
  rw [or_add _ _ 4 (by decide)] at this
  rw [show ((i : Int) * 16) = ((i * 2 ^ 4 : Nat) : Int) by omega, show (10 : Int) = ((10 : Nat) : Int) from rfl, this]
  omega
theorem wu32 {n : Nat} (h : n ≤ 100000) : IntKind.u32.wrap (n : Int) = n := wrap_u32_id _ (by omega) (by omega)
theorem wu16 {n : Nat} (h : n < 65536) : IntKind.u16.wrap (n : Int) = n := wrap_u16_id _ (by omega) (by omega)
theorem wi64 {n : Nat} (h : n ≤ 100000) : IntKind.i64.wrap (n : Int) = n := wrap_i64_id _ (by omega) (by omega)
theorem w64 {n : Nat} (h : n ≤ 100000) : wrap64 (n : Int) = n := wrap64_nat n (by omega)
theorem w64sub {a b : Nat} (h : a ≤ b) (hb : b ≤ 100000) : wrap64 ((b : Int) - (a : Int)) = ((b - a : Nat) : Int) := by
  have : (b : Int) - (a : Int) = ((b - a : Nat) : Int) := by omega
  rw [this]; exact w64 (by omega)
theorem wu64sub {a b : Nat} (h : a ≤ b) (hb : b ≤ 1000) : IntKind.u64.wrap ((b : Int) - (a : Int)) = ((b - a : Nat) : Int) := by
  have : (b : Int) - (a : Int) = ((b - a : Nat) : Int) := by omega
  rw [this]; exact wu64 (by omega)
theorem wp2 {q : Nat} (h : q ≤ 15) : wrap64 (2 ^ q) = ((2 ^ q : Nat) : Int) := by
  have h2 : 2 ^ q ≤ 32768 := Nat.pow_le_pow_right (n := 2) (by decide) h
  have : (2 : Int) ^ q = ((2 ^ q : Nat) : Int) := by simp
  rw [this]; exact w64 (by omega)
theorem rev_bd (n x : Nat) (h : n ≤ 16) : rev n x < 65536 := by
  show rev n x < 2 ^ 16
  exact Nat.lt_of_lt_of_le (rev_lt n x) (Nat.pow_le_pow_right (by decide) h)

/-- Every 2 ^ n-th place from r on, below an end, is v. -/
def fillF (n r e v : Nat) (old : Nat → Nat) (x : Nat) : Nat := if x % 2 ^ n = r ∧ x < e then v else old x
theorem fill_start {n r : Nat} (h : r < 2 ^ n) (v : Nat) (old : Nat → Nat) (x : Nat) : old x = fillF n r r v old x := by
  unfold fillF
  rw [if_neg]
  rintro ⟨h1, h2⟩
  rw [Nat.mod_eq_of_lt (Nat.lt_trans h2 h)] at h1
  omega
theorem fill_step {n r e : Nat} (h : e % 2 ^ n = r) (v : Nat) (old : Nat → Nat) (x : Nat) : (if x = e then v else fillF n r e v old x) = fillF n r (e + 2 ^ n) v old x := by
  have hp := Nat.two_pow_pos n
  generalize hP : 2 ^ n = P at *
  unfold fillF
  rw [hP]
  by_cases he : x = e
  · subst he; rw [if_pos rfl, if_pos ⟨h, by omega⟩]
  · rw [if_neg he]
    by_cases h1 : x % P = r
    · by_cases h2 : x < e
      · rw [if_pos ⟨h1, h2⟩, if_pos ⟨h1, by omega⟩]
      · have : e + P ≤ x := by
          have d1 := Nat.div_add_mod x P
          have d2 := Nat.div_add_mod e P
          have hlt : e / P < x / P := by
            rcases Nat.lt_or_ge (e / P) (x / P) with h | h
            · exact h
            · have := Nat.mul_le_mul_left P h
              omega
          have := Nat.mul_le_mul_left P hlt
          rw [Nat.mul_succ] at this
          omega
        rw [if_neg (fun a => h2 a.2), if_neg (fun a => by omega)]
    · rw [if_neg (fun a => h1 a.1), if_neg (fun a => h1 a.1)]
theorem fill_end {n r e N : Nat} (h : N ≤ e) (v : Nat) (old : Nat → Nat) (x : Nat) (hx : x < N) : fillF n r e v old x = if x % 2 ^ n = r then v else old x := by
  unfold fillF
  by_cases h1 : x % 2 ^ n = r
  · rw [if_pos ⟨h1, by omega⟩, if_pos h1]
  · rw [if_neg (fun a => h1 a.1), if_neg h1]
theorem rev_iff {n c : Nat} (hc : c < 2 ^ n) (x : Nat) : x % 2 ^ n = rev n c ↔ rev n x = c := by
  constructor
  · intro h
    rw [← rev_mod, h, rev_rev, Nat.mod_eq_of_lt hc]
  · intro h
    rw [← h, rev_rev]
theorem cd_small {l : List Nat} (h15 : ∀ x ∈ l, x ≤ 15) (hc : enL l (maxL l) = 2 ^ maxL l ∨ (enL l (maxL l) = 1 ∧ maxL l = 1)) {k : Nat} (hk : k < l.length) (h0 : l.getD k 0 ≠ 0) : cdL l k < 2 ^ l.getD k 0 := by
  have h1 := cdL_lt l k hk (by omega)
  have hm := maxL_ge l _ (getD_lt hk)
  have hn := h15 _ (getD_lt hk)
  rcases hc with hc | ⟨hc1, hc2⟩
  · exact Nat.lt_of_lt_of_le h1 (en_le l (by rw [en_full h15 hc]; exact Nat.le_refl _) _ hn)
  · have hone : l.getD k 0 = 1 := by omega
    rw [hc2] at hc1
    rw [hone] at h1 ⊢
    omega
/-- A long code: the link that its beginning leads to. -/
theorem cd_long {l : List Nat} (h15 : ∀ x ∈ l, x ≤ 15) (hc : enL l (maxL l) = 2 ^ maxL l ∨ (enL l (maxL l) = 1 ∧ maxL l = 1)) {k : Nat} (hk : k < l.length) (h9 : 9 < l.getD k 0) :
    9 < maxL l ∧ lnkL l ≤ cdL l k / 2 ^ (l.getD k 0 - 9) ∧ cdL l k / 2 ^ (l.getD k 0 - 9) < 512 ∧ rev (l.getD k 0) (cdL l k) % 512 = rev 9 (cdL l k / 2 ^ (l.getD k 0 - 9)) ∧
    rev (l.getD k 0) (cdL l k) / 512 = rev (l.getD k 0 - 9) (cdL l k) ∧ chAt l (rev (l.getD k 0) (cdL l k) % 512) k = 16 * (cdL l k / 2 ^ (l.getD k 0 - 9) - lnkL l) + 10 := by
  have h9m : 9 < maxL l := Nat.lt_of_lt_of_le h9 (maxL_ge l _ (getD_lt hk))
  have hcs := cd_small h15 hc hk (by omega)
  have hlt : cdL l k / 2 ^ (l.getD k 0 - 9) < 512 := by
    rw [Nat.div_lt_iff_lt_mul (Nat.two_pow_pos _), show (512 : Nat) = 2 ^ 9 from rfl, ← Nat.pow_add, show 9 + (l.getD k 0 - 9) = l.getD k 0 by omega]; exact hcs
  have hlk : lnkL l ≤ cdL l k / 2 ^ (l.getD k 0 - 9) := by
    rw [lnkL_en, Nat.le_div_iff_mul_le (Nat.two_pow_pos _)]
    have := stL_ge l 9 (l.getD k 0 - 10)
    rw [show l.getD k 0 - 10 + 1 = l.getD k 0 - 9 by omega, show 9 + (l.getD k 0 - 9) = l.getD k 0 by omega] at this
    exact Nat.le_trans this (Nat.le_add_right _ _)
  have hsp := rev_split (l.getD k 0 - 9) 9 (cdL l k)
  rw [show l.getD k 0 - 9 + 9 = l.getD k 0 by omega, show (2 : Nat) ^ 9 = 512 from rfl] at hsp
  have hr9 := rev_lt 9 (cdL l k / 2 ^ (l.getD k 0 - 9))
  rw [show (2 : Nat) ^ 9 = 512 from rfl] at hr9
  have hm : rev (l.getD k 0) (cdL l k) % 512 = rev 9 (cdL l k / 2 ^ (l.getD k 0 - 9)) := by omega
  have hd : rev (l.getD k 0) (cdL l k) / 512 = rev (l.getD k 0 - 9) (cdL l k) := by omega
  refine ⟨h9m, hlk, hlt, hm, hd, ?_⟩
  rw [chAt_none l _ _ (fun i hi ⟨a1, a2, a3⟩ => by
    rw [show (512 : Nat) = 2 ^ 9 from rfl, rev_mod_le a2] at a3
    have := spells_one l (b := rev (l.getD k 0) (cdL l k)) (show i < l.length by omega) hk a1 (by omega) a3.symm (by rw [rev_rev, Nat.mod_eq_of_lt hcs])
    omega), hm, chAt, rev_rev, show (2 : Nat) ^ 9 = 512 from rfl, Nat.mod_eq_of_lt hlt, if_pos ⟨h9m, hlk⟩]

/-- The links' slice. -/
def lvOf (l : List Nat) (H : Nat) : Value := if 9 < maxL l then .slice (some ⟨H + 2, 0, none⟩) (512 - lnkL l) (512 - lnkL l) else .slice none 0 0
def mkOf (l : List Nat) : Nat := if 9 < maxL l then 2 ^ (maxL l - 9) - 1 else 0
/-- When k symbols are laid. -/
structure Mid (w wx : World) (b o t : Nat) (cs0 : Array Value) (l : List Nat) (H k : Nat) : Prop where
  nx : Arr wx (H + 1) 113 16 (ncF l k)
  ht : HTab wx b o t cs0 (minL l) (fun j => chAt l j k) (lvOf l H) (mkOf l)
  big : 9 < maxL l → LRow wx (lvOf l H) (512 - lnkL l) (512 - lnkL l) (2 ^ (maxL l - 9)) (H + 2) (fun i => H + 3 + i) (fun i j => lkAt l i j k)
  fr : Frm (fun k => k = b) w wx
section
variable {w wx : World} {b o t H k : Nat} {cs0 : Array Value} {l : List Nat}
theorem Mid.drewN (h : Mid w wx b o t cs0 l H k) (n : Nat) : Mid w (wx.drewN n) b o t cs0 l H k := ⟨h.nx, ⟨h.ht.ex⟩, fun h9 => (h.big h9).drewN n, h.fr.drewN n⟩
theorem Mid.ends (h : Mid w wx b o t cs0 l H l.length) (hm : maxL l ≠ 0) :
    Frm (fun k => k = b) w wx ∧ ∃ lv', HTab wx b o t cs0 (tabL l).min (fun j => (tabL l).ch.getD j 0) lv' (tabL l).mask ∧ LinksAt wx lv' (tabL l).links ∧ ((tabL l).min = 0 → lv' = .slice none 0 0) := by
  refine ⟨h.fr, lvOf l H, ?_, ?_, fun e => absurd e (minL_pos hm).1⟩
  · exact h.ht.congr fun j hj => (tabL_ch l j hj).symm
  · by_cases h9 : 9 < maxL l
    · have hb := h.big h9
      have hlk : (tabL l).links = (List.range (512 - lnkL l)).map fun o => (List.range (2 ^ (maxL l - 9))).map fun t => lkAt l o t l.length := by unfold tabL; simp only []; rw [if_pos h9]
      have hll : (tabL l).links.length = 512 - lnkL l := by rw [hlk, List.length_map, List.length_range]
      have hgr : ∀ i, i < 512 - lnkL l → (tabL l).links.getD i [] = (List.range (2 ^ (maxL l - 9))).map fun t => lkAt l i t l.length := fun i hi => by
        rw [hlk, List.getD_eq_getElem?_getD, List.getElem?_map, List.getElem?_range hi]; rfl
      obtain ⟨cs, h1, h2, h3⟩ := hb.lb
      refine .inr ⟨H + 2, _, cs, by rw [hb.lv, hll], h1, fun i hi => ?_⟩
      rw [hll] at hi
      obtain ⟨ds, q1, q2, q3⟩ := hb.rb i hi
      refine ⟨H + 3 + i, 2 ^ (maxL l - 9), ds, ?_, q1, fun j hj => ?_⟩
      · rw [h3 i hi, hgr i hi, List.length_map, List.length_range]
      · rw [hgr i hi, List.length_map, List.length_range] at hj
        rw [q3 j hj, hgr i hi, List.getD_eq_getElem?_getD, List.getElem?_map, List.getElem?_range hj]; rfl
    · have hlk : (tabL l).links = [] := by unfold tabL; simp only []; rw [if_neg h9]
      refine .inl ⟨hlk, none, 0, ?_⟩
      unfold lvOf; rw [if_neg h9]
/-- A symbol without a code. -/
theorem Mid.skip (h : Mid w wx b o t cs0 l H k) (hk : k < l.length) (h0 : l.getD k 0 = 0) : Mid w wx b o t cs0 l H (k + 1) :=
  ⟨h.nx.congr fun n _ => ncF_zero l k hk h0 n, h.ht.congr fun j _ => by rw [chAt, if_neg (by omega)], fun h9 => (h.big h9).congr fun i j _ _ => by rw [lkAt, if_neg (by omega)], h.fr⟩
end
theorem chAt_short {l : List Nat} {k j : Nat} (h0 : l.getD k 0 ≠ 0) (h9 : l.getD k 0 ≤ 9) (hc : cdL l k < 2 ^ l.getD k 0) :
    (if j % 2 ^ l.getD k 0 = rev (l.getD k 0) (cdL l k) then 16 * k + l.getD k 0 else chAt l j k) = chAt l j (k + 1) := by
  rw [chAt]
  have hi := rev_iff hc j
  by_cases h : j % 2 ^ l.getD k 0 = rev (l.getD k 0) (cdL l k)
  · rw [if_pos h, if_pos ⟨by omega, h9, hi.1 h⟩]
  · rw [if_neg h, if_neg (fun a => h (hi.2 a.2.2))]
theorem chAt_long {l : List Nat} {k j : Nat} (h9 : 9 < l.getD k 0) : chAt l j k = chAt l j (k + 1) := by
  rw [chAt, if_neg (fun a => by omega)]
theorem lkAt_short {l : List Nat} {k i j : Nat} (h9 : l.getD k 0 ≤ 9) : lkAt l i j k = lkAt l i j (k + 1) := by
  rw [lkAt, if_neg (fun a => by omega)]
theorem lkAt_long {l : List Nat} {k i j : Nat} (h9 : 9 < l.getD k 0) (hl : lnkL l ≤ cdL l k / 2 ^ (l.getD k 0 - 9)) :
    (if i = cdL l k / 2 ^ (l.getD k 0 - 9) - lnkL l then (if j % 2 ^ (l.getD k 0 - 9) = rev (l.getD k 0 - 9) (cdL l k) then 16 * k + l.getD k 0 else lkAt l i j k) else lkAt l i j k) = lkAt l i j (k + 1) := by
  rw [lkAt]
  have hi := rev_iff (Nat.mod_lt (cdL l k) (Nat.two_pow_pos (l.getD k 0 - 9))) j
  rw [rev_mod] at hi
  by_cases h : i = cdL l k / 2 ^ (l.getD k 0 - 9) - lnkL l
  · rw [if_pos h]
    by_cases h2 : j % 2 ^ (l.getD k 0 - 9) = rev (l.getD k 0 - 9) (cdL l k)
    · rw [if_pos h2, if_pos ⟨h9, by omega, hi.1 h2⟩]
    · rw [if_neg h2, if_neg (fun a => h2 (hi.2 a.2.2))]
  · rw [if_neg h, if_neg (fun a => h (by omega))]
theorem chunk_or64 {k n : Nat} (hk : k ≤ 1000) (hn : n < 16) : bits .or .i64 (wrap64 ((k : Int) * 16)) (n : Int) = ((16 * k + n : Nat) : Int) := by
  have e : (k : Int) * 16 = ((k * 2 ^ 4 : Nat) : Int) := by omega
  rw [e, w64 (by omega), or_i64 _ _ (by omega) (by omega), or_add _ _ 4 hn]; omega
theorem and511 {r : Nat} (h : r < 65536) : bits .and .i64 (r : Int) 511 = ((r % 512 : Nat) : Int) := by
  have := and_i64 r 511 (by omega) (by decide)
  rw [show ((511 : Nat) : Int) = 511 from rfl] at this
  rw [this, show (511 : Nat) = 2 ^ 9 - 1 from rfl, and_mask]
theorem meas_add {L k p : Nat} {v : Value} (hv : v = vi (k + p)) (h : k < L) (hp : 0 < p) : L - (intOf v).toNat < L - (intOf (vi k)).toNat := by
  subst hv; show L - (k + p) < L - k; omega
theorem w64add {a b : Nat} (ha : a ≤ 40000000) (hb : b ≤ 40000000) : wrap64 ((a : Int) + (b : Int)) = ((a + b : Nat) : Int) := by
  have : (a : Int) + (b : Int) = ((a + b : Nat) : Int) := by omega
  rw [this]; exact wrap64_nat _ (by omega)
theorem symArith {n c k : Nat} (h0 : 0 < n) (hn : n ≤ 15) (hc : c < 32768) (hk : k < 1000) :
    (n : Int) < 16 ∧ (0 : Int) ≤ (n : Int) ∧ wrap64 ((c : Int) + 1) = ((c + 1 : Nat) : Int) ∧ bits .or .i64 (wrap64 ((k : Int) * 16)) (n : Int) = ((16 * k + n : Nat) : Int) ∧ IntKind.u32.wrap ((16 * k + n : Nat) : Int) = ((16 * k + n : Nat) : Int) ∧
    IntKind.u16.wrap (c : Int) = (c : Int) ∧ wrap64 ((rev 16 c : Nat) : Int) = ((rev 16 c : Nat) : Int) ∧ wrap64 (16 - (n : Int)) = ((16 - n : Nat) : Int) ∧ IntKind.u64.wrap ((16 - n : Nat) : Int) = ((16 - n : Nat) : Int) ∧
    ((rev 16 c : Nat) : Int) / 2 ^ (16 - n) = ((rev n c : Nat) : Int) ∧ ((n : Int) == 0) = false ∧ c < 65536 := by
  refine ⟨by omega, by omega, w64add (b := 1) (by omega) (by omega), chunk_or64 (by omega) (by omega), wu32 (by omega), wu16 (by omega), w64 (by have := rev_bd 16 c (Nat.le_refl _); omega), w64sub (b := 16) (by omega) (by omega), wu64 (by omega), ?_, beq_eq_false_iff_ne.2 (by omega), by omega⟩
  rw [← rev16_shr n c (by omega)]; simp
theorem pow_le15 {n : Nat} (h : n ≤ 15) : 2 ^ n ≤ 32768 := Nat.pow_le_pow_right (by decide) h
end Go.Proofs.YtbbnibbdiiffkaaDoor

/- A table of codes, made of lengths: a short code is laid. -/
namespace Go
/-- The piece of code that begins with a region. -/
def findC (id : Nat) : Code → Option Code
  | .seq (.region i o d) b => if i = id then some (.seq (.region i o d) b) else findC id b
  | .seq a b => match findC id a with
    | some c => some c
    | none => findC id b
  | .loop c => findC id c
  | .block _ c => findC id c
  | .scope c => findC id c
  | .cond _ a b => match findC id a with
    | some c => some c
    | none => findC id b
  | _ => none
namespace Proofs.YtbbnibbdiiffkaaDoor
open Go.RowKit

/-- A frame of which some slots are known. -/
def Sl (l : List Value) : List (Nat × Value) → Prop
  | [] => True
  | p :: ps => l[p.1]? = some p.2 ∧ Sl l ps
def Slots (n : Nat) (ps : List (Nat × Value)) (a : Act) : Prop := ∃ l : List Value, l.length = n ∧ a = ⟨l.toArray, []⟩ ∧ Sl l ps

theorem off_le {off P : Nat} (h : off < 512) (hp : P ≤ 512) : off + P ≤ 1023 := by omega
theorem vi_shift {off P : Nat} {x : Int} (h : wrap64 x = (P : Int)) (h2 : wrap64 ((off : Int) + (P : Int)) = ((off + P : Nat) : Int)) : Value.int .i64 (wrap64 ((off : Int) + wrap64 x)) = vi (off + P) := by rw [h, h2]
noncomputable def code39 (id : Nat) : Code := (Tryd.f39.body.bind (findC id)).getD .skip
/-- When the next code is taken, but its symbol is not laid. -/
structure Mis (w wx : World) (b o t : Nat) (cs0 : Array Value) (l : List Nat) (H k : Nat) : Prop where
  nx : Arr wx (H + 1) 113 16 (ncF l (k + 1))
  ht : HTab wx b o t cs0 (minL l) (fun j => chAt l j k) (lvOf l H) (mkOf l)
  big : 9 < maxL l → LRow wx (lvOf l H) (512 - lnkL l) (512 - lnkL l) (2 ^ (maxL l - 9)) (H + 2) (fun i => H + 3 + i) (fun i j => lkAt l i j k)
  fr : Frm (fun k => k = b) w wx

/-- The slots that the loop keeps. -/
def keep39 (b o H N k : Nat) (sl : Value) : List (Nat × Value) := [(0, .pointer (some ⟨b, o, none⟩)), (11, .pointer (some ⟨H + 1, 0, none⟩)), (168, sl), (169, vi N), (170, vi k)]

section
variable {w wr : World} {b o t H : Nat} {cs0 : Array Value} {l : List Nat}
set_option maxRecDepth 100000 in
set_option maxHeartbeats 4000000 in
theorem init_short (k n r c ch N : Nat) (sl : Value) (_hk : k < l.length) (hx : l.getD k 0 = n) (h0 : 0 < n) (h9 : n ≤ 9) (hc : cdL l k = c) (hcs : c < 2 ^ n) (hr : rev n c = r) (hch : 16 * k + n = ch) (_hlen : l.length ≤ 1000) (hM : Mis w wr b o t cs0 l H k) (hbH : b < H)
    (a : Act) (hS : Slots 317 [(0, .pointer (some ⟨b, o, none⟩)), (11, .pointer (some ⟨H + 1, 0, none⟩)), (168, sl), (169, vi N), (170, vi k), (19, vi n), (21, .int .u32 (ch : Int)), (22, vi r)] a) (Q : Exit → Act → World → Prop) :
    Code.wp Tryd.prog (code39 52) (Exit.then (fun a' wx => Slots 317 (keep39 b o H N k sl) a' ∧ Mid w wx b o t cs0 l H (k + 1)) Q) a wr := by
  obtain ⟨fl, hfl, rfl, g0, g11, g168, g169, g170, g19, g21, g22, -⟩ := hS
  conv => arg 2; whnf
  revert g0 g11 g168 g169 g170 g19 g21 g22
  revert fl
  refine fun fl hll => AllN_get (n := 317) (K := fun l => l[0]? = _ → l[11]? = _ → l[168]? = _ → l[169]? = _ → l[170]? = _ → l[19]? = _ → l[21]? = _ → l[22]? = _ → Code.wp Tryd.prog _ _ ⟨l.toArray, []⟩ wr) ?_ fl hll
  iterate 317 intro
  dsimp only [AllN]
  intro g0 g11 g168 g169 g170 g19 g21 g22
  cases g0
  cases g11
  cases g168
  cases g169
  cases g170
  cases g19
  cases g21
  cases g22
  have y1 : (n : Int) ≤ 9 := by omega
  have hr512 : r < 2 ^ n := by rw [← hr]; exact rev_lt n c
  have h512 : (2 : Nat) ^ n ≤ 512 := Nat.pow_le_pow_right (n := 2) (by decide) h9
  have hpp := Nat.two_pow_pos n
  have Y2 := Lib.hid (wp2 (q := n) (by omega))
  have y3 := wu64 (n := n) (by omega)
  have HSH := Lib.hid (fun j => chAt_short (l := l) (k := k) (j := j) (by omega) (by omega) (by rw [hx, hc]; exact hcs))
  rw [hx, hc, hr, hch] at HSH
  have HST := Lib.hid (fun j => fill_start hr512 ch (fun j => chAt l j k) j)
  have HSTEP := Lib.hid (fun e (he : e % 2 ^ n = r) j => fill_step he ch (fun j => chAt l j k) j)
  have HEND := Lib.hid (fun e (he : 512 ≤ e) j (hj : j < 512) => fill_end (n := n) (r := r) he ch (fun j => chAt l j k) j hj)
  have hmod : ∀ e, e % 2 ^ n = r → (e + 2 ^ n) % 2 ^ n = r := fun e he => by rw [Nat.add_mod_right]; exact he
  have HMOD := Lib.hid hmod
  have hr0 : r % 2 ^ n = r := Nat.mod_eq_of_lt hr512
  have HR0 := Lib.hid hr0
  have HNN := Lib.hid hx
  clear hmod hr0 hx hc hcs hr hch
  generalize hP : 2 ^ n = P at *
  have HM := Lib.hid hM
  have hne1 : H + 1 ≠ b := by omega
  have hne2 : ∀ i, H + 3 + i ≠ b := fun i => by omega
  have hne3 : H + 2 ≠ b := by omega
  obtain ⟨wo, rfl⟩ : ∃ wo : World, wo = wr := ⟨_, rfl⟩
  clear hM hP
  go_wp2_with fail
  go_loopw [23] (fun ov wr => ∃ off, ov = vi off ∧ Hid (off % P = r) ∧ off ≤ 1023 ∧ HTab wr b o t cs0 (minL l) (fillF n r off ch (fun j => chAt l j k)) (lvOf l H) (mkOf l) ∧ Frm (fun k => k = b) wo wr) (fun ov _ => 1024 - (intOf ov).toNat)
  case atStart => exact ⟨r, rfl, HR0, Nat.le_trans (Nat.le_of_lt (Nat.lt_of_lt_of_le hr512 h512)) (by decide), HM.out.ht.congr (fun j _ => HST.out j), Frm.refl _ _⟩
  case round =>
    obtain ⟨off, rfl, HO, ho, hT, hF⟩ := hrel
    by_cases hlt : off < 512
    · have z1 : (off : Int) < 512 := by omega
      have z2 : (0 : Int) ≤ (off : Int) := by omega
      have z3 := w64add (a := off) (b := P) (Nat.le_trans (Nat.le_of_lt hlt) (by decide)) (Nat.le_trans h512 (by decide))
      have c1 := hT.c_ch off hlt
      have zf := hT.fz (o + 1 + off)
      have hT2 : HTab (wr.setCell ⟨b, o + 1 + off, none⟩ (.int .u32 (ch : Int))) b o t cs0 (minL l) (fillF n r (off + P) ch (fun j => chAt l j k)) (lvOf l H) (mkOf l) := (hT.set_ch off ch hlt).congr (fun j _ => HSTEP.out off HO.out j)
      have hF2 := hF.setCell (p := ⟨b, o + 1 + off, none⟩) rfl (.int .u32 (ch : Int))
      have HT2 := Lib.hid hT2
      have HF2 := Lib.hid hF2
      have HO2 := Lib.hid (HMOD.out off HO.out)
      clear hT hF hT2 hF2
      go_wp2_with fail
      go_roundw
      case rel => exact ⟨off + P, vi_shift Y2.out z3, HO2, off_le hlt h512, HT2.out, HF2.out⟩
      case measure => refine meas_add (p := P) (vi_shift Y2.out z3) (Nat.lt_of_lt_of_le hlt (by decide)) hpp
    · have z1 : ¬ (off : Int) < 512 := by omega
      have hMid : Mid w wr b o t cs0 l H (k + 1) := ⟨HM.out.nx.frm hF hne1, hT.congr (fun j hj => (HEND.out off (Nat.le_of_not_lt hlt) j hj).trans (HSH.out j)),
        fun h => ((HM.out.big h).frm hF hne3 (fun i _ => hne2 i)).congr (fun i j _ _ => lkAt_short (by rw [HNN.out]; exact h9)), HM.out.fr.trans hF⟩
      have HMID := Lib.hid hMid
      clear hMid hT hF
      go_wp2_with fail
      exact ⟨⟨_, rfl, rfl, And.intro rfl (And.intro rfl (And.intro rfl (And.intro rfl (And.intro rfl trivial))))⟩, HMID.out⟩
end
end Proofs.YtbbnibbdiiffkaaDoor
end Go

/- A table of codes, made of lengths: a long code is laid. -/
namespace Go.Proofs.YtbbnibbdiiffkaaDoor
open Go.RowKit

theorem Frm.step {S T : Nat → Prop} {a b c : World} (h : Frm S a b) (k : Frm T b c) (hS : ∀ k, T k → a.heap.size ≤ k) : Frm S a c :=
  ⟨k.os.trans h.os, k.tape.trans h.tape, k.output.trans h.output, Nat.le_trans h.size k.size,
    fun i hi hs => (k.block i (Nat.lt_of_lt_of_le hi h.size) (fun hk => by have := hS i hk; omega)).trans (h.block i hi hs)⟩
theorem off_le2 {off pm P : Nat} (h : off < pm) (hm : pm ≤ 64) (hp : P ≤ 64) : off + P ≤ 128 := by omega
section
variable {w wr : World} {b o t H : Nat} {cs0 : Array Value} {l : List Nat}
set_option maxRecDepth 100000 in
set_option maxHeartbeats 4000000 in
theorem init_long (k n r c ch N : Nat) (sl : Value) (hx : l.getD k 0 = n) (h9 : 9 < n) (h15 : n ≤ 15) (hc : cdL l k = c) (hr : rev n c = r) (hch : 16 * k + n = ch) (hr16 : r < 65536)
    (hL : 9 < maxL l ∧ lnkL l ≤ c / 2 ^ (n - 9) ∧ c / 2 ^ (n - 9) < 512 ∧ rev n c % 512 = rev 9 (c / 2 ^ (n - 9)) ∧ rev n c / 512 = rev (n - 9) c ∧ chAt l (rev n c % 512) k = 16 * (c / 2 ^ (n - 9) - lnkL l) + 10) (hm15 : maxL l ≤ 15)
    (hM : Mis w wr b o t cs0 l H k) (hbH : b < H) (hwH : w.heap.size ≤ H)
    (a : Act) (hS : Slots 317 [(0, .pointer (some ⟨b, o, none⟩)), (11, .pointer (some ⟨H + 1, 0, none⟩)), (168, sl), (169, vi N), (170, vi k), (19, vi n), (21, .int .u32 (ch : Int)), (22, vi r)] a) (Q : Exit → Act → World → Prop) :
    Code.wp Tryd.prog (code39 52) (Exit.then (fun a' wx => Slots 317 (keep39 b o H N k sl) a' ∧ Mid w wx b o t cs0 l H (k + 1)) Q) a wr := by
  obtain ⟨fl, hfl, rfl, g0, g11, g168, g169, g170, g19, g21, g22, -⟩ := hS
  conv => arg 2; whnf
  revert g0 g11 g168 g169 g170 g19 g21 g22
  revert fl
  refine fun fl hll => AllN_get (n := 317) (K := fun l => l[0]? = _ → l[11]? = _ → l[168]? = _ → l[169]? = _ → l[170]? = _ → l[19]? = _ → l[21]? = _ → l[22]? = _ → Code.wp Tryd.prog _ _ ⟨l.toArray, []⟩ wr) ?_ fl hll
  iterate 317 intro
  dsimp only [AllN]
  intro g0 g11 g168 g169 g170 g19 g21 g22
  cases g0
  cases g11
  cases g168
  cases g169
  cases g170
  cases g19
  cases g21
  cases g22
  obtain ⟨hl1, hl2, hl3, hl4, hl5, hl6⟩ := hL
  rw [hr] at hl4 hl5 hl6
  have y1 : ¬ (n : Int) ≤ 9 := by omega
  have y4 := and511 hr16
  have hj : r % 512 < 512 := Nat.mod_lt _ (by decide)
  have hB := hM.big hl1
  have hoo : c / 2 ^ (n - 9) - lnkL l < 512 - lnkL l := by omega
  have HLK := Lib.hid (fun i j => lkAt_long (l := l) (k := k) (i := i) (j := j) (by omega) (by rw [hx, hc]; exact hl2))
  rw [hx, hc, hch] at HLK
  have HCH := Lib.hid (fun j => chAt_long (l := l) (k := k) (j := j) (by omega))
  have hr2 : r / 512 < 2 ^ (n - 9) := by rw [hl5]; exact rev_lt _ _
  rw [← hl5] at HLK
  have hq6 : n - 9 ≤ 6 := by omega
  have h64 : (2 : Nat) ^ (n - 9) ≤ 64 := Nat.pow_le_pow_right (n := 2) (by decide) hq6
  have hpp := Nat.two_pow_pos (n - 9)
  have hmq : maxL l - 9 ≤ 6 := by omega
  have hpm : (2 : Nat) ^ (maxL l - 9) ≤ 64 := Nat.pow_le_pow_right (n := 2) (by decide) hmq
  have Y2 := Lib.hid (wp2 (q := n - 9) (by omega))
  have y5 : wrap64 ((n : Int) - 9) = ((n - 9 : Nat) : Int) := w64sub (a := 9) (by omega) (by omega)
  have y6 := wu64 (n := n - 9) (by omega)
  have y7 : ((16 * (c / 2 ^ (n - 9) - lnkL l) + 10 : Nat) : Int) / 16 = ((c / 2 ^ (n - 9) - lnkL l : Nat) : Int) := by omega
  have y8 : ((r % 512 : Nat) : Int) < 512 := by omega
  have y9 : (0 : Int) ≤ ((r % 512 : Nat) : Int) := by omega
  have y10 : ((c / 2 ^ (n - 9) - lnkL l : Nat) : Int) < ((512 - lnkL l : Nat) : Int) := by omega
  have y11 : (0 : Int) ≤ ((c / 2 ^ (n - 9) - lnkL l : Nat) : Int) := by omega
  have y12 : (r : Int) / 512 = ((r / 512 : Nat) : Int) := rfl
  have cj : wr.cell? ⟨b, o + 1 + r % 512, none⟩ = some (.int .u32 ((chAt l (r % 512) k : Nat) : Int)) := hM.ht.c_ch (r % 512) hj
  rw [hl6] at cj
  have clv := hM.ht.c_lv
  have hlv := hB.lv
  rw [hlv] at clv
  have crow := hB.c_row _ hoo
  have HST := Lib.hid (fun i j => fill_start hr2 ch (fun j => lkAt l i j k) j)
  have HSTEP := Lib.hid (fun e (he : e % 2 ^ (n - 9) = r / 512) i j => fill_step he ch (fun j => lkAt l i j k) j)
  have HEND := Lib.hid (fun e N (he : N ≤ e) i j (hj : j < N) => fill_end (n := n - 9) (r := r / 512) he ch (fun j => lkAt l i j k) j hj)
  have HMOD : Hid (∀ e, e % 2 ^ (n - 9) = r / 512 → (e + 2 ^ (n - 9)) % 2 ^ (n - 9) = r / 512) := Lib.hid fun e he => by rw [Nat.add_mod_right]; exact he
  have HR0 : Hid (r / 512 % 2 ^ (n - 9) = r / 512) := Lib.hid (Nat.mod_eq_of_lt hr2)
  have hne1 : H + 1 ≠ b := by omega
  generalize hOO : c / 2 ^ (n - 9) - lnkL l = oo at *
  generalize hNN : 512 - lnkL l = NN at *
  generalize hP : 2 ^ (n - 9) = P at *
  generalize hPM : 2 ^ (maxL l - 9) = pm at *
  generalize hqq : n - 9 = qq at *
  generalize hr2' : r / 512 = r2 at *
  generalize hj9 : r % 512 = j9 at *
  generalize hcw : 16 * oo + 10 = cw at *
  have HQQ := Lib.hid hqq
  have HNN := Lib.hid hNN
  have HM := Lib.hid hM
  have HB := Lib.hid hB
  have HLV := Lib.hid hlv
  have HP := Lib.hid hP
  have HPM := Lib.hid hPM
  have HL1 := Lib.hid hl1
  have H9 := Lib.hid h9
  have HR264 : r2 ≤ 64 := by omega
  clear hM hB hlv hP hPM hNN hqq hr2' hj9 hcw hOO hl1 hl2 hl3 hl4 hl5 hl6 hc hr hch h9 hx hq6 hr16
  obtain ⟨wo, rfl⟩ : ∃ wo : World, wo = wr := ⟨_, rfl⟩
  have hne2 : ∀ i, i < NN → H + 3 + i ≠ H + 2 := fun i _ => by omega
  have hne3 : ∀ i j, i < NN → j < NN → H + 3 + i = H + 3 + j → i = j := fun i j _ _ h => by omega
  have hne4 : b ≠ H + 3 + oo := by omega
  have hne5 : H + 1 ≠ H + 3 + oo := by omega
  have hne6 : ∀ k, k = H + 3 + oo → w.heap.size ≤ k := fun k hk => by omega
  go_wp2_with fail
  go_loopw [27] (fun ov wr => ∃ off, ov = vi off ∧ Hid (off % P = r2) ∧ off ≤ 128 ∧ LRow wr (.slice (some ⟨H + 2, 0, none⟩) NN NN) NN NN pm (H + 2) (fun i => H + 3 + i) (fun i j => if i = oo then fillF qq r2 off ch (fun j => lkAt l i j k) j else lkAt l i j k) ∧ Frm (fun z => z = H + 3 + oo) wo wr) (fun ov _ => 129 - (intOf ov).toNat)
  case atStart => exact ⟨r2, rfl, HR0, Nat.le_trans HR264 (by decide), by rw [← HLV.out]; exact HB.out.congr (fun i j _ _ => by split; exact HST.out i j; rfl), Frm.refl _ _⟩
  case round =>
    obtain ⟨off, rfl, HO, ho, hR, hF⟩ := hrel
    by_cases hlt : off < pm
    · have z1 : (off : Int) < (pm : Int) := Int.ofNat_lt.2 hlt
      have z2 : (0 : Int) ≤ (off : Int) := Int.natCast_nonneg off
      have z3 := w64add (a := off) (b := P) (Nat.le_trans ho (by decide)) (Nat.le_trans h64 (by decide))
      have c1 := hR.c_at oo off hoo hlt
      have zf := hR.fza oo off hoo
      have hR2 : LRow (wr.setCell ⟨H + 3 + oo, off, none⟩ (.int .u32 (ch : Int))) (.slice (some ⟨H + 2, 0, none⟩) NN NN) NN NN pm (H + 2) (fun i => H + 3 + i) (fun i j => if i = oo then fillF qq r2 (off + P) ch (fun j => lkAt l i j k) j else lkAt l i j k) :=
        (hR.set hne2 hne3 oo off ch hoo).congr (fun i j _ _ => by
          by_cases hi : i = oo
          · have := HSTEP.out off HO.out i j
            simp only [hi, true_and, if_true] at this ⊢
            exact this
          · simp only [if_neg hi, if_neg (fun h : i = oo ∧ j = off => hi h.1)])
      have hF2 := hF.setCell (p := ⟨H + 3 + oo, off, none⟩) rfl (.int .u32 (ch : Int))
      have HR2 := Lib.hid hR2
      have HF2 := Lib.hid hF2
      have HO2 := Lib.hid (HMOD.out off HO.out)
      clear hR hF hR2 hF2
      go_wp2_with fail
      go_roundw
      case rel => exact ⟨off + P, vi_shift (show wrap64 (2 ^ (n - 9)) = (P : Int) by rw [HQQ.out]; exact Y2.out) z3, HO2, off_le2 hlt hpm h64, HR2.out, HF2.out⟩
      case measure => exact meas_add (p := P) (vi_shift (show wrap64 (2 ^ (n - 9)) = (P : Int) by rw [HQQ.out]; exact Y2.out) z3) (Nat.lt_succ_of_le ho) hpp
    · have z1 : ¬ (off : Int) < (pm : Int) := fun h => hlt (Int.ofNat_lt.1 h)
      have hMid : Mid w wr b o t cs0 l H (k + 1) := ⟨HM.out.nx.frm hF hne5, (HM.out.ht.frm hF hne4).congr (fun j _ => HCH.out j),
        fun h => by
          rw [HLV.out, HPM.out, HNN.out]
          exact hR.congr (fun i j hi hj => by
            rw [← HLK.out i j]
            by_cases hio : i = oo
            · rw [if_pos hio, if_pos hio]; exact HEND.out off pm (Nat.le_of_not_lt hlt) i j hj
            · rw [if_neg hio, if_neg hio]), HM.out.fr.step hF hne6⟩
      have HMID := Lib.hid hMid
      clear hMid hR hF
      go_wp2_with fail
      exact ⟨⟨_, rfl, rfl, And.intro rfl (And.intro rfl (And.intro rfl (And.intro rfl (And.intro rfl trivial))))⟩, HMID.out⟩
end
end Go.Proofs.YtbbnibbdiiffkaaDoor
