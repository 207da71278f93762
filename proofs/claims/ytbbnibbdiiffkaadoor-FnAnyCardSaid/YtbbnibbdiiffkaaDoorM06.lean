/- What the reference tells of a reading: bytes compared, sizes looked through, Told. The sizes of reads, looked through. The decoder's state as it lies in memory: what each of its parts holds, and what a store does to it. Printed by tools/genS.py. -/
import Derived.Shelf.Bytes.SlEqualAll
import Derived.LaidEql
import Derived.Test.YtbbnibbdiiffkaaDoorM02
import Derived.Test.YtbbnibbdiiffkaaDoorM05

/- What the reference tells of a reading: bytes compared, sizes looked through, Told. -/
namespace Go.Proofs.YtbbnibbdiiffkaaDoor
open Go.RowKit Go.Shelf
def Tryd.lays115_ren : Go.Shelf.Ren := ⟨fun | 115 => 11 | n => n, fun | 37 => 22 | 4 => 4 | 9 => 9 | 5 => 5 | n => n, fun | n => n⟩
theorem Tryd.lays115 : Go.Proofs.Lays.nb115 Tryd.prog Tryd.lays115_ren := {
  mixed := by kernel_rfl
  f115 := Tryd.func11.trans (congrArg some (by kernel_rfl))
  t4 := Tryd.underlying4
  a4 := Tryd.isAgg4
  z4 := Tryd.sizeOf4
  v4 := Tryd.zeroValue4
  t9 := Tryd.underlying9
  a9 := Tryd.isAgg9
  z9 := Tryd.sizeOf9
  v9 := Tryd.zeroValue9
  t37 := Tryd.underlying22
  a37 := Tryd.isAgg22
  z37 := Tryd.sizeOf22
  v37 := Tryd.zeroValue22
  t5 := Tryd.underlying5
  a5 := Tryd.isAgg5
  z5 := Tryd.sizeOf5
  v5 := Tryd.zeroValue5 }
def Tryd.lays116_ren : Go.Shelf.Ren := ⟨fun | 116 => 12 | 115 => 11 | n => n, fun | 37 => 22 | 4 => 4 | 3 => 3 | 9 => 9 | 5 => 5 | n => n, fun | n => n⟩
theorem Tryd.lays116 : Go.Proofs.Lays.nb116 Tryd.prog Tryd.lays116_ren := {
  mixed := by kernel_rfl
  f115 := Tryd.func11.trans (congrArg some (by kernel_rfl))
  f116 := Tryd.func12.trans (congrArg some (by kernel_rfl))
  t3 := Tryd.underlying3
  a3 := Tryd.isAgg3
  z3 := Tryd.sizeOf3
  v3 := Tryd.zeroValue3
  t4 := Tryd.underlying4
  a4 := Tryd.isAgg4
  z4 := Tryd.sizeOf4
  v4 := Tryd.zeroValue4
  t9 := Tryd.underlying9
  a9 := Tryd.isAgg9
  z9 := Tryd.sizeOf9
  v9 := Tryd.zeroValue9
  t37 := Tryd.underlying22
  a37 := Tryd.isAgg22
  z37 := Tryd.sizeOf22
  v37 := Tryd.zeroValue22
  t5 := Tryd.underlying5
  a5 := Tryd.isAgg5
  z5 := Tryd.sizeOf5
  v5 := Tryd.zeroValue5 }

def ni (l : List Nat) : List Int := l.map fun (n : Nat) => (n : Int)
theorem Rd.bytesIn {w : World} {a : Option Addr} {n c : Nat} {xs : List Nat} (h : Rd w (.slice a n c) xs) : n = xs.length ∧ Lib.BytesIn w a xs.length (ni xs) := by
  obtain ⟨a', c', he, hc⟩ := h
  simp only [Value.slice.injEq] at he
  obtain ⟨rfl, rfl, rfl⟩ := he
  refine ⟨rfl, fun hn => ?_⟩
  obtain ⟨b, o, rfl, hb, -⟩ := hc 0 hn
  refine ⟨b, o, rfl, fun i hi => ?_⟩
  obtain ⟨b', o', h1, h2, h3⟩ := hc i hi
  cases h1
  rw [h3]
  simp [u8, ni, List.getD_eq_getElem?_getD, List.getElem?_eq_getElem hi]
theorem bytesOf_ni {xs ys : List Nat} (hx : ∀ x ∈ xs, x < 256) (hy : ∀ y ∈ ys, y < 256) : Lib.bytesOf (ni xs) = Lib.bytesOf (ni ys) ↔ xs = ys := by
  constructor
  · intro h
    have h2 := congrArg (List.map UInt8.toNat) h
    have e : ∀ l : List Nat, (∀ x ∈ l, x < 256) → (Lib.bytesOf (ni l)).map UInt8.toNat = l := by
      intro l hl
      unfold Lib.bytesOf ni
      rw [List.map_map, List.map_map]
      refine (List.map_congr_left fun x hx' => ?_).trans (List.map_id l)
      have := hl x hx'
      simp [Nat.mod_eq_of_lt this]
    rwa [e _ hx, e _ hy] at h2
  · rintro rfl; rfl
theorem equal_any (w : World) (v1 v2 : Value) (xs ys : List Nat) (h1 : Rd w v1 xs) (h2 : Rd w v2 ys) :
    Calls Tryd.prog 11 #[v1, v2] w fun r w' => r = .returned (.bool (Lib.bytesOf (ni xs) == Lib.bytesOf (ni ys))) ∧ w' = w := by
  obtain ⟨a1, c1, rfl, q1⟩ := h1
  obtain ⟨a2, c2, rfl, q2⟩ := h2
  exact Any.bytes_Equal_all Tryd.lays115 a1 a2 xs.length c1 ys.length c2 (ni xs) (ni ys) w (by simp [ni]) (by simp [ni]) (Rd.bytesIn (c := c1) ⟨_, _, rfl, q1⟩).2 (Rd.bytesIn (c := c2) ⟨_, _, rfl, q2⟩).2
theorem prefix_any (w : World) (v1 v2 : Value) (xs ys : List Nat) (h1 : Rd w v1 xs) (ht : Tidy v1) (h2 : Rd w v2 ys) :
    Calls Tryd.prog 12 #[v1, v2] w fun r w' => r = .returned (.bool (Lib.hasPrefix (Lib.bytesOf (ni xs)) (Lib.bytesOf (ni ys)))) ∧ w' = w := by
  obtain ⟨a1, c1, rfl, q1⟩ := h1
  obtain ⟨a2, c2, rfl, q2⟩ := h2
  exact Any.bytes_HasPrefix_all Tryd.lays116 a1 a2 xs.length c1 ys.length c2 (ni xs) (ni ys) w (by simp [ni]) (by simp [ni]) (ht _ _ _ rfl).1 (Rd.bytesIn (c := c1) ⟨_, _, rfl, q1⟩).2 (Rd.bytesIn (c := c2) ⟨_, _, rfl, q2⟩).2

/-- What a reading must tell of a stream, where the reference ends with R. -/
def Fits (R : Nat × List Nat × Int) (got : List Nat) (fin : Int) : Prop :=
  (R.2.2 = 1 → fin = 1 ∧ got = R.2.1) ∧ (R.2.2 = 3 → fin = 2 ∧ got <+: R.2.1) ∧ (R.2.2 = 2 → (fin = 3 ∨ fin = 2) ∧ got <+: R.2.1)

theorem pre_ni {xs ys : List Nat} (h : ys <+: xs) : Lib.hasPrefix (Lib.bytesOf (ni xs)) (Lib.bytesOf (ni ys)) = true := by
  obtain ⟨z, rfl⟩ := h
  unfold Lib.hasPrefix Lib.bytesOf ni
  simp

set_option maxRecDepth 100000 in
set_option maxHeartbeats 2000000 in
theorem told_fine (w : World) (srcV dictV gotV : Value) (src dict got : List Nat) (fin : Int) (hs : Rd w srcV src) (hd : Rd w dictV dict) (ht : Tidy dictV) (hg : Rd w gotV got) (hsm : src.length ≤ 100000) (hdm : dict.length ≤ 65536)
    (hus : ∀ x ∈ src, x < 256) (hud : ∀ x ∈ dict, x < 256) (hns : ∀ b off n cap, srcV = .slice (some ⟨b, off, none⟩) n cap → b < w.heap.size) (hnd : ∀ b off n cap, dictV = .slice (some ⟨b, off, none⟩) n cap → b < w.heap.size)
    (hF : Fits (inflS src (lastD dict)) got fin) :
    Calls Tryd.prog 6 #[srcV, dictV, gotV, .int .i64 fin] w fun r w' => r = .returned (.bool true) ∧ New w w' := by
  obtain ⟨a, cap, rfl, hcd⟩ := hd
  obtain ⟨a1, cap1, rfl, hcs⟩ := hs
  obtain ⟨a2, cap2, rfl, hcg⟩ := hg
  go_enter Tryd.func6, Tryd.ntmps6
  go_wp2_with fail
  refine (inflate_any w _ _ src dict ⟨_, _, rfl, hcs⟩ ⟨_, _, rfl, hcd⟩ ht hsm hdm hus hud hns hnd).mono ?_; rintro r w1 ⟨outV, rfl, hro, hto, hn1⟩
  have hg1 : Rd w1 (.slice a2 got.length cap2) got := Rd.frm ⟨_, _, rfl, hcg⟩ hn1 (fun _ _ _ _ _ f => f)
  obtain ⟨f1, f3, f2⟩ := hF
  generalize inflS src (lastD dict) = R at *
  obtain ⟨p, out, e⟩ := R
  simp only [] at *
  obtain ⟨a3, cap3, rfl, hco⟩ := hro
  by_cases e1 : e = 1
  · subst e1
    obtain ⟨rfl, rfl⟩ := f1 rfl
    clear f2 f3
    have hq := equal_any w1 _ (.slice a3 got.length cap3) got got hg1 ⟨_, _, rfl, hco⟩
    rw [beq_self_eq_true] at hq
    go_wp2_with fail
    refine hq.mono ?_; rintro r w2 ⟨rfl, rfl⟩
    go_wp2_with fail
    go_ret
    exact ⟨rfl, hn1⟩
  have q1 : (e == 1) = false := beq_eq_false_iff_ne.2 e1
  by_cases e3 : e = 3
  · subst e3
    obtain ⟨rfl, hp⟩ := f3 rfl
    clear f2 f1
    have hq := prefix_any w1 (.slice a3 out.length cap3) _ out got ⟨_, _, rfl, hco⟩ hto hg1
    rw [pre_ni hp] at hq
    go_wp2_with fail
    refine hq.mono ?_; rintro r w2 ⟨rfl, rfl⟩
    go_wp2_with fail
    go_ret
    exact ⟨rfl, hn1⟩
  have q3 : (e == 3) = false := beq_eq_false_iff_ne.2 e3
  by_cases e2 : e = 2
  · subst e2
    obtain ⟨hfin, hp⟩ := f2 rfl
    clear f3 f1
    have hq := prefix_any w1 (.slice a3 out.length cap3) _ out got ⟨_, _, rfl, hco⟩ hto hg1
    rw [pre_ni hp] at hq
    rcases hfin with rfl | rfl
    · go_wp2_with fail
      refine hq.mono ?_; rintro r w2 ⟨rfl, rfl⟩
      go_wp2_with fail
      go_ret
      exact ⟨rfl, hn1⟩
    · go_wp2_with fail
      refine hq.mono ?_; rintro r w2 ⟨rfl, rfl⟩
      go_wp2_with fail
      go_ret
      exact ⟨rfl, hn1⟩
  have q2 : (e == 2) = false := beq_eq_false_iff_ne.2 e2
  clear f1 f2 f3
  go_wp2_with fail
  go_ret
  exact ⟨rfl, hn1⟩
end Go.Proofs.YtbbnibbdiiffkaaDoor

/- The sizes of reads, looked through. -/
namespace Go.Proofs.YtbbnibbdiiffkaaDoor
open Go.RowKit

/-- A slice of ints that can be read. -/
def RdZ (w : World) (v : Value) (l : List Int) : Prop :=
  ∃ a cap, v = .slice a l.length cap ∧ ∀ j, j < l.length → ∃ b off, a = some ⟨b, off, none⟩ ∧ b < w.heap.size ∧ w.cell? ⟨b, off + j, none⟩ = some (.int .i64 (l.getD j 0))
def sizesB (l : List Int) : Bool := l.all (fun n => decide (1 ≤ n ∧ n ≤ 65536)) && decide (l.length ≤ 1000)

set_option maxRecDepth 100000 in
set_option maxHeartbeats 2000000 in
theorem sizes_any (w : World) (v : Value) (l : List Int) (hv : RdZ w v l) (hlen : l.length < 2 ^ 62) :
    Calls Tryd.prog 4 #[v] w fun r w' => r = .returned (.bool (sizesB l)) ∧ New w w' := by
  obtain ⟨a, cap, rfl, hc⟩ := hv
  go_enter Tryd.func4, Tryd.ntmps4
  go_wp2_with fail
  go_loopw [7] (fun i wr => ∃ k : Nat, k ≤ l.length ∧ i = .int .i64 k ∧ wr = w ∧ ∀ j, j < k → 1 ≤ l.getD j 0 ∧ l.getD j 0 ≤ 65536) (fun i _ => l.length - (intOf i).toNat)
  case atStart => exact ⟨0, Nat.zero_le _, rfl, rfl, fun j hj => absurd hj (Nat.not_lt_zero j)⟩
  case round =>
    obtain ⟨k, hk, rfl, rfl, hall⟩ := hrel
    by_cases hlt : k < l.length
    · obtain ⟨b, off, rfl, hb, hcell⟩ := hc k hlt
      have y1 : wrap64 ((k : Int) + 1) = ((k + 1 : Nat) : Int) := by unfold wrap64; omega
      generalize hx : l.getD k 0 = x at *
      have hmem : x ∈ l := by
        rw [← hx, List.getD_eq_getElem?_getD, List.getElem?_eq_getElem hlt]; exact List.getElem_mem hlt
      by_cases h1 : x < 1
      · have hr : sizesB l = false := by
          unfold sizesB; rw [Bool.and_eq_false_iff]; left; rw [List.all_eq_false]
          exact ⟨x, hmem, by simp; omega⟩
        go_wp2_with fail
        go_returns
        exact ⟨by first | rfl | (rw [hr]; rfl), Frm.refl _ _⟩
      · by_cases h2 : 65536 < x
        · have hr : sizesB l = false := by
            unfold sizesB; rw [Bool.and_eq_false_iff]; left; rw [List.all_eq_false]
            exact ⟨x, hmem, by simp; omega⟩
          have h1 : 1 ≤ x := by omega
          go_wp2_with fail
          go_returns
          exact ⟨by first | rfl | (rw [hr]; rfl), Frm.refl _ _⟩
        · have h1' : 1 ≤ x := by omega
          have h2' : x ≤ 65536 := by omega
          go_wp2_with fail
          go_roundw
          case rel =>
            refine ⟨k + 1, hlt, rfl, trivial, fun j hj => ?_⟩
            rcases Nat.lt_or_eq_of_le (Nat.le_of_lt_succ hj) with h | h
            · exact hall j h
            · subst h; rw [hx]; exact ⟨h1', h2'⟩
          case measure => simp [intOf]; omega
    · obtain rfl : k = l.length := by omega
      have hr : sizesB l = decide (l.length ≤ 1000) := by
        unfold sizesB
        have : l.all (fun n => decide (1 ≤ n ∧ n ≤ 65536)) = true := by
          rw [List.all_eq_true]
          intro x hx
          obtain ⟨j, hj, rfl⟩ := List.getElem_of_mem hx
          have := hall j hj
          rw [List.getD_eq_getElem?_getD, List.getElem?_eq_getElem hj] at this
          exact decide_eq_true this
        rw [this]; rfl
      have hr2 : (Value.bool (decide ((l.length : Int) ≤ 1000))) = Value.bool (sizesB l) := by
        rw [hr]; congr 1; exact decide_eq_decide.2 (by omega)
      have HR := Lib.hid hr2
      clear hr2 hr hall hc
      go_wp2_with fail
      go_ret
      exact ⟨by rw [← HR.out]; try rfl, Frm.refl _ _⟩
end Go.Proofs.YtbbnibbdiiffkaaDoor

/- The decoder's state as it lies in memory: what each of its parts holds, and what a store does to it. Printed by tools/genS.py. -/
namespace Go.Proofs.YtbbnibbdiiffkaaDoor
open Go.RowKit

/-- The blocks of a decoder. -/
structure Ids where
  F : Nat
  R : Nat
  D : Nat
  B : Nat
  C : Nat
  lo : Nat
/-- The two sentinels' addresses. -/
structure Errs where
  eof : Addr
  une : Addr
def Errs.eofV (E : Errs) : Value := .iface 119 (.pointer (some E.eof))
def Errs.uneV (E : Errs) : Value := .iface 119 (.pointer (some E.une))

/-- A table of codes. -/
structure HD where
  min : Nat
  ch : List Nat
  links : List (List Nat)
  mask : Nat
def u32 (n : Nat) : Value := .int .u32 n
/-- A table in a block's cells. -/
structure HDC (cs : Array Value) (o : Nat) (h : HD) (lv : Value) : Prop where
  mn : cs[o]? = some (vi h.min)
  chs : ∀ j, j < 512 → cs[o + 1 + j]? = some (u32 (h.ch.getD j 0))
  lk : cs[o + 513]? = some lv
  msk : cs[o + 514]? = some (u32 h.mask)
/-- A table's rows of links. -/
def LinksAt (w : World) (lv : Value) (links : List (List Nat)) : Prop :=
  (links = [] ∧ ∃ a c, lv = .slice a 0 c) ∨ ∃ L cap cs, lv = .slice (some ⟨L, 0, none⟩) links.length cap ∧ w.heap[L]? = some (.cells cs 115 (0, 0)) ∧
    ∀ i, i < links.length → ∃ Li cap' ds, cs[i]? = some (.slice (some ⟨Li, 0, none⟩) (links.getD i []).length cap') ∧ w.heap[Li]? = some (.cells ds 49 (0, 0)) ∧
      ∀ j, j < (links.getD i []).length → ds[j]? = some (u32 ((links.getD i []).getD j 0))
/-- A table that a pointer leads to. -/
def TabAt (w : World) (hp : Value) (h : HD) : Prop :=
  ∃ b o cs t lv, hp = .pointer (some ⟨b, o, none⟩) ∧ w.heap[b]? = some (.cells cs t (0, 0)) ∧ HDC cs o h lv ∧ LinksAt w lv h.links

/-- What a decoder holds. -/
structure DS where
  k : Nat
  ro : Nat
  b : Nat
  nb : Nat
  wr : Nat
  rd : Nat
  full : Bool
  step : Value
  st : Nat
  final : Bool
  err : Value
  tr : Value
  hl : Value
  hd : Value
  len : Nat
  dist : Nat
  h1 : HD
  l1 : Value
  h2 : HD
  l2 : Value
  hx : HD
  bits : List Nat
  cb : List Nat
  hist : List Nat
  buf : List Nat

/-- The decoder's own cells. -/
structure FC (cs : Array Value) (I : Ids) (s : DS) : Prop where
  size : cs.size = 1054
  r : cs[0]? = some (.iface 29 (.pointer (some ⟨I.R, 0, none⟩)))
  pb : cs[1035]? = some (.pointer (some ⟨I.B, 0, none⟩))
  pc : cs[1036]? = some (.pointer (some ⟨I.C, 0, none⟩))
  hist : cs[1037]? = some (.slice (some ⟨I.D, 0, none⟩) 32768 32768)
  ro : cs[2]? = some (.int .i64 s.ro)
  b : cs[3]? = some (.int .u32 s.b)
  nb : cs[4]? = some (.int .u64 s.nb)
  wr : cs[1038]? = some (.int .i64 s.wr)
  rd : cs[1039]? = some (.int .i64 s.rd)
  full : cs[1040]? = some (.bool s.full)
  step : cs[1045]? = some (s.step)
  st : cs[1046]? = some (.int .i64 s.st)
  final : cs[1047]? = some (.bool s.final)
  err : cs[1048]? = some (s.err)
  tr : cs[1049]? = some (s.tr)
  hl : cs[1050]? = some (s.hl)
  hd : cs[1051]? = some (s.hd)
  len : cs[1052]? = some (.int .i64 s.len)
  dist : cs[1053]? = some (.int .i64 s.dist)
  h1 : HDC cs 5 s.h1 s.l1
  h2 : HDC cs 520 s.h2 s.l2
  buf : ∀ j, j < 4 → cs[1041 + j]? = some (u8 (s.buf.getD j 0))

theorem getElem?_set_ne {cs : Array Value} {i j : Nat} (v : Value) (h : i ≠ j) : (cs.setIfInBounds i v)[j]? = cs[j]? := by
  rw [Array.getElem?_setIfInBounds, if_neg h]
theorem getElem?_set_same {cs : Array Value} {i : Nat} (v : Value) (h : i < cs.size) : (cs.setIfInBounds i v)[i]? = some v := by
  rw [Array.getElem?_setIfInBounds, if_pos rfl, if_pos h]
theorem HDC.set {cs : Array Value} {o : Nat} {h : HD} {lv : Value} (hh : HDC cs o h lv) (i : Nat) (v : Value) (hi : i < o ∨ o + 515 ≤ i) : HDC (cs.setIfInBounds i v) o h lv :=
  ⟨by rw [getElem?_set_ne v (by omega)]; exact hh.mn, fun j hj => by rw [getElem?_set_ne v (by omega)]; exact hh.chs j hj,
    by rw [getElem?_set_ne v (by omega)]; exact hh.lk, by rw [getElem?_set_ne v (by omega)]; exact hh.msk⟩

theorem FC.set_ro {cs : Array Value} {I : Ids} {s : DS} (h : FC cs I s) (x : Nat) : FC (cs.setIfInBounds 2 (.int .i64 x)) I { s with ro := x } where
  size := by rw [Array.size_setIfInBounds]; exact h.size
  r := by rw [getElem?_set_ne _ (by decide)]; exact h.r
  pb := by rw [getElem?_set_ne _ (by decide)]; exact h.pb
  pc := by rw [getElem?_set_ne _ (by decide)]; exact h.pc
  hist := by rw [getElem?_set_ne _ (by decide)]; exact h.hist
  ro := getElem?_set_same _ (by rw [h.size]; decide)
  b := by rw [getElem?_set_ne _ (by decide)]; exact h.b
  nb := by rw [getElem?_set_ne _ (by decide)]; exact h.nb
  wr := by rw [getElem?_set_ne _ (by decide)]; exact h.wr
  rd := by rw [getElem?_set_ne _ (by decide)]; exact h.rd
  full := by rw [getElem?_set_ne _ (by decide)]; exact h.full
  step := by rw [getElem?_set_ne _ (by decide)]; exact h.step
  st := by rw [getElem?_set_ne _ (by decide)]; exact h.st
  final := by rw [getElem?_set_ne _ (by decide)]; exact h.final
  err := by rw [getElem?_set_ne _ (by decide)]; exact h.err
  tr := by rw [getElem?_set_ne _ (by decide)]; exact h.tr
  hl := by rw [getElem?_set_ne _ (by decide)]; exact h.hl
  hd := by rw [getElem?_set_ne _ (by decide)]; exact h.hd
  len := by rw [getElem?_set_ne _ (by decide)]; exact h.len
  dist := by rw [getElem?_set_ne _ (by decide)]; exact h.dist
  h1 := h.h1.set _ _ (by decide)
  h2 := h.h2.set _ _ (by decide)
  buf := fun j hj => by rw [getElem?_set_ne _ (by omega)]; exact h.buf j hj
theorem FC.set_b {cs : Array Value} {I : Ids} {s : DS} (h : FC cs I s) (x : Nat) : FC (cs.setIfInBounds 3 (.int .u32 x)) I { s with b := x } where
  size := by rw [Array.size_setIfInBounds]; exact h.size
  r := by rw [getElem?_set_ne _ (by decide)]; exact h.r
  pb := by rw [getElem?_set_ne _ (by decide)]; exact h.pb
  pc := by rw [getElem?_set_ne _ (by decide)]; exact h.pc
  hist := by rw [getElem?_set_ne _ (by decide)]; exact h.hist
  ro := by rw [getElem?_set_ne _ (by decide)]; exact h.ro
  b := getElem?_set_same _ (by rw [h.size]; decide)
  nb := by rw [getElem?_set_ne _ (by decide)]; exact h.nb
  wr := by rw [getElem?_set_ne _ (by decide)]; exact h.wr
  rd := by rw [getElem?_set_ne _ (by decide)]; exact h.rd
  full := by rw [getElem?_set_ne _ (by decide)]; exact h.full
  step := by rw [getElem?_set_ne _ (by decide)]; exact h.step
  st := by rw [getElem?_set_ne _ (by decide)]; exact h.st
  final := by rw [getElem?_set_ne _ (by decide)]; exact h.final
  err := by rw [getElem?_set_ne _ (by decide)]; exact h.err
  tr := by rw [getElem?_set_ne _ (by decide)]; exact h.tr
  hl := by rw [getElem?_set_ne _ (by decide)]; exact h.hl
  hd := by rw [getElem?_set_ne _ (by decide)]; exact h.hd
  len := by rw [getElem?_set_ne _ (by decide)]; exact h.len
  dist := by rw [getElem?_set_ne _ (by decide)]; exact h.dist
  h1 := h.h1.set _ _ (by decide)
  h2 := h.h2.set _ _ (by decide)
  buf := fun j hj => by rw [getElem?_set_ne _ (by omega)]; exact h.buf j hj
theorem FC.set_nb {cs : Array Value} {I : Ids} {s : DS} (h : FC cs I s) (x : Nat) : FC (cs.setIfInBounds 4 (.int .u64 x)) I { s with nb := x } where
  size := by rw [Array.size_setIfInBounds]; exact h.size
  r := by rw [getElem?_set_ne _ (by decide)]; exact h.r
  pb := by rw [getElem?_set_ne _ (by decide)]; exact h.pb
  pc := by rw [getElem?_set_ne _ (by decide)]; exact h.pc
  hist := by rw [getElem?_set_ne _ (by decide)]; exact h.hist
  ro := by rw [getElem?_set_ne _ (by decide)]; exact h.ro
  b := by rw [getElem?_set_ne _ (by decide)]; exact h.b
  nb := getElem?_set_same _ (by rw [h.size]; decide)
  wr := by rw [getElem?_set_ne _ (by decide)]; exact h.wr
  rd := by rw [getElem?_set_ne _ (by decide)]; exact h.rd
  full := by rw [getElem?_set_ne _ (by decide)]; exact h.full
  step := by rw [getElem?_set_ne _ (by decide)]; exact h.step
  st := by rw [getElem?_set_ne _ (by decide)]; exact h.st
  final := by rw [getElem?_set_ne _ (by decide)]; exact h.final
  err := by rw [getElem?_set_ne _ (by decide)]; exact h.err
  tr := by rw [getElem?_set_ne _ (by decide)]; exact h.tr
  hl := by rw [getElem?_set_ne _ (by decide)]; exact h.hl
  hd := by rw [getElem?_set_ne _ (by decide)]; exact h.hd
  len := by rw [getElem?_set_ne _ (by decide)]; exact h.len
  dist := by rw [getElem?_set_ne _ (by decide)]; exact h.dist
  h1 := h.h1.set _ _ (by decide)
  h2 := h.h2.set _ _ (by decide)
  buf := fun j hj => by rw [getElem?_set_ne _ (by omega)]; exact h.buf j hj
theorem FC.set_wr {cs : Array Value} {I : Ids} {s : DS} (h : FC cs I s) (x : Nat) : FC (cs.setIfInBounds 1038 (.int .i64 x)) I { s with wr := x } where
  size := by rw [Array.size_setIfInBounds]; exact h.size
  r := by rw [getElem?_set_ne _ (by decide)]; exact h.r
  pb := by rw [getElem?_set_ne _ (by decide)]; exact h.pb
  pc := by rw [getElem?_set_ne _ (by decide)]; exact h.pc
  hist := by rw [getElem?_set_ne _ (by decide)]; exact h.hist
  ro := by rw [getElem?_set_ne _ (by decide)]; exact h.ro
  b := by rw [getElem?_set_ne _ (by decide)]; exact h.b
  nb := by rw [getElem?_set_ne _ (by decide)]; exact h.nb
  wr := getElem?_set_same _ (by rw [h.size]; decide)
  rd := by rw [getElem?_set_ne _ (by decide)]; exact h.rd
  full := by rw [getElem?_set_ne _ (by decide)]; exact h.full
  step := by rw [getElem?_set_ne _ (by decide)]; exact h.step
  st := by rw [getElem?_set_ne _ (by decide)]; exact h.st
  final := by rw [getElem?_set_ne _ (by decide)]; exact h.final
  err := by rw [getElem?_set_ne _ (by decide)]; exact h.err
  tr := by rw [getElem?_set_ne _ (by decide)]; exact h.tr
  hl := by rw [getElem?_set_ne _ (by decide)]; exact h.hl
  hd := by rw [getElem?_set_ne _ (by decide)]; exact h.hd
  len := by rw [getElem?_set_ne _ (by decide)]; exact h.len
  dist := by rw [getElem?_set_ne _ (by decide)]; exact h.dist
  h1 := h.h1.set _ _ (by decide)
  h2 := h.h2.set _ _ (by decide)
  buf := fun j hj => by rw [getElem?_set_ne _ (by omega)]; exact h.buf j hj
theorem FC.set_rd {cs : Array Value} {I : Ids} {s : DS} (h : FC cs I s) (x : Nat) : FC (cs.setIfInBounds 1039 (.int .i64 x)) I { s with rd := x } where
  size := by rw [Array.size_setIfInBounds]; exact h.size
  r := by rw [getElem?_set_ne _ (by decide)]; exact h.r
  pb := by rw [getElem?_set_ne _ (by decide)]; exact h.pb
  pc := by rw [getElem?_set_ne _ (by decide)]; exact h.pc
  hist := by rw [getElem?_set_ne _ (by decide)]; exact h.hist
  ro := by rw [getElem?_set_ne _ (by decide)]; exact h.ro
  b := by rw [getElem?_set_ne _ (by decide)]; exact h.b
  nb := by rw [getElem?_set_ne _ (by decide)]; exact h.nb
  wr := by rw [getElem?_set_ne _ (by decide)]; exact h.wr
  rd := getElem?_set_same _ (by rw [h.size]; decide)
  full := by rw [getElem?_set_ne _ (by decide)]; exact h.full
  step := by rw [getElem?_set_ne _ (by decide)]; exact h.step
  st := by rw [getElem?_set_ne _ (by decide)]; exact h.st
  final := by rw [getElem?_set_ne _ (by decide)]; exact h.final
  err := by rw [getElem?_set_ne _ (by decide)]; exact h.err
  tr := by rw [getElem?_set_ne _ (by decide)]; exact h.tr
  hl := by rw [getElem?_set_ne _ (by decide)]; exact h.hl
  hd := by rw [getElem?_set_ne _ (by decide)]; exact h.hd
  len := by rw [getElem?_set_ne _ (by decide)]; exact h.len
  dist := by rw [getElem?_set_ne _ (by decide)]; exact h.dist
  h1 := h.h1.set _ _ (by decide)
  h2 := h.h2.set _ _ (by decide)
  buf := fun j hj => by rw [getElem?_set_ne _ (by omega)]; exact h.buf j hj
theorem FC.set_full {cs : Array Value} {I : Ids} {s : DS} (h : FC cs I s) (x : Bool) : FC (cs.setIfInBounds 1040 (.bool x)) I { s with full := x } where
  size := by rw [Array.size_setIfInBounds]; exact h.size
  r := by rw [getElem?_set_ne _ (by decide)]; exact h.r
  pb := by rw [getElem?_set_ne _ (by decide)]; exact h.pb
  pc := by rw [getElem?_set_ne _ (by decide)]; exact h.pc
  hist := by rw [getElem?_set_ne _ (by decide)]; exact h.hist
  ro := by rw [getElem?_set_ne _ (by decide)]; exact h.ro
  b := by rw [getElem?_set_ne _ (by decide)]; exact h.b
  nb := by rw [getElem?_set_ne _ (by decide)]; exact h.nb
  wr := by rw [getElem?_set_ne _ (by decide)]; exact h.wr
  rd := by rw [getElem?_set_ne _ (by decide)]; exact h.rd
  full := getElem?_set_same _ (by rw [h.size]; decide)
  step := by rw [getElem?_set_ne _ (by decide)]; exact h.step
  st := by rw [getElem?_set_ne _ (by decide)]; exact h.st
  final := by rw [getElem?_set_ne _ (by decide)]; exact h.final
  err := by rw [getElem?_set_ne _ (by decide)]; exact h.err
  tr := by rw [getElem?_set_ne _ (by decide)]; exact h.tr
  hl := by rw [getElem?_set_ne _ (by decide)]; exact h.hl
  hd := by rw [getElem?_set_ne _ (by decide)]; exact h.hd
  len := by rw [getElem?_set_ne _ (by decide)]; exact h.len
  dist := by rw [getElem?_set_ne _ (by decide)]; exact h.dist
  h1 := h.h1.set _ _ (by decide)
  h2 := h.h2.set _ _ (by decide)
  buf := fun j hj => by rw [getElem?_set_ne _ (by omega)]; exact h.buf j hj
theorem FC.set_step {cs : Array Value} {I : Ids} {s : DS} (h : FC cs I s) (x : Value) : FC (cs.setIfInBounds 1045 (x)) I { s with step := x } where
  size := by rw [Array.size_setIfInBounds]; exact h.size
  r := by rw [getElem?_set_ne _ (by decide)]; exact h.r
  pb := by rw [getElem?_set_ne _ (by decide)]; exact h.pb
  pc := by rw [getElem?_set_ne _ (by decide)]; exact h.pc
  hist := by rw [getElem?_set_ne _ (by decide)]; exact h.hist
  ro := by rw [getElem?_set_ne _ (by decide)]; exact h.ro
  b := by rw [getElem?_set_ne _ (by decide)]; exact h.b
  nb := by rw [getElem?_set_ne _ (by decide)]; exact h.nb
  wr := by rw [getElem?_set_ne _ (by decide)]; exact h.wr
  rd := by rw [getElem?_set_ne _ (by decide)]; exact h.rd
  full := by rw [getElem?_set_ne _ (by decide)]; exact h.full
  step := getElem?_set_same _ (by rw [h.size]; decide)
  st := by rw [getElem?_set_ne _ (by decide)]; exact h.st
  final := by rw [getElem?_set_ne _ (by decide)]; exact h.final
  err := by rw [getElem?_set_ne _ (by decide)]; exact h.err
  tr := by rw [getElem?_set_ne _ (by decide)]; exact h.tr
  hl := by rw [getElem?_set_ne _ (by decide)]; exact h.hl
  hd := by rw [getElem?_set_ne _ (by decide)]; exact h.hd
  len := by rw [getElem?_set_ne _ (by decide)]; exact h.len
  dist := by rw [getElem?_set_ne _ (by decide)]; exact h.dist
  h1 := h.h1.set _ _ (by decide)
  h2 := h.h2.set _ _ (by decide)
  buf := fun j hj => by rw [getElem?_set_ne _ (by omega)]; exact h.buf j hj
theorem FC.set_st {cs : Array Value} {I : Ids} {s : DS} (h : FC cs I s) (x : Nat) : FC (cs.setIfInBounds 1046 (.int .i64 x)) I { s with st := x } where
  size := by rw [Array.size_setIfInBounds]; exact h.size
  r := by rw [getElem?_set_ne _ (by decide)]; exact h.r
  pb := by rw [getElem?_set_ne _ (by decide)]; exact h.pb
  pc := by rw [getElem?_set_ne _ (by decide)]; exact h.pc
  hist := by rw [getElem?_set_ne _ (by decide)]; exact h.hist
  ro := by rw [getElem?_set_ne _ (by decide)]; exact h.ro
  b := by rw [getElem?_set_ne _ (by decide)]; exact h.b
  nb := by rw [getElem?_set_ne _ (by decide)]; exact h.nb
  wr := by rw [getElem?_set_ne _ (by decide)]; exact h.wr
  rd := by rw [getElem?_set_ne _ (by decide)]; exact h.rd
  full := by rw [getElem?_set_ne _ (by decide)]; exact h.full
  step := by rw [getElem?_set_ne _ (by decide)]; exact h.step
  st := getElem?_set_same _ (by rw [h.size]; decide)
  final := by rw [getElem?_set_ne _ (by decide)]; exact h.final
  err := by rw [getElem?_set_ne _ (by decide)]; exact h.err
  tr := by rw [getElem?_set_ne _ (by decide)]; exact h.tr
  hl := by rw [getElem?_set_ne _ (by decide)]; exact h.hl
  hd := by rw [getElem?_set_ne _ (by decide)]; exact h.hd
  len := by rw [getElem?_set_ne _ (by decide)]; exact h.len
  dist := by rw [getElem?_set_ne _ (by decide)]; exact h.dist
  h1 := h.h1.set _ _ (by decide)
  h2 := h.h2.set _ _ (by decide)
  buf := fun j hj => by rw [getElem?_set_ne _ (by omega)]; exact h.buf j hj
theorem FC.set_final {cs : Array Value} {I : Ids} {s : DS} (h : FC cs I s) (x : Bool) : FC (cs.setIfInBounds 1047 (.bool x)) I { s with final := x } where
  size := by rw [Array.size_setIfInBounds]; exact h.size
  r := by rw [getElem?_set_ne _ (by decide)]; exact h.r
  pb := by rw [getElem?_set_ne _ (by decide)]; exact h.pb
  pc := by rw [getElem?_set_ne _ (by decide)]; exact h.pc
  hist := by rw [getElem?_set_ne _ (by decide)]; exact h.hist
  ro := by rw [getElem?_set_ne _ (by decide)]; exact h.ro
  b := by rw [getElem?_set_ne _ (by decide)]; exact h.b
  nb := by rw [getElem?_set_ne _ (by decide)]; exact h.nb
  wr := by rw [getElem?_set_ne _ (by decide)]; exact h.wr
  rd := by rw [getElem?_set_ne _ (by decide)]; exact h.rd
  full := by rw [getElem?_set_ne _ (by decide)]; exact h.full
  step := by rw [getElem?_set_ne _ (by decide)]; exact h.step
  st := by rw [getElem?_set_ne _ (by decide)]; exact h.st
  final := getElem?_set_same _ (by rw [h.size]; decide)
  err := by rw [getElem?_set_ne _ (by decide)]; exact h.err
  tr := by rw [getElem?_set_ne _ (by decide)]; exact h.tr
  hl := by rw [getElem?_set_ne _ (by decide)]; exact h.hl
  hd := by rw [getElem?_set_ne _ (by decide)]; exact h.hd
  len := by rw [getElem?_set_ne _ (by decide)]; exact h.len
  dist := by rw [getElem?_set_ne _ (by decide)]; exact h.dist
  h1 := h.h1.set _ _ (by decide)
  h2 := h.h2.set _ _ (by decide)
  buf := fun j hj => by rw [getElem?_set_ne _ (by omega)]; exact h.buf j hj
theorem FC.set_err {cs : Array Value} {I : Ids} {s : DS} (h : FC cs I s) (x : Value) : FC (cs.setIfInBounds 1048 (x)) I { s with err := x } where
  size := by rw [Array.size_setIfInBounds]; exact h.size
  r := by rw [getElem?_set_ne _ (by decide)]; exact h.r
  pb := by rw [getElem?_set_ne _ (by decide)]; exact h.pb
  pc := by rw [getElem?_set_ne _ (by decide)]; exact h.pc
  hist := by rw [getElem?_set_ne _ (by decide)]; exact h.hist
  ro := by rw [getElem?_set_ne _ (by decide)]; exact h.ro
  b := by rw [getElem?_set_ne _ (by decide)]; exact h.b
  nb := by rw [getElem?_set_ne _ (by decide)]; exact h.nb
  wr := by rw [getElem?_set_ne _ (by decide)]; exact h.wr
  rd := by rw [getElem?_set_ne _ (by decide)]; exact h.rd
  full := by rw [getElem?_set_ne _ (by decide)]; exact h.full
  step := by rw [getElem?_set_ne _ (by decide)]; exact h.step
  st := by rw [getElem?_set_ne _ (by decide)]; exact h.st
  final := by rw [getElem?_set_ne _ (by decide)]; exact h.final
  err := getElem?_set_same _ (by rw [h.size]; decide)
  tr := by rw [getElem?_set_ne _ (by decide)]; exact h.tr
  hl := by rw [getElem?_set_ne _ (by decide)]; exact h.hl
  hd := by rw [getElem?_set_ne _ (by decide)]; exact h.hd
  len := by rw [getElem?_set_ne _ (by decide)]; exact h.len
  dist := by rw [getElem?_set_ne _ (by decide)]; exact h.dist
  h1 := h.h1.set _ _ (by decide)
  h2 := h.h2.set _ _ (by decide)
  buf := fun j hj => by rw [getElem?_set_ne _ (by omega)]; exact h.buf j hj
theorem FC.set_tr {cs : Array Value} {I : Ids} {s : DS} (h : FC cs I s) (x : Value) : FC (cs.setIfInBounds 1049 (x)) I { s with tr := x } where
  size := by rw [Array.size_setIfInBounds]; exact h.size
  r := by rw [getElem?_set_ne _ (by decide)]; exact h.r
  pb := by rw [getElem?_set_ne _ (by decide)]; exact h.pb
  pc := by rw [getElem?_set_ne _ (by decide)]; exact h.pc
  hist := by rw [getElem?_set_ne _ (by decide)]; exact h.hist
  ro := by rw [getElem?_set_ne _ (by decide)]; exact h.ro
  b := by rw [getElem?_set_ne _ (by decide)]; exact h.b
  nb := by rw [getElem?_set_ne _ (by decide)]; exact h.nb
  wr := by rw [getElem?_set_ne _ (by decide)]; exact h.wr
  rd := by rw [getElem?_set_ne _ (by decide)]; exact h.rd
  full := by rw [getElem?_set_ne _ (by decide)]; exact h.full
  step := by rw [getElem?_set_ne _ (by decide)]; exact h.step
  st := by rw [getElem?_set_ne _ (by decide)]; exact h.st
  final := by rw [getElem?_set_ne _ (by decide)]; exact h.final
  err := by rw [getElem?_set_ne _ (by decide)]; exact h.err
  tr := getElem?_set_same _ (by rw [h.size]; decide)
  hl := by rw [getElem?_set_ne _ (by decide)]; exact h.hl
  hd := by rw [getElem?_set_ne _ (by decide)]; exact h.hd
  len := by rw [getElem?_set_ne _ (by decide)]; exact h.len
  dist := by rw [getElem?_set_ne _ (by decide)]; exact h.dist
  h1 := h.h1.set _ _ (by decide)
  h2 := h.h2.set _ _ (by decide)
  buf := fun j hj => by rw [getElem?_set_ne _ (by omega)]; exact h.buf j hj
theorem FC.set_hl {cs : Array Value} {I : Ids} {s : DS} (h : FC cs I s) (x : Value) : FC (cs.setIfInBounds 1050 (x)) I { s with hl := x } where
  size := by rw [Array.size_setIfInBounds]; exact h.size
  r := by rw [getElem?_set_ne _ (by decide)]; exact h.r
  pb := by rw [getElem?_set_ne _ (by decide)]; exact h.pb
  pc := by rw [getElem?_set_ne _ (by decide)]; exact h.pc
  hist := by rw [getElem?_set_ne _ (by decide)]; exact h.hist
  ro := by rw [getElem?_set_ne _ (by decide)]; exact h.ro
  b := by rw [getElem?_set_ne _ (by decide)]; exact h.b
  nb := by rw [getElem?_set_ne _ (by decide)]; exact h.nb
  wr := by rw [getElem?_set_ne _ (by decide)]; exact h.wr
  rd := by rw [getElem?_set_ne _ (by decide)]; exact h.rd
  full := by rw [getElem?_set_ne _ (by decide)]; exact h.full
  step := by rw [getElem?_set_ne _ (by decide)]; exact h.step
  st := by rw [getElem?_set_ne _ (by decide)]; exact h.st
  final := by rw [getElem?_set_ne _ (by decide)]; exact h.final
  err := by rw [getElem?_set_ne _ (by decide)]; exact h.err
  tr := by rw [getElem?_set_ne _ (by decide)]; exact h.tr
  hl := getElem?_set_same _ (by rw [h.size]; decide)
  hd := by rw [getElem?_set_ne _ (by decide)]; exact h.hd
  len := by rw [getElem?_set_ne _ (by decide)]; exact h.len
  dist := by rw [getElem?_set_ne _ (by decide)]; exact h.dist
  h1 := h.h1.set _ _ (by decide)
  h2 := h.h2.set _ _ (by decide)
  buf := fun j hj => by rw [getElem?_set_ne _ (by omega)]; exact h.buf j hj
theorem FC.set_hd {cs : Array Value} {I : Ids} {s : DS} (h : FC cs I s) (x : Value) : FC (cs.setIfInBounds 1051 (x)) I { s with hd := x } where
  size := by rw [Array.size_setIfInBounds]; exact h.size
  r := by rw [getElem?_set_ne _ (by decide)]; exact h.r
  pb := by rw [getElem?_set_ne _ (by decide)]; exact h.pb
  pc := by rw [getElem?_set_ne _ (by decide)]; exact h.pc
  hist := by rw [getElem?_set_ne _ (by decide)]; exact h.hist
  ro := by rw [getElem?_set_ne _ (by decide)]; exact h.ro
  b := by rw [getElem?_set_ne _ (by decide)]; exact h.b
  nb := by rw [getElem?_set_ne _ (by decide)]; exact h.nb
  wr := by rw [getElem?_set_ne _ (by decide)]; exact h.wr
  rd := by rw [getElem?_set_ne _ (by decide)]; exact h.rd
  full := by rw [getElem?_set_ne _ (by decide)]; exact h.full
  step := by rw [getElem?_set_ne _ (by decide)]; exact h.step
  st := by rw [getElem?_set_ne _ (by decide)]; exact h.st
  final := by rw [getElem?_set_ne _ (by decide)]; exact h.final
  err := by rw [getElem?_set_ne _ (by decide)]; exact h.err
  tr := by rw [getElem?_set_ne _ (by decide)]; exact h.tr
  hl := by rw [getElem?_set_ne _ (by decide)]; exact h.hl
  hd := getElem?_set_same _ (by rw [h.size]; decide)
  len := by rw [getElem?_set_ne _ (by decide)]; exact h.len
  dist := by rw [getElem?_set_ne _ (by decide)]; exact h.dist
  h1 := h.h1.set _ _ (by decide)
  h2 := h.h2.set _ _ (by decide)
  buf := fun j hj => by rw [getElem?_set_ne _ (by omega)]; exact h.buf j hj
theorem FC.set_len {cs : Array Value} {I : Ids} {s : DS} (h : FC cs I s) (x : Nat) : FC (cs.setIfInBounds 1052 (.int .i64 x)) I { s with len := x } where
  size := by rw [Array.size_setIfInBounds]; exact h.size
  r := by rw [getElem?_set_ne _ (by decide)]; exact h.r
  pb := by rw [getElem?_set_ne _ (by decide)]; exact h.pb
  pc := by rw [getElem?_set_ne _ (by decide)]; exact h.pc
  hist := by rw [getElem?_set_ne _ (by decide)]; exact h.hist
  ro := by rw [getElem?_set_ne _ (by decide)]; exact h.ro
  b := by rw [getElem?_set_ne _ (by decide)]; exact h.b
  nb := by rw [getElem?_set_ne _ (by decide)]; exact h.nb
  wr := by rw [getElem?_set_ne _ (by decide)]; exact h.wr
  rd := by rw [getElem?_set_ne _ (by decide)]; exact h.rd
  full := by rw [getElem?_set_ne _ (by decide)]; exact h.full
  step := by rw [getElem?_set_ne _ (by decide)]; exact h.step
  st := by rw [getElem?_set_ne _ (by decide)]; exact h.st
  final := by rw [getElem?_set_ne _ (by decide)]; exact h.final
  err := by rw [getElem?_set_ne _ (by decide)]; exact h.err
  tr := by rw [getElem?_set_ne _ (by decide)]; exact h.tr
  hl := by rw [getElem?_set_ne _ (by decide)]; exact h.hl
  hd := by rw [getElem?_set_ne _ (by decide)]; exact h.hd
  len := getElem?_set_same _ (by rw [h.size]; decide)
  dist := by rw [getElem?_set_ne _ (by decide)]; exact h.dist
  h1 := h.h1.set _ _ (by decide)
  h2 := h.h2.set _ _ (by decide)
  buf := fun j hj => by rw [getElem?_set_ne _ (by omega)]; exact h.buf j hj
theorem FC.set_dist {cs : Array Value} {I : Ids} {s : DS} (h : FC cs I s) (x : Nat) : FC (cs.setIfInBounds 1053 (.int .i64 x)) I { s with dist := x } where
  size := by rw [Array.size_setIfInBounds]; exact h.size
  r := by rw [getElem?_set_ne _ (by decide)]; exact h.r
  pb := by rw [getElem?_set_ne _ (by decide)]; exact h.pb
  pc := by rw [getElem?_set_ne _ (by decide)]; exact h.pc
  hist := by rw [getElem?_set_ne _ (by decide)]; exact h.hist
  ro := by rw [getElem?_set_ne _ (by decide)]; exact h.ro
  b := by rw [getElem?_set_ne _ (by decide)]; exact h.b
  nb := by rw [getElem?_set_ne _ (by decide)]; exact h.nb
  wr := by rw [getElem?_set_ne _ (by decide)]; exact h.wr
  rd := by rw [getElem?_set_ne _ (by decide)]; exact h.rd
  full := by rw [getElem?_set_ne _ (by decide)]; exact h.full
  step := by rw [getElem?_set_ne _ (by decide)]; exact h.step
  st := by rw [getElem?_set_ne _ (by decide)]; exact h.st
  final := by rw [getElem?_set_ne _ (by decide)]; exact h.final
  err := by rw [getElem?_set_ne _ (by decide)]; exact h.err
  tr := by rw [getElem?_set_ne _ (by decide)]; exact h.tr
  hl := by rw [getElem?_set_ne _ (by decide)]; exact h.hl
  hd := by rw [getElem?_set_ne _ (by decide)]; exact h.hd
  len := by rw [getElem?_set_ne _ (by decide)]; exact h.len
  dist := getElem?_set_same _ (by rw [h.size]; decide)
  h1 := h.h1.set _ _ (by decide)
  h2 := h.h2.set _ _ (by decide)
  buf := fun j hj => by rw [getElem?_set_ne _ (by omega)]; exact h.buf j hj

def bytesA (l : List Nat) : Array Value := (l.map u8).toArray
def intsA (l : List Nat) : Array Value := (l.map vi).toArray

/-- What of memory a decoder may turn. -/
def Ids.own (I : Ids) (k : Nat) : Prop := k = I.F ∨ k = I.R ∨ k = I.D ∨ k = I.B ∨ k = I.C
def Imp (I : Ids) (w w' : World) : Prop := Frm I.own w w'
/-- The variables that the code reads. -/
structure GL (E : Errs) (lo : Nat) (w : World) : Prop where
  g0 : w.cell? ⟨0, 0, none⟩ = some E.eofV
  g1 : w.cell? ⟨1, 0, none⟩ = some E.uneV
  g2 : ∀ j, j < 19 → w.cell? ⟨2, j, none⟩ = some (vi (orderL.getD j 0))
  beof : ∃ c t, w.heap[E.eof.block]? = some (.cells c t (0, 0))
  bune : ∃ c t, w.heap[E.une.block]? = some (.cells c t (0, 0))
  ne : E.eof ≠ E.une
  lo4 : 4 ≤ lo
  leof : E.eof.block < lo
  lune : E.une.block < lo
structure Ids.ok (I : Ids) : Prop where
  lF : I.lo ≤ I.F
  lR : I.lo ≤ I.R
  lD : I.lo ≤ I.D
  lB : I.lo ≤ I.B
  lC : I.lo ≤ I.C
  FR : I.F ≠ I.R
  FD : I.F ≠ I.D
  FB : I.F ≠ I.B
  FCC : I.F ≠ I.C
  RD : I.R ≠ I.D
  RB : I.R ≠ I.B
  RC : I.R ≠ I.C
  DB : I.D ≠ I.B
  DC : I.D ≠ I.C
  BC : I.B ≠ I.C

/-- A decoder lies in memory. -/
structure Dec (I : Ids) (E : Errs) (src : List Nat) (srcV : Value) (w : World) (cs : Array Value) (s : DS) : Prop where
  bF : w.heap[I.F]? = some (.cells cs 63 (0, 0))
  fc : FC cs I s
  bR : ∃ pr, w.heap[I.R]? = some (.cells #[srcV, .int .i64 s.k, pr] 43 (0, 0))
  bD : w.heap[I.D]? = some (.cells (bytesA s.hist) 5 (0, 0))
  bB : w.heap[I.B]? = some (.cells (intsA s.bits) 65 (0, 0))
  bC : w.heap[I.C]? = some (.cells (intsA s.cb) 66 (0, 0))
  bS : Rd w srcV src
  notOwn : ∀ b off n c, srcV = .slice (some ⟨b, off, none⟩) n c → ¬ I.own b
  gl : GL E I.lo w
  ok : I.ok
  lk1 : LinksAt w s.l1 s.h1.links
  lk2 : LinksAt w s.l2 s.h2.links
  tx : ∀ X, s.hl = .pointer (some ⟨X, 0, none⟩) → ∃ c lv, w.heap[X]? = some (.cells c 54 (0, 0)) ∧ HDC c 0 s.hx lv ∧ LinksAt w lv s.hx.links
  hlen : s.hist.length = 32768
  blen : s.bits.length = 316
  clen : s.cb.length = 19
  kle : s.k ≤ src.length
  small : src.length ≤ 100000
  bytes : ∀ x ∈ src, x < 256
  b32 : s.b < 2 ^ 32
  nb32 : s.nb ≤ 32
  ro : s.ro ≤ s.k
  wr : s.wr ≤ 32768
  rd : s.rd ≤ 32768
  dlen : s.len ≤ 65535
  ddist : s.dist ≤ 32768

section
variable {I : Ids} {E : Errs} {src : List Nat} {srcV : Value} {w w' : World} {cs cs' : Array Value} {s : DS}
theorem Dec.cell (h : Dec I E src srcV w cs s) (i : Nat) : w.cell? ⟨I.F, i, none⟩ = cs[i]? := by simp [World.cell?, h.bF]
theorem Dec.fz (h : Dec I E src srcV w cs s) (i : Nat) : w.frozen? ⟨I.F, i, none⟩ = false := frozen_of_row w I.F i _ _ h.bF

theorem Dec.c_ro (h : Dec I E src srcV w cs s) : w.cell? ⟨I.F, 2, none⟩ = some (.int .i64 s.ro) := (h.cell 2).trans h.fc.ro
theorem Dec.c_b (h : Dec I E src srcV w cs s) : w.cell? ⟨I.F, 3, none⟩ = some (.int .u32 s.b) := (h.cell 3).trans h.fc.b
theorem Dec.c_nb (h : Dec I E src srcV w cs s) : w.cell? ⟨I.F, 4, none⟩ = some (.int .u64 s.nb) := (h.cell 4).trans h.fc.nb
theorem Dec.c_wr (h : Dec I E src srcV w cs s) : w.cell? ⟨I.F, 1038, none⟩ = some (.int .i64 s.wr) := (h.cell 1038).trans h.fc.wr
theorem Dec.c_rd (h : Dec I E src srcV w cs s) : w.cell? ⟨I.F, 1039, none⟩ = some (.int .i64 s.rd) := (h.cell 1039).trans h.fc.rd
theorem Dec.c_full (h : Dec I E src srcV w cs s) : w.cell? ⟨I.F, 1040, none⟩ = some (.bool s.full) := (h.cell 1040).trans h.fc.full
theorem Dec.c_step (h : Dec I E src srcV w cs s) : w.cell? ⟨I.F, 1045, none⟩ = some (s.step) := (h.cell 1045).trans h.fc.step
theorem Dec.c_st (h : Dec I E src srcV w cs s) : w.cell? ⟨I.F, 1046, none⟩ = some (.int .i64 s.st) := (h.cell 1046).trans h.fc.st
theorem Dec.c_final (h : Dec I E src srcV w cs s) : w.cell? ⟨I.F, 1047, none⟩ = some (.bool s.final) := (h.cell 1047).trans h.fc.final
theorem Dec.c_err (h : Dec I E src srcV w cs s) : w.cell? ⟨I.F, 1048, none⟩ = some (s.err) := (h.cell 1048).trans h.fc.err
theorem Dec.c_tr (h : Dec I E src srcV w cs s) : w.cell? ⟨I.F, 1049, none⟩ = some (s.tr) := (h.cell 1049).trans h.fc.tr
theorem Dec.c_hl (h : Dec I E src srcV w cs s) : w.cell? ⟨I.F, 1050, none⟩ = some (s.hl) := (h.cell 1050).trans h.fc.hl
theorem Dec.c_hd (h : Dec I E src srcV w cs s) : w.cell? ⟨I.F, 1051, none⟩ = some (s.hd) := (h.cell 1051).trans h.fc.hd
theorem Dec.c_len (h : Dec I E src srcV w cs s) : w.cell? ⟨I.F, 1052, none⟩ = some (.int .i64 s.len) := (h.cell 1052).trans h.fc.len
theorem Dec.c_dist (h : Dec I E src srcV w cs s) : w.cell? ⟨I.F, 1053, none⟩ = some (.int .i64 s.dist) := (h.cell 1053).trans h.fc.dist
theorem Dec.c_r (h : Dec I E src srcV w cs s) : w.cell? ⟨I.F, 0, none⟩ = some (.iface 29 (.pointer (some ⟨I.R, 0, none⟩))) := (h.cell 0).trans h.fc.r
theorem Dec.c_pb (h : Dec I E src srcV w cs s) : w.cell? ⟨I.F, 1035, none⟩ = some (.pointer (some ⟨I.B, 0, none⟩)) := (h.cell 1035).trans h.fc.pb
theorem Dec.c_pc (h : Dec I E src srcV w cs s) : w.cell? ⟨I.F, 1036, none⟩ = some (.pointer (some ⟨I.C, 0, none⟩)) := (h.cell 1036).trans h.fc.pc
theorem Dec.c_hist (h : Dec I E src srcV w cs s) : w.cell? ⟨I.F, 1037, none⟩ = some (.slice (some ⟨I.D, 0, none⟩) 32768 32768) := (h.cell 1037).trans h.fc.hist

theorem LinksAt.frm {S : Nat → Prop} {lv : Value} {links : List (List Nat)} (h : LinksAt w lv links) (hf : Frm S w w') (hs : ∀ k c t, S k → w.heap[k]? = some (.cells c t (0, 0)) → t ≠ 115 ∧ t ≠ 49) : LinksAt w' lv links := by
  rcases h with h | ⟨L, cap, c, h1, h2, h3⟩
  · exact .inl h
  · refine .inr ⟨L, cap, c, h1, ?_, fun i hi => ?_⟩
    · rw [hf.block L (lt_of_block h2) (fun hS => (hs L c 115 hS h2).1 rfl)]; exact h2
    · obtain ⟨Li, cap', ds, q1, q2, q3⟩ := h3 i hi
      refine ⟨Li, cap', ds, q1, ?_, q3⟩
      rw [hf.block Li (lt_of_block q2) (fun hS => (hs Li ds 49 hS q2).2 rfl)]; exact q2

theorem GL.frm {S : Nat → Prop} {lo : Nat} (h : GL E lo w) (hf : Frm S w w') (hs : ∀ k, S k → lo ≤ k) : GL E lo w' := by
  have hlt : ∀ k, w.heap[k]? ≠ none → k < w.heap.size := by
    intro k hk; rcases Nat.lt_or_ge k w.heap.size with h | h
    · exact h
    · exact absurd (Array.getElem?_eq_none h) hk
  have hb : ∀ k, k < lo → w.heap[k]? ≠ none → w'.heap[k]? = w.heap[k]? := fun k hk hn => hf.block k (hlt k hn) fun hS => by have := hs k hS; omega
  have hc : ∀ k j v, k < lo → w.cell? ⟨k, j, none⟩ = some v → w'.cell? ⟨k, j, none⟩ = some v := by
    intro k j v hk hv
    have hn : w.heap[k]? ≠ none := by intro hn; simp [World.cell?, hn] at hv
    exact (World.cell?_of_block (hb k hk hn)).trans hv
  have hl := h.lo4
  refine ⟨hc 0 0 _ (by omega) h.g0, hc 1 0 _ (by omega) h.g1, fun j hj => hc 2 j _ (by omega) (h.g2 j hj), ?_, ?_, h.ne, h.lo4, h.leof, h.lune⟩
  · obtain ⟨c, t, q⟩ := h.beof; exact ⟨c, t, by rw [hb _ h.leof (by rw [q]; simp)]; exact q⟩
  · obtain ⟨c, t, q⟩ := h.bune; exact ⟨c, t, by rw [hb _ h.lune (by rw [q]; simp)]; exact q⟩

theorem Dec.types (h : Dec I E src srcV w cs s) : ∀ k c t, I.own k → w.heap[k]? = some (.cells c t (0, 0)) → t ≠ 115 ∧ t ≠ 49 ∧ t ≠ 54 := by
  intro k c t hk hc
  obtain ⟨pr, hR⟩ := h.bR
  rcases hk with rfl | rfl | rfl | rfl | rfl
  · rw [h.bF] at hc; cases hc; decide
  · rw [hR] at hc; cases hc; decide
  · rw [h.bD] at hc; cases hc; decide
  · rw [h.bB] at hc; cases hc; decide
  · rw [h.bC] at hc; cases hc; decide
theorem Dec.lows (h : Dec I E src srcV w cs s) : ∀ k, I.own k → I.lo ≤ k := by
  intro k hk
  rcases hk with rfl | rfl | rfl | rfl | rfl
  · exact h.ok.lF
  · exact h.ok.lR
  · exact h.ok.lD
  · exact h.ok.lB
  · exact h.ok.lC
/-- The parts that none of the decoder's own stores touch. -/
theorem Dec.links (h : Dec I E src srcV w cs s) (hf : Imp I w w') {lv : Value} {l : List (List Nat)} (hl : LinksAt w lv l) : LinksAt w' lv l :=
  hl.frm hf fun k c t hk hc => ⟨(h.types k c t hk hc).1, (h.types k c t hk hc).2.1⟩
theorem Dec.srcs (h : Dec I E src srcV w cs s) (hf : Imp I w w') : Rd w' srcV src := h.bS.frm hf fun b off n c e => h.notOwn b off n c e
theorem Dec.txs (h : Dec I E src srcV w cs s) (hf : Imp I w w') : ∀ X, s.hl = .pointer (some ⟨X, 0, none⟩) → ∃ c lv, w'.heap[X]? = some (.cells c 54 (0, 0)) ∧ HDC c 0 s.hx lv ∧ LinksAt w' lv s.hx.links := by
  intro X hX
  obtain ⟨c, lv, h1, h2, h3⟩ := h.tx X hX
  refine ⟨c, lv, ?_, h2, h.links hf h3⟩
  rw [hf.block X (lt_of_block h1) (fun hS => (h.types X c 54 hS h1).2.2 rfl)]; exact h1
theorem Imp.refl (I : Ids) (w : World) : Imp I w w := Frm.refl _ _
theorem Imp.trans {I : Ids} {a b c : World} (h : Imp I a b) (k : Imp I b c) : Imp I a c := Frm.trans h k
theorem Imp.setF (I : Ids) (w : World) (i : Nat) (v : Value) : Imp I w (w.setCell ⟨I.F, i, none⟩ v) := Frm.setCell (Frm.refl _ _) (.inl rfl) v

/-- A store into the decoder's own cells. -/
theorem Dec.setF (h : Dec I E src srcV w cs s) (i : Nat) (v : Value) (s' : DS) (hfc : FC (cs.setIfInBounds i v) I s') (hk : s'.k = s.k) (hh1 : s'.h1 = s.h1) (hl1 : s'.l1 = s.l1) (hh2 : s'.h2 = s.h2) (hl2 : s'.l2 = s.l2)
    (htx : ∀ X, s'.hl = .pointer (some ⟨X, 0, none⟩) → ∃ c lv, (w.setCell ⟨I.F, i, none⟩ v).heap[X]? = some (.cells c 54 (0, 0)) ∧ HDC c 0 s'.hx lv ∧ LinksAt (w.setCell ⟨I.F, i, none⟩ v) lv s'.hx.links)
    (hbits : s'.bits = s.bits) (hcb : s'.cb = s.cb) (hhist : s'.hist = s.hist) (hb : s'.b < 2 ^ 32) (hnb : s'.nb ≤ 32) (hro : s'.ro ≤ s'.k) (hwr : s'.wr ≤ 32768) (hrd : s'.rd ≤ 32768) (hlen : s'.len ≤ 65535) (hdist : s'.dist ≤ 32768) :
    Dec I E src srcV (w.setCell ⟨I.F, i, none⟩ v) (cs.setIfInBounds i v) s' := by
  have hf := Imp.setF I w i v
  have ho : ∀ k, k ≠ I.F → (w.setCell ⟨I.F, i, none⟩ v).heap[k]? = w.heap[k]? := fun k hk => heap_setCell_other _ _ _ _ (fun e => hk e)
  obtain ⟨pr, hR⟩ := h.bR
  have o := h.ok
  refine ⟨heap_setCell_same w I.F i cs 63 v h.bF, hfc, ⟨pr, ?_⟩, ?_, ?_, ?_, h.srcs hf, h.notOwn, h.gl.frm hf h.lows, o, ?_, ?_, htx, by rw [hhist]; exact h.hlen, by rw [hbits]; exact h.blen, by rw [hcb]; exact h.clen, by rw [hk]; exact h.kle, h.small, h.bytes, hb, hnb, hro, hwr, hrd, hlen, hdist⟩
  · rw [ho _ (Ne.symm o.FR), hk]; exact hR
  · rw [ho _ (Ne.symm o.FD), hhist]; exact h.bD
  · rw [ho _ (Ne.symm o.FB), hbits]; exact h.bB
  · rw [ho _ (Ne.symm o.FCC), hcb]; exact h.bC
  · rw [hl1, hh1]; exact h.links hf h.lk1
  · rw [hl2, hh2]; exact h.links hf h.lk2
theorem Dec.drew (h : Dec I E src srcV w cs s) : Dec I E src srcV w.drew cs s :=
  ⟨h.bF, h.fc, h.bR, h.bD, h.bB, h.bC, h.bS, h.notOwn, ⟨h.gl.g0, h.gl.g1, h.gl.g2, h.gl.beof, h.gl.bune, h.gl.ne, h.gl.lo4, h.gl.leof, h.gl.lune⟩, h.ok, h.lk1, h.lk2, h.tx, h.hlen, h.blen, h.clen, h.kle, h.small, h.bytes, h.b32, h.nb32, h.ro, h.wr, h.rd, h.dlen, h.ddist⟩
theorem Dec.drewN (h : Dec I E src srcV w cs s) (n : Nat) : Dec I E src srcV (w.drewN n) cs s :=
  ⟨h.bF, h.fc, h.bR, h.bD, h.bB, h.bC, h.bS, h.notOwn, ⟨h.gl.g0, h.gl.g1, h.gl.g2, h.gl.beof, h.gl.bune, h.gl.ne, h.gl.lo4, h.gl.leof, h.gl.lune⟩, h.ok, h.lk1, h.lk2, h.tx, h.hlen, h.blen, h.clen, h.kle, h.small, h.bytes, h.b32, h.nb32, h.ro, h.wr, h.rd, h.dlen, h.ddist⟩

theorem Dec.set_ro (h : Dec I E src srcV w cs s) (x : Nat) (hx : x ≤ s.k) : Dec I E src srcV (w.setCell ⟨I.F, 2, none⟩ (.int .i64 x)) (cs.setIfInBounds 2 (.int .i64 x)) { s with ro := x } :=
  h.setF 2 (.int .i64 x) _ (h.fc.set_ro x) rfl rfl rfl rfl rfl (h.txs (Imp.setF I w _ _)) rfl rfl rfl h.b32 h.nb32 hx h.wr h.rd h.dlen h.ddist
theorem Dec.set_b (h : Dec I E src srcV w cs s) (x : Nat) (hx : x < 2 ^ 32) : Dec I E src srcV (w.setCell ⟨I.F, 3, none⟩ (.int .u32 x)) (cs.setIfInBounds 3 (.int .u32 x)) { s with b := x } :=
  h.setF 3 (.int .u32 x) _ (h.fc.set_b x) rfl rfl rfl rfl rfl (h.txs (Imp.setF I w _ _)) rfl rfl rfl hx h.nb32 h.ro h.wr h.rd h.dlen h.ddist
theorem Dec.set_nb (h : Dec I E src srcV w cs s) (x : Nat) (hx : x ≤ 32) : Dec I E src srcV (w.setCell ⟨I.F, 4, none⟩ (.int .u64 x)) (cs.setIfInBounds 4 (.int .u64 x)) { s with nb := x } :=
  h.setF 4 (.int .u64 x) _ (h.fc.set_nb x) rfl rfl rfl rfl rfl (h.txs (Imp.setF I w _ _)) rfl rfl rfl h.b32 hx h.ro h.wr h.rd h.dlen h.ddist
theorem Dec.set_wr (h : Dec I E src srcV w cs s) (x : Nat) (hx : x ≤ 32768) : Dec I E src srcV (w.setCell ⟨I.F, 1038, none⟩ (.int .i64 x)) (cs.setIfInBounds 1038 (.int .i64 x)) { s with wr := x } :=
  h.setF 1038 (.int .i64 x) _ (h.fc.set_wr x) rfl rfl rfl rfl rfl (h.txs (Imp.setF I w _ _)) rfl rfl rfl h.b32 h.nb32 h.ro hx h.rd h.dlen h.ddist
theorem Dec.set_rd (h : Dec I E src srcV w cs s) (x : Nat) (hx : x ≤ 32768) : Dec I E src srcV (w.setCell ⟨I.F, 1039, none⟩ (.int .i64 x)) (cs.setIfInBounds 1039 (.int .i64 x)) { s with rd := x } :=
  h.setF 1039 (.int .i64 x) _ (h.fc.set_rd x) rfl rfl rfl rfl rfl (h.txs (Imp.setF I w _ _)) rfl rfl rfl h.b32 h.nb32 h.ro h.wr hx h.dlen h.ddist
theorem Dec.set_full (h : Dec I E src srcV w cs s) (x : Bool)  : Dec I E src srcV (w.setCell ⟨I.F, 1040, none⟩ (.bool x)) (cs.setIfInBounds 1040 (.bool x)) { s with full := x } :=
  h.setF 1040 (.bool x) _ (h.fc.set_full x) rfl rfl rfl rfl rfl (h.txs (Imp.setF I w _ _)) rfl rfl rfl h.b32 h.nb32 h.ro h.wr h.rd h.dlen h.ddist
theorem Dec.set_step (h : Dec I E src srcV w cs s) (x : Value)  : Dec I E src srcV (w.setCell ⟨I.F, 1045, none⟩ (x)) (cs.setIfInBounds 1045 (x)) { s with step := x } :=
  h.setF 1045 (x) _ (h.fc.set_step x) rfl rfl rfl rfl rfl (h.txs (Imp.setF I w _ _)) rfl rfl rfl h.b32 h.nb32 h.ro h.wr h.rd h.dlen h.ddist
theorem Dec.set_st (h : Dec I E src srcV w cs s) (x : Nat)  : Dec I E src srcV (w.setCell ⟨I.F, 1046, none⟩ (.int .i64 x)) (cs.setIfInBounds 1046 (.int .i64 x)) { s with st := x } :=
  h.setF 1046 (.int .i64 x) _ (h.fc.set_st x) rfl rfl rfl rfl rfl (h.txs (Imp.setF I w _ _)) rfl rfl rfl h.b32 h.nb32 h.ro h.wr h.rd h.dlen h.ddist
theorem Dec.set_final (h : Dec I E src srcV w cs s) (x : Bool)  : Dec I E src srcV (w.setCell ⟨I.F, 1047, none⟩ (.bool x)) (cs.setIfInBounds 1047 (.bool x)) { s with final := x } :=
  h.setF 1047 (.bool x) _ (h.fc.set_final x) rfl rfl rfl rfl rfl (h.txs (Imp.setF I w _ _)) rfl rfl rfl h.b32 h.nb32 h.ro h.wr h.rd h.dlen h.ddist
theorem Dec.set_err (h : Dec I E src srcV w cs s) (x : Value)  : Dec I E src srcV (w.setCell ⟨I.F, 1048, none⟩ (x)) (cs.setIfInBounds 1048 (x)) { s with err := x } :=
  h.setF 1048 (x) _ (h.fc.set_err x) rfl rfl rfl rfl rfl (h.txs (Imp.setF I w _ _)) rfl rfl rfl h.b32 h.nb32 h.ro h.wr h.rd h.dlen h.ddist
theorem Dec.set_tr (h : Dec I E src srcV w cs s) (x : Value)  : Dec I E src srcV (w.setCell ⟨I.F, 1049, none⟩ (x)) (cs.setIfInBounds 1049 (x)) { s with tr := x } :=
  h.setF 1049 (x) _ (h.fc.set_tr x) rfl rfl rfl rfl rfl (h.txs (Imp.setF I w _ _)) rfl rfl rfl h.b32 h.nb32 h.ro h.wr h.rd h.dlen h.ddist
theorem Dec.set_hl (h : Dec I E src srcV w cs s) (x : Value) (hx : ∀ X, x = .pointer (some ⟨X, 0, none⟩) → ∃ c lv, w.heap[X]? = some (.cells c 54 (0, 0)) ∧ HDC c 0 s.hx lv ∧ LinksAt w lv s.hx.links) : Dec I E src srcV (w.setCell ⟨I.F, 1050, none⟩ (x)) (cs.setIfInBounds 1050 (x)) { s with hl := x } :=
  h.setF 1050 (x) _ (h.fc.set_hl x) rfl rfl rfl rfl rfl (fun X hX => by obtain ⟨c, lv, h1, h2, h3⟩ := hx X hX; exact ⟨c, lv, by rw [heap_setCell_other _ _ _ _ (fun e => absurd h1 (by rw [show X = I.F from e, h.bF]; intro f; cases f))]; exact h1, h2, h.links (Imp.setF I w _ _) h3⟩) rfl rfl rfl h.b32 h.nb32 h.ro h.wr h.rd h.dlen h.ddist
theorem Dec.set_hd (h : Dec I E src srcV w cs s) (x : Value)  : Dec I E src srcV (w.setCell ⟨I.F, 1051, none⟩ (x)) (cs.setIfInBounds 1051 (x)) { s with hd := x } :=
  h.setF 1051 (x) _ (h.fc.set_hd x) rfl rfl rfl rfl rfl (h.txs (Imp.setF I w _ _)) rfl rfl rfl h.b32 h.nb32 h.ro h.wr h.rd h.dlen h.ddist
theorem Dec.set_len (h : Dec I E src srcV w cs s) (x : Nat) (hx : x ≤ 65535) : Dec I E src srcV (w.setCell ⟨I.F, 1052, none⟩ (.int .i64 x)) (cs.setIfInBounds 1052 (.int .i64 x)) { s with len := x } :=
  h.setF 1052 (.int .i64 x) _ (h.fc.set_len x) rfl rfl rfl rfl rfl (h.txs (Imp.setF I w _ _)) rfl rfl rfl h.b32 h.nb32 h.ro h.wr h.rd hx h.ddist
theorem Dec.set_dist (h : Dec I E src srcV w cs s) (x : Nat) (hx : x ≤ 32768) : Dec I E src srcV (w.setCell ⟨I.F, 1053, none⟩ (.int .i64 x)) (cs.setIfInBounds 1053 (.int .i64 x)) { s with dist := x } :=
  h.setF 1053 (.int .i64 x) _ (h.fc.set_dist x) rfl rfl rfl rfl rfl (h.txs (Imp.setF I w _ _)) rfl rfl rfl h.b32 h.nb32 h.ro h.wr h.rd h.dlen hx
end
end Go.Proofs.YtbbnibbdiiffkaaDoor
