/- Numbers: what Go's operations on bits come to for numbers that are not negative. What memory looks like while the two decoders run, and what it means that a piece of memory is as it was: plain facts on worlds, with no function of the program in sight. The reference's reader of bits: what each small method does to the state. The reference's output: a byte given, and bytes given again from a distance back. The reference's copies from a distance back. -/
import Derived.WalkKit
import Derived.WalkSpells
import Derived.WalkLawsBesides
import Derived.Handy
import Derived.BigQuiet
import Derived.Deep.QuietTactic
import Derived.Deep.DeepCutAuto
import Derived.Deep.CutBlock
import Derived.Deep.DeepFit
import Derived.Lib.Hide
import Derived.StillTailTactics
import Derived.Laws.CopyOwn
import Derived.Deep.RegionLaw
import Derived.Test.YtbbnibbdiiffkaaDoorRows

/- Numbers: what Go's operations on bits come to for numbers that are not negative. -/
namespace Go.Proofs.YtbbnibbdiiffkaaDoor
open Go.RowKit

theorem wrap_i64_id (n : Int) (h0 : 0 ≤ n) (h1 : n < 2 ^ 63) : IntKind.i64.wrap n = n := by rw [IntKind.wrap_i64]; omega
theorem wrap_u32_id (n : Int) (h0 : 0 ≤ n) (h1 : n < 2 ^ 32) : IntKind.u32.wrap n = n := by rw [IntKind.wrap_u32]; omega
theorem wrap_u64_id (n : Int) (h0 : 0 ≤ n) (h1 : n < 2 ^ 64) : IntKind.u64.wrap n = n := by rw [IntKind.wrap_u64]; omega
theorem wrap_u16_id (n : Int) (h0 : 0 ≤ n) (h1 : n < 2 ^ 16) : IntKind.u16.wrap n = n := by rw [IntKind.wrap_u16]; omega
theorem wrap_u8_id (n : Int) (h0 : 0 ≤ n) (h1 : n < 2 ^ 8) : IntKind.u8.wrap n = n := by rw [IntKind.wrap_u8]; omega

theorem and_i64 (a b : Nat) (ha : a < 2 ^ 63) (hb : b < 2 ^ 63) : bits .and .i64 a b = ((a &&& b : Nat) : Int) := (bits_nat .i64 63 (by decide) wrap_i64_id a b ha hb).1
theorem or_i64 (a b : Nat) (ha : a < 2 ^ 63) (hb : b < 2 ^ 63) : bits .or .i64 a b = ((a ||| b : Nat) : Int) := (bits_nat .i64 63 (by decide) wrap_i64_id a b ha hb).2
theorem and_u32 (a b : Nat) (ha : a < 2 ^ 32) (hb : b < 2 ^ 32) : bits .and .u32 a b = ((a &&& b : Nat) : Int) := (bits_nat .u32 32 (by decide) wrap_u32_id a b ha hb).1
theorem or_u32 (a b : Nat) (ha : a < 2 ^ 32) (hb : b < 2 ^ 32) : bits .or .u32 a b = ((a ||| b : Nat) : Int) := (bits_nat .u32 32 (by decide) wrap_u32_id a b ha hb).2
theorem and_u64 (a b : Nat) (ha : a < 2 ^ 64) (hb : b < 2 ^ 64) : bits .and .u64 a b = ((a &&& b : Nat) : Int) := (bits_nat .u64 64 (by decide) wrap_u64_id a b ha hb).1
theorem or_u64 (a b : Nat) (ha : a < 2 ^ 64) (hb : b < 2 ^ 64) : bits .or .u64 a b = ((a ||| b : Nat) : Int) := (bits_nat .u64 64 (by decide) wrap_u64_id a b ha hb).2
theorem and_u16 (a b : Nat) (ha : a < 2 ^ 16) (hb : b < 2 ^ 16) : bits .and .u16 a b = ((a &&& b : Nat) : Int) := (bits_nat .u16 16 (by decide) wrap_u16_id a b ha hb).1
theorem or_u16 (a b : Nat) (ha : a < 2 ^ 16) (hb : b < 2 ^ 16) : bits .or .u16 a b = ((a ||| b : Nat) : Int) := (bits_nat .u16 16 (by decide) wrap_u16_id a b ha hb).2
theorem and_u8 (a b : Nat) (ha : a < 2 ^ 8) (hb : b < 2 ^ 8) : bits .and .u8 a b = ((a &&& b : Nat) : Int) := (bits_nat .u8 8 (by decide) wrap_u8_id a b ha hb).1
/-- A mask of the lowest bits. -/
theorem and_mask (a i : Nat) : a &&& (2 ^ i - 1) = a % 2 ^ i := Nat.and_two_pow_sub_one_eq_mod a i
/-- Numbers that share no bits: 'or' adds them. -/
theorem or_add (a b i : Nat) (hb : b < 2 ^ i) : a * 2 ^ i ||| b = a * 2 ^ i + b := by
  rw [Nat.mul_comm, Nat.two_pow_add_eq_or_of_lt hb]
theorem or_add' (a b i : Nat) (hb : b < 2 ^ i) : b ||| a * 2 ^ i = b + a * 2 ^ i := by
  rw [Nat.or_comm, or_add a b i hb, Nat.add_comm]
theorem wrap64_nat (n : Nat) (h : n < 2 ^ 63) : wrap64 (n : Int) = n := by unfold wrap64; omega
end Go.Proofs.YtbbnibbdiiffkaaDoor

/- What memory looks like while the two decoders run, and what it means that a piece of memory is as it was: plain facts on worlds, with no function of the program in sight. -/
namespace Go.Proofs.YtbbnibbdiiffkaaDoor
open Go.RowKit

/-- A byte as a value. -/
abbrev u8 (n : Nat) : Value := .int .u8 n
/-- An int as a value. -/
abbrev vi (n : Nat) : Value := .int .i64 n

/-- A region whose operations only read but for the last ones, which no order can put elsewhere: one walk in the order of the text. -/
theorem still_tail {P : Program} {id : Nat} {Q : Exit → Act → World → Prop} {a : Act} {w : World} {l : List Oper} (n : Nat) (hm : P.follows .mixedOrders = true) (hB : Region.lexTailB .any l.toArray n = true)
    (h : wpStill P l.toArray w.drew (fun a' => wpList P l.toArray Q (l.drop n) a' w.drew) (l.take n) a) : (Code.region id l.toArray true).wp P Q a w := wp_region_still_tail n hm hB h

/-- Outside of the blocks of S nothing has turned. -/
structure Frm (S : Nat → Prop) (w w' : World) : Prop where
  os : w'.os = w.os
  tape : w'.tape = w.tape
  output : w'.output = w.output
  size : w.heap.size ≤ w'.heap.size
  block : ∀ k, k < w.heap.size → ¬ S k → w'.heap[k]? = w.heap[k]?

theorem Frm.refl (S : Nat → Prop) (w : World) : Frm S w w := ⟨rfl, rfl, rfl, Nat.le_refl _, fun _ _ _ => rfl⟩
theorem Frm.trans {S : Nat → Prop} {a b c : World} (h : Frm S a b) (k : Frm S b c) : Frm S a c :=
  ⟨k.os.trans h.os, k.tape.trans h.tape, k.output.trans h.output, Nat.le_trans h.size k.size,
    fun i hi hs => (k.block i (Nat.lt_of_lt_of_le hi h.size) hs).trans (h.block i hi hs)⟩
theorem Frm.mono {S T : Nat → Prop} {a b : World} (h : Frm S a b) (hST : ∀ k, k < a.heap.size → S k → T k) : Frm T a b :=
  ⟨h.os, h.tape, h.output, h.size, fun k hk hs => h.block k hk fun hS => hs (hST k hk hS)⟩
theorem Frm.drew {S : Nat → Prop} {a w : World} (h : Frm S a w) : Frm S a w.drew := ⟨h.os, h.tape, h.output, h.size, h.block⟩
theorem heap_drewN (w : World) (n : Nat) : (w.drewN n).heap = w.heap := rfl
theorem Frm.drewN {S : Nat → Prop} {a w : World} (h : Frm S a w) (n : Nat) : Frm S a (w.drewN n) := ⟨h.os, h.tape, h.output, h.size, h.block⟩
theorem Frm.alloc {S : Nat → Prop} {a w : World} (h : Frm S a w) (o : Obj) : Frm S a (w.alloc o) :=
  h.trans ⟨rfl, rfl, rfl, by simp, fun k hk _ => Below.heap_alloc _ _ _ hk⟩
theorem Frm.setCell {S : Nat → Prop} {a w : World} (h : Frm S a w) {p : Addr} (hp : S p.block) (u : Value) : Frm S a (w.setCell p u) :=
  h.trans ⟨rfl, rfl, rfl, by simp, fun k _ hk => heap_setCell_other _ _ _ _ (fun e => hk (e ▸ hp))⟩
theorem Frm.setRow {S : Nat → Prop} {a w : World} (h : Frm S a w) {g : Nat} (hp : S g) (cs : Array Value) : Frm S a (w.setRow g cs) :=
  h.trans ⟨rfl, rfl, rfl, by simp, fun k _ hk => setRow_other w g k _ (fun e => hk (e ▸ hp))⟩
theorem Frm.grown {S : Nat → Prop} {a w w' : World} {row : Option Nat} (h : Frm S a w) (hg : w.grownBy w' row) (hr : ∀ k, row = some k → S k) : Frm S a w' :=
  h.trans ⟨hg.os, hg.tape, hg.output, hg.size, fun k hk hs => hg.block k hk fun e => hs (hr k e.symm)⟩
theorem Frm.below {S : Nat → Prop} {a w : World} (h : Frm S a w) {B : Nat} (hB : B ≤ a.heap.size) (hS : ∀ k, k < B → ¬ S k) : Below B a w :=
  ⟨h.os, h.tape, h.output, h.size, fun k hk => h.block k (by omega) (hS k hk)⟩
theorem Frm.cell {S : Nat → Prop} {a w : World} (h : Frm S a w) {p : Addr} (hp : p.block < a.heap.size) (hs : ¬ S p.block) : w.cell? p = a.cell? p :=
  World.cell?_of_block (w := a) (h.block _ hp hs)
theorem Frm.frozen {S : Nat → Prop} {a w : World} (h : Frm S a w) {p : Addr} (hp : p.block < a.heap.size) (hs : ¬ S p.block) : w.frozen? p = a.frozen? p :=
  World.frozen?_of_block (w := a) (h.block _ hp hs)

/-- Blocks that hold bytes. -/
def byteBlock (w : World) (k : Nat) : Prop := ∃ c f, w.heap[k]? = some (.cells c 5 f)

/-- While the reference runs: its state lies in block Z; what it may write is that block, and rows of bytes above it. -/
def Keep (Z : Nat) (w w' : World) : Prop := Frm (fun k => k = Z ∨ (Z < k ∧ byteBlock w k)) w w'

theorem Keep.refl (Z : Nat) (w : World) : Keep Z w w := Frm.refl _ _
theorem Keep.trans {Z : Nat} {a b c : World} (h : Keep Z a b) (k : Keep Z b c) : Keep Z a c := by
  refine ⟨k.os.trans h.os, k.tape.trans h.tape, k.output.trans h.output, Nat.le_trans h.size k.size, fun i hi hs => ?_⟩
  have e := h.block i hi hs
  refine (k.block i (Nat.lt_of_lt_of_le hi h.size) ?_).trans e
  intro hs'
  apply hs
  rcases hs' with hz | ⟨hz, c, f, hc⟩
  · exact .inl hz
  · exact .inr ⟨hz, c, f, e ▸ hc⟩
theorem Keep.size {Z : Nat} {a b : World} (h : Keep Z a b) : a.heap.size ≤ b.heap.size := Frm.size h
theorem Keep.drew {Z : Nat} {a w : World} (h : Keep Z a w) : Keep Z a w.drew := Frm.drew h
theorem Keep.drewN {Z : Nat} {a w : World} (h : Keep Z a w) (n : Nat) : Keep Z a (w.drewN n) := Frm.drewN h n
theorem Keep.alloc {Z : Nat} {a w : World} (h : Keep Z a w) (o : Obj) : Keep Z a (w.alloc o) := Frm.alloc h o
theorem Keep.setCell {Z : Nat} {a w : World} (h : Keep Z a w) (i : Nat) (u : Value) : Keep Z a (w.setCell ⟨Z, i, none⟩ u) := Frm.setCell h (.inl rfl) u
theorem Keep.grown {Z : Nat} {a w w' : World} {row : Option Nat} (h : Keep Z a w) (hg : w.grownBy w' row) (hr : ∀ k, row = some k → Z < k ∧ byteBlock w k) : Keep Z a w' :=
  h.trans (Frm.grown (Frm.refl _ w) hg fun k e => .inr (hr k e))
theorem Keep.below {Z : Nat} {a w : World} (h : Keep Z a w) (hZ : Z ≤ a.heap.size) : Below Z a w :=
  Frm.below h hZ fun k hk hs => by rcases hs with h | ⟨h, _⟩ <;> omega
/-- A block that is not of bytes stays as it was. -/
theorem Keep.other {Z : Nat} {a w : World} (h : Keep Z a w) {k : Nat} {o : Obj} (hk : a.heap[k]? = some o) (hne : k ≠ Z) (ho : ∀ c f, o ≠ .cells c 5 f) : w.heap[k]? = some o := by
  rw [Frm.block h k (lt_of_block hk) ?_]; · exact hk
  rintro (rfl | ⟨_, c, f, hc⟩)
  · exact hne rfl
  · rw [hk] at hc; exact ho c f (Option.some.inj hc)
theorem Keep.under {Z : Nat} {a w : World} (h : Keep Z a w) {k : Nat} (hk : k < Z) (hs : k < a.heap.size) : w.heap[k]? = a.heap[k]? :=
  Frm.block h k hs (by rintro (rfl | ⟨h, _⟩) <;> omega)

/-- A slice of bytes that can be read: its address, if it holds any. -/
def Rd (w : World) (v : Value) (xs : List Nat) : Prop :=
  ∃ a cap, v = .slice a xs.length cap ∧ ∀ j, j < xs.length → ∃ b off, a = some ⟨b, off, none⟩ ∧ b < w.heap.size ∧ w.cell? ⟨b, off + j, none⟩ = some (u8 (xs.getD j 0))

theorem Rd.nonempty {w : World} {v : Value} {xs : List Nat} (h : Rd w v xs) (hne : 0 < xs.length) :
    ∃ b off cap, v = .slice (some ⟨b, off, none⟩) xs.length cap ∧ b < w.heap.size ∧ ∀ j, j < xs.length → w.cell? ⟨b, off + j, none⟩ = some (u8 (xs.getD j 0)) := by
  obtain ⟨a, cap, rfl, h⟩ := h
  obtain ⟨b, off, rfl, hb, _⟩ := h 0 hne
  refine ⟨b, off, cap, rfl, hb, fun j hj => ?_⟩
  obtain ⟨b', off', he, _, hc⟩ := h j hj
  cases he
  exact hc

theorem Rd.frm {S : Nat → Prop} {w w' : World} {v : Value} {xs : List Nat} (h : Rd w v xs) (hf : Frm S w w') (hs : ∀ b off n cap, v = .slice (some ⟨b, off, none⟩) n cap → ¬ S b) : Rd w' v xs := by
  obtain ⟨a, cap, rfl, h⟩ := h
  refine ⟨a, cap, rfl, fun j hj => ?_⟩
  obtain ⟨b, off, rfl, hb, hc⟩ := h j hj
  exact ⟨b, off, rfl, Nat.lt_of_lt_of_le hb hf.size, (hf.cell hb (hs b off _ _ rfl)).trans hc⟩

end Go.Proofs.YtbbnibbdiiffkaaDoor

/- The reference's reader of bits: what each small method does to the state. -/
namespace Go.Proofs.YtbbnibbdiiffkaaDoor
open Go.RowKit

/-- The reference's state in block Z, with its three slices as values. -/
structure SAt (Z : Nat) (src dict : List Nat) (srcV dictV outV : Value) (w : World) (p : Nat) (out : List Nat) (e : Int) : Prop where
  blk : w.heap[Z]? = some (.cells #[srcV, vi p, dictV, outV, .int .i64 e] 71 (0, 0))
  rs : Rd w srcV src
  rd : Rd w dictV dict
  us : ∀ b off n cap, srcV = .slice (some ⟨b, off, none⟩) n cap → b < Z
  ud : ∀ b off n cap, dictV = .slice (some ⟨b, off, none⟩) n cap → b < Z
  own : w.ownsRow (Z + 1) 5 1 outV out.length (out.map u8)
  pos : p ≤ 8 * src.length
  small : src.length ≤ 100000
  dsmall : dict.length ≤ 32768
  osmall : out.length ≤ 131072
  bytes : ∀ x ∈ src, x < 256
  dbytes : ∀ x ∈ dict, x < 256
  lo : -1 ≤ e
  hi : e ≤ 4

/-- The reference's state in block Z: the source, the position in bits, the dictionary, what was given, and what ended it. -/
def SOK (Z : Nat) (src dict : List Nat) (w : World) (p : Nat) (out : List Nat) (e : Int) : Prop := ∃ srcV dictV outV, SAt Z src dict srcV dictV outV w p out e

section
variable {Z : Nat} {src dict : List Nat} {srcV dictV outV : Value} {w w' : World} {p : Nat} {out : List Nat} {e : Int}

theorem SAt.c0 (h : SAt Z src dict srcV dictV outV w p out e) : w.cell? ⟨Z, 0, none⟩ = some srcV := by simp [World.cell?, h.blk]
theorem SAt.c1 (h : SAt Z src dict srcV dictV outV w p out e) : w.cell? ⟨Z, 1, none⟩ = some (vi p) := by simp [World.cell?, h.blk]
theorem SAt.c2 (h : SAt Z src dict srcV dictV outV w p out e) : w.cell? ⟨Z, 2, none⟩ = some dictV := by simp [World.cell?, h.blk]
theorem SAt.c3 (h : SAt Z src dict srcV dictV outV w p out e) : w.cell? ⟨Z, 3, none⟩ = some outV := by simp [World.cell?, h.blk]
theorem SAt.c4 (h : SAt Z src dict srcV dictV outV w p out e) : w.cell? ⟨Z, 4, none⟩ = some (.int .i64 e) := by simp [World.cell?, h.blk]
theorem SAt.fz (h : SAt Z src dict srcV dictV outV w p out e) (i : Nat) : w.frozen? ⟨Z, i, none⟩ = false := frozen_of_row w Z i _ _ h.blk
theorem SAt.lt (h : SAt Z src dict srcV dictV outV w p out e) : Z < w.heap.size := lt_of_block h.blk

/-- A world in which the state's block is laid anew, and the rest kept. -/
theorem SAt.again (h : SAt Z src dict srcV dictV outV w p out e) (hk : Keep Z w w') {p' : Nat} {out' : List Nat} {e' : Int} {outV' : Value}
    (hb : w'.heap[Z]? = some (.cells #[srcV, vi p', dictV, outV', .int .i64 e'] 71 (0, 0))) (ho : w'.ownsRow (Z + 1) 5 1 outV' out'.length (out'.map u8))
    (hp : p' ≤ 8 * src.length) (hos : out'.length ≤ 131072) (hlo : -1 ≤ e') (hhi : e' ≤ 4) : SAt Z src dict srcV dictV outV' w' p' out' e' :=
  ⟨hb, h.rs.frm hk (fun b off n cap hv => by have := h.us b off n cap hv; rintro (rfl | ⟨h, _⟩) <;> omega),
    h.rd.frm hk (fun b off n cap hv => by have := h.ud b off n cap hv; rintro (rfl | ⟨h, _⟩) <;> omega),
    h.us, h.ud, ho, hp, h.small, h.dsmall, hos, h.bytes, h.dbytes, hlo, hhi⟩

theorem heapZ_set {cs : Array Value} {t : TypeId} (hb : w.heap[Z]? = some (.cells cs t (0, 0))) (i : Nat) (v : Value) :
    (w.setCell ⟨Z, i, none⟩ v).heap[Z]? = some (.cells (cs.setIfInBounds i v) t (0, 0)) := heap_setCell_same w Z i cs t v hb

theorem SAt.ne (h : SAt Z src dict srcV dictV outV w p out e) : ∀ k, outV.ownBlock = some k → Z < k ∧ byteBlock w k := by
  intro k hk
  rcases h.own.2 with ⟨rfl, _⟩ | ⟨g, cap, cur, rfl, hg, hh, _⟩
  · simp [Value.ownBlock] at hk
  · simp [Value.ownBlock] at hk; subst hk; exact ⟨hg, cur, _, hh⟩

theorem SAt.own_set (h : SAt Z src dict srcV dictV outV w p out e) (i : Nat) (v : Value) : (w.setCell ⟨Z, i, none⟩ v).ownsRow (Z + 1) 5 1 outV out.length (out.map u8) :=
  ownsRow_setCell_below h.own (Nat.lt_succ_self Z) v

theorem SAt.set_e (h : SAt Z src dict srcV dictV outV w p out e) (e' : Int) (h1 : -1 ≤ e') (h2 : e' ≤ 4) :
    SAt Z src dict srcV dictV outV (w.setCell ⟨Z, 4, none⟩ (.int .i64 e')) p out e' :=
  h.again (.setCell (.refl _ _) _ _) (by rw [heapZ_set h.blk]; simp) (h.own_set _ _) h.pos h.osmall h1 h2
theorem SAt.set_p (h : SAt Z src dict srcV dictV outV w p out e) (p' : Nat) (h1 : p' ≤ 8 * src.length) :
    SAt Z src dict srcV dictV outV (w.setCell ⟨Z, 1, none⟩ (vi p')) p' out e :=
  h.again (.setCell (.refl _ _) _ _) (by rw [heapZ_set h.blk]; simp) (h.own_set _ _) h1 h.osmall h.lo h.hi
theorem SAt.drew (h : SAt Z src dict srcV dictV outV w p out e) : SAt Z src dict srcV dictV outV w.drew p out e :=
  ⟨h.blk, h.rs, h.rd, h.us, h.ud, h.own, h.pos, h.small, h.dsmall, h.osmall, h.bytes, h.dbytes, h.lo, h.hi⟩
theorem SAt.drewN (h : SAt Z src dict srcV dictV outV w p out e) (n : Nat) : SAt Z src dict srcV dictV outV (w.drewN n) p out e :=
  ⟨h.blk, h.rs, h.rd, h.us, h.ud, h.own, h.pos, h.small, h.dsmall, h.osmall, h.bytes, h.dbytes, h.lo, h.hi⟩
end

theorem ret_int {k : IntKind} {a b : Int} (h : a = b) : Ending.returned (.int k a) = .returned (.int k b) := by rw [h]

/-- What the reading of the reference's bits does: the bit, the position behind it, and what ended it. -/
def bitP (src : List Nat) (p : Nat) (e : Int) : Nat := if e < 0 ∧ p / 8 < src.length then p + 1 else p
def bitV (src : List Nat) (p : Nat) : Nat := src.getD (p / 8) 0 / 2 ^ (p % 8) % 2
def bitR (src : List Nat) (p : Nat) (e : Int) : Nat := if e < 0 ∧ p / 8 < src.length then bitV src p else 0
def bitE (src : List Nat) (p : Nat) (e : Int) : Int := if e < 0 ∧ src.length ≤ p / 8 then 3 else e

def stopE (e k : Int) : Int := if e < 0 then k else e

section
variable {Z : Nat} {src dict : List Nat} {w : World} {p : Nat} {out : List Nat} {e : Int}

set_option maxHeartbeats 400000 in
theorem on_any (h : SOK Z src dict w p out e) :
    Calls Tryd.prog 16 #[.pointer (some ⟨Z, 0, none⟩)] w fun r w' => r = .returned (.bool (decide (e < 0))) ∧ w = w' := by
  obtain ⟨srcV, dictV, outV, h⟩ := h
  have c4 := h.c4
  clear h
  go_enter Tryd.func16, Tryd.ntmps16
  go_wp2
  go_ret
  exact ⟨rfl, rfl⟩

theorem on_yes (h : SOK Z src dict w p out e) (he : e < 0) :
    Calls Tryd.prog 16 #[.pointer (some ⟨Z, 0, none⟩)] w fun r w' => r = .returned (.bool true) ∧ w = w' :=
  (on_any h).mono fun _ _ ⟨h1, h2⟩ => ⟨by rw [h1, decide_eq_true he], h2⟩
theorem on_no (h : SOK Z src dict w p out e) (he : ¬ e < 0) :
    Calls Tryd.prog 16 #[.pointer (some ⟨Z, 0, none⟩)] w fun r w' => r = .returned (.bool false) ∧ w = w' :=
  (on_any h).mono fun _ _ ⟨h1, h2⟩ => ⟨by rw [h1, decide_eq_false he], h2⟩

set_option maxHeartbeats 400000 in
theorem stop_any (hS : SOK Z src dict w p out e) (k : Int) (h1 : 0 ≤ k) (h2 : k ≤ 4) :
    Calls Tryd.prog 18 #[.pointer (some ⟨Z, 0, none⟩), .int .i64 k] w fun r w' => r = .returned (.tuple #[]) ∧ SOK Z src dict w' p out (stopE e k) ∧ Keep Z w w' := by
  obtain ⟨srcV, dictV, outV, hS⟩ := hS
  have c4 := hS.c4
  have f4 := hS.fz 4
  have hs := hS.set_e k (by omega) h2
  by_cases he : e < 0
  · have hE : stopE e k = k := if_pos he
    rw [hE]; clear hE
    go_enter Tryd.func18, Tryd.ntmps18
    go_wp2
    go_end0
    exact ⟨rfl, ⟨_, _, _, hs⟩, (Keep.refl _ _).setCell _ _⟩
  · have hE : stopE e k = e := if_neg he
    rw [hE]; clear hE
    go_enter Tryd.func18, Tryd.ntmps18
    go_wp2
    go_end0
    exact ⟨rfl, ⟨_, _, _, hS⟩, Keep.refl _ _⟩

theorem bitV_and (x k : Nat) (hx : x < 256) : bits .and .i64 ((x : Int) / 2 ^ k) 1 = ((x / 2 ^ k % 2 : Nat) : Int) := by
  have h : x / 2 ^ k < 2 ^ 63 := Nat.lt_of_le_of_lt (Nat.div_le_self _ _) (by omega)
  have e : ((x : Int) / 2 ^ k) = ((x / 2 ^ k : Nat) : Int) := by simp
  have := and_i64 (x / 2 ^ k) 1 h (by decide)
  rw [e]
  have h2 := and_mask (x / 2 ^ k) 1
  simp only [Nat.reducePow, Nat.reduceSub] at h2
  rw [h2] at this
  exact this

set_option maxHeartbeats 400000 in
theorem bit_any (hS : SOK Z src dict w p out e) :
    Calls Tryd.prog 26 #[.pointer (some ⟨Z, 0, none⟩)] w fun r w' => r = .returned (vi (bitR src p e)) ∧ SOK Z src dict w' (bitP src p e) out (bitE src p e) ∧ Keep Z w w' := by
  have hs0 := hS
  obtain ⟨srcV, dictV, outV, hS⟩ := hS
  have hsm := hS.small
  have hpos := hS.pos
  by_cases he : e < 0
  · by_cases hp : p / 8 < src.length
    · obtain ⟨b, off, cap, rfl, hb, hc⟩ := hS.rs.nonempty (by omega)
      have c0 := hS.c0
      have c1 := hS.c1
      have f1 := hS.fz 1
      have hcx := hc (p / 8) hp
      have hE : bitR src p e = bitV src p ∧ bitP src p e = p + 1 ∧ bitE src p e = e := by
        unfold bitR bitP bitE; rw [if_pos ⟨he, hp⟩, if_pos ⟨he, hp⟩, if_neg (by omega)]; exact ⟨rfl, rfl, rfl⟩
      rw [hE.1, hE.2.1, hE.2.2]; clear hE hc
      have hs1 := hS.set_p (p + 1) (by omega)
      have hx : src.getD (p / 8) 0 < 256 := by
        rw [List.getD_eq_getElem?_getD, List.getElem?_eq_getElem hp]; exact hS.bytes _ (List.getElem_mem hp)
      have hfin := bitV_and (src.getD (p / 8) 0) (p % 8) hx
      have HV : Hid (bitV src p = src.getD (p / 8) 0 / 2 ^ (p % 8) % 2) := Lib.hid rfl
      generalize src.getD (p / 8) 0 = x at hcx hx hfin HV
      have HF := Lib.hid hfin; clear hfin
      go_enter Tryd.func26, Tryd.ntmps26
      go_wp2_with (go_at_call 16; refine (on_yes hs0 he).mono ?_; rintro r w1 ⟨rfl, rfl⟩)
      go_quiet (fail)
      go_wp2
      go_quiet (fail)
      go_wp2
      go_ret
      exact ⟨ret_int (by rw [HV.out]; exact HF.out), ⟨_, _, _, hs1.drewN _⟩, ((Keep.refl _ _).drewN _).setCell _ _⟩
    · obtain ⟨a, cap, rfl, -⟩ := hS.rs
      have c0 := hS.c0
      have c1 := hS.c1
      have hE : bitR src p e = 0 ∧ bitP src p e = p ∧ bitE src p e = stopE e 3 := by
        unfold bitR bitP bitE stopE; rw [if_neg (by omega), if_neg (by omega), if_pos ⟨he, by omega⟩, if_pos he]; exact ⟨rfl, rfl, rfl⟩
      rw [hE.1, hE.2.1, hE.2.2]; clear hE
      go_enter Tryd.func26, Tryd.ntmps26
      go_wp2_with (go_at_call 16; refine (on_yes hs0 he).mono ?_; rintro r w1 ⟨rfl, rfl⟩)
      go_quiet (fail)
      go_wp2_with (go_at_call 18; refine (stop_any ⟨_, _, _, hS.drewN _⟩ 3 (by omega) (by omega)).mono ?_; rintro r w1 ⟨rfl, hs1, hk1⟩)
      go_ret
      exact ⟨rfl, hs1, ((Keep.refl _ _).drewN _).trans hk1⟩
  · have hE : bitR src p e = 0 ∧ bitP src p e = p ∧ bitE src p e = e := by
      unfold bitR bitP bitE; rw [if_neg (by omega), if_neg (by omega), if_neg (by omega)]; exact ⟨rfl, rfl, rfl⟩
    rw [hE.1, hE.2.1, hE.2.2]; clear hE
    go_enter Tryd.func26, Tryd.ntmps26
    go_wp2_with (go_at_call 16; refine (on_no hs0 he).mono ?_; rintro r w1 ⟨rfl, rfl⟩)
    go_ret
    exact ⟨rfl, hs0, Keep.refl _ _⟩

/-- The number, the position and the end behind k bits. -/
def bitsAt (src : List Nat) (p : Nat) (e : Int) : Nat → Nat × Nat × Int
  | 0 => (0, p, e)
  | k + 1 => ((bitsAt src p e k).1 + bitR src (bitsAt src p e k).2.1 (bitsAt src p e k).2.2 * 2 ^ k,
      bitP src (bitsAt src p e k).2.1 (bitsAt src p e k).2.2, bitE src (bitsAt src p e k).2.1 (bitsAt src p e k).2.2)

theorem bitR_lt (src : List Nat) (p : Nat) (e : Int) : bitR src p e < 2 := by
  unfold bitR bitV; split <;> omega

theorem bitsAt_lt (src : List Nat) (p : Nat) (e : Int) (k : Nat) : (bitsAt src p e k).1 < 2 ^ k := by
  induction k with
  | zero => simp [bitsAt]
  | succ k ih =>
    have := bitR_lt src (bitsAt src p e k).2.1 (bitsAt src p e k).2.2
    have h2 : bitR src (bitsAt src p e k).2.1 (bitsAt src p e k).2.2 * 2 ^ k ≤ 1 * 2 ^ k := Nat.mul_le_mul_right _ (by omega)
    simp only [bitsAt, Nat.pow_succ]; omega

theorem shl_or (v b k : Nat) (hk : k ≤ 16) (hv : v < 2 ^ k) (hb : b < 2) : bits .or .i64 (v : Int) (wrap64 ((b : Int) * 2 ^ k)) = ((v + b * 2 ^ k : Nat) : Int) := by
  have hp : 2 ^ k ≤ 2 ^ 16 := Nat.pow_le_pow_right (by decide) hk
  have h2 : b * 2 ^ k ≤ 1 * 2 ^ k := Nat.mul_le_mul_right _ (by omega)
  have e : ((b : Int) * 2 ^ k) = ((b * 2 ^ k : Nat) : Int) := by simp
  rw [e, wrap64_nat _ (by omega), or_i64 v (b * 2 ^ k) (by omega) (by omega), or_add' b v k hv]

set_option maxHeartbeats 400000 in
theorem bits_any (hS : SOK Z src dict w p out e) (n : Nat) (hn : n ≤ 16) :
    Calls Tryd.prog 27 #[.pointer (some ⟨Z, 0, none⟩), .int .i64 (n : Int)] w fun r w' => r = .returned (vi (bitsAt src p e n).1) ∧
      SOK Z src dict w' (bitsAt src p e n).2.1 out (bitsAt src p e n).2.2 ∧ Keep Z w w' := by
  go_enter Tryd.func27, Tryd.ntmps27
  go_wp2
  go_loopw [5, 8] (fun v i wr => ∃ k : Nat, k ≤ n ∧ i = .int .i64 k ∧ v = vi (bitsAt src p e k).1 ∧ SOK Z src dict wr (bitsAt src p e k).2.1 out (bitsAt src p e k).2.2 ∧ Keep Z w wr)
    (fun _ i _ => n - (intOf i).toNat)
  case atStart => exact ⟨0, Nat.zero_le _, rfl, rfl, hS, Keep.refl _ _⟩
  case round =>
    obtain ⟨k, hk, rfl, rfl, hSk, hKk⟩ := hrel
    by_cases hlt : k < n
    · have hb := bitR_lt src (bitsAt src p e k).2.1 (bitsAt src p e k).2.2
      have HO := Lib.hid (shl_or (bitsAt src p e k).1 (bitR src (bitsAt src p e k).2.1 (bitsAt src p e k).2.2) k (by omega) (bitsAt_lt _ _ _ _) hb)
      go_wp2_with (go_at_call 26; refine (bit_any hSk).mono ?_; rintro r w1 ⟨rfl, hS1, hK1⟩)
      go_roundw
      case rel => exact ⟨k + 1, hlt, rfl, congrArg (Value.int .i64) HO.out, hS1, hKk.trans hK1⟩
      case measure => simp [intOf]; omega
    · obtain rfl : k = n := by omega
      go_wp2
      go_ret
      exact ⟨rfl, hSk, hKk⟩

end
end Go.Proofs.YtbbnibbdiiffkaaDoor

/- The reference's output: a byte given, and bytes given again from a distance back. -/
namespace Go.Proofs.YtbbnibbdiiffkaaDoor
open Go.RowKit

theorem info5 : (Tryd.prog.info? 5).map (fun i => (i.zero, i.size, i.bytes)) = some (some (.int .u8 0), 1, 1) := by kernel_rfl
theorem info3 : (Tryd.prog.info? 3).map (fun i => (i.zero, i.size, i.bytes)) = some (some (.int .i64 0), 1, 8) := by kernel_rfl

def giveO (out : List Nat) (e : Int) (b : Nat) : List Nat := if e < 0 ∧ out.length < 131072 then out ++ [b] else out
def giveE (out : List Nat) (e : Int) : Int := if e < 0 ∧ 131072 ≤ out.length then 4 else e

section
variable {Z : Nat} {src dict : List Nat} {srcV dictV outV : Value} {w : World} {p : Nat} {out : List Nat} {e : Int}
theorem own_shape {w : World} {base : Nat} {t : TypeId} {sz n : Nat} {v : Value} {xs : List Value} (h : w.ownsRow base t sz v n xs) : ∃ a cap, v = .slice a n cap := by
  rcases h.2 with ⟨h1, h2⟩ | ⟨g, cap, cur, h1, _⟩
  · exact ⟨none, 0, by rw [h1, h2]⟩
  · exact ⟨_, cap, h1⟩
theorem SAt.shape (h : SAt Z src dict srcV dictV outV w p out e) : ∃ a cap, outV = .slice a out.length cap := own_shape h.own
theorem SAt.grow (h : SAt Z src dict srcV dictV outV w p out e) {o : Obj} {w1 : World} (hg : (w.alloc o).grownBy w1 outV.ownBlock) :
    w1.heap[Z]? = some (.cells #[srcV, vi p, dictV, outV, .int .i64 e] 71 (0, 0)) ∧ Keep Z w w1 := by
  have hZ := h.lt
  refine ⟨?_, ((Keep.refl _ _).alloc o).grown hg fun k hk => ?_⟩
  · rw [hg.block Z (by simp; omega) (fun e => by have := (h.ne Z e.symm).1; omega), Below.heap_alloc _ _ _ hZ]; exact h.blk
  · obtain ⟨h1, c, f, h2⟩ := h.ne k hk
    exact ⟨h1, c, f, by rw [Below.heap_alloc _ _ _ (lt_of_block h2)]; exact h2⟩
theorem SAt.given (h : SAt Z src dict srcV dictV outV w p out e) {w1 : World} (hb : w1.heap[Z]? = some (.cells #[srcV, vi p, dictV, outV, .int .i64 e] 71 (0, 0))) (hk : Keep Z w w1)
    {v' : Value} {out' : List Nat} (ho : w1.ownsRow (Z + 1) 5 1 v' out'.length (out'.map u8)) (hl : out'.length ≤ 131072) :
    SAt Z src dict srcV dictV v' (w1.setCell ⟨Z, 3, none⟩ v') p out' e :=
  h.again (hk.setCell _ _) (by rw [heapZ_set hb]; simp) (ownsRow_setCell_below ho (Nat.lt_succ_self Z) _) h.pos hl h.lo h.hi
end
section
variable {Z : Nat} {src dict : List Nat} {w : World} {p : Nat} {out : List Nat} {e : Int}

set_option maxRecDepth 2000 in
set_option maxHeartbeats 400000 in
theorem give_any (hS : SOK Z src dict w p out e) (b : Nat) :
    Calls Tryd.prog 47 #[.pointer (some ⟨Z, 0, none⟩), u8 b] w fun r w' => r = .returned (.tuple #[]) ∧ SOK Z src dict w' p (giveO out e b) (giveE out e) ∧ Keep Z w w' := by
  have hs0 := hS
  obtain ⟨srcV, dictV, outV, hS⟩ := hS
  by_cases he : e < 0
  · by_cases hl : out.length < 131072
    · have hE : giveO out e b = out ++ [b] ∧ giveE out e = e := by
        unfold giveO giveE; rw [if_pos ⟨he, hl⟩, if_neg (by omega)]; exact ⟨rfl, rfl⟩
      rw [hE.1, hE.2]; clear hE
      obtain ⟨i0, hi, hz0, hz1, hz2⟩ := info_parts info5
      have hown := hS.own
      have c3 := hS.c3
      have f3 := hS.fz 3
      obtain ⟨a, cap, hoV⟩ := hS.shape
      subst hoV
      have ht : decide ((131072 : Int) ≤ (out.length : Int)) = false := decide_eq_false (by omega)
      clear hl
      go_enter Tryd.func47, Tryd.ntmps47
      go_wp2_with fail
      refine (on_yes hs0 he).mono ?_; rintro r w1 ⟨rfl, rfl⟩
      go_wp2_with (at_builtin; refine wpList_append_own _ rfl _ _ 22 rfl (Z + 1) 5 i0 (.int .u8 0) 1 1 Tryd.underlying22 hi hz0 hz1 hz2 rfl (by decide) _ _ _ rfl (hown.alloc _) ⟨w.heap.size, 0, none⟩ 1 1 [u8 b] rfl rfl ?c1 ?c2 ?c3 ?c4 ?c5 ?_)
      case c1 =>
        intro j u hj
        match j, hj with
        | 0, hj => simp at hj; subst hj; simp [Addr.add]
      case c2 => intro u hu; simp at hu; subst hu; rfl
      case c3 => unfold maxLen; have := of_decide_eq_false ht; omega
      case c4 => have := of_decide_eq_false ht; omega
      case c5 => have := hS.lt; simp; omega
      intro v' w1 hown' hg _
      obtain ⟨a', cap', rfl⟩ := own_shape hown'
      obtain ⟨hbk, hkp⟩ := hS.grow (o := .cells #[u8 b] 5) hg
      have d3 : w1.cell? ⟨Z, 3, none⟩ = some (.slice a out.length cap) := by simp [World.cell?, hbk]
      have g3 : w1.frozen? ⟨Z, 3, none⟩ = false := frozen_of_row w1 Z 3 _ _ hbk
      have hfin := hS.given (out' := out ++ [b]) hbk hkp (by simpa using hown') (by have := of_decide_eq_false ht; simp; omega)
      clear hown' hg hbk
      go_wp2
      go_end0
      exact ⟨rfl, ⟨_, _, _, hfin⟩, hkp.setCell _ _⟩
    · have hE : giveO out e b = out ∧ giveE out e = stopE e 4 := by
        unfold giveO giveE stopE; rw [if_neg (by omega), if_pos ⟨he, by omega⟩, if_pos he]; exact ⟨rfl, rfl⟩
      rw [hE.1, hE.2]; clear hE
      have c3 := hS.c3
      obtain ⟨a, cap, hoV⟩ := hS.shape
      subst hoV
      have ht : decide ((131072 : Int) ≤ (out.length : Int)) = true := decide_eq_true (by omega)
      clear hl
      go_enter Tryd.func47, Tryd.ntmps47
      go_wp2_with (first | (go_at_call 16; refine (on_yes hs0 he).mono ?_; rintro r w1 ⟨rfl, rfl⟩) | (go_at_call 18; refine (stop_any hs0 4 (by omega) (by omega)).mono ?_; rintro r w1 ⟨rfl, hs1, hk1⟩))
      go_returns
      exact ⟨rfl, hs1, hk1⟩
  · have hE : giveO out e b = out ∧ giveE out e = e := by
      unfold giveO giveE; rw [if_neg (by omega), if_neg (by omega)]; exact ⟨rfl, rfl⟩
    rw [hE.1, hE.2]; clear hE
    go_enter Tryd.func47, Tryd.ntmps47
    go_wp2_with (go_at_call 16; refine (on_no hs0 he).mono ?_; rintro r w1 ⟨rfl, rfl⟩)
    go_returns
    exact ⟨rfl, hs0, Keep.refl _ _⟩

end
end Go.Proofs.YtbbnibbdiiffkaaDoor

/- The reference's copies from a distance back. -/
namespace Go.Proofs.YtbbnibbdiiffkaaDoor
open Go.RowKit

/-- The byte that lies so far back. -/
def farByte (dict out : List Nat) (d : Nat) : Nat := if d ≤ out.length then out.getD (out.length - d) 0 else dict.getD (dict.length + out.length - d) 0
/-- So many bytes from a distance back. -/
def farGo (dict : List Nat) (d : Nat) (out : List Nat) (e : Int) : Nat → List Nat × Int
  | 0 => (out, e)
  | n + 1 => (giveO (farGo dict d out e n).1 (farGo dict d out e n).2 (farByte dict (farGo dict d out e n).1 d), giveE (farGo dict d out e n).1 (farGo dict d out e n).2)
def farS (dict out : List Nat) (e : Int) (len d : Nat) : List Nat × Int :=
  if e < 0 then (if 32768 < d ∨ dict.length + out.length < d then (out, 2) else farGo dict d out e len) else (out, e)

theorem giveO_le (out : List Nat) (e : Int) (b : Nat) : out.length ≤ (giveO out e b).length := by unfold giveO; split <;> simp
theorem farGo_le (dict : List Nat) (d : Nat) (out : List Nat) (e : Int) (n : Nat) : out.length ≤ (farGo dict d out e n).1.length := by
  induction n with
  | zero => exact Nat.le_refl _
  | succ n ih => exact Nat.le_trans ih (giveO_le _ _ _)
theorem give_off {out : List Nat} {e : Int} (b : Nat) (h : ¬ e < 0) : giveO out e b = out ∧ giveE out e = e := by
  unfold giveO giveE; rw [if_neg (by omega), if_neg (by omega)]; exact ⟨rfl, rfl⟩
theorem farGo_off {dict : List Nat} {d : Nat} {out : List Nat} {e : Int} {k : Nat} (h : ¬ (farGo dict d out e k).2 < 0) : ∀ n, k ≤ n → farGo dict d out e n = farGo dict d out e k := by
  intro n hn
  obtain ⟨m, rfl⟩ : ∃ m, n = k + m := ⟨n - k, by omega⟩
  clear hn
  induction m with
  | zero => rfl
  | succ m ih =>
    rw [← Nat.add_assoc]
    simp only [farGo]
    have := give_off (out := (farGo dict d out e (k + m)).1) (e := (farGo dict d out e (k + m)).2) (farByte dict (farGo dict d out e (k + m)).1 d) (by rw [ih]; exact h)
    rw [this.1, this.2, ih]

theorem own_cell {w : World} {base n : Nat} {v : Value} {l : List Nat} (h : w.ownsRow base 5 1 v n (l.map u8)) (j : Nat) (hj : j < l.length) :
    ∃ g cap, v = .slice (some ⟨g, 0, none⟩) n cap ∧ w.cell? ⟨g, j, none⟩ = some (u8 (l.getD j 0)) := by
  have hx : (l.map u8)[j]? = some (u8 (l.getD j 0)) := by simp [List.getElem?_eq_getElem hj, List.getD_eq_getElem?_getD]
  rcases h.2 with ⟨rfl, h2⟩ | ⟨g, cap, cur, rfl, _⟩
  · have := h.1; simp [h2] at this; subst this; simp at hj
  · refine ⟨g, cap, rfl, ?_⟩
    have := h.cells (g := g) rfl j _ hx
    have hadd : (⟨g, 0, none⟩ : Addr).add j = ⟨g, j, none⟩ := by unfold Addr.add; split <;> simp_all
    rw [hadd] at this; exact this

section
variable {Z : Nat} {src dict : List Nat} {w : World} {p : Nat} {out : List Nat} {e : Int}

set_option maxRecDepth 100000 in
set_option maxHeartbeats 1000000 in
theorem far_any (hS : SOK Z src dict w p out e) (len d : Nat) (hlen : len ≤ 1000) (hd1 : 1 ≤ d) (hd2 : d ≤ 100000) :
    Calls Tryd.prog 53 #[.pointer (some ⟨Z, 0, none⟩), .int .i64 (len : Int), .int .i64 (d : Int)] w fun r w' => r = .returned (.tuple #[]) ∧
      SOK Z src dict w' p (farS dict out e len d).1 (farS dict out e len d).2 ∧ Keep Z w w' := by
  have hs0 := hS
  obtain ⟨srcV, dictV, outV, hS⟩ := hS
  obtain ⟨da, dcap, rfl, hdc⟩ := hS.rd
  obtain ⟨oa, ocap, rfl⟩ := hS.shape
  have c2 := hS.c2
  have c3 := hS.c3
  by_cases he : e < 0
  · by_cases h1 : 32768 < d
    · have hE : farS dict out e len d = (out, stopE e 2) := by unfold farS stopE; rw [if_pos he, if_pos (.inl h1), if_pos he]
      rw [hE]; clear hE
      have ht : decide ((32768 : Int) < (d : Int)) = true := decide_eq_true (by omega)
      clear h1 hdc hd2
      go_enter Tryd.func53, Tryd.ntmps53
      go_wp2_with (go_at_call 16; refine (on_yes hs0 he).mono ?_; rintro r w1 ⟨rfl, rfl⟩)
      go_quiet (fail)
      go_wp2_with (go_at_call 18; refine (stop_any ⟨_, _, _, hS.drewN _⟩ 2 (by omega) (by omega)).mono ?_; rintro r w1 ⟨rfl, hs1, hk1⟩)
      go_returns
      exact ⟨rfl, hs1, ((Keep.refl _ _).drewN _).trans hk1⟩
    · have ht : decide ((32768 : Int) < (d : Int)) = false := decide_eq_false (by omega)
      by_cases h2 : dict.length + out.length < d
      · have hE : farS dict out e len d = (out, stopE e 2) := by unfold farS stopE; rw [if_pos he, if_pos (.inr h2), if_pos he]
        rw [hE]; clear hE
        have hds := hS.dsmall
        have hos := hS.osmall
        have ht2 : decide ((dict.length : Int) + (out.length : Int) < (d : Int)) = true := decide_eq_true (by omega)
        have hw : wrap64 ((dict.length : Int) + (out.length : Int)) = (dict.length : Int) + (out.length : Int) := by unfold wrap64; omega
        clear h1 h2 hdc hd2 hds hos
        go_enter Tryd.func53, Tryd.ntmps53
        go_wp2_with (go_at_call 16; refine (on_yes hs0 he).mono ?_; rintro r w1 ⟨rfl, rfl⟩)
        go_quiet (fail)
        go_wp2_with (go_at_call 18; refine (stop_any ⟨_, _, _, hS.drewN _⟩ 2 (by omega) (by omega)).mono ?_; rintro r w1 ⟨rfl, hs1, hk1⟩)
        go_returns
        exact ⟨rfl, hs1, ((Keep.refl _ _).drewN _).trans hk1⟩
      · have hE : farS dict out e len d = farGo dict d out e len := by unfold farS; rw [if_pos he, if_neg (by omega)]
        rw [hE]; clear hE
        have hds := hS.dsmall
        have hos := hS.osmall
        have ht2 : decide ((dict.length : Int) + (out.length : Int) < (d : Int)) = false := decide_eq_false (by omega)
        have hw : wrap64 ((dict.length : Int) + (out.length : Int)) = (dict.length : Int) + (out.length : Int) := by unfold wrap64; omega
        have H1 := Lib.hid h1; have H2 := Lib.hid h2; have H3 := Lib.hid hd2; have H4 := Lib.hid hds; have H5 := Lib.hid hos
        clear h1 h2 hd2 hds hos hdc
        go_enter Tryd.func53, Tryd.ntmps53
        go_wp2_with (go_at_call 16; refine (on_yes hs0 he).mono ?_; rintro r w1 ⟨rfl, rfl⟩)
        go_quiet (fail)
        go_wp2
        clear ht ht2 hw c2 c3
        go_loopw [30] (fun i wr => ∃ k : Nat, k ≤ len ∧ i = .int .i64 k ∧ SOK Z src dict wr p (farGo dict d out e k).1 (farGo dict d out e k).2 ∧ (farGo dict d out e k).2 < 0 ∧ Keep Z w wr)
          (fun i _ => len - (intOf i).toNat)
        case atStart => exact ⟨0, Nat.zero_le _, rfl, ⟨_, _, _, hS.drewN _⟩, he, (Keep.refl _ _).drewN _⟩
        case round =>
          obtain ⟨k, hk, rfl, hSk, hon, hKk⟩ := hrel
          by_cases hlt : k < len
          · have hle := farGo_le dict d out e k
            have HN : Hid (farGo dict d out e (k + 1) = (giveO (farGo dict d out e k).1 (farGo dict d out e k).2 (farByte dict (farGo dict d out e k).1 d), giveE (farGo dict d out e k).1 (farGo dict d out e k).2)) := Lib.hid rfl
            have HOff := Lib.hid (fun h => farGo_off (dict := dict) (d := d) (out := out) (e := e) (k := k + 1) h len (by omega))
            generalize (farGo dict d out e k).1 = O at *
            generalize (farGo dict d out e k).2 = E at *
            have hSk0 := hSk
            obtain ⟨srcV', dictV', outV', hA⟩ := hSk
            have hos := hA.osmall
            have hds := hA.dsmall
            have h2 := H2.out
            have h3 := H3.out
            have HL := Lib.hid (show O.length ≤ 131072 ∧ dict.length ≤ 32768 ∧ d ≤ dict.length + O.length from ⟨hos, hds, by omega⟩)
            clear h2 h3
            by_cases hb : d ≤ O.length
            · obtain ⟨g, cap, rfl, hcell⟩ := own_cell hA.own (O.length - d) (by omega)
              have c3 := hA.c3
              have w1 : wrap64 ((O.length : Int) - (d : Int)) = (O.length : Int) - (d : Int) := by unfold wrap64; omega
              have w2 : decide ((0 : Int) ≤ (O.length : Int) - (d : Int)) = true := decide_eq_true (by omega)
              have w3 : ((O.length : Int) - (d : Int)).toNat = O.length - d := by omega
              have hB : farByte dict O d = O.getD (O.length - d) 0 := by unfold farByte; rw [if_pos hb]
              have HB := Lib.hid hB
              generalize O.getD (O.length - d) 0 = x at *
              clear hB hos hds hle
              go_wp2_with fail
              refine (give_any hSk0 x).mono ?_; rintro r w1 ⟨rfl, hS1, hK1⟩
              go_wp2_with fail
              by_cases hz : giveE O E < 0
              · refine (on_yes hS1 hz).mono ?_; rintro r w2 ⟨rfl, rfl⟩
                go_wp2_with fail
                go_roundw
                case rel => exact ⟨k + 1, hlt, rfl, by rw [HN.out, HB.out]; exact hS1, by rw [HN.out]; exact hz, hKk.trans hK1⟩
                case measure => simp [intOf]; omega
              · refine (on_no hS1 hz).mono ?_; rintro r w2 ⟨rfl, rfl⟩
                go_wp2_with fail
                go_returns
                exact ⟨rfl, by rw [HOff.out (by rw [HN.out]; exact hz), HN.out, HB.out]; exact hS1, hKk.trans hK1⟩
            · have hdd := HL.out.2.2
              obtain ⟨gb, goff, gcap, rfl, hgb, hcell⟩ := hA.rd.nonempty (by omega)
              have hcx := hcell (dict.length + O.length - d) (by omega)
              obtain ⟨oa', ocap', rfl⟩ := hA.shape
              have c2 := hA.c2
              have c3 := hA.c3
              have w1 : wrap64 ((O.length : Int) - (d : Int)) = (O.length : Int) - (d : Int) := by unfold wrap64; omega
              have w2 : decide ((0 : Int) ≤ (O.length : Int) - (d : Int)) = false := decide_eq_false (by omega)
              have w2b : decide ((d : Int) ≤ (O.length : Int)) = false := decide_eq_false (by omega)
              have w2c : decide (d ≤ O.length) = false := decide_eq_false hb
              have w3 : ((dict.length : Int) + ((O.length : Int) - (d : Int))).toNat = dict.length + O.length - d := by omega
              have w4 : wrap64 ((dict.length : Int) + ((O.length : Int) - (d : Int))) = (dict.length : Int) + ((O.length : Int) - (d : Int)) := by unfold wrap64; omega
              have w7 : IntKind.i64.wrap ((dict.length : Int) + ((O.length : Int) - (d : Int))) = (dict.length : Int) + ((O.length : Int) - (d : Int)) := wrap_i64_id _ (by omega) (by omega)
              have w5 : (0 : Int) ≤ (dict.length : Int) + ((O.length : Int) - (d : Int)) := by omega
              have w6 : (dict.length : Int) + ((O.length : Int) - (d : Int)) < dict.length := by omega
              have hB : farByte dict O d = dict.getD (dict.length + O.length - d) 0 := by unfold farByte; rw [if_neg hb]
              have HB := Lib.hid hB
              generalize dict.getD (dict.length + O.length - d) 0 = x at *
              clear hB hle hcell w1 w4
              go_upto_region 8 with fail
              refine still_tail 14 (by kernel_rfl) (by kernel_rfl) ?_
              simp only [List.take_succ_cons, List.take_zero, List.drop_succ_cons, List.drop_zero]
              repeat still_step
              refine wpStill_nil ?_
              go_wp2_with fail
              refine (give_any ⟨_, _, _, hA.drew⟩ x).mono ?_; rintro r w1 ⟨rfl, hS1, hK1⟩
              go_wp2_with fail
              by_cases hz : giveE O E < 0
              · refine (on_yes hS1 hz).mono ?_; rintro r w2 ⟨rfl, rfl⟩
                go_wp2_with fail
                go_roundw
                case rel => exact ⟨k + 1, hlt, rfl, by rw [HN.out, HB.out]; exact hS1, by rw [HN.out]; exact hz, (hKk.drew).trans hK1⟩
                case measure => simp [intOf]; omega
              · refine (on_no hS1 hz).mono ?_; rintro r w2 ⟨rfl, rfl⟩
                go_wp2_with fail
                go_returns
                exact ⟨rfl, by rw [HOff.out (by rw [HN.out]; exact hz), HN.out, HB.out]; exact hS1, (hKk.drew).trans hK1⟩
          · obtain rfl : k = len := by omega
            go_wp2
            go_end0
            exact ⟨rfl, hSk, hKk⟩
  · have hE : farS dict out e len d = (out, e) := by unfold farS; rw [if_neg he]
    rw [hE]; clear hE hdc
    go_enter Tryd.func53, Tryd.ntmps53
    go_wp2_with (go_at_call 16; refine (on_no hs0 he).mono ?_; rintro r w1 ⟨rfl, rfl⟩)
    go_returns
    exact ⟨rfl, hs0, Keep.refl _ _⟩
end
end Go.Proofs.YtbbnibbdiiffkaaDoor
