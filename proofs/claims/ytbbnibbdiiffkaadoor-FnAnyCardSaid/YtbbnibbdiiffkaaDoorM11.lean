/- A block of codes: what it does, in plain words; a scope with jumps to some labels. Bits turned about. A block of codes, walked. -/
import Derived.ScopeJumps
import Derived.WalkMore
import Derived.Test.YtbbnibbdiiffkaaDoorM08
import Derived.Test.YtbbnibbdiiffkaaDoorM10

/- A block of codes: what it does, in plain words; a scope with jumps to some labels. -/
namespace Go

/-- As Q; by a goto: what holds at its label. -/
def Exit.jumps (J : Nat → Act → World → Prop) (Q : Exit → Act → World → Prop) : Exit → Act → World → Prop
  | .goto l, a, w => J l a w
  | e, a, w => Q e a w
section
variable {P : Program} {a : Act} {w : World} {Q : Exit → Act → World → Prop}
theorem Exit.jumps_ret (J : Nat → Act → World → Prop) : Exit.jumps J Q .ret a w = Q .ret a w := rfl
theorem Exit.jumps_normal (J : Nat → Act → World → Prop) : Exit.jumps J Q .normal a w = Q .normal a w := rfl
theorem Exit.jumps_goto (J : Nat → Act → World → Prop) (l : Nat) : Exit.jumps J Q (.goto l) a w = J l a w := rfl
theorem wp_scope_all {c : Code} (J : Nat → Nat → Act → World → Prop) (rest : Nat → Code) (hf : ∀ m l a w, J m l a w → findLabel c l = some (rest l))
    (first : c.wp P (Exit.jumps (fun l a w => ∃ m, J m l a w) Q) a w)
    (pass : ∀ m l a w, J m l a w → (rest l).wp P (Exit.jumps (fun l' a' w' => ∃ m', m' < m ∧ J m' l' a' w') Q) a w) : (Code.scope c).wp P Q a w := by
  intro b k cs
  have hg : ∀ m l a w, J m l a w → gotoIn l (.inScope c :: k) = some (.code (rest l) :: .inScope c :: k) := fun m l a w h => by simp [gotoIn, hf m l a w h]
  have key : ∀ n l a w, J n l a w → ∃ e a' w', Q e a' w' ∧ Arrives P (lone (b.at a (.code (rest l) :: .inScope c :: k)) cs w) b k cs e a' w' := by
    intro n
    induction n using Nat.strongRecOn with
    | _ n ih =>
      intro l a w hJ
      obtain ⟨e, a₁, w₁, hq, harr⟩ := pass n l a w hJ b (.inScope c :: k) cs
      cases e with
      | normal => exact ⟨.normal, a₁, w₁, hq, Steps.trans harr (.one step_inScope)⟩
      | exit id => exact ⟨.exit id, a₁, w₁, hq, fun k' hk => harr k' (by simp [exitTo, hk])⟩
      | goto l' =>
        obtain ⟨m', hlt, hJ'⟩ := hq
        obtain ⟨e₂, a₂, w₂, hq₂, harr₂⟩ := ih _ hlt l' a₁ w₁ hJ'
        exact ⟨e₂, a₂, w₂, hq₂, .of_steps (harr _ (hg m' l' a₁ w₁ hJ')) harr₂⟩
      | ret => exact ⟨_, a₁, w₁, hq, harr⟩
      | panic ch => exact ⟨_, a₁, w₁, hq, harr⟩
      | outgrown => exact ⟨_, a₁, w₁, hq, harr⟩
  obtain ⟨e, a₁, w₁, hq, harr⟩ := first b (.inScope c :: k) cs
  cases e with
  | normal => exact ⟨.normal, a₁, w₁, hq, .head step_scope (Steps.trans harr (.one step_inScope))⟩
  | exit id => exact ⟨.exit id, a₁, w₁, hq, fun k' hk => .head step_scope (harr k' (by simp [exitTo, hk]))⟩
  | goto l' =>
    obtain ⟨m', hJ'⟩ := hq
    obtain ⟨e₂, a₂, w₂, hq₂, harr₂⟩ := key _ l' a₁ w₁ hJ'
    exact ⟨e₂, a₂, w₂, hq₂, .of_steps (.head step_scope (harr _ (hg m' l' a₁ w₁ hJ'))) harr₂⟩
  | ret => exact ⟨_, a₁, w₁, hq, .of_steps (.one step_scope) harr⟩
  | panic ch => exact ⟨_, a₁, w₁, hq, .of_steps (.one step_scope) harr⟩
  | outgrown => exact ⟨_, a₁, w₁, hq, .of_steps (.one step_scope) harr⟩
end

namespace Proofs.YtbbnibbdiiffkaaDoor
open Go.RowKit

def HR.err (E : Errs) (s : DS) : HR → Value
  | .sym .. => .nilIface
  | .eof .. => E.uneV
  | .bad k .. => corV (s.ro + (k - s.k))
/-- A symbol that could not be read. -/
def HR.fin (E : Errs) (s : DS) (r : HR) : DS := { r.st s with err := r.err E s }
/-- Bytes are read until there are n bits. -/
def need (src : List Nat) (n : Nat) : Nat → DS → Bool × DS
  | 0, s => (true, s)
  | g + 1, s =>
    if s.nb < n then
      if s.k < src.length then need src n g { s with k := s.k + 1, ro := s.ro + 1, b := s.b ||| src.getD s.k 0 * 2 ^ s.nb, nb := s.nb + 8 } else (false, s)
    else (true, s)
def takeB (n : Nat) (s : DS) : DS := { s with b := s.b / 2 ^ n, nb := s.nb - n }
/-- Where a pass through a block's code ends. -/
inductive HB where
  | done (s : DS)
  | lit (s : DS)
  | copy (s : DS)
def hbFar (len dist : Nat) (s : DS) : HB := if histN s < dist then .done { s with err := corV s.ro } else .copy { s with len := len, dist := dist }
def hbDist (E : Errs) (src : List Nat) (len d : Nat) (s : DS) : HB :=
  if d < 4 then hbFar len (d + 1) s
  else if d < 30 then
    if (need src ((d - 2) / 2) 4 s).1 then
      hbFar len (2 ^ ((d - 2) / 2 + 1) + 1 + (d % 2 * 2 ^ ((d - 2) / 2) + (need src ((d - 2) / 2) 4 s).2.b % 2 ^ ((d - 2) / 2))) (takeB ((d - 2) / 2) (need src ((d - 2) / 2) 4 s).2)
    else .done { (need src ((d - 2) / 2) 4 s).2 with err := E.uneV }
  else .done { s with err := corV s.ro }
def hbSym (E : Errs) (src : List Nat) (hd : Option HD) (len : Nat) (s : DS) : HB :=
  match hd with
  | none => if (need src 5 4 s).1 then hbDist E src len (rev 5 ((need src 5 4 s).2.b % 32)) (takeB 5 (need src 5 4 s).2) else .done { (need src 5 4 s).2 with err := E.uneV }
  | some h =>
    match hsM src h s.k s.b s.nb with
    | .sym d k b nb => hbDist E src len d ((HR.sym d k b nb).st s)
    | r => .done (r.fin E s)
def hbLen (E : Errs) (src : List Nat) (hd : Option HD) (v : Nat) (s : DS) : HB :=
  if (need src (lengthL v).2 4 s).1 then
    hbSym E src hd ((lengthL v).1 + (need src (lengthL v).2 4 s).2.b % 2 ^ (lengthL v).2) (takeB (lengthL v).2 (need src (lengthL v).2 4 s).2)
  else .done { (need src (lengthL v).2 4 s).2 with err := E.uneV }
def hbVal (I : Ids) (E : Errs) (src : List Nat) (hd : Option HD) (v : Nat) (s : DS) : HB :=
  if v < 256 then (if (putB s v).wr = 32768 then .done { outS I (putB s v) with step := stepV 24, st := 0 } else .lit (putB s v))
  else if v = 256 then .done (finishS I E s)
  else if v < 286 then hbLen E src hd v s
  else .done { s with err := corV s.ro }
def hbLit (I : Ids) (E : Errs) (src : List Nat) (hl : HD) (hd : Option HD) (s : DS) : HB :=
  match hsM src hl s.k s.b s.nb with
  | .sym v k b nb => hbVal I E src hd v ((HR.sym v k b nb).st s)
  | r => .done (r.fin E s)
def cpN (s : DS) : Nat := if tryN s s.dist s.len = 0 then wrN (copied s s.dist 0) s.len else tryN s s.dist s.len
def cpA (s : DS) : DS := if tryN s s.dist s.len = 0 then copied (copied s s.dist 0) s.dist (wrN (copied s s.dist 0) s.len) else copied s s.dist (tryN s s.dist s.len)
def cpT (I : Ids) (s : DS) : HB := if s.wr = 32768 ∨ 0 < s.len then .done { outS I s with step := stepV 24, st := 1 } else .lit s
def hbCopy (I : Ids) (s : DS) : HB := cpT I { cpA s with len := s.len - cpN s }
def hbGo (I : Ids) (E : Errs) (src : List Nat) (hl : HD) (hd : Option HD) : Nat → HB → DS
  | _, .done s => s
  | 0, .lit s => s
  | 0, .copy s => s
  | f + 1, .lit s => hbGo I E src hl hd f (hbLit I E src hl hd s)
  | f + 1, .copy s => hbGo I E src hl hd f (hbCopy I s)
def hbS (I : Ids) (E : Errs) (src : List Nat) (hl : HD) (hd : Option HD) (s : DS) : DS := hbGo I E src hl hd (16 * src.length + 100) (if s.st = 1 then .copy s else .lit s)
end Proofs.YtbbnibbdiiffkaaDoor
end Go

/- Bits turned about. -/
namespace Go.Proofs.YtbbnibbdiiffkaaDoor
open Go.RowKit

theorem rev_split (j k x : Nat) : rev (j + k) x = rev j x * 2 ^ k + rev k (x / 2 ^ j) := by
  induction j generalizing x with
  | zero => simp [rev]
  | succ j ih =>
    rw [show j + 1 + k = (j + k) + 1 by omega, rev, ih, rev, Nat.div_div_eq_div_mul, Nat.pow_succ, Nat.mul_comm (2 ^ j) 2, Nat.add_mul, Nat.mul_assoc (x % 2), ← Nat.pow_add, Nat.add_assoc]
theorem rev_mod (j x : Nat) : rev j (x % 2 ^ j) = rev j x := by
  induction j generalizing x with
  | zero => rfl
  | succ j ih =>
    have h1 : x % 2 ^ (j + 1) % 2 = x % 2 := Nat.mod_mod_of_dvd x ⟨2 ^ j, by rw [Nat.pow_succ, Nat.mul_comm]⟩
    have h2 : x % 2 ^ (j + 1) / 2 = x / 2 % 2 ^ j := by rw [Nat.pow_succ, Nat.mul_comm, Nat.mod_mul_right_div_self]
    rw [rev, rev, h1, h2, ih]
theorem rev16_eq (x hi lo : Nat) (h1 : hi = x / 256) (h2 : lo = x % 256) : rev 16 x = rev 8 hi + rev 8 lo * 2 ^ 8 := by
  rw [h1, h2, show (256 : Nat) = 2 ^ 8 from rfl, rev_mod, show (16 : Nat) = 8 + 8 from rfl, rev_split 8 8 x]; omega

section
variable {w : World}
set_option maxRecDepth 100000 in
set_option maxHeartbeats 2000000 in
theorem rev16_any (x : Nat) (hx : x < 65536) : Calls Tryd.prog 62 #[.int .u16 x] w fun r w' => r = .returned (.int .u16 (rev 16 x : Nat)) ∧ ∃ n, w' = w.drewN n := by
  obtain ⟨hi, hhi⟩ : ∃ v, v = x / 256 := ⟨_, rfl⟩
  obtain ⟨lo, hlo⟩ : ∃ v, v = x % 256 := ⟨_, rfl⟩
  have x1 : (x : Int) / 256 = (hi : Int) := by omega
  have x2 : bits .and .u16 (x : Int) 255 = (lo : Int) := by
    have := and_u16 x 255 hx (by decide)
    rw [show ((255 : Nat) : Int) = 255 from rfl] at this
    rw [this, show (255 : Nat) = 2 ^ 8 - 1 from rfl, and_mask, hlo]
  have x3 : (hi : Int) < 256 := by omega
  have x4 : (0 : Int) ≤ (hi : Int) := by omega
  have x5 : (lo : Int) < 256 := by omega
  have x6 : (0 : Int) ≤ (lo : Int) := by omega
  have HHI := Lib.hid hhi
  have HLO := Lib.hid hlo
  clear hhi hlo
  go_enter Tryd.func62, Tryd.ntmps62
  go_wp2_with fail
  go_quiet (fail)
  go_wp2_with fail
  go_ret
  refine ⟨?_, _, rfl⟩
  rw [tab8_get (by kernel_rfl) hi, tab8_get (by kernel_rfl) lo]
  have ha := rev_lt 8 hi
  have hb := rev_lt 8 lo
  have he := rev16_eq x hi lo HHI.out HLO.out
  show Ending.returned (.int .u16 (bits .or .u16 (IntKind.u16.wrap (rev 8 hi : Nat)) (IntKind.u16.wrap (IntKind.u16.wrap (rev 8 lo : Nat) * 256)))) = _
  rw [wrap_u16_id _ (by omega) (by omega), wrap_u16_id ((rev 8 lo : Nat) : Int) (by omega) (by omega), wrap_u16_id _ (by omega) (by omega),
    show ((rev 8 lo : Nat) : Int) * 256 = ((rev 8 lo * 2 ^ 8 : Nat) : Int) by omega, or_u16 _ _ (by omega) (by omega), or_add' _ _ 8 ha, he]
end
end Go.Proofs.YtbbnibbdiiffkaaDoor

/- A block of codes, walked. -/
namespace Go
theorem wp_scope_two {P : Program} {a : Act} {w : World} {Q : Exit → Act → World → Prop} {c r0 r1 : Code} (h0 : findLabel c 0 = some r0) (h1 : findLabel c 1 = some r1) (J0 J1 : Nat → Act → World → Prop)
    (first : c.wp P (Exit.jumps (fun l a w => (l = 0 ∧ ∃ m, J0 m a w) ∨ (l = 1 ∧ ∃ m, J1 m a w)) Q) a w)
    (pass0 : ∀ m a w, J0 m a w → r0.wp P (Exit.jumps (fun l a w => (l = 0 ∧ ∃ m', m' < m ∧ J0 m' a w) ∨ (l = 1 ∧ ∃ m', m' < m ∧ J1 m' a w)) Q) a w)
    (pass1 : ∀ m a w, J1 m a w → r1.wp P (Exit.jumps (fun l a w => (l = 0 ∧ ∃ m', m' < m ∧ J0 m' a w) ∨ (l = 1 ∧ ∃ m', m' < m ∧ J1 m' a w)) Q) a w) : (Code.scope c).wp P Q a w := by
  refine wp_scope_all (fun m l a w => (l = 0 ∧ J0 m a w) ∨ (l = 1 ∧ J1 m a w)) (fun l => if l = 0 then r0 else r1) ?_ ?_ ?_
  · rintro m l a w (⟨rfl, -⟩ | ⟨rfl, -⟩)
    · exact h0
    · exact h1
  · refine (show (fun l a w => (l = 0 ∧ ∃ m, J0 m a w) ∨ (l = 1 ∧ ∃ m, J1 m a w)) = (fun l a w => ∃ m, (l = 0 ∧ J0 m a w) ∨ (l = 1 ∧ J1 m a w)) from ?_) ▸ first
    funext l a w
    apply propext
    constructor
    · rintro (⟨h, m, hm⟩ | ⟨h, m, hm⟩)
      · exact ⟨m, .inl ⟨h, hm⟩⟩
      · exact ⟨m, .inr ⟨h, hm⟩⟩
    · rintro ⟨m, ⟨h, hm⟩ | ⟨h, hm⟩⟩
      · exact .inl ⟨h, m, hm⟩
      · exact .inr ⟨h, m, hm⟩
  · intro m l a w h
    have he : (fun l a w => (l = 0 ∧ ∃ m', m' < m ∧ J0 m' a w) ∨ (l = 1 ∧ ∃ m', m' < m ∧ J1 m' a w)) = (fun l' a' w' => ∃ m', m' < m ∧ ((l' = 0 ∧ J0 m' a' w') ∨ (l' = 1 ∧ J1 m' a' w'))) := by
      funext l a w
      apply propext
      constructor
      · rintro (⟨h, m, hl, hm⟩ | ⟨h, m, hl, hm⟩)
        · exact ⟨m, hl, .inl ⟨h, hm⟩⟩
        · exact ⟨m, hl, .inr ⟨h, hm⟩⟩
      · rintro ⟨m, hl, ⟨h, hm⟩ | ⟨h, hm⟩⟩
        · exact .inl ⟨h, m, hl, hm⟩
        · exact .inr ⟨h, m, hl, hm⟩
    rcases h with ⟨rfl, h⟩ | ⟨rfl, h⟩
    · exact he ▸ pass0 m a w h
    · exact he ▸ pass1 m a w h
theorem wp_cut2 {P : Program} {a : Act} {w : World} {Q : Exit → Act → World → Prop} {c : Code} (R : Act → World → Prop) (first : c.wp P (Exit.then R Q) a w) (rest : ∀ a w, R a w → Q .normal a w) : c.wp P Q a w :=
  wp_mono first fun e a w h => by cases e <;> first | exact rest _ _ h | exact h
namespace Proofs.YtbbnibbdiiffkaaDoor
open Go.RowKit

def AllN : Nat → (List Value → Prop) → Prop
  | 0, K => K []
  | n + 1, K => ∀ u, AllN n fun l => K (u :: l)
theorem AllN_get {n : Nat} : ∀ {K : List Value → Prop} (_ : AllN n K) (l : List Value) (_ : l.length = n), K l := by
  induction n with
  | zero => intro K h l hl; rw [List.length_eq_zero_iff.1 hl]; exact h
  | succ n ih =>
    intro K h l hl
    cases l with
    | nil => cases hl
    | cons u l => exact ih (h u) l (Nat.succ.inj hl)
/-- A frame whose first slot is p. -/
def Fra (n : Nat) (p : Value) (a : Act) : Prop := ∃ l : List Value, l.length = n ∧ a = ⟨(p :: l).toArray, []⟩

/-- The bits that a decoder in memory holds. -/
def nbW (I : Ids) (w : World) : Nat := match w.cell? ⟨I.F, 4, none⟩ with | some (.int _ n) => n.toNat | _ => 0
/-- The same decoder, some bytes further. -/
structure Near (src : List Nat) (s s' : DS) : Prop where
  eq : ∃ k ro b nb, s' = { s with k := k, ro := ro, b := b, nb := nb }
  k : s.k ≤ s'.k
  kle : s'.k ≤ src.length
  bl : 8 * (src.length - s'.k) + s'.nb = 8 * (src.length - s.k) + s.nb
theorem Near.refl {src : List Nat} {s : DS} (h : s.k ≤ src.length) : Near src s s := ⟨⟨s.k, s.ro, s.b, s.nb, rfl⟩, Nat.le_refl _, h, rfl⟩
theorem Near.step {src : List Nat} {s s' : DS} (h : Near src s s') (hk : s'.k < src.length) : Near src s { s' with k := s'.k + 1, ro := s'.ro + 1, b := s'.b ||| src.getD s'.k 0 * 2 ^ s'.nb, nb := s'.nb + 8 } := by
  obtain ⟨k, ro, b, nb, rfl⟩ := h.eq
  have h1 := h.k
  have h2 := h.bl
  simp only [] at h1 h2 hk
  exact ⟨⟨_, _, _, _, rfl⟩, by simp only []; omega, hk, by simp only []; omega⟩
theorem need_near (src : List Nat) (n : Nat) (g : Nat) : ∀ s, s.k ≤ src.length → Near src s (need src n g s).2 ∧ ((need src n g s).2.nb ≤ s.nb ∨ (need src n g s).2.nb ≤ n + 7) ∧ (n ≤ s.nb + 8 * g → (need src n g s).1 = true → n ≤ (need src n g s).2.nb) := by
  induction g with
  | zero => intro s hk; exact ⟨.refl hk, .inl (Nat.le_refl _), fun h _ => h⟩
  | succ g ih =>
    intro s hk
    rw [need]
    by_cases h1 : s.nb < n
    · rw [if_pos h1]
      by_cases h2 : s.k < src.length
      · rw [if_pos h2]
        obtain ⟨q1, q2, q3⟩ := ih { s with k := s.k + 1, ro := s.ro + 1, b := s.b ||| src.getD s.k 0 * 2 ^ s.nb, nb := s.nb + 8 } h2
        refine ⟨?_, ?_, fun h => q3 (by simp only []; omega)⟩
        · generalize (need src n g { s with k := s.k + 1, ro := s.ro + 1, b := s.b ||| src.getD s.k 0 * 2 ^ s.nb, nb := s.nb + 8 }).2 = z at *
          obtain ⟨k, ro, b, nb, rfl⟩ := q1.eq
          have e1 := q1.k
          have e2 := q1.bl
          simp only [] at e1 e2
          exact ⟨⟨k, ro, b, nb, rfl⟩, by simp only []; omega, q1.kle, by simp only []; omega⟩
        · rcases q2 with q2 | q2
          · simp only [] at q2; exact .inr (by omega)
          · exact .inr q2
      · rw [if_neg h2]; exact ⟨.refl hk, .inl (Nat.le_refl _), fun _ h => by cases h⟩
    · rw [if_neg h1]; exact ⟨.refl hk, .inl (Nat.le_refl _), fun _ _ => by simp only []; omega⟩
/-- A frame, its first ten slots. -/
def FrD (p v2 v4 v5 v6 : Value) (a : Act) : Prop := ∃ u1 u3 u7 u8 u9 l, l.length = 352 ∧ a = ⟨(p :: u1 :: v2 :: u3 :: v4 :: v5 :: v6 :: u7 :: u8 :: u9 :: l).toArray, []⟩
section
variable {I : Ids} {E : Errs} {src : List Nat} {srcV : Value} {w w' : World} {cs cs' : Array Value} {s : DS}
/-- What the block's code needs of the decoder. -/
structure HOK (I : Ids) (hl : HD) (hd : Option HD) (s : DS) : Prop where
  tl : TabOf I s s.hl hl
  td : (hd = none ∧ s.hd = .pointer none) ∨ ∃ h, hd = some h ∧ s.hd = .pointer (some ⟨I.F, 520, none⟩) ∧ h = s.h2
  nb : s.nb ≤ 24
  wr : s.wr < 32768
  rd : s.rd ≤ s.wr
/-- The bits that are left, twice. -/
def bl2 (src : List Nat) (s : DS) : Nat := 2 * (8 * (src.length - s.k) + s.nb)
def J0 (I : Ids) (E : Errs) (src : List Nat) (srcV : Value) (w0 : World) (hl : HD) (hd : Option HD) (R : DS) (m : Nat) (a : Act) (w : World) : Prop :=
  Fra 361 (.pointer (some ⟨I.F, 0, none⟩)) a ∧ ∃ cs s, Dec I E src srcV w cs s ∧ Imp I w0 w ∧ HOK I hl hd s ∧ Hid (R = hbGo I E src hl hd m (.lit s)) ∧ Hid (bl2 src s < m)
def J1 (I : Ids) (E : Errs) (src : List Nat) (srcV : Value) (w0 : World) (hl : HD) (hd : Option HD) (R : DS) (m : Nat) (a : Act) (w : World) : Prop :=
  Fra 361 (.pointer (some ⟨I.F, 0, none⟩)) a ∧ ∃ cs s, Dec I E src srcV w cs s ∧ Imp I w0 w ∧ HOK I hl hd s ∧ 1 ≤ s.dist ∧ Hid (R = hbGo I E src hl hd m (.copy s)) ∧ Hid (bl2 src s + 1 < m)

theorem fill_props (n : Nat) (g : Nat) : ∀ (k b nb : Nat), k ≤ src.length →
    k ≤ (fill src n g k b nb).2.1 ∧ (fill src n g k b nb).2.1 ≤ src.length ∧ 8 * (src.length - (fill src n g k b nb).2.1) + (fill src n g k b nb).2.2.2 = 8 * (src.length - k) + nb ∧
      ((fill src n g k b nb).2.2.2 ≤ nb ∨ (fill src n g k b nb).2.2.2 ≤ n + 7) := by
  induction g with
  | zero => intro k b nb hk; exact ⟨Nat.le_refl _, hk, rfl, .inl (Nat.le_refl _)⟩
  | succ g ih =>
    intro k b nb hk
    rw [fill]
    by_cases h1 : nb < n
    · rw [if_pos h1]
      by_cases h2 : k < src.length
      · rw [if_pos h2]
        obtain ⟨q1, q2, q3, q4⟩ := ih (k + 1) (b ||| src.getD k 0 * 2 ^ nb) (nb + 8) h2
        exact ⟨by omega, q2, by omega, .inr (by omega)⟩
      · rw [if_neg h2]; exact ⟨Nat.le_refl _, hk, rfl, .inl (Nat.le_refl _)⟩
    · rw [if_neg h1]; exact ⟨Nat.le_refl _, hk, rfl, .inl (Nat.le_refl _)⟩
theorem hsGo_props (h : HD) (hs : Safe h) (f : Nat) : ∀ (e : Bool) (k b nb : Nat), k ≤ src.length → nb ≤ 24 → ∀ v k2 b2 nb2, hsGo src h f (e, k, b, nb) = .sym v k2 b2 nb2 →
    k ≤ k2 ∧ k2 ≤ src.length ∧ 8 * (src.length - k2) + nb2 < 8 * (src.length - k) + nb ∧ nb2 ≤ 24 ∧ v < 2 ^ 27 := by
  induction f with
  | zero => intro e k b nb hk hn v k2 b2 nb2 he; cases he
  | succ f ih =>
    intro e k b nb hk hn v k2 b2 nb2 he
    cases e with
    | true => cases he
    | false =>
      rw [hsGo_step] at he
      have hl := look_lt h hs b
      have h15 : look h b % 16 ≤ 15 := by omega
      by_cases h1 : look h b % 16 ≤ nb
      · rw [if_pos h1] at he
        by_cases h0 : look h b % 16 = 0
        · rw [if_pos h0] at he; cases he
        · rw [if_neg h0] at he; cases he
          exact ⟨Nat.le_refl _, hk, by omega, by omega, by omega⟩
      · rw [if_neg h1] at he
        obtain ⟨q1, q2, q3, q4⟩ := fill_props (src := src) (look h b % 16) 16 k b nb hk
        generalize fill src (look h b % 16) 16 k b nb = F at *
        obtain ⟨e', k', b', nb'⟩ := F
        simp only [] at q1 q2 q3 q4
        obtain ⟨r1, r2, r3, r4⟩ := ih e' k' b' nb' q2 (by omega) v k2 b2 nb2 he
        exact ⟨by omega, r2, by omega, r4⟩
theorem hsM_props {h : HD} (hs : Safe h) {k b nb : Nat} (hk : k ≤ src.length) (hn : nb ≤ 24) {v k2 b2 nb2 : Nat} (he : hsM src h k b nb = .sym v k2 b2 nb2) :
    k ≤ k2 ∧ k2 ≤ src.length ∧ 8 * (src.length - k2) + nb2 < 8 * (src.length - k) + nb ∧ nb2 ≤ 24 ∧ v < 2 ^ 27 := by
  have h15 := hs.min15
  obtain ⟨q1, q2, q3, q4⟩ := fill_props (src := src) h.min 16 k b nb hk
  unfold hsM at he
  generalize fill src h.min 16 k b nb = F at *
  obtain ⟨e', k', b', nb'⟩ := F
  simp only [] at q1 q2 q3 q4
  obtain ⟨r1, r2, r3, r4⟩ := hsGo_props h hs 17 e' k' b' nb' q2 (by omega) v k2 b2 nb2 he
  exact ⟨by omega, r2, by omega, r4⟩
theorem hbGo_done (I : Ids) (E : Errs) (src : List Nat) (hl : HD) (hd : Option HD) (m : Nat) (s : DS) : hbGo I E src hl hd m (.done s) = s := by cases m <;> rfl
theorem mulInt {a c b : Nat} (h : b = a * c) (hb : b ≤ 1000000) : wrap64 ((a : Int) * (c : Int)) = (b : Int) := by
  have e : (a : Int) * (c : Int) = ((a * c : Nat) : Int) := by simp
  rw [e, ← h]; unfold wrap64; omega
theorem subInt {a d b : Nat} (h : a = b + d) (hb : a ≤ 1000000) : wrap64 ((a : Int) - (d : Int)) = (b : Int) := by unfold wrap64; omega
theorem lengthL_mid (v e : Nat) (h1 : 265 ≤ v) (h2 : v ≤ 284) (he : (v - 261) / 4 = e) : lengthL v = (3 + (4 + (v - 261) % 4) * 2 ^ e, e) := by
  unfold lengthL; rw [if_neg (by omega), if_neg (by omega), if_pos ⟨h1, h2⟩, he]
theorem lengthL_small (v : Nat) (hv : v < 286) (hv' : 257 ≤ v) : (v < 265 → v = (lengthL v).1 + 254 ∧ (lengthL v).2 = 0) ∧ (265 ≤ v → v < 269 → v * 2 = (lengthL v).1 + 519 ∧ (lengthL v).2 = 1) ∧
    (269 ≤ v → v < 273 → v * 4 = (lengthL v).1 + 1057 ∧ (lengthL v).2 = 2) ∧ (273 ≤ v → v < 277 → v * 8 = (lengthL v).1 + 2149 ∧ (lengthL v).2 = 3) ∧
    (277 ≤ v → v < 281 → v * 16 = (lengthL v).1 + 4365 ∧ (lengthL v).2 = 4) ∧ (281 ≤ v → v < 285 → v * 32 = (lengthL v).1 + 8861 ∧ (lengthL v).2 = 5) ∧ (285 ≤ v → 258 = (lengthL v).1 ∧ (lengthL v).2 = 0) := by
  refine ⟨fun h => ?_, fun h h' => ?_, fun h h' => ?_, fun h h' => ?_, fun h h' => ?_, fun h h' => ?_, fun h => ?_⟩
  · unfold lengthL; rw [if_neg (by omega), if_pos ⟨hv', by omega⟩]; exact ⟨by simp only []; omega, rfl⟩
  · rw [lengthL_mid v 1 (by omega) (by omega) (by omega)]; exact ⟨by simp only []; omega, rfl⟩
  · rw [lengthL_mid v 2 (by omega) (by omega) (by omega)]; exact ⟨by simp only []; omega, rfl⟩
  · rw [lengthL_mid v 3 (by omega) (by omega) (by omega)]; exact ⟨by simp only []; omega, rfl⟩
  · rw [lengthL_mid v 4 (by omega) (by omega) (by omega)]; exact ⟨by simp only []; omega, rfl⟩
  · rw [lengthL_mid v 5 (by omega) (by omega) (by omega)]; exact ⟨by simp only []; omega, rfl⟩
  · obtain rfl : v = 285 := by omega
    exact ⟨rfl, rfl⟩
theorem HOK.near {hl : HD} {hd : Option HD} {s' : DS} (h : HOK I hl hd s) (hn : Near src s s') (hb : s'.nb ≤ 24) : HOK I hl hd s' := by
  obtain ⟨k, ro, b, nb, rfl⟩ := hn.eq
  exact ⟨h.tl, h.td, hb, h.wr, h.rd⟩
theorem Dec.nbW (h : Dec I E src srcV w cs s) : nbW I w = s.nb := by unfold YtbbnibbdiiffkaaDoor.nbW; rw [h.c_nb]; rfl
theorem HOK.putB {hl : HD} {hd : Option HD} (h : HOK I hl hd s) (v : Nat) (hw : (putB s v).wr < 32768) : HOK I hl hd (putB s v) :=
  ⟨h.tl, h.td, h.nb, hw, Nat.le_succ_of_le h.rd⟩

def RB (I : Ids) (E : Errs) (src : List Nat) (srcV : Value) (w0 : World) (N : Bool × DS) (v ln x : Nat) (a : Act) (wq : World) : Prop :=
  N.1 = true ∧ ∃ v4 v6 c3, FrD (.pointer (some ⟨I.F, 0, none⟩)) (vi v) v4 (.int .i64 ((ln + N.2.b % 2 ^ x : Nat) : Int)) v6 a ∧ Dec I E src srcV wq c3 (takeB x N.2) ∧ Imp I w0 wq

theorem pow_le13 {x : Nat} (hx : x ≤ 13) : 2 ^ x ≤ 8192 := Nat.pow_le_pow_right (by decide) hx
theorem takeArith {b nb x ln : Nat} (hx : x ≤ 13) (hb : b < 2 ^ 32) (hle : x ≤ nb) (hnb : nb ≤ 24) (hln : ln ≤ 100000) : ∃ e q nn le : Nat, b % 2 ^ x = e ∧ b / 2 ^ x = q ∧ nb - x = nn ∧ ln + b % 2 ^ x = le ∧ q < 2 ^ 32 ∧ nn ≤ 24 ∧ e < 8192 ∧
    bits .and .u32 (b : Int) ((2 ^ x - 1) % 4294967296) = (e : Int) ∧ wrap64 (e : Int) = (e : Int) ∧ wrap64 ((ln : Int) + (e : Int)) = (le : Int) ∧ (b : Int) / 2 ^ x = (q : Int) ∧ IntKind.u64.wrap ((nb : Int) - (x : Int)) = (nn : Int) := by
  have hp := pow_le13 hx
  have hp0 : 0 < 2 ^ x := Nat.two_pow_pos x
  have he : b % 2 ^ x < 2 ^ x := Nat.mod_lt _ hp0
  have hq : b / 2 ^ x ≤ b := Nat.div_le_self _ _
  refine ⟨_, _, _, _, rfl, rfl, rfl, rfl, by omega, by omega, by omega, ?_, ?_, ?_, ?_, ?_⟩
  · have h1 : (((2 : Int) ^ x - 1) % 4294967296) = ((2 ^ x - 1 : Nat) : Int) := by
      have : (2 : Int) ^ x = ((2 ^ x : Nat) : Int) := by simp
      rw [this]; omega
    rw [h1, and_u32 b (2 ^ x - 1) hb (by omega), and_mask]
  · unfold wrap64; omega
  · unfold wrap64; omega
  · simp
  · rw [IntKind.wrap_u64]; omega

def RC (I : Ids) (E : Errs) (src : List Nat) (srcV : Value) (w0 : World) (hl : HD) (hd : Option HD) (R : DS) (m le : Nat) (a : Act) (wq : World) : Prop :=
  ∃ (d : Nat) (s : DS) (c : Array Value) (v2 v4 : Value), FrD (.pointer (some ⟨I.F, 0, none⟩)) v2 v4 (.int .i64 (le : Int)) (.int .i64 (d : Int)) a ∧ Dec I E src srcV wq c s ∧ Imp I w0 wq ∧ HOK I hl hd s ∧ Hid (R = hbGo I E src hl hd m (hbDist E src le d s)) ∧ Hid (bl2 src s + 1 < m) ∧ d < 134217728
theorem fiveArith {b nb : Nat} (hb : b < 2 ^ 32) (hle : 5 ≤ nb) (hnb : nb ≤ 24) : ∃ z z8 d q nn : Nat, b % 32 = z ∧ b / 2 ^ 5 = q ∧ nb - 5 = nn ∧ rev 5 (b % 32) = d ∧ rev 8 z8 = d ∧ z8 < 256 ∧ q < 2 ^ 32 ∧ nn ≤ 24 ∧ d < 32 ∧
    bits .and .u32 (b : Int) 31 = (z : Int) ∧ (z : Int) * 8 % 4294967296 = (z8 : Int) ∧ IntKind.u8.wrap (z8 : Int) = (z8 : Int) ∧ wrap64 (d : Int) = (d : Int) ∧ (b : Int) / 32 = (q : Int) ∧ IntKind.u64.wrap ((nb : Int) - 5) = (nn : Int) := by
  have hz : b % 32 < 32 := Nat.mod_lt _ (by decide)
  have hd := rev_lt 5 (b % 32)
  have h85 : ∀ z, z < 32 → rev 8 (z * 8) = rev 5 z := by decide
  refine ⟨b % 32, b % 32 * 8, rev 5 (b % 32), b / 2 ^ 5, nb - 5, rfl, rfl, rfl, rfl, h85 _ hz, by omega, by omega, by omega, by omega, ?_, by omega, wrap_u8_id _ (by omega) (by omega), by unfold wrap64; omega, rfl, by rw [IntKind.wrap_u64]; omega⟩
  have := and_u32 b 31 hb (by decide)
  rw [show ((31 : Nat) : Int) = 31 from rfl] at this
  rw [this, show (31 : Nat) = 2 ^ 5 - 1 from rfl, and_mask]
theorem Near.bl2 {s s' : DS} (h : Near src s s') : bl2 src s' = bl2 src s := by unfold YtbbnibbdiiffkaaDoor.bl2; rw [h.bl]
theorem bl2_take (n : Nat) (s : DS) : bl2 src (takeB n s) ≤ bl2 src s := by
  unfold bl2 takeB; simp only []; omega
theorem HOK.take {hl : HD} {hd : Option HD} (h : HOK I hl hd s) (n : Nat) : HOK I hl hd (takeB n s) := ⟨h.tl, h.td, Nat.le_trans (Nat.sub_le _ _) h.nb, h.wr, h.rd⟩

def RD (I : Ids) (E : Errs) (src : List Nat) (srcV : Value) (w0 : World) (hl : HD) (hd : Option HD) (R : DS) (m le : Nat) (a : Act) (wq : World) : Prop :=
  ∃ (d : Nat) (s : DS) (c : Array Value) (v2 v4 : Value), FrD (.pointer (some ⟨I.F, 0, none⟩)) v2 v4 (.int .i64 (le : Int)) (.int .i64 (d : Int)) a ∧ Dec I E src srcV wq c s ∧ Imp I w0 wq ∧ HOK I hl hd s ∧ Hid (R = hbGo I E src hl hd m (hbFar le d s)) ∧ Hid (bl2 src s + 1 < m) ∧ 1 ≤ d ∧ d < 134217728
theorem distArith {d : Nat} (h1 : 4 ≤ d) (h2 : d < 30) : ∃ dm x o ex : Nat, (d - 2) / 2 = x ∧ d % 2 * 2 ^ x = ex ∧ x ≤ 13 ∧ 1 ≤ x ∧ ex ≤ 8192 ∧ ex % 2 ^ x = 0 ∧
    wrap64 ((d : Int) - 2) = (dm : Int) ∧ (d : Int) - 2 = (dm : Int) ∧ IntKind.u64.wrap (dm : Int) = (dm : Int) ∧ (dm : Int) / 2 = (x : Int) ∧ bits .and .i64 (d : Int) 1 = (o : Int) ∧ wrap64 ((o : Int) * 2 ^ x) = (ex : Int) := by
  have hp := pow_le13 (x := (d - 2) / 2) (by omega)
  have hm : d % 2 * 2 ^ ((d - 2) / 2) ≤ 1 * 2 ^ ((d - 2) / 2) := Nat.mul_le_mul_right _ (by omega)
  refine ⟨d - 2, (d - 2) / 2, d % 2, d % 2 * 2 ^ ((d - 2) / 2), rfl, rfl, by omega, by omega, by omega, Nat.mul_mod_left _ _, by unfold wrap64; omega, by omega, wrap_u64_id _ (by omega) (by omega), by omega, ?_, ?_⟩
  · have := and_i64 d 1 (by omega) (by decide)
    rw [show ((1 : Nat) : Int) = 1 from rfl] at this
    rw [this, show (1 : Nat) = 2 ^ 1 - 1 from rfl, and_mask]
  · have e : ((d % 2 : Nat) : Int) * 2 ^ ((d - 2) / 2) = ((d % 2 * 2 ^ ((d - 2) / 2) : Nat) : Int) := by simp
    rw [e]; generalize d % 2 * 2 ^ ((d - 2) / 2) = y at *; unfold wrap64; omega
theorem endArith {x ex e : Nat} (hx : x ≤ 13) (hex : ex ≤ 8192) (hm : ex % 2 ^ x = 0) (he : e < 2 ^ x) : ∃ oe x1 P P1 D : Nat, ex + e = oe ∧ 2 ^ (x + 1) + 1 + oe = D ∧ 1 ≤ D ∧ D < 100000 ∧ bits .or .i64 (ex : Int) (e : Int) = (oe : Int) ∧
    IntKind.u64.wrap ((x : Int) + 1) = (x1 : Int) ∧ wrap64 ((2 : Int) ^ (min x1 64)) = (P : Int) ∧ wrap64 ((P : Int) + 1) = (P1 : Int) ∧ wrap64 ((P1 : Int) + (oe : Int)) = (D : Int) := by
  have hp := pow_le13 hx
  have hp2 : 2 ^ (x + 1) = 2 ^ x * 2 := Nat.pow_succ _ _
  have h1 : (2 : Int) ^ (x + 1) = ((2 ^ (x + 1) : Nat) : Int) := by simp
  refine ⟨ex + e, x + 1, 2 ^ (x + 1), 2 ^ (x + 1) + 1, 2 ^ (x + 1) + 1 + (ex + e), rfl, rfl, by omega, by omega, ?_, ?_, ?_, ?_, ?_⟩
  · rw [or_i64 ex e (by omega) (by omega)]
    obtain ⟨y, rfl⟩ : ∃ y, ex = y * 2 ^ x := ⟨ex / 2 ^ x, by rw [Nat.div_mul_cancel (Nat.dvd_of_mod_eq_zero hm)]⟩
    rw [or_add y e x he]
  · rw [IntKind.wrap_u64]; omega
  · rw [show min (x + 1) 64 = x + 1 by omega, h1]; unfold wrap64; omega
  · unfold wrap64; omega
  · unfold wrap64; omega

end
end Proofs.YtbbnibbdiiffkaaDoor
end Go
