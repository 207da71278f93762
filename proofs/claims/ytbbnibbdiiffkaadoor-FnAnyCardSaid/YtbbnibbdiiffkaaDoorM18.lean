/- The head of a block with codes of its own: its two tables. The head of a block with codes of its own: the least length is raised. The head of a block with codes of its own: joined. The next block: what the decoder makes of its head. -/
import Derived.Deep.RegionHeld3
import Derived.Test.YtbbnibbdiiffkaaDoorM17

/- The head of a block with codes of its own: its two tables. -/
namespace Go.Proofs.YtbbnibbdiiffkaaDoor
open Go.RowKit

section
variable {I : Ids} {E : Errs} {src : List Nat} {srcV : Value} {w wz : World} {cs : Array Value} {s : DS}
theorem Dec.rdB (h : Dec I E src srcV wz cs s) (o n cap : Nat) (hn : o + n ≤ 316) : RdN wz (.slice (some ⟨I.B, o, none⟩) n cap) ((s.bits.drop o).take n) := by
  have hl : ((s.bits.drop o).take n).length = n := by rw [List.length_take, List.length_drop, h.blen]; omega
  refine ⟨some ⟨I.B, o, none⟩, cap, by rw [hl], fun j hj => ⟨I.B, o, rfl, lt_of_block h.bB, ?_⟩⟩
  rw [hl] at hj
  rw [h.c_bits (o + j) (by omega), List.getD_eq_getElem?_getD, List.getD_eq_getElem?_getD, List.getElem?_take, if_pos hj, List.getElem?_drop]
theorem take_le {l : List Nat} {B : Nat} (h : ∀ x ∈ l, x ≤ B) (o n : Nat) : ∀ x ∈ (l.drop o).take n, x ≤ B := fun x hx => h x (List.mem_of_mem_drop (List.mem_of_mem_take hx))
/-- What holds when both tables stand. -/
def PostT (I : Ids) (E : Errs) (src : List Nat) (srcV : Value) (w : World) (_nl _nd : Nat) (R : Value × DS) (a : Act) (wx : World) : Prop :=
  Slots 340 [(0, .pointer (some ⟨I.F, 0, none⟩))] a ∧ ∃ (s' : DS) (la lb : Value) (c' : Array Value), Dec I E src srcV wx c' (s'.ln la lb) ∧ Imp I w wx ∧ RK (s'.ln la lb) ∧ R = (.nilIface, { s' with h1 := { s'.h1 with min := Nat.max s'.h1.min (s'.bits.getD 256 0) } })
set_option maxRecDepth 100000 in
set_option maxHeartbeats 8000000 in
theorem rh_fin (nl nd : Nat) (hn : nl + nd ≤ 316) (hnd : 1 ≤ nd) (la lb : Value) (hD : Dec I E src srcV wz cs (s.ln la lb)) (f0 : Imp I w wz) (hk : RK (s.ln la lb)) (R : Value × DS) (HR : Hid (R = rhEnd nl nd s))
    (a : Act) (hS : Slots 340 [(294, undef), (0, .pointer (some ⟨I.F, 0, none⟩)), (4, vi nl), (5, vi nd)] a) (Q : Exit → Act → World → Prop)
    (hret : ∀ v s' a' wx c' la lb, Slots 340 [(2, v)] a' → (R = (v, s') ∧ v ≠ .nilIface) → Dec I E src srcV wx c' (s'.ln la lb) → Imp I w wx → Q .ret a' wx) :
    Code.wp Tryd.prog (code25 73) (Exit.then (PostT I E src srcV w nl nd R) Q) a wz := by
  obtain ⟨fl, hfl, rfl, g294, g0, g4, g5, -⟩ := hS
  conv => arg 2; whnf
  revert g294 g0 g4 g5
  revert fl
  refine fun fl hll => AllN_get (n := 340) (K := fun l => l[294]? = _ → l[0]? = _ → l[4]? = _ → l[5]? = _ → Code.wp Tryd.prog _ _ ⟨l.toArray, []⟩ wz) ?_ fl hll
  iterate 340 intro
  dsimp only [AllN]
  intro g294 g0 g4 g5
  cases g294
  cases g0
  cases g4
  cases g5
  have hrd := hD.drew.rdB 0 nl 316 (by omega)
  rw [List.drop_zero] at hrd
  have hb1 : ∀ x ∈ s.bits.take nl, x ≤ 15 := fun x hx => hk.bits x (List.mem_of_mem_take hx)
  have hini := init1_any hD.drew hk.t1 (.slice (some ⟨I.B, 0, none⟩) nl 316) (s.bits.take nl) hrd (fun x off n c e => by
    simp only [Value.slice.injEq, Option.some.injEq, Addr.mk.injEq] at e; rw [← e.1.1]; exact Ne.symm hD.ok.FB) hb1 (by rw [List.length_take, hD.blen]; omega)
  have cpb := hD.c_pb
  have HR1 : Hid (R = if (initH (s.bits.take nl)).1 then
    if (initH ((s.bits.drop nl).take nd)).1 then
      (.nilIface, { s with h1 := { (initH (s.bits.take nl)).2 with min := Nat.max (initH (s.bits.take nl)).2.min (s.bits.getD 256 0) }, h2 := (initH ((s.bits.drop nl).take nd)).2 })
    else (corV s.ro, { s with h1 := (initH (s.bits.take nl)).2, h2 := (initH ((s.bits.drop nl).take nd)).2 })
  else (corV s.ro, { s with h1 := (initH (s.bits.take nl)).2 })) := Lib.hid HR.out
  have y1 : (nl : Int) ≤ 316 := by omega
  have y2 : (0 : Int) ≤ (nl : Int) := by omega
  have y3 : (nl : Int) + (nd : Int) = ((nl + nd : Nat) : Int) := by omega
  have y4 : ((nl + nd : Nat) : Int) ≤ 316 := by omega
  have y5 : (nl : Int) ≤ ((nl + nd : Nat) : Int) := by omega
  have HK := Lib.hid hk
  generalize initH (s.bits.take nl) = ih at *
  obtain ⟨ok, hh⟩ := ih
  simp only [] at hini
  cases ok with
  | false =>
    have HR2 : Hid (R = (corV s.ro, { s with h1 := hh })) := Lib.hid HR1.out
    have HI1 := Lib.hid hini
    clear HR HR1 hk hrd hb1 hini HK
    go_wp2_with fail
    rename_i K hK
    refine wp_region_noPanic ?_
    refine wp_region_held_drew (S := fun w => w.cell? ⟨I.F, 1035, none⟩ = some (.pointer (some ⟨I.B, 0, none⟩))) (by kernel_rfl) (by exact cpb) (fun hHeld => ?_)
    (refine' wpAnyH_take (i := 0) (v := _) rfl (by kernel_rfl) (by kernel_rfl) (by kernel_rfl) (fun _ _ _ h => h) (Or.inl ⟨by kernel_rfl, ?hy0⟩) (by assumption) ?rest0; (case hy0 => (intro w hSw; (try dsimp only at hSw); go_simp; (try with_reducible rfl))); (try simp only [List.getElem_toArray, List.getElem_cons_zero, Act.put, List.setIfInBounds_toArray, List.set_cons_zero, List.set_cons_succ]))
    (refine' wpAnyH_take (i := 1) (v := _) rfl (by kernel_rfl) (by kernel_rfl) (by kernel_rfl) (fun _ _ _ h => h) (Or.inl ⟨by kernel_rfl, ?hy1⟩) (by assumption) ?rest1; (case hy1 => (intro w hSw; (try dsimp only at hSw); go_simp; (try with_reducible rfl))); (try simp only [List.getElem_toArray, List.getElem_cons_succ, List.getElem_cons_zero, Act.put, List.setIfInBounds_toArray, List.set_cons_zero, List.set_cons_succ]))
    (refine' wpAnyH_take (i := 2) (v := _) rfl (by kernel_rfl) (by kernel_rfl) (by kernel_rfl) (fun _ _ _ h => h) (Or.inl ⟨by kernel_rfl, ?hy2⟩) (by assumption) ?rest2; (case hy2 => (intro w hSw; (try dsimp only at hSw); go_simp; (try with_reducible rfl))); (try simp only [List.getElem_toArray, List.getElem_cons_succ, List.getElem_cons_zero, Act.put, List.setIfInBounds_toArray, List.set_cons_zero, List.set_cons_succ]))
    (refine' wpAnyH_take (i := 3) (v := _) rfl (by kernel_rfl) (by kernel_rfl) (by kernel_rfl) (fun _ _ _ h => h) (Or.inl ⟨by kernel_rfl, ?hy3⟩) (by assumption) ?rest3; (case hy3 => (intro w hSw; (try dsimp only at hSw); go_simp; (try with_reducible rfl))); (try simp only [List.getElem_toArray, List.getElem_cons_succ, List.getElem_cons_zero, Act.put, List.setIfInBounds_toArray, List.set_cons_zero, List.set_cons_succ]))
    (refine' wpAnyH_take (i := 4) (v := _) rfl (by kernel_rfl) (by kernel_rfl) (by kernel_rfl) (fun _ _ _ h => h) (Or.inl ⟨by kernel_rfl, ?hy4⟩) (by assumption) ?rest4; (case hy4 => (intro w hSw; (try dsimp only at hSw); go_simp; (try with_reducible rfl))); (try simp only [List.getElem_toArray, List.getElem_cons_succ, List.getElem_cons_zero, Act.put, List.setIfInBounds_toArray, List.set_cons_zero, List.set_cons_succ]))
    (refine' wpAnyH_take (i := 5) (v := _) rfl (by kernel_rfl) (by kernel_rfl) (by kernel_rfl) (fun _ _ _ h => h) (Or.inl ⟨by kernel_rfl, ?hy5⟩) (by assumption) ?rest5; (case hy5 => (intro w hSw; (try dsimp only at hSw); go_simp; (try with_reducible rfl))); (try simp only [List.getElem_toArray, List.getElem_cons_succ, List.getElem_cons_zero, Act.put, List.setIfInBounds_toArray, List.set_cons_zero, List.set_cons_succ]))
    (refine' wpAnyH_take (i := 6) (v := _) rfl (by kernel_rfl) (by kernel_rfl) (by kernel_rfl) (fun _ _ _ h => h) (Or.inl ⟨by kernel_rfl, ?hy6⟩) (by assumption) ?rest6; (case hy6 => (intro w hSw; (try dsimp only at hSw); go_simp; (try with_reducible rfl))); (try simp only [List.getElem_toArray, List.getElem_cons_succ, List.getElem_cons_zero, Act.put, List.setIfInBounds_toArray, List.set_cons_zero, List.set_cons_succ]))
    (refine' wpAnyH_take (i := 7) (v := _) rfl (by kernel_rfl) (by kernel_rfl) (by kernel_rfl) (fun _ _ _ h => h) (Or.inl ⟨by kernel_rfl, ?hy7⟩) (by assumption) ?rest7; (case hy7 => (intro w hSw; (try dsimp only at hSw); go_simp; (try with_reducible rfl))); (try simp only [List.getElem_toArray, List.getElem_cons_succ, List.getElem_cons_zero, Act.put, List.setIfInBounds_toArray, List.set_cons_zero, List.set_cons_succ]))
    (refine' wpAnyH_take (i := 8) (v := _) rfl (by kernel_rfl) (by kernel_rfl) (by kernel_rfl) (fun _ _ _ h => h) (Or.inl ⟨by kernel_rfl, ?hy8⟩) (by assumption) ?rest8; (case hy8 => (intro w hSw; (try dsimp only at hSw); go_simp; (try with_reducible rfl))); (try simp only [List.getElem_toArray, List.getElem_cons_succ, List.getElem_cons_zero, Act.put, List.setIfInBounds_toArray, List.set_cons_zero, List.set_cons_succ]))
    (refine' wpAnyH_take (i := 9) (v := _) rfl (by kernel_rfl) (by kernel_rfl) (by kernel_rfl) (fun _ _ _ h => h) (Or.inl ⟨by kernel_rfl, ?hy9⟩) (by assumption) ?rest9; (case hy9 => (intro w hSw; (try dsimp only at hSw); go_simp; (try with_reducible rfl))); (try simp only [List.getElem_toArray, List.getElem_cons_succ, List.getElem_cons_zero, Act.put, List.setIfInBounds_toArray, List.set_cons_zero, List.set_cons_succ]))
    refine wpAnyH_ready (rs := [10]) (by kernel_rfl) (by simp) ?_
    refine AllReadyH.cons rfl (fun K2 hK2 => ?_) AllReadyH.nil
    go_simp
    go_at_call 39
    refine Calls.mono HI1.out ?_
    rintro r w3 ⟨rfl, f3, c3, lv, hD3, hti⟩
    refine hK2.out _ _ (by exact hD3.c_pb) (fun hHeld => ?_)
    clear hK2 K2
    try simp only [List.getElem_toArray, List.getElem_cons_succ, List.getElem_cons_zero, Act.put, List.setIfInBounds_toArray, List.set_cons_zero, List.set_cons_succ]
    (refine' wpAnyH_take (i := 11) (v := _) rfl (by kernel_rfl) (by kernel_rfl) (by kernel_rfl) (fun _ _ _ h => h) (Or.inl ⟨by kernel_rfl, ?hy11⟩) (by assumption) ?rest11; (case hy11 => (intro w hSw; (try dsimp only at hSw); go_simp; (try with_reducible rfl))); (try simp only [List.getElem_toArray, List.getElem_cons_succ, List.getElem_cons_zero, Act.put, List.setIfInBounds_toArray, List.set_cons_zero, List.set_cons_succ]))
    (refine' wpAnyH_take (i := 12) (v := _) rfl (by kernel_rfl) (by kernel_rfl) (by kernel_rfl) (fun _ _ _ h => h) (Or.inl ⟨by kernel_rfl, ?hy12⟩) (by assumption) ?rest12; (case hy12 => (intro w hSw; (try dsimp only at hSw); go_simp; (try with_reducible rfl))); (try simp only [List.getElem_toArray, List.getElem_cons_succ, List.getElem_cons_zero, Act.put, List.setIfInBounds_toArray, List.set_cons_zero, List.set_cons_succ]))
    (refine' wpAnyH_take (i := 13) (v := undef) rfl (by kernel_rfl) (by kernel_rfl) (by kernel_rfl) (fun _ _ _ h => h) (Or.inr ⟨by kernel_rfl, rfl⟩) (by assumption) ?_; (try simp only [List.getElem_toArray, List.getElem_cons_succ, List.getElem_cons_zero, Act.put, List.setIfInBounds_toArray, List.set_cons_zero, List.set_cons_succ]))
    (refine' wpAnyH_take (i := 14) (v := undef) rfl (by kernel_rfl) (by kernel_rfl) (by kernel_rfl) (fun _ _ _ h => h) (Or.inr ⟨by kernel_rfl, rfl⟩) (by assumption) ?_; (try simp only [List.getElem_toArray, List.getElem_cons_succ, List.getElem_cons_zero, Act.put, List.setIfInBounds_toArray, List.set_cons_zero, List.set_cons_succ]))
    (refine' wpAnyH_take (i := 15) (v := undef) rfl (by kernel_rfl) (by kernel_rfl) (by kernel_rfl) (fun _ _ _ h => h) (Or.inr ⟨by kernel_rfl, rfl⟩) (by assumption) ?_; (try simp only [List.getElem_toArray, List.getElem_cons_succ, List.getElem_cons_zero, Act.put, List.setIfInBounds_toArray, List.set_cons_zero, List.set_cons_succ]))
    (refine' wpAnyH_take (i := 16) (v := undef) rfl (by kernel_rfl) (by kernel_rfl) (by kernel_rfl) (fun _ _ _ h => h) (Or.inr ⟨by kernel_rfl, rfl⟩) (by assumption) ?_; (try simp only [List.getElem_toArray, List.getElem_cons_succ, List.getElem_cons_zero, Act.put, List.setIfInBounds_toArray, List.set_cons_zero, List.set_cons_succ]))
    (refine' wpAnyH_take (i := 17) (v := undef) rfl (by kernel_rfl) (by kernel_rfl) (by kernel_rfl) (fun _ _ _ h => h) (Or.inr ⟨by kernel_rfl, rfl⟩) (by assumption) ?_; (try simp only [List.getElem_toArray, List.getElem_cons_succ, List.getElem_cons_zero, Act.put, List.setIfInBounds_toArray, List.set_cons_zero, List.set_cons_succ]))
    (refine' wpAnyH_take (i := 18) (v := undef) rfl (by kernel_rfl) (by kernel_rfl) (by kernel_rfl) (fun _ _ _ h => h) (Or.inr ⟨by kernel_rfl, rfl⟩) (by assumption) ?_; (try simp only [List.getElem_toArray, List.getElem_cons_succ, List.getElem_cons_zero, Act.put, List.setIfInBounds_toArray, List.set_cons_zero, List.set_cons_succ]))
    (refine' wpAnyH_take (i := 19) (v := undef) rfl (by kernel_rfl) (by kernel_rfl) (by kernel_rfl) (fun _ _ _ h => h) (Or.inr ⟨by kernel_rfl, rfl⟩) (by assumption) ?_; (try simp only [List.getElem_toArray, List.getElem_cons_succ, List.getElem_cons_zero, Act.put, List.setIfInBounds_toArray, List.set_cons_zero, List.set_cons_succ]))
    (refine' wpAnyH_take (i := 20) (v := undef) rfl (by kernel_rfl) (by kernel_rfl) (by kernel_rfl) (fun _ _ _ h => h) (Or.inr ⟨by kernel_rfl, rfl⟩) (by assumption) ?_; (try simp only [List.getElem_toArray, List.getElem_cons_succ, List.getElem_cons_zero, Act.put, List.setIfInBounds_toArray, List.set_cons_zero, List.set_cons_succ]))
    (refine' wpAnyH_take (i := 21) (v := undef) rfl (by kernel_rfl) (by kernel_rfl) (by kernel_rfl) (fun _ _ _ h => h) (Or.inr ⟨by kernel_rfl, rfl⟩) (by assumption) ?_; (try simp only [List.getElem_toArray, List.getElem_cons_succ, List.getElem_cons_zero, Act.put, List.setIfInBounds_toArray, List.set_cons_zero, List.set_cons_succ]))
    (refine' wpAnyH_take (i := 22) (v := undef) rfl (by kernel_rfl) (by kernel_rfl) (by kernel_rfl) (fun _ _ _ h => h) (Or.inr ⟨by kernel_rfl, rfl⟩) (by assumption) ?_; (try simp only [List.getElem_toArray, List.getElem_cons_succ, List.getElem_cons_zero, Act.put, List.setIfInBounds_toArray, List.set_cons_zero, List.set_cons_succ]))
    (refine' wpAnyH_take (i := 23) (v := undef) rfl (by kernel_rfl) (by kernel_rfl) (by kernel_rfl) (fun _ _ _ h => h) (Or.inr ⟨by kernel_rfl, rfl⟩) (by assumption) ?_; (try simp only [List.getElem_toArray, List.getElem_cons_succ, List.getElem_cons_zero, Act.put, List.setIfInBounds_toArray, List.set_cons_zero, List.set_cons_succ]))
    (refine' wpAnyH_take (i := 24) (v := undef) rfl (by kernel_rfl) (by kernel_rfl) (by kernel_rfl) (fun _ _ _ h => h) (Or.inr ⟨by kernel_rfl, rfl⟩) (by assumption) ?_; (try simp only [List.getElem_toArray, List.getElem_cons_succ, List.getElem_cons_zero, Act.put, List.setIfInBounds_toArray, List.set_cons_zero, List.set_cons_succ]))
    (refine' wpAnyH_take (i := 25) (v := undef) rfl (by kernel_rfl) (by kernel_rfl) (by kernel_rfl) (fun _ _ _ h => h) (Or.inr ⟨by kernel_rfl, rfl⟩) (by assumption) ?_; (try simp only [List.getElem_toArray, List.getElem_cons_succ, List.getElem_cons_zero, Act.put, List.setIfInBounds_toArray, List.set_cons_zero, List.set_cons_succ]))
    (refine' wpAnyH_take (i := 26) (v := undef) rfl (by kernel_rfl) (by kernel_rfl) (by kernel_rfl) (fun _ _ _ h => h) (Or.inr ⟨by kernel_rfl, rfl⟩) (by assumption) ?_; (try simp only [List.getElem_toArray, List.getElem_cons_succ, List.getElem_cons_zero, Act.put, List.setIfInBounds_toArray, List.set_cons_zero, List.set_cons_succ]))
    (refine' wpAnyH_take (i := 27) (v := undef) rfl (by kernel_rfl) (by kernel_rfl) (by kernel_rfl) (fun _ _ _ h => h) (Or.inr ⟨by kernel_rfl, rfl⟩) (by assumption) ?_; (try simp only [List.getElem_toArray, List.getElem_cons_succ, List.getElem_cons_zero, Act.put, List.setIfInBounds_toArray, List.set_cons_zero, List.set_cons_succ]))
    (refine' wpAnyH_take (i := 28) (v := _) rfl (by kernel_rfl) (by kernel_rfl) (by kernel_rfl) (fun _ _ _ h => h) (Or.inl ⟨by kernel_rfl, ?hy28⟩) (by assumption) ?rest28; (case hy28 => (intro w hSw; (try dsimp only at hSw); go_simp; (try with_reducible rfl))); (try simp only [List.getElem_toArray, List.getElem_cons_succ, List.getElem_cons_zero, Act.put, List.setIfInBounds_toArray, List.set_cons_zero, List.set_cons_succ]))
    refine wpAnyH_done (by kernel_rfl) ?_ _
    refine NoPanic.normal ?_
    refine hK _ _ ?_
    have cro := hD3.c_ro
    have HD3 := Lib.hid hD3
    have f4 := f0.drew.trans f3
    clear hD3 hK cpb HI1 hHeld y1 y2 y3 y4 y5
    go_wp2_with fail
    exact hret (corV s.ro) { s with h1 := hh } _ _ c3 lv lb ⟨_, rfl, rfl, And.intro rfl trivial⟩ ⟨HR2.out, fun h => by cases h⟩ HD3.out f4
  | true =>
    have HR2 : Hid (R = if (initH ((s.bits.drop nl).take nd)).1 then
      (.nilIface, { s with h1 := { hh with min := Nat.max hh.min (s.bits.getD 256 0) }, h2 := (initH ((s.bits.drop nl).take nd)).2 })
      else (.iface 78 (.int .i64 (s.ro : Int)), { s with h1 := hh, h2 := (initH ((s.bits.drop nl).take nd)).2 })) := Lib.hid HR1.out
    have hb2 : ∀ x ∈ (s.bits.drop nl).take nd, x ≤ 15 := take_le hk.bits nl nd
    have hl2 : ((s.bits.drop nl).take nd).length ≤ 1000 := by rw [List.length_take, List.length_drop, hD.blen]; omega
    have hfb : I.F ≠ I.B := hD.ok.FB
    have hini2 : ∀ w3 c3 lv, Dec I E src srcV w3 c3 { s with h1 := hh, l1 := lv, l2 := lb } → Calls Tryd.prog 39 #[.pointer (some ⟨I.F, 520, none⟩), .slice (some ⟨I.B, nl, none⟩) nd (316 - nl)] w3 fun r w' => r = .returned (.bool (initH ((s.bits.drop nl).take nd)).1) ∧ Imp I w3 w' ∧ ∃ cs' lv2, Dec I E src srcV w' cs' { s with h1 := hh, l1 := lv, h2 := (initH ((s.bits.drop nl).take nd)).2, l2 := lv2 } ∧ TI (initH ((s.bits.drop nl).take nd)).2 lv2 := fun w3 c3 lv h3 =>
      init2_any h3 HK.out.t2 (.slice (some ⟨I.B, nl, none⟩) nd (316 - nl)) _ (h3.rdB nl nd (316 - nl) (by omega)) (fun x off n c e => by
        simp only [Value.slice.injEq, Option.some.injEq, Addr.mk.injEq] at e; rw [← e.1.1]; exact Ne.symm hfb) hb2 hl2
    generalize initH ((s.bits.drop nl).take nd) = ih2 at *
    obtain ⟨ok2, hh2⟩ := ih2
    simp only [] at hini2
    have HI2 := Lib.hid hini2
    have HI1 := Lib.hid hini
    clear HR HR1 hk hrd hb2 hl2 hfb hini hini2 hb1
    generalize hnn : nl + nd = nn at *
    have y6 : (nn : Int) - (nl : Int) = (nd : Int) := by omega
    have y8 : nn - nl = nd := by omega
    have y9 : IntKind.i64.wrap (nn : Int) = (nn : Int) := wi64 (by omega)
    have y10 : ¬ 316 = nl := by omega
    clear hnn
    go_wp2_with fail
    rename_i K hK
    refine wp_region_noPanic ?_
    go_region_held3 (fun w => w.cell? ⟨I.F, 1035, none⟩ = some (.pointer (some ⟨I.B, 0, none⟩))) (first | exact cpb | exact hD4.c_pb | exact hD3.c_pb) (first | (have := hD3; go_at_call 39; refine Calls.mono (HI2.out _ _ _ hD3) ?_; rintro r w4 ⟨rfl, f4, c4, lv2, hD4, hti2⟩) | (go_at_call 39; refine Calls.mono HI1.out ?_; rintro r w3 ⟨rfl, f3, c3, lv, hD3, hti⟩))
    refine NoPanic.normal ?_
    refine hK _ _ ?_
    have cro := hD4.c_ro
    have HKF : Hid (RK (({ s with h1 := hh, h2 := hh2 } : DS).ln lv lv2)) := Lib.hid ⟨HK.out.nb, hti, hti2, HK.out.bits, HK.out.cb⟩
    have HD4 := Lib.hid hD4
    have f5 := (f0.drew.trans f3).trans f4
    clear hD4 hD3 hK cpb HI1 HI2 f3 f4 hti hti2
    cases ok2 with
    | false =>
      go_wp2_with fail
      exact hret (corV s.ro) { s with h1 := hh, h2 := hh2 } _ _ c4 lv lv2 ⟨_, rfl, rfl, And.intro rfl trivial⟩ ⟨HR2.out, fun h => by cases h⟩ HD4.out f5
    | true =>
      go_wp2_with fail
      exact And.intro ⟨_, rfl, rfl, And.intro rfl trivial⟩ ⟨({ s with h1 := hh, h2 := hh2 } : DS), lv, lv2, c4, HD4.out, f5, HKF.out, HR2.out⟩
end
end Go.Proofs.YtbbnibbdiiffkaaDoor

/- The head of a block with codes of its own: the least length is raised. -/
namespace Go.Proofs.YtbbnibbdiiffkaaDoor
open Go.RowKit

section
variable {I : Ids} {E : Errs} {src : List Nat} {srcV : Value} {w wz : World} {cs : Array Value} {s : DS}
set_option maxRecDepth 100000 in
set_option maxHeartbeats 4000000 in
theorem rh_min (hD : Dec I E src srcV wz cs s) (f0 : Imp I w wz) (a : Act) (hS : Slots 340 [(0, .pointer (some ⟨I.F, 0, none⟩))] a) (Q : Exit → Act → World → Prop) :
    Code.wp Tryd.prog (code25 75) (Exit.then (fun a' wx => Slots 340 [] a' ∧ PostS I E src srcV w wx (fun s' => s' = { s with h1 := { s.h1 with min := Nat.max s.h1.min (s.bits.getD 256 0) } })) Q) a wz := by
  obtain ⟨fl, hfl, rfl, g0, -⟩ := hS
  conv => arg 2; whnf
  revert g0
  revert fl
  refine fun fl hll => AllN_get (n := 340) (K := fun l => l[0]? = _ → Code.wp Tryd.prog _ _ ⟨l.toArray, []⟩ wz) ?_ fl hll
  iterate 340 intro
  dsimp only [AllN]
  intro g0
  cases g0
  have cpb := hD.c_pb
  have cbt := hD.c_bits 256 (by decide)
  have cmn : wz.cell? ⟨I.F, 5, none⟩ = some (vi s.h1.min) := (hD.cell 5).trans hD.fc.h1.mn
  have zm := hD.fz 5
  have HD := Lib.hid hD
  have HF := Lib.hid f0
  generalize hbv : s.bits.getD 256 0 = v at *
  by_cases hlt : s.h1.min < v
  · have y1 : (s.h1.min : Int) < (v : Int) := Int.ofNat_lt.2 hlt
    have HM : Hid (Nat.max s.h1.min v = v) := Lib.hid (Nat.max_eq_right (Nat.le_of_lt hlt))
    clear hD f0 hbv hlt
    go_wp2_with fail
    go_quiet (fail)
    go_wp2_with fail
    exact And.intro ⟨_, rfl, rfl, trivial⟩ ⟨_, _, (HD.out.drewN nq).set_min1 v, (HF.out.drewN nq).trans (Imp.setF I _ 5 (vi v)), by rw [HM.out]⟩
  · have y1 : ¬ (s.h1.min : Int) < (v : Int) := fun h => hlt (Int.ofNat_lt.1 h)
    have HM : Hid (Nat.max s.h1.min v = s.h1.min) := Lib.hid (Nat.max_eq_left (Nat.le_of_not_lt hlt))
    clear hD f0 hbv hlt
    go_wp2_with fail
    go_quiet (fail)
    go_wp2_with fail
    exact And.intro ⟨_, rfl, rfl, trivial⟩ ⟨_, _, HD.out.drewN nq, HF.out.drewN nq, by rw [HM.out]⟩
end
end Go.Proofs.YtbbnibbdiiffkaaDoor

/- The head of a block with codes of its own: joined. -/
namespace Go.Proofs.YtbbnibbdiiffkaaDoor
open Go.RowKit

theorem headArith {b nb : Nat} (hb : b < 2 ^ 32) (hn : 14 ≤ nb) (hn24 : nb ≤ 24) : ∃ x nl q1 y nd q2 z nc q3 n2 : Nat, b % 32 = x ∧ x + 257 = nl ∧ b / 32 = q1 ∧ q1 % 32 = y ∧ y + 1 = nd ∧ q1 / 32 = q2 ∧ q2 % 16 = z ∧ z + 4 = nc ∧ q2 / 16 = q3 ∧ nb - 14 = n2 ∧
    q1 < 2 ^ 32 ∧ q2 < 2 ^ 32 ∧ q3 < 2 ^ 32 ∧ n2 ≤ 24 ∧ nc ≤ 19 ∧ nl ≤ 288 ∧ nd ≤ 32 ∧ x ≤ 31 ∧ y ≤ 31 ∧ z ≤ 15 ∧
    bits .and .u32 (b : Int) 31 = (x : Int) ∧ bits .and .u32 (q1 : Int) 31 = (y : Int) ∧ bits .and .u32 (q2 : Int) 15 = (z : Int) ∧ (b : Int) / 32 = (q1 : Int) ∧ (q1 : Int) / 32 = (q2 : Int) ∧ (q2 : Int) / 16 = (q3 : Int) ∧
    (x : Int) + 257 = (nl : Int) ∧ (y : Int) + 1 = (nd : Int) ∧ (z : Int) + 4 = (nc : Int) ∧ IntKind.u64.wrap ((nb : Int) - 14) = (n2 : Int) ∧ (nb : Int) - 14 = (n2 : Int) := by
  have a31 : ∀ {b : Nat}, b < 2 ^ 32 → bits .and .u32 (b : Int) 31 = ((b % 32 : Nat) : Int) := fun {b} hb => by
    have := and_u32 b 31 hb (by decide)
    rw [show ((31 : Nat) : Int) = 31 from rfl] at this
    rw [this, show (31 : Nat) = 2 ^ 5 - 1 from rfl, and_mask]
  have a15 : ∀ {b : Nat}, b < 2 ^ 32 → bits .and .u32 (b : Int) 15 = ((b % 16 : Nat) : Int) := fun {b} hb => by
    have := and_u32 b 15 hb (by decide)
    rw [show ((15 : Nat) : Int) = 15 from rfl] at this
    rw [this, show (15 : Nat) = 2 ^ 4 - 1 from rfl, and_mask]
  refine ⟨_, _, _, _, _, _, _, _, _, _, rfl, rfl, rfl, rfl, rfl, rfl, rfl, rfl, rfl, rfl, by omega, by omega, by omega, by omega, by omega, by omega, by omega, by omega, by omega, by omega,
    a31 hb, a31 (by omega), a15 (by omega), by omega, by omega, by omega, by omega, by omega, by omega, ?_, by omega⟩
  · rw [IntKind.wrap_u64]; omega

section
variable {I : Ids} {E : Errs} {src : List Nat} {srcV : Value} {w wz : World} {cs : Array Value} {s : DS}
theorem wp_code_eq {P : Program} {c c' : Code} {Q : Exit → Act → World → Prop} {a : Act} (e : c = c') (h : Code.wp P c' Q a wz) : Code.wp P c Q a wz := e ▸ h
/-- What readHuffman leaves. -/
def RhPost (I : Ids) (E : Errs) (src : List Nat) (srcV : Value) (w : World) (R : Value × DS) (r : Ending) (w' : World) : Prop :=
  r = .returned R.1 ∧ Imp I w w' ∧ ∃ la lb c', Dec I E src srcV w' c' (R.2.ln la lb) ∧ (R.1 = .nilIface → RK (R.2.ln la lb))
theorem ret25 {Post : Ending → World → Prop} {v : Value} {a : Act} {wx : World} (hS : Slots 340 [(2, v)] a) (h : Post (.returned v) wx) : bodyPost Tryd.prog Tryd.f25 Post .ret a wx := by
  obtain ⟨fl, hfl, rfl, g2, -⟩ := hS
  have e : fl.toArray.getD 2 undef = v := by simp only [Array.getD_eq_getD_getElem?, List.getElem?_toArray, g2]; rfl
  refine bodyPost_ret (results_tmp rfl _ _ _) rfl ?_
  show Post (.returned (fl.toArray.getD 2 undef)) wx
  rw [e]; exact h
set_option maxRecDepth 100000 in
set_option maxHeartbeats 8000000 in
theorem readHuffman_any (hD : Dec I E src srcV w cs s) (hk : RK s) :
    Calls Tryd.prog 25 #[.pointer (some ⟨I.F, 0, none⟩)] w (RhPost I E src srcV w (rhS E src s)) := by
  obtain ⟨N, hN⟩ : ∃ N, N = need src 14 4 s := ⟨_, rfl⟩
  have HN := Lib.hid hN
  clear hN
  have HR1 : Hid (rhS E src s = if N.1 then rh1 E src N.2 else (E.uneV, N.2)) := Lib.hid (by rw [rhS, ← HN.out])
  generalize rhS E src s = R at *
  obtain ⟨hkN, heN, hn14⟩ := hk.need hD.kle HN (by decide)
  go_enter Tryd.func25, Tryd.ntmps25
  go_upto_block 0 with fail
  rename_i K0 hK0
  refine wp_code_eq (c' := code25b 0) (by kernel_rfl) ?_
  refine wp_cut2 _ (rh_need14 hD (Frm.refl _ _) hk.nb N HN _ ?_ _ ?_) ?_
  · exact ⟨_, rfl, rfl, And.intro rfl (And.intro rfl trivial)⟩
  · intro a' wx c' hS' hN1 hD' f'
    refine ret25 hS' ⟨by rw [HR1.out, hN1]; rfl, f', s.l1, s.l2, c', ?_, fun h => ?_⟩
    · rw [HR1.out, hN1]; show Dec I E src srcV wx c' (N.2.ln s.l1 s.l2); rw [show (N.2.ln s.l1 s.l2) = N.2 by obtain ⟨k, ro, b, nb, e⟩ := heN; rw [e]]; exact hD'
    · rw [HR1.out, hN1] at h; cases h
  rintro a wx ⟨⟨fl, hfl, rfl, g294, g0, -⟩, hN1, ⟨c2, hD2⟩, f2⟩
  refine hK0 _ _ ?_
  clear hK0 hD
  have HR2 : Hid (R = rh1 E src N.2) := Lib.hid (by rw [HR1.out, if_pos hN1])
  have hn14' := hn14 hN1
  clear hn14 heN HR1 hN1 HN hk
  generalize N.2 = s1 at *
  clear N
  obtain ⟨x, nl, q1, y, nd, q2, z, nc, q3, n2, hx, hnl, hq1, hy, hnd, hq2, hz, hnc, hq3, hn2, b1, b2, b3, b4, b5, b6, b7, b8, b9, b10, z1, z2, z3, z4, z5, z6, z7, z8, z9, z10, z11⟩ := headArith hD2.b32 hn14' hkN.nb
  have HR3 : Hid (R = if 286 < nl then (corV s1.ro, s1) else if 30 < nd then (corV s1.ro, { s1 with b := q1 }) else rhCb E src nl nd nc nc 0 { s1 with b := q3, nb := n2 }) := Lib.hid (by
    rw [HR2.out, rh1, hx, hnl, hq1]
    unfold rh2 rh3
    simp only []
    rw [hy, hnd, hq2, hz, hnc, hq3, hn2])
  have cb := hD2.c_b
  have zb := hD2.fz 3
  have cro := hD2.c_ro
  have hD3 := hD2.set_b q1 b1
  have hD4 := hD3.set_b q2 b2
  have hD5 := hD4.set_b q3 b3
  have hD6 := hD5.set_nb n2 (Nat.le_trans b4 (by decide))
  have cb3 := hD3.c_b
  have cb4 := hD4.c_b
  have cro3 := hD3.c_ro
  have cnb5 := hD5.c_nb
  have zb3 := hD3.fz 3
  have zb4 := hD4.fz 3
  have zb5 := hD5.fz 4
  have f3 := f2.trans (Imp.setF I _ 3 (.int .u32 (q1 : Int)))
  have f4 := f3.trans (Imp.setF I _ 3 (.int .u32 (q2 : Int)))
  have f5 := f4.trans (Imp.setF I _ 3 (.int .u32 (q3 : Int)))
  have f6 := f5.trans (Imp.setF I _ 4 (.int .u64 (n2 : Int)))
  simp only [] at cb3 cb4 cro3 cnb5
  have hkF : RK { s1 with b := q3, nb := n2 } := ⟨b4, hkN.t1, hkN.t2, hkN.bits, hkN.cb⟩
  have HF := Lib.hid (And.intro hkF (And.intro hD6 f6))
  have HD3 := Lib.hid (And.intro hD3 f3)
  have HD2 := Lib.hid (And.intro hD2 f2)
  clear HR2 hx hnl hnd hnc hq1 hy hq2 hz hq3 hn2 hkF hD2 hD3 hD4 hD5 hD6 f2 f3 f4 f5 f6 hn14' hkN b1 b2 b3
  revert g294 g0
  revert fl
  refine fun fl hll => AllN_get (n := 340) (K := fun l => l[294]? = _ → l[0]? = _ → Code.wp _ _ _ ⟨l.toArray, []⟩ wx) ?_ fl hll
  iterate 340 intro
  dsimp only [AllN]
  intro g294 g0
  cases g294
  cases g0
  by_cases h286 : 286 < nl
  · have y1 : (286 : Int) < (nl : Int) := Int.ofNat_lt.2 h286
    have HE : Hid (R = (corV s1.ro, s1)) := Lib.hid (by rw [HR3.out, if_pos h286])
    go_wp2_with fail
    go_ret
    rw [HE.out]
    exact ⟨rfl, HD2.out.2, s1.l1, s1.l2, c2, HD2.out.1, fun h => by cases h⟩
  · have y1 : ¬ (286 : Int) < (nl : Int) := fun h => h286 (Int.ofNat_lt.1 h)
    by_cases h30 : 30 < nd
    · have y2 : (30 : Int) < (nd : Int) := Int.ofNat_lt.2 h30
      have HE : Hid (R = (corV s1.ro, { s1 with b := q1 })) := Lib.hid (by rw [HR3.out, if_neg h286, if_pos h30])
      go_wp2_with fail
      go_ret
      rw [HE.out]
      exact ⟨rfl, HD3.out.2, s1.l1, s1.l2, _, HD3.out.1, fun h => by cases h⟩
    · have y2 : ¬ (30 : Int) < (nd : Int) := fun h => h30 (Int.ofNat_lt.1 h)
      have HR4 : Hid (R = rhCb E src nl nd nc nc 0 { s1 with b := q3, nb := n2 }) := Lib.hid (by rw [HR3.out, if_neg h286, if_neg h30])
      clear HR3 HD2 HD3
      go_upto_block 2 with fail
      rename_i K2 hK2
      refine wp_code_eq (c' := code25b 2) (by kernel_rfl) ?_
      refine wp_cut2 _ (rh_cbs (vi nl) (vi nd) nl nd nc b5 HF.out.2.1 HF.out.2.2 HF.out.1 R HR4 _ ?_ _ ?_) ?_
      · exact ⟨_, rfl, rfl, And.intro rfl (And.intro rfl (And.intro rfl (And.intro rfl (And.intro rfl (And.intro rfl trivial)))))⟩
      · intro v s' a' wx c' hS' hR' hD' f'
        refine ret25 hS' ⟨by rw [hR'.1], f', s'.l1, s'.l2, c', by rw [hR'.1]; exact hD', fun h => ?_⟩
        rw [hR'.1] at h
        exact absurd h hR'.2
      rintro a wx2 ⟨⟨fl, hfl, rfl, g294, g0, g4, g5, g6, -⟩, ⟨s3, c3, hD3, f3, hk3, hR3⟩⟩
      refine hK2 _ _ ?_
      have HR5 := Lib.hid hR3
      clear hK2 HR4 HF hR3
      have hnl1 : nl + nd ≤ 316 := by omega
      have hnd1 : 1 ≤ nd := by omega
      obtain ⟨nn, hnn⟩ : ∃ nn, nn = nl + nd := ⟨_, rfl⟩
      have q1 : (nl : Int) + (nd : Int) = (nn : Int) := by omega
      have q2 : nn ≤ 316 := by omega
      have HNN := Lib.hid (And.intro hnn (And.intro hnl1 hnd1))
      clear hnn hnl1 hnd1 z1 z2 z3 z4 z5 z6 z7 z8 z9 z10 z11 b4 b6 b7 b8 b9 b10 y1 y2 h286 h30
      revert g294 g0 g4 g5 g6
      revert fl
      refine fun fl hll => AllN_get (n := 340) (K := fun l => l[294]? = _ → l[0]? = _ → l[4]? = _ → l[5]? = _ → l[6]? = _ → Code.wp _ _ _ ⟨l.toArray, []⟩ wx2) ?_ fl hll
      iterate 340 intro
      dsimp only [AllN]
      intro g294 g0 g4 g5 g6
      cases g294
      cases g0
      cases g4
      cases g5
      cases g6
      go_upto_block 6 with fail
      rename_i K6 hK6
      refine wp_code_eq (c' := code25b 6) (by kernel_rfl) ?_
      refine wp_cut2 _ (rh_zero (vi nl) (vi nd) nl nd nc b5 hD3 f3 hk3 R HR5 _ ?_ _) ?_
      · exact ⟨_, rfl, rfl, And.intro rfl (And.intro rfl (And.intro rfl (And.intro rfl (And.intro rfl trivial))))⟩
      rintro a wx3 ⟨⟨fl, hfl, rfl, g294, g0, g4, g5, -⟩, ⟨s4, c4, hD4, f4, hk4, hR4⟩⟩
      refine hK6 _ _ ?_
      have HR6 := Lib.hid hR4
      clear hK6 HR5 hR4 hD3 f3 hk3
      refine wp_seq_k (fun K30 hK30 => ?_)
      refine wp_code_eq (c' := code25 30) (by kernel_rfl) ?_
      refine wp_cut2 _ (rh_tab (vi nl) (vi nd) nl nd hD4 f4 hk4 R HR6 _ ⟨fl, hfl, rfl, g294, g0, g4, g5, trivial⟩ _ ?_) ?_
      · intro v s' a' wx c' la lb hS' hR' hD' f'
        refine ret25 hS' ⟨by rw [hR'.1], f', la, lb, c', by rw [hR'.1]; exact hD', fun h => ?_⟩
        rw [hR'.1] at h
        exact absurd h hR'.2
      rintro a wx4 ⟨⟨fl2, hfl2, rfl, g294, g0, g4, g5, -⟩, s5, la, lb, c5, hD5, f5, hk5, hl5, hR5⟩
      refine hK30 _ _ ?_
      clear hK30
      have HR7 := Lib.hid (And.intro hR5 hl5)
      clear HR6 hD4 f4 hk4 hR5 hl5
      revert g294 g0 g4 g5
      revert fl2
      refine fun fl hll => AllN_get (n := 340) (K := fun l => l[294]? = _ → l[0]? = _ → l[4]? = _ → l[5]? = _ → Code.wp _ _ _ ⟨l.toArray, []⟩ wx4) ?_ fl hll
      iterate 340 intro
      dsimp only [AllN]
      intro g294 g0 g4 g5
      cases g294
      cases g0
      cases g4
      cases g5
      clear cb zb cro cb3 cb4 cro3 cnb5 zb3 zb4 zb5 b5
      go_upto_block 8 with fail
      rename_i K8 hK8
      refine wp_code_eq (c' := code25b 8) (by kernel_rfl) ?_
      refine wp_cut2 (SyEnd I E src srcV w nl nd R) ?_ ?_
      · refine rh_syms nl nd HNN.out.2.1 R _ ?_ _ ?_
        · exact ⟨0, Nat.zero_le _, ⟨_, rfl, rfl, And.intro rfl (And.intro rfl (And.intro rfl (And.intro rfl (And.intro rfl (And.intro (congrArg (fun z : Nat => some (vi z)) HNN.out.1) trivial)))))⟩, s5, la, lb, c5, nl + nd + 1, hD5, f5, hk5, HR7.out.2, by omega, HR7.out.1⟩
        · intro v s' a' wx c' la lb hS' hR' hD' f'
          refine ret25 hS' ⟨by rw [hR'.1], f', la, lb, c', by rw [hR'.1]; exact hD', fun h => ?_⟩
          rw [hR'.1] at h
          exact absurd h hR'.2
      rintro a wx5 ⟨⟨fl, hfl, rfl, g294, g0, g4, g5, -⟩, s6, la, lb, c6, hD6, f6, hk6, hR6⟩
      refine hK8 _ _ ?_
      have HR8 := Lib.hid hR6
      clear hK8 HR7 hR6 hD5 f5 hk5
      refine wp_seq_k (fun K73 hK73 => ?_)
      refine wp_code_eq (c' := code25 73) (by kernel_rfl) ?_
      refine wp_cut2 (PostT I E src srcV w nl nd R) ?_ ?_
      · refine rh_fin nl nd HNN.out.2.1 HNN.out.2.2 la lb hD6 f6 hk6 R HR8 _ ⟨fl, hfl, rfl, g294, g0, g4, g5, trivial⟩ _ ?_
        intro v s' a' wx c' la lb hS' hR' hD' f'
        refine ret25 hS' ⟨by rw [hR'.1], f', la, lb, c', by rw [hR'.1]; exact hD', fun h => ?_⟩
        rw [hR'.1] at h
        exact absurd h hR'.2
      rintro a wx6 ⟨hS7, s7, la, lb, c7, hD7, f7, hk7, hR7⟩
      refine hK73 _ _ ?_
      clear hK73
      refine wp_seq_k (fun K75 hK75 => ?_)
      refine wp_code_eq (c' := code25 75) (by kernel_rfl) ?_
      refine wp_cut2 _ (rh_min hD7 f7 _ hS7 _) ?_
      rintro a wx7 ⟨⟨fl, hfl, rfl, -⟩, s8, c8, hD8, f8, rfl⟩
      refine hK75 _ _ ?_
      clear hK75
      have HE : Hid (RhPost I E src srcV w R (.returned .nilIface) wx7) := Lib.hid (by
        rw [hR7]
        refine ⟨rfl, f8, la, lb, c8, hD8, fun _ => ⟨hk7.nb, ?_, hk7.t2, hk7.bits, hk7.cb⟩⟩
        have hb15 : s7.bits.getD 256 0 ≤ 15 := by
          rw [List.getD_eq_getElem?_getD]
          rcases Nat.lt_or_ge 256 s7.bits.length with h | h
          · rw [List.getElem?_eq_getElem h]; exact hk7.bits _ (List.getElem_mem h)
          · rw [List.getElem?_eq_none h]; exact Nat.zero_le _
        refine ⟨Nat.max_le.2 ⟨hk7.t1.1, hb15⟩, fun h => ?_⟩
        have h0 : s7.h1.min = 0 := Nat.le_zero.1 (h ▸ Nat.le_max_left s7.h1.min (s7.bits.getD 256 0))
        obtain ⟨e1, e2⟩ := hk7.t1.2 h0
        have e1 : s7.h1 = hd0 := e1
        refine ⟨?_, e2⟩
        show ({ s7.h1 with min := Nat.max s7.h1.min (s7.bits.getD 256 0) } : HD) = hd0
        have h' : Nat.max s7.h1.min (s7.bits.getD 256 0) = 0 := h
        rw [h', e1]; rfl)
      clear hD7 hD8 f7 f8 hk7 hR7 HR8 hS7 hD6 f6 hk6
      revert fl
      refine fun fl hll => AllN_get (n := 340) (K := fun l => Code.wp _ _ _ ⟨l.toArray, []⟩ wx7) ?_ fl hll
      iterate 340 intro
      dsimp only [AllN]
      go_wp2_with fail
      go_ret
      exact HE.out
end
end Go.Proofs.YtbbnibbdiiffkaaDoor

/- The next block: what the decoder makes of its head. -/
namespace Go.Proofs.YtbbnibbdiiffkaaDoor
open Go.RowKit

/-- The lengths of a block's codes, as they are kept. -/
def BitsOK (s : DS) : Prop := s.bits.length = 316 ∧ ∀ x ∈ s.bits, x ≤ 15
/-- What the reading of a block's codes comes to: two safe tables, or an error. -/
def GoodR (E : Errs) (R : Value × DS) : Prop := (R.1 = .nilIface ∧ Safe R.2.h1 ∧ Safe R.2.h2) ∨ R.1 = E.uneV ∨ ∃ ro, R.1 = corV ro
theorem need_keep (src : List Nat) (n : Nat) : ∀ g s, ∃ k ro b nb, (need src n g s).2 = { s with k := k, ro := ro, b := b, nb := nb } := by
  intro g
  induction g with
  | zero => intro s; exact ⟨_, _, _, _, rfl⟩
  | succ g ih =>
    intro s
    rw [need]
    split
    · split
      · obtain ⟨k, ro, b, nb, h⟩ := ih { s with k := s.k + 1, ro := s.ro + 1, b := s.b ||| src.getD s.k 0 * 2 ^ s.nb, nb := s.nb + 8 }
        exact ⟨k, ro, b, nb, h⟩
      · exact ⟨_, _, _, _, rfl⟩
    · exact ⟨_, _, _, _, rfl⟩
theorem BitsOK.need {src : List Nat} {s : DS} (h : BitsOK s) (n g : Nat) : BitsOK (need src n g s).2 := by
  obtain ⟨k, ro, b, nb, e⟩ := need_keep src n g s
  rw [e]; exact h
theorem fillR_len (i v : Nat) : ∀ r l, (fillR l i v r).length = l.length := by
  intro r
  induction r with
  | zero => intro l; rfl
  | succ r ih => intro l; rw [fillR, List.length_set, ih]
theorem rhX_bits {E : Errs} {src : List Nat} {n i x i' : Nat} {s s' : DS} (h : rhX E src n i x s = .ok i' s') (hb : BitsOK s) : BitsOK s' := by
  unfold rhX at h
  split at h
  · cases h
    exact ⟨by simp only [List.length_set]; exact hb.1, mem_set_le hb.2 (by omega)⟩
  · split at h
    · cases h
    · split at h
      · unfold rhRep at h
        have hb' := hb.need (src := src) (exN x) 4
        generalize need src (exN x) 4 s = N at *
        split at h
        · cases h
        · cases h
          refine ⟨by simp only [fillR_len]; exact hb'.1, fillR_mem ?_ _ _ _ hb'.2⟩
          split
          · rw [List.getD_eq_getElem?_getD]
            rcases Nat.lt_or_ge (i - 1) s.bits.length with h1 | h1
            · rw [List.getElem?_eq_getElem h1]; exact hb.2 _ (List.getElem_mem h1)
            · rw [List.getElem?_eq_none h1]; exact Nat.zero_le _
          · exact Nat.zero_le _
      · cases h
theorem rhX_err {E : Errs} {src : List Nat} {n i x : Nat} {s s' : DS} {v : Value} (h : rhX E src n i x s = .err v s') : v = E.uneV ∨ ∃ ro, v = corV ro := by
  unfold rhX at h
  split at h
  · cases h
  · split at h
    · cases h; exact .inr ⟨_, rfl⟩
    · split at h
      · unfold rhRep at h
        split at h
        · cases h; exact .inr ⟨_, rfl⟩
        · cases h
      · cases h; exact .inl rfl
theorem Safe.raise {h : HD} (hs : Safe h) {m : Nat} (hm : m ≤ 15) : Safe { h with min := m } := ⟨hm, hs.len, hs.ch32, hs.lk, hs.mask, hs.lk32, hs.llen⟩
theorem rhEnd_good {E : Errs} {nl nd : Nat} {s : DS} (hb : BitsOK s) : GoodR E (rhEnd nl nd s) := by
  have h1 : ∀ x ∈ s.bits.take nl, x ≤ 15 := fun x hx => hb.2 x (List.mem_of_mem_take hx)
  have h2 : ∀ x ∈ (s.bits.drop nl).take nd, x ≤ 15 := fun x hx => hb.2 x (List.mem_of_mem_drop (List.mem_of_mem_take hx))
  have l1 : (s.bits.take nl).length ≤ 1000 := by rw [List.length_take, hb.1]; omega
  have l2 : ((s.bits.drop nl).take nd).length ≤ 1000 := by rw [List.length_take, List.length_drop, hb.1]; omega
  have s1 := initH_safe h1 l1
  have s2 := initH_safe h2 l2
  have hm : s.bits.getD 256 0 ≤ 15 := by
    rw [List.getD_eq_getElem?_getD]
    rcases Nat.lt_or_ge 256 s.bits.length with h | h
    · rw [List.getElem?_eq_getElem h]; exact hb.2 _ (List.getElem_mem h)
    · rw [List.getElem?_eq_none h]; exact Nat.zero_le _
  unfold rhEnd
  split
  · split
    · exact .inl ⟨rfl, s1.raise (Nat.max_le.2 ⟨s1.min15, hm⟩), s2⟩
    · exact .inr (.inr ⟨_, rfl⟩)
  · exact .inr (.inr ⟨_, rfl⟩)
theorem rhSyms_good {E : Errs} {src : List Nat} {nl nd : Nat} : ∀ f i s, BitsOK s → GoodR E (rhSyms E src nl nd f i s) := by
  intro f
  induction f with
  | zero => intro i s hb; exact rhEnd_good hb
  | succ f ih =>
    intro i s hb
    rw [rhSyms]
    split
    · cases hq : rhStep E src (nl + nd) i s with
      | ok i' s' =>
        unfold rhStep at hq
        split at hq
        · exact ih i' s' (rhX_bits hq hb)
        · cases hq
      | err v s' =>
        unfold rhStep at hq
        split at hq
        · exact .inr (rhX_err hq)
        · rename_i hns
          cases hq
          cases hr : hsM src s.h1 s.k s.b s.nb with
          | sym x k b nb => exact absurd hr (hns _ _ _ _)
          | eof k b nb => exact .inr (.inl rfl)
          | bad k b nb => exact .inr (.inr ⟨_, rfl⟩)
    · exact rhEnd_good hb
theorem rhTab_good {E : Errs} {src : List Nat} {nl nd : Nat} {s : DS} (hb : BitsOK s) : GoodR E (rhTab E src nl nd s) := by
  unfold rhTab
  split
  · exact rhSyms_good _ _ _ hb
  · exact .inr (.inr ⟨_, rfl⟩)
theorem rhCb_good {E : Errs} {src : List Nat} {nl nd nc : Nat} : ∀ r i s, BitsOK s → GoodR E (rhCb E src nl nd nc r i s) := by
  intro r
  induction r with
  | zero => intro i s hb; exact rhTab_good (s := { s with cb := rhZ s.cb (19 - nc) nc }) hb
  | succ r ih =>
    intro i s hb
    rw [rhCb]
    split
    · exact ih _ _ (hb.need 3 4)
    · exact .inr (.inl rfl)
theorem rhS_good (E : Errs) (src : List Nat) {s : DS} (hb : BitsOK s) : GoodR E (rhS E src s) := by
  have hb' := hb.need (src := src) 14 4
  unfold rhS
  generalize need src 14 4 s = N at *
  split
  · unfold rh1
    split
    · exact .inr (.inr ⟨_, rfl⟩)
    · unfold rh2
      split
      · exact .inr (.inr ⟨_, rfl⟩)
      · exact rhCb_good _ _ _ hb'
  · exact .inr (.inl rfl)

/-- The window and what else a block's head leaves alone. -/
structure Kept (s s' : DS) : Prop where
  wr : s'.wr = s.wr
  rd : s'.rd = s.rd
  full : s'.full = s.full
  hist : s'.hist = s.hist
  step : s'.step = s.step
  st : s'.st = s.st
  final : s'.final = s.final
  tr : s'.tr = s.tr
  len : s'.len = s.len
  dist : s'.dist = s.dist
theorem Kept.refl (s : DS) : Kept s s := ⟨rfl, rfl, rfl, rfl, rfl, rfl, rfl, rfl, rfl, rfl⟩
theorem Kept.trans {a b c : DS} (h : Kept a b) (k : Kept b c) : Kept a c := ⟨k.wr.trans h.wr, k.rd.trans h.rd, k.full.trans h.full, k.hist.trans h.hist, k.step.trans h.step, k.st.trans h.st, k.final.trans h.final, k.tr.trans h.tr, k.len.trans h.len, k.dist.trans h.dist⟩
theorem Kept.need (src : List Nat) (n g : Nat) (s : DS) : Kept s (need src n g s).2 := by
  obtain ⟨k, ro, b, nb, e⟩ := need_keep src n g s
  rw [e]; exact ⟨rfl, rfl, rfl, rfl, rfl, rfl, rfl, rfl, rfl, rfl⟩
theorem Kept.st_ (s : DS) (r : HR) : Kept s (r.st s) := by cases r <;> exact ⟨rfl, rfl, rfl, rfl, rfl, rfl, rfl, rfl, rfl, rfl⟩
theorem Kept.take (n : Nat) (s : DS) : Kept s (takeB n s) := ⟨rfl, rfl, rfl, rfl, rfl, rfl, rfl, rfl, rfl, rfl⟩
def RH.ds : RH → DS
  | .err _ s => s
  | .ok _ s => s
theorem rhX_kept (E : Errs) (src : List Nat) (n i x : Nat) (s : DS) : Kept s (rhX E src n i x s).ds := by
  unfold rhX
  split
  · exact ⟨rfl, rfl, rfl, rfl, rfl, rfl, rfl, rfl, rfl, rfl⟩
  · split
    · exact .refl s
    · split
      · refine (Kept.need src (exN x) 4 s).trans ?_
        unfold rhRep
        split <;> exact ⟨rfl, rfl, rfl, rfl, rfl, rfl, rfl, rfl, rfl, rfl⟩
      · exact Kept.need src (exN x) 4 s
theorem rhStep_kept (E : Errs) (src : List Nat) (n i : Nat) (s : DS) : Kept s (rhStep E src n i s).ds := by
  unfold rhStep
  cases hq : hsM src s.h1 s.k s.b s.nb with
  | sym x k b nb => exact (Kept.st_ s (HR.sym x k b nb)).trans (rhX_kept _ _ _ _ _ _)
  | eof k b nb => exact Kept.st_ s (HR.eof k b nb)
  | bad k b nb => exact Kept.st_ s (HR.bad k b nb)
theorem rhEnd_kept (nl nd : Nat) (s : DS) : Kept s (rhEnd nl nd s).2 := by
  unfold rhEnd
  split
  · split <;> exact ⟨rfl, rfl, rfl, rfl, rfl, rfl, rfl, rfl, rfl, rfl⟩
  · exact ⟨rfl, rfl, rfl, rfl, rfl, rfl, rfl, rfl, rfl, rfl⟩
theorem rhSyms_kept (E : Errs) (src : List Nat) (nl nd : Nat) : ∀ f i s, Kept s (rhSyms E src nl nd f i s).2 := by
  intro f
  induction f with
  | zero => intro i s; exact rhEnd_kept nl nd s
  | succ f ih =>
    intro i s
    rw [rhSyms]
    split
    · have h1 := rhStep_kept E src (nl + nd) i s
      cases hq : rhStep E src (nl + nd) i s with
      | ok i' s' => rw [hq] at h1; exact h1.trans (ih i' s')
      | err v s' => rw [hq] at h1; exact h1
    · exact rhEnd_kept nl nd s
theorem rhTab_kept (E : Errs) (src : List Nat) (nl nd : Nat) (s : DS) : Kept s (rhTab E src nl nd s).2 := by
  have h0 : Kept s { s with h1 := (initH s.cb).2 } := ⟨rfl, rfl, rfl, rfl, rfl, rfl, rfl, rfl, rfl, rfl⟩
  unfold rhTab
  split
  · exact h0.trans (rhSyms_kept E src nl nd _ _ _)
  · exact h0
theorem rhCb_kept (E : Errs) (src : List Nat) (nl nd nc : Nat) : ∀ r i s, Kept s (rhCb E src nl nd nc r i s).2 := by
  intro r
  induction r with
  | zero => intro i s; exact Kept.trans (b := { s with cb := rhZ s.cb (19 - nc) nc }) ⟨rfl, rfl, rfl, rfl, rfl, rfl, rfl, rfl, rfl, rfl⟩ (rhTab_kept _ _ _ _ _)
  | succ r ih =>
    intro i s
    have h1 := Kept.need src 3 4 s
    rw [rhCb]
    split
    · refine h1.trans (Kept.trans ?_ (ih _ _))
      exact ⟨rfl, rfl, rfl, rfl, rfl, rfl, rfl, rfl, rfl, rfl⟩
    · exact h1
theorem rhS_kept (E : Errs) (src : List Nat) (s : DS) : Kept s (rhS E src s).2 := by
  have h1 := Kept.need src 14 4 s
  unfold rhS
  generalize need src 14 4 s = N at *
  refine h1.trans ?_
  split
  · unfold rh1
    split
    · exact .refl _
    · unfold rh2
      split
      · exact ⟨rfl, rfl, rfl, rfl, rfl, rfl, rfl, rfl, rfl, rfl⟩
      · unfold rh3
        refine Kept.trans ?_ (rhCb_kept _ _ _ _ _ _ _ _)
        exact ⟨rfl, rfl, rfl, rfl, rfl, rfl, rfl, rfl, rfl, rfl⟩
  · exact .refl _

/-- A block's head, read. -/
def hdS (s : DS) : DS := { s with final := s.b % 2 == 1, b := s.b / 8, nb := s.nb - 3 }
def fixS (I : Ids) (E : Errs) (src : List Nat) (X : Nat) (s : DS) : DS :=
  hbS I E src (initH fixLit).2 none { s with hl := .pointer (some ⟨X, 0, none⟩), hx := (initH fixLit).2, hd := .pointer none }
def dynG (I : Ids) (E : Errs) (src : List Nat) (la lb : Value) (s : DS) : DS :=
  hbS I E src s.h1 (some s.h2) { s.ln la lb with err := .nilIface, hl := .pointer (some ⟨I.F, 5, none⟩), hd := .pointer (some ⟨I.F, 520, none⟩) }
def dynD (I : Ids) (E : Errs) (src : List Nat) (la lb : Value) (R : Value × DS) : DS :=
  match R.1 with
  | .nilIface => dynG I E src la lb R.2
  | v => { R.2.ln la lb with err := v }
def nextT (I : Ids) (E : Errs) (src : List Nat) (X : Nat) (la lb : Value) (t : Nat) (s : DS) : DS :=
  if t = 0 then dataBlockS I E src s else if t = 1 then fixS I E src X s else if t = 2 then dynD I E src la lb (rhS E src s) else { s with err := corV s.ro }
/-- What the next block comes to; X, la and lb: where tables lie. -/
def nextS (I : Ids) (E : Errs) (src : List Nat) (X : Nat) (la lb : Value) (s : DS) : DS :=
  if (need src 3 4 s).1 then nextT I E src X la lb ((need src 3 4 s).2.b / 2 % 4) (hdS (need src 3 4 s).2) else { (need src 3 4 s).2 with err := E.uneV }
end Go.Proofs.YtbbnibbdiiffkaaDoor
