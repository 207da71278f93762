/- A stream is unpacked: the walk. The decoder against the reference: a symbol; how the reference goes on. The decoder against the reference: the steps of a block of codes in the reference. -/
import Derived.Test.YtbbnibbdiiffkaaDoorM01
import Derived.Test.YtbbnibbdiiffkaaDoorM05
import Derived.Test.YtbbnibbdiiffkaaDoorM06
import Derived.Test.YtbbnibbdiiffkaaDoorM13
import Derived.Test.YtbbnibbdiiffkaaDoorM21

/- A stream is unpacked: the walk. -/
namespace Go.Proofs.YtbbnibbdiiffkaaDoor
open Go.RowKit

section
variable {w w' wz : World}
theorem append_run {base n : Nat} {v : Value} {xs : List Nat} (hown : w.ownsRow base 5 1 v n (xs.map u8)) (srcV : Value) (src : List Nat) (hs : Rd w srcV src) (ht : Tidy srcV) (hb1 : n ≤ 400000) (hb2 : src.length ≤ 400000) (hb : base ≤ w.heap.size) (ty : TypeId) :
    ∃ v' w', (Builtin.append_ #[22, 22] ty #[v, srcV]).run Tryd.prog w = .ok v' w' ∧ w'.ownsRow base 5 1 v' (n + src.length) ((xs ++ src).map u8) ∧ w.grownBy w' v.ownBlock := by
  obtain ⟨i0, hi, hz0, hz1, hz2⟩ := info_parts info5
  obtain ⟨a, cap, rfl, hc⟩ := hs
  cases a with
  | none =>
    obtain ⟨h1, h2⟩ := (ht none src.length cap rfl).2 rfl
    have e : src = [] := List.eq_nil_of_length_eq_zero h1
    subst e
    subst h2
    refine ⟨v, w, run_append_owned_none (P := Tryd.prog) (w := w) base 22 ty 5 i0 1 Tryd.underlying22 hi v n _ hown, ?_, ⟨rfl, rfl, rfl, Nat.le_refl _, fun _ _ _ => rfl⟩⟩
    rw [List.append_nil]; exact hown
  | some ad =>
    have hlen : (src.map u8).length = src.length * 1 := by rw [List.length_map, Nat.mul_one]
    obtain ⟨v', w', q1, q2, q3, -⟩ := run_append_own (P := Tryd.prog) w base 22 ty 5 i0 (.int .u8 0) 1 1 Tryd.underlying22 hi hz0 hz1 hz2 rfl (by decide) v n _ hown ad src.length cap (src.map u8) hlen (fun j u hj => by
      rw [List.getElem?_map] at hj
      rcases Nat.lt_or_ge j src.length with h | h
      · rw [List.getElem?_eq_getElem h] at hj
        obtain ⟨b, off, e, -, q⟩ := hc j h
        cases e
        have ea : (⟨b, off, none⟩ : Addr).add j = ⟨b, off + j, none⟩ := by
          unfold Addr.add
          split
          · rename_i h0; rw [h0]; rfl
          · rfl
        rw [ea, q, List.getD_eq_getElem?_getD, List.getElem?_eq_getElem h]
        exact hj
      · rw [List.getElem?_eq_none h] at hj; cases hj) (fun u hu => by
      obtain ⟨x, -, rfl⟩ := List.mem_map.1 hu
      rfl) (by unfold maxLen; omega) (by omega) hb
    exact ⟨v', w', q1, by rw [List.map_append]; exact q2, q3⟩
theorem wpList_append_rd {ops : Array Oper} {rest : List Oper} {o : Oper} {a : Act} {Q : Exit → Act → World → Prop} (hgd : o.guard = none) (s x : Operand)
    (ho : o.op = .call { callee := .builtin .append, args := #[s, x], argTypes := #[22, 22] }) (base n : Nat) (v : Value) (xs : List Nat) (hs : a.eval s = v) (hown : w.ownsRow base 5 1 v n (xs.map u8)) (srcV : Value) (src : List Nat) (hx : a.eval x = srcV)
    (hr : Rd w srcV src) (ht : Tidy srcV) (hb1 : n ≤ 400000) (hb2 : src.length ≤ 400000) (hb : base ≤ w.heap.size)
    (h : ∀ v' w', w'.ownsRow base 5 1 v' (n + src.length) ((xs ++ src).map u8) → w.grownBy w' v.ownBlock → wpList Tryd.prog ops Q rest (a.put o.dst v') w') : wpList Tryd.prog ops Q (o :: rest) a w := by
  refine wpList_plain hgd fun K hK => ?_
  obtain ⟨v', w', hrun, h1, h2⟩ := append_run hown srcV src hr ht hb1 hb2 hb o.type
  unfold Oper.wp
  simp [execOp, ho, resolve, invoke, builtin, hs, hx, hrun, Result.andThen]
  exact hK _ _ (h v' w' h1 h2)
theorem own_new {w0 w1 : World} {base n : Nat} {v : Value} {xs : List Value} (hn : New w0 w) (ho : w.ownsRow base 5 1 v n xs) (hB : w0.heap.size ≤ base) (hg : w.grownBy w1 v.ownBlock) : New w0 w1 := by
  refine ⟨hg.os.trans hn.os, hg.tape.trans hn.tape, hg.output.trans hn.output, Nat.le_trans hn.size hg.size, fun k hk hs => ?_⟩
  rw [hg.block k (Nat.lt_of_lt_of_le hk hn.size) ?_, hn.block k hk hs]
  intro e
  rcases ho.2 with ⟨rfl, -⟩ | ⟨g, cap, cur, rfl, h2, -⟩
  · cases e
  · have e : k = g := Option.some.inj e
    omega
theorem Dec.own_lt {I : Ids} {E : Errs} {src : List Nat} {srcV : Value} {cs : Array Value} {s : DS} (h : Dec I E src srcV w cs s) : ∀ k, I.own k → k < w.heap.size := by
  obtain ⟨pr, hR⟩ := h.bR
  rintro k (rfl | rfl | rfl | rfl | rfl)
  · exact lt_of_block h.bF
  · exact lt_of_block hR
  · exact lt_of_block h.bD
  · exact lt_of_block h.bB
  · exact lt_of_block h.bC
theorem own_frm {S : Nat → Prop} {base n : Nat} {v : Value} {xs : List Value} (h : w.ownsRow base 5 1 v n xs) (hf : Frm S w w') (hs : ∀ k, base ≤ k → k < w.heap.size → ¬ S k) : w'.ownsRow base 5 1 v n xs := by
  refine ⟨h.1, ?_⟩
  rcases h.2 with q | ⟨g, cap, cur, q1, q2, q3, q4⟩
  · exact .inl q
  · exact .inr ⟨g, cap, cur, q1, q2, by rw [hf.block g (lt_of_block q3) (hs g q2 (lt_of_block q3))]; exact q3, q4⟩
theorem grown_frm {row : Option Nat} (h : w.grownBy w' row) : Frm (fun k => row = some k) w w' := ⟨h.os, h.tape, h.output, h.size, fun k hk hn => h.block k hk (fun e => hn e.symm)⟩
theorem buf_rd {Y n m : Nat} {buf : List Nat} (h : w.heap[Y]? = some (.cells (bytesA buf) 5 (0, 0))) (hl : buf.length = m) (hn : n ≤ m) : Rd w (.slice (some ⟨Y, 0, none⟩) n m) (buf.take n) ∧ Tidy (.slice (some ⟨Y, 0, none⟩) n m) := by
  have e : (buf.take n).length = n := by rw [List.length_take]; omega
  refine ⟨⟨some ⟨Y, 0, none⟩, m, by rw [e], fun j hj => ⟨Y, 0, rfl, lt_of_block h, ?_⟩⟩, fun a n' c q => ?_⟩
  · rw [e] at hj
    simp only [World.cell?, h, bytesA, Nat.zero_add, List.getElem?_toArray, List.getElem?_map]
    rw [List.getD_eq_getElem?_getD, List.getElem?_take, if_pos hj, List.getElem?_eq_getElem (show j < buf.length by omega)]
    rfl
  · simp only [Value.slice.injEq] at q
    obtain ⟨rfl, rfl, rfl⟩ := q
    exact ⟨hn, fun f => by cases f⟩
theorem own_read {base n : Nat} {v : Value} {xs : List Nat} (h : w.ownsRow base 5 1 v n (xs.map u8)) : n = xs.length ∧ Rd w v xs ∧ Tidy v ∧ (∀ a m c, v = .slice (some a) m c → base ≤ a.block ∧ a.block < w.heap.size ∧ a.off = 0 ∧ a.spot = none ∧ ∃ cs, w.heap[a.block]? = some (.cells cs 5 (0, 0))) := by
  have hn : n = xs.length := by have := h.1; rw [List.length_map] at this; omega
  subst hn
  refine ⟨rfl, (own_rd h).1, (own_rd h).2, ?_⟩
  intro a m c e
  rcases h.2 with ⟨rfl, -⟩ | ⟨g, cap, cur, rfl, h2, h3, -⟩
  · cases e
  · cases e
    exact ⟨h2, lt_of_block h3, rfl, rfl, cur, h3⟩
theorem RdZ.frm' {v : Value} {l : List Int} (h : RdZ w v l) (hf : New w w') : RdZ w' v l := by
  obtain ⟨a, cap, rfl, h⟩ := h
  refine ⟨a, cap, rfl, fun j hj => ?_⟩
  obtain ⟨b, off, rfl, hb, hc⟩ := h j hj
  exact ⟨b, off, rfl, Nat.lt_of_lt_of_le hb hf.size, (hf.cell hb id).trans hc⟩
theorem sizesB_get {l : List Int} (h : sizesB l = true) {j : Nat} (hj : j < l.length) : 1 ≤ l.getD j 0 ∧ l.getD j 0 ≤ 65536 := by
  unfold sizesB at h
  rw [Bool.and_eq_true, List.all_eq_true] at h
  rw [List.getD_eq_getElem?_getD, List.getElem?_eq_getElem hj]
  exact of_decide_eq_true (h.1 _ (List.getElem_mem hj))
/-- Where an unpacking ends. -/
def UnEnd (E : Errs) (V : DS → List Nat → Prop) (out : List Nat) (fin : Int) : Prop :=
  (fin = 0 ∧ 262144 ≤ out.length ∧ ∃ s, V s out) ∨ ∃ s, V s out ∧ trN s.tr = 0 ∧ ((s.err = E.eofV ∧ fin = 1) ∨ (s.err = E.uneV ∧ fin = 2) ∨ ((∃ ro, s.err = corV ro) ∧ fin = 3))
def UnPost (E : Errs) (V : Ids → DS → List Nat → Prop) (w : World) (r : Ending) (w' : World) : Prop :=
  ∃ I outV out fin, r = .returned (.tuple #[outV, .int .i64 fin]) ∧ New w w' ∧ Rd w' outV out ∧ Tidy outV ∧ UnEnd E (V I) out fin
set_option maxRecDepth 100000 in
set_option maxHeartbeats 4000000 in
theorem unpack_any {E : Errs} {src dict : List Nat} {srcV dictV szV : Value} {sz : List Int} {lo : Nat} {V : Ids → DS → List Nat → Prop} (hV : Hid (∀ I, Runs I E src (V I))) (hV0 : Hid (∀ I, V I (ds0 dict) []))
    (hg : GL E lo w) (hlo : lo ≤ w.heap.size) (hs : Rd w srcV src) (hst : Tidy srcV) (hd : Rd w dictV dict) (hdt : Tidy dictV) (hz : RdZ w szV sz) (hzb : sizesB sz = true) (hsm : src.length ≤ 100000) (hdm : dict.length ≤ 65536) (hby : ∀ x ∈ src, x < 256) :
    Calls Tryd.prog 5 #[srcV, dictV, szV] w (UnPost E V w) := by
  generalize hP : UnPost E V w = Post at *
  have HP := Lib.hid hP
  clear hP
  go_enter Tryd.func5, Tryd.ntmps5
  have hm0 : (w.alloc (.cells #[] 5)).ownsRow w.heap.size 5 1 (.slice (some ⟨w.heap.size, 0, none⟩) 0 0) 0 (([] : List Nat).map u8) := ⟨rfl, .inr ⟨w.heap.size, 0, #[], rfl, Nat.le_refl _, heap_alloc_new w _, Nat.le_refl _, Nat.zero_le _, rfl, rfl⟩⟩
  have hn0 : New w (w.alloc (.cells #[] 5)) := (Frm.refl _ w).alloc _
  have hs0 := hs.frm hn0 (fun b off n c e => id)
  have hl0 : w.heap.size ≤ (w.alloc (.cells #[] 5)).heap.size := hn0.size
  have HSM := Lib.hid (And.intro hsm (And.intro hdm (And.intro hby (And.intro hlo hzb))))
  have HRD := Lib.hid (And.intro hs (And.intro hd (And.intro hz hg)))
  clear hsm hdm hby hlo hzb hs hd hz hg
  go_wp2_with (at_builtin; refine wpList_append_rd rfl _ _ rfl w.heap.size 0 _ [] rfl hm0 srcV src rfl hs0 hst (Nat.zero_le _) (Nat.le_trans HSM.out.1 (by decide)) hl0 ?_)
  intro v1 w1 ho1 hg1
  have hn1 : New w w1 := own_new hn0 hm0 (Nat.le_refl _) hg1
  obtain ⟨-, hr1, ht1, hb1⟩ := own_read ho1
  obtain ⟨a1, cap1, rfl, hc1⟩ := hr1
  have HS1 := Lib.hid (And.intro hn1 (And.intro hc1 (And.intro ht1 hb1)))
  have HT1 := Lib.hid ht1
  clear hm0 hn0 hs0 hl0 ho1 hg1 hn1 hc1 ht1 hb1
  go_wp2_with fail
  refine (newBytes_any a1 src.length cap1).mono ?_
  rintro r w2 ⟨rfl, hR2, hn2⟩
  obtain ⟨R, hR⟩ : ∃ R, R = w1.heap.size := ⟨_, rfl⟩
  rw [← hR] at hR2 ⊢
  have hS2 : Src0 E src (.slice a1 src.length cap1) lo R w2 := by
    obtain ⟨hn1, hc1, ht1, hb1⟩ := HS1.out
    have hn3 : New w w2 := hn1.trans hn2
    refine ⟨⟨_, hR2⟩, ?_, ?_, HRD.out.2.2.2.frm hn3 (fun k e => e.elim), ?_, ?_, HSM.out.1, HSM.out.2.2.1⟩
    · exact Rd.frm ⟨a1, cap1, rfl, hc1⟩ hn2 (fun b off n c e => id)
    · intro b off n c e
      obtain ⟨q1, q2, -⟩ := hb1 _ _ _ e
      have q2 : b < w1.heap.size := q2
      have := hn2.size
      exact ⟨by omega, by omega⟩
    · have := hn1.size; have := HSM.out.2.2.2.1; omega
    · have := hn3.size; have := HSM.out.2.2.2.1; omega
  have hn3 : New w w2 := HS1.out.1.trans hn2
  have HS2 := Lib.hid (And.intro hS2 hn3)
  have HRW : Hid (w.heap.size ≤ R ∧ w.heap.size ≤ w2.heap.size) := Lib.hid ⟨by rw [hR]; exact HS1.out.1.size, hn3.size⟩
  clear hS2 hn3 hn2 hR2 hR HS1
  go_wp2_with fail
  refine (newReader_any HS2.out.1).mono ?_
  rintro r w3 ⟨rfl, hn4, cs3, hD3⟩
  have HD3 := Lib.hid (And.intro hD3 (HS2.out.2.trans hn4))
  have HOW : Hid (∀ k, Ids.own ⟨w2.heap.size, R, w2.heap.size + 3, w2.heap.size + 1, w2.heap.size + 2, lo⟩ k → w.heap.size ≤ k) := Lib.hid (fun k hk => by
    obtain ⟨h1, h2⟩ := HRW.out
    rcases hk with h | h | h | h | h <;> (have h : k = _ := h; simp only [] at h; omega))
  have hS3 : Src0 E src (.slice a1 src.length cap1) lo R w3 := by
    have h := HS2.out.1
    obtain ⟨pr, hb⟩ := h.bR
    exact ⟨⟨pr, by rw [hn4.block R (lt_of_block hb) id]; exact hb⟩, h.rd.frm hn4 (fun b off n c e => id), fun b off n c e => ⟨(h.ne b off n c e).1, Nat.lt_of_lt_of_le (h.ne b off n c e).2 hn4.size⟩, h.gl.frm hn4 (fun k e => e.elim), h.loR, Nat.le_trans h.low hn4.size, h.small, h.bytes⟩
  have HS3 := Lib.hid hS3
  clear hD3 hn4 hS3 HS2
  repeat (fail_if_success (show Code.wp _ (Code.seq (Code.region 3 _ _) (Code.cond _ _ _)) _ _ _)
          first | go_values | go_skip | go_guarded | go_step | go_upon | go_simp)
  go_cut [9] (fun rv wx => ∃ (I : Ids) (cs : Array Value) (sV : Value), rv = .iface 67 (.pointer (some ⟨I.F, 0, none⟩)) ∧ Dec I E src sV wx cs (ds0 dict) ∧ Tidy sV ∧ New w wx ∧ (∀ b off n c, sV = .slice (some ⟨b, off, none⟩) n c → b < wx.heap.size) ∧ I.lo = lo ∧ ∀ k, I.own k → w.heap.size ≤ k)
  case first =>
    obtain ⟨ad, capd, hdv, hcd⟩ := HRD.out.2.1
    have HDR := Lib.hid HRD.out.2.1
    have HDT := Lib.hid hdt
    clear hdt HRD
    subst hdv
    have HCD := Lib.hid hcd
    clear hcd
    by_cases hd0 : dict.length = 0
    · have e : dict = [] := List.eq_nil_of_length_eq_zero hd0
      subst e
      clear hd0
      go_wp2_with fail
      go_meet
      exact ⟨_, cs3, _, rfl, HD3.out.1, HT1.out, HD3.out.2, fun b off n c e => (HS3.out.ne b off n c e).2, rfl, HOW.out⟩
    · have hpos : 0 < dict.length := Nat.pos_of_ne_zero hd0
      have hm0 : (w3.alloc (.cells #[] 5)).ownsRow w3.heap.size 5 1 (.slice (some ⟨w3.heap.size, 0, none⟩) 0 0) 0 (([] : List Nat).map u8) := ⟨rfl, .inr ⟨w3.heap.size, 0, #[], rfl, Nat.le_refl _, heap_alloc_new w3 _, Nat.le_refl _, Nat.zero_le _, rfl, rfl⟩⟩
      have hn0 : New w3 (w3.alloc (.cells #[] 5)) := (Frm.refl _ w3).alloc _
      have hs0 := (HDR.out.frm HD3.out.2 (fun b off n c e => id)).frm hn0 (fun b off n c e => id)
      have hl0 : w3.heap.size ≤ (w3.alloc (.cells #[] 5)).heap.size := hn0.size
      have HPOS := Lib.hid hpos
      clear hd0
      go_wp2_with (at_builtin; refine wpList_append_rd rfl _ _ rfl w3.heap.size 0 _ [] rfl hm0 (.slice ad dict.length capd) dict rfl hs0 HDT.out (Nat.zero_le _) (Nat.le_trans HSM.out.2.1 (by decide)) hl0 ?_)
      intro v1 w4 ho1 hg1
      have hn4 : New w3 w4 := own_new hn0 hm0 (Nat.le_refl _) hg1
      obtain ⟨-, hr1, ht1, hb1⟩ := own_read ho1
      obtain ⟨bx, ox, cx, rfl, hbx, hcx⟩ := hr1.nonempty (by first | exact HPOS.out | simpa using HPOS.out)
      have hcap : dict.length ≤ cx := by
        have := (ht1 _ _ _ rfl).1
        simpa using this
      have hS4 : Src0 E src (.slice a1 src.length cap1) lo R w4 := by
        have h := HS3.out
        obtain ⟨pr, hb⟩ := h.bR
        exact ⟨⟨pr, by rw [hn4.block R (lt_of_block hb) id]; exact hb⟩, h.rd.frm hn4 (fun b off n c e => id), fun b off n c e => ⟨(h.ne b off n c e).1, Nat.lt_of_lt_of_le (h.ne b off n c e).2 hn4.size⟩, h.gl.frm hn4 (fun k e => e.elim), h.loR, Nat.le_trans h.low hn4.size, h.small, h.bytes⟩
      have HS4 := Lib.hid (And.intro hS4 (HD3.out.2.trans hn4))
      have HCX := Lib.hid (And.intro hcap (And.intro hbx hcx))
      clear hm0 hn0 hs0 hl0 ho1 hg1 hn4 ht1 hb1 hr1 hbx hcx hcap hS4 hpos
      go_wp2_with fail
      refine (newReaderDict_any HS4.out.1 bx ox cx dict HPOS.out HSM.out.2.1 HCX.out.1 HCX.out.2.1 HCX.out.2.2).mono ?_
      rintro r w5 ⟨rfl, hn5, cs5, hD5⟩
      have HOX : Hid (∀ k, Ids.own ⟨w4.heap.size, R, w4.heap.size + 3, w4.heap.size + 1, w4.heap.size + 2, lo⟩ k → w.heap.size ≤ k) := Lib.hid (fun k hk => by
        obtain ⟨h1, h2⟩ := HRW.out
        have h3 := HS4.out.2.size
        rcases hk with h | h | h | h | h <;> (have h : k = _ := h; simp only [] at h; omega))
      have HX5 := Lib.hid (And.intro hD5 (And.intro (HS4.out.2.trans hn5) hn5))
      clear hD5 hn5
      go_wp2_with fail
      go_meet
      exact ⟨_, cs5, _, rfl, HX5.out.1, HT1.out, HX5.out.2.1, fun b off n c e => Nat.lt_of_lt_of_le (HS4.out.1.ne b off n c e).2 HX5.out.2.2.size, rfl, HOX.out⟩
  case rest =>
    obtain ⟨I, cs, sV, rfl, hD, htS, hnw, hsb, hlo, how⟩ := hcut
    have hv0 := hV0.out I
    have hVI := Lib.hid (hV.out I)
    have hzw := HRD.out.2.2.1
    have HTS := Lib.hid htS
    have HOW2 := Lib.hid how
    have HLO := Lib.hid hlo
    obtain ⟨B, hBq⟩ : ∃ B, B = wc.heap.size := ⟨_, rfl⟩
    have HOL : Hid (∀ k, I.own k → k < B) := Lib.hid (by rw [hBq]; exact hD.own_lt)
    have HNW : Hid (w.heap.size ≤ B) := Lib.hid (by rw [hBq]; exact hnw.size)
    have hB0 : B ≤ wc.heap.size := Nat.le_of_eq hBq
    rw [← hBq] at hsb
    clear hBq
    clear HD3 HS3 HOW HRW hdt HRD htS how hlo hV hV0 HT1
    go_wp2_with fail
    go_loopw [10, 11] (fun ov iv wr => ∃ (s : DS) (cs : Array Value) (out : List Nat) (k : Nat), wr.ownsRow B 5 1 ov out.length (out.map u8) ∧ iv = vi k ∧ k ≤ out.length ∧ Dec I E src sV wr cs s ∧ V I s out ∧ New w wr ∧ B ≤ wr.heap.size) (fun ov _ _ => 262144 - trN ov)
    case atStart => exact ⟨ds0 dict, cs, [], 0, World.ownsRow_nil _ _ _ _, rfl, Nat.zero_le _, hD, hv0, hnw, hB0⟩
    case round =>
      clear hD hv0 hB0
      obtain ⟨s, cs, out, k, ho, rfl, hk, hD, hv, hn, hbase⟩ := hrel
      obtain ⟨-, hro, hto, hbo⟩ := own_read ho
      obtain ⟨oa, ocap, rfl, hoc⟩ := hro
      by_cases hlt : out.length < 262144
      · have y0 : (out.length : Int) < 262144 := by omega
        have hz2 := hzw.frm' hn
        obtain ⟨az, capz, hzv, hcz⟩ := hz2
        subst hzv
        have HX := Lib.hid (And.intro ho (And.intro hk (And.intro hD (And.intro hv (And.intro hn (And.intro hbase (And.intro hto hbo)))))))
        have HOC := Lib.hid hoc
        have HLT := Lib.hid hlt
        clear ho hD hv hn hbase hto hbo hoc hlt
        have hk18 : k ≤ 262144 := by have := HLT.out; omega
        clear hk
        repeat (fail_if_success (show Code.wp _ (Code.seq (Code.region 10 _ _) (Code.cond _ _ _)) _ _ _)
                first | go_values | go_skip | go_guarded | go_step | go_upon | go_simp)
        go_cut [12] (fun mv wx => ∃ m : Nat, mv = vi m ∧ 1 ≤ m ∧ m ≤ 65536 ∧ wx = wr)
        case first =>
          by_cases hs0 : sz.length = 0
          · have y1 : decide ((0 : Int) < (sz.length : Int)) = false := decide_eq_false (by omega)
            have y2 : decide (0 < sz.length) = false := decide_eq_false (by omega)
            clear hs0
            go_wp2_with fail
            go_meet
            exact ⟨1000, rfl, by decide, by decide, rfl⟩
          · have hpos : 0 < sz.length := Nat.pos_of_ne_zero hs0
            obtain ⟨j, hj⟩ : ∃ j, j = k % sz.length := ⟨_, rfl⟩
            have hjl : j < sz.length := by rw [hj]; exact Nat.mod_lt _ hpos
            obtain ⟨bz, oz, rfl, -, hcell⟩ := hcz j hjl
            have hall := sizesB_get HSM.out.2.2.2.2 hjl
            obtain ⟨m, hm⟩ : ∃ m : Nat, sz.getD j 0 = (m : Int) := ⟨(sz.getD j 0).toNat, by omega⟩
            rw [hm] at hcell hall
            have y1 : (0 : Int) < (sz.length : Int) := by omega
            have y2 : Int.tmod (k : Int) (sz.length : Int) = (j : Int) := by rw [hj]; rfl
            have y3 : (j : Int) < (sz.length : Int) := by omega
            have HM := Lib.hid hall
            clear hall hm hj hs0
            go_wp2_with fail
            go_meet
            exact ⟨m, rfl, by have := HM.out; omega, by have := HM.out; omega, rfl⟩
        case rest =>
          obtain ⟨m, rfl, hm1, hm2, rfl⟩ := hcut
          have hmk : ∀ w : World, (Instr.makeSlice 22 (.int .i64 (m : Int)) (.int .i64 (m : Int))).run Tryd.prog w = .ok (.slice (some ⟨w.heap.size, 0, none⟩) m m) (w.alloc (.cells (bytesA (List.replicate m 0)) 5 (0, 0))) := fun w => mk22 m (by omega) w
          have HMK := Lib.hid hmk
          clear hmk hcz
          go_wp2_with fail
          rw [HMK.out]
          obtain ⟨ho, hk, hD, hv, hn, hbase, hto, hbo⟩ := HX.out
          have hYe : (wc.alloc (.cells (bytesA (List.replicate m 0)) 5)).heap[wc.heap.size]? = some (.cells (bytesA (List.replicate m 0)) 5 (0, 0)) := heap_alloc_new wc _
          have hna : New wc (wc.alloc (.cells (bytesA (List.replicate m 0)) 5)) := (Frm.refl _ wc).alloc _
          have hDa := hD.new hna
          have hws := hn.size
          have hBes : Bes I sV (wc.alloc (.cells (bytesA (List.replicate m 0)) 5)) wc.heap.size := by
            refine ⟨fun h => ?_, ?_, fun b off n c e => ?_, fun c t e => by rw [hYe] at e; cases e; rfl⟩
            · have := hD.own_lt _ h; omega
            · have := hD.ok.lF; have := hD.own_lt _ (.inl rfl); omega
            · have := hsb b off n c e; omega
          have hrd := readD_any (hVI.out) HTS.out wc.heap.size m hm1 (by omega) out hDa hv hBes hYe
          have HRD := Lib.hid hrd
          have HB := Lib.hid (And.intro ho (And.intro hk (And.intro hn (And.intro hbase (And.intro hna hBes)))))
          clear ho hk hD hv hn hbase hto hbo hYe hna hDa hBes hrd hws
          go_wp2_with fail
          refine HRD.out.mono ?_
          rintro r w2 ⟨s2, c2, n, ev, buf, rfl, hD2, hf2, hnm, hb2, hbl, hv2, hev⟩
          obtain ⟨ho, hk, hn, hbase, hna, hBes⟩ := HB.out
          have ho2 := own_frm ho ((hna.mono (fun _ _ e => e.elim)).trans hf2) (fun k h1 h2 h3 => by
            rcases h3 with h3 | h3
            · have := HOL.out k h3; omega
            · omega)
          have hn2 : New w w2 := by
            have hA := hn.trans hna
            refine ⟨hf2.os.trans hA.os, hf2.tape.trans hA.tape, hf2.output.trans hA.output, Nat.le_trans hA.size hf2.size, fun k hk1 hk2 => ?_⟩
            rw [hf2.block k (Nat.lt_of_lt_of_le hk1 hA.size) ?_, hA.block k hk1 hk2]
            rintro (h | h)
            · have := HOW2.out k h; omega
            · have := hn.size; omega
          obtain ⟨hrb, htb⟩ := buf_rd hb2 hbl hnm
          have hbs2 : wc.heap.size ≤ w2.heap.size := Nat.le_trans hna.size hf2.size
          have hev2 := (hVI.out.num s2 _ hv2).2.2.2
          have htl : (buf.take n).length = n := by rw [List.length_take]; omega
          have y1 : (n : Int) ≤ (m : Int) := by omega
          have HE := Lib.hid (And.intro hD2 (And.intro hv2 (And.intro hev (And.intro hev2 (And.intro hn2 (And.intro ho2 (And.intro hk (And.intro htl (And.intro hbl hnm)))))))))
          have hb4 : out.length ≤ 400000 := by have := HLT.out; omega
          have hb5 : (buf.take n).length ≤ 400000 := by rw [htl]; omega
          have hB2 : B ≤ w2.heap.size := Nat.le_trans hbase hbs2
          clear ho hk hn hbase hna hBes hn2 hD2 hv2 hev hev2 hf2 hb2 hbl hbs2 htl hnm
          go_wp2_with (at_builtin; refine wpList_append_rd rfl _ _ rfl B out.length _ out rfl ho2 (.slice (some ⟨wc.heap.size, 0, none⟩) n m) (buf.take n) rfl hrb htb hb4 hb5 hB2 ?_)
          intro v3 w3 ho3 hg3
          obtain ⟨hD2, hv2, hev, hev2, hn2, -, hk, htl, hbl, hnm⟩ := HE.out
          have hn3 : New w w3 := own_new hn2 ho2 HNW.out hg3
          have hB3 : B ≤ w3.heap.size := Nat.le_trans hB2 hg3.size
          have hD3 : Dec I E src sV w3 c2 s2 := by
            cases oa with
            | none => exact hD2.new (grown_frm hg3 |>.mono fun k _ e => by cases e)
            | some a =>
              obtain ⟨-, -, -, hbo⟩ := own_read ho2
              obtain ⟨q1, q2, q3, q4, cq, q5⟩ := hbo a _ _ rfl
              refine hD2.beside (Y := a.block) ⟨fun h => ?_, ?_, fun b off n c e => ?_, fun c t e => by rw [q5] at e; cases e; rfl⟩ ((grown_frm hg3).mono fun k _ e => ?_)
              · have := HOL.out _ h; omega
              · have := hD2.ok.lF; have := HOL.out _ (.inl rfl); omega
              · have := hsb b off n c e; omega
              · have e : some a.block = some k := e
                exact (Option.some.inj e).symm
          have ho4 : w3.ownsRow B 5 1 v3 (out.length + n) ((out ++ buf.take n).map u8) := by
            have e : min n buf.length = n := by omega
            first
            | (rw [e] at ho3; rw [List.map_append, List.map_take]; exact ho3)
            | (rw [htl] at ho3; exact ho3)
          clear ho3
          have ho3 := ho4
          clear ho4 hbl hnm
          obtain ⟨-, hr3, ht3, -⟩ := own_read ho3
          have hg0 := hD3.gl.g0
          have hg1 := hD3.gl.g1
          have hne := hD3.gl.ne
          unfold Errs.eofV at hg0
          unfold Errs.uneV at hg1
          have HF := Lib.hid (And.intro hD3 (And.intro hn3 (And.intro ho3 (And.intro hr3 (And.intro ht3 hB3)))))
          have HV := Lib.hid (And.intro hv2 (And.intro hk htl))
          have hl3 : trN v3 = out.length + n := by
            obtain ⟨a3, cap3, e3, -⟩ := hr3
            rw [e3, List.length_append, htl]
            rfl
          have HL3 := Lib.hid hl3
          clear hl3 hD3 hn3 ho3 hr3 ht3 hB3 hD2 hv2 hn2 hk htl hg3 ho2 hrb htb hb4 hb5 hB2 HE HX HB HRD HMK
          rcases hev with ⟨rfl, hn0⟩ | ⟨hen, hee, ht0⟩
          · have HN0 := Lib.hid hn0
            have e1 : (binOp .eql 36 .nilIface (.iface 119 (.pointer (some E.eof)))).run Tryd.prog w3 = .ok (.bool false) w3 := by kernel_rfl
            have e2 : (binOp .eql 36 .nilIface (.iface 119 (.pointer (some E.une)))).run Tryd.prog w3 = .ok (.bool false) w3 := by kernel_rfl
            clear hn0 hne hev2
            go_wp2_with fail
            go_roundw
            case rel =>
              refine ⟨s2, c2, out ++ buf.take n, k + 1, ?_, by first | rfl | trivial, ?_, HF.out.1, HV.out.1, HF.out.2.1, HF.out.2.2.2.2.2⟩
              · rw [List.length_append, HV.out.2.2]; exact HF.out.2.2.1
              · rw [List.length_append, HV.out.2.2]; have := HV.out.2.1; have := HN0.out; omega
            case measure =>
              show 262144 - trN v3 < 262144 - out.length
              rw [HL3.out]
              have := HN0.out
              have := HLT.out
              omega
          · have HY : Hid (∀ fin : Int, ((s2.err = E.eofV ∧ fin = 1) ∨ (s2.err = E.uneV ∧ fin = 2) ∨ ((∃ ro, s2.err = corV ro) ∧ fin = 3)) → Post (.returned (.tuple #[v3, .int .i64 fin])) w3) := Lib.hid (fun fin h => by
              rw [← HP.out]
              exact ⟨I, v3, out ++ buf.take n, fin, rfl, HF.out.2.1, HF.out.2.2.2.1, HF.out.2.2.2.2.1, .inr ⟨s2, HV.out.1, ht0, h⟩⟩)
            have HH := Lib.hid (And.intro hen ht0)
            rcases hev2 with h | h | h | ⟨ro, h⟩
            · exact absurd (hee.trans h) hen
            · have HO := Lib.hid h
              rw [h] at hee
              unfold Errs.eofV at hee
              subst hee
              have e1 := eql_same (w := w3) E.eof
              clear h hen ht0 hne
              go_wp2_with fail
              first
              | exact HY.out 1 (.inl ⟨HO.out, rfl⟩)
              | (go_ret2; exact HY.out 1 (.inl ⟨HO.out, rfl⟩))
            · have HO := Lib.hid h
              rw [h] at hee
              unfold Errs.uneV at hee
              subst hee
              have e1 := eql_other (w := w3) (Ne.symm hne) HF.out.1.gl.bune HF.out.1.gl.beof
              have e2 := eql_same (w := w3) E.une
              clear h hen ht0 hne
              go_wp2_with fail
              first
              | exact HY.out 2 (.inr (.inl ⟨HO.out, rfl⟩))
              | (go_ret2; exact HY.out 2 (.inr (.inl ⟨HO.out, rfl⟩)))
            · have HO := Lib.hid h
              rw [h] at hee
              unfold corV at hee
              subst hee
              have e1 : (binOp .eql 36 (.iface 78 (.int .i64 (ro : Int))) (.iface 119 (.pointer (some E.eof)))).run Tryd.prog w3 = .ok (.bool false) w3 := by kernel_rfl
              have e2 : (binOp .eql 36 (.iface 78 (.int .i64 (ro : Int))) (.iface 119 (.pointer (some E.une)))).run Tryd.prog w3 = .ok (.bool false) w3 := by kernel_rfl
              clear h hen ht0 hne
              go_wp2_with fail
              first
              | exact HY.out 3 (.inr (.inr ⟨⟨ro, HO.out⟩, rfl⟩))
              | (go_ret2; exact HY.out 3 (.inr (.inr ⟨⟨ro, HO.out⟩, rfl⟩)))
      · have y0 : ¬ (out.length : Int) < 262144 := by omega
        have HY : Hid (Post (.returned (.tuple #[.slice oa out.length ocap, .int .i64 0])) wr) := Lib.hid (by
          rw [← HP.out]
          exact ⟨I, _, out, 0, rfl, hn, ⟨oa, ocap, rfl, hoc⟩, hto, .inl ⟨rfl, by omega, s, hv⟩⟩)
        clear ho hk hD hv hn hbase hto hbo hoc hlt
        go_wp2_with fail
        first
        | exact HY.out
        | (go_ret2; exact HY.out)
end
end Go.Proofs.YtbbnibbdiiffkaaDoor

/- The decoder against the reference: a symbol; how the reference goes on. -/
namespace Go.Proofs.YtbbnibbdiiffkaaDoor
open Go.RowKit

/-- One code, of one bit. -/
structure One (l : List Nat) : Prop where
  one : ∀ i, i < l.length → 0 < l.getD i 0 → l.getD i 0 = 1 ∧ cdL l i = 0
  few : (bookL l).length < 2
/-- A table that reads what the reference reads. -/
structure TabF (h : HD) (l : List Nat) : Prop where
  h15 : ∀ x ∈ l, x ≤ 15
  room : enL l 15 ≤ 32768
  tab : Tab h l
  min15 : h.min ≤ 15
  kind : Whole l ∨ (One l ∧ 1 ≤ h.min)
section
variable {src : List Nat} (hby : ∀ x ∈ src, x < 256) {h : HD} {l : List Nat}
theorem symGo_one (M : List (Nat × Nat)) (hM : M.length < 2) (src : List Nat) (p n : Nat) (hp : p / 8 < src.length) : (symGo M src (n + 1) 1 p).2.2 = -1 ∨ (symGo M src (n + 1) 1 p).2.2 = 0 := by
  rw [symGo, if_pos hp]
  cases mGet M (2 * 1 + bitV src p) with
  | some k => exact .inl rfl
  | none => simp only []; rw [if_pos hM]; exact .inr rfl
include hby in
/-- A symbol, in the reference and in the decoder. -/
theorem sym_sim (T : TabF h l) {p k b nb : Nat} (hb : Bits src p k b nb) (hp : p ≤ 8 * src.length) (r : Nat × Nat × Int) (hr : symS (bookL l) src p (-1) = r) :
    (r.2.2 = -1 ∧ SymOk l src p 0 r.1 r.2.1 ∧ ((∃ k' nb', hsM src h k b nb = .sym r.1 k' (leL src r.2.1 nb') nb' ∧ Bits src r.2.1 k' (leL src r.2.1 nb') nb' ∧ (nb' + l.getD r.1 0 ≤ nb ∨ nb' + l.getD r.1 0 ≤ h.min + 7 ∨ nb' ≤ 7)) ∨
      (8 * src.length < p + h.min ∧ ∃ k' b' nb', hsM src h k b nb = .eof k' b' nb'))) ∨ (r.2.2 = 3 ∧ ∃ k' b' nb', hsM src h k b nb = .eof k' b' nb') ∨ r.2.2 = 0 := by
  rcases symS_canon T.h15 T.room src p r hr with ⟨e, hok⟩ | ⟨e, -, -, hno⟩ | e
  · refine .inl ⟨e, hok, ?_⟩
    by_cases hm : p + h.min ≤ 8 * src.length
    · left
      refine hsM_ok hby T.tab T.h15 hok (fun nb hnb => ?_) hb T.min15 hm
      rcases T.kind with hw | ⟨ho, -⟩
      · exact whole_hex hw src p nb
      · obtain ⟨q1, q2⟩ := ho.one r.1 hok.lt hok.pos
        exact one_hex hok q1 q2 nb hnb
    · exact .inr ⟨by omega, hsM_eof hby hb T.min15 (by omega)⟩
  · refine .inr (.inl ⟨e, ?_⟩)
    rcases T.kind with hw | ⟨ho, h1⟩
    · exact hsM_short hby T.tab T.h15 hno (fun nb _ => whole_hex hw src p nb) hb T.min15
    · by_cases hp2 : p < 8 * src.length
      · exfalso
        have := symGo_one (bookL l) ho.few src p 14 (by omega)
        have e2 : symS (bookL l) src p (-1) = symGo (bookL l) src 15 1 p := if_pos (by decide)
        rw [e2] at hr
        rw [hr, e] at this
        rcases this with q | q <;> exact absurd q (by decide)
      · exact hsM_eof hby hb T.min15 (by omega)
  · exact .inr (.inr e)
end

/-! How the reference goes on. -/
section
variable {src D : List Nat} {FR : Nat × List Nat × Int}
/-- Between two blocks. -/
def KB (src D : List Nat) (FR : Nat × List Nat × Int) (p : Nat) (out : List Nat) : Prop := ∃ f, 8 * src.length < p + f ∧ inflGo src D f p out (-1) = FR
/-- A block has been read. -/
def KF (src D : List Nat) (FR : Nat × List Nat × Int) (b : Bool) (r : Nat × List Nat × Int) : Prop := ∃ f, (r.2.2 < 0 → 8 * src.length < r.1 + f) ∧ inflGo src D f r.1 r.2.1 (finE b r.2.2) = FR
/-- Within a block of codes. -/
def KC (src D : List Nat) (FR : Nat × List Nat × Int) (b : Bool) (lit dist : List Nat) (p : Nat) (out : List Nat) : Prop :=
  ∃ f, 8 * src.length < p + f ∧ KF src D FR b (codedGo (bookL lit) (bookL dist) (usedL dist) src D f p out (-1))
/-- Within stored bytes. -/
def KS (src D : List Nat) (FR : Nat × List Nat × Int) (b : Bool) (p : Nat) (out : List Nat) (n : Nat) : Prop := KF src D FR b (stGo src p out (-1) n)
theorem KF.bad {b : Bool} {r : Nat × List Nat × Int} (h : KF src D FR b r) (he : 0 ≤ r.2.2) : FR = (r.1, r.2.1, r.2.2) := by
  obtain ⟨f, -, h⟩ := h
  have e : finE b r.2.2 = r.2.2 := by
    unfold finE stopE
    cases b with
    | true => rw [if_pos rfl, if_neg (by omega)]
    | false => rfl
  rw [e, inflGo_off f (by omega)] at h
  exact h.symm
theorem KF.more {r : Nat × List Nat × Int} (h : KF src D FR false r) (he : r.2.2 = -1) : KB src D FR r.1 r.2.1 := by
  obtain ⟨f, h1, h⟩ := h
  refine ⟨f, h1 (by rw [he]; decide), ?_⟩
  rw [← h, he]; rfl
theorem KF.last {r : Nat × List Nat × Int} (h : KF src D FR true r) (he : r.2.2 = -1) : FR = (r.1, r.2.1, 1) := by
  obtain ⟨f, -, h⟩ := h
  rw [he] at h
  have e : finE true (-1) = 1 := rfl
  rw [e, inflGo_off f (by decide)] at h
  exact h.symm
theorem giveO_pre (out : List Nat) (e : Int) (b : Nat) : out <+: giveO out e b := by
  unfold giveO; split
  · exact List.prefix_append _ _
  · exact List.prefix_refl _
theorem farGo_pre (dict : List Nat) (d : Nat) (out : List Nat) (e : Int) (n : Nat) : out <+: (farGo dict d out e n).1 := by
  induction n with
  | zero => exact List.prefix_refl _
  | succ n ih => exact ih.trans (giveO_pre _ _ _)
theorem farS_pre (dict out : List Nat) (e : Int) (len d : Nat) : out <+: (farS dict out e len d).1 := by
  unfold farS
  split
  · split
    · exact List.prefix_refl _
    · exact farGo_pre _ _ _ _ _
  · exact List.prefix_refl _
theorem codedStep_pre (M N : List (Nat × Nat)) (u : Nat) (p : Nat) (out : List Nat) (e : Int) : out <+: (codedStep M N u src D p out e).2.2.1 := by
  unfold codedStep
  simp only []
  split
  · split
    · exact giveO_pre _ _ _
    · split
      · exact List.prefix_refl _
      · split
        · exact List.prefix_refl _
        · split
          · exact List.prefix_refl _
          · split
            · exact List.prefix_refl _
            · split
              · split
                · exact List.prefix_refl _
                · exact farS_pre _ _ _ _ _
              · exact List.prefix_refl _
  · exact List.prefix_refl _
theorem codedGo_pre (M N : List (Nat × Nat)) (u : Nat) : ∀ f p out e, out <+: (codedGo M N u src D f p out e).2.1 := by
  intro f
  induction f with
  | zero => intro p out e; exact List.prefix_refl _
  | succ f ih =>
    intro p out e
    rw [codedGo]
    split
    · simp only []
      split
      · exact codedStep_pre M N u p out e
      · exact (codedStep_pre M N u p out e).trans (ih _ _ _)
    · exact List.prefix_refl _
theorem stGo_pre (p : Nat) (out : List Nat) (e : Int) (k : Nat) : out <+: (stGo src p out e k).2.1 := by
  induction k with
  | zero => exact List.prefix_refl _
  | succ k ih => exact ih.trans (giveO_pre _ _ _)
theorem dynTail_pre (lits : Nat) (out : List Nat) (t : List Nat × Nat × Int) : out <+: (dynTail src D lits out t).2.1 := by
  unfold dynTail
  split
  · exact codedGo_pre _ _ _ _ _ _ _
  · exact List.prefix_refl _
theorem kindS_pre (t p : Nat) (out : List Nat) (e : Int) : out <+: (kindS src D t p out e).2.1 := by
  unfold kindS
  split
  · unfold storedS; exact stGo_pre _ _ _ _
  · split
    · exact codedGo_pre _ _ _ _ _ _ _
    · split
      · unfold dynS; exact dynTail_pre _ _ _
      · exact List.prefix_refl _
theorem inflGo_pre : ∀ f p out e, out <+: (inflGo src D f p out e).2.1 := by
  intro f
  induction f with
  | zero => intro p out e; exact List.prefix_refl _
  | succ f ih =>
    intro p out e
    rw [inflGo]
    split
    · exact (kindS_pre _ _ _ _).trans (ih _ _ _)
    · exact List.prefix_refl _
theorem KF.pre {b : Bool} {r : Nat × List Nat × Int} (h : KF src D FR b r) : r.2.1 <+: FR.2.1 := by
  obtain ⟨f, -, h⟩ := h
  rw [← h]; exact inflGo_pre _ _ _ _
theorem KB.pre {p : Nat} {out : List Nat} (h : KB src D FR p out) : out <+: FR.2.1 := by
  obtain ⟨f, -, h⟩ := h
  rw [← h]; exact inflGo_pre _ _ _ _
theorem KC.pre {b : Bool} {lit dist : List Nat} {p : Nat} {out : List Nat} (h : KC src D FR b lit dist p out) : out <+: FR.2.1 := by
  obtain ⟨f, -, h⟩ := h
  exact (codedGo_pre _ _ _ _ _ _ _).trans h.pre
theorem KS.pre {b : Bool} {p : Nat} {out : List Nat} {n : Nat} (h : KS src D FR b p out n) : out <+: FR.2.1 := (stGo_pre _ _ _ _).trans (KF.pre h)
end
end Go.Proofs.YtbbnibbdiiffkaaDoor

/- The decoder against the reference: the steps of a block of codes in the reference. -/
namespace Go.Proofs.YtbbnibbdiiffkaaDoor
open Go.RowKit

/-- Lengths whose codes are not too many. -/
def Fine (l : List Nat) : Prop := (∀ x ∈ l, x ≤ 15) ∧ enL l 15 ≤ 32768
section
variable {src D : List Nat} {FR : Nat × List Nat × Int} {lit dist : List Nat}
theorem giveE_or (out : List Nat) : (giveE out (-1) = -1 ∧ out.length < 131072) ∨ (giveE out (-1) = 4 ∧ 131072 ≤ out.length) := by
  unfold giveE
  by_cases h : 131072 ≤ out.length
  · rw [if_pos ⟨by decide, h⟩]; exact .inr ⟨rfl, h⟩
  · rw [if_neg (fun q => h q.2)]; exact .inl ⟨rfl, by omega⟩
theorem farGo_e (d : Nat) (out : List Nat) (n : Nat) : (farGo D d out (-1) n).2 = -1 ∨ (farGo D d out (-1) n).2 = 4 := by
  induction n with
  | zero => exact .inl rfl
  | succ n ih =>
    rw [farGo]
    simp only []
    rcases ih with e | e
    · rw [e]
      rcases giveE_or (farGo D d out (-1) n).1 with q | q
      · exact .inl q.1
      · exact .inr q.1
    · rw [e]; unfold giveE; rw [if_neg (fun q => absurd q.1 (by decide))]; exact .inr rfl
theorem farS_e (out : List Nat) (len d : Nat) : (farS D out (-1) len d).2 = -1 ∨ (farS D out (-1) len d).2 = 2 ∨ (farS D out (-1) len d).2 = 4 := by
  unfold farS
  rw [if_pos (by decide)]
  split
  · exact .inr (.inl rfl)
  · rcases farGo_e (D := D) d out len with e | e
    · exact .inl e
    · exact .inr (.inr e)
theorem sw_end (k : Int) (X : Prop) (h : 0 ≤ k ∧ k ≠ 1) : (true = true ∧ k ≠ 1 ∧ (k < 0 → k = -1 ∧ X)) := ⟨rfl, h.2, fun q => absurd q (by omega)⟩
/-- What a step of a block of codes comes to. -/
theorem step_weak (hl : Fine lit) (hd : usedL dist = 0 ∨ Fine dist) (p : Nat) (out : List Nat) (r : Bool × Nat × List Nat × Int) (hr : codedStep (bookL lit) (bookL dist) (usedL dist) src D p out (-1) = r) :
    (r.1 = true ∧ r.2.2.2 ≠ 1 ∧ (r.2.2.2 < 0 → r.2.2.2 = -1 ∧ p + lit.getD 256 0 ≤ 8 * src.length)) ∨ (r.1 = false ∧ ((r.2.2.2 = -1 ∧ p < r.2.1 ∧ r.2.1 ≤ 8 * src.length) ∨ (0 ≤ r.2.2.2 ∧ r.2.2.2 ≠ 1))) := by
  unfold codedStep at hr
  simp only [] at hr
  rcases symS_canon hl.1 hl.2 src p _ rfl with ⟨e, hok⟩ | ⟨e, -⟩ | e
  · generalize symS (bookL lit) src p (-1) = s at *
    obtain ⟨v, q, es⟩ := s
    simp only [] at e hok hr
    subst e
    have hpos := hok.pos
    have hat := hok.at_
    have hle := hok.le
    rw [if_pos (by decide)] at hr
    by_cases h1 : v < 256
    · rw [if_pos h1] at hr
      subst hr
      refine .inr ⟨rfl, ?_⟩
      rcases giveE_or out with g | g
      · exact .inl ⟨g.1, by show p < q; omega, hle⟩
      · right; simp only []; rw [g.1]; exact ⟨by decide, by decide⟩
    · rw [if_neg h1] at hr
      by_cases h2 : v = 256
      · rw [if_pos h2] at hr
        subst hr
        exact .inl ⟨rfl, (show (-1 : Int) ≠ 1 by decide), fun _ => ⟨rfl, by rw [h2] at hat; omega⟩⟩
      · rw [if_neg h2] at hr
        by_cases h3 : (lengthL v).1 = 0
        · rw [if_pos h3] at hr
          subst hr
          exact .inl (sw_end 2 _ (by decide))
        · rw [if_neg h3] at hr
          by_cases h4 : q + (lengthL v).2 ≤ 8 * src.length
          · rw [bitsAt_ok src q _ h4] at hr
            simp only [] at hr
            split at hr
            · subst hr; exact .inl (sw_end 0 _ (by decide))
            · split at hr
              · subst hr; exact .inl (sw_end 0 _ (by decide))
              · rename_i hu
                have hdf := hd.resolve_left hu
                rcases symS_canon hdf.1 hdf.2 src (q + (lengthL v).2) _ rfl with ⟨e, hok2⟩ | ⟨e, -⟩ | e
                · generalize symS (bookL dist) src (q + (lengthL v).2) (-1) = t at *
                  obtain ⟨d, q2, et⟩ := t
                  simp only [] at e hok2 hr
                  subst e
                  have hat2 := hok2.at_
                  have hle2 := hok2.le
                  rw [if_pos (by decide)] at hr
                  split at hr
                  · subst hr; exact .inl (sw_end 2 _ (by decide))
                  · by_cases h5 : q2 + (distanceL d).2 ≤ 8 * src.length
                    · rw [bitsAt_ok src q2 _ h5] at hr
                      simp only [] at hr
                      subst hr
                      refine .inr ⟨rfl, ?_⟩
                      rcases farS_e (D := D) out ((lengthL v).1 + leL src q (lengthL v).2) ((distanceL d).1 + leL src q2 (distanceL d).2) with g | g | g
                      · exact .inl ⟨g, by show p < q2 + (distanceL d).2; omega, h5⟩
                      · right; simp only []; rw [g]; exact ⟨by decide, by decide⟩
                      · right; simp only []; rw [g]; exact ⟨by decide, by decide⟩
                    · have hs := bitsAt_short src q2 (distanceL d).2 (by omega) hle2
                      generalize bitsAt src q2 (-1) (distanceL d).2 = u at *
                      obtain ⟨x, y, z⟩ := u
                      simp only [Prod.mk.injEq] at hs hr
                      obtain ⟨rfl, rfl⟩ := hs
                      subst hr
                      refine .inr ⟨rfl, .inr ?_⟩
                      unfold farS
                      simp only []
                      rw [if_neg (by decide)]
                      exact ⟨(show (0 : Int) ≤ 3 by decide), (show (3 : Int) ≠ 1 by decide)⟩
                · generalize symS (bookL dist) src (q + (lengthL v).2) (-1) = t at *
                  obtain ⟨d, q2, et⟩ := t
                  simp only [] at e hr
                  subst e
                  rw [if_neg (by decide)] at hr
                  subst hr; exact .inl (sw_end 3 _ (by decide))
                · generalize symS (bookL dist) src (q + (lengthL v).2) (-1) = t at *
                  obtain ⟨d, q2, et⟩ := t
                  simp only [] at e hr
                  subst e
                  rw [if_neg (by decide)] at hr
                  subst hr; exact .inl (sw_end 0 _ (by decide))
          · have hs := bitsAt_short src q (lengthL v).2 (by omega) hle
            generalize bitsAt src q (-1) (lengthL v).2 = u at *
            obtain ⟨x, y, z⟩ := u
            simp only [Prod.mk.injEq] at hs hr
            obtain ⟨rfl, rfl⟩ := hs
            rw [if_neg (fun h => absurd h.1 (by decide))] at hr
            split at hr
            · subst hr; exact .inl (sw_end 3 _ (by decide))
            · have e2 : symS (bookL dist) src (8 * src.length) 3 = (0, 8 * src.length, 3) := if_neg (by decide)
              rw [e2] at hr
              simp only [] at hr
              rw [if_neg (by decide)] at hr
              subst hr; exact .inl (sw_end 3 _ (by decide))
  · generalize symS (bookL lit) src p (-1) = s at *
    obtain ⟨v, q, es⟩ := s
    simp only [] at e hr
    subst e
    rw [if_neg (by decide)] at hr
    subst hr; exact .inl (sw_end 3 _ (by decide))
  · generalize symS (bookL lit) src p (-1) = s at *
    obtain ⟨v, q, es⟩ := s
    simp only [] at e hr
    subst e
    rw [if_neg (by decide)] at hr
    subst hr; exact .inl (sw_end 0 _ (by decide))
/-- Where the block's end has no room any more the block does not end well. -/
theorem go_noend (hl : Fine lit) (hd : usedL dist = 0 ∨ Fine dist) : ∀ f p out, p ≤ 8 * src.length → 8 * src.length < p + f → 8 * src.length < p + lit.getD 256 0 →
    0 ≤ (codedGo (bookL lit) (bookL dist) (usedL dist) src D f p out (-1)).2.2 ∧ (codedGo (bookL lit) (bookL dist) (usedL dist) src D f p out (-1)).2.2 ≠ 1 := by
  intro f
  induction f with
  | zero => intro p out h1 h2; omega
  | succ f ih =>
    intro p out h1 h2 h3
    rw [codedGo, if_pos (by decide)]
    simp only []
    have hw := step_weak (src := src) (D := D) hl hd p out _ rfl
    generalize codedStep (bookL lit) (bookL dist) (usedL dist) src D p out (-1) = r at *
    rcases hw with ⟨q1, q2, q3⟩ | ⟨q1, ⟨q2, q3, q4⟩ | ⟨q2, q3⟩⟩
    · rw [if_pos q1]
      refine ⟨?_, q2⟩
      rcases Int.lt_or_le r.2.2.2 0 with g | g
      · have := (q3 g).2; omega
      · exact g
    · rw [if_neg (by rw [q1]; decide), q2]
      exact ih _ _ q4 (by omega) (by omega)
    · rw [if_neg (by rw [q1]; decide), codedGo_off _ (by omega)]
      exact ⟨q2, q3⟩
theorem KC.noend {b : Bool} {p : Nat} {out : List Nat} (h : KC src D FR b lit dist p out) (hl : Fine lit) (hd : usedL dist = 0 ∨ Fine dist) (hp : p ≤ 8 * src.length) (hf : 8 * src.length < p + lit.getD 256 0) : FR.2.2 ≠ 1 := by
  obtain ⟨f, h1, h2⟩ := h
  obtain ⟨g1, g2⟩ := go_noend (D := D) hl hd f p out hp h1 hf
  rw [h2.bad g1]
  exact g2
/-- A step within a block. -/
theorem KC.step {b : Bool} {p : Nat} {out : List Nat} (h : KC src D FR b lit dist p out) (hp : p ≤ 8 * src.length) (r : Bool × Nat × List Nat × Int) (hr : codedStep (bookL lit) (bookL dist) (usedL dist) src D p out (-1) = r) :
    (r.1 = true → KF src D FR b r.2) ∧ (r.1 = false → 0 ≤ r.2.2.2 → KF src D FR b r.2) ∧ (r.1 = false → r.2.2.2 = -1 → p < r.2.1 → KC src D FR b lit dist r.2.1 r.2.2.1) := by
  obtain ⟨f, h1, h2⟩ := h
  cases f with
  | zero => omega
  | succ f =>
    rw [codedGo, if_pos (by decide)] at h2
    simp only [] at h2
    rw [hr] at h2
    refine ⟨fun q => ?_, fun q g => ?_, fun q g k => ?_⟩
    · rw [if_pos q] at h2; exact h2
    · rw [if_neg (by rw [q]; decide), codedGo_off _ (by omega)] at h2; exact h2
    · rw [if_neg (by rw [q]; decide), g] at h2
      exact ⟨f, by omega, h2⟩
end
end Go.Proofs.YtbbnibbdiiffkaaDoor
