import Derived.Test.Qxb6614547aW4
import Derived.Deep.LoopGhost
import Derived.ArgAppend
import Derived.Deep.DeepMust
import Derived.Maps.AppendAt
namespace Go.Proofs.Qxb6614547a
open Go.RowKit
open Go.Deep (BT)
set_option linter.unusedVariables false

/-- the row that v owns may have turned or moved to a new block; all else that was there is as it was -/
structure Ext (w w' : World) (v v' : Value) : Prop where
  os : w'.os = w.os
  tape : w'.tape = w.tape
  output : w'.output = w.output
  size : w.heap.size ≤ w'.heap.size
  block : ∀ k, k < w.heap.size → some k ≠ v.ownBlock → w'.heap[k]? = w.heap[k]?
  own : v'.ownBlock = v.ownBlock ∨ ∃ k, v'.ownBlock = some k ∧ w.heap.size ≤ k

theorem Ext.refl (w : World) (v : Value) : Ext w w v v := ⟨rfl, rfl, rfl, Nat.le_refl _, fun _ _ _ => rfl, .inl rfl⟩
theorem Ext.trans {a b c : World} {u v x : Value} (h : Ext a b u v) (k : Ext b c v x) : Ext a c u x := by
  refine ⟨k.os.trans h.os, k.tape.trans h.tape, k.output.trans h.output, Nat.le_trans h.size k.size, fun i hi hn => ?_, ?_⟩
  · refine (k.block i (Nat.lt_of_lt_of_le hi h.size) ?_).trans (h.block i hi hn)
    rcases h.own with e | ⟨j, e, hj⟩
    · rw [e]; exact hn
    · rw [e]; intro e2; cases e2; omega
  · rcases k.own with e | ⟨j, e, hj⟩
    · rw [e]; exact h.own
    · exact .inr ⟨j, e, Nat.le_trans h.size hj⟩
theorem Ext.alloc {w w' : World} {v v' : Value} (h : Ext w w' v v') (o : Obj) : Ext w (w'.alloc o) v v' :=
  ⟨h.os, h.tape, h.output, Nat.le_trans h.size (by simp), fun k hk hn => (Below.heap_alloc _ _ _ (Nat.lt_of_lt_of_le hk h.size)).trans (h.block k hk hn), h.own⟩
theorem Ext.drewN {w w' : World} {v v' : Value} (h : Ext w w' v v') (n : Nat) : Ext w (w'.drewN n) v v' := ⟨h.os, h.tape, h.output, h.size, h.block, h.own⟩
theorem own_zero {w : World} {base : Nat} {e : TypeId} {size n : Nat} {v : Value} {xs : List Value} (h : w.ownsRow base e size v n xs) : w.ownsRow 0 e size v n xs := by
  refine ⟨h.1, ?_⟩
  rcases h.2 with h2 | ⟨g, cap, cur, hv, hg, r⟩
  · exact .inl h2
  · exact .inr ⟨g, cap, cur, hv, Nat.zero_le _, r⟩

/-- append of one element to a row of the call's own: with the frame -/
theorem wpList_append_one {P : Program} (w : World) {ops : Array Oper} {rest : List Oper} {o : Oper} {a : Act} {Q : Exit → Act → World → Prop}
    (hg : o.guard = none) (s x : Operand) (t : TypeId) (hop : o.op = Op.call { callee := Callee.builtin Builtin.append, args := #[s, x], argTypes := #[t, t] })
    (e : TypeId) (i : TypeInfo) (z : Value) (bytes : Nat) (h1 : P.underlying t = some (.slice e)) (h2 : P.info? e = some i) (h3 : i.zero = some z) (h4 : i.size = 1) (h5 : i.bytes = bytes) (h6 : z.cells.size = 1)
    (v : Value) (n : Nat) (xs : List Value) (hs : a.eval s = v) (hown : w.ownsRow 0 e 1 v n xs) (ad : Addr) (u : Value) (hx : a.eval x = .slice (some ad) 1 1) (hc : ∀ j y, [u][j]? = some y → w.cell? (ad.add j) = some y) (h1c : u.oneCell' = true)
    (b1 : n + 1 ≤ maxLen) (b2 : (n + 1) * bytes ≤ 140737488355328)
    (hK : ∀ v' w', w'.ownsRow 0 e 1 v' (n + 1) (xs ++ [u]) → Ext w w' v v' → wpList P ops Q rest (a.put o.dst v') w') :
    wpList P ops Q (o :: rest) a w := by
  have grow : ∀ v' w', w'.ownsRow w.heap.size e 1 v' (n + 1) (xs ++ [u]) → w.grownBy w' none → wpList P ops Q rest (a.put o.dst v') w' := by
    intro v' w' ho hgr
    refine hK v' w' (own_zero ho) ⟨hgr.os, hgr.tape, hgr.output, hgr.size, fun k hk hn => hgr.block k hk (by simp), .inr ?_⟩
    rcases ho.2 with ⟨_, h⟩ | ⟨g, cap, cur, rfl, hg', _⟩
    · omega
    · exact ⟨g, rfl, hg'⟩
  have hlen := hown.1
  rw [Nat.mul_one] at hlen
  rcases hown.2 with ⟨rfl, rfl⟩ | ⟨g, cap, cur, rfl, _, hh, hnc, hcm, hcs, htk⟩
  · have hxs : xs = [] := List.length_eq_zero_iff.1 hlen
    subst hxs
    exact wpList_append_grows w hg s x t hop e i z 1 bytes h1 h2 h3 h4 h5 h6 (by omega) none 0 0 [] hs (fun _ => ⟨rfl, rfl⟩) rfl (fun b hb => by cases hb) ad 1 1 [u] hx rfl hc (fun y hy => by simp at hy; subst hy; exact h1c) (by omega) b1 b2 grow
  · by_cases hfit : n + 1 ≤ cap
    · refine wpList_append_fits w hg s x t hop 0 e i 1 h1 h2 h4 g n cap xs hs hown ad 1 1 [u] hx rfl hc (fun y hy => by simp at hy; subst hy; exact h1c) hfit (fun w' ho hgr => ?_)
      exact hK _ w' ho ⟨hgr.os, hgr.tape, hgr.output, hgr.size, fun k hk hn => hgr.block k hk hn, .inl rfl⟩
    · refine wpList_append_grows w hg s x t hop e i z 1 bytes h1 h2 h3 h4 h5 h6 (by omega) (some ⟨g, 0, none⟩) n cap xs hs (fun h => by cases h) (by simpa using hlen) (fun b hb j y hy => ?_) ad 1 1 [u] hx rfl hc (fun y hy => by simp at hy; subst hy; exact h1c) (by omega) b1 b2 grow
      cases hb
      have hj : j < xs.length := (List.getElem?_eq_some_iff.1 hy).1
      have hadd : (⟨g, 0, none⟩ : Addr).add j = ⟨g, j, none⟩ := by unfold Addr.add; split <;> simp_all
      rw [hadd, hown.cellAt j (by omega), hy]

theorem Try.info36 : (Try.prog.info? 36).map (fun i => (i.zero, i.size, i.bytes)) = some (some (.pointer none), 1, 8) := by kernel_rfl

def ptrOf (p : Nat × Wt) : Value := .pointer (some ⟨p.1, 0, none⟩)

/-- a tree lies as it lay where a row of pointers grows -/
theorem TIn.ext {w w' : World} {v v' : Value} {n : Nat} {xs : List Value} (ho : w.ownsRow 0 36 1 v n xs) (h : Ext w w' v v') : ∀ {T : BT Wt}, TIn w T → TIn w' T
  | .nil, _ => trivial
  | .node b o a l r, ⟨h0, hb, hl, hr⟩ => by
    refine ⟨h0, (h.block b (Array.getElem?_eq_some_iff.1 hb).1 ?_).trans hb, TIn.ext ho h hl, TIn.ext ho h hr⟩
    intro e
    rcases ho.2 with ⟨rfl, _⟩ | ⟨g, cap, cur, rfl, _, hh, _⟩
    · cases e
    · simp only [Value.ownBlock, Option.some.injEq] at e
      rw [← e, hb] at hh
      simp at hh

theorem ext_block {w w' : World} {v v' : Value} {n : Nat} {xs : List Value} (ho : w.ownsRow 0 36 1 v n xs) (h : Ext w w' v v') {b : Nat} {ob : Obj} (hb : w.heap[b]? = some ob) (hne : ∀ cur, ob ≠ .cells cur 36 (0, 0)) : w'.heap[b]? = some ob := by
  refine (h.block b (Array.getElem?_eq_some_iff.1 hb).1 ?_).trans hb
  intro e
  rcases ho.2 with ⟨rfl, _⟩ | ⟨g, cap, cur, rfl, _, hh, _⟩
  · cases e
  · simp only [Value.ownBlock, Option.some.injEq] at e
    rw [← e, hb] at hh
    simp only [Option.some.injEq] at hh
    exact hne _ hh
def HoldOK (T : BT Wt) : Prop := ∀ (k : ByteArray) (v : Value) (n : Nat) (xs : List Value) (w : World), TIn w T → Srt (ino T) → w.ownsRow 0 36 1 v n xs → n + sizeT T ≤ 100000 →
  Calls Try.prog 42 #[v, T.ptr, .string k] w fun e w' => ∃ v', e = .returned v' ∧ w'.ownsRow 0 36 1 v' (n + (held k T).length) (xs ++ (held k T).map ptrOf) ∧ Ext w w' v v'
theorem held_len (k : ByteArray) (T : BT Wt) : (held k T).length ≤ sizeT T := by rw [← len_ino]; exact List.length_filter_le _ _
theorem held_node (k : ByteArray) (b o : Nat) (a : Wt) (l r : BT Wt) : held k (.node b o a l r) = held k l ++ ((if holdsW k a = true then [(b, a)] else []) ++ held k r) := by
  simp only [held, ino, List.filter_append, List.filter_cons]
  cases holdsW k a <;> simp

set_option maxHeartbeats 2000000 in
set_option maxRecDepth 100000 in
theorem hold_step (m : Nat) (ih : Hid (∀ T : BT Wt, sizeT T ≤ m → HoldOK T)) (T : BT Wt) (hT : sizeT T ≤ m + 1) : HoldOK T := by
  intro k v n xs w hin hs ho hn
  obtain ⟨i0, hi, hz0, hz1, hz2⟩ := info_parts Try.info36
  have HS := hid hs
  have HIN := hid hin
  have HO := hid ho
  obtain ⟨p0, hp0⟩ := ptr_form T w hin
  have HP0 := hid hp0
  rw [hp0]
  clear hs hin ho hp0
  go_enter Try.func42, Try.ntmps42
  go_wp2_with fail
  go_loopg [0, 7] (sizeT T) (fun g bv pv wr => ∃ (S : BT Wt) (dn : List (Nat × Wt)), pv = S.ptr ∧ g = sizeT S ∧ Hid (held k T = dn ++ held k S) ∧ dn.length + sizeT S ≤ sizeT T ∧ Hid (TIn wr S) ∧ Hid (Srt (ino S)) ∧
    Hid (wr.ownsRow 0 36 1 bv (n + dn.length) (xs ++ dn.map ptrOf)) ∧ Hid (Ext w wr v bv))
  case atStart => exact ⟨T, [], HP0.out.symm, rfl, rfl, by simp, HIN, HS, hid (by simpa using HO.out), Ext.refl _ _⟩
  case round =>
    obtain ⟨S, dn, hpv, hg, hh, hsz, hSin, hSs, hown, hext⟩ := hrel
    subst hpv
    cases S with
    | nil =>
      have HE : Hid (held k T = dn) := by show _ = _; rw [hh.out]; simp [held, ino]
      show Code.wp _ _ _ _ _
      simp only [BT.ptr]
      go_wp2_with fail
      go_ret
      exact ⟨_, rfl, by rw [HE.out]; exact hown.out, hext.out⟩
    | node b o a l r =>
      obtain ⟨h0, hb, hl, hr⟩ := hSin.out
      subst h0
      obtain ⟨_, _, _, _, _, _, _, c10, _, c12, _⟩ := wcell hb
      obtain ⟨pl, hpl⟩ := ptr_form l wr hl
      rw [hpl] at c10
      have HPL := hid hpl
      have HL := hid hl
      clear hb hl hr hpl
      simp only [BT.ptr]
      cases hE : endsA (endT (.node b 0 a l r)) k
      · have HE : Hid (held k T = dn) := by show _ = _; rw [hh.out, held_none k _ (by simp) hE]; simp
        go_wp2_with (go_at_call 44; refine (f44_any _ _ _).mono ?_; rintro e w' ⟨rfl, rfl⟩)
        go_ret
        exact ⟨_, rfl, by rw [HE.out]; exact hown.out, hext.out⟩
      · go_wp2_with (first | (go_at_call 44; refine (f44_any _ _ _).mono ?_; rintro e w' ⟨rfl, rfl⟩) | fail)
        rw [← HPL.out]
        have hss := hSs.out
        unfold Srt at hss
        simp only [ino, List.pairwise_append, List.pairwise_cons] at hss
        obtain ⟨hsl, ⟨hsar, hsr⟩, _⟩ := hss
        simp only [sizeT] at hsz hg
        have hll := held_len k l
        refine (ih.out l (by omega) k u0 (n + dn.length) _ _ HL.out hsl hown.out (by omega)).mono ?_
        rintro e w1 ⟨v1, rfl, ho1, hx1⟩
        have hS1 := TIn.ext hown.out hx1 hSin.out
        obtain ⟨_, hb1, _, hr1⟩ := hS1
        obtain ⟨d1, d2, _, _, _, _, _, _, d11, _, _⟩ := wcell hb1
        obtain ⟨pr, hpr⟩ := ptr_form r w1 hr1
        rw [hpr] at d11
        have HPR := hid hpr
        have HR1 := hid hr1
        have HB1 := hid hb1
        have HSR := hid hsr
        have HO1 := hid ho1
        have HX1 := hid (hext.out.trans hx1)
        have HN := hid (held_node k b 0 a l r)
        have HSAR := hid hsar
        clear hb1 hr1 hpr hsl hsar hsr ho1 hx1 c10 c12 hE
        cases hK : bl k.toList a.frm.toList
        · cases hT2 : endsA a.to k
          · have hW : holdsW k a = false := by simp [holdsW, hT2]
            have HE : Hid (held k T = (dn ++ held k l) ++ held k r) := by show _ = _; rw [hh.out, HN.out, hW]; simp
            clear hW
            go_wp2_with (first | (go_at_call 44; refine (f44_any _ _ _).mono ?_; rintro e w' ⟨rfl, rfl⟩) | fail)
            go_roundg (sizeT r)
            case measure => omega
            case rel =>
              refine ⟨r, dn ++ held k l, HPR.out.symm, rfl, HE, by simp; omega, HR1, HSR, ?_, HX1⟩
              have := HO1.out
              exact hid (by simpa [Nat.add_assoc] using this)
          · have hW : holdsW k a = true := by simp [holdsW, hT2, hK]
            have HE : Hid (held k T = (dn ++ held k l ++ [(b, a)]) ++ held k r) := by show _ = _; rw [hh.out, HN.out, hW]; simp
            clear hW
            go_wp2_with fail
            refine (f44_any _ _ _).mono ?_
            rintro e w9 ⟨rfl, hw9⟩
            rw [hw9]
            clear hw9
            have ho1 := HO1.out
            go_wp2_with (at_builtin; go_must (refine wpList_append_one _ rfl _ _ 35 rfl 36 i0 (.pointer none) 8 Try.underlying35 hi hz0 hz1 hz2 rfl _ _ _ rfl (ho1.alloc _) ⟨w1.heap.size, 0, none⟩ (.pointer (some ⟨b, 0, none⟩)) rfl (cell_one_new _ _ _) rfl (by unfold maxLen; omega) (by omega) ?_); intro v2 w2 ho2 hx2; have hxx := ((Ext.refl w1 v1).alloc _).trans hx2; have d11b := (wcell (ext_block ho1 hxx HB1.out (by simp))).2.2.2.2.2.2.2.2.1; rw [HPR.out] at d11b)
            go_roundg (sizeT r)
            case measure => omega
            case rel =>
              refine ⟨r, dn ++ held k l ++ [(b, a)], HPR.out.symm, rfl, HE, by simp; omega, hid (TIn.ext ho1 hxx HR1.out), HSR, ?_, hid (HX1.out.trans hxx)⟩
              exact hid (by simpa [Nat.add_assoc, ptrOf] using ho2)
        · have hW : holdsW k a = false := by simp [holdsW, hK]
          have HE : Hid (held k T = dn ++ held k l) := by show _ = _; rw [hh.out, HN.out, hW, held_past k a r HSAR.out hK]; simp
          clear hW
          go_wp2_with fail
          go_ret
          refine ⟨_, rfl, ?_, HX1.out⟩
          rw [HE.out]
          have := HO1.out
          simpa [Nat.add_assoc] using this

set_option maxHeartbeats 1000000 in
theorem hold_zero (T : BT Wt) (hT : sizeT T ≤ 0) : HoldOK T := by
  intro k v n xs w hin hs ho hn
  cases T with
  | node b o a l r => simp [sizeT] at hT
  | nil =>
    show Calls Try.prog 42 #[v, .pointer none, .string k] w _
    have HO := hid ho
    clear ho
    go_enter Try.func42, Try.ntmps42
    go_wp2_with fail
    refine wp_loop_rounds 1 ?_
    rw [rounds_succ]
    go_wp2_with fail
    go_ret
    exact ⟨v, rfl, by simpa [held, ino] using HO.out, Ext.refl _ _⟩
theorem hold_ok (m : Nat) : ∀ T : BT Wt, sizeT T ≤ m → HoldOK T := by
  induction m with
  | zero => intro T hT; exact hold_step 0 (fun S hS => hold_zero S hS) T (by omega)
  | succ m ih => intro T hT; exact hold_step m ih T hT
theorem f42_any (T : BT Wt) : HoldOK T := hold_ok _ T (Nat.le_refl _)
end Go.Proofs.Qxb6614547a
