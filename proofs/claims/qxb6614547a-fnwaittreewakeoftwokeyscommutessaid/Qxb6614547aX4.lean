import Derived.Test.Qxb6614547aX3
import Derived.Conc.SmallLaws
namespace Go.Proofs.Qxb6614547a
open Go.RowKit
open Go.Deep (BT)
set_option linter.unusedVariables false

theorem Try.info78 : (Try.prog.info? 78).map (fun i => i.bytes) = some 0 := by kernel_rfl
theorem Try.under71 : ∃ dir, Try.prog.underlying 71 = some (.chan dir 78) := by
  first | exact ⟨.both, by kernel_rfl⟩ | exact ⟨.send, by kernel_rfl⟩ | exact ⟨.recv, by kernel_rfl⟩
theorem mk_chan (w : World) : (Instr.makeChan 71 (.int .i64 0)).run Try.prog w = .ok (.chan (some w.heap.size)) (w.alloc (.chan 0 #[] false 0 0 false)) := by
  obtain ⟨dir, h⟩ := Try.under71
  have h2 := Try.info78
  cases hi : Try.prog.info? 78 with
  | none => rw [hi] at h2; cases h2
  | some i => exact Conc.run_makeChan (n := 0) h hi .i64 (by decide) (by simp)

set_option maxHeartbeats 2000000 in
theorem f28_any (frm to en : ByteArray) (nxt seq prio : Int) (w : World) :
    Calls Try.prog 28 #[.string frm, .string to, .int .u64 nxt, .int .u64 seq, .int .u64 prio, .string en] w fun e w' => e = .returned (.pointer (some ⟨w.heap.size + 1, 0, none⟩)) ∧
      w' = (w.alloc (.chan 0 #[] false 0 0 false)).alloc (.cells (wcells ⟨frm, to, seq, prio, w.heap.size, nxt⟩ true (.pointer none) (.pointer none) en) 74) := by
  have hm := mk_chan w
  go_enter Try.func28, Try.ntmps28
  go_wp2_with fail
  go_ret
  exact ⟨by simp, rfl⟩

set_option maxHeartbeats 2000000 in
theorem f29_any (b : Nat) (a : Wt) (wt : Bool) (l0 r0 : Value) (pl pr : Option Addr) (en : ByteArray) (w : World) (hb : w.heap[b]? = some (.cells (wcells a wt l0 r0 en) 74)) :
    Calls Try.prog 29 #[.pointer (some ⟨b, 0, none⟩), .pointer pl, .pointer pr] w fun e w' => e = .returned (.tuple #[]) ∧ w'.heap[b]? = some (.cells (wcells a wt (.pointer pl) (.pointer pr) en) 74) ∧ Kept [b] w w' := by
  have HB := hid hb
  obtain ⟨_, _, _, _, _, _, _, c10, c11, _, cf⟩ := wcell hb
  clear hb
  go_enter Try.func29, Try.ntmps29
  go_wp2_with fail
  go_end0
  have h1 := heap_setCell_same w b 10 _ 74 (.pointer pl) HB.out
  have h2 := heap_setCell_same _ b 11 _ 74 (.pointer pr) h1
  exact ⟨rfl, h2.trans rfl, (upd_kept w _).trans (upd_kept _ _)⟩

/-! ### wBuild -/
def plainO (o : Obj) : Prop := ∀ cs, o ≠ .cells cs 36 (0, 0) ∧ o ≠ .cells cs 35 (0, 0)
/-- the cell ob and the row that v owns may have turned; all else that was there is as it was -/
structure BX (ob : Nat) (w w' : World) (v v' : Value) : Prop where
  os : w'.os = w.os
  tape : w'.tape = w.tape
  output : w'.output = w.output
  size : w.heap.size ≤ w'.heap.size
  block : ∀ k, k < w.heap.size → k ≠ ob → some k ≠ v.ownBlock → w'.heap[k]? = w.heap[k]?
  own : v'.ownBlock = v.ownBlock ∨ ∃ k, v'.ownBlock = some k ∧ w.heap.size ≤ k
theorem BX.refl (ob : Nat) (w : World) (v : Value) : BX ob w w v v := ⟨rfl, rfl, rfl, Nat.le_refl _, fun _ _ _ _ => rfl, .inl rfl⟩
theorem BX.trans {ob : Nat} {a b c : World} {u v x : Value} (h : BX ob a b u v) (k : BX ob b c v x) : BX ob a c u x := by
  refine ⟨k.os.trans h.os, k.tape.trans h.tape, k.output.trans h.output, Nat.le_trans h.size k.size, fun i hi hne hn => ?_, ?_⟩
  · refine (k.block i (Nat.lt_of_lt_of_le hi h.size) hne ?_).trans (h.block i hi hne hn)
    rcases h.own with e | ⟨j, e, hj⟩
    · rw [e]; exact hn
    · rw [e]; intro e2; cases e2; omega
  · rcases k.own with e | ⟨j, e, hj⟩
    · rw [e]; exact h.own
    · exact .inr ⟨j, e, Nat.le_trans h.size hj⟩
theorem Ext.bx {ob : Nat} {w w' : World} {v v' : Value} (h : Ext w w' v v') : BX ob w w' v v' := ⟨h.os, h.tape, h.output, h.size, fun k hk _ hn => h.block k hk hn, h.own⟩
theorem Kept.bx {ob : Nat} {w w' : World} (v : Value) (h : Kept [ob] w w') : BX ob w w' v v := ⟨h.os, h.tape, h.output, Nat.le_of_eq h.size.symm, fun k hk hn _ => h.block k (by simpa using hn), .inl rfl⟩
theorem BX.kept {ob b : Nat} {w w1 w' : World} {v v' : Value} (h : BX ob w w1 v v') (hk : Kept [b] w1 w') (hb : w.heap.size ≤ b) : BX ob w w' v v' :=
  ⟨hk.os.trans h.os, hk.tape.trans h.tape, hk.output.trans h.output, Nat.le_trans h.size (Nat.le_of_eq hk.size.symm), fun k hk' hne hn => (hk.block k (by simp; omega)).trans (h.block k hk' hne hn), h.own⟩
theorem BX.alloc {ob : Nat} {w w' : World} {v v' : Value} (h : BX ob w w' v v') (o : Obj) : BX ob w (w'.alloc o) v v' :=
  ⟨h.os, h.tape, h.output, Nat.le_trans h.size (by simp), fun k hk hne hn => (Below.heap_alloc _ _ _ (Nat.lt_of_lt_of_le hk h.size)).trans (h.block k hk hne hn), h.own⟩
theorem BX.drew {ob : Nat} {w w' : World} {v v' : Value} (h : BX ob w w' v v') : BX ob w w'.drew v v' := ⟨h.os, h.tape, h.output, h.size, h.block, h.own⟩
theorem BX.below {ob B : Nat} {w w' : World} {v v' : Value} (h : BX ob w w' v v') (hob : B ≤ ob) (hv : ∀ k, v.ownBlock = some k → B ≤ k) (hB : B ≤ w.heap.size) : Below B w w' :=
  ⟨h.os, h.tape, h.output, h.size, fun k hk => h.block k (by omega) (by omega) (fun e => by have := hv k e.symm; omega)⟩
theorem BX.ownge {ob B : Nat} {w w' : World} {v v' : Value} (h : BX ob w w' v v') (hv : ∀ k, v.ownBlock = some k → B ≤ k) (hB : B ≤ w.heap.size) : ∀ k, v'.ownBlock = some k → B ≤ k := by
  intro k hk
  rcases h.own with e | ⟨j, e, hj⟩
  · exact hv k (e.symm.trans hk)
  · rw [e] at hk; cases hk; omega
theorem own_block {w : World} {v : Value} {n : Nat} {xs : List Value} (ho : w.ownsRow 0 36 1 v n xs) {b : Nat} {o : Obj} (hb : w.heap[b]? = some o) (hne : ∀ cs, o ≠ .cells cs 36 (0, 0)) : some b ≠ v.ownBlock := by
  intro e
  rcases ho.2 with ⟨rfl, _⟩ | ⟨g, cap, cur, rfl, _, hh, _⟩
  · cases e
  · simp only [Value.ownBlock, Option.some.injEq] at e
    rw [← e, hb] at hh
    simp only [Option.some.injEq] at hh
    exact hne _ hh
theorem BX.plain {ob : Nat} {w w' : World} {v v' u : Value} {n : Nat} {xs : List Value} (h : BX ob w w' v v') (hc : w.heap[ob]? = some (.cells #[u] 35)) (ho : w.ownsRow 0 36 1 v n xs) {b : Nat} {o : Obj} (hb : w.heap[b]? = some o) (hp : plainO o) : w'.heap[b]? = some o := by
  refine (h.block b (Array.getElem?_eq_some_iff.1 hb).1 ?_ (own_block ho hb (fun cs => (hp cs).1))).trans hb
  intro e
  rw [e, hc] at hb
  cases hb
  exact (hp _).2 rfl
theorem TIn.bx {ob : Nat} {w w' : World} {v v' u : Value} {n : Nat} {xs : List Value} (h : BX ob w w' v v') (hc : w.heap[ob]? = some (.cells #[u] 35)) (ho : w.ownsRow 0 36 1 v n xs) : ∀ {T : BT Wt}, TIn w T → TIn w' T
  | .nil, _ => trivial
  | .node b o a l r, ⟨h0, hb, hl, hr⟩ => ⟨h0, h.plain hc ho hb (fun cs => ⟨by simp, by simp⟩), TIn.bx h hc ho hl, TIn.bx h hc ho hr⟩
theorem TIn.same {w w' : World} (h : w'.heap = w.heap) : ∀ {T : BT Wt}, TIn w T → TIn w' T
  | .nil, _ => trivial
  | .node b o a l r, ⟨h0, hb, hl, hr⟩ => ⟨h0, by rw [h]; exact hb, TIn.same h hl, TIn.same h hr⟩

structure Built (ob : Nat) (w w' : World) (v v' : Value) (n : Nat) (xs : List Value) (X : BT TW) (K : BT Wt) : Prop where
  cell : w'.heap[ob]? = some (.cells #[v'] 35)
  row : w'.ownsRow 0 36 1 v' (n + sizeX X) (xs ++ (ino K).map ptrOf)
  tin : TIn w' K
  orl : ∀ e, orLater e K (endT K) = orX e X (enX X)
  pay : (ino K).map (fun p => ({ p.2 with ch := 0 } : Wt)) = (tino X).map (fun q => toWt q.2.2)
  fresh : ∀ p ∈ ino K, w.heap.size ≤ p.1 ∧ w.heap.size ≤ p.2.ch
  chn : ∀ p ∈ ino K, w'.heap[p.2.ch]? = some (.chan 0 #[] false 0 0 false)
  nb : ((ino K).map (·.1)).Nodup
  nc : ((ino K).map (·.2.ch)).Nodup
  bx : BX ob w w' v v'

def BuildOK (X : BT TW) : Prop := ∀ (B ob : Nat) (v : Value) (n : Nat) (xs : List Value) (w : World), XIn w B X → endsOKB X = true → w.heap[ob]? = some (.cells #[v] 35) → w.ownsRow 0 36 1 v n xs →
  (∀ k, v.ownBlock = some k → B ≤ k) → B ≤ ob → B ≤ w.heap.size → n + sizeX X ≤ 100000 →
  Calls Try.prog 15 #[X.ptr, .pointer (some ⟨ob, 0, none⟩)] w fun e w' => ∃ v' K, e = .returned K.ptr ∧ Built ob w w' v v' n xs X K

set_option maxHeartbeats 1000000 in
theorem build_nil : BuildOK .nil := by
  intro B ob v n xs w _ _ hc ho hv hob hB hn
  show Calls Try.prog 15 #[.pointer none, _] w _
  have HO := hid ho
  have HC := hid hc
  clear ho hc
  go_enter Try.func15, Try.ntmps15
  go_wp2_with fail
  go_ret
  exact ⟨v, .nil, rfl, HC.out, by simpa [sizeX, ino] using HO.out, trivial, fun _ => rfl, rfl, (fun p h => by cases h), (fun p h => by cases h), by simp [ino], by simp [ino], BX.refl _ _ _⟩

theorem heap_top (w : World) (o : Obj) (k : Nat) (h : k = w.heap.size) : (w.alloc o).heap[k]? = some o := by
  subst h
  show (w.heap.push o)[w.heap.size]? = some o
  simp
/-- the whole put together -/
theorem built_node {b o ob n : Nat} {a : TW} {l r : BT TW} {w w1 w2 w3 w4 w5 : World} {v v1 v3 v4 : Value} {xs : List Value} {Kl Kr : BT Wt}
    (hE : endsOKB (.node b o a l r) = true) (hc : w.heap[ob]? = some (.cells #[v] 35)) (ho : w.ownsRow 0 36 1 v n xs)
    (b1 : Built ob w w1 v v1 n xs l Kl)
    (hw2 : w2 = (w1.drew.alloc (.chan 0 #[] false 0 0 false)).alloc (.cells (wcells ⟨a.frm, a.to, a.seq, a.prio, w1.heap.size, a.nxt⟩ true (.pointer none) (.pointer none) a.en) 74))
    (x3 : BX ob w2 w3 v1 v3) (hc3 : w3.heap[ob]? = some (.cells #[v3] 35)) (ho3 : w3.ownsRow 0 36 1 v3 (n + sizeX l + 1) ((xs ++ (ino Kl).map ptrOf) ++ [.pointer (some ⟨w1.heap.size + 1, 0, none⟩)]))
    (b4 : Built ob w3 w4 v3 v4 (n + sizeX l + 1) ((xs ++ (ino Kl).map ptrOf) ++ [.pointer (some ⟨w1.heap.size + 1, 0, none⟩)]) r Kr)
    (hk5 : Kept [w1.heap.size + 1] w4 w5) (hb5 : w5.heap[w1.heap.size + 1]? = some (.cells (wcells ⟨a.frm, a.to, a.seq, a.prio, w1.heap.size, a.nxt⟩ true Kl.ptr Kr.ptr a.en) 74)) :
    Built ob w w5 v v4 n xs (.node b o a l r) (.node (w1.heap.size + 1) 0 ⟨a.frm, a.to, a.seq, a.prio, w1.heap.size, a.nxt⟩ Kl Kr) := by
  simp only [endsOKB, Bool.and_eq_true, beq_iff_eq] at hE
  have hen := toList_inj hE.1
  have hend : endT (.node (w1.heap.size + 1) 0 ⟨a.frm, a.to, a.seq, a.prio, w1.heap.size, a.nxt⟩ Kl Kr) = a.en := by
    show orLater (orLater a.to Kl (endT Kl)) Kr (endT Kr) = _
    rw [b4.orl, b1.orl, hen]; rfl
  have hs2 : w2.heap.size = w1.heap.size + 2 := by rw [hw2]; simp
  have x12 : BX ob w1 w2 v1 v1 := by rw [hw2]; exact ((BX.refl ob w1 v1).drew.alloc _).alloc _
  have x13 : BX ob w1 w3 v1 v3 := x12.trans x3
  have x14 : BX ob w1 w4 v1 v4 := x13.trans b4.bx
  have hcc : ∀ {ob' : Nat} {k : Nat} {ob2 : Obj}, w4.heap[k]? = some ob2 → k ≠ w1.heap.size + 1 → w5.heap[k]? = some ob2 := fun h hne => (hk5.block _ (by simpa using hne)).trans h
  have hsz3 := x3.size
  have hm1 : ∀ p ∈ ino Kl, p.1 < w1.heap.size := by
    intro p hp
    obtain ⟨_, _, _, h⟩ := b1.tin.mem p hp
    exact (Array.getElem?_eq_some_iff.1 h).1
  have hm1c : ∀ p ∈ ino Kl, p.2.ch < w1.heap.size := fun p hp => (Array.getElem?_eq_some_iff.1 (b1.chn p hp)).1
  have hf4 := b4.fresh
  have tkept : ∀ {T : BT Wt}, TIn w4 T → (∀ p ∈ ino T, p.1 ≠ w1.heap.size + 1) → TIn w5 T := fun h hne => h.kept hk5 (fun k hk => by
    obtain ⟨p, hp, rfl⟩ := List.mem_map.1 hk
    simpa using hne p hp)
  have hnob : ob ≠ w1.heap.size + 1 := by
    have := (Array.getElem?_eq_some_iff.1 b1.cell).1
    omega
  have hrow5 : w5.ownsRow 0 36 1 v4 (n + sizeX l + 1 + sizeX r) (((xs ++ (ino Kl).map ptrOf) ++ [.pointer (some ⟨w1.heap.size + 1, 0, none⟩)]) ++ (ino Kr).map ptrOf) := by
    refine ⟨b4.row.1, ?_⟩
    rcases b4.row.2 with h2 | ⟨g, cap, cur, hv, hg, hh, r'⟩
    · exact .inl h2
    · refine .inr ⟨g, cap, cur, hv, hg, hcc (ob' := 0) hh ?_, r'⟩
      intro e
      have hh2 : w2.heap[w1.heap.size + 1]? = some (.cells (wcells ⟨a.frm, a.to, a.seq, a.prio, w1.heap.size, a.nxt⟩ true (.pointer none) (.pointer none) a.en) 74) := by
        rw [hw2]; exact heap_top _ _ _ (by simp)
      have hc2 : w2.heap[ob]? = some (.cells #[v1] 35) := by
        have := x12.size
        rw [hw2]; exact (Below.heap_alloc _ _ _ (by simp; have := (Array.getElem?_eq_some_iff.1 b1.cell).1; omega)).trans ((Below.heap_alloc _ _ _ (by simpa using (Array.getElem?_eq_some_iff.1 b1.cell).1)).trans b1.cell)
      have ho2 : w2.ownsRow 0 36 1 v1 (n + sizeX l) (xs ++ (ino Kl).map ptrOf) := by rw [hw2]; exact (b1.row.alloc _).alloc _
      have hh3 := (x3.trans b4.bx).plain hc2 ho2 hh2 (fun cs => ⟨by simp, by simp⟩)
      rw [e, hh3] at hh
      simp at hh
  refine ⟨hcc (ob' := 0) b4.cell hnob, ?_, ?_, fun e => ?_, ?_, ?_, ?_, ?_, ?_, ?_⟩
  · simp only [sizeX, ino]
    rw [show n + (sizeX l + sizeX r + 1) = n + sizeX l + 1 + sizeX r from by omega]
    simpa [ptrOf] using hrow5
  · exact ⟨rfl, by rw [hend]; exact hb5, tkept (TIn.bx x14 b1.cell b1.row b1.tin) (fun p hp => by have := hm1 p hp; omega), tkept b4.tin (fun p hp => by have := (hf4 p hp).1; omega)⟩
  · show laterB e (endT _) = laterB e a.en
    rw [hend]
  · simp only [ino, tino, List.map_append, List.map_cons, b1.pay, b4.pay]; rfl
  · intro p hp
    simp only [ino, List.mem_append, List.mem_cons] at hp
    have := b1.bx.size
    rcases hp with hp | rfl | hp
    · exact b1.fresh p hp
    · exact ⟨by show _ ≤ w1.heap.size + 1; omega, by show _ ≤ w1.heap.size; omega⟩
    · have := hf4 p hp; exact ⟨by omega, by omega⟩
  · intro p hp
    simp only [ino, List.mem_append, List.mem_cons] at hp
    rcases hp with hp | rfl | hp
    · exact hcc (ob' := 0) (x14.plain b1.cell b1.row (b1.chn p hp) (fun cs => ⟨by simp, by simp⟩)) (by have := hm1c p hp; omega)
    · show w5.heap[w1.heap.size]? = _
      have hh2 : w2.heap[w1.heap.size]? = some (.chan 0 #[] false 0 0 false) := by
        rw [hw2]; exact (Below.heap_alloc _ _ _ (by simp)).trans (heap_top _ _ _ rfl)
      have hc2 : w2.heap[ob]? = some (.cells #[v1] 35) := by
        rw [hw2]; exact (Below.heap_alloc _ _ _ (by simp; have := (Array.getElem?_eq_some_iff.1 b1.cell).1; omega)).trans ((Below.heap_alloc _ _ _ (by simpa using (Array.getElem?_eq_some_iff.1 b1.cell).1)).trans b1.cell)
      have ho2 : w2.ownsRow 0 36 1 v1 (n + sizeX l) (xs ++ (ino Kl).map ptrOf) := by rw [hw2]; exact (b1.row.alloc _).alloc _
      exact hcc (ob' := 0) ((x3.trans b4.bx).plain hc2 ho2 hh2 (fun cs => ⟨by simp, by simp⟩)) (by omega)
    · exact hcc (ob' := 0) (b4.chn p hp) (by
        intro e
        have hh := (hf4 p hp).2
        omega)
  · simp only [ino, List.map_append, List.map_cons, List.nodup_append, List.nodup_cons]
    refine ⟨b1.nb, ⟨?_, b4.nb⟩, ?_⟩
    · intro hm
      obtain ⟨p, hp, e⟩ := List.mem_map.1 hm
      have := (hf4 p hp).1
      omega
    · intro x hx y hy e
      obtain ⟨p, hp, rfl⟩ := List.mem_map.1 hx
      have h1 := hm1 p hp
      rcases List.mem_cons.1 hy with rfl | hy
      · omega
      · obtain ⟨q, hq, rfl⟩ := List.mem_map.1 hy
        have := (hf4 q hq).1
        omega
  · simp only [ino, List.map_append, List.map_cons, List.nodup_append, List.nodup_cons]
    refine ⟨b1.nc, ⟨?_, b4.nc⟩, ?_⟩
    · intro hm
      obtain ⟨p, hp, e⟩ := List.mem_map.1 hm
      have := (hf4 p hp).2
      omega
    · intro x hx y hy e
      obtain ⟨p, hp, rfl⟩ := List.mem_map.1 hx
      have h1 := hm1c p hp
      rcases List.mem_cons.1 hy with rfl | hy
      · omega
      · obtain ⟨q, hq, rfl⟩ := List.mem_map.1 hy
        have := (hf4 q hq).2
        omega
  · exact (b1.bx.trans x14).kept hk5 (by have := b1.bx.size; omega)

end Go.Proofs.Qxb6614547a
