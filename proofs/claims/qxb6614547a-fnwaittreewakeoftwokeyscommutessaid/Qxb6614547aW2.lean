import Derived.Test.Qxb6614547aW1
namespace Go.Proofs.Qxb6614547a
open Go.RowKit
open Go.Deep (BT)
set_option linter.unusedVariables false

/-- Only the listed blocks have turned; none is new. -/
structure Kept (S : List Nat) (W W' : World) : Prop where
  os : W'.os = W.os
  tape : W'.tape = W.tape
  output : W'.output = W.output
  size : W'.heap.size = W.heap.size
  block : ∀ k, k ∉ S → W'.heap[k]? = W.heap[k]?

theorem Kept.refl (S : List Nat) (W : World) : Kept S W W := ⟨rfl, rfl, rfl, rfl, fun _ _ => rfl⟩
theorem Kept.trans {S : List Nat} {A B C : World} (h : Kept S A B) (k : Kept S B C) : Kept S A C :=
  ⟨k.os.trans h.os, k.tape.trans h.tape, k.output.trans h.output, k.size.trans h.size, fun i hi => (k.block i hi).trans (h.block i hi)⟩
theorem Kept.mono {S S' : List Nat} {A B : World} (h : Kept S A B) (hs : ∀ k ∈ S, k ∈ S') : Kept S' A B := ⟨h.os, h.tape, h.output, h.size, fun k hk => h.block k (fun hm => hk (hs k hm))⟩
theorem Kept.drewN {S : List Nat} {A B : World} (h : Kept S A B) (n : Nat) : Kept S A (B.drewN n) := ⟨h.os, h.tape, h.output, h.size, h.block⟩
theorem Kept.drew {S : List Nat} {A B : World} (h : Kept S A B) : Kept S A B.drew := ⟨h.os, h.tape, h.output, h.size, h.block⟩
theorem Kept.setCell {S : List Nat} {A B : World} (h : Kept S A B) {b i : Nat} (hb : b ∈ S) (v : Value) : Kept S A (B.setCell ⟨b, i, none⟩ v) :=
  h.trans ⟨rfl, rfl, rfl, by simp [World.setCell], fun k hk => Below.heap_setCell _ _ _ _ (fun e => hk (by rw [e]; exact hb))⟩

theorem rootEnd {W : World} {b : Nat} {a : Wt} {wt : Bool} {l r : Value} {en : ByteArray} (h : W.heap[b]? = some (.cells (wcells a wt l r en) 74)) : W.cell? ⟨b, 12, none⟩ = some (.string en) := (wcell h).2.2.2.2.2.2.2.2.2.1

theorem upd_done {w : World} {b : Nat} {a : Wt} {wt : Bool} {l r : Value} {en e : ByteArray} (h : w.heap[b]? = some (.cells (wcells a wt l r en) 74)) : (w.setCell ⟨b, 12, none⟩ (.string e)).heap[b]? = some (.cells (wcells a wt l r e) 74) := by
  rw [heap_setCell_same w b 12 _ 74 _ h]; rfl
theorem upd_kept (w : World) {b i : Nat} (v : Value) : Kept [b] w (w.setCell ⟨b, i, none⟩ v) := (Kept.refl _ _).setCell (by simp) v

set_option maxHeartbeats 2000000 in
theorem f48_00 (b : Nat) (a : Wt) (wt : Bool) (en : ByteArray) (w : World) (hb : w.heap[b]? = some (.cells (wcells a wt (.pointer none) (.pointer none) en) 74)) :
    Calls Try.prog 48 #[.pointer (some ⟨b, 0, none⟩)] w fun x w' => x = .returned (.tuple #[]) ∧ Kept [b] w w' ∧ w'.heap[b]? = some (.cells (wcells a wt (.pointer none) (.pointer none) a.to) 74) := by
  obtain ⟨b1, b2, b3, b4, b5, b8, b9, b10, b11, b12, bf⟩ := wcell hb
  have HB := hid hb
  clear hb
  go_enter Try.func48, Try.ntmps48
  go_wp2
  all_goals (go_end0; exact ⟨rfl, by repeat (first | exact Kept.refl _ _ | refine Kept.drew ?_ | refine Kept.setCell ?_ (by simp) _), upd_done HB.out⟩)

set_option maxHeartbeats 2000000 in
theorem f48_10 (b : Nat) (a : Wt) (wt : Bool) (en : ByteArray) (w : World) (g : Nat) (e1 : ByteArray) (hb : w.heap[b]? = some (.cells (wcells a wt (.pointer (some ⟨g, 0, none⟩)) (.pointer none) en) 74)) (g12 : w.cell? ⟨g, 12, none⟩ = some (.string e1)) (n1 : b ≠ g) :
    Calls Try.prog 48 #[.pointer (some ⟨b, 0, none⟩)] w fun x w' => x = .returned (.tuple #[]) ∧ Kept [b] w w' ∧ w'.heap[b]? = some (.cells (wcells a wt (.pointer (some ⟨g, 0, none⟩)) (.pointer none) (laterB a.to e1)) 74) := by
  obtain ⟨b1, b2, b3, b4, b5, b8, b9, b10, b11, b12, bf⟩ := wcell hb
  have HB := hid hb
  clear hb
  go_enter Try.func48, Try.ntmps48
  go_wp2
  all_goals (go_region_with (go_at_call 49; refine (f49_any _ _ _).mono ?_; rintro e w' ⟨rfl, rfl⟩))
  all_goals go_wp2
  all_goals (go_end0; exact ⟨rfl, by repeat (first | exact Kept.refl _ _ | refine Kept.drew ?_ | refine Kept.setCell ?_ (by simp) _), upd_done (upd_done HB.out)⟩)

set_option maxHeartbeats 2000000 in
theorem f48_01 (b : Nat) (a : Wt) (wt : Bool) (en : ByteArray) (w : World) (h : Nat) (e2 : ByteArray) (hb : w.heap[b]? = some (.cells (wcells a wt (.pointer none) (.pointer (some ⟨h, 0, none⟩)) en) 74)) (h12 : w.cell? ⟨h, 12, none⟩ = some (.string e2)) (n2 : b ≠ h) :
    Calls Try.prog 48 #[.pointer (some ⟨b, 0, none⟩)] w fun x w' => x = .returned (.tuple #[]) ∧ Kept [b] w w' ∧ w'.heap[b]? = some (.cells (wcells a wt (.pointer none) (.pointer (some ⟨h, 0, none⟩)) (laterB a.to e2)) 74) := by
  obtain ⟨b1, b2, b3, b4, b5, b8, b9, b10, b11, b12, bf⟩ := wcell hb
  have HB := hid hb
  clear hb
  go_enter Try.func48, Try.ntmps48
  go_wp2
  all_goals (go_region_with (go_at_call 49; refine (f49_any _ _ _).mono ?_; rintro e w' ⟨rfl, rfl⟩))
  all_goals go_wp2
  all_goals (go_end0; exact ⟨rfl, by repeat (first | exact Kept.refl _ _ | refine Kept.drew ?_ | refine Kept.setCell ?_ (by simp) _), upd_done (upd_done HB.out)⟩)

set_option maxHeartbeats 2000000 in
theorem f48_11 (b : Nat) (a : Wt) (wt : Bool) (en : ByteArray) (w : World) (g : Nat) (e1 : ByteArray) (h : Nat) (e2 : ByteArray) (hb : w.heap[b]? = some (.cells (wcells a wt (.pointer (some ⟨g, 0, none⟩)) (.pointer (some ⟨h, 0, none⟩)) en) 74)) (g12 : w.cell? ⟨g, 12, none⟩ = some (.string e1)) (n1 : b ≠ g) (h12 : w.cell? ⟨h, 12, none⟩ = some (.string e2)) (n2 : b ≠ h) :
    Calls Try.prog 48 #[.pointer (some ⟨b, 0, none⟩)] w fun x w' => x = .returned (.tuple #[]) ∧ Kept [b] w w' ∧ w'.heap[b]? = some (.cells (wcells a wt (.pointer (some ⟨g, 0, none⟩)) (.pointer (some ⟨h, 0, none⟩)) (laterB (laterB a.to e1) e2)) 74) := by
  obtain ⟨b1, b2, b3, b4, b5, b8, b9, b10, b11, b12, bf⟩ := wcell hb
  have HB := hid hb
  clear hb
  go_enter Try.func48, Try.ntmps48
  go_wp2
  all_goals (go_region_with (go_at_call 49; refine (f49_any _ _ _).mono ?_; rintro e w' ⟨rfl, rfl⟩))
  all_goals go_wp2
  all_goals (go_region_with (go_at_call 49; refine (f49_any _ _ _).mono ?_; rintro e w' ⟨rfl, rfl⟩))
  all_goals go_wp2
  all_goals (go_end0; exact ⟨rfl, by repeat (first | exact Kept.refl _ _ | refine Kept.drew ?_ | refine Kept.setCell ?_ (by simp) _), upd_done (upd_done (upd_done HB.out))⟩)


/-! ### the treap in memory -/
def TIn (W : World) : BT Wt → Prop
  | .nil => True
  | .node b o a l r => o = 0 ∧ W.heap[b]? = some (.cells (wcells a true l.ptr r.ptr (endT (.node b o a l r))) 74) ∧ TIn W l ∧ TIn W r
def blks (T : BT Wt) : List Nat := (ino T).map (·.1)
theorem blks_node (b o : Nat) (a : Wt) (l r : BT Wt) : blks (.node b o a l r) = blks l ++ b :: blks r := by simp [blks, ino]
theorem TIn.kept {S : List Nat} {W W' : World} (hk : Kept S W W') : ∀ {T : BT Wt}, TIn W T → (∀ k ∈ blks T, k ∉ S) → TIn W' T
  | .nil, _, _ => trivial
  | .node b o a l r, ⟨ho, hb, hl, hr⟩, hd => by
    have hm : ∀ k, k ∈ blks l ∨ k = b ∨ k ∈ blks r → k ∉ S := fun k hk' => hd k (by rw [blks_node]; simpa using hk')
    exact ⟨ho, (hk.block b (hm b (.inr (.inl rfl)))).trans hb, TIn.kept hk hl (fun k h => hm k (.inl h)), TIn.kept hk hr (fun k h => hm k (.inr (.inr h)))⟩

/-- 'update' at a node whose two subtrees lie in memory -/
theorem f48_any (b : Nat) (a : Wt) (en : ByteArray) (l r : BT Wt) (w : World) (hb : w.heap[b]? = some (.cells (wcells a true l.ptr r.ptr en) 74)) (hl : TIn w l) (hr : TIn w r) (n1 : b ∉ blks l) (n2 : b ∉ blks r) :
    Calls Try.prog 48 #[.pointer (some ⟨b, 0, none⟩)] w fun x w' => x = .returned (.tuple #[]) ∧ Kept [b] w w' ∧ TIn w' (.node b 0 a l r) := by
  have fin : ∀ w', Kept [b] w w' → w'.heap[b]? = some (.cells (wcells a true l.ptr r.ptr (endT (.node b 0 a l r))) 74) → TIn w' (.node b 0 a l r) := fun w' hk h =>
    ⟨rfl, h, hl.kept hk (fun k h1 h2 => by simp at h2; exact n1 (h2 ▸ h1)), hr.kept hk (fun k h1 h2 => by simp at h2; exact n2 (h2 ▸ h1))⟩
  cases l with
  | nil =>
    cases r with
    | nil => exact (f48_00 b a true en w hb).mono fun x w' ⟨e, hk, h⟩ => ⟨e, hk, fin w' hk h⟩
    | node rb ro ra rl rr =>
      obtain ⟨rfl, hrb, _, _⟩ := hr
      exact (f48_01 b a true en w rb _ hb (rootEnd hrb) (fun e => n2 (by rw [blks_node, e]; simp))).mono fun x w' ⟨e, hk, h⟩ => ⟨e, hk, fin w' hk h⟩
  | node lb lo la ll lr =>
    obtain ⟨rfl, hlb, _, _⟩ := hl
    cases r with
    | nil => exact (f48_10 b a true en w lb _ hb (rootEnd hlb) (fun e => n1 (by rw [blks_node, e]; simp))).mono fun x w' ⟨e, hk, h⟩ => ⟨e, hk, fin w' hk h⟩
    | node rb ro ra rl rr =>
      obtain ⟨rfl, hrb, _, _⟩ := hr
      exact (f48_11 b a true en w lb _ rb _ hb (rootEnd hlb) (fun e => n1 (by rw [blks_node, e]; simp)) (rootEnd hrb) (fun e => n2 (by rw [blks_node, e]; simp))).mono fun x w' ⟨e, hk, h⟩ => ⟨e, hk, fin w' hk h⟩
end Go.Proofs.Qxb6614547a
