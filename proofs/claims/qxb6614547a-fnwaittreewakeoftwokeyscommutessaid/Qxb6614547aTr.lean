import Derived.Deep.Trees
import Derived.WalkSpells
namespace Go.Proofs.Qxb6614547a
open Go.Deep (BT)

/-! ### the order of byte strings -/
abbrev bl : List UInt8 → List UInt8 → Bool := Op.bytesLess

theorem bl_irrefl (x : List UInt8) : bl x x = false := by
  induction x with
  | nil => rfl
  | cons a x ih =>
    show (decide (a < a) || (a == a && bl x x)) = false
    rw [ih]
    simp
theorem bl_nil_right (x : List UInt8) : bl x [] = false := by cases x <;> rfl
theorem bl_trans : ∀ (x y z : List UInt8), bl x y = true → bl y z = true → bl x z = true
  | [], y, z, h1, h2 => by
    cases z with
    | nil => rw [bl_nil_right] at h2; cases h2
    | cons c z => rfl
  | a :: x, [], z, h1, h2 => by rw [bl_nil_right] at h1; cases h1
  | a :: x, b :: y, [], h1, h2 => by rw [bl_nil_right] at h2; cases h2
  | a :: x, b :: y, c :: z, h1, h2 => by
    have h1' : (decide (a < b) || (a == b && bl x y)) = true := h1
    have h2' : (decide (b < c) || (b == c && bl y z)) = true := h2
    show (decide (a < c) || (a == c && bl x z)) = true
    simp only [Bool.or_eq_true, decide_eq_true_eq, Bool.and_eq_true, beq_iff_eq] at h1' h2' ⊢
    rcases h1' with h1' | ⟨rfl, h1'⟩
    · rcases h2' with h2' | ⟨rfl, h2'⟩
      · left
        rw [UInt8.lt_iff_toNat_lt] at *
        omega
      · exact .inl h1'
    · rcases h2' with h2' | ⟨rfl, h2'⟩
      · exact .inl h2'
      · exact .inr ⟨rfl, bl_trans x y z h1' h2'⟩
theorem bl_total : ∀ (x y : List UInt8), bl x y = false → bl y x = false → x = y
  | [], [], _, _ => rfl
  | [], b :: y, h1, _ => by cases h1
  | a :: x, [], _, h2 => by cases h2
  | a :: x, b :: y, h1, h2 => by
    have h1' : (decide (a < b) || (a == b && bl x y)) = false := h1
    have h2' : (decide (b < a) || (b == a && bl y x)) = false := h2
    simp only [Bool.or_eq_false_iff, decide_eq_false_iff_not, Bool.and_eq_false_iff, beq_eq_false_iff_ne] at h1' h2'
    have hab : a = b := by
      have h3 := h1'.1
      have h4 := h2'.1
      rw [UInt8.lt_iff_toNat_lt] at h3 h4
      apply UInt8.toNat_inj.1
      omega
    subst hab
    have hxy : x = y := bl_total x y (by rcases h1'.2 with h | h; exact absurd rfl h; exact h) (by rcases h2'.2 with h | h; exact absurd rfl h; exact h)
    rw [hxy]
theorem bl_asymm (x y : List UInt8) (h : bl x y = true) : bl y x = false := by
  cases h2 : bl y x with
  | false => rfl
  | true => have := bl_trans x y x h h2; rw [bl_irrefl] at this; cases this
theorem bl_le (x y : List UInt8) : (bl x y || x == y) = !bl y x := by
  cases h1 : bl x y with
  | true => rw [bl_asymm x y h1]; rfl
  | false =>
    cases h2 : bl y x with
    | true =>
      have : x ≠ y := by intro e; subst e; rw [bl_irrefl] at h2; cases h2
      simp [this]
    | false =>
      rw [bl_total x y h1 h2]
      simp
theorem toList_inj {x y : ByteArray} (h : x.toList = y.toList) : x = y := by
  rw [ByteArray.toList_eq, ByteArray.toList_eq] at h
  exact ByteArray.ext (Array.toList_inj.1 h)

/-! ### ends of ranges -/
def endsA (e k : ByteArray) : Bool := e.toList.isEmpty || bl k.toList e.toList
def laterB (a b : ByteArray) : ByteArray := if (a.toList.isEmpty || b.toList.isEmpty) = true then ⟨#[]⟩ else if bl a.toList b.toList = true then b else a
theorem empty_toList : (⟨#[]⟩ : ByteArray).toList = [] := by rw [ByteArray.toList_eq]
theorem ends_later (a b k : ByteArray) : endsA (laterB a b) k = (endsA a k || endsA b k) := by
  unfold laterB endsA
  cases ha : a.toList.isEmpty with
  | true => simp
  | false =>
    cases hb : b.toList.isEmpty with
    | true => simp
    | false =>
      simp only [Bool.or_self, Bool.false_eq_true, if_false, Bool.false_or]
      cases hab : bl a.toList b.toList with
      | true =>
        simp only [if_true, hb, Bool.false_or]
        cases hka : bl k.toList a.toList with
        | true => rw [bl_trans _ _ _ hka hab]; rfl
        | false => rfl
      | false =>
        simp only [Bool.false_eq_true, if_false, ha, Bool.false_or]
        cases hkb : bl k.toList b.toList with
        | false => simp
        | true =>
          cases hka : bl k.toList a.toList with
          | true => rfl
          | false =>
            cases hba : bl b.toList a.toList with
            | true => have := bl_trans _ _ _ hkb hba; rw [hka] at this; cases this
            | false => rw [bl_total _ _ hab hba, hkb] at hka; cases hka

/-! ### waiters -/
structure Wt where
  frm : ByteArray
  to : ByteArray
  seq : Int
  prio : Int
  ch : Nat
  nxt : Int

def prec (a b : Wt) : Bool := bl a.frm.toList b.frm.toList || (a.frm.toList == b.frm.toList && decide (a.seq < b.seq))
def holdsW (k : ByteArray) (a : Wt) : Bool := !bl k.toList a.frm.toList && endsA a.to k

def ino : BT Wt → List (Nat × Wt)
  | .nil => []
  | .node b _ a l r => ino l ++ (b, a) :: ino r
def sizeT : BT Wt → Nat
  | .nil => 0
  | .node _ _ _ l r => sizeT l + sizeT r + 1
theorem len_ino (T : BT Wt) : (ino T).length = sizeT T := by
  induction T with
  | nil => rfl
  | node b o a l r hl hr => simp [ino, sizeT, hl, hr]; omega

/-- what 'update' lays into a node over its two subtrees -/
def orLater (e : ByteArray) : BT Wt → ByteArray → ByteArray
  | .nil, _ => e
  | .node _ _ _ _ _, f => laterB e f
def endT : BT Wt → ByteArray
  | .nil => ⟨#[]⟩
  | .node _ _ a l r => orLater (orLater a.to l (endT l)) r (endT r)

theorem ends_orLater (e : ByteArray) (T : BT Wt) (k : ByteArray) (h : T ≠ .nil → endsA (endT T) k = (ino T).any (fun p => endsA p.2.to k)) :
    endsA (orLater e T (endT T)) k = (endsA e k || (ino T).any (fun p => endsA p.2.to k)) := by
  cases T with
  | nil => simp [orLater, ino]
  | node b o a l r =>
    rw [← h (by simp)]
    exact ends_later _ _ _
theorem ends_endT (k : ByteArray) : ∀ T : BT Wt, T ≠ .nil → endsA (endT T) k = (ino T).any (fun p => endsA p.2.to k) := by
  intro T
  induction T with
  | nil => intro h; exact absurd rfl h
  | node b o a l r hl hr =>
    intro _
    show endsA (orLater (orLater a.to l (endT l)) r (endT r)) k = _
    rw [ends_orLater _ r k hr, ends_orLater _ l k hl]
    simp only [ino, List.any_append, List.any_cons]
    cases endsA a.to k <;> cases (ino l).any (fun p => endsA p.2.to k) <;> rfl

def held (k : ByteArray) (T : BT Wt) : List (Nat × Wt) := (ino T).filter (fun p => holdsW k p.2)
theorem held_none (k : ByteArray) (T : BT Wt) (hT : T ≠ .nil) (h : endsA (endT T) k = false) : held k T = [] := by
  rw [ends_endT k T hT] at h
  unfold held
  rw [List.filter_eq_nil_iff]
  intro p hp
  rw [List.any_eq_false] at h
  have := h p hp
  simp only [holdsW]
  simp [this]
def Srt (L : List (Nat × Wt)) : Prop := L.Pairwise (fun p q => prec p.2 q.2 = true)
theorem prec_from {a b : Wt} (h : prec a b = true) : bl b.frm.toList a.frm.toList = false := by
  unfold prec at h
  simp only [Bool.or_eq_true, Bool.and_eq_true, beq_iff_eq] at h
  rcases h with h | ⟨h, _⟩
  · exact bl_asymm _ _ h
  · rw [h]; exact bl_irrefl _
theorem prec_asymm {a b : Wt} (h : prec a b = true) : prec b a = false := by
  have h1 := prec_from h
  cases h2 : prec b a with
  | false => rfl
  | true =>
    have h3 := prec_from h2
    unfold prec at h h2
    rw [h1] at h2
    rw [h3] at h
    simp at h h2
    omega
theorem prec_trans {a b c : Wt} (h1 : prec a b = true) (h2 : prec b c = true) : prec a c = true := by
  unfold prec at *
  simp only [Bool.or_eq_true, Bool.and_eq_true, beq_iff_eq, decide_eq_true_eq] at *
  rcases h1 with h1 | ⟨h1, h1'⟩
  · rcases h2 with h2 | ⟨h2, _⟩
    · exact .inl (bl_trans _ _ _ h1 h2)
    · rw [← h2]; exact .inl h1
  · rcases h2 with h2 | ⟨h2, h2'⟩
    · rw [h1]; exact .inl h2
    · exact .inr ⟨h1.trans h2, by omega⟩
/-- behind a waiter that begins behind the key none holds it -/
theorem held_past (k : ByteArray) (a : Wt) (r : BT Wt) (hs : ∀ q ∈ ino r, prec a q.2 = true) (h : bl k.toList a.frm.toList = true) : held k r = [] := by
  unfold held
  rw [List.filter_eq_nil_iff]
  intro p hp
  have h1 := prec_from (hs p hp)
  have h2 : bl k.toList p.2.frm.toList = true := by
    cases h3 : bl a.frm.toList p.2.frm.toList with
    | true => exact bl_trans _ _ _ h h3
    | false => rw [← bl_total _ _ h3 h1]; exact h
  simp [holdsW, h2]
end Go.Proofs.Qxb6614547a
