import Derived.Test.Qxb6615648aWalks
namespace Go.Proofs.Qxb6615648a
open Go.RowKit

theorem ret_bool {x : Bool} (h : x = true) : Ending.returned (.bool x) = .returned (.bool true) := by rw [h]
theorem meets_of (X a b Y : ByteArray) : Meets (X ++ a ++ Y) (X ++ b ++ Y) a b X.size := by
  refine ⟨?_, ?_, ?_, ?_⟩
  · rw [show X ++ a ++ Y = X ++ (a ++ Y) from ByteArray.append_assoc, show X ++ b ++ Y = X ++ (b ++ Y) from ByteArray.append_assoc, ext_pre, ext_pre]; simp
  · rw [ext_mid]; simp
  · rw [ext_mid]; simp
  · rw [ext_end, ext_end]; simp

def pre : ByteArray := ⟨#[112, 103, 95, 99, 97, 116, 97, 108, 111, 103, 46, 102, 111, 114, 109, 97, 116, 40, 39, 105, 115, 111, 98, 97, 110, 100, 46, 37, 73, 39, 44, 32, 39]⟩
def mid : ByteArray := ⟨#[95, 39, 32, 124, 124, 32]⟩
def fin : ByteArray := ⟨#[41]⟩
theorem pre_size : pre.size = 33 := rfl
theorem mid_size : mid.size = 6 := rfl
theorem fin_size : fin.size = 1 := rfl
theorem obj_eq (k o : ByteArray) : objSQL k o = pre ++ k ++ mid ++ o ++ fin := rfl
theorem obj_size (k o : ByteArray) : (objSQL k o).size = k.size + o.size + 40 := by
  rw [obj_eq]; simp only [ByteArray.size_append, pre_size, mid_size, fin_size]; omega
theorem obj_kind (k o : ByteArray) : objSQL k o = pre ++ k ++ (mid ++ o ++ fin) := by
  rw [obj_eq]; simp only [ByteArray.append_assoc]
theorem obj_oid (k o : ByteArray) : objSQL k o = (pre ++ k ++ mid) ++ o ++ fin := rfl
theorem meets_kind (k k2 o : ByteArray) : Meets (objSQL k o) (objSQL k2 o) k k2 33 := by
  rw [obj_kind, obj_kind]; exact meets_of pre k k2 _
theorem meets_oid (k o o2 : ByteArray) : Meets (objSQL k o) (objSQL k o2) o o2 (k.size + 39) := by
  have h := meets_of (pre ++ k ++ mid) o o2 fin
  rw [obj_oid, obj_oid]
  rw [show k.size + 39 = (pre ++ k ++ mid).size from by simp only [ByteArray.size_append, pre_size, mid_size]; omega]
  exact h
theorem obj_kind_inj (k k2 o : ByteArray) : ((objSQL k o).toList == (objSQL k2 o).toList) = (k.toList == k2.toList) := by
  by_cases h : k = k2
  · subst h; simp
  · have h1 : (k.toList == k2.toList) = false := by
      rw [beq_eq_false_iff_ne]; exact fun e => h (toList_inj _ _ e)
    rw [h1, beq_eq_false_iff_ne]
    intro e
    have e2 := toList_inj _ _ e
    rw [obj_kind, obj_kind] at e2
    exact h (append_cancel _ _ _ (append_cancel_right _ _ _ e2))
theorem obj_oid_inj (k o o2 : ByteArray) : ((objSQL k o).toList == (objSQL k o2).toList) = (o.toList == o2.toList) := by
  by_cases h : o = o2
  · subst h; simp
  · have h1 : (o.toList == o2.toList) = false := by
      rw [beq_eq_false_iff_ne]; exact fun e => h (toList_inj _ _ e)
    rw [h1, beq_eq_false_iff_ne]
    intro e
    have e2 := toList_inj _ _ e
    rw [obj_oid, obj_oid] at e2
    exact h (append_cancel _ _ _ (append_cancel_right _ _ _ e2))

set_option maxHeartbeats 1000000 in
theorem frame_big (a b c d : ByteArray) (w : World) (ha : a.size ≤ 9223372036854775807) (hb : b.size ≤ 9223372036854775807) (hc : c.size ≤ 9223372036854775807) (hd : d.size ≤ 9223372036854775807) (h : ¬ a.size + b.size + c.size + d.size ≤ 1048576) :
    Calls Try.prog 3 #[.string a, .string b, .string c, .string d] w fun e w' => e = .returned (.bool true) ∧ ∃ q, w' = w.drewN q := by
  go_enter Try.func3, Try.ntmps3
  go_wp2_with (go_at_call 5; refine (f5_false _ _ _ _ _ ha hb hc hd h).mono ?_; rintro e w' ⟨rfl, rfl⟩)
  go_ret
  exact ⟨rfl, 0, rfl⟩

set_option maxHeartbeats 4000000 in
theorem frame_small (a b c d : ByteArray) (w : World) (h : a.size + b.size + c.size + d.size ≤ 1048576) :
    Calls Try.prog 3 #[.string a, .string b, .string c, .string d] w fun e w' => e = .returned (.bool true) ∧ ∃ q, w' = w.drewN q := by
  by_cases g1 : 4096 < a.size
  · go_enter Try.func3, Try.ntmps3
    go_wp2_with (go_at_call 5; refine (f5_true _ _ _ _ _ h).mono ?_; rintro e w' ⟨rfl, rfl⟩)
    go_ret
    exact ⟨rfl, 0, rfl⟩
  by_cases g2 : 4096 < b.size
  · go_enter Try.func3, Try.ntmps3
    go_wp2_with (go_at_call 5; refine (f5_true _ _ _ _ _ h).mono ?_; rintro e w' ⟨rfl, rfl⟩)
    go_ret
    exact ⟨rfl, 0, rfl⟩
  by_cases g3 : 4096 < c.size
  · go_enter Try.func3, Try.ntmps3
    go_wp2_with (go_at_call 5; refine (f5_true _ _ _ _ _ h).mono ?_; rintro e w' ⟨rfl, rfl⟩)
    go_ret
    exact ⟨rfl, 0, rfl⟩
  by_cases g4 : 4096 < d.size
  · go_enter Try.func3, Try.ntmps3
    go_wp2_with (go_at_call 5; refine (f5_true _ _ _ _ _ h).mono ?_; rintro e w' ⟨rfl, rfl⟩)
    go_ret
    exact ⟨rfl, 0, rfl⟩
  have s1 := obj_size a c
  have s2 := obj_size b c
  have s3 := obj_size a d
  have HS1 : Hid ((objSQL a c).size = a.size + c.size + 40) := s1
  have HS2 : Hid ((objSQL b c).size = b.size + c.size + 40) := s2
  have HS3 : Hid ((objSQL a d).size = a.size + d.size + 40) := s3
  clear s1 s2 s3
  go_enter Try.func3, Try.ntmps3
  go_wp2_with fail
  refine (f5_true _ _ _ _ _ h).mono ?_
  rintro e w0 ⟨rfl, hw0⟩
  have HW0 : Hid (w0 = w) := hw0
  clear hw0
  go_wp2_with fail
  refine (f6_any a c w0 (by omega) (by omega)).mono ?_
  rintro e w1 ⟨rfl, rfl⟩
  go_wp2_with fail
  refine (f6_any b c _ (by omega) (by omega)).mono ?_
  rintro e w2 ⟨rfl, rfl⟩
  go_wp2_with fail
  refine (f6_any a d _ (by omega) (by omega)).mono ?_
  rintro e w3 ⟨rfl, rfl⟩
  go_wp2_with fail
  refine (f7_any (objSQL a c) (objSQL b c) a b 33 _ (by have := HS1.out; omega) (by have := HS2.out; omega) (by have := HS1.out; omega) (by have := HS2.out; omega) (meets_kind a b c)).mono ?_
  rintro e w4 ⟨rfl, q1, rfl⟩
  go_wp2_with fail
  refine (f7_any (objSQL a c) (objSQL a d) c d (a.size + 39) _ (by have := HS1.out; omega) (by have := HS3.out; omega) (by have := HS1.out; omega) (by have := HS3.out; omega) (meets_oid a c d)).mono ?_
  rintro e w5 ⟨rfl, q2, rfl⟩
  go_wp2
  go_ret
  exact ⟨rfl, q1 + q2, by rw [HW0.out]⟩

set_option maxHeartbeats 1000000 in
theorem names_big (a b c d : ByteArray) (w : World) (ha : a.size ≤ 9223372036854775807) (hb : b.size ≤ 9223372036854775807) (hc : c.size ≤ 9223372036854775807) (hd : d.size ≤ 9223372036854775807) (h : ¬ a.size + b.size + c.size + d.size ≤ 1048576) :
    Calls Try.prog 4 #[.string a, .string b, .string c, .string d] w fun e w' => e = .returned (.bool true) ∧ w' = w := by
  go_enter Try.func4, Try.ntmps4
  go_wp2_with (go_at_call 8; refine (f8_false _ _ _ _ _ ha hb hc hd h).mono ?_; rintro e w' ⟨rfl, rfl⟩)
  go_ret
  exact ⟨rfl, rfl⟩

set_option maxHeartbeats 4000000 in
theorem names_small (a b c d : ByteArray) (w : World) (h : a.size + b.size + c.size + d.size ≤ 1048576) :
    Calls Try.prog 4 #[.string a, .string b, .string c, .string d] w fun e w' => e = .returned (.bool true) ∧ w' = w := by
  by_cases g1 : 262144 < a.size
  · go_enter Try.func4, Try.ntmps4
    go_wp2_with (go_at_call 8; refine (f8_true _ _ _ _ _ h).mono ?_; rintro e w' ⟨rfl, rfl⟩)
    go_ret
    exact ⟨rfl, rfl⟩
  by_cases g2 : 262144 < b.size
  · go_enter Try.func4, Try.ntmps4
    go_wp2_with (go_at_call 8; refine (f8_true _ _ _ _ _ h).mono ?_; rintro e w' ⟨rfl, rfl⟩)
    go_ret
    exact ⟨rfl, rfl⟩
  by_cases g3 : 262144 < c.size
  · go_enter Try.func4, Try.ntmps4
    go_wp2_with (go_at_call 8; refine (f8_true _ _ _ _ _ h).mono ?_; rintro e w' ⟨rfl, rfl⟩)
    go_ret
    exact ⟨rfl, rfl⟩
  by_cases g4 : 262144 < d.size
  · go_enter Try.func4, Try.ntmps4
    go_wp2_with (go_at_call 8; refine (f8_true _ _ _ _ _ h).mono ?_; rintro e w' ⟨rfl, rfl⟩)
    go_ret
    exact ⟨rfl, rfl⟩
  have s1 := obj_size a c
  have s4 := obj_size b d
  have i1 := obj_kind_inj a b c
  have i2 := obj_oid_inj a c d
  go_enter Try.func4, Try.ntmps4
  go_wp2_with fail
  refine (f8_true _ _ _ _ _ h).mono ?_
  rintro e w0 ⟨rfl, hw0⟩
  have HW0 : Hid (w0 = w) := hw0
  clear hw0
  go_wp2_with fail
  refine (f6_any a c w0 (by omega) (by omega)).mono ?_
  rintro e w1 ⟨rfl, rfl⟩
  go_wp2_with fail
  refine (f6_any b c _ (by omega) (by omega)).mono ?_
  rintro e w2 ⟨rfl, rfl⟩
  go_wp2_with fail
  refine (f6_any a d _ (by omega) (by omega)).mono ?_
  rintro e w3 ⟨rfl, rfl⟩
  go_wp2_with fail
  refine (f6_any b d _ (by omega) (by omega)).mono ?_
  rintro e w4 ⟨rfl, rfl⟩
  go_wp2
  go_ret
  exact ⟨ret_bool (by rw [beq_iff_eq]; omega), by rw [HW0.out]⟩
end Go.Proofs.Qxb6615648a
