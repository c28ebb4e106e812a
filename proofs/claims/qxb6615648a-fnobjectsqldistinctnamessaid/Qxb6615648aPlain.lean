import Derived.WalkSpells
namespace Go.Proofs.Qxb6615648a
theorem ext_pre (x y : ByteArray) : (x ++ y).extract 0 x.size = x := by
  apply ByteArray.ext
  simp
theorem ext_mid (x a y : ByteArray) : (x ++ a ++ y).extract x.size (x.size + a.size) = a := by
  apply ByteArray.ext
  apply Array.toList_inj.1
  obtain ⟨⟨x⟩⟩ := x
  obtain ⟨⟨a⟩⟩ := a
  obtain ⟨⟨y⟩⟩ := y
  simp [ByteArray.size]
theorem ext_end (x a y : ByteArray) : (x ++ a ++ y).extract (x.size + a.size) (x ++ a ++ y).size = y := by
  apply ByteArray.ext
  apply Array.toList_inj.1
  obtain ⟨⟨x⟩⟩ := x
  obtain ⟨⟨a⟩⟩ := a
  obtain ⟨⟨y⟩⟩ := y
  simp [ByteArray.size]
  rw [show x.length + (a.length + y.length) - (x.length + a.length) = y.length from by omega, List.take_length]
theorem append_cancel (x y z : ByteArray) (h : x ++ y = x ++ z) : y = z := by
  apply ByteArray.ext
  have := congrArg ByteArray.data h
  simp only [ByteArray.data_append] at this
  exact (Array.append_right_inj x.data).1 this
theorem append_cancel_right (x y z : ByteArray) (h : y ++ x = z ++ x) : y = z := by
  apply ByteArray.ext
  have := congrArg ByteArray.data h
  simp only [ByteArray.data_append] at this
  exact (Array.append_left_inj x.data).1 this
theorem toList_inj (x y : ByteArray) (h : x.toList = y.toList) : x = y := by
  rw [ByteArray.toList_eq, ByteArray.toList_eq] at h
  exact ByteArray.ext (Array.toList_inj.1 h)

end Go.Proofs.Qxb6615648a
