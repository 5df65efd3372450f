import Derived.Test.Qxb6605842aModsWalks
namespace Go.Proofs.Qxb6605842aMods

/-! THE PLAIN LAW: bytes, no Go in sight -/
theorem ext_toList (s : ByteArray) (a b : Nat) : (s.extract a b).toList = (s.data.toList.drop a).take (b - a) := by
  rw [ByteArray.toList_eq, ByteArray.data_extract, Array.toList_extract, List.extract_eq_take_drop]

theorem size_list (s : ByteArray) : s.size = s.data.toList.length := by
  rw [← ByteArray.size_data, Array.length_toList]

/-- three texts laid end to end, as lists -/
theorem cat_data (x y z : ByteArray) : (x ++ y ++ z).data.toList = x.data.toList ++ (y.data.toList ++ z.data.toList) := by
  simp [ByteArray.data_append]

theorem cat_size (x y z : ByteArray) : (x ++ y ++ z).size = x.size + y.size + z.size := by
  simp [ByteArray.size_append]

theorem cat_head (x y z : ByteArray) : (x ++ y ++ z).extract 0 x.size = x := by
  apply ByteArray.ext
  apply Array.toList_inj.1
  have := ext_toList (x ++ y ++ z) 0 x.size
  rw [ByteArray.toList_eq] at this
  rw [this, cat_data, size_list x]
  simp

theorem pre_hit (x y z : ByteArray) : pre ((x ++ y ++ z).extract x.size (x ++ y ++ z).size) y = true := by
  have hsz : ((x ++ y ++ z).extract x.size (x ++ y ++ z).size).size = y.size + z.size := by
    rw [ByteArray.size_extract, cat_size]; omega
  unfold pre
  rw [hsz, Bool.and_eq_true]
  refine ⟨by simp, ?_⟩
  rw [beq_iff_eq]
  have e : (x ++ y ++ z).extract x.size (x ++ y ++ z).size = ⟨(y.data ++ z.data)⟩ := by
    apply ByteArray.ext
    apply Array.toList_inj.1
    have := ext_toList (x ++ y ++ z) x.size (x ++ y ++ z).size
    rw [ByteArray.toList_eq] at this
    rw [this, cat_data, cat_size, size_list x, size_list y, size_list z]
    simp
    apply List.take_of_length_le
    simp
    omega
  rw [e, ext_toList, ByteArray.toList_eq, size_list y]
  simp

/-- behind the longer parting's first eight bytes stands no shorter parting -/
theorem pre_miss (x z : ByteArray) : pre ((x ++ defB ++ z).extract (x.size + 8) (x ++ defB ++ z).size) defA = false := by
  have e : ((x ++ defB ++ z).extract (x.size + 8) (x ++ defB ++ z).size).data.toList = [100, 32, 98, 121, 32, 111, 105, 100, 115, 32, 97, 115, 32] ++ z.data.toList := by
    have := ext_toList (x ++ defB ++ z) (x.size + 8) (x ++ defB ++ z).size
    rw [ByteArray.toList_eq] at this
    rw [this, cat_data, cat_size, size_list x, size_list defB, size_list z]
    have hd : (x.data.toList ++ (defB.data.toList ++ z.data.toList)).drop (x.data.toList.length + 8) = [100, 32, 98, 121, 32, 111, 105, 100, 115, 32, 97, 115, 32] ++ z.data.toList := by
      rw [← List.drop_drop, List.drop_left]
      rfl
    rw [hd]
    apply List.take_of_length_le
    have h21 : defB.data.toList.length = 21 := rfl
    rw [h21]
    simp
    omega
  unfold pre
  rw [Bool.and_eq_false_iff]
  right
  rw [beq_eq_false_iff_ne, ext_toList, e, ByteArray.toList_eq]
  intro h
  have h1 := congrArg List.head? h
  simp [defA, ByteArray.size] at h1

end Go.Proofs.Qxb6605842aMods
