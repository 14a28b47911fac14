import Derived.Test.Qxb6600093aPlain
namespace Go.Proofs.Qxb6600093a
theorem canon_length (l : List UInt8) : (canon l).length = l.length := by
  unfold canon
  split
  · exact canonL_length l
  · rfl
theorem canon_size (s : ByteArray) : (⟨(canon s.data.toList).toArray⟩ : ByteArray).size = s.size := by
  show (canon s.data.toList).toArray.size = _
  rw [List.size_toArray, canon_length]
  simp
end Go.Proofs.Qxb6600093a
