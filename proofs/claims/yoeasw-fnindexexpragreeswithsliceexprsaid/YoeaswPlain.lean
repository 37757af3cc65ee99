/-
  Plain facts on strings of bytes: no Go in sight.
-/
import Derived.WalkKit
namespace Go.Proofs.Yoeasw

theorem last_at (x : ByteArray) (n : Nat) (hn : n = x.size) (h : n < (x ++ ByteArray.mk #[93]).size) : (x ++ ByteArray.mk #[93])[n]'h = 93 := by
  subst hn
  rw [ByteArray.getElem_append_right (Nat.le_refl _)]
  simp
  rfl

theorem cut_last (x : ByteArray) (n : Nat) (hn : n = x.size) : (x ++ ByteArray.mk #[93]).extract 0 n = x := by
  subst hn
  apply ByteArray.ext
  simp [ByteArray.data_extract, ByteArray.data_append]

theorem colon_eq (x : ByteArray) (n : Nat) (hn : n = x.size) :
    ((x ++ ByteArray.mk #[58] ++ ByteArray.mk #[93]).toList == ((x ++ ByteArray.mk #[93]).extract 0 n ++ ByteArray.mk #[58, 93]).toList) = true := by
  rw [cut_last x n hn, ByteArray.append_assoc]
  have e : ByteArray.mk #[58] ++ ByteArray.mk #[93] = ByteArray.mk #[58, 93] := by
    apply ByteArray.ext
    simp [ByteArray.data_append]
  rw [e]
  simp

end Go.Proofs.Yoeasw
