/- Strings as lists of bytes, with no program in sight. -/
import Derived.WalkKit
import Derived.Lib.Strings
namespace Go.Proofs.YtkcgngpoegglnaaGreatDoor
open Go

/-- the string of these bytes. -/
def bs (l : List UInt8) : ByteArray := ⟨l.toArray⟩

theorem bs_data (l : List UInt8) : (bs l).data.toList = l := by simp [bs]
theorem bs_size (l : List UInt8) : (bs l).size = l.length := by simp [bs, ByteArray.size]
theorem bs_toList (l : List UInt8) : (bs l).toList = l := by rw [ByteArray.toList_eq]; exact bs_data l
theorem bs_of (s : ByteArray) : s = bs s.data.toList := by
  obtain ⟨⟨l⟩⟩ := s
  rfl
theorem bs_inj {a b : List UInt8} (h : bs a = bs b) : a = b := by
  have := congrArg (fun s : ByteArray => s.data.toList) h
  simpa [bs_data] using this
theorem bs_extract (l : List UInt8) (a b : Nat) : (bs l).extract a b = bs ((l.drop a).take (b - a)) := by
  rw [bs_of ((bs l).extract a b)]
  congr 1
  have := Lib.extract_data (bs l) a b
  rw [this, bs_data]

theorem bs_get (l : List UInt8) (i : Nat) (h : i < (bs l).size) : (bs l)[i] = l[i]'(by rwa [bs_size] at h) := by
  show (bs l).data[i] = _
  simp [bs]
end Go.Proofs.YtkcgngpoegglnaaGreatDoor
