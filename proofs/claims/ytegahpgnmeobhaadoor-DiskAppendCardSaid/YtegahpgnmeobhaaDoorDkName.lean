/-
  validName, exists.
-/
import Derived.Test.YtegahpgnmeobhaaDoorDkMeth1
import Derived.Test.YtegahpgnmeobhaaDoorShelf
import Derived.Test.YtegahpgnmeobhaaDoorDkPlain3
import Derived.Shelf.Strings.SlTrimAscii
namespace Go.Proofs.YtegahpgnmeobhaaDoor
open Go.RowKit

theorem dk_trim (s : ByteArray) (W : World) (hs : s.size ≤ 9223372036854775807) :
    Calls Tryd.prog 29 #[.string s, .string ⟨#[97, 98, 99, 100, 101, 102, 103, 104, 105, 106, 107, 108, 109, 110, 111, 112, 113, 114, 115, 116, 117, 118, 119, 120, 121, 122, 48, 49, 50, 51, 52, 53, 54, 55, 56, 57, 46, 45, 95]⟩] W fun e w' => e = .returned (.string ⟨(Lib.trimS s.data.toList Dk.nameBytes).toArray⟩) ∧ Below W.heap.size W w' :=
  Any.strings_Trim_laid Tryd.lays160 (by kernel_rfl) s ⟨#[97, 98, 99, 100, 101, 102, 103, 104, 105, 106, 107, 108, 109, 110, 111, 112, 113, 114, 115, 116, 117, 118, 119, 120, 121, 122, 48, 49, 50, 51, 52, 53, 54, 55, 56, 57, 46, 45, 95]⟩ W hs (by decide) (ascii_of_all (by decide))

set_option maxHeartbeats 1000000 in
theorem dk_validName (s : ByteArray) (W : World) (hs : s.size ≤ 9223372036854775807) :
    Calls Tryd.prog 14 #[.string s] W fun e w' => e = .returned (.bool (Dk.valid s.data.toList)) ∧ Below W.heap.size W w' := by
  by_cases he : s.toList = []
  · have hemp : s.toList.isEmpty = true := by simp [he]
    have HV : Hid (Dk.valid s.data.toList = false) := by show _ = _; unfold Dk.valid; rw [← Lib.toList_data, he]; rfl
    clear he
    go_enter Tryd.func14, Tryd.ntmps14
    go_wp2_with fail
    go_ret
    rw [HV.out]
    exact ⟨rfl, Below.refl _ _⟩
  · have hemp : s.toList.isEmpty = false := by simpa using he
    have hempd : s.data.toList.isEmpty = false := by rw [← Lib.toList_data]; exact hemp
    by_cases h64 : s.size ≤ 64
    · have hb64 : decide ((s.size : Int) ≤ 64) = true := by simp; omega
      have ht := dk_trim s W hs
      have HV : Hid (Dk.valid s.data.toList = (Lib.trimS s.data.toList Dk.nameBytes).isEmpty) := by
        show _ = _
        unfold Dk.valid
        rw [hempd, ← Lib.size_eq]
        simp [h64]
      generalize Lib.trimS s.data.toList Dk.nameBytes = t at *
      clear he hempd
      go_enter Tryd.func14, Tryd.ntmps14
      go_wp2_with (go_at_call 29; refine ht.mono ?_; rintro e w' ⟨rfl, hb⟩)
      go_ret
      rw [HV.out]
      exact ⟨rfl, hb⟩
    · have hb64 : decide ((s.size : Int) ≤ 64) = false := by simp; omega
      have HV : Hid (Dk.valid s.data.toList = false) := by
        show _ = _
        unfold Dk.valid
        rw [hempd, ← Lib.size_eq]
        simp [h64]
      clear he hempd
      go_enter Tryd.func14, Tryd.ntmps14
      go_wp2_with fail
      go_ret
      rw [HV.out]
      exact ⟨rfl, Below.refl _ _⟩

end Go.Proofs.YtegahpgnmeobhaaDoor
