/-
  IDENTIFIERS: the check digits (luhn, mod97).
-/
import Derived.Test.YtadhhknhfipihaaDoorId1
import Derived.Laws.RangeString
namespace Go.Proofs.YtadhhknhfipihaaDoor
open Go.RowKit Go.Lib

theorem id_itoa (z : Int) (h0 : 0 ≤ z) (h1 : z < 100) (w : World) : Calls Tryd.prog 72 #[.int .i64 z] w fun e w' => e = .returned (.string ⟨(Lib.decDigits z.toNat).toArray⟩) ∧ w = w' := by
  obtain ⟨n, rfl⟩ := Int.eq_ofNat_of_zero_le h0
  refine (Tryd.strconv_Itoa_small n (by omega) w).mono ?_
  rintro e w' ⟨rfl, rfl⟩
  exact ⟨rfl, rfl⟩
theorem id_retStr {a b : List UInt8} (h : a = b) : Ending.returned (.string ⟨a.toArray⟩) = .returned (.string ⟨b.toArray⟩) := by rw [h]

set_option maxRecDepth 100000 in
set_option maxHeartbeats 2000000 in
theorem id_luhn (s : ByteArray) (w : World) (hs : s.size ≤ 1048576) (hal : ∀ c ∈ s.data.toList, Id.alnum (c.toNat : Int) = true) :
    Calls Tryd.prog 126 #[.string s] w fun e w' => e = .returned (.string ⟨(Id.luhn s.data.toList).toArray⟩) ∧ Below w.heap.size w w' := by
  have hx := id_expand s w hs hal
  have hlen := Id.expand_len _ hal
  rw [← Lib.size_eq] at hlen
  have hdig := Id.bt_digits _ (Id.expand_digits _ hal)
  have HR : Hid (Id.luhn s.data.toList = Lib.decDigits ((10 - Id.luhnS ⟨(Id.expand s.data.toList).toArray⟩ (Id.expand s.data.toList).length % 10) % 10).toNat) := rfl
  rw [← id_size_mk] at hlen HR
  generalize (⟨(Id.expand s.data.toList).toArray⟩ : ByteArray) = L at *
  have hbd := Id.luhnS_bd L hdig
  have HD := Lib.hid hdig
  have HB := Lib.hid hbd
  clear hdig hbd hal
  have hb := PlainAid.get_bt L
  go_enter Tryd.func126, Tryd.ntmps126
  go_wp2_with fail
  refine hx.mono ?_
  rintro e w1 ⟨rfl, hb1⟩
  go_wp2_with fail
  go_loopw [4, 11] (fun sm i wr => ∃ k : Nat, k ≤ L.size ∧ i = .int .i64 k ∧ wr = w1 ∧ sm = .int .i64 (Id.luhnS L k)) (fun _ i _ => L.size - (RowKit.intOf i).toNat)
  case atStart => exact ⟨0, Nat.zero_le _, rfl, rfl, rfl⟩
  case round =>
    obtain ⟨k, hk, rfl, rfl, rfl⟩ := hrel
    by_cases hlt : k < L.size
    · have d := HD.out (L.size - 1 - k) (by omega)
      obtain ⟨d0, d1⟩ := d
      obtain ⟨s0, s1⟩ := HB.out k hk
      have HS : Hid (Id.luhnS L (k + 1) = Id.luhnS L k + Id.luhnT L k) := rfl
      have HT : Hid (Id.luhnT L k = if (k : Int) % 2 = 0 then (PlainAid.bt L (L.size - 1 - k) - 48) * 2 / 10 + (PlainAid.bt L (L.size - 1 - k) - 48) * 2 % 10 else (PlainAid.bt L (L.size - 1 - k) - 48) / 10 + (PlainAid.bt L (L.size - 1 - k) - 48) % 10) := rfl
      by_cases hev : (k : Int) % 2 = 0
      · have hbe : ((k : Int) % 2 == 0) = true := by simpa using hev
        have HE := Lib.hid hev
        clear hev
        go_wp2_with fail
        go_roundw
        case rel => exact ⟨k + 1, by omega, by go_num, trivial, by rw [HS.out, HT.out, if_pos HE.out]⟩
        case measure => simp [RowKit.intOf]; omega
      · have hbe : ((k : Int) % 2 == 0) = false := by simpa using hev
        have HE := Lib.hid hev
        clear hev
        go_wp2_with fail
        go_roundw
        case rel => exact ⟨k + 1, by omega, by go_num, trivial, by rw [HS.out, HT.out, if_neg HE.out]⟩
        case measure => simp [RowKit.intOf]; omega
    · obtain rfl : k = L.size := by omega
      obtain ⟨s0, s1⟩ := HB.out L.size (Nat.le_refl _)
      clear hb
      go_wp2_with fail
      refine (id_itoa _ (by omega) (by omega) _).mono ?_
      rintro e w2 ⟨rfl, rfl⟩
      go_wp2_with fail
      go_ret
      refine ⟨id_retStr ?_, hb1⟩
      rw [HR.out]
      congr 2
      omega

set_option maxRecDepth 100000 in
set_option maxHeartbeats 2000000 in
theorem id_mod97 (s : ByteArray) (w : World) (hs : s.size ≤ 1048576) (hal : ∀ c ∈ s.data.toList, Id.alnum (c.toNat : Int) = true) :
    Calls Tryd.prog 128 #[.string s] w fun e w' => e = .returned (.string ⟨(Id.mod97 s.data.toList).toArray⟩) ∧ Below w.heap.size w w' := by
  have hx := id_expand s w hs hal
  have hlen := Id.expand_len _ hal
  rw [← Lib.size_eq] at hlen
  have hdig := Id.bt_digits (Id.expand s.data.toList ++ [48, 48]) (by
    intro x hx
    rcases List.mem_append.1 hx with h | h
    · exact Id.expand_digits _ hal x h
    · simp at h; subst h; decide)
  go_enter Tryd.func128, Tryd.ntmps128
  go_wp2_with fail
  refine hx.mono ?_
  rintro e w1 ⟨rfl, hb1⟩
  go_wp2_with fail
  have hcat : ((⟨(Id.expand s.data.toList).toArray⟩ : ByteArray) ++ ⟨#[48, 48]⟩) = ⟨(Id.expand s.data.toList ++ [48, 48]).toArray⟩ := by
    apply ByteArray.ext
    simp
  rw [hcat]
  have HR : Hid (Id.mod97 s.data.toList = if (Lib.decDigits (98 - Id.modS ⟨(Id.expand s.data.toList ++ [48, 48]).toArray⟩ ((Id.expand s.data.toList).length + 2)).toNat).length < 2 then 48 :: Lib.decDigits (98 - Id.modS ⟨(Id.expand s.data.toList ++ [48, 48]).toArray⟩ ((Id.expand s.data.toList).length + 2)).toNat
    else Lib.decDigits (98 - Id.modS ⟨(Id.expand s.data.toList ++ [48, 48]).toArray⟩ ((Id.expand s.data.toList).length + 2)).toNat) := rfl
  have hsz : (⟨(Id.expand s.data.toList ++ [48, 48]).toArray⟩ : ByteArray).size = (Id.expand s.data.toList).length + 2 := by rw [id_size_mk]; simp
  rw [← hsz] at HR
  have hsz2 : (⟨(Id.expand s.data.toList ++ [48, 48]).toArray⟩ : ByteArray).size ≤ 2 * s.size + 2 := by omega
  clear hcat hsz hlen hal hx
  generalize (⟨(Id.expand s.data.toList ++ [48, 48]).toArray⟩ : ByteArray) = L at *
  have hbd := Id.modS_bd L hdig
  have HD := Lib.hid hdig
  have HB := Lib.hid hbd
  clear hdig hbd
  go_loopw [3] (fun r wr => ∃ k : Nat, k ≤ L.size ∧ wr = w1.iter L k ∧ r = .int .i64 (Id.modS L k)) (fun _ wr => L.size - wr.iterPos w1.heap.size)
  case atStart => exact ⟨0, Nat.zero_le _, rfl, rfl⟩
  case round =>
    obtain ⟨k, hk, rfl, rfl⟩ := hrel
    obtain ⟨s0, s1⟩ := HB.out k hk
    by_cases hlt : k < L.size
    · obtain ⟨d0, d1⟩ := HD.out k hlt
      have hnx : ∀ ty, (Instr.next (.pointer (some ⟨w1.heap.size, 0, none⟩)) true ty).run Tryd.prog (w1.iter L k) = .ok (.tuple #[.bool true, .int .i64 k, .int .i32 (PlainAid.bt L k)]) (w1.iter L (k + 1)) := fun ty => by
        rw [run_next_ascii w1 L k ty hlt (by have := PlainAid.get_bt L k hlt; omega), PlainAid.get_bt L k hlt]
      have HS : Hid (Id.modS L (k + 1) = (10 * Id.modS L k + (PlainAid.bt L k - 48)) % 97) := rfl
      go_wp2_with fail
      go_roundw
      case rel => exact ⟨k + 1, by omega, rfl, by rw [HS.out]⟩
      case measure => simp; omega
    · obtain rfl : k = L.size := by omega
      have hnx : ∀ ty, (Instr.next (.pointer (some ⟨w1.heap.size, 0, none⟩)) true ty).run Tryd.prog (w1.iter L L.size) = _ := fun ty => run_next_end w1 L L.size ty hlt
      have hsm : (Lib.decDigits (98 - Id.modS L L.size).toNat).length ≤ 2 := (Id.decDigits_small _ (by omega)).1
      go_wp2_with fail
      refine (id_itoa _ (by omega) (by omega) _).mono ?_
      rintro e w2 ⟨rfl, rfl⟩
      generalize hq : Lib.decDigits (98 - Id.modS L L.size).toNat = q at *
      have HQ := Lib.hid hq
      clear hq hnx
      by_cases hq2 : q.length < 2
      · go_wp2_with fail
        go_ret
        refine ⟨?_, (hb1.alloc hb1.size _)⟩
        rw [HR.out, if_pos hq2]
        exact congrArg (fun b => Ending.returned (.string b)) (by apply ByteArray.ext; simp)
      · go_wp2_with fail
        go_ret
        refine ⟨?_, (hb1.alloc hb1.size _)⟩
        rw [HR.out, if_neg hq2]
        rfl

end Go.Proofs.YtadhhknhfipihaaDoor
