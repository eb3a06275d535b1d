/-
  IDENTIFIERS: classes of characters and expand.
-/
import Derived.Test.YtadhhknhfipihaaDoorIdPlain
import Derived.Test.YtadhhknhfipihaaDoorBuilder
import Derived.Test.YtadhhknhfipihaaDoorLex1
namespace Go.Proofs.YtadhhknhfipihaaDoor
open Go.RowKit Go.Lib

set_option maxHeartbeats 400000 in
theorem id_letter (c : Int) (w : World) :
    Calls Tryd.prog 123 #[.int .u8 c] w fun e w' => e = .returned (.bool (Id.letter c)) ∧ w = w' := by
  go_enter Tryd.func123, Tryd.ntmps123
  go_wp2
  all_goals go_ret
  all_goals exact ⟨lx_ret (by first | (simp [Id.letter, Lx.upper]; done) | (simp [Id.letter, Lx.upper]; omega)), rfl⟩
set_option maxHeartbeats 400000 in
theorem id_digit (c : Int) (w : World) :
    Calls Tryd.prog 125 #[.int .u8 c] w fun e w' => e = .returned (.bool (Id.digit c)) ∧ w = w' := by
  go_enter Tryd.func125, Tryd.ntmps125
  go_wp2
  all_goals go_ret
  all_goals exact ⟨lx_ret (by first | (simp [Id.digit, Lx.digit]; done) | (simp [Id.digit, Lx.digit]; omega)), rfl⟩
set_option maxHeartbeats 400000 in
theorem id_alnum (c : Int) (w : World) :
    Calls Tryd.prog 124 #[.int .u8 c] w fun e w' => e = .returned (.bool (Id.alnum c)) ∧ w = w' := by
  have h1 := fun W => id_letter c W
  have h2 := fun W => id_digit c W
  go_enter Tryd.func124, Tryd.ntmps124
  go_wp2_with (first | (go_at_call 123; refine (h1 _).mono ?_; rintro e w' ⟨rfl, rfl⟩) | (go_at_call 125; refine (h2 _).mono ?_; rintro e w' ⟨rfl, rfl⟩))
  all_goals go_ret
  all_goals exact ⟨lx_ret (by simp_all [Id.alnum, Id.letter, Id.digit]), rfl⟩
set_option maxHeartbeats 400000 in
theorem id_refc (c : Int) (w : World) :
    Calls Tryd.prog 127 #[.int .u8 c] w fun e w' => e = .returned (.bool (Id.refc c)) ∧ w = w' := by
  have h1 := fun W => id_alnum c W
  go_enter Tryd.func127, Tryd.ntmps127
  go_wp2_with (first | (go_at_call 124; refine (h1 _).mono ?_; rintro e w' ⟨rfl, rfl⟩))
  all_goals go_ret
  all_goals exact ⟨lx_ret (by simp_all [Id.refc]), rfl⟩

theorem id_size_mk (l : List UInt8) : (ByteArray.mk l.toArray).size = l.length := by simp [ByteArray.size]
theorem byteArray_bt (s : ByteArray) (k : Nat) (h : k < s.size) : (s[k].toNat : Int) = PlainAid.bt s k := PlainAid.get_bt s k h

set_option maxRecDepth 100000 in
set_option maxHeartbeats 2000000 in
theorem id_expand (s : ByteArray) (w : World) (hs : s.size ≤ 1048576) (hal : ∀ c ∈ s.data.toList, Id.alnum (c.toNat : Int) = true) :
    Calls Tryd.prog 129 #[.string s] w fun e w' => e = .returned (.string ⟨(Id.expand s.data.toList).toArray⟩) ∧ Below w.heap.size w w' := by
  have hb := PlainAid.get_bt s
  have HAL := Lib.hid hal
  clear hal
  go_enter Tryd.func129, Tryd.ntmps129
  go_wp2_with fail
  go_loopw [7] (fun i wr => ∃ k : Nat, k ≤ s.size ∧ i = .int .i64 k ∧ Below w.heap.size w wr ∧ BdIs w.heap.size w.heap.size (Lib.byteCells (Id.expand (s.data.toList.take k))) wr) (fun i _ => s.size - (RowKit.intOf i).toNat)
  case atStart =>
    refine ⟨0, Nat.zero_le _, rfl, (Below.refl _ _).alloc (Nat.le_refl _) _, .inl ⟨Nat.le_refl _, .slice none 0 0, ?_, World.ownsRow_nil _ _ _ _, by simp [Value.ownBlock]⟩⟩
    exact heap_alloc_new w _
  case round =>
    obtain ⟨k, hk, rfl, hbel, hbd⟩ := hrel
    by_cases hlt : k < s.size
    · have hmem : s[k] ∈ s.data.toList := by
        rw [List.mem_iff_getElem]
        exact ⟨k, by rw [← Lib.size_eq]; exact hlt, by rw [Array.getElem_toList]; rfl⟩
      have hal1 := HAL.out _ hmem
      have htk : ∀ c ∈ s.data.toList.take k, Id.alnum (c.toNat : Int) = true := fun c hc => HAL.out c (List.mem_of_mem_take hc)
      have hel := Id.expand_len _ htk
      have hel2 : (s.data.toList.take k).length ≤ k := List.length_take_le _ _
      have HS := Lib.hid (Id.expand_take s k hlt)
      have hX : Hid (Id.expandC s[k] = if Id.digit (PlainAid.bt s k) then [s[k]] else Lib.decDigits (s[k].toNat - 55)) := by
        show _ = _
        rw [← hb k hlt]; rfl
      have hbc : Hid ((s[k].toNat : Int) = PlainAid.bt s k) := hb k hlt
      have b0 := PlainAid.bt_nonneg s k
      have b1 := PlainAid.bt_le s k
      have hd := fun W => id_digit (PlainAid.bt s k) W
      have hlen : (Lib.byteCells (Id.expand (s.data.toList.take k))).length ≤ 2 * k := by rw [Lib.byteCells_length]; omega
      have hnn := Lib.hid (byteArray_bt s k hlt)
      clear hmem htk hel hel2
      cases hdg : Id.digit (PlainAid.bt s k) with
      | true =>
        rw [hdg] at hd
        have HDG := Lib.hid hdg
        have hw := bd_writeByte w.heap.size w.heap.size _ (PlainAid.bt s k) wr hbd (by omega) hbel.size
        clear hdg hal1
        go_wp2_with fail
        refine (hd _).mono ?_
        rintro e w1 ⟨rfl, rfl⟩
        go_wp2_with fail
        refine hw.mono ?_
        rintro e w2 ⟨rfl, hbd2, hb2⟩
        go_wp2_with fail
        go_roundw
        case rel =>
          refine ⟨k + 1, by omega, by go_num, hbel.trans hb2, .inr ?_⟩
          rw [HS.out, hX.out, HDG.out, if_pos rfl, Lib.byteCells_append]
          rw [show Lib.byteCells [s[k]] = [.int .u8 (PlainAid.bt s k)] from by simp [Lib.byteCells, hbc.out]]
          exact hbd2
        case measure => simp [RowKit.intOf]; omega
      | false =>
        rw [hdg] at hd
        have HDG := Lib.hid hdg
        have hup : 65 ≤ PlainAid.bt s k ∧ PlainAid.bt s k ≤ 90 := by
          have h1 := hal1
          rw [hbc.out] at h1
          unfold Id.alnum Lx.upper at h1
          unfold Id.digit at hdg
          rw [hdg] at h1
          simp at h1
          exact h1
        obtain ⟨u0, u1⟩ := hup
        have hn : Hid (PlainAid.bt s k - 65 + 10 = ((s[k].toNat - 55 : Nat) : Int)) := by
          show _ = _
          have := hbc.out
          omega
        have hn100 : s[k].toNat - 55 < 100 := by have := s[k].toNat_lt; have := hbc.out; omega
        have hdl := (Id.decDigits_small _ hn100).1
        have hit := fun W => Tryd.strconv_Itoa_small (s[k].toNat - 55) hn100 W
        have hw := bd_writeString w.heap.size w.heap.size _ ⟨(Lib.decDigits (s[k].toNat - 55)).toArray⟩ wr hbd (by rw [id_size_mk]; omega) hbel.size
        clear hdg hal1 hn100 hdl
        go_wp2_with fail
        refine (hd _).mono ?_
        rintro e w1 ⟨rfl, rfl⟩
        go_wp2_with fail
        rw [hn.out]
        refine (hit _).mono ?_
        rintro e w1 ⟨rfl, rfl⟩
        go_wp2_with fail
        refine hw.mono ?_
        rintro e w2 ⟨rfl, hbd2, hb2⟩
        go_wp2_with fail
        go_roundw
        case rel =>
          refine ⟨k + 1, by omega, by go_num, hbel.trans hb2, .inr ?_⟩
          rw [HS.out, hX.out, HDG.out, if_neg (by simp), Lib.byteCells_append]
          exact hbd2
        case measure => simp [RowKit.intOf]; omega
    · obtain rfl : k = s.size := by omega
      have hst := Tryd.Builder_String_any w.heap.size w.heap.size (Id.expand (s.data.toList.take s.size)) wr hbd hbel.size
      clear hb
      go_wp2_with fail
      refine hst.mono ?_
      rintro e w2 ⟨rfl, hb2⟩
      go_wp2_with fail
      go_ret
      refine ⟨?_, hbel.trans hb2⟩
      rw [List.take_of_length_le (by rw [← Lib.size_eq]; exact Nat.le_refl _)]
      rfl

end Go.Proofs.YtadhhknhfipihaaDoor
