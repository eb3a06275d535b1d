/-
  strconv.ParseUint at base 10, 63 bits, for ten digits.
  The number of a checkpoint's file, by cutting the name's parts.
-/
import Derived.Test.YtamencnachmhoaaGreatDoorCkOpens
import Derived.Lib.ConvBytes
import Derived.Lib.SmallJoins
import Derived.Test.YtamencnachmhoaaGreatDoorCkWriter

namespace Go.Proofs.YtamencnachmhoaaGreatDoor
open Go.RowKit

theorem valD_take {t : Ck.Bs} {i : Nat} {c : UInt8} (h : t[i]? = some c) : Wl.valD (t.take (i + 1)) = 10 * Wl.valD (t.take i) + (c.toNat - 48) := by
  rw [List.take_add_one, h]
  exact Wl.valD_append _ _
theorem valD_lt {t : Ck.Bs} (hd : ∀ c ∈ t, Wl.isDig c) : Wl.valD t < 10 ^ t.length := by
  have := (Wl.foldD_lt t 0 hd).2
  simpa [Wl.valD] using this
theorem valD_take_lt {t : Ck.Bs} (hl : t.length = 10) (hd : ∀ c ∈ t, Wl.isDig c) (i : Nat) : Wl.valD (t.take i) < 10000000000 := by
  have h1 := valD_lt (t := t.take i) (fun c hc => hd c (List.mem_of_mem_take hc))
  have h2 : 10 ^ (t.take i).length ≤ 10 ^ 10 := Nat.pow_le_pow_right (by decide) (by rw [List.length_take]; omega)
  have h3 : 10 ^ 10 = 10000000000 := by decide
  omega

set_option maxRecDepth 100000 in
set_option maxHeartbeats 1000000 in
theorem ck_parse10 (W : World) (t : Ck.Bs) (hl : t.length = 10) (hd : ∀ c ∈ t, Wl.isDig c) :
    Calls Tryz.prog 166 #[.string ⟨t.toArray⟩, .int .i64 10, .int .i64 63] W fun e W' => e = .returned (.tuple #[.int .u64 (Wl.valD t), .nilIface]) ∧ Below W.heap.size W W' := by
  obtain ⟨s, hs⟩ : ∃ s : ByteArray, s = ⟨t.toArray⟩ := ⟨_, rfl⟩
  have hsz : s.size = 10 := by rw [hs]; show t.toArray.size = 10; simpa using hl
  have hdt : s.data.toList = t := by rw [hs]
  have hemp : s.toList.isEmpty = false := by
    rw [Lib.toList_data, hdt]
    cases t with
    | nil => simp at hl
    | cons => rfl
  have HDT := Lib.hid hdt
  rw [← hs]
  clear hs hdt
  have hcv : (convert 9 22 (.string s)).run Tryz.prog W = .ok (.slice (some ⟨W.heap.size, 0, none⟩) s.size (grownCap W s.size 0 5)) (Lib.bytesWorld W 5 s) :=
    Lib.run_convert_string_bytes W 9 22 5 s Tryz.underlying9 Tryz.underlying22 Tryz.underlying5
  have hcell := Lib.bytesWorld_cell W 5 s
  have hbel := Go.Joins.below_bytesWorld W.heap.size W 5 s (Nat.le_refl _)
  obtain ⟨k0, hk0⟩ : ∃ k0, k0 = grownCap W s.size 0 5 := ⟨_, rfl⟩
  rw [← hk0] at hcv
  generalize Lib.bytesWorld W 5 s = W1 at *
  have HCELL := Lib.hid hcell
  have HBEL := Lib.hid hbel
  clear hcell hbel hk0
  go_enter Tryz.func166, Tryz.ntmps166
  go_wp2_with fail
  obtain ⟨co, hco⟩ : ∃ co : Int, (1844674407370955162 : Int) = co := ⟨_, rfl⟩
  obtain ⟨mx, hmx⟩ : ∃ mx : Int, (9223372036854775807 : Int) = mx := ⟨_, rfl⟩
  rw [hco, hmx]
  have HCO := Lib.hid hco
  have HMX := Lib.hid hmx
  clear hco hmx
  go_loopw [12, 13, 101] (fun uv nv iv wr => ∃ i n : Nat, uv = .bool false ∧ iv = .int .i64 i ∧ nv = .int .u64 n ∧ i ≤ 10 ∧ Hid (n = Wl.valD (t.take i)) ∧ wr = W1) (fun _ _ iv _ => 10 - (RowKit.intOf iv).toNat)
  case atStart => exact ⟨0, 0, rfl, rfl, rfl, Nat.zero_le _, Lib.hid (by rw [List.take_zero]; rfl), rfl⟩
  case round =>
    obtain ⟨i, n, rfl, rfl, rfl, hi, HN, rfl⟩ := hrel
    by_cases hlt : i < 10
    · obtain ⟨c, hc⟩ : ∃ c, t[i]? = some c := ⟨_, List.getElem?_eq_getElem (by omega)⟩
      obtain ⟨cn, hcn⟩ : ∃ cn, cn = c.toNat := ⟨_, rfl⟩
      have y0 : wr.cell? ⟨W.heap.size, i, none⟩ = some (.int .u8 cn) := by
        rw [HCELL.out i (by omega), HDT.out, hcn]
        simp [List.getD, hc]
      obtain ⟨hd1, hd2⟩ := hd c (List.mem_of_getElem? hc)
      rw [← hcn] at hd1 hd2
      obtain ⟨m, hm⟩ : ∃ m, m = 10 * n + (cn - 48) := ⟨_, rfl⟩
      have hmv : m = Wl.valD (t.take (i + 1)) := by rw [hm, HN.out, valD_take hc, hcn]
      have hmlt : m < 10000000000 := by rw [hmv]; exact valD_take_lt hl hd _
      have HMV := Lib.hid hmv
      have HM := Lib.hid hm
      have hnlt : n < 1000000000 := by omega
      have j0 : (i : Int) < (s.size : Int) := by omega
      have j1 : (48 : Int) ≤ (cn : Int) := by omega
      have j2 : (cn : Int) ≤ 57 := by omega
      have j3 : (n : Int) < co := by rw [← HCO.out]; omega
      have j4 : ¬ co ≤ (n : Int) := by omega
      have j6 : (m : Int) ≤ mx := by rw [← HMX.out]; omega
      have j5 : ((cn : Int) == 95) = false := by rw [beq_eq_false_iff_ne]; omega
      have HN1 := Lib.hid hnlt
      have HN2 := Lib.hid hmlt
      have HL := Lib.hid hl
      have HD1 := Lib.hid hd1
      have HD2 := Lib.hid hd2
      have HSZ := Lib.hid hsz
      clear hm hmv hc hcn hd hnlt hmlt hl hd1 hd2 hsz
      go_upto_region 40 with fail
      go_upto_region 42 with fail
      go_upto_region 48 with fail
      go_upto_region 50 with fail
      go_upto_region 51 with fail
      go_upto_region 52 with fail
      obtain ⟨q, hq⟩ : ∃ q, q = 10 * n := ⟨_, rfl⟩
      have w1 : IntKind.u64.wrap ((n : Int) * 10) = ((q : Nat) : Int) := by
        have := HN1.out
        rw [show (n : Int) * 10 = ((q : Nat) : Int) by omega]
        exact wrapU64 (by omega)
      have w2 : IntKind.u64.wrap (((q : Nat) : Int) + ((cn : Int) - 48)) = ((m : Nat) : Int) := by
        have := HN2.out
        have hm := HM.out
        have h1 := HD1.out
        rw [show ((q : Nat) : Int) + ((cn : Int) - 48) = ((m : Nat) : Int) by omega]
        exact wrapU64 (by omega)
      rw [w1, w2]
      have j7 : ¬ ((m : Int) < (q : Int)) := by have := HM.out; omega
      have j8 : ¬ (mx < (m : Int)) := by omega
      clear w1 w2 hq j6 j3 j4
      go_wp2_with fail
      refine ⟨⟨i + 1, m, rfl, rfl, rfl, by omega, HMV, trivial⟩, ?_⟩
      show 10 - ((i : Int) + 1).toNat < 10 - ((i : Int)).toNat
      omega
    · have hie : i = 10 := by omega
      have hval : n = Wl.valD t := by rw [HN.out, hie, List.take_of_length_le (by omega)]
      have HV := Lib.hid hval
      have j0 : ¬ (i : Int) < (s.size : Int) := by omega
      clear hval hie
      go_wp2_with fail
      go_ret2
      rw [← HV.out]
      exact ⟨rfl, HBEL.out⟩

set_option maxRecDepth 100000 in
set_option maxHeartbeats 1000000 in
theorem ck_parseUint (W : World) (t : Ck.Bs) (hl : t.length = 10) (hd : ∀ c ∈ t, Wl.isDig c) :
    Calls Tryz.prog 123 #[.string ⟨t.toArray⟩, .int .i64 10, .int .i64 63] W fun e W' => e = .returned (.tuple #[.int .u64 (Wl.valD t), .nilIface]) ∧ Below W.heap.size W W' := by
  have n1 := ck_parse10 W t hl hd
  go_enter Tryz.func123, Tryz.ntmps123
  go_wp2_with fail
  refine n1.mono ?_
  rintro e W1 ⟨rfl, hb⟩
  have HB := Lib.hid hb
  clear n1 hb
  go_wp2_with fail
  go_ret2
  exact ⟨rfl, HB.out⟩

end Go.Proofs.YtamencnachmhoaaGreatDoor

namespace Go.Proofs.YtamencnachmhoaaGreatDoor
open Go.RowKit

namespace Ck

theorem numOf_iff (nm x : Bs) (n : Nat) : numOf nm x = some n ↔ ∃ q : Bs, x = (nm ++ [45]) ++ q ++ ckpt ∧ q.length = 10 ∧ (∀ c ∈ q, Wl.isDig c) ∧ Wl.valD q = n ∧ n ≤ 1000000000 := by
  constructor
  · intro h
    unfold numOf at h
    by_cases hs : ckpt.isSuffixOf x = true
    · rw [if_pos hs] at h
      rw [List.isSuffixOf_iff_suffix] at hs
      obtain ⟨y, rfl⟩ := hs
      have ht : (y ++ ckpt).take ((y ++ ckpt).length - 5) = y := by
        rw [List.length_append]
        exact List.take_left' (by show _ = _ + 5 - 5; omega)
      rw [ht] at h
      unfold Wl.firstOf at h
      split at h
      next hc =>
        split at hc
        next hb =>
          simp only [Bool.and_eq_true, decide_eq_true_eq, List.all_eq_true, List.isPrefixOf_iff_prefix] at hb
          obtain ⟨⟨⟨q, rfl⟩, h10⟩, hd⟩ := hb
          have hdr : (nm ++ [45] ++ q).drop (nm.length + 1) = q := List.drop_left' (by simp)
          rw [hdr] at h10 hd hc
          obtain rfl := Option.some.inj hc
          split at h
          next hle =>
            obtain rfl := Option.some.inj h
            exact ⟨q, rfl, h10, fun c hc => hd c hc, rfl, hle⟩
          next => exact absurd h (by simp)
        next => exact absurd hc (by simp)
      next => exact absurd h (by simp)
    · rw [if_neg hs] at h
      exact absurd h (by simp)
  · rintro ⟨q, rfl, h10, hd, rfl, hle⟩
    unfold numOf
    rw [if_pos (List.isSuffixOf_iff_suffix.2 ⟨_, rfl⟩)]
    have ht : (nm ++ [45] ++ q ++ ckpt).take ((nm ++ [45] ++ q ++ ckpt).length - 5) = nm ++ [45] ++ q := by
      rw [List.length_append (bs := ckpt)]
      exact List.take_left' (by show _ = _ + 5 - 5; omega)
    have hdr : (nm ++ [45] ++ q).drop (nm.length + 1) = q := List.drop_left' (by simp)
    rw [ht]
    unfold Wl.firstOf
    rw [hdr, if_pos]
    · show (if Wl.valD q ≤ 1000000000 then some (Wl.valD q) else none) = _
      rw [if_pos hle]
    · simp only [Bool.and_eq_true, decide_eq_true_eq, List.all_eq_true, List.isPrefixOf_iff_prefix]
      exact ⟨⟨⟨q, rfl⟩, h10⟩, fun c hc => hd c hc⟩

/-- what lies between the store's name and the ending -/
def mid (nm x : Bs) : Bs := Lib.trimSuffix (Lib.trimPrefix x (nm ++ [45])) ckpt

theorem numOf_eq (nm x : Bs) : numOf nm x =
    if Lib.hasPrefix x (nm ++ [45]) = true ∧ Lib.hasSuffix (Lib.trimPrefix x (nm ++ [45])) ckpt = true ∧ (mid nm x).length = 10 ∧ (mid nm x).all (fun c => decide (48 ≤ c.toNat ∧ c.toNat ≤ 57)) = true ∧ Wl.valD (mid nm x) ≤ 1000000000
    then some (Wl.valD (mid nm x)) else none := by
  split
  next h =>
    obtain ⟨h1, h2, h3, h4, h5⟩ := h
    rw [numOf_iff]
    refine ⟨mid nm x, ?_, h3, fun c hc => by simpa [Wl.isDig] using List.all_eq_true.1 h4 c hc, rfl, h5⟩
    unfold mid Lib.trimSuffix
    rw [if_pos h2]
    unfold Lib.trimPrefix at h2 ⊢
    rw [if_pos h1] at h2 ⊢
    unfold Lib.hasPrefix at h1
    unfold Lib.hasSuffix at h2
    rw [List.isPrefixOf_iff_prefix] at h1
    rw [List.isSuffixOf_iff_suffix] at h2
    obtain ⟨m, rfl⟩ := h1
    rw [List.drop_left' rfl] at h2 ⊢
    obtain ⟨q, rfl⟩ := h2
    rw [List.length_append (bs := ckpt), List.take_left' (by omega)]
    simp only [List.append_assoc]
  next h =>
    cases hn : numOf nm x with
    | none => rfl
    | some n =>
      exfalso
      apply h
      rw [numOf_iff] at hn
      obtain ⟨q, rfl, h10, hd, rfl, hle⟩ := hn
      have h1 : Lib.hasPrefix (nm ++ [45] ++ q ++ ckpt) (nm ++ [45]) = true := by
        unfold Lib.hasPrefix
        rw [List.isPrefixOf_iff_prefix, List.append_assoc]
        exact ⟨_, rfl⟩
      have ht : Lib.trimPrefix (nm ++ [45] ++ q ++ ckpt) (nm ++ [45]) = q ++ ckpt := by
        unfold Lib.trimPrefix
        rw [if_pos h1, List.append_assoc (nm ++ [45])]
        exact List.drop_left' rfl
      have h2 : Lib.hasSuffix (q ++ ckpt) ckpt = true := by
        unfold Lib.hasSuffix
        rw [List.isSuffixOf_iff_suffix]
        exact ⟨_, rfl⟩
      have hm : mid nm (nm ++ [45] ++ q ++ ckpt) = q := by
        unfold mid
        rw [ht]
        unfold Lib.trimSuffix
        rw [if_pos h2, List.length_append]
        exact List.take_left' (by omega)
      rw [hm, ht]
      exact ⟨h1, h2, h10, List.all_eq_true.2 fun c hc => by simpa [Wl.isDig] using hd c hc, hle⟩

/-- every name that looks like a checkpoint's has ten digits -/
def Tame (nm : Bs) (l : List Bs) : Prop :=
  ∀ x ∈ l, Lib.hasPrefix x (nm ++ [45]) = true → Lib.hasSuffix (Lib.trimPrefix x (nm ++ [45])) ckpt = true → (mid nm x).length = 10 → ∀ c ∈ mid nm x, Wl.isDig c

end Ck

end Go.Proofs.YtamencnachmhoaaGreatDoor
