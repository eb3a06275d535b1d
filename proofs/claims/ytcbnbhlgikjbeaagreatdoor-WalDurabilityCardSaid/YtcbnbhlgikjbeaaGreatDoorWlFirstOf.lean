/-
  firstOf: the number in the name of a segment.
-/
import Derived.Test.YtcbnbhlgikjbeaaGreatDoorWlNext
namespace Go.Proofs.YtcbnbhlgikjbeaaGreatDoor
open Go.RowKit

theorem digs_lt : ∀ (l : List UInt8), (∀ c ∈ l, Wl.isDig c) → Wl.valD l < 10 ^ l.length := by
  intro l
  suffices h : ∀ (l : List UInt8) (n k : Nat), n < 10 ^ k → (∀ c ∈ l, Wl.isDig c) → l.foldl (fun n c => 10 * n + (c.toNat - 48)) n < 10 ^ (k + l.length) from fun hd => by simpa [Wl.valD] using h l 0 0 (by decide) hd
  intro l
  induction l with
  | nil => intro n k h _; simpa using h
  | cons c l ih =>
    intro n k h hd
    have hc : c.toNat ≤ 57 := (hd c (by simp)).2
    have := ih (10 * n + (c.toNat - 48)) (k + 1) (by rw [Nat.pow_succ]; omega) (fun x hx => hd x (List.mem_cons_of_mem _ hx))
    simp only [List.foldl_cons, List.length_cons]
    rw [show k + (l.length + 1) = k + 1 + l.length from by omega]
    exact this

set_option maxRecDepth 100000 in
set_option maxHeartbeats 2000000 in
/-- the number, where the name is that of a segment -/
theorem wl_firstOf (W : World) (p : ByteArray) (n : Nat) (hn : n < 10000000000) (hp : p.size ≤ 1000) :
    Calls Tryz.prog 51 #[.string p, .string ⟨(Wl.name p.data.toList n).toArray⟩] W fun e W' => e = .returned (.tuple #[.int .i64 n, .bool true]) ∧ W = W' := by
  have hcut := Tryz.strings_CutPrefix ⟨(Wl.name p.data.toList n).toArray⟩ (p ++ ⟨#[45]⟩) W
  have hpe : (p ++ ⟨#[45]⟩ : ByteArray).data.toList = p.data.toList ++ [45] := by rw [ByteArray.data_append]; simp
  have hne : (⟨(Wl.name p.data.toList n).toArray⟩ : ByteArray).data.toList = p.data.toList ++ [45] ++ Wl.pad n := by
    show Wl.name p.data.toList n = _
    unfold Wl.name; simp
  have hh : Lib.hasPrefix (p.data.toList ++ [45] ++ Wl.pad n) (p.data.toList ++ [45]) = true := by
    unfold Lib.hasPrefix; rw [List.isPrefixOf_iff_prefix]; exact List.prefix_append _ _
  rw [hpe, hne] at hcut
  unfold Lib.trimPrefix at hcut
  rw [if_pos hh, hh, List.drop_left' rfl] at hcut
  obtain ⟨s, hs⟩ : ∃ s : ByteArray, s = ⟨(Wl.pad n).toArray⟩ := ⟨_, rfl⟩
  have hsz : s.size = 10 := by rw [hs]; show (Wl.pad n).toArray.size = 10; simp [Wl.pad_length hn]
  have hsl : s.data.toList = Wl.pad n := by rw [hs]
  rw [← hs] at hcut
  have hval := Wl.pad_val n
  have hdig : ∀ k (h : k < s.size), Wl.isDig s[k] := fun k h => Wl.pad_dig n _ (by rw [← hsl]; exact List.getElem_mem (by rw [Array.length_toList]; exact h))
  have HV := Lib.hid hval
  have HD := Lib.hid hdig
  have HSL := Lib.hid hsl
  have hb := PlainAid.get_bt s
  clear hpe hne hh hs hsl hval hdig
  go_enter Tryz.func51, Tryz.ntmps51
  go_wp2_with fail
  refine hcut.mono ?_
  rintro e w1 ⟨rfl, rfl⟩
  clear hcut
  go_wp2_with fail
  go_loopw [8, 26] (fun nv iv wr => ∃ k : Nat, iv = .int .i64 k ∧ k ≤ 10 ∧ nv = .int .i64 (Wl.valD ((Wl.pad n).take k)) ∧ wr = w1) (fun _ iv _ => 10 - (RowKit.intOf iv).toNat)
  case atStart => exact ⟨0, rfl, by decide, rfl, rfl⟩
  case round =>
    obtain ⟨k, rfl, hk, rfl, rfl⟩ := hrel
    by_cases hlt : k < 10
    · have hks : k < s.size := by omega
      have hdg := HD.out k hks
      have b1 : (48 : Int) ≤ PlainAid.bt s k := by rw [← hb k hks]; have := hdg.1; omega
      have b2 : PlainAid.bt s k ≤ 57 := by rw [← hb k hks]; have := hdg.2; omega
      have hg : (Wl.pad n)[k]? = some s[k] := by
        rw [← HSL.out, List.getElem?_eq_getElem (by rw [Array.length_toList]; exact hks)]
        rfl
      have hv1 : (Wl.valD ((Wl.pad n).take (k + 1)) : Int) = 10 * (Wl.valD ((Wl.pad n).take k) : Int) + (PlainAid.bt s k - 48) := by
        rw [List.take_add_one, hg, Option.toList_some, Wl.valD_append, ← hb k hks]
        have := hdg.1
        push_cast
        omega
      have hb10 : Wl.valD ((Wl.pad n).take k) < 10 ^ 10 := by
        have h1 := digs_lt ((Wl.pad n).take k) (fun c hc => Wl.pad_dig n c (List.mem_of_mem_take hc))
        have h2 : 10 ^ ((Wl.pad n).take k).length ≤ 10 ^ 10 := Nat.pow_le_pow_right (by decide) (by rw [List.length_take]; omega)
        omega
      have HV1 := Lib.hid hv1
      generalize Wl.valD ((Wl.pad n).take k) = x at *
      clear hv1 hg hdg
      go_wp2_with fail
      refine ⟨⟨k + 1, by go_num, by omega, by rw [HV1.out], trivial⟩, by simp [RowKit.intOf]; omega⟩
    · obtain rfl : k = 10 := by omega
      have hfin : Wl.valD ((Wl.pad n).take 10) = n := by rw [List.take_of_length_le (by rw [Wl.pad_length hn]; exact Nat.le_refl _)]; exact HV.out
      rw [hfin]
      clear hfin
      go_wp2_with fail
      go_ret2
      exact ⟨rfl, rfl⟩

end Go.Proofs.YtcbnbhlgikjbeaaGreatDoor
