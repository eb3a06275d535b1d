/-
  THE REFERENCE: New, find, copied, without, with.
-/
import Derived.Test.YtegahpgnmeobhaaGreatDoorRfApply
import Derived.Test.YtegahpgnmeobhaaGreatDoorRfSink
import Derived.WalkLawsBesides
namespace Go.Proofs.YtegahpgnmeobhaaGreatDoor
open Go.RowKit

theorem rf_new (c : Nat → Nat) (W : World) : Calls Tryz.prog 26 #[] W fun e W' => ∃ v, e = .returned v ∧ RfD c W' v ⟨[], -1, false⟩ ∧ Below W.heap.size W W' := by
  go_enter Tryz.func26, Tryz.ntmps26
  go_wp2_with fail
  refine bodyPost_ret (results_cell_row rfl _ _ W.heap.size _ _ (0, 0) _ rfl (heap_alloc_new _ _) Tryz.underlying27 rfl (by kernel_rfl)) rfl ?_
  exact ⟨_, rfl, ⟨.slice none 0 0, [], rfl, rfl, ⟨none, 0, rfl, Nat.le_refl _, fun _ => rfl, fun ad ha => (by cases ha), fun h => by simp at h⟩, fun x hx => (by cases hx), by decide⟩, (Below.refl _ _).alloc (Nat.le_refl _) _⟩

theorem ba_eq {a b : Dk.Bs} : ((⟨a.toArray⟩ : ByteArray) = ⟨b.toArray⟩) ↔ a = b := by
  constructor
  · intro h
    have := congrArg (fun s : ByteArray => s.data.toList) h
    simpa using this
  · rintro rfl; rfl

theorem ba_beq {a b : Dk.Bs} : ((⟨a.toArray⟩ : ByteArray) == ⟨b.toArray⟩) = (a == b) := by
  show (a.toArray == b.toArray) = _
  simp
theorem ba_ne {a b : Dk.Bs} (h : a ≠ b) : ((⟨a.toArray⟩ : ByteArray) == ⟨b.toArray⟩) = false := by
  rw [ba_beq]; simpa using h

set_option maxRecDepth 100000 in
set_option maxHeartbeats 400000 in
theorem rf_find {c : Nat → Nat} {W : World} {v : Value} {D : Dk.D} (h : RfD c W v D) (n : Dk.Bs) :
    Calls Tryz.prog 80 #[v, .string ⟨n.toArray⟩] W fun e W' => e = .returned (.int .i64 (Dk.posInt n D.fs)) ∧ Below W.heap.size W W' := by
  obtain ⟨sv, xs, rfl, hfs, hA⟩ := h
  obtain ⟨ao, cap, rfl, hcap, hx⟩ := hA.at
  have hlen := hA.2.2
  have HF := Lib.hid hfs
  have HX := Lib.hid hx
  have hlf : D.fs.length = xs.length := by rw [hfs]; simp
  obtain ⟨W1, hW1⟩ : ∃ W1, W1 = W.alloc (.cells #[.slice ao xs.length cap, .int .i64 D.bud, .bool D.down] 27) := ⟨_, rfl⟩
  have hb01 : Below W.heap.size W W1 := by rw [hW1]; exact (Below.refl _ _).alloc (Nat.le_refl _) _
  have hrow : W1.heap[W.heap.size]? = some (.cells #[.slice ao xs.length cap, .int .i64 D.bud, .bool D.down] 27 (0, 0)) := by rw [hW1]; exact heap_alloc_new W _
  have HR := Lib.hid hrow
  have HB := Lib.hid hb01
  have HL := Lib.hid hlf
  have HW := Lib.hid hW1
  clear hfs hx hA hrow hb01 hlf hW1
  unfold rfVal
  go_enter Tryz.func80, Tryz.ntmps80
  go_wp2_with fail
  go_loopw [5] (fun iv wr => ∃ i : Nat, i ≤ xs.length ∧ iv = .int .i64 i ∧ Hid (∀ j (x : Re), j < i → xs[j]? = some x → x.nm ≠ n) ∧ wr = W1) (fun iv _ => xs.length - (RowKit.intOf iv).toNat)
  case atStart => exact ⟨0, Nat.zero_le _, rfl, Lib.hid (fun j x hj => by omega), HW.out.symm⟩
  case round =>
    obtain ⟨i, hi, rfl, HN, rfl⟩ := hrel
    have c0 : wr.cell? ⟨W.heap.size, 0, none⟩ = some (.slice ao xs.length cap) := by rw [cell_of_row _ _ _ _ _ _ HR.out]; rfl
    by_cases hlt : i < xs.length
    · obtain ⟨g, rfl, hg, d0, _, _, hat⟩ := HX.out i xs[i] (List.getElem?_eq_getElem hlt)
      have d0' := (HB.out.cell (p := ⟨g, i * 3, none⟩) hg).trans d0
      have hxn : D.fs[i]? = some (xs[i].nm, xs[i].f) := by rw [HF.out, List.getElem?_map, List.getElem?_eq_getElem hlt]; rfl
      by_cases hq : xs[i].nm = n
      · have hpos : Dk.pos n D.fs = some i := by
          refine Dk.pos_of i (by rw [HL.out]; exact hlt) ?_ (fun j hj => ?_)
          · rw [List.getElem?_eq_getElem (by rw [HL.out]; exact hlt)] at hxn
            rw [Option.some.inj hxn]; exact hq
          · have hjl : j < xs.length := by omega
            have := HN.out j xs[j] hj (List.getElem?_eq_getElem hjl)
            have e : D.fs[j]? = some (xs[j].nm, xs[j].f) := by rw [HF.out, List.getElem?_map, List.getElem?_eq_getElem hjl]; rfl
            rw [List.getElem?_eq_getElem (by rw [HL.out]; exact hjl)] at e
            rw [Option.some.inj e]; exact this
        have hres : Dk.posInt n D.fs = i := by unfold Dk.posInt; rw [hpos]
        have HRES := Lib.hid hres
        rw [hq] at d0'
        clear hpos hres hxn d0 HX HF hat HN hq
        go_wp2_with fail
        go_ret
        exact ⟨by rw [HRES.out]; rfl, HB.out⟩
      · have hne : (xs[i].nm == n) = false := by simpa using hq
        have HN2 : Hid (∀ j (x : Re), j < i + 1 → xs[j]? = some x → x.nm ≠ n) := Lib.hid (fun j x hj hx => by
          rcases Nat.lt_or_ge j i with h | h
          · exact HN.out j x h hx
          · obtain rfl : j = i := by omega
            rw [List.getElem?_eq_getElem hlt] at hx
            rw [← Option.some.inj hx]; exact hq)
        clear hxn d0 HX HF hat HN hq
        generalize xs[i].nm = nm at *
        go_wp2_with fail
        refine ⟨⟨i + 1, by omega, by go_num, HN2, trivial⟩, by simp [RowKit.intOf]; omega⟩
    · obtain rfl : i = xs.length := by omega
      have hres : Dk.posInt n D.fs = -1 := by
        have : Dk.pos n D.fs = none := Dk.pos_miss fun k hk => by
          have hkl : k < xs.length := by rw [HL.out] at hk; exact hk
          have e : D.fs[k]? = some (xs[k].nm, xs[k].f) := by rw [HF.out, List.getElem?_map, List.getElem?_eq_getElem hkl]; rfl
          rw [List.getElem?_eq_getElem hk] at e
          rw [Option.some.inj e]
          exact HN.out k xs[k] hkl (List.getElem?_eq_getElem hkl)
        unfold Dk.posInt; rw [this]
      have HRES := Lib.hid hres
      clear hres HX HF HN
      go_wp2_with fail
      go_ret
      exact ⟨by rw [HRES.out]; rfl, HB.out⟩

end Go.Proofs.YtegahpgnmeobhaaGreatDoor
