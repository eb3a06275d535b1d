/-
  THE REFERENCE's Lines (giroref17).
-/
import Derived.Test.YtadhhknhfipihaaDoorRefLines
namespace Go.Proofs.YtadhhknhfipihaaDoor
open Go.RowKit Go.Lib

theorem lx_infoStr : (Tryd.prog.info? 9).map (fun i => (i.zero, i.size, i.bytes)) = some (some (.string ByteArray.empty), 1, 16) := by kernel_rfl

theorem rx_go_feed (s : ByteArray) (f k : Nat) (h : k < s.size) (e : s[k] = 10) :
    Lx.go (s.data.toList.drop k) ((s.data.toList.drop f).take (k - f)) = (s.data.toList.drop f).take (k - f) :: Lx.go (s.data.toList.drop (k + 1)) [] := by
  rw [List.drop_eq_getElem_cons (by rw [← Lib.size_eq]; exact h)]
  simp only [Lx.go]
  rw [if_pos]
  rw [Array.getElem_toList]; exact e
theorem rx_go_other (s : ByteArray) (f k : Nat) (hf : f ≤ k) (h : k < s.size) (e : ¬ s[k] = 10) :
    Lx.go (s.data.toList.drop k) ((s.data.toList.drop f).take (k - f)) = Lx.go (s.data.toList.drop (k + 1)) ((s.data.toList.drop f).take (k + 1 - f)) := by
  have hk : k < s.data.toList.length := by rw [← Lib.size_eq]; exact h
  rw [List.drop_eq_getElem_cons hk]
  simp only [Lx.go]
  rw [if_neg (by rw [Array.getElem_toList]; exact e)]
  congr 1
  rw [show k + 1 - f = (k - f) + 1 by omega, List.take_succ_eq_append_getElem (by simp; omega)]
  congr 2
  simp
  congr 1
  omega
theorem rx_go_end (s : ByteArray) (f : Nat) (h : f < s.size) : Lx.go (s.data.toList.drop s.size) ((s.data.toList.drop f).take (s.size - f)) = [(s.data.toList.drop f).take (s.size - f)] := by
  rw [List.drop_eq_nil_of_le (by rw [← Lib.size_eq]; exact Nat.le_refl _)]
  simp only [Lx.go]
  rw [if_neg]
  intro e
  have := congrArg List.length e
  rw [List.length_take, List.length_drop, ← Lib.size_eq] at this
  simp at this
  omega

set_option maxRecDepth 100000 in
set_option maxHeartbeats 2000000 in
theorem rx_lines (s : ByteArray) (w : World) (hs : s.size ≤ 1073741824) :
    Calls Tryd.prog 6 #[.string s] w fun e w' => ∃ v, e = .returned v ∧ LxStrs w' w.heap.size v (Lx.lines s) ∧ Below w.heap.size w w' := by
  obtain ⟨i0, hi, hz0, hz1, hz2⟩ := info_parts lx_infoStr
  go_enter Tryd.func6, Tryd.ntmps6
  go_wp2_with fail
  go_loopw [3, 4, 5] (fun v a i wr => ∃ (f k : Nat) (done : List (List UInt8)), f ≤ k ∧ k ≤ s.size ∧ a = .int .i64 f ∧ i = .int .i64 k ∧ done.length ≤ k ∧ Below w.heap.size w wr ∧
    wr.ownsRow w.heap.size 9 1 v done.length (done.map fun x => .string ⟨x.toArray⟩) ∧
    Hid (Lx.lines s = done ++ (Lx.go (s.data.toList.drop k) ((s.data.toList.drop f).take (k - f))).map fun p => Lx.clean ⟨p.toArray⟩)) (fun _ _ i _ => s.size - (RowKit.intOf i).toNat)
  case atStart => exact ⟨0, 0, [], Nat.le_refl _, Nat.zero_le _, rfl, rfl, Nat.le_refl _, Below.refl _ _, World.ownsRow_nil _ _ _ _, by show _ = _; simp [Lx.lines]⟩
  case round =>
    obtain ⟨f, k, done, hfk, hk, rfl, rfl, hdone, hbel, hown, hH⟩ := hrel
    by_cases hlt : k < s.size
    · have e10 : ((s[k].toNat : Int) = 10) ↔ s[k] = 10 := by
        rw [← UInt8.toNat_inj]
        show ((s[k].toNat : Int) = 10) ↔ (s[k].toNat = 10)
        omega
      by_cases h10 : (s[k].toNat : Int) = 10
      · have HG := Lib.hid (rx_go_feed s f k hlt (e10.1 h10))
        have hb10 : ((s[k].toNat : Int) == 10) = true := by simpa using h10
        have hcall := fun W => rx_clean (s.extract f k) W (by rw [ByteArray.size_extract]; omega)
        have HX := Lib.hid (Lib.extract_eq s f k)
        generalize hq : Lx.clean (s.extract f k) = q at *
        have HQ := Lib.hid hq
        clear e10 h10 hq
        go_wp2_with fail
        refine (hcall _).mono ?_
        rintro e w' ⟨rfl, rfl⟩
        go_wp2_with (at_builtin; refine wpList_append_own _ rfl _ _ 22 rfl w.heap.size 9 i0 _ 1 16 Tryd.underlying22 hi hz0 hz1 hz2 rfl (by decide) _ _ _ rfl (hown.alloc _) ⟨wr.heap.size, 0, none⟩ 1 1 [.string ⟨q.toArray⟩] rfl rfl ?c1 ?c2 ?c3 ?c4 ?c5 ?_)
        case c1 =>
          intro j u hj
          match j, hj with
          | 0, hj => simp at hj; subst hj; simp [Addr.add]
          | j + 1, hj => simp at hj
        case c2 => intro u hu; simp at hu; subst hu; rfl
        case c3 => unfold maxLen; omega
        case c4 => omega
        case c5 => have := hbel.size; simp; omega
        intro v' w3 hown3 hgrow3 _
        have hbel3 := (hbel.alloc hbel.size _).grown hgrow3 (by have := hbel.size; simp; omega) (fun k hk => (hown.lt k hk).1)
        clear hgrow3 hown hbel
        go_wp2_with fail
        go_roundw
        case rel =>
          refine ⟨k + 1, k + 1, done ++ [q], Nat.le_refl _, by omega, by go_num, by go_num, by simp; omega, hbel3, by simpa using hown3, ?_⟩
          show _ = _
          rw [hH.out, HG.out]
          simp [← HQ.out, ← HX.out]
        case measure => simp [RowKit.intOf]; omega
      · have HG := Lib.hid (rx_go_other s f k hfk hlt (fun e => h10 (e10.2 e)))
        have hb10 : ((s[k].toNat : Int) == 10) = false := by simpa using h10
        clear e10 h10
        go_wp2_with fail
        go_roundw
        case rel =>
          refine ⟨f, k + 1, done, by omega, by omega, rfl, by go_num, by omega, hbel, hown, ?_⟩
          show _ = _
          rw [hH.out, HG.out]
        case measure => simp [RowKit.intOf]; omega
    · obtain rfl : k = s.size := by omega
      by_cases hf : f < s.size
      · have HG := Lib.hid (rx_go_end s f hf)
        have hcall := fun W => rx_clean (s.extract f s.size) W (by rw [ByteArray.size_extract]; omega)
        have HX := Lib.hid (Lib.extract_eq s f s.size)
        generalize hq : Lx.clean (s.extract f s.size) = q at *
        have HQ := Lib.hid hq
        clear hq
        go_wp2_with fail
        refine (hcall _).mono ?_
        rintro e w' ⟨rfl, rfl⟩
        go_wp2_with (at_builtin; refine wpList_append_own _ rfl _ _ 22 rfl w.heap.size 9 i0 _ 1 16 Tryd.underlying22 hi hz0 hz1 hz2 rfl (by decide) _ _ _ rfl (hown.alloc _) ⟨wr.heap.size, 0, none⟩ 1 1 [.string ⟨q.toArray⟩] rfl rfl ?c1 ?c2 ?c3 ?c4 ?c5 ?_)
        case c1 =>
          intro j u hj
          match j, hj with
          | 0, hj => simp at hj; subst hj; simp [Addr.add]
          | j + 1, hj => simp at hj
        case c2 => intro u hu; simp at hu; subst hu; rfl
        case c3 => unfold maxLen; omega
        case c4 => omega
        case c5 => have := hbel.size; simp; omega
        intro v' w3 hown3 hgrow3 _
        have hbel3 := (hbel.alloc hbel.size _).grown hgrow3 (by have := hbel.size; simp; omega) (fun k hk => (hown.lt k hk).1)
        clear hgrow3 hown hbel
        go_wp2_with fail
        go_ret
        refine ⟨_, rfl, ?_, hbel3⟩
        rw [hH.out, HG.out]
        unfold LxStrs
        simpa [← HQ.out, ← HX.out] using hown3
      · obtain rfl : f = s.size := by omega
        go_wp2_with fail
        go_ret
        refine ⟨_, rfl, ?_, hbel⟩
        rw [hH.out]
        unfold LxStrs
        have : List.drop s.size s.data.toList = [] := List.drop_eq_nil_of_le (by rw [← Lib.size_eq]; exact Nat.le_refl _)
        rw [this]
        simpa [Lx.go] using hown

end Go.Proofs.YtadhhknhfipihaaDoor
