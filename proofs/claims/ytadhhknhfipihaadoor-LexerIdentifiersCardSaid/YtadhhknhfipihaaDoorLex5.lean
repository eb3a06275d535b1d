/-
  uncomment AND Tokenize.
-/
import Derived.Test.YtadhhknhfipihaaDoorLex4
import Derived.Deep.RegionWith
namespace Go.Proofs.YtadhhknhfipihaaDoor
open Go.RowKit Go.Lib

set_option maxHeartbeats 1000000 in
theorem lx_uncomment (s : ByteArray) (w : World) (hs : s.size ≤ 9223372036854775807) :
    Calls Tryd.prog 14 #[.string s] w fun e w' => e = .returned (.string (Lx.uncomment s)) ∧ w = w' := by
  go_enter Tryd.func14, Tryd.ntmps14
  go_wp2
  go_loop [6] (fun i => ∃ k : Nat, k ≤ s.size ∧ i = .int .i64 k ∧ ∀ j, j < k → Lx.isC s.data.toList j = false) (fun i => s.size - (RowKit.intOf i).toNat)
  case atStart => exact ⟨0, Nat.zero_le _, rfl, fun j hj => by omega⟩
  case round =>
    obtain ⟨k, hk, rfl, hprev⟩ := hrel
    have HP := Lib.hid hprev
    clear hprev
    by_cases hlt : k < s.size
    · have hget : s.data.toList[k]? = some s[k] := by
        rw [Array.getElem?_toList]
        exact Array.getElem?_eq_getElem hlt
      have e35 : ((s[k].toNat : Int) = 35) ↔ s[k] = 35 := by
        rw [← UInt8.toNat_inj]
        show ((s[k].toNat : Int) = 35) ↔ (s[k].toNat = 35)
        omega
      by_cases h35 : (s[k].toNat : Int) = 35
      · by_cases h0 : k = 0
        · subst h0
          have HC : Hid (Lx.isC s.data.toList 0 = true) := by unfold Lx.isC; rw [hget, e35.1 h35]; rfl
          have HH := Lib.hid h35
          have hb35 : ((s[0].toNat : Int) == 35) = true := by simpa using h35
          clear hget e35 h35
          go_wp2_with fail
          go_ret
          refine ⟨?_, rfl⟩
          rw [Lx.uncomment, Lx.cutAt_hit s.data.toList 0 (by rw [← Lib.size_eq]; omega) HC.out (fun j hj => by omega)]
          simp [ByteArray.extract_same]
        · have hk1 : k - 1 < s.size := by omega
          have hget1 : s.data.toList[k - 1]? = some s[k - 1] := by
            rw [Array.getElem?_toList]
            exact Array.getElem?_eq_getElem hk1
          have HC : Hid (Lx.isC s.data.toList k = Lx.blank (s[k - 1].toNat : Int)) := by
            show _ = _
            unfold Lx.isC; rw [hget, hget1, e35.1 h35]
            have : (k == 0) = false := by simpa using h0
            simp [this]
          have HH := Lib.hid h35
          have hb35 : ((s[k].toNat : Int) == 35) = true := by simpa using h35
          have hb0 : ((k : Int) == 0) = false := by simpa using h0
          have hc0 : (0 : Int) ≤ (s[k - 1].toNat : Int) := by omega
          have hc1 : (s[k - 1].toNat : Int) < 256 := by have := s[k - 1].toNat_lt; omega
          have hcall := fun W => lx_blank (s[k - 1].toNat : Int) W hc0 hc1
          have hkpos : 1 ≤ k := by omega
          clear hget hget1 e35 h35 h0 hc0 hc1
          cases hq : Lx.blank (s[k - 1].toNat : Int) with
          | true =>
            rw [hq] at hcall
            rw [hq] at HC
            clear hq
            go_wp2_with (go_at_call 32; refine (hcall _).mono ?_; rintro e w' ⟨rfl, rfl⟩)
            go_ret
            refine ⟨?_, rfl⟩
            rw [Lx.uncomment, Lx.cutAt_hit s.data.toList k (by rw [← Lib.size_eq]; omega) HC.out HP.out]
            simp
          | false =>
            rw [hq] at hcall
            rw [hq] at HC
            clear hq
            go_wp2_with (go_at_call 32; refine (hcall _).mono ?_; rintro e w' ⟨rfl, rfl⟩)
            go_round
            case rel =>
              refine ⟨k + 1, by omega, by go_num, fun j hj => ?_⟩
              by_cases e : j = k
              · subst e; exact HC.out
              · exact HP.out j (by omega)
            case measure => simp [RowKit.intOf]; omega
      · have HC : Hid (Lx.isC s.data.toList k = false) := by
          show _ = _
          unfold Lx.isC; rw [hget]
          have : ¬ s[k] = 35 := fun e => h35 (e35.2 e)
          simp [this]
        have hb35 : ((s[k].toNat : Int) == 35) = false := by simpa using h35
        clear hget e35 h35
        go_wp2_with fail
        go_round
        case rel =>
          refine ⟨k + 1, by omega, by go_num, fun j hj => ?_⟩
          by_cases e : j = k
          · subst e; exact HC.out
          · exact HP.out j (by omega)
        case measure => simp [RowKit.intOf]; omega
    · obtain rfl : k = s.size := by omega
      go_wp2_with fail
      go_ret
      refine ⟨?_, rfl⟩
      rw [Lx.uncomment, Lx.cutAt_miss s.data.toList (fun j hj => HP.out j (by rw [Lib.size_eq]; exact hj)), ← Lib.size_eq, Lx.extract_all]
      rfl

theorem lx_grown_of_below {W W' : World} (hb : Below W.heap.size W W') : W.grownBy W' none :=
  ⟨hb.os, hb.tape, hb.output, hb.size, fun k hk _ => hb.block k hk⟩
theorem lx_owns_below {W W' : World} {B : Nat} {e : TypeId} {size : Nat} {v : Value} {n : Nat} {xs : List Value} (h : W.ownsRow B e size v n xs) (hb : Below W.heap.size W W') : W'.ownsRow B e size v n xs :=
  h.kept (lx_grown_of_below hb) (by cases hv : v.ownBlock <;> simp)

theorem lx_infoTok : (Tryd.prog.info? 41).map (fun i => (i.zero, i.size, i.bytes)) = some (some (.agg #[.int .i64 0, .string ByteArray.empty, .int .i64 0]), 3, 32) := by kernel_rfl

theorem lx_ret3 {v : Value} {a b c d : Int} (h1 : a = c) (h2 : b = d) : Ending.returned (.tuple #[v, .int .i64 a, .int .i64 b]) = .returned (.tuple #[v, .int .i64 c, .int .i64 d]) := by
  cases h1; cases h2; rfl

set_option maxRecDepth 100000 in
set_option maxHeartbeats 2000000 in
theorem lx_tokenize (s : ByteArray) (w : World) (m : Int) (kb ko kc : Nat) (hs : s.size ≤ 9223372036854775807) (h : LxEnv m kb ko kc w) :
    Calls Tryd.prog 16 #[.string s] w fun e w' => ∃ v, e = .returned (.tuple #[v, .int .i64 (Lx.tokenize s).2.1, .int .i64 (Lx.tokenize s).2.2]) ∧
      w'.ownsRow w.heap.size 41 3 v (Lx.tokenize s).1.length (Lx.tokCells (Lx.tokenize s).1) ∧ Below w.heap.size w w' := by
  by_cases h1024 : 1024 < s.size
  · have HC : Hid (Lx.tokenize s = ([], 1024, 5)) := by unfold Lx.tokenize; rw [if_pos h1024]; rfl
    clear h
    go_enter Tryd.func16, Tryd.ntmps16
    go_wp2
    go_step3
    go_wp2
    rw [Exit.noGoto_ret]
    go_ret3
    rw [HC.out]
    exact ⟨_, rfl, World.ownsRow_nil _ _ _ _, Below.refl _ _⟩
  · have hu := fun W => lx_uncomment s W hs
    have HT : Hid (Lx.tokenize s = Lx.tokAcc ((Lx.uncomment s).size + 1) (Lx.uncomment s) 0 []) := by unfold Lx.tokenize; rw [if_neg h1024]; rfl
    have hL : (Lx.uncomment s).size ≤ 1024 := by
      unfold Lx.uncomment
      rw [ByteArray.size_extract]; omega
    generalize Lx.uncomment s = L at *
    have H := Lib.hid h
    clear h
    obtain ⟨i0, hi, hz0, hz1, hz2⟩ := info_parts lx_infoTok
    go_enter Tryd.func16, Tryd.ntmps16
    go_wp2
    go_step3
    go_wp2_with (go_at_call 14; refine (hu _).mono ?_; rintro e w' ⟨rfl, rfl⟩)
    clear hu
    go_step3
    go_wp2
    go_loopw [5, 6] (fun v i wr => ∃ (acc : List Lx.Tok) (a f : Nat), a ≤ L.size ∧ i = .int .i64 a ∧ acc.length ≤ a ∧ L.size - a < f ∧ Below w.heap.size w wr ∧
      wr.ownsRow w.heap.size 41 3 v acc.length (Lx.tokCells acc) ∧ Hid (Lx.tokAcc f L a acc = Lx.tokAcc (L.size + 1) L 0 [])) (fun _ i _ => L.size - (RowKit.intOf i).toNat)
    case atStart => exact ⟨[], 0, L.size + 1, by omega, rfl, by simp, by omega, Below.refl _ _, World.ownsRow_nil _ _ _ _, rfl⟩
    case round =>
      obtain ⟨acc, a, f, ha, rfl, hacc, hf, hbel, hown, hacc2⟩ := hrel
      obtain ⟨f, rfl⟩ : ∃ g, f = g + 1 := ⟨f - 1, by omega⟩
      have h1 := fun W => lx_run _ _ lx_class_blank (L.extract a L.size) W (by rw [ByteArray.size_extract]; omega)
      have hskip := Lx.skip_le L a ha
      simp only [show Lx.run Lx.blank (L.extract a L.size).data.toList = Lx.skip L a from rfl] at h1
      have HA : Hid (Lx.tokAcc (L.size + 1) L 0 [] = if Lx.size L (a + Lx.skip L a) = 0 then (acc, 0, 0)
        else if (Lx.classify (L.extract (a + Lx.skip L a) (a + Lx.skip L a + Lx.size L (a + Lx.skip L a)))).2 = 0 then
          Lx.tokAcc f L (a + Lx.skip L a + Lx.size L (a + Lx.skip L a)) (acc ++ [((Lx.classify (L.extract (a + Lx.skip L a) (a + Lx.skip L a + Lx.size L (a + Lx.skip L a)))).1, L.extract (a + Lx.skip L a) (a + Lx.skip L a + Lx.size L (a + Lx.skip L a)), a + Lx.skip L a)])
        else ([], ((a + Lx.skip L a : Nat) : Int), (Lx.classify (L.extract (a + Lx.skip L a) (a + Lx.skip L a + Lx.size L (a + Lx.skip L a)))).2)) := hacc2.out.symm
      clear hacc2
      generalize Lx.skip L a = r1 at *
      have h2 := fun W => lx_run _ _ lx_class_notblank (L.extract (a + r1) L.size) W (by rw [ByteArray.size_extract]; omega)
      have hsize := Lx.size_le L (a + r1) hskip
      simp only [show Lx.run (fun c => !Lx.blank c) (L.extract (a + r1) L.size).data.toList = Lx.size L (a + r1) from rfl] at h2
      generalize Lx.size L (a + r1) = r2 at *
      by_cases hr2 : r2 = 0
      · have hb2 : ((r2 : Int) == 0) = true := by simpa using hr2
        have HR := Lib.hid hr2
        clear hr2
        go_wp2_with fail
        refine (h1 _).mono ?_
        rintro e w' ⟨rfl, rfl⟩
        go_wp2_with fail
        refine (h2 _).mono ?_
        rintro e w' ⟨rfl, rfl⟩
        go_wp2_with fail
        rw [Exit.noGoto_ret]
        go_ret3
        rw [HT.out, HA.out, if_pos HR.out]
        exact ⟨_, rfl, hown, hbel⟩
      · have hb2 : ((r2 : Int) == 0) = false := by simpa using hr2
        have hcl := fun W hW => lx_classify (L.extract (a + r1) (a + r1 + r2)) W m kb ko kc (by rw [ByteArray.size_extract]; omega) hW
        have HE := Lib.hid (H.out.below hbel)
        generalize hq : Lx.classify (L.extract (a + r1) (a + r1 + r2)) = q at *
        clear hq
        obtain ⟨kk, ee⟩ := q
        simp only at hcl HA
        by_cases hee : ee = 0
        · subst hee
          go_wp2_with fail
          refine (h1 _).mono ?_
          rintro e w' ⟨rfl, rfl⟩
          go_wp2_with fail
          refine (h2 _).mono ?_
          rintro e w' ⟨rfl, rfl⟩
          go_wp2_with fail
          refine (hcl _ HE.out).mono ?_
          rintro e w2 ⟨rfl, hb2'⟩
          have hown2 := lx_owns_below hown hb2'
          have hbel2 := hbel.trans (hb2'.mono hbel.size)
          go_wp2_with (at_builtin; refine wpList_append_own _ rfl _ _ 35 rfl w.heap.size 41 i0 _ 3 32 Tryd.underlying35 hi hz0 hz1 hz2 rfl (by decide) _ _ _ rfl (hown2.alloc _) ⟨w2.heap.size, 0, none⟩ 1 1 [.int .i64 kk, .string (L.extract (a + r1) (a + r1 + r2)), .int .i64 ((a : Int) + (r1 : Int))] rfl rfl ?c1 ?c2 ?c3 ?c4 ?c5 ?_)
          case c1 =>
            intro j u hj
            match j, hj with
            | 0, hj => simp at hj; subst hj; simp [Addr.add]
            | 1, hj => simp at hj; subst hj; simp [Addr.add]
            | 2, hj => simp at hj; subst hj; simp [Addr.add]
            | j + 3, hj => simp at hj
          case c2 => intro u hu; simp at hu; rcases hu with rfl | rfl | rfl <;> rfl
          case c3 => unfold maxLen; omega
          case c4 => omega
          case c5 => have := hbel2.size; simp; omega
          intro v' w3 hown3 hgrow3 _
          have hbel3 := (hbel2.alloc hbel2.size _).grown hgrow3 (by have := hbel2.size; simp; omega) (fun k hk => (hown2.lt k hk).1)
          clear hgrow3 hown2 hown hbel2 hb2'
          go_wp2_with fail
          go_roundw
          case rel =>
            refine ⟨acc ++ [(kk, L.extract (a + r1) (a + r1 + r2), a + r1)], a + r1 + r2, f, by omega, by go_num, by simp; omega, by omega, hbel3, ?_, ?_⟩
            · rw [Lx.tokCells_append, List.length_append]
              simpa [Lx.tokCells] using hown3
            · show _ = _
              rw [HA.out, if_neg (fun e => by subst e; simp at hb2), if_pos trivial]
          case measure => simp [RowKit.intOf]; omega
        · have hbe : (ee != 0) = true := by simpa using hee
          have HEE := Lib.hid hee
          clear hee
          go_wp2_with fail
          refine (h1 _).mono ?_
          rintro e w' ⟨rfl, rfl⟩
          go_wp2_with fail
          refine (h2 _).mono ?_
          rintro e w' ⟨rfl, rfl⟩
          go_wp2_with fail
          refine (hcl _ HE.out).mono ?_
          rintro e w2 ⟨rfl, hb2'⟩
          go_wp2_with fail
          rw [Exit.noGoto_ret]
          go_ret3
          rw [HT.out, HA.out, if_neg (fun e => by subst e; simp at hb2), if_neg HEE.out]
          exact ⟨_, lx_ret3 (by simp) rfl, World.ownsRow_nil _ _ _ _, hbel.trans (hb2'.mono hbel.size)⟩

end Go.Proofs.YtadhhknhfipihaaDoor
