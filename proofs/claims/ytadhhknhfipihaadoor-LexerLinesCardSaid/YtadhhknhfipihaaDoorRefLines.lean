/-
  THE REFERENCE's clean AND Lines (giroref17).
-/
import Derived.Test.YtadhhknhfipihaaDoorLexLines
import Derived.Deep.LoopGhost
namespace Go.Proofs.YtadhhknhfipihaaDoor
open Go.RowKit Go.Lib

set_option maxHeartbeats 400000 in
theorem rx_blank (c : Int) (w : World) :
    Calls Tryd.prog 33 #[.int .u8 c] w fun e w' => e = .returned (.bool (Lx.blank c)) ∧ w = w' := by
  go_enter Tryd.func33, Tryd.ntmps33
  go_wp2
  all_goals go_ret
  all_goals exact ⟨lx_ret (by first | (simp [Lx.blank]; done) | (simp [Lx.blank]; omega)), rfl⟩

def lxP (c : UInt8) : Bool := [32, 9].contains c
theorem lxP_eq (c : UInt8) : Lx.blank (c.toNat : Int) = lxP c := by
  have key : ∀ n : Fin 256, Lx.blank (n.val : Int) = lxP n.val.toUInt8 := by decide +kernel
  have h := key ⟨c.toNat, c.toNat_lt⟩
  simpa using h

theorem lx_drop_head (t : ByteArray) (h : 0 < t.size) (D : List UInt8) (hD : t.data.toList.dropWhile lxP = D) (hb : Lx.blank (t[0].toNat : Int) = true) : (t.extract 1 t.size).data.toList.dropWhile lxP = D := by
  obtain ⟨⟨l⟩⟩ := t
  cases l with
  | nil => simp [ByteArray.size] at h
  | cons c l =>
    have hb' : Lx.blank (c.toNat : Int) = true := hb
    rw [lxP_eq] at hb'
    simp only at hD
    rw [List.dropWhile_cons, if_pos hb'] at hD
    rw [Lib.extract_data]
    simp [ByteArray.size]
    exact hD
theorem lx_drop_stop (t : ByteArray) (D : List UInt8) (hD : t.data.toList.dropWhile lxP = D) (hb : (h : 0 < t.size) → Lx.blank (t[0].toNat : Int) = false) : t.data.toList = D := by
  obtain ⟨⟨l⟩⟩ := t
  cases l with
  | nil => simpa using hD
  | cons c l =>
    have hb' : Lx.blank (c.toNat : Int) = false := hb (by simp [ByteArray.size])
    rw [lxP_eq] at hb'
    simp only at hD
    rw [List.dropWhile_cons, if_neg (by rw [hb']; simp)] at hD
    exact hD
theorem lx_rdrop_snoc (l : List UInt8) (c : UInt8) : Lx.rdrop lxP (l ++ [c]) = if lxP c then Lx.rdrop lxP l else l ++ [c] := by
  unfold Lx.rdrop
  rw [List.reverse_append, List.reverse_singleton, List.singleton_append, List.dropWhile_cons]
  split <;> simp
theorem lx_last (t : ByteArray) (h : 0 < t.size) (hne : t.data.toList ≠ []) : t.data.toList.getLast hne = t[t.size - 1] := by
  obtain ⟨⟨l⟩⟩ := t
  exact List.getLast_eq_getElem hne
theorem lx_rdrop_last (t : ByteArray) (h : 0 < t.size) (D : List UInt8) (hD : Lx.rdrop lxP t.data.toList = D) (hb : Lx.blank (t[t.size - 1].toNat : Int) = true) : Lx.rdrop lxP (t.extract 0 (t.size - 1)).data.toList = D := by
  have hne : t.data.toList ≠ [] := by intro e; rw [Lib.size_eq, e] at h; simp at h
  have hl := List.dropLast_concat_getLast hne
  have e1 := lx_last t h hne
  rw [← hl, e1, lx_rdrop_snoc, if_pos (by rw [← lxP_eq]; exact hb)] at hD
  rw [Lib.extract_from_zero, Lib.size_eq, ← List.dropLast_eq_take]
  exact hD
theorem lx_rdrop_stop (t : ByteArray) (D : List UInt8) (hD : Lx.rdrop lxP t.data.toList = D) (hb : (h : 0 < t.size) → Lx.blank (t[t.size - 1].toNat : Int) = false) : t.data.toList = D := by
  by_cases h : 0 < t.size
  · have hne : t.data.toList ≠ [] := by intro e; rw [Lib.size_eq, e] at h; simp at h
    have hl := List.dropLast_concat_getLast hne
    have e1 := lx_last t h hne
    rw [← hl, e1, lx_rdrop_snoc, if_neg (by rw [← lxP_eq, hb h]; simp), ← e1, hl] at hD
    exact hD
  · have : t.data.toList = [] := by
      apply List.eq_nil_of_length_eq_zero
      rw [← Lib.size_eq]; omega
    rw [this] at hD ⊢
    exact hD

set_option maxRecDepth 100000 in
set_option maxHeartbeats 2000000 in
theorem rx_clean (s : ByteArray) (w : World) (hs : s.size ≤ 1073741824) :
    Calls Tryd.prog 15 #[.string s] w fun e w' => e = .returned (.string ⟨(Lx.clean s).toArray⟩) ∧ w = w' := by
  go_enter Tryd.func15, Tryd.ntmps15
  go_wp2_with fail
  go_loopg [0, 3] (s.size + 1) (fun gg v i wr => ∃ (t : ByteArray) (k : Nat), v = .string t ∧ i = .int .i64 k ∧ wr = w ∧ t.size ≤ 1073741824 ∧ t.size + 1 ≤ gg + k ∧
    Aside ((t = s ∧ k ≤ s.size ∧ ∀ j, j < k → Lx.isC s.data.toList j = false) ∨ (t = Lx.uncomment s ∧ k = t.size + 1)))
  case atStart => exact ⟨s, 0, rfl, rfl, rfl, hs, by omega, .inl ⟨rfl, Nat.zero_le _, fun j hj => by omega⟩⟩
  case round =>
    obtain ⟨t, k, rfl, rfl, rfl, ht, hg, hA⟩ := hrel
    by_cases hlt : k < t.size
    · have hA' : Aside (t = s ∧ ∀ j, j < k → Lx.isC s.data.toList j = false) := by
        rcases hA.out with ⟨h1, h2, h3⟩ | ⟨h1, h2⟩
        · exact ⟨h1, h3⟩
        · omega
      clear hA
      have hget : t.data.toList[k]? = some t[k] := by
        rw [Array.getElem?_toList]
        exact Array.getElem?_eq_getElem hlt
      have e35 : ((t[k].toNat : Int) = 35) ↔ t[k] = 35 := by
        rw [← UInt8.toNat_inj]
        show ((t[k].toNat : Int) = 35) ↔ (t[k].toNat = 35)
        omega
      have hsame : Aside (∀ b, Lx.isC t.data.toList k = b → Lx.isC s.data.toList k = b) := fun b hb => by rw [← hA'.out.1]; exact hb
      by_cases h35 : (t[k].toNat : Int) = 35
      · by_cases h0 : k = 0
        · subst h0
          have HC : Aside (Lx.isC t.data.toList 0 = true) := by show _ = _; unfold Lx.isC; rw [hget, e35.1 h35]; rfl
          have hb35 : ((t[0].toNat : Int) == 35) = true := by simpa using h35
          clear hget e35 h35
          go_wp2_with fail
          go_roundg 0
          case measure => omega
          case rel =>
            have hcut := Lx.cutAt_hit s.data.toList 0 (by rw [← Lib.size_eq, ← hA'.out.1]; omega) (hsame.out _ HC.out) (fun j hj => by omega)
            refine ⟨ByteArray.empty, 1, rfl, by go_num, rfl, by simp, by simp, .inr ⟨?_, by simp⟩⟩
            rw [Lx.uncomment, hcut]; simp [ByteArray.extract_same]
        · have hk1 : k - 1 < t.size := by omega
          have hget1 : t.data.toList[k - 1]? = some t[k - 1] := by
            rw [Array.getElem?_toList]
            exact Array.getElem?_eq_getElem hk1
          have HC : Aside (Lx.isC t.data.toList k = Lx.blank (t[k - 1].toNat : Int)) := by
            show _ = _
            unfold Lx.isC; rw [hget, hget1, e35.1 h35]
            have : (k == 0) = false := by simpa using h0
            simp [this]
          have hb35 : ((t[k].toNat : Int) == 35) = true := by simpa using h35
          have hb0 : ((k : Int) == 0) = false := by simpa using h0
          have hcall := fun W => rx_blank (t[k - 1].toNat : Int) W
          have hkpos : 1 ≤ k := by omega
          clear hget hget1 e35 h35 h0
          cases hq : Lx.blank (t[k - 1].toNat : Int) with
          | true =>
            rw [hq] at hcall
            rw [hq] at HC
            clear hq
            go_wp2_with (go_at_call 33; refine (hcall _).mono ?_; rintro e w' ⟨rfl, rfl⟩)
            go_roundg 0
            case measure => omega
            case rel =>
              have hcut := Lx.cutAt_hit s.data.toList k (by rw [← Lib.size_eq, ← hA'.out.1]; omega) (hsame.out _ HC.out) hA'.out.2
              refine ⟨t.extract 0 k, k + 1, rfl, by go_num, rfl, by rw [ByteArray.size_extract]; omega, by rw [ByteArray.size_extract]; omega, .inr ⟨?_, by rw [ByteArray.size_extract]; omega⟩⟩
              rw [Lx.uncomment, hcut, hA'.out.1]
          | false =>
            rw [hq] at hcall
            rw [hq] at HC
            clear hq
            go_wp2_with (go_at_call 33; refine (hcall _).mono ?_; rintro e w' ⟨rfl, rfl⟩)
            go_roundg (gk - 1)
            case measure => omega
            case rel =>
              refine ⟨t, k + 1, rfl, by go_num, rfl, by omega, by omega, .inl ⟨hA'.out.1, by rw [← hA'.out.1]; omega, fun j hj => ?_⟩⟩
              by_cases e : j = k
              · subst e; exact hsame.out _ HC.out
              · exact hA'.out.2 j (by omega)
      · have HC : Aside (Lx.isC t.data.toList k = false) := by
          show _ = _
          unfold Lx.isC; rw [hget]
          have : ¬ t[k] = 35 := fun e => h35 (e35.2 e)
          simp [this]
        have hb35 : ((t[k].toNat : Int) == 35) = false := by simpa using h35
        clear hget e35 h35
        go_wp2_with fail
        go_roundg (gk - 1)
        case measure => omega
        case rel =>
          refine ⟨t, k + 1, rfl, by go_num, rfl, by omega, by omega, .inl ⟨hA'.out.1, by rw [← hA'.out.1]; omega, fun j hj => ?_⟩⟩
          by_cases e : j = k
          · subst e; exact hsame.out _ HC.out
          · exact hA'.out.2 j (by omega)
    · have hU : Aside (t = Lx.uncomment s) := by
        rcases hA.out with ⟨h1, h2, h3⟩ | ⟨h1, h2⟩
        · obtain rfl : k = s.size := by rw [h1] at hlt; omega
          show _ = _
          rw [Lx.uncomment, Lx.cutAt_miss s.data.toList (fun j hj => h3 j (by rw [Lib.size_eq]; exact hj)), ← Lib.size_eq, Lx.extract_all]
          exact h1
        · exact h1
      clear hA
      go_wp2_with fail
      go_loopg [0] t.size (fun gg v wr' => ∃ (u : ByteArray), v = .string u ∧ wr' = wr ∧ u.size ≤ 1073741824 ∧ u.size ≤ gg ∧
        Aside (u.data.toList.dropWhile lxP = t.data.toList.dropWhile lxP))
      case atStart => exact ⟨t, rfl, rfl, ht, Nat.le_refl _, rfl⟩
      case round =>
        obtain ⟨u, rfl, rfl, hu, hgu, hD⟩ := hrel
        by_cases hpos : 0 < u.size
        · have hcall := fun W => rx_blank (u[0].toNat : Int) W
          cases hq : Lx.blank (u[0].toNat : Int) with
          | true =>
            rw [hq] at hcall
            have hq' : Aside (Lx.blank (u[0].toNat : Int) = true) := hq
            clear hq
            go_wp2_with (go_at_call 33; refine (hcall _).mono ?_; rintro e w' ⟨rfl, rfl⟩)
            go_roundg (gk - 1)
            case measure => omega
            case rel => exact ⟨u.extract 1 u.size, rfl, rfl, by rw [ByteArray.size_extract]; omega, by rw [ByteArray.size_extract]; omega, lx_drop_head u hpos _ hD.out hq'.out⟩
          | false =>
            rw [hq] at hcall
            have hL : Aside (u.data.toList = t.data.toList.dropWhile lxP) := lx_drop_stop u _ hD.out (fun _ => hq)
            clear hq
            go_wp2_with (go_at_call 33; refine (hcall _).mono ?_; rintro e w' ⟨rfl, rfl⟩)
            go_loopg [0] u.size (fun gg v wr' => ∃ (x : ByteArray), v = .string x ∧ wr' = wr ∧ x.size ≤ 1073741824 ∧ x.size ≤ gg ∧
              Aside (Lx.rdrop lxP x.data.toList = Lx.rdrop lxP u.data.toList))
            case atStart => exact ⟨u, rfl, rfl, hu, Nat.le_refl _, rfl⟩
            case round =>
              obtain ⟨x, rfl, rfl, hx, hgx, hR⟩ := hrel
              have HF : Aside (∀ l, l = Lx.rdrop lxP u.data.toList → l = Lx.clean s) := fun l hl => by
                rw [hl, Lx.clean_eq, hL.out, hU.out]; rfl
              by_cases hpos3 : 0 < x.size
              · have hcall3 := fun W => rx_blank (x[x.size - 1].toNat : Int) W
                cases hq3 : Lx.blank (x[x.size - 1].toNat : Int) with
                | true =>
                  rw [hq3] at hcall3
                  have hq' : Aside (Lx.blank (x[x.size - 1].toNat : Int) = true) := hq3
                  clear hq3
                  go_wp2_with (go_at_call 33; refine (hcall3 _).mono ?_; rintro e w' ⟨rfl, rfl⟩)
                  go_roundg (gk - 1)
                  case measure => omega
                  case rel => exact ⟨x.extract 0 (x.size - 1), rfl, rfl, by rw [ByteArray.size_extract]; omega, by rw [ByteArray.size_extract]; omega, lx_rdrop_last x hpos3 _ hR.out hq'.out⟩
                | false =>
                  rw [hq3] at hcall3
                  have hS : Aside (x.data.toList = Lx.clean s) := HF.out _ (lx_rdrop_stop x _ hR.out (fun _ => hq3))
                  clear hq3
                  go_wp2_with (go_at_call 33; refine (hcall3 _).mono ?_; rintro e w' ⟨rfl, rfl⟩)
                  go_ret
                  refine ⟨?_, rfl⟩
                  rw [← hS.out, Lib.mk_data]
                  rfl
              · have hS : Aside (x.data.toList = Lx.clean s) := HF.out _ (lx_rdrop_stop x _ hR.out (fun h => absurd h hpos3))
                go_wp2_with fail
                go_ret
                refine ⟨?_, rfl⟩
                rw [← hS.out, Lib.mk_data]
                rfl
        · have hL : Aside (u.data.toList = t.data.toList.dropWhile lxP) := lx_drop_stop u _ hD.out (fun h => absurd h hpos)
          go_wp2_with fail
          go_loopg [0] u.size (fun gg v wr' => ∃ (x : ByteArray), v = .string x ∧ wr' = wr ∧ x.size ≤ 1073741824 ∧ x.size ≤ gg ∧
            Aside (Lx.rdrop lxP x.data.toList = Lx.rdrop lxP u.data.toList))
          case atStart => exact ⟨u, rfl, rfl, hu, Nat.le_refl _, rfl⟩
          case round =>
            obtain ⟨x, rfl, rfl, hx, hgx, hR⟩ := hrel
            have HF : Aside (∀ l, l = Lx.rdrop lxP u.data.toList → l = Lx.clean s) := fun l hl => by
              rw [hl, Lx.clean_eq, hL.out, hU.out]; rfl
            by_cases hpos3 : 0 < x.size
            · have hcall3 := fun W => rx_blank (x[x.size - 1].toNat : Int) W
              cases hq3 : Lx.blank (x[x.size - 1].toNat : Int) with
              | true =>
                rw [hq3] at hcall3
                have hq' : Aside (Lx.blank (x[x.size - 1].toNat : Int) = true) := hq3
                clear hq3
                go_wp2_with (go_at_call 33; refine (hcall3 _).mono ?_; rintro e w' ⟨rfl, rfl⟩)
                go_roundg (gk - 1)
                case measure => omega
                case rel => exact ⟨x.extract 0 (x.size - 1), rfl, rfl, by rw [ByteArray.size_extract]; omega, by rw [ByteArray.size_extract]; omega, lx_rdrop_last x hpos3 _ hR.out hq'.out⟩
              | false =>
                rw [hq3] at hcall3
                have hS : Aside (x.data.toList = Lx.clean s) := HF.out _ (lx_rdrop_stop x _ hR.out (fun _ => hq3))
                clear hq3
                go_wp2_with (go_at_call 33; refine (hcall3 _).mono ?_; rintro e w' ⟨rfl, rfl⟩)
                go_ret
                refine ⟨?_, rfl⟩
                rw [← hS.out, Lib.mk_data]
                rfl
            · have hS : Aside (x.data.toList = Lx.clean s) := HF.out _ (lx_rdrop_stop x _ hR.out (fun h => absurd h hpos3))
              go_wp2_with fail
              go_ret
              refine ⟨?_, rfl⟩
              rw [← hS.out, Lib.mk_data]
              rfl

end Go.Proofs.YtadhhknhfipihaaDoor
