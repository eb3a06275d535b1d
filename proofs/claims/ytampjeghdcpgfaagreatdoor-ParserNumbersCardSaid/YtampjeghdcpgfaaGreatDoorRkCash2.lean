/-
  The reference's Cash and Number: what the parser's functions say.
-/
import Derived.Test.YtampjeghdcpgfaaGreatDoorRkCash
import Derived.Test.YtampjeghdcpgfaaGreatDoorPsAmX
import Derived.Lib.ParseIntBTie
namespace Go.Proofs.YtampjeghdcpgfaaGreatDoor
open Go.RowKit

set_option maxRecDepth 100000 in
set_option maxHeartbeats 400000 in
theorem rk_cashBad (s : ByteArray) (w : World) (k e : Int) (hke : (e != 0) = true ∨ ((e != 0) = false ∧ (k != 3) = true))
    (m1 : Calls Tryz.prog 45 #[.string s] w fun x w' => x = .returned (.tuple #[.int .i64 k, .int .i64 e]) ∧ w = w') :
    Calls Tryz.prog 17 #[.string s] w fun x w' => x = .returned (.tuple #[.int .i64 0, .int .i64 30]) ∧ w = w' := by
  rcases hke with h | ⟨h, h2⟩
  all_goals
    go_enter Tryz.func17, Tryz.ntmps17
    go_wp2_with (go_at_call 45; refine m1.mono ?_; rintro x w1 ⟨rfl, rfl⟩)
    go_ret2
    exact ⟨rfl, rfl⟩
set_option maxRecDepth 100000 in
set_option maxHeartbeats 400000 in
theorem rk_cashL (s : ByteArray) (w : World) (v e : Int) (R : Int × Int) (hway : ((e != 0) = true ∧ R = (0, 2)) ∨ ((e != 0) = false ∧ decide (v < 1) = true ∧ R = (0, 2)) ∨ ((e != 0) = false ∧ decide (v < 1) = false ∧ R = (v, 0)))
    (m1 : Calls Tryz.prog 45 #[.string s] w fun x w' => x = .returned (.tuple #[.int .i64 3, .int .i64 0]) ∧ w = w')
    (m2 : Calls Tryz.prog 46 #[.string s] w fun x w' => x = .returned (.tuple #[.int .i64 v, .int .i64 e]) ∧ w = w') :
    Calls Tryz.prog 17 #[.string s] w fun x w' => x = .returned (.tuple #[.int .i64 R.1, .int .i64 R.2]) ∧ w = w' := by
  rcases hway with ⟨h, rfl⟩ | ⟨h, h2, rfl⟩ | ⟨h, h2, rfl⟩
  all_goals
    go_enter Tryz.func17, Tryz.ntmps17
    go_wp2_with (first | (go_at_call 45; refine m1.mono ?_; rintro x w1 ⟨rfl, rfl⟩) | (go_at_call 46; refine m2.mono ?_; rintro x w1 ⟨rfl, rfl⟩))
    go_ret2
    exact ⟨rfl, rfl⟩

theorem digs_of {l : List UInt8} (h : ∀ c ∈ l, Lx.digit (c.toNat : Int) = true) : Ps.digs l := fun c hc => by
  have := h c hc
  unfold Lx.digit at this
  simp at this
  omega
/-- the digits of an amount -/
def dg (t : ByteArray) (i : Nat) : List UInt8 := (tk t i).filter (· != 46)

/-- the parts of a decimal -/
theorem dec_parts (s : ByteArray) (h : Lx.rdecimal s.data.toList = true) : ∃ (t : ByteArray) (p : List UInt8) (x y : UInt8), t.data.toList = Lx.unsign s.data.toList ∧ t.data.toList = p ++ [46, x, y] ∧ Lx.whole p = true ∧ Lx.digit (x.toNat : Int) = true ∧ Lx.digit (y.toNat : Int) = true ∧ ¬ s.data.toList = [45, 48, 46, 48, 48] := by
  unfold Lx.rdecimal at h
  rw [Bool.and_eq_true] at h
  obtain ⟨h1, h2⟩ := h
  rw [← Lx.dec_eq] at h2
  refine ⟨⟨(Lx.unsign s.data.toList).toArray⟩, ?_⟩
  by_cases hm : (46 : UInt8) ∈ Lx.unsign s.data.toList
  · obtain ⟨p, r, he, hp⟩ := List.eq_append_cons_of_mem hm
    rw [he, Lx.cut_hit p r hp] at h2
    simp only [Bool.and_eq_true, decide_eq_true_eq, Bool.true_and] at h2
    obtain ⟨⟨a1, a2⟩, a3⟩ := h2
    obtain ⟨x, y, rfl⟩ := Lx.list2 r a2
    unfold Lx.all at a3
    simp at a3
    exact ⟨p, x, y, rfl, he, a1, a3.1, a3.2, by simpa using h1⟩
  · unfold Lib.cut at h2
    rw [Lx.index_miss 46 _ hm] at h2
    simp at h2

theorem classify3 {s : ByteArray} (h : Lx.classify s = (3, 0)) : Lx.rdecimal s.data.toList = true ∧ s.size ≤ 32 := by
  refine ⟨by rw [← Lx.decimal_eq]; exact classify_decimal h, ?_⟩
  unfold Lx.classify at h
  split at h
  · cases h
  · omega
theorem classify2 {s : ByteArray} (h : Lx.classify s = (2, 0)) : Lx.whole s.data.toList = true ∧ s.size ≤ 16 := by
  unfold Lx.classify at h
  split at h
  · cases h
  · split at h
    · cases h
    · split at h
      · rename_i hw
        simpa using hw
      · split at h
        · cases h
        · split at h
          · cases h
          · split at h <;> cases h

theorem rk_number (s : ByteArray) (w : World) (h1 : s.size ≤ 1000000) :
    Calls Tryz.prog 19 #[.string s] w fun x w' => x = .returned (.tuple #[.int .i64 (qtyOf s).1, .int .i64 (qtyOf s).2]) ∧ w = w' := by
  have m1 := rk_kind s w h1
  unfold qtyOf
  by_cases hk : Lx.classify s = (2, 0)
  · rw [if_pos hk]
    rw [hk] at m1
    obtain ⟨hw, hs⟩ := classify2 hk
    have hd := digs_of (Lx.whole_digits hw)
    refine rk_numberL s w hs (Lib.hid hd) _ (Lib.hid ?_) m1
    have hne : s.data.toList ≠ [] := by
      intro h0
      rw [h0] at hw
      simp [Lx.whole, Lx.all] at hw
    obtain ⟨p1, p2⟩ := Ps.pI s.data.toList hd hne
    by_cases hn : Ps.numA 0 s.data.toList ≤ 1000000000000000
    · rw [p1 hn]
      show bndI _ = _
      unfold bndI Ps.canon
      by_cases h0 : 1 ≤ Ps.numA 0 s.data.toList
      · rw [if_neg (by omega), if_pos ⟨h0, hn⟩]
      · rw [if_pos (by omega), if_neg (by omega)]
    · have hc : Ps.canon (Ps.numA 0 s.data.toList) = (0, 2) := by unfold Ps.canon; rw [if_neg (by omega)]
      rw [hc]
      rcases hp : Lib.parseIntB 64 s.data.toList with v | _ | _
      · have := p2 v hp
        show bndI v = _
        unfold bndI
        rw [if_pos (by omega)]
      · rfl
      · rfl
  · rw [if_neg hk]
    refine rk_numberBad s w _ _ ?_ m1
    by_cases he : (Lx.classify s).2 = 0
    · right
      refine ⟨by simp [he], ?_⟩
      rw [bne_iff_ne]
      intro hk2
      apply hk
      rw [← hk2, ← he]
    · left; simp [he]

theorem bt_at (t : ByteArray) (l : List UInt8) (i : Nat) (c : UInt8) (ht : t.data.toList = l) (h : l[i]? = some c) : PlainAid.bt t i = (c.toNat : Int) := by
  rw [← rk_at, ht]
  unfold Lx.at_
  rw [List.getD_eq_getElem?_getD, h]
  rfl
theorem dg_digs (t : ByteArray) (p : List UInt8) (x y : UInt8) (ht : t.data.toList = p ++ [46, x, y]) (hp : Ps.digs p) (hx : 48 ≤ x.toNat ∧ x.toNat ≤ 57) (hy : 48 ≤ y.toNat ∧ y.toNat ≤ 57) (i : Nat) : Ps.digs (dg t i) := fun c hc => by
  unfold dg tk at hc
  obtain ⟨h1, h2⟩ := List.mem_filter.1 hc
  have h3 := List.mem_of_mem_take h1
  rw [ht] at h3
  rcases List.mem_append.1 h3 with h | h
  · exact hp c h
  · simp only [List.mem_cons, List.mem_nil_iff, or_false] at h
    rcases h with rfl | rfl | rfl
    · simp at h2
    · exact hx
    · exact hy
theorem dig_ne46 {c : UInt8} (h : 48 ≤ c.toNat ∧ c.toNat ≤ 57) : (c != 46) = true := by
  rw [bne_iff_ne]
  rintro rfl
  revert h
  decide
theorem filter_digs {p : List UInt8} (h : Ps.digs p) : p.filter (· != 46) = p := List.filter_eq_self.2 fun c hc => dig_ne46 (h c hc)

theorem rk_cash (s : ByteArray) (w : World) (h1 : s.size ≤ 1000000) :
    Calls Tryz.prog 17 #[.string s] w fun x w' => x = .returned (.tuple #[.int .i64 (amtOf amtP s).1, .int .i64 (amtOf amtP s).2]) ∧ w = w' := by
  have m1 := rk_kind s w h1
  unfold amtOf
  by_cases hk : Lx.classify s = (3, 0)
  · rw [if_pos hk]
    rw [hk] at m1
    obtain ⟨hdec, hs⟩ := classify3 hk
    obtain ⟨t, p, x, y, hu, ht, hw, hx, hy, hzz⟩ := dec_parts s hdec
    have hpd := digs_of (Lx.whole_digits hw)
    have hxd : 48 ≤ x.toNat ∧ x.toNat ≤ 57 := by unfold Lx.digit at hx; simp at hx; omega
    have hyd : 48 ≤ y.toNat ∧ y.toNat ≤ 57 := by unfold Lx.digit at hy; simp at hy; omega
    have hl : s.data.toList.length = s.size := by obtain ⟨⟨l⟩⟩ := s; rfl
    have htl : t.data.toList.length = t.size := by obtain ⟨⟨l⟩⟩ := t; rfl
    have htz : t.size = p.length + 3 := by rw [← htl, ht]; simp
    have hp1 : 1 ≤ p.length := by
      cases p with
      | nil => simp [Lx.whole, Lx.all] at hw
      | cons _ _ => simp
    have hts : t.size ≤ s.size := by
      rw [← htl, hu, ← hl]
      unfold Lx.unsign
      split
      · rw [List.length_drop]; omega
      · exact Nat.le_refl _
    obtain ⟨D, hD⟩ : ∃ D, D = p ++ [x, y] := ⟨_, rfl⟩
    have hDd : Ps.digs D := fun c hc => by
      rw [hD] at hc
      rcases List.mem_append.1 hc with h | h
      · exact hpd c h
      · simp only [List.mem_cons, List.mem_nil_iff, or_false] at h
        rcases h with rfl | rfl
        · exact hxd
        · exact hyd
    have hdgn : dg t t.size = D := by
      unfold dg
      rw [tk_all, ht, hD, List.filter_append, filter_digs hpd]
      simp [dig_ne46 hxd, dig_ne46 hyd]
    -- the sign
    obtain ⟨ng, hng⟩ : ∃ ng : Bool, ng = Lib.hasPrefix s.data.toList [45] := ⟨_, rfl⟩
    have hhd : ng = true ↔ s.data.toList.head? = some 45 := by
      rw [hng]
      unfold Lib.hasPrefix
      cases s.data.toList with
      | nil => simp [List.isPrefixOf]
      | cons c l =>
        simp only [List.isPrefixOf, Bool.and_true, beq_iff_eq, List.head?_cons, Option.some.injEq]
        exact eq_comm
    have hext : (ng = true → 0 < s.size ∧ s.extract 1 s.size = t) ∧ (ng = false → t = s) := by
      constructor
      · intro h
        have h2 := hhd.1 h
        refine ⟨?_, ?_⟩
        · cases hc : s.data.toList with
          | nil => rw [hc] at h2; cases h2
          | cons c l => rw [← hl, hc]; simp
        · rw [rk_extract]
          unfold Lx.unsign at hu
          rw [if_pos h2] at hu
          rw [← hu]
      · intro h
        have h2 : ¬ s.data.toList.head? = some 45 := fun hh => by rw [hhd.2 hh] at h; cases h
        unfold Lx.unsign at hu
        rw [if_neg h2] at hu
        obtain ⟨⟨a⟩⟩ := t
        obtain ⟨⟨b⟩⟩ := s
        have : a = b := hu
        rw [this]
    have hg : (ng = true ∧ decide (0 < s.size) = true ∧ 0 < s.size ∧ (PlainAid.bt s 0 == 45) = true) ∨ (ng = false ∧ (decide (0 < s.size) = false ∨ decide (0 < s.size) = true ∧ 0 < s.size ∧ (PlainAid.bt s 0 == 45) = false)) := by
      have hs0 : 0 < s.size := by omega
      obtain ⟨c, l, hc⟩ : ∃ c l, s.data.toList = c :: l := by
        cases hc : s.data.toList with
        | nil => rw [hc] at hl; simp at hl; omega
        | cons c l => exact ⟨c, l, rfl⟩
      have hb := bt_at s _ 0 c hc (by simp)
      have hcc : ng = true ↔ c = 45 := by rw [hhd, hc]; simp
      cases ng with
      | true =>
        left
        refine ⟨rfl, by simp [hs0], hs0, ?_⟩
        rw [hb, hcc.1 rfl]; rfl
      | false =>
        right
        refine ⟨rfl, .inr ⟨by simp [hs0], hs0, ?_⟩⟩
        rw [hb, beq_eq_false_iff_ne]
        intro hx
        have : c = 45 := by
          apply UInt8.toNat_inj.1
          show c.toNat = 45
          omega
        have := hcc.2 this
        cases this
    obtain ⟨R, hR⟩ : ∃ R, R = chkA (if ng = true then 0 - (Ps.satA 0 D : Int) else (Ps.satA 0 D : Int)) := ⟨_, rfl⟩
    have hdot : PlainAid.bt t p.length = 46 := bt_at t _ _ 46 ht (by rw [List.getElem?_append_right (Nat.le_refl _), Nat.sub_self]; rfl)
    have hstep : ∀ i, i < t.size → i ≠ p.length → ∃ c : UInt8, (48 ≤ c.toNat ∧ c.toNat ≤ 57) ∧ PlainAid.bt t i = (c.toNat : Int) ∧ dg t (i + 1) = dg t i ++ [c] := fun i hi him => by
      obtain ⟨c, e1, e2, e3⟩ := tk_succ t i hi
      have hc : 48 ≤ c.toNat ∧ c.toNat ≤ 57 := by
        obtain ⟨c', hc'⟩ : ∃ c', (p ++ [46, x, y])[i]? = some c' := ⟨_, List.getElem?_eq_getElem (by rw [← ht, htl]; exact hi)⟩
        have hb := bt_at t _ i c' ht hc'
        have hcc : c = c' := by
          apply UInt8.toNat_inj.1
          rw [e2] at hb
          omega
        subst hcc
        by_cases hip : i < p.length
        · rw [List.getElem?_append_left hip] at hc'
          exact hpd c (List.mem_of_getElem? hc')
        · rw [List.getElem?_append_right (by omega)] at hc'
          obtain ⟨q, hq⟩ : ∃ q, i - p.length = q + 1 := ⟨i - p.length - 1, by omega⟩
          rw [hq] at hc'
          match q, hc' with
          | 0, hc' => cases hc'; exact hxd
          | 1, hc' => cases hc'; exact hyd
          | q + 2, hc' => simp at hc'
      refine ⟨c, hc, e2, ?_⟩
      unfold dg
      rw [e1, List.filter_append]
      simp [dig_ne46 hc]
    have hdm : dg t (p.length + 1) = dg t p.length := by
      obtain ⟨c, e1, e2, e3⟩ := tk_succ t p.length (by omega)
      have : c = 46 := by
        apply UInt8.toNat_inj.1
        show c.toNat = 46
        omega
      unfold dg
      rw [e1, List.filter_append, this]
      simp
    have m2 := rk_amL s t w (by omega) p.length (by omega) (Lib.hid htz) hp1 (by omega) ng hg (Lib.hid hext) (by rw [hdot]; rfl) ?hz0 (fun i => (Ps.satA 0 (dg t i) : Int)) (fun i => (dg t i).all (· == 48)) rfl rfl (Lib.hid ⟨by simp only [hdm], by simp only [hdm]⟩)
      (Lib.hid fun i hi him => ?step) (Lib.hid fun i hi => ?bnd) (Lib.hid fun hz => ?zn) R (Lib.hid (by rw [hR]; simp only [hdgn]))
    case hz0 =>
      by_cases h48 : PlainAid.bt t 0 = 48
      · right
        refine ⟨by simp [h48], decide_eq_false ?_⟩
        cases hpc : p with
        | nil => rw [hpc] at hp1; simp at hp1
        | cons c q =>
          have hb := bt_at t _ 0 c ht (by rw [hpc]; rfl)
          have hc48 : c = 48 := by
            apply UInt8.toNat_inj.1
            show c.toNat = 48
            omega
          unfold Lx.whole at hw
          rw [hpc, hc48] at hw
          simp at hw
          have hq : q = [] := List.eq_nil_of_length_eq_zero (by simpa using hw.2)
          rw [hpc, hq] at htz
          simp at htz
          omega
      · left; simp [h48]
    case step =>
      obtain ⟨c, hc, e1, e2⟩ := hstep i hi him
      refine ⟨by omega, by omega, ?_, ?_⟩
      · show (Ps.satA 0 (dg t (i + 1)) : Int) = _
        rw [e2, Ps.satA_snoc, e1]
        by_cases hb : Ps.satA 0 (dg t i) ≤ 1000000000000000
        · rw [if_pos hb, if_pos (by omega)]; omega
        · rw [if_neg hb, if_neg (by omega)]
      · show (dg t (i + 1)).all (· == 48) = _
        rw [e2, List.all_append, e1]
        congr 1
        simp only [List.all_cons, List.all_nil, Bool.and_true]
        rw [Bool.eq_iff_iff, beq_iff_eq, beq_iff_eq]
        constructor
        · rintro rfl; rfl
        · intro h
          apply UInt8.toNat_inj.1
          show c.toNat = 48
          omega
    case bnd =>
      have := Ps.satA_le 10000000000000009 (Nat.le_refl _) (dg t i) 0 (dg_digs t p x y ht hpd hxd hyd i) (by omega)
      omega
    case zn =>
      have hz : (dg t t.size).all (· == 48) = true := hz
      rw [hdgn, hD, List.all_append, Bool.and_eq_true] at hz
      cases hngc : ng with
      | false => rfl
      | true =>
        exfalso
        have hs2 := hhd.1 hngc
        apply hzz
        have hp48 : p = [48] := by
          cases hpc : p with
          | nil => rw [hpc] at hp1; simp at hp1
          | cons c q =>
            rw [hpc] at hz
            simp at hz
            unfold Lx.whole at hw
            rw [hpc, hz.1.1] at hw
            simp at hw
            have hq : q = [] := List.eq_nil_of_length_eq_zero (by simpa using hw.2)
            rw [hz.1.1, hq]
        have hxy : x = 48 ∧ y = 48 := by simpa using hz.2
        have h2 : Lx.unsign s.data.toList = [48, 46, 48, 48] := by rw [← hu, ht, hp48, hxy.1, hxy.2]; rfl
        unfold Lx.unsign at h2
        rw [if_pos hs2] at h2
        cases hc : s.data.toList with
        | nil => rw [hc] at hs2; cases hs2
        | cons c l =>
          rw [hc] at hs2 h2
          obtain rfl : c = 45 := by simpa using hs2
          have : l = [48, 46, 48, 48] := by simpa using h2
          rw [this]
    -- what Parse of amounts says
    have hcut : Lib.cut (Lib.trimPrefix s.data.toList [45]) [46] = (p, [x, y], true) := by
      rw [Lx.trim_eq, ← hu, ht]
      exact Lx.cut_hit p [x, y] fun h => by have := dig_ne46 (hpd 46 h); simp at this
    have hDne : D ≠ [] := by rw [hD]; simp
    obtain ⟨p1, p2⟩ := Ps.pI D hDd hDne
    have hamt : amtP s = match Lib.parseIntB 64 D with | .ok v => bndA (if ng = true then wrap64 (-v) else v) | _ => (0, 12) := by
      unfold amtP
      rw [hcut, ← hD, ← hng]
      cases Lib.parseIntB 64 D <;> rfl
    have hcan := Ps.canon_sat D
    have hgoal : (if (amtP s).2 = 0 then bndI (amtP s).1 else (0, 2)) = if ng = true then (0, 2) else Ps.canon (Ps.numA 0 D) := by
      rw [hamt]
      rcases hp : Lib.parseIntB 64 D with v | _ | _
      · have hv := p2 v hp
        have hvb := Lib.parseIntB_bounds hp
        simp only
        cases ng with
        | true =>
          have hwv : wrap64 (-v) = -v := by unfold wrap64; omega
          simp only [if_true, hwv]
          unfold bndA
          by_cases hb : -1000000000000000 ≤ -v ∧ -v ≤ 1000000000000000
          · simp only [if_pos hb, if_true]
            unfold bndI
            rw [if_pos (by omega)]
          · simp only [if_neg hb]
            rfl
        | false =>
          simp only [Bool.false_eq_true, if_false]
          unfold bndA Ps.canon
          by_cases hb : -1000000000000000 ≤ v ∧ v ≤ 1000000000000000
          · simp only [if_pos hb, if_true]
            unfold bndI
            by_cases h0 : v < 1
            · rw [if_pos (by omega), if_neg (by omega)]
            · rw [if_neg (by omega), if_pos (by omega), hv]
          · simp only [if_neg hb]
            rw [if_neg (c := 1 ≤ Ps.numA 0 D ∧ Ps.numA 0 D ≤ 1000000000000000) (by omega)]
            rfl
      · have : ¬ Ps.numA 0 D ≤ 1000000000000000 := fun h => by rw [p1 h] at hp; cases hp
        have hc : Ps.canon (Ps.numA 0 D) = (0, 2) := by unfold Ps.canon; rw [if_neg (by omega)]
        rw [hc]
        simp
      · have : ¬ Ps.numA 0 D ≤ 1000000000000000 := fun h => by rw [p1 h] at hp; cases hp
        have hc : Ps.canon (Ps.numA 0 D) = (0, 2) := by unfold Ps.canon; rw [if_neg (by omega)]
        rw [hc]
        simp
    rw [hgoal]
    refine rk_cashL s w R.1 R.2 _ ?_ m1 m2
    rw [← hcan]
    rw [hR]
    unfold chkA Ps.canon
    cases ng with
    | true =>
      simp only [if_true]
      by_cases hb : -1000000000000000 ≤ 0 - (Ps.satA 0 D : Int) ∧ 0 - (Ps.satA 0 D : Int) ≤ 1000000000000000
      · simp only [if_pos hb]
        exact .inr (.inl ⟨rfl, decide_eq_true (by omega), trivial⟩)
      · simp only [if_neg hb]
        exact .inl ⟨rfl, trivial⟩
    | false =>
      simp only [Bool.false_eq_true, if_false]
      by_cases hb : -1000000000000000 ≤ (Ps.satA 0 D : Int) ∧ (Ps.satA 0 D : Int) ≤ 1000000000000000
      · simp only [if_pos hb]
        by_cases h0 : (Ps.satA 0 D : Int) < 1
        · exact .inr (.inl ⟨rfl, decide_eq_true h0, by rw [if_neg (by omega)]⟩)
        · exact .inr (.inr ⟨rfl, decide_eq_false h0, by rw [if_pos (by omega)]⟩)
      · simp only [if_neg hb]
        exact .inl ⟨rfl, by rw [if_neg (by omega)]⟩
  · rw [if_neg hk]
    refine rk_cashBad s w _ _ ?_ m1
    by_cases he : (Lx.classify s).2 = 0
    · right
      refine ⟨by simp [he], ?_⟩
      rw [bne_iff_ne]
      intro hk2
      apply hk
      rw [← hk2, ← he]
    · left; simp [he]
end Go.Proofs.YtampjeghdcpgfaaGreatDoor
