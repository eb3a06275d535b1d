/-
  The reference's Tokens: the walk.
-/
import Derived.Test.YthijakidnkhbnaaGreatDoorRkKinds
import Derived.Test.YthijakidnkhbnaaGreatDoorPlRTok
import Derived.Laws.EntriesVeiled
namespace Go.Proofs.YthijakidnkhbnaaGreatDoor
open Go.RowKit

theorem rk_bt (s : ByteArray) (a : Nat) (c : UInt8) (l : List UInt8) (h : s.data.toList.drop a = c :: l) : a < s.size ∧ PlainAid.bt s a = (c.toNat : Int) ∧ s.data.toList.drop (a + 1) = l := by
  have hl : s.data.toList.length = s.size := by obtain ⟨⟨l⟩⟩ := s; rfl
  have hlt : a < s.data.toList.length := by
    rcases Nat.lt_or_ge a s.data.toList.length with h' | h'
    · exact h'
    · rw [List.drop_eq_nil_of_le h'] at h; cases h
  have h2 : s.data.toList[a]? = some c := by
    have := congrArg (fun l => l[0]?) h
    simpa using this
  refine ⟨by omega, ?_, ?_⟩
  · rw [← rk_at]
    unfold Lx.at_
    rw [List.getD_eq_getElem?_getD, h2]
    rfl
  · have := congrArg (List.drop 1) h
    rw [List.drop_drop] at this
    simpa using this

/-- one step of the reference's reading, by places -/
theorem rk_step (s : ByteArray) (a : Nat) (ha : a < s.size) : (Lx.blank (PlainAid.bt s a) = true ∧ ∀ f acc, Lx.rtok (f + 1) (s.data.toList.drop a) a acc = Lx.rtok f (s.data.toList.drop (a + 1)) (a + 1) acc) ∨
    (Lx.blank (PlainAid.bt s a) = false ∧ PlainAid.bt s a = 35 ∧ ∀ f acc, Lx.rtok (f + 1) (s.data.toList.drop a) a acc = (acc, 0, 0)) ∨
    (Lx.blank (PlainAid.bt s a) = false ∧ ¬ PlainAid.bt s a = 35 ∧ ∃ r, 0 < r ∧ a + r ≤ s.size ∧ (∀ j, j < r → Lx.blank (PlainAid.bt s (a + j)) = false) ∧ (a + r < s.size → Lx.blank (PlainAid.bt s (a + r)) = true) ∧
      ∀ f acc, Lx.rtok (f + 1) (s.data.toList.drop a) a acc = if (Lx.classify (s.extract a (a + r))).2 = 0 then Lx.rtok f (s.data.toList.drop (a + r)) (a + r) (acc ++ [((Lx.classify (s.extract a (a + r))).1, s.extract a (a + r), a)]) else ([], (a : Int), (Lx.classify (s.extract a (a + r))).2)) := by
  have hl : s.data.toList.length = s.size := by obtain ⟨⟨l⟩⟩ := s; rfl
  obtain ⟨c, l, hc⟩ : ∃ c l, s.data.toList.drop a = c :: l := by
    cases h : s.data.toList.drop a with
    | nil => have := congrArg List.length h; rw [List.length_drop] at this; simp at this; omega
    | cons c l => exact ⟨c, l, rfl⟩
  obtain ⟨_, hb, hd⟩ := rk_bt s a c l hc
  rw [hb, hd, hc]
  by_cases h1 : Lx.blank (c.toNat : Int) = true
  · exact .inl ⟨h1, fun f acc => by conv => lhs; unfold Lx.rtok
                                    rw [if_pos h1]⟩
  · have h1f : Lx.blank (c.toNat : Int) = false := by simpa using h1
    by_cases h2 : c = 35
    · exact .inr (.inl ⟨h1f, by rw [h2]; rfl, fun f acc => by conv => lhs; unfold Lx.rtok
                                                              rw [if_neg h1, if_pos h2]⟩)
    · refine .inr (.inr ⟨h1f, ?_, ?_⟩)
      · intro h
        apply h2
        apply UInt8.toNat_inj.1
        show c.toNat = 35
        omega
      · obtain ⟨t, r, e1, e2, e3, e4⟩ := Lx.run_split (fun c => !Lx.blank c) (c :: l)
        have htl : a + t.length ≤ s.size := by
          have := congrArg List.length e1
          rw [← hc, List.length_drop, List.length_append] at this
          omega
        have hdt : s.data.toList.drop (a + t.length) = r := by
          rw [← List.drop_drop, hc, e1, List.drop_left]
        have hex : s.extract a (a + t.length) = ⟨t.toArray⟩ := by
          rw [Lx.extract_list, hc, e1, Nat.add_sub_cancel_left, List.take_left]
        refine ⟨t.length, ?_, htl, fun j hj => ?_, fun hlt => ?_, fun f acc => ?_⟩
        · cases t with
          | nil =>
            have := e4 c l (by simpa using e1.symm)
            simp [h1f] at this
          | cons _ _ => simp
        · obtain ⟨x, hx⟩ : ∃ x, t[j]? = some x := ⟨_, List.getElem?_eq_getElem hj⟩
          have hbt : PlainAid.bt s (a + j) = (x.toNat : Int) := by
            rw [← rk_at]
            unfold Lx.at_
            rw [List.getD_eq_getElem?_getD, ← List.getElem?_drop, hc, e1, List.getElem?_append_left hj, hx]
            rfl
          rw [hbt]
          rw [List.all_eq_true] at e3
          simpa using e3 x (List.mem_of_getElem? hx)
        · cases r with
          | nil =>
            have := congrArg List.length hdt
            rw [List.length_drop] at this
            simp at this
            omega
          | cons x r =>
            obtain ⟨_, hb2, _⟩ := rk_bt s (a + t.length) x r hdt
            rw [hb2]
            simpa using e4 x r rfl
        · conv => lhs; unfold Lx.rtok
          rw [if_neg h1, if_neg h2, e2, e1, List.take_left, List.drop_left, hex, hdt]

theorem rk_infoT : (Tryz.prog.info? 53).map (fun i => (i.zero, i.size, i.bytes)) = some (some (.agg #[.int .i64 0, .string ByteArray.empty, .int .i64 0]), 3, 32) := by kernel_rfl

set_option maxRecDepth 100000 in
set_option maxHeartbeats 400000 in
theorem rk_tokLong (s : ByteArray) (w : World) (_hs : s.size ≤ 9223372036854775807) (h : (1024 : Int) < (s.size : Int)) :
    Calls Tryz.prog 15 #[.string s] w fun e w' => e = .returned (.tuple #[.slice none 0 0, .int .i64 1024, .int .i64 5]) ∧ w = w' := by
  go_enter Tryz.func15, Tryz.ntmps15
  go_wp2_with fail
  go_ret3
  exact ⟨rfl, rfl⟩

set_option maxRecDepth 100000 in
set_option maxHeartbeats 2000000 in
theorem rk_tokMain (s : ByteArray) (w : World) (hs : s.size ≤ 1024) (Z : List Lx.Tok × Int × Int) (HZ : Hid (Lx.rtok (s.size + 1) s.data.toList 0 [] = Z)) :
    Calls Tryz.prog 15 #[.string s] w fun e w' => ∃ v, e = .returned (.tuple #[v, .int .i64 Z.2.1, .int .i64 Z.2.2]) ∧ w'.ownsRow w.heap.size 53 3 v Z.1.length (Lx.tokCells Z.1) ∧ Below w.heap.size w w' := by
  obtain ⟨i0, hi, hz0, hz1, hz2⟩ := info_parts rk_infoT
  have hub := PlainAid.get_bt s
  have hbl := Lib.hid fun (c : Int) (w : World) => rk_blank c w
  go_enter Tryz.func15, Tryz.ntmps15
  go_wp2_with fail
  go_loopw [5, 6] (fun v i wr => ∃ (acc : List Lx.Tok) (a f : Nat), a ≤ s.size ∧ i = .int .i64 a ∧ acc.length ≤ a ∧ s.size - a < f ∧ Hid (Below w.heap.size w wr) ∧
      Hid (wr.ownsRow w.heap.size 53 3 v acc.length (Lx.tokCells acc)) ∧ Hid (Lx.rtok f (s.data.toList.drop a) a acc = Z)) (fun _ i _ => s.size - (RowKit.intOf i).toNat)
  case atStart => exact ⟨[], 0, s.size + 1, Nat.zero_le _, rfl, Nat.zero_le _, by omega, Lib.hid (Below.refl _ _), Lib.hid (World.ownsRow_nil _ _ _ _), HZ⟩
  case round =>
    obtain ⟨acc, a, f, ha, rfl, hacc, hf, HB, HO, HR⟩ := hrel
    clear HZ
    by_cases hlt : a < s.size
    · obtain ⟨f, rfl⟩ : ∃ g, f = g + 1 := ⟨f - 1, by omega⟩
      have hltI : (a : Int) < (s.size : Int) := by omega
      rcases rk_step s a hlt with ⟨hb, hst⟩ | ⟨hb, h35, hst⟩ | ⟨hb, h35, r, hr0, hrs, hrb, hre, hst⟩
      · -- a blank
        have HR2 : Hid (Lx.rtok f (s.data.toList.drop (a + 1)) (a + 1) acc = Z) := Lib.hid (by rw [← hst f acc]; exact HR.out)
        obtain ⟨c, hc⟩ : ∃ c, PlainAid.bt s a = c := ⟨_, rfl⟩
        rw [hc] at hb
        have m1 := hbl.out c wr
        rw [hb] at m1
        have hw1 : wrap64 ((a : Int) + 1) = ((a + 1 : Nat) : Int) := by unfold wrap64; omega
        clear hst HR hb hbl
        go_wp2_with (go_at_call 43; refine m1.mono ?_; rintro e w1 ⟨rfl, rfl⟩)
        refine ⟨⟨acc, a + 1, f, by omega, by first | rfl | go_num, by omega, by omega, HB, HO, HR2⟩, by simp [RowKit.intOf] <;> omega⟩
      · -- a comment
        have HZ : Hid (Z = (acc, 0, 0)) := Lib.hid (by rw [← HR.out, hst f acc])
        obtain ⟨c, hc⟩ : ∃ c, PlainAid.bt s a = c := ⟨_, rfl⟩
        rw [hc] at hb h35
        have m1 := hbl.out c wr
        rw [hb] at m1
        subst h35
        clear hst HR hb hbl
        go_wp2_with (go_at_call 43; refine m1.mono ?_; rintro e w1 ⟨rfl, rfl⟩)
        go_ret3
        rw [HZ.out]
        exact ⟨_, rfl, HO.out, HB.out⟩
      · -- a token
        obtain ⟨E, hE⟩ : ∃ E, s.extract a (a + r) = E := ⟨_, rfl⟩
        have hEs : E.size ≤ 1000000 := by rw [← hE, ByteArray.size_extract]; omega
        have HZ : Hid ((if (Lx.classify E).2 = 0 then Lx.rtok f (s.data.toList.drop (a + r)) (a + r) (acc ++ [((Lx.classify E).1, E, a)]) else ([], (a : Int), (Lx.classify E).2)) = Z) := Lib.hid (by
          have := hst f acc
          rw [hE] at this
          rw [← HR.out, this])
        have hk := fun W => rk_kind E W hEs
        obtain ⟨⟨kk, ee⟩, hq⟩ : ∃ q, Lx.classify E = q := ⟨_, rfl⟩
        rw [hq] at HZ hk
        simp only at HZ hk
        have HRB := Lib.hid hrb
        have HRE := Lib.hid hre
        obtain ⟨c, hc⟩ : ∃ c, PlainAid.bt s a = c := ⟨_, rfl⟩
        rw [hc] at hb h35
        obtain ⟨wo, hwo⟩ : ∃ wo : World, wo = wr := ⟨_, rfl⟩
        subst hwo
        have m1 := hbl.out c wo
        rw [hb] at m1
        have HK := Lib.hid hk
        have h35b : (c == 35) = false := by rw [beq_eq_false_iff_ne]; exact h35
        clear hst HR hb hrb hre hq hk hEs h35
        go_wp2_with (go_at_call 43; refine m1.mono ?_; rintro e w1 ⟨rfl, rfl⟩)
        clear m1
        go_loopw [7] (fun ev wx => ∃ j : Nat, ev = .int .i64 ((a + j : Nat) : Int) ∧ j ≤ r ∧ wx = wo) (fun ev _ => 2000 - (RowKit.intOf ev).toNat)
        case atStart => exact ⟨0, by simp, Nat.zero_le _, rfl⟩
        case round =>
          obtain ⟨j, rfl, hj, rfl⟩ := hrel
          by_cases hjr : j < r
          · have hjs : a + j < s.size := by omega
            have hjsI : ((a + j : Nat) : Int) < (s.size : Int) := by omega
            have hbj := HRB.out j hjr
            obtain ⟨d, hd⟩ : ∃ d, PlainAid.bt s (a + j) = d := ⟨_, rfl⟩
            rw [hd] at hbj
            have m2 := hbl.out d wr
            rw [hbj] at m2
            have hw2 : wrap64 (((a + j : Nat) : Int) + 1) = ((a + (j + 1) : Nat) : Int) := by unfold wrap64; omega
            obtain ⟨e, he⟩ : ∃ e, e = a + j := ⟨_, rfl⟩
            have HE := Lib.hid he
            rw [← he] at hjs hjsI hd hw2 ⊢
            clear hbj HRB HRE HZ HK hbl he hE
            go_wp2_with (go_at_call 43; refine m2.mono ?_; rintro e w1 ⟨rfl, rfl⟩)
            refine ⟨⟨j + 1, by rw [show ((e : Int) + 1) = ((a + (j + 1) : Nat) : Int) from by rw [HE.out]; omega], hjr, trivial⟩, by simp [RowKit.intOf] <;> omega⟩
          · obtain rfl : j = r := by omega
            obtain ⟨e, he⟩ : ∃ e, e = a + j := ⟨_, rfl⟩
            have HEE := Lib.hid he
            have m3 := HK.out wr
            have hea : a ≤ e := by omega
            have hae : a < e := by omega
            have haI : (a : Int) ≤ (e : Int) := by omega
            have hesI : (e : Int) ≤ (s.size : Int) := by omega
            have hes : e ≤ s.size := by omega
            have hway : (¬ e < s.size ∧ ¬ (e : Int) < (s.size : Int)) ∨ (e < s.size ∧ (e : Int) < (s.size : Int) ∧ ∃ d, PlainAid.bt s e = d ∧ Calls Tryz.prog 43 #[.int .u8 d] wr fun x w' => x = .returned (.bool true) ∧ wr = w') := by
              by_cases h : e < s.size
              · refine .inr ⟨h, by omega, _, rfl, ?_⟩
                have := hbl.out (PlainAid.bt s e) wr
                rw [show Lx.blank (PlainAid.bt s e) = true from by rw [he]; exact HRE.out (by omega)] at this
                exact this
              · exact .inl ⟨h, by omega⟩
            rw [← he] at hE HZ hrs ⊢
            clear HRB HRE HK hbl he hjr
            by_cases hee : ee = 0
            · rw [if_pos hee] at HZ
              subst hee
              rcases hway with ⟨w1, w2⟩ | ⟨w1, w2, d, hd, m2⟩
              all_goals
                go_wp2_with (first | (go_at_call 43; refine m2.mono ?_; rintro x w1 ⟨rfl, rfl⟩) | (go_at_call 44; refine m3.mono ?_; rintro x w1 ⟨rfl, rfl⟩) | (at_builtin; refine wpList_append_own _ rfl _ _ 48 rfl w.heap.size 53 i0 _ 3 32 Tryz.underlying48 hi hz0 hz1 hz2 rfl (by decide) _ _ _ rfl (HO.out.alloc _) ⟨wr.heap.size, 0, none⟩ 1 1 [.int .i64 kk, .string E, .int .i64 (a : Int)] rfl rfl ?c1 ?c2 ?c3 ?c4 ?c5 ?_))
                case c1 =>
                  intro j u hj
                  match j, hj with
                  | 0, hj => simp at hj; subst hj; simp [Addr.add]
                  | 1, hj => simp at hj; subst hj; simp [Addr.add]
                  | 2, hj => simp at hj; subst hj; simp [Addr.add]
                  | j + 3, hj => simp at hj
                case c2 => intro u hu; simp at hu; rcases hu with rfl | rfl | rfl <;> rfl
                case c3 => unfold maxLen; omega
                case c4 => omega
                case c5 => have := HB.out.size; simp; omega
                intro v' w3 hown3 hgrow3 _
                have hbel3 := (HB.out.alloc HB.out.size _).grown hgrow3 (by have := HB.out.size; simp; omega) (fun k hk => (HO.out.lt k hk).1)
                have HO3 := Lib.hid hown3
                have HB3 := Lib.hid hbel3
                clear hgrow3 hown3 hbel3
                go_wp2_with fail
                refine ⟨⟨acc ++ [(kk, E, a)], e, f, hes, by first | rfl | go_num, by simp; omega, by omega, HB3, Lib.hid ?_, Lib.hid HZ.out⟩, by simp [RowKit.intOf] <;> omega⟩
                rw [Lx.tokCells_append, List.length_append]
                simpa [Lx.tokCells] using HO3.out
            · have hbe : (ee != 0) = true := by simpa using hee
              rw [if_neg hee] at HZ
              clear hee
              rcases hway with ⟨w1, w2⟩ | ⟨w1, w2, d, hd, m2⟩
              all_goals
                go_wp2_with (first | (go_at_call 43; refine m2.mono ?_; rintro x w1 ⟨rfl, rfl⟩) | (go_at_call 44; refine m3.mono ?_; rintro x w1 ⟨rfl, rfl⟩))
                go_ret3
                rw [← HZ.out]
                exact ⟨_, rfl, World.ownsRow_nil _ _ _ _, HB.out⟩
    · have HZ : Hid (Z = (acc, 0, 0)) := Lib.hid (by
        have hl : s.data.toList.length = s.size := by obtain ⟨⟨l⟩⟩ := s; rfl
        rw [← HR.out, List.drop_eq_nil_of_le (by omega), Lx.rtok_nil])
      have hltI : ¬ (a : Int) < (s.size : Int) := by omega
      clear HR hbl
      go_wp2_with fail
      go_ret3
      rw [HZ.out]
      exact ⟨_, rfl, HO.out, HB.out⟩

/-- Tokens: what Tokenize says -/
theorem rk_tokens (s : ByteArray) (w : World) (hs : s.size ≤ 9223372036854775807) :
    Calls Tryz.prog 15 #[.string s] w fun e w' => ∃ v, e = .returned (.tuple #[v, .int .i64 (Lx.tokenize s).2.1, .int .i64 (Lx.tokenize s).2.2]) ∧ w'.ownsRow w.heap.size 53 3 v (Lx.tokenize s).1.length (Lx.tokCells (Lx.tokenize s).1) ∧ Below w.heap.size w w' := by
  rw [Lx.tokenize_eq]
  by_cases h : 1024 < s.size
  · rw [if_pos h]
    refine (rk_tokLong s w hs (by omega)).mono ?_
    rintro e w' ⟨rfl, rfl⟩
    exact ⟨_, rfl, World.ownsRow_nil _ _ _ _, Below.refl _ _⟩
  · rw [if_neg h]
    exact rk_tokMain s w (by omega) _ (Lib.hid rfl)

end Go.Proofs.YthijakidnkhbnaaGreatDoor
