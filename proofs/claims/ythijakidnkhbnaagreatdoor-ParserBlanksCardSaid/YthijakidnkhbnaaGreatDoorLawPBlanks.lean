/-
  ParserBlanks: the walk.
-/
import Derived.Test.YthijakidnkhbnaaGreatDoorPsLd
import Derived.Test.YthijakidnkhbnaaGreatDoorPlBlank
import Derived.Test.YthijakidnkhbnaaGreatDoorPlLine
import Derived.Test.YthijakidnkhbnaaGreatDoorPsArgs
import Derived.Test.YthijakidnkhbnaaGreatDoorOrdD
import Derived.Test.YthijakidnkhbnaaGreatDoorRkTok
import Derived.Test.YthijakidnkhbnaaGreatDoorRkCash
namespace Go.Proofs.YthijakidnkhbnaaGreatDoor
open Go.RowKit

set_option maxRecDepth 100000 in
set_option maxHeartbeats 1000000 in
theorem pb_long (w : World) (s : ByteArray) (a : Option Addr) (n c : Nat) (hw : Hid ((300 : Int) < (s.size : Int) ∨ (¬ (300 : Int) < (s.size : Int) ∧ (n : Int) = 0) ∨ (¬ (300 : Int) < (s.size : Int) ∧ ¬ (n : Int) = 0 ∧ (60 : Int) < (n : Int)))) (_ : n ≤ c)
    (m1 : Hid (∀ W, Below w.heap.size w W → Calls Tryz.prog 8 #[] W fun e W' => e = .returned (.bool true) ∧ Below W.heap.size W W')) :
    Calls Tryz.prog 5 #[.string s, .slice a n c] w fun e W' => e = .returned (.bool true) ∧ Below w.heap.size w W' := by
  have HB0 : Hid (Below w.heap.size w w) := Lib.hid (Below.refl _ _)
  rcases hw.out with h1 | ⟨h1, h2⟩ | ⟨h1, h2, h3⟩
  all_goals
    go_enter Tryz.func5, Tryz.ntmps5
    go_upto_region 2 with (go_at_call 8; refine (m1.out _ HB0.out).mono ?_; rintro e w1 ⟨rfl, hb1⟩; have HB1 := Lib.hid (HB0.out.trans (hb1.mono HB0.out.size)); clear hb1)
    go_wp2_with (go_at_call 8; refine (m1.out _ HB1.out).mono ?_; rintro e w2 ⟨rfl, hb2⟩; have HB2 := Lib.hid (HB1.out.trans (hb2.mono HB1.out.size)); clear hb2)
    go_ret
    exact ⟨rfl, HB2.out⟩

/-- Tokens, as the walk wants it -/
def TksC (w : World) (s : ByteArray) (l : List Lx.Tok) (o e : Int) : Prop := Calls Tryz.prog 15 #[.string s] w fun x w' => ∃ a n c, x = .returned (.tuple #[.slice a n c, .int .i64 o, .int .i64 e]) ∧ n = l.length ∧ n ≤ c ∧ (0 < l.length → ∃ g, a = some ⟨g, 0, none⟩ ∧ g < w'.heap.size ∧ LxHolds w' g l) ∧ Below w.heap.size w w'
theorem tks_of (s : ByteArray) (hs : s.size ≤ 9223372036854775807) (w : World) : TksC w s (Lx.tokenize s).1 (Lx.tokenize s).2.1 (Lx.tokenize s).2.2 := by
  refine (rk_tokens s w hs).mono ?_
  rintro x w' ⟨v, rfl, hv, hb⟩
  have hc : ∃ a c, v = .slice a (Lx.tokenize s).1.length c ∧ (Lx.tokenize s).1.length ≤ c := by
    rcases hv.2 with ⟨h1, h0⟩ | ⟨g, cap, cur, h1, hB, hh, hn, hcap, hcur, htake⟩
    · exact ⟨none, 0, by rw [h0]; exact h1, by rw [h0]; exact Nat.le_refl _⟩
    · exact ⟨_, cap, h1, hn⟩
  obtain ⟨a, c, rfl, hcap⟩ := hc
  refine ⟨a, _, c, rfl, rfl, hcap, fun h0 => ?_, hb⟩
  rcases lx_toks_form hv with ⟨_, h2⟩ | ⟨g, cap, h2, h3, h4, h5⟩
  · rw [h2] at h0; simp at h0
  · cases h2
    exact ⟨g, rfl, h4, h5⟩

set_option maxRecDepth 100000 in
set_option maxHeartbeats 1000000 in
theorem pb_none (w : World) (s : ByteArray) (a : Option Addr) (n c : Nat) (hs : ¬ (300 : Int) < (s.size : Int)) (hn : ¬ (n : Int) = 0) (hn2 : ¬ (60 : Int) < (n : Int)) (_ : n ≤ c) (l : List Lx.Tok) (o x : Int) (hx : Hid ((x != 0) = true ∨ ((x != 0) = false ∧ l.length = 0)))
    (m1 : Hid (∀ W, Below w.heap.size w W → Calls Tryz.prog 8 #[] W fun e W' => e = .returned (.bool true) ∧ Below W.heap.size W W'))
    (m2 : Hid (∀ W, TksC W s l o x)) :
    Calls Tryz.prog 5 #[.string s, .slice a n c] w fun e W' => e = .returned (.bool true) ∧ Below w.heap.size w W' := by
  have HB0 : Hid (Below w.heap.size w w) := Lib.hid (Below.refl _ _)
  have hs' : decide ((300 : Int) < (s.size : Int)) = false := by simpa using hs
  have hn' : ((n : Int) == 0) = false := by simpa using hn
  have hn2' : decide ((60 : Int) < (n : Int)) = false := by simpa using hn2
  clear hs hn hn2
  go_enter Tryz.func5, Tryz.ntmps5
  go_upto_region 3 with (go_at_call 8; refine (m1.out _ HB0.out).mono ?_; rintro e w1 ⟨rfl, hb1⟩; have HB1 := Lib.hid (HB0.out.trans (hb1.mono HB0.out.size)); clear hb1)
  go_upto_region 4 with (go_at_call 15; refine (m2.out _).mono ?_; rintro e w2 ⟨a2, n2, c2, rfl, hl2, _, _, hb2⟩; have HB2 := Lib.hid (HB1.out.trans (hb2.mono HB1.out.size)); have HL2 := Lib.hid hl2; clear hb2 hl2)
  rcases hx.out with h1 | ⟨h1, h2⟩
  · go_wp2_with fail
    go_ret
    exact ⟨rfl, HB2.out⟩
  · have h3 : (n2 : Int) = 0 := by rw [HL2.out, h2]; rfl
    clear h2
    go_wp2_with fail
    go_ret
    exact ⟨rfl, HB2.out⟩

/-- where the first loop stands -/
def BlkRel (gs : List Nat) (l : List Lx.Tok) (w3 : World) (fv iv : Value) (wr : World) : Prop := ∃ (i : Nat) (f : ByteArray), iv = .int .i64 i ∧ i ≤ l.length ∧ fv = .string f ∧ f.size ≤ 1200 ∧ Hid (f = ⟨(Ps.blankL gs (l.take i)).toArray⟩) ∧ Hid (Below w3.heap.size w3 wr)
theorem blk_next {gs : List Nat} {l : List Lx.Tok} {i q z : Nat} {x : Lx.Tok} {f : ByteArray} (hq : Hid (q = i % gs.length)) (hz : gs[q]? = some z) (hx : l[i]? = some x) (hf : Hid (f = ⟨(Ps.blankL gs (l.take i)).toArray⟩)) :
    Hid (f ++ ⟨(Ps.gapB (z % 4)).toArray⟩ ++ x.2.1 = ⟨(Ps.blankL gs (l.take (i + 1))).toArray⟩) := Lib.hid (by
  have hi : i < l.length := (List.getElem?_eq_some_iff.1 hx).1
  rw [List.take_add_one, hx]
  show _ = (⟨(Ps.blankL gs (l.take i ++ [x])).toArray⟩ : ByteArray)
  rw [Ps.blankL_next, List.length_take, Nat.min_eq_left (by omega), ← hq.out, hz, hf.out]
  obtain ⟨k, t, o⟩ := x
  obtain ⟨⟨t⟩⟩ := t
  apply ByteArray.ext
  simp)
theorem blk_size {gs : List Nat} {l : List Lx.Tok} {e m : Nat} (hg : Ps.GoodT l e m) (he : e ≤ m + 1) (hm : m ≤ 300) (i : Nat) (f : ByteArray) (hf : Hid (f = ⟨(Ps.blankL gs (l.take i)).toArray⟩)) : f.size ≤ 1200 := by
  have : ∀ (l : List Lx.Tok) (i : Nat), Ps.sizes (l.take i) ≤ Ps.sizes l := by
    intro l
    induction l with
    | nil => intro i; simp
    | cons x l ih =>
      intro i
      cases i with
      | zero => exact Nat.zero_le _
      | succ i =>
        rw [List.take_succ_cons]
        have := ih i
        simp only [Ps.sizes]
        omega
  have h1 := this l i
  have h2 := Ps.gaps_length gs (l.take i) 0
  obtain ⟨h3, h4⟩ := Ps.sizes_good l e m hg he
  rw [hf.out]
  show (Ps.blankL gs (l.take i)).length ≤ 1200
  unfold Ps.blankL
  rw [List.length_take] at h2
  omega
theorem mod_self {i n q : Nat} (h : Hid (q = i % n)) : ((i : Int)) % (n : Int) = (q : Int) ∧ ((i : Int)).tmod (n : Int) = (q : Int) := by
  have e : ((i : Int)) % (n : Int) = (q : Int) := by rw [h.out, Int.natCast_emod]
  refine ⟨e, ?_⟩
  rw [Int.tmod_eq_emod_of_nonneg (by omega)]
  exact e
theorem mod4 {z zz : Nat} (h : Hid (zz = z % 4)) : (z : Int) % 4 = (zz : Int) ∧ (z : Int).tmod 4 = (zz : Int) ∧ IntKind.u8.wrap (zz : Int) = (zz : Int) ∧ zz < 4 := by
  have h := h.out
  refine ⟨by omega, ?_, IntWalk.u8_in _ (by omega), by omega⟩
  rw [Int.tmod_eq_emod_of_nonneg (by omega)]
  omega

set_option maxRecDepth 100000 in
set_option maxHeartbeats 2000000 in
theorem pb_main (w : World) (s : ByteArray) (v : Value) (gs : List Nat) (hs : ¬ (300 : Int) < (s.size : Int)) (hv : Hid (U8At w v gs)) (h0 : 0 < gs.length) (h60 : gs.length ≤ 60) (l m : List Lx.Tok) (F : ByteArray) (Q : Ps.Req) (o1 o2 x : Int)
    (hl0 : Hid (0 < l.length)) (hml : Hid (m.length = l.length)) (hgood : Hid (Ps.GoodT l 0 s.size)) (hF : Hid (F = ⟨(Ps.blankL gs l).toArray⟩)) (hlk : Q.ins.links.length ≤ 1000)
    (hx : Hid ((x = 0 ∨ x = 4) ∨ (¬ x = 0 ∧ ¬ x = 4 ∧ ∃ a t t', l[a]? = some t ∧ m[a]? = some t' ∧ o1 = (t.2.2 : Int) ∧ o2 = (t'.2.2 : Int) ∧ ∀ (i : Nat) (u : Lx.Tok), i < a → l[i]? = some u → u.2.2 < t.2.2)))
    (m1 : Hid (∀ W, Below w.heap.size w W → Calls Tryz.prog 8 #[] W fun e W' => e = .returned (.bool true) ∧ Below W.heap.size W W'))
    (t1 : Hid (∀ W, TksC W s l 0 0)) (t2 : Hid (∀ W, TksC W F m 0 0))
    (m2 : Hid (∀ W, Below w.heap.size w W → PrsC W s Q o1 x)) (m3 : Hid (∀ W, Below w.heap.size w W → PrsC W (F ++ ⟨#[32, 35, 32, 114, 101, 109, 97, 114, 107]⟩) Q o2 x)) :
    Calls Tryz.prog 5 #[.string s, v] w fun e W' => e = .returned (.bool true) ∧ Below w.heap.size w W' := by
  obtain ⟨b, off, c, rfl, hnc, hcm, hbw, hcells⟩ : ∃ b off c, v = .slice (some ⟨b, off, none⟩) gs.length c ∧ gs.length ≤ c ∧ c ≤ maxLen ∧ b < w.heap.size ∧ ∀ (i z : Nat), gs[i]? = some z → z < 256 ∧ w.cell? ⟨b, off + i, none⟩ = some (.int .u8 (z : Int)) := by
    rcases hv.out with ⟨rfl, _⟩ | h
    · simp at h0
    · exact h
  have HB0 : Hid (Below w.heap.size w w) := Lib.hid (Below.refl _ _)
  obtain ⟨n, hn⟩ : ∃ n, n = gs.length := ⟨_, rfl⟩
  rw [← hn] at h0 h60 hnc ⊢
  have HN := Lib.hid hn
  clear hn
  have hs' : decide ((300 : Int) < (s.size : Int)) = false := by simpa using hs
  have hn0 : ((n : Int) == 0) = false := by simp; omega
  have hn60 : decide ((60 : Int) < (n : Int)) = false := by simp; omega
  have HSZ := Lib.hid hs
  clear hs
  have HC := Lib.hid hcells
  clear hcells
  go_enter Tryz.func5, Tryz.ntmps5
  go_upto_region 3 with (go_at_call 8; refine (m1.out _ HB0.out).mono ?_; rintro e w1 ⟨rfl, hb1⟩; have HB1 := Lib.hid (HB0.out.trans (hb1.mono HB0.out.size)); clear hb1)
  go_upto_region 4 with (go_at_call 15; refine (t1.out _).mono ?_; rintro e w3 ⟨a2, L, c2, rfl, hl2, hlc, hl3, hb2⟩; have HB3 := Lib.hid (HB1.out.trans (hb2.mono HB1.out.size)); have HL2 := Lib.hid hl2; have HL3 := Lib.hid (hl3 hl0.out); clear hb2 hl2 hl3)
  obtain ⟨tb, ha2, htb, hold⟩ := HL3.out
  have HH := Lib.hid hold
  have HTB := Lib.hid htb
  have hL0 : ((L : Int) == 0) = false := by have := HL2.out; have := hl0.out; simp; omega
  subst ha2
  clear HL3 hold m1 HB1 HB0 htb
  go_upto_region 6 with fail
  go_wp2_with fail
  go_loopw [8, 9] (fun fv iv wr => BlkRel gs l w3 fv iv wr) (fun _ iv _ => 2000 - (RowKit.intOf iv).toNat)
  case atStart => exact ⟨0, ⟨#[]⟩, rfl, Nat.zero_le _, rfl, by decide, Lib.hid rfl, Lib.hid (Below.refl _ _)⟩
  case round =>
    obtain ⟨i, f, rfl, hi, rfl, hfs, HF, HW⟩ := hrel
    rw [← HL2.out] at hi
    by_cases hlt : i < L
    · have hltI : (i : Int) < (L : Int) := by omega
      obtain ⟨x1, hx1⟩ : ∃ x1, l[i]? = some x1 := ⟨_, List.getElem?_eq_getElem (by rw [← HL2.out]; exact hlt)⟩
      obtain ⟨q, hq⟩ : ∃ q, Hid (q = i % n) := ⟨_, Lib.hid rfl⟩
      have hql : q < n := by rw [hq.out]; exact Nat.mod_lt _ h0
      have hqI : (q : Int) < (n : Int) := by omega
      obtain ⟨z, hz⟩ : ∃ z, gs[q]? = some z := ⟨_, List.getElem?_eq_getElem (by rw [← HN.out]; exact hql)⟩
      obtain ⟨hz256, hzc⟩ := HC.out q z hz
      have y1 := ((HB3.out.trans (HW.out.mono HB3.out.size)).cell (p := ⟨b, off + q, none⟩) hbw).trans hzc
      obtain ⟨_, y2, _⟩ := HH.out.below HW.out HTB.out i x1 hx1
      obtain ⟨hm1, hm2⟩ := mod_self hq
      obtain ⟨zz, hzz⟩ : ∃ zz, Hid (zz = z % 4) := ⟨_, Lib.hid rfl⟩
      obtain ⟨r1, r1t, r1w, l1⟩ := mod4 hzz
      have hq2 : Hid (q = i % gs.length) := Lib.hid (by rw [← HN.out]; exact hq.out)
      have HF2 := blk_next hq2 hz hx1 HF
      rw [← hzz.out] at HF2
      have hfs2 := blk_size hgood.out (Nat.zero_le _) (by have := HSZ.out; omega) (i + 1) _ HF2
      have hxs : x1.2.1.size ≤ 300 := by
        have := HSZ.out
        have := (Ps.good_at l 0 s.size i x1 hgood.out hx1).2.1
        omega
      have HLT : Hid (i + 1 ≤ l.length) := Lib.hid (by rw [← HL2.out]; exact hlt)
      have hi300 : i ≤ 301 := by
        have h1 := Ps.sizes_good l 0 s.size hgood.out (by omega)
        have := HSZ.out
        have := HL2.out
        omega
      have HW1 : Hid (wrap64 ((i : Int) + 1) = ((i + 1 : Nat) : Int)) := Lib.hid (by unfold wrap64; omega)
      obtain ⟨tx, htx⟩ : ∃ tx, tx = x1.2.1 := ⟨_, rfl⟩
      rw [← htx] at y2 HF2 hxs hfs2
      have hnz : ¬ n = 0 := by omega
      clear htx hz hx1 hq hq2 hzz HF HN HC hm1 r1 hzc hz256 hgood hF hx m2 m3 t1 t2 hv hml HL2 hlk
      obtain ⟨gp, hgp⟩ : ∃ gp : ByteArray, gp = ⟨(Ps.gapB zz).toArray⟩ := ⟨_, rfl⟩
      have hgps : gp.size ≤ 3 := by rw [hgp]; exact (Ps.gapB_length zz).1
      rw [← hgp] at HF2 hfs2
      go_upto_region 10 with fail
      obtain ⟨W0, hW0⟩ : ∃ W0, W0 = wr.drew := ⟨_, rfl⟩
      obtain ⟨W1, hW1⟩ : ∃ W1, W1 = W0.alloc (Obj.cells #[Value.string ⟨#[32]⟩, Value.string ⟨#[9]⟩, Value.string ⟨#[32, 32]⟩, Value.string ⟨#[32, 9, 32]⟩] 9) := ⟨_, rfl⟩
      have y1d : W0.cell? ⟨b, off + q, none⟩ = some (.int .u8 (z : Int)) := by rw [hW0]; exact y1
      have y2d : W0.cell? ⟨tb, i * 3 + 1, none⟩ = some (.string tx) := by rw [hW0]; exact y2
      have y1a : W1.cell? ⟨b, off + q, none⟩ = some (.int .u8 (z : Int)) := by rw [hW1]; exact Lib.cell?_alloc_some _ y1d
      have y2a : W1.cell? ⟨tb, i * 3 + 1, none⟩ = some (.string tx) := by rw [hW1]; exact Lib.cell?_alloc_some _ y2d
      obtain ⟨g0, hg0⟩ : ∃ g0, g0 = W0.heap.size := ⟨_, rfl⟩
      have y3 : W1.cell? ⟨W0.heap.size, zz, none⟩ = some (.string gp) := by
        rw [← hg0]
        have hrow : W1.heap[g0]? = some (.cells #[Value.string ⟨#[32]⟩, Value.string ⟨#[9]⟩, Value.string ⟨#[32, 32]⟩, Value.string ⟨#[32, 9, 32]⟩] 9 (0, 0)) := by rw [hW1, hg0]; exact ps_alloc_new W0 _
        rw [cell_of_row _ _ _ _ _ _ hrow, hgp]
        rcases (show zz = 0 ∨ zz = 1 ∨ zz = 2 ∨ zz = 3 by omega) with rfl | rfl | rfl | rfl <;> rfl
      have HBW : Hid (Below w3.heap.size w3 W1) := Lib.hid (by rw [hW1, hW0]; exact (HW.out.drew).alloc HW.out.size _)
      have HW1E := Lib.hid hW1
      have HG0 := Lib.hid hg0
      have hcA : ¬ 9223372036854775807 < f.size + gp.size := by omega
      have hcB : ¬ 9223372036854775807 < f.size + gp.size + tx.size := by omega
      have l1I : (zz : Int) < 4 := by omega
      refine Ord.wp_region_textD (fun b w => w = if b then W1 else W0) 1 (fun k => k == 10 || k == 11) (Ord.depsOf_ok (by kernel_rfl)) rfl (by kernel_rfl) (by kernel_rfl) (by rw [hW0]; rfl) ?_
      clear y1 y2 hgp hW0 hW1 hg0 HW
      refine Ord.textD_pure (v := ?_) rfl rfl (fun w => ?_) (fun K hK => ?_)
      rotate_left
      · (go_simp; first | done | exact rfl)
      go_simp
      refine hK _ ?_
      clear hK K
      refine Ord.textD_make (v := ?_) rfl rfl (fun w hS => ⟨W1, ?_, by simp⟩) (fun K hK => ?_)
      rotate_left
      · (simp only [Bool.false_eq_true, if_false] at hS; rw [hS, HW1E.out]; go_simp; first | done | exact rfl)
      go_simp
      refine hK _ ?_
      clear hK K
      refine Ord.textD_pure (v := ?_) rfl rfl (fun w => ?_) (fun K hK => ?_)
      rotate_left
      · (go_simp; first | done | exact rfl)
      go_simp
      refine hK _ ?_
      clear hK K
      refine Ord.textD_pure (v := ?_) rfl rfl (fun w => ?_) (fun K hK => ?_)
      rotate_left
      · (go_simp; first | done | exact rfl)
      go_simp
      refine hK _ ?_
      clear hK K
      refine Ord.textD_pure (v := ?_) rfl rfl (fun w => ?_) (fun K hK => ?_)
      rotate_left
      · (go_simp; first | done | exact rfl)
      go_simp
      refine hK _ ?_
      clear hK K
      refine Ord.textD_pure (v := ?_) rfl rfl (fun w => ?_) (fun K hK => ?_)
      rotate_left
      · (go_simp; first | done | exact rfl)
      go_simp
      refine hK _ ?_
      clear hK K
      refine Ord.textD_pure (v := ?_) rfl rfl (fun w => ?_) (fun K hK => ?_)
      rotate_left
      · (go_simp; first | done | exact rfl)
      go_simp
      refine hK _ ?_
      clear hK K
      refine Ord.textD_pure (v := ?_) rfl rfl (fun w => ?_) (fun K hK => ?_)
      rotate_left
      · (go_simp; first | done | exact rfl)
      go_simp
      refine hK _ ?_
      clear hK K
      refine Ord.textD_read (v := ?_) rfl rfl (fun b w hb hS => ?_) (fun K hK => ?_)
      rotate_left
      · (cases b <;> (simp only [Bool.false_eq_true, if_true, if_false] at hS; rw [hS]; go_simp; first | done | exact rfl))
      go_simp
      refine hK _ ?_
      clear hK K
      refine Ord.textD_pure (v := ?_) rfl rfl (fun w => ?_) (fun K hK => ?_)
      rotate_left
      · (go_simp; first | done | exact rfl)
      go_simp
      refine hK _ ?_
      clear hK K
      refine Ord.textD_pure (v := ?_) rfl rfl (fun w => ?_) (fun K hK => ?_)
      rotate_left
      · (go_simp; first | done | exact rfl)
      go_simp
      refine hK _ ?_
      clear hK K
      refine Ord.textD_read (v := ?_) rfl rfl (fun b w hb hS => ?_) (fun K hK => ?_)
      rotate_left
      · (obtain rfl := hb rfl; simp only [if_true] at hS; rw [hS]; go_simp; first | done | exact rfl)
      go_simp
      refine hK _ ?_
      clear hK K
      refine Ord.textD_pure (v := ?_) rfl rfl (fun w => ?_) (fun K hK => ?_)
      rotate_left
      · (go_simp; first | done | exact rfl)
      go_simp
      refine hK _ ?_
      clear hK K
      refine Ord.textD_pure (v := ?_) rfl rfl (fun w => ?_) (fun K hK => ?_)
      rotate_left
      · (go_simp; first | done | exact rfl)
      go_simp
      refine hK _ ?_
      clear hK K
      refine Ord.textD_pure (v := ?_) rfl rfl (fun w => ?_) (fun K hK => ?_)
      rotate_left
      · (go_simp; first | done | exact rfl)
      go_simp
      refine hK _ ?_
      clear hK K
      refine Ord.textD_pure (v := ?_) rfl rfl (fun w => ?_) (fun K hK => ?_)
      rotate_left
      · (go_simp; first | done | exact rfl)
      go_simp
      refine hK _ ?_
      clear hK K
      refine Ord.textD_pure (v := ?_) rfl rfl (fun w => ?_) (fun K hK => ?_)
      rotate_left
      · (go_simp; first | done | exact rfl)
      go_simp
      refine hK _ ?_
      clear hK K
      refine Ord.textD_read (v := ?_) rfl rfl (fun b w hb hS => ?_) (fun K hK => ?_)
      rotate_left
      · (cases b <;> (simp only [Bool.false_eq_true, if_true, if_false] at hS; rw [hS]; go_simp; first | done | exact rfl))
      go_simp
      refine hK _ ?_
      clear hK K
      refine Ord.textD_pure (v := ?_) rfl rfl (fun w => ?_) (fun K hK => ?_)
      rotate_left
      · (go_simp; first | done | exact rfl)
      go_simp
      refine hK _ ?_
      clear hK K
      refine Ord.textD_pure (v := ?_) rfl rfl (fun w => ?_) (fun K hK => ?_)
      rotate_left
      · (go_simp; first | done | exact rfl)
      go_simp
      refine hK _ ?_
      clear hK K
      refine Ord.textD_end (fun w9 hw9 => ?_)
      have hw8 : w9 = W1 := by simpa using hw9
      clear hw9
      subst hw8
      clear y1d y2d y1a y2a y3 hcA hcB l1I hgps hxs hnz hql hqI r1t r1w hm2 l1
      rename_i hKK
      refine hKK _ _ ?_
      clear hKK
      generalize f ++ gp ++ tx = f2 at *
      clear hfs
      have hw1 := HW1.out
      go_wp2_with fail
      exact ⟨⟨i + 1, _, by first | rfl | go_num, HLT.out, rfl, hfs2, HF2, HBW⟩, by simp [RowKit.intOf] <;> omega⟩
    · have hiL : i = L := by omega
      have HLEN : Hid (L ≤ 301) := Lib.hid (by
        have h1 := Ps.sizes_good l 0 s.size hgood.out (by omega)
        have := HSZ.out
        have := HL2.out
        omega)
      have hltI : ¬ (i : Int) < (L : Int) := by omega
      have HFF : Hid (f = F) := Lib.hid (by rw [HF.out, hF.out, hiL, HL2.out, List.take_length])
      have M3 := Lib.hid (fun W (hW : Below w.heap.size w W) => (show PrsC W (f ++ ⟨#[32, 35, 32, 114, 101, 109, 97, 114, 107]⟩) Q o2 x from by rw [HFF.out]; exact m3.out W hW))
      have T2 := Lib.hid (fun W => (show TksC W f m 0 0 from by rw [HFF.out]; exact t2.out W))
      have HBR := Lib.hid (HB3.out.trans (HW.out.mono HB3.out.size))
      have HHR := Lib.hid (HH.out.below HW.out HTB.out)
      have HTR : Hid (tb < wr.heap.size) := Lib.hid (by have := HW.out.size; have := HTB.out; omega)
      have hst := st_req
      clear HFF HF hF t1 t2 m3 hv HN HC HW HH HTB hiL hgood hbw hcm hnc h60
      go_upto_region 12 with (go_at_call 9; refine (m2.out _ HBR.out).mono ?_; rintro e w6 ⟨a1, n1, c1, rfl, hl1, hb6⟩; have HL6 := Lib.hid hl1; have HB6 := Lib.hid hb6; clear hb6 hl1)
      obtain ⟨g1, hg1⟩ : ∃ g1, g1 = w6.heap.size := ⟨_, rfl⟩
      obtain ⟨W7, hW7⟩ : ∃ W7, W7 = w6.alloc (.cells (reqCells Q (.slice a1 n1 c1)) 29) := ⟨_, rfl⟩
      have HR7 : Hid (W7.heap[g1]? = some (.cells (reqCells Q (.slice a1 n1 c1)) 29 (0, 0))) := Lib.hid (by rw [hW7, hg1]; exact ps_alloc_new w6 _)
      have HK7 : Hid (Below wr.heap.size wr W7) := Lib.hid (by rw [hW7]; exact HB6.out.alloc HB6.out.size _)
      have HL7 : Hid (LkAt W7 wr.heap.size (.slice a1 n1 c1) Q.ins.links) := Lib.hid (by rw [hW7]; exact LkAt.below HL6.out ((Below.refl _ _).alloc (Nat.le_refl _) _))
      have HB7 : Hid (Below w.heap.size w W7) := Lib.hid (HBR.out.trans (HK7.out.mono HBR.out.size))
      rw [← hW7, ← hg1]
      clear hW7 hg1 HB6 HL6 m2
      go_upto_region 13 with (go_at_call 9; refine (M3.out _ HB7.out).mono ?_; rintro e w8 ⟨a2, n2, c3, rfl, hl2, hb8⟩; have HL8 := Lib.hid hl2; have HB8 := Lib.hid hb8; clear hb8 hl2)
      obtain ⟨g2, hg2⟩ : ∃ g2, g2 = w8.heap.size := ⟨_, rfl⟩
      obtain ⟨W9, hW9⟩ : ∃ W9, W9 = w8.alloc (.cells (reqCells Q (.slice a2 n2 c3)) 29) := ⟨_, rfl⟩
      have hb9 : Below W7.heap.size W7 W9 := by rw [hW9]; exact HB8.out.alloc HB8.out.size _
      have HR9 : Hid (W9.heap[g1]? = some (.cells (reqCells Q (.slice a1 n1 c1)) 29 (0, 0))) := Lib.hid ((hb9.block g1 (Array.getElem?_eq_some_iff.1 HR7.out).1).trans HR7.out)
      have HS9 : Hid (W9.heap[g2]? = some (.cells (reqCells Q (.slice a2 n2 c3)) 29 (0, 0))) := Lib.hid (by rw [hW9, hg2]; exact ps_alloc_new w8 _)
      have HK9 : Hid (Below wr.heap.size wr W9) := Lib.hid (HK7.out.trans (hb9.mono HK7.out.size))
      have m4 := eq_req W9 Q wr.heap.size W7.heap.size a1 a2 n1 c1 n2 c3 hlk (LkAt.below HL7.out hb9) (by rw [hW9]; exact LkAt.below HL8.out ((Below.refl _ _).alloc (Nat.le_refl _) _))
      rw [← hW9, ← hg2]
      clear hW9 hg2 hb9 HB8 HL8 HL7 HR7 HB7 HK7 hst M3
      have hxx : (x != x) = false := by simp
      refine wp_region_lit ?_
      refine wpList_plain rfl (fun K hK => ?_)
      go_simp
      refine hK _ _ ?_
      clear hK K
      refine wpList_plain rfl (fun K hK => ?_)
      go_simp
      refine hK _ _ ?_
      clear hK K
      refine wpList_plain rfl (fun K hK => ?_)
      go_simp
      refine hK _ _ ?_
      clear hK K
      refine wpList_plain rfl (fun K hK => ?_)
      go_simp
      refine hK _ _ ?_
      clear hK K
      refine wl_loadW (by rfl) rfl rfl rfl (ld_req g1 Q (.slice a1 n1 c1) W9 HR9.out) ?_
      refine wl_loadW (by rfl) rfl rfl rfl (ld_req g2 Q (.slice a2 n2 c3) W9 HS9.out) ?_
      clear HR9 HS9
      go_upto_region 16 with (first | (go_at_call 16; refine m4.mono ?_; rintro e w10 ⟨rfl, hb10⟩; have HK10 := Lib.hid (HK9.out.trans (hb10.mono HK9.out.size)); clear hb10 m4) | (go_at_call 15; refine (T2.out _).mono ?_; rintro e w11 ⟨a4, M, c4, rfl, hl4, hlc4, hl5, hb11⟩; have HK11 := Lib.hid (HK10.out.trans (hb11.mono HK10.out.size)); have HL4 := Lib.hid hl4; have HL5 := Lib.hid (hl5 (by rw [hml.out]; exact hl0.out)); clear hb11 hl4 hl5))
      have HM := Lib.hid (hx.out)
      have HLG : Hid (L ≤ 301) := HLEN
      obtain ⟨tm, ha4, htm, hmh⟩ := HL5.out
      subst ha4
      have HMH := Lib.hid hmh
      have HHM := Lib.hid (HHR.out.below HK11.out HTR.out)
      have HB11 : Hid (Below w.heap.size w w11) := Lib.hid (HBR.out.trans (HK11.out.mono HBR.out.size))
      clear HK11 HK10 HK9 HL5 htm hmh HBR HHR HTR T2 hx hlk hfs
      rcases HM.out with hx0 | ⟨hx0, hx4, e, t, t', ht, ht', ho1, ho2, hlow⟩
      · clear HMH HHM HM hml hl0 HL2 HL4
        have hLp : (0 : Int) < (L : Int) := by
          have : ¬ (L : Int) = 0 := by simpa using hL0
          omega
        rcases hx0 with rfl | rfl
        all_goals
          go_wp2_with fail
          go_loopw [19] (fun iv wr => ∃ k : Nat, iv = .int .i64 k ∧ k = 0 ∧ wr = w11) (fun iv _ => 2000 - (RowKit.intOf iv).toNat)
          case atStart => exact ⟨0, rfl, rfl, rfl⟩
          case round =>
            obtain ⟨k, rfl, rfl, hwr⟩ := hrel
            subst hwr
            go_wp2_with fail
            go_ret
            exact ⟨rfl, HB11.out⟩
      · have hb0 : (x != 0) = true := by simpa using hx0
        have hb4 : (x != 4) = true := by simpa using hx4
        have heL : e < l.length := (List.getElem?_eq_some_iff.1 ht).1
        have HEL : Hid (e < L ∧ (e : Int) < (L : Int)) := Lib.hid (by rw [← HL2.out] at heL; exact ⟨heL, by omega⟩)
        have HEM : Hid (e < M ∧ (e : Int) < (M : Int)) := Lib.hid (by
          have h1 := (List.getElem?_eq_some_iff.1 ht').1
          rw [← HL4.out] at h1
          exact ⟨h1, by omega⟩)
        have hL301 : Hid (L ≤ 2000) := Lib.hid (by
          have h1 := HLG.out
          omega)
        have HLOW := Lib.hid hlow
        have HT := Lib.hid ht
        have HT' := Lib.hid ht'
        clear hx0 hx4 HM hml hl0 hlow ht ht' heL
        go_wp2_with fail
        go_loopw [19] (fun iv wr => ∃ k : Nat, iv = .int .i64 k ∧ k ≤ e ∧ wr = w11) (fun iv _ => 3000 - (RowKit.intOf iv).toNat)
        case atStart => exact ⟨0, rfl, Nat.zero_le _, rfl⟩
        case round =>
          obtain ⟨k, rfl, hk, hwr⟩ := hrel
          subst hwr
          by_cases hke : k < e
          · have hkL : (k : Int) < (L : Int) := by have := HEL.out.2; omega
            have hkL2 : k < L := by have := HEL.out.1; omega
            obtain ⟨u, hu⟩ : ∃ u, l[k]? = some u := ⟨_, List.getElem?_eq_getElem (by rw [← HL2.out]; exact hkL2)⟩
            obtain ⟨_, _, y3⟩ := HHM.out k u hu
            have hlt := HLOW.out k u hke hu
            obtain ⟨uo, huo⟩ : ∃ uo : Int, uo = (u.2.2 : Int) := ⟨_, rfl⟩
            rw [← huo] at y3
            have hne : (uo == o1) = false := by rw [beq_eq_false_iff_ne]; omega
            have HW1 : Hid (wrap64 ((k : Int) + 1) = ((k + 1 : Nat) : Int)) := Lib.hid (by have := hL301.out; unfold wrap64; omega)
            have HMS : Hid (3000 - (RowKit.intOf (.int .i64 (wrap64 ((k : Int) + 1)))).toNat < 3000 - (RowKit.intOf (.int .i64 (k : Int))).toNat) := Lib.hid (by have := hL301.out; rw [HW1.out]; simp [RowKit.intOf]; omega)
            clear hlt huo hu ho1 ho2 hL301 HLOW hk
            have hw1 := HW1.out
            go_wp2_with fail
            refine ⟨⟨k + 1, by first | rfl | go_num, hke, by first | rfl | trivial⟩, by first | exact HMS.out | (have h := HMS.out; push_cast at h ⊢; exact h) | (have h := HMS.out; simpa using h)⟩
          · have hke2 : k = e := by omega
            subst hke2
            have hkL := HEL.out.2
            have hkL2 := HEL.out.1
            have hkM := HEM.out.2
            have hkM2 := HEM.out.1
            obtain ⟨_, _, y3⟩ := HHM.out k t HT.out
            obtain ⟨_, _, y4⟩ := HMH.out k t' HT'.out
            rw [← ho1] at y3
            rw [← ho2] at y4
            clear ho1 ho2 hL301 HLOW hk hke HEL HEM HHM HMH HT HT'
            go_wp2_with fail
            go_ret
            exact ⟨by first | rfl | simp, HB11.out⟩

/-- a request that is parsed holds few links -/
theorem parse_links (s : ByteArray) (hs : s.size ≤ 1024) : (Ps.parse psE0 psR s).1.ins.links.length ≤ 8 := by
  obtain ⟨h1, h2⟩ := Ps.parse_valid psE0 psR s hs
  by_cases he : (Ps.parse psE0 psR s).2.2 = 0
  · obtain ⟨_, _, h3⟩ := Ps.reqE_ok psE0.valid _ (h1 he).1
    rcases h3 with ⟨_, h4, _⟩ | ⟨_, _, h4⟩ | ⟨_, h4⟩
    · exact h4.links
    · rw [h4]; exact Nat.zero_le _
    · rw [h4]; exact Nat.zero_le _
  · rw [(h2 he).1]; exact Nat.zero_le _

/-- the law -/
theorem law_pblanks {m : Int} {kb ko kc : Nat} {w : World} (env : PvEnv m kb ko kc w) (s : ByteArray) (v : Value) (gs : List Nat) (hs : s.size ≤ maxLen) (hv : U8At w v gs) :
    Calls Tryz.prog 5 #[.string s, v] w fun e W' => e = .returned (.bool true) ∧ Below w.heap.size w W' := by
  have hs63 : s.size ≤ 9223372036854775807 := by unfold maxLen at hs; omega
  have m1 : Hid (∀ W, Below w.heap.size w W → Calls Tryz.prog 8 #[] W fun e W' => e = .returned (.bool true) ∧ Below W.heap.size W W') := Lib.hid fun W hW => pr_known (env.below hW)
  obtain ⟨a, n, c, hva, hn, hnc⟩ : ∃ a n c, v = .slice a n c ∧ n = gs.length ∧ n ≤ c := by
    rcases hv with ⟨rfl, a, c, rfl⟩ | ⟨b, off, c, rfl, h1, h2, h3, h4⟩
    · exact ⟨a, 0, c, rfl, rfl, Nat.zero_le _⟩
    · exact ⟨_, _, c, rfl, rfl, h1⟩
  by_cases h1 : (300 : Int) < (s.size : Int)
  · subst hva
    exact pb_long w s a n c (Lib.hid (.inl h1)) hnc m1
  by_cases h2 : (n : Int) = 0
  · subst hva
    exact pb_long w s a n c (Lib.hid (.inr (.inl ⟨h1, h2⟩))) hnc m1
  by_cases h3 : (60 : Int) < (n : Int)
  · subst hva
    exact pb_long w s a n c (Lib.hid (.inr (.inr ⟨h1, h2, h3⟩))) hnc m1
  obtain ⟨⟨l, o, x⟩, ht⟩ : ∃ q, Lx.tokenize s = q := ⟨_, rfl⟩
  have t1 : ∀ W, TksC W s l o x := fun W => by
    have := tks_of s hs63 W
    rw [ht] at this
    exact this
  by_cases hx : x = 0
  · by_cases hl : l.length = 0
    · subst hva
      exact pb_none w s a n c h1 h2 h3 hnc l o x (Lib.hid (.inr ⟨by simp [hx], hl⟩)) m1 (Lib.hid t1)
    · subst hx
      have hs3 : s.size ≤ 300 := by omega
      obtain ⟨rfl, hg⟩ := Ps.tokenize_good s l o ht
      have bl := Ps.blank_law psE0 psR s l 0 gs hs3 ht (by omega)
      obtain ⟨F, hF⟩ : ∃ F : ByteArray, F = ⟨(Ps.blankL gs l).toArray⟩ := ⟨_, rfl⟩
      have hFs : F.size ≤ 700 := by rw [hF]; exact bl.size
      have hFR : F ++ ⟨#[32, 35, 32, 114, 101, 109, 97, 114, 107]⟩ = ⟨(Ps.blankL gs l ++ Ps.remark).toArray⟩ := by
        rw [hF]
        apply ByteArray.ext
        simp [Ps.remark]
      have hFRs : (F ++ ⟨#[32, 35, 32, 114, 101, 109, 97, 114, 107]⟩ : ByteArray).size ≤ 1000 := by
        rw [ByteArray.size_append]
        have : (⟨#[32, 35, 32, 114, 101, 109, 97, 114, 107]⟩ : ByteArray).size = 9 := rfl
        omega
      obtain ⟨P, hP⟩ : ∃ P, Ps.parse psE0 psR s = P := ⟨_, rfl⟩
      have p1 : ∀ W, Below w.heap.size w W → PrsC W s P.1 P.2.1 P.2.2 := fun W hW => by
        rw [← hP]
        exact prs_of env _ hs63 W hW
      have p2 : ∀ W, Below w.heap.size w W → PrsC W (F ++ ⟨#[32, 35, 32, 114, 101, 109, 97, 114, 107]⟩) P.1 (Ps.parse psE0 psR ⟨(Ps.blankL gs l ++ Ps.remark).toArray⟩).2.1 P.2.2 := fun W hW => by
        have := prs_of env (F ++ ⟨#[32, 35, 32, 114, 101, 109, 97, 114, 107]⟩) (by omega) W hW
        rw [hFR, bl.req, bl.er, hP] at this
        rw [hFR]
        exact this
      have t2 : ∀ W, TksC W F (Lx.toksOf (Ps.gapsOf gs l 0) 0) 0 0 := fun W => by
        have := tks_of F (by omega) W
        rw [hF, bl.tok] at this
        rw [hF]
        exact this
      have hlk := parse_links s (by omega)
      rw [hP] at hlk
      refine pb_main w s v gs h1 (Lib.hid hv) (by omega) (by omega) l _ F P.1 P.2.1 _ P.2.2 (Lib.hid (by omega)) (Lib.hid bl.len) (Lib.hid hg) (Lib.hid hF) (by omega) (Lib.hid ?_) m1 (Lib.hid t1) (Lib.hid t2) (Lib.hid p1) (Lib.hid p2)
      have ho := bl.off
      rw [hP] at ho
      rcases ho with h | h | h
      · exact .inl (.inl h)
      · exact .inl (.inr h)
      · by_cases h0 : P.2.2 = 0
        · exact .inl (.inl h0)
        · by_cases h4 : P.2.2 = 4
          · exact .inl (.inr h4)
          · exact .inr ⟨h0, h4, h⟩
  · subst hva
    exact pb_none w s a n c h1 h2 h3 hnc l o x (Lib.hid (.inl (by simp [hx]))) m1 (Lib.hid t1)
end Go.Proofs.YthijakidnkhbnaaGreatDoor
