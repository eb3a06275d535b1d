/-
  ParserOptions: the walk.
-/
import Derived.Test.YtampjeghdcpgfaaGreatDoorLawPValid
import Derived.Test.YtampjeghdcpgfaaGreatDoorPlOpts
import Derived.Test.YtampjeghdcpgfaaGreatDoorPsArgs
import Derived.Test.YtampjeghdcpgfaaGreatDoorRkCash
namespace Go.Proofs.YtampjeghdcpgfaaGreatDoor
open Go.RowKit

def lineB : List ByteArray := [⟨#[112, 97, 121, 32, 80, 49, 32, 102, 114, 111, 109, 32, 66, 65, 78, 75, 65, 32, 116, 111, 32, 66, 65, 78, 75, 66, 32, 97, 109, 111, 117, 110, 116, 32, 49, 53, 48, 48, 46, 48, 48, 32, 100, 97, 121, 32, 50, 48, 50, 54, 45, 49, 49, 45, 49, 54]⟩, ⟨#[100, 101, 108, 105, 118, 101, 114, 32, 68, 49, 32, 102, 114, 111, 109, 32, 66, 65, 78, 75, 65, 32, 116, 111, 32, 66, 65, 78, 75, 66, 32, 105, 115, 105, 110, 32, 85, 83, 48, 51, 55, 56, 51, 51, 49, 48, 48, 53, 32, 113, 117, 97, 110, 116, 105, 116, 121, 32, 49, 48, 48, 32, 97, 103, 97, 105, 110, 115, 116, 32, 50, 53, 48, 48, 48, 46, 48, 48, 32, 116, 114, 97, 100, 101, 32, 50, 48, 50, 54, 45, 49, 49, 45, 49, 50, 32, 100, 97, 121, 32, 50, 48, 50, 54, 45, 49, 49, 45, 49, 54]⟩, ⟨#[114, 101, 99, 101, 105, 118, 101, 32, 82, 49, 32, 102, 114, 111, 109, 32, 66, 65, 78, 75, 65, 32, 116, 111, 32, 66, 65, 78, 75, 66, 32, 105, 115, 105, 110, 32, 85, 83, 48, 51, 55, 56, 51, 51, 49, 48, 48, 53, 32, 113, 117, 97, 110, 116, 105, 116, 121, 32, 49, 48, 48, 32, 102, 114, 101, 101, 32, 116, 114, 97, 100, 101, 32, 50, 48, 50, 54, 45, 49, 49, 45, 49, 50, 32, 100, 97, 121, 32, 50, 48, 50, 54, 45, 49, 49, 45, 49, 54]⟩]
def wordB : List ByteArray := [⟨#[117, 114, 103, 101, 110, 116]⟩, ⟨#[112, 97, 114, 116, 105, 97, 108, 32, 49, 48]⟩, ⟨#[104, 111, 108, 100]⟩, ⟨#[114, 101, 115, 101, 114, 118, 101]⟩, ⟨#[104, 105, 103, 104]⟩]
/-- the line with options -/
def sOpt (k : Nat) (os : List Nat) : ByteArray := ⟨(Ps.optL k os).toArray⟩
theorem sOpt_base (k : Nat) (hk : k < 3) : lineB[k]? = some (sOpt k []) := by
  match k, hk with
  | 0, _ => rfl
  | 1, _ => rfl
  | 2, _ => rfl
theorem sOpt_next (k : Nat) (os : List Nat) (j : Nat) (hj : j < 5) (wd : ByteArray) (hw : wordB[j]? = some wd) : (sOpt k os ++ ⟨#[32]⟩) ++ wd = sOpt k (os ++ [j]) := by
  have e : Ps.optL k (os ++ [j]) = Ps.optL k os ++ Lx.lineOf (Ps.optP j) [] := by
    unfold Ps.optL
    rw [List.flatMap_append, ← List.append_assoc, Ps.lineOf_append]
    simp
  have e2 : Lx.lineOf (Ps.optP j) [] = 32 :: wd.data.toList := by
    match j, hj, hw with
    | 0, _, hw => cases hw; rfl
    | 1, _, hw => cases hw; rfl
    | 2, _, hw => cases hw; rfl
    | 3, _, hw => cases hw; rfl
    | 4, _, hw => cases hw; rfl
  unfold sOpt
  rw [e, e2]
  obtain ⟨⟨l⟩⟩ := wd
  apply ByteArray.ext
  simp
theorem sOpt_size (k : Nat) (os : List Nat) : (sOpt k os).size ≤ 200 + 11 * os.length := by
  show (Ps.optL k os).length ≤ _
  unfold Ps.optL
  rw [Ps.lineOf_append, List.length_append]
  have := Ps.opts_length os
  have := (Ps.base_ok k).2.2
  omega
theorem wordB_at (j : Nat) (hj : j < 5) : ∃ wd, wordB[j]? = some wd ∧ wd.size ≤ 10 := by
  match j, hj with
  | 0, _ => exact ⟨_, rfl, by decide⟩
  | 1, _ => exact ⟨_, rfl, by decide⟩
  | 2, _ => exact ⟨_, rfl, by decide⟩
  | 3, _ => exact ⟨_, rfl, by decide⟩
  | 4, _ => exact ⟨_, rfl, by decide⟩

theorem wl_loadW {P : Program} {ops : Array Oper} {Q : Exit → Act → World → Prop} {rest : List Oper} {o : Oper} {a : Act} {w : World} {t : TypeId} {x : Operand} {v u : Value} {d : Nat} (hw : Region.wanted o (yielded ops a.tmps) = true) (hd : o.dst = some d) (ho : o.op = .load t x) (hx : a.eval x = v) (hr : (Instr.loadAt t v).run P w = .ok u w) (h : wpList P ops Q rest ⟨a.tmps.setIfInBounds d u, a.defers⟩ w) : wpList P ops Q (o :: rest) a w := by
  refine BigFrame.wpList_want hw fun K hK => ?_
  unfold Oper.wp execOp
  rw [ho]
  simp only [hx, Sem.run_bind, hr, Result.andThen_ok]
  refine hK _ _ ?_
  rw [hd]
  exact h

theorem mod_fact {i t n q : Nat} (h : Hid (q = (i + t) % n)) : ((i : Int) + (t : Int)) % (n : Int) = (q : Int) ∧ ((i : Int) + (t : Int)).tmod (n : Int) = (q : Int) := by
  have e : ((i : Int) + (t : Int)) % (n : Int) = (q : Int) := by rw [h.out, Int.natCast_emod, Int.natCast_add]
  refine ⟨e, ?_⟩
  rw [Int.tmod_eq_emod_of_nonneg (by omega)]
  exact e

theorem mod5 {z zz : Nat} (h : Hid (zz = z % 5)) : (z : Int) % 5 = (zz : Int) ∧ (z : Int).tmod 5 = (zz : Int) ∧ IntKind.u8.wrap (zz : Int) = (zz : Int) ∧ zz < 5 ∧ (zz : Int) < 5 := by
  have h := h.out
  refine ⟨by omega, ?_, IntWalk.u8_in _ (by omega), by omega, by omega⟩
  rw [Int.tmod_eq_emod_of_nonneg (by omega)]
  omega
theorem str_next (kk i : Nat) (zs : List Nat) (f : ByteArray) (z zz : Nat) (wd : ByteArray) (hz : zs[i]? = some z) (hzz : Hid (zz = z % 5)) (l1 : zz < 5) (hwd : wordB[zz]? = some wd) (HF : Hid (f = sOpt kk ((zs.map (· % 5)).take i))) (hl : zs.length ≤ 8) :
    Hid (f ++ ⟨#[32]⟩ ++ wd = sOpt kk ((zs.map (· % 5)).take (i + 1))) ∧ Hid ((f ++ ⟨#[32]⟩ ++ wd).size ≤ 300) := by
  have ht1 : (zs.map (· % 5)).take (i + 1) = (zs.map (· % 5)).take i ++ [zz] := by
    rw [List.take_add_one, List.getElem?_map, hz, hzz.out]; rfl
  have e : f ++ ⟨#[32]⟩ ++ wd = sOpt kk ((zs.map (· % 5)).take (i + 1)) := by
    rw [ht1, HF.out]
    exact sOpt_next kk _ zz l1 wd hwd
  refine ⟨Lib.hid e, Lib.hid ?_⟩
  rw [e]
  have := sOpt_size kk ((zs.map (· % 5)).take (i + 1))
  rw [List.length_take, List.length_map] at this
  omega

/-- the options turned -/
def turnL (zs : List Nat) (t : Nat) : List Nat := (List.range zs.length).map fun i => (zs[(i + t) % zs.length]?).getD 0
theorem turnL_length (zs : List Nat) (t : Nat) : (turnL zs t).length = zs.length := by unfold turnL; simp
theorem turnL_at (zs : List Nat) (t i : Nat) (hi : i < zs.length) : ∃ z, zs[(i + t) % zs.length]? = some z ∧ (turnL zs t)[i]? = some z := by
  have hm := Nat.mod_lt (i + t) (Nat.lt_of_le_of_lt (Nat.zero_le _) hi)
  refine ⟨_, List.getElem?_eq_getElem hm, ?_⟩
  unfold turnL
  rw [List.getElem?_map, List.getElem?_range hi]
  simp [List.getElem?_eq_getElem hm]
theorem turnL_perm (zs : List Nat) (t : Nat) : zs.Perm (turnL zs t) := Ps.rot_perm zs t _ (turnL_length zs t) fun i hi => by
  obtain ⟨z, h1, h2⟩ := turnL_at zs t i hi
  rw [h1, h2]

/-- where the loop stands -/
def OptRel (kk n t : Nat) (zs : List Nat) (W5 : World) (fv gv iv : Value) (wr : World) : Prop := ∃ (i : Nat) (f g : ByteArray), iv = .int .i64 i ∧ i ≤ n ∧ fv = .string f ∧ gv = .string g ∧ f.size ≤ 300 ∧ g.size ≤ 300 ∧ Hid (f = sOpt kk ((zs.map (· % 5)).take i)) ∧ Hid (g = sOpt kk (((turnL zs t).map (· % 5)).take i)) ∧ wr = W5

set_option maxRecDepth 100000 in
set_option maxHeartbeats 1000000 in
theorem po_long (w : World) (k t : Nat) (a : Option Addr) (n c : Nat) (hn : (8 : Int) < (n : Int)) (_ : n ≤ c)
    (m1 : Hid (∀ W, Below w.heap.size w W → Calls Tryz.prog 11 #[] W fun e W' => e = .returned (.bool true) ∧ Below W.heap.size W W')) :
    Calls Tryz.prog 7 #[.int .u8 k, .slice a n c, .int .u8 t] w fun e W' => e = .returned (.bool true) ∧ Below w.heap.size w W' := by
  have HB0 : Hid (Below w.heap.size w w) := Lib.hid (Below.refl _ _)
  go_enter Tryz.func7, Tryz.ntmps7
  go_upto_region 2 with (go_at_call 11; refine (m1.out _ HB0.out).mono ?_; rintro e w1 ⟨rfl, hb1⟩; have HB1 := Lib.hid (HB0.out.trans (hb1.mono HB0.out.size)); clear hb1)
  go_wp2_with (go_at_call 11; refine (m1.out _ HB1.out).mono ?_; rintro e w2 ⟨rfl, hb2⟩; have HB2 := Lib.hid (HB1.out.trans (hb2.mono HB1.out.size)); clear hb2)
  go_ret
  exact ⟨rfl, HB2.out⟩

set_option maxRecDepth 100000 in
set_option maxHeartbeats 2000000 in
theorem po_main (w : World) (k t : Nat) (hk : k < 256) (ht : t < 256) (v : Value) (zs : List Nat) (hz : zs.length ≤ 8) (hv : Hid (U8At w v zs)) (F G : ByteArray) (Q : Ps.Req) (o1 x1 o2 x2 : Int) (be : Bool) (hF : Hid (F = sOpt (k % 3) (zs.map (· % 5)))) (hG : Hid (G = sOpt (k % 3) ((turnL zs t).map (· % 5)))) (hb1 : (x1 == 0) = be) (hb2 : (x2 == 0) = be)
    (hlk : Q.ins.links.length ≤ 1000)
    (m1 : Hid (∀ W, Below w.heap.size w W → Calls Tryz.prog 11 #[] W fun e W' => e = .returned (.bool true) ∧ Below W.heap.size W W'))
    (m2 : Hid (∀ W, Below w.heap.size w W → PrsC W F Q o1 x1)) (m3 : Hid (∀ W, Below w.heap.size w W → PrsC W G Q o2 x2)) :
    Calls Tryz.prog 7 #[.int .u8 k, v, .int .u8 t] w fun e W' => e = .returned (.bool true) ∧ Below w.heap.size w W' := by
  obtain ⟨a, n, c, rfl, hnz, hnc⟩ : ∃ a n c, v = .slice a n c ∧ n = zs.length ∧ n ≤ c := by
    rcases hv.out with ⟨rfl, a, c, rfl⟩ | ⟨b, off, c, rfl, h1, h2, h3, h4⟩
    · exact ⟨a, 0, c, rfl, rfl, Nat.zero_le _⟩
    · exact ⟨_, _, c, rfl, rfl, h1⟩
  have HN := Lib.hid hnz
  have hn8 : ¬ (8 : Int) < (n : Int) := by omega
  clear hnz
  have HB0 : Hid (Below w.heap.size w w) := Lib.hid (Below.refl _ _)
  have hk3 : (k : Int) % 3 = ((k % 3 : Nat) : Int) := by omega
  have hk3t : (k : Int).tmod 3 = ((k % 3 : Nat) : Int) := by rw [Int.tmod_eq_emod_of_nonneg (by omega)]; omega
  have hkw : IntKind.u8.wrap ((k % 3 : Nat) : Int) = ((k % 3 : Nat) : Int) := IntWalk.u8_in _ (by omega)
  obtain ⟨kk, hkk⟩ : ∃ kk, kk = k % 3 := ⟨_, rfl⟩
  have hkl : kk < 3 := by omega
  have hklI : (kk : Int) < 3 := by omega
  rw [← hkk] at hk3 hk3t hkw hF hG
  obtain ⟨bs, hbs⟩ : ∃ bs, lineB[kk]? = some bs := ⟨_, sOpt_base kk hkl⟩
  have HBS : Hid (bs = sOpt kk []) := Lib.hid (Option.some.inj (hbs.symm.trans (sOpt_base kk hkl)))
  have HLB := Lib.hid hbs
  clear hkk hbs
  go_enter Tryz.func7, Tryz.ntmps7
  go_upto_region 3 with (go_at_call 11; refine (m1.out _ HB0.out).mono ?_; rintro e w1 ⟨rfl, hb1⟩; have HB1 := Lib.hid (HB0.out.trans (hb1.mono HB0.out.size)); clear hb1)
  go_cut [7] (fun v wx => v = .string bs ∧ Hid (Below w.heap.size w wx))
  case first =>
    clear m1 m2 m3 hv hF hG
    go_wp2_with fail
    go_meet
    case rel =>
      refine ⟨?_, Lib.hid (HB1.out.alloc HB1.out.size _)⟩
      rcases (show kk = 0 ∨ kk = 1 ∨ kk = 2 by omega) with rfl | rfl | rfl
      all_goals
        have h := HLB.out
        cases h
        rfl
  case rest =>
    obtain ⟨rfl, HBX⟩ := hcut
    clear HLB HB1 hk3 hk3t hkw hklI
    go_upto_region 5 with fail
    obtain ⟨bw, hbw⟩ : ∃ bw, bw = wc.heap.size := ⟨_, rfl⟩
    obtain ⟨W5, hW5⟩ : ∃ W5, W5 = wc.alloc (Obj.cells #[Value.string { data := #[117, 114, 103, 101, 110, 116] }, Value.string { data := #[112, 97, 114, 116, 105, 97, 108, 32, 49, 48] }, Value.string { data := #[104, 111, 108, 100] }, Value.string { data := #[114, 101, 115, 101, 114, 118, 101] }, Value.string { data := #[104, 105, 103, 104] }] 9) := ⟨_, rfl⟩
    have HW : Hid (∀ (j : Nat) (wd : ByteArray), wordB[j]? = some wd → W5.cell? ⟨bw, j, none⟩ = some (.string wd)) := Lib.hid fun j wd hj => by
      have hrow : W5.heap[bw]? = some (.cells #[Value.string { data := #[117, 114, 103, 101, 110, 116] }, Value.string { data := #[112, 97, 114, 116, 105, 97, 108, 32, 49, 48] }, Value.string { data := #[104, 111, 108, 100] }, Value.string { data := #[114, 101, 115, 101, 114, 118, 101] }, Value.string { data := #[104, 105, 103, 104] }] 9 (0, 0)) := by rw [hW5, hbw]; exact ps_alloc_new wc _
      have hj5 : j < 5 := (List.getElem?_eq_some_iff.1 hj).1
      rw [cell_of_row _ _ _ _ _ _ hrow]
      match j, hj5, hj with
      | 0, _, hj => cases hj; rfl
      | 1, _, hj => cases hj; rfl
      | 2, _, hj => cases hj; rfl
      | 3, _, hj => cases hj; rfl
      | 4, _, hj => cases hj; rfl
    have HB5 : Hid (Below w.heap.size w W5) := Lib.hid (by rw [hW5]; exact HBX.out.alloc HBX.out.size _)
    rw [← hW5, ← hbw]
    clear hW5 hbw HBX
    go_wp2_with fail
    go_loopw [9, 10, 11] (fun fv gv iv wr => OptRel kk n t zs W5 fv gv iv wr) (fun _ _ iv _ => 2000 - (RowKit.intOf iv).toNat)
    case atStart =>
      have hs0 : bs.size ≤ 300 := by rw [HBS.out]; have := sOpt_size kk []; simp at this; omega
      exact ⟨0, bs, bs, rfl, Nat.zero_le _, rfl, rfl, hs0, hs0, HBS, HBS, rfl⟩
    case round =>
      obtain ⟨i, f, g, rfl, hi, rfl, rfl, hfs, hgs, HF, HG, rfl⟩ := hrel
      by_cases hlt : i < n
      · have hn0 := HN.out
        obtain ⟨b, off, rfl, hcells⟩ : ∃ b off, a = some ⟨b, off, none⟩ ∧ ∀ (j z : Nat), zs[j]? = some z → z < 256 ∧ wr.cell? ⟨b, off + j, none⟩ = some (.int .u8 (z : Int)) := by
          rcases hv.out with ⟨h0, _⟩ | ⟨b, off, c', hs, h1, h2, h3, h4⟩
          · rw [h0] at hn0; simp at hn0; omega
          · cases hs
            exact ⟨b, off, rfl, fun j z hz => ⟨(h4 j z hz).1, (HB5.out.cell h3).trans (h4 j z hz).2⟩⟩
        obtain ⟨z, hz1⟩ : ∃ z, zs[i]? = some z := ⟨_, List.getElem?_eq_getElem (by omega)⟩
        obtain ⟨z', hz2, hz3⟩ := turnL_at zs t i (by omega)
        have C1 : Hid (IntKind.i64.wrap (t : Int) = (t : Int)) := Lib.hid (wrI64 (by omega))
        have C2 : Hid (IntKind.i64.wrap ((i : Int) + (t : Int)) = (i : Int) + (t : Int)) := Lib.hid (wrI64 (by omega))
        have hltI : (i : Int) < (n : Int) := by omega
        have hnz : ¬ (n : Int) = 0 := by omega
        have HW1 : Hid (wrap64 ((i : Int) + 1) = ((i + 1 : Nat) : Int)) := Lib.hid (by unfold wrap64; omega)
        obtain ⟨q, hq⟩ : ∃ q, q = (i + t) % zs.length := ⟨_, rfl⟩
        rw [← hq] at hz2
        have hql : q < n := by rw [hq, hn0]; exact Nat.mod_lt _ (by omega)
        have hq' : Hid (q = (i + t) % n) := Lib.hid (by rw [hn0]; exact hq)
        clear hq
        have lq : (q : Int) < (n : Int) := by omega
        obtain ⟨hzb, y1⟩ := hcells i z hz1
        obtain ⟨hzb', y2⟩ := hcells q z' hz2
        obtain ⟨wd, hwd, hws⟩ := wordB_at (z % 5) (Nat.mod_lt _ (by omega))
        obtain ⟨wd', hwd', hws'⟩ := wordB_at (z' % 5) (Nat.mod_lt _ (by omega))
        have k1 := HW.out _ _ hwd
        have k2 := HW.out _ _ hwd'
        obtain ⟨zz, hzz⟩ : ∃ zz, Hid (zz = z % 5) := ⟨_, Lib.hid rfl⟩
        obtain ⟨zz', hzz'⟩ : ∃ zz', Hid (zz' = z' % 5) := ⟨_, Lib.hid rfl⟩
        rw [← hzz.out] at k1 hwd
        rw [← hzz'.out] at k2 hwd'
        obtain ⟨r1, r1t, r1w, l1, l1I⟩ := mod5 hzz
        obtain ⟨r2, r2t, r2w, l2, l2I⟩ := mod5 hzz'
        have c4 := (mod_fact hq').2
        obtain ⟨HF2, HS1⟩ := str_next kk i zs f z zz wd hz1 hzz l1 hwd HF hz
        obtain ⟨HG2, HS2⟩ := str_next kk i (turnL zs t) g z' zz' wd' hz3 hzz' l2 hwd' HG (by rw [turnL_length]; exact hz)
        have hw1 := HW1.out
        have c1 := C1.out
        have c2 := C2.out
        clear hcells hz1 hz2 hz3 hq' hzb hzb' hwd hwd' hzz hzz' HF HG hn0 HN HW HBS hF hG hv m1 m2 m3
        clear r1 r2
        go_upto_region 11 with fail
        clear c1 c2 c4
        go_upto_region 8 with fail
        clear r1t r1w r2t r2w y1 y2 k1 k2 lq l1I l2I hnz l1 l2 hql hws hws'
        generalize f ++ { data := #[32] } ++ wd = f2 at *
        generalize g ++ { data := #[32] } ++ wd' = g2 at *
        clear hfs hgs hlk hb1 hb2 hk ht hkl hz hnc hi
        go_wp2_with fail
        clear hw1
        refine ⟨⟨i + 1, f2, g2, by first | rfl | go_num, hlt, rfl, rfl, HS1.out, HS2.out, HF2, HG2, rfl⟩, by simp [RowKit.intOf] <;> omega⟩
      · have hin : i = n := by omega
        have hltI : ¬ (i : Int) < (n : Int) := by omega
        have HFF : Hid (f = F) := Lib.hid (by rw [HF.out, hF.out, hin, HN.out, List.take_of_length_le (by rw [List.length_map]; omega)])
        have HGG : Hid (g = G) := Lib.hid (by rw [HG.out, hG.out, hin, HN.out, List.take_of_length_le (by rw [List.length_map, turnL_length]; omega)])
        have M2 := Lib.hid (fun W (hW : Below w.heap.size w W) => (show PrsC W f Q o1 x1 from by rw [HFF.out]; exact m2.out W hW))
        have M3 := Lib.hid (fun W (hW : Below w.heap.size w W) => (show PrsC W g Q o2 x2 from by rw [HGG.out]; exact m3.out W hW))
        have hst := st_req
        clear HFF HGG HF HG hF hG m1 m2 m3 hv HN HW HBS hin
        go_upto_region 13 with (go_at_call 12; refine (M2.out _ HB5.out).mono ?_; rintro e w6 ⟨a1, n1, c1, rfl, hl1, hb6⟩; have HL6 := Lib.hid hl1; have HB6 := Lib.hid (HB5.out.trans (hb6.mono HB5.out.size)); clear hb6 hl1)
        obtain ⟨g1, hg1⟩ : ∃ g1, g1 = w6.heap.size := ⟨_, rfl⟩
        obtain ⟨W7, hW7⟩ : ∃ W7, W7 = w6.alloc (.cells (reqCells Q (.slice a1 n1 c1)) 29) := ⟨_, rfl⟩
        have HR7 : Hid (W7.heap[g1]? = some (.cells (reqCells Q (.slice a1 n1 c1)) 29 (0, 0))) := Lib.hid (by rw [hW7, hg1]; exact ps_alloc_new w6 _)
        have HB7 : Hid (Below w.heap.size w W7) := Lib.hid (by rw [hW7]; exact HB6.out.alloc HB6.out.size _)
        have HL7 : Hid (LkAt W7 wr.heap.size (.slice a1 n1 c1) Q.ins.links) := Lib.hid (by rw [hW7]; exact LkAt.below HL6.out ((Below.refl _ _).alloc (Nat.le_refl _) _))
        rw [← hW7, ← hg1]
        clear hW7 hg1 HB6 HL6
        go_upto_region 14 with (go_at_call 12; refine (M3.out _ HB7.out).mono ?_; rintro e w8 ⟨a2, n2, c2, rfl, hl2, hb8⟩; have HL8 := Lib.hid hl2; have HB8 := Lib.hid hb8; clear hb8 hl2)
        obtain ⟨g2, hg2⟩ : ∃ g2, g2 = w8.heap.size := ⟨_, rfl⟩
        obtain ⟨W9, hW9⟩ : ∃ W9, W9 = w8.alloc (.cells (reqCells Q (.slice a2 n2 c2)) 29) := ⟨_, rfl⟩
        have hb9 : Below W7.heap.size W7 W9 := by rw [hW9]; exact HB8.out.alloc HB8.out.size _
        have HR9 : Hid (W9.heap[g1]? = some (.cells (reqCells Q (.slice a1 n1 c1)) 29 (0, 0))) := Lib.hid ((hb9.block g1 (Array.getElem?_eq_some_iff.1 HR7.out).1).trans HR7.out)
        have HS9 : Hid (W9.heap[g2]? = some (.cells (reqCells Q (.slice a2 n2 c2)) 29 (0, 0))) := Lib.hid (by rw [hW9, hg2]; exact ps_alloc_new w8 _)
        have HB9 : Hid (Below w.heap.size w W9) := Lib.hid (HB7.out.trans (hb9.mono HB7.out.size))
        have m4 := eq_req W9 Q wr.heap.size W7.heap.size a1 a2 n1 c1 n2 c2 hlk (LkAt.below HL7.out hb9) (by rw [hW9]; exact LkAt.below HL8.out ((Below.refl _ _).alloc (Nat.le_refl _) _))
        rw [← hW9, ← hg2]
        clear hW9 hg2 hb9 HB8 HL8 HL7 HR7 HB7 hst M2 M3
        refine wp_region_lit ?_
        refine wpList_plain rfl (fun K hK => ?_)
        go_simp
        refine hK _ _ ?_
        clear hK K
        refine wpList_plain rfl (fun K hK => ?_)
        go_simp
        refine hK _ _ ?_
        clear hK K
        refine wpList_plain rfl (fun K hK => ?_)
        go_simp
        refine hK _ _ ?_
        clear hK K
        refine wpList_plain rfl (fun K hK => ?_)
        go_simp
        refine hK _ _ ?_
        clear hK K
        refine wpList_plain rfl (fun K hK => ?_)
        go_simp
        refine hK _ _ ?_
        clear hK K
        refine wpList_plain rfl (fun K hK => ?_)
        go_simp
        refine hK _ _ ?_
        clear hK K
        refine wl_loadW (by rfl) rfl rfl rfl (ld_req g1 Q (.slice a1 n1 c1) W9 HR9.out) ?_
        refine wl_loadW (by rfl) rfl rfl rfl (ld_req g2 Q (.slice a2 n2 c2) W9 HS9.out) ?_
        go_wp2_with (go_at_call 22; refine m4.mono ?_; rintro e w10 ⟨rfl, hb10⟩; have HB10 := Lib.hid (HB9.out.trans (hb10.mono HB9.out.size)); clear hb10 m4)
        go_ret
        exact ⟨rfl, HB10.out⟩

theorem opt_env : Ps.OptE psE0 where
  m1 := by decide +kernel
  m2 := by decide +kernel
  r0 := by decide +kernel
  r1 := by decide +kernel
  r2 := by decide +kernel
  is := by decide +kernel
  c0 := by decide +kernel
  c1 := by decide +kernel
  q := by decide +kernel
  ten := by decide +kernel
  d := by decide +kernel
  t := by decide +kernel

/-- the law -/
theorem law_poptions {m : Int} {kb ko kc : Nat} {w : World} (env : PvEnv m kb ko kc w) (k : Nat) (v : Value) (zs : List Nat) (t : Nat) (hk : k < 256) (hv : U8At w v zs) (ht : t < 256) :
    Calls Tryz.prog 7 #[.int .u8 k, v, .int .u8 t] w fun e W' => e = .returned (.bool true) ∧ Below w.heap.size w W' := by
  have m1 : Hid (∀ W, Below w.heap.size w W → Calls Tryz.prog 11 #[] W fun e W' => e = .returned (.bool true) ∧ Below W.heap.size W W') := Lib.hid fun W hW => pr_known (env.below hW)
  by_cases hz : zs.length ≤ 8
  · have hl1 : (zs.map (· % 5)).length ≤ 8 := by rw [List.length_map]; exact hz
    have hl2 : ((turnL zs t).map (· % 5)).length ≤ 8 := by rw [List.length_map, turnL_length]; exact hz
    have hp := Ps.opt_law psE0 opt_env psR (k % 3) (zs.map (· % 5)) ((turnL zs t).map (· % 5)) ((turnL_perm zs t).map _) hl1
    have hlk := Ps.opt_links psE0 opt_env psR (k % 3) (zs.map (· % 5)) hl1
    have hs1 := sOpt_size (k % 3) (zs.map (· % 5))
    have hs2 := sOpt_size (k % 3) ((turnL zs t).map (· % 5))
    obtain ⟨P, hP⟩ : ∃ P, Ps.parse psE0 psR (sOpt (k % 3) (zs.map (· % 5))) = P := ⟨_, rfl⟩
    obtain ⟨P', hP'⟩ : ∃ P', Ps.parse psE0 psR (sOpt (k % 3) ((turnL zs t).map (· % 5))) = P' := ⟨_, rfl⟩
    have q1 : ∀ W, Below w.heap.size w W → PrsC W (sOpt (k % 3) (zs.map (· % 5))) P.1 P.2.1 P.2.2 := fun W hW => by
      rw [← hP]
      exact prs_of env _ (by omega) W hW
    have q2 : ∀ W, Below w.heap.size w W → PrsC W (sOpt (k % 3) ((turnL zs t).map (· % 5))) P'.1 P'.2.1 P'.2.2 := fun W hW => by
      rw [← hP']
      exact prs_of env _ (by omega) W hW
    have hp1 : (P.2.2 = 0 ↔ P'.2.2 = 0) ∧ P.1 = P'.1 := by rw [← hP, ← hP']; exact hp
    have hlk1 : P.1.ins.links = [] := by rw [← hP]; exact hlk
    rw [← hp1.2] at q2
    refine po_main w k t hk ht v zs hz (Lib.hid hv) _ _ P.1 P.2.1 P.2.2 P'.2.1 P'.2.2 (P.2.2 == 0) (Lib.hid rfl) (Lib.hid rfl) rfl ?_ (by rw [hlk1]; decide) m1 (Lib.hid q1) (Lib.hid q2)
    rw [Bool.eq_iff_iff, beq_iff_eq, beq_iff_eq]
    exact hp1.1.symm
  · rcases hv with ⟨rfl, _⟩ | ⟨b, off, c, rfl, h1, h2, h3, h4⟩
    · simp at hz
    · exact po_long w k t _ _ c (by omega) h1 m1
end Go.Proofs.YtampjeghdcpgfaaGreatDoor
