/-
  A store on a disk of its own (laws Crash and Damage): Save, Load, Open under Holds.
  Two stores on one disk (law Stores) and a snapshot with one byte changed (law Damage), plain.
  Law Stores: newest and latest; the state of two stores.
-/
import Derived.Test.YtamencnachmhoaaGreatDoorCkKnows
import Derived.Test.YtamencnachmhoaaGreatDoorCkGood
import Derived.Test.YtamencnachmhoaaGreatDoorCkSeqs
import Derived.Deep.CutBlock
import Derived.Deep.CutRange

namespace Go.Proofs.YtamencnachmhoaaGreatDoor
open Go.RowKit

/-- a slice of slices of bytes that is read -/
def PiecesAt (W : World) (v0 : Value) (ps : List Dk.Bs) : Prop := ∃ a0 cap, v0 = .slice a0 ps.length cap ∧ ps.length ≤ 9223372036854775807 ∧
  ∀ i p, ps[i]? = some p → ∃ g off pv, a0 = some ⟨g, off, none⟩ ∧ W.cell? ⟨g, off + i, none⟩ = some pv ∧ RdB W W.heap.size pv p

theorem RdC.of_kn {W Wk : World} {c : Nat → Nat} {v : Value} {l : Dk.Bs} (K : Kn W Wk c) (h : RdB W W.heap.size v l) : RdC c Wk v l := by
  refine ⟨(h.below K.1).mono K.1.size, fun hne g hg => ?_⟩
  rcases h with ⟨h, _⟩ | ⟨g', off, cap, rfl, _, hg', _⟩
  · exact absurd h hne
  · simp only [Value.ownBlock, Option.some.injEq] at hg
    subst hg
    exact K.2 _ hg'

namespace Ck
/-- all snapshots that were saved -/
def full (k : Nat) (ps : List Bs) (i : Nat) : List (Nat × Bs) := (List.range i).map fun j => (k * j, ps.getD j [])
theorem full_succ (k : Nat) (ps : List Bs) (i : Nat) : full k ps (i + 1) = full k ps i ++ [(k * i, ps.getD i [])] := by
  unfold full
  rw [List.range_succ, List.map_append]
  rfl
theorem full_length (k : Nat) (ps : List Bs) (i : Nat) : (full k ps i).length = i := by unfold full; simp
theorem full_lt {k : Nat} (hk : 0 < k) (ps : List Bs) (i : Nat) : ∀ s ∈ full k ps i, s.1 < k * i := by
  intro s hs
  unfold full at hs
  obtain ⟨j, hj, rfl⟩ := List.mem_map.1 hs
  rw [List.mem_range] at hj
  exact Nat.mul_lt_mul_of_pos_left hj hk
theorem keep2_sub (l : List (Nat × Bs)) : ∀ s ∈ keep2 l, s ∈ l := fun _ h => List.mem_of_mem_drop h
theorem keep2_snoc (l : List (Nat × Bs)) (x : Nat × Bs) : keep2 (keep2 l ++ [x]) = keep2 (l ++ [x]) := by
  unfold keep2
  rw [List.length_append, List.length_drop, List.length_append, List.length_singleton]
  by_cases h : 2 ≤ l.length
  · rw [show l.length - (l.length - 2) + 1 - 2 = 1 from by omega, List.drop_append_of_le_length (by rw [List.length_drop]; omega), List.drop_append_of_le_length (by omega), List.drop_drop]
    congr 2; omega
  · rw [show l.length - 2 = 0 from by omega, List.drop_zero, Nat.sub_zero]
theorem keep2_nil : keep2 [] = [] := rfl
theorem full_last {k : Nat} {ps : List Bs} {i : Nat} (hi : 0 < i) : (keep2 (full k ps i)).getLast? = some (k * (i - 1), ps.getD (i - 1) []) := by
  obtain ⟨j, rfl⟩ : ∃ j, i = j + 1 := ⟨i - 1, by omega⟩
  rw [full_succ, keep2_last]
  rfl
theorem full_two {k : Nat} {ps : List Bs} {i : Nat} (hi : 0 < i) : ∃ r, keep2 (full k ps i) = r ++ [(k * (i - 1), ps.getD (i - 1) [])] ∧ r.getLast? = if i = 1 then none else some (k * (i - 2), ps.getD (i - 2) []) := by
  obtain ⟨j, rfl⟩ : ∃ j, i = j + 1 := ⟨i - 1, by omega⟩
  rw [full_succ, Nat.add_sub_cancel]
  cases j with
  | zero => exact ⟨[], rfl, rfl⟩
  | succ m =>
    rw [full_succ]
    refine ⟨[(k * m, ps.getD m [])], ?_, ?_⟩
    · unfold keep2
      rw [List.append_assoc, List.drop_append, List.drop_eq_nil_of_le (by simp [full_length])]
      simp [full_length]
    · rw [if_neg (by omega)]
      rfl
end Ck

/-- a store alone on its disk -/
structure CrSt (W : World) (nm : Ck.Bs) (l : List (Nat × Ck.Bs)) (c : Nat → Nat) (w : World) (s g : Nat) (D : Dk.D) : Prop where
  K : Kn W w c
  d : DiskAt 1 c w g D
  s : StIs c w s g nm
  H : Ck.Holds nm [] [] l none D
  up : D.down = false
  bud : D.bud = -1
  l2 : l.length ≤ 2

theorem CrSt.keepW {W : World} {nm : Ck.Bs} {l : List (Nat × Ck.Bs)} {c : Nat → Nat} {w w' : World} {s g : Nat} {D : Dk.D} (S : CrSt W nm l c w s g D) (hb : Below w.heap.size w w') : CrSt W nm l c w' s g D :=
  ⟨⟨S.K.1.trans (hb.mono S.K.1.size), S.K.2⟩, S.d.chg (Chg.of_belowSame (i := 2) hb) (by decide) (by decide), S.s.below hb, S.H, S.up, S.bud, S.l2⟩

/-- Save on an up disk, with any budget: what it leaves -/
theorem cr_save {W : World} {nm : Ck.Bs} {l : List (Nat × Ck.Bs)} {c : Nat → Nat} {w : World} {s g n : Nat} {D : Dk.D} {data : Ck.Bs} {bv : Value} (K : Kn W w c) (d : DiskAt 1 c w g D) (hs : StIs c w s g nm) (H : Ck.Holds nm [] [] l none D) (up : D.down = false) (hb : D.bud ≤ 9223372036854775807) (l2 : l.length ≤ 2)
    (hn : n < 100) (hd : data.length ≤ 1000000) (hgt : ∀ x ∈ l, x.1 < n) (hrd : RdB W W.heap.size bv data) :
    Calls Tryz.prog 19 #[.pointer (some ⟨s, 0, none⟩), .int .i64 n, bv] w fun e w' => ∃ c' r, e = .returned (.int .i64 r) ∧ ∃ D', Kn W w' c' ∧ DiskAt 1 c' w' g D' ∧ StIs c' w' s g nm ∧
      ((r = 0 ∧ D'.down = false ∧ (D.bud = -1 → D'.bud = -1) ∧ Ck.Holds nm [] [] (Ck.keep2 (l ++ [(n, data)])) none D') ∨
       (D.bud ≠ -1 ∧ r = 32 ∧ D'.down = true ∧ ((∃ t, Ck.Holds nm [] [] l t D') ∨ Ck.Holds nm [] [] (l ++ [(n, data)]) none D'))) := by
  have hseq : (Ck.seqs D nm).any (fun m => decide ((n : Int) ≤ (m : Int))) = false := by
    rw [H.seqs up, List.any_eq_false]
    intro m hm
    obtain ⟨x, hx, rfl⟩ := List.mem_map.1 hm
    have := hgt x hx
    simp; omega
  have nS := ck_Save d hs (by decide) up H.V.vp (RdC.of_kn K hrd) hd hn hseq (H.good up l2 (by omega) hd hgt hb (Ck.beside0 _) (Ck.beside0 _))
  refine nS.mono ?_
  rintro e w' ⟨c', rfl, d', h'⟩
  have hc := H.save up l2 (n := n) (data := data) (by omega) hd hgt
  refine ⟨c', _, rfl, _, K.chg h' (by decide), d', hs.chg h' (by decide), ?_⟩
  rcases hc with ⟨a1, a2, a3, a4⟩ | ⟨a0, a1, a2, a3⟩
  · exact .inl ⟨a1, a2, a3, a4⟩
  · exact .inr ⟨a0, a1, a2, a3⟩

theorem CrSt.save {W : World} {nm : Ck.Bs} {l : List (Nat × Ck.Bs)} {c : Nat → Nat} {w : World} {s g n : Nat} {D : Dk.D} {data : Ck.Bs} {bv : Value} (S : CrSt W nm l c w s g D) (hn : n < 100) (hd : data.length ≤ 1000000) (hgt : ∀ x ∈ l, x.1 < n) (hrd : RdB W W.heap.size bv data) :
    Calls Tryz.prog 19 #[.pointer (some ⟨s, 0, none⟩), .int .i64 n, bv] w fun e w' => e = .returned (.int .i64 0) ∧ ∃ c' D', CrSt W nm (Ck.keep2 (l ++ [(n, data)])) c' w' s g D' := by
  refine (cr_save S.K S.d S.s S.H S.up (by rw [S.bud]; decide) S.l2 hn hd hgt hrd).mono ?_
  rintro e w' ⟨c', r, rfl, D', K', d', s', ⟨rfl, a2, a3, H'⟩ | ⟨a0, -⟩⟩
  · exact ⟨rfl, c', D', K', d', s', H', a2, a3 S.bud, Ck.keep2_len _⟩
  · exact absurd S.bud a0

/-- Load: the last snapshot -/
theorem cr_load {nm : Ck.Bs} {D : Dk.D} {l : List (Nat × Ck.Bs)} {t : Option Dk.Fl} {c : Nat → Nat} {w : World} {s g : Nat} (d : DiskAt 1 c w g D) (hs : StIs c w s g nm) (H : Ck.Holds nm [] [] l t D) (up : D.down = false) (hb : D.bud ≤ 9223372036854775807) (l3 : l.length ≤ 3) :
    Calls Tryz.prog 25 #[.pointer (some ⟨s, 0, none⟩)] w fun e w' => ∃ v, e = .returned (.tuple #[.int .i64 (Ck.load D nm).1, v, .int .i64 (Ck.load D nm).2.2]) ∧ RdB w' w'.heap.size v (Ck.load D nm).2.1 ∧ Below w.heap.size w w' := by
  have hF := H.fit l3 hb (Ck.beside0 _) (Ck.beside0 _)
  have hnl := (Ck.vp_parts H.V.vp).2.2
  refine (ck_Load_up d hs (by decide) up hF.few2 (by omega) hF.nml hF.tame hF.ord).mono ?_
  rintro e w' ⟨v, rfl, o, b⟩
  exact ⟨v, rfl, RdB.of_own o, b⟩

end Go.Proofs.YtamencnachmhoaaGreatDoor

namespace Go.Proofs.YtamencnachmhoaaGreatDoor.Ck
open Go

theorem Fit.congr {nm : Bs} {d d' : Dk.D} (h : Fit nm d) (hn : d'.fs.map (·.1) = d.fs.map (·.1)) (hd : d'.down = d.down) (hb : d'.bud ≤ 9223372036854775807) : Fit nm d' := by
  have e : d'.names = d.names := by unfold Dk.D.names; rw [hd, hn]
  have e2 : filesF d' nm = filesF d nm := by unfold filesF; rw [e]
  have hl : d'.fs.length = d.fs.length := by have := congrArg List.length hn; simpa using this
  refine ⟨by rw [hl]; exact h.few, by rw [e]; exact h.nml, by rw [e]; exact h.tame, by rw [e2]; exact h.ord, hb⟩

theorem upd_names2 (n : Bs) (f : Dk.Fl) (fs : List (Bs × Dk.Fl)) : (Dk.upd n f fs).map (·.1) = fs.map (·.1) := by
  unfold Dk.upd
  rw [List.map_map]
  refine List.map_congr_left fun p _ => ?_
  show (if p.1 == n then (n, f) else p).1 = p.1
  split
  next h => exact (beq_iff_eq.1 h).symm
  next => rfl

theorem write_names (d : Dk.D) (n : Bs) (pos : Nat → Int) (b : Bs) : (d.write n pos b).1.fs.map (·.1) = d.fs.map (·.1) := by
  unfold Dk.D.write
  split
  · rfl
  · split
    · rfl
    · split
      · rfl
      · split
        · rfl
        · unfold Dk.D.modify
          split
          · rfl
          · exact upd_names2 _ _ _
theorem write_bud (d : Dk.D) (n : Bs) (pos : Nat → Int) (b : Bs) (h : d.bud ≤ 9223372036854775807) : (d.write n pos b).1.bud ≤ 9223372036854775807 := by
  unfold Dk.D.write
  repeat' split
  all_goals first | exact h | exact modify_bud _ h

theorem xor_ne {x b : UInt8} (h : b ≠ 0) : x ^^^ b ≠ x := by
  intro e
  have h2 := congrArg (fun y => x ^^^ y) e
  simp only [← UInt8.xor_assoc, UInt8.xor_self, UInt8.zero_xor] at h2
  exact h h2

/-! ### two stores -/
def sel (b : Bool) (ws : List Bool) (i : Nat) : List Nat := (List.range i).filter fun j => ws.getD j false == b
def sn (ls : List Bs) (l : List Nat) : List (Nat × Bs) := l.map fun j => (j, ls.getD j [])
theorem sel_yes {b : Bool} {ws : List Bool} {i : Nat} (h : ws[i]? = some b) : sel b ws (i + 1) = sel b ws i ++ [i] := by
  unfold sel
  rw [List.range_succ, List.filter_append]
  have : (ws.getD i false == b) = true := by rw [List.getD_eq_getElem?_getD, h]; simp
  simp only [List.filter, this]
theorem sel_no {b c : Bool} {ws : List Bool} {i : Nat} (h : ws[i]? = some c) (hc : c ≠ b) : sel b ws (i + 1) = sel b ws i := by
  unfold sel
  rw [List.range_succ, List.filter_append]
  have : (ws.getD i false == b) = false := by rw [List.getD_eq_getElem?_getD, h]; simpa using hc
  simp only [List.filter, this, List.append_nil]
theorem sel_lt (b : Bool) (ws : List Bool) (i : Nat) : ∀ j ∈ sel b ws i, j < i := fun j hj => List.mem_range.1 (List.mem_filter.1 hj).1
theorem sel_length (b : Bool) (ws : List Bool) (i : Nat) : (sel b ws i).length ≤ i := by
  have := List.length_filter_le (fun j => ws.getD j false == b) (List.range i)
  rw [List.length_range] at this
  exact this
theorem sn_snoc (ls : List Bs) (l : List Nat) (i : Nat) {d : Bs} (h : ls[i]? = some d) : sn ls (l ++ [i]) = sn ls l ++ [(i, d)] := by
  unfold sn
  rw [List.map_append]
  simp [List.getD_eq_getElem?_getD, h]
theorem sn_num (ls : List Bs) (l : List Nat) : (keep2 (sn ls l)).map (·.1) = l.drop (l.length - 2) := by
  unfold keep2 sn
  rw [← List.map_drop, List.map_map, List.length_map]
  exact List.map_id' _
theorem sn_lt {ls : List Bs} {b : Bool} {ws : List Bool} {i : Nat} : ∀ s ∈ keep2 (sn ls (sel b ws i)), s.1 < i := by
  intro s hs
  have := keep2_sub _ s hs
  unfold sn at this
  obtain ⟨j, hj, rfl⟩ := List.mem_map.1 this
  exact sel_lt b ws i j hj
theorem keep2_length (l : List (Nat × Bs)) : (keep2 l).length = min 2 l.length := by unfold keep2; rw [List.length_drop]; omega
theorem sn_last {ls : List Bs} {l : List Nat} {k : Nat} {d : Bs} (hk : l.getLast? = some k) (hd : ls[k]? = some d) : (keep2 (sn ls l)).getLast? = some (k, d) := by
  rcases List.eq_nil_or_concat l with rfl | ⟨l', s, rfl⟩
  · cases hk
  · rw [List.concat_eq_append] at hk ⊢
    rw [List.getLast?_append] at hk
    obtain rfl : s = k := by simpa using hk
    rw [sn_snoc ls l' s hd]
    exact keep2_last _ _

theorem besideT {l : List (Nat × Bs)} (h : Snaps l) : Beside nmS (snapF nmT l) := by
  intro x hx
  obtain ⟨s, hs, rfl⟩ := mem_snapF hx
  have hn := h.num s hs
  constructor
  · unfold Lib.hasPrefix
    show List.isPrefixOf [115, 45] (115 :: 49 :: _) = false
    simp [List.isPrefixOf]
  · show (fileName nmT s.1).length ≤ 1000
    rw [fileName_length (by omega)]
    decide
theorem besideS {l : List (Nat × Bs)} (h : Snaps l) : Beside nmT (snapF nmS l) := by
  intro x hx
  obtain ⟨s, hs, rfl⟩ := mem_snapF hx
  have hn := h.num s hs
  constructor
  · unfold Lib.hasPrefix
    show List.isPrefixOf [115, 49, 45] (115 :: 45 :: _) = false
    simp [List.isPrefixOf]
  · show (fileName nmS s.1).length ≤ 1000
    rw [fileName_length (by omega)]
    decide
end Go.Proofs.YtamencnachmhoaaGreatDoor.Ck
namespace Go.Proofs.YtamencnachmhoaaGreatDoor
open Go.RowKit

theorem Ck.Holds.nmlen {nm : Ck.Bs} {l : List (Nat × Ck.Bs)} {t : Option Dk.Fl} {d : Dk.D} (H : Ck.Holds nm [] [] l t d) : ∀ x ∈ d.fs, x.1.length ≤ 1000 := by
  have hnl := (Ck.vp_parts H.V.vp).2.2
  intro x hx
  rw [H.fs] at hx
  rcases List.mem_append.1 hx with hx | hx
  · obtain ⟨s, hs, rfl⟩ := Ck.mem_snapF (by simpa using hx)
    have hn := H.S.num s hs
    show (Ck.fileName nm s.1).length ≤ _
    rw [Ck.fileName_length (by omega)]; omega
  · cases t with
    | none => simp at hx
    | some f =>
      obtain rfl : x = (Ck.tmpName nm, f) := by simpa using hx
      show (Ck.tmpName nm).length ≤ _
      unfold Ck.tmpName
      rw [List.length_append]
      show nm.length + 4 ≤ _
      omega
end Go.Proofs.YtamencnachmhoaaGreatDoor

namespace Go.Proofs.YtamencnachmhoaaGreatDoor
open Go.RowKit

theorem ints_form {W : World} {B : Nat} {v : Value} {l : List Nat} (h : W.ownsRow B 3 1 v l.length (Ck.intCells l)) :
    ∃ a c, v = .slice a l.length c ∧ l.length ≤ c ∧ (a = none ∧ l.length = 0 ∧ c = 0 ∨ ∃ g, a = some ⟨g, 0, none⟩) ∧ ∀ (i x : Nat), l[i]? = some x → ∃ g, a = some ⟨g, 0, none⟩ ∧ W.cell? ⟨g, i, none⟩ = some (.int .i64 (x : Int)) := by
  have h2 := h
  obtain ⟨hl, ⟨rfl, h0⟩ | ⟨g, cap, cur, rfl, hB, hh, hnc, hcap, hcur, htake⟩⟩ := h
  · refine ⟨none, 0, by rw [h0], by omega, .inl ⟨rfl, h0, rfl⟩, fun i x hx => ?_⟩
    have := (List.getElem?_eq_some_iff.1 hx).1
    omega
  · refine ⟨_, cap, rfl, hnc, .inr ⟨g, rfl⟩, fun i x hx => ?_⟩
    obtain ⟨sb, cap', h1, h4, h3⟩ := own_formT h2 (by have := (List.getElem?_eq_some_iff.1 hx).1; omega)
    cases h1
    refine ⟨g, rfl, h3 i _ ?_⟩
    unfold Ck.intCells
    rw [List.getElem?_map, hx]
    rfl

set_option maxRecDepth 100000 in
set_option maxHeartbeats 1000000 in
theorem st_newest (W : World) (gv av : Value) (l : List Nat) {B1 B2 : Nat} (hg : W.ownsRow B1 3 1 gv (l.drop (l.length - 2)).length (Ck.intCells (l.drop (l.length - 2)))) (ha : W.ownsRow B2 3 1 av l.length (Ck.intCells l)) (hl : l.length ≤ 1000) :
    Calls Tryz.prog 20 #[gv, av] W fun e W' => e = .returned (.bool true) ∧ Below W.heap.size W W' := by
  obtain ⟨ga, gc, rfl, hgc, -, hgx⟩ := ints_form hg
  obtain ⟨aa, ac, rfl, hac, hor, hax⟩ := ints_form ha
  obtain ⟨k, hk⟩ : ∃ k, k = l.length - 2 := ⟨_, rfl⟩
  rw [← hk] at hgc hgx ⊢
  clear hg ha
  obtain ⟨m, hm⟩ : ∃ m, l.length = k + m := ⟨l.length - k, by omega⟩
  have hml : (l.drop k).length = m := by rw [List.length_drop, hm]; omega
  have hkI : max (0 : Int) ((k : Int) + (m : Int) - 2) = (k : Int) := by omega
  rw [hml] at hgc ⊢
  have HG : Hid (∀ i x : Nat, (l.drop k)[i]? = some x → ∃ g, ga = some ⟨g, 0, none⟩ ∧ W.cell? ⟨g, i, none⟩ = some (.int .i64 (x : Int))) := Lib.hid hgx
  have HX : Hid (∀ i x : Nat, l[i]? = some x → ∃ g, aa = some ⟨g, 0, none⟩ ∧ W.cell? ⟨g, i, none⟩ = some (.int .i64 (x : Int))) := Lib.hid hax
  have HM := Lib.hid hm
  rw [hm] at hac hl hor ⊢
  clear hgx hax hml hk hm
  rcases hor with ⟨rfl, h0, rfl⟩ | ⟨g2, rfl⟩
  · obtain rfl : k = 0 := by omega
    obtain rfl : m = 0 := by omega
    clear h0 hkI hgc hac HG HX HM hl
    go_enter Tryz.func20, Tryz.ntmps20
    go_wp2_with fail
    go_loopw [5] (fun iv wr => iv = .int .i64 0 ∧ wr = W) (fun iv _ => 0)
    case atStart => exact ⟨rfl, rfl⟩
    case round =>
      obtain ⟨rfl, rfl⟩ := hrel
      go_wp2_with fail
      go_ret
      exact ⟨rfl, Below.refl _ _⟩
  · by_cases hcap : ac = k
    all_goals
      go_enter Tryz.func20, Tryz.ntmps20
      go_wp2_with fail
      go_loopw [5] (fun iv wr => ∃ i : Nat, iv = .int .i64 i ∧ i ≤ m ∧ Hid (Below W.heap.size W wr)) (fun iv _ => m - (RowKit.intOf iv).toNat)
      case atStart => exact ⟨0, rfl, Nat.zero_le _, Lib.hid (Below.refl _ _)⟩
      case round =>
        obtain ⟨i, rfl, hi, HB⟩ := hrel
        by_cases hlt : i < m
        · have hki : k + i < l.length := by have := HM.out; omega
          have hac2 : ac ≠ k := by omega
          obtain ⟨x, hx⟩ : ∃ x, l[k + i]? = some x := ⟨_, List.getElem?_eq_getElem hki⟩
          obtain ⟨g1, rfl, y1⟩ := HG.out i x (by rw [List.getElem?_drop]; exact hx)
          obtain ⟨g3, hg3, y2⟩ := HX.out (k + i) x hx
          cases hg3
          clear hx hki
          first
            | exact absurd hcap hac2
            | (go_wp2_with fail
               have z1 : wr.drew.cell? ⟨g1, i, none⟩ = _ := (HB.out.cell (p := ⟨g1, i, none⟩) (World.block_lt_of_cell? W _ y1)).trans y1
               have z2 : wr.drew.cell? ⟨g2, k + i, none⟩ = _ := (HB.out.cell (p := ⟨g2, k + i, none⟩) (World.block_lt_of_cell? W _ y2)).trans y2
               refine wp_region_still_lit (by kernel_rfl) (by kernel_rfl) ?_
               change wpStill _ _ (World.drew _) _ _ _
               repeat still_step
               refine wpStill_nil ?_
               change Exit.then _ _ Exit.normal _ (World.drew wr)
               have b9 : Below W.heap.size W wr.drew := HB.out.drew
               clear z1 z2
               generalize wr.drew = w9 at *
               go_wp2_with fail
               exact ⟨⟨i + 1, by go_num, by omega, Lib.hid b9⟩, by simp [RowKit.intOf]; omega⟩)
        · obtain rfl : i = m := by omega
          go_wp2_with fail
          go_ret
          exact ⟨rfl, HB.out⟩

/-- two stores on a disk, and the lists of their numbers -/
structure TwSt (W : World) (ls : List Ck.Bs) (c : Nat → Nat) (w : World) (s t g : Nat) (D : Dk.D) (L1 L2 o1 o2 : List Nat) (ov tv : Value) : Prop where
  K : Kn W w c
  d : DiskAt 1 c w g D
  s : StIs c w s g Ck.nmS
  t : StIs c w t g Ck.nmT
  T : Ck.Two (Ck.keep2 (Ck.sn ls L1)) (Ck.keep2 (Ck.sn ls L2)) D
  o : w.ownsRow 0 3 1 ov o1.length (Ck.intCells o1)
  oc : ∀ b, ov.ownBlock = some b → c b = 5
  u : w.ownsRow 0 3 1 tv o2.length (Ck.intCells o2)
  uc : ∀ b, tv.ownBlock = some b → c b = 6

section
variable {W : World} {ls : List Ck.Bs} {c : Nat → Nat} {w : World} {s t g : Nat} {D : Dk.D} {L1 L2 o1 o2 : List Nat} {ov tv : Value}
theorem TwSt.keepW {w' : World} (S : TwSt W ls c w s t g D L1 L2 o1 o2 ov tv) (hb : Below w.heap.size w w') : TwSt W ls c w' s t g D L1 L2 o1 o2 ov tv :=
  ⟨⟨S.K.1.trans (hb.mono S.K.1.size), S.K.2⟩, S.d.chg (Chg.of_belowSame (i := 2) hb) (by decide) (by decide), S.s.below hb, S.t.below hb, S.T, own_keep S.o (fun b hb2 => hb.block b (S.o.lt b hb2).2), S.oc, own_keep S.u (fun b hb2 => hb.block b (S.u.lt b hb2).2), S.uc⟩
theorem TwSt.fitS (S : TwSt W ls c w s t g D L1 L2 o1 o2 ov tv) : Ck.Fit Ck.nmS D := S.T.s.fit (by have := S.T.n1; omega) (by rw [S.T.bud]; decide) (Ck.beside0 _) (Ck.besideT S.T.S2)
theorem TwSt.fitT (S : TwSt W ls c w s t g D L1 L2 o1 o2 ov tv) : Ck.Fit Ck.nmT D := S.T.t.fit (by have := S.T.n2; omega) (by rw [S.T.bud]; decide) (Ck.besideS S.T.S1) (Ck.beside0 _)
theorem TwSt.seqS (S : TwSt W ls c w s t g D L1 L2 o1 o2 ov tv) : Calls Tryz.prog 21 #[.pointer (some ⟨s, 0, none⟩)] w fun e W' => ∃ v, e = .returned v ∧ W'.ownsRow w.heap.size 3 1 v (L1.drop (L1.length - 2)).length (Ck.intCells (L1.drop (L1.length - 2))) ∧ Below w.heap.size w W' := by
  have h := ck_Sequences S.d S.s (by decide) S.fitS.few2 (by decide) S.fitS.nml S.fitS.tame S.fitS.ord
  rw [S.T.s.seqs S.T.up, Ck.sn_num] at h
  exact h
theorem TwSt.seqT (S : TwSt W ls c w s t g D L1 L2 o1 o2 ov tv) : Calls Tryz.prog 21 #[.pointer (some ⟨t, 0, none⟩)] w fun e W' => ∃ v, e = .returned v ∧ W'.ownsRow w.heap.size 3 1 v (L2.drop (L2.length - 2)).length (Ck.intCells (L2.drop (L2.length - 2))) ∧ Below w.heap.size w W' := by
  have h := ck_Sequences S.d S.t (by decide) S.fitT.few2 (by decide) S.fitT.nml S.fitT.tame S.fitT.ord
  rw [S.T.t.seqs S.T.up, Ck.sn_num] at h
  exact h
theorem TwSt.names (S : TwSt W ls c w s t g D L1 L2 o1 o2 ov tv) : D.names.length = min 2 L1.length + min 2 L2.length := by
  unfold Dk.D.names
  rw [if_neg (by simp [S.T.up]), List.length_map, S.T.fs, List.length_append]
  unfold Ck.snapF
  rw [List.length_map, List.length_map, Ck.keep2_length, Ck.keep2_length]
  unfold Ck.sn
  rw [List.length_map, List.length_map]
theorem TwSt.pushO (S : TwSt W ls c w s t g D L1 L2 o1 o2 ov tv) (i : Nat) (hl : o1.length ≤ 100) :
    ∃ v1 w1, (Builtin.append_ #[46, 46] 46 #[ov, .slice (some ⟨w.heap.size, 0, none⟩) 1 1]).run Tryz.prog (w.alloc (.cells #[.int .i64 i] 3)) = .ok v1 w1 ∧
      TwSt W ls (pnt c w.heap.size 5) w1 s t g D L1 L2 (o1 ++ [i]) o2 v1 tv ∧ ∃ a cp, v1 = .slice a (o1.length + 1) cp := by
  obtain ⟨i0, hi, hz0, hz1, hz2⟩ := info_parts infoInt
  have hrow0 : (w.alloc (.cells #[.int .i64 i] 3)).heap[w.heap.size]? = some (.cells #[.int .i64 i] 3 (0, 0)) := heap_alloc_new w _
  have hb0 : Below w.heap.size w (w.alloc (.cells #[.int .i64 i] 3)) := (Below.refl _ _).alloc (Nat.le_refl _) _
  obtain ⟨v1, w1, hr1, ho1, hg1, hat1⟩ := wl_append_at (w := w.alloc (.cells #[.int .i64 i] 3)) 46 46 3 i0 (.int .i64 0) 1 8 Tryz.underlying46 hi hz0 hz1 hz2 rfl (by decide) 0 ov o1.length (Ck.intCells o1)
    (own_keep S.o (fun b hb2 => hb0.block b (S.o.lt b hb2).2)) (some ⟨w.heap.size, 0, none⟩) 1 1 [.int .i64 i] rfl
    (fun a ha j u hj => by cases ha; rw [dk_add, cell_of_row _ _ _ _ _ _ hrow0]; simpa using hj) (fun e => by cases e) (by intro u hu; simp at hu; rcases hu with rfl; rfl) (by unfold maxLen; omega) (by omega) (Nat.zero_le _)
  have hsz1 : w.heap.size < w1.heap.size := by have := hg1.size; simp at this; omega
  have hC : Chg 5 c (pnt c w.heap.size 5) w w1 := by
    refine ⟨hg1.os.trans hb0.os, hg1.tape.trans hb0.tape, hg1.output.trans hb0.output, by omega, fun b hb hc => ?_, fun b hb => pnt_old hb⟩
    exact (hg1.block b (by simp; omega) (fun e => hc (S.oc b e.symm))).trans (hb0.block b hb)
  obtain ⟨a1, c1, rfl⟩ := own_slice ho1
  refine ⟨_, w1, hr1, ⟨S.K.chg hC (by decide), S.d.chg hC (by decide) (by decide), S.s.chg hC (by decide), S.t.chg hC (by decide), S.T, ?_, fun b hb => ?_, own_keep S.u (fun b hb => hC.block b (S.u.lt b hb).2 (by rw [S.uc b hb]; decide)), fun b hb => (hC.col b (S.u.lt b hb).2).trans (S.uc b hb)⟩, a1, c1, rfl⟩
  · rw [List.length_append]
    unfold Ck.intCells at ho1 ⊢
    rw [List.map_append]
    exact ho1
  · rcases hat1 with e | e
    · rw [e] at hb
      rw [pnt_old (S.o.lt b hb).2]
      exact S.oc b hb
    · rw [e] at hb
      cases hb
      exact pnt_new (by simp)
theorem TwSt.pushU (S : TwSt W ls c w s t g D L1 L2 o1 o2 ov tv) (i : Nat) (hl : o2.length ≤ 100) :
    ∃ v1 w1, (Builtin.append_ #[46, 46] 46 #[tv, .slice (some ⟨w.heap.size, 0, none⟩) 1 1]).run Tryz.prog (w.alloc (.cells #[.int .i64 i] 3)) = .ok v1 w1 ∧
      TwSt W ls (pnt c w.heap.size 6) w1 s t g D L1 L2 o1 (o2 ++ [i]) ov v1 ∧ ∃ a cp, v1 = .slice a (o2.length + 1) cp := by
  obtain ⟨i0, hi, hz0, hz1, hz2⟩ := info_parts infoInt
  have hrow0 : (w.alloc (.cells #[.int .i64 i] 3)).heap[w.heap.size]? = some (.cells #[.int .i64 i] 3 (0, 0)) := heap_alloc_new w _
  have hb0 : Below w.heap.size w (w.alloc (.cells #[.int .i64 i] 3)) := (Below.refl _ _).alloc (Nat.le_refl _) _
  obtain ⟨v1, w1, hr1, ho1, hg1, hat1⟩ := wl_append_at (w := w.alloc (.cells #[.int .i64 i] 3)) 46 46 3 i0 (.int .i64 0) 1 8 Tryz.underlying46 hi hz0 hz1 hz2 rfl (by decide) 0 tv o2.length (Ck.intCells o2)
    (own_keep S.u (fun b hb2 => hb0.block b (S.u.lt b hb2).2)) (some ⟨w.heap.size, 0, none⟩) 1 1 [.int .i64 i] rfl
    (fun a ha j u hj => by cases ha; rw [dk_add, cell_of_row _ _ _ _ _ _ hrow0]; simpa using hj) (fun e => by cases e) (by intro u hu; simp at hu; rcases hu with rfl; rfl) (by unfold maxLen; omega) (by omega) (Nat.zero_le _)
  have hsz1 : w.heap.size < w1.heap.size := by have := hg1.size; simp at this; omega
  have hC : Chg 6 c (pnt c w.heap.size 6) w w1 := by
    refine ⟨hg1.os.trans hb0.os, hg1.tape.trans hb0.tape, hg1.output.trans hb0.output, by omega, fun b hb hc => ?_, fun b hb => pnt_old hb⟩
    exact (hg1.block b (by simp; omega) (fun e => hc (S.uc b e.symm))).trans (hb0.block b hb)
  obtain ⟨a1, c1, rfl⟩ := own_slice ho1
  refine ⟨_, w1, hr1, ⟨S.K.chg hC (by decide), S.d.chg hC (by decide) (by decide), S.s.chg hC (by decide), S.t.chg hC (by decide), S.T, own_keep S.o (fun b hb => hC.block b (S.o.lt b hb).2 (by rw [S.oc b hb]; decide)), fun b hb => (hC.col b (S.o.lt b hb).2).trans (S.oc b hb), ?_, fun b hb => ?_⟩, a1, c1, rfl⟩
  · rw [List.length_append]
    unfold Ck.intCells at ho1 ⊢
    rw [List.map_append]
    exact ho1
  · rcases hat1 with e | e
    · rw [e] at hb
      rw [pnt_old (S.u.lt b hb).2]
      exact S.uc b hb
    · rw [e] at hb
      cases hb
      exact pnt_new (by simp)
theorem TwSt.saveS (S : TwSt W ls c w s t g D L1 L2 o1 o2 ov tv) {i : Nat} {p : Ck.Bs} {bv : Value} (hi : i < 100) (hp : ls[i]? = some p) (hpl : p.length ≤ 1000000) (hgt : ∀ j ∈ L1, j < i) (hrd : RdB W W.heap.size bv p) :
    Calls Tryz.prog 19 #[.pointer (some ⟨s, 0, none⟩), .int .i64 i, bv] w fun e w' => e = .returned (.int .i64 0) ∧ ∃ c' D', TwSt W ls c' w' s t g D' (L1 ++ [i]) L2 o1 o2 ov tv := by
  have H := S.T.s
  have hlt : ∀ x ∈ Ck.keep2 (Ck.sn ls L1), x.1 < i := fun x hx => by
    have := Ck.keep2_sub _ x hx
    unfold Ck.sn at this
    obtain ⟨j, hj, rfl⟩ := List.mem_map.1 this
    exact hgt j hj
  have hseq : (Ck.seqs D Ck.nmS).any (fun m => decide ((i : Int) ≤ (m : Int))) = false := by
    rw [H.seqs S.T.up, List.any_eq_false]
    intro m hm
    obtain ⟨x, hx, rfl⟩ := List.mem_map.1 hm
    have := hlt x hx
    simp; omega
  have nS := ck_Save S.d S.s (by decide) S.T.up H.V.vp (RdC.of_kn S.K hrd) hpl hi hseq (H.good S.T.up S.T.n1 (by omega) hpl hlt (by rw [S.T.bud]; decide) (Ck.beside0 _) (Ck.besideT S.T.S2))
  obtain ⟨h0, hT⟩ := S.T.saveS (n := i) (data := p) (by omega) hpl hlt
  rw [Ck.keep2_snoc, ← Ck.sn_snoc ls L1 i hp] at hT
  refine nS.mono ?_
  rintro e w' ⟨c', rfl, d', h'⟩
  rw [h0]
  exact ⟨rfl, c', _, S.K.chg h' (by decide), d', S.s.chg h' (by decide), S.t.chg h' (by decide), hT, own_keep S.o (fun b hb => h'.block b (S.o.lt b hb).2 (by rw [S.oc b hb]; decide)), fun b hb => (h'.col b (S.o.lt b hb).2).trans (S.oc b hb),
    own_keep S.u (fun b hb => h'.block b (S.u.lt b hb).2 (by rw [S.uc b hb]; decide)), fun b hb => (h'.col b (S.u.lt b hb).2).trans (S.uc b hb)⟩
theorem TwSt.saveT (S : TwSt W ls c w s t g D L1 L2 o1 o2 ov tv) {i : Nat} {p : Ck.Bs} {bv : Value} (hi : i < 100) (hp : ls[i]? = some p) (hpl : p.length ≤ 1000000) (hgt : ∀ j ∈ L2, j < i) (hrd : RdB W W.heap.size bv p) :
    Calls Tryz.prog 19 #[.pointer (some ⟨t, 0, none⟩), .int .i64 i, bv] w fun e w' => e = .returned (.int .i64 0) ∧ ∃ c' D', TwSt W ls c' w' s t g D' L1 (L2 ++ [i]) o1 o2 ov tv := by
  have H := S.T.t
  have hlt : ∀ x ∈ Ck.keep2 (Ck.sn ls L2), x.1 < i := fun x hx => by
    have := Ck.keep2_sub _ x hx
    unfold Ck.sn at this
    obtain ⟨j, hj, rfl⟩ := List.mem_map.1 this
    exact hgt j hj
  have hseq : (Ck.seqs D Ck.nmT).any (fun m => decide ((i : Int) ≤ (m : Int))) = false := by
    rw [H.seqs S.T.up, List.any_eq_false]
    intro m hm
    obtain ⟨x, hx, rfl⟩ := List.mem_map.1 hm
    have := hlt x hx
    simp; omega
  have nS := ck_Save S.d S.t (by decide) S.T.up H.V.vp (RdC.of_kn S.K hrd) hpl hi hseq (H.good S.T.up S.T.n2 (by omega) hpl hlt (by rw [S.T.bud]; decide) (Ck.besideS S.T.S1) (Ck.beside0 _))
  obtain ⟨h0, hT⟩ := S.T.saveT (n := i) (data := p) (by omega) hpl hlt
  rw [Ck.keep2_snoc, ← Ck.sn_snoc ls L2 i hp] at hT
  refine nS.mono ?_
  rintro e w' ⟨c', rfl, d', h'⟩
  rw [h0]
  exact ⟨rfl, c', _, S.K.chg h' (by decide), d', S.s.chg h' (by decide), S.t.chg h' (by decide), hT, own_keep S.o (fun b hb => h'.block b (S.o.lt b hb).2 (by rw [S.oc b hb]; decide)), fun b hb => (h'.col b (S.o.lt b hb).2).trans (S.oc b hb),
    own_keep S.u (fun b hb => h'.block b (S.u.lt b hb).2 (by rw [S.uc b hb]; decide)), fun b hb => (h'.col b (S.u.lt b hb).2).trans (S.uc b hb)⟩
end

set_option maxRecDepth 100000 in
set_option maxHeartbeats 1000000 in
theorem st_latest {W : World} {ls : List Ck.Bs} {c : Nat → Nat} {w : World} {s g : Nat} {D : Dk.D} {nm : Ck.Bs} {pre post : List (Ck.Bs × Dk.Fl)} {L : List Nat} {av lv : Value} (K : Kn W w c) (d : DiskAt 1 c w g D) (hs : StIs c w s g nm)
    (H : Ck.Holds nm pre post (Ck.keep2 (Ck.sn ls L)) none D) (up : D.down = false) (bud : D.bud = -1) (B1 : Ck.Beside nm pre) (B2 : Ck.Beside nm post) (hown : w.ownsRow 0 3 1 av L.length (Ck.intCells L)) (hps : PiecesAt W lv ls)
    (hL : ∀ j ∈ L, j < ls.length) (hLl : L.length ≤ 100) (hls : ls.length ≤ 100) :
    Calls Tryz.prog 23 #[.pointer (some ⟨s, 0, none⟩), av, lv] w fun e w' => e = .returned (.bool true) ∧ Below w.heap.size w w' := by
  have hF := H.fit (by have := Ck.keep2_len (Ck.sn ls L); omega) (by rw [bud]; decide) B1 B2
  have hnl := (Ck.vp_parts H.V.vp).2.2
  have nL := ck_Load_up d hs (by decide) up hF.few2 (by omega) hF.nml hF.tame hF.ord
  have hld := H.load up
  obtain ⟨aa, ac, rfl, hac, -, hax⟩ := ints_form hown
  obtain ⟨a0, cap0, rfl, hpl, hp⟩ := hps
  clear hF hnl d hs H hown
  rcases List.eq_nil_or_concat L with rfl | ⟨L', k, rfl⟩
  · rw [show Ck.keep2 (Ck.sn ls []) = [] from rfl] at hld
    simp only [List.getLast?_nil] at hld
    rw [hld] at nL
    simp only [] at nL
    clear hld hax hp
    go_enter Tryz.func23, Tryz.ntmps23
    go_wp2_with fail
    refine nL.mono ?_
    rintro e W1 ⟨v1, rfl, o1, b1⟩
    have HB := Lib.hid b1
    obtain ⟨a1, c1, rfl⟩ := own_slice o1
    clear nL b1 o1
    go_wp2_with fail
    go_ret
    exact ⟨rfl, HB.out⟩
  · rw [List.concat_eq_append] at *
    have hk := hL k (by simp)
    obtain ⟨p, hpk⟩ : ∃ p, ls[k]? = some p := ⟨_, List.getElem?_eq_getElem hk⟩
    rw [Ck.sn_last (k := k) (by simp) hpk] at hld
    simp only [] at hld
    rw [hld] at nL
    simp only [] at nL
    obtain ⟨m, hm⟩ : ∃ m, (L' ++ [k]).length = m + 1 := ⟨L'.length, by simp⟩
    have hmm : L'.length = m := by simpa using hm
    obtain ⟨ag, rfl, y0⟩ := hax m k (by rw [← hmm]; simp)
    obtain ⟨pg, poff, pv, rfl, hpc, hpr⟩ := hp k p hpk
    obtain ⟨pa, pc, rfl⟩ := hpr.form
    rw [hm] at hac ⊢
    have hm0 : (((m + 1 : Nat) : Int) == 0) = false := by rw [beq_eq_false_iff_ne]; omega
    have hm1 : ((m + 1 : Nat) : Int) - 1 = (m : Int) := by omega
    have hm2 : ((m + 1 : Nat) : Int) = (m : Int) + 1 := by omega
    have hm100 : m ≤ 100 := by omega
    have z0 := (K.1.cell (p := ⟨pg, poff + k, none⟩) (World.block_lt_of_cell? W _ hpc)).trans hpc
    have hag := World.block_lt_of_cell? w _ y0
    have hpg := World.block_lt_of_cell? w _ z0
    have HR := Lib.hid ((hpr.below K.1).mono K.1.size)
    have hkI : (k : Int) < (ls.length : Int) := by omega
    clear hld hax hp hpc hpr hpk hm hmm hL
    go_enter Tryz.func23, Tryz.ntmps23
    go_wp2_with fail
    refine nL.mono ?_
    rintro e W1 ⟨v1, rfl, o1, b1⟩
    have HB := Lib.hid b1
    have y1 := (b1.cell (p := ⟨ag, m, none⟩) hag).trans y0
    have z1 : W1.drew.cell? ⟨pg, poff + k, none⟩ = _ := (b1.cell (p := ⟨pg, poff + k, none⟩) hpg).trans z0
    have q1 := dk_conv (RdB.of_own o1) W1.drew rfl
    have q2 := dk_conv ((HR.out.below b1).mono b1.size) W1.drew rfl
    obtain ⟨a1, c1, rfl⟩ := own_slice o1
    clear nL b1 o1 y0 z0
    go_wp2_with fail
    refine wp_region_still_lit (by kernel_rfl) (by kernel_rfl) ?_
    change wpStill _ _ (World.drew _) _ _ _
    repeat still_step
    refine wpStill_nil ?_
    change Exit.then _ _ Exit.normal _ (World.drew W1)
    have b9 : Below w.heap.size w W1.drew := HB.out.drew
    clear z1 q1 q2
    generalize W1.drew = w9 at *
    go_wp2_with fail
    go_ret
    exact ⟨rfl, b9⟩

end Go.Proofs.YtamencnachmhoaaGreatDoor
