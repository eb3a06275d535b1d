/-
  The example of the document on the log: the walk of known.
  girolaw11.known returns true.
-/
import Derived.Test.YtcbnbhlgikjbeaaGreatDoorWlOpenN
import Derived.Test.YtcbnbhlgikjbeaaGreatDoorWlOpens

namespace Go.Proofs.YtcbnbhlgikjbeaaGreatDoor
open Go.RowKit

namespace Wl
/-- no file has more pending writes than m -/
def PB (d : Dk.D) (m : Nat) : Prop := ∀ x ∈ d.fs, x.2.pend.length ≤ m
theorem PB.mono {d : Dk.D} {m m' : Nat} (h : PB d m) (hm : m ≤ m') : PB d m' := fun x hx => Nat.le_trans (h x hx) hm
theorem PB.modify {d : Dk.D} {m : Nat} {fs : List (Bs × Dk.Fl)} (h : PB d m) (h2 : ∀ x ∈ fs, x.2.pend.length ≤ m) : PB (d.modify fs).1 m := by
  unfold Dk.D.modify
  split
  · exact h
  · exact h2
theorem PB.upd {d : Dk.D} {m : Nat} {n : Bs} {f : Dk.Fl} (h : PB d m) (hf : f.pend.length ≤ m) : ∀ x ∈ Dk.upd n f d.fs, x.2.pend.length ≤ m := fun x hx => by
  unfold Dk.upd at hx
  obtain ⟨y, hy, rfl⟩ := List.mem_map.1 hx
  split
  · exact hf
  · exact h y hy
theorem PB.settle {d : Dk.D} {m : Nat} (h : PB d m) (p : Bs) (s : Nat) : PB (Wl.settle d p s).1 m := by
  unfold Wl.settle
  split
  · exact h
  · unfold Dk.D.sync
    split
    · exact h
    · split
      · exact h
      · exact h.modify (h.upd (by simp))
theorem PB.create {d : Dk.D} {m : Nat} (h : PB d m) (n : Bs) : PB (d.create n).1 m := by
  unfold Dk.D.create
  split
  · exact h
  · split
    · exact h
    · refine h.modify (fun x hx => ?_)
      unfold Dk.ins at hx
      rcases List.mem_cons.1 ((Dk.insBy_perm Prod.fst (n, (⟨[], []⟩ : Dk.Fl)) d.fs).mem_iff.1 hx) with rfl | hx
      · simp
      · exact h x hx
theorem find_in {n : Bs} {f : Dk.Fl} : ∀ {fs : List (Bs × Dk.Fl)}, Dk.find n fs = some f → ∃ x ∈ fs, x.2 = f
  | [], h => by simp [Dk.find] at h
  | y :: r, h => by
    unfold Dk.find at h
    rw [List.find?_cons] at h
    cases hb : (y.1 == n) with
    | true => rw [hb] at h; simp at h; exact ⟨y, by simp, h⟩
    | false =>
      rw [hb] at h
      obtain ⟨x, hx, e⟩ := find_in (n := n) (f := f) (fs := r) h
      exact ⟨x, List.mem_cons_of_mem _ hx, e⟩
theorem PB.write {d : Dk.D} {m : Nat} (h : PB d m) (n : Bs) (pos : Nat → Int) (b : Bs) : PB (d.write n pos b).1 (m + 1) := by
  unfold Dk.D.write
  split
  · exact h.mono (by omega)
  · split
    · exact h.mono (by omega)
    · split
      · exact h.mono (by omega)
      · split
        · exact h.mono (by omega)
        · rename_i f hf
          obtain ⟨x, hx, e⟩ := find_in hf
          have := h x hx
          refine (h.mono (Nat.le_succ m)).modify ((h.mono (Nat.le_succ m)).upd ?_)
          rw [e] at this
          simp; omega
theorem PB.append2 {d : Dk.D} {m : Nat} (h : PB d m) (l : L) (b : Bs) : PB (Wl.append2 d l b).1 (m + 1) := by
  unfold Wl.append2
  simp only []
  split <;> exact h.write _ _ _
theorem PB.append {d : Dk.D} {m : Nat} (h : PB d m) (l : L) (b : Bs) : PB (Wl.append d l b).1 (m + 1) := by
  unfold Wl.append
  split
  · exact h.mono (by omega)
  · split
    · exact h.mono (by omega)
    · split
      · exact h.mono (by omega)
      · split
        · simp only []
          split
          · exact (h.settle _ _).mono (by omega)
          · split
            · exact ((h.settle _ _).create _).mono (by omega)
            · exact ((h.settle _ _).create _).append2 _ _
        · exact h.append2 _ _
end Wl

/-- Append on a log that is as the entries say -/
theorem wl_Append {i j : Nat} {c : Nat → Nat} {W : World} {h g : Nat} {D : Dk.D} {L : Wl.L} {p : Wl.Bs} {sz m : Nat} {ps : List Wl.Bs} {a : Nat} {os : List (Nat × Nat)} {fo : List (Wl.Bs × Dk.Fl)} {f k : Nat} {gf : Dk.Fl}
    (hd : DiskAt i c W g D) (hl : LogAt j c W h g L) (hij : i ≠ j) (hj0 : j ≠ 0) (hup : D.down = false) (hbud : D.bud ≤ 9223372036854775807) (I : Wl.Inv p sz ps D L a os fo f k gf) (hps : ∀ q ∈ ps, q.length ≤ 200) (hn : ps.length < 100) (hpb : Wl.PB D m) (hm : m < 65536) (hsz : sz ≤ 1000000000)
    {bv : Value} {b : Wl.Bs} (hb : RdC c W bv b) (hbl : b.length ≤ 65536) :
    Calls Tryz.prog 19 #[.pointer (some ⟨h, 0, none⟩), bv] W (ApPost i j c W h g (Wl.append D L b)) := by
  have hlen := I.len
  have hla := I.last
  have hpre := I.pre
  have hpl : L.pre.length ≤ 100 := by
    have := I.vp
    unfold Wl.validP at this
    simp only [Bool.and_eq_true, decide_eq_true_eq] at this
    rw [hpre]; omega
  have hfind : Dk.find (Wl.name L.pre L.last.1) D.fs = some gf := by rw [hla, hpre]; exact I.find (by omega)
  have hcl : gf.contents.length ≤ 1000000000 := by
    rw [I.cont]
    have := Wl.packs_len f (ps.drop f) 200 (fun q hq => hps q (List.mem_of_mem_drop hq))
    rw [List.length_drop] at this
    have h2 : (ps.length - f) * (16 + 200) ≤ 100 * 216 := Nat.mul_le_mul (by omega) (by omega)
    omega
  have hsegs : L.segs.length ≤ 101 := by
    rw [I.segs, List.length_append]
    have := I.chain.len I.pos
    simp; omega
  have hne : L.segs ≠ [] := by rw [I.segs]; simp
  have hl1 : L.last.1 = f := by rw [hla]
  have hl2 : L.last.2 = k := by rw [hla]
  by_cases hr : 0 < L.last.2 ∧ L.size ≤ gf.contents.length
  · exact wl_Append_roll hd hl hij hj0 hup hbud (by have := I.count; omega) hfind hcl hne (by omega) (by omega) (by rw [I.next]; omega) (by omega) hpl (by rw [I.size]; exact hsz) hb hbl hr
  · obtain ⟨x, hx, e⟩ := Wl.find_in hfind
    have hxm := hpb x hx
    rw [e] at hxm
    exact wl_Append_stay hd hl hij hj0 hup hbud hfind (by omega) hcl hne (by omega) (by omega) (by omega) (by rw [I.next]; omega) hpl (by rw [I.size]; exact hsz) hb hbl hr

end Go.Proofs.YtcbnbhlgikjbeaaGreatDoor

namespace Go.Proofs.YtcbnbhlgikjbeaaGreatDoor
open Go.RowKit

abbrev kp : Wl.Bs := [108, 111, 103]
abbrev kz : Wl.Bs := List.replicate 20 0
structure KnSt (W : World) (i : Nat) (c : Nat → Nat) (w : World) (h g : Nat) (D : Dk.D) (L : Wl.L) : Prop where
  K : Kn W w c
  d : DiskAt 1 c w g D
  l : LogAt 3 c w h g L
  up : D.down = false
  bud : D.bud = -1
  inv : ∃ fo g', Wl.Inv kp 64 (List.replicate i kz) D L 0 (Wl.kn i).1 fo (Wl.kn i).2.1 (Wl.kn i).2.2.1 g'
  syn : L.synced = (Wl.kn i).2.2.2
  pb : Wl.PB D i

theorem kn_names : dkNames [Wl.name kp 0, Wl.name kp 2, Wl.name kp 4] = [.string ⟨#[108, 111, 103, 45, 48, 48, 48, 48, 48, 48, 48, 48, 48, 48]⟩, .string ⟨#[108, 111, 103, 45, 48, 48, 48, 48, 48, 48, 48, 48, 48, 50]⟩, .string ⟨#[108, 111, 103, 45, 48, 48, 48, 48, 48, 48, 48, 48, 48, 52]⟩] := by
  have e : ∀ n : Nat, n < 10 → Wl.name kp n = kp ++ [45] ++ List.replicate 9 48 ++ [UInt8.ofNat (48 + n)] := fun n hn => by
    unfold Wl.name Wl.pad
    rw [Lib.decDigits_one hn]
    rfl
  unfold dkNames
  rw [e 0 (by decide), e 2 (by decide), e 4 (by decide)]
  rfl
theorem made_zeros (n : Nat) : (madeCells #[Value.int .u8 0] n).toList = dkCells (List.replicate n 0) := by
  apply List.ext_getElem
  · simp [madeCells, dkCells_length]
  · intro k h1 h2
    simp [madeCells, dkCells, Lib.byteCells, Nat.mod_one]
theorem kn_made : (madeCells #[Value.int .u8 0] 20).toList = dkCells kz := made_zeros 20

set_option maxRecDepth 100000 in
theorem KnSt.step {W : World} {i : Nat} {c : Nat → Nat} {w : World} {h g : Nat} {D : Dk.D} {L : Wl.L} (S : KnSt W i c w h g D L) (hi : i < 5) (t : TypeId) (cs : Array Value) (hcs : cs.toList = dkCells kz) :
    Calls Tryz.prog 19 #[.pointer (some ⟨h, 0, none⟩), .slice (some ⟨w.heap.size, 0, none⟩) 20 20] (w.alloc (.cells cs t)) fun e W' => e = .returned (.tuple #[.int .i64 i, .int .i64 0]) ∧ ∃ c' D' L', KnSt W (i + 1) c' W' h g D' L' := by
  obtain ⟨fo, g', I⟩ := S.inv
  have hC : Chg 2 c (pnt c w.heap.size 0) w (w.alloc (.cells cs t)) := Chg.alloc (i := 2) _ 0
  have hb := RdC.made (W := w) (c := c) kz cs hcs t
  have hps : ∀ q ∈ List.replicate i kz, q.length ≤ 200 := fun q hq => by rw [List.eq_of_mem_replicate hq]; decide
  have n1 := wl_Append (S.d.chg hC (by decide) (by decide)) (S.l.chg hC (by decide)) (by decide) (by decide) S.up (by rw [S.bud]; decide) I hps (by simp; omega) S.pb (by omega) (by decide) hb (by decide)
  obtain ⟨r1, r2, r3, ⟨fo2, g2, I2⟩, r5⟩ := Wl.known_step (z := kz) rfl i hi I S.syn S.up S.bud
  refine n1.mono ?_
  rintro e W' ⟨c', rfl, d2, l2, hc2⟩
  refine ⟨by rw [r1], c', _, _, ⟨(S.K.chg hC (by decide)).chg2 hc2 (by decide) (by decide), d2, l2, r2, r3, ⟨fo2, g2, I2⟩, r5, S.pb.append _ _⟩⟩

theorem own_form3 {w : World} {B : Nat} {v : Value} {a b c : Value} (h : w.ownsRow B 9 1 v 3 [a, b, c]) : ∃ sb cap, v = .slice (some ⟨sb, 0, none⟩) 3 cap ∧ ∀ k x, [a, b, c][k]? = some x → w.cell? ⟨sb, k, none⟩ = some x := by
  obtain ⟨_, ⟨_, h0⟩ | ⟨g, cap, cur, hv, _, hh, hn, hcap, hcur, htake⟩⟩ := h
  · cases h0
  · refine ⟨g, cap, hv, fun k x hk => ?_⟩
    have hk3 : k < 3 := (List.getElem?_eq_some_iff.1 hk).1
    rw [← htake, List.getElem?_take_of_lt (by omega)] at hk
    rw [cell_of_row _ _ _ _ _ _ hh]
    simpa using hk

set_option maxRecDepth 100000 in
set_option maxHeartbeats 2000000 in
theorem wl_known (W : World) : Calls Tryz.prog 7 #[] W fun e W' => e = .returned (.bool true) ∧ Below W.heap.size W W' := by
  obtain ⟨i0, hi, hz0, hz1, hz2⟩ := info_parts dk_infoByte
  have n0 := dk_new W 1 (fun _ => 0) (by decide)
  go_enter Tryz.func7, Tryz.ntmps7
  go_wp2_with fail
  refine n0.mono ?_
  rintro e W1 ⟨g, rfl, d1, b1⟩
  have K1 : Kn W W1 (pnt (fun _ => 0) W.heap.size 1) := ⟨b1, fun b hb => pnt_old hb⟩
  generalize pnt (fun _ => 0) W.heap.size 1 = c1 at *
  have n1 := wl_Open_new (j := 3) d1 (by decide) (by decide) ⟨#[108, 111, 103]⟩ 64 (by decide) (by decide) (by decide) (by decide)
  rw [show (⟨#[108, 111, 103]⟩ : ByteArray).data.toList = kp from rfl, (Wl.Inv.start (p := kp) (sz := 64) (by decide)).1] at n1
  clear n0 b1 d1
  go_wp2_with fail
  refine n1.mono ?_
  rintro e W2 ⟨h, c2, rfl, d2, l2, h2⟩
  have S0 : KnSt W 0 c2 W2 h g _ _ := ⟨K1.chg h2 (by decide), d2, l2, rfl, rfl, ⟨[], _, (Wl.Inv.start (p := kp) (sz := 64) (by decide)).2⟩, rfl, fun x hx => by simp at hx; subst hx; simp⟩
  have HS0 := Lib.hid S0
  clear n1 d2 l2 h2 K1 S0
  go_wp2_with fail
  go_loopw [5] (fun iv wr => ∃ (i : Nat) (c : Nat → Nat) (D : Dk.D) (L : Wl.L), iv = .int .i64 i ∧ i ≤ 5 ∧ Hid (KnSt W i c wr h g D L)) (fun iv _ => 5 - (RowKit.intOf iv).toNat)
  case atStart => exact ⟨0, _, _, _, rfl, by decide, HS0⟩
  case round =>
    obtain ⟨i, c, D, L, rfl, hi5, HS⟩ := hrel
    have hmk := run_makeSlice (P := Tryz.prog) (w := wr) 38 5 i0 (.int .u8 0) Tryz.underlying38 hi hz0 .i64 .i64 20 20 (by decide) (by decide) (by rw [hz1]; decide) (by rw [hz2]; decide) (by decide)
    rw [hz1] at hmk
    by_cases hlt : i < 5
    · have n3 := HS.out.step hlt 5 (madeCells #[Value.int .u8 0] 20) kn_made
      have hlti : (i : Int) < 5 := by omega
      go_wp2_with fail
      refine n3.mono ?_
      rintro e W4 ⟨rfl, c4, D4, L4, S4⟩
      have HS4 := Lib.hid S4
      clear n3 S4 hmk
      go_wp2_with fail
      refine ⟨⟨i + 1, c4, D4, L4, by go_num, by omega, HS4⟩, by simp [RowKit.intOf] <;> omega⟩
    · obtain rfl : i = 5 := by omega
      clear hmk
      obtain ⟨fo, g', I⟩ := HS.out.inv
      have hsegs : L.segs = [(0, 2), (2, 2), (4, 1)] := I.segs
      have hnx : L.next = 5 := I.next
      have hsy : L.synced = 4 := HS.out.syn
      have n4 := wl_Segments HS.out.l (by rw [hsegs]; decide) (by rw [I.pre]; decide) (by rw [hsegs]; simp) (by rw [hsegs]; decide)
      have hnm : segNames L = [Wl.name kp 0, Wl.name kp 2, Wl.name kp 4] := by unfold segNames; rw [hsegs, I.pre]; rfl
      rw [hnm, kn_names, hsegs] at n4
      have HI := Lib.hid I
      clear I hnm hsegs
      go_wp2_with fail
      refine n4.mono ?_
      rintro e W5 ⟨v5, rfl, o5, b5⟩
      obtain ⟨sb, cap, rfl, hsb⟩ := own_form3 o5
      have s0 := hsb 0 _ rfl
      have s1 := hsb 1 _ rfl
      have s2 := hsb 2 _ rfl
      have l5 := HS.out.l.below b5
      have K5 := Lib.hid (HS.out.K.1.trans (b5.mono HS.out.K.1.size))
      have n6 := wl_Next l5
      have n7 := wl_Synced l5
      rw [hnx] at n6
      rw [hsy] at n7
      clear n4 o5 hsb l5 b5 hnx hsy
      go_wp2_with (first | (go_at_call 22; refine n6.mono ?_; rintro e w8 ⟨rfl, rfl⟩) | (go_at_call 23; refine n7.mono ?_; rintro e w9 ⟨rfl, rfl⟩))
      go_ret
      exact ⟨rfl, K5.out⟩

end Go.Proofs.YtcbnbhlgikjbeaaGreatDoor
