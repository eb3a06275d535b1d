/-
  Checkpoints, plain: what a disk must be for the walks of a store's methods, and that Save's steps keep it.
-/
import Derived.Test.YtamencnachmhoaaGreatDoorCkLaws
import Derived.Test.YtamencnachmhoaaGreatDoorCkParses
namespace Go.Proofs.YtamencnachmhoaaGreatDoor.Ck
open Go

structure Fit (nm : Bs) (d : Dk.D) : Prop where
  few : d.fs.length ≤ 1000
  nml : ∀ x ∈ d.names, x.length ≤ 1000000000
  tame : Tame nm d.names
  ord : (filesF d nm).Pairwise fun a b => a.2 < b.2
  bud : d.bud ≤ 9223372036854775807

/-- names beside a store's -/
def Beside (nm : Bs) (r : List (Bs × Dk.Fl)) : Prop := ∀ x ∈ r, Lib.hasPrefix x.1 (nm ++ [45]) = false ∧ x.1.length ≤ 1000

theorem mid_fileName {nm : Bs} {n : Nat} (hn : n ≤ 1000000000) : ∀ c ∈ mid nm (fileName nm n), Wl.isDig c := by
  have h := numOf_fileName (nm := nm) hn
  rw [numOf_eq] at h
  split at h
  next hc =>
    intro c hm
    simpa [Wl.isDig] using List.all_eq_true.1 hc.2.2.2.1 c hm
  next => cases h
theorem tmp_noPrefix (nm : Bs) : Lib.hasPrefix (tmpName nm) (nm ++ [45]) = false := by
  unfold Lib.hasPrefix
  rw [Bool.eq_false_iff]
  intro h
  rw [List.isPrefixOf_iff_prefix] at h
  obtain ⟨t, ht⟩ := h
  unfold tmpName at ht
  rw [List.append_assoc] at ht
  have := List.append_cancel_left ht
  exact absurd (congrArg (fun l : Bs => l.head?) this) (by simp [tmpExt])

section
variable {nm : Bs} {pre post : List (Bs × Dk.Fl)} {l : List (Nat × Bs)} {d : Dk.D}
theorem Holds.fit {t : Option Dk.Fl} (H : Holds nm pre post l t d) (hl : l.length ≤ 3) (hb : d.bud ≤ 9223372036854775807) (B1 : Beside nm pre) (B2 : Beside nm post) : Fit nm d := by
  have hnl := (vp_parts H.V.vp).2.2
  have hmem : ∀ x ∈ d.names, (∃ y, (y ∈ pre ∨ y ∈ post) ∧ x = y.1) ∨ (∃ s ∈ l, x = fileName nm s.1) ∨ x = tmpName nm := by
    intro x hx
    unfold Dk.D.names at hx
    split at hx
    · simp at hx
    · obtain ⟨y, hy, rfl⟩ := List.mem_map.1 hx
      rw [H.fs] at hy
      rcases List.mem_append.1 hy with hy | hy
      · rcases List.mem_append.1 hy with hy | hy
        · exact .inl ⟨y, .inl hy, rfl⟩
        · obtain ⟨s, hs, rfl⟩ := mem_snapF hy
          exact .inr (.inl ⟨s, hs, rfl⟩)
      · rcases List.mem_append.1 hy with hy | hy
        · right; right
          cases t with
          | none => simp at hy
          | some f =>
            obtain rfl : y = (tmpName nm, f) := by simpa using hy
            rfl
        · exact .inl ⟨y, .inr hy, rfl⟩
  refine ⟨?_, ?_, ?_, ?_, hb⟩
  · have := H.count; omega
  · intro x hx
    rcases hmem x hx with ⟨y, hy, rfl⟩ | ⟨s, hs, rfl⟩ | rfl
    · rcases hy with hy | hy
      · have := (B1 y hy).2; omega
      · have := (B2 y hy).2; omega
    · have := H.S.num s hs
      rw [fileName_length (by omega)]; omega
    · unfold tmpName
      rw [List.length_append]
      show nm.length + 4 ≤ _
      omega
  · intro x hx h1 h2 h3
    rcases hmem x hx with ⟨y, hy, rfl⟩ | ⟨s, hs, rfl⟩ | rfl
    · have : Lib.hasPrefix y.1 (nm ++ [45]) = false := by
        rcases hy with hy | hy
        · exact (B1 y hy).1
        · exact (B2 y hy).1
      rw [this] at h1; cases h1
    · exact mid_fileName (H.S.num s hs)
    · rw [tmp_noPrefix] at h1; cases h1
  · cases hdn : d.down with
    | true =>
      have : d.names = [] := by unfold Dk.D.names; rw [if_pos hdn]
      unfold filesF
      rw [this]
      exact List.Pairwise.nil
    | false =>
      rw [H.files hdn, List.pairwise_map]
      exact H.S.ord

theorem modify_bud (fs : List (Bs × Dk.Fl)) (h : d.bud ≤ 9223372036854775807) : (d.modify fs).1.bud ≤ 9223372036854775807 := by
  unfold Dk.D.modify
  split
  · exact h
  · show (if 0 < d.bud then d.bud - 1 else d.bud) ≤ _
    split <;> omega
theorem remove_bud (x : Bs) (h : d.bud ≤ 9223372036854775807) : (d.remove x).1.bud ≤ 9223372036854775807 := by
  unfold Dk.D.remove
  repeat' split
  all_goals first | exact h | exact modify_bud _ h
theorem thinL_bud (e : Nat) : ∀ (l : List (Bs × Nat)) (i : Nat) (d : Dk.D), d.bud ≤ 9223372036854775807 → (thinL e i l d).1.bud ≤ 9223372036854775807
  | [], _, _, h => h
  | x :: l, i, d, h => by
    rw [thinL]
    split
    · exact thinL_bud e l (i + 1) d h
    · split
      · exact remove_bud _ h
      · exact thinL_bud e l (i + 1) _ (remove_bud _ h)
theorem step_bud (nm : Bs) (n : Nat) (b : Bs) (k : Nat) (h : d.bud ≤ 9223372036854775807) : (step nm n b k d).1.bud ≤ 9223372036854775807 := by
  unfold step
  split
  · unfold discard
    split
    · exact remove_bud _ h
    · exact h
  · unfold Dk.D.create
    repeat' split
    all_goals first | exact h | exact modify_bud _ h
  · unfold Dk.D.write
    repeat' split
    all_goals first | exact h | exact modify_bud _ h
  · unfold Dk.D.sync
    repeat' split
    all_goals first | exact h | exact modify_bud _ h
  · unfold Dk.D.rename
    repeat' split
    all_goals first | exact h | exact modify_bud _ h
  · exact thinL_bud _ _ _ _ h

/-- what Save's steps want of the disks that they meet -/
def Good (nm : Bs) (n : Nat) (b : Bs) : List Nat → Dk.D → Prop
  | [], _ => True
  | k :: ks, d => Fit nm d ∧ (∀ f, Dk.find (tmpName nm) d.fs = some f → f.pend.length < 65536) ∧ ((step nm n b k d).2 = 0 → Good nm n b ks (step nm n b k d).1)

theorem Holds.find_pend {t : Option Dk.Fl} (H : Holds nm pre post l t d) (ht : ∀ f, t = some f → f.pend.length < 65536) : ∀ f, Dk.find (tmpName nm) d.fs = some f → f.pend.length < 65536 := by
  intro f hf
  cases t with
  | none => rw [find_no H.noTmp] at hf; cases hf
  | some g =>
    rw [H.findT] at hf
    obtain rfl := Option.some.inj hf
    exact ht g rfl

theorem Holds.good (H : Holds nm pre post l none d) (hup : d.down = false) (hl : l.length ≤ 2) {n : Nat} {data : Bs} (hn : n ≤ 1000000000) (hd : data.length ≤ 1000000) (hgt : ∀ s ∈ l, s.1 < n) (hb : d.bud ≤ 9223372036854775807) (B1 : Beside nm pre) (B2 : Beside nm post) :
    Good nm n (encode n data) [0, 1, 2, 3, 4, 5] d := by
  have hep := encode_pos n data
  have hno : ∀ f, (none : Option Dk.Fl) = some f → f.pend.length < 65536 := fun f h => by cases h
  refine ⟨H.fit (by omega) hb B1 B2, H.find_pend hno, fun _ => ?_⟩
  have e0 : (step nm n (encode n data) 0 d).1 = d := by show (Ck.discard d (tmpName nm)).1 = d; rw [H.discard]
  rw [e0]
  refine ⟨H.fit (by omega) hb B1 B2, H.find_pend hno, fun z1 => ?_⟩
  have b1 := step_bud nm n (encode n data) 1 hb
  change (d.create (tmpName nm)).2 = 0 at z1
  change (d.create (tmpName nm)).1.bud ≤ _ at b1
  show Good nm n (encode n data) [2, 3, 4, 5] (d.create (tmpName nm)).1
  rcases H.create hup hl with ⟨a1, a2, a3, H1⟩ | ⟨a0, a1, a2, H1⟩
  · generalize (d.create (tmpName nm)).1 = d1 at *
    refine ⟨H1.fit (by omega) b1 B1 B2, H1.find_pend (fun f h => by obtain rfl := Option.some.inj h; decide), fun z2 => ?_⟩
    have b2 := step_bud nm n (encode n data) 2 b1
    change (d1.write (tmpName nm) (fun m => m) (encode n data)).2 = 0 at z2
    change (d1.write (tmpName nm) (fun m => m) (encode n data)).1.bud ≤ _ at b2
    show Good nm n (encode n data) [3, 4, 5] (d1.write (tmpName nm) (fun m => m) (encode n data)).1
    rcases H1.write a2 hep.1 (by omega) with ⟨c1, c2, c3, H2⟩ | ⟨c0, c1, c2, H2⟩
    · generalize (d1.write (tmpName nm) (fun m => m) (encode n data)).1 = d2 at *
      refine ⟨H2.fit (by omega) b2 B1 B2, H2.find_pend (fun f h => by obtain rfl := Option.some.inj h; show 1 < 65536; decide), fun z3 => ?_⟩
      have b3 := step_bud nm n (encode n data) 3 b2
      change (d2.sync (tmpName nm)).2 = 0 at z3
      change (d2.sync (tmpName nm)).1.bud ≤ _ at b3
      show Good nm n (encode n data) [4, 5] (d2.sync (tmpName nm)).1
      rcases H2.sync c2 with ⟨e1, e2, e3, H3⟩ | ⟨e0, e1, e2, H3⟩
      · have hct : (⟨[], [⟨0, encode n data⟩]⟩ : Dk.Fl).contents = encode n data := by
          show Dk.contents [] ([] ++ [⟨0, encode n data⟩]) = _
          rw [Dk.contents_snoc, Dk.Wr.apply]
          exact (Dk.over_end [] (encode n data)).trans (List.nil_append _)
        rw [hct] at H3
        generalize (d2.sync (tmpName nm)).1 = d3 at *
        refine ⟨H3.fit (by omega) b3 B1 B2, H3.find_pend (fun f h => by obtain rfl := Option.some.inj h; show 0 < 65536; decide), fun z4 => ?_⟩
        have b4 := step_bud nm n (encode n data) 4 b3
        change (d3.rename (tmpName nm) (fileName nm n)).2 = 0 at z4
        change (d3.rename (tmpName nm) (fileName nm n)).1.bud ≤ _ at b4
        show Good nm n (encode n data) [5] (d3.rename (tmpName nm) (fileName nm n)).1
        rcases H3.rename e2 hn hd hgt with ⟨f1, f2, f3, H4⟩ | ⟨f0, f1, f2, H4⟩
        · generalize (d3.rename (tmpName nm) (fileName nm n)).1 = d4 at *
          exact ⟨H4.fit (by simp; omega) b4 B1 B2, H4.find_pend hno, fun _ => trivial⟩
        · rw [f1] at z4; cases z4
      · rw [e1] at z3; cases z3
    · rw [c1] at z2; cases z2
  · rw [a1] at z1; cases z1
end
end Go.Proofs.YtamencnachmhoaaGreatDoor.Ck
