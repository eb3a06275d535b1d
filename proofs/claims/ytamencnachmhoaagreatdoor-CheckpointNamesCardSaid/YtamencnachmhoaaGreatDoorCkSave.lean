/-
  Checkpoints, plain: a store's snapshots on a disk, what Save leaves, what Load finds.
-/
import Derived.Test.YtamencnachmhoaaGreatDoorCkDisk
namespace Go.Proofs.YtamencnachmhoaaGreatDoor.Ck
open Go

theorem u8_all {P : UInt8 → Prop} (h : ∀ n : Fin 256, P (UInt8.ofNat n.val)) (c : UInt8) : P c := by
  have := h ⟨c.toNat, UInt8.toNat_lt c⟩
  rwa [UInt8.ofNat_toNat] at this
set_option maxRecDepth 10000 in
theorem okP_name {c : UInt8} (h : Wl.okP c = true) : Dk.nameBytes.contains c = true :=
  u8_all (P := fun c => Wl.okP c = true → Dk.nameBytes.contains c = true) (by decide) c h
set_option maxRecDepth 10000 in
theorem isDig_name {c : UInt8} (h : Wl.isDig c) : Dk.nameBytes.contains c = true :=
  u8_all (P := fun c => 48 ≤ c.toNat ∧ c.toNat ≤ 57 → Dk.nameBytes.contains c = true) (by decide) c h
theorem all_drop (p : UInt8 → Bool) : ∀ l : List UInt8, (l.dropWhile p).all p = l.all p
  | [] => rfl
  | x :: l => by
    rw [List.dropWhile_cons, List.all_cons]
    cases h : p x with
    | true => simpa using all_drop p l
    | false => simp [h]
theorem empty_drop (p : UInt8 → Bool) : ∀ l : List UInt8, (l.dropWhile p).isEmpty = l.all p
  | [] => rfl
  | x :: l => by
    rw [List.dropWhile_cons, List.all_cons]
    cases h : p x with
    | true => simpa using empty_drop p l
    | false => simp
theorem trim_empty (l cs : List UInt8) : (Lib.trimS l cs).isEmpty = l.all (cs.contains ·) := by
  unfold Lib.trimS Lib.trimLeftS
  rw [empty_drop]
  unfold Lib.trimRightS
  rw [List.all_reverse, all_drop, List.all_reverse]
theorem valid_of {l : Bs} (h1 : 0 < l.length) (h2 : l.length ≤ 64) (h3 : ∀ c ∈ l, Dk.nameBytes.contains c = true) : Dk.valid l = true := by
  unfold Dk.valid
  rw [trim_empty, List.all_eq_true.2 h3]
  have : l.isEmpty = false := by cases l with
    | nil => simp at h1
    | cons => rfl
  rw [this]
  simpa using h2
theorem vp_parts {nm : Bs} (h : Wl.validP nm = true) : (∀ c ∈ nm, Wl.okP c = true) ∧ 1 ≤ nm.length ∧ nm.length ≤ 16 := by
  unfold Wl.validP at h
  simp only [Bool.and_eq_true, decide_eq_true_eq, List.all_eq_true] at h
  exact ⟨h.1.1, h.1.2, h.2⟩
theorem valid_tmp {nm : Bs} (h : Wl.validP nm = true) : Dk.valid (tmpName nm) = true := by
  obtain ⟨h1, h2, h3⟩ := vp_parts h
  have hl : (tmpName nm).length = nm.length + 4 := by unfold tmpName; rw [List.length_append]; rfl
  refine valid_of (by omega) (by omega) (fun c hc => ?_)
  unfold tmpName at hc
  rcases List.mem_append.1 hc with hc | hc
  · exact okP_name (h1 c hc)
  · exact (by decide : ∀ c ∈ tmpExt, Dk.nameBytes.contains c = true) c hc
theorem valid_file {nm : Bs} {n : Nat} (h : Wl.validP nm = true) (hn : n < 10000000000) : Dk.valid (fileName nm n) = true := by
  obtain ⟨h1, h2, h3⟩ := vp_parts h
  have hl := fileName_length (nm := nm) hn
  refine valid_of (by omega) (by omega) (fun c hc => ?_)
  unfold fileName Wl.name at hc
  rcases List.mem_append.1 hc with hc | hc
  · rcases List.mem_append.1 hc with hc | hc
    · exact okP_name (h1 c hc)
    · rcases List.mem_append.1 hc with hc | hc
      · obtain rfl := List.mem_singleton.1 hc; decide
      · exact isDig_name (Wl.pad_dig n c hc)
  · exact (by decide : ∀ c ∈ ckpt, Dk.nameBytes.contains c = true) c hc

theorem numOf_tmp (nm : Bs) : numOf nm (tmpName nm) = none := by
  unfold numOf
  rw [if_neg]
  intro h
  rw [List.isSuffixOf_iff_suffix] at h
  obtain ⟨t, ht⟩ := h
  have h1 : (t ++ ckpt).getLast? = some 116 := by rw [List.getLast?_append]; rfl
  have h2 : (tmpName nm).getLast? = some 112 := by unfold tmpName; rw [List.getLast?_append]; rfl
  rw [ht, h2] at h1
  exact absurd h1 (by decide)

/-- what lies beside a store's files, ahead and behind -/
structure View (nm : Bs) (pre post : List (Bs × Dk.Fl)) : Prop where
  vp : Wl.validP nm = true
  a : ∀ x ∈ pre, (∀ k, bytesBefore x.1 (fileName nm k) = true) ∧ bytesBefore x.1 (tmpName nm) = true ∧ numOf nm x.1 = none
  b : ∀ x ∈ post, (∀ k, bytesBefore (fileName nm k) x.1 = true) ∧ bytesBefore (tmpName nm) x.1 = true ∧ numOf nm x.1 = none
  few : pre.length + post.length ≤ 100
/-- snapshots in order -/
structure Snaps (l : List (Nat × Bs)) : Prop where
  ord : l.Pairwise (fun a b => a.1 < b.1)
  num : ∀ s ∈ l, s.1 ≤ 1000000000
  dat : ∀ s ∈ l, s.2.length ≤ 1000000
def snapF (nm : Bs) (l : List (Nat × Bs)) : List (Bs × Dk.Fl) := l.map fun s => (fileName nm s.1, ⟨encode s.1 s.2, []⟩)
theorem snapF_append (nm : Bs) (l m : List (Nat × Bs)) : snapF nm (l ++ m) = snapF nm l ++ snapF nm m := List.map_append
theorem mem_snapF {nm : Bs} {l : List (Nat × Bs)} {x : Bs × Dk.Fl} (h : x ∈ snapF nm l) : ∃ s ∈ l, x = (fileName nm s.1, ⟨encode s.1 s.2, []⟩) := by
  obtain ⟨s, hs, rfl⟩ := List.mem_map.1 h
  exact ⟨s, hs, rfl⟩

section
variable {nm : Bs} {pre post : List (Bs × Dk.Fl)} {l : List (Nat × Bs)} {d : Dk.D}
theorem View.preN (V : View nm pre post) (n : Nat) : ∀ x ∈ pre, x.1 ≠ fileName nm n := fun x hx => before_ne ((V.a x hx).1 n)
theorem View.preT (V : View nm pre post) : ∀ x ∈ pre, x.1 ≠ tmpName nm := fun x hx => before_ne (V.a x hx).2.1
theorem View.postN (V : View nm pre post) (n : Nat) : ∀ x ∈ post, x.1 ≠ fileName nm n := fun x hx => fun e => before_ne ((V.b x hx).1 n) e.symm
theorem View.postT (V : View nm pre post) : ∀ x ∈ post, x.1 ≠ tmpName nm := fun x hx => fun e => before_ne (V.b x hx).2.1 e.symm
theorem snapT (nm : Bs) (l : List (Nat × Bs)) : ∀ x ∈ snapF nm l, x.1 ≠ tmpName nm := fun x hx => by
  obtain ⟨s, _, rfl⟩ := mem_snapF hx
  exact file_ne_tmp nm s.1

/-- a disk on which the store holds snapshots, beside other files; t: the file being written, if it lies there -/
structure Holds (nm : Bs) (pre post : List (Bs × Dk.Fl)) (l : List (Nat × Bs)) (t : Option Dk.Fl) (d : Dk.D) : Prop where
  V : View nm pre post
  S : Snaps l
  fs : d.fs = (pre ++ snapF nm l) ++ ((t.map fun f => (tmpName nm, f)).toList ++ post)

theorem filter_none {l : List (Bs × Dk.Fl)} (h : ∀ x ∈ l, numOf nm x.1 = none) : (l.map (·.1)).filterMap (fun x => (numOf nm x).map fun n => (x, n)) = [] := by
  rw [List.filterMap_eq_nil_iff]
  intro a ha
  obtain ⟨x, hx, rfl⟩ := List.mem_map.1 ha
  rw [h x hx]; rfl
theorem filter_snaps : ∀ {l : List (Nat × Bs)}, (∀ s ∈ l, s.1 ≤ 1000000000) → ((snapF nm l).map (·.1)).filterMap (fun x => (numOf nm x).map fun n => (x, n)) = l.map fun s => (fileName nm s.1, s.1)
  | [], _ => rfl
  | s :: l, h => by
    show ((fileName nm s.1) :: (snapF nm l).map (·.1)).filterMap _ = (fileName nm s.1, s.1) :: l.map _
    rw [List.filterMap_cons, numOf_fileName (h s (by simp))]
    show (fileName nm s.1, s.1) :: _ = _
    rw [filter_snaps (fun x hx => h x (List.mem_cons_of_mem _ hx))]
theorem Holds.files {t : Option Dk.Fl} (H : Holds nm pre post l t d) (hup : d.down = false) : filesF d nm = l.map fun s => (fileName nm s.1, s.1) := by
  unfold filesF Dk.D.names
  rw [if_neg (by simp [hup]), H.fs, List.map_append, List.map_append, List.map_append, List.filterMap_append, List.filterMap_append, List.filterMap_append,
    filter_none (fun x hx => (H.V.a x hx).2.2), filter_none (fun x hx => (H.V.b x hx).2.2), filter_snaps H.S.num, filter_none (l := (t.map fun f => (tmpName nm, f)).toList), List.nil_append, List.nil_append, List.append_nil]
  intro x hx
  cases t with
  | none => simp at hx
  | some f =>
    obtain rfl : x = (tmpName nm, f) := by simpa using hx
    exact numOf_tmp nm
theorem Holds.find {t : Option Dk.Fl} (H : Holds nm pre post l t d) {s : Nat × Bs} (hs : s ∈ l) : Dk.find (fileName nm s.1) d.fs = some ⟨encode s.1 s.2, []⟩ := by
  obtain ⟨l1, l2, rfl⟩ := List.append_of_mem hs
  have e : d.fs = (pre ++ snapF nm l1) ++ (fileName nm s.1, ⟨encode s.1 s.2, []⟩) :: (snapF nm l2 ++ ((t.map fun f => (tmpName nm, f)).toList ++ post)) := by
    rw [H.fs, snapF_append]
    simp [snapF]
  rw [e]
  refine find_at (fun x hx => ?_)
  rcases List.mem_append.1 hx with hx | hx
  · exact H.V.preN s.1 x hx
  · obtain ⟨u, hu, rfl⟩ := mem_snapF hx
    intro e2
    have h1 := (List.pairwise_append.1 H.S.ord).2.2 u hu s (by simp)
    have := fileName_inj e2
    omega
theorem Holds.loadF {t : Option Dk.Fl} (H : Holds nm pre post l t d) (hup : d.down = false) {s : Nat × Bs} (hs : s ∈ l) : Ck.loadF d (fileName nm s.1, s.1) = some s.2 := by
  have hr : d.read (fileName nm s.1) = (encode s.1 s.2, 0) := by
    unfold Dk.D.read
    rw [if_neg (by simp [hup]), H.find hs]
    rfl
  unfold Ck.loadF
  rw [hr]
  simp only []
  rw [if_neg (by simp), decode_encode (H.S.num s hs) (H.S.dat s hs), if_pos (by simp)]
theorem Holds.seqs {t : Option Dk.Fl} (H : Holds nm pre post l t d) (hup : d.down = false) : Ck.seqs d nm = l.map (·.1) := by
  unfold Ck.seqs
  rw [H.files hup, List.filter_eq_self.2]
  · rw [List.map_map]; rfl
  · intro x hx
    obtain ⟨s, hs, rfl⟩ := List.mem_map.1 hx
    rw [H.loadF hup hs]; rfl
theorem Holds.load {t : Option Dk.Fl} (H : Holds nm pre post l t d) (hup : d.down = false) : Ck.load d nm = match l.getLast? with
    | some s => (s.1, s.2, 0)
    | none => (0, [], 9) := by
  unfold Ck.load
  rw [if_neg (by simp [hup]), H.files hup]
  rcases List.eq_nil_or_concat l with rfl | ⟨l', s, rfl⟩
  · rfl
  · rw [List.concat_eq_append, List.map_append, List.reverse_append]
    show newest d ((fileName nm s.1, s.1) :: _) = _
    rw [newest, H.loadF hup (by simp)]
    simp

theorem modify_cases (d : Dk.D) (fs : List (Bs × Dk.Fl)) :
    (d.modify fs).2 = 0 ∧ (d.modify fs).1.fs = fs ∧ (d.modify fs).1.down = d.down ∧ (d.bud = -1 → (d.modify fs).1.bud = -1) ∧ d.bud ≠ 0 ∨
    d.bud = 0 ∧ d.modify fs = ({ d with down := true }, 32) := by
  unfold Dk.D.modify
  by_cases h : d.bud = 0
  · right; rw [if_pos h]; exact ⟨h, rfl⟩
  · left; rw [if_neg h]
    refine ⟨rfl, rfl, rfl, fun h1 => ?_, h⟩
    show (if 0 < d.bud then d.bud - 1 else d.bud) = -1
    rw [if_neg (by omega)]; exact h1

theorem Holds.count {t : Option Dk.Fl} (H : Holds nm pre post l t d) : d.fs.length ≤ l.length + 101 := by
  have := H.V.few
  rw [H.fs]
  simp only [List.length_append, snapF, List.length_map]
  have h2 : (t.map fun f => (tmpName nm, f)).toList.length ≤ 1 := by cases t <;> simp
  omega
theorem Holds.noTmp (H : Holds nm pre post l none d) : ∀ x ∈ d.fs, x.1 ≠ tmpName nm := by
  intro x hx
  rw [H.fs] at hx
  rcases List.mem_append.1 hx with hx | hx
  · rcases List.mem_append.1 hx with hx | hx
    · exact H.V.preT x hx
    · exact snapT nm l x hx
  · exact H.V.postT x (by simpa using hx)
theorem Holds.discard (H : Holds nm pre post l none d) : Ck.discard d (tmpName nm) = (d, 0) := by
  unfold Ck.discard Dk.D.names
  rw [if_neg]
  split
  · simp
  · intro h
    obtain ⟨x, hx, e⟩ := List.mem_map.1 (List.elem_iff.1 h)
    exact H.noTmp x hx e
theorem Holds.aheadT {t : Option Dk.Fl} (H : Holds nm pre post l t d) : ∀ x ∈ pre ++ snapF nm l, bytesBefore x.1 (tmpName nm) = true := fun x hx => by
  rcases List.mem_append.1 hx with hx | hx
  · exact (H.V.a x hx).2.1
  · obtain ⟨s, _, rfl⟩ := mem_snapF hx
    exact file_before_tmp nm s.1
theorem Holds.aheadN {t : Option Dk.Fl} (H : Holds nm pre post l t d) {n : Nat} (hn : n ≤ 1000000000) (hgt : ∀ s ∈ l, s.1 < n) : ∀ x ∈ pre ++ snapF nm l, bytesBefore x.1 (fileName nm n) = true := fun x hx => by
  rcases List.mem_append.1 hx with hx | hx
  · exact (H.V.a x hx).1 n
  · obtain ⟨s, hs, rfl⟩ := mem_snapF hx
    exact file_before_file (by omega) (hgt s hs)
theorem Holds.other {t : Option Dk.Fl} {d' : Dk.D} (H : Holds nm pre post l t d) (h : d'.fs = d.fs) : Holds nm pre post l t d' := ⟨H.V, H.S, h.trans H.fs⟩

theorem Holds.create (H : Holds nm pre post l none d) (hup : d.down = false) (hl : l.length ≤ 2) :
    ((d.create (tmpName nm)).2 = 0 ∧ (d.create (tmpName nm)).1.down = false ∧ (d.bud = -1 → (d.create (tmpName nm)).1.bud = -1) ∧ Holds nm pre post l (some ⟨[], []⟩) (d.create (tmpName nm)).1) ∨
    (d.bud ≠ -1 ∧ (d.create (tmpName nm)).2 = 32 ∧ (d.create (tmpName nm)).1.down = true ∧ Holds nm pre post l none (d.create (tmpName nm)).1) := by
  have hc : Dk.createCheck d (tmpName nm) = 0 := by
    unfold Dk.createCheck
    have := H.count
    rw [valid_tmp H.V.vp, if_neg (by simp), find_no H.noTmp, if_neg (by simp), if_neg (by omega)]
  have e : d.create (tmpName nm) = d.modify (Dk.ins (tmpName nm) ⟨[], []⟩ d.fs) := by
    unfold Dk.D.create
    rw [if_neg (by simp [hup]), hc, if_neg (by simp)]
  rw [e]
  have hi : Dk.ins (tmpName nm) ⟨[], []⟩ d.fs = (pre ++ snapF nm l) ++ (tmpName nm, ⟨[], []⟩) :: post := by
    rw [H.fs]
    exact ins_at H.aheadT (fun x hx => (H.V.b x (by simpa using hx)).2.1)
  rcases modify_cases d (Dk.ins (tmpName nm) ⟨[], []⟩ d.fs) with ⟨q1, q2, q3, q4, _⟩ | ⟨q1, q2⟩
  · exact .inl ⟨q1, q3.trans hup, q4, H.V, H.S, by rw [q2, hi]; rfl⟩
  · rw [q2]
    exact .inr ⟨by omega, rfl, rfl, H.other rfl⟩
theorem Holds.findT {f : Dk.Fl} (H : Holds nm pre post l (some f) d) : Dk.find (tmpName nm) d.fs = some f := by
  rw [H.fs]
  exact find_at (fun x hx => before_ne (H.aheadT x hx))
theorem Holds.updT {f : Dk.Fl} (H : Holds nm pre post l (some f) d) (g : Dk.Fl) : Dk.upd (tmpName nm) g d.fs = (pre ++ snapF nm l) ++ (((some g).map fun f => (tmpName nm, f)).toList ++ post) := by
  rw [H.fs]
  exact upd_at (fun x hx => before_ne (H.aheadT x hx)) (fun x hx => H.V.postT x (by simpa using hx))
theorem Holds.write (H : Holds nm pre post l (some ⟨[], []⟩) d) (hup : d.down = false) {b : Bs} (hb : 0 < b.length) (hbl : b.length ≤ 10000000) :
    ((d.write (tmpName nm) (fun m => m) b).2 = 0 ∧ (d.write (tmpName nm) (fun m => m) b).1.down = false ∧ (d.bud = -1 → (d.write (tmpName nm) (fun m => m) b).1.bud = -1) ∧ Holds nm pre post l (some ⟨[], [⟨0, b⟩]⟩) (d.write (tmpName nm) (fun m => m) b).1) ∨
    (d.bud ≠ -1 ∧ (d.write (tmpName nm) (fun m => m) b).2 = 32 ∧ (d.write (tmpName nm) (fun m => m) b).1.down = true ∧ Holds nm pre post l (some ⟨[], []⟩) (d.write (tmpName nm) (fun m => m) b).1) := by
  have hw : Dk.writeCheck d (tmpName nm) (fun m => m) b = 0 := by
    unfold Dk.writeCheck
    rw [H.findT]
    show (if (0 : Int) < 0 ∨ 16777216 - (b.length : Int) < 0 then (2 : Int) else 0) = 0
    rw [if_neg (by omega)]
  have e : d.write (tmpName nm) (fun m => m) b = d.modify (Dk.upd (tmpName nm) ⟨[], [⟨0, b⟩]⟩ d.fs) := by
    unfold Dk.D.write
    rw [if_neg (by simp [hup]), hw, if_neg (by simp), if_neg (by intro h; rw [h] at hb; simp at hb), H.findT]
    rfl
  rw [e]
  rcases modify_cases d (Dk.upd (tmpName nm) ⟨[], [⟨0, b⟩]⟩ d.fs) with ⟨q1, q2, q3, q4, _⟩ | ⟨q1, q2⟩
  · exact .inl ⟨q1, q3.trans hup, q4, H.V, H.S, by rw [q2]; exact H.updT _⟩
  · rw [q2]
    exact .inr ⟨by omega, rfl, rfl, H.other rfl⟩
theorem Holds.sync {f : Dk.Fl} (H : Holds nm pre post l (some f) d) (hup : d.down = false) :
    ((d.sync (tmpName nm)).2 = 0 ∧ (d.sync (tmpName nm)).1.down = false ∧ (d.bud = -1 → (d.sync (tmpName nm)).1.bud = -1) ∧ Holds nm pre post l (some ⟨f.contents, []⟩) (d.sync (tmpName nm)).1) ∨
    (d.bud ≠ -1 ∧ (d.sync (tmpName nm)).2 = 32 ∧ (d.sync (tmpName nm)).1.down = true ∧ Holds nm pre post l (some f) (d.sync (tmpName nm)).1) := by
  have e : d.sync (tmpName nm) = d.modify (Dk.upd (tmpName nm) ⟨f.contents, []⟩ d.fs) := by
    unfold Dk.D.sync
    rw [if_neg (by simp [hup]), H.findT]
  rw [e]
  rcases modify_cases d (Dk.upd (tmpName nm) ⟨f.contents, []⟩ d.fs) with ⟨q1, q2, q3, q4, _⟩ | ⟨q1, q2⟩
  · exact .inl ⟨q1, q3.trans hup, q4, H.V, H.S, by rw [q2]; exact H.updT _⟩
  · rw [q2]
    exact .inr ⟨by omega, rfl, rfl, H.other rfl⟩
theorem Snaps.snoc {n : Nat} {data : Bs} (S : Snaps l) (hn : n ≤ 1000000000) (hd : data.length ≤ 1000000) (hgt : ∀ s ∈ l, s.1 < n) : Snaps (l ++ [(n, data)]) := by
  refine ⟨List.pairwise_append.2 ⟨S.ord, List.pairwise_singleton _ _, fun a ha b hb => ?_⟩, fun s hs => ?_, fun s hs => ?_⟩
  · obtain rfl := List.mem_singleton.1 hb
    exact hgt a ha
  · rcases List.mem_append.1 hs with hs | hs
    · exact S.num s hs
    · obtain rfl := List.mem_singleton.1 hs; exact hn
  · rcases List.mem_append.1 hs with hs | hs
    · exact S.dat s hs
    · obtain rfl := List.mem_singleton.1 hs; exact hd
theorem Holds.rename {n : Nat} {data : Bs} (H : Holds nm pre post l (some ⟨encode n data, []⟩) d) (hup : d.down = false) (hn : n ≤ 1000000000) (hd : data.length ≤ 1000000) (hgt : ∀ s ∈ l, s.1 < n) :
    ((d.rename (tmpName nm) (fileName nm n)).2 = 0 ∧ (d.rename (tmpName nm) (fileName nm n)).1.down = false ∧ (d.bud = -1 → (d.rename (tmpName nm) (fileName nm n)).1.bud = -1) ∧ Holds nm pre post (l ++ [(n, data)]) none (d.rename (tmpName nm) (fileName nm n)).1) ∨
    (d.bud ≠ -1 ∧ (d.rename (tmpName nm) (fileName nm n)).2 = 32 ∧ (d.rename (tmpName nm) (fileName nm n)).1.down = true ∧ Holds nm pre post l (some ⟨encode n data, []⟩) (d.rename (tmpName nm) (fileName nm n)).1) := by
  have hrc : Dk.renameCheck d (tmpName nm) (fileName nm n) = 0 := by
    unfold Dk.renameCheck
    rw [H.findT]
    show (if Dk.valid (fileName nm n) = false then (6 : Int) else 0) = 0
    rw [valid_file H.V.vp (by omega), if_neg (by simp)]
  have hfs : d.fs = (pre ++ snapF nm l) ++ (tmpName nm, ⟨encode n data, []⟩) :: post := H.fs
  have hdel : Dk.del (tmpName nm) d.fs = (pre ++ snapF nm l) ++ post := by
    rw [hfs]
    exact del_at (fun x hx => before_ne (H.aheadT x hx)) (fun x hx => H.V.postT x hx)
  have hno : ∀ x ∈ (pre ++ snapF nm l) ++ post, x.1 ≠ fileName nm n := fun x hx => by
    rcases List.mem_append.1 hx with hx | hx
    · exact before_ne (H.aheadN hn hgt x hx)
    · exact H.V.postN n x hx
  have hins : Dk.ins (fileName nm n) ⟨encode n data, []⟩ (Dk.del (fileName nm n) (Dk.del (tmpName nm) d.fs)) = (pre ++ snapF nm (l ++ [(n, data)])) ++ post := by
    rw [hdel, del_no hno, ins_at (H.aheadN hn hgt) (fun x hx => (H.V.b x hx).1 n), snapF_append]
    simp [snapF]
  have e : d.rename (tmpName nm) (fileName nm n) = d.modify ((pre ++ snapF nm (l ++ [(n, data)])) ++ post) := by
    unfold Dk.D.rename
    rw [if_neg (by simp [hup]), hrc, if_neg (by simp), H.findT]
    show d.modify _ = _
    rw [hins]
  rw [e]
  rcases modify_cases d ((pre ++ snapF nm (l ++ [(n, data)])) ++ post) with ⟨q1, q2, q3, q4, _⟩ | ⟨q1, q2⟩
  · exact .inl ⟨q1, q3.trans hup, q4, H.V, H.S.snoc hn hd hgt, by rw [q2]; rfl⟩
  · rw [q2]
    exact .inr ⟨by omega, rfl, rfl, H.other rfl⟩
theorem takeWhile_all {α : Type} {p : α → Bool} : ∀ {l : List α}, (∀ x ∈ l, p x = true) → l.takeWhile p = l
  | [], _ => rfl
  | x :: l, h => by rw [List.takeWhile_cons, h x (by simp), if_pos rfl, takeWhile_all (fun y hy => h y (List.mem_cons_of_mem _ hy))]
theorem thinL_keep {e : Nat} : ∀ (r : List (Bs × Nat)) (i : Nat) (d : Dk.D), e ≤ i + 2 → i + r.length ≤ e → thinL e i r d = (d, 0)
  | [], _, _, _, _ => rfl
  | x :: r, i, d, h1, h2 => by
    rw [List.length_cons] at h2
    rw [thinL, if_pos ⟨by omega, by omega⟩]
    exact thinL_keep r (i + 1) d (by omega) (by omega)
def keep2 (l : List (Nat × Bs)) : List (Nat × Bs) := l.drop (l.length - 2)
theorem Holds.thin (H : Holds nm pre post l none d) (hup : d.down = false) {n : Nat} (hle : ∀ s ∈ l, s.1 ≤ n) (hl : l.length ≤ 3) :
    ((Ck.thin d nm n).2 = 0 ∧ (Ck.thin d nm n).1.down = false ∧ (d.bud = -1 → (Ck.thin d nm n).1.bud = -1) ∧ Holds nm pre post (keep2 l) none (Ck.thin d nm n).1) ∨
    (d.bud ≠ -1 ∧ (Ck.thin d nm n).2 = 32 ∧ (Ck.thin d nm n).1.down = true ∧ Holds nm pre post l none (Ck.thin d nm n).1) := by
  have htw : (l.map fun s => (fileName nm s.1, s.1)).takeWhile (fun x => decide (x.2 ≤ n)) = l.map fun s => (fileName nm s.1, s.1) := by
    refine takeWhile_all (fun x hx => ?_)
    obtain ⟨s, hs, rfl⟩ := List.mem_map.1 hx
    simpa using hle s hs
  unfold Ck.thin
  rw [H.files hup, htw, List.length_map]
  by_cases h2 : l.length ≤ 2
  · rw [thinL_keep _ 0 d (by omega) (by simp)]
    refine .inl ⟨rfl, hup, id, ?_⟩
    unfold keep2
    rw [show l.length - 2 = 0 from by omega]
    exact H
  · obtain ⟨s1, s2, s3, rfl⟩ : ∃ s1 s2 s3, l = [s1, s2, s3] := by
      match l, hl, h2 with
      | [], _, h2 => simp at h2
      | [_], _, h2 => simp at h2
      | [_, _], _, h2 => simp at h2
      | [s1, s2, s3], _, _ => exact ⟨s1, s2, s3, rfl⟩
      | _ :: _ :: _ :: _ :: _, hl, _ => simp at hl
    have hk := fun d => thinL_keep (e := 3) [(fileName nm s2.1, s2.1), (fileName nm s3.1, s3.1)] 1 d (by omega) (by simp)
    have hfs : d.fs = pre ++ (fileName nm s1.1, ⟨encode s1.1 s1.2, []⟩) :: (snapF nm [s2, s3] ++ post) := by
      rw [H.fs]; simp [snapF]
    have hrest : ∀ x ∈ snapF nm [s2, s3] ++ post, x.1 ≠ fileName nm s1.1 := fun x hx => by
      rcases List.mem_append.1 hx with hx | hx
      · obtain ⟨u, hu, rfl⟩ := mem_snapF hx
        intro e
        have h1 := (List.pairwise_cons.1 H.S.ord).1 u hu
        have := fileName_inj e
        omega
      · exact H.V.postN s1.1 x hx
    have hdel : Dk.del (fileName nm s1.1) d.fs = pre ++ (snapF nm [s2, s3] ++ post) := by
      rw [hfs]
      exact del_at (H.V.preN s1.1) hrest
    have hrem : d.remove (fileName nm s1.1) = d.modify (pre ++ (snapF nm [s2, s3] ++ post)) := by
      unfold Dk.D.remove
      rw [if_neg (by simp [hup]), H.find (s := s1) (by simp), hdel]
    have hS : Snaps [s2, s3] := ⟨(List.pairwise_cons.1 H.S.ord).2, fun s hs => H.S.num s (List.mem_cons_of_mem _ hs), fun s hs => H.S.dat s (List.mem_cons_of_mem _ hs)⟩
    obtain ⟨r, hr⟩ : ∃ r, r = thinL [s1, s2, s3].length 0 ([s1, s2, s3].map fun s => (fileName nm s.1, s.1)) d := ⟨_, rfl⟩
    rw [← hr]
    change r = thinL 3 0 [(fileName nm s1.1, s1.1), (fileName nm s2.1, s2.1), (fileName nm s3.1, s3.1)] d at hr
    rw [thinL, if_neg (by omega), hrem] at hr
    rcases modify_cases d (pre ++ (snapF nm [s2, s3] ++ post)) with ⟨q1, q2, q3, q4, _⟩ | ⟨q1, q2⟩
    · rw [q1, if_neg (by simp), hk] at hr
      rw [hr]
      exact .inl ⟨rfl, q3.trans hup, q4, H.V, hS, by rw [q2]; simp [keep2]⟩
    · rw [q2, if_pos (by simp)] at hr
      rw [hr]
      exact .inr ⟨by omega, rfl, rfl, H.other rfl⟩
theorem encode_pos (n : Nat) (data : Bs) : 0 < (encode n data).length ∧ (encode n data).length ≤ data.length + 28 := by
  have := body_length n data
  have := Wl.enc_length (body n data)
  unfold encode
  omega
/-- what Save leaves -/
theorem Holds.save (H : Holds nm pre post l none d) (hup : d.down = false) (hl : l.length ≤ 2) {n : Nat} {data : Bs} (hn : n ≤ 1000000000) (hd : data.length ≤ 1000000) (hgt : ∀ s ∈ l, s.1 < n) :
    ((Ck.save d nm n data).2 = 0 ∧ (Ck.save d nm n data).1.down = false ∧ (d.bud = -1 → (Ck.save d nm n data).1.bud = -1) ∧ Holds nm pre post (keep2 (l ++ [(n, data)])) none (Ck.save d nm n data).1) ∨
    (d.bud ≠ -1 ∧ (Ck.save d nm n data).2 = 32 ∧ (Ck.save d nm n data).1.down = true ∧ ((∃ t, Holds nm pre post l t (Ck.save d nm n data).1) ∨ Holds nm pre post (l ++ [(n, data)]) none (Ck.save d nm n data).1)) := by
  have hany : (Ck.seqs d nm).any (fun m => decide ((n : Int) ≤ (m : Int))) = false := by
    rw [H.seqs hup, List.any_eq_false]
    intro m hm
    obtain ⟨s, hs, rfl⟩ := List.mem_map.1 hm
    have := hgt s hs
    simp; omega
  have e : Ck.save d nm n data = stepsL nm n (encode n data) [0, 1, 2, 3, 4, 5] d := by
    unfold Ck.save
    rw [if_neg (by omega), if_neg (by omega), if_neg (by simp [hup]), hany]
    rfl
  have hep := encode_pos n data
  rw [e]
  obtain ⟨r, hr⟩ : ∃ r, r = stepsL nm n (encode n data) [0, 1, 2, 3, 4, 5] d := ⟨_, rfl⟩
  rw [← hr]
  rw [stepsL] at hr
  change r = (if (Ck.discard d (tmpName nm)).2 ≠ 0 then Ck.discard d (tmpName nm) else stepsL nm n (encode n data) [1, 2, 3, 4, 5] (Ck.discard d (tmpName nm)).1) at hr
  rw [H.discard, if_neg (by simp)] at hr
  simp only [] at hr
  rw [stepsL] at hr
  change r = (if (d.create (tmpName nm)).2 ≠ 0 then d.create (tmpName nm) else stepsL nm n (encode n data) [2, 3, 4, 5] (d.create (tmpName nm)).1) at hr
  rcases H.create hup hl with ⟨a1, a2, a3, H1⟩ | ⟨a0, a1, a2, H1⟩
  · rw [if_neg (by simp [a1])] at hr
    generalize (d.create (tmpName nm)).1 = d1 at *
    rw [stepsL] at hr
    change r = (if (d1.write (tmpName nm) (fun m => m) (encode n data)).2 ≠ 0 then d1.write (tmpName nm) (fun m => m) (encode n data) else stepsL nm n (encode n data) [3, 4, 5] (d1.write (tmpName nm) (fun m => m) (encode n data)).1) at hr
    rcases H1.write a2 hep.1 (by omega) with ⟨b1, b2, b3, H2⟩ | ⟨b0, b1, b2, H2⟩
    · rw [if_neg (by simp [b1])] at hr
      generalize (d1.write (tmpName nm) (fun m => m) (encode n data)).1 = d2 at *
      rw [stepsL] at hr
      change r = (if (d2.sync (tmpName nm)).2 ≠ 0 then d2.sync (tmpName nm) else stepsL nm n (encode n data) [4, 5] (d2.sync (tmpName nm)).1) at hr
      rcases H2.sync b2 with ⟨c1, c2, c3, H3⟩ | ⟨c0, c1, c2, H3⟩
      · rw [if_neg (by simp [c1])] at hr
        have hct : (⟨[], [⟨0, encode n data⟩]⟩ : Dk.Fl).contents = encode n data := by
          show Dk.contents [] ([] ++ [⟨0, encode n data⟩]) = _
          rw [Dk.contents_snoc, Dk.Wr.apply]
          exact (Dk.over_end [] (encode n data)).trans (List.nil_append _)
        rw [hct] at H3
        generalize (d2.sync (tmpName nm)).1 = d3 at *
        rw [stepsL] at hr
        change r = (if (d3.rename (tmpName nm) (fileName nm n)).2 ≠ 0 then d3.rename (tmpName nm) (fileName nm n) else stepsL nm n (encode n data) [5] (d3.rename (tmpName nm) (fileName nm n)).1) at hr
        rcases H3.rename c2 hn hd hgt with ⟨e1, e2, e3, H4⟩ | ⟨e0, e1, e2, H4⟩
        · rw [if_neg (by simp [e1])] at hr
          generalize (d3.rename (tmpName nm) (fileName nm n)).1 = d4 at *
          rw [stepsL] at hr
          change r = (if (Ck.thin d4 nm n).2 ≠ 0 then Ck.thin d4 nm n else ((Ck.thin d4 nm n).1, 0)) at hr
          have hle : ∀ s ∈ l ++ [(n, data)], s.1 ≤ n := fun s hs => by
            rcases List.mem_append.1 hs with hs | hs
            · have := hgt s hs; omega
            · obtain rfl := List.mem_singleton.1 hs; exact Nat.le_refl _
          rcases H4.thin e2 hle (by simp; omega) with ⟨f1, f2, f3, H5⟩ | ⟨f0, f1, f2, H5⟩
          · rw [if_neg (by simp [f1])] at hr
            rw [hr]
            exact .inl ⟨rfl, f2, fun h => f3 (e3 (c3 (b3 (a3 h)))), H5⟩
          · rw [if_pos (by rw [f1]; decide)] at hr
            rw [hr]
            exact .inr ⟨fun h => f0 (e3 (c3 (b3 (a3 h)))), f1, f2, .inr H5⟩
        · rw [if_pos (by rw [e1]; decide)] at hr
          rw [hr]
          exact .inr ⟨fun h => e0 (c3 (b3 (a3 h))), e1, e2, .inl ⟨_, H4⟩⟩
      · rw [if_pos (by rw [c1]; decide)] at hr
        rw [hr]
        exact .inr ⟨fun h => c0 (b3 (a3 h)), c1, c2, .inl ⟨_, H3⟩⟩
    · rw [if_pos (by rw [b1]; decide)] at hr
      rw [hr]
      exact .inr ⟨fun h => b0 (a3 h), b1, b2, .inl ⟨_, H2⟩⟩
  · rw [if_pos (by rw [a1]; decide)] at hr
    rw [hr]
    exact .inr ⟨a0, a1, a2, .inl ⟨_, H1⟩⟩
end
end Go.Proofs.YtamencnachmhoaaGreatDoor.Ck
