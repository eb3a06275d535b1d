/-
  A LOG, PLAIN: what each of its methods leaves.
  A LOG OVER TIME, PLAIN: what holds of the files and of the log after any number of entries, and that each method keeps it.
-/
import Derived.Test.YtcbnbhlgikjbeaaGreatDoorDkTrunc
import Derived.Test.YtcbnbhlgikjbeaaGreatDoorWlRecs
import Derived.Test.YtcbnbhlgikjbeaaGreatDoorDkApp1

namespace Go.Proofs.YtcbnbhlgikjbeaaGreatDoor.Wl
open Go

theorem u8_all {P : UInt8 → Prop} (h : ∀ n : Fin 256, P (UInt8.ofNat n.val)) (c : UInt8) : P c := by
  have := h ⟨c.toNat, UInt8.toNat_lt c⟩
  rwa [UInt8.ofNat_toNat] at this
set_option maxRecDepth 10000 in
theorem okP_name {c : UInt8} (h : okP c = true) : Dk.nameBytes.contains c = true :=
  u8_all (P := fun c => okP c = true → Dk.nameBytes.contains c = true) (by decide) c h
set_option maxRecDepth 10000 in
theorem isDig_name {c : UInt8} (h : isDig c) : Dk.nameBytes.contains c = true :=
  u8_all (P := fun c => 48 ≤ c.toNat ∧ c.toNat ≤ 57 → Dk.nameBytes.contains c = true) (by decide) c h
theorem all_drop (p : UInt8 → Bool) : ∀ l : List UInt8, (l.dropWhile p).all p = l.all p
  | [] => rfl
  | x :: l => by
    rw [List.dropWhile_cons, List.all_cons]
    cases h : p x with
    | true => simpa using all_drop p l
    | false => simp [h]
theorem empty_drop (p : UInt8 → Bool) : ∀ l : List UInt8, (l.dropWhile p).isEmpty = l.all p
  | [] => rfl
  | x :: l => by
    rw [List.dropWhile_cons, List.all_cons]
    cases h : p x with
    | true => simpa using empty_drop p l
    | false => simp
theorem trim_empty (l cs : List UInt8) : (Lib.trimS l cs).isEmpty = l.all (cs.contains ·) := by
  unfold Lib.trimS Lib.trimLeftS
  rw [empty_drop]
  unfold Lib.trimRightS
  rw [List.all_reverse, all_drop, List.all_reverse]
theorem valid_name {p : List UInt8} {n : Nat} (hp : validP p = true) (hn : n < 10000000000) : Dk.valid (name p n) = true := by
  unfold validP at hp
  simp only [Bool.and_eq_true, decide_eq_true_eq, List.all_eq_true] at hp
  obtain ⟨⟨h1, h2⟩, h3⟩ := hp
  have hl := name_length (p := p) hn
  unfold Dk.valid
  rw [trim_empty, List.all_eq_true.2]
  · have : (name p n).isEmpty = false := by cases h : name p n with
      | nil => rw [h] at hl; simp at hl
      | cons => rfl
    rw [this]
    simp only [Bool.not_false, Bool.true_and, Bool.and_true, decide_eq_true_eq]
    omega
  · intro c hc
    unfold name at hc
    rcases List.mem_append.1 hc with hc | hc
    · exact okP_name (h1 c hc)
    · rcases List.mem_append.1 hc with hc | hc
      · obtain rfl := List.mem_singleton.1 hc; decide
      · exact isDig_name (pad_dig n c hc)

/-- a log -/
structure L where
  pre : Bs
  size : Nat
  segs : List (Nat × Nat)
  next : Nat
  synced : Nat
def L.last (l : L) : Nat × Nat := l.segs.getLastD (0, 0)

/-- sync a segment if it has pending writes -/
def settle (d : Dk.D) (p : Bs) (s : Nat) : Dk.D × Int := if d.pending (name p s) = 0 then (d, 0) else d.sync (name p s)

def bump : List (Nat × Nat) → List (Nat × Nat)
  | [] => []
  | [s] => [(s.1, s.2 + 1)]
  | s :: t :: r => s :: bump (t :: r)

/-- the writing of an entry into the last segment -/
def append2 (d : Dk.D) (l : L) (b : Bs) : Dk.D × L × Nat × Int :=
  let r := d.write (name l.pre l.last.1) (fun n => n) (pack l.next b)
  if r.2 ≠ 0 then (r.1, l, 0, r.2) else (r.1, { l with segs := bump l.segs, next := l.next + 1 }, l.next, 0)
def append (d : Dk.D) (l : L) (b : Bs) : Dk.D × L × Nat × Int :=
  if 65536 < b.length then (d, l, 0, 5)
  else if d.down then (d, l, 0, 32)
  else if (d.size (name l.pre l.last.1)).2 ≠ 0 then (d, l, 0, (d.size (name l.pre l.last.1)).2)
  else if 0 < l.last.2 ∧ l.size ≤ (d.size (name l.pre l.last.1)).1 then
    let r := settle d l.pre l.last.1
    if r.2 ≠ 0 then (r.1, l, 0, r.2) else
    let l1 := { l with synced := l.next }
    let q := r.1.create (name l.pre l.next)
    if q.2 ≠ 0 then (q.1, l1, 0, q.2) else append2 q.1 { l1 with segs := l.segs ++ [(l.next, 0)] } b
  else append2 d l b
def sync (d : Dk.D) (l : L) : Dk.D × L × Int :=
  if d.down then (d, l, 32) else
  let r := settle d l.pre l.last.1
  if r.2 ≠ 0 then (r.1, l, r.2) else (r.1, { l with synced := l.next }, 0)
def truncF : Nat → Dk.D → L → Nat → Dk.D × L × Int
  | 0, d, l, _ => (d, l, 0)
  | k + 1, d, l, before => match l.segs with
    | s :: t :: r => if s.1 + s.2 ≤ before then
        let q := d.remove (name l.pre s.1)
        if q.2 ≠ 0 then (q.1, l, q.2) else truncF k q.1 { l with segs := t :: r } before
      else (d, l, 0)
    | _ => (d, l, 0)
def truncate (d : Dk.D) (l : L) (before : Int) : Dk.D × L × Int :=
  if before < 0 ∨ (l.next : Int) < before then (d, l, 2)
  else if d.down then (d, l, 32)
  else truncF l.segs.length d l before.toNat

end Go.Proofs.YtcbnbhlgikjbeaaGreatDoor.Wl

namespace Go.Proofs.YtcbnbhlgikjbeaaGreatDoor.Wl
open Go

theorem find_last {n : Bs} {g : Dk.Fl} : ∀ {fo : List (Bs × Dk.Fl)}, (∀ x ∈ fo, x.1 ≠ n) → Dk.find n (fo ++ [(n, g)]) = some g
  | [], _ => by simp [Dk.find]
  | y :: r, h => by
    have h1 : (y.1 == n) = false := by simpa using h y (by simp)
    have := find_last (n := n) (g := g) (fo := r) (fun x hx => h x (List.mem_cons_of_mem _ hx))
    unfold Dk.find at this ⊢
    rw [List.cons_append, List.find?_cons, h1]
    exact this
theorem upd_last {n : Bs} {g g' : Dk.Fl} : ∀ {fo : List (Bs × Dk.Fl)}, (∀ x ∈ fo, x.1 ≠ n) → Dk.upd n g' (fo ++ [(n, g)]) = fo ++ [(n, g')]
  | [], _ => by simp [Dk.upd]
  | y :: r, h => by
    have h1 : (y.1 == n) = false := by simpa using h y (by simp)
    have := upd_last (n := n) (g := g) (g' := g') (fo := r) (fun x hx => h x (List.mem_cons_of_mem _ hx))
    unfold Dk.upd at this ⊢
    rw [List.cons_append, List.map_cons, this, h1]
    simp
theorem find_miss {n : Bs} : ∀ {fs : List (Bs × Dk.Fl)}, (∀ x ∈ fs, x.1 ≠ n) → Dk.find n fs = none
  | [], _ => rfl
  | y :: r, h => by
    have h1 : (y.1 == n) = false := by simpa using h y (by simp)
    have := find_miss (n := n) (fs := r) (fun x hx => h x (List.mem_cons_of_mem _ hx))
    unfold Dk.find at this ⊢
    rw [List.find?_cons, h1]
    exact this
theorem before_asymm {a b : Bs} (h : bytesBefore a b = true) : bytesBefore b a = false := by
  cases hb : bytesBefore b a with
  | false => rfl
  | true => have := Go.WideShapes.bytes_trans a b a h hb; rw [WideAt.bytes_irrefl] at this; cases this
theorem ins_last {n : Bs} {g : Dk.Fl} : ∀ {fs : List (Bs × Dk.Fl)}, (∀ x ∈ fs, bytesBefore x.1 n = true) → Dk.ins n g fs = fs ++ [(n, g)]
  | [], _ => rfl
  | y :: r, h => by
    have h1 := before_asymm (h y (by simp))
    have := ins_last (n := n) (g := g) (fs := r) (fun x hx => h x (List.mem_cons_of_mem _ hx))
    unfold Dk.ins at this ⊢
    rw [Dk.insBy]
    rw [if_neg (by simp [h1]), this]
    rfl

/-- a passed operation, or a disk that goes down -/
theorem modify_cases (d : Dk.D) (fs : List (Bs × Dk.Fl)) :
    (d.modify fs).2 = 0 ∧ (d.modify fs).1.fs = fs ∧ (d.modify fs).1.down = d.down ∧ (d.bud = -1 → (d.modify fs).1.bud = -1) ∨
    d.bud = 0 ∧ d.modify fs = ({ d with down := true }, 32) := by
  unfold Dk.D.modify
  by_cases h : d.bud = 0
  · right; rw [if_pos h]; exact ⟨h, rfl⟩
  · left; rw [if_neg h]
    refine ⟨rfl, rfl, rfl, fun h1 => ?_⟩
    show (if 0 < d.bud then d.bud - 1 else d.bud) = -1
    rw [if_neg (by omega)]; exact h1

/-- segments one behind the other -/
def Chain : Nat → List (Nat × Nat) → Nat → Prop
  | a, [], n => a = n
  | a, s :: r, n => s.1 = a ∧ Chain (a + s.2) r n
theorem Chain.snoc : ∀ {a n k : Nat} {l : List (Nat × Nat)}, Chain a l n → Chain a (l ++ [(n, k)]) (n + k)
  | _, _, _, [], h => ⟨h.symm, by cases h; rfl⟩
  | _, _, _, _ :: _, h => ⟨h.1, Chain.snoc h.2⟩
theorem Chain.le : ∀ {a n : Nat} {l : List (Nat × Nat)}, Chain a l n → a ≤ n
  | _, _, [], h => Nat.le_of_eq h
  | _, _, _ :: _, h => Nat.le_trans (Nat.le_add_right _ _) (Chain.le h.2)
theorem Chain.lt {n : Nat} : ∀ {l : List (Nat × Nat)} {a : Nat}, Chain a l n → (∀ s ∈ l, 0 < s.2) → ∀ s ∈ l, a ≤ s.1 ∧ s.1 < n
  | [], _, _, _, _, hs => by cases hs
  | t :: r, a, h, hp, s, hs => by
    have ht := hp t (by simp)
    have hle := Chain.le h.2
    have h1 := h.1
    rcases List.mem_cons.1 hs with rfl | hs
    · omega
    · have := Chain.lt h.2 (fun x hx => hp x (List.mem_cons_of_mem _ hx)) s hs
      omega
theorem Chain.len {n : Nat} : ∀ {l : List (Nat × Nat)} {a : Nat}, Chain a l n → (∀ s ∈ l, 0 < s.2) → a + l.length ≤ n
  | [], _, h, _ => Nat.le_of_eq h
  | t :: r, a, h, hp => by
    have ht := hp t (by simp)
    have := Chain.len h.2 (fun x hx => hp x (List.mem_cons_of_mem _ hx))
    simp only [List.length_cons]; omega

/-- an older segment -/
def OldOk (p : Bs) (ps : List Bs) (s : Nat × Nat) (x : Bs × Dk.Fl) : Prop := x.1 = name p s.1 ∧ x.2.pend = [] ∧ x.2.dur = packs s.1 ((ps.drop s.1).take s.2)
inductive Olds (p : Bs) (ps : List Bs) : List (Nat × Nat) → List (Bs × Dk.Fl) → Prop
  | nil : Olds p ps [] []
  | cons {s x os fo} : OldOk p ps s x → Olds p ps os fo → Olds p ps (s :: os) (x :: fo)
theorem Olds.snoc {p : Bs} {ps : List Bs} {s : Nat × Nat} {x : Bs × Dk.Fl} (hx : OldOk p ps s x) : ∀ {os : List (Nat × Nat)} {fo : List (Bs × Dk.Fl)}, Olds p ps os fo → Olds p ps (os ++ [s]) (fo ++ [x])
  | _, _, .nil => .cons hx .nil
  | _, _, .cons h1 h2 => .cons h1 (Olds.snoc hx h2)
theorem Olds.length {p : Bs} {ps : List Bs} : ∀ {os : List (Nat × Nat)} {fo : List (Bs × Dk.Fl)}, Olds p ps os fo → os.length = fo.length
  | _, _, .nil => rfl
  | _, _, .cons _ h2 => by simp [Olds.length h2]
theorem Olds.mem {p : Bs} {ps : List Bs} : ∀ {os : List (Nat × Nat)} {fo : List (Bs × Dk.Fl)}, Olds p ps os fo → ∀ x ∈ fo, ∃ s ∈ os, OldOk p ps s x
  | _, _, .nil, _, hx => by cases hx
  | _, _, .cons h1 h2, x, hx => by
    rcases List.mem_cons.1 hx with rfl | hx
    · exact ⟨_, by simp, h1⟩
    · obtain ⟨s, hs, h⟩ := Olds.mem h2 x hx
      exact ⟨s, List.mem_cons_of_mem _ hs, h⟩
theorem Olds.more {p : Bs} {ps : List Bs} (qs : List Bs) {os : List (Nat × Nat)} {fo : List (Bs × Dk.Fl)} (hs : ∀ s ∈ os, s.1 + s.2 ≤ ps.length) (h : Olds p ps os fo) : Olds p (ps ++ qs) os fo := by
  induction h with
  | nil => exact .nil
  | cons h1 _ ih =>
    refine .cons ⟨h1.1, h1.2.1, ?_⟩ (ih (fun x hx => hs x (List.mem_cons_of_mem _ hx)))
    have := hs _ List.mem_cons_self
    rw [h1.2.2, List.drop_append_of_le_length (by omega), List.take_append_of_le_length (by rw [List.length_drop]; omega)]
theorem Chain.ends {n : Nat} : ∀ {l : List (Nat × Nat)} {a : Nat}, Chain a l n → ∀ s ∈ l, s.1 + s.2 ≤ n
  | [], _, _, _, hs => by cases hs
  | t :: r, a, h, s, hs => by
    rcases List.mem_cons.1 hs with rfl | hs
    · have := Chain.le h.2; have := h.1; omega
    · exact Chain.ends h.2 s hs

/-- the files and the log after the entries ps -/
structure Inv (p : Bs) (sz : Nat) (ps : List Bs) (d : Dk.D) (l : L) (a : Nat) (os : List (Nat × Nat)) (fo : List (Bs × Dk.Fl)) (f k : Nat) (g : Dk.Fl) : Prop where
  vp : validP p = true
  pre : l.pre = p
  size : l.size = sz
  segs : l.segs = os ++ [(f, k)]
  fs : d.fs = fo ++ [(name p f, g)]
  old : Olds p ps os fo
  chain : Chain a os f
  pos : ∀ s ∈ os, 0 < s.2
  next : l.next = f + k
  len : ps.length = f + k
  cont : g.contents = packs f (ps.drop f)
  app : Dk.AppD g.dur g.pend
  syn : f ≤ l.synced ∧ l.synced ≤ f + k
  dur : g.dur = packs f ((ps.drop f).take (l.synced - f))

theorem packs_len : ∀ (s : Nat) (ps : List Bs) (m : Nat), (∀ q ∈ ps, q.length ≤ m) → (packs s ps).length ≤ ps.length * (16 + m)
  | _, [], _, _ => by simp [packs]
  | s, q :: ps, m, h => by
    have := packs_len (s + 1) ps m (fun x hx => h x (List.mem_cons_of_mem _ hx))
    have hq := h q (by simp)
    rw [packs, List.length_append, pack_length, List.length_cons, Nat.succ_mul]
    omega

section
variable {p : Bs} {sz : Nat} {ps : List Bs} {d : Dk.D} {l : L} {a : Nat} {os : List (Nat × Nat)} {fo : List (Bs × Dk.Fl)} {f k : Nat} {g : Dk.Fl}
theorem Inv.last (h : Inv p sz ps d l a os fo f k g) : l.last = (f, k) := by unfold L.last; rw [h.segs]; simp
theorem Inv.ahead (h : Inv p sz ps d l a os fo f k g) (hf : f < 10000000000) (n : Nat) (hn : f ≤ n) (hn2 : n < 10000000000) : ∀ x ∈ fo, bytesBefore x.1 (name p n) = true := by
  intro x hx
  obtain ⟨s, hs, ho⟩ := h.old.mem x hx
  rw [ho.1]
  have := h.chain.lt h.pos s hs
  exact name_before hn2 (by omega)
theorem Inv.other (h : Inv p sz ps d l a os fo f k g) (hf : f < 10000000000) : ∀ x ∈ fo, x.1 ≠ name p f := by
  intro x hx e
  have := h.ahead hf f (Nat.le_refl _) hf x hx
  rw [e, WideAt.bytes_irrefl] at this; cases this
theorem Inv.find (h : Inv p sz ps d l a os fo f k g) (hf : f < 10000000000) : Dk.find (name p f) d.fs = some g := by rw [h.fs]; exact find_last (h.other hf)
theorem Inv.upd (h : Inv p sz ps d l a os fo f k g) (hf : f < 10000000000) (g' : Dk.Fl) : Dk.upd (name p f) g' d.fs = fo ++ [(name p f, g')] := by rw [h.fs]; exact upd_last (h.other hf)
theorem Inv.count (h : Inv p sz ps d l a os fo f k g) : d.fs.length ≤ f + 1 := by
  rw [h.fs, List.length_append, ← h.old.length]
  have := h.chain.len h.pos
  simp; omega
/-- what does not change the files -/
theorem Inv.disk (h : Inv p sz ps d l a os fo f k g) {d' : Dk.D} (hd : d'.fs = d.fs) : Inv p sz ps d' l a os fo f k g :=
  ⟨h.vp, h.pre, h.size, h.segs, hd.trans h.fs, h.old, h.chain, h.pos, h.next, h.len, h.cont, h.app, h.syn, h.dur⟩
/-- all synced -/
theorem Inv.synced (h : Inv p sz ps d l a os fo f k g) {d' : Dk.D} (hd : d'.fs = fo ++ [(name p f, ⟨g.contents, []⟩)]) : Inv p sz ps d' { l with synced := l.next } a os fo f k ⟨g.contents, []⟩ :=
  ⟨h.vp, h.pre, h.size, h.segs, hd, h.old, h.chain, h.pos, h.next, h.len, h.cont, Dk.AppD.nil _, ⟨by show f ≤ l.next; have := h.next; omega, by show l.next ≤ _; have := h.next; omega⟩, by
    show g.contents = _
    rw [h.cont]
    show _ = packs f ((ps.drop f).take (l.next - f))
    rw [List.take_of_length_le]
    have := h.next; have := h.len
    rw [List.length_drop]; omega⟩

/-- the segment is synced -/
theorem Inv.settle (h : Inv p sz ps d l a os fo f k g) (hf : f < 10000000000) (hup : d.down = false) :
    ((Wl.settle d p f).2 = 0 ∧ (Wl.settle d p f).1.fs = fo ++ [(name p f, ⟨g.contents, []⟩)] ∧ (Wl.settle d p f).1.down = false ∧ (d.bud = -1 → (Wl.settle d p f).1.bud = -1)) ∨
    (d.bud = 0 ∧ Wl.settle d p f = ({ d with down := true }, 32)) := by
  unfold Wl.settle
  have hp : d.pending (name p f) = g.pend.length := by unfold Dk.D.pending; rw [if_neg (by simp [hup]), h.find hf]
  rw [hp]
  by_cases h0 : g.pend.length = 0
  · left
    rw [if_pos h0]
    have hg : g = ⟨g.contents, []⟩ := by
      cases g with
      | mk du pe =>
        have : pe = [] := List.eq_nil_of_length_eq_zero h0
        subst this; rfl
    exact ⟨rfl, by rw [← hg]; exact h.fs, hup, id⟩
  · rw [if_neg h0]
    unfold Dk.D.sync
    rw [if_neg (by simp [hup]), h.find hf]
    simp only []
    rw [h.upd hf]
    rcases modify_cases d (fo ++ [(name p f, ⟨g.contents, []⟩)]) with ⟨h1, h2, h3, h4⟩ | ⟨h1, h2⟩
    · left; exact ⟨h1, h2, h3.trans hup, h4⟩
    · right; exact ⟨h1, h2⟩

/-- an entry is written into the last segment -/
theorem Inv.append2 (h : Inv p sz ps d l a os fo f k g) (hup : d.down = false) (b : Bs) (hb : b.length ≤ 200) (hps : ∀ q ∈ ps, q.length ≤ 200) (hn : ps.length ≤ 1000) :
    ((Wl.append2 d l b).2.2 = (l.next, 0) ∧ (Wl.append2 d l b).1.down = false ∧ (d.bud = -1 → (Wl.append2 d l b).1.bud = -1) ∧ ∃ g', Inv p sz (ps ++ [b]) (Wl.append2 d l b).1 (Wl.append2 d l b).2.1 a os fo f (k + 1) g' ∧ (Wl.append2 d l b).2.1.synced = l.synced) ∨
    (d.bud = 0 ∧ Wl.append2 d l b = ({ d with down := true }, l, 0, 32)) := by
  obtain rfl := h.pre
  have hlen := h.len
  have hf : f < 10000000000 := by omega
  have hfi := h.find hf
  have hcl : g.contents.length ≤ 1000 * 216 := by
    rw [h.cont]
    refine Nat.le_trans (packs_len f (ps.drop f) 200 (fun q hq => hps q (List.mem_of_mem_drop hq))) ?_
    exact Nat.mul_le_mul (by rw [List.length_drop]; omega) (Nat.le_refl _)
  have hpl := pack_length l.next b
  unfold Wl.append2
  rw [h.last]
  have hw : d.write (name l.pre f) (fun n => n) (pack l.next b) = d.modify (fo ++ [(name l.pre f, ⟨g.dur, g.pend ++ [⟨g.contents.length, pack l.next b⟩]⟩)]) := by
    have hc : Dk.writeCheck d (name l.pre f) (fun n => n) (pack l.next b) = 0 := by
      unfold Dk.writeCheck
      rw [hfi]
      simp only []
      rw [if_neg (by omega)]
    unfold Dk.D.write
    rw [if_neg (by simp [hup]), if_neg (by rw [hc]; simp), if_neg (by intro e; rw [e] at hpl; simp at hpl; omega), hfi]
    simp only [Int.toNat_natCast]
    rw [h.upd hf]
  rw [hw]
  rcases modify_cases d (fo ++ [(name l.pre f, ⟨g.dur, g.pend ++ [⟨g.contents.length, pack l.next b⟩]⟩)]) with ⟨h1, h2, h3, h4⟩ | ⟨h1, h2⟩
  · left
    simp only []
    rw [if_neg (by rw [h1]; simp)]
    refine ⟨rfl, h3.trans hup, h4, ⟨g.dur, g.pend ++ [⟨g.contents.length, pack l.next b⟩]⟩, ?_, rfl⟩
    have hbump : ∀ os : List (Nat × Nat), bump (os ++ [(f, k)]) = os ++ [(f, k + 1)] := by
      intro os
      induction os with
      | nil => rfl
      | cons s r ih =>
        cases r with
        | nil => rfl
        | cons t r => rw [List.cons_append, List.cons_append, bump, ← List.cons_append, ih]; rfl
    have hdrop : (ps ++ [b]).drop f = ps.drop f ++ [b] := List.drop_append_of_le_length (by omega)
    refine ⟨h.vp, h.pre, h.size, by show bump l.segs = _; rw [h.segs, hbump], h2, h.old.more [b] (fun s hs => by have := h.chain.ends s hs; omega), h.chain, h.pos, by show l.next + 1 = _; have := h.next; omega,
      by rw [List.length_append]; simp; omega, ?_, h.app.snoc _, ⟨h.syn.1, by have := h.syn.2; show l.synced ≤ _; omega⟩, ?_⟩
    · show Dk.contents g.dur (g.pend ++ [⟨g.contents.length, pack l.next b⟩]) = _
      rw [Dk.contents_snoc, Dk.Wr.apply]
      show Dk.over g.contents g.contents.length (pack l.next b) = _
      rw [Dk.over_end, h.cont, hdrop, packs_append]
      have : f + (ps.drop f).length = l.next := by rw [List.length_drop]; have := h.next; omega
      rw [this]
      simp [packs]
    · show g.dur = packs f (((ps ++ [b]).drop f).take (l.synced - f))
      rw [h.dur, hdrop, List.take_append_of_le_length]
      have := h.syn
      rw [List.length_drop]; omega
  · right
    refine ⟨h1, ?_⟩
    simp only []
    rw [if_pos (by rw [h2]; simp), h2]

/-- an entry is appended -/
theorem Inv.append (h : Inv p sz ps d l a os fo f k g) (hup : d.down = false) (b : Bs) (hb : b.length ≤ 200) (hps : ∀ q ∈ ps, q.length ≤ 200) (hn : ps.length ≤ 200) :
    ((Wl.append d l b).2.2 = (l.next, 0) ∧ (Wl.append d l b).1.down = false ∧ (d.bud = -1 → (Wl.append d l b).1.bud = -1) ∧
      ((0 < k ∧ sz ≤ (packs f (ps.drop f)).length) ∧ (∃ fo' g', Inv p sz (ps ++ [b]) (Wl.append d l b).1 (Wl.append d l b).2.1 a (os ++ [(f, k)]) fo' (f + k) 1 g') ∧ (Wl.append d l b).2.1.synced = f + k ∨
       ¬ (0 < k ∧ sz ≤ (packs f (ps.drop f)).length) ∧ (∃ g', Inv p sz (ps ++ [b]) (Wl.append d l b).1 (Wl.append d l b).2.1 a os fo f (k + 1) g') ∧ (Wl.append d l b).2.1.synced = l.synced)) ∨
    (d.bud ≠ -1 ∧ (Wl.append d l b).2.2 = (0, 32) ∧ (Wl.append d l b).1.down = true ∧ ∃ os' fo' f' k' g', Inv p sz ps (Wl.append d l b).1 (Wl.append d l b).2.1 a os' fo' f' k' g') := by
  obtain rfl := h.pre
  have hlen := h.len
  have hf : f < 10000000000 := by omega
  have hsize : d.size (name l.pre f) = (g.contents.length, 0) := by unfold Dk.D.size; rw [if_neg (by simp [hup]), h.find hf]
  unfold Wl.append
  rw [if_neg (by omega), if_neg (by simp [hup]), h.last]
  simp only []
  rw [hsize]
  simp only []
  rw [if_neg (by simp)]
  have hwh : (0 < k ∧ l.size ≤ g.contents.length) = (0 < k ∧ sz ≤ (packs f (ps.drop f)).length) := by rw [h.size, h.cont]
  by_cases hroll : 0 < k ∧ l.size ≤ g.contents.length
  · rw [if_pos hroll]
    rcases h.settle hf hup with ⟨h1, h2, h3, h4⟩ | ⟨h1, h2⟩
    · rw [if_neg (by rw [h1]; simp)]
      have hI := h.synced h2
      generalize hd1 : (Wl.settle d l.pre f).1 = d1 at *
      -- the new segment
      have hnext := h.next
      have hall : ∀ x ∈ d1.fs, bytesBefore x.1 (name l.pre l.next) = true := by
        intro x hx
        rw [h2] at hx
        rcases List.mem_append.1 hx with hx | hx
        · exact h.ahead hf l.next (by omega) (by omega) x hx
        · obtain rfl := List.mem_singleton.1 hx
          exact name_before (by omega) (by omega)
      have hmiss : Dk.find (name l.pre l.next) d1.fs = none := find_miss (fun x hx e => by
        have := hall x hx
        rw [e, WideAt.bytes_irrefl] at this; cases this)
      have hcount : d1.fs.length ≤ 1000 := by have := hI.count; omega
      have hcc : Dk.createCheck d1 (name l.pre l.next) = 0 ∨ 256 ≤ d1.fs.length := by
        by_cases h256 : 256 ≤ d1.fs.length
        · exact .inr h256
        · left
          unfold Dk.createCheck
          rw [valid_name h.vp (by omega), hmiss]
          simp [h256]
      have h256 : ¬ 256 ≤ d1.fs.length := by have := hI.count; omega
      have hcc := hcc.resolve_right h256
      have hcr : d1.create (name l.pre l.next) = d1.modify (d1.fs ++ [(name l.pre l.next, ⟨[], []⟩)]) := by
        unfold Dk.D.create
        rw [if_neg (by simp [h3]), if_neg (by rw [hcc]; simp), ins_last hall]
      rw [hcr]
      rcases modify_cases d1 (d1.fs ++ [(name l.pre l.next, ⟨[], []⟩)]) with ⟨q1, q2, q3, q4⟩ | ⟨q1, q2⟩
      · rw [if_neg (by rw [q1]; simp)]
        generalize hd2 : (d1.modify (d1.fs ++ [(name l.pre l.next, ⟨[], []⟩)])).1 = d2 at *
        have hI2 : Inv l.pre sz ps d2 { l with synced := l.next, segs := l.segs ++ [(l.next, 0)] } a (os ++ [(f, k)]) (fo ++ [(name l.pre f, ⟨g.contents, []⟩)]) l.next 0 ⟨[], []⟩ := by
          have hdl : ps.drop l.next = [] := List.drop_eq_nil_of_le (by omega)
          refine ⟨h.vp, rfl, h.size, by show l.segs ++ _ = _; rw [h.segs], by rw [q2, h2], h.old.snoc ⟨rfl, rfl, ?_⟩, ?_, ?_, rfl, by show ps.length = l.next + 0; omega, by rw [hdl]; rfl, Dk.AppD.nil _, ⟨Nat.le_refl _, Nat.le_refl _⟩, by rw [hdl]; simp [packs]⟩
          · show g.contents = _
            rw [h.cont, List.take_of_length_le (by rw [List.length_drop]; omega)]
          · rw [hnext]; exact h.chain.snoc
          · intro s hs
            rcases List.mem_append.1 hs with hs | hs
            · exact h.pos s hs
            · obtain rfl := List.mem_singleton.1 hs
              exact hroll.1
        rcases hI2.append2 (q3.trans h3) b hb hps (by omega) with ⟨r1, r2, r3, g', r4, r5⟩ | ⟨r1, r2⟩
        · left
          exact ⟨r1, r2, fun e => r3 (q4 (h4 e)), .inl ⟨hwh ▸ hroll, ⟨_, _, by rw [← hnext]; exact r4⟩, by rw [← hnext]; exact r5⟩⟩
        · right
          rw [r2]
          refine ⟨fun e => ?_, rfl, rfl, _, _, _, _, _, hI2.disk rfl⟩
          rw [q4 (h4 e)] at r1; cases r1
      · right
        rw [if_pos (by rw [q2]; simp), q2]
        refine ⟨fun e => ?_, rfl, rfl, _, _, _, _, _, hI.disk rfl⟩
        rw [h4 e] at q1; cases q1
    · right
      rw [if_pos (by rw [h2]; simp), h2]
      refine ⟨fun e => ?_, rfl, rfl, _, _, _, _, _, h.disk rfl⟩
      rw [e] at h1; cases h1
  · rw [if_neg hroll]
    rcases h.append2 hup b hb hps (by omega) with ⟨r1, r2, r3, g', r4, r5⟩ | ⟨r1, r2⟩
    · left
      exact ⟨r1, r2, r3, .inr ⟨hwh ▸ hroll, ⟨_, r4⟩, r5⟩⟩
    · right
      rw [r2]
      refine ⟨fun e => ?_, rfl, rfl, _, _, _, _, _, h.disk rfl⟩
      rw [e] at r1; cases r1

theorem Inv.append_any (h : Inv p sz ps d l a os fo f k g) (hup : d.down = false) (b : Bs) (hb : b.length ≤ 200) (hps : ∀ q ∈ ps, q.length ≤ 200) (hn : ps.length ≤ 200) :
    ((Wl.append d l b).2.2 = (l.next, 0) ∧ (Wl.append d l b).1.down = false ∧ (d.bud = -1 → (Wl.append d l b).1.bud = -1) ∧ ∃ os' fo' f' k' g', Inv p sz (ps ++ [b]) (Wl.append d l b).1 (Wl.append d l b).2.1 a os' fo' f' k' g') ∨
    (d.bud ≠ -1 ∧ (Wl.append d l b).2.2 = (0, 32) ∧ (Wl.append d l b).1.down = true ∧ ∃ os' fo' f' k' g', Inv p sz ps (Wl.append d l b).1 (Wl.append d l b).2.1 a os' fo' f' k' g') := by
  rcases h.append hup b hb hps hn with ⟨r1, r2, r3, ⟨_, ⟨_, _, r4⟩, _⟩ | ⟨_, ⟨_, r4⟩, _⟩⟩ | h
  · exact .inl ⟨r1, r2, r3, _, _, _, _, _, r4⟩
  · exact .inl ⟨r1, r2, r3, _, _, _, _, _, r4⟩
  · exact .inr h

/-- a log on an empty disk -/
theorem Inv.start {p : Bs} {sz : Nat} (hp : validP p = true) :
    (⟨[], -1, false⟩ : Dk.D).create (name p 0) = (⟨[(name p 0, ⟨[], []⟩)], -1, false⟩, 0) ∧ Inv p sz [] ⟨[(name p 0, ⟨[], []⟩)], -1, false⟩ ⟨p, sz, [(0, 0)], 0, 0⟩ 0 [] [] 0 0 ⟨[], []⟩ := by
  refine ⟨?_, hp, rfl, rfl, rfl, rfl, .nil, rfl, (fun s hs => by cases hs), rfl, rfl, rfl, Dk.AppD.nil _, ⟨Nat.le_refl _, Nat.le_refl _⟩, rfl⟩
  unfold Dk.D.create Dk.createCheck
  rw [if_neg (by simp), valid_name hp (by decide)]
  rfl

/-- Sync -/
theorem Inv.sync (h : Inv p sz ps d l a os fo f k g) (hup : d.down = false) (hn : ps.length ≤ 200) :
    ((Wl.sync d l).2.2 = 0 ∧ (Wl.sync d l).1.down = false ∧ (d.bud = -1 → (Wl.sync d l).1.bud = -1) ∧ (∃ g', Inv p sz ps (Wl.sync d l).1 (Wl.sync d l).2.1 a os fo f k g')) ∨
    (d.bud ≠ -1 ∧ (Wl.sync d l).2.2 = 32 ∧ (Wl.sync d l).1.down = true ∧ ∃ g', Inv p sz ps (Wl.sync d l).1 (Wl.sync d l).2.1 a os fo f k g') := by
  obtain rfl := h.pre
  have hlen := h.len
  have hf : f < 10000000000 := by omega
  unfold Wl.sync
  rw [if_neg (by simp [hup]), h.last]
  simp only []
  rcases h.settle hf hup with ⟨h1, h2, h3, h4⟩ | ⟨h1, h2⟩
  · left
    rw [if_neg (by rw [h1]; simp)]
    exact ⟨rfl, h3, h4, _, h.synced h2⟩
  · right
    rw [if_pos (by rw [h2]; simp), h2]
    exact ⟨fun e => (by rw [e] at h1; cases h1), rfl, rfl, _, h.disk rfl⟩

/-- Truncate, as far as the segments go -/
theorem Inv.truncF : ∀ (n : Nat) {d : Dk.D} {l : L} {a : Nat} {os : List (Nat × Nat)} {fo : List (Bs × Dk.Fl)} (_ : Inv p sz ps d l a os fo f k g) (_ : d.down = false) (_ : d.bud = -1) (_ : ps.length ≤ 200) (before : Nat),
    (Wl.truncF n d l before).2.2 = 0 ∧ (Wl.truncF n d l before).1.down = false ∧ (Wl.truncF n d l before).1.bud = -1 ∧ ∃ a' os' fo', Inv p sz ps (Wl.truncF n d l before).1 (Wl.truncF n d l before).2.1 a' os' fo' f k g ∧ (a ≤ before → a' ≤ before)
  | 0, d, l, a, os, fo, h, hup, hb, _, before => ⟨rfl, hup, hb, a, os, fo, h, id⟩
  | n + 1, d, l, a, os, fo, h, hup, hb, hn, before => by
    have hlen := h.len
    rw [Wl.truncF]
    have hsegs := h.segs
    cases os with
    | nil =>
      rw [hsegs]
      exact ⟨rfl, hup, hb, a, [], fo, h, id⟩
    | cons s r =>
      obtain ⟨t, r', hr⟩ : ∃ t r', r ++ [(f, k)] = t :: r' := by cases r with
        | nil => exact ⟨_, _, rfl⟩
        | cons t r => exact ⟨_, _, rfl⟩
      rw [hsegs, List.cons_append, hr]
      simp only []
      by_cases hs : s.1 + s.2 ≤ before
      · rw [if_pos hs]
        rw [h.pre]
        have hold := h.old
        cases hold with
        | cons ho hol =>
          rename_i x fo
          have hc := h.chain
          have hmem := h.chain.lt h.pos s (by simp)
          -- the first file goes
          have hfx : d.fs = x :: (fo ++ [(name p f, g)]) := h.fs
          have hall : ∀ y ∈ fo ++ [(name p f, g)], y.1 ≠ name p s.1 := by
            intro y hy e
            rcases List.mem_append.1 hy with hy | hy
            · obtain ⟨u, hu, hou⟩ := hol.mem y hy
              have h1 := hc.2.lt (fun z hz => h.pos z (List.mem_cons_of_mem _ hz)) u hu
              have h2 := h.pos s (by simp)
              have h3 := name_inj (hou.1.symm.trans e)
              have h4 := hc.1
              omega
            · obtain rfl := List.mem_singleton.1 hy
              have h3 := name_inj e
              omega
          have hdel : Dk.del (name p s.1) d.fs = fo ++ [(name p f, g)] := by
            rw [hfx]
            unfold Dk.del
            rw [List.filter_cons, if_neg (by simp [ho.1]), List.filter_eq_self.2]
            intro y hy
            simpa using hall y hy
          have hfind : Dk.find (name p s.1) d.fs = some x.2 := by
            rw [hfx]; unfold Dk.find; simp [ho.1]
          have hrem : d.remove (name p s.1) = d.modify (fo ++ [(name p f, g)]) := by
            unfold Dk.D.remove
            rw [if_neg (by simp [hup]), hfind, hdel]
          rw [hrem]
          rcases modify_cases d (fo ++ [(name p f, g)]) with ⟨q1, q2, q3, q4⟩ | ⟨q1, _⟩
          · rw [if_neg (by rw [q1]; simp)]
            have hI : Inv p sz ps (d.modify (fo ++ [(name p f, g)])).1 ⟨p, l.size, t :: r', l.next, l.synced⟩ (a + s.2) r fo f k g :=
              ⟨h.vp, rfl, h.size, hr.symm, q2, hol, hc.2, fun z hz => h.pos z (List.mem_cons_of_mem _ hz), h.next, h.len, h.cont, h.app, h.syn, h.dur⟩
            obtain ⟨e1, e2, e3, a', os', fo', e4, e5⟩ := Inv.truncF n hI (q3.trans hup) (q4 hb) hn before
            refine ⟨e1, e2, e3, a', os', fo', e4, fun _ => e5 ?_⟩
            have := hc.1
            omega
          · rw [hb] at q1; cases q1
      · rw [if_neg hs]
        exact ⟨rfl, hup, hb, a, s :: r, fo, h, id⟩
theorem Inv.first (h : Inv p sz ps d l a os fo f k g) : (l.segs.headD (0, 0)).1 = a := by
  rw [h.segs]
  have hc := h.chain
  cases os with
  | nil => exact hc.symm
  | cons s r => exact hc.1
theorem Inv.truncate (h : Inv p sz ps d l a os fo f k g) (hup : d.down = false) (hb : d.bud = -1) (hn : ps.length ≤ 200) (n : Nat) (h1 : n ≤ ps.length) (ha : a ≤ n) :
    (Wl.truncate d l n).2.2 = 0 ∧ (Wl.truncate d l n).1.down = false ∧ (Wl.truncate d l n).1.bud = -1 ∧ ∃ a' os' fo', Inv p sz ps (Wl.truncate d l n).1 (Wl.truncate d l n).2.1 a' os' fo' f k g ∧ a' ≤ n := by
  have hnx := h.next
  have hlen := h.len
  unfold Wl.truncate
  rw [if_neg (by omega), if_neg (by simp [hup])]
  obtain ⟨e1, e2, e3, a', os', fo', e4, e5⟩ := Inv.truncF l.segs.length h hup hb hn (n : Int).toNat
  exact ⟨e1, e2, e3, a', os', fo', e4, e5 (by simpa using ha)⟩
end

end Go.Proofs.YtcbnbhlgikjbeaaGreatDoor.Wl
