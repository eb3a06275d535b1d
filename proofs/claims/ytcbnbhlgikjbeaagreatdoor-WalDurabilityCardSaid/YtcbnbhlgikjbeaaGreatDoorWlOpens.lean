/-
  A LOG OPENED, PLAIN: what the scan of the files finds; a log that is opened again; a log that is opened behind a crash.
  A LOG AND A CRASH, PLAIN: what was synced survives whatever choice; with an even choice a head of what was appended survives.
  THE EXAMPLE OF THE DOCUMENT ON THE LOG, PLAIN: five entries of twenty bytes in segments of 64 bytes.
-/
import Derived.Test.YtcbnbhlgikjbeaaGreatDoorWlRuns

namespace Go.Proofs.YtcbnbhlgikjbeaaGreatDoor.Wl
open Go

/-- the state of the scan -/
structure Sc where
  next : Nat
  on : Bool
  broken : List Bs
  cut : Option (Bs × Nat)
  segs : List (Nat × Nat)
  ents : List (Nat × Bs)
def Sc.empty : Sc := ⟨0, false, [], none, [], []⟩
def Sc.begin (st : Sc) (n : Nat) : Sc := if st.on then st else { st with next := n, on := true }
/-- a file that carries the next number -/
def Sc.take (st : Sc) (nm : Bs) (n : Nat) (c : Bs) : Sc :=
  ⟨st.next + (intact c n).1.length, st.on, st.broken, if (intact c n).2 < c.length then some (nm, (intact c n).2) else st.cut, st.segs ++ [(n, (intact c n).1.length)], st.ents ++ (intact c n).1⟩
def Sc.file (st : Sc) (nm : Bs) (n : Nat) (c : Bs) : Sc :=
  if (st.begin n).cut ≠ none ∨ (st.begin n).broken ≠ [] ∨ n ≠ (st.begin n).next then { st.begin n with broken := (st.begin n).broken ++ [nm] } else (st.begin n).take nm n c
def Sc.step (p : Bs) (st : Sc) (x : Bs × Dk.Fl) : Sc := match firstOf p x.1 with
  | none => st
  | some n => st.file x.1 n x.2.contents
def scan (p : Bs) (st : Sc) (fs : List (Bs × Dk.Fl)) : Sc := fs.foldl (Sc.step p) st
/-- what Open leaves of a disk that is up and without a budget -/
def openD (d : Dk.D) (p : Bs) (sz : Nat) : Dk.D × L × List (Nat × Bs) :=
  let st := scan p .empty d.fs
  let d1 := st.broken.reverse.foldl (fun d n => (d.remove n).1) d
  let d2 := match st.cut with
    | none => d1
    | some (n, k) => (d1.truncate n k).1
  let d3 := st.segs.foldl (fun d s => (settle d p s.1).1) d2
  if st.segs = [] then ((d3.create (name p 0)).1, ⟨p, sz, [(0, 0)], st.next, st.next⟩, st.ents) else (d3, ⟨p, sz, st.segs, st.next, st.next⟩, st.ents)

/-- a file that is intact and carries the next number -/
theorem Sc.file_ok {st : Sc} {n : Nat} (h1 : st.broken = []) (h2 : st.cut = none) (h3 : st.on = true → st.next = n) (nm c : Bs) :
    st.file nm n c = ⟨n + (intact c n).1.length, true, [], if (intact c n).2 < c.length then .some (nm, (intact c n).2) else none, st.segs ++ [(n, (intact c n).1.length)], st.ents ++ (intact c n).1⟩ := by
  have hb : st.begin n = ⟨n, true, [], none, st.segs, st.ents⟩ := by
    unfold Sc.begin
    cases hs : st.on with
    | true => rw [if_pos rfl]; have := h3 hs; cases st; simp_all
    | false => rw [if_neg (by simp)]; cases st; simp_all
  unfold Sc.file
  rw [hb]
  simp only []
  rw [if_neg (by simp)]
  rfl

variable {p : Bs} {sz : Nat} {ps : List Bs}
theorem scan_olds {f : Nat} (hps : ∀ q ∈ ps, q.length ≤ 200) (hf : f ≤ ps.length) (hn : ps.length < 10000000000) :
    ∀ {os : List (Nat × Nat)} {fo : List (Bs × Dk.Fl)} {a : Nat} {st : Sc}, Olds p ps os fo → Chain a os f → (∀ s ∈ os, 0 < s.2) → st.broken = [] → st.cut = none → (st.on = true → st.next = a) →
      (scan p st fo).broken = [] ∧ (scan p st fo).cut = none ∧ ((scan p st fo).on = true → (scan p st fo).next = f) ∧ (scan p st fo).segs = st.segs ++ os ∧ (scan p st fo).ents = st.ents ++ ents a ((ps.drop a).take (f - a))
  | _, _, a, st, .nil, hc, _, h1, h2, h3 => by
    have : a = f := hc
    subst this
    exact ⟨h1, h2, h3, by simp [scan], by simp [scan, ents]⟩
  | s :: os, x :: fo, a, st, .cons ho hol, hc, hp, h1, h2, h3 => by
    have hsl := hc.ends s (by simp)
    have hle := Chain.le hc.2
    have hs1 : s.1 = a := hc.1
    have hx1 : firstOf p x.1 = some s.1 := by rw [ho.1]; exact firstOf_name (by omega)
    have hcont : x.2.contents = packs s.1 ((ps.drop s.1).take s.2) := by unfold Dk.Fl.contents; rw [ho.2.1]; exact ho.2.2
    have hlen : ((ps.drop s.1).take s.2).length = s.2 := by rw [List.length_take, List.length_drop]; omega
    have hint : intact x.2.contents s.1 = (ents s.1 ((ps.drop s.1).take s.2), x.2.contents.length) := by
      have := intact_packs ((ps.drop s.1).take s.2) s.1 [] (fun q hq => by have := hps q (List.mem_of_mem_drop (List.mem_of_mem_take hq)); omega) (by omega)
      rw [List.append_nil, ← hcont] at this
      rw [this]; simp [intact_nil]
    have hstep : Sc.step p st x = ⟨a + s.2, true, [], none, st.segs ++ [s], st.ents ++ ents a ((ps.drop a).take s.2)⟩ := by
      unfold Sc.step
      rw [hx1]
      simp only []
      rw [Sc.file_ok h1 h2 (by rw [hs1]; exact h3), hint]
      simp only [ents_length, hlen, Nat.lt_irrefl, if_false]
      have hse : [(a, s.2)] = [s] := by rw [← hs1]
      rw [hs1, hse]
    have ih := scan_olds hps hf hn (st := Sc.step p st x) hol hc.2 (fun y hy => hp y (List.mem_cons_of_mem _ hy)) (by rw [hstep]) (by rw [hstep]) (by rw [hstep]; exact fun _ => rfl)
    have e : scan p st (x :: fo) = scan p (Sc.step p st x) fo := rfl
    rw [e]
    refine ⟨ih.1, ih.2.1, ih.2.2.1, ?_, ?_⟩
    · rw [ih.2.2.2.1, hstep]; simp
    · rw [ih.2.2.2.2, hstep]
      simp only [List.append_assoc]
      congr 1
      have : (ps.drop a).take (f - a) = (ps.drop a).take s.2 ++ (ps.drop (a + s.2)).take (f - (a + s.2)) := by
        rw [show f - a = s.2 + (f - (a + s.2)) from by omega, List.take_add, List.drop_drop]
      rw [this, ents_append, ← hs1, hlen]

/-- the scan of a log's files -/
theorem scan_all {f : Nat} {os : List (Nat × Nat)} {fo : List (Bs × Dk.Fl)} {a : Nat} (hps : ∀ q ∈ ps, q.length ≤ 200) (hf : f ≤ ps.length) (hn : ps.length < 10000000000) (ho : Olds p ps os fo) (hc : Chain a os f) (hp : ∀ s ∈ os, 0 < s.2) (g : Dk.Fl) :
    scan p .empty (fo ++ [(name p f, g)]) = ⟨f + (intact g.contents f).1.length, true, [], if (intact g.contents f).2 < g.contents.length then some (name p f, (intact g.contents f).2) else none,
      os ++ [(f, (intact g.contents f).1.length)], ents a ((ps.drop a).take (f - a)) ++ (intact g.contents f).1⟩ := by
  obtain ⟨h1, h2, h3, h4, h5⟩ := scan_olds (st := .empty) hps hf hn ho hc hp rfl rfl (fun h => by cases h)
  have e : scan p .empty (fo ++ [(name p f, g)]) = Sc.step p (scan p .empty fo) (name p f, g) := by unfold scan; rw [List.foldl_append]; rfl
  rw [e]
  unfold Sc.step
  rw [firstOf_name (by omega)]
  simp only []
  rw [Sc.file_ok h1 h2 h3, h4, h5]
  rfl

/-- files without pending writes are not synced -/
theorem settle_old {d : Dk.D} {s : Nat} {x : Dk.Fl} (h : Dk.find (name p s) d.fs = some x) (hx : x.pend = []) : settle d p s = (d, 0) := by
  unfold settle
  have : d.pending (name p s) = 0 := by
    unfold Dk.D.pending
    split
    · rfl
    · rw [h]; simp [hx]
  rw [if_pos this]
theorem find_old {a f : Nat} {g : Dk.Fl} (hn : f < 10000000000) : ∀ {os : List (Nat × Nat)} {fo : List (Bs × Dk.Fl)}, Olds p ps os fo → Chain a os f → (∀ s ∈ os, 0 < s.2) → ∀ s ∈ os, ∃ x : Dk.Fl, Dk.find (name p s.1) (fo ++ [(name p f, g)]) = some x ∧ x.pend = [] := by
  intro os fo h
  induction h generalizing a with
  | nil => intro _ _ s hs; cases hs
  | cons ho hol ih =>
    rename_i s x os fo
    intro hc hp t ht
    rcases List.mem_cons.1 ht with rfl | ht
    · exact ⟨x.2, by unfold Dk.find; simp [ho.1], ho.2.1⟩
    · obtain ⟨y, hy, hy2⟩ := ih hc.2 (fun z hz => hp z (List.mem_cons_of_mem _ hz)) t ht
      refine ⟨y, ?_, hy2⟩
      have h1 := hc.2.lt (fun z hz => hp z (List.mem_cons_of_mem _ hz)) t ht
      have h2 := hp s (by simp)
      have h3 := hc.1
      have hne : (x.1 == name p t.1) = false := by
        rw [ho.1]
        cases hb : (name p s.1 == name p t.1) with
        | false => rfl
        | true => have := name_inj (by simpa using hb); omega
      unfold Dk.find at hy ⊢
      rw [List.cons_append, List.find?_cons, hne]
      exact hy
theorem settle_olds {d : Dk.D} {a f : Nat} {g : Dk.Fl} {os : List (Nat × Nat)} {fo : List (Bs × Dk.Fl)} (hn : f < 10000000000) (ho : Olds p ps os fo) (hc : Chain a os f) (hp : ∀ s ∈ os, 0 < s.2) (hd : d.fs = fo ++ [(name p f, g)]) :
    os.foldl (fun d s => (settle d p s.1).1) d = d := by
  have hall := find_old (g := g) hn ho hc hp
  rw [← hd] at hall
  clear ho hc hp hd
  induction os with
  | nil => rfl
  | cons s r ih =>
    obtain ⟨x, h1, h2⟩ := hall s (by simp)
    rw [List.foldl_cons, settle_old h1 h2]
    exact ih (fun t ht => hall t (List.mem_cons_of_mem _ ht))

/-- a log opened again without a crash -/
theorem Inv.reopen {d : Dk.D} {l : L} {a : Nat} {os : List (Nat × Nat)} {fo : List (Bs × Dk.Fl)} {f k : Nat} {g : Dk.Fl} (h : Inv p sz ps d l a os fo f k g) (hup : d.down = false) (hb : d.bud = -1) (hps : ∀ q ∈ ps, q.length ≤ 200) (hn : ps.length ≤ 200) :
    (openD d p sz).2 = (⟨p, sz, os ++ [(f, k)], f + k, f + k⟩, ents a (ps.drop a)) ∧ (scan p .empty d.fs).broken = [] := by
  have hlen := h.len
  have hle := h.chain.le
  have hint : intact g.contents f = (ents f (ps.drop f), g.contents.length) := by
    have := intact_packs (ps.drop f) f [] (fun q hq => by have := hps q (List.mem_of_mem_drop hq); omega) (by rw [List.length_drop]; omega)
    rw [List.append_nil, ← h.cont] at this
    rw [this]; simp [intact_nil]
  have hk : (ps.drop f).length = k := by rw [List.length_drop]; omega
  have hscan : scan p .empty d.fs = ⟨f + k, true, [], none, os ++ [(f, k)], ents a (ps.drop a)⟩ := by
    rw [h.fs, scan_all hps (by omega) (by omega) h.old h.chain h.pos g, hint]
    simp only [ents_length, hk, Nat.lt_irrefl, if_false]
    congr 1
    have : ps.drop a = (ps.drop a).take (f - a) ++ ps.drop f := by
      conv => lhs; rw [← List.take_append_drop (f - a) (ps.drop a), List.drop_drop, show a + (f - a) = f from by omega]
    conv => rhs; rw [this]
    rw [ents_append, List.length_take, List.length_drop, Nat.min_eq_left (by omega), show a + (f - a) = f from by omega]
  refine ⟨?_, by rw [hscan]⟩
  unfold openD
  rw [hscan]
  simp only []
  rw [if_neg (by simp)]

/-- what a crash leaves of a file that was only appended to -/
theorem Inv.crash {d d' : Dk.D} {l : L} {a : Nat} {os : List (Nat × Nat)} {fo : List (Bs × Dk.Fl)} {f k : Nat} {g g' : Dk.Fl} (h : Inv p sz ps d l a os fo f k g) (hps : ∀ q ∈ ps, q.length ≤ 200) (hn : ps.length ≤ 200)
    (hd : d'.fs = fo ++ [(name p f, g')]) (hg : g.dur <+: g'.contents) (hp : g'.pend = []) (hup : d'.down = false) (hb : d'.bud = -1) :
    ∃ e, (openD d' p sz).2 = (⟨p, sz, os ++ [(f, e.length)], f + e.length, f + e.length⟩, ents a ((ps.drop a).take (f - a)) ++ e) ∧ (scan p .empty d'.fs).broken = [] ∧
      (∃ m, e = ents f ((ps.drop f).take (l.synced - f)) ++ m) ∧ (g'.contents <+: g.contents → ∃ j, e = ents f ((ps.drop f).take j)) := by
  have hlen := h.len
  have hle := h.chain.le
  have hscan := scan_all hps (by omega) (by omega) h.old h.chain h.pos g'
  rw [← hd] at hscan
  refine ⟨(intact g'.contents f).1, ?_, by rw [hscan], ?_, ?_⟩
  · unfold openD
    rw [hscan]
    simp only []
    rw [if_neg (by simp)]
  · obtain ⟨t, ht⟩ := hg
    rw [h.dur] at ht
    rw [← ht]
    exact intact_more _ f t (fun q hq => by have := hps q (List.mem_of_mem_drop (List.mem_of_mem_take hq)); omega) (by rw [List.length_take, List.length_drop]; omega)
  · rintro ⟨t, ht⟩
    rw [h.cont] at ht
    obtain ⟨j, _, h1, _⟩ := intact_head (ps.drop f) f g'.contents t (fun q hq => by have := hps q (List.mem_of_mem_drop hq); omega) (by rw [List.length_drop]; omega) ht
    exact ⟨j, h1⟩

end Go.Proofs.YtcbnbhlgikjbeaaGreatDoor.Wl

namespace Go.Proofs.YtcbnbhlgikjbeaaGreatDoor.Wl
open Go

theorem over_keep {d c : Bs} {off : Nat} (b : Bs) (h : d <+: c) (ho : d.length ≤ off) : d <+: Dk.over c off b := by
  obtain ⟨t, rfl⟩ := h
  unfold Dk.over
  rw [List.append_assoc d t, List.append_assoc, List.take_append, List.take_of_length_le ho, List.append_assoc]
  exact List.prefix_append _ _
theorem contents_keep {d : Bs} : ∀ {l : List Dk.Wr} {c : Bs}, d <+: c → (∀ w ∈ l, d.length ≤ w.off) → d <+: Dk.contents c l
  | [], _, h, _ => h
  | w :: l, c, h, hl => by
    rw [Dk.contents_cons]
    exact contents_keep (over_keep w.b h (hl w (by simp))) (fun x hx => hl x (List.mem_cons_of_mem _ hx))
theorem pieces_off : ∀ (k a : Nat) (b : Bs), ∀ w ∈ Dk.piecesF k a b, a ≤ w.off
  | 0, _, _, w, hw => by cases hw
  | k + 1, a, b, w, hw => by
    by_cases hb : b = []
    · subst hb; rw [Dk.piecesF_nil] at hw; cases hw
    · rw [Dk.piecesF_step k a b hb] at hw
      rcases List.mem_cons.1 hw with rfl | hw
      · exact Nat.le_refl _
      · have := pieces_off k _ _ w hw; omega
theorem odd_off {n : Nat} : ∀ (l : List Dk.Wr) (ch : Bs), (∀ w ∈ l, n ≤ w.off) → ∀ w ∈ (Dk.oddS l ch).1, n ≤ w.off
  | [], _, _, w, hw => by cases hw
  | x :: l, ch, h, w, hw => by
    simp only [Dk.oddS, List.mem_append] at hw
    rcases hw with hw | hw
    · exact Nat.le_trans (h x (by simp)) (pieces_off _ _ _ w (Dk.keepBits_mem _ _ _ w hw))
    · exact odd_off l ch.tail (fun y hy => h y (List.mem_cons_of_mem _ hy)) w hw
theorem app_off {d : Bs} {l : List Dk.Wr} (h : Dk.AppD d l) : ∀ w ∈ l, d.length ≤ w.off := by
  intro w hw
  obtain ⟨n, hn, rfl⟩ := List.mem_iff_getElem.1 hw
  rw [h n _ (List.getElem?_eq_getElem hn)]
  exact (h.dur n (by omega)).length_le
/-- what is durable survives -/
theorem app_dur {d : Bs} {l : List Dk.Wr} (h : Dk.AppD d l) (ch : Bs) : d <+: Dk.contents d (Dk.surv l ch).1 := by
  by_cases he : Dk.hd ch % 2 = 0
  · exact (h.even ch he).1
  · unfold Dk.surv
    rw [if_neg he]
    exact contents_keep (List.prefix_refl _) (odd_off l ch.tail (app_off h))

theorem restart_olds {p : Bs} {ps : List Bs} {os : List (Nat × Nat)} {fo : List (Bs × Dk.Fl)} (h : Olds p ps os fo) (r : List (Bs × Dk.Fl)) (ch : Bs) : (Dk.restartFs (fo ++ r) ch).1 = fo ++ (Dk.restartFs r ch).1 := by
  induction h with
  | nil => rfl
  | @cons s x os fo ho _ ih =>
    obtain ⟨n, f⟩ := x
    rw [List.cons_append, Dk.restartFs, if_pos ho.2.1, ih]
    rfl

variable {p : Bs} {sz : Nat} {ps : List Bs} {d : Dk.D} {l : L} {a : Nat} {os : List (Nat × Nat)} {fo : List (Bs × Dk.Fl)} {f k : Nat} {g : Dk.Fl}
/-- the disk behind a restart -/
theorem Inv.restart (h : Inv p sz ps d l a os fo f k g) (ch : Bs) : ∃ g' : Dk.Fl, (Dk.restartFs d.fs ch).1 = fo ++ [(name p f, g')] ∧ g'.pend = [] ∧ g.dur <+: g'.contents ∧ (Dk.hd ch % 2 = 0 → g'.contents <+: g.contents) := by
  rw [h.fs, restart_olds h.old]
  by_cases hp : g.pend = []
  · refine ⟨g, by rw [Dk.restartFs, if_pos hp]; rfl, hp, ?_, fun _ => List.prefix_refl _⟩
    unfold Dk.Fl.contents
    rw [hp]
    exact List.prefix_refl _
  · refine ⟨⟨Dk.contents g.dur (Dk.surv g.pend ch).1, []⟩, by rw [Dk.restartFs, if_neg hp]; rfl, rfl, app_dur h.app ch, fun he => ?_⟩
    exact (h.app.even ch he).2

/-- a log opened behind a crash: at least what was synced is found, and what was synced is as it was; with an even choice all that is found is as it was -/
theorem Inv.durable (h : Inv p sz ps d l 0 os fo f k g) (hps : ∀ q ∈ ps, q.length ≤ 200) (hn : ps.length ≤ 200) (ch : Bs) :
    ∃ segs all, (openD ⟨(Dk.restartFs d.fs ch).1, -1, false⟩ p sz).2 = (⟨p, sz, segs, all.length, all.length⟩, all) ∧ (scan p .empty (Dk.restartFs d.fs ch).1).broken = [] ∧ l.synced ≤ all.length ∧
      (∃ m, all = ents 0 (ps.take l.synced) ++ m) ∧ (Dk.hd ch % 2 = 0 → ∃ j, all = ents 0 (ps.take j)) := by
  obtain ⟨g', h1, h2, h3, h4⟩ := h.restart ch
  obtain ⟨e, e1, e2, ⟨m, e3⟩, e4⟩ := Inv.crash (d' := ⟨(Dk.restartFs d.fs ch).1, -1, false⟩) h hps hn h1 h3 h2 rfl rfl
  have hlen := h.len
  have hsy := h.syn
  have hfl : (ps.take f).length = f := by rw [List.length_take]; omega
  have hal : (ents 0 ((ps.drop 0).take (f - 0)) ++ e).length = f + e.length := by rw [List.length_append, ents_length, List.drop_zero, Nat.sub_zero, hfl]
  refine ⟨_, _, by rw [e1, hal], e2, ?_, ?_, ?_⟩
  · rw [hal, e3, List.length_append, ents_length, List.length_take, List.length_drop]
    omega
  · refine ⟨m, ?_⟩
    rw [e3, List.drop_zero, Nat.sub_zero, ← List.append_assoc]
    congr 1
    have : ps.take l.synced = ps.take f ++ (ps.drop f).take (l.synced - f) := by
      rw [show l.synced = f + (l.synced - f) from by omega, List.take_add]
      rw [show f + (l.synced - f) - f = l.synced - f from by omega]
    rw [this, ents_append, hfl, Nat.zero_add]
  · intro he
    obtain ⟨j, hj⟩ := e4 (h4 he)
    refine ⟨f + j, ?_⟩
    rw [hj, List.drop_zero, Nat.sub_zero, List.take_add, ents_append, hfl, Nat.zero_add]
/-- the entry with a number -/
theorem ents_get : ∀ (s : Nat) (ps : List Bs) (i : Nat), (ents s ps)[i]? = (ps[i]?).map (fun q => (s + i, q))
  | _, [], _ => by simp [ents]
  | s, q :: ps, 0 => by simp [ents]
  | s, q :: ps, i + 1 => by
    rw [ents, List.getElem?_cons_succ, List.getElem?_cons_succ, ents_get (s + 1) ps i, show s + 1 + i = s + (i + 1) from by omega]

end Go.Proofs.YtcbnbhlgikjbeaaGreatDoor.Wl

namespace Go.Proofs.YtcbnbhlgikjbeaaGreatDoor.Wl
open Go

theorem packs_const (m : Nat) : ∀ (s : Nat) (ps : List Bs), (∀ q ∈ ps, q.length = m) → (packs s ps).length = ps.length * (16 + m)
  | _, [], _ => by simp [packs]
  | s, q :: ps, h => by
    rw [packs, List.length_append, pack_length, packs_const m (s + 1) ps (fun x hx => h x (List.mem_cons_of_mem _ hx)), h q (by simp), List.length_cons, Nat.succ_mul]
    omega
/-- the older segments, the first number and the count of the last one, and what is synced, behind i entries -/
def kn : Nat → List (Nat × Nat) × Nat × Nat × Nat
  | 0 => ([], 0, 0, 0)
  | 1 => ([], 0, 1, 0)
  | 2 => ([], 0, 2, 0)
  | 3 => ([(0, 2)], 2, 1, 2)
  | 4 => ([(0, 2)], 2, 2, 2)
  | _ => ([(0, 2), (2, 2)], 4, 1, 4)
theorem known_step {p z : Bs} (hz : z.length = 20) {d : Dk.D} {l : L} {fo : List (Bs × Dk.Fl)} {g : Dk.Fl} (i : Nat) (hi : i < 5)
    (h : Inv p 64 (List.replicate i z) d l 0 (kn i).1 fo (kn i).2.1 (kn i).2.2.1 g) (hs : l.synced = (kn i).2.2.2) (hup : d.down = false) (hb : d.bud = -1) :
    (Wl.append d l z).2.2 = (i, 0) ∧ (Wl.append d l z).1.down = false ∧ (Wl.append d l z).1.bud = -1 ∧
      (∃ fo' g', Inv p 64 (List.replicate (i + 1) z) (Wl.append d l z).1 (Wl.append d l z).2.1 0 (kn (i + 1)).1 fo' (kn (i + 1)).2.1 (kn (i + 1)).2.2.1 g') ∧ (Wl.append d l z).2.1.synced = (kn (i + 1)).2.2.2 := by
  have hlen := h.len
  have hnext := h.next
  rw [List.length_replicate] at hlen
  have hpl : (packs (kn i).2.1 ((List.replicate i z).drop (kn i).2.1)).length = (kn i).2.2.1 * 36 := by
    rw [packs_const 20 _ _ (fun q hq => by rw [List.eq_of_mem_replicate (List.mem_of_mem_drop hq)]; exact hz), List.length_drop, List.length_replicate]
    have : i - (kn i).2.1 = (kn i).2.2.1 := by omega
    rw [this]
  rcases h.append hup z (by omega) (fun q hq => by rw [List.eq_of_mem_replicate hq]; omega) (by rw [List.length_replicate]; omega) with ⟨r1, r2, r3, r4⟩ | ⟨r1, _⟩
  · refine ⟨by rw [r1, hnext, ← hlen], r2, r3 hb, ?_⟩
    rw [hpl, ← List.replicate_succ'] at r4
    rw [hs] at r4
    clear h hs hup hb r1 r2 r3 hlen hnext hpl
    match i, hi with
    | 0, _ => rcases r4 with ⟨h, _⟩ | ⟨_, ⟨g', h1⟩, h2⟩; exact absurd h (by decide); exact ⟨⟨_, g', h1⟩, h2⟩
    | 1, _ => rcases r4 with ⟨h, _⟩ | ⟨_, ⟨g', h1⟩, h2⟩; exact absurd h (by decide); exact ⟨⟨_, g', h1⟩, h2⟩
    | 2, _ => rcases r4 with ⟨_, ⟨fo', g', h1⟩, h2⟩ | ⟨h, _⟩; exact ⟨⟨fo', g', h1⟩, h2⟩; exact absurd (by decide) h
    | 3, _ => rcases r4 with ⟨h, _⟩ | ⟨_, ⟨g', h1⟩, h2⟩; exact absurd h (by decide); exact ⟨⟨_, g', h1⟩, h2⟩
    | 4, _ => rcases r4 with ⟨_, ⟨fo', g', h1⟩, h2⟩ | ⟨h, _⟩; exact ⟨⟨fo', g', h1⟩, h2⟩; exact absurd (by decide) h
  · exact absurd hb r1

end Go.Proofs.YtcbnbhlgikjbeaaGreatDoor.Wl
