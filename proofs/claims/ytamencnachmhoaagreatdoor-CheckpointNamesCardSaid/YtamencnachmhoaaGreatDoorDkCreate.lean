/-
  Create.
-/
import Derived.Test.YtamencnachmhoaaGreatDoorDkName
import Derived.WalkSmall
namespace Go.Proofs.YtamencnachmhoaaGreatDoor
open Go.RowKit

theorem size_keys (xs : List Fe) : Maps.size (DataW.map (xs.map Fe.key)) = xs.length := by simp [Maps.size]
theorem dk_below_drewN {B : Nat} {a w : World} (h : Below B a w) (n : Nat) : Below B a (w.drewN n) := h.trans ⟨rfl, rfl, rfl, Nat.le_refl _, fun _ _ => rfl⟩

set_option maxRecDepth 100000 in
set_option maxHeartbeats 1000000 in
theorem dk_create1 {i : Nat} {c : Nat → Nat} {W : World} {g : Nat} {D : Dk.D} {m : Nat} {xs : List Fe} (h : DiskIs i c W g D m xs) (s : ByteArray) (hs : s.size ≤ 9223372036854775807) (nb db : Nat)
    (hn : W.cell? ⟨nb, 0, none⟩ = some (.string s)) (hd : W.cell? ⟨db, 0, none⟩ = some (.pointer (some ⟨g, 0, none⟩))) (hnb : nb < W.heap.size) (hdb : db < W.heap.size) (hxs : xs.length ≤ 1073741824) :
    Calls Tryz.prog 113 #[.pointer (some ⟨nb, 0, none⟩), .pointer (some ⟨db, 0, none⟩)] W fun e W' => e = .returned (.int .i64 (Dk.createCheck D s.data.toList)) ∧ Below W.heap.size W W' := by
  have hv := dk_validName s W hs
  have hfl : D.fs.length = xs.length := by rw [h.fs]; simp
  have HC : Hid (Dk.createCheck D s.data.toList = if Dk.valid s.data.toList = false then 6 else if (Dk.find s.data.toList D.fs).isSome then 7 else if 256 ≤ xs.length then 8 else 0) := by show _ = _; rw [← hfl]; rfl
  cases hval : Dk.valid s.data.toList with
  | false =>
    rw [hval] at hv
    have HF : Hid (Dk.createCheck D s.data.toList = 6) := by show _ = _; rw [HC.out, if_pos hval]
    clear h hval HC hfl
    go_enter Tryz.func113, Tryz.ntmps113
    go_wp2_with fail
    refine hv.mono ?_
    rintro e W1 ⟨rfl, hb⟩
    go_wp2_with fail
    go_ret
    rw [HF.out]
    exact ⟨rfl, hb⟩
  | true =>
    rw [hval] at hv
    have hgl := (h.col g (by simp)).2
    have hml := (h.col m (by simp)).2
    have cells := h.cells
    cases hf : Dk.find s.data.toList D.fs with
    | some f =>
      have HF : Hid (Dk.createCheck D s.data.toList = 7) := by show _ = _; rw [HC.out, if_neg (by rw [hval]; simp), if_pos (by rw [hf]; rfl)]
      obtain ⟨l1, x, l2, rfl, hnm, _⟩ := h.find_some hf
      have H := Lib.hid h
      clear h hval HC hfl hf
      go_enter Tryz.func113, Tryz.ntmps113
      go_wp2_with fail
      refine hv.mono ?_
      rintro e W1 ⟨rfl, hb⟩
      have hb' := Lib.hid hb
      have hn1 := (hb.cell (p := ⟨nb, 0, none⟩) hnb).trans hn
      have hd1 := (hb.cell (p := ⟨db, 0, none⟩) hdb).trans hd
      have c0 := (hb.cell (p := ⟨g, 0, none⟩) hgl).trans cells.1
      have hlq := fun n => DiskIs.look_some (H.out.chg (Chg.of_below (i := i + 1) hb 0) (by omega) (by omega)) s (by unfold maxLen; omega) hnm (W1.drewN n) rfl
      clear hb hv hn hd cells
      go_wp2_with fail
      go_quiet (fail)
      go_wp2_with fail
      go_ret
      rw [HF.out]
      exact ⟨rfl, dk_below_drewN hb'.out nq⟩
    | none =>
      have H := Lib.hid h
      have hmax : xs.length < maxLen := by unfold maxLen; omega
      clear h
      by_cases h256 : 256 ≤ xs.length
      · have HF : Hid (Dk.createCheck D s.data.toList = 8) := by show _ = _; rw [HC.out, if_neg (by rw [hval]; simp), if_neg (by rw [hf]; simp), if_pos h256]
        have h256b : decide ((xs.length : Int) ≥ 256) = true := by simp; omega
        clear hval HC hfl
        go_enter Tryz.func113, Tryz.ntmps113
        go_wp2_with fail
        refine hv.mono ?_
        rintro e W1 ⟨rfl, hb⟩
        have hb' := Lib.hid hb
        have hn1 := (hb.cell (p := ⟨nb, 0, none⟩) hnb).trans hn
        have hd1 := (hb.cell (p := ⟨db, 0, none⟩) hdb).trans hd
        have c0 := (hb.cell (p := ⟨g, 0, none⟩) hgl).trans cells.1
        have hH1 := H.out.chg (Chg.of_below (i := i + 1) hb 0) (by omega) (by omega)
        have hown := Lib.hid hH1.map
        have hlq := fun n => DiskIs.look_none hH1 s (by unfold maxLen; omega) hf (W1.drewN n) rfl
        clear hb hv hn hd cells hf hH1
        go_wp2_with fail
        go_quiet (fail)
        go_wp2_with (at_len; refine wpList_len_own _ rfl _ 98 rfl 9 120 Tryz.underlying98 ptrElem m xs.length (.map (xs.map Fe.key)) rfl (ownsMap_block hown.out rfl) ?_; rw [size_keys])
        go_ret
        rw [HF.out]
        exact ⟨rfl, dk_below_drewN hb'.out nq⟩
      · have HF : Hid (Dk.createCheck D s.data.toList = 0) := by show _ = _; rw [HC.out, if_neg (by rw [hval]; simp), if_neg (by rw [hf]; simp), if_neg h256]
        have h256b : decide ((xs.length : Int) ≥ 256) = false := by simp; omega
        clear hval HC hfl
        go_enter Tryz.func113, Tryz.ntmps113
        go_wp2_with fail
        refine hv.mono ?_
        rintro e W1 ⟨rfl, hb⟩
        have hb' := Lib.hid hb
        have hn1 := (hb.cell (p := ⟨nb, 0, none⟩) hnb).trans hn
        have hd1 := (hb.cell (p := ⟨db, 0, none⟩) hdb).trans hd
        have c0 := (hb.cell (p := ⟨g, 0, none⟩) hgl).trans cells.1
        have hH1 := H.out.chg (Chg.of_below (i := i + 1) hb 0) (by omega) (by omega)
        have hown := Lib.hid hH1.map
        have hlq := fun n => DiskIs.look_none hH1 s (by unfold maxLen; omega) hf (W1.drewN n) rfl
        clear hb hv hn hd cells hf hH1
        go_wp2_with fail
        go_quiet (fail)
        go_wp2_with (at_len; refine wpList_len_own _ rfl _ 98 rfl 9 120 Tryz.underlying98 ptrElem m xs.length (.map (xs.map Fe.key)) rfl (ownsMap_block hown.out rfl) ?_; rw [size_keys])
        go_ret
        rw [HF.out]
        exact ⟨rfl, dk_below_drewN hb'.out nq⟩

theorem key_put (x : Fe) (xs : List Fe) (hno : ∀ y ∈ xs, y.nm ≠ x.nm) : (DataW.map (xs.map Fe.key)).put (.string x.nm) (.held (some ⟨x.g, 0, none⟩)) = .map ((Dk.insBy Fe.nm x xs).map Fe.key) := by
  have hfil : (xs.map Fe.key).filter (fun p => !p.1.sameKey (.string x.nm)) = xs.map Fe.key := by
    rw [List.filter_eq_self]
    intro p hp
    obtain ⟨y, hy, rfl⟩ := List.mem_map.1 hp
    rw [Maps.sameKey_ne]
    · rfl
    · intro e
      exact hno y hy (by simpa [Fe.key] using e)
  have hins : ∀ l : List Fe, DataW.insert x.key (l.map Fe.key) = (Dk.insBy Fe.nm x l).map Fe.key := by
    intro l
    induction l with
    | nil => rfl
    | cons y l ih =>
      show (if bytesBefore x.nm y.nm then x.key :: y.key :: l.map Fe.key else y.key :: DataW.insert x.key (l.map Fe.key)) = (if bytesBefore x.nm y.nm then x :: y :: l else y :: Dk.insBy Fe.nm x l).map Fe.key
      split
      · rfl
      · rw [List.map_cons, ih]
  show DataW.map (DataW.insert (.string x.nm, .held (some ⟨x.g, 0, none⟩)) ((xs.map Fe.key).filter fun p => !p.1.sameKey (.string x.nm))) = _
  rw [hfil]
  exact congrArg DataW.map (hins xs)

/-- ONE FILE MORE, EMPTY, in a new row -/
theorem DiskIs.more {i : Nat} {c : Nat → Nat} {W W' : World} {g : Nat} {D : Dk.D} {m : Nat} {xs : List Fe} (h : DiskIs i c W g D m xs) (n : Dk.Bs) (hno : ∀ y ∈ xs, y.nm ≠ n) (fb : Nat)
    (hfb : W.heap.size ≤ fb) (hfb2 : fb < W'.heap.size) (hrow : W'.heap[fb]? = some (.cells #[.slice none 0 0, .slice none 0 0] 131 (0, 0)))
    (hown : W'.ownsMap Tryz.prog 9 ptrElem m (xs.length + 1) ((DataW.map (xs.map Fe.key)).put (.string n) (.held (some ⟨fb, 0, none⟩))))
    (hs : W.heap.size ≤ W'.heap.size) (hW : ∀ b, b < W.heap.size → b ≠ m → W'.heap[b]? = W.heap[b]?) (c' : Nat → Nat) (hc : ∀ b, b < W.heap.size → c' b = c b) (hcf : c' fb = i) :
    DiskIs i c' W' g { D with fs := Dk.ins n ⟨[], []⟩ D.fs } m (Dk.insBy Fe.nm ⟨n, fb, .slice none 0 0, .slice none 0 0, [], ⟨[], []⟩⟩ xs) := by
  have hperm := Dk.insBy_perm Fe.nm ⟨n, fb, .slice none 0 0, .slice none 0 0, [], ⟨[], []⟩⟩ xs
  have hlen : (Dk.insBy Fe.nm ⟨n, fb, .slice none 0 0, .slice none 0 0, [], ⟨[], []⟩⟩ xs).length = xs.length + 1 := by rw [hperm.length_eq]; rfl
  have hfl : ((Dk.insBy Fe.nm ⟨n, fb, .slice none 0 0, .slice none 0 0, [], ⟨[], []⟩⟩ xs).flatMap Fe.blks).Perm (fb :: xs.flatMap Fe.blks) := by
    have := hperm.flatMap_right Fe.blks
    simpa [Fe.blks, Value.ownBlock] using this
  have hlt : ∀ b, b ∈ g :: m :: xs.flatMap Fe.blks → b < W.heap.size := fun b hb => (h.col b hb).2
  have hndm : m ∉ xs.flatMap Fe.blks := (List.nodup_cons.1 (List.nodup_cons.1 h.nd).2).1
  have hgm : g ≠ m := fun e => (List.nodup_cons.1 h.nd).1 (by simp [e])
  have hread : ∀ b, b < W.heap.size → c b = 0 → W'.heap[b]? = W.heap[b]? ∧ c' b = 0 := fun b hb h0 =>
    ⟨hW b hb (fun e => by have := (h.col m (by simp)).1; exact h.ne (by rw [← this, ← e]; exact h0)), (hc b hb).trans h0⟩
  refine ⟨(hW g (hlt g (by simp)) hgm).trans h.row, ?_, ?_, ?_, ?_, ?_, h.ne⟩
  · rw [hlen, ← key_put ⟨n, fb, .slice none 0 0, .slice none 0 0, [], ⟨[], []⟩⟩ xs hno]
    exact hown
  · show Dk.ins n ⟨[], []⟩ D.fs = _
    rw [h.fs, Dk.insBy_map Fe.nm Prod.fst Fe.ent (fun _ => rfl)]
    rfl
  · intro x hx
    rcases List.mem_cons.1 (hperm.mem_iff.1 hx) with rfl | hx
    · exact ⟨hrow, ⟨.inl ⟨rfl, _, _, rfl⟩, fun hne => absurd rfl hne⟩, World.ownsRow_nil _ _ _ _, WrC.nil, by simp [Dk.Fl.contents, Dk.contents], by simp⟩
    · exact (h.file x hx).keep hs hread (fun b hb => hW b (hlt b (mem_blks hx hb g m)) (fun e => hndm (e ▸ List.mem_flatMap.2 ⟨x, hx, hb⟩)))
  · have hp : (g :: m :: (Dk.insBy Fe.nm ⟨n, fb, .slice none 0 0, .slice none 0 0, [], ⟨[], []⟩⟩ xs).flatMap Fe.blks).Perm (fb :: g :: m :: xs.flatMap Fe.blks) :=
      ((hfl.cons m).cons g).trans (((List.Perm.swap fb m _).cons g).trans (List.Perm.swap fb g _))
    rw [hp.nodup_iff, List.nodup_cons]
    exact ⟨fun hb => by have := hlt fb hb; omega, h.nd⟩
  · intro b hb
    have hp : b ∈ fb :: g :: m :: xs.flatMap Fe.blks := by
      simp only [List.mem_cons, hfl.mem_iff] at hb ⊢
      rcases hb with h1 | h1 | h1 | h1
      · exact .inr (.inl h1)
      · exact .inr (.inr (.inl h1))
      · exact .inl h1
      · exact .inr (.inr (.inr h1))
    rcases List.mem_cons.1 hp with rfl | hp
    · exact ⟨hcf, hfb2⟩
    · have h1 := h.col b hp
      exact ⟨(hc b h1.2).trans h1.1, by omega⟩

theorem ownsMap_ne {W : World} {m n b o : Nat} {D : DataW (Option Addr)} {v : Value} (h : W.ownsMap Tryz.prog 9 ptrElem m n D) (hc : W.cell? ⟨b, o, none⟩ = some v) : some b ≠ some m := by
  obtain ⟨es, clock, hm, _⟩ := h
  intro e
  cases e
  simp [World.cell?, hm] at hc

set_option maxRecDepth 100000 in
set_option maxHeartbeats 1000000 in
theorem dk_create2 {i : Nat} {c : Nat → Nat} {W : World} {g : Nat} {D : Dk.D} {m : Nat} {xs : List Fe} (h : DiskIs i c W g D m xs) (s : ByteArray) (hs : s.size ≤ 9223372036854775807) (nb db : Nat)
    (hn : W.cell? ⟨nb, 0, none⟩ = some (.string s)) (hd : W.cell? ⟨db, 0, none⟩ = some (.pointer (some ⟨g, 0, none⟩))) (hno : ∀ y ∈ xs, y.nm ≠ s.data.toList) (hxs : xs.length ≤ 1073741824) :
    Calls Tryz.prog 115 #[.pointer (some ⟨db, 0, none⟩), .pointer (some ⟨nb, 0, none⟩)] W fun e W' => ∃ c', e = .returned (.tuple #[]) ∧ DiskAt i c' W' g { D with fs := Dk.ins s.data.toList ⟨[], []⟩ D.fs } ∧ Chg i c c' W W' := by
  have hgl := (h.col g (by simp)).2
  have hml := (h.col m (by simp)).2
  have c0 := h.cells.1
  have hm := ownsMap_block (W' := (W.alloc (.cells #[.slice none 0 0, .slice none 0 0] 131)).drew) h.map (Below.heap_alloc _ _ _ hml)
  obtain ⟨w2, hrun, hown2, hturn⟩ := hm.store dk_law Tryz.underlying98 (by unfold maxLen; omega) (key := .string s) (val := .pointer (some ⟨W.heap.size, 0, none⟩)) (Go.WideMaps.keyOf_string_mk Tryz.underlying9 (by unfold maxLen; omega)) (d := .held (some ⟨W.heap.size, 0, none⟩)) (ps := []) rfl
  have k1 : w2.cell? ⟨nb, 0, none⟩ = some (.string s) := hturn.grown.cell (Lib.cell?_alloc_some _ hn) (ownsMap_ne h.map hn)
  have k2 : w2.cell? ⟨db, 0, none⟩ = some (.pointer (some ⟨g, 0, none⟩)) := hturn.grown.cell (Lib.cell?_alloc_some _ hd) (ownsMap_ne h.map hd)
  have k3 : w2.cell? ⟨g, 0, none⟩ = some (.map (some m)) := hturn.grown.cell (Lib.cell?_alloc_some _ c0) (ownsMap_ne h.map c0)
  have H := Lib.hid h
  have HO := Lib.hid hown2
  have HT := Lib.hid hturn
  have HN := Lib.hid hno
  clear h hm hown2 hturn hno
  go_enter Tryz.func115, Tryz.ntmps115
  go_wp2_with fail
  go_region_held3 (fun w' => w'.cell? ⟨nb, 0, none⟩ = some (.string s) ∧ w'.cell? ⟨db, 0, none⟩ = some (.pointer (some ⟨g, 0, none⟩)) ∧ w'.cell? ⟨g, 0, none⟩ = some (.map (some m))) (go_keep) (fail)
  go_end0
  have hg := HT.out.grown
  have hsz : W.heap.size + 1 ≤ w2.heap.size := by have := hg.size; simpa using this
  have hW : ∀ b, b < W.heap.size → b ≠ m → w2.heap[b]? = W.heap[b]? := fun b hb hne => (hg.block b (by simp; omega) (fun e => hne (by cases e; rfl))).trans (Below.heap_alloc _ _ _ hb)
  have hrow : w2.heap[W.heap.size]? = some (.cells #[.slice none 0 0, .slice none 0 0] 131 (0, 0)) := (hg.block W.heap.size (by simp) (fun e => by cases e; omega)).trans (heap_alloc_new W _)
  have hnew := H.out.more s.data.toList HN.out W.heap.size (Nat.le_refl _) (by omega) hrow HO.out (by omega) hW (pnt c W.heap.size i) (fun b hb => pnt_old hb) (pnt_new (Nat.le_refl _))
  refine ⟨pnt c W.heap.size i, rfl, ⟨_, _, hnew⟩, ⟨hg.os, hg.tape, hg.output, by omega, fun b hb hne => hW b hb (fun e => hne (by rw [e]; exact (H.out.col m (by simp)).1)), fun b hb => pnt_old hb⟩⟩

theorem dk_ent13 : ∀ args w, (callFunc 113 args).run Tryz.prog w = .ok (.enter 113 args) w := enters_of Tryz.func113 (by kernel_rfl) rfl
theorem dk_ent15 : ∀ args w, (callFunc 115 args).run Tryz.prog w = .ok (.enter 115 args) w := enters_of Tryz.func115 (by kernel_rfl) rfl

/-- the row with another budget, behind modify's own store -/
theorem DiskIs.spent {i : Nat} {c : Nat → Nat} {W : World} {g : Nat} {D : Dk.D} {m : Nat} {xs : List Fe} (h : DiskIs i c W g D m xs) (bud : Int) : DiskIs i c (W.setCell ⟨g, 1, none⟩ (.int .i64 bud)) g { D with bud := bud } m xs ∧ Chg i c c W (W.setCell ⟨g, 1, none⟩ (.int .i64 bud)) := by
  have hs : (W.setCell ⟨g, 1, none⟩ (.int .i64 bud)).heap.size = W.heap.size := by simp [World.setCell]
  have hW : ∀ b, b < W.heap.size → b ≠ g → (W.setCell ⟨g, 1, none⟩ (.int .i64 bud)).heap[b]? = W.heap[b]? := fun b _ hne => Below.heap_setCell W _ _ b hne
  have hrow := dk_setCell W g 1 _ _ (.int .i64 bud) h.row
  refine ⟨h.reset bud D.down (by omega) hW hrow, ⟨rfl, rfl, rfl, by omega, fun b hb hne => hW b hb (fun e => hne (by rw [e]; exact (h.col g (by simp)).1)), fun _ _ => rfl⟩⟩
theorem DiskIs.fell {i : Nat} {c : Nat → Nat} {W : World} {g : Nat} {D : Dk.D} {m : Nat} {xs : List Fe} (h : DiskIs i c W g D m xs) (dn : Bool) : DiskIs i c (W.setCell ⟨g, 2, none⟩ (.bool dn)) g { D with down := dn } m xs ∧ Chg i c c W (W.setCell ⟨g, 2, none⟩ (.bool dn)) := by
  have hs : (W.setCell ⟨g, 2, none⟩ (.bool dn)).heap.size = W.heap.size := by simp [World.setCell]
  have hW : ∀ b, b < W.heap.size → b ≠ g → (W.setCell ⟨g, 2, none⟩ (.bool dn)).heap[b]? = W.heap[b]? := fun b _ hne => Below.heap_setCell W _ _ b hne
  have hrow := dk_setCell W g 2 _ _ (.bool dn) h.row
  refine ⟨h.reset D.bud dn (by omega) hW hrow, ⟨rfl, rfl, rfl, by omega, fun b hb hne => hW b hb (fun e => hne (by rw [e]; exact (h.col g (by simp)).1)), fun _ _ => rfl⟩⟩

/-- what a modifying method leaves: an error number and a disk -/
def DkPost (i : Nat) (c : Nat → Nat) (W : World) (g : Nat) (r : Dk.D × Int) (e : Ending) (W' : World) : Prop :=
  ∃ c', e = .returned (.int .i64 r.2) ∧ DiskAt i c' W' g r.1 ∧ Chg i c c' W W'

/-- modify's three ways, out of what the do-closure makes of any disk with these files -/
theorem dk_modPost {i : Nat} {c c1 : Nat → Nat} {W W1 : World} {g : Nat} {D : Dk.D} {m : Nat} {xs : List Fe} (h : DiskIs i c1 W1 g D m xs) (hc : Chg i c c1 W W1) (r : Int) (k2 : FuncId) (cap2 : Array Value) (fs : List (Dk.Bs × Dk.Fl)) (res : Dk.D × Int)
    (hno : r ≠ 0 → res = (D, r)) (hyes : r = 0 → res = D.modify fs)
    (hdo : r = 0 → ∀ W2 bud, DiskIs i c1 W2 g { D with bud := bud } m xs → Chg i c1 c1 W1 W2 → (∀ b, b < W1.heap.size → b ≠ g → W2.heap[b]? = W1.heap[b]?) → W2.heap.size = W1.heap.size →
      Calls Tryz.prog k2 cap2 W2 fun e W3 => ∃ c', e = .returned (.tuple #[]) ∧ DiskAt i c' W3 g { D with fs := fs, bud := bud } ∧ Chg i c1 c' W2 W3) :
    ModPost W1 g D.bud r k2 cap2 (DkPost i c W g res) := by
  constructor
  · intro hr
    rw [hno hr]
    exact ⟨c1, rfl, ⟨m, xs, h⟩, hc⟩
  · intro hr h0
    rw [hyes hr]
    unfold Dk.D.modify
    rw [if_pos h0]
    exact ⟨c1, rfl, ⟨m, xs, (h.fell true).1⟩, hc.trans (h.fell true).2⟩
  · intro hr hb
    have hb0 : ¬ D.bud = 0 := by omega
    rw [hyes hr]
    unfold Dk.D.modify
    rw [if_neg hb0, if_pos hb]
    have hsp := h.spent (D.bud - 1)
    refine (hdo hr _ (D.bud - 1) hsp.1 hsp.2 (fun b _ hne => Below.heap_setCell W1 _ _ b hne) (by simp [World.setCell])).mono ?_
    rintro e W3 ⟨c', he, hd, hch⟩
    exact ⟨he, c', rfl, hd, (hc.trans hsp.2).trans hch⟩
  · intro hr hb
    have hb0 : ¬ D.bud = 0 := by omega
    rw [hyes hr]
    unfold Dk.D.modify
    rw [if_neg hb0, if_neg (by omega)]
    refine (hdo hr W1 D.bud h (Chg.refl _ _ _) (fun _ _ _ => rfl) rfl).mono ?_
    rintro e W3 ⟨c', he, hd, hch⟩
    exact ⟨he, c', rfl, hd, hc.trans hch⟩

set_option maxRecDepth 100000 in
set_option maxHeartbeats 2000000 in
theorem dk_create {i : Nat} {c : Nat → Nat} {W : World} {g : Nat} {D : Dk.D} (h : DiskAt i c W g D) (s : ByteArray) (hs : s.size ≤ 9223372036854775807) (hbud : D.bud ≤ 9223372036854775807) (hmany : D.fs.length ≤ 1073741824) :
    Calls Tryz.prog 60 #[.pointer (some ⟨g, 0, none⟩), .string s] W (DkPost i c W g (D.create s.data.toList)) := by
  obtain ⟨m, xs, h⟩ := h
  have hxs : xs.length ≤ 1073741824 := by rw [h.fs] at hmany; simpa using hmany
  have hgl := (h.col g (by simp)).2
  -- the world behind the two boxes
  obtain ⟨Wb, hWb⟩ : ∃ Wb, Wb = (W.alloc (.cells #[.pointer (some ⟨g, 0, none⟩)] 41)).alloc (.cells #[.string s] 9) := ⟨_, rfl⟩
  have hbel : Below W.heap.size W Wb := by rw [hWb]; exact ((Below.refl _ _).alloc (Nat.le_refl _) _).alloc (by simp) _
  have hch : Chg i c (pnt c W.heap.size 0) W Wb := Chg.of_below hbel 0
  have hI : DiskIs i (pnt c W.heap.size 0) Wb g D m xs := h.chg (Chg.of_below (i := i + 1) hbel 0) (by omega) (by omega)
  have hsz : Wb.heap.size = W.heap.size + 2 := by rw [hWb]; simp
  have hd : Wb.cell? ⟨W.heap.size, 0, none⟩ = some (.pointer (some ⟨g, 0, none⟩)) := by rw [hWb]; simp
  have hn : Wb.cell? ⟨W.heap.size + 1, 0, none⟩ = some (.string s) := by rw [hWb]; simp
  have main : Calls Tryz.prog 112 #[.pointer (some ⟨g, 0, none⟩), .func (.func 113) #[] #[.pointer (some ⟨W.heap.size + 1, 0, none⟩), .pointer (some ⟨W.heap.size, 0, none⟩)], .func (.func 115) #[] #[.pointer (some ⟨W.heap.size, 0, none⟩), .pointer (some ⟨W.heap.size + 1, 0, none⟩)]] Wb (DkPost i c W g (D.create s.data.toList)) := by
    refine dk_modify Wb g D.bud D.down (.map (some m)) hI.row hbud _ _ _ _ dk_ent13 dk_ent15 _ (fun hdn => ?_) (fun hdn => ?_)
    · unfold Dk.D.create
      rw [if_pos hdn]
      exact ⟨_, rfl, ⟨m, xs, hI⟩, hch⟩
    · refine (dk_create1 hI s hs _ _ hn hd (by omega) (by omega) hxs).mono ?_
      rintro e W1 ⟨rfl, hb1⟩
      have hI1 := hI.chg (Chg.of_below (i := i + 1) hb1 0) (by omega) (by omega)
      have hch1 := hch.trans (Chg.of_below (i := i) hb1 0)
      refine ⟨_, rfl, hb1.block g (by omega), dk_modPost hI1 hch1 _ _ _ (Dk.ins s.data.toList ⟨[], []⟩ D.fs) _ (fun hr => ?_) (fun hr => ?_) (fun hr W2 bud h2 hch2 hk2 hs2 => ?_)⟩
      · unfold Dk.D.create
        rw [if_neg (by simp [hdn]), if_pos hr]
      · unfold Dk.D.create
        rw [if_neg (by simp [hdn]), if_neg (by simp [hr])]
      · have hno : ∀ y ∈ xs, y.nm ≠ s.data.toList := by
          have hf : Dk.find s.data.toList D.fs = none := by
            cases hf : Dk.find s.data.toList D.fs with
            | none => rfl
            | some f =>
              unfold Dk.createCheck at hr
              rw [hf] at hr
              split at hr <;> simp at hr
          exact h.find_none hf
        have keep : ∀ b, W.heap.size ≤ b → b < Wb.heap.size → ∀ v, Wb.cell? ⟨b, 0, none⟩ = some v → W2.cell? ⟨b, 0, none⟩ = some v := by
          intro b hb1' hb2' v hv
          have e1 := hb1.cell (p := ⟨b, 0, none⟩) hb2'
          have e2 := World.cell?_of_block (w := W1) (w' := W2) (a := ⟨b, 0, none⟩) (hk2 b (Nat.lt_of_lt_of_le hb2' hb1.size) (by omega))
          exact e2.trans (e1.trans hv)
        exact dk_create2 h2 s hs _ _ (keep _ (by omega) (by omega) _ hn) (keep _ (by omega) (by omega) _ hd) hno hxs
  rw [hWb] at main
  have HM := Lib.hid main
  clear main h hI hch hbel hd hn hsz hWb
  go_enter Tryz.func60, Tryz.ntmps60
  go_wp2_with fail
  refine HM.out.mono ?_
  intro e W' hp
  have HP := Lib.hid hp
  obtain ⟨c', rfl, _⟩ := hp
  go_wp2_with fail
  go_ret
  exact HP.out

end Go.Proofs.YtamencnachmhoaaGreatDoor
