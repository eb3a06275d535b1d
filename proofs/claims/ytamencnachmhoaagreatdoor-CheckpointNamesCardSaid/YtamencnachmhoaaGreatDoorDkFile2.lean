/-
  A FILE OF THE DISK, MORE: size, sync, slices.Clone of writes.
-/
import Derived.Test.YtamencnachmhoaaGreatDoorDkFile
namespace Go.Proofs.YtamencnachmhoaaGreatDoor
open Go.RowKit

theorem dk_setCell (w : World) (g i : Nat) (cur : Array Value) (t : TypeId) (v : Value) (hg : w.heap[g]? = some (.cells cur t (0, 0))) : (w.setCell ⟨g, i, none⟩ v).heap[g]? = some (.cells (cur.setIfInBounds i v) t (0, 0)) := by
  rw [setCell_eq_setRow w g i cur t (0, 0) v hg]
  exact setRow_heap w g cur _ t _ hg
theorem dk_frozen (w : World) (g i : Nat) (cur : Array Value) (t : TypeId) (hg : w.heap[g]? = some (.cells cur t (0, 0))) : w.frozen? ⟨g, i, none⟩ = false := by
  simp [World.frozen?, hg]
theorem dk_grown_setCell (w w' : World) (g i : Nat) (v : Value) (h : w.grownBy w' (some g)) : w.grownBy (w'.setCell ⟨g, i, none⟩ v) (some g) :=
  ⟨h.os, h.tape, h.output, by have := h.size; simpa [World.setCell] using this, fun k hk hne => (Below.heap_setCell w' _ v k (fun e => hne (by rw [e]))).trans (h.block k hk hne)⟩
theorem dk_grown_of_below {W W' : World} (row : Option Nat) (hb : Below W.heap.size W W') : W.grownBy W' row :=
  ⟨hb.os, hb.tape, hb.output, hb.size, fun k hk _ => hb.block k hk⟩

set_option maxRecDepth 100000 in
set_option maxHeartbeats 2000000 in
theorem dk_size (fg : Nat) (dv pv : Value) (d : Dk.Bs) (l : List Dk.Wr) (w : World) (hf : w.heap[fg]? = some (.cells #[dv, pv] 131 (0, 0))) (hd : RdB w w.heap.size dv d) (hp : PendRd w w.heap.size pv l) (hbd : (Dk.contents d l).length ≤ 1073741824) :
    Calls Tryz.prog 133 #[.pointer (some ⟨fg, 0, none⟩)] w fun e w' => e = .returned (.int .i64 (Dk.contents d l).length) ∧ Below w.heap.size w w' := by
  have c0 : w.cell? ⟨fg, 0, none⟩ = some dv := by rw [cell_of_row w _ _ _ _ _ hf]; rfl
  have c1 : w.cell? ⟨fg, 1, none⟩ = some pv := by rw [cell_of_row w _ _ _ _ _ hf]; rfl
  have HS := Lib.hid (Dk.sizeOf_contents l d)
  have hsz : ∀ k, Dk.sizeOf' d.length (l.take k) ≤ 1073741824 := fun k => by
    have := Dk.sizeOf_le d.length l k
    rw [← Dk.sizeOf_contents l d] at this
    omega
  have hd0 := hsz 0
  rw [List.take_zero] at hd0
  have HZ := Lib.hid hsz
  obtain ⟨da, dc, rfl⟩ := hd.form
  obtain ⟨ao, cap, rfl, hl, hx⟩ := hp
  have HX := Lib.hid hx
  clear hsz hd hx hf
  go_enter Tryz.func133, Tryz.ntmps133
  go_wp2_with fail
  go_loopw [3, 16] (fun v i wr => ∃ k : Nat, k ≤ l.length ∧ i = .int .i64 k ∧ v = .int .i64 (Dk.sizeOf' d.length (l.take k)) ∧ Below w.heap.size w wr) (fun _ i _ => l.length - (RowKit.intOf i).toNat)
  case atStart => exact ⟨0, Nat.zero_le _, rfl, rfl, Below.refl _ _⟩
  case round =>
    obtain ⟨k, hk, rfl, rfl, hbel⟩ := hrel
    clear c0 c1 hd0
    by_cases hlt : k < l.length
    · obtain ⟨g, v, rfl, hg, e0, e1, hrd, hpos, hbb⟩ := HX.out k hlt
      obtain ⟨va, vc, rfl⟩ := hrd.form
      have e0' := (hbel.cell (p := ⟨g, k * 2, none⟩) hg).trans e0
      have e1' := (hbel.cell (p := ⟨g, k * 2 + 1, none⟩) hg).trans e1
      have hk0 := HZ.out k
      have HT := Lib.hid (Dk.sizeOf_take d.length l k hlt)
      have hbel2 := hbel.alloc hbel.size (.cells #[.int .i64 l[k].off, .slice va l[k].b.length vc] 183)
      generalize Dk.sizeOf' d.length (l.take k) = n0 at *
      clear e0 e1 HX HZ hrd
      go_wp2_with fail
      go_roundw
      case rel =>
        refine ⟨k + 1, by omega, by go_num, ?_, hbel2⟩
        rw [HT.out]
        congr 1
        first
          | (split <;> omega)
          | omega
          | (simp only [Int.max_def, Nat.max_def]; split <;> omega)
      case measure => simp [RowKit.intOf]; omega
    · obtain rfl : k = l.length := by omega
      rw [List.take_length, ← HS.out]
      go_wp2_with fail
      go_ret
      exact ⟨rfl, hbel⟩

set_option maxHeartbeats 2000000 in
theorem dk_sync (fg : Nat) (dv pv : Value) (d : Dk.Bs) (l : List Dk.Wr) (w : World) (hf : w.heap[fg]? = some (.cells #[dv, pv] 131 (0, 0))) (hd : RdB w w.heap.size dv d) (hp : PendRd w w.heap.size pv l) (hbd : (Dk.contents d l).length ≤ 1073741824) :
    Calls Tryz.prog 81 #[.pointer (some ⟨fg, 0, none⟩)] w fun e w' => ∃ v', e = .returned (.tuple #[]) ∧ w'.heap[fg]? = some (.cells #[v', .slice none 0 0] 131 (0, 0)) ∧ w'.ownsRow w.heap.size 5 1 v' (Dk.contents d l).length (dkCells (Dk.contents d l)) ∧ w.grownBy w' (some fg) := by
  have hfs : fg < w.heap.size := (Array.getElem?_eq_some_iff.1 hf).1
  have hc := dk_contents fg dv pv d l w hf hd hp hbd
  have HF := Lib.hid hf
  clear hd hp hf
  go_enter Tryz.func81, Tryz.ntmps81
  go_wp2_with fail
  refine hc.mono ?_
  rintro e w1 ⟨v1, rfl, hown1, hb1⟩
  have h1 := (hb1.block fg hfs).trans HF.out
  have c0 : w1.cell? ⟨fg, 0, none⟩ = some dv := by rw [cell_of_row w1 _ _ _ _ _ h1]; rfl
  have c1 : w1.cell? ⟨fg, 1, none⟩ = some pv := by rw [cell_of_row w1 _ _ _ _ _ h1]; rfl
  have f0 := dk_frozen w1 fg 0 _ _ h1
  have f1 := dk_frozen w1 fg 1 _ _ h1
  obtain ⟨a1, k1, rfl⟩ := (RdB.of_own hown1).form
  have H1 := Lib.hid h1
  clear h1
  go_wp2_with fail
  go_end0
  have h2 := dk_setCell w1 fg 0 _ _ (.slice a1 (Dk.contents d l).length k1) H1.out
  have h3 := dk_setCell _ fg 1 _ _ (.slice none 0 0) h2
  have hg := dk_grown_setCell w _ fg 1 (.slice none 0 0) (dk_grown_setCell w w1 fg 0 (.slice a1 (Dk.contents d l).length k1) (dk_grown_of_below _ hb1))
  refine ⟨_, rfl, h3, ?_, hg⟩
  exact ownsRow_setCell_below (ownsRow_setCell_below hown1 hfs _) hfs _

/-- the cells of pending writes; vs: their slices of bytes -/
def wrCells : List Dk.Wr → List Value → List Value
  | w :: l, v :: vs => .int .i64 w.off :: v :: wrCells l vs
  | _, _ => []
theorem wrCells_length : ∀ (l : List Dk.Wr) (vs : List Value), vs.length = l.length → (wrCells l vs).length = l.length * 2
  | [], _, _ => rfl
  | w :: l, [], h => by simp at h
  | w :: l, v :: vs, h => by
    have := wrCells_length l vs (by simpa using h)
    simp only [wrCells, List.length_cons]
    omega
theorem wrCells_append : ∀ (l m : List Dk.Wr) (vs us : List Value), vs.length = l.length → wrCells (l ++ m) (vs ++ us) = wrCells l vs ++ wrCells m us
  | [], m, [], us, _ => rfl
  | [], m, v :: vs, us, h => by simp at h
  | w :: l, m, [], us, h => by simp at h
  | w :: l, m, v :: vs, us, h => by
    simp only [List.cons_append, wrCells]
    rw [wrCells_append l m vs us (by simpa using h)]
theorem wrCells_at : ∀ (l : List Dk.Wr) (vs : List Value) (k : Nat) (w : Dk.Wr) (v : Value), l[k]? = some w → vs[k]? = some v → (wrCells l vs)[k * 2]? = some (.int .i64 w.off) ∧ (wrCells l vs)[k * 2 + 1]? = some v
  | [], _, k, w, v, h, _ => by simp at h
  | _ :: _, [], k, w, v, _, h => by simp at h
  | x :: l, y :: vs, 0, w, v, h, h' => by
    simp at h h'
    subst h h'
    exact ⟨rfl, rfl⟩
  | x :: l, y :: vs, k + 1, w, v, h, h' => by
    have := wrCells_at l vs k w v (by simpa using h) (by simpa using h')
    simp only [wrCells, show (k + 1) * 2 = k * 2 + 2 by omega]
    exact this
theorem wrCells_take : ∀ (l : List Dk.Wr) (vs : List Value) (n : Nat), vs.length = l.length → (wrCells l vs).take (n * 2) = wrCells (l.take n) (vs.take n)
  | [], _, n, _ => by simp [wrCells]
  | w :: l, [], n, h => by simp at h
  | w :: l, v :: vs, 0, h => by simp [wrCells]
  | w :: l, v :: vs, n + 1, h => by
    have := wrCells_take l vs n (by simpa using h)
    rw [show (n + 1) * 2 = n * 2 + 2 by omega]
    simp only [wrCells, List.take_succ_cons]
    rw [this]
theorem wrCells_one (vs : List Value) (hv : ∀ v ∈ vs, v.oneCell' = true) : ∀ (l : List Dk.Wr) (us : List Value), (∀ u ∈ us, u ∈ vs) → ∀ u ∈ wrCells l us, u.oneCell' = true
  | [], _, _, u, hu => by simp [wrCells] at hu
  | _ :: _, [], _, u, hu => by simp [wrCells] at hu
  | w :: l, y :: us, h, u, hu => by
    simp only [wrCells, List.mem_cons] at hu
    rcases hu with rfl | rfl | hu
    · rfl
    · exact hv _ (h _ (by simp))
    · exact wrCells_one vs hv l us (fun x hx => h x (by simp [hx])) u hu

/-- each write's bytes are read in a block below B -/
def WrOk (W : World) (B : Nat) (l : List Dk.Wr) (vs : List Value) : Prop :=
  vs.length = l.length ∧ ∀ (k : Nat) (w : Dk.Wr) (v : Value), l[k]? = some w → vs[k]? = some v → RdB W B v w.b ∧ 0 < w.b.length ∧ w.off + w.b.length ≤ 1073741824

theorem WrOk.one {W : World} {B : Nat} {l : List Dk.Wr} {vs : List Value} (h : WrOk W B l vs) : ∀ u ∈ wrCells l vs, u.oneCell' = true :=
  wrCells_one vs (fun v hv => by
    obtain ⟨k, hk⟩ := List.getElem?_of_mem hv
    have hlt : k < l.length := by rw [← h.1]; exact (List.getElem?_eq_some_iff.1 hk).1
    obtain ⟨a, n, rfl⟩ := (h.2 k l[k] v (List.getElem?_eq_getElem hlt) hk).1.form
    rfl) l vs (fun u hu => hu)
theorem WrOk.below {W W' : World} {B : Nat} {l : List Dk.Wr} {vs : List Value} (h : WrOk W B l vs) (hb : Below B W W') : WrOk W' B l vs :=
  ⟨h.1, fun k w v h1 h2 => ⟨(h.2 k w v h1 h2).1.below hb, (h.2 k w v h1 h2).2⟩⟩
theorem WrOk.take {W : World} {B : Nat} {l : List Dk.Wr} {vs : List Value} (h : WrOk W B l vs) (n : Nat) : WrOk W B (l.take n) (vs.take n) :=
  ⟨by simp [h.1], fun k w v h1 h2 => by
    rw [List.getElem?_take] at h1 h2
    split at h1
    · rename_i hk
      rw [if_pos hk] at h2
      exact h.2 k w v h1 h2
    · cases h1⟩

theorem dk_infoWrite : (Tryz.prog.info? 183).map (fun i => (i.zero, i.size, i.bytes)) = some (some (.agg #[.int .i64 0, .slice none 0 0]), 2, 32) := by kernel_rfl

/-- cells of writes at a slice's address -/
def PendIs (W : World) (B : Nat) (pv : Value) (l : List Dk.Wr) (vs : List Value) : Prop :=
  ∃ ao cap, pv = .slice ao l.length cap ∧ l.length ≤ cap ∧ (0 < l.length → ∃ g, ao = some ⟨g, 0, none⟩ ∧ g < B ∧ ∀ j u, (wrCells l vs)[j]? = some u → W.cell? ⟨g, j, none⟩ = some u)

theorem PendIs.of_own {W : World} {B : Nat} {pv : Value} {l : List Dk.Wr} {vs : List Value} (h : W.ownsRow B 183 2 pv l.length (wrCells l vs)) : PendIs W W.heap.size pv l vs := by
  rcases h.2 with ⟨rfl, h0⟩ | ⟨g, cap, cur, rfl, hB, hh, hn, hcap, hcur, htake⟩
  · exact ⟨none, 0, by rw [h0], by omega, fun hp => by omega⟩
  · refine ⟨_, cap, rfl, hn, fun _ => ⟨g, rfl, (Array.getElem?_eq_some_iff.1 hh).1, fun j u hj => ?_⟩⟩
    have := h.cells (g := g) rfl j u hj
    rwa [dk_add, Nat.zero_add] at this
theorem PendIs.rd {W : World} {B : Nat} {pv : Value} {l : List Dk.Wr} {vs : List Value} (h : PendIs W B pv l vs) (ho : WrOk W B l vs) (hl : l.length ≤ 4398046511103) : PendRd W B pv l := by
  obtain ⟨ao, cap, hv, _, hx⟩ := h
  refine ⟨ao, cap, hv, hl, fun k hk => ?_⟩
  obtain ⟨g, hg, hgB, hc⟩ := hx (by omega)
  have hkv : k < vs.length := by rw [ho.1]; exact hk
  obtain ⟨h0, h1⟩ := wrCells_at l vs k l[k] vs[k] (List.getElem?_eq_getElem hk) (List.getElem?_eq_getElem hkv)
  obtain ⟨o1, o2, o3⟩ := ho.2 k l[k] vs[k] (List.getElem?_eq_getElem hk) (List.getElem?_eq_getElem hkv)
  exact ⟨g, vs[k], hg, hgB, hc _ _ h0, hc _ _ h1, o1, o2, o3⟩
theorem PendIs.below {W W' : World} {B : Nat} {pv : Value} {l : List Dk.Wr} {vs : List Value} (h : PendIs W B pv l vs) (hb : Below B W W') : PendIs W' B pv l vs := by
  obtain ⟨ao, cap, hv, hcp, hx⟩ := h
  refine ⟨ao, cap, hv, hcp, fun hp => ?_⟩
  obtain ⟨g, hg, hgB, hc⟩ := hx hp
  exact ⟨g, hg, hgB, fun j u hj => (hb.cell (p := ⟨g, j, none⟩) hgB).trans (hc j u hj)⟩

set_option maxHeartbeats 1000000 in
theorem dk_cloneW (pv : Value) (l : List Dk.Wr) (vs : List Value) (w : World) (h : PendIs w w.heap.size pv l vs) (ho : WrOk w w.heap.size l vs) (hl : l.length ≤ 1073741824) :
    Calls Tryz.prog 135 #[pv] w fun e w' => ∃ v', e = .returned v' ∧ w'.ownsRow w.heap.size 183 2 v' l.length (wrCells l vs) ∧ Below w.heap.size w w' := by
  obtain ⟨i0, hi, hz0, hz1, hz2⟩ := info_parts dk_infoWrite
  have q22 : ∀ (w : World) (a : Option Addr) (n c n' c' : Nat), (binOp .eql 129 (.slice a n c) (.slice none n' c')).run Tryz.prog w = .ok (.bool a.isNone) w := fun w a n c n' c' => Lib.run_eql_slice_nil w _ _ a n c n' c' Tryz.underlying129
  have hlen := wrCells_length l vs ho.1
  have main : ∀ (ad : Addr) (c : Nat), (∀ j u, (wrCells l vs)[j]? = some u → w.cell? (ad.add j) = some u) → Calls Tryz.prog 135 #[.slice (some ad) l.length c] w fun e w' => ∃ v', e = .returned v' ∧ w'.ownsRow w.heap.size 183 2 v' l.length (wrCells l vs) ∧ Below w.heap.size w w' := by
    intro ad c hc
    have A := Lib.hid hc
    have HLN := Lib.hid hlen
    clear hc h hlen
    go_enter Tryz.func135, Tryz.ntmps135
    go_wp2_with (at_builtin; refine wpList_append_own _ rfl _ _ 129 rfl w.heap.size 183 i0 _ 2 32 Tryz.underlying129 hi hz0 hz1 hz2 rfl (by decide) _ _ _ rfl (World.ownsRow_made w #[] 0 (Nat.le_refl _) (Nat.zero_le _) (by simp)) ad l.length c (wrCells l vs) rfl ?qc1 ?qc2 ?qc3 ?qc4 ?qc5 ?qc6 ?_)
    case qc1 => exact HLN.out
    case qc2 =>
      intro j u hj
      exact Lib.cell?_alloc_some _ (A.out j u hj)
    case qc3 => exact ho.one
    case qc4 => unfold maxLen; omega
    case qc5 => omega
    case qc6 => simp
    intro v' w1 hown hgrow hnil
    go_wp2
    go_ret
    exact ⟨v', rfl, by simpa using hown, ((Below.refl _ w).alloc (Nat.le_refl _) _).grown hgrow (by simp) (by intro k hk; simp [Value.ownBlock] at hk; omega)⟩
  have nil : ∀ n c : Nat, l = [] → Calls Tryz.prog 135 #[.slice none n c] w fun e w' => ∃ v', e = .returned v' ∧ w'.ownsRow w.heap.size 183 2 v' l.length (wrCells l vs) ∧ Below w.heap.size w w' := by
    rintro n c rfl
    clear main h ho
    go_enter Tryz.func135, Tryz.ntmps135
    go_wp2
    go_ret
    exact ⟨_, rfl, World.ownsRow_nil _ _ _ _, Below.refl _ _⟩
  obtain ⟨ao, cap, rfl, _, hx⟩ := h
  rcases Nat.eq_zero_or_pos l.length with h0 | hp
  · obtain rfl : l = [] := List.eq_nil_of_length_eq_zero h0
    cases ao with
    | none => exact nil 0 cap rfl
    | some ad => exact main ad cap (fun j u hj => by simp [wrCells] at hj)
  · obtain ⟨g, rfl, _, hc⟩ := hx hp
    refine main _ cap (fun j u hj => ?_)
    rw [dk_add, Nat.zero_add]
    exact hc j u hj

end Go.Proofs.YtamencnachmhoaaGreatDoor
