/-
  (*Store).files: the loop, on a disk whose names are tame.
  (*Store).Sequences.
-/
import Derived.Test.YtamencnachmhoaaGreatDoorCkSort
import Derived.Test.YtamencnachmhoaaGreatDoorCkLoad

namespace Go.Proofs.YtamencnachmhoaaGreatDoor
open Go.RowKit

namespace Ck
def filesL (nm : Bs) (l : List Bs) : List (Bs × Nat) := l.filterMap fun x => (numOf nm x).map fun n => (x, n)
theorem filesL_snoc {nm : Bs} {l : List Bs} {k : Nat} {x : Bs} (h : l[k]? = some x) : filesL nm (l.take (k + 1)) = filesL nm (l.take k) ++ (match numOf nm x with | some n => [(x, n)] | none => []) := by
  unfold filesL
  rw [List.take_add_one, h, List.filterMap_append]
  congr 1
  cases hn : numOf nm x <;> simp [hn]
theorem filesL_length (nm : Bs) (l : List Bs) : (filesL nm l).length ≤ l.length := List.length_filterMap_le _ _
end Ck

theorem infoFile : (Tryz.prog.info? 113).map (fun i => (i.zero, i.size, i.bytes)) = some (some (.agg #[.string ⟨#[]⟩, .int .i64 0]), 2, 24) := by kernel_rfl

set_option maxRecDepth 100000 in
set_option maxHeartbeats 1000000 in
theorem ck_files {i : Nat} {c : Nat → Nat} {W : World} {s g : Nat} {D : Dk.D} {nm : Ck.Bs} (hd : DiskAt i c W g D) (hs : StIs c W s g nm) (hi : i ≠ 0) (hmany : D.fs.length ≤ 1000000) (hnm : nm.length ≤ 1000)
    (hx : ∀ x ∈ D.names, x.length ≤ 1000000000) (ht : Ck.Tame nm D.names)
    (hord : (Ck.filesF D nm).Pairwise fun a b => a.2 < b.2) :
    Calls Tryz.prog 69 #[.pointer (some ⟨s, 0, none⟩)] W fun e W' => ∃ v, e = .returned v ∧ W'.ownsRow W.heap.size 113 2 v (Ck.filesF D nm).length (Ck.fileCells (Ck.filesF D nm)) ∧ Below W.heap.size W W' := by
  obtain ⟨x0, -⟩ := hs.cells
  have n1 := dk_List hd (by omega)
  have hnl : D.names.length ≤ 1000000 := by
    unfold Dk.D.names
    split
    · simp
    · simpa using hmany
  have HS := Lib.hid hs
  have HX := Lib.hid hx
  have HT := Lib.hid ht
  have HNM := Lib.hid hnm
  have HF : Hid (Ck.filesF D nm = Ck.filesL nm D.names) := Lib.hid rfl
  have HO5 := Lib.hid hord
  clear hd hs hx ht hnm hord
  go_enter Tryz.func69, Tryz.ntmps69
  go_wp2_with fail
  refine n1.mono ?_
  rintro e W1 ⟨v1, rfl, o1, b1⟩
  have hcell : 0 < D.names.length → ∃ sb cap, v1 = .slice (some ⟨sb, 0, none⟩) D.names.length cap ∧ sb < W1.heap.size ∧ ∀ (k : Nat) (y : Value), (dkNames D.names)[k]? = some y → W1.cell? ⟨sb, k, none⟩ = some y := fun h => own_formT o1 h
  obtain ⟨a1, c1, rfl⟩ := own_slice o1
  have HB1 := Lib.hid b1
  have HS1 := Lib.hid (HS.out.below b1)
  obtain ⟨L, hL⟩ : ∃ L, L = D.names.length := ⟨_, rfl⟩
  rw [← hL] at hnl hcell ⊢
  have HL := Lib.hid hL
  have HCELL := Lib.hid hcell
  clear n1 o1 b1 x0 hL hcell
  go_wp2_with fail
  go_loopw [3, 18] (fun ov kv wr => ∃ k : Nat, kv = .int .i64 k ∧ k ≤ L ∧ Hid (wr.ownsRow W1.heap.size 113 2 ov (Ck.filesL nm (D.names.take k)).length (Ck.fileCells (Ck.filesL nm (D.names.take k)))) ∧ Hid (Below W1.heap.size W1 wr)) (fun _ kv _ => L - (RowKit.intOf kv).toNat)
  case atStart => exact ⟨0, rfl, Nat.zero_le _, Lib.hid (by rw [List.take_zero]; exact World.ownsRow_nil _ _ _ _), Lib.hid (Below.refl _ _)⟩
  case round =>
    obtain ⟨k, rfl, hk, HO, HB⟩ := hrel
    obtain ⟨oa, oc, rfl⟩ := own_slice HO.out
    obtain ⟨nl, hnl2⟩ : ∃ nl, nl = (Ck.filesL nm (D.names.take k)).length := ⟨_, rfl⟩
    by_cases hlt : k < L
    · obtain ⟨x, hxk⟩ : ∃ x, D.names[k]? = some x := ⟨_, List.getElem?_eq_getElem (by have := HL.out; omega)⟩
      have hkl : k < D.names.length := by have := HL.out; omega
      have hxl := HX.out x (List.mem_of_getElem? hxk)
      have htx := HT.out x (List.mem_of_getElem? hxk)
      obtain ⟨sb, cap, hva, hsb, hcl⟩ := HCELL.out (by omega)
      cases hva
      have y0 : wr.cell? ⟨sb, k, none⟩ = some (.string ⟨x.toArray⟩) := (HB.out.cell (p := ⟨sb, k, none⟩) hsb).trans (hcl k _ (by unfold dkNames; rw [List.getElem?_map, hxk]; rfl))
      obtain ⟨z0, z1⟩ := (HS1.out.below HB.out).cells
      obtain ⟨X, hX⟩ : ∃ X : ByteArray, X = ⟨x.toArray⟩ := ⟨_, rfl⟩
      obtain ⟨N, hN⟩ : ∃ N : ByteArray, N = ⟨nm.toArray⟩ := ⟨_, rfl⟩
      have hNs : N.size ≤ 1000 := by rw [hN]; show nm.toArray.size ≤ 1000; simpa using HNM.out
      obtain ⟨M, hM⟩ : ∃ M : ByteArray, M = ⟨(Lib.trimPrefix x (nm ++ [45])).toArray⟩ := ⟨_, rfl⟩
      obtain ⟨Q, hQ⟩ : ∃ Q : ByteArray, Q = ⟨(Ck.mid nm x).toArray⟩ := ⟨_, rfl⟩
      obtain ⟨p1, hp1⟩ : ∃ p1, p1 = Lib.hasPrefix x (nm ++ [45]) := ⟨_, rfl⟩
      obtain ⟨p2, hp2⟩ : ∃ p2, p2 = Lib.hasSuffix (Lib.trimPrefix x (nm ++ [45])) Ck.ckpt := ⟨_, rfl⟩
      have n2 : ∀ w, Calls Tryz.prog 121 #[.string X, .string (N ++ ⟨#[45]⟩)] w fun e w' => e = .returned (.tuple #[.string M, .bool p1]) ∧ w' = w := fun w => by
        have := Tryz.strings_CutPrefix X (N ++ ⟨#[45]⟩) w
        rw [hX, hN] at this ⊢
        rw [hM, hp1]
        have e : ((⟨nm.toArray⟩ : ByteArray) ++ ⟨#[45]⟩).data.toList = nm ++ [45] := by rw [show (⟨#[45]⟩ : ByteArray) = ⟨[45].toArray⟩ from rfl, ba_cat]
        rw [e] at this
        exact this
      have hMs : M.size ≤ 1000000000 := by
        rw [hM]
        show (Lib.trimPrefix x (nm ++ [45])).toArray.size ≤ _
        rw [List.size_toArray]
        unfold Lib.trimPrefix
        split
        · rw [List.length_drop]; omega
        · exact hxl
      have n3 : ∀ w, Calls Tryz.prog 122 #[.string M, .string ⟨#[46, 99, 107, 112, 116]⟩] w fun e w' => e = .returned (.tuple #[.string Q, .bool p2]) ∧ w' = w := fun w => by
        have := Tryz.strings_CutSuffix M ⟨#[46, 99, 107, 112, 116]⟩ w (by omega)
        rw [hQ, hp2, hM] at *
        exact this
      have hQs : Q.size = (Ck.mid nm x).length := by rw [hQ]; show (Ck.mid nm x).toArray.size = _; simp
      have HSTEP := Lib.hid (Ck.filesL_snoc (nm := nm) hxk)
      have HNUM := Lib.hid (Ck.numOf_eq nm x)
      rw [← hp1, ← hp2] at htx HNUM
      have HQ := Lib.hid hQ
      have HXE := Lib.hid hX
      have HTX := Lib.hid htx
      have HQS := Lib.hid hQs
      rw [← hX] at y0
      rw [← hN] at z1
      have j0 : (k : Int) < (L : Int) := by omega
      have hkL : k < D.names.length := hkl
      clear hkl hxl htx hcl hX hN hM hQ hp1 hp2 hMs hQs hxk
      have HNONE : Hid (Ck.numOf nm x = none → wr.ownsRow W1.heap.size 113 2 (.slice oa (Ck.filesL nm (D.names.take k)).length oc) (Ck.filesL nm (D.names.take (k + 1))).length (Ck.fileCells (Ck.filesL nm (D.names.take (k + 1))))) := Lib.hid (fun h => by
        rw [HSTEP.out, h]
        simpa using HO.out)
      go_upto_region 7 with (first | (go_at_call 121; refine (n2 _).mono ?_; rintro e w1 ⟨rfl, rfl⟩) | (go_at_call 122; refine (n3 _).mono ?_; rintro e w1 ⟨rfl, rfl⟩))
      by_cases hok : p1 = true ∧ p2 = true ∧ Q.size = 10
      · obtain ⟨rfl, rfl, hq⟩ := hok
        obtain ⟨V, hV⟩ : ∃ V, V = Wl.valD (Ck.mid nm x) := ⟨_, rfl⟩
        have hdig := HTX.out rfl rfl (by rw [← HQS.out]; exact hq)
        have n4 := ck_parseUint w1 (Ck.mid nm x) (by rw [← HQS.out]; exact hq) hdig
        have HNUM2 : Hid (Ck.numOf nm x = if V ≤ 1000000000 then some V else none) := Lib.hid (by
          rw [HNUM.out, ← hV]
          by_cases h : V ≤ 1000000000
          · rw [if_pos h, if_pos ⟨rfl, rfl, by rw [← HQS.out]; exact hq, List.all_eq_true.2 fun c hc => by simpa [Wl.isDig] using hdig c hc, h⟩]
          · rw [if_neg h, if_neg (fun h2 => h h2.2.2.2.2)])
        rw [← HQ.out, ← hV] at n4
        have hqI : (Q.size : Int) = 10 := by omega
        clear hV hdig hq n2 n3
        go_upto_region 8 with fail
        go_upto_region 9 with (go_at_call 123; refine n4.mono ?_; rintro e w2 ⟨rfl, hb2⟩)
        have HB2 := Lib.hid (HB.out.trans (hb2.mono HB.out.size))
        have HG2 := Lib.hid hb2
        clear n4 hb2
        by_cases hle : V ≤ 1000000000
        · have hle1 : (V : Int) ≤ 1000000000 := by omega
          obtain ⟨i0, hii, hz0, hz1, hz2⟩ := info_parts infoFile
          have hown2 := own_keep HO.out (fun g hg => HG2.out.block g (HO.out.lt g hg).2)
          have hsz3 := Nat.le_trans HB2.out.size ((Below.refl w2.heap.size w2).alloc (Nat.le_refl _) (.cells #[.string X, .int .i64 V] 113)).size
          have hrow3 := heap_alloc_new w2 (.cells #[.string X, .int .i64 V] 113)
          have hnlen := Ck.filesL_length nm (D.names.take k)
          rw [List.length_take] at hnlen
          obtain ⟨v9, w9, hr9, ho9, hg9, hat9⟩ := wl_append_at (w := w2.alloc (.cells #[.string X, .int .i64 V] 113)) 110 110 113 i0 (.agg #[.string ⟨#[]⟩, .int .i64 0]) 2 24 Tryz.underlying110 hii hz0 hz1 hz2 rfl (by decide) W1.heap.size (.slice oa (Ck.filesL nm (D.names.take k)).length oc) (Ck.filesL nm (D.names.take k)).length (Ck.fileCells (Ck.filesL nm (D.names.take k)))
            (own_keep hown2 (fun g hg => ((Below.refl w2.heap.size w2).alloc (Nat.le_refl _) _).block g (hown2.lt g hg).2)) (some ⟨w2.heap.size, 0, none⟩) 1 1 [.string X, .int .i64 V] rfl (fun ad ha => by cases ha; exact World.news_of_block hrow3) (fun e => by cases e) (by intro u hu; simp at hu; rcases hu with rfl | rfl <;> rfl) (by unfold maxLen; omega) (by omega) hsz3
          have HN : Hid (w9.ownsRow W1.heap.size 113 2 v9 (Ck.filesL nm (D.names.take (k + 1))).length (Ck.fileCells (Ck.filesL nm (D.names.take (k + 1))))) := Lib.hid (by
            rw [HSTEP.out, HNUM2.out, if_pos hle, List.length_append, Ck.fileCells_append]
            rw [HXE.out] at ho9
            exact ho9)
          have HB9 : Hid (Below W1.heap.size W1 w9) := Lib.hid ((HB2.out.alloc HB2.out.size _).grown hg9 hsz3 (fun g hg => (HO.out.lt g hg).1))
          have hVw : IntKind.i64.wrap (V : Int) = (V : Int) := by simp [IntKind.wrap, IntKind.bits, IntKind.signed]; omega
          obtain ⟨a9, c9, rfl⟩ := own_slice ho9
          clear hsz3 hown2 hrow3 hnlen ho9 hg9 hat9 hii hz0 hz1 hz2
          go_wp2_with (at_builtin; refine wpList_append_eq rfl _ _ _ rfl _ _ _ _ rfl rfl hr9 ?_)
          refine ⟨⟨k + 1, rfl, by omega, HN, HB9⟩, ?_⟩
          show L - ((k : Int) + 1).toNat < L - ((k : Int)).toNat
          omega
        · have hle1 : ¬ (V : Int) ≤ 1000000000 := by omega
          have HN : Hid (w2.ownsRow W1.heap.size 113 2 (.slice oa (Ck.filesL nm (D.names.take k)).length oc) (Ck.filesL nm (D.names.take (k + 1))).length (Ck.fileCells (Ck.filesL nm (D.names.take (k + 1))))) := Lib.hid (by
            have h := HNONE.out (by rw [HNUM2.out, if_neg hle])
            exact own_keep h (fun g hg => HG2.out.block g (h.lt g hg).2))
          go_wp2_with fail
          refine ⟨⟨k + 1, rfl, by omega, HN, HB2⟩, ?_⟩
          show L - ((k : Int) + 1).toNat < L - ((k : Int)).toNat
          omega
      · have hnone : Ck.numOf nm x = none := by
          rw [HNUM.out, if_neg]
          rintro ⟨h1, h2, h3, -, -⟩
          exact hok ⟨h1, h2, by rw [HQS.out]; exact h3⟩
        have HN := Lib.hid (HNONE.out hnone)
        cases p1 with
        | false =>
          clear hok hnone
          go_wp2_with fail
          refine ⟨⟨k + 1, rfl, by omega, HN, HB⟩, ?_⟩
          show L - ((k : Int) + 1).toNat < L - ((k : Int)).toNat
          omega
        | true =>
          cases p2 with
          | false =>
            clear hok hnone
            go_wp2_with fail
            refine ⟨⟨k + 1, rfl, by omega, HN, HB⟩, ?_⟩
            show L - ((k : Int) + 1).toNat < L - ((k : Int)).toNat
            omega
          | true =>
            have hq : Q.size ≠ 10 := fun h => hok ⟨rfl, rfl, h⟩
            have hqI : ¬ (Q.size : Int) = 10 := by omega
            clear hok hnone hq
            go_wp2_with fail
            refine ⟨⟨k + 1, rfl, by omega, HN, HB⟩, ?_⟩
            show L - ((k : Int) + 1).toNat < L - ((k : Int)).toNat
            omega
    · obtain rfl : k = L := by omega
      have hOe := HO.out
      rw [List.take_of_length_le (by have := HL.out; omega), ← HF.out] at hOe
      have hfl : (Ck.filesF D nm).length ≤ 1000000 := Nat.le_trans (by rw [HF.out]; exact Ck.filesL_length _ _) (Nat.le_trans (Nat.le_of_eq HL.out.symm) hnl)
      have n5 := ck_sort hOe HO5.out (by omega)
      have HSZ := Lib.hid HB.out.size
      have HB0 := Lib.hid (HB1.out.trans (HB.out.mono HB1.out.size))
      have hjL : ¬ ((k : Int) < (k : Int)) := by omega
      rw [show (Ck.filesL nm (D.names.take k)).length = (Ck.filesF D nm).length by rw [List.take_of_length_le (by have := HL.out; omega), HF.out]]
      clear hOe hfl
      go_wp2_with (go_at_call 124; refine n5.mono ?_; rintro e w2 ⟨rfl, h5, b5⟩)
      go_ret
      exact ⟨_, rfl, owns_mono h5 HB1.out.size, HB0.out.trans (b5.mono (Nat.le_trans HB1.out.size HSZ.out))⟩

end Go.Proofs.YtamencnachmhoaaGreatDoor

namespace Go.Proofs.YtamencnachmhoaaGreatDoor
open Go.RowKit

namespace Ck
def intCells (l : List Nat) : List Value := l.map fun (n : Nat) => Value.int .i64 (n : Int)
def seqsL (D : Dk.D) (l : List (Bs × Nat)) : List Nat := (l.filter fun x => (loadF D x).isSome).map (·.2)
theorem seqsL_snoc {D : Dk.D} {l : List (Bs × Nat)} {k : Nat} {x : Bs × Nat} (h : l[k]? = some x) : seqsL D (l.take (k + 1)) = seqsL D (l.take k) ++ (if (loadF D x).isSome then [x.2] else []) := by
  unfold seqsL
  rw [List.take_add_one, h, List.filter_append, List.map_append]
  congr 1
  cases hn : (loadF D x).isSome <;> simp [hn]
theorem seqsL_length (D : Dk.D) (l : List (Bs × Nat)) : (seqsL D l).length ≤ l.length := by unfold seqsL; rw [List.length_map]; exact List.length_filter_le _ _
theorem seqs_eq (D : Dk.D) (nm : Bs) : seqs D nm = seqsL D (filesF D nm) := rfl
theorem filesF_len {D : Dk.D} {nm : Bs} (hnm : nm.length ≤ 900) : ∀ x ∈ filesF D nm, x.1.length ≤ 1000 := by
  intro x hx
  unfold filesF at hx
  obtain ⟨y, -, hy⟩ := List.mem_filterMap.1 hx
  cases hn : numOf nm y with
  | none => rw [hn] at hy; cases hy
  | some n =>
    rw [hn] at hy
    obtain rfl := Option.some.inj hy
    rw [numOf_iff] at hn
    obtain ⟨q, rfl, h10, -⟩ := hn
    show (nm ++ [45] ++ q ++ ckpt).length ≤ 1000
    rw [List.length_append, List.length_append, List.length_append, h10]
    show nm.length + 1 + 10 + 5 ≤ 1000
    omega
theorem filesF_num {D : Dk.D} {nm : Bs} : ∀ x ∈ filesF D nm, x.2 ≤ 1000000000 := by
  intro x hx
  unfold filesF at hx
  obtain ⟨y, -, hy⟩ := List.mem_filterMap.1 hx
  cases hn : numOf nm y with
  | none => rw [hn] at hy; cases hy
  | some n =>
    rw [hn] at hy
    obtain rfl := Option.some.inj hy
    rw [numOf_iff] at hn
    obtain ⟨q, rfl, h10, -, -, h⟩ := hn
    exact h
end Ck

theorem infoInt : (Tryz.prog.info? 3).map (fun i => (i.zero, i.size, i.bytes)) = some (some (.int .i64 0), 1, 8) := by kernel_rfl

theorem ck_Sequences_nil (W : World) : Calls Tryz.prog 21 #[.pointer none] W fun e W' => e = .returned (.slice none 0 0) ∧ W = W' := by
  go_enter Tryz.func21, Tryz.ntmps21
  go_wp2_with fail
  go_ret
  exact ⟨rfl, rfl⟩

/-- the row of files in memory: what a loop over it reads -/
theorem files_cells {W : World} {B : Nat} {v : Value} {F : List (Ck.Bs × Nat)} (h : W.ownsRow B 113 2 v F.length (Ck.fileCells F)) :
    0 < F.length → ∃ sb cap, v = .slice (some ⟨sb, 0, none⟩) F.length cap ∧ B ≤ sb ∧ sb < W.heap.size ∧ ∀ (k : Nat) (x : Ck.Bs × Nat), F[k]? = some x → W.cell? ⟨sb, k * 2, none⟩ = some (.string ⟨x.1.toArray⟩) ∧ W.cell? ⟨sb, k * 2 + 1, none⟩ = some (.int .i64 x.2) := by
  intro hp
  obtain ⟨sb, cap, h1, h2, h3⟩ := own_formT h hp
  exact ⟨sb, cap, h1, (h.lt sb (by rw [h1]; rfl)).1, h2, fun k x hx => ⟨h3 _ _ (Ck.fileCells_get F k x hx).1, h3 _ _ (Ck.fileCells_get F k x hx).2⟩⟩

set_option maxRecDepth 100000 in
set_option maxHeartbeats 1000000 in
theorem ck_Sequences {i : Nat} {c : Nat → Nat} {W : World} {s g : Nat} {D : Dk.D} {nm : Ck.Bs} (hd : DiskAt i c W g D) (hs : StIs c W s g nm) (hi : i ≠ 0) (hmany : D.fs.length ≤ 1000000) (hnm : nm.length ≤ 900)
    (hx : ∀ x ∈ D.names, x.length ≤ 1000000000) (ht : Ck.Tame nm D.names) (hord : (Ck.filesF D nm).Pairwise fun a b => a.2 < b.2) :
    Calls Tryz.prog 21 #[.pointer (some ⟨s, 0, none⟩)] W fun e W' => ∃ v, e = .returned v ∧ W'.ownsRow W.heap.size 3 1 v (Ck.seqs D nm).length (Ck.intCells (Ck.seqs D nm)) ∧ Below W.heap.size W W' := by
  have n1 := ck_files hd hs hi hmany (by omega) hx ht hord
  have hlen := Ck.filesF_len (D := D) hnm
  have hFL : (Ck.filesF D nm).length ≤ 1000000 := by
    refine Nat.le_trans (List.length_filterMap_le _ _) ?_
    unfold Dk.D.names
    split
    · simp
    · simpa using hmany
  rw [Ck.seqs_eq]
  obtain ⟨F, hF⟩ : ∃ F, F = Ck.filesF D nm := ⟨_, rfl⟩
  rw [← hF] at n1 hlen hFL ⊢
  have HLEN := Lib.hid hlen
  have HD := Lib.hid hd
  have HS := Lib.hid hs
  clear hd hs hx ht hnm hord hF hlen hmany
  go_enter Tryz.func21, Tryz.ntmps21
  go_wp2_with fail
  refine n1.mono ?_
  rintro e W1 ⟨v1, rfl, o1, b1⟩
  have HCELL := Lib.hid (files_cells o1)
  obtain ⟨a1, c1, rfl⟩ := own_slice o1
  have HB1 := Lib.hid b1
  have HD1 := Lib.hid (HD.out.chg (Chg.of_belowSame (i := i + 1) b1) (by omega) (by omega))
  have HS1 := Lib.hid (HS.out.below b1)
  obtain ⟨L, hL⟩ : ∃ L, L = F.length := ⟨_, rfl⟩
  rw [← hL] at hFL HCELL ⊢
  have HL := Lib.hid hL
  clear n1 o1 b1 hL
  go_wp2_with fail
  go_loopw [3, 13] (fun ov kv wr => ∃ k : Nat, kv = .int .i64 k ∧ k ≤ L ∧ Hid (wr.ownsRow W1.heap.size 3 1 ov (Ck.seqsL D (F.take k)).length (Ck.intCells (Ck.seqsL D (F.take k)))) ∧ Hid (Below W1.heap.size W1 wr)) (fun _ kv _ => L - (RowKit.intOf kv).toNat)
  case atStart => exact ⟨0, rfl, Nat.zero_le _, Lib.hid (by rw [List.take_zero]; exact World.ownsRow_nil _ _ _ _), Lib.hid (Below.refl _ _)⟩
  case round =>
    obtain ⟨k, rfl, hk, HO, HB⟩ := hrel
    obtain ⟨oa, oc, rfl⟩ := own_slice HO.out
    by_cases hlt : k < L
    · obtain ⟨x, hxk⟩ : ∃ x, F[k]? = some x := ⟨_, List.getElem?_eq_getElem (by have := HL.out; omega)⟩
      have hx1 := HLEN.out x (List.mem_of_getElem? hxk)
      have HSTEP := Lib.hid (Ck.seqsL_snoc (D := D) hxk)
      obtain ⟨sb, cap, hva, -, hsb, hcl⟩ := HCELL.out (by omega)
      cases hva
      obtain ⟨z0, z1⟩ := hcl k x hxk
      have y0 : wr.cell? ⟨sb, k * 2, none⟩ = some (.string ⟨x.1.toArray⟩) := (HB.out.cell (p := ⟨sb, k * 2, none⟩) hsb).trans z0
      have y1 : wr.cell? ⟨sb, k * 2 + 1, none⟩ = some (.int .i64 x.2) := (HB.out.cell (p := ⟨sb, k * 2 + 1, none⟩) hsb).trans z1
      obtain ⟨xn, xq⟩ := x
      simp only [] at y0 y1 hx1 HSTEP
      obtain ⟨X, hX⟩ : ∃ X : ByteArray, X = ⟨xn.toArray⟩ := ⟨_, rfl⟩
      rw [← hX] at y0
      obtain ⟨wa, hwa⟩ : ∃ wa, wa = wr.alloc (.cells #[.string X, .int .i64 xq] 113) := ⟨_, rfl⟩
      have ba : Below wr.heap.size wr wa := by rw [hwa]; exact (Below.refl _ _).alloc (Nat.le_refl _) _
      have hrow : wa.heap[wr.heap.size]? = some (.cells #[.string X, .int .i64 xq] 113 (0, 0)) := by rw [hwa]; exact heap_alloc_new _ _
      have hBa := HB.out.trans (ba.mono HB.out.size)
      have n2 := ck_load (HD1.out.chg (Chg.of_belowSame (i := i + 1) hBa) (by omega) (by omega)) (HS1.out.below hBa) hi hx1 (n := xq)
      rw [← hX] at n2
      have HBA := Lib.hid ba
      have HWA := Lib.hid hwa
      have HROW := Lib.hid hrow
      have j0 : (k : Int) < (L : Int) := by omega
      have hkF : k < F.length := by have := HL.out; omega
      clear hx1 hcl hX hxk z0 z1 ba hwa hrow hBa
      go_upto_region 7 with fail
      rw [← HWA.out]
      have q0 : wa.cell? ⟨wr.heap.size, 0, none⟩ = some (.string X) := by rw [cell_of_row _ _ _ _ _ _ HROW.out]; rfl
      have q1 : wa.cell? ⟨wr.heap.size, 1, none⟩ = some (.int .i64 xq) := by rw [cell_of_row _ _ _ _ _ _ HROW.out]; rfl
      go_upto_region 8 with (go_at_call 70; refine n2.mono ?_; rintro e w2 ⟨b2, hcase⟩; rcases hcase with ⟨dd, vd, hl, rfl, o2⟩ | ⟨hl, da, dk, dc, rfl⟩)
      · have HB2 := Lib.hid (HBA.out.trans (b2.mono HBA.out.size))
        have r1 : w2.cell? ⟨wr.heap.size, 1, none⟩ = some (.int .i64 xq) := (b2.cell (p := ⟨wr.heap.size, 1, none⟩) (Array.getElem?_eq_some_iff.1 HROW.out).1).trans q1
        have HN0 : Hid (Ck.seqsL D (F.take (k + 1)) = Ck.seqsL D (F.take k) ++ [xq]) := Lib.hid (by rw [HSTEP.out, hl]; rfl)
        obtain ⟨i0, hii, hz0, hz1, hz2⟩ := info_parts infoInt
        have hown2 := own_keep HO.out (fun g hg => HB2.out.block g (HO.out.lt g hg).2)
        have hsz1 : W1.heap.size ≤ w2.heap.size := Nat.le_trans HB.out.size HB2.out.size
        have hsz3 : W1.heap.size ≤ (w2.alloc (.cells #[.int .i64 xq] 3)).heap.size := Nat.le_trans hsz1 ((Below.refl w2.heap.size w2).alloc (Nat.le_refl _) (.cells #[.int .i64 xq] 3)).size
        have hrow3 := heap_alloc_new w2 (.cells #[.int .i64 xq] 3)
        have hnlen := Ck.seqsL_length D (F.take k)
        rw [List.length_take] at hnlen
        obtain ⟨v9, w9, hr9, ho9, hg9, hat9⟩ := wl_append_at (w := w2.alloc (.cells #[.int .i64 xq] 3)) 46 46 3 i0 (.int .i64 0) 1 8 Tryz.underlying46 hii hz0 hz1 hz2 rfl (by decide) W1.heap.size (.slice oa (Ck.seqsL D (F.take k)).length oc) (Ck.seqsL D (F.take k)).length (Ck.intCells (Ck.seqsL D (F.take k)))
          (own_keep hown2 (fun g hg => ((Below.refl w2.heap.size w2).alloc (Nat.le_refl _) _).block g (hown2.lt g hg).2)) (some ⟨w2.heap.size, 0, none⟩) 1 1 [.int .i64 xq] rfl (fun ad ha => by cases ha; exact World.news_of_block hrow3) (fun e => by cases e) (by intro u hu; simp at hu; rcases hu with rfl; rfl) (by unfold maxLen; omega) (by omega) hsz3
        have HN : Hid (w9.ownsRow W1.heap.size 3 1 v9 (Ck.seqsL D (F.take (k + 1))).length (Ck.intCells (Ck.seqsL D (F.take (k + 1))))) := Lib.hid (by
          rw [HN0.out, List.length_append]
          unfold Ck.intCells at ho9 ⊢
          rw [List.map_append]
          exact ho9)
        have HB9 : Hid (Below W1.heap.size W1 w9) := Lib.hid (((HB.out.trans (HB2.out.mono HB.out.size)).alloc hsz1 _).grown hg9 hsz3 (fun g hg => (HO.out.lt g hg).1))
        obtain ⟨va, vk, rfl⟩ := own_slice o2
        obtain ⟨a9, c9, rfl⟩ := own_slice ho9
        clear hsz1 hsz3 hown2 hrow3 hnlen ho9 hg9 hat9 hii hz0 hz1 hz2 o2 b2 hl q0 q1 n2
        go_wp2_with (at_builtin; refine wpList_append_eq rfl _ _ _ rfl _ _ _ _ rfl rfl hr9 ?_)
        refine ⟨⟨k + 1, rfl, by omega, HN, HB9⟩, ?_⟩
        show L - ((k : Int) + 1).toNat < L - ((k : Int)).toNat
        omega
      · have HB2 := Lib.hid (HBA.out.trans (b2.mono HBA.out.size))
        have HN : Hid (w2.ownsRow W1.heap.size 3 1 (.slice oa (Ck.seqsL D (F.take k)).length oc) (Ck.seqsL D (F.take (k + 1))).length (Ck.intCells (Ck.seqsL D (F.take (k + 1))))) := Lib.hid (by
          rw [HSTEP.out, hl]
          simpa using own_keep HO.out (fun g hg => HB2.out.block g (HO.out.lt g hg).2))
        have HB9 := Lib.hid (HB.out.trans (HB2.out.mono HB.out.size))
        clear b2 hl q0 q1 n2
        go_wp2_with fail
        refine ⟨⟨k + 1, rfl, by omega, HN, HB9⟩, ?_⟩
        show L - ((k : Int) + 1).toNat < L - ((k : Int)).toNat
        omega
    · obtain rfl : k = L := by omega
      have HO2 : Hid (wr.ownsRow W1.heap.size 3 1 (.slice oa (Ck.seqsL D (F.take k)).length oc) (Ck.seqsL D F).length (Ck.intCells (Ck.seqsL D F))) := Lib.hid (by
        have h := HO.out
        rw [List.take_of_length_le (by have := HL.out; omega)] at h ⊢
        exact h)
      have hjL : ¬ ((k : Int) < (k : Int)) := by omega
      go_wp2_with fail
      go_ret
      exact ⟨_, rfl, owns_mono HO2.out HB1.out.size, HB1.out.trans (HB.out.mono HB1.out.size)⟩

end Go.Proofs.YtamencnachmhoaaGreatDoor
