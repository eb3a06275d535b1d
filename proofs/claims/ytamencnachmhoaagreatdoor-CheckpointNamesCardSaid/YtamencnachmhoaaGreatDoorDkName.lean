/-
  METHODS OF THE DISK: New, ready, modify.
  validName, exists.
-/
import Derived.Test.YtamencnachmhoaaGreatDoorDkState2
import Derived.Laws.EntriesVeiled
import Derived.WalkLawsBesides
import Derived.Test.YtamencnachmhoaaGreatDoorShelf
import Derived.Test.YtamencnachmhoaaGreatDoorDkPlain4
import Derived.Shelf.Strings.SlTrimAscii
namespace Go.Proofs.YtamencnachmhoaaGreatDoor
open Go.RowKit

theorem DiskIs.cells {i : Nat} {c : Nat → Nat} {W : World} {g : Nat} {D : Dk.D} {m : Nat} {xs : List Fe} (h : DiskIs i c W g D m xs) :
    W.cell? ⟨g, 0, none⟩ = some (.map (some m)) ∧ W.cell? ⟨g, 1, none⟩ = some (.int .i64 D.bud) ∧ W.cell? ⟨g, 2, none⟩ = some (.bool D.down) ∧ W.frozen? ⟨g, 1, none⟩ = false ∧ W.frozen? ⟨g, 2, none⟩ = false := by
  refine ⟨?_, ?_, ?_, dk_frozen _ _ _ _ _ h.row, dk_frozen _ _ _ _ _ h.row⟩
  · rw [cell_of_row W _ _ _ _ _ h.row]; rfl
  · rw [cell_of_row W _ _ _ _ _ h.row]; rfl
  · rw [cell_of_row W _ _ _ _ _ h.row]; rfl

theorem dk_new (W : World) (i : Nat) (c : Nat → Nat) (hi : i ≠ 0) :
    Calls Tryz.prog 17 #[] W fun e W' => ∃ g, e = .returned (.pointer (some ⟨g, 0, none⟩)) ∧ DiskAt i (pnt c W.heap.size i) W' g ⟨[], -1, false⟩ ∧ Below W.heap.size W W' := by
  have hmm := @run_makeMap Tryz.prog
  go_enter Tryz.func17, Tryz.ntmps17
  go_wp2
  go_ret
  have hm := (World.ownsMap_made W Tryz.prog 9 ptrElem).alloc (.cells #[.map (some W.heap.size), .int .i64 (-1), .bool false] 100)
  have hr := heap_alloc_new (W.alloc (.map #[] 0)) (.cells #[.map (some W.heap.size), .int .i64 (-1), .bool false] 100)
  simp only [World.size_alloc] at hr
  refine ⟨_, rfl, ⟨W.heap.size, [], ⟨hr, hm, rfl, by simp, by simp, ?_, hi⟩⟩, ((Below.refl _ _).alloc (Nat.le_refl _) _).alloc (by simp) _⟩
  intro b hb
  simp at hb
  rcases hb with rfl | rfl
  · exact ⟨pnt_new (by omega), by simp⟩
  · exact ⟨pnt_new (by omega), by simp; omega⟩

theorem dk_ready_nil (W : World) : Calls Tryz.prog 71 #[.pointer none] W fun e W' => e = .returned (.int .i64 1) ∧ W = W' := by
  go_enter Tryz.func71, Tryz.ntmps71
  go_wp2
  go_ret
  exact ⟨rfl, rfl⟩
theorem dk_ready (W : World) (g : Nat) (down : Bool) (h : W.cell? ⟨g, 2, none⟩ = some (.bool down)) :
    Calls Tryz.prog 71 #[.pointer (some ⟨g, 0, none⟩)] W fun e W' => e = .returned (.int .i64 (if down then 32 else 0)) ∧ W = W' := by
  cases down
  · go_enter Tryz.func71, Tryz.ntmps71
    go_wp2
    go_ret
    exact ⟨rfl, rfl⟩
  · go_enter Tryz.func71, Tryz.ntmps71
    go_wp2
    go_ret
    exact ⟨rfl, rfl⟩

/-- what modify does behind a check that is passed -/
structure ModPost (W1 : World) (g : Nat) (bud : Int) (r : Int) (k2 : FuncId) (cap2 : Array Value) (Post : Ending → World → Prop) : Prop where
  no : r ≠ 0 → Post (.returned (.int .i64 r)) W1
  stop : r = 0 → bud = 0 → Post (.returned (.int .i64 32)) (W1.setCell ⟨g, 2, none⟩ (.bool true))
  less : r = 0 → 0 < bud → Calls Tryz.prog k2 cap2 (W1.setCell ⟨g, 1, none⟩ (.int .i64 (bud - 1))) fun e W2 => e = .returned (.tuple #[]) ∧ Post (.returned (.int .i64 0)) W2
  free : r = 0 → bud < 0 → Calls Tryz.prog k2 cap2 W1 fun e W2 => e = .returned (.tuple #[]) ∧ Post (.returned (.int .i64 0)) W2

set_option maxHeartbeats 1000000 in
theorem dk_modify (W : World) (g : Nat) (bud : Int) (down : Bool) (mv : Value) (hrow : W.heap[g]? = some (.cells #[mv, .int .i64 bud, .bool down] 100 (0, 0))) (hbd : bud ≤ 9223372036854775807) (k1 k2 : FuncId) (cap1 cap2 : Array Value)
    (e1 : ∀ args w, (callFunc k1 args).run Tryz.prog w = .ok (.enter k1 args) w) (e2 : ∀ args w, (callFunc k2 args).run Tryz.prog w = .ok (.enter k2 args) w) (Post : Ending → World → Prop)
    (hdn : down = true → Post (.returned (.int .i64 32)) W)
    (hck : down = false → Calls Tryz.prog k1 cap1 W fun e W1 => ∃ r : Int, e = .returned (.int .i64 r) ∧ W1.heap[g]? = W.heap[g]? ∧ ModPost W1 g bud r k2 cap2 Post) :
    Calls Tryz.prog 112 #[.pointer (some ⟨g, 0, none⟩), .func (.func k1) #[] cap1, .func (.func k2) #[] cap2] W Post := by
  have c2 : W.cell? ⟨g, 2, none⟩ = some (.bool down) := by rw [cell_of_row W _ _ _ _ _ hrow]; rfl
  cases down with
  | true =>
    have hfin := Lib.hid (hdn rfl)
    clear hck hdn hrow
    go_enter Tryz.func112, Tryz.ntmps112
    go_wp2_with fail
    refine (dk_ready W g true c2).mono ?_
    rintro e w' ⟨rfl, rfl⟩
    go_wp2_with fail
    exact hfin.out
  | false =>
    have HR := Lib.hid hrow
    have hk2 := hck rfl
    clear hdn hrow hck
    go_enter Tryz.func112, Tryz.ntmps112
    go_wp2_with fail
    refine (dk_ready W g false c2).mono ?_
    rintro e w' ⟨rfl, rfl⟩
    clear c2
    go_wp2_with fail
    refine hk2.mono ?_
    rintro e W1 ⟨r, rfl, hk, hp⟩
    have h1 := hk.trans HR.out
    have d1 : W1.cell? ⟨g, 1, none⟩ = some (.int .i64 bud) := by rw [cell_of_row W1 _ _ _ _ _ h1]; rfl
    have d2 : W1.cell? ⟨g, 2, none⟩ = some (.bool false) := by rw [cell_of_row W1 _ _ _ _ _ h1]; rfl
    have f1 := dk_frozen W1 g 1 _ _ h1
    have f2 := dk_frozen W1 g 2 _ _ h1
    clear hk h1 hk2
    by_cases hr : r = 0
    · subst hr
      by_cases hb0 : bud = 0
      · subst hb0
        have hfin := Lib.hid (hp.stop rfl rfl)
        clear hp
        go_wp2_with fail
        exact hfin.out
      · have hbb : (bud == 0) = false := by simpa using hb0
        by_cases hpos : 0 < bud
        · have hcall := hp.less rfl hpos
          clear hp hb0
          go_wp2_with fail
          refine hcall.mono ?_
          rintro e W2 ⟨rfl, hfin⟩
          have HF := Lib.hid hfin
          clear hfin
          go_wp2_with fail
          exact HF.out
        · have hcall := hp.free rfl (by omega)
          clear hp hb0
          go_wp2_with fail
          refine hcall.mono ?_
          rintro e W2 ⟨rfl, hfin⟩
          have HF := Lib.hid hfin
          clear hfin
          go_wp2_with fail
          exact HF.out
    · have hfin := Lib.hid (hp.no hr)
      have hrb : (r != 0) = true := by simpa using hr
      clear hp hr
      go_wp2_with fail
      exact hfin.out

end Go.Proofs.YtamencnachmhoaaGreatDoor

namespace Go.Proofs.YtamencnachmhoaaGreatDoor
open Go.RowKit

theorem dk_trim (s : ByteArray) (W : World) (hs : s.size ≤ 9223372036854775807) :
    Calls Tryz.prog 85 #[.string s, .string ⟨#[97, 98, 99, 100, 101, 102, 103, 104, 105, 106, 107, 108, 109, 110, 111, 112, 113, 114, 115, 116, 117, 118, 119, 120, 121, 122, 48, 49, 50, 51, 52, 53, 54, 55, 56, 57, 46, 45, 95]⟩] W fun e w' => e = .returned (.string ⟨(Lib.trimS s.data.toList Dk.nameBytes).toArray⟩) ∧ Below W.heap.size W w' :=
  Any.strings_Trim_laid Tryz.lays160 (by kernel_rfl) s ⟨#[97, 98, 99, 100, 101, 102, 103, 104, 105, 106, 107, 108, 109, 110, 111, 112, 113, 114, 115, 116, 117, 118, 119, 120, 121, 122, 48, 49, 50, 51, 52, 53, 54, 55, 56, 57, 46, 45, 95]⟩ W hs (by decide) (ascii_of_all (by decide))

set_option maxHeartbeats 1000000 in
theorem dk_validName (s : ByteArray) (W : World) (hs : s.size ≤ 9223372036854775807) :
    Calls Tryz.prog 114 #[.string s] W fun e w' => e = .returned (.bool (Dk.valid s.data.toList)) ∧ Below W.heap.size W w' := by
  by_cases he : s.toList = []
  · have hemp : s.toList.isEmpty = true := by simp [he]
    have HV : Hid (Dk.valid s.data.toList = false) := by show _ = _; unfold Dk.valid; rw [← Lib.toList_data, he]; rfl
    clear he
    go_enter Tryz.func114, Tryz.ntmps114
    go_wp2_with fail
    go_ret
    rw [HV.out]
    exact ⟨rfl, Below.refl _ _⟩
  · have hemp : s.toList.isEmpty = false := by simpa using he
    have hempd : s.data.toList.isEmpty = false := by rw [← Lib.toList_data]; exact hemp
    by_cases h64 : s.size ≤ 64
    · have hb64 : decide ((s.size : Int) ≤ 64) = true := by simp; omega
      have ht := dk_trim s W hs
      have HV : Hid (Dk.valid s.data.toList = (Lib.trimS s.data.toList Dk.nameBytes).isEmpty) := by
        show _ = _
        unfold Dk.valid
        rw [hempd, ← Lib.size_eq]
        simp [h64]
      generalize Lib.trimS s.data.toList Dk.nameBytes = t at *
      clear he hempd
      go_enter Tryz.func114, Tryz.ntmps114
      go_wp2_with (go_at_call 85; refine ht.mono ?_; rintro e w' ⟨rfl, hb⟩)
      go_ret
      rw [HV.out]
      exact ⟨rfl, hb⟩
    · have hb64 : decide ((s.size : Int) ≤ 64) = false := by simp; omega
      have HV : Hid (Dk.valid s.data.toList = false) := by
        show _ = _
        unfold Dk.valid
        rw [hempd, ← Lib.size_eq]
        simp [h64]
      clear he hempd
      go_enter Tryz.func114, Tryz.ntmps114
      go_wp2_with fail
      go_ret
      rw [HV.out]
      exact ⟨rfl, Below.refl _ _⟩

end Go.Proofs.YtamencnachmhoaaGreatDoor
