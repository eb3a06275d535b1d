/-
  lexer.Lines AND THE REFERENCE's Lines.
-/
import Derived.Test.YtadhhknhfipihaaDoorLex6
import Derived.Test.YtadhhknhfipihaaDoorLexLinesPlain
import Derived.Shelf.Strings.SlTrimAscii
namespace Go.Proofs.YtadhhknhfipihaaDoor
open Go.RowKit Go.Lib

/-- a value that reads as a slice of these strings, in new memory -/
def LxStrs (W : World) (B : Nat) (v : Value) (l : List (List UInt8)) : Prop :=
  W.ownsRow B 9 1 v l.length (l.map fun x => .string ⟨x.toArray⟩)

/-- the row while the lines are trimmed: the first k are done -/
def lxRow (ps : List ByteArray) (k : Nat) : List Value := (List.range ps.length).map fun j => .string (if j < k then ⟨(Lx.clean (ps.getD j default)).toArray⟩ else ps.getD j default)
theorem lxRow_zero (ps : List ByteArray) : lxRow ps 0 = ps.map Value.string := by
  unfold lxRow
  apply List.ext_getElem?
  intro j
  by_cases hj : j < ps.length <;> simp [hj, List.getD]
theorem lxRow_full (ps : List ByteArray) : lxRow ps ps.length = (ps.map Lx.clean).map fun x => .string ⟨x.toArray⟩ := by
  unfold lxRow
  apply List.ext_getElem?
  intro j
  by_cases hj : j < ps.length <;> simp [hj, List.getD]
theorem lxRow_at (ps : List ByteArray) (k : Nat) (h : k < ps.length) : (lxRow ps k)[k]? = some (.string (ps.getD k default)) := by
  unfold lxRow; simp [h]
theorem lxRow_set (ps : List ByteArray) (k : Nat) (h : k < ps.length) : (lxRow ps k).set k (.string ⟨(Lx.clean (ps.getD k default)).toArray⟩) = lxRow ps (k + 1) := by
  unfold lxRow
  apply List.ext_getElem?
  intro j
  rw [List.getElem?_set]
  by_cases hj : k = j
  · subst hj; simp [h]
  · rw [if_neg hj]
    by_cases hl : j < ps.length
    · simp [hl]
      by_cases h2 : j < k
      · rw [if_pos h2, if_pos (by omega)]
      · rw [if_neg h2, if_neg (by omega)]
    · simp [hl]

theorem lx_trim (s : ByteArray) (W : World) (hs : s.size ≤ 9223372036854775807) :
    Calls Tryd.prog 13 #[.string s, .string ⟨#[32, 9]⟩] W fun e w' => e = .returned (.string ⟨(Lib.trimS s.data.toList [32, 9]).toArray⟩) ∧ Below W.heap.size W w' :=
  Any.strings_Trim_laid Tryd.lays160 (by kernel_rfl) s ⟨#[32, 9]⟩ W hs (by decide) (ascii_of_all (by decide))

theorem lx_trimSuffix_le (l p : List UInt8) : (Lib.trimSuffix l p).length ≤ l.length := by
  unfold Lib.trimSuffix
  split <;> simp
theorem lx_pieces10_le (k : Nat) : ∀ (s : ByteArray), ∀ p ∈ Lib.splitB ⟨#[10]⟩ 0 k s, p.size ≤ s.size := by
  induction k with
  | zero => intro s p hp; simp [Lib.splitB] at hp; subst hp; exact Nat.le_refl _
  | succ k ih =>
    intro s p hp
    unfold Lib.splitB at hp
    split at hp
    · simp at hp; subst hp; exact Nat.le_refl _
    · rcases List.mem_cons.1 hp with rfl | hp
      · simp [ByteArray.size_extract]; omega
      · have := ih _ p hp
        simp [ByteArray.size_extract] at this; omega

theorem lx_lines_plain (s : ByteArray) (h : s.toList ≠ []) : Lx.lines s = (Lib.splitB ⟨#[10]⟩ 0 (Lib.countB ⟨(Lib.trimSuffix s.data.toList [10]).toArray⟩ ⟨#[10]⟩) ⟨(Lib.trimSuffix s.data.toList [10]).toArray⟩).map Lx.clean := by
  unfold Lx.lines
  rw [Lx.go_eq _ (by rw [← Lib.toList_data]; exact h)]
  have := Lx.split_lines ⟨(Lib.trimSuffix s.data.toList [10]).toArray⟩
  simp only at this
  rw [← this, List.map_map]
  apply List.map_congr_left
  intro x _
  simp only [Function.comp]

set_option maxHeartbeats 2000000 in
theorem lx_lines (s : ByteArray) (w : World) (m : Int) (kb ko kc : Nat) (hs : s.size ≤ 1073741824) (h : LxEnv m kb ko kc w) :
    Calls Tryd.prog 5 #[.string s] w fun e w' => ∃ v, e = .returned v ∧ LxStrs w' w.heap.size v (Lx.lines s) ∧ Below w.heap.size w w' := by
  by_cases he : s.toList = []
  · clear h
    go_enter Tryd.func5, Tryd.ntmps5
    go_wp2
    go_ret
    have : Lx.lines s = [] := by unfold Lx.lines; rw [← Lib.toList_data, he]; rfl
    rw [this]
    exact ⟨_, rfl, World.ownsRow_nil _ _ _ _, Below.refl _ _⟩
  · have hemp : s.toList.isEmpty = false := by simpa using he
    have h1 := fun W => Tryd.strings_TrimSuffix s ⟨#[10]⟩ W (by omega)
    have ht : (Lib.trimSuffix s.data.toList [10]).length ≤ s.size := by rw [Lib.size_eq]; exact lx_trimSuffix_le _ _
    have h2 := Tryd.strings_Split ⟨(Lib.trimSuffix s.data.toList [10]).toArray⟩ ⟨#[10]⟩ m w (by rw [lx_size_mk]; omega) h.maxlen (by decide)
    have HL := Lib.hid (lx_lines_plain s he)
    have hlen := Lib.splitB_all ⟨#[10]⟩ (by decide) 0 _ ⟨(Lib.trimSuffix s.data.toList [10]).toArray⟩ rfl
    have hle := lx_pieces10_le (Lib.countB ⟨(Lib.trimSuffix s.data.toList [10]).toArray⟩ ⟨#[10]⟩) ⟨(Lib.trimSuffix s.data.toList [10]).toArray⟩
    have hcb := Lib.countB_le ⟨#[10]⟩ (by decide) _ ⟨(Lib.trimSuffix s.data.toList [10]).toArray⟩ (Nat.le_refl _)
    rw [lx_size_mk] at hle hcb
    rw [← hlen] at h2
    generalize Lib.splitB ⟨#[10]⟩ 0 (Lib.countB ⟨(Lib.trimSuffix s.data.toList [10]).toArray⟩ ⟨#[10]⟩) ⟨(Lib.trimSuffix s.data.toList [10]).toArray⟩ = ps at *
    generalize Lib.countB ⟨(Lib.trimSuffix s.data.toList [10]).toArray⟩ ⟨#[10]⟩ = c at *
    simp only at h1
    generalize Lib.trimSuffix s.data.toList [10] = tr at *
    have hn : ps.length ≤ 1073741825 := by omega
    have hown0 := World.ownsRow_lit (base := w.heap.size) (e := 9) (size := 1) w (ps.map Value.string).toArray ps.length (Nat.le_refl _) (by unfold maxLen; omega) (by simp)
    clear hlen hcb h he
    go_enter Tryd.func5, Tryd.ntmps5
    go_wp2_with fail
    refine (h1 _).mono ?_
    rintro e w' ⟨rfl, rfl⟩
    go_wp2_with fail
    refine h2.mono ?_
    rintro e w1 ⟨rfl, rfl⟩
    go_wp2_with fail
    go_loopw [13] (fun i wr => ∃ k : Nat, k ≤ ps.length ∧ i = .int .i64 k ∧ Below w'.heap.size w' wr ∧ w'.heap.size < wr.heap.size ∧
      wr.ownsRow w'.heap.size 9 1 (.slice (some ⟨w'.heap.size, 0, none⟩) ps.length ps.length) ps.length (lxRow ps k)) (fun i _ => ps.length - (RowKit.intOf i).toNat)
    case atStart => exact ⟨0, Nat.zero_le _, rfl, (Below.refl _ _).alloc (Nat.le_refl _) _, by simp, by rw [lxRow_zero]; simpa using hown0⟩
    case round =>
      obtain ⟨k, hk, rfl, hbel, hsz, hown⟩ := hrel
      clear h1 h2 hown0
      by_cases hlt : k < ps.length
      · have hcell := (hown.cellAt k (by omega)).trans (lxRow_at ps k hlt)
        have hx : (ps.getD k default).size ≤ 1073741824 := by
          have := hle (ps.getD k default) (by rw [List.getD_eq_getElem?_getD, List.getElem?_eq_getElem hlt]; simp)
          omega
        have HS := Lib.hid (lxRow_set ps k hlt)
        generalize ps.getD k default = x at *
        have h3 := fun W => lx_uncomment x W (by omega)
        have h4 := fun W => lx_trim (Lx.uncomment x) W (by unfold Lx.uncomment; rw [ByteArray.size_extract]; omega)
        simp only [show Lib.trimS (Lx.uncomment x).data.toList [32, 9] = Lx.clean x from rfl] at h4
        clear hle
        go_wp2_with fail
        refine (h3 _).mono ?_
        rintro e w2 ⟨rfl, rfl⟩
        go_wp2_with fail
        refine (h4 _).mono ?_
        rintro e w3 ⟨rfl, hb3⟩
        have hown3 := lx_owns_below hown hb3
        have hcell3 := (hb3.cell (p := ⟨w'.heap.size, k, none⟩) hsz).trans hcell
        have hfr3 := hown3.frozenAt k
        go_wp2_with fail
        have hst := (hown3.stored k (.string ⟨(Lx.clean x).toArray⟩)).1
        rw [HS.out] at hst
        go_roundw
        case rel => exact ⟨k + 1, by omega, by go_num, (hbel.trans (hb3.mono (by have := hbel.size; omega))).setCell (Nat.le_refl _) _, by have := hb3.size; simp; omega, hst⟩
        case measure => simp [RowKit.intOf]; omega
      · obtain rfl : k = ps.length := by omega
        go_wp2_with fail
        go_ret
        refine ⟨_, rfl, ?_, hbel⟩
        rw [HL.out]
        unfold LxStrs
        rw [← lxRow_full]
        simpa using hown

end Go.Proofs.YtadhhknhfipihaaDoor
