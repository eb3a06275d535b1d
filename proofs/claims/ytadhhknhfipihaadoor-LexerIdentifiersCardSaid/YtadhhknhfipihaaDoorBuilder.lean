/-
  strings.Builder IN THIS PROGRAM: the check of the receiver and the two writes (the shelf's contracts do not fit: the message of the check's own panic is cut here), over the library's own word for a builder.
-/
import Derived.Test.YtadhhknhfipihaaDoorProg
import Derived.Test.YtadhhknhfipihaaDoorShelf
import Derived.WalkKit
import Derived.WalkSpells
import Derived.Shelf.Strings.Builder1
namespace Go.Proofs.YtadhhknhfipihaaDoor
open Go.RowKit

theorem bd_size : (Tryd.prog.info? 147).map (·.size) = some 2 := by kernel_rfl
theorem bd_lies : liesAt Tryd.prog Tryd.prog.depth 147 (2 / Tryd.prog.cellsOf 147) 0 147 1 = true := by kernel_rfl
theorem bd_infoByte : (Tryd.prog.info? 5).map (fun i => (i.zero, i.size, i.bytes)) = some (some (.int .u8 0), 1, 1) := by kernel_rfl

set_option maxHeartbeats 1000000 in
set_option maxRecDepth 100000 in
theorem bd_check_used (b : Nat) (w : World) (h0 : w.cell? ⟨b, 0, none⟩ = some (.pointer (some ⟨b, 0, none⟩))) :
    Calls Tryd.prog 133 #[.pointer (some ⟨b, 0, none⟩)] w fun e w' => e = .returned (.tuple #[]) ∧ w = w' := by
  obtain ⟨j, hj, _⟩ := Option.map_eq_some_iff.1 bd_size
  go_enter Tryd.func133, Tryd.ntmps133
  go_wp2
  rw [Lib.run_neq_ptr_same w _ Tryd.underlying145 hj]
  go_wp2
  go_end0
  exact ⟨rfl, rfl⟩

set_option maxHeartbeats 1000000 in
set_option maxRecDepth 100000 in
theorem bd_check_fresh (b : Nat) (w : World) (h0 : w.cell? ⟨b, 0, none⟩ = some (.pointer none)) (hsh : w.shape? b = some (147, 2)) (hfz : w.frozen? ⟨b, 0, none⟩ = false) :
    Calls Tryd.prog 133 #[.pointer (some ⟨b, 0, none⟩)] w fun e w' => e = .returned (.tuple #[]) ∧ w' = w.setCell ⟨b, 0, none⟩ (.pointer (some ⟨b, 0, none⟩)) := by
  obtain ⟨j, hj, hjs⟩ := Option.map_eq_some_iff.1 bd_size
  go_enter Tryd.func133, Tryd.ntmps133
  go_wp2
  rw [Lib.run_to_unsafe w ⟨b, 0, none⟩ Tryd.underlying145 Tryd.underlying141 hj (by rw [hjs]; decide) hsh (Nat.zero_lt_succ 1)]
  simp only [Result.andThen]
  rw [Oper.upon_value]
  go_wp2
  rw [run_callFunc_extern Tryd.func134 (by kernel_rfl) (by kernel_rfl) (by kernel_rfl) (e := Extern.AbiNoEscape.same) (by kernel_rfl)]
  rw [Lib.run_noEscape]
  simp only [Result.andThen]
  rw [Oper.upon_value]
  go_wp2
  rw [Lib.run_from_unsafe w ⟨b, 0, none⟩ Tryd.underlying141 Tryd.underlying145 hj hsh bd_lies]
  simp only [Result.andThen]
  rw [Oper.upon_value]
  go_wp2
  go_end0
  exact ⟨rfl, rfl⟩

/-- a builder of this program that holds these bytes, in a block of its own from B on -/
abbrev BdAt (B b : Nat) (p : Value) (bs : List Value) (w : World) : Prop := Lib.BuilderAt 147 5 B b p bs w
abbrev BdIs (B b : Nat) (bs : List Value) (w : World) : Prop := Lib.IsBuilder 147 5 B b bs w

theorem bd_check (B b : Nat) (bs : List Value) (w : World) (h : BdIs B b bs w) :
    Calls Tryd.prog 133 #[.pointer (some ⟨b, 0, none⟩)] w fun e w' => e = .returned (.tuple #[]) ∧ BdAt B b (.pointer (some ⟨b, 0, none⟩)) bs w' ∧ Below B w w' := by
  rcases h with h | h
  · refine (bd_check_fresh b w h.cell0 h.shape h.frozen0).mono ?_
    rintro e w' ⟨rfl, hw⟩
    rw [hw]
    exact ⟨rfl, h.used _, (Below.refl B w).setCell (p := ⟨b, 0, none⟩) h.1 _⟩
  · refine (bd_check_used b w h.cell0).mono ?_
    rintro e w' ⟨rfl, rfl⟩
    exact ⟨rfl, h, Below.refl B _⟩

set_option maxHeartbeats 2000000 in
set_option maxRecDepth 100000 in
theorem bd_writeByte (B b : Nat) (bs : List Value) (c : Int) (w : World) (h : BdIs B b bs w) (hlen : bs.length + 1 ≤ 1073741824) (hBw : B ≤ w.heap.size) :
    Calls Tryd.prog 130 #[.pointer (some ⟨b, 0, none⟩), .int .u8 c] w fun e w' => e = .returned .nilIface ∧ BdAt B b (.pointer (some ⟨b, 0, none⟩)) (bs ++ [.int .u8 c]) w' ∧ Below B w w' := by
  obtain ⟨i0, hi, hz0, hz1, hz2⟩ := info_parts bd_infoByte
  have hck := bd_check B b bs w h
  clear h
  go_enter Tryd.func130, Tryd.ntmps130
  go_wp2_with fail
  refine hck.mono ?_
  rintro e w1 ⟨rfl, ⟨hB, v, hbk, hown, hne⟩, hb1⟩
  have hsz := hb1.size
  have hlt : b < w1.heap.size := (Array.getElem?_eq_some_iff.1 hbk).1
  have c0 : w1.cell? ⟨b, 0, none⟩ = some (.pointer (some ⟨b, 0, none⟩)) := by rw [Lib.cell_of_heap hbk]; rfl
  have c1 : w1.cell? ⟨b, 1, none⟩ = some v := by rw [Lib.cell_of_heap hbk]; rfl
  go_wp2_with (at_builtin; refine wpList_append_own _ rfl _ _ 96 rfl B 5 i0 (.int .u8 0) 1 1 Tryd.underlying96 hi hz0 hz1 hz2 rfl (by decide) _ _ _ rfl (hown.alloc _) ⟨w1.heap.size, 0, none⟩ 1 1 [.int .u8 c] rfl rfl ?c1 ?c2 ?c3 ?c4 ?c5 ?_)
  case c1 =>
    intro j u hj
    match j, hj with
    | 0, hj => simp at hj; subst hj; simp [Addr.add]
    | j + 1, hj => simp at hj
  case c2 => intro u hu; simp at hu; subst hu; rfl
  case c3 => unfold maxLen; omega
  case c4 => omega
  case c5 => simp; omega
  intro v' w2 hown2 hgrow _
  have hbk2 : w2.heap[b]? = some (.cells #[.pointer (some ⟨b, 0, none⟩), v] 147 (0, 0)) := by
    rw [hgrow.block b (by simp; omega) (fun e => hne e.symm), Lib.alloc_old w1 _ b hlt]
    exact hbk
  have d0 : w2.cell? ⟨b, 0, none⟩ = some (.pointer (some ⟨b, 0, none⟩)) := by rw [Lib.cell_of_heap hbk2]; rfl
  have d1 : w2.cell? ⟨b, 1, none⟩ = some v := by rw [Lib.cell_of_heap hbk2]; rfl
  have f1 : w2.frozen? ⟨b, 1, none⟩ = false := Lib.frozen_of_heap hbk2 1
  have hbel2 := (hb1.alloc (by omega) (.cells #[.int .u8 c] 5)).grown hgrow (by simp; omega) (fun k hk => (hown.lt k hk).1)
  obtain ⟨g, cap, rfl⟩ : ∃ g cap, v' = .slice (some ⟨g, 0, none⟩) (bs.length + 1) cap := by
    rcases hown2.2 with ⟨_, h0⟩ | ⟨g, cap, cur, hv, _⟩
    · omega
    · exact ⟨g, cap, hv⟩
  clear hgrow c0 c1
  go_wp2
  go_ret
  exact ⟨rfl, Lib.BuilderAt.put hB hbk2 (bs' := bs ++ [.int .u8 c]) (by simpa using hown2) (by decide), hbel2.setCell (p := ⟨b, 1, none⟩) hB _⟩

set_option maxHeartbeats 2000000 in
set_option maxRecDepth 100000 in
theorem bd_writeString (B b : Nat) (bs : List Value) (s : ByteArray) (w : World) (h : BdIs B b bs w) (hlen : bs.length + s.size ≤ 1073741824) (hBw : B ≤ w.heap.size) :
    Calls Tryd.prog 131 #[.pointer (some ⟨b, 0, none⟩), .string s] w fun e w' => e = .returned (.tuple #[.int .i64 s.size, .nilIface]) ∧ BdAt B b (.pointer (some ⟨b, 0, none⟩)) (bs ++ Lib.strCells s) w' ∧ Below B w w' := by
  obtain ⟨i0, hi, hz0, hz1, hz2⟩ := info_parts bd_infoByte
  have hck := bd_check B b bs w h
  clear h
  go_enter Tryd.func131, Tryd.ntmps131
  go_wp2_with fail
  refine hck.mono ?_
  rintro e w1 ⟨rfl, ⟨hB, v, hbk, hown, hne⟩, hb1⟩
  have hsz := hb1.size
  have hlt : b < w1.heap.size := (Array.getElem?_eq_some_iff.1 hbk).1
  have c0 : w1.cell? ⟨b, 0, none⟩ = some (.pointer (some ⟨b, 0, none⟩)) := by rw [Lib.cell_of_heap hbk]; rfl
  have c1 : w1.cell? ⟨b, 1, none⟩ = some v := by rw [Lib.cell_of_heap hbk]; rfl
  go_wp2_with (at_builtin; refine Lib.wpList_append_own_string _ rfl _ _ 96 9 rfl B 5 i0 Tryd.underlying96 Tryd.underlying9 hi hz0 hz1 hz2 _ _ _ rfl hown s rfl ?c3 ?c4 ?c5 ?_)
  case c3 => unfold maxLen; omega
  case c4 => omega
  case c5 => omega
  intro v' w2 hown2 hgrow _
  have hbk2 : w2.heap[b]? = some (.cells #[.pointer (some ⟨b, 0, none⟩), v] 147 (0, 0)) := by
    rw [hgrow.block b hlt (fun e => hne e.symm)]
    exact hbk
  have d0 : w2.cell? ⟨b, 0, none⟩ = some (.pointer (some ⟨b, 0, none⟩)) := by rw [Lib.cell_of_heap hbk2]; rfl
  have d1 : w2.cell? ⟨b, 1, none⟩ = some v := by rw [Lib.cell_of_heap hbk2]; rfl
  have f1 : w2.frozen? ⟨b, 1, none⟩ = false := Lib.frozen_of_heap hbk2 1
  have hbel2 := hb1.grown hgrow (by omega) (fun k hk => (hown.lt k hk).1)
  obtain ⟨ao, n', cap, rfl⟩ : ∃ ao n' cap, v' = .slice ao n' cap := by
    rcases hown2.2 with ⟨hv, _⟩ | ⟨g, cap, cur, hv, _⟩
    · exact ⟨_, _, _, hv⟩
    · exact ⟨_, _, _, hv⟩
  clear hgrow c0 c1
  go_wp2
  go_ret2
  exact ⟨rfl, Lib.BuilderAt.put hB hbk2 (bs' := bs ++ Lib.strCells s) (by simpa [Lib.strCells_length] using hown2) (by decide), hbel2.setCell (p := ⟨b, 1, none⟩) hB _⟩

end Go.Proofs.YtadhhknhfipihaaDoor
