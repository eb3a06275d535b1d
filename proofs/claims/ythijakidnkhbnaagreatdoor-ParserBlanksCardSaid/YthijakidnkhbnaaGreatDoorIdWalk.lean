/-
  PLAIN DEFINITIONS FOR IDENTIFIERS (layer 5): classes of characters, the digits of the check, the kinds.
  strings.Builder IN THIS PROGRAM: the check of the receiver and the two writes (the shelf's contracts do not fit: the message of the check's own panic is cut here), over the library's own word for a builder.
  IDENTIFIERS: classes of characters and expand.
  IDENTIFIERS: the check digits (luhn, mod97).
  IDENTIFIERS: classes and prefix.
  IDENTIFIERS: what the world holds of the table of kinds; Check and Valid.
  IDENTIFIERS: Check with check digits; Valid.
  Identifiers: Check and Valid, exactly.
-/
import Derived.Test.YthijakidnkhbnaaGreatDoorLexPlain
import Derived.Lib.ItoaNum
import Derived.PlainAid
import Derived.Test.YthijakidnkhbnaaGreatDoorProg
import Derived.Test.YthijakidnkhbnaaGreatDoorShelf
import Derived.WalkKit
import Derived.WalkSpells
import Derived.Shelf.Strings.Builder1
import Derived.Test.YthijakidnkhbnaaGreatDoorLexWalk
import Derived.Laws.RangeString
import Derived.Laws.EntriesVeiled
import Derived.Deep.RegionHeld3
import Derived.Deep.QuietTactic
import Derived.BigQuiet

namespace Go.Proofs.YthijakidnkhbnaaGreatDoor.Id

def letter (c : Int) : Bool := Lx.upper c
def digit (c : Int) : Bool := Lx.digit c
def alnum (c : Int) : Bool := Lx.upper c || Lx.digit c
def refc (c : Int) : Bool := alnum c || decide (c = 45)

/-- the decimal digits of the values of letters and digits -/
def expandC (c : UInt8) : List UInt8 := if digit (c.toNat : Int) then [c] else Lib.decDigits (c.toNat - 55)
def expand (l : List UInt8) : List UInt8 := l.flatMap expandC
theorem expand_append (a b : List UInt8) : expand (a ++ b) = expand a ++ expand b := by simp [expand]

theorem decDigits_small (n : Nat) (h : n < 100) : (Lib.decDigits n).length ≤ 2 ∧ ∀ c ∈ Lib.decDigits n, 48 ≤ c.toNat ∧ c.toNat ≤ 57 := by
  have key : ∀ n : Fin 100, (Lib.decDigits n.val).length ≤ 2 ∧ ∀ c ∈ Lib.decDigits n.val, 48 ≤ c.toNat ∧ c.toNat ≤ 57 := by decide +kernel
  exact key ⟨n, h⟩

theorem expandC_len (c : UInt8) (h : alnum (c.toNat : Int) = true) : (expandC c).length ≤ 2 := by
  unfold expandC
  split
  · simp
  · refine (decDigits_small _ ?_).1
    unfold alnum Lx.upper Lx.digit at h
    simp at h; omega
theorem expandC_digits (c : UInt8) (h : alnum (c.toNat : Int) = true) : ∀ x ∈ expandC c, 48 ≤ x.toNat ∧ x.toNat ≤ 57 := by
  unfold expandC
  split
  · rename_i hd
    intro x hx
    simp at hx; subst hx
    unfold digit Lx.digit at hd; simp at hd; omega
  · refine (decDigits_small _ ?_).2
    unfold alnum Lx.upper Lx.digit at h
    simp at h; omega
theorem expand_len (l : List UInt8) (h : ∀ c ∈ l, alnum (c.toNat : Int) = true) : (expand l).length ≤ 2 * l.length := by
  induction l with
  | nil => simp [expand]
  | cons a l ih =>
    have h1 := expandC_len a (h a (by simp))
    have h2 := ih (fun c hc => h c (by simp [hc]))
    simp [expand] at h2 ⊢
    omega
theorem expand_digits (l : List UInt8) (h : ∀ c ∈ l, alnum (c.toNat : Int) = true) : ∀ x ∈ expand l, 48 ≤ x.toNat ∧ x.toNat ≤ 57 := by
  intro x hx
  obtain ⟨c, hc, hx⟩ := List.mem_flatMap.1 hx
  exact expandC_digits c (h c hc) x hx
theorem expand_take (s : ByteArray) (k : Nat) (h : k < s.size) : expand (s.data.toList.take (k + 1)) = expand (s.data.toList.take k) ++ expandC s[k] := by
  rw [List.take_succ_eq_append_getElem (by rw [← Lib.size_eq]; exact h), expand_append]
  simp [expand]
  rfl

/-- the check digit of an ISIN: what the digit at a place from the end adds -/
def luhnT (b : ByteArray) (i : Nat) : Int :=
  if (i : Int) % 2 = 0 then (PlainAid.bt b (b.size - 1 - i) - 48) * 2 / 10 + (PlainAid.bt b (b.size - 1 - i) - 48) * 2 % 10 else (PlainAid.bt b (b.size - 1 - i) - 48) / 10 + (PlainAid.bt b (b.size - 1 - i) - 48) % 10
def luhnS (b : ByteArray) : Nat → Int
  | 0 => 0
  | k + 1 => luhnS b k + luhnT b k
/-- the check digit of the first characters of an ISIN -/
def luhn (l : List UInt8) : List UInt8 := Lib.decDigits ((10 - luhnS ⟨(expand l).toArray⟩ (expand l).length % 10) % 10).toNat

theorem luhnT_bd (b : ByteArray) (i : Nat) (h : 48 ≤ PlainAid.bt b (b.size - 1 - i) ∧ PlainAid.bt b (b.size - 1 - i) ≤ 57) : 0 ≤ luhnT b i ∧ luhnT b i ≤ 18 := by
  unfold luhnT
  split <;> omega
theorem luhnS_bd (b : ByteArray) (h : ∀ j, j < b.size → 48 ≤ PlainAid.bt b j ∧ PlainAid.bt b j ≤ 57) : ∀ k, k ≤ b.size → 0 ≤ luhnS b k ∧ luhnS b k ≤ 18 * k := by
  intro k
  induction k with
  | zero => intro _; simp [luhnS]
  | succ k ih =>
    intro hk
    have h1 := ih (by omega)
    have h2 := luhnT_bd b k (h _ (by omega))
    simp only [luhnS]
    omega

/-- the remainder of a number in decimal digits -/
def modS (b : ByteArray) : Nat → Int
  | 0 => 0
  | k + 1 => (10 * modS b k + (PlainAid.bt b k - 48)) % 97
theorem modS_bd (b : ByteArray) (h : ∀ j, j < b.size → 48 ≤ PlainAid.bt b j ∧ PlainAid.bt b j ≤ 57) : ∀ k, k ≤ b.size → 0 ≤ modS b k ∧ modS b k ≤ 96 := by
  intro k
  induction k with
  | zero => intro _; simp [modS]
  | succ k ih =>
    intro hk
    have h1 := ih (by omega)
    have h2 := h k (by omega)
    simp only [modS]
    omega
/-- the check digits of the first characters of an LEI -/
def mod97 (l : List UInt8) : List UInt8 :=
  if (Lib.decDigits (98 - modS ⟨(expand l ++ [48, 48]).toArray⟩ ((expand l).length + 2)).toNat).length < 2 then 48 :: Lib.decDigits (98 - modS ⟨(expand l ++ [48, 48]).toArray⟩ ((expand l).length + 2)).toNat
  else Lib.decDigits (98 - modS ⟨(expand l ++ [48, 48]).toArray⟩ ((expand l).length + 2)).toNat

theorem bt_digits (l : List UInt8) (h : ∀ x ∈ l, 48 ≤ x.toNat ∧ x.toNat ≤ 57) : ∀ j, j < (⟨l.toArray⟩ : ByteArray).size → 48 ≤ PlainAid.bt ⟨l.toArray⟩ j ∧ PlainAid.bt ⟨l.toArray⟩ j ≤ 57 := by
  intro j hj
  have hj' : j < l.length := by simpa [ByteArray.size] using hj
  have := h l[j] (List.getElem_mem hj')
  unfold PlainAid.bt
  rw [dif_pos hj]
  show 48 ≤ (l[j].toNat : Int) ∧ (l[j].toNat : Int) ≤ 57
  omega

end Go.Proofs.YthijakidnkhbnaaGreatDoor.Id

namespace Go.Proofs.YthijakidnkhbnaaGreatDoor
open Go.RowKit

theorem bd_size : (Tryz.prog.info? 266).map (·.size) = some 2 := by kernel_rfl
theorem bd_lies : liesAt Tryz.prog Tryz.prog.depth 266 (2 / Tryz.prog.cellsOf 266) 0 266 1 = true := by kernel_rfl
theorem bd_infoByte : (Tryz.prog.info? 5).map (fun i => (i.zero, i.size, i.bytes)) = some (some (.int .u8 0), 1, 1) := by kernel_rfl

set_option maxHeartbeats 1000000 in
set_option maxRecDepth 100000 in
theorem bd_check_used (b : Nat) (w : World) (h0 : w.cell? ⟨b, 0, none⟩ = some (.pointer (some ⟨b, 0, none⟩))) :
    Calls Tryz.prog 266 #[.pointer (some ⟨b, 0, none⟩)] w fun e w' => e = .returned (.tuple #[]) ∧ w = w' := by
  obtain ⟨j, hj, _⟩ := Option.map_eq_some_iff.1 bd_size
  go_enter Tryz.func266, Tryz.ntmps266
  go_wp2
  rw [Lib.run_neq_ptr_same w _ Tryz.underlying264 hj]
  go_wp2
  go_end0
  exact ⟨rfl, rfl⟩

set_option maxHeartbeats 1000000 in
set_option maxRecDepth 100000 in
theorem bd_check_fresh (b : Nat) (w : World) (h0 : w.cell? ⟨b, 0, none⟩ = some (.pointer none)) (hsh : w.shape? b = some (266, 2)) (hfz : w.frozen? ⟨b, 0, none⟩ = false) :
    Calls Tryz.prog 266 #[.pointer (some ⟨b, 0, none⟩)] w fun e w' => e = .returned (.tuple #[]) ∧ w' = w.setCell ⟨b, 0, none⟩ (.pointer (some ⟨b, 0, none⟩)) := by
  obtain ⟨j, hj, hjs⟩ := Option.map_eq_some_iff.1 bd_size
  go_enter Tryz.func266, Tryz.ntmps266
  go_wp2
  rw [Lib.run_to_unsafe w ⟨b, 0, none⟩ Tryz.underlying264 Tryz.underlying260 hj (by rw [hjs]; decide) hsh (Nat.zero_lt_succ 1)]
  simp only [Result.andThen]
  rw [Oper.upon_value]
  go_wp2
  rw [run_callFunc_extern Tryz.func267 (by kernel_rfl) (by kernel_rfl) (by kernel_rfl) (e := Extern.AbiNoEscape.same) (by kernel_rfl)]
  rw [Lib.run_noEscape]
  simp only [Result.andThen]
  rw [Oper.upon_value]
  go_wp2
  rw [Lib.run_from_unsafe w ⟨b, 0, none⟩ Tryz.underlying260 Tryz.underlying264 hj hsh bd_lies]
  simp only [Result.andThen]
  rw [Oper.upon_value]
  go_wp2
  go_end0
  exact ⟨rfl, rfl⟩

/-- a builder of this program that holds these bytes, in a block of its own from B on -/
abbrev BdAt (B b : Nat) (p : Value) (bs : List Value) (w : World) : Prop := Lib.BuilderAt 266 5 B b p bs w
abbrev BdIs (B b : Nat) (bs : List Value) (w : World) : Prop := Lib.IsBuilder 266 5 B b bs w

theorem bd_check (B b : Nat) (bs : List Value) (w : World) (h : BdIs B b bs w) :
    Calls Tryz.prog 266 #[.pointer (some ⟨b, 0, none⟩)] w fun e w' => e = .returned (.tuple #[]) ∧ BdAt B b (.pointer (some ⟨b, 0, none⟩)) bs w' ∧ Below B w w' := by
  rcases h with h | h
  · refine (bd_check_fresh b w h.cell0 h.shape h.frozen0).mono ?_
    rintro e w' ⟨rfl, hw⟩
    rw [hw]
    exact ⟨rfl, h.used _, (Below.refl B w).setCell (p := ⟨b, 0, none⟩) h.1 _⟩
  · refine (bd_check_used b w h.cell0).mono ?_
    rintro e w' ⟨rfl, rfl⟩
    exact ⟨rfl, h, Below.refl B _⟩

set_option maxHeartbeats 2000000 in
set_option maxRecDepth 100000 in
theorem bd_writeByte (B b : Nat) (bs : List Value) (c : Int) (w : World) (h : BdIs B b bs w) (hlen : bs.length + 1 ≤ 1073741824) (hBw : B ≤ w.heap.size) :
    Calls Tryz.prog 263 #[.pointer (some ⟨b, 0, none⟩), .int .u8 c] w fun e w' => e = .returned .nilIface ∧ BdAt B b (.pointer (some ⟨b, 0, none⟩)) (bs ++ [.int .u8 c]) w' ∧ Below B w w' := by
  obtain ⟨i0, hi, hz0, hz1, hz2⟩ := info_parts bd_infoByte
  have hck := bd_check B b bs w h
  clear h
  go_enter Tryz.func263, Tryz.ntmps263
  go_wp2_with fail
  refine hck.mono ?_
  rintro e w1 ⟨rfl, ⟨hB, v, hbk, hown, hne⟩, hb1⟩
  have hsz := hb1.size
  have hlt : b < w1.heap.size := (Array.getElem?_eq_some_iff.1 hbk).1
  have c0 : w1.cell? ⟨b, 0, none⟩ = some (.pointer (some ⟨b, 0, none⟩)) := by rw [Lib.cell_of_heap hbk]; rfl
  have c1 : w1.cell? ⟨b, 1, none⟩ = some v := by rw [Lib.cell_of_heap hbk]; rfl
  go_wp2_with (at_builtin; refine wpList_append_own _ rfl _ _ 47 rfl B 5 i0 (.int .u8 0) 1 1 Tryz.underlying47 hi hz0 hz1 hz2 rfl (by decide) _ _ _ rfl (hown.alloc _) ⟨w1.heap.size, 0, none⟩ 1 1 [.int .u8 c] rfl rfl ?c1 ?c2 ?c3 ?c4 ?c5 ?_)
  case c1 =>
    intro j u hj
    match j, hj with
    | 0, hj => simp at hj; subst hj; simp [Addr.add]
    | j + 1, hj => simp at hj
  case c2 => intro u hu; simp at hu; subst hu; rfl
  case c3 => unfold maxLen; omega
  case c4 => omega
  case c5 => simp; omega
  intro v' w2 hown2 hgrow _
  have hbk2 : w2.heap[b]? = some (.cells #[.pointer (some ⟨b, 0, none⟩), v] 266 (0, 0)) := by
    rw [hgrow.block b (by simp; omega) (fun e => hne e.symm), Lib.alloc_old w1 _ b hlt]
    exact hbk
  have d0 : w2.cell? ⟨b, 0, none⟩ = some (.pointer (some ⟨b, 0, none⟩)) := by rw [Lib.cell_of_heap hbk2]; rfl
  have d1 : w2.cell? ⟨b, 1, none⟩ = some v := by rw [Lib.cell_of_heap hbk2]; rfl
  have f1 : w2.frozen? ⟨b, 1, none⟩ = false := Lib.frozen_of_heap hbk2 1
  have hbel2 := (hb1.alloc (by omega) (.cells #[.int .u8 c] 5)).grown hgrow (by simp; omega) (fun k hk => (hown.lt k hk).1)
  obtain ⟨g, cap, rfl⟩ : ∃ g cap, v' = .slice (some ⟨g, 0, none⟩) (bs.length + 1) cap := by
    rcases hown2.2 with ⟨_, h0⟩ | ⟨g, cap, cur, hv, _⟩
    · omega
    · exact ⟨g, cap, hv⟩
  clear hgrow c0 c1
  go_wp2
  go_ret
  exact ⟨rfl, Lib.BuilderAt.put hB hbk2 (bs' := bs ++ [.int .u8 c]) (by simpa using hown2) (by decide), hbel2.setCell (p := ⟨b, 1, none⟩) hB _⟩

set_option maxHeartbeats 2000000 in
set_option maxRecDepth 100000 in
theorem bd_writeString (B b : Nat) (bs : List Value) (s : ByteArray) (w : World) (h : BdIs B b bs w) (hlen : bs.length + s.size ≤ 1073741824) (hBw : B ≤ w.heap.size) :
    Calls Tryz.prog 264 #[.pointer (some ⟨b, 0, none⟩), .string s] w fun e w' => e = .returned (.tuple #[.int .i64 s.size, .nilIface]) ∧ BdAt B b (.pointer (some ⟨b, 0, none⟩)) (bs ++ Lib.strCells s) w' ∧ Below B w w' := by
  obtain ⟨i0, hi, hz0, hz1, hz2⟩ := info_parts bd_infoByte
  have hck := bd_check B b bs w h
  clear h
  go_enter Tryz.func264, Tryz.ntmps264
  go_wp2_with fail
  refine hck.mono ?_
  rintro e w1 ⟨rfl, ⟨hB, v, hbk, hown, hne⟩, hb1⟩
  have hsz := hb1.size
  have hlt : b < w1.heap.size := (Array.getElem?_eq_some_iff.1 hbk).1
  have c0 : w1.cell? ⟨b, 0, none⟩ = some (.pointer (some ⟨b, 0, none⟩)) := by rw [Lib.cell_of_heap hbk]; rfl
  have c1 : w1.cell? ⟨b, 1, none⟩ = some v := by rw [Lib.cell_of_heap hbk]; rfl
  go_wp2_with (at_builtin; refine Lib.wpList_append_own_string _ rfl _ _ 47 9 rfl B 5 i0 Tryz.underlying47 Tryz.underlying9 hi hz0 hz1 hz2 _ _ _ rfl hown s rfl ?c3 ?c4 ?c5 ?_)
  case c3 => unfold maxLen; omega
  case c4 => omega
  case c5 => omega
  intro v' w2 hown2 hgrow _
  have hbk2 : w2.heap[b]? = some (.cells #[.pointer (some ⟨b, 0, none⟩), v] 266 (0, 0)) := by
    rw [hgrow.block b hlt (fun e => hne e.symm)]
    exact hbk
  have d0 : w2.cell? ⟨b, 0, none⟩ = some (.pointer (some ⟨b, 0, none⟩)) := by rw [Lib.cell_of_heap hbk2]; rfl
  have d1 : w2.cell? ⟨b, 1, none⟩ = some v := by rw [Lib.cell_of_heap hbk2]; rfl
  have f1 : w2.frozen? ⟨b, 1, none⟩ = false := Lib.frozen_of_heap hbk2 1
  have hbel2 := hb1.grown hgrow (by omega) (fun k hk => (hown.lt k hk).1)
  obtain ⟨ao, n', cap, rfl⟩ : ∃ ao n' cap, v' = .slice ao n' cap := by
    rcases hown2.2 with ⟨hv, _⟩ | ⟨g, cap, cur, hv, _⟩
    · exact ⟨_, _, _, hv⟩
    · exact ⟨_, _, _, hv⟩
  clear hgrow c0 c1
  go_wp2
  go_ret2
  exact ⟨rfl, Lib.BuilderAt.put hB hbk2 (bs' := bs ++ Lib.strCells s) (by simpa [Lib.strCells_length] using hown2) (by decide), hbel2.setCell (p := ⟨b, 1, none⟩) hB _⟩

end Go.Proofs.YthijakidnkhbnaaGreatDoor

namespace Go.Proofs.YthijakidnkhbnaaGreatDoor
open Go.RowKit Go.Lib

set_option maxHeartbeats 400000 in
theorem id_letter (c : Int) (w : World) :
    Calls Tryz.prog 256 #[.int .u8 c] w fun e w' => e = .returned (.bool (Id.letter c)) ∧ w = w' := by
  go_enter Tryz.func256, Tryz.ntmps256
  go_wp2
  all_goals go_ret
  all_goals exact ⟨lx_ret (by first | (simp [Id.letter, Lx.upper]; done) | (simp [Id.letter, Lx.upper]; omega)), rfl⟩
set_option maxHeartbeats 400000 in
theorem id_digit (c : Int) (w : World) :
    Calls Tryz.prog 258 #[.int .u8 c] w fun e w' => e = .returned (.bool (Id.digit c)) ∧ w = w' := by
  go_enter Tryz.func258, Tryz.ntmps258
  go_wp2
  all_goals go_ret
  all_goals exact ⟨lx_ret (by first | (simp [Id.digit, Lx.digit]; done) | (simp [Id.digit, Lx.digit]; omega)), rfl⟩
set_option maxHeartbeats 400000 in
theorem id_alnum (c : Int) (w : World) :
    Calls Tryz.prog 257 #[.int .u8 c] w fun e w' => e = .returned (.bool (Id.alnum c)) ∧ w = w' := by
  have h1 := fun W => id_letter c W
  have h2 := fun W => id_digit c W
  go_enter Tryz.func257, Tryz.ntmps257
  go_wp2_with (first | (go_at_call 256; refine (h1 _).mono ?_; rintro e w' ⟨rfl, rfl⟩) | (go_at_call 258; refine (h2 _).mono ?_; rintro e w' ⟨rfl, rfl⟩))
  all_goals go_ret
  all_goals exact ⟨lx_ret (by simp_all [Id.alnum, Id.letter, Id.digit]), rfl⟩
set_option maxHeartbeats 400000 in
theorem id_refc (c : Int) (w : World) :
    Calls Tryz.prog 260 #[.int .u8 c] w fun e w' => e = .returned (.bool (Id.refc c)) ∧ w = w' := by
  have h1 := fun W => id_alnum c W
  go_enter Tryz.func260, Tryz.ntmps260
  go_wp2_with (first | (go_at_call 257; refine (h1 _).mono ?_; rintro e w' ⟨rfl, rfl⟩))
  all_goals go_ret
  all_goals exact ⟨lx_ret (by simp_all [Id.refc]), rfl⟩

theorem id_size_mk (l : List UInt8) : (ByteArray.mk l.toArray).size = l.length := by simp [ByteArray.size]
theorem byteArray_bt (s : ByteArray) (k : Nat) (h : k < s.size) : (s[k].toNat : Int) = PlainAid.bt s k := PlainAid.get_bt s k h

set_option maxRecDepth 100000 in
set_option maxHeartbeats 2000000 in
theorem id_expand (s : ByteArray) (w : World) (hs : s.size ≤ 1048576) (hal : ∀ c ∈ s.data.toList, Id.alnum (c.toNat : Int) = true) :
    Calls Tryz.prog 262 #[.string s] w fun e w' => e = .returned (.string ⟨(Id.expand s.data.toList).toArray⟩) ∧ Below w.heap.size w w' := by
  have hb := PlainAid.get_bt s
  have HAL := Lib.hid hal
  clear hal
  go_enter Tryz.func262, Tryz.ntmps262
  go_wp2_with fail
  go_loopw [7] (fun i wr => ∃ k : Nat, k ≤ s.size ∧ i = .int .i64 k ∧ Below w.heap.size w wr ∧ BdIs w.heap.size w.heap.size (Lib.byteCells (Id.expand (s.data.toList.take k))) wr) (fun i _ => s.size - (RowKit.intOf i).toNat)
  case atStart =>
    refine ⟨0, Nat.zero_le _, rfl, (Below.refl _ _).alloc (Nat.le_refl _) _, .inl ⟨Nat.le_refl _, .slice none 0 0, ?_, World.ownsRow_nil _ _ _ _, by simp [Value.ownBlock]⟩⟩
    exact heap_alloc_new w _
  case round =>
    obtain ⟨k, hk, rfl, hbel, hbd⟩ := hrel
    by_cases hlt : k < s.size
    · have hmem : s[k] ∈ s.data.toList := by
        rw [List.mem_iff_getElem]
        exact ⟨k, by rw [← Lib.size_eq]; exact hlt, by rw [Array.getElem_toList]; rfl⟩
      have hal1 := HAL.out _ hmem
      have htk : ∀ c ∈ s.data.toList.take k, Id.alnum (c.toNat : Int) = true := fun c hc => HAL.out c (List.mem_of_mem_take hc)
      have hel := Id.expand_len _ htk
      have hel2 : (s.data.toList.take k).length ≤ k := List.length_take_le _ _
      have HS := Lib.hid (Id.expand_take s k hlt)
      have hX : Hid (Id.expandC s[k] = if Id.digit (PlainAid.bt s k) then [s[k]] else Lib.decDigits (s[k].toNat - 55)) := by
        show _ = _
        rw [← hb k hlt]; rfl
      have hbc : Hid ((s[k].toNat : Int) = PlainAid.bt s k) := hb k hlt
      have b0 := PlainAid.bt_nonneg s k
      have b1 := PlainAid.bt_le s k
      have hd := fun W => id_digit (PlainAid.bt s k) W
      have hlen : (Lib.byteCells (Id.expand (s.data.toList.take k))).length ≤ 2 * k := by rw [Lib.byteCells_length]; omega
      have hnn := Lib.hid (byteArray_bt s k hlt)
      clear hmem htk hel hel2
      cases hdg : Id.digit (PlainAid.bt s k) with
      | true =>
        rw [hdg] at hd
        have HDG := Lib.hid hdg
        have hw := bd_writeByte w.heap.size w.heap.size _ (PlainAid.bt s k) wr hbd (by omega) hbel.size
        clear hdg hal1
        go_wp2_with fail
        refine (hd _).mono ?_
        rintro e w1 ⟨rfl, rfl⟩
        go_wp2_with fail
        refine hw.mono ?_
        rintro e w2 ⟨rfl, hbd2, hb2⟩
        go_wp2_with fail
        go_roundw
        case rel =>
          refine ⟨k + 1, by omega, by go_num, hbel.trans hb2, .inr ?_⟩
          rw [HS.out, hX.out, HDG.out, if_pos rfl, Lib.byteCells_append]
          rw [show Lib.byteCells [s[k]] = [.int .u8 (PlainAid.bt s k)] from by simp [Lib.byteCells, hbc.out]]
          exact hbd2
        case measure => simp [RowKit.intOf]; omega
      | false =>
        rw [hdg] at hd
        have HDG := Lib.hid hdg
        have hup : 65 ≤ PlainAid.bt s k ∧ PlainAid.bt s k ≤ 90 := by
          have h1 := hal1
          rw [hbc.out] at h1
          unfold Id.alnum Lx.upper at h1
          unfold Id.digit at hdg
          rw [hdg] at h1
          simp at h1
          exact h1
        obtain ⟨u0, u1⟩ := hup
        have hn : Hid (PlainAid.bt s k - 65 + 10 = ((s[k].toNat - 55 : Nat) : Int)) := by
          show _ = _
          have := hbc.out
          omega
        have hn100 : s[k].toNat - 55 < 100 := by have := s[k].toNat_lt; have := hbc.out; omega
        have hdl := (Id.decDigits_small _ hn100).1
        have hit := fun W => Tryz.strconv_Itoa_small (s[k].toNat - 55) hn100 W
        have hw := bd_writeString w.heap.size w.heap.size _ ⟨(Lib.decDigits (s[k].toNat - 55)).toArray⟩ wr hbd (by rw [id_size_mk]; omega) hbel.size
        clear hdg hal1 hn100 hdl
        go_wp2_with fail
        refine (hd _).mono ?_
        rintro e w1 ⟨rfl, rfl⟩
        go_wp2_with fail
        rw [hn.out]
        refine (hit _).mono ?_
        rintro e w1 ⟨rfl, rfl⟩
        go_wp2_with fail
        refine hw.mono ?_
        rintro e w2 ⟨rfl, hbd2, hb2⟩
        go_wp2_with fail
        go_roundw
        case rel =>
          refine ⟨k + 1, by omega, by go_num, hbel.trans hb2, .inr ?_⟩
          rw [HS.out, hX.out, HDG.out, if_neg (by simp), Lib.byteCells_append]
          exact hbd2
        case measure => simp [RowKit.intOf]; omega
    · obtain rfl : k = s.size := by omega
      have hst := Tryz.Builder_String_any w.heap.size w.heap.size (Id.expand (s.data.toList.take s.size)) wr hbd hbel.size
      clear hb
      go_wp2_with fail
      refine hst.mono ?_
      rintro e w2 ⟨rfl, hb2⟩
      go_wp2_with fail
      go_ret
      refine ⟨?_, hbel.trans hb2⟩
      rw [List.take_of_length_le (by rw [← Lib.size_eq]; exact Nat.le_refl _)]
      rfl

end Go.Proofs.YthijakidnkhbnaaGreatDoor

namespace Go.Proofs.YthijakidnkhbnaaGreatDoor
open Go.RowKit Go.Lib

theorem id_itoa (z : Int) (h0 : 0 ≤ z) (h1 : z < 100) (w : World) : Calls Tryz.prog 207 #[.int .i64 z] w fun e w' => e = .returned (.string ⟨(Lib.decDigits z.toNat).toArray⟩) ∧ w = w' := by
  obtain ⟨n, rfl⟩ := Int.eq_ofNat_of_zero_le h0
  refine (Tryz.strconv_Itoa_small n (by omega) w).mono ?_
  rintro e w' ⟨rfl, rfl⟩
  exact ⟨rfl, rfl⟩
theorem id_retStr {a b : List UInt8} (h : a = b) : Ending.returned (.string ⟨a.toArray⟩) = .returned (.string ⟨b.toArray⟩) := by rw [h]

set_option maxRecDepth 100000 in
set_option maxHeartbeats 2000000 in
theorem id_luhn (s : ByteArray) (w : World) (hs : s.size ≤ 1048576) (hal : ∀ c ∈ s.data.toList, Id.alnum (c.toNat : Int) = true) :
    Calls Tryz.prog 259 #[.string s] w fun e w' => e = .returned (.string ⟨(Id.luhn s.data.toList).toArray⟩) ∧ Below w.heap.size w w' := by
  have hx := id_expand s w hs hal
  have hlen := Id.expand_len _ hal
  rw [← Lib.size_eq] at hlen
  have hdig := Id.bt_digits _ (Id.expand_digits _ hal)
  have HR : Hid (Id.luhn s.data.toList = Lib.decDigits ((10 - Id.luhnS ⟨(Id.expand s.data.toList).toArray⟩ (Id.expand s.data.toList).length % 10) % 10).toNat) := rfl
  rw [← id_size_mk] at hlen HR
  generalize (⟨(Id.expand s.data.toList).toArray⟩ : ByteArray) = L at *
  have hbd := Id.luhnS_bd L hdig
  have HD := Lib.hid hdig
  have HB := Lib.hid hbd
  clear hdig hbd hal
  have hb := PlainAid.get_bt L
  go_enter Tryz.func259, Tryz.ntmps259
  go_wp2_with fail
  refine hx.mono ?_
  rintro e w1 ⟨rfl, hb1⟩
  go_wp2_with fail
  go_loopw [4, 11] (fun sm i wr => ∃ k : Nat, k ≤ L.size ∧ i = .int .i64 k ∧ wr = w1 ∧ sm = .int .i64 (Id.luhnS L k)) (fun _ i _ => L.size - (RowKit.intOf i).toNat)
  case atStart => exact ⟨0, Nat.zero_le _, rfl, rfl, rfl⟩
  case round =>
    obtain ⟨k, hk, rfl, rfl, rfl⟩ := hrel
    by_cases hlt : k < L.size
    · have d := HD.out (L.size - 1 - k) (by omega)
      obtain ⟨d0, d1⟩ := d
      obtain ⟨s0, s1⟩ := HB.out k hk
      have HS : Hid (Id.luhnS L (k + 1) = Id.luhnS L k + Id.luhnT L k) := rfl
      have HT : Hid (Id.luhnT L k = if (k : Int) % 2 = 0 then (PlainAid.bt L (L.size - 1 - k) - 48) * 2 / 10 + (PlainAid.bt L (L.size - 1 - k) - 48) * 2 % 10 else (PlainAid.bt L (L.size - 1 - k) - 48) / 10 + (PlainAid.bt L (L.size - 1 - k) - 48) % 10) := rfl
      by_cases hev : (k : Int) % 2 = 0
      · have hbe : ((k : Int) % 2 == 0) = true := by simpa using hev
        have HE := Lib.hid hev
        clear hev
        go_wp2_with fail
        go_roundw
        case rel => exact ⟨k + 1, by omega, by go_num, trivial, by rw [HS.out, HT.out, if_pos HE.out]⟩
        case measure => simp [RowKit.intOf]; omega
      · have hbe : ((k : Int) % 2 == 0) = false := by simpa using hev
        have HE := Lib.hid hev
        clear hev
        go_wp2_with fail
        go_roundw
        case rel => exact ⟨k + 1, by omega, by go_num, trivial, by rw [HS.out, HT.out, if_neg HE.out]⟩
        case measure => simp [RowKit.intOf]; omega
    · obtain rfl : k = L.size := by omega
      obtain ⟨s0, s1⟩ := HB.out L.size (Nat.le_refl _)
      clear hb
      go_wp2_with fail
      refine (id_itoa _ (by omega) (by omega) _).mono ?_
      rintro e w2 ⟨rfl, rfl⟩
      go_wp2_with fail
      go_ret
      refine ⟨id_retStr ?_, hb1⟩
      rw [HR.out]
      congr 2
      omega

set_option maxRecDepth 100000 in
set_option maxHeartbeats 2000000 in
theorem id_mod97 (s : ByteArray) (w : World) (hs : s.size ≤ 1048576) (hal : ∀ c ∈ s.data.toList, Id.alnum (c.toNat : Int) = true) :
    Calls Tryz.prog 261 #[.string s] w fun e w' => e = .returned (.string ⟨(Id.mod97 s.data.toList).toArray⟩) ∧ Below w.heap.size w w' := by
  have hx := id_expand s w hs hal
  have hlen := Id.expand_len _ hal
  rw [← Lib.size_eq] at hlen
  have hdig := Id.bt_digits (Id.expand s.data.toList ++ [48, 48]) (by
    intro x hx
    rcases List.mem_append.1 hx with h | h
    · exact Id.expand_digits _ hal x h
    · simp at h; subst h; decide)
  go_enter Tryz.func261, Tryz.ntmps261
  go_wp2_with fail
  refine hx.mono ?_
  rintro e w1 ⟨rfl, hb1⟩
  go_wp2_with fail
  have hcat : ((⟨(Id.expand s.data.toList).toArray⟩ : ByteArray) ++ ⟨#[48, 48]⟩) = ⟨(Id.expand s.data.toList ++ [48, 48]).toArray⟩ := by
    apply ByteArray.ext
    simp
  rw [hcat]
  have HR : Hid (Id.mod97 s.data.toList = if (Lib.decDigits (98 - Id.modS ⟨(Id.expand s.data.toList ++ [48, 48]).toArray⟩ ((Id.expand s.data.toList).length + 2)).toNat).length < 2 then 48 :: Lib.decDigits (98 - Id.modS ⟨(Id.expand s.data.toList ++ [48, 48]).toArray⟩ ((Id.expand s.data.toList).length + 2)).toNat
    else Lib.decDigits (98 - Id.modS ⟨(Id.expand s.data.toList ++ [48, 48]).toArray⟩ ((Id.expand s.data.toList).length + 2)).toNat) := rfl
  have hsz : (⟨(Id.expand s.data.toList ++ [48, 48]).toArray⟩ : ByteArray).size = (Id.expand s.data.toList).length + 2 := by rw [id_size_mk]; simp
  rw [← hsz] at HR
  have hsz2 : (⟨(Id.expand s.data.toList ++ [48, 48]).toArray⟩ : ByteArray).size ≤ 2 * s.size + 2 := by omega
  clear hcat hsz hlen hal hx
  generalize (⟨(Id.expand s.data.toList ++ [48, 48]).toArray⟩ : ByteArray) = L at *
  have hbd := Id.modS_bd L hdig
  have HD := Lib.hid hdig
  have HB := Lib.hid hbd
  clear hdig hbd
  go_loopw [3] (fun r wr => ∃ k : Nat, k ≤ L.size ∧ wr = w1.iter L k ∧ r = .int .i64 (Id.modS L k)) (fun _ wr => L.size - wr.iterPos w1.heap.size)
  case atStart => exact ⟨0, Nat.zero_le _, rfl, rfl⟩
  case round =>
    obtain ⟨k, hk, rfl, rfl⟩ := hrel
    obtain ⟨s0, s1⟩ := HB.out k hk
    by_cases hlt : k < L.size
    · obtain ⟨d0, d1⟩ := HD.out k hlt
      have hnx : ∀ ty, (Instr.next (.pointer (some ⟨w1.heap.size, 0, none⟩)) true ty).run Tryz.prog (w1.iter L k) = .ok (.tuple #[.bool true, .int .i64 k, .int .i32 (PlainAid.bt L k)]) (w1.iter L (k + 1)) := fun ty => by
        rw [run_next_ascii w1 L k ty hlt (by have := PlainAid.get_bt L k hlt; omega), PlainAid.get_bt L k hlt]
      have HS : Hid (Id.modS L (k + 1) = (10 * Id.modS L k + (PlainAid.bt L k - 48)) % 97) := rfl
      go_wp2_with fail
      go_roundw
      case rel => exact ⟨k + 1, by omega, rfl, by rw [HS.out]⟩
      case measure => simp; omega
    · obtain rfl : k = L.size := by omega
      have hnx : ∀ ty, (Instr.next (.pointer (some ⟨w1.heap.size, 0, none⟩)) true ty).run Tryz.prog (w1.iter L L.size) = _ := fun ty => run_next_end w1 L L.size ty hlt
      have hsm : (Lib.decDigits (98 - Id.modS L L.size).toNat).length ≤ 2 := (Id.decDigits_small _ (by omega)).1
      go_wp2_with fail
      refine (id_itoa _ (by omega) (by omega) _).mono ?_
      rintro e w2 ⟨rfl, rfl⟩
      generalize hq : Lib.decDigits (98 - Id.modS L L.size).toNat = q at *
      have HQ := Lib.hid hq
      clear hq hnx
      by_cases hq2 : q.length < 2
      · go_wp2_with fail
        go_ret
        refine ⟨?_, (hb1.alloc hb1.size _)⟩
        rw [HR.out, if_pos hq2]
        exact congrArg (fun b => Ending.returned (.string b)) (by apply ByteArray.ext; simp)
      · go_wp2_with fail
        go_ret
        refine ⟨?_, (hb1.alloc hb1.size _)⟩
        rw [HR.out, if_neg hq2]
        rfl

end Go.Proofs.YthijakidnkhbnaaGreatDoor

namespace Go.Proofs.YthijakidnkhbnaaGreatDoor
open Go.RowKit Go.Lib

theorem id_infoClass : (Tryz.prog.info? 191).map (fun i => (i.zero, i.size, i.bytes)) = some (some .nilFunc, 1, 8) := by kernel_rfl

/-- the cells of the classes of spans: each function value as often as its span is long -/
def idCells (sp : List (Nat × Nat)) : List Value := sp.flatMap fun x => List.replicate x.1 (.func (.func x.2) #[] #[])
theorem idCells_append (a b : List (Nat × Nat)) : idCells (a ++ b) = idCells a ++ idCells b := by simp [idCells]
theorem idCells_take (sp : List (Nat × Nat)) (k : Nat) (x : Nat × Nat) (h : sp[k]? = some x) : idCells (sp.take (k + 1)) = idCells (sp.take k) ++ List.replicate x.1 (.func (.func x.2) #[] #[]) := by
  obtain ⟨hk, hx⟩ := List.getElem?_eq_some_iff.1 h
  rw [List.take_succ_eq_append_getElem hk, idCells_append, hx]
  simp [idCells]
theorem idCells_take_le (sp : List (Nat × Nat)) (k : Nat) : (idCells (sp.take k)).length ≤ (idCells sp).length := by
  conv => rhs; rw [← List.take_append_drop k sp]
  rw [idCells_append]; simp

/-- a block of spans -/
def IdSpans (W : World) (sb so : Nat) (sp : List (Nat × Nat)) : Prop := ∀ (j : Nat) (x : Nat × Nat), sp[j]? = some x →
  W.cell? ⟨sb, so + j * 2, none⟩ = some (.int .i64 (x.1 : Int)) ∧ W.cell? ⟨sb, so + j * 2 + 1, none⟩ = some (.func (.func x.2) #[] #[])
theorem IdSpans.below {W W' : World} {sb so : Nat} {sp : List (Nat × Nat)} (h : IdSpans W sb so sp) (hb : Below W.heap.size W W') : IdSpans W' sb so sp := fun j x hx => by
  obtain ⟨h1, h2⟩ := h j x hx
  exact ⟨(hb.cell (p := ⟨sb, so + j * 2, none⟩) (lx_lt h1)).trans h1, (hb.cell (p := ⟨sb, so + j * 2 + 1, none⟩) (lx_lt h2)).trans h2⟩

set_option maxRecDepth 100000 in
set_option maxHeartbeats 2000000 in
theorem id_classes (a b : Int) (chk : Value) (sb so sc : Nat) (sp : List (Nat × Nat)) (w : World) (hsp : IdSpans w sb so sp) (hn : sp.length ≤ 64) (htot : (idCells sp).length ≤ 1024) (hx : ∀ x ∈ sp, x.1 ≤ 1024) :
    Calls Tryz.prog 141 #[.agg #[.int .i64 a, .slice (some ⟨sb, so, none⟩) sp.length sc, .int .i64 b, chk]] w fun e w' => ∃ v, e = .returned v ∧
      w'.ownsRow w.heap.size 191 1 v (idCells sp).length (idCells sp) ∧ Below w.heap.size w w' := by
  obtain ⟨i0, hi, hz0, hz1, hz2⟩ := info_parts id_infoClass
  have H := Lib.hid hsp
  have HX := Lib.hid hx
  clear hsp hx
  go_enter Tryz.func141, Tryz.ntmps141
  go_wp2_with fail
  go_loopw [3, 9] (fun v i wr => ∃ k : Nat, k ≤ sp.length ∧ i = .int .i64 k ∧ Below w.heap.size w wr ∧ wr.ownsRow w.heap.size 191 1 v (idCells (sp.take k)).length (idCells (sp.take k))) (fun _ i _ => sp.length - (RowKit.intOf i).toNat)
  case atStart => exact ⟨0, Nat.zero_le _, rfl, (Below.refl _ _).alloc (Nat.le_refl _) _, World.ownsRow_nil _ _ _ _⟩
  case round =>
    obtain ⟨k, hk, rfl, hbel, hown⟩ := hrel
    by_cases hlt : k < sp.length
    · have hget : sp[k]? = some sp[k] := List.getElem?_eq_getElem hlt
      have hxk := HX.out sp[k] (List.getElem_mem hlt)
      have HS := Lib.hid (idCells_take sp k _ hget)
      obtain ⟨c0, c1⟩ := (H.out.below hbel) k _ hget
      have hle := idCells_take_le sp (k + 1)
      rw [HS.out, List.length_append, List.length_replicate] at hle
      clear hget
      generalize sp[k] = x at *
      obtain ⟨n, f⟩ := x
      simp only at c0 c1 hxk hle HS
      have hsb := lx_lt c0
      obtain ⟨wo, rfl⟩ : ∃ wo : World, wo = wr := ⟨_, rfl⟩
      go_wp2_with fail
      go_loopw [3, 15] (fun v i wr => ∃ j : Nat, j ≤ n ∧ i = .int .i64 j ∧ Below w.heap.size w wr ∧ wo.heap.size < wr.heap.size ∧ wr.heap[wo.heap.size]? = some (.cells #[.int .i64 (n : Int), .func (.func f) #[] #[]] 193 (0, 0)) ∧
        wr.ownsRow w.heap.size 191 1 v ((idCells (sp.take k)).length + j) (idCells (sp.take k) ++ List.replicate j (.func (.func f) #[] #[]))) (fun _ i _ => n - (RowKit.intOf i).toNat)
      case atStart => exact ⟨0, Nat.zero_le _, rfl, hbel.alloc hbel.size _, by simp, heap_alloc_new wo _, by simpa using hown.alloc _⟩
      case round =>
        obtain ⟨j, hj, rfl, hbel2, hsz2, hblk, hown2⟩ := hrel
        have hcell : wr.cell? ⟨wo.heap.size, 1, none⟩ = some (.func (.func f) #[] #[]) := by simp [World.cell?, hblk]
        have HB := Lib.hid hblk
        clear hblk
        by_cases hj2 : j < n
        · go_wp2_with (at_builtin; refine wpList_append_own _ rfl _ _ 171 rfl w.heap.size 191 i0 _ 1 8 Tryz.underlying171 hi hz0 hz1 hz2 rfl (by decide) _ _ _ rfl (hown2.alloc _) ⟨wr.heap.size, 0, none⟩ 1 1 [.func (.func f) #[] #[]] rfl rfl ?c1 ?c2 ?c3 ?c4 ?c5 ?_)
          case c1 =>
            intro jj u hjj
            match jj, hjj with
            | 0, hjj => simp at hjj; subst hjj; simp [Addr.add]
            | jj + 1, hjj => simp at hjj
          case c2 => intro u hu; simp at hu; subst hu; rfl
          case c3 => unfold maxLen; omega
          case c4 => omega
          case c5 => have := hbel2.size; simp; omega
          intro v' w3 hown3 hgrow3 _
          have hbel3 := (hbel2.alloc hbel2.size (.cells #[.func (.func f) #[] #[]] 191)).grown hgrow3 (by have := hbel2.size; simp; omega) (fun k hk => (hown2.lt k hk).1)
          have hsz3 : wo.heap.size < w3.heap.size := by have := hgrow3.size; simp at this; omega
          have hne3 : some wo.heap.size ≠ Value.ownBlock u3 := fun e => by
            rcases hown2.2 with ⟨rfl, _⟩ | ⟨g, cap, cur, rfl, hg, hh, _⟩
            · simp [Value.ownBlock] at e
            · simp [Value.ownBlock] at e
              have := HB.out
              rw [e, hh] at this
              simp at this
          have hblk3 : w3.heap[wo.heap.size]? = some (.cells #[.int .i64 (n : Int), .func (.func f) #[] #[]] 193 (0, 0)) := by
            rw [hgrow3.block _ (by simp; omega) hne3, heap_alloc_old]
            · exact HB.out
            · exact hsz2
          have HB3 := Lib.hid hblk3
          clear hblk3 hgrow3 hne3
          go_wp2_with fail
          go_roundw
          case rel => exact ⟨j + 1, by omega, by go_num, hbel3, hsz3, HB3.out, by rw [List.replicate_succ']; simpa [Nat.add_assoc] using hown3⟩
          case measure => simp [RowKit.intOf]; omega
        · obtain rfl : j = n := by omega
          go_wp2_with fail
          go_roundw
          case rel => exact ⟨k + 1, by omega, by go_num, hbel2, by rw [HS.out, List.length_append, List.length_replicate]; exact hown2⟩
          case measure => simp [RowKit.intOf]; omega
    · obtain rfl : k = sp.length := by omega
      go_wp2_with fail
      go_ret
      rw [List.take_length] at hown
      exact ⟨_, rfl, hown, hbel⟩

/-- the functions of a list of classes, and what each of them tells -/
def IdTab (cl : List (Nat × (Int → Bool))) : Prop := ∀ x ∈ cl, LxClass x.1 x.2

/-- does a byte break its class? -/
def idBad (ps : List (Int → Bool)) (s : ByteArray) (k : Nat) : Bool := decide (k < s.size) && !((ps.getD k fun _ => true) (PlainAid.bt s k))
/-- the error of prefix: 3 a byte that breaks its class, 4 too short, 5 too long -/
def idPrefix (ps : List (Int → Bool)) (shortest : Int) (s : ByteArray) : Int :=
  if (List.range ps.length).any (idBad ps s) then 3 else if (s.size : Int) < shortest then 4 else if ps.length < s.size then 5 else 0

set_option maxRecDepth 100000 in
set_option maxHeartbeats 2000000 in
theorem id_prefix (cl : List (Nat × (Int → Bool))) (hcl : IdTab cl) (g cap : Nat) (a : Int) (s : ByteArray) (w : World) (hs : s.size ≤ 1073741824) (hn : cl.length ≤ 1024) (_ha0 : 0 ≤ a) (_ha1 : a ≤ 64)
    (hc : ∀ (k : Nat) x, cl[k]? = some x → w.cell? ⟨g, k, none⟩ = some (.func (.func x.1) #[] #[])) :
    Calls Tryz.prog 140 #[.slice (some ⟨g, 0, none⟩) cl.length cap, .int .i64 a, .string s] w fun e w' => (∃ t : Int, e = .returned (.tuple #[.int .i64 t, .int .i64 (idPrefix (cl.map (·.2)) a s)])) ∧ w = w' := by
  have HC := Lib.hid hc
  have HT := Lib.hid hcl
  clear hc hcl
  have hb := PlainAid.get_bt s
  go_enter Tryz.func140, Tryz.ntmps140
  go_wp2_with fail
  go_loop [12] (fun i => ∃ k : Nat, k ≤ cl.length ∧ i = .int .i64 k ∧ ∀ j, j < k → idBad (cl.map (·.2)) s j = false) (fun i => cl.length - (RowKit.intOf i).toNat)
  case atStart => exact ⟨0, Nat.zero_le _, rfl, fun j hj => by omega⟩
  case round =>
    obtain ⟨k, hk, rfl, hprev⟩ := hrel
    have HP := Lib.hid hprev
    clear hprev
    by_cases hlt : k < cl.length
    · have hget : cl[k]? = some cl[k] := List.getElem?_eq_getElem hlt
      have hcell := HC.out k _ hget
      obtain ⟨eg, hp⟩ := HT.out cl[k] (List.getElem_mem hlt)
      have HBAD : Hid (idBad (cl.map (·.2)) s k = (decide (k < s.size) && !(cl[k].2 (PlainAid.bt s k)))) := by
        show _ = _
        unfold idBad
        rw [List.getD_eq_getElem?_getD, List.getElem?_map, hget]
        rfl
      clear hget
      generalize cl[k] = x at *
      obtain ⟨f, p⟩ := x
      simp only at hcell eg hp HBAD
      by_cases hks : k < s.size
      · have hcall := fun W => hp (PlainAid.bt s k) W (PlainAid.bt_nonneg s k) (by have := PlainAid.bt_le s k; omega)
        clear hp
        cases hq : p (PlainAid.bt s k) with
        | true =>
          rw [hq] at hcall HBAD
          clear hq
          go_wp2_with (go_at_fn f; refine (hcall _).mono ?_; rintro e w' ⟨rfl, rfl⟩)
          go_round
          case rel =>
            refine ⟨k + 1, by omega, by go_num, fun j hj => ?_⟩
            by_cases e : j = k
            · subst e; rw [HBAD.out]; simp
            · exact HP.out j (by omega)
          case measure => simp [RowKit.intOf]; omega
        | false =>
          rw [hq] at hcall HBAD
          clear hq
          go_wp2_with (go_at_fn f; refine (hcall _).mono ?_; rintro e w' ⟨rfl, rfl⟩)
          go_ret2
          have h3 : idPrefix (cl.map (·.2)) a s = 3 := by
            unfold idPrefix
            rw [if_pos]
            rw [List.any_eq_true]
            exact ⟨k, by simpa using hlt, by rw [HBAD.out]; simpa using hks⟩
          rw [h3]
          exact ⟨⟨_, rfl⟩, rfl⟩
      · clear hp
        go_wp2_with fail
        go_round
        case rel =>
          refine ⟨k + 1, by omega, by go_num, fun j hj => ?_⟩
          by_cases e : j = k
          · subst e; rw [HBAD.out]; simp [hks]
          · exact HP.out j (by omega)
        case measure => simp [RowKit.intOf]; omega
    · obtain rfl : k = cl.length := by omega
      have HF : Hid (idPrefix (cl.map (·.2)) a s = if (s.size : Int) < a then 4 else if cl.length < s.size then 5 else 0) := by
        show _ = _
        unfold idPrefix
        rw [if_neg]
        · simp
        · rw [List.any_eq_true]
          rintro ⟨j, hj, hj2⟩
          rw [HP.out j (by simpa using hj)] at hj2
          exact absurd hj2 (by simp)
      clear hb
      by_cases h4 : (s.size : Int) < a
      · go_wp2_with fail
        go_ret2
        rw [HF.out, if_pos h4]
        exact ⟨⟨_, rfl⟩, rfl⟩
      · by_cases h5 : cl.length < s.size
        · go_wp2_with fail
          go_ret2
          rw [HF.out, if_neg (by omega), if_pos h5]
          exact ⟨⟨_, rfl⟩, rfl⟩
        · go_wp2_with fail
          go_ret2
          rw [HF.out, if_neg (by omega), if_neg (by omega)]
          exact ⟨⟨_, rfl⟩, rfl⟩

end Go.Proofs.YthijakidnkhbnaaGreatDoor

namespace Go.Proofs.YthijakidnkhbnaaGreatDoor
open Go.RowKit Go.Lib

/-- one kind: the shortest length, the spans, the length of the body, the function of the check -/
structure IdRow where
  low : Int
  sp : List (Nat × Nat)
  body : Int
  chk : Value
def idRow (k : Nat) : IdRow :=
  if k = 0 then ⟨12, [(2, 256), (9, 257), (1, 258)], 11, .func (.func 259) #[] #[]⟩
  else if k = 1 then ⟨4, [(1, 256), (7, 257)], 0, .nilFunc⟩
  else if k = 2 then ⟨1, [(16, 260)], 0, .nilFunc⟩
  else ⟨20, [(18, 257), (2, 258)], 18, .func (.func 261) #[] #[]⟩

/-- what the world holds of a kind -/
structure IdHeld (W : World) (k : Nat) (sb so sc : Nat) : Prop where
  low : W.cell? ⟨1, k * 4, none⟩ = some (.int .i64 (idRow k).low)
  spans : W.cell? ⟨1, k * 4 + 1, none⟩ = some (.slice (some ⟨sb, so, none⟩) (idRow k).sp.length sc)
  body : W.cell? ⟨1, k * 4 + 2, none⟩ = some (.int .i64 (idRow k).body)
  chk : W.cell? ⟨1, k * 4 + 3, none⟩ = some (idRow k).chk
  sp : IdSpans W sb so (idRow k).sp
def IdEnv (W : World) : Prop := ∀ k, k < 4 → ∃ sb so sc, IdHeld W k sb so sc
theorem IdEnv.below {W W' : World} (h : IdEnv W) (hb : Below W.heap.size W W') : IdEnv W' := fun k hk => by
  obtain ⟨sb, so, sc, h⟩ := h k hk
  have t : ∀ (p : Addr) (v : Value), W.cell? p = some v → p.spot = none → W'.cell? p = some v := fun p v hc hs => by
    obtain ⟨b, o, sp⟩ := p
    cases hs
    exact (hb.cell (p := ⟨b, o, none⟩) (lx_lt hc)).trans hc
  exact ⟨sb, so, sc, t _ _ h.low rfl, t _ _ h.spans rfl, t _ _ h.body rfl, t _ _ h.chk rfl, h.sp.below hb⟩

/-- the classes of a kind, with the functions that tell them -/
def idTab (k : Nat) : List (Nat × (Int → Bool)) :=
  if k = 0 then List.replicate 2 (256, Id.letter) ++ List.replicate 9 (257, Id.alnum) ++ [(258, Id.digit)]
  else if k = 1 then [(256, Id.letter)] ++ List.replicate 7 (257, Id.alnum)
  else if k = 2 then List.replicate 16 (260, Id.refc)
  else List.replicate 18 (257, Id.alnum) ++ List.replicate 2 (258, Id.digit)
theorem idTab_cells (k : Nat) (h : k < 4) : idCells (idRow k).sp = (idTab k).map fun x => .func (.func x.1) #[] #[] := by
  match k, h with
  | 0, _ => rfl
  | 1, _ => rfl
  | 2, _ => rfl
  | 3, _ => rfl
theorem idTab_len (k : Nat) : (idTab k).length ≤ 20 := by
  unfold idTab
  split
  · decide
  · split
    · decide
    · split <;> decide
theorem idRow_len (k : Nat) : (idRow k).sp.length ≤ 3 ∧ ∀ x ∈ (idRow k).sp, x.1 ≤ 18 := by
  unfold idRow
  split
  · decide
  · split
    · decide
    · split <;> decide

theorem id_class_letter : LxClass 256 Id.letter := ⟨enters_of Tryz.func256 (by kernel_rfl) rfl, fun c w _ _ => id_letter c w⟩
theorem id_class_alnum : LxClass 257 Id.alnum := ⟨enters_of Tryz.func257 (by kernel_rfl) rfl, fun c w _ _ => id_alnum c w⟩
theorem id_class_digit : LxClass 258 Id.digit := ⟨enters_of Tryz.func258 (by kernel_rfl) rfl, fun c w _ _ => id_digit c w⟩
theorem id_class_refc : LxClass 260 Id.refc := ⟨enters_of Tryz.func260 (by kernel_rfl) rfl, fun c w _ _ => id_refc c w⟩
theorem idTab_tab (k : Nat) : IdTab (idTab k) := by
  have h : ∀ x ∈ idTab k, x = (256, Id.letter) ∨ x = (257, Id.alnum) ∨ x = (258, Id.digit) ∨ x = (260, Id.refc) := by
    intro x hx
    unfold idTab at hx
    split at hx
    · simp at hx; rcases hx with h | h | h <;> simp [h]
    · split at hx
      · simp at hx; rcases hx with h | h <;> simp [h]
      · split at hx
        · simp at hx; simp [hx]
        · simp at hx; rcases hx with h | h <;> simp [h]
  intro x hx
  rcases h x hx with rfl | rfl | rfl | rfl
  · exact id_class_letter
  · exact id_class_alnum
  · exact id_class_digit
  · exact id_class_refc

/-- the error of Check: that of prefix, or 18 for wrong check digits -/
def idFits (k : Nat) (s : ByteArray) : Int := idPrefix ((idTab k).map (·.2)) (idRow k).low s
def idCheckE (k : Nat) (s : ByteArray) : Int :=
  if idFits k s ≠ 0 then idFits k s
  else if k = 0 then (if Id.luhn (s.data.toList.take 11) = s.data.toList.drop 11 then 0 else 18)
  else if k = 3 then (if Id.mod97 (s.data.toList.take 18) = s.data.toList.drop 18 then 0 else 18)
  else 0

/-- the classes in memory -/
theorem id_form {W : World} {B : Nat} {v : Value} {k : Nat} (hk : k < 4) (h : W.ownsRow B 191 1 v (idCells (idRow k).sp).length (idCells (idRow k).sp)) :
    ∃ g cap, v = .slice (some ⟨g, 0, none⟩) (idTab k).length cap ∧ ∀ (j : Nat) x, (idTab k)[j]? = some x → W.cell? ⟨g, j, none⟩ = some (.func (.func x.1) #[] #[]) := by
  rw [idTab_cells k hk, List.length_map] at h
  rcases h.2 with ⟨_, h0⟩ | ⟨g, cap, cur, rfl, hB, hh, hn, hcap, hcur, htake⟩
  · exfalso
    match k, hk with
    | 0, _ => exact absurd h0 (by decide)
    | 1, _ => exact absurd h0 (by decide)
    | 2, _ => exact absurd h0 (by decide)
    | 3, _ => exact absurd h0 (by decide)
  · refine ⟨g, cap, rfl, fun j x hx => ?_⟩
    have hc := h.cells (g := g) rfl j (.func (.func x.1) #[] #[]) (by rw [List.getElem?_map, hx]; rfl)
    have add : ∀ j, (⟨g, 0, none⟩ : Addr).add j = ⟨g, j, none⟩ := fun j => by unfold Addr.add; split <;> simp_all
    rwa [add] at hc

theorem id_low (k : Nat) : 0 ≤ (idRow k).low ∧ (idRow k).low ≤ 20 := by
  unfold idRow
  split
  · decide
  · split
    · decide
    · split <;> decide

theorem id_fty : Tryz.prog.underlying 101 = some (.func #[9] #[9] false) := by kernel_rfl
theorem id_eql_nil (d : Nat) (w : World) : (Op.equalIn (d + 1) 101 .nilFunc .nilFunc).run Tryz.prog w = .ok true w := by
  simp [Op.equalIn, run_underlying id_fty]
theorem id_eql_func (d : Nat) (w : World) (f : Fn) (a c : Array Value) : (Op.equalIn (d + 1) 101 (.func f a c) .nilFunc).run Tryz.prog w = .ok false w := by
  simp [Op.equalIn, run_underlying id_fty]
theorem id_eq_nil (w : World) : (Op.equal 101 .nilFunc .nilFunc).run Tryz.prog w = .ok true w := id_eql_nil 9999 w
theorem id_eq_func (w : World) (f : Fn) (a c : Array Value) : (Op.equal 101 (.func f a c) .nilFunc).run Tryz.prog w = .ok false w := id_eql_func 9999 w f a c
@[go_sem] theorem id_neq_nil (w : World) : (binOp .neq 101 .nilFunc .nilFunc).run Tryz.prog w = .ok (.bool false) w := by
  simp only [binOp]
  simp [id_eq_nil]
@[go_sem] theorem id_neq_func (w : World) (f : Fn) (a c : Array Value) : (binOp .neq 101 (.func f a c) .nilFunc).run Tryz.prog w = .ok (.bool true) w := by
  simp only [binOp]
  simp [id_eq_func]

set_option maxRecDepth 100000 in
set_option maxHeartbeats 2000000 in
theorem id_check_nil (k : Nat) (hk : k < 4) (hnil : (idRow k).chk = .nilFunc) (s : ByteArray) (w : World) (hs : s.size ≤ 1073741824) (h : IdEnv w) :
    Calls Tryz.prog 101 #[.int .i64 k, .string s] w fun e w' => (∃ t : Int, e = .returned (.tuple #[.int .i64 t, .int .i64 (idFits k s)])) ∧ Below w.heap.size w w' := by
  obtain ⟨sb, so, sc, c0, c1, c2, c3, hsp⟩ := h k hk
  rw [hnil] at c3
  obtain ⟨hl1, hl2⟩ := idRow_len k
  have hk4 : (k : Int) < 4 := by omega
  have htot : (idCells (idRow k).sp).length ≤ 20 := by rw [idTab_cells k hk, List.length_map]; exact idTab_len k
  have HCL := Lib.hid (fun (a b : Int) (chk : Value) (W : World) (hW : IdSpans W sb so (idRow k).sp) => id_classes a b chk sb so sc (idRow k).sp W hW (by omega) (by omega) (fun x hx => by have := hl2 x hx; omega))
  have HPF := Lib.hid (fun (g cap : Nat) (W : World) (hW : ∀ (j : Nat) x, (idTab k)[j]? = some x → W.cell? ⟨g, j, none⟩ = some (.func (.func x.1) #[] #[])) =>
    id_prefix (idTab k) (idTab_tab k) g cap (idRow k).low s W hs (by have := idTab_len k; omega) (id_low k).1 (by have := (id_low k).2; omega) hW)
  have HSP : Hid (∀ o, IdSpans (w.alloc o) sb so (idRow k).sp) := Lib.hid fun o => hsp.below ((Below.refl _ w).alloc (Nat.le_refl _) o)
  have HFM := Lib.hid (fun (W : World) (v : Value) (B : Nat) => id_form (W := W) (B := B) (v := v) hk)
  have HFIT : Hid (idFits k s = idPrefix ((idTab k).map (·.2)) (idRow k).low s) := rfl
  clear hsp hnil hl1 hl2 htot h
  generalize (idRow k).low = low at *
  generalize (idRow k).body = body at *
  generalize (idRow k).sp = sp at *
  go_enter Tryz.func101, Tryz.ntmps101
  go_wp2_with fail
  go_region_held3 (fun w' => w'.cell? ⟨w.heap.size, 0, none⟩ = some (.int .i64 low) ∧ w'.cell? ⟨w.heap.size, 1, none⟩ = some (.slice (some ⟨sb, so, none⟩) sp.length sc) ∧ w'.cell? ⟨w.heap.size, 2, none⟩ = some (.int .i64 body) ∧ w'.cell? ⟨w.heap.size, 3, none⟩ = some .nilFunc)
    (go_keep)
    (first
      | (go_at_call 141; refine (HCL.out _ _ _ _ ?_).mono ?_; (exact HSP.out _); rintro e w1 ⟨v, rfl, hown, hb1⟩; obtain ⟨g, cap, rfl, hg⟩ := HFM.out _ _ _ hown; have k0 := (hb1.cell (p := ⟨w.heap.size, 0, none⟩) (by simp)).trans (show _ = some (Value.int .i64 low) by simp); have k1 := (hb1.cell (p := ⟨w.heap.size, 1, none⟩) (by simp)).trans (show _ = some (Value.slice (some ⟨sb, so, none⟩) sp.length sc) by simp); have k2 := (hb1.cell (p := ⟨w.heap.size, 2, none⟩) (by simp)).trans (show _ = some (Value.int .i64 body) by simp); have k3 := (hb1.cell (p := ⟨w.heap.size, 3, none⟩) (by simp)).trans (show _ = some Value.nilFunc by simp); have HG := Lib.hid hg; clear hg)
      | (go_at_call 140; refine (HPF.out _ _ _ ?_).mono ?_; (exact HG.out); rintro e w2 ⟨⟨t, rfl⟩, rfl⟩))
  rw [← HFIT.out]
  obtain ⟨fit, HF⟩ : ∃ fit : Int, Hid (idFits k s = fit) := ⟨_, Lib.hid rfl⟩
  rw [HF.out]
  have hball : Below w.heap.size w w1 := Below.trans (((Below.refl w.heap.size w).alloc (Nat.le_refl _) _).drew) (hb1.mono (B' := w.heap.size) (by simp))
  clear hb1
  by_cases hfit : fit = 0
  · subst hfit
    go_wp2_with fail
    go_quiet (fail)
    go_wp2_with fail
    go_ret2
    exact ⟨⟨_, by rw [HF.out]; rfl⟩, by first | assumption | exact below_drewN' (by assumption) _⟩
  · have hbf : (fit != 0) = true := by simpa using hfit
    clear hfit
    go_wp2_with fail
    go_ret2
    exact ⟨⟨_, by rw [HF.out]; rfl⟩, hball⟩

end Go.Proofs.YthijakidnkhbnaaGreatDoor

namespace Go.Proofs.YthijakidnkhbnaaGreatDoor
open Go.RowKit Go.Lib

theorem id_S_step {w W w3 : World} {bn cf : Nat} (h : Below w.heap.size w W ∧ w.heap.size < W.heap.size ∧ W.cell? ⟨w.heap.size, 2, none⟩ = some (.int .i64 bn) ∧ W.cell? ⟨w.heap.size, 3, none⟩ = some (.func (.func cf) #[] #[])) (hb : Below W.heap.size W w3) :
    Below w.heap.size w w3 ∧ w.heap.size < w3.heap.size ∧ w3.cell? ⟨w.heap.size, 2, none⟩ = some (.int .i64 bn) ∧ w3.cell? ⟨w.heap.size, 3, none⟩ = some (.func (.func cf) #[] #[]) := by
  obtain ⟨h1, h2, h3, h4⟩ := h
  refine ⟨h1.trans (hb.mono h1.size), Nat.lt_of_lt_of_le h2 hb.size, (hb.cell (p := ⟨w.heap.size, 2, none⟩) h2).trans h3, (hb.cell (p := ⟨w.heap.size, 3, none⟩) h2).trans h4⟩

set_option maxRecDepth 100000 in
set_option maxHeartbeats 2000000 in
theorem id_check_gen (k : Nat) (hk : k < 4) (cf bn : Nat) (hchk : (idRow k).chk = .func (.func cf) #[] #[]) (hbn : (idRow k).body = (bn : Int)) (_hbn2 : bn ≤ 64) (s : ByteArray) (w : World) (hs : s.size ≤ 1073741824) (h : IdEnv w)
    (ec : ∀ args w, (callFunc cf args).run Tryz.prog w = .ok (.enter cf args) w)
    (hck : idFits k s = 0 → bn ≤ s.size ∧ ∀ W, Calls Tryz.prog cf #[.string (s.extract 0 bn)] W fun e w' => ∃ r, e = .returned (.string r) ∧ Below W.heap.size W w') :
    Calls Tryz.prog 101 #[.int .i64 k, .string s] w fun e w' => (∃ t x : Int, e = .returned (.tuple #[.int .i64 t, .int .i64 x]) ∧ (x = 0 → idFits k s = 0)) ∧ Below w.heap.size w w' := by
  obtain ⟨sb, so, sc, c0, c1, c2, c3, hsp⟩ := h k hk
  rw [hchk] at c3
  rw [hbn] at c2
  obtain ⟨hl1, hl2⟩ := idRow_len k
  have hk4 : (k : Int) < 4 := by omega
  have htot : (idCells (idRow k).sp).length ≤ 20 := by rw [idTab_cells k hk, List.length_map]; exact idTab_len k
  have HCL := Lib.hid (fun (a b : Int) (chk : Value) (W : World) (hW : IdSpans W sb so (idRow k).sp) => id_classes a b chk sb so sc (idRow k).sp W hW (by omega) (by omega) (fun x hx => by have := hl2 x hx; omega))
  have HPF := Lib.hid (fun (g cap : Nat) (W : World) (hW : ∀ (j : Nat) x, (idTab k)[j]? = some x → W.cell? ⟨g, j, none⟩ = some (.func (.func x.1) #[] #[])) =>
    id_prefix (idTab k) (idTab_tab k) g cap (idRow k).low s W hs (by have := idTab_len k; omega) (id_low k).1 (by have := (id_low k).2; omega) hW)
  have HSP : Hid (∀ o, IdSpans (w.alloc o) sb so (idRow k).sp) := Lib.hid fun o => hsp.below ((Below.refl _ w).alloc (Nat.le_refl _) o)
  have HFM := Lib.hid (fun (W : World) (v : Value) (B : Nat) => id_form (W := W) (B := B) (v := v) hk)
  have HFIT : Hid (idFits k s = idPrefix ((idTab k).map (·.2)) (idRow k).low s) := rfl
  have HCK := Lib.hid hck
  clear hsp hchk hl1 hl2 htot h hck
  generalize (idRow k).low = low at *
  generalize (idRow k).body = body at *
  generalize (idRow k).sp = sp at *
  subst hbn
  go_enter Tryz.func101, Tryz.ntmps101
  go_wp2_with fail
  go_region_held3 (fun w' => w'.cell? ⟨w.heap.size, 0, none⟩ = some (.int .i64 low) ∧ w'.cell? ⟨w.heap.size, 1, none⟩ = some (.slice (some ⟨sb, so, none⟩) sp.length sc) ∧ w'.cell? ⟨w.heap.size, 2, none⟩ = some (.int .i64 bn) ∧ w'.cell? ⟨w.heap.size, 3, none⟩ = some (.func (.func cf) #[] #[]))
    (go_keep)
    (first
      | (go_at_call 141; refine (HCL.out _ _ _ _ ?_).mono ?_; (exact HSP.out _); rintro e w1 ⟨v, rfl, hown, hb1⟩; obtain ⟨g, cap, rfl, hg⟩ := HFM.out _ _ _ hown; have k0 := (hb1.cell (p := ⟨w.heap.size, 0, none⟩) (by simp)).trans (show _ = some (Value.int .i64 low) by simp); have k1 := (hb1.cell (p := ⟨w.heap.size, 1, none⟩) (by simp)).trans (show _ = some (Value.slice (some ⟨sb, so, none⟩) sp.length sc) by simp); have k2 := (hb1.cell (p := ⟨w.heap.size, 2, none⟩) (by simp)).trans (show _ = some (Value.int .i64 bn) by simp); have k3 := (hb1.cell (p := ⟨w.heap.size, 3, none⟩) (by simp)).trans (show _ = some (Value.func (.func cf) #[] #[]) by simp); have HG := Lib.hid hg; clear hg)
      | (go_at_call 140; refine (HPF.out _ _ _ ?_).mono ?_; (exact HG.out); rintro e w2 ⟨⟨t, rfl⟩, rfl⟩))
  rw [← HFIT.out]
  obtain ⟨fit, HF⟩ : ∃ fit : Int, Hid (idFits k s = fit) := ⟨_, Lib.hid rfl⟩
  rw [HF.out]
  have hball : Below w.heap.size w w1 := Below.trans (((Below.refl w.heap.size w).alloc (Nat.le_refl _) _).drew) (hb1.mono (B' := w.heap.size) (by simp))
  have hsz1 : w.heap.size < w1.heap.size := by have := hb1.size; simp at this; omega
  clear hb1
  by_cases hfit : fit = 0
  · subst hfit
    obtain ⟨hbs, hck⟩ := HCK.out HF.out
    have HCK2 := Lib.hid hck
    clear hck
    have hbs0 : (bn : Int) ≤ (s.size : Int) := by omega
    go_wp2_with fail
    go_region_held3 (fun w' => Below w.heap.size w w' ∧ w.heap.size < w'.heap.size ∧ w'.cell? ⟨w.heap.size, 2, none⟩ = some (.int .i64 bn) ∧ w'.cell? ⟨w.heap.size, 3, none⟩ = some (.func (.func cf) #[] #[]))
      (first | assumption | exact Below.drew (by assumption) | (refine ⟨?_, ?_, ?_, ?_⟩ <;> first | assumption | exact Below.drew (by assumption) | go_keep) | go_keep)
      (first
        | (go_at_fn cf; refine (HCK2.out _).mono ?_; rintro e w3 ⟨r, rfl, hb3⟩; have hS3 := id_S_step (by assumption) hb3))
    obtain ⟨hb4, hsz4, k4, k5⟩ := hS3
    clear hb3
    generalize (r.toList == (s.extract bn s.size).toList) = q
    cases q with
    | true =>
      go_wp2_with fail
      go_ret2
      exact ⟨⟨_, 0, rfl, fun _ => HF.out⟩, hb4⟩
    | false =>
      go_wp2_with fail
      go_ret2
      exact ⟨⟨_, 18, rfl, fun _ => HF.out⟩, hb4⟩
  · have hbf : (fit != 0) = true := by simpa using hfit
    have HNE := Lib.hid hfit
    clear hfit
    go_wp2_with fail
    go_ret2
    exact ⟨⟨_, fit, rfl, fun h => absurd h HNE.out⟩, hball⟩

theorem idFits_facts (k : Nat) (s : ByteArray) (h : idFits k s = 0) : (idRow k).low ≤ (s.size : Int) ∧ s.size ≤ (idTab k).length ∧ ∀ j, j < s.size → ((idTab k).map (·.2)).getD j (fun _ => true) (PlainAid.bt s j) = true := by
  unfold idFits idPrefix at h
  split at h
  · cases h
  · rename_i hany
    split at h
    · cases h
    · rename_i h1
      split at h
      · cases h
      · rename_i h2
        rw [List.length_map] at h2
        refine ⟨by omega, by omega, fun j hj => ?_⟩
        cases hq : ((idTab k).map (·.2)).getD j (fun _ => true) (PlainAid.bt s j) with
        | true => rfl
        | false =>
          exfalso
          apply hany
          rw [List.any_eq_true]
          refine ⟨j, by rw [List.mem_range, List.length_map]; omega, ?_⟩
          unfold idBad
          rw [hq]
          simpa using hj

/-- a place of a kind with check digits: letters and digits alone -/
theorem id_tab_alnum (k : Nat) (hk : k = 0 ∨ k = 1 ∨ k = 3) (c : Int) : ∀ j, j < (idTab k).length → ((idTab k).map (·.2)).getD j (fun _ => true) c = true → Id.alnum c = true := by
  have key : ∀ p ∈ (idTab k).map (·.2), p c = true → Id.alnum c = true := by
    intro p hp hc
    have : p = Id.letter ∨ p = Id.alnum ∨ p = Id.digit := by
      rcases hk with rfl | rfl | rfl
      · simp [idTab] at hp; rcases hp with h | h | h <;> simp [h]
      · simp [idTab] at hp; rcases hp with h | h <;> simp [h]
      · simp [idTab] at hp; rcases hp with h | h <;> simp [h]
    rcases this with rfl | rfl | rfl
    · simp [Id.letter, Id.alnum] at hc ⊢; exact Or.inl hc
    · exact hc
    · simp [Id.digit, Id.alnum] at hc ⊢; exact Or.inr hc
  intro j hj h
  rw [List.getD_eq_getElem?_getD, List.getElem?_eq_getElem (by rw [List.length_map]; exact hj)] at h
  exact key _ (List.getElem_mem _) h

theorem id_body_alnum (k : Nat) (hk : k = 0 ∨ k = 1 ∨ k = 3) (s : ByteArray) (n : Nat) (h : idFits k s = 0) : ∀ c ∈ (s.extract 0 n).data.toList, Id.alnum (c.toNat : Int) = true := by
  obtain ⟨_, h2, h3⟩ := idFits_facts k s h
  intro c hc
  have hc2 : c ∈ s.data.toList := by
    rw [ByteArray.data_extract, Array.toList_extract] at hc
    exact List.mem_of_mem_take (i := n) (by simpa [List.extract_eq_take_drop] using hc)
  obtain ⟨j, hj, rfl⟩ := List.getElem_of_mem hc2
  have hjs : j < s.size := by rw [Lib.size_eq]; exact hj
  have := id_tab_alnum k hk (PlainAid.bt s j) j (by omega) (h3 j hjs)
  rwa [show PlainAid.bt s j = ((s.data.toList[j]'hj).toNat : Int) from (PlainAid.get_bt s j hjs).symm] at this

theorem id_check (k : Nat) (hk : k < 4) (s : ByteArray) (w : World) (hs : s.size ≤ 1048576) (h : IdEnv w) :
    Calls Tryz.prog 101 #[.int .i64 k, .string s] w fun e w' => (∃ t x : Int, e = .returned (.tuple #[.int .i64 t, .int .i64 x]) ∧ (x = 0 → idFits k s = 0)) ∧ Below w.heap.size w w' := by
  match k, hk with
  | 0, hk =>
    refine id_check_gen 0 hk 259 11 rfl rfl (by omega) s w (by omega) h (enters_of Tryz.func259 (by kernel_rfl) rfl) (fun h0 => ⟨?_, fun W => (id_luhn _ W ?_ (id_body_alnum 0 (Or.inl rfl) s 11 h0)).mono ?_⟩)
    · have := (idFits_facts 0 s h0).1
      simp [idRow] at this; omega
    · have : (s.extract 0 11).size ≤ s.size := by simp [ByteArray.size_extract]; omega
      omega
    · rintro e w' ⟨rfl, hb⟩; exact ⟨_, rfl, hb⟩
  | 1, hk =>
    refine (id_check_nil 1 hk rfl s w (by omega) h).mono ?_
    rintro e w' ⟨⟨t, rfl⟩, hb⟩
    exact ⟨⟨t, _, rfl, id⟩, hb⟩
  | 2, hk =>
    refine (id_check_nil 2 hk rfl s w (by omega) h).mono ?_
    rintro e w' ⟨⟨t, rfl⟩, hb⟩
    exact ⟨⟨t, _, rfl, id⟩, hb⟩
  | 3, hk =>
    refine id_check_gen 3 hk 261 18 rfl rfl (by omega) s w (by omega) h (enters_of Tryz.func261 (by kernel_rfl) rfl) (fun h0 => ⟨?_, fun W => (id_mod97 _ W ?_ (id_body_alnum 3 (Or.inr (Or.inr rfl)) s 18 h0)).mono ?_⟩)
    · have := (idFits_facts 3 s h0).1
      simp [idRow] at this; omega
    · have : (s.extract 0 18).size ≤ s.size := by simp [ByteArray.size_extract]; omega
      omega
    · rintro e w' ⟨rfl, hb⟩; exact ⟨_, rfl, hb⟩

theorem id_valid (k : Nat) (hk : k < 4) (s : ByteArray) (w : World) (hs : s.size ≤ 1048576) (h : IdEnv w) :
    Calls Tryz.prog 65 #[.int .i64 k, .string s] w fun e w' => (∃ b : Bool, e = .returned (.bool b) ∧ (b = true → idFits k s = 0)) ∧ Below w.heap.size w w' := by
  have HC := Lib.hid (id_check k hk s w hs h)
  have HP : Hid (idFits k s = idFits k s) := Lib.hid rfl
  clear h
  go_enter Tryz.func65, Tryz.ntmps65
  go_wp2_with fail
  refine HC.out.mono ?_
  rintro e w' ⟨⟨t, x, rfl, hx⟩, hb⟩
  have HX := Lib.hid hx
  clear hx
  go_wp2_with fail
  go_ret
  exact ⟨⟨_, rfl, fun hb => HX.out (by simpa using hb)⟩, hb⟩

end Go.Proofs.YthijakidnkhbnaaGreatDoor

namespace Go.Proofs.YthijakidnkhbnaaGreatDoor
open Go.RowKit Go.Lib

set_option maxRecDepth 100000 in
set_option maxHeartbeats 2000000 in
theorem idx_check_gen (k : Nat) (hk : k < 4) (cf bn : Nat) (hchk : (idRow k).chk = .func (.func cf) #[] #[]) (hbn : (idRow k).body = (bn : Int)) (_hbn2 : bn ≤ 64) (s : ByteArray) (w : World) (hs : s.size ≤ 1073741824) (h : IdEnv w) (R : ByteArray) (code : Int) (hcode : Hid (code = if idFits k s ≠ 0 then idFits k s else if (R.toList == (s.extract bn s.size).toList) = true then 0 else 18))
    (ec : ∀ args w, (callFunc cf args).run Tryz.prog w = .ok (.enter cf args) w)
    (hck : idFits k s = 0 → bn ≤ s.size ∧ ∀ W, Calls Tryz.prog cf #[.string (s.extract 0 bn)] W fun e w' => e = .returned (.string R) ∧ Below W.heap.size W w') :
    Calls Tryz.prog 101 #[.int .i64 k, .string s] w fun e w' => (∃ t : Int, e = .returned (.tuple #[.int .i64 t, .int .i64 code])) ∧ Below w.heap.size w w' := by
  obtain ⟨sb, so, sc, c0, c1, c2, c3, hsp⟩ := h k hk
  rw [hchk] at c3
  rw [hbn] at c2
  obtain ⟨hl1, hl2⟩ := idRow_len k
  have hk4 : (k : Int) < 4 := by omega
  have htot : (idCells (idRow k).sp).length ≤ 20 := by rw [idTab_cells k hk, List.length_map]; exact idTab_len k
  have HCL := Lib.hid (fun (a b : Int) (chk : Value) (W : World) (hW : IdSpans W sb so (idRow k).sp) => id_classes a b chk sb so sc (idRow k).sp W hW (by omega) (by omega) (fun x hx => by have := hl2 x hx; omega))
  have HPF := Lib.hid (fun (g cap : Nat) (W : World) (hW : ∀ (j : Nat) x, (idTab k)[j]? = some x → W.cell? ⟨g, j, none⟩ = some (.func (.func x.1) #[] #[])) =>
    id_prefix (idTab k) (idTab_tab k) g cap (idRow k).low s W hs (by have := idTab_len k; omega) (id_low k).1 (by have := (id_low k).2; omega) hW)
  have HSP : Hid (∀ o, IdSpans (w.alloc o) sb so (idRow k).sp) := Lib.hid fun o => hsp.below ((Below.refl _ w).alloc (Nat.le_refl _) o)
  have HFM := Lib.hid (fun (W : World) (v : Value) (B : Nat) => id_form (W := W) (B := B) (v := v) hk)
  have HFIT : Hid (idFits k s = idPrefix ((idTab k).map (·.2)) (idRow k).low s) := rfl
  have HCK := Lib.hid hck
  clear hsp hchk hl1 hl2 htot h hck
  generalize (idRow k).low = low at *
  generalize (idRow k).body = body at *
  generalize (idRow k).sp = sp at *
  subst hbn
  go_enter Tryz.func101, Tryz.ntmps101
  go_wp2_with fail
  go_region_held3 (fun w' => w'.cell? ⟨w.heap.size, 0, none⟩ = some (.int .i64 low) ∧ w'.cell? ⟨w.heap.size, 1, none⟩ = some (.slice (some ⟨sb, so, none⟩) sp.length sc) ∧ w'.cell? ⟨w.heap.size, 2, none⟩ = some (.int .i64 bn) ∧ w'.cell? ⟨w.heap.size, 3, none⟩ = some (.func (.func cf) #[] #[]))
    (go_keep)
    (first
      | (go_at_call 141; refine (HCL.out _ _ _ _ ?_).mono ?_; (exact HSP.out _); rintro e w1 ⟨v, rfl, hown, hb1⟩; obtain ⟨g, cap, rfl, hg⟩ := HFM.out _ _ _ hown; have k0 := (hb1.cell (p := ⟨w.heap.size, 0, none⟩) (by simp)).trans (show _ = some (Value.int .i64 low) by simp); have k1 := (hb1.cell (p := ⟨w.heap.size, 1, none⟩) (by simp)).trans (show _ = some (Value.slice (some ⟨sb, so, none⟩) sp.length sc) by simp); have k2 := (hb1.cell (p := ⟨w.heap.size, 2, none⟩) (by simp)).trans (show _ = some (Value.int .i64 bn) by simp); have k3 := (hb1.cell (p := ⟨w.heap.size, 3, none⟩) (by simp)).trans (show _ = some (Value.func (.func cf) #[] #[]) by simp); have HG := Lib.hid hg; clear hg)
      | (go_at_call 140; refine (HPF.out _ _ _ ?_).mono ?_; (exact HG.out); rintro e w2 ⟨⟨t, rfl⟩, rfl⟩))
  rw [← HFIT.out]
  obtain ⟨fit, HF⟩ : ∃ fit : Int, Hid (idFits k s = fit) := ⟨_, Lib.hid rfl⟩
  rw [HF.out]
  have hball : Below w.heap.size w w1 := Below.trans (((Below.refl w.heap.size w).alloc (Nat.le_refl _) _).drew) (hb1.mono (B' := w.heap.size) (by simp))
  have hsz1 : w.heap.size < w1.heap.size := by have := hb1.size; simp at this; omega
  clear hb1
  by_cases hfit : fit = 0
  · subst hfit
    obtain ⟨hbs, hck⟩ := HCK.out HF.out
    have HCK2 := Lib.hid hck
    clear hck
    have hbs0 : (bn : Int) ≤ (s.size : Int) := by omega
    go_wp2_with fail
    go_region_held3 (fun w' => Below w.heap.size w w' ∧ w.heap.size < w'.heap.size ∧ w'.cell? ⟨w.heap.size, 2, none⟩ = some (.int .i64 bn) ∧ w'.cell? ⟨w.heap.size, 3, none⟩ = some (.func (.func cf) #[] #[]))
      (first | assumption | exact Below.drew (by assumption) | (refine ⟨?_, ?_, ?_, ?_⟩ <;> first | assumption | exact Below.drew (by assumption) | go_keep) | go_keep)
      (first
        | (go_at_fn cf; refine (HCK2.out _).mono ?_; rintro e w3 ⟨rfl, hb3⟩; have hS3 := id_S_step (by assumption) hb3))
    obtain ⟨hb4, hsz4, k4, k5⟩ := hS3
    clear hb3
    generalize hq : (R.toList == (s.extract bn s.size).toList) = q
    have HQ : Hid (code = if q = true then 0 else 18) := Lib.hid (by rw [hcode.out, HF.out, if_neg (by simp), hq])
    clear hq
    cases q with
    | true =>
      go_wp2_with fail
      go_ret2
      rw [HQ.out]
      exact ⟨⟨_, rfl⟩, hb4⟩
    | false =>
      go_wp2_with fail
      go_ret2
      rw [HQ.out]
      exact ⟨⟨_, rfl⟩, hb4⟩
  · have hbf : (fit != 0) = true := by simpa using hfit
    have HNE := Lib.hid hfit
    clear hfit
    go_wp2_with fail
    go_ret2
    rw [hcode.out, HF.out, if_pos HNE.out]
    exact ⟨⟨_, rfl⟩, hball⟩

theorem toList_mk (l : List UInt8) : (⟨l.toArray⟩ : ByteArray).toList = l := by rw [Lib.toList_data]

theorem extract_to (s : ByteArray) (a : Nat) : (s.extract a s.size).toList = s.data.toList.drop a := by
  rw [Lib.toList_data, ByteArray.data_extract, Array.toList_extract]
  rw [List.extract_eq_take_drop]
  exact List.take_of_length_le (by rw [List.length_drop, ← Lib.size_eq]; exact Nat.le_refl _)
theorem extract_upto (s : ByteArray) (a : Nat) : (s.extract 0 a).data.toList = s.data.toList.take a := by
  rw [ByteArray.data_extract, Array.toList_extract]
  simp [List.extract_eq_take_drop]

theorem idx_check (k : Nat) (hk : k < 3) (s : ByteArray) (w : World) (hs : s.size ≤ 1048576) (h : IdEnv w) :
    Calls Tryz.prog 101 #[.int .i64 k, .string s] w fun e w' => (∃ t : Int, e = .returned (.tuple #[.int .i64 t, .int .i64 (idCheckE k s)])) ∧ Below w.heap.size w w' := by
  match k, hk with
  | 0, _ =>
    refine idx_check_gen 0 (by decide) 259 11 rfl rfl (by omega) s w (by omega) h ⟨(Id.luhn (s.data.toList.take 11)).toArray⟩ (idCheckE 0 s) (Lib.hid ?_) (enters_of Tryz.func259 (by kernel_rfl) rfl) (fun h0 => ⟨?_, fun W => (id_luhn _ W ?_ (id_body_alnum 0 (Or.inl rfl) s 11 h0)).mono ?_⟩)
    · unfold idCheckE
      rw [toList_mk, extract_to]
      simp only [if_pos, beq_iff_eq]
    · have := (idFits_facts 0 s h0).1
      simp [idRow] at this; omega
    · have : (s.extract 0 11).size ≤ s.size := by simp [ByteArray.size_extract]; omega
      omega
    · rintro e w' ⟨rfl, hb⟩
      rw [extract_upto]
      exact ⟨rfl, hb⟩
  | 1, _ =>
    have e1 : idCheckE 1 s = idFits 1 s := by unfold idCheckE; split <;> simp_all
    rw [e1]
    exact id_check_nil 1 (by decide) rfl s w (by omega) h
  | 2, _ =>
    have e1 : idCheckE 2 s = idFits 2 s := by unfold idCheckE; split <;> simp_all
    rw [e1]
    exact id_check_nil 2 (by decide) rfl s w (by omega) h

set_option maxRecDepth 100000 in
set_option maxHeartbeats 400000 in
theorem idx_validL (k : Nat) (s : ByteArray) (w : World) (x : Int) (b : Bool) (hb : (x == 0) = b)
    (n1 : Calls Tryz.prog 101 #[.int .i64 k, .string s] w fun e w' => (∃ t : Int, e = .returned (.tuple #[.int .i64 t, .int .i64 x])) ∧ Below w.heap.size w w') :
    Calls Tryz.prog 65 #[.int .i64 k, .string s] w fun e w' => e = .returned (.bool b) ∧ Below w.heap.size w w' := by
  go_enter Tryz.func65, Tryz.ntmps65
  go_wp2_with fail
  refine n1.mono ?_
  rintro e w' ⟨⟨t, rfl⟩, hb2⟩
  clear n1
  go_wp2_with fail
  go_ret
  exact ⟨by simp, hb2⟩

theorem idx_valid (k : Nat) (hk : k < 3) (s : ByteArray) (w : World) (hs : s.size ≤ 1048576) (h : IdEnv w) :
    Calls Tryz.prog 65 #[.int .i64 k, .string s] w fun e w' => e = .returned (.bool (idCheckE k s == 0)) ∧ Below w.heap.size w w' :=
  idx_validL k s w _ _ rfl (idx_check k hk s w hs h)

end Go.Proofs.YthijakidnkhbnaaGreatDoor
