/-
  record.table, Extend, Checksum: the checksum in memory.
  record.Extend, Checksum, word, Encode: a record in memory.
  record.word, Checksum, Encode: a record in memory.
  record.Encode: a record in memory.
-/
import Derived.Test.YtamencnachmhoaaGreatDoorWlRecs
import Derived.Test.YtamencnachmhoaaGreatDoorDkFile2
import Derived.Deep.WholeRow
import Derived.Laws.BitsAllLaws
import Derived.Test.YtamencnachmhoaaGreatDoorRfApply

namespace Go.Proofs.YtamencnachmhoaaGreatDoor
open Go.RowKit

namespace Wl
theorem crcBits_next : ∀ (n x : Nat), crcBits (n + 1) x = crcBit (crcBits n x)
  | 0, _ => rfl
  | n + 1, x => by rw [crcBits, crcBits_next n (crcBit x)]; rfl
/-- the table with its first k entries laid -/
def tabPart (k : Nat) : Array Value := ((List.range 256).map fun i => Value.int .u32 ((if i < k then crcTab i else 0 : Nat) : Int)).toArray
theorem tabPart_size (k : Nat) : (tabPart k).size = 256 := by unfold tabPart; simp
theorem tabPart_get (k i : Nat) (h : i < 256) : (tabPart k)[i]? = some (.int .u32 ((if i < k then crcTab i else 0 : Nat) : Int)) := by
  unfold tabPart
  rw [List.getElem?_toArray, List.getElem?_map, List.getElem?_range h]
  rfl
theorem tabPart_zero : tabPart 0 = Array.replicate 256 (.int .u32 0) := by kernel_rfl
theorem tabPart_step (k : Nat) (h : k < 256) : (tabPart k).setIfInBounds k (.int .u32 (crcTab k : Int)) = tabPart (k + 1) := by
  apply Array.ext_getElem?
  intro i
  rw [Array.getElem?_setIfInBounds]
  by_cases hi : i < 256
  · rw [tabPart_get _ _ hi, tabPart_get _ _ hi]
    by_cases hk : k = i
    · subst hk
      rw [if_pos rfl, if_pos (by rw [tabPart_size]; exact h), if_pos (by omega)]
    · rw [if_neg hk]
      congr 3
      by_cases h1 : i < k
      · rw [if_pos h1, if_pos (by omega)]
      · rw [if_neg h1, if_neg (by omega)]
  · have h1 : (tabPart k)[i]? = none := Array.getElem?_eq_none (by rw [tabPart_size]; omega)
    have h2 : (tabPart (k + 1))[i]? = none := Array.getElem?_eq_none (by rw [tabPart_size]; omega)
    rw [if_neg (by omega), h1, h2]
theorem tabPart_one (k : Nat) : (tabPart k).all (·.oneCell') = true := by
  rw [Array.all_eq_true]
  intro i hi
  rw [tabPart_size] at hi
  have := tabPart_get k i hi
  rw [Array.getElem?_eq_getElem (by rw [tabPart_size]; exact hi)] at this
  rw [Option.some.inj this]
  rfl
end Wl

theorem run_storeCells_row {P : Program} (w : World) (g : Nat) (t : TypeId) (c c' : Array Value) (hg : w.heap[g]? = some (.cells c t (0, 0))) (hi : (P.info? t).map (·.size) = some c'.size) (ho : c.size = c'.size) (h1 : c'.all (·.oneCell') = true) :
    (storeCells ⟨g, 0, none⟩ c'.toList 0).run P w = .ok () (w.setRow g c') := by
  have := run_storeVar_row (P := P) w g t t c c' hg hi ho h1
  cases hq : P.info? t with
  | none => simp [hq] at hi
  | some i =>
    have hs : c'.size = i.size := by simp [hq] at hi; omega
    simpa [storeVar, sizeOf, typeInfo, hq, Value.cells, hs] using this

set_option maxRecDepth 100000 in
set_option maxHeartbeats 1000000 in
theorem rec_table (W : World) : Calls Tryz.prog 159 #[] W fun e W' => e = .returned (.agg (Wl.tabPart 256)) ∧ Below W.heap.size W W' := by
  obtain ⟨hz, hi⟩ := zero_of_info (P := Tryz.prog) (t := 215) (v := .agg (Array.replicate 256 (.int .u32 0))) (n := 256) (by kernel_rfl)
  rw [← Wl.tabPart_zero] at hz
  go_enter Tryz.func159, Tryz.ntmps159
  go_wp2_with fail
  obtain ⟨WA, hWA⟩ : ∃ WA, WA = W.alloc (.cells (Wl.tabPart 0) 215) := ⟨_, rfl⟩
  rw [← hWA]
  have hsz : WA.heap.size = W.heap.size + 1 := by rw [hWA]; simp
  have HWA := Lib.hid hWA
  clear hWA
  go_loopw [5] (fun iv wr => ∃ k : Nat, iv = .int .i64 k ∧ k ≤ 256 ∧ wr = WA.alloc (.cells (Wl.tabPart k) 215)) (fun iv _ => 256 - (RowKit.intOf iv).toNat)
  case atStart => exact ⟨0, rfl, by decide, rfl⟩
  case round =>
    obtain ⟨k, rfl, hk, rfl⟩ := hrel
    by_cases hlt : k < 256
    · have hk32 : (k : Int) % 4294967296 = k := by omega
      go_wp2_with fail
      go_loopw [3, 10] (fun xv jv wr => ∃ j : Nat, jv = .int .i64 j ∧ j ≤ 8 ∧ xv = .int .u32 ((Wl.crcBits j k : Nat) : Int) ∧ wr = WA.alloc (.cells (Wl.tabPart k) 215)) (fun _ jv _ => 8 - (RowKit.intOf jv).toNat)
      case atStart => exact ⟨0, rfl, by decide, rfl, rfl⟩
      case round =>
        obtain ⟨j, rfl, hj, rfl, rfl⟩ := hrel
        by_cases hjl : j < 8
        · have hx := Wl.crcBits_lt j (x := k) (by omega)
          have hnx := Wl.crcBits_next j k
          obtain ⟨x, hxe⟩ : ∃ x, x = Wl.crcBits j k := ⟨_, rfl⟩
          rw [← hxe] at hx hnx ⊢
          have ha : bits .and .u32 (x : Int) 1 = ((x % 2 : Nat) : Int) := by
            have := u32_and_nat x 1 hx (by decide)
            rw [Nat.and_one_is_mod] at this
            exact this
          have hb : bits .xor .u32 ((x : Int) / 2) 2197175160 = ((x / 2 ^^^ 2197175160 : Nat) : Int) := u32_xor_nat (x / 2) 2197175160 (by omega) (by decide)
          have HNX := Lib.hid hnx
          clear hnx hxe
          rcases Nat.mod_two_eq_zero_or_one x with h2 | h2
          all_goals
            rw [h2] at ha
            go_wp2_with fail
            refine ⟨⟨j + 1, by go_num, by omega, ?_, trivial⟩, by simp [RowKit.intOf]; omega⟩
            rw [HNX.out]
            unfold Wl.crcBit
            rw [h2]
            simp
        · obtain rfl : j = 8 := by omega
          have hrow := heap_alloc_new WA (.cells (Wl.tabPart k) 215)
          rw [hsz] at hrow
          have hc : (WA.alloc (.cells (Wl.tabPart k) 215)).cell? ⟨W.heap.size + 1, k, none⟩ = some (.int .u32 0) := by
            rw [cell_of_row _ _ _ _ _ _ hrow, Wl.tabPart_get k k hlt, if_neg (Nat.lt_irrefl k)]
            rfl
          have hf : (WA.alloc (.cells (Wl.tabPart k) 215)).frozen? ⟨W.heap.size + 1, k, none⟩ = false := dk_frozen _ _ _ _ _ hrow
          clear hrow
          go_wp2_with fail
          exact ⟨⟨k + 1, by go_num, by omega, congrArg (fun c => WA.alloc (.cells c 215)) (Wl.tabPart_step k hlt)⟩, by simp [RowKit.intOf]; omega⟩
    · obtain rfl : k = 256 := by omega
      have hrB := heap_alloc_new WA (.cells (Wl.tabPart 256) 215)
      rw [hsz] at hrB
      have hrA : (WA.alloc (.cells (Wl.tabPart 256) 215)).heap[W.heap.size]? = some (.cells (Wl.tabPart 0) 215 (0, 0)) := by
        have hb : Below WA.heap.size WA (WA.alloc (.cells (Wl.tabPart 256) 215)) := (Below.refl _ _).alloc (Nat.le_refl _) _
        rw [hb.block _ (by omega), HWA.out]
        exact heap_alloc_new W _
      have hB : Below W.heap.size W (WA.alloc (.cells (Wl.tabPart 256) 215)) := by
        have h1 : Below W.heap.size W WA := by rw [HWA.out]; exact (Below.refl _ _).alloc (Nat.le_refl _) _
        exact h1.alloc (by omega) _
      generalize WA.alloc (.cells (Wl.tabPart 256) 215) = w at *
      have hrC := setRow_heap w W.heap.size (Wl.tabPart 0) (Wl.tabPart 256) _ _ hrA
      have HB := Lib.hid (below_setRow hB (Nat.le_refl _) (Wl.tabPart 256))
      have HRC := Lib.hid hrC
      have HRA := Lib.hid hrA
      have HRB := Lib.hid hrB
      have hi' : (Tryz.prog.info? 215).map (·.size) = some (Wl.tabPart 256).size := by rw [Wl.tabPart_size]; exact hi
      clear hrA hrB hrC hB HWA hsz hk hlt hz hi
      go_wp2_with fail
      refine wp_load_row _ _ rfl _ rfl _ _ _ _ HRB.out Tryz.underlying215 rfl hi' ?_
      go_wp2_with fail
      have hsc := run_storeCells_row (P := Tryz.prog) w W.heap.size 215 (Wl.tabPart 0) (Wl.tabPart 256) HRA.out hi' (by rw [Wl.tabPart_size, Wl.tabPart_size]) (Wl.tabPart_one 256)
      rw [hsc, Result.andThen_ok, Oper.upon_skip]
      go_wp2_with fail
      have hr : ∀ tmps : Array Value, tmps.getD 0 undef = .pointer (some ⟨W.heap.size, 0, none⟩) → (results Tryz.f159 tmps).run Tryz.prog (w.setRow W.heap.size (Wl.tabPart 256)) = .ok (.agg (Wl.tabPart 256)) (w.setRow W.heap.size (Wl.tabPart 256)) :=
        fun tmps ht => results_cell_row rfl tmps _ _ _ _ _ _ ht HRC.out Tryz.underlying215 rfl hi'
      refine bodyPost_ret (v := .agg (Wl.tabPart 256)) ?_ ?_ ?_
      · exact hr _ rfl
      · rfl
      · exact ⟨rfl, HB.out⟩

end Go.Proofs.YtamencnachmhoaaGreatDoor

namespace Go.Proofs.YtamencnachmhoaaGreatDoor
open Go.RowKit

theorem u32_ones (n : Nat) (h : n < 4294967296) : 4294967295 ^^^ n = Wl.crcNot n := by
  unfold Wl.crcNot
  have e : (4294967295 : Nat) = 2 ^ 32 - 1 := rfl
  apply Nat.eq_of_testBit_eq
  intro i
  rw [Nat.testBit_xor, e, Nat.testBit_two_pow_sub_one]
  have h2 : 2 ^ 32 - 1 - n = 2 ^ 32 - (n + 1) := by omega
  rw [h2, Nat.testBit_two_pow_sub_succ (by omega)]
  by_cases hi : i < 32
  · simp [hi]
  · have : n.testBit i = false := Nat.testBit_lt_two_pow (Nat.lt_of_lt_of_le h (Nat.pow_le_pow_right (n := 2) (by decide) (by omega : 32 ≤ i)))
    simp [hi, this]
theorem u32_not (n : Nat) (h : n < 4294967296) : bits .xor .u32 IntKind.u32.max (n : Int) = ((Wl.crcNot n : Nat) : Int) := by
  have := u32_xor_nat 4294967295 n (by decide) h
  rw [u32_ones n h] at this
  exact this
/-- a byte of a slice that is read -/
theorem RdB.at {W : World} {B : Nat} {a : Option Addr} {n cap : Nat} {l : Dk.Bs} (h : RdB W B (.slice a n cap) l) (k : Nat) (hk : k < l.length) :
    ∃ g off, a = some ⟨g, off, none⟩ ∧ W.cell? ⟨g, off + k, none⟩ = some (.int .u8 (l[k]).toNat) := by
  rcases h with ⟨rfl, _⟩ | ⟨g, off, cap', hv, _, _, _, hx⟩
  · simp at hk
  · injection hv with e1 e2 e3
    exact ⟨g, off, e1, hx k _ (List.getElem?_eq_getElem hk)⟩

set_option maxRecDepth 100000 in
set_option maxHeartbeats 1000000 in
theorem rec_Extend (W : World) (sum : Nat) (hs : sum < 4294967296) (bv : Value) (b : Wl.Bs) (hb : RdB W W.heap.size bv b) (hl : b.length ≤ 9223372036854775807) :
    Calls Tryz.prog 94 #[.int .u32 sum, bv] W fun e W' => e = .returned (.int .u32 (Wl.ext sum b)) ∧ Below W.heap.size W W' := by
  have nT := rec_table
  obtain ⟨a, cap, rfl⟩ := hb.form
  have HB := Lib.hid hb
  obtain ⟨hz, hi⟩ := zero_of_info (P := Tryz.prog) (t := 215) (v := .agg (Array.replicate 256 (.int .u32 0))) (n := 256) (by kernel_rfl)
  rw [← Wl.tabPart_zero] at hz
  clear hb
  go_enter Tryz.func94, Tryz.ntmps94
  go_wp2_with (go_at_call 159; refine (nT _).mono ?_; rintro e w1 ⟨rfl, hb1⟩)
  have hi' : (Tryz.prog.info? 215).map (·.size) = some (Wl.tabPart 256).size := by rw [Wl.tabPart_size]; exact hi
  have hsc := run_storeCells_new (P := Tryz.prog) w1 215 (Wl.tabPart 0) (Wl.tabPart 256) hi' (by rw [Wl.tabPart_size, Wl.tabPart_size]) (Wl.tabPart_one 256)
  rw [hsc, Result.andThen_ok, Oper.upon_skip, u32_not sum hs]
  have hrow := heap_alloc_new w1 (.cells (Wl.tabPart 256) 215)
  have hB : Below W.heap.size W (w1.alloc (.cells (Wl.tabPart 256) 215)) := hb1.alloc hb1.size _
  have HR := Lib.hid (HB.out.below hB)
  generalize w1.alloc (.cells (Wl.tabPart 256) 215) = w2 at *
  obtain ⟨tb, htb⟩ : ∃ tb, tb = w1.heap.size := ⟨_, rfl⟩
  rw [← htb] at hrow ⊢
  have HROW := Lib.hid hrow
  have HBW := Lib.hid hB
  clear hsc hi' hz hi hb1 htb hrow hB HB
  go_wp2_with fail
  go_loopw [5, 14] (fun xv iv wr => ∃ k : Nat, iv = .int .i64 k ∧ k ≤ b.length ∧ xv = .int .u32 ((Wl.crcRun (Wl.crcNot sum) (b.take k) : Nat) : Int) ∧ wr = w2) (fun _ iv _ => b.length - (RowKit.intOf iv).toNat)
  case atStart => exact ⟨0, rfl, Nat.zero_le _, by rw [List.take_zero]; rfl, rfl⟩
  case round =>
    obtain ⟨k, rfl, hk, rfl, rfl⟩ := hrel
    by_cases hlt : k < b.length
    · obtain ⟨g, off, rfl, hcell⟩ := HR.out.at k hlt
      have hx := Wl.crcRun_lt (b.take k) (Wl.crcNot_lt sum)
      have HST : Hid (Wl.crcRun (Wl.crcNot sum) (b.take (k + 1)) = Wl.crcStep (Wl.crcRun (Wl.crcNot sum) (b.take k)) b[k]) := Lib.hid (by
        rw [List.take_succ_eq_append_getElem hlt, Wl.crcRun_append]; rfl)
      generalize Wl.crcRun (Wl.crcNot sum) (b.take k) = x at *
      obtain ⟨c, hce⟩ : ∃ c, c = b[k] := ⟨_, rfl⟩
      rw [← hce] at hcell HST
      have hc := UInt8.toNat_lt c
      obtain ⟨i, hie⟩ : ∃ i, i = (x % 256) ^^^ c.toNat := ⟨_, rfl⟩
      have hi256 : i < 256 := by rw [hie]; exact Wl.crc_index_lt x c
      have hI : bits .xor .u8 ((x : Int) % 256) (c.toNat : Int) = ((i : Nat) : Int) := by
        rw [hie]; exact u8_xor_nat (x % 256) c.toNat (by omega) hc
      have ht : wr.cell? ⟨tb, i, none⟩ = some (.int .u32 ((Wl.crcTab i : Nat) : Int)) := by
        rw [cell_of_row _ _ _ _ _ _ HROW.out, Wl.tabPart_get 256 i hi256, if_pos hi256]
      have hX : bits .xor .u32 ((x : Int) / 256) ((Wl.crcTab i : Nat) : Int) = ((Wl.crcStep x c : Nat) : Int) := by
        rw [hie]; exact u32_xor_nat (x / 256) (Wl.crcTab ((x % 256) ^^^ c.toNat)) (by omega) (Wl.crcTab_lt (by rw [← hie]; omega))
      clear hie hce
      go_wp2_with fail
      exact ⟨⟨k + 1, by go_num, by omega, by rw [HST.out], trivial⟩, by simp [RowKit.intOf]; omega⟩
    · obtain rfl : k = b.length := by omega
      rw [List.take_length]
      have hN := u32_not (Wl.crcRun (Wl.crcNot sum) b) (Wl.crcRun_lt b (Wl.crcNot_lt sum))
      go_wp2_with fail
      go_ret
      exact ⟨rfl, HBW.out⟩

end Go.Proofs.YtamencnachmhoaaGreatDoor

namespace Go.Proofs.YtamencnachmhoaaGreatDoor
open Go.RowKit

/-- bytes appended to a row of the call's own -/
theorem bytes_append {w : World} {B : Nat} {v v2 : Value} {l0 l : Dk.Bs} (hown : w.ownsRow B 5 1 v l0.length (dkCells l0)) (h : RdB w w.heap.size v2 l) (hl : l0.length + l.length ≤ 140737488355328) (hB : B ≤ w.heap.size) (ty : TypeId) :
    ∃ v' w', (Builtin.append_ #[22, 22] ty #[v, v2]).run Tryz.prog w = .ok v' w' ∧ w'.ownsRow B 5 1 v' (l0 ++ l).length (dkCells (l0 ++ l)) ∧ w.grownBy w' v.ownBlock := by
  obtain ⟨i0, hi, hz0, hz1, hz2⟩ := info_parts dk_infoByte
  obtain ⟨a, c, rfl, h0, hs⟩ := h.source
  obtain ⟨v', w', hr, ho, hg⟩ := rf_append 22 ty 5 i0 (.int .u8 0) 1 1 Tryz.underlying22 hi hz0 hz1 hz2 rfl (by decide) B v l0.length (dkCells l0) hown
    a l.length c (dkCells l) (by simp [dkCells_length]) (fun ad ha => hs _ (Below.refl _ _) ad ha) h0 (dkCells_one l) (by unfold maxLen; omega) (by omega) hB
  rw [← dkCells_append, ← List.length_append] at ho
  exact ⟨v', w', hr, ho, hg⟩

set_option maxRecDepth 100000 in
set_option maxHeartbeats 1000000 in
theorem rec_word (W : World) (n : Nat) (hn : n < 4294967296) :
    Calls Tryz.prog 93 #[.int .u32 n] W fun e W' => ∃ v, e = .returned v ∧ W'.ownsRow W.heap.size 5 1 v (Wl.word n).length (dkCells (Wl.word n)) ∧ Below W.heap.size W W' := by
  go_enter Tryz.func93, Tryz.ntmps93
  go_wp2_with fail
  go_ret
  refine ⟨_, rfl, ⟨by simp [dkCells_length], .inr ⟨W.heap.size, 4, _, rfl, Nat.le_refl _, heap_alloc_new _ _, Nat.le_refl _, by decide, rfl, ?_⟩⟩, (Below.refl _ _).alloc (Nat.le_refl _) _⟩
  simp [Wl.word, Lib.byteCells]
  omega

set_option maxRecDepth 100000 in
set_option maxHeartbeats 1000000 in
theorem rec_Checksum (W : World) (bv : Value) (b : Wl.Bs) (hb : RdB W W.heap.size bv b) (hl : b.length ≤ 9223372036854775807) :
    Calls Tryz.prog 95 #[bv] W fun e W' => e = .returned (.int .u32 (Wl.ext 0 b)) ∧ Below W.heap.size W W' := by
  have nE := rec_Extend W 0 (by decide) bv b hb hl
  go_enter Tryz.func95, Tryz.ntmps95
  go_wp2_with fail
  refine nE.mono ?_
  rintro e w1 ⟨rfl, b1⟩
  go_wp2_with fail
  go_ret
  exact ⟨rfl, b1⟩

end Go.Proofs.YtamencnachmhoaaGreatDoor

namespace Go.Proofs.YtamencnachmhoaaGreatDoor
open Go.RowKit

theorem owns_below {W W' : World} {B : Nat} {t : TypeId} {sz : Nat} {v : Value} {n : Nat} {xs : List Value} (h : W.ownsRow B t sz v n xs) (hb : Below W.heap.size W W') : W'.ownsRow B t sz v n xs :=
  h.kept (row := none) ⟨hb.os, hb.tape, hb.output, hb.size, fun k hk _ => hb.block k hk⟩ (by cases v.ownBlock <;> simp)

set_option maxRecDepth 100000 in
set_option maxHeartbeats 1000000 in
theorem rec_Encode (W : World) (bv : Value) (p : Wl.Bs) (hb : RdB W W.heap.size bv p) (hl : p.length ≤ 1048576) :
    Calls Tryz.prog 40 #[bv] W fun e W' => ∃ v, e = .returned (.tuple #[v, .int .i64 0]) ∧ W'.ownsRow W.heap.size 5 1 v (Wl.enc p).length (dkCells (Wl.enc p)) ∧ Below W.heap.size W W' := by
  have n1 := rec_word W p.length (by omega)
  have hp : (p.length : Int) % 4294967296 = p.length := by omega
  have hp2 : ¬ (1048576 < (p.length : Int)) := by omega
  obtain ⟨a, cap, rfl⟩ := hb.form
  have HB := Lib.hid hb
  clear hb
  go_enter Tryz.func40, Tryz.ntmps40
  go_wp2_with fail
  refine n1.mono ?_
  rintro e w1 ⟨v1, rfl, o1, b1⟩
  have n2 := rec_Checksum w1 v1 (Wl.word p.length) (RdB.of_own o1) (by rw [Wl.word_length]; omega)
  have O1 := Lib.hid o1
  clear n1 o1
  obtain ⟨v1, rfl⟩ : ∃ x, x = v1 := ⟨_, rfl⟩
  go_wp2_with fail
  refine n2.mono ?_
  rintro e w2 ⟨rfl, b2⟩
  have hB2 := b1.trans (b2.mono b1.size)
  have n3 := rec_Extend w2 (Wl.ext 0 (Wl.word p.length)) (Wl.ext_lt _ _) _ p ((HB.out.below hB2).mono hB2.size) (by omega)
  have O2 := Lib.hid (owns_below O1.out b2)
  clear n2 b1 b2 O1
  go_wp2_with fail
  refine n3.mono ?_
  rintro e w3 ⟨rfl, b3⟩
  have hB3 := hB2.trans (b3.mono hB2.size)
  have n4 := rec_word w3 (Wl.ext (Wl.ext 0 (Wl.word p.length)) p) (Wl.ext_lt _ _)
  have O3 := Lib.hid (owns_below O2.out b3)
  clear n3 b3 hB2 O2
  go_wp2_with fail
  refine n4.mono ?_
  rintro e w4 ⟨v4, rfl, o4, b4⟩
  have hB4 := hB3.trans (b4.mono hB3.size)
  obtain ⟨v5, w5, r5, o5, g5⟩ := bytes_append (owns_below O3.out b4) (RdB.of_own o4) (by rw [Wl.word_length, Wl.word_length]; omega) hB4.size 22
  have hB5 := hB4.grown g5 hB4.size (fun k hk => ((owns_below O3.out b4).lt k hk).1)
  obtain ⟨v6, w6, r6, o6, g6⟩ := bytes_append o5 ((HB.out.below hB5).mono hB5.size) (by rw [List.length_append, Wl.word_length, Wl.word_length]; omega) hB5.size 22
  have hB6 := hB5.grown g6 hB5.size (fun k hk => (o5.lt k hk).1)
  have R5 := Lib.hid r5
  have R6 := Lib.hid r6
  have he : Wl.word p.length ++ Wl.word (Wl.ext (Wl.ext 0 (Wl.word p.length)) p) ++ p = Wl.enc p := List.append_assoc _ _ _
  rw [he] at o6
  have O6 := Lib.hid o6
  clear he n4 r5 r6 o5 o6 g5 g6 hB5 o4 b4 hB3 O3 hB4
  go_wp2_with (at_builtin; first | refine Lib.wpList_append_run _ rfl _ _ _ _ rfl _ _ rfl rfl _ _ R5.out ?_ | refine Lib.wpList_append_run _ rfl _ _ _ _ rfl _ _ rfl rfl _ _ R6.out ?_)
  go_ret2
  exact ⟨_, rfl, O6.out, hB6⟩

end Go.Proofs.YtamencnachmhoaaGreatDoor
