/-
  slices.Equal of links and none.
  An empty instruction, by Equal.
  (message.Request).Check: its contract, given (message.Instruction).Check's.
  (message.Instruction).Check: its contract; Parse's contract without premise.
-/
import Derived.Test.YthijakidnkhbnaaGreatDoorPsChk2
import Derived.Test.YthijakidnkhbnaaGreatDoorPsChkQ
import Derived.Test.YthijakidnkhbnaaGreatDoorPsChk6
import Derived.Test.YthijakidnkhbnaaGreatDoorPsChk3
import Derived.Test.YthijakidnkhbnaaGreatDoorPsParse
import Derived.Test.YthijakidnkhbnaaGreatDoorPsChk8

namespace Go.Proofs.YthijakidnkhbnaaGreatDoor
open Go.RowKit

set_option maxRecDepth 100000 in
set_option maxHeartbeats 1000000 in
theorem lk_eqNo (w : World) (a : Option Addr) (n c : Nat) (hn : n ≠ 0) :
    Calls Tryz.prog 83 #[.slice a n c, .slice none 0 0] w fun e w' => e = .returned (.bool false) ∧ Below w.heap.size w w' := by
  go_enter Tryz.func83, Tryz.ntmps83
  have hn2 : ((n : Int) != 0) = true := by simp [hn]
  go_wp2_with fail
  go_ret
  exact ⟨rfl, Below.refl _ _⟩
set_option maxRecDepth 100000 in
set_option maxHeartbeats 1000000 in
theorem lk_eqNil (w : World) (a : Option Addr) (c : Nat) :
    Calls Tryz.prog 83 #[.slice a 0 c, .slice none 0 0] w fun e w' => e = .returned (.bool true) ∧ Below w.heap.size w w' := by
  go_enter Tryz.func83, Tryz.ntmps83
  go_wp2_with fail
  go_loopw [5, 13] (fun _ iv wr => iv = .int .i64 0 ∧ wr = w) (fun _ _ _ => 0)
  case atStart => exact ⟨rfl, rfl⟩
  case round =>
    obtain ⟨rfl, rfl⟩ := hrel
    go_wp2_with fail
    go_ret
    exact ⟨rfl, Below.refl _ _⟩
theorem lk_eqNone (w : World) (a : Option Addr) (n c : Nat) :
    Calls Tryz.prog 83 #[.slice a n c, .slice none 0 0] w fun e w' => e = .returned (.bool (n == 0)) ∧ Below w.heap.size w w' := by
  by_cases h : n = 0
  · subst h; exact lk_eqNil w a c
  · rw [show (n == 0) = false from by simp [h]]; exact lk_eqNo w a n c h
end Go.Proofs.YthijakidnkhbnaaGreatDoor

namespace Go.Proofs.YthijakidnkhbnaaGreatDoor
open Go.RowKit

theorem eq_none (i : Ps.Ins) : insEqB i {} (i.links.length == 0) = decide i.none := by
  rw [Bool.eq_iff_iff, decide_eq_true_iff]
  unfold insEqB Ps.Ins.none
  simp only [Bool.and_eq_true, strE]
  simp only [beq_iff_eq, and_assoc]

theorem ins_isNone (w : World) (i : Ps.Ins) (sa : Option Addr) (sc : Nat) :
    Calls Tryz.prog 45 #[.agg (insCells i (.slice sa i.links.length sc)).toArray, .agg (insCells {} (.slice none 0 0)).toArray] w fun e w' => e = .returned (.bool (decide i.none)) ∧ Below w.heap.size w w' := by
  rw [← eq_none]
  exact ins_equal w i {} sa none i.links.length sc 0 0 _ fun w' _ => lk_eqNone w' sa i.links.length sc
end Go.Proofs.YthijakidnkhbnaaGreatDoor

namespace Go.Proofs.YthijakidnkhbnaaGreatDoor
open Go.RowKit

theorem LkAt.below {w w' : World} {B : Nat} {lv : Value} {ks : List Ps.Link} (h : LkAt w B lv ks) (hb : Below w.heap.size w w') : LkAt w' B lv ks := by
  refine own_keep h fun g hg => ?_
  obtain ⟨_, ⟨rfl, _⟩ | ⟨g', cap, cur, rfl, hB, hh, _⟩⟩ := h
  · simp [Value.ownBlock] at hg
  · obtain rfl : g' = g := by simpa [Value.ownBlock] using hg
    exact hb.block g' (Array.getElem?_eq_some_iff.1 hh).1
/-- the contract of an instruction's Check -/
def InsC (W0 : World) : Prop := ∀ (w : World) (B : Nat) (i : Ps.Ins) (a : Option Addr) (n c : Nat), Below W0.heap.size W0 w → LkAt w B (.slice a n c) i.links →
  Calls Tryz.prog 66 #[.agg (insCells i (.slice a n c)).toArray] w fun e W' => e = .returned (.int .i64 (Ps.insE psE0.valid i)) ∧ Below w.heap.size w W'

theorem rules3 (b1 b2 b3 : Bool) : firstE [(!b1, 11), (!b2, 6), (!b3, 6)] = if b1 = false then 11 else if b2 = false then 6 else if b3 = false then 6 else 0 := by
  cases b1 <;> cases b2 <;> cases b3 <;> rfl
theorem rules1 (b : Bool) (n : Int) : firstE [(b, n)] = if b = true then n else 0 := rfl

theorem req_plain (V : Nat → ByteArray → Bool) (Q : Ps.Req) (x1 c3 : Int) (hx1 : x1 = firstE [(!(inB Q.op 0 4), 11), (!(V 1 Q.sender), 6), (!(V 2 Q.ref), 6)])
    (hc3 : c3 = if Q.op = 0 then firstE [(!(Q.ins.ref.toList == Q.ref.toList) || !(Q.ins.sender.toList == Q.sender.toList), 17)] else firstE [(!(decide Q.ins.none), 3)]) :
    Ps.reqE V Q = if x1 ≠ 0 then x1 else if Q.op = 0 ∧ Ps.insE V Q.ins ≠ 0 then Ps.insE V Q.ins else if c3 ≠ 0 then c3 else if Q.op = 1 then Ps.amdE Q.amd else firstE [(!decide Q.amd.none, 3)] := by
  have e17 : firstE [(!(Q.ins.ref.toList == Q.ref.toList) || !(Q.ins.sender.toList == Q.sender.toList), 17)] = if Q.ins.ref ≠ Q.ref ∨ Q.ins.sender ≠ Q.sender then 17 else 0 :=
    firstE_if (or_iff' (not_iff' (strE _ _)) (not_iff' (strE _ _)))
  have e3 : firstE [(!(decide Q.ins.none), 3)] = if ¬ Q.ins.none then 3 else 0 := firstE_if (not_iff' decide_eq_true_iff)
  have e4 : firstE [(!decide Q.amd.none, 3)] = if ¬ Q.amd.none then 3 else 0 := firstE_if (not_iff' decide_eq_true_iff)
  rw [e17, e3] at hc3
  rw [e4]
  have ex1 : x1 = if ¬ (0 ≤ Q.op ∧ Q.op ≤ 4) then 11 else if V 1 Q.sender = false then 6 else if V 2 Q.ref = false then 6 else 0 := by
    rw [hx1, firstE_if (not_iff' (inB_iff _ _ _)), firstE_if (notV _), firstE_if (notV _)]
    rfl
  subst ex1 hc3
  unfold Ps.reqE
  by_cases h1 : ¬ (0 ≤ Q.op ∧ Q.op ≤ 4)
  · simp only [if_pos h1]; rfl
  simp only [if_neg h1]
  by_cases h2 : V 1 Q.sender = false
  · simp only [if_pos h2]; rfl
  simp only [if_neg h2]
  by_cases h3 : V 2 Q.ref = false
  · simp only [if_pos h3]; rfl
  simp only [if_neg h3, ne_eq, not_true_eq_false, if_false]
  by_cases h0 : Q.op = 0
  · have h10 : ¬ Q.op = 1 := by omega
    simp only [h0, true_and]
    by_cases h4 : Ps.insE V Q.ins = 0
    · simp only [h4, not_true_eq_false, if_false]
      by_cases h5 : ¬ Q.ins.ref = Q.ref ∨ ¬ Q.ins.sender = Q.sender
      · simp only [if_pos h5]; rfl
      · simp only [if_neg h5]
        rfl
    · simp only [h4, not_false_eq_true, if_true]
  · simp only [h0, false_and, if_false]
    by_cases h5 : Q.ins.none
    · simp only [h5, not_true_eq_false, if_false]
    · simp only [h5, not_false_eq_true, if_true]; rfl

theorem valid_call {W0 w : World} (env : PsEnv W0) (hb : Below W0.heap.size W0 w) (k : Nat) (hk : k < 3) (s : ByteArray) : ∀ w', Below w.heap.size w w' → Calls Tryz.prog 65 #[.int .i64 k, .string s] w' fun e w'' => e = .returned (.bool (psE0.valid k s)) ∧ Below w'.heap.size w' w'' := fun w' hw =>
  idx_validA k hk s w' (env w' (hb.trans (hw.mono hb.size)))

theorem chk_of {W0 : World} (env : PsEnv W0) (ic : InsC W0) : ChkC W0 := fun w B Q a n c hb hl => by
  obtain ⟨a', c', hs⟩ := hl.slice
  have hn : n = Q.ins.links.length := by cases hs; rfl
  rw [show psR Q = _ from req_plain psE0.valid Q _ _ rfl rfl]
  refine rq_w1 w Q a n c (inB Q.op 0 4) (psE0.valid 1 Q.sender) (psE0.valid 2 Q.ref) w.heap.size rfl _ _ (Ps.insE psE0.valid Q.ins) _ (Ps.amdE Q.amd) (decide Q.ins.none) (!decide Q.amd.none) rfl rfl rfl (Lib.hid fun w' hw => ?_) (Lib.hid fun w' hw => ?_) (Lib.hid fun w' hw => ?_) (Lib.hid rfl) (fun w' _ => ck_withinB w' _ _ _) (valid_call env hb 1 (by omega) _) (valid_call env hb 2 (by omega) _)
  · exact ic w' B Q.ins a n c (hb.trans (hw.mono hb.size)) (hl.below hw)
  · rw [← amd_plain]
    exact amd_check w' Q.amd
  · rw [hn]
    exact ins_isNone w' Q.ins a c
end Go.Proofs.YthijakidnkhbnaaGreatDoor

namespace Go.Proofs.YthijakidnkhbnaaGreatDoor
open Go.RowKit

theorem firstE_zero : ∀ (rs : List (Bool × Int)), (∀ x ∈ rs, x.2 ≠ 0) → firstE rs = 0 → ∀ x ∈ rs, x.1 = false
  | [], _, _, x, hx => by cases hx
  | y :: rs, hz, h, x, hx => by
    unfold firstE at h
    by_cases hb : y.1 = true
    · rw [if_pos hb] at h
      exact absurd h (hz y List.mem_cons_self)
    · rw [if_neg hb] at h
      rcases List.mem_cons.1 hx with rfl | hx
      · simpa using hb
      · exact firstE_zero rs (fun z h => hz z (List.mem_cons_of_mem _ h)) h x hx

theorem lk_row {w : World} {B : Nat} {a : Option Addr} {n c : Nat} {ks : List Ps.Link} (h : LkAt w B (.slice a n c) ks) (hn : 0 < n) : ∃ sb, a = some ⟨sb, 0, none⟩ ∧ ∀ W, Below w.heap.size w W → LkRow W sb ks := by
  obtain ⟨a', c', hs⟩ := h.slice
  obtain ⟨rfl, rfl, rfl⟩ : a = a' ∧ n = ks.length ∧ c = c' := by cases hs; exact ⟨rfl, rfl, rfl⟩
  obtain ⟨sb, cap, hv, hlt, hcell⟩ := own_formT h hn
  refine ⟨sb, by cases hv; rfl, fun W hW => ?_⟩
  refine LkRow.below ?_ hW
  intro j x hj
  have hk : ∀ (ks : List Ps.Link) (j : Nat) (x : Ps.Link), ks[j]? = some x → (lkCells ks)[j * 2]? = some (.int .i64 x.type) ∧ (lkCells ks)[j * 2 + 1]? = some (.string x.ref) := by
    intro ks
    induction ks with
    | nil => intro j x h; simp at h
    | cons y ks ih =>
      intro j x h
      cases j with
      | zero =>
        obtain rfl : y = x := by simpa using h
        exact ⟨rfl, rfl⟩
      | succ j =>
        have := ih j x (by simpa using h)
        rw [show (j + 1) * 2 = j * 2 + 1 + 1 from by omega]
        exact this
  obtain ⟨h1, h2⟩ := hk ks j x hj
  exact ⟨hcell _ _ h1, hcell _ _ h2⟩

theorem lk_cap {w : World} {B : Nat} {a : Option Addr} {n c : Nat} {ks : List Ps.Link} (h : LkAt w B (.slice a n c) ks) : n = ks.length ∧ n ≤ c := by
  obtain ⟨_, ⟨hs, h0⟩ | ⟨g, cap, cur, hv, hB, hh, hnc, _⟩⟩ := h
  · cases hs
    exact ⟨h0.symm, Nat.le_refl _⟩
  · cases hv
    exact ⟨rfl, hnc⟩

theorem ins_c {W0 : World} (env : PsEnv W0) : InsC W0 := fun w B i a n c hb hl => by
  obtain ⟨hn, hc⟩ := lk_cap hl
  have hx := ins_plain psE0.valid i
  rw [← hn] at hx
  refine in_w1 w i a n c psE0.valid (Ps.insE psE0.valid i) (firstE (insRules psE0.valid i n)) (Ps.linksE psE0.valid i [] i.links) rfl (fun h0 => ?_) (Lib.hid hn) (Lib.hid hc) (Lib.hid rfl) (Lib.hid fun h => lk_row hl h) hx (valid_call env hb 0 (by omega)) (valid_call env hb 1 (by omega)) (valid_call env hb 2 (by omega))
  have h8 := firstE_zero _ (by unfold insRules; simp) h0 (decide (8 < (n : Int)), 8) (by unfold insRules; simp)
  simp at h8
  omega

/-- Parse -/
theorem pr_parse0 {m : Int} {kb ko kc : Nat} {w : World} (env : PvEnv m kb ko kc w) (s : ByteArray) (hs : s.size ≤ 9223372036854775807) :
    Calls Tryz.prog 9 #[.string s] w fun e W' => ∃ rv o x, e = .returned (.tuple #[rv, .int .i64 o, .int .i64 x]) ∧ ParPost w (Ps.parse psE0 psR s) rv o x W' :=
  pr_parse env (chk_of env.id (ins_c env.id)) s hs
end Go.Proofs.YthijakidnkhbnaaGreatDoor
