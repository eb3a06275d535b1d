/-
  The rules are the plain errors: amendments.
  (message.Instruction).Check: its rules.
  The rules are the plain errors: instructions.
  The rules of a link: the operations slice and makeFunc by their values; the plain law.
-/
import Derived.Test.YthijakidnkhbnaaGreatDoorPsChk5
import Derived.WideShapes
import Derived.Test.YthijakidnkhbnaaGreatDoorPsChk2

namespace Go.Proofs.YthijakidnkhbnaaGreatDoor

theorem firstE_if {b : Bool} {n : Int} {rs : List (Bool × Int)} {P : Prop} [Decidable P] (h : b = true ↔ P) : firstE ((b, n) :: rs) = if P then n else firstE rs := by
  show (if b = true then n else firstE rs) = _
  by_cases hp : P
  · rw [if_pos hp, if_pos (h.2 hp)]
  · rw [if_neg hp, if_neg (fun hb => hp (h.1 hb))]
theorem inB_iff (n lo hi : Int) : inB n lo hi = true ↔ lo ≤ n ∧ n ≤ hi := by
  unfold inB; simp
theorem bndB_iff (n : Int) (u : Bool) : bndB n u = true ↔ if u = true then 1 ≤ n ∧ n ≤ Ps.maxAm else n = 0 := by
  unfold bndB Ps.maxAm
  cases u
  · simp
  · simp [inB_iff]
theorem not_iff' {b : Bool} {P : Prop} (h : b = true ↔ P) : (!b) = true ↔ ¬ P := by
  rw [← h]; cases b <;> simp

theorem amd_plain (A : Ps.Amd) : firstE (amdRules A) = Ps.amdE A := by
  unfold amdRules Ps.amdE
  rw [firstE_if (P := A.hasAmount = false ∧ A.hasSettleDay = false ∧ A.hasPriority = false ∧ A.hasPartial = false) (by simp [and_assoc]),
    firstE_if (P := (A.hasAmount = false ∧ A.amount ≠ 0) ∨ (A.hasSettleDay = false ∧ A.settleDay ≠ 0) ∨ (A.hasPriority = false ∧ A.priority ≠ 0) ∨ (A.hasPartial = false ∧ (A.partial_ = true ∨ A.minLot ≠ 0))) (by simp [or_assoc]),
    firstE_if (not_iff' (bndB_iff _ _)), firstE_if (not_iff' (inB_iff _ _ _)), firstE_if (not_iff' (inB_iff _ _ _)), firstE_if (not_iff' (bndB_iff _ _))]
  rfl
end Go.Proofs.YthijakidnkhbnaaGreatDoor

namespace Go.Proofs.YthijakidnkhbnaaGreatDoor
open Go.RowKit
open Go.Proofs.YthijakidnkhbnaaGreatDoor.Ord

/-- an instruction's rules -/
def insRules (V : Nat → ByteArray → Bool) (i : Ps.Ins) (sn : Nat) : List (Bool × Int) := [((!(inB i.kind 0 4)), 11), ((!(V 2 i.ref)), 6), ((!(V 1 i.sender)), 6), ((((i.kind == 3) || (i.kind == 4)) && (!(i.counterparty.toList == (⟨#[]⟩ : ByteArray).toList))), 3), (((!((i.kind == 3) || (i.kind == 4))) && (!(V 1 i.counterparty))), 6), ((i.counterparty.toList == i.sender.toList), 1), ((!(inB i.side 0 1)), 11), (((!((i.kind == 1) || (i.kind == 2))) && (i.side != 0)), 3), ((!(if (i.kind == 0) = true then (i.asset.toList == [67, 65, 83, 72]) else V 0 i.asset)), 6), ((!(bndB i.quantity (i.kind != 0))), 2), ((!(bndB i.amount ((i.kind == 0) || (i.kind == 1)))), 2), ((!(inB i.settleDay 0 73048)), 28), (((((i.kind == 1) || (i.kind == 2)) && (!(inB i.tradeDay 0 i.settleDay))) || ((!((i.kind == 1) || (i.kind == 2))) && (i.tradeDay != 0))), 28), (((!(inB i.priority 0 2)) || (((i.kind == 3) || (i.kind == 4)) && (i.priority != 0))), 2), ((i.partial_ && (!((i.kind == 1) || (i.kind == 2)))), 3), (((i.partial_ && (decide (i.minLot < 1))) || (!(inB i.minLot 0 (if i.partial_ = true then i.quantity else 0)))), 2), ((i.hold && ((i.kind == 3) || (i.kind == 4))), 3), ((i.reserve && ((i.kind != 0) || (i.priority != 2))), 3), ((((i.kind == 3) || (i.kind == 4)) && (decide (0 < (sn : Int)))), 3), ((decide (8 < (sn : Int))), 8)]

end Go.Proofs.YthijakidnkhbnaaGreatDoor

namespace Go.Proofs.YthijakidnkhbnaaGreatDoor

theorem strE (s t : ByteArray) : (s.toList == t.toList) = true ↔ s = t := by
  rw [beq_iff_eq]
  constructor
  · intro h
    rw [Lib.toList_data, Lib.toList_data] at h
    exact Go.WideShapes.bytes_inj h
  · rintro rfl; rfl
/-- the first broken rule's error, or another -/
def firstD (d : Int) : List (Bool × Int) → Int
  | [] => d
  | x :: rs => if x.1 = true then x.2 else firstD d rs
theorem firstD_if {d : Int} {b : Bool} {n : Int} {rs : List (Bool × Int)} {P : Prop} [Decidable P] (h : b = true ↔ P) : firstD d ((b, n) :: rs) = if P then n else firstD d rs := by
  show (if b = true then n else firstD d rs) = _
  by_cases hp : P
  · rw [if_pos hp, if_pos (h.2 hp)]
  · rw [if_neg hp, if_neg (fun hb => hp (h.1 hb))]
theorem firstD_eq (d : Int) : ∀ rs : List (Bool × Int), (∀ x ∈ rs, x.2 ≠ 0) → firstD d rs = if firstE rs ≠ 0 then firstE rs else d
  | [], _ => by simp [firstD, firstE]
  | x :: rs, h => by
    have ih := firstD_eq d rs fun y hy => h y (List.mem_cons_of_mem _ hy)
    have hx := h x List.mem_cons_self
    show (if x.1 = true then x.2 else firstD d rs) = if (if x.1 = true then x.2 else firstE rs) ≠ 0 then (if x.1 = true then x.2 else firstE rs) else d
    by_cases hb : x.1 = true
    · simp only [if_pos hb, if_pos hx]
    · simp only [if_neg hb]; exact ih

theorem colB_iff (i : Ps.Ins) : ((i.kind == 3) || (i.kind == 4)) = true ↔ i.kind = 3 ∨ i.kind = 4 := by simp
theorem secB_iff (i : Ps.Ins) : ((i.kind == 1) || (i.kind == 2)) = true ↔ i.kind = 1 ∨ i.kind = 2 := by simp
theorem and_iff' {a b : Bool} {P Q : Prop} (h1 : a = true ↔ P) (h2 : b = true ↔ Q) : (a && b) = true ↔ P ∧ Q := by rw [Bool.and_eq_true, h1, h2]
theorem or_iff' {a b : Bool} {P Q : Prop} (h1 : a = true ↔ P) (h2 : b = true ↔ Q) : (a || b) = true ↔ P ∨ Q := by rw [Bool.or_eq_true, h1, h2]
theorem ne_iff' (a b : Int) : (a != b) = true ↔ a ≠ b := by simp
theorem notV (b : Bool) : (!b) = true ↔ b = false := by simp

theorem ins_plain (V : Nat → ByteArray → Bool) (i : Ps.Ins) : Ps.insE V i = if firstE (insRules V i i.links.length) ≠ 0 then firstE (insRules V i i.links.length) else Ps.linksE V i [] i.links := by
  rw [← firstD_eq _ _ (by unfold insRules; simp)]
  unfold insRules Ps.insE
  have hs : (!(i.counterparty.toList == (⟨#[]⟩ : ByteArray).toList)) = true ↔ i.counterparty ≠ ⟨#[]⟩ := not_iff' (strE _ _)
  have hcash : (if (i.kind == 0) = true then (i.asset.toList == [67, 65, 83, 72]) else V 0 i.asset) = true ↔ if i.kind = 0 then i.asset = Ps.sCash else V 0 i.asset = true := by
    have h2 : ([67, 65, 83, 72] : List UInt8) = Ps.sCash.toList := by rw [Lib.toList_data]; rfl
    rw [h2]
    by_cases h : i.kind = 0
    · simp only [h, BEq.rfl, if_true]; exact strE _ _
    · have : (i.kind == 0) = false := by simp [h]
      simp only [this, h, if_false, Bool.false_eq_true]
  have hq : (!(bndB i.quantity (i.kind != 0))) = true ↔ ¬ (if i.kind ≠ 0 then 1 ≤ i.quantity ∧ i.quantity ≤ Ps.maxAm else i.quantity = 0) := by
    refine (not_iff' (bndB_iff _ _)).trans (not_congr ?_)
    by_cases h : i.kind = 0 <;> simp [h]
  have ha : (!(bndB i.amount ((i.kind == 0) || (i.kind == 1)))) = true ↔ ¬ (if i.kind = 0 ∨ i.kind = 1 then 1 ≤ i.amount ∧ i.amount ≤ Ps.maxAm else i.amount = 0) := by
    refine (not_iff' (bndB_iff _ _)).trans (not_congr ?_)
    simp
  have hlot : ((i.partial_ && (decide (i.minLot < 1))) || (!(inB i.minLot 0 (if i.partial_ = true then i.quantity else 0)))) = true ↔ (i.partial_ = true ∧ i.minLot < 1) ∨ ¬ (0 ≤ i.minLot ∧ i.minLot ≤ if i.partial_ = true then i.quantity else 0) :=
    or_iff' (and_iff' Iff.rfl decide_eq_true_iff) (not_iff' (inB_iff _ _ _))
  rw [firstD_if (not_iff' (inB_iff _ _ _)), firstD_if (notV _), firstD_if (notV _), firstD_if (and_iff' (colB_iff i) hs), firstD_if (and_iff' (not_iff' (colB_iff i)) (notV _)), firstD_if (strE _ _), firstD_if (not_iff' (inB_iff _ _ _)),
    firstD_if (and_iff' (not_iff' (secB_iff i)) (ne_iff' _ _)), firstD_if (not_iff' hcash), firstD_if hq, firstD_if ha, firstD_if (not_iff' (inB_iff _ _ _)),
    firstD_if (or_iff' (and_iff' (secB_iff i) (not_iff' (inB_iff _ _ _))) (and_iff' (not_iff' (secB_iff i)) (ne_iff' _ _))), firstD_if (or_iff' (not_iff' (inB_iff _ _ _)) (and_iff' (colB_iff i) (ne_iff' _ _))),
    firstD_if (and_iff' Iff.rfl (not_iff' (secB_iff i))), firstD_if hlot, firstD_if (and_iff' Iff.rfl (colB_iff i)), firstD_if (and_iff' Iff.rfl (or_iff' (ne_iff' _ _) (ne_iff' _ _))),
    firstD_if (P := (i.kind = 3 ∨ i.kind = 4) ∧ 0 < i.links.length) (and_iff' (colB_iff i) (by simp)), firstD_if (P := 8 < i.links.length) (by simp; omega)]
  rfl
end Go.Proofs.YthijakidnkhbnaaGreatDoor

namespace Go.Proofs.YthijakidnkhbnaaGreatDoor
open Go.RowKit
open Go.Proofs.YthijakidnkhbnaaGreatDoor.Ord

section
variable {S : World → Prop} {ρ : Operand → Value} {o : Oper}
theorem y_slice {t : TypeId} {x y : Operand} {v1 v2 v : Value} (ho : o.op = .slice t x none (some y) none) (h1 : ρ x = v1) (h2 : ρ y = v2) (hr : ∀ w, (Instr.sliceAt t v1 none (some v2) none).run Tryz.prog w = .ok v w) : YB Tryz.prog S ρ o v := fun w hS => by
  unfold execOp; simp only [ho, h1, h2, Option.map_some, Option.map_none, Sem.run_bind, hr, Result.andThen_ok]; exact ⟨rfl, hS⟩
theorem y_makeFunc {f : FuncId} {x : Operand} {v1 : Value} (ho : o.op = .makeFunc (.func f) #[] #[x]) (h1 : ρ x = v1) : YB Tryz.prog S ρ o (.func (.func f) #[] #[v1]) := fun w hS => by
  unfold execOp; simp only [ho, List.map_toArray, List.map_cons, List.map_nil, h1]
  go_simp
  exact ⟨rfl, hS⟩
end
theorem sl_to (a : Option Addr) (n c k : Nat) (h1 : k ≤ n) (h2 : n ≤ c) (_h3 : n ≤ 1000) (w : World) : (Instr.sliceAt 23 (.slice a n c) none (some (.int .i64 k)) none).run Tryz.prog w = .ok (.slice a k c) w := by
  have e1 : (k : Int) ≤ (c : Int) := by omega
  go_simp
  done

/-- a link's rules, those before it known -/
def lkRules (V : Nat → ByteArray → Bool) (i : Ps.Ins) (seen : List Ps.Link) (x : Ps.Link) : List (Bool × Int) := [(!(inB x.type 0 1), 11), (!(V 2 x.ref), 6), (x.ref.toList == i.ref.toList, 26), (hasRef seen x.ref, 7)]
theorem hasRef_iff (ks : List Ps.Link) (r : ByteArray) : hasRef ks r = true ↔ ∃ y ∈ ks, y.ref = r := by
  unfold hasRef
  rw [List.any_eq_true]
  exact exists_congr fun y => and_congr_right fun _ => strE _ _
theorem links_plain (V : Nat → ByteArray → Bool) (i : Ps.Ins) (seen : List Ps.Link) (x : Ps.Link) (r : List Ps.Link) : Ps.linksE V i seen (x :: r) = if firstE (lkRules V i seen x) ≠ 0 then firstE (lkRules V i seen x) else Ps.linksE V i (seen ++ [x]) r := by
  rw [← firstD_eq _ _ (by unfold lkRules; simp)]
  unfold lkRules
  rw [firstD_if (not_iff' (inB_iff _ _ _)), firstD_if (notV _), firstD_if (strE _ _), firstD_if (hasRef_iff _ _)]
  rfl
end Go.Proofs.YthijakidnkhbnaaGreatDoor
