/-
  AMOUNTS: Parse rejects exactly what is no decimal; which kinds identifiers have.
-/
import Derived.Test.YtadhhknhfipihaaDoorAm2
import Derived.Test.YtadhhknhfipihaaDoorId5
namespace Go.Proofs.YtadhhknhfipihaaDoor
open Go.RowKit Go.Lib

theorem am_bad_plain (b : Bool) (U C : List UInt8) (neg : Bool) :
    (!b || (ByteArray.mk U.toArray).toList.isEmpty || (((ByteArray.mk C.toArray).size : Int) != 2) || !(U.all fun c => Lx.digit (c.toNat : Int)) || !(C.all fun c => Lx.digit (c.toNat : Int)) ||
      (decide (1 < ((ByteArray.mk U.toArray).size : Int)) && decide (PlainAid.bt ⟨U.toArray⟩ 0 = 48)) || neg) =
    !(b && Lx.whole U && decide (C.length = 2) && Lx.all Lx.digit C && !neg) := by
  rw [Lib.toList_data, lx_size_mk, lx_size_mk]
  cases b with
  | false => simp
  | true =>
    cases neg with
    | true => simp
    | false =>
      by_cases h2 : C.length = 2
      · have hC : Lx.all Lx.digit C = C.all fun c => Lx.digit (c.toNat : Int) := by
          unfold Lx.all
          cases C with
          | nil => simp at h2
          | cons a C => simp
        rw [hC]
        cases U with
        | nil => simp [Lx.whole, Lx.all]
        | cons x U =>
          have hb : PlainAid.bt ⟨(x :: U).toArray⟩ 0 = (x.toNat : Int) := (PlainAid.get_bt ⟨(x :: U).toArray⟩ 0 (by rw [lx_size_mk]; simp)).symm
          rw [hb]
          unfold Lx.whole Lx.all
          have e48 : decide ((x.toNat : Int) = 48) = (x == 48) := by
            rw [Bool.eq_iff_iff]
            simp only [decide_eq_true_eq, beq_iff_eq]
            rw [← UInt8.toNat_inj]
            show ((x.toNat : Int) = 48) ↔ (x.toNat = 48)
            omega
          rw [e48]
          generalize (x :: U).all (fun c => Lx.digit (c.toNat : Int)) = d1
          generalize C.all (fun c => Lx.digit (c.toNat : Int)) = d2
          generalize hq : (x == 48) = q
          have hlen : decide (1 < (((x :: U).length : Nat) : Int)) = !((x :: U).length == 1) := by
            rw [Bool.eq_iff_iff]; simp
            cases U with
            | nil => simp
            | cons a U => simp; omega
          rw [hlen]
          have hh : ((x :: U).head? == some 48) = q := by rw [← hq]; rfl
          rw [hh]
          have h2' : ((C.length : Int) != 2) = false := by rw [bne_eq_false_iff_eq]; omega
          rw [h2']
          generalize ((x :: U).length == 1) = o
          simp only [h2, decide_true]
          cases d1 <;> cases d2 <;> cases q <;> cases o <;> rfl
      · have h2' : ((C.length : Int) != 2) = true := by rw [bne_iff_ne]; omega
        simp [h2, h2']

theorem am_neg (l : List UInt8) : (Lib.hasPrefix l [45] && (Lib.trimPrefix l [45] == [48, 46, 48, 48])) = (l == [45, 48, 46, 48, 48]) := by
  cases l with
  | nil => rfl
  | cons a l =>
    by_cases h : a = 45
    · subst h
      simp [Lib.hasPrefix, Lib.trimPrefix]
    · have h1 : Lib.hasPrefix (a :: l) [45] = false := by
        have h45 : ((45 : UInt8) == a) = false := by rw [beq_eq_false_iff_ne]; exact fun h' => h h'.symm
        simp only [Lib.hasPrefix, List.isPrefixOf, h45, Bool.false_and]
      rw [h1]
      symm
      simp [h]

theorem am_bad_decimal (l : List UInt8) :
    amBad (Lib.hasPrefix l [45]) (Lib.trimPrefix l [45]) ⟨(Lib.cut (Lib.trimPrefix l [45]) [46]).1.toArray⟩ ⟨(Lib.cut (Lib.trimPrefix l [45]) [46]).2.1.toArray⟩ (Lib.cut (Lib.trimPrefix l [45]) [46]).2.2
      ((Lib.cut (Lib.trimPrefix l [45]) [46]).1.all fun c => Lx.digit (c.toNat : Int)) ((Lib.cut (Lib.trimPrefix l [45]) [46]).2.1.all fun c => Lx.digit (c.toNat : Int)) = !Lx.decimal l := by
  unfold amBad
  rw [am_neg, am_bad_plain]
  rfl

theorem am_parse (s : ByteArray) (w : World) (m : Int) (hs : s.size ≤ 32) (h : AmEnv m w) :
    Calls Tryd.prog 10 #[.string s] w fun e w' => (∃ n x : Int, e = .returned (.tuple #[.int .i64 n, .int .i64 x]) ∧ (x = 3 ↔ Lx.decimal s.data.toList = false)) ∧ Below w.heap.size w w' := by
  refine (am_parse0 s w m hs h _ _ _ _ _ rfl rfl rfl rfl rfl).mono ?_
  rintro e w' ⟨⟨n, x, rfl, hx⟩, hb⟩
  refine ⟨⟨n, x, rfl, ?_⟩, hb⟩
  rw [hx]
  simp only
  rw [am_bad_decimal]
  simp

end Go.Proofs.YtadhhknhfipihaaDoor
