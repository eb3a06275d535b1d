/-
  A REGION THAT DRAWS ITS ORDER, whose last operation waits for all others: the others in any order, then the last one.
-/
import Derived.Test.YtcbnbhlgikjbeaaGreatDoorProg
import Derived.Deep.RegionHeld3
import Derived.Deep.DrawnRows
namespace Go.Proofs.YtcbnbhlgikjbeaaGreatDoor

section
variable {P : Program} {md : Region.Mode}

/-- the post behind the others: the last operation, and on -/
def sinkPost (P : Program) (last : Oper) (Q : Exit → Act → World → Prop) : Exit → Act → World → Prop
  | .normal, a, w => last.wp P a w (Q .normal) Q
  | e, a, w => Q e a w
theorem sinkPost_lets {last : Oper} {Q : Exit → Act → World → Prop} (h : LetsOut (sinkPost P last Q)) : LetsOut Q := h
theorem wp_of_sink {o last : Oper} {a : Act} {w : World} {K K' : Act → World → Prop} {Q : Exit → Act → World → Prop} (h : ∀ a w, K a w → K' a w) (hh : o.wp P a w K (sinkPost P last Q)) : o.wp P a w K' Q := by
  unfold Oper.wp at *
  generalize (execOp a.eval o).run P w = r at *
  cases r with
  | ok n w' =>
    cases n <;> simp only [Oper.upon] at hh ⊢
    all_goals first
      | exact h _ _ hh
      | exact Calls.mono hh (fun e w'' he => by cases e <;> first | exact h _ _ he | exact he)
      | exact Rows.mono hh (fun _ _ he => h _ _ he)
  | halt x w' => cases x <;> simp only [Oper.upon] at hh ⊢ <;> exact hh

/-- every operation waits for elder ones alone; none is guarded; the last one waits for all -/
def sinkB (md : Region.Mode) (pre : Array Oper) (last : Oper) : Bool :=
  (List.range pre.size).all (fun i => match pre[i]? with | none => false | some o => o.guard.isNone && o.after.all fun e => decide (e.on < i)) &&
  (List.range pre.size).all (fun i => last.after.any fun e => Region.binds md e && e.on == i) && last.guard.isNone && last.after.all fun e => decide (e.on < pre.size)

theorem sinkB_pre {pre : Array Oper} {last : Oper} (h : sinkB md pre last = true) {i : Nat} {o : Oper} (ho : pre[i]? = some o) : o.guard = none ∧ ∀ e ∈ o.after, e.on < i := by
  unfold sinkB at h
  simp only [Bool.and_eq_true, List.all_eq_true, List.mem_range] at h
  have := h.1.1.1 i (Array.getElem?_eq_some_iff.1 ho).1
  rw [ho] at this
  simp only [Bool.and_eq_true, Option.isNone_iff_eq_none, Array.all_eq_true_iff_forall_mem, decide_eq_true_eq] at this
  exact this
theorem sinkB_last {pre : Array Oper} {last : Oper} (h : sinkB md pre last = true) : last.guard = none ∧ (∀ i, i < pre.size → ∃ e ∈ last.after, Region.binds md e = true ∧ e.on = i) ∧ ∀ e ∈ last.after, e.on < pre.size := by
  unfold sinkB at h
  simp only [Bool.and_eq_true, List.all_eq_true, List.mem_range, Option.isNone_iff_eq_none, Array.all_eq_true_iff_forall_mem, decide_eq_true_eq] at h
  refine ⟨h.1.2, fun i hi => ?_, h.2⟩
  have := h.1.1.2 i hi
  rw [Array.any_eq_true] at this
  obtain ⟨k, hk, h2⟩ := this
  simp only [Bool.and_eq_true, beq_iff_eq] at h2
  exact ⟨_, Array.getElem_mem hk, h2.1, h2.2⟩

theorem all_listed {pre : Array Oper} {last : Oper} (hB : sinkB md pre last = true) {listed : Array Bool} (hs : listed.size = pre.size) (h : Region.ready md pre listed = []) : ∀ i, i < pre.size → listed.getD i false = true := by
  intro i
  induction i using Nat.strongRecOn with
  | ind i ih =>
    intro hi
    cases hl : listed.getD i false with
    | true => rfl
    | false =>
      have hm : i ∈ Region.ready md pre listed := by
        rw [mem_ready]
        refine ⟨?_, pre[i], Array.getElem?_eq_getElem hi, fun e he _ => ?_⟩
        · have hil : i < listed.size := by omega
          simp only [Array.getD_eq_getD_getElem?, Array.getElem?_eq_getElem hil, Option.getD_some] at hl ⊢
          exact hl
        · have := (sinkB_pre hB (Array.getElem?_eq_getElem hi)).2 e he
          exact ih e.on this (by omega)
      rw [h] at hm
      cases hm

theorem push_getD {listed : Array Bool} {j : Nat} (d b : Bool) (h : j < listed.size) : (listed.push b).getD j d = listed.getD j d := by
  simp only [Array.getD_eq_getD_getElem?]
  rw [Array.getElem?_push_lt h, Array.getElem?_eq_getElem h]

theorem ready_push {pre : Array Oper} {last : Oper} (hB : sinkB md pre last = true) {listed : Array Bool} (hs : listed.size = pre.size) {i : Nat} (hi : i ∈ Region.ready md (pre.push last) (listed.push false)) :
    (i < pre.size ∧ i ∈ Region.ready md pre listed) ∨ (i = pre.size ∧ ∀ j, j < pre.size → listed.getD j false = true) := by
  obtain ⟨h0, o, ho, hall⟩ := mem_ready.1 hi
  rcases Nat.lt_or_ge i pre.size with hlt | hge
  · refine .inl ⟨hlt, mem_ready.2 ?_⟩
    rw [Array.getElem?_push_lt hlt] at ho
    have ho' : pre[i]? = some o := by rw [Array.getElem?_eq_getElem hlt]; exact ho
    refine ⟨by rw [push_getD _ _ (by omega)] at h0; exact h0, o, ho', fun e he hb => ?_⟩
    have := hall e he hb
    have hlt' := (sinkB_pre hB ho').2 e he
    rwa [push_getD _ _ (by omega)] at this
  · have hi' : i < (pre.push last).size := (Array.getElem?_eq_some_iff.1 ho).1
    rw [Array.size_push] at hi'
    obtain rfl : i = pre.size := by omega
    refine .inr ⟨rfl, fun j hj => ?_⟩
    rw [Array.getElem?_push_size] at ho
    obtain rfl := Option.some.inj ho
    obtain ⟨e, he, hb, hj'⟩ := (sinkB_last hB).2.1 j hj
    have := hall e he hb
    rw [hj'] at this
    rwa [push_getD _ _ (by omega)] at this

theorem wpAny_sink {pre : Array Oper} {last : Oper} {Q : Exit → Act → World → Prop} (hB : sinkB md pre last = true) : ∀ (fuel : Nat) (listed : Array Bool) (a : Act) (w : World), listed.size = pre.size →
    wpAny P md pre (sinkPost P last Q) fuel listed a w → wpAny P md (pre.push last) Q (fuel + 1) (listed.push false) a w := by
  have done : ∀ (fuel : Nat) (listed : Array Bool) (a : Act) (w : World), listed.size = pre.size → Region.ready md pre listed = [] → sinkPost P last Q .normal a w → wpAny P md (pre.push last) Q (fuel + 1) (listed.push false) a w := by
    intro fuel listed a w hs hr hq
    have hall := all_listed hB hs hr
    have hlast : pre.size ∈ Region.ready md (pre.push last) (listed.push false) := by
      rw [mem_ready]
      refine ⟨?_, last, by rw [Array.getElem?_push_size], fun e he _ => ?_⟩
      · simp only [Array.getD_eq_getD_getElem?]
        rw [← hs, Array.getElem?_push_size]
        rfl
      · have hlt := (sinkB_last hB).2.2 e he
        rw [push_getD _ _ (by omega)]
        exact hall _ hlt
    refine ⟨fun h => (by rw [h] at hlast; cases hlast), fun i hi => ?_⟩
    rcases ready_push hB hs hi with ⟨_, h⟩ | ⟨rfl, _⟩
    · rw [hr] at h; cases h
    · unfold wpOp
      rw [Array.getElem?_push_size]
      have hw : Region.wanted last (yielded (pre.push last) a.tmps) = true := by simp [Region.wanted, (sinkB_last hB).1]
      simp only [hw, if_true]
      refine .inl (Oper.wp_mono (fun a' w' h' => ?_) hq)
      have hnil : Region.ready md (pre.push last) ((listed.push false).setIfInBounds pre.size true) = [] := by
        rw [List.eq_nil_iff_forall_not_mem]
        intro j hj
        obtain ⟨h0, o, ho, _⟩ := mem_ready.1 hj
        have hj' : j < (pre.push last).size := (Array.getElem?_eq_some_iff.1 ho).1
        rw [Array.size_push] at hj'
        rcases Nat.lt_or_ge j pre.size with hlt | hge
        · rw [getD_set_ne true (by omega), push_getD _ _ (by omega)] at h0
          have h1 := hall j hlt
          have hjl : j < listed.size := by omega
          simp only [Array.getD_eq_getD_getElem?, Array.getElem?_eq_getElem hjl, Option.getD_some] at h0 h1
          rw [h0] at h1; cases h1
        · obtain rfl : j = pre.size := by omega
          simp only [Array.getD_eq_getD_getElem?] at h0
          rw [Array.getElem?_setIfInBounds_self_of_lt (by rw [Array.size_push]; omega)] at h0
          cases h0
      cases fuel with
      | zero => exact ⟨hnil, h'⟩
      | succ f => exact ⟨fun _ => h', by rw [hnil]; simp⟩
  intro fuel
  induction fuel with
  | zero => intro listed a w hs h; exact done 0 listed a w hs h.1 h.2
  | succ fuel ih =>
    intro listed a w hs h
    cases hr : Region.ready md pre listed with
    | nil => exact done _ listed a w hs hr (h.1 hr)
    | cons x r =>
      refine ⟨fun h0 => ?_, fun i hi => ?_⟩
      · have hx : x ∈ Region.ready md pre listed := by rw [hr]; simp
        obtain ⟨g0, o, ho, hall⟩ := mem_ready.1 hx
        have hxl : x < pre.size := (Array.getElem?_eq_some_iff.1 ho).1
        have : x ∈ Region.ready md (pre.push last) (listed.push false) := by
          rw [mem_ready]
          refine ⟨by rw [push_getD _ _ (by omega)]; exact g0, o, ?_, fun e he hb => ?_⟩
          · rw [Array.getElem?_push_lt hxl]
            rw [Array.getElem?_eq_getElem hxl] at ho
            exact ho
          · have hlt := (sinkB_pre hB ho).2 e he
            rw [push_getD _ _ (by omega)]
            exact hall e he hb
        rw [h0] at this
        cases this
      · rcases ready_push hB hs hi with ⟨hlt, hi'⟩ | ⟨rfl, hall⟩
        · have h1 := h.2 i hi'
          have e : ∀ b, (listed.push b).setIfInBounds i true = (listed.setIfInBounds i true).push b := fun b => by
            have hil : i < listed.toList.length := by rw [Array.length_toList]; omega
            apply Array.ext'
            simp only [Array.toList_setIfInBounds, Array.toList_push]
            exact List.set_append_left _ _ hil
          unfold wpOp at h1 ⊢
          rw [Array.getElem?_push_lt hlt]
          rw [Array.getElem?_eq_getElem hlt] at h1
          simp only [] at h1 ⊢
          have hg := (sinkB_pre hB (Array.getElem?_eq_getElem hlt)).1
          have w1 : Region.wanted pre[i] (yielded pre a.tmps) = true := by simp [Region.wanted, hg]
          have w2 : Region.wanted pre[i] (yielded (pre.push last) a.tmps) = true := by simp [Region.wanted, hg]
          simp only [w1, w2, if_true] at h1 ⊢
          refine h1.imp (wp_of_sink (fun a' w' h' => ?_)) (fun ⟨g1, g2⟩ => ⟨g1, sinkPost_lets g2⟩)
          rw [e]
          exact ih _ a' w' (by simpa using hs) h'
        · obtain ⟨g0, o, ho, _⟩ := mem_ready.1 (show x ∈ Region.ready md pre listed by rw [hr]; simp)
          have hxl : x < pre.size := (Array.getElem?_eq_some_iff.1 ho).1
          have h1 := hall x hxl
          have hil : x < listed.size := by omega
          simp only [Array.getD_eq_getD_getElem?, Array.getElem?_eq_getElem hil, Option.getD_some] at g0 h1
          rw [g0] at h1; cases h1

/-- THE BEGINNING: the others in any order, under S -/
theorem wp_region_sink {id : Nat} {ops : Array Oper} {Q : Exit → Act → World → Prop} {a : Act} {w : World} {S : World → Prop} (pre : Array Oper) (last : Oper) (hops : ops = pre.push last) (hm : P.follows .mixedOrders = true) (hB : sinkB .any pre last = true)
    (hS : S w.drew) (h : S w.drew → wpAnyH P .any pre (sinkPost P last Q) S pre.size (Array.replicate pre.size false) a w.drew) : (Code.region id ops true).wp P Q a w := by
  subst hops
  refine wp_region_any hm ?_
  rw [Array.size_push]
  have := wpAny_sink hB pre.size (Array.replicate pre.size false) a w.drew (by simp) (wpAny_of_held _ _ _ _ (h hS))
  rw [show Array.replicate (pre.size + 1) false = (Array.replicate pre.size false).push false from Array.replicate_succ]
  exact this
theorem push_pop {ops : Array Oper} {last : Oper} (h : ops.back? = some last) : ops = ops.pop.push last := by
  have hne : ops.size ≠ 0 := by
    intro h0
    have : ops = #[] := by simpa using h0
    rw [this] at h
    simp at h
  apply Array.ext
  · simp; omega
  · intro k h1 h2
    rw [Array.getElem_push]
    split
    · simp
    · rename_i hk
      rw [Array.size_pop] at hk
      have : k = ops.size - 1 := by omega
      subst this
      rw [Array.back?_eq_getElem?] at h
      exact (Array.getElem?_eq_some_iff.1 h).2
theorem wp_region_sink' {id : Nat} {ops : Array Oper} {Q : Exit → Act → World → Prop} {a : Act} {w : World} (S : World → Prop) (last : Oper) (hops : ops.back? = some last) (hm : P.follows .mixedOrders = true) (hB : sinkB .any ops.pop last = true)
    (hS : S w.drew) (h : S w.drew → wpAnyH P .any ops.pop (sinkPost P last Q) S ops.pop.size (Array.replicate ops.pop.size false) a w.drew) : (Code.region id ops true).wp P Q a w :=
  wp_region_sink ops.pop last (push_pop hops) hm hB hS h
end

end Go.Proofs.YtcbnbhlgikjbeaaGreatDoor
