/-
  intact: the entries at the head of some bytes.
-/
import Derived.Test.YtcbnbhlgikjbeaaGreatDoorWlFirstOf
import Derived.Test.YtcbnbhlgikjbeaaGreatDoorWlMem
import Derived.Scope
namespace Go.Proofs.YtcbnbhlgikjbeaaGreatDoor
open Go.RowKit

theorem infoEnt : (Tryz.prog.info? 62).map (fun i => (i.zero, i.size, i.bytes)) = some (some (.agg #[.int .i64 0, .slice none 0 0]), 2, 32) := by kernel_rfl

/-- entries as cells -/
def enCells : List (Nat × Wl.Bs) → List Value → List Value
  | x :: l, v :: vs => .int .i64 x.1 :: v :: enCells l vs
  | _, _ => []
theorem enCells_snoc : ∀ (l : List (Nat × Wl.Bs)) (vs : List Value) (x : Nat × Wl.Bs) (v : Value), vs.length = l.length → enCells (l ++ [x]) (vs ++ [v]) = enCells l vs ++ [.int .i64 x.1, v]
  | [], [], _, _, _ => rfl
  | [], _ :: _, _, _, h => by simp at h
  | _ :: _, [], _, _, h => by simp at h
  | y :: l, w :: vs, x, v, h => by
    have := enCells_snoc l vs x v (by simpa using h)
    simp only [List.cons_append, enCells, this]
theorem enCells_length : ∀ (l : List (Nat × Wl.Bs)) (vs : List Value), vs.length = l.length → (enCells l vs).length = l.length * 2
  | [], _, _ => by simp [enCells]
  | _ :: _, [], h => by simp at h
  | y :: l, w :: vs, h => by
    have := enCells_length l vs (by simpa using h)
    simp only [enCells, List.length_cons, this]
    omega
theorem RdB.past {W W' : World} {v : Value} {l : Dk.Bs} {row : Option Nat} (h : RdB W W.heap.size v l) (hg : W.grownBy W' row) (hne : ∀ g, v.ownBlock = some g → some g ≠ row) : RdB W' W'.heap.size v l := by
  rcases h with ⟨rfl, a, c, rfl⟩ | ⟨g, off, cap, rfl, hc, h1, h2, hx⟩
  · exact .inl ⟨rfl, a, c, rfl⟩
  · have e := hg.block g h2 (hne g rfl)
    have hs := hg.size
    exact .inr ⟨g, off, cap, rfl, hc, by omega, by omega, fun j u hj => (World.cell?_of_block (a := ⟨g, off + j, none⟩) e).trans (hx j u hj)⟩
/-- their payloads can be read, and none lies in the block 'row' -/
def EnOk (W : World) (row : Option Nat) (l : List (Nat × Wl.Bs)) (vs : List Value) : Prop :=
  vs.length = l.length ∧ ∀ (k : Nat) (x : Nat × Wl.Bs) (v : Value), l[k]? = some x → vs[k]? = some v → RdB W W.heap.size v x.2 ∧ ∀ g, v.ownBlock = some g → g < W.heap.size ∧ some g ≠ row
theorem EnOk.nil (W : World) (row : Option Nat) : EnOk W row [] [] := ⟨rfl, fun k x v h => by simp at h⟩
theorem EnOk.snoc {W : World} {row : Option Nat} {l : List (Nat × Wl.Bs)} {vs : List Value} {x : Nat × Wl.Bs} {v : Value} (h : EnOk W row l vs) (hv : RdB W W.heap.size v x.2) (hg : ∀ g, v.ownBlock = some g → g < W.heap.size ∧ some g ≠ row) : EnOk W row (l ++ [x]) (vs ++ [v]) := by
  refine ⟨by simp [h.1], fun k y u hk hu => ?_⟩
  by_cases hlt : k < l.length
  · rw [List.getElem?_append_left hlt] at hk
    rw [List.getElem?_append_left (by rw [h.1]; exact hlt)] at hu
    exact h.2 k y u hk hu
  · have hk0 : k = l.length := by
      have := (List.getElem?_eq_some_iff.1 hk).1
      simp at this; omega
    subst hk0
    rw [List.getElem?_append_right (Nat.le_refl _)] at hk
    rw [List.getElem?_append_right (by rw [h.1]; exact Nat.le_refl _), h.1] at hu
    simp at hk hu
    subst hk hu
    exact ⟨hv, hg⟩
theorem EnOk.below {W W' : World} {row : Option Nat} {l : List (Nat × Wl.Bs)} {vs : List Value} (h : EnOk W row l vs) (hb : Below W.heap.size W W') : EnOk W' row l vs :=
  ⟨h.1, fun k x v hk hv => ⟨((h.2 k x v hk hv).1.below hb).mono hb.size, fun g hg => ⟨Nat.lt_of_lt_of_le ((h.2 k x v hk hv).2 g hg).1 hb.size, ((h.2 k x v hk hv).2 g hg).2⟩⟩⟩
/-- the row has grown: it lies where it lay, or in a new block -/
theorem EnOk.grown {W W' : World} {row : Option Nat} {g : Nat} {l : List (Nat × Wl.Bs)} {vs : List Value} (h : EnOk W row l vs) (hg : W.grownBy W' row) (hat : row = some g ∨ g = W.heap.size) : EnOk W' (some g) l vs :=
  ⟨h.1, fun k x v hk hv => ⟨(h.2 k x v hk hv).1.past hg (fun q hq => ((h.2 k x v hk hv).2 q hq).2), fun q hq => by
    have h1 := (h.2 k x v hk hv).2 q hq
    refine ⟨Nat.lt_of_lt_of_le h1.1 hg.size, fun e => ?_⟩
    cases e
    rcases hat with e | e
    · exact h1.2 e.symm
    · omega⟩⟩

theorem be_step (x : Nat) (c : UInt8) (k : Nat) (hk : k < 8) (hx : x < 256 ^ k) : bits .or .u64 (IntKind.u64.wrap ((x : Int) * 256)) (IntKind.u64.wrap (c.toNat : Int)) = ((x * 256 + c.toNat : Nat) : Int) := by
  have hc := UInt8.toNat_lt c
  have hx2 : x < 256 ^ 7 := Nat.lt_of_lt_of_le hx (Nat.pow_le_pow_right (by decide) (by omega))
  have hx3 : x < 72057594037927936 := hx2
  have w : ∀ n : Nat, n < 18446744073709551616 → IntKind.u64.wrap (n : Int) = (n : Int) := fun n hn => by simp [IntKind.wrap, IntKind.bits, IntKind.signed]; omega
  rw [show (x : Int) * 256 = ((x * 256 : Nat) : Int) from by omega, w (x * 256) (by omega), w c.toNat (by omega), u64_or_nat _ _ (by omega) (by omega)]
  congr 1
  rw [Nat.or_comm, or_shift 8 (by omega)]
  omega

theorem nextR_len (b : Wl.Bs) : (Wl.nextR b).1.length ≤ b.length := by
  unfold Wl.nextR
  split
  · simp
  · split
    · simp
    · split
      · simp
      · split
        · simp
        · show ((b.drop 8).take _).length ≤ _
          rw [List.length_take, List.length_drop]; omega

set_option maxRecDepth 100000 in
set_option maxHeartbeats 4000000 in
theorem wl_intact (W : World) (bv : Value) (b : Wl.Bs) (hb : RdB W W.heap.size bv b) (hl : b.length ≤ 1000000000) (first : Nat) (hf : first ≤ 1000000000) :
    Calls Tryz.prog 53 #[bv, .int .i64 first] W fun e W' => ∃ v vs, e = .returned (.tuple #[v, .int .i64 (Wl.intact b first).2]) ∧ W'.ownsRow W.heap.size 62 2 v (Wl.intact b first).1.length (enCells (Wl.intact b first).1 vs) ∧
      EnOk W' v.ownBlock (Wl.intact b first).1 vs ∧ (∀ v ∈ vs, ∀ q, v.ownBlock = some q → W.heap.size ≤ q) ∧ Below W.heap.size W W' := by
  obtain ⟨i0, hi, hz0, hz1, hz2⟩ := info_parts infoEnt
  obtain ⟨a, cap, rfl⟩ := hb.form
  have HB := Lib.hid hb
  clear hb
  go_enter Tryz.func53, Tryz.ntmps53
  go_wp2_with fail
  refine wp_scope_straight ?_
  go_wp2_with fail
  refine wp_label ?_
  go_wp2_with fail
  go_loopw [6, 7] (fun ov iv wr => ∃ (at_ : Nat) (out : List (Nat × Wl.Bs)) (vs : List Value), iv = .int .i64 at_ ∧ at_ ≤ b.length ∧ (∃ oa oc, ov = .slice oa out.length oc) ∧ out.length ≤ at_ ∧
      Hid (Wl.intact b first = (out ++ (Wl.intact (b.drop at_) (first + out.length)).1, at_ + (Wl.intact (b.drop at_) (first + out.length)).2)) ∧
      Hid (wr.ownsRow W.heap.size 62 2 ov out.length (enCells out vs)) ∧ Hid (EnOk wr ov.ownBlock out vs) ∧ Hid (∀ v ∈ vs, ∀ q, v.ownBlock = some q → W.heap.size ≤ q) ∧ Hid (Below W.heap.size W wr)) (fun _ iv _ => b.length - (RowKit.intOf iv).toNat)
  case atStart => exact ⟨0, [], [], rfl, Nat.zero_le _, ⟨none, 0, rfl⟩, Nat.le_refl _, Lib.hid (by simp), Lib.hid (World.ownsRow_nil _ _ _ _), Lib.hid (EnOk.nil _ _), Lib.hid (fun v hv => by cases hv), Lib.hid (Below.refl _ _)⟩
  case round =>
    obtain ⟨at_, out, vs, rfl, hat, ⟨oa, oc, rfl⟩, hol, HI, HO, HE, HG, HBL⟩ := hrel
    by_cases hlt : at_ < b.length
    · have hlti : (at_ : Int) < (b.length : Int) := by omega
      obtain ⟨g, off, rfl, -⟩ := HB.out.at 0 (by omega)
      obtain ⟨hp, hcap⟩ := HB.out.part at_ (b.length - at_) (by omega) (by omega)
      rw [List.take_of_length_le (by rw [List.length_drop]; exact Nat.le_refl _)] at hp
      have hBW := HBL.out
      have n2 := rec_Next wr _ (b.drop at_) ((hp.below hBW).mono hBW.size) (by rw [List.length_drop]; omega)
      obtain ⟨r, hr⟩ : ∃ r, r = Wl.nextR (b.drop at_) := ⟨_, rfl⟩
      have hst := Wl.intact_step (b.drop at_) (first + out.length)
      rw [if_neg (by intro h0; have := congrArg List.length h0; rw [List.length_drop] at this; simp at this; omega), ← hr] at hst
      have hsz : r.2.2 = 0 → 8 ≤ r.2.1 ∧ r.2.1 ≤ b.length - at_ := fun h => by rw [hr] at h ⊢; have := Wl.nextR_size h; rwa [List.length_drop] at this
      have hpl9 : r.1.length ≤ 1000000000 := by rw [hr]; have := nextR_len (b.drop at_); rw [List.length_drop] at this; omega
      rw [← hr] at n2
      obtain ⟨pl, sz, er⟩ := r
      simp only [] at n2 hst hsz hpl9
      have HST := Lib.hid hst
      have HSZ := Lib.hid hsz
      have k1 : ¬ cap = at_ := by omega
      have k2 : (b.length : Int) ≤ (cap : Int) := by omega
      have k3 : (at_ : Int) ≤ (b.length : Int) := by omega
      have k4 : at_ ≤ b.length := by omega
      have k5 : b.length ≤ cap := hcap
      clear hst hsz hr hp hcap hBW
      --@1
      go_wp2_with fail
      refine n2.mono ?_
      rintro e w3 ⟨v3, rfl, o3, b3⟩
      obtain ⟨pa, pc, rfl⟩ := dk_own_form o3
      have HO3 := Lib.hid o3
      have HB3 := Lib.hid b3
      clear n2 o3 b3
      --@2
      by_cases her : er = 0
      · subst her
        obtain ⟨hza, hzb⟩ := HSZ.out rfl
        by_cases hp8 : pl.length < 8
        · have hp8i : (pl.length : Int) < 8 := by omega
          have hfin : Wl.intact b first = (out, at_) := by rw [HI.out, HST.out, if_pos (.inr hp8)]; simp
          have HF := Lib.hid hfin
          clear hfin
          go_wp2_with fail
          try rw [Exit.noGoto_ret]
          go_ret2
          rw [HF.out]
          exact ⟨_, vs, rfl, own_keep HO.out (fun k hk => HB3.out.block k (HO.out.lt k hk).2), HE.out.below HB3.out, HG.out, next_S HBL.out HB3.out⟩
        · have hp8i : ¬ (pl.length : Int) < 8 := by omega
          have hrd := RdB.of_own HO3.out
          obtain ⟨g3, off3, rfl, -⟩ := hrd.at 0 (by omega)
          obtain ⟨hpd, hpc⟩ := hrd.part 8 (pl.length - 8) (by omega) (by omega)
          rw [List.take_of_length_le (by rw [List.length_drop]; exact Nat.le_refl _)] at hpd
          have HRD := Lib.hid hrd
          have q1 : (8 : Int) ≤ (pc : Int) := by omega
          have q2 : (8 : Int) ≤ (pl.length : Int) := by omega
          have q3 : (pl.length : Int) ≤ (pc : Int) := by omega
          have q4 : 8 ≤ pc := by omega
          have q5 : 8 ≤ pl.length := by omega
          have q6 : pl.length ≤ pc := hpc
          have nK : Hid (∀ o, Below w3.heap.size w3 o → ∀ ad, (pc = 8 ∧ ad = (⟨g3, off3, none⟩ : Addr)) ∨ ad = ⟨g3, off3 + 8, none⟩ → Calls Tryz.prog 82 #[.slice (some ad) (pl.length - 8) (pc - 8)] o fun e W' => ∃ v', e = .returned v' ∧ W'.ownsRow o.heap.size 5 1 v' (pl.length - 8) (dkCells (pl.drop 8)) ∧ Below o.heap.size o W') := Lib.hid (fun o ho ad had => by
            have hdl : (pl.drop 8).length = pl.length - 8 := List.length_drop
            have hr : RdB w3 w3.heap.size (.slice (some ad) (pl.length - 8) (pc - 8)) (pl.drop 8) := by
              rcases had with ⟨hc, rfl⟩ | rfl
              · have h0 : pl.drop 8 = [] := List.eq_nil_of_length_eq_zero (by omega)
                rw [h0, show pl.length - 8 = 0 from by omega]
                exact .inl ⟨rfl, _, _, rfl⟩
              · exact hpd
            have := dk_cloneB _ (pl.drop 8) o ((hr.below ho).mono ho.size) (by omega)
            rw [hdl] at this; exact this)
          clear hrd hpd hpc
          --@3
          go_wp2_with fail
          go_loopw [11, 36] (fun xv iv wi => ∃ k : Nat, iv = .int .i64 k ∧ k ≤ 8 ∧ xv = .int .u64 (Wl.beVal (pl.take k)) ∧ wi = w3) (fun _ iv _ => 8 - (RowKit.intOf iv).toNat)
          case atStart => exact ⟨0, rfl, by decide, rfl, rfl⟩
          case round =>
            obtain ⟨k, rfl, hk, rfl, rfl⟩ := hrel
            by_cases hk8 : k < 8
            · have hk8i : (k : Int) < 8 := by omega
              obtain ⟨g4, off4, e4, hcell⟩ := HRD.out.at k (by omega)
              cases e4
              have hbs := be_step (Wl.beVal (pl.take k)) pl[k] k hk8 (by have := Wl.beVal_lt (pl.take k); rwa [List.length_take, Nat.min_eq_left (by omega)] at this)
              have hnx : Wl.beVal (pl.take (k + 1)) = Wl.beVal (pl.take k) * 256 + pl[k].toNat := by
                rw [List.take_add_one, List.getElem?_eq_getElem (by omega)]
                unfold Wl.beVal
                rw [List.foldl_append]; rfl
              rw [← hnx] at hbs
              have HBS := Lib.hid hbs
              clear hbs hnx
              generalize Wl.beVal (pl.take k) = x at *
              generalize pl[k].toNat = y at *
              have hkl : k < pl.length := by omega
              go_wp2_with fail
              refine ⟨⟨k + 1, by go_num, by omega, ?_, trivial⟩, by simp [RowKit.intOf]; omega⟩
              rw [← HBS.out]
            · obtain rfl : k = 8 := by omega
              clear hk8
              have hwr : IntKind.i64.wrap ((first : Int) + (out.length : Int)) = (first : Int) + (out.length : Int) := IntWalk.i64_in _ (by omega)
              have hwu : IntKind.u64.wrap ((first : Int) + (out.length : Int)) = (first : Int) + (out.length : Int) := by simp [IntKind.wrap, IntKind.bits, IntKind.signed]; omega
              have hwz : IntKind.i64.wrap ((at_ : Int) + (sz : Int)) = (at_ : Int) + (sz : Int) := IntWalk.i64_in _ (by omega)
              by_cases heq : Wl.beVal (pl.take 8) = first + out.length
              · have hst := HST.out
                rw [if_neg (by omega), if_neg (by rw [heq]; simp), List.drop_drop] at hst
                have hnew : Wl.intact b first = ((out ++ [(first + out.length, pl.drop 8)]) ++ (Wl.intact (b.drop (at_ + sz)) (first + (out ++ [(first + out.length, pl.drop 8)]).length)).1, (at_ + sz) + (Wl.intact (b.drop (at_ + sz)) (first + (out ++ [(first + out.length, pl.drop 8)]).length)).2) := by
                  rw [HI.out, hst]
                  have e1 : first + (out ++ [(first + out.length, pl.drop 8)]).length = first + out.length + 1 := by simp; omega
                  rw [e1]
                  simp only [List.append_assoc, List.singleton_append]
                  rw [Nat.add_assoc at_ sz]
                have HNEW := Lib.hid hnew
                have HOW := Lib.hid (own_keep HO.out (fun k hk => HB3.out.block k (HO.out.lt k hk).2))
                have HEW := Lib.hid (HE.out.below HB3.out)
                have HBW := Lib.hid (next_S HBL.out HB3.out)
                rw [heq]
                clear hst hnew heq HST HSZ HO HE HBL HB3 HI HO3 HRD
                by_cases hpc8 : pc = 8
                · have nk := nK.out wr (Below.refl _ _) ⟨g3, off3, none⟩ (.inl ⟨hpc8, rfl⟩)
                  subst hpc8
                  clear q1 q4
                  have hz8 : pl.length - 8 = 0 := by omega
                  rw [hz8, Nat.sub_self] at nk
                  have HZ8 := Lib.hid hz8
                  clear hz8
                  clear nK
                  go_wp2_with fail
                  refine nk.mono ?_
                  rintro e w5 ⟨v5, rfl, o5, b5⟩
                  have hrv : RdB w5 w5.heap.size v5 (pl.drop 8) := RdB.of_own (by rw [List.length_drop, HZ8.out]; exact o5)
                  obtain ⟨va, vc, rfl⟩ : ∃ a c, v5 = .slice a 0 c := by obtain ⟨a, c, h⟩ := hrv.form; exact ⟨a, c, by rw [h, List.length_drop, HZ8.out]⟩
                  have HRV := Lib.hid hrv
                  have HB5 := Lib.hid b5
                  have HO5 := Lib.hid (own_keep HOW.out (fun k hk => b5.block k (HOW.out.lt k hk).2))
                  have HE5 := Lib.hid ((HEW.out.below b5).snoc (x := (first + out.length, pl.drop 8)) hrv (fun q hq => ⟨(o5.lt q hq).2, fun e => by have h1 := (HOW.out.lt q e.symm).2; have h2 := (o5.lt q hq).1; omega⟩))
                  have HG5 : Hid (∀ q, (Value.slice va 0 vc).ownBlock = some q → W.heap.size ≤ q) := Lib.hid (fun q hq => by have h1 := (o5.lt q hq).1; have h2 := HBW.out.size; omega)
                  clear nk o5 b5 hrv
                  go_wp2_with (at_builtin; refine wpList_append_lies _ rfl _ _ 53 rfl W.heap.size 62 i0 _ 2 32 Tryz.underlying53 hi hz0 hz1 hz2 rfl (by decide) _ _ _ rfl (HO5.out.alloc _) _ 1 1 [.int .i64 ((first : Int) + (out.length : Int)), .slice va 0 vc] rfl rfl (World.news_of_block (heap_alloc_new _ _)) (by intro u hu; simp at hu; rcases hu with rfl | rfl <;> rfl) (by decide) (by unfold maxLen; omega) (by omega) (by have h1 := HBW.out.size; have h2 := HB5.out.size; simp; omega) _ rfl ?_; intro g7 cap7 w7 hown7 hgrow7 hat7 hlt7)
                  have hb7 : Below W.heap.size W w7 := Below.grown (((next_S HBW.out HB5.out).alloc (by have h1 := HBW.out.size; have h2 := HB5.out.size; omega) _)) hgrow7 (by have h1 := HBW.out.size; have h2 := HB5.out.size; simp; omega) (fun q hq => (HO5.out.lt q hq).1)
                  refine ⟨⟨at_ + sz, out ++ [(first + out.length, pl.drop 8)], vs ++ [.slice va 0 vc], by go_num, by omega, ⟨_, _, by rw [List.length_append]; rfl⟩, by simp; omega, HNEW, Lib.hid ?_, Lib.hid ?_, Lib.hid (fun v hv q hq => by rcases List.mem_append.1 hv with hv | hv; exact HG.out v hv q hq; obtain rfl := List.mem_singleton.1 hv; exact HG5.out q hq), Lib.hid hb7⟩, by simp [RowKit.intOf]; omega⟩
                  · rw [List.length_append, enCells_snoc _ _ _ _ HEW.out.1]
                    exact hown7
                  · exact (HE5.out.below ((Below.refl _ _).alloc (Nat.le_refl _) _)).grown hgrow7 hat7
                · have nk := nK.out wr (Below.refl _ _) ⟨g3, off3 + 8, none⟩ (.inr rfl)
                  clear nK
                  go_wp2_with fail
                  refine nk.mono ?_
                  rintro e w5 ⟨v5, rfl, o5, b5⟩
                  have hrv : RdB w5 w5.heap.size v5 (pl.drop 8) := RdB.of_own (by rw [List.length_drop]; exact o5)
                  obtain ⟨va, vc, rfl⟩ : ∃ a c, v5 = .slice a (pl.length - 8) c := by obtain ⟨a, c, h⟩ := hrv.form; exact ⟨a, c, by rw [h, List.length_drop]⟩
                  have HRV := Lib.hid hrv
                  have HB5 := Lib.hid b5
                  have HO5 := Lib.hid (own_keep HOW.out (fun k hk => b5.block k (HOW.out.lt k hk).2))
                  have HE5 := Lib.hid ((HEW.out.below b5).snoc (x := (first + out.length, pl.drop 8)) hrv (fun q hq => ⟨(o5.lt q hq).2, fun e => by have h1 := (HOW.out.lt q e.symm).2; have h2 := (o5.lt q hq).1; omega⟩))
                  have HG5 : Hid (∀ q, (Value.slice va (pl.length - 8) vc).ownBlock = some q → W.heap.size ≤ q) := Lib.hid (fun q hq => by have h1 := (o5.lt q hq).1; have h2 := HBW.out.size; omega)
                  clear nk o5 b5 hrv
                  go_wp2_with (at_builtin; refine wpList_append_lies _ rfl _ _ 53 rfl W.heap.size 62 i0 _ 2 32 Tryz.underlying53 hi hz0 hz1 hz2 rfl (by decide) _ _ _ rfl (HO5.out.alloc _) _ 1 1 [.int .i64 ((first : Int) + (out.length : Int)), .slice va (pl.length - 8) vc] rfl rfl (World.news_of_block (heap_alloc_new _ _)) (by intro u hu; simp at hu; rcases hu with rfl | rfl <;> rfl) (by decide) (by unfold maxLen; omega) (by omega) (by have h1 := HBW.out.size; have h2 := HB5.out.size; simp; omega) _ rfl ?_; intro g7 cap7 w7 hown7 hgrow7 hat7 hlt7)
                  have hb7 : Below W.heap.size W w7 := Below.grown (((next_S HBW.out HB5.out).alloc (by have h1 := HBW.out.size; have h2 := HB5.out.size; omega) _)) hgrow7 (by have h1 := HBW.out.size; have h2 := HB5.out.size; simp; omega) (fun q hq => (HO5.out.lt q hq).1)
                  refine ⟨⟨at_ + sz, out ++ [(first + out.length, pl.drop 8)], vs ++ [.slice va (pl.length - 8) vc], by go_num, by omega, ⟨_, _, by rw [List.length_append]; rfl⟩, by simp; omega, HNEW, Lib.hid ?_, Lib.hid ?_, Lib.hid (fun v hv q hq => by rcases List.mem_append.1 hv with hv | hv; exact HG.out v hv q hq; obtain rfl := List.mem_singleton.1 hv; exact HG5.out q hq), Lib.hid hb7⟩, by simp [RowKit.intOf]; omega⟩
                  · rw [List.length_append, enCells_snoc _ _ _ _ HEW.out.1]
                    exact hown7
                  · exact (HE5.out.below ((Below.refl _ _).alloc (Nat.le_refl _) _)).grown hgrow7 hat7
              · have hfin : Wl.intact b first = (out, at_) := by rw [HI.out, HST.out, if_neg (by omega), if_pos heq]; simp
                have HF := Lib.hid hfin
                have hne : ¬ (Wl.beVal (pl.take 8) : Int) = (first : Int) + (out.length : Int) := by omega
                clear hfin
                generalize Wl.beVal (pl.take 8) = x at *
                go_wp2_with fail
                try rw [Exit.noGoto_ret]
                go_ret2
                rw [HF.out]
                exact ⟨_, vs, rfl, own_keep HO.out (fun k hk => HB3.out.block k (HO.out.lt k hk).2), HE.out.below HB3.out, HG.out, next_S HBL.out HB3.out⟩
      · have hfin : Wl.intact b first = (out, at_) := by rw [HI.out, HST.out, if_pos (.inl her)]; simp
        have HF := Lib.hid hfin
        clear hfin
        go_wp2_with fail
        try rw [Exit.noGoto_ret]
        go_ret2
        rw [HF.out]
        exact ⟨_, vs, rfl, own_keep HO.out (fun k hk => HB3.out.block k (HO.out.lt k hk).2), HE.out.below HB3.out, HG.out, next_S HBL.out HB3.out⟩
    · have hnlt : ¬ (at_ : Int) < (b.length : Int) := by omega
      obtain rfl : at_ = b.length := by omega
      have hfin : Wl.intact b first = (out, b.length) := by rw [HI.out]; simp [Wl.intact_nil]
      have HF := Lib.hid hfin
      clear hfin
      go_wp2_with fail
      go_ret2
      rw [HF.out]
      exact ⟨_, vs, rfl, HO.out, HE.out, HG.out, HBL.out⟩

end Go.Proofs.YtcbnbhlgikjbeaaGreatDoor
