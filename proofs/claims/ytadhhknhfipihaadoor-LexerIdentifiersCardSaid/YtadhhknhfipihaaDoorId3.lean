/-
  IDENTIFIERS: classes and prefix.
-/
import Derived.Test.YtadhhknhfipihaaDoorId2
import Derived.Test.YtadhhknhfipihaaDoorLex4
namespace Go.Proofs.YtadhhknhfipihaaDoor
open Go.RowKit Go.Lib

theorem id_infoClass : (Tryd.prog.info? 81).map (fun i => (i.zero, i.size, i.bytes)) = some (some .nilFunc, 1, 8) := by kernel_rfl

/-- the cells of the classes of spans: each function value as often as its span is long -/
def idCells (sp : List (Nat × Nat)) : List Value := sp.flatMap fun x => List.replicate x.1 (.func (.func x.2) #[] #[])
theorem idCells_append (a b : List (Nat × Nat)) : idCells (a ++ b) = idCells a ++ idCells b := by simp [idCells]
theorem idCells_take (sp : List (Nat × Nat)) (k : Nat) (x : Nat × Nat) (h : sp[k]? = some x) : idCells (sp.take (k + 1)) = idCells (sp.take k) ++ List.replicate x.1 (.func (.func x.2) #[] #[]) := by
  obtain ⟨hk, hx⟩ := List.getElem?_eq_some_iff.1 h
  rw [List.take_succ_eq_append_getElem hk, idCells_append, hx]
  simp [idCells]
theorem idCells_take_le (sp : List (Nat × Nat)) (k : Nat) : (idCells (sp.take k)).length ≤ (idCells sp).length := by
  conv => rhs; rw [← List.take_append_drop k sp]
  rw [idCells_append]; simp

/-- a block of spans -/
def IdSpans (W : World) (sb so : Nat) (sp : List (Nat × Nat)) : Prop := ∀ (j : Nat) (x : Nat × Nat), sp[j]? = some x →
  W.cell? ⟨sb, so + j * 2, none⟩ = some (.int .i64 (x.1 : Int)) ∧ W.cell? ⟨sb, so + j * 2 + 1, none⟩ = some (.func (.func x.2) #[] #[])
theorem IdSpans.below {W W' : World} {sb so : Nat} {sp : List (Nat × Nat)} (h : IdSpans W sb so sp) (hb : Below W.heap.size W W') : IdSpans W' sb so sp := fun j x hx => by
  obtain ⟨h1, h2⟩ := h j x hx
  exact ⟨(hb.cell (p := ⟨sb, so + j * 2, none⟩) (lx_lt h1)).trans h1, (hb.cell (p := ⟨sb, so + j * 2 + 1, none⟩) (lx_lt h2)).trans h2⟩

set_option maxRecDepth 100000 in
set_option maxHeartbeats 2000000 in
theorem id_classes (a b : Int) (chk : Value) (sb so sc : Nat) (sp : List (Nat × Nat)) (w : World) (hsp : IdSpans w sb so sp) (hn : sp.length ≤ 64) (htot : (idCells sp).length ≤ 1024) (hx : ∀ x ∈ sp, x.1 ≤ 1024) :
    Calls Tryd.prog 37 #[.agg #[.int .i64 a, .slice (some ⟨sb, so, none⟩) sp.length sc, .int .i64 b, chk]] w fun e w' => ∃ v, e = .returned v ∧
      w'.ownsRow w.heap.size 81 1 v (idCells sp).length (idCells sp) ∧ Below w.heap.size w w' := by
  obtain ⟨i0, hi, hz0, hz1, hz2⟩ := info_parts id_infoClass
  have H := Lib.hid hsp
  have HX := Lib.hid hx
  clear hsp hx
  go_enter Tryd.func37, Tryd.ntmps37
  go_wp2_with fail
  go_loopw [3, 9] (fun v i wr => ∃ k : Nat, k ≤ sp.length ∧ i = .int .i64 k ∧ Below w.heap.size w wr ∧ wr.ownsRow w.heap.size 81 1 v (idCells (sp.take k)).length (idCells (sp.take k))) (fun _ i _ => sp.length - (RowKit.intOf i).toNat)
  case atStart => exact ⟨0, Nat.zero_le _, rfl, (Below.refl _ _).alloc (Nat.le_refl _) _, World.ownsRow_nil _ _ _ _⟩
  case round =>
    obtain ⟨k, hk, rfl, hbel, hown⟩ := hrel
    by_cases hlt : k < sp.length
    · have hget : sp[k]? = some sp[k] := List.getElem?_eq_getElem hlt
      have hxk := HX.out sp[k] (List.getElem_mem hlt)
      have HS := Lib.hid (idCells_take sp k _ hget)
      obtain ⟨c0, c1⟩ := (H.out.below hbel) k _ hget
      have hle := idCells_take_le sp (k + 1)
      rw [HS.out, List.length_append, List.length_replicate] at hle
      clear hget
      generalize sp[k] = x at *
      obtain ⟨n, f⟩ := x
      simp only at c0 c1 hxk hle HS
      have hsb := lx_lt c0
      obtain ⟨wo, rfl⟩ : ∃ wo : World, wo = wr := ⟨_, rfl⟩
      go_wp2_with fail
      go_loopw [3, 15] (fun v i wr => ∃ j : Nat, j ≤ n ∧ i = .int .i64 j ∧ Below w.heap.size w wr ∧ wo.heap.size < wr.heap.size ∧ wr.heap[wo.heap.size]? = some (.cells #[.int .i64 (n : Int), .func (.func f) #[] #[]] 83 (0, 0)) ∧
        wr.ownsRow w.heap.size 81 1 v ((idCells (sp.take k)).length + j) (idCells (sp.take k) ++ List.replicate j (.func (.func f) #[] #[]))) (fun _ i _ => n - (RowKit.intOf i).toNat)
      case atStart => exact ⟨0, Nat.zero_le _, rfl, hbel.alloc hbel.size _, by simp, heap_alloc_new wo _, by simpa using hown.alloc _⟩
      case round =>
        obtain ⟨j, hj, rfl, hbel2, hsz2, hblk, hown2⟩ := hrel
        have hcell : wr.cell? ⟨wo.heap.size, 1, none⟩ = some (.func (.func f) #[] #[]) := by simp [World.cell?, hblk]
        have HB := Lib.hid hblk
        clear hblk
        by_cases hj2 : j < n
        · go_wp2_with (at_builtin; refine wpList_append_own _ rfl _ _ 70 rfl w.heap.size 81 i0 _ 1 8 Tryd.underlying70 hi hz0 hz1 hz2 rfl (by decide) _ _ _ rfl (hown2.alloc _) ⟨wr.heap.size, 0, none⟩ 1 1 [.func (.func f) #[] #[]] rfl rfl ?c1 ?c2 ?c3 ?c4 ?c5 ?_)
          case c1 =>
            intro jj u hjj
            match jj, hjj with
            | 0, hjj => simp at hjj; subst hjj; simp [Addr.add]
            | jj + 1, hjj => simp at hjj
          case c2 => intro u hu; simp at hu; subst hu; rfl
          case c3 => unfold maxLen; omega
          case c4 => omega
          case c5 => have := hbel2.size; simp; omega
          intro v' w3 hown3 hgrow3 _
          have hbel3 := (hbel2.alloc hbel2.size (.cells #[.func (.func f) #[] #[]] 81)).grown hgrow3 (by have := hbel2.size; simp; omega) (fun k hk => (hown2.lt k hk).1)
          have hsz3 : wo.heap.size < w3.heap.size := by have := hgrow3.size; simp at this; omega
          have hne3 : some wo.heap.size ≠ Value.ownBlock u3 := fun e => by
            rcases hown2.2 with ⟨rfl, _⟩ | ⟨g, cap, cur, rfl, hg, hh, _⟩
            · simp [Value.ownBlock] at e
            · simp [Value.ownBlock] at e
              have := HB.out
              rw [e, hh] at this
              simp at this
          have hblk3 : w3.heap[wo.heap.size]? = some (.cells #[.int .i64 (n : Int), .func (.func f) #[] #[]] 83 (0, 0)) := by
            rw [hgrow3.block _ (by simp; omega) hne3, heap_alloc_old]
            · exact HB.out
            · exact hsz2
          have HB3 := Lib.hid hblk3
          clear hblk3 hgrow3 hne3
          go_wp2_with fail
          go_roundw
          case rel => exact ⟨j + 1, by omega, by go_num, hbel3, hsz3, HB3.out, by rw [List.replicate_succ']; simpa [Nat.add_assoc] using hown3⟩
          case measure => simp [RowKit.intOf]; omega
        · obtain rfl : j = n := by omega
          go_wp2_with fail
          go_roundw
          case rel => exact ⟨k + 1, by omega, by go_num, hbel2, by rw [HS.out, List.length_append, List.length_replicate]; exact hown2⟩
          case measure => simp [RowKit.intOf]; omega
    · obtain rfl : k = sp.length := by omega
      go_wp2_with fail
      go_ret
      rw [List.take_length] at hown
      exact ⟨_, rfl, hown, hbel⟩

/-- the functions of a list of classes, and what each of them tells -/
def IdTab (cl : List (Nat × (Int → Bool))) : Prop := ∀ x ∈ cl, LxClass x.1 x.2

/-- does a byte break its class? -/
def idBad (ps : List (Int → Bool)) (s : ByteArray) (k : Nat) : Bool := decide (k < s.size) && !((ps.getD k fun _ => true) (PlainAid.bt s k))
/-- the error of prefix: 3 a byte that breaks its class, 4 too short, 5 too long -/
def idPrefix (ps : List (Int → Bool)) (shortest : Int) (s : ByteArray) : Int :=
  if (List.range ps.length).any (idBad ps s) then 3 else if (s.size : Int) < shortest then 4 else if ps.length < s.size then 5 else 0

set_option maxRecDepth 100000 in
set_option maxHeartbeats 2000000 in
theorem id_prefix (cl : List (Nat × (Int → Bool))) (hcl : IdTab cl) (g cap : Nat) (a : Int) (s : ByteArray) (w : World) (hs : s.size ≤ 1073741824) (hn : cl.length ≤ 1024) (_ha0 : 0 ≤ a) (_ha1 : a ≤ 64)
    (hc : ∀ (k : Nat) x, cl[k]? = some x → w.cell? ⟨g, k, none⟩ = some (.func (.func x.1) #[] #[])) :
    Calls Tryd.prog 36 #[.slice (some ⟨g, 0, none⟩) cl.length cap, .int .i64 a, .string s] w fun e w' => (∃ t : Int, e = .returned (.tuple #[.int .i64 t, .int .i64 (idPrefix (cl.map (·.2)) a s)])) ∧ w = w' := by
  have HC := Lib.hid hc
  have HT := Lib.hid hcl
  clear hc hcl
  have hb := PlainAid.get_bt s
  go_enter Tryd.func36, Tryd.ntmps36
  go_wp2_with fail
  go_loop [12] (fun i => ∃ k : Nat, k ≤ cl.length ∧ i = .int .i64 k ∧ ∀ j, j < k → idBad (cl.map (·.2)) s j = false) (fun i => cl.length - (RowKit.intOf i).toNat)
  case atStart => exact ⟨0, Nat.zero_le _, rfl, fun j hj => by omega⟩
  case round =>
    obtain ⟨k, hk, rfl, hprev⟩ := hrel
    have HP := Lib.hid hprev
    clear hprev
    by_cases hlt : k < cl.length
    · have hget : cl[k]? = some cl[k] := List.getElem?_eq_getElem hlt
      have hcell := HC.out k _ hget
      obtain ⟨eg, hp⟩ := HT.out cl[k] (List.getElem_mem hlt)
      have HBAD : Hid (idBad (cl.map (·.2)) s k = (decide (k < s.size) && !(cl[k].2 (PlainAid.bt s k)))) := by
        show _ = _
        unfold idBad
        rw [List.getD_eq_getElem?_getD, List.getElem?_map, hget]
        rfl
      clear hget
      generalize cl[k] = x at *
      obtain ⟨f, p⟩ := x
      simp only at hcell eg hp HBAD
      by_cases hks : k < s.size
      · have hcall := fun W => hp (PlainAid.bt s k) W (PlainAid.bt_nonneg s k) (by have := PlainAid.bt_le s k; omega)
        clear hp
        cases hq : p (PlainAid.bt s k) with
        | true =>
          rw [hq] at hcall HBAD
          clear hq
          go_wp2_with (go_at_fn f; refine (hcall _).mono ?_; rintro e w' ⟨rfl, rfl⟩)
          go_round
          case rel =>
            refine ⟨k + 1, by omega, by go_num, fun j hj => ?_⟩
            by_cases e : j = k
            · subst e; rw [HBAD.out]; simp
            · exact HP.out j (by omega)
          case measure => simp [RowKit.intOf]; omega
        | false =>
          rw [hq] at hcall HBAD
          clear hq
          go_wp2_with (go_at_fn f; refine (hcall _).mono ?_; rintro e w' ⟨rfl, rfl⟩)
          go_ret2
          have h3 : idPrefix (cl.map (·.2)) a s = 3 := by
            unfold idPrefix
            rw [if_pos]
            rw [List.any_eq_true]
            exact ⟨k, by simpa using hlt, by rw [HBAD.out]; simpa using hks⟩
          rw [h3]
          exact ⟨⟨_, rfl⟩, rfl⟩
      · clear hp
        go_wp2_with fail
        go_round
        case rel =>
          refine ⟨k + 1, by omega, by go_num, fun j hj => ?_⟩
          by_cases e : j = k
          · subst e; rw [HBAD.out]; simp [hks]
          · exact HP.out j (by omega)
        case measure => simp [RowKit.intOf]; omega
    · obtain rfl : k = cl.length := by omega
      have HF : Hid (idPrefix (cl.map (·.2)) a s = if (s.size : Int) < a then 4 else if cl.length < s.size then 5 else 0) := by
        show _ = _
        unfold idPrefix
        rw [if_neg]
        · simp
        · rw [List.any_eq_true]
          rintro ⟨j, hj, hj2⟩
          rw [HP.out j (by simpa using hj)] at hj2
          exact absurd hj2 (by simp)
      clear hb
      by_cases h4 : (s.size : Int) < a
      · go_wp2_with fail
        go_ret2
        rw [HF.out, if_pos h4]
        exact ⟨⟨_, rfl⟩, rfl⟩
      · by_cases h5 : cl.length < s.size
        · go_wp2_with fail
          go_ret2
          rw [HF.out, if_neg (by omega), if_pos h5]
          exact ⟨⟨_, rfl⟩, rfl⟩
        · go_wp2_with fail
          go_ret2
          rw [HF.out, if_neg (by omega), if_neg (by omega)]
          exact ⟨⟨_, rfl⟩, rfl⟩

end Go.Proofs.YtadhhknhfipihaaDoor
