/-
  ident.Valid: whatever the size.
-/
import Derived.Test.YthijakidnkhbnaaGreatDoorIdWalk
namespace Go.Proofs.YthijakidnkhbnaaGreatDoor
open Go.RowKit

set_option maxRecDepth 100000 in
set_option maxHeartbeats 2000000 in
theorem id_prefixA (cl : List (Nat × (Int → Bool))) (hcl : IdTab cl) (g cap : Nat) (a : Int) (s : ByteArray) (w : World) (hn : cl.length ≤ 1024) (_ha0 : 0 ≤ a) (_ha1 : a ≤ 64)
    (hc : ∀ (k : Nat) x, cl[k]? = some x → w.cell? ⟨g, k, none⟩ = some (.func (.func x.1) #[] #[])) :
    Calls Tryz.prog 140 #[.slice (some ⟨g, 0, none⟩) cl.length cap, .int .i64 a, .string s] w fun e w' => (∃ t : Int, e = .returned (.tuple #[.int .i64 t, .int .i64 (idPrefix (cl.map (·.2)) a s)])) ∧ w = w' := by
  have HC := Lib.hid hc
  have HT := Lib.hid hcl
  clear hc hcl
  have hb := PlainAid.get_bt s
  go_enter Tryz.func140, Tryz.ntmps140
  go_wp2_with fail
  go_loop [12] (fun i => ∃ k : Nat, k ≤ cl.length ∧ i = .int .i64 k ∧ ∀ j, j < k → idBad (cl.map (·.2)) s j = false) (fun i => cl.length - (RowKit.intOf i).toNat)
  case atStart => exact ⟨0, Nat.zero_le _, rfl, fun j hj => by omega⟩
  case round =>
    obtain ⟨k, hk, rfl, hprev⟩ := hrel
    have HP := Lib.hid hprev
    clear hprev
    by_cases hlt : k < cl.length
    · have hget : cl[k]? = some cl[k] := List.getElem?_eq_getElem hlt
      have hcell := HC.out k _ hget
      obtain ⟨eg, hp⟩ := HT.out cl[k] (List.getElem_mem hlt)
      have HBAD : Hid (idBad (cl.map (·.2)) s k = (decide (k < s.size) && !(cl[k].2 (PlainAid.bt s k)))) := by
        show _ = _
        unfold idBad
        rw [List.getD_eq_getElem?_getD, List.getElem?_map, hget]
        rfl
      clear hget
      generalize cl[k] = x at *
      obtain ⟨f, p⟩ := x
      simp only at hcell eg hp HBAD
      by_cases hks : k < s.size
      · have hcall := fun W => hp (PlainAid.bt s k) W (PlainAid.bt_nonneg s k) (by have := PlainAid.bt_le s k; omega)
        clear hp
        cases hq : p (PlainAid.bt s k) with
        | true =>
          rw [hq] at hcall HBAD
          clear hq
          go_wp2_with (go_at_fn f; refine (hcall _).mono ?_; rintro e w' ⟨rfl, rfl⟩)
          go_round
          case rel =>
            refine ⟨k + 1, by omega, by go_num, fun j hj => ?_⟩
            by_cases e : j = k
            · subst e; rw [HBAD.out]; simp
            · exact HP.out j (by omega)
          case measure => simp [RowKit.intOf]; omega
        | false =>
          rw [hq] at hcall HBAD
          clear hq
          go_wp2_with (go_at_fn f; refine (hcall _).mono ?_; rintro e w' ⟨rfl, rfl⟩)
          go_ret2
          have h3 : idPrefix (cl.map (·.2)) a s = 3 := by
            unfold idPrefix
            rw [if_pos]
            rw [List.any_eq_true]
            exact ⟨k, by simpa using hlt, by rw [HBAD.out]; simpa using hks⟩
          rw [h3]
          exact ⟨⟨_, rfl⟩, rfl⟩
      · clear hp
        go_wp2_with fail
        go_round
        case rel =>
          refine ⟨k + 1, by omega, by go_num, fun j hj => ?_⟩
          by_cases e : j = k
          · subst e; rw [HBAD.out]; simp [hks]
          · exact HP.out j (by omega)
        case measure => simp [RowKit.intOf]; omega
    · obtain rfl : k = cl.length := by omega
      have HF : Hid (idPrefix (cl.map (·.2)) a s = if (s.size : Int) < a then 4 else if cl.length < s.size then 5 else 0) := by
        show _ = _
        unfold idPrefix
        rw [if_neg]
        · simp
        · rw [List.any_eq_true]
          rintro ⟨j, hj, hj2⟩
          rw [HP.out j (by simpa using hj)] at hj2
          exact absurd hj2 (by simp)
      clear hb
      by_cases h4 : (s.size : Int) < a
      · go_wp2_with fail
        go_ret2
        rw [HF.out, if_pos h4]
        exact ⟨⟨_, rfl⟩, rfl⟩
      · by_cases h5 : cl.length < s.size
        · go_wp2_with fail
          go_ret2
          rw [HF.out, if_neg (by omega), if_pos h5]
          exact ⟨⟨_, rfl⟩, rfl⟩
        · go_wp2_with fail
          go_ret2
          rw [HF.out, if_neg (by omega), if_neg (by omega)]
          exact ⟨⟨_, rfl⟩, rfl⟩

set_option maxRecDepth 100000 in
set_option maxHeartbeats 2000000 in
theorem id_check_nilA (k : Nat) (hk : k < 4) (hnil : (idRow k).chk = .nilFunc) (s : ByteArray) (w : World) (h : IdEnv w) :
    Calls Tryz.prog 101 #[.int .i64 k, .string s] w fun e w' => (∃ t : Int, e = .returned (.tuple #[.int .i64 t, .int .i64 (idFits k s)])) ∧ Below w.heap.size w w' := by
  obtain ⟨sb, so, sc, c0, c1, c2, c3, hsp⟩ := h k hk
  rw [hnil] at c3
  obtain ⟨hl1, hl2⟩ := idRow_len k
  have hk4 : (k : Int) < 4 := by omega
  have htot : (idCells (idRow k).sp).length ≤ 20 := by rw [idTab_cells k hk, List.length_map]; exact idTab_len k
  have HCL := Lib.hid (fun (a b : Int) (chk : Value) (W : World) (hW : IdSpans W sb so (idRow k).sp) => id_classes a b chk sb so sc (idRow k).sp W hW (by omega) (by omega) (fun x hx => by have := hl2 x hx; omega))
  have HPF := Lib.hid (fun (g cap : Nat) (W : World) (hW : ∀ (j : Nat) x, (idTab k)[j]? = some x → W.cell? ⟨g, j, none⟩ = some (.func (.func x.1) #[] #[])) =>
    id_prefixA (idTab k) (idTab_tab k) g cap (idRow k).low s W (by have := idTab_len k; omega) (id_low k).1 (by have := (id_low k).2; omega) hW)
  have HSP : Hid (∀ o, IdSpans (w.alloc o) sb so (idRow k).sp) := Lib.hid fun o => hsp.below ((Below.refl _ w).alloc (Nat.le_refl _) o)
  have HFM := Lib.hid (fun (W : World) (v : Value) (B : Nat) => id_form (W := W) (B := B) (v := v) hk)
  have HFIT : Hid (idFits k s = idPrefix ((idTab k).map (·.2)) (idRow k).low s) := rfl
  clear hsp hnil hl1 hl2 htot h
  generalize (idRow k).low = low at *
  generalize (idRow k).body = body at *
  generalize (idRow k).sp = sp at *
  go_enter Tryz.func101, Tryz.ntmps101
  go_wp2_with fail
  go_region_held3 (fun w' => w'.cell? ⟨w.heap.size, 0, none⟩ = some (.int .i64 low) ∧ w'.cell? ⟨w.heap.size, 1, none⟩ = some (.slice (some ⟨sb, so, none⟩) sp.length sc) ∧ w'.cell? ⟨w.heap.size, 2, none⟩ = some (.int .i64 body) ∧ w'.cell? ⟨w.heap.size, 3, none⟩ = some .nilFunc)
    (go_keep)
    (first
      | (go_at_call 141; refine (HCL.out _ _ _ _ ?_).mono ?_; (exact HSP.out _); rintro e w1 ⟨v, rfl, hown, hb1⟩; obtain ⟨g, cap, rfl, hg⟩ := HFM.out _ _ _ hown; have k0 := (hb1.cell (p := ⟨w.heap.size, 0, none⟩) (by simp)).trans (show _ = some (Value.int .i64 low) by simp); have k1 := (hb1.cell (p := ⟨w.heap.size, 1, none⟩) (by simp)).trans (show _ = some (Value.slice (some ⟨sb, so, none⟩) sp.length sc) by simp); have k2 := (hb1.cell (p := ⟨w.heap.size, 2, none⟩) (by simp)).trans (show _ = some (Value.int .i64 body) by simp); have k3 := (hb1.cell (p := ⟨w.heap.size, 3, none⟩) (by simp)).trans (show _ = some Value.nilFunc by simp); have HG := Lib.hid hg; clear hg)
      | (go_at_call 140; refine (HPF.out _ _ _ ?_).mono ?_; (exact HG.out); rintro e w2 ⟨⟨t, rfl⟩, rfl⟩))
  rw [← HFIT.out]
  obtain ⟨fit, HF⟩ : ∃ fit : Int, Hid (idFits k s = fit) := ⟨_, Lib.hid rfl⟩
  rw [HF.out]
  have hball : Below w.heap.size w w1 := Below.trans (((Below.refl w.heap.size w).alloc (Nat.le_refl _) _).drew) (hb1.mono (B' := w.heap.size) (by simp))
  clear hb1
  by_cases hfit : fit = 0
  · subst hfit
    go_wp2_with fail
    go_quiet (fail)
    go_wp2_with fail
    go_ret2
    exact ⟨⟨_, by rw [HF.out]; rfl⟩, by first | assumption | exact below_drewN' (by assumption) _⟩
  · have hbf : (fit != 0) = true := by simpa using hfit
    clear hfit
    go_wp2_with fail
    go_ret2
    exact ⟨⟨_, by rw [HF.out]; rfl⟩, hball⟩

set_option maxRecDepth 100000 in
set_option maxHeartbeats 2000000 in
theorem idx_check_genA (k : Nat) (hk : k < 4) (cf bn : Nat) (hchk : (idRow k).chk = .func (.func cf) #[] #[]) (hbn : (idRow k).body = (bn : Int)) (_hbn2 : bn ≤ 64) (s : ByteArray) (w : World) (h : IdEnv w) (R : ByteArray) (code : Int) (hcode : Hid (code = if idFits k s ≠ 0 then idFits k s else if (R.toList == (s.extract bn s.size).toList) = true then 0 else 18))
    (ec : ∀ args w, (callFunc cf args).run Tryz.prog w = .ok (.enter cf args) w)
    (hck : idFits k s = 0 → bn ≤ s.size ∧ ∀ W, Calls Tryz.prog cf #[.string (s.extract 0 bn)] W fun e w' => e = .returned (.string R) ∧ Below W.heap.size W w') :
    Calls Tryz.prog 101 #[.int .i64 k, .string s] w fun e w' => (∃ t : Int, e = .returned (.tuple #[.int .i64 t, .int .i64 code])) ∧ Below w.heap.size w w' := by
  obtain ⟨sb, so, sc, c0, c1, c2, c3, hsp⟩ := h k hk
  rw [hchk] at c3
  rw [hbn] at c2
  obtain ⟨hl1, hl2⟩ := idRow_len k
  have hk4 : (k : Int) < 4 := by omega
  have htot : (idCells (idRow k).sp).length ≤ 20 := by rw [idTab_cells k hk, List.length_map]; exact idTab_len k
  have HCL := Lib.hid (fun (a b : Int) (chk : Value) (W : World) (hW : IdSpans W sb so (idRow k).sp) => id_classes a b chk sb so sc (idRow k).sp W hW (by omega) (by omega) (fun x hx => by have := hl2 x hx; omega))
  have HPF := Lib.hid (fun (g cap : Nat) (W : World) (hW : ∀ (j : Nat) x, (idTab k)[j]? = some x → W.cell? ⟨g, j, none⟩ = some (.func (.func x.1) #[] #[])) =>
    id_prefixA (idTab k) (idTab_tab k) g cap (idRow k).low s W (by have := idTab_len k; omega) (id_low k).1 (by have := (id_low k).2; omega) hW)
  have HSP : Hid (∀ o, IdSpans (w.alloc o) sb so (idRow k).sp) := Lib.hid fun o => hsp.below ((Below.refl _ w).alloc (Nat.le_refl _) o)
  have HFM := Lib.hid (fun (W : World) (v : Value) (B : Nat) => id_form (W := W) (B := B) (v := v) hk)
  have HFIT : Hid (idFits k s = idPrefix ((idTab k).map (·.2)) (idRow k).low s) := rfl
  have HCK := Lib.hid hck
  clear hsp hchk hl1 hl2 htot h hck
  generalize (idRow k).low = low at *
  generalize (idRow k).body = body at *
  generalize (idRow k).sp = sp at *
  subst hbn
  go_enter Tryz.func101, Tryz.ntmps101
  go_wp2_with fail
  go_region_held3 (fun w' => w'.cell? ⟨w.heap.size, 0, none⟩ = some (.int .i64 low) ∧ w'.cell? ⟨w.heap.size, 1, none⟩ = some (.slice (some ⟨sb, so, none⟩) sp.length sc) ∧ w'.cell? ⟨w.heap.size, 2, none⟩ = some (.int .i64 bn) ∧ w'.cell? ⟨w.heap.size, 3, none⟩ = some (.func (.func cf) #[] #[]))
    (go_keep)
    (first
      | (go_at_call 141; refine (HCL.out _ _ _ _ ?_).mono ?_; (exact HSP.out _); rintro e w1 ⟨v, rfl, hown, hb1⟩; obtain ⟨g, cap, rfl, hg⟩ := HFM.out _ _ _ hown; have k0 := (hb1.cell (p := ⟨w.heap.size, 0, none⟩) (by simp)).trans (show _ = some (Value.int .i64 low) by simp); have k1 := (hb1.cell (p := ⟨w.heap.size, 1, none⟩) (by simp)).trans (show _ = some (Value.slice (some ⟨sb, so, none⟩) sp.length sc) by simp); have k2 := (hb1.cell (p := ⟨w.heap.size, 2, none⟩) (by simp)).trans (show _ = some (Value.int .i64 bn) by simp); have k3 := (hb1.cell (p := ⟨w.heap.size, 3, none⟩) (by simp)).trans (show _ = some (Value.func (.func cf) #[] #[]) by simp); have HG := Lib.hid hg; clear hg)
      | (go_at_call 140; refine (HPF.out _ _ _ ?_).mono ?_; (exact HG.out); rintro e w2 ⟨⟨t, rfl⟩, rfl⟩))
  rw [← HFIT.out]
  obtain ⟨fit, HF⟩ : ∃ fit : Int, Hid (idFits k s = fit) := ⟨_, Lib.hid rfl⟩
  rw [HF.out]
  have hball : Below w.heap.size w w1 := Below.trans (((Below.refl w.heap.size w).alloc (Nat.le_refl _) _).drew) (hb1.mono (B' := w.heap.size) (by simp))
  have hsz1 : w.heap.size < w1.heap.size := by have := hb1.size; simp at this; omega
  clear hb1
  by_cases hfit : fit = 0
  · subst hfit
    obtain ⟨hbs, hck⟩ := HCK.out HF.out
    have HCK2 := Lib.hid hck
    clear hck
    have hbs0 : (bn : Int) ≤ (s.size : Int) := by omega
    go_wp2_with fail
    go_region_held3 (fun w' => Below w.heap.size w w' ∧ w.heap.size < w'.heap.size ∧ w'.cell? ⟨w.heap.size, 2, none⟩ = some (.int .i64 bn) ∧ w'.cell? ⟨w.heap.size, 3, none⟩ = some (.func (.func cf) #[] #[]))
      (first | assumption | exact Below.drew (by assumption) | (refine ⟨?_, ?_, ?_, ?_⟩ <;> first | assumption | exact Below.drew (by assumption) | go_keep) | go_keep)
      (first
        | (go_at_fn cf; refine (HCK2.out _).mono ?_; rintro e w3 ⟨rfl, hb3⟩; have hS3 := id_S_step (by assumption) hb3))
    obtain ⟨hb4, hsz4, k4, k5⟩ := hS3
    clear hb3
    generalize hq : (R.toList == (s.extract bn s.size).toList) = q
    have HQ : Hid (code = if q = true then 0 else 18) := Lib.hid (by rw [hcode.out, HF.out, if_neg (by simp), hq])
    clear hq
    cases q with
    | true =>
      go_wp2_with fail
      go_ret2
      rw [HQ.out]
      exact ⟨⟨_, rfl⟩, hb4⟩
    | false =>
      go_wp2_with fail
      go_ret2
      rw [HQ.out]
      exact ⟨⟨_, rfl⟩, hb4⟩
  · have hbf : (fit != 0) = true := by simpa using hfit
    have HNE := Lib.hid hfit
    clear hfit
    go_wp2_with fail
    go_ret2
    rw [hcode.out, HF.out, if_pos HNE.out]
    exact ⟨⟨_, rfl⟩, hball⟩

theorem idx_checkA (k : Nat) (hk : k < 3) (s : ByteArray) (w : World) (h : IdEnv w) :
    Calls Tryz.prog 101 #[.int .i64 k, .string s] w fun e w' => (∃ t : Int, e = .returned (.tuple #[.int .i64 t, .int .i64 (idCheckE k s)])) ∧ Below w.heap.size w w' := by
  match k, hk with
  | 0, _ =>
    refine idx_check_genA 0 (by decide) 259 11 rfl rfl (by omega) s w h ⟨(Id.luhn (s.data.toList.take 11)).toArray⟩ (idCheckE 0 s) (Lib.hid ?_) (enters_of Tryz.func259 (by kernel_rfl) rfl) (fun h0 => ⟨?_, fun W => (id_luhn _ W ?_ (id_body_alnum 0 (Or.inl rfl) s 11 h0)).mono ?_⟩)
    · unfold idCheckE
      rw [toList_mk, extract_to]
      simp only [if_pos, beq_iff_eq]
    · have := (idFits_facts 0 s h0).1
      simp [idRow] at this; omega
    · simp [ByteArray.size_extract]; omega
    · rintro e w' ⟨rfl, hb⟩
      rw [extract_upto]
      exact ⟨rfl, hb⟩
  | 1, _ =>
    have e1 : idCheckE 1 s = idFits 1 s := by unfold idCheckE; split <;> simp_all
    rw [e1]
    exact id_check_nilA 1 (by decide) rfl s w h
  | 2, _ =>
    have e1 : idCheckE 2 s = idFits 2 s := by unfold idCheckE; split <;> simp_all
    rw [e1]
    exact id_check_nilA 2 (by decide) rfl s w h

theorem idx_validA (k : Nat) (hk : k < 3) (s : ByteArray) (w : World) (h : IdEnv w) :
    Calls Tryz.prog 65 #[.int .i64 k, .string s] w fun e w' => e = .returned (.bool (idCheckE k s == 0)) ∧ Below w.heap.size w w' :=
  idx_validL k s w _ _ rfl (idx_checkA k hk s w h)

end Go.Proofs.YthijakidnkhbnaaGreatDoor
