/-
  IDENTIFIERS: Check with check digits; Valid.
-/
import Derived.Test.YtadhhknhfipihaaDoorId4
import Derived.Test.YtadhhknhfipihaaDoorId2
namespace Go.Proofs.YtadhhknhfipihaaDoor
open Go.RowKit Go.Lib

theorem id_S_step {w W w3 : World} {bn cf : Nat} (h : Below w.heap.size w W ∧ w.heap.size < W.heap.size ∧ W.cell? ⟨w.heap.size, 2, none⟩ = some (.int .i64 bn) ∧ W.cell? ⟨w.heap.size, 3, none⟩ = some (.func (.func cf) #[] #[])) (hb : Below W.heap.size W w3) :
    Below w.heap.size w w3 ∧ w.heap.size < w3.heap.size ∧ w3.cell? ⟨w.heap.size, 2, none⟩ = some (.int .i64 bn) ∧ w3.cell? ⟨w.heap.size, 3, none⟩ = some (.func (.func cf) #[] #[]) := by
  obtain ⟨h1, h2, h3, h4⟩ := h
  refine ⟨h1.trans (hb.mono h1.size), Nat.lt_of_lt_of_le h2 hb.size, (hb.cell (p := ⟨w.heap.size, 2, none⟩) h2).trans h3, (hb.cell (p := ⟨w.heap.size, 3, none⟩) h2).trans h4⟩

set_option maxRecDepth 100000 in
set_option maxHeartbeats 2000000 in
theorem id_check_gen (k : Nat) (hk : k < 4) (cf bn : Nat) (hchk : (idRow k).chk = .func (.func cf) #[] #[]) (hbn : (idRow k).body = (bn : Int)) (_hbn2 : bn ≤ 64) (s : ByteArray) (w : World) (hs : s.size ≤ 1073741824) (h : IdEnv w)
    (ec : ∀ args w, (callFunc cf args).run Tryd.prog w = .ok (.enter cf args) w)
    (hck : idFits k s = 0 → bn ≤ s.size ∧ ∀ W, Calls Tryd.prog cf #[.string (s.extract 0 bn)] W fun e w' => ∃ r, e = .returned (.string r) ∧ Below W.heap.size W w') :
    Calls Tryd.prog 17 #[.int .i64 k, .string s] w fun e w' => (∃ t x : Int, e = .returned (.tuple #[.int .i64 t, .int .i64 x]) ∧ (x = 0 → idFits k s = 0)) ∧ Below w.heap.size w w' := by
  obtain ⟨sb, so, sc, c0, c1, c2, c3, hsp⟩ := h k hk
  rw [hchk] at c3
  rw [hbn] at c2
  obtain ⟨hl1, hl2⟩ := idRow_len k
  have hk4 : (k : Int) < 4 := by omega
  have htot : (idCells (idRow k).sp).length ≤ 20 := by rw [idTab_cells k hk, List.length_map]; exact idTab_len k
  have HCL := Lib.hid (fun (a b : Int) (chk : Value) (W : World) (hW : IdSpans W sb so (idRow k).sp) => id_classes a b chk sb so sc (idRow k).sp W hW (by omega) (by omega) (fun x hx => by have := hl2 x hx; omega))
  have HPF := Lib.hid (fun (g cap : Nat) (W : World) (hW : ∀ (j : Nat) x, (idTab k)[j]? = some x → W.cell? ⟨g, j, none⟩ = some (.func (.func x.1) #[] #[])) =>
    id_prefix (idTab k) (idTab_tab k) g cap (idRow k).low s W hs (by have := idTab_len k; omega) (id_low k).1 (by have := (id_low k).2; omega) hW)
  have HSP : Hid (∀ o, IdSpans (w.alloc o) sb so (idRow k).sp) := Lib.hid fun o => hsp.below ((Below.refl _ w).alloc (Nat.le_refl _) o)
  have HFM := Lib.hid (fun (W : World) (v : Value) (B : Nat) => id_form (W := W) (B := B) (v := v) hk)
  have HFIT : Hid (idFits k s = idPrefix ((idTab k).map (·.2)) (idRow k).low s) := rfl
  have HCK := Lib.hid hck
  clear hsp hchk hl1 hl2 htot h hck
  generalize (idRow k).low = low at *
  generalize (idRow k).body = body at *
  generalize (idRow k).sp = sp at *
  subst hbn
  go_enter Tryd.func17, Tryd.ntmps17
  go_wp2_with fail
  go_region_held3 (fun w' => w'.cell? ⟨w.heap.size, 0, none⟩ = some (.int .i64 low) ∧ w'.cell? ⟨w.heap.size, 1, none⟩ = some (.slice (some ⟨sb, so, none⟩) sp.length sc) ∧ w'.cell? ⟨w.heap.size, 2, none⟩ = some (.int .i64 bn) ∧ w'.cell? ⟨w.heap.size, 3, none⟩ = some (.func (.func cf) #[] #[]))
    (go_keep)
    (first
      | (go_at_call 37; refine (HCL.out _ _ _ _ ?_).mono ?_; (exact HSP.out _); rintro e w1 ⟨v, rfl, hown, hb1⟩; obtain ⟨g, cap, rfl, hg⟩ := HFM.out _ _ _ hown; have k0 := (hb1.cell (p := ⟨w.heap.size, 0, none⟩) (by simp)).trans (show _ = some (Value.int .i64 low) by simp); have k1 := (hb1.cell (p := ⟨w.heap.size, 1, none⟩) (by simp)).trans (show _ = some (Value.slice (some ⟨sb, so, none⟩) sp.length sc) by simp); have k2 := (hb1.cell (p := ⟨w.heap.size, 2, none⟩) (by simp)).trans (show _ = some (Value.int .i64 bn) by simp); have k3 := (hb1.cell (p := ⟨w.heap.size, 3, none⟩) (by simp)).trans (show _ = some (Value.func (.func cf) #[] #[]) by simp); have HG := Lib.hid hg; clear hg)
      | (go_at_call 36; refine (HPF.out _ _ _ ?_).mono ?_; (exact HG.out); rintro e w2 ⟨⟨t, rfl⟩, rfl⟩))
  rw [← HFIT.out]
  obtain ⟨fit, HF⟩ : ∃ fit : Int, Hid (idFits k s = fit) := ⟨_, Lib.hid rfl⟩
  rw [HF.out]
  have hball : Below w.heap.size w w1 := Below.trans (((Below.refl w.heap.size w).alloc (Nat.le_refl _) _).drew) (hb1.mono (B' := w.heap.size) (by simp))
  have hsz1 : w.heap.size < w1.heap.size := by have := hb1.size; simp at this; omega
  clear hb1
  by_cases hfit : fit = 0
  · subst hfit
    obtain ⟨hbs, hck⟩ := HCK.out HF.out
    have HCK2 := Lib.hid hck
    clear hck
    have hbs0 : (bn : Int) ≤ (s.size : Int) := by omega
    go_wp2_with fail
    go_region_held3 (fun w' => Below w.heap.size w w' ∧ w.heap.size < w'.heap.size ∧ w'.cell? ⟨w.heap.size, 2, none⟩ = some (.int .i64 bn) ∧ w'.cell? ⟨w.heap.size, 3, none⟩ = some (.func (.func cf) #[] #[]))
      (first | assumption | exact Below.drew (by assumption) | (refine ⟨?_, ?_, ?_, ?_⟩ <;> first | assumption | exact Below.drew (by assumption) | go_keep) | go_keep)
      (first
        | (go_at_fn cf; refine (HCK2.out _).mono ?_; rintro e w3 ⟨r, rfl, hb3⟩; have hS3 := id_S_step (by assumption) hb3))
    obtain ⟨hb4, hsz4, k4, k5⟩ := hS3
    clear hb3
    generalize (r.toList == (s.extract bn s.size).toList) = q
    cases q with
    | true =>
      go_wp2_with fail
      go_ret2
      exact ⟨⟨_, 0, rfl, fun _ => HF.out⟩, hb4⟩
    | false =>
      go_wp2_with fail
      go_ret2
      exact ⟨⟨_, 18, rfl, fun _ => HF.out⟩, hb4⟩
  · have hbf : (fit != 0) = true := by simpa using hfit
    have HNE := Lib.hid hfit
    clear hfit
    go_wp2_with fail
    go_ret2
    exact ⟨⟨_, fit, rfl, fun h => absurd h HNE.out⟩, hball⟩

theorem idFits_facts (k : Nat) (s : ByteArray) (h : idFits k s = 0) : (idRow k).low ≤ (s.size : Int) ∧ s.size ≤ (idTab k).length ∧ ∀ j, j < s.size → ((idTab k).map (·.2)).getD j (fun _ => true) (PlainAid.bt s j) = true := by
  unfold idFits idPrefix at h
  split at h
  · cases h
  · rename_i hany
    split at h
    · cases h
    · rename_i h1
      split at h
      · cases h
      · rename_i h2
        rw [List.length_map] at h2
        refine ⟨by omega, by omega, fun j hj => ?_⟩
        cases hq : ((idTab k).map (·.2)).getD j (fun _ => true) (PlainAid.bt s j) with
        | true => rfl
        | false =>
          exfalso
          apply hany
          rw [List.any_eq_true]
          refine ⟨j, by rw [List.mem_range, List.length_map]; omega, ?_⟩
          unfold idBad
          rw [hq]
          simpa using hj

/-- a place of a kind with check digits: letters and digits alone -/
theorem id_tab_alnum (k : Nat) (hk : k = 0 ∨ k = 1 ∨ k = 3) (c : Int) : ∀ j, j < (idTab k).length → ((idTab k).map (·.2)).getD j (fun _ => true) c = true → Id.alnum c = true := by
  have key : ∀ p ∈ (idTab k).map (·.2), p c = true → Id.alnum c = true := by
    intro p hp hc
    have : p = Id.letter ∨ p = Id.alnum ∨ p = Id.digit := by
      rcases hk with rfl | rfl | rfl
      · simp [idTab] at hp; rcases hp with h | h | h <;> simp [h]
      · simp [idTab] at hp; rcases hp with h | h <;> simp [h]
      · simp [idTab] at hp; rcases hp with h | h <;> simp [h]
    rcases this with rfl | rfl | rfl
    · simp [Id.letter, Id.alnum] at hc ⊢; exact Or.inl hc
    · exact hc
    · simp [Id.digit, Id.alnum] at hc ⊢; exact Or.inr hc
  intro j hj h
  rw [List.getD_eq_getElem?_getD, List.getElem?_eq_getElem (by rw [List.length_map]; exact hj)] at h
  exact key _ (List.getElem_mem _) h

theorem id_body_alnum (k : Nat) (hk : k = 0 ∨ k = 1 ∨ k = 3) (s : ByteArray) (n : Nat) (h : idFits k s = 0) : ∀ c ∈ (s.extract 0 n).data.toList, Id.alnum (c.toNat : Int) = true := by
  obtain ⟨_, h2, h3⟩ := idFits_facts k s h
  intro c hc
  have hc2 : c ∈ s.data.toList := by
    rw [ByteArray.data_extract, Array.toList_extract] at hc
    exact List.mem_of_mem_take (i := n) (by simpa [List.extract_eq_take_drop] using hc)
  obtain ⟨j, hj, rfl⟩ := List.getElem_of_mem hc2
  have hjs : j < s.size := by rw [Lib.size_eq]; exact hj
  have := id_tab_alnum k hk (PlainAid.bt s j) j (by omega) (h3 j hjs)
  rwa [show PlainAid.bt s j = ((s.data.toList[j]'hj).toNat : Int) from (PlainAid.get_bt s j hjs).symm] at this

theorem id_check (k : Nat) (hk : k < 4) (s : ByteArray) (w : World) (hs : s.size ≤ 1048576) (h : IdEnv w) :
    Calls Tryd.prog 17 #[.int .i64 k, .string s] w fun e w' => (∃ t x : Int, e = .returned (.tuple #[.int .i64 t, .int .i64 x]) ∧ (x = 0 → idFits k s = 0)) ∧ Below w.heap.size w w' := by
  match k, hk with
  | 0, hk =>
    refine id_check_gen 0 hk 126 11 rfl rfl (by omega) s w (by omega) h (enters_of Tryd.func126 (by kernel_rfl) rfl) (fun h0 => ⟨?_, fun W => (id_luhn _ W ?_ (id_body_alnum 0 (Or.inl rfl) s 11 h0)).mono ?_⟩)
    · have := (idFits_facts 0 s h0).1
      simp [idRow] at this; omega
    · have : (s.extract 0 11).size ≤ s.size := by simp [ByteArray.size_extract]; omega
      omega
    · rintro e w' ⟨rfl, hb⟩; exact ⟨_, rfl, hb⟩
  | 1, hk =>
    refine (id_check_nil 1 hk rfl s w (by omega) h).mono ?_
    rintro e w' ⟨⟨t, rfl⟩, hb⟩
    exact ⟨⟨t, _, rfl, id⟩, hb⟩
  | 2, hk =>
    refine (id_check_nil 2 hk rfl s w (by omega) h).mono ?_
    rintro e w' ⟨⟨t, rfl⟩, hb⟩
    exact ⟨⟨t, _, rfl, id⟩, hb⟩
  | 3, hk =>
    refine id_check_gen 3 hk 128 18 rfl rfl (by omega) s w (by omega) h (enters_of Tryd.func128 (by kernel_rfl) rfl) (fun h0 => ⟨?_, fun W => (id_mod97 _ W ?_ (id_body_alnum 3 (Or.inr (Or.inr rfl)) s 18 h0)).mono ?_⟩)
    · have := (idFits_facts 3 s h0).1
      simp [idRow] at this; omega
    · have : (s.extract 0 18).size ≤ s.size := by simp [ByteArray.size_extract]; omega
      omega
    · rintro e w' ⟨rfl, hb⟩; exact ⟨_, rfl, hb⟩

theorem id_valid (k : Nat) (hk : k < 4) (s : ByteArray) (w : World) (hs : s.size ≤ 1048576) (h : IdEnv w) :
    Calls Tryd.prog 9 #[.int .i64 k, .string s] w fun e w' => (∃ b : Bool, e = .returned (.bool b) ∧ (b = true → idFits k s = 0)) ∧ Below w.heap.size w w' := by
  have HC := Lib.hid (id_check k hk s w hs h)
  have HP : Hid (idFits k s = idFits k s) := Lib.hid rfl
  clear h
  go_enter Tryd.func9, Tryd.ntmps9
  go_wp2_with fail
  refine HC.out.mono ?_
  rintro e w' ⟨⟨t, x, rfl, hx⟩, hb⟩
  have HX := Lib.hid hx
  clear hx
  go_wp2_with fail
  go_ret
  exact ⟨⟨_, rfl, fun hb => HX.out (by simpa using hb)⟩, hb⟩

end Go.Proofs.YtadhhknhfipihaaDoor
