/-
  IDENTIFIERS: what the world holds of the table of kinds; Check and Valid.
-/
import Derived.Test.YtadhhknhfipihaaDoorId3
import Derived.Laws.EntriesVeiled
import Derived.Deep.RegionHeld3
import Derived.Deep.QuietTactic
import Derived.BigQuiet
namespace Go.Proofs.YtadhhknhfipihaaDoor
open Go.RowKit Go.Lib

/-- one kind: the shortest length, the spans, the length of the body, the function of the check -/
structure IdRow where
  low : Int
  sp : List (Nat × Nat)
  body : Int
  chk : Value
def idRow (k : Nat) : IdRow :=
  if k = 0 then ⟨12, [(2, 123), (9, 124), (1, 125)], 11, .func (.func 126) #[] #[]⟩
  else if k = 1 then ⟨4, [(1, 123), (7, 124)], 0, .nilFunc⟩
  else if k = 2 then ⟨1, [(16, 127)], 0, .nilFunc⟩
  else ⟨20, [(18, 124), (2, 125)], 18, .func (.func 128) #[] #[]⟩

/-- what the world holds of a kind -/
structure IdHeld (W : World) (k : Nat) (sb so sc : Nat) : Prop where
  low : W.cell? ⟨1, k * 4, none⟩ = some (.int .i64 (idRow k).low)
  spans : W.cell? ⟨1, k * 4 + 1, none⟩ = some (.slice (some ⟨sb, so, none⟩) (idRow k).sp.length sc)
  body : W.cell? ⟨1, k * 4 + 2, none⟩ = some (.int .i64 (idRow k).body)
  chk : W.cell? ⟨1, k * 4 + 3, none⟩ = some (idRow k).chk
  sp : IdSpans W sb so (idRow k).sp
def IdEnv (W : World) : Prop := ∀ k, k < 4 → ∃ sb so sc, IdHeld W k sb so sc
theorem IdEnv.below {W W' : World} (h : IdEnv W) (hb : Below W.heap.size W W') : IdEnv W' := fun k hk => by
  obtain ⟨sb, so, sc, h⟩ := h k hk
  have t : ∀ (p : Addr) (v : Value), W.cell? p = some v → p.spot = none → W'.cell? p = some v := fun p v hc hs => by
    obtain ⟨b, o, sp⟩ := p
    cases hs
    exact (hb.cell (p := ⟨b, o, none⟩) (lx_lt hc)).trans hc
  exact ⟨sb, so, sc, t _ _ h.low rfl, t _ _ h.spans rfl, t _ _ h.body rfl, t _ _ h.chk rfl, h.sp.below hb⟩

/-- the classes of a kind, with the functions that tell them -/
def idTab (k : Nat) : List (Nat × (Int → Bool)) :=
  if k = 0 then List.replicate 2 (123, Id.letter) ++ List.replicate 9 (124, Id.alnum) ++ [(125, Id.digit)]
  else if k = 1 then [(123, Id.letter)] ++ List.replicate 7 (124, Id.alnum)
  else if k = 2 then List.replicate 16 (127, Id.refc)
  else List.replicate 18 (124, Id.alnum) ++ List.replicate 2 (125, Id.digit)
theorem idTab_cells (k : Nat) (h : k < 4) : idCells (idRow k).sp = (idTab k).map fun x => .func (.func x.1) #[] #[] := by
  match k, h with
  | 0, _ => rfl
  | 1, _ => rfl
  | 2, _ => rfl
  | 3, _ => rfl
theorem idTab_len (k : Nat) : (idTab k).length ≤ 20 := by
  unfold idTab
  split
  · decide
  · split
    · decide
    · split <;> decide
theorem idRow_len (k : Nat) : (idRow k).sp.length ≤ 3 ∧ ∀ x ∈ (idRow k).sp, x.1 ≤ 18 := by
  unfold idRow
  split
  · decide
  · split
    · decide
    · split <;> decide

theorem id_class_letter : LxClass 123 Id.letter := ⟨enters_of Tryd.func123 (by kernel_rfl) rfl, fun c w _ _ => id_letter c w⟩
theorem id_class_alnum : LxClass 124 Id.alnum := ⟨enters_of Tryd.func124 (by kernel_rfl) rfl, fun c w _ _ => id_alnum c w⟩
theorem id_class_digit : LxClass 125 Id.digit := ⟨enters_of Tryd.func125 (by kernel_rfl) rfl, fun c w _ _ => id_digit c w⟩
theorem id_class_refc : LxClass 127 Id.refc := ⟨enters_of Tryd.func127 (by kernel_rfl) rfl, fun c w _ _ => id_refc c w⟩
theorem idTab_tab (k : Nat) : IdTab (idTab k) := by
  have h : ∀ x ∈ idTab k, x = (123, Id.letter) ∨ x = (124, Id.alnum) ∨ x = (125, Id.digit) ∨ x = (127, Id.refc) := by
    intro x hx
    unfold idTab at hx
    split at hx
    · simp at hx; rcases hx with h | h | h <;> simp [h]
    · split at hx
      · simp at hx; rcases hx with h | h <;> simp [h]
      · split at hx
        · simp at hx; simp [hx]
        · simp at hx; rcases hx with h | h <;> simp [h]
  intro x hx
  rcases h x hx with rfl | rfl | rfl | rfl
  · exact id_class_letter
  · exact id_class_alnum
  · exact id_class_digit
  · exact id_class_refc

/-- the error of Check: that of prefix, or 18 for wrong check digits -/
def idFits (k : Nat) (s : ByteArray) : Int := idPrefix ((idTab k).map (·.2)) (idRow k).low s
def idCheckE (k : Nat) (s : ByteArray) : Int :=
  if idFits k s ≠ 0 then idFits k s
  else if k = 0 then (if Id.luhn (s.data.toList.take 11) = s.data.toList.drop 11 then 0 else 18)
  else if k = 3 then (if Id.mod97 (s.data.toList.take 18) = s.data.toList.drop 18 then 0 else 18)
  else 0

/-- the classes in memory -/
theorem id_form {W : World} {B : Nat} {v : Value} {k : Nat} (hk : k < 4) (h : W.ownsRow B 81 1 v (idCells (idRow k).sp).length (idCells (idRow k).sp)) :
    ∃ g cap, v = .slice (some ⟨g, 0, none⟩) (idTab k).length cap ∧ ∀ (j : Nat) x, (idTab k)[j]? = some x → W.cell? ⟨g, j, none⟩ = some (.func (.func x.1) #[] #[]) := by
  rw [idTab_cells k hk, List.length_map] at h
  rcases h.2 with ⟨_, h0⟩ | ⟨g, cap, cur, rfl, hB, hh, hn, hcap, hcur, htake⟩
  · exfalso
    match k, hk with
    | 0, _ => exact absurd h0 (by decide)
    | 1, _ => exact absurd h0 (by decide)
    | 2, _ => exact absurd h0 (by decide)
    | 3, _ => exact absurd h0 (by decide)
  · refine ⟨g, cap, rfl, fun j x hx => ?_⟩
    have hc := h.cells (g := g) rfl j (.func (.func x.1) #[] #[]) (by rw [List.getElem?_map, hx]; rfl)
    have add : ∀ j, (⟨g, 0, none⟩ : Addr).add j = ⟨g, j, none⟩ := fun j => by unfold Addr.add; split <;> simp_all
    rwa [add] at hc

theorem id_low (k : Nat) : 0 ≤ (idRow k).low ∧ (idRow k).low ≤ 20 := by
  unfold idRow
  split
  · decide
  · split
    · decide
    · split <;> decide

theorem id_fty : Tryd.prog.underlying 34 = some (.func #[9] #[9] false) := by kernel_rfl
theorem id_eql_nil (d : Nat) (w : World) : (Op.equalIn (d + 1) 34 .nilFunc .nilFunc).run Tryd.prog w = .ok true w := by
  simp [Op.equalIn, run_underlying id_fty]
theorem id_eql_func (d : Nat) (w : World) (f : Fn) (a c : Array Value) : (Op.equalIn (d + 1) 34 (.func f a c) .nilFunc).run Tryd.prog w = .ok false w := by
  simp [Op.equalIn, run_underlying id_fty]
theorem id_eq_nil (w : World) : (Op.equal 34 .nilFunc .nilFunc).run Tryd.prog w = .ok true w := id_eql_nil 9999 w
theorem id_eq_func (w : World) (f : Fn) (a c : Array Value) : (Op.equal 34 (.func f a c) .nilFunc).run Tryd.prog w = .ok false w := id_eql_func 9999 w f a c
@[go_sem] theorem id_neq_nil (w : World) : (binOp .neq 34 .nilFunc .nilFunc).run Tryd.prog w = .ok (.bool false) w := by
  simp only [binOp]
  simp [id_eq_nil]
@[go_sem] theorem id_neq_func (w : World) (f : Fn) (a c : Array Value) : (binOp .neq 34 (.func f a c) .nilFunc).run Tryd.prog w = .ok (.bool true) w := by
  simp only [binOp]
  simp [id_eq_func]

set_option maxRecDepth 100000 in
set_option maxHeartbeats 2000000 in
theorem id_check_nil (k : Nat) (hk : k < 4) (hnil : (idRow k).chk = .nilFunc) (s : ByteArray) (w : World) (hs : s.size ≤ 1073741824) (h : IdEnv w) :
    Calls Tryd.prog 17 #[.int .i64 k, .string s] w fun e w' => (∃ t : Int, e = .returned (.tuple #[.int .i64 t, .int .i64 (idFits k s)])) ∧ Below w.heap.size w w' := by
  obtain ⟨sb, so, sc, c0, c1, c2, c3, hsp⟩ := h k hk
  rw [hnil] at c3
  obtain ⟨hl1, hl2⟩ := idRow_len k
  have hk4 : (k : Int) < 4 := by omega
  have htot : (idCells (idRow k).sp).length ≤ 20 := by rw [idTab_cells k hk, List.length_map]; exact idTab_len k
  have HCL := Lib.hid (fun (a b : Int) (chk : Value) (W : World) (hW : IdSpans W sb so (idRow k).sp) => id_classes a b chk sb so sc (idRow k).sp W hW (by omega) (by omega) (fun x hx => by have := hl2 x hx; omega))
  have HPF := Lib.hid (fun (g cap : Nat) (W : World) (hW : ∀ (j : Nat) x, (idTab k)[j]? = some x → W.cell? ⟨g, j, none⟩ = some (.func (.func x.1) #[] #[])) =>
    id_prefix (idTab k) (idTab_tab k) g cap (idRow k).low s W hs (by have := idTab_len k; omega) (id_low k).1 (by have := (id_low k).2; omega) hW)
  have HSP : Hid (∀ o, IdSpans (w.alloc o) sb so (idRow k).sp) := Lib.hid fun o => hsp.below ((Below.refl _ w).alloc (Nat.le_refl _) o)
  have HFM := Lib.hid (fun (W : World) (v : Value) (B : Nat) => id_form (W := W) (B := B) (v := v) hk)
  have HFIT : Hid (idFits k s = idPrefix ((idTab k).map (·.2)) (idRow k).low s) := rfl
  clear hsp hnil hl1 hl2 htot h
  generalize (idRow k).low = low at *
  generalize (idRow k).body = body at *
  generalize (idRow k).sp = sp at *
  go_enter Tryd.func17, Tryd.ntmps17
  go_wp2_with fail
  go_region_held3 (fun w' => w'.cell? ⟨w.heap.size, 0, none⟩ = some (.int .i64 low) ∧ w'.cell? ⟨w.heap.size, 1, none⟩ = some (.slice (some ⟨sb, so, none⟩) sp.length sc) ∧ w'.cell? ⟨w.heap.size, 2, none⟩ = some (.int .i64 body) ∧ w'.cell? ⟨w.heap.size, 3, none⟩ = some .nilFunc)
    (go_keep)
    (first
      | (go_at_call 37; refine (HCL.out _ _ _ _ ?_).mono ?_; (exact HSP.out _); rintro e w1 ⟨v, rfl, hown, hb1⟩; obtain ⟨g, cap, rfl, hg⟩ := HFM.out _ _ _ hown; have k0 := (hb1.cell (p := ⟨w.heap.size, 0, none⟩) (by simp)).trans (show _ = some (Value.int .i64 low) by simp); have k1 := (hb1.cell (p := ⟨w.heap.size, 1, none⟩) (by simp)).trans (show _ = some (Value.slice (some ⟨sb, so, none⟩) sp.length sc) by simp); have k2 := (hb1.cell (p := ⟨w.heap.size, 2, none⟩) (by simp)).trans (show _ = some (Value.int .i64 body) by simp); have k3 := (hb1.cell (p := ⟨w.heap.size, 3, none⟩) (by simp)).trans (show _ = some Value.nilFunc by simp); have HG := Lib.hid hg; clear hg)
      | (go_at_call 36; refine (HPF.out _ _ _ ?_).mono ?_; (exact HG.out); rintro e w2 ⟨⟨t, rfl⟩, rfl⟩))
  rw [← HFIT.out]
  obtain ⟨fit, HF⟩ : ∃ fit : Int, Hid (idFits k s = fit) := ⟨_, Lib.hid rfl⟩
  rw [HF.out]
  have hball : Below w.heap.size w w1 := Below.trans (((Below.refl w.heap.size w).alloc (Nat.le_refl _) _).drew) (hb1.mono (B' := w.heap.size) (by simp))
  clear hb1
  by_cases hfit : fit = 0
  · subst hfit
    go_wp2_with fail
    go_quiet (fail)
    go_wp2_with fail
    go_ret2
    exact ⟨⟨_, by rw [HF.out]; rfl⟩, by first | assumption | exact below_drewN' (by assumption) _⟩
  · have hbf : (fit != 0) = true := by simpa using hfit
    clear hfit
    go_wp2_with fail
    go_ret2
    exact ⟨⟨_, by rw [HF.out]; rfl⟩, hball⟩

end Go.Proofs.YtadhhknhfipihaaDoor
