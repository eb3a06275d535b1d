/-
  AMOUNTS (layer 1): digits, Valid, bounded, ParseInt at whatever text.
-/
import Derived.Test.YtadhhknhfipihaaDoorLex4
import Derived.Lib.AtoiErrMem
import Derived.Shelf.Strings.SlTrimAscii
import Derived.Lib.SlTrimSet
import Derived.Deep.RegionHeld3
import Derived.Deep.QuietTactic
import Derived.BigQuiet
namespace Go.Proofs.YtadhhknhfipihaaDoor
open Go.RowKit Go.Lib

def am09 : List UInt8 := [48, 49, 50, 51, 52, 53, 54, 55, 56, 57]
theorem am_contains (c : UInt8) : am09.contains c = Lx.digit (c.toNat : Int) := by
  have key : ∀ n : Fin 256, am09.contains (UInt8.ofNat n.val) = Lx.digit ((UInt8.ofNat n.val).toNat : Int) := by decide +kernel
  have := key ⟨c.toNat, UInt8.toNat_lt c⟩
  simpa using this
theorem am_dropWhile_nil (p : UInt8 → Bool) : ∀ l : List UInt8, l.dropWhile p = [] ↔ ∀ x ∈ l, p x = true
  | [] => by simp
  | a :: l => by
    rw [List.dropWhile_cons]
    cases h : p a with
    | true => simp [h, am_dropWhile_nil p l]
    | false => simp [h]
theorem am_takeWhile_all (p : UInt8 → Bool) : ∀ (l : List UInt8), ∀ x ∈ l.takeWhile p, p x = true
  | [] => by simp
  | a :: l => by
    rw [List.takeWhile_cons]
    cases h : p a with
    | true =>
      intro x hx
      rcases List.mem_cons.1 hx with rfl | hx
      · exact h
      · exact am_takeWhile_all p l x hx
    | false => simp
theorem am_trim_nil (l : List UInt8) : (Lib.trimS l am09 = []) ↔ (l.all fun c => Lx.digit (c.toNat : Int)) = true := by
  unfold Lib.trimS Lib.trimLeftS
  rw [am_dropWhile_nil]
  constructor
  · intro h
    rw [List.all_eq_true]
    intro x hx
    have hr : ∀ x ∈ Lib.trimRightS l am09, Lx.digit (x.toNat : Int) = true := fun x hx => by rw [← am_contains]; exact h x hx
    rw [Lib.trimRightS] at hr
    rcases List.mem_append.1 (by rw [List.takeWhile_append_dropWhile]; exact List.mem_reverse.2 hx : x ∈ l.reverse.takeWhile (am09.contains ·) ++ l.reverse.dropWhile (am09.contains ·)) with h1 | h1
    · rw [← am_contains]
      exact am_takeWhile_all _ _ x h1
    · exact hr x (List.mem_reverse.2 h1)
  · intro h x hx
    rw [List.all_eq_true] at h
    rw [am_contains]
    apply h
    rw [Lib.trimRightS] at hx
    have := List.mem_reverse.1 hx
    exact List.mem_reverse.1 ((List.dropWhile_suffix _).sublist.subset this)

theorem am_trim (s : ByteArray) (W : World) (hs : s.size ≤ 9223372036854775807) :
    Calls Tryd.prog 13 #[.string s, .string ⟨#[48, 49, 50, 51, 52, 53, 54, 55, 56, 57]⟩] W fun e w' => e = .returned (.string ⟨(Lib.trimS s.data.toList am09).toArray⟩) ∧ Below W.heap.size W w' :=
  Any.strings_Trim_laid Tryd.lays160 (by kernel_rfl) s ⟨#[48, 49, 50, 51, 52, 53, 54, 55, 56, 57]⟩ W hs (by decide) (ascii_of_all (by decide))

theorem am_digits (l : List UInt8) (w : World) (hs : l.length ≤ 1048576) :
    Calls Tryd.prog 20 #[.string ⟨l.toArray⟩] w fun e w' => e = .returned (.bool (l.all fun c => Lx.digit (c.toNat : Int))) ∧ Below w.heap.size w w' := by
  have ht := fun W => am_trim ⟨l.toArray⟩ W (by rw [lx_size_mk]; omega)
  simp only at ht
  have HT : Hid ((Lib.trimS l am09 = []) ↔ (l.all fun c => Lx.digit (c.toNat : Int)) = true) := Lib.hid (am_trim_nil l)
  generalize (l.all fun c => Lx.digit (c.toNat : Int)) = b at *
  generalize Lib.trimS l am09 = t at *
  go_enter Tryd.func20, Tryd.ntmps20
  go_wp2_with fail
  refine (ht _).mono ?_
  rintro e w' ⟨rfl, hb⟩
  go_wp2_with fail
  go_ret
  refine ⟨lx_ret ?_, hb⟩
  rw [Bool.eq_iff_iff, ← HT.out]
  simp

theorem am_bounded (x : Int) (w : World) :
    Calls Tryd.prog 22 #[.int .i64 x] w fun e w' => (∃ n y : Int, e = .returned (.tuple #[.int .i64 n, .int .i64 y]) ∧ y ≠ 3) ∧ w = w' := by
  have hv : ∀ W, Calls Tryd.prog 42 #[.int .i64 x] W fun e w' => (∃ b : Bool, e = .returned (.bool b)) ∧ W = w' := by
    intro W
    go_enter Tryd.func42, Tryd.ntmps42
    go_wp2_with fail
    all_goals go_ret
    all_goals first | exact ⟨⟨_, rfl⟩, rfl⟩ | exact ⟨Or.inl rfl, rfl⟩ | exact ⟨Or.inr rfl, rfl⟩
  go_enter Tryd.func22, Tryd.ntmps22
  go_wp2_with fail
  refine (hv _).mono ?_
  rintro e w' ⟨⟨b, rfl⟩, rfl⟩
  cases b with
  | true =>
    go_wp2_with fail
    go_ret2
    exact ⟨⟨_, _, rfl, by decide⟩, rfl⟩
  | false =>
    go_wp2_with fail
    go_ret2
    exact ⟨⟨_, _, rfl, by decide⟩, rfl⟩

/-- what Parse needs of the world -/
structure AmEnv (m : Int) (W : World) : Prop where
  maxlen : W.cell? ⟨2, 0, none⟩ = some (.int .i64 m)
  range : ∃ te pe, W.cell? ⟨4, 0, none⟩ = some (.iface te pe)
  syn : ∃ te pe, W.cell? ⟨3, 0, none⟩ = some (.iface te pe)
theorem AmEnv.below {m : Int} {W W' : World} (h : AmEnv m W) (hb : Below W.heap.size W W') : AmEnv m W' := by
  have t : ∀ (p : Addr) (v : Value), W.cell? p = some v → p.spot = none → W'.cell? p = some v := fun p v hc hs => by
    obtain ⟨b, o, sp⟩ := p
    cases hs
    exact (hb.cell (p := ⟨b, o, none⟩) (lx_lt hc)).trans hc
  obtain ⟨h1, ⟨a, b, h2⟩, ⟨c, d, h3⟩⟩ := h
  exact ⟨t _ _ h1 rfl, ⟨a, b, t _ _ h2 rfl⟩, ⟨c, d, t _ _ h3 rfl⟩⟩

theorem am_parseInt (s : ByteArray) (w : World) (m : Int) (hs : s.size ≤ 1048576) (h : AmEnv m w) :
    Calls Tryd.prog 21 #[.string s, .int .i64 10, .int .i64 64] w fun e w' => (∃ (n : Int) (v : Value), e = .returned (.tuple #[.int .i64 n, v]) ∧ (v = .nilIface ∨ ∃ t p, v = .iface t p)) ∧ Below w.heap.size w w' := by
  obtain ⟨_, ⟨a, b, h2⟩, ⟨c, d, h3⟩⟩ := h
  rcases hr : Lib.parseIntB 64 s.data.toList with v | _ | _
  · refine (Tryd.strconv_ParseInt_10_at64_ok s (by omega) v hr w).mono ?_
    rintro e w' ⟨rfl, hw⟩
    refine ⟨⟨_, _, rfl, Or.inl rfl⟩, ?_⟩
    rcases hw with rfl | ⟨t, rfl⟩
    · exact Below.refl _ _
    · exact Lib.bytesWorld_below _ _ _
  · refine (Tryd.strconv_ParseInt_10_at64_syntax s (by omega) hr _ w h3 (Or.inr ⟨_, _, rfl⟩)).mono ?_
    rintro e w' ⟨N, rfl, _, _, hb⟩
    exact ⟨⟨_, _, rfl, Or.inr ⟨_, _, rfl⟩⟩, hb⟩
  · refine (Tryd.strconv_ParseInt_10_at64_range s (by omega) hr _ w h2 (Or.inr ⟨_, _, rfl⟩)).mono ?_
    rintro e w' ⟨N, rfl, _, _, hb⟩
    exact ⟨⟨_, _, rfl, Or.inr ⟨_, _, rfl⟩⟩, hb⟩

end Go.Proofs.YtadhhknhfipihaaDoor
