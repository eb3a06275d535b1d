/-
  THE TABLE OF KINDS OF IDENTIFIERS, AS THE ROW's LIST LAYS IT.
-/
import Derived.Test.YtadhhknhfipihaaDoorIdLaid
namespace Go.Proofs.YtadhhknhfipihaaDoor
open Go.ChangeShapes Go.WideShapes Go.ChangeAt Go.RowKit

theorem id_gKinds : Tryd.prog.globalNamed "giro/ident.kinds" = some 1 := by kernel_rfl
theorem id_tKinds : (Tryd.prog.globals[1]?).map (·.type) = some 68 := by kernel_rfl

def idNmLetter : UInt8 × List UInt8 := (103, [105, 114, 111, 47, 105, 100, 101, 110, 116, 46, 108, 101, 116, 116, 101, 114])
def idNmAlnum : UInt8 × List UInt8 := (103, [105, 114, 111, 47, 105, 100, 101, 110, 116, 46, 97, 108, 112, 104, 97, 110, 117, 109, 101, 114, 105, 99])
def idNmDigit : UInt8 × List UInt8 := (103, [105, 114, 111, 47, 105, 100, 101, 110, 116, 46, 100, 105, 103, 105, 116])
def idNmRef : UInt8 × List UInt8 := (103, [105, 114, 111, 47, 105, 100, 101, 110, 116, 46, 114, 101, 102, 67, 104, 97, 114, 97, 99, 116, 101, 114])
theorem id_oneLetter : IdOne 123 idNmLetter := by unfold IdOne; kernel_rfl
theorem id_oneAlnum : IdOne 124 idNmAlnum := by unfold IdOne; kernel_rfl
theorem id_oneDigit : IdOne 125 idNmDigit := by unfold IdOne; kernel_rfl
theorem id_oneRef : IdOne 127 idNmRef := by unfold IdOne; kernel_rfl

def idRows (k : Nat) : List (Nat × Nat × (UInt8 × List UInt8)) :=
  if k = 0 then [(2, 123, idNmLetter), (9, 124, idNmAlnum), (1, 125, idNmDigit)]
  else if k = 1 then [(1, 123, idNmLetter), (7, 124, idNmAlnum)]
  else if k = 2 then [(16, 127, idNmRef)]
  else [(18, 124, idNmAlnum), (2, 125, idNmDigit)]
theorem idRows_one (k : Nat) : ∀ x ∈ idRows k, IdOne x.2.1 x.2.2 := by
  unfold idRows
  split
  · intro x hx; simp at hx; rcases hx with rfl | rfl | rfl
    · exact id_oneLetter
    · exact id_oneAlnum
    · exact id_oneDigit
  · split
    · intro x hx; simp at hx; rcases hx with rfl | rfl
      · exact id_oneLetter
      · exact id_oneAlnum
    · split
      · intro x hx; simp at hx; subst hx
        exact id_oneRef
      · intro x hx; simp at hx; rcases hx with rfl | rfl
        · exact id_oneAlnum
        · exact id_oneDigit
theorem idRows_ne (k : Nat) : idRows k ≠ [] := by
  unfold idRows
  split
  · simp
  · split
    · simp
    · split <;> simp
theorem idRows_sp (k : Nat) : (idRows k).map (fun x => (x.1, x.2.1)) = (idRow k).sp := by
  unfold idRows idRow
  split
  · rfl
  · split
    · rfl
    · split <;> rfl

theorem id_nil_of_trod {W : World} {fuel : Nat} {v : Value} {p : List MemPlace} (h : DataW.trod (funcToken Tryd.prog) Tryd.prog W 0 (fun _ => true) true fuel 34 [v] = some (.nil, p)) : v = .nilFunc := by
  cases fuel with
  | zero => simp [DataW.trod] at h
  | succ n =>
    unfold DataW.trod at h
    rw [id_fty] at h
    split at h <;> simp_all

theorem id_held {W : World} {g : Nat} {cs : Array Value} (hg : g = 1) (hcell : ∀ i, W.cell? ⟨g, i, none⟩ = cs[i]?) (k : Nat)
    (h : ∃ sb so sc, (cs.toList.drop (k * 4)).take 4 = [.int .i64 (idRow k).low, .slice (some ⟨sb, so, none⟩) (idRows k).length sc, .int .i64 (idRow k).body, (idRow k).chk] ∧ IdSpans W sb so ((idRows k).map fun x => (x.1, x.2.1))) :
    ∃ sb so sc, IdHeld W k sb so sc := by
  subst hg
  obtain ⟨sb, so, sc, hl, hsp⟩ := h
  have at' : ∀ j v, j < 4 → ((cs.toList.drop (k * 4)).take 4)[j]? = some v → W.cell? ⟨1, k * 4 + j, none⟩ = some v := fun j v hj hv => by
    rw [hcell, ← Array.getElem?_toList, ← List.getElem?_drop, ← hv, List.getElem?_take, if_pos hj]
  rw [idRows_sp] at hsp
  have hlen : (idRows k).length = (idRow k).sp.length := by rw [← idRows_sp, List.length_map]
  rw [hlen] at hl
  refine ⟨sb, so, sc, ⟨?_, ?_, ?_, ?_, hsp⟩⟩
  · exact at' 0 _ (by omega) (by rw [hl]; rfl)
  · exact at' 1 _ (by omega) (by rw [hl]; rfl)
  · exact at' 2 _ (by omega) (by rw [hl]; rfl)
  · exact at' 3 _ (by omega) (by rw [hl]; rfl)

def idDatumOf (k : Nat) (cd : DataW (List UInt8)) : DataW (List UInt8) :=
  .agg [.lit (.int .i64 (idRow k).low), .slice ((idRows k).map fun x => .agg [.lit (.int .i64 x.1), .held (x.2.2.1 :: x.2.2.2)]) [], .lit (.int .i64 (idRow k).body), cd]
def idCd (k : Nat) : DataW (List UInt8) :=
  if k = 0 then .held [103, 105, 114, 111, 47, 105, 100, 101, 110, 116, 46, 108, 117, 104, 110] else if k = 3 then .held [103, 105, 114, 111, 47, 105, 100, 101, 110, 116, 46, 109, 111, 100, 57, 55] else .nil

theorem id_cd_chk {W : World} (k : Nat) (hk : k < 4) (fuel : Nat) (v : Value) (p : List MemPlace) (h : DataW.trod (funcToken Tryd.prog) Tryd.prog W 0 (fun _ => true) true fuel 34 [v] = some (idCd k, p)) : v = (idRow k).chk := by
  match k, hk with
  | 0, _ => exact func_of_trod (f0 := 126) id_fty (by kernel_rfl) h
  | 1, _ => exact id_nil_of_trod h
  | 2, _ => exact id_nil_of_trod h
  | 3, _ => exact func_of_trod (f0 := 128) id_fty (by kernel_rfl) h

set_option maxRecDepth 100000 in
theorem id_env_of_laid {l : List (String × DataW Unit)} {W : World} (h : laidMetH Tryd.prog l W) (hm : ("giro/ident.kinds", (Rows.laid_giro_ident_kinds : DataW Unit)) ∈ l) : IdEnv W := by
  obtain ⟨g, t, cs, fuel, p, hg, ht, hv, hd⟩ := h.funcs hm
  obtain rfl := Option.some.inj (id_gKinds.symm.trans hg)
  obtain rfl := Option.some.inj (id_tKinds.symm.trans ht)
  have hd' : DataW.trod (funcToken Tryd.prog) Tryd.prog W 0 (fun _ => true) true fuel 68 cs.toList = some (.agg [idDatumOf 0 (idCd 0), idDatumOf 1 (idCd 1), idDatumOf 2 (idCd 2), idDatumOf 3 (idCd 3)], p) := hd
  obtain ⟨xs, m, _, hx, _, hxl, hall⟩ := DataW.trod_array Tryd.underlying68 hd'
  simp only [Prod.mk.injEq, DataW.agg.injEq] at hx
  obtain ⟨hx, _⟩ := hx
  intro k hk
  refine id_held rfl (World.var?_cell hg hv) k ?_
  have hrow := hall k hk
  rw [id_ck] at hrow
  have hxk : (xs.map (·.1))[k]? = some (idDatumOf k (idCd k)) := by
    rw [← hx]
    match k, hk with
    | 0, _ => rfl
    | 1, _ => rfl
    | 2, _ => rfl
    | 3, _ => rfl
  rw [List.getElem?_map, Option.map_eq_some_iff] at hxk
  obtain ⟨⟨d, q⟩, hq, hdq⟩ := hxk
  simp only at hdq
  subst hdq
  rw [hq] at hrow
  exact id_row_open _ _ (idRows k) (idRows_one k) (idRows_ne k) (idCd k) (idRow k).chk (fun fuel v p => id_cd_chk k hk fuel v p) hrow

end Go.Proofs.YtadhhknhfipihaaDoor
