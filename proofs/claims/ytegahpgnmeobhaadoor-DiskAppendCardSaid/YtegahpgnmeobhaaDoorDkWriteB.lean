/-
  write, Append.
-/
import Derived.Test.YtegahpgnmeobhaaDoorDkWrite
import Derived.Test.YtegahpgnmeobhaaDoorDkWriteA
namespace Go.Proofs.YtegahpgnmeobhaaDoor
open Go.RowKit

theorem Chg.of_below' {i : Nat} {c c' : Nat → Nat} {W W' : World} (hb : Below W.heap.size W W') (hc : ∀ k, k < W.heap.size → c' k = c k) : Chg i c c' W W' :=
  ⟨hb.os, hb.tape, hb.output, hb.size, fun b h _ => hb.block b h, hc⟩

theorem dk_ent31 : ∀ args w, (callFunc 31 args).run Tryd.prog w = .ok (.enter 31 args) w := enters_of Tryd.func31 (by kernel_rfl) rfl
theorem dk_ent33 : ∀ args w, (callFunc 33 args).run Tryd.prog w = .ok (.enter 33 args) w := enters_of Tryd.func33 (by kernel_rfl) rfl

/-- the world behind write's boxes -/
def wrBoxes (W : World) (g : Nat) (s : ByteArray) (k : FuncId) (cap : Array Value) (bv : Value) : World :=
  ((((W.alloc (.cells #[.pointer (some ⟨g, 0, none⟩)] 24)).alloc (.cells #[.string s] 9)).alloc (.cells #[.func (.func k) #[] cap] 45)).alloc (.cells #[bv] 23)).alloc (.cells #[.int .i64 0] 3)

theorem wrBoxes_below (W : World) (g : Nat) (s : ByteArray) (k : FuncId) (cap : Array Value) (bv : Value) : Below W.heap.size W (wrBoxes W g s k cap bv) := by
  unfold wrBoxes
  exact (((((Below.refl _ _).alloc (Nat.le_refl _) _).alloc (by simp) _).alloc (by simp; omega) _).alloc (by simp; omega) _).alloc (by simp; omega) _
theorem wrBoxes_size (W : World) (g : Nat) (s : ByteArray) (k : FuncId) (cap : Array Value) (bv : Value) : (wrBoxes W g s k cap bv).heap.size = W.heap.size + 5 := by simp [wrBoxes]
theorem wrBoxes_cells (W : World) (g : Nat) (s : ByteArray) (k : FuncId) (cap : Array Value) (bv : Value) :
    (wrBoxes W g s k cap bv).cell? ⟨W.heap.size, 0, none⟩ = some (.pointer (some ⟨g, 0, none⟩)) ∧ (wrBoxes W g s k cap bv).cell? ⟨W.heap.size + 1, 0, none⟩ = some (.string s) ∧
    (wrBoxes W g s k cap bv).cell? ⟨W.heap.size + 2, 0, none⟩ = some (.func (.func k) #[] cap) ∧ (wrBoxes W g s k cap bv).cell? ⟨W.heap.size + 3, 0, none⟩ = some bv ∧
    (wrBoxes W g s k cap bv).heap[W.heap.size + 4]? = some (.cells #[.int .i64 0] 3 (0, 0)) := by
  have new : ∀ (w : World) (v : Value) (t : TypeId), (w.alloc (.cells #[v] t)).cell? ⟨w.heap.size, 0, none⟩ = some v := fun w v t => by simp
  have n2 := new (W.alloc (.cells #[.pointer (some ⟨g, 0, none⟩)] 24)) (.string s) 9
  have n3 := new ((W.alloc (.cells #[.pointer (some ⟨g, 0, none⟩)] 24)).alloc (.cells #[.string s] 9)) (.func (.func k) #[] cap) 45
  have n4 := new (((W.alloc (.cells #[.pointer (some ⟨g, 0, none⟩)] 24)).alloc (.cells #[.string s] 9)).alloc (.cells #[.func (.func k) #[] cap] 45)) bv 23
  simp only [World.size_alloc] at n2 n3 n4
  unfold wrBoxes
  refine ⟨Lib.cell?_alloc_some _ (Lib.cell?_alloc_some _ (Lib.cell?_alloc_some _ (Lib.cell?_alloc_some _ (new W _ _)))), Lib.cell?_alloc_some _ (Lib.cell?_alloc_some _ (Lib.cell?_alloc_some _ n2)), Lib.cell?_alloc_some _ (Lib.cell?_alloc_some _ n3), Lib.cell?_alloc_some _ n4, ?_⟩
  have := heap_alloc_new ((((W.alloc (.cells #[.pointer (some ⟨g, 0, none⟩)] 24)).alloc (.cells #[.string s] 9)).alloc (.cells #[.func (.func k) #[] cap] 45)).alloc (.cells #[bv] 23)) (.cells #[.int .i64 0] 3)
  simpa using this

set_option maxRecDepth 100000 in
set_option maxHeartbeats 2000000 in
theorem dk_write {i : Nat} {c : Nat → Nat} {W : World} {g : Nat} {D : Dk.D} (h : DiskAt i c W g D) (s : ByteArray) (hs : s.size ≤ 9223372036854775807) (hbud : D.bud ≤ 9223372036854775807) (pos : Nat → Int) (k : FuncId) (cap : Array Value)
    (hent : ∀ args w, (callFunc k args).run Tryd.prog w = .ok (.enter k args) w)
    (hfn : ∀ (n : Nat) (W' : World), Below W.heap.size W W' → Calls Tryd.prog k (#[.int .i64 n] ++ cap) W' fun e w' => e = .returned (.int .i64 (pos n)) ∧ W' = w')
    (b : Dk.Bs) (bv : Value) (hrd : RdC c W bv b) (hblen : b.length ≤ 1073741824) (hmany : ∀ f, Dk.find s.data.toList D.fs = some f → f.pend.length < 65536) :
    Calls Tryd.prog 17 #[.pointer (some ⟨g, 0, none⟩), .string s, .func (.func k) #[] cap, bv] W (DkPost i c W g (D.write s.data.toList pos b)) := by
  obtain ⟨m, xs, h⟩ := h
  have hgl := (h.col g (by simp)).2
  obtain ⟨ba, bc, rfl⟩ := hrd.1.form
  have hbel := wrBoxes_below W g s k cap (.slice ba b.length bc)
  have hsz := wrBoxes_size W g s k cap (.slice ba b.length bc)
  obtain ⟨q1, q2, q3, q4, q5⟩ := wrBoxes_cells W g s k cap (.slice ba b.length bc)
  obtain ⟨Wb, hWb⟩ : ∃ Wb, Wb = wrBoxes W g s k cap (.slice ba b.length bc) := ⟨_, rfl⟩
  rw [← hWb] at hbel hsz q1 q2 q3 q4 q5
  have hI : DiskIs i (pnt c W.heap.size (i + 1)) Wb g D m xs := h.chg (Chg.of_below (i := i + 1) hbel (i + 1)) (by omega) (by omega)
  have hch : Chg i c (pnt c W.heap.size (i + 1)) W Wb := Chg.of_below hbel _
  have hfn' : ∀ (n : Nat) (W' : World), Below Wb.heap.size Wb W' → Calls Tryd.prog k (#[.int .i64 n] ++ cap) W' fun e w' => e = .returned (.int .i64 (pos n)) ∧ W' = w' := fun n W' hb => hfn n W' (hbel.trans (hb.mono (by omega)))
  have hck := dk_write1 hI s hs (W.heap.size + 1) W.heap.size (W.heap.size + 2) (W.heap.size + 4) (W.heap.size + 3) pos k cap b ba bc hblen hent hfn' q2 q1 q3 q5 q4 ⟨by omega, by omega⟩
  by_cases hb0 : b = []
  · -- nothing to write
    subst hb0
    cases hdn : D.down with
    | true =>
      have HR : Hid (D.write s.data.toList pos [] = (D, 32)) := by show _ = _; unfold Dk.D.write; rw [if_pos hdn]
      have hc2 : Wb.cell? ⟨g, 2, none⟩ = some (.bool true) := by rw [← hdn]; exact hI.cells.2.2.1
      have hfin : DkPost i c W g (D, 32) (.returned (.int .i64 32)) Wb := ⟨_, rfl, ⟨m, xs, hI⟩, hch⟩
      rw [hWb] at hc2 hfin
      have HFI := Lib.hid hfin
      have hrdy := dk_ready _ g true hc2
      unfold wrBoxes at hrdy HFI
      simp only [List.length_nil] at hrdy HFI
      clear h hI hch hck q1 q2 q3 q4 q5 hWb hbel hsz hfn hfn' hmany hrd hfin hc2
      go_enter Tryd.func17, Tryd.ntmps17
      go_wp2_with fail
      refine hrdy.mono ?_
      rintro e w1 ⟨rfl, rfl⟩
      go_wp2_with fail
      go_ret
      rw [HR.out]
      exact HFI.out
    | false =>
      have HR : Hid (D.write s.data.toList pos [] = (D, Dk.writeCheck D s.data.toList pos [])) := by
        show _ = _
        unfold Dk.D.write
        rw [if_neg (by simp [hdn])]
        by_cases e : Dk.writeCheck D s.data.toList pos [] = 0
        · rw [if_neg (by simp [e]), if_pos rfl, e]
        · rw [if_pos e]
      have hc2 : Wb.cell? ⟨g, 2, none⟩ = some (.bool false) := by rw [← hdn]; exact hI.cells.2.2.1
      have hck2 : Calls Tryd.prog 31 #[.pointer (some ⟨W.heap.size, 0, none⟩), .pointer (some ⟨W.heap.size + 1, 0, none⟩), .pointer (some ⟨W.heap.size + 2, 0, none⟩), .pointer (some ⟨W.heap.size + 4, 0, none⟩), .pointer (some ⟨W.heap.size + 3, 0, none⟩)] Wb (DkPost i c W g (D, Dk.writeCheck D s.data.toList pos [])) := by
        refine hck.mono ?_
        rintro e W1 ⟨rfl, hg1, _⟩
        have hC : Chg (i + 1) (pnt c W.heap.size (i + 1)) (pnt (pnt c W.heap.size (i + 1)) Wb.heap.size 0) Wb W1 :=
          ⟨hg1.os, hg1.tape, hg1.output, hg1.size, fun b hb hne => hg1.block b hb (fun e => hne (by cases e; exact pnt_new (by omega))), fun b hb => pnt_old hb⟩
        have hB : Below W.heap.size W W1 := ⟨hg1.os.trans hbel.os, hg1.tape.trans hbel.tape, hg1.output.trans hbel.output, Nat.le_trans hbel.size hg1.size, fun b hb => (hg1.block b (by omega) (fun e => by cases e; omega)).trans (hbel.block b hb)⟩
        exact ⟨_, rfl, ⟨m, xs, hI.chg hC (by omega) (by omega)⟩, Chg.of_below' hB (fun b hb => (pnt_old (by omega)).trans (pnt_old hb))⟩
      rw [hWb] at hc2 hck2
      have hrdy := dk_ready _ g false hc2
      unfold wrBoxes at hrdy hck2
      simp only [List.length_nil] at hrdy hck2
      have HCK := Lib.hid hck2
      clear h hI hch hck q1 q2 q3 q4 q5 hWb hbel hsz hfn hfn' hmany hrd hc2 hck2
      go_enter Tryd.func17, Tryd.ntmps17
      go_wp2_with fail
      refine hrdy.mono ?_
      rintro e w1 ⟨rfl, rfl⟩
      go_wp2_with fail
      refine HCK.out.mono ?_
      intro e W' hp
      have HP := Lib.hid hp
      obtain ⟨c', rfl, _⟩ := hp
      go_wp2_with fail
      go_ret
      rw [HR.out]
      exact HP.out
  · have hpos : 0 < b.length := List.length_pos_iff.2 hb0
    have main : Calls Tryd.prog 12 #[.pointer (some ⟨g, 0, none⟩), .func (.func 31) #[] #[.pointer (some ⟨W.heap.size, 0, none⟩), .pointer (some ⟨W.heap.size + 1, 0, none⟩), .pointer (some ⟨W.heap.size + 2, 0, none⟩), .pointer (some ⟨W.heap.size + 4, 0, none⟩), .pointer (some ⟨W.heap.size + 3, 0, none⟩)], .func (.func 33) #[] #[.pointer (some ⟨W.heap.size, 0, none⟩), .pointer (some ⟨W.heap.size + 1, 0, none⟩), .pointer (some ⟨W.heap.size + 4, 0, none⟩), .pointer (some ⟨W.heap.size + 3, 0, none⟩)]] Wb (DkPost i c W g (D.write s.data.toList pos b)) := by
      refine dk_modify Wb g D.bud D.down (.map (some m)) hI.row hbud _ _ _ _ dk_ent31 dk_ent33 _ (fun hdn => ?_) (fun hdn => ?_)
      · unfold Dk.D.write
        rw [if_pos hdn]
        exact ⟨_, rfl, ⟨m, xs, hI⟩, hch⟩
      · refine hck.mono ?_
        rintro e W1 ⟨rfl, hg1, hat⟩
        have hC : Chg (i + 1) (pnt c W.heap.size (i + 1)) (pnt (pnt c W.heap.size (i + 1)) Wb.heap.size 0) Wb W1 :=
          ⟨hg1.os, hg1.tape, hg1.output, hg1.size, fun b hb hne => hg1.block b hb (fun e => hne (by cases e; exact pnt_new (by omega))), fun b hb => pnt_old hb⟩
        have hB : Below W.heap.size W W1 := ⟨hg1.os.trans hbel.os, hg1.tape.trans hbel.tape, hg1.output.trans hbel.output, Nat.le_trans hbel.size hg1.size, fun b hb => (hg1.block b (by omega) (fun e => by cases e; omega)).trans (hbel.block b hb)⟩
        have hI1 := hI.chg hC (by omega) (by omega)
        have hs1 := hg1.size
        refine ⟨_, rfl, hg1.block g (by omega) (fun e => by cases e; omega), dk_modPost hI1 (Chg.of_below' hB (fun b hb => (pnt_old (by omega)).trans (pnt_old hb))) _ _ _
          (match Dk.find s.data.toList D.fs with | some f => Dk.upd s.data.toList ⟨f.dur, f.pend ++ [⟨(pos f.contents.length).toNat, b⟩]⟩ D.fs | none => []) _ (fun hr => ?_) (fun hr => ?_) (fun hr W2 bud h2 hch2 hk2 hs2 => ?_)⟩
        · unfold Dk.D.write
          rw [if_neg (by simp [hdn]), if_pos hr]
        · unfold Dk.D.write
          rw [if_neg (by simp [hdn]), if_neg (by simp [hr]), if_neg hb0]
          cases hf : Dk.find s.data.toList D.fs with
          | none => unfold Dk.writeCheck at hr; rw [hf] at hr; simp at hr
          | some f => rfl
        · cases hf : Dk.find s.data.toList D.fs with
          | none => unfold Dk.writeCheck at hr; rw [hf] at hr; simp at hr
          | some f =>
            have hrng : 0 ≤ pos f.contents.length ∧ pos f.contents.length ≤ 16777216 - (b.length : Int) := by
              unfold Dk.writeCheck at hr
              rw [hf] at hr
              simp only [] at hr
              split at hr
              · simp at hr
              · omega
            obtain ⟨a, ha⟩ := Int.eq_ofNat_of_zero_le hrng.1
            rw [ha] at hrng
            have hk : ∀ b, W.heap.size ≤ b → b < Wb.heap.size → b ≠ W.heap.size + 4 → ∀ v, Wb.cell? ⟨b, 0, none⟩ = some v → W2.cell? ⟨b, 0, none⟩ = some v := by
              intro b hb1' hb2' hne v hv
              have e1 := World.cell?_of_block (w := Wb) (w' := W1) (a := ⟨b, 0, none⟩) (hg1.block b hb2' (fun e => hne (by cases e; rfl)))
              have e2 := World.cell?_of_block (w := W1) (w' := W2) (a := ⟨b, 0, none⟩) (hk2 b (by omega) (by omega))
              exact e2.trans (e1.trans hv)
            have hab : W2.cell? ⟨W.heap.size + 4, 0, none⟩ = some (.int .i64 (a : Int)) := by
              have e1 := (hk2 (W.heap.size + 4) (by omega) (by omega)).trans (hat f hf)
              rw [cell_of_row W2 _ _ _ _ _ e1, ha]; rfl
            have hrd2 := ((hrd.chg (Chg.of_below (i := i + 1) hbel (i + 1)) (by omega)).chg hC (by omega)).chg hch2 h.ne
            have := dk_write2 h2 s hs (W.heap.size + 1) W.heap.size (W.heap.size + 4) (W.heap.size + 3) f hf a b (.slice ba b.length bc) hpos (by omega) (hmany f hf) hrd2.1 (hk _ (by omega) (by omega) (by omega) _ q2) (hk _ (by omega) (by omega) (by omega) _ q1) hab (hk _ (by omega) (by omega) (by omega) _ q4)
            simp only [ha, Int.toNat_natCast]
            exact this
    rw [hWb] at main
    unfold wrBoxes at main
    have HM := Lib.hid main
    have hlb : ((b.length : Int) == 0) = false := by simpa using hb0
    clear main h hI hch hck q1 q2 q3 q4 q5 hWb hbel hsz hfn hfn' hmany hrd hb0
    go_enter Tryd.func17, Tryd.ntmps17
    go_wp2_with fail
    refine HM.out.mono ?_
    intro e W' hp
    have HP := Lib.hid hp
    obtain ⟨c', rfl, _⟩ := hp
    go_wp2_with fail
    go_ret
    exact HP.out

theorem dk_ent18 : ∀ args w, (callFunc 18 args).run Tryd.prog w = .ok (.enter 18 args) w := enters_of Tryd.func18 (by kernel_rfl) rfl
theorem dk_append1 (n : Int) (W : World) : Calls Tryd.prog 18 #[.int .i64 n] W fun e w' => e = .returned (.int .i64 n) ∧ W = w' := by
  go_enter Tryd.func18, Tryd.ntmps18
  go_wp2
  go_ret
  exact ⟨rfl, rfl⟩

set_option maxHeartbeats 1000000 in
theorem dk_Append {i : Nat} {c : Nat → Nat} {W : World} {g : Nat} {D : Dk.D} (h : DiskAt i c W g D) (s : ByteArray) (hs : s.size ≤ 9223372036854775807) (hbud : D.bud ≤ 9223372036854775807)
    (b : Dk.Bs) (bv : Value) (hrd : RdC c W bv b) (hblen : b.length ≤ 1073741824) (hmany : ∀ f, Dk.find s.data.toList D.fs = some f → f.pend.length < 65536) :
    Calls Tryd.prog 7 #[.pointer (some ⟨g, 0, none⟩), .string s, bv] W (DkPost i c W g (D.write s.data.toList (fun n => n) b)) := by
  have hw := Lib.hid (dk_write h s hs hbud (fun n => (n : Int)) 18 #[] dk_ent18 (fun n W' _ => dk_append1 n W') b bv hrd hblen hmany)
  clear h hrd hmany
  go_enter Tryd.func7, Tryd.ntmps7
  go_wp2_with fail
  refine hw.out.mono ?_
  intro e W' hp
  have HP := Lib.hid hp
  obtain ⟨c', rfl, _⟩ := hp
  go_wp2_with fail
  go_ret
  exact HP.out

end Go.Proofs.YtegahpgnmeobhaaDoor
