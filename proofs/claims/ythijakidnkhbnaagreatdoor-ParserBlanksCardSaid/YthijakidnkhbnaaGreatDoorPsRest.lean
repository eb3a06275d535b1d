/-
  The parser: the contracts of the nine methods that read the rest of a line.
-/
import Derived.Test.YthijakidnkhbnaaGreatDoorPsOpt
namespace Go.Proofs.YthijakidnkhbnaaGreatDoor
open Go.RowKit

theorem secS_res (Fc Fq Fd : ByteArray → Int × Int) (l : List Ps.Tok) (st : Ps.St) (i : Ps.Ins) : Ps.Res (Ps.security (psE Fc Fq Fd) l i) st (secS l Fq st).2.2 { i with asset := (secS l Fq st).1, quantity := (secS l Fq st).2.1 } := by
  unfold Ps.security
  rw [psE_isin]
  exact Ps.Res.bind (Ps.Res.of_step _ () _) (Ps.Res.bind (Ps.Res.of_step _ ⟨#[]⟩ _) (Ps.Res.bind (Ps.Res.of_step _ () _) (Ps.Res.bind (Ps.Res.of_step (Ps.take l Fq [2]) 0 _) (Ps.Res.pure _ _))))

/-- the contract of a method that reads the rest of a line -/
def FormC (fn : Nat) (W0 W : World) (r tb cap q : Nat) (l : List Ps.Tok) (E : Ps.Env) (v : Ps.Bs) : Prop := ∀ (st : Ps.St) (Q : Ps.Req) (w : World), RqAt W0 W r tb cap q l st (reqCells Q nilL) w → Q.ins.links = [] → Q.amd = {} →
  Calls Tryz.prog fn #[.pointer (some ⟨r, 0, none⟩), .pointer (some ⟨q, 0, none⟩)] w fun e W' => e = .returned (.tuple #[]) ∧ ∃ st' Q', QrAt W0 W r tb cap q l W.heap.size st' Q' W' ∧ Ps.Res (Ps.rest E l v Q) st st' Q'

theorem RqAt.qr {W0 W : World} {r tb cap q : Nat} {l : List Ps.Tok} {st : Ps.St} {Q : Ps.Req} {w : World} (h : RqAt W0 W r tb cap q l st (reqCells Q nilL) w) (hr : r < W.heap.size) (hq : q < W.heap.size) (hk : Q.ins.links = []) : QrAt W0 W r tb cap q l W.heap.size st Q w := ⟨hr, hq, nilL, h, by rw [hk]; exact LkAt.nil _ _⟩


theorem fm_payment {W0 W : World} {r tb cap q : Nat} {l : List Ps.Tok} (hl : ToksOk l) (env : PsEnv W0) (Fc Fq Fd : ByteArray → Int × Int) (hFc : PsNum 133 W0 Fc) (hFd : PsNum 134 W0 Fd) (hd : ∀ s, (Fd s).2 = 0 ∨ Fd s = (0, 28)) (hopt : OptC W0 W r tb cap q l (psE Fc Fq Fd)) : FormC 53 W0 W r tb cap q l (psE Fc Fq Fd) Ps.sPay := fun st Q w h hk ha => by
  refine (ps_payment hl env Fc Fq Fd hFc hFd hd hopt h hk).mono ?_
  rintro e W' ⟨h1, st', i', h2, h3⟩
  refine ⟨h1, st', { Q with ins := i' }, h2, ?_⟩
  unfold Ps.rest
  rw [if_pos rfl]
  exact Ps.Res.bind h3 (Ps.Res.pure _ _)

theorem ps_trade {W0 W : World} {r tb cap q : Nat} {l : List Ps.Tok} (hl : ToksOk l) (env : PsEnv W0) (Fc Fq Fd : ByteArray → Int × Int) (hFc : PsNum 133 W0 Fc) (hFq : PsNum 168 W0 Fq) (hFd : PsNum 134 W0 Fd) (hd : ∀ s, (Fd s).2 = 0 ∨ Fd s = (0, 28)) (hopt : OptC W0 W r tb cap q l (psE Fc Fq Fd)) {st : Ps.St} {Q : Ps.Req} {w : World} (h : RqAt W0 W r tb cap q l st (reqCells Q nilL) w) (hk : Q.ins.links = []) :
    Calls Tryz.prog 54 #[.pointer (some ⟨r, 0, none⟩), .pointer (some ⟨q, 0, none⟩)] w fun e W' => e = .returned (.tuple #[]) ∧ ∃ st' i', QrAt W0 W r tb cap q l W.heap.size st' { Q with ins := i' } W' ∧ Ps.Res (Ps.trade (psE Fc Fq Fd) l Q.ins) st st' i' := by
  have hz : ∀ (Q : Ps.Req) (lv : Value), (reqCells Q lv).size = 28 := fun Q lv => rfl
  obtain ⟨x, hx⟩ : ∃ x, x = (parS l st).1.1 := ⟨_, rfl⟩
  obtain ⟨y, hy⟩ : ∃ y, y = (parS l st).1.2 := ⟨_, rfl⟩
  obtain ⟨s1, hs1⟩ : ∃ s1, s1 = (parS l st).2 := ⟨_, rfl⟩
  obtain ⟨b, hb⟩ : ∃ b, b = secS l Fq s1 := ⟨_, rfl⟩
  obtain ⟨i2, hi2⟩ : ∃ i2 : Ps.Ins, i2 = { Q.ins with kind := 1, sender := x, counterparty := y } := ⟨_, rfl⟩
  obtain ⟨i3, hi3⟩ : ∃ i3 : Ps.Ins, i3 = { i2 with asset := b.1, quantity := b.2.1 } := ⟨_, rfl⟩
  have hpar := parS_res Fc Fq Fd l st
  rw [← hs1, show (parS l st).1 = (x, y) from by rw [hx, hy]] at hpar
  have hsec := secS_res Fc Fq Fd l s1 i2
  rw [← hb, ← hi3] at hsec
  have s1' : ∀ w', RqAt W0 W r tb cap q l st (reqCells Q nilL) w' → ((∃ u, w'.cell? ⟨q, 4, none⟩ = some u) ∧ w'.frozen? ⟨q, 4, none⟩ = false) ∧ RqAt W0 W r tb cap q l st (reqCells { Q with ins := { Q.ins with kind := 1 } } nilL) (w'.setCell ⟨q, 4, none⟩ (.int .i64 1)) := fun w' hw => ⟨hw.cell 4 (by rw [hz]; omega), hw.put 4 _ _ rfl⟩
  have n2' : ∀ w', RqAt W0 W r tb cap q l st (reqCells { Q with ins := { Q.ins with kind := 1 } } nilL) w' → Calls Tryz.prog 88 #[.pointer (some ⟨r, 0, none⟩)] w' fun e W' => e = .returned (.tuple #[.string x, .string y]) ∧ RqAt W0 W r tb cap q l s1 (reqCells { Q with ins := { Q.ins with kind := 1 } } nilL) W' := fun w' hw => by
    rw [hx, hy, hs1]
    exact (ps_parS hl env w' r tb cap _ hw.1).mono fun e W' ⟨h1, h2, h3⟩ => ⟨h1, hw.step h2 h3⟩
  have s3' : ∀ w', RqAt W0 W r tb cap q l s1 (reqCells { Q with ins := { Q.ins with kind := 1 } } nilL) w' → (((∃ u, w'.cell? ⟨q, 5, none⟩ = some u) ∧ w'.frozen? ⟨q, 5, none⟩ = false) ∧ ((∃ u, (w'.setCell ⟨q, 5, none⟩ (.string x)).cell? ⟨q, 6, none⟩ = some u) ∧ (w'.setCell ⟨q, 5, none⟩ (.string x)).frozen? ⟨q, 6, none⟩ = false) ∧ ((∃ u, w'.cell? ⟨q, 6, none⟩ = some u) ∧ w'.frozen? ⟨q, 6, none⟩ = false)) ∧
      RqAt W0 W r tb cap q l s1 (reqCells { Q with ins := i2 } nilL) ((w'.setCell ⟨q, 5, none⟩ (.string x)).setCell ⟨q, 6, none⟩ (.string y)) := fun w' hw => ⟨hw.two 5 6 _ (by rw [hz]; omega) (by rw [hz]; omega), by rw [hi2]; exact (hw.put 5 _ { Q with ins := { Q.ins with kind := 1, sender := x } } rfl).put 6 _ _ rfl⟩
  have n4' : ∀ w', RqAt W0 W r tb cap q l s1 (reqCells { Q with ins := i2 } nilL) w' → Calls Tryz.prog 93 #[.pointer (some ⟨r, 0, none⟩), .pointer (some ⟨q, 3, none⟩)] w' fun e W' => e = .returned (.tuple #[]) ∧ RqAt W0 W r tb cap q l b.2.2 (reqCells { Q with ins := i3 } nilL) W' := fun w' hw => by
    rw [hi3, hb]
    exact ps_security hl env Fq hFq hw rfl
  have hk3 : i3.links = [] := by rw [hi3, hi2]; exact hk
  have n5' : ∀ w', RqAt W0 W r tb cap q l b.2.2 (reqCells { Q with ins := i3 } nilL) w' → Calls Tryz.prog 21 #[.pointer (some ⟨r, 0, none⟩)] w' fun e W' => e = .returned (.string (Ps.peekS l b.2.2)) ∧ RqAt W0 W r tb cap q l b.2.2 (reqCells { Q with ins := i3 } nilL) W' := fun w' hw => by
    refine (ps_peek hw.1.rd).mono ?_
    rintro e w2 ⟨h1, k, rfl⟩
    have hbk := below_drewN' (Below.refl w'.heap.size w') k
    exact ⟨h1, hw.step (hw.1.below hbk) (Tch.of_below hbk)⟩
  -- what is alike in both ways: the end of the line
  have tail : ∀ (sA : Ps.St) (i4 : Ps.Ins), Ps.Res (fun a => if (Ps.peek l a).data.toList = Ps.sFree then .ok ({ i3 with kind := 2 }, a + 1) else Ps.bind' (Ps.word l Ps.sAgainst) (fun _ => Ps.bind' (Ps.cash (psE Fc Fq Fd) l) fun n => Ps.pure' { i3 with amount := n }) a) b.2.2 sA i4 → i4.links = [] →
      ∃ (sT : Ps.St) (d1 : Int) (sD : Ps.St) (sW : Ps.St) (d2 : Int) (sE : Ps.St),
        (∀ w', RqAt W0 W r tb cap q l sA (reqCells { Q with ins := i4 } nilL) w' → Calls Tryz.prog 89 #[.pointer (some ⟨r, 0, none⟩), .string ⟨#[116, 114, 97, 100, 101]⟩] w' fun e W' => e = .returned (.tuple #[]) ∧ RqAt W0 W r tb cap q l sT (reqCells { Q with ins := i4 } nilL) W') ∧
        (∀ w', RqAt W0 W r tb cap q l sT (reqCells { Q with ins := i4 } nilL) w' → Calls Tryz.prog 91 #[.pointer (some ⟨r, 0, none⟩)] w' fun e W' => e = .returned (.int .i64 d1) ∧ RqAt W0 W r tb cap q l sD (reqCells { Q with ins := i4 } nilL) W') ∧
        (∀ w', RqAt W0 W r tb cap q l sD (reqCells { Q with ins := i4 } nilL) w' → ((∃ u, w'.cell? ⟨q, 11, none⟩ = some u) ∧ w'.frozen? ⟨q, 11, none⟩ = false) ∧ RqAt W0 W r tb cap q l sD (reqCells { Q with ins := { i4 with tradeDay := d1 } } nilL) (w'.setCell ⟨q, 11, none⟩ (.int .i64 d1))) ∧
        (∀ w', RqAt W0 W r tb cap q l sD (reqCells { Q with ins := { i4 with tradeDay := d1 } } nilL) w' → Calls Tryz.prog 89 #[.pointer (some ⟨r, 0, none⟩), .string ⟨#[100, 97, 121]⟩] w' fun e W' => e = .returned (.tuple #[]) ∧ RqAt W0 W r tb cap q l sW (reqCells { Q with ins := { i4 with tradeDay := d1 } } nilL) W') ∧
        (∀ w', RqAt W0 W r tb cap q l sW (reqCells { Q with ins := { i4 with tradeDay := d1 } } nilL) w' → Calls Tryz.prog 91 #[.pointer (some ⟨r, 0, none⟩)] w' fun e W' => e = .returned (.int .i64 d2) ∧ RqAt W0 W r tb cap q l sE (reqCells { Q with ins := { i4 with tradeDay := d1 } } nilL) W') ∧
        (∀ w', RqAt W0 W r tb cap q l sE (reqCells { Q with ins := { i4 with tradeDay := d1 } } nilL) w' → ((∃ u, w'.cell? ⟨q, 12, none⟩ = some u) ∧ w'.frozen? ⟨q, 12, none⟩ = false) ∧ RqAt W0 W r tb cap q l sE (reqCells { Q with ins := { i4 with tradeDay := d1, settleDay := d2 } } nilL) (w'.setCell ⟨q, 12, none⟩ (.int .i64 d2))) ∧
        (∀ w', RqAt W0 W r tb cap q l sE (reqCells { Q with ins := { i4 with tradeDay := d1, settleDay := d2 } } nilL) w' → Calls Tryz.prog 92 #[.pointer (some ⟨r, 0, none⟩), .pointer (some ⟨q, 3, none⟩)] w' fun e W' => e = .returned (.tuple #[]) ∧ ∃ st' i', QrAt W0 W r tb cap q l W.heap.size st' { Q with ins := i' } W' ∧ Ps.Res (Ps.trade (psE Fc Fq Fd) l Q.ins) st st' i') := by
    intro sA i4 hA hk4
    obtain ⟨sT, hsT⟩ : ∃ sT, sT = (Ps.step (Ps.word l Ps.sTrade) () sA).2 := ⟨_, rfl⟩
    obtain ⟨d1, hd1⟩ : ∃ d1, d1 = (Ps.step (Ps.take l Fd [4]) 0 sT).1 := ⟨_, rfl⟩
    obtain ⟨sD, hsD⟩ : ∃ sD, sD = (Ps.step (Ps.take l Fd [4]) 0 sT).2 := ⟨_, rfl⟩
    obtain ⟨sW, hsW⟩ : ∃ sW, sW = (Ps.step (Ps.word l Ps.sDay) () sD).2 := ⟨_, rfl⟩
    obtain ⟨d2, hd2⟩ : ∃ d2, d2 = (Ps.step (Ps.take l Fd [4]) 0 sW).1 := ⟨_, rfl⟩
    obtain ⟨sE, hsE⟩ : ∃ sE, sE = (Ps.step (Ps.take l Fd [4]) 0 sW).2 := ⟨_, rfl⟩
    refine ⟨sT, d1, sD, sW, d2, sE, fun w' hw => ?_, fun w' hw => ?_, fun w' hw => ⟨hw.cell 11 (by rw [hz]; omega), hw.put 11 _ _ rfl⟩, fun w' hw => ?_, fun w' hw => ?_, fun w' hw => ⟨hw.cell 12 (by rw [hz]; omega), hw.put 12 _ _ rfl⟩, fun w' hw => ?_⟩
    · rw [hsT]
      exact (ps_wordAt hl hw.1 ⟨#[116, 114, 97, 100, 101]⟩).mono fun e W' ⟨h1, h2, h3⟩ => ⟨h1, hw.step h2 h3⟩
    · rw [hd1, hsD]
      exact (ps_day hl Fd hFd w' r tb cap _ hw.1).mono fun e W' ⟨h1, h2, h3⟩ => ⟨h1, hw.step h2 h3⟩
    · rw [hsW]
      exact (ps_wordAt hl hw.1 ⟨#[100, 97, 121]⟩).mono fun e W' ⟨h1, h2, h3⟩ => ⟨h1, hw.step h2 h3⟩
    · rw [hd2, hsE]
      exact (ps_day hl Fd hFd w' r tb cap _ hw.1).mono fun e W' ⟨h1, h2, h3⟩ => ⟨h1, hw.step h2 h3⟩
    · refine (hopt _ _ w' hw hk4).mono ?_
      rintro e W' ⟨h1, st', i', h2, h3⟩
      refine ⟨h1, st', i', h2, Ps.Res.bind hpar ?_⟩
      rw [← hi2]
      refine Ps.Res.bind hsec (Ps.Res.bind hA (Ps.Res.bind (st1 := sT) (y := (Ps.step (Ps.word l Ps.sTrade) () sA).1) (by rw [hsT]; exact Ps.Res.of_step _ _ _) ?_))
      rw [psE_day _ _ _ hd]
      exact Ps.Res.bind (st1 := sD) (y := d1) (by rw [hsD, hd1]; exact Ps.Res.of_step _ _ _) (Ps.Res.bind (st1 := sW) (y := (Ps.step (Ps.word l Ps.sDay) () sD).1) (by rw [hsW]; exact Ps.Res.of_step _ _ _) (Ps.Res.bind (st1 := sE) (y := d2) (by rw [hsE, hd2]; exact Ps.Res.of_step _ _ _) h3))
  by_cases hfree : (Ps.peekS l b.2.2).data.toList = Ps.sFree
  · -- free
    obtain ⟨a, ha⟩ : ∃ a, b.2.2 = .ok a := by
      cases hst : b.2.2 with
      | ok a => exact ⟨a, rfl⟩
      | error er => rw [hst] at hfree; cases hfree
    have hfree0 := hfree
    rw [ha] at hfree
    have hlt : a < l.length := by
      rcases Nat.lt_or_ge a l.length with h | h
      · exact h
      · exfalso
        have : Ps.peekS l (.ok a) = ⟨#[]⟩ := Ps.peekS_of_not l (.ok a) (by simp [Ps.okAt, h])
        rw [this] at hfree; cases hfree
    have hpk : (Ps.peek l a).data.toList = Ps.sFree := hfree
    have hA : Ps.Res (fun a => if (Ps.peek l a).data.toList = Ps.sFree then .ok ({ i3 with kind := 2 }, a + 1) else Ps.bind' (Ps.word l Ps.sAgainst) (fun _ => Ps.bind' (Ps.cash (psE Fc Fq Fd) l) fun n => Ps.pure' { i3 with amount := n }) a) b.2.2 (.ok (a + 1)) { i3 with kind := 2 } := by
      rw [ha]
      show (if (Ps.peek l a).data.toList = Ps.sFree then _ else _) = _
      rw [if_pos hpk]
    obtain ⟨sT, d1, sD, sW, d2, sE, T1, T2, T3, T4, T5, T6, T7⟩ := tail (.ok (a + 1)) { i3 with kind := 2 } hA hk3
    have hmany : l.length ≤ 1000000 := by obtain ⟨_, _, _, _, _, _, _, _, hm, _⟩ := h.1.rd; exact hm
    exact ps_tradeFree w r q x y (Ps.peekS l b.2.2) a d1 d2 _ _ _ _ _ (fun w' => RqAt W0 W r tb cap q l b.2.2 (reqCells { Q with ins := i3 } nilL) w') (fun w' => RqAt W0 W r tb cap q l (.ok (a + 1)) (reqCells { Q with ins := i3 } nilL) w') (fun w' => RqAt W0 W r tb cap q l (.ok (a + 1)) (reqCells { Q with ins := { i3 with kind := 2 } } nilL) w') _ _ _ _ _ _ _ h (Lib.hid s1') (Lib.hid n2') (Lib.hid s3') (Lib.hid n4') (txt_eq hfree0) (Lib.hid n5') (by unfold wrap64; omega)
      (Lib.hid fun w' hw => by
        rw [ha] at hw
        obtain ⟨c1, c2, c3⟩ := hw.inc hlt
        exact ⟨c1, c2⟩) (Lib.hid fun w' hw => ⟨hw.cell 4 (by rw [hz]; omega), hw.put 4 _ _ rfl⟩) (Lib.hid T1) (Lib.hid T2) (Lib.hid T3) (Lib.hid T4) (Lib.hid T5) (Lib.hid T6) (Lib.hid T7)
  · -- against
    obtain ⟨sG, hsG⟩ : ∃ sG, sG = (Ps.step (Ps.word l Ps.sAgainst) () b.2.2).2 := ⟨_, rfl⟩
    obtain ⟨n, hn⟩ : ∃ n, n = (Ps.step (Ps.take l Fc [3]) 0 sG).1 := ⟨_, rfl⟩
    obtain ⟨sA, hsA⟩ : ∃ sA, sA = (Ps.step (Ps.take l Fc [3]) 0 sG).2 := ⟨_, rfl⟩
    have hA : Ps.Res (fun a => if (Ps.peek l a).data.toList = Ps.sFree then .ok ({ i3 with kind := 2 }, a + 1) else Ps.bind' (Ps.word l Ps.sAgainst) (fun _ => Ps.bind' (Ps.cash (psE Fc Fq Fd) l) fun n => Ps.pure' { i3 with amount := n }) a) b.2.2 sA { i3 with amount := n } := by
      have hr : Ps.Res (Ps.bind' (Ps.word l Ps.sAgainst) (fun _ => Ps.bind' (Ps.cash (psE Fc Fq Fd) l) fun n => Ps.pure' { i3 with amount := n })) b.2.2 sA { i3 with amount := n } :=
        Ps.Res.bind (st1 := sG) (y := (Ps.step (Ps.word l Ps.sAgainst) () b.2.2).1) (by rw [hsG]; exact Ps.Res.of_step _ _ _) (Ps.Res.bind (st1 := sA) (y := n) (by rw [hsA, hn]; exact Ps.Res.of_step (Ps.take l Fc [3]) 0 _) (Ps.Res.pure _ _))
      refine hr.mono fun a ha => ?_
      rw [ha] at hfree
      have hpk : ¬ (Ps.peek l a).data.toList = Ps.sFree := hfree
      simp only [if_neg hpk]
    obtain ⟨sT, d1, sD, sW, d2, sE, T1, T2, T3, T4, T5, T6, T7⟩ := tail sA { i3 with amount := n } hA hk3
    exact ps_tradeAgainst w r q x y (Ps.peekS l b.2.2) n d1 d2 _ _ _ _ _ (fun w' => RqAt W0 W r tb cap q l b.2.2 (reqCells { Q with ins := i3 } nilL) w') (fun w' => RqAt W0 W r tb cap q l sG (reqCells { Q with ins := i3 } nilL) w') (fun w' => RqAt W0 W r tb cap q l sA (reqCells { Q with ins := i3 } nilL) w') (fun w' => RqAt W0 W r tb cap q l sA (reqCells { Q with ins := { i3 with amount := n } } nilL) w') _ _ _ _ _ _ _ h (Lib.hid s1') (Lib.hid n2') (Lib.hid s3') (Lib.hid n4') (txt_ne hfree) (Lib.hid n5')
      (Lib.hid fun w' hw => by
        rw [hsG]
        exact (ps_wordAt hl hw.1 ⟨#[97, 103, 97, 105, 110, 115, 116]⟩).mono fun e W' ⟨h1, h2, h3⟩ => ⟨h1, hw.step h2 h3⟩)
      (Lib.hid fun w' hw => by
        rw [hn, hsA]
        exact (ps_cash hl Fc hFc w' r tb cap _ hw.1).mono fun e W' ⟨h1, h2, h3⟩ => ⟨h1, hw.step h2 h3⟩) (Lib.hid fun w' hw => ⟨hw.cell 10 (by rw [hz]; omega), hw.put 10 _ _ rfl⟩) (Lib.hid T1) (Lib.hid T2) (Lib.hid T3) (Lib.hid T4) (Lib.hid T5) (Lib.hid T6) (Lib.hid T7)

theorem fm_trade {W0 W : World} {r tb cap q : Nat} {l : List Ps.Tok} (hl : ToksOk l) (env : PsEnv W0) (Fc Fq Fd : ByteArray → Int × Int) (hFc : PsNum 133 W0 Fc) (hFq : PsNum 168 W0 Fq) (hFd : PsNum 134 W0 Fd) (hd : ∀ s, (Fd s).2 = 0 ∨ Fd s = (0, 28)) (hopt : OptC W0 W r tb cap q l (psE Fc Fq Fd)) : FormC 54 W0 W r tb cap q l (psE Fc Fq Fd) Ps.sDeliver := fun st Q w h hk ha => by
  refine (ps_trade hl env Fc Fq Fd hFc hFq hFd hd hopt h hk).mono ?_
  rintro e W' ⟨h1, st', i', h2, h3⟩
  refine ⟨h1, st', { Q with ins := i' }, h2, ?_⟩
  unfold Ps.rest
  rw [if_neg (by decide), if_pos rfl]
  exact Ps.Res.bind h3 (Ps.Res.pure _ _)

theorem fm_receipt {W0 W : World} {r tb cap q : Nat} {l : List Ps.Tok} (hl : ToksOk l) (env : PsEnv W0) (Fc Fq Fd : ByteArray → Int × Int) (hFc : PsNum 133 W0 Fc) (hFq : PsNum 168 W0 Fq) (hFd : PsNum 134 W0 Fd) (hd : ∀ s, (Fd s).2 = 0 ∨ Fd s = (0, 28)) (hopt : OptC W0 W r tb cap q l (psE Fc Fq Fd)) : FormC 55 W0 W r tb cap q l (psE Fc Fq Fd) Ps.sReceive := fun st Q w h hk ha => by
  refine (ps_receiptL w r q _ (ps_trade hl env Fc Fq Fd hFc hFq hFd hd hopt h hk) (Lib.hid ?_)).mono ?_
  · rintro w' ⟨st', i', ⟨h1, h2, lv, h3, h4⟩, h5⟩
    exact ⟨i'.sender, i'.counterparty, _, h3.2.1, rfl, rfl, by show 7 < 28; omega⟩
  · rintro e W' ⟨rfl, w', x, y, ⟨st', i', h2, h3⟩, c5, c6, rfl⟩
    have hx : x = i'.sender := by
      obtain ⟨_, _, lv, h4, _⟩ := h2
      have : w'.cell? ⟨q, 5, none⟩ = some (.string i'.sender) := by rw [cell_of_row _ _ _ _ _ _ h4.2.1]; rfl
      rw [this] at c5; cases c5; rfl
    have hy : y = i'.counterparty := by
      obtain ⟨_, _, lv, h4, _⟩ := h2
      have : w'.cell? ⟨q, 6, none⟩ = some (.string i'.counterparty) := by rw [cell_of_row _ _ _ _ _ _ h4.2.1]; rfl
      rw [this] at c6; cases c6; rfl
    subst hx
    subst hy
    refine ⟨rfl, st', { Q with ins := Ps.turn i' }, ?_, ?_⟩
    · have e1 := ((h2.store 7 (.int .i64 1) { Q with ins := { i' with side := 1 } } (fun lv => rfl) rfl).store 5 (.string i'.counterparty) { Q with ins := { i' with side := 1, sender := i'.counterparty } } (fun lv => rfl) rfl).store 6 (.string i'.sender) { Q with ins := Ps.turn i' } (fun lv => rfl) rfl
      exact e1.below (Below.refl _ _).drew
    · unfold Ps.rest
      rw [if_neg (by decide), if_neg (by decide), if_pos rfl]
      exact Ps.Res.bind h3 (Ps.Res.pure _ _)

theorem fm_collateral {W0 W : World} {r tb cap q : Nat} {l : List Ps.Tok} (hl : ToksOk l) (env : PsEnv W0) (Fc Fq Fd : ByteArray → Int × Int) (hFq : PsNum 168 W0 Fq) (hFd : PsNum 134 W0 Fd) (hd : ∀ s, (Fd s).2 = 0 ∨ Fd s = (0, 28)) (hrW : r < W.heap.size) (hqW : q < W.heap.size) (kd : Int) {st : Ps.St} {Q : Ps.Req} {w : World} (h : RqAt W0 W r tb cap q l st (reqCells Q nilL) w) (hk : Q.ins.links = []) :
    Calls Tryz.prog 94 #[.pointer (some ⟨r, 0, none⟩), .pointer (some ⟨q, 3, none⟩), .int .i64 kd] w fun e W' => e = .returned (.tuple #[]) ∧ ∃ st' i', QrAt W0 W r tb cap q l W.heap.size st' { Q with ins := i' } W' ∧ Ps.Res (Ps.collateral (psE Fc Fq Fd) l kd Q.ins) st st' i' := by
  obtain ⟨x, hx⟩ : ∃ x, x = (Ps.step (psBy l) ⟨#[]⟩ st).1 := ⟨_, rfl⟩
  obtain ⟨s1, hs1⟩ : ∃ s1, s1 = (Ps.step (psBy l) ⟨#[]⟩ st).2 := ⟨_, rfl⟩
  obtain ⟨b, hb⟩ : ∃ b, b = secS l Fq s1 := ⟨_, rfl⟩
  obtain ⟨s3, hs3⟩ : ∃ s3, s3 = (Ps.step (Ps.word l Ps.sDay) () b.2.2).2 := ⟨_, rfl⟩
  obtain ⟨n, hn⟩ : ∃ n, n = (Ps.step (Ps.take l Fd [4]) 0 s3).1 := ⟨_, rfl⟩
  obtain ⟨s4, hs4⟩ : ∃ s4, s4 = (Ps.step (Ps.take l Fd [4]) 0 s3).2 := ⟨_, rfl⟩
  have e1 : collS l Fq Fd kd (reqCells Q nilL) st = (reqCells { Q with ins := { Q.ins with kind := kd, sender := x, asset := b.1, quantity := b.2.1, settleDay := n } } nilL, s4) := by
    unfold collS
    simp only []
    rw [← hx, ← hs1, ← hb, ← hs3, ← hn, ← hs4]
    rfl
  have hc := ps_collateral hl env Fq Fd hFq hFd h rfl kd
  rw [e1] at hc
  refine hc.mono ?_
  rintro e W' ⟨h1, h2⟩
  refine ⟨h1, s4, _, RqAt.qr (Q := { Q with ins := { Q.ins with kind := kd, sender := x, asset := b.1, quantity := b.2.1, settleDay := n } }) h2 hrW hqW hk, ?_⟩
  have hsec := secS_res Fc Fq Fd l s1 { Q.ins with kind := kd, sender := x }
  rw [← hb] at hsec
  unfold Ps.collateral
  rw [psE_by, psE_day _ _ _ hd]
  exact Ps.Res.bind (st1 := s1) (y := x) (by rw [hs1, hx]; exact Ps.Res.of_step _ _ _) (Ps.Res.bind hsec (Ps.Res.bind (st1 := s3) (y := (Ps.step (Ps.word l Ps.sDay) () b.2.2).1) (by rw [hs3]; exact Ps.Res.of_step _ _ _) (Ps.Res.bind (st1 := s4) (y := n) (by rw [hs4, hn]; exact Ps.Res.of_step (Ps.take l Fd [4]) 0 _) (Ps.Res.pure _ _))))

theorem fm_pledge {W0 W : World} {r tb cap q : Nat} {l : List Ps.Tok} (hl : ToksOk l) (env : PsEnv W0) (Fc Fq Fd : ByteArray → Int × Int) (hFq : PsNum 168 W0 Fq) (hFd : PsNum 134 W0 Fd) (hd : ∀ s, (Fd s).2 = 0 ∨ Fd s = (0, 28)) (hrW : r < W.heap.size) (hqW : q < W.heap.size) : FormC 56 W0 W r tb cap q l (psE Fc Fq Fd) Ps.sPledge := fun st Q w h hk ha => by
  refine (ps_pledgeL w r q _ (fm_collateral hl env Fc Fq Fd hFq hFd hd hrW hqW 3 h hk)).mono ?_
  rintro e W' ⟨h1, st', i', h2, h3⟩
  refine ⟨h1, st', { Q with ins := i' }, h2, ?_⟩
  unfold Ps.rest
  rw [if_neg (by decide), if_neg (by decide), if_neg (by decide), if_pos rfl]
  exact Ps.Res.bind h3 (Ps.Res.pure _ _)

theorem fm_release {W0 W : World} {r tb cap q : Nat} {l : List Ps.Tok} (hl : ToksOk l) (env : PsEnv W0) (Fc Fq Fd : ByteArray → Int × Int) (hFq : PsNum 168 W0 Fq) (hFd : PsNum 134 W0 Fd) (hd : ∀ s, (Fd s).2 = 0 ∨ Fd s = (0, 28)) (hrW : r < W.heap.size) (hqW : q < W.heap.size) : FormC 57 W0 W r tb cap q l (psE Fc Fq Fd) Ps.sRelease := fun st Q w h hk ha => by
  refine (ps_releaseL w r q _ (fm_collateral hl env Fc Fq Fd hFq hFd hd hrW hqW 4 h hk)).mono ?_
  rintro e W' ⟨h1, st', i', h2, h3⟩
  refine ⟨h1, st', { Q with ins := i' }, h2, ?_⟩
  unfold Ps.rest
  rw [if_neg (by decide), if_neg (by decide), if_neg (by decide), if_neg (by decide), if_pos rfl]
  exact Ps.Res.bind h3 (Ps.Res.pure _ _)

theorem fm_amend {W0 W : World} {r tb cap q : Nat} {l : List Ps.Tok} (hl : ToksOk l) (env : PsEnv W0) (Fc Fq Fd : ByteArray → Int × Int) (hchg : ChgC W0 W r tb cap q l (psE Fc Fq Fd)) : FormC 58 W0 W r tb cap q l (psE Fc Fq Fd) Ps.sAmend := fun st Q w h hk ha => by
  have hz : ∀ (Q : Ps.Req) (lv : Value), (reqCells Q lv).size = 28 := fun Q lv => rfl
  obtain ⟨z, hzz⟩ : ∃ z, z = (Ps.step (psBy l) ⟨#[]⟩ st).1 := ⟨_, rfl⟩
  obtain ⟨s1, hs1⟩ : ∃ s1, s1 = (Ps.step (psBy l) ⟨#[]⟩ st).2 := ⟨_, rfl⟩
  refine ps_amendL w r q z (fun w' => RqAt W0 W r tb cap q l st (reqCells Q nilL) w') (fun w' => RqAt W0 W r tb cap q l s1 (reqCells Q nilL) w') (fun w' => RqAt W0 W r tb cap q l s1 (reqCells { Q with op := 1, sender := z } nilL) w') _ h (Lib.hid fun w' hw => ?_) (Lib.hid fun w' hw => ⟨hw.two 0 1 _ (by rw [hz]; omega) (by rw [hz]; omega), (hw.put 0 _ { Q with op := 1 } rfl).put 1 _ _ rfl⟩) (Lib.hid fun w' hw => ?_)
  · rw [hzz, hs1]
    exact (ps_by hl env w' r tb cap _ hw.1).mono fun e W' ⟨h1, h2, h3⟩ => ⟨h1, hw.step h2 h3⟩
  · refine (hchg _ _ w' hw hk ha).mono ?_
    rintro e W' ⟨h1, st', m', h2, h3⟩
    refine ⟨h1, st', _, h2, ?_⟩
    unfold Ps.rest
    rw [if_neg (by decide), if_neg (by decide), if_neg (by decide), if_neg (by decide), if_neg (by decide), if_pos rfl, psE_by]
    refine Ps.Res.bind (st1 := s1) (y := z) (by rw [hs1, hzz]; exact Ps.Res.of_step _ _ _) ?_
    have h4 : Ps.Res (Ps.bind' (ChgP (psE Fc Fq Fd) l) fun m => Ps.pure' { Q with op := 1, sender := z, amd := m }) s1 st' { Q with op := 1, sender := z, amd := m' } := Ps.Res.bind h3 (Ps.Res.pure _ _)
    refine h4.mono fun a _ => ?_
    unfold ChgP
    by_cases hle : l.length ≤ a
    · simp only [Ps.bind', if_pos hle]
    · simp only [Ps.bind', if_neg hle]

theorem fm_cancel {W0 W : World} {r tb cap q : Nat} {l : List Ps.Tok} (hl : ToksOk l) (env : PsEnv W0) (Fc Fq Fd : ByteArray → Int × Int) (hrW : r < W.heap.size) (hqW : q < W.heap.size) : FormC 59 W0 W r tb cap q l (psE Fc Fq Fd) Ps.sCancel := fun st Q w h hk ha => by
  refine (ps_cancel hl env h rfl).mono ?_
  rintro e W' ⟨h1, h2⟩
  refine ⟨h1, _, _, RqAt.qr (Q := { Q with op := 2, sender := (Ps.step (psBy l) ⟨#[]⟩ st).1 }) h2 hrW hqW hk, ?_⟩
  unfold Ps.rest
  rw [if_neg (by decide), if_neg (by decide), if_neg (by decide), if_neg (by decide), if_neg (by decide), if_neg (by decide), if_pos rfl, psE_by]
  exact Ps.Res.bind (Ps.Res.of_step _ ⟨#[]⟩ _) (Ps.Res.pure _ _)

theorem fm_hold {W0 W : World} {r tb cap q : Nat} {l : List Ps.Tok} (hl : ToksOk l) (env : PsEnv W0) (Fc Fq Fd : ByteArray → Int × Int) (hrW : r < W.heap.size) (hqW : q < W.heap.size) : FormC 60 W0 W r tb cap q l (psE Fc Fq Fd) Ps.sHold := fun st Q w h hk ha => by
  refine (ps_hold hl env h rfl).mono ?_
  rintro e W' ⟨h1, h2⟩
  refine ⟨h1, _, _, RqAt.qr (Q := { Q with op := 3, sender := (Ps.step (psBy l) ⟨#[]⟩ st).1 }) h2 hrW hqW hk, ?_⟩
  unfold Ps.rest
  rw [if_neg (by decide), if_neg (by decide), if_neg (by decide), if_neg (by decide), if_neg (by decide), if_neg (by decide), if_neg (by decide), if_pos rfl, psE_by]
  exact Ps.Res.bind (Ps.Res.of_step _ ⟨#[]⟩ _) (Ps.Res.pure _ _)

theorem fm_resume {W0 W : World} {r tb cap q : Nat} {l : List Ps.Tok} (hl : ToksOk l) (env : PsEnv W0) (Fc Fq Fd : ByteArray → Int × Int) (hrW : r < W.heap.size) (hqW : q < W.heap.size) : FormC 61 W0 W r tb cap q l (psE Fc Fq Fd) Ps.sResume := fun st Q w h hk ha => by
  refine (ps_resume hl env h rfl).mono ?_
  rintro e W' ⟨h1, h2⟩
  refine ⟨h1, _, _, RqAt.qr (Q := { Q with op := 4, sender := (Ps.step (psBy l) ⟨#[]⟩ st).1 }) h2 hrW hqW hk, ?_⟩
  unfold Ps.rest
  rw [if_neg (by decide), if_neg (by decide), if_neg (by decide), if_neg (by decide), if_neg (by decide), if_neg (by decide), if_neg (by decide), if_neg (by decide), psE_by]
  exact Ps.Res.bind (Ps.Res.of_step _ ⟨#[]⟩ _) (Ps.Res.pure _ _)

end Go.Proofs.YthijakidnkhbnaaGreatDoor
