/-
  Checkpoints, plain: a store behind a crash; a file with one byte changed.
-/
import Derived.Test.YtamencnachmhoaaGreatDoorCkSave
import Derived.Test.YtamencnachmhoaaGreatDoorDkRead
namespace Go.Proofs.YtamencnachmhoaaGreatDoor.Ck
open Go

section
variable {nm : Bs} {pre post : List (Bs × Dk.Fl)} {l : List (Nat × Bs)} {d : Dk.D}
theorem restart_quiet : ∀ {fs : List (Bs × Dk.Fl)} (r : List (Bs × Dk.Fl)) (ch : Bs), (∀ x ∈ fs, x.2.pend = []) → Dk.restartFs (fs ++ r) ch = (fs ++ (Dk.restartFs r ch).1, (Dk.restartFs r ch).2)
  | [], r, ch, _ => rfl
  | (n, f) :: fs, r, ch, h => by
    rw [List.cons_append, Dk.restartFs, if_pos (h (n, f) (by simp)), restart_quiet r ch (fun x hx => h x (List.mem_cons_of_mem _ hx))]
    rfl
theorem snapF_quiet (nm : Bs) (l : List (Nat × Bs)) : ∀ x ∈ snapF nm l, x.2.pend = [] := fun x hx => by
  obtain ⟨s, _, rfl⟩ := mem_snapF hx
  rfl
/-- the store behind a restart -/
theorem Holds.restart {t : Option Dk.Fl} (H : Holds nm [] [] l t d) (hdn : d.down = true) (ch : Bs) :
    (d.restart ch).2 = 0 ∧ (d.restart ch).1.down = false ∧ (d.restart ch).1.bud = -1 ∧ ∃ t', Holds nm [] [] l t' (d.restart ch).1 := by
  unfold Dk.D.restart
  rw [if_pos hdn]
  refine ⟨rfl, rfl, rfl, ?_⟩
  have hfs : d.fs = snapF nm l ++ (t.map fun f => (tmpName nm, f)).toList := by rw [H.fs]; simp
  cases t with
  | none =>
    refine ⟨none, H.V, H.S, ?_⟩
    show (Dk.restartFs d.fs ch).1 = _
    rw [hfs, restart_quiet _ _ (snapF_quiet nm l)]
    simp [Dk.restartFs]
  | some f =>
    obtain ⟨f', hf'⟩ : ∃ f', (Dk.restartFs [(tmpName nm, f)] ch).1 = [(tmpName nm, f')] := by
      rw [Dk.restartFs]
      split
      · exact ⟨f, rfl⟩
      · exact ⟨_, rfl⟩
    refine ⟨some f', H.V, H.S, ?_⟩
    show (Dk.restartFs d.fs ch).1 = _
    rw [hfs, restart_quiet _ _ (snapF_quiet nm l)]
    show snapF nm l ++ (Dk.restartFs [(tmpName nm, f)] ch).1 = _
    rw [hf']
    simp
theorem Holds.crash {t : Option Dk.Fl} (H : Holds nm pre post l t d) : Holds nm pre post l t d.crash.1 ∧ d.crash.1.down = true := by
  unfold Dk.D.crash
  split
  · exact ⟨H, by assumption⟩
  · exact ⟨H.other rfl, rfl⟩
/-- Open on a disk with or without an unfinished file -/
theorem Holds.discardAny {t : Option Dk.Fl} (H : Holds nm pre post l t d) (hup : d.down = false) (hb : d.bud = -1) :
    (Ck.discard d (tmpName nm)).2 = 0 ∧ (Ck.discard d (tmpName nm)).1.down = false ∧ (Ck.discard d (tmpName nm)).1.bud = -1 ∧ Holds nm pre post l none (Ck.discard d (tmpName nm)).1 := by
  cases t with
  | none => rw [H.discard]; exact ⟨rfl, hup, hb, H⟩
  | some f =>
    have hc : d.names.contains (tmpName nm) = true := by
      unfold Dk.D.names
      rw [if_neg (by simp [hup]), H.fs]
      simp
    have hdel : Dk.del (tmpName nm) d.fs = (pre ++ snapF nm l) ++ post := by
      rw [H.fs]
      exact del_at (fun x hx => before_ne (H.aheadT x hx)) (fun x hx => H.V.postT x (by simpa using hx))
    have e : Ck.discard d (tmpName nm) = d.modify ((pre ++ snapF nm l) ++ post) := by
      unfold Ck.discard Dk.D.remove
      rw [if_pos hc, if_neg (by simp [hup]), H.findT]
      show d.modify _ = _
      rw [hdel]
    rw [e]
    rcases modify_cases d ((pre ++ snapF nm l) ++ post) with ⟨q1, q2, q3, q4, _⟩ | ⟨q1, q2⟩
    · exact ⟨q1, q3.trans hup, q4 hb, H.V, H.S, by rw [q2]; rfl⟩
    · omega
theorem Holds.openC {t : Option Dk.Fl} (H : Holds nm pre post l t d) (hup : d.down = false) (hb : d.bud = -1) :
    (Ck.openC d nm).2 = 0 ∧ (Ck.openC d nm).1.down = false ∧ (Ck.openC d nm).1.bud = -1 ∧ Holds nm pre post l none (Ck.openC d nm).1 := by
  unfold Ck.openC
  rw [if_neg (by rw [H.V.vp]; simp), if_neg (by simp [hup])]
  exact H.discardAny hup hb
theorem keep2_len (l : List (Nat × Bs)) : (keep2 l).length ≤ 2 := by unfold keep2; rw [List.length_drop]; omega
theorem keep2_last (l : List (Nat × Bs)) (s : Nat × Bs) : (keep2 (l ++ [s])).getLast? = some s := by
  unfold keep2
  rw [List.length_append, List.length_singleton]
  rw [List.drop_append_of_le_length (by omega), List.getLast?_append]
  rfl
end

/-! ### one byte changed -/
theorem xor_cancel {a b c : Nat} (h : a ^^^ c = b ^^^ c) : a = b := by
  have := congrArg (· ^^^ c) h
  simpa [Nat.xor_assoc, Nat.xor_self, Nat.xor_zero] using this
theorem xor_cancel_left {a b c : Nat} (h : c ^^^ a = c ^^^ b) : a = b := by
  rw [Nat.xor_comm c a, Nat.xor_comm c b] at h
  exact xor_cancel h
set_option maxRecDepth 100000 in
theorem crcTab_top : ∀ i j : Fin 256, Wl.crcTab i.val / 16777216 = Wl.crcTab j.val / 16777216 → i = j := by decide +kernel
theorem div_xor (a b : Nat) : (a ^^^ b) / 16777216 = (a / 16777216) ^^^ (b / 16777216) := by
  have h : ∀ x : Nat, x / 16777216 = x >>> 24 := fun x => by rw [Nat.shiftRight_eq_div_pow]
  rw [h, h, h, Nat.shiftRight_xor_distrib]
theorem crcStep_inj {x y : Nat} {c e : UInt8} (hx : x < 4294967296) (hy : y < 4294967296) (h : Wl.crcStep x c = Wl.crcStep y e) : (x % 256) ^^^ c.toNat = (y % 256) ^^^ e.toNat ∧ x / 256 = y / 256 := by
  unfold Wl.crcStep at h
  have h1 := congrArg (· / 16777216) h
  simp only [div_xor] at h1
  have hx0 : x / 256 / 16777216 = 0 := by omega
  have hy0 : y / 256 / 16777216 = 0 := by omega
  rw [hx0, hy0, Nat.zero_xor, Nat.zero_xor] at h1
  have h2 := crcTab_top ⟨_, Wl.crc_index_lt x c⟩ ⟨_, Wl.crc_index_lt y e⟩ h1
  have h3 : (x % 256) ^^^ c.toNat = (y % 256) ^^^ e.toNat := congrArg Fin.val h2
  refine ⟨h3, ?_⟩
  rw [h3] at h
  exact xor_cancel h
theorem crcStep_reg {x y : Nat} {c : UInt8} (hx : x < 4294967296) (hy : y < 4294967296) (h : Wl.crcStep x c = Wl.crcStep y c) : x = y := by
  obtain ⟨h1, h2⟩ := crcStep_inj hx hy h
  have := xor_cancel h1
  omega
theorem crcStep_byte {x : Nat} {c e : UInt8} (hx : x < 4294967296) (h : Wl.crcStep x c = Wl.crcStep x e) : c = e :=
  UInt8.toNat_inj.1 (xor_cancel_left (crcStep_inj hx hx h).1)
theorem crcRun_reg : ∀ (l : Bs) {x y : Nat}, x < 4294967296 → y < 4294967296 → Wl.crcRun x l = Wl.crcRun y l → x = y
  | [], _, _, _, _, h => h
  | c :: l, x, y, hx, hy, h => crcStep_reg hx hy (crcRun_reg l (Wl.crcStep_lt hx c) (Wl.crcStep_lt hy c) h)
theorem crcRun_set : ∀ (l : Bs) (k : Nat) (c : UInt8) {x : Nat}, x < 4294967296 → k < l.length → Wl.crcRun x (l.set k c) = Wl.crcRun x l → l[k]? = some c
  | [], _, _, _, _, hk, _ => by simp at hk
  | e :: l, 0, c, x, hx, _, h => by
    have := crcRun_reg l (Wl.crcStep_lt hx c) (Wl.crcStep_lt hx e) h
    have := crcStep_byte hx this
    simp [this]
  | e :: l, k + 1, c, x, hx, hk, h => by
    have := crcRun_set l k c (Wl.crcStep_lt hx e) (by simpa using hk) h
    simpa using this
theorem ext_set {s : Nat} {l : Bs} {k : Nat} {c : UInt8} (hk : k < l.length) (h : Wl.ext s (l.set k c) = Wl.ext s l) : l[k]? = some c := by
  unfold Wl.ext at h
  have hl : ∀ x, x < 4294967296 → ∀ l : Bs, Wl.crcRun x l < 4294967296 := fun x hx l => Wl.crcRun_lt l hx
  have h1 := hl (Wl.crcNot s) (Wl.crcNot_lt s) (l.set k c)
  have h2 := hl (Wl.crcNot s) (Wl.crcNot_lt s) l
  have h3 : Wl.crcRun (Wl.crcNot s) (l.set k c) = Wl.crcRun (Wl.crcNot s) l := by
    unfold Wl.crcNot at h h1 h2 ⊢
    omega
  exact crcRun_set l k c (Wl.crcNot_lt s) hk h3
theorem num_set {l : Bs} {k : Nat} {c e : UInt8} (hk : k < 4) (he : l[k]? = some e) (h4 : 4 ≤ l.length) (hne : c ≠ e) : Wl.num (l.set k c) ≠ Wl.num l := by
  match l, h4 with
  | a :: b :: f :: g :: r, _ =>
    have ha := a.toNat_lt
    have hb := b.toNat_lt
    have hf := f.toNat_lt
    have hg := g.toNat_lt
    have hc := c.toNat_lt
    have hn : c.toNat ≠ e.toNat := fun h => hne (UInt8.toNat_inj.1 h)
    match k, hk with
    | 0, _ =>
      obtain rfl : a = e := by simpa using he
      show c.toNat + 256 * b.toNat + 65536 * f.toNat + 16777216 * g.toNat ≠ a.toNat + 256 * b.toNat + 65536 * f.toNat + 16777216 * g.toNat
      omega
    | 1, _ =>
      obtain rfl : b = e := by simpa using he
      show a.toNat + 256 * c.toNat + 65536 * f.toNat + 16777216 * g.toNat ≠ a.toNat + 256 * b.toNat + 65536 * f.toNat + 16777216 * g.toNat
      omega
    | 2, _ =>
      obtain rfl : f = e := by simpa using he
      show a.toNat + 256 * b.toNat + 65536 * c.toNat + 16777216 * g.toNat ≠ a.toNat + 256 * b.toNat + 65536 * f.toNat + 16777216 * g.toNat
      omega
    | 3, _ =>
      obtain rfl : g = e := by simpa using he
      show a.toNat + 256 * b.toNat + 65536 * f.toNat + 16777216 * c.toNat ≠ a.toNat + 256 * b.toNat + 65536 * f.toNat + 16777216 * g.toNat
      omega
/-- a record with one byte changed: no record, or not all of it -/
theorem nextR_hurt {p : Bs} (hp : p.length ≤ 1048576) {k : Nat} {c e : UInt8} (he : (Wl.enc p)[k]? = some e) (hne : c ≠ e) :
    (Wl.nextR ((Wl.enc p).set k c)).2.2 ≠ 0 ∨ (Wl.nextR ((Wl.enc p).set k c)).2.1 < ((Wl.enc p).set k c).length := by
  have hl := Wl.enc_length p
  have hk : k < (Wl.enc p).length := (List.getElem?_eq_some_iff.1 he).1
  obtain ⟨z, hz⟩ : ∃ z, z = (Wl.enc p).set k c := ⟨_, rfl⟩
  have hzl : z.length = 8 + p.length := by rw [hz, List.length_set, hl]
  rw [← hz]
  by_cases h0 : (Wl.nextR z).2.2 ≠ 0
  · exact .inl h0
  · right
    simp only [ne_eq, Decidable.not_not] at h0
    have hsz := Wl.nextR_size h0
    have hn : Wl.num (Wl.enc p) = p.length := by
      unfold Wl.enc
      exact Wl.num_word (by omega) _
    have h4e : (Wl.enc p).take 4 = Wl.word p.length := by unfold Wl.enc; exact List.take_left' (Wl.word_length _)
    have hd4 : (Wl.enc p).drop 4 = Wl.word (Wl.ext (Wl.ext 0 (Wl.word p.length)) p) ++ p := by unfold Wl.enc; exact List.drop_left' (Wl.word_length _)
    have hd8 : (Wl.enc p).drop 8 = p := by
      have : (Wl.enc p).drop 8 = ((Wl.enc p).drop 4).drop 4 := by rw [List.drop_drop]
      rw [this, hd4]; exact List.drop_left' (Wl.word_length _)
    unfold Wl.nextR at h0 hsz ⊢
    rw [if_neg (by omega)] at h0 hsz ⊢
    split at h0
    · exact absurd h0 (by decide)
    · rename_i h1
      rw [if_neg h1] at hsz ⊢
      split at h0
      · exact absurd h0 (by decide)
      · rename_i h2
        rw [if_neg h2] at hsz ⊢
        split at h0
        · exact absurd h0 (by decide)
        · rename_i h3
          rw [if_neg h3] at hsz ⊢
          simp only [ne_eq, Decidable.not_not] at h3
          show 8 + Wl.num z < z.length
          rw [hzl]
          rw [hzl] at h2
          rcases Nat.lt_or_ge (Wl.num z) p.length with h | h
          · omega
          · exfalso
            have hnz : Wl.num z = p.length := by omega
            rw [hnz] at h3
            by_cases hk4 : k < 4
            · have := num_set (c := c) hk4 he (by omega) hne
              rw [← hz, hnz, hn] at this
              exact this rfl
            · have ht4 : z.take 4 = Wl.word p.length := by
                rw [hz, List.take_set_of_le (by omega), h4e]
              rw [ht4] at h3
              by_cases hk8 : k < 8
              · have hzd8 : z.drop 8 = p := by rw [hz, List.drop_set_of_lt (by omega), hd8]
                rw [hzd8, List.take_length] at h3
                have hzd4 : z.drop 4 = ((Wl.enc p).drop 4).set (k - 4) c := by rw [hz, List.drop_set, if_neg (by omega)]
                have hg : ((Wl.enc p).drop 4)[k - 4]? = some e := by rw [List.getElem?_drop, show 4 + (k - 4) = k from by omega]; exact he
                have := num_set (c := c) (by omega : k - 4 < 4) hg (by rw [List.length_drop]; omega) hne
                rw [← hzd4, ← h3, hd4, Wl.num_word (Wl.ext_lt _ _)] at this
                exact this rfl
              · have hzd4 : Wl.num (z.drop 4) = Wl.ext (Wl.ext 0 (Wl.word p.length)) p := by
                  have e1 : z.drop 4 = Wl.word (Wl.ext (Wl.ext 0 (Wl.word p.length)) p) ++ p.set (k - 8) c := by
                    rw [hz, List.drop_set, if_neg (by omega), hd4, List.set_append, if_neg (by rw [Wl.word_length]; omega), Wl.word_length, show k - 4 - 4 = k - 8 from by omega]
                  rw [e1, Wl.num_word (Wl.ext_lt _ _)]
                have hzd8 : z.drop 8 = p.set (k - 8) c := by rw [hz, List.drop_set, if_neg (by omega), hd8]
                rw [hzd8, List.take_of_length_le (by rw [List.length_set]; exact Nat.le_refl _), hzd4] at h3
                have hk3 : k - 8 < p.length := by omega
                have := ext_set hk3 h3
                have hg : p[k - 8]? = some e := by rw [← hd8, List.getElem?_drop, show 8 + (k - 8) = k from by omega]; exact he
                rw [hg] at this
                exact hne (Option.some.inj this).symm
theorem decode_hurt {n : Nat} {data : Bs} (hd : data.length ≤ 1000000) {k : Nat} {c e : UInt8} (he : (encode n data)[k]? = some e) (hne : c ≠ e) : (decode ((encode n data).set k c)).2.2 ≠ 0 := by
  have hb := body_length n data
  unfold decode
  rcases nextR_hurt (p := body n data) (by omega) he hne with h | h
  · show (if (Wl.nextR ((Wl.enc (body n data)).set k c)).2.2 ≠ 0 then _ else _ : Nat × Bs × Int).2.2 ≠ 0
    rw [if_pos h]
    exact h
  · by_cases h0 : (Wl.nextR ((Wl.enc (body n data)).set k c)).2.2 ≠ 0
    · show (if (Wl.nextR ((Wl.enc (body n data)).set k c)).2.2 ≠ 0 then _ else _ : Nat × Bs × Int).2.2 ≠ 0
      rw [if_pos h0]
      exact h0
    · show (if (Wl.nextR ((Wl.enc (body n data)).set k c)).2.2 ≠ 0 then _ else if (Wl.nextR ((Wl.enc (body n data)).set k c)).2.1 < ((Wl.enc (body n data)).set k c).length then _ else _ : Nat × Bs × Int).2.2 ≠ 0
      rw [if_neg h0, if_pos h]
      decide
end Go.Proofs.YtamencnachmhoaaGreatDoor.Ck
namespace Go.Proofs.YtamencnachmhoaaGreatDoor.Ck
open Go
section
variable {nm : Bs} {pre post : List (Bs × Dk.Fl)} {l : List (Nat × Bs)} {d : Dk.D}
theorem over_one {c : Bs} {k : Nat} {x : UInt8} (h : k < c.length) : Dk.over c k [x] = c.set k x := by
  unfold Dk.over
  rw [show k + [x].length - c.length = 0 from by simp; omega, List.replicate_zero, List.append_nil, List.set_eq_take_append_cons_drop, if_pos h]
  simp
theorem newest_snaps {l0 : List (Nat × Bs)} (h : ∀ s ∈ l0, Ck.loadF d (fileName nm s.1, s.1) = some s.2) : newest d (l0.map fun s => (fileName nm s.1, s.1)).reverse = match l0.getLast? with
    | some s => (s.1, s.2, 0)
    | none => (0, [], 9) := by
  rcases List.eq_nil_or_concat l0 with rfl | ⟨l', s, rfl⟩
  · rfl
  · rw [List.concat_eq_append] at h ⊢
    rw [List.map_append, List.reverse_append]
    show newest d ((fileName nm s.1, s.1) :: _) = _
    rw [newest, h s (by simp)]
    simp
/-- the newest snapshot's file with one byte changed -/
theorem Holds.damaged {n : Nat} {data : Bs} (H : Holds nm pre post (l ++ [(n, data)]) none d) (hup : d.down = false) (hb : d.bud = -1) {k : Nat} {x e : UInt8} (he : (encode n data)[k]? = some e) (hne : x ≠ e) :
    (d.write (fileName nm n) (fun _ => (k : Int)) [x]).2 = 0 ∧ (d.write (fileName nm n) (fun _ => (k : Int)) [x]).1.down = false ∧
    Ck.load (d.write (fileName nm n) (fun _ => (k : Int)) [x]).1 nm = match l.getLast? with
      | some s => (s.1, s.2, 0)
      | none => (0, [], 9) := by
  have hd := H.S.dat (n, data) (by simp)
  have hn := H.S.num (n, data) (by simp)
  have hk : k < (encode n data).length := (List.getElem?_eq_some_iff.1 he).1
  have hkl := (encode_pos n data).2
  have hf : Dk.find (fileName nm n) d.fs = some ⟨encode n data, []⟩ := H.find (s := (n, data)) (by simp)
  have hfs : d.fs = (pre ++ snapF nm l) ++ (fileName nm n, ⟨encode n data, []⟩) :: post := by
    rw [H.fs, snapF_append]; simp [snapF]
  have hgt : ∀ s ∈ l, s.1 < n := fun s hs => (List.pairwise_append.1 H.S.ord).2.2 s hs (n, data) (by simp)
  have hpre : ∀ y ∈ pre ++ snapF nm l, y.1 ≠ fileName nm n := fun y hy => by
    rcases List.mem_append.1 hy with hy | hy
    · exact H.V.preN n y hy
    · obtain ⟨s, hs, rfl⟩ := mem_snapF hy
      intro e
      have := hgt s hs
      have := fileName_inj e
      omega
  have hu : Dk.upd (fileName nm n) ⟨encode n data, [⟨k, [x]⟩]⟩ d.fs = (pre ++ snapF nm l) ++ (fileName nm n, ⟨encode n data, [⟨k, [x]⟩]⟩) :: post := by
    rw [hfs]
    exact upd_at hpre (H.V.postN n)
  have hw : Dk.writeCheck d (fileName nm n) (fun _ => (k : Int)) [x] = 0 := by
    unfold Dk.writeCheck
    rw [hf]
    show (if (k : Int) < 0 ∨ 16777216 - (1 : Int) < (k : Int) then (2 : Int) else 0) = 0
    rw [if_neg (by have : data.length ≤ 1000000 := hd
                   omega)]
  have e1 : d.write (fileName nm n) (fun _ => (k : Int)) [x] = d.modify ((pre ++ snapF nm l) ++ (fileName nm n, ⟨encode n data, [⟨k, [x]⟩]⟩) :: post) := by
    unfold Dk.D.write
    rw [if_neg (by simp [hup]), hw, if_neg (by simp), if_neg (by simp), hf]
    show d.modify (Dk.upd (fileName nm n) ⟨encode n data, [⟨k, [x]⟩]⟩ d.fs) = _
    rw [hu]
  rw [e1]
  rcases modify_cases d ((pre ++ snapF nm l) ++ (fileName nm n, ⟨encode n data, [⟨k, [x]⟩]⟩) :: post) with ⟨q1, q2, q3, _, _⟩ | ⟨q1, _⟩
  · generalize (d.modify ((pre ++ snapF nm l) ++ (fileName nm n, ⟨encode n data, [⟨k, [x]⟩]⟩) :: post)) = r at *
    have hup' : r.1.down = false := q3.trans hup
    refine ⟨q1, hup', ?_⟩
    have hnames : r.1.names = d.names := by
      unfold Dk.D.names
      rw [if_neg (by simp [hup']), if_neg (by simp [hup]), q2, hfs]
      simp
    have hff : filesF r.1 nm = (l ++ [(n, data)]).map fun s => (fileName nm s.1, s.1) := by
      rw [← H.files hup]
      unfold filesF
      rw [hnames]
    have hlast : Ck.loadF r.1 (fileName nm n, n) = none := by
      have hr : r.1.read (fileName nm n) = ((encode n data).set k x, 0) := by
        unfold Dk.D.read
        rw [if_neg (by simp [hup']), q2, find_at hpre]
        show (Dk.contents (encode n data) ([] ++ [⟨k, [x]⟩]), (0 : Int)) = _
        rw [Dk.contents_snoc, Dk.Wr.apply]
        show (Dk.over (encode n data) k [x], (0 : Int)) = _
        rw [over_one hk]
      unfold Ck.loadF
      rw [hr]
      simp only []
      rw [if_neg (by simp), if_neg (fun h => decode_hurt hd he hne h.1)]
    have hold : ∀ s ∈ l, Ck.loadF r.1 (fileName nm s.1, s.1) = some s.2 := fun s hs => by
      have hfd : Dk.find (fileName nm s.1) r.1.fs = some ⟨encode s.1 s.2, []⟩ := by
        obtain ⟨l1, l2, rfl⟩ := List.append_of_mem hs
        have e : r.1.fs = (pre ++ snapF nm l1) ++ (fileName nm s.1, ⟨encode s.1 s.2, []⟩) :: (snapF nm l2 ++ ((fileName nm n, ⟨encode n data, [⟨k, [x]⟩]⟩) :: post)) := by
          rw [q2, snapF_append]
          simp [snapF]
        rw [e]
        refine find_at (fun y hy => ?_)
        rcases List.mem_append.1 hy with hy | hy
        · exact H.V.preN s.1 y hy
        · obtain ⟨u, hu, rfl⟩ := mem_snapF hy
          intro e2
          have h0 := (List.pairwise_append.1 H.S.ord).1
          have h1 := (List.pairwise_append.1 h0).2.2 u hu s (by simp)
          have := fileName_inj e2
          omega
      have hr : r.1.read (fileName nm s.1) = (encode s.1 s.2, 0) := by
        unfold Dk.D.read
        rw [if_neg (by simp [hup']), hfd]
        rfl
      unfold Ck.loadF
      rw [hr]
      simp only []
      rw [if_neg (by simp), decode_encode (H.S.num s (by simp [hs])) (H.S.dat s (by simp [hs])), if_pos (by simp)]
    unfold Ck.load
    rw [if_neg (by simp [hup']), hff, List.map_append, List.reverse_append]
    show newest r.1 ((fileName nm n, n) :: _) = _
    rw [newest, hlast]
    exact newest_snaps hold
  · omega

/-! ### two stores -/
def nmS : Bs := [115]
def nmT : Bs := [115, 49]
theorem viewS {l : List (Nat × Bs)} (hl : l.length ≤ 3) : View nmS [] (snapF nmT l) := by
  refine ⟨by decide, (fun x hx => by cases hx), fun x hx => ?_, by simp [snapF]; omega⟩
  obtain ⟨s, _, rfl⟩ := mem_snapF hx
  refine ⟨fun k => ?_, ?_, ?_⟩
  · show bytesBefore (115 :: (45 :: (Wl.pad k ++ ckpt))) (115 :: (49 :: _)) = true
    simp [bytesBefore]
  · show bytesBefore (115 :: (46 :: [116, 109, 112])) (115 :: (49 :: _)) = true
    simp [bytesBefore]
  · unfold numOf Wl.firstOf
    split
    · have hp : (nmS ++ [45]).isPrefixOf ((fileName nmT s.1).take ((fileName nmT s.1).length - 5)) = false := by
        rw [Bool.eq_false_iff]
        intro h
        rw [List.isPrefixOf_iff_prefix] at h
        obtain ⟨t, ht⟩ := h
        have h1 : ([115, 45] ++ t : Bs)[1]? = some 45 := rfl
        have h2 := congrArg (fun l : Bs => l[1]?) ht
        have h3 : (nmS ++ [45] ++ t)[1]? = some 45 := rfl
        simp only [h3] at h2
        have hle := List.getElem?_take (l := fileName nmT s.1) (i := (fileName nmT s.1).length - 5) (j := 1)
        rw [← h2] at hle
        split at hle
        · have : (fileName nmT s.1)[1]? = some 49 := rfl
          rw [this] at hle
          exact absurd hle (by decide)
        · cases hle
      rw [hp]
      rfl
    · rfl
theorem viewT {l : List (Nat × Bs)} (hl : l.length ≤ 3) : View nmT (snapF nmS l) [] := by
  refine ⟨by decide, fun x hx => ?_, (fun x hx => by cases hx), by simp [snapF]; omega⟩
  obtain ⟨s, _, rfl⟩ := mem_snapF hx
  refine ⟨fun k => ?_, ?_, ?_⟩
  · show bytesBefore (115 :: (45 :: (Wl.pad s.1 ++ ckpt))) (115 :: (49 :: _)) = true
    simp [bytesBefore]
  · show bytesBefore (115 :: (45 :: (Wl.pad s.1 ++ ckpt))) (115 :: (49 :: _)) = true
    simp [bytesBefore]
  · unfold numOf Wl.firstOf
    split
    · have hp : (nmT ++ [45]).isPrefixOf ((fileName nmS s.1).take ((fileName nmS s.1).length - 5)) = false := by
        rw [Bool.eq_false_iff]
        intro h
        rw [List.isPrefixOf_iff_prefix] at h
        obtain ⟨t, ht⟩ := h
        have h2 := congrArg (fun l : Bs => l[1]?) ht
        have h3 : (nmT ++ [45] ++ t)[1]? = some 49 := rfl
        simp only [h3] at h2
        have hle := List.getElem?_take (l := fileName nmS s.1) (i := (fileName nmS s.1).length - 5) (j := 1)
        rw [← h2] at hle
        split at hle
        · have : (fileName nmS s.1)[1]? = some 45 := rfl
          rw [this] at hle
          exact absurd hle (by decide)
        · cases hle
      rw [hp]
      rfl
    · rfl
/-- two stores on one disk -/
structure Two (l1 l2 : List (Nat × Bs)) (d : Dk.D) : Prop where
  S1 : Snaps l1
  S2 : Snaps l2
  n1 : l1.length ≤ 2
  n2 : l2.length ≤ 2
  fs : d.fs = snapF nmS l1 ++ snapF nmT l2
  up : d.down = false
  bud : d.bud = -1
theorem Two.s {l1 l2 : List (Nat × Bs)} (h : Two l1 l2 d) : Holds nmS [] (snapF nmT l2) l1 none d := ⟨viewS (by have := h.n2; omega), h.S1, by rw [h.fs]; simp⟩
theorem Two.t {l1 l2 : List (Nat × Bs)} (h : Two l1 l2 d) : Holds nmT (snapF nmS l1) [] l2 none d := ⟨viewT (by have := h.n1; omega), h.S2, by rw [h.fs]; simp⟩
theorem Two.saveS {l1 l2 : List (Nat × Bs)} (h : Two l1 l2 d) {n : Nat} {data : Bs} (hn : n ≤ 1000000000) (hd : data.length ≤ 1000000) (hgt : ∀ s ∈ l1, s.1 < n) :
    (Ck.save d nmS n data).2 = 0 ∧ Two (keep2 (l1 ++ [(n, data)])) l2 (Ck.save d nmS n data).1 := by
  rcases h.s.save h.up h.n1 hn hd hgt with ⟨a1, a2, a3, H⟩ | ⟨a0, _⟩
  · exact ⟨a1, H.S, h.S2, keep2_len _, h.n2, by rw [H.fs]; simp, a2, a3 h.bud⟩
  · exact absurd h.bud a0
theorem Two.saveT {l1 l2 : List (Nat × Bs)} (h : Two l1 l2 d) {n : Nat} {data : Bs} (hn : n ≤ 1000000000) (hd : data.length ≤ 1000000) (hgt : ∀ s ∈ l2, s.1 < n) :
    (Ck.save d nmT n data).2 = 0 ∧ Two l1 (keep2 (l2 ++ [(n, data)])) (Ck.save d nmT n data).1 := by
  rcases h.t.save h.up h.n2 hn hd hgt with ⟨a1, a2, a3, H⟩ | ⟨a0, _⟩
  · exact ⟨a1, h.S1, H.S, h.n1, keep2_len _, by rw [H.fs]; simp, a2, a3 h.bud⟩
  · exact absurd h.bud a0
end
end Go.Proofs.YtamencnachmhoaaGreatDoor.Ck
