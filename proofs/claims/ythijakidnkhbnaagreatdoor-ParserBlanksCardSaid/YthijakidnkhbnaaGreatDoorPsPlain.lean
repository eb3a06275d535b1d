/-
  The parser, plain: a reader of tokens that stops at its first error; no program in sight.
  Requests, plain: which are valid (layer 18).
  The parser, plain: a reader that goes on after its first error and does nothing then.
  Days, plain: leap years, lengths of months, the number of a day; what a date's text denotes.
-/
import Derived.Test.YthijakidnkhbnaaGreatDoorLexPlain

namespace Go.Proofs.YthijakidnkhbnaaGreatDoor.Ps
open Go

abbrev Bs := List UInt8
abbrev Tok := Lx.Tok
/-- an error: its offset, its number -/
abbrev Er := Int × Int
/-- what reads from a place on: the first error, or a value and the next place -/
abbrev P (α : Type) := Nat → Except Er (α × Nat)

def pure' {α : Type} (x : α) : P α := fun a => .ok (x, a)
def bind' {α β : Type} (m : P α) (f : α → P β) : P β := fun a => match m a with
  | .error e => .error e
  | .ok (x, b) => f x b

theorem bind_ok {α β : Type} {m : P α} {f : α → P β} {a b : Nat} {x : α} (h : m a = .ok (x, b)) : bind' m f a = f x b := by unfold bind'; rw [h]
theorem bind_error {α β : Type} {m : P α} {f : α → P β} {a : Nat} {e : Er} (h : m a = .error e) : bind' m f a = .error e := by unfold bind'; rw [h]

/-- the offset of a token -/
def offAt (l : List Tok) (a : Nat) : Int := match l[a]? with
  | some t => t.2.2
  | none => 0
/-- the offset behind the last token -/
def offEnd (l : List Tok) : Int := match l.getLast? with
  | some t => ((t.2.2 + t.2.1.size : Nat) : Int)
  | none => 0
def short (l : List Tok) : Er := (offEnd l, 4)
/-- an error at the next token -/
def failAt {α : Type} (l : List Tok) (e : Int) : P α := fun a => .error (offAt l a, e)

/-- the text of the next token if it is a word -/
def peek (l : List Tok) (a : Nat) : ByteArray := match l[a]? with
  | some t => if t.1 = 0 then t.2.1 else ⟨#[]⟩
  | none => ⟨#[]⟩
/-- a certain word (not the empty one) -/
def word (l : List Tok) (w : Bs) : P Unit := fun a =>
  if l.length ≤ a then .error (short l)
  else if (peek l a).data.toList = w then .ok ((), a + 1) else .error (offAt l a, 30)
/-- a token of some kinds that a function accepts -/
def take {α : Type} (l : List Tok) (accept : ByteArray → α × Int) (kinds : List Int) : P α := fun a => match l[a]? with
  | none => .error (short l)
  | some t => if t.1 ∈ kinds then (if (accept t.2.1).2 = 0 then .ok ((accept t.2.1).1, a + 1) else .error (offAt l a, (accept t.2.1).2)) else .error (offAt l a, 30)

/-- the functions that the reader hands to its tokens: is it an identifier of a kind; the amount, the quantity, the day that a token denotes -/
structure Env where
  valid : Nat → ByteArray → Bool
  cash : ByteArray → Int × Int
  number : ByteArray → Int × Int
  date : ByteArray → Int × Int

def ident (E : Env) (l : List Tok) (k : Nat) (kinds : List Int) : P ByteArray := take l (fun s => (s, if E.valid k s then 0 else 6)) kinds
def ref (E : Env) (l : List Tok) : P ByteArray := ident E l 2 [1, 2, 4]
def member (E : Env) (l : List Tok) : P ByteArray := ident E l 1 [1]
def isin (E : Env) (l : List Tok) : P ByteArray := ident E l 0 [1]
def cash (E : Env) (l : List Tok) : P Int := take l E.cash [3]
def quantity (E : Env) (l : List Tok) : P Int := take l E.number [2]
def day (E : Env) (l : List Tok) : P Int := take l (fun s => ((E.date s).1, if (E.date s).2 = 0 then 0 else 28)) [4]

/-! ### requests -/
structure Link where
  type : Int
  ref : ByteArray
structure Ins where
  ref : ByteArray := ⟨#[]⟩
  kind : Int := 0
  sender : ByteArray := ⟨#[]⟩
  counterparty : ByteArray := ⟨#[]⟩
  side : Int := 0
  asset : ByteArray := ⟨#[]⟩
  quantity : Int := 0
  amount : Int := 0
  tradeDay : Int := 0
  settleDay : Int := 0
  priority : Int := 0
  partial_ : Bool := false
  minLot : Int := 0
  hold : Bool := false
  reserve : Bool := false
  links : List Link := []
structure Amd where
  hasAmount : Bool := false
  hasSettleDay : Bool := false
  hasPriority : Bool := false
  hasPartial : Bool := false
  amount : Int := 0
  settleDay : Int := 0
  priority : Int := 0
  partial_ : Bool := false
  minLot : Int := 0
structure Req where
  op : Int := 0
  sender : ByteArray := ⟨#[]⟩
  ref : ByteArray := ⟨#[]⟩
  ins : Ins := {}
  amd : Amd := {}

def sNormal : Bs := [110, 111, 114, 109, 97, 108]
def sHigh : Bs := [104, 105, 103, 104]
def sUrgent : Bs := [117, 114, 103, 101, 110, 116]
def sPartial : Bs := [112, 97, 114, 116, 105, 97, 108]
def sHold : Bs := [104, 111, 108, 100]
def sReserve : Bs := [114, 101, 115, 101, 114, 118, 101]
def sWith : Bs := [119, 105, 116, 104]
def sAfter : Bs := [97, 102, 116, 101, 114]
def sWhole : Bs := [119, 104, 111, 108, 101]
def sAmount : Bs := [97, 109, 111, 117, 110, 116]
def sDay : Bs := [100, 97, 121]
def sFrom : Bs := [102, 114, 111, 109]
def sTo : Bs := [116, 111]
def sBy : Bs := [98, 121]
def sIsin : Bs := [105, 115, 105, 110]
def sQuantity : Bs := [113, 117, 97, 110, 116, 105, 116, 121]
def sFree : Bs := [102, 114, 101, 101]
def sAgainst : Bs := [97, 103, 97, 105, 110, 115, 116]
def sTrade : Bs := [116, 114, 97, 100, 101]
def sPay : Bs := [112, 97, 121]
def sDeliver : Bs := [100, 101, 108, 105, 118, 101, 114]
def sReceive : Bs := [114, 101, 99, 101, 105, 118, 101]
def sPledge : Bs := [112, 108, 101, 100, 103, 101]
def sRelease : Bs := [114, 101, 108, 101, 97, 115, 101]
def sAmend : Bs := [97, 109, 101, 110, 100]
def sCancel : Bs := [99, 97, 110, 99, 101, 108]
def sResume : Bs := [114, 101, 115, 117, 109, 101]
def sCash : ByteArray := ⟨#[67, 65, 83, 72]⟩

/-- the priority that a word denotes -/
def prio (w : Bs) : Option Int := if w = sNormal then some 0 else if w = sHigh then some 1 else if w = sUrgent then some 2 else none

/-- which purposes were seen -/
structure Seen where
  prio : Bool := false
  part : Bool := false
  hold : Bool := false
  res : Bool := false
  amount : Bool := false
  day : Bool := false

/-- the options of an instruction, from a place on -/
def options (E : Env) (l : List Tok) : Nat → Seen → Ins → P Ins
  | 0, _, i => pure' i
  | f + 1, s, i => fun a =>
    if l.length ≤ a then .ok (i, a)
    else match prio (peek l a).data.toList with
      | some p => if s.prio then failAt l 7 a else options E l f { s with prio := true } { i with priority := p } (a + 1)
      | none =>
        if (peek l a).data.toList = sPartial then (if s.part then failAt l 7 a else bind' (quantity E l) (fun n => options E l f { s with part := true } { i with partial_ := true, minLot := n }) (a + 1))
        else if (peek l a).data.toList = sHold then (if s.hold then failAt l 7 a else options E l f { s with hold := true } { i with hold := true } (a + 1))
        else if (peek l a).data.toList = sReserve then (if s.res then failAt l 7 a else options E l f { s with res := true } { i with reserve := true } (a + 1))
        else if (peek l a).data.toList = sWith then bind' (ref E l) (fun r => options E l f s { i with links := i.links ++ [⟨0, r⟩] }) (a + 1)
        else if (peek l a).data.toList = sAfter then bind' (ref E l) (fun r => options E l f s { i with links := i.links ++ [⟨1, r⟩] }) (a + 1)
        else failAt l 30 a
/-- the changes of an amendment, from a place on -/
def changes (E : Env) (l : List Tok) : Nat → Seen → Amd → P Amd
  | 0, _, i => pure' i
  | f + 1, s, i => fun a =>
    if l.length ≤ a then .ok (i, a)
    else match prio (peek l a).data.toList with
      | some p => if s.prio then failAt l 7 a else changes E l f { s with prio := true } { i with hasPriority := true, priority := p } (a + 1)
      | none =>
        if (peek l a).data.toList = sPartial then (if s.part then failAt l 7 a else bind' (quantity E l) (fun n => changes E l f { s with part := true } { i with hasPartial := true, partial_ := true, minLot := n }) (a + 1))
        else if (peek l a).data.toList = sWhole then (if s.part then failAt l 7 a else changes E l f { s with part := true } { i with hasPartial := true } (a + 1))
        else if (peek l a).data.toList = sAmount then (if s.amount then failAt l 7 a else bind' (cash E l) (fun n => changes E l f { s with amount := true } { i with hasAmount := true, amount := n }) (a + 1))
        else if (peek l a).data.toList = sDay then (if s.day then failAt l 7 a else bind' (day E l) (fun n => changes E l f { s with day := true } { i with hasSettleDay := true, settleDay := n }) (a + 1))
        else failAt l 30 a

def parties (E : Env) (l : List Tok) : P (ByteArray × ByteArray) :=
  bind' (word l sFrom) fun _ => bind' (member E l) fun x => bind' (word l sTo) fun _ => bind' (member E l) fun y => pure' (x, y)
def by_ (E : Env) (l : List Tok) : P ByteArray := bind' (word l sBy) fun _ => member E l
def security (E : Env) (l : List Tok) (i : Ins) : P Ins :=
  bind' (word l sIsin) fun _ => bind' (isin E l) fun x => bind' (word l sQuantity) fun _ => bind' (quantity E l) fun n => pure' { i with asset := x, quantity := n }
def payment (E : Env) (l : List Tok) (i : Ins) : P Ins :=
  bind' (parties E l) fun p => bind' (word l sAmount) fun _ => bind' (cash E l) fun n => bind' (word l sDay) fun _ => bind' (day E l) fun d =>
    options E l (l.length + 1) {} { i with kind := 0, asset := sCash, sender := p.1, counterparty := p.2, amount := n, settleDay := d }
def trade (E : Env) (l : List Tok) (i : Ins) : P Ins :=
  bind' (parties E l) fun p => bind' (security E l { i with kind := 1, sender := p.1, counterparty := p.2 }) fun i =>
    bind' (fun a => if (peek l a).data.toList = sFree then .ok ({ i with kind := 2 }, a + 1) else bind' (word l sAgainst) (fun _ => bind' (cash E l) fun n => pure' { i with amount := n }) a) fun i =>
      bind' (word l sTrade) fun _ => bind' (day E l) fun t => bind' (word l sDay) fun _ => bind' (day E l) fun d => options E l (l.length + 1) {} { i with tradeDay := t, settleDay := d }
def collateral (E : Env) (l : List Tok) (k : Int) (i : Ins) : P Ins :=
  bind' (by_ E l) fun s => bind' (security E l { i with kind := k, sender := s }) fun i => bind' (word l sDay) fun _ => bind' (day E l) fun d => pure' { i with settleDay := d }
def turn (i : Ins) : Ins := { i with side := 1, sender := i.counterparty, counterparty := i.sender }

/-- the rest of a line behind its verb and reference -/
def rest (E : Env) (l : List Tok) (v : Bs) (q : Req) : P Req :=
  if v = sPay then bind' (payment E l q.ins) fun i => pure' { q with ins := i }
  else if v = sDeliver then bind' (trade E l q.ins) fun i => pure' { q with ins := i }
  else if v = sReceive then bind' (trade E l q.ins) fun i => pure' { q with ins := turn i }
  else if v = sPledge then bind' (collateral E l 3 q.ins) fun i => pure' { q with ins := i }
  else if v = sRelease then bind' (collateral E l 4 q.ins) fun i => pure' { q with ins := i }
  else if v = sAmend then bind' (by_ E l) fun s => fun a => if l.length ≤ a then .error (short l) else bind' (changes E l (l.length + 1) {} {}) (fun m => pure' { q with op := 1, sender := s, amd := m }) a
  else if v = sCancel then bind' (by_ E l) fun s => pure' { q with op := 2, sender := s }
  else if v = sHold then bind' (by_ E l) fun s => pure' { q with op := 3, sender := s }
  else bind' (by_ E l) fun s => pure' { q with op := 4, sender := s }
def verbs : List Bs := [sPay, sDeliver, sReceive, sPledge, sRelease, sAmend, sCancel, sHold, sResume]

/-- a whole line of tokens -/
def line (E : Env) (l : List Tok) : P Req := fun a =>
  if l.length ≤ a then .error (short l)
  else if (peek l a).data.toList ∈ verbs then
    bind' (ref E l) (fun r => bind' (rest E l (peek l a).data.toList { ref := r }) fun q => fun b => if b < l.length then .error (offAt l b, 30) else .ok (q, b)) (a + 1)
  else .error (offAt l a, 30)

/-- Parse: a request, an offset, an error (the check of requests handed in) -/
def parse (E : Env) (check : Req → Int) (s : ByteArray) : Req × Int × Int :=
  if (Lx.tokenize s).2.2 ≠ 0 then ({}, (Lx.tokenize s).2.1, (Lx.tokenize s).2.2)
  else match line E (Lx.tokenize s).1 0 with
    | .error e => ({}, e.1, e.2)
    | .ok (q, _) =>
      let q := if q.op = 0 then { q with sender := q.ins.sender, ins := { q.ins with ref := q.ref } } else q
      if check q ≠ 0 then ({}, offAt (Lx.tokenize s).1 0, check q) else (q, 0, 0)

end Go.Proofs.YthijakidnkhbnaaGreatDoor.Ps

namespace Go.Proofs.YthijakidnkhbnaaGreatDoor.Ps
open Go

def maxAm : Int := 1000000000000000
def maxDay : Int := 73048

/-- the first error of an instruction's links from the k-th on -/
def linksE (valid : Nat → ByteArray → Bool) (i : Ins) : List Link → List Link → Int
  | _, [] => 0
  | seen, x :: r =>
    if ¬ (0 ≤ x.type ∧ x.type ≤ 1) then 11
    else if valid 2 x.ref = false then 6
    else if x.ref = i.ref then 26
    else if ∃ y ∈ seen, y.ref = x.ref then 7
    else linksE valid i (seen ++ [x]) r

/-- the first error of an instruction -/
def insE (valid : Nat → ByteArray → Bool) (i : Ins) : Int :=
  if ¬ (0 ≤ i.kind ∧ i.kind ≤ 4) then 11
  else if valid 2 i.ref = false then 6
  else if valid 1 i.sender = false then 6
  else if (i.kind = 3 ∨ i.kind = 4) ∧ i.counterparty ≠ ⟨#[]⟩ then 3
  else if ¬ (i.kind = 3 ∨ i.kind = 4) ∧ valid 1 i.counterparty = false then 6
  else if i.counterparty = i.sender then 1
  else if ¬ (0 ≤ i.side ∧ i.side ≤ 1) then 11
  else if ¬ (i.kind = 1 ∨ i.kind = 2) ∧ i.side ≠ 0 then 3
  else if ¬ (if i.kind = 0 then i.asset = sCash else valid 0 i.asset = true) then 6
  else if ¬ (if i.kind ≠ 0 then 1 ≤ i.quantity ∧ i.quantity ≤ maxAm else i.quantity = 0) then 2
  else if ¬ (if i.kind = 0 ∨ i.kind = 1 then 1 ≤ i.amount ∧ i.amount ≤ maxAm else i.amount = 0) then 2
  else if ¬ (0 ≤ i.settleDay ∧ i.settleDay ≤ maxDay) then 28
  else if ((i.kind = 1 ∨ i.kind = 2) ∧ ¬ (0 ≤ i.tradeDay ∧ i.tradeDay ≤ i.settleDay)) ∨ (¬ (i.kind = 1 ∨ i.kind = 2) ∧ i.tradeDay ≠ 0) then 28
  else if ¬ (0 ≤ i.priority ∧ i.priority ≤ 2) ∨ ((i.kind = 3 ∨ i.kind = 4) ∧ i.priority ≠ 0) then 2
  else if i.partial_ = true ∧ ¬ (i.kind = 1 ∨ i.kind = 2) then 3
  else if (i.partial_ = true ∧ i.minLot < 1) ∨ ¬ (0 ≤ i.minLot ∧ i.minLot ≤ if i.partial_ = true then i.quantity else 0) then 2
  else if i.hold = true ∧ (i.kind = 3 ∨ i.kind = 4) then 3
  else if i.reserve = true ∧ (i.kind ≠ 0 ∨ i.priority ≠ 2) then 3
  else if (i.kind = 3 ∨ i.kind = 4) ∧ 0 < i.links.length then 3
  else if 8 < i.links.length then 8
  else linksE valid i [] i.links

/-- the first error of an amendment -/
def amdE (a : Amd) : Int :=
  if a.hasAmount = false ∧ a.hasSettleDay = false ∧ a.hasPriority = false ∧ a.hasPartial = false then 3
  else if (a.hasAmount = false ∧ a.amount ≠ 0) ∨ (a.hasSettleDay = false ∧ a.settleDay ≠ 0) ∨ (a.hasPriority = false ∧ a.priority ≠ 0) ∨ (a.hasPartial = false ∧ (a.partial_ = true ∨ a.minLot ≠ 0)) then 3
  else if ¬ (if a.hasAmount = true then 1 ≤ a.amount ∧ a.amount ≤ maxAm else a.amount = 0) then 2
  else if ¬ (0 ≤ a.settleDay ∧ a.settleDay ≤ maxDay) then 28
  else if ¬ (0 ≤ a.priority ∧ a.priority ≤ 2) then 2
  else if ¬ (if a.partial_ = true then 1 ≤ a.minLot ∧ a.minLot ≤ maxAm else a.minLot = 0) then 2
  else 0

/-- an empty instruction, an empty amendment -/
def Ins.none (i : Ins) : Prop :=
  i.ref = ⟨#[]⟩ ∧ i.kind = 0 ∧ i.sender = ⟨#[]⟩ ∧ i.counterparty = ⟨#[]⟩ ∧ i.side = 0 ∧ i.asset = ⟨#[]⟩ ∧ i.quantity = 0 ∧ i.amount = 0 ∧ i.tradeDay = 0 ∧ i.settleDay = 0 ∧ i.priority = 0 ∧
  i.partial_ = false ∧ i.minLot = 0 ∧ i.hold = false ∧ i.reserve = false ∧ i.links.length = 0
instance (i : Ins) : Decidable i.none := by unfold Ins.none; infer_instance
def Amd.none (a : Amd) : Prop :=
  a.hasAmount = false ∧ a.hasSettleDay = false ∧ a.hasPriority = false ∧ a.hasPartial = false ∧ a.amount = 0 ∧ a.settleDay = 0 ∧ a.priority = 0 ∧ a.partial_ = false ∧ a.minLot = 0
instance (a : Amd) : Decidable a.none := by unfold Amd.none; infer_instance

/-- the first error of a request -/
def reqE (valid : Nat → ByteArray → Bool) (q : Req) : Int :=
  if ¬ (0 ≤ q.op ∧ q.op ≤ 4) then 11
  else if valid 1 q.sender = false then 6
  else if valid 2 q.ref = false then 6
  else if q.op = 0 then (if insE valid q.ins ≠ 0 then insE valid q.ins else if q.ins.ref ≠ q.ref ∨ q.ins.sender ≠ q.sender then 17 else if ¬ q.amd.none then 3 else 0)
  else if ¬ q.ins.none then 3
  else if q.op = 1 then amdE q.amd
  else if ¬ q.amd.none then 3 else 0

end Go.Proofs.YthijakidnkhbnaaGreatDoor.Ps

namespace Go.Proofs.YthijakidnkhbnaaGreatDoor.Ps
open Go

/-- where a reader stands: at a token, or behind its first error -/
abbrev St := Except Er Nat

/-- a reading in any state: what is returned (a given value on errors), the state behind it -/
def step {α : Type} (p : P α) (z : α) : St → α × St
  | .error e => (z, .error e)
  | .ok a => match p a with
    | .ok (x, b) => (x, .ok b)
    | .error e => (z, .error e)

theorem step_error {α : Type} (p : P α) (z : α) (e : Er) : step p z (.error e) = (z, .error e) := rfl
theorem step_pure {α : Type} (x z : α) (a : Nat) : step (pure' x) z (.ok a) = (x, .ok a) := rfl
theorem step_ok {α : Type} {p : P α} {z x : α} {a b : Nat} (h : p a = .ok (x, b)) : step p z (.ok a) = (x, .ok b) := by simp only [step, h]
theorem step_er {α : Type} {p : P α} {z : α} {a : Nat} {e : Er} (h : p a = .error e) : step p z (.ok a) = (z, .error e) := by simp only [step, h]
theorem step_bind {α β : Type} (m : P α) (f : α → P β) (zm : α) (z : β) (st : St) : step (bind' m f) z st = step (f (step m zm st).1) z (step m zm st).2 := by
  cases st with
  | error e => rfl
  | ok a =>
    cases h : m a with
    | error e => rw [step_er h, step_er (bind_error h)]; rfl
    | ok x =>
      obtain ⟨x, b⟩ := x
      rw [step_ok h]
      have h2 : bind' m f a = f x b := bind_ok h
      simp only [step, h2]

def okAt (l : List Tok) (st : St) : Bool := match st with
  | .ok a => decide (a < l.length)
  | .error _ => false
def needS (l : List Tok) (st : St) : St := match st with
  | .ok a => if a < l.length then .ok a else .error (short l)
  | .error e => .error e
def peekS (l : List Tok) (st : St) : ByteArray := match st with
  | .ok a => peek l a
  | .error _ => ⟨#[]⟩
def failS (l : List Tok) (n : Int) (st : St) : St := match st with
  | .ok a => .error (offAt l a, n)
  | .error e => .error e
def next (st : St) : St := match st with
  | .ok a => .ok (a + 1)
  | .error e => .error e

theorem peekS_of_not (l : List Tok) (st : St) (h : okAt l st = false) : peekS l st = ⟨#[]⟩ := by
  cases st with
  | error e => rfl
  | ok a =>
    have : l.length ≤ a := by simpa [okAt] using h
    simp only [peekS, peek, List.getElem?_eq_none this]

end Go.Proofs.YthijakidnkhbnaaGreatDoor.Ps

namespace Go.Proofs.YthijakidnkhbnaaGreatDoor.Ps
open Go

def leap (y : Int) : Bool := decide (y % 4 = 0) && !decide (y % 100 = 0) || decide (y % 400 = 0)
/-- the length of a month, or 0 -/
def dim (y m : Int) : Int := if y < 2000 ∨ 2199 < y ∨ m < 1 ∨ 12 < m then 0 else if m = 2 then (if leap y then 29 else 28) else if m = 4 ∨ m = 6 ∨ m = 9 ∨ m = 11 then 30 else 31
/-- the first k months of a year -/
def monS (y : Int) : Nat → Int
  | 0 => 0
  | k + 1 => monS y k + dim y ((k : Int) + 1)
/-- the first k years -/
def yeaS : Nat → Int
  | 0 => 0
  | k + 1 => yeaS k + 365 + (if leap (2000 + (k : Int)) then 1 else 0)
def yearF (p : Int) : Int := 365 * p + ((p + 3) / 4 - (p + 99) / 100 + (p + 399) / 400)

theorem leap_iff (y : Int) : leap y = true ↔ (y % 4 = 0 ∧ ¬ y % 100 = 0) ∨ y % 400 = 0 := by simp [leap]
theorem yeaS_eq : ∀ k : Nat, yeaS k = yearF (k : Int)
  | 0 => by decide
  | k + 1 => by
    have ih := yeaS_eq k
    unfold yeaS
    rw [ih]
    unfold yearF
    by_cases h : leap (2000 + (k : Int)) = true
    · rw [if_pos h]
      rw [leap_iff] at h
      omega
    · rw [if_neg h]
      rw [leap_iff] at h
      omega

theorem dim_le (y m : Int) : 0 ≤ dim y m ∧ dim y m ≤ 31 := by
  unfold dim
  split
  · omega
  · split
    · split <;> omega
    · split <;> omega
theorem monS_le (y : Int) : ∀ k : Nat, 0 ≤ monS y k ∧ monS y k ≤ 31 * (k : Int)
  | 0 => by simp [monS]
  | k + 1 => by
    have ih := monS_le y k
    have := dim_le y ((k : Int) + 1)
    unfold monS
    omega
theorem yearF_le {p : Int} (h : 0 ≤ p) (h2 : p ≤ 200) : 0 ≤ yearF p ∧ yearF p ≤ 100000 := by unfold yearF; omega

/-- the number of a day, or the error of dates -/
def civil (y m d : Int) : Int × Int := if d < 1 ∨ dim y m < d then (0, 28) else (yearF (y - 2000) + d - 1 + monS y (m - 1).toNat, 0)

theorem dim_pos {y m : Int} (h : 0 < dim y m) : 2000 ≤ y ∧ y ≤ 2199 ∧ 1 ≤ m ∧ m ≤ 12 := by
  unfold dim at h
  split at h
  · omega
  · omega
theorem civil_le (y m d : Int) : 0 ≤ (civil y m d).1 ∧ (civil y m d).1 ≤ 200000 := by
  unfold civil
  split
  · simp
  · rename_i h
    have h2 := dim_pos (y := y) (m := m) (by omega)
    have h3 := yearF_le (p := y - 2000) (by omega) (by omega)
    have h4 := monS_le y (m - 1).toNat
    have h5 := dim_le y m
    simp only
    omega

/-- the number that digits denote -/
def num (l : List UInt8) : Nat := l.foldl (fun n c => 10 * n + (c.toNat - 48)) 0
def form : List UInt8 := [48, 48, 48, 48, 45, 48, 48, 45, 48, 48]
/-- a byte at a place of a form -/
def fit (f c : UInt8) : Bool := if f = 48 then Lx.digit (c.toNat : Int) else c == f
def fits (f l : List UInt8) : Bool := decide (l.length = f.length) && (f.zip l).all fun x => fit x.1 x.2
/-- what date.Parse returns -/
def dateOf (s : ByteArray) : Int × Int :=
  if fits form s.data.toList = true then civil (num (s.data.toList.take 4)) (num ((s.data.toList.drop 5).take 2)) (num ((s.data.toList.drop 8).take 2)) else (0, 3)

theorem dateOf_le (s : ByteArray) : 0 ≤ (dateOf s).1 ∧ (dateOf s).1 ≤ 200000 := by
  unfold dateOf
  split
  · exact civil_le _ _ _
  · simp

end Go.Proofs.YthijakidnkhbnaaGreatDoor.Ps
