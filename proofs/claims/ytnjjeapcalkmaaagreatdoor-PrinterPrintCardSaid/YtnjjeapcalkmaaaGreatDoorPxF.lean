/-
  Part 6 of a proof; written short by a program out of longer texts of mine.
-/
import Derived.Test.YtnjjeapcalkmaaaGreatDoorPxE
set_option maxRecDepth 100000
set_option maxHeartbeats 4000000
set_option linter.unusedVariables false
set_option linter.unusedSimpArgs false
namespace Go.Proofs.YtnjjeapcalkmaaaGreatDoor.Ps
open Go
theorem bA {c:Prop}[Decidable c]{n x:Int}(h:(if c then n else x)=0)(hn:n≠0):¬c/\x=0:=by
 by_cases hc:c
 ·rw[if_pos hc]at h;exact absurd h hn
 ·rw[if_neg hc]at h;exact⟨hc,h⟩
structure jW (V:Nat->ByteArray->Bool)(i:Ins):Prop where
 kind:i.kind=0\/i.kind=1\/i.kind=2\/i.kind=3\/i.kind=4
 ref:V 2 i.ref=true
 sender:V 1 i.sender=true
 cpN:(i.kind=3\/i.kind=4)->i.counterparty=⟨#[]⟩
 cpY:¬(i.kind=3\/i.kind=4)->V 1 i.counterparty=true
 side:i.side=0\/i.side=1
 sideN:¬(i.kind=1\/i.kind=2)->i.side=0
 asset0:i.kind=0->i.asset=uH
 asset:i.kind≠0->V 0 i.asset=true
 qty:i.kind≠0->1<=i.quantity/\i.quantity<=bJ
 qty0:i.kind=0->i.quantity=0
 am:(i.kind=0\/i.kind=1)->1<=i.amount/\i.amount<=bJ
 am0:¬(i.kind=0\/i.kind=1)->i.amount=0
 settle:0<=i.settleDay/\i.settleDay<=bP
 trade:(i.kind=1\/i.kind=2)->0<=i.tradeDay/\i.tradeDay<=i.settleDay
 trade0:¬(i.kind=1\/i.kind=2)->i.tradeDay=0
 prio:0<=i.priority/\i.priority<=2
 prio0:(i.kind=3\/i.kind=4)->i.priority=0
 part:i.partial_=true->i.kind=1\/i.kind=2
 lot:i.partial_=true->1<=i.minLot/\i.minLot<=i.quantity
 lot0:i.partial_=false->i.minLot=0
 hold:(i.kind=3\/i.kind=4)->i.hold=false
 res:i.reserve=true->i.kind=0/\i.priority=2
 links0:(i.kind=3\/i.kind=4)->i.links=[]
 links:i.links.length<=8
 link:∀x∈i.links,(x.type=0\/x.type=1)/\V 2 x.ref=true
theorem zO (V:Nat->ByteArray->Bool)(i:Ins):∀(r seen:List Link),fE V i seen r=0->∀x∈r,(x.type=0\/x.type=1)/\V 2 x.ref=true
 |[],_,_,x,hx=>by cases hx
 |y::r,seen,h,x,hx=>by
  unfold fE at h
  split at h
  ·cases h
  rename_i h1
  split at h
  ·cases h
  rename_i h2
  split at h
  ·cases h
  split at h
  ·cases h
  rcases List.mem_cons.1 hx with rfl|hx
  ·exact⟨by omega,by simpa using h2⟩
  ·exact zO V i r _ h x hx
theorem RB (V:Nat->ByteArray->Bool)(i:Ins)(h:oL V i=0):jW V i:=by
 unfold oL at h
 obtain⟨r1,h⟩:=bA h (by decide)
 obtain⟨r2,h⟩:=bA h (by decide)
 obtain⟨r3,h⟩:=bA h (by decide)
 obtain⟨r4,h⟩:=bA h (by decide)
 obtain⟨r5,h⟩:=bA h (by decide)
 obtain⟨r6,h⟩:=bA h (by decide)
 obtain⟨r7,h⟩:=bA h (by decide)
 obtain⟨r8,h⟩:=bA h (by decide)
 obtain⟨r9,h⟩:=bA h (by decide)
 obtain⟨r10,h⟩:=bA h (by decide)
 obtain⟨r11,h⟩:=bA h (by decide)
 obtain⟨r12,h⟩:=bA h (by decide)
 obtain⟨r13,h⟩:=bA h (by decide)
 obtain⟨r14,h⟩:=bA h (by decide)
 obtain⟨r15,h⟩:=bA h (by decide)
 obtain⟨r16,h⟩:=bA h (by decide)
 obtain⟨r17,h⟩:=bA h (by decide)
 obtain⟨r18,h⟩:=bA h (by decide)
 obtain⟨r19,h⟩:=bA h (by decide)
 obtain⟨r20,h⟩:=bA h (by decide)
 have k1:i.kind=0\/i.kind=1\/i.kind=2\/i.kind=3\/i.kind=4:=by omega
 exact{
  kind:=k1
  ref:=by simpa using r2
  sender:=by simpa using r3
  cpN:=λhk=>Classical.byContradiction λhc=>r4 ⟨hk,hc⟩
  cpY:=λhk=>by
   cases hv:V 1 i.counterparty with
   |true=>rfl
   |false=>exact absurd ⟨hk,hv⟩ r5
  side:=by omega
  sideN:=λhk=>Classical.byContradiction λhc=>r8 ⟨hk,hc⟩
  asset0:=λhk=>by
   rw[if_pos hk]at r9
   exact Classical.byContradiction r9
  asset:=λhk=>by
   rw[if_neg hk]at r9
   exact Classical.byContradiction r9
  qty:=λhk=>by
   rw[if_pos hk]at r10
   exact Classical.byContradiction r10
  qty0:=λhk=>by
   rw[if_neg (by omega)]at r10
   exact Classical.byContradiction r10
  am:=λhk=>by
   rw[if_pos hk]at r11
   exact Classical.byContradiction r11
  am0:=λhk=>by
   rw[if_neg hk]at r11
   exact Classical.byContradiction r11
  settle:=Classical.byContradiction r12
  trade:=λhk=>Classical.byContradiction λhc=>r13 (.inl ⟨hk,hc⟩)
  trade0:=λhk=>Classical.byContradiction λhc=>r13 (.inr ⟨hk,hc⟩)
  prio:=by omega
  prio0:=λhk=>by omega
  part:=λhp=>Classical.byContradiction λhc=>r15 ⟨hp,hc⟩
  lot:=λhp=>by
   rw[hp]at r16
   simp only[if_true,true_and]at r16
   omega
  lot0:=λhp=>by
   rw[hp]at r16
   simp only[Bool.false_eq_true,if_false,false_and,false_or]at r16
   omega
  hold:=λhk=>by
   cases hv:i.hold with
   |false=>rfl
   |true=>exact absurd ⟨hv,hk⟩ r17
  res:=λhp=>by
   have hn:¬(i.kind≠0\/i.priority≠2):=λhc=>r18 ⟨hp,hc⟩
   omega
  links0:=λhk=>List.eq_nil_of_length_eq_zero (by omega)
  links:=by omega
  link:=zO V i _ _ h}
theorem Ins.none_eq {i:Ins}(h:i.none):i={}:=by
 obtain⟨h1,h2,h3,h4,h5,h6,h7,h8,h9,h10,h11,h12,Qm,h14,MV,h16⟩:=h
 cases i
 simp only at h1 h2 h3 h4 h5 h6 h7 h8 h9 h10 h11 h12 Qm h14 MV h16
 have h16:=List.eq_nil_of_length_eq_zero h16
 subst h1 h2 h3 h4 h5 h6 h7 h8 h9 h10 h11 h12 Qm h14 MV h16
 rfl
theorem Amd.none_eq {a:Amd}(h:a.none):a={}:=by
 obtain⟨h1,h2,h3,h4,h5,h6,h7,h8,h9⟩:=h
 cases a
 simp only at h1 h2 h3 h4 h5 h6 h7 h8 h9
 subst h1 h2 h3 h4 h5 h6 h7 h8 h9
 rfl
structure oQ (a:Amd):Prop where
 some:a.hasAmount=true\/a.hasSettleDay=true\/a.hasPriority=true\/a.hasPartial=true
 am0:a.hasAmount=false->a.amount=0
 am:a.hasAmount=true->1<=a.amount/\a.amount<=bJ
 day0:a.hasSettleDay=false->a.settleDay=0
 day:0<=a.settleDay/\a.settleDay<=bP
 prio0:a.hasPriority=false->a.priority=0
 prio:0<=a.priority/\a.priority<=2
 part0:a.hasPartial=false->a.partial_=false
 lot:a.partial_=true->1<=a.minLot/\a.minLot<=bJ
 lot0:a.partial_=false->a.minLot=0
theorem R6 (a:Amd)(h:yC a=0):oQ a:=by
 unfold yC at h
 obtain⟨r1,h⟩:=bA h (by decide)
 obtain⟨r2,h⟩:=bA h (by decide)
 obtain⟨r3,h⟩:=bA h (by decide)
 obtain⟨r4,h⟩:=bA h (by decide)
 obtain⟨r5,h⟩:=bA h (by decide)
 obtain⟨r6,_⟩:=bA h (by decide)
 exact{
  some:=by
   cases h1:a.hasAmount<;>cases h2:a.hasSettleDay<;>cases h3:a.hasPriority<;>cases h4:a.hasPartial<;>simp_all
  am0:=λhk=>Classical.byContradiction λhc=>r2 (.inl ⟨hk,hc⟩)
  am:=λhk=>by
   rw[if_pos hk]at r3
   exact Classical.byContradiction r3
  day0:=λhk=>Classical.byContradiction λhc=>r2 (.inr (.inl ⟨hk,hc⟩))
  day:=Classical.byContradiction r4
  prio0:=λhk=>Classical.byContradiction λhc=>r2 (.inr (.inr (.inl ⟨hk,hc⟩)))
  prio:=Classical.byContradiction r5
  part0:=λhk=>by
   cases hv:a.partial_ with
   |false=>rfl
   |true=>exact absurd (.inr (.inr (.inr ⟨hk,.inl hv⟩))) r2
  lot:=λhk=>by
   rw[if_pos hk]at r6
   exact Classical.byContradiction r6
  lot0:=λhk=>by
   rw[if_neg (by simp[hk])]at r6
   exact Classical.byContradiction r6}
theorem lQ (V:Nat->ByteArray->Bool)(q:Req)(h:zH V q=0):V 1 q.sender=true/\V 2 q.ref=true/\
 ((q.op=0/\jW V q.ins/\q={op:=0,sender:=q.ins.sender,ref:=q.ins.ref,ins:=q.ins})\/(q.op=1/\oQ q.amd/\q={op:=1,sender:=q.sender,ref:=q.ref,amd:=q.amd})\/((q.op=2\/q.op=3\/q.op=4)/\q={op:=q.op,sender:=q.sender,ref:=q.ref})):=by
 unfold zH at h
 split at h
 ·cases h
 rename_i r1
 split at h
 ·cases h
 rename_i r2
 split at h
 ·cases h
 rename_i r3
 refine⟨by simpa using r2,by simpa using r3,?_⟩
 split at h
 ·rename_i h0
  left
  split at h
  ·rename_i hz;exact absurd h hz
  rename_i r4
  split at h
  ·cases h
  rename_i r5
  split at h
  ·cases h
  rename_i r6
  have r4:oL V q.ins=0:=Classical.byContradiction r4
  have r6:q.amd.none:=Classical.byContradiction r6
  refine⟨h0,RB V _ r4,?_⟩
  have e1:q.ins.ref=q.ref:=Classical.byContradiction λhc=>r5 (.inl hc)
  have e2:q.ins.sender=q.sender:=Classical.byContradiction λhc=>r5 (.inr hc)
  have e3:=Amd.none_eq r6
  cases q
  simp only at h0 e1 e2 e3
  subst h0 e3
  simp only[e1,e2]
 ·rename_i h0
  right
  split at h
  ·cases h
  rename_i r4
  have e3:=Ins.none_eq (Classical.byContradiction r4)
  split at h
  ·rename_i h1
   left
   refine⟨h1,R6 _ h,?_⟩
   cases q
   simp only at h1 e3
   subst h1 e3
   rfl
  ·rename_i h1
   right
   split at h
   ·cases h
   rename_i r6
   have e4:=Amd.none_eq (Classical.byContradiction r6)
   refine⟨by omega,?_⟩
   cases q
   simp only at e3 e4
   subst e3 e4
   rfl
def eX (l:List Tok)(a:Nat)(ts:List ByteArray):Prop:=∀(j:Nat) (t:ByteArray),ts[j]? =some t->ak l (a+j) (Lx.aD t).1 t
theorem eX.head {l:List Tok}{a:Nat}{t:ByteArray}{ts:List ByteArray}(h:eX l a (t::ts)):ak l a (Lx.aD t).1 t:=h 0 t rfl
theorem eX.tail {l:List Tok}{a:Nat}{t:ByteArray}{ts:List ByteArray}(h:eX l a (t::ts)):eX l (a+1) ts:=λj x hx=>by
 have:=h (j+1) x (by simpa using hx)
 rwa [show a+(j+1)=a+1+j from by omega]at this
theorem eX.left {l:List Tok}{a:Nat}{ts us:List ByteArray}(h:eX l a (ts++us)):eX l a ts:=λj x hx=>
 h j x (by rw[List.getElem?_append_left (List.getElem?_eq_some_iff.1 hx).1];exact hx)
theorem eX.right {l:List Tok}{a:Nat}{ts us:List ByteArray}(h:eX l a (ts++us)):eX l (a+ts.length) us:=λj x hx=>by
 have:=h (ts.length+j) x (by rw[List.getElem?_append_right (by omega)];simpa using hx)
 rwa [show a+(ts.length+j)=a+ts.length+j from by omega]at this
theorem ak.of {l:List Tok}{a:Nat}{t:ByteArray}{k:Int}(h:ak l a (Lx.aD t).1 t)(hk:Lx.aD t=(k,0)):ak l a k t:=by rw[hk]at h;exact h
def bw (w:Bs):ByteArray:=⟨w.toArray⟩
def bH (n:Int):ByteArray:=⟨(dec n.toNat).toArray⟩
def bO (n:Int):ByteArray:=⟨(cu n.toNat).toArray⟩
structure gW (E:Env)(D:Int->ByteArray):Prop where
 named:∀k s,k<3->E.valid k s=true->Lx.all Lx.named s.data.toList=true/\s.size<=32
 upper:∀k s,k<2->E.valid k s=true->Lx.aD s=(1,0)
 number:∀n:Int,1<=n->n<=bJ->E.number (bH n)=(n,0)
 cash:∀n:Int,1<=n->n<=bJ->E.cash (bO n)=(n,0)
 date:∀n:Int,0<=n->n<=bP->E.date (D n)=(n,0)
 day:∀n:Int,0<=n->n<=bP->Lx.aD (D n)=(4,0)
 daySolid:∀n:Int,0<=n->n<=bP->Lx.iZ (D n).data.toList=true/\(D n).data.toList≠[]
def ql (t:ByteArray):Prop:=Lx.iZ t.data.toList=true/\t.data.toList≠[]/\(Lx.aD t).2=0
section
variable {E : Env} {D : Int → ByteArray}
theorem gW.refK (hE:gW E D){s:ByteArray}(h:E.valid 2 s=true):(Lx.aD s).1∈([1,2,4]:List Int)/\ql s:=by
 obtain⟨h1,h2⟩:=hE.named 2 s (by omega) h
 obtain⟨k,hk,hc⟩:=iA s h1 h2
 obtain⟨h3,h4⟩:=uX h1
 exact⟨by rw[hc];exact hk,h3,h4,by rw[hc]⟩
theorem gW.upG (hE:gW E D){k:Nat}{s:ByteArray}(hk:k<2)(h:E.valid k s=true):ql s:=by
 obtain⟨h1,h2⟩:=hE.named k s (by omega) h
 obtain⟨h3,h4⟩:=uX h1
 exact⟨h3,h4,by rw[hE.upper k s hk h]⟩
theorem gX {n:Int}(h1:1<=n)(h2:n<=bJ):Lx.aD (bH n)=(2,0)/\ql (bH n):=by
 unfold bJ at h2
 have hc:=CE n.toNat (by omega) (by omega)
 obtain⟨d1,d2,_⟩:=df n.toNat
 exact⟨hc,xk d1,d2,by show(Lx.aD ⟨(dec n.toNat).toArray⟩).2=0;rw[hc]⟩
theorem jP {n:Int}(h2:n<=bJ):Lx.aD (bO n)=(3,0)/\ql (bO n):=by
 unfold bJ at h2
 have hc:=xm n.toNat (by omega)
 refine⟨hc,DN _,?_,by show(Lx.aD ⟨(cu n.toNat).toArray⟩).2=0;rw[hc]⟩
 show cu n.toNat≠[]
 unfold cu
 simp
theorem gW.dayG (hE:gW E D){n:Int}(h1:0<=n)(h2:n<=bP):ql (D n):=⟨(hE.daySolid n h1 h2).1,(hE.daySolid n h1 h2).2,by rw[hE.day n h1 h2]⟩
end
def rY (w:Bs):Bool:=decide (Lx.aD (bw w)=(0,0))&&Lx.iZ w&&!w.isEmpty
theorem jc {w:Bs}(h:rY w=true):Lx.aD (bw w)=(0,0)/\ql (bw w):=by
 unfold rY at h
 simp only[Bool.and_eq_true,decide_eq_true_eq,Bool.not_eq_true',List.isEmpty_eq_false_iff]at h
 exact⟨h.1.1,h.1.2,h.2,by rw[h.1.1]⟩
theorem eX.word {l:List Tok}{a:Nat}{w:Bs}(h:ak l a (Lx.aD (bw w)).1 (bw w))(hw:rY w=true):ak l a 0 (bw w):=h.of (jc hw).1
def bX (p:Int):Bs:=if p=0 then qL else if p=1 then Ic else vJ
def Sa (x:Link):List ByteArray:=[bw (if x.type=0 then fF else dC),x.ref]
theorem rC {p:Int}(h:0<=p/\p<=2):rY (bX p)=true/\Ps.prio (bX p)=some p:=by
 rcases(show p=0\/p=1\/p=2 by omega)with rfl|rfl|rfl<;>exact⟨by decide +kernel,by decide⟩
section
variable (E : Env) (l : List Tok) (f : Nat) (s : Seen) (i : Amd) (a : Nat)
theorem OO (hlt:a<l.length)(p:Int)(hp:prio (aU l a).data.toList=some p):changes E l (f+1) s i a=if s.prio=true then .error (av l a,7)else changes E l f {s with prio:=true} {i with hasPriority:=true,priority:=p} (a+1):=by
 conv=>lhs;unfold changes
 rw[if_neg (by omega),hp]
 simp only[]
 by_cases h:s.prio=true
 ·rw[if_pos h,if_pos h];rfl
 ·rw[if_neg h,if_neg h]
theorem Om (hlt:a<l.length)(hw:(aU l a).data.toList=aK):changes E l (f+1) s i a=if s.part=true then .error (av l a,7)else bind' (quantity E l) (λn=>changes E l f {s with part:=true} {i with hasPartial:=true,partial_:=true,minLot:=n}) (a+1):=by
 conv=>lhs;unfold changes
 rw[if_neg (by omega),hw,show prio aK=none from by decide]
 simp only[if_true]
 by_cases h:s.part=true
 ·rw[if_pos h,if_pos h];rfl
 ·rw[if_neg h,if_neg h]
theorem Kr (hlt:a<l.length)(hw:(aU l a).data.toList=fD):changes E l (f+1) s i a=if s.part=true then .error (av l a,7)else changes E l f {s with part:=true} {i with hasPartial:=true} (a+1):=by
 conv=>lhs;unfold changes
 rw[if_neg (by omega),hw,show prio fD=none from by decide]
 simp only[]
 rw[if_neg (by decide),if_pos trivial]
 by_cases h:s.part=true
 ·rw[if_pos h,if_pos h];rfl
 ·rw[if_neg h,if_neg h]
theorem Fa (hlt:a<l.length)(hw:(aU l a).data.toList=bY):changes E l (f+1) s i a=if s.amount=true then .error (av l a,7)else bind' (cash E l) (λn=>changes E l f {s with amount:=true} {i with hasAmount:=true,amount:=n}) (a+1):=by
 conv=>lhs;unfold changes
 rw[if_neg (by omega),hw,show prio bY=none from by decide]
 simp only[]
 rw[if_neg (by decide),if_neg (by decide),if_pos trivial]
 by_cases h:s.amount=true
 ·rw[if_pos h,if_pos h];rfl
 ·rw[if_neg h,if_neg h]
theorem RY (hlt:a<l.length)(hw:(aU l a).data.toList=eF):changes E l (f+1) s i a=if s.day=true then .error (av l a,7)else bind' (day E l) (λn=>changes E l f {s with day:=true} {i with hasSettleDay:=true,settleDay:=n}) (a+1):=by
 conv=>lhs;unfold changes
 rw[if_neg (by omega),hw,show prio eF=none from by decide]
 simp only[]
 rw[if_neg (by decide),if_neg (by decide),if_neg (by decide),if_pos trivial]
 by_cases h:s.day=true
 ·rw[if_pos h,if_pos h];rfl
 ·rw[if_neg h,if_neg h]
end
theorem Bn (E:Env)(l:List Tok)(f:Nat)(s:Seen)(i:Amd)(a:Nat)(h:l.length<=a):changes E l (f+1) s i a=.ok (i,a):=by
 conv=>lhs;unfold changes
 rw[if_pos h]
def LB (a:Amd):List ByteArray:=if a.hasAmount=true then[bw bY,bO a.amount]else[]
def rR (D:Int->ByteArray)(a:Amd):List ByteArray:=if a.hasSettleDay=true then[bw eF,D a.settleDay]else[]
def uk (a:Amd):List ByteArray:=if a.hasPriority=true then[bw (bX a.priority)]else[]
def pg (a:Amd):List ByteArray:=if a.hasPartial=true then(if a.partial_=true then[bw aK,bH a.minLot]else[bw fD])else[]
def yZ (D:Int->ByteArray)(a:Amd):List ByteArray:=LB a++(rR D a++(uk a++pg a))
theorem Cu {E:Env}{D:Int->ByteArray}(hE:gW E D)(l:List Tok)(m:Amd)(f:Nat)(s:Seen)(j:Amd)(a:Nat)(h:eX l a (pg m))(hl:l.length=a+(pg m).length)(hf:(pg m).length<f)(hs:s.part=false)(hm:oQ m)(hj1:j.hasPartial=false)(hj2:j.partial_=false)(CU:j.minLot=0):
 changes E l f s j a=.ok ({j with hasPartial:=m.hasPartial,partial_:=m.partial_,minLot:=m.minLot},l.length):=by
 unfold pg at h hl hf
 cases f with
 |zero=>omega
 |succ f=>
  by_cases hr:m.hasPartial=true
  ·simp only[if_pos hr]at h hl hf
   by_cases hp:m.partial_=true
   ·simp only[if_pos hp]at h hl hf
    have h2:([bw aK,bH m.minLot]:List ByteArray).length=2:=rfl
    rw[h2]at hl hf
    obtain⟨m1,m2⟩:=hm.lot hp
    have h0:=eX.word h.head (by decide +kernel)
    have h1:=h.tail.head.of (gX m1 m2).1
    cases f with
    |zero=>omega
    |succ f=>
     rw[Om E l _ s j a h0.lt (by rw[dw h0];rfl),if_neg (by simp[hs]),bind_ok (l7 h1 _ (hE.number _ m1 m2)),Bn E l f _ _ _ (by omega),hr,hp,show a+1+1=l.length from by omega]
   ·simp only[if_neg hp]at h hl hf
    rw[List.length_singleton]at hl hf
    have hp':m.partial_=false:=by simpa using hp
    have h0:=eX.word h.head (by decide +kernel)
    cases f with
    |zero=>omega
    |succ f=>
     rw[Kr E l _ s j a h0.lt (by rw[dw h0];rfl),if_neg (by simp[hs]),Bn E l f _ _ _ (by omega),hr,hp',hm.lot0 hp',show a+1=l.length from by omega,hj2,CU]
  ·simp only[if_neg hr,List.length_nil,Nat.add_zero]at h hl hf
   have hr':m.hasPartial=false:=by simpa using hr
   rw[Bn E l f _ _ _ (by omega),hr',hm.part0 hr',hm.lot0 (hm.part0 hr'),hl]
   cases j
   simp only at hj1 hj2 CU
   subst hj1 hj2 CU
   rfl
theorem DU {E:Env}{D:Int->ByteArray}(hE:gW E D)(l:List Tok)(m:Amd)(f:Nat)(s:Seen)(j:Amd)(a:Nat)(h:eX l a (uk m++pg m))(hl:l.length=a+(uk m++pg m).length)(hf:(uk m).length+(pg m).length<f)(hs:s.part=false)(hs2:s.prio=false)(hm:oQ m)(hj1:j.hasPartial=false)(hj2:j.partial_=false)(CU:j.minLot=0)
 (hj4:j.hasPriority=false) (hj5:j.priority=0):changes E l f s j a=.ok ({j with hasPriority:=m.hasPriority,priority:=m.priority,hasPartial:=m.hasPartial,partial_:=m.partial_,minLot:=m.minLot},l.length):=by
 unfold uk at h hl hf
 by_cases hr:m.hasPriority=true
 ·simp only[if_pos hr,List.length_append,List.length_singleton]at h hl hf
  cases f with
  |zero=>omega
  |succ f=>
   obtain⟨w1,w2⟩:=rC hm.prio
   have h0:=eX.word h.left.head w1
   rw[OO E l f s j a h0.lt m.priority (by rw[dw h0];exact w2),if_neg (by simp[hs2])]
   refine Eq.trans (Cu hE l m f _ _ (a+1) h.right (by omega) (by omega) (by exact hs) hm (by exact hj1) (by exact hj2) (by exact CU)) ?_
   rw[hr]
 ·simp only[if_neg hr,List.nil_append,List.length_nil,Nat.zero_add]at h hl hf
  have hr':m.hasPriority=false:=by simpa using hr
  rw[Cu hE l m f _ _ a h hl hf hs hm hj1 hj2 CU,hr',hm.prio0 hr']
  cases j
  simp only at hj4 hj5
  subst hj4 hj5
  rfl
theorem zg {E:Env}{D:Int->ByteArray}(hE:gW E D)(l:List Tok)(m:Amd)(f:Nat)(s:Seen)(j:Amd)(a:Nat)(h:eX l a (rR D m++(uk m++pg m)))(hl:l.length=a+(rR D m++(uk m++pg m)).length)(hf:(rR D m).length+((uk m).length+(pg m).length)<f)
 (hs:s.part=false) (hs2:s.prio=false) (hs3:s.day=false) (hm:oQ m) (hj1:j.hasPartial=false) (hj2:j.partial_=false) (CU:j.minLot=0)
 (hj4:j.hasPriority=false) (hj5:j.priority=0) (hj6:j.hasSettleDay=false) (hj7:j.settleDay=0):changes E l f s j a=.ok ({j with hasSettleDay:=m.hasSettleDay,settleDay:=m.settleDay,hasPriority:=m.hasPriority,priority:=m.priority,hasPartial:=m.hasPartial,partial_:=m.partial_,minLot:=m.minLot},l.length):=by
 unfold rR at h hl hf
 by_cases hr:m.hasSettleDay=true
 ·simp only[if_pos hr]at h hl hf
  rw[List.length_append]at hl
  have h2:([bw eF,D m.settleDay]:List ByteArray).length=2:=rfl
  rw[h2]at hl hf
  rw[List.length_append]at hl
  cases f with
  |zero=>omega
  |succ f=>
   have h0:=eX.word h.left.head (by decide +kernel)
   have h1:=h.left.tail.head.of (hE.day _ hm.day.1 hm.day.2)
   rw[RY E l f s j a h0.lt (by rw[dw h0];rfl),if_neg (by simp[hs3]),bind_ok (pW h1 _ (hE.date _ hm.day.1 hm.day.2))]
   refine Eq.trans (DU hE l m f _ _ (a+1+1) h.right (by rw[List.length_append];omega) (by omega) (by exact hs) (by exact hs2) hm (by exact hj1) (by exact hj2) (by exact CU) (by exact hj4) (by exact hj5)) ?_
   rw[hr]
 ·simp only[if_neg hr,List.nil_append,List.length_nil,Nat.zero_add]at h hl hf
  have hr':m.hasSettleDay=false:=by simpa using hr
  rw[DU hE l m f _ _ a h hl hf hs hs2 hm hj1 hj2 CU hj4 hj5,hr',hm.day0 hr']
  cases j
  simp only at hj6 hj7
  subst hj6 hj7
  rfl
theorem PH {E:Env}{D:Int->ByteArray}(hE:gW E D)(l:List Tok)(m:Amd)(a:Nat)(h:eX l a (yZ D m))(hl:l.length=a+(yZ D m).length)(hm:oQ m):changes E l (l.length+1) {} {} a=.ok (m,l.length):=by
 unfold yZ at h hl
 have e:m={hasAmount:=m.hasAmount,hasSettleDay:=m.hasSettleDay,hasPriority:=m.hasPriority,hasPartial:=m.hasPartial,amount:=m.amount,settleDay:=m.settleDay,priority:=m.priority,partial_:=m.partial_,minLot:=m.minLot}:=rfl
 simp only[List.length_append]at hl
 unfold LB at h hl
 by_cases hr:m.hasAmount=true
 ·simp only[if_pos hr]at h hl
  have h2:([bw bY,bO m.amount]:List ByteArray).length=2:=rfl
  rw[h2]at hl
  obtain⟨m1,m2⟩:=hm.am hr
  have h0:=eX.word h.left.head (by decide +kernel)
  have h1:=h.left.tail.head.of (jP m2).1
  rw[Fa E l _ {} {} a h0.lt (by rw[dw h0];rfl),if_neg (by simp),bind_ok (BJ h1 _ (hE.cash _ m1 m2))]
  refine Eq.trans (zg hE l m _ _ _ (a+1+1) h.right (by simp only[List.length_append];omega) (by omega) (by rfl) (by rfl) (by rfl) hm (by rfl) (by rfl) (by rfl) (by rfl) (by rfl) (by rfl) (by rfl)) ?_
  cases m
  simp only at hr
  subst hr
  rfl
 ·simp only[if_neg hr,List.nil_append,List.length_nil,Nat.zero_add]at h hl
  have hr':m.hasAmount=false:=by simpa using hr
  refine Eq.trans (zg hE l m _ _ _ a h (by simp only[List.length_append];omega) (by omega) (by rfl) (by rfl) (by rfl) hm (by rfl) (by rfl) (by rfl) (by rfl) (by rfl) (by rfl) (by rfl)) ?_
  have h0:=hm.am0 hr'
  cases m
  simp only at hr' h0
  subst hr' h0
  rfl
def gP (i:Ins):ByteArray:=if i.side=1 then i.counterparty else i.sender
def toT (i:Ins):ByteArray:=if i.side=1 then i.sender else i.counterparty
end Go.Proofs.YtnjjeapcalkmaaaGreatDoor.Ps
namespace Go.Proofs.YtnjjeapcalkmaaaGreatDoor
open Go Go.RowKit Go.Sort
theorem o7 (w:World)(k:Nat)(os:Array Obj):Below w.heap.size w (Sort.grow (w.drewN k) os):=
 ⟨rfl,rfl,rfl,by rw[Sort.size_grow];exact Nat.le_add_right _ _,λj hj=>Sort.heap_grow_old (w.drewN k) os hj⟩
abbrev zN (w:World):Prop:=Lib.TabIs Tryz.prog w "internal/strconv.uint64pow10" .u64 Lib.pow10Tab
theorem fn_fin (w:World)(o:Obj)(dk:Array UInt8)(k:Nat):Below w.heap.size w ((putRow (λ(b:UInt8)=>Value.int .u8 (b.toNat:Int)) (w.alloc o) w.heap.size 0 dk).drewN k):=by
 rw[alloc_eq_grow]
 obtain⟨os',_,e⟩:=putRow_grow_new (λ(b:UInt8)=>Value.int .u8 (b.toNat:Int)) w #[o] w.heap.size 0 dk (Nat.le_refl _)
 rw[e]
 exact o7 w k os'
theorem RL (w:World)(T:TypeId)(nd:Nat)(hs:nd<=24):Holds (λ(b:UInt8)=>Value.int .u8 (b.toNat:Int)) (w.alloc (.cells Lib.zeros24 T)) w.heap.size 0 (Array.replicate nd (0:UInt8)):=λj hj=>by
 have hj':j<nd:=by simpa using hj
 refine⟨?_,World.frozen?_alloc_new _ _ _ _⟩
 rw[World.cell?_alloc_new,Lib.zeros24_at _ (by omega),getElem!_pos _ j hj]
 simp
theorem xG (u:Nat)(hu:u<100)(w:World):Calls Tryz.prog 259 #[.int .u64 u,.int .i64 10] w λe w'=>e=.returned (.string ⟨(Lib.decDigits u).toArray⟩)/\Below w.heap.size w w':=by
 have n1:=Tryz.internal_strconv_small u hu
 have huI:(u:Int)<100:=by omega
 have hw:IntKind.i64.wrap (u:Int)=u:=IntWalk.i64_in _ (by omega)
 go_enter Tryz.func259,Tryz.ntmps259
 go_wp2_with (go_at_call 263;refine(n1 _).mono ?_;rintro e w' ⟨rfl,rfl⟩)
 go_ret
 exact⟨rfl,Below.refl _ _⟩
theorem yL (u:Nat)(hu:¬u<100)(hu64:u<18446744073709551616)(w:World)(htab:zN w):Calls Tryz.prog 259 #[.int .u64 u,.int .i64 10] w λe w'=>e=.returned (.string ⟨(Lib.decDigits u).toArray⟩)/\Below w.heap.size w w':=by
 have hu1:1<=u:=by omega
 have hnd20:Lib.nDigits u<=20:=by have:=Lib.numDigits_eq u hu1 hu64;split at this<;>omega
 have hal:Tryz.prog.arrayLen 269=24:=by simp[Program.arrayLen,Tryz.underlying269]
 have hsl:∀W,(Instr.sliceAt 269 (.pointer (some ⟨w.heap.size,0,none⟩)) none (some (.int .i64 (Lib.nDigits u:Int))) none).run Tryz.prog W=.ok (.slice (some ⟨w.heap.size,0,none⟩) (Lib.nDigits u) 24) W:=λW=>by
  rw[run_sliceAt_array_h W 269 ⟨w.heap.size,0,none⟩ (by simp[Program.arrayLen,Program.elem,Tryz.underlying269]) .i64 (Lib.nDigits u:Int) (by omega) (by rw[hal];omega)]
  go_simp
 have hH0:=RL w 269 (Lib.nDigits u) (by omega)
 have hfmt:=Tryz.internal_strconv_formatBase10 w.heap.size 0 24 u (Array.replicate (Lib.nDigits u) 0) (w.alloc (.cells Lib.zeros24 269)) hH0 (by rw[Array.size_replicate];exact Lib.lt_pow_nDigits u) hu64 (by rw[Array.size_replicate];omega)
 rw[Array.size_replicate]at hfmt
 have HH0:=Lib.hid hH0
 have huI:¬(u:Int)<100:=by omega
 have HU:=Lib.hid (show u<18446744073709551616 from hu64)
 clear hH0 hal
 go_enter Tryz.func259,Tryz.ntmps259
 go_wp2_with (first
  |(go_at_call 264;refine(Tryz.internal_strconv_numDigits u hu1 HU.out _ (Lib.tabIs_alloc htab _)).mono ?_;rintro e w' ⟨rfl,rfl⟩))
 go_at_call 265
 refine hfmt.mono ?_
 rintro e w' ⟨rfl,k,v',dk,rfl,hF⟩
 have hcv:(convert 135 9 (.slice (some ⟨w.heap.size,0,none⟩) (Lib.nDigits u) 24)).run Tryz.prog ((putRow (λ(b:UInt8)=>Value.int .u8 (b.toNat:Int)) (w.alloc (.cells Lib.zeros24 269)) w.heap.size 0 dk).drewN k)=.ok (.string ⟨(Lib.decDigits u).toArray⟩) ((putRow (λ(b:UInt8)=>Value.int .u8 (b.toNat:Int)) (w.alloc (.cells Lib.zeros24 269)) w.heap.size 0 dk).drewN k):=by
  have h:=run_convert_bytes_back (P:=Tryz.prog) ((putRow (λ(b:UInt8)=>Value.int .u8 (b.toNat:Int)) (w.alloc (.cells Lib.zeros24 269)) w.heap.size 0 dk).drewN k) 135 9 5 ⟨w.heap.size,0,none⟩ 24 (Lib.decDigits u) Tryz.underlying135 Tryz.underlying5 Tryz.underlying9 (λj hj=>by
   rw[Lib.row_is_numeral hF j hj,Lib.add_plain,World.cell?_drewN]
   exact cell?_putRow (λ(b:UInt8)=>Value.int .u8 (b.toNat:Int)) _ w.heap.size 0 _ dk HH0.out (by rw[hF.size,Array.size_replicate]) j (by rw[hF.size];rw[Lib.decDigits_length]at hj;exact hj))
  rw[Lib.decDigits_length]at h
  exact h
 go_wp2
 go_ret
 exact⟨rfl,fn_fin w _ dk k⟩
theorem y9 (u:Nat)(hu:u<18446744073709551616)(w:World)(htab:zN w):Calls Tryz.prog 238 #[.int .u64 u,.int .i64 10] w λe w'=>e=.returned (.string ⟨(Lib.decDigits u).toArray⟩)/\Below w.heap.size w w':=by
 have n1:Calls Tryz.prog 259 #[.int .u64 u,.int .i64 10] w λe w'=>e=.returned (.string ⟨(Lib.decDigits u).toArray⟩)/\Below w.heap.size w w':=by
  by_cases h:u<100
  ·exact xG u h w
  ·exact yL u h hu w htab
 clear hu htab
 go_enter Tryz.func238,Tryz.ntmps238
 go_wp2_with fail
 refine n1.mono ?_
 rintro e w1 ⟨rfl,hb⟩
 clear n1
 go_wp2_with fail
 go_ret
 exact⟨rfl,hb⟩
theorem LH (n:Nat)(hn:n<=1000000000000000)(w:World)(htab:zN w):Calls Tryz.prog 125 #[.int .i64 n] w λe w'=>e=.returned (.string (Ps.bH n))/\Below w.heap.size w w':=by
 have n1:=Tryz.strconv_FormatInt_10 (n:Int) (by omega) (by omega) w htab
 rw[Lib.itoa_nonneg]at n1
 clear htab hn
 go_enter Tryz.func125,Tryz.ntmps125
 go_wp2_with fail
 refine n1.mono ?_
 rintro e w1 ⟨rfl,k,os,hw⟩
 have HB:Hid (Below w.heap.size w w1):=Lib.hid (by rw[hw];exact o7 w k os)
 clear n1 hw
 go_wp2_with fail
 go_ret
 exact⟨rfl,HB.out⟩
theorem SV (n:Nat)(h0:max (n:Int) (-(n:Int))=n)(hw:IntKind.u64.wrap (n:Int)=n)(hw2:IntKind.i64.wrap (-(n:Int))= -(n:Int))(w:World):Calls Tryz.prog 239 #[.int .i64 n] w λe w'=>e=.returned (.int .u64 n)/\w'=w:=by
 go_enter Tryz.func239,Tryz.ntmps239
 go_wp2_with fail
 go_ret
 exact⟨rfl,rfl⟩
theorem Ml (n:Nat)(h0:(-1000000000000000:Int)<=n)(h1:(n:Int)<=1000000000000000)(w:World):Calls Tryz.prog 237 #[.int .i64 n] w λe w'=>e=.returned (.bool true)/\w'=w:=by
 go_enter Tryz.func237,Tryz.ntmps237
 go_wp2_with fail
 go_ret
 exact⟨rfl,rfl⟩
theorem Fz (W:World):Calls Tryz.prog 89 #[.string ⟨#[48]⟩,.int .i64 1] W λe W'=>e=.returned (.string ⟨#[48]⟩)/\Below W.heap.size W W':=by
 have nM:=Tryz.bits_Mul 1 1 (by decide) (by decide)
 have nP:=Tryz.strings_HasPrefix
 go_enter Tryz.func89,Tryz.ntmps89
 go_wp2_with (first|(go_at_call 164;refine(nM _).mono ?_;rintro e w1 ⟨rfl,rfl⟩)|(go_at_call 165;refine(nP _ _ _).mono ?_;rintro e w1 ⟨rfl,rfl⟩))
 go_ret
 exact⟨rfl,Below.refl _ _⟩
theorem IV (W:World):Calls Tryz.prog 89 #[.string ⟨#[48]⟩,.int .i64 2] W λe W'=>e=.returned (.string ⟨#[48,48]⟩)/\Below W.heap.size W W':=by
 have nM:=Tryz.bits_Mul 1 2 (by decide) (by decide)
 have nP:=Tryz.strings_HasPrefix
 go_enter Tryz.func89,Tryz.ntmps89
 go_wp2_with (first|(go_at_call 164;refine(nM _).mono ?_;rintro e w1 ⟨rfl,rfl⟩)|(go_at_call 165;refine(nP _ _ _).mono ?_;rintro e w1 ⟨rfl,rfl⟩))
 go_ret
 exact⟨rfl,Below.refl _ _⟩
theorem Iu {n m:Nat}{w w':World}(h:Below n w w'):Below n w (w'.drewN m):=⟨h.os,h.tape,h.output,h.size,h.block⟩
structure FmtT (S A B:ByteArray)(k:Int):Prop where
 len:IntKind.i64.wrap ((S.size:Int)-2)=k
 h0:0<=k
 h1:k<=S.size
 a:S.extract 0 k.toNat=A
 b:S.extract k.toNat S.size=B
 z1:¬9223372036854775807<A.size
 z2:¬9223372036854775807<A.size+1
 z3:¬9223372036854775807<A.size+1+B.size
theorem GJ (n:Nat)(S A B:ByteArray)(k:Int)(hS:¬(S.size:Int)<3)(hn:¬(n:Int)<0)(hT:FmtT S A B k)(w:World)(n1:∀w,Calls Tryz.prog 237 #[.int .i64 n] w λe w'=>e=.returned (.bool true)/\w'=w)(n2:∀w,Calls Tryz.prog 239 #[.int .i64 n] w λe w'=>e=.returned (.int .u64 n)/\w'=w)(n3:Calls Tryz.prog 238 #[.int .u64 n,.int .i64 10] w λe w'=>e=.returned (.string S)/\Below w.heap.size w w'):
 Calls Tryz.prog 193 #[.int .i64 n] w λe w'=>e=.returned (.tuple #[.string (A++⟨#[46]⟩++B),.int .i64 0])/\Below w.heap.size w w':=by
 obtain⟨t1,t2,t3,t4,t5,t6,t7,t8⟩:=hT
 go_enter Tryz.func193,Tryz.ntmps193
 go_wp2_with (first|(go_at_call 237;refine(n1 _).mono ?_;rintro e w1 ⟨rfl,rfl⟩)|(go_at_call 239;refine(n2 _).mono ?_;rintro e w1 ⟨rfl,rfl⟩))
 go_at_call 238
 refine n3.mono ?_
 rintro e w1 ⟨rfl,hb⟩
 have HB:=Lib.hid hb
 clear hb n1 n2 n3
 go_wp2_with fail
 go_quiet (fail)
 go_wp2_with fail
 go_ret2
 exact⟨rfl,Iu HB.out⟩
theorem uP (n:Nat)(s R S A B:ByteArray)(k j:Int)(hS:(s.size:Int)<3)(hn:¬(n:Int)<0)(hj:IntKind.i64.wrap (3-(s.size:Int))=j)(hcat:R++s=S)(hz:¬9223372036854775807<R.size+s.size)(hT:FmtT S A B k)(w:World)(n1:∀w,Calls Tryz.prog 237 #[.int .i64 n] w λe w'=>e=.returned (.bool true)/\w'=w)(n2:∀w,Calls Tryz.prog 239 #[.int .i64 n] w λe w'=>e=.returned (.int .u64 n)/\w'=w)(n3:Calls Tryz.prog 238 #[.int .u64 n,.int .i64 10] w λe w'=>e=.returned (.string s)/\Below w.heap.size w w')
 (n4:∀w,Calls Tryz.prog 89 #[.string ⟨#[48]⟩,.int .i64 j] w λe w'=>e=.returned (.string R)/\Below w.heap.size w w'):
 Calls Tryz.prog 193 #[.int .i64 n] w λe w'=>e=.returned (.tuple #[.string (A++⟨#[46]⟩++B),.int .i64 0])/\Below w.heap.size w w':=by
 obtain⟨t1,t2,t3,t4,t5,t6,t7,t8⟩:=hT
 go_enter Tryz.func193,Tryz.ntmps193
 go_wp2_with (first|(go_at_call 237;refine(n1 _).mono ?_;rintro e w1 ⟨rfl,rfl⟩)|(go_at_call 239;refine(n2 _).mono ?_;rintro e w1 ⟨rfl,rfl⟩))
 go_at_call 238
 refine n3.mono ?_
 rintro e w1 ⟨rfl,hb⟩
 have HB:=Lib.hid hb
 clear hb n1 n2 n3
 go_wp2_with fail
 refine(n4 _).mono ?_
 rintro e w2 ⟨rfl,hb⟩
 have HB2:=Lib.hid (HB.out.trans (hb.mono HB.out.size))
 clear hb n4 HB
 go_wp2_with fail
 clear hcat hz hS hj
 go_quiet (fail)
 go_wp2_with fail
 go_ret2
 exact⟨rfl,Iu HB2.out⟩
theorem FJ (A B:List UInt8):(⟨(A++B).toArray⟩:ByteArray).extract 0 A.length=⟨A.toArray⟩/\(⟨(A++B).toArray⟩:ByteArray).extract A.length (⟨(A++B).toArray⟩:ByteArray).size=⟨B.toArray⟩:=by
 have hs:(⟨(A++B).toArray⟩:ByteArray).size=(A++B).length:=rfl
 refine⟨?_,?_⟩
 ·apply ByteArray.ext
  apply Array.toList_inj.1
  simp
 ·rw[hs]
  apply ByteArray.ext
  apply Array.toList_inj.1
  simp
theorem BR (A:List UInt8)(x y:UInt8)(hA:A.length<=100):FmtT ⟨(A++[x,y]).toArray⟩ ⟨A.toArray⟩ ⟨#[x,y]⟩ A.length:=by
 have hs:(⟨(A++[x,y]).toArray⟩:ByteArray).size=A.length+2:=by show(A++[x,y]).toArray.size=_;simp
 have hs2:(⟨A.toArray⟩:ByteArray).size=A.length:=rfl
 have hs3:(⟨#[x,y]⟩:ByteArray).size=2:=rfl
 obtain⟨e1,e2⟩:=FJ A [x,y]
 refine⟨?_,by omega,by rw[hs];omega,by rw[Int.toNat_natCast];exact e1,by rw[Int.toNat_natCast];exact e2,by omega,by omega,by omega⟩
 rw[hs]
 exact(IntWalk.i64_in _ (by omega)).trans (by omega)
theorem Pe (n:Nat):Ps.bO (n:Int)=⟨(Ps.dec (n/100)).toArray⟩++⟨#[46]⟩++⟨#[Ps.dgt (n/10%10),Ps.dgt (n%10)]⟩:=by
 unfold Ps.bO Ps.cu
 rw[Int.toNat_natCast]
 apply ByteArray.ext
 apply Array.toList_inj.1
 simp[ByteArray.data_append]
theorem MH (n:Nat)(hn:n<=1000000000000000)(w:World)(htab:zN w):Calls Tryz.prog 193 #[.int .i64 n] w λe w'=>e=.returned (.tuple #[.string (Ps.bO n),.int .i64 0])/\Below w.heap.size w w':=by
 have n1:=Ml n (by omega) (by omega)
 have n2:=SV n (by omega) ((IntKind.wrap_u64 _).trans (by omega)) (IntWalk.i64_in _ (by omega))
 have n3:=y9 n (by omega) w htab
 rw[Pe]
 by_cases SX:n<100
 ·by_cases h10:n<10
  ·have e:Lib.decDigits n=[Ps.dgt n]:=Ps.dX h10
   have e0:Ps.dec (n/100)=[48]:=by rw[show n/100=0 from by omega];exact Ps.dX (by omega)
   rw[e]at n3
   rw[e0,show n/10%10=0 from by omega,show n%10=n from by omega]
   exact uP n _ _ _ _ _ _ 2 (by show((1:Nat):Int)<3;decide) (by omega) (by show IntKind.i64.wrap (3-((1:Nat):Int))=2;decide) rfl (by show¬9223372036854775807<2+1;decide) (BR [48] 48 (Ps.dgt n) (by decide)) w n1 n2 n3 IV
  ·have e:Lib.decDigits n=[Ps.dgt (n/10%10),Ps.dgt (n%10)]:=by
    show Ps.dec n=_
    rw[Ps.kG h10,Ps.dX (by omega),show n/10%10=n/10 from by omega]
    rfl
   have e0:Ps.dec (n/100)=[48]:=by rw[show n/100=0 from by omega];exact Ps.dX (by omega)
   rw[e]at n3
   rw[e0]
   exact uP n _ _ _ _ _ _ 1 (by show((2:Nat):Int)<3;decide) (by omega) (by show IntKind.i64.wrap (3-((2:Nat):Int))=1;decide) rfl (by show¬9223372036854775807<1+2;decide) (BR [48] (Ps.dgt (n/10%10)) (Ps.dgt (n%10)) (by decide)) w n1 n2 n3 Fz
 ·have e:Lib.decDigits n=Ps.dec (n/100)++[Ps.dgt (n/10%10),Ps.dgt (n%10)]:=by
   show Ps.dec n=_
   rw[Ps.kG (by omega),Ps.kG (n:=n/10) (by omega),show n/10/10=n/100 from by omega,List.append_assoc]
   rfl
  have hl:=Ps.iH 17 (n/100) (by omega)
  have hne:=(Ps.df (n/100)).2.1
  have hpos:0<(Ps.dec (n/100)).length:=List.length_pos_iff.2 hne
  rw[e]at n3
  exact GJ n _ _ _ _ (by show¬(((Ps.dec (n/100)++[Ps.dgt (n/10%10),Ps.dgt (n%10)]).length:Nat):Int)<3;rw[List.length_append,List.length_cons,List.length_singleton];omega) (by omega) (BR _ _ _ (by omega)) w n1 n2 n3
theorem Sn (n:Nat)(hn:n<=1000000000000000)(w:World)(htab:zN w):Calls Tryz.prog 121 #[.int .i64 n] w λe w'=>e=.returned (.string (Ps.bO n))/\Below w.heap.size w w':=by
 have n1:=MH n hn w htab
 generalize Ps.bO n=x at n1⊢
 clear htab hn
 go_enter Tryz.func121,Tryz.ntmps121
 go_wp2_with fail
 refine n1.mono ?_
 rintro e w1 ⟨rfl,hb⟩
 clear n1
 go_wp2_with fail
 go_ret
 exact⟨rfl,hb⟩
end Go.Proofs.YtnjjeapcalkmaaaGreatDoor
namespace Go.Proofs.YtnjjeapcalkmaaaGreatDoor.Ps
open Go
theorem sP (f:Nat->Int)(n:Int)(h0:f 0<=n):∀K:Nat,n<f K->∃k,k<K/\f k<=n/\n<f (k+1)
 |0,h=>by omega
 |K+1,h=>by
  by_cases h2:n<f K
  ·obtain⟨k,h3,h4⟩:=sP f n h0 K h2
   exact⟨k,by omega,h4⟩
  ·exact⟨K,by omega,by omega,h⟩
theorem xU (p:Int)(h:0<=p):aj p+365<=aj (p+1)/\aj (p+1)<=aj p+366:=by unfold aj;omega
theorem lJ (p:Nat):∀q:Nat,p<=q->aj p<=aj q
 |0,h=>by rw[show p=0 from by omega];exact Int.le_refl _
 |q+1,h=>by
  by_cases hq:p=q+1
  ·rw[hq];exact Int.le_refl _
  ·have h1:=lJ p q (by omega)
   have h2:=xU (q:Int) (by omega)
   rw[Int.natCast_add_one]
   omega
theorem kW (y:Int)(p:Nat):∀q:Nat,p<=q->bQ y p<=bQ y q
 |0,h=>by rw[show p=0 from by omega];exact Int.le_refl _
 |q+1,h=>by
  by_cases hq:p=q+1
  ·rw[hq];exact Int.le_refl _
  ·have h1:=kW y p q (by omega)
   have h2:=pR y ((q:Int)+1)
   show bQ y p<=bQ y q+dim y ((q:Int)+1)
   omega
theorem jN (p:Nat)(hp:p<200):bQ (2000+(p:Int)) 12=aj ((p:Int)+1)-aj p:=by
 have e:∀m:Int,1<=m->m<=12->dim (2000+(p:Int)) m=if m=2 then(if kN (2000+(p:Int))then 29 else 28)else if m=4\/m=6\/m=9\/m=11 then 30 else 31:=λm h1 h2=>by
  unfold dim
  rw[if_neg (by omega)]
 have h1:=rU p
 have h2:=rU (p+1)
 have h3:Gw (p+1)=Gw p+365+(if kN (2000+(p:Int))then 1 else 0):=rfl
 have e12:bQ (2000+(p:Int)) 12=365+(if kN (2000+(p:Int))then 1 else 0):=by
  simp only[bQ]
  rw[e _ (by decide) (by decide),e _ (by decide) (by decide),e _ (by decide) (by decide),e _ (by decide) (by decide),e _ (by decide) (by decide),e _ (by decide) (by decide),e _ (by decide) (by decide),e _ (by decide) (by decide),e _ (by decide) (by decide),e _ (by decide) (by decide),e _ (by decide) (by decide),e _ (by decide) (by decide)]
  cases kN (2000+(p:Int))<;>decide
 rw[Int.natCast_add_one]at h2
 omega
def IsC (n:Int)(y m d:Nat):Prop:=2000<=y/\y<=2199/\1<=m/\m<=12/\1<=d/\(d:Int)<=dim y m/\n=aj ((y:Int)-2000)+bQ y (m-1)+d-1
theorem IsC.civil {n:Int}{y m d:Nat}(h:IsC n y m d):civil y m d=(n,0):=by
 obtain⟨h1,h2,h3,h4,h5,h6,h7⟩:=h
 unfold Ps.civil
 rw[if_neg (by omega),h7,show((m:Int)-1).toNat=m-1 from by omega]
 refine Prod.ext ?_ rfl
 show _+_-1+_=_
 omega
theorem IsC.d31 {n:Int}{y m d:Nat}(h:IsC n y m d):d<=31:=by
 obtain⟨h1,h2,h3,h4,h5,h6,h7⟩:=h
 have:=pR (y:Int) m
 omega
theorem IsC.bounds {n:Int}{y m d:Nat}(h:IsC n y m d):aj ((y-2000:Nat):Int)<=n/\n<aj ((y-2000+1:Nat):Int)/\bQ y (m-1)<=n-aj ((y-2000:Nat):Int)/\n-aj ((y-2000:Nat):Int)<bQ y (m-1+1):=by
 obtain⟨h1,h2,h3,h4,h5,h6,h7⟩:=h
 obtain⟨p,rfl⟩:∃p:Nat,y=2000+p:=⟨y-2000,by omega⟩
 have e1:(((2000+p:Nat):Int))-2000=(p:Int):=by omega
 have e2:2000+p-2000=p:=by omega
 rw[e1]at h7
 rw[e2]
 have hm0:=vS ((2000+p:Nat):Int) (m-1)
 have hmm:bQ ((2000+p:Nat):Int) (m-1+1)=bQ ((2000+p:Nat):Int) (m-1)+dim ((2000+p:Nat):Int) m:=by
  show _+dim _ (((m-1:Nat):Int)+1)=_
  rw[show(((m-1:Nat):Int)+1)=(m:Int)from by omega]
 have h12:=kW ((2000+p:Nat):Int) (m-1+1) 12 (by omega)
 have hy:=jN p (by omega)
 have e3:(2000+(p:Int))=((2000+p:Nat):Int):=by omega
 rw[e3]at hy
 rw[Int.natCast_add_one]
 omega
theorem IsC.unique {n:Int}{y m d y' m' d':Nat}(h:IsC n y m d)(h':IsC n y' m' d'):y=y'/\m=m'/\d=d':=by
 obtain⟨b1,b2,b3,b4⟩:=h.bounds
 obtain⟨c1,c2,c3,c4⟩:=h'.bounds
 obtain⟨h1,h2,h3,h4,h5,h6,h7⟩:=h
 obtain⟨g1,g2,g3,g4,g5,g6,g7⟩:=h'
 have ey:y=y':=by
  rcases Nat.lt_trichotomy y y' with hl|hl|hl
  ·have:=lJ (y-2000+1) (y'-2000) (by omega);omega
  ·exact hl
  ·have:=lJ (y'-2000+1) (y-2000) (by omega);omega
 subst ey
 have em:m=m':=by
  rcases Nat.lt_trichotomy m m' with hl|hl|hl
  ·have:=kW (y:Int) (m-1+1) (m'-1) (by omega);omega
  ·exact hl
  ·have:=kW (y:Int) (m'-1+1) (m-1) (by omega);omega
 subst em
 exact⟨rfl,rfl,by omega⟩
theorem IsC.of {n:Int}{p q:Nat}(h0:0<=n)(hn:n<=bP)(h1:aj p<=n)(h2:n<aj ((p:Int)+1))(h3:bQ (2000+p:Nat) q<=n-aj p)(h4:n-aj p<bQ (2000+p:Nat) (q+1)):
 p<200/\q<12/\IsC n (2000+p) (q+1) (n-aj p-bQ (2000+p:Nat) q+1).toNat:=by
 have hp:p<200:=by
  rcases Nat.lt_or_ge p 200 with h|h
  ·exact h
  ·have:=lJ 200 p h
   have e:aj ((200:Nat):Int)=73049:=by decide
   unfold bP at hn
   omega
 have hq:q<12:=by
  rcases Nat.lt_or_ge q 12 with h|h
  ·exact h
  ·have:=kW ((2000+p:Nat):Int) 12 q h
   have hy:=jN p hp
   have e3:(2000+(p:Int))=((2000+p:Nat):Int):=by omega
   rw[e3]at hy
   omega
 have hmm:bQ ((2000+p:Nat):Int) (q+1)=bQ ((2000+p:Nat):Int) q+dim ((2000+p:Nat):Int) ((q+1:Nat):Int):=by
  show _+dim _ ((q:Int)+1)=_
  rw[Int.natCast_add_one]
 refine⟨hp,hq,by omega,by omega,by omega,by omega,by omega,by omega,?_⟩
 rw[show(((2000+p:Nat):Int))-2000=(p:Int)from by omega,Nat.add_sub_cancel]
 omega
theorem IsC.exists {n:Int}(h0:0<=n)(hn:n<=bP):∃y m d,IsC n y m d:=by
 have e0:aj ((0:Nat):Int)=0:=by decide
 have e200:aj ((200:Nat):Int)=73049:=by decide
 obtain⟨p,hp,h1,h2⟩:=sP (λk=>aj (k:Int)) n (by show aj ((0:Nat):Int)<=n;omega) 200 (by show n<aj ((200:Nat):Int);unfold bP at hn;omega)
 have hy:=jN p hp
 have e3:(2000+(p:Int))=((2000+p:Nat):Int):=by omega
 rw[e3]at hy
 have h2:n<aj ((p:Int)+1):=by rw[<-Int.natCast_add_one];exact h2
 obtain⟨q,hq,h3,h4⟩:=sP (λk=>bQ ((2000+p:Nat):Int) k) (n-aj p) (by show(0:Int)<=_;have h1:aj (p:Int)<=n:=h1;omega) 12 (by show _<bQ _ 12;omega)
 exact⟨_,_,_,(IsC.of h0 hn h1 h2 h3 h4).2.2⟩
def d2 (k:Nat):Bs:=[dgt (k/10%10),dgt (k%10)]
def d4 (k:Nat):Bs:=[dgt (k/1000%10),dgt (k/100%10),dgt (k/10%10),dgt (k%10)]
def civB (y m d:Nat):Bs:=d4 y++(45::d2 m++(45::d2 d))
def uj (y m d:Nat):ByteArray:=⟨(civB y m d).toArray⟩
open Classical in
noncomputable def ae (n:Int):ByteArray:=if h:∃t,∃y m d,IsC n y m d/\t=uj y m d then Classical.choose h else⟨#[]⟩
theorem sG {n:Int}{y m d:Nat}(h:IsC n y m d):ae n=uj y m d:=by
 have hx:∃t,∃y m d,IsC n y m d/\t=uj y m d:=⟨_,_,_,_,h,rfl⟩
 unfold ae
 rw[dif_pos hx]
 obtain⟨y',m',d',h1,h2⟩:=Classical.choose_spec hx
 obtain⟨rfl,rfl,rfl⟩:=h.unique h1
 exact h2
theorem PL (n:Nat)(h:n<10):Lx.digit ((dgt n).toNat:Int)=true:=by
 rw[fH n h]
 unfold Lx.digit
 simp;omega
theorem J5 {y m d:Nat}(hy:y<10000)(hm:m<100)(hd:d<100):gL (uj y m d)=civil y m d/\Lx.aD (uj y m d)=(4,0)/\Lx.iZ (uj y m d).data.toList=true/\(uj y m d).data.toList≠[]/\(uj y m d).size=10:=by
 have e:(uj y m d).data.toList=[dgt (y/1000%10),dgt (y/100%10),dgt (y/10%10),dgt (y%10),45,dgt (m/10%10),dgt (m%10),45,dgt (d/10%10),dgt (d%10)]:=rfl
 have es:(uj y m d).size=10:=rfl
 have t:∀k:Nat,(dgt (k%10)).toNat=48+k%10:=λk=>fH _ (by omega)
 have g:∀k:Nat,Lx.digit ((dgt (k%10)).toNat:Int)=true:=λk=>PL _ (by omega)
 have hr:Lx.kM (uj y m d).data.toList=true:=by
  rw[e,Lx.nZ]
  exact⟨g _,g _,g _,g _,rfl,g _,g _,rfl,g _,g _⟩
 refine⟨?_,?_,?_,by rw[e];simp,es⟩
 ·unfold gL
  have hf:fits form (uj y m d).data.toList=true:=by
   rw[e]
   simp[fits,form,fit,g]
  rw[if_pos hf,e]
  have n4:num ([dgt (y/1000%10),dgt (y/100%10),dgt (y/10%10),dgt (y%10),45,dgt (m/10%10),dgt (m%10),45,dgt (d/10%10),dgt (d%10)].take 4)=y:=by
   simp only[List.take_succ_cons,List.take_zero,num,List.foldl_cons,List.foldl_nil,t]
   omega
  have n2:num (([dgt (y/1000%10),dgt (y/100%10),dgt (y/10%10),dgt (y%10),45,dgt (m/10%10),dgt (m%10),45,dgt (d/10%10),dgt (d%10)].drop 5).take 2)=m:=by
   simp only[List.drop_succ_cons,List.drop_zero,List.take_succ_cons,List.take_zero,num,List.foldl_cons,List.foldl_nil,t]
   omega
  have n1:num (([dgt (y/1000%10),dgt (y/100%10),dgt (y/10%10),dgt (y%10),45,dgt (m/10%10),dgt (m%10),45,dgt (d/10%10),dgt (d%10)].drop 8).take 2)=d:=by
   simp only[List.drop_succ_cons,List.drop_zero,List.take_succ_cons,List.take_nil,List.take_zero,num,List.foldl_cons,List.foldl_nil,t]
   omega
  rw[n4,n2,n1]
 ·unfold Lx.aD
  rw[es,if_neg (by omega),Lx.qJ,hr]
  rfl
 ·rw[e]
  unfold Lx.iZ
  have b:∀k:Nat,(!Lx.blank ((dgt (k%10)).toNat:Int))=true:=λk=>by
   rw[t]
   unfold Lx.blank
   simp;omega
  simp only[List.all_cons,List.all_nil,b,Bool.and_true,Bool.true_and]
  decide
theorem jY {n:Int}(h0:0<=n)(hn:n<=bP):gL (ae n)=(n,0)/\Lx.aD (ae n)=(4,0)/\Lx.iZ (ae n).data.toList=true/\(ae n).data.toList≠[]/\(ae n).size=10:=by
 obtain⟨y,m,d,h⟩:=IsC.exists h0 hn
 have h31:=h.d31
 have hc:=h.civil
 rw[sG h]
 obtain⟨h1,h2,h3,h4,_⟩:=h
 have:=J5 (y:=y) (m:=m) (d:=d) (by omega) (by omega) (by omega)
 rw[hc]at this
 exact this
end Go.Proofs.YtnjjeapcalkmaaaGreatDoor.Ps
namespace Go.Proofs.YtnjjeapcalkmaaaGreatDoor.Ord
open Go
section
variable {P : Program} {ops : Array Oper} {Q : Exit → Act → World → Prop}
def Closed (ops:Array Oper)(dn:Nat->Bool):Prop:=∀(j:Nat) (oj:Oper),ops[j]? =some oj->dn j=true->∀e∈oj.after,Region.binds .any e=true->dn e.on=true
theorem KO (hd:dJ ops=true)(I:(Nat->Bool)->Act->World->Prop)
 (hstep:∀dn i o a w,ops[i]? =some o->dn i=false->(∀e∈o.after,Region.binds .any e=true->dn e.on=true)->Closed ops dn->I dn a w->wpOp P ops Q i (λa' w'=>I (λj=>dn j||j==i) a' w') a w)
 (hend:∀dn a w,(∀i,i<ops.size->dn i=true)->I dn a w->Q .normal a w):
 ∀(fuel:Nat) (listed:Array Bool) (a:Act) (w:World),listed.size=ops.size->Closed ops (λj=>listed.getD j false)->(List.range ops.size).countP (λi=>!listed.getD i true)<=fuel->I (λj=>listed.getD j false) a w->wpAny P .any ops Q fuel listed a w:=by
 have hall:∀(listed:Array Bool),listed.size=ops.size->Region.ready .any ops listed=[]->∀i,i<ops.size->listed.getD i false=true:=by
  intro listed hsz hr i
  induction i using Nat.strongRecOn with
  |ind i ih=>
   intro hi
   obtain⟨o,ho⟩:∃o,ops[i]? =some o:=⟨_,Array.getElem?_eq_getElem hi⟩
   cases hb:listed.getD i false with
   |true=>rfl
   |false=>
    exfalso
    have hmem:i∈Region.ready .any ops listed:=by
     rw[mem_ready]
     refine⟨?_,o,ho,λe he hbd=>?_⟩
     ·have:i<listed.size:=by omega
      simp[this]at hb⊢
      exact hb
     ·have hlt:=dP hd ho he hbd
      exact ih e.on hlt (by omega)
    rw[hr]at hmem
    cases hmem
 intro fuel
 induction fuel with
 |zero=>
  intro listed a w hsz FY hc hI
  have hr:Region.ready .any ops listed=[]:=by
   cases hr:Region.ready .any ops listed with
   |nil=>rfl
   |cons x xs=>
    exfalso
    have hx:x∈Region.ready .any ops listed:=by rw[hr];exact List.mem_cons_self
    obtain⟨h1,o,ho,_⟩:=mem_ready.1 hx
    have hlt:x<ops.size:=(Array.getElem?_eq_some_iff.1 ho).1
    have:0<(List.range ops.size).countP (λi=>!listed.getD i true):=List.countP_pos_iff.2 ⟨x,List.mem_range.2 hlt,by rw[h1];rfl⟩
    omega
  exact⟨hr,hend _ a w (hall listed hsz hr) hI⟩
 |succ fuel ih=>
  intro listed a w hsz FY hc hI
  refine⟨λhr=>hend _ a w (hall listed hsz hr) hI,λi hi=>?_⟩
  obtain⟨hun,o,ho,hafter⟩:=mem_ready.1 hi
  have hlt:i<ops.size:=(Array.getElem?_eq_some_iff.1 ho).1
  have hlt':i<listed.size:=by omega
  have T9:listed.getD i false=false:=by
   simp[hlt']at hun⊢
   exact hun
  have uo:(λj=>(listed.setIfInBounds i true).getD j false)=(λj=>listed.getD j false||j==i):=by
   funext j
   by_cases hik:i=j
   ·subst hik
    simp[hlt']
   ·rw[getD_set_ne false hik]
    have:(j==i)=false:=by rw[beq_eq_false_iff_ne];exactλe=>hik e.symm
    rw[this,Bool.or_false]
  refine wpOp_mono (λa' w' hI'=>ih (listed.setIfInBounds i true) a' w' (by simpa using hsz) ?_ ?_ (by rw[uo];exact hI')) (hstep _ i o a w ho T9 hafter FY hI)
  ·rw[uo]
   intro j oj hj hl e he hb
   have hl2:(listed.getD j false||j==i)=true:=hl
   rw[Bool.or_eq_true]at hl2
   show(listed.getD e.on false||e.on==i)=true
   rw[Bool.or_eq_true]
   left
   rcases hl2 with h1|h1
   ·exact FY j oj hj h1 e he hb
   ·obtain rfl:j=i:=by simpa using h1
    rw[ho]at hj
    cases hj
    exact hafter e he hb
  ·have:=iK (p:=λi=>!listed.getD i true) (q:=λj=>!(listed.setIfInBounds i true).getD j true) (λj hj=>by
    by_cases hij:i=j
    ·subst hij;simp only[hun];rfl
    ·rw[getD_set_ne true hij]at hj;exact hj) (List.range ops.size) i (List.mem_range.2 hlt) (by simp only[hun];rfl) (by
     simp[hlt'])
   omega
theorem yj {id:Nat}{dr:Bool}{a:Act}{w:World}(hm:P.follows .mixedOrders=true)(hd:dJ ops=true)(I:(Nat->Bool)->Act->World->Prop)
 (h0:I (λ_=>false) a (if dr=true then w.drew else w))
 (hstep:∀dn i o a w,ops[i]? =some o->dn i=false->(∀e∈o.after,Region.binds .any e=true->dn e.on=true)->Closed ops dn->I dn a w->wpOp P ops Q i (λa' w'=>I (λj=>dn j||j==i) a' w') a w)
 (hend:∀dn a w,(∀i,i<ops.size->dn i=true)->I dn a w->Q .normal a w):(Code.region id ops dr).wp P Q a w:=by
 cases dr with
 |true=>
  refine wp_region_any hm (KO hd I hstep hend ops.size _ a _ (by simp) ?_ ?_ ?_)
  ·intro j oj hj hl
   have:(Array.replicate ops.size false).getD j false=true:=hl
   exfalso
   by_cases hk:j<ops.size
   ·simp[hk]at this
   ·simp[hk]at this
  ·have:=List.countP_le_length (p:=λi=>!(Array.replicate ops.size false).getD i true) (l:=List.range ops.size)
   simpa using this
  ·have e:(λj=>(Array.replicate ops.size false).getD j false)=(λ_=>false):=by
    funext j
    by_cases hk:j<ops.size
    ·simp[hk]
    ·simp[hk]
   rw[e]
   exact h0
 |false=>
  have hgo:∀(m k:Nat) (a':Act) (w':World),k+m=ops.size->I (λj=>decide (j<k)) a' w'->wpOps P ops Q (List.range' k (ops.size-k)) a' w':=by
   intro m
   induction m with
   |zero=>
    intro k a' w' hk hI
    have:ops.size-k=0:=by omega
    rw[this]
    show Q .normal a' w'
    exact hend _ a' w' (λi hi=>by simp;omega) hI
   |succ m ih=>
    intro k a' w' hk hI
    obtain⟨o,ho⟩:∃o,ops[k]? =some o:=⟨_,Array.getElem?_eq_getElem (by omega)⟩
    rw[show ops.size-k=(ops.size-(k+1))+1 from by omega,List.range'_succ,wpOps_cons]
    refine wpOp_mono (λa2 w2 h2=>ih (k+1) a2 w2 (by omega) ?_) (hstep _ k o a' w' ho (by simp) (λe he hb=>by have:=dP hd ho he hb;simpa using this) (λj oj hj hl e he hb=>by
     have h1:=dP hd hj he hb
     have h2:j<k:=by simpa using hl
     simp;omega) hI)
    have e:(λj=>decide (j<k+1))=(λj=>decide (j<k)||j==k):=by
     funext j
     rw[Bool.eq_iff_iff]
     simp only[decide_eq_true_eq,Bool.or_eq_true,beq_iff_eq]
     omega
    rw[e]
    exact h2
  refine wp_region ?_
  have e:(λj=>decide (j<0))=(λ_=>false):=by funext j;simp
  have:=hgo ops.size 0 a w (by omega) (by rw[e];exact h0)
  rw[Nat.sub_zero,<-List.range_eq_range']at this
  exact this
theorem looks_at (hd:dJ ops=true){i:Nat}{o:Oper}{dn:Nat->Bool}(hi:ops[i]? =some o)(hu:dn i=false)(ha:∀e∈o.after,Region.binds .any e=true->dn e.on=true)(hC:Closed ops dn){d:Tmp}(hl:d∈o.looksAt ops):
 (∃(j:Nat) (oj:Oper),j<i/\ops[j]? =some oj/\oj.dst=some d/\dn j=true)\/((∀(j:Nat) (oj:Oper),ops[j]? =some oj->dn j=true->oj.dst≠some d)/\∀(j:Nat) (oj:Oper),j<i->ops[j]? =some oj->oj.dst≠some d):=by
 by_cases h:∃(j:Nat) (oj:Oper),j<i/\ops[j]? =some oj/\oj.dst=some d
 ·obtain⟨j,oj,hji,hj,hjd⟩:=h
  rcases(qN hd hi hj (by omega) hjd).2 hl with⟨e,he,hb,rfl⟩|⟨h1,_⟩
  ·exact .inl ⟨_,oj,hji,hj,hjd,ha e he hb⟩
  ·omega
 ·right
  refine⟨λj oj hj hdn hjd=>?_,λj oj hji hj hjd=>h ⟨j,oj,hji,hj,hjd⟩⟩
  by_cases hji:j=i
  ·subst hji;rw[hu]at hdn;cases hdn
  rcases(qN hd hi hj hji hjd).2 hl with⟨e,he,hb,rfl⟩|⟨h1,e,he,hb,h2⟩
  ·exact h ⟨_,oj,dP hd hi he hb,hj,hjd⟩
  ·have:=hC j oj hj hdn e he hb
   rw[h2,hu]at this
   cases this
def anc (ops:Array Oper)(c:Nat):List Nat:=match ops[c]? with
 |none=>[]
 |some o=>(List.range c).reverse.foldl (λR j=>if R.contains j then(match ops[j]? with
  |some oj=>(oj.after.toList.filter λe=>Region.binds .any e).map (·.on)++R
  |none=>R)else R) ((o.after.toList.filter λe=>Region.binds .any e).map (·.on))
theorem EG {dn:Nat->Bool}(hC:Closed ops dn){c:Nat}{o:Oper}(hc:ops[c]? =some o)(ha:∀e∈o.after,Region.binds .any e=true->dn e.on=true):∀i∈anc ops c,dn i=true:=by
 have key:∀(l:List Nat) (R:List Nat),(∀i∈R,dn i=true)->∀i∈l.foldl (λR j=>if R.contains j then(match ops[j]? with
  |some oj=>(oj.after.toList.filter λe=>Region.binds .any e).map (·.on)++R
  |none=>R)else R) R,dn i=true:=by
  intro l
  induction l with
  |nil=>exactλR h=>h
  |cons j l ih=>
   intro R hR
   rw[List.foldl_cons]
   refine ih _ ?_
   split
   ·rename_i hj
    have hjd:dn j=true:=hR j (by simpa using hj)
    cases hoj:ops[j]? with
    |none=>exact hR
    |some oj=>
     intro i hi
     rcases List.mem_append.1 hi with hi|hi
     ·obtain⟨e,he,rfl⟩:=List.mem_map.1 hi
      obtain⟨he,hb⟩:=List.mem_filter.1 he
      exact hC j oj hoj hjd e (Array.mem_toList_iff.1 he) hb
     ·exact hR i hi
   ·exact hR
 unfold anc
 rw[hc]
 refine key _ _ λi hi=>?_
 obtain⟨e,he,rfl⟩:=List.mem_map.1 hi
 obtain⟨he,hb⟩:=List.mem_filter.1 he
 exact ha e (Array.mem_toList_iff.1 he) hb
end
end Go.Proofs.YtnjjeapcalkmaaaGreatDoor.Ord
namespace Go.Proofs.YtnjjeapcalkmaaaGreatDoor.Se
open Go Go.RowKit Go.Proofs.YtnjjeapcalkmaaaGreatDoor Go.Proofs.YtnjjeapcalkmaaaGreatDoor.Ord
def lim (n:Nat)(b:ByteArray):ByteArray:=if b.size<=n then b else⟨#[]⟩
theorem OT (n:Nat)(b:ByteArray):(lim n b).size<=n:=by
 unfold lim
 split
 ·assumption
 ·exact Nat.zero_le _
theorem bW {n:Nat}{b:ByteArray}(h:b.size<=n):lim n b=b:=if_pos h
abbrev SB:=Nat×ByteArray
def st (x:SB):ByteArray:=lim x.1 x.2
theorem vK (x:SB):(st x).size<=x.1:=OT _ _
def cat (x y:SB):SB:=(x.1+y.1,st x++st y)
theorem eO (x y:SB):st (cat x y)=st x++st y:=bW (by
 have h1:=vK x
 have h2:=vK y
 show(st x++st y).size<=x.1+y.1
 rw[ByteArray.size_append];omega)
theorem st_lit (b:ByteArray):st (b.size,b)=b:=bW (Nat.le_refl _)
inductive PV where
 |v (x:Value)
 |s (x:SB)
 |sl (l:List SB)
 |pe (x:SB)
 |p (k j:Nat)
 |by_ (l:List UInt8)
 |u (c:UInt8)
 |a (k j n:Nat)
 |r (k j:Nat)
def PV.mem:PV->Bool
 | .sl _=>true
 | .pe _=>true
 | .by_ _=>true
 |_=>false
structure Mem where
 B:Nat
 W:World
 fix:List Nat:=[]
 blk:List (Nat×Nat):=[]
 offs:TypeId->Nat->Option Nat:=λ_ _=>none
 load:TypeId->Nat->Nat->Option PV:=λ_ _ _=>none
 cell:Nat->Nat->Value:=λ_ _=>.bool false
 call:FuncId->List PV->Option (PV×Bool×Option Prop):=λ_ _=>none
 hint:Nat->Option Bool:=λ_=>none
 loops:Nat:=0
 oth:Oper->(Operand->Option PV)->Option PV:=λ_ _=>none
 tst:Nat->Option Bool:=λ_=>none
 big:Bool:=false
variable {M : Mem}
def Mem.ptr (M:Mem)(k j:Nat):Value:=.pointer (some ⟨(M.blk.getD k (0,0)).1,(M.blk.getD k (0,0)).2+j,none⟩)
def prot (M:Mem)(g:Nat):Prop:=g<M.B\/g∈M.fix
structure Sw (M:Mem)(w:World):Prop where
 os:w.os=M.W.os
 tape:w.tape=M.W.tape
 output:w.output=M.W.output
 size:M.W.heap.size<=w.heap.size
 block:∀g,prot M g->w.heap[g]? =M.W.heap[g]?
structure Wf (M:Mem):Prop where
 B:M.B<=M.W.heap.size
 fix:∀g∈M.fix,g<M.W.heap.size
def Nq (M:Mem)(v:Value)(l:List ByteArray)(w:World):Prop:=w.ownsRow M.B 9 1 v l.length (l.map .string)/\∀g,v.ownBlock=some g->g∉M.fix
def Oz (M:Mem)(v:Value)(l:List UInt8)(w:World):Prop:=w.ownsRow M.B 5 1 v l.length (l.map λc=>.int .u8 (c.toNat:Int))/\∀g,v.ownBlock=some g->g∉M.fix
def Den (M:Mem):PV->Value->World->Prop
 | .v x,y,_=>y=x
 | .s x,y,_=>y=.string (st x)
 | .sl l,y,w=>Nq M y (l.map st) w
 | .pe x,y,w=>∃g j,y=.pointer (some ⟨g,j,none⟩)/\w.cell? ⟨g,j,none⟩=some (.string (st x))
 | .p k j,y,_=>y=M.ptr k j
 | .by_ l,y,w=>Oz M y l w
 | .u c,y,_=>y=.int .u8 (c.toNat:Int)
 | .a k j n,y,_=>y=.agg ((List.range n).map λi=>M.cell k (j+i)).toArray
 | .r k j,y,_=>y=M.cell k j
theorem own_below {w w':World}{B sz n:Nat}{t:TypeId}{v:Value}{xs:List Value}(h:w.ownsRow B t sz v n xs)(hb:Below w.heap.size w w'):w'.ownsRow B t sz v n xs:=gF h λg hg=>by
 refine hb.block g ?_
 rcases h.2 with⟨hn,_⟩|⟨g',cap,cur,hv,_,hh,_⟩
 ·rw[hn]at hg;cases hg
 ·have:g=g':=by rw[hv]at hg;simp[Value.ownBlock]at hg;exact hg.symm
  subst this
  exact(Array.getElem?_eq_some_iff.1 hh).1
theorem Den.below {u:PV}{y:Value}{w w':World}(h:Den M u y w)(hb:Below w.heap.size w w'):Den M u y w':=by
 cases u with
 |v x=>exact h
 |s x=>exact h
 |p k j=>exact h
 |u c=>exact h
 |a k j n=>exact h
 |r k j=>exact h
 |sl l=>exact⟨own_below h.1 hb,h.2⟩
 |by_ l=>exact⟨own_below h.1 hb,h.2⟩
 |pe x=>
  obtain⟨g,j,h1,h2⟩:=h
  exact⟨g,j,h1,(hb.cell (p:=⟨g,j,none⟩) (uT h2)).trans h2⟩
theorem Den.any {u:PV}{y:Value}{w w':World}(hu:u.mem=false)(h:Den M u y w):Den M u y w':=by
 cases u with
 |v x=>exact h
 |s x=>exact h
 |p k j=>exact h
 |u c=>exact h
 |a k j n=>exact h
 |r k j=>exact h
 |sl l=>cases hu
 |by_ l=>cases hu
 |pe x=>cases hu
theorem Den.drew {u:PV}{y:Value}{w:World}(h:Den M u y w):Den M u y w.drew:=h.below ((Below.refl _ _).drew)
theorem Sw.below {w w':World}(hM:Wf M)(h:Sw M w)(hb:Below w.heap.size w w'):Sw M w':=
 ⟨hb.os.trans h.os,hb.tape.trans h.tape,hb.output.trans h.output,Nat.le_trans h.size hb.size,λg hg=>(hb.block g (by
  have:=h.size
  rcases hg with hg|hg
  ·have:=hM.B;omega
  ·have:=hM.fix g hg;omega)).trans (h.block g hg)⟩
theorem Sw.drew {w:World}(h:Sw M w):Sw M w.drew:=⟨h.os,h.tape,h.output,h.size,h.block⟩
theorem Sw.turn {w w':World}(h:Sw M w)(hb:Below M.B w w')(hf:∀g∈M.fix,w'.heap[g]? =w.heap[g]?):Sw M w':=
 ⟨hb.os.trans h.os,hb.tape.trans h.tape,hb.output.trans h.output,Nat.le_trans h.size hb.size,λg hg=>by
  refine Eq.trans ?_ (h.block g hg)
  rcases hg with hg|hg
  ·exact hb.block g hg
  ·exact hf g hg⟩
theorem Sw.start (M:Mem):Sw M M.W:=⟨rfl,rfl,rfl,Nat.le_refl _,λ_ _=>rfl⟩
theorem Sw.to {w:World}(h:Sw M w):Below M.B M.W w:=⟨h.os,h.tape,h.output,h.size,λg hg=>h.block g (.inl hg)⟩
def il (M:Mem):List PV->List Value->World->Prop
 |[],[],_=>True
 |u::us,y::ys,w=>Den M u y w/\il M us ys w
 |_,_,_=>False
structure Ok (P:Program)(M:Mem):Prop where
 wf:Wf M
 offs:∀t f d,M.offs t f=some d->∀b j w,(Instr.fieldAt t (.pointer (some ⟨b,j,none⟩)) f).run P w=.ok (.pointer (some ⟨b,j+d,none⟩)) w
 load:∀t k j u,M.load t k j=some u->∀w,Sw M w->∃v,(Instr.loadAt t (M.ptr k j)).run P w=.ok v w/\Den M u v w
 call:∀f us u c b,M.call f us=some (u,c,b)->(∀p,b=some p->p)->(∀args w,(callFunc f args).run P w=.ok (.enter f args) w)/\∀(vals:List Value) w,Sw M w->il M us vals w->Calls P f vals.toArray w λe w'=>∃v,e=.returned v/\Den M u v w'/\Sw M w'/\(c=false->Below w.heap.size w w')
 oth:∀o ov u,M.oth o ov=some u->∀(ρ:Operand->Value) w,(∀f,ρ (.func f)=.func (.func f) #[] #[])->Sw M w->(∀x p,ov x=some p->Den M p (ρ x) w)->∃v,(execOp ρ o).run P w=.ok (.value v) w/\Den M u v w
structure Ent where
 dst:Option Nat
 val:PV
 cons:Bool
 uses:Bool
 skip:Bool:=false
 ob:Option Prop:=none
def find (t:Nat):List Ent->Nat->Option (Nat×Ent)
 |[],_=>none
 |e::l,i=>if e.dst=some t then some (i,e)else find t l (i+1)
def look (K:List (Nat×PV))(t:Nat):Option PV:=match K with
 |[]=>none
 |(s,v)::K=>if s=t then some v else look K t
def l5:List Ent->Nat->Nat->Nat
 |[],_,a=>a
 |e::l,k,a=>l5 l (k+1) (if e.cons=true then k+1 else a)
def cst:Value->PV
 | .string b=>.s (b.size,b)
 | .slice none 0 0=>.sl []
 | .int .u8 x=>if 0<=x/\x<256 then .u (UInt8.ofNat x.toNat)else .v (.int .u8 x)
 |x=>.v x
def opT (K:List (Nat×PV))(rs:List Ent)(t:Nat):Option PV:=match find t rs 0 with
 |some (i,e)=>if e.val.mem=true then(if l5 rs 0 0<=i+1 then some e.val else none)else some e.val
 |none=>match look K t with
  |some u=>if u.mem=true then(if l5 rs 0 0=0 then some u else none)else some u
  |none=>none
def opd (K:List (Nat×PV))(rs:List Ent):Operand->Option PV
 | .const v=>some (cst v)
 | .tmp t=>opT K rs t
 |_=>none
def xD (ov:Operand->Option PV):List Operand->Option (List PV)
 |[]=>some []
 |x::l=>match ov x,xD ov l with
  |some a,some vs=>some (a::vs)
  |_,_=>none
def strs:List PV->Option (List SB)
 |[]=>some []
 | .s x::l=>match strs l with
   |some r=>some (x::r)
   |none=>none
 |_::_=>none
def Tg:List PV->Option (List UInt8)
 |[]=>some []
 | .u c::l=>match Tg l with
   |some r=>some (c::r)
   |none=>none
 |_::_=>none
structure Res where
 val:PV
 cons:Bool:=false
 uses:Bool:=false
 ob:Option Prop:=none
def bin2 (op:BinOp)(t:TypeId):Value->Value->Option Value
 | .int .i64 a,.int .i64 b=>if t=2\/t=3 then(match op with
   | .quo=>if b=0 then none else some (.int .i64 (IntKind.i64.wrap (a.tdiv b)))
   | .rem=>if b=0 then none else some (.int .i64 (a.tmod b))
   |_=>none)else none
 |_,_=>none
def binP (op:BinOp)(t:TypeId):PV->PV->Option PV
 | .s x,.s y=>if t=9 then(match op with
   | .add=>if x.1+y.1<=4611686018427387904 then some (.s (cat x y))else none
   | .eql=>some (.v (.bool ((st x).toList==(st y).toList)))
   | .neq=>some (.v (.bool (!((st x).toList==(st y).toList))))
   |_=>none)else none
 | .v a,.v b=>match Ev.bin op t a b with
   |some x=>some (.v x)
   |none=>match bin2 op t a b with
    |some x=>some (.v x)
    |none=>none
 |_,_=>none
def nv (M:Mem):PV->PV
 | .r k j=>.v (M.cell k j)
 |u=>u
theorem Ip {u:PV}{y:Value}{w:World}(h:Den M u y w):Den M (nv M u) y w:=by
 cases u with
 |r k j=>exact h
 |_=>exact h
def Tf (parts:Array (Nat×Operand)):List Nat:=parts.toList.map (·.1)
def act0 (M:Mem)(ov:Operand->Option PV)(o:Oper):Option Res:=match o.op with
 | .move x=>match ov x with
   |some u=>some {val:=u,uses:=u.mem}
   |none=>none
 | .assign x=>match ov x with
   |some u=>some {val:=u,uses:=u.mem}
   |none=>none
 | .fieldAddr t x f=>match ov x with
   |some (.p k j)=>match M.offs t f with
    |some d=>some {val:=.p k (j+d)}
    |none=>none
   |_=>none
 | .load t x=>match ov x with
   |some (.p k j)=>match M.load t k j with
    |some u=>if u.mem=true then none else some {val:=u}
    |none=>none
   |some (.pe s)=>if t=9 then some {val:=.s s,uses:=true}else none
   |_=>none
 | .binOp op t x y _=>match ov x,ov y with
   |some a,some b=>match binP op t (nv M a) (nv M b)with
    |some u=>if u.mem=true then none else some {val:=u}
    |none=>none
   |_,_=>none
 | .unOp .not _ x=>match (ov x).map (nv M)with
   |some (.v (.bool b))=>some {val:=.v (.bool (!b))}
   |_=>none
 | .convert a b x=>match (ov x).map (nv M)with
   |some (.v (.int .i64 n))=>if (a=2\/a=3)/\b=5 then some {val:=.u (UInt8.ofNat (n%256).toNat)}else none
   |some (.by_ (c::l))=>if a=135/\b=9 then some {val:=.s (l.length+1,⟨(c::l).toArray⟩),uses:=true}else none
   |_=>none
 | .pick c x y=>match (ov c).map (nv M)with
   |some (.v (.bool true))=>match ov x with
    |some u=>if u.mem=true then none else some {val:=u}
    |none=>none
   |some (.v (.bool false))=>match ov y with
    |some u=>if u.mem=true then none else some {val:=u}
    |none=>none
   |_=>none
 | .buildSlice t n parts=>if Tf parts=List.range n/\0<n/\n<=12 then(match xD ov (parts.toList.map (·.2))with
   |some us=>if t=64 then(match strs us with
    |some l=>some {val:=.sl l}
    |none=>none)else if t=135/\n<=2 then(match Tg us with
    |some l=>some {val:=.by_ l}
    |none=>none)else none
   |none=>none)else none
 | .indexAddr t x y=>match ov x,(ov y).map (nv M)with
   |some (.sl l),some (.v (.int .i64 k))=>if t=64/\0<=k then(match l[k.toNat]? with
    |some s=>some {val:=.pe s,uses:=true}
    |none=>none)else none
   |_,_=>none
 | .call ⟨.value (.func f),args,_⟩=>match xD ov args.toList with
   |some us=>match M.call f us with
    |some (u,c,b)=>some {val:=u,cons:=c,uses:=us.any PV.mem,ob:=b}
    |none=>none
   |none=>none
 | .call ⟨.builtin .append,args,ts⟩=>match args.toList with
   |[x,y]=>match ov x,ov y with
    |some (.sl l),some (.sl m)=>if ts=#[64,64]/\o.type=64 then(if M.big=true then some {val:=.sl (l++m),cons:=true,uses:=true,ob:=some (l.length+m.length<=1000000)}else if l.length+m.length<=1000000 then some {val:=.sl (l++m),cons:=true,uses:=true}else none)else none
    |some (.by_ l),some (.by_ m)=>if ts=#[135,135]/\o.type=135/\l.length+m.length<=1000000 then some {val:=.by_ (l++m),cons:=true,uses:=true}else none
    |_,_=>none
   |_=>none
 | .call ⟨.builtin .len,args,ts⟩=>match args.toList with
   |[x]=>match ov x with
    |some (.s x)=>if ts=#[9]/\o.type=3 then some {val:=.v (.int .i64 ((st x).size:Int))}else none
    |some (.sl l)=>if ts=#[64]then some {val:=.v (.int .i64 (l.length:Int)),uses:=true}else none
    |_=>none
   |_=>none
 |_=>none
def told (M:Mem)(o:Oper)(r:Res):Res:=match r.val,r.ob,o.dst with
 | .v (.bool p),none,some t=>match M.tst t with
   |some b=>{r with val:=.v (.bool b),ob:=some (p=b)}
   |none=>r
 |_,_,_=>r
def act (M:Mem)(ov:Operand->Option PV)(o:Oper):Option Res:=match act0 M ov o with
 |some r=>some (told M o r)
 |none=>match M.oth o ov with
  |some u=>if u.mem=true then none else some {val:=u}
  |none=>none
theorem Q6 {op:BinOp}{t:TypeId}{a b v:Value}(h:bin2 op t a b=some v)(x y:Operand)(w:World):(do eqGuard op t x y a b;binOp op t a b:Sem Value).run Tryz.prog w=.ok v w:=by
 unfold bin2 at h
 split at h
 ·split at h
  ·rename_i ht
   split at h
   ·split at h
    ·cases h
    ·rename_i hb;cases h;rcases ht with rfl|rfl<;>go_simp
   ·split at h
    ·cases h
    ·rename_i hb;cases h;rcases ht with rfl|rfl<;>go_simp
   ·cases h
  ·cases h
 ·cases h
theorem lL {ov:Operand->Option PV}{ρ:Operand->Value}{w:World}(hov:∀x u,ov x=some u->Den M u (ρ x) w):∀{l:List Operand} {us:List PV},xD ov l=some us->il M us (l.map ρ) w
 |[],us,h=>by cases h;exact trivial
 |x::l,us,h=>by
  unfold xD at h
  split at h
  ·rename_i a vs h1 h2
   cases h
   exact⟨hov _ _ h1,lL hov h2⟩
  ·cases h
theorem JP {w:World}:∀{us:List PV} {l:List SB} {ys:List Value},strs us=some l->il M us ys w->ys=(l.map st).map .string
 |[],l,ys,h,hd=>by
  cases h
  cases ys with
  |nil=>rfl
  |cons y ys=>exact hd.elim
 | .s x::us,l,ys,h,hd=>by
   unfold strs at h
   split at h
   ·rename_i r hr
    cases h
    cases ys with
    |nil=>exact hd.elim
    |cons y ys=>
     obtain⟨h1,h2⟩:=hd
     have h1:y=.string (st x):=h1
     rw[h1,JP hr h2]
     rfl
   ·cases h
 | .v _::us,l,ys,h,hd=>by cases h
 | .sl _::us,l,ys,h,hd=>by cases h
 | .pe _::us,l,ys,h,hd=>by cases h
 | .p _ _::us,l,ys,h,hd=>by cases h
 | .by_ _::us,l,ys,h,hd=>by cases h
 | .u _::us,l,ys,h,hd=>by cases h
 | .a _ _ _::us,l,ys,h,hd=>by cases h
 | .r _ _::us,l,ys,h,hd=>by cases h
theorem JZ {w:World}:∀{us:List PV} {l:List UInt8} {ys:List Value},Tg us=some l->il M us ys w->ys=l.map λc=>.int .u8 (c.toNat:Int)
 |[],l,ys,h,hd=>by
  cases h
  cases ys with
  |nil=>rfl
  |cons y ys=>exact hd.elim
 | .u x::us,l,ys,h,hd=>by
   unfold Tg at h
   split at h
   ·rename_i r hr
    cases h
    cases ys with
    |nil=>exact hd.elim
    |cons y ys=>
     obtain⟨h1,h2⟩:=hd
     have h1:y=.int .u8 (x.toNat:Int):=h1
     rw[h1,JZ hr h2]
     rfl
   ·cases h
 | .v _::us,l,ys,h,hd=>by cases h
 | .sl _::us,l,ys,h,hd=>by cases h
 | .pe _::us,l,ys,h,hd=>by cases h
 | .p _ _::us,l,ys,h,hd=>by cases h
 | .by_ _::us,l,ys,h,hd=>by cases h
 | .s _::us,l,ys,h,hd=>by cases h
 | .a _ _ _::us,l,ys,h,hd=>by cases h
 | .r _ _::us,l,ys,h,hd=>by cases h
theorem parts_eq {parts:Array (Nat×Operand)}{n:Nat}{ρ:Operand->Value}{xs:List Value}(h1:Tf parts=List.range n)(h2:(parts.toList.map (·.2)).map ρ=xs):(parts.map λ(i,x)=>(i,ρ x))=((List.range n).zip xs).toArray:=by
 apply Array.toList_inj.1
 rw[Array.toList_map,<-h1,<-h2]
 unfold Tf
 generalize parts.toList=l
 induction l with
 |nil=>rfl
 |cons p l ih=>simp only[List.map_cons,List.zip_cons_cons,ih]
theorem bs_str (l:List ByteArray)(h0:0<l.length)(h12:l.length<=12)(w:World):(Instr.buildSlice 64 l.length ((List.range l.length).zip (l.map Value.string)).toArray).run Tryz.prog w=.ok (.slice (some ⟨w.heap.size,0,none⟩) l.length l.length) (w.alloc (.cells (l.map Value.string).toArray 9)):=by
 rcases l with _|⟨a1,_|⟨a2,_|⟨a3,_|⟨a4,_|⟨a5,_|⟨a6,_|⟨a7,_|⟨a8,_|⟨a9,_|⟨a10,_|⟨a11,_|⟨a12,_|⟨a13,l⟩⟩⟩⟩⟩⟩⟩⟩⟩⟩⟩⟩⟩
 ·simp at h0
 all_goals first
  |(simp only[List.length_cons]at h12;omega)
  |(show(Instr.buildSlice 64 _ (Array.mk _)).run Tryz.prog w=_
    simp only[List.length_cons,List.length_nil,List.range,List.range.loop,List.map_cons,List.map_nil,List.zip_cons_cons,List.zip_nil_right,Nat.zero_add]
    go_simp
    try rfl)
theorem bs_byt (l:List UInt8)(h0:0<l.length)(h2:l.length<=2)(w:World):(Instr.buildSlice 135 l.length ((List.range l.length).zip (l.map λc=>Value.int .u8 (c.toNat:Int))).toArray).run Tryz.prog w=.ok (.slice (some ⟨w.heap.size,0,none⟩) l.length l.length) (w.alloc (.cells (l.map λc=>Value.int .u8 (c.toNat:Int)).toArray 5)):=by
 rcases l with _|⟨a1,_|⟨a2,_|⟨a3,l⟩⟩⟩
 ·simp at h0
 all_goals first
  |(simp only[List.length_cons]at h2;omega)
  |(show(Instr.buildSlice 135 _ (Array.mk _)).run Tryz.prog w=_
    simp only[List.length_cons,List.length_nil,List.range,List.range.loop,List.map_cons,List.map_nil,List.zip_cons_cons,List.zip_nil_right,Nat.zero_add]
    go_simp
    try rfl)
theorem RD:(Tryz.prog.info? 9).map (λi=>(i.zero,i.size,i.bytes))=some (some (.string ⟨#[]⟩),1,16):=by kernel_rfl
theorem Ro:(Tryz.prog.info? 5).map (λi=>(i.zero,i.size,i.bytes))=some (some (.int .u8 0),1,1):=by kernel_rfl
theorem Il (hM:Wf M){w:World}(hS:Sw M w)(t:TypeId)(xs:List Value)(hx:xs.length<=1000):(w.alloc (.cells xs.toArray t)).ownsRow M.B t 1 (.slice (some ⟨w.heap.size,0,none⟩) xs.length xs.length) xs.length xs/\∀g,(Value.slice (some ⟨w.heap.size,0,none⟩) xs.length xs.length).ownBlock=some g->g∉M.fix:=by
 refine⟨⟨by omega,.inr ⟨w.heap.size,xs.length,xs.toArray,rfl,by have:=hM.B;have:=hS.size;omega,World.alloc_heap_new w _,Nat.le_refl _,by unfold maxLen;omega,by simp,by simp⟩⟩,λg hg hf=>?_⟩
 have e:w.heap.size=g:=by simpa[Value.ownBlock]using hg
 have:=hM.fix g hf
 have:=hS.size
 omega
theorem IY (hM:Wf M){w:World}(hS:Sw M w)(t e:TypeId)(i:TypeInfo)(z:Value)(bytes:Nat)(ht:Tryz.prog.underlying t=some (.slice e))(hi:Tryz.prog.info? e=some i)(hz:i.zero=some z)(hsize:i.size=1)(hby:i.bytes=bytes)(hzs:z.cells.size=1)(hb16:bytes<=16)
 {v u:Value} {xs ys:List Value} (h1:w.ownsRow M.B e 1 v xs.length xs) (f1:∀g,v.ownBlock=some g->g∉M.fix) (h2:w.ownsRow M.B e 1 u ys.length ys) (ho:∀x∈ys,x.oneCell'=true) (hn:xs.length+ys.length<=1000000):
 ∃v' w',(Builtin.append_ #[t,t] t #[v,u]).run Tryz.prog w=.ok v' w'/\w'.ownsRow M.B e 1 v' (xs++ys).length (xs++ys)/\(∀g,v'.ownBlock=some g->g∉M.fix)/\Sw M w':=by
 obtain⟨a2,c,hu⟩:=iN h2
 have hB:M.B<=w.heap.size:=Nat.le_trans hM.B hS.size
 obtain⟨v',w',hr,hown,hg,hat⟩:=pF (w:=w) t t e i z 1 bytes ht hi hz hsize hby hzs (by decide) M.B v xs.length xs h1 a2 ys.length c ys (by omega) (λad had j x hj=>by
  have h0:0<ys.length:=by have:=(List.getElem?_eq_some_iff.1 hj).1;omega
  obtain⟨sb,cap,hv,_,hcell⟩:=fT h2 h0
  rw[hu,had]at hv
  have e1:ad=⟨sb,0,none⟩:=by injection hv with h;injection h
  rw[e1,show(⟨sb,0,none⟩:Addr).add j=⟨sb,j,none⟩from by unfold Addr.add;split<;>simp_all]
  exact hcell j x hj) (λha=>by
  rcases Nat.eq_zero_or_pos ys.length with h0|h0
  ·exact h0
  ·obtain⟨sb,cap,hv,_⟩:=fT h2 h0
   rw[hu,ha]at hv
   injection hv with h;cases h) ho (by unfold maxLen;omega) (by
  have:(xs.length+ys.length)*bytes<=1000000*16:=Nat.mul_le_mul hn hb16
  omega) hB
 refine⟨v',w',by rw[hu];exact hr,by rw[List.length_append];exact hown,λg hg2 hf=>?_,?_⟩
 ·rcases hat with h|h
  ·exact f1 g (by rw[<-h];exact hg2) hf
  ·rw[h]at hg2
   cases hg2
   have:=hM.fix _ hf
   have:=hS.size
   omega
 ·have hlow:∀g,v.ownBlock=some g->M.B<=g:=λg hg2=>by
   rcases h1.2 with⟨hv,_⟩|⟨g',cap,cur,hv,hb,_⟩
   ·rw[hv]at hg2;cases hg2
   ·rw[hv]at hg2
    have:g'=g:=by simpa[Value.ownBlock]using hg2
    omega
  refine hS.turn ⟨hg.os,hg.tape,hg.output,hg.size,λg hgB=>hg.block g (by omega) λe=>?_⟩ λg hgf=>hg.block g (by have:=hM.fix g hgf;have:=hS.size;omega) λe=>f1 g e.symm hgf
  have:=hlow g e.symm
  omega
theorem RF {l:List ByteArray}:∀x∈l.map Value.string,x.oneCell'=true:=λx hx=>by
 obtain⟨b,_,rfl⟩:=List.mem_map.1 hx
 rfl
theorem Tc {l:List UInt8}:∀x∈l.map (λc=>Value.int .u8 (c.toNat:Int)),x.oneCell'=true:=λx hx=>by
 obtain⟨b,_,rfl⟩:=List.mem_map.1 hx
 rfl
theorem cat_ok (x y:SB)(h:x.1+y.1<=4611686018427387904)(p q:Operand)(w:World):(do eqGuard .add 9 p q (.string (st x)) (.string (st y));binOp .add 9 (.string (st x)) (.string (st y)):Sem Value).run Tryz.prog w=.ok (.string (st (cat x y))) w:=by
 have h1:=vK x
 have h2:=vK y
 rw[eO]
 have h3:¬9223372036854775807<(st x).size+(st y).size:=by omega
 generalize st x=a at h3⊢
 generalize st y=b at h3⊢
 clear h1 h2 h
 go_simp
 try rfl
theorem UF (b:ByteArray)(w:World):(Builtin.len_ #[9] 3 #[.string b]).run Tryz.prog w=.ok (.int .i64 (b.size:Int)) w:=by
 go_simp
 try rfl
variable {M : Mem}
theorem idx_ok {ρ:Operand->Value}{o:Oper}{x y:Operand}{sb n c k:Nat}(ho:o.op=.indexAddr 64 x y)(h1:ρ x=.slice (some ⟨sb,0,none⟩) n c)(h2:ρ y=.int .i64 (k:Int))(hk:k<n)(w:World):(execOp ρ o).run Tryz.prog w=.ok (.value (.pointer (some ⟨sb,k,none⟩))) w:=by
 have TV:(k:Int)<(n:Int):=by omega
 unfold execOp
 simp only[ho,h1,h2]
 go_simp
 try rfl
theorem Rw (hO:Ok Tryz.prog M){ov:Operand->Option PV}{ρ:Operand->Value}{w:World}(hfu:∀f,ρ (.func f)=.func (.func f) #[] #[])(hov:∀x u,ov x=some u->Den M u (ρ x) w)(hS:Sw M w){o:Oper}{r:Res}(h:act0 M ov o=some r)(EK:∀p,r.ob=some p->p):
 mV Tryz.prog (λv w'=>Den M r.val v w'/\Sw M w'/\(r.cons=false->Below w.heap.size w w')) ((execOp ρ o).run Tryz.prog w):=by
 have hb0:Below w.heap.size w w:=Below.refl _ _
 have hon:∀x u,(ov x).map (nv M)=some u->Den M u (ρ x) w:=λx u h=>by
  obtain⟨u',h1,rfl⟩:=Option.map_eq_some_iff.1 h
  exact Ip (hov _ _ h1)
 unfold act0 at h
 split at h
 ·rename_i x ho
  split at h
  ·rename_i u hx
   cases h
   unfold execOp;simp only[ho];exact⟨hov _ _ hx,hS,λ_=>hb0⟩
  ·cases h
 ·rename_i x ho
  split at h
  ·rename_i u hx
   cases h
   unfold execOp;simp only[ho];exact⟨hov _ _ hx,hS,λ_=>hb0⟩
  ·cases h
 ·rename_i t x f ho
  split at h
  ·rename_i k j hx
   split at h
   ·rename_i d hd
    cases h
    have hx2:ρ x=M.ptr k j:=hov _ _ hx
    unfold execOp
    simp only[ho,hx2,Mem.ptr,Sem.run_bind,hO.offs t f d hd,Result.andThen_ok]
    refine⟨?_,hS,λ_=>hb0⟩
    show _=M.ptr k (j+d)
    unfold Mem.ptr
    rw[Nat.add_assoc]
   ·cases h
  ·cases h
 ·rename_i t x ho
  split at h
  ·rename_i k j hx
   split at h
   ·rename_i u hu
    split at h
    ·cases h
    ·cases h
     have hx2:ρ x=M.ptr k j:=hov _ _ hx
     obtain⟨v,hv,hd⟩:=hO.load t k j u hu w hS
     unfold execOp
     simp only[ho,hx2,Sem.run_bind,hv,Result.andThen_ok]
     exact⟨hd,hS,λ_=>hb0⟩
   ·cases h
  ·rename_i s hx
   split at h
   ·rename_i ht
    cases h
    subst ht
    obtain⟨g,j,e1,e2⟩:=hov _ _ hx
    have:=Ev.BS (t:=9) rfl ⟨g,j,none⟩ w _ e2
    unfold execOp
    simp only[ho,e1,Sem.run_bind,this,Result.andThen_ok]
    exact⟨rfl,hS,λ_=>hb0⟩
   ·cases h
  ·cases h
 ·rename_i op t x y t2 ho
  split at h
  ·rename_i a b hx hy
   split at h
   ·rename_i u hu
    split at h
    ·cases h
    ·cases h
     have hx2:=Ip (hov _ _ hx)
     have hy2:=Ip (hov _ _ hy)
     unfold execOp
     simp only[ho]
     generalize nv M a=na at hu hx2
     generalize nv M b=nb at hu hy2
     unfold binP at hu
     split at hu
     ·rename_i sx sy
      have hx3:ρ x=.string (st sx):=hx2
      have hy3:ρ y=.string (st sy):=hy2
      simp only[hx3,hy3]
      split at hu
      ·rename_i ht
       subst ht
       split at hu
       ·split at hu
        ·rename_i hle
         cases hu
         rw[Sem.run_bind,cat_ok sx sy hle]
         exact⟨rfl,hS,λ_=>hb0⟩
        ·cases hu
       ·cases hu
        have:=Ev.Bl (op:=.eql) (t:=9) (a:=.string (st sx)) (b:=.string (st sy)) (v:=.bool ((st sx).toList==(st sy).toList)) rfl x y w
        rw[Sem.run_bind,this]
        exact⟨rfl,hS,λ_=>hb0⟩
       ·cases hu
        have:=Ev.Bl (op:=.neq) (t:=9) (a:=.string (st sx)) (b:=.string (st sy)) (v:=.bool (!((st sx).toList==(st sy).toList))) rfl x y w
        rw[Sem.run_bind,this]
        exact⟨rfl,hS,λ_=>hb0⟩
       ·cases hu
      ·cases hu
     ·rename_i va vb
      have hx3:ρ x=va:=hx2
      have hy3:ρ y=vb:=hy2
      simp only[hx3,hy3]
      split at hu
      ·rename_i v hv
       cases hu
       rw[Sem.run_bind,Ev.Bl hv]
       exact⟨rfl,hS,λ_=>hb0⟩
      ·split at hu
       ·rename_i v hv
        cases hu
        rw[Sem.run_bind,Q6 hv]
        exact⟨rfl,hS,λ_=>hb0⟩
       ·cases hu
     ·cases hu
   ·cases h
  ·cases h
 ·rename_i t x ho
  split at h
  ·rename_i b hx
   cases h
   have hx2:ρ x=.bool b:=hon _ _ hx
   unfold execOp;simp only[ho,hx2];exact⟨rfl,hS,λ_=>hb0⟩
  ·cases h
 ·rename_i a b x ho
  split at h
  ·rename_i n hx
   split at h
   ·rename_i hc
    cases h
    obtain⟨ha,rfl⟩:=hc
    have hx2:ρ x=.int .i64 n:=hon _ _ hx
    have e:IntKind.u8.wrap n=((UInt8.ofNat (n%256).toNat).toNat:Int):=by
     have h1:IntKind.u8.wrap n=n%256:=rfl
     rw[h1,UInt8.toNat_ofNat']
     omega
    unfold execOp
    simp only[ho,hx2]
    have:(convert a 5 (.int .i64 n)).run Tryz.prog w=.ok (.int .u8 (IntKind.u8.wrap n)) w:=by
     rcases ha with rfl|rfl<;>(go_simp;try rfl)
    rw[Sem.run_bind,this,e]
    exact⟨rfl,hS,λ_=>hb0⟩
   ·cases h
  ·rename_i c l hx
   split at h
   ·rename_i hc
    cases h
    obtain⟨rfl,rfl⟩:=hc
    obtain⟨h1,_⟩:=hon _ _ hx
    obtain⟨sb,cap,hv,_,hcell⟩:=fT h1 (by simp)
    have:(convert 135 9 (.slice (some ⟨sb,0,none⟩) (c::l).length cap)).run Tryz.prog w=.ok (.string ⟨(c::l).toArray⟩) w:=by
     refine run_convert_bytes_back _ _ _ _ ⟨sb,0,none⟩ cap (c::l) Tryz.underlying135 Tryz.underlying5 Tryz.underlying9 (λj hj=>?_)
     rw[show(⟨sb,0,none⟩:Addr).add j=⟨sb,j,none⟩from by unfold Addr.add;split<;>simp_all]
     refine hcell j _ ?_
     rw[List.getElem?_map,List.getElem?_eq_getElem hj]
     rfl
    unfold execOp
    simp only[ho,hv]
    rw[Sem.run_bind,this]
    refine⟨?_,hS,λ_=>hb0⟩
    show Value.string _=.string (st (l.length+1,⟨(c::l).toArray⟩))
    rw[show st (l.length+1,⟨(c::l).toArray⟩)=⟨(c::l).toArray⟩from bW (Nat.le_refl _)]
   ·cases h
  ·cases h
 ·rename_i c x y ho
  split at h
  ·rename_i hc
   split at h
   ·rename_i u hu
    split at h
    ·cases h
    ·cases h
     have hc2:ρ c=.bool true:=hon _ _ hc
     unfold execOp;simp only[ho,hc2];exact⟨hov _ _ hu,hS,λ_=>hb0⟩
   ·cases h
  ·rename_i hc
   split at h
   ·rename_i u hu
    split at h
    ·cases h
    ·cases h
     have hc2:ρ c=.bool false:=hon _ _ hc
     unfold execOp;simp only[ho,hc2];exact⟨hov _ _ hu,hS,λ_=>hb0⟩
   ·cases h
  ·cases h
 ·rename_i t n parts ho
  split at h
  ·rename_i hi
   obtain⟨hi,hn0,hn12⟩:=hi
   split at h
   ·rename_i us Hd
    have hd:=lL hov Hd
    have hlen:parts.toList.length=n:=by
     have:=congrArg List.length hi
     unfold Tf at this
     simpa using this
    split at h
    ·rename_i ht
     subst ht
     split at h
     ·rename_i l hl
      cases h
      have hys:=JP hl hd
      have hll:l.length=n:=by
       have:=congrArg List.length hys
       simp only[List.length_map]at this
       omega
      have e:=parts_eq hi hys
      have hb:=bs_str (l.map st) (by simpa using(by omega:0<l.length)) (by simpa using(by omega:l.length<=12)) w
      rw[List.length_map,hll]at hb
      unfold execOp
      simp only[ho,e,Sem.run_bind,hb,Result.andThen_ok]
      have hown:=Il hO.wf hS 9 ((l.map st).map Value.string) (by simp;omega)
      simp only[List.length_map,hll]at hown
      have pV:Below w.heap.size w (w.alloc (.cells ((l.map st).map Value.string).toArray 9)):=hb0.alloc (Nat.le_refl _) _
      refine⟨?_,hS.below hO.wf pV,λ_=>pV⟩
      show Nq M _ (l.map st) _
      unfold Nq
      rw[List.length_map,hll]
      exact hown
     ·cases h
    ·split at h
     ·rename_i ht
      obtain⟨rfl,hn2⟩:=ht
      split at h
      ·rename_i l hl
       cases h
       have hys:=JZ hl hd
       have hll:l.length=n:=by
        have:=congrArg List.length hys
        simp only[List.length_map]at this
        omega
       have e:=parts_eq hi hys
       have hb:=bs_byt l (by omega) (by omega) w
       rw[hll]at hb
       unfold execOp
       simp only[ho,e,Sem.run_bind,hb,Result.andThen_ok]
       have hown:=Il hO.wf hS 5 (l.map λc=>Value.int .u8 (c.toNat:Int)) (by simp;omega)
       simp only[List.length_map,hll]at hown
       have pV:Below w.heap.size w (w.alloc (.cells (l.map λc=>Value.int .u8 (c.toNat:Int)).toArray 5)):=hb0.alloc (Nat.le_refl _) _
       refine⟨?_,hS.below hO.wf pV,λ_=>pV⟩
       show Oz M _ l _
       unfold Oz
       rw[hll]
       exact hown
      ·cases h
     ·cases h
   ·cases h
  ·cases h
 ·rename_i t x y ho
  split at h
  ·rename_i l k hx hy
   split at h
   ·rename_i ht
    obtain⟨rfl,hk⟩:=ht
    split at h
    ·rename_i s hs
     cases h
     obtain⟨h1,_⟩:=hov _ _ hx
     have hy2:ρ y=.int .i64 k:=hon _ _ hy
     have hkl:k.toNat<l.length:=(List.getElem?_eq_some_iff.1 hs).1
     obtain⟨sb,cap,hv,_,hcell⟩:=fT h1 (by simp;omega)
     rw[List.length_map]at hv
     have TV:k<(l.length:Int):=by omega
     rw[idx_ok (k:=k.toNat) ho hv (by rw[hy2];congr 1;omega) hkl w]
     refine⟨⟨sb,k.toNat,rfl,hcell _ _ ?_⟩,hS,λ_=>hb0⟩
     rw[List.getElem?_map,List.getElem?_map,hs]
     rfl
    ·cases h
   ·cases h
  ·cases h
 ·rename_i f args ts ho
  split at h
  ·rename_i us Hd
   split at h
   ·rename_i u c b hc
    cases h
    obtain⟨h1,h2⟩:=hO.call _ _ _ _ _ hc EK
    have hd:=lL hov Hd
    have hargs:args.map ρ=(args.toList.map ρ).toArray:=by
     apply Array.toList_inj.1
     simp
    have hf:ρ (.func f)=.func (.func f) #[] #[]:=hfu f
    unfold execOp
    simp[ho,resolve,invoke,hf,hargs,Deferred.ofValue,h1]
    refine(h2 _ w hS hd).mono ?_
    rintro e w' ⟨v,rfl,q1,q2,q3⟩
    exact⟨v,rfl,q1,q2,q3⟩
   ·cases h
  ·cases h
 ·rename_i args ts ho
  split at h
  ·rename_i x y hxy
   have hargs:args=#[x,y]:=Array.toList_inj.1 hxy
   subst hargs
   split at h
   ·rename_i l m hx hy
    split at h
    ·rename_i hc
     obtain⟨rfl,hty⟩:=hc
     have hE:r.val=.sl (l++m)/\r.cons=true/\l.length+m.length<=1000000:=by
      split at h
      ·cases h;exact⟨rfl,rfl,EK _ rfl⟩
      ·split at h
       ·cases h;exact⟨rfl,rfl,by assumption⟩
       ·cases h
     obtain⟨e1,e2,hn⟩:=hE
     rw[e1,e2]
     obtain⟨h1,f1⟩:=hov _ _ hx
     obtain⟨h2,f2⟩:=hov _ _ hy
     obtain⟨i0,hii,hz0,hz1,hz2⟩:=info_parts RD
     obtain⟨v',w',hr,hown,hf,hS'⟩:=IY hO.wf hS 64 9 i0 (.string ⟨#[]⟩) 16 Tryz.underlying64 hii hz0 hz1 hz2 rfl (by decide) (v:=ρ x) (u:=ρ y) (xs:=(l.map st).map .string) (ys:=(m.map st).map .string) (by simpa using h1) f1 (by simpa using h2) RF (by simpa using hn)
     unfold execOp
     simp only[ho,hty,resolve,invoke,builtin,Sem.run_bind,Sem.run_pure,Result.andThen_ok,List.map_toArray,List.map_cons,List.map_nil,hr]
     refine⟨?_,hS',λhc=>by cases hc⟩
     show Nq M v' ((l++m).map st) w'
     unfold Nq
     rw[List.map_append,List.map_append,List.length_append]
     refine⟨?_,hf⟩
     simpa using hown
    ·cases h
   ·rename_i l m hx hy
    split at h
    ·rename_i hc
     obtain⟨rfl,hty,hn⟩:=hc
     cases h
     obtain⟨h1,f1⟩:=hov _ _ hx
     obtain⟨h2,f2⟩:=hov _ _ hy
     obtain⟨i0,hii,hz0,hz1,hz2⟩:=info_parts Ro
     obtain⟨v',w',hr,hown,hf,hS'⟩:=IY hO.wf hS 135 5 i0 (.int .u8 0) 1 Tryz.underlying135 hii hz0 hz1 hz2 rfl (by decide) (v:=ρ x) (u:=ρ y) (xs:=l.map λc=>.int .u8 (c.toNat:Int)) (ys:=m.map λc=>.int .u8 (c.toNat:Int)) (by simpa using h1) f1 (by simpa using h2) Tc (by simpa using hn)
     unfold execOp
     simp only[ho,hty,resolve,invoke,builtin,Sem.run_bind,Sem.run_pure,Result.andThen_ok,List.map_toArray,List.map_cons,List.map_nil,hr]
     refine⟨?_,hS',λhc=>by cases hc⟩
     show Oz M v' (l++m) w'
     unfold Oz
     rw[List.map_append,List.length_append]
     refine⟨?_,hf⟩
     simpa using hown
    ·cases h
   ·cases h
  ·cases h
 ·rename_i args ts ho
  split at h
  ·rename_i x hxy
   have hargs:args=#[x]:=Array.toList_inj.1 hxy
   subst hargs
   split at h
   ·rename_i b hx
    split at h
    ·rename_i hc
     obtain⟨rfl,hty⟩:=hc
     cases h
     have h1:ρ x=.string (st b):=hov _ _ hx
     have hl:=UF (st b) w
     unfold execOp
     simp only[ho,hty,resolve,invoke,builtin,Sem.run_bind,Sem.run_pure,Result.andThen_ok,List.map_toArray,List.map_cons,List.map_nil,h1,hl]
     exact⟨rfl,hS,λ_=>hb0⟩
    ·cases h
   ·rename_i l hx
    split at h
    ·rename_i hc
     subst hc
     cases h
     obtain⟨h1,f1⟩:=hov _ _ hx
     obtain⟨a2,c,hv⟩:=iN h1
     rw[List.length_map]at hv
     have hl:∀ty:TypeId,(Builtin.len_ #[64] ty #[.slice a2 l.length c]).run Tryz.prog w=.ok (.int .i64 (l.length:Int)) w:=λty=>by
      go_simp
      try rfl
     unfold execOp
     simp only[ho,resolve,invoke,builtin,Sem.run_bind,Sem.run_pure,Result.andThen_ok,List.map_toArray,List.map_cons,List.map_nil,hv,hl]
     exact⟨rfl,hS,λ_=>hb0⟩
    ·cases h
   ·cases h
  ·cases h
 ·cases h
theorem FI (hO:Ok Tryz.prog M){ov:Operand->Option PV}{ρ:Operand->Value}{w:World}(hfu:∀f,ρ (.func f)=.func (.func f) #[] #[])(hov:∀x u,ov x=some u->Den M u (ρ x) w)(hS:Sw M w){o:Oper}{r:Res}(h:act M ov o=some r)(EK:∀p,r.ob=some p->p):
 mV Tryz.prog (λv w'=>Den M r.val v w'/\Sw M w'/\(r.cons=false->Below w.heap.size w w')) ((execOp ρ o).run Tryz.prog w):=by
 unfold act at h
 split at h
 ·rename_i r' hr
  cases h
  have key:(∀p,r'.ob=some p->p)->_:=λh=>Rw hO hfu hov hS hr h
  obtain⟨v0,c0,u0,b0⟩:=r'
  by_cases hc:∃p t b,v0=.v (.bool p)/\b0=none/\o.dst=some t/\M.tst t=some b
  ·obtain⟨p,t,b,rfl,rfl,e3,e4⟩:=hc
   have et:told M o ⟨.v (.bool p),c0,u0,none⟩=⟨.v (.bool b),c0,u0,some (p=b)⟩:=by
    unfold told
    simp only[e3,e4]
   rw[et]at EK⊢
   obtain rfl:p=b:=EK _ rfl
   exact key λq hq=>by cases hq
  ·have et:told M o ⟨v0,c0,u0,b0⟩=⟨v0,c0,u0,b0⟩:=by
    unfold told
    split
    ·rename_i p t e1 e2 e3
     split
     ·rename_i b e4
      exact absurd ⟨p,t,b,e1,e2,e3,e4⟩ hc
     ·rfl
    ·rfl
   rw[et]at EK⊢
   exact key EK
 split at h
 ·rename_i u hu
  split at h
  ·cases h
  ·cases h
   obtain⟨v,h1,h2⟩:=hO.oth o ov u hu ρ w hfu hS hov
   rw[h1]
   exact⟨h2,hS,λ_=>Below.refl _ _⟩
 ·cases h
variable {M : Mem}
def looks (ops:Array Oper)(o:Oper):Operand->Bool
 | .tmp t=>(o.looksAt ops).contains t
 |_=>true
def ovR (K:List (Nat×PV))(ops:Array Oper)(rs:List Ent)(o:Oper)(x:Operand):Option PV:=if looks ops o x=true then opd K rs x else none
def Jc (K:List (Nat×PV))(ops:Array Oper)(rs:List Ent)(o:Oper):Bool:=(o.looksAt ops).any λt=>match opd K rs (.tmp t)with
 |some u=>u.mem
 |none=>false
def IQ (M:Mem)(K:List (Nat×PV))(ops:Array Oper)(rs:List Ent)(o:Oper):Option Ent:=match act M (ovR K ops rs o) o with
 |some r=>some {dst:=o.dst,val:=r.val,cons:=r.cons,uses:=Jc K ops rs o,ob:=r.ob}
 |none=>none
def ent (M:Mem)(K:List (Nat×PV))(ops:Array Oper)(rs:List Ent)(o:Oper):Option Ent:=match o.guard with
 |none=>IQ M K ops rs o
 |some (j,want)=>match rs[j]? with
  |some e=>match e.dst,e.val with
   |some _,.v (.bool true)=>if want=true then IQ M K ops rs o else some {dst:=o.dst,val:=.v undef,cons:=false,uses:=false,skip:=true}
   |some _,.v (.bool false)=>if want=false then IQ M K ops rs o else some {dst:=o.dst,val:=.v undef,cons:=false,uses:=false,skip:=true}
   |_,_=>none
  |none=>none
def run (M:Mem)(K:List (Nat×PV))(ops:Array Oper):List Ent->List Oper->Option (List Ent)
 |rs,[]=>some rs
 |rs,o::l=>match ent M K ops rs o with
  |some e=>run M K ops (rs++[e]) l
  |none=>none
def sched (ops:Array Oper)(rs:List Ent):Bool:=(List.range rs.length).all λc=>match rs[c]? with
 |some e=>!e.cons||(((List.range c).all λi=>match rs[i]? with
  |some ei=>!ei.uses||(anc ops c).contains i
  |none=>true)&&(List.range rs.length).all λi=>match rs[i]? with
  |some ei=>!(ei.val.mem&&decide (c<i))||(anc ops i).contains c
  |none=>true)
 |none=>true
theorem iJ {t:Nat}:∀{l:List Ent} {k i:Nat} {e:Ent},find t l k=some (i,e)->k<=i/\l[i-k]? =some e/\e.dst=some t
 |[],_,_,_,h=>by cases h
 |x::l,k,i,e,h=>by
  unfold find at h
  split at h
  ·rename_i hx
   cases h
   exact⟨Nat.le_refl _,by simp,hx⟩
  ·obtain⟨h1,h2,h3⟩:=iJ h
   refine⟨by omega,?_,h3⟩
   rw[show i-k=(i-(k+1))+1 from by omega]
   simpa using h2
theorem zq {t:Nat}:∀{l:List Ent} {k:Nat},find t l k=none->∀(i:Nat) (e:Ent),l[i]? =some e->e.dst≠some t
 |[],_,_,i,e,hi=>by simp at hi
 |x::l,k,h,i,e,hi=>by
  unfold find at h
  split at h
  ·cases h
  ·rename_i hx
   cases i with
   |zero=>simp at hi;subst hi;exact hx
   |succ i=>exact zq h i e (by simpa using hi)
theorem mg:∀(l:List Ent) (k a b:Nat),a<=k->l5 l k a<=b->a<=b/\∀(c:Nat) (e:Ent),l[c]? =some e->e.cons=true->k+c+1<=b
 |[],k,a,b,_,h=>⟨h,λc e hc=>by simp at hc⟩
 |x::l,k,a,b,hak,h=>by
  unfold l5 at h
  obtain⟨h1,h2⟩:=mg l (k+1) _ b (by split<;>omega) h
  refine⟨by split at h1<;>omega,λc e hc lh=>?_⟩
  cases c with
  |zero=>
   simp at hc
   subst hc
   rw[if_pos lh]at h1
   omega
  |succ c=>
   have:=h2 c e (by simpa using hc) lh
   omega
theorem dx {K:List (Nat×PV)}{ops:Array Oper}{l:List Oper}:∀{r0 rs:List Ent},run M K ops r0 l=some rs->∃t,rs=r0++t/\t.length=l.length:=by
 induction l with
 |nil=>intro r0 rs h;cases h;exact⟨[],by simp,rfl⟩
 |cons o l ih=>
  intro r0 rs h
  unfold run at h
  split at h
  ·obtain⟨t,h1,h2⟩:=ih h
   exact⟨_::t,by rw[h1,List.append_assoc];rfl,by simp[h2]⟩
  ·cases h
theorem vP {K:List (Nat×PV)}{ops:Array Oper}{l:List Oper}:∀{r0 rs:List Ent},run M K ops r0 l=some rs->∀(i:Nat) (o:Oper),l[i]? =some o->∃e,rs[r0.length+i]? =some e/\ent M K ops (rs.take (r0.length+i)) o=some e:=by
 induction l with
 |nil=>intro r0 rs h i o hi;simp at hi
 |cons o l ih=>
  intro r0 rs h i o2 hi
  have h0:=h
  unfold run at h
  split at h
  ·rename_i e he
   obtain⟨t,h1,h2⟩:=dx h
   cases i with
   |zero=>
    simp at hi
    subst hi
    refine⟨e,by rw[h1];simp,?_⟩
    rw[h1,Nat.add_zero,List.append_assoc,List.take_left]
    exact he
   |succ i=>
    obtain⟨e2,k1,k2⟩:=ih h i o2 (by simpa using hi)
    rw[List.length_append,List.length_singleton]at k1 k2
    exact⟨e2,by rw[<-k1];congr 1;omega,by rw[<-k2];congr 2;omega⟩
  ·cases h
theorem Az {K:List (Nat×PV)}{ops:Array Oper}{rs:List Ent}{o:Oper}{e:Ent}(h:ent M K ops rs o=some e):e.dst=o.dst:=by
 unfold ent at h
 have hA:∀e,IQ M K ops rs o=some e->e.dst=o.dst:=λe h=>by
  unfold IQ at h
  split at h
  ·cases h;rfl
  ·cases h
 repeat' split at h
 all_goals first|exact hA _ h|(cases h;rfl)|cases h
theorem kg:∀{K:List (Nat×PV)} {t:Nat} {u:PV},look K t=some u->(t,u)∈K
 |[],_,_,h=>by cases h
 |(s,v)::K,t,u,h=>by
  unfold look at h
  split at h
  ·rename_i hs;subst hs;cases h;exact List.mem_cons_self ..
  ·exact List.mem_cons_of_mem _ (kg h)
def alive (rs:List Ent)(i:Nat)(dn:Nat->Bool):Prop:=∀(c:Nat) (e:Ent),rs[c]? =some e->e.cons=true->i<c->dn c=false
def Nh (rs:List Ent)(dn:Nat->Bool):Prop:=∀(c:Nat) (e:Ent),rs[c]? =some e->e.cons=true->dn c=false
structure GL (M:Mem)(K:List (Nat×PV))(ops:Array Oper)(rs:List Ent)(a0:Act)(dn:Nat->Bool)(a:Act)(w:World):Prop where
 size:a.tmps.size=a0.tmps.size
 defers:a.defers=a0.defers
 sw:Sw M w
 rest:∀t:Nat,(∀(j:Nat) (oj:Oper),ops[j]? =some oj->dn j=true->oj.dst≠some t)->a.tmps[t]? =a0.tmps[t]?
 done:∀(j:Nat) (e:Ent) (d:Nat),rs[j]? =some e->dn j=true->e.dst=some d->(e.val.mem=true->alive rs j dn)->∃v,a.tmps[d]? =some v/\Den M e.val v w
 knownM:∀t u,(t,u)∈K->(u.mem=true->Nh rs dn)->∃v,a0.tmps[t]? =some v/\Den M u v w
def okR (n:Nat)(ops:Array Oper):Bool:=dJ ops&&ops.toList.all λ(o:Oper)=>match o.dst with
 |some d=>decide (d<n)
 |none=>true
theorem sj (v:Value)(w:World)(M:Mem):Den M (cst v) v w:=by
 unfold cst
 split
 ·rename_i b
  show Value.string b=.string (st (b.size,b))
  rw[st_lit]
 ·exact⟨World.ownsRow_nil _ _ _ _,λg hg=>by cases hg⟩
 ·rename_i x
  split
  ·rename_i hx
   show Value.int .u8 x=.int .u8 ((UInt8.ofNat x.toNat).toNat:Int)
   congr 1
   rw[UInt8.toNat_ofNat']
   omega
  ·rfl
 ·rfl
section
variable {K : List (Nat × PV)} {ops : Array Oper} {rs : List Ent} {a0 a : Act} {w : World} {dn : Nat → Bool} {i : Nat} {o : Oper}
theorem NG {t:Nat}{u:PV}{r:List Ent}(hl:t∈o.looksAt ops)(h:opd K r (.tmp t)=some u)(hu:u.mem=true):Jc K ops r o=true:=by
 unfold Jc
 rw[List.any_eq_true]
 exact⟨t,hl,by rw[h];exact hu⟩
theorem zy {t:Nat}{v:Value}(h:a.tmps[t]? =some v):a.eval (.tmp t)=v:=eval_at h
theorem lS (hd:dJ ops=true)(hrun:run M K ops [] ops.toList=some rs)(hsc:sched ops rs=true)(hi:ops[i]? =some o)(hu:dn i=false)(ha:∀e∈o.after,Region.binds .any e=true->dn e.on=true)(hC:Closed ops dn)(hI:GL M K ops rs a0 dn a w)
 {ei:Ent} (Qq:rs[i]? =some ei) (Hd:Jc K ops (rs.take i) o=true->ei.uses=true) {x:Operand} {u:PV} (h:ovR K ops (rs.take i) o x=some u):Den M u (a.eval x) w:=by
 unfold ovR at h
 split at h
 ·rename_i hl
  have hlen:rs.length=ops.size:=by
   obtain⟨t,h1,h2⟩:=dx hrun
   rw[h1];simpa using h2
  have hilt:i<ops.size:=(Array.getElem?_eq_some_iff.1 hi).1
  have hdst:∀(j:Nat) (e:Ent),rs[j]? =some e->∃oj,ops[j]? =some oj/\e.dst=oj.dst:=λj e hj=>by
   have hjl:j<ops.size:=by have:=(List.getElem?_eq_some_iff.1 hj).1;omega
   obtain⟨e2,k1,k2⟩:=vP hrun j ops[j] (by simp[hjl])
   rw[List.length_nil,Nat.zero_add]at k1
   have:e=e2:=Option.some.inj (hj.symm.trans k1)
   subst this
   exact⟨ops[j],by simp[hjl],Az k2⟩
  have hlive:∀(c:Nat) (e:Ent),rs[c]? =some e->e.cons=true->i<c->ei.uses=true->dn c=false:=λc e hc lh hic Ra=>by
   cases Gr:dn c with
   |false=>rfl
   |true=>
    exfalso
    have hcl:c<rs.length:=(List.getElem?_eq_some_iff.1 hc).1
    have h1:=List.all_eq_true.1 hsc c (List.mem_range.2 hcl)
    rw[hc]at h1
    simp only[lh,Bool.not_true,Bool.false_or,Bool.and_eq_true]at h1
    have h2:=List.all_eq_true.1 h1.1 i (List.mem_range.2 hic)
    rw[Qq]at h2
    simp only[Ra,Bool.not_true,Bool.false_or]at h2
    obtain⟨oc,hoc⟩:∃oc,ops[c]? =some oc:=⟨_,Array.getElem?_eq_getElem (by omega)⟩
    have:=EG hC hoc (λe he hb=>hC c oc hoc Gr e he hb) i (by simpa using h2)
    rw[hu]at this
    cases this
  cases x with
  |const v=>
   have h:some (cst v)=some u:=h
   cases h
   exact sj v w M
  |tmp t=>
   have hlt:t∈o.looksAt ops:=by simpa[looks]using hl
   have Ra:=λhm=>Hd (NG hlt h hm)
   have h:opT K (rs.take i) t=some u:=h
   unfold opT at h
   split at h
   ·rename_i j e hf
    obtain⟨-,f2,f3⟩:=iJ hf
    rw[Nat.sub_zero]at f2
    have hji:j<i:=by
     have:=(List.getElem?_eq_some_iff.1 f2).1
     rw[List.length_take]at this
     omega
    have f4:rs[j]? =some e:=by rw[List.getElem?_take,if_pos hji]at f2;exact f2
    obtain⟨oj,g1,g2⟩:=hdst j e f4
    have hdn:dn j=true:=by
     rcases looks_at hd hi hu ha hC hlt with⟨j',oj',h1,h2,h3,h4⟩|⟨_,h2⟩
     ·have:j'=j:=by
       by_cases hjj:j'=j
       ·exact hjj
       ·exact absurd (g2▸f3) (jM hd g1 h2 hjj h3)
      rw[<-this];exact h4
     ·exact absurd (g2▸f3) (h2 j oj hji g1)
    have hA:e.val.mem=true->(if e.val.mem=true then(if l5 (rs.take i) 0 0<=j+1 then some e.val else none)else some e.val)=some u->alive rs j dn:=λhm hx=>by
     rw[if_pos hm]at hx
     split at hx
     ·rename_i hle
      cases hx
      intro c ec hc lh hjc
      by_cases hic:i<c
      ·exact hlive c ec hc lh hic (Ra hm)
      ·by_cases hci:c=i
       ·subst hci;exact hu
       ·have:=(mg _ 0 0 _ (Nat.le_refl _) hle).2 c ec (by rw[List.getElem?_take,if_pos (by omega)];exact hc) lh
        omega
     ·cases hx
    have hval:u=e.val:=by
     split at h
     ·split at h
      ·cases h;rfl
      ·cases h
     ·cases h;rfl
    obtain⟨v,k1,k2⟩:=hI.done j e t f4 hdn f3 (λhm=>hA hm h)
    rw[zy k1,hval]
    exact k2
   ·rename_i hf
    have hnone:=zq hf
    have hr:∀(j:Nat) (oj:Oper),ops[j]? =some oj->dn j=true->oj.dst≠some t:=by
     rcases looks_at hd hi hu ha hC hlt with⟨j',oj',h1,h2,h3,h4⟩|⟨h1,_⟩
     ·exfalso
      obtain⟨ej,MZ⟩:∃ej,rs[j']? =some ej:=⟨_,List.getElem?_eq_getElem (by omega)⟩
      obtain⟨oj2,g1,g2⟩:=hdst j' ej MZ
      rw[h2]at g1
      cases g1
      exact hnone j' ej (by rw[List.getElem?_take,if_pos h1];exact MZ) (g2.trans h3)
     ·exact h1
    have h2:=hI.rest t hr
    split at h
    ·rename_i u' hk
     have hA:u'.mem=true->(if u'.mem=true then(if l5 (rs.take i) 0 0=0 then some u' else none)else some u')=some u->Nh rs dn:=λhm hx=>by
      rw[if_pos hm]at hx
      split at hx
      ·rename_i hle
       cases hx
       intro c ec hc lh
       by_cases hic:i<c
       ·exact hlive c ec hc lh hic (Ra hm)
       ·by_cases hci:c=i
        ·subst hci;exact hu
        ·have:=(mg _ 0 0 0 (Nat.le_refl _) (Nat.le_of_eq hle)).2 c ec (by rw[List.getElem?_take,if_pos (by omega)];exact hc) lh
         omega
      ·cases hx
     have hval:u=u':=by
      split at h
      ·split at h
       ·cases h;rfl
       ·cases h
      ·cases h;rfl
     obtain⟨v,k1,k2⟩:=hI.knownM t u' (kg hk) (λhm=>hA hm h)
     rw[zy (h2.trans k1),hval]
     exact k2
    ·cases h
  |global g=>cases h
  |func f=>cases h
 ·cases h
theorem Cr {tmps:Array Value}(h:o.guard=none):Region.wanted o (yielded ops tmps)=true:=by unfold Region.wanted;rw[h]
theorem Ta (hd:dJ ops=true){n:Nat}(hok:okR n ops=true)(hn:a0.tmps.size=n)(hrun:run M K ops [] ops.toList=some rs)(hsc:sched ops rs=true)(hi:ops[i]? =some o)(hu:dn i=false)(hC:Closed ops dn)(hI:GL M K ops rs a0 dn a w)
 {ei:Ent} (Qq:rs[i]? =some ei) {v:Value} {w':World} (hv:Den M ei.val v w') (hS:Sw M w') (hb:ei.cons=false->Below w.heap.size w w'):GL M K ops rs a0 (λj=>dn j||j==i) (a.put o.dst v) w':=by
 have hlen:rs.length=ops.size:=by
  obtain⟨t,h1,h2⟩:=dx hrun
  rw[h1];simpa using h2
 have hdst:∀(j:Nat) (e:Ent),rs[j]? =some e->∃oj,ops[j]? =some oj/\e.dst=oj.dst:=λj e hj=>by
  have hjl:j<ops.size:=by have:=(List.getElem?_eq_some_iff.1 hj).1;omega
  obtain⟨e2,k1,k2⟩:=vP hrun j ops[j] (by simp[hjl])
  rw[List.length_nil,Nat.zero_add]at k1
  have:e=e2:=Option.some.inj (hj.symm.trans k1)
  subst this
  exact⟨ops[j],by simp[hjl],Az k2⟩
 have hor:∀j,(dn j||j==i)=true↔(dn j=true\/j=i):=λj=>by rw[Bool.or_eq_true,beq_iff_eq]
 have hput:∀d:Nat,o.dst≠some d->(a.put o.dst v).tmps[d]? =a.tmps[d]?:=λd hne=>by
  unfold Act.put
  split
  ·rename_i d2 h2
   show(a.tmps.setIfInBounds d2 v)[d]? =_
   rw[Array.getElem?_setIfInBounds_ne]
   rintro rfl
   exact hne h2
  ·rfl
 have hsz:(a.put o.dst v).tmps.size=a.tmps.size:=by
  unfold Act.put
  split
  ·show(a.tmps.setIfInBounds _ v).size=_
   simp
  ·rfl
 have hdf:(a.put o.dst v).defers=a.defers:=by
  unfold Act.put
  split<;>rfl
 have lh:ei.cons=true->∀dn':Nat->Bool,dn' i=true->∀(j:Nat),j<i->¬alive rs j dn':=λhc dn' hdi j hji hal=>by
  have:=hal i ei Qq hc hji
  rw[hdi]at this;cases this
 refine⟨hsz.trans hI.size,hdf.trans hI.defers,hS,λt ht=>?_,λj e d hj hdj Af hal=>?_,λt u ht hal=>?_⟩
 ·rw[hput t (λh=>ht i o hi (by show(dn i||i==i)=true;simp) h)]
  exact hI.rest t λj oj hj hdj=>ht j oj hj (by show(dn j||j==i)=true;rw[hdj];rfl)
 ·by_cases hji:j=i
  ·subst hji
   rw[Qq]at hj
   cases hj
   obtain⟨oj,g1,g2⟩:=hdst j ei Qq
   rw[hi]at g1
   cases g1
   have hod:o.dst=some d:=g2.symm.trans Af
   have hdn:d<a.tmps.size:=by
    rw[hI.size,hn]
    unfold okR at hok
    rw[Bool.and_eq_true]at hok
    have:=List.all_eq_true.1 hok.2 o (List.mem_of_getElem? (by simpa using hi))
    rw[hod]at this
    simpa using this
   refine⟨v,?_,hv⟩
   rw[hod]
   show(a.tmps.setIfInBounds d v)[d]? =some v
   simp[hdn]
  ·have hdj2:dn j=true:=by rcases(hor j).1 hdj with h|h;exact h;exact absurd h hji
   obtain⟨oj,g1,g2⟩:=hdst j e hj
   have hne:o.dst≠some d:=jM hd hi g1 hji (g2▸Af)
   rw[hput d hne]
   cases hm:e.val.mem with
   |false=>
    obtain⟨x,k1,k2⟩:=hI.done j e d hj hdj2 Af (λh=>by rw[hm]at h;cases h)
    exact⟨x,k1,k2.any hm⟩
   |true=>
    have hal:=hal hm
    cases hc:ei.cons with
    |true=>
     exfalso
     rcases Nat.lt_trichotomy j i with h|h|h
     ·exact lh hc _ (by show(dn i||i==i)=true;simp) j h hal
     ·exact hji h
     ·have hil:i<rs.length:=(List.getElem?_eq_some_iff.1 Qq).1
      have h1:=List.all_eq_true.1 hsc i (List.mem_range.2 hil)
      rw[Qq]at h1
      simp only[hc,Bool.not_true,Bool.false_or,Bool.and_eq_true]at h1
      have h2:=List.all_eq_true.1 h1.2 j (List.mem_range.2 (List.getElem?_eq_some_iff.1 hj).1)
      rw[hj]at h2
      simp only[hm,h,decide_true,Bool.and_self,Bool.not_true,Bool.false_or]at h2
      have:=EG hC g1 (λe he hb=>hC j oj g1 hdj2 e he hb) i (by simpa using h2)
      rw[hu]at this
      cases this
    |false=>
     obtain⟨x,k1,k2⟩:=hI.done j e d hj hdj2 Af (λ_ c ec hc' hcc hjc=>by
      have:=hal c ec hc' hcc hjc
      have h2:(dn c||c==i)=false:=this
      rw[Bool.or_eq_false_iff]at h2
      exact h2.1)
     exact⟨x,k1,k2.below (hb hc)⟩
 ·cases hm:u.mem with
  |false=>
   obtain⟨x,k1,k2⟩:=hI.knownM t u ht (λh=>by rw[hm]at h;cases h)
   exact⟨x,k1,k2.any hm⟩
  |true=>
   have hal:=hal hm
   cases hc:ei.cons with
   |true=>
    exfalso
    have:=hal i ei Qq hc
    have h2:(dn i||i==i)=false:=this
    simp at h2
   |false=>
    obtain⟨x,k1,k2⟩:=hI.knownM t u ht (λ_ c ec hc' hcc=>by
     have:=hal c ec hc' hcc
     have h2:(dn c||c==i)=false:=this
     rw[Bool.or_eq_false_iff]at h2
     exact h2.1)
    exact⟨x,k1,k2.below (hb hc)⟩
end
structure FrP (M:Mem)(n:Nat)(K:List (Nat×PV))(a:Act)(w:World):Prop where
 size:a.tmps.size=n
 defers:a.defers=[]
 look:∀t u,(t,u)∈K->∃v,a.tmps[t]? =some v/\Den M u v w
def news (rs:List Ent):List Ent->Nat->List (Nat×PV)
 |[],_=>[]
 |e::l,i=>match e.dst with
  |some d=>if e.val.mem=true/\¬l5 rs 0 0<=i+1 then news rs l (i+1)else(d,e.val)::news rs l (i+1)
  |none=>news rs l (i+1)
def keep (K:List (Nat×PV))(ops:Array Oper)(rs:List Ent):List (Nat×PV):=K.filter λp=>(ops.toList.all λo=>o.dst !=some p.1)&&(!p.2.mem||decide (l5 rs 0 0=0))
theorem kw {rs:List Ent}:∀{l:List Ent} {k d:Nat} {u:PV},(d,u)∈news rs l k->∃(i:Nat) (e:Ent),l[i]? =some e/\e.dst=some d/\e.val=u/\(u.mem=true->l5 rs 0 0<=k+i+1)
 |[],_,_,_,h=>by cases h
 |e::l,k,d,u,h=>by
  have rec_:(d,u)∈news rs l (k+1)->∃(i:Nat) (e':Ent),(e::l)[i]? =some e'/\e'.dst=some d/\e'.val=u/\(u.mem=true->l5 rs 0 0<=k+i+1):=λh=>by
   obtain⟨i,e',h1,h2,h3,h4⟩:=kw h
   exact⟨i+1,e',by simpa using h1,h2,h3,λhm=>by have:=h4 hm;omega⟩
  unfold news at h
  split at h
  ·rename_i d2 hd
   split at h
   ·exact rec_ h
   ·rename_i hc
    rcases List.mem_cons.1 h with h3|h3
    ·cases h3
     exact⟨0,e,rfl,hd,rfl,λhm=>Classical.byContradiction λhx=>hc ⟨hm,hx⟩⟩
    ·exact rec_ h3
  ·exact rec_ h
theorem QK {K:List (Nat×PV)}{ops:Array Oper}{rs:List Ent}{t:Nat}{u:PV}(hm:(t,u)∈keep K ops rs):(t,u)∈K/\(∀o:Oper,o∈ops.toList->o.dst≠some t)/\(u.mem=true->l5 rs 0 0=0):=by
 unfold keep at hm
 obtain⟨h1,h2⟩:=List.mem_filter.1 hm
 rw[Bool.and_eq_true]at h2
 refine⟨h1,λo ho=>?_,λhu=>?_⟩
 ·have:=List.all_eq_true.1 h2.1 o ho
  simpa using this
 ·have:=h2.2
  simp only[hu,Bool.not_true,Bool.false_or,decide_eq_true_eq]at this
  exact this
section
variable {K : List (Nat × PV)} {ops : Array Oper} {rs : List Ent} {a : Act} {w : World} {n id : Nat} {dr : Bool} {Q : Exit → Act → World → Prop}
theorem wp_se (hO:Ok Tryz.prog M)(hok:okR n ops=true)(hrun:run M K ops [] ops.toList=some rs)(hsc:sched ops rs=true)(EK:∀e∈rs,∀p,e.ob=some p->p)(hF:FrP M n K a w)(hS:Sw M w)
 (hend:∀(b:Act) (w':World),FrP M n (news rs rs 0++keep K ops rs) b w'->Sw M w'->Q .normal b w'):(Code.region id ops dr).wp Tryz.prog Q a w:=by
 have hd:dJ ops=true:=by unfold okR at hok;rw[Bool.and_eq_true]at hok;exact hok.1
 have hlen:rs.length=ops.size:=by
  obtain⟨t,h1,h2⟩:=dx hrun
  rw[h1];simpa using h2
 have hdst:∀(j:Nat) (e:Ent),rs[j]? =some e->∃oj,ops[j]? =some oj/\e.dst=oj.dst:=λj e hj=>by
  have hjl:j<ops.size:=by have:=(List.getElem?_eq_some_iff.1 hj).1;omega
  obtain⟨e2,k1,k2⟩:=vP hrun j ops[j] (by simp[hjl])
  rw[List.length_nil,Nat.zero_add]at k1
  have:e=e2:=Option.some.inj (hj.symm.trans k1)
  subst this
  exact⟨ops[j],by simp[hjl],Az k2⟩
 refine yj rfl hd (GL M K ops rs a) ?_ ?_ ?_
 ·cases dr with
  |true=>exact⟨rfl,rfl,hS.drew,λ_ _=>rfl,λj e d hj hdj=>(by cases hdj),λt u hl _=>(hF.look t u hl).imp λv h=>⟨h.1,h.2.drew⟩⟩
  |false=>exact⟨rfl,rfl,hS,λ_ _=>rfl,λj e d hj hdj=>(by cases hdj),λt u hl _=>hF.look t u hl⟩
 ·intro dn i o a' w' hi hu ha hC hI
  obtain⟨ei,k1,k2⟩:=vP hrun i o (by simpa using hi)
  rw[List.length_nil,Nat.zero_add]at k1 k2
  have fin:∀(v:Value) (w2:World),Den M ei.val v w2->Sw M w2->(ei.cons=false->Below w'.heap.size w' w2)->GL M K ops rs a (λj=>dn j||j==i) (a'.put o.dst v) w2:=λv w2 h1 h2 h3=>Ta hd hok hF.size hrun hsc hi hu hC hI k1 h1 h2 h3
  have doA:Region.wanted o (yielded ops a'.tmps)=true->IQ M K ops (rs.take i) o=some ei->wpOp Tryz.prog ops Q i (λa' w'=>GL M K ops rs a (λj=>dn j||j==i) a' w') a' w':=λhw hA=>by
   unfold IQ at hA
   split at hA
   ·rename_i r hr
    cases hA
    have hov:=λx u (hx:ovR K ops (rs.take i) o x=some u)=>lS hd hrun hsc hi hu ha hC hI k1 (λh=>h) hx
    have hy:iO Tryz.prog ops (λw=>w=w') (λv w2=>Den M r.val v w2/\Sw M w2/\(r.cons=false->Below w'.heap.size w' w2)) o a':=⟨hw,λw l6=>by
     rw[l6]
     exact FI hO (λ_=>rfl) hov hI.sw hr (EK _ (List.mem_of_getElem? k1))⟩
    exact hy.wpOp hi rfl λv w2 ⟨q1,q2,q3⟩=>fin v w2 q1 q2 q3
   ·cases hA
  have skipA:Region.wanted o (yielded ops a'.tmps)=false->ei={dst:=o.dst,val:=.v undef,cons:=false,uses:=false,skip:=true}->wpOp Tryz.prog ops Q i (λa' w'=>GL M K ops rs a (λj=>dn j||j==i) a' w') a' w':=λhw he=>by
   have hy:ah Tryz.prog ops (λw=>w=w') (λw=>w=w') o undef a':=.inr ⟨hw,rfl,λ_ h=>h⟩
   refine hy.wpOp hi rfl λw2 hw2=>?_
   rw[hw2]
   exact fin undef w' (by rw[he];rfl) hI.sw (λ_=>Below.refl _ _)
  unfold ent at k2
  split at k2
  ·rename_i hg
   exact doA (Cr hg) k2
  ·rename_i j want hg
   split at k2
   ·rename_i ej MZ
    have hji:j<i:=by
     have:=(List.getElem?_eq_some_iff.1 MZ).1
     rw[List.length_take]at this
     omega
    have hej2:rs[j]? =some ej:=by rw[List.getElem?_take,if_pos hji]at MZ;exact MZ
    obtain⟨oj,g1,g2⟩:=hdst j ej hej2
    have hyv:∀d b,ej.dst=some d->ej.val=.v (.bool b)->Region.wanted o (yielded ops a'.tmps)=(b==want):=λd b Af hev=>by
     have hod:oj.dst=some d:=g2.symm.trans Af
     have hla:d∈o.looksAt ops:=by simp[Oper.looksAt,hg,g1,hod]
     have hdn:dn j=true:=by
      rcases looks_at hd hi hu ha hC hla with⟨j',oj',h1,h2,h3,h4⟩|⟨_,h2⟩
      ·have:j'=j:=by
        by_cases hjj:j'=j
        ·exact hjj
        ·exact absurd hod (jM hd g1 h2 hjj h3)
       rw[<-this];exact h4
      ·exact absurd hod (h2 j oj hji g1)
     obtain⟨v,e1,e2⟩:=hI.done j ej d hej2 hdn Af (λh=>by rw[hev]at h;cases h)
     rw[hev]at e2
     have e2:v=.bool b:=e2
     unfold Region.wanted
     rw[hg]
     have hyl:yielded ops a'.tmps j=some b:=by
      unfold yielded
      rw[g1]
      simp only[Option.bind_some,hod,e1,e2]
     simp only[hyl]
     cases b<;>cases want<;>rfl
    split at k2
    ·rename_i d Af hev
     have:=hyv _ _ Af hev
     split at k2
     ·rename_i hw;subst hw;exact doA this k2
     ·rename_i hw
      cases k2
      exact skipA (by rw[this];cases want<;>simp_all) rfl
    ·rename_i d Af hev
     have:=hyv _ _ Af hev
     split at k2
     ·rename_i hw;subst hw;exact doA this k2
     ·rename_i hw
      cases k2
      exact skipA (by rw[this];cases want<;>simp_all) rfl
    ·cases k2
   ·cases k2
 ·intro dn b w' hall hI
  refine hend b w' ⟨hI.size.trans hF.size,hI.defers.trans hF.defers,λt u hm=>?_⟩ hI.sw
  rcases List.mem_append.1 hm with hm|hm
  ·obtain⟨i,e,h1,h2,h3,h4⟩:=kw hm
   subst h3
   have hil:i<ops.size:=by have:=(List.getElem?_eq_some_iff.1 h1).1;omega
   refine hI.done i e t h1 (hall i hil) h2 λhmem c ec hc hcc hic=>?_
   have:=(mg rs 0 0 _ (Nat.le_refl _) (h4 hmem)).2 c ec hc hcc
   omega
  ·obtain⟨h1,h2,h3⟩:=QK hm
   rw[hI.rest t λj oj hj _=>h2 oj (List.mem_of_getElem? (by simpa using hj))]
   obtain⟨v,k1,k2⟩:=hF.look t u h1
   refine⟨v,k1,?_⟩
   cases hmem:u.mem with
   |false=>exact k2.any hmem
   |true=>
    have hz:=h3 hmem
    obtain⟨v2,k3,k4⟩:=hI.knownM t u h1 (λ_ c ec hc hcc=>by
     have:=(mg rs 0 0 0 (Nat.le_refl _) (Nat.le_of_eq hz)).2 c ec hc hcc
     omega)
    have:v=v2:=Option.some.inj (k1.symm.trans k3)
    rw[this];exact k4
end
open Go.Proofs.YtnjjeapcalkmaaaGreatDoor.Ev (Fm Qof)
variable {M : Mem}
inductive Out where
 |nx (K:List (Nat×PV))
 |ret (K:List (Nat×PV))
 |out (k:Nat) (K:List (Nat×PV))
 |go (c:Code) (fs:List Fm) (K:List (Nat×PV))
 |ob (p:Prop) (o:Out)
def Out.bind (b:Code)(f:List (Nat×PV)->Out):Out->Out
 | .nx K=>f K
 | .ret K=>.ret K
 | .out k K=>.out k K
 | .go c fs K=>.go c (fs++[.sq b]) K
 | .ob p o=>.ob p (o.bind b f)
def Out.unblock (i:Nat):Out->Out
 | .nx K=>.nx K
 | .ret K=>.ret K
 | .out k K=>if k=i then .nx K else .out k K
 | .go c fs K=>.go c (fs++[.bl i]) K
 | .ob p o=>.ob p (o.unblock i)
def obs:List Ent->Out->Out
 |[],o=>o
 |e::l,o=>match e.ob with
  |some p=>.ob p (obs l o)
  |none=>obs l o
def exR (M:Mem)(n i:Nat)(ops:Array Oper)(dr:Bool)(K:List (Nat×PV)):Out:=match run M K ops [] ops.toList with
 |some rs=>if (okR n ops&&sched ops rs)=true then obs rs (.nx (news rs rs 0++keep K ops rs))else .go (.region i ops dr) [] K
 |none=>.go (.region i ops dr) [] K
def exC (h:Option Bool)(x y z:Out)(l:Option PV):Out:=match h with
 |none=>match l with
  |some (.v (.bool true))=>x
  |some (.v (.bool false))=>y
  |_=>z
 |some true=>match l with
  |some (.v (.bool b))=>.ob (b=true) x
  |_=>z
 |some false=>match l with
  |some (.v (.bool b))=>.ob (b=false) y
  |_=>z
def Out.bindL (f:List (Nat×PV)->Out):Out->Out
 | .nx K=>f K
 | .ret K=>.ret K
 | .out k K=>.out k K
 | .go _ _ K=>.ob False (.nx K)
 | .ob p o=>.ob p (o.bindL f)
def exL (f:List (Nat×PV)->Out):Nat->List (Nat×PV)->Out
 |0,K=>.ob False (.nx K)
 |k+1,K=>(f K).bindL (exL f k)
def ex (M:Mem)(n:Nat):Code->List (Nat×PV)->Out
 | .skip,K=>.nx K
 | .region i ops dr,K=>exR M n i ops dr K
 | .seq a b,K=>(ex M n a K).bind b (ex M n b)
 | .cond c x y,K=>match c with
   | .tmp t=>exC (M.hint t) (ex M n x K) (ex M n y K) (.go (.cond (.tmp t) x y) [] K) ((look K t).map (nv M))
   |c=>.go (.cond c x y) [] K
 | .block i b,K=>(ex M n b K).unblock i
 | .exit k,K=>.out k K
 | .ret,K=>.ret K
 | .loop c,K=>if M.loops=0 then .go (.loop c) [] K else exL (ex M n c) M.loops K
 |c,K=>.go c [] K
def Out.holds (M:Mem)(n:Nat)(Q:Exit->Act->World->Prop):Out->Prop
 | .nx K=>∀a w,FrP M n K a w->Sw M w->Q .normal a w
 | .ret K=>∀a w,FrP M n K a w->Sw M w->Q .ret a w
 | .out k K=>∀a w,FrP M n K a w->Sw M w->Q (.exit k) a w
 | .go c fs K=>∀a w,FrP M n K a w->Sw M w->c.wp Tryz.prog (Qof Tryz.prog fs Q) a w
 | .ob p o=>p/\o.holds M n Q
theorem kz {n:Nat}{Q:Exit->Act->World->Prop}{b:Code}{f:List (Nat×PV)->Out}(hf:∀K,(f K).holds M n Q->∀a w,FrP M n K a w->Sw M w->b.wp Tryz.prog Q a w):
 ∀{t:Out},(t.bind b f).holds M n Q->t.holds M n (Exit.then (b.wp Tryz.prog Q) Q):=by
 intro t
 induction t with
 |ob p o ih=>exactλhh=>⟨hh.1,ih hh.2⟩
 |nx K=>intro hh;exact hf K hh
 |ret K=>exactλhh=>hh
 |out k K=>exactλhh=>hh
 |go c fs K=>intro hh a w ha hs;have:=hh a w ha hs;rw[Ev.BL]at this;exact this
theorem iR {n:Nat}{Q:Exit->Act->World->Prop}{i:Nat}:∀{t:Out},(t.unblock i).holds M n Q->t.holds M n (Exit.inBlock i Q):=by
 intro t
 induction t with
 |ob p o ih=>exactλhh=>⟨hh.1,ih hh.2⟩
 |nx K=>exactλh=>h
 |ret K=>exactλh=>h
 |out k K=>
  intro h a w ha hs
  have h:(if k=i then Out.nx K else Out.out k K).holds M n Q:=h
  show(if k=i then Q .normal a w else Q (.exit k) a w)
  by_cases hk:k=i
  ·rw[if_pos hk]at h⊢;exact h a w ha hs
  ·rw[if_neg hk]at h⊢;exact h a w ha hs
 |go c fs K=>intro hh a w ha hs;have:=hh a w ha hs;rw[Ev.Ba]at this;exact this
theorem Dt {n:Nat}{Q:Exit->Act->World->Prop}{R:Act->World->Prop}{f:List (Nat×PV)->Out}(hf:∀K,(f K).holds M n Q->∀a w,FrP M n K a w->Sw M w->R a w):
 ∀{t:Out},(t.bindL f).holds M n Q->t.holds M n (Exit.then R Q):=by
 intro t
 induction t with
 |ob p o ih=>exactλhh=>⟨hh.1,ih hh.2⟩
 |nx K=>intro hh;exact hf K hh
 |ret K=>exactλhh=>hh
 |out k K=>exactλhh=>hh
 |go c fs K=>exactλhh=>hh.1.elim
theorem tF {n:Nat}{Q:Exit->Act->World->Prop}{o:Out}:∀{l:List Ent},(obs l o).holds M n Q->(∀e∈l,∀p,e.ob=some p->p)/\o.holds M n Q
 |[],h=>⟨λe he=>(by cases he),h⟩
 |e::l,h=>by
  unfold obs at h
  split at h
  ·rename_i p hp
   obtain⟨h1,h2⟩:=h
   obtain⟨h3,h4⟩:=tF h2
   exact⟨λx hx=>by
    rcases List.mem_cons.1 hx with rfl|hx
    ·intro q hq;rw[hp]at hq;cases hq;exact h1
    ·exact h3 x hx,h4⟩
  ·rename_i hp
   obtain⟨h3,h4⟩:=tF h
   exact⟨λx hx=>by
    rcases List.mem_cons.1 hx with rfl|hx
    ·intro q hq;rw[hp]at hq;cases hq
    ·exact h3 x hx,h4⟩
theorem uF (hO:Ok Tryz.prog M){n:Nat}:∀{code:Code} {K:List (Nat×PV)} {Q:Exit->Act->World->Prop},(ex M n code K).holds M n Q->∀a w,FrP M n K a w->Sw M w->code.wp Tryz.prog Q a w:=by
 intro code
 induction code with
 |skip=>intro K Q h a w hF hS;exact wp_skip (h a w hF hS)
 |region i ops dr=>
  intro K Q h a w hF hS
  have h:(exR M n i ops dr K).holds M n Q:=h
  unfold exR at h
  split at h
  ·rename_i rs hrs
   split at h
   ·rename_i hok
    rw[Bool.and_eq_true]at hok
    obtain⟨h1,h2⟩:=tF h
    exact wp_se hO hok.1 hrs hok.2 h1 hF hS h2
   ·exact h a w hF hS
  ·exact h a w hF hS
 |seq x y ix iy=>
  intro K Q h a w hF hS
  unfold ex at h
  refine wp_seq ?_
  exact ix (kz (λK' h'=>iy h') h) a w hF hS
 |cond c x y ix iy=>
  intro K Q h a w hF hS
  cases c with
  |tmp t=>
   have h:(exC (M.hint t) (ex M n x K) (ex M n y K) (.go (.cond (.tmp t) x y) [] K) ((look K t).map (nv M))).holds M n Q:=h
   have get:∀b:Bool,(look K t).map (nv M)=some (.v (.bool b))->a.eval (.tmp t)=.bool b:=λb hl=>by
    obtain⟨u,hk,hu⟩:=Option.map_eq_some_iff.1 hl
    obtain⟨v,h1,h2⟩:=hF.look t _ (kg hk)
    have h2:v=.bool b:=by have:=Ip h2;rw[hu]at this;exact this
    exact eval_at (h2▸h1)
   generalize hl:(look K t).map (nv M)=l at h get
   unfold exC at h
   split at h
   ·split at h
    ·exact wp_cond (t:=true) (get _ rfl) (ix h a w hF hS)
    ·exact wp_cond (t:=false) (get _ rfl) (iy h a w hF hS)
    ·exact h a w hF hS
   ·split at h
    ·obtain⟨rfl,h⟩:=h
     exact wp_cond (t:=true) (get _ rfl) (ix h a w hF hS)
    ·exact h a w hF hS
   ·split at h
    ·obtain⟨rfl,h⟩:=h
     exact wp_cond (t:=false) (get _ rfl) (iy h a w hF hS)
    ·exact h a w hF hS
  |const v=>exact h a w hF hS
  |global g=>exact h a w hF hS
  |func f=>exact h a w hF hS
 |block i b ib=>
  intro K Q h a w hF hS
  unfold ex at h
  exact wp_block (ib (iR h) a w hF hS)
 |exit k=>intro K Q h a w hF hS;exact wp_exit (h a w hF hS)
 |ret=>intro K Q h a w hF hS;exact wp_ret (h a w hF hS)
 |loop c ic=>
  intro K Q h a w hF hS
  unfold ex at h
  split at h
  ·exact h a w hF hS
  ·refine wp_loop_rounds M.loops ?_
   have key:∀(k:Nat) (K:List (Nat×PV)),(exL (ex M n c) k K).holds M n Q->∀a w,FrP M n K a w->Sw M w->Code.rounds Tryz.prog c Q k a w:=by
    intro k
    induction k with
    |zero=>exactλK h=>h.1.elim
    |succ k ih=>exactλK h a w hF hS=>ic (Dt (R:=Code.rounds Tryz.prog c Q k) (λK' h'=>ih K' h') h) a w hF hS
   exact key _ K h a w hF hS
 |_=>intro K Q h a w hF hS;exact h a w hF hS
def kS (M:Mem)(ts:List Nat)(us:List PV)(a:Act)(w:World):Prop:=∀(i t:Nat) (u:PV),ts[i]? =some t->us[i]? =some u->∃v,a.tmps[t]? =some v/\Den M u v w
def looks' (K:List (Nat×PV)):List Nat->Option (List PV)
 |[]=>some []
 |t::ts=>match look K t,looks' K ts with
  |some u,some us=>some (u::us)
  |_,_=>none
theorem rq {K:List (Nat×PV)}{n:Nat}{a:Act}{w:World}(hF:FrP M n K a w):∀{ts:List Nat} {us:List PV},looks' K ts=some us->kS M ts us a w
 |[],us,h=>λi t u h1=>by simp at h1
 |s::ts,us,h=>by
  unfold looks' at h
  split at h
  ·rename_i u us' h1 h2
   cases h
   intro i t x ht hx
   cases i with
   |zero=>
    simp at ht hx
    subst ht
    subst hx
    exact hF.look _ _ (kg h1)
   |succ i=>exact rq hF h2 i t x (by simpa using ht) (by simpa using hx)
  ·cases h
theorem kS.cons {t:Nat}{ts:List Nat}{u:PV}{us:List PV}{a:Act}{w:World}(h:kS M (t::ts) (u::us) a w):(∃v,a.tmps[t]? =some v/\Den M u v w)/\kS M ts us a w:=⟨h 0 t u rfl rfl,λi s x h1 h2=>h (i+1) s x (by simpa using h1) (by simpa using h2)⟩
def Out.retv (ts:List Nat):Out->Option (List PV×List Prop)
 | .ret K=>(looks' K ts).map λus=>(us,[])
 | .ob p o=>(o.retv ts).map λx=>(x.1,p::x.2)
 |_=>none
def Out.nxv (ts:List Nat):Out->Option (List PV×List Prop)
 | .nx K=>(looks' K ts).map λus=>(us,[])
 | .ob p o=>(o.nxv ts).map λx=>(x.1,p::x.2)
 |_=>none
def Out.gov (ts:List Nat):Out->Option ((Code×List Fm×List PV)×List Prop)
 | .go c fs K=>(looks' K ts).map λus=>((c,fs,us),[])
 | .ob p o=>(o.gov ts).map λx=>(x.1,p::x.2)
 |_=>none
def Out.outv (ts:List Nat):Out->Option ((Nat×List PV)×List Prop)
 | .out k K=>(looks' K ts).map λus=>((k,us),[])
 | .ob p o=>(o.outv ts).map λx=>(x.1,p::x.2)
 |_=>none
def All:List Prop->Prop
 |[]=>True
 |p::l=>p/\All l
section
variable {n : Nat} {code : Code} {K : List (Nat × PV)} {Q : Exit → Act → World → Prop} {us : List PV} {ps : List Prop}
theorem MN {ts:List Nat}(hq:∀a w,a.tmps.size=n->a.defers=[]->kS M ts us a w->Sw M w->Q .ret a w):∀{o:Out} {ps:List Prop},o.retv ts=some (us,ps)->All ps->o.holds M n Q:=by
 intro o
 induction o with
 |ret K'=>
  intro ps h _ a w hF hS
  obtain⟨us',h1,h2⟩:=Option.map_eq_some_iff.1 h
  cases h2
  exact hq a w hF.size hF.defers (rq hF h1) hS
 |ob p o ih=>
  intro ps h hp
  obtain⟨⟨x,qs⟩,h1,h2⟩:=Option.map_eq_some_iff.1 h
  obtain⟨rfl,rfl⟩:=Prod.mk.inj h2
  exact⟨hp.1,ih h1 hp.2⟩
 |nx K'=>intro ps h;cases h
 |out k K'=>intro ps h;cases h
 |go c fs K'=>intro ps h;cases h
theorem OC {ts:List Nat}(hq:∀a w,a.tmps.size=n->a.defers=[]->kS M ts us a w->Sw M w->Q .normal a w):∀{o:Out} {ps:List Prop},o.nxv ts=some (us,ps)->All ps->o.holds M n Q:=by
 intro o
 induction o with
 |nx K'=>
  intro ps h _ a w hF hS
  obtain⟨us',h1,h2⟩:=Option.map_eq_some_iff.1 h
  cases h2
  exact hq a w hF.size hF.defers (rq hF h1) hS
 |ob p o ih=>
  intro ps h hp
  obtain⟨⟨x,qs⟩,h1,h2⟩:=Option.map_eq_some_iff.1 h
  obtain⟨rfl,rfl⟩:=Prod.mk.inj h2
  exact⟨hp.1,ih h1 hp.2⟩
 |ret K'=>intro ps h;cases h
 |out k K'=>intro ps h;cases h
 |go c fs K'=>intro ps h;cases h
theorem Oa {ts:List Nat}{c:Code}{fs:List Fm}(hq:∀a w,a.tmps.size=n->a.defers=[]->kS M ts us a w->Sw M w->c.wp Tryz.prog (Qof Tryz.prog fs Q) a w):∀{o:Out} {ps:List Prop},o.gov ts=some ((c,fs,us),ps)->All ps->o.holds M n Q:=by
 intro o
 induction o with
 |go c' fs' K'=>
  intro ps h _ a w hF hS
  obtain⟨us',h1,h2⟩:=Option.map_eq_some_iff.1 h
  cases h2
  exact hq a w hF.size hF.defers (rq hF h1) hS
 |ob p o ih=>
  intro ps h hp
  obtain⟨⟨x,qs⟩,h1,h2⟩:=Option.map_eq_some_iff.1 h
  obtain⟨rfl,rfl⟩:=Prod.mk.inj h2
  exact⟨hp.1,ih h1 hp.2⟩
 |ret K'=>intro ps h;cases h
 |out k K'=>intro ps h;cases h
 |nx K'=>intro ps h;cases h
theorem Lu {ts:List Nat}{k:Nat}(hq:∀a w,a.tmps.size=n->a.defers=[]->kS M ts us a w->Sw M w->Q (.exit k) a w):∀{o:Out} {ps:List Prop},o.outv ts=some ((k,us),ps)->All ps->o.holds M n Q:=by
 intro o
 induction o with
 |out k' K'=>
  intro ps h _ a w hF hS
  obtain⟨us',h1,h2⟩:=Option.map_eq_some_iff.1 h
  cases h2
  exact hq a w hF.size hF.defers (rq hF h1) hS
 |ob p o ih=>
  intro ps h hp
  obtain⟨⟨x,qs⟩,h1,h2⟩:=Option.map_eq_some_iff.1 h
  obtain⟨rfl,rfl⟩:=Prod.mk.inj h2
  exact⟨hp.1,ih h1 hp.2⟩
 |ret K'=>intro ps h;cases h
 |nx K'=>intro ps h;cases h
 |go c fs K'=>intro ps h;cases h
theorem bE (hO:Ok Tryz.prog M)(ts:List Nat)(h:(ex M n code K).retv ts=some (us,ps))(hp:All ps){a:Act}{w:World}(hF:FrP M n K a w)(hS:Sw M w)(hq:∀a w,a.tmps.size=n->a.defers=[]->kS M ts us a w->Sw M w->Q .ret a w):code.wp Tryz.prog Q a w:=uF hO (MN hq h hp) a w hF hS
theorem CZ (hO:Ok Tryz.prog M)(ts:List Nat)(h:(ex M n code K).nxv ts=some (us,ps))(hp:All ps){a:Act}{w:World}(hF:FrP M n K a w)(hS:Sw M w)(hq:∀a w,a.tmps.size=n->a.defers=[]->kS M ts us a w->Sw M w->Q .normal a w):code.wp Tryz.prog Q a w:=uF hO (OC hq h hp) a w hF hS
theorem He (hO:Ok Tryz.prog M)(ts:List Nat){k:Nat}(h:(ex M n code K).outv ts=some ((k,us),ps))(hp:All ps){a:Act}{w:World}(hF:FrP M n K a w)(hS:Sw M w)(hq:∀a w,a.tmps.size=n->a.defers=[]->kS M ts us a w->Sw M w->Q (.exit k) a w):code.wp Tryz.prog Q a w:=uF hO (Lu hq h hp) a w hF hS
theorem C9 (hO:Ok Tryz.prog M)(ts:List Nat){c:Code}{fs:List Fm}(h:(ex M n code K).gov ts=some ((c,fs,us),ps))(hp:All ps){a:Act}{w:World}(hF:FrP M n K a w)(hS:Sw M w)(hq:∀a w,a.tmps.size=n->a.defers=[]->kS M ts us a w->Sw M w->c.wp Tryz.prog (Qof Tryz.prog fs Q) a w):code.wp Tryz.prog Q a w:=uF hO (Oa hq h hp) a w hF hS
end
theorem mY {h:Nat->Option Bool}{lp:Nat}{u:PV}{v:Value}{w:World}:Den {M with hint:=h,loops:=lp} u v w↔Den M u v w:=by
 cases u<;>exact Iff.rfl
theorem zP {h:Nat->Option Bool}{lp:Nat}{w:World}:∀{us:List PV} {vals:List Value},il {M with hint:=h,loops:=lp} us vals w->il M us vals w
 |[],[],_=>trivial
 |[],_::_,hd=>hd
 |_::_,[],hd=>hd
 |_::_,_::_,hd=>⟨mY.1 hd.1,zP hd.2⟩
theorem Ok.hint {P:Program}{h:Nat->Option Bool}{lp:Nat}(hO:Ok P M):Ok P {M with hint:=h,loops:=lp}:=⟨⟨hO.wf.B,hO.wf.fix⟩,hO.offs,λt k j u hu w hS=>hO.load t k j u hu w ⟨hS.os,hS.tape,hS.output,hS.size,hS.block⟩|>.imp λv hv=>⟨hv.1,mY.2 hv.2⟩,λf us u c b hc hb=>(hO.call f us u c b hc hb).imp_right λh1 vals w hS hd=>(h1 vals w ⟨hS.os,hS.tape,hS.output,hS.size,hS.block⟩ (zP hd)).mono λe w' ⟨v,e1,e2,e3,e4⟩=>⟨v,e1,mY.2 e2,⟨e3.os,e3.tape,e3.output,e3.size,e3.block⟩,e4⟩,λo ov u hu ρ w hf hS hov=>(hO.oth o ov u hu ρ w hf ⟨hS.os,hS.tape,hS.output,hS.size,hS.block⟩ λx p hx=>mY.1 (hov x p hx)).imp λv hv=>⟨hv.1,mY.2 hv.2⟩⟩
theorem rD {f:Oper->(Operand->Option PV)->Option PV}{u:PV}{v:Value}{w:World}:Den {M with oth:=f} u v w↔Den M u v w:=by
 cases u<;>exact Iff.rfl
theorem De {f:Oper->(Operand->Option PV)->Option PV}{w:World}:∀{us:List PV} {vals:List Value},il {M with oth:=f} us vals w->il M us vals w
 |[],[],_=>trivial
 |[],_::_,hd=>hd
 |_::_,[],hd=>hd
 |_::_,_::_,hd=>⟨rD.1 hd.1,De hd.2⟩
theorem Ok.withOth {P:Program}{f:Oper->(Operand->Option PV)->Option PV}(hO:Ok P M)(hf:∀o ov u,f o ov=some u->∀(ρ:Operand->Value) w,(∀f,ρ (.func f)=.func (.func f) #[] #[])->Sw M w->(∀x p,ov x=some p->Den M p (ρ x) w)->∃v,(execOp ρ o).run P w=.ok (.value v) w/\Den M u v w):Ok P {M with oth:=f}:=⟨⟨hO.wf.B,hO.wf.fix⟩,hO.offs,λt k j u hu w hS=>hO.load t k j u hu w ⟨hS.os,hS.tape,hS.output,hS.size,hS.block⟩|>.imp λv hv=>⟨hv.1,rD.2 hv.2⟩,λf us u c b hc hb=>(hO.call f us u c b hc hb).imp_right λh1 vals w hS hd=>(h1 vals w ⟨hS.os,hS.tape,hS.output,hS.size,hS.block⟩ (De hd)).mono λe w' ⟨v,e1,e2,e3,e4⟩=>⟨v,e1,rD.2 e2,⟨e3.os,e3.tape,e3.output,e3.size,e3.block⟩,e4⟩,λo ov u hu ρ w h1 hS hov=>(hf o ov u hu ρ w h1 ⟨hS.os,hS.tape,hS.output,hS.size,hS.block⟩ λx p hx=>rD.1 (hov x p hx)).imp λv hv=>⟨hv.1,rD.2 hv.2⟩⟩
theorem qd {f:Nat->Option Bool}{u:PV}{v:Value}{w:World}:Den {M with tst:=f} u v w↔Den M u v w:=by
 cases u<;>exact Iff.rfl
theorem EW {f:Nat->Option Bool}{w:World}:∀{us:List PV} {vals:List Value},il {M with tst:=f} us vals w->il M us vals w
 |[],[],_=>trivial
 |[],_::_,hd=>hd
 |_::_,[],hd=>hd
 |_::_,_::_,hd=>⟨qd.1 hd.1,EW hd.2⟩
theorem Ok.withTst {P:Program}{f:Nat->Option Bool}(hO:Ok P M):Ok P {M with tst:=f}:=⟨⟨hO.wf.B,hO.wf.fix⟩,hO.offs,λt k j u hu w hS=>hO.load t k j u hu w ⟨hS.os,hS.tape,hS.output,hS.size,hS.block⟩|>.imp λv hv=>⟨hv.1,qd.2 hv.2⟩,λf us u c b hc hb=>(hO.call f us u c b hc hb).imp_right λh1 vals w hS hd=>(h1 vals w ⟨hS.os,hS.tape,hS.output,hS.size,hS.block⟩ (EW hd)).mono λe w' ⟨v,e1,e2,e3,e4⟩=>⟨v,e1,qd.2 e2,⟨e3.os,e3.tape,e3.output,e3.size,e3.block⟩,e4⟩,λo ov u hu ρ w hf hS hov=>(hO.oth o ov u hu ρ w hf ⟨hS.os,hS.tape,hS.output,hS.size,hS.block⟩ λx p hx=>qd.1 (hov x p hx)).imp λv hv=>⟨hv.1,qd.2 hv.2⟩⟩
theorem rE {u:PV}{v:Value}{w:World}:Den {M with big:=true} u v w↔Den M u v w:=by
 cases u<;>exact Iff.rfl
theorem Da {w:World}:∀{us:List PV} {vals:List Value},il {M with big:=true} us vals w->il M us vals w
 |[],[],_=>trivial
 |[],_::_,hd=>hd
 |_::_,[],hd=>hd
 |_::_,_::_,hd=>⟨rE.1 hd.1,Da hd.2⟩
theorem Ok.big {P:Program}(hO:Ok P M):Ok P {M with big:=true}:=⟨⟨hO.wf.B,hO.wf.fix⟩,hO.offs,λt k j u hu w hS=>hO.load t k j u hu w ⟨hS.os,hS.tape,hS.output,hS.size,hS.block⟩|>.imp λv hv=>⟨hv.1,rE.2 hv.2⟩,λf us u c b hc hb=>(hO.call f us u c b hc hb).imp_right λh1 vals w hS hd=>(h1 vals w ⟨hS.os,hS.tape,hS.output,hS.size,hS.block⟩ (Da hd)).mono λe w' ⟨v,e1,e2,e3,e4⟩=>⟨v,e1,rE.2 e2,⟨e3.os,e3.tape,e3.output,e3.size,e3.block⟩,e4⟩,λo ov u hu ρ w hf hS hov=>(hO.oth o ov u hu ρ w hf ⟨hS.os,hS.tape,hS.output,hS.size,hS.block⟩ λx p hx=>rE.1 (hov x p hx)).imp λv hv=>⟨hv.1,rE.2 hv.2⟩⟩
theorem Sw.hint {w:World}{h:Nat->Option Bool}{lp:Nat}(hS:Sw M w):Sw {M with hint:=h,loops:=lp} w:=⟨hS.os,hS.tape,hS.output,hS.size,hS.block⟩
theorem aZ {n:Nat}{a:Act}{w:World}(h1:a.tmps.size=n)(h2:a.defers=[]):FrP M n [] a w:=⟨h1,h2,λ_ _ h=>by cases h⟩
theorem aF {n:Nat}{K:List (Nat×PV)}{a:Act}{w:World}{t:Nat}{u:PV}{v:Value}(h:FrP M n K a w)(h1:a.tmps[t]? =some v)(h2:Den M u v w):FrP M n ((t,u)::K) a w:=⟨h.size,h.defers,λs x hm=>by
 rcases List.mem_cons.1 hm with h3|h3
 ·cases h3;exact⟨v,h1,h2⟩
 ·exact h.look s x h3⟩
open Go.Proofs.YtnjjeapcalkmaaaGreatDoor.Ev (aM j5 Jo GY)
def G9 (t:TypeId)(f:Nat):Option Nat:=if (t=34/\f<16)\/(t=35/\f<9)\/(t=129/\f<2)\/(t=24/\f<16)\/(t=26/\f<9)\/(t=91/\f<2)\/(t=169/\f<3)\/(t=251/\f<3)then some f
 else if t=37\/t=28 then[0,1,2,3,19][f]? else none
theorem Rq {t:TypeId}{f d:Nat}(h:G9 t f=some d)(b j:Nat)(w:World):(Instr.fieldAt t (.pointer (some ⟨b,j,none⟩)) f).run Tryz.prog w=.ok (.pointer (some ⟨b,j+d,none⟩)) w:=by
 unfold G9 at h
 split at h
 ·rename_i h1
  cases h
  rcases h1 with⟨rfl,h2⟩|⟨rfl,h2⟩|⟨rfl,h2⟩|⟨rfl,h2⟩|⟨rfl,h2⟩|⟨rfl,h2⟩|⟨rfl,h2⟩|⟨rfl,h2⟩
  all_goals
   rcases f with _|_|_|_|_|_|_|_|_|_|_|_|_|_|_|_|f
   all_goals first|omega|go_simp
 split at h
 ·rename_i h1
  rcases h1 with rfl|rfl
  all_goals
   rcases f with _|_|_|_|_|f
   all_goals first|(cases h;go_simp)|cases h
 ·cases h
def Ht (b k j:Nat):Value->PV
 | .string x=>.s (b,x)
 | .bool x=>.v (.bool x)
 |_=>.r k j
def dh (B:Nat)(W:World)(fix:List Nat)(b:Nat)(rows:List (Option (Nat×Nat)×List Value))(call:FuncId->List PV->Option (PV×Bool×Option Prop)):Mem:=
 {B:=B,W:=W,fix:=fix,blk:=j5 rows,cell:=aM rows,offs:=G9,call:=call,load:=λt k j=>match rows[k]? with
   |some (some _,l)=>if Jo t=true then(match l[j]? with
    |some v=>some (Ht b k j v)
    |none=>none)else(match GY t with
    |some n=>if j+n<=l.length then some (.a k j n)else none
    |none=>none)
   |_=>none}
theorem ni {B:Nat}{W:World}{fix:List Nat}{b:Nat}{rows:List (Option (Nat×Nat)×List Value)}{call:FuncId->List PV->Option (PV×Bool×Option Prop)}(hB:B<=W.heap.size)(hf:∀g∈fix,g<W.heap.size)
 (h2:∀(k g o:Nat) (l:List Value),rows[k]? =some (some (g,o),l)->(g<B\/g∈fix)/\∀w:World,w.heap[g]? =W.heap[g]?->∀(j:Nat) (v:Value),l[j]? =some v->w.cell? ⟨g,o+j,none⟩=some v)
 (hb:∀(k:Nat) (p:Nat×Nat) (l:List Value),rows[k]? =some (some p,l)->∀x,Value.string x∈l->x.size<=b)
 (h3:∀f us u c q,call f us=some (u,c,q)->(∀p,q=some p->p)->(∀args w,(callFunc f args).run Tryz.prog w=.ok (.enter f args) w)/\∀(vals:List Value) w,Sw (dh B W fix b rows call) w->il (dh B W fix b rows call) us vals w->Calls Tryz.prog f vals.toArray w λe w'=>∃v,e=.returned v/\Den (dh B W fix b rows call) u v w'/\Sw (dh B W fix b rows call) w'/\(c=false->Below w.heap.size w w')):
 Ok Tryz.prog (dh B W fix b rows call):=by
 refine⟨⟨hB,hf⟩,λt f d h=>Rq h,λt k j u h w hS=>?_,h3,λ_ _ _ h=>by cases h⟩
 have h:(match rows[k]? with
  |some (some _,l)=>if Jo t=true then(match l[j]? with
   |some v=>some (Ht b k j v)
   |none=>none)else(match GY t with
   |some n=>if j+n<=l.length then some (.a k j n)else none
   |none=>none)
  |_=>none)=some u:=h
 split at h
 ·rename_i p l hr
  obtain⟨g,o⟩:=p
  have hbk:(j5 rows).getD k (0,0)=(g,o):=by simp[j5,hr]
  have hptr:(dh B W fix b rows call).ptr k j=.pointer (some ⟨g,o+j,none⟩):=by
   show Value.pointer (some ⟨((j5 rows).getD k (0,0)).1,((j5 rows).getD k (0,0)).2+j,none⟩)=_
   rw[hbk]
  obtain⟨hpr,hc⟩:=h2 k g o l hr
  have hcell:=hc w (hS.block g hpr)
  have hR:∀j (v:Value),l[j]? =some v->aM rows k j=v:=λj v hj=>by
   unfold aM
   simp[hr,hj]
  rw[hptr]
  split at h
  ·rename_i ht
   split at h
   ·rename_i v hv
    cases h
    refine⟨v,Ev.BS ht _ w _ (hcell j v hv),?_⟩
    unfold Ht
    split
    ·rename_i x
     show Value.string x=.string (st (b,x))
     rw[show st (b,x)=x from bW (hb k _ l hr x (List.mem_of_getElem? hv))]
    ·rfl
    ·show v=aM rows k j
     exact(hR j v hv).symm
   ·cases h
  ·split at h
   ·rename_i n hn
    split at h
    ·rename_i hj
     cases h
     refine⟨_,Ev.xY hn g (o+j) w (λi=>aM rows k (j+i)) λi hi=>?_,rfl⟩
     have hlt:j+i<l.length:=by omega
     rw[Nat.add_assoc,hR (j+i) _ (List.getElem?_eq_getElem hlt)]
     exact hcell (j+i) _ (List.getElem?_eq_getElem hlt)
    ·cases h
   ·cases h
 ·cases h
theorem bv {W:World}{g:Nat}{l:List Value}{t:TypeId}(h:W.heap[g]? =some (.cells l.toArray t (0,0))):∀w:World,w.heap[g]? =W.heap[g]?->∀(j:Nat) (v:Value),l[j]? =some v->w.cell? ⟨g,0+j,none⟩=some v:=λw hw j v hv=>by
 rw[Nat.zero_add,cell_of_row _ _ _ _ _ _ (hw.trans h)]
 simpa using hv
def gZ (f:FuncId)(args:Array Value)(w:World)(x:ByteArray):Prop:=Calls Tryz.prog f args w λe w'=>e=.returned (.string x)/\Below w.heap.size w w'
end Go.Proofs.YtnjjeapcalkmaaaGreatDoor.Se
