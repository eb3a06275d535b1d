/-
  Part 8 of a proof; written short by a program out of longer texts of mine.
-/
import Derived.Test.YtnjjeapcalkmaaaGreatDoorPfG
set_option maxRecDepth 100000
set_option maxHeartbeats 4000000
set_option linter.unusedVariables false
set_option linter.unusedSimpArgs false
namespace Go.Proofs.YtnjjeapcalkmaaaGreatDoor.Ps
open Go
theorem zO:∀(ps:List (Bs×Bs)) (a j:Nat) (g t:Bs),ps[j]? =some (g,t)->ae (Lx.jY ps a) j (Lx.aC ⟨t.toArray⟩).1 ⟨t.toArray⟩
 |[],a,j,g,t,h=>by simp at h
 |(g',t')::ps,a,0,g,t,h=>by
  simp at h
  obtain⟨rfl,rfl⟩:=h
  exact⟨_,rfl⟩
 |(g',t')::ps,a,j+1,g,t,h=>by
  obtain⟨o,ho⟩:=zO ps (a+g'.length+t'.length) j g t (by simpa using h)
  exact⟨o,by rw[Lx.jY];simpa using ho⟩
theorem oU:∀(ps:List (Bs×Bs)) (a:Nat),(Lx.jY ps a).length=ps.length
 |[],_=>rfl
 |(g,t)::ps,a=>by rw[Lx.jY,List.length_cons,oU ps,List.length_cons]
section
variable {E : Env} {l : List Tok} {a : Nat}
theorem yc {t:ByteArray}(h:ae l a 1 t)(hf:E.valid 1 t=true):member E l a=.ok (t,a+1):=pg h (by simp) hf
theorem PY {t:ByteArray}(h:ae l a 1 t)(hf:E.valid 0 t=true):isin E l a=.ok (t,a+1):=pg h (by simp) hf
theorem Gb {k:Int}{t:ByteArray}(h:ae l a k t)(hk:k∈([1,2,4]:List Int))(hf:E.valid 2 t=true):ref E l a=.ok (t,a+1):=pg h hk hf
theorem oz {f A t B:ByteArray}(h0:ae l a 0 f)(hf:f.data.toList=lm)(h1:ae l (a+1) 1 A)(v1:E.valid 1 A=true)(h2:ae l (a+2) 0 t)(ht:t.data.toList=sTo)(h3:ae l (a+3) 1 B)(v3:E.valid 1 B=true):
 parties E l a=.ok ((A,B),a+4):=by
 unfold parties
 rw[bind_ok (fB h0 hf),bind_ok (yc h1 v1),bind_ok (fB h2 ht),bind_ok (yc h3 v3)]
 rfl
theorem LK {b A:ByteArray}(h0:ae l a 0 b)(hb:b.data.toList=sBy)(h1:ae l (a+1) 1 A)(v1:E.valid 1 A=true):by_ E l a=.ok (A,a+2):=by
 unfold by_
 rw[bind_ok (fB h0 hb)]
 exact pg h1 (by simp) v1
theorem mX {w1 X w2 N:ByteArray}(i:Ins){n:Int}(h0:ae l a 0 w1)(hw1:w1.data.toList=je)(h1:ae l (a+1) 1 X)(v1:E.valid 0 X=true)(h2:ae l (a+2) 0 w2)(hw2:w2.data.toList=bU)(h3:ae l (a+3) 2 N)(v3:E.number N=(n,0)):
 security E l i a=.ok ({i with asset:=X,quantity:=n},a+4):=by
 unfold security
 rw[bind_ok (fB h0 hw1),bind_ok (PY h1 v1),bind_ok (fB h2 hw2),bind_ok (mg h3 n v3)]
 rfl
theorem D8 (i:Ins){A B w1 C w2 D:ByteArray}{n d:Int}(hp:parties E l a=.ok ((A,B),a+4))(h4:ae l (a+4) 0 w1)(hw1:w1.data.toList=bJ)(h5:ae l (a+5) 3 C)(v5:E.cash C=(n,0))
 (h6:ae l (a+6) 0 w2) (hw2:w2.data.toList=dF) (h7:ae l (a+7) 4 D) (v7:E.date D=(d,0)):
 payment E l i a=options E l (l.length+1) {} {i with kind:=0,asset:=sU,sender:=A,counterparty:=B,amount:=n,settleDay:=d} (a+8):=by
 unfold payment
 rw[bind_ok hp,bind_ok (fB h4 hw1),bind_ok (BQ h5 n v5),bind_ok (fB h6 hw2),bind_ok (pK h7 d v7)]
theorem FD (i:Ins){A B X w1 C w2 T w3 D:ByteArray}{q n t d:Int}(hp:parties E l a=.ok ((A,B),a+4))(hs:∀j,security E l j (a+4)=.ok ({j with asset:=X,quantity:=q},a+8))
 (h8:ae l (a+8) 0 w1) (hw1:w1.data.toList=eT) (h9:ae l (a+9) 3 C) (v9:E.cash C=(n,0)) (h10:ae l (a+10) 0 w2) (hw2:w2.data.toList=iD) (h11:ae l (a+11) 4 T) (v11:E.date T=(t,0))
 (h12:ae l (a+12) 0 w3) (hw3:w3.data.toList=dF) (OX:ae l (a+13) 4 D) (v13:E.date D=(d,0)):
 trade E l i a=options E l (l.length+1) {} {i with kind:=1,sender:=A,counterparty:=B,asset:=X,quantity:=q,amount:=n,tradeDay:=t,settleDay:=d} (a+14):=by
 unfold trade
 rw[bind_ok hp,bind_ok (hs _)]
 have e1:(λa=>if (aQ l a).data.toList=jr then(.ok (({i with kind:=2,sender:=A,counterparty:=B,asset:=X,quantity:=q}:Ins),a+1):Except Er (Ins×Nat))else bind' (word l eT) (λ_=>bind' (cash E l) λn=>dw ({i with kind:=1,sender:=A,counterparty:=B,asset:=X,quantity:=q,amount:=n}:Ins)) a) (a+8)=.ok ({i with kind:=1,sender:=A,counterparty:=B,asset:=X,quantity:=q,amount:=n},a+10):=by
  show(if _ then _ else _)=_
  rw[if_neg (by rw[dX h8,hw1];decide),bind_ok (fB h8 hw1),bind_ok (BQ h9 n v9)]
  rfl
 refine(bind_ok e1).trans ?_
 rw[bind_ok (fB h10 hw2),bind_ok (pK h11 t v11),bind_ok (fB h12 hw3),bind_ok (pK OX d v13)]
theorem free_at (i:Ins){A B X w1 w2 T w3 D:ByteArray}{q t d:Int}(hp:parties E l a=.ok ((A,B),a+4))(hs:∀j,security E l j (a+4)=.ok ({j with asset:=X,quantity:=q},a+8))
 (h8:ae l (a+8) 0 w1) (hw1:w1.data.toList=jr) (h9:ae l (a+9) 0 w2) (hw2:w2.data.toList=iD) (h10:ae l (a+10) 4 T) (v10:E.date T=(t,0))
 (h11:ae l (a+11) 0 w3) (hw3:w3.data.toList=dF) (h12:ae l (a+12) 4 D) (v12:E.date D=(d,0)):
 trade E l i a=options E l (l.length+1) {} {i with kind:=2,sender:=A,counterparty:=B,asset:=X,quantity:=q,tradeDay:=t,settleDay:=d} (a+13):=by
 unfold trade
 rw[bind_ok hp,bind_ok (hs _)]
 have e1:(λa=>if (aQ l a).data.toList=jr then(.ok (({i with kind:=2,sender:=A,counterparty:=B,asset:=X,quantity:=q}:Ins),a+1):Except Er (Ins×Nat))else bind' (word l eT) (λ_=>bind' (cash E l) λn=>dw ({i with kind:=1,sender:=A,counterparty:=B,asset:=X,quantity:=q,amount:=n}:Ins)) a) (a+8)=.ok ({i with kind:=2,sender:=A,counterparty:=B,asset:=X,quantity:=q},a+9):=by
  show(if _ then _ else _)=_
  rw[if_pos (by rw[dX h8,hw1])]
 refine(bind_ok e1).trans ?_
 rw[bind_ok (fB h9 hw2),bind_ok (pK h10 t v10),bind_ok (fB h11 hw3),bind_ok (pK h12 d v12)]
theorem xq (k:Int)(i:Ins){A X w1 D:ByteArray}{q d:Int}(hb:by_ E l a=.ok (A,a+2))(hs:∀j,security E l j (a+2)=.ok ({j with asset:=X,quantity:=q},a+6))(h6:ae l (a+6) 0 w1)(hw1:w1.data.toList=dF)(h7:ae l (a+7) 4 D)(v7:E.date D=(d,0)):
 collateral E l k i a=.ok ({i with kind:=k,sender:=A,asset:=X,quantity:=q,settleDay:=d},a+8):=by
 unfold collateral
 rw[bind_ok hb,bind_ok (hs _),bind_ok (fB h6 hw1),bind_ok (pK h7 d v7)]
 rfl
end
theorem nY {E:Env}{l:List Tok}{v R:ByteArray}{k:Int}(h0:ae l 0 0 v)(hv:v.data.toList∈verbs)(h1:ae l 1 k R)(hk:k∈([1,2,4]:List Int))(vr:E.valid 2 R=true)(q:Req)(hr:rest E l v.data.toList {ref:=R} 2=.ok (q,l.length)):line E l 0=.ok (q,l.length):=by
 unfold line
 rw[if_neg (by have:=h0.lt;omega),dX h0,if_pos hv,bind_ok (Gb h1 hk vr)]
 show bind' _ _ 2=_
 rw[bind_ok hr,if_neg (by omega)]
theorem af {c:Prop}[Decidable c]{n x:Int}(h:(if c then n else x)=0)(hn:n≠0):¬c/\x=0:=by
 by_cases hc:c
 ·rw[if_pos hc]at h;exact absurd h hn
 ·rw[if_neg hc]at h;exact⟨hc,h⟩
structure kW (V:Nat->ByteArray->Bool)(i:Ins):Prop where
 kind:i.kind=0\/i.kind=1\/i.kind=2\/i.kind=3\/i.kind=4
 ref:V 2 i.ref=true
 sender:V 1 i.sender=true
 cpN:(i.kind=3\/i.kind=4)->i.counterparty=⟨#[]⟩
 cpY:¬(i.kind=3\/i.kind=4)->V 1 i.counterparty=true
 side:i.side=0\/i.side=1
 sideN:¬(i.kind=1\/i.kind=2)->i.side=0
 asset0:i.kind=0->i.asset=sU
 asset:i.kind≠0->V 0 i.asset=true
 qty:i.kind≠0->1<=i.quantity/\i.quantity<=bS
 qty0:i.kind=0->i.quantity=0
 am:(i.kind=0\/i.kind=1)->1<=i.amount/\i.amount<=bS
 am0:¬(i.kind=0\/i.kind=1)->i.amount=0
 settle:0<=i.settleDay/\i.settleDay<=bN
 trade:(i.kind=1\/i.kind=2)->0<=i.tradeDay/\i.tradeDay<=i.settleDay
 trade0:¬(i.kind=1\/i.kind=2)->i.tradeDay=0
 prio:0<=i.priority/\i.priority<=2
 prio0:(i.kind=3\/i.kind=4)->i.priority=0
 part:i.partial_=true->i.kind=1\/i.kind=2
 lot:i.partial_=true->1<=i.minLot/\i.minLot<=i.quantity
 lot0:i.partial_=false->i.minLot=0
 hold:(i.kind=3\/i.kind=4)->i.hold=false
 res:i.reserve=true->i.kind=0/\i.priority=2
 links0:(i.kind=3\/i.kind=4)->i.links=[]
 links:i.links.length<=8
 link:∀x∈i.links,(x.type=0\/x.type=1)/\V 2 x.ref=true
theorem zT (V:Nat->ByteArray->Bool)(i:Ins):∀(r seen:List Link),eU V i seen r=0->∀x∈r,(x.type=0\/x.type=1)/\V 2 x.ref=true
 |[],_,_,x,hx=>by cases hx
 |y::r,seen,h,x,hx=>by
  unfold eU at h
  split at h
  ·cases h
  rename_i h1
  split at h
  ·cases h
  rename_i h2
  split at h
  ·cases h
  split at h
  ·cases h
  rcases List.mem_cons.1 hx with rfl|hx
  ·exact⟨by omega,by simpa using h2⟩
  ·exact zT V i r _ h x hx
theorem RD (V:Nat->ByteArray->Bool)(i:Ins)(h:ny V i=0):kW V i:=by
 unfold ny at h
 obtain⟨r1,h⟩:=af h (by decide)
 obtain⟨r2,h⟩:=af h (by decide)
 obtain⟨r3,h⟩:=af h (by decide)
 obtain⟨r4,h⟩:=af h (by decide)
 obtain⟨r5,h⟩:=af h (by decide)
 obtain⟨r6,h⟩:=af h (by decide)
 obtain⟨r7,h⟩:=af h (by decide)
 obtain⟨r8,h⟩:=af h (by decide)
 obtain⟨r9,h⟩:=af h (by decide)
 obtain⟨r10,h⟩:=af h (by decide)
 obtain⟨r11,h⟩:=af h (by decide)
 obtain⟨r12,h⟩:=af h (by decide)
 obtain⟨r13,h⟩:=af h (by decide)
 obtain⟨r14,h⟩:=af h (by decide)
 obtain⟨r15,h⟩:=af h (by decide)
 obtain⟨r16,h⟩:=af h (by decide)
 obtain⟨r17,h⟩:=af h (by decide)
 obtain⟨r18,h⟩:=af h (by decide)
 obtain⟨r19,h⟩:=af h (by decide)
 obtain⟨r20,h⟩:=af h (by decide)
 have k1:i.kind=0\/i.kind=1\/i.kind=2\/i.kind=3\/i.kind=4:=by omega
 exact{
  kind:=k1
  ref:=by simpa using r2
  sender:=by simpa using r3
  cpN:=λhk=>Classical.byContradiction λhc=>r4 ⟨hk,hc⟩
  cpY:=λhk=>by
   cases hv:V 1 i.counterparty with
   |true=>rfl
   |false=>exact absurd ⟨hk,hv⟩ r5
  side:=by omega
  sideN:=λhk=>Classical.byContradiction λhc=>r8 ⟨hk,hc⟩
  asset0:=λhk=>by
   rw[if_pos hk]at r9
   exact Classical.byContradiction r9
  asset:=λhk=>by
   rw[if_neg hk]at r9
   exact Classical.byContradiction r9
  qty:=λhk=>by
   rw[if_pos hk]at r10
   exact Classical.byContradiction r10
  qty0:=λhk=>by
   rw[if_neg (by omega)]at r10
   exact Classical.byContradiction r10
  am:=λhk=>by
   rw[if_pos hk]at r11
   exact Classical.byContradiction r11
  am0:=λhk=>by
   rw[if_neg hk]at r11
   exact Classical.byContradiction r11
  settle:=Classical.byContradiction r12
  trade:=λhk=>Classical.byContradiction λhc=>r13 (.inl ⟨hk,hc⟩)
  trade0:=λhk=>Classical.byContradiction λhc=>r13 (.inr ⟨hk,hc⟩)
  prio:=by omega
  prio0:=λhk=>by omega
  part:=λhp=>Classical.byContradiction λhc=>r15 ⟨hp,hc⟩
  lot:=λhp=>by
   rw[hp]at r16
   simp only[if_true,true_and]at r16
   omega
  lot0:=λhp=>by
   rw[hp]at r16
   simp only[Bool.false_eq_true,if_false,false_and,false_or]at r16
   omega
  hold:=λhk=>by
   cases hv:i.hold with
   |false=>rfl
   |true=>exact absurd ⟨hv,hk⟩ r17
  res:=λhp=>by
   have hn:¬(i.kind≠0\/i.priority≠2):=λhc=>r18 ⟨hp,hc⟩
   omega
  links0:=λhk=>List.eq_nil_of_length_eq_zero (by omega)
  links:=by omega
  link:=zT V i _ _ h}
theorem Ins.none_eq {i:Ins}(h:i.none):i={}:=by
 obtain⟨h1,h2,h3,h4,h5,h6,h7,h8,h9,h10,h11,h12,OX,h14,Kb,h16⟩:=h
 cases i
 simp only at h1 h2 h3 h4 h5 h6 h7 h8 h9 h10 h11 h12 OX h14 Kb h16
 have h16:=List.eq_nil_of_length_eq_zero h16
 subst h1 h2 h3 h4 h5 h6 h7 h8 h9 h10 h11 h12 OX h14 Kb h16
 rfl
theorem Amd.none_eq {a:Amd}(h:a.none):a={}:=by
 obtain⟨h1,h2,h3,h4,h5,h6,h7,h8,h9⟩:=h
 cases a
 simp only at h1 h2 h3 h4 h5 h6 h7 h8 h9
 subst h1 h2 h3 h4 h5 h6 h7 h8 h9
 rfl
structure tK (a:Amd):Prop where
 some:a.hasAmount=true\/a.hasSettleDay=true\/a.hasPriority=true\/a.hasPartial=true
 am0:a.hasAmount=false->a.amount=0
 am:a.hasAmount=true->1<=a.amount/\a.amount<=bS
 day0:a.hasSettleDay=false->a.settleDay=0
 day:0<=a.settleDay/\a.settleDay<=bN
 prio0:a.hasPriority=false->a.priority=0
 prio:0<=a.priority/\a.priority<=2
 part0:a.hasPartial=false->a.partial_=false
 lot:a.partial_=true->1<=a.minLot/\a.minLot<=bS
 lot0:a.partial_=false->a.minLot=0
theorem Ql (a:Amd)(h:xB a=0):tK a:=by
 unfold xB at h
 obtain⟨r1,h⟩:=af h (by decide)
 obtain⟨r2,h⟩:=af h (by decide)
 obtain⟨r3,h⟩:=af h (by decide)
 obtain⟨r4,h⟩:=af h (by decide)
 obtain⟨r5,h⟩:=af h (by decide)
 obtain⟨r6,_⟩:=af h (by decide)
 exact{
  some:=by
   cases h1:a.hasAmount<;>cases h2:a.hasSettleDay<;>cases h3:a.hasPriority<;>cases h4:a.hasPartial<;>simp_all
  am0:=λhk=>Classical.byContradiction λhc=>r2 (.inl ⟨hk,hc⟩)
  am:=λhk=>by
   rw[if_pos hk]at r3
   exact Classical.byContradiction r3
  day0:=λhk=>Classical.byContradiction λhc=>r2 (.inr (.inl ⟨hk,hc⟩))
  day:=Classical.byContradiction r4
  prio0:=λhk=>Classical.byContradiction λhc=>r2 (.inr (.inr (.inl ⟨hk,hc⟩)))
  prio:=Classical.byContradiction r5
  part0:=λhk=>by
   cases hv:a.partial_ with
   |false=>rfl
   |true=>exact absurd (.inr (.inr (.inr ⟨hk,.inl hv⟩))) r2
  lot:=λhk=>by
   rw[if_pos hk]at r6
   exact Classical.byContradiction r6
  lot0:=λhk=>by
   rw[if_neg (by simp[hk])]at r6
   exact Classical.byContradiction r6}
theorem nk (V:Nat->ByteArray->Bool)(q:Req)(h:yN V q=0):V 1 q.sender=true/\V 2 q.ref=true/\
 ((q.op=0/\kW V q.ins/\q={op:=0,sender:=q.ins.sender,ref:=q.ins.ref,ins:=q.ins})\/(q.op=1/\tK q.amd/\q={op:=1,sender:=q.sender,ref:=q.ref,amd:=q.amd})\/((q.op=2\/q.op=3\/q.op=4)/\q={op:=q.op,sender:=q.sender,ref:=q.ref})):=by
 unfold yN at h
 split at h
 ·cases h
 rename_i r1
 split at h
 ·cases h
 rename_i r2
 split at h
 ·cases h
 rename_i r3
 refine⟨by simpa using r2,by simpa using r3,?_⟩
 split at h
 ·rename_i h0
  left
  split at h
  ·rename_i hz;exact absurd h hz
  rename_i r4
  split at h
  ·cases h
  rename_i r5
  split at h
  ·cases h
  rename_i r6
  have r4:ny V q.ins=0:=Classical.byContradiction r4
  have r6:q.amd.none:=Classical.byContradiction r6
  refine⟨h0,RD V _ r4,?_⟩
  have e1:q.ins.ref=q.ref:=Classical.byContradiction λhc=>r5 (.inl hc)
  have e2:q.ins.sender=q.sender:=Classical.byContradiction λhc=>r5 (.inr hc)
  have e3:=Amd.none_eq r6
  cases q
  simp only at h0 e1 e2 e3
  subst h0 e3
  simp only[e1,e2]
 ·rename_i h0
  right
  split at h
  ·cases h
  rename_i r4
  have e3:=Ins.none_eq (Classical.byContradiction r4)
  split at h
  ·rename_i h1
   left
   refine⟨h1,Ql _ h,?_⟩
   cases q
   simp only at h1 e3
   subst h1 e3
   rfl
  ·rename_i h1
   right
   split at h
   ·cases h
   rename_i r6
   have e4:=Amd.none_eq (Classical.byContradiction r6)
   refine⟨by omega,?_⟩
   cases q
   simp only at e3 e4
   subst e3 e4
   rfl
def ek (l:List Tok)(a:Nat)(ts:List ByteArray):Prop:=∀(j:Nat) (t:ByteArray),ts[j]? =some t->ae l (a+j) (Lx.aC t).1 t
theorem ek.head {l:List Tok}{a:Nat}{t:ByteArray}{ts:List ByteArray}(h:ek l a (t::ts)):ae l a (Lx.aC t).1 t:=h 0 t rfl
theorem ek.tail {l:List Tok}{a:Nat}{t:ByteArray}{ts:List ByteArray}(h:ek l a (t::ts)):ek l (a+1) ts:=λj x hx=>by
 have:=h (j+1) x (by simpa using hx)
 rwa [show a+(j+1)=a+1+j from by omega]at this
theorem ek.left {l:List Tok}{a:Nat}{ts us:List ByteArray}(h:ek l a (ts++us)):ek l a ts:=λj x hx=>
 h j x (by rw[List.getElem?_append_left (List.getElem?_eq_some_iff.1 hx).1];exact hx)
theorem ek.right {l:List Tok}{a:Nat}{ts us:List ByteArray}(h:ek l a (ts++us)):ek l (a+ts.length) us:=λj x hx=>by
 have:=h (ts.length+j) x (by rw[List.getElem?_append_right (by omega)];simpa using hx)
 rwa [show a+(ts.length+j)=a+ts.length+j from by omega]at this
theorem ae.of {l:List Tok}{a:Nat}{t:ByteArray}{k:Int}(h:ae l a (Lx.aC t).1 t)(hk:Lx.aC t=(k,0)):ae l a k t:=by rw[hk]at h;exact h
def bw (w:Bs):ByteArray:=⟨w.toArray⟩
def bO (n:Int):ByteArray:=⟨(dec n.toNat).toArray⟩
def cB (n:Int):ByteArray:=⟨(bq n.toNat).toArray⟩
structure fw (E:Env)(D:Int->ByteArray):Prop where
 named:∀k s,k<3->E.valid k s=true->Lx.all Lx.named s.data.toList=true/\s.size<=32
 upper:∀k s,k<2->E.valid k s=true->Lx.aC s=(1,0)
 number:∀n:Int,1<=n->n<=bS->E.number (bO n)=(n,0)
 cash:∀n:Int,1<=n->n<=bS->E.cash (cB n)=(n,0)
 date:∀n:Int,0<=n->n<=bN->E.date (D n)=(n,0)
 day:∀n:Int,0<=n->n<=bN->Lx.aC (D n)=(4,0)
 daySolid:∀n:Int,0<=n->n<=bN->Lx.gm (D n).data.toList=true/\(D n).data.toList≠[]
def qp (t:ByteArray):Prop:=Lx.gm t.data.toList=true/\t.data.toList≠[]/\(Lx.aC t).2=0
section
variable {E : Env} {D : Int → ByteArray}
theorem fw.refK (hE:fw E D){s:ByteArray}(h:E.valid 2 s=true):(Lx.aC s).1∈([1,2,4]:List Int)/\qp s:=by
 obtain⟨h1,h2⟩:=hE.named 2 s (by omega) h
 obtain⟨k,hk,hc⟩:=gX s h1 h2
 obtain⟨h3,h4⟩:=su h1
 exact⟨by rw[hc];exact hk,h3,h4,by rw[hc]⟩
theorem fw.upG (hE:fw E D){k:Nat}{s:ByteArray}(hk:k<2)(h:E.valid k s=true):qp s:=by
 obtain⟨h1,h2⟩:=hE.named k s (by omega) h
 obtain⟨h3,h4⟩:=su h1
 exact⟨h3,h4,by rw[hE.upper k s hk h]⟩
theorem gK {n:Int}(h1:1<=n)(h2:n<=bS):Lx.aC (bO n)=(2,0)/\qp (bO n):=by
 unfold bS at h2
 have hc:=zz n.toNat (by omega) (by omega)
 obtain⟨d1,d2,_⟩:=di n.toNat
 exact⟨hc,vU d1,d2,by show(Lx.aC ⟨(dec n.toNat).toArray⟩).2=0;rw[hc]⟩
theorem jL {n:Int}(h2:n<=bS):Lx.aC (cB n)=(3,0)/\qp (cB n):=by
 unfold bS at h2
 have hc:=xg n.toNat (by omega)
 refine⟨hc,Cy _,?_,by show(Lx.aC ⟨(bq n.toNat).toArray⟩).2=0;rw[hc]⟩
 show bq n.toNat≠[]
 unfold bq
 simp
theorem fw.dayG (hE:fw E D){n:Int}(h1:0<=n)(h2:n<=bN):qp (D n):=⟨(hE.daySolid n h1 h2).1,(hE.daySolid n h1 h2).2,by rw[hE.day n h1 h2]⟩
end
def qP (w:Bs):Bool:=decide (Lx.aC (bw w)=(0,0))&&Lx.gm w&&!w.isEmpty
theorem jT {w:Bs}(h:qP w=true):Lx.aC (bw w)=(0,0)/\qp (bw w):=by
 unfold qP at h
 simp only[Bool.and_eq_true,decide_eq_true_eq,Bool.not_eq_true',List.isEmpty_eq_false_iff]at h
 exact⟨h.1.1,h.1.2,h.2,by rw[h.1.1]⟩
theorem ek.word {l:List Tok}{a:Nat}{w:Bs}(h:ae l a (Lx.aC (bw w)).1 (bw w))(hw:qP w=true):ae l a 0 (bw w):=h.of (jT hw).1
def iW (p:Int):Bs:=if p=0 then qb else if p=1 then Hz else uX
def GK (x:Link):List ByteArray:=[bw (if x.type=0 then iV else eF),x.ref]
theorem qf {p:Int}(h:0<=p/\p<=2):qP (iW p)=true/\Ps.prio (iW p)=some p:=by
 rcases(show p=0\/p=1\/p=2 by omega)with rfl|rfl|rfl<;>exact⟨by decide +kernel,by decide⟩
section
variable (E : Env) (l : List Tok) (f : Nat) (s : Seen) (i : Amd) (a : Nat)
theorem K7 (hlt:a<l.length)(p:Int)(hp:prio (aQ l a).data.toList=some p):changes E l (f+1) s i a=if s.prio=true then .error (ai l a,7)else changes E l f {s with prio:=true} {i with hasPriority:=true,priority:=p} (a+1):=by
 conv=>lhs;unfold changes
 rw[if_neg (by omega),hp]
 simp only[]
 by_cases h:s.prio=true
 ·rw[if_pos h,if_pos h];rfl
 ·rw[if_neg h,if_neg h]
theorem LD (hlt:a<l.length)(hw:(aQ l a).data.toList=aM):changes E l (f+1) s i a=if s.part=true then .error (ai l a,7)else bind' (quantity E l) (λn=>changes E l f {s with part:=true} {i with hasPartial:=true,partial_:=true,minLot:=n}) (a+1):=by
 conv=>lhs;unfold changes
 rw[if_neg (by omega),hw,show prio aM=none from by decide]
 simp only[if_true]
 by_cases h:s.part=true
 ·rw[if_pos h,if_pos h];rfl
 ·rw[if_neg h,if_neg h]
theorem JI (hlt:a<l.length)(hw:(aQ l a).data.toList=eG):changes E l (f+1) s i a=if s.part=true then .error (ai l a,7)else changes E l f {s with part:=true} {i with hasPartial:=true} (a+1):=by
 conv=>lhs;unfold changes
 rw[if_neg (by omega),hw,show prio eG=none from by decide]
 simp only[]
 rw[if_neg (by decide),if_pos trivial]
 by_cases h:s.part=true
 ·rw[if_pos h,if_pos h];rfl
 ·rw[if_neg h,if_neg h]
theorem GV (hlt:a<l.length)(hw:(aQ l a).data.toList=bJ):changes E l (f+1) s i a=if s.amount=true then .error (ai l a,7)else bind' (cash E l) (λn=>changes E l f {s with amount:=true} {i with hasAmount:=true,amount:=n}) (a+1):=by
 conv=>lhs;unfold changes
 rw[if_neg (by omega),hw,show prio bJ=none from by decide]
 simp only[]
 rw[if_neg (by decide),if_neg (by decide),if_pos trivial]
 by_cases h:s.amount=true
 ·rw[if_pos h,if_pos h];rfl
 ·rw[if_neg h,if_neg h]
theorem PX (hlt:a<l.length)(hw:(aQ l a).data.toList=dF):changes E l (f+1) s i a=if s.day=true then .error (ai l a,7)else bind' (day E l) (λn=>changes E l f {s with day:=true} {i with hasSettleDay:=true,settleDay:=n}) (a+1):=by
 conv=>lhs;unfold changes
 rw[if_neg (by omega),hw,show prio dF=none from by decide]
 simp only[]
 rw[if_neg (by decide),if_neg (by decide),if_neg (by decide),if_pos trivial]
 by_cases h:s.day=true
 ·rw[if_pos h,if_pos h];rfl
 ·rw[if_neg h,if_neg h]
end
theorem BG (E:Env)(l:List Tok)(f:Nat)(s:Seen)(i:Amd)(a:Nat)(h:l.length<=a):changes E l (f+1) s i a=.ok (i,a):=by
 conv=>lhs;unfold changes
 rw[if_pos h]
def Ih (a:Amd):List ByteArray:=if a.hasAmount=true then[bw bJ,cB a.amount]else[]
def pz (D:Int->ByteArray)(a:Amd):List ByteArray:=if a.hasSettleDay=true then[bw dF,D a.settleDay]else[]
def uI (a:Amd):List ByteArray:=if a.hasPriority=true then[bw (iW a.priority)]else[]
def oV (a:Amd):List ByteArray:=if a.hasPartial=true then(if a.partial_=true then[bw aM,bO a.minLot]else[bw eG])else[]
def yC (D:Int->ByteArray)(a:Amd):List ByteArray:=Ih a++(pz D a++(uI a++oV a))
theorem Bq {E:Env}{D:Int->ByteArray}(hE:fw E D)(l:List Tok)(m:Amd)(f:Nat)(s:Seen)(j:Amd)(a:Nat)(h:ek l a (oV m))(hl:l.length=a+(oV m).length)(hf:(oV m).length<f)(hs:s.part=false)(hm:tK m)(hj1:j.hasPartial=false)(hj2:j.partial_=false)(Kc:j.minLot=0):
 changes E l f s j a=.ok ({j with hasPartial:=m.hasPartial,partial_:=m.partial_,minLot:=m.minLot},l.length):=by
 unfold oV at h hl hf
 cases f with
 |zero=>omega
 |succ f=>
  by_cases hr:m.hasPartial=true
  ·simp only[if_pos hr]at h hl hf
   by_cases hp:m.partial_=true
   ·simp only[if_pos hp]at h hl hf
    have h2:([bw aM,bO m.minLot]:List ByteArray).length=2:=rfl
    rw[h2]at hl hf
    obtain⟨m1,m2⟩:=hm.lot hp
    have h0:=ek.word h.head (by decide +kernel)
    have h1:=h.tail.head.of (gK m1 m2).1
    cases f with
    |zero=>omega
    |succ f=>
     rw[LD E l _ s j a h0.lt (by rw[dX h0];rfl),if_neg (by simp[hs]),bind_ok (mg h1 _ (hE.number _ m1 m2)),BG E l f _ _ _ (by omega),hr,hp,show a+1+1=l.length from by omega]
   ·simp only[if_neg hp]at h hl hf
    rw[List.length_singleton]at hl hf
    have hp':m.partial_=false:=by simpa using hp
    have h0:=ek.word h.head (by decide +kernel)
    cases f with
    |zero=>omega
    |succ f=>
     rw[JI E l _ s j a h0.lt (by rw[dX h0];rfl),if_neg (by simp[hs]),BG E l f _ _ _ (by omega),hr,hp',hm.lot0 hp',show a+1=l.length from by omega,hj2,Kc]
  ·simp only[if_neg hr,List.length_nil,Nat.add_zero]at h hl hf
   have hr':m.hasPartial=false:=by simpa using hr
   rw[BG E l f _ _ _ (by omega),hr',hm.part0 hr',hm.lot0 (hm.part0 hr'),hl]
   cases j
   simp only at hj1 hj2 Kc
   subst hj1 hj2 Kc
   rfl
theorem DD {E:Env}{D:Int->ByteArray}(hE:fw E D)(l:List Tok)(m:Amd)(f:Nat)(s:Seen)(j:Amd)(a:Nat)(h:ek l a (uI m++oV m))(hl:l.length=a+(uI m++oV m).length)(hf:(uI m).length+(oV m).length<f)(hs:s.part=false)(hs2:s.prio=false)(hm:tK m)(hj1:j.hasPartial=false)(hj2:j.partial_=false)(Kc:j.minLot=0)
 (hj4:j.hasPriority=false) (hj5:j.priority=0):changes E l f s j a=.ok ({j with hasPriority:=m.hasPriority,priority:=m.priority,hasPartial:=m.hasPartial,partial_:=m.partial_,minLot:=m.minLot},l.length):=by
 unfold uI at h hl hf
 by_cases hr:m.hasPriority=true
 ·simp only[if_pos hr,List.length_append,List.length_singleton]at h hl hf
  cases f with
  |zero=>omega
  |succ f=>
   obtain⟨w1,w2⟩:=qf hm.prio
   have h0:=ek.word h.left.head w1
   rw[K7 E l f s j a h0.lt m.priority (by rw[dX h0];exact w2),if_neg (by simp[hs2])]
   refine Eq.trans (Bq hE l m f _ _ (a+1) h.right (by omega) (by omega) (by exact hs) hm (by exact hj1) (by exact hj2) (by exact Kc)) ?_
   rw[hr]
 ·simp only[if_neg hr,List.nil_append,List.length_nil,Nat.zero_add]at h hl hf
  have hr':m.hasPriority=false:=by simpa using hr
  rw[Bq hE l m f _ _ a h hl hf hs hm hj1 hj2 Kc,hr',hm.prio0 hr']
  cases j
  simp only at hj4 hj5
  subst hj4 hj5
  rfl
theorem za {E:Env}{D:Int->ByteArray}(hE:fw E D)(l:List Tok)(m:Amd)(f:Nat)(s:Seen)(j:Amd)(a:Nat)(h:ek l a (pz D m++(uI m++oV m)))(hl:l.length=a+(pz D m++(uI m++oV m)).length)(hf:(pz D m).length+((uI m).length+(oV m).length)<f)
 (hs:s.part=false) (hs2:s.prio=false) (hs3:s.day=false) (hm:tK m) (hj1:j.hasPartial=false) (hj2:j.partial_=false) (Kc:j.minLot=0)
 (hj4:j.hasPriority=false) (hj5:j.priority=0) (hj6:j.hasSettleDay=false) (hj7:j.settleDay=0):changes E l f s j a=.ok ({j with hasSettleDay:=m.hasSettleDay,settleDay:=m.settleDay,hasPriority:=m.hasPriority,priority:=m.priority,hasPartial:=m.hasPartial,partial_:=m.partial_,minLot:=m.minLot},l.length):=by
 unfold pz at h hl hf
 by_cases hr:m.hasSettleDay=true
 ·simp only[if_pos hr]at h hl hf
  rw[List.length_append]at hl
  have h2:([bw dF,D m.settleDay]:List ByteArray).length=2:=rfl
  rw[h2]at hl hf
  rw[List.length_append]at hl
  cases f with
  |zero=>omega
  |succ f=>
   have h0:=ek.word h.left.head (by decide +kernel)
   have h1:=h.left.tail.head.of (hE.day _ hm.day.1 hm.day.2)
   rw[PX E l f s j a h0.lt (by rw[dX h0];rfl),if_neg (by simp[hs3]),bind_ok (pK h1 _ (hE.date _ hm.day.1 hm.day.2))]
   refine Eq.trans (DD hE l m f _ _ (a+1+1) h.right (by rw[List.length_append];omega) (by omega) (by exact hs) (by exact hs2) hm (by exact hj1) (by exact hj2) (by exact Kc) (by exact hj4) (by exact hj5)) ?_
   rw[hr]
 ·simp only[if_neg hr,List.nil_append,List.length_nil,Nat.zero_add]at h hl hf
  have hr':m.hasSettleDay=false:=by simpa using hr
  rw[DD hE l m f _ _ a h hl hf hs hs2 hm hj1 hj2 Kc hj4 hj5,hr',hm.day0 hr']
  cases j
  simp only at hj6 hj7
  subst hj6 hj7
  rfl
theorem Mk {E:Env}{D:Int->ByteArray}(hE:fw E D)(l:List Tok)(m:Amd)(a:Nat)(h:ek l a (yC D m))(hl:l.length=a+(yC D m).length)(hm:tK m):changes E l (l.length+1) {} {} a=.ok (m,l.length):=by
 unfold yC at h hl
 have e:m={hasAmount:=m.hasAmount,hasSettleDay:=m.hasSettleDay,hasPriority:=m.hasPriority,hasPartial:=m.hasPartial,amount:=m.amount,settleDay:=m.settleDay,priority:=m.priority,partial_:=m.partial_,minLot:=m.minLot}:=rfl
 simp only[List.length_append]at hl
 unfold Ih at h hl
 by_cases hr:m.hasAmount=true
 ·simp only[if_pos hr]at h hl
  have h2:([bw bJ,cB m.amount]:List ByteArray).length=2:=rfl
  rw[h2]at hl
  obtain⟨m1,m2⟩:=hm.am hr
  have h0:=ek.word h.left.head (by decide +kernel)
  have h1:=h.left.tail.head.of (jL m2).1
  rw[GV E l _ {} {} a h0.lt (by rw[dX h0];rfl),if_neg (by simp),bind_ok (BQ h1 _ (hE.cash _ m1 m2))]
  refine Eq.trans (za hE l m _ _ _ (a+1+1) h.right (by simp only[List.length_append];omega) (by omega) (by rfl) (by rfl) (by rfl) hm (by rfl) (by rfl) (by rfl) (by rfl) (by rfl) (by rfl) (by rfl)) ?_
  cases m
  simp only at hr
  subst hr
  rfl
 ·simp only[if_neg hr,List.nil_append,List.length_nil,Nat.zero_add]at h hl
  have hr':m.hasAmount=false:=by simpa using hr
  refine Eq.trans (za hE l m _ _ _ a h (by simp only[List.length_append];omega) (by omega) (by rfl) (by rfl) (by rfl) hm (by rfl) (by rfl) (by rfl) (by rfl) (by rfl) (by rfl) (by rfl)) ?_
  have h0:=hm.am0 hr'
  cases m
  simp only at hr' h0
  subst hr' h0
  rfl
def gH (i:Ins):ByteArray:=if i.side=1 then i.counterparty else i.sender
def toT (i:Ins):ByteArray:=if i.side=1 then i.sender else i.counterparty
theorem rZ (f:Nat->Int)(n:Int)(h0:f 0<=n):∀K:Nat,n<f K->∃k,k<K/\f k<=n/\n<f (k+1)
 |0,h=>by omega
 |K+1,h=>by
  by_cases h2:n<f K
  ·obtain⟨k,h3,h4⟩:=rZ f n h0 K h2
   exact⟨k,by omega,h4⟩
  ·exact⟨K,by omega,by omega,h⟩
theorem Gf (p:Int)(h:0<=p):bD p+365<=bD (p+1)/\bD (p+1)<=bD p+366:=by unfold bD;omega
theorem kz (p:Nat):∀q:Nat,p<=q->bD p<=bD q
 |0,h=>by rw[show p=0 from by omega];exact Int.le_refl _
 |q+1,h=>by
  by_cases hq:p=q+1
  ·rw[hq];exact Int.le_refl _
  ·have h1:=kz p q (by omega)
   have h2:=Gf (q:Int) (by omega)
   rw[Int.natCast_add_one]
   omega
theorem j6 (y:Int)(p:Nat):∀q:Nat,p<=q->bQ y p<=bQ y q
 |0,h=>by rw[show p=0 from by omega];exact Int.le_refl _
 |q+1,h=>by
  by_cases hq:p=q+1
  ·rw[hq];exact Int.le_refl _
  ·have h1:=j6 y p q (by omega)
   have h2:=ry y ((q:Int)+1)
   show bQ y p<=bQ y q+dim y ((q:Int)+1)
   omega
theorem j5 (p:Nat)(hp:p<200):bQ (2000+(p:Int)) 12=bD ((p:Int)+1)-bD p:=by
 have e:∀m:Int,1<=m->m<=12->dim (2000+(p:Int)) m=if m=2 then(if kT (2000+(p:Int))then 29 else 28)else if m=4\/m=6\/m=9\/m=11 then 30 else 31:=λm h1 h2=>by
  unfold dim
  rw[if_neg (by omega)]
 have h1:=rF p
 have h2:=rF (p+1)
 have h3:EW (p+1)=EW p+365+(if kT (2000+(p:Int))then 1 else 0):=rfl
 have e12:bQ (2000+(p:Int)) 12=365+(if kT (2000+(p:Int))then 1 else 0):=by
  simp only[bQ]
  rw[e _ (by decide) (by decide),e _ (by decide) (by decide),e _ (by decide) (by decide),e _ (by decide) (by decide),e _ (by decide) (by decide),e _ (by decide) (by decide),e _ (by decide) (by decide),e _ (by decide) (by decide),e _ (by decide) (by decide),e _ (by decide) (by decide),e _ (by decide) (by decide),e _ (by decide) (by decide)]
  cases kT (2000+(p:Int))<;>decide
 rw[Int.natCast_add_one]at h2
 omega
def IsC (n:Int)(y m d:Nat):Prop:=2000<=y/\y<=2199/\1<=m/\m<=12/\1<=d/\(d:Int)<=dim y m/\n=bD ((y:Int)-2000)+bQ y (m-1)+d-1
theorem IsC.civil {n:Int}{y m d:Nat}(h:IsC n y m d):civil y m d=(n,0):=by
 obtain⟨h1,h2,h3,h4,h5,h6,h7⟩:=h
 unfold Ps.civil
 rw[if_neg (by omega),h7,show((m:Int)-1).toNat=m-1 from by omega]
 refine Prod.ext ?_ rfl
 show _+_-1+_=_
 omega
theorem IsC.d31 {n:Int}{y m d:Nat}(h:IsC n y m d):d<=31:=by
 obtain⟨h1,h2,h3,h4,h5,h6,h7⟩:=h
 have:=ry (y:Int) m
 omega
theorem IsC.bounds {n:Int}{y m d:Nat}(h:IsC n y m d):bD ((y-2000:Nat):Int)<=n/\n<bD ((y-2000+1:Nat):Int)/\bQ y (m-1)<=n-bD ((y-2000:Nat):Int)/\n-bD ((y-2000:Nat):Int)<bQ y (m-1+1):=by
 obtain⟨h1,h2,h3,h4,h5,h6,h7⟩:=h
 obtain⟨p,rfl⟩:∃p:Nat,y=2000+p:=⟨y-2000,by omega⟩
 have e1:(((2000+p:Nat):Int))-2000=(p:Int):=by omega
 have e2:2000+p-2000=p:=by omega
 rw[e1]at h7
 rw[e2]
 have hm0:=ul ((2000+p:Nat):Int) (m-1)
 have hmm:bQ ((2000+p:Nat):Int) (m-1+1)=bQ ((2000+p:Nat):Int) (m-1)+dim ((2000+p:Nat):Int) m:=by
  show _+dim _ (((m-1:Nat):Int)+1)=_
  rw[show(((m-1:Nat):Int)+1)=(m:Int)from by omega]
 have h12:=j6 ((2000+p:Nat):Int) (m-1+1) 12 (by omega)
 have hy:=j5 p (by omega)
 have e3:(2000+(p:Int))=((2000+p:Nat):Int):=by omega
 rw[e3]at hy
 rw[Int.natCast_add_one]
 omega
theorem IsC.unique {n:Int}{y m d y' m' d':Nat}(h:IsC n y m d)(h':IsC n y' m' d'):y=y'/\m=m'/\d=d':=by
 obtain⟨b1,b2,b3,b4⟩:=h.bounds
 obtain⟨c1,c2,c3,c4⟩:=h'.bounds
 obtain⟨h1,h2,h3,h4,h5,h6,h7⟩:=h
 obtain⟨g1,g2,g3,g4,g5,g6,g7⟩:=h'
 have ey:y=y':=by
  rcases Nat.lt_trichotomy y y' with hl|hl|hl
  ·have:=kz (y-2000+1) (y'-2000) (by omega);omega
  ·exact hl
  ·have:=kz (y'-2000+1) (y-2000) (by omega);omega
 subst ey
 have em:m=m':=by
  rcases Nat.lt_trichotomy m m' with hl|hl|hl
  ·have:=j6 (y:Int) (m-1+1) (m'-1) (by omega);omega
  ·exact hl
  ·have:=j6 (y:Int) (m'-1+1) (m-1) (by omega);omega
 subst em
 exact⟨rfl,rfl,by omega⟩
theorem IsC.of {n:Int}{p q:Nat}(h0:0<=n)(hn:n<=bN)(h1:bD p<=n)(h2:n<bD ((p:Int)+1))(h3:bQ (2000+p:Nat) q<=n-bD p)(h4:n-bD p<bQ (2000+p:Nat) (q+1)):
 p<200/\q<12/\IsC n (2000+p) (q+1) (n-bD p-bQ (2000+p:Nat) q+1).toNat:=by
 have hp:p<200:=by
  rcases Nat.lt_or_ge p 200 with h|h
  ·exact h
  ·have:=kz 200 p h
   have e:bD ((200:Nat):Int)=73049:=by decide
   unfold bN at hn
   omega
 have hq:q<12:=by
  rcases Nat.lt_or_ge q 12 with h|h
  ·exact h
  ·have:=j6 ((2000+p:Nat):Int) 12 q h
   have hy:=j5 p hp
   have e3:(2000+(p:Int))=((2000+p:Nat):Int):=by omega
   rw[e3]at hy
   omega
 have hmm:bQ ((2000+p:Nat):Int) (q+1)=bQ ((2000+p:Nat):Int) q+dim ((2000+p:Nat):Int) ((q+1:Nat):Int):=by
  show _+dim _ ((q:Int)+1)=_
  rw[Int.natCast_add_one]
 refine⟨hp,hq,by omega,by omega,by omega,by omega,by omega,by omega,?_⟩
 rw[show(((2000+p:Nat):Int))-2000=(p:Int)from by omega,Nat.add_sub_cancel]
 omega
theorem IsC.exists {n:Int}(h0:0<=n)(hn:n<=bN):∃y m d,IsC n y m d:=by
 have e0:bD ((0:Nat):Int)=0:=by decide
 have e200:bD ((200:Nat):Int)=73049:=by decide
 obtain⟨p,hp,h1,h2⟩:=rZ (λk=>bD (k:Int)) n (by show bD ((0:Nat):Int)<=n;omega) 200 (by show n<bD ((200:Nat):Int);unfold bN at hn;omega)
 have hy:=j5 p hp
 have e3:(2000+(p:Int))=((2000+p:Nat):Int):=by omega
 rw[e3]at hy
 have h2:n<bD ((p:Int)+1):=by rw[<-Int.natCast_add_one];exact h2
 obtain⟨q,hq,h3,h4⟩:=rZ (λk=>bQ ((2000+p:Nat):Int) k) (n-bD p) (by show(0:Int)<=_;have h1:bD (p:Int)<=n:=h1;omega) 12 (by show _<bQ _ 12;omega)
 exact⟨_,_,_,(IsC.of h0 hn h1 h2 h3 h4).2.2⟩
def d2 (k:Nat):Bs:=[dgt (k/10%10),dgt (k%10)]
def d4 (k:Nat):Bs:=[dgt (k/1000%10),dgt (k/100%10),dgt (k/10%10),dgt (k%10)]
def civB (y m d:Nat):Bs:=d4 y++(45::d2 m++(45::d2 d))
def uO (y m d:Nat):ByteArray:=⟨(civB y m d).toArray⟩
open Classical in
noncomputable def aO (n:Int):ByteArray:=if h:∃t,∃y m d,IsC n y m d/\t=uO y m d then Classical.choose h else⟨#[]⟩
theorem CU {n:Int}{y m d:Nat}(h:IsC n y m d):aO n=uO y m d:=by
 have hx:∃t,∃y m d,IsC n y m d/\t=uO y m d:=⟨_,_,_,_,h,rfl⟩
 unfold aO
 rw[dif_pos hx]
 obtain⟨y',m',d',h1,h2⟩:=Classical.choose_spec hx
 obtain⟨rfl,rfl,rfl⟩:=h.unique h1
 exact h2
theorem M7 (n:Nat)(h:n<10):Lx.digit ((dgt n).toNat:Int)=true:=by
 rw[fQ n h]
 unfold Lx.digit
 simp;omega
theorem Jt {y m d:Nat}(hy:y<10000)(hm:m<100)(hd:d<100):fo (uO y m d)=civil y m d/\Lx.aC (uO y m d)=(4,0)/\Lx.gm (uO y m d).data.toList=true/\(uO y m d).data.toList≠[]/\(uO y m d).size=10:=by
 have e:(uO y m d).data.toList=[dgt (y/1000%10),dgt (y/100%10),dgt (y/10%10),dgt (y%10),45,dgt (m/10%10),dgt (m%10),45,dgt (d/10%10),dgt (d%10)]:=rfl
 have es:(uO y m d).size=10:=rfl
 have t:∀k:Nat,(dgt (k%10)).toNat=48+k%10:=λk=>fQ _ (by omega)
 have g:∀k:Nat,Lx.digit ((dgt (k%10)).toNat:Int)=true:=λk=>M7 _ (by omega)
 have hr:Lx.gY (uO y m d).data.toList=true:=by
  rw[e,Lx.nO]
  exact⟨g _,g _,g _,g _,rfl,g _,g _,rfl,g _,g _⟩
 refine⟨?_,?_,?_,by rw[e];simp,es⟩
 ·unfold fo
  have hf:fits form (uO y m d).data.toList=true:=by
   rw[e]
   simp[fits,form,fit,g]
  rw[if_pos hf,e]
  have n4:num ([dgt (y/1000%10),dgt (y/100%10),dgt (y/10%10),dgt (y%10),45,dgt (m/10%10),dgt (m%10),45,dgt (d/10%10),dgt (d%10)].take 4)=y:=by
   simp only[List.take_succ_cons,List.take_zero,num,List.foldl_cons,List.foldl_nil,t]
   omega
  have n2:num (([dgt (y/1000%10),dgt (y/100%10),dgt (y/10%10),dgt (y%10),45,dgt (m/10%10),dgt (m%10),45,dgt (d/10%10),dgt (d%10)].drop 5).take 2)=m:=by
   simp only[List.drop_succ_cons,List.drop_zero,List.take_succ_cons,List.take_zero,num,List.foldl_cons,List.foldl_nil,t]
   omega
  have n1:num (([dgt (y/1000%10),dgt (y/100%10),dgt (y/10%10),dgt (y%10),45,dgt (m/10%10),dgt (m%10),45,dgt (d/10%10),dgt (d%10)].drop 8).take 2)=d:=by
   simp only[List.drop_succ_cons,List.drop_zero,List.take_succ_cons,List.take_nil,List.take_zero,num,List.foldl_cons,List.foldl_nil,t]
   omega
  rw[n4,n2,n1]
 ·unfold Lx.aC
  rw[es,if_neg (by omega),Lx.qM,hr]
  rfl
 ·rw[e]
  unfold Lx.gm
  have b:∀k:Nat,(!Lx.blank ((dgt (k%10)).toNat:Int))=true:=λk=>by
   rw[t]
   unfold Lx.blank
   simp;omega
  simp only[List.all_cons,List.all_nil,b,Bool.and_true,Bool.true_and]
  decide
theorem jR {n:Int}(h0:0<=n)(hn:n<=bN):fo (aO n)=(n,0)/\Lx.aC (aO n)=(4,0)/\Lx.gm (aO n).data.toList=true/\(aO n).data.toList≠[]/\(aO n).size=10:=by
 obtain⟨y,m,d,h⟩:=IsC.exists h0 hn
 have h31:=h.d31
 have hc:=h.civil
 rw[CU h]
 obtain⟨h1,h2,h3,h4,_⟩:=h
 have:=Jt (y:=y) (m:=m) (d:=d) (by omega) (by omega) (by omega)
 rw[hc]at this
 exact this
inductive Op where
 |prio (p:Int)
 |part (n:Int)
 |hold
 |res
 |lnk (x:Link)
def opT:Op->List ByteArray
 | .prio p=>[bw (iW p)]
 | .part n=>[bw aM,bO n]
 | .hold=>[bw bz]
 | .res=>[bw bV]
 | .lnk x=>GK x
def opA (i:Ins):Op->Ins
 | .prio p=>{i with priority:=p}
 | .part n=>{i with partial_:=true,minLot:=n}
 | .hold=>{i with hold:=true}
 | .res=>{i with reserve:=true}
 | .lnk x=>{i with links:=i.links++[x]}
def opS (s:Seen):Op->Seen
 | .prio _=>{s with prio:=true}
 | .part _=>{s with part:=true}
 | .hold=>{s with hold:=true}
 | .res=>{s with res:=true}
 | .lnk _=>s
def opF (s:Seen):Op->Bool
 | .prio _=>!s.prio
 | .part _=>!s.part
 | .hold=>!s.hold
 | .res=>!s.res
 | .lnk _=>true
def GM:Seen->List Op->Prop
 |_,[]=>True
 |s,o::os=>opF s o=true/\GM (opS s o) os
def opV (V:Nat->ByteArray->Bool):Op->Prop
 | .prio p=>0<=p/\p<=2
 | .part n=>1<=n/\n<=bS
 | .lnk x=>(x.type=0\/x.type=1)/\V 2 x.ref=true
 |_=>True
theorem Bj {E:Env}{D:Int->ByteArray}(hE:fw E D)(l:List Tok):∀(os:List Op) (f:Nat) (s:Seen) (j:Ins) (a:Nat),ek l a (os.flatMap opT)->l.length=a+(os.flatMap opT).length->os.length<f->GM s os->(∀o∈os,opV E.valid o)->
 options E l f s j a=.ok (os.foldl opA j,l.length)
 |_,0,_,_,_,_,_,hf,_,_=>by omega
 |[],f+1,s,j,a,_,hl,_,_,_=>by
  have hl':l.length=a:=by simpa using hl
  rw[Qu E l f s j a (by omega),hl']
  rfl
 |o::os,f+1,s,j,a,h,hl,hf,hs,hok=>by
  rw[List.flatMap_cons]at h hl
  rw[List.length_append]at hl
  have hv:=hok o List.mem_cons_self
  have h2:=h.right
  have ih:=λ(hl2:l.length=a+(opT o).length+(os.flatMap opT).length)=>Bj hE l os f (opS s o) (opA j o) (a+(opT o).length) h2 hl2 (by simpa using hf) hs.2 λy hy=>hok y (List.mem_cons_of_mem _ hy)
  have ih:=ih (by omega)
  have h0:=h.left
  clear h h2 hl hok
  obtain⟨hs,_⟩:=hs
  rw[List.foldl_cons,<-ih]
  clear ih
  cases o with
  |prio p=>
   obtain⟨w1,w2⟩:=qf hv
   have h0:=ek.word h0.head w1
   rw[Nf E l f s j a h0.lt p (by rw[dX h0];exact w2),if_neg (by simpa[opF]using hs)]
   rfl
  |part n=>
   have h1:=h0.tail.head.of (gK hv.1 hv.2).1
   have h0:=ek.word h0.head (by decide +kernel)
   rw[LY E l f s j a h0.lt (by rw[dX h0];rfl),if_neg (by simpa[opF]using hs),bind_ok (mg h1 _ (hE.number _ hv.1 hv.2))]
   rfl
  |hold=>
   have h0:=ek.word h0.head (by decide +kernel)
   rw[NB E l f s j a h0.lt (by rw[dX h0];rfl),if_neg (by simpa[opF]using hs)]
   rfl
  |res=>
   have h0:=ek.word h0.head (by decide +kernel)
   rw[Oe E l f s j a h0.lt (by rw[dX h0];rfl),if_neg (by simpa[opF]using hs)]
   rfl
  |lnk x=>
   obtain⟨ht,hv⟩:=hv
   obtain⟨hk,_⟩:=hE.refK hv
   obtain⟨ty,rf⟩:=x
   have h1:ae l (a+1) (Lx.aC rf).1 rf:=h0.tail.head
   have h0:=h0.head
   rcases ht with rfl|rfl
   ·have h0:ae l a (Lx.aC (bw iV)).1 (bw iV):=h0
    have h0:=ek.word h0 (by decide +kernel)
    rw[Mx E l f s j a h0.lt (by rw[dX h0];rfl),bind_ok (Gb h1 hk hv)]
    rfl
   ·have h0:ae l a (Lx.aC (bw eF)).1 (bw eF):=h0
    have h0:=ek.word h0 (by decide +kernel)
    rw[Jz E l f s j a h0.lt (by rw[dX h0];rfl),bind_ok (Gb h1 hk hv)]
    rfl
def IM (V:Nat->ByteArray->Bool)(i:Ins)(os:List Op):Prop:=GM {} os/\(∀o∈os,opV V o)/\∀j:Ins,j.priority=0->j.partial_=false->j.minLot=0->j.hold=false->j.reserve=false->j.links=[]->
 os.foldl opA j={j with priority:=i.priority,partial_:=i.partial_,minLot:=i.minLot,hold:=i.hold,reserve:=i.reserve,links:=i.links}
theorem RZ (s:Seen)(os:List Op)(h:GM s os):∀ls:List Link,GM s (ls.map .lnk++os)
 |[]=>h
 |x::ls=>⟨rfl,RZ s os h ls⟩
theorem Rx:∀(ls:List Link) (j:Ins),(ls.map Op.lnk).foldl opA j={j with links:=j.links++ls}
 |[],j=>by simp
 |x::ls,j=>by
  rw[List.map_cons,List.foldl_cons,Rx ls]
  simp[opA]
def oPr (i:Ins):List Op:=if i.priority=0 then[]else[.prio i.priority]
def oPa (i:Ins):List Op:=if i.partial_=true then[.part i.minLot]else[]
def oHo (i:Ins):List Op:=if i.hold=true then[.hold]else[]
def oRe (i:Ins):List Op:=if i.reserve=true then[.res]else[]
def pOps (i:Ins):List Op:=oPr i++(oPa i++(i.links.map .lnk++(oRe i++oHo i)))
def gy (i:Ins):List Op:=.prio i.priority::(oPa i++(oHo i++(oRe i++i.links.map .lnk)))
theorem QY {V:Nat->ByteArray->Bool}{i:Ins}(h:kW V i)(o:Op):(o∈oPr i\/o=.prio i.priority\/o∈oPa i\/o∈oHo i\/o∈oRe i\/o∈i.links.map .lnk)->opV V o:=by
 have hlot:i.partial_=true->1<=i.minLot/\i.minLot<=bS:=λhp=>by
  have h1:=h.lot hp
  have h2:=h.qty (by have:=h.part hp;omega)
  omega
 rintro(h0|h0|h0|h0|h0|h0)
 ·unfold oPr at h0
  split at h0
  ·cases h0
  ·rw[List.mem_singleton]at h0;subst h0;exact h.prio
 ·subst h0;exact h.prio
 ·unfold oPa at h0
  split at h0
  ·rename_i hp;rw[List.mem_singleton]at h0;subst h0;exact hlot hp
  ·cases h0
 ·unfold oHo at h0
  split at h0
  ·rw[List.mem_singleton]at h0;subst h0;trivial
  ·cases h0
 ·unfold oRe at h0
  split at h0
  ·rw[List.mem_singleton]at h0;subst h0;trivial
  ·cases h0
 ·obtain⟨x,hx,rfl⟩:=List.mem_map.1 h0
  exact h.link x hx
theorem Q4 {V:Nat->ByteArray->Bool}{i:Ins}(h:kW V i):IM V i (gy i):=by
 refine⟨?_,λo ho=>QY h o ?_,λj h1 h2 h3 h4 h5 h6=>?_⟩
 ·have hl:∀s,GM s (i.links.map .lnk):=λs=>by simpa using RZ s [] trivial i.links
  unfold gy oPa oRe oHo
  split<;>split<;>split<;>simp only[List.nil_append,List.singleton_append,GM,opF,opS,hl,Bool.not_false,and_self,true_and]
 ·unfold gy at ho
  simp only[List.mem_append,List.mem_cons]at ho
  rcases ho with h0|h0|h0|h0|h0<;>simp only[h0,true_or,or_true]
 ·have hl:=h.lot0
  unfold gy
  rw[List.foldl_cons,List.foldl_append,List.foldl_append,List.foldl_append,Rx]
  cases i
  cases j
  simp only at h1 h2 h3 h4 h5 h6 hl
  subst h1 h2 h3 h4 h5 h6
  simp only[oPa,oRe,oHo]
  split<;>split<;>split<;>simp_all [opA]
def ol (D:Int->ByteArray)(i:Ins)(os:List Op):List ByteArray:=
 if i.kind=3\/i.kind=4 then[bw (if i.kind=3 then iL else fP),i.ref,bw sBy,i.sender,bw je,i.asset,bw bU,bO i.quantity,bw dF,D i.settleDay]
 else if i.kind=0 then[bw Bi,i.ref,bw lm,i.sender,bw sTo,i.counterparty,bw bJ,cB i.amount,bw dF,D i.settleDay]++os.flatMap opT
 else if i.kind=1 then[bw (if i.side=1 then dN else dO),i.ref,bw lm,gH i,bw sTo,toT i,bw je,i.asset,bw bU,bO i.quantity,bw eT,cB i.amount,bw iD,D i.tradeDay,bw dF,D i.settleDay]++os.flatMap opT
 else[bw (if i.side=1 then dN else dO),i.ref,bw lm,gH i,bw sTo,toT i,bw je,i.asset,bw bU,bO i.quantity,bw jr,bw iD,D i.tradeDay,bw dF,D i.settleDay]++os.flatMap opT
def iZ (D:Int->ByteArray)(q:Req)(os:List Op):List ByteArray:=
 if q.op=0 then ol D q.ins os
 else if q.op=1 then[bw mh,q.ref,bw sBy,q.sender]++yC D q.amd
 else[bw (if q.op=2 then dx else if q.op=3 then bz else fD),q.ref,bw sBy,q.sender]
theorem ek.at_ {l:List Tok}{a:Nat}{ts:List ByteArray}(h:ek l a ts)(j:Nat){t:ByteArray}(ht:ts[j]? =some t){n:Int}(hc:Lx.aC t=(n,0)):ae l (a+j) n t:=(h j t ht).of hc
theorem IG:∀os:List Op,os.length<=(os.flatMap opT).length
 |[]=>Nat.le_refl _
 |o::os=>by
  have:=IG os
  have h2:1<=(opT o).length:=by cases o<;>simp[opT,GK]
  rw[List.flatMap_cons,List.length_append,List.length_cons]
  omega
section
variable {E : Env} {D : Int → ByteArray} {l : List Tok}
theorem wd {a j:Nat}{ts:List ByteArray}{w:Bs}(h:ek l a ts)(ht:ts[j]? =some (bw w))(hw:qP w=true):ae l (a+j) 0 (bw w):=h.at_ j ht (jT hw).1
theorem LW (hE:fw E D){i:Ins}(hi:kW E.valid i){os:List Op}(ho:IM E.valid i os)(h:ek l 0 (ol D i os))(hl:l.length=(ol D i os).length):
 line E l 0=.ok ({ref:=i.ref,ins:={i with ref:=⟨#[]⟩} },l.length):=by
 obtain⟨o1,o2,o3⟩:=ho
 have hst:=hi.settle
 have dD:=hE.day _ hst.1 hst.2
 have vD:=hE.date _ hst.1 hst.2
 obtain⟨kr,_⟩:=hE.refK hi.ref
 have uS:=hE.upper 1 _ (by omega) hi.sender
 have hcl:Lx.aC i.ref=((Lx.aC i.ref).1,0):=by
  obtain⟨k,_,hk⟩:=gX i.ref (hE.named 2 _ (by omega) hi.ref).1 (hE.named 2 _ (by omega) hi.ref).2
  rw[hk]
 have hop:∀(j:Ins) (a:Nat),ek l a (os.flatMap opT)->l.length=a+(os.flatMap opT).length->j.priority=0->j.partial_=false->j.minLot=0->j.hold=false->j.reserve=false->j.links=[]->
  options E l (l.length+1) {} j a=.ok ({j with priority:=i.priority,partial_:=i.partial_,minLot:=i.minLot,hold:=i.hold,reserve:=i.reserve,links:=i.links},l.length):=λj a h1 h2 g1 g2 g3 g4 g5 g6=>by
  rw[Bj hE l os _ _ j a h1 h2 (by have:=IG os;omega) o1 o2,o3 j g1 g2 g3 g4 g5 g6]
 by_cases hk:i.kind=3\/i.kind=4
 ·have hA:=hi.asset (by omega)
  have uA:=hE.upper 0 _ (by omega) hA
  obtain⟨q1,q2⟩:=hi.qty (by omega)
  unfold ol at h hl
  rw[if_pos hk]at h hl
  have e3:qP (if i.kind=3 then iL else fP)=true:=by split<;>decide +kernel
  have hrest:rest E l (if i.kind=3 then iL else fP) {ref:=i.ref} 2=.ok ({ref:=i.ref,ins:={i with ref:=⟨#[]⟩} },l.length):=by
   have hc:=xq (E:=E) (l:=l) (a:=2) i.kind {} (LK (wd h (j:=2) rfl (by decide +kernel)) rfl (h.at_ 3 rfl uS) hi.sender) (λj=>mX j (wd h (j:=4) rfl (by decide +kernel)) rfl (h.at_ 5 rfl uA) hA (wd h (j:=6) rfl (by decide +kernel)) rfl (h.at_ 7 rfl (gK q1 q2).1) (hE.number _ q1 q2)) (wd h (j:=8) rfl (by decide +kernel)) rfl (h.at_ 9 rfl dD) vD
   have e:(({kind:=i.kind,sender:=i.sender,asset:=i.asset,quantity:=i.quantity,settleDay:=i.settleDay}:Ins))={i with ref:=⟨#[]⟩}:=by
    have g1:=hi.cpN hk
    have g2:=hi.sideN (by omega)
    have g3:=hi.am0 (by omega)
    have g4:=hi.trade0 (by omega)
    have g5:=hi.prio0 hk
    have g6:i.partial_=false:=by
     cases hp:i.partial_ with
     |false=>rfl
     |true=>have:=hi.part hp;omega
    have g7:=hi.lot0 g6
    have g8:=hi.hold hk
    have g9:i.reserve=false:=by
     cases hp:i.reserve with
     |false=>rfl
     |true=>have:=hi.res hp;omega
    have g10:=hi.links0 hk
    cases i
    simp only at g1 g2 g3 g4 g5 g6 g7 g8 g9 g10
    subst g1 g2 g3 g4 g5 g6 g7 g8 g9 g10
    rfl
   rw[show l.length=2+8 from hl]
   rcases hk with hk|hk
   ·rw[if_pos hk]
    unfold rest
    rw[if_neg (by decide),if_neg (by decide),if_neg (by decide),if_pos rfl,<-hk,bind_ok hc,e]
    rfl
   ·rw[if_neg (by omega)]
    unfold rest
    rw[if_neg (by decide),if_neg (by decide),if_neg (by decide),if_neg (by decide),if_pos rfl,<-hk,bind_ok hc,e]
    rfl
  exact nY (wd h (j:=0) rfl e3) (by show(if i.kind=3 then iL else fP)∈verbs;split<;>decide) (h.at_ 1 rfl hcl) kr hi.ref _ hrest
 ·have hC:=hi.cpY hk
  have uC:=hE.upper 1 _ (by omega) hC
  by_cases h0:i.kind=0
  ·obtain⟨a1,a2⟩:=hi.am (.inl h0)
   unfold ol at h hl
   rw[if_neg hk,if_pos h0]at h hl
   have h':=h.left
   rw[List.length_append]at hl
   have hrest:rest E l Bi {ref:=i.ref} 2=.ok ({ref:=i.ref,ins:={i with ref:=⟨#[]⟩} },l.length):=by
    have hc:=D8 (E:=E) (l:=l) (a:=2) {} (oz (wd h' (j:=2) rfl (by decide +kernel)) rfl (h'.at_ 3 rfl uS) hi.sender (wd h' (j:=4) rfl (by decide +kernel)) rfl (h'.at_ 5 rfl uC) hC) (wd h' (j:=6) rfl (by decide +kernel)) rfl (h'.at_ 7 rfl (jL a2).1) (hE.cash _ a1 a2) (wd h' (j:=8) rfl (by decide +kernel)) rfl (h'.at_ 9 rfl dD) vD
    replace hc:=hc.trans (hop _ _ h.right (by rw[hl];rfl) rfl rfl rfl rfl rfl rfl)
    unfold rest
    rw[if_pos rfl,bind_ok hc]
    have g1:=hi.asset0 h0
    have g2:=hi.sideN (by omega)
    have g3:=hi.qty0 h0
    have g4:=hi.trade0 (by omega)
    cases i
    simp only at g1 g2 g3 g4 h0
    subst g1 g2 g3 g4 h0
    rfl
   exact nY (wd h' (j:=0) rfl (by decide +kernel)) (by decide) (h'.at_ 1 rfl hcl) kr hi.ref _ hrest
  ·have hA:=hi.asset h0
   have uA:=hE.upper 0 _ (by omega) hA
   obtain⟨q1,q2⟩:=hi.qty h0
   have hk12:i.kind=1\/i.kind=2:=by have:=hi.kind;omega
   obtain⟨t1,t2⟩:=hi.trade hk12
   have t3:i.tradeDay<=bN:=by omega
   have dT:=hE.day _ t1 t3
   have vT:=hE.date _ t1 t3
   have vf:E.valid 1 (gH i)=true/\E.valid 1 (toT i)=true:=by
    unfold gH toT
    split
    ·exact⟨hC,hi.sender⟩
    ·exact⟨hi.sender,hC⟩
   have uf:=hE.upper 1 _ (by omega) vf.1
   have ut:=hE.upper 1 _ (by omega) vf.2
   have e3:qP (if i.side=1 then dN else dO)=true:=by split<;>decide +kernel
   have fin:∀(x:Ins),trade E l {} 2=.ok (x,l.length)->x.ref=⟨#[]⟩->x.kind=i.kind->x.sender=gH i->x.counterparty=toT i->x.side=0->x.asset=i.asset->x.quantity=i.quantity->x.amount=i.amount->x.tradeDay=i.tradeDay->x.settleDay=i.settleDay->x.priority=i.priority->x.partial_=i.partial_->x.minLot=i.minLot->x.hold=i.hold->x.reserve=i.reserve->x.links=i.links->
    rest E l (if i.side=1 then dN else dO) {ref:=i.ref} 2=.ok ({ref:=i.ref,ins:={i with ref:=⟨#[]⟩} },l.length):=by
    intro x hx x1 x2 x3 x4 x5 x6 x7 x8 x9 x10 x11 x12 x13 x14 x15 x16
    have hsd:=hi.side
    unfold gH at x3
    unfold toT at x4
    by_cases hs:i.side=1
    ·rw[if_pos hs]at x3 x4⊢
     unfold rest
     rw[if_neg (by decide),if_neg (by decide),if_pos rfl,bind_ok hx]
     unfold turn
     cases i
     cases x
     simp only at x1 x2 x3 x4 x5 x6 x7 x8 x9 x10 x11 x12 x13 x14 x15 x16 hs
     subst x1 x2 x3 x4 x5 x6 x7 x8 x9 x10 x11 x12 x13 x14 x15 x16 hs
     rfl
    ·have hs0:i.side=0:=by omega
     rw[if_neg hs]at x3 x4⊢
     unfold rest
     rw[if_neg (by decide),if_pos rfl,bind_ok hx]
     cases i
     cases x
     simp only at x1 x2 x3 x4 x5 x6 x7 x8 x9 x10 x11 x12 x13 x14 x15 x16 hs0
     subst x1 x2 x3 x4 x5 x6 x7 x8 x9 x10 x11 x12 x13 x14 x15 x16 hs0
     rfl
   have hvb:(if i.side=1 then dN else dO)∈verbs:=by split<;>decide
   by_cases h1:i.kind=1
   ·obtain⟨a1,a2⟩:=hi.am (.inr h1)
    unfold ol at h hl
    rw[if_neg hk,if_neg h0,if_pos h1]at h hl
    have h':=h.left
    rw[List.length_append]at hl
    have hc:=FD (E:=E) (l:=l) (a:=2) {} (oz (wd h' (j:=2) rfl (by decide +kernel)) rfl (h'.at_ 3 rfl uf) vf.1 (wd h' (j:=4) rfl (by decide +kernel)) rfl (h'.at_ 5 rfl ut) vf.2)
     (λj=>mX j (wd h' (j:=6) rfl (by decide +kernel)) rfl (h'.at_ 7 rfl uA) hA (wd h' (j:=8) rfl (by decide +kernel)) rfl (h'.at_ 9 rfl (gK q1 q2).1) (hE.number _ q1 q2))
     (wd h' (j:=10) rfl (by decide +kernel)) rfl (h'.at_ 11 rfl (jL a2).1) (hE.cash _ a1 a2) (wd h' (j:=12) rfl (by decide +kernel)) rfl (h'.at_ 13 rfl dT) vT (wd h' (j:=14) rfl (by decide +kernel)) rfl (h'.at_ 15 rfl dD) vD
    replace hc:=hc.trans (hop _ _ h.right (by rw[hl];rfl) rfl rfl rfl rfl rfl rfl)
    exact nY (wd h' (j:=0) rfl e3) hvb (h'.at_ 1 rfl hcl) kr hi.ref _ (fin _ hc rfl h1.symm rfl rfl rfl rfl rfl rfl rfl rfl rfl rfl rfl rfl rfl rfl)
   ·unfold ol at h hl
    rw[if_neg hk,if_neg h0,if_neg h1]at h hl
    have h':=h.left
    rw[List.length_append]at hl
    have hc:=free_at (E:=E) (l:=l) (a:=2) {} (oz (wd h' (j:=2) rfl (by decide +kernel)) rfl (h'.at_ 3 rfl uf) vf.1 (wd h' (j:=4) rfl (by decide +kernel)) rfl (h'.at_ 5 rfl ut) vf.2)
     (λj=>mX j (wd h' (j:=6) rfl (by decide +kernel)) rfl (h'.at_ 7 rfl uA) hA (wd h' (j:=8) rfl (by decide +kernel)) rfl (h'.at_ 9 rfl (gK q1 q2).1) (hE.number _ q1 q2))
     (wd h' (j:=10) rfl (by decide +kernel)) rfl (wd h' (j:=11) rfl (by decide +kernel)) rfl (h'.at_ 12 rfl dT) vT (wd h' (j:=13) rfl (by decide +kernel)) rfl (h'.at_ 14 rfl dD) vD
    replace hc:=hc.trans (hop _ _ h.right (by rw[hl];rfl) rfl rfl rfl rfl rfl rfl)
    exact nY (wd h' (j:=0) rfl e3) hvb (h'.at_ 1 rfl hcl) kr hi.ref _ (fin _ hc rfl (by show(2:Int)=i.kind;omega) rfl rfl rfl rfl rfl (hi.am0 (by omega)).symm rfl rfl rfl rfl rfl rfl rfl rfl)
theorem MI (hE:fw E D){q:Req}(hq:yN E.valid q=0){os:List Op}(ho:q.op=0->IM E.valid q.ins os)(h:ek l 0 (iZ D q os))(hl:l.length=(iZ D q os).length):
 ∃q',line E l 0=.ok (q',l.length)/\(if q'.op=0 then{q' with sender:=q'.ins.sender,ins:={q'.ins with ref:=q'.ref} }else q')=q:=by
 obtain⟨vs,vr,hq⟩:=nk _ _ hq
 have uS:=hE.upper 1 _ (by omega) vs
 obtain⟨kr,_⟩:=hE.refK vr
 have hcl:Lx.aC q.ref=((Lx.aC q.ref).1,0):=by
  obtain⟨k,_,hk⟩:=gX q.ref (hE.named 2 _ (by omega) vr).1 (hE.named 2 _ (by omega) vr).2
  rw[hk]
 unfold iZ at h hl
 rcases hq with⟨h0,hi,he⟩|⟨h1,hm,he⟩|⟨h2,he⟩
 ·rw[if_pos h0]at h hl
  refine⟨_,LW hE hi (ho h0) h hl,?_⟩
  rw[if_pos rfl]
  exact he.symm
 ·rw[if_neg (by omega),if_pos h1]at h hl
  have h':=h.left
  rw[List.length_append]at hl
  have hl:l.length=4+(yC D q.amd).length:=hl
  have hn:1<=(yC D q.amd).length:=by
   have:=hm.some
   unfold yC Ih pz uI oV
   simp only[List.length_append]
   rcases this with hb|hb|hb|hb<;>rw[hb,if_pos rfl]
   ·rw[List.length_cons];omega
   ·rw[List.length_cons];omega
   ·rw[List.length_cons];omega
   ·have:1<=(if q.amd.partial_=true then[bw aM,bO q.amd.minLot]else[bw eG]).length:=by split<;>simp
    omega
  have hrest:rest E l mh {ref:=q.ref} 2=.ok ({op:=1,sender:=q.sender,ref:=q.ref,amd:=q.amd},l.length):=by
   unfold rest
   rw[if_neg (by decide),if_neg (by decide),if_neg (by decide),if_neg (by decide),if_neg (by decide),if_pos rfl,bind_ok (LK (E:=E) (l:=l) (a:=2) (wd h' (j:=2) rfl (by decide +kernel)) rfl (h'.at_ 3 rfl uS) vs)]
   show(if l.length<=4 then _ else _)=_
   rw[if_neg (by omega),bind_ok (Mk hE l q.amd 4 h.right hl hm)]
   rfl
  refine⟨_,nY (wd h' (j:=0) rfl (by decide +kernel)) (by decide) (h'.at_ 1 rfl hcl) kr vr _ hrest,?_⟩
  rw[if_neg (by show¬(1:Int)=0;decide)]
  exact he.symm
 ·rw[if_neg (by omega),if_neg (by omega)]at h hl
  have hb:=LK (E:=E) (l:=l) (a:=2) (wd h (j:=2) rfl (by decide +kernel)) rfl (h.at_ 3 rfl uS) vs
  have e3:qP (if q.op=2 then dx else if q.op=3 then bz else fD)=true:=by split<;>(try split)<;>decide +kernel
  have hrest:rest E l (if q.op=2 then dx else if q.op=3 then bz else fD) {ref:=q.ref} 2=.ok ({op:=q.op,sender:=q.sender,ref:=q.ref},l.length):=by
   rw[show l.length=4 from hl]
   rcases h2 with h2|h2|h2
   ·rw[show(if q.op=2 then dx else if q.op=3 then bz else fD)=dx from by rw[h2];rfl,h2]
    unfold rest
    rw[if_neg (by decide),if_neg (by decide),if_neg (by decide),if_neg (by decide),if_neg (by decide),if_neg (by decide),if_pos rfl,bind_ok hb];rfl
   ·rw[show(if q.op=2 then dx else if q.op=3 then bz else fD)=bz from by rw[h2];rfl,h2]
    unfold rest
    rw[if_neg (by decide),if_neg (by decide),if_neg (by decide),if_neg (by decide),if_neg (by decide),if_neg (by decide),if_neg (by decide),if_pos rfl,bind_ok hb];rfl
   ·rw[show(if q.op=2 then dx else if q.op=3 then bz else fD)=fD from by rw[h2];rfl,h2]
    unfold rest
    rw[if_neg (by decide),if_neg (by decide),if_neg (by decide),if_neg (by decide),if_neg (by decide),if_neg (by decide),if_neg (by decide),if_neg (by decide),bind_ok hb];rfl
  refine⟨_,nY (wd h (j:=0) rfl e3) (by show(if q.op=2 then dx else if q.op=3 then bz else fD)∈verbs;split<;>(try split)<;>decide) (h.at_ 1 rfl hcl) kr vr _ hrest,?_⟩
  rw[if_neg (by show¬q.op=0;omega)]
  exact he.symm
end
def sV:List ByteArray->List (Bs×Bs)
 |[]=>[]
 |t::ts=>([],t.data.toList)::ts.map λx=>([32],x.data.toList)
def gU (ts:List ByteArray):ByteArray:=⟨(Lx.dP (sV ts) []).toArray⟩
theorem zA (ts:List ByteArray):(sV ts).map (·.2)=ts.map (·.data.toList):=by
 cases ts with
 |nil=>rfl
 |cons t ts=>simp[sV]
theorem Ac (ts:List ByteArray):(sV ts).length=ts.length:=by
 have:=congrArg List.length (zA ts)
 simpa using this
theorem Es (ts:List ByteArray):ek (Lx.jY (sV ts) 0) 0 ts:=λj t hj=>by
 have h1:((sV ts).map (·.2))[j]? =some t.data.toList:=by rw[zA,List.getElem?_map,hj];rfl
 rw[List.getElem?_map]at h1
 obtain⟨⟨g,x⟩,h2,h3⟩:=Option.map_eq_some_iff.1 h1
 have h3:x=t.data.toList:=h3
 subst h3
 rw[Nat.zero_add]
 exact zO _ 0 j g _ h2
theorem Qj {ts:List ByteArray}(h:∀t∈ts,qp t):Lx.pQ (sV ts) true:=by
 have one:∀t:ByteArray,qp t->Lx.gm t.data.toList=true/\t.data.toList≠[]/\(Lx.aC ⟨t.data.toList.toArray⟩).2=0/\(t.data.toList.all λc=>c !=35)=true:=λt ht=>⟨ht.1,ht.2.1,ht.2.2,Lx.xV t ht.2.2⟩
 have tl:∀us:List ByteArray,(∀t∈us,qp t)->Lx.pQ (us.map λx=>([32],x.data.toList)) false:=by
  intro us
  induction us with
  |nil=>exactλ_=>trivial
  |cons t us ih=>
   intro hu
   obtain⟨h1,h2,h3,h4⟩:=one t (hu t List.mem_cons_self)
   exact⟨λ_=>by simp,by decide,h1,h2,h3,h4,ih λx hx=>hu x (List.mem_cons_of_mem _ hx)⟩
 cases ts with
 |nil=>trivial
 |cons t ts=>
  obtain⟨h1,h2,h3,h4⟩:=one t (h t List.mem_cons_self)
  exact⟨λhb=>(by cases hb),rfl,h1,h2,h3,h4,tl ts λx hx=>h x (List.mem_cons_of_mem _ hx)⟩
def ow:List ByteArray->Nat
 |[]=>0
 |t::ts=>t.size+1+ow ts
theorem tu:∀ts us:List ByteArray,ow (ts++us)=ow ts+ow us
 |[],us=>by simp[ow]
 |t::ts,us=>by
  show t.size+1+ow (ts++us)=t.size+1+ow ts+ow us
  rw[tu ts us]
  omega
theorem zJ (ts:List ByteArray):(gU ts).size<=ow ts:=by
 have tl:∀us:List ByteArray,(Lx.dP (us.map λx=>([32],x.data.toList)) []).length=ow us:=by
  intro us
  induction us with
  |nil=>rfl
  |cons t us ih=>
   show([32]++(t.data.toList++Lx.dP _ [])).length=t.size+1+ow us
   rw[List.length_append,List.length_append,ih]
   have:t.data.toList.length=t.size:=rfl
   simp only[List.length_singleton]
   omega
 cases ts with
 |nil=>exact Nat.le_refl _
 |cons t ts=>
  show([]++(t.data.toList++Lx.dP (ts.map λ(x:ByteArray)=>([32],x.data.toList)) [])).length<=t.size+1+ow ts
  rw[List.nil_append,List.length_append,tl]
  have:t.data.toList.length=t.size:=rfl
  omega
theorem CL {ts:List ByteArray}(h:∀t∈ts,qp t)(hl:ow ts<=1024):Lx.aK (gU ts)=(Lx.jY (sV ts) 0,0,0):=
 Lx.yK _ _ (Qj h) rfl (by have:=zJ ts;exact Nat.le_trans this hl)
section
variable {E : Env} {D : Int → ByteArray}
theorem kF {n:Int}(h2:n<=bS):(bO n).size<=16:=by
 unfold bS at h2
 exact jM 15 n.toNat (by omega)
theorem kX {n:Int}(h2:n<=bS):(cB n).size<=17:=by
 unfold bS at h2
 exact qQ n.toNat (by omega)
theorem pG (p:Int):(bw (iW p)).size<=6:=by
 unfold iW
 split
 ·decide
 ·split<;>decide
def Good (n:Nat)(ts:List ByteArray):Prop:=(∀t∈ts,qp t)/\ow ts<=n
theorem Good.nil:Good 0 []:=⟨λ_ h=>(by cases h),Nat.le_refl _⟩
theorem Good.cons {k n:Nat}{t:ByteArray}{ts:List ByteArray}(ht:qp t)(hs:t.size<=k)(h:Good n ts):Good (k+1+n) (t::ts):=⟨λx hx=>by
 rcases List.mem_cons.1 hx with rfl|hx
 ·exact ht
 ·exact h.1 x hx,by have:=h.2;unfold ow;omega⟩
theorem Good.app {k n:Nat}{ts us:List ByteArray}(h1:Good k ts)(h2:Good n us):Good (k+n) (ts++us):=⟨λx hx=>by
 rcases List.mem_append.1 hx with hx|hx
 ·exact h1.1 x hx
 ·exact h2.1 x hx,by rw[tu];have:=h1.2;have:=h2.2;omega⟩
theorem Good.mono {k n:Nat}{ts:List ByteArray}(h:Good k ts)(hk:k<=n):Good n ts:=⟨h.1,Nat.le_trans h.2 hk⟩
theorem Good.w {n:Nat}{w:Bs}{ts:List ByteArray}(hw:qP w=true)(hs:w.length<=8)(h:Good n ts):Good (9+n) (bw w::ts):=Good.cons (k:=8) (jT hw).2 hs h
theorem PO (hE:fw E D){o:Op}(h:opV E.valid o):Good 40 (opT o):=by
 cases o with
 |prio p=>exact(Good.cons (jT (qf h).1).2 (pG p) .nil).mono (by decide)
 |part n=>exact(Good.w (by decide +kernel) (by decide) (.cons (gK h.1 h.2).2 (kF h.2) .nil)).mono (by decide)
 |hold=>exact(Good.w (by decide +kernel) (by decide) .nil).mono (by decide)
 |res=>exact(Good.w (by decide +kernel) (by decide) .nil).mono (by decide)
 |lnk x=>
  obtain⟨ht,hv⟩:=h
  have hr:Good 33 [x.ref]:=.cons (hE.refK hv).2 (hE.named 2 _ (by omega) hv).2 .nil
  show Good 40 [bw (if x.type=0 then iV else eF),x.ref]
  split
  ·exact Good.cons (k:=5) (jT (w:=iV) (by decide +kernel)).2 (by decide) hr|>.mono (by decide)
  ·exact Good.cons (k:=5) (jT (w:=eF) (by decide +kernel)).2 (by decide) hr|>.mono (by decide)
theorem Bd (hE:fw E D):∀(os:List Op),(∀o∈os,opV E.valid o)->Good (40*os.length) (os.flatMap opT)
 |[],_=>.nil
 |o::os,h=>by
  rw[List.flatMap_cons,List.length_cons]
  exact((PO hE (h o List.mem_cons_self)).app (Bd hE os λx hx=>h x (List.mem_cons_of_mem _ hx))).mono (by omega)
theorem M0 (hE:fw E D)(hD:∀n:Int,0<=n->n<=bN->(D n).size<=10){i:Ins}(hi:kW E.valid i){os:List Op}(ho:∀o∈os,opV E.valid o)(hn:os.length<=12):Good 1024 (ol D i os):=by
 have hst:=hi.settle
 have gD:=hE.dayG hst.1 hst.2
 have sD:=hD _ hst.1 hst.2
 have gR:=(hE.refK hi.ref).2
 have sR:=(hE.named 2 _ (by omega) hi.ref).2
 have gS:=hE.upG (k:=1) (by omega) hi.sender
 have sS:=(hE.named 1 _ (by omega) hi.sender).2
 have gO:=(Bd hE os ho).mono (n:=480) (by omega)
 unfold ol
 split
 ·rename_i hk
  have hA:=hi.asset (by omega)
  have gA:=hE.upG (k:=0) (by omega) hA
  have sA:=(hE.named 0 _ (by omega) hA).2
  obtain⟨q1,q2⟩:=hi.qty (by omega)
  refine Good.mono (Good.w (by split<;>decide +kernel) (by split<;>decide) (.cons gR sR (.w (by decide +kernel) (by decide) (.cons gS sS (.w (by decide +kernel) (by decide) (.cons gA sA (.w (by decide +kernel) (by decide) (.cons (gK q1 q2).2 (kF q2) (.w (by decide +kernel) (by decide) (.cons gD sD .nil)))))))))) (by decide)
 ·rename_i hk
  have hC:=hi.cpY hk
  have gC:=hE.upG (k:=1) (by omega) hC
  have sC:=(hE.named 1 _ (by omega) hC).2
  split
  ·rename_i h0
   obtain⟨a1,a2⟩:=hi.am (.inl h0)
   exact((Good.w (by decide +kernel) (by decide) (.cons gR sR (.w (by decide +kernel) (by decide) (.cons gS sS (.w (by decide +kernel) (by decide) (.cons gC sC (.w (by decide +kernel) (by decide) (.cons (jL a2).2 (kX a2) (.w (by decide +kernel) (by decide) (.cons gD sD .nil)))))))))).app gO).mono (by decide)
  ·rename_i h0
   have hA:=hi.asset h0
   have gA:=hE.upG (k:=0) (by omega) hA
   have sA:=(hE.named 0 _ (by omega) hA).2
   obtain⟨q1,q2⟩:=hi.qty h0
   have hk12:i.kind=1\/i.kind=2:=by have:=hi.kind;omega
   obtain⟨t1,t2⟩:=hi.trade hk12
   have t3:i.tradeDay<=bN:=by omega
   have gT:=hE.dayG t1 t3
   have sT:=hD _ t1 t3
   have vf:qp (gH i)/\(gH i).size<=32/\qp (toT i)/\(toT i).size<=32:=by
    unfold gH toT
    split
    ·exact⟨gC,sC,gS,sS⟩
    ·exact⟨gS,sS,gC,sC⟩
   obtain⟨f1,f2,f3,f4⟩:=vf
   split
   ·rename_i h1
    obtain⟨a1,a2⟩:=hi.am (.inr h1)
    exact((Good.w (by split<;>decide +kernel) (by split<;>decide) (.cons gR sR (.w (by decide +kernel) (by decide) (.cons f1 f2 (.w (by decide +kernel) (by decide) (.cons f3 f4 (.w (by decide +kernel) (by decide) (.cons gA sA (.w (by decide +kernel) (by decide) (.cons (gK q1 q2).2 (kF q2) (.w (by decide +kernel) (by decide) (.cons (jL a2).2 (kX a2) (.w (by decide +kernel) (by decide) (.cons gT sT (.w (by decide +kernel) (by decide) (.cons gD sD .nil)))))))))))))))).app gO).mono (by decide)
   ·exact((Good.w (by split<;>decide +kernel) (by split<;>decide) (.cons gR sR (.w (by decide +kernel) (by decide) (.cons f1 f2 (.w (by decide +kernel) (by decide) (.cons f3 f4 (.w (by decide +kernel) (by decide) (.cons gA sA (.w (by decide +kernel) (by decide) (.cons (gK q1 q2).2 (kF q2) (.w (by decide +kernel) (by decide) (.w (by decide +kernel) (by decide) (.cons gT sT (.w (by decide +kernel) (by decide) (.cons gD sD .nil))))))))))))))).app gO).mono (by decide)
theorem LM (hE:fw E D)(hD:∀n:Int,0<=n->n<=bN->(D n).size<=10){m:Amd}(hm:tK m):Good 200 (yC D m):=by
 have g1:Good 30 (Ih m):=by
  unfold Ih
  split
  ·rename_i h
   obtain⟨a1,a2⟩:=hm.am h
   exact(Good.w (by decide +kernel) (by decide) (.cons (jL a2).2 (kX a2) .nil)).mono (by decide)
  ·exact Good.nil.mono (by decide)
 have g2:Good 30 (pz D m):=by
  unfold pz
  split
  ·exact(Good.w (by decide +kernel) (by decide) (.cons (hE.dayG hm.day.1 hm.day.2) (hD _ hm.day.1 hm.day.2) .nil)).mono (by decide)
  ·exact Good.nil.mono (by decide)
 have g3:Good 30 (uI m):=by
  unfold uI
  split
  ·exact(Good.cons (jT (qf hm.prio).1).2 (pG _) .nil).mono (by decide)
  ·exact Good.nil.mono (by decide)
 have g4:Good 30 (oV m):=by
  unfold oV
  split
  ·split
   ·rename_i h
    obtain⟨a1,a2⟩:=hm.lot h
    exact(Good.w (by decide +kernel) (by decide) (.cons (gK a1 a2).2 (kF a2) .nil)).mono (by decide)
   ·exact(Good.w (by decide +kernel) (by decide) .nil).mono (by decide)
  ·exact Good.nil.mono (by decide)
 exact(g1.app (g2.app (g3.app g4))).mono (by decide)
theorem NW (hE:fw E D)(hD:∀n:Int,0<=n->n<=bN->(D n).size<=10){q:Req}(hq:yN E.valid q=0){os:List Op}(ho:q.op=0->(∀o∈os,opV E.valid o)/\os.length<=12):Good 1024 (iZ D q os):=by
 obtain⟨vs,vr,hq⟩:=nk _ _ hq
 have gR:=(hE.refK vr).2
 have sR:=(hE.named 2 _ (by omega) vr).2
 have gS:=hE.upG (k:=1) (by omega) vs
 have sS:=(hE.named 1 _ (by omega) vs).2
 unfold iZ
 rcases hq with⟨h0,hi,_⟩|⟨h1,hm,_⟩|⟨h2,_⟩
 ·rw[if_pos h0]
  exact M0 hE hD hi (ho h0).1 (ho h0).2
 ·rw[if_neg (by omega),if_pos h1]
  exact((Good.w (by decide +kernel) (by decide) (.cons gR sR (.w (by decide +kernel) (by decide) (.cons gS sS .nil)))).app (LM hE hD hm)).mono (by decide)
 ·rw[if_neg (by omega),if_neg (by omega)]
  exact(Good.w (by split<;>(try split)<;>decide +kernel) (by split<;>(try split)<;>decide) (.cons gR sR (.w (by decide +kernel) (by decide) (.cons gS sS .nil)))).mono (by decide)
theorem ops_le {V:Nat->ByteArray->Bool}{i:Ins}(h:kW V i):(pOps i).length<=12/\(gy i).length<=12:=by
 have hl:=h.links
 have h1:(oPr i).length<=1:=by unfold oPr;split<;>simp
 have h2:(oPa i).length<=1:=by unfold oPa;split<;>simp
 have h3:(oRe i).length<=1:=by unfold oRe;split<;>simp
 have h4:(oHo i).length<=1:=by unfold oHo;split<;>simp
 unfold pOps gy
 simp only[List.length_append,List.length_cons,List.length_map]
 omega
theorem FK (hE:fw E D)(hD:∀n:Int,0<=n->n<=bN->(D n).size<=10){q:Req}(hq:yN E.valid q=0){os:List Op}(ho:q.op=0->IM E.valid q.ins os/\os.length<=12):
 parse E (yN E.valid) (gU (iZ D q os))=(q,0,0)/\(gU (iZ D q os)).size<=1024:=by
 have hg:=NW hE hD hq (os:=os) λh=>⟨(ho h).1.2.1,(ho h).2⟩
 obtain⟨q',h1,h2⟩:=MI hE hq (λh=>(ho h).1) (Es (iZ D q os)) (by rw[oU,Ac])
 refine⟨?_,Nat.le_trans (zJ _) hg.2⟩
 unfold parse
 rw[CL hg.1 hg.2,if_neg (by simp)]
 simp only[]
 rw[h1]
 simp only[]
 rw[h2,if_neg (by simpa using hq)]
end
end Go.Proofs.YtnjjeapcalkmaaaGreatDoor.Ps
namespace Go.Proofs.YtnjjeapcalkmaaaGreatDoor
open Go Go.RowKit
theorem Rp {k:Nat}{s:ByteArray}(h:az.valid k s=true):ag k s=0:=by
 have h:decide (aN k s=0)=true:=h
 rw[decide_eq_true_eq]at h
 unfold aN at h
 by_cases hf:ag k s=0
 ·exact hf
 ·rw[if_pos hf]at h;exact absurd h hf
theorem zl (k:Nat)(hk:k<3)(c:Int):∀j,j<(bE k).length->((bE k).map (·.2)).getD j (λ_=>true) c=true->Lx.named c=true:=by
 have key:∀p∈(bE k).map (·.2),p c=true->Lx.named c=true:=by
  intro p hp hc
  have:p=Id.letter\/p=Id.bT\/p=Id.digit\/p=Id.Db:=by
   rcases(show k=0\/k=1\/k=2 by omega)with rfl|rfl|rfl
   ·simp[bE]at hp;rcases hp with h|h|h<;>simp[h]
   ·simp[bE]at hp;rcases hp with h|h<;>simp[h]
   ·simp[bE]at hp;simp[hp]
  rcases this with rfl|rfl|rfl|rfl
  ·simp[Id.letter,Lx.named]at hc⊢;simp[hc]
  ·simp[Id.bT,Lx.named]at hc⊢;rcases hc with hc|hc<;>simp[hc]
  ·simp[Id.digit,Lx.named]at hc⊢;simp[hc]
  ·simp[Id.Db,Id.bT,Lx.named]at hc⊢;rcases hc with(hc|hc)|hc<;>simp[hc]
 intro j hj h
 rw[List.getD_eq_getElem?_getD,List.getElem?_eq_getElem (by rw[List.length_map];exact hj)]at h
 exact key _ (List.getElem_mem _) h
theorem gL {k:Nat}(hk:k<3){s:ByteArray}(h:az.valid k s=true):Lx.all Lx.named s.data.toList=true/\s.size<=32:=by
 obtain⟨h1,h2,h3⟩:=fE k s (Rp h)
 have hlow:1<=(aL k).low:=by
  rcases(show k=0\/k=1\/k=2 by omega)with rfl|rfl|rfl<;>decide
 have hlen:=fG k
 have hs:s.size=s.data.toList.length:=Lib.size_eq s
 refine⟨?_,by omega⟩
 unfold Lx.all
 rw[Bool.and_eq_true,List.all_eq_true]
 refine⟨?_,λc hc=>?_⟩
 ·have:s.data.toList≠[]:=λh0=>by rw[h0]at hs;simp only[List.length_nil]at hs;omega
  simpa using this
 ·obtain⟨j,hj,rfl⟩:=List.getElem_of_mem hc
  have hjs:j<s.size:=by rw[hs];exact hj
  have:=zl k hk (PlainAid.bt s j) j (by omega) (h3 j hjs)
  rwa [show PlainAid.bt s j=((s.data.toList[j]'hj).toNat:Int)from(PlainAid.get_bt s j hjs).symm]at this
theorem MN {k:Nat}(hk:k<2){s:ByteArray}(h:az.valid k s=true):Lx.aC s=(1,0):=by
 obtain⟨h1,h2,h3⟩:=fE k s (Rp h)
 obtain⟨n1,n2⟩:=gL (by omega) h
 have hlow:1<=(aL k).low:=by
  rcases(show k=0\/k=1 by omega)with rfl|rfl<;>decide
 have hs:s.size=s.data.toList.length:=Lib.size_eq s
 have h0:0<s.size:=by omega
 have hj:0<s.data.toList.length:=by omega
 refine Ps.wX s n1 n2 (s.data.toList[0]'hj) (by rw[List.head?_eq_getElem?,List.getElem?_eq_getElem hj]) ?_
 have h4:=h3 0 h0
 rw[show PlainAid.bt s 0=((s.data.toList[0]'hj).toNat:Int)from(PlainAid.get_bt s 0 h0).symm]at h4
 rcases(show k=0\/k=1 by omega)with rfl|rfl
 ·exact h4
 ·exact h4
theorem PR {n:Int}(h1:1<=n)(h2:n<=Ps.bS):oI (Ps.bO n)=(n,0):=by
 have hc:=(Ps.gK h1 h2).1
 unfold Ps.bS at h2
 obtain⟨d1,d2,d3,_⟩:=Ps.di n.toNat
 have hp:=(Ps.pI _ d1 d2).1 (by rw[d3];omega)
 rw[d3]at hp
 unfold oI
 rw[if_pos hc]
 rw[show(Ps.bO n).data.toList=Ps.dec n.toNat from rfl,hp]
 simp only
 unfold BZ
 rw[if_neg (by omega)]
 refine Prod.ext ?_ rfl
 show(n.toNat:Int)=n
 omega
theorem Ig {n:Int}(h1:1<=n)(h2:n<=Ps.bS):qY xn (Ps.cB n)=(n,0):=by
 have hc:=(Ps.jL h2).1
 unfold Ps.bS at h2
 obtain⟨d1,d2⟩:=Ps.IZ n.toNat
 have hp:=(Ps.pI _ d1 (by simp)).1 (by rw[d2];omega)
 rw[d2]at hp
 have hx:Lib.hasPrefix (Ps.bq n.toNat) [45]=false:=by
  unfold Lib.hasPrefix
  rw[Bool.eq_false_iff]
  intro hb
  obtain⟨e1,e2,_⟩:=Ps.di (n.toNat/100)
  have:(Ps.bq n.toNat).head? =some 45:=by
   rcases hq:Ps.bq n.toNat with _|⟨c,l⟩
   ·rw[hq]at hb;simp at hb
   ·rw[hq]at hb;simp at hb;rw[<-hb];rfl
  unfold Ps.bq at this
  rw[Ps.qF _ e2]at this
  exact Ps.A9 (by decide) (List.mem_of_mem_head? this)
 unfold qY
 rw[if_pos hc]
 have hA:xn (Ps.cB n)=(n,0):=by
  unfold xn
  rw[show(Ps.cB n).data.toList=Ps.bq n.toNat from rfl,Ps.xW,Ps.yh]
  simp only
  rw[hp,hx]
  simp only[Bool.false_eq_true,if_false]
  unfold FX
  rw[if_pos (by omega)]
  refine Prod.ext ?_ rfl
  show(n.toNat:Int)=n
  omega
 rw[hA,if_pos rfl]
 unfold BZ
 rw[if_neg (by omega)]
theorem MB:Ps.fw az Ps.aO where
 named:=λ_ _ hk h=>gL hk h
 upper:=λ_ _ hk h=>MN hk h
 number:=λ_ h1 h2=>PR h1 h2
 cash:=λ_ h1 h2=>Ig h1 h2
 date:=λn h1 h2=>by
  show kC Ps.fo (Ps.aO n)=(n,0)
  unfold kC
  rw[(Ps.jR h1 h2).1]
  rfl
 day:=λ_ h1 h2=>(Ps.jR h1 h2).2.1
 daySolid:=λ_ h1 h2=>⟨(Ps.jR h1 h2).2.2.1,(Ps.jR h1 h2).2.2.2.1⟩
theorem zK (n:Int)(h1:0<=n)(h2:n<=Ps.bN):(Ps.aO n).size<=10:=Nat.le_of_eq (Ps.jR h1 h2).2.2.2.2
theorem xN {q:Ps.Req}(hq:psR q=0):Ps.parse az psR (Ps.gU (Ps.iZ Ps.aO q (Ps.gy q.ins)))=(q,0,0)/\(Ps.gU (Ps.iZ Ps.aO q (Ps.gy q.ins))).size<=1024:=
 Ps.FK MB zK hq λh0=>by
  obtain⟨_,_,h⟩:=Ps.nk _ _ hq
  rcases h with⟨_,hi,_⟩|⟨h1,_⟩|⟨h1,_⟩
  ·exact⟨Ps.Q4 hi,(Ps.ops_le hi).2⟩
  ·omega
  ·omega
open Go Go.RowKit Go.Proofs.YtnjjeapcalkmaaaGreatDoor.Ord
open Go.Proofs.YtnjjeapcalkmaaaGreatDoor.Se
def C1 (f:FuncId)(q:Int)(n:Nat)(x:ByteArray):Prop:=(∀w,gF f #[.int .i64 q] w x)/\x.size<=n
def C3 (f:FuncId)(p:Int)(b:Bool)(q:Int)(n:Nat)(x:ByteArray):Prop:=(∀w,gF f #[.int .i64 p,.bool b,.int .i64 q] w x)/\x.size<=n
def nvR (rows:List (Option (Nat×Nat)×List Value)):PV->PV
 | .r k j=>.v (Ev.aR rows k j)
 |u=>u
theorem RJ {M:Mem}{u:PV}{vals:List Value}{w:World}(h:jb M [u] vals w):∃v,vals=[v]/\Den M u v w:=by
 rcases vals with _|⟨v,_|⟨x,l⟩⟩
 ·exact h.elim
 ·exact⟨v,rfl,h.1⟩
 ·exact h.2.elim
theorem dens2 {M:Mem}{u u2:PV}{vals:List Value}{w:World}(h:jb M [u,u2] vals w):∃v v2,vals=[v,v2]/\Den M u v w/\Den M u2 v2 w:=by
 rcases vals with _|⟨v,l⟩
 ·exact h.elim
 ·obtain⟨v2,rfl,h2⟩:=RJ h.2
  exact⟨v,v2,rfl,h.1,h2⟩
theorem dens3 {M:Mem}{u u2 u3:PV}{vals:List Value}{w:World}(h:jb M [u,u2,u3] vals w):∃v v2 v3,vals=[v,v2,v3]/\Den M u v w/\Den M u2 v2 w/\Den M u3 v3 w:=by
 rcases vals with _|⟨v,l⟩
 ·exact h.elim
 ·obtain⟨v2,v3,rfl,h2,h3⟩:=dens2 h.2
  exact⟨v,v2,v3,rfl,h.1,h2,h3⟩
def aj (p:Int)(b:Bool)(n:Int):ByteArray:=⟨#[32]⟩++Ps.bw (Ps.iW p)++(if b=true then⟨#[32,112,97,114,116,105,97,108,32]⟩++Ps.bO n else⟨#[]⟩)
noncomputable def Fa (rows:List (Option (Nat×Nat)×List Value))(f:FuncId)(us:List PV):Option (PV×Bool×Option Prop):=match us.map (nvR rows)with
 |[.v (.int .i64 q)]=>if f=48 then some (.s (20,Ps.bO q),false,some (C1 f q 20 (Ps.bO q)))else if f=45 then some (.s (20,Ps.cB q),false,some (C1 f q 20 (Ps.cB q)))
  else if f=46 then some (.s (10,Ps.aO q),false,some (C1 f q 10 (Ps.aO q)))else none
 |[.v (.int .i64 p),.v (.bool b),.v (.int .i64 q)]=>if f=47 then some (.s (60,aj p b q),false,some (C3 f p b q 60 (aj p b q)))else none
 |_=>none
theorem jX:∀args w,(callFunc 48 args).run Tryz.prog w=.ok (.enter 48 args) w:=enters_of Tryz.func48 (by kernel_rfl) rfl
theorem qj:∀args w,(callFunc 45 args).run Tryz.prog w=.ok (.enter 45 args) w:=enters_of Tryz.func45 (by kernel_rfl) rfl
theorem iR:∀args w,(callFunc 46 args).run Tryz.prog w=.ok (.enter 46 args) w:=enters_of Tryz.func46 (by kernel_rfl) rfl
theorem iO:∀args w,(callFunc 47 args).run Tryz.prog w=.ok (.enter 47 args) w:=enters_of Tryz.func47 (by kernel_rfl) rfl
theorem ze {M:Mem}(hM:Wf M){f:FuncId}{vals:List Value}{w:World}{n:Nat}{x:ByteArray}(hS:Sw M w)(h:gF f vals.toArray w x)(hn:x.size<=n):Calls Tryz.prog f vals.toArray w λe w'=>∃v,e=.returned v/\Den M (.s (n,x)) v w'/\Sw M w'/\(false=false->Below w.heap.size w w'):=by
 refine h.mono ?_
 rintro e w' ⟨rfl,hb⟩
 refine⟨_,rfl,?_,hS.below hM hb,λ_=>hb⟩
 show Value.string x=.string (st (n,x))
 rw[show st (n,x)=x from bF hn]
theorem BU {B:Nat}{W:World}{fix:List Nat}{b:Nat}{rows:List (Option (Nat×Nat)×List Value)}{call:FuncId->List PV->Option (PV×Bool×Option Prop)}{u:PV}{v x:Value}{w:World}(h:Den (dV B W fix b rows call) u v w)(hu:nvR rows u=.v x):v=x:=by
 cases u with
 |r k j=>cases hu;exact h
 |v y=>cases hu;exact h
 |_=>cases hu
theorem J3 {B:Nat}{W:World}{fix:List Nat}{b:Nat}{rows:List (Option (Nat×Nat)×List Value)}{call:FuncId->List PV->Option (PV×Bool×Option Prop)}(hM:Wf (dV B W fix b rows call))(f:FuncId)(us:List PV)(u:PV)(c:Bool)(q:Option Prop)(h:Fa rows f us=some (u,c,q))(hq:∀p,q=some p->p):
 (∀args w,(callFunc f args).run Tryz.prog w=.ok (.enter f args) w)/\∀(vals:List Value) w,Sw (dV B W fix b rows call) w->jb (dV B W fix b rows call) us vals w->Calls Tryz.prog f vals.toArray w λe w'=>∃v,e=.returned v/\Den (dV B W fix b rows call) u v w'/\Sw (dV B W fix b rows call) w'/\(c=false->Below w.heap.size w w'):=by
 unfold Fa at h
 split at h
 ·rename_i n hu
  rcases us with _|⟨u1,_|⟨u2,us⟩⟩
  ·simp at hu
  rotate_left
  ·simp at hu
  have hu1:nvR rows u1=.v (.int .i64 n):=by simpa using hu
  have key:∀(k:Nat) (x:ByteArray),C1 f n k x->∀(vals:List Value) w,Sw (dV B W fix b rows call) w->jb (dV B W fix b rows call) [u1] vals w->Calls Tryz.prog f vals.toArray w λe w'=>∃v,e=.returned v/\Den (dV B W fix b rows call) (.s (k,x)) v w'/\Sw (dV B W fix b rows call) w'/\(false=false->Below w.heap.size w w'):=λk x hc vals w hS hd=>by
   obtain⟨v,rfl,hv⟩:=RJ hd
   obtain rfl:=BU hv hu1
   exact ze hM hS (hc.1 w) hc.2
  split at h
  ·rename_i hf;cases h;subst hf;exact⟨jX,key _ _ (hq _ rfl)⟩
  split at h
  ·rename_i hf;cases h;subst hf;exact⟨qj,key _ _ (hq _ rfl)⟩
  split at h
  ·rename_i hf;cases h;subst hf;exact⟨iR,key _ _ (hq _ rfl)⟩
  ·cases h
 ·rename_i p b2 n hu
  rcases us with _|⟨u1,_|⟨u2,_|⟨u3,_|⟨u4,us⟩⟩⟩⟩
  ·simp at hu
  ·simp at hu
  ·simp at hu
  rotate_left
  ·simp at hu
  obtain⟨hu1,hu2,hu3⟩:nvR rows u1=.v (.int .i64 p)/\nvR rows u2=.v (.bool b2)/\nvR rows u3=.v (.int .i64 n):=by simpa using hu
  split at h
  ·rename_i hf
   cases h
   subst hf
   refine⟨iO,λvals w hS hd=>?_⟩
   obtain⟨v,v2,v3,rfl,h1,h2,h3⟩:=dens3 hd
   obtain rfl:=BU h1 hu1
   obtain rfl:=BU h2 hu2
   obtain rfl:=BU h3 hu3
   have hc:C3 _ _ _ _ _ _:=hq _ rfl
   exact ze hM hS (hc.1 w) hc.2
  ·cases h
 ·cases h
noncomputable def lnM (W:World)(l:List Value):Mem:=dV W.heap.size W [] 0 [(none,l)] (Fa [(none,l)])
theorem ou (W:World)(l:List Value):Ok Tryz.prog (lnM W l):=rz (Nat.le_refl _) (λg hg=>by cases hg) (λk g o l' h=>by
 rcases k with _|k
 ·cases h
 ·cases h) (λk p l' h=>by
 rcases k with _|k
 ·cases h
 ·cases h) λf us u c q h hq=>J3 ⟨Nat.le_refl _,λg hg=>by cases hg⟩ f us u c q h hq
theorem iH {M:Mem}{fn:Func}{r:Nat}{x:SB}{us:List PV}{ts:List Nat}{a:Act}{w:World}{R:Ending->World->Prop}(hres:fn.results=#[.tmp r])(hd:a.defers=[])(hv:oC M (r::ts) (.s x::us) a w)(hR:R (.returned (.string (st x))) w):bodyPost Tryz.prog fn R .ret a w:=by
 obtain⟨⟨v,h1,h2⟩,_⟩:=hv.cons
 have h2:v=.string (st x):=h2
 subst h2
 refine bodyPost_ret (results_tmp hres _ _ _) hd ?_
 rw[show a.tmps.getD r undef=.string (st x)from eval_at h1]
 exact hR
theorem dR {M:Mem}{w:World}(hB:M.B=M.W.heap.size)(h:Sw M w):Below M.W.heap.size M.W w:=by
 have:=h.to
 rwa [hB]at this
theorem Ox (n:Nat)(h:¬n<10):Ps.bO (n:Int)=Ps.bO ((n/10:Nat):Int)++⟨#[UInt8.ofNat (48+n%10)]⟩:=by
 unfold Ps.bO
 rw[Int.toNat_natCast,Int.toNat_natCast,Ps.xI h]
 apply ByteArray.ext
 simp[Ps.dgt]
theorem BJ (n:Nat)(h:n<1000000000000000000):(Ps.bO (n:Int)).size<=20:=by
 have:=Ps.jM 17 n (by omega)
 show(Ps.dec (n:Int).toNat).length<=20
 rw[Int.toNat_natCast]
 omega
theorem zU {P:Program}{c:Code}{tmps:Array Value}{Q:Exit->Act->World->Prop}{w:World}(h:∀a:Act,a.tmps=tmps->a.defers=[]->c.wp P Q a w):c.wp P Q ⟨tmps,[]⟩ w:=h _ rfl rfl
theorem CG {n:Nat}(h:n<100):UInt8.ofNat (IntKind.i64.wrap (48+(n:Int))%256).toNat=UInt8.ofNat (48+n):=by
 rw[show IntKind.i64.wrap (48+(n:Int))=((48+n:Nat):Int)from(IntWalk.i64_in _ (by omega)).trans (by omega)]
 congr 1
 omega
theorem Ki:∀(n:Nat),n<1000000000000000000->∀w,gF 48 #[.int .i64 (n:Int)] w (Ps.bO (n:Int)):=λn=>by
 induction n using Nat.strongRecOn with
 |ind n ih=>
  intro hn w
  unfold gF
  go_enter Tryz.func48,Tryz.ntmps48
  refine zU λa ha hdf=>?_
  have hF:∀M:Mem,M.cell=(lnM w [.int .i64 (n:Int)]).cell->FrP M 20 [(0,.r 0 0)] a w:=λM hM=>ah (fZ (by rw[ha];rfl) hdf) (v:=.int .i64 (n:Int)) (by rw[ha];rfl) (by show _=M.cell 0 0;rw[hM];rfl)
  by_cases h10:n<10
  ·refine gM (M:={lnM w [.int .i64 (n:Int)]with hint:=λt=>if t=4 then some true else none}) (Ok.hint (ou w _)) [2] (us:=[.s (1,⟨#[UInt8.ofNat (IntKind.i64.wrap (48+(n:Int))%256).toNat]⟩)]) (ps:=[decide ((n:Int)<10)=true]) (by kernel_rfl) ⟨by simp;omega,trivial⟩ (hF _ rfl) (Sw.hint (Sw.start _)) ?_
   intro a w' _ hd hv hS
   refine iH rfl hd hv ⟨?_,dR rfl hS⟩
   rw[show st (1,(⟨#[UInt8.ofNat (IntKind.i64.wrap (48+(n:Int))%256).toNat]⟩:ByteArray))=_ from bF (Nat.le_refl 1),CG (by omega)]
   unfold Ps.bO
   rw[Int.toNat_natCast,Ps.kQ h10]
   rfl
  ·have e1:IntKind.i64.wrap ((n:Int).tdiv 10)=((n/10:Nat):Int):=by
    rw[Int.tdiv_eq_ediv_of_nonneg (by omega)]
    exact(IntWalk.i64_in _ (by omega)).trans (by omega)
   refine gM (M:={lnM w [.int .i64 (n:Int)]with hint:=λt=>if t=4 then some false else none}) (Ok.hint (ou w _)) [2] (us:=[.s (Se.cat (20,Ps.bO (IntKind.i64.wrap ((n:Int).tdiv 10))) (1,⟨#[UInt8.ofNat (IntKind.i64.wrap (48+(n:Int).tmod 10)%256).toNat]⟩))]) (ps:=[decide ((n:Int)<10)=false,C1 48 (IntKind.i64.wrap ((n:Int).tdiv 10)) 20 (Ps.bO (IntKind.i64.wrap ((n:Int).tdiv 10)))]) (by kernel_rfl) ⟨by simp;omega,by rw[e1];exact⟨ih (n/10) (by omega) (by omega),BJ _ (by omega)⟩,trivial⟩ (hF _ rfl) (Sw.hint (Sw.start _)) ?_
   intro a w' _ hd hv hS
   refine iH rfl hd hv ⟨?_,dR rfl hS⟩
   rw[bB,e1,show(n:Int).tmod 10=((n%10:Nat):Int)from by rw[Int.tmod_eq_emod_of_nonneg (by omega)];omega,CG (by omega),Ox n h10]
   rw[show st (20,Ps.bO ((n/10:Nat):Int))=_ from bF (BJ _ (by omega)),show st (1,(⟨#[UInt8.ofNat (48+n%10)]⟩:ByteArray))=_ from bF (Nat.le_refl 1)]
theorem zH {q:Int}{n:Nat}(h:q=(n:Int))(hn:n<1000000000000000000):C1 48 q 20 (Ps.bO q):=by
 subst h
 exact⟨Ki n hn,BJ n hn⟩
theorem wW (n k:Nat)(hk:0<k)(hn:n<1000000000000000000):IntKind.i64.wrap ((n:Int).tdiv (k:Int))=((n/k:Nat):Int):=by
 rw[Int.tdiv_eq_ediv_of_nonneg (by omega),<-Int.natCast_ediv]
 have:=Nat.div_le_self n k
 generalize n/k=d at this⊢
 exact IntWalk.i64_in _ (by omega)
theorem xE (n k:Nat):(n:Int).tmod (k:Int)=((n%k:Nat):Int):=by
 rw[Int.tmod_eq_emod_of_nonneg (by omega),Int.natCast_emod]
theorem l_cash (n:Nat)(hn:n<1000000000000000000)(w:World):gF 45 #[.int .i64 (n:Int)] w (Ps.cB (n:Int)):=by
 unfold gF
 go_enter Tryz.func45,Tryz.ntmps45
 refine zU λa ha hdf=>?_
 have d1:=wW n 100 (by omega) hn
 have d2:=wW n 10 (by omega) hn
 refine gM (n:=19) (ou w [.int .i64 (n:Int)]) [2] (us:=[.s (Se.cat (Se.cat (20,Ps.bO (IntKind.i64.wrap ((n:Int).tdiv 100))) (1,⟨#[46]⟩)) (2,⟨#[UInt8.ofNat (IntKind.i64.wrap (48+(IntKind.i64.wrap ((n:Int).tdiv 10)).tmod 10)%256).toNat,UInt8.ofNat (IntKind.i64.wrap (48+(n:Int).tmod 10)%256).toNat]⟩))])
  (ps:=[C1 48 (IntKind.i64.wrap ((n:Int).tdiv 100)) 20 (Ps.bO (IntKind.i64.wrap ((n:Int).tdiv 100)))]) (by kernel_rfl) ⟨zH d1 (by omega),trivial⟩ (ah (fZ (by rw[ha];rfl) hdf) (v:=.int .i64 (n:Int)) (t:=0) (u:=.r 0 0) (by rw[ha];rfl) rfl) (Sw.start _) ?_
 intro a w' _ hd hv hS
 refine iH rfl hd hv ⟨?_,dR rfl hS⟩
 have e1:(n:Int).tdiv 100=(n:Int).tdiv ((100:Nat):Int):=rfl
 have e2:(n:Int).tdiv 10=(n:Int).tdiv ((10:Nat):Int):=rfl
 have e3:(n:Int).tmod 10=(n:Int).tmod ((10:Nat):Int):=rfl
 have e4:(((n/10:Nat):Int)).tmod 10=((n/10:Nat):Int).tmod ((10:Nat):Int):=rfl
 rw[bB,bB,e1,d1,e2,d2,e3,e4,xE,xE,CG (n:=n/10%10) (by omega),CG (n:=n%10) (by omega)]
 rw[show st (20,Ps.bO ((n/100:Nat):Int))=_ from bF (BJ _ (by omega)),show st (1,(⟨#[46]⟩:ByteArray))=_ from bF (Nat.le_refl 1),show st (2,(⟨#[UInt8.ofNat (48+n/10%10),UInt8.ofNat (48+n%10)]⟩:ByteArray))=_ from bF (Nat.le_refl 2)]
 unfold Ps.cB Ps.bO Ps.bq
 rw[Int.toNat_natCast,Int.toNat_natCast]
 refine congrArg (λs=>Ending.returned (.string s)) ?_
 apply ByteArray.ext
 simp[Ps.dgt]
theorem G7 (p:Int):(Ps.bw (Ps.iW p)).size<=6:=Ps.pG p
theorem JJ (p:Int)(hp:p=0\/p=1\/p=2)(b:Bool)(q:Int)(hq:b=true->C1 48 q 20 (Ps.bO q))(w:World):gF 47 #[.int .i64 p,.bool b,.int .i64 q] w (aj p b q):=by
 unfold gF
 go_enter Tryz.func47,Tryz.ntmps47
 refine zU λa ha hdf=>?_
 have hF:FrP (lnM w [.int .i64 p,.bool b,.int .i64 q]) 20 [(0,.r 0 0),(1,.v (.bool b)),(2,.r 0 2)] a w:=ah (ah (ah (fZ (by rw[ha];rfl) hdf) (v:=.int .i64 q) (by rw[ha];rfl) rfl) (v:=.bool b) (by rw[ha];rfl) rfl) (v:=.int .i64 p) (by rw[ha];rfl) rfl
 clear ha hdf
 have hpz:=G7 p
 cases b with
 |true=>
  have hc:=hq rfl
  refine gM (ou w _) [6] (us:=[.s (Se.cat (Se.cat (Se.cat (1,⟨#[32]⟩) ((Ps.iW p).length,Ps.bw (Ps.iW p))) (9,⟨#[32,112,97,114,116,105,97,108,32]⟩)) (20,Ps.bO q))]) (ps:=[C1 48 q 20 (Ps.bO q)]) (by rcases hp with rfl|rfl|rfl<;>kernel_rfl) ⟨hc,trivial⟩ hF (Sw.start _) ?_
  intro a w' _ hd hv hS
  refine iH rfl hd hv ⟨?_,dR rfl hS⟩
  rw[bB,bB,bB,show st (20,Ps.bO q)=_ from bF hc.2,show st ((Ps.iW p).length,Ps.bw (Ps.iW p))=_ from bF (Nat.le_refl _),show st (1,(⟨#[32]⟩:ByteArray))=_ from bF (by decide),show st (9,(⟨#[32,112,97,114,116,105,97,108,32]⟩:ByteArray))=_ from bF (by decide)]
  unfold aj
  rw[if_pos rfl]
  simp only[ByteArray.append_assoc]
 |false=>
  refine gM (ou w _) [6] (us:=[.s (Se.cat (1,⟨#[32]⟩) ((Ps.iW p).length,Ps.bw (Ps.iW p)))]) (ps:=[]) (by rcases hp with rfl|rfl|rfl<;>kernel_rfl) trivial hF (Sw.start _) ?_
  intro a w' _ hd hv hS
  refine iH rfl hd hv ⟨?_,dR rfl hS⟩
  rw[bB,show st ((Ps.iW p).length,Ps.bw (Ps.iW p))=_ from bF (Nat.le_refl _),show st (1,(⟨#[32]⟩:ByteArray))=_ from bF (by decide)]
  unfold aj
  rw[if_neg (by decide)]
  refine congrArg (λs=>Ending.returned (.string s)) ?_
  exact(ByteArray.append_empty).symm
open Go.RowKit
theorem qd {x:Int}(h: -1000000000000000000<=x/\x<=1000000000000000000):IntKind.i64.wrap x=x:=IntWalk.i64_in _ (by omega)
theorem KA (w:World)(y:Int)(h40:y.tmod 400=0->y.tmod 4=0):
 Calls Tryz.prog 202 #[.int .i64 y] w λe w'=>e=.returned (.bool (decide (y.tmod 4=0)&&!decide (y.tmod 100=0)||decide (y.tmod 400=0)))/\w'=w:=by
 obtain⟨b,hb⟩:∃b,b=(decide (y.tmod 4=0)&&!decide (y.tmod 100=0)||decide (y.tmod 400=0)):=⟨_,rfl⟩
 rw[<-hb]
 have HB:=Lib.hid hb
 clear hb
 by_cases h4:y.tmod 4=0
 all_goals by_cases h100:y.tmod 100=0
 all_goals by_cases IP:y.tmod 400=0
 all_goals first|(exact absurd (h40 IP) h4)|skip
 all_goals
  have HV:=HB.out
  simp only[h4,h100,IP,decide_true,decide_false,Bool.not_true,Bool.not_false,Bool.and_true,Bool.and_false,Bool.or_true,Bool.or_false]at HV
  subst HV
  clear HB h40
  go_enter Tryz.func202,Tryz.ntmps202
  go_wp2_with fail
  go_ret
  first
   |exact⟨rfl,rfl⟩
   |(refine⟨?_,rfl⟩
     show Ending.returned (.bool (y.tmod 400==0))=_
     rw[show(y.tmod 400==0)=false from by rw[beq_eq_false_iff_ne];exact IP])
theorem CB (w:World)(y:Int)(h1:2000<=y):
 Calls Tryz.prog 202 #[.int .i64 y] w λe w'=>e=.returned (.bool (Ps.kT y))/\w'=w:=by
 have t4:y.tmod 4=y%4:=Int.tmod_eq_emod_of_nonneg (by omega)
 have t1:y.tmod 100=y%100:=Int.tmod_eq_emod_of_nonneg (by omega)
 have t0:y.tmod 400=y%400:=Int.tmod_eq_emod_of_nonneg (by omega)
 have h:=KA w y (by rw[t4,t0];omega)
 rw[t4,t1,t0]at h
 exact h
theorem FH (w:World)(y m:Int)(h:y<2000\/(¬y<2000/\y>2199)\/(¬y<2000/\¬y>2199/\m<1)\/(¬y<2000/\¬y>2199/\¬m<1/\m>12)):
 Calls Tryz.prog 203 #[.int .i64 y,.int .i64 m] w λe w'=>e=.returned (.int .i64 0)/\w'=w:=by
 rcases h with a|⟨a,b⟩|⟨a,b,c⟩|⟨a,b,c,d⟩
 all_goals
  go_enter Tryz.func203,Tryz.ntmps203
  go_wp2_with fail
  go_ret
  exact⟨rfl,rfl⟩
theorem J4 (w:World)(y m:Int)(a:¬y<2000)(b:¬y>2199)(h:m=4\/m=6\/m=9\/m=11):
 Calls Tryz.prog 203 #[.int .i64 y,.int .i64 m] w λe w'=>e=.returned (.int .i64 30)/\w'=w:=by
 rcases h with rfl|rfl|rfl|rfl
 all_goals
  go_enter Tryz.func203,Tryz.ntmps203
  go_wp2_with fail
  go_ret
  exact⟨rfl,rfl⟩
theorem Jm (w:World)(y m:Int)(a:¬y<2000)(b:¬y>2199)(h:m=1\/m=3\/m=5\/m=7\/m=8\/m=10\/m=12):
 Calls Tryz.prog 203 #[.int .i64 y,.int .i64 m] w λe w'=>e=.returned (.int .i64 31)/\w'=w:=by
 rcases h with rfl|rfl|rfl|rfl|rfl|rfl|rfl
 all_goals
  go_enter Tryz.func203,Tryz.ntmps203
  go_wp2_with fail
  go_ret
  exact⟨rfl,rfl⟩
theorem EA (w:World)(y:Int)(a:¬y<2000)(b:¬y>2199)(l:Bool)(n1:∀w,Calls Tryz.prog 202 #[.int .i64 y] w λe w'=>e=.returned (.bool l)/\w'=w):
 Calls Tryz.prog 203 #[.int .i64 y,.int .i64 2] w λe w'=>e=.returned (.int .i64 (if l=true then 29 else 28))/\w'=w:=by
 cases l
 all_goals
  go_enter Tryz.func203,Tryz.ntmps203
  go_wp2_with (go_at_call 202;refine(n1 _).mono ?_;rintro x w1 ⟨rfl,rfl⟩)
  go_ret
  exact⟨rfl,rfl⟩
theorem wz (w:World)(y m:Int):
 Calls Tryz.prog 203 #[.int .i64 y,.int .i64 m] w λe w'=>e=.returned (.int .i64 (Ps.dim y m))/\w'=w:=by
 unfold Ps.dim
 by_cases ho:y<2000\/2199<y\/m<1\/12<m
 ·rw[if_pos ho]
  exact FH w y m (by omega)
 ·rw[if_neg ho]
  have a:¬y<2000:=by omega
  have b:¬y>2199:=by omega
  by_cases h2:m=2
  ·subst h2
   rw[if_pos rfl]
   exact EA w y a b _ λw=>CB w y (by omega)
  ·rw[if_neg h2]
   by_cases h4:m=4\/m=6\/m=9\/m=11
   ·rw[if_pos h4]
    exact J4 w y m a b h4
   ·rw[if_neg h4]
    exact Jm w y m a b (by omega)
def Ri (y m d:Int):Value:=.agg #[.int .i64 y,.int .i64 m,.int .i64 d]
theorem Mc (y m:Int):0<=Ps.dim y m/\Ps.dim y m<=31:=by
 unfold Ps.dim
 split
 ·omega
 ·split
  ·split<;>omega
  ·split<;>omega
def dB (x:Int):ByteArray:=⟨#[UInt8.ofNat (IntKind.i64.wrap (48+x.tmod 10)%256).toNat]⟩
def dQ (x:Int):Int:=IntKind.i64.wrap (x.tdiv 10)
theorem sF (n:Nat):dB (n:Int)=⟨#[Ps.dgt (n%10)]⟩:=by
 unfold dB
 rw[show(n:Int).tmod 10=((n%10:Nat):Int)from xE n 10,CG (by omega)]
 rfl
theorem BA (n:Nat)(h:n<1000000000000000000):dQ (n:Int)=((n/10:Nat):Int):=wW n 10 (by omega) h
theorem yo (c:UInt8):st (1,(⟨#[c]⟩:ByteArray))=⟨#[c]⟩:=bF (Nat.le_refl 1)
theorem Fp (n:Nat)(hn:n<10000)(w:World):gF 133 #[.int .i64 (n:Int),.int .i64 4] w ⟨(Ps.d4 n).toArray⟩:=by
 unfold gF
 go_enter Tryz.func133,Tryz.ntmps133
 refine zU λa ha hdf=>?_
 refine gM (n:=23) (M:={lnM w [.int .i64 (n:Int)]with loops:=5}) (Ok.hint (ou w _)) [4] (us:=[.s (Se.cat (1,dB (dQ (dQ (dQ n)))) (Se.cat (1,dB (dQ (dQ n))) (Se.cat (1,dB (dQ n)) (Se.cat (1,dB n) (0,⟨#[]⟩)))))]) (ps:=[]) (by kernel_rfl) trivial (ah (ah (fZ (by rw[ha];rfl) hdf) (v:=.int .i64 4) (t:=1) (u:=.v (.int .i64 4)) (by rw[ha];rfl) rfl) (v:=.int .i64 (n:Int)) (t:=0) (u:=.r 0 0) (by rw[ha];rfl) rfl) (Sw.hint (Sw.start _)) ?_
 intro a w' _ hd hv hS
 refine iH rfl hd hv ⟨?_,dR rfl hS⟩
 have h1:n/10/10=n/100:=by omega
 have h2:n/100/10=n/1000:=by omega
 rw[BA n (by omega),BA (n/10) (by omega),h1,BA (n/100) (by omega),h2,sF,sF,sF,sF,bB,bB,bB,bB,yo,yo,yo,yo]
 rfl
theorem wV (n:Nat)(hn:n<100)(w:World):gF 133 #[.int .i64 (n:Int),.int .i64 2] w ⟨(Ps.d2 n).toArray⟩:=by
 unfold gF
 go_enter Tryz.func133,Tryz.ntmps133
 refine zU λa ha hdf=>?_
 refine gM (n:=23) (M:={lnM w [.int .i64 (n:Int)]with loops:=5}) (Ok.hint (ou w _)) [4] (us:=[.s (Se.cat (1,dB (dQ n)) (Se.cat (1,dB n) (0,⟨#[]⟩)))]) (ps:=[]) (by kernel_rfl) trivial (ah (ah (fZ (by rw[ha];rfl) hdf) (v:=.int .i64 2) (t:=1) (u:=.v (.int .i64 2)) (by rw[ha];rfl) rfl) (v:=.int .i64 (n:Int)) (t:=0) (u:=.r 0 0) (by rw[ha];rfl) rfl) (Sw.hint (Sw.start _)) ?_
 intro a w' _ hd hv hS
 refine iH rfl hd hv ⟨?_,dR rfl hS⟩
 rw[BA n (by omega),sF,sF,bB,bB,yo,yo]
 rfl
theorem Dx (W:World)(g:Nat)(a b c:Int)(h:W.heap[g]? =some (.cells #[.int .i64 a,.int .i64 b,.int .i64 c] 169 (0,0))):(Instr.loadAt 169 (.pointer (some ⟨g,0,none⟩))).run Tryz.prog W=.ok (.agg #[.int .i64 a,.int .i64 b,.int .i64 c]) W:=by
 have:=run_loadVar_row (P:=Tryz.prog) W g 169 169 #[.int .i64 a,.int .i64 b,.int .i64 c] (0,0) _ h Tryz.underlying169 rfl (by kernel_rfl)
 unfold Instr.loadAt
 simp[Instr.sureAddr,this]
theorem yV (W:World)(g:Nat)(a b c:Int){o:Oper}{x y:Operand}{ρ:Operand->Value}{cur:Array Value}(h:W.heap[g]? =some (.cells cur 169 (0,0)))(ho:o.op=.store 169 x y)(hx:ρ x=.pointer (some ⟨g,0,none⟩))(hy:ρ y=.agg #[.int .i64 a,.int .i64 b,.int .i64 c])(hc:cur.size=3:=by rfl):(execOp ρ o).run Tryz.prog W=.ok .skip (W.setRow g #[.int .i64 a,.int .i64 b,.int .i64 c]):=by
 unfold execOp
 simp only[ho,hx,hy,Instr.storeAt,Instr.sureAddr,Sem.run_bind,Sem.run_pure,Result.andThen_ok,run_storeVar_row (P:=Tryz.prog) W g 169 169 cur #[.int .i64 a,.int .i64 b,.int .i64 c] h (by kernel_rfl) (by rw[hc];rfl) (by simp[Value.oneCell'])]
theorem rk3_to (n0:Int)(h0:0<=n0)(hn:n0<=Ps.bN)(w:World):Calls Tryz.prog 132 #[.int .i64 n0] w λe w'=>∃y m d:Nat,Ps.IsC n0 y m d/\e=.returned (Ri y m d)/\Below w.heap.size w w':=by
 have hn':=hn
 unfold Ps.bN at hn
 go_enter Tryz.func132,Tryz.ntmps132
 go_upto_block 0 with fail
 obtain⟨q,hq⟩:∃q,q=w.heap.size:=⟨_,rfl⟩
 generalize hW0:World.alloc _ _=W0
 have hg:W0.heap[q+1]? =some (.cells #[.int .i64 2000,.int .i64 1,.int .i64 1] 169 (0,0)):=by
  rw[<-hW0,hq];exact heap_alloc2_new _ _ _
 have hr:W0.heap[q]? =some (.cells #[.int .i64 0,.int .i64 0,.int .i64 0] 169 (0,0)):=by
  rw[<-hW0,hq,heap_alloc_old _ _ (by simp)];exact aD w _
 have HB0:Hid (Below q w W0):=Lib.hid (by rw[<-hW0,hq];exact(((Below.refl _ _).alloc (Nat.le_refl _) _).alloc (by simp) _))
 rw[<-hq]
 have HG:=Lib.hid hg
 have HR:=Lib.hid hr
 have HQ:=Lib.hid hq
 clear hg hr hq hW0
 refine wp_block ?_
 go_loopw [0,4] (λnv yv wr=>∃k:Nat,∃n:Int,nv=.int .i64 n/\k<=199/\Hid (n0=n+Ps.bD k)/\0<=n/\n<=73048/\Hid (wr.heap[q+1]? =some (.cells #[.int .i64 (2000+(k:Int)),.int .i64 1,.int .i64 1] 169 (0,0)))/\Hid (wr.heap[q]? =some (.cells #[.int .i64 0,.int .i64 0,.int .i64 0] 169 (0,0)))/\Hid (Below q w wr)) (λnv _ _=>(RowKit.intOf nv).toNat)
 case atStart=>exact⟨0,n0,rfl,by omega,Lib.hid (by rw[show Ps.bD ((0:Nat):Int)=0 from by decide];omega),h0,hn,HG,HR,HB0⟩
 case round=>
  obtain⟨k,n,rfl,hk,HN,hn0,hn1,HG,HR,HB⟩:=hrel
  have y0:wr.cell? ⟨q+1,0,none⟩=some (.int .i64 (2000+(k:Int))):=by rw[cell_of_row _ _ _ _ _ _ HG.out];rfl
  have f0:wr.frozen? ⟨q+1,0,none⟩=false:=aP 0 HG.out
  obtain⟨Y,hY⟩:∃Y:Int,Y=2000+(k:Int):=⟨_,rfl⟩
  rw[<-hY]at y0
  have hyb:2000<=Y/\Y<=2199:=by omega
  have n1:=CB wr Y hyb.1
  have hst:=Ps.rF (k+1)
  have QM:=Ps.rF k
  have hsuc:Ps.EW (k+1)=Ps.EW k+365+(if Ps.kT Y=true then 1 else 0):=by rw[hY];rfl
  have q3:IntKind.i64.wrap (Y+1)=Y+1:=qd (by omega)
  have NL:=Lib.hid hY
  have HS:=Lib.hid hst
  have HS2:=Lib.hid QM
  have HSU:=Lib.hid hsuc
  clear hY hst QM hsuc hyb
  have fin:∀(L:Int) (n':Int),Hid (n'=n-L/\L=365+(if Ps.kT Y=true then 1 else 0))->L<=n->∃k':Nat,∃n2:Int,Value.int .i64 n'=.int .i64 n2/\k'<=199/\Hid (n0=n2+Ps.bD k')/\0<=n2/\n2<=73048/\Hid ((wr.setCell ⟨q+1,0,none⟩ (.int .i64 (Y+1))).heap[q+1]? =some (.cells #[.int .i64 (2000+(k':Int)),.int .i64 1,.int .i64 1] 169 (0,0)))/\Hid ((wr.setCell ⟨q+1,0,none⟩ (.int .i64 (Y+1))).heap[q]? =some (.cells #[.int .i64 0,.int .i64 0,.int .i64 0] 169 (0,0)))/\Hid (Below q w (wr.setCell ⟨q+1,0,none⟩ (.int .i64 (Y+1)))):=λL n' hL hle=>by
   obtain⟨hn',hL⟩:=hL.out
   have e0:=HN.out
   have e1:=HS.out
   have e2:=HS2.out
   have e3:=HSU.out
   have e4:=NL.out
   have eL:Ps.bD ((k+1:Nat):Int)=Ps.bD (k:Int)+L:=by omega
   have hk2:k+1<=199:=by
    rcases Nat.lt_or_ge k 199 with h|h
    ·omega
    ·have hk9:k=199:=by omega
     subst hk9
     have:Ps.bD ((199+1:Nat):Int)=73049:=by decide
     omega
   refine⟨k+1,n',rfl,hk2,Lib.hid (by omega),by omega,by split at hL<;>omega,Lib.hid ?_,Lib.hid ?_,Lib.hid (HB.out.setCell (by show q<=q+1;omega) _)⟩
   ·rw[aa wr (q+1) 0 _ _ _ HG.out,e4,show(2000+((k+1:Nat):Int))=2000+(k:Int)+1 from by omega]
    rfl
   ·rw[Below.heap_setCell wr _ _ q (by show q≠q+1;omega)];exact HR.out
  cases hl:Ps.kT Y with
  |true=>
   rw[hl]at n1
   by_cases hlt:n<366
   ·have hx:Hid (n<365+(if Ps.kT Y=true then 1 else 0)):=Lib.hid (by rw[hl,if_pos rfl];omega)
    clear fin
    go_wp2_with (go_at_call 202;refine n1.mono ?_;rintro x w1 ⟨rfl,rfl⟩)
    have PL:Hid (n0=n+Ps.bD k/\n<365+(if Ps.kT Y=true then 1 else 0)/\k<=199/\0<=n):=Lib.hid ⟨HN.out,hx.out,hk,hn0⟩
    clear hx n1 y0 f0 q3 hl hlt
    go_loopw [0] (λnv wr2=>∃j:Nat,∃n':Int,nv=.int .i64 n'/\j<=11/\Hid (n=n'+Ps.bQ Y j)/\0<=n'/\n'<=73048/\Hid (wr2.heap[q+1]? =some (.cells #[.int .i64 Y,.int .i64 ((j:Int)+1),.int .i64 1] 169 (0,0)))/\Hid (wr2.heap[q]? =some (.cells #[.int .i64 0,.int .i64 0,.int .i64 0] 169 (0,0)))/\Hid (Below q w wr2)) (λnv _=>(RowKit.intOf nv).toNat)
    case atStart=>exact⟨0,n,rfl,by omega,Lib.hid (by simp[Ps.bQ]),hn0,hn1,Lib.hid (by rw[HG.out,NL.out];rfl),HR,HB⟩
    case round=>
     obtain⟨j,n',rfl,hj,HM,hm0,hm1,HG2,HR2,HB2⟩:=hrel
     have z0:wr.cell? ⟨q+1,0,none⟩=some (.int .i64 Y):=by rw[cell_of_row _ _ _ _ _ _ HG2.out];rfl
     have z1':wr.cell? ⟨q+1,1,none⟩=some (.int .i64 ((j:Int)+1)):=by rw[cell_of_row _ _ _ _ _ _ HG2.out];rfl
     have z2:wr.cell? ⟨q+1,2,none⟩=some (.int .i64 1):=by rw[cell_of_row _ _ _ _ _ _ HG2.out];rfl
     have f1:wr.frozen? ⟨q+1,1,none⟩=false:=aP 1 HG2.out
     have f2:wr.frozen? ⟨q+1,2,none⟩=false:=aP 2 HG2.out
     obtain⟨m,hm⟩:∃m:Int,m=(j:Int)+1:=⟨_,rfl⟩
     rw[<-hm]at z1'
     have n2:=λw=>wz w Y m
     have hdm:=Mc Y m
     obtain⟨dd,hdd⟩:∃dd:Int,dd=Ps.dim Y m:=⟨_,rfl⟩
     rw[<-hdd]at n2 hdm
     have OJ:=Lib.hid hm
     have HDD:=Lib.hid hdd
     clear hdd
     have hyr:Hid (Ps.bQ Y 12=365+(if Ps.kT Y=true then 1 else 0)):=Lib.hid (by
      have e1:=Ps.j5 k (by have:=PL.out.2.2.1;omega)
      have e2:=HS.out
      have e3:=HS2.out
      have e4:=HSU.out
      rw[<-NL.out]at e1
      rw[e1]
      rw[Int.natCast_add_one]at e2
      omega)
     by_cases hlt2:dd<=n'
     ·have q4:IntKind.i64.wrap (n'-dd)=n'-dd:=qd (by omega)
      have q5:IntKind.i64.wrap (m+1)=m+1:=qd (by omega)
      have FIN:Hid (∃j':Nat,∃n2:Int,Value.int .i64 (n'-dd)=.int .i64 n2/\j'<=11/\Hid (n=n2+Ps.bQ Y j')/\0<=n2/\n2<=73048/\Hid ((wr.setCell ⟨q+1,1,none⟩ (.int .i64 (m+1))).heap[q+1]? =some (.cells #[.int .i64 Y,.int .i64 ((j':Int)+1),.int .i64 1] 169 (0,0)))/\Hid ((wr.setCell ⟨q+1,1,none⟩ (.int .i64 (m+1))).heap[q]? =some (.cells #[.int .i64 0,.int .i64 0,.int .i64 0] 169 (0,0)))/\Hid (Below q w (wr.setCell ⟨q+1,1,none⟩ (.int .i64 (m+1))))):=Lib.hid (by
       have e1:=HM.out
       have e2:Ps.bQ Y (j+1)=Ps.bQ Y j+Ps.dim Y ((j:Int)+1):=rfl
       rw[<-OJ.out,<-HDD.out]at e2
       have e3:=hyr.out
       have e4:=PL.out
       have hj2:j+1<=11:=by
        rcases Nat.lt_or_ge j 11 with h|h
        ·omega
        ·have hj9:j=11:=by omega
         subst hj9
         have:Ps.bQ Y (11+1)=Ps.bQ Y 12:=rfl
         omega
       refine⟨j+1,n'-dd,rfl,hj2,Lib.hid (by omega),by omega,by omega,Lib.hid ?_,Lib.hid ?_,Lib.hid (HB2.out.setCell (by show q<=q+1;omega) _)⟩
       ·rw[aa wr (q+1) 1 _ _ _ HG2.out,OJ.out,Int.natCast_add_one]
        rfl
       ·rw[Below.heap_setCell wr _ _ q (by show q≠q+1;omega)];exact HR2.out)
      have hpos:Hid (0<dd):=Lib.hid (by
       have e1:=HDD.out
       have hYb:=NL.out
       have hkb:=PL.out.2.2.1
       unfold Ps.dim at e1
       rw[if_neg (by omega)]at e1
       split at e1
       ·split at e1<;>omega
       ·split at e1<;>omega)
      clear hm hyr
      go_wp2_with (go_at_call 203;refine(n2 _).mono ?_;rintro z w1 ⟨rfl,lu⟩;obtain rfl:=lu.symm;clear lu)
      go_roundw
      case rel=>exact FIN.out
      case measure=>have:=hpos.out;simp[RowKit.intOf];omega
     ·have q6:IntKind.i64.wrap (1+n')=1+n':=qd (by omega)
      obtain⟨W5,jN⟩:∃W5,W5=wr.setCell ⟨q+1,2,none⟩ (.int .i64 (1+n')):=⟨_,rfl⟩
      have hG5:W5.heap[q+1]? =some (.cells #[.int .i64 Y,.int .i64 m,.int .i64 (1+n')] 169 (0,0)):=by
       rw[jN,aa wr (q+1) 2 _ _ _ HG2.out,OJ.out];rfl
      have hR5:W5.heap[q]? =some (.cells #[.int .i64 0,.int .i64 0,.int .i64 0] 169 (0,0)):=by
       rw[jN,Below.heap_setCell wr _ _ q (by show q≠q+1;omega)];exact HR2.out
      have HB5:Hid (Below q w W5):=Lib.hid (by rw[jN];exact HB2.out.setCell (by show q<=q+1;omega) _)
      have HC:Hid (∃d:Nat,Ps.IsC n0 (2000+k) (j+1) d/\(d:Int)=1+n'):=Lib.hid (by
       obtain⟨e1,e2,e3,e4⟩:=PL.out
       have e5:=HM.out
       have e6:Ps.bQ Y (j+1)=Ps.bQ Y j+Ps.dim Y ((j:Int)+1):=rfl
       rw[<-OJ.out,<-HDD.out]at e6
       have eY:Y=((2000+k:Nat):Int):=by rw[NL.out];omega
       have e7:=HS.out
       have e8:=HS2.out
       have e9:=HSU.out
       rw[Int.natCast_add_one]at e7
       rw[eY]at e5 e6
       obtain⟨_,_,hc⟩:=Ps.IsC.of (n:=n0) (p:=k) (q:=j) h0 hn' (by omega) (by omega) (by omega) (by omega)
       exact⟨_,hc,by omega⟩)
      clear hyr hm
      go_upto_region 12 with(go_at_call 203;refine(n2 _).mono ?_;rintro z w1 ⟨rfl,lu⟩;obtain rfl:=lu.symm;clear lu)
      rw[<-jN]
      clear jN
      refine wp_region_lit ?_
      refine qR rfl rfl rfl rfl (Dx W5 (q+1) Y m (1+n') hG5) ?_
      refine wu (w':=W5.setRow q #[.int .i64 Y,.int .i64 m,.int .i64 (1+n')]) rfl rfl (yV W5 q Y m (1+n') hR5 rfl rfl rfl) ?_
      refine aU ?_
      have hR6:(W5.setRow q #[.int .i64 Y,.int .i64 m,.int .i64 (1+n')]).heap[q]? =some (.cells #[.int .i64 Y,.int .i64 m,.int .i64 (1+n')] 169 (0,0)):=setRow_heap W5 q _ _ _ _ hR5
      have Kt:Hid (Below q w (W5.setRow q #[.int .i64 Y,.int .i64 m,.int .i64 (1+n')])):=Lib.hid (by
       have hb:=HB5.out
       exact⟨hb.os,hb.tape,hb.output,by rw[setRow_size];exact hb.size,λg hg=>(setRow_other W5 q g _ (by omega)).trans (hb.block g hg)⟩)
      generalize W5.setRow q _=W6 at hR6 Kt⊢
      obtain⟨d,hd1,hd2⟩:=HC.out
      have hyY:Y=((2000+k:Nat):Int):=by rw[NL.out];omega
      have hmm:m=((j+1:Nat):Int):=by rw[OJ.out];omega
      have HFIN:Hid (Ps.IsC n0 (2000+k) (j+1) d/\Y=((2000+k:Nat):Int)/\m=((j+1:Nat):Int)/\(d:Int)=1+n'):=Lib.hid ⟨hd1,hyY,hmm,hd2⟩
      have OQ:=Lib.hid hR6
      clear hd1 hd2 hyY hmm hR6
      go_wp2_with fail
      try simp only[Exit.then,Exit.inBlock]
      refine bodyPost_ret (results_cell_row rfl _ _ q _ _ (0,0) _ rfl OQ.out Tryz.underlying169 rfl (by kernel_rfl)) rfl ?_
      obtain⟨f1,f2,f3,f4⟩:=HFIN.out
      exact⟨2000+k,j+1,d,f1,by rw[f2,f3,<-f4];rfl,by rw[<-HQ.out];exact Kt.out⟩
   ·have hle:366<=n:=by omega
    have q1:IntKind.i64.wrap (n-366)=n-366:=qd (by omega)
    have FIN:=Lib.hid (fin 366 (n-366) (Lib.hid ⟨rfl,by rw[hl];rfl⟩) hle)
    clear fin
    go_wp2_with (go_at_call 202;refine n1.mono ?_;rintro x w1 ⟨rfl,rfl⟩)
    go_roundw
    case rel=>exact FIN.out
    case measure=>simp[RowKit.intOf];omega
  |false=>
   rw[hl]at n1
   by_cases hlt:n<365
   ·have hx:Hid (n<365+(if Ps.kT Y=true then 1 else 0)):=Lib.hid (by rw[hl];simpa using hlt)
    clear fin
    go_wp2_with (go_at_call 202;refine n1.mono ?_;rintro x w1 ⟨rfl,rfl⟩)
    have PL:Hid (n0=n+Ps.bD k/\n<365+(if Ps.kT Y=true then 1 else 0)/\k<=199/\0<=n):=Lib.hid ⟨HN.out,hx.out,hk,hn0⟩
    clear hx n1 y0 f0 q3 hl hlt
    go_loopw [0] (λnv wr2=>∃j:Nat,∃n':Int,nv=.int .i64 n'/\j<=11/\Hid (n=n'+Ps.bQ Y j)/\0<=n'/\n'<=73048/\Hid (wr2.heap[q+1]? =some (.cells #[.int .i64 Y,.int .i64 ((j:Int)+1),.int .i64 1] 169 (0,0)))/\Hid (wr2.heap[q]? =some (.cells #[.int .i64 0,.int .i64 0,.int .i64 0] 169 (0,0)))/\Hid (Below q w wr2)) (λnv _=>(RowKit.intOf nv).toNat)
    case atStart=>exact⟨0,n,rfl,by omega,Lib.hid (by simp[Ps.bQ]),hn0,hn1,Lib.hid (by rw[HG.out,NL.out];rfl),HR,HB⟩
    case round=>
     obtain⟨j,n',rfl,hj,HM,hm0,hm1,HG2,HR2,HB2⟩:=hrel
     have z0:wr.cell? ⟨q+1,0,none⟩=some (.int .i64 Y):=by rw[cell_of_row _ _ _ _ _ _ HG2.out];rfl
     have z1':wr.cell? ⟨q+1,1,none⟩=some (.int .i64 ((j:Int)+1)):=by rw[cell_of_row _ _ _ _ _ _ HG2.out];rfl
     have z2:wr.cell? ⟨q+1,2,none⟩=some (.int .i64 1):=by rw[cell_of_row _ _ _ _ _ _ HG2.out];rfl
     have f1:wr.frozen? ⟨q+1,1,none⟩=false:=aP 1 HG2.out
     have f2:wr.frozen? ⟨q+1,2,none⟩=false:=aP 2 HG2.out
     obtain⟨m,hm⟩:∃m:Int,m=(j:Int)+1:=⟨_,rfl⟩
     rw[<-hm]at z1'
     have n2:=λw=>wz w Y m
     have hdm:=Mc Y m
     obtain⟨dd,hdd⟩:∃dd:Int,dd=Ps.dim Y m:=⟨_,rfl⟩
     rw[<-hdd]at n2 hdm
     have OJ:=Lib.hid hm
     have HDD:=Lib.hid hdd
     clear hdd
     have hyr:Hid (Ps.bQ Y 12=365+(if Ps.kT Y=true then 1 else 0)):=Lib.hid (by
      have e1:=Ps.j5 k (by have:=PL.out.2.2.1;omega)
      have e2:=HS.out
      have e3:=HS2.out
      have e4:=HSU.out
      rw[<-NL.out]at e1
      rw[e1]
      rw[Int.natCast_add_one]at e2
      omega)
     by_cases hlt2:dd<=n'
     ·have q4:IntKind.i64.wrap (n'-dd)=n'-dd:=qd (by omega)
      have q5:IntKind.i64.wrap (m+1)=m+1:=qd (by omega)
      have FIN:Hid (∃j':Nat,∃n2:Int,Value.int .i64 (n'-dd)=.int .i64 n2/\j'<=11/\Hid (n=n2+Ps.bQ Y j')/\0<=n2/\n2<=73048/\Hid ((wr.setCell ⟨q+1,1,none⟩ (.int .i64 (m+1))).heap[q+1]? =some (.cells #[.int .i64 Y,.int .i64 ((j':Int)+1),.int .i64 1] 169 (0,0)))/\Hid ((wr.setCell ⟨q+1,1,none⟩ (.int .i64 (m+1))).heap[q]? =some (.cells #[.int .i64 0,.int .i64 0,.int .i64 0] 169 (0,0)))/\Hid (Below q w (wr.setCell ⟨q+1,1,none⟩ (.int .i64 (m+1))))):=Lib.hid (by
       have e1:=HM.out
       have e2:Ps.bQ Y (j+1)=Ps.bQ Y j+Ps.dim Y ((j:Int)+1):=rfl
       rw[<-OJ.out,<-HDD.out]at e2
       have e3:=hyr.out
       have e4:=PL.out
       have hj2:j+1<=11:=by
        rcases Nat.lt_or_ge j 11 with h|h
        ·omega
        ·have hj9:j=11:=by omega
         subst hj9
         have:Ps.bQ Y (11+1)=Ps.bQ Y 12:=rfl
         omega
       refine⟨j+1,n'-dd,rfl,hj2,Lib.hid (by omega),by omega,by omega,Lib.hid ?_,Lib.hid ?_,Lib.hid (HB2.out.setCell (by show q<=q+1;omega) _)⟩
       ·rw[aa wr (q+1) 1 _ _ _ HG2.out,OJ.out,Int.natCast_add_one]
        rfl
       ·rw[Below.heap_setCell wr _ _ q (by show q≠q+1;omega)];exact HR2.out)
      have hpos:Hid (0<dd):=Lib.hid (by
       have e1:=HDD.out
       have hYb:=NL.out
       have hkb:=PL.out.2.2.1
       unfold Ps.dim at e1
       rw[if_neg (by omega)]at e1
       split at e1
       ·split at e1<;>omega
       ·split at e1<;>omega)
      clear hm hyr
      go_wp2_with (go_at_call 203;refine(n2 _).mono ?_;rintro z w1 ⟨rfl,lu⟩;obtain rfl:=lu.symm;clear lu)
      go_roundw
      case rel=>exact FIN.out
      case measure=>have:=hpos.out;simp[RowKit.intOf];omega
     ·have q6:IntKind.i64.wrap (1+n')=1+n':=qd (by omega)
      obtain⟨W5,jN⟩:∃W5,W5=wr.setCell ⟨q+1,2,none⟩ (.int .i64 (1+n')):=⟨_,rfl⟩
      have hG5:W5.heap[q+1]? =some (.cells #[.int .i64 Y,.int .i64 m,.int .i64 (1+n')] 169 (0,0)):=by
       rw[jN,aa wr (q+1) 2 _ _ _ HG2.out,OJ.out];rfl
      have hR5:W5.heap[q]? =some (.cells #[.int .i64 0,.int .i64 0,.int .i64 0] 169 (0,0)):=by
       rw[jN,Below.heap_setCell wr _ _ q (by show q≠q+1;omega)];exact HR2.out
      have HB5:Hid (Below q w W5):=Lib.hid (by rw[jN];exact HB2.out.setCell (by show q<=q+1;omega) _)
      have HC:Hid (∃d:Nat,Ps.IsC n0 (2000+k) (j+1) d/\(d:Int)=1+n'):=Lib.hid (by
       obtain⟨e1,e2,e3,e4⟩:=PL.out
       have e5:=HM.out
       have e6:Ps.bQ Y (j+1)=Ps.bQ Y j+Ps.dim Y ((j:Int)+1):=rfl
       rw[<-OJ.out,<-HDD.out]at e6
       have eY:Y=((2000+k:Nat):Int):=by rw[NL.out];omega
       have e7:=HS.out
       have e8:=HS2.out
       have e9:=HSU.out
       rw[Int.natCast_add_one]at e7
       rw[eY]at e5 e6
       obtain⟨_,_,hc⟩:=Ps.IsC.of (n:=n0) (p:=k) (q:=j) h0 hn' (by omega) (by omega) (by omega) (by omega)
       exact⟨_,hc,by omega⟩)
      clear hyr hm
      go_upto_region 12 with(go_at_call 203;refine(n2 _).mono ?_;rintro z w1 ⟨rfl,lu⟩;obtain rfl:=lu.symm;clear lu)
      rw[<-jN]
      clear jN
      refine wp_region_lit ?_
      refine qR rfl rfl rfl rfl (Dx W5 (q+1) Y m (1+n') hG5) ?_
      refine wu (w':=W5.setRow q #[.int .i64 Y,.int .i64 m,.int .i64 (1+n')]) rfl rfl (yV W5 q Y m (1+n') hR5 rfl rfl rfl) ?_
      refine aU ?_
      have hR6:(W5.setRow q #[.int .i64 Y,.int .i64 m,.int .i64 (1+n')]).heap[q]? =some (.cells #[.int .i64 Y,.int .i64 m,.int .i64 (1+n')] 169 (0,0)):=setRow_heap W5 q _ _ _ _ hR5
      have Kt:Hid (Below q w (W5.setRow q #[.int .i64 Y,.int .i64 m,.int .i64 (1+n')])):=Lib.hid (by
       have hb:=HB5.out
       exact⟨hb.os,hb.tape,hb.output,by rw[setRow_size];exact hb.size,λg hg=>(setRow_other W5 q g _ (by omega)).trans (hb.block g hg)⟩)
      generalize W5.setRow q _=W6 at hR6 Kt⊢
      obtain⟨d,hd1,hd2⟩:=HC.out
      have hyY:Y=((2000+k:Nat):Int):=by rw[NL.out];omega
      have hmm:m=((j+1:Nat):Int):=by rw[OJ.out];omega
      have HFIN:Hid (Ps.IsC n0 (2000+k) (j+1) d/\Y=((2000+k:Nat):Int)/\m=((j+1:Nat):Int)/\(d:Int)=1+n'):=Lib.hid ⟨hd1,hyY,hmm,hd2⟩
      have OQ:=Lib.hid hR6
      clear hd1 hd2 hyY hmm hR6
      go_wp2_with fail
      try simp only[Exit.then,Exit.inBlock]
      refine bodyPost_ret (results_cell_row rfl _ _ q _ _ (0,0) _ rfl OQ.out Tryz.underlying169 rfl (by kernel_rfl)) rfl ?_
      obtain⟨f1,f2,f3,f4⟩:=HFIN.out
      exact⟨2000+k,j+1,d,f1,by rw[f2,f3,<-f4];rfl,by rw[<-HQ.out];exact Kt.out⟩
   ·have hle:365<=n:=by omega
    have q1:IntKind.i64.wrap (n-365)=n-365:=qd (by omega)
    have FIN:=Lib.hid (fin 365 (n-365) (Lib.hid ⟨rfl,by rw[hl];rfl⟩) hle)
    clear fin
    go_wp2_with (go_at_call 202;refine n1.mono ?_;rintro x w1 ⟨rfl,rfl⟩)
    go_roundw
    case rel=>exact FIN.out
    case measure=>simp[RowKit.intOf];omega
end Go.Proofs.YtnjjeapcalkmaaaGreatDoor
namespace Go.Proofs.YtnjjeapcalkmaaaGreatDoor.Se
open Go Go.RowKit Go.Proofs.YtnjjeapcalkmaaaGreatDoor Go.Proofs.YtnjjeapcalkmaaaGreatDoor.Ord
def Aw (cell:Nat->Nat->Value):PV->Value->World->Prop
 | .v x,y,_=>y=x
 | .s x,y,_=>y=.string (st x)
 | .sl l,y,w=>∃B,w.ownsRow B 9 1 y l.length ((l.map st).map .string)
 | .r k j,y,_=>y=cell k j
 | .a k j n,y,_=>y=.agg ((List.range n).map λi=>cell k (j+i)).toArray
 | .u c,y,_=>y=.int .u8 (c.toNat:Int)
 | .by_ l,y,w=>∃B,w.ownsRow B 5 1 y l.length (l.map λc=>.int .u8 (c.toNat:Int))
 |_,_,_=>False
def tY (cell:Nat->Nat->Value):List PV->List Value->World->Prop
 |[],[],_=>True
 |u::us,y::ys,w=>Aw cell u y w/\tY cell us ys w
 |_,_,_=>False
def DL:PV->Bool
 | .p _ _=>false
 | .pe _=>false
 |_=>true
inductive Rv where
 |str (n:Nat) (x:ByteArray)
 |sls (xs:List SB)
 |val (x:Value)
 |bts (xs:List UInt8)
def Rv.pv:Rv->PV
 | .str n x=>.s (n,x)
 | .sls l=>.sl l
 | .val x=>.v x
 | .bts l=>.by_ l
def Rv.fits:Rv->Prop
 | .str n x=>x.size<=n
 |_=>True
def Rv.out:Rv->Value->World->World->Prop
 | .str _ x,y,_,_=>y=.string x
 | .sls l,y,w,w'=>w'.ownsRow w.heap.size 9 1 y l.length ((l.map st).map .string)
 | .val x,y,_,_=>y=x
 | .bts l,y,w,w'=>w'.ownsRow w.heap.size 5 1 y l.length (l.map λc=>.int .u8 (c.toNat:Int))
def Spec (cell:Nat->Nat->Value)(f:FuncId)(us:List PV)(r:Rv):Prop:=
 (∀args w,(callFunc f args).run Tryz.prog w=.ok (.enter f args) w)/\r.fits/\∀(vals:List Value) (w:World),tY cell us vals w->Calls Tryz.prog f vals.toArray w λe w'=>∃y,e=.returned y/\r.out y w w'/\Below w.heap.size w w'
def SpecC (cell:Nat->Nat->Value)(f:FuncId)(us:List PV)(l l2:List SB):Prop:=
 (∀args w,(callFunc f args).run Tryz.prog w=.ok (.enter f args) w)/\∀(vals:List Value) (y:Value) (w:World) (B:Nat),B<=w.heap.size->tY cell us vals w->w.ownsRow B 9 1 y l.length ((l.map st).map .string)->(∀g,y.ownBlock=some g->B<=g)->Calls Tryz.prog f (vals++[y]).toArray w λe w'=>∃z,e=.returned z/\w'.ownsRow B 9 1 z l2.length ((l2.map st).map .string)/\Below B w w'
theorem QD {M:Mem}{u:PV}{y:Value}{w:World}(ha:DL u=true)(h:Den M u y w):Aw M.cell u y w:=by
 cases u with
 |sl l=>exact⟨M.B,by have:=h.1;rw[List.length_map]at this;exact this⟩
 |by_ l=>exact⟨M.B,h.1⟩
 |p k j=>cases ha
 |pe x=>cases ha
 |_=>exact h
theorem qh {M:Mem}{w:World}:∀{us:List PV} {ys:List Value},us.all DL=true->jb M us ys w->tY M.cell us ys w
 |[],[],_,_=>trivial
 |[],_::_,_,h=>h
 |_::_,[],_,h=>h
 |u::us,y::ys,ha,h=>by
  rw[List.all_cons,Bool.and_eq_true]at ha
  exact⟨QD ha.1 h.1,qh ha.2 h.2⟩
def hook (cell:Nat->Nat->Value)(fixE:Bool)(res:FuncId->List PV->Option Rv)(resC:FuncId->List PV->List SB->Option (List SB))(f:FuncId)(us:List PV):Option (PV×Bool×Option Prop):=match res f us with
 |some r=>if us.all DL=true then some (r.pv,false,some (Spec cell f us r))else none
 |none=>match us.reverse with
  | .sl l::rest=>match resC f rest.reverse l with
    |some l2=>if (fixE&&rest.reverse.all DL)=true then some (.sl l2,true,some (SpecC cell f rest.reverse l l2))else none
    |none=>none
  |_=>none
theorem zX {M:Mem}{u:PV}{w:World}:∀{us:List PV} {vals:List Value},jb M (us++[u]) vals w->∃vs y,vals=vs++[y]/\jb M us vs w/\Den M u y w
 |[],vals,h=>by
  rcases vals with _|⟨v,_|⟨x,l⟩⟩
  ·exact h.elim
  ·exact⟨[],v,rfl,trivial,h.1⟩
  ·exact h.2.elim
 |x::us,vals,h=>by
  rcases vals with _|⟨v,l⟩
  ·exact h.elim
  ·obtain⟨vs,y,h1,h2,h3⟩:=zX h.2
   exact⟨v::vs,y,by rw[h1];rfl,⟨h.1,h2⟩,h3⟩
theorem Ov {M:Mem}(hM:Wf M){res:FuncId->List PV->Option Rv}{resC:FuncId->List PV->List SB->Option (List SB)}{fixE:Bool}(hfix:fixE=true->M.fix=[])(f:FuncId)(us:List PV)(u:PV)(c:Bool)(q:Option Prop)(h:hook M.cell fixE res resC f us=some (u,c,q))(hq:∀p,q=some p->p):
 (∀args w,(callFunc f args).run Tryz.prog w=.ok (.enter f args) w)/\∀(vals:List Value) w,Sw M w->jb M us vals w->Calls Tryz.prog f vals.toArray w λe w'=>∃v,e=.returned v/\Den M u v w'/\Sw M w'/\(c=false->Below w.heap.size w w'):=by
 unfold hook at h
 split at h
 ·rename_i r hr
  split at h
  ·rename_i ha
   cases h
   obtain⟨h1,h2,h3⟩:=hq _ rfl
   refine⟨h1,λvals w hS hd=>(h3 vals w (qh ha hd)).mono ?_⟩
   rintro e w' ⟨y,rfl,ho,hb⟩
   have hB:M.B<=w.heap.size:=Nat.le_trans hM.B hS.size
   have hnew:∀{t:TypeId} {n:Nat} {xs:List Value},w'.ownsRow w.heap.size t 1 y n xs->∀g,y.ownBlock=some g->g∉M.fix:=λho g hg hf=>by
    rcases ho.2 with⟨hv,_⟩|⟨g',cap,cur,hv,hb',_⟩
    ·rw[hv]at hg;cases hg
    ·rw[hv]at hg
     have:g'=g:=by simpa[Value.ownBlock]using hg
     have:=hM.fix g hf
     have:=hS.size
     omega
   refine⟨y,rfl,?_,hS.below hM hb,λ_=>hb⟩
   cases r with
   |str n x=>
    show y=.string (st (n,x))
    rw[show st (n,x)=x from bF h2]
    exact ho
   |sls l=>
    have ho:w'.ownsRow w.heap.size 9 1 y l.length ((l.map st).map .string):=ho
    refine⟨?_,hnew ho⟩
    rw[List.length_map]
    exact gz ho hB
   |val x=>exact ho
   |bts l=>
    have ho:w'.ownsRow w.heap.size 5 1 y l.length (l.map λc=>.int .u8 (c.toNat:Int)):=ho
    exact⟨gz ho hB,hnew ho⟩
  ·cases h
 ·split at h
  ·rename_i l rest hrev
   split at h
   ·rename_i l2 hl2
    split at h
    ·rename_i hc
     cases h
     rw[Bool.and_eq_true]at hc
     have hfx:=hfix hc.1
     have OT:us=rest.reverse++[.sl l]:=by
      have:=congrArg List.reverse hrev
      rw[List.reverse_reverse,List.reverse_cons]at this
      exact this
     obtain⟨h1,h2⟩:=hq _ rfl
     refine⟨h1,λvals w hS hd=>?_⟩
     rw[OT]at hd
     obtain⟨vs,y,rfl,hd1,hd2⟩:=zX hd
     have hB:M.B<=w.heap.size:=Nat.le_trans hM.B hS.size
     have hy:=hd2.1
     rw[List.length_map]at hy
     refine(h2 vs y w M.B hB (qh hc.2 hd1) hy (λg hg=>?_)).mono ?_
     ·rcases hy.2 with⟨hv,_⟩|⟨g',cap,cur,hv,hb',_⟩
      ·rw[hv]at hg;cases hg
      ·rw[hv]at hg
       have:g'=g:=by simpa[Value.ownBlock]using hg
       omega
     ·rintro e w' ⟨z,rfl,ho,hb⟩
      refine⟨z,rfl,⟨?_,λg _ hf=>by rw[hfx]at hf;cases hf⟩,hS.turn hb (λg hf=>by rw[hfx]at hf;cases hf),λhc=>by cases hc⟩
      rw[List.length_map]
      exact ho
    ·cases h
   ·cases h
  ·cases h
def noC (_:FuncId)(_:List PV)(_:List SB):Option (List SB):=none
def seM (B:Nat)(W:World)(fix:List Nat)(b:Nat)(rows:List (Option (Nat×Nat)×List Value))(res:FuncId->List PV->Option Rv)(resC:FuncId->List PV->List SB->Option (List SB):=noC):Mem:=dV B W fix b rows (hook (Ev.aR rows) fix.isEmpty res resC)
theorem GY {B:Nat}{W:World}{fix:List Nat}{b:Nat}{rows:List (Option (Nat×Nat)×List Value)}{res:FuncId->List PV->Option Rv}{resC:FuncId->List PV->List SB->Option (List SB)}(hB:B<=W.heap.size)(hf:∀g∈fix,g<W.heap.size)
 (h2:∀(k g o:Nat) (l:List Value),rows[k]? =some (some (g,o),l)->(g<B\/g∈fix)/\∀w:World,w.heap[g]? =W.heap[g]?->∀(j:Nat) (v:Value),l[j]? =some v->w.cell? ⟨g,o+j,none⟩=some v)
 (hb:∀(k:Nat) (p:Nat×Nat) (l:List Value),rows[k]? =some (some p,l)->∀x,Value.string x∈l->x.size<=b):Ok Tryz.prog (seM B W fix b rows res resC):=
 rz hB hf h2 hb λf us u c q h hq=>Ov (M:=seM B W fix b rows res resC) ⟨hB,hf⟩ (λhx=>by show fix=[];simpa using hx) f us u c q h hq
theorem Pw {cell:Nat->Nat->Value}{u:PV}{vals:List Value}{w:World}(h:tY cell [u] vals w):∃v,vals=[v]/\Aw cell u v w:=by
 rcases vals with _|⟨v,_|⟨x,l⟩⟩
 ·exact h.elim
 ·exact⟨v,rfl,h.1⟩
 ·exact h.2.elim
theorem d0_2 {cell:Nat->Nat->Value}{u u2:PV}{vals:List Value}{w:World}(h:tY cell [u,u2] vals w):∃v v2,vals=[v,v2]/\Aw cell u v w/\Aw cell u2 v2 w:=by
 rcases vals with _|⟨v,l⟩
 ·exact h.elim
 ·obtain⟨v2,rfl,h2⟩:=Pw h.2
  exact⟨v,v2,rfl,h.1,h2⟩
theorem d0_3 {cell:Nat->Nat->Value}{u u2 u3:PV}{vals:List Value}{w:World}(h:tY cell [u,u2,u3] vals w):∃v v2 v3,vals=[v,v2,v3]/\Aw cell u v w/\Aw cell u2 v2 w/\Aw cell u3 v3 w:=by
 rcases vals with _|⟨v,l⟩
 ·exact h.elim
 ·obtain⟨v2,v3,rfl,h2,h3⟩:=d0_2 h.2
  exact⟨v,v2,v3,rfl,h.1,h2,h3⟩
def iE (cell:Nat->Nat->Value):PV->Option Value
 | .v x=>some x
 | .r k j=>some (cell k j)
 | .s x=>some (.string (st x))
 | .a k j n=>some (.agg ((List.range n).map λi=>cell k (j+i)).toArray)
 |_=>none
theorem iQ {cell:Nat->Nat->Value}{u:PV}{x y:Value}{w:World}(hu:iE cell u=some x)(h:Aw cell u y w):y=x:=by
 cases u<;>first|(cases hu;exact h)|cases hu
theorem spec1 {cell:Nat->Nat->Value}{f:FuncId}{u:PV}{x:Value}{n:Nat}{b:ByteArray}(he:∀args w,(callFunc f args).run Tryz.prog w=.ok (.enter f args) w)(hu:iE cell u=some x)(h:∀w,gF f #[x] w b)(hn:b.size<=n):Spec cell f [u] (.str n b):=⟨he,hn,λvals w hd=>by
 obtain⟨v,rfl,hv⟩:=Pw hd
 obtain rfl:=iQ hu hv
 exact(h w).mono λe w' ⟨h1,h2⟩=>⟨_,h1,rfl,h2⟩⟩
theorem MH {cell:Nat->Nat->Value}{f:FuncId}{u u2:PV}{x x2:Value}{n:Nat}{b:ByteArray}(he:∀args w,(callFunc f args).run Tryz.prog w=.ok (.enter f args) w)(hu:iE cell u=some x)(hu2:iE cell u2=some x2)(h:∀w,gF f #[x,x2] w b)(hn:b.size<=n):Spec cell f [u,u2] (.str n b):=⟨he,hn,λvals w hd=>by
 obtain⟨v,v2,rfl,hv,hv2⟩:=d0_2 hd
 obtain rfl:=iQ hu hv
 obtain rfl:=iQ hu2 hv2
 exact(h w).mono λe w' ⟨h1,h2⟩=>⟨_,h1,rfl,h2⟩⟩
theorem spec3 {cell:Nat->Nat->Value}{f:FuncId}{u u2 u3:PV}{x x2 x3:Value}{n:Nat}{b:ByteArray}(he:∀args w,(callFunc f args).run Tryz.prog w=.ok (.enter f args) w)(hu:iE cell u=some x)(hu2:iE cell u2=some x2)(hu3:iE cell u3=some x3)(h:∀w,gF f #[x,x2,x3] w b)(hn:b.size<=n):Spec cell f [u,u2,u3] (.str n b):=⟨he,hn,λvals w hd=>by
 obtain⟨v,v2,v3,rfl,hv,hv2,hv3⟩:=d0_3 hd
 obtain rfl:=iQ hu hv
 obtain rfl:=iQ hu2 hv2
 obtain rfl:=iQ hu3 hv3
 exact(h w).mono λe w' ⟨h1,h2⟩=>⟨_,h1,rfl,h2⟩⟩
end Go.Proofs.YtnjjeapcalkmaaaGreatDoor.Se
namespace Go.Proofs.YtnjjeapcalkmaaaGreatDoor
open Go Go.RowKit Go.Proofs.YtnjjeapcalkmaaaGreatDoor.Ord
open Go.Proofs.YtnjjeapcalkmaaaGreatDoor.Se
theorem lG:∀args w,(callFunc 133 args).run Tryz.prog w=.ok (.enter 133 args) w:=enters_of Tryz.func133 (by kernel_rfl) rfl
def BK (g:Nat)(y m d:Nat):List (Option (Nat×Nat)×List Value):=[(some (g,0),[.int .i64 (y:Int),.int .i64 (m:Int),.int .i64 (d:Int)])]
def f3Res (y m d:Nat)(f:FuncId)(us:List PV):Option Rv:=if f=133 then(match us with
 |[.r 0 0,.v (.int .i64 4)]=>some (.str 4 ⟨(Ps.d4 y).toArray⟩)
 |[.r 0 1,.v (.int .i64 2)]=>some (.str 2 ⟨(Ps.d2 m).toArray⟩)
 |[.r 0 2,.v (.int .i64 2)]=>some (.str 2 ⟨(Ps.d2 d).toArray⟩)
 |_=>none)else none
theorem row1 {W:World}{g B:Nat}{l:List Value}{t:TypeId}{fix:List Nat}(h:W.heap[g]? =some (.cells l.toArray t (0,0)))(hp:g<B\/g∈fix):∀(k g' o:Nat) (l':List Value),([(some (g,0),l)]:List (Option (Nat×Nat)×List Value))[k]? =some (some (g',o),l')->(g'<B\/g'∈fix)/\∀w:World,w.heap[g']? =W.heap[g']?->∀(j:Nat) (v:Value),l'[j]? =some v->w.cell? ⟨g',o+j,none⟩=some v:=λk g' o l' hk=>by
 rcases k with _|k
 ·cases hk;exact⟨hp,nQ h⟩
 ·cases hk
theorem str1 {g b:Nat}{l:List Value}(h:∀x,Value.string x∈l->x.size<=b):∀(k:Nat) (p:Nat×Nat) (l':List Value),([(some (g,0),l)]:List (Option (Nat×Nat)×List Value))[k]? =some (some p,l')->∀x,Value.string x∈l'->x.size<=b:=λk p l' hk=>by
 rcases k with _|k
 ·cases hk;exact h
 ·cases hk
theorem Jh (n:Int)(h0:0<=n)(hn:n<=Ps.bN)(w:World):gF 75 #[.int .i64 n] w (Ps.aO n):=by
 have n1:=rk3_to n h0 hn w
 unfold gF
 clear h0 hn
 go_enter Tryz.func75,Tryz.ntmps75
 go_upto_region 2 with(go_at_call 132;refine n1.mono ?_;rintro e w1 ⟨y,m,d,hc,rfl,hb⟩;unfold Ri)
 rename_i K hK
 have hc31:=hc.d31
 have hc2:=hc
 obtain⟨g,hg⟩:∃g,g=w1.heap.size:=⟨_,rfl⟩
 generalize hW:World.alloc _ _=W
 have hrow:W.heap[g]? =some (.cells #[.int .i64 (y:Int),.int .i64 (m:Int),.int .i64 (d:Int)] 169 (0,0)):=by rw[<-hW,hg];exact aD w1 _
 have HB:Below w.heap.size w W:=by rw[<-hW];exact hb.alloc hb.size _
 have hgW:g<W.heap.size:=(Array.getElem?_eq_some_iff.1 hrow).1
 rw[<-hg]
 clear hW hg n1
 refine zU λa ha hdf=>?_
 obtain⟨c1,c2,c3,c4,c5,c6,_⟩:=hc
 refine RX (M:=seM W.heap.size W [] 0 (BK g y m d) (f3Res y m d)) (n:=19) (GY (Nat.le_refl _) (λ_ h=>by cases h) (row1 hrow (.inl hgW)) (str1 λx hx=>by simp at hx)) [2] (K:=[(3,.p 0 0)])
  (us:=[.s (Se.cat (Se.cat (Se.cat (Se.cat (4,⟨(Ps.d4 y).toArray⟩) (1,⟨#[45]⟩)) (2,⟨(Ps.d2 m).toArray⟩)) (1,⟨#[45]⟩)) (2,⟨(Ps.d2 d).toArray⟩))])
  (ps:=[Se.Spec (Ev.aR (BK g y m d)) 133 [.r 0 0,.v (.int .i64 4)] (.str 4 ⟨(Ps.d4 y).toArray⟩),Se.Spec (Ev.aR (BK g y m d)) 133 [.r 0 1,.v (.int .i64 2)] (.str 2 ⟨(Ps.d2 m).toArray⟩),Se.Spec (Ev.aR (BK g y m d)) 133 [.r 0 2,.v (.int .i64 2)] (.str 2 ⟨(Ps.d2 d).toArray⟩)])
  (by kernel_rfl) ⟨MH lG rfl rfl (λw=>Fp y (by omega) w) (Nat.le_refl _),MH lG rfl rfl (λw=>wV m (by omega) w) (Nat.le_refl _),MH lG rfl rfl (λw=>wV d (by omega) w) (Nat.le_refl _),trivial⟩
  (ah (fZ (by rw[ha];rfl) hdf) (v:=.pointer (some ⟨g,0,none⟩)) (by rw[ha];rfl) rfl) (Sw.start _) ?_
 intro a w' _ hd hv hS
 refine hK _ _ (wp_ret ?_)
 try simp only[Exit.then,Exit.inBlock]
 refine iH rfl hd hv ⟨?_,HB.trans ((dR rfl hS).mono HB.size)⟩
 rw[bB,bB,bB,bB,Ps.CU hc2,show st (4,(⟨(Ps.d4 y).toArray⟩:ByteArray))=_ from bF (Nat.le_refl 4),show st (2,(⟨(Ps.d2 m).toArray⟩:ByteArray))=_ from bF (Nat.le_refl 2),show st (2,(⟨(Ps.d2 d).toArray⟩:ByteArray))=_ from bF (Nat.le_refl 2),show st (1,(⟨#[45]⟩:ByteArray))=_ from bF (Nat.le_refl 1)]
 rfl
theorem l_date (n:Int)(h0:0<=n)(hn:n<=Ps.bN)(w:World):gF 46 #[.int .i64 n] w (Ps.aO n):=by
 have n1:=Jh n h0 hn w
 unfold gF at n1⊢
 go_enter Tryz.func46,Tryz.ntmps46
 go_wp2_with (go_at_call 75;refine n1.mono ?_;rintro e w1 ⟨rfl,hb⟩)
 go_ret
 exact⟨rfl,hb⟩
theorem cZ {b:Bool}{n:Int}{rs:List (Bool×Int)}{P:Prop}[Decidable P](h:b=true↔P):aY ((b,n)::rs)=if P then n else aY rs:=by
 show(if b=true then n else aY rs)=_
 by_cases hp:P
 ·rw[if_pos hp,if_pos (h.2 hp)]
 ·rw[if_neg hp,if_neg (λhb=>hp (h.1 hb))]
theorem gV (n lo hi:Int):inB n lo hi=true↔lo<=n/\n<=hi:=by
 unfold inB;simp
theorem qi (n:Int)(u:Bool):Ak n u=true↔if u=true then 1<=n/\n<=Ps.bS else n=0:=by
 unfold Ak Ps.bS
 cases u
 ·simp
 ·simp[gV]
theorem au {b:Bool}{P:Prop}(h:b=true↔P):(!b)=true↔¬P:=by
 rw[<-h];cases b<;>simp
theorem Ju (A:Ps.Amd):aY (mR A)=Ps.xB A:=by
 unfold mR Ps.xB
 rw[cZ (P:=A.hasAmount=false/\A.hasSettleDay=false/\A.hasPriority=false/\A.hasPartial=false) (by simp[and_assoc]),
  cZ (P:=(A.hasAmount=false/\A.amount≠0)\/(A.hasSettleDay=false/\A.settleDay≠0)\/(A.hasPriority=false/\A.priority≠0)\/(A.hasPartial=false/\(A.partial_=true\/A.minLot≠0))) (by simp[or_assoc]),
  cZ (au (qi _ _)),cZ (au (gV _ _ _)),cZ (au (gV _ _ _)),cZ (au (qi _ _))]
 rfl
open Go.RowKit
open Go.Proofs.YtnjjeapcalkmaaaGreatDoor.Ord
def gG (V:Nat->ByteArray->Bool)(i:Ps.Ins)(sn:Nat):List (Bool×Int):=[((!(inB i.kind 0 4)),11),((!(V 2 i.ref)),6),((!(V 1 i.sender)),6),((((i.kind==3)||(i.kind==4))&&(!(i.counterparty.toList==(⟨#[]⟩:ByteArray).toList))),3),(((!((i.kind==3)||(i.kind==4)))&&(!(V 1 i.counterparty))),6),((i.counterparty.toList==i.sender.toList),1),((!(inB i.side 0 1)),11),(((!((i.kind==1)||(i.kind==2)))&&(i.side !=0)),3),((!(if (i.kind==0)=true then(i.asset.toList==[67,65,83,72])else V 0 i.asset)),6),((!(Ak i.quantity (i.kind !=0))),2),((!(Ak i.amount ((i.kind==0)||(i.kind==1)))),2),((!(inB i.settleDay 0 73048)),28),(((((i.kind==1)||(i.kind==2))&&(!(inB i.tradeDay 0 i.settleDay)))||((!((i.kind==1)||(i.kind==2)))&&(i.tradeDay !=0))),28),(((!(inB i.priority 0 2))||(((i.kind==3)||(i.kind==4))&&(i.priority !=0))),2),((i.partial_&&(!((i.kind==1)||(i.kind==2)))),3),(((i.partial_&&(decide (i.minLot<1)))||(!(inB i.minLot 0 (if i.partial_=true then i.quantity else 0)))),2),((i.hold&&((i.kind==3)||(i.kind==4))),3),((i.reserve&&((i.kind !=0)||(i.priority !=2))),3),((((i.kind==3)||(i.kind==4))&&(decide (0<(sn:Int)))),3),((decide (8<(sn:Int))),8)]
theorem DW (s t:ByteArray):(s.toList==t.toList)=true↔s=t:=by
 rw[beq_iff_eq]
 constructor
 ·intro h
  rw[Lib.toList_data,Lib.toList_data]at h
  exact Go.WideShapes.bytes_inj h
 ·rintro rfl;rfl
def oW (d:Int):List (Bool×Int)->Int
 |[]=>d
 |x::rs=>if x.1=true then x.2 else oW d rs
theorem aW {d:Int}{b:Bool}{n:Int}{rs:List (Bool×Int)}{P:Prop}[Decidable P](h:b=true↔P):oW d ((b,n)::rs)=if P then n else oW d rs:=by
 show(if b=true then n else oW d rs)=_
 by_cases hp:P
 ·rw[if_pos hp,if_pos (h.2 hp)]
 ·rw[if_neg hp,if_neg (λhb=>hp (h.1 hb))]
theorem rW (d:Int):∀rs:List (Bool×Int),(∀x∈rs,x.2≠0)->oW d rs=if aY rs≠0 then aY rs else d
 |[],_=>by simp[oW,aY]
 |x::rs,h=>by
  have ih:=rW d rs λy hy=>h y (List.mem_cons_of_mem _ hy)
  have hx:=h x List.mem_cons_self
  show(if x.1=true then x.2 else oW d rs)=if (if x.1=true then x.2 else aY rs)≠0 then(if x.1=true then x.2 else aY rs)else d
  by_cases hb:x.1=true
  ·simp only[if_pos hb,if_pos hx]
  ·simp only[if_neg hb];exact ih
theorem mH (i:Ps.Ins):((i.kind==3)||(i.kind==4))=true↔i.kind=3\/i.kind=4:=by simp
theorem qA (i:Ps.Ins):((i.kind==1)||(i.kind==2))=true↔i.kind=1\/i.kind=2:=by simp
theorem ed {a b:Bool}{P Q:Prop}(h1:a=true↔P)(h2:b=true↔Q):(a&&b)=true↔P/\Q:=by rw[Bool.and_eq_true,h1,h2]
theorem pq {a b:Bool}{P Q:Prop}(h1:a=true↔P)(h2:b=true↔Q):(a||b)=true↔P\/Q:=by rw[Bool.or_eq_true,h1,h2]
theorem qW (a b:Int):(a !=b)=true↔a≠b:=by simp
theorem KJ (b:Bool):(!b)=true↔b=false:=by simp
theorem JD (V:Nat->ByteArray->Bool)(i:Ps.Ins):Ps.ny V i=if aY (gG V i i.links.length)≠0 then aY (gG V i i.links.length)else Ps.eU V i [] i.links:=by
 rw[<-rW _ _ (by unfold gG;simp)]
 unfold gG Ps.ny
 have hs:(!(i.counterparty.toList==(⟨#[]⟩:ByteArray).toList))=true↔i.counterparty≠⟨#[]⟩:=au (DW _ _)
 have hcash:(if (i.kind==0)=true then(i.asset.toList==[67,65,83,72])else V 0 i.asset)=true↔if i.kind=0 then i.asset=Ps.sU else V 0 i.asset=true:=by
  have h2:([67,65,83,72]:List UInt8)=Ps.sU.toList:=by rw[Lib.toList_data];rfl
  rw[h2]
  by_cases h:i.kind=0
  ·simp only[h,BEq.rfl,if_true];exact DW _ _
  ·have:(i.kind==0)=false:=by simp[h]
   simp only[this,h,if_false,Bool.false_eq_true]
 have hq:(!(Ak i.quantity (i.kind !=0)))=true↔¬(if i.kind≠0 then 1<=i.quantity/\i.quantity<=Ps.bS else i.quantity=0):=by
  refine(au (qi _ _)).trans (not_congr ?_)
  by_cases h:i.kind=0<;>simp[h]
 have ha:(!(Ak i.amount ((i.kind==0)||(i.kind==1))))=true↔¬(if i.kind=0\/i.kind=1 then 1<=i.amount/\i.amount<=Ps.bS else i.amount=0):=by
  refine(au (qi _ _)).trans (not_congr ?_)
  simp
 have hlot:((i.partial_&&(decide (i.minLot<1)))||(!(inB i.minLot 0 (if i.partial_=true then i.quantity else 0))))=true↔(i.partial_=true/\i.minLot<1)\/¬(0<=i.minLot/\i.minLot<=if i.partial_=true then i.quantity else 0):=
  pq (ed Iff.rfl decide_eq_true_iff) (au (gV _ _ _))
 rw[aW (au (gV _ _ _)),aW (KJ _),aW (KJ _),aW (ed (mH i) hs),aW (ed (au (mH i)) (KJ _)),aW (DW _ _),aW (au (gV _ _ _)),
  aW (ed (au (qA i)) (qW _ _)),aW (au hcash),aW hq,aW ha,aW (au (gV _ _ _)),
  aW (pq (ed (qA i) (au (gV _ _ _))) (ed (au (qA i)) (qW _ _))),aW (pq (au (gV _ _ _)) (ed (mH i) (qW _ _))),
  aW (ed Iff.rfl (au (qA i))),aW hlot,aW (ed Iff.rfl (mH i)),aW (ed Iff.rfl (pq (qW _ _) (qW _ _))),
  aW (P:=(i.kind=3\/i.kind=4)/\0<i.links.length) (ed (mH i) (by simp)),aW (P:=8<i.links.length) (by simp;omega)]
 rfl
section
variable {S : World → Prop} {ρ : Operand → Value} {o : Oper}
end
theorem sl_to (a:Option Addr)(n c k:Nat)(h1:k<=n)(h2:n<=c)(_h3:n<=1000)(w:World):(Instr.sliceAt 32 (.slice a n c) none (some (.int .i64 k)) none).run Tryz.prog w=.ok (.slice a k c) w:=by
 have e1:(k:Int)<=(c:Int):=by omega
 go_simp
 done
def nP (V:Nat->ByteArray->Bool)(i:Ps.Ins)(seen:List Ps.Link)(x:Ps.Link):List (Bool×Int):=[(!(inB x.type 0 1),11),(!(V 2 x.ref),6),(x.ref.toList==i.ref.toList,26),(jB seen x.ref,7)]
theorem Ea (ks:List Ps.Link)(r:ByteArray):jB ks r=true↔∃y∈ks,y.ref=r:=by
 unfold jB
 rw[List.any_eq_true]
 exact exists_congr λy=>and_congr_right λ_=>DW _ _
theorem DN (V:Nat->ByteArray->Bool)(i:Ps.Ins)(seen:List Ps.Link)(x:Ps.Link)(r:List Ps.Link):Ps.eU V i seen (x::r)=if aY (nP V i seen x)≠0 then aY (nP V i seen x)else Ps.eU V i (seen++[x]) r:=by
 rw[<-rW _ _ (by unfold nP;simp)]
 unfold nP
 rw[aW (au (gV _ _ _)),aW (KJ _),aW (DW _ _),aW (Ea _ _)]
 rfl
open Go.Proofs.YtnjjeapcalkmaaaGreatDoor.Ev (AV Mem Fr ja aR eD)
def xP (i j:Ps.Ins)(eL:Bool):Bool:=((((((((((((((((i.ref.toList==j.ref.toList)&&(i.kind==j.kind))&&(i.sender.toList==j.sender.toList))&&(i.counterparty.toList==j.counterparty.toList))&&(i.side==j.side))&&(i.asset.toList==j.asset.toList))&&(i.quantity==j.quantity))&&(i.amount==j.amount))&&(i.tradeDay==j.tradeDay))&&(i.settleDay==j.settleDay))&&(i.priority==j.priority))&&(i.partial_==j.partial_))&&(i.minLot==j.minLot))&&(i.hold==j.hold))&&(i.reserve==j.reserve))&&eL)
def Mf (eL:Bool)(f:FuncId)(vs:List AV):Option Value:=if f=83 then(match vs with|[.r 0 15,.r 1 15]=>some (.bool eL)|_=>none)else none
def eqM (g h:Nat)(i j:Ps.Ins)(la lb:Value)(eL:Bool):Mem Unit:=ja pE [(some (g,0),aB i la),(some (h,0),aB j lb)] (Mf eL)
theorem J7 (w:World)(i j:Ps.Ins)(sa ta:Option Addr)(sn sc tn tc:Nat)(eL:Bool)
 (c101:∀w',Below w.heap.size w w'->Calls Tryz.prog 83 #[.slice sa sn sc,.slice ta tn tc] w' λe w''=>e=.returned (.bool eL)/\Below w'.heap.size w' w''):
 Calls Tryz.prog 35 #[.agg (aB i (.slice sa sn sc)).toArray,.agg (aB j (.slice ta tn tc)).toArray] w λe w'=>e=.returned (.bool (xP i j eL))/\Below w.heap.size w w':=by
 go_enter Tryz.func35,Tryz.ntmps35
 refine wp_seq ?_
 refine wp_region_lit ?_
 refine wpList_plain rfl (λK hK=>?_)
 go_simp
 refine hK _ _ ?_
 clear hK K
 refine wpList_plain rfl (λK hK=>?_)
 go_simp
 refine hK _ _ ?_
 clear hK K
 refine wpList_plain rfl (λK hK=>?_)
 go_simp
 refine hK _ _ ?_
 clear hK K
 refine aU ?_
 obtain⟨Wa,hWa⟩:∃Wa,Wa=w.alloc (.cells (aB i (.slice sa sn sc)).toArray 34):=⟨_,rfl⟩
 obtain⟨W1,hW1⟩:∃W1,W1=Wa.alloc (.cells (aB j (.slice ta tn tc)).toArray 34):=⟨_,rfl⟩
 obtain⟨g,hg⟩:∃g,g=w.heap.size:=⟨_,rfl⟩
 obtain⟨h,hh⟩:∃h,h=w.heap.size+1:=⟨_,rfl⟩
 have LP:h=Wa.heap.size:=by rw[hh,hWa];simp
 have wJ:Below Wa.heap.size Wa W1:=by rw[hW1];exact(Below.refl _ _).alloc (Nat.le_refl _) _
 have hrow:∀W,Below W1.heap.size W1 W->W.heap[g]? =some (.cells (aB i (.slice sa sn sc)).toArray 34 (0,0)):=λW hW=>by
  rw[hW.block g (by rw[hW1,hWa,hg];simp;omega),wJ.block g (by rw[hWa,hg];simp),hWa,hg];exact aD w _
 have lU:∀W,Below W1.heap.size W1 W->W.heap[h]? =some (.cells (aB j (.slice ta tn tc)).toArray 34 (0,0)):=λW hW=>by
  rw[hW.block h (by rw[LP,hW1];simp),hW1,LP];exact aD Wa _
 have hB1:Below w.heap.size w W1:=((by rw[hWa];exact(Below.refl _ _).alloc (Nat.le_refl _) _:Below w.heap.size w Wa).trans (wJ.mono (by rw[hWa];simp)))
 rw[<-hWa,<-hW1,<-hg]
 rw[<-hg]at hh
 rw[<-hh]
 clear hW1 hWa LP wJ hh
 refine jo rfl λa ha hdf=>?_
 have hO:Ev.Ok Tryz.prog (λ(_:Unit) W=>Below W1.heap.size W1 W) (eqM g h i j (.slice sa sn sc) (.slice ta tn tc) eL):=by
  refine Ev.jH (λt f d h=>q8 h) (λq b o l h W hS=>?_) (λf vs v h=>?_) (λ_ _ _ h=>by cases h)
  ·rcases q with _|_|q
   ·cases h;exact kL hrow W hS
   ·cases h;exact kL lU W hS
   ·cases h
  ·unfold Mf at h
   split at h
   ·rename_i hf
    subst hf
    split at h
    ·cases h
     exact⟨ent101,λW hS=>(c101 W (hB1.trans (hS.mono hB1.size))).mono λe w' q=>⟨q.1,hS.trans (q.2.mono hS.size)⟩⟩
    ·cases h
   ·cases h
 refine Ev.Af (M:=eqM g h i j (.slice sa sn sc) (.slice ta tn tc) eL) (S:=λ_ W=>Below W1.heap.size W1 W) (n:=115) (K:=[(2,.p 0 0),(3,.p 1 0)]) (s:=()) (v:=xP i j eL) 4 hO (λ_ W h=>h.drew) (by kernel_rfl) (by kernel_rfl) (Ev.aF (Ev.aF (Ev.aX (by rw[ha];rfl) hdf) (by rw[ha];rfl)) (by rw[ha];rfl)) (Below.refl _ _) ?_
 intro b W s hd ht hS
 refine bodyPost_ret (results_tmp rfl _ _ _) hd ?_
 rw[hg]
 exact⟨by rw[show b.tmps.getD 4 undef=.bool (xP i j eL)from eval_at ht],hB1.trans (hS.mono hB1.size)⟩
def mi (Q:Ps.Req)(lv:Value):List Value:=([.int .i64 Q.op,.string Q.sender,.string Q.ref]:List Value)++aB Q.ins lv++aG Q.amd
def FR (g:Nat)(Q:Ps.Req)(lv:Value):List (Option (Nat×Nat)×List Value):=[(some (g,0),mi Q lv),(none,aB {} (.slice none 0 0)),(none,aG {})]
def M9 (V:Nat->ByteArray->Bool)(g:Nat)(Q:Ps.Req)(lv:Value)(xi xa:Int)(sm:Bool)(f:FuncId)(vs:List AV):Option Value:=
 if f=80 then(match vs with
  |[.v (.int .i64 k),.r 0 j]=>if (k=1\/k=2)/\(j=1\/j=2)then some (.bool (V k.toNat (if j=1 then Q.sender else Q.ref)))else none
  |_=>none)
 else if f=81 then(match vs with|[.a 0 3 16]=>some (.int .i64 xi)|_=>none)
 else if f=35 then(match vs with|[.a 0 3 16,.a 1 0 16]=>some (.bool sm)|_=>none)
 else if f=82 then(match vs with|[.a 0 19 9]=>some (.int .i64 xa)|_=>none)
 else vo (List.map (eD (FR g Q lv))) f vs
def H8 (V:AV->Value)(Q:Ps.Req)(o:Oper)(ov:Operand->Option AV):Option AV:=match o.op with
 | .build t ps=>(match ps.toList with
   |[]=>if t=34 then some (.a 1 0 16)else if t=35 then some (.a 2 0 9)else none
   |_=>Ev.qo V o ov)
 | .binOp .neq t x y _=>if t=35 then(match ov x,ov y with
   |some (.a 0 19 9),some (.a 2 0 9)=>some (.v (.bool (!decide Q.amd.none)))
   |_,_=>none)else none
 |_=>none
def rqM (V:Nat->ByteArray->Bool)(g:Nat)(Q:Ps.Req)(lv:Value)(xi xa:Int)(sm:Bool):Mem Unit:=ja pE (FR g Q lv) (M9 V g Q lv xi xa sm) (H8 (eD (FR g Q lv)) Q)
def qX (V:Nat->ByteArray->Bool)(Q:Ps.Req)(xi xa:Int)(sm:Bool):Int:=
 if (aY [(!inB Q.op 0 4,11),(!V 1 Q.sender,6),(!V 2 Q.ref,6)] !=0)=true then aY [(!inB Q.op 0 4,11),(!V 1 Q.sender,6),(!V 2 Q.ref,6)]
 else if (Q.op==0)=true then(if (xi !=0)=true then xi else if (aY [(!(Q.ins.ref.toList==Q.ref.toList)||!(Q.ins.sender.toList==Q.sender.toList),17)] !=0)=true then aY [(!(Q.ins.ref.toList==Q.ref.toList)||!(Q.ins.sender.toList==Q.sender.toList),17)]else if (Q.op==1)=true then xa else aY [(!decide Q.amd.none,3)])
 else if (aY [(!sm,3)] !=0)=true then aY [(!sm,3)]else if (Q.op==1)=true then xa else aY [(!decide Q.amd.none,3)]
theorem rq_w1 (w:World)(V:Nat->ByteArray->Bool)(Q:Ps.Req)(sa:Option Addr)(sn sc:Nat)(xi xa:Int)(sm:Bool)
 (cV:∀(W1:World) (k:Nat) (s:ByteArray),k<3->Below w.heap.size w W1->Calls Tryz.prog 80 #[.int .i64 k,.string s] W1 λe w'=>e=.returned (.bool (V k s))/\Below W1.heap.size W1 w')
 (nI:∀W,Below w.heap.size w W->Calls Tryz.prog 81 #[.agg (aB Q.ins (.slice sa sn sc)).toArray] W λe w'=>e=.returned (.int .i64 xi)/\Below W.heap.size W w')
 (nS:∀W,Below w.heap.size w W->Calls Tryz.prog 35 #[.agg (aB Q.ins (.slice sa sn sc)).toArray,.agg (aB {} (.slice none 0 0)).toArray] W λe w'=>e=.returned (.bool sm)/\Below W.heap.size W w')
 (nA:∀W,Below w.heap.size w W->Calls Tryz.prog 82 #[.agg (aG Q.amd).toArray] W λe w'=>e=.returned (.int .i64 xa)/\Below W.heap.size W w'):
 Calls Tryz.prog 30 #[.agg (aA Q (.slice sa sn sc))] w λe w'=>e=.returned (.int .i64 (qX V Q xi xa sm))/\Below w.heap.size w w':=by
 go_enter Tryz.func30,Tryz.ntmps30
 refine wp_seq ?_
 refine wp_region_lit ?_
 refine wpList_plain rfl (λK hK=>?_)
 go_simp
 refine hK _ _ ?_
 clear hK K
 refine wpList_plain rfl (λK hK=>?_)
 go_simp
 refine hK _ _ ?_
 clear hK K
 refine aU ?_
 obtain⟨g,hg⟩:∃g,g=w.heap.size:=⟨_,rfl⟩
 obtain⟨W1,hW1⟩:∃W1,W1=w.alloc (.cells (aA Q (.slice sa sn sc)) 37):=⟨_,rfl⟩
 have hrow:∀W,Below W1.heap.size W1 W->W.heap[g]? =some (.cells (mi Q (.slice sa sn sc)).toArray 37 (0,0)):=λW hW=>by
  rw[hW.block g (by rw[hW1,hg];simp),hW1,hg];exact aD w _
 have hB1:Below w.heap.size w W1:=by rw[hW1];exact(Below.refl _ _).alloc (Nat.le_refl _) _
 have fin:∀{f:FuncId} {args:Array Value} {v:Value},(∀W,Below w.heap.size w W->Calls Tryz.prog f args W λe w'=>e=.returned v/\Below W.heap.size W w')->∀W,Below W1.heap.size W1 W->Calls Tryz.prog f args W λe w'=>e=.returned v/\Below W1.heap.size W1 w':=λh W hW=>(h W (hB1.trans (hW.mono hB1.size))).mono λe w' k=>⟨k.1,hW.trans (k.2.mono hW.size)⟩
 rw[<-hg,<-hW1]
 clear hW1
 refine jo rfl λa ha hdf=>?_
 have hO:Ev.Ok Tryz.prog (λ(_:Unit) W=>Below W1.heap.size W1 W) (rqM V g Q (.slice sa sn sc) xi xa sm):=by
  refine Ev.jH (λt f d h=>q8 h) (λq b o l h W hS=>?_) (λf vs v h=>?_) (λo ov v h ρ hov W hS=>?_)
  ·rcases q with _|_|_|q
   ·cases h;exact kL hrow W hS
   ·cases h
   ·cases h
   ·cases h
  ·unfold M9 at h
   split at h
   ·rename_i hf
    subst hf
    split at h
    ·split at h
     ·rename_i k j hk
      cases h
      rcases hk with⟨rfl|rfl,rfl|rfl⟩
      ·exact⟨DT,fin (λW hW=>cV W 1 Q.sender (by decide) hW)⟩
      ·exact⟨DT,fin (λW hW=>cV W 1 Q.ref (by decide) hW)⟩
      ·exact⟨DT,fin (λW hW=>cV W 2 Q.sender (by decide) hW)⟩
      ·exact⟨DT,fin (λW hW=>cV W 2 Q.ref (by decide) hW)⟩
     ·cases h
    ·cases h
   split at h
   ·rename_i hf
    subst hf
    split at h
    ·cases h
     exact⟨enters_of Tryz.func81 (by kernel_rfl) rfl,fin nI⟩
    ·cases h
   split at h
   ·rename_i hf
    subst hf
    split at h
    ·cases h
     exact⟨enters_of Tryz.func35 (by kernel_rfl) rfl,fin nS⟩
    ·cases h
   split at h
   ·rename_i hf
    subst hf
    split at h
    ·cases h
     exact⟨enters_of Tryz.func82 (by kernel_rfl) rfl,fin nA⟩
    ·cases h
   exact rM h
  ·unfold H8 at h
   split at h
   ·rename_i t ps ho
    split at h
    ·rename_i hps
     have Kz:ps=#[]:=by rw[<-Array.toArray_toList (xs:=ps),hps]
     subst Kz
     split at h
     ·rename_i ht
      subst ht
      cases h
      unfold execOp
      simp only[ho,Sem.run_bind,bd25,Result.andThen_ok]
      rfl
     ·split at h
      ·rename_i ht
       subst ht
       cases h
       unfold execOp
       simp only[ho,Sem.run_bind,bd27,Result.andThen_ok]
       rfl
      ·cases h
    ·exact Ev.pF h hov (λ_=>rfl) W
   ·rename_i t x y t2 ho
    split at h
    ·rename_i ht
     subst ht
     split at h
     ·rename_i h1 h2
      cases h
      have e1:ρ x=.agg (aG Q.amd).toArray:=hov _ _ h1
      have e2:ρ y=.agg (aG {}).toArray:=hov _ _ h2
      unfold execOp
      simp only[ho,e1,e2]
      rw[Sem.run_bind,ne27]
      rfl
     ·cases h
    ·cases h
   ·cases h
 refine Ev.Kl (W0:=W1) (M:=rqM V g Q (.slice sa sn sc) xi xa sm) (n:=77) (K:=[(1,.p 0 0)]) (v:=qX V Q xi xa sm) 2 hO (by kernel_rfl) (by kernel_rfl) (Ev.aF (Ev.aX (by rw[ha];rfl) hdf) (by rw[ha];rfl)) (Below.refl _ _) ?_
 intro b W hd ht hS
 refine bodyPost_ret (results_tmp rfl _ _ _) hd ?_
 rw[hg]
 exact⟨by rw[show b.tmps.getD 2 undef=.int .i64 (qX V Q xi xa sm)from eval_at ht],hB1.trans (hS.mono hB1.size)⟩
end Go.Proofs.YtnjjeapcalkmaaaGreatDoor
