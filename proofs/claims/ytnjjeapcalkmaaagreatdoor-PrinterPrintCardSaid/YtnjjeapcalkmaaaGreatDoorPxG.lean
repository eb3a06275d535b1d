/-
  Part 7 of a proof; written short by a program out of longer texts of mine.
-/
import Derived.Test.YtnjjeapcalkmaaaGreatDoorPxF
set_option maxRecDepth 100000
set_option maxHeartbeats 4000000
set_option linter.unusedVariables false
set_option linter.unusedSimpArgs false
namespace Go.Proofs.YtnjjeapcalkmaaaGreatDoor.Ps
open Go
inductive Op where
 |prio (p:Int)
 |part (n:Int)
 |hold
 |res
 |lnk (x:Link)
def opT:Op->List ByteArray
 | .prio p=>[bw (bX p)]
 | .part n=>[bw aK,bH n]
 | .hold=>[bw bU]
 | .res=>[bw aY]
 | .lnk x=>Sa x
def opA (i:Ins):Op->Ins
 | .prio p=>{i with priority:=p}
 | .part n=>{i with partial_:=true,minLot:=n}
 | .hold=>{i with hold:=true}
 | .res=>{i with reserve:=true}
 | .lnk x=>{i with links:=i.links++[x]}
def opS (s:Seen):Op->Seen
 | .prio _=>{s with prio:=true}
 | .part _=>{s with part:=true}
 | .hold=>{s with hold:=true}
 | .res=>{s with res:=true}
 | .lnk _=>s
def opF (s:Seen):Op->Bool
 | .prio _=>!s.prio
 | .part _=>!s.part
 | .hold=>!s.hold
 | .res=>!s.res
 | .lnk _=>true
def Ko:Seen->List Op->Prop
 |_,[]=>True
 |s,o::os=>opF s o=true/\Ko (opS s o) os
def opV (V:Nat->ByteArray->Bool):Op->Prop
 | .prio p=>0<=p/\p<=2
 | .part n=>1<=n/\n<=bJ
 | .lnk x=>(x.type=0\/x.type=1)/\V 2 x.ref=true
 |_=>True
theorem DV {E:Env}{D:Int->ByteArray}(hE:gW E D)(l:List Tok):∀(os:List Op) (f:Nat) (s:Seen) (j:Ins) (a:Nat),eX l a (os.flatMap opT)->l.length=a+(os.flatMap opT).length->os.length<f->Ko s os->(∀o∈os,opV E.valid o)->
 options E l f s j a=.ok (os.foldl opA j,l.length)
 |_,0,_,_,_,_,_,hf,_,_=>by omega
 |[],f+1,s,j,a,_,hl,_,_,_=>by
  have hl':l.length=a:=by simpa using hl
  rw[Rx E l f s j a (by omega),hl']
  rfl
 |o::os,f+1,s,j,a,h,hl,hf,hs,hok=>by
  rw[List.flatMap_cons]at h hl
  rw[List.length_append]at hl
  have hv:=hok o List.mem_cons_self
  have h2:=h.right
  have ih:=λ(hl2:l.length=a+(opT o).length+(os.flatMap opT).length)=>DV hE l os f (opS s o) (opA j o) (a+(opT o).length) h2 hl2 (by simpa using hf) hs.2 λy hy=>hok y (List.mem_cons_of_mem _ hy)
  have ih:=ih (by omega)
  have h0:=h.left
  clear h h2 hl hok
  obtain⟨hs,_⟩:=hs
  rw[List.foldl_cons,<-ih]
  clear ih
  cases o with
  |prio p=>
   obtain⟨w1,w2⟩:=rC hv
   have h0:=eX.word h0.head w1
   rw[Nu E l f s j a h0.lt p (by rw[dw h0];exact w2),if_neg (by simpa[opF]using hs)]
   rfl
  |part n=>
   have h1:=h0.tail.head.of (gX hv.1 hv.2).1
   have h0:=eX.word h0.head (by decide +kernel)
   rw[NP E l f s j a h0.lt (by rw[dw h0];rfl),if_neg (by simpa[opF]using hs),bind_ok (l7 h1 _ (hE.number _ hv.1 hv.2))]
   rfl
  |hold=>
   have h0:=eX.word h0.head (by decide +kernel)
   rw[Pp E l f s j a h0.lt (by rw[dw h0];rfl),if_neg (by simpa[opF]using hs)]
   rfl
  |res=>
   have h0:=eX.word h0.head (by decide +kernel)
   rw[Si E l f s j a h0.lt (by rw[dw h0];rfl),if_neg (by simpa[opF]using hs)]
   rfl
  |lnk x=>
   obtain⟨ht,hv⟩:=hv
   obtain⟨hk,_⟩:=hE.refK hv
   obtain⟨ty,rf⟩:=x
   have h1:ak l (a+1) (Lx.aD rf).1 rf:=h0.tail.head
   have h0:=h0.head
   rcases ht with rfl|rfl
   ·have h0:ak l a (Lx.aD (bw fF)).1 (bw fF):=h0
    have h0:=eX.word h0 (by decide +kernel)
    rw[OQ E l f s j a h0.lt (by rw[dw h0];rfl),bind_ok (Ga h1 hk hv)]
    rfl
   ·have h0:ak l a (Lx.aD (bw dC)).1 (bw dC):=h0
    have h0:=eX.word h0 (by decide +kernel)
    rw[J4 E l f s j a h0.lt (by rw[dw h0];rfl),bind_ok (Ga h1 hk hv)]
    rfl
def Ii (V:Nat->ByteArray->Bool)(i:Ins)(os:List Op):Prop:=Ko {} os/\(∀o∈os,opV V o)/\∀j:Ins,j.priority=0->j.partial_=false->j.minLot=0->j.hold=false->j.reserve=false->j.links=[]->
 os.foldl opA j={j with priority:=i.priority,partial_:=i.partial_,minLot:=i.minLot,hold:=i.hold,reserve:=i.reserve,links:=i.links}
theorem UR (s:Seen)(os:List Op)(h:Ko s os):∀ls:List Link,Ko s (ls.map .lnk++os)
 |[]=>h
 |x::ls=>⟨rfl,UR s os h ls⟩
theorem Ug:∀(ls:List Link) (j:Ins),(ls.map Op.lnk).foldl opA j={j with links:=j.links++ls}
 |[],j=>by simp
 |x::ls,j=>by
  rw[List.map_cons,List.foldl_cons,Ug ls]
  simp[opA]
def oPr (i:Ins):List Op:=if i.priority=0 then[]else[.prio i.priority]
def oPa (i:Ins):List Op:=if i.partial_=true then[.part i.minLot]else[]
def oHo (i:Ins):List Op:=if i.hold=true then[.hold]else[]
def oRe (i:Ins):List Op:=if i.reserve=true then[.res]else[]
def jh (i:Ins):List Op:=oPr i++(oPa i++(i.links.map .lnk++(oRe i++oHo i)))
def lOps (i:Ins):List Op:=.prio i.priority::(oPa i++(oHo i++(oRe i++i.links.map .lnk)))
theorem SQ {V:Nat->ByteArray->Bool}{i:Ins}(h:jW V i)(o:Op):(o∈oPr i\/o=.prio i.priority\/o∈oPa i\/o∈oHo i\/o∈oRe i\/o∈i.links.map .lnk)->opV V o:=by
 have hlot:i.partial_=true->1<=i.minLot/\i.minLot<=bJ:=λhp=>by
  have h1:=h.lot hp
  have h2:=h.qty (by have:=h.part hp;omega)
  omega
 rintro(h0|h0|h0|h0|h0|h0)
 ·unfold oPr at h0
  split at h0
  ·cases h0
  ·rw[List.mem_singleton]at h0;subst h0;exact h.prio
 ·subst h0;exact h.prio
 ·unfold oPa at h0
  split at h0
  ·rename_i hp;rw[List.mem_singleton]at h0;subst h0;exact hlot hp
  ·cases h0
 ·unfold oHo at h0
  split at h0
  ·rw[List.mem_singleton]at h0;subst h0;trivial
  ·cases h0
 ·unfold oRe at h0
  split at h0
  ·rw[List.mem_singleton]at h0;subst h0;trivial
  ·cases h0
 ·obtain⟨x,hx,rfl⟩:=List.mem_map.1 h0
  exact h.link x hx
theorem TP {V:Nat->ByteArray->Bool}{i:Ins}(h:jW V i):Ii V i (jh i):=by
 refine⟨?_,λo ho=>SQ h o ?_,λj h1 h2 h3 h4 h5 h6=>?_⟩
 ·unfold jh oPr oPa oRe oHo
  split<;>split<;>split<;>split<;>simp only[List.nil_append,List.singleton_append,Ko,opF,opS,Bool.not_false,true_and]
  all_goals (refine UR _ _ ?_ _;first|trivial|exact⟨rfl,trivial⟩|exact⟨rfl,rfl,trivial⟩)
 ·unfold jh at ho
  simp only[List.mem_append]at ho
  rcases ho with h0|h0|h0|h0|h0<;>simp only[h0,true_or,or_true]
 ·have hl:=h.lot0
  unfold jh
  rw[List.foldl_append,List.foldl_append,List.foldl_append,List.foldl_append,Ug]
  cases i
  cases j
  simp only at h1 h2 h3 h4 h5 h6 hl
  subst h1 h2 h3 h4 h5 h6
  simp only[oPr,oPa,oRe,oHo]
  split<;>split<;>split<;>split<;>simp_all [opA]
def u6 (D:Int->ByteArray)(i:Ins)(os:List Op):List ByteArray:=
 if i.kind=3\/i.kind=4 then[bw (if i.kind=3 then eP else dN),i.ref,bw sBy,i.sender,bw uK,i.asset,bw gQ,bH i.quantity,bw eF,D i.settleDay]
 else if i.kind=0 then[bw E8,i.ref,bw rH,i.sender,bw sTo,i.counterparty,bw bY,bO i.amount,bw eF,D i.settleDay]++os.flatMap opT
 else if i.kind=1 then[bw (if i.side=1 then eZ else fC),i.ref,bw rH,gP i,bw sTo,toT i,bw uK,i.asset,bw gQ,bH i.quantity,bw d9,bO i.amount,bw j4,D i.tradeDay,bw eF,D i.settleDay]++os.flatMap opT
 else[bw (if i.side=1 then eZ else fC),i.ref,bw rH,gP i,bw sTo,toT i,bw uK,i.asset,bw gQ,bH i.quantity,bw jy,bw j4,D i.tradeDay,bw eF,D i.settleDay]++os.flatMap opT
def iY (D:Int->ByteArray)(q:Req)(os:List Op):List ByteArray:=
 if q.op=0 then u6 D q.ins os
 else if q.op=1 then[bw nK,q.ref,bw sBy,q.sender]++yZ D q.amd
 else[bw (if q.op=2 then fQ else if q.op=3 then bU else gG),q.ref,bw sBy,q.sender]
theorem eX.at_ {l:List Tok}{a:Nat}{ts:List ByteArray}(h:eX l a ts)(j:Nat){t:ByteArray}(ht:ts[j]? =some t){n:Int}(hc:Lx.aD t=(n,0)):ak l (a+j) n t:=(h j t ht).of hc
theorem JV:∀os:List Op,os.length<=(os.flatMap opT).length
 |[]=>Nat.le_refl _
 |o::os=>by
  have:=JV os
  have h2:1<=(opT o).length:=by cases o<;>simp[opT,Sa]
  rw[List.flatMap_cons,List.length_append,List.length_cons]
  omega
section
variable {E : Env} {D : Int → ByteArray} {l : List Tok}
theorem wd {a j:Nat}{ts:List ByteArray}{w:Bs}(h:eX l a ts)(ht:ts[j]? =some (bw w))(hw:rY w=true):ak l (a+j) 0 (bw w):=h.at_ j ht (jc hw).1
theorem Mq (hE:gW E D){i:Ins}(hi:jW E.valid i){os:List Op}(ho:Ii E.valid i os)(h:eX l 0 (u6 D i os))(hl:l.length=(u6 D i os).length):
 line E l 0=.ok ({ref:=i.ref,ins:={i with ref:=⟨#[]⟩} },l.length):=by
 obtain⟨o1,o2,o3⟩:=ho
 have hst:=hi.settle
 have dD:=hE.day _ hst.1 hst.2
 have vD:=hE.date _ hst.1 hst.2
 obtain⟨kr,_⟩:=hE.refK hi.ref
 have uS:=hE.upper 1 _ (by omega) hi.sender
 have hcl:Lx.aD i.ref=((Lx.aD i.ref).1,0):=by
  obtain⟨k,_,hk⟩:=iA i.ref (hE.named 2 _ (by omega) hi.ref).1 (hE.named 2 _ (by omega) hi.ref).2
  rw[hk]
 have hop:∀(j:Ins) (a:Nat),eX l a (os.flatMap opT)->l.length=a+(os.flatMap opT).length->j.priority=0->j.partial_=false->j.minLot=0->j.hold=false->j.reserve=false->j.links=[]->
  options E l (l.length+1) {} j a=.ok ({j with priority:=i.priority,partial_:=i.partial_,minLot:=i.minLot,hold:=i.hold,reserve:=i.reserve,links:=i.links},l.length):=λj a h1 h2 g1 g2 g3 g4 g5 g6=>by
  rw[DV hE l os _ _ j a h1 h2 (by have:=JV os;omega) o1 o2,o3 j g1 g2 g3 g4 g5 g6]
 by_cases hk:i.kind=3\/i.kind=4
 ·have hA:=hi.asset (by omega)
  have uA:=hE.upper 0 _ (by omega) hA
  obtain⟨q1,q2⟩:=hi.qty (by omega)
  unfold u6 at h hl
  rw[if_pos hk]at h hl
  have e3:rY (if i.kind=3 then eP else dN)=true:=by split<;>decide +kernel
  have hrest:rest E l (if i.kind=3 then eP else dN) {ref:=i.ref} 2=.ok ({ref:=i.ref,ins:={i with ref:=⟨#[]⟩} },l.length):=by
   have hc:=yu (E:=E) (l:=l) (a:=2) i.kind {} (NW (wd h (j:=2) rfl (by decide +kernel)) rfl (h.at_ 3 rfl uS) hi.sender) (λj=>mo j (wd h (j:=4) rfl (by decide +kernel)) rfl (h.at_ 5 rfl uA) hA (wd h (j:=6) rfl (by decide +kernel)) rfl (h.at_ 7 rfl (gX q1 q2).1) (hE.number _ q1 q2)) (wd h (j:=8) rfl (by decide +kernel)) rfl (h.at_ 9 rfl dD) vD
   have e:(({kind:=i.kind,sender:=i.sender,asset:=i.asset,quantity:=i.quantity,settleDay:=i.settleDay}:Ins))={i with ref:=⟨#[]⟩}:=by
    have g1:=hi.cpN hk
    have g2:=hi.sideN (by omega)
    have g3:=hi.am0 (by omega)
    have g4:=hi.trade0 (by omega)
    have g5:=hi.prio0 hk
    have g6:i.partial_=false:=by
     cases hp:i.partial_ with
     |false=>rfl
     |true=>have:=hi.part hp;omega
    have g7:=hi.lot0 g6
    have g8:=hi.hold hk
    have g9:i.reserve=false:=by
     cases hp:i.reserve with
     |false=>rfl
     |true=>have:=hi.res hp;omega
    have g10:=hi.links0 hk
    cases i
    simp only at g1 g2 g3 g4 g5 g6 g7 g8 g9 g10
    subst g1 g2 g3 g4 g5 g6 g7 g8 g9 g10
    rfl
   rw[show l.length=2+8 from hl]
   rcases hk with hk|hk
   ·rw[if_pos hk]
    unfold rest
    rw[if_neg (by decide),if_neg (by decide),if_neg (by decide),if_pos rfl,<-hk,bind_ok hc,e]
    rfl
   ·rw[if_neg (by omega)]
    unfold rest
    rw[if_neg (by decide),if_neg (by decide),if_neg (by decide),if_neg (by decide),if_pos rfl,<-hk,bind_ok hc,e]
    rfl
  exact nX (wd h (j:=0) rfl e3) (by show(if i.kind=3 then eP else dN)∈verbs;split<;>decide) (h.at_ 1 rfl hcl) kr hi.ref _ hrest
 ·have hC:=hi.cpY hk
  have uC:=hE.upper 1 _ (by omega) hC
  by_cases h0:i.kind=0
  ·obtain⟨a1,a2⟩:=hi.am (.inl h0)
   unfold u6 at h hl
   rw[if_neg hk,if_pos h0]at h hl
   have h':=h.left
   rw[List.length_append]at hl
   have hrest:rest E l E8 {ref:=i.ref} 2=.ok ({ref:=i.ref,ins:={i with ref:=⟨#[]⟩} },l.length):=by
    have hc:=Gc (E:=E) (l:=l) (a:=2) {} (pU (wd h' (j:=2) rfl (by decide +kernel)) rfl (h'.at_ 3 rfl uS) hi.sender (wd h' (j:=4) rfl (by decide +kernel)) rfl (h'.at_ 5 rfl uC) hC) (wd h' (j:=6) rfl (by decide +kernel)) rfl (h'.at_ 7 rfl (jP a2).1) (hE.cash _ a1 a2) (wd h' (j:=8) rfl (by decide +kernel)) rfl (h'.at_ 9 rfl dD) vD
    replace hc:=hc.trans (hop _ _ h.right (by rw[hl];rfl) rfl rfl rfl rfl rfl rfl)
    unfold rest
    rw[if_pos rfl,bind_ok hc]
    have g1:=hi.asset0 h0
    have g2:=hi.sideN (by omega)
    have g3:=hi.qty0 h0
    have g4:=hi.trade0 (by omega)
    cases i
    simp only at g1 g2 g3 g4 h0
    subst g1 g2 g3 g4 h0
    rfl
   exact nX (wd h' (j:=0) rfl (by decide +kernel)) (by decide) (h'.at_ 1 rfl hcl) kr hi.ref _ hrest
  ·have hA:=hi.asset h0
   have uA:=hE.upper 0 _ (by omega) hA
   obtain⟨q1,q2⟩:=hi.qty h0
   have tT:i.kind=1\/i.kind=2:=by have:=hi.kind;omega
   obtain⟨t1,t2⟩:=hi.trade tT
   have t3:i.tradeDay<=bP:=by omega
   have dT:=hE.day _ t1 t3
   have vT:=hE.date _ t1 t3
   have vf:E.valid 1 (gP i)=true/\E.valid 1 (toT i)=true:=by
    unfold gP toT
    split
    ·exact⟨hC,hi.sender⟩
    ·exact⟨hi.sender,hC⟩
   have uf:=hE.upper 1 _ (by omega) vf.1
   have ut:=hE.upper 1 _ (by omega) vf.2
   have e3:rY (if i.side=1 then eZ else fC)=true:=by split<;>decide +kernel
   have fin:∀(x:Ins),trade E l {} 2=.ok (x,l.length)->x.ref=⟨#[]⟩->x.kind=i.kind->x.sender=gP i->x.counterparty=toT i->x.side=0->x.asset=i.asset->x.quantity=i.quantity->x.amount=i.amount->x.tradeDay=i.tradeDay->x.settleDay=i.settleDay->x.priority=i.priority->x.partial_=i.partial_->x.minLot=i.minLot->x.hold=i.hold->x.reserve=i.reserve->x.links=i.links->
    rest E l (if i.side=1 then eZ else fC) {ref:=i.ref} 2=.ok ({ref:=i.ref,ins:={i with ref:=⟨#[]⟩} },l.length):=by
    intro x hx x1 x2 x3 x4 x5 x6 x7 x8 x9 x10 x11 x12 x13 x14 x15 x16
    have hsd:=hi.side
    unfold gP at x3
    unfold toT at x4
    by_cases hs:i.side=1
    ·rw[if_pos hs]at x3 x4⊢
     unfold rest
     rw[if_neg (by decide),if_neg (by decide),if_pos rfl,bind_ok hx]
     unfold turn
     cases i
     cases x
     simp only at x1 x2 x3 x4 x5 x6 x7 x8 x9 x10 x11 x12 x13 x14 x15 x16 hs
     subst x1 x2 x3 x4 x5 x6 x7 x8 x9 x10 x11 x12 x13 x14 x15 x16 hs
     rfl
    ·have hs0:i.side=0:=by omega
     rw[if_neg hs]at x3 x4⊢
     unfold rest
     rw[if_neg (by decide),if_pos rfl,bind_ok hx]
     cases i
     cases x
     simp only at x1 x2 x3 x4 x5 x6 x7 x8 x9 x10 x11 x12 x13 x14 x15 x16 hs0
     subst x1 x2 x3 x4 x5 x6 x7 x8 x9 x10 x11 x12 x13 x14 x15 x16 hs0
     rfl
   have hvb:(if i.side=1 then eZ else fC)∈verbs:=by split<;>decide
   by_cases h1:i.kind=1
   ·obtain⟨a1,a2⟩:=hi.am (.inr h1)
    unfold u6 at h hl
    rw[if_neg hk,if_neg h0,if_pos h1]at h hl
    have h':=h.left
    rw[List.length_append]at hl
    have hc:=GR (E:=E) (l:=l) (a:=2) {} (pU (wd h' (j:=2) rfl (by decide +kernel)) rfl (h'.at_ 3 rfl uf) vf.1 (wd h' (j:=4) rfl (by decide +kernel)) rfl (h'.at_ 5 rfl ut) vf.2)
     (λj=>mo j (wd h' (j:=6) rfl (by decide +kernel)) rfl (h'.at_ 7 rfl uA) hA (wd h' (j:=8) rfl (by decide +kernel)) rfl (h'.at_ 9 rfl (gX q1 q2).1) (hE.number _ q1 q2))
     (wd h' (j:=10) rfl (by decide +kernel)) rfl (h'.at_ 11 rfl (jP a2).1) (hE.cash _ a1 a2) (wd h' (j:=12) rfl (by decide +kernel)) rfl (h'.at_ 13 rfl dT) vT (wd h' (j:=14) rfl (by decide +kernel)) rfl (h'.at_ 15 rfl dD) vD
    replace hc:=hc.trans (hop _ _ h.right (by rw[hl];rfl) rfl rfl rfl rfl rfl rfl)
    exact nX (wd h' (j:=0) rfl e3) hvb (h'.at_ 1 rfl hcl) kr hi.ref _ (fin _ hc rfl h1.symm rfl rfl rfl rfl rfl rfl rfl rfl rfl rfl rfl rfl rfl rfl)
   ·unfold u6 at h hl
    rw[if_neg hk,if_neg h0,if_neg h1]at h hl
    have h':=h.left
    rw[List.length_append]at hl
    have hc:=free_at (E:=E) (l:=l) (a:=2) {} (pU (wd h' (j:=2) rfl (by decide +kernel)) rfl (h'.at_ 3 rfl uf) vf.1 (wd h' (j:=4) rfl (by decide +kernel)) rfl (h'.at_ 5 rfl ut) vf.2)
     (λj=>mo j (wd h' (j:=6) rfl (by decide +kernel)) rfl (h'.at_ 7 rfl uA) hA (wd h' (j:=8) rfl (by decide +kernel)) rfl (h'.at_ 9 rfl (gX q1 q2).1) (hE.number _ q1 q2))
     (wd h' (j:=10) rfl (by decide +kernel)) rfl (wd h' (j:=11) rfl (by decide +kernel)) rfl (h'.at_ 12 rfl dT) vT (wd h' (j:=13) rfl (by decide +kernel)) rfl (h'.at_ 14 rfl dD) vD
    replace hc:=hc.trans (hop _ _ h.right (by rw[hl];rfl) rfl rfl rfl rfl rfl rfl)
    exact nX (wd h' (j:=0) rfl e3) hvb (h'.at_ 1 rfl hcl) kr hi.ref _ (fin _ hc rfl (by show(2:Int)=i.kind;omega) rfl rfl rfl rfl rfl (hi.am0 (by omega)).symm rfl rfl rfl rfl rfl rfl rfl rfl)
theorem OX (hE:gW E D){q:Req}(hq:zH E.valid q=0){os:List Op}(ho:q.op=0->Ii E.valid q.ins os)(h:eX l 0 (iY D q os))(hl:l.length=(iY D q os).length):
 ∃q',line E l 0=.ok (q',l.length)/\(if q'.op=0 then{q' with sender:=q'.ins.sender,ins:={q'.ins with ref:=q'.ref} }else q')=q:=by
 obtain⟨vs,vr,hq⟩:=lQ _ _ hq
 have uS:=hE.upper 1 _ (by omega) vs
 obtain⟨kr,_⟩:=hE.refK vr
 have hcl:Lx.aD q.ref=((Lx.aD q.ref).1,0):=by
  obtain⟨k,_,hk⟩:=iA q.ref (hE.named 2 _ (by omega) vr).1 (hE.named 2 _ (by omega) vr).2
  rw[hk]
 unfold iY at h hl
 rcases hq with⟨h0,hi,he⟩|⟨h1,hm,he⟩|⟨h2,he⟩
 ·rw[if_pos h0]at h hl
  refine⟨_,Mq hE hi (ho h0) h hl,?_⟩
  rw[if_pos rfl]
  exact he.symm
 ·rw[if_neg (by omega),if_pos h1]at h hl
  have h':=h.left
  rw[List.length_append]at hl
  have hl:l.length=4+(yZ D q.amd).length:=hl
  have hn:1<=(yZ D q.amd).length:=by
   have:=hm.some
   unfold yZ LB rR uk pg
   simp only[List.length_append]
   rcases this with hb|hb|hb|hb<;>rw[hb,if_pos rfl]
   ·rw[List.length_cons];omega
   ·rw[List.length_cons];omega
   ·rw[List.length_cons];omega
   ·have:1<=(if q.amd.partial_=true then[bw aK,bH q.amd.minLot]else[bw fD]).length:=by split<;>simp
    omega
  have hrest:rest E l nK {ref:=q.ref} 2=.ok ({op:=1,sender:=q.sender,ref:=q.ref,amd:=q.amd},l.length):=by
   unfold rest
   rw[if_neg (by decide),if_neg (by decide),if_neg (by decide),if_neg (by decide),if_neg (by decide),if_pos rfl,bind_ok (NW (E:=E) (l:=l) (a:=2) (wd h' (j:=2) rfl (by decide +kernel)) rfl (h'.at_ 3 rfl uS) vs)]
   show(if l.length<=4 then _ else _)=_
   rw[if_neg (by omega),bind_ok (PH hE l q.amd 4 h.right hl hm)]
   rfl
  refine⟨_,nX (wd h' (j:=0) rfl (by decide +kernel)) (by decide) (h'.at_ 1 rfl hcl) kr vr _ hrest,?_⟩
  rw[if_neg (by show¬(1:Int)=0;decide)]
  exact he.symm
 ·rw[if_neg (by omega),if_neg (by omega)]at h hl
  have hb:=NW (E:=E) (l:=l) (a:=2) (wd h (j:=2) rfl (by decide +kernel)) rfl (h.at_ 3 rfl uS) vs
  have e3:rY (if q.op=2 then fQ else if q.op=3 then bU else gG)=true:=by split<;>(try split)<;>decide +kernel
  have hrest:rest E l (if q.op=2 then fQ else if q.op=3 then bU else gG) {ref:=q.ref} 2=.ok ({op:=q.op,sender:=q.sender,ref:=q.ref},l.length):=by
   rw[show l.length=4 from hl]
   rcases h2 with h2|h2|h2
   ·rw[show(if q.op=2 then fQ else if q.op=3 then bU else gG)=fQ from by rw[h2];rfl,h2]
    unfold rest
    rw[if_neg (by decide),if_neg (by decide),if_neg (by decide),if_neg (by decide),if_neg (by decide),if_neg (by decide),if_pos rfl,bind_ok hb];rfl
   ·rw[show(if q.op=2 then fQ else if q.op=3 then bU else gG)=bU from by rw[h2];rfl,h2]
    unfold rest
    rw[if_neg (by decide),if_neg (by decide),if_neg (by decide),if_neg (by decide),if_neg (by decide),if_neg (by decide),if_neg (by decide),if_pos rfl,bind_ok hb];rfl
   ·rw[show(if q.op=2 then fQ else if q.op=3 then bU else gG)=gG from by rw[h2];rfl,h2]
    unfold rest
    rw[if_neg (by decide),if_neg (by decide),if_neg (by decide),if_neg (by decide),if_neg (by decide),if_neg (by decide),if_neg (by decide),if_neg (by decide),bind_ok hb];rfl
  refine⟨_,nX (wd h (j:=0) rfl e3) (by show(if q.op=2 then fQ else if q.op=3 then bU else gG)∈verbs;split<;>(try split)<;>decide) (h.at_ 1 rfl hcl) kr vr _ hrest,?_⟩
  rw[if_neg (by show¬q.op=0;omega)]
  exact he.symm
end
def uZ:List ByteArray->List (Bs×Bs)
 |[]=>[]
 |t::ts=>([],t.data.toList)::ts.map λx=>([32],x.data.toList)
def bB (ts:List ByteArray):ByteArray:=⟨(Lx.dY (uZ ts) []).toArray⟩
theorem zi (ts:List ByteArray):(uZ ts).map (·.2)=ts.map (·.data.toList):=by
 cases ts with
 |nil=>rfl
 |cons t ts=>simp[uZ]
theorem Be (ts:List ByteArray):(uZ ts).length=ts.length:=by
 have:=congrArg List.length (zi ts)
 simpa using this
theorem FR (ts:List ByteArray):eX (Lx.jb (uZ ts) 0) 0 ts:=λj t hj=>by
 have h1:((uZ ts).map (·.2))[j]? =some t.data.toList:=by rw[zi,List.getElem?_map,hj];rfl
 rw[List.getElem?_map]at h1
 obtain⟨⟨g,x⟩,h2,h3⟩:=Option.map_eq_some_iff.1 h1
 have h3:x=t.data.toList:=h3
 subst h3
 rw[Nat.zero_add]
 exact zS _ 0 j g _ h2
theorem Q8 {ts:List ByteArray}(h:∀t∈ts,ql t):Lx.qD (uZ ts) true:=by
 have one:∀t:ByteArray,ql t->Lx.iZ t.data.toList=true/\t.data.toList≠[]/\(Lx.aD ⟨t.data.toList.toArray⟩).2=0/\(t.data.toList.all λc=>c !=35)=true:=λt ht=>⟨ht.1,ht.2.1,ht.2.2,Lx.yO t ht.2.2⟩
 have tl:∀us:List ByteArray,(∀t∈us,ql t)->Lx.qD (us.map λx=>([32],x.data.toList)) false:=by
  intro us
  induction us with
  |nil=>exactλ_=>trivial
  |cons t us ih=>
   intro hu
   obtain⟨h1,h2,h3,h4⟩:=one t (hu t List.mem_cons_self)
   exact⟨λ_=>by simp,by decide,h1,h2,h3,h4,ih λx hx=>hu x (List.mem_cons_of_mem _ hx)⟩
 cases ts with
 |nil=>trivial
 |cons t ts=>
  obtain⟨h1,h2,h3,h4⟩:=one t (h t List.mem_cons_self)
  exact⟨λhb=>(by cases hb),rfl,h1,h2,h3,h4,tl ts λx hx=>h x (List.mem_cons_of_mem _ hx)⟩
def pq:List ByteArray->Nat
 |[]=>0
 |t::ts=>t.size+1+pq ts
theorem uE:∀ts us:List ByteArray,pq (ts++us)=pq ts+pq us
 |[],us=>by simp[pq]
 |t::ts,us=>by
  show t.size+1+pq (ts++us)=t.size+1+pq ts+pq us
  rw[uE ts us]
  omega
theorem zY (ts:List ByteArray):(bB ts).size<=pq ts:=by
 have tl:∀us:List ByteArray,(Lx.dY (us.map λx=>([32],x.data.toList)) []).length=pq us:=by
  intro us
  induction us with
  |nil=>rfl
  |cons t us ih=>
   show([32]++(t.data.toList++Lx.dY _ [])).length=t.size+1+pq us
   rw[List.length_append,List.length_append,ih]
   have:t.data.toList.length=t.size:=rfl
   simp only[List.length_singleton]
   omega
 cases ts with
 |nil=>exact Nat.le_refl _
 |cons t ts=>
  show([]++(t.data.toList++Lx.dY (ts.map λ(x:ByteArray)=>([32],x.data.toList)) [])).length<=t.size+1+pq ts
  rw[List.nil_append,List.length_append,tl]
  have:t.data.toList.length=t.size:=rfl
  omega
theorem EA {ts:List ByteArray}(h:∀t∈ts,ql t)(hl:pq ts<=1024):Lx.aO (bB ts)=(Lx.jb (uZ ts) 0,0,0):=
 Lx.zB _ _ (Q8 h) rfl (by have:=zY ts;exact Nat.le_trans this hl)
section
variable {E : Env} {D : Int → ByteArray}
theorem kV {n:Int}(h2:n<=bJ):(bH n).size<=16:=by
 unfold bJ at h2
 exact iH 15 n.toNat (by omega)
theorem iI {n:Int}(h2:n<=bJ):(bO n).size<=17:=by
 unfold bJ at h2
 exact rP n.toNat (by omega)
theorem wI (p:Int):(bw (bX p)).size<=6:=by
 unfold bX
 split
 ·decide
 ·split<;>decide
def Good (n:Nat)(ts:List ByteArray):Prop:=(∀t∈ts,ql t)/\pq ts<=n
theorem Good.nil:Good 0 []:=⟨λ_ h=>(by cases h),Nat.le_refl _⟩
theorem Good.cons {k n:Nat}{t:ByteArray}{ts:List ByteArray}(ht:ql t)(hs:t.size<=k)(h:Good n ts):Good (k+1+n) (t::ts):=⟨λx hx=>by
 rcases List.mem_cons.1 hx with rfl|hx
 ·exact ht
 ·exact h.1 x hx,by have:=h.2;unfold pq;omega⟩
theorem Good.app {k n:Nat}{ts us:List ByteArray}(h1:Good k ts)(h2:Good n us):Good (k+n) (ts++us):=⟨λx hx=>by
 rcases List.mem_append.1 hx with hx|hx
 ·exact h1.1 x hx
 ·exact h2.1 x hx,by rw[uE];have:=h1.2;have:=h2.2;omega⟩
theorem Good.mono {k n:Nat}{ts:List ByteArray}(h:Good k ts)(hk:k<=n):Good n ts:=⟨h.1,Nat.le_trans h.2 hk⟩
theorem Good.w {n:Nat}{w:Bs}{ts:List ByteArray}(hw:rY w=true)(hs:w.length<=8)(h:Good n ts):Good (9+n) (bw w::ts):=Good.cons (k:=8) (jc hw).2 hs h
theorem SH (hE:gW E D){o:Op}(h:opV E.valid o):Good 40 (opT o):=by
 cases o with
 |prio p=>exact(Good.cons (jc (rC h).1).2 (wI p) .nil).mono (by decide)
 |part n=>exact(Good.w (by decide +kernel) (by decide) (.cons (gX h.1 h.2).2 (kV h.2) .nil)).mono (by decide)
 |hold=>exact(Good.w (by decide +kernel) (by decide) .nil).mono (by decide)
 |res=>exact(Good.w (by decide +kernel) (by decide) .nil).mono (by decide)
 |lnk x=>
  obtain⟨ht,hv⟩:=h
  have hr:Good 33 [x.ref]:=.cons (hE.refK hv).2 (hE.named 2 _ (by omega) hv).2 .nil
  show Good 40 [bw (if x.type=0 then fF else dC),x.ref]
  split
  ·exact Good.cons (k:=5) (jc (w:=fF) (by decide +kernel)).2 (by decide) hr|>.mono (by decide)
  ·exact Good.cons (k:=5) (jc (w:=dC) (by decide +kernel)).2 (by decide) hr|>.mono (by decide)
theorem Ci (hE:gW E D):∀(os:List Op),(∀o∈os,opV E.valid o)->Good (40*os.length) (os.flatMap opT)
 |[],_=>.nil
 |o::os,h=>by
  rw[List.flatMap_cons,List.length_cons]
  exact((SH hE (h o List.mem_cons_self)).app (Ci hE os λx hx=>h x (List.mem_cons_of_mem _ hx))).mono (by omega)
theorem Ow (hE:gW E D)(hD:∀n:Int,0<=n->n<=bP->(D n).size<=10){i:Ins}(hi:jW E.valid i){os:List Op}(ho:∀o∈os,opV E.valid o)(hn:os.length<=12):Good 1024 (u6 D i os):=by
 have hst:=hi.settle
 have gD:=hE.dayG hst.1 hst.2
 have sD:=hD _ hst.1 hst.2
 have gR:=(hE.refK hi.ref).2
 have sR:=(hE.named 2 _ (by omega) hi.ref).2
 have gS:=hE.upG (k:=1) (by omega) hi.sender
 have sS:=(hE.named 1 _ (by omega) hi.sender).2
 have gO:=(Ci hE os ho).mono (n:=480) (by omega)
 unfold u6
 split
 ·rename_i hk
  have hA:=hi.asset (by omega)
  have gA:=hE.upG (k:=0) (by omega) hA
  have sA:=(hE.named 0 _ (by omega) hA).2
  obtain⟨q1,q2⟩:=hi.qty (by omega)
  refine Good.mono (Good.w (by split<;>decide +kernel) (by split<;>decide) (.cons gR sR (.w (by decide +kernel) (by decide) (.cons gS sS (.w (by decide +kernel) (by decide) (.cons gA sA (.w (by decide +kernel) (by decide) (.cons (gX q1 q2).2 (kV q2) (.w (by decide +kernel) (by decide) (.cons gD sD .nil)))))))))) (by decide)
 ·rename_i hk
  have hC:=hi.cpY hk
  have gC:=hE.upG (k:=1) (by omega) hC
  have sC:=(hE.named 1 _ (by omega) hC).2
  split
  ·rename_i h0
   obtain⟨a1,a2⟩:=hi.am (.inl h0)
   exact((Good.w (by decide +kernel) (by decide) (.cons gR sR (.w (by decide +kernel) (by decide) (.cons gS sS (.w (by decide +kernel) (by decide) (.cons gC sC (.w (by decide +kernel) (by decide) (.cons (jP a2).2 (iI a2) (.w (by decide +kernel) (by decide) (.cons gD sD .nil)))))))))).app gO).mono (by decide)
  ·rename_i h0
   have hA:=hi.asset h0
   have gA:=hE.upG (k:=0) (by omega) hA
   have sA:=(hE.named 0 _ (by omega) hA).2
   obtain⟨q1,q2⟩:=hi.qty h0
   have tT:i.kind=1\/i.kind=2:=by have:=hi.kind;omega
   obtain⟨t1,t2⟩:=hi.trade tT
   have t3:i.tradeDay<=bP:=by omega
   have gT:=hE.dayG t1 t3
   have sT:=hD _ t1 t3
   have vf:ql (gP i)/\(gP i).size<=32/\ql (toT i)/\(toT i).size<=32:=by
    unfold gP toT
    split
    ·exact⟨gC,sC,gS,sS⟩
    ·exact⟨gS,sS,gC,sC⟩
   obtain⟨f1,f2,f3,f4⟩:=vf
   split
   ·rename_i h1
    obtain⟨a1,a2⟩:=hi.am (.inr h1)
    exact((Good.w (by split<;>decide +kernel) (by split<;>decide) (.cons gR sR (.w (by decide +kernel) (by decide) (.cons f1 f2 (.w (by decide +kernel) (by decide) (.cons f3 f4 (.w (by decide +kernel) (by decide) (.cons gA sA (.w (by decide +kernel) (by decide) (.cons (gX q1 q2).2 (kV q2) (.w (by decide +kernel) (by decide) (.cons (jP a2).2 (iI a2) (.w (by decide +kernel) (by decide) (.cons gT sT (.w (by decide +kernel) (by decide) (.cons gD sD .nil)))))))))))))))).app gO).mono (by decide)
   ·exact((Good.w (by split<;>decide +kernel) (by split<;>decide) (.cons gR sR (.w (by decide +kernel) (by decide) (.cons f1 f2 (.w (by decide +kernel) (by decide) (.cons f3 f4 (.w (by decide +kernel) (by decide) (.cons gA sA (.w (by decide +kernel) (by decide) (.cons (gX q1 q2).2 (kV q2) (.w (by decide +kernel) (by decide) (.w (by decide +kernel) (by decide) (.cons gT sT (.w (by decide +kernel) (by decide) (.cons gD sD .nil))))))))))))))).app gO).mono (by decide)
theorem Pz (hE:gW E D)(hD:∀n:Int,0<=n->n<=bP->(D n).size<=10){m:Amd}(hm:oQ m):Good 200 (yZ D m):=by
 have g1:Good 30 (LB m):=by
  unfold LB
  split
  ·rename_i h
   obtain⟨a1,a2⟩:=hm.am h
   exact(Good.w (by decide +kernel) (by decide) (.cons (jP a2).2 (iI a2) .nil)).mono (by decide)
  ·exact Good.nil.mono (by decide)
 have g2:Good 30 (rR D m):=by
  unfold rR
  split
  ·exact(Good.w (by decide +kernel) (by decide) (.cons (hE.dayG hm.day.1 hm.day.2) (hD _ hm.day.1 hm.day.2) .nil)).mono (by decide)
  ·exact Good.nil.mono (by decide)
 have g3:Good 30 (uk m):=by
  unfold uk
  split
  ·exact(Good.cons (jc (rC hm.prio).1).2 (wI _) .nil).mono (by decide)
  ·exact Good.nil.mono (by decide)
 have g4:Good 30 (pg m):=by
  unfold pg
  split
  ·split
   ·rename_i h
    obtain⟨a1,a2⟩:=hm.lot h
    exact(Good.w (by decide +kernel) (by decide) (.cons (gX a1 a2).2 (kV a2) .nil)).mono (by decide)
   ·exact(Good.w (by decide +kernel) (by decide) .nil).mono (by decide)
  ·exact Good.nil.mono (by decide)
 exact(g1.app (g2.app (g3.app g4))).mono (by decide)
theorem NH (hE:gW E D)(hD:∀n:Int,0<=n->n<=bP->(D n).size<=10){q:Req}(hq:zH E.valid q=0){os:List Op}(ho:q.op=0->(∀o∈os,opV E.valid o)/\os.length<=12):Good 1024 (iY D q os):=by
 obtain⟨vs,vr,hq⟩:=lQ _ _ hq
 have gR:=(hE.refK vr).2
 have sR:=(hE.named 2 _ (by omega) vr).2
 have gS:=hE.upG (k:=1) (by omega) vs
 have sS:=(hE.named 1 _ (by omega) vs).2
 unfold iY
 rcases hq with⟨h0,hi,_⟩|⟨h1,hm,_⟩|⟨h2,_⟩
 ·rw[if_pos h0]
  exact Ow hE hD hi (ho h0).1 (ho h0).2
 ·rw[if_neg (by omega),if_pos h1]
  exact((Good.w (by decide +kernel) (by decide) (.cons gR sR (.w (by decide +kernel) (by decide) (.cons gS sS .nil)))).app (Pz hE hD hm)).mono (by decide)
 ·rw[if_neg (by omega),if_neg (by omega)]
  exact(Good.w (by split<;>(try split)<;>decide +kernel) (by split<;>(try split)<;>decide) (.cons gR sR (.w (by decide +kernel) (by decide) (.cons gS sS .nil)))).mono (by decide)
theorem ops_le {V:Nat->ByteArray->Bool}{i:Ins}(h:jW V i):(jh i).length<=12/\(lOps i).length<=12:=by
 have hl:=h.links
 have h1:(oPr i).length<=1:=by unfold oPr;split<;>simp
 have h2:(oPa i).length<=1:=by unfold oPa;split<;>simp
 have h3:(oRe i).length<=1:=by unfold oRe;split<;>simp
 have h4:(oHo i).length<=1:=by unfold oHo;split<;>simp
 unfold jh lOps
 simp only[List.length_append,List.length_cons,List.length_map]
 omega
theorem Gs (hE:gW E D)(hD:∀n:Int,0<=n->n<=bP->(D n).size<=10){q:Req}(hq:zH E.valid q=0){os:List Op}(ho:q.op=0->Ii E.valid q.ins os/\os.length<=12):
 parse E (zH E.valid) (bB (iY D q os))=(q,0,0)/\(bB (iY D q os)).size<=1024:=by
 have hg:=NH hE hD hq (os:=os) λh=>⟨(ho h).1.2.1,(ho h).2⟩
 obtain⟨q',h1,h2⟩:=OX hE hq (λh=>(ho h).1) (FR (iY D q os)) (by rw[oV,Be])
 refine⟨?_,Nat.le_trans (zY _) hg.2⟩
 unfold parse
 rw[EA hg.1 hg.2,if_neg (by simp)]
 simp only[]
 rw[h1]
 simp only[]
 rw[h2,if_neg (by simpa using hq)]
end
end Go.Proofs.YtnjjeapcalkmaaaGreatDoor.Ps
namespace Go.Proofs.YtnjjeapcalkmaaaGreatDoor
open Go Go.RowKit
theorem Uh {k:Nat}{s:ByteArray}(h:bM.valid k s=true):bD k s=0:=by
 have h:decide (aS k s=0)=true:=h
 rw[decide_eq_true_eq]at h
 unfold aS at h
 by_cases hf:bD k s=0
 ·exact hf
 ·rw[if_pos hf]at h;exact absurd h hf
theorem Bu (k:Nat)(hk:k<3)(c:Int):∀j,j<(bN k).length->((bN k).map (·.2)).getD j (λ_=>true) c=true->Lx.named c=true:=by
 have key:∀p∈(bN k).map (·.2),p c=true->Lx.named c=true:=by
  intro p hp hc
  have:p=Id.letter\/p=Id.bg\/p=Id.digit\/p=Id.Df:=by
   rcases(show k=0\/k=1\/k=2 by omega)with rfl|rfl|rfl
   ·simp[bN]at hp;rcases hp with h|h|h<;>simp[h]
   ·simp[bN]at hp;rcases hp with h|h<;>simp[h]
   ·simp[bN]at hp;simp[hp]
  rcases this with rfl|rfl|rfl|rfl
  ·simp[Id.letter,Lx.named]at hc⊢;simp[hc]
  ·simp[Id.bg,Lx.named]at hc⊢;rcases hc with hc|hc<;>simp[hc]
  ·simp[Id.digit,Lx.named]at hc⊢;simp[hc]
  ·simp[Id.Df,Id.bg,Lx.named]at hc⊢;rcases hc with(hc|hc)|hc<;>simp[hc]
 intro j hj h
 rw[List.getD_eq_getElem?_getD,List.getElem?_eq_getElem (by rw[List.length_map];exact hj)]at h
 exact key _ (List.getElem_mem _) h
theorem di {k:Nat}(hk:k<3){s:ByteArray}(h:bM.valid k s=true):Lx.all Lx.named s.data.toList=true/\s.size<=32:=by
 obtain⟨h1,h2,h3⟩:=fP k s (Uh h)
 have hlow:1<=(aR k).low:=by
  rcases(show k=0\/k=1\/k=2 by omega)with rfl|rfl|rfl<;>decide
 have hlen:=fM k
 have hs:s.size=s.data.toList.length:=Lib.size_eq s
 refine⟨?_,by omega⟩
 unfold Lx.all
 rw[Bool.and_eq_true,List.all_eq_true]
 refine⟨?_,λc hc=>?_⟩
 ·have:s.data.toList≠[]:=λh0=>by rw[h0]at hs;simp only[List.length_nil]at hs;omega
  simpa using this
 ·obtain⟨j,hj,rfl⟩:=List.getElem_of_mem hc
  have hjs:j<s.size:=by rw[hs];exact hj
  have:=Bu k hk (PlainAid.bt s j) j (by omega) (h3 j hjs)
  rwa [show PlainAid.bt s j=((s.data.toList[j]'hj).toNat:Int)from(PlainAid.get_bt s j hjs).symm]at this
theorem Ms {k:Nat}(hk:k<2){s:ByteArray}(h:bM.valid k s=true):Lx.aD s=(1,0):=by
 obtain⟨h1,h2,h3⟩:=fP k s (Uh h)
 obtain⟨n1,n2⟩:=di (by omega) h
 have hlow:1<=(aR k).low:=by
  rcases(show k=0\/k=1 by omega)with rfl|rfl<;>decide
 have hs:s.size=s.data.toList.length:=Lib.size_eq s
 have h0:0<s.size:=by omega
 have hj:0<s.data.toList.length:=by omega
 refine Ps.wu s n1 n2 (s.data.toList[0]'hj) (by rw[List.head?_eq_getElem?,List.getElem?_eq_getElem hj]) ?_
 have h4:=h3 0 h0
 rw[show PlainAid.bt s 0=((s.data.toList[0]'hj).toNat:Int)from(PlainAid.get_bt s 0 h0).symm]at h4
 rcases(show k=0\/k=1 by omega)with rfl|rfl
 ·exact h4
 ·exact h4
theorem UA {n:Int}(h1:1<=n)(h2:n<=Ps.bJ):oq (Ps.bH n)=(n,0):=by
 have hc:=(Ps.gX h1 h2).1
 unfold Ps.bJ at h2
 obtain⟨d1,d2,d3,_⟩:=Ps.df n.toNat
 have hp:=(Ps.pI _ d1 d2).1 (by rw[d3];omega)
 rw[d3]at hp
 unfold oq
 rw[if_pos hc]
 rw[show(Ps.bH n).data.toList=Ps.dec n.toNat from rfl,hp]
 simp only
 unfold Ao
 rw[if_neg (by omega)]
 refine Prod.ext ?_ rfl
 show(n.toNat:Int)=n
 omega
theorem MI {n:Int}(h1:1<=n)(h2:n<=Ps.bJ):qV yt (Ps.bO n)=(n,0):=by
 have hc:=(Ps.jP h2).1
 unfold Ps.bJ at h2
 obtain⟨d1,d2⟩:=Ps.Jw n.toNat
 have hp:=(Ps.pI _ d1 (by simp)).1 (by rw[d2];omega)
 rw[d2]at hp
 have hx:Lib.hasPrefix (Ps.cu n.toNat) [45]=false:=by
  unfold Lib.hasPrefix
  rw[Bool.eq_false_iff]
  intro hb
  obtain⟨e1,e2,_⟩:=Ps.df (n.toNat/100)
  have:(Ps.cu n.toNat).head? =some 45:=by
   rcases hq:Ps.cu n.toNat with _|⟨c,l⟩
   ·rw[hq]at hb;simp at hb
   ·rw[hq]at hb;simp at hb;rw[<-hb];rfl
  unfold Ps.cu at this
  rw[Ps.qj _ e2]at this
  exact Ps.Bh (by decide) (List.mem_of_mem_head? this)
 unfold qV
 rw[if_pos hc]
 have hA:yt (Ps.bO n)=(n,0):=by
  unfold yt
  rw[show(Ps.bO n).data.toList=Ps.cu n.toNat from rfl,Ps.wm,Ps.zU]
  simp only
  rw[hp,hx]
  simp only[Bool.false_eq_true,if_false]
  unfold Gu
  rw[if_pos (by omega)]
  refine Prod.ext ?_ rfl
  show(n.toNat:Int)=n
  omega
 rw[hA,if_pos rfl]
 unfold Ao
 rw[if_neg (by omega)]
theorem OL:Ps.gW bM Ps.ae where
 named:=λ_ _ hk h=>di hk h
 upper:=λ_ _ hk h=>Ms hk h
 number:=λ_ h1 h2=>UA h1 h2
 cash:=λ_ h1 h2=>MI h1 h2
 date:=λn h1 h2=>by
  show kH Ps.gL (Ps.ae n)=(n,0)
  unfold kH
  rw[(Ps.jY h1 h2).1]
  rfl
 day:=λ_ h1 h2=>(Ps.jY h1 h2).2.1
 daySolid:=λ_ h1 h2=>⟨(Ps.jY h1 h2).2.2.1,(Ps.jY h1 h2).2.2.2.1⟩
theorem ny (n:Int)(h1:0<=n)(h2:n<=Ps.bP):(Ps.ae n).size<=10:=Nat.le_of_eq (Ps.jY h1 h2).2.2.2.2
theorem gV {q:Ps.Req}(hq:psR q=0):Ps.parse bM psR (Ps.bB (Ps.iY Ps.ae q (Ps.jh q.ins)))=(q,0,0)/\(Ps.bB (Ps.iY Ps.ae q (Ps.jh q.ins))).size<=1024:=
 Ps.Gs OL ny hq λh0=>by
  obtain⟨_,_,h⟩:=Ps.lQ _ _ hq
  rcases h with⟨_,hi,_⟩|⟨h1,_⟩|⟨h1,_⟩
  ·exact⟨Ps.TP hi,(Ps.ops_le hi).1⟩
  ·omega
  ·omega
open Go Go.RowKit Go.Proofs.YtnjjeapcalkmaaaGreatDoor.Ord
open Go.Proofs.YtnjjeapcalkmaaaGreatDoor.Se
def C1 (f:FuncId)(q:Int)(n:Nat)(x:ByteArray):Prop:=(∀w,gZ f #[.int .i64 q] w x)/\x.size<=n
def C3 (f:FuncId)(p:Int)(b:Bool)(q:Int)(n:Nat)(x:ByteArray):Prop:=(∀w,gZ f #[.int .i64 p,.bool b,.int .i64 q] w x)/\x.size<=n
def nvR (rows:List (Option (Nat×Nat)×List Value)):PV->PV
 | .r k j=>.v (Ev.aM rows k j)
 |u=>u
theorem UW {M:Mem}{u:PV}{vals:List Value}{w:World}(h:il M [u] vals w):∃v,vals=[v]/\Den M u v w:=by
 rcases vals with _|⟨v,_|⟨x,l⟩⟩
 ·exact h.elim
 ·exact⟨v,rfl,h.1⟩
 ·exact h.2.elim
theorem dens2 {M:Mem}{u u2:PV}{vals:List Value}{w:World}(h:il M [u,u2] vals w):∃v v2,vals=[v,v2]/\Den M u v w/\Den M u2 v2 w:=by
 rcases vals with _|⟨v,l⟩
 ·exact h.elim
 ·obtain⟨v2,rfl,h2⟩:=UW h.2
  exact⟨v,v2,rfl,h.1,h2⟩
theorem dens3 {M:Mem}{u u2 u3:PV}{vals:List Value}{w:World}(h:il M [u,u2,u3] vals w):∃v v2 v3,vals=[v,v2,v3]/\Den M u v w/\Den M u2 v2 w/\Den M u3 v3 w:=by
 rcases vals with _|⟨v,l⟩
 ·exact h.elim
 ·obtain⟨v2,v3,rfl,h2,h3⟩:=dens2 h.2
  exact⟨v,v2,v3,rfl,h.1,h2,h3⟩
def EN (p:Int)(b:Bool)(n:Int):ByteArray:=⟨#[32]⟩++Ps.bw (Ps.bX p)++(if b=true then⟨#[32,112,97,114,116,105,97,108,32]⟩++Ps.bH n else⟨#[]⟩)
noncomputable def GZ (rows:List (Option (Nat×Nat)×List Value))(f:FuncId)(us:List PV):Option (PV×Bool×Option Prop):=match us.map (nvR rows)with
 |[.v (.int .i64 q)]=>if f=48 then some (.s (20,Ps.bH q),false,some (C1 f q 20 (Ps.bH q)))else if f=45 then some (.s (20,Ps.bO q),false,some (C1 f q 20 (Ps.bO q)))
  else if f=46 then some (.s (10,Ps.ae q),false,some (C1 f q 10 (Ps.ae q)))else none
 |[.v (.int .i64 p),.v (.bool b),.v (.int .i64 q)]=>if f=47 then some (.s (60,EN p b q),false,some (C3 f p b q 60 (EN p b q)))else none
 |_=>none
theorem Gx:∀args w,(callFunc 48 args).run Tryz.prog w=.ok (.enter 48 args) w:=enters_of Tryz.func48 (by kernel_rfl) rfl
theorem Nw:∀args w,(callFunc 45 args).run Tryz.prog w=.ok (.enter 45 args) w:=enters_of Tryz.func45 (by kernel_rfl) rfl
theorem NK:∀args w,(callFunc 46 args).run Tryz.prog w=.ok (.enter 46 args) w:=enters_of Tryz.func46 (by kernel_rfl) rfl
theorem EX:∀args w,(callFunc 47 args).run Tryz.prog w=.ok (.enter 47 args) w:=enters_of Tryz.func47 (by kernel_rfl) rfl
theorem zQ {M:Mem}(hM:Wf M){f:FuncId}{vals:List Value}{w:World}{n:Nat}{x:ByteArray}(hS:Sw M w)(h:gZ f vals.toArray w x)(hn:x.size<=n):Calls Tryz.prog f vals.toArray w λe w'=>∃v,e=.returned v/\Den M (.s (n,x)) v w'/\Sw M w'/\(false=false->Below w.heap.size w w'):=by
 refine h.mono ?_
 rintro e w' ⟨rfl,hb⟩
 refine⟨_,rfl,?_,hS.below hM hb,λ_=>hb⟩
 show Value.string x=.string (st (n,x))
 rw[show st (n,x)=x from bW hn]
theorem BX {B:Nat}{W:World}{fix:List Nat}{b:Nat}{rows:List (Option (Nat×Nat)×List Value)}{call:FuncId->List PV->Option (PV×Bool×Option Prop)}{u:PV}{v x:Value}{w:World}(h:Den (dh B W fix b rows call) u v w)(hu:nvR rows u=.v x):v=x:=by
 cases u with
 |r k j=>cases hu;exact h
 |v y=>cases hu;exact h
 |_=>cases hu
theorem LY {B:Nat}{W:World}{fix:List Nat}{b:Nat}{rows:List (Option (Nat×Nat)×List Value)}{call:FuncId->List PV->Option (PV×Bool×Option Prop)}(hM:Wf (dh B W fix b rows call))(f:FuncId)(us:List PV)(u:PV)(c:Bool)(q:Option Prop)(h:GZ rows f us=some (u,c,q))(hq:∀p,q=some p->p):
 (∀args w,(callFunc f args).run Tryz.prog w=.ok (.enter f args) w)/\∀(vals:List Value) w,Sw (dh B W fix b rows call) w->il (dh B W fix b rows call) us vals w->Calls Tryz.prog f vals.toArray w λe w'=>∃v,e=.returned v/\Den (dh B W fix b rows call) u v w'/\Sw (dh B W fix b rows call) w'/\(c=false->Below w.heap.size w w'):=by
 unfold GZ at h
 split at h
 ·rename_i n hu
  rcases us with _|⟨u1,_|⟨u2,us⟩⟩
  ·simp at hu
  rotate_left
  ·simp at hu
  have hu1:nvR rows u1=.v (.int .i64 n):=by simpa using hu
  have key:∀(k:Nat) (x:ByteArray),C1 f n k x->∀(vals:List Value) w,Sw (dh B W fix b rows call) w->il (dh B W fix b rows call) [u1] vals w->Calls Tryz.prog f vals.toArray w λe w'=>∃v,e=.returned v/\Den (dh B W fix b rows call) (.s (k,x)) v w'/\Sw (dh B W fix b rows call) w'/\(false=false->Below w.heap.size w w'):=λk x hc vals w hS hd=>by
   obtain⟨v,rfl,hv⟩:=UW hd
   obtain rfl:=BX hv hu1
   exact zQ hM hS (hc.1 w) hc.2
  split at h
  ·rename_i hf;cases h;subst hf;exact⟨Gx,key _ _ (hq _ rfl)⟩
  split at h
  ·rename_i hf;cases h;subst hf;exact⟨Nw,key _ _ (hq _ rfl)⟩
  split at h
  ·rename_i hf;cases h;subst hf;exact⟨NK,key _ _ (hq _ rfl)⟩
  ·cases h
 ·rename_i p b2 n hu
  rcases us with _|⟨u1,_|⟨u2,_|⟨u3,_|⟨u4,us⟩⟩⟩⟩
  ·simp at hu
  ·simp at hu
  ·simp at hu
  rotate_left
  ·simp at hu
  obtain⟨hu1,hu2,hu3⟩:nvR rows u1=.v (.int .i64 p)/\nvR rows u2=.v (.bool b2)/\nvR rows u3=.v (.int .i64 n):=by simpa using hu
  split at h
  ·rename_i hf
   cases h
   subst hf
   refine⟨EX,λvals w hS hd=>?_⟩
   obtain⟨v,v2,v3,rfl,h1,h2,h3⟩:=dens3 hd
   obtain rfl:=BX h1 hu1
   obtain rfl:=BX h2 hu2
   obtain rfl:=BX h3 hu3
   have hc:C3 _ _ _ _ _ _:=hq _ rfl
   exact zQ hM hS (hc.1 w) hc.2
  ·cases h
 ·cases h
noncomputable def lnM (W:World)(l:List Value):Mem:=dh W.heap.size W [] 0 [(none,l)] (GZ [(none,l)])
theorem QA (W:World)(l:List Value):Ok Tryz.prog (lnM W l):=ni (Nat.le_refl _) (λg hg=>by cases hg) (λk g o l' h=>by
 rcases k with _|k
 ·cases h
 ·cases h) (λk p l' h=>by
 rcases k with _|k
 ·cases h
 ·cases h) λf us u c q h hq=>LY ⟨Nat.le_refl _,λg hg=>by cases hg⟩ f us u c q h hq
theorem jo {M:Mem}{fn:Func}{r:Nat}{x:SB}{us:List PV}{ts:List Nat}{a:Act}{w:World}{R:Ending->World->Prop}(hres:fn.results=#[.tmp r])(hd:a.defers=[])(hv:kS M (r::ts) (.s x::us) a w)(hR:R (.returned (.string (st x))) w):bodyPost Tryz.prog fn R .ret a w:=by
 obtain⟨⟨v,h1,h2⟩,_⟩:=hv.cons
 have h2:v=.string (st x):=h2
 subst h2
 refine bodyPost_ret (results_tmp hres _ _ _) hd ?_
 rw[show a.tmps.getD r undef=.string (st x)from eval_at h1]
 exact hR
theorem az {M:Mem}{w:World}(hB:M.B=M.W.heap.size)(h:Sw M w):Below M.W.heap.size M.W w:=by
 have:=h.to
 rwa [hB]at this
theorem SA (n:Nat)(h:¬n<10):Ps.bH (n:Int)=Ps.bH ((n/10:Nat):Int)++⟨#[UInt8.ofNat (48+n%10)]⟩:=by
 unfold Ps.bH
 rw[Int.toNat_natCast,Int.toNat_natCast,Ps.kG h]
 apply ByteArray.ext
 simp[Ps.dgt]
theorem kF (n:Nat)(h:n<1000000000000000000):(Ps.bH (n:Int)).size<=20:=by
 have:=Ps.iH 17 n (by omega)
 show(Ps.dec (n:Int).toNat).length<=20
 rw[Int.toNat_natCast]
 omega
theorem gq {P:Program}{c:Code}{tmps:Array Value}{Q:Exit->Act->World->Prop}{w:World}(h:∀a:Act,a.tmps=tmps->a.defers=[]->c.wp P Q a w):c.wp P Q ⟨tmps,[]⟩ w:=h _ rfl rfl
theorem OD {n:Nat}(h:n<100):UInt8.ofNat (IntKind.i64.wrap (48+(n:Int))%256).toNat=UInt8.ofNat (48+n):=by
 rw[show IntKind.i64.wrap (48+(n:Int))=((48+n:Nat):Int)from(IntWalk.i64_in _ (by omega)).trans (by omega)]
 congr 1
 omega
theorem wz (n k:Nat)(hk:0<k)(hn:n<1000000000000000000):IntKind.i64.wrap ((n:Int).tdiv (k:Int))=((n/k:Nat):Int):=by
 rw[Int.tdiv_eq_ediv_of_nonneg (by omega),<-Int.natCast_ediv]
 have:=Nat.div_le_self n k
 generalize n/k=d at this⊢
 exact IntWalk.i64_in _ (by omega)
theorem xz (n k:Nat):(n:Int).tmod (k:Int)=((n%k:Nat):Int):=by
 rw[Int.tmod_eq_emod_of_nonneg (by omega),Int.natCast_emod]
open Go.RowKit
inductive yE (t:ByteArray):Bool->Prop where
 |short (h:decide (4<=(t.size:Int))=false):yE t false
 |point (m:Nat) (h:decide (4<=(t.size:Int))=true) (hm:(t.size:Int)-3=(m:Int)) (Qo:m<t.size) (b:(PlainAid.bt t m==46)=false):yE t false
 |last (m:Nat) (h:decide (4<=(t.size:Int))=true) (hm:(t.size:Int)-3=(m:Int)) (Qo:m<t.size) (hm1:(t.size:Int)-1=((m+2:Nat):Int)) (hml1:m+2<t.size) (b:(PlainAid.bt t m==46)=true) (c:Lx.digit (PlainAid.bt t (m+2))=false):yE t false
 |one (m:Nat) (h:decide (4<=(t.size:Int))=true) (hm:(t.size:Int)-3=(m:Int)) (Qo:m<t.size) (hm1:(t.size:Int)-1=((m+2:Nat):Int)) (hml1:m+2<t.size) (hm2:(t.size:Int)-2=((m+1:Nat):Int)) (hml2:m+1<t.size) (b:(PlainAid.bt t m==46)=true) (c:Lx.digit (PlainAid.bt t (m+2))=true) (d:Lx.digit (PlainAid.bt t (m+1))=false):yE t false
 |all (m:Nat) (r:Bool) (h:decide (4<=(t.size:Int))=true) (hm:(t.size:Int)-3=(m:Int)) (Qo:m<t.size) (hm1:(t.size:Int)-1=((m+2:Nat):Int)) (hml1:m+2<t.size) (hm2:(t.size:Int)-2=((m+1:Nat):Int)) (hml2:m+1<t.size) (b:(PlainAid.bt t m==46)=true) (c:Lx.digit (PlainAid.bt t (m+2))=true) (d:Lx.digit (PlainAid.bt t (m+1))=true) (e:Hid (Lx.whole (t.extract 0 m).data.toList=r)):yE t r
inductive oO:Bool->Bool->Bool->Bool->Bool->Bool->Int->Int->Prop where
 |date (g s m n o:Bool):oO true g s m n o 4 0
 |num (m n o:Bool):oO false true true m n o 2 0
 |decG (n o:Bool):oO false true false true n o 3 0
 |dec (s n o:Bool):oO false false s true n o 3 0
 |nameG (o:Bool):oO false true false false true o 1 0
 |name (s o:Bool):oO false false s false true o 1 0
 |wordG:oO false true false false false true 0 0
 |word (s:Bool):oO false false s false false true 0 0
 |noneG:oO false true false false false false 0 30
 |none (s:Bool):oO false false s false false false 0 30
theorem q8 {x:Int}(h: -1000000000000000000<=x/\x<=1000000000000000000):IntKind.i64.wrap x=x:=IntWalk.i64_in _ (by omega)
theorem MP (w:World)(y:Int)(h40:y.tmod 400=0->y.tmod 4=0):
 Calls Tryz.prog 202 #[.int .i64 y] w λe w'=>e=.returned (.bool (decide (y.tmod 4=0)&&!decide (y.tmod 100=0)||decide (y.tmod 400=0)))/\w'=w:=by
 obtain⟨b,hb⟩:∃b,b=(decide (y.tmod 4=0)&&!decide (y.tmod 100=0)||decide (y.tmod 400=0)):=⟨_,rfl⟩
 rw[<-hb]
 have HB:=Lib.hid hb
 clear hb
 by_cases h4:y.tmod 4=0
 all_goals by_cases SX:y.tmod 100=0
 all_goals by_cases LX:y.tmod 400=0
 all_goals first|(exact absurd (h40 LX) h4)|skip
 all_goals
  have HV:=HB.out
  simp only[h4,SX,LX,decide_true,decide_false,Bool.not_true,Bool.not_false,Bool.and_true,Bool.and_false,Bool.or_true,Bool.or_false]at HV
  subst HV
  clear HB h40
  go_enter Tryz.func202,Tryz.ntmps202
  go_wp2_with fail
  go_ret
  first
   |exact⟨rfl,rfl⟩
   |(refine⟨?_,rfl⟩
     show Ending.returned (.bool (y.tmod 400==0))=_
     rw[show(y.tmod 400==0)=false from by rw[beq_eq_false_iff_ne];exact LX])
theorem Cn (w:World)(y:Int)(h1:2000<=y):
 Calls Tryz.prog 202 #[.int .i64 y] w λe w'=>e=.returned (.bool (Ps.kN y))/\w'=w:=by
 have t4:y.tmod 4=y%4:=Int.tmod_eq_emod_of_nonneg (by omega)
 have t1:y.tmod 100=y%100:=Int.tmod_eq_emod_of_nonneg (by omega)
 have t0:y.tmod 400=y%400:=Int.tmod_eq_emod_of_nonneg (by omega)
 have h:=MP w y (by rw[t4,t0];omega)
 rw[t4,t1,t0]at h
 exact h
theorem FU (w:World)(y m:Int)(h:y<2000\/(¬y<2000/\y>2199)\/(¬y<2000/\¬y>2199/\m<1)\/(¬y<2000/\¬y>2199/\¬m<1/\m>12)):
 Calls Tryz.prog 203 #[.int .i64 y,.int .i64 m] w λe w'=>e=.returned (.int .i64 0)/\w'=w:=by
 rcases h with a|⟨a,b⟩|⟨a,b,c⟩|⟨a,b,c,d⟩
 all_goals
  go_enter Tryz.func203,Tryz.ntmps203
  go_wp2_with fail
  go_ret
  exact⟨rfl,rfl⟩
theorem J8 (w:World)(y m:Int)(a:¬y<2000)(b:¬y>2199)(h:m=4\/m=6\/m=9\/m=11):
 Calls Tryz.prog 203 #[.int .i64 y,.int .i64 m] w λe w'=>e=.returned (.int .i64 30)/\w'=w:=by
 rcases h with rfl|rfl|rfl|rfl
 all_goals
  go_enter Tryz.func203,Tryz.ntmps203
  go_wp2_with fail
  go_ret
  exact⟨rfl,rfl⟩
theorem Jm (w:World)(y m:Int)(a:¬y<2000)(b:¬y>2199)(h:m=1\/m=3\/m=5\/m=7\/m=8\/m=10\/m=12):
 Calls Tryz.prog 203 #[.int .i64 y,.int .i64 m] w λe w'=>e=.returned (.int .i64 31)/\w'=w:=by
 rcases h with rfl|rfl|rfl|rfl|rfl|rfl|rfl
 all_goals
  go_enter Tryz.func203,Tryz.ntmps203
  go_wp2_with fail
  go_ret
  exact⟨rfl,rfl⟩
theorem IE (w:World)(y:Int)(a:¬y<2000)(b:¬y>2199)(l:Bool)(n1:∀w,Calls Tryz.prog 202 #[.int .i64 y] w λe w'=>e=.returned (.bool l)/\w'=w):
 Calls Tryz.prog 203 #[.int .i64 y,.int .i64 2] w λe w'=>e=.returned (.int .i64 (if l=true then 29 else 28))/\w'=w:=by
 cases l
 all_goals
  go_enter Tryz.func203,Tryz.ntmps203
  go_wp2_with (go_at_call 202;refine(n1 _).mono ?_;rintro x w1 ⟨rfl,rfl⟩)
  go_ret
  exact⟨rfl,rfl⟩
theorem yH (w:World)(y m:Int):
 Calls Tryz.prog 203 #[.int .i64 y,.int .i64 m] w λe w'=>e=.returned (.int .i64 (Ps.dim y m))/\w'=w:=by
 unfold Ps.dim
 by_cases ho:y<2000\/2199<y\/m<1\/12<m
 ·rw[if_pos ho]
  exact FU w y m (by omega)
 ·rw[if_neg ho]
  have a:¬y<2000:=by omega
  have b:¬y>2199:=by omega
  by_cases h2:m=2
  ·subst h2
   rw[if_pos rfl]
   exact IE w y a b _ λw=>Cn w y (by omega)
  ·rw[if_neg h2]
   by_cases h4:m=4\/m=6\/m=9\/m=11
   ·rw[if_pos h4]
    exact J8 w y m a b h4
   ·rw[if_neg h4]
    exact Jm w y m a b (by omega)
def UV (y m d:Int):Value:=.agg #[.int .i64 y,.int .i64 m,.int .i64 d]
theorem PK (y m:Int):0<=Ps.dim y m/\Ps.dim y m<=31:=by
 unfold Ps.dim
 split
 ·omega
 ·split
  ·split<;>omega
  ·split<;>omega
def dB (x:Int):ByteArray:=⟨#[UInt8.ofNat (IntKind.i64.wrap (48+x.tmod 10)%256).toNat]⟩
def dQ (x:Int):Int:=IntKind.i64.wrap (x.tdiv 10)
theorem sI (n:Nat):dB (n:Int)=⟨#[Ps.dgt (n%10)]⟩:=by
 unfold dB
 rw[show(n:Int).tmod 10=((n%10:Nat):Int)from xz n 10,OD (by omega)]
 rfl
theorem Aq (n:Nat)(h:n<1000000000000000000):dQ (n:Int)=((n/10:Nat):Int):=wz n 10 (by omega) h
theorem AO (c:UInt8):st (1,(⟨#[c]⟩:ByteArray))=⟨#[c]⟩:=bW (Nat.le_refl 1)
theorem Fg (n:Nat)(hn:n<10000)(w:World):gZ 133 #[.int .i64 (n:Int),.int .i64 4] w ⟨(Ps.d4 n).toArray⟩:=by
 unfold gZ
 go_enter Tryz.func133,Tryz.ntmps133
 refine gq λa ha hdf=>?_
 refine bE (n:=23) (M:={lnM w [.int .i64 (n:Int)]with loops:=5}) (Ok.hint (QA w _)) [4] (us:=[.s (Se.cat (1,dB (dQ (dQ (dQ n)))) (Se.cat (1,dB (dQ (dQ n))) (Se.cat (1,dB (dQ n)) (Se.cat (1,dB n) (0,⟨#[]⟩)))))]) (ps:=[]) (by kernel_rfl) trivial (aF (aF (aZ (by rw[ha];rfl) hdf) (v:=.int .i64 4) (t:=1) (u:=.v (.int .i64 4)) (by rw[ha];rfl) rfl) (v:=.int .i64 (n:Int)) (t:=0) (u:=.r 0 0) (by rw[ha];rfl) rfl) (Sw.hint (Sw.start _)) ?_
 intro a w' _ hd hv hS
 refine jo rfl hd hv ⟨?_,az rfl hS⟩
 have h1:n/10/10=n/100:=by omega
 have h2:n/100/10=n/1000:=by omega
 rw[Aq n (by omega),Aq (n/10) (by omega),h1,Aq (n/100) (by omega),h2,sI,sI,sI,sI,eO,eO,eO,eO,AO,AO,AO,AO]
 rfl
theorem wL (n:Nat)(hn:n<100)(w:World):gZ 133 #[.int .i64 (n:Int),.int .i64 2] w ⟨(Ps.d2 n).toArray⟩:=by
 unfold gZ
 go_enter Tryz.func133,Tryz.ntmps133
 refine gq λa ha hdf=>?_
 refine bE (n:=23) (M:={lnM w [.int .i64 (n:Int)]with loops:=5}) (Ok.hint (QA w _)) [4] (us:=[.s (Se.cat (1,dB (dQ n)) (Se.cat (1,dB n) (0,⟨#[]⟩)))]) (ps:=[]) (by kernel_rfl) trivial (aF (aF (aZ (by rw[ha];rfl) hdf) (v:=.int .i64 2) (t:=1) (u:=.v (.int .i64 2)) (by rw[ha];rfl) rfl) (v:=.int .i64 (n:Int)) (t:=0) (u:=.r 0 0) (by rw[ha];rfl) rfl) (Sw.hint (Sw.start _)) ?_
 intro a w' _ hd hv hS
 refine jo rfl hd hv ⟨?_,az rfl hS⟩
 rw[Aq n (by omega),sI,sI,eO,eO,AO,AO]
 rfl
theorem Ct (W:World)(g:Nat)(a b c:Int)(h:W.heap[g]? =some (.cells #[.int .i64 a,.int .i64 b,.int .i64 c] 169 (0,0))):(Instr.loadAt 169 (.pointer (some ⟨g,0,none⟩))).run Tryz.prog W=.ok (.agg #[.int .i64 a,.int .i64 b,.int .i64 c]) W:=by
 have:=run_loadVar_row (P:=Tryz.prog) W g 169 169 #[.int .i64 a,.int .i64 b,.int .i64 c] (0,0) _ h Tryz.underlying169 rfl (by kernel_rfl)
 unfold Instr.loadAt
 simp[Instr.sureAddr,this]
theorem AA (W:World)(g:Nat)(a b c:Int){o:Oper}{x y:Operand}{ρ:Operand->Value}{cur:Array Value}(h:W.heap[g]? =some (.cells cur 169 (0,0)))(ho:o.op=.store 169 x y)(hx:ρ x=.pointer (some ⟨g,0,none⟩))(hy:ρ y=.agg #[.int .i64 a,.int .i64 b,.int .i64 c])(hc:cur.size=3:=by rfl):(execOp ρ o).run Tryz.prog W=.ok .skip (W.setRow g #[.int .i64 a,.int .i64 b,.int .i64 c]):=by
 unfold execOp
 simp only[ho,hx,hy,Instr.storeAt,Instr.sureAddr,Sem.run_bind,Sem.run_pure,Result.andThen_ok,run_storeVar_row (P:=Tryz.prog) W g 169 169 cur #[.int .i64 a,.int .i64 b,.int .i64 c] h (by kernel_rfl) (by rw[hc];rfl) (by simp[Value.oneCell'])]
theorem rk3_to (n0:Int)(h0:0<=n0)(hn:n0<=Ps.bP)(w:World):Calls Tryz.prog 132 #[.int .i64 n0] w λe w'=>∃y m d:Nat,Ps.IsC n0 y m d/\e=.returned (UV y m d)/\Below w.heap.size w w':=by
 have hn':=hn
 unfold Ps.bP at hn
 go_enter Tryz.func132,Tryz.ntmps132
 go_upto_block 0 with fail
 obtain⟨q,hq⟩:∃q,q=w.heap.size:=⟨_,rfl⟩
 generalize hW0:World.alloc _ _=W0
 have hg:W0.heap[q+1]? =some (.cells #[.int .i64 2000,.int .i64 1,.int .i64 1] 169 (0,0)):=by
  rw[<-hW0,hq];exact heap_alloc2_new _ _ _
 have hr:W0.heap[q]? =some (.cells #[.int .i64 0,.int .i64 0,.int .i64 0] 169 (0,0)):=by
  rw[<-hW0,hq,heap_alloc_old _ _ (by simp)];exact aC w _
 have HB0:Hid (Below q w W0):=Lib.hid (by rw[<-hW0,hq];exact(((Below.refl _ _).alloc (Nat.le_refl _) _).alloc (by simp) _))
 rw[<-hq]
 have HG:=Lib.hid hg
 have HR:=Lib.hid hr
 have HQ:=Lib.hid hq
 clear hg hr hq hW0
 refine wp_block ?_
 go_loopw [0,4] (λnv yv wr=>∃k:Nat,∃n:Int,nv=.int .i64 n/\k<=199/\Hid (n0=n+Ps.aj k)/\0<=n/\n<=73048/\Hid (wr.heap[q+1]? =some (.cells #[.int .i64 (2000+(k:Int)),.int .i64 1,.int .i64 1] 169 (0,0)))/\Hid (wr.heap[q]? =some (.cells #[.int .i64 0,.int .i64 0,.int .i64 0] 169 (0,0)))/\Hid (Below q w wr)) (λnv _ _=>(RowKit.intOf nv).toNat)
 case atStart=>exact⟨0,n0,rfl,by omega,Lib.hid (by rw[show Ps.aj ((0:Nat):Int)=0 from by decide];omega),h0,hn,HG,HR,HB0⟩
 case round=>
  obtain⟨k,n,rfl,hk,HN,hn0,hn1,HG,HR,HB⟩:=hrel
  have y0:wr.cell? ⟨q+1,0,none⟩=some (.int .i64 (2000+(k:Int))):=by rw[cell_of_row _ _ _ _ _ _ HG.out];rfl
  have f0:wr.frozen? ⟨q+1,0,none⟩=false:=aV 0 HG.out
  obtain⟨Y,hY⟩:∃Y:Int,Y=2000+(k:Int):=⟨_,rfl⟩
  rw[<-hY]at y0
  have hyb:2000<=Y/\Y<=2199:=by omega
  have n1:=Cn wr Y hyb.1
  have hst:=Ps.rU (k+1)
  have TL:=Ps.rU k
  have hsuc:Ps.Gw (k+1)=Ps.Gw k+365+(if Ps.kN Y=true then 1 else 0):=by rw[hY];rfl
  have q3:IntKind.i64.wrap (Y+1)=Y+1:=q8 (by omega)
  have NA:=Lib.hid hY
  have HS:=Lib.hid hst
  have HS2:=Lib.hid TL
  have HSU:=Lib.hid hsuc
  clear hY hst TL hsuc hyb
  have fin:∀(L:Int) (n':Int),Hid (n'=n-L/\L=365+(if Ps.kN Y=true then 1 else 0))->L<=n->∃k':Nat,∃n2:Int,Value.int .i64 n'=.int .i64 n2/\k'<=199/\Hid (n0=n2+Ps.aj k')/\0<=n2/\n2<=73048/\Hid ((wr.setCell ⟨q+1,0,none⟩ (.int .i64 (Y+1))).heap[q+1]? =some (.cells #[.int .i64 (2000+(k':Int)),.int .i64 1,.int .i64 1] 169 (0,0)))/\Hid ((wr.setCell ⟨q+1,0,none⟩ (.int .i64 (Y+1))).heap[q]? =some (.cells #[.int .i64 0,.int .i64 0,.int .i64 0] 169 (0,0)))/\Hid (Below q w (wr.setCell ⟨q+1,0,none⟩ (.int .i64 (Y+1)))):=λL n' hL hle=>by
   obtain⟨hn',hL⟩:=hL.out
   have e0:=HN.out
   have e1:=HS.out
   have e2:=HS2.out
   have e3:=HSU.out
   have e4:=NA.out
   have eL:Ps.aj ((k+1:Nat):Int)=Ps.aj (k:Int)+L:=by omega
   have hk2:k+1<=199:=by
    rcases Nat.lt_or_ge k 199 with h|h
    ·omega
    ·have hk9:k=199:=by omega
     subst hk9
     have:Ps.aj ((199+1:Nat):Int)=73049:=by decide
     omega
   refine⟨k+1,n',rfl,hk2,Lib.hid (by omega),by omega,by split at hL<;>omega,Lib.hid ?_,Lib.hid ?_,Lib.hid (HB.out.setCell (by show q<=q+1;omega) _)⟩
   ·rw[ai wr (q+1) 0 _ _ _ HG.out,e4,show(2000+((k+1:Nat):Int))=2000+(k:Int)+1 from by omega]
    rfl
   ·rw[Below.heap_setCell wr _ _ q (by show q≠q+1;omega)];exact HR.out
  cases hl:Ps.kN Y with
  |true=>
   rw[hl]at n1
   by_cases hlt:n<366
   ·have hx:Hid (n<365+(if Ps.kN Y=true then 1 else 0)):=Lib.hid (by rw[hl,if_pos rfl];omega)
    clear fin
    go_wp2_with (go_at_call 202;refine n1.mono ?_;rintro x w1 ⟨rfl,rfl⟩)
    have TK:Hid (n0=n+Ps.aj k/\n<365+(if Ps.kN Y=true then 1 else 0)/\k<=199/\0<=n):=Lib.hid ⟨HN.out,hx.out,hk,hn0⟩
    clear hx n1 y0 f0 q3 hl hlt
    go_loopw [0] (λnv wr2=>∃j:Nat,∃n':Int,nv=.int .i64 n'/\j<=11/\Hid (n=n'+Ps.bQ Y j)/\0<=n'/\n'<=73048/\Hid (wr2.heap[q+1]? =some (.cells #[.int .i64 Y,.int .i64 ((j:Int)+1),.int .i64 1] 169 (0,0)))/\Hid (wr2.heap[q]? =some (.cells #[.int .i64 0,.int .i64 0,.int .i64 0] 169 (0,0)))/\Hid (Below q w wr2)) (λnv _=>(RowKit.intOf nv).toNat)
    case atStart=>exact⟨0,n,rfl,by omega,Lib.hid (by simp[Ps.bQ]),hn0,hn1,Lib.hid (by rw[HG.out,NA.out];rfl),HR,HB⟩
    case round=>
     obtain⟨j,n',rfl,hj,HM,hm0,hm1,HG2,HR2,HB2⟩:=hrel
     have z0:wr.cell? ⟨q+1,0,none⟩=some (.int .i64 Y):=by rw[cell_of_row _ _ _ _ _ _ HG2.out];rfl
     have z1':wr.cell? ⟨q+1,1,none⟩=some (.int .i64 ((j:Int)+1)):=by rw[cell_of_row _ _ _ _ _ _ HG2.out];rfl
     have z2:wr.cell? ⟨q+1,2,none⟩=some (.int .i64 1):=by rw[cell_of_row _ _ _ _ _ _ HG2.out];rfl
     have f1:wr.frozen? ⟨q+1,1,none⟩=false:=aV 1 HG2.out
     have f2:wr.frozen? ⟨q+1,2,none⟩=false:=aV 2 HG2.out
     obtain⟨m,hm⟩:∃m:Int,m=(j:Int)+1:=⟨_,rfl⟩
     rw[<-hm]at z1'
     have n2:=λw=>yH w Y m
     have Rm:=PK Y m
     obtain⟨dd,hdd⟩:∃dd:Int,dd=Ps.dim Y m:=⟨_,rfl⟩
     rw[<-hdd]at n2 Rm
     have DF:=Lib.hid hm
     have Mg:=Lib.hid hdd
     clear hdd
     have Ni:Hid (Ps.bQ Y 12=365+(if Ps.kN Y=true then 1 else 0)):=Lib.hid (by
      have e1:=Ps.jN k (by have:=TK.out.2.2.1;omega)
      have e2:=HS.out
      have e3:=HS2.out
      have e4:=HSU.out
      rw[<-NA.out]at e1
      rw[e1]
      rw[Int.natCast_add_one]at e2
      omega)
     by_cases hlt2:dd<=n'
     ·have q4:IntKind.i64.wrap (n'-dd)=n'-dd:=q8 (by omega)
      have q5:IntKind.i64.wrap (m+1)=m+1:=q8 (by omega)
      have FIN:Hid (∃j':Nat,∃n2:Int,Value.int .i64 (n'-dd)=.int .i64 n2/\j'<=11/\Hid (n=n2+Ps.bQ Y j')/\0<=n2/\n2<=73048/\Hid ((wr.setCell ⟨q+1,1,none⟩ (.int .i64 (m+1))).heap[q+1]? =some (.cells #[.int .i64 Y,.int .i64 ((j':Int)+1),.int .i64 1] 169 (0,0)))/\Hid ((wr.setCell ⟨q+1,1,none⟩ (.int .i64 (m+1))).heap[q]? =some (.cells #[.int .i64 0,.int .i64 0,.int .i64 0] 169 (0,0)))/\Hid (Below q w (wr.setCell ⟨q+1,1,none⟩ (.int .i64 (m+1))))):=Lib.hid (by
       have e1:=HM.out
       have e2:Ps.bQ Y (j+1)=Ps.bQ Y j+Ps.dim Y ((j:Int)+1):=rfl
       rw[<-DF.out,<-Mg.out]at e2
       have e3:=Ni.out
       have e4:=TK.out
       have hj2:j+1<=11:=by
        rcases Nat.lt_or_ge j 11 with h|h
        ·omega
        ·have hj9:j=11:=by omega
         subst hj9
         have:Ps.bQ Y (11+1)=Ps.bQ Y 12:=rfl
         omega
       refine⟨j+1,n'-dd,rfl,hj2,Lib.hid (by omega),by omega,by omega,Lib.hid ?_,Lib.hid ?_,Lib.hid (HB2.out.setCell (by show q<=q+1;omega) _)⟩
       ·rw[ai wr (q+1) 1 _ _ _ HG2.out,DF.out,Int.natCast_add_one]
        rfl
       ·rw[Below.heap_setCell wr _ _ q (by show q≠q+1;omega)];exact HR2.out)
      have hpos:Hid (0<dd):=Lib.hid (by
       have e1:=Mg.out
       have hYb:=NA.out
       have hkb:=TK.out.2.2.1
       unfold Ps.dim at e1
       rw[if_neg (by omega)]at e1
       split at e1
       ·split at e1<;>omega
       ·split at e1<;>omega)
      clear hm Ni
      go_wp2_with (go_at_call 203;refine(n2 _).mono ?_;rintro z w1 ⟨rfl,l6⟩;obtain rfl:=l6.symm;clear l6)
      go_roundw
      case rel=>exact FIN.out
      case measure=>have:=hpos.out;simp[RowKit.intOf];omega
     ·have q6:IntKind.i64.wrap (1+n')=1+n':=q8 (by omega)
      obtain⟨W5,ja⟩:∃W5,W5=wr.setCell ⟨q+1,2,none⟩ (.int .i64 (1+n')):=⟨_,rfl⟩
      have hG5:W5.heap[q+1]? =some (.cells #[.int .i64 Y,.int .i64 m,.int .i64 (1+n')] 169 (0,0)):=by
       rw[ja,ai wr (q+1) 2 _ _ _ HG2.out,DF.out];rfl
      have hR5:W5.heap[q]? =some (.cells #[.int .i64 0,.int .i64 0,.int .i64 0] 169 (0,0)):=by
       rw[ja,Below.heap_setCell wr _ _ q (by show q≠q+1;omega)];exact HR2.out
      have TY:Hid (Below q w W5):=Lib.hid (by rw[ja];exact HB2.out.setCell (by show q<=q+1;omega) _)
      have HC:Hid (∃d:Nat,Ps.IsC n0 (2000+k) (j+1) d/\(d:Int)=1+n'):=Lib.hid (by
       obtain⟨e1,e2,e3,e4⟩:=TK.out
       have e5:=HM.out
       have e6:Ps.bQ Y (j+1)=Ps.bQ Y j+Ps.dim Y ((j:Int)+1):=rfl
       rw[<-DF.out,<-Mg.out]at e6
       have eY:Y=((2000+k:Nat):Int):=by rw[NA.out];omega
       have e7:=HS.out
       have e8:=HS2.out
       have e9:=HSU.out
       rw[Int.natCast_add_one]at e7
       rw[eY]at e5 e6
       obtain⟨_,_,hc⟩:=Ps.IsC.of (n:=n0) (p:=k) (q:=j) h0 hn' (by omega) (by omega) (by omega) (by omega)
       exact⟨_,hc,by omega⟩)
      clear Ni hm
      go_upto_region 12 with(go_at_call 203;refine(n2 _).mono ?_;rintro z w1 ⟨rfl,l6⟩;obtain rfl:=l6.symm;clear l6)
      rw[<-ja]
      clear ja
      refine wp_region_lit ?_
      refine jl rfl rfl rfl rfl (Ct W5 (q+1) Y m (1+n') hG5) ?_
      refine tV (w':=W5.setRow q #[.int .i64 Y,.int .i64 m,.int .i64 (1+n')]) rfl rfl (AA W5 q Y m (1+n') hR5 rfl rfl rfl) ?_
      refine aT ?_
      have PG:(W5.setRow q #[.int .i64 Y,.int .i64 m,.int .i64 (1+n')]).heap[q]? =some (.cells #[.int .i64 Y,.int .i64 m,.int .i64 (1+n')] 169 (0,0)):=setRow_heap W5 q _ _ _ _ hR5
      have MW:Hid (Below q w (W5.setRow q #[.int .i64 Y,.int .i64 m,.int .i64 (1+n')])):=Lib.hid (by
       have hb:=TY.out
       exact⟨hb.os,hb.tape,hb.output,by rw[setRow_size];exact hb.size,λg hg=>(setRow_other W5 q g _ (by omega)).trans (hb.block g hg)⟩)
      generalize W5.setRow q _=W6 at PG MW⊢
      obtain⟨d,hd1,hd2⟩:=HC.out
      have Ui:Y=((2000+k:Nat):Int):=by rw[NA.out];omega
      have hmm:m=((j+1:Nat):Int):=by rw[DF.out];omega
      have O1:Hid (Ps.IsC n0 (2000+k) (j+1) d/\Y=((2000+k:Nat):Int)/\m=((j+1:Nat):Int)/\(d:Int)=1+n'):=Lib.hid ⟨hd1,Ui,hmm,hd2⟩
      have HR6:=Lib.hid PG
      clear hd1 hd2 Ui hmm PG
      go_wp2_with fail
      try simp only[Exit.then,Exit.inBlock]
      refine bodyPost_ret (results_cell_row rfl _ _ q _ _ (0,0) _ rfl HR6.out Tryz.underlying169 rfl (by kernel_rfl)) rfl ?_
      obtain⟨f1,f2,f3,f4⟩:=O1.out
      exact⟨2000+k,j+1,d,f1,by rw[f2,f3,<-f4];rfl,by rw[<-HQ.out];exact MW.out⟩
   ·have hle:366<=n:=by omega
    have q1:IntKind.i64.wrap (n-366)=n-366:=q8 (by omega)
    have FIN:=Lib.hid (fin 366 (n-366) (Lib.hid ⟨rfl,by rw[hl];rfl⟩) hle)
    clear fin
    go_wp2_with (go_at_call 202;refine n1.mono ?_;rintro x w1 ⟨rfl,rfl⟩)
    go_roundw
    case rel=>exact FIN.out
    case measure=>simp[RowKit.intOf];omega
  |false=>
   rw[hl]at n1
   by_cases hlt:n<365
   ·have hx:Hid (n<365+(if Ps.kN Y=true then 1 else 0)):=Lib.hid (by rw[hl];simpa using hlt)
    clear fin
    go_wp2_with (go_at_call 202;refine n1.mono ?_;rintro x w1 ⟨rfl,rfl⟩)
    have TK:Hid (n0=n+Ps.aj k/\n<365+(if Ps.kN Y=true then 1 else 0)/\k<=199/\0<=n):=Lib.hid ⟨HN.out,hx.out,hk,hn0⟩
    clear hx n1 y0 f0 q3 hl hlt
    go_loopw [0] (λnv wr2=>∃j:Nat,∃n':Int,nv=.int .i64 n'/\j<=11/\Hid (n=n'+Ps.bQ Y j)/\0<=n'/\n'<=73048/\Hid (wr2.heap[q+1]? =some (.cells #[.int .i64 Y,.int .i64 ((j:Int)+1),.int .i64 1] 169 (0,0)))/\Hid (wr2.heap[q]? =some (.cells #[.int .i64 0,.int .i64 0,.int .i64 0] 169 (0,0)))/\Hid (Below q w wr2)) (λnv _=>(RowKit.intOf nv).toNat)
    case atStart=>exact⟨0,n,rfl,by omega,Lib.hid (by simp[Ps.bQ]),hn0,hn1,Lib.hid (by rw[HG.out,NA.out];rfl),HR,HB⟩
    case round=>
     obtain⟨j,n',rfl,hj,HM,hm0,hm1,HG2,HR2,HB2⟩:=hrel
     have z0:wr.cell? ⟨q+1,0,none⟩=some (.int .i64 Y):=by rw[cell_of_row _ _ _ _ _ _ HG2.out];rfl
     have z1':wr.cell? ⟨q+1,1,none⟩=some (.int .i64 ((j:Int)+1)):=by rw[cell_of_row _ _ _ _ _ _ HG2.out];rfl
     have z2:wr.cell? ⟨q+1,2,none⟩=some (.int .i64 1):=by rw[cell_of_row _ _ _ _ _ _ HG2.out];rfl
     have f1:wr.frozen? ⟨q+1,1,none⟩=false:=aV 1 HG2.out
     have f2:wr.frozen? ⟨q+1,2,none⟩=false:=aV 2 HG2.out
     obtain⟨m,hm⟩:∃m:Int,m=(j:Int)+1:=⟨_,rfl⟩
     rw[<-hm]at z1'
     have n2:=λw=>yH w Y m
     have Rm:=PK Y m
     obtain⟨dd,hdd⟩:∃dd:Int,dd=Ps.dim Y m:=⟨_,rfl⟩
     rw[<-hdd]at n2 Rm
     have DF:=Lib.hid hm
     have Mg:=Lib.hid hdd
     clear hdd
     have Ni:Hid (Ps.bQ Y 12=365+(if Ps.kN Y=true then 1 else 0)):=Lib.hid (by
      have e1:=Ps.jN k (by have:=TK.out.2.2.1;omega)
      have e2:=HS.out
      have e3:=HS2.out
      have e4:=HSU.out
      rw[<-NA.out]at e1
      rw[e1]
      rw[Int.natCast_add_one]at e2
      omega)
     by_cases hlt2:dd<=n'
     ·have q4:IntKind.i64.wrap (n'-dd)=n'-dd:=q8 (by omega)
      have q5:IntKind.i64.wrap (m+1)=m+1:=q8 (by omega)
      have FIN:Hid (∃j':Nat,∃n2:Int,Value.int .i64 (n'-dd)=.int .i64 n2/\j'<=11/\Hid (n=n2+Ps.bQ Y j')/\0<=n2/\n2<=73048/\Hid ((wr.setCell ⟨q+1,1,none⟩ (.int .i64 (m+1))).heap[q+1]? =some (.cells #[.int .i64 Y,.int .i64 ((j':Int)+1),.int .i64 1] 169 (0,0)))/\Hid ((wr.setCell ⟨q+1,1,none⟩ (.int .i64 (m+1))).heap[q]? =some (.cells #[.int .i64 0,.int .i64 0,.int .i64 0] 169 (0,0)))/\Hid (Below q w (wr.setCell ⟨q+1,1,none⟩ (.int .i64 (m+1))))):=Lib.hid (by
       have e1:=HM.out
       have e2:Ps.bQ Y (j+1)=Ps.bQ Y j+Ps.dim Y ((j:Int)+1):=rfl
       rw[<-DF.out,<-Mg.out]at e2
       have e3:=Ni.out
       have e4:=TK.out
       have hj2:j+1<=11:=by
        rcases Nat.lt_or_ge j 11 with h|h
        ·omega
        ·have hj9:j=11:=by omega
         subst hj9
         have:Ps.bQ Y (11+1)=Ps.bQ Y 12:=rfl
         omega
       refine⟨j+1,n'-dd,rfl,hj2,Lib.hid (by omega),by omega,by omega,Lib.hid ?_,Lib.hid ?_,Lib.hid (HB2.out.setCell (by show q<=q+1;omega) _)⟩
       ·rw[ai wr (q+1) 1 _ _ _ HG2.out,DF.out,Int.natCast_add_one]
        rfl
       ·rw[Below.heap_setCell wr _ _ q (by show q≠q+1;omega)];exact HR2.out)
      have hpos:Hid (0<dd):=Lib.hid (by
       have e1:=Mg.out
       have hYb:=NA.out
       have hkb:=TK.out.2.2.1
       unfold Ps.dim at e1
       rw[if_neg (by omega)]at e1
       split at e1
       ·split at e1<;>omega
       ·split at e1<;>omega)
      clear hm Ni
      go_wp2_with (go_at_call 203;refine(n2 _).mono ?_;rintro z w1 ⟨rfl,l6⟩;obtain rfl:=l6.symm;clear l6)
      go_roundw
      case rel=>exact FIN.out
      case measure=>have:=hpos.out;simp[RowKit.intOf];omega
     ·have q6:IntKind.i64.wrap (1+n')=1+n':=q8 (by omega)
      obtain⟨W5,ja⟩:∃W5,W5=wr.setCell ⟨q+1,2,none⟩ (.int .i64 (1+n')):=⟨_,rfl⟩
      have hG5:W5.heap[q+1]? =some (.cells #[.int .i64 Y,.int .i64 m,.int .i64 (1+n')] 169 (0,0)):=by
       rw[ja,ai wr (q+1) 2 _ _ _ HG2.out,DF.out];rfl
      have hR5:W5.heap[q]? =some (.cells #[.int .i64 0,.int .i64 0,.int .i64 0] 169 (0,0)):=by
       rw[ja,Below.heap_setCell wr _ _ q (by show q≠q+1;omega)];exact HR2.out
      have TY:Hid (Below q w W5):=Lib.hid (by rw[ja];exact HB2.out.setCell (by show q<=q+1;omega) _)
      have HC:Hid (∃d:Nat,Ps.IsC n0 (2000+k) (j+1) d/\(d:Int)=1+n'):=Lib.hid (by
       obtain⟨e1,e2,e3,e4⟩:=TK.out
       have e5:=HM.out
       have e6:Ps.bQ Y (j+1)=Ps.bQ Y j+Ps.dim Y ((j:Int)+1):=rfl
       rw[<-DF.out,<-Mg.out]at e6
       have eY:Y=((2000+k:Nat):Int):=by rw[NA.out];omega
       have e7:=HS.out
       have e8:=HS2.out
       have e9:=HSU.out
       rw[Int.natCast_add_one]at e7
       rw[eY]at e5 e6
       obtain⟨_,_,hc⟩:=Ps.IsC.of (n:=n0) (p:=k) (q:=j) h0 hn' (by omega) (by omega) (by omega) (by omega)
       exact⟨_,hc,by omega⟩)
      clear Ni hm
      go_upto_region 12 with(go_at_call 203;refine(n2 _).mono ?_;rintro z w1 ⟨rfl,l6⟩;obtain rfl:=l6.symm;clear l6)
      rw[<-ja]
      clear ja
      refine wp_region_lit ?_
      refine jl rfl rfl rfl rfl (Ct W5 (q+1) Y m (1+n') hG5) ?_
      refine tV (w':=W5.setRow q #[.int .i64 Y,.int .i64 m,.int .i64 (1+n')]) rfl rfl (AA W5 q Y m (1+n') hR5 rfl rfl rfl) ?_
      refine aT ?_
      have PG:(W5.setRow q #[.int .i64 Y,.int .i64 m,.int .i64 (1+n')]).heap[q]? =some (.cells #[.int .i64 Y,.int .i64 m,.int .i64 (1+n')] 169 (0,0)):=setRow_heap W5 q _ _ _ _ hR5
      have MW:Hid (Below q w (W5.setRow q #[.int .i64 Y,.int .i64 m,.int .i64 (1+n')])):=Lib.hid (by
       have hb:=TY.out
       exact⟨hb.os,hb.tape,hb.output,by rw[setRow_size];exact hb.size,λg hg=>(setRow_other W5 q g _ (by omega)).trans (hb.block g hg)⟩)
      generalize W5.setRow q _=W6 at PG MW⊢
      obtain⟨d,hd1,hd2⟩:=HC.out
      have Ui:Y=((2000+k:Nat):Int):=by rw[NA.out];omega
      have hmm:m=((j+1:Nat):Int):=by rw[DF.out];omega
      have O1:Hid (Ps.IsC n0 (2000+k) (j+1) d/\Y=((2000+k:Nat):Int)/\m=((j+1:Nat):Int)/\(d:Int)=1+n'):=Lib.hid ⟨hd1,Ui,hmm,hd2⟩
      have HR6:=Lib.hid PG
      clear hd1 hd2 Ui hmm PG
      go_wp2_with fail
      try simp only[Exit.then,Exit.inBlock]
      refine bodyPost_ret (results_cell_row rfl _ _ q _ _ (0,0) _ rfl HR6.out Tryz.underlying169 rfl (by kernel_rfl)) rfl ?_
      obtain⟨f1,f2,f3,f4⟩:=O1.out
      exact⟨2000+k,j+1,d,f1,by rw[f2,f3,<-f4];rfl,by rw[<-HQ.out];exact MW.out⟩
   ·have hle:365<=n:=by omega
    have q1:IntKind.i64.wrap (n-365)=n-365:=q8 (by omega)
    have FIN:=Lib.hid (fin 365 (n-365) (Lib.hid ⟨rfl,by rw[hl];rfl⟩) hle)
    clear fin
    go_wp2_with (go_at_call 202;refine n1.mono ?_;rintro x w1 ⟨rfl,rfl⟩)
    go_roundw
    case rel=>exact FIN.out
    case measure=>simp[RowKit.intOf];omega
end Go.Proofs.YtnjjeapcalkmaaaGreatDoor
namespace Go.Proofs.YtnjjeapcalkmaaaGreatDoor.Se
open Go Go.RowKit Go.Proofs.YtnjjeapcalkmaaaGreatDoor Go.Proofs.YtnjjeapcalkmaaaGreatDoor.Ord
def LW (cell:Nat->Nat->Value):PV->Value->World->Prop
 | .v x,y,_=>y=x
 | .s x,y,_=>y=.string (st x)
 | .sl l,y,w=>∃B,w.ownsRow B 9 1 y l.length ((l.map st).map .string)
 | .r k j,y,_=>y=cell k j
 | .a k j n,y,_=>y=.agg ((List.range n).map λi=>cell k (j+i)).toArray
 | .u c,y,_=>y=.int .u8 (c.toNat:Int)
 | .by_ l,y,w=>∃B,w.ownsRow B 5 1 y l.length (l.map λc=>.int .u8 (c.toNat:Int))
 |_,_,_=>False
def uI (cell:Nat->Nat->Value):List PV->List Value->World->Prop
 |[],[],_=>True
 |u::us,y::ys,w=>LW cell u y w/\uI cell us ys w
 |_,_,_=>False
def yN:PV->Bool
 | .p _ _=>false
 | .pe _=>false
 |_=>true
inductive Rv where
 |str (n:Nat) (x:ByteArray)
 |sls (xs:List SB)
 |val (x:Value)
 |bts (xs:List UInt8)
def Rv.pv:Rv->PV
 | .str n x=>.s (n,x)
 | .sls l=>.sl l
 | .val x=>.v x
 | .bts l=>.by_ l
def Rv.fits:Rv->Prop
 | .str n x=>x.size<=n
 |_=>True
def Rv.out:Rv->Value->World->World->Prop
 | .str _ x,y,_,_=>y=.string x
 | .sls l,y,w,w'=>w'.ownsRow w.heap.size 9 1 y l.length ((l.map st).map .string)
 | .val x,y,_,_=>y=x
 | .bts l,y,w,w'=>w'.ownsRow w.heap.size 5 1 y l.length (l.map λc=>.int .u8 (c.toNat:Int))
def Spec (cell:Nat->Nat->Value)(f:FuncId)(us:List PV)(r:Rv):Prop:=
 (∀args w,(callFunc f args).run Tryz.prog w=.ok (.enter f args) w)/\r.fits/\∀(vals:List Value) (w:World),uI cell us vals w->Calls Tryz.prog f vals.toArray w λe w'=>∃y,e=.returned y/\r.out y w w'/\Below w.heap.size w w'
def SpecC (cell:Nat->Nat->Value)(f:FuncId)(us:List PV)(l l2:List SB):Prop:=
 (∀args w,(callFunc f args).run Tryz.prog w=.ok (.enter f args) w)/\∀(vals:List Value) (y:Value) (w:World) (B:Nat),B<=w.heap.size->uI cell us vals w->w.ownsRow B 9 1 y l.length ((l.map st).map .string)->(∀g,y.ownBlock=some g->B<=g)->Calls Tryz.prog f (vals++[y]).toArray w λe w'=>∃z,e=.returned z/\w'.ownsRow B 9 1 z l2.length ((l2.map st).map .string)/\Below B w w'
theorem TT {M:Mem}{u:PV}{y:Value}{w:World}(ha:yN u=true)(h:Den M u y w):LW M.cell u y w:=by
 cases u with
 |sl l=>exact⟨M.B,by have:=h.1;rw[List.length_map]at this;exact this⟩
 |by_ l=>exact⟨M.B,h.1⟩
 |p k j=>cases ha
 |pe x=>cases ha
 |_=>exact h
theorem nH {M:Mem}{w:World}:∀{us:List PV} {ys:List Value},us.all yN=true->il M us ys w->uI M.cell us ys w
 |[],[],_,_=>trivial
 |[],_::_,_,h=>h
 |_::_,[],_,h=>h
 |u::us,y::ys,ha,h=>by
  rw[List.all_cons,Bool.and_eq_true]at ha
  exact⟨TT ha.1 h.1,nH ha.2 h.2⟩
def hook (cell:Nat->Nat->Value)(fixE:Bool)(res:FuncId->List PV->Option Rv)(resC:FuncId->List PV->List SB->Option (List SB))(f:FuncId)(us:List PV):Option (PV×Bool×Option Prop):=match res f us with
 |some r=>if us.all yN=true then some (r.pv,false,some (Spec cell f us r))else none
 |none=>match us.reverse with
  | .sl l::rest=>match resC f rest.reverse l with
    |some l2=>if (fixE&&rest.reverse.all yN)=true then some (.sl l2,true,some (SpecC cell f rest.reverse l l2))else none
    |none=>none
  |_=>none
theorem sV {M:Mem}{u:PV}{w:World}:∀{us:List PV} {vals:List Value},il M (us++[u]) vals w->∃vs y,vals=vs++[y]/\il M us vs w/\Den M u y w
 |[],vals,h=>by
  rcases vals with _|⟨v,_|⟨x,l⟩⟩
  ·exact h.elim
  ·exact⟨[],v,rfl,trivial,h.1⟩
  ·exact h.2.elim
 |x::us,vals,h=>by
  rcases vals with _|⟨v,l⟩
  ·exact h.elim
  ·obtain⟨vs,y,h1,h2,h3⟩:=sV h.2
   exact⟨v::vs,y,by rw[h1];rfl,⟨h.1,h2⟩,h3⟩
theorem Sm {M:Mem}(hM:Wf M){res:FuncId->List PV->Option Rv}{resC:FuncId->List PV->List SB->Option (List SB)}{fixE:Bool}(hfix:fixE=true->M.fix=[])(f:FuncId)(us:List PV)(u:PV)(c:Bool)(q:Option Prop)(h:hook M.cell fixE res resC f us=some (u,c,q))(hq:∀p,q=some p->p):
 (∀args w,(callFunc f args).run Tryz.prog w=.ok (.enter f args) w)/\∀(vals:List Value) w,Sw M w->il M us vals w->Calls Tryz.prog f vals.toArray w λe w'=>∃v,e=.returned v/\Den M u v w'/\Sw M w'/\(c=false->Below w.heap.size w w'):=by
 unfold hook at h
 split at h
 ·rename_i r hr
  split at h
  ·rename_i ha
   cases h
   obtain⟨h1,h2,h3⟩:=hq _ rfl
   refine⟨h1,λvals w hS hd=>(h3 vals w (nH ha hd)).mono ?_⟩
   rintro e w' ⟨y,rfl,ho,hb⟩
   have hB:M.B<=w.heap.size:=Nat.le_trans hM.B hS.size
   have hnew:∀{t:TypeId} {n:Nat} {xs:List Value},w'.ownsRow w.heap.size t 1 y n xs->∀g,y.ownBlock=some g->g∉M.fix:=λho g hg hf=>by
    rcases ho.2 with⟨hv,_⟩|⟨g',cap,cur,hv,hb',_⟩
    ·rw[hv]at hg;cases hg
    ·rw[hv]at hg
     have:g'=g:=by simpa[Value.ownBlock]using hg
     have:=hM.fix g hf
     have:=hS.size
     omega
   refine⟨y,rfl,?_,hS.below hM hb,λ_=>hb⟩
   cases r with
   |str n x=>
    show y=.string (st (n,x))
    rw[show st (n,x)=x from bW h2]
    exact ho
   |sls l=>
    have ho:w'.ownsRow w.heap.size 9 1 y l.length ((l.map st).map .string):=ho
    refine⟨?_,hnew ho⟩
    rw[List.length_map]
    exact dA ho hB
   |val x=>exact ho
   |bts l=>
    have ho:w'.ownsRow w.heap.size 5 1 y l.length (l.map λc=>.int .u8 (c.toNat:Int)):=ho
    exact⟨dA ho hB,hnew ho⟩
  ·cases h
 ·split at h
  ·rename_i l rest hrev
   split at h
   ·rename_i l2 hl2
    split at h
    ·rename_i hc
     cases h
     rw[Bool.and_eq_true]at hc
     have hfx:=hfix hc.1
     have Hd:us=rest.reverse++[.sl l]:=by
      have:=congrArg List.reverse hrev
      rw[List.reverse_reverse,List.reverse_cons]at this
      exact this
     obtain⟨h1,h2⟩:=hq _ rfl
     refine⟨h1,λvals w hS hd=>?_⟩
     rw[Hd]at hd
     obtain⟨vs,y,rfl,hd1,hd2⟩:=sV hd
     have hB:M.B<=w.heap.size:=Nat.le_trans hM.B hS.size
     have hy:=hd2.1
     rw[List.length_map]at hy
     refine(h2 vs y w M.B hB (nH hc.2 hd1) hy (λg hg=>?_)).mono ?_
     ·rcases hy.2 with⟨hv,_⟩|⟨g',cap,cur,hv,hb',_⟩
      ·rw[hv]at hg;cases hg
      ·rw[hv]at hg
       have:g'=g:=by simpa[Value.ownBlock]using hg
       omega
     ·rintro e w' ⟨z,rfl,ho,hb⟩
      refine⟨z,rfl,⟨?_,λg _ hf=>by rw[hfx]at hf;cases hf⟩,hS.turn hb (λg hf=>by rw[hfx]at hf;cases hf),λhc=>by cases hc⟩
      rw[List.length_map]
      exact ho
    ·cases h
   ·cases h
  ·cases h
def noC (_:FuncId)(_:List PV)(_:List SB):Option (List SB):=none
def seM (B:Nat)(W:World)(fix:List Nat)(b:Nat)(rows:List (Option (Nat×Nat)×List Value))(res:FuncId->List PV->Option Rv)(resC:FuncId->List PV->List SB->Option (List SB):=noC):Mem:=dh B W fix b rows (hook (Ev.aM rows) fix.isEmpty res resC)
theorem Av {B:Nat}{W:World}{fix:List Nat}{b:Nat}{rows:List (Option (Nat×Nat)×List Value)}{res:FuncId->List PV->Option Rv}{resC:FuncId->List PV->List SB->Option (List SB)}(hB:B<=W.heap.size)(hf:∀g∈fix,g<W.heap.size)
 (h2:∀(k g o:Nat) (l:List Value),rows[k]? =some (some (g,o),l)->(g<B\/g∈fix)/\∀w:World,w.heap[g]? =W.heap[g]?->∀(j:Nat) (v:Value),l[j]? =some v->w.cell? ⟨g,o+j,none⟩=some v)
 (hb:∀(k:Nat) (p:Nat×Nat) (l:List Value),rows[k]? =some (some p,l)->∀x,Value.string x∈l->x.size<=b):Ok Tryz.prog (seM B W fix b rows res resC):=
 ni hB hf h2 hb λf us u c q h hq=>Sm (M:=seM B W fix b rows res resC) ⟨hB,hf⟩ (λhx=>by show fix=[];simpa using hx) f us u c q h hq
theorem Oj {cell:Nat->Nat->Value}{u:PV}{vals:List Value}{w:World}(h:uI cell [u] vals w):∃v,vals=[v]/\LW cell u v w:=by
 rcases vals with _|⟨v,_|⟨x,l⟩⟩
 ·exact h.elim
 ·exact⟨v,rfl,h.1⟩
 ·exact h.2.elim
theorem Ov {cell:Nat->Nat->Value}{u u2:PV}{vals:List Value}{w:World}(h:uI cell [u,u2] vals w):∃v v2,vals=[v,v2]/\LW cell u v w/\LW cell u2 v2 w:=by
 rcases vals with _|⟨v,l⟩
 ·exact h.elim
 ·obtain⟨v2,rfl,h2⟩:=Oj h.2
  exact⟨v,v2,rfl,h.1,h2⟩
def eG (cell:Nat->Nat->Value):PV->Option Value
 | .v x=>some x
 | .r k j=>some (cell k j)
 | .s x=>some (.string (st x))
 | .a k j n=>some (.agg ((List.range n).map λi=>cell k (j+i)).toArray)
 |_=>none
theorem jQ {cell:Nat->Nat->Value}{u:PV}{x y:Value}{w:World}(hu:eG cell u=some x)(h:LW cell u y w):y=x:=by
 cases u<;>first|(cases hu;exact h)|cases hu
theorem Ox {cell:Nat->Nat->Value}{f:FuncId}{u u2:PV}{x x2:Value}{n:Nat}{b:ByteArray}(he:∀args w,(callFunc f args).run Tryz.prog w=.ok (.enter f args) w)(hu:eG cell u=some x)(hu2:eG cell u2=some x2)(h:∀w,gZ f #[x,x2] w b)(hn:b.size<=n):Spec cell f [u,u2] (.str n b):=⟨he,hn,λvals w hd=>by
 obtain⟨v,v2,rfl,hv,hv2⟩:=Ov hd
 obtain rfl:=jQ hu hv
 obtain rfl:=jQ hu2 hv2
 exact(h w).mono λe w' ⟨h1,h2⟩=>⟨_,h1,rfl,h2⟩⟩
end Go.Proofs.YtnjjeapcalkmaaaGreatDoor.Se
namespace Go.Proofs.YtnjjeapcalkmaaaGreatDoor
open Go Go.RowKit Go.Proofs.YtnjjeapcalkmaaaGreatDoor.Ord
open Go.Proofs.YtnjjeapcalkmaaaGreatDoor.Se
theorem lY:∀args w,(callFunc 133 args).run Tryz.prog w=.ok (.enter 133 args) w:=enters_of Tryz.func133 (by kernel_rfl) rfl
def CP (g:Nat)(y m d:Nat):List (Option (Nat×Nat)×List Value):=[(some (g,0),[.int .i64 (y:Int),.int .i64 (m:Int),.int .i64 (d:Int)])]
def f3Res (y m d:Nat)(f:FuncId)(us:List PV):Option Rv:=if f=133 then(match us with
 |[.r 0 0,.v (.int .i64 4)]=>some (.str 4 ⟨(Ps.d4 y).toArray⟩)
 |[.r 0 1,.v (.int .i64 2)]=>some (.str 2 ⟨(Ps.d2 m).toArray⟩)
 |[.r 0 2,.v (.int .i64 2)]=>some (.str 2 ⟨(Ps.d2 d).toArray⟩)
 |_=>none)else none
theorem row1 {W:World}{g B:Nat}{l:List Value}{t:TypeId}{fix:List Nat}(h:W.heap[g]? =some (.cells l.toArray t (0,0)))(hp:g<B\/g∈fix):∀(k g' o:Nat) (l':List Value),([(some (g,0),l)]:List (Option (Nat×Nat)×List Value))[k]? =some (some (g',o),l')->(g'<B\/g'∈fix)/\∀w:World,w.heap[g']? =W.heap[g']?->∀(j:Nat) (v:Value),l'[j]? =some v->w.cell? ⟨g',o+j,none⟩=some v:=λk g' o l' hk=>by
 rcases k with _|k
 ·cases hk;exact⟨hp,bv h⟩
 ·cases hk
theorem str1 {g b:Nat}{l:List Value}(h:∀x,Value.string x∈l->x.size<=b):∀(k:Nat) (p:Nat×Nat) (l':List Value),([(some (g,0),l)]:List (Option (Nat×Nat)×List Value))[k]? =some (some p,l')->∀x,Value.string x∈l'->x.size<=b:=λk p l' hk=>by
 rcases k with _|k
 ·cases hk;exact h
 ·cases hk
theorem LZ (n:Int)(h0:0<=n)(hn:n<=Ps.bP)(w:World):gZ 75 #[.int .i64 n] w (Ps.ae n):=by
 have n1:=rk3_to n h0 hn w
 unfold gZ
 clear h0 hn
 go_enter Tryz.func75,Tryz.ntmps75
 go_upto_region 2 with(go_at_call 132;refine n1.mono ?_;rintro e w1 ⟨y,m,d,hc,rfl,hb⟩;unfold UV)
 rename_i K hK
 have hc31:=hc.d31
 have hc2:=hc
 obtain⟨g,hg⟩:∃g,g=w1.heap.size:=⟨_,rfl⟩
 generalize hW:World.alloc _ _=W
 have hrow:W.heap[g]? =some (.cells #[.int .i64 (y:Int),.int .i64 (m:Int),.int .i64 (d:Int)] 169 (0,0)):=by rw[<-hW,hg];exact aC w1 _
 have HB:Below w.heap.size w W:=by rw[<-hW];exact hb.alloc hb.size _
 have hgW:g<W.heap.size:=(Array.getElem?_eq_some_iff.1 hrow).1
 rw[<-hg]
 clear hW hg n1
 refine gq λa ha hdf=>?_
 obtain⟨c1,c2,c3,c4,c5,c6,_⟩:=hc
 refine CZ (M:=seM W.heap.size W [] 0 (CP g y m d) (f3Res y m d)) (n:=19) (Av (Nat.le_refl _) (λ_ h=>by cases h) (row1 hrow (.inl hgW)) (str1 λx hx=>by simp at hx)) [2] (K:=[(3,.p 0 0)])
  (us:=[.s (Se.cat (Se.cat (Se.cat (Se.cat (4,⟨(Ps.d4 y).toArray⟩) (1,⟨#[45]⟩)) (2,⟨(Ps.d2 m).toArray⟩)) (1,⟨#[45]⟩)) (2,⟨(Ps.d2 d).toArray⟩))])
  (ps:=[Se.Spec (Ev.aM (CP g y m d)) 133 [.r 0 0,.v (.int .i64 4)] (.str 4 ⟨(Ps.d4 y).toArray⟩),Se.Spec (Ev.aM (CP g y m d)) 133 [.r 0 1,.v (.int .i64 2)] (.str 2 ⟨(Ps.d2 m).toArray⟩),Se.Spec (Ev.aM (CP g y m d)) 133 [.r 0 2,.v (.int .i64 2)] (.str 2 ⟨(Ps.d2 d).toArray⟩)])
  (by kernel_rfl) ⟨Ox lY rfl rfl (λw=>Fg y (by omega) w) (Nat.le_refl _),Ox lY rfl rfl (λw=>wL m (by omega) w) (Nat.le_refl _),Ox lY rfl rfl (λw=>wL d (by omega) w) (Nat.le_refl _),trivial⟩
  (aF (aZ (by rw[ha];rfl) hdf) (v:=.pointer (some ⟨g,0,none⟩)) (by rw[ha];rfl) rfl) (Sw.start _) ?_
 intro a w' _ hd hv hS
 refine hK _ _ (wp_ret ?_)
 try simp only[Exit.then,Exit.inBlock]
 refine jo rfl hd hv ⟨?_,HB.trans ((az rfl hS).mono HB.size)⟩
 rw[eO,eO,eO,eO,Ps.sG hc2,show st (4,(⟨(Ps.d4 y).toArray⟩:ByteArray))=_ from bW (Nat.le_refl 4),show st (2,(⟨(Ps.d2 m).toArray⟩:ByteArray))=_ from bW (Nat.le_refl 2),show st (2,(⟨(Ps.d2 d).toArray⟩:ByteArray))=_ from bW (Nat.le_refl 2),show st (1,(⟨#[45]⟩:ByteArray))=_ from bW (Nat.le_refl 1)]
 rfl
open Go.RowKit
open Go.Proofs.YtnjjeapcalkmaaaGreatDoor.Ord
theorem GV (w:World)(n lo hi:Int)(b1 b2:Bool)(h1:decide (lo<=n)=b1)(h2:decide (n<=hi)=b2):
 Calls Tryz.prog 79 #[.int .i64 n,.int .i64 lo,.int .i64 hi] w λe w'=>e=.returned (.bool (b1&&b2))/\w=w':=by
 cases b1
 all_goals cases b2
 all_goals simp only[decide_eq_true_eq,decide_eq_false_iff_not]at h1 h2
 all_goals
  go_enter Tryz.func79,Tryz.ntmps79
  go_wp2_with fail
  go_ret
  exact⟨rfl,rfl⟩
theorem Au (w:World)(n lo hi:Int)(b1 b2:Bool)(h1:decide (lo<=n)=b1)(h2:decide (n<=hi)=b2):
 Calls Tryz.prog 142 #[.int .i64 n,.int .i64 lo,.int .i64 hi] w λe w'=>e=.returned (.bool (b1&&b2))/\w=w':=by
 cases b1
 all_goals cases b2
 all_goals simp only[decide_eq_true_eq,decide_eq_false_iff_not]at h1 h2
 all_goals
  go_enter Tryz.func142,Tryz.ntmps142
  go_wp2_with fail
  go_ret
  exact⟨rfl,rfl⟩
def inB (n lo hi:Int):Bool:=decide (lo<=n)&&decide (n<=hi)
theorem Ji (w:World)(n lo hi:Int):Calls Tryz.prog 79 #[.int .i64 n,.int .i64 lo,.int .i64 hi] w λe w'=>e=.returned (.bool (inB n lo hi))/\w=w':=GV w n lo hi _ _ rfl rfl
theorem uL (w:World)(n lo hi:Int):Calls Tryz.prog 142 #[.int .i64 n,.int .i64 lo,.int .i64 hi] w λe w'=>e=.returned (.bool (inB n lo hi))/\w=w':=Au w n lo hi _ _ rfl rfl
theorem FT (w:World)(n lo hi:Int):Calls Tryz.prog 79 #[.int .i64 n,.int .i64 lo,.int .i64 hi] w λe w'=>e=.returned (.bool (inB n lo hi))/\Below w.heap.size w w':=(Ji w n lo hi).mono λ_e _w' ⟨h1,h2⟩=>⟨h1,h2▸Below.refl _ _⟩
theorem Ak (w:World)(n lo hi:Int):Calls Tryz.prog 142 #[.int .i64 n,.int .i64 lo,.int .i64 hi] w λe w'=>e=.returned (.bool (inB n lo hi))/\Below w.heap.size w w':=(uL w n lo hi).mono λ_e _w' ⟨h1,h2⟩=>⟨h1,h2▸Below.refl _ _⟩
theorem MF (w:World)(b:Bool)(n:Int):Calls Tryz.prog 136 #[.agg #[.bool b,.int .i64 n]] w λe w'=>e=.returned (.bool b)/\Below w.heap.size w w':=by
 go_enter Tryz.func136,Tryz.ntmps136
 go_wp2_with fail
 go_ret
 exact⟨rfl,(Below.refl _ _).alloc (Nat.le_refl _) _⟩
def dV (rs:List (Bool×Int)):List Value:=rs.flatMap λx=>[.bool x.1,.int .i64 x.2]
def af:List (Bool×Int)->Int
 |[]=>0
 |x::rs=>if x.1=true then x.2 else af rs
theorem I5:∀(rs:List (Bool×Int)) (j:Nat) (x:Bool×Int),rs[j]? =some x->(dV rs)[j*2]? =some (.bool x.1)/\(dV rs)[j*2+1]? =some (.int .i64 x.2)
 |[],j,x,h=>by simp at h
 |y::rs,0,x,h=>by
  obtain rfl:y=x:=by simpa using h
  exact⟨rfl,rfl⟩
 |y::rs,j+1,x,h=>by
  have ih:=I5 rs j x (by simpa using h)
  rw[show(j+1)*2=j*2+1+1 from by omega]
  exact ih
theorem Cg (W:World)(g cap:Nat)(rs:List (Bool×Int))(t:TypeId)(hrow:W.heap[g]? =some (.cells (dV rs).toArray t (0,0)))(_hc:rs.length<=cap)(hl:rs.length<=1000)(m:Nat)(hm:m<=rs.length)(hlow:Hid (∀j x,j<m->rs[j]? =some x->x.1=false))
 (v:Int) (hv:Hid ((m<rs.length->(∃e,rs[m]? =some (true,e))/\v=(m:Int))/\(m=rs.length->v= -1))):
 Calls Tryz.prog 135 #[.slice (some ⟨g,0,none⟩) rs.length cap,.func (.func 136) #[] #[]] W λe W'=>e=.returned (.int .i64 v)/\Below W.heap.size W W':=by
 have eg:=enters_of Tryz.func136 (by kernel_rfl) rfl
 have HR:=Lib.hid hrow
 clear hrow
 go_enter Tryz.func135,Tryz.ntmps135
 go_wp2_with fail
 go_loopw [5,8] (λ_ iv wr=>∃j:Nat,iv=.int .i64 j/\j<=m/\Hid (Below W.heap.size W wr)) (λ_ iv _=>2000-(RowKit.intOf iv).toNat)
 case atStart=>exact⟨0,rfl,Nat.zero_le _,Lib.hid (Below.refl _ _)⟩
 case round=>
  obtain⟨j,rfl,hj,HB⟩:=hrel
  by_cases hlt:j<rs.length
  ·obtain⟨x,hx⟩:∃x,rs[j]? =some x:=⟨_,List.getElem?_eq_getElem hlt⟩
   obtain⟨b,n⟩:=x
   have hr2:wr.heap[g]? =some (.cells (dV rs).toArray t (0,0)):=(HB.out.block g (Array.getElem?_eq_some_iff.1 HR.out).1).trans HR.out
   have y0:wr.cell? ⟨g,j*2,none⟩=some (.bool b):=by rw[cell_of_row _ _ _ _ _ _ hr2,List.getElem?_toArray];exact(I5 rs j _ hx).1
   have y1:wr.cell? ⟨g,j*2+1,none⟩=some (.int .i64 n):=by rw[cell_of_row _ _ _ _ _ _ hr2,List.getElem?_toArray];exact(I5 rs j _ hx).2
   have tZ:(j:Int)<(rs.length:Int):=by omega
   have m1:=MF wr b n
   clear hr2
   by_cases hjm:j<m
   ·have hbf:=hlow.out j _ hjm hx
    simp only at hbf
    subst hbf
    have hw1:wrap64 ((j:Int)+1)=((j+1:Nat):Int):=by unfold wrap64;omega
    clear hx hlow hv
    go_wp2_with ((first|go_at_fn 136|go_at_call 136);refine m1.mono ?_;rintro e w1 ⟨rfl,hb⟩;have HB2:=Lib.hid (HB.out.trans (hb.mono HB.out.size));clear hb)
    refine⟨⟨j+1,by first|rfl|go_num,by omega,HB2⟩,by simp[RowKit.intOf]<;>omega⟩
   ·obtain rfl:j=m:=by omega
    obtain⟨⟨e0,he0⟩,hve⟩:=hv.out.1 hlt
    rw[hx]at he0
    cases he0
    subst hve
    clear hx hlow hv
    go_wp2_with ((first|go_at_fn 136|go_at_call 136);refine m1.mono ?_;rintro e w1 ⟨rfl,hb⟩;have HB2:=Lib.hid (HB.out.trans (hb.mono HB.out.size));clear hb)
    go_ret
    exact⟨rfl,HB2.out⟩
  ·have hje:j=rs.length:=by omega
   have hve:=hv.out.2 (by omega)
   subst hve
   have tZ:¬(j:Int)<(rs.length:Int):=by omega
   clear hlow hv
   go_wp2_with fail
   go_ret
   exact⟨rfl,HB.out⟩
theorem Ee (W:World)(g cap k m:Nat)(n:Int)(_hm:m<k)(hmI:(m:Int)<(k:Int))(_hc:k<=cap)(_hl:k<=1000)
 (n1:Calls Tryz.prog 135 #[.slice (some ⟨g,0,none⟩) k cap,.func (.func 136) #[] #[]] W λe W'=>e=.returned (.int .i64 m)/\W'.cell? ⟨g,m*2+1,none⟩=some (.int .i64 n)/\Below W.heap.size W W'):
 Calls Tryz.prog 78 #[.slice (some ⟨g,0,none⟩) k cap] W λe W'=>e=.returned (.int .i64 n)/\Below W.heap.size W W':=by
 go_enter Tryz.func78,Tryz.ntmps78
 go_wp2_with fail
 refine n1.mono ?_
 rintro e w ⟨rfl,hc2,hb⟩
 have HB:=Lib.hid hb
 clear n1 hb
 go_wp2_with fail
 go_ret
 exact⟨rfl,HB.out⟩
theorem FD (W:World)(v:Value)
 (n1:Calls Tryz.prog 135 #[v,.func (.func 136) #[] #[]] W λe W'=>e=.returned (.int .i64 (-1))/\Below W.heap.size W W'):
 Calls Tryz.prog 78 #[v] W λe W'=>e=.returned (.int .i64 0)/\Below W.heap.size W W':=by
 go_enter Tryz.func78,Tryz.ntmps78
 go_wp2_with fail
 refine n1.mono ?_
 rintro e w ⟨rfl,hb⟩
 have HB:=Lib.hid hb
 clear n1 hb
 go_wp2_with fail
 go_ret
 exact⟨rfl,HB.out⟩
theorem qh:∀rs:List (Bool×Int),∃m,m<=rs.length/\(∀(j:Nat) (x:Bool×Int),j<m->rs[j]? =some x->x.1=false)/\((m<rs.length/\∃e,rs[m]? =some (true,e)/\af rs=e)\/(m=rs.length/\af rs=0))
 |[]=>⟨0,Nat.le_refl _,λj x h=>by omega,.inr ⟨rfl,rfl⟩⟩
 |(b,n)::rs=>by
  cases b with
  |true=>exact⟨0,Nat.zero_le _,λj x h=>by omega,.inl ⟨by simp,n,rfl,rfl⟩⟩
  |false=>
   obtain⟨m,h1,h2,h3⟩:=qh rs
   refine⟨m+1,by simpa using h1,λj x hj hx=>?_,?_⟩
   ·cases j with
    |zero=>simp at hx;rw[<-hx]
    |succ j=>exact h2 j x (by omega) (by simpa using hx)
   ·rcases h3 with⟨h4,e,h5,h6⟩|⟨h4,h5⟩
    ·exact .inl ⟨by simpa using h4,e,by simpa using h5,by simpa[af]using h6⟩
    ·exact .inr ⟨by simpa using h4,by simpa[af]using h5⟩
theorem Mr (W:World)(g cap:Nat)(rs:List (Bool×Int))(t:TypeId)(hrow:W.heap[g]? =some (.cells (dV rs).toArray t (0,0)))(hc:rs.length<=cap)(hl:rs.length<=1000):
 Calls Tryz.prog 78 #[.slice (some ⟨g,0,none⟩) rs.length cap] W λe W'=>e=.returned (.int .i64 (af rs))/\Below W.heap.size W W':=by
 obtain⟨m,h1,h2,h3⟩:=qh rs
 rcases h3 with⟨h4,e,h5,h6⟩|⟨h4,h5⟩
 ·rw[h6]
  refine Ee W g cap rs.length m e h4 (by omega) hc hl ((Cg W g cap rs t hrow hc hl m h1 (Lib.hid h2) m (Lib.hid ⟨λ_=>⟨⟨e,h5⟩,rfl⟩,λh=>by omega⟩)).mono ?_)
  rintro x w ⟨rfl,hb⟩
  have hr2:w.heap[g]? =some (.cells (dV rs).toArray t (0,0)):=(hb.block g (Array.getElem?_eq_some_iff.1 hrow).1).trans hrow
  exact⟨rfl,by rw[cell_of_row _ _ _ _ _ _ hr2,List.getElem?_toArray];exact(I5 rs m _ h5).2,hb⟩
 ·rw[h5]
  exact FD W _ (Cg W g cap rs t hrow hc hl m h1 (Lib.hid h2) (-1) (Lib.hid ⟨λh=>by omega,λ_=>rfl⟩))
theorem ent57:∀args w,(callFunc 79 args).run Tryz.prog w=.ok (.enter 79 args) w:=enters_of Tryz.func79 (by kernel_rfl) rfl
theorem Dh:∀args w,(callFunc 80 args).run Tryz.prog w=.ok (.enter 80 args) w:=enters_of Tryz.func80 (by kernel_rfl) rfl
theorem ent108:∀args w,(callFunc 141 args).run Tryz.prog w=.ok (.enter 141 args) w:=enters_of Tryz.func141 (by kernel_rfl) rfl
theorem ent101:∀args w,(callFunc 83 args).run Tryz.prog w=.ok (.enter 83 args) w:=enters_of Tryz.func83 (by kernel_rfl) rfl
theorem ent105:∀args w,(callFunc 138 args).run Tryz.prog w=.ok (.enter 138 args) w:=enters_of Tryz.func138 (by kernel_rfl) rfl
theorem ent106:∀args w,(callFunc 139 args).run Tryz.prog w=.ok (.enter 139 args) w:=enters_of Tryz.func139 (by kernel_rfl) rfl
theorem ent107:∀args w,(callFunc 140 args).run Tryz.prog w=.ok (.enter 140 args) w:=enters_of Tryz.func140 (by kernel_rfl) rfl
theorem ent109:∀args w,(callFunc 142 args).run Tryz.prog w=.ok (.enter 142 args) w:=enters_of Tryz.func142 (by kernel_rfl) rfl
theorem ent110:∀args w,(callFunc 143 args).run Tryz.prog w=.ok (.enter 143 args) w:=enters_of Tryz.func143 (by kernel_rfl) rfl
theorem ent111:∀args w,(callFunc 144 args).run Tryz.prog w=.ok (.enter 144 args) w:=enters_of Tryz.func144 (by kernel_rfl) rfl
theorem bd27 (ρ:Operand->Value)(w:World):(Instr.build 35 ((#[]:Array (Nat×Operand)).map λ(i,x)=>(i,ρ x))).run Tryz.prog w=.ok (.agg (aG {}).toArray) w:=by
 go_simp
 rfl
theorem bd25 (ρ:Operand->Value)(w:World):(Instr.build 34 ((#[]:Array (Nat×Operand)).map λ(i,x)=>(i,ρ x))).run Tryz.prog w=.ok (.agg (aA {} (.slice none 0 0)).toArray) w:=by
 go_simp
 rfl
theorem ne27 (A:Ps.Amd)(x y:Operand)(w:World):(do eqGuard .neq 35 x y (.agg (aG A).toArray) (.agg (aG {}).toArray);binOp .neq 35 (.agg (aG A).toArray) (.agg (aG {}).toArray):Sem Value).run Tryz.prog w=.ok (.bool (!decide A.none)) w:=by
 unfold aG
 go_simp
 repeat' split
 all_goals simp_all [Ps.Amd.none]
theorem NE {dr:Bool}{ops:Array Oper}{id:Nat}{a:Act}{w W0:World}{Q:Exit->Act->World->Prop}(n:Nat)(vs:List Value)(hvl:vs.length=n)(hd:eU ops=true)(hs:Region.noSelect ops=true)(hb:bZ ops a.tmps.size=true)(ht:sK ops n=true)(hS:Below W0.heap.size W0 w)
 (hY:∀ρ:Operand->Value,cO ρ (ops.toList.take n) vs->(∀t:Nat,(∀o:Oper,o∈ops.toList->o.dst≠some t)->ρ (.tmp t)=a.eval (.tmp t))->(∀v,ρ (.const v)=v)->(∀f,ρ (.func f)=.func (.func f) #[] #[])->ji Tryz.prog (Below W0.heap.size W0) ρ vs (ops.toList.take n) vs)
 (rs:List (Bool×Int)) (hrs:rs.length<=1000) {x1 x2 x3:Oper} {k d1 d2 d3:Nat} {parts:Array (Nat×Operand)} {ts:Array TypeId} (hsz:ops.size=n+3)
 (h1:ops[n]? =some x1) (h1o:x1.op=.buildSlice 172 k parts) (h1d:x1.dst=some d1) (h1g:x1.guard=none)
 (h2:ops[n+1]? =some x2) (h2o:x2.op=.call {callee:=.value (.func 78),args:=#[.tmp d1],argTypes:=ts}) (FL:x2.dst=some d2) (h2g:x2.guard=none)
 (h3:ops[n+2]? =some x3) (h3o:x3.op=.assign (.tmp d2)) (Qp:x3.dst=some d3) (h3g:x3.guard=none) (hlt:d1<a.tmps.size/\d2<a.tmps.size/\d3<a.tmps.size)
 (t:TypeId) (hbuild:∀ρ:Operand->Value,cO ρ (ops.toList.take n) vs->∀w:World,(Instr.buildSlice 172 k (parts.map λ(i,x)=>(i,ρ x))).run Tryz.prog w=.ok (.slice (some ⟨w.heap.size,0,none⟩) rs.length rs.length) (w.alloc (.cells (dV rs).toArray t)))
 (hend:∀(b:Act) (w':World),Below W0.heap.size W0 w'->b.defers=a.defers->b.tmps.size=a.tmps.size->b.tmps[d3]? =some (.int .i64 (af rs))->(∀t:Nat,(∀o:Oper,o∈ops.toList->o.dst≠some t)->b.tmps[t]? =a.tmps[t]?)->Q .normal b w'):
 (Code.region id ops dr).wp Tryz.prog Q a w:=by
 suffices key:∀(b:Act) (w1:World),Below W0.heap.size W0 w1->b.defers=a.defers->b.tmps.size=a.tmps.size->cO b.eval (ops.toList.take n) vs->(∀t:Nat,(∀o:Oper,o∈ops.toList->o.dst≠some t)->b.tmps[t]? =a.tmps[t]?)->wpOps Tryz.prog ops Q (List.range' n (ops.size-n)) b w1 by
  cases dr
  ·exact iP (Below W0.heap.size W0) n vs hvl (by omega) hd hs hb hS hY key
  ·exact xh (Below W0.heap.size W0) n vs hvl (by omega) rfl hd hs hb ht hS.drew hY key
 intro b w1 hS1 hbd hbs hD hrest
 rw[show List.range' n (ops.size-n)=[n,n+1,n+2]from by rw[hsz,show n+3-n=3 from by omega];rfl]
 refine ku h1 h1g ?_
 unfold Oper.wp execOp
 rw[h1o]
 simp only[Sem.run_bind,hbuild b.eval hD w1,Result.andThen_ok]
 show wpOps _ ops Q _ (b.put x1.dst _) _
 refine ku h2 h2g ?_
 have hrow:(w1.alloc (.cells (dV rs).toArray t)).heap[w1.heap.size]? =some (.cells (dV rs).toArray t (0,0)):=by unfold World.alloc;simp
 have hS2:Below W0.heap.size W0 (w1.alloc (.cells (dV rs).toArray t)):=hS1.alloc hS1.size _
 obtain⟨w2,hw2⟩:∃w2,w2=w1.alloc (.cells (dV rs).toArray t):=⟨_,rfl⟩
 rw[<-hw2]at hrow hS2⊢
 have hc:=Mr w2 w1.heap.size rs.length rs t hrow (Nat.le_refl _) hrs
 have hargs:(#[Operand.tmp d1]:Array Operand).map (b.put x1.dst (.slice (some ⟨w1.heap.size,0,none⟩) rs.length rs.length)).eval=#[.slice (some ⟨w1.heap.size,0,none⟩) rs.length rs.length]:=by
  rw[h1d]
  simp only[List.map_toArray,List.map_cons,List.map_nil]
  rw[eval_put (by omega)]
 have hf:(b.put x1.dst (.slice (some ⟨w1.heap.size,0,none⟩) rs.length rs.length)).eval (Operand.func 78)=.func (.func 78) #[] #[]:=rfl
 unfold Oper.wp
 simp[execOp,h2o,resolve,invoke,hf,hargs,Deferred.ofValue]
 rw[Oper.upon_enter]
 refine hc.mono ?_
 rintro e w3 ⟨rfl,hb3⟩
 refine ku h3 h3g ?_
 unfold Oper.wp execOp
 rw[h3o]
 show wpOps _ ops Q _ (Act.put _ x3.dst _) _
 rw[h1d,FL,Qp,eval_put (by simp[Act.put];omega)]
 refine hend _ _ (hS2.trans (hb3.mono hS2.size)) hbd ?_ ?_ ?_
 ·simp[Act.put,hbs]
 ·simp[Act.put,hbs,hlt.2.2]
 ·intro t ht
  have n1:d1≠t:=λh=>ht x1 (by simpa using Array.mem_of_getElem? h1) (by rw[h1d,h])
  have n2:d2≠t:=λh=>ht x2 (by simpa using Array.mem_of_getElem? h2) (by rw[FL,h])
  have n3:d3≠t:=λh=>ht x3 (by simpa using Array.mem_of_getElem? h3) (by rw[Qp,h])
  rw[<-hrest t ht]
  simp[Act.put,n1,n2,n3]
def nO (w:World)(g:Nat)(ks:List Ps.Link):Prop:=∀(j:Nat) (x:Ps.Link),ks[j]? =some x->w.cell? ⟨g,j*2,none⟩=some (.int .i64 x.type)/\w.cell? ⟨g,j*2+1,none⟩=some (.string x.ref)
theorem nO.below {w w':World}{g:Nat}{ks:List Ps.Link}(h:nO w g ks)(hb:Below w.heap.size w w'):nO w' g ks:=λj x hj=>by
 obtain⟨h1,h2⟩:=h j x hj
 exact⟨(hb.cell (World.block_lt_of_cell? w _ h1)).trans h1,(hb.cell (World.block_lt_of_cell? w _ h2)).trans h2⟩
theorem Q9 (w:World)(ty:Int)(s r:ByteArray)(h:Nat)(hc:w.cell? ⟨h,1,none⟩=some (.string r)):
 Calls Tryz.prog 145 #[.agg #[.int .i64 ty,.string s],.pointer (some ⟨h,0,none⟩)] w λe w'=>e=.returned (.bool (s.toList==r.toList))/\Below w.heap.size w w':=by
 have hlt:=World.block_lt_of_cell? w _ hc
 have hne:¬h=w.heap.size:=by simp at hlt;omega
 have k1:(w.alloc (.cells #[.int .i64 ty,.string s] 129)).cell? ⟨h,1,none⟩=some (.string r):=((((Below.refl _ _).alloc (Nat.le_refl _) _:Below w.heap.size w _)).cell hlt).trans hc
 go_enter Tryz.func145,Tryz.ntmps145
 go_wp2_with fail
 go_ret
 exact⟨rfl,(Below.refl _ _).alloc (Nat.le_refl _) _⟩
theorem EQ (W:World)(g h cap n:Nat)(ks:List Ps.Link)(r:ByteArray)(hrow:nO W g ks)(hn:n<=ks.length)(_hc:n<=cap)(hl:n<=1000)(hr:W.cell? ⟨h,1,none⟩=some (.string r))(m:Nat)(hm:m<=n)(hlow:Hid (∀j x,j<m->ks[j]? =some x->(x.ref.toList==r.toList)=false))
 (v:Int) (hv:Hid ((m<n->(∃x,ks[m]? =some x/\(x.ref.toList==r.toList)=true)/\v=(m:Int))/\(m=n->v= -1))):
 Calls Tryz.prog 206 #[.slice (some ⟨g,0,none⟩) n cap,.func (.func 145) #[] #[.pointer (some ⟨h,0,none⟩)]] W λe W'=>e=.returned (.int .i64 v)/\Below W.heap.size W W':=by
 have eg:=enters_of Tryz.func145 (by kernel_rfl) rfl
 have HR:=Lib.hid hrow
 have HC:=Lib.hid hr
 clear hrow hr
 go_enter Tryz.func206,Tryz.ntmps206
 go_wp2_with fail
 go_loopw [5,8] (λ_ iv wr=>∃j:Nat,iv=.int .i64 j/\j<=m/\Hid (Below W.heap.size W wr)) (λ_ iv _=>2000-(RowKit.intOf iv).toNat)
 case atStart=>exact⟨0,rfl,Nat.zero_le _,Lib.hid (Below.refl _ _)⟩
 case round=>
  obtain⟨j,rfl,hj,HB⟩:=hrel
  by_cases hlt:j<n
  ·obtain⟨x,hx⟩:∃x,ks[j]? =some x:=⟨_,List.getElem?_eq_getElem (by omega)⟩
   obtain⟨y0,y1⟩:=(HR.out.below HB.out) j x hx
   have tZ:(j:Int)<(n:Int):=by omega
   have m1:=Q9 wr x.type x.ref r h ((HB.out.cell (World.block_lt_of_cell? W _ HC.out)).trans HC.out)
   by_cases hjm:j<m
   ·have hbf:=hlow.out j _ hjm hx
    rw[hbf]at m1
    have hw1:wrap64 ((j:Int)+1)=((j+1:Nat):Int):=by unfold wrap64;omega
    clear hx hlow hv hbf
    go_wp2_with ((first|go_at_fn 145|go_at_call 145);refine m1.mono ?_;rintro e w1 ⟨rfl,hb⟩;have HB2:=Lib.hid (HB.out.trans (hb.mono HB.out.size));clear hb)
    refine⟨⟨j+1,by first|rfl|go_num,by omega,HB2⟩,by simp[RowKit.intOf]<;>omega⟩
   ·obtain rfl:j=m:=by omega
    obtain⟨⟨x0,hx0,hbt⟩,hve⟩:=hv.out.1 hlt
    rw[hx]at hx0
    cases hx0
    rw[hbt]at m1
    subst hve
    clear hx hlow hv hbt
    go_wp2_with ((first|go_at_fn 145|go_at_call 145);refine m1.mono ?_;rintro e w1 ⟨rfl,hb⟩;have HB2:=Lib.hid (HB.out.trans (hb.mono HB.out.size));clear hb)
    go_ret
    exact⟨rfl,HB2.out⟩
  ·have hje:j=n:=by omega
   have hve:=hv.out.2 (by omega)
   subst hve
   have tZ:¬(j:Int)<(n:Int):=by omega
   clear hlow hv
   go_wp2_with fail
   go_ret
   exact⟨rfl,HB.out⟩
def jB (ks:List Ps.Link)(r:ByteArray):Bool:=ks.any λy=>y.ref.toList==r.toList
theorem qX:∀(ks:List Ps.Link) (r:ByteArray),∃m,m<=ks.length/\(∀(j:Nat) (x:Ps.Link),j<m->ks[j]? =some x->(x.ref.toList==r.toList)=false)/\((m<ks.length/\(∃x,ks[m]? =some x/\(x.ref.toList==r.toList)=true)/\jB ks r=true)\/(m=ks.length/\jB ks r=false))
 |[],r=>⟨0,Nat.le_refl _,λj x h=>by omega,.inr ⟨rfl,rfl⟩⟩
 |y::ks,r=>by
  cases hb:(y.ref.toList==r.toList)with
  |true=>exact⟨0,Nat.zero_le _,λj x h=>by omega,.inl ⟨by simp,⟨y,rfl,hb⟩,by unfold jB;rw[List.any_cons,hb];rfl⟩⟩
  |false=>
   obtain⟨m,h1,h2,h3⟩:=qX ks r
   have he:jB (y::ks) r=jB ks r:=by unfold jB;rw[List.any_cons,hb];rfl
   refine⟨m+1,by simpa using h1,λj x hj hx=>?_,?_⟩
   ·cases j with
    |zero=>simp at hx;rw[<-hx];exact hb
    |succ j=>exact h2 j x (by omega) (by simpa using hx)
   ·rw[he]
    rcases h3 with⟨h4,⟨x,h5,h6⟩,h7⟩|⟨h4,h5⟩
    ·exact .inl ⟨by simpa using h4,⟨x,by simpa using h5,h6⟩,h7⟩
    ·exact .inr ⟨by simpa using h4,h5⟩
theorem qb (W:World)(a b:Value)(v:Int)(c:Bool)(hc:decide (0<=v)=c)
 (n1:Calls Tryz.prog 206 #[a,b] W λe W'=>e=.returned (.int .i64 v)/\Below W.heap.size W W'):
 Calls Tryz.prog 144 #[a,b] W λe W'=>e=.returned (.bool c)/\Below W.heap.size W W':=by
 go_enter Tryz.func144,Tryz.ntmps144
 go_wp2_with fail
 refine n1.mono ?_
 rintro e w ⟨rfl,hb⟩
 have HB:=Lib.hid hb
 clear n1 hb
 go_wp2_with fail
 go_ret
 exact⟨by simp[<-hc],HB.out⟩
theorem Cz (W:World)(g h cap:Nat)(ks:List Ps.Link)(r:ByteArray)(k:Nat)(hrow:nO W g ks)(hk:k<=ks.length)(hc:k<=cap)(hl:k<=1000)(hr:W.cell? ⟨h,1,none⟩=some (.string r)):
 Calls Tryz.prog 144 #[.slice (some ⟨g,0,none⟩) k cap,.func (.func 145) #[] #[.pointer (some ⟨h,0,none⟩)]] W λe W'=>e=.returned (.bool (jB (ks.take k) r))/\Below W.heap.size W W':=by
 obtain⟨m,h1,h2,h3⟩:=qX (ks.take k) r
 have hlen:(ks.take k).length=k:=by rw[List.length_take];omega
 rw[hlen]at h1 h3
 have hlow:∀j x,j<m->ks[j]? =some x->(x.ref.toList==r.toList)=false:=λj x hj hx=>h2 j x hj (by rw[List.getElem?_take,if_pos (by omega)];exact hx)
 rcases h3 with⟨h4,⟨x,h5,h6⟩,h7⟩|⟨h4,h5⟩
 ·rw[h7]
  have h5':ks[m]? =some x:=by rw[List.getElem?_take,if_pos h4]at h5;exact h5
  exact qb W _ _ (m:Int) true (by simp) (EQ W g h cap k ks r hrow hk hc hl hr m h1 (Lib.hid hlow) m (Lib.hid ⟨λ_=>⟨⟨x,h5',h6⟩,rfl⟩,λh=>by omega⟩))
 ·rw[h5]
  exact qb W _ _ (-1) false (by decide) (EQ W g h cap k ks r hrow hk hc hl hr m h1 (Lib.hid hlow) (-1) (Lib.hid ⟨λh=>by omega,λ_=>rfl⟩))
theorem xS (cl:List (Nat×(Int->Bool)))(hcl:PD cl)(g cap:Nat)(a:Int)(s:ByteArray)(w:World)(hn:cl.length<=1024)(_ha0:0<=a)(_ha1:a<=64)
 (hc:∀(k:Nat) x,cl[k]? =some x->w.cell? ⟨g,k,none⟩=some (.func (.func x.1) #[] #[])):
 Calls Tryz.prog 204 #[.slice (some ⟨g,0,none⟩) cl.length cap,.int .i64 a,.string s] w λe w'=>(∃t:Int,e=.returned (.tuple #[.int .i64 t,.int .i64 (bi (cl.map (·.2)) a s)]))/\w=w':=by
 have HC:=Lib.hid hc
 have HT:=Lib.hid hcl
 clear hc hcl
 have hb:=PlainAid.get_bt s
 go_enter Tryz.func204,Tryz.ntmps204
 go_wp2_with fail
 go_loop [12] (λi=>∃k:Nat,k<=cl.length/\i=.int .i64 k/\∀j,j<k->lq (cl.map (·.2)) s j=false) (λi=>cl.length-(RowKit.intOf i).toNat)
 case atStart=>exact⟨0,Nat.zero_le _,rfl,λj hj=>by omega⟩
 case round=>
  obtain⟨k,hk,rfl,mE⟩:=hrel
  have HP:=Lib.hid mE
  clear mE
  by_cases hlt:k<cl.length
  ·have hget:cl[k]? =some cl[k]:=List.getElem?_eq_getElem hlt
   have hcell:=HC.out k _ hget
   obtain⟨eg,hp⟩:=HT.out cl[k] (List.getElem_mem hlt)
   have HBAD:Hid (lq (cl.map (·.2)) s k=(decide (k<s.size)&&!(cl[k].2 (PlainAid.bt s k)))):=by
    show _=_
    unfold lq
    rw[List.getD_eq_getElem?_getD,List.getElem?_map,hget]
    rfl
   clear hget
   generalize cl[k]=x at *
   obtain⟨f,p⟩:=x
   simp only at hcell eg hp HBAD
   by_cases hks:k<s.size
   ·have hcall:=λW=>hp (PlainAid.bt s k) W (PlainAid.bt_nonneg s k) (by have:=PlainAid.bt_le s k;omega)
    clear hp
    cases hq:p (PlainAid.bt s k)with
    |true=>
     rw[hq]at hcall HBAD
     clear hq
     go_wp2_with (go_at_fn f;refine(hcall _).mono ?_;rintro e w' ⟨rfl,rfl⟩)
     go_round
     case rel=>
      refine⟨k+1,by omega,by go_num,λj hj=>?_⟩
      by_cases e:j=k
      ·subst e;rw[HBAD.out];simp
      ·exact HP.out j (by omega)
     case measure=>simp[RowKit.intOf];omega
    |false=>
     rw[hq]at hcall HBAD
     clear hq
     go_wp2_with (go_at_fn f;refine(hcall _).mono ?_;rintro e w' ⟨rfl,rfl⟩)
     go_ret2
     have h3:bi (cl.map (·.2)) a s=3:=by
      unfold bi
      rw[if_pos]
      rw[List.any_eq_true]
      exact⟨k,by simpa using hlt,by rw[HBAD.out];simpa using hks⟩
     rw[h3]
     exact⟨⟨_,rfl⟩,rfl⟩
   ·clear hp
    go_wp2_with fail
    go_round
    case rel=>
     refine⟨k+1,by omega,by go_num,λj hj=>?_⟩
     by_cases e:j=k
     ·subst e;rw[HBAD.out];simp[hks]
     ·exact HP.out j (by omega)
    case measure=>simp[RowKit.intOf];omega
  ·obtain rfl:k=cl.length:=by omega
   have HF:Hid (bi (cl.map (·.2)) a s=if (s.size:Int)<a then 4 else if cl.length<s.size then 5 else 0):=by
    show _=_
    unfold bi
    rw[if_neg]
    ·simp
    ·rw[List.any_eq_true]
     rintro⟨j,hj,hj2⟩
     rw[HP.out j (by simpa using hj)]at hj2
     exact absurd hj2 (by simp)
   clear hb
   by_cases h4:(s.size:Int)<a
   ·go_wp2_with fail
    go_ret2
    rw[HF.out,if_pos h4]
    exact⟨⟨_,rfl⟩,rfl⟩
   ·by_cases h5:cl.length<s.size
    ·go_wp2_with fail
     go_ret2
     rw[HF.out,if_neg (by omega),if_pos h5]
     exact⟨⟨_,rfl⟩,rfl⟩
    ·go_wp2_with fail
     go_ret2
     rw[HF.out,if_neg (by omega),if_neg (by omega)]
     exact⟨⟨_,rfl⟩,rfl⟩
theorem ou (k:Nat)(hk:k<4)(hnil:(aR k).chk=.nilFunc)(s:ByteArray)(w:World)(h:kK w):
 Calls Tryz.prog 137 #[.int .i64 k,.string s] w λe w'=>(∃t:Int,e=.returned (.tuple #[.int .i64 t,.int .i64 (bD k s)]))/\Below w.heap.size w w':=by
 obtain⟨sb,so,sc,c0,c1,c2,c3,hsp⟩:=h k hk
 rw[hnil]at c3
 obtain⟨hl1,hl2⟩:=nR k
 have hk4:(k:Int)<4:=by omega
 have htot:(bV (aR k).sp).length<=20:=by rw[iX k hk,List.length_map];exact fM k
 have HCL:=Lib.hid (λ(a b:Int) (chk:Value) (W:World) (hW:dW W sb so (aR k).sp)=>lM a b chk sb so sc (aR k).sp W hW (by omega) (by omega) (λx hx=>by have:=hl2 x hx;omega))
 have HPF:=Lib.hid (λ(g cap:Nat) (W:World) (hW:∀(j:Nat) x,(bN k)[j]? =some x->W.cell? ⟨g,j,none⟩=some (.func (.func x.1) #[] #[]))=>
  xS (bN k) (oI k) g cap (aR k).low s W (by have:=fM k;omega) (mZ k).1 (by have:=(mZ k).2;omega) hW)
 have HSP:Hid (∀o,dW (w.alloc o) sb so (aR k).sp):=Lib.hid λo=>hsp.below ((Below.refl _ w).alloc (Nat.le_refl _) o)
 have HFM:=Lib.hid (λ(W:World) (v:Value) (B:Nat)=>vQ (W:=W) (B:=B) (v:=v) hk)
 have Fp:Hid (bD k s=bi ((bN k).map (·.2)) (aR k).low s):=rfl
 clear hsp hnil hl1 hl2 htot h
 generalize (aR k).low=low at *
 generalize (aR k).body=body at *
 generalize (aR k).sp=sp at *
 go_enter Tryz.func137,Tryz.ntmps137
 go_wp2_with fail
 go_region_held3 (λw'=>w'.cell? ⟨w.heap.size,0,none⟩=some (.int .i64 low)/\w'.cell? ⟨w.heap.size,1,none⟩=some (.slice (some ⟨sb,so,none⟩) sp.length sc)/\w'.cell? ⟨w.heap.size,2,none⟩=some (.int .i64 body)/\w'.cell? ⟨w.heap.size,3,none⟩=some .nilFunc)
  (go_keep)
  (first
   |(go_at_call 205;refine(HCL.out _ _ _ _ ?_).mono ?_;(exact HSP.out _);rintro e w1 ⟨v,rfl,hown,hb1⟩;obtain⟨g,cap,rfl,hg⟩:=HFM.out _ _ _ hown;have k0:=(hb1.cell (p:=⟨w.heap.size,0,none⟩) (by simp)).trans (show _=some (Value.int .i64 low)by simp);have k1:=(hb1.cell (p:=⟨w.heap.size,1,none⟩) (by simp)).trans (show _=some (Value.slice (some ⟨sb,so,none⟩) sp.length sc)by simp);have k2:=(hb1.cell (p:=⟨w.heap.size,2,none⟩) (by simp)).trans (show _=some (Value.int .i64 body)by simp);have k3:=(hb1.cell (p:=⟨w.heap.size,3,none⟩) (by simp)).trans (show _=some Value.nilFunc by simp);have HG:=Lib.hid hg;clear hg)
   |(go_at_call 204;refine(HPF.out _ _ _ ?_).mono ?_;(exact HG.out);rintro e w2 ⟨⟨t,rfl⟩,rfl⟩))
 rw[<-Fp.out]
 obtain⟨fit,HF⟩:∃fit:Int,Hid (bD k s=fit):=⟨_,Lib.hid rfl⟩
 rw[HF.out]
 have jV:Below w.heap.size w w1:=Below.trans (((Below.refl w.heap.size w).alloc (Nat.le_refl _) _).drew) (hb1.mono (B':=w.heap.size) (by simp))
 clear hb1
 by_cases hfit:fit=0
 ·subst hfit
  go_wp2_with fail
  go_quiet (fail)
  go_wp2_with fail
  go_ret2
  exact⟨⟨_,by rw[HF.out];rfl⟩,by first|assumption|exact below_drewN' (by assumption) _⟩
 ·have hbf:(fit !=0)=true:=by simpa using hfit
  clear hfit
  go_wp2_with fail
  go_ret2
  exact⟨⟨_,by rw[HF.out];rfl⟩,jV⟩
theorem yM (k:Nat)(hk:k<4)(cf bn:Nat)(um:(aR k).chk=.func (.func cf) #[] #[])(hbn:(aR k).body=(bn:Int))(_hbn2:bn<=64)(s:ByteArray)(w:World)(h:kK w)(R:ByteArray)(code:Int)(hcode:Hid (code=if bD k s≠0 then bD k s else if (R.toList==(s.extract bn s.size).toList)=true then 0 else 18))
 (ec:∀args w,(callFunc cf args).run Tryz.prog w=.ok (.enter cf args) w)
 (hck:bD k s=0->bn<=s.size/\∀W,Calls Tryz.prog cf #[.string (s.extract 0 bn)] W λe w'=>e=.returned (.string R)/\Below W.heap.size W w'):
 Calls Tryz.prog 137 #[.int .i64 k,.string s] w λe w'=>(∃t:Int,e=.returned (.tuple #[.int .i64 t,.int .i64 code]))/\Below w.heap.size w w':=by
 obtain⟨sb,so,sc,c0,c1,c2,c3,hsp⟩:=h k hk
 rw[um]at c3
 rw[hbn]at c2
 obtain⟨hl1,hl2⟩:=nR k
 have hk4:(k:Int)<4:=by omega
 have htot:(bV (aR k).sp).length<=20:=by rw[iX k hk,List.length_map];exact fM k
 have HCL:=Lib.hid (λ(a b:Int) (chk:Value) (W:World) (hW:dW W sb so (aR k).sp)=>lM a b chk sb so sc (aR k).sp W hW (by omega) (by omega) (λx hx=>by have:=hl2 x hx;omega))
 have HPF:=Lib.hid (λ(g cap:Nat) (W:World) (hW:∀(j:Nat) x,(bN k)[j]? =some x->W.cell? ⟨g,j,none⟩=some (.func (.func x.1) #[] #[]))=>
  xS (bN k) (oI k) g cap (aR k).low s W (by have:=fM k;omega) (mZ k).1 (by have:=(mZ k).2;omega) hW)
 have HSP:Hid (∀o,dW (w.alloc o) sb so (aR k).sp):=Lib.hid λo=>hsp.below ((Below.refl _ w).alloc (Nat.le_refl _) o)
 have HFM:=Lib.hid (λ(W:World) (v:Value) (B:Nat)=>vQ (W:=W) (B:=B) (v:=v) hk)
 have Fp:Hid (bD k s=bi ((bN k).map (·.2)) (aR k).low s):=rfl
 have HCK:=Lib.hid hck
 clear hsp um hl1 hl2 htot h hck
 generalize (aR k).low=low at *
 generalize (aR k).body=body at *
 generalize (aR k).sp=sp at *
 subst hbn
 go_enter Tryz.func137,Tryz.ntmps137
 go_wp2_with fail
 go_region_held3 (λw'=>w'.cell? ⟨w.heap.size,0,none⟩=some (.int .i64 low)/\w'.cell? ⟨w.heap.size,1,none⟩=some (.slice (some ⟨sb,so,none⟩) sp.length sc)/\w'.cell? ⟨w.heap.size,2,none⟩=some (.int .i64 bn)/\w'.cell? ⟨w.heap.size,3,none⟩=some (.func (.func cf) #[] #[]))
  (go_keep)
  (first
   |(go_at_call 205;refine(HCL.out _ _ _ _ ?_).mono ?_;(exact HSP.out _);rintro e w1 ⟨v,rfl,hown,hb1⟩;obtain⟨g,cap,rfl,hg⟩:=HFM.out _ _ _ hown;have k0:=(hb1.cell (p:=⟨w.heap.size,0,none⟩) (by simp)).trans (show _=some (Value.int .i64 low)by simp);have k1:=(hb1.cell (p:=⟨w.heap.size,1,none⟩) (by simp)).trans (show _=some (Value.slice (some ⟨sb,so,none⟩) sp.length sc)by simp);have k2:=(hb1.cell (p:=⟨w.heap.size,2,none⟩) (by simp)).trans (show _=some (Value.int .i64 bn)by simp);have k3:=(hb1.cell (p:=⟨w.heap.size,3,none⟩) (by simp)).trans (show _=some (Value.func (.func cf) #[] #[])by simp);have HG:=Lib.hid hg;clear hg)
   |(go_at_call 204;refine(HPF.out _ _ _ ?_).mono ?_;(exact HG.out);rintro e w2 ⟨⟨t,rfl⟩,rfl⟩))
 rw[<-Fp.out]
 obtain⟨fit,HF⟩:∃fit:Int,Hid (bD k s=fit):=⟨_,Lib.hid rfl⟩
 rw[HF.out]
 have jV:Below w.heap.size w w1:=Below.trans (((Below.refl w.heap.size w).alloc (Nat.le_refl _) _).drew) (hb1.mono (B':=w.heap.size) (by simp))
 have hsz1:w.heap.size<w1.heap.size:=by have:=hb1.size;simp at this;omega
 clear hb1
 by_cases hfit:fit=0
 ·subst hfit
  obtain⟨hbs,hck⟩:=HCK.out HF.out
  have HCK2:=Lib.hid hck
  clear hck
  have hbs0:(bn:Int)<=(s.size:Int):=by omega
  go_wp2_with fail
  go_region_held3 (λw'=>Below w.heap.size w w'/\w.heap.size<w'.heap.size/\w'.cell? ⟨w.heap.size,2,none⟩=some (.int .i64 bn)/\w'.cell? ⟨w.heap.size,3,none⟩=some (.func (.func cf) #[] #[]))
   (first|assumption|exact Below.drew (by assumption)|(refine⟨?_,?_,?_,?_⟩<;>first|assumption|exact Below.drew (by assumption)|go_keep)|go_keep)
   (first
    |(go_at_fn cf;refine(HCK2.out _).mono ?_;rintro e w3 ⟨rfl,hb3⟩;have E9:=AL (by assumption) hb3))
  obtain⟨hb4,hsz4,k4,k5⟩:=E9
  clear hb3
  generalize hq:(R.toList==(s.extract bn s.size).toList)=q
  have HQ:Hid (code=if q=true then 0 else 18):=Lib.hid (by rw[hcode.out,HF.out,if_neg (by simp),hq])
  clear hq
  cases q with
  |true=>
   go_wp2_with fail
   go_ret2
   rw[HQ.out]
   exact⟨⟨_,rfl⟩,hb4⟩
  |false=>
   go_wp2_with fail
   go_ret2
   rw[HQ.out]
   exact⟨⟨_,rfl⟩,hb4⟩
 ·have hbf:(fit !=0)=true:=by simpa using hfit
  have HNE:=Lib.hid hfit
  clear hfit
  go_wp2_with fail
  go_ret2
  rw[hcode.out,HF.out,if_pos HNE.out]
  exact⟨⟨_,rfl⟩,jV⟩
theorem F7 (k:Nat)(hk:k<3)(s:ByteArray)(w:World)(h:kK w):
 Calls Tryz.prog 137 #[.int .i64 k,.string s] w λe w'=>(∃t:Int,e=.returned (.tuple #[.int .i64 t,.int .i64 (aS k s)]))/\Below w.heap.size w w':=by
 match k,hk with
 |0,_=>
  refine yM 0 (by decide) 343 11 rfl rfl (by omega) s w h ⟨(Id.IR (s.data.toList.take 11)).toArray⟩ (aS 0 s) (Lib.hid ?_) (enters_of Tryz.func343 (by kernel_rfl) rfl) (λh0=>⟨?_,λW=>(Ij _ W ?_ (kC 0 (Or.inl rfl) s 11 h0)).mono ?_⟩)
  ·unfold aS
   rw[toList_mk,yG]
   simp only[if_pos,beq_iff_eq]
  ·have:=(fP 0 s h0).1
   simp[aR]at this;omega
  ·simp[ByteArray.size_extract];omega
  ·rintro e w' ⟨rfl,hb⟩
   rw[extract_upto]
   exact⟨rfl,hb⟩
 |1,_=>
  have e1:aS 1 s=bD 1 s:=by unfold aS;split<;>simp_all
  rw[e1]
  exact ou 1 (by decide) rfl s w h
 |2,_=>
  have e1:aS 2 s=bD 2 s:=by unfold aS;split<;>simp_all
  rw[e1]
  exact ou 2 (by decide) rfl s w h
theorem Gh (k:Nat)(hk:k<3)(s:ByteArray)(w:World)(h:kK w):
 Calls Tryz.prog 80 #[.int .i64 k,.string s] w λe w'=>e=.returned (.bool (aS k s==0))/\Below w.heap.size w w':=
 vY k s w _ _ rfl (F7 k hk s w h)
end Go.Proofs.YtnjjeapcalkmaaaGreatDoor
namespace Go.Proofs.YtnjjeapcalkmaaaGreatDoor.Ev
open Go Go.RowKit Go.Proofs.YtnjjeapcalkmaaaGreatDoor Go.Proofs.YtnjjeapcalkmaaaGreatDoor.Ord
variable {σ : Type}
def wG (rs:List (Ent σ)):List (Nat×Operand)->Option (List (Nat×AV))
 |[]=>some []
 |(i,.tmp t)::l=>match find t rs 0,wG rs l with
  |some (_,e),some vs=>(match e.cond with
   |none=>some ((i,e.val)::vs)
   |some _=>none)
  |_,_=>none
 |_=>none
theorem KM {M:Mem σ}{ρ:Operand->Value}{full:List (Ent σ)}(hR:∀(i:Nat) (e:Ent σ) (d:Nat),full[i]? =some e->e.dst=some d->ρ (.tmp d)=e.value M):∀{l:List (Nat×Operand)} {vs:List (Nat×AV)},wG full l=some vs->l.map (λp=>(p.1,ρ p.2))=vs.map λp=>(p.1,p.2.val M):=by
 intro l
 induction l with
 |nil=>intro vs h;cases h;rfl
 |cons p l ih=>
  obtain⟨i,x⟩:=p
  intro vs h
  cases x with
  |tmp t=>
   unfold wG at h
   split at h
   ·rename_i j e v2 h1 h2
    split at h
    ·rename_i hc
     cases h
     obtain⟨-,k1,k2⟩:=iJ h1
     rw[List.map_cons,List.map_cons,ih h2,hR _ _ _ k1 k2]
     unfold Ent.value
     rw[hc]
    ·cases h
   ·cases h
  |_=>cases h
theorem QR (ρ:Operand->Value)(x y:Operand)(b:Bool)(n:Int)(hx:ρ x=.bool b)(hy:ρ y=.int .i64 n)(w:World):(Instr.build 128 (#[(0,x),(1,y)].map λ(i,x)=>(i,ρ x))).run Tryz.prog w=.ok (.agg #[.bool b,.int .i64 n]) w:=by
 simp only[List.map_toArray,List.map_cons,List.map_nil,hx,hy]
 go_simp
def qp (M:AV->Value)(o:Oper)(ov:Operand->Option AV):Option AV:=match o.op with
 | .build t ps=>if t=128 then(match ps.toList with
   |[(0,x),(1,y)]=>(match ov x,ov y with
    |some a,some c=>(match M a,M c with
     | .bool b,.int .i64 n=>some (.v (.agg #[.bool b,.int .i64 n]))
     |_,_=>none)
    |_,_=>none)
   |_=>none)else none
 |_=>none
theorem pz {M:AV->Value}{o:Oper}{ov:Operand->Option AV}{v:AV}(h:qp M o ov=some v){ρ:Operand->Value}(hov:∀x u,ov x=some u->ρ x=M u)(hM:∀x,M (.v x)=x)(w:World):(execOp ρ o).run Tryz.prog w=.ok (.value (M v)) w:=by
 unfold qp at h
 split at h
 ·rename_i t ps ho
  split at h
  ·rename_i ht
   subst ht
   split at h
   ·rename_i x y hps
    split at h
    ·rename_i a c ha hc
     split at h
     ·rename_i b n hb hn
      cases h
      have QX:ps=#[(0,x),(1,y)]:=by rw[<-Array.toArray_toList (xs:=ps),hps]
      subst QX
      have:=QR ρ x y b n ((hov _ _ ha).trans hb) ((hov _ _ hc).trans hn) w
      unfold execOp
      simp only[ho,Sem.run_bind,this,Result.andThen_ok,hM]
      rfl
     ·cases h
    ·cases h
   ·cases h
  ·cases h
 ·cases h
theorem DY (W:World)(rs:List (Bool×Int))(P:Array (Nat×Value))(h24:¬(rs.length*2>2^24))(hne:¬(rs.length*2=0))(jq:Instr.fill (λi=>some (i*2,2)) ((Array.range (rs.length*2)).map (λx=>([.bool false,.int .i64 0]:List Value)[x%2]?.getD default)) P.toList=some (dV rs).toArray):
 (Instr.buildSlice 172 rs.length P).run Tryz.prog W=.ok (.slice (some ⟨W.heap.size,0,none⟩) rs.length rs.length) (W.alloc (.cells (dV rs).toArray 128)):=by
 unfold Instr.buildSlice
 go_simp
def vG (m n:Nat)(ops:Array Oper):Bool:=eU ops&&Region.noSelect ops&&bZ ops m&&sK ops n&&ops.size==n+3
def l9 (ops:Array Oper)(n:Nat):Option (Nat×List (Nat×Operand)×Nat×Nat×Nat):=match (ops.toList.drop n)with
 |[⟨some d1,.buildSlice t k ps,_,_,_,none⟩,⟨some d2,.call ⟨.value (.func f),xs,_⟩,_,_,_,none⟩,⟨some d3,.assign (.tmp e2),_,_,_,none⟩]=>if t=172/\f=78/\e2=d2/\xs.toList.length=1 then(match xs.toList with
    |[.tmp e1]=>if e1=d1 then some (k,ps.toList,d1,d2,d3)else none
    |_=>none)else none
 |_=>none
theorem Kq {dr:Bool}{W0 w:World}{id m n:Nat}{ops:Array Oper}{M:Mem Unit}{K:List (Nat×AV)}{full:List (Ent Unit)}{a:Act}{Q:Exit->Act->World->Prop}{k d1 d2 d3:Nat}{ps:List (Nat×Operand)}{pv:List (Nat×AV)}(rs:List (Bool×Int))(hO:Ok Tryz.prog (λ_ W=>Below W0.heap.size W0 W) M)(hok:vG m n ops=true)(hrun:run M (keep K ops) [] () (ops.toList.take n)=some full)(hturn:full.all (λe=>!e.turn)=true)(hF:Fr M m K a)(hS:Below W0.heap.size W0 w)
 (hr0:0<rs.length) (hrs:rs.length<=1000) (he:l9 ops n=some (k,ps,d1,d2,d3)) (hp:wG full ps=some pv) (hk:k=rs.length) (jq:Instr.fill (λi=>some (i*2,2)) ((Array.range (k*2)).map (λx=>([.bool false,.int .i64 0]:List Value)[x%2]?.getD default)) (pv.map λp=>(p.1,p.2.val M))=some (dV rs).toArray)
 (hend:∀(b:Act) (w':World),Below W0.heap.size W0 w'->Fr M m ((d3,.v (.int .i64 (af rs)))::keep K ops) b->Q .normal b w'):(Code.region id ops dr).wp Tryz.prog Q a w:=by
 unfold vG at hok
 simp only[Bool.and_eq_true,beq_iff_eq]at hok
 obtain⟨⟨⟨⟨hd,hs⟩,hb⟩,ht⟩,hsz⟩:=hok
 obtain⟨tl,e1,e2⟩:=dx hrun
 have hI:=vW vV hrun
 have hlen:full.length=n:=by rw[e1];simp[e2];omega
 unfold l9 at he
 split at he
 ·rename_i d1' t k' ps' _ _ _ d2' f xs _ _ _ _ d3' e2' _ _ _ hdrop
  split at he
  ·rename_i hc
   obtain⟨rfl,rfl,rfl,-⟩:=hc
   split at he
   ·rename_i e1' hxs
    split at he
    ·rename_i hc1
     subst hc1
     cases he
     have hxs2:xs=#[.tmp d1]:=by rw[<-Array.toArray_toList (xs:=xs),hxs]
     subst hxs2
     have g1:∀i,ops[n+i]? =(ops.toList.drop n)[i]?:=λi=>by simp
     have h1:=g1 0
     have h2:=g1 1
     have h3:=g1 2
     rw[hdrop]at h1 h2 h3
     have hlt:∀(i:Nat) (o:Oper) (d:Nat),ops[i]? =some o->o.dst=some d->d<a.tmps.size:=λi o d ho hod=>by
      simp only[bZ,Bool.and_eq_true]at hb
      have:=List.all_eq_true.1 hb.1 o (by simpa using Array.mem_of_getElem? ho)
      rw[hod]at this
      rw[hF.size]
      simpa using this
     refine NE (W0:=W0) n (full.map (Ent.value M)) (by rw[List.length_map,hlen]) hd hs (by rw[hF.size];exact hb) ht hS ?_ rs hrs hsz (by simpa using h1) rfl rfl rfl h2 rfl rfl rfl h3 rfl rfl rfl ⟨hlt _ _ _ h1 rfl,hlt _ _ _ h2 rfl,hlt _ _ _ h3 rfl⟩ 128 ?_ ?_
     ·intro ρ hD hrest hco hfu
      have:=Pn hO (Fj hF hrun hD hrest hco hfu) hI (λe he=>by have:=List.all_eq_true.1 hturn e he;simpa using this) () hrun
      simpa using this
     ·intro ρ hD W
      have hparts:(ps'.map λ(i,x)=>(i,ρ x)).toList=pv.map λp=>(p.1,p.2.val M):=by
       rw[<-KM (M:=M) (ρ:=ρ) (full:=full) (λi e d hi hd=>by
        have hil:i<(ops.toList.take n).length:=by
         have h7:=(List.getElem?_eq_some_iff.1 hi).1
         rw[e1]at h7
         simp only[List.nil_append,e2]at h7
         exact h7
        obtain⟨o,ho⟩:∃o,(ops.toList.take n)[i]? =some o:=⟨_,List.getElem?_eq_getElem hil⟩
        obtain⟨e5,k1,k2⟩:=vU hrun i o ho
        have:e5=e:=by
         have k3:full[i]? =some e5:=by simpa using k1
         exact Option.some.inj (k3.symm.trans hi)
        subst this
        exact cO.tmp i o (e5.value M) d hD ho (by rw[List.getElem?_map,hi];rfl) (k2.symm.trans hd)) hp]
       rw[Array.toList_map]
      rw[<-hparts]at jq
      generalize (ps'.map λ(i,x)=>(i,ρ x))=P at jq⊢
      clear hend hD hparts hp
      rw[hk]at jq⊢
      have h24:¬(rs.length*2>2^24):=by rw[show(2:Nat)^24=16777216 from by decide];omega
      have hne:¬(rs.length*2=0):=by omega
      exact DY W rs P h24 hne jq
     ·intro b w' hB hbd hbs h3 hrest
      exact hend b w' hB ⟨hbs.trans hF.size,hbd.trans hF.defers,λt u hl=>by
       unfold Ev.look at hl
       split at hl
       ·rename_i e;subst e;cases hl;exact h3
       ·obtain⟨j1,j2⟩:=iM hl
        rw[hrest t j2]
        exact hF.look t u j1⟩
    ·cases he
   ·cases he
  ·cases he
 ·cases he
def GU (M:Mem Unit)(K:List (Nat×AV))(n:Nat)(ops:Array Oper):Option (Array Value):=match run M K [] () (ops.toList.take n),l9 ops n with
 |some full,some (k,ps,_)=>if full.all (λe=>!e.turn)=true then(match wG full ps with
  |some pv=>Instr.fill (λi=>some (i*2,2)) ((Array.range (k*2)).map (λx=>([.bool false,.int .i64 0]:List Value)[x%2]?.getD default)) (pv.map λp=>(p.1,p.2.val M))
  |none=>none)else none
 |_,_=>none
theorem oC {dr:Bool}{W0 w:World}{id m:Nat}{ops:Array Oper}{M:Mem Unit}{K:List (Nat×AV)}{a:Act}{Q:Exit->Act->World->Prop}(n d3:Nat)(rs:List (Bool×Int))(hO:Ok Tryz.prog (λ_ W=>Below W0.heap.size W0 W) M)(hok:vG m n ops=true)(hF:Fr M m K a)(hS:Below W0.heap.size W0 w)
 (hr0:0<rs.length) (hrs:rs.length<=1000) (hk:(l9 ops n).map (λe=>(e.1,e.2.2.2.2))=some (rs.length,d3)) (jq:GU M (keep K ops) n ops=some (dV rs).toArray)
 (hend:∀(b:Act) (w':World),Below W0.heap.size W0 w'->Fr M m ((d3,.v (.int .i64 (af rs)))::keep K ops) b->Q .normal b w'):(Code.region id ops dr).wp Tryz.prog Q a w:=by
 unfold GU at jq
 split at jq
 ·rename_i full k ps dd hrun he
  obtain⟨d1,d2,d3'⟩:=dd
  split at jq
  ·rename_i ht
   split at jq
   ·rename_i pv hp
    rw[he]at hk
    have hk2:(k,d3')=(rs.length,d3):=by simpa using hk
    obtain⟨rfl,rfl⟩:=Prod.mk.inj hk2
    exact Kq rs hO hok hrun ht hF hS hr0 hrs he hp rfl jq hend
   ·cases jq
  ·cases jq
 ·cases jq
def vM:List Value->Option (List (Bool×Int))
 |[]=>some []
 | .bool b::.int .i64 n::l=>(match vM l with
   |some rs=>some ((b,n)::rs)
   |none=>none)
 |_=>none
theorem wY:∀{l:List Value} {rs:List (Bool×Int)},vM l=some rs->l=dV rs
 |[],rs,h=>by cases h;rfl
 | .bool b::.int .i64 n::l,rs,h=>by
   unfold vM at h
   split at h
   ·rename_i rs2 h2
    cases h
    rw[wY h2]
    rfl
   ·cases h
def jK (M:Mem Unit)(s:Unit)(K:List (Nat×AV))(ops:Array Oper)(_dr:Bool):Option (Unit×List (Nat×AV)):=if sK ops (ops.size-3)=true/\3<=ops.size then(match GU M (keep K ops) (ops.size-3) ops,l9 ops (ops.size-3)with
    |some c,some (k,_,_,_,d3)=>(match vM c.toList with
     |some rs=>if k=rs.length/\0<k/\k<=1000 then some (s,[(d3,.v (.int .i64 (af rs)))])else none
     |none=>none)
    |_,_=>none)else none
theorem Gq {W0:World}{M:Mem Unit}(hO:Ok Tryz.prog (λ_ W=>Below W0.heap.size W0 W) M):uO (λ_ W=>Below W0.heap.size W0 W) {M with reg:=jK M}:=by
 intro s K ops dr s' nw h n id a w Q hok hF hS hend
 have h2:jK M s K ops dr=some (s',nw):=h
 unfold jK at h2
 split at h2
 ·rename_i ht
  split at h2
  ·rename_i c k ps d1 d2 d3 hf he
   split at h2
   ·rename_i rs hrs
    split at h2
    ·rename_i hk
     obtain⟨rfl,hk2,hk3⟩:=hk
     cases h2
     unfold iF at hok
     simp only[Bool.and_eq_true]at hok
     refine oC (W0:=W0) (M:=M) (m:=n) (ops.size-3) d3 rs hO (by unfold vG;simp only[Bool.and_eq_true,beq_iff_eq];exact⟨⟨⟨hok.1,hok.2⟩,ht.1⟩,by omega⟩) ⟨hF.size,hF.defers,hF.look⟩ hS hk2 hk3 (by rw[he];rfl) (by rw[hf,<-wY hrs]) λb w' hB hb=>hend b w' ⟨hb.size,hb.defers,hb.look⟩ hB
    ·cases h2
   ·cases h2
  ·cases h2
 ·cases h2
theorem Nb {W0:World}{M:Mem Unit}{n:Nat}{code:Code}{K:List (Nat×AV)}{v:Int}{Q:Exit->Act->World->Prop}{a:Act}{w:World}(r:Nat)(hO:Ok Tryz.prog (λ_ W=>Below W0.heap.size W0 W) M)(h:(ex {M with reg:=jK M} n code K ()).int {M with reg:=jK M} r 0=some v)(hl:((ex {M with reg:=jK M} n code K ()).stops [] []).map (uD [])=[])(hF:Fr M n K a)(hS:Below W0.heap.size W0 w)
 (hq:∀a w,a.defers=[]->a.tmps[r]? =some (.int .i64 v)->Below W0.heap.size W0 w->Q .ret a w):code.wp Tryz.prog Q a w:=by
 have hO2:Ok Tryz.prog (λ_ W=>Below W0.heap.size W0 W) {M with reg:=jK M}:=⟨hO.offs,hO.load,hO.store,hO.call,hO.other⟩
 refine xN (M:={M with reg:=jK M}) (s:=()) hO2 (Gq hO) (λ_ _ h=>h.drew) (zw (M:={M with reg:=jK M}) (ts:=[]) (cs:=[]) (hv:=0) h (λc hc=>by cases hc) (λa w _ h1 h2 h3=>hq a w h1 h2 h3) λhe x hx hc a w hst hs=>?_) ⟨hF.size,hF.defers,hF.look⟩ hS
 have hm:uD [] x∈([]:List _):=by rw[<-hl];exact List.mem_map_of_mem hx
 cases hm
end Go.Proofs.YtnjjeapcalkmaaaGreatDoor.Ev
namespace Go.Proofs.YtnjjeapcalkmaaaGreatDoor
open Go.RowKit
open Go.Proofs.YtnjjeapcalkmaaaGreatDoor.Ord
def qF (w:World)(g:Nat)(i:Ps.Ins)(lv:Value):Prop:=w.heap[g]? =some (.cells (aA i lv).toArray 34 (0,0))
theorem qF.at {w:World}{g:Nat}{i:Ps.Ins}{lv:Value}(h:qF w g i lv)(j:Nat)(v:Value)(hj:(aA i lv)[j]? =some v):w.cell? ⟨g,j,none⟩=some v:=by
 rw[cell_of_row _ _ _ _ _ _ h,List.getElem?_toArray,hj]
theorem lU (w:World)(i:Ps.Ins)(lv:Value):qF (w.alloc (.cells (aA i lv).toArray 34)) w.heap.size i lv:=aC w _
theorem is_col (w:World)(i:Ps.Ins)(lv:Value)(c1 c2:Bool)(h1:(i.kind==3)=c1)(h2:(i.kind==4)=c2):
 Calls Tryz.prog 138 #[.agg (aA i lv).toArray] w λe w'=>e=.returned (.bool (c1||c2))/\Below w.heap.size w w':=by
 go_enter Tryz.func138,Tryz.ntmps138
 go_upto_region 1 with fail
 obtain⟨W1,hW1⟩:∃W1,W1=w.alloc (.cells (aA i lv).toArray 34):=⟨_,rfl⟩
 have hrow:qF W1 w.heap.size i lv:=by rw[hW1];exact lU w i lv
 have HB:Hid (Below w.heap.size w W1):=Lib.hid (by rw[hW1];exact(Below.refl _ _).alloc (Nat.le_refl _) _)
 rw[<-hW1]
 clear hW1
 obtain⟨g,hg⟩:∃g,g=w.heap.size:=⟨_,rfl⟩
 rw[<-hg]at hrow⊢
 clear hg
 have k1:=hrow.at 1 _ rfl
 clear hrow
 cases c1
 all_goals cases c2
 all_goals
  go_wp2_with fail
  go_ret
  exact⟨rfl,HB.out⟩
theorem is_sec (w:World)(i:Ps.Ins)(lv:Value)(c1 c2:Bool)(h1:(i.kind==1)=c1)(h2:(i.kind==2)=c2):
 Calls Tryz.prog 139 #[.agg (aA i lv).toArray] w λe w'=>e=.returned (.bool (c1||c2))/\Below w.heap.size w w':=by
 go_enter Tryz.func139,Tryz.ntmps139
 go_upto_region 1 with fail
 obtain⟨W1,hW1⟩:∃W1,W1=w.alloc (.cells (aA i lv).toArray 34):=⟨_,rfl⟩
 have hrow:qF W1 w.heap.size i lv:=by rw[hW1];exact lU w i lv
 have HB:Hid (Below w.heap.size w W1):=Lib.hid (by rw[hW1];exact(Below.refl _ _).alloc (Nat.le_refl _) _)
 rw[<-hW1]
 clear hW1
 obtain⟨g,hg⟩:∃g,g=w.heap.size:=⟨_,rfl⟩
 rw[<-hg]at hrow⊢
 clear hg
 have k1:=hrow.at 1 _ rfl
 clear hrow
 cases c1
 all_goals cases c2
 all_goals
  go_wp2_with fail
  go_ret
  exact⟨rfl,HB.out⟩
theorem RZ (w:World)(i:Ps.Ins)(lv:Value)(c1:Bool)(h1:i.partial_=c1):
 Calls Tryz.prog 143 #[.agg (aA i lv).toArray] w λe w'=>e=.returned (.int .i64 (if c1=true then i.quantity else 0))/\Below w.heap.size w w':=by
 go_enter Tryz.func143,Tryz.ntmps143
 go_upto_region 1 with fail
 obtain⟨W1,hW1⟩:∃W1,W1=w.alloc (.cells (aA i lv).toArray 34):=⟨_,rfl⟩
 have hrow:qF W1 w.heap.size i lv:=by rw[hW1];exact lU w i lv
 have HB:Hid (Below w.heap.size w W1):=Lib.hid (by rw[hW1];exact(Below.refl _ _).alloc (Nat.le_refl _) _)
 rw[<-hW1]
 clear hW1
 obtain⟨g,hg⟩:∃g,g=w.heap.size:=⟨_,rfl⟩
 rw[<-hg]at hrow⊢
 clear hg
 have k6:=hrow.at 6 _ rfl
 have k11:=hrow.at 11 _ rfl
 clear hrow
 cases c1
 all_goals
  go_wp2_with fail
  go_ret
  exact⟨rfl,HB.out⟩
theorem M5 (w:World)(i:Ps.Ins)(lv:Value)(c1 c2 v:Bool)(h1:(i.kind==0)=c1)(h2:(i.asset.toList==[67,65,83,72])=c2)(n1:∀w',Below w.heap.size w w'->Calls Tryz.prog 80 #[.int .i64 0,.string i.asset] w' λe w''=>e=.returned (.bool v)/\Below w'.heap.size w' w''):
 Calls Tryz.prog 140 #[.agg (aA i lv).toArray] w λe w'=>e=.returned (.bool (if c1=true then c2 else v))/\Below w.heap.size w w':=by
 go_enter Tryz.func140,Tryz.ntmps140
 go_upto_region 1 with fail
 obtain⟨W1,hW1⟩:∃W1,W1=w.alloc (.cells (aA i lv).toArray 34):=⟨_,rfl⟩
 have hrow:qF W1 w.heap.size i lv:=by rw[hW1];exact lU w i lv
 have HB:Hid (Below w.heap.size w W1):=Lib.hid (by rw[hW1];exact(Below.refl _ _).alloc (Nat.le_refl _) _)
 rw[<-hW1]
 clear hW1
 have m1:=n1 W1 HB.out
 clear n1
 obtain⟨g,hg⟩:∃g,g=w.heap.size:=⟨_,rfl⟩
 rw[<-hg]at hrow⊢
 clear hg
 have k1:=hrow.at 1 _ rfl
 have k5:=hrow.at 5 _ rfl
 clear hrow
 cases c1
 ·go_wp2_with ((first|go_at_fn 80|go_at_call 80);refine m1.mono ?_;rintro e w2 ⟨rfl,hb⟩;have HB2:=Lib.hid (HB.out.trans (hb.mono HB.out.size));clear hb m1)
  go_ret
  exact⟨rfl,HB2.out⟩
 ·clear m1
  go_wp2_with fail
  go_ret
  exact⟨by simp,HB.out⟩
theorem OW (w:World)(n:Int)(u c:Bool)(h:(n==0)=c):
 Calls Tryz.prog 141 #[.int .i64 n,.bool u] w λe w'=>e=.returned (.bool (if u=true then inB n 1 1000000000000000 else c))/\Below w.heap.size w w':=by
 have m1:=uL w n 1 1000000000000000
 go_enter Tryz.func141,Tryz.ntmps141
 cases u
 ·clear m1
  go_wp2_with fail
  go_ret
  exact⟨by simp,Below.refl _ _⟩
 ·go_wp2_with ((first|go_at_fn 142|go_at_call 142);refine m1.mono ?_;rintro e w2 ⟨rfl,rfl⟩;clear m1)
  go_ret
  exact⟨rfl,Below.refl _ _⟩
def Bc (n:Int)(u:Bool):Bool:=if u=true then inB n 1 1000000000000000 else(n==0)
def mr (A:Ps.Amd):List (Bool×Int):=[(((((!A.hasAmount)&&(!A.hasSettleDay))&&(!A.hasPriority))&&(!A.hasPartial)),3),((((((!A.hasAmount)&&(A.amount !=0))||((!A.hasSettleDay)&&(A.settleDay !=0)))||((!A.hasPriority)&&(A.priority !=0)))||((!A.hasPartial)&&(A.partial_||(A.minLot !=0)))),3),((!(Bc A.amount A.hasAmount)),2),((!(inB A.settleDay 0 73048)),28),((!(inB A.priority 0 2)),2),((!(Bc A.minLot A.partial_)),2)]
open Go.Proofs.YtnjjeapcalkmaaaGreatDoor.Ev (AV Mem Fr lX aM fe)
theorem kR {S:World->Prop}{b:Nat}{l:List Value}{ty:TypeId}(h:∀w,S w->w.heap[b]? =some (.cells l.toArray ty (0,0))):∀w,S w->∀(j:Nat) (v:Value),l[j]? =some v->w.cell? ⟨b,0+j,none⟩=some v:=λw hS j v hv=>by
 rw[Nat.zero_add,cell_of_row _ _ _ _ _ _ (h w hS)]
 simpa using hv
def wZ (V:List AV->List Value)(f:FuncId)(vs:List AV):Option Value:=
 if f=79\/f=142 then(match V vs with|[.int .i64 n,.int .i64 lo,.int .i64 hi]=>some (.bool (inB n lo hi))|_=>none)
 else if f=141 then(match V vs with|[.int .i64 n,.bool u]=>some (.bool (Bc n u))|_=>none)
 else none
theorem sQ {V:List AV->List Value}{f:FuncId}{vs:List AV}{v:Value}(h:wZ V f vs=some v){W0:World}:(∀args w,(callFunc f args).run Tryz.prog w=.ok (.enter f args) w)/\∀w,Below W0.heap.size W0 w->Calls Tryz.prog f (V vs).toArray w λe w'=>e=.returned v/\Below W0.heap.size W0 w':=by
 unfold wZ at h
 split at h
 ·rename_i hf
  split at h
  ·rename_i hm
   cases h
   rw[hm]
   rcases hf with rfl|rfl
   ·exact⟨ent57,λw hw=>(FT w _ _ _).mono λe w' k=>⟨k.1,hw.trans (k.2.mono hw.size)⟩⟩
   ·exact⟨ent109,λw hw=>(Ak w _ _ _).mono λe w' k=>⟨k.1,hw.trans (k.2.mono hw.size)⟩⟩
  ·cases h
 ·split at h
  ·rename_i hf
   subst hf
   split at h
   ·rename_i hm
    cases h
    rw[hm]
    exact⟨ent108,λw hw=>(OW w _ _ _ rfl).mono λe w' k=>⟨k.1,hw.trans (k.2.mono hw.size)⟩⟩
   ·cases h
  ·cases h
def IJ (g:Nat)(A:Ps.Amd):List (Option (Nat×Nat)×List Value):=[(some (g,0),aG A)]
def amM (g:Nat)(A:Ps.Amd):Mem Unit:=lX pM (IJ g A) (wZ (List.map (fe (IJ g A)))) (Ev.qp (fe (IJ g A)))
theorem K8 (w:World)(A:Ps.Amd):Calls Tryz.prog 82 #[.agg (aG A).toArray] w λe w'=>e=.returned (.int .i64 (af (mr A)))/\Below w.heap.size w w':=by
 go_enter Tryz.func82,Tryz.ntmps82
 refine wp_seq ?_
 refine wp_region_lit ?_
 refine wpList_plain rfl (λK hK=>?_)
 go_simp
 refine hK _ _ ?_
 clear hK K
 refine wpList_plain rfl (λK hK=>?_)
 go_simp
 refine hK _ _ ?_
 clear hK K
 refine aT ?_
 obtain⟨g,hg⟩:∃g,g=w.heap.size:=⟨_,rfl⟩
 obtain⟨W1,hW1⟩:∃W1,W1=w.alloc (.cells (aG A).toArray 35):=⟨_,rfl⟩
 have hrow:∀W,Below W1.heap.size W1 W->W.heap[g]? =some (.cells (aG A).toArray 35 (0,0)):=λW hW=>by
  rw[hW.block g (by rw[hW1,hg];simp),hW1,hg];exact aC w _
 have hB1:Below w.heap.size w W1:=by rw[hW1];exact(Below.refl _ _).alloc (Nat.le_refl _) _
 rw[<-hg,<-hW1]
 refine lD rfl λa ha hdf=>?_
 have hO:Ev.Ok Tryz.prog (λ(_:Unit) W=>Below W1.heap.size W1 W) (amM g A):=by
  refine Ev.jw (λt f d h=>qZ h) (λq b o l h W hS=>?_) (λf vs v h=>sQ h) (λo ov v h ρ hov W hS=>Ev.pz h hov (λ_=>rfl) W)
  rcases q with _|q
  ·cases h
   intro j v hv
   rw[Nat.zero_add,cell_of_row _ _ _ _ _ _ (hrow W hS)]
   simpa using hv
  ·cases h
 refine wp_seq ?_
 refine Ev.oC (W0:=W1) (m:=91) (M:=amM g A) (K:=[(1,.p 0 0)]) 86 2 (mr A) hO (by kernel_rfl) (Ev.aH (Ev.ag (by rw[ha];rfl) hdf) (by rw[ha];rfl)) (Below.refl _ _) (show 0<6 by decide) (show 6<=1000 by decide) (by kernel_rfl) (by kernel_rfl) ?_
 intro b W hB hF
 refine wp_ret ?_
 refine bodyPost_ret (results_tmp rfl _ _ _) hF.defers ?_
 rw[hg]
 exact⟨by rw[show b.tmps.getD 2 undef=.int .i64 (af (mr A))from eval_at (hF.look 2 _ rfl)],hB1.trans (hB.mono hB1.size)⟩
theorem dL {b:Bool}{n:Int}{rs:List (Bool×Int)}{P:Prop}[Decidable P](h:b=true↔P):af ((b,n)::rs)=if P then n else af rs:=by
 show(if b=true then n else af rs)=_
 by_cases hp:P
 ·rw[if_pos hp,if_pos (h.2 hp)]
 ·rw[if_neg hp,if_neg (λhb=>hp (h.1 hb))]
theorem iD (n lo hi:Int):inB n lo hi=true↔lo<=n/\n<=hi:=by
 unfold inB;simp
theorem qi (n:Int)(u:Bool):Bc n u=true↔if u=true then 1<=n/\n<=Ps.bJ else n=0:=by
 unfold Bc Ps.bJ
 cases u
 ·simp
 ·simp[iD]
theorem bG {b:Bool}{P:Prop}(h:b=true↔P):(!b)=true↔¬P:=by
 rw[<-h];cases b<;>simp
theorem KW (A:Ps.Amd):af (mr A)=Ps.yC A:=by
 unfold mr Ps.yC
 rw[dL (P:=A.hasAmount=false/\A.hasSettleDay=false/\A.hasPriority=false/\A.hasPartial=false) (by simp[and_assoc]),
  dL (P:=(A.hasAmount=false/\A.amount≠0)\/(A.hasSettleDay=false/\A.settleDay≠0)\/(A.hasPriority=false/\A.priority≠0)\/(A.hasPartial=false/\(A.partial_=true\/A.minLot≠0))) (by simp[or_assoc]),
  dL (bG (qi _ _)),dL (bG (iD _ _ _)),dL (bG (iD _ _ _)),dL (bG (qi _ _))]
 rfl
def iC (V:Nat->ByteArray->Bool)(i:Ps.Ins)(sn:Nat):List (Bool×Int):=[((!(inB i.kind 0 4)),11),((!(V 2 i.ref)),6),((!(V 1 i.sender)),6),((((i.kind==3)||(i.kind==4))&&(!(i.counterparty.toList==(⟨#[]⟩:ByteArray).toList))),3),(((!((i.kind==3)||(i.kind==4)))&&(!(V 1 i.counterparty))),6),((i.counterparty.toList==i.sender.toList),1),((!(inB i.side 0 1)),11),(((!((i.kind==1)||(i.kind==2)))&&(i.side !=0)),3),((!(if (i.kind==0)=true then(i.asset.toList==[67,65,83,72])else V 0 i.asset)),6),((!(Bc i.quantity (i.kind !=0))),2),((!(Bc i.amount ((i.kind==0)||(i.kind==1)))),2),((!(inB i.settleDay 0 73048)),28),(((((i.kind==1)||(i.kind==2))&&(!(inB i.tradeDay 0 i.settleDay)))||((!((i.kind==1)||(i.kind==2)))&&(i.tradeDay !=0))),28),(((!(inB i.priority 0 2))||(((i.kind==3)||(i.kind==4))&&(i.priority !=0))),2),((i.partial_&&(!((i.kind==1)||(i.kind==2)))),3),(((i.partial_&&(decide (i.minLot<1)))||(!(inB i.minLot 0 (if i.partial_=true then i.quantity else 0)))),2),((i.hold&&((i.kind==3)||(i.kind==4))),3),((i.reserve&&((i.kind !=0)||(i.priority !=2))),3),((((i.kind==3)||(i.kind==4))&&(decide (0<(sn:Int)))),3),((decide (8<(sn:Int))),8)]
theorem Ce (s t:ByteArray):(s.toList==t.toList)=true↔s=t:=by
 rw[beq_iff_eq]
 constructor
 ·intro h
  rw[Lib.toList_data,Lib.toList_data]at h
  exact Go.WideShapes.bytes_inj h
 ·rintro rfl;rfl
def qE (d:Int):List (Bool×Int)->Int
 |[]=>d
 |x::rs=>if x.1=true then x.2 else qE d rs
theorem aa {d:Int}{b:Bool}{n:Int}{rs:List (Bool×Int)}{P:Prop}[Decidable P](h:b=true↔P):qE d ((b,n)::rs)=if P then n else qE d rs:=by
 show(if b=true then n else qE d rs)=_
 by_cases hp:P
 ·rw[if_pos hp,if_pos (h.2 hp)]
 ·rw[if_neg hp,if_neg (λhb=>hp (h.1 hb))]
theorem tH (d:Int):∀rs:List (Bool×Int),(∀x∈rs,x.2≠0)->qE d rs=if af rs≠0 then af rs else d
 |[],_=>by simp[qE,af]
 |x::rs,h=>by
  have ih:=tH d rs λy hy=>h y (List.mem_cons_of_mem _ hy)
  have hx:=h x List.mem_cons_self
  show(if x.1=true then x.2 else qE d rs)=if (if x.1=true then x.2 else af rs)≠0 then(if x.1=true then x.2 else af rs)else d
  by_cases hb:x.1=true
  ·simp only[if_pos hb,if_pos hx]
  ·simp only[if_neg hb];exact ih
theorem nN (i:Ps.Ins):((i.kind==3)||(i.kind==4))=true↔i.kind=3\/i.kind=4:=by simp
theorem rz (i:Ps.Ins):((i.kind==1)||(i.kind==2))=true↔i.kind=1\/i.kind=2:=by simp
theorem eu {a b:Bool}{P Q:Prop}(h1:a=true↔P)(h2:b=true↔Q):(a&&b)=true↔P/\Q:=by rw[Bool.and_eq_true,h1,h2]
theorem rT {a b:Bool}{P Q:Prop}(h1:a=true↔P)(h2:b=true↔Q):(a||b)=true↔P\/Q:=by rw[Bool.or_eq_true,h1,h2]
theorem qx (a b:Int):(a !=b)=true↔a≠b:=by simp
theorem LV (b:Bool):(!b)=true↔b=false:=by simp
theorem Ll (V:Nat->ByteArray->Bool)(i:Ps.Ins):Ps.oL V i=if af (iC V i i.links.length)≠0 then af (iC V i i.links.length)else Ps.fE V i [] i.links:=by
 rw[<-tH _ _ (by unfold iC;simp)]
 unfold iC Ps.oL
 have hs:(!(i.counterparty.toList==(⟨#[]⟩:ByteArray).toList))=true↔i.counterparty≠⟨#[]⟩:=bG (Ce _ _)
 have hcash:(if (i.kind==0)=true then(i.asset.toList==[67,65,83,72])else V 0 i.asset)=true↔if i.kind=0 then i.asset=Ps.uH else V 0 i.asset=true:=by
  have h2:([67,65,83,72]:List UInt8)=Ps.uH.toList:=by rw[Lib.toList_data];rfl
  rw[h2]
  by_cases h:i.kind=0
  ·simp only[h,BEq.rfl,if_true];exact Ce _ _
  ·have:(i.kind==0)=false:=by simp[h]
   simp only[this,h,if_false,Bool.false_eq_true]
 have hq:(!(Bc i.quantity (i.kind !=0)))=true↔¬(if i.kind≠0 then 1<=i.quantity/\i.quantity<=Ps.bJ else i.quantity=0):=by
  refine(bG (qi _ _)).trans (not_congr ?_)
  by_cases h:i.kind=0<;>simp[h]
 have ha:(!(Bc i.amount ((i.kind==0)||(i.kind==1))))=true↔¬(if i.kind=0\/i.kind=1 then 1<=i.amount/\i.amount<=Ps.bJ else i.amount=0):=by
  refine(bG (qi _ _)).trans (not_congr ?_)
  simp
 have hlot:((i.partial_&&(decide (i.minLot<1)))||(!(inB i.minLot 0 (if i.partial_=true then i.quantity else 0))))=true↔(i.partial_=true/\i.minLot<1)\/¬(0<=i.minLot/\i.minLot<=if i.partial_=true then i.quantity else 0):=
  rT (eu Iff.rfl decide_eq_true_iff) (bG (iD _ _ _))
 rw[aa (bG (iD _ _ _)),aa (LV _),aa (LV _),aa (eu (nN i) hs),aa (eu (bG (nN i)) (LV _)),aa (Ce _ _),aa (bG (iD _ _ _)),
  aa (eu (bG (rz i)) (qx _ _)),aa (bG hcash),aa hq,aa ha,aa (bG (iD _ _ _)),
  aa (rT (eu (rz i) (bG (iD _ _ _))) (eu (bG (rz i)) (qx _ _))),aa (rT (bG (iD _ _ _)) (eu (nN i) (qx _ _))),
  aa (eu Iff.rfl (bG (rz i))),aa hlot,aa (eu Iff.rfl (nN i)),aa (eu Iff.rfl (rT (qx _ _) (qx _ _))),
  aa (P:=(i.kind=3\/i.kind=4)/\0<i.links.length) (eu (nN i) (by simp)),aa (P:=8<i.links.length) (by simp;omega)]
 rfl
section
variable {S : World → Prop} {ρ : Operand → Value} {o : Oper}
end
theorem sl_to (a:Option Addr)(n c k:Nat)(h1:k<=n)(h2:n<=c)(_h3:n<=1000)(w:World):(Instr.sliceAt 32 (.slice a n c) none (some (.int .i64 k)) none).run Tryz.prog w=.ok (.slice a k c) w:=by
 have e1:(k:Int)<=(c:Int):=by omega
 go_simp
 done
def ng (V:Nat->ByteArray->Bool)(i:Ps.Ins)(seen:List Ps.Link)(x:Ps.Link):List (Bool×Int):=[(!(inB x.type 0 1),11),(!(V 2 x.ref),6),(x.ref.toList==i.ref.toList,26),(jB seen x.ref,7)]
theorem FX (ks:List Ps.Link)(r:ByteArray):jB ks r=true↔∃y∈ks,y.ref=r:=by
 unfold jB
 rw[List.any_eq_true]
 exact exists_congr λy=>and_congr_right λ_=>Ce _ _
theorem DT (V:Nat->ByteArray->Bool)(i:Ps.Ins)(seen:List Ps.Link)(x:Ps.Link)(r:List Ps.Link):Ps.fE V i seen (x::r)=if af (ng V i seen x)≠0 then af (ng V i seen x)else Ps.fE V i (seen++[x]) r:=by
 rw[<-tH _ _ (by unfold ng;simp)]
 unfold ng
 rw[aa (bG (iD _ _ _)),aa (LV _),aa (Ce _ _),aa (FX _ _)]
 rfl
def vo (i j:Ps.Ins)(eL:Bool):Bool:=((((((((((((((((i.ref.toList==j.ref.toList)&&(i.kind==j.kind))&&(i.sender.toList==j.sender.toList))&&(i.counterparty.toList==j.counterparty.toList))&&(i.side==j.side))&&(i.asset.toList==j.asset.toList))&&(i.quantity==j.quantity))&&(i.amount==j.amount))&&(i.tradeDay==j.tradeDay))&&(i.settleDay==j.settleDay))&&(i.priority==j.priority))&&(i.partial_==j.partial_))&&(i.minLot==j.minLot))&&(i.hold==j.hold))&&(i.reserve==j.reserve))&&eL)
def NM (eL:Bool)(f:FuncId)(vs:List AV):Option Value:=if f=83 then(match vs with|[.r 0 15,.r 1 15]=>some (.bool eL)|_=>none)else none
def eqM (g h:Nat)(i j:Ps.Ins)(la lb:Value)(eL:Bool):Mem Unit:=lX pM [(some (g,0),aA i la),(some (h,0),aA j lb)] (NM eL)
theorem Km (w:World)(i j:Ps.Ins)(sa ta:Option Addr)(sn sc tn tc:Nat)(eL:Bool)
 (c101:∀w',Below w.heap.size w w'->Calls Tryz.prog 83 #[.slice sa sn sc,.slice ta tn tc] w' λe w''=>e=.returned (.bool eL)/\Below w'.heap.size w' w''):
 Calls Tryz.prog 35 #[.agg (aA i (.slice sa sn sc)).toArray,.agg (aA j (.slice ta tn tc)).toArray] w λe w'=>e=.returned (.bool (vo i j eL))/\Below w.heap.size w w':=by
 go_enter Tryz.func35,Tryz.ntmps35
 refine wp_seq ?_
 refine wp_region_lit ?_
 refine wpList_plain rfl (λK hK=>?_)
 go_simp
 refine hK _ _ ?_
 clear hK K
 refine wpList_plain rfl (λK hK=>?_)
 go_simp
 refine hK _ _ ?_
 clear hK K
 refine wpList_plain rfl (λK hK=>?_)
 go_simp
 refine hK _ _ ?_
 clear hK K
 refine aT ?_
 obtain⟨Wa,hWa⟩:∃Wa,Wa=w.alloc (.cells (aA i (.slice sa sn sc)).toArray 34):=⟨_,rfl⟩
 obtain⟨W1,hW1⟩:∃W1,W1=Wa.alloc (.cells (aA j (.slice ta tn tc)).toArray 34):=⟨_,rfl⟩
 obtain⟨g,hg⟩:∃g,g=w.heap.size:=⟨_,rfl⟩
 obtain⟨h,hh⟩:∃h,h=w.heap.size+1:=⟨_,rfl⟩
 have hha:h=Wa.heap.size:=by rw[hh,hWa];simp
 have GM:Below Wa.heap.size Wa W1:=by rw[hW1];exact(Below.refl _ _).alloc (Nat.le_refl _) _
 have hrow:∀W,Below W1.heap.size W1 W->W.heap[g]? =some (.cells (aA i (.slice sa sn sc)).toArray 34 (0,0)):=λW hW=>by
  rw[hW.block g (by rw[hW1,hWa,hg];simp;omega),GM.block g (by rw[hWa,hg];simp),hWa,hg];exact aC w _
 have pE:∀W,Below W1.heap.size W1 W->W.heap[h]? =some (.cells (aA j (.slice ta tn tc)).toArray 34 (0,0)):=λW hW=>by
  rw[hW.block h (by rw[hha,hW1];simp),hW1,hha];exact aC Wa _
 have hB1:Below w.heap.size w W1:=((by rw[hWa];exact(Below.refl _ _).alloc (Nat.le_refl _) _:Below w.heap.size w Wa).trans (GM.mono (by rw[hWa];simp)))
 rw[<-hWa,<-hW1,<-hg]
 rw[<-hg]at hh
 rw[<-hh]
 clear hW1 hWa hha GM hh
 refine lD rfl λa ha hdf=>?_
 have hO:Ev.Ok Tryz.prog (λ(_:Unit) W=>Below W1.heap.size W1 W) (eqM g h i j (.slice sa sn sc) (.slice ta tn tc) eL):=by
  refine Ev.jw (λt f d h=>qZ h) (λq b o l h W hS=>?_) (λf vs v h=>?_) (λ_ _ _ h=>by cases h)
  ·rcases q with _|_|q
   ·cases h;exact kR hrow W hS
   ·cases h;exact kR pE W hS
   ·cases h
  ·unfold NM at h
   split at h
   ·rename_i hf
    subst hf
    split at h
    ·cases h
     exact⟨ent101,λW hS=>(c101 W (hB1.trans (hS.mono hB1.size))).mono λe w' q=>⟨q.1,hS.trans (q.2.mono hS.size)⟩⟩
    ·cases h
   ·cases h
 refine Ev.JR (M:=eqM g h i j (.slice sa sn sc) (.slice ta tn tc) eL) (S:=λ_ W=>Below W1.heap.size W1 W) (n:=115) (K:=[(2,.p 0 0),(3,.p 1 0)]) (s:=()) (v:=vo i j eL) 4 hO (λ_ W h=>h.drew) (by kernel_rfl) (by kernel_rfl) (Ev.aH (Ev.aH (Ev.ag (by rw[ha];rfl) hdf) (by rw[ha];rfl)) (by rw[ha];rfl)) (Below.refl _ _) ?_
 intro b W s hd ht hS
 refine bodyPost_ret (results_tmp rfl _ _ _) hd ?_
 rw[hg]
 exact⟨by rw[show b.tmps.getD 4 undef=.bool (vo i j eL)from eval_at ht],hB1.trans (hS.mono hB1.size)⟩
end Go.Proofs.YtnjjeapcalkmaaaGreatDoor
