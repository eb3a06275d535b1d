/-
  Part 5 of a proof; written short by a program out of longer texts of mine.
-/
import Derived.Test.YtnjjeapcalkmaaaGreatDoorPiD
set_option maxRecDepth 100000
set_option maxHeartbeats 4000000
set_option linter.unusedVariables false
set_option linter.unusedSimpArgs false
namespace Go.Proofs.YtnjjeapcalkmaaaGreatDoor
open Go.RowKit
structure iW (m:Int)(kb ko kc:Nat)(W0:World):Prop where
 lx:kM m kb ko kc W0
 id:lw W0
 pr:∀w,Below W0.heap.size W0 w->rQ w
 am:rG m W0
theorem iW.below {m:Int}{kb ko kc:Nat}{W0 w:World}(h:iW m kb ko kc W0)(hb:Below W0.heap.size W0 w):iW m kb ko kc w:=
 ⟨h.lx.below hb,λw' hw'=>h.id w' (hb.trans (hw'.mono hb.size)),λw' hw'=>h.pr w' (hb.trans (hw'.mono hb.size)),h.am.below hb⟩
def bN:Ps.Env:=psE (qA xH) nD (ji Ps.fM)
def psR:Ps.Req->Int:=Ps.zW bN.valid
theorem Py {m:Int}{kb ko kc:Nat}{W0:World}(h:iW m kb ko kc W0):nH 225 W0 (qA xH):=
 ps_amt m kb ko kc h.lx xH λw s hw hs hd=>JX s w m hs (h.am.below hw) hd
theorem pv_qty {m:Int}{kb ko kc:Nat}{W0:World}(h:iW m kb ko kc W0):nH 257 W0 nD:=ps_qty m kb ko kc h.lx h.am
theorem pv_day (W0:World):nH 226 W0 (ji Ps.fM):=
 Ik Ps.fM (λs=>by have:=Ps.Hy s;exact aW (by omega)) λw s _ hs=>MC s w hs
theorem MN (D:ByteArray->Int×Int)(s:ByteArray):(ji D s).2=0\/ji D s=(0,28):=by
 unfold ji
 split
 ·exact .inl rfl
 ·exact .inr rfl
def ChkC (W0:World):Prop:=∀(w:World) (B:Nat) (Q:Ps.Req) (a:Option Addr) (n c:Nat),Below W0.heap.size W0 w->bG w B (.slice a n c) Q.ins.links->
 Calls Tryz.prog 30 #[.agg (aA Q (.slice a n c))] w λe W'=>e=.returned (.int .i64 (psR Q))/\Below w.heap.size w W'
namespace Ps
def zN (E:Env)(l:List Tok):St×Req:=
 if (aQ l 0).data.toList∈verbs then((step (bind' (ref E l) λr=>rest E l (aQ l 0).data.toList {ref:=r}) {} (.ok 1)).2,(step (bind' (ref E l) λr=>rest E l (aQ l 0).data.toList {ref:=r}) {} (.ok 1)).1)
 else(.error (aU l 0,30),{})
def JC (l:List Tok):St->St
 | .ok b=>if b<l.length then .error (aU l b,30)else .ok b
 | .error e=>.error e
theorem Nl (E:Env)(l:List Tok)(hl:0<l.length):line E l 0=match JC l (zN E l).1 with
 | .ok b=>.ok ((zN E l).2,b)
 | .error e=>.error e:=by
 unfold line zN
 rw[if_neg (by omega)]
 by_cases hv:(aQ l 0).data.toList∈verbs
 ·rw[if_pos hv,if_pos hv]
  simp only[]
  cases hr:ref E l 1 with
  |error e=>
   rw[show(0+1:Nat)=1 from rfl,cu hr,af (cu hr)]
   rfl
  |ok x=>
   obtain⟨x,b⟩:=x
   rw[show(0+1:Nat)=1 from rfl,bind_ok hr]
   cases hq:rest E l (aQ l 0).data.toList {ref:=x} b with
   |error e=>rw[cu hq,af (show bind' (ref E l) (λr=>rest E l (aQ l 0).data.toList {ref:=r}) 1=.error e from by rw[bind_ok hr];exact hq)];rfl
   |ok y=>
    obtain⟨y,d⟩:=y
    rw[bind_ok hq,step_ok (show bind' (ref E l) (λr=>rest E l (aQ l 0).data.toList {ref:=r}) 1=.ok (y,d)from by rw[bind_ok hr];exact hq)]
    show(if d<l.length then _ else _)=_
    unfold JC
    by_cases hd:d<l.length
    ·simp only[if_pos hd]
    ·simp only[if_neg hd]
 ·rw[if_neg hv,if_neg hv]
  rfl
theorem Res.state {α:Type}{p:P α}{st st':St}{x:α}(z:α)(h:Res p st st' x):st'=(step p z st).2:=by
 cases st with
 |error e=>exact h
 |ok a=>
  cases st' with
  |error e=>rw[af (show p a=.error e from h)]
  |ok b=>rw[step_ok (show p a=.ok (x,b)from h)]
theorem Res.value {α:Type}{p:P α}{st st':St}{x:α}(z:α)(h:Res p st st' x)(b:Nat)(hb:st'=.ok b):x=(step p z st).1:=by
 subst hb
 cases st with
 |error e=>cases h
 |ok a=>rw[step_ok (show p a=.ok (x,b)from h)]
end Ps
theorem uK:iK.map (λx=>x.1.data.toList)=Ps.verbs:=rfl
theorem Mc:∀a b:Fin 9,a<b->Ps.verbs[a.val]?≠Ps.verbs[b.val]?:=by decide
theorem fm_low {j0 j:Nat}{v:Ps.Bs}(h0:Ps.verbs[j0]? =some v)(hj:j<j0){y:ByteArray×Nat}(hy:iK[j]? =some y):y.1.data.toList≠v:=by
 intro he
 have hl:j0<9:=(List.getElem?_eq_some_iff.1 h0).1
 have h1:Ps.verbs[j]? =some y.1.data.toList:=by rw[<-uK,List.getElem?_map,hy];rfl
 exact Mc ⟨j,by omega⟩ ⟨j0,hl⟩ hj (by rw[h0];show Ps.verbs[j]? =_;rw[h1,he])
theorem bT.put {W0 W:World}{r tb cap q:Nat}{l:List Ps.Tok}{st:Ps.St}{Q:Ps.Req}{lv:Value}{w:World}(h:bT W0 W r tb cap q l st (aA Q lv) w)(j:Nat)(v:Value)(Q':Ps.Req)(hQ:(aA Q lv).setIfInBounds j v=aA Q' lv):bT W0 W r tb cap q l st (aA Q' lv) (w.setCell ⟨q,j,none⟩ v):=by
 rw[<-hQ];exact h.store j v
theorem bT.qr {W0 W:World}{r tb cap q:Nat}{l:List Ps.Tok}{st:Ps.St}{Q:Ps.Req}{w:World}(h:bT W0 W r tb cap q l st (aA Q eF) w)(hr:r<W.heap.size)(hq:q<W.heap.size)(hk:Q.ins.links=[]):fA W0 W r tb cap q l W.heap.size st Q w:=⟨hr,hq,eF,h,by rw[hk];exact bG.nil _ _⟩
theorem bT.inc {W0 W:World}{r tb cap q a:Nat}{l:List Ps.Tok}{cs:Array Value}{w:World}(h:bT W0 W r tb cap q l (.ok a) cs w)(hlt:a<l.length):
 (w.cell? ⟨r,1,none⟩=some (.int .i64 a)/\w.frozen? ⟨r,1,none⟩=false)/\bT W0 W r tb cap q l (.ok (a+1)) cs (w.setCell ⟨r,1,none⟩ (.int .i64 ((a:Int)+1)))/\Tch r r w (w.setCell ⟨r,1,none⟩ (.int .i64 ((a:Int)+1))):=by
 obtain⟨a',o,e,hr,ht,hne,hpos,hcap,fT,hst⟩:=h.1.rd
 obtain⟨rfl,rfl,hle⟩:=hst
 obtain⟨-,k1,-,-,-⟩:=bf hr
 have hT:Tch r r w (w.setCell ⟨r,1,none⟩ (.int .i64 ((a':Int)+1))):=(Tch.refl r r w).setCell 1 _
 refine⟨⟨k1,aZ 1 hr⟩,h.step (h.1.next ⟨a'+1,o,0,?_,ht.tch hT hne hne,hne,hpos,hcap,fT,rfl,rfl,hlt⟩ hT) hT,hT⟩
 have:=bB w r 1 _ _ (.int .i64 ((a':Int)+1)) hr
 exact this
theorem G9 {w Wr:World}{r tb cap q:Nat}{l:List Ps.Tok}{E:Ps.Env}(hl:ek l)(env:lw w)(hpos:0<l.length)(yT:r<Wr.heap.size)(xI:q<Wr.heap.size)(_hmany:l.length<=1000000)(hE:Ps.ref E l=vJ l)(_fb:Nat)
 (t:ByteArray) (j0:Nat) (v0:ByteArray) (fn:Nat) (hj0:iK[j0]? =some (v0,fn)) (htx:v0.data.toList=t.data.toList) (eg:∀args w,(callFunc fn args).run Tryz.prog w=.ok (.enter fn args) w) (hform:ky fn w Wr r tb cap q l E t.data.toList)
 (P3 P7:World->Prop) (hP3:∀w',P3 w'->bT w Wr r tb cap q l (.ok 0) (aA {} eF) w')
 (hP7:∀st' Q' w',fA w Wr r tb cap q l Wr.heap.size st' Q' w'->Ps.Res (Ps.bind' (Ps.ref E l) λx=>Ps.rest E l t.data.toList {ref:=x}) (.ok 1) st' Q'->P7 w'):En r q t P3 P7:=by
 have hvj:Ps.verbs[j0]? =some t.data.toList:=by rw[<-htx,<-uK,List.getElem?_map,hj0];rfl
 refine .found (λb w'=>bT w Wr r tb cap q l (.ok 1) (aA {} eF) w'/\w'.heap[b]? =some (.cells #[.string v0,.func (.func fn) #[] #[]] 103 (0,0))/\Wr.heap.size<=b)
  (λb w'=>bT w Wr r tb cap q l (Ps.step (vJ l) ⟨#[]⟩ (.ok 1)).2 (aA {} eF) w'/\w'.heap[b]? =some (.cells #[.string v0,.func (.func fn) #[] #[]] 103 (0,0))/\Wr.heap.size<=b)
  (λb w'=>bT w Wr r tb cap q l (Ps.step (vJ l) ⟨#[]⟩ (.ok 1)).2 (aA {ref:=(Ps.step (vJ l) ⟨#[]⟩ (.ok 1)).1} eF) w'/\w'.heap[b]? =some (.cells #[.string v0,.func (.func fn) #[] #[]] 103 (0,0))/\Wr.heap.size<=b)
  j0 v0 fn (Ps.step (vJ l) ⟨#[]⟩ (.ok 1)).1 0 hj0 (by rw[Lib.toList_data,Lib.toList_data,htx];exact beq_self_eq_true _) (λj y hj hy=>by rw[Lib.toList_data,Lib.toList_data,beq_eq_false_iff_ne];exact fm_low hvj hj hy) eg (by unfold wrap64;omega)
  (Lib.hid ?_) (Lib.hid ?_) (Lib.hid ?_) (Lib.hid ?_) (Lib.hid ?_)
 ·rintro w1 w2 h1 rfl
  have h2:=hP3 w1 h1
  have hb:=(Below.refl w1.heap.size w1).alloc (Nat.le_refl _) (.cells #[.string v0,.func (.func fn) #[] #[]] 103)
  have h3:=h2.step (h2.1.below hb) (Tch.of_below hb)
  obtain⟨c1,c2,c3⟩:=h3.inc hpos
  have hsz:=h2.2.2.1.size
  have hrow:=aC w1 (.cells #[.string v0,.func (.func fn) #[] #[]] 103)
  exact⟨c1,c2,(c3.block _ (by simp) (by omega) (by omega)).trans hrow,hsz⟩
 ·rintro w1 b ⟨h1,h2,h3⟩
  refine(KC hl env w1 r tb cap _ h1.1).mono ?_
  rintro e W' ⟨c1,c2,c3⟩
  exact⟨c1,h1.step c2 c3,(c3.block b (Array.getElem?_eq_some_iff.1 h2).1 (by omega) (by omega)).trans h2,h3⟩
 ·rintro w1 b ⟨h1,h2,h3⟩
  refine⟨h1.cell 2 (by show 2<28;omega),h1.put 2 _ _ rfl,?_,h3⟩
  exact(((Tch.refl q q w1).setCell 2 _).block b (Array.getElem?_eq_some_iff.1 h2).1 (by omega) (by omega)).trans h2
 ·rintro w1 b ⟨h1,h2,h3⟩
  rw[cell_of_row _ _ _ _ _ _ h2];rfl
 ·rintro w1 b ⟨h1,h2,h3⟩
  refine(hform _ _ w1 h1 rfl rfl).mono ?_
  rintro e W' ⟨c1,st',Q',c2,c3⟩
  refine⟨c1,hP7 st' Q' W' c2 (Ps.Res.bind ?_ c3)⟩
  rw[hE]
  exact Ps.Res.of_step _ _ _
theorem IL {v:Ps.Bs}(h:v∈Ps.verbs):v=Ps.BO\/v=Ps.di\/v=Ps.d9\/v=Ps.fF\/v=Ps.dR\/v=Ps.lT\/v=Ps.eQ\/v=Ps.bK\/v=Ps.fI:=by
 simpa[Ps.verbs]using h
def l9 (w:World)(P:Ps.Req×Int×Int)(rv:Value)(o x:Int)(W':World):Prop:=
 (∃lv,rv=.agg (aA P.1 lv)/\bG W' w.heap.size lv P.1.ins.links)/\o=P.2.1/\x=P.2.2/\Below w.heap.size w W'
theorem bT.other {W0 W:World}{r tb cap q:Nat}{l:List Ps.Tok}{st:Ps.St}{cs:Array Value}{w:World}(h:bT W0 W r tb cap q l st cs w){g:Nat}{o:Obj}(hg:W.heap[g]? =some o)(h1:g≠r)(h2:g≠q):w.heap[g]? =some o:=
 (h.2.2.1.block g (Array.getElem?_eq_some_iff.1 hg).1 h1 h2).trans hg
theorem KQ {m:Int}{kb ko kc:Nat}{w w1:World}(env:iW m kb ko kc w)(chk:ChkC w)(tb cap g:Nat)(l:List Ps.Tok)(hl:ek l)(hpos:0<l.length)(hcap:l.length<=cap)(fT:l.length<=1000000)(hg:g=w.heap.size)
 (hgz:w1.heap[g]? =some (.cells aF 37 (0,0))) (hb1:Below w.heap.size w w1) (htb:g<tb) (htl:tb<w1.heap.size) (DR:gm w1 tb l) (P:Ps.Req×Int×Int)
 (hP:P=match Ps.line bN l 0 with
  | .error e=>({},e.1,e.2)
  | .ok (q,_)=>
    let q:=if q.op=0 then{q with sender:=q.ins.sender,ins:={q.ins with ref:=q.ref} }else q
    if psR q≠0 then({},Ps.aU l 0,psR q)else(q,0,0)):
 F7 g tb l.length cap w1 (l9 w P):=by
 obtain⟨r,hr⟩:∃r,r=w1.heap.size:=⟨_,rfl⟩
 obtain⟨q,hq⟩:∃q,q=w1.heap.size+1:=⟨_,rfl⟩
 obtain⟨Wr,hWr⟩:∃Wr,Wr=(w1.alloc (.cells (av tb l.length cap 0 0 0) 97)).alloc (.cells aF 37):=⟨_,rfl⟩
 have hsz1:(w1.alloc (.cells (av tb l.length cap 0 0 0) 97)).heap.size=w1.heap.size+1:=by simp
 have oC:Below w1.heap.size w1 (w1.alloc (.cells (av tb l.length cap 0 0 0) 97)):=(Below.refl _ _).alloc (Nat.le_refl _) _
 have hbb:Below (w1.heap.size+1) (w1.alloc (.cells (av tb l.length cap 0 0 0) 97)) Wr:=by
  rw[hWr,<-hsz1];exact(Below.refl _ _).alloc (Nat.le_refl _) _
 have hbr:Below w1.heap.size w1 Wr:=oC.trans (hbb.mono (by omega))
 have hrr:Wr.heap[r]? =some (.cells (av tb l.length cap 0 0 0) 97 (0,0)):=by
  rw[hr,hbb.block w1.heap.size (by omega)];exact aC w1 _
 have hqr:Wr.heap[q]? =some (.cells aF 37 (0,0)):=by
  rw[hWr,hq,<-hsz1];exact aC _ _
 have yT:r<Wr.heap.size:=(Array.getElem?_eq_some_iff.1 hrr).1
 have xI:q<Wr.heap.size:=(Array.getElem?_eq_some_iff.1 hqr).1
 have hgW:Wr.heap[g]? =some (.cells aF 37 (0,0)):=(hbr.block g (by omega)).trans hgz
 have hbw:Below w.heap.size w Wr:=hb1.trans (hbr.mono hb1.size)
 have hrd:eu Wr r tb cap l (.ok 0):=⟨0,0,0,hrr,DR.below hbr htl,by omega,hpos,hcap,fT,rfl,rfl,by omega⟩
 have hR0:bT w Wr r tb cap q l (.ok 0) (aA {} eF) Wr:=⟨⟨hrd,hbw,by have:=hb1.size;omega⟩,hqr,Tch.refl _ _ _,by omega,by omega,by have:=hb1.size;omega⟩
 have eid:lw w:=env.id
 have hdd:∀s,(ji Ps.fM s).2=0\/ji Ps.fM s=(0,28):=MN _
 have Mf:Pdr w l bN:=⟨hl,by unfold bN;rw[Gb];exact KC hl eid,by unfold bN;rw[uI];exact xX hl eid,by unfold bN;rw[Jr];exact O9 hl eid,by unfold bN;rw[psE_by];exact ps_by hl eid,Na hl _ (Py env),CF hl _ (pv_qty env),by unfold bN;rw[PU _ _ _ hdd];exact ps_day hl _ (pv_day w),env.pr⟩
 have qi:Db w Wr r tb cap q l bN:=C9 Mf yT xI
 obtain⟨t,ht⟩:∃t,t=Ps.aQ l 0:=⟨_,rfl⟩
 obtain⟨st7,NV⟩:∃st7,st7=(Ps.zN bN l).1:=⟨_,rfl⟩
 obtain⟨Q7,hQ7⟩:∃Q7,Q7=(Ps.zN bN l).2:=⟨_,rfl⟩
 have rT:=Ps.Nl bN l hpos
 rw[<-NV,<-hQ7]at rT
 obtain⟨st9,Ob⟩:∃st9,st9=Ps.JC l st7:=⟨_,rfl⟩
 rw[<-Ob]at rT
 have hgr:g≠r:=by omega
 have hgq:g≠q:=by omega
 refine .mk t (λw'=>bT w Wr r tb cap q l (.ok 0) (aA {} eF) w') (λw'=>bT w Wr r tb cap q l (.ok 0) (aA {} eF) w')
  (λw'=>∃Q',fA w Wr r tb cap q l Wr.heap.size st7 Q' w'/\∀b,st7=.ok b->Q'=Q7) (λw'=>∃Q',fA w Wr r tb cap q l Wr.heap.size st7 Q' w'/\∀b,st7=.ok b->Q'=Q7) (λw'=>∃Q',fA w Wr r tb cap q l Wr.heap.size st9 Q' w'/\∀b,st9=.ok b->Q'=Q7)
  (λfb w'=>bT w Wr r tb cap q l (.ok 0) (aA {} eF) w'/\w'.heap[fb]? =some (.cells pU.toArray 103 (0,0))) (Ps.dA l st7) hpos ?_ (Lib.hid ?_) (Lib.hid ?_) (Lib.hid ?_) (Lib.hid ?_) (Lib.hid ?_) (Lib.hid ?_) (Lib.hid ?_) (Lib.hid ?_) ?_
 ·
  rw[<-hr,<-hWr]
  have n2:=tV hrd hl
  rw[show Ps.dA l (.ok 0)=true from by simp[Ps.dA,hpos],show Ps.fC l (.ok 0)=.ok 0 from by simp[Ps.fC,hpos]]at n2
  refine n2.mono ?_
  rintro e W' ⟨c1,c2,c3⟩
  exact⟨c1,hR0.step (hR0.1.next c2 c3) c3⟩
 ·
  rw[<-hr]
  intro w' hw'
  refine(tX hw'.1.rd).mono ?_
  rintro e w2 ⟨c1,k,rfl⟩
  have hbk:=below_drewN' (Below.refl w'.heap.size w') k
  exact⟨by rw[ht];exact c1,hw'.step (hw'.1.below hbk) (Tch.of_below hbk)⟩
 ·rintro w' w2 hw' rfl
  have oC:=(Below.refl w'.heap.size w').alloc (Nat.le_refl _) (.cells pU.toArray 103)
  exact⟨hw'.step (hw'.1.below oC) (Tch.of_below oC),aC w' _⟩
 ·rintro fb w' cs ⟨c1,c2⟩
  have oC:=(Below.refl w'.heap.size w').alloc (Nat.le_refl _) (.cells cs 103)
  exact⟨c1.step (c1.1.below oC) (Tch.of_below oC),(oC.block fb (Array.getElem?_eq_some_iff.1 c2).1).trans c2⟩
 ·rintro fb w' ⟨c1,c2⟩ j x hx
  obtain⟨e1,e2⟩:=QN iK j x hx
  refine⟨?_,?_⟩
  ·rw[cell_of_row _ _ _ _ _ _ c2,List.getElem?_toArray];exact e1
  ·rw[cell_of_row _ _ _ _ _ _ c2,List.getElem?_toArray];exact e2
 ·
  rw[<-hr,show r+1=q from by omega]
  intro fb
  by_cases hv:t.data.toList∈Ps.verbs
  ·have hmid:Ps.zN bN l=((Ps.step (Ps.bind' (Ps.ref bN l) λx=>Ps.rest bN l t.data.toList {ref:=x}) {} (.ok 1)).2,(Ps.step (Ps.bind' (Ps.ref bN l) λx=>Ps.rest bN l t.data.toList {ref:=x}) {} (.ok 1)).1):=by
    unfold Ps.zN;rw[<-ht,if_pos hv]
   have fin:∀(j0:Nat) (v0:ByteArray) (fn:Nat),iK[j0]? =some (v0,fn)->v0.data.toList=t.data.toList->(∀args w,(callFunc fn args).run Tryz.prog w=.ok (.enter fn args) w)->ky fn w Wr r tb cap q l bN t.data.toList->
    En r q t (λw'=>bT w Wr r tb cap q l (.ok 0) (aA {} eF) w'/\w'.heap[fb]? =some (.cells pU.toArray 103 (0,0))) (λw'=>∃Q',fA w Wr r tb cap q l Wr.heap.size st7 Q' w'/\∀b,st7=.ok b->Q'=Q7):=λj0 v0 fn hj0 hv0 eg hf=>
    G9 hl eid hpos yT xI fT (Gb _ _ _ l) fb t j0 v0 fn hj0 hv0 eg hf _ _ (λw' h=>h.1) λst' Q' w' h1 h2=>by
     have e1:=h2.state {}
     have e2:=h2.value {}
     rw[NV,hQ7,hmid]
     refine⟨Q',by have h3:=h1;rw[e1]at h3;exact h3,λb hb=>e2 b (by rw[e1];exact hb)⟩
   rcases IL hv with h|h|h|h|h|h|h|h|h
   ·exact fin 0 _ _ rfl h.symm (enters_of Tryz.func99 (by kernel_rfl) rfl) (by rw[h];exact DI Mf qi)
   ·exact fin 1 _ _ rfl h.symm (enters_of Tryz.func100 (by kernel_rfl) rfl) (by rw[h];exact KA Mf qi)
   ·exact fin 2 _ _ rfl h.symm (enters_of Tryz.func101 (by kernel_rfl) rfl) (by rw[h];exact EO Mf qi)
   ·exact fin 3 _ _ rfl h.symm (enters_of Tryz.func102 (by kernel_rfl) rfl) (by rw[h];exact IA Mf yT xI)
   ·exact fin 4 _ _ rfl h.symm (enters_of Tryz.func103 (by kernel_rfl) rfl) (by rw[h];exact E5 Mf yT xI)
   ·exact fin 5 _ _ rfl h.symm (enters_of Tryz.func104 (by kernel_rfl) rfl) (by rw[h];exact Jy Mf (EM Mf yT xI))
   ·exact fin 6 _ _ rfl h.symm (enters_of Tryz.func105 (by kernel_rfl) rfl) (by rw[h];exact JM Mf yT xI)
   ·exact fin 7 _ _ rfl h.symm (enters_of Tryz.func106 (by kernel_rfl) rfl) (by rw[h];exact PM Mf yT xI)
   ·exact fin 8 _ _ rfl h.symm (enters_of Tryz.func107 (by kernel_rfl) rfl) (by rw[h];exact Iq Mf yT xI)
  ·have hmid:Ps.zN bN l=(.error (Ps.aU l 0,30),{}):=by unfold Ps.zN;rw[<-ht,if_neg hv]
   refine .none (λj y hy=>?_) (Lib.hid ?_)
   ·rw[Lib.toList_data,Lib.toList_data,beq_eq_false_iff_ne]
    intro he
    apply hv
    rw[<-he,<-uK]
    exact List.mem_map.2 ⟨y,List.mem_of_getElem? hy,rfl⟩
   ·rintro w' ⟨c1,c2⟩
    refine(jw c1.1.rd 30 (by decide) (λb hb=>by cases hb;exact hpos)).mono ?_
    rintro e W' ⟨h1,h2,h3⟩
    refine⟨h1,{},?_,λb hb=>by rw[NV,hmid]at hb;cases hb⟩
    rw[NV,hmid]
    exact(c1.step (c1.1.next h2 h3) h3).qr yT xI rfl
 ·
  rw[<-hr]
  rintro w' ⟨Q',c1,c2⟩
  refine(mR c1.rd.rd).mono ?_
  rintro e W' ⟨h1,k,rfl⟩
  exact⟨h1,Q',c1.drewN k,c2⟩
 ·
  rw[<-hr]
  rintro hb w' ⟨Q',c1,c2⟩
  obtain⟨b,xM⟩:∃b,st7=.ok b:=by cases hs:st7 with
   |ok b=>exact⟨b,rfl⟩
   |error e=>rw[hs]at hb;cases hb
  have hlt:b<l.length:=by rw[xM]at hb;simpa[Ps.dA]using hb
  have hf:Ps.pW l 30 st7=st9:=by rw[Ob,xM];simp[Ps.JC,Ps.pW,hlt]
  refine(jw c1.rd.rd 30 (by decide) (λb' hb'=>by rw[xM]at hb';cases hb';exact hlt)).mono ?_
  rintro e W' ⟨h1,h2,h3⟩
  refine⟨h1,Q',?_,λb' hb'=>?_⟩
  ·have:=c1.step (c1.rd.next h2 h3) h3
   rw[hf]at this
   exact this
  ·rw[Ob,xM]at hb'
   simp[Ps.JC,hlt]at hb'
 ·rintro hb w' ⟨Q',c1,c2⟩
  have h9:st9=st7:=by
   rw[Ob]
   cases hs:st7 with
   |error e=>rfl
   |ok b=>
    rw[hs]at hb
    have:¬b<l.length:=by simpa[Ps.dA]using hb
    simp[Ps.JC,this]
  rw[h9]
  exact⟨Q',c1,c2⟩
 ·
  rw[<-hr,show r+1=q from by omega]
  cases h9:st9 with
  |error er=>
   rw[h9]at rT
   simp only[]at rT
   rw[rT]at hP
   simp only[]at hP
   refine .err er.1 er.2 hgr (Lib.hid ?_)
   rintro w' ⟨Q',c1,c2⟩
   have hrd9:=c1.rd.rd
   obtain⟨a,o,e,hrow,_,_,_,_,_,hst⟩:=hrd9
   obtain⟨he,ho,hne⟩:=hst
   obtain⟨_,_,k2,k3,_⟩:=bf hrow
   obtain⟨_,_,lv,c3,c4⟩:=c1
   have wU:=c3.other hgW hgr hgq
   refine⟨by rw[beq_eq_false_iff_ne,<-he];exact hne,⟨wU,by rw[k2,ho],by rw[k3,he]⟩,?_⟩
   rw[hP]
   refine⟨⟨eF,rfl,bG.nil _ _⟩,rfl,rfl,?_⟩
   have:=c3.1.base.drew
   rw[<-hg]at this⊢
   exact below_setRow this (Nat.le_refl _) aF
  |ok b9=>
   rw[h9]at rT
   simp only[]at rT
   rw[rT]at hP
   simp only[]at hP
   have hend:∀w',(∃Q',fA w Wr r tb cap q l Wr.heap.size (.ok b9) Q' w'/\∀b,(Except.ok b9:Ps.St)=.ok b->Q'=Q7)->∃(qa:Option Addr) (qc:Nat),bT w Wr r tb cap q l (.ok b9) (aA Q7 (.slice qa Q7.ins.links.length qc)) w'/\bG w' Wr.heap.size (.slice qa Q7.ins.links.length qc) Q7.ins.links:=by
    rintro w' ⟨Q',c1,c2⟩
    obtain rfl:=c2 b9 rfl
    obtain⟨_,_,lv,c3,c4⟩:=c1
    obtain⟨qa,qc,rfl⟩:=c4.slice
    exact⟨qa,qc,c3,c4⟩
   have hk3:∀w',bT w Wr r tb cap q l (.ok b9) (aA Q7 (.slice none 0 0)) w'->True:=λ_ _=>trivial
   have OO:∀(w':World) (cs:Array Value),bT w Wr r tb cap q l (.ok b9) cs w'->w'.cell? ⟨r,3,none⟩=some (.int .i64 0):=by
    rintro w' cs c3
    obtain⟨a,o,e,hrow,_,_,_,_,_,hst⟩:=c3.1.rd
    obtain⟨_,he,_⟩:=hst
    rw[(bf hrow).2.2.2.1,he]
   obtain⟨Q2,hQ2⟩:∃Q2,Q2=if Q7.op=0 then({Q7 with sender:=Q7.ins.sender,ins:={Q7.ins with ref:=Q7.ref} }:Ps.Req)else Q7:=⟨_,rfl⟩
   rw[<-hQ2]at hP
   have hl2:Q2.ins.links=Q7.ins.links:=by rw[hQ2];split<;>rfl
   have sZ:∀(w':World) (qa:Option Addr) (qc:Nat),bT w Wr r tb cap q l (.ok b9) (aA Q2 (.slice qa Q7.ins.links.length qc)) w'->bG w' Wr.heap.size (.slice qa Q7.ins.links.length qc) Q7.ins.links->
    Calls Tryz.prog 30 #[.agg (aA Q2 (.slice qa Q7.ins.links.length qc))] w' λe W'=>e=.returned (.int .i64 (psR Q2))/\W'.heap[g]? =some (.cells aF 37 (0,0))/\W'.cell? ⟨tb,2,none⟩=some (.int .i64 (Ps.aU l 0))/\W'.heap[q]? =some (.cells (aA Q2 (.slice qa Q7.ins.links.length qc)) 37 (0,0))/\
     bG W' Wr.heap.size (.slice qa Q7.ins.links.length qc) Q7.ins.links/\Below w.heap.size w W':=by
    intro w' qa qc c3 c4
    refine(chk w' Wr.heap.size Q2 qa _ qc c3.1.base (by rw[hl2];exact c4)).mono ?_
    rintro e W' ⟨h1,h2⟩
    have wU:=c3.other hgW hgr hgq
    obtain⟨x,hx⟩:∃x,l[0]? =some x:=⟨_,List.getElem?_eq_getElem hpos⟩
    have htk:=(c3.1.rd.tok 0 x hx).2.2
    have hoff:Ps.aU l 0=x.2.2:=by unfold Ps.aU;rw[hx]
    refine⟨h1,(h2.block g (Array.getElem?_eq_some_iff.1 wU).1).trans wU,?_,(h2.block q (Array.getElem?_eq_some_iff.1 c3.2.1).1).trans c3.2.1,c4.keep (Tch.of_below (r:=r) (q:=r) h2) yT yT,c3.1.base.trans (h2.mono c3.1.base.size)⟩
    rw[hoff]
    exact(h2.cell (p:=⟨tb,2,none⟩) c3.1.rd.lt.2).trans htk
   have hbad:∀(W':World),psR Q2≠0->Below w.heap.size w W'->l9 w P (.agg aF) (Ps.aU l 0) (psR Q2) (W'.drew.setRow g aF):=by
    intro W' hne hb
    rw[if_pos hne]at hP
    rw[hP]
    refine⟨⟨eF,rfl,bG.nil _ _⟩,rfl,rfl,?_⟩
    have:=hb.drew
    rw[<-hg]at this⊢
    exact below_setRow this (Nat.le_refl _) aF
   have hgood:∀(W':World) (qa:Option Addr) (qc:Nat),psR Q2=0->Below w.heap.size w W'->bG W' Wr.heap.size (.slice qa Q7.ins.links.length qc) Q7.ins.links->l9 w P (.agg (aA Q2 (.slice qa Q7.ins.links.length qc))) 0 0 (W'.setRow g (aA Q2 (.slice qa Q7.ins.links.length qc))):=by
    intro W' qa qc hz hb hlk
    rw[if_neg (by rw[hz];simp)]at hP
    rw[hP]
    refine⟨⟨_,rfl,?_⟩,rfl,rfl,?_⟩
    ·show bG _ w.heap.size _ Q2.ins.links
     rw[hl2]
     refine dH (fD hlk λb hb2=>gW W' g b _ ?_) hbw.size
     have h1:=(hlk.lt b hb2).1
     have h2:=hb1.size
     have h3:=hbr.size
     omega
    ·rw[<-hg]at hb⊢
     exact below_setRow hb (Nat.le_refl _) _
   by_cases hop:Q7.op=0
   ·have O5:Q2={Q7 with sender:=Q7.ins.sender,ins:={Q7.ins with ref:=Q7.ref} }:=by rw[hQ2,if_pos hop]
    have hst:∀w' qa qc,bT w Wr r tb cap q l (.ok b9) (aA Q7 (.slice qa Q7.ins.links.length qc)) w'->bG w' Wr.heap.size (.slice qa Q7.ins.links.length qc) Q7.ins.links->
     (w'.cell? ⟨q,0,none⟩=some (.int .i64 0)/\w'.cell? ⟨q,5,none⟩=some (.string Q7.ins.sender)/\w'.cell? ⟨q,2,none⟩=some (.string Q7.ref)/\((∃u,w'.cell? ⟨q,1,none⟩=some u)/\(∃u,w'.cell? ⟨q,3,none⟩=some u)/\w'.frozen? ⟨q,1,none⟩=false/\w'.frozen? ⟨q,3,none⟩=false/\(w'.setCell ⟨q,1,none⟩ (.string Q7.ins.sender)).frozen? ⟨q,3,none⟩=false))/\
     bT w Wr r tb cap q l (.ok b9) (aA Q2 (.slice qa Q7.ins.links.length qc)) ((w'.setCell ⟨q,1,none⟩ (.string Q7.ins.sender)).setCell ⟨q,3,none⟩ (.string Q7.ref))/\bG ((w'.setCell ⟨q,1,none⟩ (.string Q7.ins.sender)).setCell ⟨q,3,none⟩ (.string Q7.ref)) Wr.heap.size (.slice qa Q7.ins.links.length qc) Q7.ins.links:=by
     intro w' qa qc c3 c4
     have d1:=c3.put 1 (.string Q7.ins.sender) {Q7 with sender:=Q7.ins.sender} rfl
     have d2:=d1.put 3 (.string Q7.ref) Q2 (by rw[O5];rfl)
     have z:∀(Q:Ps.Req) (lv:Value),(aA Q lv).size=28:=λ_ _=>rfl
     refine⟨⟨?_,?_,?_,(c3.cell 1 (by rw[z];omega)).1,(c3.cell 3 (by rw[z];omega)).1,(c3.cell 1 (by rw[z];omega)).2,(c3.cell 3 (by rw[z];omega)).2,(d1.cell 3 (by rw[z];omega)).2⟩,d2,?_⟩
     ·rw[cell_of_row _ _ _ _ _ _ c3.2.1]
      show some (Value.int .i64 Q7.op)=_
      rw[hop]
     ·rw[cell_of_row _ _ _ _ _ _ c3.2.1];rfl
     ·rw[cell_of_row _ _ _ _ _ _ c3.2.1];rfl
     ·exact(c4.keep ((Tch.refl q q w').setCell 1 _) xI xI).keep ((Tch.refl q q _).setCell 3 _) xI xI
    by_cases hz:psR Q2=0
    ·refine .subOk Q7.ins.sender Q7.ref (Lib.hid ?_)
     intro w' hw'
     obtain⟨qa,qc,c3,c4⟩:=hend w' hw'
     obtain⟨⟨d0,d5,d2,d6⟩,d7,d8⟩:=hst w' qa qc c3 c4
     refine⟨Q2,qa,_,qc,OO w' _ c3,d0,d5,d2,d6,d7.2.1,(sZ _ qa qc d7 d8).mono ?_⟩
     rintro e W' ⟨h1,h2,h3,h4,h5,h6⟩
     exact⟨by rw[h1,hz],h2,h4,hgood W' qa qc hz h6 h5⟩
    ·refine .subBad Q7.ins.sender Q7.ref (Ps.aU l 0) (psR Q2) (by rw[beq_eq_false_iff_ne];exact hz) (by omega) (Lib.hid ?_)
     intro w' hw'
     obtain⟨qa,qc,c3,c4⟩:=hend w' hw'
     obtain⟨⟨d0,d5,d2,d6⟩,d7,d8⟩:=hst w' qa qc c3 c4
     refine⟨Q2,qa,_,qc,OO w' _ c3,d0,d5,d2,d6,d7.2.1,(sZ _ qa qc d7 d8).mono ?_⟩
     rintro e W' ⟨h1,h2,h3,h4,h5,h6⟩
     exact⟨h1,h2,h3,hbad W' hz h6⟩
   ·have O5:Q2=Q7:=by rw[hQ2,if_neg hop]
    have hc0:∀w' qa qc,bT w Wr r tb cap q l (.ok b9) (aA Q7 (.slice qa Q7.ins.links.length qc)) w'->w'.cell? ⟨q,0,none⟩=some (.int .i64 Q7.op):=λw' qa qc c3=>by
     rw[cell_of_row _ _ _ _ _ _ c3.2.1];rfl
    by_cases hz:psR Q2=0
    ·refine .opOk Q7.op (by rw[beq_eq_false_iff_ne];exact hop) (Lib.hid ?_)
     intro w' hw'
     obtain⟨qa,qc,c3,c4⟩:=hend w' hw'
     have c5:=c3
     rw[<-O5]at c5
     rw[hl2]at c5
     refine⟨Q2,qa,_,qc,OO w' _ c3,hc0 w' qa qc c3,c5.2.1,(sZ _ qa qc c5 c4).mono ?_⟩
     rintro e W' ⟨h1,h2,h3,h4,h5,h6⟩
     exact⟨by rw[h1,hz],h2,h4,hgood W' qa qc hz h6 h5⟩
    ·refine .opBad Q7.op (by rw[beq_eq_false_iff_ne];exact hop) (Ps.aU l 0) (psR Q2) (by rw[beq_eq_false_iff_ne];exact hz) (by omega) (Lib.hid ?_)
     intro w' hw'
     obtain⟨qa,qc,c3,c4⟩:=hend w' hw'
     have c5:=c3
     rw[<-O5]at c5
     rw[hl2]at c5
     refine⟨Q2,qa,_,qc,OO w' _ c3,hc0 w' qa qc c3,c5.2.1,(sZ _ qa qc c5 c4).mono ?_⟩
     rintro e W' ⟨h1,h2,h3,h4,h5,h6⟩
     exact⟨h1,h2,h3,hbad W' hz h6⟩
end Go.Proofs.YtnjjeapcalkmaaaGreatDoor
namespace Go.Proofs.YtnjjeapcalkmaaaGreatDoor.Lx
open Go
def QL (s:ByteArray)(t:Tok):Prop:=t.2.1.size<=s.size/\t.2.2<=s.size/\∃x,x=aD t.2.1/\x.2=0/\t.1=x.1
theorem yN (s:ByteArray):∀(f a:Nat) (acc:List Tok),a<=s.size->acc.length<=a->(∀t∈acc,QL s t)->(iI f s a acc).1.length<=s.size/\∀t∈(iI f s a acc).1,QL s t
 |0,a,acc,h1,h2,h3=>⟨Nat.le_trans h2 h1,h3⟩
 |f+1,a,acc,h1,h2,h3=>by
  unfold iI
  split
  ·exact⟨Nat.le_trans h2 h1,h3⟩
  ·rename_i hz
   have k1:=yX s a h1
   have k2:=size_le s (a+skip s a) k1
   obtain⟨x,hx⟩:∃x,x=s.extract (a+skip s a) (a+skip s a+size s (a+skip s a)):=⟨_,rfl⟩
   have hxs:x.size<=s.size:=by rw[hx,ByteArray.size_extract];omega
   rw[<-hx]
   obtain⟨c,hc⟩:∃c,c=aD x:=⟨_,rfl⟩
   rw[<-hc]
   split
   ·rename_i hc0
    refine yN s f _ _ k2 (by rw[List.length_append];simp only[List.length_singleton];omega) λt ht=>?_
    rcases List.mem_append.1 ht with h|h
    ·exact h3 t h
    ·have ht2:=List.mem_singleton.1 h
     rw[ht2]
     exact⟨hxs,k1,c,hc,hc0,rfl⟩
   ·exact⟨Nat.zero_le _,λt ht=>by cases ht⟩
theorem Ck (s:ByteArray):(aL s).1.length<=1024/\∀t∈(aL s).1,t.2.1.size<=1024/\t.2.2<=1024/\∃x,x=aD t.2.1/\x.2=0/\t.1=x.1:=by
 unfold aL
 split
 ·exact⟨Nat.zero_le _,λt ht=>by cases ht⟩
 ·have hu:(aa s).size<=1024:=by
   unfold aa
   rw[ByteArray.size_extract]
   omega
  obtain⟨h1,h2⟩:=yN (aa s) ((aa s).size+1) 0 [] (Nat.zero_le _) (Nat.le_refl _) (λt ht=>by cases ht)
  exact⟨by omega,λt ht=>by obtain⟨a,b,c⟩:=h2 t ht;exact⟨by omega,by omega,c⟩⟩
end Go.Proofs.YtnjjeapcalkmaaaGreatDoor.Lx
namespace Go.Proofs.YtnjjeapcalkmaaaGreatDoor
open Go.RowKit
theorem L6 {m:Int}{kb ko kc:Nat}{w:World}(env:iW m kb ko kc w)(chk:ChkC w)(s:ByteArray)(hs:s.size<=9223372036854775807):
 Calls Tryz.prog 16 #[.string s] w λe W'=>∃rv o x,e=.returned (.tuple #[rv,.int .i64 o,.int .i64 x])/\l9 w (Ps.parse bN psR s) rv o x W':=by
 have DR:∀W,Below w.heap.size w W->_:=λW hW=>Bl s W m kb ko kc hs (env.lx.below hW)
 have hin:=Lx.Ck s
 by_cases he:(Lx.aL s).2.2=0
 ·by_cases hl:(Lx.aL s).1=[]
  ·
   have hP:Ps.parse bN psR s=({},0,4):=by
    unfold Ps.parse
    rw[if_neg (by rw[he];simp),hl]
    rfl
   refine(Ac w s (Lx.aL s).2.1 (Lib.hid λW hW=>(DR W hW).mono ?_)).mono ?_
   ·rintro e W' ⟨v,rfl,h1,h2⟩
    rw[hl]at h1
    obtain⟨a,c,rfl⟩:=gV h1
    exact⟨a,c,by rw[he];rfl,h2⟩
   ·rintro e W' ⟨rfl,hb⟩
    refine⟨_,_,_,rfl,?_⟩
    rw[hP]
    exact⟨⟨eF,rfl,bG.nil _ _⟩,rfl,rfl,hb⟩
  ·
   have hpos:0<(Lx.aL s).1.length:=List.length_pos_iff.2 hl
   refine(zM w s (l9 w (Ps.parse bN psR s)) (Lib.hid λg hg=>?_))
   have oC:=(Below.refl w.heap.size w).alloc (Nat.le_refl _) (.cells aF 37)
   refine(DR _ oC).mono ?_
   rintro e w1 ⟨v,rfl,h1,h2⟩
   have hsz:(w.alloc (.cells aF 37)).heap.size=w.heap.size+1:=by simp
   rcases AJ h1 with⟨_,h0⟩|⟨tb,cap,rfl,htb,htl,hold⟩
   ·exact absurd h0 hl
   ·have hcap:(Lx.aL s).1.length<=cap:=by
     rcases h1.2 with⟨hv,_⟩|⟨g',cap',cur,hv,hB,hh,hn,hcap',hcur,htake⟩
     ·cases hv
     ·cases hv;exact hn
    refine⟨tb,_,cap,(Lx.aL s).2.1,by rw[he],?_⟩
    have hgz:w1.heap[g]? =some (.cells aF 37 (0,0)):=by
     rw[hg,h2.block w.heap.size (by omega)]
     exact aC w _
    refine KQ env chk tb cap g (Lx.aL s).1 (λt ht=>?_) hpos hcap (by omega) hg hgz (oC.trans (h2.mono (by omega))) (by omega) htl hold _ ?_
    ·obtain⟨a,b,_⟩:=hin.2 t ht
     exact⟨by omega,by omega⟩
    ·unfold Ps.parse
     rw[if_neg (by rw[he];simp)]
     cases Ps.line bN (Lx.aL s).1 0 with
     |error er=>rfl
     |ok x=>rfl
 ·
  have hP:Ps.parse bN psR s=({},(Lx.aL s).2.1,(Lx.aL s).2.2):=by
   unfold Ps.parse
   rw[if_pos he]
  refine(A8 w s (Lx.aL s).2.1 (Lx.aL s).2.2 he (Lib.hid λW hW=>(DR W hW).mono ?_)).mono ?_
  ·rintro e W' ⟨v,rfl,h1,h2⟩
   exact⟨v,rfl,h2⟩
  ·rintro e W' ⟨rfl,hb⟩
   refine⟨_,_,_,rfl,?_⟩
   rw[hP]
   exact⟨⟨eF,rfl,bG.nil _ _⟩,rfl,rfl,hb⟩
open Go.ChangeShapes Go.WideShapes Go.ChangeAt Go.RowKit
theorem IV:Tryz.prog.globalNamed "giro/lexer.kinds"=some 1:=by kernel_rfl
theorem IU:(Tryz.prog.globals[1]?).map (·.type)=some 198:=by kernel_rfl
theorem yc:Tryz.prog.cellsOf 200=2:=by kernel_rfl
theorem Ez (g o j:Nat):(⟨g,o,none⟩:Addr).add j=⟨g,o+j,none⟩:=by
 unfold Addr.add
 split
 ·rename_i h;simp_all
 ·rfl
theorem vW {l:List (String×DataW Unit)}{W:World}(h:laidMetH Tryz.prog l W)(hm:("giro/lexer.kinds",(Rows.laid_giro_lexer_kinds:DataW Unit))∈l)
 (m:Int) (NN:W.cell? ⟨5,0,none⟩=some (.int .i64 m)):∃kb ko kc,kM m kb ko kc W:=by
 obtain⟨g,t,cs,fuel,p,hg,ht,hv,hd⟩:=h.funcs hm
 obtain rfl:=Option.some.inj (IV.symm.trans hg)
 obtain rfl:=Option.some.inj (IU.symm.trans ht)
 have hd':DataW.trod (funcToken Tryz.prog) Tryz.prog W 0 (λ_=>true) true fuel 198 cs.toList=some (.slice [.agg [.lit (.int .i64 4),.held [103,105,114,111,47,108,101,120,101,114,46,100,97,116,101]],.agg [.lit (.int .i64 2),.held [103,105,114,111,47,108,101,120,101,114,46,107,105,110,100,115,36,49]],.agg [.lit (.int .i64 3),.held [103,105,114,111,47,108,101,120,101,114,46,100,101,99,105,109,97,108]],.agg [.lit (.int .i64 1),.held [103,105,114,111,47,108,101,120,101,114,46,107,105,110,100,115,36,50]],.agg [.lit (.int .i64 0),.held [103,105,114,111,47,108,101,120,101,114,46,107,105,110,100,115,36,51]]] [],p):=hd
 rcases Go.Deep.open_slice_pairs Tryz.underlying198 Tryz.underlying200 yc rfl rfl (by kernel_rfl) (by kernel_rfl) hd' with⟨_,hx⟩|⟨a,len,cap,mm,n,V0,V1,D0,D1,P0,P1,hcs,_,hlc,_,hmm,hx,hel⟩
 ·simp at hx
 simp only[Prod.mk.injEq,DataW.slice.injEq]at hx
 obtain⟨⟨hL,_⟩,_⟩:=hx
 have hlen:len=5:=by have:=congrArg List.length hL;simpa using this.symm
 subst hlen
 have hm5:5<=mm:=by rw[hmm];split<;>omega
 obtain⟨a0,b0,c0,d0⟩:=hel 0 (by omega)
 have e0:=congrArg (λl=>l[0]?) hL
 simp[List.range_succ]at e0
 rw[<-e0.1]at c0
 rw[<-e0.2]at d0
 obtain⟨n0,hn0,hl0,_⟩:=DataW.trod_int Tryz.underlying3 c0
 simp only[Prod.mk.injEq,DataW.lit.injEq,Lit.int.injEq,true_and]at hl0
 obtain rfl:=hl0.1
 have hf0:=func_of_trod (f0:=325) Tryz.underlying60 (by kernel_rfl) d0
 simp only[List.cons.injEq,and_true]at hn0
 rw[hn0]at a0
 rw[hf0]at b0
 obtain⟨a1,b1,c1,d1⟩:=hel 1 (by omega)
 have e1:=congrArg (λl=>l[1]?) hL
 simp[List.range_succ]at e1
 rw[<-e1.1]at c1
 rw[<-e1.2]at d1
 obtain⟨n1,hn1,hl1,_⟩:=DataW.trod_int Tryz.underlying3 c1
 simp only[Prod.mk.injEq,DataW.lit.injEq,Lit.int.injEq,true_and]at hl1
 obtain rfl:=hl1.1
 have hf1:=func_of_trod (f0:=326) Tryz.underlying60 (by kernel_rfl) d1
 simp only[List.cons.injEq,and_true]at hn1
 rw[hn1]at a1
 rw[hf1]at b1
 obtain⟨a2,b2,c2,d2⟩:=hel 2 (by omega)
 have e2:=congrArg (λl=>l[2]?) hL
 simp[List.range_succ]at e2
 rw[<-e2.1]at c2
 rw[<-e2.2]at d2
 obtain⟨n2,hn2,hl2,_⟩:=DataW.trod_int Tryz.underlying3 c2
 simp only[Prod.mk.injEq,DataW.lit.injEq,Lit.int.injEq,true_and]at hl2
 obtain rfl:=hl2.1
 have hf2:=func_of_trod (f0:=328) Tryz.underlying60 (by kernel_rfl) d2
 simp only[List.cons.injEq,and_true]at hn2
 rw[hn2]at a2
 rw[hf2]at b2
 obtain⟨a3,b3,c3,d3⟩:=hel 3 (by omega)
 have e3:=congrArg (λl=>l[3]?) hL
 simp[List.range_succ]at e3
 rw[<-e3.1]at c3
 rw[<-e3.2]at d3
 obtain⟨n3,hn3,hl3,_⟩:=DataW.trod_int Tryz.underlying3 c3
 simp only[Prod.mk.injEq,DataW.lit.injEq,Lit.int.injEq,true_and]at hl3
 obtain rfl:=hl3.1
 have hf3:=func_of_trod (f0:=329) Tryz.underlying60 (by kernel_rfl) d3
 simp only[List.cons.injEq,and_true]at hn3
 rw[hn3]at a3
 rw[hf3]at b3
 obtain⟨a4,b4,c4,d4⟩:=hel 4 (by omega)
 have e4:=congrArg (λl=>l[4]?) hL
 simp[List.range_succ]at e4
 rw[<-e4.1]at c4
 rw[<-e4.2]at d4
 obtain⟨n4,hn4,hl4,_⟩:=DataW.trod_int Tryz.underlying3 c4
 simp only[Prod.mk.injEq,DataW.lit.injEq,Lit.int.injEq,true_and]at hl4
 obtain rfl:=hl4.1
 have Fv:=func_of_trod (f0:=332) Tryz.underlying60 (by kernel_rfl) d4
 simp only[List.cons.injEq,and_true]at hn4
 rw[hn4]at a4
 rw[Fv]at b4
 obtain⟨b,off,spot⟩:=a
 have hspot:spot=none:=by simpa[Addr.add]using World.cell?_spot a0
 subst hspot
 simp only[Ez]at a0 b0 a1 b1 a2 b2 a3 b3 a4 b4
 have hvar:=World.var?_cell hg hv 0
 rw[Array.eq_one_of_toList hcs]at hvar
 exact⟨b,off,cap,⟨NN,by simpa using hvar,a0,b0,a1,b1,a2,b2,a3,b3,a4,b4⟩⟩
theorem pM {H:Type}{enc:TypeId×Value->H}{P:Program}{w:World}{base:Nat}{sp:Nat->Bool}{held:Bool}{fuel:Nat}{t:TypeId}{ms:Array (String×TypeId)}{cs:List Value}{nm:String}{d:DataW H}{p:List MemPlace}
 (ht:P.underlying t=some (.interface ms)) (h:DataW.trod enc P w base sp held fuel t cs=some (.iface nm d,p)):∃te v,cs=[.iface te v]:=by
 cases fuel with
 |zero=>simp[DataW.trod]at h
 |succ n=>
  unfold DataW.trod at h
  rw[ht]at h
  split at h<;>simp_all
theorem mQ {P:Program}{l:List (String×DataW Unit)}{w:World}(h:laidMetH P l w){n:String}{d:DataW Unit}(hx:(n,d)∈l)(hd:d.handleName?.isNone=true):Lib.VarReads P w n d:=by
 have hm:(n,d)∈l.filter λx=>x.2.handleName?.isNone:=List.mem_filter.2 ⟨hx,hd⟩
 unfold laidMetH at h
 generalize (l.filter λx=>x.2.handleName?.isSome)=fl at h
 cases fl with
 |nil=>exact Lib.laidMet.reads h hx
 |cons a tl=>exact Lib.laidMet.reads h.1 hm
theorem Gc {l:List (String×DataW Unit)}{W:World}(h:laidMetH Tryz.prog l W){n:String}{g:Nat}{s:List UInt8}(hg:Tryz.prog.globalNamed n=some g)(ht:(Tryz.prog.globals[g]?).map (·.type)=some 139)
 (hx:(n,(.iface "*errors.errorString" (.ptr (.agg [.lit (.string s)])):DataW Unit))∈l):∃te pe,W.cell? ⟨g,0,none⟩=some (.iface te pe):=by
 obtain⟨g',t',cs,fuel,p,hg',ht',hv,hd⟩:=mQ h hx rfl
 obtain rfl:=Option.some.inj (hg.symm.trans hg')
 obtain rfl:=Option.some.inj (ht.symm.trans ht')
 obtain⟨te,v,hcs⟩:=pM Tryz.underlying139 hd
 have hvar:=World.var?_cell hg hv 0
 rw[Array.eq_one_of_toList hcs]at hvar
 exact⟨te,v,by simpa using hvar⟩
theorem AC:Tryz.prog.cellsOf 258=2:=by kernel_rfl
def lG (f:Nat)(nm:UInt8×List UInt8):Prop:=((List.range Tryz.prog.funcs.size).filter λg=>(Tryz.prog.funcs[g]?).any (·.name.toUTF8.data.toList==nm.1::nm.2))=[f]
theorem wm {W:World}{fuel:Nat}{cs:List Value}{p:List MemPlace}(rows:List (Nat×Nat×(UInt8×List UInt8)))(hone:∀x∈rows,lG x.2.1 x.2.2)(hr:rows≠[])
 (h:DataW.trod (funcToken Tryz.prog) Tryz.prog W 0 (λ_=>true) true fuel 220 cs=some (.slice (rows.map λx=>.agg [.lit (.int .i64 x.1),.held (x.2.2.1::x.2.2.2)]) [],p)):
 ∃sb so sc,cs=[.slice (some ⟨sb,so,none⟩) rows.length sc]/\dB W sb so (rows.map λx=>(x.1,x.2.1)):=by
 rcases Go.Deep.open_slice_pairs Tryz.underlying220 Tryz.underlying258 AC rfl rfl (by kernel_rfl) (by kernel_rfl) h with⟨_,hx⟩|⟨a,len,cap,mm,n,V0,V1,D0,D1,P0,P1,hcs,_,hlc,_,hmm,hx,hel⟩
 ·simp at hx
 simp only[Prod.mk.injEq,DataW.slice.injEq]at hx
 obtain⟨⟨hL,_⟩,_⟩:=hx
 have hlen:len=rows.length:=by have:=congrArg List.length hL;simpa using this.symm
 subst hlen
 have hm5:rows.length<=mm:=by rw[hmm];split<;>omega
 obtain⟨b,off,spot⟩:=a
 have key:∀(j:Nat) (x:Nat×Nat×(UInt8×List UInt8)),rows[j]? =some x->W.cell? ((⟨b,off,spot⟩:Addr).add (j*2))=some (.int .i64 (x.1:Int))/\W.cell? ((⟨b,off,spot⟩:Addr).add (j*2+1))=some (.func (.func x.2.1) #[] #[]):=by
  intro j x hj
  have hjl:j<rows.length:=(List.getElem?_eq_some_iff.1 hj).1
  obtain⟨a0,b0,c0,d0⟩:=hel j (by omega)
  have e0:=congrArg (λl=>l[j]?) hL
  simp only[List.getElem?_map,hj,Option.map_some,List.getElem?_range hjl,Option.some.injEq,DataW.agg.injEq,List.cons.injEq,and_true]at e0
  rw[<-e0.1]at c0
  rw[<-e0.2]at d0
  obtain⟨n0,hn0,hl0,_⟩:=DataW.trod_int Tryz.underlying3 c0
  simp only[Prod.mk.injEq,DataW.lit.injEq,Lit.int.injEq,true_and]at hl0
  have hf0:=func_of_trod (f0:=x.2.1) Tryz.underlying256 (hone x (List.mem_iff_getElem?.2 ⟨j,hj⟩)) d0
  simp only[List.cons.injEq,and_true]at hn0
  rw[hn0,<-hl0.1]at a0
  rw[hf0]at b0
  exact⟨a0,b0⟩
 obtain⟨x,rest,rfl⟩:=List.exists_cons_of_ne_nil hr
 have hspot:spot=none:=by simpa[Addr.add]using World.cell?_spot (key 0 x rfl).1
 subst hspot
 refine⟨b,off,cap,hcs,λj y hy=>?_⟩
 rw[List.getElem?_map,Option.map_eq_some_iff]at hy
 obtain⟨z,hz,rfl⟩:=hy
 have:=key j z hz
 rwa [Ez,Ez]at this
theorem QV:Tryz.prog.cellsOf 3=1:=by kernel_rfl
theorem id_cs:Tryz.prog.cellsOf 220=1:=by kernel_rfl
theorem id_cf:Tryz.prog.cellsOf 155=1:=by kernel_rfl
theorem QT:Tryz.prog.cellsOf 222=4:=by kernel_rfl
theorem BJ {W:World}{fuel:Nat}{cs:List Value}{p:List MemPlace}(low body:Int)(rows:List (Nat×Nat×(UInt8×List UInt8)))(hone:∀x∈rows,lG x.2.1 x.2.2)(hr:rows≠[])(cd:DataW (List UInt8))(chk:Value)
 (sZ:∀fuel v p,DataW.trod (funcToken Tryz.prog) Tryz.prog W 0 (λ_=>true) true fuel 155 [v]=some (cd,p)->v=chk)
 (h:DataW.trod (funcToken Tryz.prog) Tryz.prog W 0 (λ_=>true) true fuel 222 cs=some (.agg [.lit (.int .i64 low),.slice (rows.map λx=>.agg [.lit (.int .i64 x.1),.held (x.2.2.1::x.2.2.2)]) [],.lit (.int .i64 body),cd],p)):
 ∃sb so sc,cs=[.int .i64 low,.slice (some ⟨sb,so,none⟩) rows.length sc,.int .i64 body,chk]/\dB W sb so (rows.map λx=>(x.1,x.2.1)):=by
 obtain⟨xs,n,rfl,hx,hl,hxl,hall⟩:=DataW.trod_struct Tryz.underlying222 h
 rw[QT]at hl
 simp only[Prod.mk.injEq,DataW.agg.injEq]at hx
 obtain⟨hx,_⟩:=hx
 match xs,hx,cs,hl with
 |[y0,y1,y2,y3],hx,[v0,v1,v2,v3],_=>
  simp only[List.map_cons,List.map_nil,List.cons.injEq,and_true]at hx
  obtain⟨h0,h1,h2,h3⟩:=hx
  have g0:DataW.trod (funcToken Tryz.prog) Tryz.prog W 0 (λ_=>true) true n 3 (([v0,v1,v2,v3].drop 0).take (Tryz.prog.cellsOf 3))=some y0:=hall 0 _ rfl
  rw[QV]at g0
  have g1:DataW.trod (funcToken Tryz.prog) Tryz.prog W 0 (λ_=>true) true n 220 (([v0,v1,v2,v3].drop 1).take (Tryz.prog.cellsOf 220))=some y1:=hall 1 _ rfl
  rw[id_cs]at g1
  have g2:DataW.trod (funcToken Tryz.prog) Tryz.prog W 0 (λ_=>true) true n 3 (([v0,v1,v2,v3].drop 2).take (Tryz.prog.cellsOf 3))=some y2:=hall 2 _ rfl
  rw[QV]at g2
  have g3:DataW.trod (funcToken Tryz.prog) Tryz.prog W 0 (λ_=>true) true n 155 (([v0,v1,v2,v3].drop 3).take (Tryz.prog.cellsOf 155))=some y3:=hall 3 _ rfl
  rw[id_cf]at g3
  change DataW.trod _ _ _ _ _ _ n 3 [v0]=some y0 at g0
  change DataW.trod _ _ _ _ _ _ n 220 [v1]=some y1 at g1
  change DataW.trod _ _ _ _ _ _ n 3 [v2]=some y2 at g2
  change DataW.trod _ _ _ _ _ _ n 155 [v3]=some y3 at g3
  obtain⟨a0,b0⟩:=y0
  obtain⟨a1,b1⟩:=y1
  obtain⟨a2,b2⟩:=y2
  obtain⟨a3,b3⟩:=y3
  simp only at h0 h1 h2 h3
  subst h0 h1 h2 h3
  obtain⟨z0,e0,l0,_⟩:=DataW.trod_int Tryz.underlying3 g0
  obtain⟨z2,e2,l2,_⟩:=DataW.trod_int Tryz.underlying3 g2
  simp only[Prod.mk.injEq,DataW.lit.injEq,Lit.int.injEq,true_and,List.cons.injEq,and_true]at l0 l2 e0 e2
  obtain⟨sb,so,sc,e1,hsp⟩:=wm rows hone hr g1
  simp only[List.cons.injEq,and_true]at e1
  have e3:=sZ _ _ _ g3
  refine⟨sb,so,sc,?_,hsp⟩
  rw[e0,e1,e2,e3,<-l0.1,<-l2.1]
theorem JH:Tryz.prog.globalNamed "giro/ident.kinds"=some 4:=by kernel_rfl
theorem Ja:(Tryz.prog.globals[4]?).map (·.type)=some 223:=by kernel_rfl
def nU:UInt8×List UInt8:=(103,[105,114,111,47,105,100,101,110,116,46,108,101,116,116,101,114])
def mH:UInt8×List UInt8:=(103,[105,114,111,47,105,100,101,110,116,46,97,108,112,104,97,110,117,109,101,114,105,99])
def qo:UInt8×List UInt8:=(103,[105,114,111,47,105,100,101,110,116,46,100,105,103,105,116])
def FM:UInt8×List UInt8:=(103,[105,114,111,47,105,100,101,110,116,46,114,101,102,67,104,97,114,97,99,116,101,114])
theorem pQ:lG 340 nU:=by unfold lG;kernel_rfl
theorem lW:lG 341 mH:=by unfold lG;kernel_rfl
theorem rq:lG 342 qo:=by unfold lG;kernel_rfl
theorem I1:lG 344 FM:=by unfold lG;kernel_rfl
def ig (k:Nat):List (Nat×Nat×(UInt8×List UInt8)):=
 if k=0 then[(2,340,nU),(9,341,mH),(1,342,qo)]
 else if k=1 then[(1,340,nU),(7,341,mH)]
 else if k=2 then[(16,344,FM)]
 else[(18,341,mH),(2,342,qo)]
theorem Eo (k:Nat):∀x∈ig k,lG x.2.1 x.2.2:=by
 unfold ig
 split
 ·intro x hx;simp at hx;rcases hx with rfl|rfl|rfl
  ·exact pQ
  ·exact lW
  ·exact rq
 ·split
  ·intro x hx;simp at hx;rcases hx with rfl|rfl
   ·exact pQ
   ·exact lW
  ·split
   ·intro x hx;simp at hx;subst hx
    exact I1
   ·intro x hx;simp at hx;rcases hx with rfl|rfl
    ·exact lW
    ·exact rq
theorem IY (k:Nat):ig k≠[]:=by
 unfold ig
 split
 ·simp
 ·split
  ·simp
  ·split<;>simp
theorem yK (k:Nat):(ig k).map (λx=>(x.1,x.2.1))=(aP k).sp:=by
 unfold ig aP
 split
 ·rfl
 ·split
  ·rfl
  ·split<;>rfl
theorem l6 {W:World}{fuel:Nat}{v:Value}{p:List MemPlace}(h:DataW.trod (funcToken Tryz.prog) Tryz.prog W 0 (λ_=>true) true fuel 155 [v]=some (.nil,p)):v=.nilFunc:=by
 cases fuel with
 |zero=>simp[DataW.trod]at h
 |succ n=>
  unfold DataW.trod at h
  rw[wG]at h
  split at h<;>simp_all
theorem Pq {W:World}{g:Nat}{cs:Array Value}(hg:g=4)(hcell:∀i,W.cell? ⟨g,i,none⟩=cs[i]?)(k:Nat)
 (h:∃sb so sc,(cs.toList.drop (k*4)).take 4=[.int .i64 (aP k).low,.slice (some ⟨sb,so,none⟩) (ig k).length sc,.int .i64 (aP k).body,(aP k).chk]/\dB W sb so ((ig k).map λx=>(x.1,x.2.1))):
 ∃sb so sc,Kb W k sb so sc:=by
 subst hg
 obtain⟨sb,so,sc,hl,hsp⟩:=h
 have at':∀j v,j<4->((cs.toList.drop (k*4)).take 4)[j]? =some v->W.cell? ⟨4,k*4+j,none⟩=some v:=λj v hj hv=>by
  rw[hcell,<-Array.getElem?_toList,<-List.getElem?_drop,<-hv,List.getElem?_take,if_pos hj]
 rw[yK]at hsp
 have hlen:(ig k).length=(aP k).sp.length:=by rw[<-yK,List.length_map]
 rw[hlen]at hl
 refine⟨sb,so,sc,⟨?_,?_,?_,?_,hsp⟩⟩
 ·exact at' 0 _ (by omega) (by rw[hl];rfl)
 ·exact at' 1 _ (by omega) (by rw[hl];rfl)
 ·exact at' 2 _ (by omega) (by rw[hl];rfl)
 ·exact at' 3 _ (by omega) (by rw[hl];rfl)
def jd (k:Nat)(cd:DataW (List UInt8)):DataW (List UInt8):=
 .agg [.lit (.int .i64 (aP k).low),.slice ((ig k).map λx=>.agg [.lit (.int .i64 x.1),.held (x.2.2.1::x.2.2.2)]) [],.lit (.int .i64 (aP k).body),cd]
def Da (k:Nat):DataW (List UInt8):=
 if k=0 then .held [103,105,114,111,47,105,100,101,110,116,46,108,117,104,110]else if k=3 then .held [103,105,114,111,47,105,100,101,110,116,46,109,111,100,57,55]else .nil
theorem JN {W:World}(k:Nat)(hk:k<4)(fuel:Nat)(v:Value)(p:List MemPlace)(h:DataW.trod (funcToken Tryz.prog) Tryz.prog W 0 (λ_=>true) true fuel 155 [v]=some (Da k,p)):v=(aP k).chk:=by
 match k,hk with
 |0,_=>exact func_of_trod (f0:=343) wG (by kernel_rfl) h
 |1,_=>exact l6 h
 |2,_=>exact l6 h
 |3,_=>exact func_of_trod (f0:=345) wG (by kernel_rfl) h
theorem vH {l:List (String×DataW Unit)}{W:World}(h:laidMetH Tryz.prog l W)(hm:("giro/ident.kinds",(Rows.laid_giro_ident_kinds:DataW Unit))∈l):jW W:=by
 obtain⟨g,t,cs,fuel,p,hg,ht,hv,hd⟩:=h.funcs hm
 obtain rfl:=Option.some.inj (JH.symm.trans hg)
 obtain rfl:=Option.some.inj (Ja.symm.trans ht)
 have hd':DataW.trod (funcToken Tryz.prog) Tryz.prog W 0 (λ_=>true) true fuel 223 cs.toList=some (.agg [jd 0 (Da 0),jd 1 (Da 1),jd 2 (Da 2),jd 3 (Da 3)],p):=hd
 obtain⟨xs,m,_,hx,_,hxl,hall⟩:=DataW.trod_array Tryz.underlying223 hd'
 simp only[Prod.mk.injEq,DataW.agg.injEq]at hx
 obtain⟨hx,_⟩:=hx
 intro k hk
 refine Pq rfl (World.var?_cell hg hv) k ?_
 have hrow:=hall k hk
 rw[QT]at hrow
 have hxk:(xs.map (·.1))[k]? =some (jd k (Da k)):=by
  rw[<-hx]
  match k,hk with
  |0,_=>rfl
  |1,_=>rfl
  |2,_=>rfl
  |3,_=>rfl
 rw[List.getElem?_map,Option.map_eq_some_iff]at hxk
 obtain⟨⟨d,q⟩,hq,Lf⟩:=hxk
 simp only at Lf
 subst Lf
 rw[hq]at hrow
 exact BJ _ _ (ig k) (Eo k) (IY k) (Da k) (aP k).chk (λfuel v p=>JN k hk fuel v p) hrow
theorem JR:Tryz.prog.globalNamed "giro/message.priorityNames"=some 3:=by kernel_rfl
theorem Gw:(Tryz.prog.globals[3]?).map (·.type)=some 216:=by kernel_rfl
theorem LV:Tryz.prog.cellsOf 9=1:=by kernel_rfl
theorem Gy:Tryz.prog.globalNamed "strconv.ErrRange"=some 12:=by kernel_rfl
theorem Iz:(Tryz.prog.globals[12]?).map (·.type)=some 139:=by kernel_rfl
theorem DC:Tryz.prog.globalNamed "strconv.ErrSyntax"=some 11:=by kernel_rfl
theorem Dp:(Tryz.prog.globals[11]?).map (·.type)=some 139:=by kernel_rfl
theorem kX {l:List (String×DataW Unit)}{W:World}(h:laidMetH Tryz.prog l W)(hx:("giro/message.priorityNames",(Rows.laid_giro_message_priorityNames:DataW Unit))∈l):rQ W:=by
 obtain⟨g',t',cs,fuel,p,hg',ht',hv,hd⟩:=mQ h hx rfl
 obtain rfl:=Option.some.inj (JR.symm.trans hg')
 obtain rfl:=Option.some.inj (Gw.symm.trans ht')
 have hd':DataW.trod _ Tryz.prog W 0 (λ_=>true) false fuel 216 cs.toList=some (.agg [.lit (.string [110,111,114,109,97,108]),.lit (.string [104,105,103,104]),.lit (.string [117,114,103,101,110,116])],p):=hd
 obtain⟨xs,m,_,hx,_,hxl,hall⟩:=DataW.trod_array Tryz.underlying216 hd'
 simp only[Prod.mk.injEq,DataW.agg.injEq]at hx
 obtain⟨hx,_⟩:=hx
 intro j s hj
 have Af:j<3:=by have:=(List.getElem?_eq_some_iff.1 hj).1;simpa[prN]using this
 have hrow:=hall j Af
 rw[LV,Nat.mul_one]at hrow
 have hxk:(xs.map (·.1))[j]? =some (.lit (.string s.data.toList)):=by
  rw[<-hx]
  match j,Af,hj with
  |0,_,hj=>cases hj;rfl
  |1,_,hj=>cases hj;rfl
  |2,_,hj=>cases hj;rfl
 rw[List.getElem?_map,Option.map_eq_some_iff]at hxk
 obtain⟨⟨d,q⟩,hq,Lf⟩:=hxk
 simp only at Lf
 subst Lf
 rw[hq]at hrow
 obtain⟨s',hs',hx',_⟩:=DataW.trod_string Tryz.underlying9 hrow
 simp only[Prod.mk.injEq,DataW.lit.injEq,Lit.string.injEq]at hx'
 have hss:s=s':=by
  have:=hx'.1
  obtain⟨⟨a⟩⟩:=s
  obtain⟨⟨b⟩⟩:=s'
  have:a=b:=this
  rw[this]
 subst hss
 rw[World.var?_cell hg' hv,<-Array.getElem?_toList]
 have:((cs.toList.drop j).take 1)[0]? =some (.string s):=by rw[hs'];rfl
 rw[List.getElem?_take,if_pos (by omega),List.getElem?_drop,Nat.add_zero]at this
 exact this
theorem BR {W w:World}(h:rQ W)(hb:Below W.heap.size W w):rQ w:=λj s hj=>
 (hb.cell (World.block_lt_of_cell? W _ (h j s hj))).trans (h j s hj)
theorem uY {l:List (String×DataW Unit)}{W:World}(h:laidMetH Tryz.prog l W)(h1:("giro/lexer.kinds",(Rows.laid_giro_lexer_kinds:DataW Unit))∈l)(h2:("giro/ident.kinds",(Rows.laid_giro_ident_kinds:DataW Unit))∈l)(h3:("giro/message.priorityNames",(Rows.laid_giro_message_priorityNames:DataW Unit))∈l)
 (h4:("strconv.ErrRange",(Rows.laid_strconv_ErrRange:DataW Unit))∈l) (h5:("strconv.ErrSyntax",(Rows.laid_strconv_ErrSyntax:DataW Unit))∈l) (m:Int) (NN:W.cell? ⟨5,0,none⟩=some (.int .i64 m)):∃kb ko kc,iW m kb ko kc W:=by
 obtain⟨kb,ko,kc,hl⟩:=vW h h1 m NN
 exact⟨kb,ko,kc,hl,λw hw=>(vH h h2).below hw,λw hw=>BR (kX h h3) hw,NN,Gc h Gy Iz h4,Gc h DC Dp h5⟩
open Go.ChangeShapes Go.WideShapes Go.RowKit
theorem Ki {P:Program}{l:List (String×DataW Unit)}{w:World}(h:laidMetH P l w){n:String}{d:DataW Unit}(hx:(n,d)∈l)(hd:d.handleName?.isNone=true):Lib.VarReads P w n d:=by
 have hm:(n,d)∈l.filter λx=>x.2.handleName?.isNone:=List.mem_filter.2 ⟨hx,hd⟩
 unfold laidMetH at h
 generalize (l.filter λx=>x.2.handleName?.isSome)=fl at h
 cases fl with
 |nil=>exact Lib.laidMet.reads h hx
 |cons a tl=>exact Lib.laidMet.reads h.1 hm
theorem tb_g:Tryz.prog.globalNamed "internal/strconv.uint64pow10"=some 6:=by kernel_rfl
theorem tb_t:(Tryz.prog.globals[6]?).map (·.type)=some 284:=by kernel_rfl
theorem tb_c1:Tryz.prog.cellsOf 234=1:=by kernel_rfl
theorem tb_c20:Tryz.prog.cellsOf 284=20:=by kernel_rfl
theorem OQ:(Rows.laid_internal_strconv_uint64pow10:DataW Unit)=Lib.tabData .u64 Lib.pow10Tab:=by kernel_rfl
theorem Mt {l:List (String×DataW Unit)}{W:World}(h:laidMetH Tryz.prog l W)(hx:("internal/strconv.uint64pow10",(Rows.laid_internal_strconv_uint64pow10:DataW Unit))∈l):Lib.TabIs Tryz.prog W "internal/strconv.uint64pow10" .u64 Lib.pow10Tab:=by
 obtain⟨g',t',cs,fuel,p,hg',ht',hv,hd⟩:=Ki h hx rfl
 obtain rfl:=Option.some.inj (tb_g.symm.trans hg')
 obtain rfl:=Option.some.inj (tb_t.symm.trans ht')
 rw[OQ]at hd
 have hc:=Lib.cells_of_tab Tryz.underlying284 Tryz.underlying234 tb_c1 tb_c20 hd
 unfold Lib.TabIs
 rw[hv,<-hc]
theorem NF {W W':World}{n:String}{k:IntKind}{zs:List Int}(h:Lib.TabIs Tryz.prog W n k zs)(hb:Below W.heap.size W W'):Lib.TabIs Tryz.prog W' n k zs:=by
 unfold Lib.TabIs World.var? at h⊢
 cases hg:Tryz.prog.globalNamed n with
 |none=>rw[hg]at h;simp at h
 |some g=>
  rw[hg]at h
  simp only[Option.bind_some]at h⊢
  have hlt:g<W.heap.size:=by
   rcases Nat.lt_or_ge g W.heap.size with h'|h'
   ·exact h'
   ·rw[Array.getElem?_eq_none h']at h;simp at h
  rw[hb.block g hlt]
  exact h
end Go.Proofs.YtnjjeapcalkmaaaGreatDoor
namespace Go.Proofs.YtnjjeapcalkmaaaGreatDoor.Lx
open Go
abbrev Bt:=List UInt8
theorem lm (c:UInt8):∀(p r:Bt),c∉p->Lib.index (p++c::r) [c]=p.length
 |[],r,_=>by
  show Lib.index (c::r) [c]=0
  rw[Lib.index];simp[List.isPrefixOf]
 |b::p,r,h=>by
  have hb:¬b=c:=λe=>h (by rw[e];exact List.mem_cons_self)
  have ih:=lm c p r λhm=>h (List.mem_cons_of_mem _ hm)
  have hp:([c]:Bt).isPrefixOf (b::(p++c::r))=false:=by simp[List.isPrefixOf,Ne.symm hb]
  have hm:((p.length:Int)== -1)=false:=by rw[beq_eq_false_iff_ne];omega
  rw[List.cons_append,Lib.index,hp,ih]
  simp[hm]
theorem nR (c:UInt8):∀l:Bt,c∉l->Lib.index l [c]= -1
 |[],_=>by simp[Lib.index]
 |b::l,h=>by
  have hb:¬b=c:=λe=>h (by rw[e];exact List.mem_cons_self)
  have ih:=nR c l λhm=>h (List.mem_cons_of_mem _ hm)
  have hp:([c]:Bt).isPrefixOf (b::l)=false:=by simp[List.isPrefixOf,Ne.symm hb]
  rw[Lib.index,hp,ih]
  simp
def pcs (c:UInt8)(l:Bt):List Bt:=Lib.splitK [c] 0 (l.count c) l
theorem CX (c:UInt8)(l:Bt)(h:c∉l):pcs c l=[l]:=by
 unfold pcs
 rw[List.count_eq_zero.2 h]
 rfl
theorem zG (c:UInt8)(p r:Bt)(h:c∉p):pcs c (p++c::r)=p::pcs c r:=by
 unfold pcs
 rw[List.count_append,List.count_eq_zero.2 h,List.count_cons_self,Nat.zero_add]
 conv=>lhs;unfold Lib.splitK
 rw[lm c p r h]
 have hm:((p.length:Int)== -1)=false:=by rw[beq_eq_false_iff_ne];omega
 rw[hm]
 simp only[Bool.false_eq_true,if_false,Int.toNat_natCast,Nat.add_zero,List.take_left,List.length_singleton]
 congr 1
 rw[<-List.drop_drop,List.drop_left]
 rfl
theorem mU (c:UInt8)(l:Bt):(c∉l/\pcs c l=[l])\/∃p r,l=p++c::r/\c∉p/\pcs c l=p::pcs c r:=by
 by_cases h:c∈l
 ·obtain⟨p,r,rfl,hp⟩:=List.eq_append_cons_of_mem h
  exact .inr ⟨p,r,rfl,hp,zG c p r hp⟩
 ·exact .inl ⟨h,CX c l h⟩
theorem pieces_eq (s:ByteArray):(pieces s).map (·.data.toList)=pcs 45 s.data.toList:=by
 unfold pieces pcs
 rw[Lib.splitB_data]
 congr 1
 exact Lib.count_one 45 _
def at_ (l:Bt)(i:Nat):Int:=((l.getD i 0).toNat:Int)
def LW (i:Nat)(c:Int):Bool:=if i=4\/i=7 then decide (c=45)else digit c
def jh (l:Bt):Bool:=decide (l.length=10)&&(List.range 10).all λi=>LW i (at_ l i)
theorem MQ:∀l:Bt,l.length=10->∃a b c d e f g h i j,l=[a,b,c,d,e,f,g,h,i,j]
 |[a,b,c,d,e,f,g,h,i,j],_=>⟨a,b,c,d,e,f,g,h,i,j,rfl⟩
theorem Kv:∀l:Bt,l.length=2->∃a b,l=[a,b]
 |[a,b],_=>⟨a,b,rfl⟩
theorem list4:∀l:Bt,l.length=4->∃a b c d,l=[a,b,c,d]
 |[a,b,c,d],_=>⟨a,b,c,d,rfl⟩
theorem fu {c:UInt8}(h:digit (c.toNat:Int)=true):c≠45/\c≠46:=by
 constructor
 all_goals
  rintro rfl
  revert h
  decide
theorem Qg (c:UInt8):decide ((c.toNat:Int)=45)=true↔c=45:=by
 rw[decide_eq_true_iff]
 constructor
 ·intro h
  apply UInt8.toNat_inj.1
  have:c.toNat=45:=by omega
  rw[this];rfl
 ·rintro rfl;rfl
theorem u8_46 (c:UInt8):decide ((c.toNat:Int)=46)=true↔c=46:=by
 rw[decide_eq_true_iff]
 constructor
 ·intro h
  apply UInt8.toNat_inj.1
  have:c.toNat=46:=by omega
  rw[this];rfl
 ·rintro rfl;rfl
theorem l7 (a b c d e f g h i j:UInt8):jh [a,b,c,d,e,f,g,h,i,j]=true↔digit a.toNat=true/\digit b.toNat=true/\digit c.toNat=true/\digit d.toNat=true/\e=45/\digit f.toNat=true/\digit g.toNat=true/\h=45/\digit i.toNat=true/\digit j.toNat=true:=by
 unfold jh
 have:(List.range 10)=[0,1,2,3,4,5,6,7,8,9]:=rfl
 rw[this]
 simp only[List.all_cons,List.all_nil,Bool.and_true,Bool.and_eq_true]
 rw[<-Qg e,<-Qg h]
 simp only[LW,at_]
 simp
theorem PP (s:ByteArray):date s=(decide (s.data.toList.length=10)&&decide ((pcs 45 s.data.toList).length=3)&&decide (((pcs 45 s.data.toList)[0]?.map List.length).getD 0=4)&&decide (((pcs 45 s.data.toList)[1]?.map List.length).getD 0=2)&&(pcs 45 s.data.toList).all λp=>all digit p):=by
 unfold date
 have hz:∀x:ByteArray,x.data.toList.length=x.size:=by rintro⟨⟨l⟩⟩;rfl
 rw[<-pieces_eq,List.length_map,List.getElem?_map,List.getElem?_map,List.all_map,Option.map_map,Option.map_map,hz]
 have hf:(List.length∘λx:ByteArray=>x.data.toList)=λx=>x.size:=funext hz
 rw[hf]
 rfl
theorem oW (s:ByteArray):date s=jh s.data.toList:=by
 rw[PP]
 obtain⟨l,hl⟩:∃l,l=s.data.toList:=⟨_,rfl⟩
 rw[<-hl]
 clear hl
 rw[Bool.eq_iff_iff]
 constructor
 ·intro h
  simp only[Bool.and_eq_true,decide_eq_true_eq]at h
  obtain⟨⟨⟨⟨h1,h2⟩,h3⟩,h4⟩,h5⟩:=h
  rcases mU 45 l with⟨_,e⟩|⟨p,r,rfl,hp,e⟩
  ·rw[e]at h2;simp at h2
  rw[e]at h2 h3 h4 h5
  rcases mU 45 r with⟨_,e⟩|⟨q,r,rfl,hq,e⟩
  ·rw[e]at h2;simp at h2
  rw[e]at h2 h4 h5
  rcases mU 45 r with⟨_,e⟩|⟨q2,r2,rfl,hq2,e⟩
  ·rw[e]at h5
   have h3:p.length=4:=by simpa using h3
   have h4:q.length=2:=by simpa using h4
   have hr:r.length=2:=by
    simp only[List.length_append,List.length_cons]at h1;omega
   obtain⟨a,b,c,d,rfl⟩:=list4 p h3
   obtain⟨f,g,rfl⟩:=Kv q h4
   obtain⟨i,j,rfl⟩:=Kv r hr
   show jh [a,b,c,d,45,f,g,45,i,j]=true
   rw[l7]
   simp[all]at h5
   simp[h5]
  ·exfalso
   rw[e]at h2
   simp only[List.length_cons]at h2
   have:0<(pcs 45 r2).length:=by
    rcases mU 45 r2 with⟨_,e⟩|⟨_,_,_,_,e⟩<;>rw[e]<;>simp
   omega
 ·intro h
  have h1:l.length=10:=by
   unfold jh at h
   simp only[Bool.and_eq_true,decide_eq_true_eq]at h
   exact h.1
  obtain⟨a,b,c,d,e,f,g,h',i,j,rfl⟩:=MQ l h1
  rw[l7]at h
  obtain⟨x0,x1,x2,x3,rfl,x5,x6,rfl,x8,x9⟩:=h
  have e1:pcs 45 [a,b,c,d,45,f,g,45,i,j]=[[a,b,c,d],[f,g],[i,j]]:=by
   rw[show([a,b,c,d,45,f,g,45,i,j]:Bt)=[a,b,c,d]++45::([f,g]++45::[i,j])from rfl]
   rw[zG,zG,CX]
   ·simp[Ne.symm (fu x8).1,Ne.symm (fu x9).1]
   ·simp[Ne.symm (fu x5).1,Ne.symm (fu x6).1]
   ·simp[Ne.symm (fu x0).1,Ne.symm (fu x1).1,Ne.symm (fu x2).1,Ne.symm (fu x3).1]
  rw[e1]
  simp[all,x0,x1,x2,x3,x5,x6,x8,x9]
def Me (t:Bt):Bool:=decide (4<=t.length)&&decide (at_ t (t.length-3)=46)&&digit (at_ t (t.length-1))&&digit (at_ t (t.length-2))&&whole (t.take (t.length-3))
def ed (l:Bt):Bt:=if l.head? =some 45 then l.drop 1 else l
def lS (l:Bt):Bool:=!(l==[45,48,46,48,48])&&Me (ed l)
theorem GL (l:Bt):Lib.trimPrefix l [45]=ed l:=by
 unfold Lib.trimPrefix ed Lib.hasPrefix
 cases l with
 |nil=>rfl
 |cons c l=>by_cases h:c=45
            ·subst h;simp[List.isPrefixOf]
            ·simp[List.isPrefixOf,h,Ne.symm h]
theorem j5 {l:Bt}(h:whole l=true):∀c∈l,digit (c.toNat:Int)=true:=by
 unfold whole all at h
 simp only[Bool.and_eq_true,List.all_eq_true]at h
 exact h.1.2
theorem tL (p r:Bt)(h:(46:UInt8)∉p):Lib.cut (p++46::r) [46]=(p,r,true):=by
 unfold Lib.cut
 rw[lm 46 p r h,if_pos (by omega)]
 simp only[Int.toNat_natCast,List.take_left,List.length_singleton]
 congr 2
 rw[<-List.drop_drop,List.drop_left]
 rfl
theorem MF (t:Bt):((Lib.cut t [46]).2.2&&whole (Lib.cut t [46]).1&&decide ((Lib.cut t [46]).2.1.length=2)&&all digit (Lib.cut t [46]).2.1)=Me t:=by
 rw[Bool.eq_iff_iff]
 constructor
 ·intro h
  by_cases hm:(46:UInt8)∈t
  ·obtain⟨p,r,rfl,hp⟩:=List.eq_append_cons_of_mem hm
   rw[tL p r hp]at h
   simp only[Bool.and_eq_true,decide_eq_true_eq,Bool.true_and]at h
   obtain⟨⟨h1,h2⟩,h3⟩:=h
   obtain⟨x,y,rfl⟩:=Kv r h2
   have hpl:0<p.length:=by
    cases p with
    |nil=>simp[whole,all]at h1
    |cons _ _=>simp
   have hn:(p++[46,x,y]).length=p.length+3:=by simp
   unfold Me
   rw[hn,show p.length+3-3=p.length from by omega,show p.length+3-1=p.length+2 from by omega,show p.length+3-2=p.length+1 from by omega,List.take_left,h1]
   have a0:at_ (p++[46,x,y]) p.length=46:=by unfold at_;rw[List.getD_eq_getElem?_getD,List.getElem?_append_right (Nat.le_refl _),Nat.sub_self];rfl
   have a1:at_ (p++[46,x,y]) (p.length+1)=x.toNat:=by unfold at_;rw[List.getD_eq_getElem?_getD,List.getElem?_append_right (by omega),Nat.add_sub_cancel_left];rfl
   have a2:at_ (p++[46,x,y]) (p.length+2)=y.toNat:=by unfold at_;rw[List.getD_eq_getElem?_getD,List.getElem?_append_right (by omega),Nat.add_sub_cancel_left];rfl
   rw[a0,a1,a2]
   simp[all]at h3
   simp[h3]
   omega
  ·unfold Lib.cut at h
   rw[nR 46 t hm]at h
   simp at h
 ·intro h
  unfold Me at h
  simp only[Bool.and_eq_true,decide_eq_true_eq]at h
  obtain⟨⟨⟨⟨h0,h1⟩,h2⟩,h3⟩,h4⟩:=h
  obtain⟨p,hp⟩:∃p,p=t.take (t.length-3):=⟨_,rfl⟩
  obtain⟨z,x,y,hr⟩:∃z x y,t.drop (t.length-3)=[z,x,y]:=by
   have:(t.drop (t.length-3)).length=3:=by rw[List.length_drop];omega
   match t.drop (t.length-3),this with
   |[z,x,y],_=>exact⟨z,x,y,rfl⟩
  have ht:t=p++[z,x,y]:=by rw[hp,<-hr,List.take_append_drop]
  have hpl:p.length=t.length-3:=by rw[hp,List.length_take];omega
  rw[<-hp]at h4
  have a0:at_ t (t.length-3)=z.toNat:=by unfold at_;rw[<-hpl,ht,List.getD_eq_getElem?_getD,List.getElem?_append_right (by omega),Nat.sub_self];rfl
  have a1:at_ t (t.length-2)=x.toNat:=by unfold at_;rw[show t.length-2=p.length+1 from by omega,ht,List.getD_eq_getElem?_getD,List.getElem?_append_right (by omega),Nat.add_sub_cancel_left];rfl
  have a2:at_ t (t.length-1)=y.toNat:=by unfold at_;rw[show t.length-1=p.length+2 from by omega,ht,List.getD_eq_getElem?_getD,List.getElem?_append_right (by omega),Nat.add_sub_cancel_left];rfl
  rw[a0]at h1
  rw[a1]at h3
  rw[a2]at h2
  have hz:z=46:=(u8_46 z).1 (by simp[h1])
  subst hz
  have hn:(46:UInt8)∉p:=λhm=>(fu (j5 h4 _ hm)).2 rfl
  rw[ht,show p++[46,x,y]=p++46::[x,y]from rfl,tL p _ hn]
  simp[h4,all,h2,h3]
theorem uP (l:Bt):decimal l=lS l:=by
 unfold decimal lS
 rw[GL,MF,Bool.and_comm]
def ME (l:Bt):Int×Int:=
 if 32<l.length then(0,5)else if jh l then(4,0)else if whole l&&decide (l.length<=16)then(2,0)else if lS l then(3,0)
 else if all named l then(1,0)else if all lower l then(0,0)else(0,30)
theorem BL (s:ByteArray):aD s=ME s.data.toList:=by
 have hl:s.data.toList.length=s.size:=by obtain⟨⟨l⟩⟩:=s;rfl
 unfold aD ME
 rw[oW,uP,hl]
theorem uW (s:ByteArray)(h:(aD s).2=0):(s.data.toList.all λc=>c !=35)=true:=by
 rw[BL]at h
 obtain⟨l,hl⟩:∃l,l=s.data.toList:=⟨_,rfl⟩
 rw[<-hl]at h⊢
 rw[List.all_eq_true]
 intro c hc
 rw[bne_iff_ne]
 rintro rfl
 unfold ME at h
 split at h
 ·cases h
 split at h
 ·rename_i hd
  have h1:l.length=10:=by
   unfold jh at hd
   simp only[Bool.and_eq_true,decide_eq_true_eq]at hd
   exact hd.1
  obtain⟨a,b,c,d,e,f,g,h',i,j,rfl⟩:=MQ l h1
  rw[l7]at hd
  obtain⟨x0,x1,x2,x3,rfl,x5,x6,rfl,x8,x9⟩:=hd
  have k:∀c:UInt8,digit (c.toNat:Int)=true->(35:UInt8)≠c:=by
   rintro c hc rfl
   revert hc;decide
  simp[k _ x0,k _ x1,k _ x2,k _ x3,k _ x5,k _ x6,k _ x8,k _ x9]at hc
 split at h
 ·rename_i hd
  rw[Bool.and_eq_true]at hd
  have:=j5 hd.1 _ hc
  revert this;decide
 split at h
 ·rename_i hd
  unfold lS at hd
  rw[Bool.and_eq_true]at hd
  have hr:=hd.2
  have hm:(35:UInt8)∈ed l:=by
   unfold ed
   split
   ·rename_i hh
    cases l with
    |nil=>cases hh
    |cons x l=>
     obtain rfl:x=45:=by simpa using hh
     rcases List.mem_cons.1 hc with h|h
     ·cases h
     ·exact h
   ·exact hc
  rw[<-MF]at hr
  by_cases hn:(46:UInt8)∈ed l
  ·obtain⟨p,r,he,hp⟩:=List.eq_append_cons_of_mem hn
   rw[he,tL p r hp]at hr
   rw[he]at hm
   simp only[Bool.and_eq_true,decide_eq_true_eq,Bool.true_and]at hr
   obtain⟨⟨h1,h2⟩,h3⟩:=hr
   rcases List.mem_append.1 hm with hm|hm
   ·have:=j5 h1 _ hm
    revert this;decide
   ·rcases List.mem_cons.1 hm with hm|hm
    ·cases hm
    ·unfold all at h3
     rw[Bool.and_eq_true,List.all_eq_true]at h3
     have:=h3.2 _ hm
     revert this;decide
  ·unfold Lib.cut at hr
   rw[nR 46 _ hn]at hr
   simp at hr
 split at h
 ·rename_i hd
  unfold all at hd
  rw[Bool.and_eq_true,List.all_eq_true]at hd
  have:=hd.2 _ hc
  revert this;decide
 split at h
 ·rename_i hd
  unfold all at hd
  rw[Bool.and_eq_true,List.all_eq_true]at hd
  have:=hd.2 _ hc
  revert this;decide
 ·cases h
end Go.Proofs.YtnjjeapcalkmaaaGreatDoor.Lx
namespace Go.Proofs.YtnjjeapcalkmaaaGreatDoor.Ps
open Go
abbrev Dg:=List UInt8
def Et (l:Dg):Prop:=∀c∈l,48<=c.toNat/\c.toNat<=57
def nz:Nat->Dg->Nat
 |acc,[]=>acc
 |acc,c::l=>nz (acc*10+(c.toNat-48)) l
theorem FT:∀(l:Dg) (acc:Nat),acc<=nz acc l
 |[],acc=>Nat.le_refl _
 |c::l,acc=>by
  have:=FT l (acc*10+(c.toNat-48))
  unfold nz
  omega
theorem ug:∀(l:Dg) (acc:Nat),Et l->(nz acc l<=100000000000000000->Lib.parseUintM (2^64-1) acc l=.ok (nz acc l))/\(∀u,Lib.parseUintM (2^64-1) acc l=.ok u->u=nz acc l)
 |[],acc,_=>⟨λ_=>rfl,λu h=>by cases h;rfl⟩
 |c::l,acc,hd=>by
  have hc:=hd c List.mem_cons_self
  have ih:=ug l (acc*10+(c.toNat-48)) λx hx=>hd x (List.mem_cons_of_mem _ hx)
  have hle:=FT l (acc*10+(c.toNat-48))
  unfold Lib.parseUintM nz
  rw[if_pos hc]
  refine⟨λh=>?_,λu h=>?_⟩
  ·rw[if_neg (by omega),if_neg (by omega)]
   exact ih.1 h
  ·split at h
   ·cases h
   ·split at h
    ·cases h
    ·exact ih.2 u h
theorem pI (l:Dg)(h:Et l)(h0:l≠[]):(nz 0 l<=1000000000000000->Lib.parseIntB 64 l=.ok (nz 0 l:Int))/\(∀v,Lib.parseIntB 64 l=.ok v->v=(nz 0 l:Int)):=by
 cases l with
 |nil=>exact absurd rfl h0
 |cons c r=>
  have hc:=h c List.mem_cons_self
  have e43:¬c.toNat=43:=by omega
  have e45:¬c.toNat=45:=by omega
  obtain⟨p1,p2⟩:=ug (c::r) 0 h
  have hu:Lib.parseUintB 64 (c::r)=Lib.parseUintM (2^64-1) 0 (c::r):=by
   unfold Lib.parseUintB
   rw[if_neg (by simp)]
  have hI:∀x,Lib.parseUintM (2^64-1) 0 (c::r)=x->Lib.parseIntB 64 (c::r)=(match x with
   | .ok u=>if 2^63<=u then .range else .ok (u:Int)
   | .range=>.range
   |_=>Lib.parseIntB 64 (c::r)):=by
   intro x hx
   rcases x with u|_|_
   ·unfold Lib.parseIntB
    simp only[e43,e45,or_self,if_false,hu,hx]
    simp
   ·rfl
   ·unfold Lib.parseIntB
    simp only[e43,e45,or_self,if_false,hu,hx]
  constructor
  ·intro hn
   rw[hI _ (p1 (by omega))]
   simp only
   rw[if_neg (by omega)]
  ·intro v hv
   rcases hp:Lib.parseUintM (2^64-1) 0 (c::r)with u|_|_
   ·rw[hI _ hp]at hv
    simp only at hv
    split at hv
    ·cases hv
    ·cases hv
     rw[p2 u hp]
   ·exfalso
    unfold Lib.parseIntB at hv
    simp only[e43,e45,or_self,if_false,hu,hp]at hv
    cases hv
   ·rw[hI _ hp]at hv
    cases hv
theorem jf:∀(l:Dg) (x:Nat) (c:UInt8),nz x (l++[c])=nz x l*10+(c.toNat-48)
 |[],x,c=>rfl
 |d::l,x,c=>by
  rw[List.cons_append]
  conv=>lhs;unfold nz
  rw[jf l _ c]
  rfl
end Go.Proofs.YtnjjeapcalkmaaaGreatDoor.Ps
namespace Go.Proofs.YtnjjeapcalkmaaaGreatDoor.Lx
abbrev Bs:=List UInt8
def gz (l:Bs):Bool:=l.all λc=>!blank (c.toNat:Int)
def blanks (l:Bs):Bool:=l.all λc=>blank (c.toNat:Int)
def BM (k:Nat)(t:Bs)(a:Nat)(acc:List Tok)(next:Nat->List Tok->List Tok×Int×Int):List Tok×Int×Int:=
 if t=[]then(acc,0,0)
 else if (aD ⟨t.toArray⟩).2=0 then next (a+k+t.length) (acc++[((aD ⟨t.toArray⟩).1,⟨t.toArray⟩,a+k)])
 else([],((a+k:Nat):Int),(aD ⟨t.toArray⟩).2)
theorem AR (k:Nat)(t:Bs)(a:Nat)(acc:List Tok)(next:Nat->List Tok->List Tok×Int×Int)(h:t≠[])(hc:(aD ⟨t.toArray⟩).2=0):BM k t a acc next=next (a+k+t.length) (acc++[((aD ⟨t.toArray⟩).1,⟨t.toArray⟩,a+k)]):=by
 unfold BM;rw[if_neg h,if_pos hc]
theorem wQ (k:Nat)(t:Bs)(a:Nat)(acc:List Tok)(next:Nat->List Tok->List Tok×Int×Int)(h:t≠[])(hc:(aD ⟨t.toArray⟩).2≠0):BM k t a acc next=([],((a+k:Nat):Int),(aD ⟨t.toArray⟩).2):=by
 unfold BM;rw[if_neg h,if_neg hc]
def ql:Nat->Bs->Nat->List Tok->List Tok×Int×Int
 |0,_,_,acc=>(acc,0,0)
 |f+1,l,a,acc=>
  BM (run blank l) ((l.drop (run blank l)).take (run (λc=>!blank c) (l.drop (run blank l)))) a acc (ql f (l.drop (run blank l+((l.drop (run blank l)).take (run (λc=>!blank c) (l.drop (run blank l)))).length)))
theorem xm (f:Nat)(l:Bs)(a:Nat)(acc:List Tok):ql (f+1) l a acc=BM (run blank l) ((l.drop (run blank l)).take (run (λc=>!blank c) (l.drop (run blank l)))) a acc (ql f (l.drop (run blank l+((l.drop (run blank l)).take (run (λc=>!blank c) (l.drop (run blank l)))).length))):=rfl
theorem j6 (s:ByteArray)(a b:Nat):s.extract a b=⟨((s.data.toList.drop a).take (b-a)).toArray⟩:=by
 obtain⟨⟨l⟩⟩:=s
 rw[ByteArray.extract_mk]
theorem qm (s:ByteArray):∀(f a:Nat) (acc:List Tok),a<=s.size->iI f s a acc=ql f (s.data.toList.drop a) a acc
 |0,_,_,_=>rfl
 |f+1,a,acc,ha=>by
  have hl:s.data.toList.length=s.size:=by obtain⟨⟨l⟩⟩:=s;rfl
  obtain⟨k,hk⟩:∃k,k=run blank (s.data.toList.drop a):=⟨_,rfl⟩
  have h1:skip s a=k:=by
   unfold skip
   rw[j6,hk]
   congr 1
   show List.take _ _=_
   rw[List.take_of_length_le]
   rw[List.length_drop];omega
  have hsk:=yX s a ha
  obtain⟨m,hm⟩:∃m,m=run (λc=>!blank c) ((s.data.toList.drop a).drop k):=⟨_,rfl⟩
  have h2:size s (a+k)=m:=by
   unfold size
   rw[j6,hm]
   congr 1
   show List.take _ _=_
   rw[List.take_of_length_le,List.drop_drop]
   rw[List.length_drop];omega
  rw[h1]at hsk
  have hsz:=size_le s (a+k) hsk
  rw[h2]at hsz
  obtain⟨t,hte⟩:∃t,t=(List.drop k (List.drop a s.data.toList)).take m:=⟨_,rfl⟩
  have ht:s.extract (a+k) (a+k+m)=⟨t.toArray⟩:=by
   rw[j6,hte,List.drop_drop,show a+k+m-(a+k)=m from by omega]
  have htl:t.length=m:=by
   rw[hte,List.length_take,List.drop_drop,List.length_drop];omega
  unfold iI ql
  rw[<-hk,<-hm,<-hte]
  simp only[h1,h2,ht]
  by_cases h0:m=0
  ·rw[if_pos h0]
   unfold BM
   rw[if_pos (List.eq_nil_of_length_eq_zero (by omega))]
  ·have hn:t≠[]:=λh=>h0 (by rw[<-htl,h];rfl)
   rw[if_neg h0]
   by_cases hc:(aD ⟨t.toArray⟩).2=0
   ·rw[if_pos hc,AR _ _ _ _ _ hn hc,qm s f _ _ (by omega),List.drop_drop,htl,show a+(k+m)=a+k+m from by omega]
   ·rw[if_neg hc,wQ _ _ _ _ _ hn hc]
theorem Mr (p:Int->Bool)(g l:Bs)(hg:g.all (λc=>p (c.toNat:Int))=true)(hl:∀c r,l=c::r->p (c.toNat:Int)=false):run p (g++l)=g.length:=by
 induction g with
 |nil=>
  cases l with
  |nil=>rfl
  |cons c r=>simp[run,hl c r rfl]
 |cons x g ih=>
  rw[List.all_cons,Bool.and_eq_true]at hg
  have e:run p (x::(g++l))=run p (g++l)+1:=by simp[run,hg.1]
  rw[List.cons_append,e,ih hg.2]
  rfl
theorem JV (f:Nat)(g t l:Bs)(a:Nat)(acc:List Tok)(hg:blanks g=true)(ht:gz t=true)(h0:t≠[])(hl:∀c r,l=c::r->blank (c.toNat:Int)=true):
 ql (f+1) (g++(t++l)) a acc=if (aD ⟨t.toArray⟩).2=0 then ql f l (a+g.length+t.length) (acc++[((aD ⟨t.toArray⟩).1,⟨t.toArray⟩,a+g.length)])else([],((a+g.length:Nat):Int),(aD ⟨t.toArray⟩).2):=by
 have e1:run blank (g++(t++l))=g.length:=Mr blank g _ hg λc r h=>by
  cases t with
  |nil=>exact absurd rfl h0
  |cons x t=>
   rw[List.cons_append]at h
   injection h with h1 h2
   subst h1
   unfold gz at ht
   rw[List.all_cons,Bool.and_eq_true]at ht
   simpa using ht.1
 have e2:run (λc=>!blank c) (t++l)=t.length:=Mr _ t _ ht λc r h=>by simp[hl c r h]
 rw[xm,e1,List.drop_left,e2,List.take_left]
 by_cases hc:(aD ⟨t.toArray⟩).2=0
 ·rw[if_pos hc,AR _ _ _ _ _ h0 hc,<-List.drop_drop,List.drop_left,List.drop_left]
 ·rw[if_neg hc,wQ _ _ _ _ _ h0 hc]
theorem Mq (f:Nat)(g:Bs)(a:Nat)(acc:List Tok)(hg:blanks g=true):ql f g a acc=(acc,0,0):=by
 cases f with
 |zero=>rfl
 |succ f=>
  have e1:run blank g=g.length:=(mr _ _).2 hg
  unfold ql
  rw[e1,List.drop_length,List.take_nil]
  rfl
def dF:List (Bs×Bs)->Bs->Bs
 |[],e=>e
 |(g,t)::r,e=>g++(t++dF r e)
def il:List (Bs×Bs)->Nat->List Tok
 |[],_=>[]
 |(g,t)::r,a=>((aD ⟨t.toArray⟩).1,⟨t.toArray⟩,a+g.length)::il r (a+g.length+t.length)
def ng:List (Bs×Bs)->Bool->Prop
 |[],_=>True
 |(g,t)::r,b=>(b=false->g≠[])/\blanks g=true/\gz t=true/\t≠[]/\(aD ⟨t.toArray⟩).2=0/\(t.all λc=>c !=35)=true/\ng r false
theorem xw:∀(ps:List (Bs×Bs)) (e:Bs) (f a:Nat) (acc:List Tok) (b:Bool),ng ps b->blanks e=true->(e=[]\/True)->ps.length<=f->ql f (dF ps e) a acc=(acc++il ps a,0,0)
 |[],e,f,a,acc,_,_,he,_,_=>by rw[il,List.append_nil];exact Mq f e a acc he
 |(g,t)::r,e,0,a,acc,b,h,he,ht,hf=>by simp at hf
 |(g,t)::r,e,f+1,a,acc,b,⟨h1,h2,h3,h4,h5,h7,h6⟩,he,ht,hf=>by
  unfold dF
  rw[JV f g t _ a acc h2 h3 h4 λc r' hc=>?_,if_pos h5,xw r e f _ _ false h6 he ht (by simpa using hf)]
  ·rw[il,List.append_assoc];rfl
  ·cases r with
   |nil=>
    rw[show dF [] e=e from rfl]at hc
    subst hc
    unfold blanks at he
    rw[List.all_cons,Bool.and_eq_true]at he
    exact he.1
   |cons y r=>
    obtain⟨g2,t2⟩:=y
    obtain⟨k1,k2,_⟩:=h6
    have k3:=k1 rfl
    cases g2 with
    |nil=>exact absurd rfl k3
    |cons x g2=>
     rw[dF,List.cons_append]at hc
     injection hc with hc1 _
     subst hc1
     unfold blanks at k2
     rw[List.all_cons,Bool.and_eq_true]at k2
     exact k2.1
theorem JD (l:Bs)(h:(l.all λc=>c !=35)=true)(i:Nat):isC l i=false:=by
 unfold isC
 rw[Bool.and_eq_false_iff]
 left
 rw[beq_eq_false_iff_ne]
 intro hi
 have:=List.mem_of_getElem? hi
 rw[List.all_eq_true]at h
 have:=h _ this
 simp at this
theorem sN (s:ByteArray)(h:(s.data.toList.all λc=>c !=35)=true):aa s=s:=by
 unfold aa
 rw[uo _ λj _=>JD _ h j]
 have hl:s.data.toList.length=s.size:=by obtain⟨⟨l⟩⟩:=s;rfl
 rw[hl]
 exact extract_all s
theorem pG {g:Bs}(h:blanks g=true):(g.all λc=>c !=35)=true:=by
 unfold blanks at h
 rw[List.all_eq_true]at h⊢
 intro x hx
 have h2:=h x hx
 rw[bne_iff_ne]
 rintro rfl
 revert h2
 decide
theorem vN:∀(ps:List (Bs×Bs)) (e:Bs) (b:Bool),ng ps b->blanks e=true->((dF ps e).all λc=>c !=35)=true
 |[],e,_,_,he=>pG he
 |(g,t)::r,e,b,⟨h1,h2,h3,h4,h5,h7,h6⟩,he=>by
  unfold dF
  rw[List.all_append,List.all_append,pG h2,h7,vN r e false h6 he]
  rfl
theorem rJ:∀(ps:List (Bs×Bs)) (e:Bs) (b:Bool),ng ps b->ps.length<=(dF ps e).length
 |[],e,_,_=>Nat.zero_le _
 |(g,t)::r,e,b,⟨h1,h2,h3,h4,h5,h7,h6⟩=>by
  have:=rJ r e false h6
  have:=List.length_pos_iff.2 h4
  unfold dF
  simp only[List.length_append,List.length_cons]
  omega
theorem xA (ps:List (Bs×Bs))(e:Bs)(h:ng ps true)(he:blanks e=true)(hl:(dF ps e).length<=1024):aL ⟨(dF ps e).toArray⟩=(il ps 0,0,0):=by
 unfold aL
 have hsz:(⟨(dF ps e).toArray⟩:ByteArray).size=(dF ps e).length:=rfl
 rw[if_neg (by rw[hsz];omega),sN _ (vN ps e true h he),qm _ _ _ _ (Nat.zero_le _)]
 have:=rJ ps e true h
 exact xw ps e _ 0 [] true h he (.inr trivial) (by omega)
end Go.Proofs.YtnjjeapcalkmaaaGreatDoor.Lx
namespace Go.Proofs.YtnjjeapcalkmaaaGreatDoor.Ps
open Go
def Off (l:List Tok)(o:Int):Prop:=(∃a,o=aU l a)\/o=zw l
def aN {α:Type}(l:List Tok)(p:P α):Prop:=∀a e,p a=.error e->Off l e.1/\e.2≠0
section
variable {l : List Tok}
theorem aN.pure {α:Type}(x:α):aN l (dO x):=λa e h=>by cases h
theorem aN.bind {α β:Type}{m:P α}{f:α->P β}(hm:aN l m)(hf:∀x,aN l (f x)):aN l (bind' m f):=λa e h=>by
 unfold bind' at h
 cases hc:m a with
 |error e'=>rw[hc]at h;cases h;exact hm a _ hc
 |ok x=>rw[hc]at h;exact hf x.1 x.2 e h
theorem aN.fail {α:Type}(n:Int)(hn:n≠0):aN l (iE (α:=α) l n):=λa e h=>by
 cases h;exact⟨.inl ⟨a,rfl⟩,hn⟩
theorem aN.word (w:Bs):aN l (word l w):=λa e h=>by
 unfold Ps.word at h
 split at h
 ·cases h;exact⟨.inr rfl,by show(4:Int)≠0;decide⟩
 ·split at h
  ·cases h
  ·cases h;exact⟨.inl ⟨a,rfl⟩,by show(30:Int)≠0;decide⟩
theorem aN.take {α:Type}(f:ByteArray->α×Int)(ks:List Int):aN l (take l f ks):=λa e h=>by
 unfold Ps.take at h
 split at h
 ·cases h;exact⟨.inr rfl,by show(4:Int)≠0;decide⟩
 ·split at h
  ·split at h
   ·cases h
   ·rename_i hz;cases h;exact⟨.inl ⟨a,rfl⟩,hz⟩
  ·cases h;exact⟨.inl ⟨a,rfl⟩,by show(30:Int)≠0;decide⟩
variable (E : Env)
theorem aN.ref:aN l (Ps.ref E l):=by unfold Ps.ref Ps.ident;exact aN.take _ _
theorem aN.member:aN l (Ps.member E l):=by unfold Ps.member Ps.ident;exact aN.take _ _
theorem aN.isin:aN l (Ps.isin E l):=by unfold Ps.isin Ps.ident;exact aN.take _ _
theorem aN.cash:aN l (Ps.cash E l):=aN.take _ _
theorem aN.quantity:aN l (Ps.quantity E l):=aN.take _ _
theorem aN.day:aN l (Ps.day E l):=aN.take _ _
theorem aN.options:∀(f:Nat) (s:Seen) (i:Ins),aN l (options E l f s i)
 |0,s,i=>.pure i
 |f+1,s,i=>λa e h=>by
  have ih:=aN.options f
  unfold Ps.options at h
  split at h
  ·cases h
  split at h
  ·split at h
   ·exact aN.fail 7 (by decide) a e h
   ·exact ih _ _ _ e h
  split at h
  ·split at h
   ·exact aN.fail 7 (by decide) a e h
   ·exact aN.bind (.quantity E) (λn=>ih _ _) _ e h
  split at h
  ·split at h
   ·exact aN.fail 7 (by decide) a e h
   ·exact ih _ _ _ e h
  split at h
  ·split at h
   ·exact aN.fail 7 (by decide) a e h
   ·exact ih _ _ _ e h
  split at h
  ·exact aN.bind (.ref E) (λn=>ih _ _) _ e h
  split at h
  ·exact aN.bind (.ref E) (λn=>ih _ _) _ e h
  exact aN.fail 30 (by decide) a e h
theorem aN.changes:∀(f:Nat) (s:Seen) (i:Amd),aN l (changes E l f s i)
 |0,s,i=>.pure i
 |f+1,s,i=>λa e h=>by
  have ih:=aN.changes f
  unfold Ps.changes at h
  split at h
  ·cases h
  split at h
  ·split at h
   ·exact aN.fail 7 (by decide) a e h
   ·exact ih _ _ _ e h
  split at h
  ·split at h
   ·exact aN.fail 7 (by decide) a e h
   ·exact aN.bind (.quantity E) (λn=>ih _ _) _ e h
  split at h
  ·split at h
   ·exact aN.fail 7 (by decide) a e h
   ·exact ih _ _ _ e h
  split at h
  ·split at h
   ·exact aN.fail 7 (by decide) a e h
   ·exact aN.bind (.cash E) (λn=>ih _ _) _ e h
  split at h
  ·split at h
   ·exact aN.fail 7 (by decide) a e h
   ·exact aN.bind (.day E) (λn=>ih _ _) _ e h
  exact aN.fail 30 (by decide) a e h
theorem aN.parties:aN l (parties E l):=.bind (.word _) λ_=>.bind (.member E) λ_=>.bind (.word _) λ_=>.bind (.member E) λ_=>.pure _
theorem aN.by_:aN l (by_ E l):=.bind (.word _) λ_=>.member E
theorem aN.security (i:Ins):aN l (security E l i):=.bind (.word _) λ_=>.bind (.isin E) λ_=>.bind (.word _) λ_=>.bind (.quantity E) λ_=>.pure _
theorem aN.payment (i:Ins):aN l (payment E l i):=.bind (.parties E) λ_=>.bind (.word _) λ_=>.bind (.cash E) λ_=>.bind (.word _) λ_=>.bind (.day E) λ_=>.options E _ _ _
theorem aN.trade (i:Ins):aN l (trade E l i):=.bind (.parties E) λ_=>.bind (.security E _) λj=>.bind (λa e h=>by
 split at h
 ·cases h
 ·exact aN.bind (.word _) (λ_=>aN.bind (.cash E) λ_=>.pure _) a e h) λ_=>.bind (.word _) λ_=>.bind (.day E) λ_=>.bind (.word _) λ_=>.bind (.day E) λ_=>.options E _ _ _
theorem aN.collateral (k:Int)(i:Ins):aN l (collateral E l k i):=.bind (.by_ E) λ_=>.bind (.security E _) λ_=>.bind (.word _) λ_=>.bind (.day E) λ_=>.pure _
theorem aN.rest (v:Bs)(q:Req):aN l (rest E l v q):=by
 unfold Ps.rest
 split
 ·exact .bind (.payment E _) λ_=>.pure _
 split
 ·exact .bind (.trade E _) λ_=>.pure _
 split
 ·exact .bind (.trade E _) λ_=>.pure _
 split
 ·exact .bind (.collateral E _ _) λ_=>.pure _
 split
 ·exact .bind (.collateral E _ _) λ_=>.pure _
 split
 ·refine .bind (.by_ E) λ_ a e h=>?_
  split at h
  ·cases h;exact⟨.inr rfl,by show(4:Int)≠0;decide⟩
  ·exact aN.bind (.changes E _ _ _) (λ_=>.pure _) a e h
 split
 ·exact .bind (.by_ E) λ_=>.pure _
 split
 ·exact .bind (.by_ E) λ_=>.pure _
 ·exact .bind (.by_ E) λ_=>.pure _
theorem aN.line:aN l (line E l):=λa e h=>by
 unfold Ps.line at h
 split at h
 ·cases h;exact⟨.inr rfl,by show(4:Int)≠0;decide⟩
 split at h
 ·refine aN.bind (.ref E) (λr=>aN.bind (.rest E _ _) λq=>?_) _ e h
  intro b e h
  have h:(if b<l.length then(.error (aU l b,30):Except Er (Req×Nat))else .ok (q,b))=.error e:=h
  split at h
  ·cases h;exact⟨.inl ⟨b,rfl⟩,by show(30:Int)≠0;decide⟩
  ·cases h
 ·cases h;exact⟨.inl ⟨a,rfl⟩,by show(30:Int)≠0;decide⟩
end
theorem Cn:∀(f:Nat) (l:Bs) (a:Nat) (acc:List Tok) (m:Nat),a+l.length<=m->(∀t∈acc,t.2.2+t.2.1.size<=m)->(∀t∈(Lx.ql f l a acc).1,t.2.2+t.2.1.size<=m)/\0<=(Lx.ql f l a acc).2.1/\(Lx.ql f l a acc).2.1<=m
 |0,l,a,acc,m,ha,h=>⟨h,Int.le_refl _,by show(0:Int)<=m;omega⟩
 |f+1,l,a,acc,m,ha,h=>by
  rw[Lx.xm]
  have h1:=Lx.tZ Lx.blank l
  obtain⟨k,hk⟩:∃k,k=Lx.run Lx.blank l:=⟨_,rfl⟩
  rw[<-hk]at h1⊢
  obtain⟨t,ht⟩:∃t,t=(l.drop k).take (Lx.run (λc=>!Lx.blank c) (l.drop k)):=⟨_,rfl⟩
  rw[<-ht]
  have htl:k+t.length<=l.length:=by
   rw[ht,List.length_take,List.length_drop];omega
  by_cases h0:t=[]
  ·unfold Lx.BM
   rw[if_pos h0]
   exact⟨h,Int.le_refl _,by show(0:Int)<=m;omega⟩
  by_cases hc:(Lx.aD ⟨t.toArray⟩).2=0
  ·rw[Lx.AR _ _ _ _ _ h0 hc]
   refine Cn f _ _ _ m ?_ λx hx=>?_
   ·rw[List.length_drop];omega
   ·rcases List.mem_append.1 hx with hx|hx
    ·exact h x hx
    ·rw[List.mem_singleton.1 hx]
     show a+k+t.length<=m
     omega
  ·rw[Lx.wQ _ _ _ _ _ h0 hc]
   exact⟨λt ht=>by simp at ht,by show(0:Int)<=((a+k:Nat):Int);omega,by show((a+k:Nat):Int)<=m;omega⟩
theorem y8 (s:ByteArray)(hs:s.size<=1024):(∀t∈(Lx.aL s).1,t.2.2+t.2.1.size<=s.size)/\0<=(Lx.aL s).2.1/\(Lx.aL s).2.1<=s.size:=by
 have hu:(Lx.aa s).size<=s.size:=by
  unfold Lx.aa
  rw[ByteArray.size_extract]
  omega
 unfold Lx.aL
 rw[if_neg (by omega),Lx.qm _ _ _ _ (Nat.zero_le _)]
 refine Cn _ _ _ _ _ ?_ λt ht=>by cases ht
 have:(Lx.aa s).data.toList.length=(Lx.aa s).size:=by obtain⟨⟨l⟩⟩:=Lx.aa s;rfl
 rw[List.drop_zero,this]
 omega
theorem Off.bound {l:List Tok}{o:Int}{m:Nat}(h:∀t∈l,t.2.2+t.2.1.size<=m)(ho:Off l o):0<=o/\o<=m:=by
 rcases ho with⟨a,rfl⟩|rfl
 ·unfold aU
  cases ha:l[a]? with
  |none=>exact⟨Int.le_refl _,by show(0:Int)<=m;omega⟩
  |some t=>
   have:=h t (List.mem_of_getElem? ha)
   exact⟨by show(0:Int)<=(t.2.2:Int);omega,by show(t.2.2:Int)<=m;omega⟩
 ·unfold zw
  cases ha:l.getLast? with
  |none=>exact⟨Int.le_refl _,by show(0:Int)<=m;omega⟩
  |some t=>
   have:=h t (List.mem_of_getLast? ha)
   exact⟨by show(0:Int)<=((t.2.2+t.2.1.size:Nat):Int);omega,by show((t.2.2+t.2.1.size:Nat):Int)<=m;omega⟩
theorem Cg (E:Env)(check:Req->Int)(s:ByteArray)(hs:s.size<=1024):((parse E check s).2.2=0->check (parse E check s).1=0/\(parse E check s).2.1=0)/\((parse E check s).2.2≠0->(parse E check s).1={}/\0<=(parse E check s).2.1/\(parse E check s).2.1<=s.size):=by
 obtain⟨h1,h2,h3⟩:=y8 s hs
 unfold parse
 split
 ·rename_i he
  exact⟨λh=>absurd h he,λ_=>⟨rfl,h2,h3⟩⟩
 ·cases hl:line E (Lx.aL s).1 0 with
  |error e=>
   simp only[]
   obtain⟨hb,hz⟩:=aN.line E 0 e hl
   exact⟨λh=>absurd h hz,λ_=>⟨trivial,hb.bound h1⟩⟩
  |ok x=>
   obtain⟨q,b⟩:=x
   simp only[]
   obtain⟨q',hq'⟩:∃q',q'=if q.op=0 then({q with sender:=q.ins.sender,ins:={q.ins with ref:=q.ref} }:Req)else q:=⟨_,rfl⟩
   rw[<-hq']
   by_cases hc:check q'≠0
   ·rw[if_pos hc]
    exact⟨λh=>absurd h hc,λ_=>⟨rfl,Off.bound h1 (.inl ⟨0,rfl⟩)⟩⟩
   ·rw[if_neg hc]
    exact⟨λ_=>⟨by simpa using hc,rfl⟩,λh=>absurd rfl h⟩
def dgt (n:Nat):UInt8:=UInt8.ofNat (48+n)
theorem pz {α:Type}{l:List α}(l':List α)(h:l≠[]):(l++l').head? =l.head?:=by
 cases l with
 |nil=>exact absurd rfl h
 |cons x l=>rfl
abbrev dec (n:Nat):List UInt8:=Lib.decDigits n
theorem fP {n:Nat}(h:n<10):dec n=[dgt n]:=Lib.decDigits_one h
theorem l5 {n:Nat}(h:¬n<10):dec n=dec (n/10)++[dgt (n%10)]:=by
 show Lib.decDigits n=_
 rw[Lib.decDigits,dif_neg h]
 rfl
theorem dY (n:Nat)(h:n<10):(dgt n).toNat=48+n:=by
 unfold dgt
 rw[UInt8.toNat_ofNat']
 omega
theorem dJ (n:Nat):Et (dec n)/\dec n≠[]/\nz 0 (dec n)=n/\(1<=n->∀c,(dec n).head? =some c->c≠48):=by
 induction n using Nat.strongRecOn with
 |ind n ih=>
  by_cases h:n<10
  ·rw[fP h]
   have ht:=dY n h
   refine⟨λc hc=>?_,List.cons_ne_nil _ _,?_,λh1 c hc=>?_⟩
   ·rw[List.mem_singleton]at hc;rw[hc];omega
   ·have h5:=jf [] 0 (dgt n)
    rw[ht]at h5
    exact h5.trans (by show 0*10+(48+n-48)=n;omega)
   ·replace hc:dgt n=c:=Option.some.inj hc
    rintro rfl
    have:=congrArg UInt8.toNat hc
    rw[ht]at this
    have e:(48:UInt8).toNat=48:=rfl
    omega
  ·obtain⟨h1,h2,h3,h4⟩:=ih (n/10) (by omega)
   rw[l5 h]
   have ht:=dY (n%10) (by omega)
   refine⟨λc hc=>?_,by simp,?_,λ_ c hc=>?_⟩
   ·rcases List.mem_append.1 hc with hc|hc
    ·exact h1 c hc
    ·rw[List.mem_singleton]at hc;rw[hc];omega
   ·rw[jf,h3,ht];omega
   ·refine h4 (by omega) c ?_
    rw[pz _ h2]at hc
    exact hc
theorem gY:∀(k n:Nat),n<10^(k+1)->(dec n).length<=k+1
 |0,n,h=>by rw[fP (by omega)];simp
 |k+1,n,h=>by
  by_cases hn:n<10
  ·rw[fP hn];simp
  ·rw[l5 hn,List.length_append]
   have hp:10^(k+1+1)=10^(k+1)*10:=Nat.pow_succ 10 (k+1)
   have:=gY k (n/10) (by omega)
   simp;omega
theorem uk {l:List UInt8}(h:Et l):l.all (λc=>Lx.digit (c.toNat:Int))=true:=by
 rw[List.all_eq_true]
 intro c hc
 have:=h c hc
 unfold Lx.digit
 simp;omega
theorem vO {l:List UInt8}(h:Et l):Lx.gz l=true:=by
 unfold Lx.gz
 rw[List.all_eq_true]
 intro c hc
 have:=h c hc
 unfold Lx.blank
 simp;omega
theorem BC (l:List UInt8)(h:∀c,l[4]? =some c->c≠45):Lx.jh l=false:=by
 unfold Lx.jh
 by_cases hl:l.length=10
 ·have h4:Lx.LW 4 (Lx.at_ l 4)=false:=by
   have h5:=h l[4] (List.getElem?_eq_getElem (by omega))
   have e:Lx.at_ l 4=(l[4].toNat:Int):=by
    unfold Lx.at_
    rw[List.getD_eq_getElem?_getD,List.getElem?_eq_getElem (by omega)];rfl
   rw[e]
   unfold Lx.LW
   simp only[true_or,if_true,decide_eq_false_iff_not]
   intro hc
   apply h5
   apply UInt8.toNat.inj
   have e45:(45:UInt8).toNat=45:=rfl
   omega
  rw[Bool.and_eq_false_iff]
  right
  rw[List.all_eq_false]
  exact⟨4,by simp,by simp[h4]⟩
 ·simp[hl]
theorem nY {c:UInt8}(h:48<=c.toNat):c≠45:=by
 rintro rfl
 have e45:(45:UInt8).toNat=45:=rfl
 omega
theorem yV (n:Nat)(h1:1<=n)(h2:n<=1000000000000000):Lx.aD ⟨(dec n).toArray⟩=(2,0):=by
 obtain⟨d1,d2,d3,d4⟩:=dJ n
 have dl:=gY 15 n (by omega)
 have hsz:(⟨(dec n).toArray⟩:ByteArray).size=(dec n).length:=rfl
 have hd:(⟨(dec n).toArray⟩:ByteArray).data.toList=dec n:=rfl
 have hrd:Lx.jh (dec n)=false:=BC _ λc hc=>nY (d1 c (List.mem_of_getElem? hc)).1
 have hw:Lx.whole (dec n)=true:=by
  unfold Lx.whole Lx.all
  rw[uk d1]
  have he:(dec n).isEmpty=false:=by simp[d2]
  rw[he]
  have hh:((dec n).head? ==some 48)=false:=by
   rw[beq_eq_false_iff_ne]
   intro hc
   exact d4 h1 _ hc rfl
  rw[hh]
  simp
 unfold Lx.aD
 rw[Lx.oW,hd,hrd,hsz,hw]
 rw[if_neg (by omega)]
 simp only[Bool.false_eq_true,if_false,Bool.true_and]
 rw[if_pos (by simpa using dl)]
def bZ (n:Nat):List UInt8:=dec (n/100)++[46,dgt (n/10%10),dgt (n%10)]
theorem oN (n:Nat)(h2:n<=1000000000000000):(bZ n).length<=17:=by
 have:=gY 13 (n/100) (by omega)
 unfold bZ
 simp;omega
theorem Ah (n:Nat):Lx.gz (bZ n)=true:=by
 have e1:Lx.gz (dec (n/100))=true:=vO (dJ (n/100)).1
 have t1:=dY (n/10%10) (by omega)
 have t2:=dY (n%10) (by omega)
 unfold bZ
 unfold Lx.gz at e1⊢
 rw[List.all_append,e1]
 simp only[List.all_cons,List.all_nil,t1,t2,Lx.blank]
 simp;omega
theorem Io (n:Nat):Lx.whole (dec n)=true:=by
 obtain⟨d1,d2,d3,d4⟩:=dJ n
 unfold Lx.whole Lx.all
 rw[uk d1]
 have he:(dec n).isEmpty=false:=by simp[d2]
 rw[he]
 by_cases h0:n<10
 ·rw[fP h0];simp
 ·have hh:((dec n).head? ==some 48)=false:=by
   rw[beq_eq_false_iff_ne]
   intro hc
   exact d4 (by omega) _ hc rfl
  rw[hh]
  simp
theorem yS {n:Nat}{c:UInt8}(hc:c.toNat<48):c∉dec n:=λh=>by
 have:=(dJ n).1 c h
 omega
theorem tY (n:Nat):Lib.trimPrefix (bZ n) [45]=bZ n:=by
 rw[Lx.GL]
 unfold Lx.ed
 rw[if_neg]
 obtain⟨d1,d2,_⟩:=dJ (n/100)
 unfold bZ
 intro h
 rw[pz _ d2]at h
 exact yS (by decide) (List.mem_of_mem_head? h)
theorem xy (n:Nat):Lib.cut (bZ n) [46]=(dec (n/100),[dgt (n/10%10),dgt (n%10)],true):=Lx.tL _ _ (yS (by decide))
theorem uF (n:Nat):Et [dgt (n/10%10),dgt (n%10)]:=λc hc=>by
 have t1:=dY (n/10%10) (by omega)
 have t2:=dY (n%10) (by omega)
 simp at hc
 rcases hc with rfl|rfl<;>omega
theorem wN (n:Nat)(h2:n<=1000000000000000):Lx.aD ⟨(bZ n).toArray⟩=(3,0):=by
 obtain⟨d1,d2,d3,d4⟩:=dJ (n/100)
 have dl:=oN n h2
 have hsz:(⟨(bZ n).toArray⟩:ByteArray).size=(bZ n).length:=rfl
 have hd:(⟨(bZ n).toArray⟩:ByteArray).data.toList=bZ n:=rfl
 have hrd:Lx.jh (bZ n)=false:=BC _ λc hc=>by
  have hm:=List.mem_of_getElem? hc
  unfold bZ at hm
  rcases List.mem_append.1 hm with hm|hm
  ·exact nY (d1 c hm).1
  ·rcases List.mem_cons.1 hm with rfl|hm
   ·decide
   ·exact nY (uF n c hm).1
 have hw:Lx.whole (bZ n)=false:=by
  unfold Lx.whole Lx.all
  have:(bZ n).all (λc=>Lx.digit (c.toNat:Int))=false:=by
   rw[List.all_eq_false]
   exact⟨46,by unfold bZ;simp,by decide⟩
  rw[this]
  simp
 have Jp:Lx.decimal (bZ n)=true:=by
  unfold Lx.decimal
  rw[tY,xy]
  have h45:(bZ n==[45,48,46,48,48])=false:=by
   rw[beq_eq_false_iff_ne]
   intro he
   have hh:=congrArg List.head? he
   unfold bZ at hh
   rw[pz _ d2]at hh
   exact yS (by decide) (List.mem_of_mem_head? hh)
  rw[h45]
  have ha:Lx.all Lx.digit [dgt (n/10%10),dgt (n%10)]=true:=by
   unfold Lx.all
   rw[uk (uF n)];rfl
  simp only[Io,ha]
  rfl
 unfold Lx.aD
 rw[Lx.oW,hd,hrd,hsz,hw,Jp]
 rw[if_neg (by omega)]
 simp
theorem JB (n:Nat):Et (dec (n/100)++[dgt (n/10%10),dgt (n%10)])/\nz 0 (dec (n/100)++[dgt (n/10%10),dgt (n%10)])=n:=by
 obtain⟨d1,d2,d3,d4⟩:=dJ (n/100)
 refine⟨λc hc=>?_,?_⟩
 ·rcases List.mem_append.1 hc with hc|hc
  ·exact d1 c hc
  ·exact uF n c hc
 ·have t1:=dY (n/10%10) (by omega)
  have t2:=dY (n%10) (by omega)
  rw[show dec (n/100)++[dgt (n/10%10),dgt (n%10)]=(dec (n/100)++[dgt (n/10%10)])++[dgt (n%10)]from by simp]
  rw[jf,jf,d3,t1,t2]
  omega
theorem fo (s:ByteArray)(h:Lx.all Lx.named s.data.toList=true)(hs:s.size<=32):∃k∈([1,2,4]:List Int),Lx.aD s=(k,0):=by
 have Jp:Lx.decimal s.data.toList=false:=by
  rw[Lx.uP]
  unfold Lx.lS Lx.Me
  rw[Bool.and_eq_false_iff]
  right
  rw[Bool.and_eq_false_iff];left
  rw[Bool.and_eq_false_iff];left
  rw[Bool.and_eq_false_iff];left
  by_cases hl:4<=(Lx.ed s.data.toList).length
  ·rw[Bool.and_eq_false_iff];right
   rw[decide_eq_false_iff_not]
   intro hc
   have hm:∀c∈Lx.ed s.data.toList,c∈s.data.toList:=λc hc=>by
    unfold Lx.ed at hc
    split at hc
    ·exact List.mem_of_mem_drop hc
    ·exact hc
   have hi:(Lx.ed s.data.toList).length-3<(Lx.ed s.data.toList).length:=by omega
   have e:Lx.at_ (Lx.ed s.data.toList) ((Lx.ed s.data.toList).length-3)=((Lx.ed s.data.toList)[(Lx.ed s.data.toList).length-3].toNat:Int):=by
    unfold Lx.at_
    rw[List.getD_eq_getElem?_getD,List.getElem?_eq_getElem hi];rfl
   rw[e]at hc
   have hmem:=hm _ (List.getElem_mem hi)
   unfold Lx.all at h
   rw[Bool.and_eq_true,List.all_eq_true]at h
   have:=h.2 _ hmem
   rw[hc]at this
   revert this
   decide
  ·rw[Bool.and_eq_false_iff];left
   simpa using hl
 unfold Lx.aD
 rw[if_neg (by omega),Jp,h]
 by_cases h1:Lx.date s=true
 ·rw[if_pos h1];exact⟨4,by simp,rfl⟩
 ·rw[if_neg h1]
  by_cases h2:(Lx.whole s.data.toList&&decide (s.size<=16))=true
  ·rw[if_pos h2];exact⟨2,by simp,rfl⟩
  ·rw[if_neg h2];exact⟨1,by simp,by simp⟩
theorem ul (s:ByteArray)(h:Lx.all Lx.named s.data.toList=true)(hs:s.size<=32)(c:UInt8)(hc:s.data.toList.head? =some c)(hu:Lx.upper (c.toNat:Int)=true):Lx.aD s=(1,0):=by
 obtain⟨l,hl⟩:∃l,s.data.toList=l:=⟨_,rfl⟩
 have hnd:Lx.digit (c.toNat:Int)=false:=by
  unfold Lx.upper at hu
  unfold Lx.digit
  simp at hu⊢
  omega
 obtain⟨k,hk,h1⟩:=fo s h hs
 rw[hl]at hc
 cases l with
 |nil=>cases hc
 |cons x l=>
  simp at hc
  subst hc
  have hrd:Lx.date s=false:=by
   rw[Lx.oW,hl]
   unfold Lx.jh
   rw[Bool.and_eq_false_iff];right
   rw[List.all_eq_false]
   refine⟨0,by simp,?_⟩
   have:Lx.LW 0 (Lx.at_ (x::l) 0)=Lx.digit (x.toNat:Int):=rfl
   rw[this,hnd]
   simp
  have hw:Lx.whole s.data.toList=false:=by
   rw[hl]
   unfold Lx.whole Lx.all
   rw[List.all_cons,hnd]
   simp
  unfold Lx.aD at h1⊢
  rw[if_neg (by omega)]at h1⊢
  rw[hrd,hw]at h1⊢
  simp only[Bool.false_eq_true,if_false,Bool.false_and,h]at h1⊢
  by_cases hd:Lx.decimal s.data.toList=true
  ·rw[if_pos hd]at h1
   cases h1
   simp at hk
  ·rw[if_neg hd]
   rfl
theorem rZ {l:List UInt8}(h:Lx.all Lx.named l=true):Lx.gz l=true/\l≠[]:=by
 unfold Lx.all at h
 rw[Bool.and_eq_true,List.all_eq_true]at h
 refine⟨?_,λh0=>by rw[h0]at h;simp at h⟩
 unfold Lx.gz
 rw[List.all_eq_true]
 intro c hc
 have:=h.2 c hc
 unfold Lx.named Lx.upper Lx.digit at this
 unfold Lx.blank
 simp at this⊢
 omega
def aV (l:List Tok)(a:Nat)(k:Int)(t:ByteArray):Prop:=∃o,l[a]? =some (k,t,o)
theorem aV.lt {l:List Tok}{a:Nat}{k:Int}{t:ByteArray}(h:aV l a k t):a<l.length:=by
 obtain⟨o,h⟩:=h
 exact(List.getElem?_eq_some_iff.1 h).1
theorem dL {l:List Tok}{a:Nat}{t:ByteArray}(h:aV l a 0 t):aQ l a=t:=by
 obtain⟨o,h⟩:=h
 simp only[aQ,h]
 rfl
theorem eO {l:List Tok}{a:Nat}{t:ByteArray}{w:Bs}(h:aV l a 0 t)(hw:t.data.toList=w):word l w a=.ok ((),a+1):=by
 unfold word
 rw[if_neg (by have:=h.lt;omega),dL h,if_pos hw]
theorem take_at {α:Type}{l:List Tok}{a:Nat}{k:Int}{t:ByteArray}{f:ByteArray->α×Int}{ks:List Int}(h:aV l a k t)(hk:k∈ks)(x:α)(hf:f t=(x,0)):take l f ks a=.ok (x,a+1):=by
 obtain⟨o,h⟩:=h
 unfold take
 simp only[h,if_pos hk,hf,if_true]
theorem qJ {E:Env}{l:List Tok}{a:Nat}{k:Int}{t:ByteArray}{n:Nat}{ks:List Int}(h:aV l a k t)(hk:k∈ks)(hf:E.valid n t=true):ident E l n ks a=.ok (t,a+1):=take_at h hk t (by rw[if_pos hf])
theorem oD {E:Env}{l:List Tok}{a:Nat}{t:ByteArray}(h:aV l a 4 t)(x:Int)(hf:E.date t=(x,0)):day E l a=.ok (x,a+1):=take_at h (by simp) x (by rw[hf];rfl)
theorem zP {E:Env}{l:List Tok}{a:Nat}{t:ByteArray}(h:aV l a 3 t)(x:Int)(hf:E.cash t=(x,0)):cash E l a=.ok (x,a+1):=take_at h (by simp) x hf
theorem kg {E:Env}{l:List Tok}{a:Nat}{t:ByteArray}(h:aV l a 2 t)(x:Int)(hf:E.number t=(x,0)):quantity E l a=.ok (x,a+1):=take_at h (by simp) x hf
section
variable (E : Env) (l : List Tok) (f : Nat) (s : Seen) (i : Ins) (a : Nat)
theorem KG (hlt:a<l.length)(p:Int)(hp:prio (aQ l a).data.toList=some p):options E l (f+1) s i a=if s.prio=true then .error (aU l a,7)else options E l f {s with prio:=true} {i with priority:=p} (a+1):=by
 conv=>lhs;unfold options
 rw[if_neg (by omega),hp]
 simp only[]
 by_cases h:s.prio=true
 ·rw[if_pos h,if_pos h];rfl
 ·rw[if_neg h,if_neg h]
theorem Ls (hlt:a<l.length)(hw:(aQ l a).data.toList=aO):options E l (f+1) s i a=if s.part=true then .error (aU l a,7)else bind' (quantity E l) (λn=>options E l f {s with part:=true} {i with partial_:=true,minLot:=n}) (a+1):=by
 conv=>lhs;unfold options
 rw[if_neg (by omega),hw,show prio aO=none from by decide]
 simp only[if_true]
 by_cases h:s.part=true
 ·rw[if_pos h,if_pos h];rfl
 ·rw[if_neg h,if_neg h]
theorem LX (hlt:a<l.length)(hw:(aQ l a).data.toList=bK):options E l (f+1) s i a=if s.hold=true then .error (aU l a,7)else options E l f {s with hold:=true} {i with hold:=true} (a+1):=by
 conv=>lhs;unfold options
 rw[if_neg (by omega),hw,show prio bK=none from by decide]
 simp only[]
 rw[if_neg (by decide),if_pos trivial]
 by_cases h:s.hold=true
 ·rw[if_pos h,if_pos h];rfl
 ·rw[if_neg h,if_neg h]
theorem OU (hlt:a<l.length)(hw:(aQ l a).data.toList=ae):options E l (f+1) s i a=if s.res=true then .error (aU l a,7)else options E l f {s with res:=true} {i with reserve:=true} (a+1):=by
 conv=>lhs;unfold options
 rw[if_neg (by omega),hw,show prio ae=none from by decide]
 simp only[]
 rw[if_neg (by decide),if_neg (by decide),if_pos trivial]
 by_cases h:s.res=true
 ·rw[if_pos h,if_pos h];rfl
 ·rw[if_neg h,if_neg h]
theorem Mx (hlt:a<l.length)(hw:(aQ l a).data.toList=eU):options E l (f+1) s i a=bind' (ref E l) (λr=>options E l f s {i with links:=i.links++[⟨0,r⟩]}) (a+1):=by
 conv=>lhs;unfold options
 rw[if_neg (by omega),hw,show prio eU=none from by decide]
 simp only[]
 rw[if_neg (by decide),if_neg (by decide),if_neg (by decide),if_pos trivial]
theorem Hd (hlt:a<l.length)(hw:(aQ l a).data.toList=bu):options E l (f+1) s i a=bind' (ref E l) (λr=>options E l f s {i with links:=i.links++[⟨1,r⟩]}) (a+1):=by
 conv=>lhs;unfold options
 rw[if_neg (by omega),hw,show prio bu=none from by decide]
 simp only[]
 rw[if_neg (by decide),if_neg (by decide),if_neg (by decide),if_neg (by decide),if_pos trivial]
end
theorem OG (E:Env)(l:List Tok)(f:Nat)(s:Seen)(i:Ins)(a:Nat)(h:l.length<=a):options E l (f+1) s i a=.ok (i,a):=by
 conv=>lhs;unfold options
 rw[if_pos h]
theorem xZ:∀(ps:List (Bs×Bs)) (a j:Nat) (g t:Bs),ps[j]? =some (g,t)->aV (Lx.il ps a) j (Lx.aD ⟨t.toArray⟩).1 ⟨t.toArray⟩
 |[],a,j,g,t,h=>by simp at h
 |(g',t')::ps,a,0,g,t,h=>by
  simp at h
  obtain⟨rfl,rfl⟩:=h
  exact⟨_,rfl⟩
 |(g',t')::ps,a,j+1,g,t,h=>by
  obtain⟨o,ho⟩:=xZ ps (a+g'.length+t'.length) j g t (by simpa using h)
  exact⟨o,by rw[Lx.il];simpa using ho⟩
theorem mi:∀(ps:List (Bs×Bs)) (a:Nat),(Lx.il ps a).length=ps.length
 |[],_=>rfl
 |(g,t)::ps,a=>by rw[Lx.il,List.length_cons,mi ps,List.length_cons]
section
variable {E : Env} {l : List Tok} {a : Nat}
theorem xn {t:ByteArray}(h:aV l a 1 t)(hf:E.valid 1 t=true):member E l a=.ok (t,a+1):=qJ h (by simp) hf
theorem Pb {t:ByteArray}(h:aV l a 1 t)(hf:E.valid 0 t=true):isin E l a=.ok (t,a+1):=qJ h (by simp) hf
theorem EX {k:Int}{t:ByteArray}(h:aV l a k t)(hk:k∈([1,2,4]:List Int))(hf:E.valid 2 t=true):ref E l a=.ok (t,a+1):=qJ h hk hf
theorem nK {f A t B:ByteArray}(h0:aV l a 0 f)(hf:f.data.toList=pV)(h1:aV l (a+1) 1 A)(v1:E.valid 1 A=true)(h2:aV l (a+2) 0 t)(ht:t.data.toList=sTo)(h3:aV l (a+3) 1 B)(v3:E.valid 1 B=true):
 parties E l a=.ok ((A,B),a+4):=by
 unfold parties
 rw[bind_ok (eO h0 hf),bind_ok (xn h1 v1),bind_ok (eO h2 ht),bind_ok (xn h3 v3)]
 rfl
theorem NA {b A:ByteArray}(h0:aV l a 0 b)(hb:b.data.toList=sBy)(h1:aV l (a+1) 1 A)(v1:E.valid 1 A=true):by_ E l a=.ok (A,a+2):=by
 unfold by_
 rw[bind_ok (eO h0 hb)]
 exact qJ h1 (by simp) v1
theorem lh {w1 X w2 N:ByteArray}(i:Ins){n:Int}(h0:aV l a 0 w1)(hw1:w1.data.toList=rR)(h1:aV l (a+1) 1 X)(v1:E.valid 0 X=true)(h2:aV l (a+2) 0 w2)(hw2:w2.data.toList=fU)(h3:aV l (a+3) 2 N)(v3:E.number N=(n,0)):
 security E l i a=.ok ({i with asset:=X,quantity:=n},a+4):=by
 unfold security
 rw[bind_ok (eO h0 hw1),bind_ok (Pb h1 v1),bind_ok (eO h2 hw2),bind_ok (kg h3 n v3)]
 rfl
theorem DY (i:Ins){A B w1 C w2 D:ByteArray}{n d:Int}(hp:parties E l a=.ok ((A,B),a+4))(h4:aV l (a+4) 0 w1)(hw1:w1.data.toList=bE)(h5:aV l (a+5) 3 C)(v5:E.cash C=(n,0))
 (h6:aV l (a+6) 0 w2) (hw2:w2.data.toList=dU) (h7:aV l (a+7) 4 D) (v7:E.date D=(d,0)):
 payment E l i a=options E l (l.length+1) {} {i with kind:=0,asset:=wH,sender:=A,counterparty:=B,amount:=n,settleDay:=d} (a+8):=by
 unfold payment
 rw[bind_ok hp,bind_ok (eO h4 hw1),bind_ok (zP h5 n v5),bind_ok (eO h6 hw2),bind_ok (oD h7 d v7)]
theorem Ed (i:Ins){A B X w1 C w2 T w3 D:ByteArray}{q n t d:Int}(hp:parties E l a=.ok ((A,B),a+4))(hs:∀j,security E l j (a+4)=.ok ({j with asset:=X,quantity:=q},a+8))
 (h8:aV l (a+8) 0 w1) (hw1:w1.data.toList=dP) (h9:aV l (a+9) 3 C) (v9:E.cash C=(n,0)) (h10:aV l (a+10) 0 w2) (hw2:w2.data.toList=jO) (h11:aV l (a+11) 4 T) (v11:E.date T=(t,0))
 (h12:aV l (a+12) 0 w3) (hw3:w3.data.toList=dU) (NL:aV l (a+13) 4 D) (v13:E.date D=(d,0)):
 trade E l i a=options E l (l.length+1) {} {i with kind:=1,sender:=A,counterparty:=B,asset:=X,quantity:=q,amount:=n,tradeDay:=t,settleDay:=d} (a+14):=by
 unfold trade
 rw[bind_ok hp,bind_ok (hs _)]
 have e1:(λa=>if (aQ l a).data.toList=jD then(.ok (({i with kind:=2,sender:=A,counterparty:=B,asset:=X,quantity:=q}:Ins),a+1):Except Er (Ins×Nat))else bind' (word l dP) (λ_=>bind' (cash E l) λn=>dO ({i with kind:=1,sender:=A,counterparty:=B,asset:=X,quantity:=q,amount:=n}:Ins)) a) (a+8)=.ok ({i with kind:=1,sender:=A,counterparty:=B,asset:=X,quantity:=q,amount:=n},a+10):=by
  show(if _ then _ else _)=_
  rw[if_neg (by rw[dL h8,hw1];decide),bind_ok (eO h8 hw1),bind_ok (zP h9 n v9)]
  rfl
 refine(bind_ok e1).trans ?_
 rw[bind_ok (eO h10 hw2),bind_ok (oD h11 t v11),bind_ok (eO h12 hw3),bind_ok (oD NL d v13)]
theorem free_at (i:Ins){A B X w1 w2 T w3 D:ByteArray}{q t d:Int}(hp:parties E l a=.ok ((A,B),a+4))(hs:∀j,security E l j (a+4)=.ok ({j with asset:=X,quantity:=q},a+8))
 (h8:aV l (a+8) 0 w1) (hw1:w1.data.toList=jD) (h9:aV l (a+9) 0 w2) (hw2:w2.data.toList=jO) (h10:aV l (a+10) 4 T) (v10:E.date T=(t,0))
 (h11:aV l (a+11) 0 w3) (hw3:w3.data.toList=dU) (h12:aV l (a+12) 4 D) (v12:E.date D=(d,0)):
 trade E l i a=options E l (l.length+1) {} {i with kind:=2,sender:=A,counterparty:=B,asset:=X,quantity:=q,tradeDay:=t,settleDay:=d} (a+13):=by
 unfold trade
 rw[bind_ok hp,bind_ok (hs _)]
 have e1:(λa=>if (aQ l a).data.toList=jD then(.ok (({i with kind:=2,sender:=A,counterparty:=B,asset:=X,quantity:=q}:Ins),a+1):Except Er (Ins×Nat))else bind' (word l dP) (λ_=>bind' (cash E l) λn=>dO ({i with kind:=1,sender:=A,counterparty:=B,asset:=X,quantity:=q,amount:=n}:Ins)) a) (a+8)=.ok ({i with kind:=2,sender:=A,counterparty:=B,asset:=X,quantity:=q},a+9):=by
  show(if _ then _ else _)=_
  rw[if_pos (by rw[dL h8,hw1])]
 refine(bind_ok e1).trans ?_
 rw[bind_ok (eO h9 hw2),bind_ok (oD h10 t v10),bind_ok (eO h11 hw3),bind_ok (oD h12 d v12)]
theorem xP (k:Int)(i:Ins){A X w1 D:ByteArray}{q d:Int}(hb:by_ E l a=.ok (A,a+2))(hs:∀j,security E l j (a+2)=.ok ({j with asset:=X,quantity:=q},a+6))(h6:aV l (a+6) 0 w1)(hw1:w1.data.toList=dU)(h7:aV l (a+7) 4 D)(v7:E.date D=(d,0)):
 collateral E l k i a=.ok ({i with kind:=k,sender:=A,asset:=X,quantity:=q,settleDay:=d},a+8):=by
 unfold collateral
 rw[bind_ok hb,bind_ok (hs _),bind_ok (eO h6 hw1),bind_ok (oD h7 d v7)]
 rfl
end
theorem mK {E:Env}{l:List Tok}{v R:ByteArray}{k:Int}(h0:aV l 0 0 v)(hv:v.data.toList∈verbs)(h1:aV l 1 k R)(hk:k∈([1,2,4]:List Int))(vr:E.valid 2 R=true)(q:Req)(hr:rest E l v.data.toList {ref:=R} 2=.ok (q,l.length)):line E l 0=.ok (q,l.length):=by
 unfold line
 rw[if_neg (by have:=h0.lt;omega),dL h0,if_pos hv,bind_ok (EX h1 hk vr)]
 show bind' _ _ 2=_
 rw[bind_ok hr,if_neg (by omega)]
theorem aY {c:Prop}[Decidable c]{n x:Int}(h:(if c then n else x)=0)(hn:n≠0):¬c/\x=0:=by
 by_cases hc:c
 ·rw[if_pos hc]at h;exact absurd h hn
 ·rw[if_neg hc]at h;exact⟨hc,h⟩
structure lF (V:Nat->ByteArray->Bool)(i:Ins):Prop where
 kind:i.kind=0\/i.kind=1\/i.kind=2\/i.kind=3\/i.kind=4
 ref:V 2 i.ref=true
 sender:V 1 i.sender=true
 cpN:(i.kind=3\/i.kind=4)->i.counterparty=⟨#[]⟩
 cpY:¬(i.kind=3\/i.kind=4)->V 1 i.counterparty=true
 side:i.side=0\/i.side=1
 sideN:¬(i.kind=1\/i.kind=2)->i.side=0
 asset0:i.kind=0->i.asset=wH
 asset:i.kind≠0->V 0 i.asset=true
 qty:i.kind≠0->1<=i.quantity/\i.quantity<=bM
 qty0:i.kind=0->i.quantity=0
 am:(i.kind=0\/i.kind=1)->1<=i.amount/\i.amount<=bM
 am0:¬(i.kind=0\/i.kind=1)->i.amount=0
 settle:0<=i.settleDay/\i.settleDay<=bV
 trade:(i.kind=1\/i.kind=2)->0<=i.tradeDay/\i.tradeDay<=i.settleDay
 trade0:¬(i.kind=1\/i.kind=2)->i.tradeDay=0
 prio:0<=i.priority/\i.priority<=2
 prio0:(i.kind=3\/i.kind=4)->i.priority=0
 part:i.partial_=true->i.kind=1\/i.kind=2
 lot:i.partial_=true->1<=i.minLot/\i.minLot<=i.quantity
 lot0:i.partial_=false->i.minLot=0
 hold:(i.kind=3\/i.kind=4)->i.hold=false
 res:i.reserve=true->i.kind=0/\i.priority=2
 links0:(i.kind=3\/i.kind=4)->i.links=[]
 links:i.links.length<=8
 link:∀x∈i.links,(x.type=0\/x.type=1)/\V 2 x.ref=true
theorem yO (V:Nat->ByteArray->Bool)(i:Ins):∀(r seen:List Link),jM V i seen r=0->∀x∈r,(x.type=0\/x.type=1)/\V 2 x.ref=true
 |[],_,_,x,hx=>by cases hx
 |y::r,seen,h,x,hx=>by
  unfold jM at h
  split at h
  ·cases h
  rename_i h1
  split at h
  ·cases h
  rename_i h2
  split at h
  ·cases h
  split at h
  ·cases h
  rcases List.mem_cons.1 hx with rfl|hx
  ·exact⟨by omega,by simpa using h2⟩
  ·exact yO V i r _ h x hx
theorem NR (V:Nat->ByteArray->Bool)(i:Ins)(h:uD V i=0):lF V i:=by
 unfold uD at h
 obtain⟨r1,h⟩:=aY h (by decide)
 obtain⟨r2,h⟩:=aY h (by decide)
 obtain⟨r3,h⟩:=aY h (by decide)
 obtain⟨r4,h⟩:=aY h (by decide)
 obtain⟨r5,h⟩:=aY h (by decide)
 obtain⟨r6,h⟩:=aY h (by decide)
 obtain⟨r7,h⟩:=aY h (by decide)
 obtain⟨r8,h⟩:=aY h (by decide)
 obtain⟨r9,h⟩:=aY h (by decide)
 obtain⟨r10,h⟩:=aY h (by decide)
 obtain⟨r11,h⟩:=aY h (by decide)
 obtain⟨r12,h⟩:=aY h (by decide)
 obtain⟨r13,h⟩:=aY h (by decide)
 obtain⟨r14,h⟩:=aY h (by decide)
 obtain⟨r15,h⟩:=aY h (by decide)
 obtain⟨r16,h⟩:=aY h (by decide)
 obtain⟨r17,h⟩:=aY h (by decide)
 obtain⟨r18,h⟩:=aY h (by decide)
 obtain⟨r19,h⟩:=aY h (by decide)
 obtain⟨r20,h⟩:=aY h (by decide)
 have k1:i.kind=0\/i.kind=1\/i.kind=2\/i.kind=3\/i.kind=4:=by omega
 exact{
  kind:=k1
  ref:=by simpa using r2
  sender:=by simpa using r3
  cpN:=λhk=>Classical.byContradiction λhc=>r4 ⟨hk,hc⟩
  cpY:=λhk=>by
   cases hv:V 1 i.counterparty with
   |true=>rfl
   |false=>exact absurd ⟨hk,hv⟩ r5
  side:=by omega
  sideN:=λhk=>Classical.byContradiction λhc=>r8 ⟨hk,hc⟩
  asset0:=λhk=>by
   rw[if_pos hk]at r9
   exact Classical.byContradiction r9
  asset:=λhk=>by
   rw[if_neg hk]at r9
   exact Classical.byContradiction r9
  qty:=λhk=>by
   rw[if_pos hk]at r10
   exact Classical.byContradiction r10
  qty0:=λhk=>by
   rw[if_neg (by omega)]at r10
   exact Classical.byContradiction r10
  am:=λhk=>by
   rw[if_pos hk]at r11
   exact Classical.byContradiction r11
  am0:=λhk=>by
   rw[if_neg hk]at r11
   exact Classical.byContradiction r11
  settle:=Classical.byContradiction r12
  trade:=λhk=>Classical.byContradiction λhc=>r13 (.inl ⟨hk,hc⟩)
  trade0:=λhk=>Classical.byContradiction λhc=>r13 (.inr ⟨hk,hc⟩)
  prio:=by omega
  prio0:=λhk=>by omega
  part:=λhp=>Classical.byContradiction λhc=>r15 ⟨hp,hc⟩
  lot:=λhp=>by
   rw[hp]at r16
   simp only[if_true,true_and]at r16
   omega
  lot0:=λhp=>by
   rw[hp]at r16
   simp only[Bool.false_eq_true,if_false,false_and,false_or]at r16
   omega
  hold:=λhk=>by
   cases hv:i.hold with
   |false=>rfl
   |true=>exact absurd ⟨hv,hk⟩ r17
  res:=λhp=>by
   have hn:¬(i.kind≠0\/i.priority≠2):=λhc=>r18 ⟨hp,hc⟩
   omega
  links0:=λhk=>List.eq_nil_of_length_eq_zero (by omega)
  links:=by omega
  link:=yO V i _ _ h}
theorem Ins.none_eq {i:Ins}(h:i.none):i={}:=by
 obtain⟨h1,h2,h3,h4,h5,h6,h7,h8,h9,h10,h11,h12,NL,h14,Jc,h16⟩:=h
 cases i
 simp only at h1 h2 h3 h4 h5 h6 h7 h8 h9 h10 h11 h12 NL h14 Jc h16
 have h16:=List.eq_nil_of_length_eq_zero h16
 subst h1 h2 h3 h4 h5 h6 h7 h8 h9 h10 h11 h12 NL h14 Jc h16
 rfl
theorem Amd.none_eq {a:Amd}(h:a.none):a={}:=by
 obtain⟨h1,h2,h3,h4,h5,h6,h7,h8,h9⟩:=h
 cases a
 simp only at h1 h2 h3 h4 h5 h6 h7 h8 h9
 subst h1 h2 h3 h4 h5 h6 h7 h8 h9
 rfl
structure nJ (a:Amd):Prop where
 some:a.hasAmount=true\/a.hasSettleDay=true\/a.hasPriority=true\/a.hasPartial=true
 am0:a.hasAmount=false->a.amount=0
 am:a.hasAmount=true->1<=a.amount/\a.amount<=bM
 day0:a.hasSettleDay=false->a.settleDay=0
 day:0<=a.settleDay/\a.settleDay<=bV
 prio0:a.hasPriority=false->a.priority=0
 prio:0<=a.priority/\a.priority<=2
 part0:a.hasPartial=false->a.partial_=false
 lot:a.partial_=true->1<=a.minLot/\a.minLot<=bM
 lot0:a.partial_=false->a.minLot=0
theorem Pg (a:Amd)(h:H9 a=0):nJ a:=by
 unfold H9 at h
 obtain⟨r1,h⟩:=aY h (by decide)
 obtain⟨r2,h⟩:=aY h (by decide)
 obtain⟨r3,h⟩:=aY h (by decide)
 obtain⟨r4,h⟩:=aY h (by decide)
 obtain⟨r5,h⟩:=aY h (by decide)
 obtain⟨r6,_⟩:=aY h (by decide)
 exact{
  some:=by
   cases h1:a.hasAmount<;>cases h2:a.hasSettleDay<;>cases h3:a.hasPriority<;>cases h4:a.hasPartial<;>simp_all
  am0:=λhk=>Classical.byContradiction λhc=>r2 (.inl ⟨hk,hc⟩)
  am:=λhk=>by
   rw[if_pos hk]at r3
   exact Classical.byContradiction r3
  day0:=λhk=>Classical.byContradiction λhc=>r2 (.inr (.inl ⟨hk,hc⟩))
  day:=Classical.byContradiction r4
  prio0:=λhk=>Classical.byContradiction λhc=>r2 (.inr (.inr (.inl ⟨hk,hc⟩)))
  prio:=Classical.byContradiction r5
  part0:=λhk=>by
   cases hv:a.partial_ with
   |false=>rfl
   |true=>exact absurd (.inr (.inr (.inr ⟨hk,.inl hv⟩))) r2
  lot:=λhk=>by
   rw[if_pos hk]at r6
   exact Classical.byContradiction r6
  lot0:=λhk=>by
   rw[if_neg (by simp[hk])]at r6
   exact Classical.byContradiction r6}
theorem oz (V:Nat->ByteArray->Bool)(q:Req)(h:zW V q=0):V 1 q.sender=true/\V 2 q.ref=true/\
 ((q.op=0/\lF V q.ins/\q={op:=0,sender:=q.ins.sender,ref:=q.ins.ref,ins:=q.ins})\/(q.op=1/\nJ q.amd/\q={op:=1,sender:=q.sender,ref:=q.ref,amd:=q.amd})\/((q.op=2\/q.op=3\/q.op=4)/\q={op:=q.op,sender:=q.sender,ref:=q.ref})):=by
 unfold zW at h
 split at h
 ·cases h
 rename_i r1
 split at h
 ·cases h
 rename_i r2
 split at h
 ·cases h
 rename_i r3
 refine⟨by simpa using r2,by simpa using r3,?_⟩
 split at h
 ·rename_i h0
  left
  split at h
  ·rename_i hz;exact absurd h hz
  rename_i r4
  split at h
  ·cases h
  rename_i r5
  split at h
  ·cases h
  rename_i r6
  have r4:uD V q.ins=0:=Classical.byContradiction r4
  have r6:q.amd.none:=Classical.byContradiction r6
  refine⟨h0,NR V _ r4,?_⟩
  have e1:q.ins.ref=q.ref:=Classical.byContradiction λhc=>r5 (.inl hc)
  have e2:q.ins.sender=q.sender:=Classical.byContradiction λhc=>r5 (.inr hc)
  have e3:=Amd.none_eq r6
  cases q
  simp only at h0 e1 e2 e3
  subst h0 e3
  simp only[e1,e2]
 ·rename_i h0
  right
  split at h
  ·cases h
  rename_i r4
  have e3:=Ins.none_eq (Classical.byContradiction r4)
  split at h
  ·rename_i h1
   left
   refine⟨h1,Pg _ h,?_⟩
   cases q
   simp only at h1 e3
   subst h1 e3
   rfl
  ·rename_i h1
   right
   split at h
   ·cases h
   rename_i r6
   have e4:=Amd.none_eq (Classical.byContradiction r6)
   refine⟨by omega,?_⟩
   cases q
   simp only at e3 e4
   subst e3 e4
   rfl
def eD (l:List Tok)(a:Nat)(ts:List ByteArray):Prop:=∀(j:Nat) (t:ByteArray),ts[j]? =some t->aV l (a+j) (Lx.aD t).1 t
theorem eD.head {l:List Tok}{a:Nat}{t:ByteArray}{ts:List ByteArray}(h:eD l a (t::ts)):aV l a (Lx.aD t).1 t:=h 0 t rfl
theorem eD.tail {l:List Tok}{a:Nat}{t:ByteArray}{ts:List ByteArray}(h:eD l a (t::ts)):eD l (a+1) ts:=λj x hx=>by
 have:=h (j+1) x (by simpa using hx)
 rwa [show a+(j+1)=a+1+j from by omega]at this
theorem eD.left {l:List Tok}{a:Nat}{ts us:List ByteArray}(h:eD l a (ts++us)):eD l a ts:=λj x hx=>
 h j x (by rw[List.getElem?_append_left (List.getElem?_eq_some_iff.1 hx).1];exact hx)
theorem eD.right {l:List Tok}{a:Nat}{ts us:List ByteArray}(h:eD l a (ts++us)):eD l (a+ts.length) us:=λj x hx=>by
 have:=h (ts.length+j) x (by rw[List.getElem?_append_right (by omega)];simpa using hx)
 rwa [show a+(ts.length+j)=a+ts.length+j from by omega]at this
theorem aV.of {l:List Tok}{a:Nat}{t:ByteArray}{k:Int}(h:aV l a (Lx.aD t).1 t)(hk:Lx.aD t=(k,0)):aV l a k t:=by rw[hk]at h;exact h
def bw (w:Bs):ByteArray:=⟨w.toArray⟩
def dX (n:Int):ByteArray:=⟨(dec n.toNat).toArray⟩
def bS (n:Int):ByteArray:=⟨(bZ n.toNat).toArray⟩
structure fV (E:Env)(D:Int->ByteArray):Prop where
 named:∀k s,k<3->E.valid k s=true->Lx.all Lx.named s.data.toList=true/\s.size<=32
 upper:∀k s,k<2->E.valid k s=true->Lx.aD s=(1,0)
 number:∀n:Int,1<=n->n<=bM->E.number (dX n)=(n,0)
 cash:∀n:Int,1<=n->n<=bM->E.cash (bS n)=(n,0)
 date:∀n:Int,0<=n->n<=bV->E.date (D n)=(n,0)
 day:∀n:Int,0<=n->n<=bV->Lx.aD (D n)=(4,0)
 daySolid:∀n:Int,0<=n->n<=bV->Lx.gz (D n).data.toList=true/\(D n).data.toList≠[]
def oo (t:ByteArray):Prop:=Lx.gz t.data.toList=true/\t.data.toList≠[]/\(Lx.aD t).2=0
section
variable {E : Env} {D : Int → ByteArray}
theorem fV.refK (hE:fV E D){s:ByteArray}(h:E.valid 2 s=true):(Lx.aD s).1∈([1,2,4]:List Int)/\oo s:=by
 obtain⟨h1,h2⟩:=hE.named 2 s (by omega) h
 obtain⟨k,hk,hc⟩:=fo s h1 h2
 obtain⟨h3,h4⟩:=rZ h1
 exact⟨by rw[hc];exact hk,h3,h4,by rw[hc]⟩
theorem fV.upG (hE:fV E D){k:Nat}{s:ByteArray}(hk:k<2)(h:E.valid k s=true):oo s:=by
 obtain⟨h1,h2⟩:=hE.named k s (by omega) h
 obtain⟨h3,h4⟩:=rZ h1
 exact⟨h3,h4,by rw[hE.upper k s hk h]⟩
theorem gB {n:Int}(h1:1<=n)(h2:n<=bM):Lx.aD (dX n)=(2,0)/\oo (dX n):=by
 unfold bM at h2
 have hc:=yV n.toNat (by omega) (by omega)
 obtain⟨d1,d2,_⟩:=dJ n.toNat
 exact⟨hc,vO d1,d2,by show(Lx.aD ⟨(dec n.toNat).toArray⟩).2=0;rw[hc]⟩
theorem iw {n:Int}(h2:n<=bM):Lx.aD (bS n)=(3,0)/\oo (bS n):=by
 unfold bM at h2
 have hc:=wN n.toNat (by omega)
 refine⟨hc,Ah _,?_,by show(Lx.aD ⟨(bZ n.toNat).toArray⟩).2=0;rw[hc]⟩
 show bZ n.toNat≠[]
 unfold bZ
 simp
theorem fV.dayG (hE:fV E D){n:Int}(h1:0<=n)(h2:n<=bV):oo (D n):=⟨(hE.daySolid n h1 h2).1,(hE.daySolid n h1 h2).2,by rw[hE.day n h1 h2]⟩
end
def oO (w:Bs):Bool:=decide (Lx.aD (bw w)=(0,0))&&Lx.gz w&&!w.isEmpty
theorem iZ {w:Bs}(h:oO w=true):Lx.aD (bw w)=(0,0)/\oo (bw w):=by
 unfold oO at h
 simp only[Bool.and_eq_true,decide_eq_true_eq,Bool.not_eq_true',List.isEmpty_eq_false_iff]at h
 exact⟨h.1.1,h.1.2,h.2,by rw[h.1.1]⟩
theorem eD.word {l:List Tok}{a:Nat}{w:Bs}(h:aV l a (Lx.aD (bw w)).1 (bw w))(hw:oO w=true):aV l a 0 (bw w):=h.of (iZ hw).1
def fB (p:Int):Bs:=if p=0 then qL else if p=1 then GI else tO
def Pt (x:Link):List ByteArray:=[bw (if x.type=0 then eU else bu),x.ref]
theorem qF {p:Int}(h:0<=p/\p<=2):oO (fB p)=true/\Ps.prio (fB p)=some p:=by
 rcases(show p=0\/p=1\/p=2 by omega)with rfl|rfl|rfl<;>exact⟨by decide +kernel,by decide⟩
section
variable (E : Env) (l : List Tok) (f : Nat) (s : Seen) (i : Amd) (a : Nat)
theorem Jt (hlt:a<l.length)(p:Int)(hp:prio (aQ l a).data.toList=some p):changes E l (f+1) s i a=if s.prio=true then .error (aU l a,7)else changes E l f {s with prio:=true} {i with hasPriority:=true,priority:=p} (a+1):=by
 conv=>lhs;unfold changes
 rw[if_neg (by omega),hp]
 simp only[]
 by_cases h:s.prio=true
 ·rw[if_pos h,if_pos h];rfl
 ·rw[if_neg h,if_neg h]
theorem Kg (hlt:a<l.length)(hw:(aQ l a).data.toList=aO):changes E l (f+1) s i a=if s.part=true then .error (aU l a,7)else bind' (quantity E l) (λn=>changes E l f {s with part:=true} {i with hasPartial:=true,partial_:=true,minLot:=n}) (a+1):=by
 conv=>lhs;unfold changes
 rw[if_neg (by omega),hw,show prio aO=none from by decide]
 simp only[if_true]
 by_cases h:s.part=true
 ·rw[if_pos h,if_pos h];rfl
 ·rw[if_neg h,if_neg h]
theorem Hz (hlt:a<l.length)(hw:(aQ l a).data.toList=dz):changes E l (f+1) s i a=if s.part=true then .error (aU l a,7)else changes E l f {s with part:=true} {i with hasPartial:=true} (a+1):=by
 conv=>lhs;unfold changes
 rw[if_neg (by omega),hw,show prio dz=none from by decide]
 simp only[]
 rw[if_neg (by decide),if_pos trivial]
 by_cases h:s.part=true
 ·rw[if_pos h,if_pos h];rfl
 ·rw[if_neg h,if_neg h]
theorem D6 (hlt:a<l.length)(hw:(aQ l a).data.toList=bE):changes E l (f+1) s i a=if s.amount=true then .error (aU l a,7)else bind' (cash E l) (λn=>changes E l f {s with amount:=true} {i with hasAmount:=true,amount:=n}) (a+1):=by
 conv=>lhs;unfold changes
 rw[if_neg (by omega),hw,show prio bE=none from by decide]
 simp only[]
 rw[if_neg (by decide),if_neg (by decide),if_pos trivial]
 by_cases h:s.amount=true
 ·rw[if_pos h,if_pos h];rfl
 ·rw[if_neg h,if_neg h]
theorem Oz (hlt:a<l.length)(hw:(aQ l a).data.toList=dU):changes E l (f+1) s i a=if s.day=true then .error (aU l a,7)else bind' (day E l) (λn=>changes E l f {s with day:=true} {i with hasSettleDay:=true,settleDay:=n}) (a+1):=by
 conv=>lhs;unfold changes
 rw[if_neg (by omega),hw,show prio dU=none from by decide]
 simp only[]
 rw[if_neg (by decide),if_neg (by decide),if_neg (by decide),if_pos trivial]
 by_cases h:s.day=true
 ·rw[if_pos h,if_pos h];rfl
 ·rw[if_neg h,if_neg h]
end
theorem Ad (E:Env)(l:List Tok)(f:Nat)(s:Seen)(i:Amd)(a:Nat)(h:l.length<=a):changes E l (f+1) s i a=.ok (i,a):=by
 conv=>lhs;unfold changes
 rw[if_pos h]
def Hw (a:Amd):List ByteArray:=if a.hasAmount=true then[bw bE,bS a.amount]else[]
def qK (D:Int->ByteArray)(a:Amd):List ByteArray:=if a.hasSettleDay=true then[bw dU,D a.settleDay]else[]
def rz (a:Amd):List ByteArray:=if a.hasPriority=true then[bw (fB a.priority)]else[]
def nk (a:Amd):List ByteArray:=if a.hasPartial=true then(if a.partial_=true then[bw aO,dX a.minLot]else[bw dz])else[]
def wu (D:Int->ByteArray)(a:Amd):List ByteArray:=Hw a++(qK D a++(rz a++nk a))
theorem Ce {E:Env}{D:Int->ByteArray}(hE:fV E D)(l:List Tok)(m:Amd)(f:Nat)(s:Seen)(j:Amd)(a:Nat)(h:eD l a (nk m))(hl:l.length=a+(nk m).length)(hf:(nk m).length<f)(hs:s.part=false)(hm:nJ m)(hj1:j.hasPartial=false)(hj2:j.partial_=false)(Af:j.minLot=0):
 changes E l f s j a=.ok ({j with hasPartial:=m.hasPartial,partial_:=m.partial_,minLot:=m.minLot},l.length):=by
 unfold nk at h hl hf
 cases f with
 |zero=>omega
 |succ f=>
  by_cases hr:m.hasPartial=true
  ·simp only[if_pos hr]at h hl hf
   by_cases hp:m.partial_=true
   ·simp only[if_pos hp]at h hl hf
    have h2:([bw aO,dX m.minLot]:List ByteArray).length=2:=rfl
    rw[h2]at hl hf
    obtain⟨m1,m2⟩:=hm.lot hp
    have h0:=eD.word h.head (by decide +kernel)
    have h1:=h.tail.head.of (gB m1 m2).1
    cases f with
    |zero=>omega
    |succ f=>
     rw[Kg E l _ s j a h0.lt (by rw[dL h0];rfl),if_neg (by simp[hs]),bind_ok (kg h1 _ (hE.number _ m1 m2)),Ad E l f _ _ _ (by omega),hr,hp,show a+1+1=l.length from by omega]
   ·simp only[if_neg hp]at h hl hf
    rw[List.length_singleton]at hl hf
    have hp':m.partial_=false:=by simpa using hp
    have h0:=eD.word h.head (by decide +kernel)
    cases f with
    |zero=>omega
    |succ f=>
     rw[Hz E l _ s j a h0.lt (by rw[dL h0];rfl),if_neg (by simp[hs]),Ad E l f _ _ _ (by omega),hr,hp',hm.lot0 hp',show a+1=l.length from by omega,hj2,Af]
  ·simp only[if_neg hr,List.length_nil,Nat.add_zero]at h hl hf
   have hr':m.hasPartial=false:=by simpa using hr
   rw[Ad E l f _ _ _ (by omega),hr',hm.part0 hr',hm.lot0 (hm.part0 hr'),hl]
   cases j
   simp only at hj1 hj2 Af
   subst hj1 hj2 Af
   rfl
theorem Co {E:Env}{D:Int->ByteArray}(hE:fV E D)(l:List Tok)(m:Amd)(f:Nat)(s:Seen)(j:Amd)(a:Nat)(h:eD l a (rz m++nk m))(hl:l.length=a+(rz m++nk m).length)(hf:(rz m).length+(nk m).length<f)(hs:s.part=false)(hs2:s.prio=false)(hm:nJ m)(hj1:j.hasPartial=false)(hj2:j.partial_=false)(Af:j.minLot=0)
 (hj4:j.hasPriority=false) (hj5:j.priority=0):changes E l f s j a=.ok ({j with hasPriority:=m.hasPriority,priority:=m.priority,hasPartial:=m.hasPartial,partial_:=m.partial_,minLot:=m.minLot},l.length):=by
 unfold rz at h hl hf
 by_cases hr:m.hasPriority=true
 ·simp only[if_pos hr,List.length_append,List.length_singleton]at h hl hf
  cases f with
  |zero=>omega
  |succ f=>
   obtain⟨w1,w2⟩:=qF hm.prio
   have h0:=eD.word h.left.head w1
   rw[Jt E l f s j a h0.lt m.priority (by rw[dL h0];exact w2),if_neg (by simp[hs2])]
   refine Eq.trans (Ce hE l m f _ _ (a+1) h.right (by omega) (by omega) (by exact hs) hm (by exact hj1) (by exact hj2) (by exact Af)) ?_
   rw[hr]
 ·simp only[if_neg hr,List.nil_append,List.length_nil,Nat.zero_add]at h hl hf
  have hr':m.hasPriority=false:=by simpa using hr
  rw[Ce hE l m f _ _ a h hl hf hs hm hj1 hj2 Af,hr',hm.prio0 hr']
  cases j
  simp only at hj4 hj5
  subst hj4 hj5
  rfl
theorem xS {E:Env}{D:Int->ByteArray}(hE:fV E D)(l:List Tok)(m:Amd)(f:Nat)(s:Seen)(j:Amd)(a:Nat)(h:eD l a (qK D m++(rz m++nk m)))(hl:l.length=a+(qK D m++(rz m++nk m)).length)(hf:(qK D m).length+((rz m).length+(nk m).length)<f)
 (hs:s.part=false) (hs2:s.prio=false) (hs3:s.day=false) (hm:nJ m) (hj1:j.hasPartial=false) (hj2:j.partial_=false) (Af:j.minLot=0)
 (hj4:j.hasPriority=false) (hj5:j.priority=0) (hj6:j.hasSettleDay=false) (hj7:j.settleDay=0):changes E l f s j a=.ok ({j with hasSettleDay:=m.hasSettleDay,settleDay:=m.settleDay,hasPriority:=m.hasPriority,priority:=m.priority,hasPartial:=m.hasPartial,partial_:=m.partial_,minLot:=m.minLot},l.length):=by
 unfold qK at h hl hf
 by_cases hr:m.hasSettleDay=true
 ·simp only[if_pos hr]at h hl hf
  rw[List.length_append]at hl
  have h2:([bw dU,D m.settleDay]:List ByteArray).length=2:=rfl
  rw[h2]at hl hf
  rw[List.length_append]at hl
  cases f with
  |zero=>omega
  |succ f=>
   have h0:=eD.word h.left.head (by decide +kernel)
   have h1:=h.left.tail.head.of (hE.day _ hm.day.1 hm.day.2)
   rw[Oz E l f s j a h0.lt (by rw[dL h0];rfl),if_neg (by simp[hs3]),bind_ok (oD h1 _ (hE.date _ hm.day.1 hm.day.2))]
   refine Eq.trans (Co hE l m f _ _ (a+1+1) h.right (by rw[List.length_append];omega) (by omega) (by exact hs) (by exact hs2) hm (by exact hj1) (by exact hj2) (by exact Af) (by exact hj4) (by exact hj5)) ?_
   rw[hr]
 ·simp only[if_neg hr,List.nil_append,List.length_nil,Nat.zero_add]at h hl hf
  have hr':m.hasSettleDay=false:=by simpa using hr
  rw[Co hE l m f _ _ a h hl hf hs hs2 hm hj1 hj2 Af hj4 hj5,hr',hm.day0 hr']
  cases j
  simp only at hj6 hj7
  subst hj6 hj7
  rfl
theorem MM {E:Env}{D:Int->ByteArray}(hE:fV E D)(l:List Tok)(m:Amd)(a:Nat)(h:eD l a (wu D m))(hl:l.length=a+(wu D m).length)(hm:nJ m):changes E l (l.length+1) {} {} a=.ok (m,l.length):=by
 unfold wu at h hl
 have e:m={hasAmount:=m.hasAmount,hasSettleDay:=m.hasSettleDay,hasPriority:=m.hasPriority,hasPartial:=m.hasPartial,amount:=m.amount,settleDay:=m.settleDay,priority:=m.priority,partial_:=m.partial_,minLot:=m.minLot}:=rfl
 simp only[List.length_append]at hl
 unfold Hw at h hl
 by_cases hr:m.hasAmount=true
 ·simp only[if_pos hr]at h hl
  have h2:([bw bE,bS m.amount]:List ByteArray).length=2:=rfl
  rw[h2]at hl
  obtain⟨m1,m2⟩:=hm.am hr
  have h0:=eD.word h.left.head (by decide +kernel)
  have h1:=h.left.tail.head.of (iw m2).1
  rw[D6 E l _ {} {} a h0.lt (by rw[dL h0];rfl),if_neg (by simp),bind_ok (zP h1 _ (hE.cash _ m1 m2))]
  refine Eq.trans (xS hE l m _ _ _ (a+1+1) h.right (by simp only[List.length_append];omega) (by omega) (by rfl) (by rfl) (by rfl) hm (by rfl) (by rfl) (by rfl) (by rfl) (by rfl) (by rfl) (by rfl)) ?_
  cases m
  simp only at hr
  subst hr
  rfl
 ·simp only[if_neg hr,List.nil_append,List.length_nil,Nat.zero_add]at h hl
  have hr':m.hasAmount=false:=by simpa using hr
  refine Eq.trans (xS hE l m _ _ _ a h (by simp only[List.length_append];omega) (by omega) (by rfl) (by rfl) (by rfl) hm (by rfl) (by rfl) (by rfl) (by rfl) (by rfl) (by rfl) (by rfl)) ?_
  have h0:=hm.am0 hr'
  cases m
  simp only at hr' h0
  subst hr' h0
  rfl
def fQ (i:Ins):ByteArray:=if i.side=1 then i.counterparty else i.sender
def toT (i:Ins):ByteArray:=if i.side=1 then i.sender else i.counterparty
end Go.Proofs.YtnjjeapcalkmaaaGreatDoor.Ps
namespace Go.Proofs.YtnjjeapcalkmaaaGreatDoor
open Go Go.RowKit Go.Sort
theorem mq (w:World)(k:Nat)(os:Array Obj):Below w.heap.size w (Sort.grow (w.drewN k) os):=
 ⟨rfl,rfl,rfl,by rw[Sort.size_grow];exact Nat.le_add_right _ _,λj hj=>Sort.heap_grow_old (w.drewN k) os hj⟩
abbrev xW (w:World):Prop:=Lib.TabIs Tryz.prog w "internal/strconv.uint64pow10" .u64 Lib.pow10Tab
theorem fn_fin (w:World)(o:Obj)(dk:Array UInt8)(k:Nat):Below w.heap.size w ((putRow (λ(b:UInt8)=>Value.int .u8 (b.toNat:Int)) (w.alloc o) w.heap.size 0 dk).drewN k):=by
 rw[alloc_eq_grow]
 obtain⟨os',_,e⟩:=putRow_grow_new (λ(b:UInt8)=>Value.int .u8 (b.toNat:Int)) w #[o] w.heap.size 0 dk (Nat.le_refl _)
 rw[e]
 exact mq w k os'
theorem Ol (w:World)(T:TypeId)(nd:Nat)(hs:nd<=24):Holds (λ(b:UInt8)=>Value.int .u8 (b.toNat:Int)) (w.alloc (.cells Lib.zeros24 T)) w.heap.size 0 (Array.replicate nd (0:UInt8)):=λj hj=>by
 have hj':j<nd:=by simpa using hj
 refine⟨?_,World.frozen?_alloc_new _ _ _ _⟩
 rw[World.cell?_alloc_new,Lib.zeros24_at _ (by omega),getElem!_pos _ j hj]
 simp
theorem vK (u:Nat)(hu:u<100)(w:World):Calls Tryz.prog 259 #[.int .u64 u,.int .i64 10] w λe w'=>e=.returned (.string ⟨(Lib.decDigits u).toArray⟩)/\Below w.heap.size w w':=by
 have n1:=Tryz.internal_strconv_small u hu
 have huI:(u:Int)<100:=by omega
 have hw:IntKind.i64.wrap (u:Int)=u:=IntWalk.i64_in _ (by omega)
 go_enter Tryz.func259,Tryz.ntmps259
 go_wp2_with (go_at_call 263;refine(n1 _).mono ?_;rintro e w' ⟨rfl,rfl⟩)
 go_ret
 exact⟨rfl,Below.refl _ _⟩
theorem vX (u:Nat)(hu:¬u<100)(hu64:u<18446744073709551616)(w:World)(htab:xW w):Calls Tryz.prog 259 #[.int .u64 u,.int .i64 10] w λe w'=>e=.returned (.string ⟨(Lib.decDigits u).toArray⟩)/\Below w.heap.size w w':=by
 have hu1:1<=u:=by omega
 have hnd20:Lib.nDigits u<=20:=by have:=Lib.numDigits_eq u hu1 hu64;split at this<;>omega
 have hal:Tryz.prog.arrayLen 269=24:=by simp[Program.arrayLen,Tryz.underlying269]
 have hsl:∀W,(Instr.sliceAt 269 (.pointer (some ⟨w.heap.size,0,none⟩)) none (some (.int .i64 (Lib.nDigits u:Int))) none).run Tryz.prog W=.ok (.slice (some ⟨w.heap.size,0,none⟩) (Lib.nDigits u) 24) W:=λW=>by
  rw[run_sliceAt_array_h W 269 ⟨w.heap.size,0,none⟩ (by simp[Program.arrayLen,Program.elem,Tryz.underlying269]) .i64 (Lib.nDigits u:Int) (by omega) (by rw[hal];omega)]
  go_simp
 have hH0:=Ol w 269 (Lib.nDigits u) (by omega)
 have hfmt:=Tryz.internal_strconv_formatBase10 w.heap.size 0 24 u (Array.replicate (Lib.nDigits u) 0) (w.alloc (.cells Lib.zeros24 269)) hH0 (by rw[Array.size_replicate];exact Lib.lt_pow_nDigits u) hu64 (by rw[Array.size_replicate];omega)
 rw[Array.size_replicate]at hfmt
 have HH0:=Lib.hid hH0
 have huI:¬(u:Int)<100:=by omega
 have HU:=Lib.hid (show u<18446744073709551616 from hu64)
 clear hH0 hal
 go_enter Tryz.func259,Tryz.ntmps259
 go_wp2_with (first
  |(go_at_call 264;refine(Tryz.internal_strconv_numDigits u hu1 HU.out _ (Lib.tabIs_alloc htab _)).mono ?_;rintro e w' ⟨rfl,rfl⟩))
 go_at_call 265
 refine hfmt.mono ?_
 rintro e w' ⟨rfl,k,v',dk,rfl,hF⟩
 have hcv:(convert 135 9 (.slice (some ⟨w.heap.size,0,none⟩) (Lib.nDigits u) 24)).run Tryz.prog ((putRow (λ(b:UInt8)=>Value.int .u8 (b.toNat:Int)) (w.alloc (.cells Lib.zeros24 269)) w.heap.size 0 dk).drewN k)=.ok (.string ⟨(Lib.decDigits u).toArray⟩) ((putRow (λ(b:UInt8)=>Value.int .u8 (b.toNat:Int)) (w.alloc (.cells Lib.zeros24 269)) w.heap.size 0 dk).drewN k):=by
  have h:=run_convert_bytes_back (P:=Tryz.prog) ((putRow (λ(b:UInt8)=>Value.int .u8 (b.toNat:Int)) (w.alloc (.cells Lib.zeros24 269)) w.heap.size 0 dk).drewN k) 135 9 5 ⟨w.heap.size,0,none⟩ 24 (Lib.decDigits u) Tryz.underlying135 Tryz.underlying5 Tryz.underlying9 (λj hj=>by
   rw[Lib.row_is_numeral hF j hj,Lib.add_plain,World.cell?_drewN]
   exact cell?_putRow (λ(b:UInt8)=>Value.int .u8 (b.toNat:Int)) _ w.heap.size 0 _ dk HH0.out (by rw[hF.size,Array.size_replicate]) j (by rw[hF.size];rw[Lib.decDigits_length]at hj;exact hj))
  rw[Lib.decDigits_length]at h
  exact h
 go_wp2
 go_ret
 exact⟨rfl,fn_fin w _ dk k⟩
theorem wz (u:Nat)(hu:u<18446744073709551616)(w:World)(htab:xW w):Calls Tryz.prog 238 #[.int .u64 u,.int .i64 10] w λe w'=>e=.returned (.string ⟨(Lib.decDigits u).toArray⟩)/\Below w.heap.size w w':=by
 have n1:Calls Tryz.prog 259 #[.int .u64 u,.int .i64 10] w λe w'=>e=.returned (.string ⟨(Lib.decDigits u).toArray⟩)/\Below w.heap.size w w':=by
  by_cases h:u<100
  ·exact vK u h w
  ·exact vX u h hu w htab
 clear hu htab
 go_enter Tryz.func238,Tryz.ntmps238
 go_wp2_with fail
 refine n1.mono ?_
 rintro e w1 ⟨rfl,hb⟩
 clear n1
 go_wp2_with fail
 go_ret
 exact⟨rfl,hb⟩
theorem JK (n:Nat)(hn:n<=1000000000000000)(w:World)(htab:xW w):Calls Tryz.prog 125 #[.int .i64 n] w λe w'=>e=.returned (.string (Ps.dX n))/\Below w.heap.size w w':=by
 have n1:=Tryz.strconv_FormatInt_10 (n:Int) (by omega) (by omega) w htab
 rw[Lib.itoa_nonneg]at n1
 clear htab hn
 go_enter Tryz.func125,Tryz.ntmps125
 go_wp2_with fail
 refine n1.mono ?_
 rintro e w1 ⟨rfl,k,os,hw⟩
 have HB:Hid (Below w.heap.size w w1):=Lib.hid (by rw[hw];exact mq w k os)
 clear n1 hw
 go_wp2_with fail
 go_ret
 exact⟨rfl,HB.out⟩
theorem N9 (n:Nat)(h0:max (n:Int) (-(n:Int))=n)(hw:IntKind.u64.wrap (n:Int)=n)(hw2:IntKind.i64.wrap (-(n:Int))= -(n:Int))(w:World):Calls Tryz.prog 239 #[.int .i64 n] w λe w'=>e=.returned (.int .u64 n)/\w'=w:=by
 go_enter Tryz.func239,Tryz.ntmps239
 go_wp2_with fail
 go_ret
 exact⟨rfl,rfl⟩
theorem Lh (n:Nat)(h0:(-1000000000000000:Int)<=n)(h1:(n:Int)<=1000000000000000)(w:World):Calls Tryz.prog 237 #[.int .i64 n] w λe w'=>e=.returned (.bool true)/\w'=w:=by
 go_enter Tryz.func237,Tryz.ntmps237
 go_wp2_with fail
 go_ret
 exact⟨rfl,rfl⟩
theorem Dm (W:World):Calls Tryz.prog 89 #[.string ⟨#[48]⟩,.int .i64 1] W λe W'=>e=.returned (.string ⟨#[48]⟩)/\Below W.heap.size W W':=by
 have nM:=Tryz.bits_Mul 1 1 (by decide) (by decide)
 have nP:=Tryz.strings_HasPrefix
 go_enter Tryz.func89,Tryz.ntmps89
 go_wp2_with (first|(go_at_call 164;refine(nM _).mono ?_;rintro e w1 ⟨rfl,rfl⟩)|(go_at_call 165;refine(nP _ _ _).mono ?_;rintro e w1 ⟨rfl,rfl⟩))
 go_ret
 exact⟨rfl,Below.refl _ _⟩
theorem ED (W:World):Calls Tryz.prog 89 #[.string ⟨#[48]⟩,.int .i64 2] W λe W'=>e=.returned (.string ⟨#[48,48]⟩)/\Below W.heap.size W W':=by
 have nM:=Tryz.bits_Mul 1 2 (by decide) (by decide)
 have nP:=Tryz.strings_HasPrefix
 go_enter Tryz.func89,Tryz.ntmps89
 go_wp2_with (first|(go_at_call 164;refine(nM _).mono ?_;rintro e w1 ⟨rfl,rfl⟩)|(go_at_call 165;refine(nP _ _ _).mono ?_;rintro e w1 ⟨rfl,rfl⟩))
 go_ret
 exact⟨rfl,Below.refl _ _⟩
theorem Fp {n m:Nat}{w w':World}(h:Below n w w'):Below n w (w'.drewN m):=⟨h.os,h.tape,h.output,h.size,h.block⟩
structure FmtT (S A B:ByteArray)(k:Int):Prop where
 len:IntKind.i64.wrap ((S.size:Int)-2)=k
 h0:0<=k
 h1:k<=S.size
 a:S.extract 0 k.toNat=A
 b:S.extract k.toNat S.size=B
 z1:¬9223372036854775807<A.size
 z2:¬9223372036854775807<A.size+1
 z3:¬9223372036854775807<A.size+1+B.size
theorem EG (n:Nat)(S A B:ByteArray)(k:Int)(hS:¬(S.size:Int)<3)(hn:¬(n:Int)<0)(hT:FmtT S A B k)(w:World)(n1:∀w,Calls Tryz.prog 237 #[.int .i64 n] w λe w'=>e=.returned (.bool true)/\w'=w)(n2:∀w,Calls Tryz.prog 239 #[.int .i64 n] w λe w'=>e=.returned (.int .u64 n)/\w'=w)(n3:Calls Tryz.prog 238 #[.int .u64 n,.int .i64 10] w λe w'=>e=.returned (.string S)/\Below w.heap.size w w'):
 Calls Tryz.prog 193 #[.int .i64 n] w λe w'=>e=.returned (.tuple #[.string (A++⟨#[46]⟩++B),.int .i64 0])/\Below w.heap.size w w':=by
 obtain⟨t1,t2,t3,t4,t5,t6,t7,t8⟩:=hT
 go_enter Tryz.func193,Tryz.ntmps193
 go_wp2_with (first|(go_at_call 237;refine(n1 _).mono ?_;rintro e w1 ⟨rfl,rfl⟩)|(go_at_call 239;refine(n2 _).mono ?_;rintro e w1 ⟨rfl,rfl⟩))
 go_at_call 238
 refine n3.mono ?_
 rintro e w1 ⟨rfl,hb⟩
 have HB:=Lib.hid hb
 clear hb n1 n2 n3
 go_wp2_with fail
 go_quiet (fail)
 go_wp2_with fail
 go_ret2
 exact⟨rfl,Fp HB.out⟩
theorem q9 (n:Nat)(s R S A B:ByteArray)(k j:Int)(hS:(s.size:Int)<3)(hn:¬(n:Int)<0)(hj:IntKind.i64.wrap (3-(s.size:Int))=j)(hcat:R++s=S)(hz:¬9223372036854775807<R.size+s.size)(hT:FmtT S A B k)(w:World)(n1:∀w,Calls Tryz.prog 237 #[.int .i64 n] w λe w'=>e=.returned (.bool true)/\w'=w)(n2:∀w,Calls Tryz.prog 239 #[.int .i64 n] w λe w'=>e=.returned (.int .u64 n)/\w'=w)(n3:Calls Tryz.prog 238 #[.int .u64 n,.int .i64 10] w λe w'=>e=.returned (.string s)/\Below w.heap.size w w')
 (n4:∀w,Calls Tryz.prog 89 #[.string ⟨#[48]⟩,.int .i64 j] w λe w'=>e=.returned (.string R)/\Below w.heap.size w w'):
 Calls Tryz.prog 193 #[.int .i64 n] w λe w'=>e=.returned (.tuple #[.string (A++⟨#[46]⟩++B),.int .i64 0])/\Below w.heap.size w w':=by
 obtain⟨t1,t2,t3,t4,t5,t6,t7,t8⟩:=hT
 go_enter Tryz.func193,Tryz.ntmps193
 go_wp2_with (first|(go_at_call 237;refine(n1 _).mono ?_;rintro e w1 ⟨rfl,rfl⟩)|(go_at_call 239;refine(n2 _).mono ?_;rintro e w1 ⟨rfl,rfl⟩))
 go_at_call 238
 refine n3.mono ?_
 rintro e w1 ⟨rfl,hb⟩
 have HB:=Lib.hid hb
 clear hb n1 n2 n3
 go_wp2_with fail
 refine(n4 _).mono ?_
 rintro e w2 ⟨rfl,hb⟩
 have HB2:=Lib.hid (HB.out.trans (hb.mono HB.out.size))
 clear hb n4 HB
 go_wp2_with fail
 clear hcat hz hS hj
 go_quiet (fail)
 go_wp2_with fail
 go_ret2
 exact⟨rfl,Fp HB2.out⟩
theorem EF (A B:List UInt8):(⟨(A++B).toArray⟩:ByteArray).extract 0 A.length=⟨A.toArray⟩/\(⟨(A++B).toArray⟩:ByteArray).extract A.length (⟨(A++B).toArray⟩:ByteArray).size=⟨B.toArray⟩:=by
 have hs:(⟨(A++B).toArray⟩:ByteArray).size=(A++B).length:=rfl
 refine⟨?_,?_⟩
 ·apply ByteArray.ext
  apply Array.toList_inj.1
  simp
 ·rw[hs]
  apply ByteArray.ext
  apply Array.toList_inj.1
  simp
theorem yu (A:List UInt8)(x y:UInt8)(hA:A.length<=100):FmtT ⟨(A++[x,y]).toArray⟩ ⟨A.toArray⟩ ⟨#[x,y]⟩ A.length:=by
 have hs:(⟨(A++[x,y]).toArray⟩:ByteArray).size=A.length+2:=by show(A++[x,y]).toArray.size=_;simp
 have hs2:(⟨A.toArray⟩:ByteArray).size=A.length:=rfl
 have hs3:(⟨#[x,y]⟩:ByteArray).size=2:=rfl
 obtain⟨e1,e2⟩:=EF A [x,y]
 refine⟨?_,by omega,by rw[hs];omega,by rw[Int.toNat_natCast];exact e1,by rw[Int.toNat_natCast];exact e2,by omega,by omega,by omega⟩
 rw[hs]
 exact(IntWalk.i64_in _ (by omega)).trans (by omega)
theorem K6 (n:Nat):Ps.bS (n:Int)=⟨(Ps.dec (n/100)).toArray⟩++⟨#[46]⟩++⟨#[Ps.dgt (n/10%10),Ps.dgt (n%10)]⟩:=by
 unfold Ps.bS Ps.bZ
 rw[Int.toNat_natCast]
 apply ByteArray.ext
 apply Array.toList_inj.1
 simp[ByteArray.data_append]
theorem Gi (n:Nat)(hn:n<=1000000000000000)(w:World)(htab:xW w):Calls Tryz.prog 193 #[.int .i64 n] w λe w'=>e=.returned (.tuple #[.string (Ps.bS n),.int .i64 0])/\Below w.heap.size w w':=by
 have n1:=Lh n (by omega) (by omega)
 have n2:=N9 n (by omega) ((IntKind.wrap_u64 _).trans (by omega)) (IntWalk.i64_in _ (by omega))
 have n3:=wz n (by omega) w htab
 rw[K6]
 by_cases h100:n<100
 ·by_cases h10:n<10
  ·have e:Lib.decDigits n=[Ps.dgt n]:=Ps.fP h10
   have e0:Ps.dec (n/100)=[48]:=by rw[show n/100=0 from by omega];exact Ps.fP (by omega)
   rw[e]at n3
   rw[e0,show n/10%10=0 from by omega,show n%10=n from by omega]
   exact q9 n _ _ _ _ _ _ 2 (by show((1:Nat):Int)<3;decide) (by omega) (by show IntKind.i64.wrap (3-((1:Nat):Int))=2;decide) rfl (by show¬9223372036854775807<2+1;decide) (yu [48] 48 (Ps.dgt n) (by decide)) w n1 n2 n3 ED
  ·have e:Lib.decDigits n=[Ps.dgt (n/10%10),Ps.dgt (n%10)]:=by
    show Ps.dec n=_
    rw[Ps.l5 h10,Ps.fP (by omega),show n/10%10=n/10 from by omega]
    rfl
   have e0:Ps.dec (n/100)=[48]:=by rw[show n/100=0 from by omega];exact Ps.fP (by omega)
   rw[e]at n3
   rw[e0]
   exact q9 n _ _ _ _ _ _ 1 (by show((2:Nat):Int)<3;decide) (by omega) (by show IntKind.i64.wrap (3-((2:Nat):Int))=1;decide) rfl (by show¬9223372036854775807<1+2;decide) (yu [48] (Ps.dgt (n/10%10)) (Ps.dgt (n%10)) (by decide)) w n1 n2 n3 Dm
 ·have e:Lib.decDigits n=Ps.dec (n/100)++[Ps.dgt (n/10%10),Ps.dgt (n%10)]:=by
   show Ps.dec n=_
   rw[Ps.l5 (by omega),Ps.l5 (n:=n/10) (by omega),show n/10/10=n/100 from by omega,List.append_assoc]
   rfl
  have hl:=Ps.gY 17 (n/100) (by omega)
  have hne:=(Ps.dJ (n/100)).2.1
  have hpos:0<(Ps.dec (n/100)).length:=List.length_pos_iff.2 hne
  rw[e]at n3
  exact EG n _ _ _ _ (by show¬(((Ps.dec (n/100)++[Ps.dgt (n/10%10),Ps.dgt (n%10)]).length:Nat):Int)<3;rw[List.length_append,List.length_cons,List.length_singleton];omega) (by omega) (yu _ _ _ (by omega)) w n1 n2 n3
theorem NY (n:Nat)(hn:n<=1000000000000000)(w:World)(htab:xW w):Calls Tryz.prog 121 #[.int .i64 n] w λe w'=>e=.returned (.string (Ps.bS n))/\Below w.heap.size w w':=by
 have n1:=Gi n hn w htab
 generalize Ps.bS n=x at n1⊢
 clear htab hn
 go_enter Tryz.func121,Tryz.ntmps121
 go_wp2_with fail
 refine n1.mono ?_
 rintro e w1 ⟨rfl,hb⟩
 clear n1
 go_wp2_with fail
 go_ret
 exact⟨rfl,hb⟩
end Go.Proofs.YtnjjeapcalkmaaaGreatDoor
namespace Go.Proofs.YtnjjeapcalkmaaaGreatDoor.Ps
open Go
theorem qX (f:Nat->Int)(n:Int)(h0:f 0<=n):∀K:Nat,n<f K->∃k,k<K/\f k<=n/\n<f (k+1)
 |0,h=>by omega
 |K+1,h=>by
  by_cases h2:n<f K
  ·obtain⟨k,h3,h4⟩:=qX f n h0 K h2
   exact⟨k,by omega,h4⟩
  ·exact⟨K,by omega,by omega,h⟩
theorem ve (p:Int)(h:0<=p):ak p+365<=ak (p+1)/\ak (p+1)<=ak p+366:=by unfold ak;omega
theorem jm (p:Nat):∀q:Nat,p<=q->ak p<=ak q
 |0,h=>by rw[show p=0 from by omega];exact Int.le_refl _
 |q+1,h=>by
  by_cases hq:p=q+1
  ·rw[hq];exact Int.le_refl _
  ·have h1:=jm p q (by omega)
   have h2:=ve (q:Int) (by omega)
   rw[Int.natCast_add_one]
   omega
theorem jU (y:Int)(p:Nat):∀q:Nat,p<=q->cz y p<=cz y q
 |0,h=>by rw[show p=0 from by omega];exact Int.le_refl _
 |q+1,h=>by
  by_cases hq:p=q+1
  ·rw[hq];exact Int.le_refl _
  ·have h1:=jU y p q (by omega)
   have h2:=nT y ((q:Int)+1)
   show cz y p<=cz y q+dim y ((q:Int)+1)
   omega
theorem mM (p:Nat)(hp:p<200):cz (2000+(p:Int)) 12=ak ((p:Int)+1)-ak p:=by
 have e:∀m:Int,1<=m->m<=12->dim (2000+(p:Int)) m=if m=2 then(if xK (2000+(p:Int))then 29 else 28)else if m=4\/m=6\/m=9\/m=11 then 30 else 31:=λm h1 h2=>by
  unfold dim
  rw[if_neg (by omega)]
 have h1:=yj p
 have h2:=yj (p+1)
 have h3:Mo (p+1)=Mo p+365+(if xK (2000+(p:Int))then 1 else 0):=rfl
 have e12:cz (2000+(p:Int)) 12=365+(if xK (2000+(p:Int))then 1 else 0):=by
  simp only[cz]
  rw[e _ (by decide) (by decide),e _ (by decide) (by decide),e _ (by decide) (by decide),e _ (by decide) (by decide),e _ (by decide) (by decide),e _ (by decide) (by decide),e _ (by decide) (by decide),e _ (by decide) (by decide),e _ (by decide) (by decide),e _ (by decide) (by decide),e _ (by decide) (by decide),e _ (by decide) (by decide)]
  cases xK (2000+(p:Int))<;>decide
 rw[Int.natCast_add_one]at h2
 omega
def IsC (n:Int)(y m d:Nat):Prop:=2000<=y/\y<=2199/\1<=m/\m<=12/\1<=d/\(d:Int)<=dim y m/\n=ak ((y:Int)-2000)+cz y (m-1)+d-1
theorem IsC.civil {n:Int}{y m d:Nat}(h:IsC n y m d):civil y m d=(n,0):=by
 obtain⟨h1,h2,h3,h4,h5,h6,h7⟩:=h
 unfold Ps.civil
 rw[if_neg (by omega),h7,show((m:Int)-1).toNat=m-1 from by omega]
 refine Prod.ext ?_ rfl
 show _+_-1+_=_
 omega
theorem IsC.d31 {n:Int}{y m d:Nat}(h:IsC n y m d):d<=31:=by
 obtain⟨h1,h2,h3,h4,h5,h6,h7⟩:=h
 have:=nT (y:Int) m
 omega
theorem IsC.bounds {n:Int}{y m d:Nat}(h:IsC n y m d):ak ((y-2000:Nat):Int)<=n/\n<ak ((y-2000+1:Nat):Int)/\cz y (m-1)<=n-ak ((y-2000:Nat):Int)/\n-ak ((y-2000:Nat):Int)<cz y (m-1+1):=by
 obtain⟨h1,h2,h3,h4,h5,h6,h7⟩:=h
 obtain⟨p,rfl⟩:∃p:Nat,y=2000+p:=⟨y-2000,by omega⟩
 have e1:(((2000+p:Nat):Int))-2000=(p:Int):=by omega
 have e2:2000+p-2000=p:=by omega
 rw[e1]at h7
 rw[e2]
 have hm0:=tQ ((2000+p:Nat):Int) (m-1)
 have hmm:cz ((2000+p:Nat):Int) (m-1+1)=cz ((2000+p:Nat):Int) (m-1)+dim ((2000+p:Nat):Int) m:=by
  show _+dim _ (((m-1:Nat):Int)+1)=_
  rw[show(((m-1:Nat):Int)+1)=(m:Int)from by omega]
 have h12:=jU ((2000+p:Nat):Int) (m-1+1) 12 (by omega)
 have hy:=mM p (by omega)
 have e3:(2000+(p:Int))=((2000+p:Nat):Int):=by omega
 rw[e3]at hy
 rw[Int.natCast_add_one]
 omega
theorem IsC.unique {n:Int}{y m d y' m' d':Nat}(h:IsC n y m d)(h':IsC n y' m' d'):y=y'/\m=m'/\d=d':=by
 obtain⟨b1,b2,b3,b4⟩:=h.bounds
 obtain⟨c1,c2,c3,c4⟩:=h'.bounds
 obtain⟨h1,h2,h3,h4,h5,h6,h7⟩:=h
 obtain⟨g1,g2,g3,g4,g5,g6,g7⟩:=h'
 have ey:y=y':=by
  rcases Nat.lt_trichotomy y y' with hl|hl|hl
  ·have:=jm (y-2000+1) (y'-2000) (by omega);omega
  ·exact hl
  ·have:=jm (y'-2000+1) (y-2000) (by omega);omega
 subst ey
 have em:m=m':=by
  rcases Nat.lt_trichotomy m m' with hl|hl|hl
  ·have:=jU (y:Int) (m-1+1) (m'-1) (by omega);omega
  ·exact hl
  ·have:=jU (y:Int) (m'-1+1) (m-1) (by omega);omega
 subst em
 exact⟨rfl,rfl,by omega⟩
theorem IsC.of {n:Int}{p q:Nat}(h0:0<=n)(hn:n<=bV)(h1:ak p<=n)(h2:n<ak ((p:Int)+1))(h3:cz (2000+p:Nat) q<=n-ak p)(h4:n-ak p<cz (2000+p:Nat) (q+1)):
 p<200/\q<12/\IsC n (2000+p) (q+1) (n-ak p-cz (2000+p:Nat) q+1).toNat:=by
 have hp:p<200:=by
  rcases Nat.lt_or_ge p 200 with h|h
  ·exact h
  ·have:=jm 200 p h
   have e:ak ((200:Nat):Int)=73049:=by decide
   unfold bV at hn
   omega
 have hq:q<12:=by
  rcases Nat.lt_or_ge q 12 with h|h
  ·exact h
  ·have:=jU ((2000+p:Nat):Int) 12 q h
   have hy:=mM p hp
   have e3:(2000+(p:Int))=((2000+p:Nat):Int):=by omega
   rw[e3]at hy
   omega
 have hmm:cz ((2000+p:Nat):Int) (q+1)=cz ((2000+p:Nat):Int) q+dim ((2000+p:Nat):Int) ((q+1:Nat):Int):=by
  show _+dim _ ((q:Int)+1)=_
  rw[Int.natCast_add_one]
 refine⟨hp,hq,by omega,by omega,by omega,by omega,by omega,by omega,?_⟩
 rw[show(((2000+p:Nat):Int))-2000=(p:Int)from by omega,Nat.add_sub_cancel]
 omega
theorem IsC.exists {n:Int}(h0:0<=n)(hn:n<=bV):∃y m d,IsC n y m d:=by
 have e0:ak ((0:Nat):Int)=0:=by decide
 have e200:ak ((200:Nat):Int)=73049:=by decide
 obtain⟨p,hp,h1,h2⟩:=qX (λk=>ak (k:Int)) n (by show ak ((0:Nat):Int)<=n;omega) 200 (by show n<ak ((200:Nat):Int);unfold bV at hn;omega)
 have hy:=mM p hp
 have e3:(2000+(p:Int))=((2000+p:Nat):Int):=by omega
 rw[e3]at hy
 have h2:n<ak ((p:Int)+1):=by rw[<-Int.natCast_add_one];exact h2
 obtain⟨q,hq,h3,h4⟩:=qX (λk=>cz ((2000+p:Nat):Int) k) (n-ak p) (by show(0:Int)<=_;have h1:ak (p:Int)<=n:=h1;omega) 12 (by show _<cz _ 12;omega)
 exact⟨_,_,_,(IsC.of h0 hn h1 h2 h3 h4).2.2⟩
def d2 (k:Nat):Bs:=[dgt (k/10%10),dgt (k%10)]
def d4 (k:Nat):Bs:=[dgt (k/1000%10),dgt (k/100%10),dgt (k/10%10),dgt (k%10)]
def civB (y m d:Nat):Bs:=d4 y++(45::d2 m++(45::d2 d))
def sU (y m d:Nat):ByteArray:=⟨(civB y m d).toArray⟩
open Classical in
noncomputable def bA (n:Int):ByteArray:=if h:∃t,∃y m d,IsC n y m d/\t=sU y m d then Classical.choose h else⟨#[]⟩
theorem vg {n:Int}{y m d:Nat}(h:IsC n y m d):bA n=sU y m d:=by
 have hx:∃t,∃y m d,IsC n y m d/\t=sU y m d:=⟨_,_,_,_,h,rfl⟩
 unfold bA
 rw[dif_pos hx]
 obtain⟨y',m',d',h1,h2⟩:=Classical.choose_spec hx
 obtain⟨rfl,rfl,rfl⟩:=h.unique h1
 exact h2
theorem KJ (n:Nat)(h:n<10):Lx.digit ((dgt n).toNat:Int)=true:=by
 rw[dY n h]
 unfold Lx.digit
 simp;omega
theorem I8 {y m d:Nat}(hy:y<10000)(hm:m<100)(hd:d<100):fM (sU y m d)=civil y m d/\Lx.aD (sU y m d)=(4,0)/\Lx.gz (sU y m d).data.toList=true/\(sU y m d).data.toList≠[]/\(sU y m d).size=10:=by
 have e:(sU y m d).data.toList=[dgt (y/1000%10),dgt (y/100%10),dgt (y/10%10),dgt (y%10),45,dgt (m/10%10),dgt (m%10),45,dgt (d/10%10),dgt (d%10)]:=rfl
 have es:(sU y m d).size=10:=rfl
 have t:∀k:Nat,(dgt (k%10)).toNat=48+k%10:=λk=>dY _ (by omega)
 have g:∀k:Nat,Lx.digit ((dgt (k%10)).toNat:Int)=true:=λk=>KJ _ (by omega)
 have hr:Lx.jh (sU y m d).data.toList=true:=by
  rw[e,Lx.l7]
  exact⟨g _,g _,g _,g _,rfl,g _,g _,rfl,g _,g _⟩
 refine⟨?_,?_,?_,by rw[e];simp,es⟩
 ·unfold fM
  have hf:fits form (sU y m d).data.toList=true:=by
   rw[e]
   simp[fits,form,fit,g]
  rw[if_pos hf,e]
  have n4:num ([dgt (y/1000%10),dgt (y/100%10),dgt (y/10%10),dgt (y%10),45,dgt (m/10%10),dgt (m%10),45,dgt (d/10%10),dgt (d%10)].take 4)=y:=by
   simp only[List.take_succ_cons,List.take_zero,num,List.foldl_cons,List.foldl_nil,t]
   omega
  have n2:num (([dgt (y/1000%10),dgt (y/100%10),dgt (y/10%10),dgt (y%10),45,dgt (m/10%10),dgt (m%10),45,dgt (d/10%10),dgt (d%10)].drop 5).take 2)=m:=by
   simp only[List.drop_succ_cons,List.drop_zero,List.take_succ_cons,List.take_zero,num,List.foldl_cons,List.foldl_nil,t]
   omega
  have n1:num (([dgt (y/1000%10),dgt (y/100%10),dgt (y/10%10),dgt (y%10),45,dgt (m/10%10),dgt (m%10),45,dgt (d/10%10),dgt (d%10)].drop 8).take 2)=d:=by
   simp only[List.drop_succ_cons,List.drop_zero,List.take_succ_cons,List.take_nil,List.take_zero,num,List.foldl_cons,List.foldl_nil,t]
   omega
  rw[n4,n2,n1]
 ·unfold Lx.aD
  rw[es,if_neg (by omega),Lx.oW,hr]
  rfl
 ·rw[e]
  unfold Lx.gz
  have b:∀k:Nat,(!Lx.blank ((dgt (k%10)).toNat:Int))=true:=λk=>by
   rw[t]
   unfold Lx.blank
   simp;omega
  simp only[List.all_cons,List.all_nil,b,Bool.and_true,Bool.true_and]
  decide
theorem jB {n:Int}(h0:0<=n)(hn:n<=bV):fM (bA n)=(n,0)/\Lx.aD (bA n)=(4,0)/\Lx.gz (bA n).data.toList=true/\(bA n).data.toList≠[]/\(bA n).size=10:=by
 obtain⟨y,m,d,h⟩:=IsC.exists h0 hn
 have h31:=h.d31
 have hc:=h.civil
 rw[vg h]
 obtain⟨h1,h2,h3,h4,_⟩:=h
 have:=I8 (y:=y) (m:=m) (d:=d) (by omega) (by omega) (by omega)
 rw[hc]at this
 exact this
end Go.Proofs.YtnjjeapcalkmaaaGreatDoor.Ps
