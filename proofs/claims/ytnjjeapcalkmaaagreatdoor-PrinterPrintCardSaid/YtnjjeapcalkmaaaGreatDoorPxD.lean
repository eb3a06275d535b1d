/-
  Part 4 of a proof; written short by a program out of longer texts of mine.
-/
import Derived.Test.YtnjjeapcalkmaaaGreatDoorPxC
set_option maxRecDepth 100000
set_option maxHeartbeats 4000000
set_option linter.unusedVariables false
set_option linter.unusedSimpArgs false
namespace Go.Proofs.YtnjjeapcalkmaaaGreatDoor
open Go.RowKit
open Go.Proofs.YtnjjeapcalkmaaaGreatDoor.Ord
open Go.Proofs.YtnjjeapcalkmaaaGreatDoor.Ev (AV Mem Fr Sh Stop Qof aX cK bL fU mJ fmC nC look keep iF xP)
section
variable {l : List Ps.Tok} {E : Ps.Env}
def yc (E:Ps.Env)(l:List Ps.Tok)(st:Ps.St)(i:Ps.Ins):Ps.St×Ps.Ins:=
 let a:=Ps.step (Ps.isin E l) ⟨#[]⟩ (Ps.step (Ps.word l Ps.uK) () st).2
 let b:=Ps.step (Ps.quantity E l) 0 (Ps.step (Ps.word l Ps.gQ) () a.2).2
 (b.2,{i with asset:=a.1,quantity:=b.1})
def tO (E:Ps.Env)(l:List Ps.Tok)(st:Ps.St):Ps.St×ByteArray×ByteArray:=
 let a:=Ps.step (Ps.member E l) ⟨#[]⟩ (Ps.step (Ps.word l Ps.rH) () st).2
 let b:=Ps.step (Ps.member E l) ⟨#[]⟩ (Ps.step (Ps.word l Ps.sTo) () a.2).2
 (b.2,a.1,b.1)
def Dv (E:Ps.Env)(l:List Ps.Tok)(st:Ps.St)(i:Ps.Ins)(kd:Int):Ps.St×Ps.Ins:=
 let a:=Ps.step (Ps.by_ E l) ⟨#[]⟩ st
 let b:=yc E l a.2 {i with kind:=kd,sender:=a.1}
 let d:=Ps.step (Ps.day E l) 0 (Ps.step (Ps.word l Ps.eF) () b.1).2
 (d.2,{b.2 with settleDay:=d.1})
def Sc (E:Ps.Env)(l:List Ps.Tok)(st:Ps.St)(i:Ps.Ins):Ps.St×Ps.Ins:=
 let a:=Ps.step (Ps.day E l) 0 (Ps.step (Ps.word l Ps.j4) () st).2
 let b:=Ps.step (Ps.day E l) 0 (Ps.step (Ps.word l Ps.eF) () a.2).2
 (b.2,{i with tradeDay:=a.1,settleDay:=b.1})
theorem Es (st:Ps.St)(i:Ps.Ins):Ps.Res (Ps.security E l i) st (yc E l st i).1 (yc E l st i).2:=
 .bind (.of_step _ () _) (.bind (.of_step _ ⟨#[]⟩ _) (.bind (.of_step _ () _) (.bind (.of_step _ 0 _) (.pure _ _))))
theorem Dl (st:Ps.St):Ps.Res (Ps.parties E l) st (tO E l st).1 (tO E l st).2:=
 .bind (.of_step _ () _) (.bind (.of_step _ ⟨#[]⟩ _) (.bind (.of_step _ () _) (.bind (.of_step _ ⟨#[]⟩ _) (.pure _ _))))
theorem QH (st:Ps.St)(i:Ps.Ins)(kd:Int):Ps.Res (Ps.collateral E l kd i) st (Dv E l st i kd).1 (Dv E l st i kd).2:=
 .bind (.of_step _ ⟨#[]⟩ _) (.bind (Es (Ps.step (Ps.by_ E l) ⟨#[]⟩ st).2 {i with kind:=kd,sender:=(Ps.step (Ps.by_ E l) ⟨#[]⟩ st).1}) (.bind (.of_step _ () _) (.bind (.of_step _ 0 _) (.pure _ _))))
end
section
variable {W0 W : World} {r tb cap q : Nat} {l : List Ps.Tok} {E : Ps.Env}
def exN:List Bool->List Ps.Link->Value->World->Prop:=λ_ ks lv _=>lv=fI/\ks=[]
theorem dK:LF r q exN:=λh _=>h
def fmTab (E:Ps.Env)(l:List Ps.Tok)(s:RS×(List Bool×Ps.Req)):List (FuncId×(List AV->Option (Value×Option (RS×(List Bool×Ps.Req))))):=
 [(178,λvs=>match vs with|[.p 0 0]=>some (.tuple #[.string (tO E l (s.1.st l)).2.1,.string (tO E l (s.1.st l)).2.2],some (.any (tO E l (s.1.st l)).1,s.2))|_=>none),
  (183,λvs=>match vs with|[.p 0 0,.p 1 3]=>some (.tuple #[],some (.any (yc E l (s.1.st l) s.2.2.ins).1,(s.2.1,{s.2.2 with ins:=(yc E l (s.1.st l) s.2.2.ins).2})))|_=>none)]
def fmX (E:Ps.Env)(l:List Ps.Tok)(s:RS×(List Bool×Ps.Req))(f:FuncId)(vs:List AV):Option (Value×Option (RS×(List Bool×Ps.Req))):=yX (fmTab E l s) f vs
def noX (_s:RS×(List Bool×Ps.Req))(_f:FuncId)(_vs:List AV):Option (Value×Option (RS×(List Bool×Ps.Req))):=none
abbrev noH:Nat->Option Bool:=λ_=>none
theorem mi (hP:Pdr W0 l E):Ev.Ok Tryz.prog (rdS l (pqB W0 W r tb cap q l exN)) (pqM E l r q 0 noX noH):=Hm hP dK λs f vs v s' h=>by cases h
theorem pq_par (hP:Pdr W0 l E)(st:Ps.St)(x:List Bool×Ps.Req)(w:World)(h:pqB W0 W r tb cap q l exN st x w):
 Calls Tryz.prog 178 #[.pointer (some ⟨r,0,none⟩)] w λe w'=>e=.returned (.tuple #[.string (tO E l st).2.1,.string (tO E l st).2.2])/\rdS l (pqB W0 W r tb cap q l exN) (.any (tO E l st).1,x) w':=by
 go_enter Tryz.func178,Tryz.ntmps178
 refine gz λa ha hdf=>?_
 refine Ev.iL (M:=pqM E l r q 0 noX noH) (n:=14) (K:=[(0,.p 0 0)]) (s:=(.any st,x)) [2,3] (.ret [some (.v (.string (tO E l st).2.1)),some (.v (.string (tO E l st).2.2))] (.any (tO E l st).1,x)) (mi hP) (eQ dK) (jr dK) (by kernel_rfl) (Ev.aH (Ev.ag (by rw[ha];rfl) hdf) (by rw[ha];rfl)) ⟨trivial,h⟩ ?_
 intro b w' hst hS
 obtain⟨f2,hst⟩:=hst.cons
 obtain⟨f3,hst⟩:=hst.cons
 refine bodyPost_ret (results_tmp2 rfl _ _ _) hst.2.1 ⟨?_,hS⟩
 rw[show b.tmps.getD 2 undef=_ from eval_at f2,show b.tmps.getD 3 undef=_ from eval_at f3]
 rfl
theorem pq_sec (hP:Pdr W0 l E)(st:Ps.St)(x:List Bool×Ps.Req)(w:World)(h:pqB W0 W r tb cap q l exN st x w):
 Calls Tryz.prog 183 #[.pointer (some ⟨r,0,none⟩),.pointer (some ⟨q,3,none⟩)] w λe w'=>e=.returned (.tuple #[])/\rdS l (pqB W0 W r tb cap q l exN) (.any (yc E l st x.2.ins).1,(x.1,{x.2 with ins:=(yc E l st x.2.ins).2})) w':=by
 go_enter Tryz.func183,Tryz.ntmps183
 refine gz λa ha hdf=>?_
 refine Ev.iL (M:=pqM E l r q 0 noX noH) (n:=18) (K:=[(0,.p 0 0),(1,.p 1 3)]) (s:=(.any st,x)) [] (.nx [] (.any (yc E l st x.2.ins).1,(x.1,{x.2 with ins:=(yc E l st x.2.ins).2}))) (mi hP) (eQ dK) (jr dK) (by kernel_rfl) (Ev.aH (Ev.aH (Ev.ag (by rw[ha];rfl) hdf) (by rw[ha,(dH 3).2.1];rfl)) (by rw[ha];rfl)) ⟨trivial,h⟩ ?_
 intro b w' hst hS
 exact bodyPost_end (results_none rfl _ _ _) hst.2.1 ⟨rfl,hS⟩
theorem Ec (hP:Pdr W0 l E):Ev.Ok Tryz.prog (rdS l (pqB W0 W r tb cap q l exN)) (pqM E l r q 0 (fmX E l) noH):=Hm hP dK λs f vs v s' h=>by
 refine tN (G:=λf vs b=>(∀args w,(callFunc f args).run Tryz.prog w=.ok (.enter f args) w)/\(s.1.bound l->∀w,pqB W0 W r tb cap q l exN (s.1.st l) s.2 w->Calls Tryz.prog f (vs.map (AV.val (pqM E l r q 0 (fmX E l) noH))).toArray w λe w'=>e=.returned b.1/\rdS l (pqB W0 W r tb cap q l exN) (b.2.getD s) w')) h ?_
 refine List.forall_mem_cons.2 ⟨λvs b h=>?_,List.forall_mem_cons.2 ⟨λvs b h=>?_,λ_ h=>by cases h⟩⟩
 ·dsimp only at h
  split at h
  ·cases h
   exact⟨enters_of Tryz.func178 (by kernel_rfl) rfl,λ_ w hw=>pq_par hP _ _ w hw⟩
  ·cases h
 ·dsimp only at h
  split at h
  ·cases h
   refine⟨enters_of Tryz.func183 (by kernel_rfl) rfl,λ_ w hw=>?_⟩
   simp only[List.map_cons,List.map_nil,(dH _).1,(dH _).2.1]
   exact pq_sec hP _ _ w hw
  ·cases h
theorem pq_col (hP:Pdr W0 l E)(kd:Int)(st:Ps.St)(x:List Bool×Ps.Req)(w:World)(h:pqB W0 W r tb cap q l exN st x w):
 Calls Tryz.prog 184 #[.pointer (some ⟨r,0,none⟩),.pointer (some ⟨q,3,none⟩),.int .i64 kd] w λe w'=>e=.returned (.tuple #[])/\rdS l (pqB W0 W r tb cap q l exN) (.any (Dv E l st x.2.ins kd).1,(x.1,{x.2 with ins:=(Dv E l st x.2.ins kd).2})) w':=by
 go_enter Tryz.func184,Tryz.ntmps184
 refine gz λa ha hdf=>?_
 refine Ev.iL (M:=pqM E l r q 0 (fmX E l) noH) (n:=25) (K:=[(0,.p 0 0),(1,.p 1 3),(2,.v (.int .i64 kd))]) (s:=(.any st,x)) [] (.nx [] (.any (Dv E l st x.2.ins kd).1,(x.1,{x.2 with ins:=(Dv E l st x.2.ins kd).2}))) (Ec hP) (eQ dK) (jr dK) (by kernel_rfl) (Ev.aH (Ev.aH (Ev.aH (Ev.ag (by rw[ha];rfl) hdf) (by rw[ha];rfl)) (by rw[ha,(dH 3).2.1];rfl)) (by rw[ha];rfl)) ⟨trivial,h⟩ ?_
 intro b w' hst hS
 exact bodyPost_end (results_none rfl _ _ _) hst.2.1 ⟨rfl,hS⟩
theorem Nz {st:Ps.St}{sn:List Bool}{Q:Ps.Req}{w:World}(h:pqB W0 W r tb cap q l exN st (sn,Q) w)(hr:r<W.heap.size)(hq:q<W.heap.size):fu W0 W r tb cap q l W.heap.size st Q w:=by
 obtain⟨lv,h1,rfl,h3⟩:=h
 have h4:Q.ins.links=[]:=h3
 exact⟨hr,hq,fI,h1,by rw[h4];exact dR.nil _ _⟩
def qM (W0 W:World)(r tb cap q:Nat)(l:List Ps.Tok)(p:Ps.P Ps.Req)(st:Ps.St)(e:Ending)(W':World):Prop:=e=.returned (.tuple #[])/\∃st' Q',fu W0 W r tb cap q l W.heap.size st' Q' W'/\Ps.Res p st st' Q'
def l8 (fn:Nat)(W0 W:World)(r tb cap q:Nat)(l:List Ps.Tok)(E:Ps.Env)(v:Ps.Bs):Prop:=∀(st:Ps.St) (Q:Ps.Req) (w:World),bz W0 W r tb cap q l st (aB Q fI) w->Q.ins.links=[]->Q.amd={}->
 Calls Tryz.prog fn #[.pointer (some ⟨r,0,none⟩),.pointer (some ⟨q,0,none⟩)] w (qM W0 W r tb cap q l (Ps.rest E l v Q) st)
theorem qM.bind {p:Ps.P Ps.Ins}{g:Ps.Ins->Ps.Req}{p2:Ps.P Ps.Req}{st:Ps.St}{e:Ending}{w:World}(hp:p2=Ps.bind' p λi=>Ps.eB (g i))(h:e=.returned (.tuple #[])/\∃st' i',fu W0 W r tb cap q l W.heap.size st' (g i') w/\Ps.Res p st st' i'):qM W0 W r tb cap q l p2 st e w:=by
 obtain⟨h1,st',i',h2,h3⟩:=h
 exact⟨h1,st',g i',h2,by rw[hp];exact .bind h3 (.pure _ _)⟩
def IM (W0 W:World)(r tb cap q:Nat)(l:List Ps.Tok)(E:Ps.Env):Prop:=∀(st:Ps.St) (Q:Ps.Req) (w:World),bz W0 W r tb cap q l st (aB Q fI) w->Q.ins.links=[]->
 Calls Tryz.prog 182 #[.pointer (some ⟨r,0,none⟩),.pointer (some ⟨q,3,none⟩)] w λe W'=>e=.returned (.tuple #[])/\∃st' i',fu W0 W r tb cap q l W.heap.size st' {Q with ins:=i'} W'/\Ps.Res (Ps.options E l (l.length+1) {} Q.ins) st st' i'
theorem Jg (hP:Pdr W0 l E)(sN:IM W0 W r tb cap q l E){fn:Func}{id m n:Nat}{ops:Array Oper}{K:List (Nat×AV)}{st:Ps.St}{Q:Ps.Req}{a:Act}{w:World}{R:Ending->World->Prop}(hfn:fn.results=#[])(hok:iF m ops=true)(hsz:ops.size=n+1)(hc:xP (pqM E l r q 0 (fmX E l) noH) K (.any st,(([]:List Bool),Q)) n ops=some (182,[.p 0 0,.p 1 3]))(hF:Fr (pqM E l r q 0 (fmX E l) noH) m K a)(hS:rdS l (pqB W0 W r tb cap q l exN) (.any st,([],Q)) w)
 (hR:∀st' i' w',fu W0 W r tb cap q l W.heap.size st' {Q with ins:=i'} w'->Ps.Res (Ps.options E l (l.length+1) {} Q.ins) st st' i'->R (.returned (.tuple #[])) w'):(Code.region id ops false).wp Tryz.prog (bodyPost Tryz.prog fn R) a w:=by
 refine Ev.wh (Ec hP) hok hsz hc hF hS (enters_of Tryz.func182 (by kernel_rfl) rfl) (T:=λe w'=>e=.returned (.tuple #[])/\∃st' i',fu W0 W r tb cap q l W.heap.size st' {Q with ins:=i'} w'/\Ps.Res (Ps.options E l (l.length+1) {} Q.ins) st st' i') (λw hw=>?_) λe w' hT=>?_
 ·simp only[List.map_cons,List.map_nil,(dH _).1,(dH _).2.1]
  obtain⟨-,lv,h1,rfl,h3⟩:=hw
  exact sN st Q w h1 h3
 ·obtain⟨rfl,st',i',h1,h2⟩:=hT
  exact⟨_,rfl,λb hb=>bodyPost_end (results_none hfn _ _ _) hb.defers (hR st' i' w' h1 h2)⟩
noncomputable def Ty:Code:=Tryz.f99.body.getD .skip
noncomputable def Ea:Code:=Tryz.f100.body.getD .skip
theorem FO (hP:Pdr W0 l E)(sN:IM W0 W r tb cap q l E):l8 99 W0 W r tb cap q l E Ps.E8:=λst Q w h hk ha=>by
 go_enter Tryz.func99,Tryz.ntmps99
 refine gz λa ha2 hdf=>?_
 obtain⟨p,hp⟩:∃p,p=tO E l st:=⟨_,rfl⟩
 obtain⟨n,hn⟩:∃n,n=Ps.step (Ps.cash E l) 0 (Ps.step (Ps.word l Ps.bY) () p.1).2:=⟨_,rfl⟩
 obtain⟨d,hd⟩:∃d,d=Ps.step (Ps.day E l) 0 (Ps.step (Ps.word l Ps.eF) () n.2).2:=⟨_,rfl⟩
 refine Ev.iL (M:=pqM E l r q 0 (fmX E l) noH) (n:=42) (K:=[(0,.p 0 0),(1,.p 1 0)]) (s:=(.any st,([],Q))) [0,4] (.go (aX (bL 7) Ty) [some (.p 0 0),some (.p 1 3)] (.any d.2,([],{Q with ins:={Q.ins with kind:=0,asset:=Ps.uH,sender:=p.2.1,counterparty:=p.2.2,amount:=n.1,settleDay:=d.1} }))) (Ec hP) (eQ dK) (jr dK) (by rw[hd,hn,hp];kernel_rfl) (Ev.aH (Ev.aH (Ev.ag (by rw[ha2];rfl) hdf) (by rw[ha2,(dH 0).2.1];rfl)) (by rw[ha2];rfl)) ⟨trivial,fI,h,rfl,hk⟩ ?_
 intro b w' hst hS
 have e1:(aX (bL 7) Ty).1=.region 7 (mJ (aX (bL 7) Ty).1) false:=by kernel_rfl
 have e2:(aX (bL 7) Ty).2=[]:=by kernel_rfl
 rw[e1,e2]
 obtain⟨f0,hst⟩:=hst.cons
 obtain⟨f4,hst⟩:=hst.cons
 refine Jg hP sN (K:=[(0,.p 0 0),(4,.p 1 3)]) (m:=42) (n:=2) rfl (by kernel_rfl) (by kernel_rfl) (by kernel_rfl) (Ev.aH (Ev.aH (Ev.ag hst.1 hst.2.1) f4) f0) hS λst' i' w' h1 h2=>?_
 refine qM.bind (p:=Ps.payment E l Q.ins) (g:=λi=>{Q with ins:=i}) (by unfold Ps.rest;rw[if_pos rfl]) ⟨rfl,st',i',h1,?_⟩
 exact .bind (Dl st) (.bind (.of_step _ () _) (.bind (.of_step _ 0 _) (.bind (.of_step _ () _) (.bind (.of_step _ 0 _) (by rw[<-hp,<-hn,<-hd];exact h2)))))
theorem E5 (hP:Pdr W0 l E)(sN:IM W0 W r tb cap q l E){st:Ps.St}{Q:Ps.Req}{w:World}(h:bz W0 W r tb cap q l st (aB Q fI) w)(hk:Q.ins.links=[]):
 Calls Tryz.prog 100 #[.pointer (some ⟨r,0,none⟩),.pointer (some ⟨q,0,none⟩)] w λe W'=>e=.returned (.tuple #[])/\∃st' i',fu W0 W r tb cap q l W.heap.size st' {Q with ins:=i'} W'/\Ps.Res (Ps.trade E l Q.ins) st st' i':=by
 go_enter Tryz.func100,Tryz.ntmps100
 refine gz λa ha2 hdf=>?_
 obtain⟨p,hp⟩:∃p,p=tO E l st:=⟨_,rfl⟩
 obtain⟨s,hs⟩:∃s,s=yc E l p.1 {Q.ins with kind:=1,sender:=p.2.1,counterparty:=p.2.2}:=⟨_,rfl⟩
 obtain⟨n,hn⟩:∃n,n=Ps.step (Ps.cash E l) 0 (Ps.step (Ps.word l Ps.d9) () s.1).2:=⟨_,rfl⟩
 obtain⟨d,hd⟩:∃d,d=Sc E l n.2 {s.2 with amount:=n.1}:=⟨_,rfl⟩
 have e1:(aX (bL 13) Ea).1=.region 13 (mJ (aX (bL 13) Ea).1) false:=by kernel_rfl
 have e2:(aX (bL 13) Ea).2=[]:=by kernel_rfl
 have tail:∀(s4:Ps.St) (i4 i5:Ps.Ins) (s5:Ps.St),Sc E l s4 i4=(s5,i5)->Ps.Res (λa=>if (Ps.aU l a).data.toList=Ps.jy then .ok ({s.2 with kind:=2},a+1)else Ps.bind' (Ps.word l Ps.d9) (λ_=>Ps.bind' (Ps.cash E l) λn=>Ps.eB {s.2 with amount:=n}) a) s.1 s4 i4->
  ∀b w',Stop (pqM E l r q 0 (fmX E l) noH) 62 [0,4] [some (.p 0 0),some (.p 1 3)] b->rdS l (pqB W0 W r tb cap q l exN) (.any s5,(([]:List Bool),{Q with ins:=i5})) w'->(aX (bL 13) Ea).1.wp Tryz.prog (Qof Tryz.prog (aX (bL 13) Ea).2 (bodyPost Tryz.prog Tryz.f100 λe W'=>e=.returned (.tuple #[])/\∃st' i',fu W0 W r tb cap q l W.heap.size st' {Q with ins:=i'} W'/\Ps.Res (Ps.trade E l Q.ins) st st' i')) b w':=λs4 i4 i5 s5 hdat hres b w' hst hS=>by
  rw[e1,e2]
  obtain⟨f0,hst⟩:=hst.cons
  obtain⟨f4,hst⟩:=hst.cons
  refine Jg hP sN (K:=[(0,.p 0 0),(4,.p 1 3)]) (m:=62) (n:=2) rfl (by kernel_rfl) (by kernel_rfl) (by kernel_rfl) (Ev.aH (Ev.aH (Ev.ag hst.1 hst.2.1) f4) f0) hS λst' i' w' h1 h2=>⟨rfl,st',i',h1,?_⟩
  have hd2:({i4 with tradeDay:=(Ps.step (Ps.day E l) 0 (Ps.step (Ps.word l Ps.j4) () s4).2).1,settleDay:=(Ps.step (Ps.day E l) 0 (Ps.step (Ps.word l Ps.eF) () (Ps.step (Ps.day E l) 0 (Ps.step (Ps.word l Ps.j4) () s4).2).2).2).1}:Ps.Ins)=i5:=congrArg Prod.snd hdat
  have hd1:(Ps.step (Ps.day E l) 0 (Ps.step (Ps.word l Ps.eF) () (Ps.step (Ps.day E l) 0 (Ps.step (Ps.word l Ps.j4) () s4).2).2).2).2=s5:=congrArg Prod.fst hdat
  exact .bind (Dl st) (.bind (Es _ _) (.bind (by rw[<-hp,<-hs];exact hres) (.bind (.of_step _ () _) (.bind (.of_step _ 0 _) (.bind (.of_step _ () _) (.bind (.of_step _ 0 _) (by rw[hd2,hd1];exact h2)))))))
 refine Ev.iL (M:=pqM E l r q 0 (fmX E l) noH) (n:=62) (K:=[(0,.p 0 0),(1,.p 1 0)]) (s:=(.any st,([],Q))) [0,4] (.ite ((Ps.jk l s.1).toList==([102,114,101,101]:List UInt8)) (.go (aX (bL 5) Ea) [some (.p 0 0),some (.p 1 3)] (.any s.1,([],{Q with ins:=s.2}))) (.go (aX (bL 13) Ea) [some (.p 0 0),some (.p 1 3)] (.any d.1,([],{Q with ins:=d.2})))) (Ec hP) (eQ dK) (jr dK) (by rw[hd,hn,hs,hp];kernel_rfl) (Ev.aH (Ev.aH (Ev.ag (by rw[ha2];rfl) hdf) (by rw[ha2,(dH 0).2.1];rfl)) (by rw[ha2];rfl)) ⟨trivial,fI,h,rfl,hk⟩ ⟨λhc b w' hst hS=>?_,λhc b w' hst hS=>?_⟩
 ·have hfree:(Ps.jk l s.1).data.toList=Ps.jy:=by rw[<-Lib.toList_data];exact beq_iff_eq.1 hc
  obtain⟨a,hs1,hlt⟩:∃a,s.1=.ok a/\a<l.length:=by
   cases hq:s.1 with
   |error e=>rw[hq]at hfree;cases hfree
   |ok a=>
    refine⟨a,rfl,?_⟩
    rw[hq]at hfree
    rcases Nat.lt_or_ge a l.length with h1|h1
    ·exact h1
    ·exfalso
     have:Ps.jk l (.ok a)=⟨#[]⟩:=by show Ps.aU l a=_;unfold Ps.aU;rw[List.getElem?_eq_none h1]
     rw[this]at hfree
     cases hfree
  rw[hs1]at hS
  obtain⟨f0,hst⟩:=hst.cons
  obtain⟨f4,hst⟩:=hst.cons
  refine Ev.ex_shF (M:=pqM E l r q 0 (fmX E l) noH) (n:=62) (K:=[(0,.p 0 0),(4,.p 1 3)]) (s:=(.at0 a,([],{Q with ins:=s.2}))) [0,4] (.go (aX (bL 13) Ea) [some (.p 0 0),some (.p 1 3)] (.any (Sc E l (.ok (a+1)) {s.2 with kind:=2}).1,([],{Q with ins:=(Sc E l (.ok (a+1)) {s.2 with kind:=2}).2}))) (Ec hP) (eQ dK) (jr dK) (by kernel_rfl) (Ev.aH (Ev.aH (Ev.ag hst.1 hst.2.1) f4) f0) ⟨hlt,hS.2⟩ ?_
  refine tail _ _ _ _ rfl ?_
  rw[hs1]at hfree⊢
  have hf2:(Ps.aU l a).data.toList=Ps.jy:=hfree
  exact if_pos hf2
 ·have hfree:¬(Ps.jk l s.1).data.toList=Ps.jy:=λe=>by
   rw[<-Lib.toList_data]at e
   rw[show(Ps.jk l s.1).toList=[102,114,101,101]from e]at hc
   cases hc
  refine tail n.2 _ _ _ hd.symm ?_ b w' hst hS
  have h2:Ps.Res (Ps.bind' (Ps.word l Ps.d9) λ_=>Ps.bind' (Ps.cash E l) λn=>Ps.eB {s.2 with amount:=n}) s.1 n.2 {s.2 with amount:=n.1}:=by
   rw[hn]
   exact .bind (.of_step _ () _) (.bind (.of_step _ 0 _) (.pure _ _))
  refine h2.mono λa ha=>?_
  rw[ha]at hfree
  have hf2:¬(Ps.aU l a).data.toList=Ps.jy:=hfree
  exact(if_neg hf2).symm
theorem Og (hP:Pdr W0 l E)(sN:IM W0 W r tb cap q l E):l8 100 W0 W r tb cap q l E Ps.fC:=λst Q w h hk ha=>
 (E5 hP sN h hk).mono λe w' hw=>qM.bind (p:=Ps.trade E l Q.ins) (g:=λi=>{Q with ins:=i}) (by unfold Ps.rest;rw[if_neg (by decide),if_pos rfl]) hw
theorem Gb (hP:Pdr W0 l E)(sN:IM W0 W r tb cap q l E):l8 101 W0 W r tb cap q l E Ps.eZ:=λst Q w h hk ha=>by
 refine(DX w r q _ (E5 hP sN h hk) (Lib.hid ?_)).mono ?_
 ·rintro w' ⟨st',i',⟨h1,h2,lv,h3,h4⟩,h5⟩
  exact⟨i'.sender,i'.counterparty,_,h3.2.1,rfl,rfl,by show 7<28;omega⟩
 ·rintro e W' ⟨rfl,w',x,y,⟨st',i',h2,h3⟩,c5,c6,rfl⟩
  have hx:x=i'.sender/\y=i'.counterparty:=by
   obtain⟨_,_,lv,h4,_⟩:=h2
   have k5:w'.cell? ⟨q,5,none⟩=some (.string i'.sender):=by rw[cell_of_row _ _ _ _ _ _ h4.2.1];rfl
   have k6:w'.cell? ⟨q,6,none⟩=some (.string i'.counterparty):=by rw[cell_of_row _ _ _ _ _ _ h4.2.1];rfl
   rw[k5]at c5;rw[k6]at c6
   cases c5;cases c6;exact⟨rfl,rfl⟩
  obtain⟨rfl,rfl⟩:=hx
  refine qM.bind (p:=Ps.trade E l Q.ins) (g:=λi=>{Q with ins:=Ps.turn i}) (by unfold Ps.rest;rw[if_neg (by decide),if_neg (by decide),if_pos rfl]) ⟨rfl,st',i',?_,h3⟩
  have e1:=((h2.store 7 (.int .i64 1) {Q with ins:={i' with side:=1} } (λlv=>rfl) rfl).store 5 (.string i'.counterparty) {Q with ins:={i' with side:=1,sender:=i'.counterparty} } (λlv=>rfl) rfl).store 6 (.string i'.sender) {Q with ins:=Ps.turn i'} (λlv=>rfl) rfl
  exact e1.below (Below.refl _ _).drew
theorem JM (hP:Pdr W0 l E)(hr:r<W.heap.size)(hq:q<W.heap.size){fn:Func}{id m:Nat}{ops:Array Oper}(kd:Int){st:Ps.St}{Q:Ps.Req}{a:Act}{w:World}{p:Ps.P Ps.Req}(hp:p=Ps.bind' (Ps.collateral E l kd Q.ins) λi=>Ps.eB {Q with ins:=i})(hfn:fn.results=#[])(hok:iF m ops=true)(hsz:ops.size=5)(hc:xP (pqM E l r q 0 noX noH) [(0,.p 0 0),(1,.p 1 0)] (.any st,(([]:List Bool),Q)) 4 ops=some (184,[.p 0 0,.p 1 3,.v (.int .i64 kd)]))(hF:Fr (pqM E l r q 0 noX noH) m [(0,.p 0 0),(1,.p 1 0)] a)(hS:pqB W0 W r tb cap q l exN st ([],Q) w):
 (Code.region id ops false).wp Tryz.prog (bodyPost Tryz.prog fn (qM W0 W r tb cap q l p st)) a w:=by
 refine Ev.wh (mi hP) hok hsz hc hF ⟨trivial,hS⟩ (enters_of Tryz.func184 (by kernel_rfl) rfl) (T:=λe w'=>e=.returned (.tuple #[])/\rdS l (pqB W0 W r tb cap q l exN) (.any (Dv E l st Q.ins kd).1,([],{Q with ins:=(Dv E l st Q.ins kd).2})) w') (λw hw=>?_) λe w' hT=>?_
 ·simp only[List.map_cons,List.map_nil,(dH _).1,(dH _).2.1]
  exact pq_col hP kd st _ w hw.2
 ·obtain⟨rfl,hS⟩:=hT
  exact⟨_,rfl,λb hb=>bodyPost_end (results_none hfn _ _ _) hb.defers (qM.bind hp ⟨rfl,_,_,Nz hS.2 hr hq,QH _ _ _⟩)⟩
theorem KR (hP:Pdr W0 l E)(hr:r<W.heap.size)(hq:q<W.heap.size):l8 102 W0 W r tb cap q l E Ps.eP:=λst Q w h hk ha=>by
 go_enter Tryz.func102,Tryz.ntmps102
 refine gz λa ha2 hdf=>?_
 exact JM hP hr hq 3 (by unfold Ps.rest;rw[if_neg (by decide),if_neg (by decide),if_neg (by decide),if_pos rfl]) rfl (m:=9) (by kernel_rfl) rfl (by kernel_rfl) (Ev.aH (Ev.aH (Ev.ag (by rw[ha2];rfl) hdf) (by rw[ha2,(dH 0).2.1];rfl)) (by rw[ha2];rfl)) ⟨fI,h,rfl,hk⟩
theorem IP (hP:Pdr W0 l E)(hr:r<W.heap.size)(hq:q<W.heap.size):l8 103 W0 W r tb cap q l E Ps.dN:=λst Q w h hk ha=>by
 go_enter Tryz.func103,Tryz.ntmps103
 refine gz λa ha2 hdf=>?_
 exact JM hP hr hq 4 (by unfold Ps.rest;rw[if_neg (by decide),if_neg (by decide),if_neg (by decide),if_neg (by decide),if_pos rfl]) rfl (m:=9) (by kernel_rfl) rfl (by kernel_rfl) (Ev.aH (Ev.aH (Ev.ag (by rw[ha2];rfl) hdf) (by rw[ha2,(dH 0).2.1];rfl)) (by rw[ha2];rfl)) ⟨fI,h,rfl,hk⟩
theorem GX (hr:r<W.heap.size)(hq:q<W.heap.size){fn:Func}{kd:Int}{st:Ps.St}{Q:Ps.Req}{p:Ps.P Ps.Req}{b:Act}{w:World}(hp:p=Ps.bind' (Ps.by_ E l) λs=>Ps.eB {Q with op:=kd,sender:=s})(hfn:fn.results=#[])(hd:b.defers=[])(hS:rdS l (pqB W0 W r tb cap q l exN) (.any (Ps.step (Ps.by_ E l) ⟨#[]⟩ st).2,([],{Q with op:=kd,sender:=(Ps.step (Ps.by_ E l) ⟨#[]⟩ st).1})) w):bodyPost Tryz.prog fn (qM W0 W r tb cap q l p st) .normal b w:=
 bodyPost_end (results_none hfn _ _ _) hd ⟨rfl,_,_,Nz hS.2 hr hq,by rw[hp];exact .bind (.of_step _ ⟨#[]⟩ _) (.pure _ _)⟩
theorem Kl (hP:Pdr W0 l E)(hr:r<W.heap.size)(hq:q<W.heap.size):l8 105 W0 W r tb cap q l E Ps.fQ:=λst Q w h hk ha=>by
 go_enter Tryz.func105,Tryz.ntmps105
 refine gz λa ha2 hdf=>?_
 refine Ev.iL (M:=pqM E l r q 0 noX noH) (n:=12) (K:=[(0,.p 0 0),(1,.p 1 0)]) (s:=(.any st,([],Q))) [] (.nx [] (.any (Ps.step (Ps.by_ E l) ⟨#[]⟩ st).2,([],{Q with op:=2,sender:=(Ps.step (Ps.by_ E l) ⟨#[]⟩ st).1}))) (mi hP) (eQ dK) (jr dK) (by kernel_rfl) (Ev.aH (Ev.aH (Ev.ag (by rw[ha2];rfl) hdf) (by rw[ha2,(dH 0).2.1];rfl)) (by rw[ha2];rfl)) ⟨trivial,fI,h,rfl,hk⟩ ?_
 intro b w' hst hS
 exact GX hr hq (by unfold Ps.rest;iterate 6 rw[if_neg (by decide)]
                    rw[if_pos rfl]) rfl hst.2.1 hS
theorem UK (hP:Pdr W0 l E)(hr:r<W.heap.size)(hq:q<W.heap.size):l8 106 W0 W r tb cap q l E Ps.bU:=λst Q w h hk ha=>by
 go_enter Tryz.func106,Tryz.ntmps106
 refine gz λa ha2 hdf=>?_
 refine Ev.iL (M:=pqM E l r q 0 noX noH) (n:=12) (K:=[(0,.p 0 0),(1,.p 1 0)]) (s:=(.any st,([],Q))) [] (.nx [] (.any (Ps.step (Ps.by_ E l) ⟨#[]⟩ st).2,([],{Q with op:=3,sender:=(Ps.step (Ps.by_ E l) ⟨#[]⟩ st).1}))) (mi hP) (eQ dK) (jr dK) (by kernel_rfl) (Ev.aH (Ev.aH (Ev.ag (by rw[ha2];rfl) hdf) (by rw[ha2,(dH 0).2.1];rfl)) (by rw[ha2];rfl)) ⟨trivial,fI,h,rfl,hk⟩ ?_
 intro b w' hst hS
 exact GX hr hq (by unfold Ps.rest;iterate 6 rw[if_neg (by decide)]
                    rw[if_neg (by decide),if_pos rfl]) rfl hst.2.1 hS
theorem KE (hP:Pdr W0 l E)(hr:r<W.heap.size)(hq:q<W.heap.size):l8 107 W0 W r tb cap q l E Ps.gG:=λst Q w h hk ha=>by
 go_enter Tryz.func107,Tryz.ntmps107
 refine gz λa ha2 hdf=>?_
 refine Ev.iL (M:=pqM E l r q 0 noX noH) (n:=12) (K:=[(0,.p 0 0),(1,.p 1 0)]) (s:=(.any st,([],Q))) [] (.nx [] (.any (Ps.step (Ps.by_ E l) ⟨#[]⟩ st).2,([],{Q with op:=4,sender:=(Ps.step (Ps.by_ E l) ⟨#[]⟩ st).1}))) (mi hP) (eQ dK) (jr dK) (by kernel_rfl) (Ev.aH (Ev.aH (Ev.ag (by rw[ha2];rfl) hdf) (by rw[ha2,(dH 0).2.1];rfl)) (by rw[ha2];rfl)) ⟨trivial,fI,h,rfl,hk⟩ ?_
 intro b w' hst hS
 exact GX hr hq (by unfold Ps.rest;iterate 6 rw[if_neg (by decide)]
                    rw[if_neg (by decide),if_neg (by decide)]) rfl hst.2.1 hS
def Tu (E:Ps.Env)(l:List Ps.Tok):Ps.P Ps.Amd:=λa=>if l.length<=a then .error (Ps.short l)else Ps.changes E l (l.length+1) {} {} a
def ChgC (W0 W:World)(r tb cap q:Nat)(l:List Ps.Tok)(E:Ps.Env):Prop:=∀(st:Ps.St) (Q:Ps.Req) (w:World),bz W0 W r tb cap q l st (aB Q fI) w->Q.ins.links=[]->Q.amd={}->
 Calls Tryz.prog 186 #[.pointer (some ⟨r,0,none⟩),.pointer (some ⟨q,19,none⟩)] w λe W'=>e=.returned (.tuple #[])/\∃st' m',fu W0 W r tb cap q l W.heap.size st' {Q with amd:=m'} W'/\Ps.Res (Tu E l) st st' m'
noncomputable def RI:Code:=Tryz.f104.body.getD .skip
theorem Nr (hP:Pdr W0 l E)(hchg:ChgC W0 W r tb cap q l E):l8 104 W0 W r tb cap q l E Ps.nK:=λst Q w h hk ha=>by
 go_enter Tryz.func104,Tryz.ntmps104
 refine gz λa ha2 hdf=>?_
 obtain⟨z,hz⟩:∃z,z=Ps.step (Ps.by_ E l) ⟨#[]⟩ st:=⟨_,rfl⟩
 refine Ev.iL (M:=pqM E l r q 0 noX noH) (n:=17) (K:=[(0,.p 0 0),(1,.p 1 0)]) (s:=(.any st,([],Q))) [0,1] (.go (aX (bL 1) RI) [some (.p 0 0),some (.p 1 0)] (.any z.2,([],{Q with op:=1,sender:=z.1}))) (mi hP) (eQ dK) (jr dK) (by rw[hz];kernel_rfl) (Ev.aH (Ev.aH (Ev.ag (by rw[ha2];rfl) hdf) (by rw[ha2,(dH 0).2.1];rfl)) (by rw[ha2];rfl)) ⟨trivial,fI,h,rfl,hk⟩ ?_
 intro b w' hst hS
 have e1:(aX (bL 1) RI).1=.region 1 (mJ (aX (bL 1) RI).1) false:=by kernel_rfl
 have e2:(aX (bL 1) RI).2=[]:=by kernel_rfl
 rw[e1,e2]
 obtain⟨f0,hst⟩:=hst.cons
 obtain⟨f1,hst⟩:=hst.cons
 refine Ev.wh (mi hP) (K:=[(0,.p 0 0),(1,.p 1 0)]) (m:=17) (n:=4) (f:=186) (vs:=[.p 0 0,.p 1 19]) (by kernel_rfl) (by kernel_rfl) (by kernel_rfl) (Ev.aH (Ev.aH (Ev.ag hst.1 hst.2.1) f1) f0) hS (enters_of Tryz.func186 (by kernel_rfl) rfl) (T:=λe W'=>e=.returned (.tuple #[])/\∃st' m',fu W0 W r tb cap q l W.heap.size st' {Q with op:=1,sender:=z.1,amd:=m'} W'/\Ps.Res (Tu E l) z.2 st' m') (λw hw=>?_) λe w' hT=>?_
 ·simp only[List.map_cons,List.map_nil,(dH _).1,(dH _).2.1]
  obtain⟨-,lv,h1,rfl,h3⟩:=hw
  exact hchg z.2 _ w h1 h3 ha
 ·obtain⟨rfl,st',m',h1,h2⟩:=hT
  refine⟨_,rfl,λb hb=>bodyPost_end (results_none rfl _ _ _) hb.defers ⟨rfl,st',_,h1,?_⟩⟩
  unfold Ps.rest
  iterate 5 rw[if_neg (by decide)]
  rw[if_pos rfl]
  refine .bind (.of_step _ ⟨#[]⟩ _) ?_
  rw[<-hz]
  have h4:Ps.Res (Ps.bind' (Tu E l) λm=>Ps.eB {Q with op:=1,sender:=z.1,amd:=m}) z.2 st' {Q with op:=1,sender:=z.1,amd:=m'}:=.bind h2 (.pure _ _)
  refine h4.mono λa _=>?_
  unfold Tu
  by_cases hle:l.length<=a
  ·simp only[Ps.bind',if_pos hle]
  ·simp only[Ps.bind',if_neg hle]
end
end Go.Proofs.YtnjjeapcalkmaaaGreatDoor
namespace Go.Proofs.YtnjjeapcalkmaaaGreatDoor.Ord
open Go
open Go.Proofs.YtnjjeapcalkmaaaGreatDoor (Kept)
section
variable {P : Program} {ops : Array Oper} {Q : Exit → Act → World → Prop} {D : Nat → Nat → Bool}
def mV (P:Program)(T:Value->World->Prop):Result Next->Prop
 | .ok (.value u) w=>T u w
 | .ok (.enter f args) w=>Calls P f args w λe w'=>∃v,e=.returned v/\T v w'
 |_=>False
def iO (P:Program)(ops:Array Oper)(S:World->Prop)(T:Value->World->Prop)(o:Oper)(a:Act):Prop:=Region.wanted o (yielded ops a.tmps)=true/\∀w,S w->mV P T ((execOp a.eval o).run P w)
theorem iO.wpOp {S:World->Prop}{T:Value->World->Prop}{i:Nat}{o:Oper}{a:Act}(hi:ops[i]? =some o)(hy:iO P ops S T o a){K:Act->World->Prop}{w:World}(hS:S w)(h:∀v w',T v w'->K (a.put o.dst v) w'):wpOp P ops Q i K a w:=by
 unfold Go.wpOp
 simp only[hi,hy.1,if_true]
 refine .inl ?_
 have hg:=hy.2 w hS
 unfold Oper.wp
 generalize (execOp a.eval o).run P w=r at hg
 unfold mV at hg
 split at hg
 ·exact h _ _ hg
 ·refine Calls.mono hg ?_
  rintro e w' ⟨v,rfl,hs⟩
  exact h _ _ hs
 ·exact hg.elim
theorem iO.of_looks {S:World->Prop}{T:Value->World->Prop}{o:Oper}{a b:Act}(hs:∀cs b,o.op≠.select cs b)(hy:iO P ops S T o a)(h:∀d∈o.looksAt ops,a.tmps[d]? =b.tmps[d]?):iO P ops S T o b:=by
 have e1:execOp b.eval o=execOp a.eval o:=execOp_congr o hs λx hx=>by
  cases x with
  |tmp t=>
   have:=h t (List.mem_append_left _ (List.mem_filterMap.2 ⟨.tmp t,by simpa using hx,rfl⟩))
   simp only[Act.eval,Array.getD_eq_getD_getElem?,this]
  |const v=>rfl
  |global g=>rfl
  |func f=>rfl
 have e2:Region.wanted o (yielded ops b.tmps)=Region.wanted o (yielded ops a.tmps):=by
  unfold Region.wanted
  cases hg:o.guard with
  |none=>rfl
  |some gw=>
   obtain⟨g,want⟩:=gw
   have hyd:yielded ops b.tmps g=yielded ops a.tmps g:=by
    unfold yielded
    cases ht:(ops[g]?).bind (·.dst)with
    |none=>rfl
    |some t=>
     have:=h t (by simp[Oper.looksAt,hg,ht])
     show(match b.tmps[t]? with|some (.bool x)=>some x|_=>none)=(match a.tmps[t]? with|some (.bool x)=>some x|_=>none)
     rw[this]
   simp only[hyd]
 unfold iO at *
 rw[e1,e2]
 exact hy
theorem Dm {X:Type}{S0:(Nat->Bool)->World->Prop}{S1:X->(Nat->Bool)->World->Prop}{a0:Act}{vs0:Nat->Value}{vs1:X->Nat->Value}{acts0:Nat->Act}{acts1:X->Nat->Act}(c:Nat)(hc:c<ops.size)(hd:dJ ops=true)(hD:∀i o,ops[i]? =some o->∀j,D i j=true->∃e∈o.after,Region.binds .any e=true/\(e.on=j\/D e.on j=true))(hs:Region.noSelect ops=true)(h0:acts0 0=a0)(h1:∀x,acts1 x 0=a0)(hDc:D c c=false)
 (hv0:∀i o,ops[i]? =some o->(D i c=false->∀dn:Nat->Bool,dn i=false->(∀j,D i j=true->dn j=true)->(∀j,D j i=true->dn j=false)->if i=c then iO P ops (S0 dn) (λv w=>∃x,v=vs1 x i/\S1 x (λj=>dn j||j==i) w) o (acts0 i)else ah P ops (S0 dn) (S0 (λj=>dn j||j==i)) o (vs0 i) (acts0 i))/\acts0 (i+1)=(acts0 i).put o.dst (vs0 i))
 (hv1:∀x i o,ops[i]? =some o->(∀dn:Nat->Bool,dn i=false->(∀j,D i j=true->dn j=true)->(∀j,D j i=true->dn j=false)->ah P ops (S1 x dn) (S1 x (λj=>dn j||j==i)) o (vs1 x i) (acts1 x i))/\acts1 x (i+1)=(acts1 x i).put o.dst (vs1 x i))
 (hvx:∀x i,i≠c->D i c=false->vs1 x i=vs0 i) (hQ:∀x w,S1 x (λj=>decide (j<ops.size)) w->Q .normal (acts1 x ops.size) w):
 ∀(fuel:Nat) (listed:Array Bool) (a:Act) (w:World),listed.getD c false=false->listed.size=ops.size->At ops a0 vs0 (λi=>listed.getD i false=true) a->S0 (λj=>listed.getD j false) w->(∀i j,listed.getD i false=true->D i j=true->listed.getD j false=true)->(∀(j:Nat) (oj:Oper),ops[j]? =some oj->listed.getD j false=true->∀e∈oj.after,Region.binds .any e=true->listed.getD e.on false=true)->(List.range ops.size).countP (λi=>!listed.getD i true)<=fuel->
  wpAny P .any ops Q fuel listed a w:=by
 have hat:∀k,k<=ops.size->At ops a0 vs0 (λi=>i<k) (acts0 k):=by
  intro k
  induction k with
  |zero=>
   intro _
   rw[h0]
   exact⟨rfl,rfl,λ_ _ _ _ h=>absurd h (Nat.not_lt_zero _),λ_ _=>rfl⟩
  |succ k ih=>
   intro hk
   obtain⟨o,ho⟩:∃o,ops[k]? =some o:=⟨_,Array.getElem?_eq_getElem (by omega)⟩
   rw[(hv0 k o ho).2]
   exact(ih (by omega)).putW hd ho (Nat.lt_irrefl k) (λj=>by omega)
 have hall:∀(listed:Array Bool),listed.size=ops.size->Region.ready .any ops listed=[]->∀i,i<ops.size->listed.getD i false=true:=by
  intro listed hsz hr i
  induction i using Nat.strongRecOn with
  |ind i ih=>
   intro hi
   obtain⟨o,ho⟩:∃o,ops[i]? =some o:=⟨_,Array.getElem?_eq_getElem hi⟩
   cases hb:listed.getD i false with
   |true=>rfl
   |false=>
    exfalso
    have hmem:i∈Region.ready .any ops listed:=by
     rw[mem_ready]
     refine⟨?_,o,ho,λe he hbd=>?_⟩
     ·have:i<listed.size:=by omega
      simp[this]at hb⊢
      exact hb
     ·have hlt:=dP hd ho he hbd
      exact ih e.on hlt (by omega)
    rw[hr]at hmem
    cases hmem
 have hend:∀(listed:Array Bool) (a:Act) (w:World),listed.getD c false=false->listed.size=ops.size->Region.ready .any ops listed=[]->Q .normal a w:=by
  intro listed a w hlc hsz hr
  have:=hall listed hsz hr c hc
  rw[hlc]at this
  cases this
 intro fuel
 induction fuel with
 |zero=>
  intro listed a w hlc hsz hA hS hI FY hcnt
  have hr:Region.ready .any ops listed=[]:=by
   cases hr:Region.ready .any ops listed with
   |nil=>rfl
   |cons x xs=>
    exfalso
    have hx:x∈Region.ready .any ops listed:=by rw[hr];exact List.mem_cons_self
    obtain⟨h1,o,ho,_⟩:=mem_ready.1 hx
    have hlt:x<ops.size:=(Array.getElem?_eq_some_iff.1 ho).1
    have:0<(List.range ops.size).countP (λi=>!listed.getD i true):=List.countP_pos_iff.2 ⟨x,List.mem_range.2 hlt,by rw[h1];rfl⟩
    omega
  exact⟨hr,hend listed a w hlc hsz hr⟩
 |succ fuel ih=>
  intro listed a w hlc hsz hA hS hI FY hcnt
  refine⟨hend listed a w hlc hsz,λi hi=>?_⟩
  obtain⟨hun,o,ho,hafter⟩:=mem_ready.1 hi
  have hlt:i<ops.size:=(Array.getElem?_eq_some_iff.1 ho).1
  have hsel:=λcs b=>Region.noSelect_spec hs i o cs b ho
  have hnl:¬listed.getD i false=true:=by
   have:i<listed.size:=by omega
   simp[this]at hun⊢
   exact hun
  have T9:listed.getD i false=false:=by
   cases hb:listed.getD i false with
   |false=>rfl
   |true=>exact absurd hb hnl
  have Sv:∀j,D i j=true->listed.getD j false=true:=λj hdi=>by
   obtain⟨e,he,hb,h1|h1⟩:=hD i o ho j hdi
   ·rw[<-h1];exact hafter e he hb
   ·exact hI e.on j (hafter e he hb) h1
  have hEi:∀j,D j i=true->listed.getD j false=false:=λj hdj=>by
   cases hb:listed.getD j false with
   |false=>rfl
   |true=>exact absurd (hI j i hb hdj) hnl
  have hic:D i c=false:=by
   cases hb:D i c with
   |false=>rfl
   |true=>have:=Sv c hb;rw[hlc]at this;cases this
  have hlk:∀d∈o.looksAt ops,(acts0 i).tmps[d]? =a.tmps[d]?:=λd hdl=>
   (hat i (by omega)).sameW hd hA ho (Nat.lt_irrefl i) hnl (λe he hb=>⟨dP hd ho he hb,hafter e he hb⟩) (λj hij h=>absurd h (by omega)) (λj oj hj hl=>FY j oj hj hl) hdl
  have hyc:=(hv0 i o ho).1 hic _ T9 Sv hEi
  have uo:(λj=>(listed.setIfInBounds i true).getD j false)=(λj=>listed.getD j false||j==i):=by
   funext j
   by_cases hik:i=j
   ·subst hik
    have:i<listed.size:=by omega
    simp[this]
   ·rw[getD_set_ne false hik]
    have:(j==i)=false:=by rw[beq_eq_false_iff_ne];exactλe=>hik e.symm
    rw[this,Bool.or_false]
  have hsz':(listed.setIfInBounds i true).size=ops.size:=by simpa using hsz
  have hA':At ops a0 vs0 (λj=>(listed.setIfInBounds i true).getD j false=true) (a.put o.dst (vs0 i)):=by
   refine hA.putW hd ho hnl λj=>?_
   by_cases hij:i=j
   ·subst hij
    have:i<listed.size:=by omega
    simp[this]
   ·rw[getD_set_ne false hij]
    constructor
    ·exact .inl
    ·rintro(h|rfl)
     ·exact h
     ·exact absurd rfl hij
  have hI':∀i' j,(listed.setIfInBounds i true).getD i' false=true->D i' j=true->(listed.setIfInBounds i true).getD j false=true:=by
   intro i' j hj hdj
   have hlj:listed.getD j false=true:=by
    by_cases hij:i=i'
    ·subst hij
     exact Sv j hdj
    ·rw[getD_set_ne false hij]at hj
     exact hI i' j hj hdj
   by_cases hie:i=j
   ·have hne:¬listed.getD j false=true:=by rw[<-hie];exact hnl
    exact absurd hlj hne
   ·rw[getD_set_ne false hie];exact hlj
  have hCl':∀(j:Nat) (oj:Oper),ops[j]? =some oj->(listed.setIfInBounds i true).getD j false=true->∀e∈oj.after,Region.binds .any e=true->(listed.setIfInBounds i true).getD e.on false=true:=by
   intro j oj hj hl e he hb
   have hle:listed.getD e.on false=true:=by
    by_cases hij:i=j
    ·subst hij
     rw[ho]at hj;cases hj
     exact hafter e he hb
    ·rw[getD_set_ne false hij]at hl
     exact FY j oj hj hl e he hb
   by_cases hie:i=e.on
   ·have hne:¬listed.getD e.on false=true:=by rw[<-hie];exact hnl
    exact absurd hle hne
   ·rw[getD_set_ne false hie];exact hle
  have UT:(List.range ops.size).countP (λi'=>!(listed.setIfInBounds i true).getD i' true)<=fuel:=by
   have:=iK (p:=λi=>!listed.getD i true) (q:=λj=>!(listed.setIfInBounds i true).getD j true) (λj hj=>by
    by_cases hij:i=j
    ·subst hij;simp only[hun];rfl
    ·rw[getD_set_ne true hij]at hj;exact hj) (List.range ops.size) i (List.mem_range.2 hlt) (by simp only[hun];rfl) (by
     have:i<listed.size:=by omega
     simp[this])
   omega
  by_cases hci:i=c
  ·subst hci
   rw[if_pos rfl]at hyc
   refine(hyc.of_looks hsel hlk).wpOp ho hS λv w' hS'=>?_
   obtain⟨x,rfl,hx⟩:=hS'
   have hAv:At ops a0 (vs1 x) (λj=>listed.getD j false=true) a:=by
    refine⟨hA.defers,hA.size,λk ok d hk hl hdk hds=>?_,hA.rest⟩
    have hki:k≠i:=λe=>hnl (by rw[<-e];exact hl)
    have hkd:D k i=false:=by
     cases hb:D k i with
     |false=>rfl
     |true=>exact absurd (hI k i hl hb) hnl
    rw[hvx x k hki hkd]
    exact hA.done k ok d hk hl hdk hds
   have hAx:At ops a0 (vs1 x) (λj=>(listed.setIfInBounds i true).getD j false=true) (a.put o.dst (vs1 x i)):=by
    refine hAv.putW hd ho hnl λj=>?_
    by_cases hij:i=j
    ·subst hij
     have:i<listed.size:=by omega
     simp[this]
    ·rw[getD_set_ne false hij]
     constructor
     ·exact .inl
     ·rintro(h|rfl)
      ·exact h
      ·exact absurd rfl hij
   refine ug (S:=S1 x) (D:=D) (acts:=acts1 x) (vs:=vs1 x) (a0:=a0) hd hD hs (h1 x) (hv1 x) (hQ x) fuel _ _ w' hsz' hAx (by rw[uo];exact hx) hI' hCl' UT
  ·rw[if_neg hci]at hyc
   refine(hyc.of_looks hsel hlk).wpOp ho hS λw' hS'=>ih (listed.setIfInBounds i true) _ w' (by rw[getD_set_ne false hci];exact hlc) hsz' hA' (by rw[uo];exact hS') hI' hCl' UT
theorem xg (P:Program){a:Act}(n:Nat)(vs:List Value)(hvl:vs.length=n)(hsz:ops.size=n)(hd:eU ops=true)(hs:Region.noSelect ops=true)(hb:bZ ops a.tmps.size=true):
 ∃acts:Nat->Act,acts 0=a/\(∀(i:Nat) (o:Oper),ops[i]? =some o->acts (i+1)=(acts i).put o.dst (vs.getD i undef))/\cO (acts n).eval (ops.toList.take n) vs/\Kept ops a (acts n)/\
  ∀(i:Nat) (o:Oper),ops[i]? =some o->(∀(S T:World->Prop),YF P S T (acts n).eval vs o (vs.getD i undef)->ah P ops S T o (vs.getD i undef) (acts i))/\∀(S:World->Prop) (T:Value->World->Prop),iB vs o=true->(∀w,S w->mV P T ((execOp (acts n).eval o).run P w))->iO P ops S T o (acts i):=by
 obtain⟨acts,ha0,QC,hat,lw,hrest,ll,Sy⟩:=AZ (ops:=ops) (a:=a) n vs hvl (by omega) hd hb
 refine⟨acts,ha0,QC,lw,⟨(hat n (by omega)).defers,(hat n (by omega)).size,hrest⟩,λi o ho=>?_⟩
 have hi:i<n:=by have:=(Array.getElem?_eq_some_iff.1 ho).1;omega
 obtain⟨om,hwant⟩:=Sy i o ho hi
 refine⟨λS T yy=>yy.to hs ho ⟨om,hwant⟩,λS T hw hg=>?_⟩
 have hyn:iO P ops S T o (acts n):=⟨by rw[hwant];exact hw,hg⟩
 exact hyn.of_looks (λcs b=>Region.noSelect_spec hs i o cs b ho) om
def DZ {X:Type}(P:Program)(S0:(Nat->Bool)->World->Prop)(S1:X->(Nat->Bool)->World->Prop)(vs1:X->List Value)(D:Nat->Nat->Bool)(c:Nat)(ρ:Operand->Value)(vs:List Value):Nat->List Oper->List Value->Prop
 |k,o::l,v::m=>(D k c=false->∀dn:Nat->Bool,dn k=false->(∀j,D k j=true->dn j=true)->(∀j,D j k=true->dn j=false)->if k=c then iB vs o=true/\∀w,S0 dn w->mV P (λv w=>∃x,v=(vs1 x).getD k undef/\S1 x (λj=>dn j||j==k) w) ((execOp ρ o).run P w)else YF P (S0 dn) (S0 (λj=>dn j||j==k)) ρ vs o v)/\DZ P S0 S1 vs1 D c ρ vs (k+1) l m
 |_,_,_=>True
theorem DZ.get {X:Type}{P:Program}{S0:(Nat->Bool)->World->Prop}{S1:X->(Nat->Bool)->World->Prop}{vs1:X->List Value}{D:Nat->Nat->Bool}{c:Nat}{ρ:Operand->Value}{vs:List Value}:∀{k:Nat} {l:List Oper} {m:List Value} (i:Nat) (o:Oper) (v:Value),DZ P S0 S1 vs1 D c ρ vs k l m->l[i]? =some o->m[i]? =some v->
 D (k+i) c=false->∀dn:Nat->Bool,dn (k+i)=false->(∀j,D (k+i) j=true->dn j=true)->(∀j,D j (k+i)=true->dn j=false)->if k+i=c then iB vs o=true/\∀w,S0 dn w->mV P (λv w=>∃x,v=(vs1 x).getD (k+i) undef/\S1 x (λj=>dn j||j==(k+i)) w) ((execOp ρ o).run P w)else YF P (S0 dn) (S0 (λj=>dn j||j==(k+i))) ρ vs o v
 |_,[],_,i,o,v,_,h,_=>by simp at h
 |_,_::_,[],i,o,v,_,_,h=>by simp at h
 |k,_::_,_::_,0,o,v,h,h1,h2=>by
  simp at h1 h2
  subst h1;subst h2
  exact h.1
 |k,_::_,_::_,i+1,o,v,h,h1,h2=>by
  have:=DZ.get (k:=k+1) i o v h.2 (by simpa using h1) (by simpa using h2)
  rw[show k+1+i=k+(i+1)from by omega]at this
  exact this
theorem uy {X:Type}{id:Nat}{a:Act}{w:World}(S0:(Nat->Bool)->World->Prop)(S1:X->(Nat->Bool)->World->Prop)(D:Nat->Nat->Bool)(hD:∀i o,ops[i]? =some o->∀j,D i j=true->∃e∈o.after,Region.binds .any e=true/\(e.on=j\/D e.on j=true))(c n:Nat)(hc:c<n)(hDc:D c c=false)(vs0:List Value)(vs1:X->List Value)(hvl0:vs0.length=n)(hvl1:∀x,(vs1 x).length=n)(hsz:ops.size=n)
 (hvx:∀x i,i≠c->D i c=false->(vs1 x).getD i undef=vs0.getD i undef) (hm:P.follows .mixedOrders=true) (hd:eU ops=true) (hdw:dJ ops=true) (hs:Region.noSelect ops=true) (hb:bZ ops a.tmps.size=true) (hS:S0 (λ_=>false) w.drew)
 (hY0:∀ρ:Operand->Value,cO ρ (ops.toList.take n) vs0->(∀t:Nat,(∀o:Oper,o∈ops.toList->o.dst≠some t)->ρ (.tmp t)=a.eval (.tmp t))->(∀v,ρ (.const v)=v)->(∀f,ρ (.func f)=.func (.func f) #[] #[])->DZ P S0 S1 vs1 D c ρ vs0 0 (ops.toList.take n) vs0)
 (hY1:∀x,∀ρ:Operand->Value,cO ρ (ops.toList.take n) (vs1 x)->(∀t:Nat,(∀o:Oper,o∈ops.toList->o.dst≠some t)->ρ (.tmp t)=a.eval (.tmp t))->(∀v,ρ (.const v)=v)->(∀f,ρ (.func f)=.func (.func f) #[] #[])->q9 P (S1 x) D ρ (vs1 x) 0 (ops.toList.take n) (vs1 x))
 (hend:∀(x:X) (b:Act) (w':World),S1 x (λj=>decide (j<n)) w'->Kept ops a b->cO b.eval (ops.toList.take n) (vs1 x)->Q .normal b w'):
 (Code.region id ops true).wp P Q a w:=by
 obtain⟨acts0,h0,hA0,hD0,hK0,hk0⟩:=xg (ops:=ops) P (a:=a) n vs0 hvl0 hsz hd hs hb
 have hex:=λx=>xg (ops:=ops) P (a:=a) n (vs1 x) (hvl1 x) hsz hd hs hb
 obtain⟨acts1,h1⟩:=Classical.axiomOfChoice hex
 have ev:∀(b:Act),Kept ops a b->∀t:Nat,(∀o:Oper,o∈ops.toList->o.dst≠some t)->b.eval (.tmp t)=a.eval (.tmp t):=λb hK t h=>by
  show b.tmps.getD t undef=a.tmps.getD t undef
  rw[Array.getD_eq_getD_getElem?,Array.getD_eq_getD_getElem?,hK.rest t h]
 have y00:=hY0 _ hD0 (ev _ hK0) (λ_=>rfl) (λ_=>rfl)
 have y0:∀i o,ops[i]? =some o->D i c=false->∀dn:Nat->Bool,dn i=false->(∀j,D i j=true->dn j=true)->(∀j,D j i=true->dn j=false)->if i=c then iB vs0 o=true/\∀w,S0 dn w->mV P (λv w=>∃x,v=(vs1 x).getD i undef/\S1 x (λj=>dn j||j==i) w) ((execOp (acts0 n).eval o).run P w)else YF P (S0 dn) (S0 (λj=>dn j||j==i)) (acts0 n).eval vs0 o (vs0.getD i undef):=λi o ho hic dn d1 d2 d3=>by
  have hi:i<n:=by have:=(Array.getElem?_eq_some_iff.1 ho).1;omega
  have hv:vs0[i]? =some (vs0.getD i undef):=by
   rw[List.getD_eq_getElem?_getD,List.getElem?_eq_getElem (by rw[hvl0];exact hi)];rfl
  have:=y00.get i o _ (by rw[List.getElem?_take,if_pos hi];simpa using ho) hv (by simpa using hic) dn (by simpa using d1) (by simpa using d2) (by simpa using d3)
  simp only[Nat.zero_add]at this
  exact this
 have y1:=λx=>hY1 x _ (h1 x).2.2.1 (ev _ (h1 x).2.2.2.1) (λ_=>rfl) (λ_=>rfl)
 refine wp_region_any hm (Dm (S0:=S0) (S1:=S1) (D:=D) (acts0:=acts0) (acts1:=acts1) (vs0:=λi=>vs0.getD i undef) (vs1:=λx i=>(vs1 x).getD i undef) (a0:=a) c (by rw[hsz];exact hc) hdw hD hs h0 (λx=>(h1 x).1) hDc (λi o ho=>⟨λhic dn d1 d2 d3=>by
  have hy:=y0 i o ho hic dn d1 d2 d3
  by_cases he:i=c
  ·rw[if_pos he]at hy⊢
   exact(hk0 i o ho).2 _ _ hy.1 hy.2
  ·rw[if_neg he]at hy⊢
   exact(hk0 i o ho).1 _ _ hy,hA0 i o ho⟩)
  (λx i o ho=>⟨λdn d1 d2 d3=>((h1 x).2.2.2.2 i o ho).1 _ _ ?_,(h1 x).2.1 i o ho⟩) hvx (λx w' hw'=>?_) ops.size _ a _ ?_ (by simp) ?_ ?_ (λi' j' hj _=>?_) (λj oj hoj hj=>?_) ?_)
 ·have hi:i<n:=by have:=(Array.getElem?_eq_some_iff.1 ho).1;omega
  have hv:(vs1 x)[i]? =some ((vs1 x).getD i undef):=by
   rw[List.getD_eq_getElem?_getD,List.getElem?_eq_getElem (by rw[hvl1];exact hi)];rfl
  have:=(y1 x).get i o _ (by rw[List.getElem?_take,if_pos hi];simpa using ho) hv dn (by simpa using d1) (by simpa using d2) (by simpa using d3)
  simp only[Nat.zero_add]at this
  exact this
 ·rw[hsz]at hw'⊢
  exact hend x (acts1 x n) w' hw' (h1 x).2.2.2.1 (h1 x).2.2.1
 ·by_cases hk:c<ops.size
  ·simp[hk]
  ·simp[hk]
 ·refine⟨rfl,rfl,λi o d ho hL=>?_,λ_ _=>rfl⟩
  exfalso
  have hlt:i<ops.size:=(Array.getElem?_eq_some_iff.1 ho).1
  simp[hlt]at hL
 ·have e:(λj=>(Array.replicate ops.size false).getD j false)=(λ_=>false):=by
   funext j
   by_cases hk:j<ops.size
   ·simp[hk]
   ·simp[hk]
  rw[e]
  exact hS
 ·exfalso
  by_cases hk:i'<ops.size
  ·simp[hk]at hj
  ·simp[hk]at hj
 ·exfalso
  by_cases hk:j<ops.size
  ·simp[hk]at hj
  ·simp[hk]at hj
 ·have:=List.countP_le_length (p:=λi=>!(Array.replicate ops.size false).getD i true) (l:=List.range ops.size)
  simpa using this
end
end Go.Proofs.YtnjjeapcalkmaaaGreatDoor.Ord
namespace Go.Proofs.YtnjjeapcalkmaaaGreatDoor
open Go.RowKit
open Go.Proofs.YtnjjeapcalkmaaaGreatDoor.Ord
open Go.Proofs.YtnjjeapcalkmaaaGreatDoor.Ev (AV Mem Fr Sh Stop Qof aX cK bL fU mJ nC seqL iF)
theorem Qe:(Tryz.prog.info? 129).map (λi=>(i.zero,i.size,i.bytes))=some (some (.agg #[.int .i64 0,.string ⟨#[]⟩]),2,24):=by kernel_rfl
theorem I9 {t:ByteArray}(h:decide (0<=prV t)=true):Ps.prio t.data.toList=some (prV t):=by
 rw[Em]
 unfold prV at h⊢
 cases hp:prM t with
 |some j=>rfl
 |none=>rw[hp]at h;cases h
theorem Ud {t:ByteArray}(h:decide (0<=prV t)=false):Ps.prio t.data.toList=none:=by
 rw[Em]
 unfold prV at h
 cases hp:prM t with
 |some j=>
  rw[hp]at h
  have h2:¬(0<=(j:Int)):=of_decide_eq_false h
  omega
 |none=>rfl
theorem jH {t:ByteArray}{x:List UInt8}(h:(t.toList==x)=true):t.data.toList=x:=by rw[<-Lib.toList_data];exact beq_iff_eq.1 h
theorem ry {t:ByteArray}{x:List UInt8}(h:(t.toList==x)=false):t.data.toList≠x:=by rw[<-Lib.toList_data];exact beq_eq_false_iff_ne.1 h
def G6 (n:Nat):Ps.St->Nat
 | .ok a=>n+1-a
 | .error _=>0
theorem Rh {n pa:Nat}{st':Ps.St}(h:∀a,st'=.ok a->pa<a)(tX:pa<n):G6 n st'<G6 n (.ok pa):=by
 cases st' with
 |ok a=>have:=h a rfl;show n+1-a<n+1-pa;omega
 |error e=>show 0<n+1-pa;omega
def snL (s:Ps.Seen):List Bool:=[s.prio,s.part,s.hold,s.res,s.amount,s.day]
structure SnAt (W0 W:World)(r tb q sb:Nat)(sn:List Bool)(w:World):Prop where
 row:w.heap[sb]? =some (.cells (lI sn) 243 (0,0))
 six:sn.length=6
 hr:r<sb
 hq:q<sb
 ht:tb<sb
 hW:W.heap.size<=sb
 h0:W0.heap.size<=sb
def exL (W0 W:World)(r tb q sb:Nat)(sn:List Bool)(ks:List Ps.Link)(lv:Value)(w:World):Prop:=dR w (sb+1) lv ks/\SnAt W0 W r tb q sb sn w
section
variable {W0 W : World} {r tb cap q sb : Nat} {l : List Ps.Tok} {E : Ps.Env}
theorem j6:LF r q (exL W0 W r tb q sb):=λ⟨h1,h2⟩ hT=>by
 have k1:=h2.hr;have k2:=h2.hq
 exact⟨h1.keep hT (by omega) (by omega),(hT.block sb (Array.getElem?_eq_some_iff.1 h2.row).1 (by omega) (by omega)).trans h2.row,h2.six,k1,k2,h2.ht,h2.hW,h2.h0⟩
def onX (l:List Ps.Tok)(s:RS×(List Bool×Ps.Req))(f:FuncId)(vs:List AV):Option (Value×Option (RS×(List Bool×Ps.Req))):=
 if f=229 then(match vs,s.1 with
  |[.p 0 0,.p 2 0,.v (.int .i64 p)],.at0 a=>(match p,s.2.1[p.toNat]? with
   | .ofNat _,some b=>some (.bool (!b),some (.any (iq (dm l b a)),(s.2.1.set p.toNat true,s.2.2)))
   |_,_=>none)
  |_,_=>none)else none
abbrev onM (E:Ps.Env)(l:List Ps.Tok)(r q sb:Nat):Mem (RS×(List Bool×Ps.Req)):=pqM E l r q sb (onX l) noH
abbrev onS (W0 W:World)(r tb cap q sb:Nat)(l:List Ps.Tok):RS×(List Bool×Ps.Req)->World->Prop:=rdS l (pqB W0 W r tb cap q l (exL W0 W r tb q sb))
theorem Ik (hP:Pdr W0 l E):Ev.Ok Tryz.prog (onS W0 W r tb cap q sb l) (onM E l r q sb):=Hm hP j6 λs f vs v s' h=>by
 unfold onX at h
 split at h
 ·rename_i hf
  subst hf
  split at h
  ·rename_i p a hs
   split at h
   ·rename_i k b hb
    cases h
    refine⟨enters_of Tryz.func229 (by kernel_rfl) rfl,λhbd w hB=>?_⟩
    rw[hs]at hbd hB
    obtain⟨lv,hA,hl,hn⟩:=hB
    have hA2:bz W0 W r tb cap q l (.ok a) (aB s.2.2 lv) w:=hA
    have k1:=hn.hr;have k2:=hn.hq;have k3:=hn.ht;have k6:=hn.six
    have hb2:s.2.1[k]? =some b:=hb
    have hk:k<6:=by rw[<-k6];exact(List.getElem?_eq_some_iff.1 hb2).1
    simp only[List.map_cons,List.map_nil,(dH _).1,(dH _).2.2]
    refine(Rb hA2 hbd s.2.1 _ hn.row (by omega) (by omega) (by omega) hn.hW hn.h0 k hk b hb2).mono λe w' c=>⟨c.1,trivial,lv,?_,hl.keep c.2.2.2 (by omega) (by omega),c.2.2.1,(List.length_set ..).trans k6,k1,k2,k3,hn.hW,hn.h0⟩
    have:=c.2.1
    cases b
    ·exact this
    ·exact this
   ·cases h
  ·cases h
 ·cases h
def onU (j:Nat):List (Option AV):=[some (.p 0 0),some (.p 1 j),some (.p 2 0)]
def onK (j:Nat):List (Nat×AV):=[(0,.p 0 0),(1,.p 1 j),(4,.p 2 0)]
theorem fr3 {M:Mem (RS×(List Bool×Ps.Req))}{n j:Nat}{b:Act}(h:Stop M n [0,1,4] (onU j) b):Fr M n (onK j) b:=by
 obtain⟨f0,h⟩:=h.cons
 obtain⟨f1,h⟩:=h.cons
 obtain⟨f4,h⟩:=h.cons
 exact Ev.aH (Ev.aH (Ev.aH (Ev.ag h.1 h.2.1) f4) f1) f0
theorem Ja (hP:Pdr W0 l E){n j:Nat}{A B:Code}{I:Ps.St->Ps.Seen->Ps.Req->Prop}{Qn:Exit->Act->World->Prop}
 (hA:∀st x,(Ev.ex (onM E l r q sb) n A (onK j) (.any st,x)).shape [0,1,4]=.ite (Ps.dU l st) (.nx (onU j) (.any st,x)) (.out 0 (onU j) (.any st,x)))
 (hB:∀(pa:Nat) (s:Ps.Seen) (R:Ps.Req) (b:Act) (w:World) (Qr:Exit->Act->World->Prop),pa<l.length->I (.ok pa) s R->Fr (onM E l r q sb) n (onK j) b->onS W0 W r tb cap q sb l (.at0 pa,(snL s,R)) w->
  (∀(st':Ps.St) (s':Ps.Seen) (R':Ps.Req),I st' s' R'->(∀a,st'=.ok a->pa<a)->∀(b2:Act) (w2:World),Fr (onM E l r q sb) n (onK j) b2->onS W0 W r tb cap q sb l (.any st',(snL s',R')) w2->Qr .normal b2 w2)->B.wp Tryz.prog Qr b w)
 (hend:∀(st:Ps.St) (s:Ps.Seen) (R:Ps.Req) (b:Act) (w:World),Ps.dU l st=false->I st s R->b.defers=[]->pqB W0 W r tb cap q l (exL W0 W r tb q sb) st (snL s,R) w->Qn .normal b w)
 {st:Ps.St} {s:Ps.Seen} {R:Ps.Req} {a:Act} {w:World} (hI:I st s R) (hF:Fr (onM E l r q sb) n (onK j) a) (hS:pqB W0 W r tb cap q l (exL W0 W r tb q sb) st (snL s,R) w):
 (Code.block 0 (.loop (.seq A B))).wp Tryz.prog Qn a w:=by
 refine wp_block (wp_loop_ghost (λn' a w=>∃st s R,n'=G6 l.length st/\I st s R/\Fr (onM E l r q sb) n (onK j) a/\pqB W0 W r tb cap q l (exL W0 W r tb q sb) st (snL s,R) w) _ ⟨st,s,R,rfl,hI,hF,hS⟩ ?_)
 clear hI hF hS st s R a w
 rintro n' a w ⟨st,s,R,rfl,hI,hF,hS⟩
 refine wp_seq ?_
 refine Ev.iL (S:=onS W0 W r tb cap q sb l) (M:=onM E l r q sb) (n:=n) (K:=onK j) (s:=(.any st,(snL s,R))) [0,1,4] (.ite (Ps.dU l st) (.nx (onU j) (.any st,(snL s,R))) (.out 0 (onU j) (.any st,(snL s,R)))) (Ik hP) (eQ j6) (jr j6) (hA st (snL s,R)) hF ⟨trivial,hS⟩ ⟨λhc b w2 hst hS=>?_,λhc b w2 hst hS=>?_⟩
 ·cases st with
  |error e=>cases hc
  |ok pa=>
   have tX:pa<l.length:=by simpa[Ps.dU]using hc
   refine hB pa s R b w2 _ tX hI (fr3 hst) ⟨tX,hS.2⟩ λst' s' R' h1 h2 b2 w3 h3 h4=>?_
   exact⟨_,Rh h2 tX,st',s',R',rfl,h1,h3,h4.2⟩
 ·exact hend st s R b w2 hc hI hst.2.1 hS.2
noncomputable def kZ (lv:Value)(ty:Int)(s:ByteArray)(x:World):Value×World:=
 match (Builtin.append_ #[32,32] 32 #[lv,.slice (some ⟨x.heap.size,0,none⟩) 1 1]).run Tryz.prog (x.alloc (.cells #[.int .i64 ty,.string s] 129))with
 | .ok v W4=>(v,W4)
 |_=>(undef,x)
def qH (W0 W:World)(r tb cap q sb:Nat)(l:List Ps.Tok)(st:Ps.St)(sn:List Bool)(R:Ps.Req)(lv:Value)(w:World):Prop:=bz W0 W r tb cap q l st (aB R lv) w/\exL W0 W r tb q sb sn R.ins.links lv w
theorem qH.step {st st':Ps.St}{sn:List Bool}{R:Ps.Req}{lv:Value}{w w':World}(h:qH W0 W r tb cap q sb l st sn R lv w)(h1:gM W0 w' r tb cap l st')(h2:Tch r r w w'):qH W0 W r tb cap q sb l st' sn R lv w':=⟨h.1.step h1 h2,j6 h.2 h2.left⟩
theorem Re {st:Ps.St}{sn:List Bool}{R:Ps.Req}{ta:Option Addr}{tc:Nat}{x:World}(h:qH W0 W r tb cap q sb l st sn R (.slice ta R.ins.links.length tc) x)(hlen:R.ins.links.length<=1000000)(ty:Int)(s:ByteArray):
 ∃va vc W4,(Builtin.append_ #[32,32] 32 #[.slice ta R.ins.links.length tc,.slice (some ⟨x.heap.size,0,none⟩) 1 1]).run Tryz.prog (x.alloc (.cells #[.int .i64 ty,.string s] 129))=.ok (.slice va (R.ins.links.length+1) vc) W4/\
  kZ (.slice ta R.ins.links.length tc) ty s x=(.slice va (R.ins.links.length+1) vc,W4)/\W4.cell? ⟨q,18,none⟩=some (.slice ta R.ins.links.length tc)/\W4.frozen? ⟨q,18,none⟩=false/\
  qH W0 W r tb cap q sb l st sn {R with ins:={R.ins with links:=R.ins.links++[⟨ty,s⟩]} } (.slice va (R.ins.links.length+1) vc) (W4.setCell ⟨q,18,none⟩ (.slice va (R.ins.links.length+1) vc)):=by
 obtain⟨h,hl,hn⟩:=h
 have hr:=hn.hr;have hq:=hn.hq;have htb:=hn.ht;have hW:=hn.hW;have h0:=hn.h0
 have hB:sb<x.heap.size:=(Array.getElem?_eq_some_iff.1 hn.row).1
 obtain⟨i0,hii,hz0,hz1,hz2⟩:=info_parts Qe
 have hrow3:=heap_alloc_new x (.cells #[.int .i64 ty,.string s] 129)
 have pV:=(Below.refl x.heap.size x).alloc (Nat.le_refl _) (.cells #[.int .i64 ty,.string s] 129)
 have hl3:(x.alloc (.cells #[.int .i64 ty,.string s] 129)).ownsRow (sb+1) 129 2 (.slice ta R.ins.links.length tc) R.ins.links.length (gK R.ins.links):=gF hl (λg hg=>pV.block g (hl.lt g hg).2)
 obtain⟨v9,W4,Ql,Li,yY,hat9⟩:=pF (w:=x.alloc (.cells #[.int .i64 ty,.string s] 129)) 32 32 129 i0 (.agg #[.int .i64 0,.string ⟨#[]⟩]) 2 24 Tryz.underlying32 hii hz0 hz1 hz2 rfl (by decide) (sb+1) (.slice ta R.ins.links.length tc) R.ins.links.length (gK R.ins.links)
  hl3 (some ⟨x.heap.size,0,none⟩) 1 1 [.int .i64 ty,.string s] rfl (λad ha=>by cases ha;exact World.news_of_block hrow3) (λe=>by cases e) (by intro u hu;simp at hu;rcases hu with rfl|rfl<;>rfl) (by unfold maxLen;omega) (by omega) (by have:=pV.size;omega)
 obtain⟨va,vc,rfl⟩:=iN Li
 have hblk:∀j,j<sb+1->W4.heap[j]? =x.heap[j]?:=λj hj=>by
  rw[<-pV.block j (by omega)]
  exact yY.block j (by have:=pV.size;omega) (λe=>by have:=(hl.lt j e.symm).1;omega)
 obtain⟨hP,hqr,hT,hq1,hq2,hWq⟩:=h
 have hq9:W4.heap[q]? =some (.cells (aB R (.slice ta R.ins.links.length tc)) 37 (0,0)):=(hblk q (by omega)).trans hqr
 refine⟨va,vc,W4,Ql,by unfold kZ;rw[Ql],by rw[cell_of_row _ _ _ _ _ _ hq9];rfl,aV 18 hq9,?_⟩
 have hT9:Tch r q W W4:=by
  refine⟨yY.os.trans (pV.os.trans hT.os),yY.tape.trans (pV.tape.trans hT.tape),yY.output.trans (pV.output.trans hT.output),Nat.le_trans hT.size (Nat.le_trans pV.size yY.size),λj hj h1 h2=>?_⟩
  rw[hblk j (by omega)]
  exact hT.block j hj h1 h2
 have hb9:Below W0.heap.size W0 W4:=by
  refine⟨yY.os.trans (pV.os.trans hP.base.os),yY.tape.trans (pV.tape.trans hP.base.tape),yY.output.trans (pV.output.trans hP.base.output),Nat.le_trans hP.base.size (Nat.le_trans pV.size yY.size),λj hj=>?_⟩
  rw[hblk j (by omega)]
  exact hP.base.block j hj
 have hP9:gM W0 W4 r tb cap l st:=by
  refine⟨?_,hb9,hP.r0⟩
  obtain⟨a,o,e,hr1,ht,hne,rest⟩:=hP.rd
  refine⟨a,o,e,(hblk r (by omega)).trans hr1,λk y hy=>?_,hne,rest⟩
  obtain⟨e0,e1,e2⟩:=ht k y hy
  have hb:=hblk tb (by omega)
  exact⟨(World.cell?_of_block (a:=⟨tb,_,none⟩) hb).trans e0,(World.cell?_of_block (a:=⟨tb,_,none⟩) hb).trans e1,(World.cell?_of_block (a:=⟨tb,_,none⟩) hb).trans e2⟩
 have hR9:bz W0 W r tb cap q l st (aB R (.slice ta R.ins.links.length tc)) W4:=⟨hP9,hq9,hT9,hq1,hq2,hWq⟩
 have hTs:=(Tch.refl q q W4).setCell 18 (.slice va (R.ins.links.length+1) vc)
 have hsz:x.heap.size<=W4.heap.size:=Nat.le_trans pV.size yY.size
 refine⟨hR9.store 18 (.slice va (R.ins.links.length+1) vc),?_,(hTs.block sb (by omega) (by omega) (by omega)).trans ((hblk sb (by omega)).trans hn.row),hn.six,hr,hq,htb,hW,h0⟩
 unfold dR
 show World.ownsRow _ (sb+1) _ 2 _ (R.ins.links++([⟨ty,s⟩]:List Ps.Link)).length (gK (R.ins.links++([⟨ty,s⟩]:List Ps.Link)))
 rw[qz,List.length_append]
 exact gF Li λg hg=>by have:=(Li.lt g hg).1;exact hTs.block g (Li.lt g hg).2 (by omega) (by omega)
end
noncomputable def optC:Code:=Tryz.f182.body.getD .skip
noncomputable def opD:Code:=nC (fU (aX cK optC).1)
theorem Oy (ty:Int)(ρ:Operand->Value)(s:ByteArray){y z:Operand}(h2:ρ y=.string s)(h3:ρ z=.int .i64 ty)(w:World):(Instr.build 129 ((#[(0,z),(1,y)]:Array (Nat×Operand)).map λ(i,x)=>(i,ρ x))).run Tryz.prog w=.ok (.agg #[.int .i64 ty,.string s]) w:=by
 simp only[List.map_toArray,List.map_cons,List.map_nil,h2,h3]
 go_simp
theorem UM (w:World)(p:Addr)(a:Option Addr)(n c:Nat)(h:w.cell? p=some (.slice a n c)):(Instr.loadAt 32 (.pointer (some p))).run Tryz.prog w=.ok (.slice a n c) w:=by go_simp
section
variable {W0 W : World} {r tb cap q sb : Nat} {l : List Ps.Tok} {E : Ps.Env}
theorem Rp (ty:Bool)(hP:Pdr W0 l E){st:Ps.St}{sn:List Bool}{R:Ps.Req}{lv:Value}{a:Act}{w:World}{Q:Exit->Act->World->Prop}(HA:qH W0 W r tb cap q sb l st sn R lv w)(hlen:R.ins.links.length<=1000000)(hsz:a.tmps.size=92)(hf0:a.tmps[0]? =some (.pointer (some ⟨r,0,none⟩)))(hf1:a.tmps[1]? =some (.pointer (some ⟨q,3,none⟩)))
 (hend:∀(b:Act) (w':World),Kept (mJ (aX (bL (if ty then 21 else 18)) opD).1) a b->pqB W0 W r tb cap q l (exL W0 W r tb q sb) (Ps.step (Ps.ref E l) ⟨#[]⟩ st).2 (sn,{R with ins:={R.ins with links:=R.ins.links++[⟨if ty then 1 else 0,(Ps.step (Ps.ref E l) ⟨#[]⟩ st).1⟩]} }) w'->Q .normal b w'):
 (Code.region (if ty then 21 else 18) (mJ (aX (bL (if ty then 21 else 18)) opD).1) true).wp Tryz.prog Q a w:=by
 obtain⟨idv,hidv⟩:∃idv,idv=(Ps.step (Ps.ref E l) ⟨#[]⟩ st).1:=⟨_,rfl⟩
 obtain⟨ids,hids⟩:∃ids,ids=(Ps.step (Ps.ref E l) ⟨#[]⟩ st).2:=⟨_,rfl⟩
 obtain⟨ta,tc,rfl⟩:=iN HA.2.1
 obtain⟨wS,hwS⟩:∃wS,wS=w.drew:=⟨_,rfl⟩
 have HS:qH W0 W r tb cap q sb l st sn R (.slice ta R.ins.links.length tc) wS:=by
  have hT:Tch r r w w.drew:=Tch.drewN _ _ _ 1
  rw[hwS]
  exact HA.step (HA.1.1.next (HA.1.1.rd.drewN 1) hT) hT
 have HC:Calls Tryz.prog 53 #[.pointer (some ⟨r,0,none⟩)] wS λe w'=>e=.returned (.string idv)/\qH W0 W r tb cap q sb l ids sn R (.slice ta R.ins.links.length tc) w':=by
  rw[hidv,hids]
  exact(hP.ref wS r tb cap _ HS.1.1).mono λe w' k=>⟨k.1,HS.step k.2.1 k.2.2⟩
 obtain⟨tI,htI⟩:∃tI:Int,tI=if ty=true then 1 else 0:=⟨_,rfl⟩
 have HL:∀x,qH W0 W r tb cap q sb l ids sn R (.slice ta R.ins.links.length tc) x->_:=λx hx=>Re hx hlen tI idv
 rw[<-hidv,<-hids,<-htI]at hend
 have HTI:=Lib.hid htI
 clear htI
 have hcell:∀{ids:Ps.St} {w:World},qH W0 W r tb cap q sb l ids sn R (.slice ta R.ins.links.length tc) w->w.cell? ⟨q,18,none⟩=some (.slice ta R.ins.links.length tc):=λh=>by rw[cell_of_row _ _ _ _ _ _ h.1.2.1];rfl
 have hcel2:∀{w:World} {o:Obj},qH W0 W r tb cap q sb l ids sn R (.slice ta R.ins.links.length tc) w->(w.alloc o).cell? ⟨q,18,none⟩=some (.slice ta R.ins.links.length tc):=λ{w o} h=>by
  have hb:Below w.heap.size w (w.alloc o):=(Below.refl _ _).alloc (Nat.le_refl _) o
  exact hcell (h.step (h.1.1.below hb) (Tch.of_below hb))
 clear HA hids hidv
 have kp:∀(dn:Nat->Bool) (j:Nat) (x w:World),j≠6->j≠8->j≠9->j≠12->(dn 6=true/\qH W0 W r tb cap q sb l ids sn R (.slice ta R.ins.links.length tc) x/\w=if dn 12=true then(kZ (.slice ta R.ins.links.length tc) tI idv x).2.setCell ⟨q,18,none⟩ (kZ (.slice ta R.ins.links.length tc) tI idv x).1 else if dn 9=true then(kZ (.slice ta R.ins.links.length tc) tI idv x).2 else if dn 8=true then x.alloc (.cells #[.int .i64 tI,.string idv] 129)else x)->
  ((dn 6||6==j)=true/\qH W0 W r tb cap q sb l ids sn R (.slice ta R.ins.links.length tc) x/\w=if (dn 12||12==j)=true then(kZ (.slice ta R.ins.links.length tc) tI idv x).2.setCell ⟨q,18,none⟩ (kZ (.slice ta R.ins.links.length tc) tI idv x).1 else if (dn 9||9==j)=true then(kZ (.slice ta R.ins.links.length tc) tI idv x).2 else if (dn 8||8==j)=true then x.alloc (.cells #[.int .i64 tI,.string idv] 129)else x):=λdn j x w h6 h8 h9 h12 h=>by
  rw[show(6==j)=false from by simp;omega,show(8==j)=false from by simp;omega,show(9==j)=false from by simp;omega,show(12==j)=false from by simp;omega]
  simpa using h
 cases ty
 all_goals
  refine uy (X:=World) (λ_ w=>w=wS) (λx dn w=>dn 6=true/\qH W0 W r tb cap q sb l ids sn R (.slice ta R.ins.links.length tc) x/\w=if dn 12=true then(kZ (.slice ta R.ins.links.length tc) tI idv x).2.setCell ⟨q,18,none⟩ (kZ (.slice ta R.ins.links.length tc) tI idv x).1 else if dn 9=true then(kZ (.slice ta R.ins.links.length tc) tI idv x).2 else if dn 8=true then x.alloc (.cells #[.int .i64 tI,.string idv] 129)else x) (Ord.inD [(2,1),(3,1),(3,2),(4,1),(4,2),(4,3),(6,5),(7,5),(7,6),(8,5),(8,6),(8,7),(9,1),(9,2),(9,3),(9,4),(9,5),(9,6),(9,7),(9,8),(10,0),(10,1),(10,2),(10,3),(10,4),(10,5),(10,6),(10,7),(10,8),(10,9),(11,0),(11,1),(11,2),(11,3),(11,4),(11,5),(11,6),(11,7),(11,8),(11,9),(11,10),(12,0),(12,1),(12,2),(12,3),(12,4),(12,5),(12,6),(12,7),(12,8),(12,9),(12,10),(12,11)]) (Ord.wE (by kernel_rfl)) 6 13 (by decide) rfl [.pointer (some ⟨q,3,none⟩),.pointer (some ⟨q,3,none⟩),.pointer (some ⟨q,3,none⟩),.pointer (some ⟨q,18,none⟩),.slice ta R.ins.links.length tc,.pointer (some ⟨r,0,none⟩),.string idv,undef,undef,undef,undef,undef,undef] (λx=>[.pointer (some ⟨q,3,none⟩),.pointer (some ⟨q,3,none⟩),.pointer (some ⟨q,3,none⟩),.pointer (some ⟨q,18,none⟩),.slice ta R.ins.links.length tc,.pointer (some ⟨r,0,none⟩),.string idv,.agg #[.int .i64 tI,.string idv],.slice (some ⟨x.heap.size,0,none⟩) 1 1,(kZ (.slice ta R.ins.links.length tc) tI idv x).1,.pointer (some ⟨q,3,none⟩),.pointer (some ⟨q,18,none⟩),undef]) rfl (λ_=>rfl) (by kernel_rfl) ?_ rfl (by kernel_rfl) (by kernel_rfl) (by kernel_rfl) (by rw[hsz];kernel_rfl) hwS.symm ?_ ?_ ?_
  ·intro x i hic h
   rcases i with _|_|_|_|_|_|_|_|_|_|_|_|_|i
   all_goals first|rfl|(have h2:true=false:=h;cases h2)
  ·intro ρ hD hrest hco hfu
   have e0:ρ (.tmp 0)=.pointer (some ⟨r,0,none⟩):=(hrest 0 (by decide +kernel)).trans (eval_at hf0)
   have e1:ρ (.tmp 1)=.pointer (some ⟨q,3,none⟩):=(hrest 1 (by decide +kernel)).trans (eval_at hf1)
   obtain⟨k0,k1,k2,k3,k4,k5,k6,-⟩:=hD
   have k5':ρ (.tmp _)=.pointer (some ⟨r,0,none⟩):=k5
   refine⟨λ_ dn hn hd he=>aN (B:=λ_=>True) (λw h=>h) (λ_ _=>trivial) (λw0=>bT rfl (jR rfl e1)),?_⟩
   refine⟨λ_ dn hn hd he=>aN (B:=λ_=>True) (λw h=>h) (λ_ _=>trivial) (λw0=>bT rfl (jR rfl e1)),?_⟩
   refine⟨λ_ dn hn hd he=>aN (B:=λ_=>True) (λw h=>h) (λ_ _=>trivial) (λw0=>bT rfl (yJ rfl k1)),?_⟩
   refine⟨λ_ dn hn hd he=>aN (B:=λ_=>True) (λw h=>h) (λ_ _=>trivial) (λw0=>bT rfl (eH rfl k2 (λw=>by go_simp))),?_⟩
   refine⟨λ_ dn hn hd he=>aN (B:=λw=>w=wS) (λw h=>h) (λw h=>h) (λw0=>bT rfl (fA rfl k3 (λw hS=>UM w _ _ _ _ (by rw[hS.2];exact hcell HS)))),?_⟩
   refine⟨λ_ dn hn hd he=>aN (B:=λ_=>True) (λw h=>h) (λ_ _=>trivial) (λw0=>bT rfl (jR rfl e0)),?_⟩
   refine⟨λ_ dn hn hd he=>⟨rfl,λw hS=>?_⟩,?_⟩
   ·obtain rfl:w=wS:=hS
    have h8:=he 8 rfl
    have h9:=he 9 rfl
    have h12:=he 12 rfl
    unfold execOp
    have hf:=hfu 53
    simp[resolve,invoke,hf,k5',Deferred.ofValue,enters_of Tryz.func53 (by kernel_rfl) rfl]
    exact HC.mono λe w' h=>by first|exact⟨_,h.1,rfl,h.2⟩|(refine⟨_,h.1,rfl,?_⟩;simp[h8,h9,h12];exact h.2)
   iterate 6 refine⟨λhic=>(by have h2:true=false:=hic;cases h2),?_⟩
   exact trivial
  ·intro x ρ hD hrest hco hfu
   have e0:ρ (.tmp 0)=.pointer (some ⟨r,0,none⟩):=(hrest 0 (by decide +kernel)).trans (eval_at hf0)
   have e1:ρ (.tmp 1)=.pointer (some ⟨q,3,none⟩):=(hrest 1 (by decide +kernel)).trans (eval_at hf1)
   obtain⟨k0,k1,k2,k3,k4,k5,k6,k7,k8,k9,k10,k11,-⟩:=hD
   have k4':ρ (.tmp _)=.slice ta R.ins.links.length tc:=k4
   have k6':ρ (.tmp _)=.string idv:=k6
   have k7':ρ (.tmp _)=.agg #[.int .i64 tI,.string idv]:=k7
   have k8':ρ (.tmp _)=.slice (some ⟨x.heap.size,0,none⟩) 1 1:=k8
   have k9':ρ (.tmp _)=(kZ (.slice ta R.ins.links.length tc) tI idv x).1:=k9
   have k11':ρ (.tmp _)=.pointer (some ⟨q,18,none⟩):=k11
   refine⟨λdn hn hd he=>aN (B:=λ_=>True) (λw h=>kp dn 0 x w (by decide) (by decide) (by decide) (by decide) h) (λ_ _=>trivial) (λw0=>bT rfl (jR rfl e1)),?_⟩
   refine⟨λdn hn hd he=>aN (B:=λ_=>True) (λw h=>kp dn 1 x w (by decide) (by decide) (by decide) (by decide) h) (λ_ _=>trivial) (λw0=>bT rfl (jR rfl e1)),?_⟩
   refine⟨λdn hn hd he=>aN (B:=λ_=>True) (λw h=>kp dn 2 x w (by decide) (by decide) (by decide) (by decide) h) (λ_ _=>trivial) (λw0=>bT rfl (yJ rfl k1)),?_⟩
   refine⟨λdn hn hd he=>aN (B:=λ_=>True) (λw h=>kp dn 3 x w (by decide) (by decide) (by decide) (by decide) h) (λ_ _=>trivial) (λw0=>bT rfl (eH rfl k2 (λw=>by go_simp))),?_⟩
   refine⟨λdn hn hd he=>aN (B:=λw=>w.cell? ⟨q,18,none⟩=some (.slice ta R.ins.links.length tc)) (λw h=>kp dn 4 x w (by decide) (by decide) (by decide) (by decide) h) (λw h=>by
    obtain⟨h1,h2,h3⟩:=h
    have h9:=he 9 rfl
    have h12:=he 12 rfl
    simp only[h9,h12,Bool.false_eq_true,if_false]at h3
    rw[h3]
    split
    ·exact hcel2 h2
    ·exact hcell h2) (λw0=>bT rfl (fA rfl k3 (λw hS=>UM w _ _ _ _ hS.2))),?_⟩
   refine⟨λdn hn hd he=>aN (B:=λ_=>True) (λw h=>kp dn 5 x w (by decide) (by decide) (by decide) (by decide) h) (λ_ _=>trivial) (λw0=>bT rfl (jR rfl e0)),?_⟩
   refine⟨λdn hn hd he=>⟨λ_ w hS=>(by rw[hS.1]at hn;cases hn),λh=>by have h2:true=false:=h;cases h2⟩,?_⟩
   refine⟨λdn hn hd he=>aN (B:=λ_=>True) (λw h=>kp dn 7 x w (by decide) (by decide) (by decide) (by decide) h) (λ_ _=>trivial) (λw0=>bT rfl (Bq rfl (λw=>by rw[HTI.out];exact Oy _ ρ _ k6' (hco _) w))),?_⟩
   refine⟨λdn hn hd he=>⟨λ_ w hS=>?_,λh=>by have h2:true=false:=h;cases h2⟩,?_⟩
   ·obtain⟨hS1,hS2,hS⟩:=hS
    have h9:=he 9 rfl;have h12:=he 12 rfl
    simp only[hn,h9,h12,Bool.false_eq_true,if_false]at hS
    subst hS
    unfold execOp
    simp only[k7']
    go_simp
    first|exact⟨rfl,by simp[hS1],hS2,by simp[h9,h12]⟩|exact⟨by simp[hS1],hS2,by simp[h9,h12]⟩|exact⟨rfl,rfl⟩
   refine⟨λdn hn hd he=>⟨λ_ w hS=>?_,λh=>by have h2:true=false:=h;cases h2⟩,?_⟩
   ·obtain⟨hS1,hS2,hS⟩:=hS
    have h8:=hd 8 rfl;have h12:=he 12 rfl
    simp only[hn,h8,h12,Bool.false_eq_true,if_false,if_true]at hS
    subst hS
    obtain⟨va,vc,W4,q1,q2,q3,q4,q5⟩:=HL x hS2
    unfold execOp
    simp only[resolve,invoke,builtin,Sem.run_bind,Sem.run_pure,Result.andThen_ok,List.map_toArray,List.map_cons,List.map_nil,k4',k8',q1]
    exact⟨by rw[q2],by simp[hS1],hS2,by simp[h12,q2]⟩
   refine⟨λdn hn hd he=>aN (B:=λ_=>True) (λw h=>kp dn 10 x w (by decide) (by decide) (by decide) (by decide) h) (λ_ _=>trivial) (λw0=>bT rfl (yJ rfl k0)),?_⟩
   refine⟨λdn hn hd he=>aN (B:=λ_=>True) (λw h=>kp dn 11 x w (by decide) (by decide) (by decide) (by decide) h) (λ_ _=>trivial) (λw0=>bT rfl (eH rfl k10 (λw=>by go_simp))),?_⟩
   refine⟨λdn hn hd he=>⟨λ_ w hS=>?_,λh=>by have h2:true=false:=h;cases h2⟩,?_⟩
   ·obtain⟨hS1,hS2,hS⟩:=hS
    have h9:=hd 9 rfl
    simp only[hn,h9,Bool.false_eq_true,if_false,if_true]at hS
    obtain⟨va,vc,W4,q1,q2,q3,q4,q5⟩:=HL x hS2
    rw[q2]at hS
    subst hS
    rw[q2]at k9'
    unfold execOp
    simp only[k11',k9']
    go_simp
    first|exact⟨rfl,by simp[hS1],hS2,by simp[q2]⟩|exact⟨by simp[hS1],hS2,by simp[q2]⟩|exact⟨rfl,rfl⟩
   exact trivial
  intro x b w8 hS hK hD
  obtain⟨-,hx,hw⟩:=hS
  obtain⟨va,vc,W4,q1,q2,q3,q4,q5⟩:=HL x hx
  have hw8:w8=W4.setCell ⟨q,18,none⟩ (.slice va (R.ins.links.length+1) vc):=by rw[hw];simp[q2]
  rw[<-hw8]at q5
  exact hend b w8 hK ⟨_,q5⟩
end
section
variable {W0 W : World} {r tb cap q : Nat} {l : List Ps.Tok} {E : Ps.Env}
theorem PT {st:Ps.St}{Q:Ps.Req}{w:World}(h:bz W0 W r tb cap q l st (aB Q fI) w)(hk:Q.ins.links=[]):
 pqB W0 W r tb cap q l (exL W0 W r tb q w.heap.size) st (snL {},Q) (w.alloc (.cells #[.bool false,.bool false,.bool false,.bool false,.bool false,.bool false] 243)):=by
 have hlt:=h.1.rd.lt
 have hq0:=(Array.getElem?_eq_some_iff.1 h.2.1).1
 have hb:=(Below.refl w.heap.size w).alloc (Nat.le_refl _) (.cells #[.bool false,.bool false,.bool false,.bool false,.bool false,.bool false] 243)
 refine⟨fI,h.step (h.1.below hb) (Tch.of_below hb),?_,aC w _,rfl,by omega,hq0,by omega,h.2.2.1.size,h.1.base.size⟩
 show dR _ _ fI Q.ins.links
 rw[hk];exact dR.nil _ _
theorem Gy {sb:Nat}{st:Ps.St}{sn:List Bool}{Q:Ps.Req}{w:World}(Bp:r<W.heap.size)(y8:q<W.heap.size)(h:pqB W0 W r tb cap q l (exL W0 W r tb q sb) st (sn,Q) w):fu W0 W r tb cap q l W.heap.size st Q w:=by
 obtain⟨lv,h1,h2,h3⟩:=h
 have:=h3.hW
 exact⟨Bp,y8,lv,h1,dA h2 (by omega)⟩
theorem F4 (hP:Pdr W0 l E)(Bp:r<W.heap.size)(y8:q<W.heap.size):IM W0 W r tb cap q l E:=by
 intro st0 Q w0 h hk
 obtain⟨sb,hsb⟩:∃sb,sb=w0.heap.size:=⟨_,rfl⟩
 have hm:l.length<=1000000:=by obtain⟨_,_,_,_,_,_,_,_,hm,_⟩:=h.1.rd;exact hm
 have H0:=PT h hk
 rw[<-hsb]at H0
 clear h
 go_enter Tryz.func182,Tryz.ntmps182
 refine wp_seq ?_
 refine wp_region_lit ?_
 refine wpList_plain rfl (λK hK=>?_)
 go_simp
 refine hK _ _ ?_
 clear hK K
 refine aT ?_
 obtain⟨W1,hW1⟩:∃W1,W1=w0.alloc (.cells #[.bool false,.bool false,.bool false,.bool false,.bool false,.bool false] 243):=⟨_,rfl⟩
 refine JJ (w':=W1) rfl hW1.symm λa ha hdf=>?_
 rw[<-hW1]at H0
 have hF:Fr (onM E l r q sb) 92 (onK 3) a:=Ev.aH (Ev.aH (Ev.aH (Ev.ag (by rw[ha];rfl) hdf) (by rw[ha,hsb,(dH 0).2.2];rfl)) (by rw[ha,(dH 3).2.1];rfl)) (by rw[ha];rfl)
 clear ha hdf hW1 hsb
 refine Ja hP (n:=92) (j:=3) (I:=λst s R=>∃i,R={Q with ins:=i}/\Ps.OpI E l Q.ins st0 st s i/\∀a,st=.ok a->i.links.length<=a) (λst x=>by kernel_rfl) ?_ ?_ ⟨Q.ins,rfl,Ps.OpI.start _ _ _ _,λa _=>by rw[hk];exact Nat.zero_le _⟩ hF H0
 rotate_left
 ·rintro st s R b w hend ⟨i,rfl,hI,-⟩ hd hB
  exact bodyPost_end (results_none rfl _ _ _) hd ⟨rfl,st,i,Gy Bp y8 hB,hI.res hend⟩
 rintro pa s R b w Qr tX ⟨i,rfl,HO,hln⟩ hF hS nx
 have hln:=hln pa rfl
 refine Ev.iL (M:=onM E l r q sb) (n:=92) (K:=onK 3) (s:=(.at0 pa,(snL s,{Q with ins:=i}))) [0,1,4]
  (.ite (decide (0<=prV (Ps.aU l pa))) (.ite (!s.prio) (.nx (onU 3) (.any (iq (dm l s.prio pa)),((snL s).set 0 true,{Q with ins:={i with priority:=prV (Ps.aU l pa)} }))) (.nx (onU 3) (.any (iq (dm l s.prio pa)),((snL s).set 0 true,{Q with ins:=i}))))
   (.ite ((Ps.aU l pa).toList==([112,97,114,116,105,97,108]:List UInt8)) (.ite (!s.part) (.nx (onU 3) (.any (Ps.step (Ps.quantity E l) 0 (iq (dm l s.part pa))).2,((snL s).set 1 true,{Q with ins:={i with partial_:=true,minLot:=(Ps.step (Ps.quantity E l) 0 (iq (dm l s.part pa))).1} }))) (.nx (onU 3) (.any (iq (dm l s.part pa)),((snL s).set 1 true,{Q with ins:=i}))))
   (.ite ((Ps.aU l pa).toList==([104,111,108,100]:List UInt8)) (.nx (onU 3) (.any (iq (dm l s.hold pa)),((snL s).set 2 true,{Q with ins:={i with hold:=!s.hold} })))
   (.ite ((Ps.aU l pa).toList==([114,101,115,101,114,118,101]:List UInt8)) (.nx (onU 3) (.any (iq (dm l s.res pa)),((snL s).set 3 true,{Q with ins:={i with reserve:=!s.res} })))
   (.ite ((Ps.aU l pa).toList==([119,105,116,104]:List UInt8)) (.go (aX (bL 18) opD) (onU 3) (.any (.ok (pa+1)),(snL s,{Q with ins:=i})))
   (.ite ((Ps.aU l pa).toList==([97,102,116,101,114]:List UInt8)) (.go (aX (bL 21) opD) (onU 3) (.any (.ok (pa+1)),(snL s,{Q with ins:=i})))
    (.nx (onU 3) (.any (Ps.qO l 30 (.ok pa)),(snL s,{Q with ins:=i})))))))))
  (Ik hP) (eQ j6) (jr j6) (by kernel_rfl) hF hS ?_
 have fin:∀(st':Ps.St) (s':Ps.Seen) (i':Ps.Ins),Ps.OpI E l Q.ins st0 st' s' i'->i'.links=i.links->(∀a,st'=.ok a->pa<a)->∀(b:Act) (w2:World),Stop (onM E l r q sb) 92 [0,1,4] (onU 3) b->onS W0 W r tb cap q sb l (.any st',(snL s',{Q with ins:=i'})) w2->Qr .normal b w2:=λst' s' i' h1 h2 h3 b w2 hst hS=>
  nx st' s' _ ⟨i',rfl,h1,λa ha=>by rw[h2];have:=h3 a ha;omega⟩ h3 b w2 (fr3 hst) hS
 have lnk:∀(ty:Bool),(((Ps.aU l pa).data.toList=Ps.fF/\(if ty=true then(1:Int)else 0)=0)\/((Ps.aU l pa).data.toList=Ps.dC/\(if ty=true then(1:Int)else 0)=1))->∀(b:Act) (w2:World),Stop (onM E l r q sb) 92 [0,1,4] (onU 3) b->onS W0 W r tb cap q sb l (.any (.ok (pa+1)),(snL s,{Q with ins:=i})) w2->∀Q2:Exit->Act->World->Prop,(∀b w,Qr .normal b w->Q2 .normal b w)->
  (Code.region (if ty then 21 else 18) (mJ (aX (bL (if ty then 21 else 18)) opD).1) true).wp Tryz.prog Q2 b w2:=λty hp b w2 hst hS Q2 hQ=>by
  obtain⟨f0,hst⟩:=hst.cons
  obtain⟨f1,hst⟩:=hst.cons
  obtain⟨f4,hst⟩:=hst.cons
  obtain⟨lv,hA⟩:=hS.2
  rw[(dH _).1]at f0
  rw[(dH _).2.1]at f1
  refine Rp ty hP (lv:=lv) (R:={Q with ins:=i}) hA (by show i.links.length<=1000000;omega) hst.1 f0 f1 λb2 w3 hK hB=>hQ _ _ (nx _ s _ ⟨_,rfl,HO.link tX _ hp,λa ha=>?_⟩ (λa ha=>by have:=Cs a ha;omega) b2 w3 (Ev.aH (Ev.aH (Ev.aH (Ev.ag (hK.size.trans hst.1) (hK.defers.trans hst.2.1)) ((hK.rest 4 ?_).trans f4)) ((hK.rest 1 ?_).trans (by rw[f1,(dH _).2.1]))) ((hK.rest 0 ?_).trans (by rw[f0,(dH _).1]))) ⟨trivial,hB⟩)
  ·have:=Cs a ha
   show(i.links++([_]:List Ps.Link)).length<=a
   rw[List.length_append]
   show i.links.length+1<=a
   omega
  all_goals (cases ty<;>decide +kernel)
 refine⟨λc=>⟨λd=>fin _ {s with prio:=true} _ ?_ rfl (gy s.prio),λd=>fin _ {s with prio:=true} _ ?_ rfl (gy s.prio)⟩,λn0=>⟨λc=>⟨λd=>fin _ {s with part:=true} _ ?_ rfl (DI s.part),λd=>fin _ {s with part:=true} _ ?_ rfl (gy s.part)⟩,λn1=>⟨λc=>fin _ {s with hold:=true} _ ?_ rfl (gy s.hold),λn2=>⟨λc=>fin _ {s with res:=true} _ ?_ rfl (gy s.res),λn3=>⟨λc b w2 hst hS=>?_,λn4=>⟨λc b w2 hst hS=>?_,λn5=>fin _ s _ ?_ rfl (λa ha=>by cases ha)⟩⟩⟩⟩⟩⟩
 ·have hs:s.prio=false:=by simpa using d
  rw[hs];exact HO.prioOk tX (I9 c) hs
 ·have hs:s.prio=true:=by simpa using d
  rw[hs];exact HO.prioDup tX (I9 c) hs _ _
 ·have hs:s.part=false:=by simpa using d
  rw[hs];exact HO.partOk tX (jH c) hs
 ·have hs:s.part=true:=by simpa using d
  rw[hs];exact HO.partDup tX (jH c) hs _ _
 ·cases hs:s.hold with
  |true=>exact HO.holdDup tX (jH c) hs _ _
  |false=>exact HO.holdOk tX (jH c) hs
 ·cases hs:s.res with
  |true=>exact HO.resDup tX (jH c) hs _ _
  |false=>exact HO.resOk tX (jH c) hs
 ·have e1:(aX (bL 18) opD).1=.region 18 (mJ (aX (bL 18) opD).1) true:=by kernel_rfl
  have e2:(aX (bL 18) opD).2=[.bl 2,.bl 1]:=by kernel_rfl
  rw[e1,e2]
  exact lnk false (.inl ⟨jH c,rfl⟩) b w2 hst hS _ λ_ _ h=>h
 ·have e1:(aX (bL 21) opD).1=.region 21 (mJ (aX (bL 21) opD).1) true:=by kernel_rfl
  have e2:(aX (bL 21) opD).2=[.bl 2,.bl 1]:=by kernel_rfl
  rw[e1,e2]
  exact lnk true (.inr ⟨jH c,rfl⟩) b w2 hst hS _ λ_ _ h=>h
 ·exact HO.none tX (Ud n0) (ry n1) (ry n2) (ry n3) (ry n4) (ry n5) _ _
theorem Gn (hP:Pdr W0 l E)(Bp:r<W.heap.size)(y8:q<W.heap.size):ChgC W0 W r tb cap q l E:=by
 intro st0 Q w0 h hk hamd
 obtain⟨sb,hsb⟩:∃sb,sb=w0.heap.size:=⟨_,rfl⟩
 have H0:=PT h hk
 rw[<-hsb]at H0
 clear h
 go_enter Tryz.func186,Tryz.ntmps186
 refine wp_seq ?_
 refine wp_region_lit ?_
 refine wpList_plain rfl (λK hK=>?_)
 go_simp
 refine hK _ _ ?_
 clear hK K
 refine aT ?_
 obtain⟨W1,hW1⟩:∃W1,W1=w0.alloc (.cells #[.bool false,.bool false,.bool false,.bool false,.bool false,.bool false] 243):=⟨_,rfl⟩
 refine JJ (w':=W1) rfl hW1.symm λa ha hdf=>?_
 rw[<-hW1]at H0
 have hF:Fr (onM E l r q sb) 76 (onK 19) a:=Ev.aH (Ev.aH (Ev.aH (Ev.ag (by rw[ha];rfl) hdf) (by rw[ha,hsb,(dH 0).2.2];rfl)) (by rw[ha,(dH 19).2.1];rfl)) (by rw[ha];rfl)
 clear ha hdf hW1 hsb
 refine wp_seq ?_
 refine Ev.iL (S:=onS W0 W r tb cap q sb l) (M:=onM E l r q sb) (n:=76) (K:=onK 19) (s:=(.any st0,(snL {},Q))) [0,1,4] (.ite (!Ps.dU l st0) (.ret (onU 19) (.any (Ps.gB l st0),(snL {},Q))) (.nx (onU 19) (.any (Ps.gB l st0),(snL {},Q)))) (Ik hP) (eQ j6) (jr j6) (by kernel_rfl) hF ⟨trivial,H0⟩ ⟨λhc b w2 hst hS=>?_,λhc b w2 hst hS=>?_⟩
 ·have hb:Ps.dU l st0=false:=by simpa using hc
  simp only[Exit.then]
  refine bodyPost_ret (results_none rfl _ _ _) hst.2.1 ⟨rfl,_,{},by have:=Gy Bp y8 hS.2;rw[<-hamd];exact this,O6 hb⟩
 have hb:Ps.dU l st0=true:=by simpa using hc
 obtain⟨a0,rfl,ha0⟩:∃a0,st0=.ok a0/\a0<l.length:=by
  cases st0 with
  |error e=>cases hb
  |ok a=>exact⟨a,rfl,by simpa[Ps.dU]using hb⟩
 have hneed:Ps.gB l (.ok a0)=.ok a0:=by simp[Ps.gB,ha0]
 rw[hneed]at hS
 refine Ja hP (n:=76) (j:=19) (I:=λst s R=>∃i,R={Q with amd:=i}/\Ps.ChI E l {} (.ok a0) st s i) (λst x=>by kernel_rfl) ?_ ?_ ⟨{},by rw[<-hamd],Ps.ChI.start _ _ _ _⟩ (fr3 hst) hS.2
 rotate_left
 ·rintro st s R b w hend ⟨i,rfl,hI⟩ hd hB
  refine bodyPost_end (results_none rfl _ _ _) hd ⟨rfl,st,i,Gy Bp y8 hB,?_⟩
  exact UG hb (hI.res hend)
 clear hst hS hF H0 b w2
 rintro pa s R b w Qr tX ⟨i,rfl,HO⟩ hF hS nx
 refine Ev.iL (M:=onM E l r q sb) (n:=76) (K:=onK 19) (s:=(.at0 pa,(snL s,{Q with amd:=i}))) [0,1,4]
  (.ite (decide (0<=prV (Ps.aU l pa))) (.ite (!s.prio) (.nx (onU 19) (.any (iq (dm l s.prio pa)),((snL s).set 0 true,{Q with amd:={i with hasPriority:=true,priority:=prV (Ps.aU l pa)} }))) (.nx (onU 19) (.any (iq (dm l s.prio pa)),((snL s).set 0 true,{Q with amd:=i}))))
   (.ite ((Ps.aU l pa).toList==([112,97,114,116,105,97,108]:List UInt8)) (.ite (!s.part) (.nx (onU 19) (.any (Ps.step (Ps.quantity E l) 0 (iq (dm l s.part pa))).2,((snL s).set 1 true,{Q with amd:={i with hasPartial:=true,partial_:=true,minLot:=(Ps.step (Ps.quantity E l) 0 (iq (dm l s.part pa))).1} }))) (.nx (onU 19) (.any (iq (dm l s.part pa)),((snL s).set 1 true,{Q with amd:=i}))))
   (.ite ((Ps.aU l pa).toList==([119,104,111,108,101]:List UInt8)) (.nx (onU 19) (.any (iq (dm l s.part pa)),((snL s).set 1 true,{Q with amd:={i with hasPartial:=!s.part} })))
   (.ite ((Ps.aU l pa).toList==([97,109,111,117,110,116]:List UInt8)) (.ite (!s.amount) (.nx (onU 19) (.any (Ps.step (Ps.cash E l) 0 (iq (dm l s.amount pa))).2,((snL s).set 4 true,{Q with amd:={i with hasAmount:=true,amount:=(Ps.step (Ps.cash E l) 0 (iq (dm l s.amount pa))).1} }))) (.nx (onU 19) (.any (iq (dm l s.amount pa)),((snL s).set 4 true,{Q with amd:=i}))))
   (.ite ((Ps.aU l pa).toList==([100,97,121]:List UInt8)) (.ite (!s.day) (.nx (onU 19) (.any (Ps.step (Ps.day E l) 0 (iq (dm l s.day pa))).2,((snL s).set 5 true,{Q with amd:={i with hasSettleDay:=true,settleDay:=(Ps.step (Ps.day E l) 0 (iq (dm l s.day pa))).1} }))) (.nx (onU 19) (.any (iq (dm l s.day pa)),((snL s).set 5 true,{Q with amd:=i}))))
    (.nx (onU 19) (.any (Ps.qO l 30 (.ok pa)),(snL s,{Q with amd:=i}))))))))
  (Ik hP) (eQ j6) (jr j6) (by kernel_rfl) hF hS ?_
 have fin:∀(st':Ps.St) (s':Ps.Seen) (i':Ps.Amd),Ps.ChI E l {} (.ok a0) st' s' i'->(∀a,st'=.ok a->pa<a)->∀(b:Act) (w2:World),Stop (onM E l r q sb) 76 [0,1,4] (onU 19) b->onS W0 W r tb cap q sb l (.any st',(snL s',{Q with amd:=i'})) w2->Qr .normal b w2:=λst' s' i' h1 h3 b w2 hst hS=>
  nx st' s' _ ⟨i',rfl,h1⟩ h3 b w2 (fr3 hst) hS
 refine⟨λc=>⟨λd=>fin _ {s with prio:=true} _ ?_ (gy s.prio),λd=>fin _ {s with prio:=true} _ ?_ (gy s.prio)⟩,λn0=>⟨λc=>⟨λd=>fin _ {s with part:=true} _ ?_ (DI s.part),λd=>fin _ {s with part:=true} _ ?_ (gy s.part)⟩,λn1=>⟨λc=>fin _ {s with part:=true} _ ?_ (gy s.part),λn2=>⟨λc=>⟨λd=>fin _ {s with amount:=true} _ ?_ (yz s.amount),λd=>fin _ {s with amount:=true} _ ?_ (gy s.amount)⟩,λn3=>⟨λc=>⟨λd=>fin _ {s with day:=true} _ ?_ (G5 s.day),λd=>fin _ {s with day:=true} _ ?_ (gy s.day)⟩,λn4=>fin _ s _ ?_ (λa ha=>by cases ha)⟩⟩⟩⟩⟩
 ·have hs:s.prio=false:=by simpa using d
  rw[hs];exact HO.prioOk tX (I9 c) hs
 ·have hs:s.prio=true:=by simpa using d
  rw[hs];exact HO.prioDup tX (I9 c) hs _ _
 ·have hs:s.part=false:=by simpa using d
  rw[hs];exact HO.partOk tX (jH c) hs
 ·have hs:s.part=true:=by simpa using d
  rw[hs];exact HO.partDup tX (jH c) hs _ _
 ·cases hs:s.part with
  |true=>exact HO.wholeDup tX (jH c) hs _ _
  |false=>exact HO.wholeOk tX (jH c) hs
 ·have hs:s.amount=false:=by simpa using d
  rw[hs];exact HO.amountOk tX (jH c) hs
 ·have hs:s.amount=true:=by simpa using d
  rw[hs];exact HO.amountDup tX (jH c) hs _ _
 ·have hs:s.day=false:=by simpa using d
  rw[hs];exact HO.dayOk tX (jH c) hs
 ·have hs:s.day=true:=by simpa using d
  rw[hs];exact HO.dayDup tX (jH c) hs _ _
 ·exact HO.none tX (Ud n0) (ry n1) (ry n2) (ry n3) (ry n4) _ _
end
theorem fB {P:Program}{fn:Func}{p u v:Tmp}{ty:TypeId}(h:fn.results=#[.cell p ty,.tmp u,.tmp v])(tmps:Array Value)(w:World)(g:Nat)(t:TypeId)(cs:Array Value)(fr:Nat×Nat)(d:TypeDesc)
 (hp:tmps.getD p undef=.pointer (some ⟨g,0,none⟩)) (hg:w.heap[g]? =some (.cells cs t fr))
 (hu:P.underlying ty=some d) (hd:(match d with| .struct _| .array _ _=>true|_=>false)=true) (hi:(P.info? ty).map (·.size)=some cs.size):
 (results fn tmps).run P w=.ok (.tuple #[.agg cs,tmps.getD u undef,tmps.getD v undef]) w:=by
 have hp':tmps[p]?.getD undef=.pointer (some ⟨g,0,none⟩):=by simpa using hp
 simp[results,h,hp',asAddr,run_loadVar_row w g t ty cs fr d hg hu hd hi]
theorem below_setRow {w W:World}{g:Nat}(h:Below g w W)(_hg:Nat.le g g)(cs:Array Value):Below g w (W.setRow g cs):=by
 refine⟨h.os,h.tape,h.output,by have:=h.size;simpa[World.setRow]using this,λj hj=>?_⟩
 have hne:g≠j:=by omega
 have:(W.setRow g cs).heap[j]? =W.heap[j]?:=by simp[World.setRow,Array.getElem?_modify,hne]
 rw[this]
 exact h.block j hj
theorem iG (W:World)(g j:Nat)(cs:Array Value)(h:g≠j):(W.setRow g cs).heap[j]? =W.heap[j]?:=by simp[World.setRow,Array.getElem?_modify,h]
def aI:Array Value:=aB {} fI
theorem cZ (Q:Ps.Req)(a:Option Addr)(n c:Nat):(aB Q (.slice a n c)).all (·.oneCell')=true:=by
 rw[<-Array.all_toList]
 simp[aB,aA,aG,Value.oneCell']
theorem iV:aI.all (·.oneCell')=true:=cZ _ _ _ _
theorem Ez (w:World)(s:ByteArray)(at_ x:Int)(hx:¬x=0)
 (n1:Hid (∀W,Below w.heap.size w W->Calls Tryz.prog 49 #[.string s] W λe W'=>∃v,e=.returned (.tuple #[v,.int .i64 at_,.int .i64 x])/\Below W.heap.size W W')):
 Calls Tryz.prog 16 #[.string s] w λe W'=>e=.returned (.tuple #[.agg aI,.int .i64 at_,.int .i64 x])/\Below w.heap.size w W':=by
 obtain⟨g,hg⟩:∃g,g=w.heap.size:=⟨_,rfl⟩
 go_enter Tryz.func16,Tryz.ntmps16
 go_wp2_with fail
 refine(n1.out _ ((Below.refl _ _).alloc (Nat.le_refl _) _)).mono ?_
 rintro e w1 ⟨v,rfl,hb⟩
 obtain⟨W1,hW1⟩:∃W1,W1=w.alloc (.cells aI 37):=⟨_,rfl⟩
 have hb1:Below W1.heap.size W1 w1:=by rw[hW1];exact hb
 have wK:W1.heap[g]? =some (.cells aI 37 (0,0)):=by rw[hW1,hg];exact aC w _
 have hrow:w1.heap[g]? =some (.cells aI 37 (0,0)):=(hb1.block g (Array.getElem?_eq_some_iff.1 wK).1).trans wK
 have HB:=Lib.hid hb1
 have HR:=Lib.hid hrow
 clear hb hb1 wK hrow n1
 have HG:=Lib.hid hg
 have HW:=Lib.hid hW1
 clear hg hW1
 go_upto_region 3 with fail
 refine wp_region_lit ?_
 refine wpList_plain rfl (λK hK=>?_)
 go_simp
 refine hK _ _ ?_
 clear hK K
 refine wpList_plain rfl (λK hK=>?_)
 go_simp
 refine hK _ _ ?_
 clear hK K
 refine wpList_plain rfl (λK hK=>?_)
 go_simp
 refine hK _ _ ?_
 clear hK K
 refine wpList_store_row rfl _ _ _ rfl g aI (by rw[HG.out];rfl) rfl _ _ HR.out (by kernel_rfl) rfl iV ?_
 go_wp2_with fail
 refine bodyPost_ret (fB rfl _ _ g _ aI (0,0) _ (by rw[HG.out];rfl) (setRow_heap w1 g _ aI _ _ HR.out) Tryz.underlying37 rfl (by kernel_rfl)) rfl ?_
 refine⟨rfl,?_⟩
 have hB1:Below g W1 w1:=HB.out.mono (by rw[HW.out,HG.out];exact((Below.refl _ _).alloc (Nat.le_refl _) _).size)
 have hB0:Below w.heap.size w W1:=by rw[HW.out];exact(Below.refl _ _).alloc (Nat.le_refl _) _
 rw[<-HG.out]at hB0⊢
 exact below_setRow (hB0.trans hB1) (Nat.le_refl _) aI
def yK (la:Option Addr)(lc:Nat)(e:Int):Array Value:=#[.slice la 0 lc,.int .i64 0,.int .i64 0,.int .i64 e]
theorem yB (W:World)(r:Nat)(la:Option Addr)(lc:Nat)(e:Int)(b1:Bool)(hrow:W.heap[r]? =some (.cells (yK la lc e) 97 (0,0)))(h1:(e==0)=b1):
 Calls Tryz.prog 55 #[.pointer (some ⟨r,0,none⟩)] W λx W'=>x=.returned (.bool false)/\∃k,W'=W.drewN k:=by
 have k0:W.cell? ⟨r,0,none⟩=some (.slice la 0 lc):=by rw[cell_of_row _ _ _ _ _ _ hrow];rfl
 have k1:W.cell? ⟨r,1,none⟩=some (.int .i64 0):=by rw[cell_of_row _ _ _ _ _ _ hrow];rfl
 have k3:W.cell? ⟨r,3,none⟩=some (.int .i64 e):=by rw[cell_of_row _ _ _ _ _ _ hrow];rfl
 clear hrow
 cases b1
 all_goals
  go_enter Tryz.func55,Tryz.ntmps55
  go_wp2_with fail
  go_quiet (fail)
  go_wp2_with fail
  go_ret
  exact⟨rfl,_,rfl⟩
theorem Ff (W:World)(r:Nat)(la:Option Addr)(lc:Nat)(hrow:W.heap[r]? =some (.cells (yK la lc 0) 97 (0,0))):
 Calls Tryz.prog 50 #[.pointer (some ⟨r,0,none⟩)] W λx W'=>x=.returned (.bool false)/\W'.heap[r]? =some (.cells (yK la lc 4) 97 (0,0))/\Tch r r W W':=by
 have n1:=yB W r la lc 0 true hrow rfl
 have HR:=Lib.hid hrow
 clear hrow
 go_enter Tryz.func50,Tryz.ntmps50
 go_wp2_with fail
 refine n1.mono ?_
 rintro x w ⟨rfl,k,rfl⟩
 obtain⟨w,hw0⟩:∃w,w=W.drewN k:=⟨_,rfl⟩
 have hr:w.heap[r]? =some (.cells (yK la lc 0) 97 (0,0)):=by rw[hw0];exact HR.out
 have k0:w.cell? ⟨r,0,none⟩=some (.slice la 0 lc):=by rw[cell_of_row _ _ _ _ _ _ hr];rfl
 have k3:w.cell? ⟨r,3,none⟩=some (.int .i64 0):=by rw[cell_of_row _ _ _ _ _ _ hr];rfl
 have f3:=aV 3 hr
 have HT:Hid (Tch r r W w):=Lib.hid (by rw[hw0];exact Tch.drewN _ _ _ _)
 have HRW:=Lib.hid hr
 rw[<-hw0]
 clear n1 hw0 hr HR
 go_wp2_with fail
 go_ret
 exact⟨rfl,ai w r 3 _ _ _ HRW.out,HT.out.setCell 3 _⟩
theorem Ae (w:World)(s:ByteArray)(at_:Int)
 (n1:Hid (∀W,Below w.heap.size w W->Calls Tryz.prog 49 #[.string s] W λe W'=>∃la lc,e=.returned (.tuple #[.slice la 0 lc,.int .i64 at_,.int .i64 0])/\Below W.heap.size W W')):
 Calls Tryz.prog 16 #[.string s] w λe W'=>e=.returned (.tuple #[.agg aI,.int .i64 0,.int .i64 4])/\Below w.heap.size w W':=by
 obtain⟨g,hg⟩:∃g,g=w.heap.size:=⟨_,rfl⟩
 go_enter Tryz.func16,Tryz.ntmps16
 go_wp2_with fail
 refine(n1.out _ ((Below.refl _ _).alloc (Nat.le_refl _) _)).mono ?_
 rintro e w1 ⟨la,lc,rfl,hb⟩
 obtain⟨W1,hW1⟩:∃W1,W1=w.alloc (.cells aI 37):=⟨_,rfl⟩
 have hb1:Below W1.heap.size W1 w1:=by rw[hW1];exact hb
 have wK:W1.heap[g]? =some (.cells aI 37 (0,0)):=by rw[hW1,hg];exact aC w _
 have hrow:w1.heap[g]? =some (.cells aI 37 (0,0)):=(hb1.block g (Array.getElem?_eq_some_iff.1 wK).1).trans wK
 have HB:=Lib.hid hb1
 have HR:=Lib.hid hrow
 clear hb hb1 wK hrow n1
 have HG:=Lib.hid hg
 have HW:=Lib.hid hW1
 clear hg hW1
 obtain⟨W2,hW2⟩:∃W2,W2=(w1.alloc (.cells (yK la lc 0) 97)).alloc (.cells aI 37):=⟨_,rfl⟩
 obtain⟨r,hr⟩:∃r,r=w1.heap.size:=⟨_,rfl⟩
 have hrr:W2.heap[r]? =some (.cells (yK la lc 0) 97 (0,0)):=by
  rw[hW2,hr,((Below.refl _ _).alloc (Nat.le_refl _) (.cells aI 37)).block _ (by simp)]
  exact aC w1 _
 have hb2:Below w1.heap.size w1 W2:=by rw[hW2];exact((Below.refl _ _).alloc (Nat.le_refl _) _).alloc (by simp) _
 have n2:=Ff W2 r la lc hrr
 have HR2:=Lib.hid (hr)
 have HB2:=Lib.hid hb2
 unfold yK aI aB aA aG at hW2
 simp only[List.cons_append,List.nil_append]at hW2
 rw[hW2,hr]at n2
 clear hrr hb2 hr
 go_wp2_with fail
 refine n2.mono ?_
 rw[<-hW2]
 rintro e w2 ⟨rfl,hr2,hT2⟩
 clear n2 hW2
 rw[<-HR2.out]at hr2 hT2⊢
 have n3:=yB w2 r la lc 4 false hr2 rfl
 have k2:w2.cell? ⟨r,2,none⟩=some (.int .i64 0):=by rw[cell_of_row _ _ _ _ _ _ hr2];rfl
 have k3:w2.cell? ⟨r,3,none⟩=some (.int .i64 4):=by rw[cell_of_row _ _ _ _ _ _ hr2];rfl
 have HT2:=Lib.hid hT2
 have HR3:=Lib.hid hr2
 clear hr2 hT2
 go_wp2_with fail
 refine n3.mono ?_
 rintro e w3 ⟨rfl,k,rfl⟩
 have e2:(w2.drewN k).cell? ⟨r,2,none⟩=some (.int .i64 0):=k2
 have e3:(w2.drewN k).cell? ⟨r,3,none⟩=some (.int .i64 4):=k3
 clear n3 k2 k3
 go_upto_region 22 with fail
 have hg1:g<w1.heap.size:=(Array.getElem?_eq_some_iff.1 HR.out).1
 have hgr:g≠r:=by have:=HR2.out;omega
 have hRg:(w2.drewN k).heap[g]? =some (.cells aI 37 (0,0)):=by
  have h1:W2.heap[g]? =some (.cells aI 37 (0,0)):=(HB2.out.block g hg1).trans HR.out
  exact(HT2.out.block g (Array.getElem?_eq_some_iff.1 h1).1 hgr hgr).trans h1
 obtain⟨W5,ja⟩:∃W5,W5=(w2.drewN k).drew:=⟨_,rfl⟩
 have d2:W5.cell? ⟨r,2,none⟩=some (.int .i64 0):=by rw[ja];exact e2
 have d3:W5.cell? ⟨r,3,none⟩=some (.int .i64 4):=by rw[ja];exact e3
 have h2:(W5.setRow g aI).cell? ⟨r,2,none⟩=some (.int .i64 0):=(World.cell?_of_block (a:=⟨r,2,none⟩) (iG W5 g r aI hgr)).trans d2
 have h3:(W5.setRow g aI).cell? ⟨r,3,none⟩=some (.int .i64 4):=(World.cell?_of_block (a:=⟨r,3,none⟩) (iG W5 g r aI hgr)).trans d3
 refine Ord.gH (λb w=>w=if b then W5.setRow g aI else W5) 9 rfl (by kernel_rfl) (by kernel_rfl) (by rw[ja];rfl) ?_
 have PS:Hid (W5.heap[g]? =some (.cells aI 37 (0,0))):=Lib.hid (by rw[ja];exact hRg)
 have HW5:=Lib.hid ja
 clear hRg ja e2 e3
 refine Ord.aP (v:=?_) rfl rfl (λw=>?_) (λK hK=>?_)
 rotate_left
 ·(go_simp;first|done|exact rfl)
 go_simp
 refine hK _ ?_
 clear hK K
 refine Ord.aP (v:=?_) rfl rfl (λw=>?_) (λK hK=>?_)
 rotate_left
 ·(go_simp;first|done|exact rfl)
 go_simp
 refine hK _ ?_
 clear hK K
 refine Ord.aP (v:=?_) rfl rfl (λw=>?_) (λK hK=>?_)
 rotate_left
 ·(go_simp;first|done|exact rfl)
 go_simp
 refine hK _ ?_
 clear hK K
 refine Ord.aP (v:=?_) rfl rfl (λw=>?_) (λK hK=>?_)
 rotate_left
 ·(go_simp;first|done|exact rfl)
 go_simp
 refine hK _ ?_
 clear hK K
 refine Ord.jL (v:=?_) rfl rfl (λb w hS=>?_) (λK hK=>?_)
 rotate_left
 ·(cases b<;>(simp only[Bool.false_eq_true,if_true,if_false]at hS;rw[hS];go_simp;first|done|exact rfl))
 go_simp
 refine hK _ ?_
 clear hK K
 refine Ord.aP (v:=?_) rfl rfl (λw=>?_) (λK hK=>?_)
 rotate_left
 ·(go_simp;first|done|exact rfl)
 go_simp
 refine hK _ ?_
 clear hK K
 refine Ord.aP (v:=?_) rfl rfl (λw=>?_) (λK hK=>?_)
 rotate_left
 ·(go_simp;first|done|exact rfl)
 go_simp
 refine hK _ ?_
 clear hK K
 refine Ord.aP (v:=?_) rfl rfl (λw=>?_) (λK hK=>?_)
 rotate_left
 ·(go_simp;first|done|exact rfl)
 go_simp
 refine hK _ ?_
 clear hK K
 refine Ord.jL (v:=?_) rfl rfl (λb w hS=>?_) (λK hK=>?_)
 rotate_left
 ·(cases b<;>(simp only[Bool.false_eq_true,if_true,if_false]at hS;rw[hS];go_simp;first|done|exact rfl))
 go_simp
 refine hK _ ?_
 clear hK K
 refine Ord.gu rfl rfl _ _ _ rfl rfl g aI (by rw[HG.out];rfl) rfl _ _ (λw hS=>by simp only[Bool.false_eq_true,if_false]at hS;rw[hS];exact PS.out) (by kernel_rfl) rfl iV (λw hS=>by simp only[Bool.false_eq_true,if_false]at hS;rw[hS];rfl) ?_
 refine Ord.aP (v:=?_) rfl rfl (λw=>?_) (λK hK=>?_)
 rotate_left
 ·(go_simp;first|done|exact rfl)
 go_simp
 refine hK _ ?_
 clear hK K
 refine Ord.aP (v:=?_) rfl rfl (λw=>?_) (λK hK=>?_)
 rotate_left
 ·(go_simp;first|done|exact rfl)
 go_simp
 refine hK _ ?_
 clear hK K
 refine Ord.rF (λw hS=>?_)
 have hS:w=W5.setRow g aI:=hS
 subst hS
 go_wp2_with fail
 refine bodyPost_ret (fB rfl _ _ g _ aI (0,0) _ (by rw[HG.out];rfl) (setRow_heap W5 g _ aI _ _ PS.out) Tryz.underlying37 rfl (by kernel_rfl)) rfl ?_
 refine⟨rfl,?_⟩
 have hgw:g=w.heap.size:=HG.out
 have hB0:Below w.heap.size w W1:=by rw[HW.out];exact(Below.refl _ _).alloc (Nat.le_refl _) _
 have hB1:Below w.heap.size w w1:=hB0.trans (HB.out.mono hB0.size)
 have hB2:=hB1.trans (HB2.out.mono hB1.size)
 have hB3:Below w.heap.size w w2:=hB2.trans (HT2.out.below (by have:=HR2.out;omega) (by have:=HR2.out;omega) hB2.size)
 have hB5:Below w.heap.size w W5:=by rw[HW5.out];exact(below_drewN' hB3 k).drew
 rw[<-hgw]at hB5⊢
 exact below_setRow hB5 (Nat.le_refl _) aI
inductive Fv (r q:Nat)(t:ByteArray)(P3 P7:World->Prop):Prop
 |found (P4 P5 P6:Nat->World->Prop) (j0:Nat) (v0:ByteArray) (fn:Nat) (x:ByteArray) (a:Nat) (hj0:jE[j0]? =some (v0,fn)) (htx:(v0.toList==t.toList)=true) (hlow:∀(j:Nat) (y:ByteArray×Nat),j<j0->jE[j]? =some y->(y.1.toList==t.toList)=false)
  (eg:∀args w,(callFunc fn args).run Tryz.prog w=.ok (.enter fn args) w) (hw1:wrap64 ((a:Int)+1)=(a:Int)+1)
  (s5:Hid (∀w w',P3 w->w'=w.alloc (.cells #[.string v0,.func (.func fn) #[] #[]] 103)->(w'.cell? ⟨r,1,none⟩=some (.int .i64 a)/\w'.frozen? ⟨r,1,none⟩=false)/\P4 w.heap.size (w'.setCell ⟨r,1,none⟩ (.int .i64 ((a:Int)+1)))))
  (n6:Hid (∀w b,P4 b w->Calls Tryz.prog 53 #[.pointer (some ⟨r,0,none⟩)] w λe W'=>e=.returned (.string x)/\P5 b W'))
  (s6:Hid (∀w b,P5 b w->((∃u,w.cell? ⟨q,2,none⟩=some u)/\w.frozen? ⟨q,2,none⟩=false)/\P6 b (w.setCell ⟨q,2,none⟩ (.string x))))
  (k6:Hid (∀w b,P6 b w->w.cell? ⟨b,1,none⟩=some (.func (.func fn) #[] #[])))
  (n7:Hid (∀w b,P6 b w->Calls Tryz.prog fn #[.pointer (some ⟨r,0,none⟩),.pointer (some ⟨q,0,none⟩)] w λe W'=>e=.returned (.tuple #[])/\P7 W'))
 |none (hall:∀(j:Nat) (y:ByteArray×Nat),jE[j]? =some y->(y.1.toList==t.toList)=false) (n7:Hid (∀w,P3 w->Calls Tryz.prog 54 #[.pointer (some ⟨r,0,none⟩),.int .i64 30] w λe W'=>e=.returned (.tuple #[])/\P7 W'))
inductive ParEnd (g r q tb:Nat)(P9:World->Prop)(Post:Value->Int->Int->World->Prop):Prop
 |err (o e0:Int) (hgrr:g≠r) (hE:Hid (∀w,P9 w->(e0==0)=false/\(w.heap[g]? =some (.cells aI 37 (0,0))/\w.cell? ⟨r,2,none⟩=some (.int .i64 o)/\w.cell? ⟨r,3,none⟩=some (.int .i64 e0))/\Post (.agg aI) o e0 (w.drew.setRow g aI)))
 |subBad (x1 x2:ByteArray) (o c:Int) (hc:(c==0)=false) (Pd:g≠tb)
  (hS:Hid (∀w,P9 w->∃(Q:Ps.Req) (qa:Option Addr) (qn qc:Nat),w.cell? ⟨r,3,none⟩=some (.int .i64 0)/\w.cell? ⟨q,0,none⟩=some (.int .i64 0)/\w.cell? ⟨q,5,none⟩=some (.string x1)/\w.cell? ⟨q,2,none⟩=some (.string x2)/\((∃u,w.cell? ⟨q,1,none⟩=some u)/\(∃u,w.cell? ⟨q,3,none⟩=some u)/\w.frozen? ⟨q,1,none⟩=false/\w.frozen? ⟨q,3,none⟩=false/\(w.setCell ⟨q,1,none⟩ (.string x1)).frozen? ⟨q,3,none⟩=false)/\
   ((w.setCell ⟨q,1,none⟩ (.string x1)).setCell ⟨q,3,none⟩ (.string x2)).heap[q]? =some (.cells (aB Q (.slice qa qn qc)) 37 (0,0))/\
   Calls Tryz.prog 30 #[.agg (aB Q (.slice qa qn qc))] ((w.setCell ⟨q,1,none⟩ (.string x1)).setCell ⟨q,3,none⟩ (.string x2)) λe W'=>e=.returned (.int .i64 c)/\W'.heap[g]? =some (.cells aI 37 (0,0))/\W'.cell? ⟨tb,2,none⟩=some (.int .i64 o)/\Post (.agg aI) o c (W'.drew.setRow g aI)))
 |subOk (x1 x2:ByteArray)
  (hS:Hid (∀w,P9 w->∃(Q:Ps.Req) (qa:Option Addr) (qn qc:Nat),w.cell? ⟨r,3,none⟩=some (.int .i64 0)/\w.cell? ⟨q,0,none⟩=some (.int .i64 0)/\w.cell? ⟨q,5,none⟩=some (.string x1)/\w.cell? ⟨q,2,none⟩=some (.string x2)/\((∃u,w.cell? ⟨q,1,none⟩=some u)/\(∃u,w.cell? ⟨q,3,none⟩=some u)/\w.frozen? ⟨q,1,none⟩=false/\w.frozen? ⟨q,3,none⟩=false/\(w.setCell ⟨q,1,none⟩ (.string x1)).frozen? ⟨q,3,none⟩=false)/\
   ((w.setCell ⟨q,1,none⟩ (.string x1)).setCell ⟨q,3,none⟩ (.string x2)).heap[q]? =some (.cells (aB Q (.slice qa qn qc)) 37 (0,0))/\
   Calls Tryz.prog 30 #[.agg (aB Q (.slice qa qn qc))] ((w.setCell ⟨q,1,none⟩ (.string x1)).setCell ⟨q,3,none⟩ (.string x2)) λe W'=>e=.returned (.int .i64 0)/\W'.heap[g]? =some (.cells aI 37 (0,0))/\W'.heap[q]? =some (.cells (aB Q (.slice qa qn qc)) 37 (0,0))/\Post (.agg (aB Q (.slice qa qn qc))) 0 0 (W'.setRow g (aB Q (.slice qa qn qc)))))
 |opBad (op:Int) (hop:(op==0)=false) (o c:Int) (hc:(c==0)=false) (Pd:g≠tb)
  (hS:Hid (∀w,P9 w->∃(Q:Ps.Req) (qa:Option Addr) (qn qc:Nat),w.cell? ⟨r,3,none⟩=some (.int .i64 0)/\w.cell? ⟨q,0,none⟩=some (.int .i64 op)/\w.heap[q]? =some (.cells (aB Q (.slice qa qn qc)) 37 (0,0))/\
   Calls Tryz.prog 30 #[.agg (aB Q (.slice qa qn qc))] w λe W'=>e=.returned (.int .i64 c)/\W'.heap[g]? =some (.cells aI 37 (0,0))/\W'.cell? ⟨tb,2,none⟩=some (.int .i64 o)/\Post (.agg aI) o c (W'.drew.setRow g aI)))
 |opOk (op:Int) (hop:(op==0)=false)
  (hS:Hid (∀w,P9 w->∃(Q:Ps.Req) (qa:Option Addr) (qn qc:Nat),w.cell? ⟨r,3,none⟩=some (.int .i64 0)/\w.cell? ⟨q,0,none⟩=some (.int .i64 op)/\w.heap[q]? =some (.cells (aB Q (.slice qa qn qc)) 37 (0,0))/\
   Calls Tryz.prog 30 #[.agg (aB Q (.slice qa qn qc))] w λe W'=>e=.returned (.int .i64 0)/\W'.heap[g]? =some (.cells aI 37 (0,0))/\W'.heap[q]? =some (.cells (aB Q (.slice qa qn qc)) 37 (0,0))/\Post (.agg (aB Q (.slice qa qn qc))) 0 0 (W'.setRow g (aB Q (.slice qa qn qc)))))
inductive I1 (g tb n cap:Nat)(w1:World)(Post:Value->Int->Int->World->Prop):Prop
 |mk (t:ByteArray) (P1 P2 P7 P8 P9:World->Prop) (P3:Nat->World->Prop) (b:Bool) (hn:0<n)
  (n2:Calls Tryz.prog 50 #[.pointer (some ⟨w1.heap.size,0,none⟩)] ((w1.alloc (.cells (bK tb n cap 0 0 0) 97)).alloc (.cells aI 37)) λe W'=>e=.returned (.bool true)/\P1 W')
  (n3:Hid (∀w,P1 w->Calls Tryz.prog 51 #[.pointer (some ⟨w1.heap.size,0,none⟩)] w λe W'=>e=.returned (.string t)/\P2 W'))
  (h3:Hid (∀w w',P2 w->w'=w.alloc (.cells qg.toArray 103)->P3 w.heap.size w'))
  (h3a:Hid (∀fb w cs,P3 fb w->P3 fb (w.alloc (.cells cs 103))))
  (h3c:Hid (∀fb w,P3 fb w->∀(j:Nat) (x:ByteArray×Nat),jE[j]? =some x->w.cell? ⟨fb,j*2,none⟩=some (.string x.1)/\w.cell? ⟨fb,j*2+1,none⟩=some (.func (.func x.2) #[] #[])))
  (mid:Hid (∀fb,Fv w1.heap.size (w1.heap.size+1) t (P3 fb) P7))
  (n8:Hid (∀w,P7 w->Calls Tryz.prog 55 #[.pointer (some ⟨w1.heap.size,0,none⟩)] w λe W'=>e=.returned (.bool b)/\P8 W'))
  (n9:Hid (b=true->∀w,P8 w->Calls Tryz.prog 54 #[.pointer (some ⟨w1.heap.size,0,none⟩),.int .i64 30] w λe W'=>e=.returned (.tuple #[])/\P9 W'))
  (n9b:Hid (b=false->∀w,P8 w->P9 w))
  (fin:ParEnd g w1.heap.size (w1.heap.size+1) tb P9 Post)
theorem Ac (w:World)(s:ByteArray)(Post:Value->Int->Int->World->Prop)
 (n1:Hid (∀g,g=w.heap.size->Calls Tryz.prog 49 #[.string s] (w.alloc (.cells aI 37)) λe W'=>∃tb n cap at_,e=.returned (.tuple #[.slice (some ⟨tb,0,none⟩) n cap,.int .i64 at_,.int .i64 0])/\I1 g tb n cap W' Post)):
 Calls Tryz.prog 16 #[.string s] w λe W'=>∃rv o x,e=.returned (.tuple #[rv,.int .i64 o,.int .i64 x])/\Post rv o x W':=by
 obtain⟨g,hg⟩:∃g,g=w.heap.size:=⟨_,rfl⟩
 have m1:=n1.out g hg
 unfold aI aB aA aG at m1
 simp only[List.cons_append,List.nil_append]at m1
 go_enter Tryz.func16,Tryz.ntmps16
 rw[hg]at m1
 go_wp2_with fail
 refine m1.mono ?_
 rintro e w1 ⟨tb,n,cap,at_,rfl,tl⟩
 rw[<-hg]at tl
 clear m1 n1
 cases tl with
 |mk t P1 P2 P7 P8 P9 P3 b hn n2 n3 h3 h3a h3c mid n8 n9 n9b fin=>
 obtain⟨r,hr⟩:∃r,r=w1.heap.size:=⟨_,rfl⟩
 obtain⟨q,hq⟩:∃q,q=w1.heap.size+1:=⟨_,rfl⟩
 unfold aI aB aA aG bK at n2
 simp only[List.cons_append,List.nil_append]at n2
 rw[<-hg]
 go_upto_if 30 with fail
 refine n2.mono ?_
 rintro e w2 ⟨rfl,p1⟩
 rw[<-hq,<-hr]
 rw[<-hq,<-hr]at fin
 rw[<-hr]at n3 n8 n9
 rw[<-hq,<-hr]at mid
 clear n2
 have HG:=Lib.hid hg
 have HR:=Lib.hid hr
 have HQ0:=Lib.hid hq
 clear hg hr hq
 go_upto_if 30 with fail
 go_cut [] (λwx=>Hid (P7 wx))
 case first=>
  clear n8 n9 n9b fin
  have m3:=n3.out w2 p1
  clear n3
  go_wp2_with fail
  refine m3.mono ?_
  rintro e w3 ⟨rfl,p2⟩
  have m4:=PP w3
  have H3:=Lib.hid (h3.out w3 _ p2 rfl)
  clear m3 p1
  go_wp2_with fail
  refine m4.mono ?_
  rintro e w4 ⟨rfl,hw4⟩
  rw[<-hw4]at H3
  obtain⟨fb,hfb⟩:∃fb,fb=w3.heap.size:=⟨_,rfl⟩
  rw[<-hfb]at H3⊢
  have hm:=mid.out fb
  clear m4 hw4 h3 p2 mid hfb
  cases hm with
  |none hall n7=>
   have HALL:=Lib.hid hall
   clear hall
   go_wp2_with fail
   go_loopw [11,13,35] (λfv _ iv wr=>∃j:Nat,fv=.bool false/\iv=.int .i64 j/\j<=9/\Hid (P3 fb wr)) (λ_ _ iv _=>9-(RowKit.intOf iv).toNat)
   case atStart=>exact⟨0,rfl,rfl,by omega,H3⟩
   case round=>
    obtain⟨j,rfl,rfl,hj,HP⟩:=hrel
    by_cases hlt:j<9
    ·obtain⟨y,hy⟩:∃y,jE[j]? =some y:=⟨_,List.getElem?_eq_getElem (by exact hlt)⟩
     obtain⟨v0,fn⟩:=y
     obtain⟨y0,y1⟩:=h3c.out fb wr HP.out j _ hy
     have hte:=HALL.out j _ hy
     have hjI:(j:Int)<9:=by omega
     have hw1:wrap64 ((j:Int)+1)=((j+1:Nat):Int):=by unfold wrap64;omega
     have HP2:=Lib.hid (h3a.out fb wr #[.string v0,.func (.func fn) #[] #[]] HP.out)
     clear hy n7
     go_wp2_with fail
     refine⟨⟨j+1,by first|rfl|trivial,by first|rfl|go_num,by omega,HP2⟩,by simp[RowKit.intOf]<;>omega⟩
    ·have hjI:¬(j:Int)<9:=by omega
     have m7:=n7.out wr HP.out
     clear n7 hlt
     go_wp2_with fail
     refine m7.mono ?_
     rintro e w7 ⟨rfl,p7⟩
     have HP7:=Lib.hid p7
     clear m7 p7
     go_wp2_with fail
     go_meet
     case rel=>exact HP7
  |found P4 P5 P6 j0 v0 fn x a hj0 htx hlow eg hw1 s5 n6 s6 k6 n7=>
   have HLOW:=Lib.hid hlow
   clear hlow
   go_wp2_with fail
   go_loopw [13,35] (λ_ iv wr=>∃j:Nat,iv=.int .i64 j/\j<=j0/\Hid (P3 fb wr)) (λ_ iv _=>9-(RowKit.intOf iv).toNat)
   case atStart=>exact⟨0,rfl,by omega,H3⟩
   case round=>
    obtain⟨j,rfl,hj,HP⟩:=hrel
    have hj09:j0<9:=(List.getElem?_eq_some_iff.1 hj0).1
    have hjI:(j:Int)<9:=by omega
    by_cases hlt:j<j0
    ·obtain⟨y,hy⟩:∃y,jE[j]? =some y:=⟨_,List.getElem?_eq_getElem (by show j<9;omega)⟩
     obtain⟨v1,fn1⟩:=y
     obtain⟨y0,y1⟩:=h3c.out fb wr HP.out j _ hy
     have hte:=HLOW.out j _ hlt hy
     have hw2:wrap64 ((j:Int)+1)=((j+1:Nat):Int):=by unfold wrap64;omega
     have HP2:=Lib.hid (h3a.out fb wr #[.string v1,.func (.func fn1) #[] #[]] HP.out)
     clear hy hj0 htx eg hw1 s5 n6 s6 k6 n7
     go_wp2_with fail
     refine⟨⟨j+1,by first|rfl|go_num,by omega,HP2⟩,by simp[RowKit.intOf]<;>omega⟩
    ·obtain rfl:j=j0:=by omega
     obtain⟨y0,y1⟩:=h3c.out fb wr HP.out j _ hj0
     obtain⟨⟨c1,c2⟩,p4⟩:=s5.out wr _ HP.out rfl
     have m6:=n6.out _ _ p4
     clear s5 n6 p4 HLOW hj0
     go_wp2_with fail
     refine m6.mono ?_
     rintro e w6 ⟨rfl,p5⟩
     obtain⟨⟨⟨c3,c4⟩,c5⟩,p6⟩:=s6.out w6 _ p5
     have k7:=k6.out _ _ p6
     have m7:=n7.out _ _ p6
     clear m6 s6 k6 n7 p5 p6 c1 c2
     go_wp2_with (go_at_fn fn;refine m7.mono ?_;rintro e w7 ⟨rfl,p7⟩;have HP7:=Lib.hid p7;clear p7)
     go_meet
     case rel=>exact HP7
 case rest=>
  have hp7:=hcut
  clear n3 h3 h3a h3c mid hcut
  have m8:=n8.out _ hp7.out
  clear n8
  go_upto_if 63 with fail
  refine m8.mono ?_
  rintro e w8 ⟨rfl,p8⟩
  clear m8 hp7
  go_upto_if 63 with fail
  go_cut [] (λwx=>Hid (P9 wx))
  case first=>
   clear fin
   cases b with
   |true=>
    have m9:=n9.out rfl _ p8
    clear n9 n9b p8
    go_wp2_with fail
    refine m9.mono ?_
    rintro e w9 ⟨rfl,p9⟩
    have HP9:=Lib.hid p9
    clear m9 p9
    go_wp2_with fail
    go_meet
    case rel=>exact HP9
   |false=>
    have HP9:=Lib.hid (n9b.out rfl _ p8)
    clear n9 n9b p8
    go_wp2_with fail
    go_meet
    case rel=>exact HP9
  case rest=>
   cases fin with
   |err o e0 hgrr hE=>
    obtain⟨he,⟨hz,k2,k3⟩,hpo⟩:=hE.out wc hcut.out
    have hgr:Hid (g≠r):=hgrr
    have HRZ:=Lib.hid hz
    have Mc:=Lib.hid hpo
    clear hz hpo hE n9 n9b hcut
    go_upto_region 22 with fail
    obtain⟨W5,ja⟩:∃W5,W5=wc.drew:=⟨_,rfl⟩
    have d2:W5.cell? ⟨r,2,none⟩=some (.int .i64 o):=by rw[ja];exact k2
    have d3:W5.cell? ⟨r,3,none⟩=some (.int .i64 e0):=by rw[ja];exact k3
    have h2:(W5.setRow g aI).cell? ⟨r,2,none⟩=some (.int .i64 o):=(World.cell?_of_block (a:=⟨r,2,none⟩) (iG W5 g r aI hgr.out)).trans d2
    have h3:(W5.setRow g aI).cell? ⟨r,3,none⟩=some (.int .i64 e0):=(World.cell?_of_block (a:=⟨r,3,none⟩) (iG W5 g r aI hgr.out)).trans d3
    have PS:Hid (W5.heap[g]? =some (.cells aI 37 (0,0))):=Lib.hid (by rw[ja];exact HRZ.out)
    have Tx:Hid (Post (.agg aI) o e0 (W5.setRow g aI)):=Lib.hid (by rw[ja];exact Mc.out)
    refine Ord.gH (λb w=>w=if b then W5.setRow g aI else W5) 9 rfl (by kernel_rfl) (by kernel_rfl) (by rw[ja];rfl) ?_
    clear ja k2 k3
    refine Ord.aP (v:=?_) rfl rfl (λw=>?_) (λK hK=>?_)
    rotate_left
    ·(go_simp;first|done|exact rfl)
    go_simp
    refine hK _ ?_
    clear hK K
    refine Ord.aP (v:=?_) rfl rfl (λw=>?_) (λK hK=>?_)
    rotate_left
    ·(go_simp;first|done|exact rfl)
    go_simp
    refine hK _ ?_
    clear hK K
    refine Ord.aP (v:=?_) rfl rfl (λw=>?_) (λK hK=>?_)
    rotate_left
    ·(go_simp;first|done|exact rfl)
    go_simp
    refine hK _ ?_
    clear hK K
    refine Ord.aP (v:=?_) rfl rfl (λw=>?_) (λK hK=>?_)
    rotate_left
    ·(go_simp;first|done|exact rfl)
    go_simp
    refine hK _ ?_
    clear hK K
    refine Ord.jL (v:=?_) rfl rfl (λb w hS=>?_) (λK hK=>?_)
    rotate_left
    ·(cases b<;>(simp only[Bool.false_eq_true,if_true,if_false]at hS;rw[hS];go_simp;first|done|exact rfl))
    go_simp
    refine hK _ ?_
    clear hK K
    refine Ord.aP (v:=?_) rfl rfl (λw=>?_) (λK hK=>?_)
    rotate_left
    ·(go_simp;first|done|exact rfl)
    go_simp
    refine hK _ ?_
    clear hK K
    refine Ord.aP (v:=?_) rfl rfl (λw=>?_) (λK hK=>?_)
    rotate_left
    ·(go_simp;first|done|exact rfl)
    go_simp
    refine hK _ ?_
    clear hK K
    refine Ord.aP (v:=?_) rfl rfl (λw=>?_) (λK hK=>?_)
    rotate_left
    ·(go_simp;first|done|exact rfl)
    go_simp
    refine hK _ ?_
    clear hK K
    refine Ord.jL (v:=?_) rfl rfl (λb w hS=>?_) (λK hK=>?_)
    rotate_left
    ·(cases b<;>(simp only[Bool.false_eq_true,if_true,if_false]at hS;rw[hS];go_simp;first|done|exact rfl))
    go_simp
    refine hK _ ?_
    clear hK K
    refine Ord.gu rfl rfl _ _ _ rfl rfl g aI (by first|rfl|(rw[HG.out];rfl)) rfl _ _ (λw hS=>by simp only[Bool.false_eq_true,if_false]at hS;rw[hS];exact PS.out) (by kernel_rfl) rfl iV (λw hS=>by simp only[Bool.false_eq_true,if_false]at hS;rw[hS];rfl) ?_
    refine Ord.aP (v:=?_) rfl rfl (λw=>?_) (λK hK=>?_)
    rotate_left
    ·(go_simp;first|done|exact rfl)
    go_simp
    refine hK _ ?_
    clear hK K
    refine Ord.aP (v:=?_) rfl rfl (λw=>?_) (λK hK=>?_)
    rotate_left
    ·(go_simp;first|done|exact rfl)
    go_simp
    refine hK _ ?_
    clear hK K
    refine Ord.rF (λw hS=>?_)
    have hS:w=W5.setRow g aI:=hS
    rw[hS]
    clear hS
    go_wp2_with fail
    refine bodyPost_ret (fB rfl _ _ g _ aI (0,0) _ (by first|rfl|(rw[HG.out];rfl)) (setRow_heap W5 g _ aI _ _ PS.out) Tryz.underlying37 rfl (by kernel_rfl)) rfl ?_
    exact⟨_,_,_,rfl,Tx.out⟩
   |subBad x1 x2 o c hc Pd hS=>
    obtain⟨Q,qa,qn,qc,k3,k0,k5,k2q,⟨⟨v1,c1⟩,⟨v3,c3⟩,f1,f3,f31⟩,hq2,m1⟩:=hS.out wc hcut.out
    obtain⟨cs,hcs⟩:∃cs,cs=aB Q (.slice qa qn qc):=⟨_,rfl⟩
    rw[<-hcs]at hq2 m1
    have F6:=Lib.hid hcs
    have HC1:Hid (cs.all (·.oneCell')=true):=Lib.hid (by rw[hcs];exact cZ Q qa qn qc)
    clear hcs
    have HQ:=Lib.hid hq2
    have M1:=Lib.hid m1
    clear hq2 m1 hS n9 n9b hcut
    go_upto_region 25 with fail
    have m1:=M1.out
    clear M1 k3 k0 k5 k2q c1 c3 f1 f3 f31
    refine wp_region_lit ?_
    refine wpList_load_row rfl _ _ rfl q rfl _ _ _ _ HQ.out Tryz.underlying37 rfl (by rw[F6.out];kernel_rfl) ?_
    go_wp2_with fail
    refine m1.mono ?_
    rintro e wy ⟨rfl,hy⟩
    clear m1
    obtain⟨hzz,k2,hpo⟩:=hy
    have HRZ:=Lib.hid hzz
    have Mc:=Lib.hid hpo
    have hgt:Hid (g≠tb):=Pd
    clear hzz hpo
    go_upto_region 27 with fail
    obtain⟨W5,ja⟩:∃W5,W5=wy.drew:=⟨_,rfl⟩
    have d2:W5.cell? ⟨tb,2,none⟩=some (.int .i64 o):=by rw[ja];exact k2
    have h2:(W5.setRow g aI).cell? ⟨tb,2,none⟩=some (.int .i64 o):=(World.cell?_of_block (a:=⟨tb,2,none⟩) (iG W5 g tb aI hgt.out)).trans d2
    have PS:Hid (W5.heap[g]? =some (.cells aI 37 (0,0))):=Lib.hid (by rw[ja];exact HRZ.out)
    have Tx:Hid (Post (.agg aI) o c (W5.setRow g aI)):=Lib.hid (by rw[ja];exact Mc.out)
    refine Ord.gH (λb w=>w=if b then W5.setRow g aI else W5) 6 rfl (by kernel_rfl) (by kernel_rfl) (by rw[ja];rfl) ?_
    clear ja k2
    refine Ord.aP (v:=?_) rfl rfl (λw=>?_) (λK hK=>?_)
    rotate_left
    ·(go_simp;first|done|exact rfl)
    go_simp
    refine hK _ ?_
    clear hK K
    refine Ord.aP (v:=?_) rfl rfl (λw=>?_) (λK hK=>?_)
    rotate_left
    ·(go_simp;first|done|exact rfl)
    go_simp
    refine hK _ ?_
    clear hK K
    refine Ord.aP (v:=?_) rfl rfl (λw=>?_) (λK hK=>?_)
    rotate_left
    ·(go_simp;first|done|exact rfl)
    go_simp
    refine hK _ ?_
    clear hK K
    refine Ord.aP (v:=?_) rfl rfl (λw=>?_) (λK hK=>?_)
    rotate_left
    ·(go_simp;first|done|exact rfl)
    go_simp
    refine hK _ ?_
    clear hK K
    refine Ord.jL (v:=?_) rfl rfl (λb w hS=>?_) (λK hK=>?_)
    rotate_left
    ·(cases b<;>(simp only[Bool.false_eq_true,if_true,if_false]at hS;rw[hS];go_simp;first|done|exact rfl))
    go_simp
    refine hK _ ?_
    clear hK K
    refine Ord.aP (v:=?_) rfl rfl (λw=>?_) (λK hK=>?_)
    rotate_left
    ·(go_simp;first|done|exact rfl)
    go_simp
    refine hK _ ?_
    clear hK K
    refine Ord.gu rfl rfl _ _ _ rfl rfl g aI (by first|rfl|(rw[HG.out];rfl)) rfl _ _ (λw hS=>by simp only[Bool.false_eq_true,if_false]at hS;rw[hS];exact PS.out) (by kernel_rfl) rfl iV (λw hS=>by simp only[Bool.false_eq_true,if_false]at hS;rw[hS];rfl) ?_
    refine Ord.aP (v:=?_) rfl rfl (λw=>?_) (λK hK=>?_)
    rotate_left
    ·(go_simp;first|done|exact rfl)
    go_simp
    refine hK _ ?_
    clear hK K
    refine Ord.aP (v:=?_) rfl rfl (λw=>?_) (λK hK=>?_)
    rotate_left
    ·(go_simp;first|done|exact rfl)
    go_simp
    refine hK _ ?_
    clear hK K
    refine Ord.rF (λw hS=>?_)
    have hS:w=W5.setRow g aI:=hS
    rw[hS]
    clear hS
    go_wp2_with fail
    refine bodyPost_ret (fB rfl _ _ g _ aI (0,0) _ (by first|rfl|(rw[HG.out];rfl)) (setRow_heap W5 g _ aI _ _ PS.out) Tryz.underlying37 rfl (by kernel_rfl)) rfl ?_
    exact⟨_,_,_,rfl,Tx.out⟩
   |subOk x1 x2 hS=>
    obtain⟨Q,qa,qn,qc,k3,k0,k5,k2q,⟨⟨v1,c1⟩,⟨v3,c3⟩,f1,f3,f31⟩,hq2,m1⟩:=hS.out wc hcut.out
    obtain⟨cs,hcs⟩:∃cs,cs=aB Q (.slice qa qn qc):=⟨_,rfl⟩
    rw[<-hcs]at hq2 m1
    have F6:=Lib.hid hcs
    have HC1:Hid (cs.all (·.oneCell')=true):=Lib.hid (by rw[hcs];exact cZ Q qa qn qc)
    clear hcs
    have HQ:=Lib.hid hq2
    have M1:=Lib.hid m1
    clear hq2 m1 hS n9 n9b hcut
    go_upto_region 25 with fail
    have m1:=M1.out
    clear M1 k3 k0 k5 k2q c1 c3 f1 f3 f31
    refine wp_region_lit ?_
    refine wpList_load_row rfl _ _ rfl q rfl _ _ _ _ HQ.out Tryz.underlying37 rfl (by rw[F6.out];kernel_rfl) ?_
    go_wp2_with fail
    refine m1.mono ?_
    rintro e wy ⟨rfl,hy⟩
    clear m1
    obtain⟨hzz,hqq,hpo⟩:=hy
    have HZZ:=Lib.hid hzz
    have HQQ:=Lib.hid hqq
    have Tx:=Lib.hid hpo
    clear hzz hqq hpo
    go_upto_region 28 with fail
    refine wp_region_lit ?_
    refine wpList_load_row rfl _ _ rfl q rfl _ _ _ _ HQQ.out Tryz.underlying37 rfl (by rw[F6.out];kernel_rfl) ?_
    refine wpList_store_row rfl _ _ _ rfl g cs (by first|rfl|(rw[HG.out];rfl)) rfl _ _ HZZ.out (by rw[F6.out];kernel_rfl) (by rw[F6.out];rfl) HC1.out ?_
    go_wp2_with fail
    refine bodyPost_ret (fB rfl _ _ g _ cs (0,0) _ (by first|rfl|(rw[HG.out];rfl)) (setRow_heap wy g _ cs _ _ HZZ.out) Tryz.underlying37 rfl (by rw[F6.out];kernel_rfl)) rfl ?_
    exact⟨_,_,_,rfl,Tx.out⟩
   |opBad op hop o c hc Pd hS=>
    obtain⟨Q,qa,qn,qc,k3,k0,hq2,m1⟩:=hS.out wc hcut.out
    obtain⟨cs,hcs⟩:∃cs,cs=aB Q (.slice qa qn qc):=⟨_,rfl⟩
    rw[<-hcs]at hq2 m1
    have F6:=Lib.hid hcs
    have HC1:Hid (cs.all (·.oneCell')=true):=Lib.hid (by rw[hcs];exact cZ Q qa qn qc)
    clear hcs
    have HQ:=Lib.hid hq2
    have M1:=Lib.hid m1
    clear hq2 m1 hS n9 n9b hcut
    go_upto_region 25 with fail
    have m1:=M1.out
    clear M1 k3 k0
    refine wp_region_lit ?_
    refine wpList_load_row rfl _ _ rfl q rfl _ _ _ _ HQ.out Tryz.underlying37 rfl (by rw[F6.out];kernel_rfl) ?_
    go_wp2_with fail
    refine m1.mono ?_
    rintro e wy ⟨rfl,hy⟩
    clear m1
    obtain⟨hzz,k2,hpo⟩:=hy
    have HRZ:=Lib.hid hzz
    have Mc:=Lib.hid hpo
    have hgt:Hid (g≠tb):=Pd
    clear hzz hpo
    go_upto_region 27 with fail
    obtain⟨W5,ja⟩:∃W5,W5=wy.drew:=⟨_,rfl⟩
    have d2:W5.cell? ⟨tb,2,none⟩=some (.int .i64 o):=by rw[ja];exact k2
    have h2:(W5.setRow g aI).cell? ⟨tb,2,none⟩=some (.int .i64 o):=(World.cell?_of_block (a:=⟨tb,2,none⟩) (iG W5 g tb aI hgt.out)).trans d2
    have PS:Hid (W5.heap[g]? =some (.cells aI 37 (0,0))):=Lib.hid (by rw[ja];exact HRZ.out)
    have Tx:Hid (Post (.agg aI) o c (W5.setRow g aI)):=Lib.hid (by rw[ja];exact Mc.out)
    refine Ord.gH (λb w=>w=if b then W5.setRow g aI else W5) 6 rfl (by kernel_rfl) (by kernel_rfl) (by rw[ja];rfl) ?_
    clear ja k2
    refine Ord.aP (v:=?_) rfl rfl (λw=>?_) (λK hK=>?_)
    rotate_left
    ·(go_simp;first|done|exact rfl)
    go_simp
    refine hK _ ?_
    clear hK K
    refine Ord.aP (v:=?_) rfl rfl (λw=>?_) (λK hK=>?_)
    rotate_left
    ·(go_simp;first|done|exact rfl)
    go_simp
    refine hK _ ?_
    clear hK K
    refine Ord.aP (v:=?_) rfl rfl (λw=>?_) (λK hK=>?_)
    rotate_left
    ·(go_simp;first|done|exact rfl)
    go_simp
    refine hK _ ?_
    clear hK K
    refine Ord.aP (v:=?_) rfl rfl (λw=>?_) (λK hK=>?_)
    rotate_left
    ·(go_simp;first|done|exact rfl)
    go_simp
    refine hK _ ?_
    clear hK K
    refine Ord.jL (v:=?_) rfl rfl (λb w hS=>?_) (λK hK=>?_)
    rotate_left
    ·(cases b<;>(simp only[Bool.false_eq_true,if_true,if_false]at hS;rw[hS];go_simp;first|done|exact rfl))
    go_simp
    refine hK _ ?_
    clear hK K
    refine Ord.aP (v:=?_) rfl rfl (λw=>?_) (λK hK=>?_)
    rotate_left
    ·(go_simp;first|done|exact rfl)
    go_simp
    refine hK _ ?_
    clear hK K
    refine Ord.gu rfl rfl _ _ _ rfl rfl g aI (by first|rfl|(rw[HG.out];rfl)) rfl _ _ (λw hS=>by simp only[Bool.false_eq_true,if_false]at hS;rw[hS];exact PS.out) (by kernel_rfl) rfl iV (λw hS=>by simp only[Bool.false_eq_true,if_false]at hS;rw[hS];rfl) ?_
    refine Ord.aP (v:=?_) rfl rfl (λw=>?_) (λK hK=>?_)
    rotate_left
    ·(go_simp;first|done|exact rfl)
    go_simp
    refine hK _ ?_
    clear hK K
    refine Ord.aP (v:=?_) rfl rfl (λw=>?_) (λK hK=>?_)
    rotate_left
    ·(go_simp;first|done|exact rfl)
    go_simp
    refine hK _ ?_
    clear hK K
    refine Ord.rF (λw hS=>?_)
    have hS:w=W5.setRow g aI:=hS
    rw[hS]
    clear hS
    go_wp2_with fail
    refine bodyPost_ret (fB rfl _ _ g _ aI (0,0) _ (by first|rfl|(rw[HG.out];rfl)) (setRow_heap W5 g _ aI _ _ PS.out) Tryz.underlying37 rfl (by kernel_rfl)) rfl ?_
    exact⟨_,_,_,rfl,Tx.out⟩
   |opOk op hop hS=>
    obtain⟨Q,qa,qn,qc,k3,k0,hq2,m1⟩:=hS.out wc hcut.out
    obtain⟨cs,hcs⟩:∃cs,cs=aB Q (.slice qa qn qc):=⟨_,rfl⟩
    rw[<-hcs]at hq2 m1
    have F6:=Lib.hid hcs
    have HC1:Hid (cs.all (·.oneCell')=true):=Lib.hid (by rw[hcs];exact cZ Q qa qn qc)
    clear hcs
    have HQ:=Lib.hid hq2
    have M1:=Lib.hid m1
    clear hq2 m1 hS n9 n9b hcut
    go_upto_region 25 with fail
    have m1:=M1.out
    clear M1 k3 k0
    refine wp_region_lit ?_
    refine wpList_load_row rfl _ _ rfl q rfl _ _ _ _ HQ.out Tryz.underlying37 rfl (by rw[F6.out];kernel_rfl) ?_
    go_wp2_with fail
    refine m1.mono ?_
    rintro e wy ⟨rfl,hy⟩
    clear m1
    obtain⟨hzz,hqq,hpo⟩:=hy
    have HZZ:=Lib.hid hzz
    have HQQ:=Lib.hid hqq
    have Tx:=Lib.hid hpo
    clear hzz hqq hpo
    go_upto_region 28 with fail
    refine wp_region_lit ?_
    refine wpList_load_row rfl _ _ rfl q rfl _ _ _ _ HQQ.out Tryz.underlying37 rfl (by rw[F6.out];kernel_rfl) ?_
    refine wpList_store_row rfl _ _ _ rfl g cs (by first|rfl|(rw[HG.out];rfl)) rfl _ _ HZZ.out (by rw[F6.out];kernel_rfl) (by rw[F6.out];rfl) HC1.out ?_
    go_wp2_with fail
    refine bodyPost_ret (fB rfl _ _ g _ cs (0,0) _ (by first|rfl|(rw[HG.out];rfl)) (setRow_heap wy g _ cs _ _ HZZ.out) Tryz.underlying37 rfl (by rw[F6.out];kernel_rfl)) rfl ?_
    exact⟨_,_,_,rfl,Tx.out⟩
def Gu (x:Int):Int×Int:=if-1000000000000000<=x/\x<=1000000000000000 then(x,0)else(0,12)
theorem MK (x:Int)(w:World)(b1 b2:Bool)(h1:decide (-1000000000000000<=x)=b1)(h2:decide (x<=1000000000000000)=b2):
 Calls Tryz.prog 237 #[.int .i64 x] w λe w'=>e=.returned (.bool (b1&&b2))/\w=w':=by
 cases b1
 all_goals cases b2
 all_goals simp only[decide_eq_true_eq,decide_eq_false_iff_not]at h1 h2
 all_goals
  go_enter Tryz.func237,Tryz.ntmps237
  go_wp2_with fail
  go_ret
  exact⟨rfl,rfl⟩
theorem CV (x:Int)(w:World):
 Calls Tryz.prog 278 #[.int .i64 x] w λe w'=>e=.returned (.tuple #[.int .i64 (Gu x).1,.int .i64 (Gu x).2])/\w=w':=by
 have n1:=MK x w _ _ rfl rfl
 by_cases h: -1000000000000000<=x/\x<=1000000000000000
 ·have e1:Gu x=(x,0):=if_pos h
  rw[decide_eq_true h.1,decide_eq_true h.2]at n1
  rw[e1]
  clear e1 h
  go_enter Tryz.func278,Tryz.ntmps278
  go_wp2_with fail
  refine n1.mono ?_
  rintro e w1 ⟨rfl,rfl⟩
  clear n1
  go_wp2_with fail
  go_ret2
  exact⟨rfl,rfl⟩
 ·have e1:Gu x=(0,12):=if_neg h
  have e2:(decide (-1000000000000000<=x)&&decide (x<=1000000000000000))=false:=by
   rw[Bool.eq_false_iff]
   intro h2
   simp only[Bool.and_eq_true,decide_eq_true_eq]at h2
   exact h h2
  rw[e2]at n1
  rw[e1]
  clear e1 e2 h
  go_enter Tryz.func278,Tryz.ntmps278
  go_wp2_with fail
  refine n1.mono ?_
  rintro e w1 ⟨rfl,rfl⟩
  clear n1
  go_wp2_with fail
  go_ret2
  exact⟨rfl,rfl⟩
def PiC (s:ByteArray)(w:World):Prop:=Calls Tryz.prog 277 #[.string s,.int .i64 10,.int .i64 64] w λe w'=>
 (match Lib.parseIntB 64 s.data.toList with
  | .ok v=>e=.returned (.tuple #[.int .i64 v,.nilIface])
  |_=>∃n te pe,e=.returned (.tuple #[.int .i64 n,.iface te pe]))/\Below w.heap.size w w'
theorem am_pi (s:ByteArray)(w:World)(m:Int)(hs:s.size<=1048576)(h:uG m w):PiC s w:=by
 unfold PiC
 obtain⟨_,⟨a,b,h2⟩,⟨c,d,h3⟩⟩:=h
 rcases hr:Lib.parseIntB 64 s.data.toList with v|_|_
 ·refine(Tryz.strconv_ParseInt_10_at64_ok s (by omega) v hr w).mono ?_
  rintro e w' ⟨rfl,hw⟩
  refine⟨rfl,?_⟩
  rcases hw with rfl|⟨t,rfl⟩
  ·exact Below.refl _ _
  ·exact Lib.bytesWorld_below _ _ _
 ·refine(Tryz.strconv_ParseInt_10_at64_syntax s (by omega) hr _ w h3 (Or.inr ⟨_,_,rfl⟩)).mono ?_
  rintro e w' ⟨N,rfl,_,_,hb⟩
  exact⟨⟨_,_,_,rfl⟩,hb⟩
 ·refine(Tryz.strconv_ParseInt_10_at64_range s (by omega) hr _ w h2 (Or.inr ⟨_,_,rfl⟩)).mono ?_
  rintro e w' ⟨N,rfl,_,_,hb⟩
  exact⟨⟨_,_,_,rfl⟩,hb⟩
def yt (s:ByteArray):Int×Int:=
 match Lib.parseIntB 64 ((Lib.cut (Lib.trimPrefix s.data.toList [45]) [46]).1++(Lib.cut (Lib.trimPrefix s.data.toList [45]) [46]).2.1)with
 | .ok v=>Gu (if Lib.hasPrefix s.data.toList [45]=true then wrap64 (-v)else v)
 |_=>(0,12)
theorem MR (s:ByteArray)(w:World)(_m:Int)(_hs:s.size<=32)(r:List UInt8)(hp:Bool)(u c:ByteArray)(v:Int)(x y:Int)
 (hu1:(u.toList==([]:List UInt8))=false) (_hu0:(u.toList.isEmpty)=false) (hc2:(c.size:Int)=2) (Hd:u.size<=32) (OG:(1<(u.size:Int))->¬PlainAid.bt u 0=48) (hr0:(hp=true)->(r==[48,46,48,48])=false)
 (h1:Hid (∀W,Calls Tryz.prog 274 #[.string s,.string ⟨#[45]⟩] W λe w'=>e=.returned (.tuple #[.string ⟨r.toArray⟩,.bool hp])/\w'=W))
 (h2:Calls Tryz.prog 275 #[.string ⟨r.toArray⟩,.string ⟨#[46]⟩] w λe w'=>e=.returned (.tuple #[.string u,.string c,.bool true])/\∃n,w'=w.drewN n)
 (H3:Hid (∀W,Calls Tryz.prog 276 #[.string u] W λe w'=>e=.returned (.bool true)/\Below W.heap.size W w'))
 (H4:Hid (∀W,Calls Tryz.prog 276 #[.string c] W λe w'=>e=.returned (.bool true)/\Below W.heap.size W w'))
 (H5:Hid (∀W,Below w.heap.size w W->Calls Tryz.prog 277 #[.string (u++c),.int .i64 10,.int .i64 64] W λe w'=>e=.returned (.tuple #[.int .i64 v,.nilIface])/\Below W.heap.size W w'))
 (H6:Hid (∀W,Calls Tryz.prog 278 #[.int .i64 (if hp=true then wrap64 (-v)else v)] W λe w'=>e=.returned (.tuple #[.int .i64 x,.int .i64 y])/\W=w')):
 Calls Tryz.prog 254 #[.string s] w λe w'=>e=.returned (.tuple #[.int .i64 x,.int .i64 y])/\Below w.heap.size w w':=by
 have hub:=PlainAid.get_bt u
 have hcs:c.size<=32:=by omega
 by_cases hu2:1<(u.size:Int)
 all_goals cases hp
 all_goals try have hu48':=OG hu2
 all_goals try have hr0':=hr0 rfl
 all_goals clear OG hr0
 all_goals
  have h1':=h1.out w
  simp only[Bool.false_eq_true,if_false,if_true]at H6
  clear h1
  go_enter Tryz.func254,Tryz.ntmps254
  go_wp2_with fail
  refine h1'.mono ?_
  rintro e w' ⟨rfl,rfl⟩
  go_wp2_with fail
  refine h2.mono ?_
  rintro e w' ⟨rfl,n,rfl⟩
  clear h1' h2
  go_wp2_with (go_at_call 276;first|(refine(H3.out _).mono ?_;rintro e w1 ⟨rfl,hb1⟩)|(refine(H4.out _).mono ?_;rintro e w2 ⟨rfl,hb2⟩))
  have jV:=Lib.hid (((below_drewN' (Below.refl w'.heap.size w') n).trans (hb1.mono (by simp))).trans (hb2.mono (by have:=hb1.size;simpa using this)))
  refine(H5.out _ jV.out).mono ?_
  rintro e w3 ⟨rfl,hb3⟩
  have HB:=Lib.hid (jV.out.trans (hb3.mono jV.out.size))
  clear hb1 hb2 hb3 H3 H4 H5
  go_wp2_with fail
  refine(H6.out _).mono ?_
  rintro e w4 ⟨rfl,rfl⟩
  clear H6
  go_wp2_with fail
  go_ret2
  exact⟨rfl,HB.out⟩
theorem Jv (s:ByteArray)(w:World)(_m:Int)(_hs:s.size<=32)(r:List UInt8)(hp:Bool)(u c:ByteArray)
 (hu1:(u.toList==([]:List UInt8))=false) (_hu0:(u.toList.isEmpty)=false) (hc2:(c.size:Int)=2) (Hd:u.size<=32) (OG:(1<(u.size:Int))->¬PlainAid.bt u 0=48) (hr0:(hp=true)->(r==[48,46,48,48])=false)
 (h1:Hid (∀W,Calls Tryz.prog 274 #[.string s,.string ⟨#[45]⟩] W λe w'=>e=.returned (.tuple #[.string ⟨r.toArray⟩,.bool hp])/\w'=W))
 (h2:Calls Tryz.prog 275 #[.string ⟨r.toArray⟩,.string ⟨#[46]⟩] w λe w'=>e=.returned (.tuple #[.string u,.string c,.bool true])/\∃n,w'=w.drewN n)
 (H3:Hid (∀W,Calls Tryz.prog 276 #[.string u] W λe w'=>e=.returned (.bool true)/\Below W.heap.size W w'))
 (H4:Hid (∀W,Calls Tryz.prog 276 #[.string c] W λe w'=>e=.returned (.bool true)/\Below W.heap.size W w'))
 (H5:Hid (∀W,Below w.heap.size w W->Calls Tryz.prog 277 #[.string (u++c),.int .i64 10,.int .i64 64] W λe w'=>(∃n te pe,e=.returned (.tuple #[.int .i64 n,.iface te pe]))/\Below W.heap.size W w')):
 Calls Tryz.prog 254 #[.string s] w λe w'=>e=.returned (.tuple #[.int .i64 0,.int .i64 12])/\Below w.heap.size w w':=by
 have hub:=PlainAid.get_bt u
 have hcs:c.size<=32:=by omega
 by_cases hu2:1<(u.size:Int)
 all_goals cases hp
 all_goals try have hu48':=OG hu2
 all_goals try have hr0':=hr0 rfl
 all_goals clear OG hr0
 all_goals
  have h1':=h1.out w
  clear h1
  go_enter Tryz.func254,Tryz.ntmps254
  go_wp2_with fail
  refine h1'.mono ?_
  rintro e w' ⟨rfl,rfl⟩
  go_wp2_with fail
  refine h2.mono ?_
  rintro e w' ⟨rfl,n,rfl⟩
  clear h1' h2
  go_wp2_with (go_at_call 276;first|(refine(H3.out _).mono ?_;rintro e w1 ⟨rfl,hb1⟩)|(refine(H4.out _).mono ?_;rintro e w2 ⟨rfl,hb2⟩))
  have jV:=Lib.hid (((below_drewN' (Below.refl w'.heap.size w') n).trans (hb1.mono (by simp))).trans (hb2.mono (by have:=hb1.size;simpa using this)))
  refine(H5.out _ jV.out).mono ?_
  rintro e w3 ⟨⟨z,te,pe,rfl⟩,hb3⟩
  have HB:=Lib.hid (jV.out.trans (hb3.mono jV.out.size))
  clear hb1 hb2 hb3 H3 H4 H5
  go_wp2_with fail
  go_ret2
  exact⟨rfl,HB.out⟩
theorem KZ (s:ByteArray)(w:World)(m:Int)(hs:s.size<=32)(h:uG m w)(hdec:Lx.decimal s.data.toList=true):
 Calls Tryz.prog 254 #[.string s] w λe w'=>e=.returned (.tuple #[.int .i64 (yt s).1,.int .i64 (yt s).2])/\Below w.heap.size w w':=by
 have hbad:=xX s.data.toList
 rw[hdec]at hbad
 obtain⟨r,hr⟩:∃r,r=Lib.trimPrefix s.data.toList [45]:=⟨_,rfl⟩
 obtain⟨hp,hhp⟩:∃hp,hp=Lib.hasPrefix s.data.toList [45]:=⟨_,rfl⟩
 obtain⟨u,hu⟩:∃u:ByteArray,u=⟨(Lib.cut r [46]).1.toArray⟩:=⟨_,rfl⟩
 obtain⟨c,hc⟩:∃c:ByteArray,c=⟨(Lib.cut r [46]).2.1.toArray⟩:=⟨_,rfl⟩
 obtain⟨b,hb⟩:∃b,b=(Lib.cut r [46]).2.2:=⟨_,rfl⟩
 have h1:=λW=>Tryz.strings_CutPrefix s ⟨#[45]⟩ W
 have hl1:r.length<=32:=by have:=kJ s.data.toList [45];rw[Lib.size_eq]at hs;rw[hr];omega
 have h2:=Tryz.strings_Cut ⟨r.toArray⟩ ⟨#[46]⟩ m w (by rw[dS];omega) h.maxlen
 have hl2:=(oG r [46]).1
 have hl3:=(oG r [46]).2
 have hval:yt s=(match Lib.parseIntB 64 (u++c).data.toList with| .ok v=>Gu (if hp=true then wrap64 (-v)else v)|_=>(0,12)):=by
  unfold yt
  rw[<-hr,<-hhp,hu,hc]
  congr 1
 simp only at h1 h2
 rw[<-hr,<-hhp]at h1 hbad
 rw[<-hu,<-hc,<-hb]at h2 hbad
 have hdu:((Lib.cut r [46]).1.all λc=>Lx.digit (c.toNat:Int))=(u.data.toList.all λc=>Lx.digit (c.toNat:Int)):=by rw[hu]
 have Gr:((Lib.cut r [46]).2.1.all λc=>Lx.digit (c.toNat:Int))=(c.data.toList.all λc=>Lx.digit (c.toNat:Int)):=by rw[hc]
 rw[hdu,Gr]at hbad
 have hu2:u.size<=32:=by rw[hu,dS];omega
 have hc2:c.size<=32:=by rw[hc,dS];omega
 clear hhp hr hu hc hb hl2 hl3 hdu Gr
 have H3:=λW=>wT u W (by omega)
 have H4:=λW=>wT c W (by omega)
 have H5:=λW hW=>am_pi (u++c) W m (by rw[ByteArray.size_append];omega) hW
 unfold Mv at hbad
 simp only[Bool.not_true,Bool.or_eq_false_iff,Bool.not_eq_false',Bool.and_eq_false_iff,bne_eq_false_iff_eq]at hbad
 obtain⟨⟨⟨⟨⟨⟨hb1,hb2⟩,hb3⟩,hb4⟩,hb5⟩,hb6⟩,hb7⟩:=hbad
 subst hb1
 rw[hb4]at H3
 rw[hb5]at H4
 have e1:(u.toList==([]:List UInt8))=false:=by
  rw[beq_eq_false_iff_ne]
  intro h;rw[h]at hb2;cases hb2
 have e2:1<(u.size:Int)->¬PlainAid.bt u 0=48:=by
  intro h1 h2
  rcases hb6 with h3|h3
  ·simp at h3;omega
  ·rw[h2]at h3;exact absurd h3 (by decide)
 have e3:hp=true->(r==[48,46,48,48])=false:=by
  intro h1
  rcases hb7 with h3|h3
  ·rw[h1]at h3;cases h3
  ·exact h3
 have hb3':(c.size:Int)=2:=by simpa using hb3
 unfold PiC at H5
 rcases hpi:Lib.parseIntB 64 (u++c).data.toList with v|_|_
 ·
  rw[hpi]at H5 hval
  simp only[]at H5 hval
  rw[hval]
  exact MR s w m hs r hp u c v _ _ e1 hb2 hb3' hu2 e2 e3 (Lib.hid h1) h2 (Lib.hid H3) (Lib.hid H4) (Lib.hid λW hW=>H5 W (h.below hW)) (Lib.hid λW=>CV _ W)
 all_goals
  rw[hpi]at H5 hval
  simp only[]at H5 hval
  rw[hval]
  exact Jv s w m hs r hp u c e1 hb2 hb3' hu2 e2 e3 (Lib.hid h1) h2 (Lib.hid H3) (Lib.hid H4) (Lib.hid λW hW=>H5 W (h.below hW))
end Go.Proofs.YtnjjeapcalkmaaaGreatDoor
