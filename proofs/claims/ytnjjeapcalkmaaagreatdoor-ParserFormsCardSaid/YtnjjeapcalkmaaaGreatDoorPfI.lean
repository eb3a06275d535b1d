/-
  Part 9 of a proof; written short by a program out of longer texts of mine.
-/
import Derived.Test.YtnjjeapcalkmaaaGreatDoorPfH
set_option maxRecDepth 100000
set_option maxHeartbeats 4000000
set_option linter.unusedVariables false
set_option linter.unusedSimpArgs false
namespace Go.Proofs.YtnjjeapcalkmaaaGreatDoor
open Go.RowKit
open Go.Proofs.YtnjjeapcalkmaaaGreatDoor.Ord
open Go.Proofs.YtnjjeapcalkmaaaGreatDoor.Ev (AV Mem Fr ja aR eD Sh Stop Qof aS bf bA jC lw fmC)
def Mo (V:Nat->ByteArray->Bool)(i:Ps.Ins)(k:Nat)(x:Ps.Link)(rows:List (Option (Nat×Nat)×List Value))(f:FuncId)(vs:List AV):Option Value:=
 if f=80 then(match vs.map (eD rows)with|[.int .i64 m,.string s]=>if m=0\/m=1\/m=2 then some (.bool (V m.toNat s))else none|_=>none)
 else if f=138 then(match vs with|[.a 0 0 16]=>some (.bool ((i.kind==3)||(i.kind==4)))|_=>none)
 else if f=139 then(match vs with|[.a 0 0 16]=>some (.bool ((i.kind==1)||(i.kind==2)))|_=>none)
 else if f=140 then(match vs with|[.a 0 0 16]=>some (.bool (if (i.kind==0)=true then(i.asset.toList==[67,65,83,72])else V 0 i.asset))|_=>none)
 else if f=143 then(match vs with|[.a 0 0 16]=>some (.int .i64 (if i.partial_=true then i.quantity else 0))|_=>none)
 else if f=144 then(match vs,aR rows 1 1 with|[.r 1 1,.r 1 2],.slice _ _ _=>some (.bool (jB (i.links.take k) x.ref))|_,_=>none)
 else vo (List.map (eD rows)) f vs
def IJ (rows:List (Option (Nat×Nat)×List Value))(o:Oper)(ov:Operand->Option AV):Option AV:=match o.op with
 | .call ⟨.builtin .len,xs,ts⟩=>(match xs.toList,ts.toList with
   |[x],[t]=>if o.type=3/\t=32 then(match ov x with
    |some a=>match eD rows a with
     | .slice _ n _=>some (.v (.int .i64 (n:Int)))
     |_=>none
    |none=>none)else none
   |_,_=>none)
 | .slice t x none (some y) none=>if t=32 then(match ov x,ov y with
   |some (.r 0 15),some (.r 1 0)=>(match aR rows 1 1 with
    | .slice _ _ _=>some (.r 1 1)
    |_=>none)
   |_,_=>none)else none
 | .makeFunc (.func f) fs cs=>(match fs.toList,cs.toList with
   |[],[x]=>if f=145 then(match ov x with
    |some (.p 2 0)=>(match aR rows 1 1 with
     | .slice _ _ _=>some (.r 1 2)
     |_=>none)
    |_=>none)else none
   |_,_=>none)
 |_=>Ev.qo (eD rows) o ov
def ckM (V:Nat->ByteArray->Bool)(i:Ps.Ins)(k:Nat)(x:Ps.Link)(rows:List (Option (Nat×Nat)×List Value)):Mem Unit:=ja pE rows (Mo V i k x rows) (IJ rows)
def Ny (g:Nat)(i:Ps.Ins)(lv:Value):List (Option (Nat×Nat)×List Value):=[(some (g,0),aB i lv)]
def Oo (g:Nat)(i:Ps.Ins)(sb sn sc k h:Nat)(x:Ps.Link):List (Option (Nat×Nat)×List Value):=[(some (g,0),aB i (.slice (some ⟨sb,0,none⟩) sn sc)),(none,[.int .i64 k,.slice (some ⟨sb,0,none⟩) k sc,.func (.func 145) #[] #[.pointer (some ⟨h,0,none⟩)]]),(some (h,0),[.int .i64 x.type,.string x.ref])]
def CkIn (i:Ps.Ins)(k:Nat)(x:Ps.Link)(rows:List (Option (Nat×Nat)×List Value))(W0:World):Prop:=∃(sb h c sn:Nat),aR rows 0 15=.slice (some ⟨sb,0,none⟩) sn c/\aR rows 1 0=.int .i64 (k:Int)/\aR rows 1 1=.slice (some ⟨sb,0,none⟩) k c/\aR rows 1 2=.func (.func 145) #[] #[.pointer (some ⟨h,0,none⟩)]/\eD rows (.p 2 0)=.pointer (some ⟨h,0,none⟩)/\k<=sn/\sn<=c/\sn<=1000/\
 ∀w,Below W0.heap.size W0 w->Calls Tryz.prog 144 #[.slice (some ⟨sb,0,none⟩) k c,.func (.func 145) #[] #[.pointer (some ⟨h,0,none⟩)]] w λe w'=>e=.returned (.bool (jB (i.links.take k) x.ref))/\Below w.heap.size w w'
theorem NH {V:Nat->ByteArray->Bool}{i:Ps.Ins}{k:Nat}{x:Ps.Link}{lv:Value}{o:Option (Nat×Nat)}{rs:List (Option (Nat×Nat)×List Value)}{W0:World}(hrow:∀(k b o2:Nat) (l:List Value),((o,aB i lv)::rs)[k]? =some (some (b,o2),l)->∀w,Below W0.heap.size W0 w->∀(j:Nat) (v:Value),l[j]? =some v->w.cell? ⟨b,o2+j,none⟩=some v)
 (hV:∀(m:Nat) (s:ByteArray) (w':World),m<3->Below W0.heap.size W0 w'->Calls Tryz.prog 80 #[.int .i64 m,.string s] w' λe w''=>e=.returned (.bool (V m s))/\Below w'.heap.size w' w'')
 (hc:∀sb n c,aR ((o,aB i lv)::rs) 1 1=.slice sb n c->CkIn i k x ((o,aB i lv)::rs) W0):
 Ev.Ok Tryz.prog (λ(_:Unit) w=>Below W0.heap.size W0 w) (ckM V i k x ((o,aB i lv)::rs)):=by
 have agg0:eD ((o,aB i lv)::rs) (.a 0 0 16)=.agg (aB i lv).toArray:=rfl
 have fin:∀{f:FuncId} {args:Array Value} {v:Value} {w:World},Below W0.heap.size W0 w->(Calls Tryz.prog f args w λe w'=>e=.returned v/\Below w.heap.size w w')->Calls Tryz.prog f args w λe w'=>e=.returned v/\Below W0.heap.size W0 w':=λhw h=>h.mono λe w' k=>⟨k.1,hw.trans (k.2.mono hw.size)⟩
 refine Ev.jH (λt f d h=>q8 h) hrow (λf vs v h=>?_) (λop ov v h ρ hov w hS=>?_)
 ·unfold Mo at h
  split at h
  ·rename_i hf
   subst hf
   split at h
   ·rename_i m s hm
    split at h
    ·rename_i h3
     cases h
     rw[hm]
     obtain⟨n,hn,hk3⟩:∃n:Nat,m=(n:Int)/\n<3:=by
      rcases h3 with rfl|rfl|rfl
      ·exact⟨0,rfl,by decide⟩
      ·exact⟨1,rfl,by decide⟩
      ·exact⟨2,rfl,by decide⟩
     subst hn
     exact⟨DT,λw hw=>fin hw (hV n s w hk3 hw)⟩
    ·cases h
   ·cases h
  split at h
  ·rename_i hf
   subst hf
   split at h
   ·cases h
    exact⟨ent105,λw hw=>fin hw (is_col w i lv _ _ rfl rfl)⟩
   ·cases h
  split at h
  ·rename_i hf
   subst hf
   split at h
   ·cases h
    exact⟨ent106,λw hw=>fin hw (is_sec w i lv _ _ rfl rfl)⟩
   ·cases h
  split at h
  ·rename_i hf
   subst hf
   split at h
   ·cases h
    exact⟨ent107,λw hw=>fin hw (Lm w i lv _ _ _ rfl rfl λw' hw'=>hV 0 i.asset w' (by decide) (hw.trans (hw'.mono hw.size)))⟩
   ·cases h
  split at h
  ·rename_i hf
   subst hf
   split at h
   ·cases h
    exact⟨ent110,λw hw=>fin hw (Ol w i lv _ rfl)⟩
   ·cases h
  split at h
  ·rename_i hf
   subst hf
   split at h
   ·rename_i sb n c h11
    cases h
    obtain⟨sb,h,c,sn,k1,k2,k3,k4,k5,k6,k7,k8,k9⟩:=hc _ _ _ h11
    refine⟨ent111,λw hw=>?_⟩
    have e1:List.map (eD ((o,aB i lv)::rs)) [AV.r 1 1,.r 1 2]=[.slice (some ⟨sb,0,none⟩) k c,.func (.func 145) #[] #[.pointer (some ⟨h,0,none⟩)]]:=by
     simp only[List.map_cons,List.map_nil]
     rw[show eD ((o,aB i lv)::rs) (.r 1 1)=_ from k3,show eD ((o,aB i lv)::rs) (.r 1 2)=_ from k4]
    rw[e1]
    exact fin hw (k9 w hw)
   ·cases h
  exact rM h
 ·unfold IJ at h
  split at h
  ·rename_i xs ts ho
   split at h
   ·rename_i x t hx ht2
    split at h
    ·rename_i ht
     obtain⟨ht,rfl⟩:=ht
     split at h
     ·rename_i a ha
      split at h
      ·rename_i sa n c hv
       cases h
       have h1:=hov _ _ ha
       rw[hv]at h1
       have hxs:xs=#[x]:=by rw[<-Array.toArray_toList (xs:=xs),hx]
       have hts:ts=#[32]:=by rw[<-Array.toArray_toList (xs:=ts),ht2]
       subst hxs
       subst hts
       clear hrow hV hc fin agg0 hov hx ht2 ha hv
       unfold execOp
       simp only[ho,ht]
       go_simp
       rfl
      ·cases h
     ·cases h
    ·cases h
   ·cases h
  ·rename_i t x y ho
   split at h
   ·rename_i ht
    subst ht
    split at h
    ·rename_i h1 h2
     split at h
     ·rename_i sb n c h11
      cases h
      obtain⟨sb,h,c,sn,k1,k2,k3,k4,k5,k6,k7,k8,k9⟩:=hc _ _ _ h11
      have e1:ρ x=.slice (some ⟨sb,0,none⟩) sn c:=(hov _ _ h1).trans k1
      have e2:ρ y=.int .i64 (k:Int):=(hov _ _ h2).trans k2
      rw[show eD ((o,aB i lv)::rs) (.r 1 1)=_ from k3]
      unfold execOp
      simp only[ho,e1,e2,Option.map_some,Option.map_none,Sem.run_bind,sl_to _ sn c k k6 k7 k8 w,Result.andThen_ok]
      rfl
     ·cases h
    ·cases h
   ·cases h
  ·rename_i f fs cs ho
   split at h
   ·rename_i x hfs hcs
    split at h
    ·rename_i hf
     subst hf
     split at h
     ·rename_i hx
      split at h
      ·rename_i sb n c h11
       cases h
       obtain⟨sb,h,c,sn,k1,k2,k3,k4,k5,k6,k7,k8,k9⟩:=hc _ _ _ h11
       have e1:ρ x=.pointer (some ⟨h,0,none⟩):=(hov _ _ hx).trans k5
       have hf1:fs=#[]:=by rw[<-Array.toArray_toList (xs:=fs),hfs]
       have hc1:cs=#[x]:=by rw[<-Array.toArray_toList (xs:=cs),hcs]
       subst hf1
       subst hc1
       rw[show eD ((o,aB i lv)::rs) (.r 1 2)=_ from k4]
       clear hrow hV hc fin agg0 hov k9 k1 k2 k3 k4 k5 h11
       unfold execOp
       simp only[ho,List.map_toArray,List.map_cons,List.map_nil,e1]
       go_simp
      ·cases h
     ·cases h
    ·cases h
   ·cases h
  ·exact Ev.pF h hov (λ_=>rfl) w
noncomputable def ckC:Code:=match Tryz.f81.body.getD .skip with
 | .seq _ (.seq _ c)=>c
 |c=>c
noncomputable def ckL:Code×List Ev.Fm:=aS bf ckC
noncomputable def ckG:Code×List Ev.Fm:=aS (bA 6) (jC ckL.1)
theorem O6 {Q:Exit->Act->World->Prop}{a:Act}{w:World}{id:Nat}{o1 o2 o3 o4 o5 o6:Oper}{sb sn sc k:Nat}{x:Ps.Link}(h1:o1.op=.move (.tmp 191))(h1d:o1.dst=some 193)(g1:o1.guard=none)(h2:o2.op=.indexAddr 32 (.tmp 189) (.tmp 191))(Ic:o2.dst=some 194)(g2:o2.guard=none)(h3:o3.op=.load 129 (.tmp 194))(Ry:o3.dst=some 195)(g3:o3.guard=none)
 (h4:o4.op=.alloc 129) (h4d:o4.dst=some 5) (g4:o4.guard=none) (h5:o5.op=.assign (.tmp 193)) (h5d:o5.dst=some 4) (g5:o5.guard=none) (h6:o6.op=.store 129 (.tmp 5) (.tmp 195)) (h6d:o6.dst=none) (g6:o6.guard=none)
 (hsz:a.tmps.size=225) (ht:a.tmps[191]? =some (.int .i64 (k:Int))) (hs:a.tmps[189]? =some (.slice (some ⟨sb,0,none⟩) sn sc)) (hk:k<sn) (c0:w.cell? ⟨sb,k*2,none⟩=some (.int .i64 x.type)) (c1:w.cell? ⟨sb,k*2+1,none⟩=some (.string x.ref))
 (hend:∀b:Act,b.defers=a.defers->b.tmps.size=225->b.tmps[5]? =some (.pointer (some ⟨w.heap.size,0,none⟩))->b.tmps[4]? =some (.int .i64 (k:Int))->(∀s:Nat,s≠4->s≠5->s≠193->s≠194->s≠195->b.tmps[s]? =a.tmps[s]?)->Q .normal b (w.alloc (.cells #[.int .i64 x.type,.string x.ref] 129))):(Code.region id #[o1,o2,o3,o4,o5,o6] false).wp Tryz.prog Q a w:=by
 have PT:(k:Int)<(sn:Int):=by omega
 refine wp_region_lit ?_
 refine fe g1 h1d (u:=.int .i64 (k:Int)) (by unfold execOp;rw[h1];simp only[eval_at ht];rfl) ?_
 obtain⟨t1,ht1⟩:∃t1,t1=a.tmps.setIfInBounds 193 (.int .i64 (k:Int)):=⟨_,rfl⟩
 have z1:t1.size=225:=by rw[ht1];simp[hsz]
 have r1:∀s:Nat,s≠193->t1[s]? =a.tmps[s]?:=λs n=>by rw[ht1,Array.getElem?_setIfInBounds_ne (λh=>n h.symm)]
 have q193:t1[193]? =some (.int .i64 (k:Int)):=by rw[ht1];simp[hsz]
 have q189:=(r1 189 (by decide)).trans hs
 have q191:=(r1 191 (by decide)).trans ht
 rw[<-ht1]
 clear ht1
 refine fe g2 Ic (u:=.pointer (some ⟨sb,k*2,none⟩)) (by
  have e1:(⟨t1,a.defers⟩:Act).eval (.tmp 189)=.slice (some ⟨sb,0,none⟩) sn sc:=eval_at q189
  have e2:(⟨t1,a.defers⟩:Act).eval (.tmp 191)=.int .i64 (k:Int):=eval_at q191
  clear hend q189 q191 q193 ht hs r1
  unfold execOp
  simp only[h2,e1,e2]
  go_simp) ?_
 obtain⟨t2,ht2⟩:∃t2,t2=t1.setIfInBounds 194 (.pointer (some ⟨sb,k*2,none⟩)):=⟨_,rfl⟩
 have z2:t2.size=225:=by rw[ht2];simp[z1]
 have r2:∀s:Nat,s≠194->t2[s]? =t1[s]?:=λs n=>by rw[ht2,Array.getElem?_setIfInBounds_ne (λh=>n h.symm)]
 have q194:t2[194]? =some (.pointer (some ⟨sb,k*2,none⟩)):=by rw[ht2];simp[z1]
 rw[<-ht2]
 clear ht2
 refine qR g3 Ry h3 (v:=.pointer (some ⟨sb,k*2,none⟩)) (eval_at q194) (u:=.agg #[.int .i64 x.type,.string x.ref]) (Ev.wM (t:=129) (n:=2) (by kernel_rfl) sb (k*2) w (λj=>([.int .i64 x.type,.string x.ref]:List Value).getD j (.bool false)) (λj hj=>match j,hj with|0,_=>c0|1,_=>c1|j+2,h=>absurd h (by omega))) ?_
 obtain⟨t3,ht3⟩:∃t3,t3=t2.setIfInBounds 195 (.agg #[.int .i64 x.type,.string x.ref]):=⟨_,rfl⟩
 have z3:t3.size=225:=by rw[ht3];simp[z2]
 have r3:∀s:Nat,s≠195->t3[s]? =t2[s]?:=λs n=>by rw[ht3,Array.getElem?_setIfInBounds_ne (λh=>n h.symm)]
 have q195:t3[195]? =some (.agg #[.int .i64 x.type,.string x.ref]):=by rw[ht3];simp[z2]
 rw[<-ht3]
 clear ht3
 refine wpList_plain g4 λK hK=>?_
 unfold Oper.wp
 rw[show(execOp (⟨t3,a.defers⟩:Act).eval o4).run Tryz.prog w=.ok (.value (.pointer (some ⟨w.heap.size,0,none⟩))) (w.alloc (.cells #[.int .i64 0,.string ByteArray.empty] 129))from by
  clear hend hK c0 c1 q189 q191 q193 q194 q195 ht hs r1 r2 r3
  unfold execOp;rw[h4];go_simp;first|done|rfl]
 refine hK _ _ ?_
 rw[h4d]
 show wpList _ _ _ _ ⟨t3.setIfInBounds 5 (.pointer (some ⟨w.heap.size,0,none⟩)),a.defers⟩ _
 obtain⟨t4,ht4⟩:∃t4,t4=t3.setIfInBounds 5 (.pointer (some ⟨w.heap.size,0,none⟩)):=⟨_,rfl⟩
 have z4:t4.size=225:=by rw[ht4];simp[z3]
 have r4:∀s:Nat,s≠5->t4[s]? =t3[s]?:=λs n=>by rw[ht4,Array.getElem?_setIfInBounds_ne (λh=>n h.symm)]
 have q5:t4[5]? =some (.pointer (some ⟨w.heap.size,0,none⟩)):=by rw[ht4];simp[z3]
 rw[<-ht4]
 clear ht4 hK
 have q193':t4[193]? =some (.int .i64 (k:Int)):=by rw[r4 193 (by decide),r3 193 (by decide),r2 193 (by decide)];exact q193
 refine fe g5 h5d (u:=.int .i64 (k:Int)) (by
  have e1:(⟨t4,a.defers⟩:Act).eval (.tmp 193)=.int .i64 (k:Int):=eval_at q193'
  unfold execOp;simp only[h5,e1];rfl) ?_
 refine wu (w':=w.alloc (.cells #[.int .i64 x.type,.string x.ref] 129)) g6 h6d ?_ ?_
 ·have e1:(⟨t4.setIfInBounds 4 (.int .i64 (k:Int)),a.defers⟩:Act).eval (.tmp 5)=.pointer (some ⟨w.heap.size,0,none⟩):=eval_at (by rw[Array.getElem?_setIfInBounds_ne (by decide)];exact q5)
  have e2:(⟨t4.setIfInBounds 4 (.int .i64 (k:Int)),a.defers⟩:Act).eval (.tmp 195)=.agg #[.int .i64 x.type,.string x.ref]:=eval_at (by rw[Array.getElem?_setIfInBounds_ne (by decide),r4 195 (by decide)];exact q195)
  unfold execOp
  simp only[h6,e1,e2]
  clear hend c0 c1 e1 e2 q189 q191 q193 q193' q194 q195 q5 ht hs r1 r2 r3 r4
  go_simp
  first|done|rfl
 refine aU ?_
 refine hend _ rfl (by simp[z4]) (by rw[Array.getElem?_setIfInBounds_ne (by decide)];exact q5) (by simp[z4]) λs n1 n2 n3 n4 n5=>?_
 rw[Array.getElem?_setIfInBounds_ne (λh=>n1 h.symm),r4 s n2,r3 s n5,r2 s n4,r1 s n3]
theorem in_w1 (w:World)(i:Ps.Ins)(sa:Option Addr)(sn sc:Nat)(V:Nat->ByteArray->Bool)(x x1 xL:Int)(hx1:x1=aY (gG V i sn))(hn8:x1=0->sn<=8)(HSN:Hid (sn=i.links.length))(HSC:Hid (sn<=sc))(hLE:Hid (Ps.eU V i [] i.links=xL))(HLK:Hid (0<sn->∃sb,sa=some ⟨sb,0,none⟩/\∀W,Below w.heap.size w W->jD W sb i.links))(hx:x=if x1≠0 then x1 else xL)(hV0:∀(s:ByteArray) (w':World),Below w.heap.size w w'->Calls Tryz.prog 80 #[.int .i64 0,.string s] w' λe w''=>e=.returned (.bool (V 0 s))/\Below w'.heap.size w' w'')(hV1:∀(s:ByteArray) (w':World),Below w.heap.size w w'->Calls Tryz.prog 80 #[.int .i64 1,.string s] w' λe w''=>e=.returned (.bool (V 1 s))/\Below w'.heap.size w' w'')(hV2:∀(s:ByteArray) (w':World),Below w.heap.size w w'->Calls Tryz.prog 80 #[.int .i64 2,.string s] w' λe w''=>e=.returned (.bool (V 2 s))/\Below w'.heap.size w' w'')
 :Calls Tryz.prog 81 #[.agg (aB i (.slice sa sn sc)).toArray] w λe w'=>e=.returned (.int .i64 x)/\Below w.heap.size w w':=by
 go_enter Tryz.func81,Tryz.ntmps81
 refine wp_seq ?_
 refine wp_region_lit ?_
 refine wpList_plain rfl (λK hK=>?_)
 go_simp
 refine hK _ _ ?_
 clear hK K
 refine wpList_plain rfl (λK hK=>?_)
 go_simp
 refine hK _ _ ?_
 clear hK K
 refine aU ?_
 obtain⟨g,hg⟩:∃g,g=w.heap.size:=⟨_,rfl⟩
 obtain⟨W1,hW1⟩:∃W1,W1=w.alloc (.cells (aB i (.slice sa sn sc)).toArray 34):=⟨_,rfl⟩
 have hrow:∀W,Below W1.heap.size W1 W->W.heap[g]? =some (.cells (aB i (.slice sa sn sc)).toArray 34 (0,0)):=λW hW=>by
  rw[hW.block g (by rw[hW1,hg];simp),hW1,hg];exact aD w _
 have hB1:Below w.heap.size w W1:=by rw[hW1];exact(Below.refl _ _).alloc (Nat.le_refl _) _
 have up:∀W,Below W1.heap.size W1 W->Below w.heap.size w W:=λW hW=>hB1.trans (hW.mono hB1.size)
 have hV:∀(m:Nat) (s:ByteArray) (w':World),m<3->Below w.heap.size w w'->Calls Tryz.prog 80 #[.int .i64 m,.string s] w' λe w''=>e=.returned (.bool (V m s))/\Below w'.heap.size w' w'':=λm s w' hm hw=>by
  rcases m with _|_|_|m
  ·exact hV0 s w' hw
  ·exact hV1 s w' hw
  ·exact hV2 s w' hw
  ·omega
 rw[<-hg,<-hW1]
 clear hW1 hV0 hV1 hV2
 refine jo rfl λa ha hdf=>?_
 have hret:∀(b:Act) (W:World),b.defers=[]->b.tmps[2]? =some (.int .i64 x)->Below W1.heap.size W1 W->bodyPost Tryz.prog Tryz.f81 (λe w'=>e=.returned (.int .i64 x)/\Below g w w') .ret b W:=λb W hd ht hS=>by
  refine bodyPost_ret (results_tmp rfl _ _ _) hd ?_
  rw[hg]
  exact⟨by rw[show b.tmps.getD 2 undef=.int .i64 x from eval_at ht],hB1.trans (hS.mono hB1.size)⟩
 have hO1:Ev.Ok Tryz.prog (λ(_:Unit) W=>Below W1.heap.size W1 W) (ckM V i 0 ⟨0,⟨#[]⟩⟩ (Ny g i (.slice sa sn sc))):=NH (o:=some (g,0)) (rs:=[]) (λq b o2 l h W hW=>by
  rcases q with _|q
  ·cases h;exact kL hrow W hW
  ·cases h) (λm s w' hm hw=>hV m s w' hm (up _ hw)) (λsb n c h=>by cases h)
 refine wp_seq ?_
 refine Ev.ni (W0:=W1) (m:=225) (M:=ckM V i 0 ⟨0,⟨#[]⟩⟩ (Ny g i (.slice sa sn sc))) (K:=[(1,.p 0 0)]) 176 3 (gG V i sn) hO1 (by kernel_rfl) (Ev.aF (Ev.aX (by rw[ha];rfl) hdf) (by rw[ha];rfl)) (Below.refl _ _) (show 0<20 by decide) (show 20<=1000 by decide) (by kernel_rfl) (by kernel_rfl) ?_
 intro b W hB hF
 rw[<-hx1]at hF
 have f3:=hF.look 3 _ rfl
 have f1:=hF.look 1 _ rfl
 show ckC.wp Tryz.prog _ b W
 have hxv:(if (x1 !=0)=true then x1 else xL)=x:=by
  rw[hx]
  by_cases h:x1=0
  ·simp[h]
  ·simp[h]
 refine Ev.zn (M:=ckM V i 0 ⟨0,⟨#[]⟩⟩ (Ny g i (.slice sa sn sc))) (S:=λ_ W=>Below W1.heap.size W1 W) (n:=225) (K:=[(1,.p 0 0),(3,.v (.int .i64 x1))]) (s:=()) (v:=if (x1 !=0)=true then x1 else xL) (hv:=xL) (l:=[(ckL.1,ckL.2,[some (.p 0 0),some (.r 0 15),some (.v (.int .i64 (sn:Int))),some (.v (.int .i64 0))],(),[!(x1 !=0)])]) 2 [1,189,190,191] [0] hO1 (λ_ W h=>h.drew) (by kernel_rfl) (by kernel_rfl) (Ev.aF (Ev.aF (Ev.aX hF.size hF.defers) f3) f1) hB (λb W _ hd ht hS=>hret b W hd (by rw[<-hxv];exact ht) hS) ?_
 intro hvx y hy hcs b W hst hS
 rw[List.mem_singleton]at hy
 subst hy
 have hx10:x1=0:=by
  have h8:=hcs _ (List.mem_singleton.2 rfl)
  simpa using h8
 have hxL:x=xL:=by rw[hx,if_neg (by rw[hx10];simp)]
 have hsn8:=hn8 hx10
 clear hcs hvx hxv f1 f3 hF hB hx1 hn8 hx hx10 ha hdf
 obtain⟨h1,hst⟩:=hst.cons
 obtain⟨qB,hst⟩:=hst.cons
 obtain⟨sO,hst⟩:=hst.cons
 obtain⟨pV,hst⟩:=hst.cons
 have e1:ckL.1=.loop (jC ckL.1):=by kernel_rfl
 have e2:ckL.2=[.bl 0,.sq (fmC ckL.2 1)]:=by kernel_rfl
 show ckL.1.wp Tryz.prog (Qof Tryz.prog ckL.2 _) b W
 rw[e1,e2]
 refine wp_loop (λa w=>∃k:Nat,k<=sn/\a.tmps.size=225/\a.defers=[]/\a.tmps[1]? =some (.pointer (some ⟨g,0,none⟩))/\a.tmps[189]? =some (.slice sa sn sc)/\a.tmps[190]? =some (.int .i64 (sn:Int))/\a.tmps[191]? =some (.int .i64 (k:Int))/\Below W1.heap.size W1 w/\Ps.eU V i (i.links.take k) (i.links.drop k)=x) (λa _=>match a.tmps[191]? with|some (Value.int _ k)=>sn-k.toNat|_=>0) ⟨0,Nat.zero_le _,hst.1,hst.2.1,h1,qB,sO,pV,hS,by rw[hxL,<-hLE.out];rfl⟩ ?_
 clear hst h1 qB sO pV hS hxL
 rintro b W ⟨k,hk,hsz,hdf,h1,qB,sO,pV,hS,HX⟩
 have hm:(match b.tmps[191]? with|some (Value.int _ k)=>sn-k.toNat|_=>0)=sn-k:=by rw[pV];simp
 rw[hm]
 refine Ev.qN (M:=ckM V i 0 ⟨0,⟨#[]⟩⟩ (Ny g i (.slice sa sn sc))) (S:=λ_ W=>Below W1.heap.size W1 W) (n:=225) (K:=[(1,.p 0 0),(189,.r 0 15),(190,.v (.int .i64 (sn:Int))),(191,.v (.int .i64 (k:Int)))]) (s:=()) [1,189,190,191] (.ite (decide ((k:Int)<(sn:Int))) (.go ckG [some (.p 0 0),some (.r 0 15),some (.v (.int .i64 (sn:Int))),some (.v (.int .i64 (k:Int)))] ()) (.out 0 [some (.p 0 0),some (.r 0 15),some (.v (.int .i64 (sn:Int))),some (.v (.int .i64 (k:Int)))] ())) hO1 (λ_ _ h=>h.drew) (by kernel_rfl) (Ev.aF (Ev.aF (Ev.aF (Ev.aF (Ev.aX hsz hdf) pV) sO) qB) h1) hS ⟨λhc b W hst hS=>?_,λhc b W hst hS=>?_⟩
 rotate_left
 ·have hkn:¬k<sn:=by have:¬(k:Int)<(sn:Int):=by simpa using hc
                     omega
  have hx0:x=0:=by
   rw[<-HX,List.drop_eq_nil_of_le (by have:=HSN.out;omega)]
   rfl
  show(fmC ckL.2 1).wp Tryz.prog _ b W
  exact Ev.AL (M:=ckM V i 0 ⟨0,⟨#[]⟩⟩ (Ny g i (.slice sa sn sc))) (S:=λ_ W=>Below W1.heap.size W1 W) (n:=225) (K:=[]) (s:=()) (v:=x) 2 hO1 (λ_ _ h=>h.drew) (by rw[hx0];kernel_rfl) (by kernel_rfl) (Ev.aX hst.1 hst.2.1) hS λb W _ h1 h2 h3=>hret b W h1 h2 h3
 have hkn:k<sn:=by have:(k:Int)<(sn:Int):=by simpa using hc
                   omega
 clear h1 qB sO pV hsz hdf hm hc
 obtain⟨h1,hst⟩:=hst.cons
 obtain⟨qB,hst⟩:=hst.cons
 obtain⟨sO,hst⟩:=hst.cons
 obtain⟨pV,hst⟩:=hst.cons
 obtain⟨x0,hx0⟩:∃x0,i.links[k]? =some x0:=⟨_,List.getElem?_eq_getElem (by rw[<-HSN.out];exact hkn)⟩
 obtain⟨sb,rfl,hlr⟩:=HLK.out (by omega)
 have hLW:∀W,Below W1.heap.size W1 W->jD W sb i.links:=λW hW=>hlr W (up W hW)
 have hdrop:i.links.drop k=x0::i.links.drop (k+1):=by
  have h1:=List.drop_eq_getElem_cons (l:=i.links) (i:=k) (by rw[<-HSN.out];exact hkn)
  rw[h1]
  congr 1
  rw[List.getElem?_eq_getElem (by rw[<-HSN.out];exact hkn)]at hx0
  exact Option.some.inj hx0
 have htake:i.links.take (k+1)=i.links.take k++[x0]:=by rw[List.take_add_one,hx0];rfl
 rw[hdrop,DN,<-htake]at HX
 have e4:ckG.2=[.sq (fmC ckG.2 0),.bl 1,.sq (fmC ckG.2 2)]:=by kernel_rfl
 show ckG.1.wp Tryz.prog (Qof Tryz.prog ckG.2 _) b W
 rw[e4]
 refine O6 (sb:=sb) (sn:=sn) (sc:=sc) (k:=k) (x:=x0) rfl rfl rfl rfl rfl rfl rfl rfl rfl rfl rfl rfl rfl rfl rfl rfl rfl rfl hst.1 pV qB hkn (hLW W hS k x0 hx0).1 (hLW W hS k x0 hx0).2 ?_
 intro b2 hd2 hz2 h5 h4 hr2
 obtain⟨h,hh⟩:∃h,h=W.heap.size:=⟨_,rfl⟩
 obtain⟨Wh,hWh⟩:∃Wh,Wh=W.alloc (.cells #[.int .i64 x0.type,.string x0.ref] 129):=⟨_,rfl⟩
 have hBh:Below W1.heap.size W1 Wh:=by rw[hWh];exact hS.alloc hS.size _
 have lU:∀W,Below Wh.heap.size Wh W->W.heap[h]? =some (.cells [.int .i64 x0.type,.string x0.ref].toArray 129 (0,0)):=λW2 hW=>by
  rw[hW.block h (by rw[hWh,hh];simp),hWh,hh];exact aD W _
 have up2:∀W,Below Wh.heap.size Wh W->Below W1.heap.size W1 W:=λW hW=>hBh.trans (hW.mono hBh.size)
 rw[<-hWh]
 rw[<-hh]at h5
 have q1:=(hr2 1 (by decide) (by decide) (by decide) (by decide) (by decide)).trans h1
 have q189:=(hr2 189 (by decide) (by decide) (by decide) (by decide) (by decide)).trans qB
 have q190:=(hr2 190 (by decide) (by decide) (by decide) (by decide) (by decide)).trans sO
 have q191:=(hr2 191 (by decide) (by decide) (by decide) (by decide) (by decide)).trans pV
 have hdf2:=hd2.trans hst.2.1
 clear h1 qB sO pV hst hr2 hWh hh hS e4 hd2
 show(fmC ckG.2 0).wp Tryz.prog (Qof Tryz.prog [.bl 1,.sq (fmC ckG.2 2)] _) b2 Wh
 have hO2:Ev.Ok Tryz.prog (λ(_:Unit) W=>Below Wh.heap.size Wh W) (ckM V i k x0 (Oo g i sb sn sc k h x0)):=NH (o:=some (g,0)) (lv:=.slice (some ⟨sb,0,none⟩) sn sc) (λq b o2 l hq W hW=>by
  rcases q with _|_|_|q
  ·cases hq;exact kL hrow W (up2 W hW)
  ·cases hq
  ·cases hq;exact kL lU W hW
  ·cases hq) (λm s w' hm hw=>hV m s w' hm (up _ (up2 _ hw))) (λ_ _ _ _=>⟨sb,h,sc,sn,rfl,rfl,rfl,rfl,rfl,hk,HSC.out,by omega,λw hw=>Bg w sb h sc i.links x0.ref k (hLW w (up2 w hw)) (by have:=HSN.out;omega) (by have:=HSC.out;omega) (by omega) (by rw[cell_of_row _ _ _ _ _ _ (lU w hw)];rfl)⟩)
 have e7:fmC ckG.2 0=.seq (.region 7 (lw (Ev.seqL (fmC ckG.2 0))) true) (Ev.xD (fmC ckG.2 0)):=by kernel_rfl
 rw[e7]
 refine wp_seq ?_
 refine Ev.ni (W0:=Wh) (m:=225) (M:=ckM V i k x0 (Oo g i sb sn sc k h x0)) (K:=[(1,.p 0 0),(5,.p 2 0),(4,.r 1 0),(189,.r 0 15),(190,.v (.int .i64 (sn:Int))),(191,.r 1 0)]) 23 6 (nP V i (i.links.take k) x0) hO2 (by kernel_rfl) (Ev.aF (Ev.aF (Ev.aF (Ev.aF (Ev.aF (Ev.aF (Ev.aX hz2 hdf2) q191) q190) q189) h4) h5) q1) (Below.refl _ _) (show 0<4 by decide) (show 4<=1000 by decide) (by kernel_rfl) (by kernel_rfl) ?_
 obtain⟨y,hy⟩:∃y,y=aY (nP V i (i.links.take k) x0):=⟨_,rfl⟩
 rw[<-hy]at HX⊢
 clear q1 q189 q190 q191 h4 h5 hz2 hdf2 e7
 intro b3 W3 hB3 hF3
 show(Ev.xD (fmC ckG.2 0)).wp Tryz.prog _ b3 W3
 refine Ev.qN (M:=ckM V i k x0 (Oo g i sb sn sc k h x0)) (S:=λ_ W=>Below Wh.heap.size Wh W) (n:=225) (K:=[(6,.v (.int .i64 y)),(1,.p 0 0),(189,.r 0 15),(190,.v (.int .i64 (sn:Int))),(191,.r 1 0)]) (s:=()) [1,189,190,191,2] (.ite (y !=0) (.ret [some (.p 0 0),some (.r 0 15),some (.v (.int .i64 (sn:Int))),some (.r 1 0),some (.v (.int .i64 y))] ()) (.nx [some (.p 0 0),some (.r 0 15),some (.v (.int .i64 (sn:Int))),some (.r 1 0),none] ())) hO2 (λ_ _ h=>h.drew) (by kernel_rfl) (Ev.aF (Ev.aF (Ev.aF (Ev.aF (Ev.aF (Ev.aX hF3.size hF3.defers) (hF3.look 191 _ rfl)) (hF3.look 190 _ rfl)) (hF3.look 189 _ rfl)) (hF3.look 1 _ rfl)) (hF3.look 6 _ rfl)) hB3 ⟨λhc b W hst hS=>?_,λhc b W hst hS=>?_⟩
 ·have hy0:y≠0:=by simpa using hc
  rw[if_pos hy0]at HX
  refine hret b W hst.2.1 ?_ (up2 W hS)
  rw[<-HX]
  exact hst.2.2 4 2 _ rfl rfl
 ·have hy0:y=0:=by simpa using hc
  rw[if_neg (by simp[hy0])]at HX
  obtain⟨h1,hst⟩:=hst.cons
  obtain⟨qB,hst⟩:=hst.cons
  obtain⟨sO,hst⟩:=hst.cons
  obtain⟨pV,hst⟩:=hst.cons
  have hw1:IntKind.i64.wrap ((k:Int)+1)=((k+1:Nat):Int):=by rw[IntWalk.i64_in _ (by omega)];rfl
  show(fmC ckG.2 2).wp Tryz.prog _ b W
  refine Ev.qN (M:=ckM V i k x0 (Oo g i sb sn sc k h x0)) (S:=λ_ W=>Below Wh.heap.size Wh W) (n:=225) (K:=[(1,.p 0 0),(189,.r 0 15),(190,.v (.int .i64 (sn:Int))),(191,.r 1 0)]) (s:=()) [1,189,190,191] (.nx [some (.p 0 0),some (.r 0 15),some (.v (.int .i64 (sn:Int))),some (.v (.int .i64 (IntKind.i64.wrap ((k:Int)+1))))] ()) hO2 (λ_ _ h=>h.drew) (by kernel_rfl) (Ev.aF (Ev.aF (Ev.aF (Ev.aF (Ev.aX hst.1 hst.2.1) pV) sO) qB) h1) hS ?_
  clear h1 qB sO pV hst
  intro b W hst hS
  obtain⟨h1,hst⟩:=hst.cons
  obtain⟨qB,hst⟩:=hst.cons
  obtain⟨sO,hst⟩:=hst.cons
  obtain⟨pV,hst⟩:=hst.cons
  have RO:b.tmps[191]? =some (.int .i64 ((k+1:Nat):Int)):=by rw[<-hw1];exact pV
  refine⟨⟨k+1,hkn,hst.1,hst.2.1,h1,qB,sO,RO,up2 W hS,HX⟩,?_⟩
  rw[RO];simp;omega
theorem Px (w:World)(a:Option Addr)(n c:Nat)(hn:n≠0):
 Calls Tryz.prog 83 #[.slice a n c,.slice none 0 0] w λe w'=>e=.returned (.bool false)/\Below w.heap.size w w':=by
 go_enter Tryz.func83,Tryz.ntmps83
 have hn2:((n:Int) !=0)=true:=by simp[hn]
 go_wp2_with fail
 go_ret
 exact⟨rfl,Below.refl _ _⟩
theorem ME (w:World)(a:Option Addr)(c:Nat):
 Calls Tryz.prog 83 #[.slice a 0 c,.slice none 0 0] w λe w'=>e=.returned (.bool true)/\Below w.heap.size w w':=by
 go_enter Tryz.func83,Tryz.ntmps83
 go_wp2_with fail
 go_loopw [5,13] (λ_ iv wr=>iv=.int .i64 0/\wr=w) (λ_ _ _=>0)
 case atStart=>exact⟨rfl,rfl⟩
 case round=>
  obtain⟨rfl,rfl⟩:=hrel
  go_wp2_with fail
  go_ret
  exact⟨rfl,Below.refl _ _⟩
theorem KM (w:World)(a:Option Addr)(n c:Nat):
 Calls Tryz.prog 83 #[.slice a n c,.slice none 0 0] w λe w'=>e=.returned (.bool (n==0))/\Below w.heap.size w w':=by
 by_cases h:n=0
 ·subst h;exact ME w a c
 ·rw[show(n==0)=false from by simp[h]];exact Px w a n c h
theorem PU (i:Ps.Ins):xP i {} (i.links.length==0)=decide i.none:=by
 rw[Bool.eq_iff_iff,decide_eq_true_iff]
 unfold xP Ps.Ins.none
 simp only[Bool.and_eq_true,DW]
 simp only[beq_iff_eq,and_assoc]
theorem EJ (w:World)(i:Ps.Ins)(sa:Option Addr)(sc:Nat):
 Calls Tryz.prog 35 #[.agg (aB i (.slice sa i.links.length sc)).toArray,.agg (aB {} (.slice none 0 0)).toArray] w λe w'=>e=.returned (.bool (decide i.none))/\Below w.heap.size w w':=by
 rw[<-PU]
 exact J7 w i {} sa none i.links.length sc 0 0 _ λw' _=>KM w' sa i.links.length sc
theorem eP.below {w w':World}{B:Nat}{lv:Value}{ks:List Ps.Link}(h:eP w B lv ks)(hb:Below w.heap.size w w'):eP w' B lv ks:=by
 refine fK h λg hg=>?_
 obtain⟨_,⟨rfl,_⟩|⟨g',cap,cur,rfl,hB,hh,_⟩⟩:=h
 ·simp[Value.ownBlock]at hg
 ·obtain rfl:g'=g:=by simpa[Value.ownBlock]using hg
  exact hb.block g' (Array.getElem?_eq_some_iff.1 hh).1
def InsC (W0:World):Prop:=∀(w:World) (B:Nat) (i:Ps.Ins) (a:Option Addr) (n c:Nat),Below W0.heap.size W0 w->eP w B (.slice a n c) i.links->
 Calls Tryz.prog 81 #[.agg (aB i (.slice a n c)).toArray] w λe W'=>e=.returned (.int .i64 (Ps.ny az.valid i))/\Below w.heap.size w W'
theorem Jl (V:Nat->ByteArray->Bool)(Q:Ps.Req):Ps.yN V Q=qX V Q (Ps.ny V Q.ins) (Ps.xB Q.amd) (decide Q.ins.none):=by
 have e17:aY [(!(Q.ins.ref.toList==Q.ref.toList)||!(Q.ins.sender.toList==Q.sender.toList),17)]=if Q.ins.ref≠Q.ref\/Q.ins.sender≠Q.sender then 17 else 0:=
  cZ (pq (au (DW _ _)) (au (DW _ _)))
 have e3:aY [(!(decide Q.ins.none),3)]=if¬Q.ins.none then 3 else 0:=cZ (au decide_eq_true_iff)
 have e4:aY [(!decide Q.amd.none,3)]=if¬Q.amd.none then 3 else 0:=cZ (au decide_eq_true_iff)
 have ex1:aY [(!(inB Q.op 0 4),11),(!(V 1 Q.sender),6),(!(V 2 Q.ref),6)]=if¬(0<=Q.op/\Q.op<=4)then 11 else if V 1 Q.sender=false then 6 else if V 2 Q.ref=false then 6 else 0:=by
  rw[cZ (au (gV _ _ _)),cZ (KJ _),cZ (KJ _)]
  rfl
 unfold qX
 rw[e17,e3,e4,ex1]
 simp only[bne_iff_ne,beq_iff_eq]
 unfold Ps.yN
 by_cases h1:¬(0<=Q.op/\Q.op<=4)
 ·simp only[if_pos h1];rfl
 simp only[if_neg h1]
 by_cases h2:V 1 Q.sender=false
 ·simp only[if_pos h2];rfl
 simp only[if_neg h2]
 by_cases h3:V 2 Q.ref=false
 ·simp only[if_pos h3];rfl
 simp only[if_neg h3,ne_eq,not_true_eq_false,if_false]
 by_cases h0:Q.op=0
 ·have h10:¬Q.op=1:=by omega
  simp only[h0,if_true]
  by_cases h4:Ps.ny V Q.ins=0
  ·simp only[h4,not_true_eq_false,if_false]
   by_cases h5:¬Q.ins.ref=Q.ref\/¬Q.ins.sender=Q.sender
   ·simp only[if_pos h5];rfl
   ·simp only[if_neg h5]
    rfl
  ·simp only[h4,not_false_eq_true,if_true]
 ·simp only[h0,if_false]
  by_cases h5:Q.ins.none
  ·simp only[h5,not_true_eq_false,if_false]
  ·simp only[h5,not_false_eq_true,if_true];rfl
theorem lJ {W0 w:World}(env:mE W0)(hb:Below W0.heap.size W0 w)(k:Nat)(hk:k<3)(s:ByteArray):∀w',Below w.heap.size w w'->Calls Tryz.prog 80 #[.int .i64 k,.string s] w' λe w''=>e=.returned (.bool (az.valid k s))/\Below w'.heap.size w' w'':=λw' hw=>
 FO k hk s w' (env w' (hb.trans (hw.mono hb.size)))
theorem chk_of {W0:World}(env:mE W0)(ic:InsC W0):ChkC W0:=λw B Q a n c hb hl=>by
 obtain⟨a',c',hs⟩:=hl.slice
 have hn:n=Q.ins.links.length:=by cases hs;rfl
 rw[show psR Q=_ from Jl az.valid Q]
 refine rq_w1 w az.valid Q a n c _ _ _ (λW k s hk hW=>lJ env hb k hk s W hW) (λw' hw=>ic w' B Q.ins a n c (hb.trans (hw.mono hb.size)) (hl.below hw)) (λw' hw=>?_) (λw' hw=>?_)
 ·rw[hn]
  exact EJ w' Q.ins a c
 ·rw[<-Ju]
  exact J6 w' Q.amd
theorem sZ:∀(rs:List (Bool×Int)),(∀x∈rs,x.2≠0)->aY rs=0->∀x∈rs,x.1=false
 |[],_,_,x,hx=>by cases hx
 |y::rs,hz,h,x,hx=>by
  unfold aY at h
  by_cases hb:y.1=true
  ·rw[if_pos hb]at h
   exact absurd h (hz y List.mem_cons_self)
  ·rw[if_neg hb]at h
   rcases List.mem_cons.1 hx with rfl|hx
   ·simpa using hb
   ·exact sZ rs (λz h=>hz z (List.mem_cons_of_mem _ h)) h x hx
theorem NA {w:World}{B:Nat}{a:Option Addr}{n c:Nat}{ks:List Ps.Link}(h:eP w B (.slice a n c) ks)(hn:0<n):∃sb,a=some ⟨sb,0,none⟩/\∀W,Below w.heap.size w W->jD W sb ks:=by
 obtain⟨a',c',hs⟩:=h.slice
 obtain⟨rfl,rfl,rfl⟩:a=a'/\n=ks.length/\c=c':=by cases hs;exact⟨rfl,rfl,rfl⟩
 obtain⟨sb,cap,hv,hlt,hcell⟩:=jK h hn
 refine⟨sb,by cases hv;rfl,λW hW=>?_⟩
 refine jD.below ?_ hW
 intro j x hj
 have hk:∀(ks:List Ps.Link) (j:Nat) (x:Ps.Link),ks[j]? =some x->(eB ks)[j*2]? =some (.int .i64 x.type)/\(eB ks)[j*2+1]? =some (.string x.ref):=by
  intro ks
  induction ks with
  |nil=>intro j x h;simp at h
  |cons y ks ih=>
   intro j x h
   cases j with
   |zero=>
    obtain rfl:y=x:=by simpa using h
    exact⟨rfl,rfl⟩
   |succ j=>
    have:=ih j x (by simpa using h)
    rw[show(j+1)*2=j*2+1+1 from by omega]
    exact this
 obtain⟨h1,h2⟩:=hk ks j x hj
 exact⟨hcell _ _ h1,hcell _ _ h2⟩
theorem lk_cap {w:World}{B:Nat}{a:Option Addr}{n c:Nat}{ks:List Ps.Link}(h:eP w B (.slice a n c) ks):n=ks.length/\n<=c:=by
 obtain⟨_,⟨hs,h0⟩|⟨g,cap,cur,hv,hB,hh,hnc,_⟩⟩:=h
 ·cases hs
  exact⟨h0.symm,Nat.le_refl _⟩
 ·cases hv
  exact⟨rfl,hnc⟩
theorem ins_c {W0:World}(env:mE W0):InsC W0:=λw B i a n c hb hl=>by
 obtain⟨hn,hc⟩:=lk_cap hl
 have hx:=JD az.valid i
 rw[<-hn]at hx
 refine in_w1 w i a n c az.valid (Ps.ny az.valid i) (aY (gG az.valid i n)) (Ps.eU az.valid i [] i.links) rfl (λh0=>?_) (Lib.hid hn) (Lib.hid hc) (Lib.hid rfl) (Lib.hid λh=>NA hl h) hx (lJ env hb 0 (by omega)) (lJ env hb 1 (by omega)) (lJ env hb 2 (by omega))
 have h8:=sZ _ (by unfold gG;simp) h0 (decide (8<(n:Int)),8) (by unfold gG;simp)
 simp at h8
 omega
theorem JX {m:Int}{kb ko kc:Nat}{w:World}(env:lS m kb ko kc w)(s:ByteArray)(hs:s.size<=9223372036854775807):
 Calls Tryz.prog 16 #[.string s] w λe W'=>∃rv o x,e=.returned (.tuple #[rv,.int .i64 o,.int .i64 x])/\nV w (Ps.parse az psR s) rv o x W':=
 OH env (chk_of env.id (ins_c env.id)) s hs
def kn1:ByteArray:=⟨#[112,97,121,32,80,49,32,102,114,111,109,32,66,65,78,75,65,32,116,111,32,66,65,78,75,66,32,97,109,111,117,110,116,32,49,53,48,48,46,48,48,32,100,97,121,32,50,48,50,54,45,49,49,45,49,54,32,117,114,103,101,110,116]⟩
def kn2:ByteArray:=⟨#[112,97,121,32,80,49,32,102,114,111,109,32,66,65,78,75,65,32,116,111]⟩
def kn3:ByteArray:=⟨#[99,97,110,99,101,108,32,80,49,32,98,121,32,66,65,78,75,65,32,110,111,119]⟩
theorem kn_two:(Ps.parse az psR kn2).2=(20,4):=by decide +kernel
theorem NJ:(Ps.parse az psR kn3).2=(19,30):=by decide +kernel
theorem kn_one:(Ps.parse az psR kn1).2=(0,0):=by decide +kernel
def Mw (W:World)(s:ByteArray)(Q:Ps.Req)(o x:Int):Prop:=Calls Tryz.prog 16 #[.string s] W λe W'=>∃a n c,e=.returned (.tuple #[.agg (aA Q (.slice a n c)),.int .i64 o,.int .i64 x])/\eP W' W.heap.size (.slice a n c) Q.ins.links/\Below W.heap.size W W'
theorem BI {m:Int}{kb ko kc:Nat}{w:World}(env:lS m kb ko kc w)(s:ByteArray)(hs:s.size<=9223372036854775807)(W:World)(hW:Below w.heap.size w W):Mw W s (Ps.parse az psR s).1 (Ps.parse az psR s).2.1 (Ps.parse az psR s).2.2:=by
 refine(JX (env.below hW) s hs).mono ?_
 rintro e W' ⟨rv,o,x,rfl,⟨lv,rfl,hl⟩,rfl,rfl,hb⟩
 obtain⟨a,c,rfl⟩:=hl.slice
 exact⟨a,_,c,rfl,hl,hb⟩
def yB:Array Value:=#[Value.int IntKind.i64 0,Value.string {data:=#[]},Value.string {data:=#[]},Value.string {data:=#[]},Value.int IntKind.i64 0,Value.string {data:=#[]},Value.string {data:=#[]},Value.int IntKind.i64 0,Value.string {data:=#[]},Value.int IntKind.i64 0,Value.int IntKind.i64 0,Value.int IntKind.i64 0,Value.int IntKind.i64 0,Value.int IntKind.i64 0,Value.bool false,Value.int IntKind.i64 0,Value.bool false,Value.bool false,Value.slice none 0 0,Value.bool false,Value.bool false,Value.bool false,Value.bool false,Value.int IntKind.i64 0,Value.int IntKind.i64 0,Value.int IntKind.i64 0,Value.bool false,Value.int IntKind.i64 0]
def zIns:Array Value:=#[Value.string {data:=#[]},Value.int IntKind.i64 0,Value.string {data:=#[]},Value.string {data:=#[]},Value.int IntKind.i64 0,Value.string {data:=#[]},Value.int IntKind.i64 0,Value.int IntKind.i64 0,Value.int IntKind.i64 0,Value.int IntKind.i64 0,Value.int IntKind.i64 0,Value.bool false,Value.int IntKind.i64 0,Value.bool false,Value.bool false,Value.slice none 0 0]
theorem MQ (w:World)(Q:Ps.Req)(a:Option Addr)(n c:Nat):Sem.run Tryz.prog (storeCells ⟨w.heap.size,0,none⟩ (aA Q (.slice a n c)).toList) (w.alloc (.cells #[Value.int IntKind.i64 0,Value.string {data:=#[]},Value.string {data:=#[]},Value.string {data:=#[]},Value.int IntKind.i64 0,Value.string {data:=#[]},Value.string {data:=#[]},Value.int IntKind.i64 0,Value.string {data:=#[]},Value.int IntKind.i64 0,Value.int IntKind.i64 0,Value.int IntKind.i64 0,Value.int IntKind.i64 0,Value.int IntKind.i64 0,Value.bool false,Value.int IntKind.i64 0,Value.bool false,Value.bool false,Value.slice none 0 0,Value.bool false,Value.bool false,Value.bool false,Value.bool false,Value.int IntKind.i64 0,Value.int IntKind.i64 0,Value.int IntKind.i64 0,Value.bool false,Value.int IntKind.i64 0] 37))=.ok () (w.alloc (.cells (aA Q (.slice a n c)) 37)):=
 run_storeCells_new w 37 yB _ (by kernel_rfl) rfl (dA Q a n c)
theorem qz (i:Ps.Ins)(a:Option Addr)(n c:Nat):(aB i (.slice a n c)).toArray.all (·.oneCell')=true:=by
 rw[<-Array.all_toList]
 simp[aB,Value.oneCell']
theorem st_ins (w:World)(i:Ps.Ins)(a:Option Addr)(n c:Nat):Sem.run Tryz.prog (storeCells ⟨w.heap.size,0,none⟩ (aB i (.slice a n c))) (w.alloc (.cells #[Value.string {data:=#[]},Value.int IntKind.i64 0,Value.string {data:=#[]},Value.string {data:=#[]},Value.int IntKind.i64 0,Value.string {data:=#[]},Value.int IntKind.i64 0,Value.int IntKind.i64 0,Value.int IntKind.i64 0,Value.int IntKind.i64 0,Value.int IntKind.i64 0,Value.bool false,Value.int IntKind.i64 0,Value.bool false,Value.bool false,Value.slice none 0 0] 34))=.ok () (w.alloc (.cells (aB i (.slice a n c)).toArray 34)):=
 run_storeCells_new w 34 zIns (aB i (.slice a n c)).toArray (by kernel_rfl) rfl (qz i a n c)
theorem QS (w:World)(Q1 Q2 Q3:Ps.Req)
 (m1:Hid (∀W,Below w.heap.size w W->Mw W kn1 Q1 0 0)) (m2:Hid (∀W,Below w.heap.size w W->Mw W kn2 Q2 20 4)) (m3:Hid (∀W,Below w.heap.size w W->Mw W kn3 Q3 19 30))
 (z0:Q1.op=0) (z1:(Q1.sender.toList==[66,65,78,75,65])=true) (z2:(Q1.ref.toList==[80,49])=true) (y1:Q1.ins.kind=0) (y3:(Q1.ins.counterparty.toList==[66,65,78,75,66])=true) (y7:Q1.ins.amount=150000) (y9:Q1.ins.settleDay=9816) (y10:Q1.ins.priority=2):
 Calls Tryz.prog 13 #[] w λe W'=>e=.returned (.bool true)/\Below w.heap.size w W':=by
 have hst:=MQ
 go_enter Tryz.func13,Tryz.ntmps13
 go_upto_region 2 with(go_at_call 16;refine(m1.out _ (Below.refl _ _)).mono ?_;rintro e w1 ⟨a1,n1,c1,rfl,hl1,hb1⟩;have HB1:=Lib.hid hb1;clear hb1 hl1)
 obtain⟨g,hg⟩:∃g,g=w1.heap.size:=⟨_,rfl⟩
 obtain⟨W2,hW2⟩:∃W2,W2=w1.alloc (.cells (aA Q1 (.slice a1 n1 c1)) 37):=⟨_,rfl⟩
 have HR2:Hid (W2.heap[g]? =some (.cells (aA Q1 (.slice a1 n1 c1)) 37 (0,0))):=Lib.hid (by rw[hW2,hg];exact aD w1 _)
 have HB2:Hid (Below w.heap.size w W2):=Lib.hid (by rw[hW2];exact HB1.out.alloc HB1.out.size _)
 rw[<-hW2,<-hg]
 clear hW2 hg HB1
 go_upto_region 3 with(go_at_call 16;refine(m2.out _ HB2.out).mono ?_;rintro e w3 ⟨a2,n2,c2,rfl,hl3,hb3⟩;have HB3:=Lib.hid hb3;clear hb3 hl3)
 obtain⟨W4,hW4⟩:∃W4,W4=w3.alloc (.cells (aA Q2 (.slice a2 n2 c2)) 37):=⟨_,rfl⟩
 have hb4:Below W2.heap.size W2 W4:=by rw[hW4];exact HB3.out.alloc HB3.out.size _
 have HR4:Hid (W4.heap[g]? =some (.cells (aA Q1 (.slice a1 n1 c1)) 37 (0,0))):=Lib.hid ((hb4.block g (Array.getElem?_eq_some_iff.1 HR2.out).1).trans HR2.out)
 have HB4:Hid (Below w.heap.size w W4):=Lib.hid (HB2.out.trans (hb4.mono HB2.out.size))
 rw[<-hW4]
 clear hW4 hb4 HB3 HR2 HB2
 generalize w3.heap.size=g2
 go_upto_region 4 with(go_at_call 16;refine(m3.out _ HB4.out).mono ?_;rintro e w5 ⟨a3,n3,c3,rfl,hl5,hb5⟩;have HB5:=Lib.hid hb5;clear hb5 hl5)
 obtain⟨W6,hW6⟩:∃W6,W6=w5.alloc (.cells (aA Q3 (.slice a3 n3 c3)) 37):=⟨_,rfl⟩
 have hb6:Below W4.heap.size W4 W6:=by rw[hW6];exact HB5.out.alloc HB5.out.size _
 have OQ:Hid (W6.heap[g]? =some (.cells (aA Q1 (.slice a1 n1 c1)) 37 (0,0))):=Lib.hid ((hb6.block g (Array.getElem?_eq_some_iff.1 HR4.out).1).trans HR4.out)
 have Kt:Hid (Below w.heap.size w W6):=Lib.hid (HB4.out.trans (hb6.mono HB4.out.size))
 rw[<-hW6]
 clear hW6 hb6 HB5 HR4 HB4 hst m1 m2 m3
 generalize w5.heap.size=g3
 refine wp_region_lit ?_
 refine Ha rfl rfl rfl rfl (u:=.pointer (some ⟨g,3,none⟩)) (by clear z0 z1 z2 y1 y3 y7 y9 y10;go_simp) ?_
 refine qR rfl rfl rfl rfl (K4 g Q1 a1 n1 c1 W6 OQ.out) ?_
 have hsi:=st_ins
 go_upto_region 5 with fail
 obtain⟨h,hh⟩:∃h,h=W6.heap.size:=⟨_,rfl⟩
 obtain⟨W7,hW7⟩:∃W7,W7=W6.alloc (.cells (aB Q1.ins (.slice a1 n1 c1)).toArray 34):=⟨_,rfl⟩
 have OO:Below W6.heap.size W6 W7:=by rw[hW7];exact(Below.refl _ _).alloc (Nat.le_refl _) _
 have hr7:W7.heap[g]? =some (.cells (aA Q1 (.slice a1 n1 c1)) 37 (0,0)):=(OO.block g (Array.getElem?_eq_some_iff.1 OQ.out).1).trans OQ.out
 have hi7:W7.heap[h]? =some (.cells (aB Q1.ins (.slice a1 n1 c1)).toArray 34 (0,0)):=by rw[hW7,hh];exact aD W6 _
 have HB7:Hid (Below w.heap.size w W7):=Lib.hid (Kt.out.trans (OO.mono Kt.out.size))
 have k0:W7.cell? ⟨g,0,none⟩=some (.int .i64 0):=by rw[cell_of_row _ _ _ _ _ _ hr7,<-z0];rfl
 have k1:W7.cell? ⟨g,1,none⟩=some (.string Q1.sender):=by rw[cell_of_row _ _ _ _ _ _ hr7];rfl
 have k2:W7.cell? ⟨g,2,none⟩=some (.string Q1.ref):=by rw[cell_of_row _ _ _ _ _ _ hr7];rfl
 have i1:W7.cell? ⟨h,1,none⟩=some (.int .i64 0):=by rw[cell_of_row _ _ _ _ _ _ hi7,<-y1];rfl
 have i3:W7.cell? ⟨h,3,none⟩=some (.string Q1.ins.counterparty):=by rw[cell_of_row _ _ _ _ _ _ hi7];rfl
 have i7:W7.cell? ⟨h,7,none⟩=some (.int .i64 150000):=by rw[cell_of_row _ _ _ _ _ _ hi7,<-y7];rfl
 have i9:W7.cell? ⟨h,9,none⟩=some (.int .i64 9816):=by rw[cell_of_row _ _ _ _ _ _ hi7,<-y9];rfl
 have i10:W7.cell? ⟨h,10,none⟩=some (.int .i64 2):=by rw[cell_of_row _ _ _ _ _ _ hi7,<-y10];rfl
 rw[<-hW7,<-hh]
 clear hW7 hh OO hr7 hi7 OQ Kt hsi z0 y1 y7 y9 y10
 go_wp2_with fail
 go_ret
 exact⟨rfl,HB7.out⟩
theorem Pn:(Ps.parse az psR kn1).1.op=0/\((Ps.parse az psR kn1).1.sender.toList==[66,65,78,75,65])=true/\((Ps.parse az psR kn1).1.ref.toList==[80,49])=true/\(Ps.parse az psR kn1).1.ins.kind=0/\((Ps.parse az psR kn1).1.ins.counterparty.toList==[66,65,78,75,66])=true/\(Ps.parse az psR kn1).1.ins.amount=150000/\(Ps.parse az psR kn1).1.ins.settleDay=9816/\(Ps.parse az psR kn1).1.ins.priority=2:=by decide +kernel
theorem L6 {m:Int}{kb ko kc:Nat}{w:World}(env:lS m kb ko kc w):Calls Tryz.prog 13 #[] w λe W'=>e=.returned (.bool true)/\Below w.heap.size w W':=by
 obtain⟨z0,z1,z2,y1,y3,y7,y9,y10⟩:=Pn
 have e1:=kn_one
 have e2:=kn_two
 have e3:=NJ
 refine QS w (Ps.parse az psR kn1).1 (Ps.parse az psR kn2).1 (Ps.parse az psR kn3).1 (Lib.hid λW hW=>?_) (Lib.hid λW hW=>?_) (Lib.hid λW hW=>?_) z0 z1 z2 y1 y3 y7 y9 y10
 ·have:=BI env kn1 (by decide) W hW
  rw[e1]at this
  exact this
 ·have:=BI env kn2 (by decide) W hW
  rw[e2]at this
  exact this
 ·have:=BI env kn3 (by decide) W hW
  rw[e3]at this
  exact this
open Go.Proofs.YtnjjeapcalkmaaaGreatDoor.Ev (AV Mem Fr ja aR eD)
open Go Go.RowKit Go.Proofs.YtnjjeapcalkmaaaGreatDoor.Ord
open Go.Proofs.YtnjjeapcalkmaaaGreatDoor.Se
def bW:List ByteArray->ByteArray
 |[]=>⟨#[]⟩
 |t::ts=>⟨#[32]⟩++t++bW ts
def gu:List ByteArray->ByteArray
 |[]=>⟨#[]⟩
 |t::ts=>t++bW ts
theorem dU:∀a b:List ByteArray,bW (a++b)=bW a++bW b
 |[],b=>by show bW b=⟨#[]⟩++bW b;exact ByteArray.empty_append.symm
 |t::ts,b=>by
  rw[List.cons_append]
  show⟨#[32]⟩++t++bW (ts++b)=⟨#[32]⟩++t++bW ts++bW b
  rw[dU ts b,<-ByteArray.append_assoc]
theorem jF {a:List ByteArray}(h:a≠[])(b:List ByteArray):gu (a++b)=gu a++bW b:=by
 cases a with
 |nil=>exact absurd rfl h
 |cons t ts=>
  rw[List.cons_append]
  show t++bW (ts++b)=t++bW ts++bW b
  rw[dU,ByteArray.append_assoc]
theorem wP:∀ts:List ByteArray,bW ts=⟨(Lx.dP (ts.map λ(x:ByteArray)=>(([32]:List UInt8),x.data.toList)) []).toArray⟩
 |[]=>rfl
 |t::ts=>by
  show⟨#[32]⟩++t++bW ts=⟨([32]++(t.data.toList++Lx.dP (ts.map λ(x:ByteArray)=>(([32]:List UInt8),x.data.toList)) [])).toArray⟩
  rw[wP ts]
  apply ByteArray.ext
  apply Array.toList_inj.1
  simp[ByteArray.data_append]
theorem kD:∀ts:List ByteArray,Ps.gU ts=gu ts
 |[]=>rfl
 |t::ts=>by
  show(⟨([]++(t.data.toList++Lx.dP (ts.map λ(x:ByteArray)=>(([32]:List UInt8),x.data.toList)) [])).toArray⟩:ByteArray)=t++bW ts
  rw[wP ts]
  apply ByteArray.ext
  apply Array.toList_inj.1
  simp[ByteArray.data_append]
structure jQ (Q:Ps.Req):Prop where
 ref:Q.ref.size<=40
 sender:Q.sender.size<=40
 iref:Q.ins.ref.size<=40
 isender:Q.ins.sender.size<=40
 icp:Q.ins.counterparty.size<=40
 iasset:Q.ins.asset.size<=40
theorem Nt {Q:Ps.Req}(h:psR Q=0):jQ Q:=by
 obtain⟨h1,h2,h3⟩:=Ps.nk _ _ h
 have n1:=(gL (by omega) h1).2
 have n2:=(gL (by omega) h2).2
 rcases h3 with⟨_,hi,_⟩|⟨_,_,he⟩|⟨_,he⟩
 ·have i1:=(gL (by omega) hi.ref).2
  have i2:=(gL (by omega) hi.sender).2
  refine⟨by omega,by omega,by omega,by omega,?_,?_⟩
  ·by_cases hk:Q.ins.kind=3\/Q.ins.kind=4
   ·rw[hi.cpN hk];decide
   ·have:=(gL (by omega) (hi.cpY hk)).2;omega
  ·by_cases hk:Q.ins.kind=0
   ·rw[hi.asset0 hk];decide
   ·have:=(gL (by omega) (hi.asset hk)).2;omega
 ·rw[he];exact⟨by show Q.ref.size<=40;omega,by show Q.sender.size<=40;omega,Nat.zero_le _,Nat.zero_le _,Nat.zero_le _,Nat.zero_le _⟩
 ·rw[he];exact⟨by show Q.ref.size<=40;omega,by show Q.sender.size<=40;omega,Nat.zero_le _,Nat.zero_le _,Nat.zero_le _,Nat.zero_le _⟩
theorem ql {i:Ps.Ins}{lv:Value}(hl:∀x,lv≠.string x)(h1:i.ref.size<=40)(h2:i.sender.size<=40)(h3:i.counterparty.size<=40)(h4:i.asset.size<=40):∀x,Value.string x∈aB i lv->x.size<=40:=λx hx=>by
 unfold aB at hx
 simp at hx
 rcases hx with rfl|rfl|rfl|rfl|h
 ·exact h1
 ·exact h2
 ·exact h3
 ·exact h4
 ·exact absurd h.symm (hl x)
theorem II {a:Ps.Amd}:∀x,Value.string x∈aG a->x.size<=40:=λx hx=>by
 unfold aG at hx
 simp at hx
theorem uZ {Q:Ps.Req}{lv:Value}(hl:∀x,lv≠.string x)(h:jQ Q):∀x,Value.string x∈mi Q lv->x.size<=40:=λx hx=>by
 unfold mi at hx
 rcases List.mem_append.1 hx with hx|hx
 ·rcases List.mem_append.1 hx with hx|hx
  ·simp at hx
   rcases hx with rfl|rfl
   ·exact h.sender
   ·exact h.ref
  ·exact ql hl h.iref h.isender h.icp h.iasset x hx
 ·exact II x hx
def RowsIn (W:World)(B b:Nat)(fix:List Nat):List (Option (Nat×Nat)×List Value)->Prop
 |[]=>True
 |(none,_)::rs=>RowsIn W B b fix rs
 |(some (g,o),l)::rs=>(o=0/\(g<B\/g∈fix)/\(∃t,W.heap[g]? =some (.cells l.toArray t (0,0)))/\∀x,Value.string x∈l->x.size<=b)/\RowsIn W B b fix rs
theorem qg {W:World}{B b:Nat}{fix:List Nat}:∀{rows:List (Option (Nat×Nat)×List Value)},RowsIn W B b fix rows->∀(k g o:Nat) (l:List Value),rows[k]? =some (some (g,o),l)->o=0/\(g<B\/g∈fix)/\(∃t,W.heap[g]? =some (.cells l.toArray t (0,0)))/\∀x,Value.string x∈l->x.size<=b
 |[],_,k,g,o,l,h=>by simp at h
 |(none,l0)::rs,hr,k,g,o,l,h=>by
  cases k with
  |zero=>simp at h
  |succ k=>exact qg (rows:=rs) hr k g o l (by simpa using h)
 |(some (g0,o0),l0)::rs,hr,k,g,o,l,h=>by
  cases k with
  |zero=>
   simp at h
   obtain⟨⟨rfl,rfl⟩,rfl⟩:=h
   exact hr.1
  |succ k=>exact qg (rows:=rs) hr.2 k g o l (by simpa using h)
theorem R4 {B:Nat}{W:World}{fix:List Nat}{b:Nat}{rows:List (Option (Nat×Nat)×List Value)}{res:FuncId->List PV->Option Rv}{resC:FuncId->List PV->List SB->Option (List SB)}(hB:B<=W.heap.size)(hf:∀g∈fix,g<W.heap.size)(hr:RowsIn W B b fix rows):Ok Tryz.prog (seM B W fix b rows res resC):=
 GY hB hf (λk g o l h=>by
  obtain⟨rfl,h2,⟨t,h3⟩,_⟩:=qg hr k g o l h
  exact⟨h2,nQ h3⟩) λk p l h=>(qg hr k p.1 p.2 l h).2.2.2
def zG:Array Value:=#[Value.string {data:=#[]},Value.int IntKind.i64 0,Value.string {data:=#[]},Value.string {data:=#[]},Value.int IntKind.i64 0,Value.string {data:=#[]},Value.int IntKind.i64 0,Value.int IntKind.i64 0,Value.int IntKind.i64 0,Value.int IntKind.i64 0,Value.int IntKind.i64 0,Value.bool false,Value.int IntKind.i64 0,Value.bool false,Value.bool false,Value.slice none 0 0]
def zP:Array Value:=#[Value.bool false,Value.bool false,Value.bool false,Value.bool false,Value.int IntKind.i64 0,Value.int IntKind.i64 0,Value.int IntKind.i64 0,Value.bool false,Value.int IntKind.i64 0]
theorem lq_ins (w:World)(i:Ps.Ins)(a:Option Addr)(n c:Nat):Sem.run Tryz.prog (storeCells ⟨w.heap.size,0,none⟩ (aB i (.slice a n c))) (w.alloc (.cells zG 24))=.ok () (w.alloc (.cells (aB i (.slice a n c)).toArray 24)):=
 run_storeCells_new w 24 zG (aB i (.slice a n c)).toArray (by kernel_rfl) rfl (qz i a n c)
theorem lq_amd (w:World)(a:Ps.Amd):Sem.run Tryz.prog (storeCells ⟨w.heap.size,0,none⟩ (aG a)) (w.alloc (.cells zP 26))=.ok () (w.alloc (.cells (aG a).toArray 26)):=
 run_storeCells_new w 26 zP (aG a).toArray (by kernel_rfl) rfl (by rw[<-Array.all_toList];simp[aG,Value.oneCell'])
theorem Ms (w:World)(Q:Ps.Req)(a:Option Addr)(n c:Nat):Sem.run Tryz.prog (storeCells ⟨w.heap.size,0,none⟩ (aA Q (.slice a n c)).toList) (w.alloc (.cells yB 28))=.ok () (w.alloc (.cells (aA Q (.slice a n c)) 28)):=
 run_storeCells_new w 28 yB _ (by kernel_rfl) rfl (dA Q a n c)
theorem al_ins (w:World):(Instr.alloc 24 true (.tuple #[])).run Tryz.prog w=.ok (.pointer (some ⟨w.heap.size,0,none⟩)) (w.alloc (.cells zG 24)):=by
 unfold zG
 go_simp
 try rfl
theorem al_amd (w:World):(Instr.alloc 26 true (.tuple #[])).run Tryz.prog w=.ok (.pointer (some ⟨w.heap.size,0,none⟩)) (w.alloc (.cells zP 26)):=by
 unfold zP
 go_simp
 try rfl
theorem sv_ins (w:World)(i:Ps.Ins)(a:Option Addr)(n c:Nat):(Instr.storeAt 24 (.pointer (some ⟨w.heap.size,0,none⟩)) (.agg (aB i (.slice a n c)).toArray)).run Tryz.prog (w.alloc (.cells zG 24))=.ok () (w.alloc (.cells (aB i (.slice a n c)).toArray 24)):=by
 have h:=lq_ins w i a n c
 go_simp
 try rfl
theorem sv_amd (w:World)(i:Ps.Amd):(Instr.storeAt 26 (.pointer (some ⟨w.heap.size,0,none⟩)) (.agg (aG i).toArray)).run Tryz.prog (w.alloc (.cells zP 26))=.ok () (w.alloc (.cells (aG i).toArray 26)):=by
 have h:=lq_amd w i
 go_simp
 try rfl
theorem Ow (g:Nat)(Q:Ps.Req)(lv:Value)(w:World)(h:w.heap[g]? =some (.cells (aA Q lv) 28 (0,0))):(Instr.loadAt 24 (.pointer (some ⟨g,3,none⟩))).run Tryz.prog w=.ok (.agg (aB Q.ins lv).toArray) w:=
 Ev.wM (n:=16) rfl g 3 w (λj=>(aB Q.ins lv).getD j (.bool false)) λj hj=>by
  rw[cell_of_row _ _ _ _ _ _ h]
  rcases j with _|_|_|_|_|_|_|_|_|_|_|_|_|_|_|_|j
  all_goals first|rfl|omega
theorem Qf (g:Nat)(Q:Ps.Req)(lv:Value)(w:World)(h:w.heap[g]? =some (.cells (aA Q lv) 28 (0,0))):(Instr.loadAt 26 (.pointer (some ⟨g,19,none⟩))).run Tryz.prog w=.ok (.agg (aG Q.amd).toArray) w:=
 Ev.wM (n:=9) rfl g 19 w (λj=>(aG Q.amd).getD j (.bool false)) λj hj=>by
  rw[cell_of_row _ _ _ _ _ _ h]
  rcases j with _|_|_|_|_|_|_|_|_|j
  all_goals first|rfl|omega
def lnRes (rows:List (Option (Nat×Nat)×List Value))(f:FuncId)(us:List PV):Option Rv:=match us.map (nvR rows)with
 |[.v (.int .i64 q)]=>if f=48 then some (.str 20 (Ps.bO q))else if f=45 then some (.str 20 (Ps.cB q))else none
 |[.v (.int .i64 p),.v (.bool b),.v (.int .i64 q)]=>if f=47 then some (.str 60 (aj p b q))else none
 |_=>none
noncomputable def NP (rows:List (Option (Nat×Nat)×List Value))(f:FuncId)(us:List PV):Option Rv:=if f=46 then(match us.map (nvR rows)with
 |[.v (.int .i64 q)]=>some (.str 10 (Ps.aO q))
 |_=>none)else lnRes rows f us
theorem vw {q:Int}(h:0<=q/\q<=Ps.bS):C1 48 q 20 (Ps.bO q):=zH (n:=q.toNat) (by omega) (by have:=h.2;unfold Ps.bS at this;omega)
theorem Ht {q:Int}(h:0<=q/\q<=Ps.bS):C1 45 q 20 (Ps.cB q):=by
 have h2:=h.2
 unfold Ps.bS at h2
 obtain⟨n,rfl⟩:∃n:Nat,q=n:=⟨q.toNat,by omega⟩
 exact⟨l_cash n (by omega),by have:=Ps.kX h.2;omega⟩
theorem um {q:Int}(h:0<=q/\q<=Ps.bN):C1 46 q 10 (Ps.aO q):=⟨l_date q h.1 h.2,zK q h.1 h.2⟩
theorem xK {p q:Int}{b:Bool}(h:0<=p/\p<=2)(hq:b=true->0<=q/\q<=Ps.bS):C3 47 p b q 60 (aj p b q):=by
 refine⟨JJ p (by omega) b q λhb=>vw (hq hb),?_⟩
 have h1:=G7 p
 unfold aj
 rw[ByteArray.size_append,ByteArray.size_append]
 have h2:(if b=true then(⟨#[32,112,97,114,116,105,97,108,32]⟩:ByteArray)++Ps.bO q else⟨#[]⟩).size<=29:=by
  split
  ·rename_i hb
   rw[ByteArray.size_append]
   have:=(vw (hq hb)).2
   have e:(⟨#[32,112,97,114,116,105,97,108,32]⟩:ByteArray).size=9:=rfl
   omega
  ·exact Nat.zero_le _
 have e:(⟨#[32]⟩:ByteArray).size=1:=rfl
 omega
theorem sp1 {cell:Nat->Nat->Value}{f:FuncId}{u:PV}{q:Int}{n:Nat}{x:ByteArray}(he:∀args w,(callFunc f args).run Tryz.prog w=.ok (.enter f args) w)(hu:iE cell u=some (.int .i64 q))(h:C1 f q n x):Se.Spec cell f [u] (.str n x):=spec1 he hu h.1 h.2
theorem sp3 {cell:Nat->Nat->Value}{f:FuncId}{u u2 u3:PV}{p q:Int}{b:Bool}{n:Nat}{x:ByteArray}(he:∀args w,(callFunc f args).run Tryz.prog w=.ok (.enter f args) w)(hu:iE cell u=some (.int .i64 p))(hu2:iE cell u2=some (.bool b))(hu3:iE cell u3=some (.int .i64 q))(h:C3 f p b q n x):Se.Spec cell f [u,u2,u3] (.str n x):=spec3 he hu hu2 hu3 h.1 h.2
theorem Gr {P:Program}{ops:Array Oper}{Q:Exit->Act->World->Prop}{rest:List Oper}{o:Oper}{a:Act}{w w':World}{u:Value}{d:Nat}(hg:o.guard=none)(hd:o.dst=some d)(hr:(execOp a.eval o).run P w=.ok (.value u) w')(h:wpList P ops Q rest ⟨a.tmps.setIfInBounds d u,a.defers⟩ w'):wpList P ops Q (o::rest) a w:=by
 refine wpList_plain hg λK hK=>?_
 unfold Oper.wp
 rw[hr]
 refine hK _ _ ?_
 rw[hd]
 exact h
theorem Ho {Q:Exit->Act->World->Prop}{a:Act}{w W1 W:World}{id:Nat}{o1 o2 o3 o4:Oper}{tQ tI:TypeId}{p f d1 d2 d3:Nat}{A1 A2 A3 V:Value}(h1:o1.op=.fieldAddr tQ (.tmp p) f)(h1d:o1.dst=some d1)(g1:o1.guard=none)(h2:o2.op=.load tI (.tmp d1))(Ic:o2.dst=some d2)(g2:o2.guard=none)
 (h3:o3.op=.alloc tI) (Ry:o3.dst=some d3) (g3:o3.guard=none) (h4:o4.op=.store tI (.tmp d3) (.tmp d2)) (h4d:o4.dst=none) (g4:o4.guard=none) (n23:d2≠d3) (hp:a.tmps[p]? =some A1) (l1:d1<a.tmps.size) (l2:d2<a.tmps.size) (l3:d3<a.tmps.size)
 (hf:(Instr.fieldAt tQ A1 f).run Tryz.prog w=.ok A2 w) (hl:(Instr.loadAt tI A2).run Tryz.prog w=.ok V w) (ha:(Instr.alloc tI true (.tuple #[])).run Tryz.prog w=.ok A3 W1) (hs:(Instr.storeAt tI A3 V).run Tryz.prog W1=.ok () W)
 (hend:∀b:Act,b.defers=a.defers->b.tmps.size=a.tmps.size->b.tmps[d3]? =some A3->(∀s:Nat,s≠d1->s≠d2->s≠d3->b.tmps[s]? =a.tmps[s]?)->Q .normal b W):(Code.region id #[o1,o2,o3,o4] false).wp Tryz.prog Q a w:=by
 refine wp_region_lit ?_
 refine Ha g1 h1d h1 (eval_at hp) hf ?_
 refine qR g2 Ic h2 (eval_at (by simp[l1])) hl ?_
 refine Gr (w':=W1) (u:=A3) g3 Ry (by unfold execOp;rw[h3];simp only[Sem.run_bind,ha,Result.andThen_ok];rfl) ?_
 refine wu (w':=W) g4 h4d (by
  unfold execOp
  rw[h4]
  have e1:(⟨((a.tmps.setIfInBounds d1 A2).setIfInBounds d2 V).setIfInBounds d3 A3,a.defers⟩:Act).eval (.tmp d3)=A3:=eval_at (by simp[l3])
  have e2:(⟨((a.tmps.setIfInBounds d1 A2).setIfInBounds d2 V).setIfInBounds d3 A3,a.defers⟩:Act).eval (.tmp d2)=V:=eval_at (by simp[n23,Ne.symm n23,l2])
  simp only[e1,e2,Sem.run_bind,hs,Result.andThen_ok]
  rfl) ?_
 refine aU ?_
 refine hend _ rfl (by simp) (by simp[l3]) λs n1 n2 n3=>?_
 simp[Ne.symm n1,Ne.symm n2,Ne.symm n3]
def dH (g:Nat)(Q:Ps.Req)(lv:Value):List (Option (Nat×Nat)×List Value):=[(some (g,0),mi Q lv),(some (g+1,0),aB Q.ins lv)]
structure LnW (w W:World)(g:Nat)(Q:Ps.Req)(lv:Value):Prop where
 hb:Below w.heap.size w W
 hg:w.heap.size=g
 sz:g+2<=W.heap.size
 r0:W.heap[g]? =some (.cells (mi Q lv).toArray 28 (0,0))
 r1:W.heap[g+1]? =some (.cells (aB Q.ins lv).toArray 24 (0,0))
theorem LnW.rows {w W:World}{g:Nat}{Q:Ps.Req}{a:Option Addr}{n c:Nat}(h:LnW w W g Q (.slice a n c))(hs:jQ Q):RowsIn W W.heap.size 40 [] (dH g Q (.slice a n c)):=
 ⟨⟨rfl,.inl (by have:=h.sz;omega),⟨_,h.r0⟩,uZ (λx e=>by cases e) hs⟩,⟨rfl,.inl (by have:=h.sz;omega),⟨_,h.r1⟩,ql (λx e=>by cases e) hs.iref hs.isender hs.icp hs.iasset⟩,trivial⟩
def lnK:List (Nat×PV):=[(1,.p 0 0),(2,.s (0,⟨#[]⟩)),(3,.p 1 0)]
theorem kG (w:World)(Q:Ps.Req)(sa:Option Addr)(sn sc:Nat)(X:ByteArray)
 (h:∀(W:World) (g:Nat) (a:Act),LnW w W g Q (.slice sa sn sc)->a.defers=[]->a.tmps.size=232->a.tmps[1]? =some (.pointer (some ⟨g,0,none⟩))->a.tmps[2]? =some (.string ⟨#[]⟩)->a.tmps[3]? =some (.pointer (some ⟨g+1,0,none⟩))->
  (Ev.xD (Ev.xD (Tryz.f15.body.getD .skip))).wp Tryz.prog (bodyPost Tryz.prog Tryz.f15 λe w'=>e=.returned (.string X)/\Below w.heap.size w w') a W):
 gF 15 #[.agg (aA Q (.slice sa sn sc))] w X:=by
 unfold gF
 obtain⟨g,hg⟩:∃g,g=w.heap.size:=⟨_,rfl⟩
 have hst:=Ms
 unfold yB at hst
 go_enter Tryz.func15,Tryz.ntmps15
 refine wp_seq ?_
 refine wp_region_lit ?_
 refine wpList_plain rfl (λK hK=>?_)
 go_simp
 refine hK _ _ ?_
 clear hK K
 refine wpList_plain rfl (λK hK=>?_)
 go_simp
 refine hK _ _ ?_
 clear hK K
 refine aU ?_
 have hr0:(w.alloc (.cells (aA Q (.slice sa sn sc)) 28)).heap[g]? =some (.cells (aA Q (.slice sa sn sc)) 28 (0,0)):=by rw[hg];exact aD w _
 have hz:g+1=(w.alloc (.cells (aA Q (.slice sa sn sc)) 28)).heap.size:=by rw[hg];simp
 have hb:Below w.heap.size w (w.alloc (.cells (aA Q (.slice sa sn sc)) 28)):=(Below.refl _ _).alloc (Nat.le_refl _) _
 rw[<-hg]
 generalize w.alloc (.cells (aA Q (.slice sa sn sc)) 28)=W0 at hr0 hz hb⊢
 have hl:=Ow g Q _ W0 hr0
 have hr1:(W0.alloc (.cells (aB Q.ins (.slice sa sn sc)).toArray 24)).heap[g+1]? =some (.cells (aB Q.ins (.slice sa sn sc)).toArray 24 (0,0)):=by rw[hz];exact aD W0 _
 have hL:LnW w (W0.alloc (.cells (aB Q.ins (.slice sa sn sc)).toArray 24)) g Q (.slice sa sn sc):=⟨hb.alloc hb.size _,hg.symm,by simp;omega,(heap_alloc_old _ _ (by omega)).trans hr0,hr1⟩
 clear hst hr0 hb hr1 hg
 refine uy rfl rfl λa ha hdf=>?_
 have hn:a.tmps.size=232:=by rw[ha];rfl
 refine wp_seq ?_
 refine Ho (A1:=.pointer (some ⟨g,0,none⟩)) (A2:=.pointer (some ⟨g,3,none⟩)) (A3:=.pointer (some ⟨g+1,0,none⟩)) (W1:=W0.alloc (.cells zG 24)) rfl rfl rfl rfl rfl rfl rfl rfl rfl rfl rfl rfl (by decide) (by rw[ha];rfl) (by rw[hn];decide) (by rw[hn];decide) (by rw[hn];decide) (by go_simp) hl (by rw[hz];exact al_ins W0) (by rw[hz];exact sv_ins W0 _ _ _ _) λb b1 b2 b3 b4=>?_
 obtain rfl:=hL.hg
 refine h _ _ b hL (by rw[b1,hdf]) (by rw[b2,hn]) (by rw[b4 1 (by decide) (by decide) (by decide),ha];rfl) (by rw[b4 2 (by decide) (by decide) (by decide),ha];rfl) b3
noncomputable def lnE (W:World)(g:Nat)(Q:Ps.Req)(lv:Value):Mem:=seM W.heap.size W [] 40 (dH g Q lv) (NP (dH g Q lv))
theorem pO {w W:World}{g:Nat}{Q:Ps.Req}{a:Option Addr}{n c:Nat}(h:LnW w W g Q (.slice a n c))(hs:jQ Q):Ok Tryz.prog (lnE W g Q (.slice a n c)):=R4 (Nat.le_refl _) (λg hg=>by cases hg) (h.rows hs)
theorem rP {W:World}{g:Nat}{Q:Ps.Req}{lv:Value}{a:Act}(hd:a.defers=[])(hn:a.tmps.size=232)(h1:a.tmps[1]? =some (.pointer (some ⟨g,0,none⟩)))(h2:a.tmps[2]? =some (.string ⟨#[]⟩))(h3:a.tmps[3]? =some (.pointer (some ⟨g+1,0,none⟩))):FrP (lnE W g Q lv) 232 lnK a W:=
 ah (ah (ah (fZ hn hd) h3 rfl) h2 rfl) h1 rfl
noncomputable def lnC:Code:=Ev.xD (Ev.xD (Tryz.f15.body.getD .skip))
theorem EB {w W:World}{g:Nat}{Q:Ps.Req}{lv:Value}{x:SB}{X:ByteArray}(hL:LnW w W g Q lv)(hx:st x=X){a:Act}{w':World}(hd:a.defers=[])(hv:oC (lnE W g Q lv) [2] [.s x] a w')(hS:Sw (lnE W g Q lv) w'):bodyPost Tryz.prog Tryz.f15 (λe w'=>e=.returned (.string X)/\Below w.heap.size w w') .ret a w':=
 iH rfl hd hv ⟨by rw[hx],hL.hb.trans ((dR rfl hS).mono hL.hb.size)⟩
theorem ku {x:ByteArray}(h:x.size<=40):st (40,x)=x:=bF h
def DV (k:Int):ByteArray:=if k=2 then⟨#[99,97,110,99,101,108,32]⟩else if k=3 then⟨#[104,111,108,100,32]⟩else⟨#[114,101,115,117,109,101,32]⟩
theorem ln_op (w:World)(k:Int)(hk:k=2\/k=3\/k=4)(s r:ByteArray)(hs:jQ {op:=k,sender:=s,ref:=r})(os:List Ps.Op)(sa:Option Addr)(sn sc:Nat):gF 15 #[.agg (aA {op:=k,sender:=s,ref:=r} (.slice sa sn sc))] w (Ps.gU (Ps.iZ Ps.aO {op:=k,sender:=s,ref:=r} os)):=by
 refine kG w _ sa sn sc _ λW g a hL hd hn h1 h2 h3=>?_
 refine gM (M:=lnE W g {op:=k,sender:=s,ref:=r} (.slice sa sn sc)) (pO hL hs) [2] (us:=[.s (Se.cat (Se.cat (Se.cat ((DV k).size,DV k) (40,r)) (4,⟨#[32,98,121,32]⟩)) (40,s))]) (ps:=[]) (by rcases hk with rfl|rfl|rfl<;>kernel_rfl) trivial (rP hd hn h1 h2 h3) (Sw.start _) ?_
 intro a w' _ hd hv hS
 refine EB hL ?_ hd hv hS
 rw[bB,bB,bB,il,ku hs.ref,ku hs.sender,show st (4,(⟨#[32,98,121,32]⟩:ByteArray))=_ from bF (by decide),kD]
 rcases hk with rfl|rfl|rfl
 ·show _=gu [Ps.bw Ps.dx,r,Ps.bw Ps.sBy,s]
  apply ByteArray.ext
  apply Array.toList_inj.1
  simp[gu,bW,ByteArray.data_append,Ps.bw,DV,Ps.dx,Ps.sBy]
 ·show _=gu [Ps.bw Ps.bz,r,Ps.bw Ps.sBy,s]
  apply ByteArray.ext
  apply Array.toList_inj.1
  simp[gu,bW,ByteArray.data_append,Ps.bw,DV,Ps.bz,Ps.sBy]
 ·show _=gu [Ps.bw Ps.fD,r,Ps.bw Ps.sBy,s]
  apply ByteArray.ext
  apply Array.toList_inj.1
  simp[gu,bW,ByteArray.data_append,Ps.bw,DV,Ps.fD,Ps.sBy]
theorem FP {x:ByteArray}(h:x.size<=20):st (20,x)=x:=bF h
theorem Ez {x:ByteArray}(h:x.size<=10):st (10,x)=x:=bF h
theorem Oh {x:ByteArray}(h:x.size<=60):st (60,x)=x:=bF h
def IK (k:Int):ByteArray:=if k=3 then⟨#[112,108,101,100,103,101,32]⟩else⟨#[114,101,108,101,97,115,101,32]⟩
def bBy:ByteArray:=⟨#[32,98,121,32]⟩
def lW:ByteArray:=⟨#[32,105,115,105,110,32]⟩
def uQ:ByteArray:=⟨#[32,113,117,97,110,116,105,116,121,32]⟩
def kY:ByteArray:=⟨#[32,100,97,121,32]⟩
abbrev cu (i:Ps.Ins):Ps.Req:={op:=0,sender:=i.sender,ref:=i.ref,ins:=i}
theorem ym (w:World)(i:Ps.Ins)(hk:i.kind=3\/i.kind=4)(hi:Ps.kW az.valid i)(hs:jQ (cu i))(os:List Ps.Op)(sa:Option Addr)(sn sc:Nat):gF 15 #[.agg (aA (cu i) (.slice sa sn sc))] w (Ps.gU (Ps.iZ Ps.aO (cu i) os)):=by
 have c1:C1 48 i.quantity 20 (Ps.bO i.quantity):=vw (by have:=hi.qty (by omega);omega)
 have c2:C1 46 i.settleDay 10 (Ps.aO i.settleDay):=um hi.settle
 have hs2:=hs
 clear hi
 obtain⟨ref,kind,sender,cp,side,asset,qty,am,td,sd,pr,pa,ml,ho,re,li⟩:=i
 obtain⟨s1,s2,s3,s4,s5,s6⟩:=hs2
 dsimp only at hk c1 c2 s1 s2 s3 s4 s5 s6
 refine kG w _ sa sn sc _ λW g a hL hd hn h1 h2 h3=>?_
 refine gM (M:=lnE W g (cu ⟨ref,kind,sender,cp,side,asset,qty,am,td,sd,pr,pa,ml,ho,re,li⟩) (.slice sa sn sc)) (pO hL hs) [2]
  (us:=[.s (Se.cat (Se.cat (Se.cat (Se.cat (Se.cat (Se.cat (Se.cat (Se.cat (Se.cat ((IK kind).size,IK kind) (40,ref)) (bBy.size,bBy)) (40,sender)) (lW.size,lW)) (40,asset)) (uQ.size,uQ)) (20,Ps.bO qty)) (kY.size,kY)) (10,Ps.aO sd))])
  (ps:=[Se.Spec (Ev.aR (dH g (cu ⟨ref,kind,sender,cp,side,asset,qty,am,td,sd,pr,pa,ml,ho,re,li⟩) (.slice sa sn sc))) 48 [.r 1 6] (.str 20 (Ps.bO qty)),Se.Spec (Ev.aR (dH g (cu ⟨ref,kind,sender,cp,side,asset,qty,am,td,sd,pr,pa,ml,ho,re,li⟩) (.slice sa sn sc))) 46 [.r 1 9] (.str 10 (Ps.aO sd))])
  (by rcases hk with rfl|rfl<;>kernel_rfl) ⟨sp1 jX rfl c1,sp1 iR rfl c2,trivial⟩ (rP hd hn h1 h2 h3) (Sw.start _) ?_
 intro a w' _ hd hv hS
 refine EB hL ?_ hd hv hS
 simp only[bB,il]
 rw[ku s1,ku s2,ku s6,FP c1.2,Ez c2.2,kD]
 rcases hk with rfl|rfl
 ·show _=gu [Ps.bw Ps.iL,ref,Ps.bw Ps.sBy,sender,Ps.bw Ps.je,asset,Ps.bw Ps.bU,Ps.bO qty,Ps.bw Ps.dF,Ps.aO sd]
  apply ByteArray.ext
  apply Array.toList_inj.1
  simp[gu,bW,ByteArray.data_append,Ps.bw,IK,bBy,lW,uQ,kY,Ps.iL,Ps.sBy,Ps.je,Ps.bU,Ps.dF]
 ·show _=gu [Ps.bw Ps.fP,ref,Ps.bw Ps.sBy,sender,Ps.bw Ps.je,asset,Ps.bw Ps.bU,Ps.bO qty,Ps.bw Ps.dF,Ps.aO sd]
  apply ByteArray.ext
  apply Array.toList_inj.1
  simp[gu,bW,ByteArray.data_append,Ps.bw,IK,bBy,lW,uQ,kY,Ps.fP,Ps.sBy,Ps.je,Ps.bU,Ps.dF]
def yl (tS:TypeId)(kr j0:Nat)(n:Int)(b:Bool)(o:Oper)(ov:Operand->Option PV):Option PV:=match o.op with
 | .indexAddr t x y=>if t=tS/\b=true then(match ov x,ov y with
   |some (.r k c),some (.r 2 0)=>if k=kr/\c=j0 then some (.p 3 0)else none
   |_,_=>none)else none
 | .call ⟨.builtin .len,xs,ts⟩=>(match xs.toList,ts.toList with
   |[x],[t]=>if t=tS/\o.type=3 then(match ov x with
    |some (.r k c)=>if k=kr/\c=j0 then some (.v (.int .i64 n))else none
    |_=>none)else none
   |_,_=>none)
 |_=>none
theorem Mh {M:Mem}{tS:TypeId}(ht:tS=22\/tS=32){kr j0 n cp j:Nat}{sa:Option Addr}{b:Bool}(hc:M.cell kr j0=.slice sa n cp)(hj:M.cell 2 0=.int .i64 (j:Int))(hb:b=true->j<n/\∃sb so,sa=some ⟨sb,so,none⟩/\M.ptr 3 0=.pointer (some ⟨sb,so+j*2,none⟩))(o:Oper)(ov:Operand->Option PV)(u:PV)(h:yl tS kr j0 (n:Int) b o ov=some u)(ρ:Operand->Value)(w:World)(_:∀f,ρ (.func f)=.func (.func f) #[] #[])(_:Sw M w)(hov:∀x p,ov x=some p->Den M p (ρ x) w):∃v,(execOp ρ o).run Tryz.prog w=.ok (.value v) w/\Den M u v w:=by
 unfold yl at h
 split at h
 ·rename_i t x y ho
  split at h
  ·rename_i htb
   obtain⟨rfl,hbt⟩:=htb
   split at h
   ·rename_i k c hx hy
    split at h
    ·rename_i hk
     obtain⟨rfl,rfl⟩:=hk
     cases h
     obtain⟨hlt,sb,so,rfl,hp⟩:=hb hbt
     have hx2:ρ x=.slice (some ⟨sb,so,none⟩) n cp:=(hov _ _ hx).trans hc
     have hy2:ρ y=.int .i64 (j:Int):=(hov _ _ hy).trans hj
     have PT:(j:Int)<(n:Int):=by omega
     refine⟨.pointer (some ⟨sb,so+j*2,none⟩),?_,hp.symm⟩
     unfold execOp
     simp only[ho,hx2,hy2]
     clear hp hc hj hov hx hy ho hb
     rcases ht with rfl|rfl<;>go_simp
    ·cases h
   ·cases h
  ·cases h
 ·rename_i xs ts ho
  split at h
  ·rename_i x t hxs hts
   split at h
   ·rename_i ht3
    obtain⟨rfl,h3⟩:=ht3
    split at h
    ·rename_i k c hx
     split at h
     ·rename_i hk
      obtain⟨rfl,rfl⟩:=hk
      cases h
      have hx2:ρ x=.slice sa n cp:=(hov _ _ hx).trans hc
      obtain rfl:xs=#[x]:=by apply Array.toList_inj.1;rw[hxs]
      obtain rfl:ts=#[t]:=by apply Array.toList_inj.1;rw[hts]
      refine⟨.int .i64 (n:Int),?_,rfl⟩
      unfold execOp
      simp only[ho,h3,hx2]
      clear hc hj hov hx ho hb
      rcases ht with rfl|rfl<;>go_simp
     ·cases h
    ·cases h
   ·cases h
  ·cases h
 ·cases h
theorem JR {M:Mem}{tS:TypeId}(ht:tS=22\/tS=32){kr j0 n cp:Nat}{sa:Option Addr}(hc:M.cell kr j0=.slice sa n cp)(o:Oper)(ov:Operand->Option PV)(u:PV)(h:yl tS kr j0 (n:Int) false o ov=some u)(ρ:Operand->Value)(w:World)(_:∀f,ρ (.func f)=.func (.func f) #[] #[])(_:Sw M w)(hov:∀x p,ov x=some p->Den M p (ρ x) w):∃v,(execOp ρ o).run Tryz.prog w=.ok (.value v) w/\Den M u v w:=by
 unfold yl at h
 split at h
 ·split at h
  ·rename_i hb;cases hb.2
  ·cases h
 ·rename_i xs ts ho
  split at h
  ·rename_i x t hxs hts
   split at h
   ·rename_i ht3
    obtain⟨rfl,h3⟩:=ht3
    split at h
    ·rename_i k c hx
     split at h
     ·rename_i hk
      obtain⟨rfl,rfl⟩:=hk
      cases h
      have hx2:ρ x=.slice sa n cp:=(hov _ _ hx).trans hc
      obtain rfl:xs=#[x]:=by apply Array.toList_inj.1;rw[hxs]
      obtain rfl:ts=#[t]:=by apply Array.toList_inj.1;rw[hts]
      refine⟨.int .i64 (n:Int),?_,rfl⟩
      unfold execOp
      simp only[ho,h3,hx2]
      clear hc hov hx ho
      rcases ht with rfl|rfl<;>go_simp
     ·cases h
    ·cases h
   ·cases h
  ·cases h
 ·cases h
theorem KQ {w W:World}{g j:Nat}(h:w.heap[g]? =W.heap[g]?):w.cell? ⟨g,j,none⟩=W.cell? ⟨g,j,none⟩:=by
 unfold World.cell?
 rw[h]
def lkB (l:List Ps.Link):ByteArray:=bW (l.flatMap Ps.GK)
def lkW (ty:Int):ByteArray:=if ty=0 then⟨#[32,119,105,116,104,32]⟩else⟨#[32,97,102,116,101,114,32]⟩
theorem MV (l:List Ps.Link)(x:Ps.Link)(hx:x.type=0\/x.type=1):lkB (l++[x])=lkB l++(lkW x.type++x.ref):=by
 unfold lkB
 rw[List.flatMap_append,dU]
 congr 1
 obtain⟨ty,rf⟩:=x
 rcases hx with rfl|rfl
 ·apply ByteArray.ext
  apply Array.toList_inj.1
  simp[Ps.GK,bW,lkW,Ps.bw,Ps.iV]
 ·apply ByteArray.ext
  apply Array.toList_inj.1
  simp[Ps.GK,bW,lkW,Ps.bw,Ps.eF]
theorem MX (t:Int):(lkW t).size<=7:=by
 unfold lkW
 split<;>decide
theorem Dp (l:List Ps.Link){j:Nat}{x:Ps.Link}(h:l[j]? =some x)(hx:x.type=0\/x.type=1):lkB (l.take (j+1))=lkB (l.take j)++(lkW x.type++x.ref):=by
 rw[List.take_add_one,h]
 exact MV _ x hx
theorem Bf (l:List Ps.Link)(h:∀x∈l,(x.type=0\/x.type=1)/\x.ref.size<=40):∀j,j<=l.length->(lkB (l.take j)).size<=j*50
 |0,_=>Nat.zero_le _
 |j+1,hj=>by
  have hx:l[j]? =some (l[j]'(by omega)):=List.getElem?_eq_getElem _
  obtain⟨h1,h2⟩:=h _ (List.getElem_mem (by omega:j<l.length))
  rw[Dp l hx h1,ByteArray.size_append,ByteArray.size_append]
  have:=Bf l h j (by omega)
  have:=MX (l[j]'(by omega)).type
  omega
def Nz (rows:List (Option (Nat×Nat)×List Value))(j sb so:Nat)(x:Ps.Link):List (Option (Nat×Nat)×List Value):=rows++[(none,[.int .i64 (j:Int)]),(some (sb,so+j*2),[.int .i64 x.type,.string x.ref])]
theorem Ni {W:World}{sb so j:Nat}{x:Ps.Link}{ks:List Ps.Link}(h:EY W sb so ks)(hj:ks[j]? =some x):sb<W.heap.size/\∀w:World,w.heap[sb]? =W.heap[sb]?->∀(k:Nat) (v:Value),([.int .i64 x.type,.string x.ref]:List Value)[k]? =some v->w.cell? ⟨sb,so+j*2+k,none⟩=some v:=by
 obtain⟨h1,h2⟩:=h j x hj
 refine⟨World.block_lt_of_cell? W _ h1,λw hw k v hv=>?_⟩
 rw[KQ hw]
 rcases k with _|_|k
 ·cases hv;exact h1
 ·cases hv;exact h2
 ·cases hv
noncomputable def FL (W:World)(rows:List (Option (Nat×Nat)×List Value))(n:Int)(b:Bool):Mem:={ {seM W.heap.size W [] 40 rows (λ_ _=>none)with oth:=yl 22 1 15 n b}with hint:=λt=>if t=210 then some b else none,loops:=0}
noncomputable def lnLp:Code:=(Ev.aS Ev.bf lnC).1
theorem Gv {W:World}{rows:List (Option (Nat×Nat)×List Value)}{n cp j:Nat}{sa:Option Addr}{b:Bool}
 (h2:∀(k g o:Nat) (l:List Value),rows[k]? =some (some (g,o),l)->(g<W.heap.size\/g∈([]:List Nat))/\∀w:World,w.heap[g]? =W.heap[g]?->∀(j:Nat) (v:Value),l[j]? =some v->w.cell? ⟨g,o+j,none⟩=some v)
 (hb:∀(k:Nat) (p:Nat×Nat) (l:List Value),rows[k]? =some (some p,l)->∀x,Value.string x∈l->x.size<=40)
 (hc:Ev.aR rows 1 15=.slice sa n cp) (hj:Ev.aR rows 2 0=.int .i64 (j:Int)) (hbb:b=true->j<n/\∃sb so,sa=some ⟨sb,so,none⟩/\(seM W.heap.size W [] 40 rows (λ_ _=>none)).ptr 3 0=.pointer (some ⟨sb,so+j*2,none⟩)):Ok Tryz.prog (FL W rows n b):=
 ((GY (Nat.le_refl _) (λg hg=>by cases hg) h2 hb).withOth (Mh (.inl rfl) hc hj hbb)).hint
theorem Ra {W w:World}{g:Nat}{Q:Ps.Req}{lv:Value}{rows:List (Option (Nat×Nat)×List Value)}{n:Int}{b:Bool}(h:Sw (lnE W g Q lv) w):Sw (FL W rows n b) w:=⟨h.os,h.tape,h.output,h.size,h.block⟩
theorem Ro {W w:World}{g:Nat}{Q:Ps.Req}{lv:Value}{rows:List (Option (Nat×Nat)×List Value)}{n:Int}{b:Bool}(h:Sw (FL W rows n b) w):Sw (lnE W g Q lv) w:=⟨h.os,h.tape,h.output,h.size,h.block⟩
def lnJ (w0 W:World)(g:Nat)(Q:Ps.Req)(lv:Value)(X:ByteArray)(j:Nat)(a:Act)(w:World):Prop:=a.tmps.size=232/\a.defers=[]/\a.tmps[3]? =some (.pointer (some ⟨g+1,0,none⟩))/\a.tmps[9]? =some (.string (X++lkB (Q.ins.links.take j)))/\a.tmps[10]? =some (.int .i64 (j:Int))/\Sw (lnE W g Q lv) w
theorem Kn {w W:World}{g:Nat}{Q:Ps.Req}{sa:Option Addr}{sn sc:Nat}(hL:LnW w W g Q (.slice sa sn sc))(hs:jQ Q)(hn:sn=Q.ins.links.length)(hle:sn<=8)(hlv:∀x∈Q.ins.links,(x.type=0\/x.type=1)/\x.ref.size<=40)(hlk:0<sn->∃sb so,sa=some ⟨sb,so,none⟩/\EY W sb so Q.ins.links)(X:ByteArray)(hX:X.size<=90000)
 {a:Act} {w':World} (hJ:lnJ w W g Q (.slice sa sn sc) X 0 a w'):
 lnLp.wp Tryz.prog (Ev.Qof Tryz.prog (Ev.aS Ev.bf lnC).2 (bodyPost Tryz.prog Tryz.f15 λe w'=>e=.returned (.string (X++lkB Q.ins.links))/\Below w.heap.size w w')) a w':=by
 have hsz:=Bf Q.ins.links hlv
 show(Code.loop (Ev.jC lnLp)).wp _ _ _ _
 refine wp_loop (λa w'=>∃j:Nat,j<=sn/\lnJ w W g Q (.slice sa sn sc) X j a w') (λa _=>sn-(intOf (a.tmps.getD 10 undef)).toNat) ⟨0,Nat.zero_le _,hJ⟩ ?_
 clear hJ a w'
 rintro a w' ⟨j,hj,h1,h2,h3,h4,h5,hS⟩
 have hsj:=hsz j (by omega)
 have hx4:st (100000,X++lkB (Q.ins.links.take j))=X++lkB (Q.ins.links.take j):=bF (by rw[ByteArray.size_append];omega)
 have hr0:=nQ hL.r0
 have hr1:=nQ hL.r1
 have hg0:=hL.sz
 by_cases hlt:j<sn
 ·obtain⟨sb,so,rfl,hrow⟩:=hlk (by omega)
  obtain⟨x,hx⟩:∃x,Q.ins.links[j]? =some x:=⟨_,List.getElem?_eq_getElem (by omega)⟩
  obtain⟨hxt,hxr⟩:=hlv x (List.mem_of_getElem? hx)
  obtain⟨hsb,hxc⟩:=Ni hrow hx
  have hO:Ok Tryz.prog (FL W (Nz (dH g Q (.slice (some ⟨sb,so,none⟩) sn sc)) j sb so x) (sn:Int) true):=Gv (cp:=sc) (j:=j) (sa:=some ⟨sb,so,none⟩) (λk g' o l hk=>by
   rcases k with _|_|_|_|k
   ·cases hk;exact⟨.inl (by omega),hr0⟩
   ·cases hk;exact⟨.inl (by omega),hr1⟩
   ·cases hk
   ·cases hk;exact⟨.inl hsb,hxc⟩
   ·cases hk) (λk p l hk=>by
   rcases k with _|_|_|_|k
   ·cases hk;exact uZ (λx e=>by cases e) hs
   ·cases hk;exact ql (λx e=>by cases e) hs.iref hs.isender hs.icp hs.iasset
   ·cases hk
   ·cases hk
    intro y hy
    simp at hy
    subst hy
    exact hxr
   ·cases hk) rfl rfl λ_=>⟨hlt,sb,so,rfl,rfl⟩
  have hF:FrP (FL W (Nz (dH g Q (.slice (some ⟨sb,so,none⟩) sn sc)) j sb so x) (sn:Int) true) 232 [(3,.p 1 0),(9,.s (100000,X++lkB (Q.ins.links.take j))),(10,.r 2 0)] a w':=ah (ah (ah (fZ h1 h2) h5 rfl) h4 (by show _=Value.string (st _);rw[hx4])) h3 rfl
  refine RX hO [3,9,10] (us:=[.p 1 0,.s (Se.cat (Se.cat (100000,X++lkB (Q.ins.links.take j)) ((lkW x.type).size,lkW x.type)) (40,x.ref)),.v (.int .i64 (IntKind.i64.wrap ((j:Int)+1)))]) (ps:=[decide ((j:Int)<(sn:Int))=true]) (by
   obtain⟨ty,rf⟩:=x
   rcases hxt with rfl|rfl<;>kernel_rfl) ⟨by simpa using hlt,trivial⟩ hF (Ra hS) ?_
  intro b w2 b1 b2 hv hS2
  obtain⟨⟨v3,e3,d3⟩,hv⟩:=hv.cons
  obtain⟨⟨v9,e9,d9⟩,hv⟩:=hv.cons
  obtain⟨⟨v10,e10,d10⟩,hv⟩:=hv.cons
  have d9:v9=.string (st _):=d9
  have d10:v10=.int .i64 _:=d10
  rw[IntWalk.i64_in _ (by omega),show(j:Int)+1=((j+1:Nat):Int)from by omega]at d10
  subst d10
  rw[bB,bB,hx4,ku hxr,il,ByteArray.append_assoc,ByteArray.append_assoc,<-Dp Q.ins.links hx hxt]at d9
  subst d9
  refine⟨⟨j+1,by omega,b1,b2,e3.trans (congrArg some d3),e9,e10,Ro hS2⟩,?_⟩
  have q1:b.tmps.getD 10 undef=.int .i64 ((j+1:Nat):Int):=eval_at e10
  have q2:a.tmps.getD 10 undef=.int .i64 (j:Int):=eval_at h5
  rw[q1,q2]
  show sn-(((j+1:Nat):Int)).toNat<sn-((j:Nat):Int).toNat
  omega
 ·obtain rfl:j=sn:=by omega
  have hO:Ok Tryz.prog (FL W (dH g Q (.slice sa j sc)++[(none,[.int .i64 (j:Int)])]) (j:Int) false):=Gv (cp:=sc) (j:=j) (sa:=sa) (λk g' o l hk=>by
   rcases k with _|_|_|k
   ·cases hk;exact⟨.inl (by omega),hr0⟩
   ·cases hk;exact⟨.inl (by omega),hr1⟩
   ·cases hk
   ·cases hk) (λk p l hk=>by
   rcases k with _|_|_|k
   ·cases hk;exact uZ (λx e=>by cases e) hs
   ·cases hk;exact ql (λx e=>by cases e) hs.iref hs.isender hs.icp hs.iasset
   ·cases hk
   ·cases hk) rfl rfl λh=>by cases h
  have hF:FrP (FL W (dH g Q (.slice sa j sc)++[(none,[.int .i64 (j:Int)])]) (j:Int) false) 232 [(3,.p 1 0),(9,.s (100000,X++lkB (Q.ins.links.take j))),(10,.r 2 0)] a w':=ah (ah (ah (fZ h1 h2) h5 rfl) h4 (by show _=Value.string (st _);rw[hx4])) h3 rfl
  refine ex_out hO [9] (k:=1) (us:=[.s (100000,X++lkB (Q.ins.links.take j))]) (ps:=[decide ((j:Int)<(j:Int))=false]) (by kernel_rfl) ⟨by simp,trivial⟩ hF (Ra hS) ?_
  intro b w2 b1 b2 hv hS2
  obtain⟨⟨v9,e9,d9⟩,-⟩:=hv.cons
  have d9:v9=.string (st _):=d9
  subst d9
  have G8:=Ro (g:=g) (Q:=Q) (lv:=.slice sa j sc) hS2
  show(Ev.fmC (Ev.aS Ev.bf lnC).2 1).wp Tryz.prog _ b w2
  refine gM (M:=lnE W g Q (.slice sa j sc)) (n:=232) (K:=[(9,.s (100000,X++lkB (Q.ins.links.take j)))]) (pO hL hs) [2] (us:=[.s (100000,X++lkB (Q.ins.links.take j))]) (ps:=[]) (by kernel_rfl) trivial (ah (fZ b1 b2) e9 rfl) G8 ?_
  intro b3 w3 _ hd hv hS4
  refine EB hL ?_ hd hv hS4
  rw[hx4,hn,List.take_length]
def DJ:ByteArray:=⟨#[32,104,111,108,100]⟩
def Mt:ByteArray:=⟨#[32,114,101,115,101,114,118,101]⟩
def lq:ByteArray:=⟨#[32,102,114,111,109,32]⟩
def bTo:ByteArray:=⟨#[32,116,111,32]⟩
def FJ:ByteArray:=⟨#[32,97,109,111,117,110,116,32]⟩
def mY:ByteArray:=⟨#[32,97,103,97,105,110,115,116,32]⟩
def wm:ByteArray:=⟨#[32,116,114,97,100,101,32]⟩
def CK:ByteArray:=⟨#[32,102,114,101,101,32,116,114,97,100,101,32]⟩
def Q5:ByteArray:=⟨#[112,97,121,32]⟩
def oK (side:Int):ByteArray:=if side=1 then⟨#[114,101,99,101,105,118,101,32]⟩else⟨#[100,101,108,105,118,101,114,32]⟩
abbrev lt (b:ByteArray):SB:=(b.size,b)
def Fv (b:Bool)(x:ByteArray)(t:SB):SB:=cond b (Se.cat t (lt x)) t
theorem rX (b:Bool)(x:ByteArray)(t:SB):st (Fv b x t)=st t++(if b=true then x else⟨#[]⟩):=by
 cases b with
 |false=>exact ByteArray.append_empty.symm
 |true=>show st (Se.cat t (lt x))=_;rw[bB,il];rfl
def tlB (ho re:Bool):ByteArray:=(if ho=true then DJ else⟨#[]⟩)++(if re=true then Mt else⟨#[]⟩)
theorem vL (ho re:Bool):(tlB ho re).size<=13:=by cases ho<;>cases re<;>decide
theorem wR (i:Ps.Ins):bW ((Ps.gy i).flatMap Ps.opT)=aj i.priority i.partial_ i.minLot++(tlB i.hold i.reserve++lkB i.links):=by
 have hl:(i.links.map Ps.Op.lnk).flatMap Ps.opT=i.links.flatMap Ps.GK:=by
  rw[List.flatMap_map]
  rfl
 unfold Ps.gy
 rw[List.flatMap_cons,List.flatMap_append,List.flatMap_append,List.flatMap_append,hl,dU,dU,dU,dU]
 show bW [Ps.bw (Ps.iW i.priority)]++_=_
 unfold aj tlB lkB Ps.oPa Ps.oHo Ps.oRe
 generalize bW (i.links.flatMap Ps.GK)=L
 cases i.partial_<;>cases i.hold<;>cases i.reserve
 all_goals
  apply ByteArray.ext
  apply Array.toList_inj.1
  simp[bW,Ps.opT,Ps.bw,DJ,Mt,Ps.aM,Ps.bz,Ps.bV]
structure LnF (i:Ps.Ins):Prop where
 c1:i.kind≠0->C1 48 i.quantity 20 (Ps.bO i.quantity)
 c2:i.kind≠2->C1 45 i.amount 20 (Ps.cB i.amount)
 c3:i.kind≠0->C1 46 i.tradeDay 10 (Ps.aO i.tradeDay)
 c4:C1 46 i.settleDay 10 (Ps.aO i.settleDay)
 c5:C3 47 i.priority i.partial_ i.minLot 60 (aj i.priority i.partial_ i.minLot)
theorem Ep {i:Ps.Ins}(h:Ps.kW az.valid i)(hk:i.kind=0\/i.kind=1\/i.kind=2):LnF i where
 c1:=λh0=>vw (by have:=h.qty h0;omega)
 c2:=λh0=>Ht (by have:=h.am (by omega);omega)
 c3:=λh0=>um (by have:=h.trade (by omega);have:=h.settle;omega)
 c4:=um h.settle
 c5:=xK h.prio λhp=>by have h1:=h.lot hp;have h2:=h.qty (by have:=h.part hp;omega);omega
theorem Ap {w W:World}{g:Nat}{i:Ps.Ins}{sa:Option Addr}{sn sc:Nat}(hL:LnW w W g (cu i) (.slice sa sn sc))(hs:jQ (cu i))(hn:sn=i.links.length)(hi:Ps.kW az.valid i)(hlk:dJ w sa sn i.links){S:SB}{X Y:ByteArray}(hS:st S=X)(hX:X.size<=90000)(hY:X++lkB i.links=Y)
 {a:Act} {w':World} (h1:a.tmps.size=232) (h2:a.defers=[]) (hv:oC (lnE W g (cu i) (.slice sa sn sc)) [3,9,10] [.p 1 0,.s S,.v (.int .i64 0)] a w') (hw:Sw (lnE W g (cu i) (.slice sa sn sc)) w'):
 (Ev.aS Ev.bf lnC).1.wp Tryz.prog (Ev.Qof Tryz.prog (Ev.aS Ev.bf lnC).2 (bodyPost Tryz.prog Tryz.f15 λe w'=>e=.returned (.string Y)/\Below w.heap.size w w')) a w':=by
 obtain⟨⟨v3,e3,d3⟩,hv⟩:=hv.cons
 obtain⟨⟨v9,e9,d9⟩,hv⟩:=hv.cons
 obtain⟨⟨v10,e10,d10⟩,hv⟩:=hv.cons
 have d3:v3=.pointer (some ⟨g+1,0,none⟩):=d3
 have d9:v9=.string (st S):=d9
 have d10:v10=.int .i64 0:=d10
 rw[hS]at d9
 subst d3 d9 d10
 have:=Kn (Q:=cu i) hL hs hn (hn▸hi.links) (λx hx=>⟨(hi.link x hx).1,by have:=(gL (by omega) (hi.link x hx).2).2;omega⟩) (λh0=>by
  obtain⟨sb,so,e,h⟩:=hlk h0
  exact⟨sb,so,e,h W hL.hb⟩) X hX (a:=a) (w':=w') ⟨h1,h2,e3,by rw[e9];show _=some (Value.string (X++lkB (([]:List Ps.Link))));exact congrArg (λx=>some (Value.string x)) ByteArray.append_empty.symm,e10,hw⟩
 rw[<-hY]
 exact this
theorem ln_pay (w:World)(i:Ps.Ins)(hk:i.kind=0)(hi:Ps.kW az.valid i)(hs:jQ (cu i))(sa:Option Addr)(sn sc:Nat)(hn:sn=i.links.length)(hlk:dJ w sa sn i.links):gF 15 #[.agg (aA (cu i) (.slice sa sn sc))] w (Ps.gU (Ps.iZ Ps.aO (cu i) (Ps.gy i))):=by
 obtain⟨c1,c2,c3,c4,c5⟩:=Ep hi (by omega)
 have c2:=c2 (by omega)
 have hsd:=hi.sideN (by omega)
 obtain⟨s1,s2,s3,s4,s5,s6⟩:=hs
 have hs:jQ (cu i):=⟨s1,s2,s3,s4,s5,s6⟩
 refine kG w _ sa sn sc _ λW g a hL hd ha h1 h2 h3=>?_
 have hO:=pO hL hs
 have hF:=rP (W:=W) (g:=g) (Q:=cu i) (lv:=.slice sa sn sc) hd ha h1 h2 h3
 have hR:=λ{S X Y} (hS:st S=X) hX hY a w'=>@Ap w W g i sa sn sc hL hs hn hi hlk S X Y hS hX hY a w'
 have hT:=wR i
 clear hL hd ha h1 h2 h3 hs hi hlk hn c1 c3
 refine Dl (M:=lnE W g (cu i) (.slice sa sn sc)) (c:=(Ev.aS Ev.bf lnC).1) (fs:=(Ev.aS Ev.bf lnC).2) hO [3,9,10]
  (us:=[.p 1 0,.s (Fv i.reserve Mt (Fv i.hold DJ (Se.cat (Se.cat (Se.cat (Se.cat (Se.cat (Se.cat (Se.cat (Se.cat (Se.cat (Se.cat (lt Q5) (40,i.ref)) (lt lq)) (40,i.sender)) (lt bTo)) (40,i.counterparty)) (lt FJ)) (20,Ps.cB i.amount)) (lt kY)) (10,Ps.aO i.settleDay)) (60,aj i.priority i.partial_ i.minLot)))),.v (.int .i64 0)])
  (ps:=[Se.Spec (Ev.aR (dH g (cu i) (.slice sa sn sc))) 45 [.r 1 7] (.str 20 (Ps.cB i.amount)),Se.Spec (Ev.aR (dH g (cu i) (.slice sa sn sc))) 46 [.r 1 9] (.str 10 (Ps.aO i.settleDay)),Se.Spec (Ev.aR (dH g (cu i) (.slice sa sn sc))) 47 [.r 1 10,.v (.bool i.partial_),.r 1 12] (.str 60 (aj i.priority i.partial_ i.minLot))])
  (by
   clear hO hF hR hT c2 c4 c5 s1 s2 s3 s4 s5 s6
   obtain⟨ref,kind,sender,cp,side,asset,qty,am,td,sd,pr,pa,ml,ho,re,li⟩:=i
   dsimp only at hk hsd
   subst hk hsd
   cases ho<;>cases re<;>kernel_rfl) ⟨sp1 qj rfl c2,sp1 iR rfl c4,sp3 iO rfl rfl rfl c5,trivial⟩ hF (Sw.start _) ?_
 intro a w' h1 h2 hv hw
 have z1:=c2.2
 have z2:=c4.2
 have z3:=c5.2
 have z4:=vL i.hold i.reserve
 refine hR (X:=Q5++(i.ref++(lq++(i.sender++(bTo++(i.counterparty++(FJ++(Ps.cB i.amount++(kY++(Ps.aO i.settleDay++(aj i.priority i.partial_ i.minLot++tlB i.hold i.reserve))))))))))) ?_ ?_ ?_ a w' h1 h2 hv hw
 ·rw[rX,rX]
  simp only[bB,il]
  rw[ku s1,ku s2,ku s5,FP c2.2,Ez c4.2,Oh c5.2]
  simp only[ByteArray.append_assoc]
  rfl
 ·have y1:Q5.size=4:=rfl
  have y2:lq.size=6:=rfl
  have y3:bTo.size=4:=rfl
  have y4:FJ.size=8:=rfl
  have y5:kY.size=5:=rfl
  have s1:i.ref.size<=40:=s1
  have s2:i.sender.size<=40:=s2
  have s5:i.counterparty.size<=40:=s5
  simp only[ByteArray.size_append]
  omega
 ·rw[kD]
  have e:Ps.iZ Ps.aO (cu i) (Ps.gy i)=[Ps.bw Ps.Bi,i.ref,Ps.bw Ps.lm,i.sender,Ps.bw Ps.sTo,i.counterparty,Ps.bw Ps.bJ,Ps.cB i.amount,Ps.bw Ps.dF,Ps.aO i.settleDay]++(Ps.gy i).flatMap Ps.opT:=by
   show Ps.ol Ps.aO i (Ps.gy i)=_
   unfold Ps.ol
   rw[if_neg (by omega),if_pos hk]
  rw[e,jF (by simp),hT]
  apply ByteArray.ext
  apply Array.toList_inj.1
  simp[gu,bW,Ps.bw,Q5,lq,bTo,FJ,kY,Ps.Bi,Ps.lm,Ps.sTo,Ps.bJ,Ps.dF]
theorem ln_dvp (w:World)(i:Ps.Ins)(hk:i.kind=1)(hi:Ps.kW az.valid i)(hs:jQ (cu i))(sa:Option Addr)(sn sc:Nat)(hn:sn=i.links.length)(hlk:dJ w sa sn i.links):gF 15 #[.agg (aA (cu i) (.slice sa sn sc))] w (Ps.gU (Ps.iZ Ps.aO (cu i) (Ps.gy i))):=by
 obtain⟨c1,c2,c3,c4,c5⟩:=Ep hi (by omega)
 have c1:=c1 (by omega)
 have c3:=c3 (by omega)
 have c2:=c2 (by omega)
 have hsd:=hi.side
 obtain⟨s1,s2,s3,s4,s5,s6⟩:=hs
 have hs:jQ (cu i):=⟨s1,s2,s3,s4,s5,s6⟩
 refine kG w _ sa sn sc _ λW g a hL hd ha h1 h2 h3=>?_
 have hO:=pO hL hs
 have hF:=rP (W:=W) (g:=g) (Q:=cu i) (lv:=.slice sa sn sc) hd ha h1 h2 h3
 have hR:=λ{S X Y} (hS:st S=X) hX hY a w'=>@Ap w W g i sa sn sc hL hs hn hi hlk S X Y hS hX hY a w'
 have hT:=wR i
 clear hL hd ha h1 h2 h3 hs hi hlk hn
 refine Dl (M:=lnE W g (cu i) (.slice sa sn sc)) (c:=(Ev.aS Ev.bf lnC).1) (fs:=(Ev.aS Ev.bf lnC).2) hO [3,9,10]
  (us:=[.p 1 0,.s (Fv i.reserve Mt (Fv i.hold DJ (Se.cat (Se.cat (Se.cat (Se.cat (Se.cat (Se.cat (Se.cat (Se.cat (Se.cat (Se.cat (Se.cat (Se.cat (Se.cat (Se.cat (Se.cat (Se.cat (lt (oK i.side)) (40,i.ref)) (lt lq)) (40,Ps.gH i)) (lt bTo)) (40,Ps.toT i)) (lt lW)) (40,i.asset)) (lt uQ)) (20,Ps.bO i.quantity)) (lt mY)) (20,Ps.cB i.amount)) (lt wm)) (10,Ps.aO i.tradeDay)) (lt kY)) (10,Ps.aO i.settleDay)) (60,aj i.priority i.partial_ i.minLot)))),.v (.int .i64 0)])
  (ps:=[Se.Spec (Ev.aR (dH g (cu i) (.slice sa sn sc))) 48 [.r 1 6] (.str 20 (Ps.bO i.quantity)),Se.Spec (Ev.aR (dH g (cu i) (.slice sa sn sc))) 45 [.r 1 7] (.str 20 (Ps.cB i.amount)),Se.Spec (Ev.aR (dH g (cu i) (.slice sa sn sc))) 46 [.r 1 8] (.str 10 (Ps.aO i.tradeDay)),Se.Spec (Ev.aR (dH g (cu i) (.slice sa sn sc))) 46 [.r 1 9] (.str 10 (Ps.aO i.settleDay)),Se.Spec (Ev.aR (dH g (cu i) (.slice sa sn sc))) 47 [.r 1 10,.v (.bool i.partial_),.r 1 12] (.str 60 (aj i.priority i.partial_ i.minLot))])
  (by
   clear hO hF hR hT c1 c3 c4 c5 c2 s1 s2 s3 s4 s5 s6
   obtain⟨ref,kind,sender,cp,side,asset,qty,am,td,sd,pr,pa,ml,ho,re,li⟩:=i
   dsimp only at hk hsd
   subst hk
   rcases hsd with rfl|rfl<;>cases ho<;>cases re<;>kernel_rfl) ⟨sp1 jX rfl c1,sp1 qj rfl c2,sp1 iR rfl c3,sp1 iR rfl c4,sp3 iO rfl rfl rfl c5,trivial⟩ hF (Sw.start _) ?_
 intro a w' h1 h2 hv hw
 have z1:=c1.2
 have z5:=c3.2
 have z6:=c2.2
 have z2:=c4.2
 have z3:=c5.2
 have z4:=vL i.hold i.reserve
 have sf:(Ps.gH i).size<=40:=by unfold Ps.gH;split<;>assumption
 have sg:(Ps.toT i).size<=40:=by unfold Ps.toT;split<;>assumption
 refine hR (X:=(oK i.side++(i.ref++(lq++(Ps.gH i++(bTo++(Ps.toT i++(lW++(i.asset++(uQ++(Ps.bO i.quantity++(mY++(Ps.cB i.amount++(wm++(Ps.aO i.tradeDay++(kY++(Ps.aO i.settleDay++(aj i.priority i.partial_ i.minLot++tlB i.hold i.reserve)))))))))))))))))) ?_ ?_ ?_ a w' h1 h2 hv hw
 ·rw[rX,rX]
  simp only[bB,il]
  rw[ku s1,ku sf,ku sg,ku s6,FP c1.2,FP c2.2,Ez c3.2,Ez c4.2,Oh c5.2]
  simp only[ByteArray.append_assoc]
  rfl
 ·have y0:(oK i.side).size<=8:=by unfold oK;split<;>decide
  have y1:lq.size=6:=rfl
  have y2:bTo.size=4:=rfl
  have y3:lW.size=6:=rfl
  have y4:uQ.size=10:=rfl
  have y5:mY.size=9:=rfl
  have y6:wm.size=7:=rfl
  have y7:kY.size=5:=rfl
  have y8:i.ref.size<=40:=s1
  have y9:i.asset.size<=40:=s6
  simp only[ByteArray.size_append]
  omega
 ·rw[kD]
  have e:Ps.iZ Ps.aO (cu i) (Ps.gy i)=[Ps.bw (if i.side=1 then Ps.dN else Ps.dO),i.ref,Ps.bw Ps.lm,Ps.gH i,Ps.bw Ps.sTo,Ps.toT i,Ps.bw Ps.je,i.asset,Ps.bw Ps.bU,Ps.bO i.quantity,Ps.bw Ps.eT,Ps.cB i.amount,Ps.bw Ps.iD,Ps.aO i.tradeDay,Ps.bw Ps.dF,Ps.aO i.settleDay]++(Ps.gy i).flatMap Ps.opT:=by
   show Ps.ol Ps.aO i (Ps.gy i)=_
   unfold Ps.ol
   rw[if_neg (by omega),if_neg (by omega),if_pos (by omega)]
  rw[e,jF (by simp),hT]
  rcases hsd with hx|hx
  all_goals
   rw[hx]
   apply ByteArray.ext
   apply Array.toList_inj.1
   simp[gu,bW,Ps.bw,oK,lq,bTo,lW,uQ,mY,wm,CK,kY,Ps.dN,Ps.dO,Ps.lm,Ps.sTo,Ps.je,Ps.bU,Ps.eT,Ps.iD,Ps.jr,Ps.dF]
theorem QJ (w:World)(i:Ps.Ins)(hk:i.kind=2)(hi:Ps.kW az.valid i)(hs:jQ (cu i))(sa:Option Addr)(sn sc:Nat)(hn:sn=i.links.length)(hlk:dJ w sa sn i.links):gF 15 #[.agg (aA (cu i) (.slice sa sn sc))] w (Ps.gU (Ps.iZ Ps.aO (cu i) (Ps.gy i))):=by
 obtain⟨c1,c2,c3,c4,c5⟩:=Ep hi (by omega)
 have c1:=c1 (by omega)
 have c3:=c3 (by omega)
 have hsd:=hi.side
 obtain⟨s1,s2,s3,s4,s5,s6⟩:=hs
 have hs:jQ (cu i):=⟨s1,s2,s3,s4,s5,s6⟩
 refine kG w _ sa sn sc _ λW g a hL hd ha h1 h2 h3=>?_
 have hO:=pO hL hs
 have hF:=rP (W:=W) (g:=g) (Q:=cu i) (lv:=.slice sa sn sc) hd ha h1 h2 h3
 have hR:=λ{S X Y} (hS:st S=X) hX hY a w'=>@Ap w W g i sa sn sc hL hs hn hi hlk S X Y hS hX hY a w'
 have hT:=wR i
 clear hL hd ha h1 h2 h3 hs hi hlk hn c2
 refine Dl (M:=lnE W g (cu i) (.slice sa sn sc)) (c:=(Ev.aS Ev.bf lnC).1) (fs:=(Ev.aS Ev.bf lnC).2) hO [3,9,10]
  (us:=[.p 1 0,.s (Fv i.reserve Mt (Fv i.hold DJ (Se.cat (Se.cat (Se.cat (Se.cat (Se.cat (Se.cat (Se.cat (Se.cat (Se.cat (Se.cat (Se.cat (Se.cat (Se.cat (Se.cat (lt (oK i.side)) (40,i.ref)) (lt lq)) (40,Ps.gH i)) (lt bTo)) (40,Ps.toT i)) (lt lW)) (40,i.asset)) (lt uQ)) (20,Ps.bO i.quantity)) (lt CK)) (10,Ps.aO i.tradeDay)) (lt kY)) (10,Ps.aO i.settleDay)) (60,aj i.priority i.partial_ i.minLot)))),.v (.int .i64 0)])
  (ps:=[Se.Spec (Ev.aR (dH g (cu i) (.slice sa sn sc))) 48 [.r 1 6] (.str 20 (Ps.bO i.quantity)),Se.Spec (Ev.aR (dH g (cu i) (.slice sa sn sc))) 46 [.r 1 8] (.str 10 (Ps.aO i.tradeDay)),Se.Spec (Ev.aR (dH g (cu i) (.slice sa sn sc))) 46 [.r 1 9] (.str 10 (Ps.aO i.settleDay)),Se.Spec (Ev.aR (dH g (cu i) (.slice sa sn sc))) 47 [.r 1 10,.v (.bool i.partial_),.r 1 12] (.str 60 (aj i.priority i.partial_ i.minLot))])
  (by
   clear hO hF hR hT c1 c3 c4 c5 s1 s2 s3 s4 s5 s6
   obtain⟨ref,kind,sender,cp,side,asset,qty,am,td,sd,pr,pa,ml,ho,re,li⟩:=i
   dsimp only at hk hsd
   subst hk
   rcases hsd with rfl|rfl<;>cases ho<;>cases re<;>kernel_rfl) ⟨sp1 jX rfl c1,sp1 iR rfl c3,sp1 iR rfl c4,sp3 iO rfl rfl rfl c5,trivial⟩ hF (Sw.start _) ?_
 intro a w' h1 h2 hv hw
 have z1:=c1.2
 have z5:=c3.2
 have z2:=c4.2
 have z3:=c5.2
 have z4:=vL i.hold i.reserve
 have sf:(Ps.gH i).size<=40:=by unfold Ps.gH;split<;>assumption
 have sg:(Ps.toT i).size<=40:=by unfold Ps.toT;split<;>assumption
 refine hR (X:=(oK i.side++(i.ref++(lq++(Ps.gH i++(bTo++(Ps.toT i++(lW++(i.asset++(uQ++(Ps.bO i.quantity++(CK++(Ps.aO i.tradeDay++(kY++(Ps.aO i.settleDay++(aj i.priority i.partial_ i.minLot++tlB i.hold i.reserve)))))))))))))))) ?_ ?_ ?_ a w' h1 h2 hv hw
 ·rw[rX,rX]
  simp only[bB,il]
  rw[ku s1,ku sf,ku sg,ku s6,FP c1.2,Ez c3.2,Ez c4.2,Oh c5.2]
  simp only[ByteArray.append_assoc]
  rfl
 ·have y0:(oK i.side).size<=8:=by unfold oK;split<;>decide
  have y1:lq.size=6:=rfl
  have y2:bTo.size=4:=rfl
  have y3:lW.size=6:=rfl
  have y4:uQ.size=10:=rfl
  have y5:CK.size=12:=rfl
  have y6:kY.size=5:=rfl
  have y7:i.ref.size<=40:=s1
  have y8:i.asset.size<=40:=s6
  simp only[ByteArray.size_append]
  omega
 ·rw[kD]
  have e:Ps.iZ Ps.aO (cu i) (Ps.gy i)=[Ps.bw (if i.side=1 then Ps.dN else Ps.dO),i.ref,Ps.bw Ps.lm,Ps.gH i,Ps.bw Ps.sTo,Ps.toT i,Ps.bw Ps.je,i.asset,Ps.bw Ps.bU,Ps.bO i.quantity,Ps.bw Ps.jr,Ps.bw Ps.iD,Ps.aO i.tradeDay,Ps.bw Ps.dF,Ps.aO i.settleDay]++(Ps.gy i).flatMap Ps.opT:=by
   show Ps.ol Ps.aO i (Ps.gy i)=_
   unfold Ps.ol
   rw[if_neg (by omega),if_neg (by omega),if_neg (by omega)]
  rw[e,jF (by simp),hT]
  rcases hsd with hx|hx
  all_goals
   rw[hx]
   apply ByteArray.ext
   apply Array.toList_inj.1
   simp[gu,bW,Ps.bw,oK,lq,bTo,lW,uQ,mY,wm,CK,kY,Ps.dN,Ps.dO,Ps.lm,Ps.sTo,Ps.je,Ps.bU,Ps.eT,Ps.iD,Ps.jr,Ps.dF]
theorem BB {a b:List Prop}:All a->All b->All (a++b):=by
 induction a with
 |nil=>exactλ_ h=>h
 |cons p a ih=>exactλh h2=>⟨h.1,ih h.2 h2⟩
theorem BP {b:Bool}{p:Prop}(h:b=true->p):All (cond b [p] []):=by
 cases b with
 |true=>exact⟨h rfl,trivial⟩
 |false=>trivial
abbrev l5 (s r:ByteArray)(m:Ps.Amd):Ps.Req:={op:=1,sender:=s,ref:=r,amd:=m}
def iK (g h:Nat)(Q:Ps.Req)(lv:Value):List (Option (Nat×Nat)×List Value):=[(some (g,0),mi Q lv),(some (g+1,0),aB Q.ins lv),(some (h,0),aG Q.amd)]
noncomputable def lnA (W:World)(g h:Nat)(Q:Ps.Req)(lv:Value):Mem:=seM W.heap.size W [] 40 (iK g h Q lv) (NP (iK g h Q lv))
def o2 (b:Bool)(x:ByteArray)(y t:SB):SB:=cond b (Se.cat (Se.cat t (lt x)) y) t
def o1 (b:Bool)(y t:SB):SB:=cond b (Se.cat t y) t
theorem Nu (b:Bool)(x:ByteArray)(y t:SB):st (o2 b x y t)=st t++(if b=true then x++st y else⟨#[]⟩):=by
 cases b with
 |false=>exact ByteArray.append_empty.symm
 |true=>show st (Se.cat (Se.cat t (lt x)) y)=_;rw[bB,bB,il,ByteArray.append_assoc];rfl
theorem Rm (b:Bool)(y t:SB):st (o1 b y t)=st t++(if b=true then st y else⟨#[]⟩):=by
 cases b with
 |false=>exact ByteArray.append_empty.symm
 |true=>show st (Se.cat t y)=_;rw[bB];rfl
theorem ifc {b:Bool}{x y:ByteArray}(h:b=true->x=y):(if b=true then x else⟨#[]⟩)=(if b=true then y else(⟨#[]⟩:ByteArray)):=by
 cases b with
 |false=>rfl
 |true=>exact h rfl
def NK:ByteArray:=⟨#[97,109,101,110,100,32]⟩
def OC:ByteArray:=⟨#[32,112,97,114,116,105,97,108,32]⟩
def Lj:ByteArray:=⟨#[32,119,104,111,108,101]⟩
theorem NY (w:World)(s r:ByteArray)(m:Ps.Amd)(hm:Ps.tK m)(hs:jQ (l5 s r m))(os:List Ps.Op)(sa:Option Addr)(sn sc:Nat):gF 15 #[.agg (aA (l5 s r m) (.slice sa sn sc))] w (Ps.gU (Ps.iZ Ps.aO (l5 s r m) os)):=by
 have c1:m.hasAmount=true->C1 45 m.amount 20 (Ps.cB m.amount):=λh=>Ht (by have:=hm.am h;omega)
 have c2:m.hasSettleDay=true->C1 46 m.settleDay 10 (Ps.aO m.settleDay):=λ_=>um hm.day
 have c3:m.hasPriority=true->C3 47 m.priority false 0 60 (aj m.priority false 0):=λ_=>xK hm.prio λh=>by cases h
 have c4:(m.hasPartial&&m.partial_)=true->C1 48 m.minLot 20 (Ps.bO m.minLot):=λh=>vw (by have:=hm.lot (Bool.and_eq_true_iff.1 h).2;omega)
 refine kG w _ sa sn sc _ λW g a hL hd ha h1 h2 h3=>?_
 have hO:=pO hL hs
 have hF:=rP (W:=W) (g:=g) (Q:=l5 s r m) (lv:=.slice sa sn sc) hd ha h1 h2 h3
 refine Dl (M:=lnE W g (l5 s r m) (.slice sa sn sc)) (c:=(Ev.aS (Ev.bA 3) lnC).1) (fs:=(Ev.aS (Ev.bA 3) lnC).2) hO [1,2,3] (us:=[.p 0 0,.s (0,⟨#[]⟩),.p 1 0]) (ps:=[]) (by kernel_rfl) trivial hF (Sw.start _) ?_
 intro b w1 hb hbd hv hS
 obtain⟨⟨v1,e1,d1⟩,hv⟩:=hv.cons
 obtain⟨⟨v2,e2,d2⟩,hv⟩:=hv.cons
 obtain⟨⟨v3,e3,d3⟩,hv⟩:=hv.cons
 have d1:v1=.pointer (some ⟨g,0,none⟩):=d1
 have d2:v2=.string ⟨#[]⟩:=d2
 have d3:v3=.pointer (some ⟨g+1,0,none⟩):=d3
 subst d1 d2 d3
 have hz:=hL.sz
 have hr0:=(hS.block g (.inl (by show g<W.heap.size;omega))).trans hL.r0
 have hr1:=(hS.block (g+1) (.inl (by show g+1<W.heap.size;omega))).trans hL.r1
 have hsz:W.heap.size<=w1.heap.size:=hS.size
 have hb1:Below w.heap.size w w1:=hL.hb.trans ((dR rfl hS).mono hL.hb.size)
 have hla:=Qf g (l5 s r m) (.slice sa sn sc) w1 hr0
 obtain⟨h,hh⟩:∃h,h=w1.heap.size:=⟨_,rfl⟩
 refine Ho (A1:=.pointer (some ⟨g,0,none⟩)) (A2:=.pointer (some ⟨g,19,none⟩)) (A3:=.pointer (some ⟨h,0,none⟩)) (W1:=w1.alloc (.cells zP 26)) (W:=w1.alloc (.cells (aG m).toArray 26)) rfl rfl rfl rfl rfl rfl rfl rfl rfl rfl rfl rfl (by decide) e1 (by rw[hb];decide) (by rw[hb];decide) (by rw[hb];decide) (by go_simp) hla (by rw[hh];exact al_amd w1) (by rw[hh];exact sv_amd w1 _) λb2 f1 f2 f3 f4=>?_
 have hrA:(w1.alloc (.cells (aG m).toArray 26)).heap[h]? =some (.cells (aG m).toArray 26 (0,0)):=by rw[hh];exact aD w1 _
 have hr0:=(heap_alloc_old w1 (.cells (aG m).toArray 26) (r:=g) (by omega)).trans hr0
 have hr1:=(heap_alloc_old w1 (.cells (aG m).toArray 26) (r:=g+1) (by omega)).trans hr1
 have hb2:Below w.heap.size w (w1.alloc (.cells (aG m).toArray 26)):=hb1.alloc hb1.size _
 have hsz2:w1.heap.size+1=(w1.alloc (.cells (aG m).toArray 26)).heap.size:=by simp
 have q1:=(f4 1 (by decide) (by decide) (by decide)).trans e1
 have q2:=(f4 2 (by decide) (by decide) (by decide)).trans e2
 have q3:=(f4 3 (by decide) (by decide) (by decide)).trans e3
 generalize w1.alloc (.cells (aG m).toArray 26)=W2 at *
 have hO2:Ok Tryz.prog (lnA W2 g h (l5 s r m) (.slice sa sn sc)):=R4 (Nat.le_refl _) (λg hg=>by cases hg) ⟨⟨rfl,.inl (by omega),⟨_,hr0⟩,uZ (λx e=>by cases e) hs⟩,⟨rfl,.inl (by omega),⟨_,hr1⟩,ql (λx e=>by cases e) hs.iref hs.isender hs.icp hs.iasset⟩,⟨rfl,.inl (by omega),⟨_,hrA⟩,λx hx=>by exact absurd hx (λhx=>(by have:=II x hx;exact absurd this (by unfold aG at hx;simp at hx)))⟩,trivial⟩
 have hF2:FrP (lnA W2 g h (l5 s r m) (.slice sa sn sc)) 232 [(1,.p 0 0),(2,.s (0,⟨#[]⟩)),(3,.p 1 0),(4,.p 2 0)] b2 W2:=ah (ah (ah (ah (fZ (f2.trans hb) (f1.trans hbd)) f3 rfl) q3 rfl) q2 rfl) q1 rfl
 have s1:=hs.ref
 have s2:=hs.sender
 have s1:r.size<=40:=s1
 have s2:s.size<=40:=s2
 show(Ev.fmC (Ev.aS (Ev.bA 3) lnC).2 0).wp _ _ _ _
 clear hO hF hd ha h1 h2 h3 hv hS hr0 hr1 hb1 hla hh f1 f2 f3 f4 hrA q1 q2 q3 hsz hsz2 e1 e2 e3 hbd hb hm
 have P1:m.hasAmount=true->Se.Spec (Ev.aR (iK g h (l5 s r m) (.slice sa sn sc))) 45 [.r 2 4] (.str 20 (Ps.cB m.amount)):=λh=>sp1 qj rfl (c1 h)
 have P2:m.hasSettleDay=true->Se.Spec (Ev.aR (iK g h (l5 s r m) (.slice sa sn sc))) 46 [.r 2 5] (.str 10 (Ps.aO m.settleDay)):=λh=>sp1 iR rfl (c2 h)
 have P3:m.hasPriority=true->Se.Spec (Ev.aR (iK g h (l5 s r m) (.slice sa sn sc))) 47 [.r 2 6,.v (.bool false),.v (.int .i64 0)] (.str 60 (aj m.priority false 0)):=λh=>sp3 iO rfl rfl rfl (c3 h)
 have P4:(m.hasPartial&&m.partial_)=true->Se.Spec (Ev.aR (iK g h (l5 s r m) (.slice sa sn sc))) 48 [.r 2 8] (.str 20 (Ps.bO m.minLot)):=λh=>sp1 jX rfl (c4 h)
 have z1:=λh=>(c1 h).2
 have z2:=λh=>(c2 h).2
 have z3:=λh=>(c3 h).2
 have z4:=λh=>(c4 h).2
 clear c1 c2 c3 c4
 refine gM hO2 [2]
  (us:=[.s (o1 (m.hasPartial&&!m.partial_) (lt Lj) (o2 (m.hasPartial&&m.partial_) OC (20,Ps.bO m.minLot) (o1 m.hasPriority (60,aj m.priority false 0) (o2 m.hasSettleDay kY (10,Ps.aO m.settleDay) (o2 m.hasAmount FJ (20,Ps.cB m.amount) (Se.cat (Se.cat (Se.cat (lt NK) (40,r)) (lt bBy)) (40,s)))))))])
  (ps:=(cond m.hasAmount [Se.Spec (Ev.aR (iK g h (l5 s r m) (.slice sa sn sc))) 45 [.r 2 4] (.str 20 (Ps.cB m.amount))] [])++((cond m.hasSettleDay [Se.Spec (Ev.aR (iK g h (l5 s r m) (.slice sa sn sc))) 46 [.r 2 5] (.str 10 (Ps.aO m.settleDay))] [])++((cond m.hasPriority [Se.Spec (Ev.aR (iK g h (l5 s r m) (.slice sa sn sc))) 47 [.r 2 6,.v (.bool false),.v (.int .i64 0)] (.str 60 (aj m.priority false 0))] [])++(cond (m.hasPartial&&m.partial_) [Se.Spec (Ev.aR (iK g h (l5 s r m) (.slice sa sn sc))) 48 [.r 2 8] (.str 20 (Ps.bO m.minLot))] []))))
  (by
   clear hO2 hF2 P1 P2 P3 P4 z1 z2 z3 z4 s1 s2 hb2 hs hL
   obtain⟨x1,x2,x3,x4,x5,x6,x7,x8,x9⟩:=m
   cases x1<;>cases x2<;>cases x3<;>cases x4<;>cases x8<;>kernel_rfl) (BB (BP P1) (BB (BP P2) (BB (BP P3) (BP P4)))) hF2 (Sw.start _) ?_
 intro a w' _ hd hv hS
 show bodyPost Tryz.prog Tryz.f15 (λe w'=>e=.returned (.string (Ps.gU (Ps.iZ Ps.aO (l5 s r m) os)))/\Below w.heap.size w w') .ret a w'
 refine iH rfl hd hv ⟨?_,hb2.trans ((dR rfl hS).mono hb2.size)⟩
 refine congrArg (λx=>Ending.returned (.string x)) ?_
 rw[Rm,Nu,Rm,Nu,Nu,bB,bB,bB,ku s1,ku s2,il,il,il,ifc (λh=>congrArg (FJ++ ·) (FP (z1 h))),ifc (λh=>congrArg (kY++ ·) (Ez (z2 h))),ifc (λh=>Oh (z3 h)),ifc (λh=>congrArg (OC++ ·) (FP (z4 h))),kD]
 show _=gu ([Ps.bw Ps.mh,r,Ps.bw Ps.sBy,s]++Ps.yC Ps.aO m)
 clear P1 P2 P3 P4 z1 z2 z3 z4 hd hv hS hO2 hF2
 rw[jF (by simp)]
 unfold Ps.yC Ps.Ih Ps.pz Ps.uI Ps.oV aj
 cases m.hasAmount<;>cases m.hasSettleDay<;>cases m.hasPriority<;>cases m.hasPartial<;>cases m.partial_
 all_goals
  apply ByteArray.ext
  apply Array.toList_inj.1
  simp[gu,bW,Ps.bw,NK,bBy,FJ,kY,OC,Lj,Ps.mh,Ps.sBy,Ps.bJ,Ps.dF,Ps.aM,Ps.eG]
theorem l_line (w:World)(Q:Ps.Req)(h:psR Q=0)(sa:Option Addr)(sn sc:Nat)(hn:sn=Q.ins.links.length)(hlk:dJ w sa sn Q.ins.links):gF 15 #[.agg (aA Q (.slice sa sn sc))] w (Ps.gU (Ps.iZ Ps.aO Q (Ps.gy Q.ins))):=by
 have hs:=Nt h
 obtain⟨_,_,h3⟩:=Ps.nk _ _ h
 rcases h3 with⟨_,hi,he⟩|⟨_,hm,he⟩|⟨hk,he⟩
 ·generalize Q.ins=i at he hi hn hlk⊢
  subst he
  rcases hi.kind with hk|hk|hk|hk|hk
  ·exact ln_pay w i hk hi hs sa sn sc hn hlk
  ·exact ln_dvp w i hk hi hs sa sn sc hn hlk
  ·exact QJ w i hk hi hs sa sn sc hn hlk
  ·exact ym w i (.inl hk) hi hs _ sa sn sc
  ·exact ym w i (.inr hk) hi hs _ sa sn sc
 ·rw[he]at hs⊢
  exact NY w _ _ _ hm hs _ sa sn sc
 ·rw[he]at hs⊢
  exact ln_op w _ hk _ _ hs _ sa sn sc
end Go.Proofs.YtnjjeapcalkmaaaGreatDoor
namespace Go.Proofs.YtnjjeapcalkmaaaGreatDoor.Se
open Go Go.RowKit Go.Proofs.YtnjjeapcalkmaaaGreatDoor Go.Proofs.YtnjjeapcalkmaaaGreatDoor.Ord
def gp (B:Nat)(W:World)(cell:Nat->Nat->Value)(f:FuncId)(us:List PV)(r:Rv):Prop:=
 (∀args w,(callFunc f args).run Tryz.prog w=.ok (.enter f args) w)/\r.fits/\∀(vals:List Value) (w:World),Below B W w->tY cell us vals w->Calls Tryz.prog f vals.toArray w λe w'=>∃y,e=.returned y/\r.out y w w'/\Below w.heap.size w w'
def LF (B:Nat)(W:World)(cell:Nat->Nat->Value)(res:FuncId->List PV->Option Rv)(f:FuncId)(us:List PV):Option (PV×Bool×Option Prop):=match res f us with
 |some r=>if us.all DL=true then some (r.pv,false,some (gp B W cell f us r))else none
 |none=>none
theorem OD {M:Mem}(hM:Wf M){res:FuncId->List PV->Option Rv}(f:FuncId)(us:List PV)(u:PV)(c:Bool)(q:Option Prop)(h:LF M.B M.W M.cell res f us=some (u,c,q))(hq:∀p,q=some p->p):
 (∀args w,(callFunc f args).run Tryz.prog w=.ok (.enter f args) w)/\∀(vals:List Value) w,Sw M w->jb M us vals w->Calls Tryz.prog f vals.toArray w λe w'=>∃v,e=.returned v/\Den M u v w'/\Sw M w'/\(c=false->Below w.heap.size w w'):=by
 unfold LF at h
 split at h
 ·rename_i r hr
  split at h
  ·rename_i ha
   cases h
   obtain⟨h1,h2,h3⟩:=hq _ rfl
   refine⟨h1,λvals w hS hd=>(h3 vals w hS.to (qh ha hd)).mono ?_⟩
   rintro e w' ⟨y,rfl,ho,hb⟩
   have hB:M.B<=w.heap.size:=Nat.le_trans hM.B hS.size
   have hnew:∀{t:TypeId} {n:Nat} {xs:List Value},w'.ownsRow w.heap.size t 1 y n xs->∀g,y.ownBlock=some g->g∉M.fix:=λho g hg hf=>by
    rcases ho.2 with⟨hv,_⟩|⟨g',cap,cur,hv,hb',_⟩
    ·rw[hv]at hg;cases hg
    ·rw[hv]at hg
     have:g'=g:=by simpa[Value.ownBlock]using hg
     have:=hM.fix g hf
     have:=hS.size
     omega
   refine⟨y,rfl,?_,hS.below hM hb,λ_=>hb⟩
   cases r with
   |str n x=>
    show y=.string (st (n,x))
    rw[show st (n,x)=x from bF h2]
    exact ho
   |sls l=>
    have ho:w'.ownsRow w.heap.size 9 1 y l.length ((l.map st).map .string):=ho
    refine⟨?_,hnew ho⟩
    rw[List.length_map]
    exact gz ho hB
   |val x=>exact ho
   |bts l=>
    have ho:w'.ownsRow w.heap.size 5 1 y l.length (l.map λc=>.int .u8 (c.toNat:Int)):=ho
    exact⟨gz ho hB,hnew ho⟩
  ·cases h
 ·cases h
def seW (B:Nat)(W:World)(fix:List Nat)(b:Nat)(rows:List (Option (Nat×Nat)×List Value))(res:FuncId->List PV->Option Rv):Mem:=dV B W fix b rows (LF B W (Ev.aR rows) res)
theorem seW_ok {B:Nat}{W:World}{fix:List Nat}{b:Nat}{rows:List (Option (Nat×Nat)×List Value)}{res:FuncId->List PV->Option Rv}(hB:B<=W.heap.size)(hf:∀g∈fix,g<W.heap.size)
 (h2:∀(k g o:Nat) (l:List Value),rows[k]? =some (some (g,o),l)->(g<B\/g∈fix)/\∀w:World,w.heap[g]? =W.heap[g]?->∀(j:Nat) (v:Value),l[j]? =some v->w.cell? ⟨g,o+j,none⟩=some v)
 (hb:∀(k:Nat) (p:Nat×Nat) (l:List Value),rows[k]? =some (some p,l)->∀x,Value.string x∈l->x.size<=b):Ok Tryz.prog (seW B W fix b rows res):=
 rz hB hf h2 hb λf us u c q h hq=>OD (M:=seW B W fix b rows res) ⟨hB,hf⟩ f us u c q h hq
theorem specW0 {B:Nat}{W:World}{cell:Nat->Nat->Value}{f:FuncId}{y:Value}(he:∀args w,(callFunc f args).run Tryz.prog w=.ok (.enter f args) w)(h:∀w,Below B W w->Calls Tryz.prog f #[] w λe w'=>e=.returned y/\Below w.heap.size w w'):gp B W cell f [] (.val y):=⟨he,trivial,λvals w hw hd=>by
 obtain rfl:vals=[]:=by cases vals with|nil=>rfl|cons a l=>exact hd.elim
 exact(h w hw).mono λe w' ⟨h1,h2⟩=>⟨_,h1,rfl,h2⟩⟩
theorem specW1 {B:Nat}{W:World}{cell:Nat->Nat->Value}{f:FuncId}{u:PV}{x y:Value}(he:∀args w,(callFunc f args).run Tryz.prog w=.ok (.enter f args) w)(hu:iE cell u=some x)(h:∀w,Below B W w->Calls Tryz.prog f #[x] w λe w'=>e=.returned y/\Below w.heap.size w w'):gp B W cell f [u] (.val y):=⟨he,trivial,λvals w hw hd=>by
 obtain⟨v,rfl,hv⟩:=Pw hd
 obtain rfl:=iQ hu hv
 exact(h w hw).mono λe w' ⟨h1,h2⟩=>⟨_,h1,rfl,h2⟩⟩
theorem Oj {B:Nat}{W:World}{cell:Nat->Nat->Value}{f:FuncId}{u:PV}{x:Value}{n:Nat}{b:ByteArray}(he:∀args w,(callFunc f args).run Tryz.prog w=.ok (.enter f args) w)(hu:iE cell u=some x)(h:∀w,Below B W w->gF f #[x] w b)(hn:b.size<=n):gp B W cell f [u] (.str n b):=⟨he,hn,λvals w hw hd=>by
 obtain⟨v,rfl,hv⟩:=Pw hd
 obtain rfl:=iQ hu hv
 exact(h w hw).mono λe w' ⟨h1,h2⟩=>⟨_,h1,rfl,h2⟩⟩
end Go.Proofs.YtnjjeapcalkmaaaGreatDoor.Se
namespace Go.Proofs.YtnjjeapcalkmaaaGreatDoor
open Go.RowKit
open Go.Proofs.YtnjjeapcalkmaaaGreatDoor.Ord
open Go.Proofs.YtnjjeapcalkmaaaGreatDoor.Ev (AV Mem Fr ja aR eD Sh Stop Qof aS bf bA jC lw fmC)
theorem cm_neL (x y:Operand)(n m:Int)(s t:ByteArray)(w:World):(do eqGuard .neq 91 x y (.agg #[.int .i64 n,.string s]) (.agg #[.int .i64 m,.string t]);binOp .neq 91 (.agg #[.int .i64 n,.string s]) (.agg #[.int .i64 m,.string t]):Sem Value).run Tryz.prog w=.ok (.bool (!(decide (n=m)&&(s.toList==t.toList)))) w:=by
 go_simp
 repeat' split
 all_goals simp_all
def zb (rows:List (Option (Nat×Nat)×List Value))(o:Oper)(ov:Operand->Option AV):Option AV:=match o.op with
 | .indexAddr t x y=>if t=22 then(match ov x,ov y with
   |some (.r p 15),some (.r 1 0)=>if p=0\/p=2 then(match aR rows p 15,aR rows 1 0 with
    | .slice _ _ _,.int .i64 _=>some (.p (if p=0 then 3 else 4) 0)
    |_,_=>none)else none
   |_,_=>none)else none
 | .binOp .neq t x y _=>if t=91 then(match ov x,ov y with
   |some (.a p 0 2),some (.a q 0 2)=>(match aR rows p 0,aR rows p 1,aR rows q 0,aR rows q 1 with
    | .int .i64 n,.string s,.int .i64 m,.string t=>some (.v (.bool (!(decide (n=m)&&(s.toList==t.toList)))))
    |_,_,_,_=>none)
   |_,_=>none)else none
 |_=>BS rows o ov
def xM (rows:List (Option (Nat×Nat)×List Value)):Mem Unit:=ja rA rows (λ_ _=>none) (zb rows)
theorem Dv {rows:List (Option (Nat×Nat)×List Value)}{S:World->Prop}(hrow:∀(k b o:Nat) (l:List Value),rows[k]? =some (some (b,o),l)->∀w,S w->∀(j:Nat) (v:Value),l[j]? =some v->w.cell? ⟨b,o+j,none⟩=some v)
 (hix:∀(p:Nat) (sb:Option Addr) (n c:Nat) (m:Int),p=0\/p=2->aR rows p 15=.slice sb n c->aR rows 1 0=.int .i64 m->∃(b bo k:Nat),sb=some ⟨b,bo,none⟩/\m=(k:Int)/\k<n/\∃l,rows[if p=0 then 3 else 4]? =some (some (b,bo+k*2),l)):Ev.Ok Tryz.prog (λ_ w=>S w) (xM rows):=by
 refine Ev.jH (λt f d h=>pY h) hrow (λ_ _ _ h=>by cases h) (λo ov v h ρ hov w hS=>?_)
 unfold zb at h
 split at h
 ·rename_i t x y ho
  split at h
  ·rename_i ht
   subst ht
   split at h
   ·rename_i p h1 h2
    split at h
    ·rename_i hp
     split at h
     ·rename_i sa n c m h3 h4
      cases h
      obtain⟨b,bo,k,rfl,rfl,hk,l,h5⟩:=hix _ _ _ _ _ hp h3 h4
      have e1:ρ x=.slice (some ⟨b,bo,none⟩) n c:=(hov _ _ h1).trans h3
      have e2:ρ y=.int .i64 (k:Int):=(hov _ _ h2).trans h4
      have hb3:(Ev.jd rows).getD (if p=0 then 3 else 4) (0,0)=(b,bo+k*2):=by simp[Ev.jd,h5]
      have hv:eD rows (.p (if p=0 then 3 else 4) 0)=.pointer (some ⟨b,bo+k*2,none⟩):=by
       show Value.pointer (some ⟨((Ev.jd rows).getD (if p=0 then 3 else 4) (0,0)).1,((Ev.jd rows).getD (if p=0 then 3 else 4) (0,0)).2+0,none⟩)=_
       rw[hb3]
       rfl
      have PT:(k:Int)<(n:Int):=by omega
      rw[hv]
      clear hv hb3 h5
      unfold execOp
      simp only[ho,e1,e2]
      go_simp
     ·cases h
    ·cases h
   ·cases h
  ·cases h
 ·rename_i t x y t2 ho
  split at h
  ·rename_i ht
   subst ht
   split at h
   ·rename_i p q h1 h2
    split at h
    ·rename_i n s m t k1 k2 k3 k4
     cases h
     have e1:ρ x=.agg #[.int .i64 n,.string s]:=by
      rw[hov _ _ h1]
      show Value.agg #[aR rows p (0+0),aR rows p (0+1)]=_
      rw[show aR rows p (0+0)=_ from k1,show aR rows p (0+1)=_ from k2]
     have e2:ρ y=.agg #[.int .i64 m,.string t]:=by
      rw[hov _ _ h2]
      show Value.agg #[aR rows q (0+0),aR rows q (0+1)]=_
      rw[show aR rows q (0+0)=_ from k3,show aR rows q (0+1)=_ from k4]
     unfold execOp
     simp only[ho,e1,e2]
     rw[Sem.run_bind,cm_neL]
     rfl
    ·cases h
   ·cases h
  ·cases h
 ·exact yZ h hov w
noncomputable def sameB:Code:=Tryz.f43.body.getD .skip
noncomputable def oF:Code×List Ev.Fm:=aS bf sameB
def Ad (g h:Nat)(a b:Ps.Ins)(la lb:Value):List (Option (Nat×Nat)×List Value):=[(some (g,0),aB a la),(none,[]),(some (h,0),aB b lb)]
def Kv (g h:Nat)(a b:Ps.Ins)(la lb:Value)(k sb so tb t0:Nat)(y z:Ps.Link):List (Option (Nat×Nat)×List Value):=[(some (g,0),aB a la),(none,[.int .i64 k]),(some (h,0),aB b lb),(some (sb,so+k*2),[.int .i64 y.type,.string y.ref]),(some (tb,t0+k*2),[.int .i64 z.type,.string z.ref])]
theorem wN {W:World}{sb so k:Nat}{ks:List Ps.Link}{y:Ps.Link}(h:EY W sb so ks)(hy:ks[k]? =some y):∀(j:Nat) (v:Value),([.int .i64 y.type,.string y.ref]:List Value)[j]? =some v->W.cell? ⟨sb,so+k*2+j,none⟩=some v:=by
 intro j v hv
 obtain⟨z1,z2⟩:=h k y hy
 rcases j with _|_|j
 ·cases hv;exact z1
 ·cases hv;exact z2
 ·cases hv
theorem Cn (w:World)(a0 b0:Ps.Ins)(sa ta:Option Addr)(sn sc tn tc:Nat)(x:Bool)(hb63:Hid (sn<=9223372036854775806))(hsn:Hid (sn=a0.links.length))(htn:Hid (tn=b0.links.length))
 (hlk:Hid (dJ w sa sn a0.links)) (hlm:Hid (dJ w ta tn b0.links))
 (hx1:Hid (¬sn=tn->x=false)) (hx2:Hid (sn=tn->(∃(j:Nat) (y z:Ps.Link),a0.links[j]? =some y/\b0.links[j]? =some z/\¬(y.type=z.type/\y.ref=z.ref))->x=false))
 (hx3:Hid (sn=tn->(∀(j:Nat) (y z:Ps.Link),a0.links[j]? =some y->b0.links[j]? =some z->y.type=z.type/\y.ref=z.ref)->x=((((((((((((((((a0.ref.toList==b0.ref.toList)&&(a0.kind==b0.kind))&&(a0.sender.toList==b0.sender.toList))&&(a0.counterparty.toList==b0.counterparty.toList))&&(a0.side==b0.side))&&(a0.asset.toList==b0.asset.toList))&&(a0.quantity==b0.quantity))&&(a0.amount==b0.amount))&&(a0.tradeDay==b0.tradeDay))&&(a0.settleDay==b0.settleDay))&&(a0.priority==b0.priority))&&(a0.partial_==b0.partial_))&&(a0.minLot==b0.minLot))&&(a0.hold==b0.hold))&&(a0.reserve==b0.reserve))))):
 Calls Tryz.prog 43 #[.agg (aB a0 (.slice sa sn sc)).toArray,.agg (aB b0 (.slice ta tn tc)).toArray] w λe w'=>e=.returned (.bool x)/\Below w.heap.size w w':=by
 go_enter Tryz.func43,Tryz.ntmps43
 refine wp_seq ?_
 refine wp_region_lit ?_
 refine wpList_plain rfl (λK hK=>?_)
 go_simp
 refine hK _ _ ?_
 clear hK K
 refine wpList_plain rfl (λK hK=>?_)
 go_simp
 refine hK _ _ ?_
 clear hK K
 refine wpList_plain rfl (λK hK=>?_)
 go_simp
 refine hK _ _ ?_
 clear hK K
 refine aU ?_
 obtain⟨Wa,hWa⟩:∃Wa,Wa=w.alloc (.cells (aB a0 (.slice sa sn sc)).toArray 24):=⟨_,rfl⟩
 obtain⟨W1,hW1⟩:∃W1,W1=Wa.alloc (.cells (aB b0 (.slice ta tn tc)).toArray 24):=⟨_,rfl⟩
 obtain⟨g,hg⟩:∃g,g=w.heap.size:=⟨_,rfl⟩
 obtain⟨h,hh⟩:∃h,h=w.heap.size+1:=⟨_,rfl⟩
 have LP:h=Wa.heap.size:=by rw[hh,hWa];simp
 have wJ:Below Wa.heap.size Wa W1:=by rw[hW1];exact(Below.refl _ _).alloc (Nat.le_refl _) _
 have hrow:∀W,Below W1.heap.size W1 W->W.heap[g]? =some (.cells (aB a0 (.slice sa sn sc)).toArray 24 (0,0)):=λW hW=>by
  rw[hW.block g (by rw[hW1,hWa,hg];simp;omega),wJ.block g (by rw[hWa,hg];simp),hWa,hg];exact aD w _
 have lU:∀W,Below W1.heap.size W1 W->W.heap[h]? =some (.cells (aB b0 (.slice ta tn tc)).toArray 24 (0,0)):=λW hW=>by
  rw[hW.block h (by rw[LP,hW1];simp),hW1,LP];exact aD Wa _
 have hB1:Below w.heap.size w W1:=((by rw[hWa];exact(Below.refl _ _).alloc (Nat.le_refl _) _:Below w.heap.size w Wa).trans (wJ.mono (by rw[hWa];simp)))
 rw[<-hg]at hh
 rw[<-hWa,<-hW1,<-hg,<-hh]
 clear hW1 hWa LP wJ hh
 refine jo rfl λa ha hdf=>?_
 have hret:∀(b:Act) (W:World),b.defers=[]->b.tmps[4]? =some (.bool x)->Below W1.heap.size W1 W->bodyPost Tryz.prog Tryz.f43 (λe w'=>e=.returned (.bool x)/\Below g w w') .ret b W:=λb W hd ht hS=>by
  refine bodyPost_ret (results_tmp rfl _ _ _) hd ?_
  rw[hg]
  exact⟨by rw[show b.tmps.getD 4 undef=.bool x from eval_at ht],hB1.trans (hS.mono hB1.size)⟩
 have hO3:Ev.Ok Tryz.prog (λ(_:Unit) W=>Below W1.heap.size W1 W) (xM (Ad g h a0 b0 (.slice sa sn sc) (.slice ta tn tc))):=by
  refine Dv (λq b o l h W hS=>?_) (λp sb n c m hp h1 h2=>?_)
  ·rcases q with _|_|_|q
   ·cases h;exact fU hrow W hS
   ·cases h
   ·cases h;exact fU lU W hS
   ·cases h
  ·cases h2
 have hx0:(if (((sn:Int) !=(tn:Int))=true)then false else x)=x:=by
  split
  ·rename_i h1
   exact(hx1.out (by intro h2;rw[h2]at h1;simp at h1)).symm
  ·rfl
 refine Ev.CQ (M:=xM (Ad g h a0 b0 (.slice sa sn sc) (.slice ta tn tc))) (S:=λ_ W=>Below W1.heap.size W1 W) (n:=134) (K:=[(2,.p 0 0),(3,.p 2 0)]) (s:=()) (v:=if (((sn:Int) !=(tn:Int))=true)then false else x) (hv:=x) (l:=[(oF.1,oF.2,[some (.p 0 0),some (.p 2 0),some (.v (.int .i64 0))],(),[!((sn:Int) !=(tn:Int))])]) 4 [2,3,5] [0] hO3 (λ_ W h=>h.drew) (by kernel_rfl) (by kernel_rfl) (Ev.aF (Ev.aF (Ev.aX (by rw[ha];rfl) hdf) (by rw[ha];rfl)) (by rw[ha];rfl)) (Below.refl _ _) (λb W _ hd ht hS=>hret b W hd (by rw[<-hx0];exact ht) hS) ?_
 intro _ y hy hcs b W hst hS
 rw[List.mem_singleton]at hy
 subst hy
 have hst0:sn=tn:=by
  have h8:=hcs _ (List.mem_singleton.2 rfl)
  simp at h8
  omega
 subst hst0
 clear hcs hx0 hx1 ha
 obtain⟨h2,hst⟩:=hst.cons
 obtain⟨h3,hst⟩:=hst.cons
 obtain⟨h5,hst⟩:=hst.cons
 have e1:oF.1=.loop (jC oF.1):=by kernel_rfl
 have e2:oF.2=[.bl 0,.sq (fmC oF.2 1)]:=by kernel_rfl
 show oF.1.wp Tryz.prog (Qof Tryz.prog oF.2 _) b W
 rw[e1,e2]
 refine wp_loop (λa w=>∃k:Nat,k<=sn/\a.tmps.size=134/\a.defers=[]/\a.tmps[2]? =some (.pointer (some ⟨g,0,none⟩))/\a.tmps[3]? =some (.pointer (some ⟨h,0,none⟩))/\a.tmps[5]? =some (.int .i64 (k:Int))/\Below W1.heap.size W1 w/\∀(j:Nat) (y z:Ps.Link),j<k->a0.links[j]? =some y->b0.links[j]? =some z->y.type=z.type/\y.ref=z.ref) (λa _=>match a.tmps[5]? with|some (Value.int _ k)=>sn-k.toNat|_=>0) ⟨0,Nat.zero_le _,hst.1,hst.2.1,h2,h3,h5,hS,λj _ _ hj=>absurd hj (Nat.not_lt_zero _)⟩ ?_
 clear hst h2 h3 h5 hS hdf
 rintro b W ⟨k,hk,hsz,hdf,h2,h3,h5,hS,heq⟩
 have hm:(match b.tmps[5]? with|some (Value.int _ k)=>sn-k.toNat|_=>0)=sn-k:=by rw[h5];simp
 rw[hm]
 rcases Nat.lt_or_ge k sn with hkn|hge
 ·obtain⟨y,hy⟩:∃y,a0.links[k]? =some y:=⟨_,List.getElem?_eq_getElem (by rw[<-hsn.out];exact hkn)⟩
  obtain⟨z,hz⟩:∃z,b0.links[k]? =some z:=⟨_,List.getElem?_eq_getElem (by rw[<-htn.out];exact hkn)⟩
  obtain⟨sb,so,rfl,hlr⟩:=hlk.out (by omega)
  obtain⟨tb,t0,rfl,hmr⟩:=hlm.out (by omega)
  have hO5:Ev.Ok Tryz.prog (λ(_:Unit) W=>Below W1.heap.size W1 W) (xM (Kv g h a0 b0 (.slice (some ⟨sb,so,none⟩) sn sc) (.slice (some ⟨tb,t0,none⟩) sn tc) k sb so tb t0 y z)):=by
   refine Dv (λq b o l h W hS=>?_) (λp sb2 n c m hp h1 h2=>?_)
   ·rcases q with _|_|_|_|_|q
    ·cases h;exact fU hrow W hS
    ·cases h
    ·cases h;exact fU lU W hS
    ·cases h;exact wN (hlr W (hB1.trans (hS.mono hB1.size))) hy
    ·cases h;exact wN (hmr W (hB1.trans (hS.mono hB1.size))) hz
    ·cases h
   ·cases h2
    rcases hp with rfl|rfl
    ·cases h1;exact⟨sb,so,k,rfl,rfl,hkn,_,rfl⟩
    ·cases h1;exact⟨tb,t0,k,rfl,rfl,hkn,_,rfl⟩
  have hw1:IntKind.i64.wrap ((k:Int)+1)=((k+1:Nat):Int):=by have:=hb63.out;rw[IntWalk.i64_in _ (by omega)];rfl
  refine Ev.qN (M:=xM (Kv g h a0 b0 (.slice (some ⟨sb,so,none⟩) sn sc) (.slice (some ⟨tb,t0,none⟩) sn tc) k sb so tb t0 y z)) (S:=λ_ W=>Below W1.heap.size W1 W) (n:=134) (K:=[(2,.p 0 0),(3,.p 2 0),(5,.r 1 0)]) (s:=()) [2,3,5,4]
   (.ite (decide ((k:Int)<(sn:Int))) (.ite (!(decide (y.type=z.type)&&(y.ref.toList==z.ref.toList))) (.ret [some (.p 0 0),some (.p 2 0),some (.r 1 0),some (.v (.bool false))] ()) (.nx [some (.p 0 0),some (.p 2 0),some (.v (.int .i64 (IntKind.i64.wrap ((k:Int)+1)))),none] ())) (.out 0 [some (.p 0 0),some (.p 2 0),some (.r 1 0),none] ()))
   hO5 (λ_ _ h=>h.drew) (by kernel_rfl) (Ev.aF (Ev.aF (Ev.aF (Ev.aX hsz hdf) h5) h3) h2) hS ⟨λc1=>⟨λc2 b W hst hS=>?_,λc2 b W hst hS=>?_⟩,λc1 b W hst hS=>absurd c1 (by simp;omega)⟩
  ·refine hret b W hst.2.1 ?_ hS
   rw[hx2.out rfl ⟨k,y,z,hy,hz,λ⟨q1,q2⟩=>by rw[q1,q2]at c2;simp at c2⟩]
   exact hst.2.2 3 4 _ rfl rfl
  ·obtain⟨f2,hst⟩:=hst.cons
   obtain⟨f3,hst⟩:=hst.cons
   obtain⟨f5,hst⟩:=hst.cons
   have f5':b.tmps[5]? =some (.int .i64 ((k+1:Nat):Int)):=by rw[<-hw1];exact f5
   refine⟨⟨k+1,hkn,hst.1,hst.2.1,f2,f3,f5',hS,λj y2 z2 hj hy2 hz2=>?_⟩,?_⟩
   ·rcases Nat.lt_or_ge j k with h1|h1
    ·exact heq j y2 z2 h1 hy2 hz2
    ·obtain rfl:j=k:=by omega
     rw[hy]at hy2;rw[hz]at hz2
     cases hy2;cases hz2
     have c3:(decide (y.type=z.type)&&(y.ref.toList==z.ref.toList))=true:=by cases hq:(decide (y.type=z.type)&&(y.ref.toList==z.ref.toList))with|true=>rfl|false=>rw[hq]at c2;cases c2
     rw[Bool.and_eq_true]at c3
     exact⟨of_decide_eq_true c3.1,bytes_inj c3.2⟩
   ·rw[f5'];simp;omega
 ·refine Ev.qN (M:=xM (Ad g h a0 b0 (.slice sa sn sc) (.slice ta sn tc))) (S:=λ_ W=>Below W1.heap.size W1 W) (n:=134) (K:=[(2,.p 0 0),(3,.p 2 0),(5,.v (.int .i64 (k:Int)))]) (s:=()) [2,3] (.ite (decide ((k:Int)<(sn:Int))) (.go (aS (bA 6) (jC oF.1)) [some (.p 0 0),some (.p 2 0)] ()) (.out 0 [some (.p 0 0),some (.p 2 0)] ())) hO3 (λ_ _ h=>h.drew) (by kernel_rfl) (Ev.aF (Ev.aF (Ev.aF (Ev.aX hsz hdf) h5) h3) h2) hS ⟨λc1 b W hst hS=>absurd c1 (by simp;omega),λc1 b W hst hS=>?_⟩
  obtain⟨f2,hst⟩:=hst.cons
  obtain⟨f3,hst⟩:=hst.cons
  show(fmC oF.2 1).wp Tryz.prog _ b W
  have hx4:=hx3.out rfl (λj y z hy hz=>heq j y z (by have:=(List.getElem?_eq_some_iff.1 hy).1;have:=hsn.out;omega) hy hz)
  refine Ev.Af (M:=xM (Ad g h a0 b0 (.slice sa sn sc) (.slice ta sn tc))) (S:=λ_ W=>Below W1.heap.size W1 W) (n:=134) (K:=[(2,.p 0 0),(3,.p 2 0)]) (s:=()) (v:=x) 4 hO3 (λ_ _ h=>h.drew) (by rw[hx4];kernel_rfl) (by kernel_rfl) (Ev.aF (Ev.aF (Ev.aX hst.1 hst.2.1) f3) f2) hS λb W _ h1 h2 h3=>hret b W h1 h2 h3
open Go.Proofs.YtnjjeapcalkmaaaGreatDoor.Ev (AV Mem Fr ja aR eD Sh Stop)
theorem ent37:∀args w,(callFunc 42 args).run Tryz.prog w=.ok (.enter 42 args) w:=enters_of Tryz.func42 (by kernel_rfl) rfl
theorem Rb:∀args w,(callFunc 43 args).run Tryz.prog w=.ok (.enter 43 args) w:=enters_of Tryz.func43 (by kernel_rfl) rfl
theorem ent38:∀args w,(callFunc 44 args).run Tryz.prog w=.ok (.enter 44 args) w:=enters_of Tryz.func44 (by kernel_rfl) rfl
theorem bd36 (ρ:Operand->Value)(w:World):(Instr.build 26 ((#[]:Array (Nat×Operand)).map λ(i,x)=>(i,ρ x))).run Tryz.prog w=.ok (.agg (aG {}).toArray) w:=by
 go_simp
 rfl
theorem bd35 (ρ:Operand->Value)(w:World):(Instr.build 24 ((#[]:Array (Nat×Operand)).map λ(i,x)=>(i,ρ x))).run Tryz.prog w=.ok (.agg (aB {} (.slice none 0 0)).toArray) w:=by
 go_simp
 rfl
theorem ne36 (_u:Nat)(A:Ps.Amd)(x y:Operand)(w:World):(do eqGuard .neq 26 x y (.agg (aG A).toArray) (.agg (aG {}).toArray);binOp .neq 26 (.agg (aG A).toArray) (.agg (aG {}).toArray):Sem Value).run Tryz.prog w=.ok (.bool (!decide A.none)) w:=by
 unfold aG
 go_simp
 repeat' split
 all_goals simp_all [Ps.Amd.none]
def uU (t:TypeId)(f:Nat):Option Nat:=if t=28 then(if f<4 then some f else if f=4 then some 19 else none)else if t=24/\f<16 then some f else none
def Pf (g:Nat)(Q:Ps.Req)(lv:Value):List (Option (Nat×Nat)×List Value):=[(some (g,0),mi Q lv),(none,aB {} (.slice none 0 0)),(none,aG {})]
def G6 (V:Nat->ByteArray->Bool)(Q:Ps.Req)(xi xa:Int)(sm:Bool)(f:FuncId)(vs:List AV):Option Value:=
 if f=41 then(match vs with
  |[.v (.int .i64 k),.r 0 j]=>if (k=0\/k=1\/k=2)/\(j=1\/j=2)then some (.bool (V k.toNat (if j=1 then Q.sender else Q.ref)))else none
  |_=>none)
 else if f=42 then(match vs with|[.a 0 3 16]=>some (.int .i64 xi)|_=>none)
 else if f=43 then(match vs with|[.a 0 3 16,.a 1 0 16]=>some (.bool sm)|_=>none)
 else if f=44 then(match vs with|[.a 0 19 9]=>some (.int .i64 xa)|_=>none)
 else none
def Dq (Q:Ps.Req)(o:Oper)(ov:Operand->Option AV):Option AV:=match o.op with
 | .build t ps=>(match ps.toList with
   |[]=>if t=24 then some (.a 1 0 16)else if t=26 then some (.a 2 0 9)else none
   |_=>none)
 | .binOp .neq t x y _=>if t=26 then(match ov x,ov y with
   |some (.a 0 19 9),some (.a 2 0 9)=>some (.v (.bool (!decide Q.amd.none)))
   |_,_=>none)else none
 |_=>none
def reqM (V:Nat->ByteArray->Bool)(g:Nat)(Q:Ps.Req)(lv:Value)(xi xa:Int)(sm:Bool):Mem Unit:=ja uU (Pf g Q lv) (G6 V Q xi xa sm) (Dq Q)
theorem CO {t:TypeId}{f d:Nat}(h:uU t f=some d)(b j:Nat)(w:World):(Instr.fieldAt t (.pointer (some ⟨b,j,none⟩)) f).run Tryz.prog w=.ok (.pointer (some ⟨b,j+d,none⟩)) w:=by
 unfold uU at h
 split at h
 ·rename_i ht
  subst ht
  split at h
  ·cases h
   rcases f with _|_|_|_|f
   all_goals first|omega|go_simp
  ·split at h
   ·rename_i h1
    subst h1
    cases h
    go_simp
   ·cases h
 ·split at h
  ·rename_i h1
   exact pY (by unfold rA;rw[if_pos (.inl h1)];exact h) b j w
  ·cases h
theorem Oi (w:World)(V:Nat->ByteArray->Bool)(Q:Ps.Req)(sa:Option Addr)(sn sc:Nat)(x xi xa:Int)(sm:Bool)
 (cV:Hid (∀(W1:World) (k:Nat) (s:ByteArray),k<3->Sz s->Below w.heap.size w W1->Calls Tryz.prog 41 #[.int .i64 k,.string s] W1 λe w'=>e=.returned (.bool (V k s))/\Below W1.heap.size W1 w'))
 (hG1:Hid (Sz Q.sender)) (hG2:Hid (Sz Q.ref))
 (nI:Hid (∀W,Below w.heap.size w W->Calls Tryz.prog 42 #[.agg (aB Q.ins (.slice sa sn sc)).toArray] W λe w'=>e=.returned (.int .i64 xi)/\Below W.heap.size W w'))
 (nS:Hid (∀W,Below w.heap.size w W->Calls Tryz.prog 43 #[.agg (aB Q.ins (.slice sa sn sc)).toArray,.agg (aB {} (.slice none 0 0)).toArray] W λe w'=>e=.returned (.bool sm)/\Below W.heap.size W w'))
 (nA:Hid (∀W,Below w.heap.size w W->Calls Tryz.prog 44 #[.agg (aG Q.amd).toArray] W λe w'=>e=.returned (.int .i64 xa)/\Below W.heap.size W w'))
 (hx:x=if ((decide (Q.op<0))||(decide (4<Q.op)))=true then 11 else(if ((!(V 1 Q.sender))||(!(V 2 Q.ref)))=true then 6 else(if (Q.op==0)=true then(if (xi !=0)=true then xi else(if ((!(Q.ins.ref.toList==Q.ref.toList))||(!(Q.ins.sender.toList==Q.sender.toList)))=true then 17 else(if (Q.op==1)=true then xa else(if (!decide Q.amd.none)=true then 3 else(0)))))else(if (!sm)=true then 3 else(if (Q.op==1)=true then xa else(if (!decide Q.amd.none)=true then 3 else(0))))))):
 Calls Tryz.prog 14 #[.agg (aA Q (.slice sa sn sc))] w λe w'=>e=.returned (.int .i64 x)/\Below w.heap.size w w':=by
 go_enter Tryz.func14,Tryz.ntmps14
 refine wp_seq ?_
 refine wp_region_lit ?_
 refine wpList_plain rfl (λK hK=>?_)
 go_simp
 refine hK _ _ ?_
 clear hK K
 refine wpList_plain rfl (λK hK=>?_)
 go_simp
 refine hK _ _ ?_
 clear hK K
 refine aU ?_
 obtain⟨g,hg⟩:∃g,g=w.heap.size:=⟨_,rfl⟩
 obtain⟨W1,hW1⟩:∃W1,W1=w.alloc (.cells (aA Q (.slice sa sn sc)) 28):=⟨_,rfl⟩
 have hrow:∀W,Below W1.heap.size W1 W->W.heap[g]? =some (.cells (mi Q (.slice sa sn sc)).toArray 28 (0,0)):=λW hW=>by
  rw[hW.block g (by rw[hW1,hg];simp),hW1,hg];exact aD w _
 have hB1:Below w.heap.size w W1:=by rw[hW1];exact(Below.refl _ _).alloc (Nat.le_refl _) _
 have up:∀W,Below W1.heap.size W1 W->Below w.heap.size w W:=λW hW=>hB1.trans (hW.mono hB1.size)
 rw[<-hg,<-hW1]
 clear hW1
 refine jo rfl λa ha hdf=>?_
 have hO:Ev.Ok Tryz.prog (λ(_:Unit) W=>Below W1.heap.size W1 W) (reqM V g Q (.slice sa sn sc) xi xa sm):=by
  refine Ev.jH (λt f d h=>CO h) (λq b o l h W hS=>?_) (λf vs v h=>?_) (λo ov v h ρ hov W hS=>?_)
  ·rcases q with _|_|_|q
   ·cases h;exact fU hrow W hS
   ·cases h
   ·cases h
   ·cases h
  ·unfold G6 at h
   split at h
   ·rename_i hf
    subst hf
    split at h
    ·split at h
     ·rename_i k j hk
      cases h
      refine⟨Rn,λW hS=>?_⟩
      obtain⟨n,hn,hk3⟩:∃n:Nat,k=(n:Int)/\n<3:=by
       rcases hk.1 with rfl|rfl|rfl
       ·exact⟨0,rfl,by decide⟩
       ·exact⟨1,rfl,by decide⟩
       ·exact⟨2,rfl,by decide⟩
      subst hn
      rcases hk.2 with rfl|rfl
      ·exact(cV.out W n Q.sender hk3 hG1.out (up W hS)).mono λe w' q=>⟨q.1,hS.trans (q.2.mono hS.size)⟩
      ·exact(cV.out W n Q.ref hk3 hG2.out (up W hS)).mono λe w' q=>⟨q.1,hS.trans (q.2.mono hS.size)⟩
     ·cases h
    ·cases h
   ·split at h
    ·rename_i hf
     subst hf
     split at h
     ·cases h
      exact⟨ent37,λW hS=>(nI.out W (up W hS)).mono λe w' q=>⟨q.1,hS.trans (q.2.mono hS.size)⟩⟩
     ·cases h
    ·split at h
     ·rename_i hf
      subst hf
      split at h
      ·cases h
       exact⟨Rb,λW hS=>(nS.out W (up W hS)).mono λe w' q=>⟨q.1,hS.trans (q.2.mono hS.size)⟩⟩
      ·cases h
     ·split at h
      ·rename_i hf
       subst hf
       split at h
       ·cases h
        exact⟨ent38,λW hS=>(nA.out W (up W hS)).mono λe w' q=>⟨q.1,hS.trans (q.2.mono hS.size)⟩⟩
       ·cases h
      ·cases h
  ·unfold Dq at h
   split at h
   ·rename_i t ps ho
    split at h
    ·rename_i hps
     have Kz:ps=#[]:=by rw[<-Array.toArray_toList (xs:=ps),hps]
     subst Kz
     split at h
     ·rename_i ht
      subst ht
      cases h
      unfold execOp
      simp only[ho,Sem.run_bind,bd35,Result.andThen_ok]
      rfl
     ·split at h
      ·rename_i ht
       subst ht
       cases h
       unfold execOp
       simp only[ho,Sem.run_bind,bd36,Result.andThen_ok]
       rfl
      ·cases h
    ·cases h
   ·rename_i t x y t2 ho
    split at h
    ·rename_i ht
     subst ht
     split at h
     ·rename_i h1 h2
      cases h
      have e1:ρ x=.agg (aG Q.amd).toArray:=hov _ _ h1
      have e2:ρ y=.agg (aG {}).toArray:=hov _ _ h2
      unfold execOp
      simp only[ho,e1,e2]
      rw[Sem.run_bind,ne36 0]
      rfl
     ·cases h
    ·cases h
   ·cases h
 refine Ev.AL (M:=reqM V g Q (.slice sa sn sc) xi xa sm) (S:=λ_ W=>Below W1.heap.size W1 W) (n:=Tryz.f14.ntmps) (K:=[(1,.p 0 0)]) (s:=()) (v:=x) 2 hO (λ_ W h=>h.drew) (by rw[hx];kernel_rfl) (by kernel_rfl) (Ev.aF (Ev.aX (by rw[ha];rfl) hdf) (by rw[ha];rfl)) (Below.refl _ _) ?_
 intro b W s hd ht hS
 refine bodyPost_ret (results_tmp rfl _ _ _) hd ?_
 rw[hg]
 exact⟨by rw[show b.tmps.getD 2 undef=.int .i64 x from eval_at ht],hB1.trans (hS.mono hB1.size)⟩
theorem vE (k:Nat)(hk:k<3)(s:ByteArray)(hs:Sz s)(w:World):
 Calls Tryz.prog 41 #[.int .i64 k,.string s] w λe w'=>e=.returned (.bool (az.valid k s))/\Below w.heap.size w w':=by
 have n:=Js k hk s hs w
 go_enter Tryz.func41,Tryz.ntmps41
 go_wp2_with fail
 refine n.mono ?_
 rintro e w' ⟨⟨z,rfl⟩,hB⟩
 go_wp2_with fail
 go_ret
 exact⟨bK (by rw[show az.valid k s=decide (aN k s=0)from rfl,Bool.eq_iff_iff];simp),hB⟩
theorem rk_amd (w:World)(A:Ps.Amd):Calls Tryz.prog 44 #[.agg (aG A).toArray] w λe w'=>e=.returned (.int .i64 (Ps.xB A))/\Below w.heap.size w w':=
 RA w A (Ps.xB A) (Jn A).symm
theorem rk_ins (w:World)(i:Ps.Ins)(sa:Option Addr)(sn sc:Nat)(hG:l6 i)(hsn:sn=i.links.length)(hlk:dJ w sa sn i.links):
 Calls Tryz.prog 42 #[.agg (aB i (.slice sa sn sc)).toArray] w λe w'=>e=.returned (.int .i64 (Ps.ny az.valid i))/\Below w.heap.size w w':=
 Pv w az.valid i sa sn sc _ _ (Lib.hid λW k s hk hz hB=>(vE k hk s hz W)) (Lib.hid hG) (Lib.hid hsn) (Lib.hid hlk) (Lib.hid rfl) (by
  rw[hsn]
  exact(Iz az.valid (by decide +kernel) i).symm)
theorem Q8 (w:World)(i:Ps.Ins)(sa:Option Addr)(sn sc:Nat)(h63:sn<=9223372036854775806)(hsn:sn=i.links.length)(hlk:dJ w sa sn i.links):
 Calls Tryz.prog 43 #[.agg (aB i (.slice sa sn sc)).toArray,.agg (aB {} (.slice none 0 0)).toArray] w λe w'=>e=.returned (.bool (decide i.none))/\Below w.heap.size w w':=
 Cn w i {} sa none sn sc 0 0 _ (Lib.hid h63) (Lib.hid hsn) (Lib.hid rfl) (Lib.hid hlk) (Lib.hid λh=>absurd h (by omega))
  (Lib.hid λh=>decide_eq_false λhn=>h (by rw[hsn];exact hn.2.2.2.2.2.2.2.2.2.2.2.2.2.2.2))
  (Lib.hid λ_ ⟨j,y,z,_,h,_⟩=>absurd h (by show¬([]:List Ps.Link)[j]? =some z;simp))
  (Lib.hid λh _=>by
   have h0:i.links.length=0:=by omega
   simp only[beqS]
   unfold Ps.Ins.none
   rw[Bool.eq_iff_iff]
   simp[h0,and_assoc])
theorem QF (w:World)(Q:Ps.Req)(sa:Option Addr)(sn sc:Nat)(h63:sn<=9223372036854775806)(hG:l6 Q.ins)(hG1:Sz Q.sender)(hG2:Sz Q.ref)(hsn:sn=Q.ins.links.length)(hlk:dJ w sa sn Q.ins.links):
 Calls Tryz.prog 14 #[.agg (aA Q (.slice sa sn sc))] w λe w'=>e=.returned (.int .i64 (psR Q))/\Below w.heap.size w w':=by
 have up:∀W,Below w.heap.size w W->dJ W sa sn Q.ins.links:=λW hW=>hlk.below hW
 refine Oi w az.valid Q sa sn sc _ (Ps.ny az.valid Q.ins) (Ps.xB Q.amd) (decide Q.ins.none) (Lib.hid λW k s hk hz hB=>(vE k hk s hz W)) (Lib.hid hG1) (Lib.hid hG2)
  (Lib.hid λW hW=>rk_ins W Q.ins sa sn sc hG hsn (up W hW)) (Lib.hid λW hW=>Q8 W Q.ins sa sn sc h63 hsn (up W hW)) (Lib.hid λW hW=>rk_amd W Q.amd) ?_
 unfold psR Ps.yN
 symm
 simp only[beqS]
 refine bG (by first|(simp;done)|(simp;omega)) λr1=>?_
 refine rq (by simp) λr2 r3=>?_
 have k1:Q.op=0\/Q.op=1\/Q.op=2\/Q.op=3\/Q.op=4:=by omega
 rcases k1 with h|h|h|h|h
 ·simp only[h]
  by_cases hi:Ps.ny az.valid Q.ins=0
  ·rw[hi]
   by_cases h5:Q.ins.ref=Q.ref<;>by_cases h6:Q.ins.sender=Q.sender<;>by_cases h7:Q.amd.none<;>simp[h5,h6,h7]
  ·simp[hi]
 all_goals
  simp only[h]
  by_cases h7:Q.ins.none<;>by_cases h8:Q.amd.none<;>simp[h7,h8]
end Go.Proofs.YtnjjeapcalkmaaaGreatDoor
