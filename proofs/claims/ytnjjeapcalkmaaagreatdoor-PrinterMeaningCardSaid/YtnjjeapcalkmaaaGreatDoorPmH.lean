/-
  Part 8 of a proof; written short by a program out of longer texts of mine.
-/
import Derived.Test.YtnjjeapcalkmaaaGreatDoorPmG
set_option maxRecDepth 100000
set_option maxHeartbeats 4000000
set_option linter.unusedVariables false
set_option linter.unusedSimpArgs false
namespace Go.Proofs.YtnjjeapcalkmaaaGreatDoor
open Go.RowKit
open Go.Proofs.YtnjjeapcalkmaaaGreatDoor.Ord
open Go.Proofs.YtnjjeapcalkmaaaGreatDoor.Ev (AV Mem Fr om bE iL Sh Stop Qof az gV bK jM oF fmC)
def KW (V:Nat->ByteArray->Bool)(i:Ps.Ins)(k:Nat)(x:Ps.Link)(rows:List (Option (Nat×Nat)×List Value))(f:FuncId)(vs:List AV):Option Value:=
 if f=80 then(match vs.map (iL rows)with|[.int .i64 m,.string s]=>if m=0\/m=1\/m=2 then some (.bool (V m.toNat s))else none|_=>none)
 else if f=138 then(match vs with|[.a 0 0 16]=>some (.bool ((i.kind==3)||(i.kind==4)))|_=>none)
 else if f=139 then(match vs with|[.a 0 0 16]=>some (.bool ((i.kind==1)||(i.kind==2)))|_=>none)
 else if f=140 then(match vs with|[.a 0 0 16]=>some (.bool (if (i.kind==0)=true then(i.asset.toList==[67,65,83,72])else V 0 i.asset))|_=>none)
 else if f=143 then(match vs with|[.a 0 0 16]=>some (.int .i64 (if i.partial_=true then i.quantity else 0))|_=>none)
 else if f=144 then(match vs,bE rows 1 1 with|[.r 1 1,.r 1 2],.slice _ _ _=>some (.bool (iE (i.links.take k) x.ref))|_,_=>none)
 else vY (List.map (iL rows)) f vs
def Gx (rows:List (Option (Nat×Nat)×List Value))(o:Oper)(ov:Operand->Option AV):Option AV:=match o.op with
 | .call ⟨.builtin .len,xs,ts⟩=>(match xs.toList,ts.toList with
   |[x],[t]=>if o.type=3/\t=32 then(match ov x with
    |some a=>match iL rows a with
     | .slice _ n _=>some (.v (.int .i64 (n:Int)))
     |_=>none
    |none=>none)else none
   |_,_=>none)
 | .slice t x none (some y) none=>if t=32 then(match ov x,ov y with
   |some (.r 0 15),some (.r 1 0)=>(match bE rows 1 1 with
    | .slice _ _ _=>some (.r 1 1)
    |_=>none)
   |_,_=>none)else none
 | .makeFunc (.func f) fs cs=>(match fs.toList,cs.toList with
   |[],[x]=>if f=145 then(match ov x with
    |some (.p 2 0)=>(match bE rows 1 1 with
     | .slice _ _ _=>some (.r 1 2)
     |_=>none)
    |_=>none)else none
   |_,_=>none)
 |_=>Ev.qC (iL rows) o ov
def ckM (V:Nat->ByteArray->Bool)(i:Ps.Ins)(k:Nat)(x:Ps.Link)(rows:List (Option (Nat×Nat)×List Value)):Mem Unit:=om lu rows (KW V i k x rows) (Gx rows)
def M8 (g:Nat)(i:Ps.Ins)(lv:Value):List (Option (Nat×Nat)×List Value):=[(some (g,0),aB i lv)]
def Ol (g:Nat)(i:Ps.Ins)(sb sn sc k h:Nat)(x:Ps.Link):List (Option (Nat×Nat)×List Value):=[(some (g,0),aB i (.slice (some ⟨sb,0,none⟩) sn sc)),(none,[.int .i64 k,.slice (some ⟨sb,0,none⟩) k sc,.func (.func 145) #[] #[.pointer (some ⟨h,0,none⟩)]]),(some (h,0),[.int .i64 x.type,.string x.ref])]
def CkIn (i:Ps.Ins)(k:Nat)(x:Ps.Link)(rows:List (Option (Nat×Nat)×List Value))(W0:World):Prop:=∃(sb h c sn:Nat),bE rows 0 15=.slice (some ⟨sb,0,none⟩) sn c/\bE rows 1 0=.int .i64 (k:Int)/\bE rows 1 1=.slice (some ⟨sb,0,none⟩) k c/\bE rows 1 2=.func (.func 145) #[] #[.pointer (some ⟨h,0,none⟩)]/\iL rows (.p 2 0)=.pointer (some ⟨h,0,none⟩)/\k<=sn/\sn<=c/\sn<=1000/\
 ∀w,Below W0.heap.size W0 w->Calls Tryz.prog 144 #[.slice (some ⟨sb,0,none⟩) k c,.func (.func 145) #[] #[.pointer (some ⟨h,0,none⟩)]] w λe w'=>e=.returned (.bool (iE (i.links.take k) x.ref))/\Below w.heap.size w w'
theorem KR {V:Nat->ByteArray->Bool}{i:Ps.Ins}{k:Nat}{x:Ps.Link}{lv:Value}{o:Option (Nat×Nat)}{rs:List (Option (Nat×Nat)×List Value)}{W0:World}(hrow:∀(k b o2:Nat) (l:List Value),((o,aB i lv)::rs)[k]? =some (some (b,o2),l)->∀w,Below W0.heap.size W0 w->∀(j:Nat) (v:Value),l[j]? =some v->w.cell? ⟨b,o2+j,none⟩=some v)
 (hV:∀(m:Nat) (s:ByteArray) (w':World),m<3->Below W0.heap.size W0 w'->Calls Tryz.prog 80 #[.int .i64 m,.string s] w' λe w''=>e=.returned (.bool (V m s))/\Below w'.heap.size w' w'')
 (hc:∀sb n c,bE ((o,aB i lv)::rs) 1 1=.slice sb n c->CkIn i k x ((o,aB i lv)::rs) W0):
 Ev.Ok Tryz.prog (λ(_:Unit) w=>Below W0.heap.size W0 w) (ckM V i k x ((o,aB i lv)::rs)):=by
 have agg0:iL ((o,aB i lv)::rs) (.a 0 0 16)=.agg (aB i lv).toArray:=rfl
 have fin:∀{f:FuncId} {args:Array Value} {v:Value} {w:World},Below W0.heap.size W0 w->(Calls Tryz.prog f args w λe w'=>e=.returned v/\Below w.heap.size w w')->Calls Tryz.prog f args w λe w'=>e=.returned v/\Below W0.heap.size W0 w':=λhw h=>h.mono λe w' k=>⟨k.1,hw.trans (k.2.mono hw.size)⟩
 refine Ev.mX (λt f d h=>mq h) hrow (λf vs v h=>?_) (λop ov v h ρ hov w hS=>?_)
 ·unfold KW at h
  split at h
  ·rename_i hf
   subst hf
   split at h
   ·rename_i m s hm
    split at h
    ·rename_i h3
     cases h
     rw[hm]
     obtain⟨n,hn,hk3⟩:∃n:Nat,m=(n:Int)/\n<3:=by
      rcases h3 with rfl|rfl|rfl
      ·exact⟨0,rfl,by decide⟩
      ·exact⟨1,rfl,by decide⟩
      ·exact⟨2,rfl,by decide⟩
     subst hn
     exact⟨Cb,λw hw=>fin hw (hV n s w hk3 hw)⟩
    ·cases h
   ·cases h
  split at h
  ·rename_i hf
   subst hf
   split at h
   ·cases h
    exact⟨ent105,λw hw=>fin hw (is_col w i lv _ _ rfl rfl)⟩
   ·cases h
  split at h
  ·rename_i hf
   subst hf
   split at h
   ·cases h
    exact⟨ent106,λw hw=>fin hw (is_sec w i lv _ _ rfl rfl)⟩
   ·cases h
  split at h
  ·rename_i hf
   subst hf
   split at h
   ·cases h
    exact⟨ent107,λw hw=>fin hw (M9 w i lv _ _ _ rfl rfl λw' hw'=>hV 0 i.asset w' (by decide) (hw.trans (hw'.mono hw.size)))⟩
   ·cases h
  split at h
  ·rename_i hf
   subst hf
   split at h
   ·cases h
    exact⟨ent110,λw hw=>fin hw (O8 w i lv _ rfl)⟩
   ·cases h
  split at h
  ·rename_i hf
   subst hf
   split at h
   ·rename_i sb n c h11
    cases h
    obtain⟨sb,h,c,sn,k1,k2,k3,k4,k5,k6,k7,k8,k9⟩:=hc _ _ _ h11
    refine⟨ent111,λw hw=>?_⟩
    have e1:List.map (iL ((o,aB i lv)::rs)) [AV.r 1 1,.r 1 2]=[.slice (some ⟨sb,0,none⟩) k c,.func (.func 145) #[] #[.pointer (some ⟨h,0,none⟩)]]:=by
     simp only[List.map_cons,List.map_nil]
     rw[show iL ((o,aB i lv)::rs) (.r 1 1)=_ from k3,show iL ((o,aB i lv)::rs) (.r 1 2)=_ from k4]
    rw[e1]
    exact fin hw (k9 w hw)
   ·cases h
  exact rC h
 ·unfold Gx at h
  split at h
  ·rename_i xs ts ho
   split at h
   ·rename_i x t hx ht2
    split at h
    ·rename_i ht
     obtain⟨ht,rfl⟩:=ht
     split at h
     ·rename_i a ha
      split at h
      ·rename_i sa n c hv
       cases h
       have h1:=hov _ _ ha
       rw[hv]at h1
       have hxs:xs=#[x]:=by rw[<-Array.toArray_toList (xs:=xs),hx]
       have hts:ts=#[32]:=by rw[<-Array.toArray_toList (xs:=ts),ht2]
       subst hxs
       subst hts
       clear hrow hV hc fin agg0 hov hx ht2 ha hv
       unfold execOp
       simp only[ho,ht]
       go_simp
       rfl
      ·cases h
     ·cases h
    ·cases h
   ·cases h
  ·rename_i t x y ho
   split at h
   ·rename_i ht
    subst ht
    split at h
    ·rename_i h1 h2
     split at h
     ·rename_i sb n c h11
      cases h
      obtain⟨sb,h,c,sn,k1,k2,k3,k4,k5,k6,k7,k8,k9⟩:=hc _ _ _ h11
      have e1:ρ x=.slice (some ⟨sb,0,none⟩) sn c:=(hov _ _ h1).trans k1
      have e2:ρ y=.int .i64 (k:Int):=(hov _ _ h2).trans k2
      rw[show iL ((o,aB i lv)::rs) (.r 1 1)=_ from k3]
      unfold execOp
      simp only[ho,e1,e2,Option.map_some,Option.map_none,Sem.run_bind,sl_to _ sn c k k6 k7 k8 w,Result.andThen_ok]
      rfl
     ·cases h
    ·cases h
   ·cases h
  ·rename_i f fs cs ho
   split at h
   ·rename_i x hfs hcs
    split at h
    ·rename_i hf
     subst hf
     split at h
     ·rename_i hx
      split at h
      ·rename_i sb n c h11
       cases h
       obtain⟨sb,h,c,sn,k1,k2,k3,k4,k5,k6,k7,k8,k9⟩:=hc _ _ _ h11
       have e1:ρ x=.pointer (some ⟨h,0,none⟩):=(hov _ _ hx).trans k5
       have hf1:fs=#[]:=by rw[<-Array.toArray_toList (xs:=fs),hfs]
       have hc1:cs=#[x]:=by rw[<-Array.toArray_toList (xs:=cs),hcs]
       subst hf1
       subst hc1
       rw[show iL ((o,aB i lv)::rs) (.r 1 2)=_ from k4]
       clear hrow hV hc fin agg0 hov k9 k1 k2 k3 k4 k5 h11
       unfold execOp
       simp only[ho,List.map_toArray,List.map_cons,List.map_nil,e1]
       go_simp
      ·cases h
     ·cases h
    ·cases h
   ·cases h
  ·exact Ev.oO h hov (λ_=>rfl) w
noncomputable def ckC:Code:=match Tryz.f81.body.getD .skip with
 | .seq _ (.seq _ c)=>c
 |c=>c
noncomputable def ckL:Code×List Ev.Fm:=az gV ckC
noncomputable def ckG:Code×List Ev.Fm:=az (bK 6) (jM ckL.1)
theorem OV {Q:Exit->Act->World->Prop}{a:Act}{w:World}{id:Nat}{o1 o2 o3 o4 o5 o6:Oper}{sb sn sc k:Nat}{x:Ps.Link}(h1:o1.op=.move (.tmp 191))(h1d:o1.dst=some 193)(g1:o1.guard=none)(h2:o2.op=.indexAddr 32 (.tmp 189) (.tmp 191))(Q4:o2.dst=some 194)(g2:o2.guard=none)(h3:o3.op=.load 129 (.tmp 194))(RN:o3.dst=some 195)(g3:o3.guard=none)
 (h4:o4.op=.alloc 129) (h4d:o4.dst=some 5) (g4:o4.guard=none) (h5:o5.op=.assign (.tmp 193)) (h5d:o5.dst=some 4) (g5:o5.guard=none) (h6:o6.op=.store 129 (.tmp 5) (.tmp 195)) (h6d:o6.dst=none) (g6:o6.guard=none)
 (hsz:a.tmps.size=225) (ht:a.tmps[191]? =some (.int .i64 (k:Int))) (hs:a.tmps[189]? =some (.slice (some ⟨sb,0,none⟩) sn sc)) (hk:k<sn) (c0:w.cell? ⟨sb,k*2,none⟩=some (.int .i64 x.type)) (c1:w.cell? ⟨sb,k*2+1,none⟩=some (.string x.ref))
 (hend:∀b:Act,b.defers=a.defers->b.tmps.size=225->b.tmps[5]? =some (.pointer (some ⟨w.heap.size,0,none⟩))->b.tmps[4]? =some (.int .i64 (k:Int))->(∀s:Nat,s≠4->s≠5->s≠193->s≠194->s≠195->b.tmps[s]? =a.tmps[s]?)->Q .normal b (w.alloc (.cells #[.int .i64 x.type,.string x.ref] 129))):(Code.region id #[o1,o2,o3,o4,o5,o6] false).wp Tryz.prog Q a w:=by
 have hkI:(k:Int)<(sn:Int):=by omega
 refine wp_region_lit ?_
 refine mH g1 h1d (u:=.int .i64 (k:Int)) (by unfold execOp;rw[h1];simp only[eval_at ht];rfl) ?_
 obtain⟨t1,ht1⟩:∃t1,t1=a.tmps.setIfInBounds 193 (.int .i64 (k:Int)):=⟨_,rfl⟩
 have z1:t1.size=225:=by rw[ht1];simp[hsz]
 have r1:∀s:Nat,s≠193->t1[s]? =a.tmps[s]?:=λs n=>by rw[ht1,Array.getElem?_setIfInBounds_ne (λh=>n h.symm)]
 have q193:t1[193]? =some (.int .i64 (k:Int)):=by rw[ht1];simp[hsz]
 have q189:=(r1 189 (by decide)).trans hs
 have q191:=(r1 191 (by decide)).trans ht
 rw[<-ht1]
 clear ht1
 refine mH g2 Q4 (u:=.pointer (some ⟨sb,k*2,none⟩)) (by
  have e1:(⟨t1,a.defers⟩:Act).eval (.tmp 189)=.slice (some ⟨sb,0,none⟩) sn sc:=eval_at q189
  have e2:(⟨t1,a.defers⟩:Act).eval (.tmp 191)=.int .i64 (k:Int):=eval_at q191
  clear hend q189 q191 q193 ht hs r1
  unfold execOp
  simp only[h2,e1,e2]
  go_simp) ?_
 obtain⟨t2,ht2⟩:∃t2,t2=t1.setIfInBounds 194 (.pointer (some ⟨sb,k*2,none⟩)):=⟨_,rfl⟩
 have z2:t2.size=225:=by rw[ht2];simp[z1]
 have r2:∀s:Nat,s≠194->t2[s]? =t1[s]?:=λs n=>by rw[ht2,Array.getElem?_setIfInBounds_ne (λh=>n h.symm)]
 have q194:t2[194]? =some (.pointer (some ⟨sb,k*2,none⟩)):=by rw[ht2];simp[z1]
 rw[<-ht2]
 clear ht2
 refine pM g3 RN h3 (v:=.pointer (some ⟨sb,k*2,none⟩)) (eval_at q194) (u:=.agg #[.int .i64 x.type,.string x.ref]) (Ev.AL (t:=129) (n:=2) (by kernel_rfl) sb (k*2) w (λj=>([.int .i64 x.type,.string x.ref]:List Value).getD j (.bool false)) (λj hj=>match j,hj with|0,_=>c0|1,_=>c1|j+2,h=>absurd h (by omega))) ?_
 obtain⟨t3,ht3⟩:∃t3,t3=t2.setIfInBounds 195 (.agg #[.int .i64 x.type,.string x.ref]):=⟨_,rfl⟩
 have z3:t3.size=225:=by rw[ht3];simp[z2]
 have r3:∀s:Nat,s≠195->t3[s]? =t2[s]?:=λs n=>by rw[ht3,Array.getElem?_setIfInBounds_ne (λh=>n h.symm)]
 have q195:t3[195]? =some (.agg #[.int .i64 x.type,.string x.ref]):=by rw[ht3];simp[z2]
 rw[<-ht3]
 clear ht3
 refine wpList_plain g4 λK hK=>?_
 unfold Oper.wp
 rw[show(execOp (⟨t3,a.defers⟩:Act).eval o4).run Tryz.prog w=.ok (.value (.pointer (some ⟨w.heap.size,0,none⟩))) (w.alloc (.cells #[.int .i64 0,.string ByteArray.empty] 129))from by
  clear hend hK c0 c1 q189 q191 q193 q194 q195 ht hs r1 r2 r3
  unfold execOp;rw[h4];go_simp;first|done|rfl]
 refine hK _ _ ?_
 rw[h4d]
 show wpList _ _ _ _ ⟨t3.setIfInBounds 5 (.pointer (some ⟨w.heap.size,0,none⟩)),a.defers⟩ _
 obtain⟨t4,ht4⟩:∃t4,t4=t3.setIfInBounds 5 (.pointer (some ⟨w.heap.size,0,none⟩)):=⟨_,rfl⟩
 have z4:t4.size=225:=by rw[ht4];simp[z3]
 have r4:∀s:Nat,s≠5->t4[s]? =t3[s]?:=λs n=>by rw[ht4,Array.getElem?_setIfInBounds_ne (λh=>n h.symm)]
 have q5:t4[5]? =some (.pointer (some ⟨w.heap.size,0,none⟩)):=by rw[ht4];simp[z3]
 rw[<-ht4]
 clear ht4 hK
 have q193':t4[193]? =some (.int .i64 (k:Int)):=by rw[r4 193 (by decide),r3 193 (by decide),r2 193 (by decide)];exact q193
 refine mH g5 h5d (u:=.int .i64 (k:Int)) (by
  have e1:(⟨t4,a.defers⟩:Act).eval (.tmp 193)=.int .i64 (k:Int):=eval_at q193'
  unfold execOp;simp only[h5,e1];rfl) ?_
 refine uz (w':=w.alloc (.cells #[.int .i64 x.type,.string x.ref] 129)) g6 h6d ?_ ?_
 ·have e1:(⟨t4.setIfInBounds 4 (.int .i64 (k:Int)),a.defers⟩:Act).eval (.tmp 5)=.pointer (some ⟨w.heap.size,0,none⟩):=eval_at (by rw[Array.getElem?_setIfInBounds_ne (by decide)];exact q5)
  have e2:(⟨t4.setIfInBounds 4 (.int .i64 (k:Int)),a.defers⟩:Act).eval (.tmp 195)=.agg #[.int .i64 x.type,.string x.ref]:=eval_at (by rw[Array.getElem?_setIfInBounds_ne (by decide),r4 195 (by decide)];exact q195)
  unfold execOp
  simp only[h6,e1,e2]
  clear hend c0 c1 e1 e2 q189 q191 q193 q193' q194 q195 q5 ht hs r1 r2 r3 r4
  go_simp
  first|done|rfl
 refine av ?_
 refine hend _ rfl (by simp[z4]) (by rw[Array.getElem?_setIfInBounds_ne (by decide)];exact q5) (by simp[z4]) λs n1 n2 n3 n4 n5=>?_
 rw[Array.getElem?_setIfInBounds_ne (λh=>n1 h.symm),r4 s n2,r3 s n5,r2 s n4,r1 s n3]
theorem in_w1 (w:World)(i:Ps.Ins)(sa:Option Addr)(sn sc:Nat)(V:Nat->ByteArray->Bool)(x x1 xL:Int)(hx1:x1=aV (gF V i sn))(hn8:x1=0->sn<=8)(HSN:Hid (sn=i.links.length))(HSC:Hid (sn<=sc))(hLE:Hid (Ps.ig V i [] i.links=xL))(HLK:Hid (0<sn->∃sb,sa=some ⟨sb,0,none⟩/\∀W,Below w.heap.size w W->jq W sb i.links))(hx:x=if x1≠0 then x1 else xL)(hV0:∀(s:ByteArray) (w':World),Below w.heap.size w w'->Calls Tryz.prog 80 #[.int .i64 0,.string s] w' λe w''=>e=.returned (.bool (V 0 s))/\Below w'.heap.size w' w'')(hV1:∀(s:ByteArray) (w':World),Below w.heap.size w w'->Calls Tryz.prog 80 #[.int .i64 1,.string s] w' λe w''=>e=.returned (.bool (V 1 s))/\Below w'.heap.size w' w'')(hV2:∀(s:ByteArray) (w':World),Below w.heap.size w w'->Calls Tryz.prog 80 #[.int .i64 2,.string s] w' λe w''=>e=.returned (.bool (V 2 s))/\Below w'.heap.size w' w'')
 :Calls Tryz.prog 81 #[.agg (aB i (.slice sa sn sc)).toArray] w λe w'=>e=.returned (.int .i64 x)/\Below w.heap.size w w':=by
 go_enter Tryz.func81,Tryz.ntmps81
 refine wp_seq ?_
 refine wp_region_lit ?_
 refine wpList_plain rfl (λK hK=>?_)
 go_simp
 refine hK _ _ ?_
 clear hK K
 refine wpList_plain rfl (λK hK=>?_)
 go_simp
 refine hK _ _ ?_
 clear hK K
 refine av ?_
 obtain⟨g,hg⟩:∃g,g=w.heap.size:=⟨_,rfl⟩
 obtain⟨W1,hW1⟩:∃W1,W1=w.alloc (.cells (aB i (.slice sa sn sc)).toArray 34):=⟨_,rfl⟩
 have hrow:∀W,Below W1.heap.size W1 W->W.heap[g]? =some (.cells (aB i (.slice sa sn sc)).toArray 34 (0,0)):=λW hW=>by
  rw[hW.block g (by rw[hW1,hg];simp),hW1,hg];exact aD w _
 have hB1:Below w.heap.size w W1:=by rw[hW1];exact(Below.refl _ _).alloc (Nat.le_refl _) _
 have up:∀W,Below W1.heap.size W1 W->Below w.heap.size w W:=λW hW=>hB1.trans (hW.mono hB1.size)
 have hV:∀(m:Nat) (s:ByteArray) (w':World),m<3->Below w.heap.size w w'->Calls Tryz.prog 80 #[.int .i64 m,.string s] w' λe w''=>e=.returned (.bool (V m s))/\Below w'.heap.size w' w'':=λm s w' hm hw=>by
  rcases m with _|_|_|m
  ·exact hV0 s w' hw
  ·exact hV1 s w' hw
  ·exact hV2 s w' hw
  ·omega
 rw[<-hg,<-hW1]
 clear hW1 hV0 hV1 hV2
 refine rO rfl λa ha hdf=>?_
 have hret:∀(b:Act) (W:World),b.defers=[]->b.tmps[2]? =some (.int .i64 x)->Below W1.heap.size W1 W->bodyPost Tryz.prog Tryz.f81 (λe w'=>e=.returned (.int .i64 x)/\Below g w w') .ret b W:=λb W hd ht hS=>by
  refine bodyPost_ret (results_tmp rfl _ _ _) hd ?_
  rw[hg]
  exact⟨by rw[show b.tmps.getD 2 undef=.int .i64 x from eval_at ht],hB1.trans (hS.mono hB1.size)⟩
 have hO1:Ev.Ok Tryz.prog (λ(_:Unit) W=>Below W1.heap.size W1 W) (ckM V i 0 ⟨0,⟨#[]⟩⟩ (M8 g i (.slice sa sn sc))):=KR (o:=some (g,0)) (rs:=[]) (λq b o2 l h W hW=>by
  rcases q with _|q
  ·cases h;exact gp hrow W hW
  ·cases h) (λm s w' hm hw=>hV m s w' hm (up _ hw)) (λsb n c h=>by cases h)
 refine wp_seq ?_
 refine Ev.mf (W0:=W1) (m:=225) (M:=ckM V i 0 ⟨0,⟨#[]⟩⟩ (M8 g i (.slice sa sn sc))) (K:=[(1,.p 0 0)]) 176 3 (gF V i sn) hO1 (by kernel_rfl) (Ev.aG (Ev.bD (by rw[ha];rfl) hdf) (by rw[ha];rfl)) (Below.refl _ _) (show 0<20 by decide) (show 20<=1000 by decide) (by kernel_rfl) (by kernel_rfl) ?_
 intro b W hB hF
 rw[<-hx1]at hF
 have f3:=hF.look 3 _ rfl
 have f1:=hF.look 1 _ rfl
 show ckC.wp Tryz.prog _ b W
 have hxv:(if (x1 !=0)=true then x1 else xL)=x:=by
  rw[hx]
  by_cases h:x1=0
  ·simp[h]
  ·simp[h]
 refine Ev.Gv (M:=ckM V i 0 ⟨0,⟨#[]⟩⟩ (M8 g i (.slice sa sn sc))) (S:=λ_ W=>Below W1.heap.size W1 W) (n:=225) (K:=[(1,.p 0 0),(3,.v (.int .i64 x1))]) (s:=()) (v:=if (x1 !=0)=true then x1 else xL) (hv:=xL) (l:=[(ckL.1,ckL.2,[some (.p 0 0),some (.r 0 15),some (.v (.int .i64 (sn:Int))),some (.v (.int .i64 0))],(),[!(x1 !=0)])]) 2 [1,189,190,191] [0] hO1 (λ_ W h=>h.drew) (by kernel_rfl) (by kernel_rfl) (Ev.aG (Ev.aG (Ev.bD hF.size hF.defers) f3) f1) hB (λb W _ hd ht hS=>hret b W hd (by rw[<-hxv];exact ht) hS) ?_
 intro hvx y hy hcs b W hst hS
 rw[List.mem_singleton]at hy
 subst hy
 have hx10:x1=0:=by
  have h8:=hcs _ (List.mem_singleton.2 rfl)
  simpa using h8
 have hxL:x=xL:=by rw[hx,if_neg (by rw[hx10];simp)]
 have hsn8:=hn8 hx10
 clear hcs hvx hxv f1 f3 hF hB hx1 hn8 hx hx10 ha hdf
 obtain⟨h1,hst⟩:=hst.cons
 obtain⟨pq,hst⟩:=hst.cons
 obtain⟨rD,hst⟩:=hst.cons
 obtain⟨oD,hst⟩:=hst.cons
 have e1:ckL.1=.loop (jM ckL.1):=by kernel_rfl
 have e2:ckL.2=[.bl 0,.sq (fmC ckL.2 1)]:=by kernel_rfl
 show ckL.1.wp Tryz.prog (Qof Tryz.prog ckL.2 _) b W
 rw[e1,e2]
 refine wp_loop (λa w=>∃k:Nat,k<=sn/\a.tmps.size=225/\a.defers=[]/\a.tmps[1]? =some (.pointer (some ⟨g,0,none⟩))/\a.tmps[189]? =some (.slice sa sn sc)/\a.tmps[190]? =some (.int .i64 (sn:Int))/\a.tmps[191]? =some (.int .i64 (k:Int))/\Below W1.heap.size W1 w/\Ps.ig V i (i.links.take k) (i.links.drop k)=x) (λa _=>match a.tmps[191]? with|some (Value.int _ k)=>sn-k.toNat|_=>0) ⟨0,Nat.zero_le _,hst.1,hst.2.1,h1,pq,rD,oD,hS,by rw[hxL,<-hLE.out];rfl⟩ ?_
 clear hst h1 pq rD oD hS hxL
 rintro b W ⟨k,hk,hsz,hdf,h1,pq,rD,oD,hS,HX⟩
 have hm:(match b.tmps[191]? with|some (Value.int _ k)=>sn-k.toNat|_=>0)=sn-k:=by rw[oD];simp
 rw[hm]
 refine Ev.Ko (M:=ckM V i 0 ⟨0,⟨#[]⟩⟩ (M8 g i (.slice sa sn sc))) (S:=λ_ W=>Below W1.heap.size W1 W) (n:=225) (K:=[(1,.p 0 0),(189,.r 0 15),(190,.v (.int .i64 (sn:Int))),(191,.v (.int .i64 (k:Int)))]) (s:=()) [1,189,190,191] (.ite (decide ((k:Int)<(sn:Int))) (.go ckG [some (.p 0 0),some (.r 0 15),some (.v (.int .i64 (sn:Int))),some (.v (.int .i64 (k:Int)))] ()) (.out 0 [some (.p 0 0),some (.r 0 15),some (.v (.int .i64 (sn:Int))),some (.v (.int .i64 (k:Int)))] ())) hO1 (λ_ _ h=>h.drew) (by kernel_rfl) (Ev.aG (Ev.aG (Ev.aG (Ev.aG (Ev.bD hsz hdf) oD) rD) pq) h1) hS ⟨λhc b W hst hS=>?_,λhc b W hst hS=>?_⟩
 rotate_left
 ·have hkn:¬k<sn:=by have:¬(k:Int)<(sn:Int):=by simpa using hc
                     omega
  have hx0:x=0:=by
   rw[<-HX,List.drop_eq_nil_of_le (by have:=HSN.out;omega)]
   rfl
  show(fmC ckL.2 1).wp Tryz.prog _ b W
  exact Ev.MR (M:=ckM V i 0 ⟨0,⟨#[]⟩⟩ (M8 g i (.slice sa sn sc))) (S:=λ_ W=>Below W1.heap.size W1 W) (n:=225) (K:=[]) (s:=()) (v:=x) 2 hO1 (λ_ _ h=>h.drew) (by rw[hx0];kernel_rfl) (by kernel_rfl) (Ev.bD hst.1 hst.2.1) hS λb W _ h1 h2 h3=>hret b W h1 h2 h3
 have hkn:k<sn:=by have:(k:Int)<(sn:Int):=by simpa using hc
                   omega
 clear h1 pq rD oD hsz hdf hm hc
 obtain⟨h1,hst⟩:=hst.cons
 obtain⟨pq,hst⟩:=hst.cons
 obtain⟨rD,hst⟩:=hst.cons
 obtain⟨oD,hst⟩:=hst.cons
 obtain⟨x0,hx0⟩:∃x0,i.links[k]? =some x0:=⟨_,List.getElem?_eq_getElem (by rw[<-HSN.out];exact hkn)⟩
 obtain⟨sb,rfl,hlr⟩:=HLK.out (by omega)
 have hLW:∀W,Below W1.heap.size W1 W->jq W sb i.links:=λW hW=>hlr W (up W hW)
 have hdrop:i.links.drop k=x0::i.links.drop (k+1):=by
  have h1:=List.drop_eq_getElem_cons (l:=i.links) (i:=k) (by rw[<-HSN.out];exact hkn)
  rw[h1]
  congr 1
  rw[List.getElem?_eq_getElem (by rw[<-HSN.out];exact hkn)]at hx0
  exact Option.some.inj hx0
 have htake:i.links.take (k+1)=i.links.take k++[x0]:=by rw[List.take_add_one,hx0];rfl
 rw[hdrop,Cu,<-htake]at HX
 have e4:ckG.2=[.sq (fmC ckG.2 0),.bl 1,.sq (fmC ckG.2 2)]:=by kernel_rfl
 show ckG.1.wp Tryz.prog (Qof Tryz.prog ckG.2 _) b W
 rw[e4]
 refine OV (sb:=sb) (sn:=sn) (sc:=sc) (k:=k) (x:=x0) rfl rfl rfl rfl rfl rfl rfl rfl rfl rfl rfl rfl rfl rfl rfl rfl rfl rfl hst.1 oD pq hkn (hLW W hS k x0 hx0).1 (hLW W hS k x0 hx0).2 ?_
 intro b2 hd2 hz2 h5 h4 hr2
 obtain⟨h,hh⟩:∃h,h=W.heap.size:=⟨_,rfl⟩
 obtain⟨Wh,hWh⟩:∃Wh,Wh=W.alloc (.cells #[.int .i64 x0.type,.string x0.ref] 129):=⟨_,rfl⟩
 have hBh:Below W1.heap.size W1 Wh:=by rw[hWh];exact hS.alloc hS.size _
 have yO:∀W,Below Wh.heap.size Wh W->W.heap[h]? =some (.cells [.int .i64 x0.type,.string x0.ref].toArray 129 (0,0)):=λW2 hW=>by
  rw[hW.block h (by rw[hWh,hh];simp),hWh,hh];exact aD W _
 have up2:∀W,Below Wh.heap.size Wh W->Below W1.heap.size W1 W:=λW hW=>hBh.trans (hW.mono hBh.size)
 rw[<-hWh]
 rw[<-hh]at h5
 have q1:=(hr2 1 (by decide) (by decide) (by decide) (by decide) (by decide)).trans h1
 have q189:=(hr2 189 (by decide) (by decide) (by decide) (by decide) (by decide)).trans pq
 have q190:=(hr2 190 (by decide) (by decide) (by decide) (by decide) (by decide)).trans rD
 have q191:=(hr2 191 (by decide) (by decide) (by decide) (by decide) (by decide)).trans oD
 have hdf2:=hd2.trans hst.2.1
 clear h1 pq rD oD hst hr2 hWh hh hS e4 hd2
 show(fmC ckG.2 0).wp Tryz.prog (Qof Tryz.prog [.bl 1,.sq (fmC ckG.2 2)] _) b2 Wh
 have hO2:Ev.Ok Tryz.prog (λ(_:Unit) W=>Below Wh.heap.size Wh W) (ckM V i k x0 (Ol g i sb sn sc k h x0)):=KR (o:=some (g,0)) (lv:=.slice (some ⟨sb,0,none⟩) sn sc) (λq b o2 l hq W hW=>by
  rcases q with _|_|_|q
  ·cases hq;exact gp hrow W (up2 W hW)
  ·cases hq
  ·cases hq;exact gp yO W hW
  ·cases hq) (λm s w' hm hw=>hV m s w' hm (up _ (up2 _ hw))) (λ_ _ _ _=>⟨sb,h,sc,sn,rfl,rfl,rfl,rfl,rfl,hk,HSC.out,by omega,λw hw=>Aw w sb h sc i.links x0.ref k (hLW w (up2 w hw)) (by have:=HSN.out;omega) (by have:=HSC.out;omega) (by omega) (by rw[cell_of_row _ _ _ _ _ _ (yO w hw)];rfl)⟩)
 have e7:fmC ckG.2 0=.seq (.region 7 (oF (Ev.seqL (fmC ckG.2 0))) true) (Ev.vG (fmC ckG.2 0)):=by kernel_rfl
 rw[e7]
 refine wp_seq ?_
 refine Ev.mf (W0:=Wh) (m:=225) (M:=ckM V i k x0 (Ol g i sb sn sc k h x0)) (K:=[(1,.p 0 0),(5,.p 2 0),(4,.r 1 0),(189,.r 0 15),(190,.v (.int .i64 (sn:Int))),(191,.r 1 0)]) 23 6 (mr V i (i.links.take k) x0) hO2 (by kernel_rfl) (Ev.aG (Ev.aG (Ev.aG (Ev.aG (Ev.aG (Ev.aG (Ev.bD hz2 hdf2) q191) q190) q189) h4) h5) q1) (Below.refl _ _) (show 0<4 by decide) (show 4<=1000 by decide) (by kernel_rfl) (by kernel_rfl) ?_
 obtain⟨y,hy⟩:∃y,y=aV (mr V i (i.links.take k) x0):=⟨_,rfl⟩
 rw[<-hy]at HX⊢
 clear q1 q189 q190 q191 h4 h5 hz2 hdf2 e7
 intro b3 W3 hB3 hF3
 show(Ev.vG (fmC ckG.2 0)).wp Tryz.prog _ b3 W3
 refine Ev.Ko (M:=ckM V i k x0 (Ol g i sb sn sc k h x0)) (S:=λ_ W=>Below Wh.heap.size Wh W) (n:=225) (K:=[(6,.v (.int .i64 y)),(1,.p 0 0),(189,.r 0 15),(190,.v (.int .i64 (sn:Int))),(191,.r 1 0)]) (s:=()) [1,189,190,191,2] (.ite (y !=0) (.ret [some (.p 0 0),some (.r 0 15),some (.v (.int .i64 (sn:Int))),some (.r 1 0),some (.v (.int .i64 y))] ()) (.nx [some (.p 0 0),some (.r 0 15),some (.v (.int .i64 (sn:Int))),some (.r 1 0),none] ())) hO2 (λ_ _ h=>h.drew) (by kernel_rfl) (Ev.aG (Ev.aG (Ev.aG (Ev.aG (Ev.aG (Ev.bD hF3.size hF3.defers) (hF3.look 191 _ rfl)) (hF3.look 190 _ rfl)) (hF3.look 189 _ rfl)) (hF3.look 1 _ rfl)) (hF3.look 6 _ rfl)) hB3 ⟨λhc b W hst hS=>?_,λhc b W hst hS=>?_⟩
 ·have hy0:y≠0:=by simpa using hc
  rw[if_pos hy0]at HX
  refine hret b W hst.2.1 ?_ (up2 W hS)
  rw[<-HX]
  exact hst.2.2 4 2 _ rfl rfl
 ·have hy0:y=0:=by simpa using hc
  rw[if_neg (by simp[hy0])]at HX
  obtain⟨h1,hst⟩:=hst.cons
  obtain⟨pq,hst⟩:=hst.cons
  obtain⟨rD,hst⟩:=hst.cons
  obtain⟨oD,hst⟩:=hst.cons
  have hw1:IntKind.i64.wrap ((k:Int)+1)=((k+1:Nat):Int):=by rw[IntWalk.i64_in _ (by omega)];rfl
  show(fmC ckG.2 2).wp Tryz.prog _ b W
  refine Ev.Ko (M:=ckM V i k x0 (Ol g i sb sn sc k h x0)) (S:=λ_ W=>Below Wh.heap.size Wh W) (n:=225) (K:=[(1,.p 0 0),(189,.r 0 15),(190,.v (.int .i64 (sn:Int))),(191,.r 1 0)]) (s:=()) [1,189,190,191] (.nx [some (.p 0 0),some (.r 0 15),some (.v (.int .i64 (sn:Int))),some (.v (.int .i64 (IntKind.i64.wrap ((k:Int)+1))))] ()) hO2 (λ_ _ h=>h.drew) (by kernel_rfl) (Ev.aG (Ev.aG (Ev.aG (Ev.aG (Ev.bD hst.1 hst.2.1) oD) rD) pq) h1) hS ?_
  clear h1 pq rD oD hst
  intro b W hst hS
  obtain⟨h1,hst⟩:=hst.cons
  obtain⟨pq,hst⟩:=hst.cons
  obtain⟨rD,hst⟩:=hst.cons
  obtain⟨oD,hst⟩:=hst.cons
  have Qy:b.tmps[191]? =some (.int .i64 ((k+1:Nat):Int)):=by rw[<-hw1];exact oD
  refine⟨⟨k+1,hkn,hst.1,hst.2.1,h1,pq,rD,Qy,up2 W hS,HX⟩,?_⟩
  rw[Qy];simp;omega
theorem QV (w:World)(a:Option Addr)(n c:Nat)(hn:n≠0):
 Calls Tryz.prog 83 #[.slice a n c,.slice none 0 0] w λe w'=>e=.returned (.bool false)/\Below w.heap.size w w':=by
 go_enter Tryz.func83,Tryz.ntmps83
 have hn2:((n:Int) !=0)=true:=by simp[hn]
 go_wp2_with fail
 go_ret
 exact⟨rfl,Below.refl _ _⟩
theorem Ni (w:World)(a:Option Addr)(c:Nat):
 Calls Tryz.prog 83 #[.slice a 0 c,.slice none 0 0] w λe w'=>e=.returned (.bool true)/\Below w.heap.size w w':=by
 go_enter Tryz.func83,Tryz.ntmps83
 go_wp2_with fail
 go_loopw [5,13] (λ_ iv wr=>iv=.int .i64 0/\wr=w) (λ_ _ _=>0)
 case atStart=>exact⟨rfl,rfl⟩
 case round=>
  obtain⟨rfl,rfl⟩:=hrel
  go_wp2_with fail
  go_ret
  exact⟨rfl,Below.refl _ _⟩
theorem Hf (w:World)(a:Option Addr)(n c:Nat):
 Calls Tryz.prog 83 #[.slice a n c,.slice none 0 0] w λe w'=>e=.returned (.bool (n==0))/\Below w.heap.size w w':=by
 by_cases h:n=0
 ·subst h;exact Ni w a c
 ·rw[show(n==0)=false from by simp[h]];exact QV w a n c h
theorem QC (i:Ps.Ins):oU i {} (i.links.length==0)=decide i.none:=by
 rw[Bool.eq_iff_iff,decide_eq_true_iff]
 unfold oU Ps.Ins.none
 simp only[Bool.and_eq_true,BV]
 simp only[beq_iff_eq,and_assoc]
theorem EL (w:World)(i:Ps.Ins)(sa:Option Addr)(sc:Nat):
 Calls Tryz.prog 35 #[.agg (aB i (.slice sa i.links.length sc)).toArray,.agg (aB {} (.slice none 0 0)).toArray] w λe w'=>e=.returned (.bool (decide i.none))/\Below w.heap.size w w':=by
 rw[<-QC]
 exact xw w i {} sa none i.links.length sc 0 0 _ λw' _=>Hf w' sa i.links.length sc
theorem bq.below {w w':World}{B:Nat}{lv:Value}{ks:List Ps.Link}(h:bq w B lv ks)(hb:Below w.heap.size w w'):bq w' B lv ks:=by
 refine jZ h λg hg=>?_
 obtain⟨_,⟨rfl,_⟩|⟨g',cap,cur,rfl,hB,hh,_⟩⟩:=h
 ·simp[Value.ownBlock]at hg
 ·obtain rfl:g'=g:=by simpa[Value.ownBlock]using hg
  exact hb.block g' (Array.getElem?_eq_some_iff.1 hh).1
def InsC (W0:World):Prop:=∀(w:World) (B:Nat) (i:Ps.Ins) (a:Option Addr) (n c:Nat),Below W0.heap.size W0 w->bq w B (.slice a n c) i.links->
 Calls Tryz.prog 81 #[.agg (aB i (.slice a n c)).toArray] w λe W'=>e=.returned (.int .i64 (Ps.rG bG.valid i))/\Below w.heap.size w W'
theorem JE (V:Nat->ByteArray->Bool)(Q:Ps.Req):Ps.y8 V Q=pY V Q (Ps.rG V Q.ins) (Ps.CF Q.amd) (decide Q.ins.none):=by
 have e17:aV [(!(Q.ins.ref.toList==Q.ref.toList)||!(Q.ins.sender.toList==Q.sender.toList),17)]=if Q.ins.ref≠Q.ref\/Q.ins.sender≠Q.sender then 17 else 0:=
  bu (pX (aj (BV _ _)) (aj (BV _ _)))
 have e3:aV [(!(decide Q.ins.none),3)]=if¬Q.ins.none then 3 else 0:=bu (aj decide_eq_true_iff)
 have e4:aV [(!decide Q.amd.none,3)]=if¬Q.amd.none then 3 else 0:=bu (aj decide_eq_true_iff)
 have ex1:aV [(!(inB Q.op 0 4),11),(!(V 1 Q.sender),6),(!(V 2 Q.ref),6)]=if¬(0<=Q.op/\Q.op<=4)then 11 else if V 1 Q.sender=false then 6 else if V 2 Q.ref=false then 6 else 0:=by
  rw[bu (aj (gB _ _ _)),bu (Ho _),bu (Ho _)]
  rfl
 unfold pY
 rw[e17,e3,e4,ex1]
 simp only[bne_iff_ne,beq_iff_eq]
 unfold Ps.y8
 by_cases h1:¬(0<=Q.op/\Q.op<=4)
 ·simp only[if_pos h1];rfl
 simp only[if_neg h1]
 by_cases h2:V 1 Q.sender=false
 ·simp only[if_pos h2];rfl
 simp only[if_neg h2]
 by_cases h3:V 2 Q.ref=false
 ·simp only[if_pos h3];rfl
 simp only[if_neg h3,ne_eq,not_true_eq_false,if_false]
 by_cases h0:Q.op=0
 ·have h10:¬Q.op=1:=by omega
  simp only[h0,if_true]
  by_cases h4:Ps.rG V Q.ins=0
  ·simp only[h4,not_true_eq_false,if_false]
   by_cases h5:¬Q.ins.ref=Q.ref\/¬Q.ins.sender=Q.sender
   ·simp only[if_pos h5];rfl
   ·simp only[if_neg h5]
    rfl
  ·simp only[h4,not_false_eq_true,if_true]
 ·simp only[h0,if_false]
  by_cases h5:Q.ins.none
  ·simp only[h5,not_true_eq_false,if_false]
  ·simp only[h5,not_false_eq_true,if_true];rfl
theorem jy {W0 w:World}(env:lg W0)(hb:Below W0.heap.size W0 w)(k:Nat)(hk:k<3)(s:ByteArray):∀w',Below w.heap.size w w'->Calls Tryz.prog 80 #[.int .i64 k,.string s] w' λe w''=>e=.returned (.bool (bG.valid k s))/\Below w'.heap.size w' w'':=λw' hw=>
 EN k hk s w' (env w' (hb.trans (hw.mono hb.size)))
theorem Kk {W0:World}(env:lg W0)(ic:InsC W0):ChkC W0:=λw B Q a n c hb hl=>by
 obtain⟨a',c',hs⟩:=hl.slice
 have hn:n=Q.ins.links.length:=by cases hs;rfl
 rw[show psR Q=_ from JE bG.valid Q]
 refine rq_w1 w bG.valid Q a n c _ _ _ (λW k s hk hW=>jy env hb k hk s W hW) (λw' hw=>ic w' B Q.ins a n c (hb.trans (hw.mono hb.size)) (hl.below hw)) (λw' hw=>?_) (λw' hw=>?_)
 ·rw[hn]
  exact EL w' Q.ins a c
 ·rw[<-JX]
  exact Ic w' Q.amd
theorem sJ:∀(rs:List (Bool×Int)),(∀x∈rs,x.2≠0)->aV rs=0->∀x∈rs,x.1=false
 |[],_,_,x,hx=>by cases hx
 |y::rs,hz,h,x,hx=>by
  unfold aV at h
  by_cases hb:y.1=true
  ·rw[if_pos hb]at h
   exact absurd h (hz y List.mem_cons_self)
  ·rw[if_neg hb]at h
   rcases List.mem_cons.1 hx with rfl|hx
   ·simpa using hb
   ·exact sJ rs (λz h=>hz z (List.mem_cons_of_mem _ h)) h x hx
theorem zX {w:World}{B:Nat}{a:Option Addr}{n c:Nat}{ks:List Ps.Link}(h:bq w B (.slice a n c) ks)(hn:0<n):∃sb,a=some ⟨sb,0,none⟩/\∀W,Below w.heap.size w W->jq W sb ks:=by
 obtain⟨a',c',hs⟩:=h.slice
 obtain⟨rfl,rfl,rfl⟩:a=a'/\n=ks.length/\c=c':=by cases hs;exact⟨rfl,rfl,rfl⟩
 obtain⟨sb,cap,hv,hlt,hcell⟩:=gK h hn
 refine⟨sb,by cases hv;rfl,λW hW=>?_⟩
 refine jq.below ?_ hW
 intro j x hj
 have hk:∀(ks:List Ps.Link) (j:Nat) (x:Ps.Link),ks[j]? =some x->(iK ks)[j*2]? =some (.int .i64 x.type)/\(iK ks)[j*2+1]? =some (.string x.ref):=by
  intro ks
  induction ks with
  |nil=>intro j x h;simp at h
  |cons y ks ih=>
   intro j x h
   cases j with
   |zero=>
    obtain rfl:y=x:=by simpa using h
    exact⟨rfl,rfl⟩
   |succ j=>
    have:=ih j x (by simpa using h)
    rw[show(j+1)*2=j*2+1+1 from by omega]
    exact this
 obtain⟨h1,h2⟩:=hk ks j x hj
 exact⟨hcell _ _ h1,hcell _ _ h2⟩
theorem zW {w:World}{B:Nat}{a:Option Addr}{n c:Nat}{ks:List Ps.Link}(h:bq w B (.slice a n c) ks):n=ks.length/\n<=c:=by
 obtain⟨_,⟨hs,h0⟩|⟨g,cap,cur,hv,hB,hh,hnc,_⟩⟩:=h
 ·cases hs
  exact⟨h0.symm,Nat.le_refl _⟩
 ·cases hv
  exact⟨rfl,hnc⟩
theorem Q9 {W0:World}(env:lg W0):InsC W0:=λw B i a n c hb hl=>by
 obtain⟨hn,hc⟩:=zW hl
 have hx:=I4 bG.valid i
 rw[<-hn]at hx
 refine in_w1 w i a n c bG.valid (Ps.rG bG.valid i) (aV (gF bG.valid i n)) (Ps.ig bG.valid i [] i.links) rfl (λh0=>?_) (Lib.hid hn) (Lib.hid hc) (Lib.hid rfl) (Lib.hid λh=>zX hl h) hx (jy env hb 0 (by omega)) (jy env hb 1 (by omega)) (jy env hb 2 (by omega))
 have h8:=sJ _ (by unfold gF;simp) h0 (decide (8<(n:Int)),8) (by unfold gF;simp)
 simp at h8
 omega
theorem Ih {m:Int}{kb ko kc:Nat}{w:World}(env:iU m kb ko kc w)(s:ByteArray)(hs:s.size<=9223372036854775807):
 Calls Tryz.prog 16 #[.string s] w λe W'=>∃rv o x,e=.returned (.tuple #[rv,.int .i64 o,.int .i64 x])/\mQ w (Ps.parse bG psR s) rv o x W':=
 MV env (Kk env.id (Q9 env.id)) s hs
def Ii (W:World)(s:ByteArray)(Q:Ps.Req)(o x:Int):Prop:=Calls Tryz.prog 16 #[.string s] W λe W'=>∃a n c,e=.returned (.tuple #[.agg (aA Q (.slice a n c)),.int .i64 o,.int .i64 x])/\bq W' W.heap.size (.slice a n c) Q.ins.links/\Below W.heap.size W W'
theorem Ej {m:Int}{kb ko kc:Nat}{w:World}(env:iU m kb ko kc w)(s:ByteArray)(hs:s.size<=9223372036854775807)(W:World)(hW:Below w.heap.size w W):Ii W s (Ps.parse bG psR s).1 (Ps.parse bG psR s).2.1 (Ps.parse bG psR s).2.2:=by
 refine(Ih (env.below hW) s hs).mono ?_
 rintro e W' ⟨rv,o,x,rfl,⟨lv,rfl,hl⟩,rfl,rfl,hb⟩
 obtain⟨a,c,rfl⟩:=hl.slice
 exact⟨a,_,c,rfl,hl,hb⟩
def Pp:Array Value:=#[Value.int IntKind.i64 0,Value.string {data:=#[]},Value.string {data:=#[]},Value.string {data:=#[]},Value.int IntKind.i64 0,Value.string {data:=#[]},Value.string {data:=#[]},Value.int IntKind.i64 0,Value.string {data:=#[]},Value.int IntKind.i64 0,Value.int IntKind.i64 0,Value.int IntKind.i64 0,Value.int IntKind.i64 0,Value.int IntKind.i64 0,Value.bool false,Value.int IntKind.i64 0,Value.bool false,Value.bool false,Value.slice none 0 0,Value.bool false,Value.bool false,Value.bool false,Value.bool false,Value.int IntKind.i64 0,Value.int IntKind.i64 0,Value.int IntKind.i64 0,Value.bool false,Value.int IntKind.i64 0]
theorem zA (w:World)(Q:Ps.Req)(a:Option Addr)(n c:Nat):Sem.run Tryz.prog (storeCells ⟨w.heap.size,0,none⟩ (aA Q (.slice a n c)).toList) (w.alloc (.cells #[Value.int IntKind.i64 0,Value.string {data:=#[]},Value.string {data:=#[]},Value.string {data:=#[]},Value.int IntKind.i64 0,Value.string {data:=#[]},Value.string {data:=#[]},Value.int IntKind.i64 0,Value.string {data:=#[]},Value.int IntKind.i64 0,Value.int IntKind.i64 0,Value.int IntKind.i64 0,Value.int IntKind.i64 0,Value.int IntKind.i64 0,Value.bool false,Value.int IntKind.i64 0,Value.bool false,Value.bool false,Value.slice none 0 0,Value.bool false,Value.bool false,Value.bool false,Value.bool false,Value.int IntKind.i64 0,Value.int IntKind.i64 0,Value.int IntKind.i64 0,Value.bool false,Value.int IntKind.i64 0] 37))=.ok () (w.alloc (.cells (aA Q (.slice a n c)) 37)):=
 run_storeCells_new w 37 Pp _ (by kernel_rfl) rfl (dI Q a n c)
theorem zN (i:Ps.Ins)(a:Option Addr)(n c:Nat):(aB i (.slice a n c)).toArray.all (·.oneCell')=true:=by
 rw[<-Array.all_toList]
 simp[aB,Value.oneCell']
open Go.Proofs.YtnjjeapcalkmaaaGreatDoor.Ev (AV Mem Fr om bE iL)
theorem Hd (w:World)(ka kb:Option Addr)(n c d:Nat)(ks:List Ps.Link)(hn:n=ks.length)(hl:n<=1000)(_hc:n<=c)(_hd:n<=d)(h1:Hid (0<n->∃sb,ka=some ⟨sb,0,none⟩/\jq w sb ks))(h2:Hid (0<n->∃sb,kb=some ⟨sb,0,none⟩/\jq w sb ks)):
 Calls Tryz.prog 83 #[.slice ka n c,.slice kb n d] w λe w'=>e=.returned (.bool true)/\Below w.heap.size w w':=by
 have HN:=Lib.hid hn
 clear hn
 go_enter Tryz.func83,Tryz.ntmps83
 go_wp2_with fail
 go_loopw [5,13] (λ_ iv wr=>∃k:Nat,iv=.int .i64 k/\k<=n/\∃q,wr=w.drewN q) (λ_ iv _=>2000-(RowKit.intOf iv).toNat)
 case atStart=>exact⟨0,rfl,Nat.zero_le _,0,rfl⟩
 case round=>
  obtain⟨k,rfl,hk,q,rfl⟩:=hrel
  by_cases hlt:k<n
  ·obtain⟨sb,rfl,r1⟩:=h1.out (by omega)
   obtain⟨tb,rfl,r2⟩:=h2.out (by omega)
   have hkl:k<ks.length:=by rw[<-HN.out];exact hlt
   obtain⟨x,hx⟩:∃x,ks[k]? =some x:=⟨_,List.getElem?_eq_getElem hkl⟩
   obtain⟨y0',y1'⟩:=r1 k x hx
   obtain⟨z0',z1'⟩:=r2 k x hx
   obtain⟨wq,hwq⟩:∃wq,wq=w.drewN q:=⟨_,rfl⟩
   have y0:wq.cell? ⟨sb,k*2,none⟩=some (.int .i64 x.type):=by rw[hwq];exact y0'
   have y1:wq.cell? ⟨sb,k*2+1,none⟩=some (.string x.ref):=by rw[hwq];exact y1'
   have z0:wq.cell? ⟨tb,k*2,none⟩=some (.int .i64 x.type):=by rw[hwq];exact z0'
   have z1:wq.cell? ⟨tb,k*2+1,none⟩=some (.string x.ref):=by rw[hwq];exact z1'
   rw[<-hwq]
   have HWQ:=Lib.hid hwq
   clear y0' y1' z0' z1' hwq
   have jI:(k:Int)<(n:Int):=by omega
   have hw1:wrap64 ((k:Int)+1)=((k+1:Nat):Int):=by unfold wrap64;omega
   clear r1 r2 hx h1 h2 hkl HN
   go_wp2_with fail
   go_quiet (fail)
   go_wp2_with fail
   refine⟨⟨k+1,by first|rfl|go_num,hlt,?_⟩,by simp[RowKit.intOf]<;>omega⟩
   rw[HWQ.out]
   first|exact⟨_,rfl⟩|exact⟨_,World.drewN_drewN _ _ _⟩
  ·have jI:¬(k:Int)<(n:Int):=by omega
   clear h1 h2 HN
   go_wp2_with fail
   go_ret
   exact⟨rfl,below_drewN' (Below.refl _ _) _⟩
theorem FZ (i:Ps.Ins):oU i i true=true:=by
 unfold oU
 simp
def oW (a b:Ps.Amd):Bool:=(a.hasAmount==b.hasAmount)&&(a.hasSettleDay==b.hasSettleDay)&&(a.hasPriority==b.hasPriority)&&(a.hasPartial==b.hasPartial)&&(a.amount==b.amount)&&(a.settleDay==b.settleDay)&&(a.priority==b.priority)&&(a.partial_==b.partial_)&&(a.minLot==b.minLot)
theorem eq_amd (a b:Ps.Amd)(x y:Operand)(w:World):(do eqGuard .eql 35 x y (.agg (aH a).toArray) (.agg (aH b).toArray);binOp .eql 35 (.agg (aH a).toArray) (.agg (aH b).toArray):Sem Value).run Tryz.prog w=.ok (.bool (oW a b)) w:=by
 unfold aH
 go_simp
 repeat' split
 all_goals simp_all [oW]
def KL (eI:Bool)(f:FuncId)(vs:List AV):Option Value:=if f=35 then(match vs with|[.a 0 3 16,.a 1 3 16]=>some (.bool eI)|_=>none)else none
def Gr (A B:Ps.Amd)(o:Oper)(ov:Operand->Option AV):Option AV:=match o.op with
 | .binOp .eql t x y _=>if t=35 then(match ov x,ov y with
   |some (.a 0 19 9),some (.a 1 19 9)=>some (.v (.bool (oW A B)))
   |_,_=>none)else none
 |_=>none
def erM (g h:Nat)(Q P:Ps.Req)(la lb:Value)(eI:Bool):Mem Unit:=om lu [(some (g,0),tX Q la),(some (h,0),tX P lb)] (KL eI) (Gr Q.amd P.amd)
theorem OM (w:World)(Q P:Ps.Req)(sa ta:Option Addr)(sn sc tn tc:Nat)(eI:Bool)
 (n1:∀W,Below w.heap.size w W->Calls Tryz.prog 35 #[.agg (aB Q.ins (.slice sa sn sc)).toArray,.agg (aB P.ins (.slice ta tn tc)).toArray] W λe W'=>e=.returned (.bool eI)/\Below W.heap.size W W'):
 Calls Tryz.prog 20 #[.agg (aA Q (.slice sa sn sc)),.agg (aA P (.slice ta tn tc))] w λe w'=>e=.returned (.bool ((Q.op==P.op)&&(Q.sender.toList==P.sender.toList)&&(Q.ref.toList==P.ref.toList)&&eI&&oW Q.amd P.amd))/\Below w.heap.size w w':=by
 go_enter Tryz.func20,Tryz.ntmps20
 refine wp_seq ?_
 refine wp_region_lit ?_
 refine wpList_plain rfl (λK hK=>?_)
 go_simp
 refine hK _ _ ?_
 clear hK K
 refine wpList_plain rfl (λK hK=>?_)
 go_simp
 refine hK _ _ ?_
 clear hK K
 refine wpList_plain rfl (λK hK=>?_)
 go_simp
 refine hK _ _ ?_
 clear hK K
 refine av ?_
 obtain⟨Wa,hWa⟩:∃Wa,Wa=w.alloc (.cells (aA Q (.slice sa sn sc)) 37):=⟨_,rfl⟩
 obtain⟨W1,hW1⟩:∃W1,W1=Wa.alloc (.cells (aA P (.slice ta tn tc)) 37):=⟨_,rfl⟩
 obtain⟨g,hg⟩:∃g,g=w.heap.size:=⟨_,rfl⟩
 obtain⟨h,hh⟩:∃h,h=w.heap.size+1:=⟨_,rfl⟩
 have hha:h=Wa.heap.size:=by rw[hh,hWa];simp
 have Dr:Below Wa.heap.size Wa W1:=by rw[hW1];exact(Below.refl _ _).alloc (Nat.le_refl _) _
 have hrow:∀W,Below W1.heap.size W1 W->W.heap[g]? =some (.cells (tX Q (.slice sa sn sc)).toArray 37 (0,0)):=λW hW=>by
  rw[hW.block g (by rw[hW1,hWa,hg];simp;omega),Dr.block g (by rw[hWa,hg];simp),hWa,hg];exact aD w _
 have yO:∀W,Below W1.heap.size W1 W->W.heap[h]? =some (.cells (tX P (.slice ta tn tc)).toArray 37 (0,0)):=λW hW=>by
  rw[hW.block h (by rw[hha,hW1];simp),hW1,hha];exact aD Wa _
 have hB1:Below w.heap.size w W1:=((by rw[hWa];exact(Below.refl _ _).alloc (Nat.le_refl _) _:Below w.heap.size w Wa).trans (Dr.mono (by rw[hWa];simp)))
 try rw[show(w.alloc (.cells (aA Q (.slice sa sn sc)) 37)).heap.size=w.heap.size+1 from by simp]
 rw[<-hWa,<-hW1,<-hh,<-hg]
 rw[<-hg]at hh
 clear hW1 hWa hha Dr hh
 refine rO rfl λa ha hdf=>?_
 have hO:Ev.Ok Tryz.prog (λ(_:Unit) W=>Below W1.heap.size W1 W) (erM g h Q P (.slice sa sn sc) (.slice ta tn tc) eI):=by
  refine Ev.mX (λt f d h=>mq h) (λq b o l h W hS=>?_) (λf vs v h=>?_) (λo ov v h ρ hov W hS=>?_)
  ·rcases q with _|_|q
   ·cases h;exact gp hrow W hS
   ·cases h;exact gp yO W hS
   ·cases h
  ·unfold KL at h
   split at h
   ·rename_i hf
    subst hf
    split at h
    ·cases h
     exact⟨enters_of Tryz.func35 (by kernel_rfl) rfl,λW hS=>(n1 W (hB1.trans (hS.mono hB1.size))).mono λe w' q=>⟨q.1,hS.trans (q.2.mono hS.size)⟩⟩
    ·cases h
   ·cases h
  ·unfold Gr at h
   split at h
   ·rename_i t x y t2 ho
    split at h
    ·rename_i ht
     subst ht
     split at h
     ·rename_i h1 h2
      cases h
      have e1:ρ x=.agg (aH Q.amd).toArray:=hov _ _ h1
      have e2:ρ y=.agg (aH P.amd).toArray:=hov _ _ h2
      unfold execOp
      simp only[ho,e1,e2]
      rw[Sem.run_bind,eq_amd]
      rfl
     ·cases h
    ·cases h
   ·cases h
 refine Ev.Fp (M:=erM g h Q P (.slice sa sn sc) (.slice ta tn tc) eI) (S:=λ_ W=>Below W1.heap.size W1 W) (n:=38) (K:=[(2,.p 0 0),(3,.p 1 0)]) (s:=()) (v:=(Q.op==P.op)&&(Q.sender.toList==P.sender.toList)&&(Q.ref.toList==P.ref.toList)&&eI&&oW Q.amd P.amd) 4 hO (λ_ W h=>h.drew) (by kernel_rfl) (by kernel_rfl) (Ev.aG (Ev.aG (Ev.bD (by rw[ha];rfl) hdf) (by rw[ha];rfl)) (by rw[ha];rfl)) (Below.refl _ _) ?_
 intro b W s hd ht hS
 refine bodyPost_ret (results_tmp rfl _ _ _) hd ?_
 rw[hg]
 exact⟨by rw[show b.tmps.getD 4 undef=_ from eval_at ht],hB1.trans (hS.mono hB1.size)⟩
theorem eq_req (w:World)(Q:Ps.Req)(B B':Nat)(a b:Option Addr)(n c m d:Nat)(hl:Q.ins.links.length<=1000)(h1:bq w B (.slice a n c) Q.ins.links)(h2:bq w B' (.slice b m d) Q.ins.links):
 Calls Tryz.prog 20 #[.agg (aA Q (.slice a n c)),.agg (aA Q (.slice b m d))] w λe w'=>e=.returned (.bool true)/\Below w.heap.size w w':=by
 obtain⟨hn,hc⟩:=zW h1
 obtain⟨hm,hd⟩:=zW h2
 have key:=OM w Q Q a b n c m d true λW hW=>?_
 ·rw[show((Q.op==Q.op)&&(Q.sender.toList==Q.sender.toList)&&(Q.ref.toList==Q.ref.toList)&&true&&oW Q.amd Q.amd)=true from by simp[oW]]at key
  exact key
 have:=xw W Q.ins Q.ins a b n c m d true λw' hw'=>?_
 ·rw[FZ]at this
  exact this
 ·have hmn:m=n:=by rw[hm,hn]
  subst hmn
  have hW':=hW.trans (hw'.mono hW.size)
  refine Hd w' a b m c d Q.ins.links hn (by omega) hc hd (Lib.hid λhp=>?_) (Lib.hid λhp=>?_)
  ·obtain⟨sb,e,h⟩:=zX h1 hp
   exact⟨sb,e,h w' hW'⟩
  ·obtain⟨sb,e,h⟩:=zX h2 hp
   exact⟨sb,e,h w' hW'⟩
open Go Go.RowKit Go.Proofs.YtnjjeapcalkmaaaGreatDoor.Ord
open Go.Proofs.YtnjjeapcalkmaaaGreatDoor.Se
def qK:List ByteArray->ByteArray
 |[]=>⟨#[]⟩
 |t::ts=>⟨#[32]⟩++t++qK ts
def joinB:List ByteArray->ByteArray
 |[]=>⟨#[]⟩
 |t::ts=>t++qK ts
theorem vQ:∀ts:List ByteArray,qK ts=⟨(Lx.dF (ts.map λ(x:ByteArray)=>(([32]:List UInt8),x.data.toList)) []).toArray⟩
 |[]=>rfl
 |t::ts=>by
  show⟨#[32]⟩++t++qK ts=⟨([32]++(t.data.toList++Lx.dF (ts.map λ(x:ByteArray)=>(([32]:List UInt8),x.data.toList)) [])).toArray⟩
  rw[vQ ts]
  apply ByteArray.ext
  apply Array.toList_inj.1
  simp[ByteArray.data_append]
theorem Mi:∀ts:List ByteArray,Ps.dA ts=joinB ts
 |[]=>rfl
 |t::ts=>by
  show(⟨([]++(t.data.toList++Lx.dF (ts.map λ(x:ByteArray)=>(([32]:List UInt8),x.data.toList)) [])).toArray⟩:ByteArray)=t++qK ts
  rw[vQ ts]
  apply ByteArray.ext
  apply Array.toList_inj.1
  simp[ByteArray.data_append]
structure qD (Q:Ps.Req):Prop where
 ref:Q.ref.size<=40
 sender:Q.sender.size<=40
 iref:Q.ins.ref.size<=40
 isender:Q.ins.sender.size<=40
 icp:Q.ins.counterparty.size<=40
 iasset:Q.ins.asset.size<=40
theorem vV {Q:Ps.Req}(h:psR Q=0):qD Q:=by
 obtain⟨h1,h2,h3⟩:=Ps.mP _ _ h
 have n1:=(ek (by omega) h1).2
 have n2:=(ek (by omega) h2).2
 rcases h3 with⟨_,hi,_⟩|⟨_,_,he⟩|⟨_,he⟩
 ·have i1:=(ek (by omega) hi.ref).2
  have i2:=(ek (by omega) hi.sender).2
  refine⟨by omega,by omega,by omega,by omega,?_,?_⟩
  ·by_cases hk:Q.ins.kind=3\/Q.ins.kind=4
   ·rw[hi.cpN hk];decide
   ·have:=(ek (by omega) (hi.cpY hk)).2;omega
  ·by_cases hk:Q.ins.kind=0
   ·rw[hi.asset0 hk];decide
   ·have:=(ek (by omega) (hi.asset hk)).2;omega
 ·rw[he];exact⟨by show Q.ref.size<=40;omega,by show Q.sender.size<=40;omega,Nat.zero_le _,Nat.zero_le _,Nat.zero_le _,Nat.zero_le _⟩
 ·rw[he];exact⟨by show Q.ref.size<=40;omega,by show Q.sender.size<=40;omega,Nat.zero_le _,Nat.zero_le _,Nat.zero_le _,Nat.zero_le _⟩
theorem mO {i:Ps.Ins}{lv:Value}(hl:∀x,lv≠.string x)(h1:i.ref.size<=40)(h2:i.sender.size<=40)(h3:i.counterparty.size<=40)(h4:i.asset.size<=40):∀x,Value.string x∈aB i lv->x.size<=40:=λx hx=>by
 unfold aB at hx
 simp at hx
 rcases hx with rfl|rfl|rfl|rfl|h
 ·exact h1
 ·exact h2
 ·exact h3
 ·exact h4
 ·exact absurd h.symm (hl x)
theorem GN {a:Ps.Amd}:∀x,Value.string x∈aH a->x.size<=40:=λx hx=>by
 unfold aH at hx
 simp at hx
theorem uB {Q:Ps.Req}{lv:Value}(hl:∀x,lv≠.string x)(h:qD Q):∀x,Value.string x∈tX Q lv->x.size<=40:=λx hx=>by
 unfold tX at hx
 rcases List.mem_append.1 hx with hx|hx
 ·rcases List.mem_append.1 hx with hx|hx
  ·simp at hx
   rcases hx with rfl|rfl
   ·exact h.sender
   ·exact h.ref
  ·exact mO hl h.iref h.isender h.icp h.iasset x hx
 ·exact GN x hx
def RowsIn (W:World)(B b:Nat)(fix:List Nat):List (Option (Nat×Nat)×List Value)->Prop
 |[]=>True
 |(none,_)::rs=>RowsIn W B b fix rs
 |(some (g,o),l)::rs=>(o=0/\(g<B\/g∈fix)/\(∃t,W.heap[g]? =some (.cells l.toArray t (0,0)))/\∀x,Value.string x∈l->x.size<=b)/\RowsIn W B b fix rs
theorem gq {W:World}{B b:Nat}{fix:List Nat}:∀{rows:List (Option (Nat×Nat)×List Value)},RowsIn W B b fix rows->∀(k g o:Nat) (l:List Value),rows[k]? =some (some (g,o),l)->o=0/\(g<B\/g∈fix)/\(∃t,W.heap[g]? =some (.cells l.toArray t (0,0)))/\∀x,Value.string x∈l->x.size<=b
 |[],_,k,g,o,l,h=>by simp at h
 |(none,l0)::rs,hr,k,g,o,l,h=>by
  cases k with
  |zero=>simp at h
  |succ k=>exact gq (rows:=rs) hr k g o l (by simpa using h)
 |(some (g0,o0),l0)::rs,hr,k,g,o,l,h=>by
  cases k with
  |zero=>
   simp at h
   obtain⟨⟨rfl,rfl⟩,rfl⟩:=h
   exact hr.1
  |succ k=>exact gq (rows:=rs) hr.2 k g o l (by simpa using h)
def Mo:Array Value:=#[Value.string {data:=#[]},Value.int IntKind.i64 0,Value.string {data:=#[]},Value.string {data:=#[]},Value.int IntKind.i64 0,Value.string {data:=#[]},Value.int IntKind.i64 0,Value.int IntKind.i64 0,Value.int IntKind.i64 0,Value.int IntKind.i64 0,Value.int IntKind.i64 0,Value.bool false,Value.int IntKind.i64 0,Value.bool false,Value.bool false,Value.slice none 0 0]
def ME:Array Value:=#[Value.bool false,Value.bool false,Value.bool false,Value.bool false,Value.int IntKind.i64 0,Value.int IntKind.i64 0,Value.int IntKind.i64 0,Value.bool false,Value.int IntKind.i64 0]
theorem eD {P:Program}{ops:Array Oper}{Q:Exit->Act->World->Prop}{rest:List Oper}{o:Oper}{a:Act}{w w':World}{u:Value}{d:Nat}(hg:o.guard=none)(hd:o.dst=some d)(hr:(execOp a.eval o).run P w=.ok (.value u) w')(h:wpList P ops Q rest ⟨a.tmps.setIfInBounds d u,a.defers⟩ w'):wpList P ops Q (o::rest) a w:=by
 refine wpList_plain hg λK hK=>?_
 unfold Oper.wp
 rw[hr]
 refine hK _ _ ?_
 rw[hd]
 exact h
def lnRows (g:Nat)(Q:Ps.Req)(lv:Value):List (Option (Nat×Nat)×List Value):=[(some (g,0),tX Q lv),(some (g+1,0),aB Q.ins lv)]
structure LnW (w W:World)(g:Nat)(Q:Ps.Req)(lv:Value):Prop where
 hb:Below w.heap.size w W
 hg:w.heap.size=g
 sz:g+2<=W.heap.size
 r0:W.heap[g]? =some (.cells (tX Q lv).toArray 28 (0,0))
 r1:W.heap[g+1]? =some (.cells (aB Q.ins lv).toArray 24 (0,0))
theorem LnW.rows {w W:World}{g:Nat}{Q:Ps.Req}{a:Option Addr}{n c:Nat}(h:LnW w W g Q (.slice a n c))(hs:qD Q):RowsIn W W.heap.size 40 [] (lnRows g Q (.slice a n c)):=
 ⟨⟨rfl,.inl (by have:=h.sz;omega),⟨_,h.r0⟩,uB (λx e=>by cases e) hs⟩,⟨rfl,.inl (by have:=h.sz;omega),⟨_,h.r1⟩,mO (λx e=>by cases e) hs.iref hs.isender hs.icp hs.iasset⟩,trivial⟩
theorem st40 {x:ByteArray}(h:x.size<=40):st (40,x)=x:=eX h
open Go Go.RowKit
theorem tY {P:Program}{fn:Func}{p u:Tmp}{ty:TypeId}(h:fn.results=#[.cell p ty,.tmp u])(tmps:Array Value)(w:World)(g:Nat)(t:TypeId)(cs:Array Value)(fr:Nat×Nat)(d:TypeDesc)
 (hp:tmps.getD p undef=.pointer (some ⟨g,0,none⟩)) (hg:w.heap[g]? =some (.cells cs t fr))
 (hu:P.underlying ty=some d) (hd:(match d with| .struct _| .array _ _=>true|_=>false)=true) (hi:(P.info? ty).map (·.size)=some cs.size):
 (results fn tmps).run P w=.ok (.tuple #[.agg cs,tmps.getD u undef]) w:=by
 have hp':tmps[p]?.getD undef=.pointer (some ⟨g,0,none⟩):=by simpa using hp
 simp[results,h,hp',asAddr,run_loadVar_row w g t ty cs fr d hg hu hd hi]
abbrev jf (y m d:Int):Array Value:=#[.int .i64 y,.int .i64 m,.int .i64 d]
theorem Nl (W:World)(g:Nat)(a b c:Int){o:Oper}{x y:Operand}{ρ:Operand->Value}{cur:Array Value}(h:W.heap[g]? =some (.cells cur 251 (0,0)))(ho:o.op=.store 251 x y)(hx:ρ x=.pointer (some ⟨g,0,none⟩))(hy:ρ y=.agg (jf a b c))(hc:cur.size=3):(execOp ρ o).run Tryz.prog W=.ok .skip (W.setRow g (jf a b c)):=by
 unfold execOp
 simp only[ho,hx,hy,Instr.storeAt,Instr.sureAddr,Sem.run_bind,Sem.run_pure,Result.andThen_ok,run_storeVar_row (P:=Tryz.prog) W g 251 251 cur (jf a b c) h (by kernel_rfl) (by rw[hc];rfl) (by simp[jf,Value.oneCell'])]
theorem Li (n:Int)(h0:0<=n)(hn:n<=73048):Ps.aW (n/366)<=n/\n/366<=199:=by
 unfold Ps.aW
 omega
theorem Kh (n:Int)(h0:0<=n)(hn:n<=73048)(w:World):Calls Tryz.prog 260 #[.int .i64 n] w λe w'=>e=.returned (.bool true)/\w=w':=by
 go_enter Tryz.func260,Tryz.ntmps260
 go_wp2_with fail
 go_ret
 exact⟨rfl,rfl⟩
theorem Df (n0:Int)(h0:0<=n0)(hn:n0<=73048)(w:World):Calls Tryz.prog 240 #[.int .i64 n0] w λe w'=>∃y m d:Nat,Ps.IsC n0 y m d/\e=.returned (.tuple #[.agg (jf y m d),.int .i64 0])/\Below w.heap.size w w':=by
 have nV:=Kh n0 h0 hn
 have y0:=Li n0 h0 hn
 have q1:IntKind.i64.wrap (n0.tdiv 366)=n0/366:=by rw[qR h0];exact ae (by omega)
 have q2:IntKind.i64.wrap (2000+n0/366)=2000+n0/366:=ae (by omega)
 have HN:=Lib.hid (And.intro h0 hn)
 obtain⟨p0,hp0⟩:∃p0:Int,p0=n0/366:=⟨_,rfl⟩
 rw[<-hp0]at q1 q2 y0
 have HP0:Hid (Ps.aW p0<=n0/\0<=p0/\p0<=199):=Lib.hid ⟨y0.1,by omega,y0.2⟩
 clear hp0 y0 h0 hn
 go_enter Tryz.func240,Tryz.ntmps240
 go_upto_block 0 with(go_at_call 260;refine(nV _).mono ?_;rintro x w1 ⟨rfl,rfl⟩)
 obtain⟨q,hq⟩:∃q,q=w.heap.size:=⟨_,rfl⟩
 generalize hW0:World.alloc _ _=W0
 have hr:W0.heap[q]? =some (.cells (jf 0 0 0) 251 (0,0)):=by rw[<-hW0,hq];exact aD w _
 have HB0:Hid (Below q w W0):=Lib.hid (by rw[<-hW0,hq];exact(Below.refl _ _).alloc (Nat.le_refl _) _)
 rw[<-hq]
 have HR:=Lib.hid hr
 have HQ:=Lib.hid hq
 clear hr hq hW0
 refine wp_block ?_
 go_loopw [4] (λyv wr=>∃k:Nat,yv=.int .i64 (2000+(k:Int))/\k<=199/\Hid (Ps.aW k<=n0)/\wr=W0) (λyv _=>3000-(RowKit.intOf yv).toNat)
 case atStart=>
  obtain⟨e1,e2,e3⟩:=HP0.out
  exact⟨p0.toNat,by rw[show((p0.toNat:Nat):Int)=p0 from by omega],by omega,Lib.hid (by rw[show((p0.toNat:Nat):Int)=p0 from by omega];exact e1),rfl⟩
 case round=>
  obtain⟨k,rfl,hk,HK,rfl⟩:=hrel
  obtain⟨Y,hY⟩:∃Y:Int,Y=2000+(k:Int):=⟨_,rfl⟩
  rw[<-hY]
  have hyb:2000<=Y/\Y<=2199:=by omega
  have m1:=kG wr (Y+1) (by omega) (by omega)
  have m2:=kG wr Y (by omega) (by omega)
  have q3:IntKind.i64.wrap (Y+1)=Y+1:=ae (by omega)
  obtain⟨S1,hS1⟩:∃S1:Int,S1=Gh (Y+1-2000):=⟨_,rfl⟩
  obtain⟨S0,hS0⟩:∃S0:Int,S0=Gh (Y-2000):=⟨_,rfl⟩
  rw[<-hS1]at m1
  rw[<-hS0]at m2
  have HS1:Hid (S1=Ps.aW ((k:Int)+1)):=Lib.hid (by rw[hS1,show Y+1-2000=(k:Int)+1 from by omega];rfl)
  have HS0:Hid (S0=Ps.aW (k:Int)):=Lib.hid (by rw[hS0,show Y-2000=(k:Int)from by omega];rfl)
  have HY:=Lib.hid hY
  have HKK:=Lib.hid hk
  clear hY hS1 hS0 hyb hk
  by_cases hlt:S1<=n0
  ·have FIN:Hid (∃k2:Nat,Value.int .i64 (Y+1)=.int .i64 (2000+(k2:Int))/\k2<=199/\Hid (Ps.aW k2<=n0)/\wr=wr):=Lib.hid (by
    have e1:=HS1.out
    have e2:=HY.out
    have e3:=HKK.out
    have e4:=HN.out
    refine⟨k+1,by rw[e2,Int.natCast_add_one,Int.add_assoc],?_,Lib.hid (by rw[Int.natCast_add_one];omega),rfl⟩
    rcases Nat.lt_or_ge k 199 with h|h
    ·omega
    ·have hk9:k=199:=by omega
     subst hk9
     have:Ps.aW (((199:Nat):Int)+1)=73049:=by decide
     omega)
   have HM:Hid (Y<=2199):=Lib.hid (by have e2:=HY.out;have e3:=HKK.out;omega)
   clear m2
   go_wp2_with (go_at_call 261;refine m1.mono ?_;rintro x w1 ⟨rfl,rfl⟩)
   go_roundw
   case rel=>exact FIN.out
   case measure=>have:=HM.out;have:=HY.out;simp[RowKit.intOf];omega
  ·have HL:Hid (¬S1<=n0):=Lib.hid hlt
   obtain⟨R0,hR0⟩:∃R0:Int,R0=n0-S0:=⟨_,rfl⟩
   have HF:Hid (0<=R0/\R0<=366/\R0=n0-Ps.aW k):=Lib.hid (by
    have e1:=HS1.out
    have e2:=HS0.out
    have e3:=HK.out
    have e4:=HL.out
    have e5:=Ps.wW (k:Int) (by omega)
    omega)
   have q4:IntKind.i64.wrap (n0-S0)=R0:=by rw[hR0];exact ae (by have:=HN.out;have:=HF.out;omega)
   clear hR0 q1 q2 nV
   go_upto_block 2 with(go_at_call 261;first|(with_reducible refine m1.mono ?_;rintro x w1 ⟨rfl,rfl⟩)|(with_reducible refine m2.mono ?_;rintro x w1 ⟨rfl,rfl⟩))
   clear m1 m2 hlt q4
   refine wp_block ?_
   go_loopw [5,6] (λrv mv wr2=>∃j:Nat,∃n':Int,rv=.int .i64 n'/\mv=.int .i64 ((j:Int)+1)/\j<=11/\Hid (R0=n'+Ps.ak Y j)/\0<=n'/\n'<=366/\Hid (wr2.heap[q]? =some (.cells (jf 0 0 0) 251 (0,0)))/\Hid (Below q w wr2)) (λrv _ _=>(RowKit.intOf rv).toNat)
   case atStart=>exact⟨0,R0,rfl,rfl,by omega,Lib.hid (by simp[Ps.ak]),HF.out.1,HF.out.2.1,HR,HB0⟩
   case round=>
    obtain⟨j,n',rfl,rfl,hj,HM,hm0,hm1,HR2,HB2⟩:=hrel
    obtain⟨m,hm⟩:∃m:Int,m=(j:Int)+1:=⟨_,rfl⟩
    rw[<-hm]
    have n2:=λw=>zu w Y m
    have KF:=Ps.og Y m
    obtain⟨dd,hdd⟩:∃dd:Int,dd=Ps.dim Y m:=⟨_,rfl⟩
    rw[<-hdd]at n2 KF
    have DD:=Lib.hid hm
    have Nc:=Lib.hid hdd
    clear hdd
    have KC:Hid (Ps.ak Y 12=Ps.aW ((k:Int)+1)-Ps.aW k):=Lib.hid (by
     have e1:=Ps.iP k (by have:=HKK.out;omega)
     rw[<-HY.out]at e1
     exact e1)
    by_cases hlt2:dd<=n'
    ·have q5:IntKind.i64.wrap (n'-dd)=n'-dd:=ae (by omega)
     have q6:IntKind.i64.wrap (m+1)=m+1:=ae (by omega)
     have FIN:Hid (∀wr3:World,wr3.heap[q]? =some (.cells (jf 0 0 0) 251 (0,0))->Below q w wr3->∃j':Nat,∃n2:Int,Value.int .i64 (n'-dd)=.int .i64 n2/\Value.int .i64 (m+1)=.int .i64 ((j':Int)+1)/\j'<=11/\Hid (R0=n2+Ps.ak Y j')/\0<=n2/\n2<=366/\Hid (wr3.heap[q]? =some (.cells (jf 0 0 0) 251 (0,0)))/\Hid (Below q w wr3)):=Lib.hid (λwr3 x1 x2=>by
      have e1:=HM.out
      have e2:Ps.ak Y (j+1)=Ps.ak Y j+Ps.dim Y ((j:Int)+1):=rfl
      rw[<-DD.out,<-Nc.out]at e2
      have e3:=KC.out
      have e4:=HF.out
      have e5:=HS1.out
      have e6:=HL.out
      have hj2:j+1<=11:=by
       rcases Nat.lt_or_ge j 11 with h|h
       ·omega
       ·have hj9:j=11:=by omega
        subst hj9
        have:Ps.ak Y (11+1)=Ps.ak Y 12:=rfl
        omega
      refine⟨j+1,n'-dd,rfl,by rw[DD.out,Int.natCast_add_one],hj2,Lib.hid (by omega),by omega,by omega,Lib.hid x1,Lib.hid x2⟩)
     have hpos:Hid (0<dd):=Lib.hid (by
      have e1:=Nc.out
      have hYb:=HY.out
      have hkb:=HKK.out
      have e3:=DD.out
      unfold Ps.dim at e1
      rw[if_neg (by omega)]at e1
      split at e1
      ·split at e1<;>omega
      ·split at e1<;>omega)
     have HW:Hid (∀wa wb:World,wa.heap[q]? =some (.cells (jf 0 0 0) 251 (0,0))/\Below q w wa->Below wa.heap.size wa wb->wb.heap[q]? =some (.cells (jf 0 0 0) 251 (0,0))/\Below q w wb):=Lib.hid (λwa wb h1 h2=>⟨(h2.block q (Array.getElem?_eq_some_iff.1 h1.1).1).trans h1.1,h1.2.trans (h2.mono (Nat.le_of_lt (Array.getElem?_eq_some_iff.1 h1.1).1))⟩)
     have HX0:Hid (wr.heap[q]? =some (.cells (jf 0 0 0) 251 (0,0))/\Below q w wr):=Lib.hid ⟨HR2.out,HB2.out⟩
     clear hm KC HR2 HB2 KF
     go_wp2_with fail
     refine(n2 _).mono ?_
     rintro x w1 ⟨rfl,hb1⟩
     have Nr:=Lib.hid (HW.out _ _ HX0.out hb1)
     clear hb1
     go_wp2_with fail
     refine(n2 _).mono ?_
     rintro x w2 ⟨rfl,hb2⟩
     have HX2:=Lib.hid (HW.out _ _ Nr.out hb2)
     clear hb2
     go_wp2_with fail
     go_roundw
     case rel=>exact FIN.out _ HX2.out.1 HX2.out.2
     case measure=>have:=hpos.out;simp[RowKit.intOf];omega
    ·have q6:IntKind.i64.wrap (n'+1)=n'+1:=ae (by omega)
     have HC:Hid (∃d:Nat,Ps.IsC n0 (2000+k) (j+1) d/\(d:Int)=n'+1):=Lib.hid (by
      have e5:=HM.out
      have e6:Ps.ak Y (j+1)=Ps.ak Y j+Ps.dim Y ((j:Int)+1):=rfl
      rw[<-DD.out,<-Nc.out]at e6
      have eY:Y=((2000+k:Nat):Int):=by rw[HY.out];omega
      have e1:=HF.out
      have e2:=HS1.out
      have e3:=HL.out
      have e4:=HN.out
      have e7:=HK.out
      rw[eY]at e5 e6
      obtain⟨_,_,hc⟩:=Ps.IsC.of (n:=n0) (p:=k) (q:=j) e4.1 e4.2 (by omega) (by omega) (by omega) (by omega)
      exact⟨_,hc,by omega⟩)
     clear KC hm KF
     go_wp2_with fail
     refine(n2 _).mono ?_
     rintro x w1 ⟨rfl,hb1⟩
     have HR3:Hid (w1.heap[q]? =some (.cells (jf 0 0 0) 251 (0,0))):=Lib.hid ((hb1.block q (Array.getElem?_eq_some_iff.1 HR2.out).1).trans HR2.out)
     have HB3:Hid (Below q w w1):=Lib.hid (HB2.out.trans (hb1.mono (Nat.le_of_lt (Array.getElem?_eq_some_iff.1 HR2.out).1)))
     clear hb1 HR2 HB2 n2
     go_upto_region 11 with fail
     refine wp_region_lit ?_
     refine eD (w':=w1) (u:=.int .i64 Y) rfl rfl rfl ?_
     refine eD (w':=w1) (u:=.int .i64 m) rfl rfl rfl ?_
     refine eD (w':=w1) (u:=.int .i64 n') rfl rfl rfl ?_
     refine eD (w':=w1) (u:=.int .i64 (n'+1)) rfl rfl (by go_simp) ?_
     refine eD (w':=w1) (u:=.agg (jf Y m (n'+1))) rfl rfl (by go_simp) ?_
     refine uz (w':=w1.setRow q (jf Y m (n'+1))) rfl rfl (Nl w1 q Y m (n'+1) HR3.out rfl rfl rfl rfl) ?_
     refine eD (w':=w1.setRow q (jf Y m (n'+1))) (u:=.int .i64 0) rfl rfl rfl ?_
     refine av ?_
     have KP:(w1.setRow q (jf Y m (n'+1))).heap[q]? =some (.cells (jf Y m (n'+1)) 251 (0,0)):=setRow_heap w1 q _ _ _ _ HR3.out
     have DN:Hid (Below q w (w1.setRow q (jf Y m (n'+1)))):=Lib.hid (by
      have hb:=HB3.out
      exact⟨hb.os,hb.tape,hb.output,by rw[setRow_size];exact hb.size,λg hg=>(setRow_other w1 q g _ (by omega)).trans (hb.block g hg)⟩)
     generalize w1.setRow q _=W6 at KP DN⊢
     obtain⟨d,hd1,hd2⟩:=HC.out
     have Q6:Y=((2000+k:Nat):Int):=by rw[HY.out];omega
     have hmm:m=((j+1:Nat):Int):=by rw[DD.out];omega
     have NF:Hid (Ps.IsC n0 (2000+k) (j+1) d/\Y=((2000+k:Nat):Int)/\m=((j+1:Nat):Int)/\(d:Int)=n'+1):=Lib.hid ⟨hd1,Q6,hmm,hd2⟩
     have Ns:=Lib.hid KP
     clear hd1 hd2 Q6 hmm KP
     go_wp2_with fail
     try simp only[Exit.then,Exit.inBlock]
     generalize hT:(Array.setIfInBounds _ 3 (Value.int .i64 0))=T
     have hT2:T.getD 2 undef=.pointer (some ⟨q,0,none⟩):=by rw[<-hT];simp
     have hT3:T.getD 3 undef=.int .i64 0:=by rw[<-hT];simp
     clear hT
     refine bodyPost_ret (tY rfl T _ q _ _ (0,0) _ hT2 Ns.out Tryz.underlying251 rfl (by kernel_rfl)) rfl ?_
     obtain⟨f1,f2,f3,f4⟩:=NF.out
     refine⟨2000+k,j+1,d,f1,?_,by rw[<-HQ.out];exact DN.out⟩
     rw[<-f2,<-f3,f4,hT3]
abbrev Lc (B:Nat)(l:List UInt8)(v:Value)(w:World):Prop:=w.ownsRow B 5 1 v l.length (l.map λc=>Value.int .u8 (c.toNat:Int))
def xK (n k:Int)(ds:List UInt8):Prop:=∀(w:World) (B:Nat) (v:Value) (l:List UInt8),B<=w.heap.size->l.length<=100->Lc B l v w->Calls Tryz.prog 241 #[v,.int .i64 n,.int .i64 k] w λe w'=>∃z,e=.returned z/\Lc B (l++ds) z w'/\Below B w w'
theorem OB (n:Int)(c:UInt8)(h9:¬9<n)(q1:n.tmod 10=n)(q2:IntKind.i64.wrap (48+n)=48+n)(q3:IntKind.u8.wrap (48+n)=(c.toNat:Int)):xK n 1 [c]:=by
 intro w B v l hB hl hown
 obtain⟨i0,hi,hz0,hz1,hz2⟩:=info_parts gz
 have HC:=Lib.hid q3
 go_enter Tryz.func241,Tryz.ntmps241
 go_wp2_with (at_builtin;refine wpList_append_own _ rfl _ _ 135 rfl B 5 i0 (.int .u8 0) 1 1 Tryz.underlying135 hi hz0 hz1 hz2 rfl (by decide) _ _ _ rfl (hown.alloc _) ⟨w.heap.size,0,none⟩ 1 1 [.int .u8 (c.toNat:Int)] rfl rfl ?c1 ?c2 ?c3 ?c4 ?c5 ?_)
 case c2=>rfl
 case c3=>unfold maxLen;omega
 case c4=>omega
 case c5=>first|omega|(simp;omega)
 intro v' w2 hown2 hgrow _
 have hbel:Below B w w2:=((Below.refl B w).alloc hB (.cells #[.int .u8 (c.toNat:Int)] 5)).grown hgrow (by simp;omega) (λk hk=>(hown.lt k hk).1)
 have HO:Hid (Lc B (l++[c]) v' w2):=Lib.hid (by
  show w2.ownsRow B _ 1 v' (l++[c]).length ((l++[c]).map _)
  rw[List.map_append,List.length_append]
  exact hown2)
 have HB:=Lib.hid hbel
 clear hgrow hown2 hbel hown
 go_wp2
 go_ret
 exact⟨_,rfl,HO.out,HB.out⟩
theorem Pv (n m k k' d:Int)(ds:List UInt8)(c:UInt8)(h1:1<k)(q0:IntKind.i64.wrap (n.tdiv 10)=m)(qk:IntKind.i64.wrap (k-1)=k')(q1:n.tmod 10=d)(q2:IntKind.i64.wrap (48+d)=48+d)(q3:IntKind.u8.wrap (48+d)=(c.toNat:Int))(ih:xK m k' ds)(hds:ds.length<=50):xK n k (ds++[c]):=by
 intro w B v l hB hl hown
 obtain⟨i0,hi,hz0,hz1,hz2⟩:=info_parts gz
 have n1:=ih w B v l hB hl hown
 have HL:Hid (l.length<=100/\B<=w.heap.size):=Lib.hid ⟨hl,hB⟩
 clear ih hown
 go_enter Tryz.func241,Tryz.ntmps241
 go_wp2_with fail
 refine n1.mono ?_
 rintro e w1 ⟨z,rfl,hown,hb⟩
 have hB1:B<=w1.heap.size:=Nat.le_trans hB hb.size
 clear n1
 go_wp2_with (at_builtin;refine wpList_append_own _ rfl _ _ 135 rfl B 5 i0 (.int .u8 0) 1 1 Tryz.underlying135 hi hz0 hz1 hz2 rfl (by decide) _ _ _ rfl (hown.alloc _) ⟨w1.heap.size,0,none⟩ 1 1 [.int .u8 (c.toNat:Int)] rfl rfl ?c1 ?c2 ?c3 ?c4 ?c5 ?_)
 case c1=>
  intro j u hj
  match j,hj with
  |0,hj=>simp at hj;subst hj;simp[Addr.add]
  |j+1,hj=>simp at hj
 case c2=>intro u hu;simp at hu;subst hu;rfl
 case c3=>unfold maxLen;rw[List.length_append];omega
 case c4=>rw[List.length_append];omega
 case c5=>simp;omega
 intro v' w2 hown2 hgrow _
 have hbel:Below B w w2:=(hb.alloc hB1 (.cells #[.int .u8 (c.toNat:Int)] 5)).grown hgrow (by simp;omega) (λk hk=>(hown.lt k hk).1)
 have HO:Hid (Lc B (l++(ds++[c])) v' w2):=Lib.hid (by
  show w2.ownsRow B _ 1 v' (l++(ds++[c])).length ((l++(ds++[c])).map _)
  simpa[Nat.add_assoc]using hown2)
 have HB:=Lib.hid hbel
 clear hgrow hown2 hbel hown
 go_wp2
 go_ret
 exact⟨_,rfl,HO.out,HB.out⟩
theorem MI (d:Nat)(h:d<10):IntKind.u8.wrap (48+(d:Int))=((Ps.dgt d).toNat:Int):=by
 rw[Ps.dY d h]
 exact(IntWalk.u8_in _ (by omega)).trans (by omega)
theorem fd_one (n:Nat)(h:n<10):xK n 1 [Ps.dgt n]:=OB n _ (by omega) (by rw[Int.tmod_eq_emod_of_nonneg (by omega)];omega) (ae (by omega)) (MI n h)
theorem zg (n:Nat)(k:Nat)(ds:List UInt8)(hn:n<1000000)(hk:1<=k)(hk9:k<=9)(hds:ds.length<=50)(ih:xK ((n/10:Nat):Int) (k:Int) ds):xK n ((k+1:Nat):Int) (ds++[Ps.dgt (n%10)]):=
 Pv n ((n/10:Nat):Int) _ (k:Int) ((n%10:Nat):Int) ds _ (by omega) (by rw[qR (by omega)];exact(ae (by omega)).trans (by omega)) ((ae (by omega)).trans (by omega)) (by rw[Int.tmod_eq_emod_of_nonneg (by omega)];omega) (ae (by omega)) (MI _ (by omega)) ih hds
theorem EG (n:Nat)(h:n<100):xK n 2 [Ps.dgt (n/10%10),Ps.dgt (n%10)]:=by
 have:=zg n 1 [Ps.dgt (n/10)] (by omega) (by omega) (by omega) (by show(1:Nat)<=50;decide) (fd_one (n/10) (by omega))
 rw[show n/10%10=n/10 from by omega]
 exact this
theorem QM (n:Nat)(h:n<10000):xK n 4 [Ps.dgt (n/1000%10),Ps.dgt (n/100%10),Ps.dgt (n/10%10),Ps.dgt (n%10)]:=by
 have h2:=EG (n/100) (by omega)
 have h3:=zg (n/10) 2 [Ps.dgt (n/100/10%10),Ps.dgt (n/100%10)] (by omega) (by omega) (by omega) (by show(2:Nat)<=50;decide) (by rw[show n/10/10=n/100 from by omega];exact h2)
 have h4:=zg n 3 [Ps.dgt (n/100/10%10),Ps.dgt (n/100%10),Ps.dgt (n/10%10)] (by omega) (by omega) (by omega) (by show(3:Nat)<=50;decide) h3
 rw[show n/100/10%10=n/1000%10 from by omega]at h4
 exact h4
theorem GD {B:Nat}{l:List UInt8}{z v':Value}{w1 w2:World}(hown2:w2.ownsRow B 5 1 v' (l.length+1) ((l.map λc=>Value.int .u8 (c.toNat:Int))++[.int .u8 45])):Lc B (l++[45]) v' w2:=by
 show w2.ownsRow B _ 1 v' (l++[45]).length ((l++[45]).map _)
 rw[List.map_append,List.length_append]
 exact hown2
theorem JR (n:Int)(h0:0<=n)(hn:n<=Ps.bF)(w:World):Calls Tryz.prog 194 #[.int .i64 n] w λe w'=>e=.returned (.tuple #[.string (Ps.au n),.int .i64 0])/\Below w.heap.size w w':=by
 have n1:=Df n h0 hn w
 obtain⟨i0,hi,hz0,hz1,hz2⟩:=info_parts gz
 clear h0 hn
 go_enter Tryz.func194,Tryz.ntmps194
 go_upto_region 4 with(go_at_call 240;refine n1.mono ?_;rintro e w1 ⟨y,m,d,hc,rfl,hb⟩;unfold jf)
 have hc31:=hc.d31
 have HC:=Lib.hid hc
 obtain⟨g,hg⟩:∃g,g=w1.heap.size:=⟨_,rfl⟩
 generalize hW:World.alloc _ _=W
 have hrow:W.heap[g]? =some (.cells #[.int .i64 (y:Int),.int .i64 (m:Int),.int .i64 (d:Int)] 251 (0,0)):=by rw[<-hW,hg];exact aD w1 _
 have HB:Hid (Below w.heap.size w W):=Lib.hid (by rw[<-hW];exact hb.alloc hb.size _)
 have hgW:g<W.heap.size:=(Array.getElem?_eq_some_iff.1 hrow).1
 rw[<-hg]
 obtain⟨B,hBe⟩:∃B,B=W.heap.size:=⟨_,rfl⟩
 have HX:Hid (∀u:World,Below B W u->u.cell? ⟨g,0,none⟩=some (.int .i64 y)/\u.cell? ⟨g,1,none⟩=some (.int .i64 m)/\u.cell? ⟨g,2,none⟩=some (.int .i64 d)):=Lib.hid (λu hu=>by
  have h:=(hu.block g (by omega)).trans hrow
  refine⟨?_,?_,?_⟩<;>(rw[cell_of_row _ _ _ _ _ _ h];rfl))
 obtain⟨z0,-,-⟩:=HX.out W (Below.refl _ _)
 have hy:y<10000:=by have:=hc.2.1;omega
 have hm:m<100:=by have:=hc.2.2.2.1;omega
 have hd:d<100:=by omega
 obtain⟨L4,hL4⟩:∃L,L=[Ps.dgt (y/1000%10),Ps.dgt (y/100%10),Ps.dgt (y/10%10),Ps.dgt (y%10)]:=⟨_,rfl⟩
 obtain⟨M2,hM2⟩:∃L,L=[Ps.dgt (m/10%10),Ps.dgt (m%10)]:=⟨_,rfl⟩
 obtain⟨D2,hD2⟩:∃L,L=[Ps.dgt (d/10%10),Ps.dgt (d%10)]:=⟨_,rfl⟩
 have l4:L4.length=4:=by rw[hL4];rfl
 have l2:M2.length=2:=by rw[hM2];rfl
 have l3:D2.length=2:=by rw[hD2];rfl
 have m1:=QM y hy W B (.slice none 0 0) [] (by omega) (by decide) (World.ownsRow_nil _ _ _ _)
 rw[<-hL4,List.nil_append]at m1
 have HM2:Hid (xK (m:Int) 2 M2):=Lib.hid (by rw[hM2];exact EG m hm)
 have HM3:Hid (xK (d:Int) 2 D2):=Lib.hid (by rw[hD2];exact EG d hd)
 have QW:=Lib.hid hBe
 have HT:Hid (Ps.au n=⟨(L4++[45]++M2++[45]++D2).toArray⟩):=Lib.hid (by rw[Ps.qQ hc,hL4,hM2,hD2];rfl)
 have HL:Hid (L4.length=4/\M2.length=2/\D2.length=2):=Lib.hid ⟨l4,l2,l3⟩
 clear hW hg n1 hc hc31 hrow hgW hy hm hd hb hBe hL4 hM2 hD2 l4 l2 l3
 go_wp2_with fail
 refine m1.mono ?_
 rintro e w2 ⟨z,rfl,hown,hb2⟩
 have HB2:Hid (Below B W w2/\B<=w2.heap.size):=Lib.hid ⟨hb2,by rw[QW.out];rw[QW.out]at hb2;exact hb2.size⟩
 clear m1 z0 hb2
 go_wp2_with (at_builtin;refine wpList_append_own _ rfl _ _ 135 rfl B 5 i0 (.int .u8 0) 1 1 Tryz.underlying135 hi hz0 hz1 hz2 rfl (by decide) _ _ _ rfl (hown.alloc _) ⟨w2.heap.size,0,none⟩ 1 1 [.int .u8 45] rfl rfl ?c1 ?c2 ?c3 ?c4 ?c5 ?_)
 case c1=>
  intro j u hj
  match j,hj with
  |0,hj=>simp at hj;subst hj;simp[Addr.add]
  |j+1,hj=>simp at hj
 case c2=>intro u hu;simp at hu;subst hu;rfl
 case c3=>have:=HL.out;unfold maxLen;omega
 case c4=>have:=HL.out;omega
 case c5=>have:=HB2.out.2;simp;omega
 intro v3 w3 hown3 hgrow _
 have HB3:Hid (Below B W w3/\B<=w3.heap.size):=Lib.hid (by
  obtain⟨x1,x2⟩:=HB2.out
  have h:=(x1.alloc x2 (.cells #[.int .u8 45] 5)).grown hgrow (by simp;omega) (λk hk=>(hown.lt k hk).1)
  exact⟨h,by rw[QW.out];rw[QW.out]at h;exact h.size⟩)
 obtain⟨-,z1,-⟩:=HX.out w3 HB3.out.1
 have m2:=HM2.out w3 B v3 (L4++[45]) HB3.out.2 (by have:=HL.out;rw[List.length_append];show _+1<=_;omega) (GD (z:=z) (w1:=w2) hown3)
 clear hgrow hown3 hown
 go_wp2_with fail
 refine m2.mono ?_
 rintro e w4 ⟨z4,rfl,MU,hb4⟩
 have Gq:Hid (Below B W w4/\B<=w4.heap.size):=Lib.hid (by
  have h:=HB3.out.1.trans hb4
  exact⟨h,by rw[QW.out];rw[QW.out]at h;exact h.size⟩)
 clear m2 z1 hb4
 go_wp2_with (at_builtin;refine wpList_append_own _ rfl _ _ 135 rfl B 5 i0 (.int .u8 0) 1 1 Tryz.underlying135 hi hz0 hz1 hz2 rfl (by decide) _ _ _ rfl (MU.alloc _) ⟨w4.heap.size,0,none⟩ 1 1 [.int .u8 45] rfl rfl ?c1 ?c2 ?c3 ?c4 ?c5 ?_)
 case c1=>
  intro j u hj
  match j,hj with
  |0,hj=>simp at hj;subst hj;simp[Addr.add]
  |j+1,hj=>simp at hj
 case c2=>intro u hu;simp at hu;subst hu;rfl
 case c3=>have:=HL.out;unfold maxLen;simp only[List.length_append,List.length_singleton];omega
 case c4=>have:=HL.out;simp only[List.length_append,List.length_singleton];omega
 case c5=>have:=Gq.out.2;simp;omega
 intro v5 w5 hown5 hgrow _
 have JP:Hid (Below B W w5/\B<=w5.heap.size):=Lib.hid (by
  obtain⟨x1,x2⟩:=Gq.out
  have h:=(x1.alloc x2 (.cells #[.int .u8 45] 5)).grown hgrow (by simp;omega) (λk hk=>(MU.lt k hk).1)
  exact⟨h,by rw[QW.out];rw[QW.out]at h;exact h.size⟩)
 obtain⟨-,-,z2⟩:=HX.out w5 JP.out.1
 have hown5:w5.ownsRow B 5 1 v5 ((L4++[45]++M2).length+1) (((L4++[45]++M2).map λc:UInt8=>Value.int .u8 (c.toNat:Int))++[.int .u8 45]):=by simpa using hown5
 have m3:=HM3.out w5 B v5 (L4++[45]++M2++[45]) JP.out.2 (by have:=HL.out;simp only[List.length_append,List.length_singleton];omega) (GD (z:=z) (w1:=w2) hown5)
 clear hgrow hown5 MU
 go_wp2_with fail
 refine m3.mono ?_
 rintro e w6 ⟨z6,rfl,hown6,hb6⟩
 have DN:Hid (Below w.heap.size w w6):=Lib.hid (by
  have h:=JP.out.1.trans hb6
  rw[QW.out]at h
  exact HB.out.trans (h.mono HB.out.size))
 have HLL:Hid (0<(L4++[45]++M2++[45]++D2).length):=Lib.hid (by have:=HL.out;simp only[List.length_append,List.length_singleton];omega)
 generalize L4++[45]++M2++[45]++D2=LL at hown6 HT HLL⊢
 obtain⟨sb,cap,rfl,-,hcell⟩:=gK hown6 HLL.out
 have hcv:(convert 135 9 (.slice (some ⟨sb,0,none⟩) LL.length cap)).run Tryz.prog w6=.ok (.string ⟨LL.toArray⟩) w6:=by
  refine run_convert_bytes_back _ _ _ _ ⟨sb,0,none⟩ cap LL Tryz.underlying135 Tryz.underlying5 Tryz.underlying9 (λj hj=>?_)
  rw[show(⟨sb,0,none⟩:Addr).add j=⟨sb,j,none⟩from by unfold Addr.add;split<;>simp_all]
  refine hcell j _ ?_
  rw[List.getElem?_map,List.getElem?_eq_getElem hj]
  rfl
 clear hown6 hb6 m3 z2 hcell
 go_wp2_with fail
 go_ret2
 exact⟨by rw[HT.out];rfl,DN.out⟩
theorem fd_day (n:Int)(h0:0<=n)(hn:n<=Ps.bF)(w:World):Calls Tryz.prog 122 #[.int .i64 n] w λe w'=>e=.returned (.string (Ps.au n))/\Below w.heap.size w w':=by
 have n1:=JR n h0 hn w
 generalize Ps.au n=x at n1⊢
 clear h0 hn
 go_enter Tryz.func122,Tryz.ntmps122
 go_wp2_with fail
 refine n1.mono ?_
 rintro e w1 ⟨rfl,hb⟩
 clear n1
 go_wp2_with fail
 go_ret
 exact⟨rfl,hb⟩
end Go.Proofs.YtnjjeapcalkmaaaGreatDoor
namespace Go.Proofs.YtnjjeapcalkmaaaGreatDoor.Se
open Go Go.RowKit Go.Proofs.YtnjjeapcalkmaaaGreatDoor Go.Proofs.YtnjjeapcalkmaaaGreatDoor.Ord
def bC (B:Nat)(W:World)(cell:Nat->Nat->Value)(f:FuncId)(us:List PV)(r:Rv):Prop:=
 (∀args w,(callFunc f args).run Tryz.prog w=.ok (.enter f args) w)/\r.fits/\∀(vals:List Value) (w:World),Below B W w->wu cell us vals w->Calls Tryz.prog f vals.toArray w λe w'=>∃y,e=.returned y/\r.out y w w'/\Below w.heap.size w w'
def K9 (B:Nat)(W:World)(cell:Nat->Nat->Value)(res:FuncId->List PV->Option Rv)(f:FuncId)(us:List PV):Option (PV×Bool×Option Prop):=match res f us with
 |some r=>if us.all Cc=true then some (r.pv,false,some (bC B W cell f us r))else none
 |none=>none
theorem LG {M:Mem}(hM:Wf M){res:FuncId->List PV->Option Rv}(f:FuncId)(us:List PV)(u:PV)(c:Bool)(q:Option Prop)(h:K9 M.B M.W M.cell res f us=some (u,c,q))(hq:∀p,q=some p->p):
 (∀args w,(callFunc f args).run Tryz.prog w=.ok (.enter f args) w)/\∀(vals:List Value) w,Sw M w->jH M us vals w->Calls Tryz.prog f vals.toArray w λe w'=>∃v,e=.returned v/\Den M u v w'/\Sw M w'/\(c=false->Below w.heap.size w w'):=by
 unfold K9 at h
 split at h
 ·rename_i r hr
  split at h
  ·rename_i ha
   cases h
   obtain⟨h1,h2,h3⟩:=hq _ rfl
   refine⟨h1,λvals w hS hd=>(h3 vals w hS.to (pR ha hd)).mono ?_⟩
   rintro e w' ⟨y,rfl,ho,hb⟩
   have hB:M.B<=w.heap.size:=Nat.le_trans hM.B hS.size
   have hnew:∀{t:TypeId} {n:Nat} {xs:List Value},w'.ownsRow w.heap.size t 1 y n xs->∀g,y.ownBlock=some g->g∉M.fix:=λho g hg hf=>by
    rcases ho.2 with⟨hv,_⟩|⟨g',cap,cur,hv,hb',_⟩
    ·rw[hv]at hg;cases hg
    ·rw[hv]at hg
     have:g'=g:=by simpa[Value.ownBlock]using hg
     have:=hM.fix g hf
     have:=hS.size
     omega
   refine⟨y,rfl,?_,hS.below hM hb,λ_=>hb⟩
   cases r with
   |str n x=>
    show y=.string (st (n,x))
    rw[show st (n,x)=x from eX h2]
    exact ho
   |sls l=>
    have ho:w'.ownsRow w.heap.size 9 1 y l.length ((l.map st).map .string):=ho
    refine⟨?_,hnew ho⟩
    rw[List.length_map]
    exact dC ho hB
   |val x=>exact ho
   |bts l=>
    have ho:w'.ownsRow w.heap.size 5 1 y l.length (l.map λc=>.int .u8 (c.toNat:Int)):=ho
    exact⟨dC ho hB,hnew ho⟩
  ·cases h
 ·cases h
def seW (B:Nat)(W:World)(fix:List Nat)(b:Nat)(rows:List (Option (Nat×Nat)×List Value))(res:FuncId->List PV->Option Rv):Mem:=dm B W fix b rows (K9 B W (Ev.bE rows) res)
theorem EM {B:Nat}{W:World}{fix:List Nat}{b:Nat}{rows:List (Option (Nat×Nat)×List Value)}{res:FuncId->List PV->Option Rv}(hB:B<=W.heap.size)(hf:∀g∈fix,g<W.heap.size)
 (h2:∀(k g o:Nat) (l:List Value),rows[k]? =some (some (g,o),l)->(g<B\/g∈fix)/\∀w:World,w.heap[g]? =W.heap[g]?->∀(j:Nat) (v:Value),l[j]? =some v->w.cell? ⟨g,o+j,none⟩=some v)
 (hb:∀(k:Nat) (p:Nat×Nat) (l:List Value),rows[k]? =some (some p,l)->∀x,Value.string x∈l->x.size<=b):Ok Tryz.prog (seW B W fix b rows res):=
 ql hB hf h2 hb λf us u c q h hq=>LG (M:=seW B W fix b rows res) ⟨hB,hf⟩ f us u c q h hq
theorem FQ {B:Nat}{W:World}{cell:Nat->Nat->Value}{f:FuncId}{u:PV}{x y:Value}(he:∀args w,(callFunc f args).run Tryz.prog w=.ok (.enter f args) w)(hu:iY cell u=some x)(h:∀w,Below B W w->Calls Tryz.prog f #[x] w λe w'=>e=.returned y/\Below w.heap.size w w'):bC B W cell f [u] (.val y):=⟨he,trivial,λvals w hw hd=>by
 obtain⟨v,rfl,hv⟩:=Qb hd
 obtain rfl:=lG hu hv
 exact(h w hw).mono λe w' ⟨h1,h2⟩=>⟨_,h1,rfl,h2⟩⟩
theorem pV {B:Nat}{W:World}{cell:Nat->Nat->Value}{f:FuncId}{u:PV}{x:Value}{n:Nat}{b:ByteArray}(he:∀args w,(callFunc f args).run Tryz.prog w=.ok (.enter f args) w)(hu:iY cell u=some x)(h:∀w,Below B W w->jW f #[x] w b)(hn:b.size<=n):bC B W cell f [u] (.str n b):=⟨he,hn,λvals w hw hd=>by
 obtain⟨v,rfl,hv⟩:=Qb hd
 obtain rfl:=lG hu hv
 exact(h w hw).mono λe w' ⟨h1,h2⟩=>⟨_,h1,rfl,h2⟩⟩
end Go.Proofs.YtnjjeapcalkmaaaGreatDoor.Se
namespace Go.Proofs.YtnjjeapcalkmaaaGreatDoor
open Go Go.RowKit Go.Proofs.YtnjjeapcalkmaaaGreatDoor.Ord
open Go.Proofs.YtnjjeapcalkmaaaGreatDoor.Se
def opN:List ByteArray:=[⟨#[115,117,98,109,105,116]⟩,⟨#[97,109,101,110,100]⟩,⟨#[99,97,110,99,101,108]⟩,⟨#[104,111,108,100]⟩,⟨#[114,101,115,117,109,101]⟩]
def kdN:List ByteArray:=[⟨#[112,97,121,109,101,110,116]⟩,⟨#[100,118,112]⟩,⟨#[102,114,101,101]⟩,⟨#[112,108,101,100,103,101]⟩,⟨#[114,101,108,101,97,115,101]⟩]
def BQ (w:World):Prop:=∀(j:Nat) (s:ByteArray),opN[j]? =some s->w.cell? ⟨0,j,none⟩=some (.string s)
def CJ (w:World):Prop:=∀(j:Nat) (s:ByteArray),kdN[j]? =some s->w.cell? ⟨2,j,none⟩=some (.string s)
theorem C8 (w:World)(g j n:Nat)(s:ByteArray)(h0:¬(j:Int)<0)(h1:¬(n:Int)<=(j:Int))(h2:(j:Int)<(n:Int))(_hj:j<n)(hc:w.cell? ⟨g,j,none⟩=some (.string s)):
 Calls Tryz.prog 127 #[.slice (some ⟨g,0,none⟩) n n,.int .i64 j] w λe w'=>e=.returned (.string s)/\w=w':=by
 go_enter Tryz.func127,Tryz.ntmps127
 go_wp2_with fail
 go_ret
 exact⟨rfl,rfl⟩
theorem JL (w:World)(j:Nat)(s:ByteArray)(n1:Calls Tryz.prog 127 #[.slice (some ⟨0,0,none⟩) 5 5,.int .i64 j] w λe w'=>e=.returned (.string s)/\w=w'):
 Calls Tryz.prog 67 #[.int .i64 j] w λe w'=>e=.returned (.string s)/\w=w':=by
 go_enter Tryz.func67,Tryz.ntmps67
 go_wp2_with fail
 refine n1.mono ?_
 rintro e w1 ⟨rfl,rfl⟩
 clear n1
 go_wp2_with fail
 go_ret
 exact⟨rfl,rfl⟩
theorem Iy (w:World)(j:Nat)(s:ByteArray)(n1:Calls Tryz.prog 127 #[.slice (some ⟨2,0,none⟩) 5 5,.int .i64 j] w λe w'=>e=.returned (.string s)/\w=w'):
 Calls Tryz.prog 124 #[.int .i64 j] w λe w'=>e=.returned (.string s)/\w=w':=by
 go_enter Tryz.func124,Tryz.ntmps124
 go_wp2_with fail
 refine n1.mono ?_
 rintro e w1 ⟨rfl,rfl⟩
 clear n1
 go_wp2_with fail
 go_ret
 exact⟨rfl,rfl⟩
theorem jJ (w:World)(h:BQ w)(j:Nat)(s:ByteArray)(hj:opN[j]? =some s):Calls Tryz.prog 67 #[.int .i64 j] w λe w'=>e=.returned (.string s)/\w=w':=by
 have hl:j<5:=(List.getElem?_eq_some_iff.1 hj).1
 exact JL w j s (C8 w _ j 5 s (by omega) (by omega) (by omega) hl (h j s hj))
theorem rz (w:World)(h:CJ w)(j:Nat)(s:ByteArray)(hj:kdN[j]? =some s):Calls Tryz.prog 124 #[.int .i64 j] w λe w'=>e=.returned (.string s)/\w=w':=by
 have hl:j<5:=(List.getElem?_eq_some_iff.1 hj).1
 exact Iy w j s (C8 w _ j 5 s (by omega) (by omega) (by omega) hl (h j s hj))
structure iI (W0:World):Prop where
 tab:∀w,Below W0.heap.size W0 w->yQ w
 pr:∀w,Below W0.heap.size W0 w->sV w
 op:∀w,Below W0.heap.size W0 w->BQ w
 kd:∀w,Below W0.heap.size W0 w->CJ w
theorem iI.below {W0 w:World}(h:iI W0)(hb:Below W0.heap.size W0 w):iI w:=
 ⟨λw' hw'=>h.tab w' (hb.trans (hw'.mono hb.size)),λw' hw'=>h.pr w' (hb.trans (hw'.mono hb.size)),λw' hw'=>h.op w' (hb.trans (hw'.mono hb.size)),λw' hw'=>h.kd w' (hb.trans (hw'.mono hb.size))⟩
def CW (W0:World)(f:FuncId)(q:Int)(n:Nat)(x:ByteArray):Prop:=(∀w,Below W0.heap.size W0 w->jW f #[.int .i64 q] w x)/\x.size<=n
theorem CW.below {W0 W:World}{f:FuncId}{q:Int}{n:Nat}{x:ByteArray}(h:CW W0 f q n x)(hb:Below W0.heap.size W0 W):CW W f q n x:=⟨λw hw=>h.1 w (hb.trans (hw.mono hb.size)),h.2⟩
theorem mV {W0:World}(hE:iI W0){q:Int}(h:0<=q/\q<=Ps.bL):CW W0 125 q 20 (Ps.dM q):=by
 have h2:=h.2
 unfold Ps.bL at h2
 obtain⟨n,rfl⟩:∃n:Nat,q=n:=⟨q.toNat,by omega⟩
 exact⟨λw hw=>JH n (by omega) w (hE.tab w hw),Da n (by omega)⟩
theorem yw {W0:World}(hE:iI W0){q:Int}(h:0<=q/\q<=Ps.bL):CW W0 121 q 20 (Ps.bQ q):=by
 have h2:=h.2
 unfold Ps.bL at h2
 obtain⟨n,rfl⟩:∃n:Nat,q=n:=⟨q.toNat,by omega⟩
 exact⟨λw hw=>Qf n (by omega) w (hE.tab w hw),by have:=Ps.iX h.2;omega⟩
theorem zK {W0:World}{q:Int}(h:0<=q/\q<=Ps.bF):CW W0 122 q 10 (Ps.au q):=⟨λw _=>fd_day q h.1 h.2 w,qy q h.1 h.2⟩
theorem j3:∀args w,(callFunc 125 args).run Tryz.prog w=.ok (.enter 125 args) w:=enters_of Tryz.func125 (by kernel_rfl) rfl
theorem qh:∀args w,(callFunc 121 args).run Tryz.prog w=.ok (.enter 121 args) w:=enters_of Tryz.func121 (by kernel_rfl) rfl
theorem l8:∀args w,(callFunc 122 args).run Tryz.prog w=.ok (.enter 122 args) w:=enters_of Tryz.func122 (by kernel_rfl) rfl
theorem Ao:∀args w,(callFunc 128 args).run Tryz.prog w=.ok (.enter 128 args) w:=enters_of Tryz.func128 (by kernel_rfl) rfl
theorem PT:∀args w,(callFunc 124 args).run Tryz.prog w=.ok (.enter 124 args) w:=enters_of Tryz.func124 (by kernel_rfl) rfl
theorem GK:∀args w,(callFunc 67 args).run Tryz.prog w=.ok (.enter 67 args) w:=enters_of Tryz.func67 (by kernel_rfl) rfl
theorem PP:∀args w,(callFunc 195 args).run Tryz.prog w=.ok (.enter 195 args) w:=enters_of Tryz.func195 (by kernel_rfl) rfl
theorem Ga {W0:World}(hE:iI W0){p:Int}(h:0<=p/\p<=2):CW W0 128 p 10 (Ps.bw (Ps.eU p)):=by
 refine⟨λw hw=>?_,?_⟩
 ·obtain⟨j,rfl⟩:∃j:Nat,p=j:=⟨p.toNat,by omega⟩
  have hj:prN[j]? =some (Ps.bw (Ps.eU (j:Int))):=by
   have h3:j=0\/j=1\/j=2:=by omega
   rcases h3 with rfl|rfl|rfl<;>rfl
  exact(nO w (hE.pr w hw) j _ hj).mono λe w' ⟨h1,h2⟩=>⟨h1,h2▸Below.refl _ _⟩
 ·have h3:p=0\/p=1\/p=2:=by omega
  rcases h3 with rfl|rfl|rfl<;>decide
theorem yx (w:World):jW 195 #[.int .i64 0] w (Ps.bw Ps.eT):=by
 unfold jW
 go_enter Tryz.func195,Tryz.ntmps195
 go_wp2_with fail
 go_ret
 exact⟨rfl,Below.refl _ _⟩
theorem zi (w:World):jW 195 #[.int .i64 1] w (Ps.bw Ps.bZ):=by
 unfold jW
 go_enter Tryz.func195,Tryz.ntmps195
 go_wp2_with fail
 go_ret
 exact⟨rfl,Below.refl _ _⟩
theorem NI {W0:World}{p:Int}(h:p=0\/p=1):CW W0 195 p 5 (Ps.bw (if p=0 then Ps.eT else Ps.bZ)):=by
 rcases h with rfl|rfl
 ·exact⟨λw _=>yx w,by decide⟩
 ·exact⟨λw _=>zi w,by decide⟩
theorem spW {B:Nat}{W:World}{cell:Nat->Nat->Value}{f:FuncId}{u:PV}{q:Int}{n:Nat}{x:ByteArray}(he:∀args w,(callFunc f args).run Tryz.prog w=.ok (.enter f args) w)(hu:iY cell u=some (.int .i64 q))(hB:B=W.heap.size)(h:CW W f q n x):bC B W cell f [u] (.str n x):=pV he hu (λw hw=>h.1 w (hB▸hw)) h.2
open Go Go.ChangeShapes Go.WideShapes Go.ChangeAt Go.RowKit
theorem opn_g:Tryz.prog.globalNamed "giro/message.operationNames"=some 0:=by kernel_rfl
theorem opn_t:(Tryz.prog.globals[0]?).map (·.type)=some 165:=by kernel_rfl
theorem Qe {l:List (String×DataW Unit)}{W:World}(h:laidMetH Tryz.prog l W)(hx:("giro/message.operationNames",(Rows.laid_giro_message_operationNames:DataW Unit))∈l):BQ W:=by
 obtain⟨g',t',cs,fuel,p,hg',ht',hv,hd⟩:=mZ h hx rfl
 obtain rfl:=Option.some.inj (opn_g.symm.trans hg')
 obtain rfl:=Option.some.inj (opn_t.symm.trans ht')
 have hd':DataW.trod _ Tryz.prog W 0 (λ_=>true) false fuel 165 cs.toList=some (.agg [.lit (.string [115,117,98,109,105,116]),.lit (.string [97,109,101,110,100]),.lit (.string [99,97,110,99,101,108]),.lit (.string [104,111,108,100]),.lit (.string [114,101,115,117,109,101])],p):=hd
 obtain⟨xs,m,_,hx,_,hxl,hall⟩:=DataW.trod_array Tryz.underlying165 hd'
 simp only[Prod.mk.injEq,DataW.agg.injEq]at hx
 obtain⟨hx,_⟩:=hx
 intro j s hj
 have Am:j<5:=by have:=(List.getElem?_eq_some_iff.1 hj).1;simpa[opN]using this
 have hrow:=hall j Am
 rw[NH,Nat.mul_one]at hrow
 have hxk:(xs.map (·.1))[j]? =some (.lit (.string s.data.toList)):=by
  rw[<-hx]
  match j,Am,hj with
  |0,_,hj=>cases hj;rfl
  |1,_,hj=>cases hj;rfl
  |2,_,hj=>cases hj;rfl
  |3,_,hj=>cases hj;rfl
  |4,_,hj=>cases hj;rfl
 rw[List.getElem?_map,Option.map_eq_some_iff]at hxk
 obtain⟨⟨d,q⟩,hq,NS⟩:=hxk
 simp only at NS
 subst NS
 rw[hq]at hrow
 obtain⟨s',hs',hx',_⟩:=DataW.trod_string Tryz.underlying9 hrow
 simp only[Prod.mk.injEq,DataW.lit.injEq,Lit.string.injEq]at hx'
 have hss:s=s':=by
  have:=hx'.1
  obtain⟨⟨a⟩⟩:=s
  obtain⟨⟨b⟩⟩:=s'
  have:a=b:=this
  rw[this]
 subst hss
 rw[World.var?_cell hg' hv,<-Array.getElem?_toList]
 have:((cs.toList.drop j).take 1)[0]? =some (.string s):=by rw[hs'];rfl
 rw[List.getElem?_take,if_pos (by omega),List.getElem?_drop,Nat.add_zero]at this
 exact this
theorem Hr {W w:World}(h:BQ W)(hb:Below W.heap.size W w):BQ w:=λj s hj=>
 (hb.cell (World.block_lt_of_cell? W _ (h j s hj))).trans (h j s hj)
theorem kdn_g:Tryz.prog.globalNamed "giro/message.kindNames"=some 2:=by kernel_rfl
theorem kdn_t:(Tryz.prog.globals[2]?).map (·.type)=some 165:=by kernel_rfl
theorem PZ {l:List (String×DataW Unit)}{W:World}(h:laidMetH Tryz.prog l W)(hx:("giro/message.kindNames",(Rows.laid_giro_message_kindNames:DataW Unit))∈l):CJ W:=by
 obtain⟨g',t',cs,fuel,p,hg',ht',hv,hd⟩:=mZ h hx rfl
 obtain rfl:=Option.some.inj (kdn_g.symm.trans hg')
 obtain rfl:=Option.some.inj (kdn_t.symm.trans ht')
 have hd':DataW.trod _ Tryz.prog W 0 (λ_=>true) false fuel 165 cs.toList=some (.agg [.lit (.string [112,97,121,109,101,110,116]),.lit (.string [100,118,112]),.lit (.string [102,114,101,101]),.lit (.string [112,108,101,100,103,101]),.lit (.string [114,101,108,101,97,115,101])],p):=hd
 obtain⟨xs,m,_,hx,_,hxl,hall⟩:=DataW.trod_array Tryz.underlying165 hd'
 simp only[Prod.mk.injEq,DataW.agg.injEq]at hx
 obtain⟨hx,_⟩:=hx
 intro j s hj
 have Am:j<5:=by have:=(List.getElem?_eq_some_iff.1 hj).1;simpa[kdN]using this
 have hrow:=hall j Am
 rw[NH,Nat.mul_one]at hrow
 have hxk:(xs.map (·.1))[j]? =some (.lit (.string s.data.toList)):=by
  rw[<-hx]
  match j,Am,hj with
  |0,_,hj=>cases hj;rfl
  |1,_,hj=>cases hj;rfl
  |2,_,hj=>cases hj;rfl
  |3,_,hj=>cases hj;rfl
  |4,_,hj=>cases hj;rfl
 rw[List.getElem?_map,Option.map_eq_some_iff]at hxk
 obtain⟨⟨d,q⟩,hq,NS⟩:=hxk
 simp only at NS
 subst NS
 rw[hq]at hrow
 obtain⟨s',hs',hx',_⟩:=DataW.trod_string Tryz.underlying9 hrow
 simp only[Prod.mk.injEq,DataW.lit.injEq,Lit.string.injEq]at hx'
 have hss:s=s':=by
  have:=hx'.1
  obtain⟨⟨a⟩⟩:=s
  obtain⟨⟨b⟩⟩:=s'
  have:a=b:=this
  rw[this]
 subst hss
 rw[World.var?_cell hg' hv,<-Array.getElem?_toList]
 have:((cs.toList.drop j).take 1)[0]? =some (.string s):=by rw[hs'];rfl
 rw[List.getElem?_take,if_pos (by omega),List.getElem?_drop,Nat.add_zero]at this
 exact this
theorem I5 {W w:World}(h:CJ W)(hb:Below W.heap.size W w):CJ w:=λj s hj=>
 (hb.cell (World.block_lt_of_cell? W _ (h j s hj))).trans (h j s hj)
theorem uj {l:List (String×DataW Unit)}{W:World}(h:laidMetH Tryz.prog l W)(h1:("internal/strconv.uint64pow10",(Rows.laid_internal_strconv_uint64pow10:DataW Unit))∈l)(h2:("giro/message.priorityNames",(Rows.laid_giro_message_priorityNames:DataW Unit))∈l)(h3:("giro/message.operationNames",(Rows.laid_giro_message_operationNames:DataW Unit))∈l)(h4:("giro/message.kindNames",(Rows.laid_giro_message_kindNames:DataW Unit))∈l):iI W:=
 ⟨λw hb=>M4 (Md h h1) hb,λw hb=>A9 (lK h h2) hb,λw hb=>Hr (Qe h h3) hb,λw hb=>I5 (PZ h h4) hb⟩
abbrev kz (i:Ps.Ins):Ps.Req:={op:=0,sender:=i.sender,ref:=i.ref,ins:=i}
open Go.RowKit
theorem E8 (c:Int)(w:World):
 Calls Tryz.prog 219 #[.int .u8 c] w λe w'=>e=.returned (.bool (Id.letter c))/\w'=w:=by
 go_enter Tryz.func219,Tryz.ntmps219
 go_wp2
 all_goals go_ret
 all_goals exact⟨bO (by first|(simp[Id.letter,Lx.upper];done)|(simp[Id.letter,Lx.upper];omega)),rfl⟩
theorem yU (c:Int)(w:World):
 Calls Tryz.prog 220 #[.int .u8 c] w λe w'=>e=.returned (.bool (Id.digit c))/\w'=w:=by
 go_enter Tryz.func220,Tryz.ntmps220
 go_wp2
 all_goals go_ret
 all_goals exact⟨bO (by first|(simp[Id.digit,Lx.digit];done)|(simp[Id.digit,Lx.digit];omega)),rfl⟩
def nz (k:Nat):Int:=if k=0 then 12 else if k=1 then 4 else if k=2 then 1 else 20
def zV (k:Nat):Int:=if k=0 then 12 else if k=1 then 8 else if k=2 then 16 else 20
theorem rX (k:Nat)(hk:k<3)(w:World):
 Calls Tryz.prog 172 #[.int .i64 k] w λe w'=>e=.returned (.tuple #[.int .i64 (nz k),.int .i64 (zV k)])/\w'=w:=by
 match k,hk with
 |0,_=>
  go_enter Tryz.func172,Tryz.ntmps172
  go_wp2
  all_goals go_ret2
  all_goals exact⟨rfl,rfl⟩
 |1,_=>
  go_enter Tryz.func172,Tryz.ntmps172
  go_wp2
  all_goals go_ret2
  all_goals exact⟨rfl,rfl⟩
 |2,_=>
  go_enter Tryz.func172,Tryz.ntmps172
  go_wp2
  all_goals go_ret2
  all_goals exact⟨rfl,rfl⟩
def rkMay (k i:Nat)(c:Int):Bool:=
 if k=0 then(decide (i<2)&&Id.letter c||decide (2<=i)&&decide (i<11)&&(Id.letter c||Id.digit c)||decide (i=11)&&Id.digit c)
 else if k=1 then(Id.letter c||decide (0<i)&&Id.digit c)
 else(Id.letter c||Id.digit c||c==45)
theorem JC (i:Nat)(c:Int)(b1 b2:Bool)(hi:i<2)(w:World)
 (nL:Hid (∀w,Calls Tryz.prog 219 #[.int .u8 c] w λe w'=>e=.returned (.bool b1)/\w'=w))
 (nD:Hid (∀w,Calls Tryz.prog 220 #[.int .u8 c] w λe w'=>e=.returned (.bool b2)/\w'=w)):
 Calls Tryz.prog 173 #[.int .i64 0,.int .i64 i,.int .u8 c] w λe w'=>e=.returned (.bool (b1))/\w'=w:=by
 have h1:(i:Int)<2:=by omega
 have h2:¬(i:Int)=11:=by omega
 have h3:((i:Int)==11)=false:=by simp;omega
 have h4:((i:Int)>=2)=False:=by simp;omega
 cases b1<;>cases b2
 all_goals
  go_enter Tryz.func173,Tryz.ntmps173
  go_wp2_with (first|(go_at_call 219;refine(nL.out _).mono ?_;rintro x w1 ⟨rfl,rfl⟩)|(go_at_call 220;refine(nD.out _).mono ?_;rintro x w1 ⟨rfl,rfl⟩))
  all_goals go_ret
  all_goals first|exact⟨rfl,rfl⟩|exact⟨bO (by simp_all),rfl⟩
theorem Je (i:Nat)(c:Int)(b1 b2:Bool)(hi:2<=i)(hi2:i<11)(w:World)
 (nL:Hid (∀w,Calls Tryz.prog 219 #[.int .u8 c] w λe w'=>e=.returned (.bool b1)/\w'=w))
 (nD:Hid (∀w,Calls Tryz.prog 220 #[.int .u8 c] w λe w'=>e=.returned (.bool b2)/\w'=w)):
 Calls Tryz.prog 173 #[.int .i64 0,.int .i64 i,.int .u8 c] w λe w'=>e=.returned (.bool (b1||b2))/\w'=w:=by
 have h1:¬(i:Int)<2:=by omega
 have h2:(i:Int)<11:=by omega
 have h3:((i:Int)==11)=false:=by simp;omega
 have h4:(i:Int)>=2:=by omega
 cases b1<;>cases b2
 all_goals
  go_enter Tryz.func173,Tryz.ntmps173
  go_wp2_with (first|(go_at_call 219;refine(nL.out _).mono ?_;rintro x w1 ⟨rfl,rfl⟩)|(go_at_call 220;refine(nD.out _).mono ?_;rintro x w1 ⟨rfl,rfl⟩))
  all_goals go_ret
  all_goals first|exact⟨rfl,rfl⟩|exact⟨bO (by simp_all),rfl⟩
theorem Il (i:Nat)(c:Int)(b1 b2:Bool)(hi:i=11)(w:World)
 (nL:Hid (∀w,Calls Tryz.prog 219 #[.int .u8 c] w λe w'=>e=.returned (.bool b1)/\w'=w))
 (nD:Hid (∀w,Calls Tryz.prog 220 #[.int .u8 c] w λe w'=>e=.returned (.bool b2)/\w'=w)):
 Calls Tryz.prog 173 #[.int .i64 0,.int .i64 i,.int .u8 c] w λe w'=>e=.returned (.bool (b2))/\w'=w:=by
 subst hi
 cases b1<;>cases b2
 all_goals
  go_enter Tryz.func173,Tryz.ntmps173
  go_wp2_with (first|(go_at_call 219;refine(nL.out _).mono ?_;rintro x w1 ⟨rfl,rfl⟩)|(go_at_call 220;refine(nD.out _).mono ?_;rintro x w1 ⟨rfl,rfl⟩))
  all_goals go_ret
  all_goals first|exact⟨rfl,rfl⟩|exact⟨bO (by simp_all),rfl⟩
theorem JZ (i:Nat)(c:Int)(b1 b2:Bool)(hi:i=0)(w:World)
 (nL:Hid (∀w,Calls Tryz.prog 219 #[.int .u8 c] w λe w'=>e=.returned (.bool b1)/\w'=w))
 (nD:Hid (∀w,Calls Tryz.prog 220 #[.int .u8 c] w λe w'=>e=.returned (.bool b2)/\w'=w)):
 Calls Tryz.prog 173 #[.int .i64 1,.int .i64 i,.int .u8 c] w λe w'=>e=.returned (.bool (b1))/\w'=w:=by
 subst hi
 cases b1<;>cases b2
 all_goals
  go_enter Tryz.func173,Tryz.ntmps173
  go_wp2_with (first|(go_at_call 219;refine(nL.out _).mono ?_;rintro x w1 ⟨rfl,rfl⟩)|(go_at_call 220;refine(nD.out _).mono ?_;rintro x w1 ⟨rfl,rfl⟩))
  all_goals go_ret
  all_goals first|exact⟨rfl,rfl⟩|exact⟨bO (by simp_all),rfl⟩
theorem J5 (i:Nat)(c:Int)(b1 b2:Bool)(hi:0<i)(w:World)
 (nL:Hid (∀w,Calls Tryz.prog 219 #[.int .u8 c] w λe w'=>e=.returned (.bool b1)/\w'=w))
 (nD:Hid (∀w,Calls Tryz.prog 220 #[.int .u8 c] w λe w'=>e=.returned (.bool b2)/\w'=w)):
 Calls Tryz.prog 173 #[.int .i64 1,.int .i64 i,.int .u8 c] w λe w'=>e=.returned (.bool (b1||b2))/\w'=w:=by
 have h1:(i:Int)>0:=by omega
 cases b1<;>cases b2
 all_goals
  go_enter Tryz.func173,Tryz.ntmps173
  go_wp2_with (first|(go_at_call 219;refine(nL.out _).mono ?_;rintro x w1 ⟨rfl,rfl⟩)|(go_at_call 220;refine(nD.out _).mono ?_;rintro x w1 ⟨rfl,rfl⟩))
  all_goals go_ret
  all_goals first|exact⟨rfl,rfl⟩|exact⟨bO (by simp_all),rfl⟩
theorem NY (i:Nat)(c:Int)(b1 b2 b3:Bool)(h3:(c==45)=b3)(w:World)
 (nL:Hid (∀w,Calls Tryz.prog 219 #[.int .u8 c] w λe w'=>e=.returned (.bool b1)/\w'=w))
 (nD:Hid (∀w,Calls Tryz.prog 220 #[.int .u8 c] w λe w'=>e=.returned (.bool b2)/\w'=w)):
 Calls Tryz.prog 173 #[.int .i64 2,.int .i64 i,.int .u8 c] w λe w'=>e=.returned (.bool (b1||b2||b3))/\w'=w:=by
 cases b1<;>cases b2<;>cases b3
 all_goals
  go_enter Tryz.func173,Tryz.ntmps173
  go_wp2_with (first|(go_at_call 219;refine(nL.out _).mono ?_;rintro x w1 ⟨rfl,rfl⟩)|(go_at_call 220;refine(nD.out _).mono ?_;rintro x w1 ⟨rfl,rfl⟩))
  all_goals go_ret
  all_goals first|exact⟨rfl,rfl⟩|exact⟨bO (by simp_all),rfl⟩
def lh (k i:Nat):Int->Bool:=((bB k).map (·.2)).getD i λ_=>true
theorem NK (i:Nat)(h:i<2):lh 0 i=Id.letter:=by
 match i,h with
 |0,_=>rfl
 |1,_=>rfl
theorem Lr (i:Nat)(h1:2<=i)(h:i<11):lh 0 i=Id.bS:=by
 obtain⟨j,rfl⟩:∃j,i=j+2:=⟨i-2,by omega⟩
 have hj:j<9:=by omega
 clear h h1
 match j,hj with
 |0,_=>rfl
 |1,_=>rfl
 |2,_=>rfl
 |3,_=>rfl
 |4,_=>rfl
 |5,_=>rfl
 |6,_=>rfl
 |7,_=>rfl
 |8,_=>rfl
theorem NR (i:Nat)(h1:0<i)(h:i<8):lh 1 i=Id.bS:=by
 obtain⟨j,rfl⟩:∃j,i=j+1:=⟨i-1,by omega⟩
 have hj:j<7:=by omega
 clear h h1
 match j,hj with
 |0,_=>rfl
 |1,_=>rfl
 |2,_=>rfl
 |3,_=>rfl
 |4,_=>rfl
 |5,_=>rfl
 |6,_=>rfl
theorem PX (i:Nat)(h:i<16):lh 2 i=Id.Be:=by
 by_cases h8:i<8
 ·match i,h8 with
  |0,_=>rfl
  |1,_=>rfl
  |2,_=>rfl
  |3,_=>rfl
  |4,_=>rfl
  |5,_=>rfl
  |6,_=>rfl
  |7,_=>rfl
 ·obtain⟨j,rfl⟩:∃j,i=j+8:=⟨i-8,by omega⟩
  have hj:j<8:=by omega
  clear h h8
  match j,hj with
  |0,_=>rfl
  |1,_=>rfl
  |2,_=>rfl
  |3,_=>rfl
  |4,_=>rfl
  |5,_=>rfl
  |6,_=>rfl
  |7,_=>rfl
theorem F3 (k:Nat)(hk:k<3)(i:Nat)(hi:(i:Int)<zV k)(c:Int)(w:World):
 Calls Tryz.prog 173 #[.int .i64 k,.int .i64 i,.int .u8 c] w λe w'=>e=.returned (.bool (lh k i c))/\w'=w:=by
 have nL:=Lib.hid λw=>E8 c w
 have nD:=Lib.hid λw=>yU c w
 match k,hk with
 |0,_=>
  have h12:i<12:=by have:(i:Int)<12:=hi;omega
  by_cases h2:i<2
  ·rw[NK i h2]
   exact JC i c _ _ h2 w nL nD
  ·by_cases h11:i<11
   ·rw[Lr i (by omega) h11]
    exact Je i c _ _ (by omega) h11 w nL nD
   ·obtain rfl:i=11:=by omega
    exact Il 11 c _ _ rfl w nL nD
 |1,_=>
  have h12:i<8:=by have:(i:Int)<8:=hi;omega
  by_cases h0:i=0
  ·subst h0
   exact JZ 0 c _ _ rfl w nL nD
  ·rw[NR i (by omega) h12]
   exact J5 i c _ _ (by omega) w nL nD
 |2,_=>
  have h12:i<16:=by have:(i:Int)<16:=hi;omega
  rw[PX i h12]
  exact NY i c _ _ _ (by rw[Bool.eq_iff_iff,beq_iff_eq,decide_eq_true_iff]) w nL nD
theorem iq {B:Nat}{a w:World}(h:Below B a w)(q:Nat):Below B a (w.drewN q):=⟨h.os,h.tape,h.output,h.size,h.block⟩
theorem Dz (k:Int)(s:ByteArray)(w:World)(hk1:k=1\/k=2)(low high e:Int)(nb j:Nat)(hs:s.size<=9223372036854775807)(hhi:high=(nb:Int))(hnb:nb<=20)(cls:Nat->Int->Bool)
 (nL:Hid (∀w,Calls Tryz.prog 172 #[.int .i64 k] w λe w'=>e=.returned (.tuple #[.int .i64 low,.int .i64 high])/\w'=w))
 (nM:Hid (∀(i:Nat) (c:Int) w,i<nb->Calls Tryz.prog 173 #[.int .i64 k,.int .i64 i,.int .u8 c] w λe w'=>e=.returned (.bool (cls i c))/\w'=w))
 (hjn:j<=nb) (hjs:j<=s.size) (hgood:Hid (∀i,i<j->cls i (PlainAid.bt s i)=true))
 (lC:Hid ((j<nb/\j<s.size/\cls j (PlainAid.bt s j)=false/\e=3)\/((j=nb\/j=s.size)/\(((s.size:Int)<low/\e=4)\/(¬(s.size:Int)<low/\(s.size:Int)>high/\e=5)\/(¬(s.size:Int)<low/\¬(s.size:Int)>high/\e=0))))):
 Calls Tryz.prog 92 #[.int .i64 k,.string s] w λx w'=>(∃z:Int,x=.returned (.tuple #[.int .i64 z,.int .i64 e]))/\Below w.heap.size w w':=by
 have hub:=PlainAid.get_bt s
 rcases hk1 with rfl|rfl
 all_goals
  go_enter Tryz.func92,Tryz.ntmps92
  go_wp2_with (go_at_call 172;refine(nL.out _).mono ?_;rintro x w1 ⟨rfl,jv⟩;obtain rfl:=jv.symm;clear jv)
  go_loopw [8] (λiv wr=>∃i:Nat,iv=.int .i64 i/\i<=j/\wr=w) (λiv _=>2000-(RowKit.intOf iv).toNat)
  case atStart=>exact⟨0,rfl,Nat.zero_le _,rfl⟩
  case round=>
   obtain⟨i,rfl,hi,hwr⟩:=hrel
   subst hwr
   by_cases hlt:i<j
   ·have hx:i<s.size:=by omega
    have hxi:(i:Int)<(s.size:Int):=by omega
    have hxh:(i:Int)<high:=by omega
    have m1:=λw=>nM.out i (PlainAid.bt s i) w (by omega)
    simp only[hgood.out i hlt]at m1
    go_wp2_with (go_at_call 173;refine(m1 _).mono ?_;rintro x w1 ⟨rfl,jv⟩;obtain rfl:=jv.symm;clear jv)
    go_roundw
    case rel=>exact⟨i+1,by go_num,by omega,by first|rfl|trivial⟩
    case measure=>simp[RowKit.intOf];omega
   ·obtain rfl:i=j:=by omega
    rcases lC.out with⟨h1,h2,h3,rfl⟩|⟨h1,h4⟩
    ·have hxi:(i:Int)<(s.size:Int):=by omega
     have hxh:(i:Int)<high:=by omega
     have m1:=λw=>nM.out i (PlainAid.bt s i) w (by omega)
     simp only[h3]at m1
     go_wp2_with (go_at_call 173;refine(m1 _).mono ?_;rintro x w1 ⟨rfl,jv⟩;obtain rfl:=jv.symm;clear jv)
     go_ret2
     exact⟨⟨_,rfl⟩,Below.refl _ _⟩
    ·have hnc:¬(i:Int)<(s.size:Int)\/((i:Int)<(s.size:Int)/\¬(i:Int)<high):=by omega
     rcases h4 with⟨h5,rfl⟩|⟨h5,h6,rfl⟩|⟨h5,h6,rfl⟩
     ·rcases hnc with hc|⟨hc,hc2⟩
      all_goals
       first
        |(exfalso;omega)
        |(go_wp2_with fail
          go_ret2
          exact⟨⟨_,rfl⟩,Below.refl _ _⟩)
     ·rcases hnc with hc|⟨hc,hc2⟩
      all_goals
       first
        |(exfalso;omega)
        |(go_wp2_with fail
          go_ret2
          exact⟨⟨_,rfl⟩,Below.refl _ _⟩)
     ·rcases hnc with hc|⟨hc,hc2⟩
      all_goals
       first
        |(exfalso;omega)
        |(go_wp2_with fail
          go_quiet (fail)
          go_wp2_with fail
          go_quiet (fail)
          go_wp2_with fail
          go_ret2
          exact⟨⟨_,rfl⟩,by first|exact Below.refl _ _|exact iq (Below.refl _ _) _|exact iq (iq (Below.refl _ _) _) _⟩)
theorem Pi (p:Nat->Bool)(m:Nat):∃j,j<=m/\(∀i,i<j->p i=true)/\(j=m\/(j<m/\p j=false)):=by
 induction m with
 |zero=>exact⟨0,Nat.le_refl _,λi h=>absurd h (Nat.not_lt_zero _),Or.inl rfl⟩
 |succ m ih=>
  obtain⟨j,hj,hall,hend⟩:=ih
  rcases hend with rfl|⟨h1,h2⟩
  ·cases hp:p j with
   |false=>exact⟨j,by omega,hall,Or.inr ⟨by omega,hp⟩⟩
   |true=>
    refine⟨j+1,Nat.le_refl _,λi h=>?_,Or.inl rfl⟩
    by_cases h3:i=j
    ·rw[h3];exact hp
    ·exact hall i (by omega)
  ·exact⟨j,by omega,hall,Or.inr ⟨by omega,h2⟩⟩
theorem Fv (k nb:Nat)(s:ByteArray)(hnb:(bB k).length=nb)(hlow:(aL k).low=nz k):
 ∃j,j<=nb/\j<=s.size/\(∀i,i<j->lh k i (PlainAid.bt s i)=true)/\
  ((j<nb/\j<s.size/\lh k j (PlainAid.bt s j)=false/\ag k s=3)\/((j=nb\/j=s.size)/\(((s.size:Int)<nz k/\ag k s=4)\/(¬(s.size:Int)<nz k/\(s.size:Int)>(nb:Int)/\ag k s=5)\/(¬(s.size:Int)<nz k/\¬(s.size:Int)>(nb:Int)/\ag k s=0)))):=by
 obtain⟨j,hj,hall,hend⟩:=Pi (λi=>lh k i (PlainAid.bt s i)) (min nb s.size)
 refine⟨j,by omega,by omega,hall,?_⟩
 unfold ag bR
 rw[hlow,List.length_map,hnb]
 rcases hend with h|⟨h1,h2⟩
 ·right
  have hno:(List.range nb).any (kR ((bB k).map (·.2)) s)=false:=by
   rw[List.any_eq_false]
   intro i hi
   have hi':=List.mem_range.1 hi
   unfold kR
   by_cases hx:i<s.size
   ·have:=hall i (by omega)
    unfold lh at this
    simp[this]
   ·simp[hx]
  rw[hno]
  refine⟨by omega,?_⟩
  by_cases ha:(s.size:Int)<nz k
  ·exact Or.inl ⟨ha,by simp[ha]⟩
  ·by_cases hb:(s.size:Int)>(nb:Int)
   ·refine Or.inr (Or.inl ⟨ha,hb,?_⟩)
    have hb2:nb<s.size:=by omega
    simp[ha,hb2]
   ·refine Or.inr (Or.inr ⟨ha,hb,?_⟩)
    have hb2:¬nb<s.size:=by omega
    simp only[Bool.false_eq_true,if_false,if_neg ha,if_neg hb2]
 ·left
  refine⟨by omega,by omega,h2,?_⟩
  have hyes:(List.range nb).any (kR ((bB k).map (·.2)) s)=true:=by
   rw[List.any_eq_true]
   refine⟨j,List.mem_range.2 (by omega),?_⟩
   have hx:j<s.size:=by omega
   have h2':(((bB k).map (·.2)).getD j λ_=>true) (PlainAid.bt s j)=false:=h2
   unfold kR
   rw[h2']
   simp[hx]
  rw[hyes,if_pos rfl]
theorem Bl (k:Nat)(hk:k=1\/k=2)(s:ByteArray)(hs:s.size<=9223372036854775807)(w:World):
 Calls Tryz.prog 92 #[.int .i64 k,.string s] w λx w'=>(∃z:Int,x=.returned (.tuple #[.int .i64 z,.int .i64 (aP k s)]))/\Below w.heap.size w w':=by
 have he:aP k s=ag k s:=by
  unfold aP
  rcases hk with rfl|rfl<;>split<;>simp_all
 rw[he]
 have hk3:k<3:=by omega
 have nL:=Lib.hid λw=>rX k hk3 w
 obtain⟨nb,hnb,hhi,hb20⟩:∃nb:Nat,(bB k).length=nb/\zV k=(nb:Int)/\nb<=20:=by
  rcases hk with rfl|rfl
  ·exact⟨8,rfl,rfl,by omega⟩
  ·exact⟨16,rfl,rfl,by omega⟩
 have hlow:(aL k).low=nz k:=by rcases hk with rfl|rfl<;>rfl
 obtain⟨j,h1,h2,h3,h4⟩:=Fv k nb s hnb hlow
 refine Dz k s w (by omega) (nz k) (zV k) (ag k s) nb j hs hhi hb20 (lh k) nL (Lib.hid λi c w hi=>F3 k hk3 i (by omega) c w) h1 h2 (Lib.hid h3) (Lib.hid ?_)
 rw[hhi]
 exact h4
end Go.Proofs.YtnjjeapcalkmaaaGreatDoor
namespace Go.Proofs.YtnjjeapcalkmaaaGreatDoor.Lx
open Go
def gm:Bool->Bt->Bt
 |_,[]=>[]
 |b,c::l=>if (decide (c=35)&&b)=true then[]else c::gm (blank (c.toNat:Int)) l
def isB (b:Bool)(l:Bt)(i:Nat):Bool:=(l[i]? ==some 35)&&(if i=0 then b else((l[i-1]?).map λc=>blank (c.toNat:Int)).getD false)
theorem Ch:∀(l:Bt) (b:Bool) (k:Nat),k<l.length->isB b l k=true->(∀j,j<k->isB b l j=false)->gm b l=l.take k
 |[],b,k,h,_,_=>by simp at h
 |c::l,b,0,_,hk,_=>by
  unfold isB at hk
  unfold gm
  rw[if_pos (by simpa using hk)]
  rfl
 |c::l,b,k+1,h,hk,hlow=>by
  have h0:=hlow 0 (by omega)
  unfold isB at h0
  unfold gm
  have hn:¬(decide (c=35)&&b)=true:=by
   intro hc
   simp at hc
   simp[hc]at h0
  rw[if_neg hn,List.take_succ_cons]
  congr 1
  have e:∀j,isB (blank (c.toNat:Int)) l j=isB b (c::l) (j+1):=λj=>by
   unfold isB
   cases j with
   |zero=>simp
   |succ j=>simp
  exact Ch l _ k (by simpa using h) (by rw[e];exact hk) λj hj=>by rw[e];exact hlow _ (by omega)
theorem xy:∀(l:Bt) (b:Bool),(∀j,j<l.length->isB b l j=false)->gm b l=l
 |[],b,_=>rfl
 |c::l,b,hlow=>by
  have h0:=hlow 0 (by simp)
  unfold isB at h0
  unfold gm
  have hn:¬(decide (c=35)&&b)=true:=by
   intro hc
   simp at hc
   simp[hc]at h0
  rw[if_neg hn]
  congr 1
  have e:∀j,isB (blank (c.toNat:Int)) l j=isB b (c::l) (j+1):=λj=>by
   unfold isB
   cases j with
   |zero=>simp
   |succ j=>simp
  exact xy l _ λj hj=>by rw[e];exact hlow _ (by simp;omega)
theorem FK (l:Bt)(i:Nat):isC l i=isB true l i:=by
 unfold isC isB
 by_cases h:i=0
 ·simp[h]
 ·have:(i==0)=false:=by simp[h]
  rw[this,if_neg h,Bool.false_or]
theorem A8 (l:Bt):l.take (cutAt l)=gm true l:=by
 by_cases h:∃k,k<l.length/\isC l k=true
 ·obtain⟨k,⟨h1,h2⟩,h3⟩:∃k,(k<l.length/\isC l k=true)/\∀j,j<k->isC l j=false:=by
   obtain⟨k0,h0⟩:=h
   have hex:∃n,n=k0:=⟨k0,rfl⟩
   clear hex
   induction k0 using Nat.strongRecOn with
   |ind k0 ih=>
    by_cases hl:∃j,j<k0/\isC l j=true
    ·obtain⟨j,hj,hc⟩:=hl
     exact ih j hj ⟨by omega,hc⟩
    ·exact⟨k0,h0,λj hj=>by
      cases hc:isC l j with
      |false=>rfl
      |true=>exact absurd ⟨j,hj,hc⟩ hl⟩
  rw[qw l k h1 h2 h3]
  rw[FK]at h2
  exact(Ch l true k h1 h2 λj hj=>by rw[<-FK];exact h3 j hj).symm
 ·have hm:∀j,j<l.length->isC l j=false:=λj hj=>by
   cases hc:isC l j with
   |false=>rfl
   |true=>exact absurd ⟨j,hj,hc⟩ h
  rw[oG l hm,List.take_length]
  exact(xy l true λj hj=>by rw[<-FK];exact hm j hj).symm
theorem vO (s:ByteArray):(aO s).data.toList=gm true s.data.toList:=by
 unfold aO
 rw[fZ,<-A8]
 rfl
theorem CK:∀(g l:Bt) (b:Bool),blanks g=true->gm b (g++l)=g++gm (b||!g.isEmpty) l
 |[],l,b,_=>by simp
 |c::g,l,b,h=>by
  unfold blanks at h
  rw[List.all_cons,Bool.and_eq_true]at h
  have hc:¬c=35:=by
   rintro rfl
   have:=h.1
   revert this;decide
  rw[List.cons_append]
  conv=>lhs;unfold gm
  rw[if_neg (by simp[hc]),h.1,CK g l true h.2]
  simp
theorem vg:∀(t l:Bt) (b:Bool),fT t=true->t≠[]->(b=true->t.head?≠some 35)->gm b (t++l)=t++gm false l
 |[],l,b,_,h,_=>absurd rfl h
 |c::t,l,b,h,_,hb=>by
  unfold fT at h
  rw[List.all_cons,Bool.and_eq_true]at h
  have hcb:blank (c.toNat:Int)=false:=by simpa using h.1
  rw[List.cons_append]
  conv=>lhs;unfold gm
  have hn:¬(decide (c=35)&&b)=true:=by
   intro hc
   simp at hc
   exact hb hc.2 (by simp[hc.1])
  rw[if_neg hn,hcb]
  cases t with
  |nil=>rfl
  |cons d t=>rw[vg (d::t) l false h.2 (by simp) (by simp)];rfl
theorem G9 (l:Bt)(h:∀c r,l=c::r->blank (c.toNat:Int)=true):gm false l=gm true l:=by
 cases l with
 |nil=>rfl
 |cons c l=>
  have hc:¬c=35:=by
   rintro rfl
   have:=h _ _ rfl
   revert this;decide
  unfold gm
  simp[hc]
def kE:Nat->Bt->Nat->List Tok->List Tok×Int×Int
 |0,_,_,acc=>(acc,0,0)
 |_+1,[],_,acc=>(acc,0,0)
 |f+1,c::l,a,acc=>
  if blank (c.toNat:Int)=true then kE f l (a+1) acc
  else if c=35 then(acc,0,0)
  else if (aC ⟨((c::l).take (run (λc=>!blank c) (c::l))).toArray⟩).2=0 then
   kE f ((c::l).drop (run (λc=>!blank c) (c::l))) (a+run (λc=>!blank c) (c::l)) (acc++[((aC ⟨((c::l).take (run (λc=>!blank c) (c::l))).toArray⟩).1,⟨((c::l).take (run (λc=>!blank c) (c::l))).toArray⟩,a)])
  else([],(a:Int),(aC ⟨((c::l).take (run (λc=>!blank c) (c::l))).toArray⟩).2)
theorem yt (p:Int->Bool)(l:Bt):∃t r,l=t++r/\run p l=t.length/\t.all (λc=>p (c.toNat:Int))=true/\∀c r',r=c::r'->p (c.toNat:Int)=false:=by
 induction l with
 |nil=>exact⟨[],[],rfl,rfl,rfl,λc r' h=>by cases h⟩
 |cons x l ih=>
  by_cases hx:p (x.toNat:Int)=true
  ·obtain⟨t,r,h1,h2,h3,h4⟩:=ih
   refine⟨x::t,r,by rw[h1];rfl,?_,by simp[hx,h3],h4⟩
   have e:run p (x::l)=run p l+1:=by simp[run,hx]
   rw[e,h2];rfl
  ·refine⟨[],x::l,rfl,?_,rfl,λc r' h=>?_⟩
   ·simp[run,hx]
   ·injection h with h1 _
    subst h1
    simpa using hx
theorem qd:∀(f g:Nat) (l:Bt) (a:Nat) (acc:List Tok),l.length<=f->l.length<=g->nH f l a acc=nH g l a acc
 |0,g,l,a,acc,hf,hg=>by
  obtain rfl:=List.eq_nil_of_length_eq_zero (Nat.le_zero.1 hf)
  rw[ja 0 [] a acc rfl,ja g [] a acc rfl]
 |f+1,0,l,a,acc,hf,hg=>by
  obtain rfl:=List.eq_nil_of_length_eq_zero (Nat.le_zero.1 hg)
  rw[ja 0 [] a acc rfl,ja (f+1) [] a acc rfl]
 |f+1,g+1,l,a,acc,hf,hg=>by
  rw[iR,iR]
  obtain⟨k,hk⟩:∃k,k=run blank l:=⟨_,rfl⟩
  obtain⟨t,ht⟩:∃t,t=(l.drop k).take (run (λc=>!blank c) (l.drop k)):=⟨_,rfl⟩
  rw[<-hk,<-ht]
  by_cases h0:t=[]
  ·unfold xI;rw[if_pos h0,if_pos h0]
  ·have hp:=List.length_pos_iff.2 h0
   by_cases hcl:(aC ⟨t.toArray⟩).2=0
   ·rw[kJ _ _ _ _ _ h0 hcl,kJ _ _ _ _ _ h0 hcl]
    exact qd f g _ _ _ (by rw[List.length_drop];omega) (by rw[List.length_drop];omega)
   ·rw[iZ _ _ _ _ _ h0 hcl,iZ _ _ _ _ _ h0 hcl]
theorem MJ (f a:Nat)(acc:List Tok):kE f [] a acc=(acc,0,0):=by cases f<;>rfl
theorem qj:∀(f:Nat) (l:Bt) (a:Nat) (acc:List Tok),l.length<f->nH f (gm true l) a acc=kE f l a acc
 |0,l,a,acc,h=>by omega
 |f+1,[],a,acc,h=>rfl
 |f+1,c::l,a,acc,h=>by
  have h:l.length<f:=by simpa using h
  by_cases hb:blank (c.toNat:Int)=true
  ·unfold kE
   rw[if_pos hb,<-qj f l (a+1) acc h]
   have hc:¬c=35:=by
    rintro rfl
    revert hb;decide
   have e1:gm true (c::l)=c::gm true l:=by
    conv=>lhs;unfold gm
    rw[if_neg (by simp[hc]),hb]
   rw[e1]
   obtain⟨m,hm⟩:∃m,m=gm true l:=⟨_,rfl⟩
   rw[<-hm]
   have DJ:m.length<=l.length:=by
    rw[hm,<-A8,List.length_take];omega
   have hmf:m.length<f:=by omega
   clear hm e1
   cases f with
   |zero=>omega
   |succ f=>
    have er:run blank (c::m)=run blank m+1:=by simp[run,hb]
    rw[iR,er,List.drop_succ_cons,iR]
    obtain⟨k,hk⟩:∃k,k=run blank m:=⟨_,rfl⟩
    obtain⟨t,ht⟩:∃t,t=(m.drop k).take (run (λc=>!blank c) (m.drop k)):=⟨_,rfl⟩
    rw[<-hk,<-ht]
    by_cases h0:t=[]
    ·unfold xI;rw[if_pos h0,if_pos h0]
    ·by_cases hcl:(aC ⟨t.toArray⟩).2=0
     ·rw[kJ _ _ _ _ _ h0 hcl,kJ _ _ _ _ _ h0 hcl,show k+1+t.length=k+t.length+1 from by omega,List.drop_succ_cons,show a+(k+1)+t.length=a+1+k+t.length from by omega,show a+(k+1)=a+1+k from by omega]
      refine qd _ _ _ _ _ ?_ ?_
      ·have:=List.length_pos_iff.2 h0
       rw[List.length_drop];omega
      ·have:=List.length_pos_iff.2 h0
       have:t.length<=m.length-k:=by rw[ht,List.length_take,List.length_drop];omega
       rw[List.length_drop];omega
     ·rw[iZ _ _ _ _ _ h0 hcl,iZ _ _ _ _ _ h0 hcl,show a+(k+1)=a+1+k from by omega]
  ·have hbf:blank (c.toNat:Int)=false:=by simpa using hb
   unfold kE
   rw[if_neg hb]
   by_cases hc:c=35
   ·rw[if_pos hc]
    subst hc
    rw[show gm true (35::l)=[]from rfl]
    exact ja _ [] _ _ rfl
   ·rw[if_neg hc]
    obtain⟨t,r,e1,e2,e3,e4⟩:=yt (λc=>!blank c) (c::l)
    rw[e2]
    have ht0:t≠[]:=by
     rintro rfl
     have:=e4 c l (by simpa using e1.symm)
     simp[hbf]at this
    have hhd:t.head? =some c:=by
     cases t with
     |nil=>exact absurd rfl ht0
     |cons x t=>rw[List.cons_append]at e1;injection e1 with e1 _;subst e1;rfl
    rw[e1,List.take_left,List.drop_left]
    have e4':∀c r',r=c::r'->blank (c.toNat:Int)=true:=λc r' h=>by simpa using e4 c r' h
    rw[vg t r true e3 ht0 (λ_=>by rw[hhd];simpa using hc),G9 r e4']
    have hcut:∀c r',gm true r=c::r'->blank (c.toNat:Int)=true:=λx r' h=>by
     cases r with
     |nil=>cases h
     |cons y r=>
      unfold gm at h
      split at h
      ·cases h
      ·injection h with h1 _
       subst h1
       exact e4' _ _ rfl
    have e5:=yM f [] t (gm true r) a acc rfl e3 ht0 hcut
    rw[List.nil_append]at e5
    rw[e5]
    have hrl:r.length<f:=by
     have:=congrArg List.length e1
     rw[List.length_append,List.length_cons]at this
     have:=List.length_pos_iff.2 ht0
     omega
    by_cases hcl:(aC ⟨t.toArray⟩).2=0
    ·rw[if_pos hcl,if_pos hcl,qj f r _ _ hrl]
     rfl
    ·rw[if_neg hcl,if_neg hcl]
     rfl
theorem BA (s:ByteArray):aI s=if 1024<s.size then([],1024,5)else kE (s.size+1) s.data.toList 0 []:=by
 unfold aI
 split
 ·rfl
 ·have hl:s.data.toList.length=s.size:=by obtain⟨⟨l⟩⟩:=s;rfl
  have hu:(aO s).data.toList.length=(aO s).size:=by obtain⟨⟨l⟩⟩:=aO s;rfl
  have J8:(aO s).size<=s.size:=by
   unfold aO
   rw[ByteArray.size_extract]
   omega
  rw[mK _ _ _ _ (Nat.zero_le _),List.drop_zero,qd _ (s.size+1) _ _ _ (by omega) (by omega),vO]
  exact qj (s.size+1) s.data.toList 0 [] (by omega)
end Go.Proofs.YtnjjeapcalkmaaaGreatDoor.Lx
namespace Go.Proofs.YtnjjeapcalkmaaaGreatDoor
open Go.RowKit
theorem Qq (s:ByteArray)(a:Nat)(c:UInt8)(l:List UInt8)(h:s.data.toList.drop a=c::l):a<s.size/\PlainAid.bt s a=(c.toNat:Int)/\s.data.toList.drop (a+1)=l:=by
 have hl:s.data.toList.length=s.size:=by obtain⟨⟨l⟩⟩:=s;rfl
 have hlt:a<s.data.toList.length:=by
  rcases Nat.lt_or_ge a s.data.toList.length with h'|h'
  ·exact h'
  ·rw[List.drop_eq_nil_of_le h']at h;cases h
 have h2:s.data.toList[a]? =some c:=by
  have:=congrArg (λl=>l[0]?) h
  simpa using this
 refine⟨by omega,?_,?_⟩
 ·rw[<-rq]
  unfold Lx.at_
  rw[List.getD_eq_getElem?_getD,h2]
  rfl
 ·have:=congrArg (List.drop 1) h
  rw[List.drop_drop]at this
  simpa using this
theorem PD (s:ByteArray)(a:Nat)(ha:a<s.size):(Lx.blank (PlainAid.bt s a)=true/\∀f acc,Lx.kE (f+1) (s.data.toList.drop a) a acc=Lx.kE f (s.data.toList.drop (a+1)) (a+1) acc)\/
 (Lx.blank (PlainAid.bt s a)=false/\PlainAid.bt s a=35/\∀f acc,Lx.kE (f+1) (s.data.toList.drop a) a acc=(acc,0,0))\/
 (Lx.blank (PlainAid.bt s a)=false/\¬PlainAid.bt s a=35/\∃r,0<r/\a+r<=s.size/\(∀j,j<r->Lx.blank (PlainAid.bt s (a+j))=false)/\(a+r<s.size->Lx.blank (PlainAid.bt s (a+r))=true)/\
  ∀f acc,Lx.kE (f+1) (s.data.toList.drop a) a acc=if (Lx.aC (s.extract a (a+r))).2=0 then Lx.kE f (s.data.toList.drop (a+r)) (a+r) (acc++[((Lx.aC (s.extract a (a+r))).1,s.extract a (a+r),a)])else([],(a:Int),(Lx.aC (s.extract a (a+r))).2)):=by
 have hl:s.data.toList.length=s.size:=by obtain⟨⟨l⟩⟩:=s;rfl
 obtain⟨c,l,hc⟩:∃c l,s.data.toList.drop a=c::l:=by
  cases h:s.data.toList.drop a with
  |nil=>have:=congrArg List.length h;rw[List.length_drop]at this;simp at this;omega
  |cons c l=>exact⟨c,l,rfl⟩
 obtain⟨_,hb,hd⟩:=Qq s a c l hc
 rw[hb,hd,hc]
 by_cases h1:Lx.blank (c.toNat:Int)=true
 ·exact .inl ⟨h1,λf acc=>by conv=>lhs;unfold Lx.kE
                            rw[if_pos h1]⟩
 ·have h1f:Lx.blank (c.toNat:Int)=false:=by simpa using h1
  by_cases h2:c=35
  ·exact .inr (.inl ⟨h1f,by rw[h2];rfl,λf acc=>by conv=>lhs;unfold Lx.kE
                                                  rw[if_neg h1,if_pos h2]⟩)
  ·refine .inr (.inr ⟨h1f,?_,?_⟩)
   ·intro h
    apply h2
    apply UInt8.toNat_inj.1
    show c.toNat=35
    omega
   ·obtain⟨t,r,e1,e2,e3,e4⟩:=Lx.yt (λc=>!Lx.blank c) (c::l)
    have htl:a+t.length<=s.size:=by
     have:=congrArg List.length e1
     rw[<-hc,List.length_drop,List.length_append]at this
     omega
    have hdt:s.data.toList.drop (a+t.length)=r:=by
     rw[<-List.drop_drop,hc,e1,List.drop_left]
    have hex:s.extract a (a+t.length)=⟨t.toArray⟩:=by
     rw[Lx.fZ,hc,e1,Nat.add_sub_cancel_left,List.take_left]
    refine⟨t.length,?_,htl,λj hj=>?_,λhlt=>?_,λf acc=>?_⟩
    ·cases t with
     |nil=>
      have:=e4 c l (by simpa using e1.symm)
      simp[h1f]at this
     |cons _ _=>simp
    ·obtain⟨x,hx⟩:∃x,t[j]? =some x:=⟨_,List.getElem?_eq_getElem hj⟩
     have hbt:PlainAid.bt s (a+j)=(x.toNat:Int):=by
      rw[<-rq]
      unfold Lx.at_
      rw[List.getD_eq_getElem?_getD,<-List.getElem?_drop,hc,e1,List.getElem?_append_left hj,hx]
      rfl
     rw[hbt]
     rw[List.all_eq_true]at e3
     simpa using e3 x (List.mem_of_getElem? hx)
    ·cases r with
     |nil=>
      have:=congrArg List.length hdt
      rw[List.length_drop]at this
      simp at this
      omega
     |cons x r=>
      obtain⟨_,hb2,_⟩:=Qq s (a+t.length) x r hdt
      rw[hb2]
      simpa using e4 x r rfl
    ·conv=>lhs;unfold Lx.kE
     rw[if_neg h1,if_neg h2,e2,e1,List.take_left,List.drop_left,hex,hdt]
theorem Np:(Tryz.prog.info? 48).map (λi=>(i.zero,i.size,i.bytes))=some (some (.agg #[.int .i64 0,.string ByteArray.empty,.int .i64 0]),3,32):=by kernel_rfl
theorem El (s:ByteArray)(w:World)(_hs:s.size<=9223372036854775807)(h:(1024:Int)<(s.size:Int)):
 Calls Tryz.prog 19 #[.string s] w λe w'=>e=.returned (.tuple #[.slice none 0 0,.int .i64 1024,.int .i64 5])/\w=w':=by
 go_enter Tryz.func19,Tryz.ntmps19
 go_wp2_with fail
 go_ret3
 exact⟨rfl,rfl⟩
theorem Dn (s:ByteArray)(w:World)(hs:s.size<=1024)(Z:List Lx.Tok×Int×Int)(HZ:Hid (Lx.kE (s.size+1) s.data.toList 0 []=Z)):
 Calls Tryz.prog 19 #[.string s] w λe w'=>∃v,e=.returned (.tuple #[v,.int .i64 Z.2.1,.int .i64 Z.2.2])/\w'.ownsRow w.heap.size 48 3 v Z.1.length (Lx.bN Z.1)/\Below w.heap.size w w':=by
 obtain⟨i0,hi,hz0,hz1,hz2⟩:=info_parts Np
 have hub:=PlainAid.get_bt s
 have hbl:=Lib.hid λ(c:Int) (w:World)=>Mt c w
 go_enter Tryz.func19,Tryz.ntmps19
 go_wp2_with fail
 go_loopw [5,6] (λv i wr=>∃(acc:List Lx.Tok) (a f:Nat),a<=s.size/\i=.int .i64 a/\acc.length<=a/\s.size-a<f/\Hid (Below w.heap.size w wr)/\
  Hid (wr.ownsRow w.heap.size 48 3 v acc.length (Lx.bN acc))/\Hid (Lx.kE f (s.data.toList.drop a) a acc=Z)) (λ_ i _=>s.size-(RowKit.intOf i).toNat)
 case atStart=>exact⟨[],0,s.size+1,Nat.zero_le _,rfl,Nat.zero_le _,by omega,Lib.hid (Below.refl _ _),Lib.hid (World.ownsRow_nil _ _ _ _),HZ⟩
 case round=>
  obtain⟨acc,a,f,ha,rfl,hacc,hf,HB,HO,HR⟩:=hrel
  clear HZ
  by_cases hlt:a<s.size
  ·obtain⟨f,rfl⟩:∃g,f=g+1:=⟨f-1,by omega⟩
   have jI:(a:Int)<(s.size:Int):=by omega
   rcases PD s a hlt with⟨hb,hst⟩|⟨hb,Al,hst⟩|⟨hb,Al,r,hr0,hrs,hrb,hre,hst⟩
   ·
    have HR2:Hid (Lx.kE f (s.data.toList.drop (a+1)) (a+1) acc=Z):=Lib.hid (by rw[<-hst f acc];exact HR.out)
    obtain⟨c,hc⟩:∃c,PlainAid.bt s a=c:=⟨_,rfl⟩
    rw[hc]at hb
    have m1:=hbl.out c wr
    rw[hb]at m1
    have hw1:wrap64 ((a:Int)+1)=((a+1:Nat):Int):=by unfold wrap64;omega
    clear hst HR hb hbl
    go_wp2_with (go_at_call 58;refine m1.mono ?_;rintro e w1 ⟨rfl,rfl⟩)
    refine⟨⟨acc,a+1,f,by omega,by first|rfl|go_num,by omega,by omega,HB,HO,HR2⟩,by simp[RowKit.intOf]<;>omega⟩
   ·
    have HZ:Hid (Z=(acc,0,0)):=Lib.hid (by rw[<-HR.out,hst f acc])
    obtain⟨c,hc⟩:∃c,PlainAid.bt s a=c:=⟨_,rfl⟩
    rw[hc]at hb Al
    have m1:=hbl.out c wr
    rw[hb]at m1
    subst Al
    clear hst HR hb hbl
    go_wp2_with (go_at_call 58;refine m1.mono ?_;rintro e w1 ⟨rfl,rfl⟩)
    go_ret3
    rw[HZ.out]
    exact⟨_,rfl,HO.out,HB.out⟩
   ·
    obtain⟨E,hE⟩:∃E,s.extract a (a+r)=E:=⟨_,rfl⟩
    have hEs:E.size<=1000000:=by rw[<-hE,ByteArray.size_extract];omega
    have HZ:Hid ((if (Lx.aC E).2=0 then Lx.kE f (s.data.toList.drop (a+r)) (a+r) (acc++[((Lx.aC E).1,E,a)])else([],(a:Int),(Lx.aC E).2))=Z):=Lib.hid (by
     have:=hst f acc
     rw[hE]at this
     rw[<-HR.out,this])
    have hk:=λW=>Pg E W hEs
    obtain⟨⟨kk,ee⟩,hq⟩:∃q,Lx.aC E=q:=⟨_,rfl⟩
    rw[hq]at HZ hk
    simp only at HZ hk
    have HRB:=Lib.hid hrb
    have HRE:=Lib.hid hre
    obtain⟨c,hc⟩:∃c,PlainAid.bt s a=c:=⟨_,rfl⟩
    rw[hc]at hb Al
    obtain⟨wo,hwo⟩:∃wo:World,wo=wr:=⟨_,rfl⟩
    subst hwo
    have m1:=hbl.out c wo
    rw[hb]at m1
    have HK:=Lib.hid hk
    have h35b:(c==35)=false:=by rw[beq_eq_false_iff_ne];exact Al
    clear hst HR hb hrb hre hq hk hEs Al
    go_wp2_with (go_at_call 58;refine m1.mono ?_;rintro e w1 ⟨rfl,rfl⟩)
    clear m1
    go_loopw [7] (λev wx=>∃j:Nat,ev=.int .i64 ((a+j:Nat):Int)/\j<=r/\wx=wo) (λev _=>2000-(RowKit.intOf ev).toNat)
    case atStart=>exact⟨0,by simp,Nat.zero_le _,rfl⟩
    case round=>
     obtain⟨j,rfl,hj,rfl⟩:=hrel
     by_cases hjr:j<r
     ·have hjs:a+j<s.size:=by omega
      have hjsI:((a+j:Nat):Int)<(s.size:Int):=by omega
      have hbj:=HRB.out j hjr
      obtain⟨d,hd⟩:∃d,PlainAid.bt s (a+j)=d:=⟨_,rfl⟩
      rw[hd]at hbj
      have m2:=hbl.out d wr
      rw[hbj]at m2
      have hw2:wrap64 (((a+j:Nat):Int)+1)=((a+(j+1):Nat):Int):=by unfold wrap64;omega
      obtain⟨e,he⟩:∃e,e=a+j:=⟨_,rfl⟩
      have HE:=Lib.hid he
      rw[<-he]at hjs hjsI hd hw2⊢
      clear hbj HRB HRE HZ HK hbl he hE
      go_wp2_with (go_at_call 58;refine m2.mono ?_;rintro e w1 ⟨rfl,rfl⟩)
      refine⟨⟨j+1,by rw[show((e:Int)+1)=((a+(j+1):Nat):Int)from by rw[HE.out];omega],hjr,trivial⟩,by simp[RowKit.intOf]<;>omega⟩
     ·obtain rfl:j=r:=by omega
      obtain⟨e,he⟩:∃e,e=a+j:=⟨_,rfl⟩
      have HEE:=Lib.hid he
      have m3:=HK.out wr
      have hea:a<=e:=by omega
      have hae:a<e:=by omega
      have haI:(a:Int)<=(e:Int):=by omega
      have hesI:(e:Int)<=(s.size:Int):=by omega
      have hes:e<=s.size:=by omega
      have lC:(¬e<s.size/\¬(e:Int)<(s.size:Int))\/(e<s.size/\(e:Int)<(s.size:Int)/\∃d,PlainAid.bt s e=d/\Calls Tryz.prog 58 #[.int .u8 d] wr λx w'=>x=.returned (.bool true)/\wr=w'):=by
       by_cases h:e<s.size
       ·refine .inr ⟨h,by omega,_,rfl,?_⟩
        have:=hbl.out (PlainAid.bt s e) wr
        rw[show Lx.blank (PlainAid.bt s e)=true from by rw[he];exact HRE.out (by omega)]at this
        exact this
       ·exact .inl ⟨h,by omega⟩
      rw[<-he]at hE HZ hrs⊢
      clear HRB HRE HK hbl he hjr
      by_cases Nu:ee=0
      ·rw[if_pos Nu]at HZ
       subst Nu
       rcases lC with⟨w1,w2⟩|⟨w1,w2,d,hd,m2⟩
       all_goals
        go_wp2_with (first|(go_at_call 58;refine m2.mono ?_;rintro x w1 ⟨rfl,rfl⟩)|(go_at_call 59;refine m3.mono ?_;rintro x w1 ⟨rfl,rfl⟩)|(at_builtin;refine wpList_append_own _ rfl _ _ 44 rfl w.heap.size 48 i0 _ 3 32 Tryz.underlying44 hi hz0 hz1 hz2 rfl (by decide) _ _ _ rfl (HO.out.alloc _) ⟨wr.heap.size,0,none⟩ 1 1 [.int .i64 kk,.string E,.int .i64 (a:Int)] rfl rfl ?c1 ?c2 ?c3 ?c4 ?c5 ?_))
        case c1=>
         intro j u hj
         match j,hj with
         |0,hj=>simp at hj;subst hj;simp[Addr.add]
         |1,hj=>simp at hj;subst hj;simp[Addr.add]
         |2,hj=>simp at hj;subst hj;simp[Addr.add]
         |j+3,hj=>simp at hj
        case c2=>intro u hu;simp at hu;rcases hu with rfl|rfl|rfl<;>rfl
        case c3=>unfold maxLen;omega
        case c4=>omega
        case c5=>have:=HB.out.size;simp;omega
        intro v' w3 hown3 hgrow3 _
        have kY:=(HB.out.alloc HB.out.size _).grown hgrow3 (by have:=HB.out.size;simp;omega) (λk hk=>(HO.out.lt k hk).1)
        have HO3:=Lib.hid hown3
        have HB3:=Lib.hid kY
        clear hgrow3 hown3 kY
        go_wp2_with fail
        refine⟨⟨acc++[(kk,E,a)],e,f,hes,by first|rfl|go_num,by simp;omega,by omega,HB3,Lib.hid ?_,Lib.hid HZ.out⟩,by simp[RowKit.intOf]<;>omega⟩
        rw[Lx.kX,List.length_append]
        simpa[Lx.bN]using HO3.out
      ·have hbe:(ee !=0)=true:=by simpa using Nu
       rw[if_neg Nu]at HZ
       clear Nu
       rcases lC with⟨w1,w2⟩|⟨w1,w2,d,hd,m2⟩
       all_goals
        go_wp2_with (first|(go_at_call 58;refine m2.mono ?_;rintro x w1 ⟨rfl,rfl⟩)|(go_at_call 59;refine m3.mono ?_;rintro x w1 ⟨rfl,rfl⟩))
        go_ret3
        rw[<-HZ.out]
        exact⟨_,rfl,World.ownsRow_nil _ _ _ _,HB.out⟩
  ·have HZ:Hid (Z=(acc,0,0)):=Lib.hid (by
    have hl:s.data.toList.length=s.size:=by obtain⟨⟨l⟩⟩:=s;rfl
    rw[<-HR.out,List.drop_eq_nil_of_le (by omega),Lx.MJ])
   have jI:¬(a:Int)<(s.size:Int):=by omega
   clear HR hbl
   go_wp2_with fail
   go_ret3
   rw[HZ.out]
   exact⟨_,rfl,HO.out,HB.out⟩
theorem rk_tokens (s:ByteArray)(w:World)(hs:s.size<=9223372036854775807):
 Calls Tryz.prog 19 #[.string s] w λe w'=>∃v,e=.returned (.tuple #[v,.int .i64 (Lx.aI s).2.1,.int .i64 (Lx.aI s).2.2])/\w'.ownsRow w.heap.size 48 3 v (Lx.aI s).1.length (Lx.bN (Lx.aI s).1)/\Below w.heap.size w w':=by
 rw[Lx.BA]
 by_cases h:1024<s.size
 ·rw[if_pos h]
  refine(El s w hs (by omega)).mono ?_
  rintro e w' ⟨rfl,rfl⟩
  exact⟨_,rfl,World.ownsRow_nil _ _ _ _,Below.refl _ _⟩
 ·rw[if_neg h]
  exact Dn s w (by omega) _ (Lib.hid rfl)
def dZ (l:List UInt8):List Value:=l.map λc=>.int .i64 ((c.toNat:Int)-48)
theorem nR (a b:List UInt8):dZ (a++b)=dZ a++dZ b:=by simp[dZ]
theorem xS (a:List UInt8):(dZ a).length=a.length:=by simp[dZ]
theorem Ar:(Tryz.prog.info? 3).map (λi=>(i.zero,i.size,i.bytes))=some (some (.int .i64 0),1,8):=by kernel_rfl
theorem Lt (c:UInt8)(h:Id.bS (c.toNat:Int)=true)(hd:Id.digit (c.toNat:Int)=false):65<=c.toNat/\c.toNat<=90/\dZ (Id.fu c)=[.int .i64 (((c.toNat:Int)-55)/10),.int .i64 (((c.toNat:Int)-55)%10)]:=by
 have hup:65<=c.toNat/\c.toNat<=90:=by
  unfold Id.bS Lx.upper at h
  unfold Id.digit at hd
  rw[hd]at h
  simp at h
  omega
 refine⟨hup.1,hup.2,?_⟩
 unfold Id.fu
 rw[hd,if_neg (by simp),Lib.decDigits_two (by omega) (by omega)]
 simp only[dZ,List.map_cons,List.map_nil]
 have e1:(UInt8.ofNat (48+(c.toNat-55)/10)).toNat=48+(c.toNat-55)/10:=by rw[UInt8.toNat_ofNat'];omega
 have e2:(UInt8.ofNat (48+(c.toNat-55)%10)).toNat=48+(c.toNat-55)%10:=by rw[UInt8.toNat_ofNat'];omega
 rw[e1,e2]
 congr 1
 ·congr 1;omega
 ·congr 1;congr 1;omega
theorem Dy (s:ByteArray)(w:World)(hs:s.size<=1000)(hal:∀c∈s.data.toList,Id.bS (c.toNat:Int)=true):
 Calls Tryz.prog 221 #[.string s] w λe w'=>∃v,e=.returned v/\w'.ownsRow w.heap.size 3 1 v (Id.aT s.data.toList).length (dZ (Id.aT s.data.toList))/\Below w.heap.size w w':=by
 obtain⟨i0,hi,hz0,hz1,hz2⟩:=info_parts Ar
 have hub:=PlainAid.get_bt s
 have RA:=Lib.hid hal
 clear hal
 go_enter Tryz.func221,Tryz.ntmps221
 go_wp2_with fail
 go_loopw [3,4,5] (λv i x5 wr=>∃k:Nat,k<=s.size/\i=.int .i64 k/\Hid (Below w.heap.size w wr)/\Hid (wr.ownsRow w.heap.size 3 1 v (Id.aT (s.data.toList.take k)).length (dZ (Id.aT (s.data.toList.take k))))) (λ_ i _ _=>s.size-(RowKit.intOf i).toNat)
 case atStart=>exact⟨0,Nat.zero_le _,rfl,Lib.hid (Below.refl _ _),Lib.hid (World.ownsRow_nil _ _ _ _)⟩
 case round=>
  obtain⟨k,hk,rfl,HB,HO⟩:=hrel
  by_cases hlt:k<s.size
  ·have jI:(k:Int)<(s.size:Int):=by omega
   have hmem:s[k]∈s.data.toList:=by
    rw[List.mem_iff_getElem]
    exact⟨k,by rw[<-Lib.size_eq];exact hlt,by rw[Array.getElem_toList];rfl⟩
   have Ed:=RA.out _ hmem
   have htk:∀c∈s.data.toList.take k,Id.bS (c.toNat:Int)=true:=λc hc=>RA.out c (List.mem_of_mem_take hc)
   have hel:=Id.kK _ htk
   have QK:(s.data.toList.take k).length<=k:=List.length_take_le _ _
   have HS:=Lib.hid (Id.sP s k hlt)
   have HLEN:Hid ((Id.aT (s.data.toList.take k)).length<=2000):=Lib.hid (by omega)
   have hbc:=hub k hlt
   have hd:=λW=>yU (PlainAid.bt s k) W
   have hw1:wrap64 ((k:Int)+1)=((k+1:Nat):Int):=by unfold wrap64;omega
   have hk1:k+1<=s.size:=hlt
   cases hdg:Id.digit (PlainAid.bt s k)with
   |true=>
    rw[hdg]at hd
    have hx1:Id.fu s[k]=[s[k]]:=by
     unfold Id.fu
     rw[if_pos (by rw[hbc];exact hdg)]
    obtain⟨c,hc⟩:∃c,PlainAid.bt s k=c:=⟨_,rfl⟩
    have Dj:48<=c/\c<=57:=by
     rw[hc]at hdg
     unfold Id.digit Lx.digit at hdg
     simp at hdg
     exact hdg
    have HX:Hid (dZ (Id.aT (s.data.toList.take (k+1)))=dZ (Id.aT (s.data.toList.take k))++[.int .i64 (c-48)]/\(Id.aT (s.data.toList.take (k+1))).length=(Id.aT (s.data.toList.take k)).length+1):=Lib.hid (by
     rw[HS.out,hx1,nR,List.length_append]
     refine⟨?_,rfl⟩
     show _++[Value.int .i64 ((s[k].toNat:Int)-48)]=_
     rw[hbc,hc])
    rw[hc]at hbc hd
    have hwu:IntKind.u8.wrap (c-48)=c-48:=IntWalk.u8_in _ (by omega)
    have FO:=hd wr
    generalize dZ (Id.aT (s.data.toList.take k))=xs at *
    generalize (Id.aT (s.data.toList.take k)).length=n at *
    clear hdg Ed hmem htk hel QK HS hx1 hub RA hd hc
    go_wp2_with (first|(go_at_call 220;refine FO.mono ?_;rintro e w1 ⟨rfl,jv⟩;obtain rfl:=jv.symm;clear jv)|(at_builtin;refine wpList_append_own _ rfl _ _ 208 rfl w.heap.size 3 i0 _ 1 8 Tryz.underlying208 hi hz0 hz1 hz2 rfl (by decide) _ _ _ rfl (HO.out.alloc _) ⟨wr.heap.size,0,none⟩ 1 1 [.int .i64 (c-48)] rfl rfl ?c1 ?c2 ?c3 ?c4 ?c5 ?_))
    case c1=>
     intro j u hj
     match j,hj with
     |0,hj=>simp at hj;subst hj;simp[Addr.add]
     |j+1,hj=>simp at hj
    case c2=>intro u hu;simp at hu;rcases hu with rfl;rfl
    case c3=>have:=HLEN.out;unfold maxLen;omega
    case c4=>have:=HLEN.out;omega
    case c5=>have:=HB.out.size;simp;omega
    intro v' w3 hown3 hgrow3 _
    have kY:=(HB.out.alloc HB.out.size _).grown hgrow3 (by have:=HB.out.size;simp;omega) (λk hk=>(HO.out.lt k hk).1)
    have HO3:=Lib.hid hown3
    have HB3:=Lib.hid kY
    clear hgrow3 hown3 kY
    go_wp2_with fail
    refine⟨⟨k+1,hk1,by first|rfl|go_num,HB3,Lib.hid ?_⟩,by simp[RowKit.intOf]<;>omega⟩
    rw[HX.out.1,HX.out.2]
    exact HO3.out
   |false=>
    rw[hdg]at hd
    obtain⟨u1,u2,hx1⟩:=Lt s[k] Ed (by rw[hbc];exact hdg)
    obtain⟨c,hc⟩:∃c,PlainAid.bt s k=c:=⟨_,rfl⟩
    have hc65:65<=c/\c<=90:=by
     have h1:(s[k].toNat:Int)=c:=hbc.trans hc
     omega
    have HX:Hid (dZ (Id.aT (s.data.toList.take (k+1)))=dZ (Id.aT (s.data.toList.take k))++[.int .i64 ((c-55)/10),.int .i64 ((c-55)%10)]/\(Id.aT (s.data.toList.take (k+1))).length=(Id.aT (s.data.toList.take k)).length+2):=Lib.hid (by
     have hl2:=congrArg List.length hx1
     rw[xS]at hl2
     rw[HS.out,nR,hx1,List.length_append,hl2,hbc,hc]
     exact⟨rfl,rfl⟩)
    rw[hc]at hbc hd
    have hwu:IntKind.u8.wrap (c-65)=c-65:=IntWalk.u8_in _ (by omega)
    have FO:=hd wr
    have e55:c-65+10=c-55:=by omega
    obtain⟨d,hdd⟩:∃d,c-55=d:=⟨_,rfl⟩
    have hd35:0<=d/\d<=35:=by omega
    rw[hdd]at e55 HX
    have q1:d.tdiv 10=d/10:=Int.tdiv_eq_ediv_of_nonneg hd35.1
    have q2:d.tmod 10=d%10:=Int.tmod_eq_emod_of_nonneg hd35.1
    generalize dZ (Id.aT (s.data.toList.take k))=xs at *
    generalize (Id.aT (s.data.toList.take k)).length=n at *
    clear hdg Ed hmem htk hel QK HS hx1 hub RA hd hc hdd u1 u2
    go_wp2_with (first|(go_at_call 220;refine FO.mono ?_;rintro e w1 ⟨rfl,jv⟩;obtain rfl:=jv.symm;clear jv)|(at_builtin;refine wpList_append_own _ rfl _ _ 208 rfl w.heap.size 3 i0 _ 1 8 Tryz.underlying208 hi hz0 hz1 hz2 rfl (by decide) _ _ _ rfl (HO.out.alloc _) ⟨wr.heap.size,0,none⟩ 2 2 [.int .i64 (d/10),.int .i64 (d%10)] rfl rfl ?c1 ?c2 ?c3 ?c4 ?c5 ?_))
    case c1=>
     intro j u hj
     match j,hj with
     |0,hj=>simp at hj;subst hj;simp[Addr.add]
     |1,hj=>simp at hj;subst hj;simp[Addr.add]
     |j+2,hj=>simp at hj
    case c2=>intro u hu;simp at hu;rcases hu with rfl|rfl<;>rfl
    case c3=>have:=HLEN.out;unfold maxLen;omega
    case c4=>have:=HLEN.out;omega
    case c5=>have:=HB.out.size;simp;omega
    intro v' w3 hown3 hgrow3 _
    have kY:=(HB.out.alloc HB.out.size _).grown hgrow3 (by have:=HB.out.size;simp;omega) (λk hk=>(HO.out.lt k hk).1)
    have HO3:=Lib.hid hown3
    have HB3:=Lib.hid kY
    clear hgrow3 hown3 kY
    go_wp2_with fail
    refine⟨⟨k+1,hk1,by first|rfl|go_num,HB3,Lib.hid ?_⟩,by simp[RowKit.intOf]<;>omega⟩
    rw[HX.out.1,HX.out.2]
    exact HO3.out
  ·have hkk:k=s.size:=by omega
   have jI:¬(k:Int)<(s.size:Int):=by omega
   have HE:Hid (s.data.toList.take k=s.data.toList):=Lib.hid (List.take_of_length_le (by rw[<-Lib.size_eq];omega))
   rw[HE.out]at HO
   clear hub RA
   go_wp2_with fail
   go_ret
   exact⟨_,rfl,HO.out,HB.out⟩
theorem Jv (s L:ByteArray)(w:World)(hL:L.size<=2000)(hdig:Hid (∀j,j<L.size->48<=PlainAid.bt L j/\PlainAid.bt L j<=57))
 (nE:Hid (Calls Tryz.prog 221 #[.string s] w λe w'=>∃a c,e=.returned (.slice a L.size c)/\L.size<=c/\(0<L.size->∃sb,a=some ⟨sb,0,none⟩/\∀k,k<L.size->w'.cell? ⟨sb,k,none⟩=some (.int .i64 (PlainAid.bt L k-48)))/\Below w.heap.size w w')):
 Calls Tryz.prog 174 #[.string s] w λe w'=>e=.returned (.int .i64 ((10-Id.jC L L.size%10)%10))/\Below w.heap.size w w':=by
 have HBD:=Lib.hid (Id.CQ L hdig.out)
 go_enter Tryz.func174,Tryz.ntmps174
 go_wp2_with (go_at_call 221;refine nE.out.mono ?_;rintro e w1 ⟨a,c,rfl,hlc,hcell,hb1⟩;have HC:=Lib.hid hcell;have HB:=Lib.hid hb1;clear hcell hb1)
 go_loopw [4,5,6] (λsm i _ wr=>∃(k:Nat) (x:Int),k<=L.size/\i=.int .i64 k/\wr=w1/\sm=.int .i64 x/\Hid (x=Id.jC L k)) (λ_ i _ _=>L.size-(RowKit.intOf i).toNat)
 case atStart=>exact⟨0,0,Nat.zero_le _,rfl,rfl,rfl,Lib.hid rfl⟩
 case round=>
  obtain⟨k,x,hk,rfl,hwr,rfl,HX⟩:=hrel
  subst hwr
  have hbd:=HBD.out k hk
  rw[<-HX.out]at hbd
  by_cases hlt:k<L.size
  ·have jI:(k:Int)<(L.size:Int):=by omega
   obtain⟨sb,rfl,hcell⟩:=HC.out (by omega)
   obtain⟨j,hj⟩:∃j,j=L.size-1-k:=⟨_,rfl⟩
   have hjl:j<L.size:=by omega
   have hjI:(L.size:Int)-1-(k:Int)=(j:Int):=by omega
   have y1:=hcell j hjl
   have hdj:=hdig.out j hjl
   obtain⟨d,hd⟩:∃d,PlainAid.bt L j-48=d:=⟨_,rfl⟩
   have hd9:0<=d/\d<=9:=by omega
   have HT:Hid (Id.jC L (k+1)=x+(if (k:Int)%2=0 then d*2/10+d*2%10 else d/10+d%10)):=Lib.hid (by
    rw[HX.out,<-hd,hj];rfl)
   rw[hd]at y1
   have hx20:x<=36000/\0<=x:=by omega
   have hk1:k+1<=L.size:=hlt
   have hs1:wrap64 ((L.size:Int)-1)=(L.size:Int)-1:=by unfold wrap64;omega
   have hs2:wrap64 ((L.size:Int)-1-(k:Int))=(j:Int):=by unfold wrap64;omega
   have hw1:wrap64 ((k:Int)+1)=((k+1:Nat):Int):=by unfold wrap64;omega
   clear hcell hdj hd HX hj hbd HC HBD hdig
   by_cases hev:(k:Int)%2=0
   ·have hbe:((k:Int)%2==0)=true:=by simpa using hev
    have hbt:((k:Int).tmod 2==0)=true:=by rw[Int.tmod_eq_emod_of_nonneg (by omega)];exact hbe
    have HE:=Lib.hid hev
    clear hev
    go_wp2_with fail
    exact⟨⟨k+1,_,hk1,by first|rfl|go_num,by first|rfl|trivial,rfl,Lib.hid (by rw[HT.out,if_pos HE.out];omega)⟩,by simp[RowKit.intOf]<;>omega⟩
   ·have hbe:((k:Int)%2==0)=false:=by simpa using hev
    have hbt:((k:Int).tmod 2==0)=false:=by rw[Int.tmod_eq_emod_of_nonneg (by omega)];exact hbe
    have HE:=Lib.hid hev
    clear hev
    go_wp2_with fail
    exact⟨⟨k+1,_,hk1,by first|rfl|go_num,by first|rfl|trivial,rfl,Lib.hid (by rw[HT.out,if_neg HE.out];omega)⟩,by simp[RowKit.intOf]<;>omega⟩
  ·have hkk:k=L.size:=by omega
   have jI:¬(k:Int)<(L.size:Int):=by omega
   have HX2:Hid (x=Id.jC L L.size):=Lib.hid (by rw[HX.out,hkk])
   clear HC HBD hdig HX hkk
   go_wp2_with fail
   go_ret
   refine⟨?_,HB.out⟩
   rw[<-HX2.out]
   rfl
theorem BF (s:ByteArray)(w:World)(hs:s.size<=1000)(hal:∀c∈s.data.toList,Id.bS (c.toNat:Int)=true):
 ∃z:Int,0<=z/\z<=9/\Id.ET s.data.toList=Lib.decDigits z.toNat/\Calls Tryz.prog 174 #[.string s] w λe w'=>e=.returned (.int .i64 z)/\Below w.heap.size w w':=by
 have hlen:=Id.kK _ hal
 rw[<-Lib.size_eq]at hlen
 have hdig:=Id.yc _ (Id.nZ _ hal)
 obtain⟨L,hL⟩:∃L:ByteArray,L=⟨(Id.aT s.data.toList).toArray⟩:=⟨_,rfl⟩
 have hLs:L.size=(Id.aT s.data.toList).length:=by rw[hL];rfl
 rw[<-hL]at hdig
 refine⟨(10-Id.jC L L.size%10)%10,by omega,by omega,by rw[hL];rfl,Jv s L w (by omega) (Lib.hid hdig) (Lib.hid ((Dy s w hs hal).mono ?_))⟩
 rintro e w' ⟨v,rfl,hv,hb⟩
 rw[<-hLs]at hv
 have hc:∃a c,v=.slice a L.size c/\L.size<=c/\(0<L.size->∃sb,a=some ⟨sb,0,none⟩/\∀k,k<L.size->w'.cell? ⟨sb,k,none⟩=some (.int .i64 (PlainAid.bt L k-48))):=by
  rcases hv.2 with⟨h1,h0⟩|⟨g,cap,cur,h1,hB,hh,hn,hcap,Ot,htake⟩
  ·exact⟨none,0,by rw[h0];exact h1,by omega,λh=>by omega⟩
  ·refine⟨_,cap,h1,hn,λh0=>⟨g,rfl,λk hk=>?_⟩⟩
   have hcell:=hv.cells (g:=g) (by rw[h1];rfl) k (.int .i64 (PlainAid.bt L k-48)) (by
    unfold dZ
    rw[List.getElem?_map,List.getElem?_eq_getElem (by rw[<-hLs];exact hk)]
    have e:PlainAid.bt L k=((Id.aT s.data.toList)[k]'(by rw[<-hLs];exact hk)).toNat:=by
     rw[<-PlainAid.get_bt L k hk]
     subst hL
     rfl
    rw[e]
    rfl)
   have add:∀j,(⟨g,0,none⟩:Addr).add j=⟨g,j,none⟩:=λj=>by unfold Addr.add;split<;>simp_all
   rwa [add]at hcell
 obtain⟨a,c,rfl,h1,h2⟩:=hc
 exact⟨a,c,rfl,h1,h2,hb⟩
theorem Ord.textD_skip {P:Program}{ops:Array Oper}{Q:Exit->Act->World->Prop}{S:Bool->World->Prop}{k0:Nat}{D:Nat->Bool}{k:Nat}{o:Oper}{rest:List Oper}{a:Act}(hw:Region.wanted o (yielded ops a.tmps)=false)(hk:decide (k=k0)=false)
 (h2:Ord.jQ P ops Q S k0 D (k+1) rest (a.put o.dst undef)):Ord.jQ P ops Q S k0 D k (o::rest) a:=⟨undef,λb _ _=>.inr ⟨hw,rfl,λw hS=>by rw[hk,Bool.or_false];exact hS⟩,h2⟩
theorem BR (s:ByteArray)(w:World)(e:Int)(j:Nat)(hs:s.size<=9223372036854775807)(cls:Nat->Int->Bool)(z c11:Int)
 (nL:Hid (∀w,Calls Tryz.prog 172 #[.int .i64 0] w λe w'=>e=.returned (.tuple #[.int .i64 12,.int .i64 12])/\w'=w))
 (nM:Hid (∀(i:Nat) (c:Int) w,i<12->Calls Tryz.prog 173 #[.int .i64 0,.int .i64 i,.int .u8 c] w λe w'=>e=.returned (.bool (cls i c))/\w'=w))
 (nU:Hid (s.size=12->j=12->∀W,Calls Tryz.prog 174 #[.string (s.extract 0 11)] W λe w'=>e=.returned (.int .i64 z)/\Below W.heap.size W w'))
 (JM:PlainAid.bt s 11=c11) (Dj:Hid (s.size=12->j=12->48<=c11/\c11<=57))
 (hjn:j<=12) (hjs:j<=s.size) (hgood:Hid (∀i,i<j->cls i (PlainAid.bt s i)=true))
 (lC:Hid ((j<12/\j<s.size/\cls j (PlainAid.bt s j)=false/\e=3)\/((j=12\/j=s.size)/\(((s.size:Int)<12/\e=4)\/(¬(s.size:Int)<12/\(s.size:Int)>12/\e=5)\/(¬(s.size:Int)<12/\¬(s.size:Int)>12/\e=if c11-48=z then 0 else 18))))):
 Calls Tryz.prog 92 #[.int .i64 0,.string s] w λx w'=>(∃z:Int,x=.returned (.tuple #[.int .i64 z,.int .i64 e]))/\Below w.heap.size w w':=by
 have hub:=PlainAid.get_bt s
 go_enter Tryz.func92,Tryz.ntmps92
 go_wp2_with (go_at_call 172;refine(nL.out _).mono ?_;rintro x w1 ⟨rfl,jv⟩;obtain rfl:=jv.symm;clear jv)
 go_loopw [8] (λiv wr=>∃i:Nat,iv=.int .i64 i/\i<=j/\wr=w) (λiv _=>2000-(RowKit.intOf iv).toNat)
 case atStart=>exact⟨0,rfl,Nat.zero_le _,rfl⟩
 case round=>
  obtain⟨i,rfl,hi,hwr⟩:=hrel
  subst hwr
  by_cases hlt:i<j
  ·have hx:i<s.size:=by omega
   have hxi:(i:Int)<(s.size:Int):=by omega
   have hxh:(i:Int)<12:=by omega
   have m1:=λw=>nM.out i (PlainAid.bt s i) w (by omega)
   simp only[hgood.out i hlt]at m1
   clear lC Dj nU JM
   go_wp2_with (go_at_call 173;refine(m1 _).mono ?_;rintro x w1 ⟨rfl,jv⟩;obtain rfl:=jv.symm;clear jv)
   go_roundw
   case rel=>exact⟨i+1,by go_num,by omega,by first|rfl|trivial⟩
   case measure=>simp[RowKit.intOf];omega
  ·obtain rfl:i=j:=by omega
   rcases lC.out with⟨h1,h2,h3,rfl⟩|⟨h1,h4⟩
   ·have hxi:(i:Int)<(s.size:Int):=by omega
    have hxh:(i:Int)<12:=by omega
    have m1:=λw=>nM.out i (PlainAid.bt s i) w (by omega)
    simp only[h3]at m1
    clear lC Dj nU JM
    go_wp2_with (go_at_call 173;refine(m1 _).mono ?_;rintro x w1 ⟨rfl,jv⟩;obtain rfl:=jv.symm;clear jv)
    go_ret2
    exact⟨⟨_,rfl⟩,Below.refl _ _⟩
   ·have hnc:¬(i:Int)<(s.size:Int)\/((i:Int)<(s.size:Int)/\¬(i:Int)<12):=by omega
    rcases h4 with⟨h5,rfl⟩|⟨h5,h6,rfl⟩|⟨h5,h6,he⟩
    ·clear lC Dj nU JM
     rcases hnc with hc|⟨hc,hc2⟩
     all_goals
      first
       |(exfalso;omega)
       |(go_wp2_with fail
         go_ret2
         exact⟨⟨_,rfl⟩,Below.refl _ _⟩)
    ·clear lC Dj nU JM
     rcases hnc with hc|⟨hc,hc2⟩
     all_goals
      first
       |(exfalso;omega)
       |(go_wp2_with fail
         go_ret2
         exact⟨⟨_,rfl⟩,Below.refl _ _⟩)
    ·have H7:s.size=12:=by omega
     have hi12:i=12:=by omega
     have hc:¬(i:Int)<(s.size:Int):=by omega
     have hU:=nU.out H7 hi12
     have h48:=Dj.out H7 hi12
     have h11:11<s.size:=by omega
     have h11I:(11:Int)<(s.size:Int):=by omega
     have h11L:(11:Int)<=(s.size:Int):=by omega
     have h11N:11<=s.size:=by omega
     have hb:=hub 11 h11
     rw[JM]at hb
     have hwu:IntKind.u8.wrap (c11-48)=c11-48:=IntWalk.u8_in _ (by omega)
     have hwi:IntKind.i64.wrap (c11-48)=c11-48:=IntWalk.i64_in _ (by omega)
     have HE:=Lib.hid he
     have HU:=Lib.hid hU
     obtain⟨E,hE⟩:∃E,s.extract 0 11=E:=⟨_,rfl⟩
     rw[hE]at HU
     clear lC Dj nU hU he hnc hgood h1 hi12 H7 hub JM
     by_cases hz:c11-48=z
     ·have hnz:(c11-48 !=z)=false:=by simp[hz]
      have he0:e=0:=by rw[HE.out,if_pos hz]
      subst he0
      clear HE hnz
      subst hz
      go_upto_region 13 with fail
      go_region_with (first|(go_at_call 174;refine(HU.out _).mono ?_;rintro x w1 ⟨rfl,hbw⟩))
      all_goals
       have HBW:=Lib.hid ((Below.refl _ _).drew.trans (hbw.mono (by first|exact Nat.le_refl _|(simp;done))))
       clear hbw
       go_upto_region 15 with fail
       clear hwi hwu hb h48 nL nM HU h5 h6 h11 h11I h11L h11N hc
       obtain⟨W9,hW9⟩:∃W9,W9=w1.drew:=⟨_,rfl⟩
       refine Ord.tH (λ_ w=>w=W9) 1000 (λ_=>false) (λ_ _ _ h=>by cases h) rfl (by kernel_rfl) (by kernel_rfl) (by exact hW9.symm) ?_
       refine Ord.jw (v:=?_) rfl rfl (λw=>?_) (λK hK=>?_)
       rotate_left
       ·(go_simp;first|done|exact rfl)
       go_simp
       refine hK _ ?_
       clear hK K
       refine Ord.jw (v:=?_) rfl rfl (λw=>?_) (λK hK=>?_)
       rotate_left
       ·(go_simp;first|done|exact rfl)
       go_simp
       refine hK _ ?_
       clear hK K
       refine Ord.jw (v:=?_) rfl rfl (λw=>?_) (λK hK=>?_)
       rotate_left
       ·(go_simp;first|done|exact rfl)
       go_simp
       refine hK _ ?_
       clear hK K
       refine Ord.textD_skip rfl rfl ?_
       go_simp
       refine Ord.textD_skip rfl rfl ?_
       go_simp
       refine Ord.textD_skip rfl rfl ?_
       go_simp
       refine Ord.textD_skip rfl rfl ?_
       go_simp
       refine Ord.textD_skip rfl rfl ?_
       go_simp
       refine Ord.textD_skip rfl rfl ?_
       go_simp
       refine Ord.textD_skip rfl rfl ?_
       go_simp
       refine Ord.textD_skip rfl rfl ?_
       go_simp
       refine Ord.textD_skip rfl rfl ?_
       go_simp
       refine Ord.jw (v:=?_) rfl rfl (λw=>?_) (λK hK=>?_)
       rotate_left
       ·(go_simp;first|done|exact rfl)
       go_simp
       refine hK _ ?_
       clear hK K
       refine Ord.Ji (λw9 ru=>?_)
       subst ru
       rename_i hKK
       refine hKK _ _ ?_
       clear hKK
       go_wp2_with fail
       go_ret2
       exact⟨⟨_,rfl⟩,by first|exact HBW.out.drew|(rw[hW9];exact HBW.out.drew)⟩
     ·have hnz:(c11-48 !=z)=true:=by simp[hz]
      have he0:e=18:=by rw[HE.out,if_neg hz]
      subst he0
      clear HE
      go_upto_region 13 with fail
      go_region_with (first|(go_at_call 174;refine(HU.out _).mono ?_;rintro x w1 ⟨rfl,hbw⟩))
      all_goals
       have HBW:=Lib.hid ((Below.refl _ _).drew.trans (hbw.mono (by first|exact Nat.le_refl _|(simp;done))))
       clear hbw
       go_wp2_with fail
       go_ret2
       exact⟨⟨_,rfl⟩,HBW.out⟩
theorem EB (s:ByteArray)(hs:s.size<=9223372036854775807)(w:World):
 Calls Tryz.prog 92 #[.int .i64 0,.string s] w λx w'=>(∃z:Int,x=.returned (.tuple #[.int .i64 z,.int .i64 (aP 0 s)]))/\Below w.heap.size w w':=by
 have nL:=Lib.hid λw=>rX 0 (by omega) w
 obtain⟨j,h1,h2,h3,h4⟩:=Fv 0 12 s rfl rfl
 have hfull:ag 0 s=0->s.size=12/\(∀c∈(s.extract 0 11).data.toList,Id.bS (c.toNat:Int)=true)/\Id.digit (PlainAid.bt s 11)=true:=λh0=>by
  obtain⟨k1,k2,k3⟩:=eP 0 s h0
  have e1:(aL 0).low=12:=rfl
  have e2:(bB 0).length=12:=rfl
  rw[e1]at k1
  rw[e2]at k2
  exact⟨by omega,jT 0 (.inl rfl) s 11 h0,k3 11 (by omega)⟩
 obtain⟨z,hz0,hz9,hzl,hzU⟩:∃z:Int,0<=z/\z<=9/\(ag 0 s=0->Id.ET (s.extract 0 11).data.toList=Lib.decDigits z.toNat)/\(ag 0 s=0->∀W,Calls Tryz.prog 174 #[.string (s.extract 0 11)] W λe w'=>e=.returned (.int .i64 z)/\Below W.heap.size W w'):=by
  by_cases h0:ag 0 s=0
  ·obtain⟨H7,hal,_⟩:=hfull h0
   have hsz:(s.extract 0 11).size<=1000:=by rw[ByteArray.size_extract];omega
   obtain⟨z,q1,q2,q3,_⟩:=BF (s.extract 0 11) w hsz hal
   refine⟨z,q1,q2,λ_=>q3,λ_ W=>?_⟩
   obtain⟨z',p1,p2,p3,p4⟩:=BF (s.extract 0 11) W hsz hal
   have hzz:z'=z:=by
    have:=p3.symm.trans q3
    rw[Lib.decDigits_one (by omega),Lib.decDigits_one (by omega)]at this
    have h5:=congrArg (λl:List UInt8=>(l.head?.map UInt8.toNat).getD 0) this
    simp only[List.head?_cons,Option.map_some,Option.getD_some,UInt8.toNat_ofNat']at h5
    omega
   rw[hzz]at p4
   exact p4
  ·exact⟨0,by omega,by omega,λh=>absurd h h0,λh=>absurd h h0⟩
 have hj12:s.size=12->j=12->ag 0 s=0:=λe1 e2=>by
  rcases h4 with⟨k1,_⟩|⟨_,⟨k1,_⟩|⟨_,k1,_⟩|⟨_,_,k1⟩⟩
  ·omega
  ·have e3:nz 0=12:=rfl
   rw[e3]at k1;omega
  ·omega
  ·exact k1
 refine BR s w (aP 0 s) j hs (lh 0) z (PlainAid.bt s 11) nL (Lib.hid λi c w hi=>F3 0 (by omega) i (by show(i:Int)<12;omega) c w) (Lib.hid λe1 e2=>hzU (hj12 e1 e2)) rfl (Lib.hid λe1 e2=>?_) h1 h2 (Lib.hid h3) (Lib.hid ?_)
 ·have:=(hfull (hj12 e1 e2)).2.2
  unfold Id.digit Lx.digit at this
  simpa using this
 ·have e3:nz 0=12:=rfl
  rw[e3]at h4
  rcases h4 with⟨k1,k2,k3,k4⟩|⟨k0,⟨k1,k2⟩|⟨k1,k2,k3⟩|⟨k1,k2,k3⟩⟩
  ·refine .inl ⟨k1,k2,k3,?_⟩
   unfold aP
   rw[if_pos (by rw[k4];decide),k4]
  ·refine .inr ⟨k0,.inl ⟨k1,?_⟩⟩
   unfold aP
   rw[if_pos (by rw[k2];decide),k2]
  ·refine .inr ⟨k0,.inr (.inl ⟨k1,k2,?_⟩)⟩
   unfold aP
   rw[if_pos (by rw[k3];decide),k3]
  ·refine .inr ⟨k0,.inr (.inr ⟨k1,k2,?_⟩)⟩
   obtain⟨H7,_,hd⟩:=hfull k3
   have hl:=hzl k3
   have e4:(s.extract 0 11).data.toList=s.data.toList.take 11:=extract_upto s 11
   rw[e4]at hl
   have hb:PlainAid.bt s 11=(s[11].toNat:Int):=(PlainAid.get_bt s 11 (by omega)).symm
   have hdrop:s.data.toList.drop 11=[s[11]]:=by
    have hlen:s.data.toList.length=12:=by rw[<-Lib.size_eq];exact H7
    have h5:s.data.toList.drop 11=s.data.toList[11]::s.data.toList.drop 12:=List.drop_eq_getElem_cons (by omega)
    rw[h5,List.drop_eq_nil_of_le (by omega)]
    rfl
   have hd2:48<=s[11].toNat/\s[11].toNat<=57:=by
    rw[hb]at hd
    unfold Id.digit Lx.digit at hd
    simp at hd
    omega
   unfold aP
   rw[if_neg (by rw[k3];decide),if_pos rfl,hl,hdrop,Lib.decDigits_one (by omega),hb]
   by_cases hq:(s[11].toNat:Int)-48=z
   ·rw[if_pos hq,if_pos]
    congr 1
    apply UInt8.toNat.inj
    rw[UInt8.toNat_ofNat']
    omega
   ·rw[if_neg hq,if_neg]
    intro hc
    injection hc with hc _
    have:=congrArg UInt8.toNat hc
    rw[UInt8.toNat_ofNat']at this
    omega
theorem rk5_check (k:Nat)(hk:k<3)(s:ByteArray)(hs:s.size<=9223372036854775807)(w:World):
 Calls Tryz.prog 92 #[.int .i64 k,.string s] w λx w'=>(∃z:Int,x=.returned (.tuple #[.int .i64 z,.int .i64 (aP k s)]))/\Below w.heap.size w w':=by
 rcases(show k=0\/k=1\/k=2 by omega)with rfl|hk
 ·exact EB s (by omega) w
 ·exact Bl k hk s hs w
end Go.Proofs.YtnjjeapcalkmaaaGreatDoor
