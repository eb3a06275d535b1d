/-
  Part 8 of a proof; written short by a program out of longer texts of mine.
-/
import Derived.Test.YtnjjeapcalkmaaaGreatDoorPxG
set_option maxRecDepth 100000
set_option maxHeartbeats 4000000
set_option linter.unusedVariables false
set_option linter.unusedSimpArgs false
namespace Go.Proofs.YtnjjeapcalkmaaaGreatDoor
open Go.RowKit
open Go.Proofs.YtnjjeapcalkmaaaGreatDoor.Ord
open Go.Proofs.YtnjjeapcalkmaaaGreatDoor.Ev (AV Mem Fr lX aM fe)
def oN (Q:Ps.Req)(lv:Value):List Value:=([.int .i64 Q.op,.string Q.sender,.string Q.ref]:List Value)++aA Q.ins lv++aG Q.amd
def H8 (g:Nat)(Q:Ps.Req)(lv:Value):List (Option (Nat×Nat)×List Value):=[(some (g,0),oN Q lv),(none,aA {} (.slice none 0 0)),(none,aG {})]
def Qj (V:Nat->ByteArray->Bool)(g:Nat)(Q:Ps.Req)(lv:Value)(xi xa:Int)(sm:Bool)(f:FuncId)(vs:List AV):Option Value:=
 if f=80 then(match vs with
  |[.v (.int .i64 k),.r 0 j]=>if (k=1\/k=2)/\(j=1\/j=2)then some (.bool (V k.toNat (if j=1 then Q.sender else Q.ref)))else none
  |_=>none)
 else if f=81 then(match vs with|[.a 0 3 16]=>some (.int .i64 xi)|_=>none)
 else if f=35 then(match vs with|[.a 0 3 16,.a 1 0 16]=>some (.bool sm)|_=>none)
 else if f=82 then(match vs with|[.a 0 19 9]=>some (.int .i64 xa)|_=>none)
 else wZ (List.map (fe (H8 g Q lv))) f vs
def Je (V:AV->Value)(Q:Ps.Req)(o:Oper)(ov:Operand->Option AV):Option AV:=match o.op with
 | .build t ps=>(match ps.toList with
   |[]=>if t=34 then some (.a 1 0 16)else if t=35 then some (.a 2 0 9)else none
   |_=>Ev.qp V o ov)
 | .binOp .neq t x y _=>if t=35 then(match ov x,ov y with
   |some (.a 0 19 9),some (.a 2 0 9)=>some (.v (.bool (!decide Q.amd.none)))
   |_,_=>none)else none
 |_=>none
def rqM (V:Nat->ByteArray->Bool)(g:Nat)(Q:Ps.Req)(lv:Value)(xi xa:Int)(sm:Bool):Mem Unit:=lX pM (H8 g Q lv) (Qj V g Q lv xi xa sm) (Je (fe (H8 g Q lv)) Q)
def sH (V:Nat->ByteArray->Bool)(Q:Ps.Req)(xi xa:Int)(sm:Bool):Int:=
 if (af [(!inB Q.op 0 4,11),(!V 1 Q.sender,6),(!V 2 Q.ref,6)] !=0)=true then af [(!inB Q.op 0 4,11),(!V 1 Q.sender,6),(!V 2 Q.ref,6)]
 else if (Q.op==0)=true then(if (xi !=0)=true then xi else if (af [(!(Q.ins.ref.toList==Q.ref.toList)||!(Q.ins.sender.toList==Q.sender.toList),17)] !=0)=true then af [(!(Q.ins.ref.toList==Q.ref.toList)||!(Q.ins.sender.toList==Q.sender.toList),17)]else if (Q.op==1)=true then xa else af [(!decide Q.amd.none,3)])
 else if (af [(!sm,3)] !=0)=true then af [(!sm,3)]else if (Q.op==1)=true then xa else af [(!decide Q.amd.none,3)]
theorem rq_w1 (w:World)(V:Nat->ByteArray->Bool)(Q:Ps.Req)(sa:Option Addr)(sn sc:Nat)(xi xa:Int)(sm:Bool)
 (cV:∀(W1:World) (k:Nat) (s:ByteArray),k<3->Below w.heap.size w W1->Calls Tryz.prog 80 #[.int .i64 k,.string s] W1 λe w'=>e=.returned (.bool (V k s))/\Below W1.heap.size W1 w')
 (nI:∀W,Below w.heap.size w W->Calls Tryz.prog 81 #[.agg (aA Q.ins (.slice sa sn sc)).toArray] W λe w'=>e=.returned (.int .i64 xi)/\Below W.heap.size W w')
 (nS:∀W,Below w.heap.size w W->Calls Tryz.prog 35 #[.agg (aA Q.ins (.slice sa sn sc)).toArray,.agg (aA {} (.slice none 0 0)).toArray] W λe w'=>e=.returned (.bool sm)/\Below W.heap.size W w')
 (nA:∀W,Below w.heap.size w W->Calls Tryz.prog 82 #[.agg (aG Q.amd).toArray] W λe w'=>e=.returned (.int .i64 xa)/\Below W.heap.size W w'):
 Calls Tryz.prog 30 #[.agg (aB Q (.slice sa sn sc))] w λe w'=>e=.returned (.int .i64 (sH V Q xi xa sm))/\Below w.heap.size w w':=by
 go_enter Tryz.func30,Tryz.ntmps30
 refine wp_seq ?_
 refine wp_region_lit ?_
 refine wpList_plain rfl (λK hK=>?_)
 go_simp
 refine hK _ _ ?_
 clear hK K
 refine wpList_plain rfl (λK hK=>?_)
 go_simp
 refine hK _ _ ?_
 clear hK K
 refine aT ?_
 obtain⟨g,hg⟩:∃g,g=w.heap.size:=⟨_,rfl⟩
 obtain⟨W1,hW1⟩:∃W1,W1=w.alloc (.cells (aB Q (.slice sa sn sc)) 37):=⟨_,rfl⟩
 have hrow:∀W,Below W1.heap.size W1 W->W.heap[g]? =some (.cells (oN Q (.slice sa sn sc)).toArray 37 (0,0)):=λW hW=>by
  rw[hW.block g (by rw[hW1,hg];simp),hW1,hg];exact aC w _
 have hB1:Below w.heap.size w W1:=by rw[hW1];exact(Below.refl _ _).alloc (Nat.le_refl _) _
 have fin:∀{f:FuncId} {args:Array Value} {v:Value},(∀W,Below w.heap.size w W->Calls Tryz.prog f args W λe w'=>e=.returned v/\Below W.heap.size W w')->∀W,Below W1.heap.size W1 W->Calls Tryz.prog f args W λe w'=>e=.returned v/\Below W1.heap.size W1 w':=λh W hW=>(h W (hB1.trans (hW.mono hB1.size))).mono λe w' k=>⟨k.1,hW.trans (k.2.mono hW.size)⟩
 rw[<-hg,<-hW1]
 clear hW1
 refine lD rfl λa ha hdf=>?_
 have hO:Ev.Ok Tryz.prog (λ(_:Unit) W=>Below W1.heap.size W1 W) (rqM V g Q (.slice sa sn sc) xi xa sm):=by
  refine Ev.jw (λt f d h=>qZ h) (λq b o l h W hS=>?_) (λf vs v h=>?_) (λo ov v h ρ hov W hS=>?_)
  ·rcases q with _|_|_|q
   ·cases h;exact kR hrow W hS
   ·cases h
   ·cases h
   ·cases h
  ·unfold Qj at h
   split at h
   ·rename_i hf
    subst hf
    split at h
    ·split at h
     ·rename_i k j hk
      cases h
      rcases hk with⟨rfl|rfl,rfl|rfl⟩
      ·exact⟨Dh,fin (λW hW=>cV W 1 Q.sender (by decide) hW)⟩
      ·exact⟨Dh,fin (λW hW=>cV W 1 Q.ref (by decide) hW)⟩
      ·exact⟨Dh,fin (λW hW=>cV W 2 Q.sender (by decide) hW)⟩
      ·exact⟨Dh,fin (λW hW=>cV W 2 Q.ref (by decide) hW)⟩
     ·cases h
    ·cases h
   split at h
   ·rename_i hf
    subst hf
    split at h
    ·cases h
     exact⟨enters_of Tryz.func81 (by kernel_rfl) rfl,fin nI⟩
    ·cases h
   split at h
   ·rename_i hf
    subst hf
    split at h
    ·cases h
     exact⟨enters_of Tryz.func35 (by kernel_rfl) rfl,fin nS⟩
    ·cases h
   split at h
   ·rename_i hf
    subst hf
    split at h
    ·cases h
     exact⟨enters_of Tryz.func82 (by kernel_rfl) rfl,fin nA⟩
    ·cases h
   exact sQ h
  ·unfold Je at h
   split at h
   ·rename_i t ps ho
    split at h
    ·rename_i hps
     have QX:ps=#[]:=by rw[<-Array.toArray_toList (xs:=ps),hps]
     subst QX
     split at h
     ·rename_i ht
      subst ht
      cases h
      unfold execOp
      simp only[ho,Sem.run_bind,bd25,Result.andThen_ok]
      rfl
     ·split at h
      ·rename_i ht
       subst ht
       cases h
       unfold execOp
       simp only[ho,Sem.run_bind,bd27,Result.andThen_ok]
       rfl
      ·cases h
    ·exact Ev.pz h hov (λ_=>rfl) W
   ·rename_i t x y t2 ho
    split at h
    ·rename_i ht
     subst ht
     split at h
     ·rename_i h1 h2
      cases h
      have e1:ρ x=.agg (aG Q.amd).toArray:=hov _ _ h1
      have e2:ρ y=.agg (aG {}).toArray:=hov _ _ h2
      unfold execOp
      simp only[ho,e1,e2]
      rw[Sem.run_bind,ne27]
      rfl
     ·cases h
    ·cases h
   ·cases h
 refine Ev.Nb (W0:=W1) (M:=rqM V g Q (.slice sa sn sc) xi xa sm) (n:=77) (K:=[(1,.p 0 0)]) (v:=sH V Q xi xa sm) 2 hO (by kernel_rfl) (by kernel_rfl) (Ev.aH (Ev.ag (by rw[ha];rfl) hdf) (by rw[ha];rfl)) (Below.refl _ _) ?_
 intro b W hd ht hS
 refine bodyPost_ret (results_tmp rfl _ _ _) hd ?_
 rw[hg]
 exact⟨by rw[show b.tmps.getD 2 undef=.int .i64 (sH V Q xi xa sm)from eval_at ht],hB1.trans (hS.mono hB1.size)⟩
open Go.Proofs.YtnjjeapcalkmaaaGreatDoor.Ev (AV Mem Fr lX aM fe Sh Stop Qof aX cK bL fU mJ fmC)
def NN (V:Nat->ByteArray->Bool)(i:Ps.Ins)(k:Nat)(x:Ps.Link)(rows:List (Option (Nat×Nat)×List Value))(f:FuncId)(vs:List AV):Option Value:=
 if f=80 then(match vs.map (fe rows)with|[.int .i64 m,.string s]=>if m=0\/m=1\/m=2 then some (.bool (V m.toNat s))else none|_=>none)
 else if f=138 then(match vs with|[.a 0 0 16]=>some (.bool ((i.kind==3)||(i.kind==4)))|_=>none)
 else if f=139 then(match vs with|[.a 0 0 16]=>some (.bool ((i.kind==1)||(i.kind==2)))|_=>none)
 else if f=140 then(match vs with|[.a 0 0 16]=>some (.bool (if (i.kind==0)=true then(i.asset.toList==[67,65,83,72])else V 0 i.asset))|_=>none)
 else if f=143 then(match vs with|[.a 0 0 16]=>some (.int .i64 (if i.partial_=true then i.quantity else 0))|_=>none)
 else if f=144 then(match vs,aM rows 1 1 with|[.r 1 1,.r 1 2],.slice _ _ _=>some (.bool (jB (i.links.take k) x.ref))|_,_=>none)
 else wZ (List.map (fe rows)) f vs
def JU (rows:List (Option (Nat×Nat)×List Value))(o:Oper)(ov:Operand->Option AV):Option AV:=match o.op with
 | .call ⟨.builtin .len,xs,ts⟩=>(match xs.toList,ts.toList with
   |[x],[t]=>if o.type=3/\t=32 then(match ov x with
    |some a=>match fe rows a with
     | .slice _ n _=>some (.v (.int .i64 (n:Int)))
     |_=>none
    |none=>none)else none
   |_,_=>none)
 | .slice t x none (some y) none=>if t=32 then(match ov x,ov y with
   |some (.r 0 15),some (.r 1 0)=>(match aM rows 1 1 with
    | .slice _ _ _=>some (.r 1 1)
    |_=>none)
   |_,_=>none)else none
 | .makeFunc (.func f) fs cs=>(match fs.toList,cs.toList with
   |[],[x]=>if f=145 then(match ov x with
    |some (.p 2 0)=>(match aM rows 1 1 with
     | .slice _ _ _=>some (.r 1 2)
     |_=>none)
    |_=>none)else none
   |_,_=>none)
 |_=>Ev.qp (fe rows) o ov
def ckM (V:Nat->ByteArray->Bool)(i:Ps.Ins)(k:Nat)(x:Ps.Link)(rows:List (Option (Nat×Nat)×List Value)):Mem Unit:=lX pM rows (NN V i k x rows) (JU rows)
def Nv (g:Nat)(i:Ps.Ins)(lv:Value):List (Option (Nat×Nat)×List Value):=[(some (g,0),aA i lv)]
def UB (g:Nat)(i:Ps.Ins)(sb sn sc k h:Nat)(x:Ps.Link):List (Option (Nat×Nat)×List Value):=[(some (g,0),aA i (.slice (some ⟨sb,0,none⟩) sn sc)),(none,[.int .i64 k,.slice (some ⟨sb,0,none⟩) k sc,.func (.func 145) #[] #[.pointer (some ⟨h,0,none⟩)]]),(some (h,0),[.int .i64 x.type,.string x.ref])]
def CkIn (i:Ps.Ins)(k:Nat)(x:Ps.Link)(rows:List (Option (Nat×Nat)×List Value))(W0:World):Prop:=∃(sb h c sn:Nat),aM rows 0 15=.slice (some ⟨sb,0,none⟩) sn c/\aM rows 1 0=.int .i64 (k:Int)/\aM rows 1 1=.slice (some ⟨sb,0,none⟩) k c/\aM rows 1 2=.func (.func 145) #[] #[.pointer (some ⟨h,0,none⟩)]/\fe rows (.p 2 0)=.pointer (some ⟨h,0,none⟩)/\k<=sn/\sn<=c/\sn<=1000/\
 ∀w,Below W0.heap.size W0 w->Calls Tryz.prog 144 #[.slice (some ⟨sb,0,none⟩) k c,.func (.func 145) #[] #[.pointer (some ⟨h,0,none⟩)]] w λe w'=>e=.returned (.bool (jB (i.links.take k) x.ref))/\Below w.heap.size w w'
theorem Pg {V:Nat->ByteArray->Bool}{i:Ps.Ins}{k:Nat}{x:Ps.Link}{lv:Value}{o:Option (Nat×Nat)}{rs:List (Option (Nat×Nat)×List Value)}{W0:World}(hrow:∀(k b o2:Nat) (l:List Value),((o,aA i lv)::rs)[k]? =some (some (b,o2),l)->∀w,Below W0.heap.size W0 w->∀(j:Nat) (v:Value),l[j]? =some v->w.cell? ⟨b,o2+j,none⟩=some v)
 (hV:∀(m:Nat) (s:ByteArray) (w':World),m<3->Below W0.heap.size W0 w'->Calls Tryz.prog 80 #[.int .i64 m,.string s] w' λe w''=>e=.returned (.bool (V m s))/\Below w'.heap.size w' w'')
 (hc:∀sb n c,aM ((o,aA i lv)::rs) 1 1=.slice sb n c->CkIn i k x ((o,aA i lv)::rs) W0):
 Ev.Ok Tryz.prog (λ(_:Unit) w=>Below W0.heap.size W0 w) (ckM V i k x ((o,aA i lv)::rs)):=by
 have agg0:fe ((o,aA i lv)::rs) (.a 0 0 16)=.agg (aA i lv).toArray:=rfl
 have fin:∀{f:FuncId} {args:Array Value} {v:Value} {w:World},Below W0.heap.size W0 w->(Calls Tryz.prog f args w λe w'=>e=.returned v/\Below w.heap.size w w')->Calls Tryz.prog f args w λe w'=>e=.returned v/\Below W0.heap.size W0 w':=λhw h=>h.mono λe w' k=>⟨k.1,hw.trans (k.2.mono hw.size)⟩
 refine Ev.jw (λt f d h=>qZ h) hrow (λf vs v h=>?_) (λop ov v h ρ hov w hS=>?_)
 ·unfold NN at h
  split at h
  ·rename_i hf
   subst hf
   split at h
   ·rename_i m s hm
    split at h
    ·rename_i h3
     cases h
     rw[hm]
     obtain⟨n,hn,hk3⟩:∃n:Nat,m=(n:Int)/\n<3:=by
      rcases h3 with rfl|rfl|rfl
      ·exact⟨0,rfl,by decide⟩
      ·exact⟨1,rfl,by decide⟩
      ·exact⟨2,rfl,by decide⟩
     subst hn
     exact⟨Dh,λw hw=>fin hw (hV n s w hk3 hw)⟩
    ·cases h
   ·cases h
  split at h
  ·rename_i hf
   subst hf
   split at h
   ·cases h
    exact⟨ent105,λw hw=>fin hw (is_col w i lv _ _ rfl rfl)⟩
   ·cases h
  split at h
  ·rename_i hf
   subst hf
   split at h
   ·cases h
    exact⟨ent106,λw hw=>fin hw (is_sec w i lv _ _ rfl rfl)⟩
   ·cases h
  split at h
  ·rename_i hf
   subst hf
   split at h
   ·cases h
    exact⟨ent107,λw hw=>fin hw (M5 w i lv _ _ _ rfl rfl λw' hw'=>hV 0 i.asset w' (by decide) (hw.trans (hw'.mono hw.size)))⟩
   ·cases h
  split at h
  ·rename_i hf
   subst hf
   split at h
   ·cases h
    exact⟨ent110,λw hw=>fin hw (RZ w i lv _ rfl)⟩
   ·cases h
  split at h
  ·rename_i hf
   subst hf
   split at h
   ·rename_i sb n c h11
    cases h
    obtain⟨sb,h,c,sn,k1,k2,k3,k4,k5,k6,k7,k8,k9⟩:=hc _ _ _ h11
    refine⟨ent111,λw hw=>?_⟩
    have e1:List.map (fe ((o,aA i lv)::rs)) [AV.r 1 1,.r 1 2]=[.slice (some ⟨sb,0,none⟩) k c,.func (.func 145) #[] #[.pointer (some ⟨h,0,none⟩)]]:=by
     simp only[List.map_cons,List.map_nil]
     rw[show fe ((o,aA i lv)::rs) (.r 1 1)=_ from k3,show fe ((o,aA i lv)::rs) (.r 1 2)=_ from k4]
    rw[e1]
    exact fin hw (k9 w hw)
   ·cases h
  exact sQ h
 ·unfold JU at h
  split at h
  ·rename_i xs ts ho
   split at h
   ·rename_i x t hx ht2
    split at h
    ·rename_i ht
     obtain⟨ht,rfl⟩:=ht
     split at h
     ·rename_i a ha
      split at h
      ·rename_i sa n c hv
       cases h
       have h1:=hov _ _ ha
       rw[hv]at h1
       have hxs:xs=#[x]:=by rw[<-Array.toArray_toList (xs:=xs),hx]
       have hts:ts=#[32]:=by rw[<-Array.toArray_toList (xs:=ts),ht2]
       subst hxs
       subst hts
       clear hrow hV hc fin agg0 hov hx ht2 ha hv
       unfold execOp
       simp only[ho,ht]
       go_simp
       rfl
      ·cases h
     ·cases h
    ·cases h
   ·cases h
  ·rename_i t x y ho
   split at h
   ·rename_i ht
    subst ht
    split at h
    ·rename_i h1 h2
     split at h
     ·rename_i sb n c h11
      cases h
      obtain⟨sb,h,c,sn,k1,k2,k3,k4,k5,k6,k7,k8,k9⟩:=hc _ _ _ h11
      have e1:ρ x=.slice (some ⟨sb,0,none⟩) sn c:=(hov _ _ h1).trans k1
      have e2:ρ y=.int .i64 (k:Int):=(hov _ _ h2).trans k2
      rw[show fe ((o,aA i lv)::rs) (.r 1 1)=_ from k3]
      unfold execOp
      simp only[ho,e1,e2,Option.map_some,Option.map_none,Sem.run_bind,sl_to _ sn c k k6 k7 k8 w,Result.andThen_ok]
      rfl
     ·cases h
    ·cases h
   ·cases h
  ·rename_i f fs cs ho
   split at h
   ·rename_i x hfs hcs
    split at h
    ·rename_i hf
     subst hf
     split at h
     ·rename_i hx
      split at h
      ·rename_i sb n c h11
       cases h
       obtain⟨sb,h,c,sn,k1,k2,k3,k4,k5,k6,k7,k8,k9⟩:=hc _ _ _ h11
       have e1:ρ x=.pointer (some ⟨h,0,none⟩):=(hov _ _ hx).trans k5
       have hf1:fs=#[]:=by rw[<-Array.toArray_toList (xs:=fs),hfs]
       have hc1:cs=#[x]:=by rw[<-Array.toArray_toList (xs:=cs),hcs]
       subst hf1
       subst hc1
       rw[show fe ((o,aA i lv)::rs) (.r 1 2)=_ from k4]
       clear hrow hV hc fin agg0 hov k9 k1 k2 k3 k4 k5 h11
       unfold execOp
       simp only[ho,List.map_toArray,List.map_cons,List.map_nil,e1]
       go_simp
      ·cases h
     ·cases h
    ·cases h
   ·cases h
  ·exact Ev.pz h hov (λ_=>rfl) w
noncomputable def ckC:Code:=match Tryz.f81.body.getD .skip with
 | .seq _ (.seq _ c)=>c
 |c=>c
noncomputable def ckL:Code×List Ev.Fm:=aX cK ckC
noncomputable def ckG:Code×List Ev.Fm:=aX (bL 6) (fU ckL.1)
theorem Tt {Q:Exit->Act->World->Prop}{a:Act}{w:World}{id:Nat}{o1 o2 o3 o4 o5 o6:Oper}{sb sn sc k:Nat}{x:Ps.Link}(h1:o1.op=.move (.tmp 191))(h1d:o1.dst=some 193)(g1:o1.guard=none)(h2:o2.op=.indexAddr 32 (.tmp 189) (.tmp 191))(FL:o2.dst=some 194)(g2:o2.guard=none)(h3:o3.op=.load 129 (.tmp 194))(Qp:o3.dst=some 195)(g3:o3.guard=none)
 (h4:o4.op=.alloc 129) (h4d:o4.dst=some 5) (g4:o4.guard=none) (h5:o5.op=.assign (.tmp 193)) (h5d:o5.dst=some 4) (g5:o5.guard=none) (h6:o6.op=.store 129 (.tmp 5) (.tmp 195)) (h6d:o6.dst=none) (g6:o6.guard=none)
 (hsz:a.tmps.size=225) (ht:a.tmps[191]? =some (.int .i64 (k:Int))) (hs:a.tmps[189]? =some (.slice (some ⟨sb,0,none⟩) sn sc)) (hk:k<sn) (c0:w.cell? ⟨sb,k*2,none⟩=some (.int .i64 x.type)) (c1:w.cell? ⟨sb,k*2+1,none⟩=some (.string x.ref))
 (hend:∀b:Act,b.defers=a.defers->b.tmps.size=225->b.tmps[5]? =some (.pointer (some ⟨w.heap.size,0,none⟩))->b.tmps[4]? =some (.int .i64 (k:Int))->(∀s:Nat,s≠4->s≠5->s≠193->s≠194->s≠195->b.tmps[s]? =a.tmps[s]?)->Q .normal b (w.alloc (.cells #[.int .i64 x.type,.string x.ref] 129))):(Code.region id #[o1,o2,o3,o4,o5,o6] false).wp Tryz.prog Q a w:=by
 have TV:(k:Int)<(sn:Int):=by omega
 refine wp_region_lit ?_
 refine mQ g1 h1d (u:=.int .i64 (k:Int)) (by unfold execOp;rw[h1];simp only[eval_at ht];rfl) ?_
 obtain⟨t1,ht1⟩:∃t1,t1=a.tmps.setIfInBounds 193 (.int .i64 (k:Int)):=⟨_,rfl⟩
 have z1:t1.size=225:=by rw[ht1];simp[hsz]
 have r1:∀s:Nat,s≠193->t1[s]? =a.tmps[s]?:=λs n=>by rw[ht1,Array.getElem?_setIfInBounds_ne (λh=>n h.symm)]
 have q193:t1[193]? =some (.int .i64 (k:Int)):=by rw[ht1];simp[hsz]
 have q189:=(r1 189 (by decide)).trans hs
 have q191:=(r1 191 (by decide)).trans ht
 rw[<-ht1]
 clear ht1
 refine mQ g2 FL (u:=.pointer (some ⟨sb,k*2,none⟩)) (by
  have e1:(⟨t1,a.defers⟩:Act).eval (.tmp 189)=.slice (some ⟨sb,0,none⟩) sn sc:=eval_at q189
  have e2:(⟨t1,a.defers⟩:Act).eval (.tmp 191)=.int .i64 (k:Int):=eval_at q191
  clear hend q189 q191 q193 ht hs r1
  unfold execOp
  simp only[h2,e1,e2]
  go_simp) ?_
 obtain⟨t2,ht2⟩:∃t2,t2=t1.setIfInBounds 194 (.pointer (some ⟨sb,k*2,none⟩)):=⟨_,rfl⟩
 have z2:t2.size=225:=by rw[ht2];simp[z1]
 have r2:∀s:Nat,s≠194->t2[s]? =t1[s]?:=λs n=>by rw[ht2,Array.getElem?_setIfInBounds_ne (λh=>n h.symm)]
 have q194:t2[194]? =some (.pointer (some ⟨sb,k*2,none⟩)):=by rw[ht2];simp[z1]
 rw[<-ht2]
 clear ht2
 refine jl g3 Qp h3 (v:=.pointer (some ⟨sb,k*2,none⟩)) (eval_at q194) (u:=.agg #[.int .i64 x.type,.string x.ref]) (Ev.xY (t:=129) (n:=2) (by kernel_rfl) sb (k*2) w (λj=>([.int .i64 x.type,.string x.ref]:List Value).getD j (.bool false)) (λj hj=>match j,hj with|0,_=>c0|1,_=>c1|j+2,h=>absurd h (by omega))) ?_
 obtain⟨t3,ht3⟩:∃t3,t3=t2.setIfInBounds 195 (.agg #[.int .i64 x.type,.string x.ref]):=⟨_,rfl⟩
 have z3:t3.size=225:=by rw[ht3];simp[z2]
 have r3:∀s:Nat,s≠195->t3[s]? =t2[s]?:=λs n=>by rw[ht3,Array.getElem?_setIfInBounds_ne (λh=>n h.symm)]
 have q195:t3[195]? =some (.agg #[.int .i64 x.type,.string x.ref]):=by rw[ht3];simp[z2]
 rw[<-ht3]
 clear ht3
 refine wpList_plain g4 λK hK=>?_
 unfold Oper.wp
 rw[show(execOp (⟨t3,a.defers⟩:Act).eval o4).run Tryz.prog w=.ok (.value (.pointer (some ⟨w.heap.size,0,none⟩))) (w.alloc (.cells #[.int .i64 0,.string ByteArray.empty] 129))from by
  clear hend hK c0 c1 q189 q191 q193 q194 q195 ht hs r1 r2 r3
  unfold execOp;rw[h4];go_simp;first|done|rfl]
 refine hK _ _ ?_
 rw[h4d]
 show wpList _ _ _ _ ⟨t3.setIfInBounds 5 (.pointer (some ⟨w.heap.size,0,none⟩)),a.defers⟩ _
 obtain⟨t4,ht4⟩:∃t4,t4=t3.setIfInBounds 5 (.pointer (some ⟨w.heap.size,0,none⟩)):=⟨_,rfl⟩
 have z4:t4.size=225:=by rw[ht4];simp[z3]
 have r4:∀s:Nat,s≠5->t4[s]? =t3[s]?:=λs n=>by rw[ht4,Array.getElem?_setIfInBounds_ne (λh=>n h.symm)]
 have q5:t4[5]? =some (.pointer (some ⟨w.heap.size,0,none⟩)):=by rw[ht4];simp[z3]
 rw[<-ht4]
 clear ht4 hK
 have q193':t4[193]? =some (.int .i64 (k:Int)):=by rw[r4 193 (by decide),r3 193 (by decide),r2 193 (by decide)];exact q193
 refine mQ g5 h5d (u:=.int .i64 (k:Int)) (by
  have e1:(⟨t4,a.defers⟩:Act).eval (.tmp 193)=.int .i64 (k:Int):=eval_at q193'
  unfold execOp;simp only[h5,e1];rfl) ?_
 refine tV (w':=w.alloc (.cells #[.int .i64 x.type,.string x.ref] 129)) g6 h6d ?_ ?_
 ·have e1:(⟨t4.setIfInBounds 4 (.int .i64 (k:Int)),a.defers⟩:Act).eval (.tmp 5)=.pointer (some ⟨w.heap.size,0,none⟩):=eval_at (by rw[Array.getElem?_setIfInBounds_ne (by decide)];exact q5)
  have e2:(⟨t4.setIfInBounds 4 (.int .i64 (k:Int)),a.defers⟩:Act).eval (.tmp 195)=.agg #[.int .i64 x.type,.string x.ref]:=eval_at (by rw[Array.getElem?_setIfInBounds_ne (by decide),r4 195 (by decide)];exact q195)
  unfold execOp
  simp only[h6,e1,e2]
  clear hend c0 c1 e1 e2 q189 q191 q193 q193' q194 q195 q5 ht hs r1 r2 r3 r4
  go_simp
  first|done|rfl
 refine aT ?_
 refine hend _ rfl (by simp[z4]) (by rw[Array.getElem?_setIfInBounds_ne (by decide)];exact q5) (by simp[z4]) λs n1 n2 n3 n4 n5=>?_
 rw[Array.getElem?_setIfInBounds_ne (λh=>n1 h.symm),r4 s n2,r3 s n5,r2 s n4,r1 s n3]
theorem in_w1 (w:World)(i:Ps.Ins)(sa:Option Addr)(sn sc:Nat)(V:Nat->ByteArray->Bool)(x x1 xL:Int)(hx1:x1=af (iC V i sn))(hn8:x1=0->sn<=8)(HSN:Hid (sn=i.links.length))(HSC:Hid (sn<=sc))(hLE:Hid (Ps.fE V i [] i.links=xL))(HLK:Hid (0<sn->∃sb,sa=some ⟨sb,0,none⟩/\∀W,Below w.heap.size w W->nO W sb i.links))(hx:x=if x1≠0 then x1 else xL)(hV0:∀(s:ByteArray) (w':World),Below w.heap.size w w'->Calls Tryz.prog 80 #[.int .i64 0,.string s] w' λe w''=>e=.returned (.bool (V 0 s))/\Below w'.heap.size w' w'')(hV1:∀(s:ByteArray) (w':World),Below w.heap.size w w'->Calls Tryz.prog 80 #[.int .i64 1,.string s] w' λe w''=>e=.returned (.bool (V 1 s))/\Below w'.heap.size w' w'')(hV2:∀(s:ByteArray) (w':World),Below w.heap.size w w'->Calls Tryz.prog 80 #[.int .i64 2,.string s] w' λe w''=>e=.returned (.bool (V 2 s))/\Below w'.heap.size w' w'')
 :Calls Tryz.prog 81 #[.agg (aA i (.slice sa sn sc)).toArray] w λe w'=>e=.returned (.int .i64 x)/\Below w.heap.size w w':=by
 go_enter Tryz.func81,Tryz.ntmps81
 refine wp_seq ?_
 refine wp_region_lit ?_
 refine wpList_plain rfl (λK hK=>?_)
 go_simp
 refine hK _ _ ?_
 clear hK K
 refine wpList_plain rfl (λK hK=>?_)
 go_simp
 refine hK _ _ ?_
 clear hK K
 refine aT ?_
 obtain⟨g,hg⟩:∃g,g=w.heap.size:=⟨_,rfl⟩
 obtain⟨W1,hW1⟩:∃W1,W1=w.alloc (.cells (aA i (.slice sa sn sc)).toArray 34):=⟨_,rfl⟩
 have hrow:∀W,Below W1.heap.size W1 W->W.heap[g]? =some (.cells (aA i (.slice sa sn sc)).toArray 34 (0,0)):=λW hW=>by
  rw[hW.block g (by rw[hW1,hg];simp),hW1,hg];exact aC w _
 have hB1:Below w.heap.size w W1:=by rw[hW1];exact(Below.refl _ _).alloc (Nat.le_refl _) _
 have up:∀W,Below W1.heap.size W1 W->Below w.heap.size w W:=λW hW=>hB1.trans (hW.mono hB1.size)
 have hV:∀(m:Nat) (s:ByteArray) (w':World),m<3->Below w.heap.size w w'->Calls Tryz.prog 80 #[.int .i64 m,.string s] w' λe w''=>e=.returned (.bool (V m s))/\Below w'.heap.size w' w'':=λm s w' hm hw=>by
  rcases m with _|_|_|m
  ·exact hV0 s w' hw
  ·exact hV1 s w' hw
  ·exact hV2 s w' hw
  ·omega
 rw[<-hg,<-hW1]
 clear hW1 hV0 hV1 hV2
 refine lD rfl λa ha hdf=>?_
 have hret:∀(b:Act) (W:World),b.defers=[]->b.tmps[2]? =some (.int .i64 x)->Below W1.heap.size W1 W->bodyPost Tryz.prog Tryz.f81 (λe w'=>e=.returned (.int .i64 x)/\Below g w w') .ret b W:=λb W hd ht hS=>by
  refine bodyPost_ret (results_tmp rfl _ _ _) hd ?_
  rw[hg]
  exact⟨by rw[show b.tmps.getD 2 undef=.int .i64 x from eval_at ht],hB1.trans (hS.mono hB1.size)⟩
 have hO1:Ev.Ok Tryz.prog (λ(_:Unit) W=>Below W1.heap.size W1 W) (ckM V i 0 ⟨0,⟨#[]⟩⟩ (Nv g i (.slice sa sn sc))):=Pg (o:=some (g,0)) (rs:=[]) (λq b o2 l h W hW=>by
  rcases q with _|q
  ·cases h;exact kR hrow W hW
  ·cases h) (λm s w' hm hw=>hV m s w' hm (up _ hw)) (λsb n c h=>by cases h)
 refine wp_seq ?_
 refine Ev.oC (W0:=W1) (m:=225) (M:=ckM V i 0 ⟨0,⟨#[]⟩⟩ (Nv g i (.slice sa sn sc))) (K:=[(1,.p 0 0)]) 176 3 (iC V i sn) hO1 (by kernel_rfl) (Ev.aH (Ev.ag (by rw[ha];rfl) hdf) (by rw[ha];rfl)) (Below.refl _ _) (show 0<20 by decide) (show 20<=1000 by decide) (by kernel_rfl) (by kernel_rfl) ?_
 intro b W hB hF
 rw[<-hx1]at hF
 have f3:=hF.look 3 _ rfl
 have f1:=hF.look 1 _ rfl
 show ckC.wp Tryz.prog _ b W
 have hxv:(if (x1 !=0)=true then x1 else xL)=x:=by
  rw[hx]
  by_cases h:x1=0
  ·simp[h]
  ·simp[h]
 refine Ev.BZ (M:=ckM V i 0 ⟨0,⟨#[]⟩⟩ (Nv g i (.slice sa sn sc))) (S:=λ_ W=>Below W1.heap.size W1 W) (n:=225) (K:=[(1,.p 0 0),(3,.v (.int .i64 x1))]) (s:=()) (v:=if (x1 !=0)=true then x1 else xL) (hv:=xL) (l:=[(ckL.1,ckL.2,[some (.p 0 0),some (.r 0 15),some (.v (.int .i64 (sn:Int))),some (.v (.int .i64 0))],(),[!(x1 !=0)])]) 2 [1,189,190,191] [0] hO1 (λ_ W h=>h.drew) (by kernel_rfl) (by kernel_rfl) (Ev.aH (Ev.aH (Ev.ag hF.size hF.defers) f3) f1) hB (λb W _ hd ht hS=>hret b W hd (by rw[<-hxv];exact ht) hS) ?_
 intro hvx y hy hcs b W hst hS
 rw[List.mem_singleton]at hy
 subst hy
 have hx10:x1=0:=by
  have h8:=hcs _ (List.mem_singleton.2 rfl)
  simpa using h8
 have hxL:x=xL:=by rw[hx,if_neg (by rw[hx10];simp)]
 have hsn8:=hn8 hx10
 clear hcs hvx hxv f1 f3 hF hB hx1 hn8 hx hx10 ha hdf
 obtain⟨h1,hst⟩:=hst.cons
 obtain⟨rV,hst⟩:=hst.cons
 obtain⟨si,hst⟩:=hst.cons
 obtain⟨pY,hst⟩:=hst.cons
 have e1:ckL.1=.loop (fU ckL.1):=by kernel_rfl
 have e2:ckL.2=[.bl 0,.sq (fmC ckL.2 1)]:=by kernel_rfl
 show ckL.1.wp Tryz.prog (Qof Tryz.prog ckL.2 _) b W
 rw[e1,e2]
 refine wp_loop (λa w=>∃k:Nat,k<=sn/\a.tmps.size=225/\a.defers=[]/\a.tmps[1]? =some (.pointer (some ⟨g,0,none⟩))/\a.tmps[189]? =some (.slice sa sn sc)/\a.tmps[190]? =some (.int .i64 (sn:Int))/\a.tmps[191]? =some (.int .i64 (k:Int))/\Below W1.heap.size W1 w/\Ps.fE V i (i.links.take k) (i.links.drop k)=x) (λa _=>match a.tmps[191]? with|some (Value.int _ k)=>sn-k.toNat|_=>0) ⟨0,Nat.zero_le _,hst.1,hst.2.1,h1,rV,si,pY,hS,by rw[hxL,<-hLE.out];rfl⟩ ?_
 clear hst h1 rV si pY hS hxL
 rintro b W ⟨k,hk,hsz,hdf,h1,rV,si,pY,hS,HX⟩
 have hm:(match b.tmps[191]? with|some (Value.int _ k)=>sn-k.toNat|_=>0)=sn-k:=by rw[pY];simp
 rw[hm]
 refine Ev.rX (M:=ckM V i 0 ⟨0,⟨#[]⟩⟩ (Nv g i (.slice sa sn sc))) (S:=λ_ W=>Below W1.heap.size W1 W) (n:=225) (K:=[(1,.p 0 0),(189,.r 0 15),(190,.v (.int .i64 (sn:Int))),(191,.v (.int .i64 (k:Int)))]) (s:=()) [1,189,190,191] (.ite (decide ((k:Int)<(sn:Int))) (.go ckG [some (.p 0 0),some (.r 0 15),some (.v (.int .i64 (sn:Int))),some (.v (.int .i64 (k:Int)))] ()) (.out 0 [some (.p 0 0),some (.r 0 15),some (.v (.int .i64 (sn:Int))),some (.v (.int .i64 (k:Int)))] ())) hO1 (λ_ _ h=>h.drew) (by kernel_rfl) (Ev.aH (Ev.aH (Ev.aH (Ev.aH (Ev.ag hsz hdf) pY) si) rV) h1) hS ⟨λhc b W hst hS=>?_,λhc b W hst hS=>?_⟩
 rotate_left
 ·have hkn:¬k<sn:=by have:¬(k:Int)<(sn:Int):=by simpa using hc
                     omega
  have hx0:x=0:=by
   rw[<-HX,List.drop_eq_nil_of_le (by have:=HSN.out;omega)]
   rfl
  show(fmC ckL.2 1).wp Tryz.prog _ b W
  exact Ev.A8 (M:=ckM V i 0 ⟨0,⟨#[]⟩⟩ (Nv g i (.slice sa sn sc))) (S:=λ_ W=>Below W1.heap.size W1 W) (n:=225) (K:=[]) (s:=()) (v:=x) 2 hO1 (λ_ _ h=>h.drew) (by rw[hx0];kernel_rfl) (by kernel_rfl) (Ev.ag hst.1 hst.2.1) hS λb W _ h1 h2 h3=>hret b W h1 h2 h3
 have hkn:k<sn:=by have:(k:Int)<(sn:Int):=by simpa using hc
                   omega
 clear h1 rV si pY hsz hdf hm hc
 obtain⟨h1,hst⟩:=hst.cons
 obtain⟨rV,hst⟩:=hst.cons
 obtain⟨si,hst⟩:=hst.cons
 obtain⟨pY,hst⟩:=hst.cons
 obtain⟨x0,hx0⟩:∃x0,i.links[k]? =some x0:=⟨_,List.getElem?_eq_getElem (by rw[<-HSN.out];exact hkn)⟩
 obtain⟨sb,rfl,hlr⟩:=HLK.out (by omega)
 have hLW:∀W,Below W1.heap.size W1 W->nO W sb i.links:=λW hW=>hlr W (up W hW)
 have hdrop:i.links.drop k=x0::i.links.drop (k+1):=by
  have h1:=List.drop_eq_getElem_cons (l:=i.links) (i:=k) (by rw[<-HSN.out];exact hkn)
  rw[h1]
  congr 1
  rw[List.getElem?_eq_getElem (by rw[<-HSN.out];exact hkn)]at hx0
  exact Option.some.inj hx0
 have htake:i.links.take (k+1)=i.links.take k++[x0]:=by rw[List.take_add_one,hx0];rfl
 rw[hdrop,DT,<-htake]at HX
 have e4:ckG.2=[.sq (fmC ckG.2 0),.bl 1,.sq (fmC ckG.2 2)]:=by kernel_rfl
 show ckG.1.wp Tryz.prog (Qof Tryz.prog ckG.2 _) b W
 rw[e4]
 refine Tt (sb:=sb) (sn:=sn) (sc:=sc) (k:=k) (x:=x0) rfl rfl rfl rfl rfl rfl rfl rfl rfl rfl rfl rfl rfl rfl rfl rfl rfl rfl hst.1 pY rV hkn (hLW W hS k x0 hx0).1 (hLW W hS k x0 hx0).2 ?_
 intro b2 hd2 hz2 h5 h4 hr2
 obtain⟨h,hh⟩:∃h,h=W.heap.size:=⟨_,rfl⟩
 obtain⟨Wh,hWh⟩:∃Wh,Wh=W.alloc (.cells #[.int .i64 x0.type,.string x0.ref] 129):=⟨_,rfl⟩
 have hBh:Below W1.heap.size W1 Wh:=by rw[hWh];exact hS.alloc hS.size _
 have pE:∀W,Below Wh.heap.size Wh W->W.heap[h]? =some (.cells [.int .i64 x0.type,.string x0.ref].toArray 129 (0,0)):=λW2 hW=>by
  rw[hW.block h (by rw[hWh,hh];simp),hWh,hh];exact aC W _
 have up2:∀W,Below Wh.heap.size Wh W->Below W1.heap.size W1 W:=λW hW=>hBh.trans (hW.mono hBh.size)
 rw[<-hWh]
 rw[<-hh]at h5
 have q1:=(hr2 1 (by decide) (by decide) (by decide) (by decide) (by decide)).trans h1
 have q189:=(hr2 189 (by decide) (by decide) (by decide) (by decide) (by decide)).trans rV
 have q190:=(hr2 190 (by decide) (by decide) (by decide) (by decide) (by decide)).trans si
 have q191:=(hr2 191 (by decide) (by decide) (by decide) (by decide) (by decide)).trans pY
 have hdf2:=hd2.trans hst.2.1
 clear h1 rV si pY hst hr2 hWh hh hS e4 hd2
 show(fmC ckG.2 0).wp Tryz.prog (Qof Tryz.prog [.bl 1,.sq (fmC ckG.2 2)] _) b2 Wh
 have hO2:Ev.Ok Tryz.prog (λ(_:Unit) W=>Below Wh.heap.size Wh W) (ckM V i k x0 (UB g i sb sn sc k h x0)):=Pg (o:=some (g,0)) (lv:=.slice (some ⟨sb,0,none⟩) sn sc) (λq b o2 l hq W hW=>by
  rcases q with _|_|_|q
  ·cases hq;exact kR hrow W (up2 W hW)
  ·cases hq
  ·cases hq;exact kR pE W hW
  ·cases hq) (λm s w' hm hw=>hV m s w' hm (up _ (up2 _ hw))) (λ_ _ _ _=>⟨sb,h,sc,sn,rfl,rfl,rfl,rfl,rfl,hk,HSC.out,by omega,λw hw=>Cz w sb h sc i.links x0.ref k (hLW w (up2 w hw)) (by have:=HSN.out;omega) (by have:=HSC.out;omega) (by omega) (by rw[cell_of_row _ _ _ _ _ _ (pE w hw)];rfl)⟩)
 have e7:fmC ckG.2 0=.seq (.region 7 (mJ (Ev.seqL (fmC ckG.2 0))) true) (Ev.nC (fmC ckG.2 0)):=by kernel_rfl
 rw[e7]
 refine wp_seq ?_
 refine Ev.oC (W0:=Wh) (m:=225) (M:=ckM V i k x0 (UB g i sb sn sc k h x0)) (K:=[(1,.p 0 0),(5,.p 2 0),(4,.r 1 0),(189,.r 0 15),(190,.v (.int .i64 (sn:Int))),(191,.r 1 0)]) 23 6 (ng V i (i.links.take k) x0) hO2 (by kernel_rfl) (Ev.aH (Ev.aH (Ev.aH (Ev.aH (Ev.aH (Ev.aH (Ev.ag hz2 hdf2) q191) q190) q189) h4) h5) q1) (Below.refl _ _) (show 0<4 by decide) (show 4<=1000 by decide) (by kernel_rfl) (by kernel_rfl) ?_
 obtain⟨y,hy⟩:∃y,y=af (ng V i (i.links.take k) x0):=⟨_,rfl⟩
 rw[<-hy]at HX⊢
 clear q1 q189 q190 q191 h4 h5 hz2 hdf2 e7
 intro b3 W3 hB3 hF3
 show(Ev.nC (fmC ckG.2 0)).wp Tryz.prog _ b3 W3
 refine Ev.rX (M:=ckM V i k x0 (UB g i sb sn sc k h x0)) (S:=λ_ W=>Below Wh.heap.size Wh W) (n:=225) (K:=[(6,.v (.int .i64 y)),(1,.p 0 0),(189,.r 0 15),(190,.v (.int .i64 (sn:Int))),(191,.r 1 0)]) (s:=()) [1,189,190,191,2] (.ite (y !=0) (.ret [some (.p 0 0),some (.r 0 15),some (.v (.int .i64 (sn:Int))),some (.r 1 0),some (.v (.int .i64 y))] ()) (.nx [some (.p 0 0),some (.r 0 15),some (.v (.int .i64 (sn:Int))),some (.r 1 0),none] ())) hO2 (λ_ _ h=>h.drew) (by kernel_rfl) (Ev.aH (Ev.aH (Ev.aH (Ev.aH (Ev.aH (Ev.ag hF3.size hF3.defers) (hF3.look 191 _ rfl)) (hF3.look 190 _ rfl)) (hF3.look 189 _ rfl)) (hF3.look 1 _ rfl)) (hF3.look 6 _ rfl)) hB3 ⟨λhc b W hst hS=>?_,λhc b W hst hS=>?_⟩
 ·have hy0:y≠0:=by simpa using hc
  rw[if_pos hy0]at HX
  refine hret b W hst.2.1 ?_ (up2 W hS)
  rw[<-HX]
  exact hst.2.2 4 2 _ rfl rfl
 ·have hy0:y=0:=by simpa using hc
  rw[if_neg (by simp[hy0])]at HX
  obtain⟨h1,hst⟩:=hst.cons
  obtain⟨rV,hst⟩:=hst.cons
  obtain⟨si,hst⟩:=hst.cons
  obtain⟨pY,hst⟩:=hst.cons
  have hw1:IntKind.i64.wrap ((k:Int)+1)=((k+1:Nat):Int):=by rw[IntWalk.i64_in _ (by omega)];rfl
  show(fmC ckG.2 2).wp Tryz.prog _ b W
  refine Ev.rX (M:=ckM V i k x0 (UB g i sb sn sc k h x0)) (S:=λ_ W=>Below Wh.heap.size Wh W) (n:=225) (K:=[(1,.p 0 0),(189,.r 0 15),(190,.v (.int .i64 (sn:Int))),(191,.r 1 0)]) (s:=()) [1,189,190,191] (.nx [some (.p 0 0),some (.r 0 15),some (.v (.int .i64 (sn:Int))),some (.v (.int .i64 (IntKind.i64.wrap ((k:Int)+1))))] ()) hO2 (λ_ _ h=>h.drew) (by kernel_rfl) (Ev.aH (Ev.aH (Ev.aH (Ev.aH (Ev.ag hst.1 hst.2.1) pY) si) rV) h1) hS ?_
  clear h1 rV si pY hst
  intro b W hst hS
  obtain⟨h1,hst⟩:=hst.cons
  obtain⟨rV,hst⟩:=hst.cons
  obtain⟨si,hst⟩:=hst.cons
  obtain⟨pY,hst⟩:=hst.cons
  have Ua:b.tmps[191]? =some (.int .i64 ((k+1:Nat):Int)):=by rw[<-hw1];exact pY
  refine⟨⟨k+1,hkn,hst.1,hst.2.1,h1,rV,si,Ua,up2 W hS,HX⟩,?_⟩
  rw[Ua];simp;omega
theorem TE (w:World)(a:Option Addr)(n c:Nat)(hn:n≠0):
 Calls Tryz.prog 83 #[.slice a n c,.slice none 0 0] w λe w'=>e=.returned (.bool false)/\Below w.heap.size w w':=by
 go_enter Tryz.func83,Tryz.ntmps83
 have hn2:((n:Int) !=0)=true:=by simp[hn]
 go_wp2_with fail
 go_ret
 exact⟨rfl,Below.refl _ _⟩
theorem Oe (w:World)(a:Option Addr)(c:Nat):
 Calls Tryz.prog 83 #[.slice a 0 c,.slice none 0 0] w λe w'=>e=.returned (.bool true)/\Below w.heap.size w w':=by
 go_enter Tryz.func83,Tryz.ntmps83
 go_wp2_with fail
 go_loopw [5,13] (λ_ iv wr=>iv=.int .i64 0/\wr=w) (λ_ _ _=>0)
 case atStart=>exact⟨rfl,rfl⟩
 case round=>
  obtain⟨rfl,rfl⟩:=hrel
  go_wp2_with fail
  go_ret
  exact⟨rfl,Below.refl _ _⟩
theorem J3 (w:World)(a:Option Addr)(n c:Nat):
 Calls Tryz.prog 83 #[.slice a n c,.slice none 0 0] w λe w'=>e=.returned (.bool (n==0))/\Below w.heap.size w w':=by
 by_cases h:n=0
 ·subst h;exact Oe w a c
 ·rw[show(n==0)=false from by simp[h]];exact TE w a n c h
theorem Tn (i:Ps.Ins):vo i {} (i.links.length==0)=decide i.none:=by
 rw[Bool.eq_iff_iff,decide_eq_true_iff]
 unfold vo Ps.Ins.none
 simp only[Bool.and_eq_true,Ce]
 simp only[beq_iff_eq,and_assoc]
theorem II (w:World)(i:Ps.Ins)(sa:Option Addr)(sc:Nat):
 Calls Tryz.prog 35 #[.agg (aA i (.slice sa i.links.length sc)).toArray,.agg (aA {} (.slice none 0 0)).toArray] w λe w'=>e=.returned (.bool (decide i.none))/\Below w.heap.size w w':=by
 rw[<-Tn]
 exact Km w i {} sa none i.links.length sc 0 0 _ λw' _=>J3 w' sa i.links.length sc
theorem dR.below {w w':World}{B:Nat}{lv:Value}{ks:List Ps.Link}(h:dR w B lv ks)(hb:Below w.heap.size w w'):dR w' B lv ks:=by
 refine gF h λg hg=>?_
 obtain⟨_,⟨rfl,_⟩|⟨g',cap,cur,rfl,hB,hh,_⟩⟩:=h
 ·simp[Value.ownBlock]at hg
 ·obtain rfl:g'=g:=by simpa[Value.ownBlock]using hg
  exact hb.block g' (Array.getElem?_eq_some_iff.1 hh).1
def InsC (W0:World):Prop:=∀(w:World) (B:Nat) (i:Ps.Ins) (a:Option Addr) (n c:Nat),Below W0.heap.size W0 w->dR w B (.slice a n c) i.links->
 Calls Tryz.prog 81 #[.agg (aA i (.slice a n c)).toArray] w λe W'=>e=.returned (.int .i64 (Ps.oL bM.valid i))/\Below w.heap.size w W'
theorem KN (V:Nat->ByteArray->Bool)(Q:Ps.Req):Ps.zH V Q=sH V Q (Ps.oL V Q.ins) (Ps.yC Q.amd) (decide Q.ins.none):=by
 have e17:af [(!(Q.ins.ref.toList==Q.ref.toList)||!(Q.ins.sender.toList==Q.sender.toList),17)]=if Q.ins.ref≠Q.ref\/Q.ins.sender≠Q.sender then 17 else 0:=
  dL (rT (bG (Ce _ _)) (bG (Ce _ _)))
 have e3:af [(!(decide Q.ins.none),3)]=if¬Q.ins.none then 3 else 0:=dL (bG decide_eq_true_iff)
 have e4:af [(!decide Q.amd.none,3)]=if¬Q.amd.none then 3 else 0:=dL (bG decide_eq_true_iff)
 have ex1:af [(!(inB Q.op 0 4),11),(!(V 1 Q.sender),6),(!(V 2 Q.ref),6)]=if¬(0<=Q.op/\Q.op<=4)then 11 else if V 1 Q.sender=false then 6 else if V 2 Q.ref=false then 6 else 0:=by
  rw[dL (bG (iD _ _ _)),dL (LV _),dL (LV _)]
  rfl
 unfold sH
 rw[e17,e3,e4,ex1]
 simp only[bne_iff_ne,beq_iff_eq]
 unfold Ps.zH
 by_cases h1:¬(0<=Q.op/\Q.op<=4)
 ·simp only[if_pos h1];rfl
 simp only[if_neg h1]
 by_cases h2:V 1 Q.sender=false
 ·simp only[if_pos h2];rfl
 simp only[if_neg h2]
 by_cases h3:V 2 Q.ref=false
 ·simp only[if_pos h3];rfl
 simp only[if_neg h3,ne_eq,not_true_eq_false,if_false]
 by_cases h0:Q.op=0
 ·have h10:¬Q.op=1:=by omega
  simp only[h0,if_true]
  by_cases h4:Ps.oL V Q.ins=0
  ·simp only[h4,not_true_eq_false,if_false]
   by_cases h5:¬Q.ins.ref=Q.ref\/¬Q.ins.sender=Q.sender
   ·simp only[if_pos h5];rfl
   ·simp only[if_neg h5]
    rfl
  ·simp only[h4,not_false_eq_true,if_true]
 ·simp only[h0,if_false]
  by_cases h5:Q.ins.none
  ·simp only[h5,not_true_eq_false,if_false]
  ·simp only[h5,not_false_eq_true,if_true];rfl
theorem lK {W0 w:World}(env:mR W0)(hb:Below W0.heap.size W0 w)(k:Nat)(hk:k<3)(s:ByteArray):∀w',Below w.heap.size w w'->Calls Tryz.prog 80 #[.int .i64 k,.string s] w' λe w''=>e=.returned (.bool (bM.valid k s))/\Below w'.heap.size w' w'':=λw' hw=>
 Gh k hk s w' (env w' (hb.trans (hw.mono hb.size)))
theorem GA {W0:World}(env:mR W0)(ic:InsC W0):ChkC W0:=λw B Q a n c hb hl=>by
 obtain⟨a',c',hs⟩:=hl.slice
 have hn:n=Q.ins.links.length:=by cases hs;rfl
 rw[show psR Q=_ from KN bM.valid Q]
 refine rq_w1 w bM.valid Q a n c _ _ _ (λW k s hk hW=>lK env hb k hk s W hW) (λw' hw=>ic w' B Q.ins a n c (hb.trans (hw.mono hb.size)) (hl.below hw)) (λw' hw=>?_) (λw' hw=>?_)
 ·rw[hn]
  exact II w' Q.ins a c
 ·rw[<-KW]
  exact K8 w' Q.amd
theorem uY:∀(rs:List (Bool×Int)),(∀x∈rs,x.2≠0)->af rs=0->∀x∈rs,x.1=false
 |[],_,_,x,hx=>by cases hx
 |y::rs,hz,h,x,hx=>by
  unfold af at h
  by_cases hb:y.1=true
  ·rw[if_pos hb]at h
   exact absurd h (hz y List.mem_cons_self)
  ·rw[if_neg hb]at h
   rcases List.mem_cons.1 hx with rfl|hx
   ·simpa using hb
   ·exact uY rs (λz h=>hz z (List.mem_cons_of_mem _ h)) h x hx
theorem PM {w:World}{B:Nat}{a:Option Addr}{n c:Nat}{ks:List Ps.Link}(h:dR w B (.slice a n c) ks)(hn:0<n):∃sb,a=some ⟨sb,0,none⟩/\∀W,Below w.heap.size w W->nO W sb ks:=by
 obtain⟨a',c',hs⟩:=h.slice
 obtain⟨rfl,rfl,rfl⟩:a=a'/\n=ks.length/\c=c':=by cases hs;exact⟨rfl,rfl,rfl⟩
 obtain⟨sb,cap,hv,hlt,hcell⟩:=fT h hn
 refine⟨sb,by cases hv;rfl,λW hW=>?_⟩
 refine nO.below ?_ hW
 intro j x hj
 have hk:∀(ks:List Ps.Link) (j:Nat) (x:Ps.Link),ks[j]? =some x->(gK ks)[j*2]? =some (.int .i64 x.type)/\(gK ks)[j*2+1]? =some (.string x.ref):=by
  intro ks
  induction ks with
  |nil=>intro j x h;simp at h
  |cons y ks ih=>
   intro j x h
   cases j with
   |zero=>
    obtain rfl:y=x:=by simpa using h
    exact⟨rfl,rfl⟩
   |succ j=>
    have:=ih j x (by simpa using h)
    rw[show(j+1)*2=j*2+1+1 from by omega]
    exact this
 obtain⟨h1,h2⟩:=hk ks j x hj
 exact⟨hcell _ _ h1,hcell _ _ h2⟩
theorem Qi {w:World}{B:Nat}{a:Option Addr}{n c:Nat}{ks:List Ps.Link}(h:dR w B (.slice a n c) ks):n=ks.length/\n<=c:=by
 obtain⟨_,⟨hs,h0⟩|⟨g,cap,cur,hv,hB,hh,hnc,_⟩⟩:=h
 ·cases hs
  exact⟨h0.symm,Nat.le_refl _⟩
 ·cases hv
  exact⟨rfl,hnc⟩
theorem Qf {W0:World}(env:mR W0):InsC W0:=λw B i a n c hb hl=>by
 obtain⟨hn,hc⟩:=Qi hl
 have hx:=Ll bM.valid i
 rw[<-hn]at hx
 refine in_w1 w i a n c bM.valid (Ps.oL bM.valid i) (af (iC bM.valid i n)) (Ps.fE bM.valid i [] i.links) rfl (λh0=>?_) (Lib.hid hn) (Lib.hid hc) (Lib.hid rfl) (Lib.hid λh=>PM hl h) hx (lK env hb 0 (by omega)) (lK env hb 1 (by omega)) (lK env hb 2 (by omega))
 have h8:=uY _ (by unfold iC;simp) h0 (decide (8<(n:Int)),8) (by unfold iC;simp)
 simp at h8
 omega
theorem MM {m:Int}{kb ko kc:Nat}{w:World}(env:jg m kb ko kc w)(s:ByteArray)(hs:s.size<=9223372036854775807):
 Calls Tryz.prog 16 #[.string s] w λe W'=>∃rv o x,e=.returned (.tuple #[rv,.int .i64 o,.int .i64 x])/\nT w (Ps.parse bM psR s) rv o x W':=
 NV env (GA env.id (Qf env.id)) s hs
def PrsC (W:World)(s:ByteArray)(Q:Ps.Req)(o x:Int):Prop:=Calls Tryz.prog 16 #[.string s] W λe W'=>∃a n c,e=.returned (.tuple #[.agg (aB Q (.slice a n c)),.int .i64 o,.int .i64 x])/\dR W' W.heap.size (.slice a n c) Q.ins.links/\Below W.heap.size W W'
theorem prs_of {m:Int}{kb ko kc:Nat}{w:World}(env:jg m kb ko kc w)(s:ByteArray)(hs:s.size<=9223372036854775807)(W:World)(hW:Below w.heap.size w W):PrsC W s (Ps.parse bM psR s).1 (Ps.parse bM psR s).2.1 (Ps.parse bM psR s).2.2:=by
 refine(MM (env.below hW) s hs).mono ?_
 rintro e W' ⟨rv,o,x,rfl,⟨lv,rfl,hl⟩,rfl,rfl,hb⟩
 obtain⟨a,c,rfl⟩:=hl.slice
 exact⟨a,_,c,rfl,hl,hb⟩
def A7:Array Value:=#[Value.int IntKind.i64 0,Value.string {data:=#[]},Value.string {data:=#[]},Value.string {data:=#[]},Value.int IntKind.i64 0,Value.string {data:=#[]},Value.string {data:=#[]},Value.int IntKind.i64 0,Value.string {data:=#[]},Value.int IntKind.i64 0,Value.int IntKind.i64 0,Value.int IntKind.i64 0,Value.int IntKind.i64 0,Value.int IntKind.i64 0,Value.bool false,Value.int IntKind.i64 0,Value.bool false,Value.bool false,Value.slice none 0 0,Value.bool false,Value.bool false,Value.bool false,Value.bool false,Value.int IntKind.i64 0,Value.int IntKind.i64 0,Value.int IntKind.i64 0,Value.bool false,Value.int IntKind.i64 0]
theorem Bj (w:World)(Q:Ps.Req)(a:Option Addr)(n c:Nat):Sem.run Tryz.prog (storeCells ⟨w.heap.size,0,none⟩ (aB Q (.slice a n c)).toList) (w.alloc (.cells #[Value.int IntKind.i64 0,Value.string {data:=#[]},Value.string {data:=#[]},Value.string {data:=#[]},Value.int IntKind.i64 0,Value.string {data:=#[]},Value.string {data:=#[]},Value.int IntKind.i64 0,Value.string {data:=#[]},Value.int IntKind.i64 0,Value.int IntKind.i64 0,Value.int IntKind.i64 0,Value.int IntKind.i64 0,Value.int IntKind.i64 0,Value.bool false,Value.int IntKind.i64 0,Value.bool false,Value.bool false,Value.slice none 0 0,Value.bool false,Value.bool false,Value.bool false,Value.bool false,Value.int IntKind.i64 0,Value.int IntKind.i64 0,Value.int IntKind.i64 0,Value.bool false,Value.int IntKind.i64 0] 37))=.ok () (w.alloc (.cells (aB Q (.slice a n c)) 37)):=
 run_storeCells_new w 37 A7 _ (by kernel_rfl) rfl (cZ Q a n c)
theorem rJ (i:Ps.Ins)(a:Option Addr)(n c:Nat):(aA i (.slice a n c)).toArray.all (·.oneCell')=true:=by
 rw[<-Array.all_toList]
 simp[aA,Value.oneCell']
open Go Go.RowKit Go.Proofs.YtnjjeapcalkmaaaGreatDoor.Ord
open Go.Proofs.YtnjjeapcalkmaaaGreatDoor.Se
def dG:List ByteArray->ByteArray
 |[]=>⟨#[]⟩
 |t::ts=>⟨#[32]⟩++t++dG ts
def D8:List ByteArray->ByteArray
 |[]=>⟨#[]⟩
 |t::ts=>t++dG ts
theorem jJ:∀a b:List ByteArray,dG (a++b)=dG a++dG b
 |[],b=>by show dG b=⟨#[]⟩++dG b;exact ByteArray.empty_append.symm
 |t::ts,b=>by
  rw[List.cons_append]
  show⟨#[32]⟩++t++dG (ts++b)=⟨#[32]⟩++t++dG ts++dG b
  rw[jJ ts b,<-ByteArray.append_assoc]
theorem fJ {a:List ByteArray}(h:a≠[])(b:List ByteArray):D8 (a++b)=D8 a++dG b:=by
 cases a with
 |nil=>exact absurd rfl h
 |cons t ts=>
  rw[List.cons_append]
  show t++dG (ts++b)=t++dG ts++dG b
  rw[jJ,ByteArray.append_assoc]
theorem xH:∀ts:List ByteArray,dG ts=⟨(Lx.dY (ts.map λ(x:ByteArray)=>(([32]:List UInt8),x.data.toList)) []).toArray⟩
 |[]=>rfl
 |t::ts=>by
  show⟨#[32]⟩++t++dG ts=⟨([32]++(t.data.toList++Lx.dY (ts.map λ(x:ByteArray)=>(([32]:List UInt8),x.data.toList)) [])).toArray⟩
  rw[xH ts]
  apply ByteArray.ext
  apply Array.toList_inj.1
  simp[ByteArray.data_append]
theorem eT:∀ts:List ByteArray,Ps.bB ts=D8 ts
 |[]=>rfl
 |t::ts=>by
  show(⟨([]++(t.data.toList++Lx.dY (ts.map λ(x:ByteArray)=>(([32]:List UInt8),x.data.toList)) [])).toArray⟩:ByteArray)=t++dG ts
  rw[xH ts]
  apply ByteArray.ext
  apply Array.toList_inj.1
  simp[ByteArray.data_append]
structure o8 (Q:Ps.Req):Prop where
 ref:Q.ref.size<=40
 sender:Q.sender.size<=40
 iref:Q.ins.ref.size<=40
 isender:Q.ins.sender.size<=40
 icp:Q.ins.counterparty.size<=40
 iasset:Q.ins.asset.size<=40
theorem je {Q:Ps.Req}(h:psR Q=0):o8 Q:=by
 obtain⟨h1,h2,h3⟩:=Ps.lQ _ _ h
 have n1:=(di (by omega) h1).2
 have n2:=(di (by omega) h2).2
 rcases h3 with⟨_,hi,_⟩|⟨_,_,he⟩|⟨_,he⟩
 ·have i1:=(di (by omega) hi.ref).2
  have i2:=(di (by omega) hi.sender).2
  refine⟨by omega,by omega,by omega,by omega,?_,?_⟩
  ·by_cases hk:Q.ins.kind=3\/Q.ins.kind=4
   ·rw[hi.cpN hk];decide
   ·have:=(di (by omega) (hi.cpY hk)).2;omega
  ·by_cases hk:Q.ins.kind=0
   ·rw[hi.asset0 hk];decide
   ·have:=(di (by omega) (hi.asset hk)).2;omega
 ·rw[he];exact⟨by show Q.ref.size<=40;omega,by show Q.sender.size<=40;omega,Nat.zero_le _,Nat.zero_le _,Nat.zero_le _,Nat.zero_le _⟩
 ·rw[he];exact⟨by show Q.ref.size<=40;omega,by show Q.sender.size<=40;omega,Nat.zero_le _,Nat.zero_le _,Nat.zero_le _,Nat.zero_le _⟩
theorem iU {i:Ps.Ins}{lv:Value}(hl:∀x,lv≠.string x)(h1:i.ref.size<=40)(h2:i.sender.size<=40)(h3:i.counterparty.size<=40)(h4:i.asset.size<=40):∀x,Value.string x∈aA i lv->x.size<=40:=λx hx=>by
 unfold aA at hx
 simp at hx
 rcases hx with rfl|rfl|rfl|rfl|h
 ·exact h1
 ·exact h2
 ·exact h3
 ·exact h4
 ·exact absurd h.symm (hl x)
theorem BH {a:Ps.Amd}:∀x,Value.string x∈aG a->x.size<=40:=λx hx=>by
 unfold aG at hx
 simp at hx
theorem nY {Q:Ps.Req}{lv:Value}(hl:∀x,lv≠.string x)(h:o8 Q):∀x,Value.string x∈oN Q lv->x.size<=40:=λx hx=>by
 unfold oN at hx
 rcases List.mem_append.1 hx with hx|hx
 ·rcases List.mem_append.1 hx with hx|hx
  ·simp at hx
   rcases hx with rfl|rfl
   ·exact h.sender
   ·exact h.ref
  ·exact iU hl h.iref h.isender h.icp h.iasset x hx
 ·exact BH x hx
def RowsIn (W:World)(B b:Nat)(fix:List Nat):List (Option (Nat×Nat)×List Value)->Prop
 |[]=>True
 |(none,_)::rs=>RowsIn W B b fix rs
 |(some (g,o),l)::rs=>(o=0/\(g<B\/g∈fix)/\(∃t,W.heap[g]? =some (.cells l.toArray t (0,0)))/\∀x,Value.string x∈l->x.size<=b)/\RowsIn W B b fix rs
theorem cB {W:World}{B b:Nat}{fix:List Nat}:∀{rows:List (Option (Nat×Nat)×List Value)},RowsIn W B b fix rows->∀(k g o:Nat) (l:List Value),rows[k]? =some (some (g,o),l)->o=0/\(g<B\/g∈fix)/\(∃t,W.heap[g]? =some (.cells l.toArray t (0,0)))/\∀x,Value.string x∈l->x.size<=b
 |[],_,k,g,o,l,h=>by simp at h
 |(none,l0)::rs,hr,k,g,o,l,h=>by
  cases k with
  |zero=>simp at h
  |succ k=>exact cB (rows:=rs) hr k g o l (by simpa using h)
 |(some (g0,o0),l0)::rs,hr,k,g,o,l,h=>by
  cases k with
  |zero=>
   simp at h
   obtain⟨⟨rfl,rfl⟩,rfl⟩:=h
   exact hr.1
  |succ k=>exact cB (rows:=rs) hr.2 k g o l (by simpa using h)
def AB:Array Value:=#[Value.string {data:=#[]},Value.int IntKind.i64 0,Value.string {data:=#[]},Value.string {data:=#[]},Value.int IntKind.i64 0,Value.string {data:=#[]},Value.int IntKind.i64 0,Value.int IntKind.i64 0,Value.int IntKind.i64 0,Value.int IntKind.i64 0,Value.int IntKind.i64 0,Value.bool false,Value.int IntKind.i64 0,Value.bool false,Value.bool false,Value.slice none 0 0]
def qI:Array Value:=#[Value.bool false,Value.bool false,Value.bool false,Value.bool false,Value.int IntKind.i64 0,Value.int IntKind.i64 0,Value.int IntKind.i64 0,Value.bool false,Value.int IntKind.i64 0]
theorem lq_ins (w:World)(i:Ps.Ins)(a:Option Addr)(n c:Nat):Sem.run Tryz.prog (storeCells ⟨w.heap.size,0,none⟩ (aA i (.slice a n c))) (w.alloc (.cells AB 24))=.ok () (w.alloc (.cells (aA i (.slice a n c)).toArray 24)):=
 run_storeCells_new w 24 AB (aA i (.slice a n c)).toArray (by kernel_rfl) rfl (rJ i a n c)
theorem lq_amd (w:World)(a:Ps.Amd):Sem.run Tryz.prog (storeCells ⟨w.heap.size,0,none⟩ (aG a)) (w.alloc (.cells qI 26))=.ok () (w.alloc (.cells (aG a).toArray 26)):=
 run_storeCells_new w 26 qI (aG a).toArray (by kernel_rfl) rfl (by rw[<-Array.all_toList];simp[aG,Value.oneCell'])
theorem Hq (w:World)(Q:Ps.Req)(a:Option Addr)(n c:Nat):Sem.run Tryz.prog (storeCells ⟨w.heap.size,0,none⟩ (aB Q (.slice a n c)).toList) (w.alloc (.cells A7 28))=.ok () (w.alloc (.cells (aB Q (.slice a n c)) 28)):=
 run_storeCells_new w 28 A7 _ (by kernel_rfl) rfl (cZ Q a n c)
theorem al_amd (w:World):(Instr.alloc 26 true (.tuple #[])).run Tryz.prog w=.ok (.pointer (some ⟨w.heap.size,0,none⟩)) (w.alloc (.cells qI 26)):=by
 unfold qI
 go_simp
 try rfl
theorem sv_amd (w:World)(i:Ps.Amd):(Instr.storeAt 26 (.pointer (some ⟨w.heap.size,0,none⟩)) (.agg (aG i).toArray)).run Tryz.prog (w.alloc (.cells qI 26))=.ok () (w.alloc (.cells (aG i).toArray 26)):=by
 have h:=lq_amd w i
 go_simp
 try rfl
theorem Sl (g:Nat)(Q:Ps.Req)(lv:Value)(w:World)(h:w.heap[g]? =some (.cells (aB Q lv) 28 (0,0))):(Instr.loadAt 26 (.pointer (some ⟨g,19,none⟩))).run Tryz.prog w=.ok (.agg (aG Q.amd).toArray) w:=
 Ev.xY (n:=9) rfl g 19 w (λj=>(aG Q.amd).getD j (.bool false)) λj hj=>by
  rw[cell_of_row _ _ _ _ _ _ h]
  rcases j with _|_|_|_|_|_|_|_|_|j
  all_goals first|rfl|omega
theorem dE {P:Program}{ops:Array Oper}{Q:Exit->Act->World->Prop}{rest:List Oper}{o:Oper}{a:Act}{w w':World}{u:Value}{d:Nat}(hg:o.guard=none)(hd:o.dst=some d)(hr:(execOp a.eval o).run P w=.ok (.value u) w')(h:wpList P ops Q rest ⟨a.tmps.setIfInBounds d u,a.defers⟩ w'):wpList P ops Q (o::rest) a w:=by
 refine wpList_plain hg λK hK=>?_
 unfold Oper.wp
 rw[hr]
 refine hK _ _ ?_
 rw[hd]
 exact h
theorem TD {Q:Exit->Act->World->Prop}{a:Act}{w W1 W:World}{id:Nat}{o1 o2 o3 o4:Oper}{tQ tI:TypeId}{p f d1 d2 d3:Nat}{A1 A2 A3 V:Value}(h1:o1.op=.fieldAddr tQ (.tmp p) f)(h1d:o1.dst=some d1)(g1:o1.guard=none)(h2:o2.op=.load tI (.tmp d1))(FL:o2.dst=some d2)(g2:o2.guard=none)
 (h3:o3.op=.alloc tI) (Qp:o3.dst=some d3) (g3:o3.guard=none) (h4:o4.op=.store tI (.tmp d3) (.tmp d2)) (h4d:o4.dst=none) (g4:o4.guard=none) (n23:d2≠d3) (hp:a.tmps[p]? =some A1) (l1:d1<a.tmps.size) (l2:d2<a.tmps.size) (l3:d3<a.tmps.size)
 (hf:(Instr.fieldAt tQ A1 f).run Tryz.prog w=.ok A2 w) (hl:(Instr.loadAt tI A2).run Tryz.prog w=.ok V w) (ha:(Instr.alloc tI true (.tuple #[])).run Tryz.prog w=.ok A3 W1) (hs:(Instr.storeAt tI A3 V).run Tryz.prog W1=.ok () W)
 (hend:∀b:Act,b.defers=a.defers->b.tmps.size=a.tmps.size->b.tmps[d3]? =some A3->(∀s:Nat,s≠d1->s≠d2->s≠d3->b.tmps[s]? =a.tmps[s]?)->Q .normal b W):(Code.region id #[o1,o2,o3,o4] false).wp Tryz.prog Q a w:=by
 refine wp_region_lit ?_
 refine Tk g1 h1d h1 (eval_at hp) hf ?_
 refine jl g2 FL h2 (eval_at (by simp[l1])) hl ?_
 refine dE (w':=W1) (u:=A3) g3 Qp (by unfold execOp;rw[h3];simp only[Sem.run_bind,ha,Result.andThen_ok];rfl) ?_
 refine tV (w':=W) g4 h4d (by
  unfold execOp
  rw[h4]
  have e1:(⟨((a.tmps.setIfInBounds d1 A2).setIfInBounds d2 V).setIfInBounds d3 A3,a.defers⟩:Act).eval (.tmp d3)=A3:=eval_at (by simp[l3])
  have e2:(⟨((a.tmps.setIfInBounds d1 A2).setIfInBounds d2 V).setIfInBounds d3 A3,a.defers⟩:Act).eval (.tmp d2)=V:=eval_at (by simp[n23,Ne.symm n23,l2])
  simp only[e1,e2,Sem.run_bind,hs,Result.andThen_ok]
  rfl) ?_
 refine aT ?_
 refine hend _ rfl (by simp) (by simp[l3]) λs n1 n2 n3=>?_
 simp[Ne.symm n1,Ne.symm n2,Ne.symm n3]
structure LnW (w W:World)(g:Nat)(Q:Ps.Req)(lv:Value):Prop where
 hb:Below w.heap.size w W
 hg:w.heap.size=g
 sz:g+2<=W.heap.size
 r0:W.heap[g]? =some (.cells (oN Q lv).toArray 28 (0,0))
 r1:W.heap[g+1]? =some (.cells (aA Q.ins lv).toArray 24 (0,0))
theorem st40 {x:ByteArray}(h:x.size<=40):st (40,x)=x:=bW h
open Go Go.RowKit
theorem uz {P:Program}{fn:Func}{p u:Tmp}{ty:TypeId}(h:fn.results=#[.cell p ty,.tmp u])(tmps:Array Value)(w:World)(g:Nat)(t:TypeId)(cs:Array Value)(fr:Nat×Nat)(d:TypeDesc)
 (hp:tmps.getD p undef=.pointer (some ⟨g,0,none⟩)) (hg:w.heap[g]? =some (.cells cs t fr))
 (hu:P.underlying ty=some d) (hd:(match d with| .struct _| .array _ _=>true|_=>false)=true) (hi:(P.info? ty).map (·.size)=some cs.size):
 (results fn tmps).run P w=.ok (.tuple #[.agg cs,tmps.getD u undef]) w:=by
 have hp':tmps[p]?.getD undef=.pointer (some ⟨g,0,none⟩):=by simpa using hp
 simp[results,h,hp',asAddr,run_loadVar_row w g t ty cs fr d hg hu hd hi]
abbrev kT (y m d:Int):Array Value:=#[.int .i64 y,.int .i64 m,.int .i64 d]
theorem QD (W:World)(g:Nat)(a b c:Int){o:Oper}{x y:Operand}{ρ:Operand->Value}{cur:Array Value}(h:W.heap[g]? =some (.cells cur 251 (0,0)))(ho:o.op=.store 251 x y)(hx:ρ x=.pointer (some ⟨g,0,none⟩))(hy:ρ y=.agg (kT a b c))(hc:cur.size=3):(execOp ρ o).run Tryz.prog W=.ok .skip (W.setRow g (kT a b c)):=by
 unfold execOp
 simp only[ho,hx,hy,Instr.storeAt,Instr.sureAddr,Sem.run_bind,Sem.run_pure,Result.andThen_ok,run_storeVar_row (P:=Tryz.prog) W g 251 251 cur (kT a b c) h (by kernel_rfl) (by rw[hc];rfl) (by simp[kT,Value.oneCell'])]
theorem O8 (n:Int)(h0:0<=n)(hn:n<=73048):Ps.aj (n/366)<=n/\n/366<=199:=by
 unfold Ps.aj
 omega
theorem Nj (n:Int)(h0:0<=n)(hn:n<=73048)(w:World):Calls Tryz.prog 260 #[.int .i64 n] w λe w'=>e=.returned (.bool true)/\w=w':=by
 go_enter Tryz.func260,Tryz.ntmps260
 go_wp2_with fail
 go_ret
 exact⟨rfl,rfl⟩
theorem Fy (n0:Int)(h0:0<=n0)(hn:n0<=73048)(w:World):Calls Tryz.prog 240 #[.int .i64 n0] w λe w'=>∃y m d:Nat,Ps.IsC n0 y m d/\e=.returned (.tuple #[.agg (kT y m d),.int .i64 0])/\Below w.heap.size w w':=by
 have nV:=Nj n0 h0 hn
 have y0:=O8 n0 h0 hn
 have q1:IntKind.i64.wrap (n0.tdiv 366)=n0/366:=by rw[qf h0];exact au (by omega)
 have q2:IntKind.i64.wrap (2000+n0/366)=2000+n0/366:=au (by omega)
 have HN:=Lib.hid (And.intro h0 hn)
 obtain⟨p0,hp0⟩:∃p0:Int,p0=n0/366:=⟨_,rfl⟩
 rw[<-hp0]at q1 q2 y0
 have HP0:Hid (Ps.aj p0<=n0/\0<=p0/\p0<=199):=Lib.hid ⟨y0.1,by omega,y0.2⟩
 clear hp0 y0 h0 hn
 go_enter Tryz.func240,Tryz.ntmps240
 go_upto_block 0 with(go_at_call 260;refine(nV _).mono ?_;rintro x w1 ⟨rfl,rfl⟩)
 obtain⟨q,hq⟩:∃q,q=w.heap.size:=⟨_,rfl⟩
 generalize hW0:World.alloc _ _=W0
 have hr:W0.heap[q]? =some (.cells (kT 0 0 0) 251 (0,0)):=by rw[<-hW0,hq];exact aC w _
 have HB0:Hid (Below q w W0):=Lib.hid (by rw[<-hW0,hq];exact(Below.refl _ _).alloc (Nat.le_refl _) _)
 rw[<-hq]
 have HR:=Lib.hid hr
 have HQ:=Lib.hid hq
 clear hr hq hW0
 refine wp_block ?_
 go_loopw [4] (λyv wr=>∃k:Nat,yv=.int .i64 (2000+(k:Int))/\k<=199/\Hid (Ps.aj k<=n0)/\wr=W0) (λyv _=>3000-(RowKit.intOf yv).toNat)
 case atStart=>
  obtain⟨e1,e2,e3⟩:=HP0.out
  exact⟨p0.toNat,by rw[show((p0.toNat:Nat):Int)=p0 from by omega],by omega,Lib.hid (by rw[show((p0.toNat:Nat):Int)=p0 from by omega];exact e1),rfl⟩
 case round=>
  obtain⟨k,rfl,hk,HK,rfl⟩:=hrel
  obtain⟨Y,hY⟩:∃Y:Int,Y=2000+(k:Int):=⟨_,rfl⟩
  rw[<-hY]
  have hyb:2000<=Y/\Y<=2199:=by omega
  have m1:=lZ wr (Y+1) (by omega) (by omega)
  have m2:=lZ wr Y (by omega) (by omega)
  have q3:IntKind.i64.wrap (Y+1)=Y+1:=au (by omega)
  obtain⟨S1,hS1⟩:∃S1:Int,S1=I4 (Y+1-2000):=⟨_,rfl⟩
  obtain⟨S0,hS0⟩:∃S0:Int,S0=I4 (Y-2000):=⟨_,rfl⟩
  rw[<-hS1]at m1
  rw[<-hS0]at m2
  have HS1:Hid (S1=Ps.aj ((k:Int)+1)):=Lib.hid (by rw[hS1,show Y+1-2000=(k:Int)+1 from by omega];rfl)
  have HS0:Hid (S0=Ps.aj (k:Int)):=Lib.hid (by rw[hS0,show Y-2000=(k:Int)from by omega];rfl)
  have HY:=Lib.hid hY
  have HKK:=Lib.hid hk
  clear hY hS1 hS0 hyb hk
  by_cases hlt:S1<=n0
  ·have FIN:Hid (∃k2:Nat,Value.int .i64 (Y+1)=.int .i64 (2000+(k2:Int))/\k2<=199/\Hid (Ps.aj k2<=n0)/\wr=wr):=Lib.hid (by
    have e1:=HS1.out
    have e2:=HY.out
    have e3:=HKK.out
    have e4:=HN.out
    refine⟨k+1,by rw[e2,Int.natCast_add_one,Int.add_assoc],?_,Lib.hid (by rw[Int.natCast_add_one];omega),rfl⟩
    rcases Nat.lt_or_ge k 199 with h|h
    ·omega
    ·have hk9:k=199:=by omega
     subst hk9
     have:Ps.aj (((199:Nat):Int)+1)=73049:=by decide
     omega)
   have HM:Hid (Y<=2199):=Lib.hid (by have e2:=HY.out;have e3:=HKK.out;omega)
   clear m2
   go_wp2_with (go_at_call 261;refine m1.mono ?_;rintro x w1 ⟨rfl,rfl⟩)
   go_roundw
   case rel=>exact FIN.out
   case measure=>have:=HM.out;have:=HY.out;simp[RowKit.intOf];omega
  ·have HL:Hid (¬S1<=n0):=Lib.hid hlt
   obtain⟨R0,hR0⟩:∃R0:Int,R0=n0-S0:=⟨_,rfl⟩
   have HF:Hid (0<=R0/\R0<=366/\R0=n0-Ps.aj k):=Lib.hid (by
    have e1:=HS1.out
    have e2:=HS0.out
    have e3:=HK.out
    have e4:=HL.out
    have e5:=Ps.xU (k:Int) (by omega)
    omega)
   have q4:IntKind.i64.wrap (n0-S0)=R0:=by rw[hR0];exact au (by have:=HN.out;have:=HF.out;omega)
   clear hR0 q1 q2 nV
   go_upto_block 2 with(go_at_call 261;first|(with_reducible refine m1.mono ?_;rintro x w1 ⟨rfl,rfl⟩)|(with_reducible refine m2.mono ?_;rintro x w1 ⟨rfl,rfl⟩))
   clear m1 m2 hlt q4
   refine wp_block ?_
   go_loopw [5,6] (λrv mv wr2=>∃j:Nat,∃n':Int,rv=.int .i64 n'/\mv=.int .i64 ((j:Int)+1)/\j<=11/\Hid (R0=n'+Ps.bQ Y j)/\0<=n'/\n'<=366/\Hid (wr2.heap[q]? =some (.cells (kT 0 0 0) 251 (0,0)))/\Hid (Below q w wr2)) (λrv _ _=>(RowKit.intOf rv).toNat)
   case atStart=>exact⟨0,R0,rfl,rfl,by omega,Lib.hid (by simp[Ps.bQ]),HF.out.1,HF.out.2.1,HR,HB0⟩
   case round=>
    obtain⟨j,n',rfl,rfl,hj,HM,hm0,hm1,HR2,HB2⟩:=hrel
    obtain⟨m,hm⟩:∃m:Int,m=(j:Int)+1:=⟨_,rfl⟩
    rw[<-hm]
    have n2:=λw=>CR w Y m
    have Rm:=Ps.pR Y m
    obtain⟨dd,hdd⟩:∃dd:Int,dd=Ps.dim Y m:=⟨_,rfl⟩
    rw[<-hdd]at n2 Rm
    have DF:=Lib.hid hm
    have Mg:=Lib.hid hdd
    clear hdd
    have Ni:Hid (Ps.bQ Y 12=Ps.aj ((k:Int)+1)-Ps.aj k):=Lib.hid (by
     have e1:=Ps.jN k (by have:=HKK.out;omega)
     rw[<-HY.out]at e1
     exact e1)
    by_cases hlt2:dd<=n'
    ·have q5:IntKind.i64.wrap (n'-dd)=n'-dd:=au (by omega)
     have q6:IntKind.i64.wrap (m+1)=m+1:=au (by omega)
     have FIN:Hid (∀wr3:World,wr3.heap[q]? =some (.cells (kT 0 0 0) 251 (0,0))->Below q w wr3->∃j':Nat,∃n2:Int,Value.int .i64 (n'-dd)=.int .i64 n2/\Value.int .i64 (m+1)=.int .i64 ((j':Int)+1)/\j'<=11/\Hid (R0=n2+Ps.bQ Y j')/\0<=n2/\n2<=366/\Hid (wr3.heap[q]? =some (.cells (kT 0 0 0) 251 (0,0)))/\Hid (Below q w wr3)):=Lib.hid (λwr3 x1 x2=>by
      have e1:=HM.out
      have e2:Ps.bQ Y (j+1)=Ps.bQ Y j+Ps.dim Y ((j:Int)+1):=rfl
      rw[<-DF.out,<-Mg.out]at e2
      have e3:=Ni.out
      have e4:=HF.out
      have e5:=HS1.out
      have e6:=HL.out
      have hj2:j+1<=11:=by
       rcases Nat.lt_or_ge j 11 with h|h
       ·omega
       ·have hj9:j=11:=by omega
        subst hj9
        have:Ps.bQ Y (11+1)=Ps.bQ Y 12:=rfl
        omega
      refine⟨j+1,n'-dd,rfl,by rw[DF.out,Int.natCast_add_one],hj2,Lib.hid (by omega),by omega,by omega,Lib.hid x1,Lib.hid x2⟩)
     have hpos:Hid (0<dd):=Lib.hid (by
      have e1:=Mg.out
      have hYb:=HY.out
      have hkb:=HKK.out
      have e3:=DF.out
      unfold Ps.dim at e1
      rw[if_neg (by omega)]at e1
      split at e1
      ·split at e1<;>omega
      ·split at e1<;>omega)
     have HW:Hid (∀wa wb:World,wa.heap[q]? =some (.cells (kT 0 0 0) 251 (0,0))/\Below q w wa->Below wa.heap.size wa wb->wb.heap[q]? =some (.cells (kT 0 0 0) 251 (0,0))/\Below q w wb):=Lib.hid (λwa wb h1 h2=>⟨(h2.block q (Array.getElem?_eq_some_iff.1 h1.1).1).trans h1.1,h1.2.trans (h2.mono (Nat.le_of_lt (Array.getElem?_eq_some_iff.1 h1.1).1))⟩)
     have HX0:Hid (wr.heap[q]? =some (.cells (kT 0 0 0) 251 (0,0))/\Below q w wr):=Lib.hid ⟨HR2.out,HB2.out⟩
     clear hm Ni HR2 HB2 Rm
     go_wp2_with fail
     refine(n2 _).mono ?_
     rintro x w1 ⟨rfl,hb1⟩
     have HX1:=Lib.hid (HW.out _ _ HX0.out hb1)
     clear hb1
     go_wp2_with fail
     refine(n2 _).mono ?_
     rintro x w2 ⟨rfl,hb2⟩
     have HX2:=Lib.hid (HW.out _ _ HX1.out hb2)
     clear hb2
     go_wp2_with fail
     go_roundw
     case rel=>exact FIN.out _ HX2.out.1 HX2.out.2
     case measure=>have:=hpos.out;simp[RowKit.intOf];omega
    ·have q6:IntKind.i64.wrap (n'+1)=n'+1:=au (by omega)
     have HC:Hid (∃d:Nat,Ps.IsC n0 (2000+k) (j+1) d/\(d:Int)=n'+1):=Lib.hid (by
      have e5:=HM.out
      have e6:Ps.bQ Y (j+1)=Ps.bQ Y j+Ps.dim Y ((j:Int)+1):=rfl
      rw[<-DF.out,<-Mg.out]at e6
      have eY:Y=((2000+k:Nat):Int):=by rw[HY.out];omega
      have e1:=HF.out
      have e2:=HS1.out
      have e3:=HL.out
      have e4:=HN.out
      have e7:=HK.out
      rw[eY]at e5 e6
      obtain⟨_,_,hc⟩:=Ps.IsC.of (n:=n0) (p:=k) (q:=j) e4.1 e4.2 (by omega) (by omega) (by omega) (by omega)
      exact⟨_,hc,by omega⟩)
     clear Ni hm Rm
     go_wp2_with fail
     refine(n2 _).mono ?_
     rintro x w1 ⟨rfl,hb1⟩
     have HR3:Hid (w1.heap[q]? =some (.cells (kT 0 0 0) 251 (0,0))):=Lib.hid ((hb1.block q (Array.getElem?_eq_some_iff.1 HR2.out).1).trans HR2.out)
     have HB3:Hid (Below q w w1):=Lib.hid (HB2.out.trans (hb1.mono (Nat.le_of_lt (Array.getElem?_eq_some_iff.1 HR2.out).1)))
     clear hb1 HR2 HB2 n2
     go_upto_region 11 with fail
     refine wp_region_lit ?_
     refine dE (w':=w1) (u:=.int .i64 Y) rfl rfl rfl ?_
     refine dE (w':=w1) (u:=.int .i64 m) rfl rfl rfl ?_
     refine dE (w':=w1) (u:=.int .i64 n') rfl rfl rfl ?_
     refine dE (w':=w1) (u:=.int .i64 (n'+1)) rfl rfl (by go_simp) ?_
     refine dE (w':=w1) (u:=.agg (kT Y m (n'+1))) rfl rfl (by go_simp) ?_
     refine tV (w':=w1.setRow q (kT Y m (n'+1))) rfl rfl (QD w1 q Y m (n'+1) HR3.out rfl rfl rfl rfl) ?_
     refine dE (w':=w1.setRow q (kT Y m (n'+1))) (u:=.int .i64 0) rfl rfl rfl ?_
     refine aT ?_
     have PG:(w1.setRow q (kT Y m (n'+1))).heap[q]? =some (.cells (kT Y m (n'+1)) 251 (0,0)):=setRow_heap w1 q _ _ _ _ HR3.out
     have MW:Hid (Below q w (w1.setRow q (kT Y m (n'+1)))):=Lib.hid (by
      have hb:=HB3.out
      exact⟨hb.os,hb.tape,hb.output,by rw[setRow_size];exact hb.size,λg hg=>(setRow_other w1 q g _ (by omega)).trans (hb.block g hg)⟩)
     generalize w1.setRow q _=W6 at PG MW⊢
     obtain⟨d,hd1,hd2⟩:=HC.out
     have Ui:Y=((2000+k:Nat):Int):=by rw[HY.out];omega
     have hmm:m=((j+1:Nat):Int):=by rw[DF.out];omega
     have O1:Hid (Ps.IsC n0 (2000+k) (j+1) d/\Y=((2000+k:Nat):Int)/\m=((j+1:Nat):Int)/\(d:Int)=n'+1):=Lib.hid ⟨hd1,Ui,hmm,hd2⟩
     have HR6:=Lib.hid PG
     clear hd1 hd2 Ui hmm PG
     go_wp2_with fail
     try simp only[Exit.then,Exit.inBlock]
     generalize hT:(Array.setIfInBounds _ 3 (Value.int .i64 0))=T
     have hT2:T.getD 2 undef=.pointer (some ⟨q,0,none⟩):=by rw[<-hT];simp
     have hT3:T.getD 3 undef=.int .i64 0:=by rw[<-hT];simp
     clear hT
     refine bodyPost_ret (uz rfl T _ q _ _ (0,0) _ hT2 HR6.out Tryz.underlying251 rfl (by kernel_rfl)) rfl ?_
     obtain⟨f1,f2,f3,f4⟩:=O1.out
     refine⟨2000+k,j+1,d,f1,?_,by rw[<-HQ.out];exact MW.out⟩
     rw[<-f2,<-f3,f4,hT3]
abbrev Qg (B:Nat)(l:List UInt8)(v:Value)(w:World):Prop:=w.ownsRow B 5 1 v l.length (l.map λc=>Value.int .u8 (c.toNat:Int))
def yl (n k:Int)(ds:List UInt8):Prop:=∀(w:World) (B:Nat) (v:Value) (l:List UInt8),B<=w.heap.size->l.length<=100->Qg B l v w->Calls Tryz.prog 241 #[v,.int .i64 n,.int .i64 k] w λe w'=>∃z,e=.returned z/\Qg B (l++ds) z w'/\Below B w w'
theorem R7 (n:Int)(c:UInt8)(h9:¬9<n)(q1:n.tmod 10=n)(q2:IntKind.i64.wrap (48+n)=48+n)(q3:IntKind.u8.wrap (48+n)=(c.toNat:Int)):yl n 1 [c]:=by
 intro w B v l hB hl hown
 obtain⟨i0,hi,hz0,hz1,hz2⟩:=info_parts iW
 have HC:=Lib.hid q3
 go_enter Tryz.func241,Tryz.ntmps241
 go_wp2_with (at_builtin;refine wpList_append_own _ rfl _ _ 135 rfl B 5 i0 (.int .u8 0) 1 1 Tryz.underlying135 hi hz0 hz1 hz2 rfl (by decide) _ _ _ rfl (hown.alloc _) ⟨w.heap.size,0,none⟩ 1 1 [.int .u8 (c.toNat:Int)] rfl rfl ?c1 ?c2 ?c3 ?c4 ?c5 ?_)
 case c2=>rfl
 case c3=>unfold maxLen;omega
 case c4=>omega
 case c5=>first|omega|(simp;omega)
 intro v' w2 hown2 hgrow _
 have hbel:Below B w w2:=((Below.refl B w).alloc hB (.cells #[.int .u8 (c.toNat:Int)] 5)).grown hgrow (by simp;omega) (λk hk=>(hown.lt k hk).1)
 have HO:Hid (Qg B (l++[c]) v' w2):=Lib.hid (by
  show w2.ownsRow B _ 1 v' (l++[c]).length ((l++[c]).map _)
  rw[List.map_append,List.length_append]
  exact hown2)
 have HB:=Lib.hid hbel
 clear hgrow hown2 hbel hown
 go_wp2
 go_ret
 exact⟨_,rfl,HO.out,HB.out⟩
theorem UJ (n m k k' d:Int)(ds:List UInt8)(c:UInt8)(h1:1<k)(q0:IntKind.i64.wrap (n.tdiv 10)=m)(qk:IntKind.i64.wrap (k-1)=k')(q1:n.tmod 10=d)(q2:IntKind.i64.wrap (48+d)=48+d)(q3:IntKind.u8.wrap (48+d)=(c.toNat:Int))(ih:yl m k' ds)(hds:ds.length<=50):yl n k (ds++[c]):=by
 intro w B v l hB hl hown
 obtain⟨i0,hi,hz0,hz1,hz2⟩:=info_parts iW
 have n1:=ih w B v l hB hl hown
 have HL:Hid (l.length<=100/\B<=w.heap.size):=Lib.hid ⟨hl,hB⟩
 clear ih hown
 go_enter Tryz.func241,Tryz.ntmps241
 go_wp2_with fail
 refine n1.mono ?_
 rintro e w1 ⟨z,rfl,hown,hb⟩
 have hB1:B<=w1.heap.size:=Nat.le_trans hB hb.size
 clear n1
 go_wp2_with (at_builtin;refine wpList_append_own _ rfl _ _ 135 rfl B 5 i0 (.int .u8 0) 1 1 Tryz.underlying135 hi hz0 hz1 hz2 rfl (by decide) _ _ _ rfl (hown.alloc _) ⟨w1.heap.size,0,none⟩ 1 1 [.int .u8 (c.toNat:Int)] rfl rfl ?c1 ?c2 ?c3 ?c4 ?c5 ?_)
 case c1=>
  intro j u hj
  match j,hj with
  |0,hj=>simp at hj;subst hj;simp[Addr.add]
  |j+1,hj=>simp at hj
 case c2=>intro u hu;simp at hu;subst hu;rfl
 case c3=>unfold maxLen;rw[List.length_append];omega
 case c4=>rw[List.length_append];omega
 case c5=>simp;omega
 intro v' w2 hown2 hgrow _
 have hbel:Below B w w2:=(hb.alloc hB1 (.cells #[.int .u8 (c.toNat:Int)] 5)).grown hgrow (by simp;omega) (λk hk=>(hown.lt k hk).1)
 have HO:Hid (Qg B (l++(ds++[c])) v' w2):=Lib.hid (by
  show w2.ownsRow B _ 1 v' (l++(ds++[c])).length ((l++(ds++[c])).map _)
  simpa[Nat.add_assoc]using hown2)
 have HB:=Lib.hid hbel
 clear hgrow hown2 hbel hown
 go_wp2
 go_ret
 exact⟨_,rfl,HO.out,HB.out⟩
theorem NB (d:Nat)(h:d<10):IntKind.u8.wrap (48+(d:Int))=((Ps.dgt d).toNat:Int):=by
 rw[Ps.fH d h]
 exact(IntWalk.u8_in _ (by omega)).trans (by omega)
theorem fd_one (n:Nat)(h:n<10):yl n 1 [Ps.dgt n]:=R7 n _ (by omega) (by rw[Int.tmod_eq_emod_of_nonneg (by omega)];omega) (au (by omega)) (NB n h)
theorem BO (n:Nat)(k:Nat)(ds:List UInt8)(hn:n<1000000)(hk:1<=k)(hk9:k<=9)(hds:ds.length<=50)(ih:yl ((n/10:Nat):Int) (k:Int) ds):yl n ((k+1:Nat):Int) (ds++[Ps.dgt (n%10)]):=
 UJ n ((n/10:Nat):Int) _ (k:Int) ((n%10:Nat):Int) ds _ (by omega) (by rw[qf (by omega)];exact(au (by omega)).trans (by omega)) ((au (by omega)).trans (by omega)) (by rw[Int.tmod_eq_emod_of_nonneg (by omega)];omega) (au (by omega)) (NB _ (by omega)) ih hds
theorem F8 (n:Nat)(h:n<100):yl n 2 [Ps.dgt (n/10%10),Ps.dgt (n%10)]:=by
 have:=BO n 1 [Ps.dgt (n/10)] (by omega) (by omega) (by omega) (by show(1:Nat)<=50;decide) (fd_one (n/10) (by omega))
 rw[show n/10%10=n/10 from by omega]
 exact this
theorem Qz (n:Nat)(h:n<10000):yl n 4 [Ps.dgt (n/1000%10),Ps.dgt (n/100%10),Ps.dgt (n/10%10),Ps.dgt (n%10)]:=by
 have h2:=F8 (n/100) (by omega)
 have h3:=BO (n/10) 2 [Ps.dgt (n/100/10%10),Ps.dgt (n/100%10)] (by omega) (by omega) (by omega) (by show(2:Nat)<=50;decide) (by rw[show n/10/10=n/100 from by omega];exact h2)
 have h4:=BO n 3 [Ps.dgt (n/100/10%10),Ps.dgt (n/100%10),Ps.dgt (n/10%10)] (by omega) (by omega) (by omega) (by show(3:Nat)<=50;decide) h3
 rw[show n/100/10%10=n/1000%10 from by omega]at h4
 exact h4
theorem Im {B:Nat}{l:List UInt8}{z v':Value}{w1 w2:World}(hown2:w2.ownsRow B 5 1 v' (l.length+1) ((l.map λc=>Value.int .u8 (c.toNat:Int))++[.int .u8 45])):Qg B (l++[45]) v' w2:=by
 show w2.ownsRow B _ 1 v' (l++[45]).length ((l++[45]).map _)
 rw[List.map_append,List.length_append]
 exact hown2
theorem Lp (n:Int)(h0:0<=n)(hn:n<=Ps.bP)(w:World):Calls Tryz.prog 194 #[.int .i64 n] w λe w'=>e=.returned (.tuple #[.string (Ps.ae n),.int .i64 0])/\Below w.heap.size w w':=by
 have n1:=Fy n h0 hn w
 obtain⟨i0,hi,hz0,hz1,hz2⟩:=info_parts iW
 clear h0 hn
 go_enter Tryz.func194,Tryz.ntmps194
 go_upto_region 4 with(go_at_call 240;refine n1.mono ?_;rintro e w1 ⟨y,m,d,hc,rfl,hb⟩;unfold kT)
 have hc31:=hc.d31
 have HC:=Lib.hid hc
 obtain⟨g,hg⟩:∃g,g=w1.heap.size:=⟨_,rfl⟩
 generalize hW:World.alloc _ _=W
 have hrow:W.heap[g]? =some (.cells #[.int .i64 (y:Int),.int .i64 (m:Int),.int .i64 (d:Int)] 251 (0,0)):=by rw[<-hW,hg];exact aC w1 _
 have HB:Hid (Below w.heap.size w W):=Lib.hid (by rw[<-hW];exact hb.alloc hb.size _)
 have hgW:g<W.heap.size:=(Array.getElem?_eq_some_iff.1 hrow).1
 rw[<-hg]
 obtain⟨B,hBe⟩:∃B,B=W.heap.size:=⟨_,rfl⟩
 have HX:Hid (∀u:World,Below B W u->u.cell? ⟨g,0,none⟩=some (.int .i64 y)/\u.cell? ⟨g,1,none⟩=some (.int .i64 m)/\u.cell? ⟨g,2,none⟩=some (.int .i64 d)):=Lib.hid (λu hu=>by
  have h:=(hu.block g (by omega)).trans hrow
  refine⟨?_,?_,?_⟩<;>(rw[cell_of_row _ _ _ _ _ _ h];rfl))
 obtain⟨z0,-,-⟩:=HX.out W (Below.refl _ _)
 have hy:y<10000:=by have:=hc.2.1;omega
 have hm:m<100:=by have:=hc.2.2.2.1;omega
 have hd:d<100:=by omega
 obtain⟨L4,hL4⟩:∃L,L=[Ps.dgt (y/1000%10),Ps.dgt (y/100%10),Ps.dgt (y/10%10),Ps.dgt (y%10)]:=⟨_,rfl⟩
 obtain⟨M2,hM2⟩:∃L,L=[Ps.dgt (m/10%10),Ps.dgt (m%10)]:=⟨_,rfl⟩
 obtain⟨D2,hD2⟩:∃L,L=[Ps.dgt (d/10%10),Ps.dgt (d%10)]:=⟨_,rfl⟩
 have l4:L4.length=4:=by rw[hL4];rfl
 have l2:M2.length=2:=by rw[hM2];rfl
 have l3:D2.length=2:=by rw[hD2];rfl
 have m1:=Qz y hy W B (.slice none 0 0) [] (by omega) (by decide) (World.ownsRow_nil _ _ _ _)
 rw[<-hL4,List.nil_append]at m1
 have HM2:Hid (yl (m:Int) 2 M2):=Lib.hid (by rw[hM2];exact F8 m hm)
 have HM3:Hid (yl (d:Int) 2 D2):=Lib.hid (by rw[hD2];exact F8 d hd)
 have TZ:=Lib.hid hBe
 have HT:Hid (Ps.ae n=⟨(L4++[45]++M2++[45]++D2).toArray⟩):=Lib.hid (by rw[Ps.sG hc,hL4,hM2,hD2];rfl)
 have HL:Hid (L4.length=4/\M2.length=2/\D2.length=2):=Lib.hid ⟨l4,l2,l3⟩
 clear hW hg n1 hc hc31 hrow hgW hy hm hd hb hBe hL4 hM2 hD2 l4 l2 l3
 go_wp2_with fail
 refine m1.mono ?_
 rintro e w2 ⟨z,rfl,hown,hb2⟩
 have HB2:Hid (Below B W w2/\B<=w2.heap.size):=Lib.hid ⟨hb2,by rw[TZ.out];rw[TZ.out]at hb2;exact hb2.size⟩
 clear m1 z0 hb2
 go_wp2_with (at_builtin;refine wpList_append_own _ rfl _ _ 135 rfl B 5 i0 (.int .u8 0) 1 1 Tryz.underlying135 hi hz0 hz1 hz2 rfl (by decide) _ _ _ rfl (hown.alloc _) ⟨w2.heap.size,0,none⟩ 1 1 [.int .u8 45] rfl rfl ?c1 ?c2 ?c3 ?c4 ?c5 ?_)
 case c1=>
  intro j u hj
  match j,hj with
  |0,hj=>simp at hj;subst hj;simp[Addr.add]
  |j+1,hj=>simp at hj
 case c2=>intro u hu;simp at hu;subst hu;rfl
 case c3=>have:=HL.out;unfold maxLen;omega
 case c4=>have:=HL.out;omega
 case c5=>have:=HB2.out.2;simp;omega
 intro v3 w3 hown3 hgrow _
 have HB3:Hid (Below B W w3/\B<=w3.heap.size):=Lib.hid (by
  obtain⟨x1,x2⟩:=HB2.out
  have h:=(x1.alloc x2 (.cells #[.int .u8 45] 5)).grown hgrow (by simp;omega) (λk hk=>(hown.lt k hk).1)
  exact⟨h,by rw[TZ.out];rw[TZ.out]at h;exact h.size⟩)
 obtain⟨-,z1,-⟩:=HX.out w3 HB3.out.1
 have m2:=HM2.out w3 B v3 (L4++[45]) HB3.out.2 (by have:=HL.out;rw[List.length_append];show _+1<=_;omega) (Im (z:=z) (w1:=w2) hown3)
 clear hgrow hown3 hown
 go_wp2_with fail
 refine m2.mono ?_
 rintro e w4 ⟨z4,rfl,QV,hb4⟩
 have UL:Hid (Below B W w4/\B<=w4.heap.size):=Lib.hid (by
  have h:=HB3.out.1.trans hb4
  exact⟨h,by rw[TZ.out];rw[TZ.out]at h;exact h.size⟩)
 clear m2 z1 hb4
 go_wp2_with (at_builtin;refine wpList_append_own _ rfl _ _ 135 rfl B 5 i0 (.int .u8 0) 1 1 Tryz.underlying135 hi hz0 hz1 hz2 rfl (by decide) _ _ _ rfl (QV.alloc _) ⟨w4.heap.size,0,none⟩ 1 1 [.int .u8 45] rfl rfl ?c1 ?c2 ?c3 ?c4 ?c5 ?_)
 case c1=>
  intro j u hj
  match j,hj with
  |0,hj=>simp at hj;subst hj;simp[Addr.add]
  |j+1,hj=>simp at hj
 case c2=>intro u hu;simp at hu;subst hu;rfl
 case c3=>have:=HL.out;unfold maxLen;simp only[List.length_append,List.length_singleton];omega
 case c4=>have:=HL.out;simp only[List.length_append,List.length_singleton];omega
 case c5=>have:=UL.out.2;simp;omega
 intro v5 w5 hown5 hgrow _
 have TY:Hid (Below B W w5/\B<=w5.heap.size):=Lib.hid (by
  obtain⟨x1,x2⟩:=UL.out
  have h:=(x1.alloc x2 (.cells #[.int .u8 45] 5)).grown hgrow (by simp;omega) (λk hk=>(QV.lt k hk).1)
  exact⟨h,by rw[TZ.out];rw[TZ.out]at h;exact h.size⟩)
 obtain⟨-,-,z2⟩:=HX.out w5 TY.out.1
 have hown5:w5.ownsRow B 5 1 v5 ((L4++[45]++M2).length+1) (((L4++[45]++M2).map λc:UInt8=>Value.int .u8 (c.toNat:Int))++[.int .u8 45]):=by simpa using hown5
 have m3:=HM3.out w5 B v5 (L4++[45]++M2++[45]) TY.out.2 (by have:=HL.out;simp only[List.length_append,List.length_singleton];omega) (Im (z:=z) (w1:=w2) hown5)
 clear hgrow hown5 QV
 go_wp2_with fail
 refine m3.mono ?_
 rintro e w6 ⟨z6,rfl,hown6,hb6⟩
 have MW:Hid (Below w.heap.size w w6):=Lib.hid (by
  have h:=TY.out.1.trans hb6
  rw[TZ.out]at h
  exact HB.out.trans (h.mono HB.out.size))
 have HLL:Hid (0<(L4++[45]++M2++[45]++D2).length):=Lib.hid (by have:=HL.out;simp only[List.length_append,List.length_singleton];omega)
 generalize L4++[45]++M2++[45]++D2=LL at hown6 HT HLL⊢
 obtain⟨sb,cap,rfl,-,hcell⟩:=fT hown6 HLL.out
 have hcv:(convert 135 9 (.slice (some ⟨sb,0,none⟩) LL.length cap)).run Tryz.prog w6=.ok (.string ⟨LL.toArray⟩) w6:=by
  refine run_convert_bytes_back _ _ _ _ ⟨sb,0,none⟩ cap LL Tryz.underlying135 Tryz.underlying5 Tryz.underlying9 (λj hj=>?_)
  rw[show(⟨sb,0,none⟩:Addr).add j=⟨sb,j,none⟩from by unfold Addr.add;split<;>simp_all]
  refine hcell j _ ?_
  rw[List.getElem?_map,List.getElem?_eq_getElem hj]
  rfl
 clear hown6 hb6 m3 z2 hcell
 go_wp2_with fail
 go_ret2
 exact⟨by rw[HT.out];rfl,MW.out⟩
theorem fd_day (n:Int)(h0:0<=n)(hn:n<=Ps.bP)(w:World):Calls Tryz.prog 122 #[.int .i64 n] w λe w'=>e=.returned (.string (Ps.ae n))/\Below w.heap.size w w':=by
 have n1:=Lp n h0 hn w
 generalize Ps.ae n=x at n1⊢
 clear h0 hn
 go_enter Tryz.func122,Tryz.ntmps122
 go_wp2_with fail
 refine n1.mono ?_
 rintro e w1 ⟨rfl,hb⟩
 clear n1
 go_wp2_with fail
 go_ret
 exact⟨rfl,hb⟩
end Go.Proofs.YtnjjeapcalkmaaaGreatDoor
namespace Go.Proofs.YtnjjeapcalkmaaaGreatDoor.Se
open Go Go.RowKit Go.Proofs.YtnjjeapcalkmaaaGreatDoor Go.Proofs.YtnjjeapcalkmaaaGreatDoor.Ord
def aL (B:Nat)(W:World)(cell:Nat->Nat->Value)(f:FuncId)(us:List PV)(r:Rv):Prop:=
 (∀args w,(callFunc f args).run Tryz.prog w=.ok (.enter f args) w)/\r.fits/\∀(vals:List Value) (w:World),Below B W w->uI cell us vals w->Calls Tryz.prog f vals.toArray w λe w'=>∃y,e=.returned y/\r.out y w w'/\Below w.heap.size w w'
def Iy (B:Nat)(W:World)(cell:Nat->Nat->Value)(res:FuncId->List PV->Option Rv)(f:FuncId)(us:List PV):Option (PV×Bool×Option Prop):=match res f us with
 |some r=>if us.all yN=true then some (r.pv,false,some (aL B W cell f us r))else none
 |none=>none
theorem Cc {M:Mem}(hM:Wf M){res:FuncId->List PV->Option Rv}(f:FuncId)(us:List PV)(u:PV)(c:Bool)(q:Option Prop)(h:Iy M.B M.W M.cell res f us=some (u,c,q))(hq:∀p,q=some p->p):
 (∀args w,(callFunc f args).run Tryz.prog w=.ok (.enter f args) w)/\∀(vals:List Value) w,Sw M w->il M us vals w->Calls Tryz.prog f vals.toArray w λe w'=>∃v,e=.returned v/\Den M u v w'/\Sw M w'/\(c=false->Below w.heap.size w w'):=by
 unfold Iy at h
 split at h
 ·rename_i r hr
  split at h
  ·rename_i ha
   cases h
   obtain⟨h1,h2,h3⟩:=hq _ rfl
   refine⟨h1,λvals w hS hd=>(h3 vals w hS.to (nH ha hd)).mono ?_⟩
   rintro e w' ⟨y,rfl,ho,hb⟩
   have hB:M.B<=w.heap.size:=Nat.le_trans hM.B hS.size
   have hnew:∀{t:TypeId} {n:Nat} {xs:List Value},w'.ownsRow w.heap.size t 1 y n xs->∀g,y.ownBlock=some g->g∉M.fix:=λho g hg hf=>by
    rcases ho.2 with⟨hv,_⟩|⟨g',cap,cur,hv,hb',_⟩
    ·rw[hv]at hg;cases hg
    ·rw[hv]at hg
     have:g'=g:=by simpa[Value.ownBlock]using hg
     have:=hM.fix g hf
     have:=hS.size
     omega
   refine⟨y,rfl,?_,hS.below hM hb,λ_=>hb⟩
   cases r with
   |str n x=>
    show y=.string (st (n,x))
    rw[show st (n,x)=x from bW h2]
    exact ho
   |sls l=>
    have ho:w'.ownsRow w.heap.size 9 1 y l.length ((l.map st).map .string):=ho
    refine⟨?_,hnew ho⟩
    rw[List.length_map]
    exact dA ho hB
   |val x=>exact ho
   |bts l=>
    have ho:w'.ownsRow w.heap.size 5 1 y l.length (l.map λc=>.int .u8 (c.toNat:Int)):=ho
    exact⟨dA ho hB,hnew ho⟩
  ·cases h
 ·cases h
def seW (B:Nat)(W:World)(fix:List Nat)(b:Nat)(rows:List (Option (Nat×Nat)×List Value))(res:FuncId->List PV->Option Rv):Mem:=dh B W fix b rows (Iy B W (Ev.aM rows) res)
theorem vw {B:Nat}{W:World}{fix:List Nat}{b:Nat}{rows:List (Option (Nat×Nat)×List Value)}{res:FuncId->List PV->Option Rv}(hB:B<=W.heap.size)(hf:∀g∈fix,g<W.heap.size)
 (h2:∀(k g o:Nat) (l:List Value),rows[k]? =some (some (g,o),l)->(g<B\/g∈fix)/\∀w:World,w.heap[g]? =W.heap[g]?->∀(j:Nat) (v:Value),l[j]? =some v->w.cell? ⟨g,o+j,none⟩=some v)
 (hb:∀(k:Nat) (p:Nat×Nat) (l:List Value),rows[k]? =some (some p,l)->∀x,Value.string x∈l->x.size<=b):Ok Tryz.prog (seW B W fix b rows res):=
 ni hB hf h2 hb λf us u c q h hq=>Cc (M:=seW B W fix b rows res) ⟨hB,hf⟩ f us u c q h hq
theorem kE {B:Nat}{W:World}{cell:Nat->Nat->Value}{f:FuncId}{u:PV}{x y:Value}(he:∀args w,(callFunc f args).run Tryz.prog w=.ok (.enter f args) w)(hu:eG cell u=some x)(h:∀w,Below B W w->Calls Tryz.prog f #[x] w λe w'=>e=.returned y/\Below w.heap.size w w'):aL B W cell f [u] (.val y):=⟨he,trivial,λvals w hw hd=>by
 obtain⟨v,rfl,hv⟩:=Oj hd
 obtain rfl:=jQ hu hv
 exact(h w hw).mono λe w' ⟨h1,h2⟩=>⟨_,h1,rfl,h2⟩⟩
theorem gp {B:Nat}{W:World}{cell:Nat->Nat->Value}{f:FuncId}{u:PV}{x:Value}{n:Nat}{b:ByteArray}(he:∀args w,(callFunc f args).run Tryz.prog w=.ok (.enter f args) w)(hu:eG cell u=some x)(h:∀w,Below B W w->gZ f #[x] w b)(hn:b.size<=n):aL B W cell f [u] (.str n b):=⟨he,hn,λvals w hw hd=>by
 obtain⟨v,rfl,hv⟩:=Oj hd
 obtain rfl:=jQ hu hv
 exact(h w hw).mono λe w' ⟨h1,h2⟩=>⟨_,h1,rfl,h2⟩⟩
end Go.Proofs.YtnjjeapcalkmaaaGreatDoor.Se
namespace Go.Proofs.YtnjjeapcalkmaaaGreatDoor
open Go Go.RowKit Go.Proofs.YtnjjeapcalkmaaaGreatDoor.Ord
open Go.Proofs.YtnjjeapcalkmaaaGreatDoor.Se
def opN:List ByteArray:=[⟨#[115,117,98,109,105,116]⟩,⟨#[97,109,101,110,100]⟩,⟨#[99,97,110,99,101,108]⟩,⟨#[104,111,108,100]⟩,⟨#[114,101,115,117,109,101]⟩]
def kdN:List ByteArray:=[⟨#[112,97,121,109,101,110,116]⟩,⟨#[100,118,112]⟩,⟨#[102,114,101,101]⟩,⟨#[112,108,101,100,103,101]⟩,⟨#[114,101,108,101,97,115,101]⟩]
def EJ (w:World):Prop:=∀(j:Nat) (s:ByteArray),opN[j]? =some s->w.cell? ⟨0,j,none⟩=some (.string s)
def Eo (w:World):Prop:=∀(j:Nat) (s:ByteArray),kdN[j]? =some s->w.cell? ⟨2,j,none⟩=some (.string s)
theorem D5 (w:World)(g j n:Nat)(s:ByteArray)(h0:¬(j:Int)<0)(h1:¬(n:Int)<=(j:Int))(h2:(j:Int)<(n:Int))(_hj:j<n)(hc:w.cell? ⟨g,j,none⟩=some (.string s)):
 Calls Tryz.prog 127 #[.slice (some ⟨g,0,none⟩) n n,.int .i64 j] w λe w'=>e=.returned (.string s)/\w=w':=by
 go_enter Tryz.func127,Tryz.ntmps127
 go_wp2_with fail
 go_ret
 exact⟨rfl,rfl⟩
theorem KJ (w:World)(j:Nat)(s:ByteArray)(n1:Calls Tryz.prog 127 #[.slice (some ⟨0,0,none⟩) 5 5,.int .i64 j] w λe w'=>e=.returned (.string s)/\w=w'):
 Calls Tryz.prog 67 #[.int .i64 j] w λe w'=>e=.returned (.string s)/\w=w':=by
 go_enter Tryz.func67,Tryz.ntmps67
 go_wp2_with fail
 refine n1.mono ?_
 rintro e w1 ⟨rfl,rfl⟩
 clear n1
 go_wp2_with fail
 go_ret
 exact⟨rfl,rfl⟩
theorem MQ (w:World)(j:Nat)(s:ByteArray)(n1:Calls Tryz.prog 127 #[.slice (some ⟨2,0,none⟩) 5 5,.int .i64 j] w λe w'=>e=.returned (.string s)/\w=w'):
 Calls Tryz.prog 124 #[.int .i64 j] w λe w'=>e=.returned (.string s)/\w=w':=by
 go_enter Tryz.func124,Tryz.ntmps124
 go_wp2_with fail
 refine n1.mono ?_
 rintro e w1 ⟨rfl,rfl⟩
 clear n1
 go_wp2_with fail
 go_ret
 exact⟨rfl,rfl⟩
theorem j3 (w:World)(h:EJ w)(j:Nat)(s:ByteArray)(hj:opN[j]? =some s):Calls Tryz.prog 67 #[.int .i64 j] w λe w'=>e=.returned (.string s)/\w=w':=by
 have hl:j<5:=(List.getElem?_eq_some_iff.1 hj).1
 exact KJ w j s (D5 w _ j 5 s (by omega) (by omega) (by omega) hl (h j s hj))
theorem uN (w:World)(h:Eo w)(j:Nat)(s:ByteArray)(hj:kdN[j]? =some s):Calls Tryz.prog 124 #[.int .i64 j] w λe w'=>e=.returned (.string s)/\w=w':=by
 have hl:j<5:=(List.getElem?_eq_some_iff.1 hj).1
 exact MQ w j s (D5 w _ j 5 s (by omega) (by omega) (by omega) hl (h j s hj))
structure jG (W0:World):Prop where
 tab:∀w,Below W0.heap.size W0 w->zN w
 pr:∀w,Below W0.heap.size W0 w->uW w
 op:∀w,Below W0.heap.size W0 w->EJ w
 kd:∀w,Below W0.heap.size W0 w->Eo w
theorem jG.below {W0 w:World}(h:jG W0)(hb:Below W0.heap.size W0 w):jG w:=
 ⟨λw' hw'=>h.tab w' (hb.trans (hw'.mono hb.size)),λw' hw'=>h.pr w' (hb.trans (hw'.mono hb.size)),λw' hw'=>h.op w' (hb.trans (hw'.mono hb.size)),λw' hw'=>h.kd w' (hb.trans (hw'.mono hb.size))⟩
def CW (W0:World)(f:FuncId)(q:Int)(n:Nat)(x:ByteArray):Prop:=(∀w,Below W0.heap.size W0 w->gZ f #[.int .i64 q] w x)/\x.size<=n
theorem oJ {W0:World}(hE:jG W0){q:Int}(h:0<=q/\q<=Ps.bJ):CW W0 125 q 20 (Ps.bH q):=by
 have h2:=h.2
 unfold Ps.bJ at h2
 obtain⟨n,rfl⟩:∃n:Nat,q=n:=⟨q.toNat,by omega⟩
 exact⟨λw hw=>LH n (by omega) w (hE.tab w hw),kF n (by omega)⟩
theorem BC {W0:World}(hE:jG W0){q:Int}(h:0<=q/\q<=Ps.bJ):CW W0 121 q 20 (Ps.bO q):=by
 have h2:=h.2
 unfold Ps.bJ at h2
 obtain⟨n,rfl⟩:∃n:Nat,q=n:=⟨q.toNat,by omega⟩
 exact⟨λw hw=>Sn n (by omega) w (hE.tab w hw),by have:=Ps.iI h.2;omega⟩
theorem Bz {W0:World}{q:Int}(h:0<=q/\q<=Ps.bP):CW W0 122 q 10 (Ps.ae q):=⟨λw _=>fd_day q h.1 h.2 w,ny q h.1 h.2⟩
theorem lN:∀args w,(callFunc 125 args).run Tryz.prog w=.ok (.enter 125 args) w:=enters_of Tryz.func125 (by kernel_rfl) rfl
theorem tJ:∀args w,(callFunc 121 args).run Tryz.prog w=.ok (.enter 121 args) w:=enters_of Tryz.func121 (by kernel_rfl) rfl
theorem mH:∀args w,(callFunc 122 args).run Tryz.prog w=.ok (.enter 122 args) w:=enters_of Tryz.func122 (by kernel_rfl) rfl
theorem EZ:∀args w,(callFunc 128 args).run Tryz.prog w=.ok (.enter 128 args) w:=enters_of Tryz.func128 (by kernel_rfl) rfl
theorem Sg:∀args w,(callFunc 124 args).run Tryz.prog w=.ok (.enter 124 args) w:=enters_of Tryz.func124 (by kernel_rfl) rfl
theorem Ia:∀args w,(callFunc 67 args).run Tryz.prog w=.ok (.enter 67 args) w:=enters_of Tryz.func67 (by kernel_rfl) rfl
theorem SG:∀args w,(callFunc 195 args).run Tryz.prog w=.ok (.enter 195 args) w:=enters_of Tryz.func195 (by kernel_rfl) rfl
theorem JE {W0:World}(hE:jG W0){p:Int}(h:0<=p/\p<=2):CW W0 128 p 10 (Ps.bw (Ps.bX p)):=by
 refine⟨λw hw=>?_,?_⟩
 ·obtain⟨j,rfl⟩:∃j:Nat,p=j:=⟨p.toNat,by omega⟩
  have hj:prN[j]? =some (Ps.bw (Ps.bX (j:Int))):=by
   have h3:j=0\/j=1\/j=2:=by omega
   rcases h3 with rfl|rfl|rfl<;>rfl
  exact(oZ w (hE.pr w hw) j _ hj).mono λe w' ⟨h1,h2⟩=>⟨h1,h2▸Below.refl _ _⟩
 ·have h3:p=0\/p=1\/p=2:=by omega
  rcases h3 with rfl|rfl|rfl<;>decide
theorem BU (w:World):gZ 195 #[.int .i64 0] w (Ps.bw Ps.fF):=by
 unfold gZ
 go_enter Tryz.func195,Tryz.ntmps195
 go_wp2_with fail
 go_ret
 exact⟨rfl,Below.refl _ _⟩
theorem Aa (w:World):gZ 195 #[.int .i64 1] w (Ps.bw Ps.dC):=by
 unfold gZ
 go_enter Tryz.func195,Tryz.ntmps195
 go_wp2_with fail
 go_ret
 exact⟨rfl,Below.refl _ _⟩
theorem PU {W0:World}{p:Int}(h:p=0\/p=1):CW W0 195 p 5 (Ps.bw (if p=0 then Ps.fF else Ps.dC)):=by
 rcases h with rfl|rfl
 ·exact⟨λw _=>BU w,by decide⟩
 ·exact⟨λw _=>Aa w,by decide⟩
theorem spW {B:Nat}{W:World}{cell:Nat->Nat->Value}{f:FuncId}{u:PV}{q:Int}{n:Nat}{x:ByteArray}(he:∀args w,(callFunc f args).run Tryz.prog w=.ok (.enter f args) w)(hu:eG cell u=some (.int .i64 q))(hB:B=W.heap.size)(h:CW W f q n x):aL B W cell f [u] (.str n x):=gp he hu (λw hw=>h.1 w (hB▸hw)) h.2
open Go Go.ChangeShapes Go.WideShapes Go.ChangeAt Go.RowKit
theorem opn_g:Tryz.prog.globalNamed "giro/message.operationNames"=some 0:=by kernel_rfl
theorem opn_t:(Tryz.prog.globals[0]?).map (·.type)=some 165:=by kernel_rfl
theorem Qx {l:List (String×DataW Unit)}{W:World}(h:laidMetH Tryz.prog l W)(hx:("giro/message.operationNames",(Rows.laid_giro_message_operationNames:DataW Unit))∈l):EJ W:=by
 obtain⟨g',t',cs,fuel,p,hg',ht',hv,hd⟩:=nu h hx rfl
 obtain rfl:=Option.some.inj (opn_g.symm.trans hg')
 obtain rfl:=Option.some.inj (opn_t.symm.trans ht')
 have hd':DataW.trod _ Tryz.prog W 0 (λ_=>true) false fuel 165 cs.toList=some (.agg [.lit (.string [115,117,98,109,105,116]),.lit (.string [97,109,101,110,100]),.lit (.string [99,97,110,99,101,108]),.lit (.string [104,111,108,100]),.lit (.string [114,101,115,117,109,101])],p):=hd
 obtain⟨xs,m,_,hx,_,hxl,hall⟩:=DataW.trod_array Tryz.underlying165 hd'
 simp only[Prod.mk.injEq,DataW.agg.injEq]at hx
 obtain⟨hx,_⟩:=hx
 intro j s hj
 have CU:j<5:=by have:=(List.getElem?_eq_some_iff.1 hj).1;simpa[opN]using this
 have hrow:=hall j CU
 rw[QN,Nat.mul_one]at hrow
 have hxk:(xs.map (·.1))[j]? =some (.lit (.string s.data.toList)):=by
  rw[<-hx]
  match j,CU,hj with
  |0,_,hj=>cases hj;rfl
  |1,_,hj=>cases hj;rfl
  |2,_,hj=>cases hj;rfl
  |3,_,hj=>cases hj;rfl
  |4,_,hj=>cases hj;rfl
 rw[List.getElem?_map,Option.map_eq_some_iff]at hxk
 obtain⟨⟨d,q⟩,hq,Np⟩:=hxk
 simp only at Np
 subst Np
 rw[hq]at hrow
 obtain⟨s',hs',hx',_⟩:=DataW.trod_string Tryz.underlying9 hrow
 simp only[Prod.mk.injEq,DataW.lit.injEq,Lit.string.injEq]at hx'
 have hss:s=s':=by
  have:=hx'.1
  obtain⟨⟨a⟩⟩:=s
  obtain⟨⟨b⟩⟩:=s'
  have:a=b:=this
  rw[this]
 subst hss
 rw[World.var?_cell hg' hv,<-Array.getElem?_toList]
 have:((cs.toList.drop j).take 1)[0]? =some (.string s):=by rw[hs'];rfl
 rw[List.getElem?_take,if_pos (by omega),List.getElem?_drop,Nat.add_zero]at this
 exact this
theorem LK {W w:World}(h:EJ W)(hb:Below W.heap.size W w):EJ w:=λj s hj=>
 (hb.cell (World.block_lt_of_cell? W _ (h j s hj))).trans (h j s hj)
theorem kdn_g:Tryz.prog.globalNamed "giro/message.kindNames"=some 2:=by kernel_rfl
theorem kdn_t:(Tryz.prog.globals[2]?).map (·.type)=some 165:=by kernel_rfl
theorem Rj {l:List (String×DataW Unit)}{W:World}(h:laidMetH Tryz.prog l W)(hx:("giro/message.kindNames",(Rows.laid_giro_message_kindNames:DataW Unit))∈l):Eo W:=by
 obtain⟨g',t',cs,fuel,p,hg',ht',hv,hd⟩:=nu h hx rfl
 obtain rfl:=Option.some.inj (kdn_g.symm.trans hg')
 obtain rfl:=Option.some.inj (kdn_t.symm.trans ht')
 have hd':DataW.trod _ Tryz.prog W 0 (λ_=>true) false fuel 165 cs.toList=some (.agg [.lit (.string [112,97,121,109,101,110,116]),.lit (.string [100,118,112]),.lit (.string [102,114,101,101]),.lit (.string [112,108,101,100,103,101]),.lit (.string [114,101,108,101,97,115,101])],p):=hd
 obtain⟨xs,m,_,hx,_,hxl,hall⟩:=DataW.trod_array Tryz.underlying165 hd'
 simp only[Prod.mk.injEq,DataW.agg.injEq]at hx
 obtain⟨hx,_⟩:=hx
 intro j s hj
 have CU:j<5:=by have:=(List.getElem?_eq_some_iff.1 hj).1;simpa[kdN]using this
 have hrow:=hall j CU
 rw[QN,Nat.mul_one]at hrow
 have hxk:(xs.map (·.1))[j]? =some (.lit (.string s.data.toList)):=by
  rw[<-hx]
  match j,CU,hj with
  |0,_,hj=>cases hj;rfl
  |1,_,hj=>cases hj;rfl
  |2,_,hj=>cases hj;rfl
  |3,_,hj=>cases hj;rfl
  |4,_,hj=>cases hj;rfl
 rw[List.getElem?_map,Option.map_eq_some_iff]at hxk
 obtain⟨⟨d,q⟩,hq,Np⟩:=hxk
 simp only at Np
 subst Np
 rw[hq]at hrow
 obtain⟨s',hs',hx',_⟩:=DataW.trod_string Tryz.underlying9 hrow
 simp only[Prod.mk.injEq,DataW.lit.injEq,Lit.string.injEq]at hx'
 have hss:s=s':=by
  have:=hx'.1
  obtain⟨⟨a⟩⟩:=s
  obtain⟨⟨b⟩⟩:=s'
  have:a=b:=this
  rw[this]
 subst hss
 rw[World.var?_cell hg' hv,<-Array.getElem?_toList]
 have:((cs.toList.drop j).take 1)[0]? =some (.string s):=by rw[hs'];rfl
 rw[List.getElem?_take,if_pos (by omega),List.getElem?_drop,Nat.add_zero]at this
 exact this
theorem KQ {W w:World}(h:Eo W)(hb:Below W.heap.size W w):Eo w:=λj s hj=>
 (hb.cell (World.block_lt_of_cell? W _ (h j s hj))).trans (h j s hj)
theorem xI {l:List (String×DataW Unit)}{W:World}(h:laidMetH Tryz.prog l W)(h1:("internal/strconv.uint64pow10",(Rows.laid_internal_strconv_uint64pow10:DataW Unit))∈l)(h2:("giro/message.priorityNames",(Rows.laid_giro_message_priorityNames:DataW Unit))∈l)(h3:("giro/message.operationNames",(Rows.laid_giro_message_operationNames:DataW Unit))∈l)(h4:("giro/message.kindNames",(Rows.laid_giro_message_kindNames:DataW Unit))∈l):jG W:=
 ⟨λw hb=>Pk (QB h h1) hb,λw hb=>DW (mF h h2) hb,λw hb=>LK (Qx h h3) hb,λw hb=>KQ (Rj h h4) hb⟩
open Go.RowKit
theorem FW (c:Int)(w:World):
 Calls Tryz.prog 219 #[.int .u8 c] w λe w'=>e=.returned (.bool (Id.letter c))/\w'=w:=by
 go_enter Tryz.func219,Tryz.ntmps219
 go_wp2
 all_goals go_ret
 all_goals exact⟨bq (by first|(simp[Id.letter,Lx.upper];done)|(simp[Id.letter,Lx.upper];omega)),rfl⟩
theorem zW (c:Int)(w:World):
 Calls Tryz.prog 220 #[.int .u8 c] w λe w'=>e=.returned (.bool (Id.digit c))/\w'=w:=by
 go_enter Tryz.func220,Tryz.ntmps220
 go_wp2
 all_goals go_ret
 all_goals exact⟨bq (by first|(simp[Id.digit,Lx.digit];done)|(simp[Id.digit,Lx.digit];omega)),rfl⟩
def oW (k:Nat):Int:=if k=0 then 12 else if k=1 then 4 else if k=2 then 1 else 20
def A9 (k:Nat):Int:=if k=0 then 12 else if k=1 then 8 else if k=2 then 16 else 20
theorem uJ (k:Nat)(hk:k<3)(w:World):
 Calls Tryz.prog 172 #[.int .i64 k] w λe w'=>e=.returned (.tuple #[.int .i64 (oW k),.int .i64 (A9 k)])/\w'=w:=by
 match k,hk with
 |0,_=>
  go_enter Tryz.func172,Tryz.ntmps172
  go_wp2
  all_goals go_ret2
  all_goals exact⟨rfl,rfl⟩
 |1,_=>
  go_enter Tryz.func172,Tryz.ntmps172
  go_wp2
  all_goals go_ret2
  all_goals exact⟨rfl,rfl⟩
 |2,_=>
  go_enter Tryz.func172,Tryz.ntmps172
  go_wp2
  all_goals go_ret2
  all_goals exact⟨rfl,rfl⟩
theorem Ls (i:Nat)(c:Int)(b1 b2:Bool)(hi:i<2)(w:World)
 (nL:Hid (∀w,Calls Tryz.prog 219 #[.int .u8 c] w λe w'=>e=.returned (.bool b1)/\w'=w))
 (nD:Hid (∀w,Calls Tryz.prog 220 #[.int .u8 c] w λe w'=>e=.returned (.bool b2)/\w'=w)):
 Calls Tryz.prog 173 #[.int .i64 0,.int .i64 i,.int .u8 c] w λe w'=>e=.returned (.bool (b1))/\w'=w:=by
 have h1:(i:Int)<2:=by omega
 have h2:¬(i:Int)=11:=by omega
 have h3:((i:Int)==11)=false:=by simp;omega
 have h4:((i:Int)>=2)=False:=by simp;omega
 cases b1<;>cases b2
 all_goals
  go_enter Tryz.func173,Tryz.ntmps173
  go_wp2_with (first|(go_at_call 219;refine(nL.out _).mono ?_;rintro x w1 ⟨rfl,rfl⟩)|(go_at_call 220;refine(nD.out _).mono ?_;rintro x w1 ⟨rfl,rfl⟩))
  all_goals go_ret
  all_goals first|exact⟨rfl,rfl⟩|exact⟨bq (by simp_all),rfl⟩
theorem Kw (i:Nat)(c:Int)(b1 b2:Bool)(hi:2<=i)(hi2:i<11)(w:World)
 (nL:Hid (∀w,Calls Tryz.prog 219 #[.int .u8 c] w λe w'=>e=.returned (.bool b1)/\w'=w))
 (nD:Hid (∀w,Calls Tryz.prog 220 #[.int .u8 c] w λe w'=>e=.returned (.bool b2)/\w'=w)):
 Calls Tryz.prog 173 #[.int .i64 0,.int .i64 i,.int .u8 c] w λe w'=>e=.returned (.bool (b1||b2))/\w'=w:=by
 have h1:¬(i:Int)<2:=by omega
 have h2:(i:Int)<11:=by omega
 have h3:((i:Int)==11)=false:=by simp;omega
 have h4:(i:Int)>=2:=by omega
 cases b1<;>cases b2
 all_goals
  go_enter Tryz.func173,Tryz.ntmps173
  go_wp2_with (first|(go_at_call 219;refine(nL.out _).mono ?_;rintro x w1 ⟨rfl,rfl⟩)|(go_at_call 220;refine(nD.out _).mono ?_;rintro x w1 ⟨rfl,rfl⟩))
  all_goals go_ret
  all_goals first|exact⟨rfl,rfl⟩|exact⟨bq (by simp_all),rfl⟩
theorem Ju (i:Nat)(c:Int)(b1 b2:Bool)(hi:i=11)(w:World)
 (nL:Hid (∀w,Calls Tryz.prog 219 #[.int .u8 c] w λe w'=>e=.returned (.bool b1)/\w'=w))
 (nD:Hid (∀w,Calls Tryz.prog 220 #[.int .u8 c] w λe w'=>e=.returned (.bool b2)/\w'=w)):
 Calls Tryz.prog 173 #[.int .i64 0,.int .i64 i,.int .u8 c] w λe w'=>e=.returned (.bool (b2))/\w'=w:=by
 subst hi
 cases b1<;>cases b2
 all_goals
  go_enter Tryz.func173,Tryz.ntmps173
  go_wp2_with (first|(go_at_call 219;refine(nL.out _).mono ?_;rintro x w1 ⟨rfl,rfl⟩)|(go_at_call 220;refine(nD.out _).mono ?_;rintro x w1 ⟨rfl,rfl⟩))
  all_goals go_ret
  all_goals first|exact⟨rfl,rfl⟩|exact⟨bq (by simp_all),rfl⟩
theorem LQ (i:Nat)(c:Int)(b1 b2:Bool)(hi:i=0)(w:World)
 (nL:Hid (∀w,Calls Tryz.prog 219 #[.int .u8 c] w λe w'=>e=.returned (.bool b1)/\w'=w))
 (nD:Hid (∀w,Calls Tryz.prog 220 #[.int .u8 c] w λe w'=>e=.returned (.bool b2)/\w'=w)):
 Calls Tryz.prog 173 #[.int .i64 1,.int .i64 i,.int .u8 c] w λe w'=>e=.returned (.bool (b1))/\w'=w:=by
 subst hi
 cases b1<;>cases b2
 all_goals
  go_enter Tryz.func173,Tryz.ntmps173
  go_wp2_with (first|(go_at_call 219;refine(nL.out _).mono ?_;rintro x w1 ⟨rfl,rfl⟩)|(go_at_call 220;refine(nD.out _).mono ?_;rintro x w1 ⟨rfl,rfl⟩))
  all_goals go_ret
  all_goals first|exact⟨rfl,rfl⟩|exact⟨bq (by simp_all),rfl⟩
theorem La (i:Nat)(c:Int)(b1 b2:Bool)(hi:0<i)(w:World)
 (nL:Hid (∀w,Calls Tryz.prog 219 #[.int .u8 c] w λe w'=>e=.returned (.bool b1)/\w'=w))
 (nD:Hid (∀w,Calls Tryz.prog 220 #[.int .u8 c] w λe w'=>e=.returned (.bool b2)/\w'=w)):
 Calls Tryz.prog 173 #[.int .i64 1,.int .i64 i,.int .u8 c] w λe w'=>e=.returned (.bool (b1||b2))/\w'=w:=by
 have h1:(i:Int)>0:=by omega
 cases b1<;>cases b2
 all_goals
  go_enter Tryz.func173,Tryz.ntmps173
  go_wp2_with (first|(go_at_call 219;refine(nL.out _).mono ?_;rintro x w1 ⟨rfl,rfl⟩)|(go_at_call 220;refine(nD.out _).mono ?_;rintro x w1 ⟨rfl,rfl⟩))
  all_goals go_ret
  all_goals first|exact⟨rfl,rfl⟩|exact⟨bq (by simp_all),rfl⟩
theorem N8 (i:Nat)(c:Int)(b1 b2 b3:Bool)(h3:(c==45)=b3)(w:World)
 (nL:Hid (∀w,Calls Tryz.prog 219 #[.int .u8 c] w λe w'=>e=.returned (.bool b1)/\w'=w))
 (nD:Hid (∀w,Calls Tryz.prog 220 #[.int .u8 c] w λe w'=>e=.returned (.bool b2)/\w'=w)):
 Calls Tryz.prog 173 #[.int .i64 2,.int .i64 i,.int .u8 c] w λe w'=>e=.returned (.bool (b1||b2||b3))/\w'=w:=by
 cases b1<;>cases b2<;>cases b3
 all_goals
  go_enter Tryz.func173,Tryz.ntmps173
  go_wp2_with (first|(go_at_call 219;refine(nL.out _).mono ?_;rintro x w1 ⟨rfl,rfl⟩)|(go_at_call 220;refine(nD.out _).mono ?_;rintro x w1 ⟨rfl,rfl⟩))
  all_goals go_ret
  all_goals first|exact⟨rfl,rfl⟩|exact⟨bq (by simp_all),rfl⟩
def nG (k i:Nat):Int->Bool:=((bN k).map (·.2)).getD i λ_=>true
theorem Mh (i:Nat)(h:i<2):nG 0 i=Id.letter:=by
 match i,h with
 |0,_=>rfl
 |1,_=>rfl
theorem M7 (i:Nat)(h1:2<=i)(h:i<11):nG 0 i=Id.bg:=by
 obtain⟨j,rfl⟩:∃j,i=j+2:=⟨i-2,by omega⟩
 have hj:j<9:=by omega
 clear h h1
 match j,hj with
 |0,_=>rfl
 |1,_=>rfl
 |2,_=>rfl
 |3,_=>rfl
 |4,_=>rfl
 |5,_=>rfl
 |6,_=>rfl
 |7,_=>rfl
 |8,_=>rfl
theorem QZ (i:Nat)(h1:0<i)(h:i<8):nG 1 i=Id.bg:=by
 obtain⟨j,rfl⟩:∃j,i=j+1:=⟨i-1,by omega⟩
 have hj:j<7:=by omega
 clear h h1
 match j,hj with
 |0,_=>rfl
 |1,_=>rfl
 |2,_=>rfl
 |3,_=>rfl
 |4,_=>rfl
 |5,_=>rfl
 |6,_=>rfl
theorem Qw (i:Nat)(h:i<16):nG 2 i=Id.Df:=by
 by_cases h8:i<8
 ·match i,h8 with
  |0,_=>rfl
  |1,_=>rfl
  |2,_=>rfl
  |3,_=>rfl
  |4,_=>rfl
  |5,_=>rfl
  |6,_=>rfl
  |7,_=>rfl
 ·obtain⟨j,rfl⟩:∃j,i=j+8:=⟨i-8,by omega⟩
  have hj:j<8:=by omega
  clear h h8
  match j,hj with
  |0,_=>rfl
  |1,_=>rfl
  |2,_=>rfl
  |3,_=>rfl
  |4,_=>rfl
  |5,_=>rfl
  |6,_=>rfl
  |7,_=>rfl
theorem JW (k:Nat)(hk:k<3)(i:Nat)(hi:(i:Int)<A9 k)(c:Int)(w:World):
 Calls Tryz.prog 173 #[.int .i64 k,.int .i64 i,.int .u8 c] w λe w'=>e=.returned (.bool (nG k i c))/\w'=w:=by
 have nL:=Lib.hid λw=>FW c w
 have nD:=Lib.hid λw=>zW c w
 match k,hk with
 |0,_=>
  have h12:i<12:=by have:(i:Int)<12:=hi;omega
  by_cases h2:i<2
  ·rw[Mh i h2]
   exact Ls i c _ _ h2 w nL nD
  ·by_cases h11:i<11
   ·rw[M7 i (by omega) h11]
    exact Kw i c _ _ (by omega) h11 w nL nD
   ·obtain rfl:i=11:=by omega
    exact Ju 11 c _ _ rfl w nL nD
 |1,_=>
  have h12:i<8:=by have:(i:Int)<8:=hi;omega
  by_cases h0:i=0
  ·subst h0
   exact LQ 0 c _ _ rfl w nL nD
  ·rw[QZ i (by omega) h12]
   exact La i c _ _ (by omega) w nL nD
 |2,_=>
  have h12:i<16:=by have:(i:Int)<16:=hi;omega
  rw[Qw i h12]
  exact N8 i c _ _ _ (by rw[Bool.eq_iff_iff,beq_iff_eq,decide_eq_true_iff]) w nL nD
theorem jd {B:Nat}{a w:World}(h:Below B a w)(q:Nat):Below B a (w.drewN q):=⟨h.os,h.tape,h.output,h.size,h.block⟩
theorem Hf (k:Int)(s:ByteArray)(w:World)(hk1:k=1\/k=2)(low high e:Int)(nb j:Nat)(hs:s.size<=9223372036854775807)(hhi:high=(nb:Int))(hnb:nb<=20)(cls:Nat->Int->Bool)
 (nL:Hid (∀w,Calls Tryz.prog 172 #[.int .i64 k] w λe w'=>e=.returned (.tuple #[.int .i64 low,.int .i64 high])/\w'=w))
 (nM:Hid (∀(i:Nat) (c:Int) w,i<nb->Calls Tryz.prog 173 #[.int .i64 k,.int .i64 i,.int .u8 c] w λe w'=>e=.returned (.bool (cls i c))/\w'=w))
 (hjn:j<=nb) (hjs:j<=s.size) (hgood:Hid (∀i,i<j->cls i (PlainAid.bt s i)=true))
 (Dz:Hid ((j<nb/\j<s.size/\cls j (PlainAid.bt s j)=false/\e=3)\/((j=nb\/j=s.size)/\(((s.size:Int)<low/\e=4)\/(¬(s.size:Int)<low/\(s.size:Int)>high/\e=5)\/(¬(s.size:Int)<low/\¬(s.size:Int)>high/\e=0))))):
 Calls Tryz.prog 92 #[.int .i64 k,.string s] w λx w'=>(∃z:Int,x=.returned (.tuple #[.int .i64 z,.int .i64 e]))/\Below w.heap.size w w':=by
 have hub:=PlainAid.get_bt s
 rcases hk1 with rfl|rfl
 all_goals
  go_enter Tryz.func92,Tryz.ntmps92
  go_wp2_with (go_at_call 172;refine(nL.out _).mono ?_;rintro x w1 ⟨rfl,l6⟩;obtain rfl:=l6.symm;clear l6)
  go_loopw [8] (λiv wr=>∃i:Nat,iv=.int .i64 i/\i<=j/\wr=w) (λiv _=>2000-(RowKit.intOf iv).toNat)
  case atStart=>exact⟨0,rfl,Nat.zero_le _,rfl⟩
  case round=>
   obtain⟨i,rfl,hi,hwr⟩:=hrel
   subst hwr
   by_cases hlt:i<j
   ·have hx:i<s.size:=by omega
    have hxi:(i:Int)<(s.size:Int):=by omega
    have hxh:(i:Int)<high:=by omega
    have m1:=λw=>nM.out i (PlainAid.bt s i) w (by omega)
    simp only[hgood.out i hlt]at m1
    go_wp2_with (go_at_call 173;refine(m1 _).mono ?_;rintro x w1 ⟨rfl,l6⟩;obtain rfl:=l6.symm;clear l6)
    go_roundw
    case rel=>exact⟨i+1,by go_num,by omega,by first|rfl|trivial⟩
    case measure=>simp[RowKit.intOf];omega
   ·obtain rfl:i=j:=by omega
    rcases Dz.out with⟨h1,h2,h3,rfl⟩|⟨h1,h4⟩
    ·have hxi:(i:Int)<(s.size:Int):=by omega
     have hxh:(i:Int)<high:=by omega
     have m1:=λw=>nM.out i (PlainAid.bt s i) w (by omega)
     simp only[h3]at m1
     go_wp2_with (go_at_call 173;refine(m1 _).mono ?_;rintro x w1 ⟨rfl,l6⟩;obtain rfl:=l6.symm;clear l6)
     go_ret2
     exact⟨⟨_,rfl⟩,Below.refl _ _⟩
    ·have hnc:¬(i:Int)<(s.size:Int)\/((i:Int)<(s.size:Int)/\¬(i:Int)<high):=by omega
     rcases h4 with⟨h5,rfl⟩|⟨h5,h6,rfl⟩|⟨h5,h6,rfl⟩
     ·rcases hnc with hc|⟨hc,hc2⟩
      all_goals
       first
        |(exfalso;omega)
        |(go_wp2_with fail
          go_ret2
          exact⟨⟨_,rfl⟩,Below.refl _ _⟩)
     ·rcases hnc with hc|⟨hc,hc2⟩
      all_goals
       first
        |(exfalso;omega)
        |(go_wp2_with fail
          go_ret2
          exact⟨⟨_,rfl⟩,Below.refl _ _⟩)
     ·rcases hnc with hc|⟨hc,hc2⟩
      all_goals
       first
        |(exfalso;omega)
        |(go_wp2_with fail
          go_quiet (fail)
          go_wp2_with fail
          go_quiet (fail)
          go_wp2_with fail
          go_ret2
          exact⟨⟨_,rfl⟩,by first|exact Below.refl _ _|exact jd (Below.refl _ _) _|exact jd (jd (Below.refl _ _) _) _⟩)
theorem TU (p:Nat->Bool)(m:Nat):∃j,j<=m/\(∀i,i<j->p i=true)/\(j=m\/(j<m/\p j=false)):=by
 induction m with
 |zero=>exact⟨0,Nat.le_refl _,λi h=>absurd h (Nat.not_lt_zero _),Or.inl rfl⟩
 |succ m ih=>
  obtain⟨j,hj,hall,hend⟩:=ih
  rcases hend with rfl|⟨h1,h2⟩
  ·cases hp:p j with
   |false=>exact⟨j,by omega,hall,Or.inr ⟨by omega,hp⟩⟩
   |true=>
    refine⟨j+1,Nat.le_refl _,λi h=>?_,Or.inl rfl⟩
    by_cases h3:i=j
    ·rw[h3];exact hp
    ·exact hall i (by omega)
  ·exact⟨j,by omega,hall,Or.inr ⟨by omega,h2⟩⟩
theorem Iw (k nb:Nat)(s:ByteArray)(hnb:(bN k).length=nb)(hlow:(aR k).low=oW k):
 ∃j,j<=nb/\j<=s.size/\(∀i,i<j->nG k i (PlainAid.bt s i)=true)/\
  ((j<nb/\j<s.size/\nG k j (PlainAid.bt s j)=false/\bD k s=3)\/((j=nb\/j=s.size)/\(((s.size:Int)<oW k/\bD k s=4)\/(¬(s.size:Int)<oW k/\(s.size:Int)>(nb:Int)/\bD k s=5)\/(¬(s.size:Int)<oW k/\¬(s.size:Int)>(nb:Int)/\bD k s=0)))):=by
 obtain⟨j,hj,hall,hend⟩:=TU (λi=>nG k i (PlainAid.bt s i)) (min nb s.size)
 refine⟨j,by omega,by omega,hall,?_⟩
 unfold bD bi
 rw[hlow,List.length_map,hnb]
 rcases hend with h|⟨h1,h2⟩
 ·right
  have hno:(List.range nb).any (lq ((bN k).map (·.2)) s)=false:=by
   rw[List.any_eq_false]
   intro i hi
   have hi':=List.mem_range.1 hi
   unfold lq
   by_cases hx:i<s.size
   ·have:=hall i (by omega)
    unfold nG at this
    simp[this]
   ·simp[hx]
  rw[hno]
  refine⟨by omega,?_⟩
  by_cases ha:(s.size:Int)<oW k
  ·exact Or.inl ⟨ha,by simp[ha]⟩
  ·by_cases hb:(s.size:Int)>(nb:Int)
   ·refine Or.inr (Or.inl ⟨ha,hb,?_⟩)
    have hb2:nb<s.size:=by omega
    simp[ha,hb2]
   ·refine Or.inr (Or.inr ⟨ha,hb,?_⟩)
    have hb2:¬nb<s.size:=by omega
    simp only[Bool.false_eq_true,if_false,if_neg ha,if_neg hb2]
 ·left
  refine⟨by omega,by omega,h2,?_⟩
  have hyes:(List.range nb).any (lq ((bN k).map (·.2)) s)=true:=by
   rw[List.any_eq_true]
   refine⟨j,List.mem_range.2 (by omega),?_⟩
   have hx:j<s.size:=by omega
   have h2':(((bN k).map (·.2)).getD j λ_=>true) (PlainAid.bt s j)=false:=h2
   unfold lq
   rw[h2']
   simp[hx]
  rw[hyes,if_pos rfl]
theorem EF (k:Nat)(hk:k=1\/k=2)(s:ByteArray)(hs:s.size<=9223372036854775807)(w:World):
 Calls Tryz.prog 92 #[.int .i64 k,.string s] w λx w'=>(∃z:Int,x=.returned (.tuple #[.int .i64 z,.int .i64 (aS k s)]))/\Below w.heap.size w w':=by
 have he:aS k s=bD k s:=by
  unfold aS
  rcases hk with rfl|rfl<;>split<;>simp_all
 rw[he]
 have hk3:k<3:=by omega
 have nL:=Lib.hid λw=>uJ k hk3 w
 obtain⟨nb,hnb,hhi,hb20⟩:∃nb:Nat,(bN k).length=nb/\A9 k=(nb:Int)/\nb<=20:=by
  rcases hk with rfl|rfl
  ·exact⟨8,rfl,rfl,by omega⟩
  ·exact⟨16,rfl,rfl,by omega⟩
 have hlow:(aR k).low=oW k:=by rcases hk with rfl|rfl<;>rfl
 obtain⟨j,h1,h2,h3,h4⟩:=Iw k nb s hnb hlow
 refine Hf k s w (by omega) (oW k) (A9 k) (bD k s) nb j hs hhi hb20 (nG k) nL (Lib.hid λi c w hi=>JW k hk3 i (by omega) c w) h1 h2 (Lib.hid h3) (Lib.hid ?_)
 rw[hhi]
 exact h4
end Go.Proofs.YtnjjeapcalkmaaaGreatDoor
namespace Go.Proofs.YtnjjeapcalkmaaaGreatDoor.Lx
open Go
end Go.Proofs.YtnjjeapcalkmaaaGreatDoor.Lx
namespace Go.Proofs.YtnjjeapcalkmaaaGreatDoor
open Go.RowKit
def fG (l:List UInt8):List Value:=l.map λc=>.int .i64 ((c.toNat:Int)-48)
theorem og (a b:List UInt8):fG (a++b)=fG a++fG b:=by simp[fG]
theorem zG (a:List UInt8):(fG a).length=a.length:=by simp[fG]
theorem Ey:(Tryz.prog.info? 3).map (λi=>(i.zero,i.size,i.bytes))=some (some (.int .i64 0),1,8):=by kernel_rfl
theorem Md (c:UInt8)(h:Id.bg (c.toNat:Int)=true)(hd:Id.digit (c.toNat:Int)=false):65<=c.toNat/\c.toNat<=90/\fG (Id.iE c)=[.int .i64 (((c.toNat:Int)-55)/10),.int .i64 (((c.toNat:Int)-55)%10)]:=by
 have hup:65<=c.toNat/\c.toNat<=90:=by
  unfold Id.bg Lx.upper at h
  unfold Id.digit at hd
  rw[hd]at h
  simp at h
  omega
 refine⟨hup.1,hup.2,?_⟩
 unfold Id.iE
 rw[hd,if_neg (by simp),Lib.decDigits_two (by omega) (by omega)]
 simp only[fG,List.map_cons,List.map_nil]
 have e1:(UInt8.ofNat (48+(c.toNat-55)/10)).toNat=48+(c.toNat-55)/10:=by rw[UInt8.toNat_ofNat'];omega
 have e2:(UInt8.ofNat (48+(c.toNat-55)%10)).toNat=48+(c.toNat-55)%10:=by rw[UInt8.toNat_ofNat'];omega
 rw[e1,e2]
 congr 1
 ·congr 1;omega
 ·congr 1;congr 1;omega
theorem Fb (s:ByteArray)(w:World)(hs:s.size<=1000)(hal:∀c∈s.data.toList,Id.bg (c.toNat:Int)=true):
 Calls Tryz.prog 221 #[.string s] w λe w'=>∃v,e=.returned v/\w'.ownsRow w.heap.size 3 1 v (Id.aW s.data.toList).length (fG (Id.aW s.data.toList))/\Below w.heap.size w w':=by
 obtain⟨i0,hi,hz0,hz1,hz2⟩:=info_parts Ey
 have hub:=PlainAid.get_bt s
 have UY:=Lib.hid hal
 clear hal
 go_enter Tryz.func221,Tryz.ntmps221
 go_wp2_with fail
 go_loopw [3,4,5] (λv i x5 wr=>∃k:Nat,k<=s.size/\i=.int .i64 k/\Hid (Below w.heap.size w wr)/\Hid (wr.ownsRow w.heap.size 3 1 v (Id.aW (s.data.toList.take k)).length (fG (Id.aW (s.data.toList.take k))))) (λ_ i _ _=>s.size-(RowKit.intOf i).toNat)
 case atStart=>exact⟨0,Nat.zero_le _,rfl,Lib.hid (Below.refl _ _),Lib.hid (World.ownsRow_nil _ _ _ _)⟩
 case round=>
  obtain⟨k,hk,rfl,HB,HO⟩:=hrel
  by_cases hlt:k<s.size
  ·have tZ:(k:Int)<(s.size:Int):=by omega
   have hmem:s[k]∈s.data.toList:=by
    rw[List.mem_iff_getElem]
    exact⟨k,by rw[<-Lib.size_eq];exact hlt,by rw[Array.getElem_toList];rfl⟩
   have Ho:=UY.out _ hmem
   have htk:∀c∈s.data.toList.take k,Id.bg (c.toNat:Int)=true:=λc hc=>UY.out c (List.mem_of_mem_take hc)
   have hel:=Id.lW _ htk
   have TI:(s.data.toList.take k).length<=k:=List.length_take_le _ _
   have HS:=Lib.hid (Id.uV s k hlt)
   have HLEN:Hid ((Id.aW (s.data.toList.take k)).length<=2000):=Lib.hid (by omega)
   have hbc:=hub k hlt
   have hd:=λW=>zW (PlainAid.bt s k) W
   have hw1:wrap64 ((k:Int)+1)=((k+1:Nat):Int):=by unfold wrap64;omega
   have hk1:k+1<=s.size:=hlt
   cases hdg:Id.digit (PlainAid.bt s k)with
   |true=>
    rw[hdg]at hd
    have hx1:Id.iE s[k]=[s[k]]:=by
     unfold Id.iE
     rw[if_pos (by rw[hbc];exact hdg)]
    obtain⟨c,hc⟩:∃c,PlainAid.bt s k=c:=⟨_,rfl⟩
    have Fx:48<=c/\c<=57:=by
     rw[hc]at hdg
     unfold Id.digit Lx.digit at hdg
     simp at hdg
     exact hdg
    have HX:Hid (fG (Id.aW (s.data.toList.take (k+1)))=fG (Id.aW (s.data.toList.take k))++[.int .i64 (c-48)]/\(Id.aW (s.data.toList.take (k+1))).length=(Id.aW (s.data.toList.take k)).length+1):=Lib.hid (by
     rw[HS.out,hx1,og,List.length_append]
     refine⟨?_,rfl⟩
     show _++[Value.int .i64 ((s[k].toNat:Int)-48)]=_
     rw[hbc,hc])
    rw[hc]at hbc hd
    have hwu:IntKind.u8.wrap (c-48)=c-48:=IntWalk.u8_in _ (by omega)
    have Gr:=hd wr
    generalize fG (Id.aW (s.data.toList.take k))=xs at *
    generalize (Id.aW (s.data.toList.take k)).length=n at *
    clear hdg Ho hmem htk hel TI HS hx1 hub UY hd hc
    go_wp2_with (first|(go_at_call 220;refine Gr.mono ?_;rintro e w1 ⟨rfl,l6⟩;obtain rfl:=l6.symm;clear l6)|(at_builtin;refine wpList_append_own _ rfl _ _ 208 rfl w.heap.size 3 i0 _ 1 8 Tryz.underlying208 hi hz0 hz1 hz2 rfl (by decide) _ _ _ rfl (HO.out.alloc _) ⟨wr.heap.size,0,none⟩ 1 1 [.int .i64 (c-48)] rfl rfl ?c1 ?c2 ?c3 ?c4 ?c5 ?_))
    case c1=>
     intro j u hj
     match j,hj with
     |0,hj=>simp at hj;subst hj;simp[Addr.add]
     |j+1,hj=>simp at hj
    case c2=>intro u hu;simp at hu;rcases hu with rfl;rfl
    case c3=>have:=HLEN.out;unfold maxLen;omega
    case c4=>have:=HLEN.out;omega
    case c5=>have:=HB.out.size;simp;omega
    intro v' w3 hown3 hgrow3 _
    have rM:=(HB.out.alloc HB.out.size _).grown hgrow3 (by have:=HB.out.size;simp;omega) (λk hk=>(HO.out.lt k hk).1)
    have HO3:=Lib.hid hown3
    have HB3:=Lib.hid rM
    clear hgrow3 hown3 rM
    go_wp2_with fail
    refine⟨⟨k+1,hk1,by first|rfl|go_num,HB3,Lib.hid ?_⟩,by simp[RowKit.intOf]<;>omega⟩
    rw[HX.out.1,HX.out.2]
    exact HO3.out
   |false=>
    rw[hdg]at hd
    obtain⟨u1,u2,hx1⟩:=Md s[k] Ho (by rw[hbc];exact hdg)
    obtain⟨c,hc⟩:∃c,PlainAid.bt s k=c:=⟨_,rfl⟩
    have hc65:65<=c/\c<=90:=by
     have h1:(s[k].toNat:Int)=c:=hbc.trans hc
     omega
    have HX:Hid (fG (Id.aW (s.data.toList.take (k+1)))=fG (Id.aW (s.data.toList.take k))++[.int .i64 ((c-55)/10),.int .i64 ((c-55)%10)]/\(Id.aW (s.data.toList.take (k+1))).length=(Id.aW (s.data.toList.take k)).length+2):=Lib.hid (by
     have hl2:=congrArg List.length hx1
     rw[zG]at hl2
     rw[HS.out,og,hx1,List.length_append,hl2,hbc,hc]
     exact⟨rfl,rfl⟩)
    rw[hc]at hbc hd
    have hwu:IntKind.u8.wrap (c-65)=c-65:=IntWalk.u8_in _ (by omega)
    have Gr:=hd wr
    have e55:c-65+10=c-55:=by omega
    obtain⟨d,hdd⟩:∃d,c-55=d:=⟨_,rfl⟩
    have hd35:0<=d/\d<=35:=by omega
    rw[hdd]at e55 HX
    have q1:d.tdiv 10=d/10:=Int.tdiv_eq_ediv_of_nonneg hd35.1
    have q2:d.tmod 10=d%10:=Int.tmod_eq_emod_of_nonneg hd35.1
    generalize fG (Id.aW (s.data.toList.take k))=xs at *
    generalize (Id.aW (s.data.toList.take k)).length=n at *
    clear hdg Ho hmem htk hel TI HS hx1 hub UY hd hc hdd u1 u2
    go_wp2_with (first|(go_at_call 220;refine Gr.mono ?_;rintro e w1 ⟨rfl,l6⟩;obtain rfl:=l6.symm;clear l6)|(at_builtin;refine wpList_append_own _ rfl _ _ 208 rfl w.heap.size 3 i0 _ 1 8 Tryz.underlying208 hi hz0 hz1 hz2 rfl (by decide) _ _ _ rfl (HO.out.alloc _) ⟨wr.heap.size,0,none⟩ 2 2 [.int .i64 (d/10),.int .i64 (d%10)] rfl rfl ?c1 ?c2 ?c3 ?c4 ?c5 ?_))
    case c1=>
     intro j u hj
     match j,hj with
     |0,hj=>simp at hj;subst hj;simp[Addr.add]
     |1,hj=>simp at hj;subst hj;simp[Addr.add]
     |j+2,hj=>simp at hj
    case c2=>intro u hu;simp at hu;rcases hu with rfl|rfl<;>rfl
    case c3=>have:=HLEN.out;unfold maxLen;omega
    case c4=>have:=HLEN.out;omega
    case c5=>have:=HB.out.size;simp;omega
    intro v' w3 hown3 hgrow3 _
    have rM:=(HB.out.alloc HB.out.size _).grown hgrow3 (by have:=HB.out.size;simp;omega) (λk hk=>(HO.out.lt k hk).1)
    have HO3:=Lib.hid hown3
    have HB3:=Lib.hid rM
    clear hgrow3 hown3 rM
    go_wp2_with fail
    refine⟨⟨k+1,hk1,by first|rfl|go_num,HB3,Lib.hid ?_⟩,by simp[RowKit.intOf]<;>omega⟩
    rw[HX.out.1,HX.out.2]
    exact HO3.out
  ·have hkk:k=s.size:=by omega
   have tZ:¬(k:Int)<(s.size:Int):=by omega
   have HE:Hid (s.data.toList.take k=s.data.toList):=Lib.hid (List.take_of_length_le (by rw[<-Lib.size_eq];omega))
   rw[HE.out]at HO
   clear hub UY
   go_wp2_with fail
   go_ret
   exact⟨_,rfl,HO.out,HB.out⟩
theorem Jp (s L:ByteArray)(w:World)(hL:L.size<=2000)(hdig:Hid (∀j,j<L.size->48<=PlainAid.bt L j/\PlainAid.bt L j<=57))
 (nE:Hid (Calls Tryz.prog 221 #[.string s] w λe w'=>∃a c,e=.returned (.slice a L.size c)/\L.size<=c/\(0<L.size->∃sb,a=some ⟨sb,0,none⟩/\∀k,k<L.size->w'.cell? ⟨sb,k,none⟩=some (.int .i64 (PlainAid.bt L k-48)))/\Below w.heap.size w w')):
 Calls Tryz.prog 174 #[.string s] w λe w'=>e=.returned (.int .i64 ((10-Id.jX L L.size%10)%10))/\Below w.heap.size w w':=by
 have HBD:=Lib.hid (Id.Db L hdig.out)
 go_enter Tryz.func174,Tryz.ntmps174
 go_wp2_with (go_at_call 221;refine nE.out.mono ?_;rintro e w1 ⟨a,c,rfl,hlc,hcell,hb1⟩;have HC:=Lib.hid hcell;have HB:=Lib.hid hb1;clear hcell hb1)
 go_loopw [4,5,6] (λsm i _ wr=>∃(k:Nat) (x:Int),k<=L.size/\i=.int .i64 k/\wr=w1/\sm=.int .i64 x/\Hid (x=Id.jX L k)) (λ_ i _ _=>L.size-(RowKit.intOf i).toNat)
 case atStart=>exact⟨0,0,Nat.zero_le _,rfl,rfl,rfl,Lib.hid rfl⟩
 case round=>
  obtain⟨k,x,hk,rfl,hwr,rfl,HX⟩:=hrel
  subst hwr
  have hbd:=HBD.out k hk
  rw[<-HX.out]at hbd
  by_cases hlt:k<L.size
  ·have tZ:(k:Int)<(L.size:Int):=by omega
   obtain⟨sb,rfl,hcell⟩:=HC.out (by omega)
   obtain⟨j,hj⟩:∃j,j=L.size-1-k:=⟨_,rfl⟩
   have hjl:j<L.size:=by omega
   have hjI:(L.size:Int)-1-(k:Int)=(j:Int):=by omega
   have y1:=hcell j hjl
   have hdj:=hdig.out j hjl
   obtain⟨d,hd⟩:∃d,PlainAid.bt L j-48=d:=⟨_,rfl⟩
   have hd9:0<=d/\d<=9:=by omega
   have HT:Hid (Id.jX L (k+1)=x+(if (k:Int)%2=0 then d*2/10+d*2%10 else d/10+d%10)):=Lib.hid (by
    rw[HX.out,<-hd,hj];rfl)
   rw[hd]at y1
   have hx20:x<=36000/\0<=x:=by omega
   have hk1:k+1<=L.size:=hlt
   have hs1:wrap64 ((L.size:Int)-1)=(L.size:Int)-1:=by unfold wrap64;omega
   have hs2:wrap64 ((L.size:Int)-1-(k:Int))=(j:Int):=by unfold wrap64;omega
   have hw1:wrap64 ((k:Int)+1)=((k+1:Nat):Int):=by unfold wrap64;omega
   clear hcell hdj hd HX hj hbd HC HBD hdig
   by_cases hev:(k:Int)%2=0
   ·have hbe:((k:Int)%2==0)=true:=by simpa using hev
    have hbt:((k:Int).tmod 2==0)=true:=by rw[Int.tmod_eq_emod_of_nonneg (by omega)];exact hbe
    have HE:=Lib.hid hev
    clear hev
    go_wp2_with fail
    exact⟨⟨k+1,_,hk1,by first|rfl|go_num,by first|rfl|trivial,rfl,Lib.hid (by rw[HT.out,if_pos HE.out];omega)⟩,by simp[RowKit.intOf]<;>omega⟩
   ·have hbe:((k:Int)%2==0)=false:=by simpa using hev
    have hbt:((k:Int).tmod 2==0)=false:=by rw[Int.tmod_eq_emod_of_nonneg (by omega)];exact hbe
    have HE:=Lib.hid hev
    clear hev
    go_wp2_with fail
    exact⟨⟨k+1,_,hk1,by first|rfl|go_num,by first|rfl|trivial,rfl,Lib.hid (by rw[HT.out,if_neg HE.out];omega)⟩,by simp[RowKit.intOf]<;>omega⟩
  ·have hkk:k=L.size:=by omega
   have tZ:¬(k:Int)<(L.size:Int):=by omega
   have HX2:Hid (x=Id.jX L L.size):=Lib.hid (by rw[HX.out,hkk])
   clear HC HBD hdig HX hkk
   go_wp2_with fail
   go_ret
   refine⟨?_,HB.out⟩
   rw[<-HX2.out]
   rfl
theorem EH (s:ByteArray)(w:World)(hs:s.size<=1000)(hal:∀c∈s.data.toList,Id.bg (c.toNat:Int)=true):
 ∃z:Int,0<=z/\z<=9/\Id.IR s.data.toList=Lib.decDigits z.toNat/\Calls Tryz.prog 174 #[.string s] w λe w'=>e=.returned (.int .i64 z)/\Below w.heap.size w w':=by
 have hlen:=Id.lW _ hal
 rw[<-Lib.size_eq]at hlen
 have hdig:=Id.AJ _ (Id.oo _ hal)
 obtain⟨L,hL⟩:∃L:ByteArray,L=⟨(Id.aW s.data.toList).toArray⟩:=⟨_,rfl⟩
 have hLs:L.size=(Id.aW s.data.toList).length:=by rw[hL];rfl
 rw[<-hL]at hdig
 refine⟨(10-Id.jX L L.size%10)%10,by omega,by omega,by rw[hL];rfl,Jp s L w (by omega) (Lib.hid hdig) (Lib.hid ((Fb s w hs hal).mono ?_))⟩
 rintro e w' ⟨v,rfl,hv,hb⟩
 rw[<-hLs]at hv
 have hc:∃a c,v=.slice a L.size c/\L.size<=c/\(0<L.size->∃sb,a=some ⟨sb,0,none⟩/\∀k,k<L.size->w'.cell? ⟨sb,k,none⟩=some (.int .i64 (PlainAid.bt L k-48))):=by
  rcases hv.2 with⟨h1,h0⟩|⟨g,cap,cur,h1,hB,hh,hn,hcap,Tv,htake⟩
  ·exact⟨none,0,by rw[h0];exact h1,by omega,λh=>by omega⟩
  ·refine⟨_,cap,h1,hn,λh0=>⟨g,rfl,λk hk=>?_⟩⟩
   have hcell:=hv.cells (g:=g) (by rw[h1];rfl) k (.int .i64 (PlainAid.bt L k-48)) (by
    unfold fG
    rw[List.getElem?_map,List.getElem?_eq_getElem (by rw[<-hLs];exact hk)]
    have e:PlainAid.bt L k=((Id.aW s.data.toList)[k]'(by rw[<-hLs];exact hk)).toNat:=by
     rw[<-PlainAid.get_bt L k hk]
     subst hL
     rfl
    rw[e]
    rfl)
   have add:∀j,(⟨g,0,none⟩:Addr).add j=⟨g,j,none⟩:=λj=>by unfold Addr.add;split<;>simp_all
   rwa [add]at hcell
 obtain⟨a,c,rfl,h1,h2⟩:=hc
 exact⟨a,c,rfl,h1,h2,hb⟩
theorem Ord.textD_skip {P:Program}{ops:Array Oper}{Q:Exit->Act->World->Prop}{S:Bool->World->Prop}{k0:Nat}{D:Nat->Bool}{k:Nat}{o:Oper}{rest:List Oper}{a:Act}(hw:Region.wanted o (yielded ops a.tmps)=false)(hk:decide (k=k0)=false)
 (h2:Ord.jv P ops Q S k0 D (k+1) rest (a.put o.dst undef)):Ord.jv P ops Q S k0 D k (o::rest) a:=⟨undef,λb _ _=>.inr ⟨hw,rfl,λw hS=>by rw[hk,Bool.or_false];exact hS⟩,h2⟩
theorem Dp (s:ByteArray)(w:World)(e:Int)(j:Nat)(hs:s.size<=9223372036854775807)(cls:Nat->Int->Bool)(z c11:Int)
 (nL:Hid (∀w,Calls Tryz.prog 172 #[.int .i64 0] w λe w'=>e=.returned (.tuple #[.int .i64 12,.int .i64 12])/\w'=w))
 (nM:Hid (∀(i:Nat) (c:Int) w,i<12->Calls Tryz.prog 173 #[.int .i64 0,.int .i64 i,.int .u8 c] w λe w'=>e=.returned (.bool (cls i c))/\w'=w))
 (nU:Hid (s.size=12->j=12->∀W,Calls Tryz.prog 174 #[.string (s.extract 0 11)] W λe w'=>e=.returned (.int .i64 z)/\Below W.heap.size W w'))
 (Jh:PlainAid.bt s 11=c11) (Fx:Hid (s.size=12->j=12->48<=c11/\c11<=57))
 (hjn:j<=12) (hjs:j<=s.size) (hgood:Hid (∀i,i<j->cls i (PlainAid.bt s i)=true))
 (Dz:Hid ((j<12/\j<s.size/\cls j (PlainAid.bt s j)=false/\e=3)\/((j=12\/j=s.size)/\(((s.size:Int)<12/\e=4)\/(¬(s.size:Int)<12/\(s.size:Int)>12/\e=5)\/(¬(s.size:Int)<12/\¬(s.size:Int)>12/\e=if c11-48=z then 0 else 18))))):
 Calls Tryz.prog 92 #[.int .i64 0,.string s] w λx w'=>(∃z:Int,x=.returned (.tuple #[.int .i64 z,.int .i64 e]))/\Below w.heap.size w w':=by
 have hub:=PlainAid.get_bt s
 go_enter Tryz.func92,Tryz.ntmps92
 go_wp2_with (go_at_call 172;refine(nL.out _).mono ?_;rintro x w1 ⟨rfl,l6⟩;obtain rfl:=l6.symm;clear l6)
 go_loopw [8] (λiv wr=>∃i:Nat,iv=.int .i64 i/\i<=j/\wr=w) (λiv _=>2000-(RowKit.intOf iv).toNat)
 case atStart=>exact⟨0,rfl,Nat.zero_le _,rfl⟩
 case round=>
  obtain⟨i,rfl,hi,hwr⟩:=hrel
  subst hwr
  by_cases hlt:i<j
  ·have hx:i<s.size:=by omega
   have hxi:(i:Int)<(s.size:Int):=by omega
   have hxh:(i:Int)<12:=by omega
   have m1:=λw=>nM.out i (PlainAid.bt s i) w (by omega)
   simp only[hgood.out i hlt]at m1
   clear Dz Fx nU Jh
   go_wp2_with (go_at_call 173;refine(m1 _).mono ?_;rintro x w1 ⟨rfl,l6⟩;obtain rfl:=l6.symm;clear l6)
   go_roundw
   case rel=>exact⟨i+1,by go_num,by omega,by first|rfl|trivial⟩
   case measure=>simp[RowKit.intOf];omega
  ·obtain rfl:i=j:=by omega
   rcases Dz.out with⟨h1,h2,h3,rfl⟩|⟨h1,h4⟩
   ·have hxi:(i:Int)<(s.size:Int):=by omega
    have hxh:(i:Int)<12:=by omega
    have m1:=λw=>nM.out i (PlainAid.bt s i) w (by omega)
    simp only[h3]at m1
    clear Dz Fx nU Jh
    go_wp2_with (go_at_call 173;refine(m1 _).mono ?_;rintro x w1 ⟨rfl,l6⟩;obtain rfl:=l6.symm;clear l6)
    go_ret2
    exact⟨⟨_,rfl⟩,Below.refl _ _⟩
   ·have hnc:¬(i:Int)<(s.size:Int)\/((i:Int)<(s.size:Int)/\¬(i:Int)<12):=by omega
    rcases h4 with⟨h5,rfl⟩|⟨h5,h6,rfl⟩|⟨h5,h6,he⟩
    ·clear Dz Fx nU Jh
     rcases hnc with hc|⟨hc,hc2⟩
     all_goals
      first
       |(exfalso;omega)
       |(go_wp2_with fail
         go_ret2
         exact⟨⟨_,rfl⟩,Below.refl _ _⟩)
    ·clear Dz Fx nU Jh
     rcases hnc with hc|⟨hc,hc2⟩
     all_goals
      first
       |(exfalso;omega)
       |(go_wp2_with fail
         go_ret2
         exact⟨⟨_,rfl⟩,Below.refl _ _⟩)
    ·have Ku:s.size=12:=by omega
     have hi12:i=12:=by omega
     have hc:¬(i:Int)<(s.size:Int):=by omega
     have hU:=nU.out Ku hi12
     have h48:=Fx.out Ku hi12
     have h11:11<s.size:=by omega
     have h11I:(11:Int)<(s.size:Int):=by omega
     have h11L:(11:Int)<=(s.size:Int):=by omega
     have h11N:11<=s.size:=by omega
     have hb:=hub 11 h11
     rw[Jh]at hb
     have hwu:IntKind.u8.wrap (c11-48)=c11-48:=IntWalk.u8_in _ (by omega)
     have hwi:IntKind.i64.wrap (c11-48)=c11-48:=IntWalk.i64_in _ (by omega)
     have HE:=Lib.hid he
     have HU:=Lib.hid hU
     obtain⟨E,hE⟩:∃E,s.extract 0 11=E:=⟨_,rfl⟩
     rw[hE]at HU
     clear Dz Fx nU hU he hnc hgood h1 hi12 Ku hub Jh
     by_cases hz:c11-48=z
     ·have hnz:(c11-48 !=z)=false:=by simp[hz]
      have he0:e=0:=by rw[HE.out,if_pos hz]
      subst he0
      clear HE hnz
      subst hz
      go_upto_region 13 with fail
      go_region_with (first|(go_at_call 174;refine(HU.out _).mono ?_;rintro x w1 ⟨rfl,hbw⟩))
      all_goals
       have HBW:=Lib.hid ((Below.refl _ _).drew.trans (hbw.mono (by first|exact Nat.le_refl _|(simp;done))))
       clear hbw
       go_upto_region 15 with fail
       clear hwi hwu hb h48 nL nM HU h5 h6 h11 h11I h11L h11N hc
       obtain⟨W9,MX⟩:∃W9,W9=w1.drew:=⟨_,rfl⟩
       refine Ord.vB (λ_ w=>w=W9) 1000 (λ_=>false) (λ_ _ _ h=>by cases h) rfl (by kernel_rfl) (by kernel_rfl) (by exact MX.symm) ?_
       refine Ord.lH (v:=?_) rfl rfl (λw=>?_) (λK hK=>?_)
       rotate_left
       ·(go_simp;first|done|exact rfl)
       go_simp
       refine hK _ ?_
       clear hK K
       refine Ord.lH (v:=?_) rfl rfl (λw=>?_) (λK hK=>?_)
       rotate_left
       ·(go_simp;first|done|exact rfl)
       go_simp
       refine hK _ ?_
       clear hK K
       refine Ord.lH (v:=?_) rfl rfl (λw=>?_) (λK hK=>?_)
       rotate_left
       ·(go_simp;first|done|exact rfl)
       go_simp
       refine hK _ ?_
       clear hK K
       refine Ord.textD_skip rfl rfl ?_
       go_simp
       refine Ord.textD_skip rfl rfl ?_
       go_simp
       refine Ord.textD_skip rfl rfl ?_
       go_simp
       refine Ord.textD_skip rfl rfl ?_
       go_simp
       refine Ord.textD_skip rfl rfl ?_
       go_simp
       refine Ord.textD_skip rfl rfl ?_
       go_simp
       refine Ord.textD_skip rfl rfl ?_
       go_simp
       refine Ord.textD_skip rfl rfl ?_
       go_simp
       refine Ord.textD_skip rfl rfl ?_
       go_simp
       refine Ord.lH (v:=?_) rfl rfl (λw=>?_) (λK hK=>?_)
       rotate_left
       ·(go_simp;first|done|exact rfl)
       go_simp
       refine hK _ ?_
       clear hK K
       refine Ord.ML (λw9 FC=>?_)
       subst FC
       rename_i hKK
       refine hKK _ _ ?_
       clear hKK
       go_wp2_with fail
       go_ret2
       exact⟨⟨_,rfl⟩,by first|exact HBW.out.drew|(rw[MX];exact HBW.out.drew)⟩
     ·have hnz:(c11-48 !=z)=true:=by simp[hz]
      have he0:e=18:=by rw[HE.out,if_neg hz]
      subst he0
      clear HE
      go_upto_region 13 with fail
      go_region_with (first|(go_at_call 174;refine(HU.out _).mono ?_;rintro x w1 ⟨rfl,hbw⟩))
      all_goals
       have HBW:=Lib.hid ((Below.refl _ _).drew.trans (hbw.mono (by first|exact Nat.le_refl _|(simp;done))))
       clear hbw
       go_wp2_with fail
       go_ret2
       exact⟨⟨_,rfl⟩,HBW.out⟩
theorem IK (s:ByteArray)(hs:s.size<=9223372036854775807)(w:World):
 Calls Tryz.prog 92 #[.int .i64 0,.string s] w λx w'=>(∃z:Int,x=.returned (.tuple #[.int .i64 z,.int .i64 (aS 0 s)]))/\Below w.heap.size w w':=by
 have nL:=Lib.hid λw=>uJ 0 (by omega) w
 obtain⟨j,h1,h2,h3,h4⟩:=Iw 0 12 s rfl rfl
 have hfull:bD 0 s=0->s.size=12/\(∀c∈(s.extract 0 11).data.toList,Id.bg (c.toNat:Int)=true)/\Id.digit (PlainAid.bt s 11)=true:=λh0=>by
  obtain⟨k1,k2,k3⟩:=fP 0 s h0
  have e1:(aR 0).low=12:=rfl
  have e2:(bN 0).length=12:=rfl
  rw[e1]at k1
  rw[e2]at k2
  exact⟨by omega,kC 0 (.inl rfl) s 11 h0,k3 11 (by omega)⟩
 obtain⟨z,hz0,hz9,hzl,hzU⟩:∃z:Int,0<=z/\z<=9/\(bD 0 s=0->Id.IR (s.extract 0 11).data.toList=Lib.decDigits z.toNat)/\(bD 0 s=0->∀W,Calls Tryz.prog 174 #[.string (s.extract 0 11)] W λe w'=>e=.returned (.int .i64 z)/\Below W.heap.size W w'):=by
  by_cases h0:bD 0 s=0
  ·obtain⟨Ku,hal,_⟩:=hfull h0
   have hsz:(s.extract 0 11).size<=1000:=by rw[ByteArray.size_extract];omega
   obtain⟨z,q1,q2,q3,_⟩:=EH (s.extract 0 11) w hsz hal
   refine⟨z,q1,q2,λ_=>q3,λ_ W=>?_⟩
   obtain⟨z',p1,p2,p3,p4⟩:=EH (s.extract 0 11) W hsz hal
   have hzz:z'=z:=by
    have:=p3.symm.trans q3
    rw[Lib.decDigits_one (by omega),Lib.decDigits_one (by omega)]at this
    have h5:=congrArg (λl:List UInt8=>(l.head?.map UInt8.toNat).getD 0) this
    simp only[List.head?_cons,Option.map_some,Option.getD_some,UInt8.toNat_ofNat']at h5
    omega
   rw[hzz]at p4
   exact p4
  ·exact⟨0,by omega,by omega,λh=>absurd h h0,λh=>absurd h h0⟩
 have hj12:s.size=12->j=12->bD 0 s=0:=λe1 e2=>by
  rcases h4 with⟨k1,_⟩|⟨_,⟨k1,_⟩|⟨_,k1,_⟩|⟨_,_,k1⟩⟩
  ·omega
  ·have e3:oW 0=12:=rfl
   rw[e3]at k1;omega
  ·omega
  ·exact k1
 refine Dp s w (aS 0 s) j hs (nG 0) z (PlainAid.bt s 11) nL (Lib.hid λi c w hi=>JW 0 (by omega) i (by show(i:Int)<12;omega) c w) (Lib.hid λe1 e2=>hzU (hj12 e1 e2)) rfl (Lib.hid λe1 e2=>?_) h1 h2 (Lib.hid h3) (Lib.hid ?_)
 ·have:=(hfull (hj12 e1 e2)).2.2
  unfold Id.digit Lx.digit at this
  simpa using this
 ·have e3:oW 0=12:=rfl
  rw[e3]at h4
  rcases h4 with⟨k1,k2,k3,k4⟩|⟨k0,⟨k1,k2⟩|⟨k1,k2,k3⟩|⟨k1,k2,k3⟩⟩
  ·refine .inl ⟨k1,k2,k3,?_⟩
   unfold aS
   rw[if_pos (by rw[k4];decide),k4]
  ·refine .inr ⟨k0,.inl ⟨k1,?_⟩⟩
   unfold aS
   rw[if_pos (by rw[k2];decide),k2]
  ·refine .inr ⟨k0,.inr (.inl ⟨k1,k2,?_⟩)⟩
   unfold aS
   rw[if_pos (by rw[k3];decide),k3]
  ·refine .inr ⟨k0,.inr (.inr ⟨k1,k2,?_⟩)⟩
   obtain⟨Ku,_,hd⟩:=hfull k3
   have hl:=hzl k3
   have e4:(s.extract 0 11).data.toList=s.data.toList.take 11:=extract_upto s 11
   rw[e4]at hl
   have hb:PlainAid.bt s 11=(s[11].toNat:Int):=(PlainAid.get_bt s 11 (by omega)).symm
   have hdrop:s.data.toList.drop 11=[s[11]]:=by
    have hlen:s.data.toList.length=12:=by rw[<-Lib.size_eq];exact Ku
    have h5:s.data.toList.drop 11=s.data.toList[11]::s.data.toList.drop 12:=List.drop_eq_getElem_cons (by omega)
    rw[h5,List.drop_eq_nil_of_le (by omega)]
    rfl
   have hd2:48<=s[11].toNat/\s[11].toNat<=57:=by
    rw[hb]at hd
    unfold Id.digit Lx.digit at hd
    simp at hd
    omega
   unfold aS
   rw[if_neg (by rw[k3];decide),if_pos rfl,hl,hdrop,Lib.decDigits_one (by omega),hb]
   by_cases hq:(s[11].toNat:Int)-48=z
   ·rw[if_pos hq,if_pos]
    congr 1
    apply UInt8.toNat.inj
    rw[UInt8.toNat_ofNat']
    omega
   ·rw[if_neg hq,if_neg]
    intro hc
    injection hc with hc _
    have:=congrArg UInt8.toNat hc
    rw[UInt8.toNat_ofNat']at this
    omega
theorem Lj (k:Nat)(hk:k<3)(s:ByteArray)(hs:s.size<=9223372036854775807)(w:World):
 Calls Tryz.prog 92 #[.int .i64 k,.string s] w λx w'=>(∃z:Int,x=.returned (.tuple #[.int .i64 z,.int .i64 (aS k s)]))/\Below w.heap.size w w':=by
 rcases(show k=0\/k=1\/k=2 by omega)with rfl|hk
 ·exact IK s (by omega) w
 ·exact EF k hk s hs w
open Go
def yw (n:Int):Bool:=decide (0<=n)&&decide (n<=73048)
def I6 (V:Nat->ByteArray->Bool)(i:Ps.Ins)(sn:Nat)(xL:Int):Int:=if ((decide (i.kind<0))||(decide (4<i.kind)))=true then 11 else(if ((!(V 2 i.ref))||(!(V 1 i.sender)))=true then 6 else(if ((!(decide (i.kind<3)))&&(!(i.counterparty.toList==(⟨#[]⟩:ByteArray).toList)))=true then 3 else(if ((decide (i.kind<3))&&(!(V 1 i.counterparty)))=true then 6 else(if ((decide (i.kind<3))&&(i.counterparty.toList==i.sender.toList))=true then 1 else(if ((i.side !=0)&&(i.side !=1))=true then 11 else(if ((!((i.kind==1)||(i.kind==2)))&&(i.side !=0))=true then 3 else(if (((i.kind==0)&&(!(i.asset.toList==(⟨#[67,65,83,72]⟩:ByteArray).toList)))||((decide (0<i.kind))&&(!(V 0 i.asset))))=true then 6 else(if (((i.kind==0)&&(i.quantity !=0))||((decide (0<i.kind))&&((decide (i.quantity<1))||(decide (1000000000000000<i.quantity)))))=true then 2 else(if (((decide (i.kind<2))&&((decide (i.amount<1))||(decide (1000000000000000<i.amount))))||((decide (2<=i.kind))&&(i.amount !=0)))=true then 2 else(if (((!(yw i.settleDay))||(((i.kind==1)||(i.kind==2))&&((decide (i.tradeDay<0))||(decide (i.settleDay<i.tradeDay)))))||((!((i.kind==1)||(i.kind==2)))&&(i.tradeDay !=0)))=true then 28 else(if (((decide (i.priority<0))||(decide (2<i.priority)))||((!(decide (i.kind<3)))&&(i.priority !=0)))=true then 2 else(if (i.partial_&&(!((i.kind==1)||(i.kind==2))))=true then 3 else(if ((i.partial_&&((decide (i.minLot<1))||(decide (i.quantity<i.minLot))))||((!i.partial_)&&(i.minLot !=0)))=true then 2 else(if (((i.hold&&(!(decide (i.kind<3))))||(i.reserve&&((i.kind !=0)||(i.priority !=2))))||((!(decide (i.kind<3)))&&(decide (0<(sn:Int)))))=true then 3 else(if (decide (8<(sn:Int)))=true then 8 else(xL))))))))))))))))
def JN (A:Ps.Amd):Int:=if ((((!A.hasAmount)&&(!A.hasSettleDay))&&(!A.hasPriority))&&(!A.hasPartial))=true then 3 else(if (((((!A.hasAmount)&&(A.amount !=0))||((!A.hasSettleDay)&&(A.settleDay !=0)))||((!A.hasPriority)&&(A.priority !=0)))||((!A.hasPartial)&&(A.partial_||(A.minLot !=0))))=true then 3 else(if (A.hasAmount&&((decide (A.amount<1))||(decide (1000000000000000<A.amount))))=true then 2 else(if (A.hasSettleDay&&(!(yw A.settleDay)))=true then 28 else(if (A.hasPriority&&((decide (A.priority<0))||(decide (2<A.priority))))=true then 2 else(if (A.hasPartial&&((A.partial_&&((decide (A.minLot<1))||(decide (1000000000000000<A.minLot))))||((!A.partial_)&&(A.minLot !=0))))=true then 2 else(0))))))
theorem bR {c:Bool}{p:Prop}[Decidable p]{n x y:Int}(h:c=true↔p)(h2:¬p->x=y):(if c=true then n else x)=if p then n else y:=by
 by_cases hp:p
 ·rw[if_pos hp,if_pos (h.2 hp)]
 ·rw[if_neg hp,if_neg (λhc=>hp (h.1 hc))];exact h2 hp
theorem tK {c:Bool}{p q:Prop}[Decidable p][Decidable q]{n x y:Int}(h:c=true↔p\/q)(h2:¬p->¬q->x=y):(if c=true then n else x)=if p then n else if q then n else y:=by
 by_cases hp:p
 ·rw[if_pos hp,if_pos (h.2 (.inl hp))]
 ·by_cases hq:q
  ·rw[if_neg hp,if_pos hq,if_pos (h.2 (.inr hq))]
  ·rw[if_neg hp,if_neg hq,if_neg (λhc=>(h.1 hc).elim hp hq)];exact h2 hp hq
theorem beqS (s t:ByteArray):(s.toList==t.toList)=decide (s=t):=by
 by_cases h:s=t
 ·rw[h];simp
 ·rw[decide_eq_false h,beq_eq_false_iff_ne]
  intro he
  rw[Lib.toList_data,Lib.toList_data]at he
  exact h (ByteArray.ext (Array.toList_inj.1 he))
theorem MB (V:Nat->ByteArray->Bool)(hV:V 1 ⟨#[]⟩=false)(i:Ps.Ins):I6 V i i.links.length (Ps.fE V i [] i.links)=Ps.oL V i:=by
 unfold I6 Ps.oL yw Ps.bJ Ps.bP
 simp only[beqS]
 refine bR (by first|(simp;done)|(simp;omega)) λr1=>?_
 have k1:i.kind=0\/i.kind=1\/i.kind=2\/i.kind=3\/i.kind=4:=by omega
 refine tK (by simp) λr2 r3=>?_
 refine bR (by first|(simp;done)|(simp;omega)) λr4=>?_
 refine bR (by first|(simp;done)|(simp;omega)) λr5=>?_
 refine bR ?_ λr6=>?_
 ·simp only[Bool.and_eq_true,decide_eq_true_eq]
  constructor
  ·exactλh=>h.2
  ·intro h
   refine⟨Classical.byContradiction λhk=>?_,h⟩
   have h34:i.kind=3\/i.kind=4:=by omega
   have hc:i.counterparty=⟨#[]⟩:=Classical.byContradiction λhc=>r4 ⟨h34,hc⟩
   rw[<-h,hc]at r3
   exact r3 hV
 refine bR (by first|(simp;done)|(simp;omega)) λr7=>?_
 refine bR (by first|(simp;done)|(simp;omega)) λr8=>?_
 refine bR ?_ λr9=>?_
 ·rcases k1 with h|h|h|h|h<;>rw[h]<;>simp[Ps.uH]
 refine bR ?_ λr10=>?_
 ·rcases k1 with h|h|h|h|h<;>rw[h]<;>simp<;>omega
 refine bR ?_ λr11=>?_
 ·rcases k1 with h|h|h|h|h<;>rw[h]<;>simp<;>omega
 refine tK ?_ λr12 r13=>?_
 ·rcases k1 with h|h|h|h|h<;>rw[h]<;>simp<;>omega
 refine bR ?_ λr14=>?_
 ·rcases k1 with h|h|h|h|h<;>rw[h]<;>simp<;>omega
 refine bR ?_ λr15=>?_
 ·rcases k1 with h|h|h|h|h<;>rw[h]<;>simp
 refine bR ?_ λr16=>?_
 ·cases hp:i.partial_<;>simp<;>omega
 have h3:∀(c:Bool) (p q r:Prop) [Decidable p] [Decidable q] [Decidable r] (x y:Int),(c=true↔p\/q\/r)->(¬p->¬q->¬r->x=y)->(if c=true then(3:Int)else x)=if p then 3 else if q then 3 else if r then 3 else y:=by
  intro c p q r _ _ _ x y h hx
  by_cases hp:p
  ·rw[if_pos hp,if_pos (h.2 (.inl hp))]
  ·by_cases hq:q
   ·rw[if_neg hp,if_pos hq,if_pos (h.2 (.inr (.inl hq)))]
   ·by_cases hr:r
    ·rw[if_neg hp,if_neg hq,if_pos hr,if_pos (h.2 (.inr (.inr hr)))]
    ·rw[if_neg hp,if_neg hq,if_neg hr,if_neg (λhc=>(h.1 hc).elim hp (λh=>h.elim hq hr))];exact hx hp hq hr
 refine h3 _ _ _ _ _ _ ?_ λr17 r18 r19=>?_
 ·rcases k1 with h|h|h|h|h<;>rw[h]<;>simp[or_assoc]
 exact bR (by simp;omega) λ_=>rfl
theorem LD (A:Ps.Amd):JN A=Ps.yC A:=by
 unfold JN Ps.yC yw Ps.bJ Ps.bP
 refine bR (by simp[and_assoc]) λr1=>?_
 refine bR (by simp[or_assoc]) λr2=>?_
 have a0:A.hasAmount=false->A.amount=0:=λhk=>Classical.byContradiction λhc=>r2 (.inl ⟨hk,hc⟩)
 have d0:A.hasSettleDay=false->A.settleDay=0:=λhk=>Classical.byContradiction λhc=>r2 (.inr (.inl ⟨hk,hc⟩))
 have p0:A.hasPriority=false->A.priority=0:=λhk=>Classical.byContradiction λhc=>r2 (.inr (.inr (.inl ⟨hk,hc⟩)))
 have q0:A.hasPartial=false->A.partial_=false/\A.minLot=0:=λhk=>⟨by
  cases hv:A.partial_ with
  |false=>rfl
  |true=>exact absurd (.inr (.inr (.inr ⟨hk,.inl hv⟩))) r2,Classical.byContradiction λhc=>r2 (.inr (.inr (.inr ⟨hk,.inr hc⟩)))⟩
 refine bR ?_ λr3=>?_
 ·cases h:A.hasAmount
  ·have:=a0 h;simp[this]
  ·simp;omega
 refine bR ?_ λr4=>?_
 ·cases h:A.hasSettleDay
  ·have:=d0 h;simp[this]
  ·simp;omega
 refine bR ?_ λr5=>?_
 ·cases h:A.hasPriority
  ·have:=p0 h;simp[this]
  ·simp;omega
 refine bR ?_ λ_=>rfl
 cases h:A.hasPartial
 ·have:=q0 h;simp[this.1,this.2]
 ·cases hp:A.partial_<;>simp<;>omega
open Go.Proofs.YtnjjeapcalkmaaaGreatDoor.Ord
theorem Uj:∀args w,(callFunc 93 args).run Tryz.prog w=.ok (.enter 93 args) w:=enters_of Tryz.func93 (by kernel_rfl) rfl
section
variable (x y : Operand) (n m : Int) (w : World)
theorem cm_lt3:(do eqGuard .lss 3 x y (.int .i64 n) (.int .i64 m);binOp .lss 3 (.int .i64 n) (.int .i64 m):Sem Value).run Tryz.prog w=.ok (.bool (decide (n<m))) w:=by go_simp
end
theorem ED (w:World)(n:Int):Calls Tryz.prog 93 #[.int .i64 n] w λe w'=>e=.returned (.bool (yw n))/\Below w.heap.size w w':=by
 unfold yw
 by_cases h1:n>=0
 all_goals
  go_enter Tryz.func93,Tryz.ntmps93
  go_wp2_with fail
  go_ret
  exact⟨bq (by first|rfl|(simp;omega)|simp),Below.refl _ _⟩
open Go.Proofs.YtnjjeapcalkmaaaGreatDoor.Ev (AV Mem Fr lX)
def amdM (g:Nat)(A:Ps.Amd):Mem Unit:=lX (λt f=>if t=26/\f<9 then some f else none) [(some (g,0),aG A)] λf vs=>if f=93 then(match vs.map (Ev.fe [(some (g,0),aG A)])with|[.int .i64 n]=>some (.bool (yw n))|_=>none)else none
theorem PR {t:TypeId}{f d:Nat}(h:(if t=26/\f<9 then some f else none)=some d)(b j:Nat)(w:World):(Instr.fieldAt t (.pointer (some ⟨b,j,none⟩)) f).run Tryz.prog w=.ok (.pointer (some ⟨b,j+d,none⟩)) w:=by
 split at h
 ·rename_i h1
  obtain⟨rfl,h2⟩:=h1
  cases h
  rcases f with _|_|_|_|_|_|_|_|_|f
  all_goals first|omega|go_simp
 ·cases h
theorem Q3 {S:World->Prop}{g:Nat}{A:Ps.Amd}(hr:∀w,S w->w.heap[g]? =some (.cells (aG A).toArray 26 (0,0)))(hb:∀w w',S w->Below w.heap.size w w'->S w'):Ev.Ok Tryz.prog (λ_ w=>S w) (amdM g A):=by
 refine Ev.jw (λt f d h=>PR h) (λk b o l h w hS j v hv=>?_) (λf vs v h=>?_) (λ_ _ _ h=>by cases h)
 ·rcases k with _|k
  ·cases h
   rw[Nat.zero_add,cell_of_row _ _ _ _ _ _ (hr w hS)]
   simpa using hv
  ·cases h
 ·split at h
  ·rename_i hf
   subst hf
   split at h
   ·rename_i hm
    cases h
    rw[hm]
    exact⟨Uj,λw hS=>(ED w _).mono λe w' k=>⟨k.1,hb _ _ hS k.2⟩⟩
   ·cases h
  ·cases h
theorem Te (w:World)(A:Ps.Amd)(x:Int)(hx:x=if ((((!A.hasAmount)&&(!A.hasSettleDay))&&(!A.hasPriority))&&(!A.hasPartial))=true then 3 else(if (((((!A.hasAmount)&&(A.amount !=0))||((!A.hasSettleDay)&&(A.settleDay !=0)))||((!A.hasPriority)&&(A.priority !=0)))||((!A.hasPartial)&&(A.partial_||(A.minLot !=0))))=true then 3 else(if (A.hasAmount&&((decide (A.amount<1))||(decide (1000000000000000<A.amount))))=true then 2 else(if (A.hasSettleDay&&(!(yw A.settleDay)))=true then 28 else(if (A.hasPriority&&((decide (A.priority<0))||(decide (2<A.priority))))=true then 2 else(if (A.hasPartial&&((A.partial_&&((decide (A.minLot<1))||(decide (1000000000000000<A.minLot))))||((!A.partial_)&&(A.minLot !=0))))=true then 2 else(0))))))):
 Calls Tryz.prog 44 #[.agg (aG A).toArray] w λe w'=>e=.returned (.int .i64 x)/\Below w.heap.size w w':=by
 go_enter Tryz.func44,Tryz.ntmps44
 refine wp_seq ?_
 refine wp_region_lit ?_
 refine wpList_plain rfl (λK hK=>?_)
 go_simp
 refine hK _ _ ?_
 clear hK K
 refine wpList_plain rfl (λK hK=>?_)
 go_simp
 refine hK _ _ ?_
 clear hK K
 refine aT ?_
 obtain⟨g,hg⟩:∃g,g=w.heap.size:=⟨_,rfl⟩
 obtain⟨W1,hW1⟩:∃W1,W1=w.alloc (.cells (aG A).toArray 26):=⟨_,rfl⟩
 have hrow:∀W,Below W1.heap.size W1 W->W.heap[g]? =some (.cells (aG A).toArray 26 (0,0)):=λW hW=>by
  rw[hW.block g (by rw[hW1,hg];simp),hW1,hg];exact aC w _
 have hB1:Below w.heap.size w W1:=by rw[hW1];exact(Below.refl _ _).alloc (Nat.le_refl _) _
 rw[<-hg,<-hW1]
 refine lD rfl λa ha hdf=>?_
 refine Ev.A8 (M:=amdM g A) (S:=λ_ W=>Below W1.heap.size W1 W) (n:=121) (K:=[(1,.p 0 0)]) (s:=()) (v:=x) 2 (Q3 hrow λW W' h1 h2=>h1.trans (h2.mono h1.size)) (λ_ W h=>h.drew) (by rw[hx];kernel_rfl) (by kernel_rfl) (Ev.aH (Ev.ag (by rw[ha];rfl) hdf) (by rw[ha];rfl)) (Below.refl _ _) ?_
 intro b W s hd ht hS
 try simp only[Exit.then,Exit.inBlock]
 refine bodyPost_ret (results_tmp rfl _ _ _) hd ?_
 rw[hg]
 exact⟨by rw[show b.tmps.getD 2 undef=.int .i64 x from eval_at ht],hB1.trans (hS.mono hB1.size)⟩
end Go.Proofs.YtnjjeapcalkmaaaGreatDoor
