/-
  Part 6 of a proof; written short by a program out of longer texts of mine.
-/
import Derived.Test.YthijakidnkhbnaaGreatDoorMqE
set_option maxRecDepth 100000
set_option maxHeartbeats 4000000
set_option linter.unusedVariables false
set_option linter.unusedSimpArgs false
namespace Go.Proofs.YthijakidnkhbnaaGreatDoor
open Go.RowKit
open Go.Proofs.YthijakidnkhbnaaGreatDoor.Ord
open Go.Proofs.YthijakidnkhbnaaGreatDoor.Ev (AV Mem Fr jJ dG eZ)
def uw (i j:Ps.Ins)(eL:Bool):Bool:=((((((((((((((((i.ref.toList==j.ref.toList)&&(i.kind==j.kind))&&(i.sender.toList==j.sender.toList))&&(i.counterparty.toList==j.counterparty.toList))&&(i.side==j.side))&&(i.asset.toList==j.asset.toList))&&(i.quantity==j.quantity))&&(i.amount==j.amount))&&(i.tradeDay==j.tradeDay))&&(i.settleDay==j.settleDay))&&(i.priority==j.priority))&&(i.partial_==j.partial_))&&(i.minLot==j.minLot))&&(i.hold==j.hold))&&(i.reserve==j.reserve))&&eL)
def Kj (eL:Bool)(f:FuncId)(vs:List AV):Option Value:=if f=83 then(match vs with|[.r 0 15,.r 1 15]=>some (.bool eL)|_=>none)else none
def eqM (g h:Nat)(i j:Ps.Ins)(la lb:Value)(eL:Bool):Mem Unit:=jJ oZ [(some (g,0),aB i la),(some (h,0),aB j lb)] (Kj eL)
theorem Ir (w:World)(i j:Ps.Ins)(sa ta:Option Addr)(sn sc tn tc:Nat)(eL:Bool)
 (c101:∀w',Below w.heap.size w w'->Calls Tryz.prog 83 #[.slice sa sn sc,.slice ta tn tc] w' λe w''=>e=.returned (.bool eL)/\Below w'.heap.size w' w''):
 Calls Tryz.prog 45 #[.agg (aB i (.slice sa sn sc)).toArray,.agg (aB j (.slice ta tn tc)).toArray] w λe w'=>e=.returned (.bool (uw i j eL))/\Below w.heap.size w w':=by
 go_enter Tryz.func45,Tryz.ntmps45
 refine wp_seq ?_
 refine wp_region_lit ?_
 refine wpList_plain rfl (λK hK=>?_)
 go_simp
 refine hK _ _ ?_
 clear hK K
 refine wpList_plain rfl (λK hK=>?_)
 go_simp
 refine hK _ _ ?_
 clear hK K
 refine wpList_plain rfl (λK hK=>?_)
 go_simp
 refine hK _ _ ?_
 clear hK K
 refine aL ?_
 obtain⟨Wa,hWa⟩:∃Wa,Wa=w.alloc (.cells (aB i (.slice sa sn sc)).toArray 25):=⟨_,rfl⟩
 obtain⟨W1,hW1⟩:∃W1,W1=Wa.alloc (.cells (aB j (.slice ta tn tc)).toArray 25):=⟨_,rfl⟩
 obtain⟨g,hg⟩:∃g,g=w.heap.size:=⟨_,rfl⟩
 obtain⟨h,hh⟩:∃h,h=w.heap.size+1:=⟨_,rfl⟩
 have KA:h=Wa.heap.size:=by rw[hh,hWa];simp
 have uX:Below Wa.heap.size Wa W1:=by rw[hW1];exact(Below.refl _ _).alloc (Nat.le_refl _) _
 have hrow:∀W,Below W1.heap.size W1 W->W.heap[g]? =some (.cells (aB i (.slice sa sn sc)).toArray 25 (0,0)):=λW hW=>by
  rw[hW.block g (by rw[hW1,hWa,hg];simp;omega),uX.block g (by rw[hWa,hg];simp),hWa,hg];exact aD w _
 have kV:∀W,Below W1.heap.size W1 W->W.heap[h]? =some (.cells (aB j (.slice ta tn tc)).toArray 25 (0,0)):=λW hW=>by
  rw[hW.block h (by rw[KA,hW1];simp),hW1,KA];exact aD Wa _
 have hB1:Below w.heap.size w W1:=((by rw[hWa];exact(Below.refl _ _).alloc (Nat.le_refl _) _:Below w.heap.size w Wa).trans (uX.mono (by rw[hWa];simp)))
 rw[<-hWa,<-hW1,<-hg]
 rw[<-hg]at hh
 rw[<-hh]
 clear hW1 hWa KA uX hh
 refine iq rfl λa ha hdf=>?_
 have hO:Ev.Ok Tryz.prog (λ(_:Unit) W=>Below W1.heap.size W1 W) (eqM g h i j (.slice sa sn sc) (.slice ta tn tc) eL):=by
  refine Ev.gD (λt f d h=>qG h) (λq b o l h W hS=>?_) (λf vs v h=>?_) (λ_ _ _ h=>by cases h)
  ·rcases q with _|_|q
   ·cases h;exact jr hrow W hS
   ·cases h;exact jr kV W hS
   ·cases h
  ·unfold Kj at h
   split at h
   ·rename_i hf
    subst hf
    split at h
    ·cases h
     exact⟨ent101,λW hS=>(c101 W (hB1.trans (hS.mono hB1.size))).mono λe w' q=>⟨q.1,hS.trans (q.2.mono hS.size)⟩⟩
    ·cases h
   ·cases h
 refine Ev.yO (M:=eqM g h i j (.slice sa sn sc) (.slice ta tn tc) eL) (S:=λ_ W=>Below W1.heap.size W1 W) (n:=115) (K:=[(2,.p 0 0),(3,.p 1 0)]) (s:=()) (v:=uw i j eL) 4 hO (λ_ W h=>h.drew) (by kernel_rfl) (by kernel_rfl) (Ev.aC (Ev.aC (Ev.aU (by rw[ha];rfl) hdf) (by rw[ha];rfl)) (by rw[ha];rfl)) (Below.refl _ _) ?_
 intro b W s hd ht hS
 refine bodyPost_ret (results_tmp rfl _ _ _) hd ?_
 rw[hg]
 exact⟨by rw[show b.tmps.getD 4 undef=.bool (uw i j eL)from eval_at ht],hB1.trans (hS.mono hB1.size)⟩
def Af (Q:Ps.Req)(lv:Value):List Value:=([.int .i64 Q.op,.string Q.sender,.string Q.ref]:List Value)++aB Q.ins lv++aG Q.amd
def Di (g:Nat)(Q:Ps.Req)(lv:Value):List (Option (Nat×Nat)×List Value):=[(some (g,0),Af Q lv),(none,aB {} (.slice none 0 0)),(none,aG {})]
def LM (V:Nat->ByteArray->Bool)(g:Nat)(Q:Ps.Req)(lv:Value)(xi xa:Int)(sm:Bool)(f:FuncId)(vs:List AV):Option Value:=
 if f=65 then(match vs with
  |[.v (.int .i64 k),.r 0 j]=>if (k=1\/k=2)/\(j=1\/j=2)then some (.bool (V k.toNat (if j=1 then Q.sender else Q.ref)))else none
  |_=>none)
 else if f=66 then(match vs with|[.a 0 3 16]=>some (.int .i64 xi)|_=>none)
 else if f=45 then(match vs with|[.a 0 3 16,.a 1 0 16]=>some (.bool sm)|_=>none)
 else if f=67 then(match vs with|[.a 0 19 9]=>some (.int .i64 xa)|_=>none)
 else uO (List.map (eZ (Di g Q lv))) f vs
def FE (V:AV->Value)(Q:Ps.Req)(o:Oper)(ov:Operand->Option AV):Option AV:=match o.op with
 | .build t ps=>(match ps.toList with
   |[]=>if t=25 then some (.a 1 0 16)else if t=27 then some (.a 2 0 9)else none
   |_=>Ev.pX V o ov)
 | .binOp .neq t x y _=>if t=27 then(match ov x,ov y with
   |some (.a 0 19 9),some (.a 2 0 9)=>some (.v (.bool (!decide Q.amd.none)))
   |_,_=>none)else none
 |_=>none
def rqM (V:Nat->ByteArray->Bool)(g:Nat)(Q:Ps.Req)(lv:Value)(xi xa:Int)(sm:Bool):Mem Unit:=jJ oZ (Di g Q lv) (LM V g Q lv xi xa sm) (FE (eZ (Di g Q lv)) Q)
def qU (V:Nat->ByteArray->Bool)(Q:Ps.Req)(xi xa:Int)(sm:Bool):Int:=
 if (aj [(!inB Q.op 0 4,11),(!V 1 Q.sender,6),(!V 2 Q.ref,6)] !=0)=true then aj [(!inB Q.op 0 4,11),(!V 1 Q.sender,6),(!V 2 Q.ref,6)]
 else if (Q.op==0)=true then(if (xi !=0)=true then xi else if (aj [(!(Q.ins.ref.toList==Q.ref.toList)||!(Q.ins.sender.toList==Q.sender.toList),17)] !=0)=true then aj [(!(Q.ins.ref.toList==Q.ref.toList)||!(Q.ins.sender.toList==Q.sender.toList),17)]else if (Q.op==1)=true then xa else aj [(!decide Q.amd.none,3)])
 else if (aj [(!sm,3)] !=0)=true then aj [(!sm,3)]else if (Q.op==1)=true then xa else aj [(!decide Q.amd.none,3)]
theorem rq_w1 (w:World)(V:Nat->ByteArray->Bool)(Q:Ps.Req)(sa:Option Addr)(sn sc:Nat)(xi xa:Int)(sm:Bool)
 (cV:∀(W1:World) (k:Nat) (s:ByteArray),k<3->Below w.heap.size w W1->Calls Tryz.prog 65 #[.int .i64 k,.string s] W1 λe w'=>e=.returned (.bool (V k s))/\Below W1.heap.size W1 w')
 (nI:∀W,Below w.heap.size w W->Calls Tryz.prog 66 #[.agg (aB Q.ins (.slice sa sn sc)).toArray] W λe w'=>e=.returned (.int .i64 xi)/\Below W.heap.size W w')
 (nS:∀W,Below w.heap.size w W->Calls Tryz.prog 45 #[.agg (aB Q.ins (.slice sa sn sc)).toArray,.agg (aB {} (.slice none 0 0)).toArray] W λe w'=>e=.returned (.bool sm)/\Below W.heap.size W w')
 (nA:∀W,Below w.heap.size w W->Calls Tryz.prog 67 #[.agg (aG Q.amd).toArray] W λe w'=>e=.returned (.int .i64 xa)/\Below W.heap.size W w'):
 Calls Tryz.prog 26 #[.agg (aA Q (.slice sa sn sc))] w λe w'=>e=.returned (.int .i64 (qU V Q xi xa sm))/\Below w.heap.size w w':=by
 go_enter Tryz.func26,Tryz.ntmps26
 refine wp_seq ?_
 refine wp_region_lit ?_
 refine wpList_plain rfl (λK hK=>?_)
 go_simp
 refine hK _ _ ?_
 clear hK K
 refine wpList_plain rfl (λK hK=>?_)
 go_simp
 refine hK _ _ ?_
 clear hK K
 refine aL ?_
 obtain⟨g,hg⟩:∃g,g=w.heap.size:=⟨_,rfl⟩
 obtain⟨W1,hW1⟩:∃W1,W1=w.alloc (.cells (aA Q (.slice sa sn sc)) 29):=⟨_,rfl⟩
 have hrow:∀W,Below W1.heap.size W1 W->W.heap[g]? =some (.cells (Af Q (.slice sa sn sc)).toArray 29 (0,0)):=λW hW=>by
  rw[hW.block g (by rw[hW1,hg];simp),hW1,hg];exact aD w _
 have hB1:Below w.heap.size w W1:=by rw[hW1];exact(Below.refl _ _).alloc (Nat.le_refl _) _
 have fin:∀{f:FuncId} {args:Array Value} {v:Value},(∀W,Below w.heap.size w W->Calls Tryz.prog f args W λe w'=>e=.returned v/\Below W.heap.size W w')->∀W,Below W1.heap.size W1 W->Calls Tryz.prog f args W λe w'=>e=.returned v/\Below W1.heap.size W1 w':=λh W hW=>(h W (hB1.trans (hW.mono hB1.size))).mono λe w' k=>⟨k.1,hW.trans (k.2.mono hW.size)⟩
 rw[<-hg,<-hW1]
 clear hW1
 refine iq rfl λa ha hdf=>?_
 have hO:Ev.Ok Tryz.prog (λ(_:Unit) W=>Below W1.heap.size W1 W) (rqM V g Q (.slice sa sn sc) xi xa sm):=by
  refine Ev.gD (λt f d h=>qG h) (λq b o l h W hS=>?_) (λf vs v h=>?_) (λo ov v h ρ hov W hS=>?_)
  ·rcases q with _|_|_|q
   ·cases h;exact jr hrow W hS
   ·cases h
   ·cases h
   ·cases h
  ·unfold LM at h
   split at h
   ·rename_i hf
    subst hf
    split at h
    ·split at h
     ·rename_i k j hk
      cases h
      rcases hk with⟨rfl|rfl,rfl|rfl⟩
      ·exact⟨ze,fin (λW hW=>cV W 1 Q.sender (by decide) hW)⟩
      ·exact⟨ze,fin (λW hW=>cV W 1 Q.ref (by decide) hW)⟩
      ·exact⟨ze,fin (λW hW=>cV W 2 Q.sender (by decide) hW)⟩
      ·exact⟨ze,fin (λW hW=>cV W 2 Q.ref (by decide) hW)⟩
     ·cases h
    ·cases h
   split at h
   ·rename_i hf
    subst hf
    split at h
    ·cases h
     exact⟨enters_of Tryz.func66 (by kernel_rfl) rfl,fin nI⟩
    ·cases h
   split at h
   ·rename_i hf
    subst hf
    split at h
    ·cases h
     exact⟨enters_of Tryz.func45 (by kernel_rfl) rfl,fin nS⟩
    ·cases h
   split at h
   ·rename_i hf
    subst hf
    split at h
    ·cases h
     exact⟨enters_of Tryz.func67 (by kernel_rfl) rfl,fin nA⟩
    ·cases h
   exact rF h
  ·unfold FE at h
   split at h
   ·rename_i t ps ho
    split at h
    ·rename_i hps
     have Jy:ps=#[]:=by rw[<-Array.toArray_toList (xs:=ps),hps]
     subst Jy
     split at h
     ·rename_i ht
      subst ht
      cases h
      unfold execOp
      simp only[ho,Sem.run_bind,bd25,Result.andThen_ok]
      rfl
     ·split at h
      ·rename_i ht
       subst ht
       cases h
       unfold execOp
       simp only[ho,Sem.run_bind,bd27,Result.andThen_ok]
       rfl
      ·cases h
    ·exact Ev.oP h hov (λ_=>rfl) W
   ·rename_i t x y t2 ho
    split at h
    ·rename_i ht
     subst ht
     split at h
     ·rename_i h1 h2
      cases h
      have e1:ρ x=.agg (aG Q.amd).toArray:=hov _ _ h1
      have e2:ρ y=.agg (aG {}).toArray:=hov _ _ h2
      unfold execOp
      simp only[ho,e1,e2]
      rw[Sem.run_bind,ne27]
      rfl
     ·cases h
    ·cases h
   ·cases h
 refine Ev.Jl (W0:=W1) (M:=rqM V g Q (.slice sa sn sc) xi xa sm) (n:=77) (K:=[(1,.p 0 0)]) (v:=qU V Q xi xa sm) 2 hO (by kernel_rfl) (by kernel_rfl) (Ev.aC (Ev.aU (by rw[ha];rfl) hdf) (by rw[ha];rfl)) (Below.refl _ _) ?_
 intro b W hd ht hS
 refine bodyPost_ret (results_tmp rfl _ _ _) hd ?_
 rw[hg]
 exact⟨by rw[show b.tmps.getD 2 undef=.int .i64 (qU V Q xi xa sm)from eval_at ht],hB1.trans (hS.mono hB1.size)⟩
open Go.Proofs.YthijakidnkhbnaaGreatDoor.Ev (AV Mem Fr jJ dG eZ Sh Stop Qof aK dW aM fP gK fmC)
def Lb (V:Nat->ByteArray->Bool)(i:Ps.Ins)(k:Nat)(x:Ps.Link)(rows:List (Option (Nat×Nat)×List Value))(f:FuncId)(vs:List AV):Option Value:=
 if f=65 then(match vs.map (eZ rows)with|[.int .i64 m,.string s]=>if m=0\/m=1\/m=2 then some (.bool (V m.toNat s))else none|_=>none)
 else if f=102 then(match vs with|[.a 0 0 16]=>some (.bool ((i.kind==3)||(i.kind==4)))|_=>none)
 else if f=103 then(match vs with|[.a 0 0 16]=>some (.bool ((i.kind==1)||(i.kind==2)))|_=>none)
 else if f=104 then(match vs with|[.a 0 0 16]=>some (.bool (if (i.kind==0)=true then(i.asset.toList==[67,65,83,72])else V 0 i.asset))|_=>none)
 else if f=107 then(match vs with|[.a 0 0 16]=>some (.int .i64 (if i.partial_=true then i.quantity else 0))|_=>none)
 else if f=108 then(match vs,dG rows 1 1 with|[.r 1 1,.r 1 2],.slice _ _ _=>some (.bool (iD (i.links.take k) x.ref))|_,_=>none)
 else uO (List.map (eZ rows)) f vs
def FW (rows:List (Option (Nat×Nat)×List Value))(o:Oper)(ov:Operand->Option AV):Option AV:=match o.op with
 | .call ⟨.builtin .len,xs,ts⟩=>(match xs.toList,ts.toList with
   |[x],[t]=>if o.type=3/\t=23 then(match ov x with
    |some a=>match eZ rows a with
     | .slice _ n _=>some (.v (.int .i64 (n:Int)))
     |_=>none
    |none=>none)else none
   |_,_=>none)
 | .slice t x none (some y) none=>if t=23 then(match ov x,ov y with
   |some (.r 0 15),some (.r 1 0)=>(match dG rows 1 1 with
    | .slice _ _ _=>some (.r 1 1)
    |_=>none)
   |_,_=>none)else none
 | .makeFunc (.func f) fs cs=>(match fs.toList,cs.toList with
   |[],[x]=>if f=109 then(match ov x with
    |some (.p 2 0)=>(match dG rows 1 1 with
     | .slice _ _ _=>some (.r 1 2)
     |_=>none)
    |_=>none)else none
   |_,_=>none)
 |_=>Ev.pX (eZ rows) o ov
def ckM (V:Nat->ByteArray->Bool)(i:Ps.Ins)(k:Nat)(x:Ps.Link)(rows:List (Option (Nat×Nat)×List Value)):Mem Unit:=jJ oZ rows (Lb V i k x rows) (FW rows)
def Ld (g:Nat)(i:Ps.Ins)(lv:Value):List (Option (Nat×Nat)×List Value):=[(some (g,0),aB i lv)]
def Mq (g:Nat)(i:Ps.Ins)(sb sn sc k h:Nat)(x:Ps.Link):List (Option (Nat×Nat)×List Value):=[(some (g,0),aB i (.slice (some ⟨sb,0,none⟩) sn sc)),(none,[.int .i64 k,.slice (some ⟨sb,0,none⟩) k sc,.func (.func 109) #[] #[.pointer (some ⟨h,0,none⟩)]]),(some (h,0),[.int .i64 x.type,.string x.ref])]
def CkIn (i:Ps.Ins)(k:Nat)(x:Ps.Link)(rows:List (Option (Nat×Nat)×List Value))(W0:World):Prop:=∃(sb h c sn:Nat),dG rows 0 15=.slice (some ⟨sb,0,none⟩) sn c/\dG rows 1 0=.int .i64 (k:Int)/\dG rows 1 1=.slice (some ⟨sb,0,none⟩) k c/\dG rows 1 2=.func (.func 109) #[] #[.pointer (some ⟨h,0,none⟩)]/\eZ rows (.p 2 0)=.pointer (some ⟨h,0,none⟩)/\k<=sn/\sn<=c/\sn<=1000/\
 ∀w,Below W0.heap.size W0 w->Calls Tryz.prog 108 #[.slice (some ⟨sb,0,none⟩) k c,.func (.func 109) #[] #[.pointer (some ⟨h,0,none⟩)]] w λe w'=>e=.returned (.bool (iD (i.links.take k) x.ref))/\Below w.heap.size w w'
theorem LV {V:Nat->ByteArray->Bool}{i:Ps.Ins}{k:Nat}{x:Ps.Link}{lv:Value}{o:Option (Nat×Nat)}{rs:List (Option (Nat×Nat)×List Value)}{W0:World}(hrow:∀(k b o2:Nat) (l:List Value),((o,aB i lv)::rs)[k]? =some (some (b,o2),l)->∀w,Below W0.heap.size W0 w->∀(j:Nat) (v:Value),l[j]? =some v->w.cell? ⟨b,o2+j,none⟩=some v)
 (hV:∀(m:Nat) (s:ByteArray) (w':World),m<3->Below W0.heap.size W0 w'->Calls Tryz.prog 65 #[.int .i64 m,.string s] w' λe w''=>e=.returned (.bool (V m s))/\Below w'.heap.size w' w'')
 (hc:∀sb n c,dG ((o,aB i lv)::rs) 1 1=.slice sb n c->CkIn i k x ((o,aB i lv)::rs) W0):
 Ev.Ok Tryz.prog (λ(_:Unit) w=>Below W0.heap.size W0 w) (ckM V i k x ((o,aB i lv)::rs)):=by
 have agg0:eZ ((o,aB i lv)::rs) (.a 0 0 16)=.agg (aB i lv).toArray:=rfl
 have fin:∀{f:FuncId} {args:Array Value} {v:Value} {w:World},Below W0.heap.size W0 w->(Calls Tryz.prog f args w λe w'=>e=.returned v/\Below w.heap.size w w')->Calls Tryz.prog f args w λe w'=>e=.returned v/\Below W0.heap.size W0 w':=λhw h=>h.mono λe w' k=>⟨k.1,hw.trans (k.2.mono hw.size)⟩
 refine Ev.gD (λt f d h=>qG h) hrow (λf vs v h=>?_) (λop ov v h ρ hov w hS=>?_)
 ·unfold Lb at h
  split at h
  ·rename_i hf
   subst hf
   split at h
   ·rename_i m s hm
    split at h
    ·rename_i h3
     cases h
     rw[hm]
     obtain⟨n,hn,hk3⟩:∃n:Nat,m=(n:Int)/\n<3:=by
      rcases h3 with rfl|rfl|rfl
      ·exact⟨0,rfl,by decide⟩
      ·exact⟨1,rfl,by decide⟩
      ·exact⟨2,rfl,by decide⟩
     subst hn
     exact⟨ze,λw hw=>fin hw (hV n s w hk3 hw)⟩
    ·cases h
   ·cases h
  split at h
  ·rename_i hf
   subst hf
   split at h
   ·cases h
    exact⟨ent105,λw hw=>fin hw (is_col w i lv _ _ rfl rfl)⟩
   ·cases h
  split at h
  ·rename_i hf
   subst hf
   split at h
   ·cases h
    exact⟨ent106,λw hw=>fin hw (is_sec w i lv _ _ rfl rfl)⟩
   ·cases h
  split at h
  ·rename_i hf
   subst hf
   split at h
   ·cases h
    exact⟨ent107,λw hw=>fin hw (K7 w i lv _ _ _ rfl rfl λw' hw'=>hV 0 i.asset w' (by decide) (hw.trans (hw'.mono hw.size)))⟩
   ·cases h
  split at h
  ·rename_i hf
   subst hf
   split at h
   ·cases h
    exact⟨ent110,λw hw=>fin hw (Nh w i lv _ rfl)⟩
   ·cases h
  split at h
  ·rename_i hf
   subst hf
   split at h
   ·rename_i sb n c h11
    cases h
    obtain⟨sb,h,c,sn,k1,k2,k3,k4,k5,k6,k7,k8,k9⟩:=hc _ _ _ h11
    refine⟨ent111,λw hw=>?_⟩
    have e1:List.map (eZ ((o,aB i lv)::rs)) [AV.r 1 1,.r 1 2]=[.slice (some ⟨sb,0,none⟩) k c,.func (.func 109) #[] #[.pointer (some ⟨h,0,none⟩)]]:=by
     simp only[List.map_cons,List.map_nil]
     rw[show eZ ((o,aB i lv)::rs) (.r 1 1)=_ from k3,show eZ ((o,aB i lv)::rs) (.r 1 2)=_ from k4]
    rw[e1]
    exact fin hw (k9 w hw)
   ·cases h
  exact rF h
 ·unfold FW at h
  split at h
  ·rename_i xs ts ho
   split at h
   ·rename_i x t hx ht2
    split at h
    ·rename_i ht
     obtain⟨ht,rfl⟩:=ht
     split at h
     ·rename_i a ha
      split at h
      ·rename_i sa n c hv
       cases h
       have h1:=hov _ _ ha
       rw[hv]at h1
       have hxs:xs=#[x]:=by rw[<-Array.toArray_toList (xs:=xs),hx]
       have hts:ts=#[23]:=by rw[<-Array.toArray_toList (xs:=ts),ht2]
       subst hxs
       subst hts
       clear hrow hV hc fin agg0 hov hx ht2 ha hv
       unfold execOp
       simp only[ho,ht]
       go_simp
       rfl
      ·cases h
     ·cases h
    ·cases h
   ·cases h
  ·rename_i t x y ho
   split at h
   ·rename_i ht
    subst ht
    split at h
    ·rename_i h1 h2
     split at h
     ·rename_i sb n c h11
      cases h
      obtain⟨sb,h,c,sn,k1,k2,k3,k4,k5,k6,k7,k8,k9⟩:=hc _ _ _ h11
      have e1:ρ x=.slice (some ⟨sb,0,none⟩) sn c:=(hov _ _ h1).trans k1
      have e2:ρ y=.int .i64 (k:Int):=(hov _ _ h2).trans k2
      rw[show eZ ((o,aB i lv)::rs) (.r 1 1)=_ from k3]
      unfold execOp
      simp only[ho,e1,e2,Option.map_some,Option.map_none,Sem.run_bind,sl_to _ sn c k k6 k7 k8 w,Result.andThen_ok]
      rfl
     ·cases h
    ·cases h
   ·cases h
  ·rename_i f fs cs ho
   split at h
   ·rename_i x hfs hcs
    split at h
    ·rename_i hf
     subst hf
     split at h
     ·rename_i hx
      split at h
      ·rename_i sb n c h11
       cases h
       obtain⟨sb,h,c,sn,k1,k2,k3,k4,k5,k6,k7,k8,k9⟩:=hc _ _ _ h11
       have e1:ρ x=.pointer (some ⟨h,0,none⟩):=(hov _ _ hx).trans k5
       have hf1:fs=#[]:=by rw[<-Array.toArray_toList (xs:=fs),hfs]
       have hc1:cs=#[x]:=by rw[<-Array.toArray_toList (xs:=cs),hcs]
       subst hf1
       subst hc1
       rw[show eZ ((o,aB i lv)::rs) (.r 1 2)=_ from k4]
       clear hrow hV hc fin agg0 hov k9 k1 k2 k3 k4 k5 h11
       unfold execOp
       simp only[ho,List.map_toArray,List.map_cons,List.map_nil,e1]
       go_simp
      ·cases h
     ·cases h
    ·cases h
   ·cases h
  ·exact Ev.oP h hov (λ_=>rfl) w
noncomputable def ckC:Code:=match Tryz.f66.body.getD .skip with
 | .seq _ (.seq _ c)=>c
 |c=>c
noncomputable def ckL:Code×List Ev.Fm:=aK dW ckC
noncomputable def ckG:Code×List Ev.Fm:=aK (aM 6) (fP ckL.1)
theorem Oi {Q:Exit->Act->World->Prop}{a:Act}{w:World}{id:Nat}{o1 o2 o3 o4 o5 o6:Oper}{sb sn sc k:Nat}{x:Ps.Link}(h1:o1.op=.move (.tmp 191))(h1d:o1.dst=some 193)(g1:o1.guard=none)(h2:o2.op=.indexAddr 23 (.tmp 189) (.tmp 191))(xn:o2.dst=some 194)(g2:o2.guard=none)(h3:o3.op=.load 117 (.tmp 194))(Mi:o3.dst=some 195)(g3:o3.guard=none)
 (h4:o4.op=.alloc 117) (h4d:o4.dst=some 5) (g4:o4.guard=none) (h5:o5.op=.assign (.tmp 193)) (h5d:o5.dst=some 4) (g5:o5.guard=none) (h6:o6.op=.store 117 (.tmp 5) (.tmp 195)) (h6d:o6.dst=none) (g6:o6.guard=none)
 (hsz:a.tmps.size=225) (ht:a.tmps[191]? =some (.int .i64 (k:Int))) (hs:a.tmps[189]? =some (.slice (some ⟨sb,0,none⟩) sn sc)) (hk:k<sn) (c0:w.cell? ⟨sb,k*2,none⟩=some (.int .i64 x.type)) (c1:w.cell? ⟨sb,k*2+1,none⟩=some (.string x.ref))
 (hend:∀b:Act,b.defers=a.defers->b.tmps.size=225->b.tmps[5]? =some (.pointer (some ⟨w.heap.size,0,none⟩))->b.tmps[4]? =some (.int .i64 (k:Int))->(∀s:Nat,s≠4->s≠5->s≠193->s≠194->s≠195->b.tmps[s]? =a.tmps[s]?)->Q .normal b (w.alloc (.cells #[.int .i64 x.type,.string x.ref] 117))):(Code.region id #[o1,o2,o3,o4,o5,o6] false).wp Tryz.prog Q a w:=by
 have NZ:(k:Int)<(sn:Int):=by omega
 refine wp_region_lit ?_
 refine af g1 h1d (u:=.int .i64 (k:Int)) (by unfold execOp;rw[h1];simp only[eval_at ht];rfl) ?_
 obtain⟨t1,ht1⟩:∃t1,t1=a.tmps.setIfInBounds 193 (.int .i64 (k:Int)):=⟨_,rfl⟩
 have z1:t1.size=225:=by rw[ht1];simp[hsz]
 have r1:∀s:Nat,s≠193->t1[s]? =a.tmps[s]?:=λs n=>by rw[ht1,Array.getElem?_setIfInBounds_ne (λh=>n h.symm)]
 have q193:t1[193]? =some (.int .i64 (k:Int)):=by rw[ht1];simp[hsz]
 have q189:=(r1 189 (by decide)).trans hs
 have q191:=(r1 191 (by decide)).trans ht
 rw[<-ht1]
 clear ht1
 refine af g2 xn (u:=.pointer (some ⟨sb,k*2,none⟩)) (by
  have e1:(⟨t1,a.defers⟩:Act).eval (.tmp 189)=.slice (some ⟨sb,0,none⟩) sn sc:=eval_at q189
  have e2:(⟨t1,a.defers⟩:Act).eval (.tmp 191)=.int .i64 (k:Int):=eval_at q191
  clear hend q189 q191 q193 ht hs r1
  unfold execOp
  simp only[h2,e1,e2]
  go_simp) ?_
 obtain⟨t2,ht2⟩:∃t2,t2=t1.setIfInBounds 194 (.pointer (some ⟨sb,k*2,none⟩)):=⟨_,rfl⟩
 have z2:t2.size=225:=by rw[ht2];simp[z1]
 have r2:∀s:Nat,s≠194->t2[s]? =t1[s]?:=λs n=>by rw[ht2,Array.getElem?_setIfInBounds_ne (λh=>n h.symm)]
 have q194:t2[194]? =some (.pointer (some ⟨sb,k*2,none⟩)):=by rw[ht2];simp[z1]
 rw[<-ht2]
 clear ht2
 refine jK g3 Mi h3 (v:=.pointer (some ⟨sb,k*2,none⟩)) (eval_at q194) (u:=.agg #[.int .i64 x.type,.string x.ref]) (Ev.MH (t:=117) (n:=2) (by kernel_rfl) sb (k*2) w (λj=>([.int .i64 x.type,.string x.ref]:List Value).getD j (.bool false)) (λj hj=>match j,hj with|0,_=>c0|1,_=>c1|j+2,h=>absurd h (by omega))) ?_
 obtain⟨t3,ht3⟩:∃t3,t3=t2.setIfInBounds 195 (.agg #[.int .i64 x.type,.string x.ref]):=⟨_,rfl⟩
 have z3:t3.size=225:=by rw[ht3];simp[z2]
 have r3:∀s:Nat,s≠195->t3[s]? =t2[s]?:=λs n=>by rw[ht3,Array.getElem?_setIfInBounds_ne (λh=>n h.symm)]
 have q195:t3[195]? =some (.agg #[.int .i64 x.type,.string x.ref]):=by rw[ht3];simp[z2]
 rw[<-ht3]
 clear ht3
 refine wpList_plain g4 λK hK=>?_
 unfold Oper.wp
 rw[show(execOp (⟨t3,a.defers⟩:Act).eval o4).run Tryz.prog w=.ok (.value (.pointer (some ⟨w.heap.size,0,none⟩))) (w.alloc (.cells #[.int .i64 0,.string ByteArray.empty] 117))from by
  clear hend hK c0 c1 q189 q191 q193 q194 q195 ht hs r1 r2 r3
  unfold execOp;rw[h4];go_simp;first|done|rfl]
 refine hK _ _ ?_
 rw[h4d]
 show wpList _ _ _ _ ⟨t3.setIfInBounds 5 (.pointer (some ⟨w.heap.size,0,none⟩)),a.defers⟩ _
 obtain⟨t4,ht4⟩:∃t4,t4=t3.setIfInBounds 5 (.pointer (some ⟨w.heap.size,0,none⟩)):=⟨_,rfl⟩
 have z4:t4.size=225:=by rw[ht4];simp[z3]
 have r4:∀s:Nat,s≠5->t4[s]? =t3[s]?:=λs n=>by rw[ht4,Array.getElem?_setIfInBounds_ne (λh=>n h.symm)]
 have q5:t4[5]? =some (.pointer (some ⟨w.heap.size,0,none⟩)):=by rw[ht4];simp[z3]
 rw[<-ht4]
 clear ht4 hK
 have q193':t4[193]? =some (.int .i64 (k:Int)):=by rw[r4 193 (by decide),r3 193 (by decide),r2 193 (by decide)];exact q193
 refine af g5 h5d (u:=.int .i64 (k:Int)) (by
  have e1:(⟨t4,a.defers⟩:Act).eval (.tmp 193)=.int .i64 (k:Int):=eval_at q193'
  unfold execOp;simp only[h5,e1];rfl) ?_
 refine jT (w':=w.alloc (.cells #[.int .i64 x.type,.string x.ref] 117)) g6 h6d ?_ ?_
 ·have e1:(⟨t4.setIfInBounds 4 (.int .i64 (k:Int)),a.defers⟩:Act).eval (.tmp 5)=.pointer (some ⟨w.heap.size,0,none⟩):=eval_at (by rw[Array.getElem?_setIfInBounds_ne (by decide)];exact q5)
  have e2:(⟨t4.setIfInBounds 4 (.int .i64 (k:Int)),a.defers⟩:Act).eval (.tmp 195)=.agg #[.int .i64 x.type,.string x.ref]:=eval_at (by rw[Array.getElem?_setIfInBounds_ne (by decide),r4 195 (by decide)];exact q195)
  unfold execOp
  simp only[h6,e1,e2]
  clear hend c0 c1 e1 e2 q189 q191 q193 q193' q194 q195 q5 ht hs r1 r2 r3 r4
  go_simp
  first|done|rfl
 refine aL ?_
 refine hend _ rfl (by simp[z4]) (by rw[Array.getElem?_setIfInBounds_ne (by decide)];exact q5) (by simp[z4]) λs n1 n2 n3 n4 n5=>?_
 rw[Array.getElem?_setIfInBounds_ne (λh=>n1 h.symm),r4 s n2,r3 s n5,r2 s n4,r1 s n3]
theorem in_w1 (w:World)(i:Ps.Ins)(sa:Option Addr)(sn sc:Nat)(V:Nat->ByteArray->Bool)(x x1 xL:Int)(hx1:x1=aj (gH V i sn))(hn8:x1=0->sn<=8)(HSN:Hid (sn=i.links.length))(HSC:Hid (sn<=sc))(hLE:Hid (Ps.fJ V i [] i.links=xL))(HLK:Hid (0<sn->∃sb,sa=some ⟨sb,0,none⟩/\∀W,Below w.heap.size w W->dM W sb i.links))(hx:x=if x1≠0 then x1 else xL)(hV0:∀(s:ByteArray) (w':World),Below w.heap.size w w'->Calls Tryz.prog 65 #[.int .i64 0,.string s] w' λe w''=>e=.returned (.bool (V 0 s))/\Below w'.heap.size w' w'')(hV1:∀(s:ByteArray) (w':World),Below w.heap.size w w'->Calls Tryz.prog 65 #[.int .i64 1,.string s] w' λe w''=>e=.returned (.bool (V 1 s))/\Below w'.heap.size w' w'')(hV2:∀(s:ByteArray) (w':World),Below w.heap.size w w'->Calls Tryz.prog 65 #[.int .i64 2,.string s] w' λe w''=>e=.returned (.bool (V 2 s))/\Below w'.heap.size w' w'')
 :Calls Tryz.prog 66 #[.agg (aB i (.slice sa sn sc)).toArray] w λe w'=>e=.returned (.int .i64 x)/\Below w.heap.size w w':=by
 go_enter Tryz.func66,Tryz.ntmps66
 refine wp_seq ?_
 refine wp_region_lit ?_
 refine wpList_plain rfl (λK hK=>?_)
 go_simp
 refine hK _ _ ?_
 clear hK K
 refine wpList_plain rfl (λK hK=>?_)
 go_simp
 refine hK _ _ ?_
 clear hK K
 refine aL ?_
 obtain⟨g,hg⟩:∃g,g=w.heap.size:=⟨_,rfl⟩
 obtain⟨W1,hW1⟩:∃W1,W1=w.alloc (.cells (aB i (.slice sa sn sc)).toArray 25):=⟨_,rfl⟩
 have hrow:∀W,Below W1.heap.size W1 W->W.heap[g]? =some (.cells (aB i (.slice sa sn sc)).toArray 25 (0,0)):=λW hW=>by
  rw[hW.block g (by rw[hW1,hg];simp),hW1,hg];exact aD w _
 have hB1:Below w.heap.size w W1:=by rw[hW1];exact(Below.refl _ _).alloc (Nat.le_refl _) _
 have up:∀W,Below W1.heap.size W1 W->Below w.heap.size w W:=λW hW=>hB1.trans (hW.mono hB1.size)
 have hV:∀(m:Nat) (s:ByteArray) (w':World),m<3->Below w.heap.size w w'->Calls Tryz.prog 65 #[.int .i64 m,.string s] w' λe w''=>e=.returned (.bool (V m s))/\Below w'.heap.size w' w'':=λm s w' hm hw=>by
  rcases m with _|_|_|m
  ·exact hV0 s w' hw
  ·exact hV1 s w' hw
  ·exact hV2 s w' hw
  ·omega
 rw[<-hg,<-hW1]
 clear hW1 hV0 hV1 hV2
 refine iq rfl λa ha hdf=>?_
 have hret:∀(b:Act) (W:World),b.defers=[]->b.tmps[2]? =some (.int .i64 x)->Below W1.heap.size W1 W->bodyPost Tryz.prog Tryz.f66 (λe w'=>e=.returned (.int .i64 x)/\Below g w w') .ret b W:=λb W hd ht hS=>by
  refine bodyPost_ret (results_tmp rfl _ _ _) hd ?_
  rw[hg]
  exact⟨by rw[show b.tmps.getD 2 undef=.int .i64 x from eval_at ht],hB1.trans (hS.mono hB1.size)⟩
 have hO1:Ev.Ok Tryz.prog (λ(_:Unit) W=>Below W1.heap.size W1 W) (ckM V i 0 ⟨0,⟨#[]⟩⟩ (Ld g i (.slice sa sn sc))):=LV (o:=some (g,0)) (rs:=[]) (λq b o2 l h W hW=>by
  rcases q with _|q
  ·cases h;exact jr hrow W hW
  ·cases h) (λm s w' hm hw=>hV m s w' hm (up _ hw)) (λsb n c h=>by cases h)
 refine wp_seq ?_
 refine Ev.mq (W0:=W1) (m:=225) (M:=ckM V i 0 ⟨0,⟨#[]⟩⟩ (Ld g i (.slice sa sn sc))) (K:=[(1,.p 0 0)]) 176 3 (gH V i sn) hO1 (by kernel_rfl) (Ev.aC (Ev.aU (by rw[ha];rfl) hdf) (by rw[ha];rfl)) (Below.refl _ _) (show 0<20 by decide) (show 20<=1000 by decide) (by kernel_rfl) (by kernel_rfl) ?_
 intro b W hB hF
 rw[<-hx1]at hF
 have f3:=hF.look 3 _ rfl
 have f1:=hF.look 1 _ rfl
 show ckC.wp Tryz.prog _ b W
 have hxv:(if (x1 !=0)=true then x1 else xL)=x:=by
  rw[hx]
  by_cases h:x1=0
  ·simp[h]
  ·simp[h]
 refine Ev.yu (M:=ckM V i 0 ⟨0,⟨#[]⟩⟩ (Ld g i (.slice sa sn sc))) (S:=λ_ W=>Below W1.heap.size W1 W) (n:=225) (K:=[(1,.p 0 0),(3,.v (.int .i64 x1))]) (s:=()) (v:=if (x1 !=0)=true then x1 else xL) (hv:=xL) (l:=[(ckL.1,ckL.2,[some (.p 0 0),some (.r 0 15),some (.v (.int .i64 (sn:Int))),some (.v (.int .i64 0))],(),[!(x1 !=0)])]) 2 [1,189,190,191] [0] hO1 (λ_ W h=>h.drew) (by kernel_rfl) (by kernel_rfl) (Ev.aC (Ev.aC (Ev.aU hF.size hF.defers) f3) f1) hB (λb W _ hd ht hS=>hret b W hd (by rw[<-hxv];exact ht) hS) ?_
 intro hvx y hy hcs b W hst hS
 rw[List.mem_singleton]at hy
 subst hy
 have hx10:x1=0:=by
  have h8:=hcs _ (List.mem_singleton.2 rfl)
  simpa using h8
 have hxL:x=xL:=by rw[hx,if_neg (by rw[hx10];simp)]
 have hsn8:=hn8 hx10
 clear hcs hvx hxv f1 f3 hF hB hx1 hn8 hx hx10 ha hdf
 obtain⟨h1,hst⟩:=hst.cons
 obtain⟨pz,hst⟩:=hst.cons
 obtain⟨ql,hst⟩:=hst.cons
 obtain⟨ny,hst⟩:=hst.cons
 have e1:ckL.1=.loop (fP ckL.1):=by kernel_rfl
 have e2:ckL.2=[.bl 0,.sq (fmC ckL.2 1)]:=by kernel_rfl
 show ckL.1.wp Tryz.prog (Qof Tryz.prog ckL.2 _) b W
 rw[e1,e2]
 refine wp_loop (λa w=>∃k:Nat,k<=sn/\a.tmps.size=225/\a.defers=[]/\a.tmps[1]? =some (.pointer (some ⟨g,0,none⟩))/\a.tmps[189]? =some (.slice sa sn sc)/\a.tmps[190]? =some (.int .i64 (sn:Int))/\a.tmps[191]? =some (.int .i64 (k:Int))/\Below W1.heap.size W1 w/\Ps.fJ V i (i.links.take k) (i.links.drop k)=x) (λa _=>match a.tmps[191]? with|some (Value.int _ k)=>sn-k.toNat|_=>0) ⟨0,Nat.zero_le _,hst.1,hst.2.1,h1,pz,ql,ny,hS,by rw[hxL,<-hLE.out];rfl⟩ ?_
 clear hst h1 pz ql ny hS hxL
 rintro b W ⟨k,hk,hsz,hdf,h1,pz,ql,ny,hS,HX⟩
 have hm:(match b.tmps[191]? with|some (Value.int _ k)=>sn-k.toNat|_=>0)=sn-k:=by rw[ny];simp
 rw[hm]
 refine Ev.jA (M:=ckM V i 0 ⟨0,⟨#[]⟩⟩ (Ld g i (.slice sa sn sc))) (S:=λ_ W=>Below W1.heap.size W1 W) (n:=225) (K:=[(1,.p 0 0),(189,.r 0 15),(190,.v (.int .i64 (sn:Int))),(191,.v (.int .i64 (k:Int)))]) (s:=()) [1,189,190,191] (.ite (decide ((k:Int)<(sn:Int))) (.go ckG [some (.p 0 0),some (.r 0 15),some (.v (.int .i64 (sn:Int))),some (.v (.int .i64 (k:Int)))] ()) (.out 0 [some (.p 0 0),some (.r 0 15),some (.v (.int .i64 (sn:Int))),some (.v (.int .i64 (k:Int)))] ())) hO1 (λ_ _ h=>h.drew) (by kernel_rfl) (Ev.aC (Ev.aC (Ev.aC (Ev.aC (Ev.aU hsz hdf) ny) ql) pz) h1) hS ⟨λhc b W hst hS=>?_,λhc b W hst hS=>?_⟩
 rotate_left
 ·have hkn:¬k<sn:=by have:¬(k:Int)<(sn:Int):=by simpa using hc
                     omega
  have hx0:x=0:=by
   rw[<-HX,List.drop_eq_nil_of_le (by have:=HSN.out;omega)]
   rfl
  show(fmC ckL.2 1).wp Tryz.prog _ b W
  exact Ev.yh (M:=ckM V i 0 ⟨0,⟨#[]⟩⟩ (Ld g i (.slice sa sn sc))) (S:=λ_ W=>Below W1.heap.size W1 W) (n:=225) (K:=[]) (s:=()) (v:=x) 2 hO1 (λ_ _ h=>h.drew) (by rw[hx0];kernel_rfl) (by kernel_rfl) (Ev.aU hst.1 hst.2.1) hS λb W _ h1 h2 h3=>hret b W h1 h2 h3
 have hkn:k<sn:=by have:(k:Int)<(sn:Int):=by simpa using hc
                   omega
 clear h1 pz ql ny hsz hdf hm hc
 obtain⟨h1,hst⟩:=hst.cons
 obtain⟨pz,hst⟩:=hst.cons
 obtain⟨ql,hst⟩:=hst.cons
 obtain⟨ny,hst⟩:=hst.cons
 obtain⟨x0,hx0⟩:∃x0,i.links[k]? =some x0:=⟨_,List.getElem?_eq_getElem (by rw[<-HSN.out];exact hkn)⟩
 obtain⟨sb,rfl,hlr⟩:=HLK.out (by omega)
 have hLW:∀W,Below W1.heap.size W1 W->dM W sb i.links:=λW hW=>hlr W (up W hW)
 have hdrop:i.links.drop k=x0::i.links.drop (k+1):=by
  have h1:=List.drop_eq_getElem_cons (l:=i.links) (i:=k) (by rw[<-HSN.out];exact hkn)
  rw[h1]
  congr 1
  rw[List.getElem?_eq_getElem (by rw[<-HSN.out];exact hkn)]at hx0
  exact Option.some.inj hx0
 have htake:i.links.take (k+1)=i.links.take k++[x0]:=by rw[List.take_add_one,hx0];rfl
 rw[hdrop,AZ,<-htake]at HX
 have e4:ckG.2=[.sq (fmC ckG.2 0),.bl 1,.sq (fmC ckG.2 2)]:=by kernel_rfl
 show ckG.1.wp Tryz.prog (Qof Tryz.prog ckG.2 _) b W
 rw[e4]
 refine Oi (sb:=sb) (sn:=sn) (sc:=sc) (k:=k) (x:=x0) rfl rfl rfl rfl rfl rfl rfl rfl rfl rfl rfl rfl rfl rfl rfl rfl rfl rfl hst.1 ny pz hkn (hLW W hS k x0 hx0).1 (hLW W hS k x0 hx0).2 ?_
 intro b2 hd2 hz2 h5 h4 hr2
 obtain⟨h,hh⟩:∃h,h=W.heap.size:=⟨_,rfl⟩
 obtain⟨Wh,hWh⟩:∃Wh,Wh=W.alloc (.cells #[.int .i64 x0.type,.string x0.ref] 117):=⟨_,rfl⟩
 have hBh:Below W1.heap.size W1 Wh:=by rw[hWh];exact hS.alloc hS.size _
 have kV:∀W,Below Wh.heap.size Wh W->W.heap[h]? =some (.cells [.int .i64 x0.type,.string x0.ref].toArray 117 (0,0)):=λW2 hW=>by
  rw[hW.block h (by rw[hWh,hh];simp),hWh,hh];exact aD W _
 have up2:∀W,Below Wh.heap.size Wh W->Below W1.heap.size W1 W:=λW hW=>hBh.trans (hW.mono hBh.size)
 rw[<-hWh]
 rw[<-hh]at h5
 have q1:=(hr2 1 (by decide) (by decide) (by decide) (by decide) (by decide)).trans h1
 have q189:=(hr2 189 (by decide) (by decide) (by decide) (by decide) (by decide)).trans pz
 have q190:=(hr2 190 (by decide) (by decide) (by decide) (by decide) (by decide)).trans ql
 have q191:=(hr2 191 (by decide) (by decide) (by decide) (by decide) (by decide)).trans ny
 have hdf2:=hd2.trans hst.2.1
 clear h1 pz ql ny hst hr2 hWh hh hS e4 hd2
 show(fmC ckG.2 0).wp Tryz.prog (Qof Tryz.prog [.bl 1,.sq (fmC ckG.2 2)] _) b2 Wh
 have hO2:Ev.Ok Tryz.prog (λ(_:Unit) W=>Below Wh.heap.size Wh W) (ckM V i k x0 (Mq g i sb sn sc k h x0)):=LV (o:=some (g,0)) (lv:=.slice (some ⟨sb,0,none⟩) sn sc) (λq b o2 l hq W hW=>by
  rcases q with _|_|_|q
  ·cases hq;exact jr hrow W (up2 W hW)
  ·cases hq
  ·cases hq;exact jr kV W hW
  ·cases hq) (λm s w' hm hw=>hV m s w' hm (up _ (up2 _ hw))) (λ_ _ _ _=>⟨sb,h,sc,sn,rfl,rfl,rfl,rfl,rfl,hk,HSC.out,by omega,λw hw=>AB w sb h sc i.links x0.ref k (hLW w (up2 w hw)) (by have:=HSN.out;omega) (by have:=HSC.out;omega) (by omega) (by rw[cell_of_row _ _ _ _ _ _ (kV w hw)];rfl)⟩)
 have e7:fmC ckG.2 0=.seq (.region 7 (gK (Ev.seqL (fmC ckG.2 0))) true) (Ev.AR (fmC ckG.2 0)):=by kernel_rfl
 rw[e7]
 refine wp_seq ?_
 refine Ev.mq (W0:=Wh) (m:=225) (M:=ckM V i k x0 (Mq g i sb sn sc k h x0)) (K:=[(1,.p 0 0),(5,.p 2 0),(4,.r 1 0),(189,.r 0 15),(190,.v (.int .i64 (sn:Int))),(191,.r 1 0)]) 23 6 (mV V i (i.links.take k) x0) hO2 (by kernel_rfl) (Ev.aC (Ev.aC (Ev.aC (Ev.aC (Ev.aC (Ev.aC (Ev.aU hz2 hdf2) q191) q190) q189) h4) h5) q1) (Below.refl _ _) (show 0<4 by decide) (show 4<=1000 by decide) (by kernel_rfl) (by kernel_rfl) ?_
 obtain⟨y,hy⟩:∃y,y=aj (mV V i (i.links.take k) x0):=⟨_,rfl⟩
 rw[<-hy]at HX⊢
 clear q1 q189 q190 q191 h4 h5 hz2 hdf2 e7
 intro b3 W3 hB3 DL
 show(Ev.AR (fmC ckG.2 0)).wp Tryz.prog _ b3 W3
 refine Ev.jA (M:=ckM V i k x0 (Mq g i sb sn sc k h x0)) (S:=λ_ W=>Below Wh.heap.size Wh W) (n:=225) (K:=[(6,.v (.int .i64 y)),(1,.p 0 0),(189,.r 0 15),(190,.v (.int .i64 (sn:Int))),(191,.r 1 0)]) (s:=()) [1,189,190,191,2] (.ite (y !=0) (.ret [some (.p 0 0),some (.r 0 15),some (.v (.int .i64 (sn:Int))),some (.r 1 0),some (.v (.int .i64 y))] ()) (.nx [some (.p 0 0),some (.r 0 15),some (.v (.int .i64 (sn:Int))),some (.r 1 0),none] ())) hO2 (λ_ _ h=>h.drew) (by kernel_rfl) (Ev.aC (Ev.aC (Ev.aC (Ev.aC (Ev.aC (Ev.aU DL.size DL.defers) (DL.look 191 _ rfl)) (DL.look 190 _ rfl)) (DL.look 189 _ rfl)) (DL.look 1 _ rfl)) (DL.look 6 _ rfl)) hB3 ⟨λhc b W hst hS=>?_,λhc b W hst hS=>?_⟩
 ·have hy0:y≠0:=by simpa using hc
  rw[if_pos hy0]at HX
  refine hret b W hst.2.1 ?_ (up2 W hS)
  rw[<-HX]
  exact hst.2.2 4 2 _ rfl rfl
 ·have hy0:y=0:=by simpa using hc
  rw[if_neg (by simp[hy0])]at HX
  obtain⟨h1,hst⟩:=hst.cons
  obtain⟨pz,hst⟩:=hst.cons
  obtain⟨ql,hst⟩:=hst.cons
  obtain⟨ny,hst⟩:=hst.cons
  have hw1:IntKind.i64.wrap ((k:Int)+1)=((k+1:Nat):Int):=by rw[IntWalk.i64_in _ (by omega)];rfl
  show(fmC ckG.2 2).wp Tryz.prog _ b W
  refine Ev.jA (M:=ckM V i k x0 (Mq g i sb sn sc k h x0)) (S:=λ_ W=>Below Wh.heap.size Wh W) (n:=225) (K:=[(1,.p 0 0),(189,.r 0 15),(190,.v (.int .i64 (sn:Int))),(191,.r 1 0)]) (s:=()) [1,189,190,191] (.nx [some (.p 0 0),some (.r 0 15),some (.v (.int .i64 (sn:Int))),some (.v (.int .i64 (IntKind.i64.wrap ((k:Int)+1))))] ()) hO2 (λ_ _ h=>h.drew) (by kernel_rfl) (Ev.aC (Ev.aC (Ev.aC (Ev.aC (Ev.aU hst.1 hst.2.1) ny) ql) pz) h1) hS ?_
  clear h1 pz ql ny hst
  intro b W hst hS
  obtain⟨h1,hst⟩:=hst.cons
  obtain⟨pz,hst⟩:=hst.cons
  obtain⟨ql,hst⟩:=hst.cons
  obtain⟨ny,hst⟩:=hst.cons
  have PY:b.tmps[191]? =some (.int .i64 ((k+1:Nat):Int)):=by rw[<-hw1];exact ny
  refine⟨⟨k+1,hkn,hst.1,hst.2.1,h1,pz,ql,PY,up2 W hS,HX⟩,?_⟩
  rw[PY];simp;omega
theorem Od (w:World)(a:Option Addr)(n c:Nat)(hn:n≠0):
 Calls Tryz.prog 83 #[.slice a n c,.slice none 0 0] w λe w'=>e=.returned (.bool false)/\Below w.heap.size w w':=by
 go_enter Tryz.func83,Tryz.ntmps83
 have hn2:((n:Int) !=0)=true:=by simp[hn]
 go_wp2_with fail
 go_ret
 exact⟨rfl,Below.refl _ _⟩
theorem LH (w:World)(a:Option Addr)(c:Nat):
 Calls Tryz.prog 83 #[.slice a 0 c,.slice none 0 0] w λe w'=>e=.returned (.bool true)/\Below w.heap.size w w':=by
 go_enter Tryz.func83,Tryz.ntmps83
 go_wp2_with fail
 go_loopw [5,13] (λ_ iv wr=>iv=.int .i64 0/\wr=w) (λ_ _ _=>0)
 case atStart=>exact⟨rfl,rfl⟩
 case round=>
  obtain⟨rfl,rfl⟩:=hrel
  go_wp2_with fail
  go_ret
  exact⟨rfl,Below.refl _ _⟩
theorem Hy (w:World)(a:Option Addr)(n c:Nat):
 Calls Tryz.prog 83 #[.slice a n c,.slice none 0 0] w λe w'=>e=.returned (.bool (n==0))/\Below w.heap.size w w':=by
 by_cases h:n=0
 ·subst h;exact LH w a c
 ·rw[show(n==0)=false from by simp[h]];exact Od w a n c h
theorem OH (i:Ps.Ins):uw i {} (i.links.length==0)=decide i.none:=by
 rw[Bool.eq_iff_iff,decide_eq_true_iff]
 unfold uw Ps.Ins.none
 simp only[Bool.and_eq_true,BJ]
 simp only[beq_iff_eq,and_assoc]
theorem EM (w:World)(i:Ps.Ins)(sa:Option Addr)(sc:Nat):
 Calls Tryz.prog 45 #[.agg (aB i (.slice sa i.links.length sc)).toArray,.agg (aB {} (.slice none 0 0)).toArray] w λe w'=>e=.returned (.bool (decide i.none))/\Below w.heap.size w w':=by
 rw[<-OH]
 exact Ir w i {} sa none i.links.length sc 0 0 _ λw' _=>Hy w' sa i.links.length sc
theorem ed.below {w w':World}{B:Nat}{lv:Value}{ks:List Ps.Link}(h:ed w B lv ks)(hb:Below w.heap.size w w'):ed w' B lv ks:=by
 refine bP h λg hg=>?_
 obtain⟨_,⟨rfl,_⟩|⟨g',cap,cur,rfl,hB,hh,_⟩⟩:=h
 ·simp[Value.ownBlock]at hg
 ·obtain rfl:g'=g:=by simpa[Value.ownBlock]using hg
  exact hb.block g' (Array.getElem?_eq_some_iff.1 hh).1
def InsC (W0:World):Prop:=∀(w:World) (B:Nat) (i:Ps.Ins) (a:Option Addr) (n c:Nat),Below W0.heap.size W0 w->ed w B (.slice a n c) i.links->
 Calls Tryz.prog 66 #[.agg (aB i (.slice a n c)).toArray] w λe W'=>e=.returned (.int .i64 (Ps.oI az.valid i))/\Below w.heap.size w W'
theorem Gg (V:Nat->ByteArray->Bool)(Q:Ps.Req):Ps.Hg V Q=qU V Q (Ps.oI V Q.ins) (Ps.yF Q.amd) (decide Q.ins.none):=by
 have e17:aj [(!(Q.ins.ref.toList==Q.ref.toList)||!(Q.ins.sender.toList==Q.sender.toList),17)]=if Q.ins.ref≠Q.ref\/Q.ins.sender≠Q.sender then 17 else 0:=
  dD (pJ (bD (BJ _ _)) (bD (BJ _ _)))
 have e3:aj [(!(decide Q.ins.none),3)]=if¬Q.ins.none then 3 else 0:=dD (bD decide_eq_true_iff)
 have e4:aj [(!decide Q.amd.none,3)]=if¬Q.amd.none then 3 else 0:=dD (bD decide_eq_true_iff)
 have ex1:aj [(!(inB Q.op 0 4),11),(!(V 1 Q.sender),6),(!(V 2 Q.ref),6)]=if¬(0<=Q.op/\Q.op<=4)then 11 else if V 1 Q.sender=false then 6 else if V 2 Q.ref=false then 6 else 0:=by
  rw[dD (bD (fo _ _ _)),dD (IW _),dD (IW _)]
  rfl
 unfold qU
 rw[e17,e3,e4,ex1]
 simp only[bne_iff_ne,beq_iff_eq]
 unfold Ps.Hg
 by_cases h1:¬(0<=Q.op/\Q.op<=4)
 ·simp only[if_pos h1];rfl
 simp only[if_neg h1]
 by_cases h2:V 1 Q.sender=false
 ·simp only[if_pos h2];rfl
 simp only[if_neg h2]
 by_cases h3:V 2 Q.ref=false
 ·simp only[if_pos h3];rfl
 simp only[if_neg h3,ne_eq,not_true_eq_false,if_false]
 by_cases h0:Q.op=0
 ·have h10:¬Q.op=1:=by omega
  simp only[h0,if_true]
  by_cases h4:Ps.oI V Q.ins=0
  ·simp only[h4,not_true_eq_false,if_false]
   by_cases h5:¬Q.ins.ref=Q.ref\/¬Q.ins.sender=Q.sender
   ·simp only[if_pos h5];rfl
   ·simp only[if_neg h5]
    rfl
  ·simp only[h4,not_false_eq_true,if_true]
 ·simp only[h0,if_false]
  by_cases h5:Q.ins.none
  ·simp only[h5,not_true_eq_false,if_false]
  ·simp only[h5,not_false_eq_true,if_true];rfl
theorem kD {W0 w:World}(env:mI W0)(hb:Below W0.heap.size W0 w)(k:Nat)(hk:k<3)(s:ByteArray):∀w',Below w.heap.size w w'->Calls Tryz.prog 65 #[.int .i64 k,.string s] w' λe w''=>e=.returned (.bool (az.valid k s))/\Below w'.heap.size w' w'':=λw' hw=>
 Dw k hk s w' (env w' (hb.trans (hw.mono hb.size)))
theorem chk_of {W0:World}(env:mI W0)(ic:InsC W0):ChkC W0:=λw B Q a n c hb hl=>by
 obtain⟨a',c',hs⟩:=hl.slice
 have hn:n=Q.ins.links.length:=by cases hs;rfl
 rw[show psR Q=_ from Gg az.valid Q]
 refine rq_w1 w az.valid Q a n c _ _ _ (λW k s hk hW=>kD env hb k hk s W hW) (λw' hw=>ic w' B Q.ins a n c (hb.trans (hw.mono hb.size)) (hl.below hw)) (λw' hw=>?_) (λw' hw=>?_)
 ·rw[hn]
  exact EM w' Q.ins a c
 ·rw[<-F8]
  exact JJ w' Q.amd
theorem ru:∀(rs:List (Bool×Int)),(∀x∈rs,x.2≠0)->aj rs=0->∀x∈rs,x.1=false
 |[],_,_,x,hx=>by cases hx
 |y::rs,hz,h,x,hx=>by
  unfold aj at h
  by_cases hb:y.1=true
  ·rw[if_pos hb]at h
   exact absurd h (hz y List.mem_cons_self)
  ·rw[if_neg hb]at h
   rcases List.mem_cons.1 hx with rfl|hx
   ·simpa using hb
   ·exact ru rs (λz h=>hz z (List.mem_cons_of_mem _ h)) h x hx
theorem KT {w:World}{B:Nat}{a:Option Addr}{n c:Nat}{ks:List Ps.Link}(h:ed w B (.slice a n c) ks)(hn:0<n):∃sb,a=some ⟨sb,0,none⟩/\∀W,Below w.heap.size w W->dM W sb ks:=by
 obtain⟨a',c',hs⟩:=h.slice
 obtain⟨rfl,rfl,rfl⟩:a=a'/\n=ks.length/\c=c':=by cases hs;exact⟨rfl,rfl,rfl⟩
 obtain⟨sb,cap,hv,hlt,hcell⟩:=xY h hn
 refine⟨sb,by cases hv;rfl,λW hW=>?_⟩
 refine dM.below ?_ hW
 intro j x hj
 have hk:∀(ks:List Ps.Link) (j:Nat) (x:Ps.Link),ks[j]? =some x->(dO ks)[j*2]? =some (.int .i64 x.type)/\(dO ks)[j*2+1]? =some (.string x.ref):=by
  intro ks
  induction ks with
  |nil=>intro j x h;simp at h
  |cons y ks ih=>
   intro j x h
   cases j with
   |zero=>
    obtain rfl:y=x:=by simpa using h
    exact⟨rfl,rfl⟩
   |succ j=>
    have:=ih j x (by simpa using h)
    rw[show(j+1)*2=j*2+1+1 from by omega]
    exact this
 obtain⟨h1,h2⟩:=hk ks j x hj
 exact⟨hcell _ _ h1,hcell _ _ h2⟩
theorem lk_cap {w:World}{B:Nat}{a:Option Addr}{n c:Nat}{ks:List Ps.Link}(h:ed w B (.slice a n c) ks):n=ks.length/\n<=c:=by
 obtain⟨_,⟨hs,h0⟩|⟨g,cap,cur,hv,hB,hh,hnc,_⟩⟩:=h
 ·cases hs
  exact⟨h0.symm,Nat.le_refl _⟩
 ·cases hv
  exact⟨rfl,hnc⟩
theorem ins_c {W0:World}(env:mI W0):InsC W0:=λw B i a n c hb hl=>by
 obtain⟨hn,hc⟩:=lk_cap hl
 have hx:=Hf az.valid i
 rw[<-hn]at hx
 refine in_w1 w i a n c az.valid (Ps.oI az.valid i) (aj (gH az.valid i n)) (Ps.fJ az.valid i [] i.links) rfl (λh0=>?_) (Lib.hid hn) (Lib.hid hc) (Lib.hid rfl) (Lib.hid λh=>KT hl h) hx (kD env hb 0 (by omega)) (kD env hb 1 (by omega)) (kD env hb 2 (by omega))
 have h8:=ru _ (by unfold gH;simp) h0 (decide (8<(n:Int)),8) (by unfold gH;simp)
 simp at h8
 omega
theorem GR {m:Int}{kb ko kc:Nat}{w:World}(env:kQ m kb ko kc w)(s:ByteArray)(hs:s.size<=9223372036854775807):
 Calls Tryz.prog 9 #[.string s] w λe W'=>∃rv o x,e=.returned (.tuple #[rv,.int .i64 o,.int .i64 x])/\mQ w (Ps.parse az psR s) rv o x W':=
 Lu env (chk_of env.id (ins_c env.id)) s hs
def kn1:ByteArray:=⟨#[112,97,121,32,80,49,32,102,114,111,109,32,66,65,78,75,65,32,116,111,32,66,65,78,75,66,32,97,109,111,117,110,116,32,49,53,48,48,46,48,48,32,100,97,121,32,50,48,50,54,45,49,49,45,49,54,32,117,114,103,101,110,116]⟩
def kn2:ByteArray:=⟨#[112,97,121,32,80,49,32,102,114,111,109,32,66,65,78,75,65,32,116,111]⟩
def kn3:ByteArray:=⟨#[99,97,110,99,101,108,32,80,49,32,98,121,32,66,65,78,75,65,32,110,111,119]⟩
theorem kn_two:(Ps.parse az psR kn2).2=(20,4):=by decide +kernel
theorem MW:(Ps.parse az psR kn3).2=(19,30):=by decide +kernel
theorem kn_one:(Ps.parse az psR kn1).2=(0,0):=by decide +kernel
def KZ (W:World)(s:ByteArray)(Q:Ps.Req)(o x:Int):Prop:=Calls Tryz.prog 9 #[.string s] W λe W'=>∃a n c,e=.returned (.tuple #[.agg (aA Q (.slice a n c)),.int .i64 o,.int .i64 x])/\ed W' W.heap.size (.slice a n c) Q.ins.links/\Below W.heap.size W W'
theorem zM {m:Int}{kb ko kc:Nat}{w:World}(env:kQ m kb ko kc w)(s:ByteArray)(hs:s.size<=9223372036854775807)(W:World)(hW:Below w.heap.size w W):KZ W s (Ps.parse az psR s).1 (Ps.parse az psR s).2.1 (Ps.parse az psR s).2.2:=by
 refine(GR (env.below hW) s hs).mono ?_
 rintro e W' ⟨rv,o,x,rfl,⟨lv,rfl,hl⟩,rfl,rfl,hb⟩
 obtain⟨a,c,rfl⟩:=hl.slice
 exact⟨a,_,c,rfl,hl,hb⟩
def Ns:Array Value:=#[Value.int IntKind.i64 0,Value.string {data:=#[]},Value.string {data:=#[]},Value.string {data:=#[]},Value.int IntKind.i64 0,Value.string {data:=#[]},Value.string {data:=#[]},Value.int IntKind.i64 0,Value.string {data:=#[]},Value.int IntKind.i64 0,Value.int IntKind.i64 0,Value.int IntKind.i64 0,Value.int IntKind.i64 0,Value.int IntKind.i64 0,Value.bool false,Value.int IntKind.i64 0,Value.bool false,Value.bool false,Value.slice none 0 0,Value.bool false,Value.bool false,Value.bool false,Value.bool false,Value.int IntKind.i64 0,Value.int IntKind.i64 0,Value.int IntKind.i64 0,Value.bool false,Value.int IntKind.i64 0]
def zIns:Array Value:=#[Value.string {data:=#[]},Value.int IntKind.i64 0,Value.string {data:=#[]},Value.string {data:=#[]},Value.int IntKind.i64 0,Value.string {data:=#[]},Value.int IntKind.i64 0,Value.int IntKind.i64 0,Value.int IntKind.i64 0,Value.int IntKind.i64 0,Value.int IntKind.i64 0,Value.bool false,Value.int IntKind.i64 0,Value.bool false,Value.bool false,Value.slice none 0 0]
theorem KI (w:World)(Q:Ps.Req)(a:Option Addr)(n c:Nat):Sem.run Tryz.prog (storeCells ⟨w.heap.size,0,none⟩ (aA Q (.slice a n c)).toList) (w.alloc (.cells #[Value.int IntKind.i64 0,Value.string {data:=#[]},Value.string {data:=#[]},Value.string {data:=#[]},Value.int IntKind.i64 0,Value.string {data:=#[]},Value.string {data:=#[]},Value.int IntKind.i64 0,Value.string {data:=#[]},Value.int IntKind.i64 0,Value.int IntKind.i64 0,Value.int IntKind.i64 0,Value.int IntKind.i64 0,Value.int IntKind.i64 0,Value.bool false,Value.int IntKind.i64 0,Value.bool false,Value.bool false,Value.slice none 0 0,Value.bool false,Value.bool false,Value.bool false,Value.bool false,Value.int IntKind.i64 0,Value.int IntKind.i64 0,Value.int IntKind.i64 0,Value.bool false,Value.int IntKind.i64 0] 29))=.ok () (w.alloc (.cells (aA Q (.slice a n c)) 29)):=
 run_storeCells_new w 29 Ns _ (by kernel_rfl) rfl (dH Q a n c)
theorem zN (i:Ps.Ins)(a:Option Addr)(n c:Nat):(aB i (.slice a n c)).toArray.all (·.oneCell')=true:=by
 rw[<-Array.all_toList]
 simp[aB,Value.oneCell']
theorem st_ins (w:World)(i:Ps.Ins)(a:Option Addr)(n c:Nat):Sem.run Tryz.prog (storeCells ⟨w.heap.size,0,none⟩ (aB i (.slice a n c))) (w.alloc (.cells #[Value.string {data:=#[]},Value.int IntKind.i64 0,Value.string {data:=#[]},Value.string {data:=#[]},Value.int IntKind.i64 0,Value.string {data:=#[]},Value.int IntKind.i64 0,Value.int IntKind.i64 0,Value.int IntKind.i64 0,Value.int IntKind.i64 0,Value.int IntKind.i64 0,Value.bool false,Value.int IntKind.i64 0,Value.bool false,Value.bool false,Value.slice none 0 0] 25))=.ok () (w.alloc (.cells (aB i (.slice a n c)).toArray 25)):=
 run_storeCells_new w 25 zIns (aB i (.slice a n c)).toArray (by kernel_rfl) rfl (zN i a n c)
theorem M9 (w:World)(Q1 Q2 Q3:Ps.Req)
 (m1:Hid (∀W,Below w.heap.size w W->KZ W kn1 Q1 0 0)) (m2:Hid (∀W,Below w.heap.size w W->KZ W kn2 Q2 20 4)) (m3:Hid (∀W,Below w.heap.size w W->KZ W kn3 Q3 19 30))
 (z0:Q1.op=0) (z1:(Q1.sender.toList==[66,65,78,75,65])=true) (z2:(Q1.ref.toList==[80,49])=true) (y1:Q1.ins.kind=0) (y3:(Q1.ins.counterparty.toList==[66,65,78,75,66])=true) (y7:Q1.ins.amount=150000) (y9:Q1.ins.settleDay=9816) (y10:Q1.ins.priority=2):
 Calls Tryz.prog 8 #[] w λe W'=>e=.returned (.bool true)/\Below w.heap.size w W':=by
 have hst:=KI
 go_enter Tryz.func8,Tryz.ntmps8
 go_upto_region 2 with(go_at_call 9;refine(m1.out _ (Below.refl _ _)).mono ?_;rintro e w1 ⟨a1,n1,c1,rfl,hl1,hb1⟩;have HB1:=Lib.hid hb1;clear hb1 hl1)
 obtain⟨g,hg⟩:∃g,g=w1.heap.size:=⟨_,rfl⟩
 obtain⟨W2,hW2⟩:∃W2,W2=w1.alloc (.cells (aA Q1 (.slice a1 n1 c1)) 29):=⟨_,rfl⟩
 have HR2:Hid (W2.heap[g]? =some (.cells (aA Q1 (.slice a1 n1 c1)) 29 (0,0))):=Lib.hid (by rw[hW2,hg];exact aD w1 _)
 have HB2:Hid (Below w.heap.size w W2):=Lib.hid (by rw[hW2];exact HB1.out.alloc HB1.out.size _)
 rw[<-hW2,<-hg]
 clear hW2 hg HB1
 go_upto_region 3 with(go_at_call 9;refine(m2.out _ HB2.out).mono ?_;rintro e w3 ⟨a2,n2,c2,rfl,hl3,hb3⟩;have HB3:=Lib.hid hb3;clear hb3 hl3)
 obtain⟨W4,hW4⟩:∃W4,W4=w3.alloc (.cells (aA Q2 (.slice a2 n2 c2)) 29):=⟨_,rfl⟩
 have hb4:Below W2.heap.size W2 W4:=by rw[hW4];exact HB3.out.alloc HB3.out.size _
 have HR4:Hid (W4.heap[g]? =some (.cells (aA Q1 (.slice a1 n1 c1)) 29 (0,0))):=Lib.hid ((hb4.block g (Array.getElem?_eq_some_iff.1 HR2.out).1).trans HR2.out)
 have PM:Hid (Below w.heap.size w W4):=Lib.hid (HB2.out.trans (hb4.mono HB2.out.size))
 rw[<-hW4]
 clear hW4 hb4 HB3 HR2 HB2
 generalize w3.heap.size=g2
 go_upto_region 4 with(go_at_call 9;refine(m3.out _ PM.out).mono ?_;rintro e w5 ⟨a3,n3,c3,rfl,hl5,hb5⟩;have HB5:=Lib.hid hb5;clear hb5 hl5)
 obtain⟨W6,hW6⟩:∃W6,W6=w5.alloc (.cells (aA Q3 (.slice a3 n3 c3)) 29):=⟨_,rfl⟩
 have hb6:Below W4.heap.size W4 W6:=by rw[hW6];exact HB5.out.alloc HB5.out.size _
 have OL:Hid (W6.heap[g]? =some (.cells (aA Q1 (.slice a1 n1 c1)) 29 (0,0))):=Lib.hid ((hb6.block g (Array.getElem?_eq_some_iff.1 HR4.out).1).trans HR4.out)
 have HB6:Hid (Below w.heap.size w W6):=Lib.hid (PM.out.trans (hb6.mono PM.out.size))
 rw[<-hW6]
 clear hW6 hb6 HB5 HR4 PM hst m1 m2 m3
 generalize w5.heap.size=g3
 refine wp_region_lit ?_
 refine yc rfl rfl rfl rfl (u:=.pointer (some ⟨g,3,none⟩)) (by clear z0 z1 z2 y1 y3 y7 y9 y10;go_simp) ?_
 refine jK rfl rfl rfl rfl (JZ g Q1 a1 n1 c1 W6 OL.out) ?_
 have hsi:=st_ins
 go_upto_region 5 with fail
 obtain⟨h,hh⟩:∃h,h=W6.heap.size:=⟨_,rfl⟩
 obtain⟨W7,hW7⟩:∃W7,W7=W6.alloc (.cells (aB Q1.ins (.slice a1 n1 c1)).toArray 25):=⟨_,rfl⟩
 have Mj:Below W6.heap.size W6 W7:=by rw[hW7];exact(Below.refl _ _).alloc (Nat.le_refl _) _
 have hr7:W7.heap[g]? =some (.cells (aA Q1 (.slice a1 n1 c1)) 29 (0,0)):=(Mj.block g (Array.getElem?_eq_some_iff.1 OL.out).1).trans OL.out
 have hi7:W7.heap[h]? =some (.cells (aB Q1.ins (.slice a1 n1 c1)).toArray 25 (0,0)):=by rw[hW7,hh];exact aD W6 _
 have HB7:Hid (Below w.heap.size w W7):=Lib.hid (HB6.out.trans (Mj.mono HB6.out.size))
 have k0:W7.cell? ⟨g,0,none⟩=some (.int .i64 0):=by rw[cell_of_row _ _ _ _ _ _ hr7,<-z0];rfl
 have k1:W7.cell? ⟨g,1,none⟩=some (.string Q1.sender):=by rw[cell_of_row _ _ _ _ _ _ hr7];rfl
 have k2:W7.cell? ⟨g,2,none⟩=some (.string Q1.ref):=by rw[cell_of_row _ _ _ _ _ _ hr7];rfl
 have i1:W7.cell? ⟨h,1,none⟩=some (.int .i64 0):=by rw[cell_of_row _ _ _ _ _ _ hi7,<-y1];rfl
 have i3:W7.cell? ⟨h,3,none⟩=some (.string Q1.ins.counterparty):=by rw[cell_of_row _ _ _ _ _ _ hi7];rfl
 have i7:W7.cell? ⟨h,7,none⟩=some (.int .i64 150000):=by rw[cell_of_row _ _ _ _ _ _ hi7,<-y7];rfl
 have i9:W7.cell? ⟨h,9,none⟩=some (.int .i64 9816):=by rw[cell_of_row _ _ _ _ _ _ hi7,<-y9];rfl
 have i10:W7.cell? ⟨h,10,none⟩=some (.int .i64 2):=by rw[cell_of_row _ _ _ _ _ _ hi7,<-y10];rfl
 rw[<-hW7,<-hh]
 clear hW7 hh Mj hr7 hi7 OL HB6 hsi z0 y1 y7 y9 y10
 go_wp2_with fail
 go_ret
 exact⟨rfl,HB7.out⟩
theorem NB:(Ps.parse az psR kn1).1.op=0/\((Ps.parse az psR kn1).1.sender.toList==[66,65,78,75,65])=true/\((Ps.parse az psR kn1).1.ref.toList==[80,49])=true/\(Ps.parse az psR kn1).1.ins.kind=0/\((Ps.parse az psR kn1).1.ins.counterparty.toList==[66,65,78,75,66])=true/\(Ps.parse az psR kn1).1.ins.amount=150000/\(Ps.parse az psR kn1).1.ins.settleDay=9816/\(Ps.parse az psR kn1).1.ins.priority=2:=by decide +kernel
theorem Jw {m:Int}{kb ko kc:Nat}{w:World}(env:kQ m kb ko kc w):Calls Tryz.prog 8 #[] w λe W'=>e=.returned (.bool true)/\Below w.heap.size w W':=by
 obtain⟨z0,z1,z2,y1,y3,y7,y9,y10⟩:=NB
 have e1:=kn_one
 have e2:=kn_two
 have e3:=MW
 refine M9 w (Ps.parse az psR kn1).1 (Ps.parse az psR kn2).1 (Ps.parse az psR kn3).1 (Lib.hid λW hW=>?_) (Lib.hid λW hW=>?_) (Lib.hid λW hW=>?_) z0 z1 z2 y1 y3 y7 y9 y10
 ·have:=zM env kn1 (by decide) W hW
  rw[e1]at this
  exact this
 ·have:=zM env kn2 (by decide) W hW
  rw[e2]at this
  exact this
 ·have:=zM env kn3 (by decide) W hW
  rw[e3]at this
  exact this
theorem J8 (g:Nat)(Q:Ps.Req)(lv:Value)(w:World)(h:w.heap[g]? =some (.cells (aA Q lv) 29 (0,0))):(Instr.loadAt 29 (.pointer (some ⟨g,0,none⟩))).run Tryz.prog w=.ok (.agg (aA Q lv)) w:=by
 have:=run_loadVar_row (P:=Tryz.prog) w g 29 29 (aA Q lv) (0,0) _ h Tryz.underlying29 rfl (by kernel_rfl)
 unfold Instr.loadAt
 simp[Instr.sureAddr,this]
end Go.Proofs.YthijakidnkhbnaaGreatDoor
namespace Go.Proofs.YthijakidnkhbnaaGreatDoor.Lx
abbrev Bs:=List UInt8
def FT (l:Bs):Bool:=l.all λc=>!blank (c.toNat:Int)
def blanks (l:Bs):Bool:=l.all λc=>blank (c.toNat:Int)
def wN (k:Nat)(t:Bs)(a:Nat)(acc:List Tok)(next:Nat->List Tok->List Tok×Int×Int):List Tok×Int×Int:=
 if t=[]then(acc,0,0)
 else if (aI ⟨t.toArray⟩).2=0 then next (a+k+t.length) (acc++[((aI ⟨t.toArray⟩).1,⟨t.toArray⟩,a+k)])
 else([],((a+k:Nat):Int),(aI ⟨t.toArray⟩).2)
theorem kM (k:Nat)(t:Bs)(a:Nat)(acc:List Tok)(next:Nat->List Tok->List Tok×Int×Int)(h:t≠[])(hc:(aI ⟨t.toArray⟩).2=0):wN k t a acc next=next (a+k+t.length) (acc++[((aI ⟨t.toArray⟩).1,⟨t.toArray⟩,a+k)]):=by
 unfold wN;rw[if_neg h,if_pos hc]
theorem jB (k:Nat)(t:Bs)(a:Nat)(acc:List Tok)(next:Nat->List Tok->List Tok×Int×Int)(h:t≠[])(hc:(aI ⟨t.toArray⟩).2≠0):wN k t a acc next=([],((a+k:Nat):Int),(aI ⟨t.toArray⟩).2):=by
 unfold wN;rw[if_neg h,if_neg hc]
def oL:Nat->Bs->Nat->List Tok->List Tok×Int×Int
 |0,_,_,acc=>(acc,0,0)
 |f+1,l,a,acc=>
  wN (run blank l) ((l.drop (run blank l)).take (run (λc=>!blank c) (l.drop (run blank l)))) a acc (oL f (l.drop (run blank l+((l.drop (run blank l)).take (run (λc=>!blank c) (l.drop (run blank l)))).length)))
theorem iN (f:Nat)(l:Bs)(a:Nat)(acc:List Tok):oL (f+1) l a acc=wN (run blank l) ((l.drop (run blank l)).take (run (λc=>!blank c) (l.drop (run blank l)))) a acc (oL f (l.drop (run blank l+((l.drop (run blank l)).take (run (λc=>!blank c) (l.drop (run blank l)))).length))):=rfl
theorem fe (s:ByteArray)(a b:Nat):s.extract a b=⟨((s.data.toList.drop a).take (b-a)).toArray⟩:=by
 obtain⟨⟨l⟩⟩:=s
 rw[ByteArray.extract_mk]
theorem rE (s:ByteArray):∀(f a:Nat) (acc:List Tok),a<=s.size->gq f s a acc=oL f (s.data.toList.drop a) a acc
 |0,_,_,_=>rfl
 |f+1,a,acc,ha=>by
  have hl:s.data.toList.length=s.size:=by obtain⟨⟨l⟩⟩:=s;rfl
  obtain⟨k,hk⟩:∃k,k=run blank (s.data.toList.drop a):=⟨_,rfl⟩
  have h1:skip s a=k:=by
   unfold skip
   rw[fe,hk]
   congr 1
   show List.take _ _=_
   rw[List.take_of_length_le]
   rw[List.length_drop];omega
  have hsk:=yw s a ha
  obtain⟨m,hm⟩:∃m,m=run (λc=>!blank c) ((s.data.toList.drop a).drop k):=⟨_,rfl⟩
  have h2:size s (a+k)=m:=by
   unfold size
   rw[fe,hm]
   congr 1
   show List.take _ _=_
   rw[List.take_of_length_le,List.drop_drop]
   rw[List.length_drop];omega
  rw[h1]at hsk
  have hsz:=size_le s (a+k) hsk
  rw[h2]at hsz
  obtain⟨t,hte⟩:∃t,t=(List.drop k (List.drop a s.data.toList)).take m:=⟨_,rfl⟩
  have ht:s.extract (a+k) (a+k+m)=⟨t.toArray⟩:=by
   rw[fe,hte,List.drop_drop,show a+k+m-(a+k)=m from by omega]
  have htl:t.length=m:=by
   rw[hte,List.length_take,List.drop_drop,List.length_drop];omega
  unfold gq oL
  rw[<-hk,<-hm,<-hte]
  simp only[h1,h2,ht]
  by_cases h0:m=0
  ·rw[if_pos h0]
   unfold wN
   rw[if_pos (List.eq_nil_of_length_eq_zero (by omega))]
  ·have hn:t≠[]:=λh=>h0 (by rw[<-htl,h];rfl)
   rw[if_neg h0]
   by_cases hc:(aI ⟨t.toArray⟩).2=0
   ·rw[if_pos hc,kM _ _ _ _ _ hn hc,rE s f _ _ (by omega),List.drop_drop,htl,show a+(k+m)=a+k+m from by omega]
   ·rw[if_neg hc,jB _ _ _ _ _ hn hc]
theorem LU (p:Int->Bool)(g l:Bs)(hg:g.all (λc=>p (c.toNat:Int))=true)(hl:∀c r,l=c::r->p (c.toNat:Int)=false):run p (g++l)=g.length:=by
 induction g with
 |nil=>
  cases l with
  |nil=>rfl
  |cons c r=>simp[run,hl c r rfl]
 |cons x g ih=>
  rw[List.all_cons,Bool.and_eq_true]at hg
  have e:run p (x::(g++l))=run p (g++l)+1:=by simp[run,hg.1]
  rw[List.cons_append,e,ih hg.2]
  rfl
theorem G6 (f:Nat)(g t l:Bs)(a:Nat)(acc:List Tok)(hg:blanks g=true)(ht:FT t=true)(h0:t≠[])(hl:∀c r,l=c::r->blank (c.toNat:Int)=true):
 oL (f+1) (g++(t++l)) a acc=if (aI ⟨t.toArray⟩).2=0 then oL f l (a+g.length+t.length) (acc++[((aI ⟨t.toArray⟩).1,⟨t.toArray⟩,a+g.length)])else([],((a+g.length:Nat):Int),(aI ⟨t.toArray⟩).2):=by
 have e1:run blank (g++(t++l))=g.length:=LU blank g _ hg λc r h=>by
  cases t with
  |nil=>exact absurd rfl h0
  |cons x t=>
   rw[List.cons_append]at h
   injection h with h1 h2
   subst h1
   unfold FT at ht
   rw[List.all_cons,Bool.and_eq_true]at ht
   simpa using ht.1
 have e2:run (λc=>!blank c) (t++l)=t.length:=LU _ t _ ht λc r h=>by simp[hl c r h]
 rw[iN,e1,List.drop_left,e2,List.take_left]
 by_cases hc:(aI ⟨t.toArray⟩).2=0
 ·rw[if_pos hc,kM _ _ _ _ _ h0 hc,<-List.drop_drop,List.drop_left,List.drop_left]
 ·rw[if_neg hc,jB _ _ _ _ _ h0 hc]
theorem lD (f:Nat)(g:Bs)(a:Nat)(acc:List Tok)(hg:blanks g=true):oL f g a acc=(acc,0,0):=by
 cases f with
 |zero=>rfl
 |succ f=>
  have e1:run blank g=g.length:=(nQ _ _).2 hg
  unfold oL
  rw[e1,List.drop_length,List.take_nil]
  rfl
end Go.Proofs.YthijakidnkhbnaaGreatDoor.Lx
namespace Go.Proofs.YthijakidnkhbnaaGreatDoor.Ps
open Go
def Off (l:List Tok)(o:Int):Prop:=(∃a,o=aT l a)\/o=vU l
def aS {α:Type}(l:List Tok)(p:P α):Prop:=∀a e,p a=.error e->Off l e.1/\e.2≠0
section
variable {l : List Tok}
theorem aS.pure {α:Type}(x:α):aS l (bO x):=λa e h=>by cases h
theorem aS.bind {α β:Type}{m:P α}{f:α->P β}(hm:aS l m)(hf:∀x,aS l (f x)):aS l (bind' m f):=λa e h=>by
 unfold bind' at h
 cases hc:m a with
 |error e'=>rw[hc]at h;cases h;exact hm a _ hc
 |ok x=>rw[hc]at h;exact hf x.1 x.2 e h
theorem aS.fail {α:Type}(n:Int)(hn:n≠0):aS l (fM (α:=α) l n):=λa e h=>by
 cases h;exact⟨.inl ⟨a,rfl⟩,hn⟩
theorem aS.word (w:Bs):aS l (word l w):=λa e h=>by
 unfold Ps.word at h
 split at h
 ·cases h;exact⟨.inr rfl,by show(4:Int)≠0;decide⟩
 ·split at h
  ·cases h
  ·cases h;exact⟨.inl ⟨a,rfl⟩,by show(30:Int)≠0;decide⟩
theorem aS.take {α:Type}(f:ByteArray->α×Int)(ks:List Int):aS l (take l f ks):=λa e h=>by
 unfold Ps.take at h
 split at h
 ·cases h;exact⟨.inr rfl,by show(4:Int)≠0;decide⟩
 ·split at h
  ·split at h
   ·cases h
   ·rename_i hz;cases h;exact⟨.inl ⟨a,rfl⟩,hz⟩
  ·cases h;exact⟨.inl ⟨a,rfl⟩,by show(30:Int)≠0;decide⟩
variable (E : Env)
theorem aS.ref:aS l (Ps.ref E l):=by unfold Ps.ref Ps.ident;exact aS.take _ _
theorem aS.member:aS l (Ps.member E l):=by unfold Ps.member Ps.ident;exact aS.take _ _
theorem aS.isin:aS l (Ps.isin E l):=by unfold Ps.isin Ps.ident;exact aS.take _ _
theorem aS.cash:aS l (Ps.cash E l):=aS.take _ _
theorem aS.quantity:aS l (Ps.quantity E l):=aS.take _ _
theorem aS.day:aS l (Ps.day E l):=aS.take _ _
theorem aS.options:∀(f:Nat) (s:Seen) (i:Ins),aS l (options E l f s i)
 |0,s,i=>.pure i
 |f+1,s,i=>λa e h=>by
  have ih:=aS.options f
  unfold Ps.options at h
  split at h
  ·cases h
  split at h
  ·split at h
   ·exact aS.fail 7 (by decide) a e h
   ·exact ih _ _ _ e h
  split at h
  ·split at h
   ·exact aS.fail 7 (by decide) a e h
   ·exact aS.bind (.quantity E) (λn=>ih _ _) _ e h
  split at h
  ·split at h
   ·exact aS.fail 7 (by decide) a e h
   ·exact ih _ _ _ e h
  split at h
  ·split at h
   ·exact aS.fail 7 (by decide) a e h
   ·exact ih _ _ _ e h
  split at h
  ·exact aS.bind (.ref E) (λn=>ih _ _) _ e h
  split at h
  ·exact aS.bind (.ref E) (λn=>ih _ _) _ e h
  exact aS.fail 30 (by decide) a e h
theorem aS.changes:∀(f:Nat) (s:Seen) (i:Amd),aS l (changes E l f s i)
 |0,s,i=>.pure i
 |f+1,s,i=>λa e h=>by
  have ih:=aS.changes f
  unfold Ps.changes at h
  split at h
  ·cases h
  split at h
  ·split at h
   ·exact aS.fail 7 (by decide) a e h
   ·exact ih _ _ _ e h
  split at h
  ·split at h
   ·exact aS.fail 7 (by decide) a e h
   ·exact aS.bind (.quantity E) (λn=>ih _ _) _ e h
  split at h
  ·split at h
   ·exact aS.fail 7 (by decide) a e h
   ·exact ih _ _ _ e h
  split at h
  ·split at h
   ·exact aS.fail 7 (by decide) a e h
   ·exact aS.bind (.cash E) (λn=>ih _ _) _ e h
  split at h
  ·split at h
   ·exact aS.fail 7 (by decide) a e h
   ·exact aS.bind (.day E) (λn=>ih _ _) _ e h
  exact aS.fail 30 (by decide) a e h
theorem aS.parties:aS l (parties E l):=.bind (.word _) λ_=>.bind (.member E) λ_=>.bind (.word _) λ_=>.bind (.member E) λ_=>.pure _
theorem aS.by_:aS l (by_ E l):=.bind (.word _) λ_=>.member E
theorem aS.security (i:Ins):aS l (security E l i):=.bind (.word _) λ_=>.bind (.isin E) λ_=>.bind (.word _) λ_=>.bind (.quantity E) λ_=>.pure _
theorem aS.payment (i:Ins):aS l (payment E l i):=.bind (.parties E) λ_=>.bind (.word _) λ_=>.bind (.cash E) λ_=>.bind (.word _) λ_=>.bind (.day E) λ_=>.options E _ _ _
theorem aS.trade (i:Ins):aS l (trade E l i):=.bind (.parties E) λ_=>.bind (.security E _) λj=>.bind (λa e h=>by
 split at h
 ·cases h
 ·exact aS.bind (.word _) (λ_=>aS.bind (.cash E) λ_=>.pure _) a e h) λ_=>.bind (.word _) λ_=>.bind (.day E) λ_=>.bind (.word _) λ_=>.bind (.day E) λ_=>.options E _ _ _
theorem aS.collateral (k:Int)(i:Ins):aS l (collateral E l k i):=.bind (.by_ E) λ_=>.bind (.security E _) λ_=>.bind (.word _) λ_=>.bind (.day E) λ_=>.pure _
theorem aS.rest (v:Bs)(q:Req):aS l (rest E l v q):=by
 unfold Ps.rest
 split
 ·exact .bind (.payment E _) λ_=>.pure _
 split
 ·exact .bind (.trade E _) λ_=>.pure _
 split
 ·exact .bind (.trade E _) λ_=>.pure _
 split
 ·exact .bind (.collateral E _ _) λ_=>.pure _
 split
 ·exact .bind (.collateral E _ _) λ_=>.pure _
 split
 ·refine .bind (.by_ E) λ_ a e h=>?_
  split at h
  ·cases h;exact⟨.inr rfl,by show(4:Int)≠0;decide⟩
  ·exact aS.bind (.changes E _ _ _) (λ_=>.pure _) a e h
 split
 ·exact .bind (.by_ E) λ_=>.pure _
 split
 ·exact .bind (.by_ E) λ_=>.pure _
 ·exact .bind (.by_ E) λ_=>.pure _
theorem aS.line:aS l (line E l):=λa e h=>by
 unfold Ps.line at h
 split at h
 ·cases h;exact⟨.inr rfl,by show(4:Int)≠0;decide⟩
 split at h
 ·refine aS.bind (.ref E) (λr=>aS.bind (.rest E _ _) λq=>?_) _ e h
  intro b e h
  have h:(if b<l.length then(.error (aT l b,30):Except Er (Req×Nat))else .ok (q,b))=.error e:=h
  split at h
  ·cases h;exact⟨.inl ⟨b,rfl⟩,by show(30:Int)≠0;decide⟩
  ·cases h
 ·cases h;exact⟨.inl ⟨a,rfl⟩,by show(30:Int)≠0;decide⟩
end
theorem A8:∀(f:Nat) (l:Bs) (a:Nat) (acc:List Tok) (m:Nat),a+l.length<=m->(∀t∈acc,t.2.2+t.2.1.size<=m)->(∀t∈(Lx.oL f l a acc).1,t.2.2+t.2.1.size<=m)/\0<=(Lx.oL f l a acc).2.1/\(Lx.oL f l a acc).2.1<=m
 |0,l,a,acc,m,ha,h=>⟨h,Int.le_refl _,by show(0:Int)<=m;omega⟩
 |f+1,l,a,acc,m,ha,h=>by
  rw[Lx.iN]
  have h1:=Lx.vK Lx.blank l
  obtain⟨k,hk⟩:∃k,k=Lx.run Lx.blank l:=⟨_,rfl⟩
  rw[<-hk]at h1⊢
  obtain⟨t,ht⟩:∃t,t=(l.drop k).take (Lx.run (λc=>!Lx.blank c) (l.drop k)):=⟨_,rfl⟩
  rw[<-ht]
  have htl:k+t.length<=l.length:=by
   rw[ht,List.length_take,List.length_drop];omega
  by_cases h0:t=[]
  ·unfold Lx.wN
   rw[if_pos h0]
   exact⟨h,Int.le_refl _,by show(0:Int)<=m;omega⟩
  by_cases hc:(Lx.aI ⟨t.toArray⟩).2=0
  ·rw[Lx.kM _ _ _ _ _ h0 hc]
   refine A8 f _ _ _ m ?_ λx hx=>?_
   ·rw[List.length_drop];omega
   ·rcases List.mem_append.1 hx with hx|hx
    ·exact h x hx
    ·rw[List.mem_singleton.1 hx]
     show a+k+t.length<=m
     omega
  ·rw[Lx.jB _ _ _ _ _ h0 hc]
   exact⟨λt ht=>by simp at ht,by show(0:Int)<=((a+k:Nat):Int);omega,by show((a+k:Nat):Int)<=m;omega⟩
theorem xz (s:ByteArray)(hs:s.size<=1024):(∀t∈(Lx.aO s).1,t.2.2+t.2.1.size<=s.size)/\0<=(Lx.aO s).2.1/\(Lx.aO s).2.1<=s.size:=by
 have hu:(Lx.aZ s).size<=s.size:=by
  unfold Lx.aZ
  rw[ByteArray.size_extract]
  omega
 unfold Lx.aO
 rw[if_neg (by omega),Lx.rE _ _ _ _ (Nat.zero_le _)]
 refine A8 _ _ _ _ _ ?_ λt ht=>by cases ht
 have:(Lx.aZ s).data.toList.length=(Lx.aZ s).size:=by obtain⟨⟨l⟩⟩:=Lx.aZ s;rfl
 rw[List.drop_zero,this]
 omega
theorem Off.bound {l:List Tok}{o:Int}{m:Nat}(h:∀t∈l,t.2.2+t.2.1.size<=m)(ho:Off l o):0<=o/\o<=m:=by
 rcases ho with⟨a,rfl⟩|rfl
 ·unfold aT
  cases ha:l[a]? with
  |none=>exact⟨Int.le_refl _,by show(0:Int)<=m;omega⟩
  |some t=>
   have:=h t (List.mem_of_getElem? ha)
   exact⟨by show(0:Int)<=(t.2.2:Int);omega,by show(t.2.2:Int)<=m;omega⟩
 ·unfold vU
  cases ha:l.getLast? with
  |none=>exact⟨Int.le_refl _,by show(0:Int)<=m;omega⟩
  |some t=>
   have:=h t (List.mem_of_getLast? ha)
   exact⟨by show(0:Int)<=((t.2.2+t.2.1.size:Nat):Int);omega,by show((t.2.2+t.2.1.size:Nat):Int)<=m;omega⟩
theorem Ab (E:Env)(check:Req->Int)(s:ByteArray)(hs:s.size<=1024):((parse E check s).2.2=0->check (parse E check s).1=0/\(parse E check s).2.1=0)/\((parse E check s).2.2≠0->(parse E check s).1={}/\0<=(parse E check s).2.1/\(parse E check s).2.1<=s.size):=by
 obtain⟨h1,h2,h3⟩:=xz s hs
 unfold parse
 split
 ·rename_i he
  exact⟨λh=>absurd h he,λ_=>⟨rfl,h2,h3⟩⟩
 ·cases hl:line E (Lx.aO s).1 0 with
  |error e=>
   simp only[]
   obtain⟨hb,hz⟩:=aS.line E 0 e hl
   exact⟨λh=>absurd h hz,λ_=>⟨trivial,hb.bound h1⟩⟩
  |ok x=>
   obtain⟨q,b⟩:=x
   simp only[]
   obtain⟨q',hq'⟩:∃q',q'=if q.op=0 then({q with sender:=q.ins.sender,ins:={q.ins with ref:=q.ref} }:Req)else q:=⟨_,rfl⟩
   rw[<-hq']
   by_cases hc:check q'≠0
   ·rw[if_pos hc]
    exact⟨λh=>absurd h hc,λ_=>⟨rfl,Off.bound h1 (.inl ⟨0,rfl⟩)⟩⟩
   ·rw[if_neg hc]
    exact⟨λ_=>⟨by simpa using hc,rfl⟩,λh=>absurd rfl h⟩
end Go.Proofs.YthijakidnkhbnaaGreatDoor.Ps
namespace Go.Proofs.YthijakidnkhbnaaGreatDoor
open Go.RowKit
def cO (tb n cap:Nat)(a e o:Int):Array Value:=#[.slice (some ⟨tb,0,none⟩) n cap,.int .i64 a,.int .i64 e,.int .i64 o]
def ae (W:World)(r tb cap:Nat)(l:List Ps.Tok)(st:Ps.St):Prop:=
 ∃(a e o:Int),W.heap[r]? =some (.cells (cO tb l.length cap a e o) 81 (0,0))/\fH W tb l/\tb≠r/\0<l.length/\l.length<=cap/\l.length<=1000000/\
  (match st with| .ok b=>a=(b:Int)/\e=0/\b<=l.length| .error er=>e=er.2/\o=er.1/\e≠0)
theorem ag {W:World}{r tb n cap:Nat}{a e o:Int}(h:W.heap[r]? =some (.cells (cO tb n cap a e o) 81 (0,0))):
 W.cell? ⟨r,0,none⟩=some (.slice (some ⟨tb,0,none⟩) n cap)/\W.cell? ⟨r,1,none⟩=some (.int .i64 a)/\W.cell? ⟨r,2,none⟩=some (.int .i64 e)/\W.cell? ⟨r,3,none⟩=some (.int .i64 o)/\r<W.heap.size:=by
 refine⟨?_,?_,?_,?_,(Array.getElem?_eq_some_iff.1 h).1⟩
 all_goals rw[cell_of_row _ _ _ _ _ _ h];rfl
theorem ae.drewN {W:World}{r tb cap:Nat}{l:List Ps.Tok}{st:Ps.St}(h:ae W r tb cap l st)(k:Nat):ae (W.drewN k) r tb cap l st:=h
theorem Gb (W:World)(r:Nat)(e n:Int)(k2:W.cell? ⟨r,2,none⟩=some (.int .i64 e))(he:(e==0)=false):
 Calls Tryz.prog 32 #[.pointer (some ⟨r,0,none⟩),.int .i64 n] W λe W'=>e=.returned (.tuple #[])/\∃k,W'=W.drewN k:=by
 go_enter Tryz.func32,Tryz.ntmps32
 go_wp2_with fail
 go_end0
 exact⟨rfl,0,rfl⟩
theorem F9 (W:World)(r tb n cap a:Nat)(o at_ en:Int)(hrow:W.heap[r]? =some (.cells (cO tb n cap a 0 o) 81 (0,0)))(hlt:(a:Int)<(n:Int))(t2:W.cell? ⟨tb,a*3+2,none⟩=some (.int .i64 at_))(hne:tb≠r):
 Calls Tryz.prog 32 #[.pointer (some ⟨r,0,none⟩),.int .i64 en] W λe W'=>e=.returned (.tuple #[])/\W'.heap[r]? =some (.cells (cO tb n cap a en at_) 81 (0,0))/\Tch r r W W':=by
 obtain⟨k0,k1,k2,k3,-⟩:=ag hrow
 have d0:W.drew.cell? ⟨r,0,none⟩=some (.slice (some ⟨tb,0,none⟩) n cap):=k0
 have d1:W.drew.cell? ⟨r,1,none⟩=some (.int .i64 a):=k1
 have d2:W.drew.cell? ⟨tb,a*3+2,none⟩=some (.int .i64 at_):=t2
 have f2:W.drew.frozen? ⟨r,2,none⟩=false:=aJ 2 (w:=W.drew) hrow
 have f3:W.drew.frozen? ⟨r,3,none⟩=false:=aJ 3 (w:=W.drew) hrow
 have f2':=aJ 2 hrow
 have f3':=aJ 3 hrow
 have HR:=Lib.hid hrow
 clear hrow
 go_enter Tryz.func32,Tryz.ntmps32
 go_wp2_with fail
 go_region_law (fail)
 all_goals
  go_end0
  first
   |exact⟨rfl,aN _ r 3 _ _ _ (aN W r 2 _ _ _ HR.out),(((Tch.refl r r W).setCell 2 _).setCell 3 _).drew⟩
   |exact⟨rfl,aN _ r 2 _ _ _ (aN W r 3 _ _ _ HR.out),(((Tch.refl r r W).setCell 3 _).setCell 2 _).drew⟩
theorem gW {W:World}{r tb cap:Nat}{l:List Ps.Tok}{st:Ps.St}(h:ae W r tb cap l st)(n:Int)(hn:n≠0)(hst:∀a,st=.ok a->a<l.length):
 Calls Tryz.prog 32 #[.pointer (some ⟨r,0,none⟩),.int .i64 n] W λe W'=>e=.returned (.tuple #[])/\ae W' r tb cap l (Ps.gM l n st)/\Tch r r W W':=by
 have h0:=h
 obtain⟨a,e,o,hr,ht,hne,hpos,hcap,bE,hs⟩:=h
 cases st with
 |error er=>
  obtain⟨he,ho,hz⟩:=hs
  refine(Gb W r e n (ag hr).2.2.1 (by rw[beq_eq_false_iff_ne];exact hz)).mono ?_
  rintro x w ⟨rfl,k,rfl⟩
  exact⟨rfl,h0,Tch.drewN _ _ _ _⟩
 |ok b=>
  obtain⟨rfl,rfl,hle⟩:=hs
  have hlt:=hst b rfl
  obtain⟨t,eG⟩:∃t,l[b]? =some t:=⟨_,List.getElem?_eq_getElem hlt⟩
  obtain⟨t0,t1,t2⟩:=ht b t eG
  refine(F9 W r tb l.length cap b o t.2.2 n hr (by omega) t2 hne).mono ?_
  rintro x w ⟨rfl,hw,hT⟩
  have hf:Ps.gM l n (.ok b)=.error (t.2.2,n):=by simp only[Ps.gM,Ps.aT,eG]
  rw[hf]
  exact⟨rfl,⟨b,n,_,hw,ht.tch hT hne hne,hne,hpos,hcap,bE,rfl,rfl,hn⟩,hT⟩
theorem Ls (W:World)(r:Nat)(e:Int)(k2:W.cell? ⟨r,2,none⟩=some (.int .i64 e))(he:(e !=0)=true):
 Calls Tryz.prog 27 #[.pointer (some ⟨r,0,none⟩)] W λe W'=>e=.returned (.bool true)/\∃k,W'=W.drewN k:=by
 go_enter Tryz.func27,Tryz.ntmps27
 go_wp2_with fail
 go_ret
 exact⟨rfl,0,rfl⟩
theorem jk (W:World)(r tb n cap a:Nat)(k0:W.cell? ⟨r,0,none⟩=some (.slice (some ⟨tb,0,none⟩) n cap))(k1:W.cell? ⟨r,1,none⟩=some (.int .i64 a))(k2:W.cell? ⟨r,2,none⟩=some (.int .i64 0))(hlt:(a:Int)<(n:Int)):
 Calls Tryz.prog 27 #[.pointer (some ⟨r,0,none⟩)] W λe W'=>e=.returned (.bool false)/\∃k,W'=W.drewN k:=by
 go_enter Tryz.func27,Tryz.ntmps27
 go_wp2_with fail
 go_quiet (fail)
 go_wp2_with fail
 go_ret
 exact⟨rfl,_,rfl⟩
theorem JY (W:World)(r tb n cap a m:Nat)(o kd at_ sz:Int)(t:ByteArray)(hrow:W.heap[r]? =some (.cells (cO tb n cap a 0 o) 81 (0,0)))(hge:¬(a:Int)<(n:Int))(h0:(0:Int)<(n:Int))(hm:(n:Int)-1=(m:Int))(qB:m<n)(hmi:(m:Int)<(n:Int))(hwm:IntKind.i64.wrap (m:Int)=(m:Int))(hmc:n<=cap)
 (x0:W.cell? ⟨tb,m*3,none⟩=some (.int .i64 kd)) (x1:W.cell? ⟨tb,m*3+1,none⟩=some (.string t)) (x2:W.cell? ⟨tb,m*3+2,none⟩=some (.int .i64 at_)) (hne:tb≠r) (hz:(t.size:Int)=sz) (hw:IntKind.i64.wrap (at_+sz)=at_+sz):
 Calls Tryz.prog 27 #[.pointer (some ⟨r,0,none⟩)] W λe W'=>e=.returned (.bool true)/\W'.heap[r]? =some (.cells (cO tb n cap a 4 (at_+sz)) 81 (0,0))/\Tch r r W W':=by
 obtain⟨k0,k1,k2,k3,-⟩:=ag hrow
 have f2:=aJ 2 hrow
 have HR:=Lib.hid hrow
 have X0:=Lib.hid x0
 have X1:=Lib.hid x1
 have X2:=Lib.hid x2
 clear hrow x0 x1 x2 k3
 go_enter Tryz.func27,Tryz.ntmps27
 go_wp2_with fail
 go_quiet (fail)
 go_upto_region 5 with fail
 obtain⟨W1,hW1⟩:∃W1,W1=W.drewN nq:=⟨_,rfl⟩
 have HR1:Hid (W1.heap[r]? =some (.cells (cO tb n cap a 0 o) 81 (0,0))):=Lib.hid (by rw[hW1];exact HR.out)
 have HT1:Hid (Tch r r W W1):=Lib.hid (by rw[hW1];exact Tch.drewN _ _ _ _)
 rw[<-hW1]
 clear hW1 k0 k1 k2 f2
 obtain⟨k0,k1,k2,k3,-⟩:=ag HR1.out
 have f2:=aJ 2 HR1.out
 obtain⟨W2,hW2⟩:∃W2,W2=W1.setCell ⟨r,2,none⟩ (.int .i64 4):=⟨_,rfl⟩
 have HR2:Hid (W2.heap[r]? =some (.cells (cO tb n cap a 4 o) 81 (0,0))):=Lib.hid (by rw[hW2];exact aN W1 r 2 _ _ _ HR1.out)
 have HT2:Hid (Tch r r W W2):=Lib.hid (by rw[hW2];exact HT1.out.setCell 2 _)
 go_upto_region 6 with fail
 rw[<-hW2]
 clear hW2 k0 k1 k2 k3 f2 HR HR1 HT1
 obtain⟨k0,k1,k2,k3,-⟩:=ag HR2.out
 have t0:=HT2.out.cell X0.out hne hne
 have t1:=HT2.out.cell X1.out hne hne
 have t2:=HT2.out.cell X2.out hne hne
 have d0:W2.drew.cell? ⟨r,0,none⟩=some (.slice (some ⟨tb,0,none⟩) n cap):=k0
 have d1:W2.drew.cell? ⟨r,1,none⟩=some (.int .i64 a):=k1
 have e0:W2.drew.cell? ⟨tb,m*3,none⟩=some (.int .i64 kd):=t0
 have e1:W2.drew.cell? ⟨tb,m*3+1,none⟩=some (.string t):=t1
 have e2:W2.drew.cell? ⟨tb,m*3+2,none⟩=some (.int .i64 at_):=t2
 have a0:=λo=>Lib.cell?_alloc_some (W:=W2) o t0
 have a1:=λo=>Lib.cell?_alloc_some (W:=W2) o t1
 have a2:=λo=>Lib.cell?_alloc_some (W:=W2) o t2
 have a3:=λo=>Lib.cell?_alloc_some (W:=W2) o k0
 have a4:=λo=>Lib.cell?_alloc_some (W:=W2) o k1
 go_wp2_with fail
 have hS0:=And.intro k0 (And.intro k1 (And.intro t0 (And.intro t1 t2)))
 go_region_held3 (λw'=>w'.cell? ⟨r,0,none⟩=some (.slice (some ⟨tb,0,none⟩) n cap)/\w'.cell? ⟨r,1,none⟩=some (.int .i64 a)/\w'.cell? ⟨tb,m*3,none⟩=some (.int .i64 kd)/\w'.cell? ⟨tb,m*3+1,none⟩=some (.string t)/\w'.cell? ⟨tb,m*3+2,none⟩=some (.int .i64 at_))
  (first|assumption|exact ps_S5_drew (by assumption)|exact eO (by assumption) _)
  (fail)
 all_goals
  obtain⟨w9,iJ⟩:∃w9,w9=(W2.alloc (Obj.cells #[.int .i64 kd,.string t,.int .i64 at_] 53)).drew:=⟨_,rfl⟩
  obtain⟨q,hq⟩:∃q,q=W2.heap.size:=⟨_,rfl⟩
  have PZ:Below W2.heap.size W2 w9:=by rw[iJ];exact((Below.refl _ _).alloc (Nat.le_refl _) _).drew
  have bu:w9.heap[q]? =some (.cells #[.int .i64 kd,.string t,.int .i64 at_] 53 (0,0)):=by rw[iJ,hq];exact aD W2 _
  have y1:w9.cell? ⟨q,1,none⟩=some (.string t):=by rw[cell_of_row _ _ _ _ _ _ bu];rfl
  have y2:w9.cell? ⟨q,2,none⟩=some (.int .i64 at_):=by rw[cell_of_row _ _ _ _ _ _ bu];rfl
  have HR9:Hid (w9.heap[r]? =some (.cells (cO tb n cap a 4 o) 81 (0,0))):=Lib.hid ((PZ.block r (Array.getElem?_eq_some_iff.1 HR2.out).1).trans HR2.out)
  have za:Hid (Tch r r W w9):=Lib.hid (HT2.out.trans (Tch.of_below PZ))
  obtain⟨j0,j1,j2,j3,-⟩:=ag HR9.out
  have f3:=aJ 3 HR9.out
  rw[<-iJ,<-hq]
  clear bu iJ hq PZ d0 d1 e0 e1 e2 a0 a1 a2 a3 a4 k0 k1 k2 k3 t0 t1 t2 hS0
  go_wp2_with fail
  go_ret
  exact⟨rfl,aN w9 r 3 _ _ _ HR9.out,za.out.setCell 3 _⟩
theorem oV {W:World}{r tb cap:Nat}{l:List Ps.Tok}{st:Ps.St}(h:ae W r tb cap l st)(hl:bF l):
 Calls Tryz.prog 27 #[.pointer (some ⟨r,0,none⟩)] W λe W'=>e=.returned (.bool (!Ps.bA l st))/\ae W' r tb cap l (Ps.bJ l st)/\Tch r r W W':=by
 have h0:=h
 obtain⟨a,e,o,hr,ht,hne,hpos,hcap,bE,hst⟩:=h
 obtain⟨k0,k1,k2,k3,-⟩:=ag hr
 cases st with
 |ok b=>
  obtain⟨rfl,rfl,hle⟩:=hst
  by_cases hlt:b<l.length
  ·have e1:Ps.bA l (.ok b)=true:=by simp[Ps.bA,hlt]
   have e2:Ps.bJ l (.ok b)=.ok b:=by simp[Ps.bJ,hlt]
   rw[e1,e2]
   refine(jk W r tb l.length cap b k0 k1 k2 (by omega)).mono ?_
   rintro x w ⟨rfl,k,rfl⟩
   exact⟨rfl,h0,Tch.drewN _ _ _ _⟩
  ·have e1:Ps.bA l (.ok b)=false:=by simp[Ps.bA];omega
   have e2:Ps.bJ l (.ok b)=.error (Ps.short l):=by simp[Ps.bJ,hlt]
   rw[e1,e2]
   obtain⟨m,hm⟩:∃m,l.length=m+1:=⟨l.length-1,by omega⟩
   obtain⟨t,htm⟩:∃t,l[m]? =some t:=⟨_,List.getElem?_eq_getElem (by omega)⟩
   obtain⟨t0,t1,t2⟩:=ht m t htm
   have hok:=hl t (List.mem_of_getElem? htm)
   have hend:Ps.short l=(((t.2.2:Int)+(t.2.1.size:Int)),4):=by
    unfold Ps.short Ps.vU
    rw[List.getLast?_eq_getElem?,show l.length-1=m from by omega,htm]
    simp
   refine(JY W r tb l.length cap b m o t.1 t.2.2 t.2.1.size t.2.1 hr (by omega) (by omega) (by omega) (by omega) (by omega) (IntWalk.i64_in _ (by omega)) hcap t0 t1 t2 hne rfl (IntWalk.i64_in _ (by omega))).mono ?_
   rintro x w ⟨rfl,hw,hT⟩
   refine⟨rfl,⟨b,4,_,hw,ht.tch hT hne hne,hne,hpos,hcap,bE,?_⟩,hT⟩
   rw[hend]
   exact⟨rfl,rfl,by decide⟩
 |error er=>
  obtain⟨he,ho,hz⟩:=hst
  refine(Ls W r e k2 (by simp[hz])).mono ?_
  rintro x w ⟨rfl,k,rfl⟩
  exact⟨rfl,h0,Tch.drewN _ _ _ _⟩
theorem OJ (W:World)(r:Nat)(e:Int)(s:ByteArray)(k2:W.cell? ⟨r,2,none⟩=some (.int .i64 e))(he:(e==0)=false):
 Calls Tryz.prog 70 #[.pointer (some ⟨r,0,none⟩),.string s] W λe W'=>e=.returned (.bool false)/\∃k,W'=W.drewN k:=by
 go_enter Tryz.func70,Tryz.ntmps70
 go_wp2_with fail
 go_quiet (fail)
 go_wp2_with fail
 go_ret
 exact⟨rfl,_,rfl⟩
theorem KR (W:World)(r tb n cap a:Nat)(s:ByteArray)(k0:W.cell? ⟨r,0,none⟩=some (.slice (some ⟨tb,0,none⟩) n cap))(k1:W.cell? ⟨r,1,none⟩=some (.int .i64 a))(k2:W.cell? ⟨r,2,none⟩=some (.int .i64 0))(hge:¬a<n):
 Calls Tryz.prog 70 #[.pointer (some ⟨r,0,none⟩),.string s] W λe W'=>e=.returned (.bool false)/\∃k,W'=W.drewN k:=by
 go_enter Tryz.func70,Tryz.ntmps70
 go_wp2_with fail
 go_quiet (fail)
 go_wp2_with fail
 go_ret
 exact⟨rfl,_,rfl⟩
theorem Hw (W:World)(r tb n cap a:Nat)(s:ByteArray)(kd:Int)(k0:W.cell? ⟨r,0,none⟩=some (.slice (some ⟨tb,0,none⟩) n cap))(k1:W.cell? ⟨r,1,none⟩=some (.int .i64 a))(k2:W.cell? ⟨r,2,none⟩=some (.int .i64 0))(hlt:(a:Int)<(n:Int))(qB:a<n)(hmc:n<=cap)
 (t0:W.cell? ⟨tb,a*3,none⟩=some (.int .i64 kd)) (hkd:(kd==0)=false):
 Calls Tryz.prog 70 #[.pointer (some ⟨r,0,none⟩),.string s] W λe W'=>e=.returned (.bool false)/\∃k,W'=W.drewN k:=by
 go_enter Tryz.func70,Tryz.ntmps70
 go_wp2_with fail
 go_quiet (fail)
 go_wp2_with fail
 go_ret
 exact⟨rfl,_,rfl⟩
theorem Gr (W:World)(r tb n cap a:Nat)(s t:ByteArray)(k0:W.cell? ⟨r,0,none⟩=some (.slice (some ⟨tb,0,none⟩) n cap))(k1:W.cell? ⟨r,1,none⟩=some (.int .i64 a))(k2:W.cell? ⟨r,2,none⟩=some (.int .i64 0))(hlt:(a:Int)<(n:Int))(qB:a<n)(hmc:n<=cap)
 (t0:W.cell? ⟨tb,a*3,none⟩=some (.int .i64 0)) (t1:W.cell? ⟨tb,a*3+1,none⟩=some (.string t)):
 Calls Tryz.prog 70 #[.pointer (some ⟨r,0,none⟩),.string s] W λe W'=>e=.returned (.bool (t.toList==s.toList))/\∃k,W'=W.drewN k:=by
 go_enter Tryz.func70,Tryz.ntmps70
 go_wp2_with fail
 go_quiet (fail)
 go_wp2_with fail
 go_ret
 exact⟨rfl,_,rfl⟩
def d9 (l:List Ps.Tok)(st:Ps.St)(s:Ps.Bs):Bool:=match st with
 | .ok a=>match l[a]? with
   |some t=>decide (t.1=0/\t.2.1.data.toList=s)
   |none=>false
 | .error _=>false
theorem F4 {W:World}{r tb cap:Nat}{l:List Ps.Tok}{st:Ps.St}(h:ae W r tb cap l st)(s:ByteArray):
 Calls Tryz.prog 70 #[.pointer (some ⟨r,0,none⟩),.string s] W λe W'=>e=.returned (.bool (d9 l st s.data.toList))/\∃k,W'=W.drewN k:=by
 obtain⟨a,e,o,hr,ht,hne,hpos,hcap,bE,hst⟩:=h
 obtain⟨k0,k1,k2,k3,-⟩:=ag hr
 cases st with
 |error er=>
  obtain⟨he,ho,hz⟩:=hst
  exact OJ W r e s k2 (by rw[beq_eq_false_iff_ne];exact hz)
 |ok b=>
  obtain⟨rfl,rfl,hle⟩:=hst
  by_cases hlt:b<l.length
  ·obtain⟨t,eG⟩:∃t,l[b]? =some t:=⟨_,List.getElem?_eq_getElem hlt⟩
   obtain⟨t0,t1,t2⟩:=ht b t eG
   by_cases hk:t.1=0
   ·have hv:d9 l (.ok b) s.data.toList=(t.2.1.toList==s.toList):=by
     simp only[d9,eG,hk,true_and]
     rw[Bool.eq_iff_iff,decide_eq_true_iff,beq_iff_eq,Lib.toList_data,Lib.toList_data]
    rw[hv]
    exact Gr W r tb l.length cap b s t.2.1 k0 k1 k2 (by omega) hlt hcap (by rw[<-hk];exact t0) t1
   ·have hv:d9 l (.ok b) s.data.toList=false:=by simp[d9,eG,hk]
    rw[hv]
    exact Hw W r tb l.length cap b s t.1 k0 k1 k2 (by omega) hlt hcap t0 (by rw[beq_eq_false_iff_ne];exact hk)
  ·have hv:d9 l (.ok b) s.data.toList=false:=by simp[d9,List.getElem?_eq_none (Nat.le_of_not_lt hlt)]
   rw[hv]
   exact KR W r tb l.length cap b s k0 k1 k2 hlt
theorem dC (l:List Ps.Tok)(a:Nat)(s:Ps.Bs)(hs:s≠[]):d9 l (.ok a) s=decide ((Ps.aW l a).data.toList=s):=by
 unfold d9 Ps.aW
 cases h:l[a]? with
 |none=>simp[h,Ne.symm hs]
 |some t=>
  by_cases hk:t.1=0
  ·simp[h,hk]
  ·simp[h,hk,Ne.symm hs]
theorem IU (W:World)(r:Nat)(s:ByteArray)(P:World->Prop)
 (n1:Calls Tryz.prog 27 #[.pointer (some ⟨r,0,none⟩)] W λe W'=>e=.returned (.bool true)/\P W'):
 Calls Tryz.prog 30 #[.pointer (some ⟨r,0,none⟩),.string s] W λe W'=>e=.returned (.tuple #[])/\P W':=by
 go_enter Tryz.func30,Tryz.ntmps30
 go_wp2_with fail
 refine n1.mono ?_
 rintro x w ⟨rfl,hp⟩
 clear n1
 go_wp2_with fail
 refine bodyPost_ret (results_none rfl _ _ _) rfl ?_
 exact⟨rfl,hp⟩
theorem Dm (W:World)(r:Nat)(s:ByteArray)(T P:World->Prop)
 (n1:Calls Tryz.prog 27 #[.pointer (some ⟨r,0,none⟩)] W λe W'=>e=.returned (.bool false)/\T W')
 (n2:Hid (∀w,T w->Calls Tryz.prog 70 #[.pointer (some ⟨r,0,none⟩),.string s] w λe W'=>e=.returned (.bool false)/\T W'))
 (n3:Hid (∀w,T w->Calls Tryz.prog 32 #[.pointer (some ⟨r,0,none⟩),.int .i64 30] w λe W'=>e=.returned (.tuple #[])/\P W')):
 Calls Tryz.prog 30 #[.pointer (some ⟨r,0,none⟩),.string s] W λe W'=>e=.returned (.tuple #[])/\P W':=by
 go_enter Tryz.func30,Tryz.ntmps30
 go_wp2_with fail
 refine n1.mono ?_
 rintro x w ⟨rfl,ht⟩
 have m2:=n2.out w ht
 clear n1 n2
 go_wp2_with fail
 refine m2.mono ?_
 rintro x w2 ⟨rfl,ht2⟩
 have m3:=n3.out w2 ht2
 clear m2 n3
 go_wp2_with fail
 refine m3.mono ?_
 rintro x w3 ⟨rfl,hp⟩
 clear m3
 go_wp2_with fail
 refine bodyPost_ret (results_none rfl _ _ _) rfl ?_
 exact⟨rfl,hp⟩
theorem I6 (W:World)(r tb n cap a:Nat)(o:Int)(s:ByteArray)(T:World->Prop)(hw1:wrap64 ((a:Int)+1)=((a+1:Nat):Int))
 (hT:Hid (∀w,T w->w.heap[r]? =some (.cells (cO tb n cap a 0 o) 81 (0,0))/\Tch r r W w))
 (n1:Calls Tryz.prog 27 #[.pointer (some ⟨r,0,none⟩)] W λe W'=>e=.returned (.bool false)/\T W')
 (n2:Hid (∀w,T w->Calls Tryz.prog 70 #[.pointer (some ⟨r,0,none⟩),.string s] w λe W'=>e=.returned (.bool true)/\T W')):
 Calls Tryz.prog 30 #[.pointer (some ⟨r,0,none⟩),.string s] W λe W'=>e=.returned (.tuple #[])/\W'.heap[r]? =some (.cells (cO tb n cap ((a+1:Nat):Int) 0 o) 81 (0,0))/\Tch r r W W':=by
 go_enter Tryz.func30,Tryz.ntmps30
 go_wp2_with fail
 refine n1.mono ?_
 rintro x w ⟨rfl,ht⟩
 have m2:=n2.out w ht
 clear n1 n2
 go_wp2_with fail
 refine m2.mono ?_
 rintro x w2 ⟨rfl,ht2⟩
 obtain⟨hr,hc⟩:=hT.out w2 ht2
 have k1:=(ag hr).2.1
 have f1:=aJ 1 hr
 have HR:=Lib.hid hr
 have HC:=Lib.hid hc
 clear m2 hT hr hc ht ht2
 go_wp2_with fail
 go_end0
 refine⟨rfl,?_,HC.out.setCell 1 _⟩
 have h:=aN w2 r 1 _ _ (.int .i64 ((a+1:Nat):Int)) HR.out
 first|exact h|(rw[hw1];exact h)|(show(w2.setCell ⟨r,1,none⟩ (.int .i64 (wrap64 ((a:Int)+1)))).heap[r]? =_;rw[hw1];exact h)
theorem OW {W:World}{r tb cap:Nat}{l:List Ps.Tok}{st:Ps.St}(h:ae W r tb cap l st)(hl:bF l)(s:ByteArray)(hsn:s.data.toList≠[]):
 Calls Tryz.prog 30 #[.pointer (some ⟨r,0,none⟩),.string s] W λe W'=>e=.returned (.tuple #[])/\ae W' r tb cap l (Ps.step (Ps.word l s.data.toList) () st).2/\Tch r r W W':=by
 have n1:=oV h hl
 cases hb:Ps.bA l st with
 |false=>
  rw[hb]at n1
  have e1:Ps.bJ l st=(Ps.step (Ps.word l s.data.toList) () st).2:=by
   cases st with
   |error er=>rfl
   |ok a=>
    have hge:l.length<=a:=by simpa[Ps.bA]using hb
    have hw:Ps.word l s.data.toList a=.error (Ps.short l):=by unfold Ps.word;rw[if_pos hge]
    rw[Ps.aX hw]
    simp[Ps.bJ,Nat.not_lt.2 hge]
  rw[e1]at n1
  exact IU W r s _ n1
 |true=>
  cases st with
  |error er=>cases hb
  |ok a=>
   have hlt:a<l.length:=by simpa[Ps.bA]using hb
   have e2:Ps.bJ l (.ok a)=.ok a:=by simp[Ps.bJ,hlt]
   rw[hb,e2]at n1
   have n2:∀w,(ae w r tb cap l (.ok a)/\Tch r r W w)->Calls Tryz.prog 70 #[.pointer (some ⟨r,0,none⟩),.string s] w λe W'=>e=.returned (.bool (decide ((Ps.aW l a).data.toList=s.data.toList)))/\(ae W' r tb cap l (.ok a)/\Tch r r W W'):=λw hw=>
    (F4 hw.1 s).mono λe W' ⟨h1,k,h2⟩=>⟨by rw[h1,dC l a _ hsn],by rw[h2];exact hw.1,by rw[h2];exact hw.2.trans (Tch.drewN _ _ _ _)⟩
   by_cases hp:(Ps.aW l a).data.toList=s.data.toList
   ·have hw:Ps.word l s.data.toList a=.ok ((),a+1):=by unfold Ps.word;rw[if_neg (by omega),if_pos hp]
    rw[Ps.step_ok hw]
    obtain⟨a',e,o,hr,ht,hne,hpos,hcap,bE,hs⟩:=h
    obtain⟨rfl,rfl,hle⟩:=hs
    obtain⟨k0,k1,k2,k3,-⟩:=ag hr
    have back:∀w,(w.heap[r]? =some (.cells (cO tb l.length cap a 0 o) 81 (0,0))/\Tch r r W w)->ae w r tb cap l (.ok a):=λw hw=>
     ⟨a,0,o,hw.1,ht.tch hw.2 hne hne,hne,hpos,hcap,bE,rfl,rfl,hle⟩
    refine(I6 W r tb l.length cap a o s (λw=>w.heap[r]? =some (.cells (cO tb l.length cap a 0 o) 81 (0,0))/\Tch r r W w) (by unfold wrap64;omega) (Lib.hid λw hw=>hw) ?_ (Lib.hid λw hw=>?_)).mono ?_
    ·refine(jk W r tb l.length cap a k0 k1 k2 (by omega)).mono ?_
     rintro x w ⟨rfl,k,rfl⟩
     exact⟨rfl,hr,Tch.drewN _ _ _ _⟩
    ·refine(F4 (back w hw) s).mono ?_
     rintro x w2 ⟨rfl,k,rfl⟩
     rw[dC l a _ hsn,decide_eq_true hp]
     exact⟨rfl,hw.1,hw.2.trans (Tch.drewN _ _ _ _)⟩
    ·rintro x w ⟨rfl,hw,hT⟩
     exact⟨rfl,⟨_,0,o,hw,ht.tch hT hne hne,hne,hpos,hcap,bE,rfl,rfl,hlt⟩,hT⟩
   ·have hw:Ps.word l s.data.toList a=.error (Ps.aT l a,30):=by unfold Ps.word;rw[if_neg (by omega),if_neg hp]
    rw[Ps.aX hw]
    simp only[decide_eq_false hp]at n2
    refine Dm W r s (λw=>ae w r tb cap l (.ok a)/\Tch r r W w) _ n1 (Lib.hid n2) (Lib.hid λw hw=>?_)
    refine(gW hw.1 30 (by decide) (λb hb=>by cases hb;exact hlt)).mono ?_
    rintro e W' ⟨h1,h2,h3⟩
    exact⟨h1,h2,hw.2.trans h3⟩
def dx (W:World)(r tb n cap a:Nat)(o:Int)(kd:Int)(t:ByteArray)(w:World):Prop:=
 w.heap[r]? =some (.cells (cO tb n cap a 0 o) 81 (0,0))/\
 (w.cell? ⟨tb,a*3,none⟩=some (.int .i64 kd)/\w.cell? ⟨tb,a*3+1,none⟩=some (.string t))/\Tch r r W w
theorem dx.drewN {W:World}{r tb n cap a:Nat}{o kd:Int}{t:ByteArray}{w:World}(h:dx W r tb n cap a o kd t w)(k:Nat):dx W r tb n cap a o kd t (w.drewN k):=⟨h.1,h.2.1,h.2.2.trans (Tch.drewN _ _ _ _)⟩
theorem Gi (W:World)(r:Nat)(P:World->Prop)
 (n1:Calls Tryz.prog 27 #[.pointer (some ⟨r,0,none⟩)] W λe W'=>e=.returned (.bool true)/\P W'):
 Calls Tryz.prog 68 #[.pointer (some ⟨r,0,none⟩)] W λe W'=>e=.returned (.int .i64 0)/\P W':=by
 go_enter Tryz.func68,Tryz.ntmps68
 go_wp2_with fail
 refine n1.mono ?_
 rintro x w ⟨rfl,hp⟩
 clear n1
 go_wp2_with fail
 go_ret
 exact⟨rfl,hp⟩
theorem EL (W:World)(r tb n cap a:Nat)(o kd:Int)(t:ByteArray)(v e:Int)(he:(e !=0)=true)(hlt:(a:Int)<(n:Int))(qB:a<n)(hmc:n<=cap)(P:World->Prop)
 (n1:Calls Tryz.prog 27 #[.pointer (some ⟨r,0,none⟩)] W λe W'=>e=.returned (.bool false)/\dx W r tb n cap a o kd t W')
 (nc:Hid (∀w,Calls Tryz.prog 110 #[.string t] w λx w'=>x=.returned (.tuple #[.int .i64 v,.int .i64 e])/\w'=w))
 (n3:Hid (∀w,dx W r tb n cap a o kd t w->Calls Tryz.prog 32 #[.pointer (some ⟨r,0,none⟩),.int .i64 e] w λe W'=>e=.returned (.tuple #[])/\P W')):
 Calls Tryz.prog 68 #[.pointer (some ⟨r,0,none⟩)] W λe W'=>e=.returned (.int .i64 0)/\P W':=by
 go_enter Tryz.func68,Tryz.ntmps68
 go_wp2_with fail
 refine n1.mono ?_
 rintro x w ⟨rfl,hT⟩
 have HT:=Lib.hid hT
 obtain⟨hr,⟨t0,t1⟩,-⟩:=hT
 obtain⟨k0,k1,k2,k3,-⟩:=ag hr
 clear n1 hr
 go_wp2_with fail
 go_quiet (first|(go_at_call 110;exact Calls.quiet_of_same (nc.out _)))
 have m3:=n3.out _ (HT.out.drewN nq)
 clear n3
 go_wp2_with fail
 refine m3.mono ?_
 rintro x w2 ⟨rfl,hp⟩
 clear m3
 go_wp2_with fail
 go_ret
 exact⟨rfl,hp⟩
theorem Gq (W:World)(r tb n cap a:Nat)(o kd:Int)(t:ByteArray)(v:Int)(hw1:wrap64 ((a:Int)+1)=((a+1:Nat):Int))(hlt:(a:Int)<(n:Int))(qB:a<n)(hmc:n<=cap)
 (n1:Calls Tryz.prog 27 #[.pointer (some ⟨r,0,none⟩)] W λe W'=>e=.returned (.bool false)/\dx W r tb n cap a o kd t W')
 (nc:Hid (∀w,Calls Tryz.prog 110 #[.string t] w λx w'=>x=.returned (.tuple #[.int .i64 v,.int .i64 0])/\w'=w)):
 Calls Tryz.prog 68 #[.pointer (some ⟨r,0,none⟩)] W λe W'=>e=.returned (.int .i64 v)/\W'.heap[r]? =some (.cells (cO tb n cap ((a+1:Nat):Int) 0 o) 81 (0,0))/\Tch r r W W':=by
 go_enter Tryz.func68,Tryz.ntmps68
 go_wp2_with fail
 refine n1.mono ?_
 rintro x w ⟨rfl,hT⟩
 have HT:=Lib.hid hT
 obtain⟨hr,⟨t0,t1⟩,-⟩:=hT
 obtain⟨k0,k1,k2,k3,-⟩:=ag hr
 have f1:=aJ 1 hr
 clear n1 hr
 go_wp2_with fail
 go_quiet (first|(go_at_call 110;exact Calls.quiet_of_same (nc.out _)))
 go_wp2_with fail
 go_ret
 refine⟨rfl,?_,(HT.out.drewN nq).2.2.setCell 1 _⟩
 have h:=aN _ r 1 _ _ (.int .i64 ((a+1:Nat):Int)) HT.out.1
 first|exact h|(rw[hw1];exact h)|(rw[<-hw1]at h;exact h)
theorem BF (W:World)(r:Nat)(P:World->Prop)
 (n1:Calls Tryz.prog 27 #[.pointer (some ⟨r,0,none⟩)] W λe W'=>e=.returned (.bool true)/\P W'):
 Calls Tryz.prog 69 #[.pointer (some ⟨r,0,none⟩)] W λe W'=>e=.returned (.int .i64 0)/\P W':=by
 go_enter Tryz.func69,Tryz.ntmps69
 go_wp2_with fail
 refine n1.mono ?_
 rintro x w ⟨rfl,hp⟩
 clear n1
 go_wp2_with fail
 go_ret
 exact⟨rfl,hp⟩
theorem zF (W:World)(r tb n cap a:Nat)(o kd:Int)(t:ByteArray)(v e:Int)(he:(e !=0)=true)(hlt:(a:Int)<(n:Int))(qB:a<n)(hmc:n<=cap)(P:World->Prop)
 (n1:Calls Tryz.prog 27 #[.pointer (some ⟨r,0,none⟩)] W λe W'=>e=.returned (.bool false)/\dx W r tb n cap a o kd t W')
 (nc:Hid (∀w,Calls Tryz.prog 111 #[.string t] w λx w'=>x=.returned (.tuple #[.int .i64 v,.int .i64 e])/\w'=w))
 (n3:Hid (∀w,dx W r tb n cap a o kd t w->Calls Tryz.prog 32 #[.pointer (some ⟨r,0,none⟩),.int .i64 e] w λe W'=>e=.returned (.tuple #[])/\P W')):
 Calls Tryz.prog 69 #[.pointer (some ⟨r,0,none⟩)] W λe W'=>e=.returned (.int .i64 0)/\P W':=by
 go_enter Tryz.func69,Tryz.ntmps69
 go_wp2_with fail
 refine n1.mono ?_
 rintro x w ⟨rfl,hT⟩
 have HT:=Lib.hid hT
 obtain⟨hr,⟨t0,t1⟩,-⟩:=hT
 obtain⟨k0,k1,k2,k3,-⟩:=ag hr
 clear n1 hr
 go_wp2_with fail
 go_quiet (first|(go_at_call 111;exact Calls.quiet_of_same (nc.out _)))
 have m3:=n3.out _ (HT.out.drewN nq)
 clear n3
 go_wp2_with fail
 refine m3.mono ?_
 rintro x w2 ⟨rfl,hp⟩
 clear m3
 go_wp2_with fail
 go_ret
 exact⟨rfl,hp⟩
theorem AX (W:World)(r tb n cap a:Nat)(o kd:Int)(t:ByteArray)(v:Int)(hw1:wrap64 ((a:Int)+1)=((a+1:Nat):Int))(hlt:(a:Int)<(n:Int))(qB:a<n)(hmc:n<=cap)
 (n1:Calls Tryz.prog 27 #[.pointer (some ⟨r,0,none⟩)] W λe W'=>e=.returned (.bool false)/\dx W r tb n cap a o kd t W')
 (nc:Hid (∀w,Calls Tryz.prog 111 #[.string t] w λx w'=>x=.returned (.tuple #[.int .i64 v,.int .i64 0])/\w'=w)):
 Calls Tryz.prog 69 #[.pointer (some ⟨r,0,none⟩)] W λe W'=>e=.returned (.int .i64 v)/\W'.heap[r]? =some (.cells (cO tb n cap ((a+1:Nat):Int) 0 o) 81 (0,0))/\Tch r r W W':=by
 go_enter Tryz.func69,Tryz.ntmps69
 go_wp2_with fail
 refine n1.mono ?_
 rintro x w ⟨rfl,hT⟩
 have HT:=Lib.hid hT
 obtain⟨hr,⟨t0,t1⟩,-⟩:=hT
 obtain⟨k0,k1,k2,k3,-⟩:=ag hr
 have f1:=aJ 1 hr
 clear n1 hr
 go_wp2_with fail
 go_quiet (first|(go_at_call 111;exact Calls.quiet_of_same (nc.out _)))
 go_wp2_with fail
 go_ret
 refine⟨rfl,?_,(HT.out.drewN nq).2.2.setCell 1 _⟩
 have h:=aN _ r 1 _ _ (.int .i64 ((a+1:Nat):Int)) HT.out.1
 first|exact h|(rw[hw1];exact h)|(rw[<-hw1]at h;exact h)
theorem OO {W:World}{r tb cap:Nat}{l:List Ps.Tok}{st:Ps.St}(h:ae W r tb cap l st)(hl:bF l)(E:Ps.Env)(_hz:∀t∈l,t.1≠3->(E.cash t.2.1).2=30)
 (nc:∀t∈l,∀w,Calls Tryz.prog 110 #[.string t.2.1] w λx w'=>x=.returned (.tuple #[.int .i64 (E.cash t.2.1).1,.int .i64 (E.cash t.2.1).2])/\w'=w):
 Calls Tryz.prog 68 #[.pointer (some ⟨r,0,none⟩)] W λe W'=>e=.returned (.int .i64 (Ps.step (Ps.cash E l) 0 st).1)/\ae W' r tb cap l (Ps.step (Ps.cash E l) 0 st).2/\Tch r r W W':=by
 have n1:=oV h hl
 cases hb:Ps.bA l st with
 |false=>
  rw[hb]at n1
  have e1:Ps.bJ l st=(Ps.step (Ps.cash E l) 0 st).2/\(Ps.step (Ps.cash E l) 0 st).1=0:=by
   cases st with
   |error er=>exact⟨rfl,rfl⟩
   |ok a=>
    have hge:l.length<=a:=by simpa[Ps.bA]using hb
    have hw:Ps.cash E l a=.error (Ps.short l):=by unfold Ps.cash Ps.take;rw[List.getElem?_eq_none hge]
    rw[Ps.aX hw]
    exact⟨by simp[Ps.bJ,Nat.not_lt.2 hge],rfl⟩
  rw[e1.1]at n1
  rw[e1.2]
  exact Gi W r _ n1
 |true=>
  cases st with
  |error er=>cases hb
  |ok a=>
   have hlt:a<l.length:=by simpa[Ps.bA]using hb
   obtain⟨t,eG⟩:∃t,l[a]? =some t:=⟨_,List.getElem?_eq_getElem hlt⟩
   have hmem:=List.mem_of_getElem? eG
   have hc:=nc t hmem
   have hz:=_hz t hmem
   obtain⟨a',e,o,hr,ht,hne,hpos,hcap,bE,hs⟩:=h
   obtain⟨rfl,rfl,hle⟩:=hs
   obtain⟨k0,k1,k2,k3,-⟩:=ag hr
   obtain⟨t0,t1,t2⟩:=ht a t eG
   have m1:Calls Tryz.prog 27 #[.pointer (some ⟨r,0,none⟩)] W λe W'=>e=.returned (.bool false)/\dx W r tb l.length cap a o t.1 t.2.1 W':=by
    refine(jk W r tb l.length cap a k0 k1 k2 (by omega)).mono ?_
    rintro x w ⟨rfl,k,rfl⟩
    exact⟨rfl,hr,⟨t0,t1⟩,Tch.drewN _ _ _ _⟩
   have back:∀w,dx W r tb l.length cap a o t.1 t.2.1 w->ae w r tb cap l (.ok a)/\Tch r r W w:=λw hw=>
    ⟨⟨a,0,o,hw.1,ht.tch hw.2.2 hne hne,hne,hpos,hcap,bE,rfl,rfl,hle⟩,hw.2.2⟩
   by_cases he:(E.cash t.2.1).2=0
   ·have hk:t.1=3:=by
     by_cases hk:t.1=3
     ·exact hk
     ·have:=hz hk;omega
    have hw:Ps.cash E l a=.ok ((E.cash t.2.1).1,a+1):=by simp[Ps.cash,Ps.take,eG,hk,he]
    rw[Ps.step_ok hw]
    rw[he]at hc
    refine(Gq W r tb l.length cap a o t.1 t.2.1 (E.cash t.2.1).1 (by unfold wrap64;omega) (by omega) hlt hcap m1 (Lib.hid hc)).mono ?_
    rintro x w ⟨rfl,hw,hT⟩
    exact⟨rfl,⟨_,0,o,hw,ht.tch hT hne hne,hne,hpos,hcap,bE,rfl,rfl,hlt⟩,hT⟩
   ·have hw:Ps.cash E l a=.error (Ps.aT l a,(E.cash t.2.1).2):=by
     by_cases hk:t.1=3
     ·simp[Ps.cash,Ps.take,eG,hk,he]
     ·simp[Ps.cash,Ps.take,eG,hk,hz hk,Ps.fM]
    rw[Ps.aX hw]
    refine EL W r tb l.length cap a o t.1 t.2.1 (E.cash t.2.1).1 (E.cash t.2.1).2 (by simp[he]) (by omega) hlt hcap _ m1 (Lib.hid hc) (Lib.hid λw hw=>?_)
    refine(gW (back w hw).1 _ he (λb hb=>by cases hb;exact hlt)).mono ?_
    rintro e W' ⟨h1,h2,h3⟩
    exact⟨h1,h2,(back w hw).2.trans h3⟩
theorem Hu {W:World}{r tb cap:Nat}{l:List Ps.Tok}{st:Ps.St}(h:ae W r tb cap l st)(hl:bF l)(E:Ps.Env)(_hz:∀t∈l,t.1≠2->(E.number t.2.1).2=30)
 (nc:∀t∈l,∀w,Calls Tryz.prog 111 #[.string t.2.1] w λx w'=>x=.returned (.tuple #[.int .i64 (E.number t.2.1).1,.int .i64 (E.number t.2.1).2])/\w'=w):
 Calls Tryz.prog 69 #[.pointer (some ⟨r,0,none⟩)] W λe W'=>e=.returned (.int .i64 (Ps.step (Ps.quantity E l) 0 st).1)/\ae W' r tb cap l (Ps.step (Ps.quantity E l) 0 st).2/\Tch r r W W':=by
 have n1:=oV h hl
 cases hb:Ps.bA l st with
 |false=>
  rw[hb]at n1
  have e1:Ps.bJ l st=(Ps.step (Ps.quantity E l) 0 st).2/\(Ps.step (Ps.quantity E l) 0 st).1=0:=by
   cases st with
   |error er=>exact⟨rfl,rfl⟩
   |ok a=>
    have hge:l.length<=a:=by simpa[Ps.bA]using hb
    have hw:Ps.quantity E l a=.error (Ps.short l):=by unfold Ps.quantity Ps.take;rw[List.getElem?_eq_none hge]
    rw[Ps.aX hw]
    exact⟨by simp[Ps.bJ,Nat.not_lt.2 hge],rfl⟩
  rw[e1.1]at n1
  rw[e1.2]
  exact BF W r _ n1
 |true=>
  cases st with
  |error er=>cases hb
  |ok a=>
   have hlt:a<l.length:=by simpa[Ps.bA]using hb
   obtain⟨t,eG⟩:∃t,l[a]? =some t:=⟨_,List.getElem?_eq_getElem hlt⟩
   have hmem:=List.mem_of_getElem? eG
   have hc:=nc t hmem
   have hz:=_hz t hmem
   obtain⟨a',e,o,hr,ht,hne,hpos,hcap,bE,hs⟩:=h
   obtain⟨rfl,rfl,hle⟩:=hs
   obtain⟨k0,k1,k2,k3,-⟩:=ag hr
   obtain⟨t0,t1,t2⟩:=ht a t eG
   have m1:Calls Tryz.prog 27 #[.pointer (some ⟨r,0,none⟩)] W λe W'=>e=.returned (.bool false)/\dx W r tb l.length cap a o t.1 t.2.1 W':=by
    refine(jk W r tb l.length cap a k0 k1 k2 (by omega)).mono ?_
    rintro x w ⟨rfl,k,rfl⟩
    exact⟨rfl,hr,⟨t0,t1⟩,Tch.drewN _ _ _ _⟩
   have back:∀w,dx W r tb l.length cap a o t.1 t.2.1 w->ae w r tb cap l (.ok a)/\Tch r r W w:=λw hw=>
    ⟨⟨a,0,o,hw.1,ht.tch hw.2.2 hne hne,hne,hpos,hcap,bE,rfl,rfl,hle⟩,hw.2.2⟩
   by_cases he:(E.number t.2.1).2=0
   ·have hk:t.1=2:=by
     by_cases hk:t.1=2
     ·exact hk
     ·have:=hz hk;omega
    have hw:Ps.quantity E l a=.ok ((E.number t.2.1).1,a+1):=by simp[Ps.quantity,Ps.take,eG,hk,he]
    rw[Ps.step_ok hw]
    rw[he]at hc
    refine(AX W r tb l.length cap a o t.1 t.2.1 (E.number t.2.1).1 (by unfold wrap64;omega) (by omega) hlt hcap m1 (Lib.hid hc)).mono ?_
    rintro x w ⟨rfl,hw,hT⟩
    exact⟨rfl,⟨_,0,o,hw,ht.tch hT hne hne,hne,hpos,hcap,bE,rfl,rfl,hlt⟩,hT⟩
   ·have hw:Ps.quantity E l a=.error (Ps.aT l a,(E.number t.2.1).2):=by
     by_cases hk:t.1=2
     ·simp[Ps.quantity,Ps.take,eG,hk,he]
     ·simp[Ps.quantity,Ps.take,eG,hk,hz hk,Ps.fM]
    rw[Ps.aX hw]
    refine zF W r tb l.length cap a o t.1 t.2.1 (E.number t.2.1).1 (E.number t.2.1).2 (by simp[he]) (by omega) hlt hcap _ m1 (Lib.hid hc) (Lib.hid λw hw=>?_)
    refine(gW (back w hw).1 _ he (λb hb=>by cases hb;exact hlt)).mono ?_
    rintro e W' ⟨h1,h2,h3⟩
    exact⟨h1,h2,(back w hw).2.trans h3⟩
theorem dx.below {W:World}{r tb n cap a:Nat}{o kd:Int}{t:ByteArray}{w w':World}(h:dx W r tb n cap a o kd t w)(hb:Below w.heap.size w w'):dx W r tb n cap a o kd t w':=by
 obtain⟨hr,⟨t0,t1⟩,hT⟩:=h
 have up:∀{p:Addr} {v:Value},w.cell? p=some v->w'.cell? p=some v:=λhp=>(hb.cell (World.block_lt_of_cell? w _ hp)).trans hp
 exact⟨(hb.block r (Array.getElem?_eq_some_iff.1 hr).1).trans hr,⟨up t0,up t1⟩,hT.trans (Tch.of_below hb)⟩
theorem Nj (W:World)(r:Nat)(k:Int)(P:World->Prop)
 (n1:Calls Tryz.prog 27 #[.pointer (some ⟨r,0,none⟩)] W λe W'=>e=.returned (.bool true)/\P W'):
 Calls Tryz.prog 29 #[.pointer (some ⟨r,0,none⟩),.int .i64 k] W λe W'=>e=.returned (.string ⟨#[]⟩)/\P W':=by
 go_enter Tryz.func29,Tryz.ntmps29
 go_wp2_with fail
 refine n1.mono ?_
 rintro x w ⟨rfl,hp⟩
 clear n1
 go_wp2_with fail
 go_ret
 exact⟨rfl,hp⟩
def xC (k kd:Int):Prop:=(kd !=1)=true/\((k !=2)=true\/((k !=2)=false/\(kd !=2)=true/\(kd !=4)=true))
def jH (k kd:Int):Prop:=(kd !=1)=false\/((kd !=1)=true/\(k !=2)=false/\((kd !=2)=false\/((kd !=2)=true/\(kd !=4)=false)))
theorem I1 (W:World)(r tb n cap a:Nat)(o kd at_ k:Int)(t:ByteArray)(hbad:xC k kd)(hlt:(a:Int)<(n:Int))(qB:a<n)(hmc:n<=cap)(P:World->Prop)
 (n1:Calls Tryz.prog 27 #[.pointer (some ⟨r,0,none⟩)] W λe W'=>e=.returned (.bool false)/\dx W r tb n cap a o kd t W'/\W'.cell? ⟨tb,a*3+2,none⟩=some (.int .i64 at_))
 (n3:Hid (∀w,dx W r tb n cap a o kd t w->Calls Tryz.prog 32 #[.pointer (some ⟨r,0,none⟩),.int .i64 30] w λe W'=>e=.returned (.tuple #[])/\P W')):
 Calls Tryz.prog 29 #[.pointer (some ⟨r,0,none⟩),.int .i64 k] W λe W'=>e=.returned (.string ⟨#[]⟩)/\P W':=by
 go_enter Tryz.func29,Tryz.ntmps29
 go_wp2_with fail
 refine n1.mono ?_
 rintro x w ⟨rfl,hT,t2⟩
 have HT:=Lib.hid hT
 obtain⟨hr,⟨t0,t1⟩,-⟩:=hT
 obtain⟨k0,k1,-,-,-⟩:=ag hr
 have d0:w.drew.cell? ⟨r,0,none⟩=some (.slice (some ⟨tb,0,none⟩) n cap):=k0
 have d1:w.drew.cell? ⟨r,1,none⟩=some (.int .i64 a):=k1
 have e0:w.drew.cell? ⟨tb,a*3,none⟩=some (.int .i64 kd):=t0
 have e1:w.drew.cell? ⟨tb,a*3+1,none⟩=some (.string t):=t1
 have e2:w.drew.cell? ⟨tb,a*3+2,none⟩=some (.int .i64 at_):=t2
 have a0:=λo=>Lib.cell?_alloc_some (W:=w) o t0
 have a1:=λo=>Lib.cell?_alloc_some (W:=w) o t1
 have a2:=λo=>Lib.cell?_alloc_some (W:=w) o t2
 have a3:=λo=>Lib.cell?_alloc_some (W:=w) o k0
 have a4:=λo=>Lib.cell?_alloc_some (W:=w) o k1
 have HB:=Lib.hid hbad
 clear n1 hr hbad
 go_wp2_with fail
 have hS0:=And.intro k0 (And.intro k1 (And.intro t0 (And.intro t1 t2)))
 go_region_held3 (λw'=>w'.cell? ⟨r,0,none⟩=some (.slice (some ⟨tb,0,none⟩) n cap)/\w'.cell? ⟨r,1,none⟩=some (.int .i64 a)/\w'.cell? ⟨tb,a*3,none⟩=some (.int .i64 kd)/\w'.cell? ⟨tb,a*3+1,none⟩=some (.string t)/\w'.cell? ⟨tb,a*3+2,none⟩=some (.int .i64 at_))
  (first|assumption|exact ps_S5_drew (by assumption)|exact eO (by assumption) _)
  (fail)
 all_goals
  obtain⟨w9,iJ⟩:∃w9,w9=(w.alloc (Obj.cells #[.int .i64 kd,.string t,.int .i64 at_] 53)).drew:=⟨_,rfl⟩
  obtain⟨q,hq⟩:∃q,q=w.heap.size:=⟨_,rfl⟩
  have za:Hid (dx W r tb n cap a o kd t w9):=Lib.hid (HT.out.below (by rw[iJ];exact((Below.refl _ _).alloc (Nat.le_refl _) _).drew))
  have bu:w9.heap[q]? =some (.cells #[.int .i64 kd,.string t,.int .i64 at_] 53 (0,0)):=by rw[iJ,hq];exact aD w _
  have y0:w9.cell? ⟨q,0,none⟩=some (.int .i64 kd):=by rw[cell_of_row _ _ _ _ _ _ bu];rfl
  rw[<-iJ,<-hq]
  clear bu iJ hq HT d0 d1 e0 e1 e2 a0 a1 a2 a3 a4 k0 k1 t0 t1 t2 hS0
  have n4:=n3.out w9 za.out
  clear n3
  have hbad:=HB.out
  clear HB
  obtain⟨b1,hbad⟩:=hbad
  rcases hbad with b2|⟨b2,b3,b4⟩
  all_goals
   go_wp2_with fail
   refine n4.mono ?_
   rintro x w5 ⟨rfl,hp⟩
   clear n4
   go_wp2_with fail
   go_ret
   exact⟨rfl,hp⟩
theorem Mf (W:World)(r tb n cap a:Nat)(o kd at_ k:Int)(t:ByteArray)(hgood:jH k kd)(e:Int)(he:(e !=0)=true)(hlt:(a:Int)<(n:Int))(qB:a<n)(hmc:n<=cap)(P:World->Prop)
 (n1:Calls Tryz.prog 27 #[.pointer (some ⟨r,0,none⟩)] W λe W'=>e=.returned (.bool false)/\dx W r tb n cap a o kd t W'/\W'.cell? ⟨tb,a*3+2,none⟩=some (.int .i64 at_))
 (nc:Hid (∀w,Calls Tryz.prog 73 #[.int .i64 k,.string t] w λx w'=>(∃z:Int,x=.returned (.tuple #[.int .i64 z,.int .i64 e]))/\Below w.heap.size w w'))
 (n3:Hid (∀w,dx W r tb n cap a o kd t w->Calls Tryz.prog 32 #[.pointer (some ⟨r,0,none⟩),.int .i64 6] w λe W'=>e=.returned (.tuple #[])/\P W')):
 Calls Tryz.prog 29 #[.pointer (some ⟨r,0,none⟩),.int .i64 k] W λe W'=>e=.returned (.string ⟨#[]⟩)/\P W':=by
 go_enter Tryz.func29,Tryz.ntmps29
 go_wp2_with fail
 refine n1.mono ?_
 rintro x w ⟨rfl,hT,t2⟩
 have HT:=Lib.hid hT
 obtain⟨hr,⟨t0,t1⟩,-⟩:=hT
 obtain⟨k0,k1,-,-,-⟩:=ag hr
 have d0:w.drew.cell? ⟨r,0,none⟩=some (.slice (some ⟨tb,0,none⟩) n cap):=k0
 have d1:w.drew.cell? ⟨r,1,none⟩=some (.int .i64 a):=k1
 have e0:w.drew.cell? ⟨tb,a*3,none⟩=some (.int .i64 kd):=t0
 have e1:w.drew.cell? ⟨tb,a*3+1,none⟩=some (.string t):=t1
 have e2:w.drew.cell? ⟨tb,a*3+2,none⟩=some (.int .i64 at_):=t2
 have a0:=λo=>Lib.cell?_alloc_some (W:=w) o t0
 have a1:=λo=>Lib.cell?_alloc_some (W:=w) o t1
 have a2:=λo=>Lib.cell?_alloc_some (W:=w) o t2
 have a3:=λo=>Lib.cell?_alloc_some (W:=w) o k0
 have a4:=λo=>Lib.cell?_alloc_some (W:=w) o k1
 have HB:=Lib.hid hgood
 clear n1 hr hgood
 go_wp2_with fail
 have hS0:=And.intro k0 (And.intro k1 (And.intro t0 (And.intro t1 t2)))
 go_region_held3 (λw'=>w'.cell? ⟨r,0,none⟩=some (.slice (some ⟨tb,0,none⟩) n cap)/\w'.cell? ⟨r,1,none⟩=some (.int .i64 a)/\w'.cell? ⟨tb,a*3,none⟩=some (.int .i64 kd)/\w'.cell? ⟨tb,a*3+1,none⟩=some (.string t)/\w'.cell? ⟨tb,a*3+2,none⟩=some (.int .i64 at_))
  (first|assumption|exact ps_S5_drew (by assumption)|exact eO (by assumption) _)
  (fail)
 all_goals
  obtain⟨w9,iJ⟩:∃w9,w9=(w.alloc (Obj.cells #[.int .i64 kd,.string t,.int .i64 at_] 53)).drew:=⟨_,rfl⟩
  obtain⟨q,hq⟩:∃q,q=w.heap.size:=⟨_,rfl⟩
  have za:Hid (dx W r tb n cap a o kd t w9):=Lib.hid (HT.out.below (by rw[iJ];exact((Below.refl _ _).alloc (Nat.le_refl _) _).drew))
  have bu:w9.heap[q]? =some (.cells #[.int .i64 kd,.string t,.int .i64 at_] 53 (0,0)):=by rw[iJ,hq];exact aD w _
  have y0:w9.cell? ⟨q,0,none⟩=some (.int .i64 kd):=by rw[cell_of_row _ _ _ _ _ _ bu];rfl
  have y1:w9.cell? ⟨q,1,none⟩=some (.string t):=by rw[cell_of_row _ _ _ _ _ _ bu];rfl
  rw[<-iJ,<-hq]
  clear bu iJ hq HT d0 d1 e0 e1 e2 a0 a1 a2 a3 a4 k0 k1 t0 t1 t2 hS0
  have n4:=nc.out w9
  clear nc
  have hgood:=HB.out
  clear HB
  rcases hgood with b1|⟨b1,b2,b3|⟨b3,b4⟩⟩
  all_goals
   go_wp2_with fail
   refine n4.mono ?_
   rintro x w5 ⟨⟨z,rfl⟩,hb⟩
   have n5:=n3.out w5 (za.out.below hb)
   clear n4 n3
   go_wp2_with fail
   refine n5.mono ?_
   rintro x w6 ⟨rfl,hp⟩
   clear n5
   go_wp2_with fail
   go_ret
   exact⟨rfl,hp⟩
theorem Ki (W:World)(r tb n cap a:Nat)(o kd at_ k:Int)(t:ByteArray)(hgood:jH k kd)(hw1:wrap64 ((a:Int)+1)=((a+1:Nat):Int))(hlt:(a:Int)<(n:Int))(qB:a<n)(hmc:n<=cap)
 (n1:Calls Tryz.prog 27 #[.pointer (some ⟨r,0,none⟩)] W λe W'=>e=.returned (.bool false)/\dx W r tb n cap a o kd t W'/\W'.cell? ⟨tb,a*3+2,none⟩=some (.int .i64 at_))
 (nc:Hid (∀w,Calls Tryz.prog 73 #[.int .i64 k,.string t] w λx w'=>(∃z:Int,x=.returned (.tuple #[.int .i64 z,.int .i64 0]))/\Below w.heap.size w w')):
 Calls Tryz.prog 29 #[.pointer (some ⟨r,0,none⟩),.int .i64 k] W λe W'=>e=.returned (.string t)/\W'.heap[r]? =some (.cells (cO tb n cap ((a+1:Nat):Int) 0 o) 81 (0,0))/\Tch r r W W':=by
 go_enter Tryz.func29,Tryz.ntmps29
 go_wp2_with fail
 refine n1.mono ?_
 rintro x w ⟨rfl,hT,t2⟩
 have HT:=Lib.hid hT
 obtain⟨hr,⟨t0,t1⟩,-⟩:=hT
 obtain⟨k0,k1,-,-,hrs⟩:=ag hr
 have d0:w.drew.cell? ⟨r,0,none⟩=some (.slice (some ⟨tb,0,none⟩) n cap):=k0
 have d1:w.drew.cell? ⟨r,1,none⟩=some (.int .i64 a):=k1
 have e0:w.drew.cell? ⟨tb,a*3,none⟩=some (.int .i64 kd):=t0
 have e1:w.drew.cell? ⟨tb,a*3+1,none⟩=some (.string t):=t1
 have e2:w.drew.cell? ⟨tb,a*3+2,none⟩=some (.int .i64 at_):=t2
 have a0:=λo=>Lib.cell?_alloc_some (W:=w) o t0
 have a1:=λo=>Lib.cell?_alloc_some (W:=w) o t1
 have a2:=λo=>Lib.cell?_alloc_some (W:=w) o t2
 have a3:=λo=>Lib.cell?_alloc_some (W:=w) o k0
 have a4:=λo=>Lib.cell?_alloc_some (W:=w) o k1
 have HB:=Lib.hid hgood
 clear n1 hr hgood
 go_wp2_with fail
 have hS0:=And.intro k0 (And.intro k1 (And.intro t0 (And.intro t1 t2)))
 go_region_held3 (λw'=>w'.cell? ⟨r,0,none⟩=some (.slice (some ⟨tb,0,none⟩) n cap)/\w'.cell? ⟨r,1,none⟩=some (.int .i64 a)/\w'.cell? ⟨tb,a*3,none⟩=some (.int .i64 kd)/\w'.cell? ⟨tb,a*3+1,none⟩=some (.string t)/\w'.cell? ⟨tb,a*3+2,none⟩=some (.int .i64 at_))
  (first|assumption|exact ps_S5_drew (by assumption)|exact eO (by assumption) _)
  (fail)
 all_goals
  obtain⟨w9,iJ⟩:∃w9,w9=(w.alloc (Obj.cells #[.int .i64 kd,.string t,.int .i64 at_] 53)).drew:=⟨_,rfl⟩
  obtain⟨q,hq⟩:∃q,q=w.heap.size:=⟨_,rfl⟩
  have za:Hid (dx W r tb n cap a o kd t w9):=Lib.hid (HT.out.below (by rw[iJ];exact((Below.refl _ _).alloc (Nat.le_refl _) _).drew))
  have bu:w9.heap[q]? =some (.cells #[.int .i64 kd,.string t,.int .i64 at_] 53 (0,0)):=by rw[iJ,hq];exact aD w _
  have y0:w9.cell? ⟨q,0,none⟩=some (.int .i64 kd):=by rw[cell_of_row _ _ _ _ _ _ bu];rfl
  have y1:w9.cell? ⟨q,1,none⟩=some (.string t):=by rw[cell_of_row _ _ _ _ _ _ bu];rfl
  have hqr:q≠r:=by rw[hq];omega
  rw[<-iJ,<-hq]
  clear bu iJ hq HT d0 d1 e0 e1 e2 a0 a1 a2 a3 a4 k0 k1 t0 t1 t2 hS0
  have n4:=nc.out w9
  clear nc
  have hgood:=HB.out
  clear HB
  rcases hgood with b1|⟨b1,b2,b3|⟨b3,b4⟩⟩
  all_goals
   go_wp2_with fail
   refine n4.mono ?_
   rintro x w5 ⟨⟨z,rfl⟩,hb⟩
   have HT5:=Lib.hid (za.out.below hb)
   have z1:w5.cell? ⟨q,1,none⟩=some (.string t):=(hb.cell (World.block_lt_of_cell? w9 _ y1)).trans y1
   have z2:∀v,(w5.setCell ⟨r,1,none⟩ v).cell? ⟨q,1,none⟩=some (.string t):=λv=>((Tch.refl r r w5).setCell 1 v).cell z1 hqr hqr
   clear n4 y0 y1 hb
   obtain⟨k0,k1,-,-,-⟩:=ag HT5.out.1
   have f1:=aJ 1 HT5.out.1
   go_wp2_with fail
   go_ret
   refine⟨rfl,?_,HT5.out.2.2.setCell 1 _⟩
   have h:=aN _ r 1 _ _ (.int .i64 ((a+1:Nat):Int)) HT5.out.1
   first|exact h|(rw[hw1];exact h)|(rw[<-hw1]at h;exact h)
theorem IJ (k kd:Int):jH k kd\/xC k kd:=by
 unfold jH xC
 simp only[bne_iff_ne,ne_eq,bne_eq_false_iff_eq]
 by_cases h1:kd=1<;>by_cases h2:k=2<;>by_cases h3:kd=2<;>by_cases h4:kd=4<;>simp_all
theorem tV {W:World}{r tb cap:Nat}{l:List Ps.Tok}{st:Ps.St}(h:ae W r tb cap l st)(hl:bF l)(E:Ps.Env)(k:Nat)(ks:List Int)(hks:∀kd,kd∈ks↔jH k kd)
 (hkb:∀kd,xC k kd->kd∉ks)
 (nc:∀t∈l,∃e:Int,(e=0↔E.valid k t.2.1=true)/\∀w,Calls Tryz.prog 73 #[.int .i64 k,.string t.2.1] w λx w'=>(∃z:Int,x=.returned (.tuple #[.int .i64 z,.int .i64 e]))/\Below w.heap.size w w'):
 Calls Tryz.prog 29 #[.pointer (some ⟨r,0,none⟩),.int .i64 k] W λe W'=>e=.returned (.string (Ps.step (Ps.ident E l k ks) ⟨#[]⟩ st).1)/\ae W' r tb cap l (Ps.step (Ps.ident E l k ks) ⟨#[]⟩ st).2/\Tch r r W W':=by
 have n1:=oV h hl
 cases hb:Ps.bA l st with
 |false=>
  rw[hb]at n1
  have e1:Ps.bJ l st=(Ps.step (Ps.ident E l k ks) ⟨#[]⟩ st).2/\(Ps.step (Ps.ident E l k ks) ⟨#[]⟩ st).1=⟨#[]⟩:=by
   cases st with
   |error er=>exact⟨rfl,rfl⟩
   |ok a=>
    have hge:l.length<=a:=by simpa[Ps.bA]using hb
    have hw:Ps.ident E l k ks a=.error (Ps.short l):=by unfold Ps.ident Ps.take;rw[List.getElem?_eq_none hge]
    rw[Ps.aX hw]
    exact⟨by simp[Ps.bJ,Nat.not_lt.2 hge],rfl⟩
  rw[e1.1]at n1
  rw[e1.2]
  exact Nj W r k _ n1
 |true=>
  cases st with
  |error er=>cases hb
  |ok a=>
   have hlt:a<l.length:=by simpa[Ps.bA]using hb
   obtain⟨t,eG⟩:∃t,l[a]? =some t:=⟨_,List.getElem?_eq_getElem hlt⟩
   have hmem:=List.mem_of_getElem? eG
   obtain⟨e0,hev,hc⟩:=nc t hmem
   obtain⟨a',e,o,hr,ht,hne,hpos,hcap,bE,hs⟩:=h
   obtain⟨rfl,rfl,hle⟩:=hs
   obtain⟨k0,k1,k2,k3,-⟩:=ag hr
   obtain⟨t0,t1,t2⟩:=ht a t eG
   have m1:Calls Tryz.prog 27 #[.pointer (some ⟨r,0,none⟩)] W λe W'=>e=.returned (.bool false)/\dx W r tb l.length cap a o t.1 t.2.1 W'/\W'.cell? ⟨tb,a*3+2,none⟩=some (.int .i64 t.2.2):=by
    refine(jk W r tb l.length cap a k0 k1 k2 (by omega)).mono ?_
    rintro x w ⟨rfl,k,rfl⟩
    exact⟨rfl,⟨hr,⟨t0,t1⟩,Tch.drewN _ _ _ _⟩,t2⟩
   have back:∀w,dx W r tb l.length cap a o t.1 t.2.1 w->ae w r tb cap l (.ok a)/\Tch r r W w:=λw hw=>
    ⟨⟨a,0,o,hw.1,ht.tch hw.2.2 hne hne,hne,hpos,hcap,bE,rfl,rfl,hle⟩,hw.2.2⟩
   rcases IJ k t.1 with hg|hg
   ·have hk:=(hks t.1).2 hg
    by_cases he:e0=0
    ·have hv:=hev.1 he
     have hw:Ps.ident E l k ks a=.ok (t.2.1,a+1):=by simp[Ps.ident,Ps.take,eG,hk,hv]
     rw[Ps.step_ok hw]
     rw[he]at hc
     refine(Ki W r tb l.length cap a o t.1 t.2.2 k t.2.1 hg (by unfold wrap64;omega) (by omega) hlt hcap m1 (Lib.hid hc)).mono ?_
     rintro x w ⟨rfl,hw,hT⟩
     exact⟨rfl,⟨_,0,o,hw,ht.tch hT hne hne,hne,hpos,hcap,bE,rfl,rfl,hlt⟩,hT⟩
    ·have hv:E.valid k t.2.1=false:=by
      cases hx:E.valid k t.2.1 with
      |false=>rfl
      |true=>exact absurd (hev.2 hx) he
     have hw:Ps.ident E l k ks a=.error (Ps.aT l a,6):=by simp[Ps.ident,Ps.take,eG,hk,hv]
     rw[Ps.aX hw]
     refine Mf W r tb l.length cap a o t.1 t.2.2 k t.2.1 hg e0 (by simp[he]) (by omega) hlt hcap _ m1 (Lib.hid hc) (Lib.hid λw hw=>?_)
     refine(gW (back w hw).1 6 (by decide) (λb hb=>by cases hb;exact hlt)).mono ?_
     rintro e W' ⟨h1,h2,h3⟩
     exact⟨h1,h2,(back w hw).2.trans h3⟩
   ·have hk:=hkb t.1 hg
    have hw:Ps.ident E l k ks a=.error (Ps.aT l a,30):=by simp[Ps.ident,Ps.take,eG,hk]
    rw[Ps.aX hw]
    refine I1 W r tb l.length cap a o t.1 t.2.2 k t.2.1 hg (by omega) hlt hcap _ m1 (Lib.hid λw hw=>?_)
    refine(gW (back w hw).1 30 (by decide) (λb hb=>by cases hb;exact hlt)).mono ?_
    rintro e W' ⟨h1,h2,h3⟩
    exact⟨h1,h2,(back w hw).2.trans h3⟩
theorem ae.below {W w:World}{r tb cap:Nat}{l:List Ps.Tok}{st:Ps.St}(h:ae W r tb cap l st)(hb:Below W.heap.size W w):ae w r tb cap l st:=by
 obtain⟨a,e,o,hr,ht,hne,hrest⟩:=h
 exact⟨a,e,o,(hb.block r (Array.getElem?_eq_some_iff.1 hr).1).trans hr,ht.tch (show Tch r r W w from Tch.of_below hb) hne hne,hne,hrest⟩
def sZ (m:Nat):ByteArray:=if m=0 then⟨#[110,111,114,109,97,108]⟩else if m=1 then⟨#[104,105,103,104]⟩else⟨#[117,114,103,101,110,116]⟩
def gz (l:List Ps.Tok)(st:Ps.St):Int:=
 if d9 l st (sZ 0).data.toList=true then 0 else if d9 l st (sZ 1).data.toList=true then 1 else if d9 l st (sZ 2).data.toList=true then 2 else-1
theorem Ko (W:World)(r:Nat)(f:Nat->Bool)(v:Int)(hv:Hid (v=if f 0=true then 0 else if f 1=true then 1 else if f 2=true then 2 else-1))
 (n1:Hid (∀(m:Nat) w,m<3->Below W.heap.size W w->Calls Tryz.prog 70 #[.pointer (some ⟨r,0,none⟩),.string (sZ m)] w λe W'=>e=.returned (.bool (f m))/\Below W.heap.size W W')):
 Calls Tryz.prog 74 #[.pointer (some ⟨r,0,none⟩)] W λe W'=>e=.returned (.int .i64 v)/\Below W.heap.size W W':=by
 go_enter Tryz.func74,Tryz.ntmps74
 go_wp2_with fail
 go_loopw [3] (λiv wr=>∃i:Nat,iv=.int .i64 i/\i<=3/\Below W.heap.size W wr/\∀m,m<i->f m=false) (λiv _=>2000-(RowKit.intOf iv).toNat)
 case atStart=>exact⟨0,rfl,Nat.zero_le _,Below.refl _ _,λm hm=>absurd hm (Nat.not_lt_zero _)⟩
 case round=>
  obtain⟨i,rfl,hi,hbel,hno⟩:=hrel
  by_cases h3:i=3
  ·subst h3
   have hv':v= -1:=by rw[hv.out];simp[hno 0 (by omega),hno 1 (by omega),hno 2 (by omega)]
   go_wp2_with fail
   go_ret
   exact⟨by rw[hv'];rfl,hbel⟩
  ·have hlt:i<3:=by omega
   have hcase:i=0\/i=1\/i=2:=by omega
   have m1:=Lib.hid λw hb=>n1.out i w hlt hb
   have hvi:f i=true->v=(i:Int):=by
    intro hf
    rw[hv.out]
    rcases hcase with rfl|rfl|rfl
    ·simp[hf]
    ·simp[hf,hno 0 (by omega)]
    ·simp[hf,hno 0 (by omega),hno 1 (by omega)]
   obtain⟨b,hb⟩:∃b,f i=b:=⟨_,rfl⟩
   rw[hb]at m1 hvi
   have HN2:Hid (b=false->∀m,m<i+1->f m=false):=Lib.hid λhbf m hm=>by
    by_cases hmi:m<i
    ·exact hno m hmi
    ·obtain rfl:m=i:=by omega
     rw[hb,hbf]
   have HV:Hid (b=true->v=(i:Int)):=Lib.hid hvi
   clear hvi
   have HB:=Lib.hid hbel
   clear hno h3 hbel
   rcases hcase with rfl|rfl|rfl
   all_goals
    cases b
    ·go_wp2_with (go_at_call 70;refine(m1.out _ (HB.out.alloc (by first|omega|exact HB.out.size) _)).mono ?_;rintro x w1 ⟨rfl,hbn⟩)
     go_roundw
     case rel=>exact⟨_,by go_num,by omega,hbn,HN2.out (by first|rfl|trivial)⟩
     case measure=>simp[RowKit.intOf]
    ·go_wp2_with (go_at_call 70;refine(m1.out _ (HB.out.alloc (by first|omega|exact HB.out.size) _)).mono ?_;rintro x w1 ⟨rfl,hbn⟩)
     go_ret
     exact⟨by rw[HV.out (by first|rfl|trivial)];rfl,hbn⟩
theorem zz {W:World}{r tb cap:Nat}{l:List Ps.Tok}{st:Ps.St}(h:ae W r tb cap l st):
 Calls Tryz.prog 74 #[.pointer (some ⟨r,0,none⟩)] W λe W'=>e=.returned (.int .i64 (gz l st))/\ae W' r tb cap l st/\Tch r r W W':=by
 refine(Ko W r (λm=>d9 l st (sZ m).data.toList) (gz l st) (Lib.hid rfl) (Lib.hid λm w hm hb=>?_)).mono ?_
 ·refine(F4 (h.below hb) (sZ m)).mono ?_
  rintro x w2 ⟨h1,k,h2⟩
  exact⟨h1,by rw[h2];exact below_drewN' hb k⟩
 ·rintro x w ⟨h1,hb⟩
  exact⟨h1,h.below hb,Tch.of_below hb⟩
theorem Cx (W:World)(r sb n p:Nat)(cs:Array Value)(t:TypeId)(hp:p<n)(hpi:(p:Int)<(n:Int))(P:World->Prop)(hc:W.cell? ⟨sb,p,none⟩=some (.bool true))
 (n1:Calls Tryz.prog 32 #[.pointer (some ⟨r,0,none⟩),.int .i64 7] W λe W'=>e=.returned (.tuple #[])/\W'.heap[sb]? =some (.cells cs t (0,0))/\cs[p]? =some (.bool true)/\P W'):
 Calls Tryz.prog 75 #[.pointer (some ⟨r,0,none⟩),.slice (some ⟨sb,0,none⟩) n n,.int .i64 p] W λe W'=>e=.returned (.tuple #[])/\∃W1,P W1/\W1.heap[sb]? =some (.cells cs t (0,0))/\W'=W1.setCell ⟨sb,p,none⟩ (.bool true):=by
 go_enter Tryz.func75,Tryz.ntmps75
 go_wp2_with fail
 refine n1.mono ?_
 rintro x w ⟨rfl,hs,hcp,hP⟩
 have hc1:w.cell? ⟨sb,p,none⟩=some (.bool true):=by rw[cell_of_row _ _ _ _ _ _ hs];exact hcp
 have f1:=aJ p hs
 clear n1
 have HP:=Lib.hid hP
 have HS:=Lib.hid hs
 clear hP hs
 go_wp2_with fail
 go_end0
 exact⟨rfl,w,HP.out,HS.out,rfl⟩
theorem JB (W:World)(r sb n p:Nat)(cs:Array Value)(t:TypeId)(hp:p<n)(hpi:(p:Int)<(n:Int))(hs:W.heap[sb]? =some (.cells cs t (0,0)))(hc:W.cell? ⟨sb,p,none⟩=some (.bool false)):
 Calls Tryz.prog 75 #[.pointer (some ⟨r,0,none⟩),.slice (some ⟨sb,0,none⟩) n n,.int .i64 p] W λe W'=>e=.returned (.tuple #[])/\W'=W.setCell ⟨sb,p,none⟩ (.bool true):=by
 have f1:=aJ p hs
 clear hs
 go_enter Tryz.func75,Tryz.ntmps75
 go_wp2_with fail
 go_end0
 exact⟨rfl,rfl⟩
theorem ae.tch {W w:World}{r tb cap q:Nat}{l:List Ps.Tok}{st:Ps.St}(h:ae W r tb cap l st)(hT:Tch q q W w)(hq:q≠r)(hqt:q≠tb):ae w r tb cap l st:=by
 obtain⟨a,e,o,hr,ht,hne,hrest⟩:=h
 exact⟨a,e,o,(hT.block r (Array.getElem?_eq_some_iff.1 hr).1 (Ne.symm hq) (Ne.symm hq)).trans hr,ht.tch hT (Ne.symm hqt) (Ne.symm hqt),hne,hrest⟩
theorem Fg {W:World}{r tb cap sb:Nat}{l:List Ps.Tok}{st:Ps.St}(h:ae W r tb cap l st)(hst:∀a,st=.ok a->a<l.length)(sn:List Bool)(t:TypeId)(hs:W.heap[sb]? =some (.cells (bI sn) t (0,0)))
 (O4:sb≠r) (hstb:sb≠tb) (p:Nat) (b:Bool) (hb:sn[p]? =some b):
 Calls Tryz.prog 75 #[.pointer (some ⟨r,0,none⟩),.slice (some ⟨sb,0,none⟩) sn.length sn.length,.int .i64 p] W λe W'=>e=.returned (.tuple #[])/\
  ae W' r tb cap l (if b=true then Ps.gM l 7 st else st)/\W'.heap[sb]? =some (.cells (bI (sn.set p true)) t (0,0))/\Tch r sb W W':=by
 have hcp:(bI sn)[p]? =some (.bool b):=by unfold bI;rw[List.getElem?_toArray,List.getElem?_map,hb];rfl
 have hpl:p<sn.length:=(List.getElem?_eq_some_iff.1 hb).1
 have hc:W.cell? ⟨sb,p,none⟩=some (.bool b):=by rw[cell_of_row _ _ _ _ _ _ hs];exact hcp
 have hrow:∀w1:World,w1.heap[sb]? =some (.cells (bI sn) t (0,0))->(w1.setCell ⟨sb,p,none⟩ (.bool true)).heap[sb]? =some (.cells (bI (sn.set p true)) t (0,0)):=by
  intro w1 hw1
  rw[aN w1 sb p _ _ _ hw1]
  unfold bI
  simp
 cases b with
 |true=>
  refine(Cx W r sb sn.length p (bI sn) t hpl (by omega) (λw=>ae w r tb cap l (Ps.gM l 7 st)/\Tch r r W w) hc ((gW h 7 (by decide) hst).mono ?_)).mono ?_
  ·rintro e w1 ⟨h1,h2,h3⟩
   exact⟨h1,(h3.block sb (Array.getElem?_eq_some_iff.1 hs).1 O4 O4).trans hs,hcp,h2,h3⟩
  ·rintro e w1 ⟨rfl,w2,⟨h2,h3⟩,h4,rfl⟩
   have FC:Tch sb sb w2 (w2.setCell ⟨sb,p,none⟩ (.bool true)):=(Tch.refl sb sb w2).setCell p _
   exact⟨rfl,h2.tch FC O4 hstb,hrow w2 h4,h3.left.trans FC.right⟩
 |false=>
  refine(JB W r sb sn.length p (bI sn) t hpl (by omega) hs hc).mono ?_
  rintro e w1 ⟨rfl,rfl⟩
  have FC:Tch sb sb W (W.setCell ⟨sb,p,none⟩ (.bool true)):=(Tch.refl sb sb W).setCell p _
  exact⟨rfl,h.tch FC O4 hstb,hrow W hs,FC.right⟩
end Go.Proofs.YthijakidnkhbnaaGreatDoor
namespace Go.Proofs.YthijakidnkhbnaaGreatDoor.Lx
open Go
abbrev Bt:=List UInt8
theorem lH (c:UInt8):∀(p r:Bt),c∉p->Lib.index (p++c::r) [c]=p.length
 |[],r,_=>by
  show Lib.index (c::r) [c]=0
  rw[Lib.index];simp[List.isPrefixOf]
 |b::p,r,h=>by
  have hb:¬b=c:=λe=>h (by rw[e];exact List.mem_cons_self)
  have ih:=lH c p r λhm=>h (List.mem_cons_of_mem _ hm)
  have hp:([c]:Bt).isPrefixOf (b::(p++c::r))=false:=by simp[List.isPrefixOf,Ne.symm hb]
  have hm:((p.length:Int)== -1)=false:=by rw[beq_eq_false_iff_ne];omega
  rw[List.cons_append,Lib.index,hp,ih]
  simp[hm]
theorem oO (c:UInt8):∀l:Bt,c∉l->Lib.index l [c]= -1
 |[],_=>by simp[Lib.index]
 |b::l,h=>by
  have hb:¬b=c:=λe=>h (by rw[e];exact List.mem_cons_self)
  have ih:=oO c l λhm=>h (List.mem_cons_of_mem _ hm)
  have hp:([c]:Bt).isPrefixOf (b::l)=false:=by simp[List.isPrefixOf,Ne.symm hb]
  rw[Lib.index,hp,ih]
  simp
def pcs (c:UInt8)(l:Bt):List Bt:=Lib.splitK [c] 0 (l.count c) l
theorem Bd (c:UInt8)(l:Bt)(h:c∉l):pcs c l=[l]:=by
 unfold pcs
 rw[List.count_eq_zero.2 h]
 rfl
theorem yX (c:UInt8)(p r:Bt)(h:c∉p):pcs c (p++c::r)=p::pcs c r:=by
 unfold pcs
 rw[List.count_append,List.count_eq_zero.2 h,List.count_cons_self,Nat.zero_add]
 conv=>lhs;unfold Lib.splitK
 rw[lH c p r h]
 have hm:((p.length:Int)== -1)=false:=by rw[beq_eq_false_iff_ne];omega
 rw[hm]
 simp only[Bool.false_eq_true,if_false,Int.toNat_natCast,Nat.add_zero,List.take_left,List.length_singleton]
 congr 1
 rw[<-List.drop_drop,List.drop_left]
 rfl
theorem mY (c:UInt8)(l:Bt):(c∉l/\pcs c l=[l])\/∃p r,l=p++c::r/\c∉p/\pcs c l=p::pcs c r:=by
 by_cases h:c∈l
 ·obtain⟨p,r,rfl,hp⟩:=List.eq_append_cons_of_mem h
  exact .inr ⟨p,r,rfl,hp,yX c p r hp⟩
 ·exact .inl ⟨h,Bd c l h⟩
theorem pieces_eq (s:ByteArray):(pieces s).map (·.data.toList)=pcs 45 s.data.toList:=by
 unfold pieces pcs
 rw[Lib.splitB_data]
 congr 1
 exact Lib.count_one 45 _
def at_ (l:Bt)(i:Nat):Int:=((l.getD i 0).toNat:Int)
def EG (i:Nat)(c:Int):Bool:=if i=4\/i=7 then decide (c=45)else digit c
def kU (l:Bt):Bool:=decide (l.length=10)&&(List.range 10).all λi=>EG i (at_ l i)
theorem list10:∀l:Bt,l.length=10->∃a b c d e f g h i j,l=[a,b,c,d,e,f,g,h,i,j]
 |[a,b,c,d,e,f,g,h,i,j],_=>⟨a,b,c,d,e,f,g,h,i,j,rfl⟩
theorem Fx:∀l:Bt,l.length=2->∃a b,l=[a,b]
 |[a,b],_=>⟨a,b,rfl⟩
theorem list4:∀l:Bt,l.length=4->∃a b c d,l=[a,b,c,d]
 |[a,b,c,d],_=>⟨a,b,c,d,rfl⟩
theorem gB {c:UInt8}(h:digit (c.toNat:Int)=true):c≠45/\c≠46:=by
 constructor
 all_goals
  rintro rfl
  revert h
  decide
theorem PS (c:UInt8):decide ((c.toNat:Int)=45)=true↔c=45:=by
 rw[decide_eq_true_iff]
 constructor
 ·intro h
  apply UInt8.toNat_inj.1
  have:c.toNat=45:=by omega
  rw[this];rfl
 ·rintro rfl;rfl
theorem u8_46 (c:UInt8):decide ((c.toNat:Int)=46)=true↔c=46:=by
 rw[decide_eq_true_iff]
 constructor
 ·intro h
  apply UInt8.toNat_inj.1
  have:c.toNat=46:=by omega
  rw[this];rfl
 ·rintro rfl;rfl
theorem xS (a b c d e f g h i j:UInt8):kU [a,b,c,d,e,f,g,h,i,j]=true↔digit a.toNat=true/\digit b.toNat=true/\digit c.toNat=true/\digit d.toNat=true/\e=45/\digit f.toNat=true/\digit g.toNat=true/\h=45/\digit i.toNat=true/\digit j.toNat=true:=by
 unfold kU
 have:(List.range 10)=[0,1,2,3,4,5,6,7,8,9]:=rfl
 rw[this]
 simp only[List.all_cons,List.all_nil,Bool.and_true,Bool.and_eq_true]
 rw[<-PS e,<-PS h]
 simp only[EG,at_]
 simp
theorem OQ (s:ByteArray):date s=(decide (s.data.toList.length=10)&&decide ((pcs 45 s.data.toList).length=3)&&decide (((pcs 45 s.data.toList)[0]?.map List.length).getD 0=4)&&decide (((pcs 45 s.data.toList)[1]?.map List.length).getD 0=2)&&(pcs 45 s.data.toList).all λp=>all digit p):=by
 unfold date
 have hz:∀x:ByteArray,x.data.toList.length=x.size:=by rintro⟨⟨l⟩⟩;rfl
 rw[<-pieces_eq,List.length_map,List.getElem?_map,List.getElem?_map,List.all_map,Option.map_map,Option.map_map,hz]
 have hf:(List.length∘λx:ByteArray=>x.data.toList)=λx=>x.size:=funext hz
 rw[hf]
 rfl
theorem NP (s:ByteArray):date s=kU s.data.toList:=by
 rw[OQ]
 obtain⟨l,hl⟩:∃l,l=s.data.toList:=⟨_,rfl⟩
 rw[<-hl]
 clear hl
 rw[Bool.eq_iff_iff]
 constructor
 ·intro h
  simp only[Bool.and_eq_true,decide_eq_true_eq]at h
  obtain⟨⟨⟨⟨h1,h2⟩,h3⟩,h4⟩,h5⟩:=h
  rcases mY 45 l with⟨_,e⟩|⟨p,r,rfl,hp,e⟩
  ·rw[e]at h2;simp at h2
  rw[e]at h2 h3 h4 h5
  rcases mY 45 r with⟨_,e⟩|⟨q,r,rfl,hq,e⟩
  ·rw[e]at h2;simp at h2
  rw[e]at h2 h4 h5
  rcases mY 45 r with⟨_,e⟩|⟨q2,r2,rfl,hq2,e⟩
  ·rw[e]at h5
   have h3:p.length=4:=by simpa using h3
   have h4:q.length=2:=by simpa using h4
   have hr:r.length=2:=by
    simp only[List.length_append,List.length_cons]at h1;omega
   obtain⟨a,b,c,d,rfl⟩:=list4 p h3
   obtain⟨f,g,rfl⟩:=Fx q h4
   obtain⟨i,j,rfl⟩:=Fx r hr
   show kU [a,b,c,d,45,f,g,45,i,j]=true
   rw[xS]
   simp[all]at h5
   simp[h5]
  ·exfalso
   rw[e]at h2
   simp only[List.length_cons]at h2
   have:0<(pcs 45 r2).length:=by
    rcases mY 45 r2 with⟨_,e⟩|⟨_,_,_,_,e⟩<;>rw[e]<;>simp
   omega
 ·intro h
  have h1:l.length=10:=by
   unfold kU at h
   simp only[Bool.and_eq_true,decide_eq_true_eq]at h
   exact h.1
  obtain⟨a,b,c,d,e,f,g,h',i,j,rfl⟩:=list10 l h1
  rw[xS]at h
  obtain⟨x0,x1,x2,x3,rfl,x5,x6,rfl,x8,x9⟩:=h
  have e1:pcs 45 [a,b,c,d,45,f,g,45,i,j]=[[a,b,c,d],[f,g],[i,j]]:=by
   rw[show([a,b,c,d,45,f,g,45,i,j]:Bt)=[a,b,c,d]++45::([f,g]++45::[i,j])from rfl]
   rw[yX,yX,Bd]
   ·simp[Ne.symm (gB x8).1,Ne.symm (gB x9).1]
   ·simp[Ne.symm (gB x5).1,Ne.symm (gB x6).1]
   ·simp[Ne.symm (gB x0).1,Ne.symm (gB x1).1,Ne.symm (gB x2).1,Ne.symm (gB x3).1]
  rw[e1]
  simp[all,x0,x1,x2,x3,x5,x6,x8,x9]
def yj (t:Bt):Bool:=decide (4<=t.length)&&decide (at_ t (t.length-3)=46)&&digit (at_ t (t.length-1))&&digit (at_ t (t.length-2))&&whole (t.take (t.length-3))
def dz (l:Bt):Bt:=if l.head? =some 45 then l.drop 1 else l
def dR (l:Bt):Bool:=!(l==[45,48,46,48,48])&&yj (dz l)
theorem Eg (l:Bt):Lib.trimPrefix l [45]=dz l:=by
 unfold Lib.trimPrefix dz Lib.hasPrefix
 cases l with
 |nil=>rfl
 |cons c l=>by_cases h:c=45
            ·subst h;simp[List.isPrefixOf]
            ·simp[List.isPrefixOf,h,Ne.symm h]
theorem j5 {l:Bt}(h:whole l=true):∀c∈l,digit (c.toNat:Int)=true:=by
 unfold whole all at h
 simp only[Bool.and_eq_true,List.all_eq_true]at h
 exact h.1.2
theorem si (p r:Bt)(h:(46:UInt8)∉p):Lib.cut (p++46::r) [46]=(p,r,true):=by
 unfold Lib.cut
 rw[lH 46 p r h,if_pos (by omega)]
 simp only[Int.toNat_natCast,List.take_left,List.length_singleton]
 congr 2
 rw[<-List.drop_drop,List.drop_left]
 rfl
theorem Lr (t:Bt):((Lib.cut t [46]).2.2&&whole (Lib.cut t [46]).1&&decide ((Lib.cut t [46]).2.1.length=2)&&all digit (Lib.cut t [46]).2.1)=yj t:=by
 rw[Bool.eq_iff_iff]
 constructor
 ·intro h
  by_cases hm:(46:UInt8)∈t
  ·obtain⟨p,r,rfl,hp⟩:=List.eq_append_cons_of_mem hm
   rw[si p r hp]at h
   simp only[Bool.and_eq_true,decide_eq_true_eq,Bool.true_and]at h
   obtain⟨⟨h1,h2⟩,h3⟩:=h
   obtain⟨x,y,rfl⟩:=Fx r h2
   have hpl:0<p.length:=by
    cases p with
    |nil=>simp[whole,all]at h1
    |cons _ _=>simp
   have hn:(p++[46,x,y]).length=p.length+3:=by simp
   unfold yj
   rw[hn,show p.length+3-3=p.length from by omega,show p.length+3-1=p.length+2 from by omega,show p.length+3-2=p.length+1 from by omega,List.take_left,h1]
   have a0:at_ (p++[46,x,y]) p.length=46:=by unfold at_;rw[List.getD_eq_getElem?_getD,List.getElem?_append_right (Nat.le_refl _),Nat.sub_self];rfl
   have a1:at_ (p++[46,x,y]) (p.length+1)=x.toNat:=by unfold at_;rw[List.getD_eq_getElem?_getD,List.getElem?_append_right (by omega),Nat.add_sub_cancel_left];rfl
   have a2:at_ (p++[46,x,y]) (p.length+2)=y.toNat:=by unfold at_;rw[List.getD_eq_getElem?_getD,List.getElem?_append_right (by omega),Nat.add_sub_cancel_left];rfl
   rw[a0,a1,a2]
   simp[all]at h3
   simp[h3]
   omega
  ·unfold Lib.cut at h
   rw[oO 46 t hm]at h
   simp at h
 ·intro h
  unfold yj at h
  simp only[Bool.and_eq_true,decide_eq_true_eq]at h
  obtain⟨⟨⟨⟨h0,h1⟩,h2⟩,h3⟩,h4⟩:=h
  obtain⟨p,hp⟩:∃p,p=t.take (t.length-3):=⟨_,rfl⟩
  obtain⟨z,x,y,hr⟩:∃z x y,t.drop (t.length-3)=[z,x,y]:=by
   have:(t.drop (t.length-3)).length=3:=by rw[List.length_drop];omega
   match t.drop (t.length-3),this with
   |[z,x,y],_=>exact⟨z,x,y,rfl⟩
  have ht:t=p++[z,x,y]:=by rw[hp,<-hr,List.take_append_drop]
  have hpl:p.length=t.length-3:=by rw[hp,List.length_take];omega
  rw[<-hp]at h4
  have a0:at_ t (t.length-3)=z.toNat:=by unfold at_;rw[<-hpl,ht,List.getD_eq_getElem?_getD,List.getElem?_append_right (by omega),Nat.sub_self];rfl
  have a1:at_ t (t.length-2)=x.toNat:=by unfold at_;rw[show t.length-2=p.length+1 from by omega,ht,List.getD_eq_getElem?_getD,List.getElem?_append_right (by omega),Nat.add_sub_cancel_left];rfl
  have a2:at_ t (t.length-1)=y.toNat:=by unfold at_;rw[show t.length-1=p.length+2 from by omega,ht,List.getD_eq_getElem?_getD,List.getElem?_append_right (by omega),Nat.add_sub_cancel_left];rfl
  rw[a0]at h1
  rw[a1]at h3
  rw[a2]at h2
  have hz:z=46:=(u8_46 z).1 (by simp[h1])
  subst hz
  have hn:(46:UInt8)∉p:=λhm=>(gB (j5 h4 _ hm)).2 rfl
  rw[ht,show p++[46,x,y]=p++46::[x,y]from rfl,si p _ hn]
  simp[h4,all,h2,h3]
theorem uD (l:Bt):decimal l=dR l:=by
 unfold decimal dR
 rw[Eg,Lr,Bool.and_comm]
def Bf (l:Bt):Int×Int:=
 if 32<l.length then(0,5)else if kU l then(4,0)else if whole l&&decide (l.length<=16)then(2,0)else if dR l then(3,0)
 else if all named l then(1,0)else if all lower l then(0,0)else(0,30)
theorem Av (s:ByteArray):aI s=Bf s.data.toList:=by
 have hl:s.data.toList.length=s.size:=by obtain⟨⟨l⟩⟩:=s;rfl
 unfold aI Bf
 rw[NP,uD,hl]
end Go.Proofs.YthijakidnkhbnaaGreatDoor.Lx
namespace Go.Proofs.YthijakidnkhbnaaGreatDoor
open Go.RowKit
theorem qR (s:ByteArray)(i:Nat):Lx.at_ s.data.toList i=PlainAid.bt s i:=by
 obtain⟨⟨l⟩⟩:=s
 unfold Lx.at_ PlainAid.bt
 rw[List.getD_eq_getElem?_getD]
 by_cases h:i<l.length
 ·rw[List.getElem?_eq_getElem h]
  have h2:i<(⟨⟨l⟩⟩:ByteArray).size:=h
  rw[dif_pos h2]
  rfl
 ·rw[List.getElem?_eq_none (Nat.le_of_not_lt h)]
  have h2:¬i<(⟨⟨l⟩⟩:ByteArray).size:=h
  rw[dif_neg h2]
  rfl
theorem lF (c:Int)(w:World):
 Calls Tryz.prog 120 #[.int .u8 c] w λe w'=>e=.returned (.bool (Lx.digit c))/\w=w':=by
 go_enter Tryz.func120,Tryz.ntmps120
 go_wp2
 all_goals go_ret
 all_goals exact⟨bY (by first|(simp[Lx.digit];done)|(simp[Lx.digit];omega)),rfl⟩
theorem Jt (c:Int)(w:World):
 Calls Tryz.prog 43 #[.int .u8 c] w λe w'=>e=.returned (.bool (Lx.blank c))/\w=w':=by
 go_enter Tryz.func43,Tryz.ntmps43
 go_wp2
 all_goals go_ret
 all_goals exact⟨bY (by first|(simp[Lx.blank];done)|(simp[Lx.blank];omega)),rfl⟩
theorem GI (s:ByteArray)(w:World)(_h1:s.size<=1000000)(hs:¬(s.size:Int)=10):
 Calls Tryz.prog 78 #[.string s] w λe w'=>e=.returned (.bool false)/\w=w':=by
 go_enter Tryz.func78,Tryz.ntmps78
 go_wp2_with fail
 go_ret
 exact⟨rfl,rfl⟩
theorem LK (s:ByteArray)(w:World)(hs:(s.size:Int)=10)(hs2:s.size=10)(j:Nat)(hj:j<=10)(hall:Hid (∀i,i<j->Lx.EG i (PlainAid.bt s i)=true))(hbad:Hid (j<10->Lx.EG j (PlainAid.bt s j)=false))(r:Bool)(hr:Hid (r=decide (j=10))):
 Calls Tryz.prog 78 #[.string s] w λe w'=>e=.returned (.bool r)/\w=w':=by
 have hub:=PlainAid.get_bt s
 have hd:=Lib.hid λ(c:Int) (w:World)=>lF c w
 go_enter Tryz.func78,Tryz.ntmps78
 go_wp2_with fail
 go_loopw [3] (λiv wr=>∃i:Nat,iv=.int .i64 i/\i<=j/\wr=w) (λiv _=>2000-(RowKit.intOf iv).toNat)
 case atStart=>exact⟨0,rfl,Nat.zero_le _,rfl⟩
 case round=>
  obtain⟨i,rfl,hi,rfl⟩:=hrel
  by_cases h10:i<10
  ·have h10I:(i:Int)<10:=by omega
   have his:i<s.size:=by omega
   have BO:(i:Int)<(s.size:Int):=by omega
   have hw1:wrap64 ((i:Int)+1)=((i+1:Nat):Int):=by unfold wrap64;omega
   obtain⟨b,hb⟩:∃b,Lx.EG i (PlainAid.bt s i)=b:=⟨_,rfl⟩
   have hij:b=false->r=false:=λhf=>by
    by_cases hlt:i<j
    ·rw[hall.out i hlt]at hb;rw[<-hb]at hf;cases hf
    ·rw[hr.out];simp;omega
   have hij2:b=true->i<j:=λht=>by
    by_cases hlt:i<j
    ·exact hlt
    ·obtain rfl:i=j:=by omega
     rw[hbad.out h10]at hb;rw[<-hb]at ht;cases ht
   unfold Lx.EG at hb
   obtain⟨c,hc⟩:∃c,PlainAid.bt s i=c:=⟨_,rfl⟩
   rw[hc]at hb
   clear hall hbad hr
   by_cases h4:i=4\/i=7
   ·rw[if_pos h4]at hb
    clear hd
    cases b with
    |true=>
     have hc45:c=45:=by simpa using hb
     have hlt:=hij2 rfl
     clear hij hij2 hb
     rcases h4 with h4|h4
     all_goals
      subst h4
      subst hc45
      go_wp2_with fail
      refine⟨⟨_,rfl,hlt,trivial⟩,by simp[RowKit.intOf]⟩
    |false=>
     have hc45:¬c=45:=by simpa using hb
     have hlt:=hij rfl
     clear hij hij2 hb
     subst hlt
     rcases h4 with h4|h4
     all_goals
      subst h4
      go_wp2_with fail
      go_ret
      exact⟨rfl,rfl⟩
   ·rw[if_neg h4]at hb
    have n4:((i:Int)==4)=false:=by rw[beq_eq_false_iff_ne];omega
    have n7:((i:Int)==7)=false:=by rw[beq_eq_false_iff_ne];omega
    have m1:=hd.out c wr
    rw[hb]at m1
    clear hd h4 hb
    cases b with
    |true=>
     have hlt:=hij2 rfl
     clear hij hij2
     go_wp2_with (go_at_call 120;refine m1.mono ?_;rintro e w1 ⟨rfl,rfl⟩)
     refine⟨⟨i+1,by first|rfl|go_num,hlt,trivial⟩,by simp[RowKit.intOf]<;>omega⟩
    |false=>
     have hlt:=hij rfl
     clear hij hij2
     subst hlt
     go_wp2_with (go_at_call 120;refine m1.mono ?_;rintro e w1 ⟨rfl,rfl⟩)
     go_ret
     exact⟨rfl,rfl⟩
  ·have h10I:¬(i:Int)<10:=by omega
   have hres:r=true:=by rw[hr.out];simp;omega
   subst hres
   clear hall hbad hr
   go_wp2_with fail
   go_ret
   exact⟨rfl,rfl⟩
theorem uo (p:Nat->Bool)(n:Nat):∃j,j<=n/\(∀i,i<j->p i=true)/\(j<n->p j=false):=by
 induction n with
 |zero=>exact⟨0,Nat.le_refl _,λi h=>by omega,λh=>by omega⟩
 |succ n ih=>
  obtain⟨j,h1,h2,h3⟩:=ih
  by_cases h:j<n
  ·exact⟨j,by omega,h2,λ_=>h3 h⟩
  ·obtain rfl:j=n:=by omega
   cases hp:p j with
   |true=>exact⟨j+1,Nat.le_refl _,λi hi=>by
    by_cases hij:i<j
    ·exact h2 i hij
    ·obtain rfl:i=j:=by omega
     exact hp,λh=>by omega⟩
   |false=>exact⟨j,by omega,h2,λ_=>hp⟩
theorem NV (s:ByteArray)(w:World)(h1:s.size<=1000000):
 Calls Tryz.prog 78 #[.string s] w λe w'=>e=.returned (.bool (Lx.kU s.data.toList))/\w=w':=by
 have hl:s.data.toList.length=s.size:=by obtain⟨⟨l⟩⟩:=s;rfl
 by_cases hs:s.size=10
 ·obtain⟨j,h2,h3,h4⟩:=uo (λi=>Lx.EG i (PlainAid.bt s i)) 10
  refine LK s w (by omega) hs j h2 (Lib.hid h3) (Lib.hid h4) _ (Lib.hid ?_)
  unfold Lx.kU
  rw[hl,hs,Bool.eq_iff_iff]
  simp only[decide_true,Bool.true_and,List.all_eq_true,List.mem_range,decide_eq_true_eq,qR]
  constructor
  ·intro h
   by_cases hj:j<10
   ·have:=h4 hj
    rw[h j hj]at this
    cases this
   ·omega
  ·rintro rfl i hi
   exact h3 i hi
 ·have hr:Lx.kU s.data.toList=false:=by
   unfold Lx.kU
   rw[hl]
   simp[hs]
  rw[hr]
  exact GI s w h1 (by omega)
theorem Cf (s:ByteArray)(w:World)(h1:s.size<=1000000)(j:Nat)(hj:j<=s.size)(hall:Hid (∀i,i<j->Lx.digit (PlainAid.bt s i)=true))(hbad:Hid (j<s.size->Lx.digit (PlainAid.bt s j)=false))(r:Bool)(hr:Hid ((j<s.size->r=false)/\(j=s.size->r=(decide (s.size=1)||(decide (1<s.size)&&!decide (PlainAid.bt s 0=48)))))):
 Calls Tryz.prog 79 #[.string s] w λe w'=>e=.returned (.bool r)/\w=w':=by
 have hub:=PlainAid.get_bt s
 have hd:=Lib.hid λ(c:Int) (w:World)=>lF c w
 go_enter Tryz.func79,Tryz.ntmps79
 go_wp2_with fail
 go_loopw [3] (λiv wr=>∃i:Nat,iv=.int .i64 i/\i<=j/\wr=w) (λiv _=>2000000-(RowKit.intOf iv).toNat)
 case atStart=>exact⟨0,rfl,Nat.zero_le _,rfl⟩
 case round=>
  obtain⟨i,rfl,hi,rfl⟩:=hrel
  by_cases his:i<s.size
  ·have BO:(i:Int)<(s.size:Int):=by omega
   have hw1:wrap64 ((i:Int)+1)=((i+1:Nat):Int):=by unfold wrap64;omega
   obtain⟨b,hb⟩:∃b,Lx.digit (PlainAid.bt s i)=b:=⟨_,rfl⟩
   have hij:b=false->r=false:=λhf=>by
    by_cases hlt:i<j
    ·rw[hall.out i hlt]at hb;rw[<-hb]at hf;cases hf
    ·exact hr.out.1 (by omega)
   have hij2:b=true->i<j:=λht=>by
    by_cases hlt:i<j
    ·exact hlt
    ·obtain rfl:i=j:=by omega
     rw[hbad.out his]at hb;rw[<-hb]at ht;cases ht
   obtain⟨c,hc⟩:∃c,PlainAid.bt s i=c:=⟨_,rfl⟩
   rw[hc]at hb
   clear hall hbad hr
   cases b with
   |true=>
    have hlt:=hij2 rfl
    clear hij hij2
    have m1:=hd.out c wr
    rw[hb]at m1
    clear hd hb
    go_wp2_with (go_at_call 120;refine m1.mono ?_;rintro e w1 ⟨rfl,rfl⟩)
    refine⟨⟨i+1,by first|rfl|go_num,hlt,trivial⟩,by simp[RowKit.intOf]<;>omega⟩
   |false=>
    have hlt:=hij rfl
    clear hij hij2
    subst hlt
    have m1:=hd.out c wr
    rw[hb]at m1
    clear hd hb
    go_wp2_with (go_at_call 120;refine m1.mono ?_;rintro e w1 ⟨rfl,rfl⟩)
    go_ret
    exact⟨rfl,rfl⟩
  ·have BO:¬(i:Int)<(s.size:Int):=by omega
   have hre:=hr.out.2 (by omega)
   clear hall hbad hr hd
   by_cases e1:s.size=1
   ·have e2:(s.size:Int)=1:=by omega
    have hrv:r=true:=by rw[hre];simp[e1]
    subst hrv
    clear hre
    go_wp2_with fail
    go_ret
    exact⟨rfl,rfl⟩
   ·have e2:((s.size:Int)==1)=false:=by rw[beq_eq_false_iff_ne];omega
    by_cases e3:1<s.size
    ·have e4:decide (1<(s.size:Int))=true:=by simp;omega
     have e6:0<s.size:=by omega
     have e7:(0:Int)<(s.size:Int):=by omega
     obtain⟨c,hc⟩:∃c,PlainAid.bt s 0=c:=⟨_,rfl⟩
     rw[hc]at hre
     by_cases e5:c=48
     ·have hrv:r=false:=by rw[hre];simp[e1,e5]
      have e8:(c !=48)=false:=by simp[e5]
      subst hrv
      clear hre e5
      go_wp2_with fail
      go_ret
      exact⟨rfl,rfl⟩
     ·have hrv:r=true:=by rw[hre];simp[e3,e5]
      have e8:(c !=48)=true:=by simp[e5]
      subst hrv
      clear hre e5
      go_wp2_with fail
      go_ret
      exact⟨rfl,rfl⟩
    ·have e4:decide (1<(s.size:Int))=false:=by simp;omega
     have hrv:r=false:=by rw[hre];simp[e1,e3]
     subst hrv
     clear hre
     go_wp2_with fail
     go_ret
     exact⟨rfl,rfl⟩
theorem Kl (s:ByteArray)(w:World)(h1:s.size<=1000000)(j:Nat)(hj:j<=s.size)(hall:Hid (∀i,i<j->Lx.named (PlainAid.bt s i)=true))(hbad:Hid (j<s.size->Lx.named (PlainAid.bt s j)=false))(r:Bool)(hr:Hid ((j<s.size->r=false)/\(j=s.size->r=decide (0<s.size)))):
 Calls Tryz.prog 81 #[.string s] w λe w'=>e=.returned (.bool r)/\w=w':=by
 have hub:=PlainAid.get_bt s
 have hd:=Lib.hid λ(c:Int) (w:World)=>lF c w
 go_enter Tryz.func81,Tryz.ntmps81
 go_wp2_with fail
 go_loopw [3] (λiv wr=>∃i:Nat,iv=.int .i64 i/\i<=j/\wr=w) (λiv _=>2000000-(RowKit.intOf iv).toNat)
 case atStart=>exact⟨0,rfl,Nat.zero_le _,rfl⟩
 case round=>
  obtain⟨i,rfl,hi,rfl⟩:=hrel
  by_cases his:i<s.size
  ·have BO:(i:Int)<(s.size:Int):=by omega
   have hw1:wrap64 ((i:Int)+1)=((i+1:Nat):Int):=by unfold wrap64;omega
   obtain⟨b,hb⟩:∃b,Lx.named (PlainAid.bt s i)=b:=⟨_,rfl⟩
   have hij:b=false->r=false:=λhf=>by
    by_cases hlt:i<j
    ·rw[hall.out i hlt]at hb;rw[<-hb]at hf;cases hf
    ·exact hr.out.1 (by omega)
   have hij2:b=true->i<j:=λht=>by
    by_cases hlt:i<j
    ·exact hlt
    ·obtain rfl:i=j:=by omega
     rw[hbad.out his]at hb;rw[<-hb]at ht;cases ht
   obtain⟨c,hc⟩:∃c,PlainAid.bt s i=c:=⟨_,rfl⟩
   rw[hc]at hb
   clear hall hbad hr
   cases b with
   |true=>
    have hlt:=hij2 rfl
    clear hij hij2
    have hn:Lx.named c=true:=hb
    clear hb
    have m1:=hd.out c wr
    clear hd
    cases hdg:Lx.digit c with
    |true=>
     rw[hdg]at m1
     clear hdg hn
     go_wp2_with (go_at_call 120;refine m1.mono ?_;rintro e w1 ⟨rfl,rfl⟩)
     refine⟨⟨i+1,by first|rfl|go_num,hlt,trivial⟩,by simp[RowKit.intOf]<;>omega⟩
    |false=>
     rw[hdg]at m1
     unfold Lx.named Lx.upper at hn
     rw[hdg]at hn
     clear hdg
     by_cases h45:c=45
     ·have e1:(c !=45)=false:=by simp[h45]
      clear hn h45
      go_wp2_with (go_at_call 120;refine m1.mono ?_;rintro e w1 ⟨rfl,rfl⟩)
      refine⟨⟨i+1,by first|rfl|go_num,hlt,trivial⟩,by simp[RowKit.intOf]<;>omega⟩
     ·have e1:(c !=45)=true:=by simp[h45]
      have e2:decide (c<65)=false:=by simp[h45]at hn;simp;omega
      have e3:decide (90<c)=false:=by simp[h45]at hn;simp;omega
      clear hn h45
      go_wp2_with (go_at_call 120;refine m1.mono ?_;rintro e w1 ⟨rfl,rfl⟩)
      refine⟨⟨i+1,by first|rfl|go_num,hlt,trivial⟩,by simp[RowKit.intOf]<;>omega⟩
   |false=>
    have hlt:=hij rfl
    clear hij hij2
    subst hlt
    have hn:Lx.named c=false:=hb
    clear hb
    have m1:=hd.out c wr
    clear hd
    unfold Lx.named Lx.upper at hn
    simp only[Bool.or_eq_false_iff,Bool.and_eq_false_iff,decide_eq_false_iff_not]at hn
    obtain⟨⟨h65,hdg⟩,h45⟩:=hn
    rw[hdg]at m1
    have e1:(c !=45)=true:=by simp[h45]
    clear hdg h45
    by_cases e2:c<65
    ·have e3:decide (c<65)=true:=by simp[e2]
     clear h65
     go_wp2_with (go_at_call 120;refine m1.mono ?_;rintro e w1 ⟨rfl,rfl⟩)
     go_ret
     exact⟨rfl,rfl⟩
    ·have e3:decide (c<65)=false:=by simp[e2]
     have e4:decide (90<c)=true:=by simp;omega
     clear h65
     go_wp2_with (go_at_call 120;refine m1.mono ?_;rintro e w1 ⟨rfl,rfl⟩)
     go_ret
     exact⟨rfl,rfl⟩
  ·have BO:¬(i:Int)<(s.size:Int):=by omega
   have hre:=hr.out.2 (by omega)
   clear hall hbad hr hd
   have HRE:=Lib.hid hre
   clear hre
   go_wp2_with fail
   go_ret
   exact⟨by rw[HRE.out];rfl,rfl⟩
theorem Ku (s:ByteArray)(w:World)(h1:s.size<=1000000)(j:Nat)(hj:j<=s.size)(hall:Hid (∀i,i<j->Lx.lower (PlainAid.bt s i)=true))(hbad:Hid (j<s.size->Lx.lower (PlainAid.bt s j)=false))(r:Bool)(hr:Hid ((j<s.size->r=false)/\(j=s.size->r=decide (0<s.size)))):
 Calls Tryz.prog 82 #[.string s] w λe w'=>e=.returned (.bool r)/\w=w':=by
 have hub:=PlainAid.get_bt s
 have hd:=Lib.hid λ(c:Int) (w:World)=>lF c w
 go_enter Tryz.func82,Tryz.ntmps82
 go_wp2_with fail
 go_loopw [3] (λiv wr=>∃i:Nat,iv=.int .i64 i/\i<=j/\wr=w) (λiv _=>2000000-(RowKit.intOf iv).toNat)
 case atStart=>exact⟨0,rfl,Nat.zero_le _,rfl⟩
 case round=>
  obtain⟨i,rfl,hi,rfl⟩:=hrel
  by_cases his:i<s.size
  ·have BO:(i:Int)<(s.size:Int):=by omega
   have hw1:wrap64 ((i:Int)+1)=((i+1:Nat):Int):=by unfold wrap64;omega
   obtain⟨b,hb⟩:∃b,Lx.lower (PlainAid.bt s i)=b:=⟨_,rfl⟩
   have hij:b=false->r=false:=λhf=>by
    by_cases hlt:i<j
    ·rw[hall.out i hlt]at hb;rw[<-hb]at hf;cases hf
    ·exact hr.out.1 (by omega)
   have hij2:b=true->i<j:=λht=>by
    by_cases hlt:i<j
    ·exact hlt
    ·obtain rfl:i=j:=by omega
     rw[hbad.out his]at hb;rw[<-hb]at ht;cases ht
   obtain⟨c,hc⟩:∃c,PlainAid.bt s i=c:=⟨_,rfl⟩
   rw[hc]at hb
   clear hall hbad hr
   cases b with
   |true=>
    have hlt:=hij2 rfl
    clear hij hij2
    have hn:Lx.lower c=true:=hb
    clear hb hd
    unfold Lx.lower at hn
    have e2:decide (c<97)=false:=by simp at hn;simp;omega
    have e3:decide (122<c)=false:=by simp at hn;simp;omega
    clear hn
    go_wp2_with fail
    refine⟨⟨i+1,by first|rfl|go_num,hlt,trivial⟩,by simp[RowKit.intOf]<;>omega⟩
   |false=>
    have hlt:=hij rfl
    clear hij hij2
    subst hlt
    have hn:Lx.lower c=false:=hb
    clear hb hd
    unfold Lx.lower at hn
    by_cases e2:c<97
    ·have e3:decide (c<97)=true:=by simp[e2]
     clear hn
     go_wp2_with fail
     go_ret
     exact⟨rfl,rfl⟩
    ·have e3:decide (c<97)=false:=by simp[e2]
     have e4:decide (122<c)=true:=by simp at hn;simp;omega
     clear hn
     go_wp2_with fail
     go_ret
     exact⟨rfl,rfl⟩
  ·have BO:¬(i:Int)<(s.size:Int):=by omega
   have hre:=hr.out.2 (by omega)
   clear hall hbad hr hd
   have HRE:=Lib.hid hre
   clear hre
   go_wp2_with fail
   go_ret
   exact⟨by rw[HRE.out];rfl,rfl⟩
theorem tK (P:Int->Bool)(s:ByteArray):s.data.toList.all (λc=>P (c.toNat:Int))=true↔∀i,i<s.size->P (PlainAid.bt s i)=true:=by
 obtain⟨⟨l⟩⟩:=s
 have hl:(⟨⟨l⟩⟩:ByteArray).size=l.length:=rfl
 rw[List.all_eq_true,hl]
 constructor
 ·intro h i hi
  unfold PlainAid.bt
  rw[dif_pos (by rw[hl];exact hi)]
  exact h l[i] (List.getElem_mem hi)
 ·intro h c hc
  obtain⟨i,hi,rfl⟩:=List.getElem_of_mem hc
  have:=h i hi
  unfold PlainAid.bt at this
  rw[dif_pos (by rw[hl];exact hi)]at this
  exact this
theorem xA (s:ByteArray)(w:World)(h1:s.size<=1000000):
 Calls Tryz.prog 79 #[.string s] w λe w'=>e=.returned (.bool (Lx.whole s.data.toList))/\w=w':=by
 obtain⟨j,h2,h3,h4⟩:=uo (λi=>Lx.digit (PlainAid.bt s i)) s.size
 refine Cf s w h1 j h2 (Lib.hid h3) (Lib.hid h4) _ (Lib.hid ⟨λhj=>?_,λhj=>?_⟩)
 ·have hn:¬s.data.toList.all (λc=>Lx.digit (c.toNat:Int))=true:=by
   rw[tK]
   intro h
   have:=h4 hj
   rw[h j hj]at this
   cases this
  unfold Lx.whole Lx.all
  rw[Bool.eq_false_iff]
  intro h
  simp only[Bool.and_eq_true]at h
  exact hn h.1.2
 ·have hy:s.data.toList.all (λc=>Lx.digit (c.toNat:Int))=true:=by
   rw[tK]
   intro i hi
   exact h3 i (by omega)
  have hl:s.data.toList.length=s.size:=by obtain⟨⟨l⟩⟩:=s;rfl
  unfold Lx.whole Lx.all
  rw[hy,Bool.and_true]
  have hb:(s.data.toList.head? ==some 48)=(decide (0<s.size)&&decide (PlainAid.bt s 0=48)):=by
   rw[<-qR]
   unfold Lx.at_
   rw[<-hl]
   cases s.data.toList with
   |nil=>rfl
   |cons c l=>
    rw[Bool.eq_iff_iff]
    simp only[List.head?_cons,beq_iff_eq,Option.some.injEq,List.length_cons,List.getD_cons_zero,Bool.and_eq_true,decide_eq_true_eq]
    constructor
    ·rintro rfl
     exact⟨by omega,rfl⟩
    ·rintro⟨_,h⟩
     apply UInt8.toNat_inj.1
     show c.toNat=48
     omega
  rw[hb,hl]
  have he:s.data.toList.isEmpty=decide (s.size=0):=by
   rw[<-hl]
   cases s.data.toList<;>simp
  rw[he]
  by_cases e0:s.size=0
  ·simp[e0]
  ·by_cases e1:s.size=1
   ·simp[e1]
   ·have e2:0<s.size:=by omega
    have e3:1<s.size:=by omega
    simp[e0,e1,e2,e3]
theorem Fp (P:Int->Bool)(s:ByteArray):∃j,j<=s.size/\(∀i,i<j->P (PlainAid.bt s i)=true)/\(j<s.size->P (PlainAid.bt s j)=false)/\((j<s.size->Lx.all P s.data.toList=false)/\(j=s.size->Lx.all P s.data.toList=decide (0<s.size))):=by
 obtain⟨j,h2,h3,h4⟩:=uo (λi=>P (PlainAid.bt s i)) s.size
 refine⟨j,h2,h3,h4,λhj=>?_,λhj=>?_⟩
 ·have hn:¬s.data.toList.all (λc=>P (c.toNat:Int))=true:=by
   rw[tK]
   intro h
   have:=h4 hj
   rw[h j hj]at this
   cases this
  unfold Lx.all
  rw[Bool.eq_false_iff]
  intro h
  simp only[Bool.and_eq_true]at h
  exact hn h.2
 ·have hy:s.data.toList.all (λc=>P (c.toNat:Int))=true:=by
   rw[tK]
   intro i hi
   exact h3 i (by omega)
  have hl:s.data.toList.length=s.size:=by obtain⟨⟨l⟩⟩:=s;rfl
  unfold Lx.all
  rw[hy,Bool.and_true,<-hl]
  cases s.data.toList<;>simp
theorem Nv (s:ByteArray)(w:World)(h1:s.size<=1000000):
 Calls Tryz.prog 81 #[.string s] w λe w'=>e=.returned (.bool (Lx.all Lx.named s.data.toList))/\w=w':=by
 obtain⟨j,h2,h3,h4,h5⟩:=Fp Lx.named s
 exact Kl s w h1 j h2 (Lib.hid h3) (Lib.hid h4) _ (Lib.hid h5)
theorem Mr (s:ByteArray)(w:World)(h1:s.size<=1000000):
 Calls Tryz.prog 82 #[.string s] w λe w'=>e=.returned (.bool (Lx.all Lx.lower s.data.toList))/\w=w':=by
 obtain⟨j,h2,h3,h4,h5⟩:=Fp Lx.lower s
 exact Ku s w h1 j h2 (Lib.hid h3) (Lib.hid h4) _ (Lib.hid h5)
end Go.Proofs.YthijakidnkhbnaaGreatDoor
