/-
  Part 8 of a proof; written short by a program out of longer texts of mine.
-/
import Derived.Test.YthijakidnkhbnaaGreatDoorMqG
set_option maxRecDepth 100000
set_option maxHeartbeats 4000000
set_option linter.unusedVariables false
set_option linter.unusedSimpArgs false
namespace Go.Proofs.YthijakidnkhbnaaGreatDoor
open Go.RowKit
open Go.Proofs.YthijakidnkhbnaaGreatDoor.Ord
open Go.Proofs.YthijakidnkhbnaaGreatDoor.Ev (AV Mem Fr jJ dG eZ Sh Stop)
theorem ent37:∀args w,(callFunc 37 args).run Tryz.prog w=.ok (.enter 37 args) w:=enters_of Tryz.func37 (by kernel_rfl) rfl
theorem O1:∀args w,(callFunc 33 args).run Tryz.prog w=.ok (.enter 33 args) w:=enters_of Tryz.func33 (by kernel_rfl) rfl
theorem ent38:∀args w,(callFunc 38 args).run Tryz.prog w=.ok (.enter 38 args) w:=enters_of Tryz.func38 (by kernel_rfl) rfl
theorem bd36 (ρ:Operand->Value)(w:World):(Instr.build 36 ((#[]:Array (Nat×Operand)).map λ(i,x)=>(i,ρ x))).run Tryz.prog w=.ok (.agg (aG {}).toArray) w:=by
 go_simp
 rfl
theorem bd35 (ρ:Operand->Value)(w:World):(Instr.build 35 ((#[]:Array (Nat×Operand)).map λ(i,x)=>(i,ρ x))).run Tryz.prog w=.ok (.agg (aB {} (.slice none 0 0)).toArray) w:=by
 go_simp
 rfl
theorem ne36 (_u:Nat)(A:Ps.Amd)(x y:Operand)(w:World):(do eqGuard .neq 36 x y (.agg (aG A).toArray) (.agg (aG {}).toArray);binOp .neq 36 (.agg (aG A).toArray) (.agg (aG {}).toArray):Sem Value).run Tryz.prog w=.ok (.bool (!decide A.none)) w:=by
 unfold aG
 go_simp
 repeat' split
 all_goals simp_all [Ps.Amd.none]
def tJ (t:TypeId)(f:Nat):Option Nat:=if t=38 then(if f<4 then some f else if f=4 then some 19 else none)else if t=35/\f<16 then some f else none
def Oa (g:Nat)(Q:Ps.Req)(lv:Value):List (Option (Nat×Nat)×List Value):=[(some (g,0),Af Q lv),(none,aB {} (.slice none 0 0)),(none,aG {})]
def E5 (V:Nat->ByteArray->Bool)(Q:Ps.Req)(xi xa:Int)(sm:Bool)(f:FuncId)(vs:List AV):Option Value:=
 if f=36 then(match vs with
  |[.v (.int .i64 k),.r 0 j]=>if (k=0\/k=1\/k=2)/\(j=1\/j=2)then some (.bool (V k.toNat (if j=1 then Q.sender else Q.ref)))else none
  |_=>none)
 else if f=37 then(match vs with|[.a 0 3 16]=>some (.int .i64 xi)|_=>none)
 else if f=33 then(match vs with|[.a 0 3 16,.a 1 0 16]=>some (.bool sm)|_=>none)
 else if f=38 then(match vs with|[.a 0 19 9]=>some (.int .i64 xa)|_=>none)
 else none
def zf (Q:Ps.Req)(o:Oper)(ov:Operand->Option AV):Option AV:=match o.op with
 | .build t ps=>(match ps.toList with
   |[]=>if t=35 then some (.a 1 0 16)else if t=36 then some (.a 2 0 9)else none
   |_=>none)
 | .binOp .neq t x y _=>if t=36 then(match ov x,ov y with
   |some (.a 0 19 9),some (.a 2 0 9)=>some (.v (.bool (!decide Q.amd.none)))
   |_,_=>none)else none
 |_=>none
def reqM (V:Nat->ByteArray->Bool)(g:Nat)(Q:Ps.Req)(lv:Value)(xi xa:Int)(sm:Bool):Mem Unit:=jJ tJ (Oa g Q lv) (E5 V Q xi xa sm) (zf Q)
theorem BD {t:TypeId}{f d:Nat}(h:tJ t f=some d)(b j:Nat)(w:World):(Instr.fieldAt t (.pointer (some ⟨b,j,none⟩)) f).run Tryz.prog w=.ok (.pointer (some ⟨b,j+d,none⟩)) w:=by
 unfold tJ at h
 split at h
 ·rename_i ht
  subst ht
  split at h
  ·cases h
   rcases f with _|_|_|_|f
   all_goals first|omega|go_simp
  ·split at h
   ·rename_i h1
    subst h1
    cases h
    go_simp
   ·cases h
 ·split at h
  ·rename_i h1
   exact lW (by unfold mi;rw[if_pos (.inl h1)];exact h) b j w
  ·cases h
theorem Mm (w:World)(V:Nat->ByteArray->Bool)(Q:Ps.Req)(sa:Option Addr)(sn sc:Nat)(x xi xa:Int)(sm:Bool)
 (cV:Hid (∀(W1:World) (k:Nat) (s:ByteArray),k<3->Sz s->Below w.heap.size w W1->Calls Tryz.prog 36 #[.int .i64 k,.string s] W1 λe w'=>e=.returned (.bool (V k s))/\Below W1.heap.size W1 w'))
 (hG1:Hid (Sz Q.sender)) (hG2:Hid (Sz Q.ref))
 (nI:Hid (∀W,Below w.heap.size w W->Calls Tryz.prog 37 #[.agg (aB Q.ins (.slice sa sn sc)).toArray] W λe w'=>e=.returned (.int .i64 xi)/\Below W.heap.size W w'))
 (nS:Hid (∀W,Below w.heap.size w W->Calls Tryz.prog 33 #[.agg (aB Q.ins (.slice sa sn sc)).toArray,.agg (aB {} (.slice none 0 0)).toArray] W λe w'=>e=.returned (.bool sm)/\Below W.heap.size W w'))
 (nA:Hid (∀W,Below w.heap.size w W->Calls Tryz.prog 38 #[.agg (aG Q.amd).toArray] W λe w'=>e=.returned (.int .i64 xa)/\Below W.heap.size W w'))
 (hx:x=if ((decide (Q.op<0))||(decide (4<Q.op)))=true then 11 else(if ((!(V 1 Q.sender))||(!(V 2 Q.ref)))=true then 6 else(if (Q.op==0)=true then(if (xi !=0)=true then xi else(if ((!(Q.ins.ref.toList==Q.ref.toList))||(!(Q.ins.sender.toList==Q.sender.toList)))=true then 17 else(if (Q.op==1)=true then xa else(if (!decide Q.amd.none)=true then 3 else(0)))))else(if (!sm)=true then 3 else(if (Q.op==1)=true then xa else(if (!decide Q.amd.none)=true then 3 else(0))))))):
 Calls Tryz.prog 13 #[.agg (aA Q (.slice sa sn sc))] w λe w'=>e=.returned (.int .i64 x)/\Below w.heap.size w w':=by
 go_enter Tryz.func13,Tryz.ntmps13
 refine wp_seq ?_
 refine wp_region_lit ?_
 refine wpList_plain rfl (λK hK=>?_)
 go_simp
 refine hK _ _ ?_
 clear hK K
 refine wpList_plain rfl (λK hK=>?_)
 go_simp
 refine hK _ _ ?_
 clear hK K
 refine aL ?_
 obtain⟨g,hg⟩:∃g,g=w.heap.size:=⟨_,rfl⟩
 obtain⟨W1,hW1⟩:∃W1,W1=w.alloc (.cells (aA Q (.slice sa sn sc)) 38):=⟨_,rfl⟩
 have hrow:∀W,Below W1.heap.size W1 W->W.heap[g]? =some (.cells (Af Q (.slice sa sn sc)).toArray 38 (0,0)):=λW hW=>by
  rw[hW.block g (by rw[hW1,hg];simp),hW1,hg];exact aD w _
 have hB1:Below w.heap.size w W1:=by rw[hW1];exact(Below.refl _ _).alloc (Nat.le_refl _) _
 have up:∀W,Below W1.heap.size W1 W->Below w.heap.size w W:=λW hW=>hB1.trans (hW.mono hB1.size)
 rw[<-hg,<-hW1]
 clear hW1
 refine iq rfl λa ha hdf=>?_
 have hO:Ev.Ok Tryz.prog (λ(_:Unit) W=>Below W1.heap.size W1 W) (reqM V g Q (.slice sa sn sc) xi xa sm):=by
  refine Ev.gD (λt f d h=>BD h) (λq b o l h W hS=>?_) (λf vs v h=>?_) (λo ov v h ρ hov W hS=>?_)
  ·rcases q with _|_|_|q
   ·cases h;exact fF hrow W hS
   ·cases h
   ·cases h
   ·cases h
  ·unfold E5 at h
   split at h
   ·rename_i hf
    subst hf
    split at h
    ·split at h
     ·rename_i k j hk
      cases h
      refine⟨O3,λW hS=>?_⟩
      obtain⟨n,hn,hk3⟩:∃n:Nat,k=(n:Int)/\n<3:=by
       rcases hk.1 with rfl|rfl|rfl
       ·exact⟨0,rfl,by decide⟩
       ·exact⟨1,rfl,by decide⟩
       ·exact⟨2,rfl,by decide⟩
      subst hn
      rcases hk.2 with rfl|rfl
      ·exact(cV.out W n Q.sender hk3 hG1.out (up W hS)).mono λe w' q=>⟨q.1,hS.trans (q.2.mono hS.size)⟩
      ·exact(cV.out W n Q.ref hk3 hG2.out (up W hS)).mono λe w' q=>⟨q.1,hS.trans (q.2.mono hS.size)⟩
     ·cases h
    ·cases h
   ·split at h
    ·rename_i hf
     subst hf
     split at h
     ·cases h
      exact⟨ent37,λW hS=>(nI.out W (up W hS)).mono λe w' q=>⟨q.1,hS.trans (q.2.mono hS.size)⟩⟩
     ·cases h
    ·split at h
     ·rename_i hf
      subst hf
      split at h
      ·cases h
       exact⟨O1,λW hS=>(nS.out W (up W hS)).mono λe w' q=>⟨q.1,hS.trans (q.2.mono hS.size)⟩⟩
      ·cases h
     ·split at h
      ·rename_i hf
       subst hf
       split at h
       ·cases h
        exact⟨ent38,λW hS=>(nA.out W (up W hS)).mono λe w' q=>⟨q.1,hS.trans (q.2.mono hS.size)⟩⟩
       ·cases h
      ·cases h
  ·unfold zf at h
   split at h
   ·rename_i t ps ho
    split at h
    ·rename_i hps
     have Jy:ps=#[]:=by rw[<-Array.toArray_toList (xs:=ps),hps]
     subst Jy
     split at h
     ·rename_i ht
      subst ht
      cases h
      unfold execOp
      simp only[ho,Sem.run_bind,bd35,Result.andThen_ok]
      rfl
     ·split at h
      ·rename_i ht
       subst ht
       cases h
       unfold execOp
       simp only[ho,Sem.run_bind,bd36,Result.andThen_ok]
       rfl
      ·cases h
    ·cases h
   ·rename_i t x y t2 ho
    split at h
    ·rename_i ht
     subst ht
     split at h
     ·rename_i h1 h2
      cases h
      have e1:ρ x=.agg (aG Q.amd).toArray:=hov _ _ h1
      have e2:ρ y=.agg (aG {}).toArray:=hov _ _ h2
      unfold execOp
      simp only[ho,e1,e2]
      rw[Sem.run_bind,ne36 0]
      rfl
     ·cases h
    ·cases h
   ·cases h
 refine Ev.yh (M:=reqM V g Q (.slice sa sn sc) xi xa sm) (S:=λ_ W=>Below W1.heap.size W1 W) (n:=Tryz.f13.ntmps) (K:=[(1,.p 0 0)]) (s:=()) (v:=x) 2 hO (λ_ W h=>h.drew) (by rw[hx];kernel_rfl) (by kernel_rfl) (Ev.aC (Ev.aU (by rw[ha];rfl) hdf) (by rw[ha];rfl)) (Below.refl _ _) ?_
 intro b W s hd ht hS
 refine bodyPost_ret (results_tmp rfl _ _ _) hd ?_
 rw[hg]
 exact⟨by rw[show b.tmps.getD 2 undef=.int .i64 x from eval_at ht],hB1.trans (hS.mono hB1.size)⟩
theorem I9 (w:World)(A:Ps.Amd):
 Calls Tryz.prog 35 #[.agg (aG A).toArray] w λe w'=>e=.returned (.agg (aG A).toArray)/\Below w.heap.size w w':=by
 unfold aG
 go_enter Tryz.func35,Tryz.ntmps35
 go_wp2_with fail
 refine bodyPost_ret (results_cell_row rfl _ _ (w.heap.size+1) _ _ (0,0) _ rfl (heap_alloc2_new _ _ _) Tryz.underlying36 rfl (by kernel_rfl)) rfl ?_
 exact⟨rfl,((Below.refl _ _).alloc (Nat.le_refl _) _).alloc (by simp) _⟩
def LkL (w:World)(B:Nat)(lv:Value)(ks:List Ps.Link):Prop:=w.ownsRow B 96 2 lv ks.length (dO ks)
theorem xM:(Tryz.prog.info? 96).map (λi=>(i.zero,i.size,i.bytes))=some (some (.agg #[.int .i64 0,.string ⟨#[]⟩]),2,24):=by kernel_rfl
theorem Mc {S:World->Prop}{ρ:Operand->Value}{o:Oper}{x y:Operand}{sb n c k:Nat}(ho:o.op=.indexAddr 23 x y)(h1:ρ x=.slice (some ⟨sb,0,none⟩) n c)(h2:ρ y=.int .i64 (k:Int))(hk:k<n):YB Tryz.prog S ρ o (.pointer (some ⟨sb,k*2,none⟩)):=λw hS=>by
 have NZ:(k:Int)<(n:Int):=by omega
 unfold execOp
 simp only[ho,h1,h2]
 go_simp
 exact⟨rfl,hS⟩
theorem ME (ρ:Operand->Value)(t:Int)(s:ByteArray){x y:Operand}(h1:ρ x=.int .i64 t)(h2:ρ y=.string s)(w:World):(Instr.build 96 ((#[(0,x),(1,y)]:Array (Nat×Operand)).map λ(i,x)=>(i,ρ x))).run Tryz.prog w=.ok (.agg #[.int .i64 t,.string s]) w:=by
 simp only[List.map_toArray,List.map_cons,List.map_nil,h1,h2]
 go_simp
theorem Ow {P:Program}{c:Code}{tmps:Array Value}{Q:Exit->Act->World->Prop}{w:World}(h:∀a:Act,a.tmps=tmps->a.defers=[]->c.wp P Q a w):c.wp P Q ⟨tmps,[]⟩ w:=h _ rfl rfl
noncomputable def EU (g:Nat)(x:Ps.Link)(lv:Value)(W:World):Value×World:=
 match (Builtin.append_ #[33,33] 33 #[lv,.slice (some ⟨W.drew.heap.size,0,none⟩) 1 1]).run Tryz.prog (W.drew.alloc (.cells #[.int .i64 x.type,.string x.ref] 96))with
 | .ok v W4=>(v,W4.setCell ⟨g+2,15,none⟩ v)
 |_=>(lv,W)
noncomputable def bkN (g:Nat)(ks:List Ps.Link)(W:World):Nat->Value×World
 |0=>(.slice none 0 0,W)
 |k+1=>EU g (ks[k]?.getD ⟨0,⟨#[]⟩⟩) (bkN g ks W k).1 (bkN g ks W k).2
def bk0 (w:World)(i:Ps.Ins)(lv:Value):World:=((w.alloc (.cells (aB i lv).toArray 25)).alloc (.cells (aB {} (.slice none 0 0)).toArray 35)).alloc (.cells (aB i (.slice none 0 0)).toArray 35)
noncomputable def bkV (w:World)(i:Ps.Ins)(lv:Value):Value:=(bkN w.heap.size i.links (bk0 w i lv) i.links.length).1
noncomputable def bkW (w:World)(i:Ps.Ins)(lv:Value):World:=(bkN w.heap.size i.links (bk0 w i lv) i.links.length).2.setRow (w.heap.size+1) (aB i (bkV w i lv)).toArray
def K6 (w:World)(g:Nat)(i:Ps.Ins)(lv:Value)(k:Nat)(W:World):Prop:=
 Below g w W/\W.heap[g]? =some (.cells (aB i lv).toArray 25 (0,0))/\W.heap[g+1]? =some (.cells (aB {} (.slice none 0 0)).toArray 35 (0,0))/\
  ∃ta tc,W.heap[g+2]? =some (.cells (aB i (.slice ta k tc)).toArray 35 (0,0))/\LkL W (g+3) (.slice ta k tc) (i.links.take k)/\bkN g i.links (bk0 w i lv) k=(.slice ta k tc,W)
theorem bk_new (w:World)(i:Ps.Ins)(lv:Value):K6 w w.heap.size i lv 0 (((w.alloc (.cells (aB i lv).toArray 25)).alloc (.cells (aB {} (.slice none 0 0)).toArray 35)).alloc (.cells (aB i (.slice none 0 0)).toArray 35)):=by
 have hs1:(w.alloc (.cells (aB i lv).toArray 25)).heap.size=w.heap.size+1:=by simp
 refine⟨(((Below.refl _ _).alloc (Nat.le_refl _) _).alloc (by simp) _).alloc (by simp;omega) _,?_,?_,none,0,?_,World.ownsRow_nil _ _ _ _,rfl⟩
 ·rw[heap_alloc_old _ _ (by simp;omega),heap_alloc_old _ _ (by simp)]
  exact aD w _
 ·rw[heap_alloc_old _ _ (by simp)]
  exact heap_alloc2_new _ _ _
 ·have:=heap_alloc2_new (w.alloc (.cells (aB i lv).toArray 25)) (.cells (aB {} (.slice none 0 0)).toArray 35) (.cells (aB i (.slice none 0 0)).toArray 35)
  rw[hs1]at this
  exact this
theorem KP (w:World)(i:Ps.Ins)(sa:Option Addr)(sn sc:Nat)(hsn:Hid (sn=i.links.length))(hlt:Hid (sn<=1000000))(hlk:Hid (0<sn->∃sb,sa=some ⟨sb,0,none⟩/\∀W,Below w.heap.size w W->dM W sb i.links)):
 Calls Tryz.prog 34 #[.agg (aB i (.slice sa sn sc)).toArray] w λe w'=>e=.returned (.agg (aB i (bkV w i (.slice sa sn sc))).toArray)/\w'=bkW w i (.slice sa sn sc)/\∃ta tc,bkV w i (.slice sa sn sc)=.slice ta sn tc/\Below w.heap.size w w'/\LkL w' (w.heap.size+3) (.slice ta sn tc) i.links:=by
 obtain⟨V9,hV9⟩:∃V9,V9=bkV w i (.slice sa sn sc):=⟨_,rfl⟩
 obtain⟨X9,hX9⟩:∃X9,X9=bkW w i (.slice sa sn sc):=⟨_,rfl⟩
 rw[<-hV9,<-hX9]
 have HV9:=Lib.hid hV9
 have HX9:=Lib.hid hX9
 clear hV9 hX9
 obtain⟨g,hg⟩:∃g,g=w.heap.size:=⟨_,rfl⟩
 have HN:Hid (K6 w g i (.slice sa sn sc) 0 (((w.alloc (.cells (aB i (.slice sa sn sc)).toArray 25)).alloc (.cells (aB {} (.slice none 0 0)).toArray 35)).alloc (.cells (aB i (.slice none 0 0)).toArray 35))):=Lib.hid (by rw[hg];exact bk_new w i _)
 rw[<-hg]at hlk⊢
 have HG:=Lib.hid hg
 unfold aB
 go_enter Tryz.func34,Tryz.ntmps34
 go_upto_region 2 with fail
 rw[<-hg]
 clear hg
 rename_i K1 hK1 K hK
 refine Ow λa ha hdf=>?_
 have hsz:a.tmps.size=62:=by rw[ha];rfl
 have hf1:a.tmps[1]? =some (.pointer (some ⟨g,0,none⟩)):=by rw[ha];rfl
 have hf2:a.tmps[2]? =some (.pointer (some ⟨g+1,0,none⟩)):=by rw[ha];rfl
 have hf3:a.tmps[3]? =some (.pointer (some ⟨g+2,0,none⟩)):=by rw[ha];rfl
 clear ha
 generalize hW0:World.alloc _ _=W0
 replace HN:Hid (K6 w g i (.slice sa sn sc) 0 W0):=by rw[<-hW0];exact HN
 clear hW0
 obtain⟨vs,hvs⟩:∃vs:List Value,vs=[(.int .i64 0)]:=⟨_,rfl⟩
 refine EA (λw=>w=W0) 1 vs (by rw[hvs];rfl) rfl (by kernel_rfl) (by kernel_rfl) (by rw[hsz];kernel_rfl) rfl ?_ ?_
 ·intro ρ hD hrest hco hfu
  refine jd hvs ?_
  refine⟨aP rfl (qE rfl (hco _)),?_⟩
  exact trivial
 intro a2 w2 hS2 hK2 hD
 subst hS2
 have cZ:a2.tmps[4]? =some (.int .i64 ((0:Nat):Int)):=zU (by rw[hK2.size,hsz];decide) (bR.tmp 0 _ _ 4 hD rfl (by rw[hvs];rfl) rfl)
 clear hD hvs
 clear vs
 replace hsz:=hK2.size.trans hsz
 replace hdf:=hK2.defers.trans hdf
 replace hf1:=(hK2.rest 1 (by decide +kernel)).trans hf1
 replace hf2:=(hK2.rest 2 (by decide +kernel)).trans hf2
 replace hf3:=(hK2.rest 3 (by decide +kernel)).trans hf3
 clear hK2
 refine hK _ _ ?_
 clear hK K
 refine wp_block ?_
 refine wp_loop (λa w1=>∃k:Nat,k<=sn/\a.tmps.size=62/\a.defers=[]/\a.tmps[1]? =some (.pointer (some ⟨g,0,none⟩))/\a.tmps[2]? =some (.pointer (some ⟨g+1,0,none⟩))/\a.tmps[3]? =some (.pointer (some ⟨g+2,0,none⟩))/\a.tmps[4]? =some (.int .i64 (k:Int))/\Hid (K6 w g i (.slice sa sn sc) k w1)) (λa _=>sn+1-(RowKit.intOf (a.tmps.getD 4 undef)).toNat) ⟨0,Nat.zero_le _,hsz,hdf,hf1,hf2,hf3,cZ,HN⟩ ?_
 clear hsz hdf hf1 hf2 hf3 cZ HN
 rintro a W1 ⟨k,hk,hsz,hdf,hf1,hf2,hf3,cZ,HN⟩
 have h40:=Lib.hid cZ
 refine wp_seq ?_
 have hcell0:W1.cell? ⟨g,15,none⟩=some (.slice sa sn sc):=by rw[cell_of_row _ _ _ _ _ _ HN.out.2.1];rfl
 have HC0:=Lib.hid hcell0
 clear hcell0
 obtain⟨b40,L8⟩:∃b,(decide ((k:Int)<(sn:Int)))=b:=⟨_,rfl⟩
 obtain⟨vs,hvs⟩:∃vs:List Value,vs=[(.int .i64 (k:Int)),(.pointer (some ⟨g,15,none⟩)),(.slice sa sn sc),(.int .i64 (sn:Int)),(.bool b40)]:=⟨_,rfl⟩
 refine wz (b40) (λw=>w=W1) 5 vs (by rw[hvs];rfl) rfl (by kernel_rfl) (by kernel_rfl) (by rw[hsz];kernel_rfl) rfl ?_ ?_ ?_ ?_
 ·intro ρ hD hrest hco hfu
  have e1:ρ (.tmp 1)=.pointer (some ⟨g,0,none⟩):=(hrest 1 (by decide +kernel)).trans (eval_at hf1)
  have e4:ρ (.tmp 4)=.int .i64 (k:Int):=(hrest 4 (by decide +kernel)).trans (eval_at cZ)
  obtain⟨e36,e37,e38,e39,e40,-⟩:ρ (.tmp 36)=(.int .i64 (k:Int))/\ρ (.tmp 37)=(.pointer (some ⟨g,15,none⟩))/\ρ (.tmp 38)=(.slice sa sn sc)/\ρ (.tmp 39)=(.int .i64 (sn:Int))/\ρ (.tmp 40)=(.bool b40)/\True:=dS hvs hD
  refine jd hvs ?_
  refine⟨aP rfl (bG rfl e4),?_⟩
  refine⟨aP rfl (bS rfl e1 (λw=>by go_simp)),?_⟩
  refine⟨aP rfl (bT rfl e37 (λw hS=>LZ _ w _ _ _ (by rw[hS];exact HC0.out))),?_⟩
  refine⟨aP rfl (y_len rfl rfl e38),?_⟩
  refine⟨aP rfl (ry rfl e36 e39 (cmE L8 (cm_lt3 _ _ _ _))),?_⟩
  exact trivial
 ·intro ρ hD;exact bR.tmp 4 _ _ 40 hD rfl (by rw[hvs];rfl) rfl
 rotate_left
 ·intro hcf b w9 hS9 hK2
  have hkn:¬(k:Int)<(sn:Int):=by subst L8;simpa using hcf
  subst hS9
  obtain rfl:k=sn:=by omega
  refine wp_exit ?_
  simp only[Exit.then,Exit.inBlock,if_true]
  replace hsz:=hK2.size.trans hsz
  replace hdf:=hK2.defers.trans hdf
  replace hf2:=(hK2.rest 2 (by decide +kernel)).trans hf2
  replace hf3:=(hK2.rest 3 (by decide +kernel)).trans hf3
  refine hK1 _ _ ?_
  obtain⟨hB0,hr0,hr1,ta,tc,hr2,hown,hbn⟩:=HN.out
  obtain⟨W9,JR⟩:∃W9,W9=w9.setRow (g+1) (aB i (.slice ta k tc)).toArray:=⟨_,rfl⟩
  have He:W9.heap[g+1]? =some (.cells (aB i (.slice ta k tc)).toArray 35 (0,0)):=by rw[JR];exact setRow_heap w9 (g+1) _ _ _ _ hr1
  have qW:∀j,j≠g+1->W9.heap[j]? =w9.heap[j]?:=λj hj=>by rw[JR];exact setRow_other w9 (g+1) j _ hj
  have hz9:W9.heap.size=w9.heap.size:=by rw[JR];exact setRow_size w9 (g+1) _
  have PZ:Below g w W9:=⟨by rw[JR];exact hB0.os,by rw[JR];exact hB0.tape,by rw[JR];exact hB0.output,by rw[hz9];exact hB0.size,λj hj=>(qW j (by omega)).trans (hB0.block j hj)⟩
  have hL9:LkL W9 (g+3) (.slice ta k tc) i.links:=by
   have e:i.links.take k=i.links:=List.take_of_length_le (by have:=hsn.out;omega)
   rw[e]at hown
   exact bP hown λj hj=>qW j (by have:=(hown.lt j hj).1;omega)
  have hv9:V9=.slice ta k tc:=by rw[HV9.out];unfold bkV;rw[<-hsn.out,<-HG.out,hbn]
  have hx9:X9=W9:=by rw[HX9.out,JR];unfold bkW;rw[<-HV9.out,hv9,<-hsn.out,<-HG.out,hbn]
  have HV:=Lib.hid hv9
  have HX:=Lib.hid hx9
  clear hv9 hx9 hbn
  have Mk:=Lib.hid PZ
  have HL9:=Lib.hid hL9
  have HR9:=Lib.hid He
  have HW9:=Lib.hid JR
  clear PZ hL9 He qW hz9 hown JR hB0 hr0 HC0
  have HRI:Hid (w9.heap[g+2]? =some (.cells (aB i (.slice ta k tc)).toArray 35 (0,0))):=Lib.hid hr2
  have HR1:=Lib.hid hr1
  clear hr2 hr1 hvs hcf L8 cZ hf1 h40
  obtain⟨vs,hvs⟩:∃vs:List Value,vs=[.agg (aB i (.slice ta k tc)).toArray,undef]:=⟨_,rfl⟩
  refine wp_seq ?_
  refine dw (λn w=>w=if n=2 then W9 else w9) 2 vs (by rw[hvs];rfl) rfl (by kernel_rfl) (by kernel_rfl) (by rw[hsz];kernel_rfl) rfl ?_ ?_
  ·intro ρ hD hrest hco hfu
   have e2:ρ (.tmp 2)=.pointer (some ⟨g+1,0,none⟩):=(hrest 2 (by decide +kernel)).trans (eval_at hf2)
   have e3:ρ (.tmp 3)=.pointer (some ⟨g+2,0,none⟩):=(hrest 3 (by decide +kernel)).trans (eval_at hf3)
   obtain⟨e61,-⟩:ρ (.tmp 61)=(.agg (aB i (.slice ta k tc)).toArray)/\True/\True:=dS hvs hD
   refine mr hvs ?_
   refine⟨aF (B:=λw=>w=w9) (λw h=>h) (λw h=>h) (λw0=>aP rfl (bT rfl e3 (λw hS=>by
    have:=run_loadVar_row (P:=Tryz.prog) w (g+2) 35 35 (aB i (.slice ta k tc)).toArray (0,0) _ (by rw[hS.2];exact HRI.out) Tryz.underlying35 rfl (by kernel_rfl)
    unfold Instr.loadAt
    simp[Instr.sureAddr,this]))),?_⟩
   refine⟨⟨λ_ w hS=>?_,λh=>by have h2:true=false:=h;cases h2⟩,trivial⟩
   obtain rfl:w=w9:=hS
   unfold execOp
   simp only[e2,e61,Instr.storeAt,Instr.sureAddr,Sem.run_bind,Sem.run_pure,Result.andThen_ok,run_storeVar_row (P:=Tryz.prog) w (g+1) 35 35 (aB {} (.slice none 0 0)).toArray (aB i (.slice ta k tc)).toArray HR1.out (by kernel_rfl) rfl (by unfold aB;simp[Value.oneCell'])]
   exact⟨rfl,HW9.out.symm⟩
  intro b2 w2 hS2 hK3 hD
  obtain rfl:w2=W9:=hS2
  refine wp_ret ?_
  try simp only[Exit.then,Exit.inBlock]
  refine bodyPost_ret (results_cell_row rfl _ _ (g+1) _ _ (0,0) _ ?_ HR9.out Tryz.underlying35 rfl (by kernel_rfl)) (hK3.defers.trans hdf) ?_
  ·exact eval_at ((hK3.rest 2 (by decide +kernel)).trans hf2)
  exact⟨by rw[HV.out];rfl,HX.out.symm,ta,tc,HV.out,Mk.out,HL9.out⟩
 intro hct a2 w2 hS2 hK2
 subst hS2
 have hkn:(k:Int)<(sn:Int):=by subst L8;simpa using hct
 have hkn2:k<sn:=by omega
 replace hsz:=hK2.size.trans hsz
 replace hdf:=hK2.defers.trans hdf
 replace hf1:=(hK2.rest 1 (by decide +kernel)).trans hf1
 replace hf2:=(hK2.rest 2 (by decide +kernel)).trans hf2
 replace hf3:=(hK2.rest 3 (by decide +kernel)).trans hf3
 replace cZ:=(hK2.rest 4 (by decide +kernel)).trans cZ
 clear hK2 hvs hct L8
 clear b40 vs hK1
 obtain⟨x0,hx0⟩:∃x0,i.links[k]? =some x0:=⟨_,List.getElem?_eq_getElem (by rw[<-hsn.out];exact hkn2)⟩
 obtain⟨sb,hsa,PL⟩:=hlk.out (by omega)
 subst hsa
 obtain⟨hB0,hr0,hr1,ta,tc,hr2,hown,hbn⟩:=HN.out
 obtain⟨W2,hW2⟩:∃W2,W2=w2.drew:=⟨_,rfl⟩
 obtain⟨W3,hW3⟩:∃W3,W3=W2.alloc (.cells #[.int .i64 x0.type,.string x0.ref] 96):=⟨_,rfl⟩
 have hkl:(i.links.take k).length=k:=by rw[List.length_take];have:=hsn.out;omega
 have hz2:W2.heap=w2.heap:=by rw[hW2];rfl
 have hs3:W3.heap.size=W2.heap.size+1:=by rw[hW3];simp
 have zt:Below W2.heap.size W2 W3:=by rw[hW3];exact(Below.refl _ _).alloc (Nat.le_refl _) _
 have hb2:Below g w W2:=by rw[hW2];exact hB0.drew
 have hgs:g+2<W2.heap.size:=by rw[hz2];exact(Array.getElem?_eq_some_iff.1 hr2).1
 have hl3:W3.ownsRow (g+3) 96 2 (.slice ta k tc) k (dO (i.links.take k)):=by
  unfold LkL at hown
  rw[hkl]at hown
  refine bP hown λj hj=>?_
  have hj2:j<W2.heap.size:=by rw[hz2];exact(hown.lt j hj).2
  rw[zt.block j hj2,hz2]
 have hrow3:W3.heap[W2.heap.size]? =some (.cells #[.int .i64 x0.type,.string x0.ref] 96 (0,0)):=by rw[hW3];exact aD W2 _
 obtain⟨i0,hii,hz0,hz1,hz2'⟩:=info_parts xM
 obtain⟨v9,W4,He,qW,qX,hat9⟩:=nz (w:=W3) 33 33 96 i0 (.agg #[.int .i64 0,.string ⟨#[]⟩]) 2 24 Tryz.underlying33 hii hz0 hz1 hz2' rfl (by decide) (g+3) (.slice ta k tc) k (dO (i.links.take k))
  hl3 (some ⟨W2.heap.size,0,none⟩) 1 1 [.int .i64 x0.type,.string x0.ref] rfl (λad ha=>by cases ha;exact World.news_of_block hrow3) (λe=>by cases e) (by intro u hu;simp at hu;rcases hu with rfl|rfl<;>rfl) (by unfold maxLen;have:=hlt.out;omega) (by have:=hlt.out;omega) (by omega)
 obtain⟨va,vc,rfl⟩:=dB qW
 have hblk:∀j,j<g+3->W4.heap[j]? =w2.heap[j]?:=λj hj=>by
  have h1:W4.heap[j]? =W3.heap[j]?:=qX.block j (by omega) (λe=>by have:=(hl3.lt j e.symm).1;omega)
  rw[h1,zt.block j (by omega),hz2]
 have Oo:W4.heap[g+2]? =some (.cells (aB i (.slice ta k tc)).toArray 35 (0,0)):=(hblk (g+2) (by omega)).trans hr2
 obtain⟨W5,jw⟩:∃W5,W5=W4.setCell ⟨g+2,15,none⟩ (.slice va (k+1) vc):=⟨_,rfl⟩
 have hr25:W5.heap[g+2]? =some (.cells (aB i (.slice va (k+1) vc)).toArray 35 (0,0)):=by
  rw[jw]
  exact aN W4 (g+2) 15 _ _ (.slice va (k+1) vc) Oo
 have PH:∀j,j≠g+2->W5.heap[j]? =W4.heap[j]?:=λj hj=>by
  rw[jw]
  exact Below.heap_setCell W4 _ _ j (λe=>hj (by rw[e]))
 have hsz5:W5.heap.size=W4.heap.size:=by rw[jw];simp[World.setCell]
 have hsz4:W2.heap.size<=W4.heap.size:=Nat.le_trans zt.size qX.size
 have HN5:Hid (K6 w g i (.slice (some ⟨sb,0,none⟩) sn sc) (k+1) W5):=Lib.hid ⟨⟨by rw[jw];exact qX.os.trans (zt.os.trans hb2.os),by rw[jw];exact qX.tape.trans (zt.tape.trans hb2.tape),by rw[jw];exact qX.output.trans (zt.output.trans hb2.output),by have:=hb2.size;omega,λj hj=>by
  rw[PH j (by omega),hblk j (by omega)];exact hB0.block j hj⟩,(PH g (by omega)).trans ((hblk g (by omega)).trans hr0),(PH (g+1) (by omega)).trans ((hblk (g+1) (by omega)).trans hr1),va,vc,hr25,by
  unfold LkL
  have e1:i.links.take (k+1)=i.links.take k++[x0]:=by rw[List.take_add_one,hx0];rfl
  rw[e1,kC,List.length_append,hkl]
  exact bP qW λj hj=>PH j (by have:=(qW.lt j hj).1;omega),by
  show EU g (i.links[k]?.getD ⟨0,⟨#[]⟩⟩) (bkN g i.links (bk0 w i (.slice (some ⟨sb,0,none⟩) sn sc)) k).1 (bkN g i.links (bk0 w i (.slice (some ⟨sb,0,none⟩) sn sc)) k).2=_
  rw[hbn,hx0]
  unfold EU
  rw[hW3,hW2]at He
  simp only[Option.getD_some,He,jw]⟩
 have hcg:W2.cell? ⟨g,15,none⟩=some (.slice (some ⟨sb,0,none⟩) sn sc):=by rw[cell_of_row W2 g _ _ _ _ (by rw[hz2];exact hr0)];rfl
 have hco2:W2.cell? ⟨g+2,15,none⟩=some (.slice ta k tc):=by rw[cell_of_row W2 (g+2) _ _ _ _ (by rw[hz2];exact hr2)];rfl
 have hco3:W3.cell? ⟨g+2,15,none⟩=some (.slice ta k tc):=by rw[cell_of_row W3 (g+2) _ _ _ _ (by rw[zt.block _ hgs,hz2];exact hr2)];rfl
 obtain⟨hlt1,hlt2⟩:=PL W2 hb2 k x0 hx0
 have hc4:W4.cell? ⟨g+2,15,none⟩=some (.slice ta k tc):=by rw[cell_of_row W4 (g+2) _ _ _ _ Oo];rfl
 have hfz:W4.frozen? ⟨g+2,15,none⟩=false:=aJ 15 Oo
 have HR9:=Lib.hid He
 have HW2:=Lib.hid hW2
 have HW3:=Lib.hid hW3
 have HW5:=Lib.hid jw
 clear hbn hB0 hr0 hr1 hr2 hown hkl hz2 hs3 zt hb2 hgs hl3 hrow3 hii hz0 hz1 hz2' He qW qX hat9 hblk Oo jw hr25 PH hsz5 hsz4 PL hW2 hW3 HC0 HN hx0 hlk
 clear i0
 refine wp_skip ?_
 refine wp_seq (wp_block ?_)
 obtain⟨vs,hvs⟩:∃vs:List Value,vs=[(.pointer (some ⟨g+2,15,none⟩)),(.slice ta k tc),(.pointer (some ⟨g,15,none⟩)),(.slice (some ⟨sb,0,none⟩) sn sc),(.int .i64 (k:Int)),(.pointer (some ⟨sb,k*2,none⟩)),(.pointer (some ⟨sb,k*2,none⟩)),(.int .i64 x0.type),(.pointer (some ⟨g,15,none⟩)),(.slice (some ⟨sb,0,none⟩) sn sc),(.int .i64 (k:Int)),(.pointer (some ⟨sb,k*2,none⟩)),(.pointer (some ⟨sb,k*2+1,none⟩)),(.string x0.ref),(.agg #[.int .i64 x0.type,.string x0.ref]),(.slice (some ⟨W2.heap.size,0,none⟩) 1 1),(.slice va (k+1) vc),(.pointer (some ⟨g+2,15,none⟩)),(undef)]:=⟨_,rfl⟩
 refine dE (λdn w=>w=if dn 18 then W5 else if dn 16 then W4 else if dn 15 then W3 else W2) (Ord.inD [(1,0),(3,2),(5,2),(5,3),(5,4),(6,2),(6,3),(6,4),(6,5),(7,2),(7,3),(7,4),(7,5),(7,6),(9,8),(11,8),(11,9),(11,10),(12,8),(12,9),(12,10),(12,11),(13,8),(13,9),(13,10),(13,11),(13,12),(14,2),(14,3),(14,4),(14,5),(14,6),(14,7),(14,8),(14,9),(14,10),(14,11),(14,12),(14,13),(15,2),(15,3),(15,4),(15,5),(15,6),(15,7),(15,8),(15,9),(15,10),(15,11),(15,12),(15,13),(15,14),(16,0),(16,1),(16,2),(16,3),(16,4),(16,5),(16,6),(16,7),(16,8),(16,9),(16,10),(16,11),(16,12),(16,13),(16,14),(16,15),(18,0),(18,1),(18,2),(18,3),(18,4),(18,5),(18,6),(18,7),(18,8),(18,9),(18,10),(18,11),(18,12),(18,13),(18,14),(18,15),(18,16),(18,17)]) (Ord.ig (by kernel_rfl)) 19 vs (by rw[hvs];rfl) rfl rfl (by kernel_rfl) (by kernel_rfl) (by kernel_rfl) (by rw[hsz];kernel_rfl) (by simpa using HW2.out.symm) ?_ ?_
 ·intro ρ hD hrest hco hfu
  have e1:ρ (.tmp 1)=.pointer (some ⟨g,0,none⟩):=(hrest 1 (by decide +kernel)).trans (eval_at hf1)
  have e3:ρ (.tmp 3)=.pointer (some ⟨g+2,0,none⟩):=(hrest 3 (by decide +kernel)).trans (eval_at hf3)
  have e4:ρ (.tmp 4)=.int .i64 (k:Int):=(hrest 4 (by decide +kernel)).trans (eval_at cZ)
  obtain⟨e43,e44,e45,e46,e47,e48,e49,e50,e51,e52,e53,e54,e55,e56,e57,e58,e59,e60,-⟩:ρ (.tmp 43)=(.pointer (some ⟨g+2,15,none⟩))/\ρ (.tmp 44)=(.slice ta k tc)/\ρ (.tmp 45)=(.pointer (some ⟨g,15,none⟩))/\ρ (.tmp 46)=(.slice (some ⟨sb,0,none⟩) sn sc)/\ρ (.tmp 47)=(.int .i64 (k:Int))/\ρ (.tmp 48)=(.pointer (some ⟨sb,k*2,none⟩))/\ρ (.tmp 49)=(.pointer (some ⟨sb,k*2,none⟩))/\ρ (.tmp 50)=(.int .i64 x0.type)/\ρ (.tmp 51)=(.pointer (some ⟨g,15,none⟩))/\ρ (.tmp 52)=(.slice (some ⟨sb,0,none⟩) sn sc)/\ρ (.tmp 53)=(.int .i64 (k:Int))/\ρ (.tmp 54)=(.pointer (some ⟨sb,k*2,none⟩))/\ρ (.tmp 55)=(.pointer (some ⟨sb,k*2+1,none⟩))/\ρ (.tmp 56)=(.string x0.ref)/\ρ (.tmp 57)=(.agg #[.int .i64 x0.type,.string x0.ref])/\ρ (.tmp 58)=(.slice (some ⟨W2.heap.size,0,none⟩) 1 1)/\ρ (.tmp 59)=(.slice va (k+1) vc)/\ρ (.tmp 60)=(.pointer (some ⟨g+2,15,none⟩))/\True/\True:=dS hvs hD
  refine jZ hvs ?_
  refine⟨λdn hn hd he=>aF (B:=λ_=>True) (λw h=>by simpa using h) (λ_ _=>trivial) (λw0=>aP rfl (bS rfl e3 (λw=>by go_simp))),?_⟩
  refine⟨λdn hn hd he=>aF (B:=λw=>w=W2\/w=W3) (λw h=>by simpa using h) (λw h=>by have h16:=he 16 rfl;have h18:=he 18 rfl;simp only[h16,h18,Bool.false_eq_true,if_false]at h;split at h<;>first|exact .inr h|exact .inl h) (λw0=>aP rfl (bT rfl e43 (λw hS=>yT _ w _ _ _ (by rcases hS.2 with h|h<;>rw[h]<;>first|exact hco2|exact hco3)))),?_⟩
  refine⟨λdn hn hd he=>aF (B:=λ_=>True) (λw h=>by simpa using h) (λ_ _=>trivial) (λw0=>aP rfl (bS rfl e1 (λw=>by go_simp))),?_⟩
  refine⟨λdn hn hd he=>aF (B:=λw=>w=W2) (λw h=>by simpa using h) (λw h=>by have Mo:=he 15 rfl;have h16:=he 16 rfl;have h18:=he 18 rfl;simp only[Mo,h16,h18,Bool.false_eq_true,if_false]at h;exact h) (λw0=>aP rfl (bT rfl e45 (λw hS=>LZ _ w _ _ _ (by rw[hS.2];exact hcg)))),?_⟩
  refine⟨λdn hn hd he=>aF (B:=λ_=>True) (λw h=>by simpa using h) (λ_ _=>trivial) (λw0=>aP rfl (bG rfl e4)),?_⟩
  refine⟨λdn hn hd he=>aF (B:=λ_=>True) (λw h=>by simpa using h) (λ_ _=>trivial) (λw0=>aP rfl (Mc rfl e46 e47 hkn2)),?_⟩
  refine⟨λdn hn hd he=>aF (B:=λ_=>True) (λw h=>by simpa using h) (λ_ _=>trivial) (λw0=>aP rfl (bS rfl e48 (λw=>by go_simp))),?_⟩
  refine⟨λdn hn hd he=>aF (B:=λw=>w=W2) (λw h=>by simpa using h) (λw h=>by have Mo:=he 15 rfl;have h16:=he 16 rfl;have h18:=he 18 rfl;simp only[Mo,h16,h18,Bool.false_eq_true,if_false]at h;exact h) (λw0=>aP rfl (bT rfl e49 (λw hS=>lZ _ w _ (by rw[hS.2];exact hlt1)))),?_⟩
  refine⟨λdn hn hd he=>aF (B:=λ_=>True) (λw h=>by simpa using h) (λ_ _=>trivial) (λw0=>aP rfl (bS rfl e1 (λw=>by go_simp))),?_⟩
  refine⟨λdn hn hd he=>aF (B:=λw=>w=W2) (λw h=>by simpa using h) (λw h=>by have Mo:=he 15 rfl;have h16:=he 16 rfl;have h18:=he 18 rfl;simp only[Mo,h16,h18,Bool.false_eq_true,if_false]at h;exact h) (λw0=>aP rfl (bT rfl e51 (λw hS=>LZ _ w _ _ _ (by rw[hS.2];exact hcg)))),?_⟩
  refine⟨λdn hn hd he=>aF (B:=λ_=>True) (λw h=>by simpa using h) (λ_ _=>trivial) (λw0=>aP rfl (bG rfl e4)),?_⟩
  refine⟨λdn hn hd he=>aF (B:=λ_=>True) (λw h=>by simpa using h) (λ_ _=>trivial) (λw0=>aP rfl (Mc rfl e52 e53 hkn2)),?_⟩
  refine⟨λdn hn hd he=>aF (B:=λ_=>True) (λw h=>by simpa using h) (λ_ _=>trivial) (λw0=>aP rfl (bS rfl e54 (λw=>by go_simp))),?_⟩
  refine⟨λdn hn hd he=>aF (B:=λw=>w=W2) (λw h=>by simpa using h) (λw h=>by have Mo:=he 15 rfl;have h16:=he 16 rfl;have h18:=he 18 rfl;simp only[Mo,h16,h18,Bool.false_eq_true,if_false]at h;exact h) (λw0=>aP rfl (bT rfl e55 (λw hS=>yB _ w _ (by rw[hS.2];exact hlt2)))),?_⟩
  refine⟨λdn hn hd he=>aF (B:=λ_=>True) (λw h=>by simpa using h) (λ_ _=>trivial) (λw0=>aP rfl (kJ rfl (ME ρ _ _ e50 e56))),?_⟩
  refine⟨λdn hn hd he=>⟨λ_ w hS=>?_,λh=>by have h2:true=false:=h;cases h2⟩,?_⟩
  ·have h16:=he 16 rfl;have h18:=he 18 rfl
   simp only[hn,h16,h18,Bool.false_eq_true,if_false]at hS
   subst hS
   unfold execOp
   simp only[e57]
   go_simp
   exact⟨rfl,by simp[h16,h18];first|done|exact HW3.out.symm⟩
  refine⟨λdn hn hd he=>⟨λ_ w hS=>?_,λh=>by have h2:true=false:=h;cases h2⟩,?_⟩
  ·have Mo:=hd 15 rfl;have h18:=he 18 rfl
   simp only[hn,Mo,h18,Bool.false_eq_true,if_false,if_true]at hS
   subst hS
   unfold execOp
   simp only[resolve,invoke,builtin,Sem.run_bind,Sem.run_pure,Result.andThen_ok,List.map_toArray,List.map_cons,List.map_nil,e44,e58,HR9.out]
   exact⟨rfl,by simp[h18]⟩
  refine⟨λdn hn hd he=>aF (B:=λ_=>True) (λw h=>by simpa using h) (λ_ _=>trivial) (λw0=>aP rfl (bS rfl e3 (λw=>by go_simp))),?_⟩
  refine⟨λdn hn hd he=>⟨λ_ w hS=>?_,λh=>by have h2:true=false:=h;cases h2⟩,?_⟩
  ·have h16:=hd 16 rfl
   simp only[hn,h16,Bool.false_eq_true,if_false,if_true]at hS
   subst hS
   unfold execOp
   simp only[e60,e59]
   go_simp
   exact⟨rfl,by simp;first|done|exact HW5.out.symm⟩
  exact trivial
 intro a5 w5 hS5 hK5 hD5
 have JQ:w5=W5:=by simpa using hS5
 subst JQ
 replace hsz:=hK5.size.trans hsz
 replace hdf:=hK5.defers.trans hdf
 replace hf1:=(hK5.rest 1 (by decide +kernel)).trans hf1
 replace hf2:=(hK5.rest 2 (by decide +kernel)).trans hf2
 replace hf3:=(hK5.rest 3 (by decide +kernel)).trans hf3
 replace cZ:=(hK5.rest 4 (by decide +kernel)).trans cZ
 clear hK5 hD5 hvs
 simp only[Exit.then,Exit.inBlock]
 have hadd:IntKind.i64.wrap ((k:Int)+1)=(k:Int)+1:=IntWalk.i64_in _ (by have:=hlt.out;omega)
 refine Fz rfl rfl rfl rfl rfl rfl rfl rfl rfl cZ (by rw[hsz];decide) (by rw[hsz];decide) hadd λb2 hd2 hs2 hf4' hk2=>?_
 have e5:((k+1:Nat):Int)=(k:Int)+1:=by omega
 refine⟨⟨k+1,hkn2,hs2.trans hsz,hd2.trans hdf,(hk2 1 (by decide) (by decide) (by decide)).trans hf1,(hk2 2 (by decide) (by decide) (by decide)).trans hf2,(hk2 3 (by decide) (by decide) (by decide)).trans hf3,by rw[e5];exact hf4',HN5⟩,?_⟩
 rw[Array.getD_eq_getD_getElem?,Array.getD_eq_getD_getElem?,hf4',h40.out]
 simp only[Option.getD_some,RowKit.intOf]
 omega
structure OAt (W:World)(r tb cap:Nat)(l:List Ps.Tok)(g sb:Nat)(ty:TypeId)(st:Ps.St)(s4:List Bool)(i:Ps.Ins)(lv:Value)(w:World):Prop where
 rd:ae w r tb cap l st
 row:w.heap[g]? =some (.cells (aB i lv).toArray 35 (0,0))
 zero:w.heap[g+1]? =some (.cells (aB {} (.slice none 0 0)).toArray 35 (0,0))
 seen:w.heap[sb]? =some (.cells (bI s4) ty (0,0))
 links:LkL w (sb+1) lv i.links
 tch:Tch r r W w
 hg:g=W.heap.size
 hsb:sb=g+2
 hr:r<g
 htb:tb<g
 four:s4.length=4
variable {W : World} {r tb cap : Nat} {l : List Ps.Tok} {g sb : Nat} {ty : TypeId} {st st' : Ps.St} {s4 : List Bool} {i : Ps.Ins} {lv : Value} {w w' : World}
theorem OAt.size (h:OAt W r tb cap l g sb ty st s4 i lv w):sb<w.heap.size:=(Array.getElem?_eq_some_iff.1 h.seen).1
theorem OAt.reader (h:OAt W r tb cap l g sb ty st s4 i lv w)(hs:ae w' r tb cap l st')(hT:Tch r r w w'):OAt W r tb cap l g sb ty st' s4 i lv w':=by
 have h1:=h.hr;have h2:=h.hsb;have h3:=h.size
 have up:∀j,j<w.heap.size->j≠r->w'.heap[j]? =w.heap[j]?:=λj hj hne=>hT.block j hj hne hne
 exact⟨hs,(up g (by omega) (by omega)).trans h.row,(up (g+1) (by omega) (by omega)).trans h.zero,(up sb h3 (by omega)).trans h.seen,bP h.links (λj hj=>up j (h.links.lt j hj).2 (by have:=(h.links.lt j hj).1;omega)),h.tch.trans hT,h.hg,h.hsb,h.hr,h.htb,h.four⟩
theorem OAt.drewN (h:OAt W r tb cap l g sb ty st s4 i lv w)(k:Nat):OAt W r tb cap l g sb ty st s4 i lv (w.drewN k):=h.reader (h.rd.drewN k) (Tch.drewN _ _ _ _)
theorem OAt.below (h:OAt W r tb cap l g sb ty st s4 i lv w)(hb:Below w.heap.size w w'):OAt W r tb cap l g sb ty st s4 i lv w':=h.reader (h.rd.below hb) (Tch.of_below hb)
theorem OAt.once (h:OAt W r tb cap l g sb ty st s4 i lv w){s5:List Bool}(h5:s5.length=4)(hs:ae w' r tb cap l st')(hn:w'.heap[sb]? =some (.cells (bI s5) ty (0,0)))(hT:Tch r sb w w'):OAt W r tb cap l g sb ty st' s5 i lv w':=by
 have h1:=h.hr;have h2:=h.hsb;have h3:=h.size;have h4:=h.hg
 have up:∀j,j<w.heap.size->j≠r->j≠sb->w'.heap[j]? =w.heap[j]?:=λj hj hne hn2=>hT.block j hj hne hn2
 refine⟨hs,(up g (by omega) (by omega) (by omega)).trans h.row,(up (g+1) (by omega) (by omega) (by omega)).trans h.zero,hn,bP h.links (λj hj=>up j (h.links.lt j hj).2 (by have:=(h.links.lt j hj).1;omega) (by have:=(h.links.lt j hj).1;omega)),?_,h.hg,h.hsb,h.hr,h.htb,h5⟩
 exact⟨hT.os.trans h.tch.os,hT.tape.trans h.tch.tape,hT.output.trans h.tch.output,Nat.le_trans h.tch.size hT.size,λj hj a b=>(up j (Nat.lt_of_lt_of_le hj h.tch.size) a (by omega)).trans (h.tch.block j hj a b)⟩
theorem OAt.field (h:OAt W r tb cap l g sb ty st s4 i lv w)(j:Nat)(v:Value)(i':Ps.Ins)(lv':Value)(hc:(aB i lv).toArray.setIfInBounds j v=(aB i' lv').toArray)(hl:LkL w (sb+1) lv' i'.links):OAt W r tb cap l g sb ty st s4 i' lv' (w.setCell ⟨g,j,none⟩ v):=by
 have h1:=h.hr;have h2:=h.hsb;have h3:=h.size;have h4:=h.hg
 have up:∀k,k≠g->(w.setCell ⟨g,j,none⟩ v).heap[k]? =w.heap[k]?:=λk hk=>Below.heap_setCell w _ _ k (λe=>hk (by rw[e]))
 have hsz:(w.setCell ⟨g,j,none⟩ v).heap.size=w.heap.size:=by simp[World.setCell]
 have hT:Tch g g w (w.setCell ⟨g,j,none⟩ v):=(Tch.refl g g w).setCell j v
 have htb:=h.htb
 refine⟨h.rd.tch hT.right (by omega) (by omega),?_,(up (g+1) (by omega)).trans h.zero,(up sb (by omega)).trans h.seen,bP hl (λk hk=>up k (by have:=(hl.lt k hk).1;omega)),?_,h.hg,h.hsb,h.hr,h.htb,h.four⟩
 ·rw[aN w g j _ _ v h.row,hc]
 ·exact⟨hT.os.trans h.tch.os,hT.tape.trans h.tch.tape,hT.output.trans h.tch.output,by rw[hsz];exact h.tch.size,λk hk a b=>(up k (by omega)).trans (h.tch.block k hk a b)⟩
def fI (n r:Nat)(w:World):Nat:=match w.cell? ⟨r,2,none⟩with
 |some (.int _ e)=>if e=0 then(match w.cell? ⟨r,1,none⟩with|some (.int _ a)=>n+1-a.toNat|_=>0)else 0
 |_=>0
theorem rA {w:World}{r tb cap a:Nat}{l:List Ps.Tok}(h:ae w r tb cap l (.ok a)):fI l.length r w=l.length+1-a:=by
 obtain⟨a',e,o,hr,-,-,-,-,-,ha,he,-⟩:=h
 obtain⟨k0,k1,k2,k3,-⟩:=ag hr
 unfold fI
 simp[k1,k2,he,ha]
theorem IL {w:World}{r tb cap:Nat}{l:List Ps.Tok}{er:Int×Int}(h:ae w r tb cap l (.error er)):fI l.length r w=0:=by
 obtain⟨a',e,o,hr,-,-,-,-,-,ha,ho,he⟩:=h
 obtain⟨k0,k1,k2,k3,-⟩:=ag hr
 unfold fI
 simp[k2,he]
theorem Bn:∀args w,(callFunc 29 args).run Tryz.prog w=.ok (.enter 29 args) w:=enters_of Tryz.func29 (by kernel_rfl) rfl
theorem ent74:∀args w,(callFunc 74 args).run Tryz.prog w=.ok (.enter 74 args) w:=enters_of Tryz.func74 (by kernel_rfl) rfl
theorem PP:∀args w,(callFunc 75 args).run Tryz.prog w=.ok (.enter 75 args) w:=enters_of Tryz.func75 (by kernel_rfl) rfl
theorem ent70:∀args w,(callFunc 70 args).run Tryz.prog w=.ok (.enter 70 args) w:=enters_of Tryz.func70 (by kernel_rfl) rfl
theorem ent69:∀args w,(callFunc 69 args).run Tryz.prog w=.ok (.enter 69 args) w:=enters_of Tryz.func69 (by kernel_rfl) rfl
section
variable {W : World} {r tb cap : Nat} {l : List Ps.Tok} {g pa : Nat} {s : Ps.Seen} {i : Ps.Ins} {lv : Value}
theorem Et {st':Ps.St}{w:World}(h:ae w r tb cap l st')(hst:∀a,st'=.ok a->pa<a)(fA:pa<l.length):fI l.length r w<l.length+1-pa:=by
 cases st' with
 |ok a=>rw[rA h];have:=hst a rfl;omega
 |error er=>rw[IL h];omega
theorem jL (h:0<=gz l (.ok pa)):Ps.prio (Ps.aW l pa).data.toList=some (gz l (.ok pa)):=by
 unfold gz at h⊢
 unfold Ps.prio
 rw[dC l pa _ (by decide),dC l pa _ (by decide),dC l pa _ (by decide)]at h⊢
 simp only[decide_eq_true_eq]at h⊢
 have e0:(sZ 0).data.toList=Ps.mK:=rfl
 have e1:(sZ 1).data.toList=Ps.BP:=rfl
 have e2:(sZ 2).data.toList=Ps.qQ:=rfl
 rw[e0,e1,e2]at h⊢
 split
 ·rfl
 ·split
  ·rfl
  ·split
   ·rfl
   ·simp_all
theorem rX (h:¬0<=gz l (.ok pa)):Ps.prio (Ps.aW l pa).data.toList=none:=by
 unfold gz at h
 unfold Ps.prio
 rw[dC l pa _ (by decide),dC l pa _ (by decide),dC l pa _ (by decide)]at h
 simp only[decide_eq_true_eq]at h
 have e0:(sZ 0).data.toList=Ps.mK:=rfl
 have e1:(sZ 1).data.toList=Ps.BP:=rfl
 have e2:(sZ 2).data.toList=Ps.qQ:=rfl
 rw[e0,e1,e2]at h
 split
 ·simp_all
 ·split
  ·simp_all
  ·split
   ·simp_all
   ·rfl
end
structure CAt (W:World)(r tb cap:Nat)(l:List Ps.Tok)(g z sb:Nat)(ty:TypeId)(st:Ps.St)(s4:List Bool)(i:Ps.Amd)(w:World):Prop where
 rd:ae w r tb cap l st
 row:w.heap[g]? =some (.cells (aG i).toArray 36 (0,0))
 zero:w.heap[z]? =some (.cells (aG {}).toArray 36 (0,0))
 seen:w.heap[sb]? =some (.cells (bI s4) ty (0,0))
 tch:Tch r r W w
 hg:W.heap.size<=g
 hz:W.heap.size<=z
 hsb:W.heap.size<=sb
 hgz:g≠z
 hgs:g≠sb
 hzs:z≠sb
 hr:r<W.heap.size
 htb:tb<W.heap.size
 four:s4.length=4
variable {W : World} {r tb cap : Nat} {l : List Ps.Tok} {g z sb : Nat} {ty : TypeId} {st st' : Ps.St} {s4 : List Bool} {i : Ps.Amd} {w w' : World}
theorem CAt.size (h:CAt W r tb cap l g z sb ty st s4 i w):sb<w.heap.size/\g<w.heap.size/\z<w.heap.size:=⟨(Array.getElem?_eq_some_iff.1 h.seen).1,(Array.getElem?_eq_some_iff.1 h.row).1,(Array.getElem?_eq_some_iff.1 h.zero).1⟩
theorem CAt.reader (h:CAt W r tb cap l g z sb ty st s4 i w)(hs:ae w' r tb cap l st')(hT:Tch r r w w'):CAt W r tb cap l g z sb ty st' s4 i w':=by
 have h1:=h.hr;have h2:=h.hsb;have h3:=h.size;have h4:=h.hg;have h5:=h.hz
 have up:∀j,j<w.heap.size->j≠r->w'.heap[j]? =w.heap[j]?:=λj hj hne=>hT.block j hj hne hne
 exact⟨hs,(up g h3.2.1 (by omega)).trans h.row,(up z h3.2.2 (by omega)).trans h.zero,(up sb h3.1 (by omega)).trans h.seen,h.tch.trans hT,h.hg,h.hz,h.hsb,h.hgz,h.hgs,h.hzs,h.hr,h.htb,h.four⟩
theorem CAt.drewN (h:CAt W r tb cap l g z sb ty st s4 i w)(k:Nat):CAt W r tb cap l g z sb ty st s4 i (w.drewN k):=h.reader (h.rd.drewN k) (Tch.drewN _ _ _ _)
theorem CAt.once (h:CAt W r tb cap l g z sb ty st s4 i w){s5:List Bool}(h5:s5.length=4)(hs:ae w' r tb cap l st')(hn:w'.heap[sb]? =some (.cells (bI s5) ty (0,0)))(hT:Tch r sb w w'):CAt W r tb cap l g z sb ty st' s5 i w':=by
 have h1:=h.hr;have h2:=h.hsb;have h3:=h.size;have h4:=h.hg;have h6:=h.hz;have h7:=h.hgs;have h8:=h.hzs
 have up:∀j,j<w.heap.size->j≠r->j≠sb->w'.heap[j]? =w.heap[j]?:=λj hj hne hn2=>hT.block j hj hne hn2
 refine⟨hs,(up g h3.2.1 (by omega) h7).trans h.row,(up z h3.2.2 (by omega) h8).trans h.zero,hn,?_,h.hg,h.hz,h.hsb,h.hgz,h.hgs,h.hzs,h.hr,h.htb,h5⟩
 exact⟨hT.os.trans h.tch.os,hT.tape.trans h.tch.tape,hT.output.trans h.tch.output,Nat.le_trans h.tch.size hT.size,λj hj a b=>(up j (Nat.lt_of_lt_of_le hj h.tch.size) a (by omega)).trans (h.tch.block j hj a b)⟩
theorem CAt.field (h:CAt W r tb cap l g z sb ty st s4 i w)(j:Nat)(v:Value)(i':Ps.Amd)(hc:(aG i).toArray.setIfInBounds j v=(aG i').toArray):CAt W r tb cap l g z sb ty st s4 i' (w.setCell ⟨g,j,none⟩ v):=by
 have h1:=h.hr;have h2:=h.hsb;have h3:=h.size;have h4:=h.hg;have h6:=h.hz;have h7:=h.hgs;have h8:=h.hgz
 have up:∀k,k≠g->(w.setCell ⟨g,j,none⟩ v).heap[k]? =w.heap[k]?:=λk hk=>Below.heap_setCell w _ _ k (λe=>hk (by rw[e]))
 have hsz:(w.setCell ⟨g,j,none⟩ v).heap.size=w.heap.size:=by simp[World.setCell]
 have hT:Tch g g w (w.setCell ⟨g,j,none⟩ v):=(Tch.refl g g w).setCell j v
 have htb:=h.htb
 refine⟨h.rd.tch hT.right (by omega) (by omega),?_,(up z (by omega)).trans h.zero,(up sb (by omega)).trans h.seen,?_,h.hg,h.hz,h.hsb,h.hgz,h.hgs,h.hzs,h.hr,h.htb,h.four⟩
 ·rw[aN w g j _ _ v h.row,hc]
 ·exact⟨hT.os.trans h.tch.os,hT.tape.trans h.tch.tape,hT.output.trans h.tch.output,by rw[hsz];exact h.tch.size,λk hk a b=>(up k (by omega)).trans (h.tch.block k hk a b)⟩
open Go.Proofs.YthijakidnkhbnaaGreatDoor.Ev (AV Mem Fr Sh Stop Qof aK dW aM fP gK fmC asI look keep gF)
theorem KS:∀args w,(callFunc 27 args).run Tryz.prog w=.ok (.enter 27 args) w:=enters_of Tryz.func27 (by kernel_rfl) rfl
theorem ent68:∀args w,(callFunc 68 args).run Tryz.prog w=.ok (.enter 68 args) w:=enters_of Tryz.func68 (by kernel_rfl) rfl
theorem ent71:∀args w,(callFunc 71 args).run Tryz.prog w=.ok (.enter 71 args) w:=enters_of Tryz.func71 (by kernel_rfl) rfl
theorem ent30r:∀args w,(callFunc 30 args).run Tryz.prog w=.ok (.enter 30 args) w:=enters_of Tryz.func30 (by kernel_rfl) rfl
structure Rdr (r tb cap:Nat)(l:List Ps.Tok)(E:Ps.Env):Prop where
 toks:bF l
 ref:∀(w:World) (st:Ps.St),ae w r tb cap l st->Calls Tryz.prog 29 #[.pointer (some ⟨r,0,none⟩),.int .i64 2] w λe w'=>e=.returned (.string (Ps.step (Ps.ref E l) ⟨#[]⟩ st).1)/\ae w' r tb cap l (Ps.step (Ps.ref E l) ⟨#[]⟩ st).2/\Tch r r w w'
 member:∀(w:World) (st:Ps.St),ae w r tb cap l st->Calls Tryz.prog 29 #[.pointer (some ⟨r,0,none⟩),.int .i64 1] w λe w'=>e=.returned (.string (Ps.step (Ps.member E l) ⟨#[]⟩ st).1)/\ae w' r tb cap l (Ps.step (Ps.member E l) ⟨#[]⟩ st).2/\Tch r r w w'
 isin:∀(w:World) (st:Ps.St),ae w r tb cap l st->Calls Tryz.prog 29 #[.pointer (some ⟨r,0,none⟩),.int .i64 0] w λe w'=>e=.returned (.string (Ps.step (Ps.isin E l) ⟨#[]⟩ st).1)/\ae w' r tb cap l (Ps.step (Ps.isin E l) ⟨#[]⟩ st).2/\Tch r r w w'
 cash:∀(w:World) (st:Ps.St),ae w r tb cap l st->Calls Tryz.prog 68 #[.pointer (some ⟨r,0,none⟩)] w λe w'=>e=.returned (.int .i64 (Ps.step (Ps.cash E l) 0 st).1)/\ae w' r tb cap l (Ps.step (Ps.cash E l) 0 st).2/\Tch r r w w'
 number:∀(w:World) (st:Ps.St),ae w r tb cap l st->Calls Tryz.prog 69 #[.pointer (some ⟨r,0,none⟩)] w λe w'=>e=.returned (.int .i64 (Ps.step (Ps.quantity E l) 0 st).1)/\ae w' r tb cap l (Ps.step (Ps.quantity E l) 0 st).2/\Tch r r w w'
 date:∀(w:World) (st:Ps.St),ae w r tb cap l st->Calls Tryz.prog 71 #[.pointer (some ⟨r,0,none⟩)] w λe w'=>e=.returned (.int .i64 (Ps.step (Ps.day E l) 0 st).1)/\ae w' r tb cap l (Ps.step (Ps.day E l) 0 st).2/\Tch r r w w'
def DJ (E:Ps.Env)(l:List Ps.Tok)(q:RS)(f:FuncId)(vs:List AV):Option (Value×Option RS):=
 if f=70 then(match vs with|[.p 0 0,.v (.string x)]=>some (.bool (d9 l (q.st l) x.data.toList),none)|_=>none)
 else if f=74 then(match vs with|[.p 0 0]=>some (.int .i64 (gz l (q.st l)),none)|_=>none)
 else if f=30 then(match vs with|[.p 0 0,.v (.string x)]=>(match x.data.toList with|[]=>none|_::_=>some (.tuple #[],some (.any (Ps.step (Ps.word l x.data.toList) () (q.st l)).2)))|_=>none)
 else if f=29 then(match vs with
  |[.p 0 0,.v (.int .i64 k)]=>if k=2 then some (.string (Ps.step (Ps.ref E l) ⟨#[]⟩ (q.st l)).1,some (.any (Ps.step (Ps.ref E l) ⟨#[]⟩ (q.st l)).2))
   else if k=1 then some (.string (Ps.step (Ps.member E l) ⟨#[]⟩ (q.st l)).1,some (.any (Ps.step (Ps.member E l) ⟨#[]⟩ (q.st l)).2))
   else if k=0 then some (.string (Ps.step (Ps.isin E l) ⟨#[]⟩ (q.st l)).1,some (.any (Ps.step (Ps.isin E l) ⟨#[]⟩ (q.st l)).2))else none
  |_=>none)
 else if f=68 then(match vs with|[.p 0 0]=>some (.int .i64 (Ps.step (Ps.cash E l) 0 (q.st l)).1,some (.any (Ps.step (Ps.cash E l) 0 (q.st l)).2))|_=>none)
 else if f=69 then(match vs with|[.p 0 0]=>some (.int .i64 (Ps.step (Ps.quantity E l) 0 (q.st l)).1,some (.any (Ps.step (Ps.quantity E l) 0 (q.st l)).2))|_=>none)
 else if f=71 then(match vs with|[.p 0 0]=>some (.int .i64 (Ps.step (Ps.day E l) 0 (q.st l)).1,some (.any (Ps.step (Ps.day E l) 0 (q.st l)).2))|_=>none)
 else if f=27 then(match vs with|[.p 0 0]=>some (.bool (!Ps.bA l (q.st l)),some (.any (Ps.bJ l (q.st l))))|_=>none)
 else if f=32 then(match vs,q with|[.p 0 0,.v (.int .i64 n)],.at0 a=>if n=30 then some (.tuple #[],some (.any (Ps.gM l 30 (.ok a))))else none|_,_=>none)
 else none
theorem JK {r tb cap:Nat}{l:List Ps.Tok}{E:Ps.Env}(hR:Rdr r tb cap l E){q:RS}{f:FuncId}{vs:List AV}{v:Value}{q':Option RS}(h:DJ E l q f vs=some (v,q')){σ:Type}(M:Mem σ)(hM:M.blk[0]? =some (r,0)):
 (∀args w,(callFunc f args).run Tryz.prog w=.ok (.enter f args) w)/\(q.bound l->(q'.getD q).bound l/\∀w,ae w r tb cap l (q.st l)->Calls Tryz.prog f (vs.map (AV.val M)).toArray w λe w'=>e=.returned v/\ae w' r tb cap l ((q'.getD q).st l)/\Tch r r w w'):=by
 have hp:(AV.p 0 0).val M=.pointer (some ⟨r,0,none⟩):=by
  show Value.pointer (some ⟨(M.blk.getD 0 (0,0)).1,(M.blk.getD 0 (0,0)).2+0,none⟩)=_
  simp[hM]
 unfold DJ at h
 split at h
 ·rename_i hf
  subst hf
  split at h
  ·cases h
   refine⟨ent70,λhb=>⟨hb,λw hw=>?_⟩⟩
   simp only[List.map_cons,List.map_nil,hp]
   exact(F4 hw _).mono λe w' ⟨k1,k,k2⟩=>⟨k1,by rw[k2];exact hw.drewN k,by rw[k2];exact Tch.drewN _ _ _ _⟩
  ·cases h
 split at h
 ·rename_i hf
  subst hf
  split at h
  ·cases h
   refine⟨ent74,λhb=>⟨hb,λw hw=>?_⟩⟩
   simp only[List.map_cons,List.map_nil,hp]
   exact zz hw
  ·cases h
 split at h
 ·rename_i hf
  subst hf
  split at h
  ·rename_i x
   split at h
   ·cases h
   ·rename_i c cs hx
    cases h
    refine⟨ent30r,λhb=>⟨trivial,λw hw=>?_⟩⟩
    simp only[List.map_cons,List.map_nil,hp]
    exact OW hw hR.toks x (by rw[hx];exact List.cons_ne_nil _ _)
  ·cases h
 split at h
 ·rename_i hf
  subst hf
  split at h
  ·split at h
   ·rename_i hk
    subst hk
    cases h
    refine⟨Bn,λhb=>⟨trivial,λw hw=>?_⟩⟩
    simp only[List.map_cons,List.map_nil,hp]
    exact hR.ref w _ hw
   ·split at h
    ·rename_i hk
     subst hk
     cases h
     refine⟨Bn,λhb=>⟨trivial,λw hw=>?_⟩⟩
     simp only[List.map_cons,List.map_nil,hp]
     exact hR.member w _ hw
    ·split at h
     ·rename_i hk
      subst hk
      cases h
      refine⟨Bn,λhb=>⟨trivial,λw hw=>?_⟩⟩
      simp only[List.map_cons,List.map_nil,hp]
      exact hR.isin w _ hw
     ·cases h
  ·cases h
 split at h
 ·rename_i hf
  subst hf
  split at h
  ·cases h
   refine⟨ent68,λhb=>⟨trivial,λw hw=>?_⟩⟩
   simp only[List.map_cons,List.map_nil,hp]
   exact hR.cash w _ hw
  ·cases h
 split at h
 ·rename_i hf
  subst hf
  split at h
  ·cases h
   refine⟨ent69,λhb=>⟨trivial,λw hw=>?_⟩⟩
   simp only[List.map_cons,List.map_nil,hp]
   exact hR.number w _ hw
  ·cases h
 split at h
 ·rename_i hf
  subst hf
  split at h
  ·cases h
   refine⟨ent71,λhb=>⟨trivial,λw hw=>?_⟩⟩
   simp only[List.map_cons,List.map_nil,hp]
   exact hR.date w _ hw
  ·cases h
 split at h
 ·rename_i hf
  subst hf
  split at h
  ·cases h
   refine⟨KS,λhb=>⟨trivial,λw hw=>?_⟩⟩
   simp only[List.map_cons,List.map_nil,hp]
   exact oV hw hR.toks
  ·cases h
 split at h
 ·rename_i hf
  subst hf
  split at h
  ·split at h
   ·rename_i hn
    subst hn
    cases h
    refine⟨DK,λhb=>⟨trivial,λw hw=>?_⟩⟩
    simp only[List.map_cons,List.map_nil,hp]
    exact gW hw 30 (by decide) (λb hb2=>by cases hb2;exact hb)
   ·cases h
  ·cases h
 ·cases h
theorem wZ {fn:Func}{T:TypeId}{o1 o2:Oper}{id tg tz d g z:Nat}{cs zs:Array Value}{a:Act}{w:World}{R:Ending->World->Prop}{Q:Exit->Act->World->Prop}(hQ:∀b w',bodyPost Tryz.prog fn R .ret b w'->Q .ret b w')(hfn:fn.results=#[.cell tz T])(h1:o1.op=.load T (.tmp tg))(h1d:o1.dst=some d)(g1:o1.guard=none)(h2:o2.op=.store T (.tmp tz) (.tmp d))(xn:o2.dst=none)(g2:o2.guard=none)
 (hsz:d<a.tmps.size) (hne:d≠tz) (hdf:a.defers=[]) (hg:a.tmps[tg]? =some (.pointer (some ⟨g,0,none⟩))) (hz:a.tmps[tz]? =some (.pointer (some ⟨z,0,none⟩))) (hn:Ev.De T=some cs.size) (hrow:w.heap[g]? =some (.cells cs T (0,0))) (FL:w.heap[z]? =some (.cells zs T (0,0))) (hzs:zs.size=cs.size) (hone:cs.all (·.oneCell')=true)
 (hR:R (.returned (.agg cs)) (w.setRow z cs)):(Code.region id #[o1,o2] false).wp Tryz.prog (Exit.then (Code.ret.wp Tryz.prog Q) Q) a w:=by
 obtain⟨d2,hu,hd2',hi⟩:=Ev.rM hn
 refine wp_region_lit ?_
 refine jK g1 h1d h1 (v:=.pointer (some ⟨g,0,none⟩)) (eval_at hg) (u:=.agg cs) (by
  have:=run_loadVar_row (P:=Tryz.prog) w g T T cs (0,0) d2 hrow hu (by cases d2<;>first|rfl|cases hd2') hi
  unfold Instr.loadAt
  simp[Instr.sureAddr,this]) ?_
 refine jT (w':=w.setRow z cs) g2 xn ?_ ?_
 ·unfold execOp
  rw[h2]
  have e1:(⟨a.tmps.setIfInBounds d (.agg cs),a.defers⟩:Act).eval (.tmp tz)=.pointer (some ⟨z,0,none⟩):=eval_at (by rw[Array.getElem?_setIfInBounds_ne hne];exact hz)
  have e2:(⟨a.tmps.setIfInBounds d (.agg cs),a.defers⟩:Act).eval (.tmp d)=.agg cs:=eval_at (by simp[hsz])
  simp only[e1,e2,Instr.storeAt,Instr.sureAddr,Sem.run_bind,Sem.run_pure,Result.andThen_ok,run_storeVar_row (P:=Tryz.prog) w z T T zs cs FL hi hzs hone]
 refine aL ?_
 refine wp_ret (hQ _ _ ?_)
 refine bodyPost_ret (results_cell_row hfn _ _ z T cs (0,0) _ ?_ (setRow_heap w z _ _ _ _ FL) hu (by cases d2<;>first|rfl|cases hd2') hi) hdf hR
 exact eval_at (b:=⟨a.tmps.setIfInBounds d (.agg cs),a.defers⟩) (by show(a.tmps.setIfInBounds d _)[tz]? =_;rw[Array.getElem?_setIfInBounds_ne hne];exact hz)
theorem kN {fn:Func}{T:TypeId}{o1 o2:Oper}{id tg tz d g z:Nat}{cs zs:Array Value}{a:Act}{w:World}{R:Ending->World->Prop}{Q:Exit->Act->World->Prop}(hQ:∀b w',bodyPost Tryz.prog fn R .ret b w'->Q .ret b w')(hfn:fn.results=#[.cell tz T])(h1:o1.op=.load T (.tmp tg))(h1d:o1.dst=some d)(g1:o1.guard=none)(h2:o2.op=.store T (.tmp tz) (.tmp d))(xn:o2.dst=none)(g2:o2.guard=none)
 (hsz:d<a.tmps.size) (hne:d≠tz) (hdf:a.defers=[]) (hg:a.tmps[tg]? =some (.pointer (some ⟨g,0,none⟩))) (hz:a.tmps[tz]? =some (.pointer (some ⟨z,0,none⟩))) (hn:Ev.De T=some cs.size) (hrow:w.heap[g]? =some (.cells cs T (0,0))) (FL:w.heap[z]? =some (.cells zs T (0,0))) (hzs:zs.size=cs.size) (hone:cs.all (·.oneCell')=true)
 (hR:R (.returned (.agg cs)) (w.setRow z cs)):(Code.seq (Code.region id #[o1,o2] false) Code.ret).wp Tryz.prog Q a w:=
 wp_seq (wZ hQ hfn h1 h1d g1 h2 xn g2 hsz hne hdf hg hz hn hrow FL hzs hone hR)
def yS (t:TypeId)(f:Nat):Option Nat:=if (t=35/\f<16)\/(t=36/\f<9)then some f else if t=38 then[0,1,2,3,19][f]? else none
theorem FQ {t:TypeId}{f d:Nat}(h:yS t f=some d)(b j:Nat)(w:World):(Instr.fieldAt t (.pointer (some ⟨b,j,none⟩)) f).run Tryz.prog w=.ok (.pointer (some ⟨b,j+d,none⟩)) w:=by
 unfold yS at h
 split at h
 ·rename_i h1
  rcases h1 with h1|h1
  ·exact lW (by unfold mi;rw[if_pos (.inl h1)];exact h) b j w
  ·exact BI (by rw[if_pos h1];exact h) b j w
 split at h
 ·rename_i h1
  subst h1
  rcases f with _|_|_|_|_|f
  all_goals first|(cases h;go_simp)|cases h
 ·cases h
def rrR (r tb cap:Nat)(l:List Ps.Tok)(st:Ps.St)(w:World):Prop:=ae w r tb cap l st
theorem rr_inc {r tb cap:Nat}{l:List Ps.Tok}:RdI l r (rrR r tb cap l) (RS.inc l):=λs s' hq hb=>by
 obtain⟨e1,e2,e3⟩:=RS.lt hb hq
 refine⟨e2,λw hw=>?_⟩
 obtain⟨a',e,o,hr,ht2,hne,hpos,hcap,bE,hs⟩:=hw
 have hT:Tch r r w (w.setCell ⟨r,1,none⟩ (.int .i64 (IntKind.i64.wrap (a'+1)))):=(Tch.refl r r w).setCell 1 _
 refine⟨a',(ag hr).2.1,aJ 1 hr,?_⟩
 rw[e1]
 refine⟨IntKind.i64.wrap (a'+1),e,o,aN w r 1 _ _ _ hr,ht2.tch hT hne hne,hne,hpos,hcap,bE,?_⟩
 cases hst:s.st l with
 |ok b=>
  rw[hst]at hs
  obtain⟨rfl,rfl,hle⟩:=hs
  have hlt:=e3 b hst
  exact⟨by rw[IntWalk.i64_in _ (by omega)];simp,rfl,hlt⟩
 |error er=>rw[hst]at hs;exact hs
def rdM {X:Type}(E:Ps.Env)(l:List Ps.Tok)(r g:Nat)(loadX:X->TypeId->Nat->Option Value)(storeX:X->TypeId->Nat->Value->Option X)(callX:RS×X->FuncId->List AV->Option (Value×Option (RS×X)))(hint:Nat->Option Bool)(sl:Value):Mem (RS×X):=
 rdG (RS.inc l) yS [(r,0),(g,0)] (λ_ _=>sl) (DJ E l) (λs t k j=>if k=1 then(match loadX s.2 t j with|some v=>some (.v v)|none=>none)else none) (λx t k j v=>if k=1 then storeX x t j v else none) callX hint
section
variable {X : Type} {E : Ps.Env} {l : List Ps.Tok} {r tb cap g : Nat} {B : Ps.St → X → World → Prop} {loadX : X → TypeId → Nat → Option Value} {storeX : X → TypeId → Nat → Value → Option X} {callX : RS × X → FuncId → List AV → Option (Value × Option (RS × X))} {hint : Nat → Option Bool} {sl : Value}
theorem yK (hB:RdB (rrR r tb cap l) r B)(hR:Rdr r tb cap l E)(hL:∀x t j v,loadX x t j=some v->∀st w,B st x w->(Instr.loadAt t (.pointer (some ⟨g,j,none⟩))).run Tryz.prog w=.ok v w)
 (hS:∀x t j v x',storeX x t j v=some x'->∀st w,B st x w->∃w',(Instr.storeAt t (.pointer (some ⟨g,j,none⟩)) v).run Tryz.prog w=.ok () w'/\B st x' w')
 (hC:∀s f vs v s',callX s f vs=some (v,s')->(∀args w,(callFunc f args).run Tryz.prog w=.ok (.enter f args) w)/\(s.1.bound l->∀w,B (s.1.st l) s.2 w->Calls Tryz.prog f (vs.map (AV.val (rdM E l r g loadX storeX callX hint sl))).toArray w λe w'=>e=.returned v/\rdS l B (s'.getD s) w')):
 Ev.Ok Tryz.prog (rdS l B) (rdM E l r g loadX storeX callX hint sl):=by
 have hp:∀j,(AV.p 1 j).val (rdM E l r g loadX storeX callX hint sl)=.pointer (some ⟨g,j,none⟩):=λj=>by
  show Value.pointer (some ⟨g,0+j,none⟩)=_
  rw[Nat.zero_add]
 refine MG hB (λt f d h=>FQ h) (λq f vs v q' h=>JK hR h _ rfl) (λs t k j v h w hw=>?_) (λx t k j v x' h st w hw=>?_) hC
 ·split at h
  ·rename_i hk
   subst hk
   split at h
   ·rename_i u hu
    cases h
    exact(congrArg (λp=>(Instr.loadAt t p).run Tryz.prog w) (hp j)).trans (hL _ _ _ _ hu _ w hw.2)
   ·cases h
  ·cases h
 ·split at h
  ·rename_i hk
   subst hk
   obtain⟨w',e1,e2⟩:=hS _ _ _ _ _ h _ w hw
   exact⟨w',(congrArg (λp=>(Instr.storeAt t p v).run Tryz.prog w) (hp j)).trans e1,e2⟩
  ·cases h
theorem bU (hB:RdB (rrR r tb cap l) r B):Ev.kR (rdS l B) (rdM E l r g loadX storeX callX hint sl):=FU hB rr_inc rfl
end
def FY (n:Nat)(o:Oper)(ov:Operand->Option AV):Option AV:=match o.op with
 | .load t x=>if t=48 then(match ov x with|some (.p 0 0)=>some (.r 0 0)|_=>none)else none
 | .call ⟨.builtin .len,xs,ts⟩=>(match xs.toList,ts.toList with
   |[x],[t]=>if o.type=3/\t=48 then(match ov x with
    |some (.r 0 0)=>some (.v (.int .i64 (n:Int)))
    |_=>none)else none
   |_,_=>none)
 |_=>none
def whM (r tb cap n:Nat)(av ev:Int):Mem Unit:=Ev.jJ (λt f=>if t=81/\f<3 then some f else none) [(some (r,0),[.slice (some ⟨tb,0,none⟩) n cap,.int .i64 av,.int .i64 ev])] (λ_ _=>none) (FY n)
theorem KC {r tb cap n:Nat}{av ev:Int}{S:World->Prop}(h0:∀w,S w->w.cell? ⟨r,0,none⟩=some (.slice (some ⟨tb,0,none⟩) n cap))(h1:∀w,S w->w.cell? ⟨r,1,none⟩=some (.int .i64 av))(h2:∀w,S w->w.cell? ⟨r,2,none⟩=some (.int .i64 ev)):Ev.Ok Tryz.prog (λ(_:Unit) w=>S w) (whM r tb cap n av ev):=by
 refine Ev.gD (λt f d h b j w=>?_) (λq b o l h W hS=>?_) (λ_ _ _ h=>by cases h) (λo ov v h ρ hov w hS=>?_)
 ·split at h
  ·rename_i h1
   obtain⟨rfl,h2⟩:=h1
   cases h
   rcases f with _|_|_|f
   all_goals first|omega|go_simp
  ·cases h
 ·rcases q with _|q
  ·cases h
   intro j v hv
   rw[Nat.zero_add]
   rcases j with _|_|_|j
   ·cases hv;exact h0 W hS
   ·cases hv;exact h1 W hS
   ·cases hv;exact h2 W hS
   ·cases hv
  ·cases h
 ·unfold FY at h
  split at h
  ·rename_i t x ho
   split at h
   ·rename_i ht
    subst ht
    split at h
    ·rename_i hx
     cases h
     have e1:ρ x=.pointer (some ⟨r,0,none⟩):=hov _ _ hx
     unfold execOp
     simp only[ho,e1,Sem.run_bind,Lh _ w _ _ _ (h0 w hS),Result.andThen_ok]
     rfl
    ·cases h
   ·cases h
  ·rename_i xs ts ho
   split at h
   ·rename_i x t hx ht2
    split at h
    ·rename_i ht
     obtain⟨ht,rfl⟩:=ht
     split at h
     ·rename_i ha
      cases h
      have h1:ρ x=.slice (some ⟨tb,0,none⟩) n cap:=hov _ _ ha
      have hxs:xs=#[x]:=by rw[<-Array.toArray_toList (xs:=xs),hx]
      have hts:ts=#[48]:=by rw[<-Array.toArray_toList (xs:=ts),ht2]
      subst hxs
      subst hts
      clear hov hx ht2 ha h0 hS
      unfold execOp
      simp only[ho,ht]
      go_simp
      rfl
     ·cases h
    ·cases h
   ·cases h
  ·cases h
open Go.Proofs.YthijakidnkhbnaaGreatDoor.Ev (AV Mem Fr Sh Stop)
def sq4 (s:Ps.Seen):List Bool:=[s.prio,s.part,s.amount,s.day]
def ch0 (W:World):World:=((W.alloc (.cells (aG {}).toArray 36)).alloc (.cells (bI [false,false,false,false]) 4)).alloc (.cells (aG {}).toArray 36)
theorem ch0_at {W:World}{r tb cap:Nat}{l:List Ps.Tok}{st:Ps.St}(h:ae W r tb cap l st)(hr:r<W.heap.size)(ht:tb<W.heap.size):CAt W r tb cap l (W.heap.size+2) W.heap.size (W.heap.size+1) 4 st [false,false,false,false] {} (ch0 W):=by
 have hs1:(W.alloc (.cells (aG {}).toArray 36)).heap.size=W.heap.size+1:=by simp
 have hs2:((W.alloc (.cells (aG {}).toArray 36)).alloc (.cells (bI [false,false,false,false]) 4)).heap.size=W.heap.size+2:=by simp
 have hb:Below W.heap.size W (ch0 W):=(((Below.refl _ _).alloc (Nat.le_refl _) _).alloc (by simp) _).alloc (by simp;omega) _
 refine⟨h.below hb,?_,?_,?_,Tch.of_below hb,by omega,by omega,by omega,by omega,by omega,by omega,hr,ht,rfl⟩
 ·have:=aD ((W.alloc (.cells (aG {}).toArray 36)).alloc (.cells (bI [false,false,false,false]) 4)) (.cells (aG {}).toArray 36)
  rw[hs2]at this
  exact this
 ·unfold ch0
  rw[heap_alloc_old _ _ (by simp;omega),heap_alloc_old _ _ (by simp)]
  exact aD W _
 ·unfold ch0
  rw[heap_alloc_old _ _ (by simp)]
  have:=aD (W.alloc (.cells (aG {}).toArray 36)) (.cells (bI [false,false,false,false]) 4)
  rw[hs1]at this
  exact this
section
variable {l : List Ps.Tok} {pa : Nat}
end
section
variable {W : World} {r tb cap : Nat} {l : List Ps.Tok} {g z sb : Nat}
def chB (W:World)(r tb cap:Nat)(l:List Ps.Tok)(g z sb:Nat)(st:Ps.St)(x:List Bool×Ps.Amd)(w:World):Prop:=CAt W r tb cap l g z sb 4 st x.1 x.2 w
theorem Dy:RdB (rrR r tb cap l) r (chB W r tb cap l g z sb):=⟨λh=>h.rd,λh hs hT=>CAt.reader h hs hT⟩
def KD (x:List Bool×Ps.Amd)(t:TypeId)(j:Nat):Option Value:=if t=2\/t=3\/t=4\/t=9 then(aG x.2)[j]? else none
def Ff (x:List Bool×Ps.Amd)(t:TypeId)(j:Nat)(v:Value):Option (List Bool×Ps.Amd):=if t=2\/t=3\/t=4\/t=9 then(match vS x.2 j v with|some i=>some (x.1,i)|none=>none)else none
def ow {X:Type}(s:RS×(List Bool×X))(f:FuncId)(vs:List AV):Option (Value×Option (RS×(List Bool×X))):=
 if f=75 then(match vs,s.1 with
  |[.p 0 0,.r 0 0,.v (.int .i64 p)],.at0 a=>(match p,s.2.1[p.toNat]? with
   | .ofNat _,some b=>some (.tuple #[],some (.dup b a,(s.2.1.set p.toNat true,s.2.2)))
   |_,_=>none)
  |_,_=>none)else none
def chM (E:Ps.Env)(l:List Ps.Tok)(r g sb:Nat):Mem (RS×(List Bool×Ps.Amd)):=rdM E l r g KD Ff ow (λ_=>none) (.slice (some ⟨sb,0,none⟩) 4 4)
theorem chM_ok {E:Ps.Env}(hR:Rdr r tb cap l E):Ev.Ok Tryz.prog (rdS l (chB W r tb cap l g z sb)) (chM E l r g sb):=by
 refine yK Dy hR (λx t j v h st w hB=>?_) (λx t j v x' h st w hB=>?_) (λs f vs v s' h=>?_)
 ·unfold KD at h
  split at h
  ·rename_i ht
   refine Ev.oU ?_ _ w v (by rw[cell_of_row _ _ _ _ _ _ hB.row];simpa using h)
   rcases ht with rfl|rfl|rfl|rfl<;>rfl
  ·cases h
 ·unfold Ff at h
  split at h
  ·rename_i ht
   split at h
   ·rename_i i hi
    cases h
    obtain⟨k1,k2,k3⟩:=JF hi
    refine⟨_,oG ht _ w ((aG x.2)[j]'(by simpa[aG]using k3)) v (by rw[cell_of_row _ _ _ _ _ _ hB.row];simp[aG,k3]) (aJ j hB.row) k2,CAt.field hB j v i k1⟩
   ·cases h
  ·cases h
 ·unfold ow at h
  split at h
  ·rename_i hf
   subst hf
   split at h
   ·rename_i p a hs
    split at h
    ·rename_i k b hb
     cases h
     refine⟨PP,λhbd w hB=>?_⟩
     rw[hs]at hbd hB
     have h1:=hB.hr;have h2:=hB.hsb;have h3:=hB.htb
     have hargs:(List.map (AV.val (chM E l r g sb)) [AV.p 0 0,.r 0 0,.v (.int .i64 (Int.ofNat k))]).toArray=#[.pointer (some ⟨r,0,none⟩),.slice (some ⟨sb,0,none⟩) 4 4,.int .i64 (k:Int)]:=rfl
     show Calls Tryz.prog _ (List.map (AV.val (chM E l r g sb)) [AV.p 0 0,.r 0 0,.v (.int .i64 (Int.ofNat k))]).toArray _ _
     rw[hargs]
     have hB2:CAt W r tb cap l g z sb 4 (.ok a) s.2.1 s.2.2 w:=hB
     have hb2:s.2.1[k]? =some b:=hb
     have zS:a<l.length:=hbd
     have key:=Fg hB2.rd (λc hc=>by cases hc;exact zS) s.2.1 4 hB2.seen (by omega) (by omega) k b hb2
     rw[hB2.four]at key
     refine key.mono λe w' q=>⟨q.1,?_⟩
     show rdS l (chB W r tb cap l g z sb) (.dup b a,(s.2.1.set k true,s.2.2)) w'
     exact⟨zS,CAt.once hB2 (by rw[List.length_set];exact hB2.four) q.2.1 q.2.2.1 q.2.2.2⟩
    ·cases h
   ·cases h
  ·cases h
end
theorem eD {l:List Ps.Tok}{pa:Nat}{x:Ps.Bs}(h:d9 l (.ok pa) x=true)(hx:x≠[]:=by decide):(Ps.aW l pa).data.toList=x:=by rw[dC l pa _ hx]at h;exact of_decide_eq_true h
theorem fu {l:List Ps.Tok}{pa:Nat}{x:Ps.Bs}(h:d9 l (.ok pa) x=false)(hx:x≠[]:=by decide):¬(Ps.aW l pa).data.toList=x:=by rw[dC l pa _ hx]at h;exact of_decide_eq_false h
theorem Eu {w:World}{r tb cap:Nat}{l:List Ps.Tok}{st:Ps.St}(h:ae w r tb cap l st):∃(av ev:Int),w.cell? ⟨r,0,none⟩=some (.slice (some ⟨tb,0,none⟩) l.length cap)/\w.cell? ⟨r,1,none⟩=some (.int .i64 av)/\w.cell? ⟨r,2,none⟩=some (.int .i64 ev)/\((ev==0)&&decide (av<(l.length:Int)))=Ps.bA l st:=by
 obtain⟨a,e,o,hr,ht,hne,hpos,hcap,bE,hs⟩:=h
 obtain⟨k0,k1,k2,k3,-⟩:=ag hr
 refine⟨a,e,k0,k1,k2,?_⟩
 cases st with
 |ok b=>obtain⟨rfl,rfl,hle⟩:=hs;simp[Ps.bA]
 |error er=>obtain⟨he,ho,hz⟩:=hs;simp[Ps.bA,hz]
def vo (W:World)(r tb cap:Nat)(l:List Ps.Tok)(E:Ps.Env)(st0:Ps.St)(e:Ending)(W':World):Prop:=∃i st,e=.returned (.agg (aG i).toArray)/\ae W' r tb cap l st/\Tch r r W W'/\Ps.Res (λa=>if l.length<=a then .error (Ps.short l)else Ps.changes E l (l.length+1) {} {} a) st0 st i
theorem BC (W:World)(r tb cap:Nat)(l:List Ps.Tok)(st0:Ps.St)(E:Ps.Env)(hR:Rdr r tb cap l E)(H0:ae W r tb cap l st0)(hr0:r<W.heap.size)(ht0:tb<W.heap.size):
 Calls Tryz.prog 31 #[.pointer (some ⟨r,0,none⟩)] W (vo W r tb cap l E st0):=by
 obtain⟨z,hz⟩:∃z,z=W.heap.size:=⟨_,rfl⟩
 go_enter Tryz.func31,Tryz.ntmps31
 refine wp_seq ?_
 refine wp_region_lit ?_
 refine wpList_plain rfl (λK hK=>?_)
 go_simp
 refine hK _ _ ?_
 clear hK K
 refine aL ?_
 simp only[Exit.then]
 refine wp_seq ?_
 refine wp_region_lit ?_
 refine wpList_plain rfl (λK hK=>?_)
 go_simp
 refine hK _ _ ?_
 clear hK K
 refine wpList_plain rfl (λK hK=>?_)
 go_simp
 refine hK _ _ ?_
 clear hK K
 refine aL ?_
 obtain⟨W0,hW0⟩:∃W0,W0=(W.alloc (.cells (aG {}).toArray 36)).alloc (.cells (bI [false,false,false,false]) 4):=⟨_,rfl⟩
 refine mM (w':=W0) rfl (by rw[hW0];kernel_rfl) λa ha hdf=>?_
 have hsz:a.tmps.size=109:=by rw[ha];rfl
 have hf0:a.tmps[0]? =some (.pointer (some ⟨r,0,none⟩)):=by rw[ha];rfl
 have hf2:a.tmps[2]? =some (.pointer (some ⟨z,0,none⟩)):=by rw[ha,hz];rfl
 have hf3:a.tmps[3]? =some (.slice (some ⟨z+1,0,none⟩) 4 4):=by rw[ha,hz];kernel_rfl
 clear ha
 refine wp_seq ?_
 obtain⟨vs,hvs⟩:∃vs:List Value,vs=[.agg (aG {}).toArray]:=⟨_,rfl⟩
 refine K3 (dv:=7) (λw=>w=W0) 1 vs (by rw[hvs];rfl) rfl (by kernel_rfl) (by kernel_rfl) (by rw[hsz];kernel_rfl) rfl ?_ rfl rfl rfl rfl rfl rfl (by rw[hsz];decide) (by decide) (.agg (aG {}).toArray) ?_ (.cells (aG {}).toArray 36) (.cells (aG {}).toArray 36) ?_ ?_ ?_
 ·intro ρ hD hrest hco hfu
  refine jd hvs ?_
  refine⟨aP rfl (kJ rfl (λw=>by go_simp;rfl)),?_⟩
  exact trivial
 ·intro ρ hD;exact bR.tmp 0 _ _ 7 hD rfl (by rw[hvs];rfl) rfl
 ·intro ρ W;unfold execOp;go_simp;first|done|rfl
 ·intro ρ W e1 e2;unfold aG at e2⊢;unfold execOp;simp only[e1,e2];go_simp;first|done|rfl
 intro b w1 hw1 hK cZ
 obtain rfl:w1=W0:=hw1
 have hgz:w1.heap.size=z+2:=by rw[hW0,hz];simp
 rw[hgz]at cZ
 have hc0:=ch0_at H0 hr0 ht0
 unfold ch0 at hc0
 rw[<-hz,<-hW0]at hc0
 obtain⟨W1,hW1⟩:∃W1,W1=w1.alloc (.cells (aG {}).toArray 36):=⟨_,rfl⟩
 rw[<-hW1]at hc0⊢
 obtain⟨sb,hsb⟩:∃sb,sb=z+1:=⟨_,rfl⟩
 obtain⟨g,hg⟩:∃g,g=z+2:=⟨_,rfl⟩
 rw[<-hg]at cZ
 rw[<-hsb]at hf3
 rw[<-hsb,<-hg]at hc0
 have HA:(CAt W r tb cap l g z sb 4 st0 [false,false,false,false] {} W1):=hc0
 replace hsz:=hK.size.trans hsz
 replace hdf:=hK.defers.trans hdf
 replace hf0:=(hK.rest 0 (by decide +kernel)).trans hf0
 replace hf2:=(hK.rest 2 (by decide +kernel)).trans hf2
 replace hf3:=(hK.rest 3 (by decide +kernel)).trans hf3
 clear hK hW1 hgz hW0 hvs hg hsb hz hc0 w1
 clear vs
 simp only[Exit.then]
 have hOE:=chM_ok (W:=W) (r:=r) (tb:=tb) (cap:=cap) (l:=l) (g:=g) (z:=z) (sb:=sb) hR
 have hdr:∀(s:RS×(List Bool×Ps.Amd)) w,rdS l (chB W r tb cap l g z sb) s w->rdS l (chB W r tb cap l g z sb) s w.drew:=λs w h=>⟨h.1,CAt.drewN h.2 1⟩
 have hret:∀(i:Ps.Amd) (st:Ps.St) (sn:List Bool) (w:World),CAt W r tb cap l g z sb 4 st sn i w->ae (w.setRow z (aG i).toArray) r tb cap l st/\Tch r r W (w.setRow z (aG i).toArray):=λi st sn w h=>by
  have k1:=h.hr
  have k2:=h.htb
  have k3:=h.hz
  have k4:=h.tch
  have qW:∀j,j≠z->(w.setRow z (aG i).toArray).heap[j]? =w.heap[j]?:=λj hj=>setRow_other w z j _ hj
  have hz9:(w.setRow z (aG i).toArray).heap.size=w.heap.size:=setRow_size w z _
  have wB:Tch z z w (w.setRow z (aG i).toArray):=⟨rfl,rfl,rfl,by omega,λj _ h1 _=>qW j h1⟩
  exact⟨h.rd.tch wB.right (by omega) (by omega),wB.os.trans k4.os,wB.tape.trans k4.tape,wB.output.trans k4.output,Nat.le_trans k4.size wB.size,λj hj a b=>(qW j (by omega)).trans (k4.block j hj a b)⟩
 refine wp_seq (wp_seq ?_)
 refine Ev.bH (M:=chM E l r g sb) (n:=109) (K:=[(0,.p 0 0),(2,.v (.pointer (some ⟨z,0,none⟩))),(3,.r 0 0),(4,.p 1 0)]) (s:=(.any st0,([false,false,false,false],{}))) [0,2,3,4,9] (.nx [some (.p 0 0),some (.v (.pointer (some ⟨z,0,none⟩))),some (.r 0 0),some (.p 1 0),some (.v (.bool (!Ps.bA l st0)))] (.any (Ps.bJ l st0),([false,false,false,false],{}))) hOE (bU Dy) hdr (by kernel_rfl) (Ev.aC (Ev.aC (Ev.aC (Ev.aC (Ev.aU hsz hdf) cZ) hf3) hf2) hf0) ⟨trivial,HA⟩ ?_
 clear hsz hdf hf0 hf2 hf3 cZ HA
 intro b w2 hst hS
 obtain⟨hf0,hst⟩:=hst.cons
 obtain⟨hf2,hst⟩:=hst.cons
 obtain⟨hf3,hst⟩:=hst.cons
 obtain⟨cZ,hst⟩:=hst.cons
 obtain⟨hf9,hst⟩:=hst.cons
 have hsz:=hst.1
 have hdf:=hst.2.1
 have HA:CAt W r tb cap l g z sb 4 (Ps.bJ l st0) [false,false,false,false] {} w2:=hS.2
 clear hst hS
 simp only[Exit.then]
 refine wp_cond_split (eval_at hf9) (λhb=>?_) (λhb=>?_)
 ·have hb2:Ps.bA l st0=false:=by simpa using hb
  exact kN (fn:=Tryz.f31) (R:=vo W r tb cap l E st0) (T:=36) (tg:=4) (tz:=2) (d:=10) (g:=g) (z:=z) (cs:=(aG {}).toArray) (zs:=(aG {}).toArray) (λ_ _ h=>h) rfl rfl rfl rfl rfl rfl rfl (by rw[hsz];decide) (by decide) hdf cZ hf2 rfl HA.row HA.zero rfl (by simp[aG,Value.oneCell']) ⟨{},_,rfl,(hret _ _ _ _ HA).1,(hret _ _ _ _ HA).2,Bp hb2⟩
 have hb2:Ps.bA l st0=true:=by simpa using hb
 have hns:Ps.bJ l st0=st0:=by
  cases st0 with
  |error er=>cases hb2
  |ok a=>have:a<l.length:=by simpa[Ps.bA]using hb2
         simp[Ps.bJ,this]
 rw[hns]at HA
 clear hb hf9 hns
 refine wp_skip ?_
 simp only[Exit.then]
 refine wp_seq (wp_block ?_)
 refine wp_loop (λa w1=>∃st s i,a.tmps.size=109/\a.defers=[]/\a.tmps[0]? =some (.pointer (some ⟨r,0,none⟩))/\a.tmps[2]? =some (.pointer (some ⟨z,0,none⟩))/\a.tmps[3]? =some (.slice (some ⟨sb,0,none⟩) 4 4)/\a.tmps[4]? =some (.pointer (some ⟨g,0,none⟩))/\CAt W r tb cap l g z sb 4 st (sq4 s) i w1/\Ps.ChI E l {} st0 st s i/\(s.part=false->i.partial_=false)) (λ_ w1=>fI l.length r w1)
  ⟨st0,{},{},hsz,hdf,hf0,hf2,hf3,cZ,HA,Ps.ChI.start _ _ _ _,λ_=>rfl⟩ ?_
 clear hsz hdf hf0 hf2 hf3 cZ HA w2
 rintro a w1 ⟨st,s,i,hsz,hdf,hf0,hf2,hf3,cZ,HA,HO,HP⟩
 obtain⟨av,ev,c0,c1,c2,hok⟩:=Eu HA.rd
 refine wp_seq ?_
 refine Ev.jA (M:=whM r tb cap l.length av ev) (S:=λ_ w=>CAt W r tb cap l g z sb 4 st (sq4 s) i w/\w.cell? ⟨r,0,none⟩=some (.slice (some ⟨tb,0,none⟩) l.length cap)/\w.cell? ⟨r,1,none⟩=some (.int .i64 av)/\w.cell? ⟨r,2,none⟩=some (.int .i64 ev)) (n:=109) (K:=[(0,.p 0 0),(2,.v (.pointer (some ⟨z,0,none⟩))),(3,.v (.slice (some ⟨sb,0,none⟩) 4 4)),(4,.v (.pointer (some ⟨g,0,none⟩)))]) (s:=()) [0,2,3,4]
  (.ite ((ev==0)&&decide (av<(l.length:Int))) (.nx [some (.p 0 0),some (.v (.pointer (some ⟨z,0,none⟩))),some (.v (.slice (some ⟨sb,0,none⟩) 4 4)),some (.v (.pointer (some ⟨g,0,none⟩)))] ()) (.out 0 [some (.p 0 0),some (.v (.pointer (some ⟨z,0,none⟩))),some (.v (.slice (some ⟨sb,0,none⟩) 4 4)),some (.v (.pointer (some ⟨g,0,none⟩)))] ()))
  (KC (λw h=>h.2.1) (λw h=>h.2.2.1) (λw h=>h.2.2.2)) (λ_ w h=>⟨h.1.drewN 1,h.2⟩) (by kernel_rfl) (Ev.aC (Ev.aC (Ev.aC (Ev.aC (Ev.aU hsz hdf) cZ) hf3) hf2) hf0) ⟨HA,c0,c1,c2⟩ ⟨λhct b w2 hst hS=>?_,λhcf b w9 hst hS=>?_⟩
 rotate_left
 ·have hend:Ps.bA l st=false:=by rw[<-hok];exact hcf
  obtain⟨-,hst⟩:=hst.cons
  obtain⟨hf2,hst⟩:=hst.cons
  obtain⟨-,hst⟩:=hst.cons
  obtain⟨cZ,hst⟩:=hst.cons
  simp only[Exit.then,Exit.inBlock,if_true]
  refine kN (fn:=Tryz.f31) (R:=vo W r tb cap l E st0) (T:=36) (tg:=4) (tz:=2) (d:=108) (g:=g) (z:=z) (cs:=(aG i).toArray) (zs:=(aG {}).toArray) (λ_ _ h=>h) rfl rfl rfl rfl rfl rfl rfl (by rw[hst.1];decide) (by decide) hst.2.1 cZ hf2 rfl hS.1.row hS.1.zero rfl (by simp[aG,Value.oneCell']) ?_
  exact⟨i,st,rfl,(hret _ _ _ _ hS.1).1,(hret _ _ _ _ hS.1).2,FV hb2 (HO.res hend)⟩
 have hon:Ps.bA l st=true:=by rw[<-hok];exact hct
 have HM:=HA.rd
 clear hsz hdf hf0 hf2 hf3 cZ HA hct hok c0 c1 c2
 obtain⟨hf0,hst⟩:=hst.cons
 obtain⟨hf2,hst⟩:=hst.cons
 obtain⟨hf3,hst⟩:=hst.cons
 obtain⟨cZ,hst⟩:=hst.cons
 have HA:=hS.1
 clear hS
 obtain⟨pa,rfl,fA⟩:∃pa,st=.ok pa/\pa<l.length:=by
  cases st with
  |ok b=>exact⟨b,rfl,by simpa[Ps.bA]using hon⟩
  |error er=>cases hon
 have hM:=rA HM
 simp only[Exit.then]
 refine Ev.bH (M:=chM E l r g sb) (n:=109) (K:=[(0,.p 0 0),(2,.v (.pointer (some ⟨z,0,none⟩))),(3,.r 0 0),(4,.p 1 0)]) (s:=(.at0 pa,(sq4 s,i))) [0,2,3,4]
  (.ite (decide (0<=gz l (.ok pa))) (.nx [some (.p 0 0),some (.v (.pointer (some ⟨z,0,none⟩))),some (.r 0 0),some (.p 1 0)] (.any (dV (bL l s.prio pa)),((sq4 s).set 0 true,{i with hasPriority:=true,priority:=gz l (.ok pa)})))
   (.ite (d9 l (.ok pa) (⟨#[112,97,114,116,105,97,108]⟩:ByteArray).data.toList||d9 l (.ok pa) (⟨#[119,104,111,108,101]⟩:ByteArray).data.toList)
    (.ite (d9 l (bL l s.part pa) (⟨#[112,97,114,116,105,97,108]⟩:ByteArray).data.toList) (.nx [some (.p 0 0),some (.v (.pointer (some ⟨z,0,none⟩))),some (.r 0 0),some (.p 1 0)] (.any (Ps.step (Ps.quantity E l) 0 (dV (bL l s.part pa))).2,((sq4 s).set 1 true,{i with hasPartial:=true,partial_:=(d9 l (bL l s.part pa) (⟨#[112,97,114,116,105,97,108]⟩:ByteArray).data.toList),minLot:=(Ps.step (Ps.quantity E l) 0 (dV (bL l s.part pa))).1})))
     (.nx [some (.p 0 0),some (.v (.pointer (some ⟨z,0,none⟩))),some (.r 0 0),some (.p 1 0)] (.any (dV (bL l s.part pa)),((sq4 s).set 1 true,{i with hasPartial:=true,partial_:=(d9 l (bL l s.part pa) (⟨#[112,97,114,116,105,97,108]⟩:ByteArray).data.toList)}))))
    (.ite (d9 l (.ok pa) (⟨#[97,109,111,117,110,116]⟩:ByteArray).data.toList) (.nx [some (.p 0 0),some (.v (.pointer (some ⟨z,0,none⟩))),some (.r 0 0),some (.p 1 0)] (.any (Ps.step (Ps.cash E l) 0 (dV (bL l s.amount pa))).2,((sq4 s).set 2 true,{i with hasAmount:=true,amount:=(Ps.step (Ps.cash E l) 0 (dV (bL l s.amount pa))).1})))
     (.ite (d9 l (.ok pa) (⟨#[100,97,121]⟩:ByteArray).data.toList) (.nx [some (.p 0 0),some (.v (.pointer (some ⟨z,0,none⟩))),some (.r 0 0),some (.p 1 0)] (.any (Ps.step (Ps.day E l) 0 (dV (bL l s.day pa))).2,((sq4 s).set 3 true,{i with hasSettleDay:=true,settleDay:=(Ps.step (Ps.day E l) 0 (dV (bL l s.day pa))).1})))
      (.nx [some (.p 0 0),some (.v (.pointer (some ⟨z,0,none⟩))),some (.r 0 0),some (.p 1 0)] (.any (Ps.gM l 30 (.ok pa)),(sq4 s,i)))))))
  hOE (bU Dy) hdr (by kernel_rfl) (Ev.aC (Ev.aC (Ev.aC (Ev.aC (Ev.aU hst.1 hst.2.1) cZ) hf3) hf2) hf0) ⟨fA,HA⟩ ?_
 have fin:∀(st':Ps.St) (s':Ps.Seen) (i':Ps.Amd),Ps.ChI E l {} st0 st' s' i'->(s'.part=false->i'.partial_=false)->(∀a,st'=.ok a->pa<a)->∀(b:Act) (w2:World),Stop (chM E l r g sb) 109 [0,2,3,4] [some (.p 0 0),some (.v (.pointer (some ⟨z,0,none⟩))),some (.r 0 0),some (.p 1 0)] b->rdS l (chB W r tb cap l g z sb) (.any st',(sq4 s',i')) w2->(∃st s i,b.tmps.size=109/\b.defers=[]/\b.tmps[0]? =some (.pointer (some ⟨r,0,none⟩))/\b.tmps[2]? =some (.pointer (some ⟨z,0,none⟩))/\b.tmps[3]? =some (.slice (some ⟨sb,0,none⟩) 4 4)/\b.tmps[4]? =some (.pointer (some ⟨g,0,none⟩))/\CAt W r tb cap l g z sb 4 st (sq4 s) i w2/\Ps.ChI E l {} st0 st s i/\(s.part=false->i.partial_=false))/\fI l.length r w2<fI l.length r w1:=λst' s' i' h1 h2 h3 b w2 hst hS=>by
  obtain⟨hf0,hst⟩:=hst.cons
  obtain⟨hf2,hst⟩:=hst.cons
  obtain⟨hf3,hst⟩:=hst.cons
  obtain⟨cZ,hst⟩:=hst.cons
  refine⟨⟨st',s',i',hst.1,hst.2.1,hf0,hf2,hf3,cZ,hS.2,h1,h2⟩,?_⟩
  rw[hM];exact Et (CAt.rd hS.2) h3 fA
 clear hst hf0 hf2 hf3 cZ HA
 refine⟨λc=>fin _ {s with prio:=true} _ ?_ HP (dQ s.prio),λn0=>⟨λc=>⟨λc2=>fin _ {s with part:=true} _ ?_ (λh=>by cases h) ?_,λc2=>fin _ {s with part:=true} _ ?_ (λh=>by cases h) (dQ s.part)⟩,λn1=>⟨λc=>fin _ {s with amount:=true} _ ?_ HP (ni s.amount),λn2=>⟨λc=>fin _ {s with day:=true} _ ?_ HP (vD s.day),λn3=>fin _ s _ ?_ HP (λa ha=>by cases ha)⟩⟩⟩⟩
 ·cases hs:s.prio with
  |true=>exact HO.prioDup fA (jL (of_decide_eq_true c)) hs _ _
  |false=>exact HO.prioOk fA (jL (of_decide_eq_true c)) hs
 ·cases hs:s.part with
  |true=>rw[hs]at c2;cases c2
  |false=>
   rw[hs]at c2
   have c3:d9 l (.ok pa) (⟨#[112,97,114,116,105,97,108]⟩:ByteArray).data.toList=true:=c2
   have h1:=HO.partOk fA (eD c3) hs
   show Ps.ChI E l {} st0 (Ps.step (Ps.quantity E l) 0 (.ok (pa+1))).2 {s with part:=true} {i with hasPartial:=true,partial_:=d9 l (.ok pa) (⟨#[112,97,114,116,105,97,108]⟩:ByteArray).data.toList,minLot:=(Ps.step (Ps.quantity E l) 0 (.ok (pa+1))).1}
   rw[c3]
   exact h1
 ·exact qJ s.part
 ·cases hs:s.part with
  |true=>
   cases hP:d9 l (.ok pa) (⟨#[112,97,114,116,105,97,108]⟩:ByteArray).data.toList with
   |true=>exact HO.partDup fA (eD hP) hs _ _
   |false=>rw[hP]at c;exact HO.wholeDup fA (eD c) hs _ _
  |false=>
   rw[hs]at c2
   have c3:d9 l (.ok pa) (⟨#[112,97,114,116,105,97,108]⟩:ByteArray).data.toList=false:=c2
   rw[c3]at c
   have h1:=HO.wholeOk fA (eD c) hs
   show Ps.ChI E l {} st0 (.ok (pa+1)) {s with part:=true} {i with hasPartial:=true,partial_:=d9 l (.ok pa) (⟨#[112,97,114,116,105,97,108]⟩:ByteArray).data.toList}
   rw[c3,show({i with hasPartial:=true,partial_:=false}:Ps.Amd)={i with hasPartial:=true}from by rw[<-HP hs]]
   exact h1
 ·have hp:=eD c
  cases hs:s.amount with
  |true=>exact HO.amountDup fA hp hs _ _
  |false=>exact HO.amountOk fA hp hs
 ·have hp:=eD c
  cases hs:s.day with
  |true=>exact HO.dayDup fA hp hs _ _
  |false=>exact HO.dayOk fA hp hs
 ·rw[Bool.or_eq_false_iff]at n1
  exact HO.none fA (rX (of_decide_eq_false n0)) (fu n1.1) (fu n1.2) (fu n2) (fu n3) _ _
noncomputable def jf (lv:Value)(ty:Int)(s:ByteArray)(x:World):Value×World:=
 match (Builtin.append_ #[33,33] 33 #[lv,.slice (some ⟨x.heap.size,0,none⟩) 1 1]).run Tryz.prog (x.alloc (.cells #[.int .i64 ty,.string s] 96))with
 | .ok v W4=>(v,W4)
 |_=>(undef,x)
theorem Oc {W:World}{r tb cap:Nat}{l:List Ps.Tok}{g:Nat}{tt:TypeId}{st:Ps.St}{s4:List Bool}{i:Ps.Ins}{ta:Option Addr}{tc:Nat}{x:World}(h:OAt W r tb cap l g (g+2) tt st s4 i (.slice ta i.links.length tc) x)(hlen:i.links.length<=1000000)(ty:Int)(s:ByteArray):
 ∃va vc W4,(Builtin.append_ #[33,33] 33 #[.slice ta i.links.length tc,.slice (some ⟨x.heap.size,0,none⟩) 1 1]).run Tryz.prog (x.alloc (.cells #[.int .i64 ty,.string s] 96))=.ok (.slice va (i.links.length+1) vc) W4/\
  jf (.slice ta i.links.length tc) ty s x=(.slice va (i.links.length+1) vc,W4)/\W4.cell? ⟨g,15,none⟩=some (.slice ta i.links.length tc)/\W4.frozen? ⟨g,15,none⟩=false/\
  OAt W r tb cap l g (g+2) tt st s4 {i with links:=i.links++[⟨ty,s⟩]} (.slice va (i.links.length+1) vc) (W4.setCell ⟨g,15,none⟩ (.slice va (i.links.length+1) vc)):=by
 have mZ:Below x.heap.size x (x.alloc (.cells #[.int .i64 ty,.string s] 96)):=(Below.refl _ _).alloc (Nat.le_refl _) _
 have h3:=h.below mZ
 have hrow3:(x.alloc (.cells #[.int .i64 ty,.string s] 96)).heap[x.heap.size]? =some (.cells #[.int .i64 ty,.string s] 96 (0,0)):=aD x _
 obtain⟨i0,hii,hz0,hz1,hz2⟩:=info_parts xM
 have hl3:=h3.links
 have hsz:=h.size
 obtain⟨v9,W4,He,qW,qX,hat9⟩:=nz (w:=x.alloc (.cells #[.int .i64 ty,.string s] 96)) 33 33 96 i0 (.agg #[.int .i64 0,.string ⟨#[]⟩]) 2 24 Tryz.underlying33 hii hz0 hz1 hz2 rfl (by decide) (g+2+1) (.slice ta i.links.length tc) i.links.length (dO i.links)
  hl3 (some ⟨x.heap.size,0,none⟩) 1 1 [.int .i64 ty,.string s] rfl (λad ha=>by cases ha;exact World.news_of_block hrow3) (λe=>by cases e) (by intro u hu;simp at hu;rcases hu with rfl|rfl<;>rfl) (by unfold maxLen;omega) (by omega) (by have:=mZ.size;omega)
 obtain⟨va,vc,rfl⟩:=dB qW
 have k1:=h.hr;have k2:=h.htb;have k3:=h.hg
 have hblk:∀j,j<g+3->W4.heap[j]? =(x.alloc (.cells #[.int .i64 ty,.string s] 96)).heap[j]?:=λj hj=>qX.block j (by have:=mZ.size;omega) (λe=>by have:=(hl3.lt j e.symm).1;omega)
 have hrow4:W4.heap[g]? =some (.cells (aB i (.slice ta i.links.length tc)).toArray 35 (0,0)):=(hblk g (by omega)).trans h3.row
 refine⟨va,vc,W4,He,by unfold jf;rw[He],by rw[cell_of_row _ _ _ _ _ _ hrow4];rfl,aJ 15 hrow4,?_⟩
 have hT4:∀j,j<g+3->W4.heap[j]? =x.heap[j]?:=λj hj=>(hblk j hj).trans (mZ.block j (by omega))
 have hz5:(W4.setCell ⟨g,15,none⟩ (.slice va (i.links.length+1) vc)).heap.size=W4.heap.size:=by simp[World.setCell]
 have hs5:x.heap.size<=W4.heap.size:=Nat.le_trans mZ.size qX.size
 have up5:∀j,j≠g->(W4.setCell ⟨g,15,none⟩ (.slice va (i.links.length+1) vc)).heap[j]? =W4.heap[j]?:=λj hj=>Below.heap_setCell W4 _ _ j (λe=>hj (by rw[e]))
 have up:∀j,j<g+3->j≠g->(W4.setCell ⟨g,15,none⟩ (.slice va (i.links.length+1) vc)).heap[j]? =x.heap[j]?:=λj hj hne=>(up5 j hne).trans (hT4 j hj)
 have k4:=h.tch
 refine⟨?_,?_,(up (g+1) (by omega) (by omega)).trans h.zero,(up (g+2) (by omega) (by omega)).trans h.seen,?_,⟨qX.os.trans (mZ.os.trans k4.os),qX.tape.trans (mZ.tape.trans k4.tape),qX.output.trans (mZ.output.trans k4.output),by have:=k4.size;omega,λj hj a b=>(up j (by omega) (by omega)).trans (k4.block j hj a b)⟩,h.hg,h.hsb,h.hr,h.htb,h.four⟩
 ·obtain⟨a,e,o,hr,ht,hrest⟩:=h.rd
  refine⟨a,e,o,(up r (by omega) (by omega)).trans hr,?_,hrest⟩
  intro k y hy
  obtain⟨e0,e1,e2⟩:=ht k y hy
  have hb:(W4.setCell ⟨g,15,none⟩ (.slice va (i.links.length+1) vc)).heap[tb]? =x.heap[tb]?:=up tb (by omega) (by omega)
  exact⟨(World.cell?_of_block (a:=⟨tb,_,none⟩) hb).trans e0,(World.cell?_of_block (a:=⟨tb,_,none⟩) hb).trans e1,(World.cell?_of_block (a:=⟨tb,_,none⟩) hb).trans e2⟩
 ·exact aN W4 g 15 _ _ (.slice va (i.links.length+1) vc) hrow4
 ·unfold LkL
  show World.ownsRow _ (g+2+1) _ 2 _ (i.links++([⟨ty,s⟩]:List Ps.Link)).length (dO (i.links++([⟨ty,s⟩]:List Ps.Link)))
  rw[kC,List.length_append]
  exact bP qW λj hj=>up5 j (by have:=(qW.lt j hj).1;omega)
open Go.Proofs.YthijakidnkhbnaaGreatDoor.Ev (AV Mem Fr Sh Stop Qof aK dW aM fP gK AR)
def op0 (W:World)(i:Ps.Ins):World:=((W.alloc (.cells (aB i (.slice none 0 0)).toArray 35)).alloc (.cells (aB {} (.slice none 0 0)).toArray 35)).alloc (.cells (bI [false,false,false,false]) 4)
theorem op0_at {W:World}{r tb cap:Nat}{l:List Ps.Tok}{st:Ps.St}(h:ae W r tb cap l st)(i:Ps.Ins)(hi:i.links=[])(hr:r<W.heap.size)(ht:tb<W.heap.size):OAt W r tb cap l W.heap.size (W.heap.size+2) 4 st [false,false,false,false] i (.slice none 0 0) (op0 W i):=by
 have hs1:(W.alloc (.cells (aB i (.slice none 0 0)).toArray 35)).heap.size=W.heap.size+1:=by simp
 have hb:Below W.heap.size W (op0 W i):=(((Below.refl _ _).alloc (Nat.le_refl _) _).alloc (by simp) _).alloc (by simp;omega) _
 refine⟨h.below hb,?_,?_,?_,?_,Tch.of_below hb,rfl,rfl,hr,ht,rfl⟩
 ·unfold op0
  rw[heap_alloc_old _ _ (by simp;omega),heap_alloc_old _ _ (by simp)]
  exact aD W _
 ·unfold op0
  rw[heap_alloc_old _ _ (by simp)]
  exact heap_alloc2_new _ _ _
 ·have:=heap_alloc2_new (W.alloc (.cells (aB i (.slice none 0 0)).toArray 35)) (.cells (aB {} (.slice none 0 0)).toArray 35) (.cells (bI [false,false,false,false]) 4)
  rw[hs1]at this
  exact this
 ·rw[hi];exact World.ownsRow_nil _ _ _ _
def sn4 (s:Ps.Seen):List Bool:=[s.prio,s.part,s.hold,s.res]
section
variable {W : World} {r tb cap : Nat} {l : List Ps.Tok} {g : Nat}
def opB (W:World)(r tb cap:Nat)(l:List Ps.Tok)(g:Nat)(st:Ps.St)(x:List Bool×Ps.Ins)(w:World):Prop:=∃lv,OAt W r tb cap l g (g+2) 4 st x.1 x.2 lv w
theorem JW:RdB (rrR r tb cap l) r (opB W r tb cap l g):=⟨λ⟨_,h⟩=>h.rd,λ⟨lv,h⟩ hs hT=>⟨lv,OAt.reader h hs hT⟩⟩
def FD (x:List Bool×Ps.Ins)(t:TypeId)(j:Nat)(v:Value):Option (List Bool×Ps.Ins):=if t=2\/t=3\/t=4\/t=9 then(match qw x.2 j v with|some i=>some (x.1,i)|none=>none)else none
def opM (E:Ps.Env)(l:List Ps.Tok)(r g:Nat):Mem (RS×(List Bool×Ps.Ins)):=rdM E l r g (λ_ _ _=>none) FD ow (λ_=>none) (.slice (some ⟨g+2,0,none⟩) 4 4)
theorem opM_ok {E:Ps.Env}(hR:Rdr r tb cap l E):Ev.Ok Tryz.prog (rdS l (opB W r tb cap l g)) (opM E l r g):=by
 refine yK JW hR (λx t j v h=>by cases h) (λx t j v x' h st w hB=>?_) (λs f vs v s' h=>?_)
 ·unfold FD at h
  split at h
  ·rename_i ht
   split at h
   ·rename_i i hi
    cases h
    obtain⟨lv,hA⟩:=hB
    obtain⟨k1,k4,k2,k3⟩:=wV hi lv
    refine⟨_,oG ht _ w ((aB x.2 lv).toArray[j]'(by simpa[aB]using k3)) v (by rw[cell_of_row _ _ _ _ _ _ hA.row];simp[aB,k3]) (aJ j hA.row) k2,lv,OAt.field hA j v i lv k1 (by rw[k4];exact hA.links)⟩
   ·cases h
  ·cases h
 ·unfold ow at h
  split at h
  ·rename_i hf
   subst hf
   split at h
   ·rename_i p a hs
    split at h
    ·rename_i k b hb
     cases h
     refine⟨PP,λhbd w hB=>?_⟩
     rw[hs]at hbd hB
     obtain⟨lv,hA⟩:=hB
     have hA2:OAt W r tb cap l g (g+2) 4 (.ok a) s.2.1 s.2.2 lv w:=hA
     have h1:=hA2.hr;have h3:=hA2.htb
     have hargs:(List.map (AV.val (opM E l r g)) [AV.p 0 0,.r 0 0,.v (.int .i64 (Int.ofNat k))]).toArray=#[.pointer (some ⟨r,0,none⟩),.slice (some ⟨g+2,0,none⟩) 4 4,.int .i64 (k:Int)]:=rfl
     show Calls Tryz.prog _ (List.map (AV.val (opM E l r g)) [AV.p 0 0,.r 0 0,.v (.int .i64 (Int.ofNat k))]).toArray _ _
     rw[hargs]
     have hb2:s.2.1[k]? =some b:=hb
     have zS:a<l.length:=hbd
     have key:=Fg hA2.rd (λc hc=>by cases hc;exact zS) s.2.1 4 hA2.seen (by omega) (by omega) k b hb2
     rw[hA2.four]at key
     refine key.mono λe w' q=>⟨q.1,?_⟩
     show rdS l (opB W r tb cap l g) (.dup b a,(s.2.1.set k true,s.2.2)) w'
     exact⟨zS,lv,OAt.once hA2 (by rw[List.length_set];exact hA2.four) q.2.1 q.2.2.1 q.2.2.2⟩
    ·cases h
   ·cases h
  ·cases h
end
noncomputable def opC:Code:=AR (fP (aK dW (Tryz.f72.body.getD .skip)).1)
theorem BR (ty:Bool)(ρ:Operand->Value)(s:ByteArray){y z:Operand}(h2:ρ y=.string s)(h3:ρ z=.int .i64 1)(w:World):(Instr.build 96 ((if ty then#[(0,z),(1,y)]else#[(1,y)]:Array (Nat×Operand)).map λ(i,x)=>(i,ρ x))).run Tryz.prog w=.ok (.agg #[.int .i64 (if ty then 1 else 0),.string s]) w:=by
 cases ty<;>simp only[List.map_toArray,List.map_cons,List.map_nil,h2,h3,if_true,Bool.false_eq_true,if_false]<;>go_simp
theorem op_reg (ty:Bool){W:World}{r tb cap:Nat}{l:List Ps.Tok}{E:Ps.Env}{g:Nat}{st:Ps.St}{sn:List Bool}{i:Ps.Ins}{lv:Value}{a:Act}{w:World}{Q:Exit->Act->World->Prop}(hR:Rdr r tb cap l E)(HA:OAt W r tb cap l g (g+2) 4 st sn i lv w)(hlen:i.links.length<=1000000)(hsz:a.tmps.size=126)(hf0:a.tmps[0]? =some (.pointer (some ⟨r,0,none⟩)))(hf3:a.tmps[3]? =some (.pointer (some ⟨g,0,none⟩)))
 (hend:∀(b:Act) (w':World),Kept (gK (aK (aM (if ty then 27 else 24)) opC).1) a b->opB W r tb cap l g (Ps.step (Ps.ref E l) ⟨#[]⟩ st).2 (sn,{i with links:=i.links++[⟨if ty then 1 else 0,(Ps.step (Ps.ref E l) ⟨#[]⟩ st).1⟩]}) w'->Q .normal b w'):
 (Code.region (if ty then 27 else 24) (gK (aK (aM (if ty then 27 else 24)) opC).1) true).wp Tryz.prog Q a w:=by
 obtain⟨idv,EK⟩:∃idv,idv=(Ps.step (Ps.ref E l) ⟨#[]⟩ st).1:=⟨_,rfl⟩
 obtain⟨ids,C9⟩:∃ids,ids=(Ps.step (Ps.ref E l) ⟨#[]⟩ st).2:=⟨_,rfl⟩
 obtain⟨ta,tc,hlv⟩:=dB HA.links
 subst hlv
 obtain⟨wS,hwS⟩:∃wS,wS=w.drew:=⟨_,rfl⟩
 have HS:OAt W r tb cap l g (g+2) 4 st sn i (.slice ta i.links.length tc) wS:=by rw[hwS];exact HA.drewN 1
 have HC:Calls Tryz.prog 29 #[.pointer (some ⟨r,0,none⟩),.int .i64 2] wS λe w'=>e=.returned (.string idv)/\OAt W r tb cap l g (g+2) 4 ids sn i (.slice ta i.links.length tc) w':=by
  rw[EK,C9]
  exact(hR.ref wS _ HS.rd).mono λe w' k=>⟨k.1,HS.reader k.2.1 k.2.2⟩
 obtain⟨tI,htI⟩:∃tI:Int,tI=if ty=true then 1 else 0:=⟨_,rfl⟩
 have HL:∀x,OAt W r tb cap l g (g+2) 4 ids sn i (.slice ta i.links.length tc) x->_:=λx hx=>Oc hx hlen tI idv
 rw[<-EK,<-C9,<-htI]at hend
 have HTI:=Lib.hid htI
 clear htI
 have hcell:∀{ids:Ps.St} {w:World},OAt W r tb cap l g (g+2) 4 ids sn i (.slice ta i.links.length tc) w->w.cell? ⟨g,15,none⟩=some (.slice ta i.links.length tc):=λh=>by rw[cell_of_row _ _ _ _ _ _ h.row];rfl
 clear HA C9 EK
 have kp:∀(dn:Nat->Bool) (j:Nat) (x w:World),j≠3->j≠5->j≠6->j≠8->(dn 3=true/\OAt W r tb cap l g (g+2) 4 ids sn i (.slice ta i.links.length tc) x/\w=if dn 8=true then(jf (.slice ta i.links.length tc) tI idv x).2.setCell ⟨g,15,none⟩ (jf (.slice ta i.links.length tc) tI idv x).1 else if dn 6=true then(jf (.slice ta i.links.length tc) tI idv x).2 else if dn 5=true then x.alloc (.cells #[.int .i64 tI,.string idv] 96)else x)->
  ((dn 3||3==j)=true/\OAt W r tb cap l g (g+2) 4 ids sn i (.slice ta i.links.length tc) x/\w=if (dn 8||8==j)=true then(jf (.slice ta i.links.length tc) tI idv x).2.setCell ⟨g,15,none⟩ (jf (.slice ta i.links.length tc) tI idv x).1 else if (dn 6||6==j)=true then(jf (.slice ta i.links.length tc) tI idv x).2 else if (dn 5||5==j)=true then x.alloc (.cells #[.int .i64 tI,.string idv] 96)else x):=λdn j x w h3 h5 h6 h8 h=>by
  rw[show(3==j)=false from by simp;omega,show(5==j)=false from by simp;omega,show(6==j)=false from by simp;omega,show(8==j)=false from by simp;omega]
  simpa using h
 cases ty
 all_goals
  refine iC (X:=World) (λ_ w=>w=wS) (λx dn w=>dn 3=true/\OAt W r tb cap l g (g+2) 4 ids sn i (.slice ta i.links.length tc) x/\w=if dn 8=true then(jf (.slice ta i.links.length tc) tI idv x).2.setCell ⟨g,15,none⟩ (jf (.slice ta i.links.length tc) tI idv x).1 else if dn 6=true then(jf (.slice ta i.links.length tc) tI idv x).2 else if dn 5=true then x.alloc (.cells #[.int .i64 tI,.string idv] 96)else x) (Ord.inD [(1,0),(3,2),(4,2),(4,3),(5,2),(5,3),(5,4),(6,0),(6,1),(6,2),(6,3),(6,4),(6,5),(8,0),(8,1),(8,2),(8,3),(8,4),(8,5),(8,6),(8,7)]) (Ord.ig (by kernel_rfl)) 3 9 (by decide) rfl [(.pointer (some ⟨g,15,none⟩)),(.slice ta i.links.length tc),(.pointer (some ⟨r,0,none⟩)),(.string idv),(.agg #[.int .i64 tI,.string idv]),(undef),(undef),(.pointer (some ⟨g,15,none⟩)),(undef)] (λx=>[(.pointer (some ⟨g,15,none⟩)),(.slice ta i.links.length tc),(.pointer (some ⟨r,0,none⟩)),(.string idv),(.agg #[.int .i64 tI,.string idv]),(.slice (some ⟨x.heap.size,0,none⟩) 1 1),((jf (.slice ta i.links.length tc) tI idv x).1),(.pointer (some ⟨g,15,none⟩)),(undef)]) rfl (λ_=>rfl) (by kernel_rfl) ?_ rfl (by kernel_rfl) (by kernel_rfl) (by kernel_rfl) (by rw[hsz];kernel_rfl) hwS.symm ?_ ?_ ?_
  ·intro x i hic h
   rcases i with _|_|_|_|_|_|_|i
   all_goals first|rfl|(have h2:true=false:=h;cases h2)
  ·intro ρ hD hrest hco hfu
   have e0:ρ (.tmp 0)=.pointer (some ⟨r,0,none⟩):=(hrest 0 (by decide +kernel)).trans (eval_at hf0)
   have e3:ρ (.tmp 3)=.pointer (some ⟨g,0,none⟩):=(hrest 3 (by decide +kernel)).trans (eval_at hf3)
   obtain⟨k0,k1,k2,k3,k4,k5,k6,k7,-⟩:=hD
   have k2':ρ (.tmp _)=.pointer (some ⟨r,0,none⟩):=k2
   refine⟨λ_ dn hn hd he=>aF (B:=λ_=>True) (λw h=>h) (λ_ _=>trivial) (λw0=>aP rfl (bS rfl e3 (λw=>by go_simp))),?_⟩
   refine⟨λ_ dn hn hd he=>aF (B:=λw=>w=wS) (λw h=>h) (λw h=>h) (λw0=>aP rfl (bT rfl k0 (λw hS=>yT _ w _ _ _ (by rw[hS.2];exact hcell HS)))),?_⟩
   refine⟨λ_ dn hn hd he=>aF (B:=λ_=>True) (λw h=>h) (λ_ _=>trivial) (λw0=>aP rfl (bG rfl e0)),?_⟩
   refine⟨λ_ dn hn hd he=>⟨rfl,λw hS=>?_⟩,?_⟩
   ·obtain rfl:w=wS:=hS
    have h5:=he 5 rfl
    have h6:=he 6 rfl
    have h8:=he 8 rfl
    unfold execOp
    have hf:=hfu 29
    have hc0:=hco (.int .i64 2)
    simp[resolve,invoke,hf,hc0,k2',Deferred.ofValue,Bn]
    exact HC.mono λe w' h=>by first|exact⟨_,h.1,rfl,h.2⟩|(refine⟨_,h.1,rfl,?_⟩;simp[h5,h6,h8];exact h.2)
   refine⟨λhic=>(by have h2:true=false:=hic;cases h2),?_⟩
   refine⟨λhic=>(by have h2:true=false:=hic;cases h2),?_⟩
   refine⟨λhic=>(by have h2:true=false:=hic;cases h2),?_⟩
   refine⟨λ_ dn hn hd he=>aF (B:=λ_=>True) (λw h=>h) (λ_ _=>trivial) (λw0=>aP rfl (bS rfl e3 (λw=>by go_simp))),?_⟩
   refine⟨λhic=>(by have h2:true=false:=hic;cases h2),?_⟩
   exact trivial
  ·intro x ρ hD hrest hco hfu
   have e0:ρ (.tmp 0)=.pointer (some ⟨r,0,none⟩):=(hrest 0 (by decide +kernel)).trans (eval_at hf0)
   have e3:ρ (.tmp 3)=.pointer (some ⟨g,0,none⟩):=(hrest 3 (by decide +kernel)).trans (eval_at hf3)
   obtain⟨k0,k1,k2,k3,k4,k5,k6,k7,-⟩:=hD
   have k1':ρ (.tmp _)=.slice ta i.links.length tc:=k1
   have k3':ρ (.tmp _)=.string idv:=k3
   have k4':ρ (.tmp _)=.agg #[.int .i64 tI,.string idv]:=k4
   have k5':ρ (.tmp _)=.slice (some ⟨x.heap.size,0,none⟩) 1 1:=k5
   have k6':ρ (.tmp _)=(jf (.slice ta i.links.length tc) tI idv x).1:=k6
   have k7':ρ (.tmp _)=.pointer (some ⟨g,15,none⟩):=k7
   refine⟨λdn hn hd he=>aF (B:=λ_=>True) (λw h=>kp dn 0 x w (by decide) (by decide) (by decide) (by decide) h) (λ_ _=>trivial) (λw0=>aP rfl (bS rfl e3 (λw=>by go_simp))),?_⟩
   refine⟨λdn hn hd he=>aF (B:=λw=>w.cell? ⟨g,15,none⟩=some (.slice ta i.links.length tc)) (λw h=>kp dn 1 x w (by decide) (by decide) (by decide) (by decide) h) (λw h=>by
    obtain⟨h1,h2,h3⟩:=h
    have h6:=he 6 rfl
    have h8:=he 8 rfl
    simp only[h6,h8,Bool.false_eq_true,if_false]at h3
    rw[h3]
    split
    ·exact hcell (h2.below ((Below.refl _ _).alloc (Nat.le_refl _) _))
    ·exact hcell h2) (λw0=>aP rfl (bT rfl k0 (λw hS=>yT _ w _ _ _ hS.2))),?_⟩
   refine⟨λdn hn hd he=>aF (B:=λ_=>True) (λw h=>kp dn 2 x w (by decide) (by decide) (by decide) (by decide) h) (λ_ _=>trivial) (λw0=>aP rfl (bG rfl e0)),?_⟩
   refine⟨λdn hn hd he=>⟨λ_ w hS=>(by rw[hS.1]at hn;cases hn),λh=>by have h2:true=false:=h;cases h2⟩,?_⟩
   refine⟨λdn hn hd he=>aF (B:=λ_=>True) (λw h=>kp dn 4 x w (by decide) (by decide) (by decide) (by decide) h) (λ_ _=>trivial) (λw0=>aP rfl (kJ rfl (λw=>by rw[HTI.out];first|exact BR false ρ _ k3' (z:=.const (.int .i64 1)) (hco _) w|exact BR true ρ _ k3' (hco _) w))),?_⟩
   refine⟨λdn hn hd he=>⟨λ_ w hS=>?_,λh=>by have h2:true=false:=h;cases h2⟩,?_⟩
   ·obtain⟨hS1,hS2,hS⟩:=hS
    have h6:=he 6 rfl;have h8:=he 8 rfl
    simp only[hn,h6,h8,Bool.false_eq_true,if_false]at hS
    subst hS
    unfold execOp
    simp only[k4']
    go_simp
    first|exact⟨rfl,by simp[hS1],hS2,by simp[h6,h8]⟩|exact⟨by simp[hS1],hS2,by simp[h6,h8]⟩|exact⟨rfl,rfl⟩
   refine⟨λdn hn hd he=>⟨λ_ w hS=>?_,λh=>by have h2:true=false:=h;cases h2⟩,?_⟩
   ·obtain⟨hS1,hS2,hS⟩:=hS
    have h5:=hd 5 rfl;have h8:=he 8 rfl
    simp only[hn,h5,h8,Bool.false_eq_true,if_false,if_true]at hS
    subst hS
    obtain⟨va,vc,W4,q1,q2,q3,q4,q5⟩:=HL x hS2
    unfold execOp
    simp only[resolve,invoke,builtin,Sem.run_bind,Sem.run_pure,Result.andThen_ok,List.map_toArray,List.map_cons,List.map_nil,k1',k5',q1]
    exact⟨by rw[q2],by simp[hS1],hS2,by simp[h8,q2]⟩
   refine⟨λdn hn hd he=>aF (B:=λ_=>True) (λw h=>kp dn 7 x w (by decide) (by decide) (by decide) (by decide) h) (λ_ _=>trivial) (λw0=>aP rfl (bS rfl e3 (λw=>by go_simp))),?_⟩
   refine⟨λdn hn hd he=>⟨λ_ w hS=>?_,λh=>by have h2:true=false:=h;cases h2⟩,?_⟩
   ·obtain⟨hS1,hS2,hS⟩:=hS
    have h6:=hd 6 rfl
    simp only[hn,h6,Bool.false_eq_true,if_false,if_true]at hS
    obtain⟨va,vc,W4,q1,q2,q3,q4,q5⟩:=HL x hS2
    rw[q2]at hS
    subst hS
    rw[q2]at k6'
    unfold execOp
    simp only[k7',k6']
    go_simp
    first|exact⟨rfl,by simp[hS1],hS2,by simp[q2]⟩|exact⟨by simp[hS1],hS2,by simp[q2]⟩|exact⟨rfl,rfl⟩
   exact trivial
  intro x b w8 hS hK hD
  obtain⟨-,hx,hw⟩:=hS
  obtain⟨va,vc,W4,q1,q2,q3,q4,q5⟩:=HL x hx
  have hw8:w8=W4.setCell ⟨g,15,none⟩ (.slice va (i.links.length+1) vc):=by rw[hw];simp[q2]
  rw[<-hw8]at q5
  exact hend b w8 hK ⟨_,q5⟩
def opU (g:Nat):List (Option AV):=[some (.p 0 0),some (.p 1 0),some (.v (.pointer (some ⟨g+1,0,none⟩))),some (.r 0 0)]
def opK (g:Nat):List (Nat×AV):=[(0,.p 0 0),(3,.p 1 0),(4,.v (.pointer (some ⟨g+1,0,none⟩))),(5,.r 0 0)]
def opI (W:World)(r tb cap:Nat)(l:List Ps.Tok)(E:Ps.Env)(g:Nat)(i0:Ps.Ins)(st0:Ps.St)(a:Act)(w1:World):Prop:=∃st s i lv,a.tmps.size=126/\a.defers=[]/\a.tmps[0]? =some (.pointer (some ⟨r,0,none⟩))/\a.tmps[3]? =some (.pointer (some ⟨g,0,none⟩))/\a.tmps[4]? =some (.pointer (some ⟨g+1,0,none⟩))/\a.tmps[5]? =some (.slice (some ⟨g+2,0,none⟩) 4 4)/\OAt W r tb cap l g (g+2) 4 st (sn4 s) i lv w1/\Ps.OpI E l i0 st0 st s i/\(∀a,st=.ok a->i.links.length<=a)
theorem Ag (W:World)(r tb cap:Nat)(l:List Ps.Tok)(st0:Ps.St)(i0:Ps.Ins)(E:Ps.Env)(hR:Rdr r tb cap l E)(hi0:i0.links=[])(H0:ae W r tb cap l st0)(hr0:r<W.heap.size)(ht0:tb<W.heap.size):
 Calls Tryz.prog 72 #[.pointer (some ⟨r,0,none⟩),(.agg (aB i0 (.slice none 0 0)).toArray)] W λe W'=>∃i lv st,e=.returned (.agg (aB i lv).toArray)/\ae W' r tb cap l st/\Tch r r W W'/\LkL W' (W.heap.size+3) lv i.links/\Ps.Res (Ps.options E l (l.length+1) {} i0) st0 st i:=by
 obtain⟨g,hg⟩:∃g,g=W.heap.size:=⟨_,rfl⟩
 go_enter Tryz.func72,Tryz.ntmps72
 refine wp_seq ?_
 refine wp_region_lit ?_
 refine wpList_plain rfl (λK hK=>?_)
 go_simp
 refine hK _ _ ?_
 clear hK K
 refine wpList_plain rfl (λK hK=>?_)
 go_simp
 refine hK _ _ ?_
 clear hK K
 refine aL ?_
 simp only[Exit.then]
 refine wp_seq ?_
 refine wp_region_lit ?_
 refine wpList_plain rfl (λK hK=>?_)
 go_simp
 refine hK _ _ ?_
 clear hK K
 refine wpList_plain rfl (λK hK=>?_)
 go_simp
 refine hK _ _ ?_
 clear hK K
 refine aL ?_
 obtain⟨W1,hW1⟩:∃W1,W1=op0 W i0:=⟨_,rfl⟩
 have HA0:(OAt W r tb cap l g (g+2) 4 st0 [false,false,false,false] i0 (.slice none 0 0) W1):=by rw[hW1,hg];exact op0_at H0 i0 hi0 hr0 ht0
 refine mM (w':=W1) rfl (by rw[hW1];kernel_rfl) λa ha hdf=>?_
 have hsz:a.tmps.size=126:=by rw[ha];rfl
 have hf0:a.tmps[0]? =some (.pointer (some ⟨r,0,none⟩)):=by rw[ha];rfl
 have hf3:a.tmps[3]? =some (.pointer (some ⟨g,0,none⟩)):=by rw[ha,hg];rfl
 have cZ:a.tmps[4]? =some (.pointer (some ⟨g+1,0,none⟩)):=by rw[ha,hg];rfl
 have dm:a.tmps[5]? =some (.slice (some ⟨g+2,0,none⟩) 4 4):=by rw[ha,hg];kernel_rfl
 clear ha hg hW1
 refine wp_seq (wp_block ?_)
 refine wp_loop (λa w=>opI W r tb cap l E g i0 st0 a w) (λ_ w1=>fI l.length r w1)
  ⟨st0,{},i0,.slice none 0 0,hsz,hdf,hf0,hf3,cZ,dm,HA0,Ps.OpI.start _ _ _ _,λa _=>by rw[hi0];exact Nat.zero_le _⟩ ?_
 clear hsz hdf hf0 hf3 cZ dm HA0 a W1
 rintro a w1 ⟨st,s,i,lv,hsz,hdf,hf0,hf3,cZ,dm,HA,HO,HLn⟩
 have hOE:=opM_ok (W:=W) (r:=r) (tb:=tb) (cap:=cap) (l:=l) (g:=g) hR
 have hdr:∀(s:RS×(List Bool×Ps.Ins)) w,rdS l (opB W r tb cap l g) s w->rdS l (opB W r tb cap l g) s w.drew:=λs w h=>⟨h.1,h.2.choose,h.2.choose_spec.drewN 1⟩
 obtain⟨av,ev,c0,c1,c2,hok⟩:=Eu HA.rd
 refine wp_seq ?_
 refine Ev.jA (M:=whM r tb cap l.length av ev) (S:=λ_ w=>OAt W r tb cap l g (g+2) 4 st (sn4 s) i lv w/\w.cell? ⟨r,0,none⟩=some (.slice (some ⟨tb,0,none⟩) l.length cap)/\w.cell? ⟨r,1,none⟩=some (.int .i64 av)/\w.cell? ⟨r,2,none⟩=some (.int .i64 ev)) (n:=126) (K:=[(0,.p 0 0),(3,.v (.pointer (some ⟨g,0,none⟩))),(4,.v (.pointer (some ⟨g+1,0,none⟩))),(5,.v (.slice (some ⟨g+2,0,none⟩) 4 4))]) (s:=()) [0,3,4,5]
  (.ite ((ev==0)&&decide (av<(l.length:Int))) (.nx [some (.p 0 0),some (.v (.pointer (some ⟨g,0,none⟩))),some (.v (.pointer (some ⟨g+1,0,none⟩))),some (.v (.slice (some ⟨g+2,0,none⟩) 4 4))] ()) (.out 0 [some (.p 0 0),some (.v (.pointer (some ⟨g,0,none⟩))),some (.v (.pointer (some ⟨g+1,0,none⟩))),some (.v (.slice (some ⟨g+2,0,none⟩) 4 4))] ()))
  (KC (λw h=>h.2.1) (λw h=>h.2.2.1) (λw h=>h.2.2.2)) (λ_ w h=>⟨h.1.drewN 1,h.2⟩) (by kernel_rfl) (Ev.aC (Ev.aC (Ev.aC (Ev.aC (Ev.aU hsz hdf) dm) cZ) hf3) hf0) ⟨HA,c0,c1,c2⟩ ⟨λhct b w2 hst hS=>?_,λhcf b w9 hst hS=>?_⟩
 rotate_left
 ·have hend:Ps.bA l st=false:=by rw[<-hok];exact hcf
  obtain⟨-,hst⟩:=hst.cons
  obtain⟨hf3,hst⟩:=hst.cons
  obtain⟨cZ,hst⟩:=hst.cons
  simp only[Exit.then,Exit.inBlock,if_true]
  have HA2:=hS.1
  obtain⟨ta,tc,hlv⟩:=dB HA2.links
  subst hlv
  have k1:=HA2.hr;have k2:=HA2.htb;have k3:=HA2.hg;have k4:=HA2.tch
  have qW:∀j,j≠g+1->(w9.setRow (g+1) (aB i (.slice ta i.links.length tc)).toArray).heap[j]? =w9.heap[j]?:=λj hj=>setRow_other w9 (g+1) j _ hj
  have hz9:(w9.setRow (g+1) (aB i (.slice ta i.links.length tc)).toArray).heap.size=w9.heap.size:=setRow_size w9 (g+1) _
  have wB:Tch (g+1) (g+1) w9 (w9.setRow (g+1) (aB i (.slice ta i.links.length tc)).toArray):=⟨rfl,rfl,rfl,by omega,λj _ h1 _=>qW j h1⟩
  refine kN (fn:=Tryz.f72) (R:=λe W'=>∃i lv st,e=.returned (.agg (aB i lv).toArray)/\ae W' r tb cap l st/\Tch r r W W'/\LkL W' (W.heap.size+3) lv i.links/\Ps.Res (Ps.options E l (l.length+1) {} i0) st0 st i) (T:=35) (tg:=3) (tz:=4) (d:=125) (g:=g) (z:=g+1) (cs:=(aB i (.slice ta i.links.length tc)).toArray) (zs:=(aB {} (.slice none 0 0)).toArray) (λ_ _ h=>h) rfl rfl rfl rfl rfl rfl rfl (by rw[hst.1];decide) (by decide) hst.2.1 hf3 cZ rfl HA2.row HA2.zero rfl (by simp[aB,Value.oneCell']) ?_
  refine⟨i,_,st,rfl,HA2.rd.tch wB.right (by omega) (by omega),⟨wB.os.trans k4.os,wB.tape.trans k4.tape,wB.output.trans k4.output,Nat.le_trans k4.size wB.size,λj hj a b=>(qW j (by omega)).trans (k4.block j hj a b)⟩,?_,HO.res hend⟩
  refine ja (bP HA2.links λj hj=>qW j (by have:=(HA2.links.lt j hj).1;omega)) (by omega)
 have hon:Ps.bA l st=true:=by rw[<-hok];exact hct
 have HM:=HA.rd
 clear hsz hdf hf0 hf3 cZ dm HA hct hok c0 c1 c2
 obtain⟨hf0,hst⟩:=hst.cons
 obtain⟨hf3,hst⟩:=hst.cons
 obtain⟨cZ,hst⟩:=hst.cons
 obtain⟨dm,hst⟩:=hst.cons
 have HA:=hS.1
 clear hS
 obtain⟨pa,rfl,fA⟩:∃pa,st=.ok pa/\pa<l.length:=by
  cases st with
  |ok b=>exact⟨b,rfl,by simpa[Ps.bA]using hon⟩
  |error er=>cases hon
 have hM:=rA HM
 have hln:=HLn pa rfl
 have bE:l.length<=1000000:=by obtain⟨_,_,_,-,-,-,-,-,h,-⟩:=HM;exact h
 simp only[Exit.then]
 show opC.wp Tryz.prog _ b w2
 refine Ev.bH (M:=opM E l r g) (n:=126) (K:=opK g) (s:=(.at0 pa,(sn4 s,i))) [0,3,4,5]
  (.ite (decide (0<=gz l (.ok pa))) (.nx (opU g) (.any (dV (bL l s.prio pa)),((sn4 s).set 0 true,{i with priority:=gz l (.ok pa)})))
   (.ite (d9 l (.ok pa) (⟨#[112,97,114,116,105,97,108]⟩:ByteArray).data.toList) (.nx (opU g) (.any (Ps.step (Ps.quantity E l) 0 (dV (bL l s.part pa))).2,((sn4 s).set 1 true,{i with partial_:=true,minLot:=(Ps.step (Ps.quantity E l) 0 (dV (bL l s.part pa))).1})))
   (.ite (d9 l (.ok pa) (⟨#[104,111,108,100]⟩:ByteArray).data.toList) (.nx (opU g) (.any (dV (bL l s.hold pa)),((sn4 s).set 2 true,{i with hold:=true})))
   (.ite (d9 l (.ok pa) (⟨#[114,101,115,101,114,118,101]⟩:ByteArray).data.toList) (.nx (opU g) (.any (dV (bL l s.res pa)),((sn4 s).set 3 true,{i with reserve:=true})))
   (.ite (d9 l (.ok pa) (⟨#[119,105,116,104]⟩:ByteArray).data.toList) (.go (aK (aM 24) opC) (opU g) (.any (.ok (pa+1)),(sn4 s,i)))
   (.ite (d9 l (.ok pa) (⟨#[97,102,116,101,114]⟩:ByteArray).data.toList) (.go (aK (aM 27) opC) (opU g) (.any (.ok (pa+1)),(sn4 s,i)))
    (.nx (opU g) (.any (Ps.gM l 30 (.ok pa)),(sn4 s,i)))))))))
  hOE (bU JW) hdr (by kernel_rfl) (Ev.aC (Ev.aC (Ev.aC (Ev.aC (Ev.aU hst.1 hst.2.1) dm) cZ) hf3) hf0) ⟨fA,lv,HA⟩ ?_
 have fin2:∀(st':Ps.St) (s':Ps.Seen) (i':Ps.Ins),Ps.OpI E l i0 st0 st' s' i'->(∀a,st'=.ok a->pa<a)->(∀a,st'=.ok a->i'.links.length<=a)->∀(b:Act) (w2:World),b.tmps.size=126->b.defers=[]->b.tmps[0]? =some (.pointer (some ⟨r,0,none⟩))->b.tmps[3]? =some (.pointer (some ⟨g,0,none⟩))->b.tmps[4]? =some (.pointer (some ⟨g+1,0,none⟩))->b.tmps[5]? =some (.slice (some ⟨g+2,0,none⟩) 4 4)->opB W r tb cap l g st' (sn4 s',i') w2->opI W r tb cap l E g i0 st0 b w2/\fI l.length r w2<fI l.length r w1:=λst' s' i' h1 h3 h4 b w2 e1 e2 e3 e4 e5 e6 hS=>by
  obtain⟨lv,hA⟩:=hS
  refine⟨⟨st',s',i',lv,e1,e2,e3,e4,e5,e6,hA,h1,h4⟩,?_⟩
  rw[hM];exact Et hA.rd h3 fA
 have fin:∀(st':Ps.St) (s':Ps.Seen) (i':Ps.Ins),Ps.OpI E l i0 st0 st' s' i'->i'.links=i.links->(∀a,st'=.ok a->pa<a)->∀(b:Act) (w2:World),Stop (opM E l r g) 126 [0,3,4,5] (opU g) b->rdS l (opB W r tb cap l g) (.any st',(sn4 s',i')) w2->opI W r tb cap l E g i0 st0 b w2/\fI l.length r w2<fI l.length r w1:=λst' s' i' h1 h2 h3 b w2 hst hS=>by
  obtain⟨hf0,hst⟩:=hst.cons
  obtain⟨hf3,hst⟩:=hst.cons
  obtain⟨cZ,hst⟩:=hst.cons
  obtain⟨dm,hst⟩:=hst.cons
  exact fin2 st' s' i' h1 h3 (λa ha=>by rw[h2];have:=h3 a ha;omega) b w2 hst.1 hst.2.1 hf0 hf3 cZ dm hS.2
 have lnk:∀(ty:Bool),(((Ps.aW l pa).data.toList=Ps.lJ/\(if ty=true then(1:Int)else 0)=0)\/((Ps.aW l pa).data.toList=Ps.iQ/\(if ty=true then(1:Int)else 0)=1))->∀(b:Act) (w2:World),Stop (opM E l r g) 126 [0,3,4,5] (opU g) b->rdS l (opB W r tb cap l g) (.any (.ok (pa+1)),(sn4 s,i)) w2->∀Q:Exit->Act->World->Prop,(∀b w2,opI W r tb cap l E g i0 st0 b w2/\fI l.length r w2<fI l.length r w1->Q .normal b w2)->
  (Code.region (if ty then 27 else 24) (gK (aK (aM (if ty then 27 else 24)) opC).1) true).wp Tryz.prog Q b w2:=λty hp b w2 hst hS Q hQ=>by
  obtain⟨hf0,hst⟩:=hst.cons
  obtain⟨hf3,hst⟩:=hst.cons
  obtain⟨cZ,hst⟩:=hst.cons
  obtain⟨dm,hst⟩:=hst.cons
  obtain⟨lv,hA⟩:=hS.2
  have hA2:OAt W r tb cap l g (g+2) 4 (.ok (pa+1)) (sn4 s) i lv w2:=hA
  refine op_reg ty hR hA2 (by omega) hst.1 hf0 hf3 λb2 w3 hK hB=>hQ _ _ (fin2 _ s _ (HO.link fA _ hp) (λa ha=>by have:=qI a ha;omega) (λa ha=>?_) b2 w3 (hK.size.trans hst.1) (hK.defers.trans hst.2.1) ((hK.rest 0 ?_).trans hf0) ((hK.rest 3 ?_).trans hf3) ((hK.rest 4 ?_).trans cZ) ((hK.rest 5 ?_).trans dm) hB)
  ·have:=qI a ha
   show(i.links++([_]:List Ps.Link)).length<=a
   rw[List.length_append]
   show i.links.length+1<=a
   omega
  all_goals (cases ty<;>decide +kernel)
 clear hst hf0 hf3 cZ dm HA
 refine⟨λc=>fin _ {s with prio:=true} _ ?_ rfl (dQ s.prio),λn0=>⟨λc=>fin _ {s with part:=true} _ ?_ rfl (qJ s.part),λn1=>⟨λc=>fin _ {s with hold:=true} _ ?_ rfl (dQ s.hold),λn2=>⟨λc=>fin _ {s with res:=true} _ ?_ rfl (dQ s.res),λn3=>⟨λc b w2 hst hS=>?_,λn4=>⟨λc b w2 hst hS=>?_,λn5=>fin _ s _ ?_ rfl (λa ha=>by cases ha)⟩⟩⟩⟩⟩⟩
 ·cases hs:s.prio with
  |true=>exact HO.prioDup fA (jL (of_decide_eq_true c)) hs _ _
  |false=>exact HO.prioOk fA (jL (of_decide_eq_true c)) hs
 ·cases hs:s.part with
  |true=>exact HO.partDup fA (eD c) hs _ _
  |false=>exact HO.partOk fA (eD c) hs
 ·cases hs:s.hold with
  |true=>exact HO.holdDup fA (eD c) hs _ _
  |false=>exact HO.holdOk fA (eD c) hs
 ·cases hs:s.res with
  |true=>exact HO.resDup fA (eD c) hs _ _
  |false=>exact HO.resOk fA (eD c) hs
 ·have e1:(aK (aM 24) opC).1=.region 24 (gK (aK (aM 24) opC).1) true:=by kernel_rfl
  have e2:(aK (aM 24) opC).2=[.bl 2,.bl 1]:=by kernel_rfl
  rw[e1,e2]
  exact lnk false (.inl ⟨eD c,rfl⟩) b w2 hst hS _ λ_ _ h=>h
 ·have e1:(aK (aM 27) opC).1=.region 27 (gK (aK (aM 27) opC).1) true:=by kernel_rfl
  have e2:(aK (aM 27) opC).2=[.bl 2,.bl 1]:=by kernel_rfl
  rw[e1,e2]
  exact lnk true (.inr ⟨eD c,rfl⟩) b w2 hst hS _ λ_ _ h=>h
 ·exact HO.none fA (rX (of_decide_eq_false n0)) (fu n1) (fu n2) (fu n3) (fu n4) (fu n5) _ _
structure SAt (W:World)(r tb cap:Nat)(l:List Ps.Tok)(g z:Nat)(st:Ps.St)(i:Ps.Ins)(lv:Value)(w:World):Prop where
 rd:ae w r tb cap l st
 row:w.heap[g]? =some (.cells (aB i lv).toArray 35 (0,0))
 zero:w.heap[z]? =some (.cells (aB {} (.slice none 0 0)).toArray 35 (0,0))
 tch:Tch r r W w
 hg:W.heap.size<=g
 hz:W.heap.size<=z
 hgz:g≠z
 hr:r<W.heap.size
 htb:tb<W.heap.size
section
variable {W : World} {r tb cap : Nat} {l : List Ps.Tok} {g z : Nat} {st st' : Ps.St} {i : Ps.Ins} {lv : Value} {w w' : World}
theorem SAt.size (h:SAt W r tb cap l g z st i lv w):g<w.heap.size/\z<w.heap.size:=⟨(Array.getElem?_eq_some_iff.1 h.row).1,(Array.getElem?_eq_some_iff.1 h.zero).1⟩
theorem SAt.reader (h:SAt W r tb cap l g z st i lv w)(hs:ae w' r tb cap l st')(hT:Tch r r w w'):SAt W r tb cap l g z st' i lv w':=by
 have h1:=h.hr;have h3:=h.size;have h4:=h.hg;have h5:=h.hz
 have up:∀j,j<w.heap.size->j≠r->w'.heap[j]? =w.heap[j]?:=λj hj hne=>hT.block j hj hne hne
 exact⟨hs,(up g h3.1 (by omega)).trans h.row,(up z h3.2 (by omega)).trans h.zero,h.tch.trans hT,h.hg,h.hz,h.hgz,h.hr,h.htb⟩
theorem SAt.field (h:SAt W r tb cap l g z st i lv w)(j:Nat)(v:Value)(i':Ps.Ins)(hc:(aB i lv).toArray.setIfInBounds j v=(aB i' lv).toArray):SAt W r tb cap l g z st i' lv (w.setCell ⟨g,j,none⟩ v):=by
 have h1:=h.hr;have h3:=h.size;have h4:=h.hg;have h6:=h.hz;have h8:=h.hgz
 have up:∀k,k≠g->(w.setCell ⟨g,j,none⟩ v).heap[k]? =w.heap[k]?:=λk hk=>Below.heap_setCell w _ _ k (λe=>hk (by rw[e]))
 have hsz:(w.setCell ⟨g,j,none⟩ v).heap.size=w.heap.size:=by simp[World.setCell]
 have hT:Tch g g w (w.setCell ⟨g,j,none⟩ v):=(Tch.refl g g w).setCell j v
 have htb:=h.htb
 refine⟨h.rd.tch hT.right (by omega) (by omega),?_,(up z (by omega)).trans h.zero,?_,h.hg,h.hz,h.hgz,h.hr,h.htb⟩
 ·rw[aN w g j _ _ v h.row,hc]
 ·exact⟨hT.os.trans h.tch.os,hT.tape.trans h.tch.tape,hT.output.trans h.tch.output,by rw[hsz];exact h.tch.size,λk hk a b=>(up k (by omega)).trans (h.tch.block k hk a b)⟩
theorem SAt.whole (h:SAt W r tb cap l g z st i lv w)(i':Ps.Ins)(lv':Value):SAt W r tb cap l g z st i' lv' (w.setRow g (aB i' lv').toArray):=by
 have h1:=h.hr;have h3:=h.size;have h4:=h.hg;have h6:=h.hz;have h8:=h.hgz;have htb:=h.htb
 have up:∀k,k≠g->(w.setRow g (aB i' lv').toArray).heap[k]? =w.heap[k]?:=λk hk=>setRow_other w g k _ hk
 have hsz:(w.setRow g (aB i' lv').toArray).heap.size=w.heap.size:=setRow_size w g _
 have hT:Tch g g w (w.setRow g (aB i' lv').toArray):=⟨rfl,rfl,rfl,by omega,λj _ h1 _=>up j h1⟩
 refine⟨h.rd.tch hT.right (by omega) (by omega),setRow_heap w g _ _ _ _ h.row,(up z (by omega)).trans h.zero,?_,h.hg,h.hz,h.hgz,h.hr,h.htb⟩
 exact⟨hT.os.trans h.tch.os,hT.tape.trans h.tch.tape,hT.output.trans h.tch.output,by rw[hsz];exact h.tch.size,λk hk a b=>(up k (by omega)).trans (h.tch.block k hk a b)⟩
end
theorem jN {P:Program}{ops:Array Oper}{Q:Exit->Act->World->Prop}{rest:List Oper}{o:Oper}{a:Act}{w:World}{d:Nat}(hg:o.guard=none)(hd:o.dst=some d)(k:FuncId)(xo:Array Operand)(ts:Array TypeId)
 (hop:o.op=Op.call {callee:=Callee.value (Operand.func k),args:=xo,argTypes:=ts}) (hent:∀args w,(callFunc k args).run P w=.ok (.enter k args) w) (args:Array Value) (hargs:xo.map a.eval=args)
 (h:Calls P k args w λe w'=>∃v,e=.returned v/\wpList P ops Q rest ⟨a.tmps.setIfInBounds d v,a.defers⟩ w'):wpList P ops Q (o::rest) a w:=by
 refine wpList_step λK hK=>?_
 refine DF (by simp[Region.wanted,hg]) k xo ts hop hent args hargs (h.mono ?_)
 rintro e w' ⟨v,rfl,hv⟩
 refine⟨v,rfl,hK _ _ ?_⟩
 rw[hd]
 exact hv
theorem ent72:∀args w,(callFunc 72 args).run Tryz.prog w=.ok (.enter 72 args) w:=enters_of Tryz.func72 (by kernel_rfl) rfl
theorem Nf (w:World)(g:Nat)(i:Ps.Ins)(lv:Value)(h:w.heap[g]? =some (.cells (aB i lv).toArray 35 (0,0))):(Instr.loadAt 35 (.pointer (some ⟨g,0,none⟩))).run Tryz.prog w=.ok (.agg (aB i lv).toArray) w:=by
 have:=run_loadVar_row (P:=Tryz.prog) w g 35 35 (aB i lv).toArray (0,0) _ h Tryz.underlying35 rfl (by kernel_rfl)
 unfold Instr.loadAt
 simp[Instr.sureAddr,this]
theorem M5 (w:World)(g:Nat)(i i2:Ps.Ins)(lv lv2:Value)(h:w.heap[g]? =some (.cells (aB i lv).toArray 35 (0,0)))(h1:lv2.oneCell'=true):(Instr.storeAt 35 (.pointer (some ⟨g,0,none⟩)) (.agg (aB i2 lv2).toArray)).run Tryz.prog w=.ok () (w.setRow g (aB i2 lv2).toArray):=by
 simp only[Instr.storeAt,Instr.sureAddr,Sem.run_bind,Sem.run_pure,Result.andThen_ok,run_storeVar_row (P:=Tryz.prog) w g 35 35 (aB i lv).toArray (aB i2 lv2).toArray h (by kernel_rfl) rfl (by unfold aB;simpa[Value.oneCell']using h1)]
theorem zo {Q:Exit->Act->World->Prop}{a:Act}{w:World}{id:Nat}{o1 o2 o3 o4:Oper}{r g:Nat}{i:Ps.Ins}{ts:Array TypeId}(T:Ps.Ins->Value->World->Prop)
 (h1:o1.op=.move (.tmp 0)) (h1d:o1.dst=some 96) (g1:o1.guard=none) (h2:o2.op=.load 35 (.tmp 5)) (xn:o2.dst=some 97) (g2:o2.guard=none)
 (h3:o3.op=.call {callee:=.value (.func 72),args:=#[.tmp 96,.tmp 97],argTypes:=ts}) (Mi:o3.dst=some 98) (g3:o3.guard=none) (h4:o4.op=.store 35 (.tmp 5) (.tmp 98)) (h4d:o4.dst=none) (g4:o4.guard=none)
 (hsz:a.tmps.size=100) (hf0:a.tmps[0]? =some (.pointer (some ⟨r,0,none⟩))) (dm:a.tmps[5]? =some (.pointer (some ⟨g,0,none⟩))) (hrow:w.heap[g]? =some (.cells (aB i (.slice none 0 0)).toArray 35 (0,0)))
 (hC:Calls Tryz.prog 72 #[.pointer (some ⟨r,0,none⟩),.agg (aB i (.slice none 0 0)).toArray] w λe w'=>∃i2 lv2,e=.returned (.agg (aB i2 lv2).toArray)/\lv2.oneCell'=true/\w'.heap[g]? =some (.cells (aB i (.slice none 0 0)).toArray 35 (0,0))/\T i2 lv2 w')
 (hend:∀(b:Act) (i2:Ps.Ins) (lv2:Value) (w':World),T i2 lv2 w'->b.defers=a.defers->b.tmps.size=100->(∀s:Nat,s≠96->s≠97->s≠98->b.tmps[s]? =a.tmps[s]?)->Q .normal b (w'.setRow g (aB i2 lv2).toArray)):(Code.region id #[o1,o2,o3,o4] false).wp Tryz.prog Q a w:=by
 refine wp_region_lit ?_
 refine af g1 h1d (u:=.pointer (some ⟨r,0,none⟩)) (by unfold execOp;rw[h1];simp only[eval_at hf0];rfl) ?_
 refine jK g2 xn h2 (v:=.pointer (some ⟨g,0,none⟩)) (eval_at (by rw[Array.getElem?_setIfInBounds_ne (by decide)];exact dm)) (Nf w g i _ hrow) ?_
 refine jN g3 Mi _ _ _ h3 ent72 #[.pointer (some ⟨r,0,none⟩),.agg (aB i (.slice none 0 0)).toArray] ?_ (hC.mono ?_)
 ·simp only[List.map_toArray,List.map_cons,List.map_nil]
  rw[eval_at (t:=96) (v:=.pointer (some ⟨r,0,none⟩)) (by rw[Array.getElem?_setIfInBounds_ne (by decide)];simp[hsz]),eval_at (t:=97) (v:=.agg (aB i (.slice none 0 0)).toArray) (by simp[hsz])]
 rintro e w' ⟨i2,lv2,rfl,hone,hrow2,hT⟩
 refine⟨_,rfl,?_⟩
 refine jT (w':=w'.setRow g (aB i2 lv2).toArray) g4 h4d ?_ ?_
 ·unfold execOp
  rw[h4]
  have e1:(⟨((a.tmps.setIfInBounds 96 (.pointer (some ⟨r,0,none⟩))).setIfInBounds 97 (.agg (aB i (.slice none 0 0)).toArray)).setIfInBounds 98 (.agg (aB i2 lv2).toArray),a.defers⟩:Act).eval (.tmp 5)=.pointer (some ⟨g,0,none⟩):=eval_at (by
   rw[Array.getElem?_setIfInBounds_ne (by decide),Array.getElem?_setIfInBounds_ne (by decide),Array.getElem?_setIfInBounds_ne (by decide)];exact dm)
  have e2:(⟨((a.tmps.setIfInBounds 96 (.pointer (some ⟨r,0,none⟩))).setIfInBounds 97 (.agg (aB i (.slice none 0 0)).toArray)).setIfInBounds 98 (.agg (aB i2 lv2).toArray),a.defers⟩:Act).eval (.tmp 98)=.agg (aB i2 lv2).toArray:=eval_at (by simp[hsz])
  simp only[e1,e2,Sem.run_bind,M5 w' g i i2 _ lv2 hrow2 hone]
  rfl
 refine aL ?_
 refine hend _ i2 lv2 w' hT rfl (by simp[hsz]) λs n1 n2 n3=>?_
 show(((a.tmps.setIfInBounds 96 _).setIfInBounds 97 _).setIfInBounds 98 _)[s]? =_
 rw[Array.getElem?_setIfInBounds_ne (λh=>n3 h.symm),Array.getElem?_setIfInBounds_ne (λh=>n2 h.symm),Array.getElem?_setIfInBounds_ne (λh=>n1 h.symm)]
def Ps.priceP (E:Ps.Env)(l:List Ps.Tok)(i:Ps.Ins):Ps.P Ps.Ins:=λa=>if (Ps.aW l a).data.toList=Ps.lI then .ok ({i with kind:=2},a+1)else Ps.bind' (Ps.word l Ps.fZ) (λ_=>Ps.bind' (Ps.cash E l) λn=>Ps.bO {i with amount:=n}) a
def Ps.trade2 (E:Ps.Env)(l:List Ps.Tok)(b:Bool)(x:ByteArray):Ps.P Ps.Ins:=
 Ps.bind' (Ps.parties E l) λp=>Ps.bind' (Ps.security E l (if b=true then{ref:=x,kind:=1,side:=1,sender:=p.2,counterparty:=p.1}else{ref:=x,kind:=1,sender:=p.1,counterparty:=p.2})) λi=>Ps.bind' (Ps.priceP E l i) λi=>
  Ps.bind' (Ps.word l Ps.kz) λ_=>Ps.bind' (Ps.day E l) λt=>Ps.bind' (Ps.word l Ps.iY) λ_=>Ps.bind' (Ps.day E l) λd=>Ps.options E l (l.length+1) {} {i with tradeDay:=t,settleDay:=d}
theorem Ps.price_free {E:Ps.Env}{l:List Ps.Tok}{i:Ps.Ins}{st:Ps.St}(h:d9 l st Ps.lI=true):(∀a,st=.ok a->a<l.length)/\Ps.Res (Ps.priceP E l i) st (dV st) {i with kind:=2}:=by
 cases st with
 |error er=>cases h
 |ok a=>
  rw[dC l a _ (by decide)]at h
  have h2:=of_decide_eq_true h
  refine⟨λb hb=>?_,?_⟩
  ·cases hb
   rcases Nat.lt_or_ge a l.length with h3|h3
   ·exact h3
   ·exfalso
    have:Ps.aW l a=⟨#[]⟩:=by unfold Ps.aW;rw[List.getElem?_eq_none h3]
    rw[this]at h2
    exact absurd h2 (by decide)
  ·show(if _ then _ else _)=_
   rw[if_pos h2]
theorem Ps.price_against {E:Ps.Env}{l:List Ps.Tok}{i:Ps.Ins}{st s2:Ps.St}{x:Ps.Ins}(h:d9 l st Ps.lI=false)(h2:Ps.Res (Ps.bind' (Ps.word l Ps.fZ) (λ_=>Ps.bind' (Ps.cash E l) λn=>Ps.bO {i with amount:=n})) st s2 x):Ps.Res (Ps.priceP E l i) st s2 x:=
 h2.mono λa ha=>by
  subst ha
  rw[dC l a _ (by decide)]at h
  show _=(if _ then _ else _)
  rw[if_neg (of_decide_eq_false h)]
end Go.Proofs.YthijakidnkhbnaaGreatDoor
namespace Go.Proofs.YthijakidnkhbnaaGreatDoor.Ps
open Go
def Ha (r a b:ByteArray)(d:Int)(i:Ins):Ins:={i with ref:=r,sender:=a,counterparty:=b,side:=d}
def df {α β:Type}(f:α->β):Except Er (α×Nat)->Except Er (β×Nat)
 | .ok (x,b)=>.ok (f x,b)
 | .error e=>.error e
theorem vH {α β γ:Type}{p:P α}{f:α->P β}{f':α->P γ}{g:β->γ}(h:∀x a,f' x a=df g (f x a))(a:Nat):bind' p f' a=df g (bind' p f a):=by
 unfold bind'
 cases p a with
 |error e=>rfl
 |ok x=>exact h x.1 x.2
theorem rW (E:Env)(l:List Tok)(r x y:ByteArray)(d:Int):∀(f:Nat) (s:Seen) (i:Ins) (a:Nat),options E l f s (Ha r x y d i) a=df (Ha r x y d) (options E l f s i a):=by
 intro f
 induction f with
 |zero=>intro s i a;rfl
 |succ f ih=>
  intro s i a
  unfold options
  by_cases h:l.length<=a
  ·rw[if_pos h,if_pos h];rfl
  rw[if_neg h,if_neg h]
  cases prio (aW l a).data.toList with
  |some p=>
   simp only
   by_cases h:s.prio=true
   ·rw[if_pos h,if_pos h];rfl
   ·rw[if_neg h,if_neg h];exact ih _ {i with priority:=p} _
  |none=>
   simp only
   by_cases h:(aW l a).data.toList=bB
   ·rw[if_pos h,if_pos h]
    by_cases h:s.part=true
    ·rw[if_pos h,if_pos h];rfl
    ·rw[if_neg h,if_neg h];exact vH (λn b=>ih _ {i with partial_:=true,minLot:=n} b) _
   rw[if_neg h,if_neg h]
   by_cases h:(aW l a).data.toList=fV
   ·rw[if_pos h,if_pos h]
    by_cases h:s.hold=true
    ·rw[if_pos h,if_pos h];rfl
    ·rw[if_neg h,if_neg h];exact ih _ {i with hold:=true} _
   rw[if_neg h,if_neg h]
   by_cases h:(aW l a).data.toList=dX
   ·rw[if_pos h,if_pos h]
    by_cases h:s.res=true
    ·rw[if_pos h,if_pos h];rfl
    ·rw[if_neg h,if_neg h];exact ih _ {i with reserve:=true} _
   rw[if_neg h,if_neg h]
   by_cases h:(aW l a).data.toList=lJ
   ·rw[if_pos h,if_pos h]
    exact vH (λn b=>ih _ {i with links:=i.links++[⟨0,n⟩]} b) _
   rw[if_neg h,if_neg h]
   by_cases h:(aW l a).data.toList=iQ
   ·rw[if_pos h,if_pos h]
    exact vH (λn b=>ih _ {i with links:=i.links++[⟨1,n⟩]} b) _
   rw[if_neg h,if_neg h]
   rfl
def fin (q:Req):Req:=if q.op=0 then{q with sender:=q.ins.sender,ins:={q.ins with ref:=q.ref} }else q
def rC (i:Ins):Req:={sender:=i.sender,ref:=i.ref,ins:=i}
theorem iO {α β γ:Type}(f:α->β)(g:β->γ)(x:Except Er (α×Nat)):df g (df f x)=df (λy=>g (f y)) x:=by cases x<;>rfl
theorem mP {α β:Type}(p:P α)(f:α->β)(a:Nat):bind' p (λx=>bO (f x)) a=df f (p a):=by
 unfold bind'
 cases p a with
 |error e=>rfl
 |ok x=>rfl
theorem eq_ok {α β γ:Type}{x:Except Er (α×Nat)}{y:Except Er (β×Nat)}{f:α->γ}{g:β->γ}(h:df f x=df g y){u:β}{b:Nat}(hy:y=.ok (u,b)):∃v,x=.ok (v,b)/\f v=g u:=by
 subst hy
 cases x with
 |error e=>cases h
 |ok v=>
  have h2:(f v.1,v.2)=(g u,b):=Except.ok.inj h
  exact⟨v.1,by rw[<-(Prod.mk.inj h2).2],(Prod.mk.inj h2).1⟩
theorem eq_er {α β γ:Type}{x:Except Er (α×Nat)}{y:Except Er (β×Nat)}{f:α->γ}{g:β->γ}(h:df f x=df g y){e:Er}(hy:y=.error e):x=.error e:=by
 subst hy
 cases x with
 |error e2=>exact congrArg _ (Except.error.inj h)
 |ok v=>cases h
theorem Res.conv {α β γ:Type}{p:P α}{q:P β}{f:α->γ}{g:β->γ}(h:∀a,df f (p a)=df g (q a)){st st':St}{u:β}(hr:Res q st st' u)(z:α):∃v,Res p st st' v/\∀b,st'=.ok b->f v=g u:=by
 cases st with
 |error e=>exact⟨z,hr,λb hb=>by rw[show st'=.error e from hr]at hb;cases hb⟩
 |ok a=>
  cases st' with
  |error e=>exact⟨z,eq_er (h a) hr,λb hb=>by cases hb⟩
  |ok b=>
   obtain⟨v,h1,h2⟩:=eq_ok (h a) (show q a=.ok (u,b)from hr)
   exact⟨v,h1,λ_ _=>h2⟩
theorem bM {α β β' γ:Type}{p:P α}{F:α->P β}{G:α->P β'}{f:β->γ}{g:β'->γ}(h:∀x a,df f (F x a)=df g (G x a))(a:Nat):df f (bind' p F a)=df g (bind' p G a):=by
 unfold bind'
 cases p a with
 |error e=>rfl
 |ok x=>exact h x.1 x.2
theorem mD {γ:Type}{E:Env}{l:List Tok}{f g:Ins->γ}{r r' x x' y y':ByteArray}{d d':Int}{i:Ins}(h:∀i,f (Ha r x y d i)=g (Ha r' x' y' d' i))(a:Nat):df f (options E l (l.length+1) {} (Ha r x y d i) a)=df g (options E l (l.length+1) {} (Ha r' x' y' d' i) a):=by
 rw[rW,rW,iO,iO]
 exact congrArg (λk=>df k _) (funext h)
theorem Gt {α β γ:Type}{f:α->γ}{g:β->γ}{x:α}{y:β}(h:f x=g y)(a:Nat):df f (bO x a)=df g (bO y a):=by
 show Except.ok (f x,a)=Except.ok (g y,a)
 rw[h]
def secP (E:Env)(l:List Tok):P (ByteArray×Int):=bind' (word l Fj) λ_=>bind' (isin E l) λx=>bind' (word l mX) λ_=>bind' (quantity E l) λn=>bO (x,n)
theorem bind_assoc {α β γ:Type}(p:P α)(f:α->P β)(g:β->P γ):bind' (bind' p f) g=bind' p λx=>bind' (f x) g:=by
 funext a
 unfold bind'
 cases p a with
 |error e=>rfl
 |ok x=>rfl
theorem pE {β:Type}(E:Env)(l:List Tok)(i:Ins)(F:Ins->P β):bind' (security E l i) F=bind' (secP E l) λp=>F {i with asset:=p.1,quantity:=p.2}:=by
 unfold security secP
 simp only[bind_assoc]
 rfl
def Le (E:Env)(l:List Tok):P (Option Int):=λa=>if (aW l a).data.toList=lI then .ok (none,a+1)else bind' (word l fZ) (λ_=>bind' (cash E l) λn=>bO (some n)) a
def setO (i:Ins):Option Int->Ins
 |none=>{i with kind:=2}
 |some n=>{i with amount:=n}
theorem uC {β:Type}(E:Env)(l:List Tok)(i:Ins)(F:Ins->P β):bind' (priceP E l i) F=bind' (Le E l) λo=>F (setO i o):=by
 funext a
 unfold bind' priceP Le
 by_cases h:(aW l a).data.toList=lI
 ·rw[if_pos h,if_pos h];rfl
 ·rw[if_neg h,if_neg h]
  unfold bind'
  cases word l fZ a with
  |error e=>rfl
  |ok x=>
   simp only
   cases cash E l x.2 with
   |error e=>rfl
   |ok y=>rfl
variable (E : Env) (l : List Tok)
theorem LD (x:ByteArray)(a:Nat):df fin (rest E l Lg {ref:=x} a)=df rC (payment E l {ref:=x} a):=by
 unfold rest
 rw[if_pos rfl,mP,iO]
 refine bM (λp a=>bM (λ_ a=>bM (λn a=>bM (λ_ a=>bM (λd a=>?_) a) a) a) a) a
 exact mD (r:=⟨#[]⟩) (r':=x) (x:=p.1) (x':=p.1) (y:=p.2) (y':=p.2) (d:=0) (d':=0) (i:={kind:=0,asset:=rY,amount:=n,settleDay:=d}) (λi=>rfl) a
theorem ww (x:ByteArray)(v:Bs)(k:Int)(hv:(v=pg/\k=3)\/(v=lS/\k=4))(a:Nat):df fin (rest E l v {ref:=x} a)=df rC (collateral E l k {ref:=x} a):=by
 have h:rest E l v {ref:=x}=bind' (collateral E l k {}) λi=>bO {ref:=x,ins:=i}:=by
  rcases hv with⟨rfl,rfl⟩|⟨rfl,rfl⟩<;>rfl
 rw[h,mP,iO]
 unfold collateral
 simp only[pE]
 refine bM (λp a=>bM (λq a=>bM (λ_ a=>bM (λd a=>?_) a) a) a) a
 exact Gt rfl a
theorem ui (x:ByteArray)(v:Bs)(b:Bool)(hv:(v=kw/\b=false)\/(v=lG/\b=true))(a:Nat):df fin (rest E l v {ref:=x} a)=df rC (trade2 E l b x a):=by
 have h:rest E l v {ref:=x}=bind' (bind' (parties E l) λp=>bind' (security E l {kind:=1,sender:=p.1,counterparty:=p.2}) λi=>bind' (priceP E l i) λi=>
  bind' (word l kz) λ_=>bind' (day E l) λt=>bind' (word l iY) λ_=>bind' (day E l) λd=>options E l (l.length+1) {} {i with tradeDay:=t,settleDay:=d}) λi=>bO {ref:=x,ins:=if b=true then turn i else i}:=by
  rcases hv with⟨rfl,rfl⟩|⟨rfl,rfl⟩<;>rfl
 rw[h,mP,iO]
 unfold trade2
 simp only[pE,uC]
 refine bM (λp a=>bM (λq a=>bM (λo a=>bM (λ_ a=>bM (λt a=>bM (λ_ a=>bM (λd a=>?_) a) a) a) a) a) a) a
 cases b with
 |false=>cases o with
  |none=>exact mD (r:=⟨#[]⟩) (r':=x) (x:=p.1) (x':=p.1) (y:=p.2) (y':=p.2) (d:=0) (d':=0) (i:={kind:=2,asset:=q.1,quantity:=q.2,tradeDay:=t,settleDay:=d}) (λi=>rfl) a
  |some n=>exact mD (r:=⟨#[]⟩) (r':=x) (x:=p.1) (x':=p.1) (y:=p.2) (y':=p.2) (d:=0) (d':=0) (i:={kind:=1,amount:=n,asset:=q.1,quantity:=q.2,tradeDay:=t,settleDay:=d}) (λi=>rfl) a
 |true=>cases o with
  |none=>exact mD (r:=⟨#[]⟩) (r':=x) (x:=p.1) (x':=p.2) (y:=p.2) (y':=p.1) (d:=0) (d':=1) (i:={kind:=2,asset:=q.1,quantity:=q.2,tradeDay:=t,settleDay:=d}) (λi=>rfl) a
  |some n=>exact mD (r:=⟨#[]⟩) (r':=x) (x:=p.1) (x':=p.2) (y:=p.2) (y':=p.1) (d:=0) (d':=1) (i:={kind:=1,amount:=n,asset:=q.1,quantity:=q.2,tradeDay:=t,settleDay:=d}) (λi=>rfl) a
def Fb (E:Env)(l:List Tok)(st:St)(Q:Req):Prop:=∃Q',st=(oJ E l).1/\∀b,st=.ok b->Q'=(oJ E l).2/\Q=fin Q'
theorem CQ {E:Env}{l:List Tok}{v:Bs}(hv:(aW l 0).data.toList=v)(hm:v∈verbs){F:ByteArray->P Req}(hF:∀x a,df fin (rest E l v {ref:=x} a)=F x a){st:St}{Q:Req}(h:Res (bind' (ref E l) F) (.ok 1) st Q):Fb E l st Q:=by
 obtain⟨Q',h1,h2⟩:=Res.conv (p:=bind' (ref E l) λr=>rest E l v {ref:=r}) (q:=bind' (ref E l) F) (f:=fin) (g:=id) (λa=>bM (λx a=>by
  rw[hF]
  cases F x a<;>rfl) a) h {}
 have e1:=h1.state {}
 have e2:=h1.value {}
 refine⟨Q',?_,λb hb=>⟨?_,(h2 b hb).symm⟩⟩
 ·unfold oJ;rw[hv,if_pos hm];exact e1
 ·unfold oJ;rw[hv,if_pos hm];exact e2 b hb
theorem M6 {E:Env}{l:List Tok}{v:Bs}(hv:(aW l 0).data.toList=v)(hm:v∈verbs){F:ByteArray->P Ins}(hF:∀x a,df fin (rest E l v {ref:=x} a)=df rC (F x a)){st:St}{i:Ins}(h:Res (bind' (ref E l) F) (.ok 1) st i):Fb E l st (rC i):=by
 refine CQ hv hm (F:=λx a=>df rC (F x a)) hF ?_
 have key:∀a,bind' (ref E l) (λx a=>df rC (F x a)) a=df rC (bind' (ref E l) F a):=λa=>by
  unfold bind'
  cases ref E l a with
  |error e=>rfl
  |ok x=>rfl
 cases st with
 |error e=>show _=_;rw[key,show bind' (ref E l) F 1=.error e from h];rfl
 |ok b=>show _=_;rw[key,show bind' (ref E l) F 1=.ok (i,b)from h];rfl
theorem Gj {E:Env}{check:Req->Int}{s:ByteArray}{l:List Tok}(hl:(Lx.aO s).1=l)(hz:(Lx.aO s).2.2=0)(hpos:0<l.length){st:St}{Q:Req}(h:Fb E l st Q):parse E check s=match vL l st with
 | .error e=>({},e.1,e.2)
 | .ok _=>if check Q≠0 then({},aT l 0,check Q)else(Q,0,0):=by
 obtain⟨Q',h1,h2⟩:=h
 unfold parse
 rw[if_neg (by rw[hz];simp),hl,FP E l hpos,<-h1]
 cases hst:st with
 |error e=>rfl
 |ok b=>
  obtain⟨e1,e2⟩:=h2 b hst
  unfold vL
  simp only
  by_cases hb:b<l.length
  ·rw[if_pos hb]
  ·rw[if_neg hb]
   simp only
   rw[<-e1]
   show _=if check Q≠0 then _ else _
   rw[e2]
   rfl
theorem Nc (x:ByteArray)(v:Bs)(k:Int)(hv:(v=mh/\k=2)\/(v=fV/\k=3)\/(v=ou/\k=4))(a:Nat):df fin (rest E l v {ref:=x} a)=bind' (by_ E l) (λs=>bO {op:=k,sender:=s,ref:=x}) a:=by
 have h:rest E l v {ref:=x}=bind' (by_ E l) λs=>bO {ref:=x,op:=k,sender:=s}:=by
  rcases hv with⟨rfl,rfl⟩|⟨rfl,rfl⟩|⟨rfl,rfl⟩<;>rfl
 rw[h,mP,iO]
 congr 1
 funext s
 unfold fin
 rcases hv with⟨rfl,rfl⟩|⟨rfl,rfl⟩|⟨rfl,rfl⟩<;>rfl
def zx (E:Env)(l:List Tok):P Amd:=λa=>if l.length<=a then .error (short l)else changes E l (l.length+1) {} {} a
theorem Cm (x:ByteArray)(a:Nat):df fin (rest E l oQ {ref:=x} a)=bind' (by_ E l) (λs=>bind' (zx E l) λm=>bO {op:=1,sender:=s,ref:=x,amd:=m}) a:=by
 have h:rest E l oQ {ref:=x}=bind' (by_ E l) λs=>λa=>if l.length<=a then .error (short l)else bind' (changes E l (l.length+1) {} {}) (λm=>bO {ref:=x,op:=1,sender:=s,amd:=m}) a:=rfl
 rw[h]
 have key:∀a,df id (bind' (by_ E l) (λs=>bind' (zx E l) λm=>bO ({op:=1,sender:=s,ref:=x,amd:=m}:Req)) a)=bind' (by_ E l) (λs=>bind' (zx E l) λm=>bO {op:=1,sender:=s,ref:=x,amd:=m}) a:=λa=>by
  cases bind' (by_ E l) (λs=>bind' (zx E l) λm=>bO ({op:=1,sender:=s,ref:=x,amd:=m}:Req)) a<;>rfl
 rw[<-key]
 refine bM (λs a=>?_) a
 unfold zx
 by_cases h:l.length<=a
 ·rw[if_pos h]
  unfold bind'
  simp only[if_pos h]
  rfl
 ·rw[if_neg h]
  unfold bind'
  simp only[if_neg h]
  cases changes E l (l.length+1) {} {} a<;>rfl
def ak {α:Type}(R:α->Prop)(p:P α):Prop:=∀a x b,p a=.ok (x,b)->R x
theorem ak.bind {α β:Type}{S:α->Prop}{R:β->Prop}{p:P α}{f:α->P β}(h1:ak S p)(h2:∀x,S x->ak R (f x)):ak R (bind' p f):=λa x b h=>by
 unfold bind' at h
 cases hp:p a with
 |error e=>rw[hp]at h;cases h
 |ok y=>rw[hp]at h;exact h2 y.1 (h1 a y.1 y.2 hp) y.2 x b h
theorem ak.pure {α:Type}{R:α->Prop}{x:α}(h:R x):ak R (bO x):=λa y b e=>by cases e;exact h
theorem ak.any {α:Type}{p:P α}:ak (λ_=>True) p:=λ_ _ _ _=>trivial
theorem ak.take {α:Type}{R:α->Prop}{l:List Tok}{acc:ByteArray->α×Int}{ks:List Int}(h:∀t∈l,R (acc t.2.1).1):ak R (take l acc ks):=λa x b e=>by
 unfold Ps.take at e
 cases hx:l[a]? with
 |none=>rw[hx]at e;cases e
 |some t=>
  rw[hx]at e
  simp only at e
  have:=h t (List.mem_of_getElem? hx)
  repeat' split at e
  all_goals first|(cases e;exact this)|cases e
def nR (n:Nat)(i:Ins):Prop:=i.links.length<=n/\i.ref.size<=1000000/\i.sender.size<=1000000/\i.counterparty.size<=1000000/\i.asset.size<=1000000/\∀x∈i.links,x.ref.size<=1000000
variable {E : Env} {l : List Tok}
theorem gJ (hl:bF l)(k:Nat)(ks:List Int):ak (λx:ByteArray=>x.size<=1000000) (ident E l k ks):=ak.take λt ht=>(hl t ht).1
theorem FR (hl:bF l){n:Nat}:∀(f:Nat) (s:Seen) (i:Ins),nR n i->i.links.length+f<=n->ak (nR n) (options E l f s i):=by
 intro f
 induction f with
 |zero=>exactλs i h _=>ak.pure h
 |succ f ih=>
  intro s i h hn a x b e
  unfold options at e
  split at e
  ·cases e;exact h
  split at e
  ·split at e
   ·cases e
   ·exact ih _ _ (by exact h) (by show i.links.length+f<=n;omega) _ _ _ e
  split at e
  ·split at e
   ·cases e
   ·exact ak.bind ak.any (λm _=>ih _ _ (by exact h) (by show i.links.length+f<=n;omega)) _ _ _ e
  split at e
  ·split at e
   ·cases e
   ·exact ih _ _ (by exact h) (by show i.links.length+f<=n;omega) _ _ _ e
  split at e
  ·split at e
   ·cases e
   ·exact ih _ _ (by exact h) (by show i.links.length+f<=n;omega) _ _ _ e
  have lk:∀(k:Int) (y:ByteArray),y.size<=1000000->nR n {i with links:=i.links++[⟨k,y⟩]}:=λk y hy=>⟨by rw[List.length_append];simp;omega,h.2.1,h.2.2.1,h.2.2.2.1,h.2.2.2.2.1,λz hz=>by
   rcases List.mem_append.1 hz with h1|h1
   ·exact h.2.2.2.2.2 z h1
   ·rw[List.mem_singleton.1 h1];exact hy⟩
  split at e
  ·exact ak.bind (gJ hl 2 _) (λy hy=>ih _ _ (lk _ y hy) (by show(i.links++_).length+f<=n;rw[List.length_append];simp;omega)) _ _ _ e
  split at e
  ·exact ak.bind (gJ hl 2 _) (λy hy=>ih _ _ (lk _ y hy) (by show(i.links++_).length+f<=n;rw[List.length_append];simp;omega)) _ _ _ e
  ·cases e
theorem KL (hl:bF l):ak (λp:ByteArray×ByteArray=>p.1.size<=1000000/\p.2.size<=1000000) (parties E l):=
 ak.bind ak.any λ_ _=>ak.bind (gJ hl 1 _) λx hx=>ak.bind ak.any λ_ _=>ak.bind (gJ hl 1 _) λy hy=>ak.pure ⟨hx,hy⟩
theorem Km (hl:bF l):ak (λp:ByteArray=>p.size<=1000000) (by_ E l):=ak.bind ak.any λ_ _=>gJ hl 1 _
theorem MK (hl:bF l):ak (λp:ByteArray×Int=>p.1.size<=1000000) (secP E l):=
 ak.bind ak.any λ_ _=>ak.bind (gJ hl 0 _) λx hx=>ak.bind ak.any λ_ _=>ak.bind ak.any λ_ _=>ak.pure hx
theorem pay_sm (hl:bF l)(x:ByteArray)(hx:x.size<=1000000):ak (nR (l.length+1)) (payment E l {ref:=x}):=
 ak.bind (KL hl) λp hp=>ak.bind ak.any λ_ _=>ak.bind ak.any λ_ _=>ak.bind ak.any λ_ _=>ak.bind ak.any λ_ _=>FR hl _ _ _ ⟨Nat.zero_le _,hx,hp.1,hp.2,by show 4<=1000000;omega,λz hz=>by cases hz⟩ (by show 0+_<=_;omega)
theorem FI (hl:bF l)(k:Int)(x:ByteArray)(hx:x.size<=1000000):ak (nR (l.length+1)) (collateral E l k {ref:=x}):=by
 unfold collateral
 simp only[pE]
 exact ak.bind (Km hl) λp hp=>ak.bind (MK hl) λq hq=>ak.bind ak.any λ_ _=>ak.bind ak.any λ_ _=>ak.pure ⟨Nat.zero_le _,hx,hp,Nat.zero_le _,hq,λz hz=>by cases hz⟩
theorem BU (hl:bF l)(b:Bool)(x:ByteArray)(hx:x.size<=1000000):ak (nR (l.length+1)) (trade2 E l b x):=by
 unfold trade2
 simp only[pE,uC]
 refine ak.bind (KL hl) λp hp=>ak.bind (MK hl) λq hq=>ak.bind ak.any λo _=>ak.bind ak.any λ_ _=>ak.bind ak.any λ_ _=>ak.bind ak.any λ_ _=>ak.bind ak.any λ_ _=>FR hl _ _ _ ?_ (by cases b<;>cases o<;>(show 0+_<=_;omega))
 cases b<;>cases o
 ·exact⟨Nat.zero_le _,hx,hp.1,hp.2,hq,λz hz=>by cases hz⟩
 ·exact⟨Nat.zero_le _,hx,hp.1,hp.2,hq,λz hz=>by cases hz⟩
 ·exact⟨Nat.zero_le _,hx,hp.2,hp.1,hq,λz hz=>by cases hz⟩
 ·exact⟨Nat.zero_le _,hx,hp.2,hp.1,hq,λz hz=>by cases hz⟩
theorem ak.res {α:Type}{R:α->Prop}{p:P α}(h:ak R p){st:St}{b:Nat}{x:α}(hr:Res p st (.ok b) x):R x:=by
 cases st with
 |error e=>cases hr
 |ok a=>exact h a x b hr
abbrev Dg:=List UInt8
def qM (l:Dg):Prop:=∀c∈l,48<=c.toNat/\c.toNat<=57
def dU:Nat->Dg->Nat
 |acc,[]=>acc
 |acc,c::l=>dU (acc*10+(c.toNat-48)) l
theorem yI:∀(l:Dg) (acc:Nat),acc<=dU acc l
 |[],acc=>Nat.le_refl _
 |c::l,acc=>by
  have:=yI l (acc*10+(c.toNat-48))
  unfold dU
  omega
theorem uM:∀(l:Dg) (acc:Nat),qM l->(dU acc l<=100000000000000000->Lib.parseUintM (2^64-1) acc l=.ok (dU acc l))/\(∀u,Lib.parseUintM (2^64-1) acc l=.ok u->u=dU acc l)
 |[],acc,_=>⟨λ_=>rfl,λu h=>by cases h;rfl⟩
 |c::l,acc,hd=>by
  have hc:=hd c List.mem_cons_self
  have ih:=uM l (acc*10+(c.toNat-48)) λx hx=>hd x (List.mem_cons_of_mem _ hx)
  have hle:=yI l (acc*10+(c.toNat-48))
  unfold Lib.parseUintM dU
  rw[if_pos hc]
  refine⟨λh=>?_,λu h=>?_⟩
  ·rw[if_neg (by omega),if_neg (by omega)]
   exact ih.1 h
  ·split at h
   ·cases h
   ·split at h
    ·cases h
    ·exact ih.2 u h
def canon (n:Nat):Int×Int:=if 1<=n/\n<=1000000000000000 then((n:Int),0)else(0,2)
theorem pI (l:Dg)(h:qM l)(h0:l≠[]):(dU 0 l<=1000000000000000->Lib.parseIntB 64 l=.ok (dU 0 l:Int))/\(∀v,Lib.parseIntB 64 l=.ok v->v=(dU 0 l:Int)):=by
 cases l with
 |nil=>exact absurd rfl h0
 |cons c r=>
  have hc:=h c List.mem_cons_self
  have e43:¬c.toNat=43:=by omega
  have e45:¬c.toNat=45:=by omega
  obtain⟨p1,p2⟩:=uM (c::r) 0 h
  have hu:Lib.parseUintB 64 (c::r)=Lib.parseUintM (2^64-1) 0 (c::r):=by
   unfold Lib.parseUintB
   rw[if_neg (by simp)]
  have hI:∀x,Lib.parseUintM (2^64-1) 0 (c::r)=x->Lib.parseIntB 64 (c::r)=(match x with
   | .ok u=>if 2^63<=u then .range else .ok (u:Int)
   | .range=>.range
   |_=>Lib.parseIntB 64 (c::r)):=by
   intro x hx
   rcases x with u|_|_
   ·unfold Lib.parseIntB
    simp only[e43,e45,or_self,if_false,hu,hx]
    simp
   ·rfl
   ·unfold Lib.parseIntB
    simp only[e43,e45,or_self,if_false,hu,hx]
  constructor
  ·intro hn
   rw[hI _ (p1 (by omega))]
   simp only
   rw[if_neg (by omega)]
  ·intro v hv
   rcases hp:Lib.parseUintM (2^64-1) 0 (c::r)with u|_|_
   ·rw[hI _ hp]at hv
    simp only at hv
    split at hv
    ·cases hv
    ·cases hv
     rw[p2 u hp]
   ·exfalso
    unfold Lib.parseIntB at hv
    simp only[e43,e45,or_self,if_false,hu,hp]at hv
    cases hv
   ·rw[hI _ hp]at hv
    cases hv
def gY:Nat->Dg->Nat
 |x,[]=>x
 |x,c::l=>gY (if x<=1000000000000000 then 10*x+(c.toNat-48)else x) l
theorem BQ:∀(l:Dg) (x:Nat),1000000000000000<x->gY x l=x
 |[],x,_=>rfl
 |c::l,x,h=>by
  unfold gY
  rw[if_neg (by omega)]
  exact BQ l x h
theorem Ew:∀(l:Dg) (x:Nat),x<=1000000000000000->(dU x l<=1000000000000000->gY x l=dU x l)/\(1000000000000000<dU x l->1000000000000000<gY x l)
 |[],x,hx=>⟨λ_=>rfl,λh=>h⟩
 |c::l,x,hx=>by
  have e:10*x+(c.toNat-48)=x*10+(c.toNat-48):=by omega
  unfold gY dU
  rw[if_pos hx,e]
  by_cases hb:x*10+(c.toNat-48)<=1000000000000000
  ·exact Ew l _ hb
  ·have hle:=yI l (x*10+(c.toNat-48))
   rw[BQ l _ (by omega)]
   exact⟨λh=>by omega,λ_=>by omega⟩
theorem GG (l:Dg):canon (gY 0 l)=canon (dU 0 l):=by
 obtain⟨h1,h2⟩:=Ew l 0 (by omega)
 by_cases h:dU 0 l<=1000000000000000
 ·rw[h1 h]
 ·have:=h2 (by omega)
  unfold canon
  rw[if_neg (by omega),if_neg (by omega)]
theorem Nb (M:Nat)(hM:10000000000000009<=M)(l:Dg):∀(x:Nat),qM l->x<=M->gY x l<=M:=by
 induction l with
 |nil=>exactλx _ hx=>hx
 |cons c l ih=>
  intro x hd hx
  have hc:=hd c List.mem_cons_self
  unfold gY
  refine ih _ (λy hy=>hd y (List.mem_cons_of_mem _ hy)) ?_
  by_cases hx2:x<=1000000000000000
  ·rw[if_pos hx2];omega
  ·rw[if_neg hx2];exact hx
theorem xE:∀(l:Dg) (x:Nat) (c:UInt8),gY x (l++[c])=if gY x l<=1000000000000000 then 10*gY x l+(c.toNat-48)else gY x l
 |[],x,c=>by
  show gY x [c]=_
  unfold gY
  rfl
 |d::l,x,c=>by
  rw[List.cons_append]
  conv=>lhs;unfold gY
  rw[xE l _ c]
  rfl
theorem qx:∀(l:Dg) (x:Nat) (c:UInt8),dU x (l++[c])=dU x l*10+(c.toNat-48)
 |[],x,c=>rfl
 |d::l,x,c=>by
  rw[List.cons_append]
  conv=>lhs;unfold dU
  rw[qx l _ c]
  rfl
theorem Em (l:Dg):∀(x:Nat),qM l->dU x l<(x+1)*10^l.length:=by
 induction l with
 |nil=>
  intro x _
  show x<(x+1)*1
  omega
 |cons c l ih=>
  intro x hd
  have hc:=hd c List.mem_cons_self
  have ih:=ih (x*10+(c.toNat-48)) λy hy=>hd y (List.mem_cons_of_mem _ hy)
  show dU (x*10+(c.toNat-48)) l<(x+1)*10^(l.length+1)
  obtain⟨p,hp⟩:∃p,p=10^l.length:=⟨_,rfl⟩
  rw[Nat.pow_succ,<-hp]
  rw[<-hp]at ih
  have h2:(x*10+(c.toNat-48)+1)<=(x+1)*10:=by omega
  have h3:=Nat.mul_le_mul_right p h2
  rw[Nat.mul_comm p 10,<-Nat.mul_assoc]
  omega
end Go.Proofs.YthijakidnkhbnaaGreatDoor.Ps
