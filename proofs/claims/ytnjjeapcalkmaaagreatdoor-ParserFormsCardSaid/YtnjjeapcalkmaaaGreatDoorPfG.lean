/-
  Part 7 of a proof; written short by a program out of longer texts of mine.
-/
import Derived.Test.YtnjjeapcalkmaaaGreatDoorPfF
set_option maxRecDepth 100000
set_option maxHeartbeats 4000000
set_option linter.unusedVariables false
set_option linter.unusedSimpArgs false
namespace Go.Proofs.YtnjjeapcalkmaaaGreatDoor
open Go.RowKit
open Go.Proofs.YtnjjeapcalkmaaaGreatDoor.Ord
open Go.Proofs.YtnjjeapcalkmaaaGreatDoor.Ev (AV Mem Fr ja aR eD Sh Stop Qof aS bf bA jC lw fmC)
def Sz (s:ByteArray):Prop:=s.size<=9223372036854775807
def l6 (i:Ps.Ins):Prop:=Sz i.ref/\Sz i.sender/\Sz i.counterparty/\Sz i.asset/\∀x∈i.links,Sz x.ref
theorem Rn:∀args w,(callFunc 41 args).run Tryz.prog w=.ok (.enter 41 args) w:=enters_of Tryz.func41 (by kernel_rfl) rfl
theorem bytes_inj {s t:ByteArray}(h:(s.toList==t.toList)=true):s=t:=by
 have h1:=beq_iff_eq.1 h
 rw[Lib.toList_data,Lib.toList_data]at h1
 exact ByteArray.ext (Array.toList_inj.1 h1)
theorem Lv (p:Addr)(w:World)(a:Option Addr)(n c:Nat)(h:w.cell? p=some (.slice a n c)):(Instr.loadAt 22 (.pointer (some p))).run Tryz.prog w=.ok (.slice a n c) w:=by go_simp
def EY (w:World)(g so:Nat)(ks:List Ps.Link):Prop:=∀(j:Nat) (x:Ps.Link),ks[j]? =some x->w.cell? ⟨g,so+j*2,none⟩=some (.int .i64 x.type)/\w.cell? ⟨g,so+j*2+1,none⟩=some (.string x.ref)
theorem EY.of {w:World}{g:Nat}{ks:List Ps.Link}(h:jD w g ks):EY w g 0 ks:=λj x hj=>by
 rw[Nat.zero_add]
 exact h j x hj
def dJ (w:World)(sa:Option Addr)(n:Nat)(ks:List Ps.Link):Prop:=0<n->∃sb so,sa=some ⟨sb,so,none⟩/\∀W,Below w.heap.size w W->EY W sb so ks
theorem dJ.of {w:World}{sa:Option Addr}{n:Nat}{ks:List Ps.Link}(h:0<n->∃sb,sa=some ⟨sb,0,none⟩/\∀W,Below w.heap.size w W->jD W sb ks):dJ w sa n ks:=λhn=>by
 obtain⟨sb,e,h⟩:=h hn
 exact⟨sb,0,e,λW hW=>.of (h W hW)⟩
theorem dJ.below {w w':World}{sa:Option Addr}{n:Nat}{ks:List Ps.Link}(h:dJ w sa n ks)(hb:Below w.heap.size w w'):dJ w' sa n ks:=λhn=>by
 obtain⟨sb,so,e,h⟩:=h hn
 exact⟨sb,so,e,λW hW=>h W (hb.trans (hW.mono hb.size))⟩
theorem MR (sb p:Nat)(x:Ps.Link)(w:World)(h1:w.cell? ⟨sb,p,none⟩=some (.int .i64 x.type))(h2:w.cell? ⟨sb,p+1,none⟩=some (.string x.ref)):(Instr.loadAt 91 (.pointer (some ⟨sb,p,none⟩))).run Tryz.prog w=.ok (.agg #[.int .i64 x.type,.string x.ref]) w:=by go_simp
theorem y_idxO {S:World->Prop}{ρ:Operand->Value}{o:Oper}{x y:Operand}{sb so n c k:Nat}(ho:o.op=.indexAddr 22 x y)(h1:ρ x=.slice (some ⟨sb,so,none⟩) n c)(h2:ρ y=.int .i64 (k:Int))(hk:k<n):YB Tryz.prog S ρ o (.pointer (some ⟨sb,so+k*2,none⟩)):=λw hS=>by
 have PT:(k:Int)<(n:Int):=by omega
 unfold execOp
 simp only[ho,h1,h2]
 go_simp
 exact⟨rfl,hS⟩
theorem QE {b:Act}{t:Nat}{v:Value}(hlt:t<b.tmps.size)(h:b.eval (.tmp t)=v):b.tmps[t]? =some v:=Ev.NT hlt h
def rA (t:TypeId)(f:Nat):Option Nat:=if (t=24/\f<16)\/(t=91/\f<2)then some f else none
def Hu (V:Nat->ByteArray->Bool)(rows:List (Option (Nat×Nat)×List Value))(f:FuncId)(vs:List AV):Option Value:=
 if f=93 then(match vs.map (eD rows)with|[.int .i64 n]=>some (.bool (xu n))|_=>none)
 else if f=41 then(match vs with
  |[.v (.int .i64 k),.r p j]=>if (k=0\/k=1\/k=2)/\((p=0/\(j=0\/j=2\/j=3\/j=5))\/(p=2/\j=1))then(match aR rows p j with| .string s=>some (.bool (V k.toNat s))|_=>none)else none
  |_=>none)
 else none
def BS (rows:List (Option (Nat×Nat)×List Value))(o:Oper)(ov:Operand->Option AV):Option AV:=match o.op with
 | .call ⟨.builtin .len,xs,ts⟩=>(match xs.toList,ts.toList with
   |[x],[t]=>if o.type=3/\t=22 then(match ov x with
    |some a=>match eD rows a with
     | .slice _ n _=>some (.v (.int .i64 (n:Int)))
     |_=>none
    |none=>none)else none
   |_,_=>none)
 |_=>none
theorem yZ {rows:List (Option (Nat×Nat)×List Value)}{o:Oper}{ov:Operand->Option AV}{v:AV}(h:BS rows o ov=some v){ρ:Operand->Value}(hov:∀x u,ov x=some u->ρ x=eD rows u)(w:World):(execOp ρ o).run Tryz.prog w=.ok (.value (eD rows v)) w:=by
 unfold BS at h
 split at h
 ·rename_i xs ts ho
  split at h
  ·rename_i x t hx ht2
   split at h
   ·rename_i ht
    obtain⟨ht,rfl⟩:=ht
    split at h
    ·rename_i a ha
     split at h
     ·rename_i sa n c hv
      cases h
      have h1:=hov _ _ ha
      rw[hv]at h1
      have hxs:xs=#[x]:=by rw[<-Array.toArray_toList (xs:=xs),hx]
      have hts:ts=#[22]:=by rw[<-Array.toArray_toList (xs:=ts),ht2]
      subst hxs
      subst hts
      unfold execOp
      simp only[ho,ht]
      go_simp
      rfl
     ·cases h
    ·cases h
   ·cases h
  ·cases h
 ·cases h
def Dy (rows:List (Option (Nat×Nat)×List Value))(o:Oper)(ov:Operand->Option AV):Option AV:=match o.op with
 | .indexAddr t x y=>if t=22 then(match ov x,ov y with
   |some (.r 0 15),some (.r 1 1)=>(match aR rows 0 15,aR rows 1 1 with
    | .slice _ _ _,.int .i64 _=>some (.p 3 0)
    |_,_=>none)
   |_,_=>none)else none
 |_=>BS rows o ov
def u7 (V:Nat->ByteArray->Bool)(rows:List (Option (Nat×Nat)×List Value)):Mem Unit:=ja rA rows (Hu V rows) (Dy rows)
theorem pY {t:TypeId}{f d:Nat}(h:rA t f=some d)(b j:Nat)(w:World):(Instr.fieldAt t (.pointer (some ⟨b,j,none⟩)) f).run Tryz.prog w=.ok (.pointer (some ⟨b,j+d,none⟩)) w:=by
 unfold rA at h
 split at h
 ·rename_i h1
  cases h
  rcases h1 with⟨rfl,h2⟩|⟨rfl,h2⟩
  ·rcases f with _|_|_|_|_|_|_|_|_|_|_|_|_|_|_|_|f
   all_goals first|omega|go_simp
  ·rcases f with _|_|f
   all_goals first|omega|go_simp
 ·cases h
theorem BR {V:Nat->ByteArray->Bool}{rows:List (Option (Nat×Nat)×List Value)}{S:World->Prop}(hb:∀w w',S w->Below w.heap.size w w'->S w')(hrow:∀(k b o:Nat) (l:List Value),rows[k]? =some (some (b,o),l)->∀w,S w->∀(j:Nat) (v:Value),l[j]? =some v->w.cell? ⟨b,o+j,none⟩=some v)
 (cV:∀(W:World) (k:Nat) (s:ByteArray),k<3->Sz s->S W->Calls Tryz.prog 41 #[.int .i64 k,.string s] W λe w'=>e=.returned (.bool (V k s))/\Below W.heap.size W w')
 (hz:∀p j s,(p=0/\(j=0\/j=2\/j=3\/j=5))\/(p=2/\j=1)->aR rows p j=.string s->Sz s)
 (hix:∀(sb:Option Addr) (n c:Nat) (m:Int),aR rows 0 15=.slice sb n c->aR rows 1 1=.int .i64 m->∃(b bo k:Nat),sb=some ⟨b,bo,none⟩/\m=(k:Int)/\k<n/\∃l,rows[3]? =some (some (b,bo+k*2),l)):Ev.Ok Tryz.prog (λ_ w=>S w) (u7 V rows):=by
 refine Ev.jH (λt f d h=>pY h) hrow (λf vs v h=>?_) (λo ov v h ρ hov w hS=>?_)
 ·unfold Hu at h
  split at h
  ·rename_i hf
   subst hf
   split at h
   ·rename_i hm
    cases h
    rw[hm]
    exact⟨RI,λw hS=>(Bu w _).mono λe w' k=>⟨k.1,hb _ _ hS k.2⟩⟩
   ·cases h
  ·split at h
   ·rename_i hf
    subst hf
    split at h
    ·split at h
     ·rename_i k p j hk
      split at h
      ·rename_i s hs
       cases h
       refine⟨Rn,λw hS=>?_⟩
       obtain⟨n,hn,hk3⟩:∃n:Nat,k=(n:Int)/\n<3:=by
        rcases hk.1 with rfl|rfl|rfl
        ·exact⟨0,rfl,by decide⟩
        ·exact⟨1,rfl,by decide⟩
        ·exact⟨2,rfl,by decide⟩
       subst hn
       have:=cV w n s hk3 (hz p j s hk.2 hs) hS
       simp only[List.map_cons,List.map_nil,eD,hs]
       exact this.mono λe w' q=>⟨q.1,hb _ _ hS q.2⟩
      ·cases h
     ·cases h
    ·cases h
   ·cases h
 ·unfold Dy at h
  split at h
  ·rename_i t x y ho
   split at h
   ·rename_i ht
    subst ht
    split at h
    ·rename_i h1 h2
     split at h
     ·rename_i sa n c m h3 h4
      cases h
      obtain⟨b,bo,k,rfl,rfl,hk,l,h5⟩:=hix _ _ _ _ h3 h4
      have e1:ρ x=.slice (some ⟨b,bo,none⟩) n c:=(hov _ _ h1).trans h3
      have e2:ρ y=.int .i64 (k:Int):=(hov _ _ h2).trans h4
      have hb3:(Ev.jd rows).getD 3 (0,0)=(b,bo+k*2):=by simp[Ev.jd,h5]
      have hv:eD rows (.p 3 0)=.pointer (some ⟨b,bo+k*2,none⟩):=by
       show Value.pointer (some ⟨((Ev.jd rows).getD 3 (0,0)).1,((Ev.jd rows).getD 3 (0,0)).2+0,none⟩)=_
       rw[hb3]
       rfl
      have PT:(k:Int)<(n:Int):=by omega
      rw[hv]
      unfold execOp
      simp only[ho,e1,e2]
      go_simp
     ·cases h
    ·cases h
   ·cases h
  ·exact yZ h hov w
theorem al_L {ρ:Operand->Value}{o:Oper}(ho:o.op=.alloc 91)(W:World):(execOp ρ o).run Tryz.prog W=.ok (.value (.pointer (some ⟨W.heap.size,0,none⟩))) (W.alloc (.cells #[.int .i64 0,.string ByteArray.empty] 91)):=by
 unfold execOp;rw[ho];go_simp;first|done|rfl
theorem st_L {ρ:Operand->Value}{o:Oper}{x y:Operand}{n:Int}{s:ByteArray}(ho:o.op=.store 91 x y)(W:World)(e1:ρ x=.pointer (some ⟨W.heap.size,0,none⟩))(e2:ρ y=.agg #[.int .i64 n,.string s]):(execOp ρ o).run Tryz.prog (W.alloc (.cells #[.int .i64 0,.string ByteArray.empty] 91))=.ok .skip (W.alloc (.cells #[.int .i64 n,.string s] 91)):=by
 unfold execOp;simp only[ho,e1,e2];go_simp;first|done|rfl
noncomputable def insB:Code:=Tryz.f42.body.getD .skip
noncomputable def oM:Code×List Ev.Fm:=aS bf insB
noncomputable def yP:Code×List Ev.Fm:=aS (bA 37) (jC oM.1)
noncomputable def M8:Code:=fmC yP.2 0
noncomputable def zM:Code×List Ev.Fm:=aS bf M8
def Bz (g:Nat)(i:Ps.Ins)(lv:Value)(k:Nat):List (Option (Nat×Nat)×List Value):=[(some (g,0),aB i lv),(none,[.int .i64 k])]
def Ld (g:Nat)(i:Ps.Ins)(lv:Value)(k h:Nat)(x:Ps.Link):List (Option (Nat×Nat)×List Value):=[(some (g,0),aB i lv),(none,[.int .i64 k]),(some (h,0),[.int .i64 x.type,.string x.ref])]
def Rs (g:Nat)(i:Ps.Ins)(lv:Value)(k h:Nat)(x:Ps.Link)(m sb so:Nat)(y:Ps.Link):List (Option (Nat×Nat)×List Value):=[(some (g,0),aB i lv),(none,[.int .i64 k,.int .i64 m]),(some (h,0),[.int .i64 x.type,.string x.ref]),(some (sb,so+m*2),[.int .i64 y.type,.string y.ref])]
theorem fU {S:World->Prop}{b:Nat}{l:List Value}{ty:TypeId}(h:∀w,S w->w.heap[b]? =some (.cells l.toArray ty (0,0))):∀w,S w->∀(j:Nat) (v:Value),l[j]? =some v->w.cell? ⟨b,0+j,none⟩=some v:=λw hS j v hv=>by
 rw[Nat.zero_add,cell_of_row _ _ _ _ _ _ (h w hS)]
 simpa using hv
theorem GN {i:Ps.Ins}{lv:Value}{j:Nat}{s:ByteArray}{r:List (Option (Nat×Nat)×List Value)}{o:Option (Nat×Nat)}(hG:l6 i)(hj:j=0\/j=2\/j=3\/j=5)(h:aR ((o,aB i lv)::r) 0 j=.string s):Sz s:=by
 obtain⟨h1,h2,h3,h4,-⟩:=hG
 rcases hj with rfl|rfl|rfl|rfl<;>cases h<;>assumption
theorem qy (w:World)(V:Nat->ByteArray->Bool)(i:Ps.Ins)(sa:Option Addr)(sn sc:Nat)
 (cV:Hid (∀(W1:World) (k:Nat) (s:ByteArray),k<3->Sz s->Below w.heap.size w W1->Calls Tryz.prog 41 #[.int .i64 k,.string s] W1 λe w'=>e=.returned (.bool (V k s))/\Below W1.heap.size W1 w'))
 (hG:Hid (l6 i)) (g:Nat) (W1:World) (hrow:Hid (∀W,Below W1.heap.size W1 W->W.heap[g]? =some (.cells (aB i (.slice sa sn sc)).toArray 24 (0,0)))) (HB1:Hid (Below w.heap.size w W1)) (k:Nat):Ev.Ok Tryz.prog (λ(_:Unit) W=>Below W1.heap.size W1 W) (u7 V (Bz g i (.slice sa sn sc) k)):=by
 refine BR (λW W' h1 h2=>h1.trans (h2.mono h1.size)) (λq b o l h W hS=>?_) (λW k s hk hs hS=>cV.out W k s hk hs (HB1.out.trans (hS.mono HB1.out.size))) (λp j s hp h=>?_) (λsb n c m _ h=>by cases h)
 ·rcases q with _|_|q
  ·cases h;exact fU hrow.out W hS
  ·cases h
  ·cases h
 ·rcases hp with⟨rfl,hj⟩|⟨rfl,rfl⟩
  ·exact GN hG.out hj h
  ·cases h
theorem Je (w:World)(V:Nat->ByteArray->Bool)(i:Ps.Ins)(sa:Option Addr)(sn sc:Nat)(x xL:Int)
 (cV:Hid (∀(W1:World) (k:Nat) (s:ByteArray),k<3->Sz s->Below w.heap.size w W1->Calls Tryz.prog 41 #[.int .i64 k,.string s] W1 λe w'=>e=.returned (.bool (V k s))/\Below W1.heap.size W1 w'))
 (hG:Hid (l6 i)) (hsn:Hid (sn=i.links.length)) (hlk:Hid (dJ w sa sn i.links))
 (g:Nat) (W1:World) (hrow:Hid (∀W,Below W1.heap.size W1 W->W.heap[g]? =some (.cells (aB i (.slice sa sn sc)).toArray 24 (0,0)))) (HB1:Hid (Below w.heap.size w W1)) (hx:Hid (x=xL)) (hn8:Hid (sn<=8)) (Q:Exit->Act->World->Prop) (hq:Hid (∀(b:Act) (W:World),b.defers=[]->b.tmps[2]? =some (.int .i64 x)->Below W1.heap.size W1 W->Q .ret b W))
 (hL:Hid (Ps.eU V i [] i.links=xL)) (a:Act) (w2:World) (hsz:a.tmps.size=291) (hdf:a.defers=[]) (hf1:a.tmps[1]? =some (.pointer (some ⟨g,0,none⟩))) (hf5:a.tmps[5]? =some (.int .i64 0)) (HB:Below W1.heap.size W1 w2):oM.1.wp Tryz.prog (Qof Tryz.prog oM.2 Q) a w2:=by
 have e1:oM.1=.loop (jC oM.1):=by kernel_rfl
 have e2:oM.2=[.bl 0,.sq (fmC oM.2 1)]:=by kernel_rfl
 rw[e1,e2]
 refine wp_loop (λa w=>∃k:Nat,k<=sn/\a.tmps.size=291/\a.defers=[]/\a.tmps[1]? =some (.pointer (some ⟨g,0,none⟩))/\a.tmps[5]? =some (.int .i64 (k:Int))/\Below W1.heap.size W1 w/\Ps.eU V i (i.links.take k) (i.links.drop k)=xL) (λa _=>match a.tmps[5]? with|some (Value.int _ k)=>sn-k.toNat|_=>0) ⟨0,Nat.zero_le _,hsz,hdf,hf1,hf5,HB,by rw[<-hL.out];rfl⟩ ?_
 clear hsz hdf hf1 hf5 HB
 rintro a w3 ⟨k,hk,hsz,hdf,hf1,hf5,HB,HX⟩
 have hm:(match a.tmps[5]? with|some (Value.int _ k)=>sn-k.toNat|_=>0)=sn-k:=by rw[hf5];simp
 rw[hm]
 refine Ev.qN (M:=u7 V (Bz g i (.slice sa sn sc) k)) (S:=λ_ W=>Below W1.heap.size W1 W) (n:=291) (K:=[(1,.p 0 0),(5,.r 1 0)]) (s:=()) [1,5] (.ite (decide ((k:Int)<(sn:Int))) (.go yP [some (.p 0 0),some (.r 1 0)] ()) (.out 0 [some (.p 0 0),some (.r 1 0)] ())) (qy w V i sa sn sc cV hG g W1 hrow HB1 k) (λ_ _ h=>h.drew) (by kernel_rfl) (Ev.aF (Ev.aF (Ev.aX hsz hdf) hf5) hf1) HB ⟨λhc=>?_,λhc=>?_⟩
 ·intro b W hst hS
  have hkn:k<sn:=by have:(k:Int)<(sn:Int):=by simpa using hc
                    omega
  obtain⟨b1,hst⟩:=hst.cons
  obtain⟨b5,hst⟩:=hst.cons
  obtain⟨x0,hx0⟩:∃x0,i.links[k]? =some x0:=⟨_,List.getElem?_eq_getElem (by rw[<-hsn.out];exact hkn)⟩
  have hstep:xL=if¬(0<=x0.type/\x0.type<=1)then 11 else if V 2 x0.ref=false then 6 else if x0.ref=i.ref then 26 else if∃y∈i.links.take k,y.ref=x0.ref then 7 else Ps.eU V i (i.links.take (k+1)) (i.links.drop (k+1)):=by
   have hd:i.links.drop k=x0::i.links.drop (k+1):=by
    have h1:=List.drop_eq_getElem_cons (l:=i.links) (i:=k) (by rw[<-hsn.out];exact hkn)
    rw[h1]
    congr 1
    rw[List.getElem?_eq_getElem (by rw[<-hsn.out];exact hkn)]at hx0
    exact Option.some.inj hx0
   rw[<-HX,hd]
   conv=>lhs;unfold Ps.eU
   have ht:i.links.take (k+1)=i.links.take k++[x0]:=by rw[List.take_add_one,hx0];rfl
   rw[ht]
  obtain⟨sb,so,rfl,hlr⟩:=hlk.out (by omega)
  have hLW:∀W,Below W1.heap.size W1 W->EY W sb so i.links:=λW hW=>hlr W (HB1.out.trans (hW.mono HB1.out.size))
  have e3:yP.1=.region 37 (lw yP.1) false:=by kernel_rfl
  have e4:yP.2=[.sq M8,.bl 1,.sq (fmC yP.2 2)]:=by kernel_rfl
  show yP.1.wp Tryz.prog (Qof Tryz.prog yP.2 _) b W
  rw[e3,e4]
  obtain⟨vs,hvs⟩:∃vs:List Value,vs=[(.pointer (some ⟨g,15,none⟩)),(.slice (some ⟨sb,so,none⟩) sn sc),(.int .i64 (k:Int)),(.pointer (some ⟨sb,so+k*2,none⟩)),(.agg #[.int .i64 x0.type,.string x0.ref])]:=⟨_,rfl⟩
  have b1':b.tmps[1]? =some (.pointer (some ⟨g,0,none⟩)):=b1
  have b5':b.tmps[5]? =some (.int .i64 (k:Int)):=b5
  refine wp_box (dv:=259) (d1:=6) (Below W1.heap.size W1) 5 vs (by rw[hvs];rfl) (by kernel_rfl) (by kernel_rfl) (by kernel_rfl) (by rw[hst.1];kernel_rfl) hS ?_ rfl rfl rfl rfl rfl rfl (by rw[hst.1];decide) (by decide) (.agg #[.int .i64 x0.type,.string x0.ref]) ?_ (.cells #[.int .i64 0,.string ByteArray.empty] 91) (.cells #[.int .i64 x0.type,.string x0.ref] 91) ?_ ?_ ?_
  ·intro ρ hD hrest hco hfu
   have e1:ρ (.tmp 1)=.pointer (some ⟨g,0,none⟩):=(hrest 1 (by decide +kernel)).trans (eval_at b1')
   have e5:ρ (.tmp 5)=.int .i64 (k:Int):=(hrest 5 (by decide +kernel)).trans (eval_at b5')
   obtain⟨e255,e256,e257,e258,e259,-⟩:ρ (.tmp 255)=(.pointer (some ⟨g,15,none⟩))/\ρ (.tmp 256)=(.slice (some ⟨sb,so,none⟩) sn sc)/\ρ (.tmp 257)=(.int .i64 (k:Int))/\ρ (.tmp 258)=(.pointer (some ⟨sb,so+k*2,none⟩))/\ρ (.tmp 259)=(.agg #[.int .i64 x0.type,.string x0.ref])/\True:=kH hvs hD
   refine wE hvs ?_
   refine⟨av rfl (dm rfl e1 (λw=>pY (d:=15) (by kernel_rfl) g 0 w)),?_⟩
   refine⟨av rfl (dC rfl e255 (λw hS=>Lv _ w _ _ _ (by rw[cell_of_row _ _ _ _ _ _ (hrow.out w hS)];rfl))),?_⟩
   refine⟨av rfl (dZ rfl e5),?_⟩
   refine⟨av rfl (y_idxO rfl e256 e257 hkn),?_⟩
   refine⟨av rfl (dC rfl e258 (λw hS=>MR sb (so+k*2) x0 w (hLW w hS k x0 hx0).1 (hLW w hS k x0 hx0).2)),?_⟩
   exact trivial
  ·intro ρ hD;exact bX.tmp 4 _ _ 259 hD rfl (by rw[hvs];rfl) rfl
  ·intro ρ W;exact al_L rfl W
  ·intro ρ W e1 e2;exact st_L rfl W e1 e2
  intro a4 w4 hS4 hK hf6
  have c1:=(hK.rest 1 (by decide +kernel)).trans b1'
  have c5:=(hK.rest 5 (by decide +kernel)).trans b5'
  have cz:=hK.size.trans hst.1
  have cd:=hK.defers.trans hst.2.1
  obtain⟨h,hh⟩:∃h,h=w4.heap.size:=⟨_,rfl⟩
  obtain⟨Wh,hWh⟩:∃Wh,Wh=w4.alloc (.cells #[.int .i64 x0.type,.string x0.ref] 91):=⟨_,rfl⟩
  have hBh:Below W1.heap.size W1 Wh:=by rw[hWh];exact hS4.alloc hS4.size _
  have lU:∀W,Below Wh.heap.size Wh W->W.heap[h]? =some (.cells [.int .i64 x0.type,.string x0.ref].toArray 91 (0,0)):=λW hW=>by
   rw[hW.block h (by rw[hWh,hh];simp),hWh,hh];exact aD w4 _
  rw[<-hWh]
  rw[<-hh]at hf6
  have up:∀W,Below Wh.heap.size Wh W->Below W1.heap.size W1 W:=λW hW=>hBh.trans (hW.mono hBh.size)
  clear hWh hh hS4 hvs hK b1 b5 b1' b5' hst hS e3 e4
  show M8.wp Tryz.prog (Qof Tryz.prog [.bl 1,.sq (fmC yP.2 2)] _) a4 Wh
  have hzx:Sz x0.ref:=hG.out.2.2.2.2 x0 (List.mem_of_getElem? hx0)
  have hO2:Ev.Ok Tryz.prog (λ(_:Unit) W=>Below Wh.heap.size Wh W) (u7 V (Ld g i (.slice (some ⟨sb,so,none⟩) sn sc) k h x0)):=by
   refine BR (λW W' h1 h2=>h1.trans (h2.mono h1.size)) (λq b o l h W hS=>?_) (λW k s hk hs hS=>cV.out W k s hk hs (HB1.out.trans ((up W hS).mono HB1.out.size))) (λp j s hp h=>?_) (λsb n c m _ h=>by cases h)
   ·rcases q with _|_|_|q
    ·cases h;exact fU hrow.out W (up W hS)
    ·cases h
    ·cases h;exact fU lU W hS
    ·cases h
   ·rcases hp with⟨rfl,hj⟩|⟨rfl,rfl⟩
    ·exact GN hG.out hj h
    ·cases h;exact hzx
  refine Ev.qN (M:=u7 V (Ld g i (.slice (some ⟨sb,so,none⟩) sn sc) k h x0)) (S:=λ_ W=>Below Wh.heap.size Wh W) (n:=291) (K:=[(1,.p 0 0),(5,.r 1 0),(6,.p 2 0)]) (s:=()) [1,5,6,7,2]
   (.ite ((x0.type !=0)&&(x0.type !=1)) (.ret [some (.p 0 0),some (.r 1 0),some (.p 2 0),none,some (.v (.int .i64 11))] ()) (.ite (!(V 2 x0.ref)) (.ret [some (.p 0 0),some (.r 1 0),some (.p 2 0),none,some (.v (.int .i64 6))] ()) (.ite (x0.ref.toList==i.ref.toList) (.ret [some (.p 0 0),some (.r 1 0),some (.p 2 0),none,some (.v (.int .i64 26))] ()) (.go zM [some (.p 0 0),some (.r 1 0),some (.p 2 0),some (.v (.int .i64 0)),none] ()))))
   hO2 (λ_ _ h=>h.drew) (by kernel_rfl) (Ev.aF (Ev.aF (Ev.aF (Ev.aX cz cd) hf6) c5) c1) (Below.refl _ _) ?_
  have done:∀(b:Act) (W:World) (us:List (Option AV)) (n:Int),Stop (u7 V (Ld g i (.slice (some ⟨sb,so,none⟩) sn sc) k h x0)) 291 [1,5,6,7,2] us b->us[4]? =some (some (.v (.int .i64 n)))->x=n->Below Wh.heap.size Wh W->Q .ret b W:=λb W us n hst hu hx hS=>
   hq.out b W hst.2.1 (by rw[hx];exact hst.2.2 4 2 _ rfl hu) (up W hS)
  refine⟨λc1 b W hst hS=>done b W _ 11 hst rfl ?_ hS,λn1=>⟨λc2 b W hst hS=>done b W _ 6 hst rfl ?_ hS,λn2=>⟨λc3 b W hst hS=>done b W _ 26 hst rfl ?_ hS,λn3 b W hst hS=>?_⟩⟩⟩
  ·simp only[Bool.and_eq_true,bne_iff_ne,ne_eq]at c1
   rw[hx.out,hstep,if_pos (by omega)]
  ·simp only[Bool.and_eq_false_iff,bne_eq_false_iff_eq]at n1
   rw[hx.out,hstep,if_neg (by omega),if_pos (by simpa using c2)]
  ·simp only[Bool.and_eq_false_iff,bne_eq_false_iff_eq]at n1
   rw[hx.out,hstep,if_neg (by omega),if_neg (by simpa using n2),if_pos (bytes_inj c3)]
  have hstep2:xL=if∃y∈i.links.take k,y.ref=x0.ref then 7 else Ps.eU V i (i.links.take (k+1)) (i.links.drop (k+1)):=by
   simp only[Bool.and_eq_false_iff,bne_eq_false_iff_eq]at n1
   rw[hstep,if_neg (by omega),if_neg (by simpa using n2),if_neg (λhc=>by rw[hc]at n3;simp at n3)]
  clear hstep n1 n2 n3
  obtain⟨d1,hst⟩:=hst.cons
  obtain⟨d5,hst⟩:=hst.cons
  obtain⟨d6,hst⟩:=hst.cons
  obtain⟨d7,hst⟩:=hst.cons
  have e5:zM.1=.loop (jC zM.1):=by kernel_rfl
  have e6:zM.2=[.bl 2]:=by kernel_rfl
  show zM.1.wp Tryz.prog (Qof Tryz.prog zM.2 _) b W
  rw[e5,e6]
  refine wp_loop (λa w=>∃m:Nat,m<=k/\a.tmps.size=291/\a.defers=[]/\a.tmps[1]? =some (.pointer (some ⟨g,0,none⟩))/\a.tmps[5]? =some (.int .i64 (k:Int))/\a.tmps[6]? =some (.pointer (some ⟨h,0,none⟩))/\a.tmps[7]? =some (.int .i64 (m:Int))/\Below Wh.heap.size Wh w/\∀y∈i.links.take m,y.ref≠x0.ref) (λa _=>match a.tmps[7]? with|some (Value.int _ m)=>k-m.toNat|_=>0) ⟨0,Nat.zero_le _,hst.1,hst.2.1,d1,d5,d6,d7,hS,λy hy=>by simp at hy⟩ ?_
  clear hst d1 d5 d6 d7 hS cz cd c1 c5 hf6
  rintro b W ⟨m,hm,hsz,hdf,d1,d5,d6,d7,hS,hno⟩
  have hme:(match b.tmps[7]? with|some (Value.int _ m)=>k-m.toNat|_=>0)=k-m:=by rw[d7];simp
  rw[hme]
  obtain⟨y0,hy0⟩:∃y0,i.links[m]? =some y0:=⟨_,List.getElem?_eq_getElem (by have:=hsn.out;omega)⟩
  have hmn:m<sn:=by omega
  have hO3:Ev.Ok Tryz.prog (λ(_:Unit) W=>Below Wh.heap.size Wh W) (u7 V (Rs g i (.slice (some ⟨sb,so,none⟩) sn sc) k h x0 m sb so y0)):=by
   refine BR (λW W' h1 h2=>h1.trans (h2.mono h1.size)) (λq b o l h W hS=>?_) (λW k s hk hs hS=>cV.out W k s hk hs (HB1.out.trans ((up W hS).mono HB1.out.size))) (λp j s hp h=>?_) (λsb2 n c m2 h1 h2=>?_)
   ·rcases q with _|_|_|_|q
    ·cases h;exact fU hrow.out W (up W hS)
    ·cases h
    ·cases h;exact fU lU W hS
    ·cases h
     intro j v hv
     obtain⟨z1,z2⟩:=hLW W (up W hS) m y0 hy0
     rcases j with _|_|j
     ·cases hv;exact z1
     ·cases hv;exact z2
     ·cases hv
    ·cases h
   ·rcases hp with⟨rfl,hj⟩|⟨rfl,rfl⟩
    ·exact GN hG.out hj h
    ·cases h;exact hzx
   ·cases h1;cases h2
    exact⟨sb,so,m,rfl,rfl,hmn,_,rfl⟩
  have hw1:IntKind.i64.wrap ((m:Int)+1)=((m+1:Nat):Int):=by have:=hn8.out;rw[IntWalk.i64_in _ (by omega)];rfl
  refine Ev.qN (M:=u7 V (Rs g i (.slice (some ⟨sb,so,none⟩) sn sc) k h x0 m sb so y0)) (S:=λ_ W=>Below Wh.heap.size Wh W) (n:=291) (K:=[(1,.p 0 0),(5,.r 1 0),(6,.p 2 0),(7,.r 1 1)]) (s:=()) [1,5,6,7,2]
   (.ite (decide ((m:Int)<(k:Int))) (.ite (y0.ref.toList==x0.ref.toList) (.ret [some (.p 0 0),some (.r 1 0),some (.p 2 0),some (.r 1 1),some (.v (.int .i64 7))] ()) (.nx [some (.p 0 0),some (.r 1 0),some (.p 2 0),some (.v (.int .i64 (IntKind.i64.wrap ((m:Int)+1)))),none] ())) (.out 2 [some (.p 0 0),some (.r 1 0),some (.p 2 0),some (.r 1 1),none] ()))
   hO3 (λ_ _ h=>h.drew) (by kernel_rfl) (Ev.aF (Ev.aF (Ev.aF (Ev.aF (Ev.aX hsz hdf) d7) d6) d5) d1) hS ⟨λc1=>⟨λc2 b W hst hS=>?_,λc2 b W hst hS=>?_⟩,λc1 b W hst hS=>?_⟩
  ·refine hq.out b W hst.2.1 ?_ (up W hS)
   have hmk:m<k:=by have:(m:Int)<(k:Int):=by simpa using c1
                    omega
   rw[hx.out,hstep2,if_pos ⟨y0,List.mem_of_getElem? (i:=m) (by rw[List.getElem?_take,if_pos hmk];exact hy0),bytes_inj c2⟩]
   exact hst.2.2 4 2 _ rfl rfl
  ·have hmk:m<k:=by have:(m:Int)<(k:Int):=by simpa using c1
                    omega
   obtain⟨f1,hst⟩:=hst.cons
   obtain⟨f5,hst⟩:=hst.cons
   obtain⟨f6,hst⟩:=hst.cons
   obtain⟨f7,-⟩:=hst.cons
   have f7':b.tmps[7]? =some (.int .i64 ((m+1:Nat):Int)):=by rw[<-hw1];exact f7
   refine⟨⟨m+1,hmk,hst.1,hst.2.1,f1,f5,f6,f7',hS,λy hy=>?_⟩,?_⟩
   ·rw[List.take_add_one,hy0]at hy
    rcases List.mem_append.1 hy with h1|h1
    ·exact hno y h1
    ·have:y=y0:=by simpa using h1
     subst this
     intro hc;rw[hc]at c2;simp at c2
   ·rw[f7'];simp;omega
  ·have hmk:m=k:=by have:¬(m:Int)<(k:Int):=by simpa using c1
                    omega
   subst hmk
   obtain⟨f1,hst⟩:=hst.cons
   obtain⟨f5,hst⟩:=hst.cons
   have hk1:IntKind.i64.wrap ((m:Int)+1)=((m+1:Nat):Int):=hw1
   show(fmC yP.2 2).wp Tryz.prog _ b W
   refine Ev.qN (M:=u7 V (Bz g i (.slice (some ⟨sb,so,none⟩) sn sc) m)) (S:=λ_ W=>Below W1.heap.size W1 W) (n:=291) (K:=[(1,.p 0 0),(5,.r 1 0)]) (s:=()) [1,5] (.nx [some (.p 0 0),some (.v (.int .i64 (IntKind.i64.wrap ((m:Int)+1))))] ()) (qy w V i _ sn sc cV hG g W1 hrow HB1 m) (λ_ _ h=>h.drew) (by kernel_rfl) (Ev.aF (Ev.aF (Ev.aX hst.1 hst.2.1) f5) f1) (up W hS) ?_
   intro b W hst hS
   obtain⟨f1,hst⟩:=hst.cons
   obtain⟨f5,hst⟩:=hst.cons
   have f5':b.tmps[5]? =some (.int .i64 ((m+1:Nat):Int)):=by rw[<-hk1];exact f5
   refine⟨⟨m+1,hmn,hst.1,hst.2.1,f1,f5',hS,?_⟩,?_⟩
   ·rw[hstep2,if_neg]
    rintro⟨y,hy,he⟩
    exact hno y hy he
   ·rw[f5'];simp;omega
 ·intro b W hst hS
  have hkn:¬(k:Int)<(sn:Int):=by simpa using hc
  have hx0:x=0:=by
   rw[hx.out,<-HX,List.drop_eq_nil_of_le (by have:=hsn.out;omega)]
   rfl
  obtain⟨b1,hst⟩:=hst.cons
  show(fmC oM.2 1).wp Tryz.prog Q b W
  refine Ev.AL (M:=u7 V (Bz g i (.slice sa sn sc) k)) (S:=λ_ W=>Below W1.heap.size W1 W) (n:=291) (K:=[]) (s:=()) (v:=x) 2 (qy w V i sa sn sc cV hG g W1 hrow HB1 k) (λ_ _ h=>h.drew) (by rw[hx0];kernel_rfl) (by kernel_rfl) (Ev.aX hst.1 hst.2.1) hS λb W _ h1 h2 h3=>hq.out b W h1 h2 h3
theorem Pv (w:World)(V:Nat->ByteArray->Bool)(i:Ps.Ins)(sa:Option Addr)(sn sc:Nat)(x xL:Int)
 (cV:Hid (∀(W1:World) (k:Nat) (s:ByteArray),k<3->Sz s->Below w.heap.size w W1->Calls Tryz.prog 41 #[.int .i64 k,.string s] W1 λe w'=>e=.returned (.bool (V k s))/\Below W1.heap.size W1 w'))
 (hG:Hid (l6 i)) (hsn:Hid (sn=i.links.length)) (hlk:Hid (dJ w sa sn i.links)) (hL:Hid (Ps.eU V i [] i.links=xL))
 (hx:x=if ((decide (i.kind<0))||(decide (4<i.kind)))=true then 11 else(if ((!(V 2 i.ref))||(!(V 1 i.sender)))=true then 6 else(if ((!(decide (i.kind<3)))&&(!(i.counterparty.toList==(⟨#[]⟩:ByteArray).toList)))=true then 3 else(if ((decide (i.kind<3))&&(!(V 1 i.counterparty)))=true then 6 else(if ((decide (i.kind<3))&&(i.counterparty.toList==i.sender.toList))=true then 1 else(if ((i.side !=0)&&(i.side !=1))=true then 11 else(if ((!((i.kind==1)||(i.kind==2)))&&(i.side !=0))=true then 3 else(if (((i.kind==0)&&(!(i.asset.toList==(⟨#[67,65,83,72]⟩:ByteArray).toList)))||((decide (0<i.kind))&&(!(V 0 i.asset))))=true then 6 else(if (((i.kind==0)&&(i.quantity !=0))||((decide (0<i.kind))&&((decide (i.quantity<1))||(decide (1000000000000000<i.quantity)))))=true then 2 else(if (((decide (i.kind<2))&&((decide (i.amount<1))||(decide (1000000000000000<i.amount))))||((decide (2<=i.kind))&&(i.amount !=0)))=true then 2 else(if (((!(xu i.settleDay))||(((i.kind==1)||(i.kind==2))&&((decide (i.tradeDay<0))||(decide (i.settleDay<i.tradeDay)))))||((!((i.kind==1)||(i.kind==2)))&&(i.tradeDay !=0)))=true then 28 else(if (((decide (i.priority<0))||(decide (2<i.priority)))||((!(decide (i.kind<3)))&&(i.priority !=0)))=true then 2 else(if (i.partial_&&(!((i.kind==1)||(i.kind==2))))=true then 3 else(if ((i.partial_&&((decide (i.minLot<1))||(decide (i.quantity<i.minLot))))||((!i.partial_)&&(i.minLot !=0)))=true then 2 else(if (((i.hold&&(!(decide (i.kind<3))))||(i.reserve&&((i.kind !=0)||(i.priority !=2))))||((!(decide (i.kind<3)))&&(decide (0<(sn:Int)))))=true then 3 else(if (decide (8<(sn:Int)))=true then 8 else(xL))))))))))))))))):
 Calls Tryz.prog 42 #[.agg (aB i (.slice sa sn sc)).toArray] w λe w'=>e=.returned (.int .i64 x)/\Below w.heap.size w w':=by
 go_enter Tryz.func42,Tryz.ntmps42
 refine wp_seq ?_
 refine wp_region_lit ?_
 refine wpList_plain rfl (λK hK=>?_)
 go_simp
 refine hK _ _ ?_
 clear hK K
 refine wpList_plain rfl (λK hK=>?_)
 go_simp
 refine hK _ _ ?_
 clear hK K
 refine aU ?_
 obtain⟨g,hg⟩:∃g,g=w.heap.size:=⟨_,rfl⟩
 obtain⟨W1,hW1⟩:∃W1,W1=w.alloc (.cells (aB i (.slice sa sn sc)).toArray 24):=⟨_,rfl⟩
 have hrow:∀W,Below W1.heap.size W1 W->W.heap[g]? =some (.cells (aB i (.slice sa sn sc)).toArray 24 (0,0)):=λW hW=>by
  rw[hW.block g (by rw[hW1,hg];simp),hW1,hg];exact aD w _
 have hB1:Below w.heap.size w W1:=by rw[hW1];exact(Below.refl _ _).alloc (Nat.le_refl _) _
 rw[<-hg,<-hW1]
 refine jo rfl λa ha hdf=>?_
 have hret:∀(b:Act) (W:World),b.defers=[]->b.tmps[2]? =some (.int .i64 x)->Below W1.heap.size W1 W->bodyPost Tryz.prog Tryz.f42 (λe w'=>e=.returned (.int .i64 x)/\Below g w w') .ret b W:=λb W hd ht hS=>by
  refine bodyPost_ret (results_tmp rfl _ _ _) hd ?_
  rw[hg]
  exact⟨by rw[show b.tmps.getD 2 undef=.int .i64 x from eval_at ht],hB1.trans (hS.mono hB1.size)⟩
 refine Ev.zn (M:=u7 V (Bz g i (.slice sa sn sc) 0)) (S:=λ_ W=>Below W1.heap.size W1 W) (n:=291) (K:=[(1,.p 0 0)]) (s:=()) (v:=x) (hv:=xL) (l:=[(oM.1,oM.2,[some (.p 0 0),some (.v (.int .i64 0))],(),[!(decide (8<(sn:Int)))])]) 2 [1,5] [15] (qy w V i sa sn sc cV hG g W1 (Lib.hid hrow) (Lib.hid hB1) 0) (λ_ W h=>h.drew) (by rw[hx];kernel_rfl) (by kernel_rfl) (Ev.aF (Ev.aX (by rw[ha];rfl) hdf) (by rw[ha];rfl)) (Below.refl _ _) (λb W _=>hret b W) ?_
 intro hxL y hy hcs b W hst hS
 rw[List.mem_singleton]at hy
 subst hy
 have hn8:sn<=8:=by
  have h8:(8<(sn:Int))->False:=by simpa using hcs _ (List.mem_singleton.2 rfl)
  exact Nat.not_lt.1 λh=>h8 (by omega)
 obtain⟨h1,hst⟩:=hst.cons
 obtain⟨h5,hst⟩:=hst.cons
 exact Je w V i sa sn sc x xL cV hG hsn hlk g W1 (Lib.hid hrow) (Lib.hid hB1) (Lib.hid hxL) (Lib.hid hn8) _ (Lib.hid hret) hL b W hst.1 hst.2.1 h1 h5 hS
open Go Go.RowKit Go.Proofs.YtnjjeapcalkmaaaGreatDoor.Ord
open Go.ChangeShapes Go.WideShapes Go.Deep
section
variable {H : Type} {enc : TypeId × Value → H} {W : World} {n : Nat} {t : TypeId} {v : Value} {x : DataW H × List MemPlace} {sp : Nat → Bool}
theorem jg (ht:Tryz.prog.underlying t=some (.int .i64))(h:DataW.trod enc Tryz.prog W 0 sp true n t [v]=some x):∃z,v=.int .i64 z:=by
 obtain⟨z,h1,_⟩:=DataW.trod_int ht h
 exact⟨z,by simpa using h1⟩
theorem mD (ht:Tryz.prog.underlying t=some .bool)(h:DataW.trod enc Tryz.prog W 0 sp true n t [v]=some x):∃z,v=.bool z:=by
 obtain⟨z,h1,_⟩:=DataW.trod_bool ht h
 exact⟨z,by simpa using h1⟩
theorem xG (ht:Tryz.prog.underlying t=some .string)(h:DataW.trod enc Tryz.prog W 0 sp true n t [v]=some x):∃z:ByteArray,v=.string z/\z.size<=maxLen:=by
 obtain⟨z,h1,_,h2⟩:=DataW.trod_string ht h
 exact⟨z,by simpa using h1,h2⟩
theorem df {l:List Value}{b m o:Nat}(h:o<m)(hl:b+m<=l.length):(((l.drop b).take m).drop o).take 1=[l.getD (b+o) undef]:=by
 have h1:o<((l.drop b).take m).length:=by simp;omega
 rw[take1_drop _ _ undef h1]
 congr 1
 rw[List.getD_eq_getElem?_getD,List.getD_eq_getElem?_getD,List.getElem?_take,if_pos h,List.getElem?_drop]
theorem bH {α:Type}{l:List α}{i m:Nat}(h:l.length=m)(hi:i<m):∃y,l[i]? =some y:=⟨_,List.getElem?_eq_getElem (h▸hi)⟩
theorem O4 (h:DataW.trod enc Tryz.prog W 0 (λ_=>true) true n 22 [v]=some x):∃(sa:Option Addr) (sc:Nat) (ks:List Ps.Link),v=.slice sa ks.length sc/\ks.length<=maxLen/\(∀k∈ks,k.ref.size<=maxLen)/\dJ W sa ks.length ks:=by
 rcases open_slice_pairs Tryz.underlying22 Tryz.underlying91 (by kernel_rfl) rfl rfl (by kernel_rfl) (by kernel_rfl) h with⟨h1,_⟩|⟨a,len,cap,m,n',V0,V1,D0,D1,P0,P1,h1,_,hl,hm,hmm,_,hx⟩
 ·have h1:v=.slice none 0 0:=by simpa using h1
  exact⟨none,0,[],h1,Nat.zero_le _,λk hk=>(by cases hk),λh0=>absurd h0 (Nat.lt_irrefl 0)⟩
 have h1:v=.slice (some a) len cap:=by simpa using h1
 simp only[if_true]at hmm
 have each:∀i,i<len->∃k:Ps.Link,V0 i=.int .i64 k.type/\V1 i=.string k.ref/\k.ref.size<=maxLen:=λi hi=>by
  obtain⟨_,_,h3,h4⟩:=hx i (by omega)
  obtain⟨z,hz⟩:=jg (by kernel_rfl) h3
  obtain⟨s,hs,hs2⟩:=xG (by kernel_rfl) h4
  exact⟨⟨z,s⟩,hz,hs,hs2⟩
 have:Inhabited Ps.Link:=⟨⟨0,⟨#[]⟩⟩⟩
 obtain⟨K,hK⟩:=choose_lt each
 refine⟨some a,cap,(List.range len).map K,by rw[h1];simp,by simp;omega,λk hk=>?_,λh0=>?_⟩
 ·obtain⟨i,hi,rfl⟩:=List.mem_map.1 hk
  exact(hK i (List.mem_range.1 hi)).2.2
 ·have h0:0<len:=by simpa using h0
  obtain⟨b,o,spot⟩:=a
  have c0:=(hx 0 (by omega)).1
  have hspot:spot=none:=by simpa[Addr.add]using World.cell?_spot c0
  subst hspot
  refine⟨b,o,rfl,λW' hW j k hj=>?_⟩
  have hlt:j<len:=by have:=(List.getElem?_eq_some_iff.1 hj).1;simpa using this
  have hk:k=K j:=by
   rw[List.getElem?_map,List.getElem?_range hlt]at hj
   exact(Option.some.inj hj).symm
  subst hk
  obtain⟨g0,g1,_,_⟩:=hx j (by omega)
  obtain⟨e0,e1,_⟩:=hK j hlt
  rw[e0]at g0
  rw[e1]at g1
  have a0:(⟨b,o,none⟩:Addr).add (j*2)=⟨b,o+j*2,none⟩:=add_plain _ _ _
  have a1:(⟨b,o,none⟩:Addr).add (j*2+1)=⟨b,o+j*2+1,none⟩:=by rw[add_plain];rfl
  rw[a0]at g0
  rw[a1]at g1
  exact⟨(hW.cell (World.block_lt_of_cell? W _ g0)).trans g0,(hW.cell (World.block_lt_of_cell? W _ g1)).trans g1⟩
theorem q_open {d:DataW H}{p:List MemPlace}(h:DataW.Trod enc Tryz.prog W 0 (λ_=>true) true 28 v d p):∃(Q:Ps.Req) (sa:Option Addr) (sc:Nat),v=.agg (aA Q (.slice sa Q.ins.links.length sc))/\l6 Q.ins/\Sz Q.sender/\Sz Q.ref/\Q.ins.links.length<=maxLen/\dJ W sa Q.ins.links.length Q.ins.links:=by
 obtain⟨fuel,hf⟩:=h
 obtain⟨xs,k,-,-,hlen,hxl,hF⟩:=DataW.trod_struct Tryz.underlying28 hf
 have hc:Tryz.prog.cellsOf 28=28:=by kernel_rfl
 rw[hc]at hlen
 obtain⟨arr,rfl⟩:∃arr,v=.agg arr:=by
  cases v<;>first|exact⟨_,rfl⟩|(simp[Value.cells]at hlen)
 have hlen:arr.toList.length=28:=hlen
 have hF:∀(i:Nat) (f:Field),_->DataW.trod enc Tryz.prog W 0 (λ_=>true) true k f.type ((arr.toList.drop f.offset).take (Tryz.prog.cellsOf f.type))=xs[i]?:=hF
 obtain⟨l,rfl⟩:∃l:List Value,arr=l.toArray:=⟨arr.toList,by simp⟩
 rw[List.toList_toArray]at hlen
 simp only[List.toList_toArray]at hF
 obtain⟨yQop,hyQop⟩:=bH hxl (i:=0) (by decide)
 have gQop:DataW.trod enc Tryz.prog W 0 (λ_=>true) true _ _ [l.getD 0 undef]=some yQop:=((congrArg _ (take1_drop l 0 undef (by omega)).symm).trans (hF 0 _ rfl)).trans hyQop
 obtain⟨vQop,eQop⟩:=jg (by kernel_rfl) gQop
 obtain⟨yQsender,JM⟩:=bH hxl (i:=1) (by decide)
 have gQsender:DataW.trod enc Tryz.prog W 0 (λ_=>true) true _ _ [l.getD 1 undef]=some yQsender:=((congrArg _ (take1_drop l 1 undef (by omega)).symm).trans (hF 1 _ rfl)).trans JM
 obtain⟨vQsender,eQsender,zQsender⟩:=xG (by kernel_rfl) gQsender
 obtain⟨yQref,hyQref⟩:=bH hxl (i:=2) (by decide)
 have gQref:DataW.trod enc Tryz.prog W 0 (λ_=>true) true _ _ [l.getD 2 undef]=some yQref:=((congrArg _ (take1_drop l 2 undef (by omega)).symm).trans (hF 2 _ rfl)).trans hyQref
 obtain⟨vQref,eQref,zQref⟩:=xG (by kernel_rfl) gQref
 obtain⟨yI,hyI⟩:=bH hxl (i:=3) (by decide)
 have gI:DataW.trod enc Tryz.prog W 0 (λ_=>true) true k 24 ((l.drop 3).take 16)=some yI:=(hF 3 _ rfl).trans hyI
 obtain⟨xsI,kI,-,-,-,nz,D6⟩:=DataW.trod_struct Tryz.underlying24 gI
 obtain⟨yIref,hyIref⟩:=bH nz (i:=0) (by decide)
 have gIref:DataW.trod enc Tryz.prog W 0 (λ_=>true) true _ _ [l.getD (3+0) undef]=some yIref:=((congrArg _ (df (l:=l) (b:=3) (m:=16) (o:=0) (by decide) (by omega)).symm).trans (D6 0 _ rfl)).trans hyIref
 obtain⟨vIref,eIref,zIref⟩:=xG (by kernel_rfl) gIref
 obtain⟨yIkind,Og⟩:=bH nz (i:=1) (by decide)
 have gIkind:DataW.trod enc Tryz.prog W 0 (λ_=>true) true _ _ [l.getD (3+1) undef]=some yIkind:=((congrArg _ (df (l:=l) (b:=3) (m:=16) (o:=1) (by decide) (by omega)).symm).trans (D6 1 _ rfl)).trans Og
 obtain⟨vIkind,eIkind⟩:=jg (by kernel_rfl) gIkind
 obtain⟨yIsender,I7⟩:=bH nz (i:=2) (by decide)
 have gIsender:DataW.trod enc Tryz.prog W 0 (λ_=>true) true _ _ [l.getD (3+2) undef]=some yIsender:=((congrArg _ (df (l:=l) (b:=3) (m:=16) (o:=2) (by decide) (by omega)).symm).trans (D6 2 _ rfl)).trans I7
 obtain⟨vIsender,eIsender,zIsender⟩:=xG (by kernel_rfl) gIsender
 obtain⟨yIcounterparty,uP⟩:=bH nz (i:=3) (by decide)
 have gIcounterparty:DataW.trod enc Tryz.prog W 0 (λ_=>true) true _ _ [l.getD (3+3) undef]=some yIcounterparty:=((congrArg _ (df (l:=l) (b:=3) (m:=16) (o:=3) (by decide) (by omega)).symm).trans (D6 3 _ rfl)).trans uP
 obtain⟨vIcounterparty,eIcounterparty,zIcounterparty⟩:=xG (by kernel_rfl) gIcounterparty
 obtain⟨yIside,O7⟩:=bH nz (i:=4) (by decide)
 have gIside:DataW.trod enc Tryz.prog W 0 (λ_=>true) true _ _ [l.getD (3+4) undef]=some yIside:=((congrArg _ (df (l:=l) (b:=3) (m:=16) (o:=4) (by decide) (by omega)).symm).trans (D6 4 _ rfl)).trans O7
 obtain⟨vIside,eIside⟩:=jg (by kernel_rfl) gIside
 obtain⟨yIasset,NF⟩:=bH nz (i:=5) (by decide)
 have gIasset:DataW.trod enc Tryz.prog W 0 (λ_=>true) true _ _ [l.getD (3+5) undef]=some yIasset:=((congrArg _ (df (l:=l) (b:=3) (m:=16) (o:=5) (by decide) (by omega)).symm).trans (D6 5 _ rfl)).trans NF
 obtain⟨vIasset,eIasset,zIasset⟩:=xG (by kernel_rfl) gIasset
 obtain⟨yIquantity,Dm⟩:=bH nz (i:=6) (by decide)
 have gIquantity:DataW.trod enc Tryz.prog W 0 (λ_=>true) true _ _ [l.getD (3+6) undef]=some yIquantity:=((congrArg _ (df (l:=l) (b:=3) (m:=16) (o:=6) (by decide) (by omega)).symm).trans (D6 6 _ rfl)).trans Dm
 obtain⟨vIquantity,eIquantity⟩:=jg (by kernel_rfl) gIquantity
 obtain⟨yIamount,KY⟩:=bH nz (i:=7) (by decide)
 have gIamount:DataW.trod enc Tryz.prog W 0 (λ_=>true) true _ _ [l.getD (3+7) undef]=some yIamount:=((congrArg _ (df (l:=l) (b:=3) (m:=16) (o:=7) (by decide) (by omega)).symm).trans (D6 7 _ rfl)).trans KY
 obtain⟨vIamount,eIamount⟩:=jg (by kernel_rfl) gIamount
 obtain⟨yItradeDay,Di⟩:=bH nz (i:=8) (by decide)
 have gItradeDay:DataW.trod enc Tryz.prog W 0 (λ_=>true) true _ _ [l.getD (3+8) undef]=some yItradeDay:=((congrArg _ (df (l:=l) (b:=3) (m:=16) (o:=8) (by decide) (by omega)).symm).trans (D6 8 _ rfl)).trans Di
 obtain⟨vItradeDay,eItradeDay⟩:=jg (by kernel_rfl) gItradeDay
 obtain⟨yIsettleDay,Ae⟩:=bH nz (i:=9) (by decide)
 have gIsettleDay:DataW.trod enc Tryz.prog W 0 (λ_=>true) true _ _ [l.getD (3+9) undef]=some yIsettleDay:=((congrArg _ (df (l:=l) (b:=3) (m:=16) (o:=9) (by decide) (by omega)).symm).trans (D6 9 _ rfl)).trans Ae
 obtain⟨vIsettleDay,eIsettleDay⟩:=jg (by kernel_rfl) gIsettleDay
 obtain⟨yIpriority,Ct⟩:=bH nz (i:=10) (by decide)
 have gIpriority:DataW.trod enc Tryz.prog W 0 (λ_=>true) true _ _ [l.getD (3+10) undef]=some yIpriority:=((congrArg _ (df (l:=l) (b:=3) (m:=16) (o:=10) (by decide) (by omega)).symm).trans (D6 10 _ rfl)).trans Ct
 obtain⟨vIpriority,eIpriority⟩:=jg (by kernel_rfl) gIpriority
 obtain⟨yIpartial_,hyIpartial_⟩:=bH nz (i:=11) (by decide)
 have gIpartial_:DataW.trod enc Tryz.prog W 0 (λ_=>true) true _ _ [l.getD (3+11) undef]=some yIpartial_:=((congrArg _ (df (l:=l) (b:=3) (m:=16) (o:=11) (by decide) (by omega)).symm).trans (D6 11 _ rfl)).trans hyIpartial_
 obtain⟨vIpartial_,eIpartial_⟩:=mD (by kernel_rfl) gIpartial_
 obtain⟨yIminLot,IU⟩:=bH nz (i:=12) (by decide)
 have gIminLot:DataW.trod enc Tryz.prog W 0 (λ_=>true) true _ _ [l.getD (3+12) undef]=some yIminLot:=((congrArg _ (df (l:=l) (b:=3) (m:=16) (o:=12) (by decide) (by omega)).symm).trans (D6 12 _ rfl)).trans IU
 obtain⟨vIminLot,eIminLot⟩:=jg (by kernel_rfl) gIminLot
 obtain⟨yIhold,RF⟩:=bH nz (i:=13) (by decide)
 have gIhold:DataW.trod enc Tryz.prog W 0 (λ_=>true) true _ _ [l.getD (3+13) undef]=some yIhold:=((congrArg _ (df (l:=l) (b:=3) (m:=16) (o:=13) (by decide) (by omega)).symm).trans (D6 13 _ rfl)).trans RF
 obtain⟨vIhold,eIhold⟩:=mD (by kernel_rfl) gIhold
 obtain⟨yIreserve,EU⟩:=bH nz (i:=14) (by decide)
 have gIreserve:DataW.trod enc Tryz.prog W 0 (λ_=>true) true _ _ [l.getD (3+14) undef]=some yIreserve:=((congrArg _ (df (l:=l) (b:=3) (m:=16) (o:=14) (by decide) (by omega)).symm).trans (D6 14 _ rfl)).trans EU
 obtain⟨vIreserve,eIreserve⟩:=mD (by kernel_rfl) gIreserve
 obtain⟨yIlinks,Mq⟩:=bH nz (i:=15) (by decide)
 have gIlinks:DataW.trod enc Tryz.prog W 0 (λ_=>true) true _ _ [l.getD (3+15) undef]=some yIlinks:=((congrArg _ (df (l:=l) (b:=3) (m:=16) (o:=15) (by decide) (by omega)).symm).trans (D6 15 _ rfl)).trans Mq
 obtain⟨sa,sc,ks,eIlinks,zks,zkr,hks⟩:=O4 gIlinks
 obtain⟨yA,hyA⟩:=bH hxl (i:=4) (by decide)
 have gA:DataW.trod enc Tryz.prog W 0 (λ_=>true) true k 26 ((l.drop 19).take 9)=some yA:=(hF 4 _ rfl).trans hyA
 obtain⟨xsA,kA,-,-,-,AP,QP⟩:=DataW.trod_struct Tryz.underlying26 gA
 obtain⟨yAhasAmount,Ag⟩:=bH AP (i:=0) (by decide)
 have gAhasAmount:DataW.trod enc Tryz.prog W 0 (λ_=>true) true _ _ [l.getD (19+0) undef]=some yAhasAmount:=((congrArg _ (df (l:=l) (b:=19) (m:=9) (o:=0) (by decide) (by omega)).symm).trans (QP 0 _ rfl)).trans Ag
 obtain⟨vAhasAmount,eAhasAmount⟩:=mD (by kernel_rfl) gAhasAmount
 obtain⟨yAhasSettleDay,uT⟩:=bH AP (i:=1) (by decide)
 have gAhasSettleDay:DataW.trod enc Tryz.prog W 0 (λ_=>true) true _ _ [l.getD (19+1) undef]=some yAhasSettleDay:=((congrArg _ (df (l:=l) (b:=19) (m:=9) (o:=1) (by decide) (by omega)).symm).trans (QP 1 _ rfl)).trans uT
 obtain⟨vAhasSettleDay,eAhasSettleDay⟩:=mD (by kernel_rfl) gAhasSettleDay
 obtain⟨yAhasPriority,xX⟩:=bH AP (i:=2) (by decide)
 have gAhasPriority:DataW.trod enc Tryz.prog W 0 (λ_=>true) true _ _ [l.getD (19+2) undef]=some yAhasPriority:=((congrArg _ (df (l:=l) (b:=19) (m:=9) (o:=2) (by decide) (by omega)).symm).trans (QP 2 _ rfl)).trans xX
 obtain⟨vAhasPriority,eAhasPriority⟩:=mD (by kernel_rfl) gAhasPriority
 obtain⟨yAhasPartial,yJ⟩:=bH AP (i:=3) (by decide)
 have gAhasPartial:DataW.trod enc Tryz.prog W 0 (λ_=>true) true _ _ [l.getD (19+3) undef]=some yAhasPartial:=((congrArg _ (df (l:=l) (b:=19) (m:=9) (o:=3) (by decide) (by omega)).symm).trans (QP 3 _ rfl)).trans yJ
 obtain⟨vAhasPartial,eAhasPartial⟩:=mD (by kernel_rfl) gAhasPartial
 obtain⟨yAamount,Ip⟩:=bH AP (i:=4) (by decide)
 have gAamount:DataW.trod enc Tryz.prog W 0 (λ_=>true) true _ _ [l.getD (19+4) undef]=some yAamount:=((congrArg _ (df (l:=l) (b:=19) (m:=9) (o:=4) (by decide) (by omega)).symm).trans (QP 4 _ rfl)).trans Ip
 obtain⟨vAamount,eAamount⟩:=jg (by kernel_rfl) gAamount
 obtain⟨yAsettleDay,BM⟩:=bH AP (i:=5) (by decide)
 have gAsettleDay:DataW.trod enc Tryz.prog W 0 (λ_=>true) true _ _ [l.getD (19+5) undef]=some yAsettleDay:=((congrArg _ (df (l:=l) (b:=19) (m:=9) (o:=5) (by decide) (by omega)).symm).trans (QP 5 _ rfl)).trans BM
 obtain⟨vAsettleDay,eAsettleDay⟩:=jg (by kernel_rfl) gAsettleDay
 obtain⟨yApriority,Dc⟩:=bH AP (i:=6) (by decide)
 have gApriority:DataW.trod enc Tryz.prog W 0 (λ_=>true) true _ _ [l.getD (19+6) undef]=some yApriority:=((congrArg _ (df (l:=l) (b:=19) (m:=9) (o:=6) (by decide) (by omega)).symm).trans (QP 6 _ rfl)).trans Dc
 obtain⟨vApriority,eApriority⟩:=jg (by kernel_rfl) gApriority
 obtain⟨yApartial_,hyApartial_⟩:=bH AP (i:=7) (by decide)
 have gApartial_:DataW.trod enc Tryz.prog W 0 (λ_=>true) true _ _ [l.getD (19+7) undef]=some yApartial_:=((congrArg _ (df (l:=l) (b:=19) (m:=9) (o:=7) (by decide) (by omega)).symm).trans (QP 7 _ rfl)).trans hyApartial_
 obtain⟨vApartial_,eApartial_⟩:=mD (by kernel_rfl) gApartial_
 obtain⟨yAminLot,KD⟩:=bH AP (i:=8) (by decide)
 have gAminLot:DataW.trod enc Tryz.prog W 0 (λ_=>true) true _ _ [l.getD (19+8) undef]=some yAminLot:=((congrArg _ (df (l:=l) (b:=19) (m:=9) (o:=8) (by decide) (by omega)).symm).trans (QP 8 _ rfl)).trans KD
 obtain⟨vAminLot,eAminLot⟩:=jg (by kernel_rfl) gAminLot
 refine⟨{op:=vQop,sender:=vQsender,ref:=vQref,ins:={ref:=vIref,kind:=vIkind,sender:=vIsender,counterparty:=vIcounterparty,side:=vIside,asset:=vIasset,quantity:=vIquantity,amount:=vIamount,tradeDay:=vItradeDay,settleDay:=vIsettleDay,priority:=vIpriority,partial_:=vIpartial_,minLot:=vIminLot,hold:=vIhold,reserve:=vIreserve,links:=ks},amd:={hasAmount:=vAhasAmount,hasSettleDay:=vAhasSettleDay,hasPriority:=vAhasPriority,hasPartial:=vAhasPartial,amount:=vAamount,settleDay:=vAsettleDay,priority:=vApriority,partial_:=vApartial_,minLot:=vAminLot} },sa,sc,?_,⟨?_,?_,?_,?_,?_⟩,?_,?_,zks,hks⟩
 ·refine congrArg Value.agg ?_
  apply Array.toList_inj.1
  rw[List.toList_toArray]
  refine List.ext_getElem? λj=>?_
  have key:∀(j:Nat) (u:Value),j<28->l.getD j undef=u->l[j]? =some u:=λj u hj hu=>by rw[<-hu,List.getD_eq_getElem?_getD,List.getElem?_eq_getElem (by omega)];rfl
  match j with
  |0=>exact key 0 _ (by decide) eQop
  |1=>exact key 1 _ (by decide) eQsender
  |2=>exact key 2 _ (by decide) eQref
  |3=>exact key 3 _ (by decide) eIref
  |4=>exact key 4 _ (by decide) eIkind
  |5=>exact key 5 _ (by decide) eIsender
  |6=>exact key 6 _ (by decide) eIcounterparty
  |7=>exact key 7 _ (by decide) eIside
  |8=>exact key 8 _ (by decide) eIasset
  |9=>exact key 9 _ (by decide) eIquantity
  |10=>exact key 10 _ (by decide) eIamount
  |11=>exact key 11 _ (by decide) eItradeDay
  |12=>exact key 12 _ (by decide) eIsettleDay
  |13=>exact key 13 _ (by decide) eIpriority
  |14=>exact key 14 _ (by decide) eIpartial_
  |15=>exact key 15 _ (by decide) eIminLot
  |16=>exact key 16 _ (by decide) eIhold
  |17=>exact key 17 _ (by decide) eIreserve
  |18=>exact key 18 _ (by decide) eIlinks
  |19=>exact key 19 _ (by decide) eAhasAmount
  |20=>exact key 20 _ (by decide) eAhasSettleDay
  |21=>exact key 21 _ (by decide) eAhasPriority
  |22=>exact key 22 _ (by decide) eAhasPartial
  |23=>exact key 23 _ (by decide) eAamount
  |24=>exact key 24 _ (by decide) eAsettleDay
  |25=>exact key 25 _ (by decide) eApriority
  |26=>exact key 26 _ (by decide) eApartial_
  |27=>exact key 27 _ (by decide) eAminLot
  |j+28=>rw[List.getElem?_eq_none (by omega),List.getElem?_eq_none (by rw[Array.length_toList,yM];omega)]
 ·have:=zIref;show _<=9223372036854775807;unfold maxLen at this;omega
 ·have:=zIsender;show _<=9223372036854775807;unfold maxLen at this;omega
 ·have:=zIcounterparty;show _<=9223372036854775807;unfold maxLen at this;omega
 ·have:=zIasset;show _<=9223372036854775807;unfold maxLen at this;omega
 ·intro x hx;have:=zkr x hx;show _<=9223372036854775807;unfold maxLen at this;omega
 ·have:=zQsender;show _<=9223372036854775807;unfold maxLen at this;omega
 ·have:=zQref;show _<=9223372036854775807;unfold maxLen at this;omega
end
end Go.Proofs.YtnjjeapcalkmaaaGreatDoor
namespace Go.Proofs.YtnjjeapcalkmaaaGreatDoor.Ord
open Go
section
variable {P : Program} {ops : Array Oper} {Q : Exit → Act → World → Prop}
def Closed (ops:Array Oper)(dn:Nat->Bool):Prop:=∀(j:Nat) (oj:Oper),ops[j]? =some oj->dn j=true->∀e∈oj.after,Region.binds .any e=true->dn e.on=true
theorem I6 (hd:cO ops=true)(I:(Nat->Bool)->Act->World->Prop)
 (hstep:∀dn i o a w,ops[i]? =some o->dn i=false->(∀e∈o.after,Region.binds .any e=true->dn e.on=true)->Closed ops dn->I dn a w->wpOp P ops Q i (λa' w'=>I (λj=>dn j||j==i) a' w') a w)
 (hend:∀dn a w,(∀i,i<ops.size->dn i=true)->I dn a w->Q .normal a w):
 ∀(fuel:Nat) (listed:Array Bool) (a:Act) (w:World),listed.size=ops.size->Closed ops (λj=>listed.getD j false)->(List.range ops.size).countP (λi=>!listed.getD i true)<=fuel->I (λj=>listed.getD j false) a w->wpAny P .any ops Q fuel listed a w:=by
 have hall:∀(listed:Array Bool),listed.size=ops.size->Region.ready .any ops listed=[]->∀i,i<ops.size->listed.getD i false=true:=by
  intro listed hsz hr i
  induction i using Nat.strongRecOn with
  |ind i ih=>
   intro hi
   obtain⟨o,ho⟩:∃o,ops[i]? =some o:=⟨_,Array.getElem?_eq_getElem hi⟩
   cases hb:listed.getD i false with
   |true=>rfl
   |false=>
    exfalso
    have hmem:i∈Region.ready .any ops listed:=by
     rw[mem_ready]
     refine⟨?_,o,ho,λe he hbd=>?_⟩
     ·have:i<listed.size:=by omega
      simp[this]at hb⊢
      exact hb
     ·have hlt:=dI hd ho he hbd
      exact ih e.on hlt (by omega)
    rw[hr]at hmem
    cases hmem
 intro fuel
 induction fuel with
 |zero=>
  intro listed a w hsz EG hc hI
  have hr:Region.ready .any ops listed=[]:=by
   cases hr:Region.ready .any ops listed with
   |nil=>rfl
   |cons x xs=>
    exfalso
    have hx:x∈Region.ready .any ops listed:=by rw[hr];exact List.mem_cons_self
    obtain⟨h1,o,ho,_⟩:=mem_ready.1 hx
    have hlt:x<ops.size:=(Array.getElem?_eq_some_iff.1 ho).1
    have:0<(List.range ops.size).countP (λi=>!listed.getD i true):=List.countP_pos_iff.2 ⟨x,List.mem_range.2 hlt,by rw[h1];rfl⟩
    omega
  exact⟨hr,hend _ a w (hall listed hsz hr) hI⟩
 |succ fuel ih=>
  intro listed a w hsz EG hc hI
  refine⟨λhr=>hend _ a w (hall listed hsz hr) hI,λi hi=>?_⟩
  obtain⟨hun,o,ho,hafter⟩:=mem_ready.1 hi
  have hlt:i<ops.size:=(Array.getElem?_eq_some_iff.1 ho).1
  have hlt':i<listed.size:=by omega
  have Pp:listed.getD i false=false:=by
   simp[hlt']at hun⊢
   exact hun
  have uK:(λj=>(listed.setIfInBounds i true).getD j false)=(λj=>listed.getD j false||j==i):=by
   funext j
   by_cases hik:i=j
   ·subst hik
    simp[hlt']
   ·rw[getD_set_ne false hik]
    have:(j==i)=false:=by rw[beq_eq_false_iff_ne];exactλe=>hik e.symm
    rw[this,Bool.or_false]
  refine wpOp_mono (λa' w' hI'=>ih (listed.setIfInBounds i true) a' w' (by simpa using hsz) ?_ ?_ (by rw[uK];exact hI')) (hstep _ i o a w ho Pp hafter EG hI)
  ·rw[uK]
   intro j oj hj hl e he hb
   have hl2:(listed.getD j false||j==i)=true:=hl
   rw[Bool.or_eq_true]at hl2
   show(listed.getD e.on false||e.on==i)=true
   rw[Bool.or_eq_true]
   left
   rcases hl2 with h1|h1
   ·exact EG j oj hj h1 e he hb
   ·obtain rfl:j=i:=by simpa using h1
    rw[ho]at hj
    cases hj
    exact hafter e he hb
  ·have:=iA (p:=λi=>!listed.getD i true) (q:=λj=>!(listed.setIfInBounds i true).getD j true) (λj hj=>by
    by_cases hij:i=j
    ·subst hij;simp only[hun];rfl
    ·rw[getD_set_ne true hij]at hj;exact hj) (List.range ops.size) i (List.mem_range.2 hlt) (by simp only[hun];rfl) (by
     simp[hlt'])
   omega
theorem xx {id:Nat}{dr:Bool}{a:Act}{w:World}(hm:P.follows .mixedOrders=true)(hd:cO ops=true)(I:(Nat->Bool)->Act->World->Prop)
 (h0:I (λ_=>false) a (if dr=true then w.drew else w))
 (hstep:∀dn i o a w,ops[i]? =some o->dn i=false->(∀e∈o.after,Region.binds .any e=true->dn e.on=true)->Closed ops dn->I dn a w->wpOp P ops Q i (λa' w'=>I (λj=>dn j||j==i) a' w') a w)
 (hend:∀dn a w,(∀i,i<ops.size->dn i=true)->I dn a w->Q .normal a w):(Code.region id ops dr).wp P Q a w:=by
 cases dr with
 |true=>
  refine wp_region_any hm (I6 hd I hstep hend ops.size _ a _ (by simp) ?_ ?_ ?_)
  ·intro j oj hj hl
   have:(Array.replicate ops.size false).getD j false=true:=hl
   exfalso
   by_cases hk:j<ops.size
   ·simp[hk]at this
   ·simp[hk]at this
  ·have:=List.countP_le_length (p:=λi=>!(Array.replicate ops.size false).getD i true) (l:=List.range ops.size)
   simpa using this
  ·have e:(λj=>(Array.replicate ops.size false).getD j false)=(λ_=>false):=by
    funext j
    by_cases hk:j<ops.size
    ·simp[hk]
    ·simp[hk]
   rw[e]
   exact h0
 |false=>
  have hgo:∀(m k:Nat) (a':Act) (w':World),k+m=ops.size->I (λj=>decide (j<k)) a' w'->wpOps P ops Q (List.range' k (ops.size-k)) a' w':=by
   intro m
   induction m with
   |zero=>
    intro k a' w' hk hI
    have:ops.size-k=0:=by omega
    rw[this]
    show Q .normal a' w'
    exact hend _ a' w' (λi hi=>by simp;omega) hI
   |succ m ih=>
    intro k a' w' hk hI
    obtain⟨o,ho⟩:∃o,ops[k]? =some o:=⟨_,Array.getElem?_eq_getElem (by omega)⟩
    rw[show ops.size-k=(ops.size-(k+1))+1 from by omega,List.range'_succ,wpOps_cons]
    refine wpOp_mono (λa2 w2 h2=>ih (k+1) a2 w2 (by omega) ?_) (hstep _ k o a' w' ho (by simp) (λe he hb=>by have:=dI hd ho he hb;simpa using this) (λj oj hj hl e he hb=>by
     have h1:=dI hd hj he hb
     have h2:j<k:=by simpa using hl
     simp;omega) hI)
    have e:(λj=>decide (j<k+1))=(λj=>decide (j<k)||j==k):=by
     funext j
     rw[Bool.eq_iff_iff]
     simp only[decide_eq_true_eq,Bool.or_eq_true,beq_iff_eq]
     omega
    rw[e]
    exact h2
  refine wp_region ?_
  have e:(λj=>decide (j<0))=(λ_=>false):=by funext j;simp
  have:=hgo ops.size 0 a w (by omega) (by rw[e];exact h0)
  rw[Nat.sub_zero,<-List.range_eq_range']at this
  exact this
theorem looks_at (hd:cO ops=true){i:Nat}{o:Oper}{dn:Nat->Bool}(hi:ops[i]? =some o)(hu:dn i=false)(ha:∀e∈o.after,Region.binds .any e=true->dn e.on=true)(hC:Closed ops dn){d:Tmp}(hl:d∈o.looksAt ops):
 (∃(j:Nat) (oj:Oper),j<i/\ops[j]? =some oj/\oj.dst=some d/\dn j=true)\/((∀(j:Nat) (oj:Oper),ops[j]? =some oj->dn j=true->oj.dst≠some d)/\∀(j:Nat) (oj:Oper),j<i->ops[j]? =some oj->oj.dst≠some d):=by
 by_cases h:∃(j:Nat) (oj:Oper),j<i/\ops[j]? =some oj/\oj.dst=some d
 ·obtain⟨j,oj,hji,hj,hjd⟩:=h
  rcases(pW hd hi hj (by omega) hjd).2 hl with⟨e,he,hb,rfl⟩|⟨h1,_⟩
  ·exact .inl ⟨_,oj,hji,hj,hjd,ha e he hb⟩
  ·omega
 ·right
  refine⟨λj oj hj hdn hjd=>?_,λj oj hji hj hjd=>h ⟨j,oj,hji,hj,hjd⟩⟩
  by_cases hji:j=i
  ·subst hji;rw[hu]at hdn;cases hdn
  rcases(pW hd hi hj hji hjd).2 hl with⟨e,he,hb,rfl⟩|⟨h1,e,he,hb,h2⟩
  ·exact h ⟨_,oj,dI hd hi he hb,hj,hjd⟩
  ·have:=hC j oj hj hdn e he hb
   rw[h2,hu]at this
   cases this
def anc (ops:Array Oper)(c:Nat):List Nat:=match ops[c]? with
 |none=>[]
 |some o=>(List.range c).reverse.foldl (λR j=>if R.contains j then(match ops[j]? with
  |some oj=>(oj.after.toList.filter λe=>Region.binds .any e).map (·.on)++R
  |none=>R)else R) ((o.after.toList.filter λe=>Region.binds .any e).map (·.on))
theorem Cx {dn:Nat->Bool}(hC:Closed ops dn){c:Nat}{o:Oper}(hc:ops[c]? =some o)(ha:∀e∈o.after,Region.binds .any e=true->dn e.on=true):∀i∈anc ops c,dn i=true:=by
 have key:∀(l:List Nat) (R:List Nat),(∀i∈R,dn i=true)->∀i∈l.foldl (λR j=>if R.contains j then(match ops[j]? with
  |some oj=>(oj.after.toList.filter λe=>Region.binds .any e).map (·.on)++R
  |none=>R)else R) R,dn i=true:=by
  intro l
  induction l with
  |nil=>exactλR h=>h
  |cons j l ih=>
   intro R hR
   rw[List.foldl_cons]
   refine ih _ ?_
   split
   ·rename_i hj
    have hjd:dn j=true:=hR j (by simpa using hj)
    cases hoj:ops[j]? with
    |none=>exact hR
    |some oj=>
     intro i hi
     rcases List.mem_append.1 hi with hi|hi
     ·obtain⟨e,he,rfl⟩:=List.mem_map.1 hi
      obtain⟨he,hb⟩:=List.mem_filter.1 he
      exact hC j oj hoj hjd e (Array.mem_toList_iff.1 he) hb
     ·exact hR i hi
   ·exact hR
 unfold anc
 rw[hc]
 refine key _ _ λi hi=>?_
 obtain⟨e,he,rfl⟩:=List.mem_map.1 hi
 obtain⟨he,hb⟩:=List.mem_filter.1 he
 exact ha e (Array.mem_toList_iff.1 he) hb
end
end Go.Proofs.YtnjjeapcalkmaaaGreatDoor.Ord
namespace Go.Proofs.YtnjjeapcalkmaaaGreatDoor.Se
open Go Go.RowKit Go.Proofs.YtnjjeapcalkmaaaGreatDoor Go.Proofs.YtnjjeapcalkmaaaGreatDoor.Ord
def lim (n:Nat)(b:ByteArray):ByteArray:=if b.size<=n then b else⟨#[]⟩
theorem Ko (n:Nat)(b:ByteArray):(lim n b).size<=n:=by
 unfold lim
 split
 ·assumption
 ·exact Nat.zero_le _
theorem bF {n:Nat}{b:ByteArray}(h:b.size<=n):lim n b=b:=if_pos h
abbrev SB:=Nat×ByteArray
def st (x:SB):ByteArray:=lim x.1 x.2
theorem uj (x:SB):(st x).size<=x.1:=Ko _ _
def cat (x y:SB):SB:=(x.1+y.1,st x++st y)
theorem bB (x y:SB):st (cat x y)=st x++st y:=bF (by
 have h1:=uj x
 have h2:=uj y
 show(st x++st y).size<=x.1+y.1
 rw[ByteArray.size_append];omega)
theorem il (b:ByteArray):st (b.size,b)=b:=bF (Nat.le_refl _)
inductive PV where
 |v (x:Value)
 |s (x:SB)
 |sl (l:List SB)
 |pe (x:SB)
 |p (k j:Nat)
 |by_ (l:List UInt8)
 |u (c:UInt8)
 |a (k j n:Nat)
 |r (k j:Nat)
def PV.mem:PV->Bool
 | .sl _=>true
 | .pe _=>true
 | .by_ _=>true
 |_=>false
structure Mem where
 B:Nat
 W:World
 fix:List Nat:=[]
 blk:List (Nat×Nat):=[]
 offs:TypeId->Nat->Option Nat:=λ_ _=>none
 load:TypeId->Nat->Nat->Option PV:=λ_ _ _=>none
 cell:Nat->Nat->Value:=λ_ _=>.bool false
 call:FuncId->List PV->Option (PV×Bool×Option Prop):=λ_ _=>none
 hint:Nat->Option Bool:=λ_=>none
 loops:Nat:=0
 oth:Oper->(Operand->Option PV)->Option PV:=λ_ _=>none
 tst:Nat->Option Bool:=λ_=>none
variable {M : Mem}
def Mem.ptr (M:Mem)(k j:Nat):Value:=.pointer (some ⟨(M.blk.getD k (0,0)).1,(M.blk.getD k (0,0)).2+j,none⟩)
def prot (M:Mem)(g:Nat):Prop:=g<M.B\/g∈M.fix
structure Sw (M:Mem)(w:World):Prop where
 os:w.os=M.W.os
 tape:w.tape=M.W.tape
 output:w.output=M.W.output
 size:M.W.heap.size<=w.heap.size
 block:∀g,prot M g->w.heap[g]? =M.W.heap[g]?
structure Wf (M:Mem):Prop where
 B:M.B<=M.W.heap.size
 fix:∀g∈M.fix,g<M.W.heap.size
def Lf (M:Mem)(v:Value)(l:List ByteArray)(w:World):Prop:=w.ownsRow M.B 9 1 v l.length (l.map .string)/\∀g,v.ownBlock=some g->g∉M.fix
def MS (M:Mem)(v:Value)(l:List UInt8)(w:World):Prop:=w.ownsRow M.B 5 1 v l.length (l.map λc=>.int .u8 (c.toNat:Int))/\∀g,v.ownBlock=some g->g∉M.fix
def Den (M:Mem):PV->Value->World->Prop
 | .v x,y,_=>y=x
 | .s x,y,_=>y=.string (st x)
 | .sl l,y,w=>Lf M y (l.map st) w
 | .pe x,y,w=>∃g j,y=.pointer (some ⟨g,j,none⟩)/\w.cell? ⟨g,j,none⟩=some (.string (st x))
 | .p k j,y,_=>y=M.ptr k j
 | .by_ l,y,w=>MS M y l w
 | .u c,y,_=>y=.int .u8 (c.toNat:Int)
 | .a k j n,y,_=>y=.agg ((List.range n).map λi=>M.cell k (j+i)).toArray
 | .r k j,y,_=>y=M.cell k j
theorem own_below {w w':World}{B sz n:Nat}{t:TypeId}{v:Value}{xs:List Value}(h:w.ownsRow B t sz v n xs)(hb:Below w.heap.size w w'):w'.ownsRow B t sz v n xs:=fK h λg hg=>by
 refine hb.block g ?_
 rcases h.2 with⟨hn,_⟩|⟨g',cap,cur,hv,_,hh,_⟩
 ·rw[hn]at hg;cases hg
 ·have:g=g':=by rw[hv]at hg;simp[Value.ownBlock]at hg;exact hg.symm
  subst this
  exact(Array.getElem?_eq_some_iff.1 hh).1
theorem Den.below {u:PV}{y:Value}{w w':World}(h:Den M u y w)(hb:Below w.heap.size w w'):Den M u y w':=by
 cases u with
 |v x=>exact h
 |s x=>exact h
 |p k j=>exact h
 |u c=>exact h
 |a k j n=>exact h
 |r k j=>exact h
 |sl l=>exact⟨own_below h.1 hb,h.2⟩
 |by_ l=>exact⟨own_below h.1 hb,h.2⟩
 |pe x=>
  obtain⟨g,j,h1,h2⟩:=h
  exact⟨g,j,h1,(hb.cell (p:=⟨g,j,none⟩) (si h2)).trans h2⟩
theorem Den.any {u:PV}{y:Value}{w w':World}(hu:u.mem=false)(h:Den M u y w):Den M u y w':=by
 cases u with
 |v x=>exact h
 |s x=>exact h
 |p k j=>exact h
 |u c=>exact h
 |a k j n=>exact h
 |r k j=>exact h
 |sl l=>cases hu
 |by_ l=>cases hu
 |pe x=>cases hu
theorem Den.drew {u:PV}{y:Value}{w:World}(h:Den M u y w):Den M u y w.drew:=h.below ((Below.refl _ _).drew)
theorem Sw.below {w w':World}(hM:Wf M)(h:Sw M w)(hb:Below w.heap.size w w'):Sw M w':=
 ⟨hb.os.trans h.os,hb.tape.trans h.tape,hb.output.trans h.output,Nat.le_trans h.size hb.size,λg hg=>(hb.block g (by
  have:=h.size
  rcases hg with hg|hg
  ·have:=hM.B;omega
  ·have:=hM.fix g hg;omega)).trans (h.block g hg)⟩
theorem Sw.drew {w:World}(h:Sw M w):Sw M w.drew:=⟨h.os,h.tape,h.output,h.size,h.block⟩
theorem Sw.turn {w w':World}(h:Sw M w)(hb:Below M.B w w')(hf:∀g∈M.fix,w'.heap[g]? =w.heap[g]?):Sw M w':=
 ⟨hb.os.trans h.os,hb.tape.trans h.tape,hb.output.trans h.output,Nat.le_trans h.size hb.size,λg hg=>by
  refine Eq.trans ?_ (h.block g hg)
  rcases hg with hg|hg
  ·exact hb.block g hg
  ·exact hf g hg⟩
theorem Sw.start (M:Mem):Sw M M.W:=⟨rfl,rfl,rfl,Nat.le_refl _,λ_ _=>rfl⟩
theorem Sw.to {w:World}(h:Sw M w):Below M.B M.W w:=⟨h.os,h.tape,h.output,h.size,λg hg=>h.block g (.inl hg)⟩
def jb (M:Mem):List PV->List Value->World->Prop
 |[],[],_=>True
 |u::us,y::ys,w=>Den M u y w/\jb M us ys w
 |_,_,_=>False
structure Ok (P:Program)(M:Mem):Prop where
 wf:Wf M
 offs:∀t f d,M.offs t f=some d->∀b j w,(Instr.fieldAt t (.pointer (some ⟨b,j,none⟩)) f).run P w=.ok (.pointer (some ⟨b,j+d,none⟩)) w
 load:∀t k j u,M.load t k j=some u->∀w,Sw M w->∃v,(Instr.loadAt t (M.ptr k j)).run P w=.ok v w/\Den M u v w
 call:∀f us u c b,M.call f us=some (u,c,b)->(∀p,b=some p->p)->(∀args w,(callFunc f args).run P w=.ok (.enter f args) w)/\∀(vals:List Value) w,Sw M w->jb M us vals w->Calls P f vals.toArray w λe w'=>∃v,e=.returned v/\Den M u v w'/\Sw M w'/\(c=false->Below w.heap.size w w')
 oth:∀o ov u,M.oth o ov=some u->∀(ρ:Operand->Value) w,(∀f,ρ (.func f)=.func (.func f) #[] #[])->Sw M w->(∀x p,ov x=some p->Den M p (ρ x) w)->∃v,(execOp ρ o).run P w=.ok (.value v) w/\Den M u v w
structure Ent where
 dst:Option Nat
 val:PV
 cons:Bool
 uses:Bool
 skip:Bool:=false
 ob:Option Prop:=none
def find (t:Nat):List Ent->Nat->Option (Nat×Ent)
 |[],_=>none
 |e::l,i=>if e.dst=some t then some (i,e)else find t l (i+1)
def look (K:List (Nat×PV))(t:Nat):Option PV:=match K with
 |[]=>none
 |(s,v)::K=>if s=t then some v else look K t
def lV:List Ent->Nat->Nat->Nat
 |[],_,a=>a
 |e::l,k,a=>lV l (k+1) (if e.cons=true then k+1 else a)
def cst:Value->PV
 | .string b=>.s (b.size,b)
 | .slice none 0 0=>.sl []
 | .int .u8 x=>if 0<=x/\x<256 then .u (UInt8.ofNat x.toNat)else .v (.int .u8 x)
 |x=>.v x
def opT (K:List (Nat×PV))(rs:List Ent)(t:Nat):Option PV:=match find t rs 0 with
 |some (i,e)=>if e.val.mem=true then(if lV rs 0 0<=i+1 then some e.val else none)else some e.val
 |none=>match look K t with
  |some u=>if u.mem=true then(if lV rs 0 0=0 then some u else none)else some u
  |none=>none
def opd (K:List (Nat×PV))(rs:List Ent):Operand->Option PV
 | .const v=>some (cst v)
 | .tmp t=>opT K rs t
 |_=>none
def xh (ov:Operand->Option PV):List Operand->Option (List PV)
 |[]=>some []
 |x::l=>match ov x,xh ov l with
  |some a,some vs=>some (a::vs)
  |_,_=>none
def strs:List PV->Option (List SB)
 |[]=>some []
 | .s x::l=>match strs l with
   |some r=>some (x::r)
   |none=>none
 |_::_=>none
def Ou:List PV->Option (List UInt8)
 |[]=>some []
 | .u c::l=>match Ou l with
   |some r=>some (c::r)
   |none=>none
 |_::_=>none
structure Res where
 val:PV
 cons:Bool:=false
 uses:Bool:=false
 ob:Option Prop:=none
def bin2 (op:BinOp)(t:TypeId):Value->Value->Option Value
 | .int .i64 a,.int .i64 b=>if t=2\/t=3 then(match op with
   | .quo=>if b=0 then none else some (.int .i64 (IntKind.i64.wrap (a.tdiv b)))
   | .rem=>if b=0 then none else some (.int .i64 (a.tmod b))
   |_=>none)else none
 |_,_=>none
def binP (op:BinOp)(t:TypeId):PV->PV->Option PV
 | .s x,.s y=>if t=9 then(match op with
   | .add=>if x.1+y.1<=4611686018427387904 then some (.s (cat x y))else none
   | .eql=>some (.v (.bool ((st x).toList==(st y).toList)))
   | .neq=>some (.v (.bool (!((st x).toList==(st y).toList))))
   |_=>none)else none
 | .v a,.v b=>match Ev.bin op t a b with
   |some x=>some (.v x)
   |none=>match bin2 op t a b with
    |some x=>some (.v x)
    |none=>none
 |_,_=>none
def nv (M:Mem):PV->PV
 | .r k j=>.v (M.cell k j)
 |u=>u
theorem IE {u:PV}{y:Value}{w:World}(h:Den M u y w):Den M (nv M u) y w:=by
 cases u with
 |r k j=>exact h
 |_=>exact h
def QK (parts:Array (Nat×Operand)):List Nat:=parts.toList.map (·.1)
def act0 (M:Mem)(ov:Operand->Option PV)(o:Oper):Option Res:=match o.op with
 | .move x=>match ov x with
   |some u=>some {val:=u,uses:=u.mem}
   |none=>none
 | .assign x=>match ov x with
   |some u=>some {val:=u,uses:=u.mem}
   |none=>none
 | .fieldAddr t x f=>match ov x with
   |some (.p k j)=>match M.offs t f with
    |some d=>some {val:=.p k (j+d)}
    |none=>none
   |_=>none
 | .load t x=>match ov x with
   |some (.p k j)=>match M.load t k j with
    |some u=>if u.mem=true then none else some {val:=u}
    |none=>none
   |some (.pe s)=>if t=9 then some {val:=.s s,uses:=true}else none
   |_=>none
 | .binOp op t x y _=>match ov x,ov y with
   |some a,some b=>match binP op t (nv M a) (nv M b)with
    |some u=>if u.mem=true then none else some {val:=u}
    |none=>none
   |_,_=>none
 | .unOp .not _ x=>match (ov x).map (nv M)with
   |some (.v (.bool b))=>some {val:=.v (.bool (!b))}
   |_=>none
 | .convert a b x=>match (ov x).map (nv M)with
   |some (.v (.int .i64 n))=>if (a=2\/a=3)/\b=5 then some {val:=.u (UInt8.ofNat (n%256).toNat)}else none
   |some (.by_ (c::l))=>if a=135/\b=9 then some {val:=.s (l.length+1,⟨(c::l).toArray⟩),uses:=true}else none
   |_=>none
 | .pick c x y=>match (ov c).map (nv M)with
   |some (.v (.bool true))=>match ov x with
    |some u=>if u.mem=true then none else some {val:=u}
    |none=>none
   |some (.v (.bool false))=>match ov y with
    |some u=>if u.mem=true then none else some {val:=u}
    |none=>none
   |_=>none
 | .buildSlice t n parts=>if QK parts=List.range n/\0<n/\n<=12 then(match xh ov (parts.toList.map (·.2))with
   |some us=>if t=64 then(match strs us with
    |some l=>some {val:=.sl l}
    |none=>none)else if t=135/\n<=2 then(match Ou us with
    |some l=>some {val:=.by_ l}
    |none=>none)else none
   |none=>none)else none
 | .indexAddr t x y=>match ov x,(ov y).map (nv M)with
   |some (.sl l),some (.v (.int .i64 k))=>if t=64/\0<=k then(match l[k.toNat]? with
    |some s=>some {val:=.pe s,uses:=true}
    |none=>none)else none
   |_,_=>none
 | .call ⟨.value (.func f),args,_⟩=>match xh ov args.toList with
   |some us=>match M.call f us with
    |some (u,c,b)=>some {val:=u,cons:=c,uses:=us.any PV.mem,ob:=b}
    |none=>none
   |none=>none
 | .call ⟨.builtin .append,args,ts⟩=>match args.toList with
   |[x,y]=>match ov x,ov y with
    |some (.sl l),some (.sl m)=>if ts=#[64,64]/\o.type=64/\l.length+m.length<=1000000 then some {val:=.sl (l++m),cons:=true,uses:=true}else none
    |some (.by_ l),some (.by_ m)=>if ts=#[135,135]/\o.type=135/\l.length+m.length<=1000000 then some {val:=.by_ (l++m),cons:=true,uses:=true}else none
    |_,_=>none
   |_=>none
 | .call ⟨.builtin .len,args,ts⟩=>match args.toList with
   |[x]=>match ov x with
    |some (.s x)=>if ts=#[9]/\o.type=3 then some {val:=.v (.int .i64 ((st x).size:Int))}else none
    |some (.sl l)=>if ts=#[64]then some {val:=.v (.int .i64 (l.length:Int)),uses:=true}else none
    |_=>none
   |_=>none
 |_=>none
def told (M:Mem)(o:Oper)(r:Res):Res:=match r.val,r.ob,o.dst with
 | .v (.bool p),none,some t=>match M.tst t with
   |some b=>{r with val:=.v (.bool b),ob:=some (p=b)}
   |none=>r
 |_,_,_=>r
def act (M:Mem)(ov:Operand->Option PV)(o:Oper):Option Res:=match act0 M ov o with
 |some r=>some (told M o r)
 |none=>match M.oth o ov with
  |some u=>if u.mem=true then none else some {val:=u}
  |none=>none
theorem PI {op:BinOp}{t:TypeId}{a b v:Value}(h:bin2 op t a b=some v)(x y:Operand)(w:World):(do eqGuard op t x y a b;binOp op t a b:Sem Value).run Tryz.prog w=.ok v w:=by
 unfold bin2 at h
 split at h
 ·split at h
  ·rename_i ht
   split at h
   ·split at h
    ·cases h
    ·rename_i hb;cases h;rcases ht with rfl|rfl<;>go_simp
   ·split at h
    ·cases h
    ·rename_i hb;cases h;rcases ht with rfl|rfl<;>go_simp
   ·cases h
  ·cases h
 ·cases h
theorem ky {ov:Operand->Option PV}{ρ:Operand->Value}{w:World}(hov:∀x u,ov x=some u->Den M u (ρ x) w):∀{l:List Operand} {us:List PV},xh ov l=some us->jb M us (l.map ρ) w
 |[],us,h=>by cases h;exact trivial
 |x::l,us,h=>by
  unfold xh at h
  split at h
  ·rename_i a vs h1 h2
   cases h
   exact⟨hov _ _ h1,ky hov h2⟩
  ·cases h
theorem Gw {w:World}:∀{us:List PV} {l:List SB} {ys:List Value},strs us=some l->jb M us ys w->ys=(l.map st).map .string
 |[],l,ys,h,hd=>by
  cases h
  cases ys with
  |nil=>rfl
  |cons y ys=>exact hd.elim
 | .s x::us,l,ys,h,hd=>by
   unfold strs at h
   split at h
   ·rename_i r hr
    cases h
    cases ys with
    |nil=>exact hd.elim
    |cons y ys=>
     obtain⟨h1,h2⟩:=hd
     have h1:y=.string (st x):=h1
     rw[h1,Gw hr h2]
     rfl
   ·cases h
 | .v _::us,l,ys,h,hd=>by cases h
 | .sl _::us,l,ys,h,hd=>by cases h
 | .pe _::us,l,ys,h,hd=>by cases h
 | .p _ _::us,l,ys,h,hd=>by cases h
 | .by_ _::us,l,ys,h,hd=>by cases h
 | .u _::us,l,ys,h,hd=>by cases h
 | .a _ _ _::us,l,ys,h,hd=>by cases h
 | .r _ _::us,l,ys,h,hd=>by cases h
theorem Hr {w:World}:∀{us:List PV} {l:List UInt8} {ys:List Value},Ou us=some l->jb M us ys w->ys=l.map λc=>.int .u8 (c.toNat:Int)
 |[],l,ys,h,hd=>by
  cases h
  cases ys with
  |nil=>rfl
  |cons y ys=>exact hd.elim
 | .u x::us,l,ys,h,hd=>by
   unfold Ou at h
   split at h
   ·rename_i r hr
    cases h
    cases ys with
    |nil=>exact hd.elim
    |cons y ys=>
     obtain⟨h1,h2⟩:=hd
     have h1:y=.int .u8 (x.toNat:Int):=h1
     rw[h1,Hr hr h2]
     rfl
   ·cases h
 | .v _::us,l,ys,h,hd=>by cases h
 | .sl _::us,l,ys,h,hd=>by cases h
 | .pe _::us,l,ys,h,hd=>by cases h
 | .p _ _::us,l,ys,h,hd=>by cases h
 | .by_ _::us,l,ys,h,hd=>by cases h
 | .s _::us,l,ys,h,hd=>by cases h
 | .a _ _ _::us,l,ys,h,hd=>by cases h
 | .r _ _::us,l,ys,h,hd=>by cases h
theorem parts_eq {parts:Array (Nat×Operand)}{n:Nat}{ρ:Operand->Value}{xs:List Value}(h1:QK parts=List.range n)(h2:(parts.toList.map (·.2)).map ρ=xs):(parts.map λ(i,x)=>(i,ρ x))=((List.range n).zip xs).toArray:=by
 apply Array.toList_inj.1
 rw[Array.toList_map,<-h1,<-h2]
 unfold QK
 generalize parts.toList=l
 induction l with
 |nil=>rfl
 |cons p l ih=>simp only[List.map_cons,List.zip_cons_cons,ih]
theorem bs_str (l:List ByteArray)(h0:0<l.length)(h12:l.length<=12)(w:World):(Instr.buildSlice 64 l.length ((List.range l.length).zip (l.map Value.string)).toArray).run Tryz.prog w=.ok (.slice (some ⟨w.heap.size,0,none⟩) l.length l.length) (w.alloc (.cells (l.map Value.string).toArray 9)):=by
 rcases l with _|⟨a1,_|⟨a2,_|⟨a3,_|⟨a4,_|⟨a5,_|⟨a6,_|⟨a7,_|⟨a8,_|⟨a9,_|⟨a10,_|⟨a11,_|⟨a12,_|⟨a13,l⟩⟩⟩⟩⟩⟩⟩⟩⟩⟩⟩⟩⟩
 ·simp at h0
 all_goals first
  |(simp only[List.length_cons]at h12;omega)
  |(show(Instr.buildSlice 64 _ (Array.mk _)).run Tryz.prog w=_
    simp only[List.length_cons,List.length_nil,List.range,List.range.loop,List.map_cons,List.map_nil,List.zip_cons_cons,List.zip_nil_right,Nat.zero_add]
    go_simp
    try rfl)
theorem bs_byt (l:List UInt8)(h0:0<l.length)(h2:l.length<=2)(w:World):(Instr.buildSlice 135 l.length ((List.range l.length).zip (l.map λc=>Value.int .u8 (c.toNat:Int))).toArray).run Tryz.prog w=.ok (.slice (some ⟨w.heap.size,0,none⟩) l.length l.length) (w.alloc (.cells (l.map λc=>Value.int .u8 (c.toNat:Int)).toArray 5)):=by
 rcases l with _|⟨a1,_|⟨a2,_|⟨a3,l⟩⟩⟩
 ·simp at h0
 all_goals first
  |(simp only[List.length_cons]at h2;omega)
  |(show(Instr.buildSlice 135 _ (Array.mk _)).run Tryz.prog w=_
    simp only[List.length_cons,List.length_nil,List.range,List.range.loop,List.map_cons,List.map_nil,List.zip_cons_cons,List.zip_nil_right,Nat.zero_add]
    go_simp
    try rfl)
theorem Ob:(Tryz.prog.info? 9).map (λi=>(i.zero,i.size,i.bytes))=some (some (.string ⟨#[]⟩),1,16):=by kernel_rfl
theorem QG:(Tryz.prog.info? 5).map (λi=>(i.zero,i.size,i.bytes))=some (some (.int .u8 0),1,1):=by kernel_rfl
theorem Gy (hM:Wf M){w:World}(hS:Sw M w)(t:TypeId)(xs:List Value)(hx:xs.length<=1000):(w.alloc (.cells xs.toArray t)).ownsRow M.B t 1 (.slice (some ⟨w.heap.size,0,none⟩) xs.length xs.length) xs.length xs/\∀g,(Value.slice (some ⟨w.heap.size,0,none⟩) xs.length xs.length).ownBlock=some g->g∉M.fix:=by
 refine⟨⟨by omega,.inr ⟨w.heap.size,xs.length,xs.toArray,rfl,by have:=hM.B;have:=hS.size;omega,World.alloc_heap_new w _,Nat.le_refl _,by unfold maxLen;omega,by simp,by simp⟩⟩,λg hg hf=>?_⟩
 have e:w.heap.size=g:=by simpa[Value.ownBlock]using hg
 have:=hM.fix g hf
 have:=hS.size
 omega
theorem Hf (hM:Wf M){w:World}(hS:Sw M w)(t e:TypeId)(i:TypeInfo)(z:Value)(bytes:Nat)(ht:Tryz.prog.underlying t=some (.slice e))(hi:Tryz.prog.info? e=some i)(hz:i.zero=some z)(hsize:i.size=1)(hby:i.bytes=bytes)(hzs:z.cells.size=1)(hb16:bytes<=16)
 {v u:Value} {xs ys:List Value} (h1:w.ownsRow M.B e 1 v xs.length xs) (f1:∀g,v.ownBlock=some g->g∉M.fix) (h2:w.ownsRow M.B e 1 u ys.length ys) (ho:∀x∈ys,x.oneCell'=true) (hn:xs.length+ys.length<=1000000):
 ∃v' w',(Builtin.append_ #[t,t] t #[v,u]).run Tryz.prog w=.ok v' w'/\w'.ownsRow M.B e 1 v' (xs++ys).length (xs++ys)/\(∀g,v'.ownBlock=some g->g∉M.fix)/\Sw M w':=by
 obtain⟨a2,c,hu⟩:=fF h2
 have hB:M.B<=w.heap.size:=Nat.le_trans hM.B hS.size
 obtain⟨v',w',hr,hown,hg,hat⟩:=oh (w:=w) t t e i z 1 bytes ht hi hz hsize hby hzs (by decide) M.B v xs.length xs h1 a2 ys.length c ys (by omega) (λad had j x hj=>by
  have h0:0<ys.length:=by have:=(List.getElem?_eq_some_iff.1 hj).1;omega
  obtain⟨sb,cap,hv,_,hcell⟩:=jK h2 h0
  rw[hu,had]at hv
  have e1:ad=⟨sb,0,none⟩:=by injection hv with h;injection h
  rw[e1,show(⟨sb,0,none⟩:Addr).add j=⟨sb,j,none⟩from by unfold Addr.add;split<;>simp_all]
  exact hcell j x hj) (λha=>by
  rcases Nat.eq_zero_or_pos ys.length with h0|h0
  ·exact h0
  ·obtain⟨sb,cap,hv,_⟩:=jK h2 h0
   rw[hu,ha]at hv
   injection hv with h;cases h) ho (by unfold maxLen;omega) (by
  have:(xs.length+ys.length)*bytes<=1000000*16:=Nat.mul_le_mul hn hb16
  omega) hB
 refine⟨v',w',by rw[hu];exact hr,by rw[List.length_append];exact hown,λg hg2 hf=>?_,?_⟩
 ·rcases hat with h|h
  ·exact f1 g (by rw[<-h];exact hg2) hf
  ·rw[h]at hg2
   cases hg2
   have:=hM.fix _ hf
   have:=hS.size
   omega
 ·have hlow:∀g,v.ownBlock=some g->M.B<=g:=λg hg2=>by
   rcases h1.2 with⟨hv,_⟩|⟨g',cap,cur,hv,hb,_⟩
   ·rw[hv]at hg2;cases hg2
   ·rw[hv]at hg2
    have:g'=g:=by simpa[Value.ownBlock]using hg2
    omega
  refine hS.turn ⟨hg.os,hg.tape,hg.output,hg.size,λg hgB=>hg.block g (by omega) λe=>?_⟩ λg hgf=>hg.block g (by have:=hM.fix g hgf;have:=hS.size;omega) λe=>f1 g e.symm hgf
  have:=hlow g e.symm
  omega
theorem QH {l:List ByteArray}:∀x∈l.map Value.string,x.oneCell'=true:=λx hx=>by
 obtain⟨b,_,rfl⟩:=List.mem_map.1 hx
 rfl
theorem QX {l:List UInt8}:∀x∈l.map (λc=>Value.int .u8 (c.toNat:Int)),x.oneCell'=true:=λx hx=>by
 obtain⟨b,_,rfl⟩:=List.mem_map.1 hx
 rfl
theorem cat_ok (x y:SB)(h:x.1+y.1<=4611686018427387904)(p q:Operand)(w:World):(do eqGuard .add 9 p q (.string (st x)) (.string (st y));binOp .add 9 (.string (st x)) (.string (st y)):Sem Value).run Tryz.prog w=.ok (.string (st (cat x y))) w:=by
 have h1:=uj x
 have h2:=uj y
 rw[bB]
 have h3:¬9223372036854775807<(st x).size+(st y).size:=by omega
 generalize st x=a at h3⊢
 generalize st y=b at h3⊢
 clear h1 h2 h
 go_simp
 try rfl
theorem PS (b:ByteArray)(w:World):(Builtin.len_ #[9] 3 #[.string b]).run Tryz.prog w=.ok (.int .i64 (b.size:Int)) w:=by
 go_simp
 try rfl
variable {M : Mem}
theorem idx_ok {ρ:Operand->Value}{o:Oper}{x y:Operand}{sb n c k:Nat}(ho:o.op=.indexAddr 64 x y)(h1:ρ x=.slice (some ⟨sb,0,none⟩) n c)(h2:ρ y=.int .i64 (k:Int))(hk:k<n)(w:World):(execOp ρ o).run Tryz.prog w=.ok (.value (.pointer (some ⟨sb,k,none⟩))) w:=by
 have PT:(k:Int)<(n:Int):=by omega
 unfold execOp
 simp only[ho,h1,h2]
 go_simp
 try rfl
theorem O8 (hO:Ok Tryz.prog M){ov:Operand->Option PV}{ρ:Operand->Value}{w:World}(hfu:∀f,ρ (.func f)=.func (.func f) #[] #[])(hov:∀x u,ov x=some u->Den M u (ρ x) w)(hS:Sw M w){o:Oper}{r:Res}(h:act0 M ov o=some r)(Dz:∀p,r.ob=some p->p):
 mf Tryz.prog (λv w'=>Den M r.val v w'/\Sw M w'/\(r.cons=false->Below w.heap.size w w')) ((execOp ρ o).run Tryz.prog w):=by
 have hb0:Below w.heap.size w w:=Below.refl _ _
 have hon:∀x u,(ov x).map (nv M)=some u->Den M u (ρ x) w:=λx u h=>by
  obtain⟨u',h1,rfl⟩:=Option.map_eq_some_iff.1 h
  exact IE (hov _ _ h1)
 unfold act0 at h
 split at h
 ·rename_i x ho
  split at h
  ·rename_i u hx
   cases h
   unfold execOp;simp only[ho];exact⟨hov _ _ hx,hS,λ_=>hb0⟩
  ·cases h
 ·rename_i x ho
  split at h
  ·rename_i u hx
   cases h
   unfold execOp;simp only[ho];exact⟨hov _ _ hx,hS,λ_=>hb0⟩
  ·cases h
 ·rename_i t x f ho
  split at h
  ·rename_i k j hx
   split at h
   ·rename_i d hd
    cases h
    have hx2:ρ x=M.ptr k j:=hov _ _ hx
    unfold execOp
    simp only[ho,hx2,Mem.ptr,Sem.run_bind,hO.offs t f d hd,Result.andThen_ok]
    refine⟨?_,hS,λ_=>hb0⟩
    show _=M.ptr k (j+d)
    unfold Mem.ptr
    rw[Nat.add_assoc]
   ·cases h
  ·cases h
 ·rename_i t x ho
  split at h
  ·rename_i k j hx
   split at h
   ·rename_i u hu
    split at h
    ·cases h
    ·cases h
     have hx2:ρ x=M.ptr k j:=hov _ _ hx
     obtain⟨v,hv,hd⟩:=hO.load t k j u hu w hS
     unfold execOp
     simp only[ho,hx2,Sem.run_bind,hv,Result.andThen_ok]
     exact⟨hd,hS,λ_=>hb0⟩
   ·cases h
  ·rename_i s hx
   split at h
   ·rename_i ht
    cases h
    subst ht
    obtain⟨g,j,e1,e2⟩:=hov _ _ hx
    have:=Ev.BF (t:=9) rfl ⟨g,j,none⟩ w _ e2
    unfold execOp
    simp only[ho,e1,Sem.run_bind,this,Result.andThen_ok]
    exact⟨rfl,hS,λ_=>hb0⟩
   ·cases h
  ·cases h
 ·rename_i op t x y t2 ho
  split at h
  ·rename_i a b hx hy
   split at h
   ·rename_i u hu
    split at h
    ·cases h
    ·cases h
     have hx2:=IE (hov _ _ hx)
     have hy2:=IE (hov _ _ hy)
     unfold execOp
     simp only[ho]
     generalize nv M a=na at hu hx2
     generalize nv M b=nb at hu hy2
     unfold binP at hu
     split at hu
     ·rename_i sx sy
      have hx3:ρ x=.string (st sx):=hx2
      have hy3:ρ y=.string (st sy):=hy2
      simp only[hx3,hy3]
      split at hu
      ·rename_i ht
       subst ht
       split at hu
       ·split at hu
        ·rename_i hle
         cases hu
         rw[Sem.run_bind,cat_ok sx sy hle]
         exact⟨rfl,hS,λ_=>hb0⟩
        ·cases hu
       ·cases hu
        have:=Ev.zy (op:=.eql) (t:=9) (a:=.string (st sx)) (b:=.string (st sy)) (v:=.bool ((st sx).toList==(st sy).toList)) rfl x y w
        rw[Sem.run_bind,this]
        exact⟨rfl,hS,λ_=>hb0⟩
       ·cases hu
        have:=Ev.zy (op:=.neq) (t:=9) (a:=.string (st sx)) (b:=.string (st sy)) (v:=.bool (!((st sx).toList==(st sy).toList))) rfl x y w
        rw[Sem.run_bind,this]
        exact⟨rfl,hS,λ_=>hb0⟩
       ·cases hu
      ·cases hu
     ·rename_i va vb
      have hx3:ρ x=va:=hx2
      have hy3:ρ y=vb:=hy2
      simp only[hx3,hy3]
      split at hu
      ·rename_i v hv
       cases hu
       rw[Sem.run_bind,Ev.zy hv]
       exact⟨rfl,hS,λ_=>hb0⟩
      ·split at hu
       ·rename_i v hv
        cases hu
        rw[Sem.run_bind,PI hv]
        exact⟨rfl,hS,λ_=>hb0⟩
       ·cases hu
     ·cases hu
   ·cases h
  ·cases h
 ·rename_i t x ho
  split at h
  ·rename_i b hx
   cases h
   have hx2:ρ x=.bool b:=hon _ _ hx
   unfold execOp;simp only[ho,hx2];exact⟨rfl,hS,λ_=>hb0⟩
  ·cases h
 ·rename_i a b x ho
  split at h
  ·rename_i n hx
   split at h
   ·rename_i hc
    cases h
    obtain⟨ha,rfl⟩:=hc
    have hx2:ρ x=.int .i64 n:=hon _ _ hx
    have e:IntKind.u8.wrap n=((UInt8.ofNat (n%256).toNat).toNat:Int):=by
     have h1:IntKind.u8.wrap n=n%256:=rfl
     rw[h1,UInt8.toNat_ofNat']
     omega
    unfold execOp
    simp only[ho,hx2]
    have:(convert a 5 (.int .i64 n)).run Tryz.prog w=.ok (.int .u8 (IntKind.u8.wrap n)) w:=by
     rcases ha with rfl|rfl<;>(go_simp;try rfl)
    rw[Sem.run_bind,this,e]
    exact⟨rfl,hS,λ_=>hb0⟩
   ·cases h
  ·rename_i c l hx
   split at h
   ·rename_i hc
    cases h
    obtain⟨rfl,rfl⟩:=hc
    obtain⟨h1,_⟩:=hon _ _ hx
    obtain⟨sb,cap,hv,_,hcell⟩:=jK h1 (by simp)
    have:(convert 135 9 (.slice (some ⟨sb,0,none⟩) (c::l).length cap)).run Tryz.prog w=.ok (.string ⟨(c::l).toArray⟩) w:=by
     refine run_convert_bytes_back _ _ _ _ ⟨sb,0,none⟩ cap (c::l) Tryz.underlying135 Tryz.underlying5 Tryz.underlying9 (λj hj=>?_)
     rw[show(⟨sb,0,none⟩:Addr).add j=⟨sb,j,none⟩from by unfold Addr.add;split<;>simp_all]
     refine hcell j _ ?_
     rw[List.getElem?_map,List.getElem?_eq_getElem hj]
     rfl
    unfold execOp
    simp only[ho,hv]
    rw[Sem.run_bind,this]
    refine⟨?_,hS,λ_=>hb0⟩
    show Value.string _=.string (st (l.length+1,⟨(c::l).toArray⟩))
    rw[show st (l.length+1,⟨(c::l).toArray⟩)=⟨(c::l).toArray⟩from bF (Nat.le_refl _)]
   ·cases h
  ·cases h
 ·rename_i c x y ho
  split at h
  ·rename_i hc
   split at h
   ·rename_i u hu
    split at h
    ·cases h
    ·cases h
     have hc2:ρ c=.bool true:=hon _ _ hc
     unfold execOp;simp only[ho,hc2];exact⟨hov _ _ hu,hS,λ_=>hb0⟩
   ·cases h
  ·rename_i hc
   split at h
   ·rename_i u hu
    split at h
    ·cases h
    ·cases h
     have hc2:ρ c=.bool false:=hon _ _ hc
     unfold execOp;simp only[ho,hc2];exact⟨hov _ _ hu,hS,λ_=>hb0⟩
   ·cases h
  ·cases h
 ·rename_i t n parts ho
  split at h
  ·rename_i hi
   obtain⟨hi,hn0,hn12⟩:=hi
   split at h
   ·rename_i us OT
    have hd:=ky hov OT
    have hlen:parts.toList.length=n:=by
     have:=congrArg List.length hi
     unfold QK at this
     simpa using this
    split at h
    ·rename_i ht
     subst ht
     split at h
     ·rename_i l hl
      cases h
      have hys:=Gw hl hd
      have hll:l.length=n:=by
       have:=congrArg List.length hys
       simp only[List.length_map]at this
       omega
      have e:=parts_eq hi hys
      have hb:=bs_str (l.map st) (by simpa using(by omega:0<l.length)) (by simpa using(by omega:l.length<=12)) w
      rw[List.length_map,hll]at hb
      unfold execOp
      simp only[ho,e,Sem.run_bind,hb,Result.andThen_ok]
      have hown:=Gy hO.wf hS 9 ((l.map st).map Value.string) (by simp;omega)
      simp only[List.length_map,hll]at hown
      have oq:Below w.heap.size w (w.alloc (.cells ((l.map st).map Value.string).toArray 9)):=hb0.alloc (Nat.le_refl _) _
      refine⟨?_,hS.below hO.wf oq,λ_=>oq⟩
      show Lf M _ (l.map st) _
      unfold Lf
      rw[List.length_map,hll]
      exact hown
     ·cases h
    ·split at h
     ·rename_i ht
      obtain⟨rfl,hn2⟩:=ht
      split at h
      ·rename_i l hl
       cases h
       have hys:=Hr hl hd
       have hll:l.length=n:=by
        have:=congrArg List.length hys
        simp only[List.length_map]at this
        omega
       have e:=parts_eq hi hys
       have hb:=bs_byt l (by omega) (by omega) w
       rw[hll]at hb
       unfold execOp
       simp only[ho,e,Sem.run_bind,hb,Result.andThen_ok]
       have hown:=Gy hO.wf hS 5 (l.map λc=>Value.int .u8 (c.toNat:Int)) (by simp;omega)
       simp only[List.length_map,hll]at hown
       have oq:Below w.heap.size w (w.alloc (.cells (l.map λc=>Value.int .u8 (c.toNat:Int)).toArray 5)):=hb0.alloc (Nat.le_refl _) _
       refine⟨?_,hS.below hO.wf oq,λ_=>oq⟩
       show MS M _ l _
       unfold MS
       rw[hll]
       exact hown
      ·cases h
     ·cases h
   ·cases h
  ·cases h
 ·rename_i t x y ho
  split at h
  ·rename_i l k hx hy
   split at h
   ·rename_i ht
    obtain⟨rfl,hk⟩:=ht
    split at h
    ·rename_i s hs
     cases h
     obtain⟨h1,_⟩:=hov _ _ hx
     have hy2:ρ y=.int .i64 k:=hon _ _ hy
     have hkl:k.toNat<l.length:=(List.getElem?_eq_some_iff.1 hs).1
     obtain⟨sb,cap,hv,_,hcell⟩:=jK h1 (by simp;omega)
     rw[List.length_map]at hv
     have PT:k<(l.length:Int):=by omega
     rw[idx_ok (k:=k.toNat) ho hv (by rw[hy2];congr 1;omega) hkl w]
     refine⟨⟨sb,k.toNat,rfl,hcell _ _ ?_⟩,hS,λ_=>hb0⟩
     rw[List.getElem?_map,List.getElem?_map,hs]
     rfl
    ·cases h
   ·cases h
  ·cases h
 ·rename_i f args ts ho
  split at h
  ·rename_i us OT
   split at h
   ·rename_i u c b hc
    cases h
    obtain⟨h1,h2⟩:=hO.call _ _ _ _ _ hc Dz
    have hd:=ky hov OT
    have hargs:args.map ρ=(args.toList.map ρ).toArray:=by
     apply Array.toList_inj.1
     simp
    have hf:ρ (.func f)=.func (.func f) #[] #[]:=hfu f
    unfold execOp
    simp[ho,resolve,invoke,hf,hargs,Deferred.ofValue,h1]
    refine(h2 _ w hS hd).mono ?_
    rintro e w' ⟨v,rfl,q1,q2,q3⟩
    exact⟨v,rfl,q1,q2,q3⟩
   ·cases h
  ·cases h
 ·rename_i args ts ho
  split at h
  ·rename_i x y hxy
   have hargs:args=#[x,y]:=Array.toList_inj.1 hxy
   subst hargs
   split at h
   ·rename_i l m hx hy
    split at h
    ·rename_i hc
     obtain⟨rfl,hty,hn⟩:=hc
     cases h
     obtain⟨h1,f1⟩:=hov _ _ hx
     obtain⟨h2,f2⟩:=hov _ _ hy
     obtain⟨i0,hii,hz0,hz1,hz2⟩:=info_parts Ob
     obtain⟨v',w',hr,hown,hf,hS'⟩:=Hf hO.wf hS 64 9 i0 (.string ⟨#[]⟩) 16 Tryz.underlying64 hii hz0 hz1 hz2 rfl (by decide) (v:=ρ x) (u:=ρ y) (xs:=(l.map st).map .string) (ys:=(m.map st).map .string) (by simpa using h1) f1 (by simpa using h2) QH (by simpa using hn)
     unfold execOp
     simp only[ho,hty,resolve,invoke,builtin,Sem.run_bind,Sem.run_pure,Result.andThen_ok,List.map_toArray,List.map_cons,List.map_nil,hr]
     refine⟨?_,hS',λhc=>by cases hc⟩
     show Lf M v' ((l++m).map st) w'
     unfold Lf
     rw[List.map_append,List.map_append,List.length_append]
     refine⟨?_,hf⟩
     simpa using hown
    ·cases h
   ·rename_i l m hx hy
    split at h
    ·rename_i hc
     obtain⟨rfl,hty,hn⟩:=hc
     cases h
     obtain⟨h1,f1⟩:=hov _ _ hx
     obtain⟨h2,f2⟩:=hov _ _ hy
     obtain⟨i0,hii,hz0,hz1,hz2⟩:=info_parts QG
     obtain⟨v',w',hr,hown,hf,hS'⟩:=Hf hO.wf hS 135 5 i0 (.int .u8 0) 1 Tryz.underlying135 hii hz0 hz1 hz2 rfl (by decide) (v:=ρ x) (u:=ρ y) (xs:=l.map λc=>.int .u8 (c.toNat:Int)) (ys:=m.map λc=>.int .u8 (c.toNat:Int)) (by simpa using h1) f1 (by simpa using h2) QX (by simpa using hn)
     unfold execOp
     simp only[ho,hty,resolve,invoke,builtin,Sem.run_bind,Sem.run_pure,Result.andThen_ok,List.map_toArray,List.map_cons,List.map_nil,hr]
     refine⟨?_,hS',λhc=>by cases hc⟩
     show MS M v' (l++m) w'
     unfold MS
     rw[List.map_append,List.length_append]
     refine⟨?_,hf⟩
     simpa using hown
    ·cases h
   ·cases h
  ·cases h
 ·rename_i args ts ho
  split at h
  ·rename_i x hxy
   have hargs:args=#[x]:=Array.toList_inj.1 hxy
   subst hargs
   split at h
   ·rename_i b hx
    split at h
    ·rename_i hc
     obtain⟨rfl,hty⟩:=hc
     cases h
     have h1:ρ x=.string (st b):=hov _ _ hx
     have hl:=PS (st b) w
     unfold execOp
     simp only[ho,hty,resolve,invoke,builtin,Sem.run_bind,Sem.run_pure,Result.andThen_ok,List.map_toArray,List.map_cons,List.map_nil,h1,hl]
     exact⟨rfl,hS,λ_=>hb0⟩
    ·cases h
   ·rename_i l hx
    split at h
    ·rename_i hc
     subst hc
     cases h
     obtain⟨h1,f1⟩:=hov _ _ hx
     obtain⟨a2,c,hv⟩:=fF h1
     rw[List.length_map]at hv
     have hl:∀ty:TypeId,(Builtin.len_ #[64] ty #[.slice a2 l.length c]).run Tryz.prog w=.ok (.int .i64 (l.length:Int)) w:=λty=>by
      go_simp
      try rfl
     unfold execOp
     simp only[ho,resolve,invoke,builtin,Sem.run_bind,Sem.run_pure,Result.andThen_ok,List.map_toArray,List.map_cons,List.map_nil,hv,hl]
     exact⟨rfl,hS,λ_=>hb0⟩
    ·cases h
   ·cases h
  ·cases h
 ·cases h
theorem Fe (hO:Ok Tryz.prog M){ov:Operand->Option PV}{ρ:Operand->Value}{w:World}(hfu:∀f,ρ (.func f)=.func (.func f) #[] #[])(hov:∀x u,ov x=some u->Den M u (ρ x) w)(hS:Sw M w){o:Oper}{r:Res}(h:act M ov o=some r)(Dz:∀p,r.ob=some p->p):
 mf Tryz.prog (λv w'=>Den M r.val v w'/\Sw M w'/\(r.cons=false->Below w.heap.size w w')) ((execOp ρ o).run Tryz.prog w):=by
 unfold act at h
 split at h
 ·rename_i r' hr
  cases h
  have key:(∀p,r'.ob=some p->p)->_:=λh=>O8 hO hfu hov hS hr h
  obtain⟨v0,c0,u0,b0⟩:=r'
  by_cases hc:∃p t b,v0=.v (.bool p)/\b0=none/\o.dst=some t/\M.tst t=some b
  ·obtain⟨p,t,b,rfl,rfl,e3,e4⟩:=hc
   have et:told M o ⟨.v (.bool p),c0,u0,none⟩=⟨.v (.bool b),c0,u0,some (p=b)⟩:=by
    unfold told
    simp only[e3,e4]
   rw[et]at Dz⊢
   obtain rfl:p=b:=Dz _ rfl
   exact key λq hq=>by cases hq
  ·have et:told M o ⟨v0,c0,u0,b0⟩=⟨v0,c0,u0,b0⟩:=by
    unfold told
    split
    ·rename_i p t e1 e2 e3
     split
     ·rename_i b e4
      exact absurd ⟨p,t,b,e1,e2,e3,e4⟩ hc
     ·rfl
    ·rfl
   rw[et]at Dz⊢
   exact key Dz
 split at h
 ·rename_i u hu
  split at h
  ·cases h
  ·cases h
   obtain⟨v,h1,h2⟩:=hO.oth o ov u hu ρ w hfu hS hov
   rw[h1]
   exact⟨h2,hS,λ_=>Below.refl _ _⟩
 ·cases h
variable {M : Mem}
def looks (ops:Array Oper)(o:Oper):Operand->Bool
 | .tmp t=>(o.looksAt ops).contains t
 |_=>true
def ovR (K:List (Nat×PV))(ops:Array Oper)(rs:List Ent)(o:Oper)(x:Operand):Option PV:=if looks ops o x=true then opd K rs x else none
def Gz (K:List (Nat×PV))(ops:Array Oper)(rs:List Ent)(o:Oper):Bool:=(o.looksAt ops).any λt=>match opd K rs (.tmp t)with
 |some u=>u.mem
 |none=>false
def GQ (M:Mem)(K:List (Nat×PV))(ops:Array Oper)(rs:List Ent)(o:Oper):Option Ent:=match act M (ovR K ops rs o) o with
 |some r=>some {dst:=o.dst,val:=r.val,cons:=r.cons,uses:=Gz K ops rs o,ob:=r.ob}
 |none=>none
def ent (M:Mem)(K:List (Nat×PV))(ops:Array Oper)(rs:List Ent)(o:Oper):Option Ent:=match o.guard with
 |none=>GQ M K ops rs o
 |some (j,want)=>match rs[j]? with
  |some e=>match e.dst,e.val with
   |some _,.v (.bool true)=>if want=true then GQ M K ops rs o else some {dst:=o.dst,val:=.v undef,cons:=false,uses:=false,skip:=true}
   |some _,.v (.bool false)=>if want=false then GQ M K ops rs o else some {dst:=o.dst,val:=.v undef,cons:=false,uses:=false,skip:=true}
   |_,_=>none
  |none=>none
def run (M:Mem)(K:List (Nat×PV))(ops:Array Oper):List Ent->List Oper->Option (List Ent)
 |rs,[]=>some rs
 |rs,o::l=>match ent M K ops rs o with
  |some e=>run M K ops (rs++[e]) l
  |none=>none
def sched (ops:Array Oper)(rs:List Ent):Bool:=(List.range rs.length).all λc=>match rs[c]? with
 |some e=>!e.cons||(((List.range c).all λi=>match rs[i]? with
  |some ei=>!ei.uses||(anc ops c).contains i
  |none=>true)&&(List.range rs.length).all λi=>match rs[i]? with
  |some ei=>!(ei.val.mem&&decide (c<i))||(anc ops i).contains c
  |none=>true)
 |none=>true
theorem iG {t:Nat}:∀{l:List Ent} {k i:Nat} {e:Ent},find t l k=some (i,e)->k<=i/\l[i-k]? =some e/\e.dst=some t
 |[],_,_,_,h=>by cases h
 |x::l,k,i,e,h=>by
  unfold find at h
  split at h
  ·rename_i hx
   cases h
   exact⟨Nat.le_refl _,by simp,hx⟩
  ·obtain⟨h1,h2,h3⟩:=iG h
   refine⟨by omega,?_,h3⟩
   rw[show i-k=(i-(k+1))+1 from by omega]
   simpa using h2
theorem zQ {t:Nat}:∀{l:List Ent} {k:Nat},find t l k=none->∀(i:Nat) (e:Ent),l[i]? =some e->e.dst≠some t
 |[],_,_,i,e,hi=>by simp at hi
 |x::l,k,h,i,e,hi=>by
  unfold find at h
  split at h
  ·cases h
  ·rename_i hx
   cases i with
   |zero=>simp at hi;subst hi;exact hx
   |succ i=>exact zQ h i e (by simpa using hi)
theorem mU:∀(l:List Ent) (k a b:Nat),a<=k->lV l k a<=b->a<=b/\∀(c:Nat) (e:Ent),l[c]? =some e->e.cons=true->k+c+1<=b
 |[],k,a,b,_,h=>⟨h,λc e hc=>by simp at hc⟩
 |x::l,k,a,b,hak,h=>by
  unfold lV at h
  obtain⟨h1,h2⟩:=mU l (k+1) _ b (by split<;>omega) h
  refine⟨by split at h1<;>omega,λc e hc lQ=>?_⟩
  cases c with
  |zero=>
   simp at hc
   subst hc
   rw[if_pos lQ]at h1
   omega
  |succ c=>
   have:=h2 c e (by simpa using hc) lQ
   omega
theorem dY {K:List (Nat×PV)}{ops:Array Oper}{l:List Oper}:∀{r0 rs:List Ent},run M K ops r0 l=some rs->∃t,rs=r0++t/\t.length=l.length:=by
 induction l with
 |nil=>intro r0 rs h;cases h;exact⟨[],by simp,rfl⟩
 |cons o l ih=>
  intro r0 rs h
  unfold run at h
  split at h
  ·obtain⟨t,h1,h2⟩:=ih h
   exact⟨_::t,by rw[h1,List.append_assoc];rfl,by simp[h2]⟩
  ·cases h
theorem uw {K:List (Nat×PV)}{ops:Array Oper}{l:List Oper}:∀{r0 rs:List Ent},run M K ops r0 l=some rs->∀(i:Nat) (o:Oper),l[i]? =some o->∃e,rs[r0.length+i]? =some e/\ent M K ops (rs.take (r0.length+i)) o=some e:=by
 induction l with
 |nil=>intro r0 rs h i o hi;simp at hi
 |cons o l ih=>
  intro r0 rs h i o2 hi
  have h0:=h
  unfold run at h
  split at h
  ·rename_i e he
   obtain⟨t,h1,h2⟩:=dY h
   cases i with
   |zero=>
    simp at hi
    subst hi
    refine⟨e,by rw[h1];simp,?_⟩
    rw[h1,Nat.add_zero,List.append_assoc,List.take_left]
    exact he
   |succ i=>
    obtain⟨e2,k1,k2⟩:=ih h i o2 (by simpa using hi)
    rw[List.length_append,List.length_singleton]at k1 k2
    exact⟨e2,by rw[<-k1];congr 1;omega,by rw[<-k2];congr 2;omega⟩
  ·cases h
theorem AB {K:List (Nat×PV)}{ops:Array Oper}{rs:List Ent}{o:Oper}{e:Ent}(h:ent M K ops rs o=some e):e.dst=o.dst:=by
 unfold ent at h
 have hA:∀e,GQ M K ops rs o=some e->e.dst=o.dst:=λe h=>by
  unfold GQ at h
  split at h
  ·cases h;rfl
  ·cases h
 repeat' split at h
 all_goals first|exact hA _ h|(cases h;rfl)|cases h
theorem jw:∀{K:List (Nat×PV)} {t:Nat} {u:PV},look K t=some u->(t,u)∈K
 |[],_,_,h=>by cases h
 |(s,v)::K,t,u,h=>by
  unfold look at h
  split at h
  ·rename_i hs;subst hs;cases h;exact List.mem_cons_self ..
  ·exact List.mem_cons_of_mem _ (jw h)
def alive (rs:List Ent)(i:Nat)(dn:Nat->Bool):Prop:=∀(c:Nat) (e:Ent),rs[c]? =some e->e.cons=true->i<c->dn c=false
def Nl (rs:List Ent)(dn:Nat->Bool):Prop:=∀(c:Nat) (e:Ent),rs[c]? =some e->e.cons=true->dn c=false
structure Ey (M:Mem)(K:List (Nat×PV))(ops:Array Oper)(rs:List Ent)(a0:Act)(dn:Nat->Bool)(a:Act)(w:World):Prop where
 size:a.tmps.size=a0.tmps.size
 defers:a.defers=a0.defers
 sw:Sw M w
 rest:∀t:Nat,(∀(j:Nat) (oj:Oper),ops[j]? =some oj->dn j=true->oj.dst≠some t)->a.tmps[t]? =a0.tmps[t]?
 done:∀(j:Nat) (e:Ent) (d:Nat),rs[j]? =some e->dn j=true->e.dst=some d->(e.val.mem=true->alive rs j dn)->∃v,a.tmps[d]? =some v/\Den M e.val v w
 knownM:∀t u,(t,u)∈K->(u.mem=true->Nl rs dn)->∃v,a0.tmps[t]? =some v/\Den M u v w
def okR (n:Nat)(ops:Array Oper):Bool:=cO ops&&ops.toList.all λ(o:Oper)=>match o.dst with
 |some d=>decide (d<n)
 |none=>true
theorem cst_ok (v:Value)(w:World)(M:Mem):Den M (cst v) v w:=by
 unfold cst
 split
 ·rename_i b
  show Value.string b=.string (st (b.size,b))
  rw[il]
 ·exact⟨World.ownsRow_nil _ _ _ _,λg hg=>by cases hg⟩
 ·rename_i x
  split
  ·rename_i hx
   show Value.int .u8 x=.int .u8 ((UInt8.ofNat x.toNat).toNat:Int)
   congr 1
   rw[UInt8.toNat_ofNat']
   omega
  ·rfl
 ·rfl
section
variable {K : List (Nat × PV)} {ops : Array Oper} {rs : List Ent} {a0 a : Act} {w : World} {dn : Nat → Bool} {i : Nat} {o : Oper}
theorem Kj {t:Nat}{u:PV}{r:List Ent}(hl:t∈o.looksAt ops)(h:opd K r (.tmp t)=some u)(hu:u.mem=true):Gz K ops r o=true:=by
 unfold Gz
 rw[List.any_eq_true]
 exact⟨t,hl,by rw[h];exact hu⟩
theorem zC {t:Nat}{v:Value}(h:a.tmps[t]? =some v):a.eval (.tmp t)=v:=eval_at h
theorem lK (hd:cO ops=true)(hrun:run M K ops [] ops.toList=some rs)(hsc:sched ops rs=true)(hi:ops[i]? =some o)(hu:dn i=false)(ha:∀e∈o.after,Region.binds .any e=true->dn e.on=true)(hC:Closed ops dn)(hI:Ey M K ops rs a0 dn a w)
 {ei:Ent} (OW:rs[i]? =some ei) (OT:Gz K ops (rs.take i) o=true->ei.uses=true) {x:Operand} {u:PV} (h:ovR K ops (rs.take i) o x=some u):Den M u (a.eval x) w:=by
 unfold ovR at h
 split at h
 ·rename_i hl
  have hlen:rs.length=ops.size:=by
   obtain⟨t,h1,h2⟩:=dY hrun
   rw[h1];simpa using h2
  have hilt:i<ops.size:=(Array.getElem?_eq_some_iff.1 hi).1
  have hdst:∀(j:Nat) (e:Ent),rs[j]? =some e->∃oj,ops[j]? =some oj/\e.dst=oj.dst:=λj e hj=>by
   have hjl:j<ops.size:=by have:=(List.getElem?_eq_some_iff.1 hj).1;omega
   obtain⟨e2,k1,k2⟩:=uw hrun j ops[j] (by simp[hjl])
   rw[List.length_nil,Nat.zero_add]at k1
   have:e=e2:=Option.some.inj (hj.symm.trans k1)
   subst this
   exact⟨ops[j],by simp[hjl],AB k2⟩
  have hlive:∀(c:Nat) (e:Ent),rs[c]? =some e->e.cons=true->i<c->ei.uses=true->dn c=false:=λc e hc lQ hic RB=>by
   cases GZ:dn c with
   |false=>rfl
   |true=>
    exfalso
    have hcl:c<rs.length:=(List.getElem?_eq_some_iff.1 hc).1
    have h1:=List.all_eq_true.1 hsc c (List.mem_range.2 hcl)
    rw[hc]at h1
    simp only[lQ,Bool.not_true,Bool.false_or,Bool.and_eq_true]at h1
    have h2:=List.all_eq_true.1 h1.1 i (List.mem_range.2 hic)
    rw[OW]at h2
    simp only[RB,Bool.not_true,Bool.false_or]at h2
    obtain⟨oc,hoc⟩:∃oc,ops[c]? =some oc:=⟨_,Array.getElem?_eq_getElem (by omega)⟩
    have:=Cx hC hoc (λe he hb=>hC c oc hoc GZ e he hb) i (by simpa using h2)
    rw[hu]at this
    cases this
  cases x with
  |const v=>
   have h:some (cst v)=some u:=h
   cases h
   exact cst_ok v w M
  |tmp t=>
   have hlt:t∈o.looksAt ops:=by simpa[looks]using hl
   have RB:=λhm=>OT (Kj hlt h hm)
   have h:opT K (rs.take i) t=some u:=h
   unfold opT at h
   split at h
   ·rename_i j e hf
    obtain⟨-,f2,f3⟩:=iG hf
    rw[Nat.sub_zero]at f2
    have hji:j<i:=by
     have:=(List.getElem?_eq_some_iff.1 f2).1
     rw[List.length_take]at this
     omega
    have f4:rs[j]? =some e:=by rw[List.getElem?_take,if_pos hji]at f2;exact f2
    obtain⟨oj,g1,g2⟩:=hdst j e f4
    have hdn:dn j=true:=by
     rcases looks_at hd hi hu ha hC hlt with⟨j',oj',h1,h2,h3,h4⟩|⟨_,h2⟩
     ·have:j'=j:=by
       by_cases hjj:j'=j
       ·exact hjj
       ·exact absurd (g2▸f3) (jJ hd g1 h2 hjj h3)
      rw[<-this];exact h4
     ·exact absurd (g2▸f3) (h2 j oj hji g1)
    have hA:e.val.mem=true->(if e.val.mem=true then(if lV (rs.take i) 0 0<=j+1 then some e.val else none)else some e.val)=some u->alive rs j dn:=λhm hx=>by
     rw[if_pos hm]at hx
     split at hx
     ·rename_i hle
      cases hx
      intro c ec hc lQ hjc
      by_cases hic:i<c
      ·exact hlive c ec hc lQ hic (RB hm)
      ·by_cases hci:c=i
       ·subst hci;exact hu
       ·have:=(mU _ 0 0 _ (Nat.le_refl _) hle).2 c ec (by rw[List.getElem?_take,if_pos (by omega)];exact hc) lQ
        omega
     ·cases hx
    have hval:u=e.val:=by
     split at h
     ·split at h
      ·cases h;rfl
      ·cases h
     ·cases h;rfl
    obtain⟨v,k1,k2⟩:=hI.done j e t f4 hdn f3 (λhm=>hA hm h)
    rw[zC k1,hval]
    exact k2
   ·rename_i hf
    have hnone:=zQ hf
    have hr:∀(j:Nat) (oj:Oper),ops[j]? =some oj->dn j=true->oj.dst≠some t:=by
     rcases looks_at hd hi hu ha hC hlt with⟨j',oj',h1,h2,h3,h4⟩|⟨h1,_⟩
     ·exfalso
      obtain⟨ej,Kg⟩:∃ej,rs[j']? =some ej:=⟨_,List.getElem?_eq_getElem (by omega)⟩
      obtain⟨oj2,g1,g2⟩:=hdst j' ej Kg
      rw[h2]at g1
      cases g1
      exact hnone j' ej (by rw[List.getElem?_take,if_pos h1];exact Kg) (g2.trans h3)
     ·exact h1
    have h2:=hI.rest t hr
    split at h
    ·rename_i u' hk
     have hA:u'.mem=true->(if u'.mem=true then(if lV (rs.take i) 0 0=0 then some u' else none)else some u')=some u->Nl rs dn:=λhm hx=>by
      rw[if_pos hm]at hx
      split at hx
      ·rename_i hle
       cases hx
       intro c ec hc lQ
       by_cases hic:i<c
       ·exact hlive c ec hc lQ hic (RB hm)
       ·by_cases hci:c=i
        ·subst hci;exact hu
        ·have:=(mU _ 0 0 0 (Nat.le_refl _) (Nat.le_of_eq hle)).2 c ec (by rw[List.getElem?_take,if_pos (by omega)];exact hc) lQ
         omega
      ·cases hx
     have hval:u=u':=by
      split at h
      ·split at h
       ·cases h;rfl
       ·cases h
      ·cases h;rfl
     obtain⟨v,k1,k2⟩:=hI.knownM t u' (jw hk) (λhm=>hA hm h)
     rw[zC (h2.trans k1),hval]
     exact k2
    ·cases h
  |global g=>cases h
  |func f=>cases h
 ·cases h
theorem Be {tmps:Array Value}(h:o.guard=none):Region.wanted o (yielded ops tmps)=true:=by unfold Region.wanted;rw[h]
theorem QC (hd:cO ops=true){n:Nat}(hok:okR n ops=true)(hn:a0.tmps.size=n)(hrun:run M K ops [] ops.toList=some rs)(hsc:sched ops rs=true)(hi:ops[i]? =some o)(hu:dn i=false)(hC:Closed ops dn)(hI:Ey M K ops rs a0 dn a w)
 {ei:Ent} (OW:rs[i]? =some ei) {v:Value} {w':World} (hv:Den M ei.val v w') (hS:Sw M w') (hb:ei.cons=false->Below w.heap.size w w'):Ey M K ops rs a0 (λj=>dn j||j==i) (a.put o.dst v) w':=by
 have hlen:rs.length=ops.size:=by
  obtain⟨t,h1,h2⟩:=dY hrun
  rw[h1];simpa using h2
 have hdst:∀(j:Nat) (e:Ent),rs[j]? =some e->∃oj,ops[j]? =some oj/\e.dst=oj.dst:=λj e hj=>by
  have hjl:j<ops.size:=by have:=(List.getElem?_eq_some_iff.1 hj).1;omega
  obtain⟨e2,k1,k2⟩:=uw hrun j ops[j] (by simp[hjl])
  rw[List.length_nil,Nat.zero_add]at k1
  have:e=e2:=Option.some.inj (hj.symm.trans k1)
  subst this
  exact⟨ops[j],by simp[hjl],AB k2⟩
 have hor:∀j,(dn j||j==i)=true↔(dn j=true\/j=i):=λj=>by rw[Bool.or_eq_true,beq_iff_eq]
 have hput:∀d:Nat,o.dst≠some d->(a.put o.dst v).tmps[d]? =a.tmps[d]?:=λd hne=>by
  unfold Act.put
  split
  ·rename_i d2 h2
   show(a.tmps.setIfInBounds d2 v)[d]? =_
   rw[Array.getElem?_setIfInBounds_ne]
   rintro rfl
   exact hne h2
  ·rfl
 have hsz:(a.put o.dst v).tmps.size=a.tmps.size:=by
  unfold Act.put
  split
  ·show(a.tmps.setIfInBounds _ v).size=_
   simp
  ·rfl
 have hdf:(a.put o.dst v).defers=a.defers:=by
  unfold Act.put
  split<;>rfl
 have lQ:ei.cons=true->∀dn':Nat->Bool,dn' i=true->∀(j:Nat),j<i->¬alive rs j dn':=λhc dn' hdi j hji hal=>by
  have:=hal i ei OW hc hji
  rw[hdi]at this;cases this
 refine⟨hsz.trans hI.size,hdf.trans hI.defers,hS,λt ht=>?_,λj e d hj hdj Ab hal=>?_,λt u ht hal=>?_⟩
 ·rw[hput t (λh=>ht i o hi (by show(dn i||i==i)=true;simp) h)]
  exact hI.rest t λj oj hj hdj=>ht j oj hj (by show(dn j||j==i)=true;rw[hdj];rfl)
 ·by_cases hji:j=i
  ·subst hji
   rw[OW]at hj
   cases hj
   obtain⟨oj,g1,g2⟩:=hdst j ei OW
   rw[hi]at g1
   cases g1
   have hod:o.dst=some d:=g2.symm.trans Ab
   have hdn:d<a.tmps.size:=by
    rw[hI.size,hn]
    unfold okR at hok
    rw[Bool.and_eq_true]at hok
    have:=List.all_eq_true.1 hok.2 o (List.mem_of_getElem? (by simpa using hi))
    rw[hod]at this
    simpa using this
   refine⟨v,?_,hv⟩
   rw[hod]
   show(a.tmps.setIfInBounds d v)[d]? =some v
   simp[hdn]
  ·have hdj2:dn j=true:=by rcases(hor j).1 hdj with h|h;exact h;exact absurd h hji
   obtain⟨oj,g1,g2⟩:=hdst j e hj
   have hne:o.dst≠some d:=jJ hd hi g1 hji (g2▸Ab)
   rw[hput d hne]
   cases hm:e.val.mem with
   |false=>
    obtain⟨x,k1,k2⟩:=hI.done j e d hj hdj2 Ab (λh=>by rw[hm]at h;cases h)
    exact⟨x,k1,k2.any hm⟩
   |true=>
    have hal:=hal hm
    cases hc:ei.cons with
    |true=>
     exfalso
     rcases Nat.lt_trichotomy j i with h|h|h
     ·exact lQ hc _ (by show(dn i||i==i)=true;simp) j h hal
     ·exact hji h
     ·have hil:i<rs.length:=(List.getElem?_eq_some_iff.1 OW).1
      have h1:=List.all_eq_true.1 hsc i (List.mem_range.2 hil)
      rw[OW]at h1
      simp only[hc,Bool.not_true,Bool.false_or,Bool.and_eq_true]at h1
      have h2:=List.all_eq_true.1 h1.2 j (List.mem_range.2 (List.getElem?_eq_some_iff.1 hj).1)
      rw[hj]at h2
      simp only[hm,h,decide_true,Bool.and_self,Bool.not_true,Bool.false_or]at h2
      have:=Cx hC g1 (λe he hb=>hC j oj g1 hdj2 e he hb) i (by simpa using h2)
      rw[hu]at this
      cases this
    |false=>
     obtain⟨x,k1,k2⟩:=hI.done j e d hj hdj2 Ab (λ_ c ec hc' hcc hjc=>by
      have:=hal c ec hc' hcc hjc
      have h2:(dn c||c==i)=false:=this
      rw[Bool.or_eq_false_iff]at h2
      exact h2.1)
     exact⟨x,k1,k2.below (hb hc)⟩
 ·cases hm:u.mem with
  |false=>
   obtain⟨x,k1,k2⟩:=hI.knownM t u ht (λh=>by rw[hm]at h;cases h)
   exact⟨x,k1,k2.any hm⟩
  |true=>
   have hal:=hal hm
   cases hc:ei.cons with
   |true=>
    exfalso
    have:=hal i ei OW hc
    have h2:(dn i||i==i)=false:=this
    simp at h2
   |false=>
    obtain⟨x,k1,k2⟩:=hI.knownM t u ht (λ_ c ec hc' hcc=>by
     have:=hal c ec hc' hcc
     have h2:(dn c||c==i)=false:=this
     rw[Bool.or_eq_false_iff]at h2
     exact h2.1)
    exact⟨x,k1,k2.below (hb hc)⟩
end
structure FrP (M:Mem)(n:Nat)(K:List (Nat×PV))(a:Act)(w:World):Prop where
 size:a.tmps.size=n
 defers:a.defers=[]
 look:∀t u,(t,u)∈K->∃v,a.tmps[t]? =some v/\Den M u v w
def news (rs:List Ent):List Ent->Nat->List (Nat×PV)
 |[],_=>[]
 |e::l,i=>match e.dst with
  |some d=>if e.val.mem=true/\¬lV rs 0 0<=i+1 then news rs l (i+1)else(d,e.val)::news rs l (i+1)
  |none=>news rs l (i+1)
def keep (K:List (Nat×PV))(ops:Array Oper)(rs:List Ent):List (Nat×PV):=K.filter λp=>(ops.toList.all λo=>o.dst !=some p.1)&&(!p.2.mem||decide (lV rs 0 0=0))
theorem kK {rs:List Ent}:∀{l:List Ent} {k d:Nat} {u:PV},(d,u)∈news rs l k->∃(i:Nat) (e:Ent),l[i]? =some e/\e.dst=some d/\e.val=u/\(u.mem=true->lV rs 0 0<=k+i+1)
 |[],_,_,_,h=>by cases h
 |e::l,k,d,u,h=>by
  have rec_:(d,u)∈news rs l (k+1)->∃(i:Nat) (e':Ent),(e::l)[i]? =some e'/\e'.dst=some d/\e'.val=u/\(u.mem=true->lV rs 0 0<=k+i+1):=λh=>by
   obtain⟨i,e',h1,h2,h3,h4⟩:=kK h
   exact⟨i+1,e',by simpa using h1,h2,h3,λhm=>by have:=h4 hm;omega⟩
  unfold news at h
  split at h
  ·rename_i d2 hd
   split at h
   ·exact rec_ h
   ·rename_i hc
    rcases List.mem_cons.1 h with h3|h3
    ·cases h3
     exact⟨0,e,rfl,hd,rfl,λhm=>Classical.byContradiction λhx=>hc ⟨hm,hx⟩⟩
    ·exact rec_ h3
  ·exact rec_ h
theorem La {K:List (Nat×PV)}{ops:Array Oper}{rs:List Ent}{t:Nat}{u:PV}(hm:(t,u)∈keep K ops rs):(t,u)∈K/\(∀o:Oper,o∈ops.toList->o.dst≠some t)/\(u.mem=true->lV rs 0 0=0):=by
 unfold keep at hm
 obtain⟨h1,h2⟩:=List.mem_filter.1 hm
 rw[Bool.and_eq_true]at h2
 refine⟨h1,λo ho=>?_,λhu=>?_⟩
 ·have:=List.all_eq_true.1 h2.1 o ho
  simpa using this
 ·have:=h2.2
  simp only[hu,Bool.not_true,Bool.false_or,decide_eq_true_eq]at this
  exact this
section
variable {K : List (Nat × PV)} {ops : Array Oper} {rs : List Ent} {a : Act} {w : World} {n id : Nat} {dr : Bool} {Q : Exit → Act → World → Prop}
theorem wp_se (hO:Ok Tryz.prog M)(hok:okR n ops=true)(hrun:run M K ops [] ops.toList=some rs)(hsc:sched ops rs=true)(Dz:∀e∈rs,∀p,e.ob=some p->p)(hF:FrP M n K a w)(hS:Sw M w)
 (hend:∀(b:Act) (w':World),FrP M n (news rs rs 0++keep K ops rs) b w'->Sw M w'->Q .normal b w'):(Code.region id ops dr).wp Tryz.prog Q a w:=by
 have hd:cO ops=true:=by unfold okR at hok;rw[Bool.and_eq_true]at hok;exact hok.1
 have hlen:rs.length=ops.size:=by
  obtain⟨t,h1,h2⟩:=dY hrun
  rw[h1];simpa using h2
 have hdst:∀(j:Nat) (e:Ent),rs[j]? =some e->∃oj,ops[j]? =some oj/\e.dst=oj.dst:=λj e hj=>by
  have hjl:j<ops.size:=by have:=(List.getElem?_eq_some_iff.1 hj).1;omega
  obtain⟨e2,k1,k2⟩:=uw hrun j ops[j] (by simp[hjl])
  rw[List.length_nil,Nat.zero_add]at k1
  have:e=e2:=Option.some.inj (hj.symm.trans k1)
  subst this
  exact⟨ops[j],by simp[hjl],AB k2⟩
 refine xx rfl hd (Ey M K ops rs a) ?_ ?_ ?_
 ·cases dr with
  |true=>exact⟨rfl,rfl,hS.drew,λ_ _=>rfl,λj e d hj hdj=>(by cases hdj),λt u hl _=>(hF.look t u hl).imp λv h=>⟨h.1,h.2.drew⟩⟩
  |false=>exact⟨rfl,rfl,hS,λ_ _=>rfl,λj e d hj hdj=>(by cases hdj),λt u hl _=>hF.look t u hl⟩
 ·intro dn i o a' w' hi hu ha hC hI
  obtain⟨ei,k1,k2⟩:=uw hrun i o (by simpa using hi)
  rw[List.length_nil,Nat.zero_add]at k1 k2
  have fin:∀(v:Value) (w2:World),Den M ei.val v w2->Sw M w2->(ei.cons=false->Below w'.heap.size w' w2)->Ey M K ops rs a (λj=>dn j||j==i) (a'.put o.dst v) w2:=λv w2 h1 h2 h3=>QC hd hok hF.size hrun hsc hi hu hC hI k1 h1 h2 h3
  have doA:Region.wanted o (yielded ops a'.tmps)=true->GQ M K ops (rs.take i) o=some ei->wpOp Tryz.prog ops Q i (λa' w'=>Ey M K ops rs a (λj=>dn j||j==i) a' w') a' w':=λhw hA=>by
   unfold GQ at hA
   split at hA
   ·rename_i r hr
    cases hA
    have hov:=λx u (hx:ovR K ops (rs.take i) o x=some u)=>lK hd hrun hsc hi hu ha hC hI k1 (λh=>h) hx
    have hy:iM Tryz.prog ops (λw=>w=w') (λv w2=>Den M r.val v w2/\Sw M w2/\(r.cons=false->Below w'.heap.size w' w2)) o a':=⟨hw,λw lu=>by
     rw[lu]
     exact Fe hO (λ_=>rfl) hov hI.sw hr (Dz _ (List.mem_of_getElem? k1))⟩
    exact hy.wpOp hi rfl λv w2 ⟨q1,q2,q3⟩=>fin v w2 q1 q2 q3
   ·cases hA
  have skipA:Region.wanted o (yielded ops a'.tmps)=false->ei={dst:=o.dst,val:=.v undef,cons:=false,uses:=false,skip:=true}->wpOp Tryz.prog ops Q i (λa' w'=>Ey M K ops rs a (λj=>dn j||j==i) a' w') a' w':=λhw he=>by
   have hy:aZ Tryz.prog ops (λw=>w=w') (λw=>w=w') o undef a':=.inr ⟨hw,rfl,λ_ h=>h⟩
   refine hy.wpOp hi rfl λw2 hw2=>?_
   rw[hw2]
   exact fin undef w' (by rw[he];rfl) hI.sw (λ_=>Below.refl _ _)
  unfold ent at k2
  split at k2
  ·rename_i hg
   exact doA (Be hg) k2
  ·rename_i j want hg
   split at k2
   ·rename_i ej Kg
    have hji:j<i:=by
     have:=(List.getElem?_eq_some_iff.1 Kg).1
     rw[List.length_take]at this
     omega
    have hej2:rs[j]? =some ej:=by rw[List.getElem?_take,if_pos hji]at Kg;exact Kg
    obtain⟨oj,g1,g2⟩:=hdst j ej hej2
    have hyv:∀d b,ej.dst=some d->ej.val=.v (.bool b)->Region.wanted o (yielded ops a'.tmps)=(b==want):=λd b Ab hev=>by
     have hod:oj.dst=some d:=g2.symm.trans Ab
     have hla:d∈o.looksAt ops:=by simp[Oper.looksAt,hg,g1,hod]
     have hdn:dn j=true:=by
      rcases looks_at hd hi hu ha hC hla with⟨j',oj',h1,h2,h3,h4⟩|⟨_,h2⟩
      ·have:j'=j:=by
        by_cases hjj:j'=j
        ·exact hjj
        ·exact absurd hod (jJ hd g1 h2 hjj h3)
       rw[<-this];exact h4
      ·exact absurd hod (h2 j oj hji g1)
     obtain⟨v,e1,e2⟩:=hI.done j ej d hej2 hdn Ab (λh=>by rw[hev]at h;cases h)
     rw[hev]at e2
     have e2:v=.bool b:=e2
     unfold Region.wanted
     rw[hg]
     have hyl:yielded ops a'.tmps j=some b:=by
      unfold yielded
      rw[g1]
      simp only[Option.bind_some,hod,e1,e2]
     simp only[hyl]
     cases b<;>cases want<;>rfl
    split at k2
    ·rename_i d Ab hev
     have:=hyv _ _ Ab hev
     split at k2
     ·rename_i hw;subst hw;exact doA this k2
     ·rename_i hw
      cases k2
      exact skipA (by rw[this];cases want<;>simp_all) rfl
    ·rename_i d Ab hev
     have:=hyv _ _ Ab hev
     split at k2
     ·rename_i hw;subst hw;exact doA this k2
     ·rename_i hw
      cases k2
      exact skipA (by rw[this];cases want<;>simp_all) rfl
    ·cases k2
   ·cases k2
 ·intro dn b w' hall hI
  refine hend b w' ⟨hI.size.trans hF.size,hI.defers.trans hF.defers,λt u hm=>?_⟩ hI.sw
  rcases List.mem_append.1 hm with hm|hm
  ·obtain⟨i,e,h1,h2,h3,h4⟩:=kK hm
   subst h3
   have hil:i<ops.size:=by have:=(List.getElem?_eq_some_iff.1 h1).1;omega
   refine hI.done i e t h1 (hall i hil) h2 λhmem c ec hc hcc hic=>?_
   have:=(mU rs 0 0 _ (Nat.le_refl _) (h4 hmem)).2 c ec hc hcc
   omega
  ·obtain⟨h1,h2,h3⟩:=La hm
   rw[hI.rest t λj oj hj _=>h2 oj (List.mem_of_getElem? (by simpa using hj))]
   obtain⟨v,k1,k2⟩:=hF.look t u h1
   refine⟨v,k1,?_⟩
   cases hmem:u.mem with
   |false=>exact k2.any hmem
   |true=>
    have hz:=h3 hmem
    obtain⟨v2,k3,k4⟩:=hI.knownM t u h1 (λ_ c ec hc hcc=>by
     have:=(mU rs 0 0 0 (Nat.le_refl _) (Nat.le_of_eq hz)).2 c ec hc hcc
     omega)
    have:v=v2:=Option.some.inj (k1.symm.trans k3)
    rw[this];exact k4
end
open Go.Proofs.YtnjjeapcalkmaaaGreatDoor.Ev (Fm Qof)
variable {M : Mem}
inductive Out where
 |nx (K:List (Nat×PV))
 |ret (K:List (Nat×PV))
 |out (k:Nat) (K:List (Nat×PV))
 |go (c:Code) (fs:List Fm) (K:List (Nat×PV))
 |ob (p:Prop) (o:Out)
def Out.bind (b:Code)(f:List (Nat×PV)->Out):Out->Out
 | .nx K=>f K
 | .ret K=>.ret K
 | .out k K=>.out k K
 | .go c fs K=>.go c (fs++[.sq b]) K
 | .ob p o=>.ob p (o.bind b f)
def Out.unblock (i:Nat):Out->Out
 | .nx K=>.nx K
 | .ret K=>.ret K
 | .out k K=>if k=i then .nx K else .out k K
 | .go c fs K=>.go c (fs++[.bl i]) K
 | .ob p o=>.ob p (o.unblock i)
def obs:List Ent->Out->Out
 |[],o=>o
 |e::l,o=>match e.ob with
  |some p=>.ob p (obs l o)
  |none=>obs l o
def exR (M:Mem)(n i:Nat)(ops:Array Oper)(dr:Bool)(K:List (Nat×PV)):Out:=match run M K ops [] ops.toList with
 |some rs=>if (okR n ops&&sched ops rs)=true then obs rs (.nx (news rs rs 0++keep K ops rs))else .go (.region i ops dr) [] K
 |none=>.go (.region i ops dr) [] K
def exC (h:Option Bool)(x y z:Out)(l:Option PV):Out:=match h with
 |none=>match l with
  |some (.v (.bool true))=>x
  |some (.v (.bool false))=>y
  |_=>z
 |some true=>match l with
  |some (.v (.bool b))=>.ob (b=true) x
  |_=>z
 |some false=>match l with
  |some (.v (.bool b))=>.ob (b=false) y
  |_=>z
def Out.bindL (f:List (Nat×PV)->Out):Out->Out
 | .nx K=>f K
 | .ret K=>.ret K
 | .out k K=>.out k K
 | .go _ _ K=>.ob False (.nx K)
 | .ob p o=>.ob p (o.bindL f)
def exL (f:List (Nat×PV)->Out):Nat->List (Nat×PV)->Out
 |0,K=>.ob False (.nx K)
 |k+1,K=>(f K).bindL (exL f k)
def ex (M:Mem)(n:Nat):Code->List (Nat×PV)->Out
 | .skip,K=>.nx K
 | .region i ops dr,K=>exR M n i ops dr K
 | .seq a b,K=>(ex M n a K).bind b (ex M n b)
 | .cond c x y,K=>match c with
   | .tmp t=>exC (M.hint t) (ex M n x K) (ex M n y K) (.go (.cond (.tmp t) x y) [] K) ((look K t).map (nv M))
   |c=>.go (.cond c x y) [] K
 | .block i b,K=>(ex M n b K).unblock i
 | .exit k,K=>.out k K
 | .ret,K=>.ret K
 | .loop c,K=>if M.loops=0 then .go (.loop c) [] K else exL (ex M n c) M.loops K
 |c,K=>.go c [] K
def Out.holds (M:Mem)(n:Nat)(Q:Exit->Act->World->Prop):Out->Prop
 | .nx K=>∀a w,FrP M n K a w->Sw M w->Q .normal a w
 | .ret K=>∀a w,FrP M n K a w->Sw M w->Q .ret a w
 | .out k K=>∀a w,FrP M n K a w->Sw M w->Q (.exit k) a w
 | .go c fs K=>∀a w,FrP M n K a w->Sw M w->c.wp Tryz.prog (Qof Tryz.prog fs Q) a w
 | .ob p o=>p/\o.holds M n Q
theorem lC {n:Nat}{Q:Exit->Act->World->Prop}{b:Code}{f:List (Nat×PV)->Out}(hf:∀K,(f K).holds M n Q->∀a w,FrP M n K a w->Sw M w->b.wp Tryz.prog Q a w):
 ∀{t:Out},(t.bind b f).holds M n Q->t.holds M n (Exit.then (b.wp Tryz.prog Q) Q):=by
 intro t
 induction t with
 |ob p o ih=>exactλhh=>⟨hh.1,ih hh.2⟩
 |nx K=>intro hh;exact hf K hh
 |ret K=>exactλhh=>hh
 |out k K=>exactλhh=>hh
 |go c fs K=>intro hh a w ha hs;have:=hh a w ha hs;rw[Ev.AX]at this;exact this
theorem iI {n:Nat}{Q:Exit->Act->World->Prop}{i:Nat}:∀{t:Out},(t.unblock i).holds M n Q->t.holds M n (Exit.inBlock i Q):=by
 intro t
 induction t with
 |ob p o ih=>exactλhh=>⟨hh.1,ih hh.2⟩
 |nx K=>exactλh=>h
 |ret K=>exactλh=>h
 |out k K=>
  intro h a w ha hs
  have h:(if k=i then Out.nx K else Out.out k K).holds M n Q:=h
  show(if k=i then Q .normal a w else Q (.exit k) a w)
  by_cases hk:k=i
  ·rw[if_pos hk]at h⊢;exact h a w ha hs
  ·rw[if_neg hk]at h⊢;exact h a w ha hs
 |go c fs K=>intro hh a w ha hs;have:=hh a w ha hs;rw[Ev.zi]at this;exact this
theorem Bb {n:Nat}{Q:Exit->Act->World->Prop}{R:Act->World->Prop}{f:List (Nat×PV)->Out}(hf:∀K,(f K).holds M n Q->∀a w,FrP M n K a w->Sw M w->R a w):
 ∀{t:Out},(t.bindL f).holds M n Q->t.holds M n (Exit.then R Q):=by
 intro t
 induction t with
 |ob p o ih=>exactλhh=>⟨hh.1,ih hh.2⟩
 |nx K=>intro hh;exact hf K hh
 |ret K=>exactλhh=>hh
 |out k K=>exactλhh=>hh
 |go c fs K=>exactλhh=>hh.1.elim
theorem sM {n:Nat}{Q:Exit->Act->World->Prop}{o:Out}:∀{l:List Ent},(obs l o).holds M n Q->(∀e∈l,∀p,e.ob=some p->p)/\o.holds M n Q
 |[],h=>⟨λe he=>(by cases he),h⟩
 |e::l,h=>by
  unfold obs at h
  split at h
  ·rename_i p hp
   obtain⟨h1,h2⟩:=h
   obtain⟨h3,h4⟩:=sM h2
   exact⟨λx hx=>by
    rcases List.mem_cons.1 hx with rfl|hx
    ·intro q hq;rw[hp]at hq;cases hq;exact h1
    ·exact h3 x hx,h4⟩
  ·rename_i hp
   obtain⟨h3,h4⟩:=sM h
   exact⟨λx hx=>by
    rcases List.mem_cons.1 hx with rfl|hx
    ·intro q hq;rw[hp]at hq;cases hq
    ·exact h3 x hx,h4⟩
theorem tX (hO:Ok Tryz.prog M){n:Nat}:∀{code:Code} {K:List (Nat×PV)} {Q:Exit->Act->World->Prop},(ex M n code K).holds M n Q->∀a w,FrP M n K a w->Sw M w->code.wp Tryz.prog Q a w:=by
 intro code
 induction code with
 |skip=>intro K Q h a w hF hS;exact wp_skip (h a w hF hS)
 |region i ops dr=>
  intro K Q h a w hF hS
  have h:(exR M n i ops dr K).holds M n Q:=h
  unfold exR at h
  split at h
  ·rename_i rs hrs
   split at h
   ·rename_i hok
    rw[Bool.and_eq_true]at hok
    obtain⟨h1,h2⟩:=sM h
    exact wp_se hO hok.1 hrs hok.2 h1 hF hS h2
   ·exact h a w hF hS
  ·exact h a w hF hS
 |seq x y ix iy=>
  intro K Q h a w hF hS
  unfold ex at h
  refine wp_seq ?_
  exact ix (lC (λK' h'=>iy h') h) a w hF hS
 |cond c x y ix iy=>
  intro K Q h a w hF hS
  cases c with
  |tmp t=>
   have h:(exC (M.hint t) (ex M n x K) (ex M n y K) (.go (.cond (.tmp t) x y) [] K) ((look K t).map (nv M))).holds M n Q:=h
   have get:∀b:Bool,(look K t).map (nv M)=some (.v (.bool b))->a.eval (.tmp t)=.bool b:=λb hl=>by
    obtain⟨u,hk,hu⟩:=Option.map_eq_some_iff.1 hl
    obtain⟨v,h1,h2⟩:=hF.look t _ (jw hk)
    have h2:v=.bool b:=by have:=IE h2;rw[hu]at this;exact this
    exact eval_at (h2▸h1)
   generalize hl:(look K t).map (nv M)=l at h get
   unfold exC at h
   split at h
   ·split at h
    ·exact wp_cond (t:=true) (get _ rfl) (ix h a w hF hS)
    ·exact wp_cond (t:=false) (get _ rfl) (iy h a w hF hS)
    ·exact h a w hF hS
   ·split at h
    ·obtain⟨rfl,h⟩:=h
     exact wp_cond (t:=true) (get _ rfl) (ix h a w hF hS)
    ·exact h a w hF hS
   ·split at h
    ·obtain⟨rfl,h⟩:=h
     exact wp_cond (t:=false) (get _ rfl) (iy h a w hF hS)
    ·exact h a w hF hS
  |const v=>exact h a w hF hS
  |global g=>exact h a w hF hS
  |func f=>exact h a w hF hS
 |block i b ib=>
  intro K Q h a w hF hS
  unfold ex at h
  exact wp_block (ib (iI h) a w hF hS)
 |exit k=>intro K Q h a w hF hS;exact wp_exit (h a w hF hS)
 |ret=>intro K Q h a w hF hS;exact wp_ret (h a w hF hS)
 |loop c ic=>
  intro K Q h a w hF hS
  unfold ex at h
  split at h
  ·exact h a w hF hS
  ·refine wp_loop_rounds M.loops ?_
   have key:∀(k:Nat) (K:List (Nat×PV)),(exL (ex M n c) k K).holds M n Q->∀a w,FrP M n K a w->Sw M w->Code.rounds Tryz.prog c Q k a w:=by
    intro k
    induction k with
    |zero=>exactλK h=>h.1.elim
    |succ k ih=>exactλK h a w hF hS=>ic (Bb (R:=Code.rounds Tryz.prog c Q k) (λK' h'=>ih K' h') h) a w hF hS
   exact key _ K h a w hF hS
 |_=>intro K Q h a w hF hS;exact h a w hF hS
def oC (M:Mem)(ts:List Nat)(us:List PV)(a:Act)(w:World):Prop:=∀(i t:Nat) (u:PV),ts[i]? =some t->us[i]? =some u->∃v,a.tmps[t]? =some v/\Den M u v w
def looks' (K:List (Nat×PV)):List Nat->Option (List PV)
 |[]=>some []
 |t::ts=>match look K t,looks' K ts with
  |some u,some us=>some (u::us)
  |_,_=>none
theorem qO {K:List (Nat×PV)}{n:Nat}{a:Act}{w:World}(hF:FrP M n K a w):∀{ts:List Nat} {us:List PV},looks' K ts=some us->oC M ts us a w
 |[],us,h=>λi t u h1=>by simp at h1
 |s::ts,us,h=>by
  unfold looks' at h
  split at h
  ·rename_i u us' h1 h2
   cases h
   intro i t x ht hx
   cases i with
   |zero=>
    simp at ht hx
    subst ht
    subst hx
    exact hF.look _ _ (jw h1)
   |succ i=>exact qO hF h2 i t x (by simpa using ht) (by simpa using hx)
  ·cases h
theorem oC.cons {t:Nat}{ts:List Nat}{u:PV}{us:List PV}{a:Act}{w:World}(h:oC M (t::ts) (u::us) a w):(∃v,a.tmps[t]? =some v/\Den M u v w)/\oC M ts us a w:=⟨h 0 t u rfl rfl,λi s x h1 h2=>h (i+1) s x (by simpa using h1) (by simpa using h2)⟩
def Out.retv (ts:List Nat):Out->Option (List PV×List Prop)
 | .ret K=>(looks' K ts).map λus=>(us,[])
 | .ob p o=>(o.retv ts).map λx=>(x.1,p::x.2)
 |_=>none
def Out.nxv (ts:List Nat):Out->Option (List PV×List Prop)
 | .nx K=>(looks' K ts).map λus=>(us,[])
 | .ob p o=>(o.nxv ts).map λx=>(x.1,p::x.2)
 |_=>none
def Out.gov (ts:List Nat):Out->Option ((Code×List Fm×List PV)×List Prop)
 | .go c fs K=>(looks' K ts).map λus=>((c,fs,us),[])
 | .ob p o=>(o.gov ts).map λx=>(x.1,p::x.2)
 |_=>none
def Out.outv (ts:List Nat):Out->Option ((Nat×List PV)×List Prop)
 | .out k K=>(looks' K ts).map λus=>((k,us),[])
 | .ob p o=>(o.outv ts).map λx=>(x.1,p::x.2)
 |_=>none
def All:List Prop->Prop
 |[]=>True
 |p::l=>p/\All l
section
variable {n : Nat} {code : Code} {K : List (Nat × PV)} {Q : Exit → Act → World → Prop} {us : List PV} {ps : List Prop}
theorem Ir {ts:List Nat}(hq:∀a w,a.tmps.size=n->a.defers=[]->oC M ts us a w->Sw M w->Q .ret a w):∀{o:Out} {ps:List Prop},o.retv ts=some (us,ps)->All ps->o.holds M n Q:=by
 intro o
 induction o with
 |ret K'=>
  intro ps h _ a w hF hS
  obtain⟨us',h1,h2⟩:=Option.map_eq_some_iff.1 h
  cases h2
  exact hq a w hF.size hF.defers (qO hF h1) hS
 |ob p o ih=>
  intro ps h hp
  obtain⟨⟨x,qs⟩,h1,h2⟩:=Option.map_eq_some_iff.1 h
  obtain⟨rfl,rfl⟩:=Prod.mk.inj h2
  exact⟨hp.1,ih h1 hp.2⟩
 |nx K'=>intro ps h;cases h
 |out k K'=>intro ps h;cases h
 |go c fs K'=>intro ps h;cases h
theorem LJ {ts:List Nat}(hq:∀a w,a.tmps.size=n->a.defers=[]->oC M ts us a w->Sw M w->Q .normal a w):∀{o:Out} {ps:List Prop},o.nxv ts=some (us,ps)->All ps->o.holds M n Q:=by
 intro o
 induction o with
 |nx K'=>
  intro ps h _ a w hF hS
  obtain⟨us',h1,h2⟩:=Option.map_eq_some_iff.1 h
  cases h2
  exact hq a w hF.size hF.defers (qO hF h1) hS
 |ob p o ih=>
  intro ps h hp
  obtain⟨⟨x,qs⟩,h1,h2⟩:=Option.map_eq_some_iff.1 h
  obtain⟨rfl,rfl⟩:=Prod.mk.inj h2
  exact⟨hp.1,ih h1 hp.2⟩
 |ret K'=>intro ps h;cases h
 |out k K'=>intro ps h;cases h
 |go c fs K'=>intro ps h;cases h
theorem Nr {ts:List Nat}{c:Code}{fs:List Fm}(hq:∀a w,a.tmps.size=n->a.defers=[]->oC M ts us a w->Sw M w->c.wp Tryz.prog (Qof Tryz.prog fs Q) a w):∀{o:Out} {ps:List Prop},o.gov ts=some ((c,fs,us),ps)->All ps->o.holds M n Q:=by
 intro o
 induction o with
 |go c' fs' K'=>
  intro ps h _ a w hF hS
  obtain⟨us',h1,h2⟩:=Option.map_eq_some_iff.1 h
  cases h2
  exact hq a w hF.size hF.defers (qO hF h1) hS
 |ob p o ih=>
  intro ps h hp
  obtain⟨⟨x,qs⟩,h1,h2⟩:=Option.map_eq_some_iff.1 h
  obtain⟨rfl,rfl⟩:=Prod.mk.inj h2
  exact⟨hp.1,ih h1 hp.2⟩
 |ret K'=>intro ps h;cases h
 |out k K'=>intro ps h;cases h
 |nx K'=>intro ps h;cases h
theorem Jc {ts:List Nat}{k:Nat}(hq:∀a w,a.tmps.size=n->a.defers=[]->oC M ts us a w->Sw M w->Q (.exit k) a w):∀{o:Out} {ps:List Prop},o.outv ts=some ((k,us),ps)->All ps->o.holds M n Q:=by
 intro o
 induction o with
 |out k' K'=>
  intro ps h _ a w hF hS
  obtain⟨us',h1,h2⟩:=Option.map_eq_some_iff.1 h
  cases h2
  exact hq a w hF.size hF.defers (qO hF h1) hS
 |ob p o ih=>
  intro ps h hp
  obtain⟨⟨x,qs⟩,h1,h2⟩:=Option.map_eq_some_iff.1 h
  obtain⟨rfl,rfl⟩:=Prod.mk.inj h2
  exact⟨hp.1,ih h1 hp.2⟩
 |ret K'=>intro ps h;cases h
 |nx K'=>intro ps h;cases h
 |go c fs K'=>intro ps h;cases h
theorem gM (hO:Ok Tryz.prog M)(ts:List Nat)(h:(ex M n code K).retv ts=some (us,ps))(hp:All ps){a:Act}{w:World}(hF:FrP M n K a w)(hS:Sw M w)(hq:∀a w,a.tmps.size=n->a.defers=[]->oC M ts us a w->Sw M w->Q .ret a w):code.wp Tryz.prog Q a w:=tX hO (Ir hq h hp) a w hF hS
theorem RX (hO:Ok Tryz.prog M)(ts:List Nat)(h:(ex M n code K).nxv ts=some (us,ps))(hp:All ps){a:Act}{w:World}(hF:FrP M n K a w)(hS:Sw M w)(hq:∀a w,a.tmps.size=n->a.defers=[]->oC M ts us a w->Sw M w->Q .normal a w):code.wp Tryz.prog Q a w:=tX hO (LJ hq h hp) a w hF hS
theorem ex_out (hO:Ok Tryz.prog M)(ts:List Nat){k:Nat}(h:(ex M n code K).outv ts=some ((k,us),ps))(hp:All ps){a:Act}{w:World}(hF:FrP M n K a w)(hS:Sw M w)(hq:∀a w,a.tmps.size=n->a.defers=[]->oC M ts us a w->Sw M w->Q (.exit k) a w):code.wp Tryz.prog Q a w:=tX hO (Jc hq h hp) a w hF hS
theorem Dl (hO:Ok Tryz.prog M)(ts:List Nat){c:Code}{fs:List Fm}(h:(ex M n code K).gov ts=some ((c,fs,us),ps))(hp:All ps){a:Act}{w:World}(hF:FrP M n K a w)(hS:Sw M w)(hq:∀a w,a.tmps.size=n->a.defers=[]->oC M ts us a w->Sw M w->c.wp Tryz.prog (Qof Tryz.prog fs Q) a w):code.wp Tryz.prog Q a w:=tX hO (Nr hq h hp) a w hF hS
end
theorem mq {h:Nat->Option Bool}{lp:Nat}{u:PV}{v:Value}{w:World}:Den {M with hint:=h,loops:=lp} u v w↔Den M u v w:=by
 cases u<;>exact Iff.rfl
theorem zf {h:Nat->Option Bool}{lp:Nat}{w:World}:∀{us:List PV} {vals:List Value},jb {M with hint:=h,loops:=lp} us vals w->jb M us vals w
 |[],[],_=>trivial
 |[],_::_,hd=>hd
 |_::_,[],hd=>hd
 |_::_,_::_,hd=>⟨mq.1 hd.1,zf hd.2⟩
theorem Ok.hint {P:Program}{h:Nat->Option Bool}{lp:Nat}(hO:Ok P M):Ok P {M with hint:=h,loops:=lp}:=⟨⟨hO.wf.B,hO.wf.fix⟩,hO.offs,λt k j u hu w hS=>hO.load t k j u hu w ⟨hS.os,hS.tape,hS.output,hS.size,hS.block⟩|>.imp λv hv=>⟨hv.1,mq.2 hv.2⟩,λf us u c b hc hb=>(hO.call f us u c b hc hb).imp_right λh1 vals w hS hd=>(h1 vals w ⟨hS.os,hS.tape,hS.output,hS.size,hS.block⟩ (zf hd)).mono λe w' ⟨v,e1,e2,e3,e4⟩=>⟨v,e1,mq.2 e2,⟨e3.os,e3.tape,e3.output,e3.size,e3.block⟩,e4⟩,λo ov u hu ρ w hf hS hov=>(hO.oth o ov u hu ρ w hf ⟨hS.os,hS.tape,hS.output,hS.size,hS.block⟩ λx p hx=>mq.1 (hov x p hx)).imp λv hv=>⟨hv.1,mq.2 hv.2⟩⟩
theorem qV {f:Oper->(Operand->Option PV)->Option PV}{u:PV}{v:Value}{w:World}:Den {M with oth:=f} u v w↔Den M u v w:=by
 cases u<;>exact Iff.rfl
theorem Bh {f:Oper->(Operand->Option PV)->Option PV}{w:World}:∀{us:List PV} {vals:List Value},jb {M with oth:=f} us vals w->jb M us vals w
 |[],[],_=>trivial
 |[],_::_,hd=>hd
 |_::_,[],hd=>hd
 |_::_,_::_,hd=>⟨qV.1 hd.1,Bh hd.2⟩
theorem Ok.withOth {P:Program}{f:Oper->(Operand->Option PV)->Option PV}(hO:Ok P M)(hf:∀o ov u,f o ov=some u->∀(ρ:Operand->Value) w,(∀f,ρ (.func f)=.func (.func f) #[] #[])->Sw M w->(∀x p,ov x=some p->Den M p (ρ x) w)->∃v,(execOp ρ o).run P w=.ok (.value v) w/\Den M u v w):Ok P {M with oth:=f}:=⟨⟨hO.wf.B,hO.wf.fix⟩,hO.offs,λt k j u hu w hS=>hO.load t k j u hu w ⟨hS.os,hS.tape,hS.output,hS.size,hS.block⟩|>.imp λv hv=>⟨hv.1,qV.2 hv.2⟩,λf us u c b hc hb=>(hO.call f us u c b hc hb).imp_right λh1 vals w hS hd=>(h1 vals w ⟨hS.os,hS.tape,hS.output,hS.size,hS.block⟩ (Bh hd)).mono λe w' ⟨v,e1,e2,e3,e4⟩=>⟨v,e1,qV.2 e2,⟨e3.os,e3.tape,e3.output,e3.size,e3.block⟩,e4⟩,λo ov u hu ρ w h1 hS hov=>(hf o ov u hu ρ w h1 ⟨hS.os,hS.tape,hS.output,hS.size,hS.block⟩ λx p hx=>qV.1 (hov x p hx)).imp λv hv=>⟨hv.1,qV.2 hv.2⟩⟩
theorem qE {f:Nat->Option Bool}{u:PV}{v:Value}{w:World}:Den {M with tst:=f} u v w↔Den M u v w:=by
 cases u<;>exact Iff.rfl
theorem Cz {f:Nat->Option Bool}{w:World}:∀{us:List PV} {vals:List Value},jb {M with tst:=f} us vals w->jb M us vals w
 |[],[],_=>trivial
 |[],_::_,hd=>hd
 |_::_,[],hd=>hd
 |_::_,_::_,hd=>⟨qE.1 hd.1,Cz hd.2⟩
theorem Ok.withTst {P:Program}{f:Nat->Option Bool}(hO:Ok P M):Ok P {M with tst:=f}:=⟨⟨hO.wf.B,hO.wf.fix⟩,hO.offs,λt k j u hu w hS=>hO.load t k j u hu w ⟨hS.os,hS.tape,hS.output,hS.size,hS.block⟩|>.imp λv hv=>⟨hv.1,qE.2 hv.2⟩,λf us u c b hc hb=>(hO.call f us u c b hc hb).imp_right λh1 vals w hS hd=>(h1 vals w ⟨hS.os,hS.tape,hS.output,hS.size,hS.block⟩ (Cz hd)).mono λe w' ⟨v,e1,e2,e3,e4⟩=>⟨v,e1,qE.2 e2,⟨e3.os,e3.tape,e3.output,e3.size,e3.block⟩,e4⟩,λo ov u hu ρ w hf hS hov=>(hO.oth o ov u hu ρ w hf ⟨hS.os,hS.tape,hS.output,hS.size,hS.block⟩ λx p hx=>qE.1 (hov x p hx)).imp λv hv=>⟨hv.1,qE.2 hv.2⟩⟩
theorem Sw.hint {w:World}{h:Nat->Option Bool}{lp:Nat}(hS:Sw M w):Sw {M with hint:=h,loops:=lp} w:=⟨hS.os,hS.tape,hS.output,hS.size,hS.block⟩
theorem fZ {n:Nat}{a:Act}{w:World}(h1:a.tmps.size=n)(h2:a.defers=[]):FrP M n [] a w:=⟨h1,h2,λ_ _ h=>by cases h⟩
theorem ah {n:Nat}{K:List (Nat×PV)}{a:Act}{w:World}{t:Nat}{u:PV}{v:Value}(h:FrP M n K a w)(h1:a.tmps[t]? =some v)(h2:Den M u v w):FrP M n ((t,u)::K) a w:=⟨h.size,h.defers,λs x hm=>by
 rcases List.mem_cons.1 hm with h3|h3
 ·cases h3;exact⟨v,h1,h2⟩
 ·exact h.look s x h3⟩
open Go.Proofs.YtnjjeapcalkmaaaGreatDoor.Ev (aR jd J2 EE)
def F9 (t:TypeId)(f:Nat):Option Nat:=if (t=34/\f<16)\/(t=35/\f<9)\/(t=129/\f<2)\/(t=24/\f<16)\/(t=26/\f<9)\/(t=91/\f<2)\/(t=169/\f<3)\/(t=251/\f<3)then some f
 else if t=37\/t=28 then[0,1,2,3,19][f]? else none
theorem PW {t:TypeId}{f d:Nat}(h:F9 t f=some d)(b j:Nat)(w:World):(Instr.fieldAt t (.pointer (some ⟨b,j,none⟩)) f).run Tryz.prog w=.ok (.pointer (some ⟨b,j+d,none⟩)) w:=by
 unfold F9 at h
 split at h
 ·rename_i h1
  cases h
  rcases h1 with⟨rfl,h2⟩|⟨rfl,h2⟩|⟨rfl,h2⟩|⟨rfl,h2⟩|⟨rfl,h2⟩|⟨rfl,h2⟩|⟨rfl,h2⟩|⟨rfl,h2⟩
  all_goals
   rcases f with _|_|_|_|_|_|_|_|_|_|_|_|_|_|_|_|f
   all_goals first|omega|go_simp
 split at h
 ·rename_i h1
  rcases h1 with rfl|rfl
  all_goals
   rcases f with _|_|_|_|_|f
   all_goals first|(cases h;go_simp)|cases h
 ·cases h
def Fj (b k j:Nat):Value->PV
 | .string x=>.s (b,x)
 | .bool x=>.v (.bool x)
 |_=>.r k j
def dV (B:Nat)(W:World)(fix:List Nat)(b:Nat)(rows:List (Option (Nat×Nat)×List Value))(call:FuncId->List PV->Option (PV×Bool×Option Prop)):Mem:=
 {B:=B,W:=W,fix:=fix,blk:=jd rows,cell:=aR rows,offs:=F9,call:=call,load:=λt k j=>match rows[k]? with
   |some (some _,l)=>if J2 t=true then(match l[j]? with
    |some v=>some (Fj b k j v)
    |none=>none)else(match EE t with
    |some n=>if j+n<=l.length then some (.a k j n)else none
    |none=>none)
   |_=>none}
theorem rz {B:Nat}{W:World}{fix:List Nat}{b:Nat}{rows:List (Option (Nat×Nat)×List Value)}{call:FuncId->List PV->Option (PV×Bool×Option Prop)}(hB:B<=W.heap.size)(hf:∀g∈fix,g<W.heap.size)
 (h2:∀(k g o:Nat) (l:List Value),rows[k]? =some (some (g,o),l)->(g<B\/g∈fix)/\∀w:World,w.heap[g]? =W.heap[g]?->∀(j:Nat) (v:Value),l[j]? =some v->w.cell? ⟨g,o+j,none⟩=some v)
 (hb:∀(k:Nat) (p:Nat×Nat) (l:List Value),rows[k]? =some (some p,l)->∀x,Value.string x∈l->x.size<=b)
 (h3:∀f us u c q,call f us=some (u,c,q)->(∀p,q=some p->p)->(∀args w,(callFunc f args).run Tryz.prog w=.ok (.enter f args) w)/\∀(vals:List Value) w,Sw (dV B W fix b rows call) w->jb (dV B W fix b rows call) us vals w->Calls Tryz.prog f vals.toArray w λe w'=>∃v,e=.returned v/\Den (dV B W fix b rows call) u v w'/\Sw (dV B W fix b rows call) w'/\(c=false->Below w.heap.size w w')):
 Ok Tryz.prog (dV B W fix b rows call):=by
 refine⟨⟨hB,hf⟩,λt f d h=>PW h,λt k j u h w hS=>?_,h3,λ_ _ _ h=>by cases h⟩
 have h:(match rows[k]? with
  |some (some _,l)=>if J2 t=true then(match l[j]? with
   |some v=>some (Fj b k j v)
   |none=>none)else(match EE t with
   |some n=>if j+n<=l.length then some (.a k j n)else none
   |none=>none)
  |_=>none)=some u:=h
 split at h
 ·rename_i p l hr
  obtain⟨g,o⟩:=p
  have hbk:(jd rows).getD k (0,0)=(g,o):=by simp[jd,hr]
  have hptr:(dV B W fix b rows call).ptr k j=.pointer (some ⟨g,o+j,none⟩):=by
   show Value.pointer (some ⟨((jd rows).getD k (0,0)).1,((jd rows).getD k (0,0)).2+j,none⟩)=_
   rw[hbk]
  obtain⟨hpr,hc⟩:=h2 k g o l hr
  have hcell:=hc w (hS.block g hpr)
  have hR:∀j (v:Value),l[j]? =some v->aR rows k j=v:=λj v hj=>by
   unfold aR
   simp[hr,hj]
  rw[hptr]
  split at h
  ·rename_i ht
   split at h
   ·rename_i v hv
    cases h
    refine⟨v,Ev.BF ht _ w _ (hcell j v hv),?_⟩
    unfold Fj
    split
    ·rename_i x
     show Value.string x=.string (st (b,x))
     rw[show st (b,x)=x from bF (hb k _ l hr x (List.mem_of_getElem? hv))]
    ·rfl
    ·show v=aR rows k j
     exact(hR j v hv).symm
   ·cases h
  ·split at h
   ·rename_i n hn
    split at h
    ·rename_i hj
     cases h
     refine⟨_,Ev.wM hn g (o+j) w (λi=>aR rows k (j+i)) λi hi=>?_,rfl⟩
     have hlt:j+i<l.length:=by omega
     rw[Nat.add_assoc,hR (j+i) _ (List.getElem?_eq_getElem hlt)]
     exact hcell (j+i) _ (List.getElem?_eq_getElem hlt)
    ·cases h
   ·cases h
 ·cases h
theorem nQ {W:World}{g:Nat}{l:List Value}{t:TypeId}(h:W.heap[g]? =some (.cells l.toArray t (0,0))):∀w:World,w.heap[g]? =W.heap[g]?->∀(j:Nat) (v:Value),l[j]? =some v->w.cell? ⟨g,0+j,none⟩=some v:=λw hw j v hv=>by
 rw[Nat.zero_add,cell_of_row _ _ _ _ _ _ (hw.trans h)]
 simpa using hv
def gF (f:FuncId)(args:Array Value)(w:World)(x:ByteArray):Prop:=Calls Tryz.prog f args w λe w'=>e=.returned (.string x)/\Below w.heap.size w w'
end Go.Proofs.YtnjjeapcalkmaaaGreatDoor.Se
namespace Go.Proofs.YtnjjeapcalkmaaaGreatDoor.Ps
open Go
abbrev Dg:=List UInt8
def GL (l:Dg):Prop:=∀c∈l,48<=c.toNat/\c.toNat<=57
def oZ:Nat->Dg->Nat
 |acc,[]=>acc
 |acc,c::l=>oZ (acc*10+(c.toNat-48)) l
theorem G5:∀(l:Dg) (acc:Nat),acc<=oZ acc l
 |[],acc=>Nat.le_refl _
 |c::l,acc=>by
  have:=G5 l (acc*10+(c.toNat-48))
  unfold oZ
  omega
theorem xk:∀(l:Dg) (acc:Nat),GL l->(oZ acc l<=100000000000000000->Lib.parseUintM (2^64-1) acc l=.ok (oZ acc l))/\(∀u,Lib.parseUintM (2^64-1) acc l=.ok u->u=oZ acc l)
 |[],acc,_=>⟨λ_=>rfl,λu h=>by cases h;rfl⟩
 |c::l,acc,hd=>by
  have hc:=hd c List.mem_cons_self
  have ih:=xk l (acc*10+(c.toNat-48)) λx hx=>hd x (List.mem_cons_of_mem _ hx)
  have hle:=G5 l (acc*10+(c.toNat-48))
  unfold Lib.parseUintM oZ
  rw[if_pos hc]
  refine⟨λh=>?_,λu h=>?_⟩
  ·rw[if_neg (by omega),if_neg (by omega)]
   exact ih.1 h
  ·split at h
   ·cases h
   ·split at h
    ·cases h
    ·exact ih.2 u h
theorem pI (l:Dg)(h:GL l)(h0:l≠[]):(oZ 0 l<=1000000000000000->Lib.parseIntB 64 l=.ok (oZ 0 l:Int))/\(∀v,Lib.parseIntB 64 l=.ok v->v=(oZ 0 l:Int)):=by
 cases l with
 |nil=>exact absurd rfl h0
 |cons c r=>
  have hc:=h c List.mem_cons_self
  have e43:¬c.toNat=43:=by omega
  have e45:¬c.toNat=45:=by omega
  obtain⟨p1,p2⟩:=xk (c::r) 0 h
  have hu:Lib.parseUintB 64 (c::r)=Lib.parseUintM (2^64-1) 0 (c::r):=by
   unfold Lib.parseUintB
   rw[if_neg (by simp)]
  have hI:∀x,Lib.parseUintM (2^64-1) 0 (c::r)=x->Lib.parseIntB 64 (c::r)=(match x with
   | .ok u=>if 2^63<=u then .range else .ok (u:Int)
   | .range=>.range
   |_=>Lib.parseIntB 64 (c::r)):=by
   intro x hx
   rcases x with u|_|_
   ·unfold Lib.parseIntB
    simp only[e43,e45,or_self,if_false,hu,hx]
    simp
   ·rfl
   ·unfold Lib.parseIntB
    simp only[e43,e45,or_self,if_false,hu,hx]
  constructor
  ·intro hn
   rw[hI _ (p1 (by omega))]
   simp only
   rw[if_neg (by omega)]
  ·intro v hv
   rcases hp:Lib.parseUintM (2^64-1) 0 (c::r)with u|_|_
   ·rw[hI _ hp]at hv
    simp only at hv
    split at hv
    ·cases hv
    ·cases hv
     rw[p2 u hp]
   ·exfalso
    unfold Lib.parseIntB at hv
    simp only[e43,e45,or_self,if_false,hu,hp]at hv
    cases hv
   ·rw[hI _ hp]at hv
    cases hv
theorem j3:∀(l:Dg) (x:Nat) (c:UInt8),oZ x (l++[c])=oZ x l*10+(c.toNat-48)
 |[],x,c=>rfl
 |d::l,x,c=>by
  rw[List.cons_append]
  conv=>lhs;unfold oZ
  rw[j3 l _ c]
  rfl
def dgt (n:Nat):UInt8:=UInt8.ofNat (48+n)
theorem qF {α:Type}{l:List α}(l':List α)(h:l≠[]):(l++l').head? =l.head?:=by
 cases l with
 |nil=>exact absurd rfl h
 |cons x l=>rfl
abbrev dec (n:Nat):List UInt8:=Lib.decDigits n
theorem kQ {n:Nat}(h:n<10):dec n=[dgt n]:=Lib.decDigits_one h
theorem xI {n:Nat}(h:¬n<10):dec n=dec (n/10)++[dgt (n%10)]:=by
 show Lib.decDigits n=_
 rw[Lib.decDigits,dif_neg h]
 rfl
theorem fQ (n:Nat)(h:n<10):(dgt n).toNat=48+n:=by
 unfold dgt
 rw[UInt8.toNat_ofNat']
 omega
theorem di (n:Nat):GL (dec n)/\dec n≠[]/\oZ 0 (dec n)=n/\(1<=n->∀c,(dec n).head? =some c->c≠48):=by
 induction n using Nat.strongRecOn with
 |ind n ih=>
  by_cases h:n<10
  ·rw[kQ h]
   have ht:=fQ n h
   refine⟨λc hc=>?_,List.cons_ne_nil _ _,?_,λh1 c hc=>?_⟩
   ·rw[List.mem_singleton]at hc;rw[hc];omega
   ·have h5:=j3 [] 0 (dgt n)
    rw[ht]at h5
    exact h5.trans (by show 0*10+(48+n-48)=n;omega)
   ·replace hc:dgt n=c:=Option.some.inj hc
    rintro rfl
    have:=congrArg UInt8.toNat hc
    rw[ht]at this
    have e:(48:UInt8).toNat=48:=rfl
    omega
  ·obtain⟨h1,h2,h3,h4⟩:=ih (n/10) (by omega)
   rw[xI h]
   have ht:=fQ (n%10) (by omega)
   refine⟨λc hc=>?_,by simp,?_,λ_ c hc=>?_⟩
   ·rcases List.mem_append.1 hc with hc|hc
    ·exact h1 c hc
    ·rw[List.mem_singleton]at hc;rw[hc];omega
   ·rw[j3,h3,ht];omega
   ·refine h4 (by omega) c ?_
    rw[qF _ h2]at hc
    exact hc
theorem jM:∀(k n:Nat),n<10^(k+1)->(dec n).length<=k+1
 |0,n,h=>by rw[kQ (by omega)];simp
 |k+1,n,h=>by
  by_cases hn:n<10
  ·rw[kQ hn];simp
  ·rw[xI hn,List.length_append]
   have hp:10^(k+1+1)=10^(k+1)*10:=Nat.pow_succ 10 (k+1)
   have:=jM k (n/10) (by omega)
   simp;omega
theorem xR {l:List UInt8}(h:GL l):l.all (λc=>Lx.digit (c.toNat:Int))=true:=by
 rw[List.all_eq_true]
 intro c hc
 have:=h c hc
 unfold Lx.digit
 simp;omega
theorem vU {l:List UInt8}(h:GL l):Lx.gm l=true:=by
 unfold Lx.gm
 rw[List.all_eq_true]
 intro c hc
 have:=h c hc
 unfold Lx.blank
 simp;omega
theorem Dh (l:List UInt8)(h:∀c,l[4]? =some c->c≠45):Lx.gY l=false:=by
 unfold Lx.gY
 by_cases hl:l.length=10
 ·have h4:Lx.yS 4 (Lx.at_ l 4)=false:=by
   have h5:=h l[4] (List.getElem?_eq_getElem (by omega))
   have e:Lx.at_ l 4=(l[4].toNat:Int):=by
    unfold Lx.at_
    rw[List.getD_eq_getElem?_getD,List.getElem?_eq_getElem (by omega)];rfl
   rw[e]
   unfold Lx.yS
   simp only[true_or,if_true,decide_eq_false_iff_not]
   intro hc
   apply h5
   apply UInt8.toNat.inj
   have e45:(45:UInt8).toNat=45:=rfl
   omega
  rw[Bool.and_eq_false_iff]
  right
  rw[List.all_eq_false]
  exact⟨4,by simp,by simp[h4]⟩
 ·simp[hl]
theorem pM {c:UInt8}(h:48<=c.toNat):c≠45:=by
 rintro rfl
 have e45:(45:UInt8).toNat=45:=rfl
 omega
theorem zz (n:Nat)(h1:1<=n)(h2:n<=1000000000000000):Lx.aC ⟨(dec n).toArray⟩=(2,0):=by
 obtain⟨d1,d2,d3,d4⟩:=di n
 have dl:=jM 15 n (by omega)
 have hsz:(⟨(dec n).toArray⟩:ByteArray).size=(dec n).length:=rfl
 have hd:(⟨(dec n).toArray⟩:ByteArray).data.toList=dec n:=rfl
 have hrd:Lx.gY (dec n)=false:=Dh _ λc hc=>pM (d1 c (List.mem_of_getElem? hc)).1
 have hw:Lx.whole (dec n)=true:=by
  unfold Lx.whole Lx.all
  rw[xR d1]
  have he:(dec n).isEmpty=false:=by simp[d2]
  rw[he]
  have hh:((dec n).head? ==some 48)=false:=by
   rw[beq_eq_false_iff_ne]
   intro hc
   exact d4 h1 _ hc rfl
  rw[hh]
  simp
 unfold Lx.aC
 rw[Lx.qM,hd,hrd,hsz,hw]
 rw[if_neg (by omega)]
 simp only[Bool.false_eq_true,if_false,Bool.true_and]
 rw[if_pos (by simpa using dl)]
def bq (n:Nat):List UInt8:=dec (n/100)++[46,dgt (n/10%10),dgt (n%10)]
theorem qQ (n:Nat)(h2:n<=1000000000000000):(bq n).length<=17:=by
 have:=jM 13 (n/100) (by omega)
 unfold bq
 simp;omega
theorem Cy (n:Nat):Lx.gm (bq n)=true:=by
 have e1:Lx.gm (dec (n/100))=true:=vU (di (n/100)).1
 have t1:=fQ (n/10%10) (by omega)
 have t2:=fQ (n%10) (by omega)
 unfold bq
 unfold Lx.gm at e1⊢
 rw[List.all_append,e1]
 simp only[List.all_cons,List.all_nil,t1,t2,Lx.blank]
 simp;omega
theorem KV (n:Nat):Lx.whole (dec n)=true:=by
 obtain⟨d1,d2,d3,d4⟩:=di n
 unfold Lx.whole Lx.all
 rw[xR d1]
 have he:(dec n).isEmpty=false:=by simp[d2]
 rw[he]
 by_cases h0:n<10
 ·rw[kQ h0];simp
 ·have hh:((dec n).head? ==some 48)=false:=by
   rw[beq_eq_false_iff_ne]
   intro hc
   exact d4 (by omega) _ hc rfl
  rw[hh]
  simp
theorem A9 {n:Nat}{c:UInt8}(hc:c.toNat<48):c∉dec n:=λh=>by
 have:=(di n).1 c h
 omega
theorem xW (n:Nat):Lib.trimPrefix (bq n) [45]=bq n:=by
 rw[Lx.IC]
 unfold Lx.bi
 rw[if_neg]
 obtain⟨d1,d2,_⟩:=di (n/100)
 unfold bq
 intro h
 rw[qF _ d2]at h
 exact A9 (by decide) (List.mem_of_mem_head? h)
theorem yh (n:Nat):Lib.cut (bq n) [46]=(dec (n/100),[dgt (n/10%10),dgt (n%10)],true):=Lx.ug _ _ (A9 (by decide))
theorem vg (n:Nat):GL [dgt (n/10%10),dgt (n%10)]:=λc hc=>by
 have t1:=fQ (n/10%10) (by omega)
 have t2:=fQ (n%10) (by omega)
 simp at hc
 rcases hc with rfl|rfl<;>omega
theorem xg (n:Nat)(h2:n<=1000000000000000):Lx.aC ⟨(bq n).toArray⟩=(3,0):=by
 obtain⟨d1,d2,d3,d4⟩:=di (n/100)
 have dl:=qQ n h2
 have hsz:(⟨(bq n).toArray⟩:ByteArray).size=(bq n).length:=rfl
 have hd:(⟨(bq n).toArray⟩:ByteArray).data.toList=bq n:=rfl
 have hrd:Lx.gY (bq n)=false:=Dh _ λc hc=>by
  have hm:=List.mem_of_getElem? hc
  unfold bq at hm
  rcases List.mem_append.1 hm with hm|hm
  ·exact pM (d1 c hm).1
  ·rcases List.mem_cons.1 hm with rfl|hm
   ·decide
   ·exact pM (vg n c hm).1
 have hw:Lx.whole (bq n)=false:=by
  unfold Lx.whole Lx.all
  have:(bq n).all (λc=>Lx.digit (c.toNat:Int))=false:=by
   rw[List.all_eq_false]
   exact⟨46,by unfold bq;simp,by decide⟩
  rw[this]
  simp
 have GZ:Lx.decimal (bq n)=true:=by
  unfold Lx.decimal
  rw[xW,yh]
  have h45:(bq n==[45,48,46,48,48])=false:=by
   rw[beq_eq_false_iff_ne]
   intro he
   have hh:=congrArg List.head? he
   unfold bq at hh
   rw[qF _ d2]at hh
   exact A9 (by decide) (List.mem_of_mem_head? hh)
  rw[h45]
  have ha:Lx.all Lx.digit [dgt (n/10%10),dgt (n%10)]=true:=by
   unfold Lx.all
   rw[xR (vg n)];rfl
  simp only[KV,ha]
  rfl
 unfold Lx.aC
 rw[Lx.qM,hd,hrd,hsz,hw,GZ]
 rw[if_neg (by omega)]
 simp
theorem IZ (n:Nat):GL (dec (n/100)++[dgt (n/10%10),dgt (n%10)])/\oZ 0 (dec (n/100)++[dgt (n/10%10),dgt (n%10)])=n:=by
 obtain⟨d1,d2,d3,d4⟩:=di (n/100)
 refine⟨λc hc=>?_,?_⟩
 ·rcases List.mem_append.1 hc with hc|hc
  ·exact d1 c hc
  ·exact vg n c hc
 ·have t1:=fQ (n/10%10) (by omega)
  have t2:=fQ (n%10) (by omega)
  rw[show dec (n/100)++[dgt (n/10%10),dgt (n%10)]=(dec (n/100)++[dgt (n/10%10)])++[dgt (n%10)]from by simp]
  rw[j3,j3,d3,t1,t2]
  omega
theorem gX (s:ByteArray)(h:Lx.all Lx.named s.data.toList=true)(hs:s.size<=32):∃k∈([1,2,4]:List Int),Lx.aC s=(k,0):=by
 have GZ:Lx.decimal s.data.toList=false:=by
  rw[Lx.wU]
  unfold Lx.dh Lx.xz
  rw[Bool.and_eq_false_iff]
  right
  rw[Bool.and_eq_false_iff];left
  rw[Bool.and_eq_false_iff];left
  rw[Bool.and_eq_false_iff];left
  by_cases hl:4<=(Lx.bi s.data.toList).length
  ·rw[Bool.and_eq_false_iff];right
   rw[decide_eq_false_iff_not]
   intro hc
   have hm:∀c∈Lx.bi s.data.toList,c∈s.data.toList:=λc hc=>by
    unfold Lx.bi at hc
    split at hc
    ·exact List.mem_of_mem_drop hc
    ·exact hc
   have hi:(Lx.bi s.data.toList).length-3<(Lx.bi s.data.toList).length:=by omega
   have e:Lx.at_ (Lx.bi s.data.toList) ((Lx.bi s.data.toList).length-3)=((Lx.bi s.data.toList)[(Lx.bi s.data.toList).length-3].toNat:Int):=by
    unfold Lx.at_
    rw[List.getD_eq_getElem?_getD,List.getElem?_eq_getElem hi];rfl
   rw[e]at hc
   have hmem:=hm _ (List.getElem_mem hi)
   unfold Lx.all at h
   rw[Bool.and_eq_true,List.all_eq_true]at h
   have:=h.2 _ hmem
   rw[hc]at this
   revert this
   decide
  ·rw[Bool.and_eq_false_iff];left
   simpa using hl
 unfold Lx.aC
 rw[if_neg (by omega),GZ,h]
 by_cases h1:Lx.date s=true
 ·rw[if_pos h1];exact⟨4,by simp,rfl⟩
 ·rw[if_neg h1]
  by_cases h2:(Lx.whole s.data.toList&&decide (s.size<=16))=true
  ·rw[if_pos h2];exact⟨2,by simp,rfl⟩
  ·rw[if_neg h2];exact⟨1,by simp,by simp⟩
theorem wX (s:ByteArray)(h:Lx.all Lx.named s.data.toList=true)(hs:s.size<=32)(c:UInt8)(hc:s.data.toList.head? =some c)(hu:Lx.upper (c.toNat:Int)=true):Lx.aC s=(1,0):=by
 obtain⟨l,hl⟩:∃l,s.data.toList=l:=⟨_,rfl⟩
 have hnd:Lx.digit (c.toNat:Int)=false:=by
  unfold Lx.upper at hu
  unfold Lx.digit
  simp at hu⊢
  omega
 obtain⟨k,hk,h1⟩:=gX s h hs
 rw[hl]at hc
 cases l with
 |nil=>cases hc
 |cons x l=>
  simp at hc
  subst hc
  have hrd:Lx.date s=false:=by
   rw[Lx.qM,hl]
   unfold Lx.gY
   rw[Bool.and_eq_false_iff];right
   rw[List.all_eq_false]
   refine⟨0,by simp,?_⟩
   have:Lx.yS 0 (Lx.at_ (x::l) 0)=Lx.digit (x.toNat:Int):=rfl
   rw[this,hnd]
   simp
  have hw:Lx.whole s.data.toList=false:=by
   rw[hl]
   unfold Lx.whole Lx.all
   rw[List.all_cons,hnd]
   simp
  unfold Lx.aC at h1⊢
  rw[if_neg (by omega)]at h1⊢
  rw[hrd,hw]at h1⊢
  simp only[Bool.false_eq_true,if_false,Bool.false_and,h]at h1⊢
  by_cases hd:Lx.decimal s.data.toList=true
  ·rw[if_pos hd]at h1
   cases h1
   simp at hk
  ·rw[if_neg hd]
   rfl
theorem su {l:List UInt8}(h:Lx.all Lx.named l=true):Lx.gm l=true/\l≠[]:=by
 unfold Lx.all at h
 rw[Bool.and_eq_true,List.all_eq_true]at h
 refine⟨?_,λh0=>by rw[h0]at h;simp at h⟩
 unfold Lx.gm
 rw[List.all_eq_true]
 intro c hc
 have:=h.2 c hc
 unfold Lx.named Lx.upper Lx.digit at this
 unfold Lx.blank
 simp at this⊢
 omega
def ae (l:List Tok)(a:Nat)(k:Int)(t:ByteArray):Prop:=∃o,l[a]? =some (k,t,o)
theorem ae.lt {l:List Tok}{a:Nat}{k:Int}{t:ByteArray}(h:ae l a k t):a<l.length:=by
 obtain⟨o,h⟩:=h
 exact(List.getElem?_eq_some_iff.1 h).1
theorem dX {l:List Tok}{a:Nat}{t:ByteArray}(h:ae l a 0 t):aQ l a=t:=by
 obtain⟨o,h⟩:=h
 simp only[aQ,h]
 rfl
theorem fB {l:List Tok}{a:Nat}{t:ByteArray}{w:Bs}(h:ae l a 0 t)(hw:t.data.toList=w):word l w a=.ok ((),a+1):=by
 unfold word
 rw[if_neg (by have:=h.lt;omega),dX h,if_pos hw]
theorem take_at {α:Type}{l:List Tok}{a:Nat}{k:Int}{t:ByteArray}{f:ByteArray->α×Int}{ks:List Int}(h:ae l a k t)(hk:k∈ks)(x:α)(hf:f t=(x,0)):take l f ks a=.ok (x,a+1):=by
 obtain⟨o,h⟩:=h
 unfold take
 simp only[h,if_pos hk,hf,if_true]
theorem pg {E:Env}{l:List Tok}{a:Nat}{k:Int}{t:ByteArray}{n:Nat}{ks:List Int}(h:ae l a k t)(hk:k∈ks)(hf:E.valid n t=true):ident E l n ks a=.ok (t,a+1):=take_at h hk t (by rw[if_pos hf])
theorem pK {E:Env}{l:List Tok}{a:Nat}{t:ByteArray}(h:ae l a 4 t)(x:Int)(hf:E.date t=(x,0)):day E l a=.ok (x,a+1):=take_at h (by simp) x (by rw[hf];rfl)
theorem BQ {E:Env}{l:List Tok}{a:Nat}{t:ByteArray}(h:ae l a 3 t)(x:Int)(hf:E.cash t=(x,0)):cash E l a=.ok (x,a+1):=take_at h (by simp) x hf
theorem mg {E:Env}{l:List Tok}{a:Nat}{t:ByteArray}(h:ae l a 2 t)(x:Int)(hf:E.number t=(x,0)):quantity E l a=.ok (x,a+1):=take_at h (by simp) x hf
section
variable (E : Env) (l : List Tok) (f : Nat) (s : Seen) (i : Ins) (a : Nat)
theorem Nf (hlt:a<l.length)(p:Int)(hp:prio (aQ l a).data.toList=some p):options E l (f+1) s i a=if s.prio=true then .error (ai l a,7)else options E l f {s with prio:=true} {i with priority:=p} (a+1):=by
 conv=>lhs;unfold options
 rw[if_neg (by omega),hp]
 simp only[]
 by_cases h:s.prio=true
 ·rw[if_pos h,if_pos h];rfl
 ·rw[if_neg h,if_neg h]
theorem LY (hlt:a<l.length)(hw:(aQ l a).data.toList=aM):options E l (f+1) s i a=if s.part=true then .error (ai l a,7)else bind' (quantity E l) (λn=>options E l f {s with part:=true} {i with partial_:=true,minLot:=n}) (a+1):=by
 conv=>lhs;unfold options
 rw[if_neg (by omega),hw,show prio aM=none from by decide]
 simp only[if_true]
 by_cases h:s.part=true
 ·rw[if_pos h,if_pos h];rfl
 ·rw[if_neg h,if_neg h]
theorem NB (hlt:a<l.length)(hw:(aQ l a).data.toList=bz):options E l (f+1) s i a=if s.hold=true then .error (ai l a,7)else options E l f {s with hold:=true} {i with hold:=true} (a+1):=by
 conv=>lhs;unfold options
 rw[if_neg (by omega),hw,show prio bz=none from by decide]
 simp only[]
 rw[if_neg (by decide),if_pos trivial]
 by_cases h:s.hold=true
 ·rw[if_pos h,if_pos h];rfl
 ·rw[if_neg h,if_neg h]
theorem Oe (hlt:a<l.length)(hw:(aQ l a).data.toList=bV):options E l (f+1) s i a=if s.res=true then .error (ai l a,7)else options E l f {s with res:=true} {i with reserve:=true} (a+1):=by
 conv=>lhs;unfold options
 rw[if_neg (by omega),hw,show prio bV=none from by decide]
 simp only[]
 rw[if_neg (by decide),if_neg (by decide),if_pos trivial]
 by_cases h:s.res=true
 ·rw[if_pos h,if_pos h];rfl
 ·rw[if_neg h,if_neg h]
theorem Mx (hlt:a<l.length)(hw:(aQ l a).data.toList=iV):options E l (f+1) s i a=bind' (ref E l) (λr=>options E l f s {i with links:=i.links++[⟨0,r⟩]}) (a+1):=by
 conv=>lhs;unfold options
 rw[if_neg (by omega),hw,show prio iV=none from by decide]
 simp only[]
 rw[if_neg (by decide),if_neg (by decide),if_neg (by decide),if_pos trivial]
theorem Jz (hlt:a<l.length)(hw:(aQ l a).data.toList=eF):options E l (f+1) s i a=bind' (ref E l) (λr=>options E l f s {i with links:=i.links++[⟨1,r⟩]}) (a+1):=by
 conv=>lhs;unfold options
 rw[if_neg (by omega),hw,show prio eF=none from by decide]
 simp only[]
 rw[if_neg (by decide),if_neg (by decide),if_neg (by decide),if_neg (by decide),if_pos trivial]
end
theorem Qu (E:Env)(l:List Tok)(f:Nat)(s:Seen)(i:Ins)(a:Nat)(h:l.length<=a):options E l (f+1) s i a=.ok (i,a):=by
 conv=>lhs;unfold options
 rw[if_pos h]
end Go.Proofs.YtnjjeapcalkmaaaGreatDoor.Ps
