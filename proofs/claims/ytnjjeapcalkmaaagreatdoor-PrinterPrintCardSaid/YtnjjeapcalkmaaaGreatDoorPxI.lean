/-
  Part 9 of a proof; written short by a program out of longer texts of mine.
-/
import Derived.Test.YtnjjeapcalkmaaaGreatDoorPxH
set_option maxRecDepth 100000
set_option maxHeartbeats 4000000
set_option linter.unusedVariables false
set_option linter.unusedSimpArgs false
namespace Go.Proofs.YtnjjeapcalkmaaaGreatDoor
open Go.RowKit
open Go.Proofs.YtnjjeapcalkmaaaGreatDoor.Ord
open Go.Proofs.YtnjjeapcalkmaaaGreatDoor.Ev (AV Mem Fr lX aM fe Sh Stop Qof aX cK bL fU mJ fmC)
def Sz (s:ByteArray):Prop:=s.size<=9223372036854775807
def jI (i:Ps.Ins):Prop:=Sz i.ref/\Sz i.sender/\Sz i.counterparty/\Sz i.asset/\∀x∈i.links,Sz x.ref
theorem Ue:∀args w,(callFunc 41 args).run Tryz.prog w=.ok (.enter 41 args) w:=enters_of Tryz.func41 (by kernel_rfl) rfl
theorem bytes_inj {s t:ByteArray}(h:(s.toList==t.toList)=true):s=t:=by
 have h1:=beq_iff_eq.1 h
 rw[Lib.toList_data,Lib.toList_data]at h1
 exact ByteArray.ext (Array.toList_inj.1 h1)
theorem PO (p:Addr)(w:World)(a:Option Addr)(n c:Nat)(h:w.cell? p=some (.slice a n c)):(Instr.loadAt 22 (.pointer (some p))).run Tryz.prog w=.ok (.slice a n c) w:=by go_simp
def zI (w:World)(g so:Nat)(ks:List Ps.Link):Prop:=∀(j:Nat) (x:Ps.Link),ks[j]? =some x->w.cell? ⟨g,so+j*2,none⟩=some (.int .i64 x.type)/\w.cell? ⟨g,so+j*2+1,none⟩=some (.string x.ref)
theorem zI.of {w:World}{g:Nat}{ks:List Ps.Link}(h:nO w g ks):zI w g 0 ks:=λj x hj=>by
 rw[Nat.zero_add]
 exact h j x hj
def dI (w:World)(sa:Option Addr)(n:Nat)(ks:List Ps.Link):Prop:=0<n->∃sb so,sa=some ⟨sb,so,none⟩/\∀W,Below w.heap.size w W->zI W sb so ks
theorem dI.of {w:World}{sa:Option Addr}{n:Nat}{ks:List Ps.Link}(h:0<n->∃sb,sa=some ⟨sb,0,none⟩/\∀W,Below w.heap.size w W->nO W sb ks):dI w sa n ks:=λhn=>by
 obtain⟨sb,e,h⟩:=h hn
 exact⟨sb,0,e,λW hW=>.of (h W hW)⟩
theorem dI.below {w w':World}{sa:Option Addr}{n:Nat}{ks:List Ps.Link}(h:dI w sa n ks)(hb:Below w.heap.size w w'):dI w' sa n ks:=λhn=>by
 obtain⟨sb,so,e,h⟩:=h hn
 exact⟨sb,so,e,λW hW=>h W (hb.trans (hW.mono hb.size))⟩
theorem Oq (sb p:Nat)(x:Ps.Link)(w:World)(h1:w.cell? ⟨sb,p,none⟩=some (.int .i64 x.type))(h2:w.cell? ⟨sb,p+1,none⟩=some (.string x.ref)):(Instr.loadAt 91 (.pointer (some ⟨sb,p,none⟩))).run Tryz.prog w=.ok (.agg #[.int .i64 x.type,.string x.ref]) w:=by go_simp
theorem F9 {S:World->Prop}{ρ:Operand->Value}{o:Oper}{x y:Operand}{sb so n c k:Nat}(ho:o.op=.indexAddr 22 x y)(h1:ρ x=.slice (some ⟨sb,so,none⟩) n c)(h2:ρ y=.int .i64 (k:Int))(hk:k<n):YB Tryz.prog S ρ o (.pointer (some ⟨sb,so+k*2,none⟩)):=λw hS=>by
 have TV:(k:Int)<(n:Int):=by omega
 unfold execOp
 simp only[ho,h1,h2]
 go_simp
 exact⟨rfl,hS⟩
theorem R9 {b:Act}{t:Nat}{v:Value}(hlt:t<b.tmps.size)(h:b.eval (.tmp t)=v):b.tmps[t]? =some v:=Ev.Uk hlt h
def qU (t:TypeId)(f:Nat):Option Nat:=if (t=24/\f<16)\/(t=91/\f<2)then some f else none
def Ih (V:Nat->ByteArray->Bool)(rows:List (Option (Nat×Nat)×List Value))(f:FuncId)(vs:List AV):Option Value:=
 if f=93 then(match vs.map (fe rows)with|[.int .i64 n]=>some (.bool (yw n))|_=>none)
 else if f=41 then(match vs with
  |[.v (.int .i64 k),.r p j]=>if (k=0\/k=1\/k=2)/\((p=0/\(j=0\/j=2\/j=3\/j=5))\/(p=2/\j=1))then(match aM rows p j with| .string s=>some (.bool (V k.toNat s))|_=>none)else none
  |_=>none)
 else none
def Ah (rows:List (Option (Nat×Nat)×List Value))(o:Oper)(ov:Operand->Option AV):Option AV:=match o.op with
 | .call ⟨.builtin .len,xs,ts⟩=>(match xs.toList,ts.toList with
   |[x],[t]=>if o.type=3/\t=22 then(match ov x with
    |some a=>match fe rows a with
     | .slice _ n _=>some (.v (.int .i64 (n:Int)))
     |_=>none
    |none=>none)else none
   |_,_=>none)
 |_=>none
theorem zt {rows:List (Option (Nat×Nat)×List Value)}{o:Oper}{ov:Operand->Option AV}{v:AV}(h:Ah rows o ov=some v){ρ:Operand->Value}(hov:∀x u,ov x=some u->ρ x=fe rows u)(w:World):(execOp ρ o).run Tryz.prog w=.ok (.value (fe rows v)) w:=by
 unfold Ah at h
 split at h
 ·rename_i xs ts ho
  split at h
  ·rename_i x t hx ht2
   split at h
   ·rename_i ht
    obtain⟨ht,rfl⟩:=ht
    split at h
    ·rename_i a ha
     split at h
     ·rename_i sa n c hv
      cases h
      have h1:=hov _ _ ha
      rw[hv]at h1
      have hxs:xs=#[x]:=by rw[<-Array.toArray_toList (xs:=xs),hx]
      have hts:ts=#[22]:=by rw[<-Array.toArray_toList (xs:=ts),ht2]
      subst hxs
      subst hts
      unfold execOp
      simp only[ho,ht]
      go_simp
      rfl
     ·cases h
    ·cases h
   ·cases h
  ·cases h
 ·cases h
def Dy (rows:List (Option (Nat×Nat)×List Value))(o:Oper)(ov:Operand->Option AV):Option AV:=match o.op with
 | .indexAddr t x y=>if t=22 then(match ov x,ov y with
   |some (.r 0 15),some (.r 1 1)=>(match aM rows 0 15,aM rows 1 1 with
    | .slice _ _ _,.int .i64 _=>some (.p 3 0)
    |_,_=>none)
   |_,_=>none)else none
 |_=>Ah rows o ov
def wU (V:Nat->ByteArray->Bool)(rows:List (Option (Nat×Nat)×List Value)):Mem Unit:=lX qU rows (Ih V rows) (Dy rows)
theorem qm {t:TypeId}{f d:Nat}(h:qU t f=some d)(b j:Nat)(w:World):(Instr.fieldAt t (.pointer (some ⟨b,j,none⟩)) f).run Tryz.prog w=.ok (.pointer (some ⟨b,j+d,none⟩)) w:=by
 unfold qU at h
 split at h
 ·rename_i h1
  cases h
  rcases h1 with⟨rfl,h2⟩|⟨rfl,h2⟩
  ·rcases f with _|_|_|_|_|_|_|_|_|_|_|_|_|_|_|_|f
   all_goals first|omega|go_simp
  ·rcases f with _|_|f
   all_goals first|omega|go_simp
 ·cases h
theorem Bw {V:Nat->ByteArray->Bool}{rows:List (Option (Nat×Nat)×List Value)}{S:World->Prop}(hb:∀w w',S w->Below w.heap.size w w'->S w')(hrow:∀(k b o:Nat) (l:List Value),rows[k]? =some (some (b,o),l)->∀w,S w->∀(j:Nat) (v:Value),l[j]? =some v->w.cell? ⟨b,o+j,none⟩=some v)
 (cV:∀(W:World) (k:Nat) (s:ByteArray),k<3->Sz s->S W->Calls Tryz.prog 41 #[.int .i64 k,.string s] W λe w'=>e=.returned (.bool (V k s))/\Below W.heap.size W w')
 (hz:∀p j s,(p=0/\(j=0\/j=2\/j=3\/j=5))\/(p=2/\j=1)->aM rows p j=.string s->Sz s)
 (hix:∀(sb:Option Addr) (n c:Nat) (m:Int),aM rows 0 15=.slice sb n c->aM rows 1 1=.int .i64 m->∃(b bo k:Nat),sb=some ⟨b,bo,none⟩/\m=(k:Int)/\k<n/\∃l,rows[3]? =some (some (b,bo+k*2),l)):Ev.Ok Tryz.prog (λ_ w=>S w) (wU V rows):=by
 refine Ev.jw (λt f d h=>qm h) hrow (λf vs v h=>?_) (λo ov v h ρ hov w hS=>?_)
 ·unfold Ih at h
  split at h
  ·rename_i hf
   subst hf
   split at h
   ·rename_i hm
    cases h
    rw[hm]
    exact⟨Uj,λw hS=>(ED w _).mono λe w' k=>⟨k.1,hb _ _ hS k.2⟩⟩
   ·cases h
  ·split at h
   ·rename_i hf
    subst hf
    split at h
    ·split at h
     ·rename_i k p j hk
      split at h
      ·rename_i s hs
       cases h
       refine⟨Ue,λw hS=>?_⟩
       obtain⟨n,hn,hk3⟩:∃n:Nat,k=(n:Int)/\n<3:=by
        rcases hk.1 with rfl|rfl|rfl
        ·exact⟨0,rfl,by decide⟩
        ·exact⟨1,rfl,by decide⟩
        ·exact⟨2,rfl,by decide⟩
       subst hn
       have:=cV w n s hk3 (hz p j s hk.2 hs) hS
       simp only[List.map_cons,List.map_nil,fe,hs]
       exact this.mono λe w' q=>⟨q.1,hb _ _ hS q.2⟩
      ·cases h
     ·cases h
    ·cases h
   ·cases h
 ·unfold Dy at h
  split at h
  ·rename_i t x y ho
   split at h
   ·rename_i ht
    subst ht
    split at h
    ·rename_i h1 h2
     split at h
     ·rename_i sa n c m h3 h4
      cases h
      obtain⟨b,bo,k,rfl,rfl,hk,l,h5⟩:=hix _ _ _ _ h3 h4
      have e1:ρ x=.slice (some ⟨b,bo,none⟩) n c:=(hov _ _ h1).trans h3
      have e2:ρ y=.int .i64 (k:Int):=(hov _ _ h2).trans h4
      have hb3:(Ev.j5 rows).getD 3 (0,0)=(b,bo+k*2):=by simp[Ev.j5,h5]
      have hv:fe rows (.p 3 0)=.pointer (some ⟨b,bo+k*2,none⟩):=by
       show Value.pointer (some ⟨((Ev.j5 rows).getD 3 (0,0)).1,((Ev.j5 rows).getD 3 (0,0)).2+0,none⟩)=_
       rw[hb3]
       rfl
      have TV:(k:Int)<(n:Int):=by omega
      rw[hv]
      unfold execOp
      simp only[ho,e1,e2]
      go_simp
     ·cases h
    ·cases h
   ·cases h
  ·exact zt h hov w
theorem al_L {ρ:Operand->Value}{o:Oper}(ho:o.op=.alloc 91)(W:World):(execOp ρ o).run Tryz.prog W=.ok (.value (.pointer (some ⟨W.heap.size,0,none⟩))) (W.alloc (.cells #[.int .i64 0,.string ByteArray.empty] 91)):=by
 unfold execOp;rw[ho];go_simp;first|done|rfl
theorem st_L {ρ:Operand->Value}{o:Oper}{x y:Operand}{n:Int}{s:ByteArray}(ho:o.op=.store 91 x y)(W:World)(e1:ρ x=.pointer (some ⟨W.heap.size,0,none⟩))(e2:ρ y=.agg #[.int .i64 n,.string s]):(execOp ρ o).run Tryz.prog (W.alloc (.cells #[.int .i64 0,.string ByteArray.empty] 91))=.ok .skip (W.alloc (.cells #[.int .i64 n,.string s] 91)):=by
 unfold execOp;simp only[ho,e1,e2];go_simp;first|done|rfl
noncomputable def insB:Code:=Tryz.f42.body.getD .skip
noncomputable def ol:Code×List Ev.Fm:=aX cK insB
noncomputable def yg:Code×List Ev.Fm:=aX (bL 37) (fU ol.1)
noncomputable def Nc:Code:=fmC yg.2 0
noncomputable def zX:Code×List Ev.Fm:=aX cK Nc
def Eg (g:Nat)(i:Ps.Ins)(lv:Value)(k:Nat):List (Option (Nat×Nat)×List Value):=[(some (g,0),aA i lv),(none,[.int .i64 k])]
def PY (g:Nat)(i:Ps.Ins)(lv:Value)(k h:Nat)(x:Ps.Link):List (Option (Nat×Nat)×List Value):=[(some (g,0),aA i lv),(none,[.int .i64 k]),(some (h,0),[.int .i64 x.type,.string x.ref])]
def UX (g:Nat)(i:Ps.Ins)(lv:Value)(k h:Nat)(x:Ps.Link)(m sb so:Nat)(y:Ps.Link):List (Option (Nat×Nat)×List Value):=[(some (g,0),aA i lv),(none,[.int .i64 k,.int .i64 m]),(some (h,0),[.int .i64 x.type,.string x.ref]),(some (sb,so+m*2),[.int .i64 y.type,.string y.ref])]
theorem iQ {S:World->Prop}{b:Nat}{l:List Value}{ty:TypeId}(h:∀w,S w->w.heap[b]? =some (.cells l.toArray ty (0,0))):∀w,S w->∀(j:Nat) (v:Value),l[j]? =some v->w.cell? ⟨b,0+j,none⟩=some v:=λw hS j v hv=>by
 rw[Nat.zero_add,cell_of_row _ _ _ _ _ _ (h w hS)]
 simpa using hv
theorem Gg {i:Ps.Ins}{lv:Value}{j:Nat}{s:ByteArray}{r:List (Option (Nat×Nat)×List Value)}{o:Option (Nat×Nat)}(hG:jI i)(hj:j=0\/j=2\/j=3\/j=5)(h:aM ((o,aA i lv)::r) 0 j=.string s):Sz s:=by
 obtain⟨h1,h2,h3,h4,-⟩:=hG
 rcases hj with rfl|rfl|rfl|rfl<;>cases h<;>assumption
theorem qy (w:World)(V:Nat->ByteArray->Bool)(i:Ps.Ins)(sa:Option Addr)(sn sc:Nat)
 (cV:Hid (∀(W1:World) (k:Nat) (s:ByteArray),k<3->Sz s->Below w.heap.size w W1->Calls Tryz.prog 41 #[.int .i64 k,.string s] W1 λe w'=>e=.returned (.bool (V k s))/\Below W1.heap.size W1 w'))
 (hG:Hid (jI i)) (g:Nat) (W1:World) (hrow:Hid (∀W,Below W1.heap.size W1 W->W.heap[g]? =some (.cells (aA i (.slice sa sn sc)).toArray 24 (0,0)))) (HB1:Hid (Below w.heap.size w W1)) (k:Nat):Ev.Ok Tryz.prog (λ(_:Unit) W=>Below W1.heap.size W1 W) (wU V (Eg g i (.slice sa sn sc) k)):=by
 refine Bw (λW W' h1 h2=>h1.trans (h2.mono h1.size)) (λq b o l h W hS=>?_) (λW k s hk hs hS=>cV.out W k s hk hs (HB1.out.trans (hS.mono HB1.out.size))) (λp j s hp h=>?_) (λsb n c m _ h=>by cases h)
 ·rcases q with _|_|q
  ·cases h;exact iQ hrow.out W hS
  ·cases h
  ·cases h
 ·rcases hp with⟨rfl,hj⟩|⟨rfl,rfl⟩
  ·exact Gg hG.out hj h
  ·cases h
theorem Jr (w:World)(V:Nat->ByteArray->Bool)(i:Ps.Ins)(sa:Option Addr)(sn sc:Nat)(x xL:Int)
 (cV:Hid (∀(W1:World) (k:Nat) (s:ByteArray),k<3->Sz s->Below w.heap.size w W1->Calls Tryz.prog 41 #[.int .i64 k,.string s] W1 λe w'=>e=.returned (.bool (V k s))/\Below W1.heap.size W1 w'))
 (hG:Hid (jI i)) (hsn:Hid (sn=i.links.length)) (hlk:Hid (dI w sa sn i.links))
 (g:Nat) (W1:World) (hrow:Hid (∀W,Below W1.heap.size W1 W->W.heap[g]? =some (.cells (aA i (.slice sa sn sc)).toArray 24 (0,0)))) (HB1:Hid (Below w.heap.size w W1)) (hx:Hid (x=xL)) (hn8:Hid (sn<=8)) (Q:Exit->Act->World->Prop) (hq:Hid (∀(b:Act) (W:World),b.defers=[]->b.tmps[2]? =some (.int .i64 x)->Below W1.heap.size W1 W->Q .ret b W))
 (hL:Hid (Ps.fE V i [] i.links=xL)) (a:Act) (w2:World) (hsz:a.tmps.size=291) (hdf:a.defers=[]) (hf1:a.tmps[1]? =some (.pointer (some ⟨g,0,none⟩))) (hf5:a.tmps[5]? =some (.int .i64 0)) (HB:Below W1.heap.size W1 w2):ol.1.wp Tryz.prog (Qof Tryz.prog ol.2 Q) a w2:=by
 have e1:ol.1=.loop (fU ol.1):=by kernel_rfl
 have e2:ol.2=[.bl 0,.sq (fmC ol.2 1)]:=by kernel_rfl
 rw[e1,e2]
 refine wp_loop (λa w=>∃k:Nat,k<=sn/\a.tmps.size=291/\a.defers=[]/\a.tmps[1]? =some (.pointer (some ⟨g,0,none⟩))/\a.tmps[5]? =some (.int .i64 (k:Int))/\Below W1.heap.size W1 w/\Ps.fE V i (i.links.take k) (i.links.drop k)=xL) (λa _=>match a.tmps[5]? with|some (Value.int _ k)=>sn-k.toNat|_=>0) ⟨0,Nat.zero_le _,hsz,hdf,hf1,hf5,HB,by rw[<-hL.out];rfl⟩ ?_
 clear hsz hdf hf1 hf5 HB
 rintro a w3 ⟨k,hk,hsz,hdf,hf1,hf5,HB,HX⟩
 have hm:(match a.tmps[5]? with|some (Value.int _ k)=>sn-k.toNat|_=>0)=sn-k:=by rw[hf5];simp
 rw[hm]
 refine Ev.rX (M:=wU V (Eg g i (.slice sa sn sc) k)) (S:=λ_ W=>Below W1.heap.size W1 W) (n:=291) (K:=[(1,.p 0 0),(5,.r 1 0)]) (s:=()) [1,5] (.ite (decide ((k:Int)<(sn:Int))) (.go yg [some (.p 0 0),some (.r 1 0)] ()) (.out 0 [some (.p 0 0),some (.r 1 0)] ())) (qy w V i sa sn sc cV hG g W1 hrow HB1 k) (λ_ _ h=>h.drew) (by kernel_rfl) (Ev.aH (Ev.aH (Ev.ag hsz hdf) hf5) hf1) HB ⟨λhc=>?_,λhc=>?_⟩
 ·intro b W hst hS
  have hkn:k<sn:=by have:(k:Int)<(sn:Int):=by simpa using hc
                    omega
  obtain⟨b1,hst⟩:=hst.cons
  obtain⟨b5,hst⟩:=hst.cons
  obtain⟨x0,hx0⟩:∃x0,i.links[k]? =some x0:=⟨_,List.getElem?_eq_getElem (by rw[<-hsn.out];exact hkn)⟩
  have hstep:xL=if¬(0<=x0.type/\x0.type<=1)then 11 else if V 2 x0.ref=false then 6 else if x0.ref=i.ref then 26 else if∃y∈i.links.take k,y.ref=x0.ref then 7 else Ps.fE V i (i.links.take (k+1)) (i.links.drop (k+1)):=by
   have hd:i.links.drop k=x0::i.links.drop (k+1):=by
    have h1:=List.drop_eq_getElem_cons (l:=i.links) (i:=k) (by rw[<-hsn.out];exact hkn)
    rw[h1]
    congr 1
    rw[List.getElem?_eq_getElem (by rw[<-hsn.out];exact hkn)]at hx0
    exact Option.some.inj hx0
   rw[<-HX,hd]
   conv=>lhs;unfold Ps.fE
   have ht:i.links.take (k+1)=i.links.take k++[x0]:=by rw[List.take_add_one,hx0];rfl
   rw[ht]
  obtain⟨sb,so,rfl,hlr⟩:=hlk.out (by omega)
  have hLW:∀W,Below W1.heap.size W1 W->zI W sb so i.links:=λW hW=>hlr W (HB1.out.trans (hW.mono HB1.out.size))
  have e3:yg.1=.region 37 (mJ yg.1) false:=by kernel_rfl
  have e4:yg.2=[.sq Nc,.bl 1,.sq (fmC yg.2 2)]:=by kernel_rfl
  show yg.1.wp Tryz.prog (Qof Tryz.prog yg.2 _) b W
  rw[e3,e4]
  obtain⟨vs,hvs⟩:∃vs:List Value,vs=[(.pointer (some ⟨g,15,none⟩)),(.slice (some ⟨sb,so,none⟩) sn sc),(.int .i64 (k:Int)),(.pointer (some ⟨sb,so+k*2,none⟩)),(.agg #[.int .i64 x0.type,.string x0.ref])]:=⟨_,rfl⟩
  have b1':b.tmps[1]? =some (.pointer (some ⟨g,0,none⟩)):=b1
  have b5':b.tmps[5]? =some (.int .i64 (k:Int)):=b5
  refine wp_box (dv:=259) (d1:=6) (Below W1.heap.size W1) 5 vs (by rw[hvs];rfl) (by kernel_rfl) (by kernel_rfl) (by kernel_rfl) (by rw[hst.1];kernel_rfl) hS ?_ rfl rfl rfl rfl rfl rfl (by rw[hst.1];decide) (by decide) (.agg #[.int .i64 x0.type,.string x0.ref]) ?_ (.cells #[.int .i64 0,.string ByteArray.empty] 91) (.cells #[.int .i64 x0.type,.string x0.ref] 91) ?_ ?_ ?_
  ·intro ρ hD hrest hco hfu
   have e1:ρ (.tmp 1)=.pointer (some ⟨g,0,none⟩):=(hrest 1 (by decide +kernel)).trans (eval_at b1')
   have e5:ρ (.tmp 5)=.int .i64 (k:Int):=(hrest 5 (by decide +kernel)).trans (eval_at b5')
   obtain⟨e255,e256,e257,e258,e259,-⟩:ρ (.tmp 255)=(.pointer (some ⟨g,15,none⟩))/\ρ (.tmp 256)=(.slice (some ⟨sb,so,none⟩) sn sc)/\ρ (.tmp 257)=(.int .i64 (k:Int))/\ρ (.tmp 258)=(.pointer (some ⟨sb,so+k*2,none⟩))/\ρ (.tmp 259)=(.agg #[.int .i64 x0.type,.string x0.ref])/\True:=kU hvs hD
   refine yR hvs ?_
   refine⟨bT rfl (eH rfl e1 (λw=>qm (d:=15) (by kernel_rfl) g 0 w)),?_⟩
   refine⟨bT rfl (fA rfl e255 (λw hS=>PO _ w _ _ _ (by rw[cell_of_row _ _ _ _ _ _ (hrow.out w hS)];rfl))),?_⟩
   refine⟨bT rfl (jR rfl e5),?_⟩
   refine⟨bT rfl (F9 rfl e256 e257 hkn),?_⟩
   refine⟨bT rfl (fA rfl e258 (λw hS=>Oq sb (so+k*2) x0 w (hLW w hS k x0 hx0).1 (hLW w hS k x0 hx0).2)),?_⟩
   exact trivial
  ·intro ρ hD;exact cO.tmp 4 _ _ 259 hD rfl (by rw[hvs];rfl) rfl
  ·intro ρ W;exact al_L rfl W
  ·intro ρ W e1 e2;exact st_L rfl W e1 e2
  intro a4 w4 hS4 hK hf6
  have c1:=(hK.rest 1 (by decide +kernel)).trans b1'
  have c5:=(hK.rest 5 (by decide +kernel)).trans b5'
  have cz:=hK.size.trans hst.1
  have cd:=hK.defers.trans hst.2.1
  obtain⟨h,hh⟩:∃h,h=w4.heap.size:=⟨_,rfl⟩
  obtain⟨Wh,hWh⟩:∃Wh,Wh=w4.alloc (.cells #[.int .i64 x0.type,.string x0.ref] 91):=⟨_,rfl⟩
  have hBh:Below W1.heap.size W1 Wh:=by rw[hWh];exact hS4.alloc hS4.size _
  have pE:∀W,Below Wh.heap.size Wh W->W.heap[h]? =some (.cells [.int .i64 x0.type,.string x0.ref].toArray 91 (0,0)):=λW hW=>by
   rw[hW.block h (by rw[hWh,hh];simp),hWh,hh];exact aC w4 _
  rw[<-hWh]
  rw[<-hh]at hf6
  have up:∀W,Below Wh.heap.size Wh W->Below W1.heap.size W1 W:=λW hW=>hBh.trans (hW.mono hBh.size)
  clear hWh hh hS4 hvs hK b1 b5 b1' b5' hst hS e3 e4
  show Nc.wp Tryz.prog (Qof Tryz.prog [.bl 1,.sq (fmC yg.2 2)] _) a4 Wh
  have hzx:Sz x0.ref:=hG.out.2.2.2.2 x0 (List.mem_of_getElem? hx0)
  have hO2:Ev.Ok Tryz.prog (λ(_:Unit) W=>Below Wh.heap.size Wh W) (wU V (PY g i (.slice (some ⟨sb,so,none⟩) sn sc) k h x0)):=by
   refine Bw (λW W' h1 h2=>h1.trans (h2.mono h1.size)) (λq b o l h W hS=>?_) (λW k s hk hs hS=>cV.out W k s hk hs (HB1.out.trans ((up W hS).mono HB1.out.size))) (λp j s hp h=>?_) (λsb n c m _ h=>by cases h)
   ·rcases q with _|_|_|q
    ·cases h;exact iQ hrow.out W (up W hS)
    ·cases h
    ·cases h;exact iQ pE W hS
    ·cases h
   ·rcases hp with⟨rfl,hj⟩|⟨rfl,rfl⟩
    ·exact Gg hG.out hj h
    ·cases h;exact hzx
  refine Ev.rX (M:=wU V (PY g i (.slice (some ⟨sb,so,none⟩) sn sc) k h x0)) (S:=λ_ W=>Below Wh.heap.size Wh W) (n:=291) (K:=[(1,.p 0 0),(5,.r 1 0),(6,.p 2 0)]) (s:=()) [1,5,6,7,2]
   (.ite ((x0.type !=0)&&(x0.type !=1)) (.ret [some (.p 0 0),some (.r 1 0),some (.p 2 0),none,some (.v (.int .i64 11))] ()) (.ite (!(V 2 x0.ref)) (.ret [some (.p 0 0),some (.r 1 0),some (.p 2 0),none,some (.v (.int .i64 6))] ()) (.ite (x0.ref.toList==i.ref.toList) (.ret [some (.p 0 0),some (.r 1 0),some (.p 2 0),none,some (.v (.int .i64 26))] ()) (.go zX [some (.p 0 0),some (.r 1 0),some (.p 2 0),some (.v (.int .i64 0)),none] ()))))
   hO2 (λ_ _ h=>h.drew) (by kernel_rfl) (Ev.aH (Ev.aH (Ev.aH (Ev.ag cz cd) hf6) c5) c1) (Below.refl _ _) ?_
  have done:∀(b:Act) (W:World) (us:List (Option AV)) (n:Int),Stop (wU V (PY g i (.slice (some ⟨sb,so,none⟩) sn sc) k h x0)) 291 [1,5,6,7,2] us b->us[4]? =some (some (.v (.int .i64 n)))->x=n->Below Wh.heap.size Wh W->Q .ret b W:=λb W us n hst hu hx hS=>
   hq.out b W hst.2.1 (by rw[hx];exact hst.2.2 4 2 _ rfl hu) (up W hS)
  refine⟨λc1 b W hst hS=>done b W _ 11 hst rfl ?_ hS,λn1=>⟨λc2 b W hst hS=>done b W _ 6 hst rfl ?_ hS,λn2=>⟨λc3 b W hst hS=>done b W _ 26 hst rfl ?_ hS,λn3 b W hst hS=>?_⟩⟩⟩
  ·simp only[Bool.and_eq_true,bne_iff_ne,ne_eq]at c1
   rw[hx.out,hstep,if_pos (by omega)]
  ·simp only[Bool.and_eq_false_iff,bne_eq_false_iff_eq]at n1
   rw[hx.out,hstep,if_neg (by omega),if_pos (by simpa using c2)]
  ·simp only[Bool.and_eq_false_iff,bne_eq_false_iff_eq]at n1
   rw[hx.out,hstep,if_neg (by omega),if_neg (by simpa using n2),if_pos (bytes_inj c3)]
  have hstep2:xL=if∃y∈i.links.take k,y.ref=x0.ref then 7 else Ps.fE V i (i.links.take (k+1)) (i.links.drop (k+1)):=by
   simp only[Bool.and_eq_false_iff,bne_eq_false_iff_eq]at n1
   rw[hstep,if_neg (by omega),if_neg (by simpa using n2),if_neg (λhc=>by rw[hc]at n3;simp at n3)]
  clear hstep n1 n2 n3
  obtain⟨d1,hst⟩:=hst.cons
  obtain⟨d5,hst⟩:=hst.cons
  obtain⟨d6,hst⟩:=hst.cons
  obtain⟨d7,hst⟩:=hst.cons
  have e5:zX.1=.loop (fU zX.1):=by kernel_rfl
  have e6:zX.2=[.bl 2]:=by kernel_rfl
  show zX.1.wp Tryz.prog (Qof Tryz.prog zX.2 _) b W
  rw[e5,e6]
  refine wp_loop (λa w=>∃m:Nat,m<=k/\a.tmps.size=291/\a.defers=[]/\a.tmps[1]? =some (.pointer (some ⟨g,0,none⟩))/\a.tmps[5]? =some (.int .i64 (k:Int))/\a.tmps[6]? =some (.pointer (some ⟨h,0,none⟩))/\a.tmps[7]? =some (.int .i64 (m:Int))/\Below Wh.heap.size Wh w/\∀y∈i.links.take m,y.ref≠x0.ref) (λa _=>match a.tmps[7]? with|some (Value.int _ m)=>k-m.toNat|_=>0) ⟨0,Nat.zero_le _,hst.1,hst.2.1,d1,d5,d6,d7,hS,λy hy=>by simp at hy⟩ ?_
  clear hst d1 d5 d6 d7 hS cz cd c1 c5 hf6
  rintro b W ⟨m,hm,hsz,hdf,d1,d5,d6,d7,hS,hno⟩
  have hme:(match b.tmps[7]? with|some (Value.int _ m)=>k-m.toNat|_=>0)=k-m:=by rw[d7];simp
  rw[hme]
  obtain⟨y0,hy0⟩:∃y0,i.links[m]? =some y0:=⟨_,List.getElem?_eq_getElem (by have:=hsn.out;omega)⟩
  have hmn:m<sn:=by omega
  have hO3:Ev.Ok Tryz.prog (λ(_:Unit) W=>Below Wh.heap.size Wh W) (wU V (UX g i (.slice (some ⟨sb,so,none⟩) sn sc) k h x0 m sb so y0)):=by
   refine Bw (λW W' h1 h2=>h1.trans (h2.mono h1.size)) (λq b o l h W hS=>?_) (λW k s hk hs hS=>cV.out W k s hk hs (HB1.out.trans ((up W hS).mono HB1.out.size))) (λp j s hp h=>?_) (λsb2 n c m2 h1 h2=>?_)
   ·rcases q with _|_|_|_|q
    ·cases h;exact iQ hrow.out W (up W hS)
    ·cases h
    ·cases h;exact iQ pE W hS
    ·cases h
     intro j v hv
     obtain⟨z1,z2⟩:=hLW W (up W hS) m y0 hy0
     rcases j with _|_|j
     ·cases hv;exact z1
     ·cases hv;exact z2
     ·cases hv
    ·cases h
   ·rcases hp with⟨rfl,hj⟩|⟨rfl,rfl⟩
    ·exact Gg hG.out hj h
    ·cases h;exact hzx
   ·cases h1;cases h2
    exact⟨sb,so,m,rfl,rfl,hmn,_,rfl⟩
  have hw1:IntKind.i64.wrap ((m:Int)+1)=((m+1:Nat):Int):=by have:=hn8.out;rw[IntWalk.i64_in _ (by omega)];rfl
  refine Ev.rX (M:=wU V (UX g i (.slice (some ⟨sb,so,none⟩) sn sc) k h x0 m sb so y0)) (S:=λ_ W=>Below Wh.heap.size Wh W) (n:=291) (K:=[(1,.p 0 0),(5,.r 1 0),(6,.p 2 0),(7,.r 1 1)]) (s:=()) [1,5,6,7,2]
   (.ite (decide ((m:Int)<(k:Int))) (.ite (y0.ref.toList==x0.ref.toList) (.ret [some (.p 0 0),some (.r 1 0),some (.p 2 0),some (.r 1 1),some (.v (.int .i64 7))] ()) (.nx [some (.p 0 0),some (.r 1 0),some (.p 2 0),some (.v (.int .i64 (IntKind.i64.wrap ((m:Int)+1)))),none] ())) (.out 2 [some (.p 0 0),some (.r 1 0),some (.p 2 0),some (.r 1 1),none] ()))
   hO3 (λ_ _ h=>h.drew) (by kernel_rfl) (Ev.aH (Ev.aH (Ev.aH (Ev.aH (Ev.ag hsz hdf) d7) d6) d5) d1) hS ⟨λc1=>⟨λc2 b W hst hS=>?_,λc2 b W hst hS=>?_⟩,λc1 b W hst hS=>?_⟩
  ·refine hq.out b W hst.2.1 ?_ (up W hS)
   have hmk:m<k:=by have:(m:Int)<(k:Int):=by simpa using c1
                    omega
   rw[hx.out,hstep2,if_pos ⟨y0,List.mem_of_getElem? (i:=m) (by rw[List.getElem?_take,if_pos hmk];exact hy0),bytes_inj c2⟩]
   exact hst.2.2 4 2 _ rfl rfl
  ·have hmk:m<k:=by have:(m:Int)<(k:Int):=by simpa using c1
                    omega
   obtain⟨f1,hst⟩:=hst.cons
   obtain⟨f5,hst⟩:=hst.cons
   obtain⟨f6,hst⟩:=hst.cons
   obtain⟨f7,-⟩:=hst.cons
   have f7':b.tmps[7]? =some (.int .i64 ((m+1:Nat):Int)):=by rw[<-hw1];exact f7
   refine⟨⟨m+1,hmk,hst.1,hst.2.1,f1,f5,f6,f7',hS,λy hy=>?_⟩,?_⟩
   ·rw[List.take_add_one,hy0]at hy
    rcases List.mem_append.1 hy with h1|h1
    ·exact hno y h1
    ·have:y=y0:=by simpa using h1
     subst this
     intro hc;rw[hc]at c2;simp at c2
   ·rw[f7'];simp;omega
  ·have hmk:m=k:=by have:¬(m:Int)<(k:Int):=by simpa using c1
                    omega
   subst hmk
   obtain⟨f1,hst⟩:=hst.cons
   obtain⟨f5,hst⟩:=hst.cons
   have hk1:IntKind.i64.wrap ((m:Int)+1)=((m+1:Nat):Int):=hw1
   show(fmC yg.2 2).wp Tryz.prog _ b W
   refine Ev.rX (M:=wU V (Eg g i (.slice (some ⟨sb,so,none⟩) sn sc) m)) (S:=λ_ W=>Below W1.heap.size W1 W) (n:=291) (K:=[(1,.p 0 0),(5,.r 1 0)]) (s:=()) [1,5] (.nx [some (.p 0 0),some (.v (.int .i64 (IntKind.i64.wrap ((m:Int)+1))))] ()) (qy w V i _ sn sc cV hG g W1 hrow HB1 m) (λ_ _ h=>h.drew) (by kernel_rfl) (Ev.aH (Ev.aH (Ev.ag hst.1 hst.2.1) f5) f1) (up W hS) ?_
   intro b W hst hS
   obtain⟨f1,hst⟩:=hst.cons
   obtain⟨f5,hst⟩:=hst.cons
   have f5':b.tmps[5]? =some (.int .i64 ((m+1:Nat):Int)):=by rw[<-hk1];exact f5
   refine⟨⟨m+1,hmn,hst.1,hst.2.1,f1,f5',hS,?_⟩,?_⟩
   ·rw[hstep2,if_neg]
    rintro⟨y,hy,he⟩
    exact hno y hy he
   ·rw[f5'];simp;omega
 ·intro b W hst hS
  have hkn:¬(k:Int)<(sn:Int):=by simpa using hc
  have hx0:x=0:=by
   rw[hx.out,<-HX,List.drop_eq_nil_of_le (by have:=hsn.out;omega)]
   rfl
  obtain⟨b1,hst⟩:=hst.cons
  show(fmC ol.2 1).wp Tryz.prog Q b W
  refine Ev.A8 (M:=wU V (Eg g i (.slice sa sn sc) k)) (S:=λ_ W=>Below W1.heap.size W1 W) (n:=291) (K:=[]) (s:=()) (v:=x) 2 (qy w V i sa sn sc cV hG g W1 hrow HB1 k) (λ_ _ h=>h.drew) (by rw[hx0];kernel_rfl) (by kernel_rfl) (Ev.ag hst.1 hst.2.1) hS λb W _ h1 h2 h3=>hq.out b W h1 h2 h3
theorem RU (w:World)(V:Nat->ByteArray->Bool)(i:Ps.Ins)(sa:Option Addr)(sn sc:Nat)(x xL:Int)
 (cV:Hid (∀(W1:World) (k:Nat) (s:ByteArray),k<3->Sz s->Below w.heap.size w W1->Calls Tryz.prog 41 #[.int .i64 k,.string s] W1 λe w'=>e=.returned (.bool (V k s))/\Below W1.heap.size W1 w'))
 (hG:Hid (jI i)) (hsn:Hid (sn=i.links.length)) (hlk:Hid (dI w sa sn i.links)) (hL:Hid (Ps.fE V i [] i.links=xL))
 (hx:x=if ((decide (i.kind<0))||(decide (4<i.kind)))=true then 11 else(if ((!(V 2 i.ref))||(!(V 1 i.sender)))=true then 6 else(if ((!(decide (i.kind<3)))&&(!(i.counterparty.toList==(⟨#[]⟩:ByteArray).toList)))=true then 3 else(if ((decide (i.kind<3))&&(!(V 1 i.counterparty)))=true then 6 else(if ((decide (i.kind<3))&&(i.counterparty.toList==i.sender.toList))=true then 1 else(if ((i.side !=0)&&(i.side !=1))=true then 11 else(if ((!((i.kind==1)||(i.kind==2)))&&(i.side !=0))=true then 3 else(if (((i.kind==0)&&(!(i.asset.toList==(⟨#[67,65,83,72]⟩:ByteArray).toList)))||((decide (0<i.kind))&&(!(V 0 i.asset))))=true then 6 else(if (((i.kind==0)&&(i.quantity !=0))||((decide (0<i.kind))&&((decide (i.quantity<1))||(decide (1000000000000000<i.quantity)))))=true then 2 else(if (((decide (i.kind<2))&&((decide (i.amount<1))||(decide (1000000000000000<i.amount))))||((decide (2<=i.kind))&&(i.amount !=0)))=true then 2 else(if (((!(yw i.settleDay))||(((i.kind==1)||(i.kind==2))&&((decide (i.tradeDay<0))||(decide (i.settleDay<i.tradeDay)))))||((!((i.kind==1)||(i.kind==2)))&&(i.tradeDay !=0)))=true then 28 else(if (((decide (i.priority<0))||(decide (2<i.priority)))||((!(decide (i.kind<3)))&&(i.priority !=0)))=true then 2 else(if (i.partial_&&(!((i.kind==1)||(i.kind==2))))=true then 3 else(if ((i.partial_&&((decide (i.minLot<1))||(decide (i.quantity<i.minLot))))||((!i.partial_)&&(i.minLot !=0)))=true then 2 else(if (((i.hold&&(!(decide (i.kind<3))))||(i.reserve&&((i.kind !=0)||(i.priority !=2))))||((!(decide (i.kind<3)))&&(decide (0<(sn:Int)))))=true then 3 else(if (decide (8<(sn:Int)))=true then 8 else(xL))))))))))))))))):
 Calls Tryz.prog 42 #[.agg (aA i (.slice sa sn sc)).toArray] w λe w'=>e=.returned (.int .i64 x)/\Below w.heap.size w w':=by
 go_enter Tryz.func42,Tryz.ntmps42
 refine wp_seq ?_
 refine wp_region_lit ?_
 refine wpList_plain rfl (λK hK=>?_)
 go_simp
 refine hK _ _ ?_
 clear hK K
 refine wpList_plain rfl (λK hK=>?_)
 go_simp
 refine hK _ _ ?_
 clear hK K
 refine aT ?_
 obtain⟨g,hg⟩:∃g,g=w.heap.size:=⟨_,rfl⟩
 obtain⟨W1,hW1⟩:∃W1,W1=w.alloc (.cells (aA i (.slice sa sn sc)).toArray 24):=⟨_,rfl⟩
 have hrow:∀W,Below W1.heap.size W1 W->W.heap[g]? =some (.cells (aA i (.slice sa sn sc)).toArray 24 (0,0)):=λW hW=>by
  rw[hW.block g (by rw[hW1,hg];simp),hW1,hg];exact aC w _
 have hB1:Below w.heap.size w W1:=by rw[hW1];exact(Below.refl _ _).alloc (Nat.le_refl _) _
 rw[<-hg,<-hW1]
 refine lD rfl λa ha hdf=>?_
 have hret:∀(b:Act) (W:World),b.defers=[]->b.tmps[2]? =some (.int .i64 x)->Below W1.heap.size W1 W->bodyPost Tryz.prog Tryz.f42 (λe w'=>e=.returned (.int .i64 x)/\Below g w w') .ret b W:=λb W hd ht hS=>by
  refine bodyPost_ret (results_tmp rfl _ _ _) hd ?_
  rw[hg]
  exact⟨by rw[show b.tmps.getD 2 undef=.int .i64 x from eval_at ht],hB1.trans (hS.mono hB1.size)⟩
 refine Ev.BZ (M:=wU V (Eg g i (.slice sa sn sc) 0)) (S:=λ_ W=>Below W1.heap.size W1 W) (n:=291) (K:=[(1,.p 0 0)]) (s:=()) (v:=x) (hv:=xL) (l:=[(ol.1,ol.2,[some (.p 0 0),some (.v (.int .i64 0))],(),[!(decide (8<(sn:Int)))])]) 2 [1,5] [15] (qy w V i sa sn sc cV hG g W1 (Lib.hid hrow) (Lib.hid hB1) 0) (λ_ W h=>h.drew) (by rw[hx];kernel_rfl) (by kernel_rfl) (Ev.aH (Ev.ag (by rw[ha];rfl) hdf) (by rw[ha];rfl)) (Below.refl _ _) (λb W _=>hret b W) ?_
 intro hxL y hy hcs b W hst hS
 rw[List.mem_singleton]at hy
 subst hy
 have hn8:sn<=8:=by
  have h8:(8<(sn:Int))->False:=by simpa using hcs _ (List.mem_singleton.2 rfl)
  exact Nat.not_lt.1 λh=>h8 (by omega)
 obtain⟨h1,hst⟩:=hst.cons
 obtain⟨h5,hst⟩:=hst.cons
 exact Jr w V i sa sn sc x xL cV hG hsn hlk g W1 (Lib.hid hrow) (Lib.hid hB1) (Lib.hid hxL) (Lib.hid hn8) _ (Lib.hid hret) hL b W hst.1 hst.2.1 h1 h5 hS
open Go Go.RowKit Go.Proofs.YtnjjeapcalkmaaaGreatDoor.Ord
open Go.ChangeShapes Go.WideShapes Go.Deep
section
variable {H : Type} {enc : TypeId × Value → H} {W : World} {n : Nat} {t : TypeId} {v : Value} {x : DataW H × List MemPlace} {sp : Nat → Bool}
theorem jm (ht:Tryz.prog.underlying t=some (.int .i64))(h:DataW.trod enc Tryz.prog W 0 sp true n t [v]=some x):∃z,v=.int .i64 z:=by
 obtain⟨z,h1,_⟩:=DataW.trod_int ht h
 exact⟨z,by simpa using h1⟩
theorem mM (ht:Tryz.prog.underlying t=some .bool)(h:DataW.trod enc Tryz.prog W 0 sp true n t [v]=some x):∃z,v=.bool z:=by
 obtain⟨z,h1,_⟩:=DataW.trod_bool ht h
 exact⟨z,by simpa using h1⟩
theorem yF (ht:Tryz.prog.underlying t=some .string)(h:DataW.trod enc Tryz.prog W 0 sp true n t [v]=some x):∃z:ByteArray,v=.string z/\z.size<=maxLen:=by
 obtain⟨z,h1,_,h2⟩:=DataW.trod_string ht h
 exact⟨z,by simpa using h1,h2⟩
theorem eD {l:List Value}{b m o:Nat}(h:o<m)(hl:b+m<=l.length):(((l.drop b).take m).drop o).take 1=[l.getD (b+o) undef]:=by
 have h1:o<((l.drop b).take m).length:=by simp;omega
 rw[take1_drop _ _ undef h1]
 congr 1
 rw[List.getD_eq_getElem?_getD,List.getD_eq_getElem?_getD,List.getElem?_take,if_pos h,List.getElem?_drop]
theorem bS {α:Type}{l:List α}{i m:Nat}(h:l.length=m)(hi:i<m):∃y,l[i]? =some y:=⟨_,List.getElem?_eq_getElem (h▸hi)⟩
theorem Rt (h:DataW.trod enc Tryz.prog W 0 (λ_=>true) true n 22 [v]=some x):∃(sa:Option Addr) (sc:Nat) (ks:List Ps.Link),v=.slice sa ks.length sc/\ks.length<=maxLen/\(∀k∈ks,k.ref.size<=maxLen)/\dI W sa ks.length ks:=by
 rcases open_slice_pairs Tryz.underlying22 Tryz.underlying91 (by kernel_rfl) rfl rfl (by kernel_rfl) (by kernel_rfl) h with⟨h1,_⟩|⟨a,len,cap,m,n',V0,V1,D0,D1,P0,P1,h1,_,hl,hm,hmm,_,hx⟩
 ·have h1:v=.slice none 0 0:=by simpa using h1
  exact⟨none,0,[],h1,Nat.zero_le _,λk hk=>(by cases hk),λh0=>absurd h0 (Nat.lt_irrefl 0)⟩
 have h1:v=.slice (some a) len cap:=by simpa using h1
 simp only[if_true]at hmm
 have each:∀i,i<len->∃k:Ps.Link,V0 i=.int .i64 k.type/\V1 i=.string k.ref/\k.ref.size<=maxLen:=λi hi=>by
  obtain⟨_,_,h3,h4⟩:=hx i (by omega)
  obtain⟨z,hz⟩:=jm (by kernel_rfl) h3
  obtain⟨s,hs,hs2⟩:=yF (by kernel_rfl) h4
  exact⟨⟨z,s⟩,hz,hs,hs2⟩
 have:Inhabited Ps.Link:=⟨⟨0,⟨#[]⟩⟩⟩
 obtain⟨K,hK⟩:=choose_lt each
 refine⟨some a,cap,(List.range len).map K,by rw[h1];simp,by simp;omega,λk hk=>?_,λh0=>?_⟩
 ·obtain⟨i,hi,rfl⟩:=List.mem_map.1 hk
  exact(hK i (List.mem_range.1 hi)).2.2
 ·have h0:0<len:=by simpa using h0
  obtain⟨b,o,spot⟩:=a
  have c0:=(hx 0 (by omega)).1
  have hspot:spot=none:=by simpa[Addr.add]using World.cell?_spot c0
  subst hspot
  refine⟨b,o,rfl,λW' hW j k hj=>?_⟩
  have hlt:j<len:=by have:=(List.getElem?_eq_some_iff.1 hj).1;simpa using this
  have hk:k=K j:=by
   rw[List.getElem?_map,List.getElem?_range hlt]at hj
   exact(Option.some.inj hj).symm
  subst hk
  obtain⟨g0,g1,_,_⟩:=hx j (by omega)
  obtain⟨e0,e1,_⟩:=hK j hlt
  rw[e0]at g0
  rw[e1]at g1
  have a0:(⟨b,o,none⟩:Addr).add (j*2)=⟨b,o+j*2,none⟩:=add_plain _ _ _
  have a1:(⟨b,o,none⟩:Addr).add (j*2+1)=⟨b,o+j*2+1,none⟩:=by rw[add_plain];rfl
  rw[a0]at g0
  rw[a1]at g1
  exact⟨(hW.cell (World.block_lt_of_cell? W _ g0)).trans g0,(hW.cell (World.block_lt_of_cell? W _ g1)).trans g1⟩
theorem q_open {d:DataW H}{p:List MemPlace}(h:DataW.Trod enc Tryz.prog W 0 (λ_=>true) true 28 v d p):∃(Q:Ps.Req) (sa:Option Addr) (sc:Nat),v=.agg (aB Q (.slice sa Q.ins.links.length sc))/\jI Q.ins/\Sz Q.sender/\Sz Q.ref/\Q.ins.links.length<=maxLen/\dI W sa Q.ins.links.length Q.ins.links:=by
 obtain⟨fuel,hf⟩:=h
 obtain⟨xs,k,-,-,hlen,hxl,hF⟩:=DataW.trod_struct Tryz.underlying28 hf
 have hc:Tryz.prog.cellsOf 28=28:=by kernel_rfl
 rw[hc]at hlen
 obtain⟨arr,rfl⟩:∃arr,v=.agg arr:=by
  cases v<;>first|exact⟨_,rfl⟩|(simp[Value.cells]at hlen)
 have hlen:arr.toList.length=28:=hlen
 have hF:∀(i:Nat) (f:Field),_->DataW.trod enc Tryz.prog W 0 (λ_=>true) true k f.type ((arr.toList.drop f.offset).take (Tryz.prog.cellsOf f.type))=xs[i]?:=hF
 obtain⟨l,rfl⟩:∃l:List Value,arr=l.toArray:=⟨arr.toList,by simp⟩
 rw[List.toList_toArray]at hlen
 simp only[List.toList_toArray]at hF
 obtain⟨yQop,hyQop⟩:=bS hxl (i:=0) (by decide)
 have gQop:DataW.trod enc Tryz.prog W 0 (λ_=>true) true _ _ [l.getD 0 undef]=some yQop:=((congrArg _ (take1_drop l 0 undef (by omega)).symm).trans (hF 0 _ rfl)).trans hyQop
 obtain⟨vQop,eQop⟩:=jm (by kernel_rfl) gQop
 obtain⟨yQsender,Jq⟩:=bS hxl (i:=1) (by decide)
 have gQsender:DataW.trod enc Tryz.prog W 0 (λ_=>true) true _ _ [l.getD 1 undef]=some yQsender:=((congrArg _ (take1_drop l 1 undef (by omega)).symm).trans (hF 1 _ rfl)).trans Jq
 obtain⟨vQsender,eQsender,zQsender⟩:=yF (by kernel_rfl) gQsender
 obtain⟨yQref,hyQref⟩:=bS hxl (i:=2) (by decide)
 have gQref:DataW.trod enc Tryz.prog W 0 (λ_=>true) true _ _ [l.getD 2 undef]=some yQref:=((congrArg _ (take1_drop l 2 undef (by omega)).symm).trans (hF 2 _ rfl)).trans hyQref
 obtain⟨vQref,eQref,zQref⟩:=yF (by kernel_rfl) gQref
 obtain⟨yI,hyI⟩:=bS hxl (i:=3) (by decide)
 have gI:DataW.trod enc Tryz.prog W 0 (λ_=>true) true k 24 ((l.drop 3).take 16)=some yI:=(hF 3 _ rfl).trans hyI
 obtain⟨xsI,kI,-,-,-,oM,FB⟩:=DataW.trod_struct Tryz.underlying24 gI
 obtain⟨yIref,hyIref⟩:=bS oM (i:=0) (by decide)
 have gIref:DataW.trod enc Tryz.prog W 0 (λ_=>true) true _ _ [l.getD (3+0) undef]=some yIref:=((congrArg _ (eD (l:=l) (b:=3) (m:=16) (o:=0) (by decide) (by omega)).symm).trans (FB 0 _ rfl)).trans hyIref
 obtain⟨vIref,eIref,zIref⟩:=yF (by kernel_rfl) gIref
 obtain⟨yIkind,RQ⟩:=bS oM (i:=1) (by decide)
 have gIkind:DataW.trod enc Tryz.prog W 0 (λ_=>true) true _ _ [l.getD (3+1) undef]=some yIkind:=((congrArg _ (eD (l:=l) (b:=3) (m:=16) (o:=1) (by decide) (by omega)).symm).trans (FB 1 _ rfl)).trans RQ
 obtain⟨vIkind,eIkind⟩:=jm (by kernel_rfl) gIkind
 obtain⟨yIsender,KX⟩:=bS oM (i:=2) (by decide)
 have gIsender:DataW.trod enc Tryz.prog W 0 (λ_=>true) true _ _ [l.getD (3+2) undef]=some yIsender:=((congrArg _ (eD (l:=l) (b:=3) (m:=16) (o:=2) (by decide) (by omega)).symm).trans (FB 2 _ rfl)).trans KX
 obtain⟨vIsender,eIsender,zIsender⟩:=yF (by kernel_rfl) gIsender
 obtain⟨yIcounterparty,uq⟩:=bS oM (i:=3) (by decide)
 have gIcounterparty:DataW.trod enc Tryz.prog W 0 (λ_=>true) true _ _ [l.getD (3+3) undef]=some yIcounterparty:=((congrArg _ (eD (l:=l) (b:=3) (m:=16) (o:=3) (by decide) (by omega)).symm).trans (FB 3 _ rfl)).trans uq
 obtain⟨vIcounterparty,eIcounterparty,zIcounterparty⟩:=yF (by kernel_rfl) gIcounterparty
 obtain⟨yIside,Rc⟩:=bS oM (i:=4) (by decide)
 have gIside:DataW.trod enc Tryz.prog W 0 (λ_=>true) true _ _ [l.getD (3+4) undef]=some yIside:=((congrArg _ (eD (l:=l) (b:=3) (m:=16) (o:=4) (by decide) (by omega)).symm).trans (FB 4 _ rfl)).trans Rc
 obtain⟨vIside,eIside⟩:=jm (by kernel_rfl) gIside
 obtain⟨yIasset,OZ⟩:=bS oM (i:=5) (by decide)
 have gIasset:DataW.trod enc Tryz.prog W 0 (λ_=>true) true _ _ [l.getD (3+5) undef]=some yIasset:=((congrArg _ (eD (l:=l) (b:=3) (m:=16) (o:=5) (by decide) (by omega)).symm).trans (FB 5 _ rfl)).trans OZ
 obtain⟨vIasset,eIasset,zIasset⟩:=yF (by kernel_rfl) gIasset
 obtain⟨yIquantity,ER⟩:=bS oM (i:=6) (by decide)
 have gIquantity:DataW.trod enc Tryz.prog W 0 (λ_=>true) true _ _ [l.getD (3+6) undef]=some yIquantity:=((congrArg _ (eD (l:=l) (b:=3) (m:=16) (o:=6) (by decide) (by omega)).symm).trans (FB 6 _ rfl)).trans ER
 obtain⟨vIquantity,eIquantity⟩:=jm (by kernel_rfl) gIquantity
 obtain⟨yIamount,Le⟩:=bS oM (i:=7) (by decide)
 have gIamount:DataW.trod enc Tryz.prog W 0 (λ_=>true) true _ _ [l.getD (3+7) undef]=some yIamount:=((congrArg _ (eD (l:=l) (b:=3) (m:=16) (o:=7) (by decide) (by omega)).symm).trans (FB 7 _ rfl)).trans Le
 obtain⟨vIamount,eIamount⟩:=jm (by kernel_rfl) gIamount
 obtain⟨yItradeDay,El⟩:=bS oM (i:=8) (by decide)
 have gItradeDay:DataW.trod enc Tryz.prog W 0 (λ_=>true) true _ _ [l.getD (3+8) undef]=some yItradeDay:=((congrArg _ (eD (l:=l) (b:=3) (m:=16) (o:=8) (by decide) (by omega)).symm).trans (FB 8 _ rfl)).trans El
 obtain⟨vItradeDay,eItradeDay⟩:=jm (by kernel_rfl) gItradeDay
 obtain⟨yIsettleDay,CS⟩:=bS oM (i:=9) (by decide)
 have gIsettleDay:DataW.trod enc Tryz.prog W 0 (λ_=>true) true _ _ [l.getD (3+9) undef]=some yIsettleDay:=((congrArg _ (eD (l:=l) (b:=3) (m:=16) (o:=9) (by decide) (by omega)).symm).trans (FB 9 _ rfl)).trans CS
 obtain⟨vIsettleDay,eIsettleDay⟩:=jm (by kernel_rfl) gIsettleDay
 obtain⟨yIpriority,Ca⟩:=bS oM (i:=10) (by decide)
 have gIpriority:DataW.trod enc Tryz.prog W 0 (λ_=>true) true _ _ [l.getD (3+10) undef]=some yIpriority:=((congrArg _ (eD (l:=l) (b:=3) (m:=16) (o:=10) (by decide) (by omega)).symm).trans (FB 10 _ rfl)).trans Ca
 obtain⟨vIpriority,eIpriority⟩:=jm (by kernel_rfl) gIpriority
 obtain⟨yIpartial_,hyIpartial_⟩:=bS oM (i:=11) (by decide)
 have gIpartial_:DataW.trod enc Tryz.prog W 0 (λ_=>true) true _ _ [l.getD (3+11) undef]=some yIpartial_:=((congrArg _ (eD (l:=l) (b:=3) (m:=16) (o:=11) (by decide) (by omega)).symm).trans (FB 11 _ rfl)).trans hyIpartial_
 obtain⟨vIpartial_,eIpartial_⟩:=mM (by kernel_rfl) gIpartial_
 obtain⟨yIminLot,MG⟩:=bS oM (i:=12) (by decide)
 have gIminLot:DataW.trod enc Tryz.prog W 0 (λ_=>true) true _ _ [l.getD (3+12) undef]=some yIminLot:=((congrArg _ (eD (l:=l) (b:=3) (m:=16) (o:=12) (by decide) (by omega)).symm).trans (FB 12 _ rfl)).trans MG
 obtain⟨vIminLot,eIminLot⟩:=jm (by kernel_rfl) gIminLot
 obtain⟨yIhold,SI⟩:=bS oM (i:=13) (by decide)
 have gIhold:DataW.trod enc Tryz.prog W 0 (λ_=>true) true _ _ [l.getD (3+13) undef]=some yIhold:=((congrArg _ (eD (l:=l) (b:=3) (m:=16) (o:=13) (by decide) (by omega)).symm).trans (FB 13 _ rfl)).trans SI
 obtain⟨vIhold,eIhold⟩:=mM (by kernel_rfl) gIhold
 obtain⟨yIreserve,FE⟩:=bS oM (i:=14) (by decide)
 have gIreserve:DataW.trod enc Tryz.prog W 0 (λ_=>true) true _ _ [l.getD (3+14) undef]=some yIreserve:=((congrArg _ (eD (l:=l) (b:=3) (m:=16) (o:=14) (by decide) (by omega)).symm).trans (FB 14 _ rfl)).trans FE
 obtain⟨vIreserve,eIreserve⟩:=mM (by kernel_rfl) gIreserve
 obtain⟨yIlinks,Ou⟩:=bS oM (i:=15) (by decide)
 have gIlinks:DataW.trod enc Tryz.prog W 0 (λ_=>true) true _ _ [l.getD (3+15) undef]=some yIlinks:=((congrArg _ (eD (l:=l) (b:=3) (m:=16) (o:=15) (by decide) (by omega)).symm).trans (FB 15 _ rfl)).trans Ou
 obtain⟨sa,sc,ks,eIlinks,zks,zkr,hks⟩:=Rt gIlinks
 obtain⟨yA,hyA⟩:=bS hxl (i:=4) (by decide)
 have gA:DataW.trod enc Tryz.prog W 0 (λ_=>true) true k 26 ((l.drop 19).take 9)=some yA:=(hF 4 _ rfl).trans hyA
 obtain⟨xsA,kA,-,-,-,Ay,UC⟩:=DataW.trod_struct Tryz.underlying26 gA
 obtain⟨yAhasAmount,BK⟩:=bS Ay (i:=0) (by decide)
 have gAhasAmount:DataW.trod enc Tryz.prog W 0 (λ_=>true) true _ _ [l.getD (19+0) undef]=some yAhasAmount:=((congrArg _ (eD (l:=l) (b:=19) (m:=9) (o:=0) (by decide) (by omega)).symm).trans (UC 0 _ rfl)).trans BK
 obtain⟨vAhasAmount,eAhasAmount⟩:=mM (by kernel_rfl) gAhasAmount
 obtain⟨yAhasSettleDay,uh⟩:=bS Ay (i:=1) (by decide)
 have gAhasSettleDay:DataW.trod enc Tryz.prog W 0 (λ_=>true) true _ _ [l.getD (19+1) undef]=some yAhasSettleDay:=((congrArg _ (eD (l:=l) (b:=19) (m:=9) (o:=1) (by decide) (by omega)).symm).trans (UC 1 _ rfl)).trans uh
 obtain⟨vAhasSettleDay,eAhasSettleDay⟩:=mM (by kernel_rfl) gAhasSettleDay
 obtain⟨yAhasPriority,wQ⟩:=bS Ay (i:=2) (by decide)
 have gAhasPriority:DataW.trod enc Tryz.prog W 0 (λ_=>true) true _ _ [l.getD (19+2) undef]=some yAhasPriority:=((congrArg _ (eD (l:=l) (b:=19) (m:=9) (o:=2) (by decide) (by omega)).symm).trans (UC 2 _ rfl)).trans wQ
 obtain⟨vAhasPriority,eAhasPriority⟩:=mM (by kernel_rfl) gAhasPriority
 obtain⟨yAhasPartial,yx⟩:=bS Ay (i:=3) (by decide)
 have gAhasPartial:DataW.trod enc Tryz.prog W 0 (λ_=>true) true _ _ [l.getD (19+3) undef]=some yAhasPartial:=((congrArg _ (eD (l:=l) (b:=19) (m:=9) (o:=3) (by decide) (by omega)).symm).trans (UC 3 _ rfl)).trans yx
 obtain⟨vAhasPartial,eAhasPartial⟩:=mM (by kernel_rfl) gAhasPartial
 obtain⟨yAamount,KT⟩:=bS Ay (i:=4) (by decide)
 have gAamount:DataW.trod enc Tryz.prog W 0 (λ_=>true) true _ _ [l.getD (19+4) undef]=some yAamount:=((congrArg _ (eD (l:=l) (b:=19) (m:=9) (o:=4) (by decide) (by omega)).symm).trans (UC 4 _ rfl)).trans KT
 obtain⟨vAamount,eAamount⟩:=jm (by kernel_rfl) gAamount
 obtain⟨yAsettleDay,AX⟩:=bS Ay (i:=5) (by decide)
 have gAsettleDay:DataW.trod enc Tryz.prog W 0 (λ_=>true) true _ _ [l.getD (19+5) undef]=some yAsettleDay:=((congrArg _ (eD (l:=l) (b:=19) (m:=9) (o:=5) (by decide) (by omega)).symm).trans (UC 5 _ rfl)).trans AX
 obtain⟨vAsettleDay,eAsettleDay⟩:=jm (by kernel_rfl) gAsettleDay
 obtain⟨yApriority,EL⟩:=bS Ay (i:=6) (by decide)
 have gApriority:DataW.trod enc Tryz.prog W 0 (λ_=>true) true _ _ [l.getD (19+6) undef]=some yApriority:=((congrArg _ (eD (l:=l) (b:=19) (m:=9) (o:=6) (by decide) (by omega)).symm).trans (UC 6 _ rfl)).trans EL
 obtain⟨vApriority,eApriority⟩:=jm (by kernel_rfl) gApriority
 obtain⟨yApartial_,hyApartial_⟩:=bS Ay (i:=7) (by decide)
 have gApartial_:DataW.trod enc Tryz.prog W 0 (λ_=>true) true _ _ [l.getD (19+7) undef]=some yApartial_:=((congrArg _ (eD (l:=l) (b:=19) (m:=9) (o:=7) (by decide) (by omega)).symm).trans (UC 7 _ rfl)).trans hyApartial_
 obtain⟨vApartial_,eApartial_⟩:=mM (by kernel_rfl) gApartial_
 obtain⟨yAminLot,Ky⟩:=bS Ay (i:=8) (by decide)
 have gAminLot:DataW.trod enc Tryz.prog W 0 (λ_=>true) true _ _ [l.getD (19+8) undef]=some yAminLot:=((congrArg _ (eD (l:=l) (b:=19) (m:=9) (o:=8) (by decide) (by omega)).symm).trans (UC 8 _ rfl)).trans Ky
 obtain⟨vAminLot,eAminLot⟩:=jm (by kernel_rfl) gAminLot
 refine⟨{op:=vQop,sender:=vQsender,ref:=vQref,ins:={ref:=vIref,kind:=vIkind,sender:=vIsender,counterparty:=vIcounterparty,side:=vIside,asset:=vIasset,quantity:=vIquantity,amount:=vIamount,tradeDay:=vItradeDay,settleDay:=vIsettleDay,priority:=vIpriority,partial_:=vIpartial_,minLot:=vIminLot,hold:=vIhold,reserve:=vIreserve,links:=ks},amd:={hasAmount:=vAhasAmount,hasSettleDay:=vAhasSettleDay,hasPriority:=vAhasPriority,hasPartial:=vAhasPartial,amount:=vAamount,settleDay:=vAsettleDay,priority:=vApriority,partial_:=vApartial_,minLot:=vAminLot} },sa,sc,?_,⟨?_,?_,?_,?_,?_⟩,?_,?_,zks,hks⟩
 ·refine congrArg Value.agg ?_
  apply Array.toList_inj.1
  rw[List.toList_toArray]
  refine List.ext_getElem? λj=>?_
  have key:∀(j:Nat) (u:Value),j<28->l.getD j undef=u->l[j]? =some u:=λj u hj hu=>by rw[<-hu,List.getD_eq_getElem?_getD,List.getElem?_eq_getElem (by omega)];rfl
  match j with
  |0=>exact key 0 _ (by decide) eQop
  |1=>exact key 1 _ (by decide) eQsender
  |2=>exact key 2 _ (by decide) eQref
  |3=>exact key 3 _ (by decide) eIref
  |4=>exact key 4 _ (by decide) eIkind
  |5=>exact key 5 _ (by decide) eIsender
  |6=>exact key 6 _ (by decide) eIcounterparty
  |7=>exact key 7 _ (by decide) eIside
  |8=>exact key 8 _ (by decide) eIasset
  |9=>exact key 9 _ (by decide) eIquantity
  |10=>exact key 10 _ (by decide) eIamount
  |11=>exact key 11 _ (by decide) eItradeDay
  |12=>exact key 12 _ (by decide) eIsettleDay
  |13=>exact key 13 _ (by decide) eIpriority
  |14=>exact key 14 _ (by decide) eIpartial_
  |15=>exact key 15 _ (by decide) eIminLot
  |16=>exact key 16 _ (by decide) eIhold
  |17=>exact key 17 _ (by decide) eIreserve
  |18=>exact key 18 _ (by decide) eIlinks
  |19=>exact key 19 _ (by decide) eAhasAmount
  |20=>exact key 20 _ (by decide) eAhasSettleDay
  |21=>exact key 21 _ (by decide) eAhasPriority
  |22=>exact key 22 _ (by decide) eAhasPartial
  |23=>exact key 23 _ (by decide) eAamount
  |24=>exact key 24 _ (by decide) eAsettleDay
  |25=>exact key 25 _ (by decide) eApriority
  |26=>exact key 26 _ (by decide) eApartial_
  |27=>exact key 27 _ (by decide) eAminLot
  |j+28=>rw[List.getElem?_eq_none (by omega),List.getElem?_eq_none (by rw[Array.length_toList,zL];omega)]
 ·have:=zIref;show _<=9223372036854775807;unfold maxLen at this;omega
 ·have:=zIsender;show _<=9223372036854775807;unfold maxLen at this;omega
 ·have:=zIcounterparty;show _<=9223372036854775807;unfold maxLen at this;omega
 ·have:=zIasset;show _<=9223372036854775807;unfold maxLen at this;omega
 ·intro x hx;have:=zkr x hx;show _<=9223372036854775807;unfold maxLen at this;omega
 ·have:=zQsender;show _<=9223372036854775807;unfold maxLen at this;omega
 ·have:=zQref;show _<=9223372036854775807;unfold maxLen at this;omega
end
end Go.Proofs.YtnjjeapcalkmaaaGreatDoor
namespace Go.Proofs.YtnjjeapcalkmaaaGreatDoor.Se
open Go Go.RowKit Go.Proofs.YtnjjeapcalkmaaaGreatDoor Go.Proofs.YtnjjeapcalkmaaaGreatDoor.Ord
def BB (B:Nat)(W:World)(cell:Nat->Nat->Value)(f:FuncId)(us:List PV)(l l2:List SB):Prop:=
 (∀args w,(callFunc f args).run Tryz.prog w=.ok (.enter f args) w)/\∀(vals:List Value) (y:Value) (w:World),B<=w.heap.size->Below B W w->uI cell us vals w->w.ownsRow B 9 1 y l.length ((l.map st).map .string)->Calls Tryz.prog f (vals++[y]).toArray w λe w'=>∃z,e=.returned z/\w'.ownsRow B 9 1 z l2.length ((l2.map st).map .string)/\Below B w w'
def Mf (B:Nat)(W:World)(cell:Nat->Nat->Value)(fixE:Bool)(res:FuncId->List PV->Option Rv)(resC:FuncId->List PV->List SB->Option (List SB))(f:FuncId)(us:List PV):Option (PV×Bool×Option Prop):=match res f us with
 |some r=>if us.all yN=true then some (r.pv,false,some (aL B W cell f us r))else none
 |none=>match us.reverse with
  | .sl l::rest=>match resC f rest.reverse l with
    |some l2=>if (fixE&&rest.reverse.all yN)=true then some (.sl l2,true,some (BB B W cell f rest.reverse l l2))else none
    |none=>none
  |_=>none
theorem Ma {M:Mem}(hM:Wf M){res:FuncId->List PV->Option Rv}{resC:FuncId->List PV->List SB->Option (List SB)}{fixE:Bool}(hfix:fixE=true->M.fix=[])(f:FuncId)(us:List PV)(u:PV)(c:Bool)(q:Option Prop)(h:Mf M.B M.W M.cell fixE res resC f us=some (u,c,q))(hq:∀p,q=some p->p):
 (∀args w,(callFunc f args).run Tryz.prog w=.ok (.enter f args) w)/\∀(vals:List Value) w,Sw M w->il M us vals w->Calls Tryz.prog f vals.toArray w λe w'=>∃v,e=.returned v/\Den M u v w'/\Sw M w'/\(c=false->Below w.heap.size w w'):=by
 unfold Mf at h
 split at h
 ·rename_i r hr
  split at h
  ·rename_i ha
   cases h
   refine Cc hM (res:=res) f us r.pv false _ ?_ hq
   unfold Iy
   rw[hr]
   exact if_pos ha
  ·cases h
 ·split at h
  ·rename_i l rest hrev
   split at h
   ·rename_i l2 hl2
    split at h
    ·rename_i hc
     cases h
     rw[Bool.and_eq_true]at hc
     have hfx:=hfix hc.1
     have Hd:us=rest.reverse++[.sl l]:=by
      have:=congrArg List.reverse hrev
      rw[List.reverse_reverse,List.reverse_cons]at this
      exact this
     obtain⟨h1,h2⟩:=hq _ rfl
     refine⟨h1,λvals w hS hd=>?_⟩
     rw[Hd]at hd
     obtain⟨vs,y,rfl,hd1,hd2⟩:=sV hd
     have hB:M.B<=w.heap.size:=Nat.le_trans hM.B hS.size
     have hy:=hd2.1
     rw[List.length_map]at hy
     refine(h2 vs y w hB hS.to (nH hc.2 hd1) hy).mono ?_
     rintro e w' ⟨z,rfl,ho,hb⟩
     refine⟨z,rfl,⟨?_,λg _ hf=>by rw[hfx]at hf;cases hf⟩,hS.turn hb (λg hf=>by rw[hfx]at hf;cases hf),λhc=>by cases hc⟩
     rw[List.length_map]
     exact ho
    ·cases h
   ·cases h
  ·cases h
def seX (B:Nat)(W:World)(fix:List Nat)(b:Nat)(rows:List (Option (Nat×Nat)×List Value))(res:FuncId->List PV->Option Rv)(resC:FuncId->List PV->List SB->Option (List SB):=noC):Mem:=dh B W fix b rows (Mf B W (Ev.aM rows) fix.isEmpty res resC)
theorem mP {B:Nat}{W:World}{fix:List Nat}{b:Nat}{rows:List (Option (Nat×Nat)×List Value)}{res:FuncId->List PV->Option Rv}{resC:FuncId->List PV->List SB->Option (List SB)}(hB:B<=W.heap.size)(hf:∀g∈fix,g<W.heap.size)
 (h2:∀(k g o:Nat) (l:List Value),rows[k]? =some (some (g,o),l)->(g<B\/g∈fix)/\∀w:World,w.heap[g]? =W.heap[g]?->∀(j:Nat) (v:Value),l[j]? =some v->w.cell? ⟨g,o+j,none⟩=some v)
 (hb:∀(k:Nat) (p:Nat×Nat) (l:List Value),rows[k]? =some (some p,l)->∀x,Value.string x∈l->x.size<=b):Ok Tryz.prog (seX B W fix b rows res resC):=
 ni hB hf h2 hb λf us u c q h hq=>Ma (M:=seX B W fix b rows res resC) ⟨hB,hf⟩ (λhx=>by show fix=[];simpa using hx) f us u c q h hq
end Go.Proofs.YtnjjeapcalkmaaaGreatDoor.Se
namespace Go.Proofs.YtnjjeapcalkmaaaGreatDoor
open Go Go.RowKit Go.Proofs.YtnjjeapcalkmaaaGreatDoor.Ord
open Go.Proofs.YtnjjeapcalkmaaaGreatDoor.Se
abbrev fZ (i:Ps.Ins):Ps.Req:={op:=0,sender:=i.sender,ref:=i.ref,ins:=i}
def wN (tS:TypeId)(kr j0:Nat)(n:Int)(b:Bool)(o:Oper)(ov:Operand->Option PV):Option PV:=match o.op with
 | .indexAddr t x y=>if t=tS/\b=true then(match ov x,ov y with
   |some (.r k c),some (.r 2 0)=>if k=kr/\c=j0 then some (.p 3 0)else none
   |_,_=>none)else none
 | .call ⟨.builtin .len,xs,ts⟩=>(match xs.toList,ts.toList with
   |[x],[t]=>if t=tS/\o.type=3 then(match ov x with
    |some (.r k c)=>if k=kr/\c=j0 then some (.v (.int .i64 n))else none
    |_=>none)else none
   |_,_=>none)
 |_=>none
theorem Eu {M:Mem}{tS:TypeId}(ht:tS=22\/tS=32){kr j0 n cp j:Nat}{sa:Option Addr}{b:Bool}(hc:M.cell kr j0=.slice sa n cp)(hj:M.cell 2 0=.int .i64 (j:Int))(hb:b=true->j<n/\∃sb so,sa=some ⟨sb,so,none⟩/\M.ptr 3 0=.pointer (some ⟨sb,so+j*2,none⟩))(o:Oper)(ov:Operand->Option PV)(u:PV)(h:wN tS kr j0 (n:Int) b o ov=some u)(ρ:Operand->Value)(w:World)(_:∀f,ρ (.func f)=.func (.func f) #[] #[])(_:Sw M w)(hov:∀x p,ov x=some p->Den M p (ρ x) w):∃v,(execOp ρ o).run Tryz.prog w=.ok (.value v) w/\Den M u v w:=by
 unfold wN at h
 split at h
 ·rename_i t x y ho
  split at h
  ·rename_i htb
   obtain⟨rfl,hbt⟩:=htb
   split at h
   ·rename_i k c hx hy
    split at h
    ·rename_i hk
     obtain⟨rfl,rfl⟩:=hk
     cases h
     obtain⟨hlt,sb,so,rfl,hp⟩:=hb hbt
     have hx2:ρ x=.slice (some ⟨sb,so,none⟩) n cp:=(hov _ _ hx).trans hc
     have hy2:ρ y=.int .i64 (j:Int):=(hov _ _ hy).trans hj
     have TV:(j:Int)<(n:Int):=by omega
     refine⟨.pointer (some ⟨sb,so+j*2,none⟩),?_,hp.symm⟩
     unfold execOp
     simp only[ho,hx2,hy2]
     clear hp hc hj hov hx hy ho hb
     rcases ht with rfl|rfl<;>go_simp
    ·cases h
   ·cases h
  ·cases h
 ·rename_i xs ts ho
  split at h
  ·rename_i x t hxs hts
   split at h
   ·rename_i ht3
    obtain⟨rfl,h3⟩:=ht3
    split at h
    ·rename_i k c hx
     split at h
     ·rename_i hk
      obtain⟨rfl,rfl⟩:=hk
      cases h
      have hx2:ρ x=.slice sa n cp:=(hov _ _ hx).trans hc
      obtain rfl:xs=#[x]:=by apply Array.toList_inj.1;rw[hxs]
      obtain rfl:ts=#[t]:=by apply Array.toList_inj.1;rw[hts]
      refine⟨.int .i64 (n:Int),?_,rfl⟩
      unfold execOp
      simp only[ho,h3,hx2]
      clear hc hj hov hx ho hb
      rcases ht with rfl|rfl<;>go_simp
     ·cases h
    ·cases h
   ·cases h
  ·cases h
 ·cases h
theorem sZ {M:Mem}{tS:TypeId}(ht:tS=22\/tS=32){kr j0 n cp:Nat}{sa:Option Addr}(hc:M.cell kr j0=.slice sa n cp)(o:Oper)(ov:Operand->Option PV)(u:PV)(h:wN tS kr j0 (n:Int) false o ov=some u)(ρ:Operand->Value)(w:World)(_:∀f,ρ (.func f)=.func (.func f) #[] #[])(_:Sw M w)(hov:∀x p,ov x=some p->Den M p (ρ x) w):∃v,(execOp ρ o).run Tryz.prog w=.ok (.value v) w/\Den M u v w:=by
 unfold wN at h
 split at h
 ·split at h
  ·rename_i hb;cases hb.2
  ·cases h
 ·rename_i xs ts ho
  split at h
  ·rename_i x t hxs hts
   split at h
   ·rename_i ht3
    obtain⟨rfl,h3⟩:=ht3
    split at h
    ·rename_i k c hx
     split at h
     ·rename_i hk
      obtain⟨rfl,rfl⟩:=hk
      cases h
      have hx2:ρ x=.slice sa n cp:=(hov _ _ hx).trans hc
      obtain rfl:xs=#[x]:=by apply Array.toList_inj.1;rw[hxs]
      obtain rfl:ts=#[t]:=by apply Array.toList_inj.1;rw[hts]
      refine⟨.int .i64 (n:Int),?_,rfl⟩
      unfold execOp
      simp only[ho,h3,hx2]
      clear hc hov hx ho
      rcases ht with rfl|rfl<;>go_simp
     ·cases h
    ·cases h
   ·cases h
  ·cases h
 ·cases h
theorem Jk {w W:World}{g j:Nat}(h:w.heap[g]? =W.heap[g]?):w.cell? ⟨g,j,none⟩=W.cell? ⟨g,j,none⟩:=by
 unfold World.cell?
 rw[h]
def pX (rows:List (Option (Nat×Nat)×List Value))(j sb so:Nat)(x:Ps.Link):List (Option (Nat×Nat)×List Value):=rows++[(none,[.int .i64 (j:Int)]),(some (sb,so+j*2),[.int .i64 x.type,.string x.ref])]
theorem xW {W:World}{sb so j:Nat}{x:Ps.Link}{ks:List Ps.Link}(h:zI W sb so ks)(hj:ks[j]? =some x):sb<W.heap.size/\∀w:World,w.heap[sb]? =W.heap[sb]?->∀(k:Nat) (v:Value),([.int .i64 x.type,.string x.ref]:List Value)[k]? =some v->w.cell? ⟨sb,so+j*2+k,none⟩=some v:=by
 obtain⟨h1,h2⟩:=h j x hj
 refine⟨World.block_lt_of_cell? W _ h1,λw hw k v hv=>?_⟩
 rw[Jk hw]
 rcases k with _|_|k
 ·cases hv;exact h1
 ·cases hv;exact h2
 ·cases hv
def tu (f:FuncId)(args:Array Value)(w:World)(l:List SB):Prop:=Calls Tryz.prog f args w λe w'=>∃y,e=.returned y/\w'.ownsRow w.heap.size 9 1 y l.length ((l.map st).map .string)/\Below w.heap.size w w'
theorem lp_ins (w:World)(i:Ps.Ins)(a:Option Addr)(n c:Nat):Sem.run Tryz.prog (storeCells ⟨w.heap.size,0,none⟩ (aA i (.slice a n c))) (w.alloc (.cells AB 34))=.ok () (w.alloc (.cells (aA i (.slice a n c)).toArray 34)):=
 run_storeCells_new w 34 AB (aA i (.slice a n c)).toArray (by kernel_rfl) rfl (rJ i a n c)
theorem lp_amd (w:World)(a:Ps.Amd):Sem.run Tryz.prog (storeCells ⟨w.heap.size,0,none⟩ (aG a)) (w.alloc (.cells qI 35))=.ok () (w.alloc (.cells (aG a).toArray 35)):=
 run_storeCells_new w 35 qI (aG a).toArray (by kernel_rfl) rfl (by rw[<-Array.all_toList];simp[aG,Value.oneCell'])
theorem xO (w:World)(i:Ps.Ins)(a:Option Addr)(n c:Nat){ρ:Operand->Value}{o:Oper}{x:Operand}(ho:o.op=.box 34 x)(hx:ρ x=.agg (aA i (.slice a n c)).toArray):(execOp ρ o).run Tryz.prog w=.ok (.value (.pointer (some ⟨w.heap.size,0,none⟩))) (w.alloc (.cells (aA i (.slice a n c)).toArray 34)):=by
 have h:=lp_ins w i a n c
 unfold AB at h
 unfold execOp
 simp only[ho,hx]
 go_simp
 try rfl
theorem bx_amd (w:World)(i:Ps.Amd){ρ:Operand->Value}{o:Oper}{x:Operand}(ho:o.op=.box 35 x)(hx:ρ x=.agg (aG i).toArray):(execOp ρ o).run Tryz.prog w=.ok (.value (.pointer (some ⟨w.heap.size,0,none⟩))) (w.alloc (.cells (aG i).toArray 35)):=by
 have h:=lp_amd w i
 unfold qI at h
 unfold execOp
 simp only[ho,hx]
 go_simp
 try rfl
theorem rO {Q:Exit->Act->World->Prop}{a:Act}{w W:World}{id:Nat}{o1 o2:Oper}{d1 d2:Nat}{p v:Value}(g1:o1.guard=none)(h1:o1.dst=some d1)(g2:o2.guard=none)(h2:o2.dst=some d2)(h3:o2.op=.assign (.const v))(hn:d1≠d2)(l1:d1<a.tmps.size)(l2:d2<a.tmps.size)(e1:(execOp a.eval o1).run Tryz.prog w=.ok (.value p) W)
 (hend:∀b:Act,b.defers=a.defers->b.tmps.size=a.tmps.size->b.tmps[d1]? =some p->b.tmps[d2]? =some v->Q .normal b W):(Code.region id #[o1,o2] false).wp Tryz.prog Q a w:=by
 refine wp_region_lit ?_
 refine dE (w':=W) (u:=p) g1 h1 e1 ?_
 refine dE (w':=W) (u:=v) g2 h2 (by unfold execOp;simp only[h3];rfl) ?_
 refine aT ?_
 exact hend _ rfl (by simp) (by simp[hn,Ne.symm hn,l1]) (by simp[l2])
theorem QT {Q:Exit->Act->World->Prop}{a:Act}{w W:World}{id:Nat}{o1 o2 o3:Oper}{d1 d2 d3:Nat}{p v u:Value}(g1:o1.guard=none)(h1:o1.dst=some d1)(g2:o2.guard=none)(h2:o2.dst=some d2)(h3:o2.op=.assign (.const v))(g3:o3.guard=none)(h4:o3.dst=some d3)(h5:o3.op=.assign (.const u))(hn:d1≠d2)(hn2:d1≠d3)(hn3:d2≠d3)(l1:d1<a.tmps.size)(l2:d2<a.tmps.size)(l3:d3<a.tmps.size)(e1:(execOp a.eval o1).run Tryz.prog w=.ok (.value p) W)
 (hend:∀b:Act,b.defers=a.defers->b.tmps.size=a.tmps.size->b.tmps[d1]? =some p->b.tmps[d2]? =some v->b.tmps[d3]? =some u->Q .normal b W):(Code.region id #[o1,o2,o3] false).wp Tryz.prog Q a w:=by
 refine wp_region_lit ?_
 refine dE (w':=W) (u:=p) g1 h1 e1 ?_
 refine dE (w':=W) (u:=v) g2 h2 (by unfold execOp;simp only[h3];rfl) ?_
 refine dE (w':=W) (u:=u) g3 h4 (by unfold execOp;simp only[h5];rfl) ?_
 refine aT ?_
 exact hend _ rfl (by simp) (by simp[hn,hn2,Ne.symm hn,Ne.symm hn2,l1]) (by simp[hn3,Ne.symm hn3,l2]) (by simp[l3])
theorem qB {M:Mem}{fn:Func}{r:Nat}{l:List SB}{us:List PV}{ts:List Nat}{a:Act}{w:World}{R:Ending->World->Prop}(hres:fn.results=#[.tmp r])(hd:a.defers=[])(hv:kS M (r::ts) (.sl l::us) a w)(hR:∀v,w.ownsRow M.B 9 1 v l.length ((l.map st).map .string)->R (.returned v) w):bodyPost Tryz.prog fn R .ret a w:=by
 obtain⟨⟨v,h1,h2⟩,_⟩:=hv.cons
 refine bodyPost_ret (results_tmp hres _ _ _) hd ?_
 rw[show a.tmps.getD r undef=v from eval_at h1]
 refine hR v ?_
 have:=h2.1
 rw[List.length_map]at this
 exact this
theorem pJ {M:Mem}{l:List SB}{v:Value}{w:World}(h:w.ownsRow M.B 9 1 v l.length ((l.map st).map .string))(hf:∀g,v.ownBlock=some g->g∉M.fix):Den M (.sl l) v w:=⟨by rw[List.length_map];exact h,hf⟩
theorem pO {M:Mem}{l:List SB}{v:Value}{w:World}(h:Den M (.sl l) v w):w.ownsRow M.B 9 1 v l.length ((l.map st).map .string):=by
 have:=h.1
 rw[List.length_map]at this
 exact this
theorem M3 {Q:Exit->Act->World->Prop}{a:Act}{w W1 W:World}{id:Nat}{o1 o2 o3 o4:Oper}{tI:TypeId}{d1 d2 d3:Nat}{A2 A3 V:Value}(h1d:o1.dst=some d1)(g1:o1.guard=none)(e1:(execOp a.eval o1).run Tryz.prog w=.ok (.value A2) w)(h2:o2.op=.load tI (.tmp d1))(FL:o2.dst=some d2)(g2:o2.guard=none)
 (h3:o3.op=.alloc tI) (Qp:o3.dst=some d3) (g3:o3.guard=none) (h4:o4.op=.store tI (.tmp d3) (.tmp d2)) (h4d:o4.dst=none) (g4:o4.guard=none) (n23:d2≠d3) (l1:d1<a.tmps.size) (l2:d2<a.tmps.size) (l3:d3<a.tmps.size)
 (hl:(Instr.loadAt tI A2).run Tryz.prog w=.ok V w) (ha:(Instr.alloc tI true (.tuple #[])).run Tryz.prog w=.ok A3 W1) (hs:(Instr.storeAt tI A3 V).run Tryz.prog W1=.ok () W)
 (hend:∀b:Act,b.defers=a.defers->b.tmps.size=a.tmps.size->b.tmps[d3]? =some A3->(∀s:Nat,s≠d1->s≠d2->s≠d3->b.tmps[s]? =a.tmps[s]?)->Q .normal b W):(Code.region id #[o1,o2,o3,o4] false).wp Tryz.prog Q a w:=by
 refine wp_region_lit ?_
 refine dE (w':=w) (u:=A2) g1 h1d e1 ?_
 refine jl g2 FL h2 (eval_at (by simp[l1])) hl ?_
 refine dE (w':=W1) (u:=A3) g3 Qp (by unfold execOp;rw[h3];simp only[Sem.run_bind,ha,Result.andThen_ok];rfl) ?_
 refine tV (w':=W) g4 h4d (by
  unfold execOp
  rw[h4]
  have e1:(⟨((a.tmps.setIfInBounds d1 A2).setIfInBounds d2 V).setIfInBounds d3 A3,a.defers⟩:Act).eval (.tmp d3)=A3:=eval_at (by simp[l3])
  have e2:(⟨((a.tmps.setIfInBounds d1 A2).setIfInBounds d2 V).setIfInBounds d3 A3,a.defers⟩:Act).eval (.tmp d2)=V:=eval_at (by simp[n23,Ne.symm n23,l2])
  simp only[e1,e2,Sem.run_bind,hs,Result.andThen_ok]
  rfl) ?_
 refine aT ?_
 refine hend _ rfl (by simp) (by simp[l3]) λs n1 n2 n3=>?_
 simp[Ne.symm n1,Ne.symm n2,Ne.symm n3]
def lkC (x:Ps.Link):List Value:=[.int .i64 x.type,.string x.ref]
theorem al_lk (w:World):(Instr.alloc 129 true (.tuple #[])).run Tryz.prog w=.ok (.pointer (some ⟨w.heap.size,0,none⟩)) (w.alloc (.cells #[.int .i64 0,.string ⟨#[]⟩] 129)):=by
 go_simp
 try rfl
theorem sv_lk (w:World)(x:Ps.Link):(Instr.storeAt 129 (.pointer (some ⟨w.heap.size,0,none⟩)) (.agg (lkC x).toArray)).run Tryz.prog (w.alloc (.cells #[.int .i64 0,.string ⟨#[]⟩] 129))=.ok () (w.alloc (.cells (lkC x).toArray 129)):=by
 have h:=run_storeCells_new (P:=Tryz.prog) w 129 #[.int .i64 0,.string ⟨#[]⟩] (lkC x).toArray (by kernel_rfl) rfl (by rw[<-Array.all_toList];simp[lkC,Value.oneCell'])
 unfold lkC at h⊢
 go_simp
 try rfl
theorem Td (w:World)(g o:Nat)(x:Ps.Link)(h1:w.cell? ⟨g,o,none⟩=some (.int .i64 x.type))(h2:w.cell? ⟨g,o+1,none⟩=some (.string x.ref)):(Instr.loadAt 129 (.pointer (some ⟨g,o,none⟩))).run Tryz.prog w=.ok (.agg (lkC x).toArray) w:=
 Ev.xY (n:=2) rfl g o w (λj=>(lkC x).getD j (.bool false)) λj hj=>by
  rcases j with _|_|j
  ·exact h1
  ·exact h2
  ·omega
def aJ (g:Nat)(i:Ps.Ins)(lv:Value):List (Option (Nat×Nat)×List Value):=[(some (g,0),aA i lv),(none,[])]
def ppWord (f:FuncId)(q:Int):Option Rv:=if f=125 then some (.str 20 (Ps.bH q))else if f=121 then some (.str 20 (Ps.bO q))else if f=128 then some (.str 10 (Ps.bw (Ps.bX q)))else if f=195 then some (.str 5 (Ps.bw (if q=0 then Ps.fF else Ps.dC)))else none
noncomputable def Uv (rows:List (Option (Nat×Nat)×List Value))(f:FuncId)(us:List PV):Option Rv:=match us.map (nvR rows)with
 |[.v (.int .i64 q)]=>if f=122 then some (.str 10 (Ps.ae q))else ppWord f q
 |_=>none
noncomputable def ppM (B:Nat)(W:World)(fix:List Nat)(rows:List (Option (Nat×Nat)×List Value)):Mem:=seW B W fix 40 rows (Uv rows)
noncomputable def ppL (W:World)(rows:List (Option (Nat×Nat)×List Value))(n:Int):Mem:={ppM W.heap.size W [] rows with oth:=wN 32 0 15 n false}
noncomputable def ppB (B:Nat)(W:World)(fix:List Nat)(rows:List (Option (Nat×Nat)×List Value))(b:Bool):Mem:={ {ppM B W fix rows with big:=true}with hint:=λt=>if t=27 then some b else none,loops:=0}
theorem EB {M M':Mem}{w:World}(h:Sw M w)(hB:M'.B=M.B)(hW:M'.W=M.W)(hf:M'.fix=M.fix):Sw M' w:=⟨hW▸h.os,hW▸h.tape,hW▸h.output,hW▸h.size,λg hg=>by
 rw[hW]
 refine h.block g ?_
 unfold prot at hg⊢
 rwa [hB,hf]at hg⟩
theorem nW {B:Nat}{W:World}{fix:List Nat}{rows:List (Option (Nat×Nat)×List Value)}(hB:B<=W.heap.size)(hf:∀g∈fix,g<W.heap.size)(hr:RowsIn W B 40 fix rows):Ok Tryz.prog (ppM B W fix rows):=
 vw hB hf (λk g o l h=>by
  obtain⟨rfl,h2,⟨t,h3⟩,_⟩:=cB hr k g o l h
  exact⟨h2,bv h3⟩) λk p l h=>(cB hr k p.1 p.2 l h).2.2.2
abbrev wb (w:Lx.Bs):SB:=(w.length,Ps.bw w)
def ls (b:Bool)(l:List SB):List SB:=cond b l []
def lkS (x:Ps.Link):List SB:=[(5,Ps.bw (if x.type=0 then Ps.fF else Ps.dC)),(40,x.ref)]
def sJ (i:Ps.Ins):List SB:=ls (!(decide (i.priority=0))) [(10,Ps.bw (Ps.bX i.priority))]++ls i.partial_ [wb Ps.aK,(20,Ps.bH i.minLot)]
def poS (i:Ps.Ins):List SB:=sJ i++i.links.flatMap lkS++ls i.reserve [wb Ps.aY]++ls i.hold [wb Ps.bU]
theorem fo {a b:List Prop}:All a->All b->All (a++b):=by
 induction a with
 |nil=>exactλ_ h=>h
 |cons p a ih=>exactλh h2=>⟨h.1,ih h.2 h2⟩
theorem jF {b:Bool}{p:Prop}(h:b=true->p):All (cond b [p] []):=by
 cases b with
 |true=>exact⟨h rfl,trivial⟩
 |false=>trivial
noncomputable def poC:Code:=Ev.nC (Tryz.f123.body.getD .skip)
noncomputable def EE:Code:=(Ev.aX Ev.cK poC).1
structure PoF (W0:World)(i:Ps.Ins):Prop where
 pr:0<=i.priority/\i.priority<=2
 prW:CW W0 128 i.priority 10 (Ps.bw (Ps.bX i.priority))
 lot:i.partial_=true->CW W0 125 i.minLot 20 (Ps.bH i.minLot)
 lks:∀x∈i.links,(x.type=0\/x.type=1)/\x.ref.size<=40
 nlk:i.links.length<=8
 sz:o8 (fZ i)
theorem Ti (W:World)(i:Ps.Ins)(g:Nat)(hF:PoF W i)(sa:Option Addr)(sn sc:Nat)(hr:W.heap[g]? =some (.cells (aA i (.slice sa sn sc)).toArray 34 (0,0))){Q:Exit->Act->World->Prop}{a:Act}(hd:a.defers=[])(hn:a.tmps.size=50)(h1:a.tmps[1]? =some (.pointer (some ⟨g,0,none⟩)))(h2:a.tmps[2]? =some (.slice none 0 0))
 (hq:∀(b:Act) (w:World) (v:Value),b.tmps.size=50->b.defers=[]->b.tmps[1]? =some (.pointer (some ⟨g,0,none⟩))->b.tmps[3]? =some v->w.ownsRow W.heap.size 9 1 v (sJ i).length (((sJ i).map st).map .string)->b.tmps[24]? =some (.slice sa sn sc)->b.tmps[25]? =some (.int .i64 sn)->b.tmps[26]? =some (.int .i64 0)->Sw (ppM W.heap.size W [] (aJ g i (.slice sa sn sc))) w->EE.wp Tryz.prog (Ev.Qof Tryz.prog (Ev.aX Ev.cK poC).2 Q) b w):
 poC.wp Tryz.prog Q a W:=by
 have hgW:g<W.heap.size:=(Array.getElem?_eq_some_iff.1 hr).1
 have hs:=hF.sz
 have hO0:Ok Tryz.prog (ppM W.heap.size W [] (aJ g i (.slice sa sn sc))):=nW (Nat.le_refl _) (λg hg=>by cases hg) ⟨⟨rfl,.inl hgW,⟨_,hr⟩,iU (λx e=>by cases e) hs.iref hs.isender hs.icp hs.iasset⟩,trivial⟩
 have hO:Ok Tryz.prog (ppL W (aJ g i (.slice sa sn sc)) (sn:Int)):=hO0.withOth (sZ (.inr rfl) (cp:=sc) (sa:=sa) rfl)
 have hK:FrP (ppL W (aJ g i (.slice sa sn sc)) (sn:Int)) 50 [(1,.p 0 0),(2,.sl [])] a W:=aF (aF (aZ hn hd) h2 (sj (.slice none 0 0) W _)) h1 rfl
 refine C9 (M:=ppL W (aJ g i (.slice sa sn sc)) (sn:Int)) (c:=EE) (fs:=(Ev.aX Ev.cK poC).2) hO [1,3,24,25,26]
  (us:=[.p 0 0,.sl (sJ i),.r 0 15,.v (.int .i64 (sn:Int)),.v (.int .i64 0)])
  (ps:=cond (!(decide (i.priority=0))) [aL W.heap.size W (Ev.aM (aJ g i (.slice sa sn sc))) 128 [.r 0 10] (.str 10 (Ps.bw (Ps.bX i.priority)))] []++cond i.partial_ [aL W.heap.size W (Ev.aM (aJ g i (.slice sa sn sc))) 125 [.r 0 12] (.str 20 (Ps.bH i.minLot))] [])
  (by
  have hp:=hF.pr
  clear hO hO0 hK hq h1 h2 hd hn hr hgW hs hF
  obtain⟨ref,kind,sender,cp,side,asset,qty,am,td,sd,pr,pa,ml,ho,re,li⟩:=i
  have h3:pr=0\/pr=1\/pr=2:=by
   have h4:0<=pr/\pr<=2:=hp
   omega
  clear hp
  rcases h3 with rfl|rfl|rfl<;>cases pa<;>(show _=_;kernel_rfl)) ?_ hK (Sw.start _) ?_
 ·exact fo (jF λ_=>spW EZ rfl rfl hF.prW) (jF λh=>spW lN rfl rfl (hF.lot h))
 ·intro b w hb hbd hv hS
  obtain⟨⟨v1,e1,d1⟩,hv⟩:=hv.cons
  obtain⟨⟨v3,e3,d3⟩,hv⟩:=hv.cons
  obtain⟨⟨v24,e24,d24⟩,hv⟩:=hv.cons
  obtain⟨⟨v25,e25,d25⟩,hv⟩:=hv.cons
  obtain⟨⟨v26,e26,d26⟩,-⟩:=hv.cons
  exact hq b w v3 hb hbd (e1.trans (congrArg some d1)) e3 (pO d3) (e24.trans (congrArg some d24)) (e25.trans (congrArg some d25)) (e26.trans (congrArg some d26)) (EB hS rfl rfl rfl)
theorem ix_lk {ρ:Operand->Value}{o:Oper}{x y:Operand}{sb so n c j:Nat}{w:World}(ho:o.op=.indexAddr 32 x y)(h1:ρ x=.slice (some ⟨sb,so,none⟩) n c)(h2:ρ y=.int .i64 (j:Int))(hj:j<n):(execOp ρ o).run Tryz.prog w=.ok (.value (.pointer (some ⟨sb,so+j*2,none⟩))) w:=by
 have TV:(j:Int)<(n:Int):=by omega
 unfold execOp
 simp only[ho,h1,h2]
 go_simp
theorem OM {M M2:Mem}{w1 w3:World}(h1:Sw M w1)(hf:M.fix=[])(hB:M2.B=M.B)(hx:Below M.B w1 M2.W)(h3:Sw M2 w3):Sw M w3:=
 ⟨h3.os.trans (hx.os.trans h1.os),h3.tape.trans (hx.tape.trans h1.tape),h3.output.trans (hx.output.trans h1.output),Nat.le_trans h1.size (Nat.le_trans hx.size h3.size),λg hg=>by
  have hg':g<M.B:=by
   rcases hg with h|h
   ·exact h
   ·rw[hf]at h;cases h
  exact(h3.block g (.inl (hB.symm▸hg'))).trans ((hx.block g hg').trans (h1.block g hg))⟩
def oA (b:Bool)(x l:List SB):List SB:=cond b (l++x) l
theorem JG (b:Bool)(x l:List SB):oA b x l=l++ls b x:=by cases b<;>simp[oA,ls]
def poJ (W:World)(g:Nat)(i:Ps.Ins)(sa:Option Addr)(sn sc j:Nat)(a:Act)(w:World):Prop:=a.tmps.size=50/\a.defers=[]/\a.tmps[1]? =some (.pointer (some ⟨g,0,none⟩))/\(∃v,a.tmps[3]? =some v/\w.ownsRow W.heap.size 9 1 v (sJ i++(i.links.take j).flatMap lkS).length (((sJ i++(i.links.take j).flatMap lkS).map st).map .string))/\a.tmps[24]? =some (.slice sa sn sc)/\a.tmps[25]? =some (.int .i64 sn)/\a.tmps[26]? =some (.int .i64 j)/\Sw (ppM W.heap.size W [] (aJ g i (.slice sa sn sc))) w
theorem qG (i:Ps.Ins):(sJ i).length<=3:=by
 unfold sJ ls
 cases (!(decide (i.priority=0)))<;>cases i.partial_<;>simp
theorem Jd (l:List Ps.Link):(l.flatMap lkS).length=2*l.length:=by
 induction l with
 |nil=>rfl
 |cons x l ih=>rw[List.flatMap_cons,List.length_append,ih,List.length_cons];show 2+_=_;omega
theorem Rl (W:World)(i:Ps.Ins)(g:Nat)(hF:PoF W i)(sa:Option Addr)(sn sc:Nat)(hr:W.heap[g]? =some (.cells (aA i (.slice sa sn sc)).toArray 34 (0,0)))(hn:sn=i.links.length)(hlk:0<sn->∃sb so,sa=some ⟨sb,so,none⟩/\zI W sb so i.links)
 {R:Ending->World->Prop} (hR:∀v w,w.ownsRow W.heap.size 9 1 v (poS i).length (((poS i).map st).map .string)->Below W.heap.size W w->R (.returned v) w) {a:Act} {w:World} (hJ:poJ W g i sa sn sc 0 a w):
 EE.wp Tryz.prog (Ev.Qof Tryz.prog (Ev.aX Ev.cK poC).2 (bodyPost Tryz.prog Tryz.f123 R)) a w:=by
 have hgW:g<W.heap.size:=(Array.getElem?_eq_some_iff.1 hr).1
 have hs:=hF.sz
 have hnl:=hF.nlk
 have hpl:=qG i
 have UQ:∀(W2:World) (h:Nat) (x:Ps.Link),x.ref.size<=40->W2.heap[g]? =W.heap[g]?->W2.heap[h]? =some (.cells (lkC x).toArray 129 (0,0))->RowsIn W2 W.heap.size 40 [h] (aJ g i (.slice sa sn sc)++[(none,[]),(some (h,0),lkC x)]):=λW2 h x hx h1 h2=>
  ⟨⟨rfl,.inl hgW,⟨_,h1.trans hr⟩,iU (λx e=>by cases e) hs.iref hs.isender hs.icp hs.iasset⟩,⟨rfl,.inr (List.mem_singleton.2 rfl),⟨_,h2⟩,λy hy=>by
    unfold lkC at hy
    simp at hy
    subst hy
    exact hx⟩,trivial⟩
 have hR0:RowsIn W W.heap.size 40 [] (aJ g i (.slice sa sn sc)):=⟨⟨rfl,.inl hgW,⟨_,hr⟩,iU (λx e=>by cases e) hs.iref hs.isender hs.icp hs.iasset⟩,trivial⟩
 have hOb:∀b:Bool,Ok Tryz.prog (ppB W.heap.size W [] (aJ g i (.slice sa sn sc)) b):=λb=>(nW (Nat.le_refl _) (λg hg=>by cases hg) hR0).big.hint
 show(Code.loop (Ev.fU EE)).wp _ _ _ _
 refine wp_loop (λa w'=>∃j:Nat,j<=sn/\poJ W g i sa sn sc j a w') (λa _=>sn-(intOf (a.tmps.getD 26 undef)).toNat) ⟨0,Nat.zero_le _,hJ⟩ ?_
 clear hJ a w
 rintro a w ⟨j,hj,h1,h2,h3,⟨v,h4,hown⟩,h24,h25,h26,hS⟩
 obtain⟨l,hl⟩:∃l,l=sJ i++(i.links.take j).flatMap lkS:=⟨_,rfl⟩
 rw[<-hl]at hown
 have hll:l.length<=30:=by rw[hl,List.length_append,Jd,List.length_take];omega
 have hK:∀b:Bool,FrP (ppB W.heap.size W [] (aJ g i (.slice sa sn sc)) b) 50 [(1,.p 0 0),(3,.sl l),(24,.v (.slice sa sn sc)),(25,.v (.int .i64 (sn:Int))),(26,.v (.int .i64 (j:Int)))] a w:=λb=>aF (aF (aF (aF (aF (aZ h1 h2) h26 rfl) h25 rfl) h24 rfl) h4 (pJ (M:=ppB W.heap.size W [] (aJ g i (.slice sa sn sc)) b) hown (λg _ h=>by cases h))) h3 rfl
 by_cases hlt:j<sn
 ·obtain⟨sb,so,rfl,hrow⟩:=hlk (by omega)
  obtain⟨x,hx⟩:∃x,i.links[j]? =some x:=⟨_,List.getElem?_eq_getElem (by omega)⟩
  obtain⟨hxt,hxr⟩:=hF.lks x (List.mem_of_getElem? hx)
  obtain⟨hsb,hxc⟩:=xW hrow hx
  have hcw:∀w,gZ 195 #[.int .i64 x.type] w (Ps.bw (if x.type=0 then Ps.fF else Ps.dC)):=λw=>(PU (W0:=w) hxt).1 w (Below.refl _ _)
  have hcz:=(PU (W0:=W) hxt).2
  refine C9 (M:=ppB W.heap.size W [] (aJ g i (.slice (some ⟨sb,so,none⟩) sn sc)) true) (c:=(Ev.aX (Ev.bL 8) (Ev.fU EE)).1) (fs:=(Ev.aX (Ev.bL 8) (Ev.fU EE)).2) (hOb true) [1,3,24,25,26] (us:=[.p 0 0,.sl l,.v (.slice (some ⟨sb,so,none⟩) sn sc),.v (.int .i64 (sn:Int)),.v (.int .i64 (j:Int))]) (ps:=[decide ((j:Int)<(sn:Int))=true]) (by kernel_rfl) ⟨by simpa using hlt,trivial⟩ (hK true) (EB hS rfl rfl rfl) ?_
  intro b w1 b1 b2 hv hS1
  obtain⟨⟨v1,e1,d1⟩,hv⟩:=hv.cons
  obtain⟨⟨v3,e3,d3⟩,hv⟩:=hv.cons
  obtain⟨⟨v24,e24,d24⟩,hv⟩:=hv.cons
  obtain⟨⟨v25,e25,d25⟩,hv⟩:=hv.cons
  obtain⟨⟨v26,e26,d26⟩,-⟩:=hv.cons
  have d1:v1=.pointer (some ⟨g,0,none⟩):=d1
  have d24:v24=.slice (some ⟨sb,so,none⟩) sn sc:=d24
  have d25:v25=.int .i64 (sn:Int):=d25
  have d26:v26=.int .i64 (j:Int):=d26
  subst d1 d24 d25 d26
  have hB1:W.heap.size<=w1.heap.size:=hS1.size
  have hw1:w1.heap[sb]? =W.heap[sb]?:=hS1.block sb (.inl hsb)
  have hg1:w1.heap[g]? =W.heap[g]?:=hS1.block g (.inl hgW)
  refine M3 (A2:=.pointer (some ⟨sb,so+j*2,none⟩)) (A3:=.pointer (some ⟨w1.heap.size,0,none⟩)) (V:=.agg (lkC x).toArray) (W1:=w1.alloc (.cells #[.int .i64 0,.string ⟨#[]⟩] 129)) (W:=w1.alloc (.cells (lkC x).toArray 129)) rfl rfl (ix_lk rfl (eval_at e24) (eval_at e26) hlt) rfl rfl rfl rfl rfl rfl rfl rfl rfl (by decide) (by rw[b1];decide) (by rw[b1];decide) (by rw[b1];decide) (Td w1 sb (so+j*2) x (hxc w1 hw1 0 _ rfl) (hxc w1 hw1 1 _ rfl)) (al_lk w1) (sv_lk w1 x) ?_
  intro b' c1 c2 c3 c4
  obtain⟨h,hh⟩:∃h,h=w1.heap.size:=⟨_,rfl⟩
  have hbel:Below w1.heap.size w1 (w1.alloc (.cells (lkC x).toArray 129)):=(Below.refl _ _).alloc (Nat.le_refl _) _
  have hrow2:(w1.alloc (.cells (lkC x).toArray 129)).heap[h]? =some (.cells (lkC x).toArray 129 (0,0)):=by rw[hh];exact aC w1 _
  rw[<-hh]at c3
  have hlt2:h<(w1.alloc (.cells (lkC x).toArray 129)).heap.size:=(Array.getElem?_eq_some_iff.1 hrow2).1
  generalize w1.alloc (.cells (lkC x).toArray 129)=W2 at hbel hrow2 hlt2⊢
  have hg2:W2.heap[g]? =W.heap[g]?:=(hbel.block g (by omega)).trans hg1
  have hO2:Ok Tryz.prog (ppB W.heap.size W2 [h] (aJ g i (.slice (some ⟨sb,so,none⟩) sn sc)++[(none,[]),(some (h,0),lkC x)]) true):=(nW (by omega) (λg hg=>by rw[List.mem_singleton]at hg;omega) (UQ W2 h x hxr hg2 hrow2)).big.hint
  have d3':=pO d3
  have hown2:W2.ownsRow W.heap.size 9 1 v3 l.length ((l.map st).map .string):=own_below d3' hbel
  have hne:∀q,v3.ownBlock=some q->q∉[h]:=λq hq hm=>by
   rw[List.mem_singleton]at hm
   subst hm
   have:=(World.ownsRow.lt (d3':w1.ownsRow W.heap.size 9 1 v3 l.length ((l.map st).map .string)) q hq).2
   omega
  have hK2:FrP (ppB W.heap.size W2 [h] (aJ g i (.slice (some ⟨sb,so,none⟩) sn sc)++[(none,[]),(some (h,0),lkC x)]) true) 50 [(1,.p 0 0),(3,.sl l),(5,.p 3 0),(24,.v (.slice (some ⟨sb,so,none⟩) sn sc)),(25,.v (.int .i64 (sn:Int))),(26,.v (.int .i64 (j:Int)))] b' W2:=
   aF (aF (aF (aF (aF (aF (aZ (c2.trans b1) (c1.trans b2)) ((c4 26 (by decide) (by decide) (by decide)).trans e26) rfl) ((c4 25 (by decide) (by decide) (by decide)).trans e25) rfl) ((c4 24 (by decide) (by decide) (by decide)).trans e24) rfl) c3 rfl) ((c4 3 (by decide) (by decide) (by decide)).trans e3) (pJ (M:=ppB W.heap.size W2 [h] (aJ g i (.slice (some ⟨sb,so,none⟩) sn sc)++[(none,[]),(some (h,0),lkC x)]) true) hown2 hne)) ((c4 1 (by decide) (by decide) (by decide)).trans e1) rfl
  show(Ev.fmC (Ev.aX (Ev.bL 8) (Ev.fU EE)).2 0).wp _ _ _ _
  refine CZ hO2 [1,3,24,25,26] (us:=[.p 0 0,.sl (l++lkS x),.v (.slice (some ⟨sb,so,none⟩) sn sc),.v (.int .i64 (sn:Int)),.v (.int .i64 (j:Int))])
   (ps:=[aL W.heap.size W2 (Ev.aM (aJ g i (.slice (some ⟨sb,so,none⟩) sn sc)++[(none,[]),(some (h,0),lkC x)])) 195 [.r 3 0] (.str 5 (Ps.bw (if x.type=0 then Ps.fF else Ps.dC))),l.length+(lkS x).length<=1000000]) (by kernel_rfl)
   ⟨gp (x:=.int .i64 x.type) SG rfl (λw _=>hcw w) hcz,by show l.length+2<=1000000;omega,trivial⟩ hK2 (Sw.start _) ?_
  intro b3 w3 f1 f2 hv E9
  obtain⟨⟨v1,e1,d1⟩,hv⟩:=hv.cons
  obtain⟨⟨v3,e3,d3⟩,hv⟩:=hv.cons
  obtain⟨⟨v24,e24,d24⟩,hv⟩:=hv.cons
  obtain⟨⟨v25,e25,d25⟩,hv⟩:=hv.cons
  obtain⟨⟨v26,e26,d26⟩,-⟩:=hv.cons
  show(Ev.fmC (Ev.aX (Ev.bL 8) (Ev.fU EE)).2 2).wp _ _ _ _
  have hK3:FrP (ppB W.heap.size W2 [h] (aJ g i (.slice (some ⟨sb,so,none⟩) sn sc)++[(none,[]),(some (h,0),lkC x)]) true) 50 [(1,.p 0 0),(3,.sl (l++lkS x)),(24,.v (.slice (some ⟨sb,so,none⟩) sn sc)),(25,.v (.int .i64 (sn:Int))),(26,.v (.int .i64 (j:Int)))] b3 w3:=
   aF (aF (aF (aF (aF (aZ f1 f2) e26 d26) e25 d25) e24 d24) e3 d3) e1 d1
  refine CZ hO2 [1,3,24,25,26] (us:=[.p 0 0,.sl (l++lkS x),.v (.slice (some ⟨sb,so,none⟩) sn sc),.v (.int .i64 (sn:Int)),.v (.int .i64 (IntKind.i64.wrap ((j:Int)+1)))]) (ps:=[]) (by kernel_rfl) trivial hK3 E9 ?_
  clear hK3 e1 d1 e3 d3 e24 d24 e25 d25 e26 d26 f1 f2 E9
  intro b3 w3 f1 f2 hv E9
  obtain⟨⟨v1,e1,d1⟩,hv⟩:=hv.cons
  obtain⟨⟨v3,e3,d3⟩,hv⟩:=hv.cons
  obtain⟨⟨v24,e24,d24⟩,hv⟩:=hv.cons
  obtain⟨⟨v25,e25,d25⟩,hv⟩:=hv.cons
  obtain⟨⟨v26,e26,d26⟩,-⟩:=hv.cons
  have d26:v26=.int .i64 _:=d26
  rw[IntWalk.i64_in _ (by omega),show(j:Int)+1=((j+1:Nat):Int)from by omega]at d26
  subst d26
  have el:l++lkS x=sJ i++(i.links.take (j+1)).flatMap lkS:=by
   rw[hl,List.take_add_one,hx]
   simp[List.append_assoc]
  have d3':=pO d3
  rw[el]at d3'
  have hSS:Sw (ppM W.heap.size W [] (aJ g i (.slice (some ⟨sb,so,none⟩) sn sc))) w3:=OM (M2:=ppB W.heap.size W2 [h] (aJ g i (.slice (some ⟨sb,so,none⟩) sn sc)++[(none,[]),(some (h,0),lkC x)]) true) (EB hS1 rfl rfl rfl) rfl rfl (hbel.mono hB1) E9
  refine⟨⟨j+1,by omega,f1,f2,e1.trans (congrArg some d1),⟨v3,e3,d3'⟩,e24.trans (congrArg some d24),e25.trans (congrArg some d25),e26,hSS⟩,?_⟩
  have q1:b3.tmps.getD 26 undef=.int .i64 ((j+1:Nat):Int):=eval_at e26
  have q2:a.tmps.getD 26 undef=.int .i64 (j:Int):=eval_at h26
  rw[q1,q2]
  show sn-(((j+1:Nat):Int)).toNat<sn-((j:Nat):Int).toNat
  omega
 ·obtain rfl:j=sn:=by omega
  refine He (hOb false) [1,3] (k:=0) (us:=[.p 0 0,.sl l]) (ps:=[decide ((j:Int)<(j:Int))=false]) (by kernel_rfl) ⟨by simp,trivial⟩ (hK false) (EB hS rfl rfl rfl) ?_
  intro b w1 b1 b2 hv hS1
  obtain⟨⟨v1,e1,d1⟩,hv⟩:=hv.cons
  obtain⟨⟨v3,e3,d3⟩,-⟩:=hv.cons
  show(Ev.fmC (Ev.aX Ev.cK poC).2 1).wp Tryz.prog _ b w1
  refine bE (M:=ppB W.heap.size W [] (aJ g i (.slice sa j sc)) false) (n:=50) (K:=[(1,.p 0 0),(3,.sl l)]) (hOb false) [2] (us:=[.sl (oA i.hold [wb Ps.bU] (oA i.reserve [wb Ps.aY] l))]) (ps:=cond i.reserve [l.length+[wb Ps.aY].length<=1000000] []++cond i.hold [(oA i.reserve [wb Ps.aY] l).length+[wb Ps.bU].length<=1000000] [])
   (by
    clear hOb hR0 UQ hK hr hlk hR hF hs
    clear hl
    obtain⟨ref,kind,sender,cp,side,asset,qty,am,td,sd,pr,pa,ml,ho,re,li⟩:=i
    cases re<;>cases ho<;>(show _=_;kernel_rfl)) (fo (jF λ_=>by show l.length+1<=_;omega) (jF λ_=>by
     rw[JG,List.length_append]
     have:(ls i.reserve [wb Ps.aY]).length<=1:=by cases i.reserve<;>simp[ls]
     show l.length+_+1<=_
     omega)) (aF (aF (aZ b1 b2) e3 d3) e1 d1) hS1 ?_
  intro b4 w4 _ hd hv hS4
  refine qB rfl hd hv λv hv=>hR v w4 ?_ (az rfl hS4)
  rw[JG,JG]at hv
  have e:l++ls i.reserve [wb Ps.aY]++ls i.hold [wb Ps.bU]=poS i:=by
   rw[hl,hn,List.take_length]
   rfl
  rw[e]at hv
  exact hv
structure PiF (W0:World)(i:Ps.Ins):Prop where
 env:jG W0
 ok:Ps.jW bM.valid i
 sz:o8 (fZ i)
theorem PiF.below {W0 W:World}{i:Ps.Ins}(h:PiF W0 i)(hb:Below W0.heap.size W0 W):PiF W i:=⟨h.env.below hb,h.ok,h.sz⟩
theorem PiF.po {W0:World}{i:Ps.Ins}(h:PiF W0 i):PoF W0 i where
 pr:=h.ok.prio
 prW:=JE h.env h.ok.prio
 lot:=λhp=>oJ h.env (by have h1:=h.ok.lot hp;have h2:=h.ok.qty (by have:=h.ok.part hp;omega);omega)
 lks:=λx hx=>⟨(h.ok.link x hx).1,by have:=(di (by omega) (h.ok.link x hx).2).2;omega⟩
 nlk:=h.ok.links
 sz:=h.sz
theorem Pb:∀args w,(callFunc 123 args).run Tryz.prog w=.ok (.enter 123 args) w:=enters_of Tryz.func123 (by kernel_rfl) rfl
theorem Pv:∀args w,(callFunc 126 args).run Tryz.prog w=.ok (.enter 126 args) w:=enters_of Tryz.func126 (by kernel_rfl) rfl
theorem ND:∀args w,(callFunc 66 args).run Tryz.prog w=.ok (.enter 66 args) w:=enters_of Tryz.func66 (by kernel_rfl) rfl
theorem QE:∀args w,(callFunc 197 args).run Tryz.prog w=.ok (.enter 197 args) w:=enters_of Tryz.func197 (by kernel_rfl) rfl
theorem M8:∀args w,(callFunc 198 args).run Tryz.prog w=.ok (.enter 198 args) w:=enters_of Tryz.func198 (by kernel_rfl) rfl
theorem rZ {B:Nat}{W:World}{cell:Nat->Nat->Value}{f:FuncId}{u:PV}{x:Value}{l:List SB}(he:∀args w,(callFunc f args).run Tryz.prog w=.ok (.enter f args) w)(hu:eG cell u=some x)(h:∀w,Below B W w->tu f #[x] w l):aL B W cell f [u] (.sls l):=⟨he,trivial,λvals w hw hd=>by
 obtain⟨v,rfl,hv⟩:=Oj hd
 obtain rfl:=jQ hu hv
 exact h w hw⟩
theorem FV (w:World)(i:Ps.Ins)(hF:PiF w i)(sa:Option Addr)(sn sc:Nat)(hn:sn=i.links.length)(hlk:dI w sa sn i.links):tu 123 #[.agg (aA i (.slice sa sn sc)).toArray] w (poS i):=by
 unfold tu
 go_enter Tryz.func123,Tryz.ntmps123
 refine gq λa ha hdf=>?_
 refine wp_seq ?_
 have hb:Below w.heap.size w (w.alloc (.cells (aA i (.slice sa sn sc)).toArray 34)):=(Below.refl _ _).alloc (Nat.le_refl _) _
 refine rO rfl rfl rfl rfl rfl (by decide) (by rw[ha];show 1<50;decide) (by rw[ha];show 2<50;decide) (xO w i sa sn sc rfl (eval_at (by rw[ha];rfl))) λb b1 b2 b3 b4=>?_
 have hr:(w.alloc (.cells (aA i (.slice sa sn sc)).toArray 34)).heap[w.heap.size]? =some (.cells (aA i (.slice sa sn sc)).toArray 34 (0,0)):=aC w _
 generalize w.alloc (.cells (aA i (.slice sa sn sc)).toArray 34)=W at hb hr⊢
 have zD:=(hF.below hb).po
 refine Ti W i w.heap.size zD sa sn sc hr (b1.trans hdf) (b2.trans (by rw[ha];rfl)) b3 b4 λb2 w2 v c1 c2 c3 c4 c5 c6 c7 c8 c9=>?_
 refine Rl W i w.heap.size zD sa sn sc hr hn (λh0=>by
  obtain⟨sb,so,e,h⟩:=hlk h0
  exact⟨sb,so,e,h W hb⟩) (λv w' h1 h2=>⟨v,rfl,dA h1 hb.size,hb.trans (h2.mono hb.size)⟩) ⟨c1,c2,c3,⟨v,c4,by simpa using c5⟩,c6,c7,c8,c9⟩
noncomputable def plM (W:World)(rows:List (Option (Nat×Nat)×List Value)):Mem:=ppM W.heap.size W [] rows
theorem BV {W:World}{i:Ps.Ins}{g:Nat}{sa:Option Addr}{sn sc:Nat}(hs:o8 (fZ i))(hr:W.heap[g]? =some (.cells (aA i (.slice sa sn sc)).toArray 34 (0,0))):RowsIn W W.heap.size 40 [] (aJ g i (.slice sa sn sc)):=
 ⟨⟨rfl,.inl (Array.getElem?_eq_some_iff.1 hr).1,⟨_,hr⟩,iU (λx e=>by cases e) hs.iref hs.isender hs.icp hs.iasset⟩,trivial⟩
theorem BM (w:World)(i:Ps.Ins)(hs:o8 (fZ i))(hsd:i.side=0\/i.side=1)(sa:Option Addr)(sn sc:Nat):gZ 197 #[.agg (aA i (.slice sa sn sc)).toArray] w (Ps.gP i):=by
 unfold gZ
 go_enter Tryz.func197,Tryz.ntmps197
 refine gq λa ha hdf=>?_
 refine wp_seq ?_
 have hb:Below w.heap.size w (w.alloc (.cells (aA i (.slice sa sn sc)).toArray 34)):=(Below.refl _ _).alloc (Nat.le_refl _) _
 refine rO rfl rfl rfl rfl rfl (by decide) (by rw[ha];show 1<10;decide) (by rw[ha];show 2<10;decide) (xO w i sa sn sc rfl (eval_at (by rw[ha];rfl))) λb b1 b2 b3 b4=>?_
 have hr:(w.alloc (.cells (aA i (.slice sa sn sc)).toArray 34)).heap[w.heap.size]? =some (.cells (aA i (.slice sa sn sc)).toArray 34 (0,0)):=aC w _
 generalize w.alloc (.cells (aA i (.slice sa sn sc)).toArray 34)=W at hb hr⊢
 refine bE (M:=plM W (aJ w.heap.size i (.slice sa sn sc))) (n:=10) (K:=[(1,.p 0 0)]) (nW (Nat.le_refl _) (λg hg=>by cases hg) (BV hs hr)) [2] (us:=[.s (40,Ps.gP i)]) (ps:=[]) (by
  clear hr hb ha hdf b1 b2 b3 b4 hs
  obtain⟨ref,kind,sender,cp,side,asset,qty,am,td,sd,pr,pa,ml,ho,re,li⟩:=i
  have hsd:side=0\/side=1:=hsd
  rcases hsd with rfl|rfl<;>(show _=_;kernel_rfl)) trivial (aF (aZ (b2.trans (by rw[ha];rfl)) (b1.trans hdf)) b3 rfl) (Sw.start _) ?_
 intro a w' _ hd hv hS
 refine jo rfl hd hv ⟨?_,hb.trans ((az rfl hS).mono hb.size)⟩
 rw[st40]
 unfold Ps.gP
 split
 ·exact hs.icp
 ·exact hs.isender
theorem ET (w:World)(i:Ps.Ins)(hs:o8 (fZ i))(hsd:i.side=0\/i.side=1)(sa:Option Addr)(sn sc:Nat):gZ 198 #[.agg (aA i (.slice sa sn sc)).toArray] w (Ps.toT i):=by
 unfold gZ
 go_enter Tryz.func198,Tryz.ntmps198
 refine gq λa ha hdf=>?_
 refine wp_seq ?_
 have hb:Below w.heap.size w (w.alloc (.cells (aA i (.slice sa sn sc)).toArray 34)):=(Below.refl _ _).alloc (Nat.le_refl _) _
 refine rO rfl rfl rfl rfl rfl (by decide) (by rw[ha];show 1<10;decide) (by rw[ha];show 2<10;decide) (xO w i sa sn sc rfl (eval_at (by rw[ha];rfl))) λb b1 b2 b3 b4=>?_
 have hr:(w.alloc (.cells (aA i (.slice sa sn sc)).toArray 34)).heap[w.heap.size]? =some (.cells (aA i (.slice sa sn sc)).toArray 34 (0,0)):=aC w _
 generalize w.alloc (.cells (aA i (.slice sa sn sc)).toArray 34)=W at hb hr⊢
 refine bE (M:=plM W (aJ w.heap.size i (.slice sa sn sc))) (n:=10) (K:=[(1,.p 0 0)]) (nW (Nat.le_refl _) (λg hg=>by cases hg) (BV hs hr)) [2] (us:=[.s (40,Ps.toT i)]) (ps:=[]) (by
  clear hr hb ha hdf b1 b2 b3 b4 hs
  obtain⟨ref,kind,sender,cp,side,asset,qty,am,td,sd,pr,pa,ml,ho,re,li⟩:=i
  have hsd:side=0\/side=1:=hsd
  rcases hsd with rfl|rfl<;>(show _=_;kernel_rfl)) trivial (aF (aZ (b2.trans (by rw[ha];rfl)) (b1.trans hdf)) b3 rfl) (Sw.start _) ?_
 intro a w' _ hd hv hS
 refine jo rfl hd hv ⟨?_,hb.trans ((az rfl hS).mono hb.size)⟩
 rw[st40]
 unfold Ps.toT
 split
 ·exact hs.isender
 ·exact hs.icp
def vrS (i:Ps.Ins):List SB:=ls (decide (i.side=1)) [wb Ps.eZ]++ls (decide (i.side=0)) [wb Ps.fC]
noncomputable def pdS (i:Ps.Ins):List SB:=vrS i++[(40,i.ref),wb Ps.rH,(40,Ps.gP i),wb Ps.sTo,(40,Ps.toT i),wb Ps.uK,(40,i.asset),wb Ps.gQ,(20,Ps.bH i.quantity)]++(ls (decide (i.kind=1)) [wb Ps.d9,(20,Ps.bO i.amount)]++ls (decide (i.kind=2)) [wb Ps.jy])++[wb Ps.j4,(10,Ps.ae i.tradeDay),wb Ps.eF,(10,Ps.ae i.settleDay)]
noncomputable def pyS (i:Ps.Ins):List SB:=[wb Ps.E8,(40,i.ref),wb Ps.rH,(40,i.sender),wb Ps.sTo,(40,i.counterparty),wb Ps.bY,(20,Ps.bO i.amount),wb Ps.eF,(10,Ps.ae i.settleDay)]
noncomputable def pgS (i:Ps.Ins):List SB:=[(8,Ps.bw (if i.kind=3 then Ps.eP else Ps.dN)),(40,i.ref),wb Ps.sBy,(40,i.sender),wb Ps.uK,(40,i.asset),wb Ps.gQ,(20,Ps.bH i.quantity),wb Ps.eF,(10,Ps.ae i.settleDay)]
noncomputable def psS (i:Ps.Ins):List SB:=if i.kind=3\/i.kind=4 then pgS i else if i.kind=0 then pyS i++poS i else pdS i++poS i
noncomputable def pdRes (i:Ps.Ins)(rows:List (Option (Nat×Nat)×List Value))(f:FuncId)(us:List PV):Option Rv:=match us with
 |[.a 0 0 16]=>if f=197 then some (.str 40 (Ps.gP i))else if f=198 then some (.str 40 (Ps.toT i))else if f=123 then some (.sls (poS i))else if f=126 then some (.sls (pdS i))else none
 |[.r 0 1]=>if f=124 then some (.str 8 (Ps.bw (if i.kind=3 then Ps.eP else Ps.dN)))else none
 |_=>Uv rows f us
noncomputable def pdM (W:World)(i:Ps.Ins)(rows:List (Option (Nat×Nat)×List Value)):Mem:=seW W.heap.size W [] 40 rows (pdRes i rows)
noncomputable def pdB (W:World)(i:Ps.Ins)(rows:List (Option (Nat×Nat)×List Value)):Mem:={pdM W i rows with big:=true}
theorem QY {W:World}{i:Ps.Ins}{rows:List (Option (Nat×Nat)×List Value)}(hr:RowsIn W W.heap.size 40 [] rows):Ok Tryz.prog (pdM W i rows):=
 vw (Nat.le_refl _) (λg hg=>by cases hg) (λk g o l h=>by
  obtain⟨rfl,h2,⟨t,h3⟩,_⟩:=cB hr k g o l h
  exact⟨h2,bv h3⟩) λk p l h=>(cB hr k p.1 p.2 l h).2.2.2
noncomputable def dlC:Code:=Ev.nC (Tryz.f126.body.getD .skip)
noncomputable def sbC:Code:=Ev.nC (Tryz.f66.body.getD .skip)
theorem Dq (w:World)(i:Ps.Ins)(hk:i.kind=1\/i.kind=2)(hF:PiF w i)(sa:Option Addr)(sn sc:Nat):tu 126 #[.agg (aA i (.slice sa sn sc)).toArray] w (pdS i):=by
 unfold tu
 go_enter Tryz.func126,Tryz.ntmps126
 refine gq λa ha hdf=>?_
 refine wp_seq ?_
 have hb:Below w.heap.size w (w.alloc (.cells (aA i (.slice sa sn sc)).toArray 34)):=(Below.refl _ _).alloc (Nat.le_refl _) _
 refine rO rfl rfl rfl rfl rfl (by decide) (by rw[ha];show 1<42;decide) (by rw[ha];show 2<42;decide) (xO w i sa sn sc rfl (eval_at (by rw[ha];rfl))) λb b1 b2 b3 b4=>?_
 have hr:(w.alloc (.cells (aA i (.slice sa sn sc)).toArray 34)).heap[w.heap.size]? =some (.cells (aA i (.slice sa sn sc)).toArray 34 (0,0)):=aC w _
 generalize w.alloc (.cells (aA i (.slice sa sn sc)).toArray 34)=W at hb hr⊢
 have zD:=hF.below hb
 have hi:=hF.ok
 have hs:=hF.sz
 have P1:∀cell:Nat->Nat->Value,eG cell (.a 0 0 16)=some (.agg (aA i (.slice sa sn sc)).toArray)->aL W.heap.size W cell 197 [.a 0 0 16] (.str 40 (Ps.gP i)):=λcell he=>gp QE he (λw _=>BM w i hs hi.side sa sn sc) (by unfold Ps.gP;split<;>first|exact hs.icp|exact hs.isender)
 have P2:∀cell:Nat->Nat->Value,eG cell (.a 0 0 16)=some (.agg (aA i (.slice sa sn sc)).toArray)->aL W.heap.size W cell 198 [.a 0 0 16] (.str 40 (Ps.toT i)):=λcell he=>gp M8 he (λw _=>ET w i hs hi.side sa sn sc) (by unfold Ps.toT;split<;>first|exact hs.isender|exact hs.icp)
 have P3:=oJ zD.env (q:=i.quantity) (by have:=hi.qty (by omega);omega)
 have P4:i.kind=1->CW W 121 i.amount 20 (Ps.bO i.amount):=λh=>BC zD.env (by have:=hi.am (by omega);omega)
 have P5:=Bz (W0:=W) (q:=i.tradeDay) (by have:=hi.trade hk;have:=hi.settle;omega)
 have P6:=Bz (W0:=W) (q:=i.settleDay) hi.settle
 refine bE (M:=pdM W i (aJ w.heap.size i (.slice sa sn sc))) (n:=42) (code:=dlC) (K:=[(1,.p 0 0),(2,.sl [])]) (QY (BV hs hr)) [2] (us:=[.sl (pdS i)])
  (ps:=[aL W.heap.size W (Ev.aM (aJ w.heap.size i (.slice sa sn sc))) 197 [.a 0 0 16] (.str 40 (Ps.gP i)),aL W.heap.size W (Ev.aM (aJ w.heap.size i (.slice sa sn sc))) 198 [.a 0 0 16] (.str 40 (Ps.toT i)),aL W.heap.size W (Ev.aM (aJ w.heap.size i (.slice sa sn sc))) 125 [.r 0 6] (.str 20 (Ps.bH i.quantity))]++(cond (decide (i.kind=1)) [aL W.heap.size W (Ev.aM (aJ w.heap.size i (.slice sa sn sc))) 121 [.r 0 7] (.str 20 (Ps.bO i.amount))] []++[aL W.heap.size W (Ev.aM (aJ w.heap.size i (.slice sa sn sc))) 122 [.r 0 8] (.str 10 (Ps.ae i.tradeDay)),aL W.heap.size W (Ev.aM (aJ w.heap.size i (.slice sa sn sc))) 122 [.r 0 9] (.str 10 (Ps.ae i.settleDay))]))
  (by
   have hsd:=hi.side
   clear hr hb ha hdf b1 b2 b3 b4 hs hi zD hF P1 P2 P3 P4 P5 P6
   obtain⟨ref,kind,sender,cp,side,asset,qty,am,td,sd,pr,pa,ml,ho,re,li⟩:=i
   have hsd:side=0\/side=1:=hsd
   have hk:kind=1\/kind=2:=hk
   rcases hsd with rfl|rfl<;>rcases hk with rfl|rfl<;>(show _=_;kernel_rfl))
  (fo ⟨P1 _ rfl,P2 _ rfl,spW lN rfl rfl P3,trivial⟩ (fo (jF λh=>spW tJ rfl rfl (P4 (by simpa using h))) ⟨spW mH rfl rfl P5,spW mH rfl rfl P6,trivial⟩))
  (aF (aF (aZ (b2.trans (by rw[ha];rfl)) (b1.trans hdf)) b4 (sj (.slice none 0 0) W _)) b3 rfl) (Sw.start _) ?_
 intro a w' _ hd hv hS
 exact qB rfl hd hv λv hv=>⟨v,rfl,dA hv hb.size,hb.trans ((az rfl hS).mono hb.size)⟩
theorem JX {i:Ps.Ins}(h:i.links.length<=8):(poS i).length<=30:=by
 unfold poS
 have:=qG i
 rw[List.length_append,List.length_append,List.length_append,Jd]
 have h1:(ls i.reserve [wb Ps.aY]).length<=1:=by cases i.reserve<;>simp[ls]
 have h2:(ls i.hold [wb Ps.bU]).length<=1:=by cases i.hold<;>simp[ls]
 omega
theorem vF (i:Ps.Ins):(pdS i).length<=30:=by
 unfold pdS vrS
 cases decide (i.side=1)<;>cases decide (i.side=0)<;>cases decide (i.kind=1)<;>cases decide (i.kind=2)<;>simp[ls]
theorem LJ (w:World)(i:Ps.Ins)(hF:PiF w i)(sa:Option Addr)(sn sc:Nat)(hn:sn=i.links.length)(hlk:dI w sa sn i.links):tu 66 #[.agg (aA i (.slice sa sn sc)).toArray] w (psS i):=by
 unfold tu
 go_enter Tryz.func66,Tryz.ntmps66
 refine gq λa ha hdf=>?_
 refine wp_seq ?_
 have hb:Below w.heap.size w (w.alloc (.cells (aA i (.slice sa sn sc)).toArray 34)):=(Below.refl _ _).alloc (Nat.le_refl _) _
 refine rO rfl rfl rfl rfl rfl (by decide) (by rw[ha];show 1<47;decide) (by rw[ha];show 2<47;decide) (xO w i sa sn sc rfl (eval_at (by rw[ha];rfl))) λb b1 b2 b3 b4=>?_
 have hr:(w.alloc (.cells (aA i (.slice sa sn sc)).toArray 34)).heap[w.heap.size]? =some (.cells (aA i (.slice sa sn sc)).toArray 34 (0,0)):=aC w _
 generalize w.alloc (.cells (aA i (.slice sa sn sc)).toArray 34)=W at hb hr⊢
 have zD:=hF.below hb
 have Rs:=hlk.below hb
 have hi:=hF.ok
 have hs:=hF.sz
 have hO:Ok Tryz.prog (pdB W i (aJ w.heap.size i (.slice sa sn sc))):=(QY (BV hs hr)).big
 have qY:FrP (pdB W i (aJ w.heap.size i (.slice sa sn sc))) 47 [(1,.p 0 0),(2,.sl [])] b W:=aF (aF (aZ (b2.trans (by rw[ha];rfl)) (b1.trans hdf)) b4 (sj (.slice none 0 0) W _)) b3 rfl
 have P0:∀cell:Nat->Nat->Value,eG cell (.a 0 0 16)=some (.agg (aA i (.slice sa sn sc)).toArray)->aL W.heap.size W cell 123 [.a 0 0 16] (.sls (poS i)):=λcell he=>rZ Pb he λw' hw'=>FV w' i (zD.below hw') sa sn sc hn (Rs.below hw')
 have P6:=Bz (W0:=W) (q:=i.settleDay) hi.settle
 have hol:=JX hi.links
 have hdl:=vF i
 have fin:∀(us:List SB) (a:Act) (w':World),us=psS i->a.defers=[]->kS (pdB W i (aJ w.heap.size i (.slice sa sn sc))) [2] [.sl us] a w'->Sw (pdB W i (aJ w.heap.size i (.slice sa sn sc))) w'->bodyPost Tryz.prog Tryz.f66 (λe w'=>∃y,e=.returned y/\w'.ownsRow w.heap.size 9 1 y (psS i).length (((psS i).map st).map .string)/\Below w.heap.size w w') .ret a w':=λus a w' Hd hd hv hS=>by
  subst Hd
  exact qB rfl hd hv λv hv=>⟨v,rfl,dA hv hb.size,hb.trans ((az (M:=pdB W i (aJ w.heap.size i (.slice sa sn sc))) rfl hS).mono hb.size)⟩
 by_cases hk0:i.kind=0
 ·have P4:=BC zD.env (q:=i.amount) (by have:=hi.am (by omega);omega)
  refine bE (M:=pdB W i (aJ w.heap.size i (.slice sa sn sc))) (n:=47) (code:=sbC) (K:=[(1,.p 0 0),(2,.sl [])]) hO [2] (us:=[.sl (pyS i++poS i)])
   (ps:=[aL W.heap.size W (Ev.aM (aJ w.heap.size i (.slice sa sn sc))) 121 [.r 0 7] (.str 20 (Ps.bO i.amount)),aL W.heap.size W (Ev.aM (aJ w.heap.size i (.slice sa sn sc))) 122 [.r 0 9] (.str 10 (Ps.ae i.settleDay)),aL W.heap.size W (Ev.aM (aJ w.heap.size i (.slice sa sn sc))) 123 [.a 0 0 16] (.sls (poS i)),(pyS i).length+(poS i).length<=1000000])
   (by
    clear fin hr hb ha hdf b1 b2 b3 b4 hs hi zD hF Rs hlk hO qY P0 P4 P6 hol hdl hn
    obtain⟨ref,kind,sender,cp,side,asset,qty,am,td,sd,pr,pa,ml,ho,re,li⟩:=i
    have hk0:kind=0:=hk0
    subst hk0
    show _=_
    kernel_rfl) ⟨spW tJ rfl rfl P4,spW mH rfl rfl P6,P0 _ rfl,by show 10+_<=_;omega,trivial⟩ qY (Sw.start _) ?_
  exactλa w' _ hd hv hS=>fin _ a w' (by unfold psS;rw[if_neg (by omega),if_pos hk0]) hd hv hS
 by_cases hk3:i.kind=3\/i.kind=4
 ·have P3:=oJ zD.env (q:=i.quantity) (by have:=hi.qty (by omega);omega)
  have P7:∀cell:Nat->Nat->Value,cell 0 1=.int .i64 i.kind->aL W.heap.size W cell 124 [.r 0 1] (.str 8 (Ps.bw (if i.kind=3 then Ps.eP else Ps.dN))):=λcell he=>gp (x:=.int .i64 i.kind) Sg (by show some (cell 0 1)=_;rw[he]) (λw' hw'=>by
   rcases hk3 with h|h
   ·rw[h]
    exact(uN w' (zD.env.kd w' hw') 3 _ rfl).mono λe w2 ⟨h1,h2⟩=>⟨h1,h2▸Below.refl _ _⟩
   ·rw[h]
    exact(uN w' (zD.env.kd w' hw') 4 _ rfl).mono λe w2 ⟨h1,h2⟩=>⟨h1,h2▸Below.refl _ _⟩) (by split<;>decide)
  refine bE (M:=pdB W i (aJ w.heap.size i (.slice sa sn sc))) (n:=47) (code:=sbC) (K:=[(1,.p 0 0),(2,.sl [])]) hO [2] (us:=[.sl (pgS i)])
   (ps:=[aL W.heap.size W (Ev.aM (aJ w.heap.size i (.slice sa sn sc))) 124 [.r 0 1] (.str 8 (Ps.bw (if i.kind=3 then Ps.eP else Ps.dN))),aL W.heap.size W (Ev.aM (aJ w.heap.size i (.slice sa sn sc))) 125 [.r 0 6] (.str 20 (Ps.bH i.quantity)),aL W.heap.size W (Ev.aM (aJ w.heap.size i (.slice sa sn sc))) 122 [.r 0 9] (.str 10 (Ps.ae i.settleDay))])
   (by
    clear fin hr hb ha hdf b1 b2 b3 b4 hs hi zD hF Rs hlk hO qY P0 P3 P6 P7 hol hdl hn hk0
    obtain⟨ref,kind,sender,cp,side,asset,qty,am,td,sd,pr,pa,ml,ho,re,li⟩:=i
    have hk3:kind=3\/kind=4:=hk3
    rcases hk3 with rfl|rfl<;>(show _=_;kernel_rfl)) ⟨P7 _ rfl,spW lN rfl rfl P3,spW mH rfl rfl P6,trivial⟩ qY (Sw.start _) ?_
  exactλa w' _ hd hv hS=>fin _ a w' (by unfold psS;rw[if_pos hk3]) hd hv hS
 ·have tT:i.kind=1\/i.kind=2:=by have:=hi.kind;omega
  have P8:∀cell:Nat->Nat->Value,eG cell (.a 0 0 16)=some (.agg (aA i (.slice sa sn sc)).toArray)->aL W.heap.size W cell 126 [.a 0 0 16] (.sls (pdS i)):=λcell he=>rZ Pv he λw' hw'=>Dq w' i tT (zD.below hw') sa sn sc
  refine bE (M:=pdB W i (aJ w.heap.size i (.slice sa sn sc))) (n:=47) (code:=sbC) (K:=[(1,.p 0 0),(2,.sl [])]) hO [2] (us:=[.sl (pdS i++poS i)])
   (ps:=[aL W.heap.size W (Ev.aM (aJ w.heap.size i (.slice sa sn sc))) 126 [.a 0 0 16] (.sls (pdS i)),aL W.heap.size W (Ev.aM (aJ w.heap.size i (.slice sa sn sc))) 123 [.a 0 0 16] (.sls (poS i)),(pdS i).length+(poS i).length<=1000000])
   (by
    clear fin hr hb ha hdf b1 b2 b3 b4 hs hi zD hF Rs hlk hO qY P0 P6 P8 hol hdl hn hk0 hk3
    obtain⟨ref,kind,sender,cp,side,asset,qty,am,td,sd,pr,pa,ml,ho,re,li⟩:=i
    have tT:kind=1\/kind=2:=tT
    rcases tT with rfl|rfl<;>(show _=_;kernel_rfl)) ⟨P8 _ rfl,P0 _ rfl,by omega,trivial⟩ qY (Sw.start _) ?_
  exactλa w' _ hd hv hS=>fin _ a w' (by unfold psS;rw[if_neg hk3,if_neg hk0]) hd hv hS
noncomputable def chS (m:Ps.Amd):List SB:=ls m.hasAmount [wb Ps.bY,(20,Ps.bO m.amount)]++ls m.hasSettleDay [wb Ps.eF,(10,Ps.ae m.settleDay)]++ls m.hasPriority [(10,Ps.bw (Ps.bX m.priority))]++ls (m.hasPartial&&m.partial_) [wb Ps.aK,(20,Ps.bH m.minLot)]++ls (m.hasPartial&&!m.partial_) [wb Ps.fD]
def su (g:Nat)(m:Ps.Amd):List (Option (Nat×Nat)×List Value):=[(some (g,0),aG m),(none,[])]
noncomputable def chC:Code:=Ev.nC (Tryz.f68.body.getD .skip)
theorem Nt:∀args w,(callFunc 68 args).run Tryz.prog w=.ok (.enter 68 args) w:=enters_of Tryz.func68 (by kernel_rfl) rfl
theorem FZ (w:World)(m:Ps.Amd)(hE:jG w)(hm:Ps.oQ m):tu 68 #[.agg (aG m).toArray] w (chS m):=by
 unfold tu
 go_enter Tryz.func68,Tryz.ntmps68
 refine gq λa ha hdf=>?_
 refine wp_seq ?_
 have hb:Below w.heap.size w (w.alloc (.cells (aG m).toArray 35)):=(Below.refl _ _).alloc (Nat.le_refl _) _
 refine rO rfl rfl rfl rfl rfl (by decide) (by rw[ha];show 1<48;decide) (by rw[ha];show 2<48;decide) (bx_amd w m rfl (eval_at (by rw[ha];rfl))) λb b1 b2 b3 b4=>?_
 have hr:(w.alloc (.cells (aG m).toArray 35)).heap[w.heap.size]? =some (.cells (aG m).toArray 35 (0,0)):=aC w _
 generalize w.alloc (.cells (aG m).toArray 35)=W at hb hr⊢
 have hEW:=hE.below hb
 have hR:RowsIn W W.heap.size 40 [] (su w.heap.size m):=⟨⟨rfl,.inl (Array.getElem?_eq_some_iff.1 hr).1,⟨_,hr⟩,BH⟩,trivial⟩
 have P1:m.hasAmount=true->CW W 121 m.amount 20 (Ps.bO m.amount):=λh=>BC hEW (by have:=hm.am h;omega)
 have P2:CW W 122 m.settleDay 10 (Ps.ae m.settleDay):=Bz hm.day
 have P3:CW W 128 m.priority 10 (Ps.bw (Ps.bX m.priority)):=JE hEW hm.prio
 have P4:(m.hasPartial&&m.partial_)=true->CW W 125 m.minLot 20 (Ps.bH m.minLot):=λh=>oJ hEW (by have:=hm.lot (Bool.and_eq_true_iff.1 h).2;omega)
 refine bE (M:=ppM W.heap.size W [] (su w.heap.size m)) (n:=48) (code:=chC) (K:=[(1,.p 0 0),(2,.sl [])]) (nW (Nat.le_refl _) (λg hg=>by cases hg) hR) [2] (us:=[.sl (chS m)])
  (ps:=cond m.hasAmount [aL W.heap.size W (Ev.aM (su w.heap.size m)) 121 [.r 0 4] (.str 20 (Ps.bO m.amount))] []++(cond m.hasSettleDay [aL W.heap.size W (Ev.aM (su w.heap.size m)) 122 [.r 0 5] (.str 10 (Ps.ae m.settleDay))] []++(cond m.hasPriority [aL W.heap.size W (Ev.aM (su w.heap.size m)) 128 [.r 0 6] (.str 10 (Ps.bw (Ps.bX m.priority)))] []++cond (m.hasPartial&&m.partial_) [aL W.heap.size W (Ev.aM (su w.heap.size m)) 125 [.r 0 8] (.str 20 (Ps.bH m.minLot))] [])))
  (by
   clear hr hb ha hdf b1 b2 b3 b4 hR hE hEW hm P1 P2 P3 P4
   obtain⟨x1,x2,x3,x4,x5,x6,x7,x8,x9⟩:=m
   cases x1<;>cases x2<;>cases x3<;>cases x4<;>cases x8<;>(show _=_;kernel_rfl))
  (fo (jF λh=>spW tJ rfl rfl (P1 h)) (fo (jF λ_=>spW mH rfl rfl P2) (fo (jF λ_=>spW EZ rfl rfl P3) (jF λh=>spW lN rfl rfl (P4 h)))))
  (aF (aF (aZ (b2.trans (by rw[ha];rfl)) (b1.trans hdf)) b4 (sj (.slice none 0 0) W _)) b3 rfl) (Sw.start _) ?_
 intro a w' _ hd hv hS
 exact qB rfl hd hv λv hv=>⟨v,rfl,dA hv hb.size,hb.trans ((az rfl hS).mono hb.size)⟩
theorem O0:∀ts:List ByteArray,Lib.join (ts.map (·.data.toList)) [32]=(Ps.bB ts).data.toList
 |[]=>rfl
 |t::ts=>by
  rw[eT]
  show([32]:List UInt8).intercalate (t.data.toList::ts.map (·.data.toList))=(t++dG ts).data.toList
  have key:∀(us:List ByteArray) (x:List UInt8),([32]:List UInt8).intercalate (x::us.map (·.data.toList))=x++(dG us).data.toList:=by
   intro us
   induction us with
   |nil=>intro x;simp[List.intercalate,dG]
   |cons u us ih=>
    intro x
    have h:=ih u.data.toList
    rw[List.map_cons]
    have e:([32]:List UInt8).intercalate (x::u.data.toList::us.map (·.data.toList))=x++([32]++([32]:List UInt8).intercalate (u.data.toList::us.map (·.data.toList))):=by simp[List.intercalate,List.intersperse]
    rw[e,h]
    show _=x++(⟨#[32]⟩++u++dG us).data.toList
    simp[ByteArray.data_append]
  rw[key]
  simp[ByteArray.data_append]
theorem I7 {w:World}{B n':Nat}{t:TypeId}{a:Option Addr}{n c:Nat}{xs:List Value}(h:w.ownsRow B t 1 (.slice a n c) n' xs):n=n'/\n'<=c:=by
 obtain⟨_,⟨hs,h0⟩|⟨g,cap,cur,hv,hB,hh,hnc,_⟩⟩:=h
 ·cases hs
  exact⟨h0.symm,by omega⟩
 ·cases hv
  exact⟨rfl,hnc⟩
theorem OU:∀args w,(callFunc 69 args).run Tryz.prog w=.ok (.enter 69 args) w:=enters_of Tryz.func69 (by kernel_rfl) rfl
theorem CK {B:Nat}{W:World}{cell:Nat->Nat->Value}{l:List SB}(h0:0<l.length)(hl:l.length<=1000)(hz:(Ps.bB (l.map st)).size<=2000):aL B W cell 69 [.sl l,.s (1,⟨#[32]⟩)] (.str 2000 (Ps.bB (l.map st))):=⟨OU,hz,λvals w _ hd=>by
 obtain⟨v,v2,rfl,⟨B',hv⟩,hv2⟩:=Ov hd
 have hv2:v2=.string (st (1,⟨#[32]⟩)):=hv2
 rw[show st (1,(⟨#[32]⟩:ByteArray))=⟨#[32]⟩from bW (Nat.le_refl 1)]at hv2
 subst hv2
 obtain⟨bk,c,rfl,hbk,hcell⟩:=fT hv h0
 have hcap:=I7 hv
 have hcells:∀(j:Nat) x,(l.map st)[j]? =some x->w.cell? ⟨bk,0+j,none⟩=some (.string x):=λj x hj=>by
  rw[Nat.zero_add]
  refine hcell j _ ?_
  rw[List.getElem?_map,hj]
  rfl
 have e:=O0 (l.map st)
 have hj:=Tryz.strings_Join bk 0 c (l.map st) ⟨#[32]⟩ w hcells hbk (by rw[List.length_map];omega) (by rw[List.length_map];exact hcap.2) (by
  rw[show(⟨#[32]⟩:ByteArray).data.toList=[32]from rfl,e]
  have:(Ps.bB (l.map st)).data.toList.length=(Ps.bB (l.map st)).size:=Array.length_toList
  omega)
 rw[show(⟨#[32]⟩:ByteArray).data.toList=[32]from rfl,e,List.length_map]at hj
 refine hj.mono λe w' ⟨h1,h2⟩=>⟨_,h1,?_,h2⟩
 show Value.string _=Value.string _
 congr 1⟩
theorem jf (w:Lx.Bs):st (wb w)=Ps.bw w:=bW (by show w.toArray.size<=w.length;simp)
theorem bu {n:Nat}{x:ByteArray}(h:x.size<=n):st (n,x)=x:=bW h
theorem Mk (l:List Ps.Link)(h:∀x∈l,(x.type=0\/x.type=1)/\x.ref.size<=40):(l.flatMap lkS).map st=l.flatMap Ps.Sa:=by
 induction l with
 |nil=>rfl
 |cons x l ih=>
  rw[List.flatMap_cons,List.flatMap_cons,List.map_append,ih (λy hy=>h y (List.mem_cons_of_mem _ hy))]
  congr 1
  obtain⟨hx,hr⟩:=h x List.mem_cons_self
  show[st (5,_),st (40,x.ref)]=[_,x.ref]
  rw[bu hr,bu (by rcases hx with h|h<;>(rw[h];decide))]
theorem Ei {i:Ps.Ins}(hi:Ps.jW bM.valid i):(poS i).map st=(Ps.jh i).flatMap Ps.opT:=by
 have hl:=Mk i.links λx hx=>⟨(hi.link x hx).1,by have:=(di (by omega) (hi.link x hx).2).2;omega⟩
 have hp:st (10,Ps.bw (Ps.bX i.priority))=Ps.bw (Ps.bX i.priority):=bu (by
  have h3:i.priority=0\/i.priority=1\/i.priority=2:=by have:=hi.prio;omega
  rcases h3 with h|h|h<;>(rw[h];decide))
 have hm:i.partial_=true->st (20,Ps.bH i.minLot)=Ps.bH i.minLot:=λh=>bu (by
  have h1:=hi.lot h
  have h2:=hi.qty (by have:=hi.part h;omega)
  have h3:=h2.2
  unfold Ps.bJ at h3
  obtain⟨n,e⟩:∃n:Nat,i.minLot=n:=⟨i.minLot.toNat,by omega⟩
  rw[e]
  exact kF n (by omega))
 have hl2:(i.links.map Ps.Op.lnk).flatMap Ps.opT=i.links.flatMap Ps.Sa:=by
  rw[List.flatMap_map]
  rfl
 unfold poS sJ Ps.jh Ps.oPr Ps.oPa Ps.oRe Ps.oHo
 simp only[List.map_append,List.flatMap_append,hl,hl2,List.append_assoc]
 have e1:(ls (!(decide (i.priority=0))) [(10,Ps.bw (Ps.bX i.priority))]).map st=(if i.priority=0 then[]else[Ps.Op.prio i.priority]).flatMap Ps.opT:=by
  by_cases h:i.priority=0
  ·rw[if_pos h];simp[ls,h]
  ·rw[if_neg h]
   simp only[ls,h,decide_false,Bool.not_false,cond_true,List.map_cons,List.map_nil,hp]
   rfl
 have e2:(ls i.partial_ [wb Ps.aK,(20,Ps.bH i.minLot)]).map st=(if i.partial_=true then[Ps.Op.part i.minLot]else[]).flatMap Ps.opT:=by
  cases h:i.partial_ with
  |false=>rfl
  |true=>
   show[st (wb Ps.aK),st (20,Ps.bH i.minLot)]=_
   rw[jf,hm h]
   rfl
 have e3:(ls i.reserve [wb Ps.aY]).map st=(if i.reserve=true then[Ps.Op.res]else[]).flatMap Ps.opT:=by
  cases i.reserve with
  |false=>rfl
  |true=>show[st (wb Ps.aY)]=_;rw[jf];rfl
 have e4:(ls i.hold [wb Ps.bU]).map st=(if i.hold=true then[Ps.Op.hold]else[]).flatMap Ps.opT:=by
  cases i.hold with
  |false=>rfl
  |true=>show[st (wb Ps.bU)]=_;rw[jf];rfl
 rw[e1,e2,e3,e4]
theorem F3 {q:Int}(h:0<=q/\q<=Ps.bJ):st (20,Ps.bH q)=Ps.bH q:=bu (by
 have h3:=h.2
 unfold Ps.bJ at h3
 obtain⟨n,rfl⟩:∃n:Nat,q=n:=⟨q.toNat,by omega⟩
 exact kF n (by omega))
theorem Bi {q:Int}(h:0<=q/\q<=Ps.bJ):st (20,Ps.bO q)=Ps.bO q:=bu (by have:=Ps.iI h.2;omega)
theorem Gm {q:Int}(h:0<=q/\q<=Ps.bP):st (10,Ps.ae q)=Ps.ae q:=bu (ny q h.1 h.2)
theorem EC {i:Ps.Ins}(hi:Ps.jW bM.valid i)(hs:o8 (fZ i)):(psS i).map st=Ps.u6 Ps.ae i (Ps.jh i):=by
 have hr:st (40,i.ref)=i.ref:=bu hs.iref
 have h1:st (40,i.sender)=i.sender:=bu hs.isender
 have h2:st (40,i.counterparty)=i.counterparty:=bu hs.icp
 have h3:st (40,i.asset)=i.asset:=bu hs.iasset
 have hd:=Gm hi.settle
 unfold psS Ps.u6
 by_cases hk:i.kind=3\/i.kind=4
 ·rw[if_pos hk,if_pos hk]
  unfold pgS
  simp only[List.map_cons,List.map_nil,jf,hr,h1,h3,hd,F3 (q:=i.quantity) (by have:=hi.qty (by omega);omega)]
  rw[bu (by split<;>decide)]
 ·rw[if_neg hk,if_neg hk]
  by_cases h0:i.kind=0
  ·rw[if_pos h0,if_pos h0,List.map_append,Ei hi]
   unfold pyS
   simp only[List.map_cons,List.map_nil,jf,hr,h1,h2,hd,Bi (q:=i.amount) (by have:=hi.am (by omega);omega)]
  ·rw[if_neg h0,if_neg h0,List.map_append,Ei hi]
   have hf:st (40,Ps.gP i)=Ps.gP i:=bu (by unfold Ps.gP;split<;>first|exact hs.icp|exact hs.isender)
   have ht:st (40,Ps.toT i)=Ps.toT i:=bu (by unfold Ps.toT;split<;>first|exact hs.icp|exact hs.isender)
   have hq:=F3 (q:=i.quantity) (by have:=hi.qty (by omega);omega)
   have htd:=Gm (q:=i.tradeDay) (by have:=hi.trade (by have:=hi.kind;omega);have:=hi.settle;omega)
   have hv:(vrS i).map st=[Ps.bw (if i.side=1 then Ps.eZ else Ps.fC)]:=by
    unfold vrS
    rcases hi.side with h|h<;>(rw[h];simp[ls,jf])
   unfold pdS
   rw[List.map_append,List.map_append,List.map_append,hv]
   by_cases hk1:i.kind=1
   ·rw[if_pos hk1]
    have hc:=Bi (q:=i.amount) (by have:=hi.am (by omega);omega)
    have e:(ls (decide (i.kind=1)) [wb Ps.d9,(20,Ps.bO i.amount)]++ls (decide (i.kind=2)) [wb Ps.jy]).map st=[Ps.bw Ps.d9,Ps.bO i.amount]:=by
     rw[hk1]
     simp[ls,jf,hc]
    rw[e]
    simp only[List.map_cons,List.map_nil,jf,hr,h3,hd,hf,ht,hq,htd]
    rfl
   ·rw[if_neg hk1]
    have hk2:i.kind=2:=by have:=hi.kind;omega
    have e:(ls (decide (i.kind=1)) [wb Ps.d9,(20,Ps.bO i.amount)]++ls (decide (i.kind=2)) [wb Ps.jy]).map st=[Ps.bw Ps.jy]:=by
     rw[hk2]
     simp[ls,jf]
    rw[e]
    simp only[List.map_cons,List.map_nil,jf,hr,h3,hd,hf,ht,hq,htd]
    rfl
theorem Ck {m:Ps.Amd}(hm:Ps.oQ m):(chS m).map st=Ps.yZ Ps.ae m:=by
 have c1:m.hasAmount=true->st (20,Ps.bO m.amount)=Ps.bO m.amount:=λh=>Bi (by have:=hm.am h;omega)
 have c2:=Gm hm.day
 have c3:st (10,Ps.bw (Ps.bX m.priority))=Ps.bw (Ps.bX m.priority):=bu (by
  have h3:m.priority=0\/m.priority=1\/m.priority=2:=by have:=hm.prio;omega
  rcases h3 with h|h|h<;>(rw[h];decide))
 have c4:m.partial_=true->st (20,Ps.bH m.minLot)=Ps.bH m.minLot:=λh=>F3 (by have:=hm.lot h;omega)
 unfold chS Ps.yZ Ps.LB Ps.rR Ps.uk Ps.pg
 generalize m.hasAmount=x1 at c1⊢
 generalize m.partial_=x8 at c4⊢
 cases x1<;>cases m.hasSettleDay<;>cases m.hasPriority<;>cases m.hasPartial<;>cases x8<;>simp[ls,jf,c1,c2,c3,c4]
def qK (W:World)(Q:Ps.Req)(lv:Value)(x:ByteArray)(e:Int):Prop:=Calls Tryz.prog 24 #[.agg (aB Q lv)] W λr W'=>r=.returned (.tuple #[.string x,.int .i64 e])/\Below W.heap.size W W'
theorem lp_req (w:World)(Q:Ps.Req)(a:Option Addr)(n c:Nat):Sem.run Tryz.prog (storeCells ⟨w.heap.size,0,none⟩ (aB Q (.slice a n c)).toList) (w.alloc (.cells A7 37))=.ok () (w.alloc (.cells (aB Q (.slice a n c)) 37)):=
 run_storeCells_new w 37 A7 _ (by kernel_rfl) rfl (cZ Q a n c)
theorem bx_req (w:World)(Q:Ps.Req)(a:Option Addr)(n c:Nat){ρ:Operand->Value}{o:Oper}{x:Operand}(ho:o.op=.box 37 x)(hx:ρ x=.agg (aB Q (.slice a n c))):(execOp ρ o).run Tryz.prog w=.ok (.value (.pointer (some ⟨w.heap.size,0,none⟩))) (w.alloc (.cells (aB Q (.slice a n c)) 37)):=by
 have h:=lp_req w Q a n c
 unfold A7 at h
 unfold execOp
 simp only[ho,hx]
 go_simp
 try rfl
def opW (k:Int):Lx.Bs:=if k=1 then Ps.nK else if k=2 then Ps.fQ else if k=3 then Ps.bU else Ps.gG
def bI (g:Nat)(Q:Ps.Req)(lv:Value):List (Option (Nat×Nat)×List Value):=[(some (g,0),oN Q lv),(none,[])]
noncomputable def Ub (Q:Ps.Req)(e:Int)(f:FuncId)(us:List PV):Option Rv:=match us with
 |[.a 0 0 28]=>if f=30 then some (.val (.int .i64 e))else none
 |[.a 0 3 16]=>if f=66 then some (.sls (psS Q.ins))else none
 |[.a 0 19 9]=>if f=68 then some (.sls (chS Q.amd))else none
 |[.r 0 0]=>if f=67 then some (.str 8 (Ps.bw (opW Q.op)))else none
 |[.sl l,.s _]=>if f=69 then some (.str 2000 (Ps.bB (l.map st)))else none
 |_=>none
noncomputable def ptM (W:World)(Q:Ps.Req)(e:Int)(rows:List (Option (Nat×Nat)×List Value)):Mem:={seW W.heap.size W [] 40 rows (Ub Q e)with big:=true}
noncomputable def ptC:Code:=Ev.nC (Tryz.f24.body.getD .skip)
theorem Fh {W:World}{Q:Ps.Req}{e:Int}{rows:List (Option (Nat×Nat)×List Value)}(hr:RowsIn W W.heap.size 40 [] rows):Ok Tryz.prog (ptM W Q e rows):=
 (vw (Nat.le_refl _) (λg hg=>by cases hg) (λk g o l h=>by
  obtain⟨rfl,h2,⟨t,h3⟩,_⟩:=cB hr k g o l h
  exact⟨h2,bv h3⟩) λk p l h=>(cB hr k p.1 p.2 l h).2.2.2).big
theorem qQ:∀args w,(callFunc 30 args).run Tryz.prog w=.ok (.enter 30 args) w:=enters_of Tryz.func30 (by kernel_rfl) rfl
theorem nJ {M:Mem}{fn:Func}{r1 r2:Nat}{x:SB}{y:Value}{us:List PV}{ts:List Nat}{a:Act}{w:World}{R:Ending->World->Prop}(hres:fn.results=#[.tmp r1,.tmp r2])(hd:a.defers=[])(hv:kS M (r1::r2::ts) (.s x::.v y::us) a w)(hR:R (.returned (.tuple #[.string (st x),y])) w):bodyPost Tryz.prog fn R .ret a w:=by
 obtain⟨⟨v,h1,h2⟩,hv⟩:=hv.cons
 obtain⟨⟨v2,h3,h4⟩,_⟩:=hv.cons
 have h2:v=.string (st x):=h2
 have h4:v2=y:=h4
 subst h2 h4
 refine bodyPost_ret (results_tmp2 hres _ _ _) hd ?_
 rw[show a.tmps.getD r1 undef=.string (st x)from eval_at h1,show a.tmps.getD r2 undef=v2 from eval_at h3]
 exact hR
theorem qP (w:World)(Q:Ps.Req)(a:Option Addr)(n c:Nat){R:Ending->World->Prop}
 (h:∀(W:World) (b:Act),Below w.heap.size w W->W.heap[w.heap.size]? =some (.cells (oN Q (.slice a n c)).toArray 37 (0,0))->b.defers=[]->b.tmps.size=35->b.tmps[1]? =some (.pointer (some ⟨w.heap.size,0,none⟩))->b.tmps[2]? =some (.string ⟨#[]⟩)->b.tmps[3]? =some (.int .i64 0)->ptC.wp Tryz.prog (bodyPost Tryz.prog Tryz.f24 R) b W):
 Calls Tryz.prog 24 #[.agg (aB Q (.slice a n c))] w R:=by
 go_enter Tryz.func24,Tryz.ntmps24
 refine gq λb ha hdf=>?_
 refine wp_seq ?_
 have hb:Below w.heap.size w (w.alloc (.cells (aB Q (.slice a n c)) 37)):=(Below.refl _ _).alloc (Nat.le_refl _) _
 refine QT rfl rfl rfl rfl rfl rfl rfl rfl (by decide) (by decide) (by decide) (by rw[ha];show 1<35;decide) (by rw[ha];show 2<35;decide) (by rw[ha];show 3<35;decide) (bx_req w Q a n c rfl (eval_at (by rw[ha];rfl))) λb b1 b2 b3 b4 b5=>?_
 have hr:(w.alloc (.cells (aB Q (.slice a n c)) 37)).heap[w.heap.size]? =some (.cells (aB Q (.slice a n c)) 37 (0,0)):=aC w _
 exact h _ b hb hr (b1.trans hdf) (b2.trans (by rw[ha];rfl)) b3 b4 b5
theorem Cq {w:World}{B:Nat}{a:Option Addr}{n c:Nat}{ks:List Ps.Link}(h:dR w B (.slice a n c) ks):n=ks.length/\dI w a n ks:=⟨(Qi h).1,dI.of λh0=>PM h h0⟩
structure PtF (w:World)(Q:Ps.Req)(a:Option Addr)(n c:Nat):Prop where
 env:jG w
 ok:psR Q=0
 chk:∀W,Below w.heap.size w W->Calls Tryz.prog 30 #[.agg (aB Q (.slice a n c))] W λr W'=>r=.returned (.int .i64 0)/\Below W.heap.size W W'
 len:n=Q.ins.links.length
 put:dI w a n Q.ins.links
theorem Ib (k:Int)(hk:k=1\/k=2\/k=3\/k=4){W:World}(hE:jG W):CW W 67 k 8 (Ps.bw (opW k)):=by
 refine⟨λw hw=>?_,by rcases hk with rfl|rfl|rfl|rfl<;>decide⟩
 rcases hk with rfl|rfl|rfl|rfl
 ·exact(j3 w (hE.op w hw) 1 _ rfl).mono λe w2 ⟨h1,h2⟩=>⟨h1,h2▸Below.refl _ _⟩
 ·exact(j3 w (hE.op w hw) 2 _ rfl).mono λe w2 ⟨h1,h2⟩=>⟨h1,h2▸Below.refl _ _⟩
 ·exact(j3 w (hE.op w hw) 3 _ rfl).mono λe w2 ⟨h1,h2⟩=>⟨h1,h2▸Below.refl _ _⟩
 ·exact(j3 w (hE.op w hw) 4 _ rfl).mono λe w2 ⟨h1,h2⟩=>⟨h1,h2▸Below.refl _ _⟩
theorem TQ (i:Ps.Ins):0<(psS i).length:=by
 unfold psS
 split
 ·simp[pgS]
 ·split
  ·simp[pyS]
  ·rw[List.length_append]
   have:0<(pdS i).length:=by unfold pdS;simp;omega
   omega
theorem Tq {i:Ps.Ins}(h:i.links.length<=8):(psS i).length<=1000:=by
 have h1:=JX h
 have h2:=vF i
 unfold psS
 split
 ·simp[pgS]
 ·split
  ·rw[List.length_append]
   have:(pyS i).length=10:=rfl
   omega
  ·rw[List.length_append]
   omega
theorem pt_sub (w:World)(i:Ps.Ins)(hi:Ps.jW bM.valid i)(a:Option Addr)(n c:Nat)(hF:PtF w (fZ i) a n c):qK w (fZ i) (.slice a n c) (Ps.bB (Ps.iY Ps.ae (fZ i) (Ps.jh i))) 0:=by
 have hs:=je hF.ok
 have hz:=(gV hF.ok).2
 have hw:(psS i).map st=Ps.iY Ps.ae (fZ i) (Ps.jh i):=EC hi hs
 rw[<-hw]
 have hz:(Ps.bB ((psS i).map st)).size<=1024:=by rw[hw];exact hz
 unfold qK
 refine qP w (fZ i) a n c λW b hb hr hd hn h1 h2 h3=>?_
 have hR:RowsIn W W.heap.size 40 [] (bI w.heap.size (fZ i) (.slice a n c)):=⟨⟨rfl,.inl (Array.getElem?_eq_some_iff.1 hr).1,⟨_,hr⟩,nY (λx e=>by cases e) hs⟩,trivial⟩
 refine bE (M:=ptM W (fZ i) 0 (bI w.heap.size (fZ i) (.slice a n c))) (n:=35) (code:=ptC) (K:=[(1,.p 0 0),(2,.s (0,⟨#[]⟩)),(3,.v (.int .i64 0))]) (Fh hR) [2,3] (us:=[.s (2000,Ps.bB ((psS i).map st)),.v (.int .i64 0)])
  (ps:=[aL W.heap.size W (Ev.aM (bI w.heap.size (fZ i) (.slice a n c))) 30 [.a 0 0 28] (.val (.int .i64 0)),aL W.heap.size W (Ev.aM (bI w.heap.size (fZ i) (.slice a n c))) 66 [.a 0 3 16] (.sls (psS i)),aL W.heap.size W (Ev.aM (bI w.heap.size (fZ i) (.slice a n c))) 69 [.sl (psS i),.s (1,⟨#[32]⟩)] (.str 2000 (Ps.bB ((psS i).map st)))]) (by kernel_rfl)
  ⟨kE (x:=.agg (aB (fZ i) (.slice a n c))) qQ rfl λw' hw'=>hF.chk w' (hb.trans (hw'.mono hb.size)),rZ (x:=.agg (aA i (.slice a n c)).toArray) ND rfl λw' hw'=>LJ w' i ⟨hF.env.below (hb.trans (hw'.mono hb.size)),hi,hs⟩ a n c hF.len (hF.put.below (hb.trans (hw'.mono hb.size))),CK (TQ i) (Tq hi.links) (by omega),trivial⟩ (aF (aF (aF (aZ hn hd) h3 rfl) h2 rfl) h1 rfl) (Sw.start _) ?_
 intro b w' _ hd hv hS
 refine nJ rfl hd hv ⟨?_,hb.trans ((az rfl hS).mono hb.size)⟩
 rw[bu (by omega)]
theorem JY (m:Ps.Amd):(chS m).length<=10:=by
 unfold chS
 cases m.hasAmount<;>cases m.hasSettleDay<;>cases m.hasPriority<;>cases (m.hasPartial&&m.partial_)<;>cases (m.hasPartial&&!m.partial_)<;>simp[ls]
theorem pt_amd (w:World)(s r:ByteArray)(m:Ps.Amd)(hm:Ps.oQ m)(a:Option Addr)(n c:Nat)(os:List Ps.Op)(hF:PtF w {op:=1,sender:=s,ref:=r,amd:=m} a n c):qK w {op:=1,sender:=s,ref:=r,amd:=m} (.slice a n c) (Ps.bB (Ps.iY Ps.ae {op:=1,sender:=s,ref:=r,amd:=m} os)) 0:=by
 have hs:=je hF.ok
 have hz:=(gV hF.ok).2
 have s1:r.size<=40:=hs.ref
 have s2:s.size<=40:=hs.sender
 have hcl:=JY m
 have hw:([(8,Ps.bw (opW 1)),(40,r),wb Ps.sBy,(40,s)]++chS m).map st=Ps.iY Ps.ae {op:=1,sender:=s,ref:=r,amd:=m} os:=by
  rw[List.map_append,Ck hm]
  show[st (8,Ps.bw (opW 1)),st (40,r),st (wb Ps.sBy),st (40,s)]++_=[Ps.bw Ps.nK,r,Ps.bw Ps.sBy,s]++_
  rw[bu s1,bu s2,jf,bu (by decide)]
  rfl
 have hz:(Ps.bB (([(8,Ps.bw (opW 1)),(40,r),wb Ps.sBy,(40,s)]++chS m).map st)).size<=1024:=by rw[hw];exact hz
 rw[<-hw]
 unfold qK
 refine qP w _ a n c λW b hb hr hd hn h1 h2 h3=>?_
 have hR:RowsIn W W.heap.size 40 [] (bI w.heap.size {op:=1,sender:=s,ref:=r,amd:=m} (.slice a n c)):=⟨⟨rfl,.inl (Array.getElem?_eq_some_iff.1 hr).1,⟨_,hr⟩,nY (λx e=>by cases e) hs⟩,trivial⟩
 refine bE (M:=ptM W {op:=1,sender:=s,ref:=r,amd:=m} 0 (bI w.heap.size {op:=1,sender:=s,ref:=r,amd:=m} (.slice a n c))) (n:=35) (code:=ptC) (K:=[(1,.p 0 0),(2,.s (0,⟨#[]⟩)),(3,.v (.int .i64 0))]) (Fh hR) [2,3] (us:=[.s (2000,Ps.bB (([(8,Ps.bw (opW 1)),(40,r),wb Ps.sBy,(40,s)]++chS m).map st)),.v (.int .i64 0)])
  (ps:=[aL W.heap.size W (Ev.aM (bI w.heap.size {op:=1,sender:=s,ref:=r,amd:=m} (.slice a n c))) 30 [.a 0 0 28] (.val (.int .i64 0)),aL W.heap.size W (Ev.aM (bI w.heap.size {op:=1,sender:=s,ref:=r,amd:=m} (.slice a n c))) 67 [.r 0 0] (.str 8 (Ps.bw (opW 1))),aL W.heap.size W (Ev.aM (bI w.heap.size {op:=1,sender:=s,ref:=r,amd:=m} (.slice a n c))) 68 [.a 0 19 9] (.sls (chS m)),([(8,Ps.bw (opW 1)),(40,r),wb Ps.sBy,(40,s)]:List SB).length+(chS m).length<=1000000,aL W.heap.size W (Ev.aM (bI w.heap.size {op:=1,sender:=s,ref:=r,amd:=m} (.slice a n c))) 69 [.sl ([(8,Ps.bw (opW 1)),(40,r),wb Ps.sBy,(40,s)]++chS m),.s (1,⟨#[32]⟩)] (.str 2000 (Ps.bB (([(8,Ps.bw (opW 1)),(40,r),wb Ps.sBy,(40,s)]++chS m).map st)))]) (by kernel_rfl)
  ⟨kE (x:=.agg (aB {op:=1,sender:=s,ref:=r,amd:=m} (.slice a n c))) qQ rfl λw' hw'=>hF.chk w' (hb.trans (hw'.mono hb.size)),spW Ia rfl rfl (Ib 1 (by omega) (hF.env.below hb)),rZ (x:=.agg (aG m).toArray) Nt rfl λw' hw'=>FZ w' m (hF.env.below (hb.trans (hw'.mono hb.size))) hm,by show 4+_<=_;omega,CK (by rw[List.length_append];show 0<4+_;omega) (by rw[List.length_append];show 4+_<=_;omega) (by omega),trivial⟩ (aF (aF (aF (aZ hn hd) h3 rfl) h2 rfl) h1 rfl) (Sw.start _) ?_
 intro b w' _ hd hv hS
 refine nJ rfl hd hv ⟨?_,hb.trans ((az rfl hS).mono hb.size)⟩
 rw[bu (by omega)]
theorem pt_op (w:World)(k:Int)(hk:k=2\/k=3\/k=4)(s r:ByteArray)(a:Option Addr)(n c:Nat)(os:List Ps.Op)(hF:PtF w {op:=k,sender:=s,ref:=r} a n c):qK w {op:=k,sender:=s,ref:=r} (.slice a n c) (Ps.bB (Ps.iY Ps.ae {op:=k,sender:=s,ref:=r} os)) 0:=by
 have hs:=je hF.ok
 have hz:=(gV hF.ok).2
 have s1:r.size<=40:=hs.ref
 have s2:s.size<=40:=hs.sender
 have hw:([(8,Ps.bw (opW k)),(40,r),wb Ps.sBy,(40,s)]:List SB).map st=Ps.iY Ps.ae {op:=k,sender:=s,ref:=r} os:=by
  show[st (8,Ps.bw (opW k)),st (40,r),st (wb Ps.sBy),st (40,s)]=_
  rw[bu s1,bu s2,jf,bu (by rcases hk with rfl|rfl|rfl<;>decide)]
  rcases hk with rfl|rfl|rfl<;>rfl
 have hz:(Ps.bB (([(8,Ps.bw (opW k)),(40,r),wb Ps.sBy,(40,s)]:List SB).map st)).size<=1024:=by rw[hw];rcases hk with rfl|rfl|rfl<;>exact hz
 rw[<-hw]
 unfold qK
 refine qP w _ a n c λW b hb hr hd hn h1 h2 h3=>?_
 have hR:RowsIn W W.heap.size 40 [] (bI w.heap.size {op:=k,sender:=s,ref:=r} (.slice a n c)):=⟨⟨rfl,.inl (Array.getElem?_eq_some_iff.1 hr).1,⟨_,hr⟩,nY (λx e=>by cases e) hs⟩,trivial⟩
 refine bE (M:=ptM W {op:=k,sender:=s,ref:=r} 0 (bI w.heap.size {op:=k,sender:=s,ref:=r} (.slice a n c))) (n:=35) (code:=ptC) (K:=[(1,.p 0 0),(2,.s (0,⟨#[]⟩)),(3,.v (.int .i64 0))]) (Fh hR) [2,3] (us:=[.s (2000,Ps.bB (([(8,Ps.bw (opW k)),(40,r),wb Ps.sBy,(40,s)]:List SB).map st)),.v (.int .i64 0)])
  (ps:=[aL W.heap.size W (Ev.aM (bI w.heap.size {op:=k,sender:=s,ref:=r} (.slice a n c))) 30 [.a 0 0 28] (.val (.int .i64 0)),aL W.heap.size W (Ev.aM (bI w.heap.size {op:=k,sender:=s,ref:=r} (.slice a n c))) 67 [.r 0 0] (.str 8 (Ps.bw (opW k))),aL W.heap.size W (Ev.aM (bI w.heap.size {op:=k,sender:=s,ref:=r} (.slice a n c))) 69 [.sl [(8,Ps.bw (opW k)),(40,r),wb Ps.sBy,(40,s)],.s (1,⟨#[32]⟩)] (.str 2000 (Ps.bB (([(8,Ps.bw (opW k)),(40,r),wb Ps.sBy,(40,s)]:List SB).map st)))]) (by rcases hk with rfl|rfl|rfl<;>(show _=_;kernel_rfl))
  ⟨kE (x:=.agg (aB {op:=k,sender:=s,ref:=r} (.slice a n c))) qQ rfl λw' hw'=>hF.chk w' (hb.trans (hw'.mono hb.size)),spW Ia rfl rfl (Ib k (by omega) (hF.env.below hb)),CK (by show 0<4;decide) (by show 4<=1000;decide) (by omega),trivial⟩ (aF (aF (aF (aZ hn hd) h3 rfl) h2 rfl) h1 rfl) (Sw.start _) ?_
 intro b w' _ hd hv hS
 refine nJ rfl hd hv ⟨?_,hb.trans ((az rfl hS).mono hb.size)⟩
 rw[bu (by omega)]
theorem Rn (w:World)(Q:Ps.Req)(a:Option Addr)(n c:Nat)(hF:PtF w Q a n c):qK w Q (.slice a n c) (Ps.bB (Ps.iY Ps.ae Q (Ps.jh Q.ins))) 0:=by
 obtain⟨_,_,h3⟩:=Ps.lQ _ _ hF.ok
 rcases h3 with⟨_,hi,he⟩|⟨_,hm,he⟩|⟨hk,he⟩
 ·generalize Q.ins=i at he hi
  subst he
  exact pt_sub w i hi a n c hF
 ·rw[he]at hF⊢
  exact pt_amd w _ _ _ hm a n c _ hF
 ·rw[he]at hF⊢
  exact pt_op w _ hk _ _ a n c _ hF
def r20W (f:FuncId)(q:Int):Option Rv:=if f=134 then some (.str 20 (Ps.bH q))else if f=77 then some (.str 20 (Ps.bH q))else if f=74 then some (.str 20 (Ps.bO q))else if f=76 then some (.str 10 (Ps.bw (Ps.bX q)))else if f=200 then some (.val (.bool true))else if f=201 then some (.val (.int .i64 q))else none
noncomputable def BD (rows:List (Option (Nat×Nat)×List Value))(f:FuncId)(us:List PV):Option Rv:=match us.map (nvR rows)with
 |[.v (.int .i64 q)]=>if f=75 then some (.str 10 (Ps.ae q))else r20W f q
 |_=>none
noncomputable def Pw (W:World)(l:List Value):Mem:=seX W.heap.size W [] 0 [(none,l)] (BD [(none,l)])
theorem Bd (W:World)(l:List Value):Ok Tryz.prog (Pw W l):=mP (Nat.le_refl _) (λg hg=>by cases hg) (λk g o l' h=>by
 rcases k with _|k
 ·cases h
 ·cases h) (λk p l' h=>by
 rcases k with _|k
 ·cases h
 ·cases h)
theorem DR:∀args w,(callFunc 134 args).run Tryz.prog w=.ok (.enter 134 args) w:=enters_of Tryz.func134 (by kernel_rfl) rfl
theorem NF:∀args w,(callFunc 200 args).run Tryz.prog w=.ok (.enter 200 args) w:=enters_of Tryz.func200 (by kernel_rfl) rfl
theorem Mo:∀args w,(callFunc 201 args).run Tryz.prog w=.ok (.enter 201 args) w:=enters_of Tryz.func201 (by kernel_rfl) rfl
theorem OI:∀args w,(callFunc 77 args).run Tryz.prog w=.ok (.enter 77 args) w:=enters_of Tryz.func77 (by kernel_rfl) rfl
theorem J6:∀args w,(callFunc 74 args).run Tryz.prog w=.ok (.enter 74 args) w:=enters_of Tryz.func74 (by kernel_rfl) rfl
theorem Oc:∀args w,(callFunc 76 args).run Tryz.prog w=.ok (.enter 76 args) w:=enters_of Tryz.func76 (by kernel_rfl) rfl
theorem Pm:∀args w,(callFunc 75 args).run Tryz.prog w=.ok (.enter 75 args) w:=enters_of Tryz.func75 (by kernel_rfl) rfl
theorem Jt:∀args w,(callFunc 73 args).run Tryz.prog w=.ok (.enter 73 args) w:=enters_of Tryz.func73 (by kernel_rfl) rfl
theorem zz:∀(n:Nat),n<1000000000000000000->∀w,gZ 134 #[.int .i64 (n:Int)] w (Ps.bH (n:Int)):=λn=>by
 induction n using Nat.strongRecOn with
 |ind n ih=>
  intro hn w
  unfold gZ
  go_enter Tryz.func134,Tryz.ntmps134
  refine gq λa ha hdf=>?_
  have hF:∀M:Mem,M.cell=(Pw w [.int .i64 (n:Int)]).cell->FrP M 20 [(0,.r 0 0)] a w:=λM hM=>aF (aZ (by rw[ha];rfl) hdf) (v:=.int .i64 (n:Int)) (by rw[ha];rfl) (by show _=M.cell 0 0;rw[hM];rfl)
  by_cases h10:n<10
  ·refine bE (M:={Pw w [.int .i64 (n:Int)]with hint:=λt=>if t=4 then some true else none}) (Ok.hint (Bd w _)) [2] (us:=[.s (1,⟨#[UInt8.ofNat (IntKind.i64.wrap (48+(n:Int))%256).toNat]⟩)]) (ps:=[decide ((n:Int)<10)=true]) (by kernel_rfl) ⟨by simp;omega,trivial⟩ (hF _ rfl) (Sw.hint (Sw.start _)) ?_
   intro a w' _ hd hv hS
   refine jo rfl hd hv ⟨?_,az rfl hS⟩
   rw[show st (1,(⟨#[UInt8.ofNat (IntKind.i64.wrap (48+(n:Int))%256).toNat]⟩:ByteArray))=_ from bW (Nat.le_refl 1),OD (by omega)]
   unfold Ps.bH
   rw[Int.toNat_natCast,Ps.dX h10]
   rfl
  ·have e1:IntKind.i64.wrap ((n:Int).tdiv 10)=((n/10:Nat):Int):=by
    rw[Int.tdiv_eq_ediv_of_nonneg (by omega)]
    exact(IntWalk.i64_in _ (by omega)).trans (by omega)
   refine bE (M:={Pw w [.int .i64 (n:Int)]with hint:=λt=>if t=4 then some false else none}) (Ok.hint (Bd w _)) [2] (us:=[.s (Se.cat (20,Ps.bH (IntKind.i64.wrap ((n:Int).tdiv 10))) (1,⟨#[UInt8.ofNat (IntKind.i64.wrap (48+(n:Int).tmod 10)%256).toNat]⟩))]) (ps:=[decide ((n:Int)<10)=false,aL w.heap.size w (Ev.aM [(none,[.int .i64 (n:Int)])]) 134 [.v (.int .i64 (IntKind.i64.wrap ((n:Int).tdiv 10)))] (.str 20 (Ps.bH (IntKind.i64.wrap ((n:Int).tdiv 10))))]) (by kernel_rfl) ⟨by simp;omega,by rw[e1];exact gp DR rfl (λw' _=>ih (n/10) (by omega) (by omega) w') (kF _ (by omega)),trivial⟩ (hF _ rfl) (Sw.hint (Sw.start _)) ?_
   intro a w' _ hd hv hS
   refine jo rfl hd hv ⟨?_,az rfl hS⟩
   rw[eO,e1,show(n:Int).tmod 10=((n%10:Nat):Int)from by rw[Int.tmod_eq_emod_of_nonneg (by omega)];omega,OD (by omega),SA n h10]
   rw[show st (20,Ps.bH ((n/10:Nat):Int))=_ from bW (kF _ (by omega)),show st (1,(⟨#[UInt8.ofNat (48+n%10)]⟩:ByteArray))=_ from bW (Nat.le_refl 1)]
theorem Aw {W:World}{cell:Nat->Nat->Value}{u:PV}{q:Int}{n:Nat}(hu:eG cell u=some (.int .i64 q))(h:q=(n:Int))(hn:n<1000000000000000000):aL W.heap.size W cell 134 [u] (.str 20 (Ps.bH q)):=by
 subst h
 exact gp DR hu (λw' _=>zz n hn w') (kF n hn)
theorem Ny (w:World)(x:Int)(h0: -1000000000000000<=x)(h1:x<=1000000000000000):Calls Tryz.prog 200 #[.int .i64 x] w λe w'=>e=.returned (.bool true)/\Below w.heap.size w w':=by
 go_enter Tryz.func200,Tryz.ntmps200
 go_wp2_with fail
 go_ret
 exact⟨rfl,Below.refl _ _⟩
theorem rq_abs (w:World)(x:Int)(h0:¬x<0):Calls Tryz.prog 201 #[.int .i64 x] w λe w'=>e=.returned (.int .i64 x)/\Below w.heap.size w w':=by
 go_enter Tryz.func201,Tryz.ntmps201
 go_wp2_with fail
 go_ret
 exact⟨rfl,Below.refl _ _⟩
theorem K3 (n:Nat)(hn:n<=1000000000000000)(w:World):Calls Tryz.prog 131 #[.int .i64 (n:Int)] w λe w'=>e=.returned (.tuple #[.string (Ps.bO (n:Int)),.int .i64 0])/\Below w.heap.size w w':=by
 go_enter Tryz.func131,Tryz.ntmps131
 refine gq λa ha hdf=>?_
 have d1:=wz n 100 (by omega) (by omega)
 have d2:=wz n 10 (by omega) (by omega)
 have d3:(IntKind.i64.wrap ((n:Int).tdiv 10)).tmod 10=((n/10%10:Nat):Int):=by
  have e:(n:Int).tdiv 10=(n:Int).tdiv ((10:Nat):Int):=rfl
  rw[e,d2]
  exact xz (n/10) 10
 have d4:(n:Int).tmod 10=((n%10:Nat):Int):=xz n 10
 refine bE (M:={Pw w [.int .i64 (n:Int)]with hint:=λt=>if t=10 then some false else none}) (n:=28) (Ok.hint (Bd w _)) [2,3] (us:=[.s (Se.cat (Se.cat (Se.cat (Se.cat (0,⟨#[]⟩) (20,Ps.bH (IntKind.i64.wrap ((n:Int).tdiv 100)))) (1,⟨#[46]⟩)) (20,Ps.bH ((IntKind.i64.wrap ((n:Int).tdiv 10)).tmod 10))) (20,Ps.bH ((n:Int).tmod 10))),.v (.int .i64 0)])
  (ps:=[aL w.heap.size w (Ev.aM [(none,[.int .i64 (n:Int)])]) 200 [.r 0 0] (.val (.bool true)),decide ((n:Int)<0)=false,aL w.heap.size w (Ev.aM [(none,[.int .i64 (n:Int)])]) 201 [.r 0 0] (.val (.int .i64 (n:Int))),aL w.heap.size w (Ev.aM [(none,[.int .i64 (n:Int)])]) 134 [.v (.int .i64 (IntKind.i64.wrap ((n:Int).tdiv 100)))] (.str 20 (Ps.bH (IntKind.i64.wrap ((n:Int).tdiv 100)))),aL w.heap.size w (Ev.aM [(none,[.int .i64 (n:Int)])]) 134 [.v (.int .i64 ((IntKind.i64.wrap ((n:Int).tdiv 10)).tmod 10))] (.str 20 (Ps.bH ((IntKind.i64.wrap ((n:Int).tdiv 10)).tmod 10))),aL w.heap.size w (Ev.aM [(none,[.int .i64 (n:Int)])]) 134 [.v (.int .i64 ((n:Int).tmod 10))] (.str 20 (Ps.bH ((n:Int).tmod 10)))]) (by kernel_rfl)
  ⟨kE NF rfl (λw' _=>Ny w' _ (by omega) (by omega)),by simp,kE Mo rfl (λw' _=>rq_abs w' _ (by omega)),Aw rfl d1 (by omega),Aw rfl d3 (by omega),Aw rfl d4 (by omega),trivial⟩ (aF (aZ (by rw[ha];rfl) hdf) (v:=.int .i64 (n:Int)) (t:=0) (u:=.r 0 0) (by rw[ha];rfl) rfl) (Sw.hint (Sw.start _)) ?_
 intro a w' _ hd hv hS
 refine nJ rfl hd hv ⟨?_,az rfl hS⟩
 have e1:(n:Int).tdiv 100=(n:Int).tdiv ((100:Nat):Int):=rfl
 rw[eO,eO,eO,eO,d3,d4,e1,d1]
 rw[show st (20,Ps.bH ((n/100:Nat):Int))=_ from bW (kF _ (by omega)),show st (20,Ps.bH ((n/10%10:Nat):Int))=_ from bW (kF _ (by omega)),show st (20,Ps.bH ((n%10:Nat):Int))=_ from bW (kF _ (by omega)),show st (1,(⟨#[46]⟩:ByteArray))=_ from bW (Nat.le_refl 1),show st (0,(⟨#[]⟩:ByteArray))=_ from bW (Nat.le_refl 0)]
 refine congrArg (λs=>Ending.returned (.tuple #[.string s,.int .i64 0])) ?_
 unfold Ps.bO Ps.bH Ps.cu
 rw[Int.toNat_natCast,Int.toNat_natCast,Int.toNat_natCast,Int.toNat_natCast,Ps.dX (n:=n/10%10) (by omega),Ps.dX (n:=n%10) (by omega)]
 apply ByteArray.ext
 simp[Ps.dgt]
theorem R4 (n:Nat)(hn:n<=1000000000000000)(w:World):gZ 74 #[.int .i64 (n:Int)] w (Ps.bO (n:Int)):=by
 have m1:=K3 n hn w
 clear hn
 unfold gZ
 go_enter Tryz.func74,Tryz.ntmps74
 go_wp2_with (go_at_call 131;refine m1.mono ?_;rintro e w1 ⟨rfl,hb⟩;have HB:=Lib.hid hb;clear hb)
 go_ret
 exact⟨rfl,HB.out⟩
theorem Lf (n:Nat)(hn:n<1000000000000000000)(w:World):gZ 77 #[.int .i64 (n:Int)] w (Ps.bH (n:Int)):=by
 have m1:=zz n hn w
 unfold gZ at m1⊢
 clear hn
 go_enter Tryz.func77,Tryz.ntmps77
 go_wp2_with (go_at_call 134;refine m1.mono ?_;rintro e w1 ⟨rfl,hb⟩;have HB:=Lib.hid hb;clear hb)
 go_ret
 exact⟨rfl,HB.out⟩
theorem Rf (w:World)(g j n c:Nat)(s:ByteArray)(h0:¬(j:Int)<0)(h1:¬(n:Int)<=(j:Int))(h2:(j:Int)<(n:Int))(_hj:j<n)(hc:w.cell? ⟨g,j,none⟩=some (.string s)):
 Calls Tryz.prog 73 #[.slice (some ⟨g,0,none⟩) n c,.int .i64 j] w λe w'=>e=.returned (.string s)/\w=w':=by
 go_enter Tryz.func73,Tryz.ntmps73
 go_wp2_with fail
 go_ret
 exact⟨rfl,rfl⟩
theorem gY {B:Nat}{W:World}{cell:Nat->Nat->Value}{l:List SB}{u:PV}{j m:Nat}{q:Int}{x:ByteArray}(hu:eG cell u=some (.int .i64 q))(hq:q=(j:Int))(hj:(l.map st)[j]? =some x)(hx:x.size<=m):aL B W cell 73 [.sl l,u] (.str m x):=⟨Jt,hx,λvals w _ hd=>by
 obtain⟨v,v2,rfl,⟨B',hv⟩,hv2⟩:=Ov hd
 obtain rfl:=jQ hu hv2
 subst hq
 have hl:j<l.length:=by have:=(List.getElem?_eq_some_iff.1 hj).1;simpa using this
 obtain⟨bk,c,rfl,hbk,hcell⟩:=fT hv (by omega)
 refine(Rf w bk j l.length c x (by omega) (by omega) (by omega) hl ?_).mono λe w' ⟨h1,h2⟩=>⟨_,h1,rfl,h2▸Below.refl _ _⟩
 refine hcell j _ ?_
 rw[List.getElem?_map,hj]
 rfl⟩
end Go.Proofs.YtnjjeapcalkmaaaGreatDoor
