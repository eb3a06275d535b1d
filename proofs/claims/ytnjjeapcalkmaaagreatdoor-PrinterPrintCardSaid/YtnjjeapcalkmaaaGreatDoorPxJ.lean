/-
  Part 10 of a proof; written short by a program out of longer texts of mine.
-/
import Derived.Test.YtnjjeapcalkmaaaGreatDoorPxI
set_option maxRecDepth 100000
set_option maxHeartbeats 4000000
set_option linter.unusedVariables false
set_option linter.unusedSimpArgs false
namespace Go.Proofs.YtnjjeapcalkmaaaGreatDoor
open Go Go.RowKit Go.Proofs.YtnjjeapcalkmaaaGreatDoor.Ord
open Go.Proofs.YtnjjeapcalkmaaaGreatDoor.Se
def tsts:List (Nat×Bool)->Nat->Option Bool
 |[],_=>none
 |(s,b)::r,t=>if s=t then some b else tsts r t
abbrev dZ:Nat:=9223372036854775807
structure yh (i:Ps.Ins):Prop where
 len:i.links.length<=20
 ref:i.ref.size<=100
 sender:i.sender.size<=100
 cp:i.counterparty.size<=100
 asset:i.asset.size<=100
 link:∀x∈i.links,x.ref.size<=100
theorem vR (w:World)(i:Ps.Ins)(a:Option Addr)(n c:Nat){ρ:Operand->Value}{o:Oper}{x:Operand}(ho:o.op=.box 24 x)(hx:ρ x=.agg (aA i (.slice a n c)).toArray):(execOp ρ o).run Tryz.prog w=.ok (.value (.pointer (some ⟨w.heap.size,0,none⟩))) (w.alloc (.cells (aA i (.slice a n c)).toArray 24)):=by
 have h:=lq_ins w i a n c
 unfold AB at h
 unfold execOp
 simp only[ho,hx]
 go_simp
 try rfl
theorem Iz {M:Mem}{fn:Func}{r:Nat}{x:Value}{us:List PV}{ts:List Nat}{a:Act}{w:World}{R:Ending->World->Prop}(hres:fn.results=#[.tmp r])(hd:a.defers=[])(hv:kS M (r::ts) (.v x::us) a w)(hR:R (.returned x) w):bodyPost Tryz.prog fn R .ret a w:=by
 obtain⟨⟨v,h1,h2⟩,_⟩:=hv.cons
 have h2:v=x:=h2
 subst h2
 refine bodyPost_ret (results_tmp hres _ _ _) hd ?_
 rw[show a.tmps.getD r undef=v from eval_at h1]
 exact hR
noncomputable def ftM (W:World)(rows:List (Option (Nat×Nat)×List Value))(n:Int)(b:Bool)(l:List (Nat×Bool)):Mem:={ {seM W.heap.size W [] dZ rows (λ_ _=>none)with oth:=wN 22 0 15 n b}with tst:=tsts l}
noncomputable def ftC:Code:=Ev.nC (Tryz.f31.body.getD .skip)
noncomputable def ftLp:Code:=(Ev.aX Ev.cK ftC).1
theorem rA {i:Ps.Ins}{lv:Value}(hl:∀x,lv≠.string x)(hz:jI i):∀x,Value.string x∈aA i lv->x.size<=dZ:=λx hx=>by
 obtain⟨h1,h2,h3,h4,_⟩:=hz
 unfold aA at hx
 simp at hx
 rcases hx with rfl|rfl|rfl|rfl|h
 ·exact h1
 ·exact h2
 ·exact h3
 ·exact h4
 ·exact absurd h.symm (hl x)
theorem bf {x:ByteArray}(h:Sz x):(st (dZ,x)).size=x.size:=by rw[bu h]
def ftJ (W:World)(g:Nat)(i:Ps.Ins)(sa:Option Addr)(sn sc j:Nat)(a:Act)(w:World):Prop:=a.tmps.size=47/\a.defers=[]/\a.tmps[1]? =some (.pointer (some ⟨g,0,none⟩))/\a.tmps[3]? =some (.int .i64 j)/\(∀x∈i.links.take j,x.ref.size<=100)/\Sw (ftM W (aJ g i (.slice sa sn sc)) sn false []) w
theorem Eh {W w:World}{r1 r2:List (Option (Nat×Nat)×List Value)}{n m:Int}{b c:Bool}{l k:List (Nat×Bool)}(h:Sw (ftM W r1 n b l) w):Sw (ftM W r2 m c k) w:=⟨h.os,h.tape,h.output,h.size,h.block⟩
theorem TW (w W:World)(hb:Below w.heap.size w W)(i:Ps.Ins)(g:Nat)(hz:jI i)(sa:Option Addr)(sn sc:Nat)(hr:W.heap[g]? =some (.cells (aA i (.slice sa sn sc)).toArray 24 (0,0)))(hn:sn=i.links.length)(hlk:0<sn->∃sb so,sa=some ⟨sb,so,none⟩/\zI W sb so i.links)
 (hF:(∀x∈i.links,x.ref.size<=100)->yh i) (h20:sn<=20) {a:Act} {w':World} (hJ:ftJ W g i sa sn sc 0 a w'):
 ftLp.wp Tryz.prog (Ev.Qof Tryz.prog (Ev.aX Ev.cK ftC).2 (bodyPost Tryz.prog Tryz.f31 λe w'=>∃b,e=.returned (.bool b)/\(b=true↔yh i)/\Below w.heap.size w w')) a w':=by
 have hgW:g<W.heap.size:=(Array.getElem?_eq_some_iff.1 hr).1
 have hr0:=bv hr
 show(Code.loop (Ev.fU ftLp)).wp _ _ _ _
 refine wp_loop (λa w'=>∃j:Nat,j<=sn/\ftJ W g i sa sn sc j a w') (λa _=>sn-(intOf (a.tmps.getD 3 undef)).toNat) ⟨0,Nat.zero_le _,hJ⟩ ?_
 clear hJ a w'
 rintro a w' ⟨j,hj,h1,h2,h3,h4,hall,hS⟩
 by_cases hlt:j<sn
 ·obtain⟨sb,so,rfl,hrow⟩:=hlk (by omega)
  obtain⟨x,hx⟩:∃x,i.links[j]? =some x:=⟨_,List.getElem?_eq_getElem (by omega)⟩
  have hxz:Sz x.ref:=hz.2.2.2.2 x (List.mem_of_getElem? hx)
  obtain⟨hsb,hxc⟩:=xW hrow hx
  have hO:∀l,Ok Tryz.prog (ftM W (pX (aJ g i (.slice (some ⟨sb,so,none⟩) sn sc)) j sb so x) (sn:Int) true l):=λl=>((Av (Nat.le_refl _) (λg hg=>by cases hg) (λk g' o l hk=>by
   rcases k with _|_|_|_|k
   ·cases hk;exact⟨.inl hgW,hr0⟩
   ·cases hk
   ·cases hk
   ·cases hk;exact⟨.inl hsb,hxc⟩
   ·cases hk) (λk p l hk=>by
   rcases k with _|_|_|_|k
   ·cases hk;exact rA (λx e=>by cases e) hz
   ·cases hk
   ·cases hk
   ·cases hk
    intro y hy
    simp at hy
    subst hy
    exact hxz
   ·cases hk)).withOth (Eu (.inl rfl) (cp:=sc) (sa:=some ⟨sb,so,none⟩) rfl rfl λ_=>⟨hlt,sb,so,rfl,rfl⟩)).withTst
  have qY:∀l,FrP (ftM W (pX (aJ g i (.slice (some ⟨sb,so,none⟩) sn sc)) j sb so x) (sn:Int) true l) 47 [(1,.p 0 0),(3,.r 2 0)] a w':=λl=>aF (aF (aZ h1 h2) h4 rfl) h3 rfl
  by_cases UZ:100<(x.ref.size:Int)
  ·refine bE (hO [(36,true),(46,true)]) [2] (us:=[.v (.bool false)]) (ps:=[decide ((j:Int)<(sn:Int))=true,decide (100<((st (dZ,x.ref)).size:Int))=true]) (by kernel_rfl) ⟨by simpa using hlt,by rw[bf hxz];simpa using UZ,trivial⟩ (qY _) (Eh hS) ?_
   intro b w2 b1 b2 hv hS2
   show bodyPost Tryz.prog Tryz.f31 (λe w'=>∃b,e=.returned (.bool b)/\(b=true↔yh i)/\Below w.heap.size w w') .ret b w2
   exact Iz rfl b2 hv ⟨false,rfl,⟨(λh=>by cases h),λh=>by have:=h.link x (List.mem_of_getElem? hx);omega⟩,hb.trans ((az (M:=ftM W (pX (aJ g i (.slice (some ⟨sb,so,none⟩) sn sc)) j sb so x) (sn:Int) true [(36,true),(46,true)]) rfl hS2).mono hb.size)⟩
  ·refine CZ (hO [(36,true),(46,false)]) [1,3] (us:=[.p 0 0,.v (.int .i64 (IntKind.i64.wrap ((j:Int)+1)))]) (ps:=[decide ((j:Int)<(sn:Int))=true,decide (100<((st (dZ,x.ref)).size:Int))=false]) (by kernel_rfl) ⟨by simpa using hlt,by rw[bf hxz];simpa using UZ,trivial⟩ (qY _) (Eh hS) ?_
   intro b w2 b1 b2 hv hS2
   obtain⟨⟨v1,e1,d1⟩,hv⟩:=hv.cons
   obtain⟨⟨v3,e3,d3⟩,-⟩:=hv.cons
   have d3:v3=.int .i64 _:=d3
   rw[IntWalk.i64_in _ (by omega),show(j:Int)+1=((j+1:Nat):Int)from by omega]at d3
   subst d3
   refine⟨⟨j+1,by omega,b1,b2,e1.trans (congrArg some d1),e3,λy hy=>?_,Eh hS2⟩,?_⟩
   ·rw[List.take_add_one,hx]at hy
    rcases List.mem_append.1 hy with h|h
    ·exact hall y h
    ·simp at h
     subst h
     omega
   ·have q1:b.tmps.getD 3 undef=.int .i64 ((j+1:Nat):Int):=eval_at e3
    have q2:a.tmps.getD 3 undef=.int .i64 (j:Int):=eval_at h4
    rw[q1,q2]
    show sn-(((j+1:Nat):Int)).toNat<sn-((j:Nat):Int).toNat
    omega
 ·obtain rfl:j=sn:=by omega
  have hR:∀(k g' o:Nat) (l:List Value),(aJ g i (.slice sa j sc)++[(none,[.int .i64 (j:Int)])])[k]? =some (some (g',o),l)->(g'<W.heap.size\/g'∈([]:List Nat))/\∀w:World,w.heap[g']? =W.heap[g']?->∀(j:Nat) (v:Value),l[j]? =some v->w.cell? ⟨g',o+j,none⟩=some v:=λk g' o l hk=>by
   rcases k with _|_|_|k
   ·cases hk;exact⟨.inl hgW,hr0⟩
   ·cases hk
   ·cases hk
   ·cases hk
  have hRs:∀(k:Nat) (p:Nat×Nat) (l:List Value),(aJ g i (.slice sa j sc)++[(none,[.int .i64 (j:Int)])])[k]? =some (some p,l)->∀x,Value.string x∈l->x.size<=dZ:=λk p l hk=>by
   rcases k with _|_|_|k
   ·cases hk;exact rA (λx e=>by cases e) hz
   ·cases hk
   ·cases hk
   ·cases hk
  have hO:Ok Tryz.prog (ftM W (aJ g i (.slice sa j sc)++[(none,[.int .i64 (j:Int)])]) (j:Int) false [(36,false)]):=((Av (Nat.le_refl _) (λg hg=>by cases hg) hR hRs).withOth (sZ (.inl rfl) (cp:=sc) (sa:=sa) rfl)).withTst
  refine He hO [1] (k:=0) (us:=[.p 0 0]) (ps:=[decide ((j:Int)<(j:Int))=false]) (by kernel_rfl) ⟨by simp,trivial⟩ (aF (aF (aZ h1 h2) h4 rfl) h3 rfl:FrP (ftM W (aJ g i (.slice sa j sc)++[(none,[.int .i64 (j:Int)])]) (j:Int) false [(36,false)]) 47 [(1,.p 0 0),(3,.r 2 0)] a w') (Eh hS) ?_
  intro b w2 b1 b2 hv hS2
  show(Ev.fmC (Ev.aX Ev.cK ftC).2 1).wp Tryz.prog _ b w2
  refine bE (M:=ftM W (aJ g i (.slice sa j sc)++[(none,[.int .i64 (j:Int)])]) (j:Int) false [(36,false)]) (n:=47) (K:=[]) hO [2] (us:=[.v (.bool true)]) (ps:=[]) (by kernel_rfl) trivial (aZ b1 b2) hS2 ?_
  intro b3 w3 _ hd hv E9
  refine Iz rfl hd hv ⟨true,rfl,⟨λ_=>hF λx hx=>hall x ?_,λ_=>rfl⟩,hb.trans ((az (M:=ftM W (aJ g i (.slice sa j sc)++[(none,[.int .i64 (j:Int)])]) (j:Int) false [(36,false)]) rfl E9).mono hb.size)⟩
  rw[hn,List.take_length]
  exact hx
theorem TJ (w:World)(i:Ps.Ins)(hz:jI i)(sa:Option Addr)(sn sc:Nat)(hn:sn=i.links.length)(hlk:dI w sa sn i.links):Calls Tryz.prog 31 #[.agg (aA i (.slice sa sn sc)).toArray] w λe w'=>∃b,e=.returned (.bool b)/\(b=true↔yh i)/\Below w.heap.size w w':=by
 go_enter Tryz.func31,Tryz.ntmps31
 refine gq λa ha hdf=>?_
 refine wp_seq ?_
 have hb:Below w.heap.size w (w.alloc (.cells (aA i (.slice sa sn sc)).toArray 24)):=(Below.refl _ _).alloc (Nat.le_refl _) _
 refine rO rfl rfl rfl rfl rfl (by decide) (by rw[ha];show 1<47;decide) (by rw[ha];show 2<47;decide) (vR w i sa sn sc rfl (eval_at (by rw[ha];rfl))) λb b1 b2 b3 b4=>?_
 have hr:(w.alloc (.cells (aA i (.slice sa sn sc)).toArray 24)).heap[w.heap.size]? =some (.cells (aA i (.slice sa sn sc)).toArray 24 (0,0)):=aC w _
 generalize w.alloc (.cells (aA i (.slice sa sn sc)).toArray 24)=W at hb hr⊢
 have hgW:w.heap.size<W.heap.size:=(Array.getElem?_eq_some_iff.1 hr).1
 have hr0:=bv hr
 obtain⟨z1,z2,z3,z4,z5⟩:=id hz
 have hO:∀l,Ok Tryz.prog (ftM W (aJ w.heap.size i (.slice sa sn sc)) (sn:Int) false l):=λl=>((Av (Nat.le_refl _) (λg hg=>by cases hg) (λk g' o l hk=>by
  rcases k with _|_|k
  ·cases hk;exact⟨.inl hgW,hr0⟩
  ·cases hk
  ·cases hk) (λk p l hk=>by
  rcases k with _|_|k
  ·cases hk;exact rA (λx e=>by cases e) hz
  ·cases hk
  ·cases hk)).withOth (sZ (.inl rfl) (cp:=sc) (sa:=sa) rfl)).withTst
 have qY:∀l,FrP (ftM W (aJ w.heap.size i (.slice sa sn sc)) (sn:Int) false l) 47 [(1,.p 0 0)] b W:=λl=>aF (aZ (b2.trans (by rw[ha];rfl)) (b1.trans hdf)) b3 rfl
 have fin:∀(l:List (Nat×Bool)),¬yh i->∀(a:Act) (w':World),a.tmps.size=47->a.defers=[]->kS (ftM W (aJ w.heap.size i (.slice sa sn sc)) (sn:Int) false l) [2] [.v (.bool false)] a w'->Sw (ftM W (aJ w.heap.size i (.slice sa sn sc)) (sn:Int) false l) w'->bodyPost Tryz.prog Tryz.f31 (λe w'=>∃b,e=.returned (.bool b)/\(b=true↔yh i)/\Below w.heap.size w w') .ret a w':=λl hno a w' _ hd hv hS=>
  Iz rfl hd hv ⟨false,rfl,⟨(λh=>by cases h),λh=>absurd h hno⟩,hb.trans ((az (M:=ftM W (aJ w.heap.size i (.slice sa sn sc)) (sn:Int) false l) rfl hS).mono hb.size)⟩
 by_cases h1:(20:Int)<(sn:Int)
 ·exact bE (code:=ftC) (hO [(7,true)]) [2] (us:=[.v (.bool false)]) (ps:=[decide ((20:Int)<(sn:Int))=true]) (by kernel_rfl) ⟨by simpa using h1,trivial⟩ (qY _) (Sw.start _) (fin _ λh=>by have:=h.len;omega)
 by_cases h2:(100:Int)<(i.ref.size:Int)
 ·exact bE (code:=ftC) (hO [(7,false),(12,true)]) [2] (us:=[.v (.bool false)]) (ps:=[decide ((20:Int)<(sn:Int))=false,decide (100<((st (dZ,i.ref)).size:Int))=true]) (by kernel_rfl) ⟨by simpa using h1,by rw[bf z1];simpa using h2,trivial⟩ (qY _) (Sw.start _) (fin _ λh=>by have:=h.ref;omega)
 by_cases h3:(100:Int)<(i.sender.size:Int)
 ·exact bE (code:=ftC) (hO [(7,false),(12,false),(18,true)]) [2] (us:=[.v (.bool false)]) (ps:=[decide ((20:Int)<(sn:Int))=false,decide (100<((st (dZ,i.ref)).size:Int))=false,decide (100<((st (dZ,i.sender)).size:Int))=true]) (by kernel_rfl) ⟨by simpa using h1,by rw[bf z1];simpa using h2,by rw[bf z2];simpa using h3,trivial⟩ (qY _) (Sw.start _) (fin _ λh=>by have:=h.sender;omega)
 by_cases h4:(100:Int)<(i.counterparty.size:Int)
 ·exact bE (code:=ftC) (hO [(7,false),(12,false),(18,false),(24,true)]) [2] (us:=[.v (.bool false)]) (ps:=[decide ((20:Int)<(sn:Int))=false,decide (100<((st (dZ,i.ref)).size:Int))=false,decide (100<((st (dZ,i.sender)).size:Int))=false,decide (100<((st (dZ,i.counterparty)).size:Int))=true]) (by kernel_rfl) ⟨by simpa using h1,by rw[bf z1];simpa using h2,by rw[bf z2];simpa using h3,by rw[bf z3];simpa using h4,trivial⟩ (qY _) (Sw.start _) (fin _ λh=>by have:=h.cp;omega)
 by_cases h5:(100:Int)<(i.asset.size:Int)
 ·exact bE (code:=ftC) (hO [(7,false),(12,false),(18,false),(24,false),(30,true)]) [2] (us:=[.v (.bool false)]) (ps:=[decide ((20:Int)<(sn:Int))=false,decide (100<((st (dZ,i.ref)).size:Int))=false,decide (100<((st (dZ,i.sender)).size:Int))=false,decide (100<((st (dZ,i.counterparty)).size:Int))=false,decide (100<((st (dZ,i.asset)).size:Int))=true]) (by kernel_rfl) ⟨by simpa using h1,by rw[bf z1];simpa using h2,by rw[bf z2];simpa using h3,by rw[bf z3];simpa using h4,by rw[bf z4];simpa using h5,trivial⟩ (qY _) (Sw.start _) (fin _ λh=>by have:=h.asset;omega)
 refine C9 (code:=ftC) (c:=ftLp) (fs:=(Ev.aX Ev.cK ftC).2) (hO [(7,false),(12,false),(18,false),(24,false),(30,false)]) [1,3] (us:=[.p 0 0,.v (.int .i64 0)]) (ps:=[decide ((20:Int)<(sn:Int))=false,decide (100<((st (dZ,i.ref)).size:Int))=false,decide (100<((st (dZ,i.sender)).size:Int))=false,decide (100<((st (dZ,i.counterparty)).size:Int))=false,decide (100<((st (dZ,i.asset)).size:Int))=false]) (by kernel_rfl) ⟨by simpa using h1,by rw[bf z1];simpa using h2,by rw[bf z2];simpa using h3,by rw[bf z3];simpa using h4,by rw[bf z4];simpa using h5,trivial⟩ (qY _) (Sw.start _) ?_
 intro a2 w2 c1 c2 hv hS
 obtain⟨⟨v1,e1,d1⟩,hv⟩:=hv.cons
 obtain⟨⟨v3,e3,d3⟩,-⟩:=hv.cons
 exact TW w W hb i w.heap.size hz sa sn sc hr hn (λh0=>by
  obtain⟨sb,so,e,h⟩:=hlk h0
  exact⟨sb,so,e,h W hb⟩) (λh=>⟨by omega,by omega,by omega,by omega,by omega,h⟩) (by omega) ⟨c1,c2,e1.trans (congrArg some d1),e3.trans (congrArg some d3),(λx hx=>by simp at hx),Eh hS⟩
noncomputable def xA (i:Ps.Ins):Bool:=@decide (yh i) (Classical.propDecidable _)
theorem Dn (i:Ps.Ins):xA i=true↔yh i:=@decide_eq_true_iff _ (Classical.propDecidable _)
theorem O4 (w:World)(i:Ps.Ins)(hz:jI i)(sa:Option Addr)(sn sc:Nat)(hn:sn=i.links.length)(hlk:dI w sa sn i.links):Calls Tryz.prog 31 #[.agg (aA i (.slice sa sn sc)).toArray] w λe w'=>e=.returned (.bool (xA i))/\Below w.heap.size w w':=
 (TJ w i hz sa sn sc hn hlk).mono λe w' ⟨b,h1,h2,h3⟩=>by
  have hf:=Dn i
  have key:b=xA i:=by
   cases b with
   |true=>exact(hf.2 (h2.1 rfl)).symm
   |false=>
    cases hb:xA i with
    |false=>rfl
    |true=>exact absurd (h2.2 (hf.1 hb)) (by decide)
  exact⟨by rw[h1,key],h3⟩
theorem J2:∀args w,(callFunc 31 args).run Tryz.prog w=.ok (.enter 31 args) w:=enters_of Tryz.func31 (by kernel_rfl) rfl
theorem JH (w:World)(Q:Ps.Req)(a:Option Addr)(n c:Nat){ρ:Operand->Value}{o:Oper}{x:Operand}(ho:o.op=.box 28 x)(hx:ρ x=.agg (aB Q (.slice a n c))):(execOp ρ o).run Tryz.prog w=.ok (.value (.pointer (some ⟨w.heap.size,0,none⟩))) (w.alloc (.cells (aB Q (.slice a n c)) 28)):=by
 have h:=Hq w Q a n c
 unfold A7 at h
 unfold execOp
 simp only[ho,hx]
 go_simp
 try rfl
structure jS (Q:Ps.Req):Prop where
 ins:yh Q.ins
 sender:Q.sender.size<=100
 ref:Q.ref.size<=100
def smRes (b:Bool)(f:FuncId)(us:List PV):Option Rv:=match us with
 |[.a 0 3 16]=>if f=31 then some (.val (.bool b))else none
 |_=>none
noncomputable def smM (W:World)(g:Nat)(Q:Ps.Req)(lv:Value)(b:Bool)(l:List (Nat×Bool)):Mem:={seW W.heap.size W [] dZ (bI g Q lv) (smRes b)with tst:=tsts l}
noncomputable def smC:Code:=Ev.nC (Tryz.f23.body.getD .skip)
theorem M0 {Q:Ps.Req}{lv:Value}(hl:∀x,lv≠.string x)(hz:jI Q.ins)(h1:Sz Q.sender)(h2:Sz Q.ref):∀x,Value.string x∈oN Q lv->x.size<=dZ:=λx hx=>by
 unfold oN at hx
 rcases List.mem_append.1 hx with hx|hx
 ·rcases List.mem_append.1 hx with hx|hx
  ·simp at hx
   rcases hx with rfl|rfl
   ·exact h1
   ·exact h2
  ·exact rA hl hz x hx
 ·unfold aG at hx
  simp at hx
theorem OY (w:World)(Q:Ps.Req)(hz:jI Q.ins)(z1:Sz Q.sender)(z2:Sz Q.ref)(sa:Option Addr)(sn sc:Nat)(hn:sn=Q.ins.links.length)(hlk:dI w sa sn Q.ins.links):Calls Tryz.prog 23 #[.agg (aB Q (.slice sa sn sc))] w λe w'=>∃b,e=.returned (.bool b)/\(b=true↔jS Q)/\Below w.heap.size w w':=by
 go_enter Tryz.func23,Tryz.ntmps23
 refine gq λa ha hdf=>?_
 refine wp_seq ?_
 have hb:Below w.heap.size w (w.alloc (.cells (aB Q (.slice sa sn sc)) 28)):=(Below.refl _ _).alloc (Nat.le_refl _) _
 refine rO rfl rfl rfl rfl rfl (by decide) (by rw[ha];show 1<18;decide) (by rw[ha];show 2<18;decide) (JH w Q sa sn sc rfl (eval_at (by rw[ha];rfl))) λb b1 b2 b3 b4=>?_
 have hr:(w.alloc (.cells (aB Q (.slice sa sn sc)) 28)).heap[w.heap.size]? =some (.cells (oN Q (.slice sa sn sc)).toArray 28 (0,0)):=aC w _
 generalize w.alloc (.cells (aB Q (.slice sa sn sc)) 28)=W at hb hr⊢
 have hgW:w.heap.size<W.heap.size:=(Array.getElem?_eq_some_iff.1 hr).1
 have hr0:=bv hr
 have hO:∀l,Ok Tryz.prog (smM W w.heap.size Q (.slice sa sn sc) (xA Q.ins) l):=λl=>(vw (Nat.le_refl _) (λg hg=>by cases hg) (λk g' o l hk=>by
  rcases k with _|_|k
  ·cases hk;exact⟨.inl hgW,hr0⟩
  ·cases hk
  ·cases hk) (λk p l hk=>by
  rcases k with _|_|k
  ·cases hk;exact M0 (λx e=>by cases e) hz z1 z2
  ·cases hk
  ·cases hk)).withTst
 have qY:∀l,FrP (smM W w.heap.size Q (.slice sa sn sc) (xA Q.ins) l) 18 [(1,.p 0 0)] b W:=λl=>aF (aZ (b2.trans (by rw[ha];rfl)) (b1.trans hdf)) b3 rfl
 have P:aL W.heap.size W (Ev.aM (bI w.heap.size Q (.slice sa sn sc))) 31 [.a 0 3 16] (.val (.bool (xA Q.ins))):=kE (x:=.agg (aA Q.ins (.slice sa sn sc)).toArray) J2 rfl λw' hw'=>O4 w' Q.ins hz sa sn sc hn (hlk.below (hb.trans (hw'.mono hb.size)))
 have hfit:=Dn Q.ins
 have fin:∀(x:Bool) (l:List (Nat×Bool)),(x=true↔jS Q)->∀(a:Act) (w':World),a.tmps.size=18->a.defers=[]->kS (smM W w.heap.size Q (.slice sa sn sc) (xA Q.ins) l) [2] [.v (.bool x)] a w'->Sw (smM W w.heap.size Q (.slice sa sn sc) (xA Q.ins) l) w'->bodyPost Tryz.prog Tryz.f23 (λe w'=>∃b,e=.returned (.bool b)/\(b=true↔jS Q)/\Below w.heap.size w w') .ret a w':=λx l hx a w' _ hd hv hS=>
  Iz rfl hd hv ⟨x,rfl,hx,hb.trans ((az (M:=smM W w.heap.size Q (.slice sa sn sc) (xA Q.ins) l) rfl hS).mono hb.size)⟩
 generalize xA Q.ins=fb at hO qY P hfit fin
 cases fb with
 |false=>exact bE (code:=smC) (hO []) [2] (us:=[.v (.bool false)]) (ps:=[aL W.heap.size W (Ev.aM (bI w.heap.size Q (.slice sa sn sc))) 31 [.a 0 3 16] (.val (.bool false))]) (by kernel_rfl) ⟨P,trivial⟩ (qY _) (Sw.start _) (fin false _ ⟨(λh=>by cases h),λh=>by have:=hfit.2 h.ins;cases this⟩)
 |true=>
  have hi:=hfit.1 rfl
  by_cases h1:(Q.sender.size:Int)<=100
  ·by_cases h2:(Q.ref.size:Int)<=100
   ·exact bE (code:=smC) (hO [(10,true),(16,true)]) [2] (us:=[.v (.bool true)]) (ps:=[aL W.heap.size W (Ev.aM (bI w.heap.size Q (.slice sa sn sc))) 31 [.a 0 3 16] (.val (.bool true)),decide (((st (dZ,Q.sender)).size:Int)<=100)=true,decide (((st (dZ,Q.ref)).size:Int)<=100)=true]) (by kernel_rfl) ⟨P,by rw[bf z1];simpa using h1,by rw[bf z2];simpa using h2,trivial⟩ (qY _) (Sw.start _) (fin true _ ⟨λ_=>⟨hi,by omega,by omega⟩,λ_=>rfl⟩)
   ·exact bE (code:=smC) (hO [(10,true),(16,false)]) [2] (us:=[.v (.bool false)]) (ps:=[aL W.heap.size W (Ev.aM (bI w.heap.size Q (.slice sa sn sc))) 31 [.a 0 3 16] (.val (.bool true)),decide (((st (dZ,Q.sender)).size:Int)<=100)=true,decide (((st (dZ,Q.ref)).size:Int)<=100)=false]) (by kernel_rfl) ⟨P,by rw[bf z1];simpa using h1,by rw[bf z2];simpa using h2,trivial⟩ (qY _) (Sw.start _) (fin false _ ⟨(λh=>by cases h),λh=>by have:=h.ref;omega⟩)
  ·exact bE (code:=smC) (hO [(10,false)]) [2] (us:=[.v (.bool false)]) (ps:=[aL W.heap.size W (Ev.aM (bI w.heap.size Q (.slice sa sn sc))) 31 [.a 0 3 16] (.val (.bool true)),decide (((st (dZ,Q.sender)).size:Int)<=100)=false]) (by kernel_rfl) ⟨P,by rw[bf z1];simpa using h1,trivial⟩ (qY _) (Sw.start _) (fin false _ ⟨(λh=>by cases h),λh=>by have:=h.sender;omega⟩)
noncomputable def CO (Q:Ps.Req):Bool:=@decide (jS Q) (Classical.propDecidable _)
theorem Qh (w:World)(Q:Ps.Req)(hz:jI Q.ins)(z1:Sz Q.sender)(z2:Sz Q.ref)(sa:Option Addr)(sn sc:Nat)(hn:sn=Q.ins.links.length)(hlk:dI w sa sn Q.ins.links):∃b,(b=true↔jS Q)/\∀W,Below w.heap.size w W->Calls Tryz.prog 23 #[.agg (aB Q (.slice sa sn sc))] W λe W'=>e=.returned (.bool b)/\Below W.heap.size W W':=by
 have hf:CO Q=true↔jS Q:=@decide_eq_true_iff _ (Classical.propDecidable _)
 refine⟨CO Q,hf,λW hW=>(OY W Q hz z1 z2 sa sn sc hn (hlk.below hW)).mono λe w' ⟨b,h1,h2,h3⟩=>?_⟩
 have key:b=CO Q:=by
  cases b with
  |true=>exact(hf.2 (h2.1 rfl)).symm
  |false=>
   cases hb:CO Q with
   |false=>rfl
   |true=>exact absurd (h2.2 (hf.1 hb)) (by decide)
 exact⟨by rw[h1,key],h3⟩
noncomputable def r20N (wd:Int->SB)(rows:List (Option (Nat×Nat)×List Value))(f:FuncId)(us:List PV):Option Rv:=match us with
 |[.sl _,u]=>(match nvR rows u with
  | .v (.int .i64 q)=>if f=73 then some (.str (wd q).1 (wd q).2)else none
  |_=>none)
 |_=>BD rows f us
def prSB (p:Int):SB:=(10,Ps.bw (Ps.bX p))
def K6 (t:Int):SB:=(5,Ps.bw (if t=0 then Ps.fF else Ps.dC))
noncomputable def r20K (W:World)(l:List Value)(wd:Int->SB):Mem:=seX W.heap.size W [] 0 [(none,l)] (r20N wd [(none,l)])
theorem Sq (W:World)(l:List Value)(wd:Int->SB):Ok Tryz.prog (r20K W l wd):=mP (Nat.le_refl _) (λg hg=>by cases hg) (λk g o l' h=>by
 rcases k with _|k
 ·cases h
 ·cases h) (λk p l' h=>by
 rcases k with _|k
 ·cases h
 ·cases h)
theorem Ch (w:World)(p:Int)(hp:p=0\/p=1\/p=2):gZ 76 #[.int .i64 p] w (Ps.bw (Ps.bX p)):=by
 unfold gZ
 go_enter Tryz.func76,Tryz.ntmps76
 refine gq λa ha hdf=>?_
 refine bE (Sq w [.int .i64 p] prSB) (n:=6) [2] (us:=[.s (prSB p)]) (ps:=[aL w.heap.size w (Ev.aM [(none,[.int .i64 p])]) 73 [.sl [(6,⟨#[110,111,114,109,97,108]⟩),(4,⟨#[104,105,103,104]⟩),(6,⟨#[117,114,103,101,110,116]⟩)],.r 0 0] (.str 10 (Ps.bw (Ps.bX p)))]) (by kernel_rfl) ⟨?_,trivial⟩ (aF (aZ (by rw[ha];rfl) hdf) (v:=.int .i64 p) (t:=0) (u:=.r 0 0) (by rw[ha];rfl) rfl) (Sw.start _) ?_
 ·rcases hp with rfl|rfl|rfl
  ·exact gY (j:=0) rfl rfl (by kernel_rfl) (by decide)
  ·exact gY (j:=1) rfl rfl (by kernel_rfl) (by decide)
  ·exact gY (j:=2) rfl rfl (by kernel_rfl) (by decide)
 ·intro a w' _ hd hv hS
  refine jo rfl hd hv ⟨?_,az rfl hS⟩
  rw[show st (prSB p)=Ps.bw (Ps.bX p)from bW (by rcases hp with rfl|rfl|rfl<;>decide)]
def lk1 (sep:ByteArray)(x:Ps.Link):SB:=Se.cat (Se.cat (K6 x.type) (1,sep)) (40,x.ref)
noncomputable def rlC:Code:=Ev.nC (Tryz.f171.body.getD .skip)
noncomputable def rlLp:Code:=(Ev.aX Ev.cK rlC).1
noncomputable def rlE (W:World)(rows:List (Option (Nat×Nat)×List Value)):Mem:={seX W.heap.size W [] 40 rows (r20N K6 rows)with big:=true}
noncomputable def rlM (W:World)(rows:List (Option (Nat×Nat)×List Value))(n:Int)(b:Bool):Mem:={ {rlE W rows with oth:=wN 22 0 15 n b}with hint:=λt=>if t=11 then some b else none,loops:=0}
theorem Ng {W:World}{rows:List (Option (Nat×Nat)×List Value)}{n cp j:Nat}{sa:Option Addr}{b:Bool}
 (h2:∀(k g o:Nat) (l:List Value),rows[k]? =some (some (g,o),l)->(g<W.heap.size\/g∈([]:List Nat))/\∀w:World,w.heap[g]? =W.heap[g]?->∀(j:Nat) (v:Value),l[j]? =some v->w.cell? ⟨g,o+j,none⟩=some v)
 (hb:∀(k:Nat) (p:Nat×Nat) (l:List Value),rows[k]? =some (some p,l)->∀x,Value.string x∈l->x.size<=40)
 (hc:Ev.aM rows 0 15=.slice sa n cp) (hj:Ev.aM rows 2 0=.int .i64 (j:Int)) (hbb:b=true->j<n/\∃sb so,sa=some ⟨sb,so,none⟩/\(seX W.heap.size W [] 40 rows (λ_ _=>none)).ptr 3 0=.pointer (some ⟨sb,so+j*2,none⟩)):Ok Tryz.prog (rlM W rows n b):=
 ((mP (Nat.le_refl _) (λg hg=>by cases hg) h2 hb).big.withOth (Eu (.inl rfl) hc hj hbb)).hint
theorem Me {W:World}{rows:List (Option (Nat×Nat)×List Value)}(hr:RowsIn W W.heap.size 40 [] rows):Ok Tryz.prog (rlE W rows):=
 (mP (Nat.le_refl _) (λg hg=>by cases hg) (λk g o l h=>by
  obtain⟨rfl,h2,⟨t,h3⟩,_⟩:=cB hr k g o l h
  exact⟨h2,bv h3⟩) λk p l h=>(cB hr k p.1 p.2 l h).2.2.2).big
def rlJ (W:World)(g:Nat)(i:Ps.Ins)(lv:Value)(sep:ByteArray)(j:Nat)(a:Act)(w:World):Prop:=a.tmps.size=35/\a.defers=[]/\a.tmps[1]? =some (.string sep)/\a.tmps[2]? =some (.pointer (some ⟨g,0,none⟩))/\(∃v,a.tmps[5]? =some v/\w.ownsRow W.heap.size 9 1 v ((i.links.take j).map (lk1 sep)).length ((((i.links.take j).map (lk1 sep)).map st).map .string))/\a.tmps[6]? =some (.int .i64 (j:Int))/\Sw (rlE W (aJ g i lv)) w
theorem NU (w:World)(i:Ps.Ins)(sep:ByteArray)(hsep:sep.size<=1)(hs:o8 (fZ i))(h8:i.links.length<=8)(hlv:∀x∈i.links,(x.type=0\/x.type=1)/\x.ref.size<=40)(sa:Option Addr)(sn sc:Nat)(hn:sn=i.links.length)(hlk:dI w sa sn i.links):
 tu 171 #[.agg (aA i (.slice sa sn sc)).toArray,.string sep] w (i.links.map (lk1 sep)):=by
 unfold tu
 go_enter Tryz.func171,Tryz.ntmps171
 refine gq λa ha hdf=>?_
 refine wp_seq ?_
 have hb:Below w.heap.size w (w.alloc (.cells (aA i (.slice sa sn sc)).toArray 24)):=(Below.refl _ _).alloc (Nat.le_refl _) _
 have hst:st (1,sep)=sep:=bW hsep
 refine wp_region_lit ?_
 refine dE (d:=2) (w':=w.alloc (.cells (aA i (.slice sa sn sc)).toArray 24)) (u:=.pointer (some ⟨w.heap.size,0,none⟩)) rfl rfl (vR w i sa sn sc rfl (eval_at (by rw[ha];rfl))) ?_
 refine dE (d:=4) (w':=w.alloc (.cells (aA i (.slice sa sn sc)).toArray 24)) (u:=.slice none 0 0) rfl rfl (by unfold execOp;rfl) ?_
 refine aT ?_
 have hr:(w.alloc (.cells (aA i (.slice sa sn sc)).toArray 24)).heap[w.heap.size]? =some (.cells (aA i (.slice sa sn sc)).toArray 24 (0,0)):=aC w _
 obtain⟨g,hg⟩:∃g,g=w.heap.size:=⟨_,rfl⟩
 have hgw:=hg
 rw[<-hg]at hr⊢
 generalize w.alloc (.cells (aA i (.slice sa sn sc)).toArray 24)=W at hb hr⊢
 have hgW:g<W.heap.size:=(Array.getElem?_eq_some_iff.1 hr).1
 have hr0:=bv hr
 have hR:RowsIn W W.heap.size 40 [] (aJ g i (.slice sa sn sc)):=⟨⟨rfl,.inl hgW,⟨_,hr⟩,iU (λx e=>by cases e) hs.iref hs.isender hs.icp hs.iasset⟩,trivial⟩
 refine C9 (M:=rlE W (aJ g i (.slice sa sn sc))) (n:=35) (K:=[(1,.s (1,sep)),(2,.p 0 0)]) (c:=rlLp) (fs:=(Ev.aX Ev.cK rlC).2) (Me hR) [1,2,5,6] (us:=[.s (1,sep),.p 0 0,.sl [],.v (.int .i64 0)]) (ps:=[]) (by kernel_rfl) trivial (aF (aF (aZ (by rw[ha];rfl) hdf) (t:=2) (u:=.p 0 0) (v:=.pointer (some ⟨g,0,none⟩)) (by rw[ha];rfl) rfl) (t:=1) (u:=.s (1,sep)) (v:=.string sep) (by rw[ha];rfl) (by show _=Value.string (st _);rw[hst])) (Sw.start _) ?_
 intro b w1 b1 b2 hv hS
 obtain⟨⟨v1,e1,d1⟩,hv⟩:=hv.cons
 obtain⟨⟨v2,e2,d2⟩,hv⟩:=hv.cons
 obtain⟨⟨v5,e5,d5⟩,hv⟩:=hv.cons
 obtain⟨⟨v6,e6,d6⟩,-⟩:=hv.cons
 have d1:v1=.string (st (1,sep)):=d1
 rw[hst]at d1
 have hJ:rlJ W g i (.slice sa sn sc) sep 0 b w1:=⟨b1,b2,e1.trans (congrArg some d1),e2.trans (congrArg some d2),⟨v5,e5,pO d5⟩,e6.trans (congrArg some d6),hS⟩
 clear e1 d1 e2 d2 e5 d5 e6 d6 b1 b2 hS
 show(Code.loop (Ev.fU rlLp)).wp _ _ _ _
 refine wp_loop (λa w'=>∃j:Nat,j<=sn/\rlJ W g i (.slice sa sn sc) sep j a w') (λa _=>sn-(intOf (a.tmps.getD 6 undef)).toNat) ⟨0,Nat.zero_le _,hJ⟩ ?_
 clear hJ
 rintro b w' ⟨j,hj,h1,h2,h3,h4,⟨v,h5,hown⟩,h6,hS⟩
 obtain⟨l,hl⟩:∃l,l=(i.links.take j).map (lk1 sep):=⟨_,rfl⟩
 rw[<-hl]at hown
 have hll:l.length<=8:=by rw[hl,List.length_map,List.length_take];omega
 by_cases hlt:j<sn
 ·obtain⟨sb,so,rfl,hrow0⟩:=hlk (by omega)
  have hrow:=hrow0 W hb
  obtain⟨x,hx⟩:∃x,i.links[j]? =some x:=⟨_,List.getElem?_eq_getElem (by omega)⟩
  obtain⟨hxt,hxr⟩:=hlv x (List.mem_of_getElem? hx)
  obtain⟨hsb,hxc⟩:=xW hrow hx
  have hO:Ok Tryz.prog (rlM W (pX (aJ g i (.slice (some ⟨sb,so,none⟩) sn sc)) j sb so x) (sn:Int) true):=Ng (cp:=sc) (j:=j) (sa:=some ⟨sb,so,none⟩) (λk g' o l hk=>by
   rcases k with _|_|_|_|k
   ·cases hk;exact⟨.inl hgW,hr0⟩
   ·cases hk
   ·cases hk
   ·cases hk;exact⟨.inl hsb,hxc⟩
   ·cases hk) (λk p l hk=>by
   rcases k with _|_|_|_|k
   ·cases hk;exact iU (λx e=>by cases e) hs.iref hs.isender hs.icp hs.iasset
   ·cases hk
   ·cases hk
   ·cases hk
    intro y hy
    simp at hy
    subst hy
    exact hxr
   ·cases hk) rfl rfl λ_=>⟨hlt,sb,so,rfl,rfl⟩
  have hF:FrP (rlM W (pX (aJ g i (.slice (some ⟨sb,so,none⟩) sn sc)) j sb so x) (sn:Int) true) 35 [(1,.s (1,sep)),(2,.p 0 0),(5,.sl l),(6,.r 2 0)] b w':=aF (aF (aF (aF (aZ h1 h2) h6 rfl) h5 (pJ (M:=rlM W (pX (aJ g i (.slice (some ⟨sb,so,none⟩) sn sc)) j sb so x) (sn:Int) true) hown (λg _ h=>by cases h))) h4 rfl) h3 (by show _=Value.string (st _);rw[hst])
  refine CZ hO [1,2,5,6] (us:=[.s (1,sep),.p 0 0,.sl (l++[lk1 sep x]),.v (.int .i64 (IntKind.i64.wrap ((j:Int)+1)))])
   (ps:=[decide ((j:Int)<(sn:Int))=true,aL W.heap.size W (Ev.aM (pX (aJ g i (.slice (some ⟨sb,so,none⟩) sn sc)) j sb so x)) 73 [.sl [(4,⟨#[119,105,116,104]⟩),(5,⟨#[97,102,116,101,114]⟩)],.r 3 0] (.str (K6 x.type).1 (K6 x.type).2),l.length+[lk1 sep x].length<=1000000]) (by kernel_rfl) ⟨by simpa using hlt,?_,by show l.length+1<=_;omega,trivial⟩ hF (EB hS rfl rfl rfl) ?_
  ·rcases hxt with h|h
   ·rw[h];exact gY (j:=0) (q:=x.type) rfl h (by kernel_rfl) (by decide)
   ·rw[h];exact gY (j:=1) (q:=x.type) rfl h (by kernel_rfl) (by decide)
  intro b3 w2 b1 b2 hv hS2
  obtain⟨⟨v1,e1,d1⟩,hv⟩:=hv.cons
  obtain⟨⟨v2,e2,d2⟩,hv⟩:=hv.cons
  obtain⟨⟨v5,e5,d5⟩,hv⟩:=hv.cons
  obtain⟨⟨v6,e6,d6⟩,-⟩:=hv.cons
  have d1:v1=.string (st (1,sep)):=d1
  rw[hst]at d1
  have d6:v6=.int .i64 _:=d6
  rw[IntWalk.i64_in _ (by omega),show(j:Int)+1=((j+1:Nat):Int)from by omega]at d6
  subst d6
  have el:l++[lk1 sep x]=(i.links.take (j+1)).map (lk1 sep):=by
   rw[hl,List.take_add_one,hx]
   simp
  have d5':=pO d5
  rw[el]at d5'
  refine⟨⟨j+1,by omega,b1,b2,e1.trans (congrArg some d1),e2.trans (congrArg some d2),⟨v5,e5,d5'⟩,e6,EB hS2 rfl rfl rfl⟩,?_⟩
  have q1:b3.tmps.getD 6 undef=.int .i64 ((j+1:Nat):Int):=eval_at e6
  have q2:b.tmps.getD 6 undef=.int .i64 (j:Int):=eval_at h6
  rw[q1,q2]
  show sn-(((j+1:Nat):Int)).toNat<sn-((j:Nat):Int).toNat
  omega
 ·obtain rfl:j=sn:=by omega
  have hO:Ok Tryz.prog (rlM W (aJ g i (.slice sa j sc)++[(none,[.int .i64 (j:Int)])]) (j:Int) false):=Ng (cp:=sc) (j:=j) (sa:=sa) (λk g' o l hk=>by
   rcases k with _|_|_|k
   ·cases hk;exact⟨.inl hgW,hr0⟩
   ·cases hk
   ·cases hk
   ·cases hk) (λk p l hk=>by
   rcases k with _|_|_|k
   ·cases hk;exact iU (λx e=>by cases e) hs.iref hs.isender hs.icp hs.iasset
   ·cases hk
   ·cases hk
   ·cases hk) rfl rfl λh=>by cases h
  have hF:FrP (rlM W (aJ g i (.slice sa j sc)++[(none,[.int .i64 (j:Int)])]) (j:Int) false) 35 [(2,.p 0 0),(5,.sl l),(6,.r 2 0)] b w':=aF (aF (aF (aZ h1 h2) h6 rfl) h5 (pJ (M:=rlM W (aJ g i (.slice sa j sc)++[(none,[.int .i64 (j:Int)])]) (j:Int) false) hown (λg _ h=>by cases h))) h4 rfl
  refine He hO [5] (k:=0) (us:=[.sl l]) (ps:=[decide ((j:Int)<(j:Int))=false]) (by kernel_rfl) ⟨by simp,trivial⟩ hF (EB hS rfl rfl rfl) ?_
  intro b3 w2 b1 b2 hv hS2
  obtain⟨⟨v5,e5,d5⟩,-⟩:=hv.cons
  show(Ev.fmC (Ev.aX Ev.cK rlC).2 1).wp Tryz.prog _ b3 w2
  have d5':=pO d5
  refine bE (M:=rlE W (aJ g i (.slice sa j sc))) (n:=35) (K:=[(5,.sl l)]) (Me hR) [4] (us:=[.sl l]) (ps:=[]) (by kernel_rfl) trivial (aF (aZ b1 b2) e5 (pJ (M:=rlE W (aJ g i (.slice sa j sc))) d5' (λg _ h=>by cases h))) (EB hS2 rfl rfl rfl) ?_
  intro b4 w4 _ hd hv hS4
  obtain rfl:=hgw
  refine qB rfl hd hv λv hv=>⟨v,rfl,?_,hb.trans ((az rfl hS4).mono hb.size)⟩
  rw[hl,hn,List.take_length]at hv
  exact dA hv hb.size
theorem Pq (w:World)(bk n c:Nat)(ts:List ByteArray)(sep:ByteArray)(J:Nat->ByteArray)(hn:Hid (n=ts.length))(hl:n<=1000)(_hc:n<=c)(hcell:Hid (∀(j:Nat) (x:ByteArray),ts[j]? =some x->w.cell? ⟨bk,j,none⟩=some (.string x)))
 (hJ0:Hid (J 0=⟨#[]⟩)) (hJ1:Hid (∀x,ts[0]? =some x->J 1=J 0++x)) (hJs:Hid (∀(k:Nat) (x:ByteArray),0<k->ts[k]? =some x->J (k+1)=J k++sep++x)) (hz:Hid (∀k,k<=n->(J k).size<=1000000)):
 Calls Tryz.prog 71 #[.slice (some ⟨bk,0,none⟩) n c,.string sep] w λe w'=>e=.returned (.string (J n))/\Below w.heap.size w w':=by
 go_enter Tryz.func71,Tryz.ntmps71
 go_wp2_with fail
 go_loopw [5,6] (λov iv wr=>∃k:Nat,Hid (ov=.string (J k))/\iv=.int .i64 k/\k<=n/\wr=w) (λ_ iv _=>2000-(RowKit.intOf iv).toNat)
 case atStart=>exact⟨0,Lib.hid (by rw[hJ0.out]),rfl,Nat.zero_le _,rfl⟩
 case round=>
  obtain⟨k,ho,rfl,hk,rfl⟩:=hrel
  have ho:=ho.out
  subst ho
  by_cases hlt:k<n
  ·obtain⟨x,hx⟩:∃x,ts[k]? =some x:=⟨_,List.getElem?_eq_getElem (by rw[<-hn.out];exact hlt)⟩
   have y0:=hcell.out k x hx
   have tZ:(k:Int)<(n:Int):=by omega
   have hw1:wrap64 ((k:Int)+1)=((k+1:Nat):Int):=by unfold wrap64;omega
   by_cases h0:k=0
   ·subst h0
    have HS:=Lib.hid (hJ1.out x hx)
    have hz1:(J 0).size+x.size<=1000000:=by have:=hz.out 1 hlt;rw[hJ1.out x hx,ByteArray.size_append]at this;exact this
    clear hz hJ1 hJs hcell hx hn
    go_wp2_with fail
    refine⟨⟨1,Lib.hid (by rw[HS.out]),rfl,hlt,trivial⟩,by simp[RowKit.intOf]⟩
   ·have hgt:(0:Int)<(k:Int):=by omega
    have HS:=Lib.hid (hJs.out k x (by omega) hx)
    have hz1:(J k).size+sep.size+x.size<=1000000:=by have:=hz.out (k+1) hlt;rw[hJs.out k x (by omega) hx,ByteArray.size_append,ByteArray.size_append]at this;exact this
    clear hz hJ1 hJs hcell hx hn h0
    go_wp2_with fail
    refine⟨⟨k+1,Lib.hid (by rw[HS.out]),by first|rfl|go_num,hlt,trivial⟩,by simp[RowKit.intOf]<;>omega⟩
  ·obtain rfl:k=n:=by omega
   go_wp2_with fail
   go_ret
   exact⟨rfl,Below.refl _ _⟩
theorem Lc:∀args w,(callFunc 71 args).run Tryz.prog w=.ok (.enter 71 args) w:=enters_of Tryz.func71 (by kernel_rfl) rfl
theorem KF {ts:List ByteArray}{k:Nat}{x:ByteArray}(h0:0<k)(hx:ts[k]? =some x):Ps.bB (ts.take (k+1))=Ps.bB (ts.take k)++⟨#[32]⟩++x:=by
 have hl:=(List.getElem?_eq_some_iff.1 hx).1
 rw[eT,eT,List.take_add_one,hx,fJ (by intro h;have:=congrArg List.length h;rw[List.length_take,List.length_nil]at this;omega)]
 show D8 (ts.take k)++dG [x]=_
 have e:dG [x]=⟨#[32]⟩++x:=by
  apply ByteArray.ext
  apply Array.toList_inj.1
  simp[dG]
 rw[e,ByteArray.append_assoc]
theorem Kh (ts:List ByteArray):∀k,(Ps.bB (ts.take k)).size<=(Ps.bB ts).size:=λk=>by
 by_cases h0:ts.take k=[]
 ·rw[h0]
  exact Nat.zero_le _
 ·have e:=congrArg Ps.bB (List.take_append_drop k ts)
  rw[eT,fJ h0]at e
  rw[<-e,eT,ByteArray.size_append]
  omega
theorem C8 {B:Nat}{W:World}{cell:Nat->Nat->Value}{l:List SB}(h0:0<l.length)(hl:l.length<=1000)(hz:(Ps.bB (l.map st)).size<=2000):aL B W cell 71 [.sl l,.s (1,⟨#[32]⟩)] (.str 2000 (Ps.bB (l.map st))):=⟨Lc,hz,λvals w _ hd=>by
 obtain⟨v,v2,rfl,⟨B',hv⟩,hv2⟩:=Ov hd
 have hv2:v2=.string (st (1,⟨#[32]⟩)):=hv2
 rw[show st (1,(⟨#[32]⟩:ByteArray))=⟨#[32]⟩from bW (Nat.le_refl 1)]at hv2
 subst hv2
 obtain⟨bk,c,rfl,hbk,hcell⟩:=fT hv h0
 have hcap:=I7 hv
 have hlm:(l.map st).length=l.length:=List.length_map _
 have key:=Pq w bk l.length c (l.map st) ⟨#[32]⟩ (λk=>Ps.bB ((l.map st).take k)) (Lib.hid hlm.symm) hl hcap.2 (Lib.hid λj x hj=>hcell j _ (by rw[List.getElem?_map,hj];rfl)) (Lib.hid rfl) (Lib.hid λx hx=>by
  show Ps.bB ((l.map st).take 1)=Ps.bB []++x
  rw[List.take_add_one,hx]
  show Ps.bB [x]=_
  rw[eT,eT]
  apply ByteArray.ext
  apply Array.toList_inj.1
  simp[D8,dG]) (Lib.hid λk x h0 hx=>KF h0 hx) (Lib.hid λk _=>Nat.le_trans (Kh _ k) (by omega))
 have e:(l.map st).take l.length=l.map st:=by rw[<-hlm,List.take_length]
 rw[e]at key
 exact key.mono λe w' ⟨h1,h2⟩=>⟨_,h1,rfl,h2⟩⟩
def spB:ByteArray:=⟨#[32]⟩
def roS (i:Ps.Ins):List SB:=sJ i++i.links.map (lk1 spB)++ls i.reserve [wb Ps.aY]++ls i.hold [wb Ps.bU]
noncomputable def roC:Code:=Ev.nC (Tryz.f130.body.getD .skip)
noncomputable def roRes (i:Ps.Ins)(rows:List (Option (Nat×Nat)×List Value))(f:FuncId)(us:List PV):Option Rv:=match us with
 |[.a 0 0 16,.s _]=>if f=171 then some (.sls (i.links.map (lk1 spB)))else none
 |_=>BD rows f us
noncomputable def roM (B:Nat)(W:World)(g:Nat)(i:Ps.Ins)(rows:List (Option (Nat×Nat)×List Value)):Mem:={seX B W [g] 40 rows (roRes i rows)with big:=true}
theorem SL:∀args w,(callFunc 171 args).run Tryz.prog w=.ok (.enter 171 args) w:=enters_of Tryz.func171 (by kernel_rfl) rfl
theorem NY:∀args w,(callFunc 130 args).run Tryz.prog w=.ok (.enter 130 args) w:=enters_of Tryz.func130 (by kernel_rfl) rfl
theorem QI:∀args w,(callFunc 72 args).run Tryz.prog w=.ok (.enter 72 args) w:=enters_of Tryz.func72 (by kernel_rfl) rfl
structure RiF (W0:World)(i:Ps.Ins)(sa:Option Addr)(sn sc:Nat):Prop where
 ok:Ps.jW bM.valid i
 sz:o8 (fZ i)
 len:sn=i.links.length
 put:dI W0 sa sn i.links
theorem RiF.below {W0 W:World}{i:Ps.Ins}{sa:Option Addr}{sn sc:Nat}(h:RiF W0 i sa sn sc)(hb:Below W0.heap.size W0 W):RiF W i sa sn sc:=⟨h.ok,h.sz,h.len,h.put.below hb⟩
theorem oK {B:Nat}{W:World}{cell:Nat->Nat->Value}{u:PV}{q:Int}(hu:eG cell u=some (.int .i64 q))(h:0<=q/\q<=Ps.bJ):aL B W cell 77 [u] (.str 20 (Ps.bH q)):=by
 have h2:=h.2
 unfold Ps.bJ at h2
 obtain⟨n,rfl⟩:∃n:Nat,q=n:=⟨q.toNat,by omega⟩
 exact gp OI hu (λw _=>Lf n (by omega) w) (kF n (by omega))
theorem Ad {B:Nat}{W:World}{cell:Nat->Nat->Value}{u:PV}{q:Int}(hu:eG cell u=some (.int .i64 q))(h:0<=q/\q<=Ps.bJ):aL B W cell 74 [u] (.str 20 (Ps.bO q)):=by
 have h2:=h.2
 have h3:=Ps.iI h.2
 unfold Ps.bJ at h2
 obtain⟨n,rfl⟩:∃n:Nat,q=n:=⟨q.toNat,by omega⟩
 exact gp J6 hu (λw _=>R4 n (by omega) w) (by omega)
theorem JD {B:Nat}{W:World}{cell:Nat->Nat->Value}{u:PV}{q:Int}(hu:eG cell u=some (.int .i64 q))(h:0<=q/\q<=2):aL B W cell 76 [u] (.str 10 (Ps.bw (Ps.bX q))):=by
 have h3:q=0\/q=1\/q=2:=by omega
 exact gp Oc hu (λw _=>Ch w q h3) (by rcases h3 with rfl|rfl|rfl<;>decide)
theorem wO {B:Nat}{W:World}{cell:Nat->Nat->Value}{u:PV}{q:Int}(hu:eG cell u=some (.int .i64 q))(h:0<=q/\q<=Ps.bP):aL B W cell 75 [u] (.str 10 (Ps.ae q)):=gp Pm hu (λw _=>LZ q h.1 h.2 w) (ny q h.1 h.2)
theorem S9 {i:Ps.Ins}(h:i.links.length<=8):(roS i).length<=13:=by
 unfold roS
 have:=qG i
 rw[List.length_append,List.length_append,List.length_append,List.length_map]
 have h1:(ls i.reserve [wb Ps.aY]).length<=1:=by cases i.reserve<;>simp[ls]
 have h2:(ls i.hold [wb Ps.bU]).length<=1:=by cases i.hold<;>simp[ls]
 omega
theorem Na {b:Bool}{p q:Prop}(h:b=true->p/\q):All (cond b [p,q] []):=by
 cases b with
 |true=>exact⟨(h rfl).1,(h rfl).2,trivial⟩
 |false=>trivial
theorem FH (b:Bool)(x l:List SB):(oA b x l).length<=l.length+x.length:=by
 cases b<;>simp[oA]
theorem RJ (i:Ps.Ins)(l:List SB):oA i.hold [wb Ps.bU] (oA i.reserve [wb Ps.aY] (oA i.partial_ [wb Ps.aK,(20,Ps.bH i.minLot)] (oA (!(decide (i.priority=0))) [(10,Ps.bw (Ps.bX i.priority))] l)++i.links.map (lk1 spB)))=l++roS i:=by
 simp only[JG,roS,sJ,List.append_assoc]
theorem GG (B:Nat)(W0:World)(hB0:B=W0.heap.size)(i:Ps.Ins)(sa:Option Addr)(sn sc:Nat)(hF0:RiF W0 i sa sn sc)(w:World)(hw:Below B W0 w)(y:Value)(l:List SB)(hl:l.length<=1000)(hy:w.ownsRow B 9 1 y l.length ((l.map st).map .string)):
 Calls Tryz.prog 130 #[.agg (aA i (.slice sa sn sc)).toArray,y] w λe w'=>∃z,e=.returned z/\w'.ownsRow B 9 1 z (l++roS i).length (((l++roS i).map st).map .string)/\Below B w w':=by
 subst hB0
 have hBw:=hw.size
 go_enter Tryz.func130,Tryz.ntmps130
 refine gq λa ha hdf=>?_
 refine wp_seq ?_
 have hb0:Below w.heap.size w (w.alloc (.cells (aA i (.slice sa sn sc)).toArray 24)):=(Below.refl _ _).alloc (Nat.le_refl _) _
 refine wp_region_lit ?_
 refine dE (d:=2) (w':=w.alloc (.cells (aA i (.slice sa sn sc)).toArray 24)) (u:=.pointer (some ⟨w.heap.size,0,none⟩)) rfl rfl (vR w i sa sn sc rfl (eval_at (by rw[ha];rfl))) ?_
 refine dE (d:=4) (w':=w.alloc (.cells (aA i (.slice sa sn sc)).toArray 24)) (u:=.slice none 0 0) rfl rfl (by unfold execOp;rfl) ?_
 refine aT ?_
 have hr:(w.alloc (.cells (aA i (.slice sa sn sc)).toArray 24)).heap[w.heap.size]? =some (.cells (aA i (.slice sa sn sc)).toArray 24 (0,0)):=aC w _
 have hlt:w.heap.size<(w.alloc (.cells (aA i (.slice sa sn sc)).toArray 24)).heap.size:=(Array.getElem?_eq_some_iff.1 hr).1
 have hy1:=own_below hy hb0
 have hne:∀q,y.ownBlock=some q->q∉[w.heap.size]:=λq hq hm=>by
  rw[List.mem_singleton]at hm
  subst hm
  have:=(World.ownsRow.lt hy _ hq).2
  omega
 have hbb:Below W0.heap.size w (w.alloc (.cells (aA i (.slice sa sn sc)).toArray 24)):=hb0.mono hBw
 have hbW:=hw.trans hbb
 generalize w.alloc (.cells (aA i (.slice sa sn sc)).toArray 24)=W at hbW hbb hr hlt hy1⊢
 have hF:=hF0.below hbW
 have hs:=hF0.sz
 have hi:=hF0.ok
 have hR:RowsIn W W0.heap.size 40 [w.heap.size] (aJ w.heap.size i (.slice sa sn sc)):=⟨⟨rfl,.inr (List.mem_singleton.2 rfl),⟨_,hr⟩,iU (λx e=>by cases e) hs.iref hs.isender hs.icp hs.iasset⟩,trivial⟩
 have hO:Ok Tryz.prog (roM W0.heap.size W w.heap.size i (aJ w.heap.size i (.slice sa sn sc))):=(mP (by omega) (λg hg=>by rw[List.mem_singleton]at hg;omega) (λk g o l h=>by
  obtain⟨rfl,h2,⟨t,h3⟩,_⟩:=cB hR k g o l h
  exact⟨h2,bv h3⟩) λk p l h=>(cB hR k p.1 p.2 l h).2.2.2).big
 have hpl:=qG i
 have h8:=hi.links
 refine bE (M:=roM W0.heap.size W w.heap.size i (aJ w.heap.size i (.slice sa sn sc))) (n:=37) (code:=roC) (K:=[(1,.sl l),(2,.p 0 0)]) hO [4] (us:=[.sl (oA i.hold [wb Ps.bU] (oA i.reserve [wb Ps.aY] (oA i.partial_ [wb Ps.aK,(20,Ps.bH i.minLot)] (oA (!(decide (i.priority=0))) [(10,Ps.bw (Ps.bX i.priority))] l)++i.links.map (lk1 spB))))])
  (ps:=cond (!(decide (i.priority=0))) [aL W0.heap.size W (Ev.aM (aJ w.heap.size i (.slice sa sn sc))) 76 [.r 0 10] (.str 10 (Ps.bw (Ps.bX i.priority))),l.length+1<=1000000] []++(cond i.partial_ [aL W0.heap.size W (Ev.aM (aJ w.heap.size i (.slice sa sn sc))) 77 [.r 0 12] (.str 20 (Ps.bH i.minLot)),(oA (!(decide (i.priority=0))) [(10,Ps.bw (Ps.bX i.priority))] l).length+2<=1000000] []++([aL W0.heap.size W (Ev.aM (aJ w.heap.size i (.slice sa sn sc))) 171 [.a 0 0 16,.s (1,spB)] (.sls (i.links.map (lk1 spB))),(oA i.partial_ [wb Ps.aK,(20,Ps.bH i.minLot)] (oA (!(decide (i.priority=0))) [(10,Ps.bw (Ps.bX i.priority))] l)).length+(i.links.map (lk1 spB)).length<=1000000]++(cond i.reserve [(oA i.partial_ [wb Ps.aK,(20,Ps.bH i.minLot)] (oA (!(decide (i.priority=0))) [(10,Ps.bw (Ps.bX i.priority))] l)++i.links.map (lk1 spB)).length+1<=1000000] []++cond i.hold [(oA i.reserve [wb Ps.aY] (oA i.partial_ [wb Ps.aK,(20,Ps.bH i.minLot)] (oA (!(decide (i.priority=0))) [(10,Ps.bw (Ps.bX i.priority))] l)++i.links.map (lk1 spB))).length+1<=1000000] []))))
  (by
   have hp:=hi.prio
   clear hO hR hr hlt hy1 hne hbb hbW hF hs hi hpl h8 hb0 hy hl hw hBw hF0 ha hdf
   obtain⟨ref,kind,sender,cp,side,asset,qty,am,td,sd,pr,pa,ml,ho,re,li⟩:=i
   have h3:pr=0\/pr=1\/pr=2:=by
    have h4:0<=pr/\pr<=2:=hp
    omega
   clear hp
   rcases h3 with rfl|rfl|rfl<;>cases pa<;>cases re<;>cases ho<;>(show _=_;kernel_rfl))
  ?_ (aF (aF (aZ (by rw[ha];rfl) hdf) (t:=2) (u:=.p 0 0) (v:=.pointer (some ⟨w.heap.size,0,none⟩)) (by rw[ha];rfl) rfl) (t:=1) (u:=.sl l) (v:=y) (by rw[ha];rfl) (pJ (M:=roM W0.heap.size W w.heap.size i (aJ w.heap.size i (.slice sa sn sc))) hy1 hne)) (Sw.start _) ?_
 ·have q1:=FH (!(decide (i.priority=0))) [(10,Ps.bw (Ps.bX i.priority))] l
  have q2:=FH i.partial_ [wb Ps.aK,(20,Ps.bH i.minLot)] (oA (!(decide (i.priority=0))) [(10,Ps.bw (Ps.bX i.priority))] l)
  have q3:=FH i.reserve [wb Ps.aY] (oA i.partial_ [wb Ps.aK,(20,Ps.bH i.minLot)] (oA (!(decide (i.priority=0))) [(10,Ps.bw (Ps.bX i.priority))] l)++i.links.map (lk1 spB))
  rw[List.length_append]at q3
  have q4:(i.links.map (lk1 spB)).length<=8:=by rw[List.length_map];exact h8
  simp only[List.length_cons,List.length_nil]at q1 q2 q3
  refine fo (Na λ_=>⟨JD rfl hi.prio,by omega⟩) (fo (Na λh=>⟨oK rfl (by have h1:=hi.lot h;have h2:=hi.qty (by have:=hi.part h;omega);omega),by omega⟩) (fo ⟨⟨SL,trivial,λvals w' hw' hd=>?_⟩,by omega,trivial⟩ (fo (jF λ_=>by rw[List.length_append];omega) (jF λ_=>by omega))))
  obtain⟨v,v2,rfl,hv,hv2⟩:=Ov hd
  have hv:v=.agg (aA i (.slice sa sn sc)).toArray:=hv
  have hv2:v2=.string (st (1,spB)):=hv2
  rw[show st (1,spB)=spB from bW (by decide)]at hv2
  subst hv hv2
  exact NU w' i spB (by decide) hs h8 (λx hx=>⟨(hi.link x hx).1,by have:=(di (by omega) (hi.link x hx).2).2;omega⟩) sa sn sc hF.len (hF0.put.below (hbW.trans hw'))
 ·intro b w' _ hd hv hS
  refine qB rfl hd hv λv hv=>⟨v,rfl,?_,hbb.trans hS.to⟩
  rw[RJ]at hv
  exact hv
noncomputable def rsS (i:Ps.Ins):List SB:=if i.kind=3\/i.kind=4 then pgS i else if i.kind=0 then pyS i++roS i else pdS i++roS i
noncomputable def rsRes (i:Ps.Ins)(rows:List (Option (Nat×Nat)×List Value))(f:FuncId)(us:List PV):Option Rv:=r20N (λ_=>(8,Ps.bw (if i.kind=3 then Ps.eP else Ps.dN))) rows f us
def rsResC (i:Ps.Ins)(f:FuncId)(us:List PV)(l:List SB):Option (List SB):=match us with
 |[.a 0 0 16]=>if f=130 then some (l++roS i)else none
 |_=>none
noncomputable def rsM (W:World)(i:Ps.Ins)(rows:List (Option (Nat×Nat)×List Value)):Mem:=seX W.heap.size W [] 40 rows (rsRes i rows) (rsResC i)
theorem rsM_ok {W:World}{i:Ps.Ins}{rows:List (Option (Nat×Nat)×List Value)}(hr:RowsIn W W.heap.size 40 [] rows):Ok Tryz.prog (rsM W i rows):=
 mP (Nat.le_refl _) (λg hg=>by cases hg) (λk g o l h=>by
  obtain⟨rfl,h2,⟨t,h3⟩,_⟩:=cB hr k g o l h
  exact⟨h2,bv h3⟩) λk p l h=>(cB hr k p.1 p.2 l h).2.2.2
noncomputable def rsC:Code:=Ev.nC (Tryz.f72.body.getD .skip)
theorem TF (i:Ps.Ins):(pyS i).length=10:=rfl
theorem Lb (w:World)(i:Ps.Ins)(sa:Option Addr)(sn sc:Nat)(hF:RiF w i sa sn sc):tu 72 #[.agg (aA i (.slice sa sn sc)).toArray] w (rsS i):=by
 unfold tu
 go_enter Tryz.func72,Tryz.ntmps72
 refine gq λa ha hdf=>?_
 refine wp_seq ?_
 have hb:Below w.heap.size w (w.alloc (.cells (aA i (.slice sa sn sc)).toArray 24)):=(Below.refl _ _).alloc (Nat.le_refl _) _
 refine rO rfl rfl rfl rfl rfl (by decide) (by rw[ha];show 1<91;decide) (by rw[ha];show 2<91;decide) (vR w i sa sn sc rfl (eval_at (by rw[ha];rfl))) λb b1 b2 b3 b4=>?_
 have hr:(w.alloc (.cells (aA i (.slice sa sn sc)).toArray 24)).heap[w.heap.size]? =some (.cells (aA i (.slice sa sn sc)).toArray 24 (0,0)):=aC w _
 generalize w.alloc (.cells (aA i (.slice sa sn sc)).toArray 24)=W at hb hr⊢
 have zD:=hF.below hb
 have hi:=hF.ok
 have hs:=hF.sz
 have hR:RowsIn W W.heap.size 40 [] (aJ w.heap.size i (.slice sa sn sc)):=⟨⟨rfl,.inl (Array.getElem?_eq_some_iff.1 hr).1,⟨_,hr⟩,iU (λx e=>by cases e) hs.iref hs.isender hs.icp hs.iasset⟩,trivial⟩
 have hO:Ok Tryz.prog (rsM W i (aJ w.heap.size i (.slice sa sn sc))):=rsM_ok hR
 have qY:FrP (rsM W i (aJ w.heap.size i (.slice sa sn sc))) 91 [(1,.p 0 0),(2,.sl [])] b W:=aF (aF (aZ (b2.trans (by rw[ha];rfl)) (b1.trans hdf)) b4 (sj (.slice none 0 0) W _)) b3 rfl
 have hdl:=vF i
 have P0:∀(cell:Nat->Nat->Value) (l:List SB),l.length<=1000->eG cell (.a 0 0 16)=some (.agg (aA i (.slice sa sn sc)).toArray)->BB W.heap.size W cell 130 [.a 0 0 16] l (l++roS i):=λcell l hl he=>⟨NY,λvals y w' _ hw' hd hy=>by
  obtain⟨v,rfl,hv⟩:=Oj hd
  obtain rfl:=jQ he hv
  exact GG W.heap.size W rfl i sa sn sc zD w' hw' y l hl hy⟩
 have fin:∀(us:List SB) (a:Act) (w':World),us=rsS i->a.defers=[]->kS (rsM W i (aJ w.heap.size i (.slice sa sn sc))) [2] [.sl us] a w'->Sw (rsM W i (aJ w.heap.size i (.slice sa sn sc))) w'->bodyPost Tryz.prog Tryz.f72 (λe w'=>∃y,e=.returned y/\w'.ownsRow w.heap.size 9 1 y (rsS i).length (((rsS i).map st).map .string)/\Below w.heap.size w w') .ret a w':=λus a w' Hd hd hv hS=>by
  subst Hd
  exact qB rfl hd hv λv hv=>⟨v,rfl,dA hv hb.size,hb.trans ((az (M:=rsM W i (aJ w.heap.size i (.slice sa sn sc))) rfl hS).mono hb.size)⟩
 by_cases hk0:i.kind=0
 ·refine bE (M:=rsM W i (aJ w.heap.size i (.slice sa sn sc))) (n:=91) (code:=rsC) (K:=[(1,.p 0 0),(2,.sl [])]) hO [2] (us:=[.sl (pyS i++roS i)])
   (ps:=[aL W.heap.size W (Ev.aM (aJ w.heap.size i (.slice sa sn sc))) 74 [.r 0 7] (.str 20 (Ps.bO i.amount)),aL W.heap.size W (Ev.aM (aJ w.heap.size i (.slice sa sn sc))) 75 [.r 0 9] (.str 10 (Ps.ae i.settleDay)),BB W.heap.size W (Ev.aM (aJ w.heap.size i (.slice sa sn sc))) 130 [.a 0 0 16] (pyS i) (pyS i++roS i)])
   (by
    clear fin hr hb ha hdf b1 b2 b3 b4 hs hi zD hF hR hO qY P0 hdl
    obtain⟨ref,kind,sender,cp,side,asset,qty,am,td,sd,pr,pa,ml,ho,re,li⟩:=i
    have hk0:kind=0:=hk0
    subst hk0
    show _=_
    kernel_rfl) ⟨Ad rfl (by have:=hi.am (by omega);omega),wO rfl hi.settle,P0 _ _ (by rw[TF];omega) rfl,trivial⟩ qY (Sw.start _) ?_
  exactλa w' _ hd hv hS=>fin _ a w' (by unfold rsS;rw[if_neg (by omega),if_pos hk0]) hd hv hS
 by_cases hk3:i.kind=3\/i.kind=4
 ·refine bE (M:=rsM W i (aJ w.heap.size i (.slice sa sn sc))) (n:=91) (code:=rsC) (K:=[(1,.p 0 0),(2,.sl [])]) hO [2] (us:=[.sl (pgS i)])
   (ps:=[aL W.heap.size W (Ev.aM (aJ w.heap.size i (.slice sa sn sc))) 73 [.sl [(6,⟨#[112,108,101,100,103,101]⟩),(7,⟨#[114,101,108,101,97,115,101]⟩)],.v (.int .i64 (IntKind.i64.wrap (i.kind-3)))] (.str 8 (Ps.bw (if i.kind=3 then Ps.eP else Ps.dN))),aL W.heap.size W (Ev.aM (aJ w.heap.size i (.slice sa sn sc))) 77 [.r 0 6] (.str 20 (Ps.bH i.quantity)),aL W.heap.size W (Ev.aM (aJ w.heap.size i (.slice sa sn sc))) 75 [.r 0 9] (.str 10 (Ps.ae i.settleDay))])
   (by
    clear fin hr hb ha hdf b1 b2 b3 b4 hs hi zD hF hR hO qY P0 hdl hk0
    obtain⟨ref,kind,sender,cp,side,asset,qty,am,td,sd,pr,pa,ml,ho,re,li⟩:=i
    have hk3:kind=3\/kind=4:=hk3
    rcases hk3 with rfl|rfl<;>(show _=_;kernel_rfl)) ⟨by
     rcases hk3 with h|h
     ·rw[h];exact gY (j:=0) rfl (by decide) (by kernel_rfl) (by decide)
     ·rw[h];exact gY (j:=1) rfl (by decide) (by kernel_rfl) (by decide),oK rfl (by have:=hi.qty (by omega);omega),wO rfl hi.settle,trivial⟩ qY (Sw.start _) ?_
  exactλa w' _ hd hv hS=>fin _ a w' (by unfold rsS;rw[if_pos hk3]) hd hv hS
 ·have tT:i.kind=1\/i.kind=2:=by have:=hi.kind;omega
  have P4:i.kind=1->0<=i.amount/\i.amount<=Ps.bJ:=λh=>by have:=hi.am (by omega);omega
  refine bE (M:=rsM W i (aJ w.heap.size i (.slice sa sn sc))) (n:=91) (code:=rsC) (K:=[(1,.p 0 0),(2,.sl [])]) hO [2] (us:=[.sl (pdS i++roS i)])
   (ps:=aL W.heap.size W (Ev.aM (aJ w.heap.size i (.slice sa sn sc))) 77 [.r 0 6] (.str 20 (Ps.bH i.quantity))::(cond (decide (i.kind=1)) [aL W.heap.size W (Ev.aM (aJ w.heap.size i (.slice sa sn sc))) 74 [.r 0 7] (.str 20 (Ps.bO i.amount))] []++[aL W.heap.size W (Ev.aM (aJ w.heap.size i (.slice sa sn sc))) 75 [.r 0 8] (.str 10 (Ps.ae i.tradeDay)),aL W.heap.size W (Ev.aM (aJ w.heap.size i (.slice sa sn sc))) 75 [.r 0 9] (.str 10 (Ps.ae i.settleDay)),BB W.heap.size W (Ev.aM (aJ w.heap.size i (.slice sa sn sc))) 130 [.a 0 0 16] (pdS i) (pdS i++roS i)]))
   (by
    have hsd:=hi.side
    clear fin hr hb ha hdf b1 b2 b3 b4 hs hi zD hF hR hO qY P0 P4 hdl hk0 hk3
    obtain⟨ref,kind,sender,cp,side,asset,qty,am,td,sd,pr,pa,ml,ho,re,li⟩:=i
    have tT:kind=1\/kind=2:=tT
    have hsd:side=0\/side=1:=hsd
    rcases hsd with rfl|rfl<;>rcases tT with rfl|rfl<;>(show _=_;kernel_rfl)) ⟨oK rfl (by have:=hi.qty (by omega);omega),fo (jF λh=>Ad rfl (P4 (by simpa using h))) ⟨wO rfl (by have:=hi.trade tT;have:=hi.settle;omega),wO rfl hi.settle,P0 _ _ (by omega) rfl,trivial⟩⟩ qY (Sw.start _) ?_
  exactλa w' _ hd hv hS=>fin _ a w' (by unfold rsS;rw[if_neg hk3,if_neg hk0]) hd hv hS
open Go.RowKit
open Go.Proofs.YtnjjeapcalkmaaaGreatDoor.Ord
open Go.Proofs.YtnjjeapcalkmaaaGreatDoor.Ev (AV Mem Fr lX aM fe Sh Stop Qof aX cK bL fU mJ fmC)
theorem cm_neL (x y:Operand)(n m:Int)(s t:ByteArray)(w:World):(do eqGuard .neq 91 x y (.agg #[.int .i64 n,.string s]) (.agg #[.int .i64 m,.string t]);binOp .neq 91 (.agg #[.int .i64 n,.string s]) (.agg #[.int .i64 m,.string t]):Sem Value).run Tryz.prog w=.ok (.bool (!(decide (n=m)&&(s.toList==t.toList)))) w:=by
 go_simp
 repeat' split
 all_goals simp_all
def zZ (rows:List (Option (Nat×Nat)×List Value))(o:Oper)(ov:Operand->Option AV):Option AV:=match o.op with
 | .indexAddr t x y=>if t=22 then(match ov x,ov y with
   |some (.r p 15),some (.r 1 0)=>if p=0\/p=2 then(match aM rows p 15,aM rows 1 0 with
    | .slice _ _ _,.int .i64 _=>some (.p (if p=0 then 3 else 4) 0)
    |_,_=>none)else none
   |_,_=>none)else none
 | .binOp .neq t x y _=>if t=91 then(match ov x,ov y with
   |some (.a p 0 2),some (.a q 0 2)=>(match aM rows p 0,aM rows p 1,aM rows q 0,aM rows q 1 with
    | .int .i64 n,.string s,.int .i64 m,.string t=>some (.v (.bool (!(decide (n=m)&&(s.toList==t.toList)))))
    |_,_,_,_=>none)
   |_,_=>none)else none
 |_=>Ah rows o ov
def xQ (rows:List (Option (Nat×Nat)×List Value)):Mem Unit:=lX qU rows (λ_ _=>none) (zZ rows)
theorem EM {rows:List (Option (Nat×Nat)×List Value)}{S:World->Prop}(hrow:∀(k b o:Nat) (l:List Value),rows[k]? =some (some (b,o),l)->∀w,S w->∀(j:Nat) (v:Value),l[j]? =some v->w.cell? ⟨b,o+j,none⟩=some v)
 (hix:∀(p:Nat) (sb:Option Addr) (n c:Nat) (m:Int),p=0\/p=2->aM rows p 15=.slice sb n c->aM rows 1 0=.int .i64 m->∃(b bo k:Nat),sb=some ⟨b,bo,none⟩/\m=(k:Int)/\k<n/\∃l,rows[if p=0 then 3 else 4]? =some (some (b,bo+k*2),l)):Ev.Ok Tryz.prog (λ_ w=>S w) (xQ rows):=by
 refine Ev.jw (λt f d h=>qm h) hrow (λ_ _ _ h=>by cases h) (λo ov v h ρ hov w hS=>?_)
 unfold zZ at h
 split at h
 ·rename_i t x y ho
  split at h
  ·rename_i ht
   subst ht
   split at h
   ·rename_i p h1 h2
    split at h
    ·rename_i hp
     split at h
     ·rename_i sa n c m h3 h4
      cases h
      obtain⟨b,bo,k,rfl,rfl,hk,l,h5⟩:=hix _ _ _ _ _ hp h3 h4
      have e1:ρ x=.slice (some ⟨b,bo,none⟩) n c:=(hov _ _ h1).trans h3
      have e2:ρ y=.int .i64 (k:Int):=(hov _ _ h2).trans h4
      have hb3:(Ev.j5 rows).getD (if p=0 then 3 else 4) (0,0)=(b,bo+k*2):=by simp[Ev.j5,h5]
      have hv:fe rows (.p (if p=0 then 3 else 4) 0)=.pointer (some ⟨b,bo+k*2,none⟩):=by
       show Value.pointer (some ⟨((Ev.j5 rows).getD (if p=0 then 3 else 4) (0,0)).1,((Ev.j5 rows).getD (if p=0 then 3 else 4) (0,0)).2+0,none⟩)=_
       rw[hb3]
       rfl
      have TV:(k:Int)<(n:Int):=by omega
      rw[hv]
      clear hv hb3 h5
      unfold execOp
      simp only[ho,e1,e2]
      go_simp
     ·cases h
    ·cases h
   ·cases h
  ·cases h
 ·rename_i t x y t2 ho
  split at h
  ·rename_i ht
   subst ht
   split at h
   ·rename_i p q h1 h2
    split at h
    ·rename_i n s m t k1 k2 k3 k4
     cases h
     have e1:ρ x=.agg #[.int .i64 n,.string s]:=by
      rw[hov _ _ h1]
      show Value.agg #[aM rows p (0+0),aM rows p (0+1)]=_
      rw[show aM rows p (0+0)=_ from k1,show aM rows p (0+1)=_ from k2]
     have e2:ρ y=.agg #[.int .i64 m,.string t]:=by
      rw[hov _ _ h2]
      show Value.agg #[aM rows q (0+0),aM rows q (0+1)]=_
      rw[show aM rows q (0+0)=_ from k3,show aM rows q (0+1)=_ from k4]
     unfold execOp
     simp only[ho,e1,e2]
     rw[Sem.run_bind,cm_neL]
     rfl
    ·cases h
   ·cases h
  ·cases h
 ·exact zt h hov w
noncomputable def sameB:Code:=Tryz.f43.body.getD .skip
noncomputable def oh:Code×List Ev.Fm:=aX cK sameB
def BQ (g h:Nat)(a b:Ps.Ins)(la lb:Value):List (Option (Nat×Nat)×List Value):=[(some (g,0),aA a la),(none,[]),(some (h,0),aA b lb)]
def O5 (g h:Nat)(a b:Ps.Ins)(la lb:Value)(k sb so tb t0:Nat)(y z:Ps.Link):List (Option (Nat×Nat)×List Value):=[(some (g,0),aA a la),(none,[.int .i64 k]),(some (h,0),aA b lb),(some (sb,so+k*2),[.int .i64 y.type,.string y.ref]),(some (tb,t0+k*2),[.int .i64 z.type,.string z.ref])]
theorem yQ {W:World}{sb so k:Nat}{ks:List Ps.Link}{y:Ps.Link}(h:zI W sb so ks)(hy:ks[k]? =some y):∀(j:Nat) (v:Value),([.int .i64 y.type,.string y.ref]:List Value)[j]? =some v->W.cell? ⟨sb,so+k*2+j,none⟩=some v:=by
 intro j v hv
 obtain⟨z1,z2⟩:=h k y hy
 rcases j with _|_|j
 ·cases hv;exact z1
 ·cases hv;exact z2
 ·cases hv
theorem Pf (w:World)(a0 b0:Ps.Ins)(sa ta:Option Addr)(sn sc tn tc:Nat)(x:Bool)(hb63:Hid (sn<=9223372036854775806))(hsn:Hid (sn=a0.links.length))(htn:Hid (tn=b0.links.length))
 (hlk:Hid (dI w sa sn a0.links)) (hlm:Hid (dI w ta tn b0.links))
 (hx1:Hid (¬sn=tn->x=false)) (hx2:Hid (sn=tn->(∃(j:Nat) (y z:Ps.Link),a0.links[j]? =some y/\b0.links[j]? =some z/\¬(y.type=z.type/\y.ref=z.ref))->x=false))
 (hx3:Hid (sn=tn->(∀(j:Nat) (y z:Ps.Link),a0.links[j]? =some y->b0.links[j]? =some z->y.type=z.type/\y.ref=z.ref)->x=((((((((((((((((a0.ref.toList==b0.ref.toList)&&(a0.kind==b0.kind))&&(a0.sender.toList==b0.sender.toList))&&(a0.counterparty.toList==b0.counterparty.toList))&&(a0.side==b0.side))&&(a0.asset.toList==b0.asset.toList))&&(a0.quantity==b0.quantity))&&(a0.amount==b0.amount))&&(a0.tradeDay==b0.tradeDay))&&(a0.settleDay==b0.settleDay))&&(a0.priority==b0.priority))&&(a0.partial_==b0.partial_))&&(a0.minLot==b0.minLot))&&(a0.hold==b0.hold))&&(a0.reserve==b0.reserve))))):
 Calls Tryz.prog 43 #[.agg (aA a0 (.slice sa sn sc)).toArray,.agg (aA b0 (.slice ta tn tc)).toArray] w λe w'=>e=.returned (.bool x)/\Below w.heap.size w w':=by
 go_enter Tryz.func43,Tryz.ntmps43
 refine wp_seq ?_
 refine wp_region_lit ?_
 refine wpList_plain rfl (λK hK=>?_)
 go_simp
 refine hK _ _ ?_
 clear hK K
 refine wpList_plain rfl (λK hK=>?_)
 go_simp
 refine hK _ _ ?_
 clear hK K
 refine wpList_plain rfl (λK hK=>?_)
 go_simp
 refine hK _ _ ?_
 clear hK K
 refine aT ?_
 obtain⟨Wa,hWa⟩:∃Wa,Wa=w.alloc (.cells (aA a0 (.slice sa sn sc)).toArray 24):=⟨_,rfl⟩
 obtain⟨W1,hW1⟩:∃W1,W1=Wa.alloc (.cells (aA b0 (.slice ta tn tc)).toArray 24):=⟨_,rfl⟩
 obtain⟨g,hg⟩:∃g,g=w.heap.size:=⟨_,rfl⟩
 obtain⟨h,hh⟩:∃h,h=w.heap.size+1:=⟨_,rfl⟩
 have hha:h=Wa.heap.size:=by rw[hh,hWa];simp
 have GM:Below Wa.heap.size Wa W1:=by rw[hW1];exact(Below.refl _ _).alloc (Nat.le_refl _) _
 have hrow:∀W,Below W1.heap.size W1 W->W.heap[g]? =some (.cells (aA a0 (.slice sa sn sc)).toArray 24 (0,0)):=λW hW=>by
  rw[hW.block g (by rw[hW1,hWa,hg];simp;omega),GM.block g (by rw[hWa,hg];simp),hWa,hg];exact aC w _
 have pE:∀W,Below W1.heap.size W1 W->W.heap[h]? =some (.cells (aA b0 (.slice ta tn tc)).toArray 24 (0,0)):=λW hW=>by
  rw[hW.block h (by rw[hha,hW1];simp),hW1,hha];exact aC Wa _
 have hB1:Below w.heap.size w W1:=((by rw[hWa];exact(Below.refl _ _).alloc (Nat.le_refl _) _:Below w.heap.size w Wa).trans (GM.mono (by rw[hWa];simp)))
 rw[<-hg]at hh
 rw[<-hWa,<-hW1,<-hg,<-hh]
 clear hW1 hWa hha GM hh
 refine lD rfl λa ha hdf=>?_
 have hret:∀(b:Act) (W:World),b.defers=[]->b.tmps[4]? =some (.bool x)->Below W1.heap.size W1 W->bodyPost Tryz.prog Tryz.f43 (λe w'=>e=.returned (.bool x)/\Below g w w') .ret b W:=λb W hd ht hS=>by
  refine bodyPost_ret (results_tmp rfl _ _ _) hd ?_
  rw[hg]
  exact⟨by rw[show b.tmps.getD 4 undef=.bool x from eval_at ht],hB1.trans (hS.mono hB1.size)⟩
 have hO3:Ev.Ok Tryz.prog (λ(_:Unit) W=>Below W1.heap.size W1 W) (xQ (BQ g h a0 b0 (.slice sa sn sc) (.slice ta tn tc))):=by
  refine EM (λq b o l h W hS=>?_) (λp sb n c m hp h1 h2=>?_)
  ·rcases q with _|_|_|q
   ·cases h;exact iQ hrow W hS
   ·cases h
   ·cases h;exact iQ pE W hS
   ·cases h
  ·cases h2
 have hx0:(if (((sn:Int) !=(tn:Int))=true)then false else x)=x:=by
  split
  ·rename_i h1
   exact(hx1.out (by intro h2;rw[h2]at h1;simp at h1)).symm
  ·rfl
 refine Ev.Cx (M:=xQ (BQ g h a0 b0 (.slice sa sn sc) (.slice ta tn tc))) (S:=λ_ W=>Below W1.heap.size W1 W) (n:=134) (K:=[(2,.p 0 0),(3,.p 2 0)]) (s:=()) (v:=if (((sn:Int) !=(tn:Int))=true)then false else x) (hv:=x) (l:=[(oh.1,oh.2,[some (.p 0 0),some (.p 2 0),some (.v (.int .i64 0))],(),[!((sn:Int) !=(tn:Int))])]) 4 [2,3,5] [0] hO3 (λ_ W h=>h.drew) (by kernel_rfl) (by kernel_rfl) (Ev.aH (Ev.aH (Ev.ag (by rw[ha];rfl) hdf) (by rw[ha];rfl)) (by rw[ha];rfl)) (Below.refl _ _) (λb W _ hd ht hS=>hret b W hd (by rw[<-hx0];exact ht) hS) ?_
 intro _ y hy hcs b W hst hS
 rw[List.mem_singleton]at hy
 subst hy
 have FP:sn=tn:=by
  have h8:=hcs _ (List.mem_singleton.2 rfl)
  simp at h8
  omega
 subst FP
 clear hcs hx0 hx1 ha
 obtain⟨h2,hst⟩:=hst.cons
 obtain⟨h3,hst⟩:=hst.cons
 obtain⟨h5,hst⟩:=hst.cons
 have e1:oh.1=.loop (fU oh.1):=by kernel_rfl
 have e2:oh.2=[.bl 0,.sq (fmC oh.2 1)]:=by kernel_rfl
 show oh.1.wp Tryz.prog (Qof Tryz.prog oh.2 _) b W
 rw[e1,e2]
 refine wp_loop (λa w=>∃k:Nat,k<=sn/\a.tmps.size=134/\a.defers=[]/\a.tmps[2]? =some (.pointer (some ⟨g,0,none⟩))/\a.tmps[3]? =some (.pointer (some ⟨h,0,none⟩))/\a.tmps[5]? =some (.int .i64 (k:Int))/\Below W1.heap.size W1 w/\∀(j:Nat) (y z:Ps.Link),j<k->a0.links[j]? =some y->b0.links[j]? =some z->y.type=z.type/\y.ref=z.ref) (λa _=>match a.tmps[5]? with|some (Value.int _ k)=>sn-k.toNat|_=>0) ⟨0,Nat.zero_le _,hst.1,hst.2.1,h2,h3,h5,hS,λj _ _ hj=>absurd hj (Nat.not_lt_zero _)⟩ ?_
 clear hst h2 h3 h5 hS hdf
 rintro b W ⟨k,hk,hsz,hdf,h2,h3,h5,hS,heq⟩
 have hm:(match b.tmps[5]? with|some (Value.int _ k)=>sn-k.toNat|_=>0)=sn-k:=by rw[h5];simp
 rw[hm]
 rcases Nat.lt_or_ge k sn with hkn|hge
 ·obtain⟨y,hy⟩:∃y,a0.links[k]? =some y:=⟨_,List.getElem?_eq_getElem (by rw[<-hsn.out];exact hkn)⟩
  obtain⟨z,hz⟩:∃z,b0.links[k]? =some z:=⟨_,List.getElem?_eq_getElem (by rw[<-htn.out];exact hkn)⟩
  obtain⟨sb,so,rfl,hlr⟩:=hlk.out (by omega)
  obtain⟨tb,t0,rfl,hmr⟩:=hlm.out (by omega)
  have hO5:Ev.Ok Tryz.prog (λ(_:Unit) W=>Below W1.heap.size W1 W) (xQ (O5 g h a0 b0 (.slice (some ⟨sb,so,none⟩) sn sc) (.slice (some ⟨tb,t0,none⟩) sn tc) k sb so tb t0 y z)):=by
   refine EM (λq b o l h W hS=>?_) (λp sb2 n c m hp h1 h2=>?_)
   ·rcases q with _|_|_|_|_|q
    ·cases h;exact iQ hrow W hS
    ·cases h
    ·cases h;exact iQ pE W hS
    ·cases h;exact yQ (hlr W (hB1.trans (hS.mono hB1.size))) hy
    ·cases h;exact yQ (hmr W (hB1.trans (hS.mono hB1.size))) hz
    ·cases h
   ·cases h2
    rcases hp with rfl|rfl
    ·cases h1;exact⟨sb,so,k,rfl,rfl,hkn,_,rfl⟩
    ·cases h1;exact⟨tb,t0,k,rfl,rfl,hkn,_,rfl⟩
  have hw1:IntKind.i64.wrap ((k:Int)+1)=((k+1:Nat):Int):=by have:=hb63.out;rw[IntWalk.i64_in _ (by omega)];rfl
  refine Ev.rX (M:=xQ (O5 g h a0 b0 (.slice (some ⟨sb,so,none⟩) sn sc) (.slice (some ⟨tb,t0,none⟩) sn tc) k sb so tb t0 y z)) (S:=λ_ W=>Below W1.heap.size W1 W) (n:=134) (K:=[(2,.p 0 0),(3,.p 2 0),(5,.r 1 0)]) (s:=()) [2,3,5,4]
   (.ite (decide ((k:Int)<(sn:Int))) (.ite (!(decide (y.type=z.type)&&(y.ref.toList==z.ref.toList))) (.ret [some (.p 0 0),some (.p 2 0),some (.r 1 0),some (.v (.bool false))] ()) (.nx [some (.p 0 0),some (.p 2 0),some (.v (.int .i64 (IntKind.i64.wrap ((k:Int)+1)))),none] ())) (.out 0 [some (.p 0 0),some (.p 2 0),some (.r 1 0),none] ()))
   hO5 (λ_ _ h=>h.drew) (by kernel_rfl) (Ev.aH (Ev.aH (Ev.aH (Ev.ag hsz hdf) h5) h3) h2) hS ⟨λc1=>⟨λc2 b W hst hS=>?_,λc2 b W hst hS=>?_⟩,λc1 b W hst hS=>absurd c1 (by simp;omega)⟩
  ·refine hret b W hst.2.1 ?_ hS
   rw[hx2.out rfl ⟨k,y,z,hy,hz,λ⟨q1,q2⟩=>by rw[q1,q2]at c2;simp at c2⟩]
   exact hst.2.2 3 4 _ rfl rfl
  ·obtain⟨f2,hst⟩:=hst.cons
   obtain⟨f3,hst⟩:=hst.cons
   obtain⟨f5,hst⟩:=hst.cons
   have f5':b.tmps[5]? =some (.int .i64 ((k+1:Nat):Int)):=by rw[<-hw1];exact f5
   refine⟨⟨k+1,hkn,hst.1,hst.2.1,f2,f3,f5',hS,λj y2 z2 hj hy2 hz2=>?_⟩,?_⟩
   ·rcases Nat.lt_or_ge j k with h1|h1
    ·exact heq j y2 z2 h1 hy2 hz2
    ·obtain rfl:j=k:=by omega
     rw[hy]at hy2;rw[hz]at hz2
     cases hy2;cases hz2
     have c3:(decide (y.type=z.type)&&(y.ref.toList==z.ref.toList))=true:=by cases hq:(decide (y.type=z.type)&&(y.ref.toList==z.ref.toList))with|true=>rfl|false=>rw[hq]at c2;cases c2
     rw[Bool.and_eq_true]at c3
     exact⟨of_decide_eq_true c3.1,bytes_inj c3.2⟩
   ·rw[f5'];simp;omega
 ·refine Ev.rX (M:=xQ (BQ g h a0 b0 (.slice sa sn sc) (.slice ta sn tc))) (S:=λ_ W=>Below W1.heap.size W1 W) (n:=134) (K:=[(2,.p 0 0),(3,.p 2 0),(5,.v (.int .i64 (k:Int)))]) (s:=()) [2,3] (.ite (decide ((k:Int)<(sn:Int))) (.go (aX (bL 6) (fU oh.1)) [some (.p 0 0),some (.p 2 0)] ()) (.out 0 [some (.p 0 0),some (.p 2 0)] ())) hO3 (λ_ _ h=>h.drew) (by kernel_rfl) (Ev.aH (Ev.aH (Ev.aH (Ev.ag hsz hdf) h5) h3) h2) hS ⟨λc1 b W hst hS=>absurd c1 (by simp;omega),λc1 b W hst hS=>?_⟩
  obtain⟨f2,hst⟩:=hst.cons
  obtain⟨f3,hst⟩:=hst.cons
  show(fmC oh.2 1).wp Tryz.prog _ b W
  have hx4:=hx3.out rfl (λj y z hy hz=>heq j y z (by have:=(List.getElem?_eq_some_iff.1 hy).1;have:=hsn.out;omega) hy hz)
  refine Ev.JR (M:=xQ (BQ g h a0 b0 (.slice sa sn sc) (.slice ta sn tc))) (S:=λ_ W=>Below W1.heap.size W1 W) (n:=134) (K:=[(2,.p 0 0),(3,.p 2 0)]) (s:=()) (v:=x) 4 hO3 (λ_ _ h=>h.drew) (by rw[hx4];kernel_rfl) (by kernel_rfl) (Ev.aH (Ev.aH (Ev.ag hst.1 hst.2.1) f3) f2) hS λb W _ h1 h2 h3=>hret b W h1 h2 h3
open Go.Proofs.YtnjjeapcalkmaaaGreatDoor.Ev (AV Mem Fr lX aM fe Sh Stop)
theorem ent37:∀args w,(callFunc 42 args).run Tryz.prog w=.ok (.enter 42 args) w:=enters_of Tryz.func42 (by kernel_rfl) rfl
theorem ent33:∀args w,(callFunc 43 args).run Tryz.prog w=.ok (.enter 43 args) w:=enters_of Tryz.func43 (by kernel_rfl) rfl
theorem ent38:∀args w,(callFunc 44 args).run Tryz.prog w=.ok (.enter 44 args) w:=enters_of Tryz.func44 (by kernel_rfl) rfl
theorem bd36 (ρ:Operand->Value)(w:World):(Instr.build 26 ((#[]:Array (Nat×Operand)).map λ(i,x)=>(i,ρ x))).run Tryz.prog w=.ok (.agg (aG {}).toArray) w:=by
 go_simp
 rfl
theorem bd35 (ρ:Operand->Value)(w:World):(Instr.build 24 ((#[]:Array (Nat×Operand)).map λ(i,x)=>(i,ρ x))).run Tryz.prog w=.ok (.agg (aA {} (.slice none 0 0)).toArray) w:=by
 go_simp
 rfl
theorem ne36 (_u:Nat)(A:Ps.Amd)(x y:Operand)(w:World):(do eqGuard .neq 26 x y (.agg (aG A).toArray) (.agg (aG {}).toArray);binOp .neq 26 (.agg (aG A).toArray) (.agg (aG {}).toArray):Sem Value).run Tryz.prog w=.ok (.bool (!decide A.none)) w:=by
 unfold aG
 go_simp
 repeat' split
 all_goals simp_all [Ps.Amd.none]
def CB (t:TypeId)(f:Nat):Option Nat:=if t=28 then(if f<4 then some f else if f=4 then some 19 else none)else if t=24/\f<16 then some f else none
def TG (g:Nat)(Q:Ps.Req)(lv:Value):List (Option (Nat×Nat)×List Value):=[(some (g,0),oN Q lv),(none,aA {} (.slice none 0 0)),(none,aG {})]
def JK (V:Nat->ByteArray->Bool)(Q:Ps.Req)(xi xa:Int)(sm:Bool)(f:FuncId)(vs:List AV):Option Value:=
 if f=41 then(match vs with
  |[.v (.int .i64 k),.r 0 j]=>if (k=0\/k=1\/k=2)/\(j=1\/j=2)then some (.bool (V k.toNat (if j=1 then Q.sender else Q.ref)))else none
  |_=>none)
 else if f=42 then(match vs with|[.a 0 3 16]=>some (.int .i64 xi)|_=>none)
 else if f=43 then(match vs with|[.a 0 3 16,.a 1 0 16]=>some (.bool sm)|_=>none)
 else if f=44 then(match vs with|[.a 0 19 9]=>some (.int .i64 xa)|_=>none)
 else none
def En (Q:Ps.Req)(o:Oper)(ov:Operand->Option AV):Option AV:=match o.op with
 | .build t ps=>(match ps.toList with
   |[]=>if t=24 then some (.a 1 0 16)else if t=26 then some (.a 2 0 9)else none
   |_=>none)
 | .binOp .neq t x y _=>if t=26 then(match ov x,ov y with
   |some (.a 0 19 9),some (.a 2 0 9)=>some (.v (.bool (!decide Q.amd.none)))
   |_,_=>none)else none
 |_=>none
def reqM (V:Nat->ByteArray->Bool)(g:Nat)(Q:Ps.Req)(lv:Value)(xi xa:Int)(sm:Bool):Mem Unit:=lX CB (TG g Q lv) (JK V Q xi xa sm) (En Q)
theorem OB {t:TypeId}{f d:Nat}(h:CB t f=some d)(b j:Nat)(w:World):(Instr.fieldAt t (.pointer (some ⟨b,j,none⟩)) f).run Tryz.prog w=.ok (.pointer (some ⟨b,j+d,none⟩)) w:=by
 unfold CB at h
 split at h
 ·rename_i ht
  subst ht
  split at h
  ·cases h
   rcases f with _|_|_|_|f
   all_goals first|omega|go_simp
  ·split at h
   ·rename_i h1
    subst h1
    cases h
    go_simp
   ·cases h
 ·split at h
  ·rename_i h1
   exact qm (by unfold qU;rw[if_pos (.inl h1)];exact h) b j w
  ·cases h
theorem Tw (w:World)(V:Nat->ByteArray->Bool)(Q:Ps.Req)(sa:Option Addr)(sn sc:Nat)(x xi xa:Int)(sm:Bool)
 (cV:Hid (∀(W1:World) (k:Nat) (s:ByteArray),k<3->Sz s->Below w.heap.size w W1->Calls Tryz.prog 41 #[.int .i64 k,.string s] W1 λe w'=>e=.returned (.bool (V k s))/\Below W1.heap.size W1 w'))
 (hG1:Hid (Sz Q.sender)) (hG2:Hid (Sz Q.ref))
 (nI:Hid (∀W,Below w.heap.size w W->Calls Tryz.prog 42 #[.agg (aA Q.ins (.slice sa sn sc)).toArray] W λe w'=>e=.returned (.int .i64 xi)/\Below W.heap.size W w'))
 (nS:Hid (∀W,Below w.heap.size w W->Calls Tryz.prog 43 #[.agg (aA Q.ins (.slice sa sn sc)).toArray,.agg (aA {} (.slice none 0 0)).toArray] W λe w'=>e=.returned (.bool sm)/\Below W.heap.size W w'))
 (nA:Hid (∀W,Below w.heap.size w W->Calls Tryz.prog 44 #[.agg (aG Q.amd).toArray] W λe w'=>e=.returned (.int .i64 xa)/\Below W.heap.size W w'))
 (hx:x=if ((decide (Q.op<0))||(decide (4<Q.op)))=true then 11 else(if ((!(V 1 Q.sender))||(!(V 2 Q.ref)))=true then 6 else(if (Q.op==0)=true then(if (xi !=0)=true then xi else(if ((!(Q.ins.ref.toList==Q.ref.toList))||(!(Q.ins.sender.toList==Q.sender.toList)))=true then 17 else(if (Q.op==1)=true then xa else(if (!decide Q.amd.none)=true then 3 else(0)))))else(if (!sm)=true then 3 else(if (Q.op==1)=true then xa else(if (!decide Q.amd.none)=true then 3 else(0))))))):
 Calls Tryz.prog 14 #[.agg (aB Q (.slice sa sn sc))] w λe w'=>e=.returned (.int .i64 x)/\Below w.heap.size w w':=by
 go_enter Tryz.func14,Tryz.ntmps14
 refine wp_seq ?_
 refine wp_region_lit ?_
 refine wpList_plain rfl (λK hK=>?_)
 go_simp
 refine hK _ _ ?_
 clear hK K
 refine wpList_plain rfl (λK hK=>?_)
 go_simp
 refine hK _ _ ?_
 clear hK K
 refine aT ?_
 obtain⟨g,hg⟩:∃g,g=w.heap.size:=⟨_,rfl⟩
 obtain⟨W1,hW1⟩:∃W1,W1=w.alloc (.cells (aB Q (.slice sa sn sc)) 28):=⟨_,rfl⟩
 have hrow:∀W,Below W1.heap.size W1 W->W.heap[g]? =some (.cells (oN Q (.slice sa sn sc)).toArray 28 (0,0)):=λW hW=>by
  rw[hW.block g (by rw[hW1,hg];simp),hW1,hg];exact aC w _
 have hB1:Below w.heap.size w W1:=by rw[hW1];exact(Below.refl _ _).alloc (Nat.le_refl _) _
 have up:∀W,Below W1.heap.size W1 W->Below w.heap.size w W:=λW hW=>hB1.trans (hW.mono hB1.size)
 rw[<-hg,<-hW1]
 clear hW1
 refine lD rfl λa ha hdf=>?_
 have hO:Ev.Ok Tryz.prog (λ(_:Unit) W=>Below W1.heap.size W1 W) (reqM V g Q (.slice sa sn sc) xi xa sm):=by
  refine Ev.jw (λt f d h=>OB h) (λq b o l h W hS=>?_) (λf vs v h=>?_) (λo ov v h ρ hov W hS=>?_)
  ·rcases q with _|_|_|q
   ·cases h;exact iQ hrow W hS
   ·cases h
   ·cases h
   ·cases h
  ·unfold JK at h
   split at h
   ·rename_i hf
    subst hf
    split at h
    ·split at h
     ·rename_i k j hk
      cases h
      refine⟨Ue,λW hS=>?_⟩
      obtain⟨n,hn,hk3⟩:∃n:Nat,k=(n:Int)/\n<3:=by
       rcases hk.1 with rfl|rfl|rfl
       ·exact⟨0,rfl,by decide⟩
       ·exact⟨1,rfl,by decide⟩
       ·exact⟨2,rfl,by decide⟩
      subst hn
      rcases hk.2 with rfl|rfl
      ·exact(cV.out W n Q.sender hk3 hG1.out (up W hS)).mono λe w' q=>⟨q.1,hS.trans (q.2.mono hS.size)⟩
      ·exact(cV.out W n Q.ref hk3 hG2.out (up W hS)).mono λe w' q=>⟨q.1,hS.trans (q.2.mono hS.size)⟩
     ·cases h
    ·cases h
   ·split at h
    ·rename_i hf
     subst hf
     split at h
     ·cases h
      exact⟨ent37,λW hS=>(nI.out W (up W hS)).mono λe w' q=>⟨q.1,hS.trans (q.2.mono hS.size)⟩⟩
     ·cases h
    ·split at h
     ·rename_i hf
      subst hf
      split at h
      ·cases h
       exact⟨ent33,λW hS=>(nS.out W (up W hS)).mono λe w' q=>⟨q.1,hS.trans (q.2.mono hS.size)⟩⟩
      ·cases h
     ·split at h
      ·rename_i hf
       subst hf
       split at h
       ·cases h
        exact⟨ent38,λW hS=>(nA.out W (up W hS)).mono λe w' q=>⟨q.1,hS.trans (q.2.mono hS.size)⟩⟩
       ·cases h
      ·cases h
  ·unfold En at h
   split at h
   ·rename_i t ps ho
    split at h
    ·rename_i hps
     have QX:ps=#[]:=by rw[<-Array.toArray_toList (xs:=ps),hps]
     subst QX
     split at h
     ·rename_i ht
      subst ht
      cases h
      unfold execOp
      simp only[ho,Sem.run_bind,bd35,Result.andThen_ok]
      rfl
     ·split at h
      ·rename_i ht
       subst ht
       cases h
       unfold execOp
       simp only[ho,Sem.run_bind,bd36,Result.andThen_ok]
       rfl
      ·cases h
    ·cases h
   ·rename_i t x y t2 ho
    split at h
    ·rename_i ht
     subst ht
     split at h
     ·rename_i h1 h2
      cases h
      have e1:ρ x=.agg (aG Q.amd).toArray:=hov _ _ h1
      have e2:ρ y=.agg (aG {}).toArray:=hov _ _ h2
      unfold execOp
      simp only[ho,e1,e2]
      rw[Sem.run_bind,ne36 0]
      rfl
     ·cases h
    ·cases h
   ·cases h
 refine Ev.A8 (M:=reqM V g Q (.slice sa sn sc) xi xa sm) (S:=λ_ W=>Below W1.heap.size W1 W) (n:=Tryz.f14.ntmps) (K:=[(1,.p 0 0)]) (s:=()) (v:=x) 2 hO (λ_ W h=>h.drew) (by rw[hx];kernel_rfl) (by kernel_rfl) (Ev.aH (Ev.ag (by rw[ha];rfl) hdf) (by rw[ha];rfl)) (Below.refl _ _) ?_
 intro b W s hd ht hS
 refine bodyPost_ret (results_tmp rfl _ _ _) hd ?_
 rw[hg]
 exact⟨by rw[show b.tmps.getD 2 undef=.int .i64 x from eval_at ht],hB1.trans (hS.mono hB1.size)⟩
theorem RV {P:Program}{c:Code}{tmps:Array Value}{Q:Exit->Act->World->Prop}{w:World}(h:∀a:Act,a.tmps=tmps->a.defers=[]->c.wp P Q a w):c.wp P Q ⟨tmps,[]⟩ w:=h _ rfl rfl
theorem NR (w:World)(A:Ps.Amd):
 Calls Tryz.prog 70 #[.agg (aG A).toArray] w λe w'=>e=.returned (.agg (aG A).toArray)/\Below w.heap.size w w':=by
 unfold aG
 go_enter Tryz.func70,Tryz.ntmps70
 go_wp2_with fail
 refine bodyPost_ret (results_cell_row rfl _ _ (w.heap.size+1) _ _ (0,0) _ rfl (heap_alloc2_new _ _ _) Tryz.underlying35 rfl (by kernel_rfl)) rfl ?_
 exact⟨rfl,((Below.refl _ _).alloc (Nat.le_refl _) _).alloc (by simp) _⟩
def LkM (w:World)(B:Nat)(lv:Value)(ks:List Ps.Link):Prop:=w.ownsRow B 129 2 lv ks.length (gK ks)
theorem KP:(Tryz.prog.info? 129).map (λi=>(i.zero,i.size,i.bytes))=some (some (.agg #[.int .i64 0,.string ⟨#[]⟩]),2,24):=by kernel_rfl
theorem y_lenM {S:World->Prop}{ρ:Operand->Value}{o:Oper}{x:Operand}{a:Option Addr}{n c:Nat}(ho:o.op=.call {callee:=.builtin .len,args:=#[x],argTypes:=#[22]})(ht:o.type=3)(h:ρ x=.slice a n c):YB Tryz.prog S ρ o (.int .i64 n):=λw hS=>by
 unfold execOp
 simp only[ho,ht]
 go_simp
 exact⟨rfl,hS⟩
theorem Oi (ρ:Operand->Value)(t:Int)(s:ByteArray){x y:Operand}(h1:ρ x=.int .i64 t)(h2:ρ y=.string s)(w:World):(Instr.build 129 ((#[(0,x),(1,y)]:Array (Nat×Operand)).map λ(i,x)=>(i,ρ x))).run Tryz.prog w=.ok (.agg #[.int .i64 t,.string s]) w:=by
 simp only[List.map_toArray,List.map_cons,List.map_nil,h1,h2]
 go_simp
noncomputable def FQ (g:Nat)(x:Ps.Link)(lv:Value)(W:World):Value×World:=
 match (Builtin.append_ #[32,32] 32 #[lv,.slice (some ⟨W.drew.heap.size,0,none⟩) 1 1]).run Tryz.prog (W.drew.alloc (.cells #[.int .i64 x.type,.string x.ref] 129))with
 | .ok v W4=>(v,W4.setCell ⟨g+2,15,none⟩ v)
 |_=>(lv,W)
noncomputable def owN (g:Nat)(ks:List Ps.Link)(W:World):Nat->Value×World
 |0=>(.slice none 0 0,W)
 |k+1=>FQ g (ks[k]?.getD ⟨0,⟨#[]⟩⟩) (owN g ks W k).1 (owN g ks W k).2
def ow0 (w:World)(i:Ps.Ins)(lv:Value):World:=((w.alloc (.cells (aA i lv).toArray 24)).alloc (.cells (aA {} (.slice none 0 0)).toArray 34)).alloc (.cells (aA i (.slice none 0 0)).toArray 34)
noncomputable def owV (w:World)(i:Ps.Ins)(lv:Value):Value:=(owN w.heap.size i.links (ow0 w i lv) i.links.length).1
noncomputable def owW (w:World)(i:Ps.Ins)(lv:Value):World:=(owN w.heap.size i.links (ow0 w i lv) i.links.length).2.setRow (w.heap.size+1) (aA i (owV w i lv)).toArray
def OJ (w:World)(g:Nat)(i:Ps.Ins)(lv:Value)(k:Nat)(W:World):Prop:=
 Below g w W/\W.heap[g]? =some (.cells (aA i lv).toArray 24 (0,0))/\W.heap[g+1]? =some (.cells (aA {} (.slice none 0 0)).toArray 34 (0,0))/\
  ∃ta tc,W.heap[g+2]? =some (.cells (aA i (.slice ta k tc)).toArray 34 (0,0))/\LkM W (g+3) (.slice ta k tc) (i.links.take k)/\owN g i.links (ow0 w i lv) k=(.slice ta k tc,W)
theorem ow_new (w:World)(i:Ps.Ins)(lv:Value):OJ w w.heap.size i lv 0 (((w.alloc (.cells (aA i lv).toArray 24)).alloc (.cells (aA {} (.slice none 0 0)).toArray 34)).alloc (.cells (aA i (.slice none 0 0)).toArray 34)):=by
 have hs1:(w.alloc (.cells (aA i lv).toArray 24)).heap.size=w.heap.size+1:=by simp
 refine⟨(((Below.refl _ _).alloc (Nat.le_refl _) _).alloc (by simp) _).alloc (by simp;omega) _,?_,?_,none,0,?_,World.ownsRow_nil _ _ _ _,rfl⟩
 ·rw[heap_alloc_old _ _ (by simp;omega),heap_alloc_old _ _ (by simp)]
  exact aC w _
 ·rw[heap_alloc_old _ _ (by simp)]
  exact heap_alloc2_new _ _ _
 ·have:=heap_alloc2_new (w.alloc (.cells (aA i lv).toArray 24)) (.cells (aA {} (.slice none 0 0)).toArray 34) (.cells (aA i (.slice none 0 0)).toArray 34)
  rw[hs1]at this
  exact this
theorem SN (w:World)(i:Ps.Ins)(sa:Option Addr)(sn sc:Nat)(hsn:Hid (sn=i.links.length))(hlt:Hid (sn<=1000000))(hlk:Hid (0<sn->∃sb so,sa=some ⟨sb,so,none⟩/\∀W,Below w.heap.size w W->zI W sb so i.links)):
 Calls Tryz.prog 32 #[.agg (aA i (.slice sa sn sc)).toArray] w λe w'=>e=.returned (.agg (aA i (owV w i (.slice sa sn sc))).toArray)/\w'=owW w i (.slice sa sn sc)/\∃ta tc,owV w i (.slice sa sn sc)=.slice ta sn tc/\Below w.heap.size w w'/\LkM w' (w.heap.size+3) (.slice ta sn tc) i.links:=by
 obtain⟨V9,hV9⟩:∃V9,V9=owV w i (.slice sa sn sc):=⟨_,rfl⟩
 obtain⟨X9,hX9⟩:∃X9,X9=owW w i (.slice sa sn sc):=⟨_,rfl⟩
 rw[<-hV9,<-hX9]
 have HV9:=Lib.hid hV9
 have HX9:=Lib.hid hX9
 clear hV9 hX9
 obtain⟨g,hg⟩:∃g,g=w.heap.size:=⟨_,rfl⟩
 have HN:Hid (OJ w g i (.slice sa sn sc) 0 (((w.alloc (.cells (aA i (.slice sa sn sc)).toArray 24)).alloc (.cells (aA {} (.slice none 0 0)).toArray 34)).alloc (.cells (aA i (.slice none 0 0)).toArray 34))):=Lib.hid (by rw[hg];exact ow_new w i _)
 rw[<-hg]at hlk⊢
 have HG:=Lib.hid hg
 unfold aA
 go_enter Tryz.func32,Tryz.ntmps32
 go_upto_region 2 with fail
 rw[<-hg]
 clear hg
 rename_i K1 hK1 K hK
 refine RV λa ha hdf=>?_
 have hsz:a.tmps.size=62:=by rw[ha];rfl
 have hf1:a.tmps[1]? =some (.pointer (some ⟨g,0,none⟩)):=by rw[ha];rfl
 have hf2:a.tmps[2]? =some (.pointer (some ⟨g+1,0,none⟩)):=by rw[ha];rfl
 have hf3:a.tmps[3]? =some (.pointer (some ⟨g+2,0,none⟩)):=by rw[ha];rfl
 clear ha
 generalize hW0:World.alloc _ _=W0
 replace HN:Hid (OJ w g i (.slice sa sn sc) 0 W0):=by rw[<-hW0];exact HN
 clear hW0
 obtain⟨vs,hvs⟩:∃vs:List Value,vs=[(.int .i64 0)]:=⟨_,rfl⟩
 refine PZ (λw=>w=W0) 1 vs (by rw[hvs];rfl) rfl (by kernel_rfl) (by kernel_rfl) (by rw[hsz];kernel_rfl) rfl ?_ ?_
 ·intro ρ hD hrest hco hfu
  refine yR hvs ?_
  refine⟨bT rfl (y_asg rfl (hco _)),?_⟩
  exact trivial
 intro a2 w2 hS2 hK2 hD
 subst hS2
 have JL:a2.tmps[4]? =some (.int .i64 ((0:Nat):Int)):=R9 (by rw[hK2.size,hsz];decide) (cO.tmp 0 _ _ 4 hD rfl (by rw[hvs];rfl) rfl)
 clear hD hvs
 clear vs
 replace hsz:=hK2.size.trans hsz
 replace hdf:=hK2.defers.trans hdf
 replace hf1:=(hK2.rest 1 (by decide +kernel)).trans hf1
 replace hf2:=(hK2.rest 2 (by decide +kernel)).trans hf2
 replace hf3:=(hK2.rest 3 (by decide +kernel)).trans hf3
 clear hK2
 refine hK _ _ ?_
 clear hK K
 refine wp_block ?_
 refine wp_loop (λa w1=>∃k:Nat,k<=sn/\a.tmps.size=62/\a.defers=[]/\a.tmps[1]? =some (.pointer (some ⟨g,0,none⟩))/\a.tmps[2]? =some (.pointer (some ⟨g+1,0,none⟩))/\a.tmps[3]? =some (.pointer (some ⟨g+2,0,none⟩))/\a.tmps[4]? =some (.int .i64 (k:Int))/\Hid (OJ w g i (.slice sa sn sc) k w1)) (λa _=>sn+1-(RowKit.intOf (a.tmps.getD 4 undef)).toNat) ⟨0,Nat.zero_le _,hsz,hdf,hf1,hf2,hf3,JL,HN⟩ ?_
 clear hsz hdf hf1 hf2 hf3 JL HN
 rintro a W1 ⟨k,hk,hsz,hdf,hf1,hf2,hf3,JL,HN⟩
 have h40:=Lib.hid JL
 refine wp_seq ?_
 have hcell0:W1.cell? ⟨g,15,none⟩=some (.slice sa sn sc):=by rw[cell_of_row _ _ _ _ _ _ HN.out.2.1];rfl
 have HC0:=Lib.hid hcell0
 clear hcell0
 obtain⟨b40,QW⟩:∃b,(decide ((k:Int)<(sn:Int)))=b:=⟨_,rfl⟩
 obtain⟨vs,hvs⟩:∃vs:List Value,vs=[(.int .i64 (k:Int)),(.pointer (some ⟨g,15,none⟩)),(.slice sa sn sc),(.int .i64 (sn:Int)),(.bool b40)]:=⟨_,rfl⟩
 refine Kg (b40) (λw=>w=W1) 5 vs (by rw[hvs];rfl) rfl (by kernel_rfl) (by kernel_rfl) (by rw[hsz];kernel_rfl) rfl ?_ ?_ ?_ ?_
 ·intro ρ hD hrest hco hfu
  have e1:ρ (.tmp 1)=.pointer (some ⟨g,0,none⟩):=(hrest 1 (by decide +kernel)).trans (eval_at hf1)
  have e4:ρ (.tmp 4)=.int .i64 (k:Int):=(hrest 4 (by decide +kernel)).trans (eval_at JL)
  obtain⟨e36,e37,e38,e39,e40,-⟩:ρ (.tmp 36)=(.int .i64 (k:Int))/\ρ (.tmp 37)=(.pointer (some ⟨g,15,none⟩))/\ρ (.tmp 38)=(.slice sa sn sc)/\ρ (.tmp 39)=(.int .i64 (sn:Int))/\ρ (.tmp 40)=(.bool b40)/\True:=kU hvs hD
  refine yR hvs ?_
  refine⟨bT rfl (jR rfl e4),?_⟩
  refine⟨bT rfl (eH rfl e1 (λw=>by go_simp)),?_⟩
  refine⟨bT rfl (fA rfl e37 (λw hS=>Mt _ w _ _ _ (by rw[hS];exact HC0.out))),?_⟩
  refine⟨bT rfl (y_lenM rfl rfl e38),?_⟩
  refine⟨bT rfl (Uf rfl e36 e39 (cmE QW (cm_lt3 _ _ _ _))),?_⟩
  exact trivial
 ·intro ρ hD;exact cO.tmp 4 _ _ 40 hD rfl (by rw[hvs];rfl) rfl
 rotate_left
 ·intro hcf b w9 hS9 hK2
  have hkn:¬(k:Int)<(sn:Int):=by subst QW;simpa using hcf
  subst hS9
  obtain rfl:k=sn:=by omega
  refine wp_exit ?_
  simp only[Exit.then,Exit.inBlock,if_true]
  replace hsz:=hK2.size.trans hsz
  replace hdf:=hK2.defers.trans hdf
  replace hf2:=(hK2.rest 2 (by decide +kernel)).trans hf2
  replace hf3:=(hK2.rest 3 (by decide +kernel)).trans hf3
  refine hK1 _ _ ?_
  obtain⟨hB0,hr0,hr1,ta,tc,hr2,hown,hbn⟩:=HN.out
  obtain⟨W9,MX⟩:∃W9,W9=w9.setRow (g+1) (aA i (.slice ta k tc)).toArray:=⟨_,rfl⟩
  have Ql:W9.heap[g+1]? =some (.cells (aA i (.slice ta k tc)).toArray 34 (0,0)):=by rw[MX];exact setRow_heap w9 (g+1) _ _ _ _ hr1
  have Li:∀j,j≠g+1->W9.heap[j]? =w9.heap[j]?:=λj hj=>by rw[MX];exact setRow_other w9 (g+1) j _ hj
  have hz9:W9.heap.size=w9.heap.size:=by rw[MX];exact setRow_size w9 (g+1) _
  have hb9:Below g w W9:=⟨by rw[MX];exact hB0.os,by rw[MX];exact hB0.tape,by rw[MX];exact hB0.output,by rw[hz9];exact hB0.size,λj hj=>(Li j (by omega)).trans (hB0.block j hj)⟩
  have hL9:LkM W9 (g+3) (.slice ta k tc) i.links:=by
   have e:i.links.take k=i.links:=List.take_of_length_le (by have:=hsn.out;omega)
   rw[e]at hown
   exact gF hown λj hj=>Li j (by have:=(hown.lt j hj).1;omega)
  have hv9:V9=.slice ta k tc:=by rw[HV9.out];unfold owV;rw[<-hsn.out,<-HG.out,hbn]
  have hx9:X9=W9:=by rw[HX9.out,MX];unfold owW;rw[<-HV9.out,hv9,<-hsn.out,<-HG.out,hbn]
  have HV:=Lib.hid hv9
  have HX:=Lib.hid hx9
  clear hv9 hx9 hbn
  have HB9:=Lib.hid hb9
  have HL9:=Lib.hid hL9
  have HR9:=Lib.hid Ql
  have HW9:=Lib.hid MX
  clear hb9 hL9 Ql Li hz9 hown MX hB0 hr0 HC0
  have HRI:Hid (w9.heap[g+2]? =some (.cells (aA i (.slice ta k tc)).toArray 34 (0,0))):=Lib.hid hr2
  have HR1:=Lib.hid hr1
  clear hr2 hr1 hvs hcf QW JL hf1 h40
  obtain⟨vs,hvs⟩:∃vs:List Value,vs=[.agg (aA i (.slice ta k tc)).toArray,undef]:=⟨_,rfl⟩
  refine wp_seq ?_
  refine iw (λn w=>w=if n=2 then W9 else w9) 2 vs (by rw[hvs];rfl) rfl (by kernel_rfl) (by kernel_rfl) (by rw[hsz];kernel_rfl) rfl ?_ ?_
  ·intro ρ hD hrest hco hfu
   have e2:ρ (.tmp 2)=.pointer (some ⟨g+1,0,none⟩):=(hrest 2 (by decide +kernel)).trans (eval_at hf2)
   have e3:ρ (.tmp 3)=.pointer (some ⟨g+2,0,none⟩):=(hrest 3 (by decide +kernel)).trans (eval_at hf3)
   obtain⟨e61,-⟩:ρ (.tmp 61)=(.agg (aA i (.slice ta k tc)).toArray)/\True/\True:=kU hvs hD
   refine ze hvs ?_
   refine⟨aN (B:=λw=>w=w9) (λw h=>h) (λw h=>h) (λw0=>bT rfl (fA rfl e3 (λw hS=>by
    have:=run_loadVar_row (P:=Tryz.prog) w (g+2) 34 34 (aA i (.slice ta k tc)).toArray (0,0) _ (by rw[hS.2];exact HRI.out) Tryz.underlying34 rfl (by kernel_rfl)
    unfold Instr.loadAt
    simp[Instr.sureAddr,this]))),?_⟩
   refine⟨⟨λ_ w hS=>?_,λh=>by have h2:true=false:=h;cases h2⟩,trivial⟩
   obtain rfl:w=w9:=hS
   unfold execOp
   simp only[e2,e61,Instr.storeAt,Instr.sureAddr,Sem.run_bind,Sem.run_pure,Result.andThen_ok,run_storeVar_row (P:=Tryz.prog) w (g+1) 34 34 (aA {} (.slice none 0 0)).toArray (aA i (.slice ta k tc)).toArray HR1.out (by kernel_rfl) rfl (by unfold aA;simp[Value.oneCell'])]
   exact⟨rfl,HW9.out.symm⟩
  intro b2 w2 hS2 hK3 hD
  obtain rfl:w2=W9:=hS2
  refine wp_ret ?_
  try simp only[Exit.then,Exit.inBlock]
  refine bodyPost_ret (results_cell_row rfl _ _ (g+1) _ _ (0,0) _ ?_ HR9.out Tryz.underlying34 rfl (by kernel_rfl)) (hK3.defers.trans hdf) ?_
  ·exact eval_at ((hK3.rest 2 (by decide +kernel)).trans hf2)
  exact⟨by rw[HV.out];rfl,HX.out.symm,ta,tc,HV.out,HB9.out,HL9.out⟩
 intro hct a2 w2 hS2 hK2
 subst hS2
 have hkn:(k:Int)<(sn:Int):=by subst QW;simpa using hct
 have hkn2:k<sn:=by omega
 replace hsz:=hK2.size.trans hsz
 replace hdf:=hK2.defers.trans hdf
 replace hf1:=(hK2.rest 1 (by decide +kernel)).trans hf1
 replace hf2:=(hK2.rest 2 (by decide +kernel)).trans hf2
 replace hf3:=(hK2.rest 3 (by decide +kernel)).trans hf3
 replace JL:=(hK2.rest 4 (by decide +kernel)).trans JL
 clear hK2 hvs hct QW
 clear b40 vs hK1
 obtain⟨x0,hx0⟩:∃x0,i.links[k]? =some x0:=⟨_,List.getElem?_eq_getElem (by rw[<-hsn.out];exact hkn2)⟩
 obtain⟨sb,so,hsa,Uw⟩:=hlk.out (by omega)
 subst hsa
 obtain⟨hB0,hr0,hr1,ta,tc,hr2,hown,hbn⟩:=HN.out
 obtain⟨W2,hW2⟩:∃W2,W2=w2.drew:=⟨_,rfl⟩
 obtain⟨W3,hW3⟩:∃W3,W3=W2.alloc (.cells #[.int .i64 x0.type,.string x0.ref] 129):=⟨_,rfl⟩
 have hkl:(i.links.take k).length=k:=by rw[List.length_take];have:=hsn.out;omega
 have hz2:W2.heap=w2.heap:=by rw[hW2];rfl
 have hs3:W3.heap.size=W2.heap.size+1:=by rw[hW3];simp
 have Cf:Below W2.heap.size W2 W3:=by rw[hW3];exact(Below.refl _ _).alloc (Nat.le_refl _) _
 have hb2:Below g w W2:=by rw[hW2];exact hB0.drew
 have hgs:g+2<W2.heap.size:=by rw[hz2];exact(Array.getElem?_eq_some_iff.1 hr2).1
 have hl3:W3.ownsRow (g+3) 129 2 (.slice ta k tc) k (gK (i.links.take k)):=by
  unfold LkM at hown
  rw[hkl]at hown
  refine gF hown λj hj=>?_
  have hj2:j<W2.heap.size:=by rw[hz2];exact(hown.lt j hj).2
  rw[Cf.block j hj2,hz2]
 have hrow3:W3.heap[W2.heap.size]? =some (.cells #[.int .i64 x0.type,.string x0.ref] 129 (0,0)):=by rw[hW3];exact aC W2 _
 obtain⟨i0,hii,hz0,hz1,hz2'⟩:=info_parts KP
 obtain⟨v9,W4,Ql,Li,yY,hat9⟩:=pF (w:=W3) 32 32 129 i0 (.agg #[.int .i64 0,.string ⟨#[]⟩]) 2 24 Tryz.underlying32 hii hz0 hz1 hz2' rfl (by decide) (g+3) (.slice ta k tc) k (gK (i.links.take k))
  hl3 (some ⟨W2.heap.size,0,none⟩) 1 1 [.int .i64 x0.type,.string x0.ref] rfl (λad ha=>by cases ha;exact World.news_of_block hrow3) (λe=>by cases e) (by intro u hu;simp at hu;rcases hu with rfl|rfl<;>rfl) (by unfold maxLen;have:=hlt.out;omega) (by have:=hlt.out;omega) (by omega)
 obtain⟨va,vc,rfl⟩:=iN Li
 have hblk:∀j,j<g+3->W4.heap[j]? =w2.heap[j]?:=λj hj=>by
  have h1:W4.heap[j]? =W3.heap[j]?:=yY.block j (by omega) (λe=>by have:=(hl3.lt j e.symm).1;omega)
  rw[h1,Cf.block j (by omega),hz2]
 have TM:W4.heap[g+2]? =some (.cells (aA i (.slice ta k tc)).toArray 34 (0,0)):=(hblk (g+2) (by omega)).trans hr2
 obtain⟨W5,ja⟩:∃W5,W5=W4.setCell ⟨g+2,15,none⟩ (.slice va (k+1) vc):=⟨_,rfl⟩
 have hr25:W5.heap[g+2]? =some (.cells (aA i (.slice va (k+1) vc)).toArray 34 (0,0)):=by
  rw[ja]
  exact ai W4 (g+2) 15 _ _ (.slice va (k+1) vc) TM
 have UU:∀j,j≠g+2->W5.heap[j]? =W4.heap[j]?:=λj hj=>by
  rw[ja]
  exact Below.heap_setCell W4 _ _ j (λe=>hj (by rw[e]))
 have hsz5:W5.heap.size=W4.heap.size:=by rw[ja];simp[World.setCell]
 have hsz4:W2.heap.size<=W4.heap.size:=Nat.le_trans Cf.size yY.size
 have HN5:Hid (OJ w g i (.slice (some ⟨sb,so,none⟩) sn sc) (k+1) W5):=Lib.hid ⟨⟨by rw[ja];exact yY.os.trans (Cf.os.trans hb2.os),by rw[ja];exact yY.tape.trans (Cf.tape.trans hb2.tape),by rw[ja];exact yY.output.trans (Cf.output.trans hb2.output),by have:=hb2.size;omega,λj hj=>by
  rw[UU j (by omega),hblk j (by omega)];exact hB0.block j hj⟩,(UU g (by omega)).trans ((hblk g (by omega)).trans hr0),(UU (g+1) (by omega)).trans ((hblk (g+1) (by omega)).trans hr1),va,vc,hr25,by
  unfold LkM
  have e1:i.links.take (k+1)=i.links.take k++[x0]:=by rw[List.take_add_one,hx0];rfl
  rw[e1,qz,List.length_append,hkl]
  exact gF Li λj hj=>UU j (by have:=(Li.lt j hj).1;omega),by
  show FQ g (i.links[k]?.getD ⟨0,⟨#[]⟩⟩) (owN g i.links (ow0 w i (.slice (some ⟨sb,so,none⟩) sn sc)) k).1 (owN g i.links (ow0 w i (.slice (some ⟨sb,so,none⟩) sn sc)) k).2=_
  rw[hbn,hx0]
  unfold FQ
  rw[hW3,hW2]at Ql
  simp only[Option.getD_some,Ql,ja]⟩
 have hcg:W2.cell? ⟨g,15,none⟩=some (.slice (some ⟨sb,so,none⟩) sn sc):=by rw[cell_of_row W2 g _ _ _ _ (by rw[hz2];exact hr0)];rfl
 have hco2:W2.cell? ⟨g+2,15,none⟩=some (.slice ta k tc):=by rw[cell_of_row W2 (g+2) _ _ _ _ (by rw[hz2];exact hr2)];rfl
 have hco3:W3.cell? ⟨g+2,15,none⟩=some (.slice ta k tc):=by rw[cell_of_row W3 (g+2) _ _ _ _ (by rw[Cf.block _ hgs,hz2];exact hr2)];rfl
 obtain⟨hlt1,hlt2⟩:=Uw W2 hb2 k x0 hx0
 have hc4:W4.cell? ⟨g+2,15,none⟩=some (.slice ta k tc):=by rw[cell_of_row W4 (g+2) _ _ _ _ TM];rfl
 have hfz:W4.frozen? ⟨g+2,15,none⟩=false:=aV 15 TM
 have HR9:=Lib.hid Ql
 have HW2:=Lib.hid hW2
 have HW3:=Lib.hid hW3
 have HW5:=Lib.hid ja
 clear hbn hB0 hr0 hr1 hr2 hown hkl hz2 hs3 Cf hb2 hgs hl3 hrow3 hii hz0 hz1 hz2' Ql Li yY hat9 hblk TM ja hr25 UU hsz5 hsz4 Uw hW2 hW3 HC0 HN hx0 hlk
 clear i0
 refine wp_skip ?_
 refine wp_seq (wp_block ?_)
 obtain⟨vs,hvs⟩:∃vs:List Value,vs=[(.pointer (some ⟨g+2,15,none⟩)),(.slice ta k tc),(.pointer (some ⟨g,15,none⟩)),(.slice (some ⟨sb,so,none⟩) sn sc),(.int .i64 (k:Int)),(.pointer (some ⟨sb,so+k*2,none⟩)),(.pointer (some ⟨sb,so+k*2,none⟩)),(.int .i64 x0.type),(.pointer (some ⟨g,15,none⟩)),(.slice (some ⟨sb,so,none⟩) sn sc),(.int .i64 (k:Int)),(.pointer (some ⟨sb,so+k*2,none⟩)),(.pointer (some ⟨sb,so+k*2+1,none⟩)),(.string x0.ref),(.agg #[.int .i64 x0.type,.string x0.ref]),(.slice (some ⟨W2.heap.size,0,none⟩) 1 1),(.slice va (k+1) vc),(.pointer (some ⟨g+2,15,none⟩)),(undef)]:=⟨_,rfl⟩
 refine jC (λdn w=>w=if dn 18 then W5 else if dn 16 then W4 else if dn 15 then W3 else W2) (Ord.inD [(1,0),(3,2),(5,2),(5,3),(5,4),(6,2),(6,3),(6,4),(6,5),(7,2),(7,3),(7,4),(7,5),(7,6),(9,8),(11,8),(11,9),(11,10),(12,8),(12,9),(12,10),(12,11),(13,8),(13,9),(13,10),(13,11),(13,12),(14,2),(14,3),(14,4),(14,5),(14,6),(14,7),(14,8),(14,9),(14,10),(14,11),(14,12),(14,13),(15,2),(15,3),(15,4),(15,5),(15,6),(15,7),(15,8),(15,9),(15,10),(15,11),(15,12),(15,13),(15,14),(16,0),(16,1),(16,2),(16,3),(16,4),(16,5),(16,6),(16,7),(16,8),(16,9),(16,10),(16,11),(16,12),(16,13),(16,14),(16,15),(18,0),(18,1),(18,2),(18,3),(18,4),(18,5),(18,6),(18,7),(18,8),(18,9),(18,10),(18,11),(18,12),(18,13),(18,14),(18,15),(18,16),(18,17)]) (Ord.wE (by kernel_rfl)) 19 vs (by rw[hvs];rfl) rfl rfl (by kernel_rfl) (by kernel_rfl) (by kernel_rfl) (by rw[hsz];kernel_rfl) (by simpa using HW2.out.symm) ?_ ?_
 ·intro ρ hD hrest hco hfu
  have e1:ρ (.tmp 1)=.pointer (some ⟨g,0,none⟩):=(hrest 1 (by decide +kernel)).trans (eval_at hf1)
  have e3:ρ (.tmp 3)=.pointer (some ⟨g+2,0,none⟩):=(hrest 3 (by decide +kernel)).trans (eval_at hf3)
  have e4:ρ (.tmp 4)=.int .i64 (k:Int):=(hrest 4 (by decide +kernel)).trans (eval_at JL)
  obtain⟨e43,e44,e45,e46,e47,e48,e49,e50,e51,e52,e53,e54,e55,e56,e57,e58,e59,e60,-⟩:ρ (.tmp 43)=(.pointer (some ⟨g+2,15,none⟩))/\ρ (.tmp 44)=(.slice ta k tc)/\ρ (.tmp 45)=(.pointer (some ⟨g,15,none⟩))/\ρ (.tmp 46)=(.slice (some ⟨sb,so,none⟩) sn sc)/\ρ (.tmp 47)=(.int .i64 (k:Int))/\ρ (.tmp 48)=(.pointer (some ⟨sb,so+k*2,none⟩))/\ρ (.tmp 49)=(.pointer (some ⟨sb,so+k*2,none⟩))/\ρ (.tmp 50)=(.int .i64 x0.type)/\ρ (.tmp 51)=(.pointer (some ⟨g,15,none⟩))/\ρ (.tmp 52)=(.slice (some ⟨sb,so,none⟩) sn sc)/\ρ (.tmp 53)=(.int .i64 (k:Int))/\ρ (.tmp 54)=(.pointer (some ⟨sb,so+k*2,none⟩))/\ρ (.tmp 55)=(.pointer (some ⟨sb,so+k*2+1,none⟩))/\ρ (.tmp 56)=(.string x0.ref)/\ρ (.tmp 57)=(.agg #[.int .i64 x0.type,.string x0.ref])/\ρ (.tmp 58)=(.slice (some ⟨W2.heap.size,0,none⟩) 1 1)/\ρ (.tmp 59)=(.slice va (k+1) vc)/\ρ (.tmp 60)=(.pointer (some ⟨g+2,15,none⟩))/\True/\True:=kU hvs hD
  refine zh hvs ?_
  refine⟨λdn hn hd he=>aN (B:=λ_=>True) (λw h=>by simpa using h) (λ_ _=>trivial) (λw0=>bT rfl (eH rfl e3 (λw=>by go_simp))),?_⟩
  refine⟨λdn hn hd he=>aN (B:=λw=>w=W2\/w=W3) (λw h=>by simpa using h) (λw h=>by have h16:=he 16 rfl;have h18:=he 18 rfl;simp only[h16,h18,Bool.false_eq_true,if_false]at h;split at h<;>first|exact .inr h|exact .inl h) (λw0=>bT rfl (fA rfl e43 (λw hS=>PO _ w _ _ _ (by rcases hS.2 with h|h<;>rw[h]<;>first|exact hco2|exact hco3)))),?_⟩
  refine⟨λdn hn hd he=>aN (B:=λ_=>True) (λw h=>by simpa using h) (λ_ _=>trivial) (λw0=>bT rfl (eH rfl e1 (λw=>by go_simp))),?_⟩
  refine⟨λdn hn hd he=>aN (B:=λw=>w=W2) (λw h=>by simpa using h) (λw h=>by have MV:=he 15 rfl;have h16:=he 16 rfl;have h18:=he 18 rfl;simp only[MV,h16,h18,Bool.false_eq_true,if_false]at h;exact h) (λw0=>bT rfl (fA rfl e45 (λw hS=>Mt _ w _ _ _ (by rw[hS.2];exact hcg)))),?_⟩
  refine⟨λdn hn hd he=>aN (B:=λ_=>True) (λw h=>by simpa using h) (λ_ _=>trivial) (λw0=>bT rfl (jR rfl e4)),?_⟩
  refine⟨λdn hn hd he=>aN (B:=λ_=>True) (λw h=>by simpa using h) (λ_ _=>trivial) (λw0=>bT rfl (F9 rfl e46 e47 hkn2)),?_⟩
  refine⟨λdn hn hd he=>aN (B:=λ_=>True) (λw h=>by simpa using h) (λ_ _=>trivial) (λw0=>bT rfl (eH rfl e48 (λw=>by go_simp))),?_⟩
  refine⟨λdn hn hd he=>aN (B:=λw=>w=W2) (λw h=>by simpa using h) (λw h=>by have MV:=he 15 rfl;have h16:=he 16 rfl;have h18:=he 18 rfl;simp only[MV,h16,h18,Bool.false_eq_true,if_false]at h;exact h) (λw0=>bT rfl (fA rfl e49 (λw hS=>Fs _ w _ (by rw[hS.2];exact hlt1)))),?_⟩
  refine⟨λdn hn hd he=>aN (B:=λ_=>True) (λw h=>by simpa using h) (λ_ _=>trivial) (λw0=>bT rfl (eH rfl e1 (λw=>by go_simp))),?_⟩
  refine⟨λdn hn hd he=>aN (B:=λw=>w=W2) (λw h=>by simpa using h) (λw h=>by have MV:=he 15 rfl;have h16:=he 16 rfl;have h18:=he 18 rfl;simp only[MV,h16,h18,Bool.false_eq_true,if_false]at h;exact h) (λw0=>bT rfl (fA rfl e51 (λw hS=>Mt _ w _ _ _ (by rw[hS.2];exact hcg)))),?_⟩
  refine⟨λdn hn hd he=>aN (B:=λ_=>True) (λw h=>by simpa using h) (λ_ _=>trivial) (λw0=>bT rfl (jR rfl e4)),?_⟩
  refine⟨λdn hn hd he=>aN (B:=λ_=>True) (λw h=>by simpa using h) (λ_ _=>trivial) (λw0=>bT rfl (F9 rfl e52 e53 hkn2)),?_⟩
  refine⟨λdn hn hd he=>aN (B:=λ_=>True) (λw h=>by simpa using h) (λ_ _=>trivial) (λw0=>bT rfl (eH rfl e54 (λw=>by go_simp))),?_⟩
  refine⟨λdn hn hd he=>aN (B:=λw=>w=W2) (λw h=>by simpa using h) (λw h=>by have MV:=he 15 rfl;have h16:=he 16 rfl;have h18:=he 18 rfl;simp only[MV,h16,h18,Bool.false_eq_true,if_false]at h;exact h) (λw0=>bT rfl (fA rfl e55 (λw hS=>Hr _ w _ (by rw[hS.2];exact hlt2)))),?_⟩
  refine⟨λdn hn hd he=>aN (B:=λ_=>True) (λw h=>by simpa using h) (λ_ _=>trivial) (λw0=>bT rfl (Bq rfl (Oi ρ _ _ e50 e56))),?_⟩
  refine⟨λdn hn hd he=>⟨λ_ w hS=>?_,λh=>by have h2:true=false:=h;cases h2⟩,?_⟩
  ·have h16:=he 16 rfl;have h18:=he 18 rfl
   simp only[hn,h16,h18,Bool.false_eq_true,if_false]at hS
   subst hS
   unfold execOp
   simp only[e57]
   go_simp
   exact⟨rfl,by simp[h16,h18];first|done|exact HW3.out.symm⟩
  refine⟨λdn hn hd he=>⟨λ_ w hS=>?_,λh=>by have h2:true=false:=h;cases h2⟩,?_⟩
  ·have MV:=hd 15 rfl;have h18:=he 18 rfl
   simp only[hn,MV,h18,Bool.false_eq_true,if_false,if_true]at hS
   subst hS
   unfold execOp
   simp only[resolve,invoke,builtin,Sem.run_bind,Sem.run_pure,Result.andThen_ok,List.map_toArray,List.map_cons,List.map_nil,e44,e58,HR9.out]
   exact⟨rfl,by simp[h18]⟩
  refine⟨λdn hn hd he=>aN (B:=λ_=>True) (λw h=>by simpa using h) (λ_ _=>trivial) (λw0=>bT rfl (eH rfl e3 (λw=>by go_simp))),?_⟩
  refine⟨λdn hn hd he=>⟨λ_ w hS=>?_,λh=>by have h2:true=false:=h;cases h2⟩,?_⟩
  ·have h16:=hd 16 rfl
   simp only[hn,h16,Bool.false_eq_true,if_false,if_true]at hS
   subst hS
   unfold execOp
   simp only[e60,e59]
   go_simp
   exact⟨rfl,by simp;first|done|exact HW5.out.symm⟩
  exact trivial
 intro a5 w5 hS5 hK5 hD5
 have Ur:w5=W5:=by simpa using hS5
 subst Ur
 replace hsz:=hK5.size.trans hsz
 replace hdf:=hK5.defers.trans hdf
 replace hf1:=(hK5.rest 1 (by decide +kernel)).trans hf1
 replace hf2:=(hK5.rest 2 (by decide +kernel)).trans hf2
 replace hf3:=(hK5.rest 3 (by decide +kernel)).trans hf3
 replace JL:=(hK5.rest 4 (by decide +kernel)).trans JL
 clear hK5 hD5 hvs
 simp only[Exit.then,Exit.inBlock]
 have hadd:IntKind.i64.wrap ((k:Int)+1)=(k:Int)+1:=IntWalk.i64_in _ (by have:=hlt.out;omega)
 refine JO rfl rfl rfl rfl rfl rfl rfl rfl rfl JL (by rw[hsz];decide) (by rw[hsz];decide) hadd λb2 hd2 hs2 hf4' hk2=>?_
 have e5:((k+1:Nat):Int)=(k:Int)+1:=by omega
 refine⟨⟨k+1,hkn2,hs2.trans hsz,hd2.trans hdf,(hk2 1 (by decide) (by decide) (by decide)).trans hf1,(hk2 2 (by decide) (by decide) (by decide)).trans hf2,(hk2 3 (by decide) (by decide) (by decide)).trans hf3,by rw[e5];exact hf4',HN5⟩,?_⟩
 rw[Array.getD_eq_getD_getElem?,Array.getD_eq_getD_getElem?,hf4',h40.out]
 simp only[Option.getD_some,RowKit.intOf]
 omega
theorem entOw:∀args w,(callFunc 32 args).run Tryz.prog w=.ok (.enter 32 args) w:=enters_of Tryz.func32 (by kernel_rfl) rfl
theorem entOwA:∀args w,(callFunc 70 args).run Tryz.prog w=.ok (.enter 70 args) w:=enters_of Tryz.func70 (by kernel_rfl) rfl
theorem Rz (ρ:Operand->Value)(Q:Ps.Req)(V:Value){x0 x1 x2 x3 x4:Operand}(h0:ρ x0=.int .i64 Q.op)(h1:ρ x1=.string Q.sender)(h2:ρ x2=.string Q.ref)(h3:ρ x3=.agg (aA Q.ins V).toArray)(h4:ρ x4=.agg (aG Q.amd).toArray)(w:World):
 (Instr.build 37 ((#[(0,x0),(1,x1),(2,x2),(3,x3),(4,x4)]:Array (Nat×Operand)).map λ(i,x)=>(i,ρ x))).run Tryz.prog w=.ok (.agg (aB Q V)) w:=by
 simp only[List.map_toArray,List.map_cons,List.map_nil,h0,h1,h2,h3,h4]
 unfold aB aA aG
 go_simp
theorem Tz (g:Nat)(Q:Ps.Req)(a:Option Addr)(n c:Nat)(w:World)(h:w.heap[g]? =some (.cells (aB Q (.slice a n c)) 28 (0,0))):(Instr.loadAt 24 (.pointer (some ⟨g,3,none⟩))).run Tryz.prog w=.ok (.agg (aA Q.ins (.slice a n c)).toArray) w:=by
 have k0:w.cell? ⟨g,3,none⟩=some (.string Q.ins.ref):=by rw[cell_of_row _ _ _ _ _ _ h];rfl
 have k1:w.cell? ⟨g,4,none⟩=some (.int .i64 Q.ins.kind):=by rw[cell_of_row _ _ _ _ _ _ h];rfl
 have k2:w.cell? ⟨g,5,none⟩=some (.string Q.ins.sender):=by rw[cell_of_row _ _ _ _ _ _ h];rfl
 have k3:w.cell? ⟨g,6,none⟩=some (.string Q.ins.counterparty):=by rw[cell_of_row _ _ _ _ _ _ h];rfl
 have k4:w.cell? ⟨g,7,none⟩=some (.int .i64 Q.ins.side):=by rw[cell_of_row _ _ _ _ _ _ h];rfl
 have k5:w.cell? ⟨g,8,none⟩=some (.string Q.ins.asset):=by rw[cell_of_row _ _ _ _ _ _ h];rfl
 have k6:w.cell? ⟨g,9,none⟩=some (.int .i64 Q.ins.quantity):=by rw[cell_of_row _ _ _ _ _ _ h];rfl
 have k7:w.cell? ⟨g,10,none⟩=some (.int .i64 Q.ins.amount):=by rw[cell_of_row _ _ _ _ _ _ h];rfl
 have k8:w.cell? ⟨g,11,none⟩=some (.int .i64 Q.ins.tradeDay):=by rw[cell_of_row _ _ _ _ _ _ h];rfl
 have k9:w.cell? ⟨g,12,none⟩=some (.int .i64 Q.ins.settleDay):=by rw[cell_of_row _ _ _ _ _ _ h];rfl
 have k10:w.cell? ⟨g,13,none⟩=some (.int .i64 Q.ins.priority):=by rw[cell_of_row _ _ _ _ _ _ h];rfl
 have k11:w.cell? ⟨g,14,none⟩=some (.bool Q.ins.partial_):=by rw[cell_of_row _ _ _ _ _ _ h];rfl
 have k12:w.cell? ⟨g,15,none⟩=some (.int .i64 Q.ins.minLot):=by rw[cell_of_row _ _ _ _ _ _ h];rfl
 have k13:w.cell? ⟨g,16,none⟩=some (.bool Q.ins.hold):=by rw[cell_of_row _ _ _ _ _ _ h];rfl
 have k14:w.cell? ⟨g,17,none⟩=some (.bool Q.ins.reserve):=by rw[cell_of_row _ _ _ _ _ _ h];rfl
 have k15:w.cell? ⟨g,18,none⟩=some (.slice a n c):=by rw[cell_of_row _ _ _ _ _ _ h];rfl
 clear h
 go_simp
 rfl
theorem Sr (g:Nat)(Q:Ps.Req)(lv:Value)(w:World)(h:w.heap[g]? =some (.cells (aB Q lv) 28 (0,0))):(Instr.loadAt 26 (.pointer (some ⟨g,19,none⟩))).run Tryz.prog w=.ok (.agg (aG Q.amd).toArray) w:=by
 have k0:w.cell? ⟨g,19,none⟩=some (.bool Q.amd.hasAmount):=by rw[cell_of_row _ _ _ _ _ _ h];rfl
 have k1:w.cell? ⟨g,20,none⟩=some (.bool Q.amd.hasSettleDay):=by rw[cell_of_row _ _ _ _ _ _ h];rfl
 have k2:w.cell? ⟨g,21,none⟩=some (.bool Q.amd.hasPriority):=by rw[cell_of_row _ _ _ _ _ _ h];rfl
 have k3:w.cell? ⟨g,22,none⟩=some (.bool Q.amd.hasPartial):=by rw[cell_of_row _ _ _ _ _ _ h];rfl
 have k4:w.cell? ⟨g,23,none⟩=some (.int .i64 Q.amd.amount):=by rw[cell_of_row _ _ _ _ _ _ h];rfl
 have k5:w.cell? ⟨g,24,none⟩=some (.int .i64 Q.amd.settleDay):=by rw[cell_of_row _ _ _ _ _ _ h];rfl
 have k6:w.cell? ⟨g,25,none⟩=some (.int .i64 Q.amd.priority):=by rw[cell_of_row _ _ _ _ _ _ h];rfl
 have k7:w.cell? ⟨g,26,none⟩=some (.bool Q.amd.partial_):=by rw[cell_of_row _ _ _ _ _ _ h];rfl
 have k8:w.cell? ⟨g,27,none⟩=some (.int .i64 Q.amd.minLot):=by rw[cell_of_row _ _ _ _ _ _ h];rfl
 clear h
 go_simp
 rfl
theorem QF (w:World)(Q:Ps.Req)(sa:Option Addr)(sn sc:Nat)(hsn:Hid (sn=Q.ins.links.length))(hlt:Hid (sn<=1000000))(hlk:Hid (0<sn->∃sb so,sa=some ⟨sb,so,none⟩/\∀W,Below w.heap.size w W->zI W sb so Q.ins.links)):
 Calls Tryz.prog 25 #[.agg (aB Q (.slice sa sn sc))] w λe w'=>∃ta tc,e=.returned (.agg (aB Q (.slice ta sn tc)))/\Below w.heap.size w w'/\LkM w' w.heap.size (.slice ta sn tc) Q.ins.links:=by
 obtain⟨g,hg⟩:∃g,g=w.heap.size:=⟨_,rfl⟩
 go_enter Tryz.func25,Tryz.ntmps25
 refine wp_seq ?_
 refine wp_region_lit ?_
 refine wpList_plain rfl (λK hK=>?_)
 go_simp
 refine hK _ _ ?_
 clear hK K
 refine wpList_plain rfl (λK hK=>?_)
 go_simp
 refine hK _ _ ?_
 clear hK K
 refine aT ?_
 have rww:Hid (∀(W:World) (sb:Nat),Below w.heap.size w W->True):=Lib.hid λ_ _ _=>trivial
 generalize hW:World.alloc _ _=W1
 have hW1:W1=(w.alloc (.cells (aB Q (.slice sa sn sc)) 28)).alloc (.cells (aB {} (.slice none 0 0)) 37):=hW.symm
 clear hW rww
 have hb1:Below w.heap.size w W1:=by rw[hW1];exact((Below.refl _ _).alloc (Nat.le_refl _) _).alloc (by simp) _
 have hr0:W1.heap[g]? =some (.cells (aB Q (.slice sa sn sc)) 28 (0,0)):=by rw[hW1,hg,heap_alloc_old _ _ (by simp)];exact aC w _
 have hr1:W1.heap[g+1]? =some (.cells (aB {} (.slice none 0 0)) 37 (0,0)):=by rw[hW1,hg];exact heap_alloc2_new _ _ _
 have hs1:g+2=W1.heap.size:=by rw[hW1,hg];simp
 have HG:=Lib.hid hg
 rw[<-hg]at hb1 hlk⊢
 clear hW1 hg
 obtain⟨W2,hW2⟩:∃W2,W2=W1.drew:=⟨_,rfl⟩
 have hb2:Below g w W2:=by rw[hW2];exact hb1.drew
 have hz2:W2.heap=W1.heap:=by rw[hW2];rfl
 have nB:=SN W2 Q.ins sa sn sc hsn hlt (Lib.hid λh=>by
  obtain⟨sb,so,e,hr⟩:=hlk.out h
  exact⟨sb,so,e,λW hW=>hr W (hb2.trans (hW.mono (by have:=hb2.size;have:=HG.out;omega)))⟩)
 obtain⟨W3,hW3⟩:∃W3,W3=owW W2 Q.ins (.slice sa sn sc):=⟨_,rfl⟩
 obtain⟨ta,tc,hV,hb3,hL3⟩:∃ta tc,owV W2 Q.ins (.slice sa sn sc)=.slice ta sn tc/\Below W2.heap.size W2 W3/\LkM W3 (W2.heap.size+3) (.slice ta sn tc) Q.ins.links:=by
  obtain⟨e,w',_,⟨_,h1,ta,tc,h2,h3,h4⟩,_⟩:=nB []
  rw[h1]at h3 h4
  rw[hW3]
  exact⟨ta,tc,h2,h3,h4⟩
 rw[hV,<-hW3]at nB
 replace nB:=Lib.hid (nB.mono λe w' h=>(⟨h.1,h.2.1⟩:_/\_))
 have hs2:W2.heap.size=g+2:=by rw[hz2,hs1]
 have hg3:∀w,Below W3.heap.size W3 w->w.heap[g]? =some (.cells (aB Q (.slice sa sn sc)) 28 (0,0))/\w.heap[g+1]? =some (.cells (aB {} (.slice none 0 0)) 37 (0,0)):=λw hw=>by
  have:=hb3.size
  rw[hw.block g (by omega),hw.block (g+1) (by omega),hb3.block g (by omega),hb3.block (g+1) (by omega),hz2]
  exact⟨hr0,hr1⟩
 have hst:Hid (∀(dn:Nat->Bool) (w:World),(if dn 13=true then∃w0,Below W3.heap.size W3 w0/\w=w0.setRow (g+1) (aB Q (.slice ta sn tc))else if dn 11=true then Below W3.heap.size W3 w else if dn 8=true then w=W3 else w=W2)->w.heap[g]? =some (.cells (aB Q (.slice sa sn sc)) 28 (0,0))):=Lib.hid λdn w h=>by
  split at h
  ·obtain⟨w0,h1,rfl⟩:=h
   rw[setRow_other _ _ _ _ (by omega)]
   exact(hg3 w0 h1).1
  ·split at h
   ·exact(hg3 w h).1
   ·split at h
    ·rw[h];exact(hg3 W3 (Below.refl _ _)).1
    ·rw[h,hz2];exact hr0
 have hz1:Hid (∀w,Below W3.heap.size W3 w->w.heap[g+1]? =some (.cells (aB {} (.slice none 0 0)) 37 (0,0))):=Lib.hid λw hw=>(hg3 w hw).2
 have HE:Hid (∀w0,Below W3.heap.size W3 w0->(w0.setRow (g+1) (aB Q (.slice ta sn tc))).heap[g+1]? =some (.cells (aB Q (.slice ta sn tc)) 37 (0,0))/\Below g w (w0.setRow (g+1) (aB Q (.slice ta sn tc)))/\LkM (w0.setRow (g+1) (aB Q (.slice ta sn tc))) g (.slice ta sn tc) Q.ins.links):=Lib.hid λw0 h0=>by
  have k1:=hb3.size
  have k2:=hb2.size
  have k3:=h0.size
  refine⟨setRow_heap w0 (g+1) _ _ _ _ (hg3 w0 h0).2,⟨?_,?_,?_,?_,λj hj=>?_⟩,?_⟩
  ·exact h0.os.trans (hb3.os.trans hb2.os)
  ·exact h0.tape.trans (hb3.tape.trans hb2.tape)
  ·exact h0.output.trans (hb3.output.trans hb2.output)
  ·rw[setRow_size];omega
  ·rw[setRow_other _ _ _ _ (by omega),h0.block j (by omega),hb3.block j (by omega)]
   exact hb2.block j hj
  ·refine dA (gF hL3 λj hj=>?_) (by omega)
   have:=hL3.lt j hj
   rw[setRow_other _ _ _ _ (by omega)]
   exact h0.block j this.2
 have HW2:=Lib.hid hW2
 clear hW3 hV hb3 hL3 hs2 hg3 hz2 hb2 hW2 hs1 hr0 hr1 hb1 hlk hlt hsn
 refine lD rfl λa ha hdf=>?_
 have hsz:a.tmps.size=16:=by rw[ha];rfl
 have hf1:a.tmps[1]? =some (.pointer (some ⟨g,0,none⟩)):=by rw[ha];rfl
 have hf2:a.tmps[2]? =some (.pointer (some ⟨g+1,0,none⟩)):=by rw[ha];rfl
 clear ha
 refine wp_seq ?_
 obtain⟨vs,hvs⟩:∃vs:List Value,vs=[(.pointer (some ⟨g,0,none⟩)),(.int .i64 Q.op),(.pointer (some ⟨g,1,none⟩)),(.string Q.sender),(.pointer (some ⟨g,2,none⟩)),(.string Q.ref),(.pointer (some ⟨g,3,none⟩)),(.agg (aA Q.ins (.slice sa sn sc)).toArray),(.agg (aA Q.ins (.slice ta sn tc)).toArray),(.pointer (some ⟨g,19,none⟩)),(.agg (aG Q.amd).toArray),(.agg (aG Q.amd).toArray),(.agg (aB Q (.slice ta sn tc))),(undef)]:=⟨_,rfl⟩
 refine jC (λdn w=>if dn 13=true then∃w0,Below W3.heap.size W3 w0/\w=w0.setRow (g+1) (aB Q (.slice ta sn tc))else if dn 11=true then Below W3.heap.size W3 w else if dn 8=true then w=W3 else w=W2) (Ord.inD [(1,0),(3,2),(5,4),(7,6),(8,6),(8,7),(10,9),(11,8),(11,9),(11,10),(12,0),(12,1),(12,2),(12,3),(12,4),(12,5),(12,6),(12,7),(12,8),(12,9),(12,10),(12,11),(13,0),(13,1),(13,2),(13,3),(13,4),(13,5),(13,6),(13,7),(13,8),(13,9),(13,10),(13,11),(13,12)]) (Ord.wE (by kernel_rfl)) 14 vs (by rw[hvs];rfl) rfl rfl (by kernel_rfl) (by kernel_rfl) (by kernel_rfl) (by rw[hsz];kernel_rfl) (by simpa using HW2.out.symm) ?_ ?_
 ·intro ρ hD hrest hco hfu
  have e1:ρ (.tmp 1)=.pointer (some ⟨g,0,none⟩):=(hrest 1 (by decide +kernel)).trans (eval_at hf1)
  have e2:ρ (.tmp 2)=.pointer (some ⟨g+1,0,none⟩):=(hrest 2 (by decide +kernel)).trans (eval_at hf2)
  obtain⟨e3,e4,e5,e6,e7,e8,e9,e10,e11,e12,e13,e14,e15,-⟩:ρ (.tmp 3)=(.pointer (some ⟨g,0,none⟩))/\ρ (.tmp 4)=(.int .i64 Q.op)/\ρ (.tmp 5)=(.pointer (some ⟨g,1,none⟩))/\ρ (.tmp 6)=(.string Q.sender)/\ρ (.tmp 7)=(.pointer (some ⟨g,2,none⟩))/\ρ (.tmp 8)=(.string Q.ref)/\ρ (.tmp 9)=(.pointer (some ⟨g,3,none⟩))/\ρ (.tmp 10)=(.agg (aA Q.ins (.slice sa sn sc)).toArray)/\ρ (.tmp 11)=(.agg (aA Q.ins (.slice ta sn tc)).toArray)/\ρ (.tmp 12)=(.pointer (some ⟨g,19,none⟩))/\ρ (.tmp 13)=(.agg (aG Q.amd).toArray)/\ρ (.tmp 14)=(.agg (aG Q.amd).toArray)/\ρ (.tmp 15)=(.agg (aB Q (.slice ta sn tc)))/\True/\True:=kU hvs hD
  refine zh hvs ?_
  refine⟨λdn hn hd he=>aN (B:=λ_=>True) (λw h=>by simpa using h) (λ_ _=>trivial) (λw0=>bT rfl (eH rfl e1 (λw=>by go_simp))),?_⟩
  refine⟨λdn hn hd he=>aN (B:=λw=>w.heap[g]? =some (.cells (aB Q (.slice sa sn sc)) 28 (0,0))) (λw h=>by simpa using h) (λw h=>hst.out dn w h) (λw0=>bT rfl (fA rfl e3 (λw hS=>Fs _ w _ (by rw[cell_of_row _ _ _ _ _ _ hS.2];rfl)))),?_⟩
  refine⟨λdn hn hd he=>aN (B:=λ_=>True) (λw h=>by simpa using h) (λ_ _=>trivial) (λw0=>bT rfl (eH rfl e1 (λw=>by go_simp))),?_⟩
  refine⟨λdn hn hd he=>aN (B:=λw=>w.heap[g]? =some (.cells (aB Q (.slice sa sn sc)) 28 (0,0))) (λw h=>by simpa using h) (λw h=>hst.out dn w h) (λw0=>bT rfl (fA rfl e5 (λw hS=>Hr _ w _ (by rw[cell_of_row _ _ _ _ _ _ hS.2];rfl)))),?_⟩
  refine⟨λdn hn hd he=>aN (B:=λ_=>True) (λw h=>by simpa using h) (λ_ _=>trivial) (λw0=>bT rfl (eH rfl e1 (λw=>by go_simp))),?_⟩
  refine⟨λdn hn hd he=>aN (B:=λw=>w.heap[g]? =some (.cells (aB Q (.slice sa sn sc)) 28 (0,0))) (λw h=>by simpa using h) (λw h=>hst.out dn w h) (λw0=>bT rfl (fA rfl e7 (λw hS=>Hr _ w _ (by rw[cell_of_row _ _ _ _ _ _ hS.2];rfl)))),?_⟩
  refine⟨λdn hn hd he=>aN (B:=λ_=>True) (λw h=>by simpa using h) (λ_ _=>trivial) (λw0=>bT rfl (eH rfl e1 (λw=>by go_simp))),?_⟩
  refine⟨λdn hn hd he=>aN (B:=λw=>w.heap[g]? =some (.cells (aB Q (.slice sa sn sc)) 28 (0,0))) (λw h=>by simpa using h) (λw h=>hst.out dn w h) (λw0=>bT rfl (fA rfl e9 (λw hS=>Tz g Q sa sn sc w hS.2))),?_⟩
  refine⟨λdn hn hd he=>⟨λ_ w hS=>?_,λh=>by have h2:true=false:=h;cases h2⟩,?_⟩
  ·have h11:=he 11 rfl;have Qm:=he 13 rfl
   simp only[hn,h11,Qm,Bool.false_eq_true,if_false]at hS
   subst hS
   unfold execOp
   have hf:=hfu 32
   simp[resolve,invoke,hf,e10,Deferred.ofValue,entOw]
   exact nB.out.mono λe w' h=>⟨h.1,by simp[h11,Qm];exact h.2⟩
  refine⟨λdn hn hd he=>aN (B:=λ_=>True) (λw h=>by simpa using h) (λ_ _=>trivial) (λw0=>bT rfl (eH rfl e1 (λw=>by go_simp))),?_⟩
  refine⟨λdn hn hd he=>aN (B:=λw=>w.heap[g]? =some (.cells (aB Q (.slice sa sn sc)) 28 (0,0))) (λw h=>by simpa using h) (λw h=>hst.out dn w h) (λw0=>bT rfl (fA rfl e12 (λw hS=>Sr g Q _ w hS.2))),?_⟩
  refine⟨λdn hn hd he=>⟨λ_ w hS=>?_,λh=>by have h2:true=false:=h;cases h2⟩,?_⟩
  ·have h8:=hd 8 rfl;have Qm:=he 13 rfl
   simp only[hn,h8,Qm,Bool.false_eq_true,if_false,if_true]at hS
   subst hS
   unfold execOp
   have hf:=hfu 70
   simp[resolve,invoke,hf,e13,Deferred.ofValue,entOwA]
   exact(NR _ Q.amd).mono λe w' h=>⟨h.1,by simp[Qm];exact h.2⟩
  refine⟨λdn hn hd he=>aN (B:=λ_=>True) (λw h=>by simpa using h) (λ_ _=>trivial) (λw0=>bT rfl (Bq rfl (Rz ρ _ _ e4 e6 e8 e11 e14))),?_⟩
  refine⟨λdn hn hd he=>⟨λ_ w hS=>?_,λh=>by have h2:true=false:=h;cases h2⟩,?_⟩
  ·have h11:=hd 11 rfl
   simp only[hn,h11,Bool.false_eq_true,if_false,if_true]at hS
   unfold execOp
   simp only[e2,e15,Instr.storeAt,Instr.sureAddr,Sem.run_bind,Sem.run_pure,Result.andThen_ok,run_storeVar_row (P:=Tryz.prog) w (g+1) 37 37 (aB {} (.slice none 0 0)) (aB Q (.slice ta sn tc)) (hz1.out w hS) (by kernel_rfl) rfl (cZ _ _ _ _)]
   exact⟨rfl,by simp;exact⟨w,hS,rfl⟩⟩
  exact trivial
 intro b w9 hS hK hD
 obtain⟨w0,h0,rfl⟩:∃w0,Below W3.heap.size W3 w0/\w9=w0.setRow (g+1) (aB Q (.slice ta sn tc)):=by simpa using hS
 obtain⟨k1,k2,k3⟩:=HE.out w0 h0
 refine wp_ret ?_
 try simp only[Exit.then,Exit.inBlock]
 refine bodyPost_ret (results_cell_row rfl _ _ (g+1) _ _ (0,0) _ ?_ k1 Tryz.underlying37 rfl (by kernel_rfl)) (hK.defers.trans hdf) ?_
 ·exact eval_at ((hK.rest 2 (by decide +kernel)).trans hf2)
 exact⟨ta,tc,rfl,k2,k3⟩
theorem ld_req (g:Nat)(Q:Ps.Req)(lv:Value)(w:World)(h:w.heap[g]? =some (.cells (aB Q lv) 37 (0,0))):(Instr.loadAt 37 (.pointer (some ⟨g,0,none⟩))).run Tryz.prog w=.ok (.agg (aB Q lv)) w:=by
 have:=run_loadVar_row (P:=Tryz.prog) w g 37 37 (aB Q lv) (0,0) _ h Tryz.underlying37 rfl (by kernel_rfl)
 unfold Instr.loadAt
 simp[Instr.sureAddr,this]
theorem D9 {P:Program}{ops:Array Oper}{Q:Exit->Act->World->Prop}{rest:List Oper}{o:Oper}{a:Act}{w:World}{t:TypeId}{x:Operand}{v u:Value}{d:Nat}(hw:Region.wanted o (yielded ops a.tmps)=true)(hd:o.dst=some d)(ho:o.op=.load t x)(hx:a.eval x=v)(hr:(Instr.loadAt t v).run P w=.ok u w)(h:wpList P ops Q rest ⟨a.tmps.setIfInBounds d u,a.defers⟩ w):wpList P ops Q (o::rest) a w:=by
 refine BigFrame.wpList_want hw λK hK=>?_
 unfold Oper.wp execOp
 rw[ho]
 simp only[hx,Sem.run_bind,hr,Result.andThen_ok]
 refine hK _ _ ?_
 rw[hd]
 exact h
open Go Go.RowKit
theorem Ps.parse_ok (E:Ps.Env)(check:Ps.Req->Int)(s:ByteArray)(h:(Ps.parse E check s).2.2=0):check (Ps.parse E check s).1=0:=by
 by_cases hs:s.size<=1024
 ·exact((Ps.Ej E check s hs).1 h).1
 ·exfalso
  have e:Lx.aO s=([],1024,5):=by unfold Lx.aO;rw[if_pos (by omega)]
  unfold Ps.parse at h
  rw[e,if_pos (by show¬(5:Int)=0;decide)]at h
  exact absurd h (by show¬(5:Int)=0;decide)
def vg (W:World)(s x:ByteArray)(e:Int):Prop:=Calls Tryz.prog 27 #[.string s] W λr W'=>r=.returned (.tuple #[.string x,.int .i64 e])/\Below W.heap.size W W'
noncomputable def cnT (Q:Ps.Req):ByteArray:=Ps.bB (Ps.iY Ps.ae Q (Ps.jh Q.ins))
noncomputable def cnS (s:ByteArray):ByteArray×Int:=if (Ps.parse bM psR s).2.2=0 then(cnT (Ps.parse bM psR s).1,0)else(⟨#[]⟩,(Ps.parse bM psR s).2.2)
theorem cn_bad (w:World)(s:ByteArray)(Q:Ps.Req)(o x:Int)(hx:(x !=0)=true)(m2:PrsC w s Q o x):vg w s ⟨#[]⟩ x:=by
 unfold vg
 have hst:=Bj
 go_enter Tryz.func27,Tryz.ntmps27
 go_upto_region 2 with(go_at_call 16;refine m2.mono ?_;rintro e w2 ⟨a,n,c,rfl,hl2,hb2⟩;clear hl2)
 have HB3:Hid (Below w.heap.size w (w2.alloc (.cells (aB Q (.slice a n c)) 37))):=Lib.hid (hb2.alloc hb2.size _)
 generalize w2.alloc (.cells (aB Q (.slice a n c)) 37)=W3 at HB3⊢
 clear hb2 hst m2
 go_wp2_with fail
 go_ret2
 exact⟨rfl,HB3.out⟩
theorem R8 (w:World)(s:ByteArray)(Q:Ps.Req)(o:Int)(x:ByteArray)(m2:PrsC w s Q o 0)(m3:Hid (∀W B a n c,Below w.heap.size w W->dR W B (.slice a n c) Q.ins.links->qK W Q (.slice a n c) x 0)):vg w s x 0:=by
 unfold vg
 have hst:=Bj
 go_enter Tryz.func27,Tryz.ntmps27
 go_upto_region 4 with(go_at_call 16;refine m2.mono ?_;rintro e w2 ⟨a,n,c,rfl,hl2,hb2⟩;have HL2:=Lib.hid hl2;have HB2:=Lib.hid hb2;clear hb2 hl2)
 obtain⟨g,hg⟩:∃g,g=w2.heap.size:=⟨_,rfl⟩
 obtain⟨W3,hW3⟩:∃W3,W3=w2.alloc (.cells (aB Q (.slice a n c)) 37):=⟨_,rfl⟩
 have HR3:Hid (W3.heap[g]? =some (.cells (aB Q (.slice a n c)) 37 (0,0))):=Lib.hid (by rw[hW3,hg];exact aC w2 _)
 have HB3:Hid (Below w.heap.size w W3):=Lib.hid (by rw[hW3];exact HB2.out.alloc HB2.out.size _)
 have HL3:Hid (dR W3 w.heap.size (.slice a n c) Q.ins.links):=Lib.hid (by rw[hW3];exact dR.below HL2.out ((Below.refl _ _).alloc (Nat.le_refl _) _))
 rw[<-hW3,<-hg]
 have m4:=m3.out W3 _ a n c HB3.out HL3.out
 unfold qK at m4
 clear hW3 hg HB2 HL2 HL3 hst m2 m3
 refine wp_region_lit ?_
 refine jl rfl rfl rfl rfl (ld_req g Q (.slice a n c) W3 HR3.out) ?_
 go_wp2_with (go_at_call 24;refine m4.mono ?_;rintro e w4 ⟨rfl,hb4⟩;have UL:=Lib.hid (HB3.out.trans (hb4.mono HB3.out.size));clear hb4 m4)
 go_ret2
 exact⟨rfl,UL.out⟩
theorem Qa {m:Int}{kb ko kc:Nat}{w:World}(env:jg m kb ko kc w)(hE:jG w)(Q:Ps.Req)(hQ:psR Q=0)(W:World)(B:Nat)(a:Option Addr)(n c:Nat)(hW:Below w.heap.size w W)(hl:dR W B (.slice a n c) Q.ins.links):qK W Q (.slice a n c) (cnT Q) 0:=by
 refine Rn W Q a n c ⟨hE.below hW,hQ,λW2 hW2=>?_,(Cq hl).1,(Cq hl).2⟩
 have env2:=env.below (hW.trans (hW2.mono hW.size))
 have:=GA env2.id (Qf env2.id) W2 B Q a n c (Below.refl _ _) (hl.below hW2)
 rw[hQ]at this
 exact this
theorem Iq {m:Int}{kb ko kc:Nat}{w:World}(env:jg m kb ko kc w)(hE:jG w)(s:ByteArray)(hs:s.size<=9223372036854775807)(W:World)(hW:Below w.heap.size w W):vg W s (cnS s).1 (cnS s).2:=by
 have hp:=prs_of env s hs W hW
 unfold cnS
 by_cases h:(Ps.parse bM psR s).2.2=0
 ·rw[if_pos h]
  rw[h]at hp
  exact R8 W s _ _ _ hp (Lib.hid λW2 B a n c hW2 hl=>Qa env hE _ (Ps.parse_ok _ _ _ h) W2 B a n c (hW.trans (hW2.mono hW.size)) hl)
 ·rw[if_neg h]
  exact cn_bad W s _ _ _ (by simpa using h) hp
theorem ic_bad (w:World)(s x:ByteArray)(e:Int)(he:(e==0)=false)(m2:vg w s x e):Calls Tryz.prog 29 #[.string s] w λr W'=>r=.returned (.bool false)/\Below w.heap.size w W':=by
 unfold vg at m2
 go_enter Tryz.func29,Tryz.ntmps29
 go_wp2_with (go_at_call 27;refine m2.mono ?_;rintro r w2 ⟨rfl,hb⟩)
 go_ret
 exact⟨rfl,hb⟩
theorem TH (w:World)(s x:ByteArray)(b:Bool)(hb:(x.toList==s.toList)=b)(m2:vg w s x 0):Calls Tryz.prog 29 #[.string s] w λr W'=>r=.returned (.bool b)/\Below w.heap.size w W':=by
 unfold vg at m2
 have HB:=Lib.hid hb
 go_enter Tryz.func29,Tryz.ntmps29
 go_wp2_with (go_at_call 27;refine m2.mono ?_;rintro r w2 ⟨rfl,hbl⟩)
 go_ret
 exact⟨rfl,hbl⟩
noncomputable def icS (s:ByteArray):Bool:=decide ((cnS s).2=0)&&((cnS s).1.toList==s.toList)
theorem L6 {m:Int}{kb ko kc:Nat}{w:World}(env:jg m kb ko kc w)(hE:jG w)(s:ByteArray)(hs:s.size<=9223372036854775807)(W:World)(hW:Below w.heap.size w W):Calls Tryz.prog 29 #[.string s] W λr W'=>r=.returned (.bool (icS s))/\Below W.heap.size W W':=by
 have hp:=Iq env hE s hs W hW
 unfold icS
 by_cases h:(cnS s).2=0
 ·rw[h]at hp⊢
  rw[decide_eq_true rfl,Bool.true_and]
  exact TH W s _ _ rfl hp
 ·rw[decide_eq_false h,Bool.false_and]
  exact ic_bad W s _ _ (by simpa using h) hp
theorem cn_cnT {Q:Ps.Req}(h:psR Q=0):cnS (cnT Q)=(cnT Q,0)/\Ps.parse bM psR (cnT Q)=(Q,0,0)/\(cnT Q).size<=1024:=by
 obtain⟨h1,h2⟩:=gV h
 refine⟨?_,h1,h2⟩
 unfold cnS
 rw[show Ps.parse bM psR (cnT Q)=(Q,0,0)from h1]
 rfl
def DL:ByteArray:=⟨#[112,97,121,32,32,80,49,32,102,114,111,109,32,66,65,78,75,65,32,116,111,32,66,65,78,75,66,32,97,109,111,117,110,116,32,49,53,48,48,46,48,48,32,100,97,121,32,50,48,50,54,45,49,49,45,49,54,32,104,111,108,100,32,117,114,103,101,110,116,32,35,32,115,97,108,97,114,121]⟩
def yU:ByteArray:=⟨#[112,97,121,32,80,49,32,102,114,111,109,32,66,65,78,75,65,32,116,111,32,66,65,78,75,66,32,97,109,111,117,110,116,32,49,53,48,48,46,48,48,32,100,97,121,32,50,48,50,54,45,49,49,45,49,54,32,117,114,103,101,110,116,32,104,111,108,100]⟩
def lu:Ps.Req:=(Ps.parse bM psR DL).1
theorem Jf:(Ps.parse bM psR DL).2.2=0:=by decide +kernel
theorem Ol:Ps.iY (λ_=>⟨#[50,48,50,54,45,49,49,45,49,54]⟩) lu (Ps.jh lu.ins)=[Ps.bw Ps.E8,⟨#[80,49]⟩,Ps.bw Ps.rH,⟨#[66,65,78,75,65]⟩,Ps.bw Ps.sTo,⟨#[66,65,78,75,66]⟩,Ps.bw Ps.bY,⟨#[49,53,48,48,46,48,48]⟩,Ps.bw Ps.eF,⟨#[50,48,50,54,45,49,49,45,49,54]⟩,Ps.bw (Ps.bX 2),Ps.bw Ps.bU]:=by decide +kernel
theorem LM:Ps.ae 9816=⟨#[50,48,50,54,45,49,49,45,49,54]⟩:=by
 have h:Ps.IsC 9816 2026 11 16:=by unfold Ps.IsC;decide +kernel
 rw[Ps.sG h]
 decide +kernel
theorem kn20_p:lu.op=0/\lu.ins.kind=0/\lu.ins.settleDay=9816:=by decide +kernel
theorem M9:cnT lu=yU:=by
 obtain⟨h1,h2,h3⟩:=kn20_p
 have e:Ps.iY Ps.ae lu (Ps.jh lu.ins)=Ps.iY (λ_=>⟨#[50,48,50,54,45,49,49,45,49,54]⟩) lu (Ps.jh lu.ins):=by
  unfold Ps.iY Ps.u6
  rw[if_pos h1,if_pos h1,if_neg (by omega),if_pos h2,if_neg (by omega),if_pos h2,h3,LM]
 unfold cnT
 rw[e,Ol]
 decide +kernel
theorem Rk:cnS DL=(yU,0):=by
 unfold cnS
 rw[if_pos Jf]
 show(cnT lu,(0:Int))=_
 rw[M9]
theorem Sb:(yU.toList==([112,97,121,32,80,49,32,102,114,111,109,32,66,65,78,75,65,32,116,111,32,66,65,78,75,66,32,97,109,111,117,110,116,32,49,53,48,48,46,48,48,32,100,97,121,32,50,48,50,54,45,49,49,45,49,54,32,117,114,103,101,110,116,32,104,111,108,100]:List UInt8))=true:=by decide +kernel
theorem MS (w:World)(m1:vg w DL yU 0)(m2:∀W,Below w.heap.size w W->Calls Tryz.prog 29 #[.string yU] W λr W'=>r=.returned (.bool true)/\Below W.heap.size W W'):Calls Tryz.prog 22 #[] w λr W'=>r=.returned (.bool true)/\Below w.heap.size w W':=by
 unfold vg at m1
 have hk:=Sb
 go_enter Tryz.func22,Tryz.ntmps22
 go_upto_region 2 with(go_at_call 27;refine m1.mono ?_;rintro r w2 ⟨rfl,hb⟩;have HB:=Lib.hid hb;clear hb m1)
 go_wp2_with (go_at_call 29;refine(m2 _ HB.out).mono ?_;rintro r w3 ⟨rfl,hb2⟩;have HB2:=Lib.hid (HB.out.trans (hb2.mono HB.out.size));clear hb2)
 go_ret
 exact⟨rfl,HB2.out⟩
theorem TS {Q:Ps.Req}(h:psR Q=0):icS (cnT Q)=true:=by
 unfold icS
 rw[(cn_cnT h).1]
 generalize cnT Q=z
 show(decide ((0:Int)=0)&&(z.toList==z.toList))=true
 rw[beq_self_eq_true]
 rfl
theorem kn20 {m:Int}{kb ko kc:Nat}{w:World}(env:jg m kb ko kc w)(hE:jG w):Calls Tryz.prog 22 #[] w λr W'=>r=.returned (.bool true)/\Below w.heap.size w W':=by
 have hc:=Iq env hE DL (by decide) w (Below.refl _ _)
 rw[Rk]at hc
 have hi:=λW hW=>L6 env hE yU (by decide) W hW
 have hq:psR lu=0:=Ps.parse_ok _ _ _ Jf
 have hb:icS yU=true:=by
  rw[<-M9]
  exact TS hq
 rw[hb]at hi
 exact MS w hc hi
abbrev KnC (w:World):Prop:=Hid (∀W,Below w.heap.size w W->Calls Tryz.prog 22 #[] W λe W'=>e=.returned (.bool true)/\Below W.heap.size W W')
theorem jZ {P:Program}{ops:Array Oper}{Q:Exit->Act->World->Prop}{rest:List Oper}{o:Oper}{a:Act}{w:World}{f:FuncId}{xs:Array Operand}{ts:Array TypeId}{d:Nat}{R:Ending->World->Prop}(hw:Region.wanted o (yielded ops a.tmps)=true)(hd:o.dst=some d)(ho:o.op=.call ⟨.value (.func f),xs,ts⟩)
 (he:∀args w,(callFunc f args).run P w=.ok (.enter f args) w) {vs:List Value} (hx:xs.toList.map a.eval=vs) (hc:Calls P f vs.toArray w R) (h:∀e w',R e w'->∃v,e=.returned v/\wpList P ops Q rest ⟨a.tmps.setIfInBounds d v,a.defers⟩ w'):wpList P ops Q (o::rest) a w:=by
 refine BigFrame.wpList_want hw λK hK=>?_
 have hf:a.eval (.func f)=.func (.func f) #[] #[]:=rfl
 have hrun:(execOp a.eval o).run P w=.ok (.enter f vs.toArray) w:=by
  have hargs:xs.map a.eval=vs.toArray:=by
   rw[<-hx]
   apply Array.toList_inj.1
   simp
  unfold execOp
  simp[ho,resolve,invoke,hf,hargs,Deferred.ofValue,he]
 unfold Oper.wp
 rw[hrun,Oper.upon_enter]
 refine hc.mono λe w' hr=>?_
 obtain⟨v,rfl,hv⟩:=h e w' hr
 refine hK _ _ ?_
 rw[hd]
 exact hv
theorem EI:∀args w,(callFunc 22 args).run Tryz.prog w=.ok (.enter 22 args) w:=enters_of Tryz.func22 (by kernel_rfl) rfl
theorem AC:∀args w,(callFunc 23 args).run Tryz.prog w=.ok (.enter 23 args) w:=enters_of Tryz.func23 (by kernel_rfl) rfl
theorem OE:∀args w,(callFunc 25 args).run Tryz.prog w=.ok (.enter 25 args) w:=enters_of Tryz.func25 (by kernel_rfl) rfl
theorem LG:∀args w,(callFunc 24 args).run Tryz.prog w=.ok (.enter 24 args) w:=enters_of Tryz.func24 (by kernel_rfl) rfl
theorem vH (g:Nat)(Q:Ps.Req)(lv:Value)(w:World)(h:w.heap[g]? =some (.cells (aB Q lv) 28 (0,0))):(Instr.loadAt 28 (.pointer (some ⟨g,0,none⟩))).run Tryz.prog w=.ok (.agg (aB Q lv)) w:=by
 have:=run_loadVar_row (P:=Tryz.prog) w g 28 28 (aB Q lv) (0,0) _ h Tryz.underlying28 rfl (by kernel_rfl)
 unfold Instr.loadAt
 simp[Instr.sureAddr,this]
theorem IB {i:Ps.Ins}{lv:Value}(hl:∀x,lv≠.string x)(h:yh i):∀x,Value.string x∈aA i lv->x.size<=100:=λx hx=>by
 unfold aA at hx
 simp at hx
 rcases hx with rfl|rfl|rfl|rfl|e
 ·exact h.ref
 ·exact h.sender
 ·exact h.cp
 ·exact h.asset
 ·exact absurd e.symm (hl x)
theorem wJ {Q:Ps.Req}{lv:Value}(hl:∀x,lv≠.string x)(h:jS Q):∀x,Value.string x∈oN Q lv->x.size<=100:=λx hx=>by
 unfold oN at hx
 rcases List.mem_append.1 hx with hx|hx
 ·rcases List.mem_append.1 hx with hx|hx
  ·simp at hx
   rcases hx with rfl|rfl
   ·exact h.sender
   ·exact h.ref
  ·exact IB hl h.ins x hx
 ·unfold aG at hx
  simp at hx
noncomputable def pbM (W:World)(g:Nat)(Q:Ps.Req)(lv:Value)(e:Int):Mem:={seW W.heap.size W [] 100 (bI g Q lv) (Ub Q e)with tst:=λt=>if t=9 then some true else none}
theorem Qc (w:World)(Q:Ps.Req)(e:Int)(he:e≠0)(a:Option Addr)(n c:Nat)(hs:jS Q)(hc:∀W,Below w.heap.size w W->Calls Tryz.prog 30 #[.agg (aB Q (.slice a n c))] W λr W'=>r=.returned (.int .i64 e)/\Below W.heap.size W W'):qK w Q (.slice a n c) ⟨#[]⟩ e:=by
 unfold qK
 refine qP w Q a n c λW b hb hr hd hn h1 h2 h3=>?_
 have hgW:w.heap.size<W.heap.size:=(Array.getElem?_eq_some_iff.1 hr).1
 have hr0:=bv hr
 have hO:Ok Tryz.prog (pbM W w.heap.size Q (.slice a n c) e):=(vw (Nat.le_refl _) (λg hg=>by cases hg) (λk g' o l hk=>by
  rcases k with _|_|k
  ·cases hk;exact⟨.inl hgW,hr0⟩
  ·cases hk
  ·cases hk) (λk p l hk=>by
  rcases k with _|_|k
  ·cases hk;exact wJ (λx e=>by cases e) hs
  ·cases hk
  ·cases hk)).withTst
 refine bE (M:=pbM W w.heap.size Q (.slice a n c) e) (n:=35) (code:=ptC) (K:=[(1,.p 0 0),(2,.s (0,⟨#[]⟩)),(3,.v (.int .i64 0))]) hO [2,3] (us:=[.s (0,⟨#[]⟩),.v (.int .i64 e)])
  (ps:=[aL W.heap.size W (Ev.aM (bI w.heap.size Q (.slice a n c))) 30 [.a 0 0 28] (.val (.int .i64 e)),(!decide (e=0))=true]) (by kernel_rfl)
  ⟨kE (x:=.agg (aB Q (.slice a n c))) qQ rfl λw' hw'=>hc w' (hb.trans (hw'.mono hb.size)),by simpa using he,trivial⟩ (aF (aF (aF (aZ hn hd) h3 rfl) h2 rfl) h1 rfl) (Sw.start _) ?_
 intro b w' _ hd hv hS
 exact nJ rfl hd hv ⟨rfl,hb.trans ((az rfl hS).mono hb.size)⟩
theorem yT (k:Nat)(hk:k<3)(s:ByteArray)(hs:Sz s)(w:World):
 Calls Tryz.prog 41 #[.int .i64 k,.string s] w λe w'=>e=.returned (.bool (bM.valid k s))/\Below w.heap.size w w':=by
 have n:=Lj k hk s hs w
 go_enter Tryz.func41,Tryz.ntmps41
 go_wp2_with fail
 refine n.mono ?_
 rintro e w' ⟨⟨z,rfl⟩,hB⟩
 go_wp2_with fail
 go_ret
 exact⟨bq (by rw[show bM.valid k s=decide (aS k s=0)from rfl,Bool.eq_iff_iff];simp),hB⟩
theorem rk_amd (w:World)(A:Ps.Amd):Calls Tryz.prog 44 #[.agg (aG A).toArray] w λe w'=>e=.returned (.int .i64 (Ps.yC A))/\Below w.heap.size w w':=
 Te w A (Ps.yC A) (LD A).symm
theorem rk_ins (w:World)(i:Ps.Ins)(sa:Option Addr)(sn sc:Nat)(hG:jI i)(hsn:sn=i.links.length)(hlk:dI w sa sn i.links):
 Calls Tryz.prog 42 #[.agg (aA i (.slice sa sn sc)).toArray] w λe w'=>e=.returned (.int .i64 (Ps.oL bM.valid i))/\Below w.heap.size w w':=
 RU w bM.valid i sa sn sc _ _ (Lib.hid λW k s hk hz hB=>(yT k hk s hz W)) (Lib.hid hG) (Lib.hid hsn) (Lib.hid hlk) (Lib.hid rfl) (by
  rw[hsn]
  exact(MB bM.valid (by decide +kernel) i).symm)
theorem TC (w:World)(i:Ps.Ins)(sa:Option Addr)(sn sc:Nat)(h63:sn<=9223372036854775806)(hsn:sn=i.links.length)(hlk:dI w sa sn i.links):
 Calls Tryz.prog 43 #[.agg (aA i (.slice sa sn sc)).toArray,.agg (aA {} (.slice none 0 0)).toArray] w λe w'=>e=.returned (.bool (decide i.none))/\Below w.heap.size w w':=
 Pf w i {} sa none sn sc 0 0 _ (Lib.hid h63) (Lib.hid hsn) (Lib.hid rfl) (Lib.hid hlk) (Lib.hid λh=>absurd h (by omega))
  (Lib.hid λh=>decide_eq_false λhn=>h (by rw[hsn];exact hn.2.2.2.2.2.2.2.2.2.2.2.2.2.2.2))
  (Lib.hid λ_ ⟨j,y,z,_,h,_⟩=>absurd h (by show¬([]:List Ps.Link)[j]? =some z;simp))
  (Lib.hid λh _=>by
   have h0:i.links.length=0:=by omega
   simp only[beqS]
   unfold Ps.Ins.none
   rw[Bool.eq_iff_iff]
   simp[h0,and_assoc])
theorem IW (w:World)(Q:Ps.Req)(sa:Option Addr)(sn sc:Nat)(h63:sn<=9223372036854775806)(hG:jI Q.ins)(hG1:Sz Q.sender)(hG2:Sz Q.ref)(hsn:sn=Q.ins.links.length)(hlk:dI w sa sn Q.ins.links):
 Calls Tryz.prog 14 #[.agg (aB Q (.slice sa sn sc))] w λe w'=>e=.returned (.int .i64 (psR Q))/\Below w.heap.size w w':=by
 have up:∀W,Below w.heap.size w W->dI W sa sn Q.ins.links:=λW hW=>hlk.below hW
 refine Tw w bM.valid Q sa sn sc _ (Ps.oL bM.valid Q.ins) (Ps.yC Q.amd) (decide Q.ins.none) (Lib.hid λW k s hk hz hB=>(yT k hk s hz W)) (Lib.hid hG1) (Lib.hid hG2)
  (Lib.hid λW hW=>rk_ins W Q.ins sa sn sc hG hsn (up W hW)) (Lib.hid λW hW=>TC W Q.ins sa sn sc h63 hsn (up W hW)) (Lib.hid λW hW=>rk_amd W Q.amd) ?_
 unfold psR Ps.zH
 symm
 simp only[beqS]
 refine bR (by first|(simp;done)|(simp;omega)) λr1=>?_
 refine tK (by simp) λr2 r3=>?_
 have k1:Q.op=0\/Q.op=1\/Q.op=2\/Q.op=3\/Q.op=4:=by omega
 rcases k1 with h|h|h|h|h
 ·simp only[h]
  by_cases hi:Ps.oL bM.valid Q.ins=0
  ·rw[hi]
   by_cases h5:Q.ins.ref=Q.ref<;>by_cases h6:Q.ins.sender=Q.sender<;>by_cases h7:Q.amd.none<;>simp[h5,h6,h7]
  ·simp[hi]
 all_goals
  simp only[h]
  by_cases h7:Q.ins.none<;>by_cases h8:Q.amd.none<;>simp[h7,h8]
def zK (W:World)(Q:Ps.Req)(lv:Value)(x:ByteArray)(e:Int):Prop:=Calls Tryz.prog 26 #[.agg (aB Q lv)] W λr W'=>r=.returned (.tuple #[.string x,.int .i64 e])/\Below W.heap.size W W'
noncomputable def rtRes (Q:Ps.Req)(e:Int)(rows:List (Option (Nat×Nat)×List Value))(f:FuncId)(us:List PV):Option Rv:=match us with
 |[.a 0 0 28]=>if f=14 then some (.val (.int .i64 e))else none
 |[.a 0 3 16]=>if f=72 then some (.sls (rsS Q.ins))else none
 |[.sl l,.s _]=>if f=71 then some (.str 2000 (Ps.bB (l.map st)))else none
 |[.sl _,.r 0 0]=>if f=73 then some (.str 8 (Ps.bw (opW Q.op)))else none
 |_=>BD rows f us
noncomputable def rtM (b:Nat)(B:Nat)(W:World)(fix:List Nat)(Q:Ps.Req)(e:Int)(rows:List (Option (Nat×Nat)×List Value)):Mem:=seX B W fix b rows (rtRes Q e rows)
noncomputable def rtC:Code:=Ev.nC (Tryz.f26.body.getD .skip)
theorem IL {B:Nat}{W:World}{fix:List Nat}{Q:Ps.Req}{e:Int}{rows:List (Option (Nat×Nat)×List Value)}(hB:B<=W.heap.size)(hf:∀g∈fix,g<W.heap.size)(hr:RowsIn W B 40 fix rows):Ok Tryz.prog (rtM 40 B W fix Q e rows):=
 mP hB hf (λk g o l h=>by
  obtain⟨rfl,h2,⟨t,h3⟩,_⟩:=cB hr k g o l h
  exact⟨h2,bv h3⟩) λk p l h=>(cB hr k p.1 p.2 l h).2.2.2
theorem xw:∀args w,(callFunc 14 args).run Tryz.prog w=.ok (.enter 14 args) w:=enters_of Tryz.func14 (by kernel_rfl) rfl
theorem xZ (w:World)(Q:Ps.Req)(a:Option Addr)(n c:Nat){R:Ending->World->Prop}
 (h:∀(W:World) (b:Act),Below w.heap.size w W->W.heap[w.heap.size]? =some (.cells (oN Q (.slice a n c)).toArray 28 (0,0))->b.defers=[]->b.tmps.size=78->b.tmps[1]? =some (.pointer (some ⟨w.heap.size,0,none⟩))->b.tmps[2]? =some (.string ⟨#[]⟩)->b.tmps[3]? =some (.int .i64 0)->rtC.wp Tryz.prog (bodyPost Tryz.prog Tryz.f26 R) b W):
 Calls Tryz.prog 26 #[.agg (aB Q (.slice a n c))] w R:=by
 go_enter Tryz.func26,Tryz.ntmps26
 refine gq λb ha hdf=>?_
 refine wp_seq ?_
 have hb:Below w.heap.size w (w.alloc (.cells (aB Q (.slice a n c)) 28)):=(Below.refl _ _).alloc (Nat.le_refl _) _
 refine QT rfl rfl rfl rfl rfl rfl rfl rfl (by decide) (by decide) (by decide) (by rw[ha];show 1<78;decide) (by rw[ha];show 2<78;decide) (by rw[ha];show 3<78;decide) (JH w Q a n c rfl (eval_at (by rw[ha];rfl))) λb b1 b2 b3 b4 b5=>?_
 have hr:(w.alloc (.cells (aB Q (.slice a n c)) 28)).heap[w.heap.size]? =some (.cells (aB Q (.slice a n c)) 28 (0,0)):=aC w _
 exact h _ b hb hr (b1.trans hdf) (b2.trans (by rw[ha];rfl)) b3 b4 b5
theorem Gi {x:ByteArray}(h:x.size<=40):Sz x:=by unfold Sz;omega
structure RtF (w:World)(Q:Ps.Req)(a:Option Addr)(n c:Nat):Prop where
 ok:psR Q=0
 len:n=Q.ins.links.length
 put:dI w a n Q.ins.links
theorem RtF.chk {w:World}{Q:Ps.Req}{a:Option Addr}{n c:Nat}(h:RtF w Q a n c)(W:World)(hW:Below w.heap.size w W):Calls Tryz.prog 14 #[.agg (aB Q (.slice a n c))] W λr W'=>r=.returned (.int .i64 0)/\Below W.heap.size W W':=by
 have hs:=je h.ok
 obtain⟨_,_,h3⟩:=Ps.lQ _ _ h.ok
 have h8:Q.ins.links.length<=8/\∀x∈Q.ins.links,x.ref.size<=40:=by
  rcases h3 with⟨_,hi,he⟩|⟨_,hm,he⟩|⟨hk,he⟩
  ·exact⟨hi.links,λx hx=>by have:=(di (by omega) (hi.link x hx).2).2;omega⟩
  ·rw[he];exact⟨Nat.zero_le _,λx hx=>by cases hx⟩
  ·rw[he];exact⟨Nat.zero_le _,λx hx=>by cases hx⟩
 have hq:=IW W Q a n c (by have:=h.len;omega) ⟨Gi hs.iref,Gi hs.isender,Gi hs.icp,Gi hs.iasset,λx hx=>Gi (h8.2 x hx)⟩ (Gi hs.sender) (Gi hs.ref) h.len (h.put.below hW)
 rw[h.ok]at hq
 exact hq
theorem SS (i:Ps.Ins):0<(rsS i).length:=by
 unfold rsS
 split
 ·simp[pgS]
 ·split
  ·simp[pyS]
  ·rw[List.length_append]
   have:0<(pdS i).length:=by unfold pdS;simp;omega
   omega
theorem TN {i:Ps.Ins}(h:i.links.length<=8):(rsS i).length<=1000:=by
 have h1:=S9 h
 have h2:=vF i
 unfold rsS
 split
 ·simp[pgS]
 ·split
  ·rw[List.length_append]
   have:(pyS i).length=10:=rfl
   omega
  ·rw[List.length_append]
   omega
theorem Qk (l:List Ps.Link)(h:∀x∈l,(x.type=0\/x.type=1)/\x.ref.size<=40):dG ((l.map (lk1 spB)).map st)=dG ((l.flatMap lkS).map st):=by
 induction l with
 |nil=>rfl
 |cons x l ih=>
  obtain⟨hx,hr⟩:=h x List.mem_cons_self
  rw[List.flatMap_cons,List.map_append,jJ,<-ih (λy hy=>h y (List.mem_cons_of_mem _ hy)),List.map_cons,List.map_cons]
  show⟨#[32]⟩++st (lk1 spB x)++_=_
  congr 1
  have e1:st (lk1 spB x)=st (K6 x.type)++spB++x.ref:=by
   unfold lk1
   rw[eO,eO,bu hr,show st (1,spB)=spB from bW (by decide)]
  have e2:(lkS x).map st=[st (K6 x.type),x.ref]:=by
   show[st (5,_),st (40,x.ref)]=_
   rw[bu hr]
   rfl
  rw[e1,e2]
  apply ByteArray.ext
  apply Array.toList_inj.1
  simp[dG,spB]
theorem ES {i:Ps.Ins}(hi:Ps.jW bM.valid i):dG ((roS i).map st)=dG ((poS i).map st):=by
 unfold roS poS
 simp only[List.map_append,jJ]
 rw[Qk i.links λx hx=>⟨(hi.link x hx).1,by have:=(di (by omega) (hi.link x hx).2).2;omega⟩]
theorem RO {i:Ps.Ins}(hi:Ps.jW bM.valid i):Ps.bB ((rsS i).map st)=Ps.bB ((psS i).map st):=by
 unfold rsS psS
 split
 ·rfl
 ·split
  ·rw[List.map_append,List.map_append,eT,eT,fJ (by simp[pyS]),fJ (by simp[pyS]),ES hi]
  ·have h0:(pdS i).map st≠[]:=by
    intro h
    have:=congrArg List.length h
    rw[List.length_map,List.length_nil]at this
    have h1:0<(pdS i).length:=by unfold pdS;simp;omega
    omega
   rw[List.map_append,List.map_append,eT,eT,fJ h0,fJ h0,ES hi]
theorem rt_sub (w:World)(i:Ps.Ins)(hi:Ps.jW bM.valid i)(a:Option Addr)(n c:Nat)(hF:RtF w (fZ i) a n c):zK w (fZ i) (.slice a n c) (Ps.bB (Ps.iY Ps.ae (fZ i) (Ps.jh i))) 0:=by
 have hs:=je hF.ok
 have hz:=(gV hF.ok).2
 have hw:Ps.bB ((rsS i).map st)=Ps.bB (Ps.iY Ps.ae (fZ i) (Ps.jh i)):=by
  rw[RO hi,show(psS i).map st=Ps.iY Ps.ae (fZ i) (Ps.jh i)from EC hi hs]
 have hz:(Ps.bB ((rsS i).map st)).size<=1024:=by rw[hw];exact hz
 rw[<-hw]
 unfold zK
 refine xZ w (fZ i) a n c λW b hb hr hd hn h1 h2 h3=>?_
 have hR:RowsIn W W.heap.size 40 [] (bI w.heap.size (fZ i) (.slice a n c)):=⟨⟨rfl,.inl (Array.getElem?_eq_some_iff.1 hr).1,⟨_,hr⟩,nY (λx e=>by cases e) hs⟩,trivial⟩
 refine bE (M:=rtM 40 W.heap.size W [] (fZ i) 0 (bI w.heap.size (fZ i) (.slice a n c))) (n:=78) (code:=rtC) (K:=[(1,.p 0 0),(2,.s (0,⟨#[]⟩)),(3,.v (.int .i64 0))]) (IL (Nat.le_refl _) (λg hg=>by cases hg) hR) [2,3] (us:=[.s (2000,Ps.bB ((rsS i).map st)),.v (.int .i64 0)])
  (ps:=[aL W.heap.size W (Ev.aM (bI w.heap.size (fZ i) (.slice a n c))) 14 [.a 0 0 28] (.val (.int .i64 0)),aL W.heap.size W (Ev.aM (bI w.heap.size (fZ i) (.slice a n c))) 72 [.a 0 3 16] (.sls (rsS i)),aL W.heap.size W (Ev.aM (bI w.heap.size (fZ i) (.slice a n c))) 71 [.sl (rsS i),.s (1,⟨#[32]⟩)] (.str 2000 (Ps.bB ((rsS i).map st)))]) (by kernel_rfl)
  ⟨kE (x:=.agg (aB (fZ i) (.slice a n c))) xw rfl λw' hw'=>hF.chk w' (hb.trans (hw'.mono hb.size)),rZ (x:=.agg (aA i (.slice a n c)).toArray) QI rfl λw' hw'=>Lb w' i a n c ⟨hi,hs,hF.len,hF.put.below (hb.trans (hw'.mono hb.size))⟩,C8 (SS i) (TN hi.links) (by omega),trivial⟩ (aF (aF (aF (aZ hn hd) h3 rfl) h2 rfl) h1 rfl) (Sw.start _) ?_
 intro b w' _ hd hv hS
 refine nJ rfl hd hv ⟨?_,hb.trans ((az rfl hS).mono hb.size)⟩
 rw[bu (by omega)]
structure AmdLe (m:Ps.Amd):Prop where
 am:m.hasAmount=true->0<=m.amount/\m.amount<=Ps.bJ
 day:0<=m.settleDay/\m.settleDay<=Ps.bP
 prio:0<=m.priority/\m.priority<=2
 lot:m.partial_=true->0<=m.minLot/\m.minLot<=Ps.bJ
def ow (k:Int)(s r:ByteArray):List SB:=[(8,Ps.bw (opW k)),(40,r),wb Ps.sBy,(40,s)]
def lF (g h:Nat)(Q:Ps.Req)(lv:Value):List (Option (Nat×Nat)×List Value):=[(some (g,0),oN Q lv),(some (h,0),aG Q.amd)]
theorem O9 (w:World)(k:Int)(hk:k=1\/k=2\/k=3\/k=4)(s r:ByteArray)(m:Ps.Amd)(hm:AmdLe m)(a:Option Addr)(n c:Nat)(X:ByteArray)(hX:Ps.bB ((ow k s r++chS m).map st)=X)(hz:X.size<=1024)(hF:RtF w {op:=k,sender:=s,ref:=r,amd:=m} a n c):zK w {op:=k,sender:=s,ref:=r,amd:=m} (.slice a n c) X 0:=by
 have hs:=je hF.ok
 have hcl:=JY m
 subst hX
 unfold zK
 refine xZ w _ a n c λW b hb hr hd hn h1 h2 h3=>?_
 obtain⟨g,hg⟩:∃g,g=w.heap.size:=⟨_,rfl⟩
 rw[<-hg]at hr h1
 have hgW:g<W.heap.size:=(Array.getElem?_eq_some_iff.1 hr).1
 have hR:RowsIn W W.heap.size 40 [] (bI g {op:=k,sender:=s,ref:=r,amd:=m} (.slice a n c)):=⟨⟨rfl,.inl hgW,⟨_,hr⟩,nY (λx e=>by cases e) hs⟩,trivial⟩
 refine C9 (M:=rtM 40 W.heap.size W [] {op:=k,sender:=s,ref:=r,amd:=m} 0 (bI g {op:=k,sender:=s,ref:=r,amd:=m} (.slice a n c))) (n:=78) (K:=[(1,.p 0 0),(2,.s (0,⟨#[]⟩)),(3,.v (.int .i64 0))]) (c:=(Ev.aX (Ev.bL 7) rtC).1) (fs:=(Ev.aX (Ev.bL 7) rtC).2) (IL (Nat.le_refl _) (λg hg=>by cases hg) hR) [1,5] (us:=[.p 0 0,.sl (ow k s r)])
  (ps:=[aL W.heap.size W (Ev.aM (bI g {op:=k,sender:=s,ref:=r,amd:=m} (.slice a n c))) 14 [.a 0 0 28] (.val (.int .i64 0)),aL W.heap.size W (Ev.aM (bI g {op:=k,sender:=s,ref:=r,amd:=m} (.slice a n c))) 73 [.sl [(6,⟨#[115,117,98,109,105,116]⟩),(5,⟨#[97,109,101,110,100]⟩),(6,⟨#[99,97,110,99,101,108]⟩),(4,⟨#[104,111,108,100]⟩),(6,⟨#[114,101,115,117,109,101]⟩)],.r 0 0] (.str 8 (Ps.bw (opW k)))])
  (by
   clear hR hr hF hd hn h1 h2 h3 hs hcl hz hgW
   rcases hk with rfl|rfl|rfl|rfl<;>(show _=_;kernel_rfl))
  ⟨kE (x:=.agg (aB {op:=k,sender:=s,ref:=r,amd:=m} (.slice a n c))) xw rfl λw' hw'=>hF.chk w' (hb.trans (hw'.mono hb.size)),by
   rcases hk with rfl|rfl|rfl|rfl
   ·exact gY (j:=1) rfl rfl (by kernel_rfl) (by decide)
   ·exact gY (j:=2) rfl rfl (by kernel_rfl) (by decide)
   ·exact gY (j:=3) rfl rfl (by kernel_rfl) (by decide)
   ·exact gY (j:=4) rfl rfl (by kernel_rfl) (by decide),trivial⟩ (aF (aF (aF (aZ hn hd) h3 rfl) h2 rfl) h1 rfl) (Sw.start _) ?_
 clear h1 h2 h3
 intro b1 w1 hb1 hbd hv hS
 obtain⟨⟨v1,e1,d1⟩,hv⟩:=hv.cons
 obtain⟨⟨v5,e5,d5⟩,-⟩:=hv.cons
 have d1:v1=.pointer (some ⟨g,0,none⟩):=d1
 subst d1
 have hr1:=(hS.block g (.inl hgW)).trans hr
 have hsz:W.heap.size<=w1.heap.size:=hS.size
 have hbw1:Below W.heap.size W w1:=az rfl hS
 have hla:=Sl g {op:=k,sender:=s,ref:=r,amd:=m} (.slice a n c) w1 hr1
 have hown:=pO d5
 obtain⟨h,hh⟩:∃h,h=w1.heap.size:=⟨_,rfl⟩
 refine TD (A1:=.pointer (some ⟨g,0,none⟩)) (A2:=.pointer (some ⟨g,19,none⟩)) (A3:=.pointer (some ⟨h,0,none⟩)) (W1:=w1.alloc (.cells qI 26)) (W:=w1.alloc (.cells (aG m).toArray 26)) rfl rfl rfl rfl rfl rfl rfl rfl rfl rfl rfl rfl (by decide) e1 (by rw[hb1];decide) (by rw[hb1];decide) (by rw[hb1];decide) (by go_simp) hla (by rw[hh];exact al_amd w1) (by rw[hh];exact sv_amd w1 _) λb2 f1 f2 f3 f4=>?_
 have hrA:(w1.alloc (.cells (aG m).toArray 26)).heap[h]? =some (.cells (aG m).toArray 26 (0,0)):=by rw[hh];exact aC w1 _
 have hbel:Below w1.heap.size w1 (w1.alloc (.cells (aG m).toArray 26)):=(Below.refl _ _).alloc (Nat.le_refl _) _
 have hlt2:h<(w1.alloc (.cells (aG m).toArray 26)).heap.size:=(Array.getElem?_eq_some_iff.1 hrA).1
 generalize w1.alloc (.cells (aG m).toArray 26)=W2 at hrA hbel hlt2⊢
 have hr2:=(hbel.block g (by omega)).trans hr1
 have hown2:W2.ownsRow W.heap.size 9 1 v5 (ow k s r).length (((ow k s r).map st).map .string):=own_below hown hbel
 have hne:∀q,v5.ownBlock=some q->q∉[h]:=λq hq hm=>by
  rw[List.mem_singleton]at hm
  subst hm
  have:=(World.ownsRow.lt (hown:w1.ownsRow W.heap.size 9 1 v5 (ow k s r).length (((ow k s r).map st).map .string)) q hq).2
  omega
 have hbW2:Below W.heap.size W W2:=hbw1.trans (hbel.mono hsz)
 have hR2:RowsIn W2 W.heap.size 40 [h] (lF g h {op:=k,sender:=s,ref:=r,amd:=m} (.slice a n c)):=⟨⟨rfl,.inl hgW,⟨_,hr2⟩,nY (λx e=>by cases e) hs⟩,⟨rfl,.inr (List.mem_singleton.2 rfl),⟨_,hrA⟩,BH⟩,trivial⟩
 have hO2:Ok Tryz.prog (rtM 40 W.heap.size W2 [h] {op:=k,sender:=s,ref:=r,amd:=m} 0 (lF g h {op:=k,sender:=s,ref:=r,amd:=m} (.slice a n c))):=IL (by omega) (λq hq=>by rw[List.mem_singleton]at hq;omega) hR2
 have hF2:FrP (rtM 40 W.heap.size W2 [h] {op:=k,sender:=s,ref:=r,amd:=m} 0 (lF g h {op:=k,sender:=s,ref:=r,amd:=m} (.slice a n c))) 78 [(1,.p 0 0),(5,.sl (ow k s r)),(6,.p 1 0)] b2 W2:=aF (aF (aF (aZ (f2.trans hb1) (f1.trans hbd)) f3 rfl) ((f4 5 (by decide) (by decide) (by decide)).trans e5) (pJ (M:=rtM 40 W.heap.size W2 [h] {op:=k,sender:=s,ref:=r,amd:=m} 0 (lF g h {op:=k,sender:=s,ref:=r,amd:=m} (.slice a n c))) hown2 hne)) ((f4 1 (by decide) (by decide) (by decide)).trans e1) rfl
 show(Ev.fmC (Ev.aX (Ev.bL 7) rtC).2 0).wp _ _ _ _
 clear hv hS hr hr1 hla hh f1 f2 f3 f4 hrA hsz e1 e5 d5 hbd hb1 hbw1 hown hown2 hne hbel hR hR2 hr2
 refine bE hO2 [2,3] (us:=[.s (2000,Ps.bB ((ow k s r++chS m).map st)),.v (.int .i64 0)])
  (ps:=cond m.hasAmount [aL W.heap.size W2 (Ev.aM (lF g h {op:=k,sender:=s,ref:=r,amd:=m} (.slice a n c))) 74 [.r 1 4] (.str 20 (Ps.bO m.amount))] []++(cond m.hasSettleDay [aL W.heap.size W2 (Ev.aM (lF g h {op:=k,sender:=s,ref:=r,amd:=m} (.slice a n c))) 75 [.r 1 5] (.str 10 (Ps.ae m.settleDay))] []++(cond m.hasPriority [aL W.heap.size W2 (Ev.aM (lF g h {op:=k,sender:=s,ref:=r,amd:=m} (.slice a n c))) 76 [.r 1 6] (.str 10 (Ps.bw (Ps.bX m.priority)))] []++(cond (m.hasPartial&&m.partial_) [aL W.heap.size W2 (Ev.aM (lF g h {op:=k,sender:=s,ref:=r,amd:=m} (.slice a n c))) 77 [.r 1 8] (.str 20 (Ps.bH m.minLot))] []++[aL W.heap.size W2 (Ev.aM (lF g h {op:=k,sender:=s,ref:=r,amd:=m} (.slice a n c))) 71 [.sl (ow k s r++chS m),.s (1,⟨#[32]⟩)] (.str 2000 (Ps.bB ((ow k s r++chS m).map st)))]))))
  (by
   clear hO2 hF2 hbW2 hlt2 hm hF hs hcl hz hk hd hn hb hgW hg
   obtain⟨x1,x2,x3,x4,x5,x6,x7,x8,x9⟩:=m
   cases x1<;>cases x2<;>cases x3<;>cases x4<;>cases x8<;>(show _=_;kernel_rfl))
  (fo (jF λh=>Ad rfl (hm.am h)) (fo (jF λ_=>wO rfl hm.day) (fo (jF λ_=>JD rfl hm.prio) (fo (jF λh=>oK rfl (hm.lot (Bool.and_eq_true_iff.1 h).2)) ⟨C8 (by rw[List.length_append];show 0<4+_;omega) (by rw[List.length_append];show 4+_<=_;omega) (by omega),trivial⟩)))) hF2 (Sw.start _) ?_
 intro b3 w3 _ hd hv hS
 refine nJ rfl hd hv ⟨?_,?_⟩
 ·rw[bu (by omega)]
 ·exact hb.trans ((hbW2.trans hS.to).mono hb.size)
end Go.Proofs.YtnjjeapcalkmaaaGreatDoor
