/-
  Part 4 of a proof; written short by a program out of longer texts of mine.
-/
import Derived.Test.YtnjjeapcalkmaaaGreatDoorPiC
set_option maxRecDepth 100000
set_option maxHeartbeats 4000000
set_option linter.unusedVariables false
set_option linter.unusedSimpArgs false
namespace Go.Proofs.YtnjjeapcalkmaaaGreatDoor.Ord
open Go
open Go.Proofs.YtnjjeapcalkmaaaGreatDoor (Kept)
section
variable {P : Program} {ops : Array Oper} {Q : Exit → Act → World → Prop} {D : Nat → Nat → Bool}
def kZ (P:Program)(T:Value->World->Prop):Result Next->Prop
 | .ok (.value u) w=>T u w
 | .ok (.enter f args) w=>Calls P f args w λe w'=>∃v,e=.returned v/\T v w'
 |_=>False
def gZ (P:Program)(ops:Array Oper)(S:World->Prop)(T:Value->World->Prop)(o:Oper)(a:Act):Prop:=Region.wanted o (yielded ops a.tmps)=true/\∀w,S w->kZ P T ((execOp a.eval o).run P w)
theorem gZ.wpOp {S:World->Prop}{T:Value->World->Prop}{i:Nat}{o:Oper}{a:Act}(hi:ops[i]? =some o)(hy:gZ P ops S T o a){K:Act->World->Prop}{w:World}(hS:S w)(h:∀v w',T v w'->K (a.put o.dst v) w'):wpOp P ops Q i K a w:=by
 unfold Go.wpOp
 simp only[hi,hy.1,if_true]
 refine .inl ?_
 have hg:=hy.2 w hS
 unfold Oper.wp
 generalize (execOp a.eval o).run P w=r at hg
 unfold kZ at hg
 split at hg
 ·exact h _ _ hg
 ·refine Calls.mono hg ?_
  rintro e w' ⟨v,rfl,hs⟩
  exact h _ _ hs
 ·exact hg.elim
theorem gZ.of_looks {S:World->Prop}{T:Value->World->Prop}{o:Oper}{a b:Act}(hs:∀cs b,o.op≠.select cs b)(hy:gZ P ops S T o a)(h:∀d∈o.looksAt ops,a.tmps[d]? =b.tmps[d]?):gZ P ops S T o b:=by
 have e1:execOp b.eval o=execOp a.eval o:=execOp_congr o hs λx hx=>by
  cases x with
  |tmp t=>
   have:=h t (List.mem_append_left _ (List.mem_filterMap.2 ⟨.tmp t,by simpa using hx,rfl⟩))
   simp only[Act.eval,Array.getD_eq_getD_getElem?,this]
  |const v=>rfl
  |global g=>rfl
  |func f=>rfl
 have e2:Region.wanted o (yielded ops b.tmps)=Region.wanted o (yielded ops a.tmps):=by
  unfold Region.wanted
  cases hg:o.guard with
  |none=>rfl
  |some gw=>
   obtain⟨g,want⟩:=gw
   have hyd:yielded ops b.tmps g=yielded ops a.tmps g:=by
    unfold yielded
    cases ht:(ops[g]?).bind (·.dst)with
    |none=>rfl
    |some t=>
     have:=h t (by simp[Oper.looksAt,hg,ht])
     show(match b.tmps[t]? with|some (.bool x)=>some x|_=>none)=(match a.tmps[t]? with|some (.bool x)=>some x|_=>none)
     rw[this]
   simp only[hyd]
 unfold gZ at *
 rw[e1,e2]
 exact hy
theorem Be {X:Type}{S0:(Nat->Bool)->World->Prop}{S1:X->(Nat->Bool)->World->Prop}{a0:Act}{vs0:Nat->Value}{vs1:X->Nat->Value}{acts0:Nat->Act}{acts1:X->Nat->Act}(c:Nat)(hc:c<ops.size)(hd:cZ ops=true)(hD:∀i o,ops[i]? =some o->∀j,D i j=true->∃e∈o.after,Region.binds .any e=true/\(e.on=j\/D e.on j=true))(hs:Region.noSelect ops=true)(h0:acts0 0=a0)(h1:∀x,acts1 x 0=a0)(hDc:D c c=false)
 (hv0:∀i o,ops[i]? =some o->(D i c=false->∀dn:Nat->Bool,dn i=false->(∀j,D i j=true->dn j=true)->(∀j,D j i=true->dn j=false)->if i=c then gZ P ops (S0 dn) (λv w=>∃x,v=vs1 x i/\S1 x (λj=>dn j||j==i) w) o (acts0 i)else aj P ops (S0 dn) (S0 (λj=>dn j||j==i)) o (vs0 i) (acts0 i))/\acts0 (i+1)=(acts0 i).put o.dst (vs0 i))
 (hv1:∀x i o,ops[i]? =some o->(∀dn:Nat->Bool,dn i=false->(∀j,D i j=true->dn j=true)->(∀j,D j i=true->dn j=false)->aj P ops (S1 x dn) (S1 x (λj=>dn j||j==i)) o (vs1 x i) (acts1 x i))/\acts1 x (i+1)=(acts1 x i).put o.dst (vs1 x i))
 (hvx:∀x i,i≠c->D i c=false->vs1 x i=vs0 i) (hQ:∀x w,S1 x (λj=>decide (j<ops.size)) w->Q .normal (acts1 x ops.size) w):
 ∀(fuel:Nat) (listed:Array Bool) (a:Act) (w:World),listed.getD c false=false->listed.size=ops.size->At ops a0 vs0 (λi=>listed.getD i false=true) a->S0 (λj=>listed.getD j false) w->(∀i j,listed.getD i false=true->D i j=true->listed.getD j false=true)->(∀(j:Nat) (oj:Oper),ops[j]? =some oj->listed.getD j false=true->∀e∈oj.after,Region.binds .any e=true->listed.getD e.on false=true)->(List.range ops.size).countP (λi=>!listed.getD i true)<=fuel->
  wpAny P .any ops Q fuel listed a w:=by
 have hat:∀k,k<=ops.size->At ops a0 vs0 (λi=>i<k) (acts0 k):=by
  intro k
  induction k with
  |zero=>
   intro _
   rw[h0]
   exact⟨rfl,rfl,λ_ _ _ _ h=>absurd h (Nat.not_lt_zero _),λ_ _=>rfl⟩
  |succ k ih=>
   intro hk
   obtain⟨o,ho⟩:∃o,ops[k]? =some o:=⟨_,Array.getElem?_eq_getElem (by omega)⟩
   rw[(hv0 k o ho).2]
   exact(ih (by omega)).putW hd ho (Nat.lt_irrefl k) (λj=>by omega)
 have hall:∀(listed:Array Bool),listed.size=ops.size->Region.ready .any ops listed=[]->∀i,i<ops.size->listed.getD i false=true:=by
  intro listed hsz hr i
  induction i using Nat.strongRecOn with
  |ind i ih=>
   intro hi
   obtain⟨o,ho⟩:∃o,ops[i]? =some o:=⟨_,Array.getElem?_eq_getElem hi⟩
   cases hb:listed.getD i false with
   |true=>rfl
   |false=>
    exfalso
    have hmem:i∈Region.ready .any ops listed:=by
     rw[mem_ready]
     refine⟨?_,o,ho,λe he hbd=>?_⟩
     ·have:i<listed.size:=by omega
      simp[this]at hb⊢
      exact hb
     ·have hlt:=dh hd ho he hbd
      exact ih e.on hlt (by omega)
    rw[hr]at hmem
    cases hmem
 have hend:∀(listed:Array Bool) (a:Act) (w:World),listed.getD c false=false->listed.size=ops.size->Region.ready .any ops listed=[]->Q .normal a w:=by
  intro listed a w hlc hsz hr
  have:=hall listed hsz hr c hc
  rw[hlc]at this
  cases this
 intro fuel
 induction fuel with
 |zero=>
  intro listed a w hlc hsz hA hS hI Mm hcnt
  have hr:Region.ready .any ops listed=[]:=by
   cases hr:Region.ready .any ops listed with
   |nil=>rfl
   |cons x xs=>
    exfalso
    have hx:x∈Region.ready .any ops listed:=by rw[hr];exact List.mem_cons_self
    obtain⟨h1,o,ho,_⟩:=mem_ready.1 hx
    have hlt:x<ops.size:=(Array.getElem?_eq_some_iff.1 ho).1
    have:0<(List.range ops.size).countP (λi=>!listed.getD i true):=List.countP_pos_iff.2 ⟨x,List.mem_range.2 hlt,by rw[h1];rfl⟩
    omega
  exact⟨hr,hend listed a w hlc hsz hr⟩
 |succ fuel ih=>
  intro listed a w hlc hsz hA hS hI Mm hcnt
  refine⟨hend listed a w hlc hsz,λi hi=>?_⟩
  obtain⟨hun,o,ho,hafter⟩:=mem_ready.1 hi
  have hlt:i<ops.size:=(Array.getElem?_eq_some_iff.1 ho).1
  have hsel:=λcs b=>Region.noSelect_spec hs i o cs b ho
  have hnl:¬listed.getD i false=true:=by
   have:i<listed.size:=by omega
   simp[this]at hun⊢
   exact hun
  have hph:listed.getD i false=false:=by
   cases hb:listed.getD i false with
   |false=>rfl
   |true=>exact absurd hb hnl
  have hDi:∀j,D i j=true->listed.getD j false=true:=λj hdi=>by
   obtain⟨e,he,hb,h1|h1⟩:=hD i o ho j hdi
   ·rw[<-h1];exact hafter e he hb
   ·exact hI e.on j (hafter e he hb) h1
  have hEi:∀j,D j i=true->listed.getD j false=false:=λj hdj=>by
   cases hb:listed.getD j false with
   |false=>rfl
   |true=>exact absurd (hI j i hb hdj) hnl
  have hic:D i c=false:=by
   cases hb:D i c with
   |false=>rfl
   |true=>have:=hDi c hb;rw[hlc]at this;cases this
  have hlk:∀d∈o.looksAt ops,(acts0 i).tmps[d]? =a.tmps[d]?:=λd hdl=>
   (hat i (by omega)).sameW hd hA ho (Nat.lt_irrefl i) hnl (λe he hb=>⟨dh hd ho he hb,hafter e he hb⟩) (λj hij h=>absurd h (by omega)) (λj oj hj hl=>Mm j oj hj hl) hdl
  have hyc:=(hv0 i o ho).1 hic _ hph hDi hEi
  have Aa:(λj=>(listed.setIfInBounds i true).getD j false)=(λj=>listed.getD j false||j==i):=by
   funext j
   by_cases hik:i=j
   ·subst hik
    have:i<listed.size:=by omega
    simp[this]
   ·rw[getD_set_ne false hik]
    have:(j==i)=false:=by rw[beq_eq_false_iff_ne];exactλe=>hik e.symm
    rw[this,Bool.or_false]
  have hsz':(listed.setIfInBounds i true).size=ops.size:=by simpa using hsz
  have hA':At ops a0 vs0 (λj=>(listed.setIfInBounds i true).getD j false=true) (a.put o.dst (vs0 i)):=by
   refine hA.putW hd ho hnl λj=>?_
   by_cases hij:i=j
   ·subst hij
    have:i<listed.size:=by omega
    simp[this]
   ·rw[getD_set_ne false hij]
    constructor
    ·exact .inl
    ·rintro(h|rfl)
     ·exact h
     ·exact absurd rfl hij
  have hI':∀i' j,(listed.setIfInBounds i true).getD i' false=true->D i' j=true->(listed.setIfInBounds i true).getD j false=true:=by
   intro i' j hj hdj
   have hlj:listed.getD j false=true:=by
    by_cases hij:i=i'
    ·subst hij
     exact hDi j hdj
    ·rw[getD_set_ne false hij]at hj
     exact hI i' j hj hdj
   by_cases hie:i=j
   ·have hne:¬listed.getD j false=true:=by rw[<-hie];exact hnl
    exact absurd hlj hne
   ·rw[getD_set_ne false hie];exact hlj
  have hCl':∀(j:Nat) (oj:Oper),ops[j]? =some oj->(listed.setIfInBounds i true).getD j false=true->∀e∈oj.after,Region.binds .any e=true->(listed.setIfInBounds i true).getD e.on false=true:=by
   intro j oj hj hl e he hb
   have hle:listed.getD e.on false=true:=by
    by_cases hij:i=j
    ·subst hij
     rw[ho]at hj;cases hj
     exact hafter e he hb
    ·rw[getD_set_ne false hij]at hl
     exact Mm j oj hj hl e he hb
   by_cases hie:i=e.on
   ·have hne:¬listed.getD e.on false=true:=by rw[<-hie];exact hnl
    exact absurd hle hne
   ·rw[getD_set_ne false hie];exact hle
  have Qb:(List.range ops.size).countP (λi'=>!(listed.setIfInBounds i true).getD i' true)<=fuel:=by
   have:=iQ (p:=λi=>!listed.getD i true) (q:=λj=>!(listed.setIfInBounds i true).getD j true) (λj hj=>by
    by_cases hij:i=j
    ·subst hij;simp only[hun];rfl
    ·rw[getD_set_ne true hij]at hj;exact hj) (List.range ops.size) i (List.mem_range.2 hlt) (by simp only[hun];rfl) (by
     have:i<listed.size:=by omega
     simp[this])
   omega
  by_cases hci:i=c
  ·subst hci
   rw[if_pos rfl]at hyc
   refine(hyc.of_looks hsel hlk).wpOp ho hS λv w' hS'=>?_
   obtain⟨x,rfl,hx⟩:=hS'
   have hAv:At ops a0 (vs1 x) (λj=>listed.getD j false=true) a:=by
    refine⟨hA.defers,hA.size,λk ok d hk hl hdk hds=>?_,hA.rest⟩
    have hki:k≠i:=λe=>hnl (by rw[<-e];exact hl)
    have hkd:D k i=false:=by
     cases hb:D k i with
     |false=>rfl
     |true=>exact absurd (hI k i hl hb) hnl
    rw[hvx x k hki hkd]
    exact hA.done k ok d hk hl hdk hds
   have hAx:At ops a0 (vs1 x) (λj=>(listed.setIfInBounds i true).getD j false=true) (a.put o.dst (vs1 x i)):=by
    refine hAv.putW hd ho hnl λj=>?_
    by_cases hij:i=j
    ·subst hij
     have:i<listed.size:=by omega
     simp[this]
    ·rw[getD_set_ne false hij]
     constructor
     ·exact .inl
     ·rintro(h|rfl)
      ·exact h
      ·exact absurd rfl hij
   refine rM (S:=S1 x) (D:=D) (acts:=acts1 x) (vs:=vs1 x) (a0:=a0) hd hD hs (h1 x) (hv1 x) (hQ x) fuel _ _ w' hsz' hAx (by rw[Aa];exact hx) hI' hCl' Qb
  ·rw[if_neg hci]at hyc
   refine(hyc.of_looks hsel hlk).wpOp ho hS λw' hS'=>ih (listed.setIfInBounds i true) _ w' (by rw[getD_set_ne false hci];exact hlc) hsz' hA' (by rw[Aa];exact hS') hI' hCl' Qb
theorem uQ (P:Program){a:Act}(n:Nat)(vs:List Value)(hvl:vs.length=n)(hsz:ops.size=n)(hd:eX ops=true)(hs:Region.noSelect ops=true)(hb:bP ops a.tmps.size=true):
 ∃acts:Nat->Act,acts 0=a/\(∀(i:Nat) (o:Oper),ops[i]? =some o->acts (i+1)=(acts i).put o.dst (vs.getD i undef))/\bg (acts n).eval (ops.toList.take n) vs/\Kept ops a (acts n)/\
  ∀(i:Nat) (o:Oper),ops[i]? =some o->(∀(S T:World->Prop),YF P S T (acts n).eval vs o (vs.getD i undef)->aj P ops S T o (vs.getD i undef) (acts i))/\∀(S:World->Prop) (T:Value->World->Prop),gF vs o=true->(∀w,S w->kZ P T ((execOp (acts n).eval o).run P w))->gZ P ops S T o (acts i):=by
 obtain⟨acts,ha0,Kw,hat,kR,hrest,kS,NP⟩:=yY (ops:=ops) (a:=a) n vs hvl (by omega) hd hb
 refine⟨acts,ha0,Kw,kR,⟨(hat n (by omega)).defers,(hat n (by omega)).size,hrest⟩,λi o ho=>?_⟩
 have hi:i<n:=by have:=(Array.getElem?_eq_some_iff.1 ho).1;omega
 obtain⟨nE,hwant⟩:=NP i o ho hi
 refine⟨λS T yy=>yy.to hs ho ⟨nE,hwant⟩,λS T hw hg=>?_⟩
 have hyn:gZ P ops S T o (acts n):=⟨by rw[hwant];exact hw,hg⟩
 exact hyn.of_looks (λcs b=>Region.noSelect_spec hs i o cs b ho) nE
def CS {X:Type}(P:Program)(S0:(Nat->Bool)->World->Prop)(S1:X->(Nat->Bool)->World->Prop)(vs1:X->List Value)(D:Nat->Nat->Bool)(c:Nat)(ρ:Operand->Value)(vs:List Value):Nat->List Oper->List Value->Prop
 |k,o::l,v::m=>(D k c=false->∀dn:Nat->Bool,dn k=false->(∀j,D k j=true->dn j=true)->(∀j,D j k=true->dn j=false)->if k=c then gF vs o=true/\∀w,S0 dn w->kZ P (λv w=>∃x,v=(vs1 x).getD k undef/\S1 x (λj=>dn j||j==k) w) ((execOp ρ o).run P w)else YF P (S0 dn) (S0 (λj=>dn j||j==k)) ρ vs o v)/\CS P S0 S1 vs1 D c ρ vs (k+1) l m
 |_,_,_=>True
theorem CS.get {X:Type}{P:Program}{S0:(Nat->Bool)->World->Prop}{S1:X->(Nat->Bool)->World->Prop}{vs1:X->List Value}{D:Nat->Nat->Bool}{c:Nat}{ρ:Operand->Value}{vs:List Value}:∀{k:Nat} {l:List Oper} {m:List Value} (i:Nat) (o:Oper) (v:Value),CS P S0 S1 vs1 D c ρ vs k l m->l[i]? =some o->m[i]? =some v->
 D (k+i) c=false->∀dn:Nat->Bool,dn (k+i)=false->(∀j,D (k+i) j=true->dn j=true)->(∀j,D j (k+i)=true->dn j=false)->if k+i=c then gF vs o=true/\∀w,S0 dn w->kZ P (λv w=>∃x,v=(vs1 x).getD (k+i) undef/\S1 x (λj=>dn j||j==(k+i)) w) ((execOp ρ o).run P w)else YF P (S0 dn) (S0 (λj=>dn j||j==(k+i))) ρ vs o v
 |_,[],_,i,o,v,_,h,_=>by simp at h
 |_,_::_,[],i,o,v,_,_,h=>by simp at h
 |k,_::_,_::_,0,o,v,h,h1,h2=>by
  simp at h1 h2
  subst h1;subst h2
  exact h.1
 |k,_::_,_::_,i+1,o,v,h,h1,h2=>by
  have:=CS.get (k:=k+1) i o v h.2 (by simpa using h1) (by simpa using h2)
  rw[show k+1+i=k+(i+1)from by omega]at this
  exact this
theorem sW {X:Type}{id:Nat}{a:Act}{w:World}(S0:(Nat->Bool)->World->Prop)(S1:X->(Nat->Bool)->World->Prop)(D:Nat->Nat->Bool)(hD:∀i o,ops[i]? =some o->∀j,D i j=true->∃e∈o.after,Region.binds .any e=true/\(e.on=j\/D e.on j=true))(c n:Nat)(hc:c<n)(hDc:D c c=false)(vs0:List Value)(vs1:X->List Value)(hvl0:vs0.length=n)(hvl1:∀x,(vs1 x).length=n)(hsz:ops.size=n)
 (hvx:∀x i,i≠c->D i c=false->(vs1 x).getD i undef=vs0.getD i undef) (hm:P.follows .mixedOrders=true) (hd:eX ops=true) (hdw:cZ ops=true) (hs:Region.noSelect ops=true) (hb:bP ops a.tmps.size=true) (hS:S0 (λ_=>false) w.drew)
 (hY0:∀ρ:Operand->Value,bg ρ (ops.toList.take n) vs0->(∀t:Nat,(∀o:Oper,o∈ops.toList->o.dst≠some t)->ρ (.tmp t)=a.eval (.tmp t))->(∀v,ρ (.const v)=v)->(∀f,ρ (.func f)=.func (.func f) #[] #[])->CS P S0 S1 vs1 D c ρ vs0 0 (ops.toList.take n) vs0)
 (hY1:∀x,∀ρ:Operand->Value,bg ρ (ops.toList.take n) (vs1 x)->(∀t:Nat,(∀o:Oper,o∈ops.toList->o.dst≠some t)->ρ (.tmp t)=a.eval (.tmp t))->(∀v,ρ (.const v)=v)->(∀f,ρ (.func f)=.func (.func f) #[] #[])->qE P (S1 x) D ρ (vs1 x) 0 (ops.toList.take n) (vs1 x))
 (hend:∀(x:X) (b:Act) (w':World),S1 x (λj=>decide (j<n)) w'->Kept ops a b->bg b.eval (ops.toList.take n) (vs1 x)->Q .normal b w'):
 (Code.region id ops true).wp P Q a w:=by
 obtain⟨acts0,h0,hA0,hD0,hK0,hk0⟩:=uQ (ops:=ops) P (a:=a) n vs0 hvl0 hsz hd hs hb
 have hex:=λx=>uQ (ops:=ops) P (a:=a) n (vs1 x) (hvl1 x) hsz hd hs hb
 obtain⟨acts1,h1⟩:=Classical.axiomOfChoice hex
 have ev:∀(b:Act),Kept ops a b->∀t:Nat,(∀o:Oper,o∈ops.toList->o.dst≠some t)->b.eval (.tmp t)=a.eval (.tmp t):=λb hK t h=>by
  show b.tmps.getD t undef=a.tmps.getD t undef
  rw[Array.getD_eq_getD_getElem?,Array.getD_eq_getD_getElem?,hK.rest t h]
 have y00:=hY0 _ hD0 (ev _ hK0) (λ_=>rfl) (λ_=>rfl)
 have y0:∀i o,ops[i]? =some o->D i c=false->∀dn:Nat->Bool,dn i=false->(∀j,D i j=true->dn j=true)->(∀j,D j i=true->dn j=false)->if i=c then gF vs0 o=true/\∀w,S0 dn w->kZ P (λv w=>∃x,v=(vs1 x).getD i undef/\S1 x (λj=>dn j||j==i) w) ((execOp (acts0 n).eval o).run P w)else YF P (S0 dn) (S0 (λj=>dn j||j==i)) (acts0 n).eval vs0 o (vs0.getD i undef):=λi o ho hic dn d1 d2 d3=>by
  have hi:i<n:=by have:=(Array.getElem?_eq_some_iff.1 ho).1;omega
  have hv:vs0[i]? =some (vs0.getD i undef):=by
   rw[List.getD_eq_getElem?_getD,List.getElem?_eq_getElem (by rw[hvl0];exact hi)];rfl
  have:=y00.get i o _ (by rw[List.getElem?_take,if_pos hi];simpa using ho) hv (by simpa using hic) dn (by simpa using d1) (by simpa using d2) (by simpa using d3)
  simp only[Nat.zero_add]at this
  exact this
 have y1:=λx=>hY1 x _ (h1 x).2.2.1 (ev _ (h1 x).2.2.2.1) (λ_=>rfl) (λ_=>rfl)
 refine wp_region_any hm (Be (S0:=S0) (S1:=S1) (D:=D) (acts0:=acts0) (acts1:=acts1) (vs0:=λi=>vs0.getD i undef) (vs1:=λx i=>(vs1 x).getD i undef) (a0:=a) c (by rw[hsz];exact hc) hdw hD hs h0 (λx=>(h1 x).1) hDc (λi o ho=>⟨λhic dn d1 d2 d3=>by
  have hy:=y0 i o ho hic dn d1 d2 d3
  by_cases he:i=c
  ·rw[if_pos he]at hy⊢
   exact(hk0 i o ho).2 _ _ hy.1 hy.2
  ·rw[if_neg he]at hy⊢
   exact(hk0 i o ho).1 _ _ hy,hA0 i o ho⟩)
  (λx i o ho=>⟨λdn d1 d2 d3=>((h1 x).2.2.2.2 i o ho).1 _ _ ?_,(h1 x).2.1 i o ho⟩) hvx (λx w' hw'=>?_) ops.size _ a _ ?_ (by simp) ?_ ?_ (λi' j' hj _=>?_) (λj oj hoj hj=>?_) ?_)
 ·have hi:i<n:=by have:=(Array.getElem?_eq_some_iff.1 ho).1;omega
  have hv:(vs1 x)[i]? =some ((vs1 x).getD i undef):=by
   rw[List.getD_eq_getElem?_getD,List.getElem?_eq_getElem (by rw[hvl1];exact hi)];rfl
  have:=(y1 x).get i o _ (by rw[List.getElem?_take,if_pos hi];simpa using ho) hv dn (by simpa using d1) (by simpa using d2) (by simpa using d3)
  simp only[Nat.zero_add]at this
  exact this
 ·rw[hsz]at hw'⊢
  exact hend x (acts1 x n) w' hw' (h1 x).2.2.2.1 (h1 x).2.2.1
 ·by_cases hk:c<ops.size
  ·simp[hk]
  ·simp[hk]
 ·refine⟨rfl,rfl,λi o d ho hL=>?_,λ_ _=>rfl⟩
  exfalso
  have hlt:i<ops.size:=(Array.getElem?_eq_some_iff.1 ho).1
  simp[hlt]at hL
 ·have e:(λj=>(Array.replicate ops.size false).getD j false)=(λ_=>false):=by
   funext j
   by_cases hk:j<ops.size
   ·simp[hk]
   ·simp[hk]
  rw[e]
  exact hS
 ·exfalso
  by_cases hk:i'<ops.size
  ·simp[hk]at hj
  ·simp[hk]at hj
 ·exfalso
  by_cases hk:j<ops.size
  ·simp[hk]at hj
  ·simp[hk]at hj
 ·have:=List.countP_le_length (p:=λi=>!(Array.replicate ops.size false).getD i true) (l:=List.range ops.size)
  simpa using this
end
end Go.Proofs.YtnjjeapcalkmaaaGreatDoor.Ord
namespace Go.Proofs.YtnjjeapcalkmaaaGreatDoor
open Go.RowKit
open Go.Proofs.YtnjjeapcalkmaaaGreatDoor.Ord
open Go.Proofs.YtnjjeapcalkmaaaGreatDoor.Ev (AV Mem Fr Sh Stop Qof ah dw bH jA nQ qO seqL gM)
theorem M9:(Tryz.prog.info? 129).map (λi=>(i.zero,i.size,i.bytes))=some (some (.agg #[.int .i64 0,.string ⟨#[]⟩]),2,24):=by kernel_rfl
theorem GG {t:ByteArray}(h:decide (0<=prV t)=true):Ps.prio t.data.toList=some (prV t):=by
 rw[Av]
 unfold prV at h⊢
 cases hp:prM t with
 |some j=>rfl
 |none=>rw[hp]at h;cases h
theorem QG {t:ByteArray}(h:decide (0<=prV t)=false):Ps.prio t.data.toList=none:=by
 rw[Av]
 unfold prV at h
 cases hp:prM t with
 |some j=>
  rw[hp]at h
  have h2:¬(0<=(j:Int)):=of_decide_eq_false h
  omega
 |none=>rfl
theorem iN {t:ByteArray}{x:List UInt8}(h:(t.toList==x)=true):t.data.toList=x:=by rw[<-Lib.toList_data];exact beq_iff_eq.1 h
theorem pX {t:ByteArray}{x:List UInt8}(h:(t.toList==x)=false):t.data.toList≠x:=by rw[<-Lib.toList_data];exact beq_eq_false_iff_ne.1 h
def DV (n:Nat):Ps.St->Nat
 | .ok a=>n+1-a
 | .error _=>0
theorem Nw {n pa:Nat}{st':Ps.St}(h:∀a,st'=.ok a->pa<a)(qW:pa<n):DV n st'<DV n (.ok pa):=by
 cases st' with
 |ok a=>have:=h a rfl;show n+1-a<n+1-pa;omega
 |error e=>show 0<n+1-pa;omega
def snL (s:Ps.Seen):List Bool:=[s.prio,s.part,s.hold,s.res,s.amount,s.day]
structure SnAt (W0 W:World)(r tb q sb:Nat)(sn:List Bool)(w:World):Prop where
 row:w.heap[sb]? =some (.cells (kC sn) 243 (0,0))
 six:sn.length=6
 hr:r<sb
 hq:q<sb
 ht:tb<sb
 hW:W.heap.size<=sb
 h0:W0.heap.size<=sb
def exL (W0 W:World)(r tb q sb:Nat)(sn:List Bool)(ks:List Ps.Link)(lv:Value)(w:World):Prop:=bG w (sb+1) lv ks/\SnAt W0 W r tb q sb sn w
section
variable {W0 W : World} {r tb cap q sb : Nat} {l : List Ps.Tok} {E : Ps.Env}
theorem jK:Ie r q (exL W0 W r tb q sb):=λ⟨h1,h2⟩ hT=>by
 have k1:=h2.hr;have k2:=h2.hq
 exact⟨h1.keep hT (by omega) (by omega),(hT.block sb (Array.getElem?_eq_some_iff.1 h2.row).1 (by omega) (by omega)).trans h2.row,h2.six,k1,k2,h2.ht,h2.hW,h2.h0⟩
def onX (l:List Ps.Tok)(s:RS×(List Bool×Ps.Req))(f:FuncId)(vs:List AV):Option (Value×Option (RS×(List Bool×Ps.Req))):=
 if f=229 then(match vs,s.1 with
  |[.p 0 0,.p 2 0,.v (.int .i64 p)],.at0 a=>(match p,s.2.1[p.toNat]? with
   | .ofNat _,some b=>some (.bool (!b),some (.any (iD (dK l b a)),(s.2.1.set p.toNat true,s.2.2)))
   |_,_=>none)
  |_,_=>none)else none
abbrev onM (E:Ps.Env)(l:List Ps.Tok)(r q sb:Nat):Mem (RS×(List Bool×Ps.Req)):=pqM E l r q sb (onX l) noH
abbrev onS (W0 W:World)(r tb cap q sb:Nat)(l:List Ps.Tok):RS×(List Bool×Ps.Req)->World->Prop:=rdS l (pqB W0 W r tb cap q l (exL W0 W r tb q sb))
theorem Gg (hP:Pdr W0 l E):Ev.Ok Tryz.prog (onS W0 W r tb cap q sb l) (onM E l r q sb):=Ef hP jK λs f vs v s' h=>by
 unfold onX at h
 split at h
 ·rename_i hf
  subst hf
  split at h
  ·rename_i p a hs
   split at h
   ·rename_i k b hb
    cases h
    refine⟨enters_of Tryz.func229 (by kernel_rfl) rfl,λhbd w hB=>?_⟩
    rw[hs]at hbd hB
    obtain⟨lv,hA,hl,hn⟩:=hB
    have hA2:bT W0 W r tb cap q l (.ok a) (aA s.2.2 lv) w:=hA
    have k1:=hn.hr;have k2:=hn.hq;have k3:=hn.ht;have k6:=hn.six
    have hb2:s.2.1[k]? =some b:=hb
    have hk:k<6:=by rw[<-k6];exact(List.getElem?_eq_some_iff.1 hb2).1
    simp only[List.map_cons,List.map_nil,(bi _).1,(bi _).2.2]
    refine(Nz hA2 hbd s.2.1 _ hn.row (by omega) (by omega) (by omega) hn.hW hn.h0 k hk b hb2).mono λe w' c=>⟨c.1,trivial,lv,?_,hl.keep c.2.2.2 (by omega) (by omega),c.2.2.1,(List.length_set ..).trans k6,k1,k2,k3,hn.hW,hn.h0⟩
    have:=c.2.1
    cases b
    ·exact this
    ·exact this
   ·cases h
  ·cases h
 ·cases h
def onU (j:Nat):List (Option AV):=[some (.p 0 0),some (.p 1 j),some (.p 2 0)]
def onK (j:Nat):List (Nat×AV):=[(0,.p 0 0),(1,.p 1 j),(4,.p 2 0)]
theorem fr3 {M:Mem (RS×(List Bool×Ps.Req))}{n j:Nat}{b:Act}(h:Stop M n [0,1,4] (onU j) b):Fr M n (onK j) b:=by
 obtain⟨f0,h⟩:=h.cons
 obtain⟨f1,h⟩:=h.cons
 obtain⟨f4,h⟩:=h.cons
 exact Ev.aG (Ev.aG (Ev.aG (Ev.bC h.1 h.2.1) f4) f1) f0
theorem GN (hP:Pdr W0 l E){n j:Nat}{A B:Code}{I:Ps.St->Ps.Seen->Ps.Req->Prop}{Qn:Exit->Act->World->Prop}
 (hA:∀st x,(Ev.ex (onM E l r q sb) n A (onK j) (.any st,x)).shape [0,1,4]=.ite (Ps.dA l st) (.nx (onU j) (.any st,x)) (.out 0 (onU j) (.any st,x)))
 (hB:∀(pa:Nat) (s:Ps.Seen) (R:Ps.Req) (b:Act) (w:World) (Qr:Exit->Act->World->Prop),pa<l.length->I (.ok pa) s R->Fr (onM E l r q sb) n (onK j) b->onS W0 W r tb cap q sb l (.at0 pa,(snL s,R)) w->
  (∀(st':Ps.St) (s':Ps.Seen) (R':Ps.Req),I st' s' R'->(∀a,st'=.ok a->pa<a)->∀(b2:Act) (w2:World),Fr (onM E l r q sb) n (onK j) b2->onS W0 W r tb cap q sb l (.any st',(snL s',R')) w2->Qr .normal b2 w2)->B.wp Tryz.prog Qr b w)
 (hend:∀(st:Ps.St) (s:Ps.Seen) (R:Ps.Req) (b:Act) (w:World),Ps.dA l st=false->I st s R->b.defers=[]->pqB W0 W r tb cap q l (exL W0 W r tb q sb) st (snL s,R) w->Qn .normal b w)
 {st:Ps.St} {s:Ps.Seen} {R:Ps.Req} {a:Act} {w:World} (hI:I st s R) (hF:Fr (onM E l r q sb) n (onK j) a) (hS:pqB W0 W r tb cap q l (exL W0 W r tb q sb) st (snL s,R) w):
 (Code.block 0 (.loop (.seq A B))).wp Tryz.prog Qn a w:=by
 refine wp_block (wp_loop_ghost (λn' a w=>∃st s R,n'=DV l.length st/\I st s R/\Fr (onM E l r q sb) n (onK j) a/\pqB W0 W r tb cap q l (exL W0 W r tb q sb) st (snL s,R) w) _ ⟨st,s,R,rfl,hI,hF,hS⟩ ?_)
 clear hI hF hS st s R a w
 rintro n' a w ⟨st,s,R,rfl,hI,hF,hS⟩
 refine wp_seq ?_
 refine Ev.gU (S:=onS W0 W r tb cap q sb l) (M:=onM E l r q sb) (n:=n) (K:=onK j) (s:=(.any st,(snL s,R))) [0,1,4] (.ite (Ps.dA l st) (.nx (onU j) (.any st,(snL s,R))) (.out 0 (onU j) (.any st,(snL s,R)))) (Gg hP) (dV jK) (jF jK) (hA st (snL s,R)) hF ⟨trivial,hS⟩ ⟨λhc b w2 hst hS=>?_,λhc b w2 hst hS=>?_⟩
 ·cases st with
  |error e=>cases hc
  |ok pa=>
   have qW:pa<l.length:=by simpa[Ps.dA]using hc
   refine hB pa s R b w2 _ qW hI (fr3 hst) ⟨qW,hS.2⟩ λst' s' R' h1 h2 b2 w3 h3 h4=>?_
   exact⟨_,Nw h2 qW,st',s',R',rfl,h1,h3,h4.2⟩
 ·exact hend st s R b w2 hc hI hst.2.1 hS.2
noncomputable def jS (lv:Value)(ty:Int)(s:ByteArray)(x:World):Value×World:=
 match (Builtin.append_ #[32,32] 32 #[lv,.slice (some ⟨x.heap.size,0,none⟩) 1 1]).run Tryz.prog (x.alloc (.cells #[.int .i64 ty,.string s] 129))with
 | .ok v W4=>(v,W4)
 |_=>(undef,x)
def oZ (W0 W:World)(r tb cap q sb:Nat)(l:List Ps.Tok)(st:Ps.St)(sn:List Bool)(R:Ps.Req)(lv:Value)(w:World):Prop:=bT W0 W r tb cap q l st (aA R lv) w/\exL W0 W r tb q sb sn R.ins.links lv w
theorem oZ.step {st st':Ps.St}{sn:List Bool}{R:Ps.Req}{lv:Value}{w w':World}(h:oZ W0 W r tb cap q sb l st sn R lv w)(h1:fK W0 w' r tb cap l st')(h2:Tch r r w w'):oZ W0 W r tb cap q sb l st' sn R lv w':=⟨h.1.step h1 h2,jK h.2 h2.left⟩
theorem O4 {st:Ps.St}{sn:List Bool}{R:Ps.Req}{ta:Option Addr}{tc:Nat}{x:World}(h:oZ W0 W r tb cap q sb l st sn R (.slice ta R.ins.links.length tc) x)(hlen:R.ins.links.length<=1000000)(ty:Int)(s:ByteArray):
 ∃va vc W4,(Builtin.append_ #[32,32] 32 #[.slice ta R.ins.links.length tc,.slice (some ⟨x.heap.size,0,none⟩) 1 1]).run Tryz.prog (x.alloc (.cells #[.int .i64 ty,.string s] 129))=.ok (.slice va (R.ins.links.length+1) vc) W4/\
  jS (.slice ta R.ins.links.length tc) ty s x=(.slice va (R.ins.links.length+1) vc,W4)/\W4.cell? ⟨q,18,none⟩=some (.slice ta R.ins.links.length tc)/\W4.frozen? ⟨q,18,none⟩=false/\
  oZ W0 W r tb cap q sb l st sn {R with ins:={R.ins with links:=R.ins.links++[⟨ty,s⟩]} } (.slice va (R.ins.links.length+1) vc) (W4.setCell ⟨q,18,none⟩ (.slice va (R.ins.links.length+1) vc)):=by
 obtain⟨h,hl,hn⟩:=h
 have hr:=hn.hr;have hq:=hn.hq;have htb:=hn.ht;have hW:=hn.hW;have h0:=hn.h0
 have hB:sb<x.heap.size:=(Array.getElem?_eq_some_iff.1 hn.row).1
 obtain⟨i0,hii,hz0,hz1,hz2⟩:=info_parts M9
 have hrow3:=heap_alloc_new x (.cells #[.int .i64 ty,.string s] 129)
 have oC:=(Below.refl x.heap.size x).alloc (Nat.le_refl _) (.cells #[.int .i64 ty,.string s] 129)
 have hl3:(x.alloc (.cells #[.int .i64 ty,.string s] 129)).ownsRow (sb+1) 129 2 (.slice ta R.ins.links.length tc) R.ins.links.length (fH R.ins.links):=fD hl (λg hg=>oC.block g (hl.lt g hg).2)
 obtain⟨v9,W4,NI,Gr,wU,hat9⟩:=nO (w:=x.alloc (.cells #[.int .i64 ty,.string s] 129)) 32 32 129 i0 (.agg #[.int .i64 0,.string ⟨#[]⟩]) 2 24 Tryz.underlying32 hii hz0 hz1 hz2 rfl (by decide) (sb+1) (.slice ta R.ins.links.length tc) R.ins.links.length (fH R.ins.links)
  hl3 (some ⟨x.heap.size,0,none⟩) 1 1 [.int .i64 ty,.string s] rfl (λad ha=>by cases ha;exact World.news_of_block hrow3) (λe=>by cases e) (by intro u hu;simp at hu;rcases hu with rfl|rfl<;>rfl) (by unfold maxLen;omega) (by omega) (by have:=oC.size;omega)
 obtain⟨va,vc,rfl⟩:=gV Gr
 have hblk:∀j,j<sb+1->W4.heap[j]? =x.heap[j]?:=λj hj=>by
  rw[<-oC.block j (by omega)]
  exact wU.block j (by have:=oC.size;omega) (λe=>by have:=(hl.lt j e.symm).1;omega)
 obtain⟨hP,hqr,hT,hq1,hq2,hWq⟩:=h
 have hq9:W4.heap[q]? =some (.cells (aA R (.slice ta R.ins.links.length tc)) 37 (0,0)):=(hblk q (by omega)).trans hqr
 refine⟨va,vc,W4,NI,by unfold jS;rw[NI],by rw[cell_of_row _ _ _ _ _ _ hq9];rfl,aZ 18 hq9,?_⟩
 have hT9:Tch r q W W4:=by
  refine⟨wU.os.trans (oC.os.trans hT.os),wU.tape.trans (oC.tape.trans hT.tape),wU.output.trans (oC.output.trans hT.output),Nat.le_trans hT.size (Nat.le_trans oC.size wU.size),λj hj h1 h2=>?_⟩
  rw[hblk j (by omega)]
  exact hT.block j hj h1 h2
 have hb9:Below W0.heap.size W0 W4:=by
  refine⟨wU.os.trans (oC.os.trans hP.base.os),wU.tape.trans (oC.tape.trans hP.base.tape),wU.output.trans (oC.output.trans hP.base.output),Nat.le_trans hP.base.size (Nat.le_trans oC.size wU.size),λj hj=>?_⟩
  rw[hblk j (by omega)]
  exact hP.base.block j hj
 have hP9:fK W0 W4 r tb cap l st:=by
  refine⟨?_,hb9,hP.r0⟩
  obtain⟨a,o,e,hr1,ht,hne,rest⟩:=hP.rd
  refine⟨a,o,e,(hblk r (by omega)).trans hr1,λk y hy=>?_,hne,rest⟩
  obtain⟨e0,e1,e2⟩:=ht k y hy
  have hb:=hblk tb (by omega)
  exact⟨(World.cell?_of_block (a:=⟨tb,_,none⟩) hb).trans e0,(World.cell?_of_block (a:=⟨tb,_,none⟩) hb).trans e1,(World.cell?_of_block (a:=⟨tb,_,none⟩) hb).trans e2⟩
 have hR9:bT W0 W r tb cap q l st (aA R (.slice ta R.ins.links.length tc)) W4:=⟨hP9,hq9,hT9,hq1,hq2,hWq⟩
 have hTs:=(Tch.refl q q W4).setCell 18 (.slice va (R.ins.links.length+1) vc)
 have hsz:x.heap.size<=W4.heap.size:=Nat.le_trans oC.size wU.size
 refine⟨hR9.store 18 (.slice va (R.ins.links.length+1) vc),?_,(hTs.block sb (by omega) (by omega) (by omega)).trans ((hblk sb (by omega)).trans hn.row),hn.six,hr,hq,htb,hW,h0⟩
 unfold bG
 show World.ownsRow _ (sb+1) _ 2 _ (R.ins.links++([⟨ty,s⟩]:List Ps.Link)).length (fH (R.ins.links++([⟨ty,s⟩]:List Ps.Link)))
 rw[pF,List.length_append]
 exact fD Gr λg hg=>by have:=(Gr.lt g hg).1;exact hTs.block g (Gr.lt g hg).2 (by omega) (by omega)
end
noncomputable def optC:Code:=Tryz.f182.body.getD .skip
noncomputable def opD:Code:=qO (jA (ah dw optC).1)
theorem LQ (ty:Int)(ρ:Operand->Value)(s:ByteArray){y z:Operand}(h2:ρ y=.string s)(h3:ρ z=.int .i64 ty)(w:World):(Instr.build 129 ((#[(0,z),(1,y)]:Array (Nat×Operand)).map λ(i,x)=>(i,ρ x))).run Tryz.prog w=.ok (.agg #[.int .i64 ty,.string s]) w:=by
 simp only[List.map_toArray,List.map_cons,List.map_nil,h2,h3]
 go_simp
theorem QK (w:World)(p:Addr)(a:Option Addr)(n c:Nat)(h:w.cell? p=some (.slice a n c)):(Instr.loadAt 32 (.pointer (some p))).run Tryz.prog w=.ok (.slice a n c) w:=by go_simp
section
variable {W0 W : World} {r tb cap q sb : Nat} {l : List Ps.Tok} {E : Ps.Env}
theorem Od (ty:Bool)(hP:Pdr W0 l E){st:Ps.St}{sn:List Bool}{R:Ps.Req}{lv:Value}{a:Act}{w:World}{Q:Exit->Act->World->Prop}(HA:oZ W0 W r tb cap q sb l st sn R lv w)(hlen:R.ins.links.length<=1000000)(hsz:a.tmps.size=92)(hf0:a.tmps[0]? =some (.pointer (some ⟨r,0,none⟩)))(hf1:a.tmps[1]? =some (.pointer (some ⟨q,3,none⟩)))
 (hend:∀(b:Act) (w':World),Kept (nQ (ah (bH (if ty then 21 else 18)) opD).1) a b->pqB W0 W r tb cap q l (exL W0 W r tb q sb) (Ps.step (Ps.ref E l) ⟨#[]⟩ st).2 (sn,{R with ins:={R.ins with links:=R.ins.links++[⟨if ty then 1 else 0,(Ps.step (Ps.ref E l) ⟨#[]⟩ st).1⟩]} }) w'->Q .normal b w'):
 (Code.region (if ty then 21 else 18) (nQ (ah (bH (if ty then 21 else 18)) opD).1) true).wp Tryz.prog Q a w:=by
 obtain⟨idv,hidv⟩:∃idv,idv=(Ps.step (Ps.ref E l) ⟨#[]⟩ st).1:=⟨_,rfl⟩
 obtain⟨ids,hids⟩:∃ids,ids=(Ps.step (Ps.ref E l) ⟨#[]⟩ st).2:=⟨_,rfl⟩
 obtain⟨ta,tc,rfl⟩:=gV HA.2.1
 obtain⟨wS,hwS⟩:∃wS,wS=w.drew:=⟨_,rfl⟩
 have HS:oZ W0 W r tb cap q sb l st sn R (.slice ta R.ins.links.length tc) wS:=by
  have hT:Tch r r w w.drew:=Tch.drewN _ _ _ 1
  rw[hwS]
  exact HA.step (HA.1.1.next (HA.1.1.rd.drewN 1) hT) hT
 have HC:Calls Tryz.prog 53 #[.pointer (some ⟨r,0,none⟩)] wS λe w'=>e=.returned (.string idv)/\oZ W0 W r tb cap q sb l ids sn R (.slice ta R.ins.links.length tc) w':=by
  rw[hidv,hids]
  exact(hP.ref wS r tb cap _ HS.1.1).mono λe w' k=>⟨k.1,HS.step k.2.1 k.2.2⟩
 obtain⟨tI,htI⟩:∃tI:Int,tI=if ty=true then 1 else 0:=⟨_,rfl⟩
 have HL:∀x,oZ W0 W r tb cap q sb l ids sn R (.slice ta R.ins.links.length tc) x->_:=λx hx=>O4 hx hlen tI idv
 rw[<-hidv,<-hids,<-htI]at hend
 have HTI:=Lib.hid htI
 clear htI
 have hcell:∀{ids:Ps.St} {w:World},oZ W0 W r tb cap q sb l ids sn R (.slice ta R.ins.links.length tc) w->w.cell? ⟨q,18,none⟩=some (.slice ta R.ins.links.length tc):=λh=>by rw[cell_of_row _ _ _ _ _ _ h.1.2.1];rfl
 have hcel2:∀{w:World} {o:Obj},oZ W0 W r tb cap q sb l ids sn R (.slice ta R.ins.links.length tc) w->(w.alloc o).cell? ⟨q,18,none⟩=some (.slice ta R.ins.links.length tc):=λ{w o} h=>by
  have hb:Below w.heap.size w (w.alloc o):=(Below.refl _ _).alloc (Nat.le_refl _) o
  exact hcell (h.step (h.1.1.below hb) (Tch.of_below hb))
 clear HA hids hidv
 have kp:∀(dn:Nat->Bool) (j:Nat) (x w:World),j≠6->j≠8->j≠9->j≠12->(dn 6=true/\oZ W0 W r tb cap q sb l ids sn R (.slice ta R.ins.links.length tc) x/\w=if dn 12=true then(jS (.slice ta R.ins.links.length tc) tI idv x).2.setCell ⟨q,18,none⟩ (jS (.slice ta R.ins.links.length tc) tI idv x).1 else if dn 9=true then(jS (.slice ta R.ins.links.length tc) tI idv x).2 else if dn 8=true then x.alloc (.cells #[.int .i64 tI,.string idv] 129)else x)->
  ((dn 6||6==j)=true/\oZ W0 W r tb cap q sb l ids sn R (.slice ta R.ins.links.length tc) x/\w=if (dn 12||12==j)=true then(jS (.slice ta R.ins.links.length tc) tI idv x).2.setCell ⟨q,18,none⟩ (jS (.slice ta R.ins.links.length tc) tI idv x).1 else if (dn 9||9==j)=true then(jS (.slice ta R.ins.links.length tc) tI idv x).2 else if (dn 8||8==j)=true then x.alloc (.cells #[.int .i64 tI,.string idv] 129)else x):=λdn j x w h6 h8 h9 h12 h=>by
  rw[show(6==j)=false from by simp;omega,show(8==j)=false from by simp;omega,show(9==j)=false from by simp;omega,show(12==j)=false from by simp;omega]
  simpa using h
 cases ty
 all_goals
  refine sW (X:=World) (λ_ w=>w=wS) (λx dn w=>dn 6=true/\oZ W0 W r tb cap q sb l ids sn R (.slice ta R.ins.links.length tc) x/\w=if dn 12=true then(jS (.slice ta R.ins.links.length tc) tI idv x).2.setCell ⟨q,18,none⟩ (jS (.slice ta R.ins.links.length tc) tI idv x).1 else if dn 9=true then(jS (.slice ta R.ins.links.length tc) tI idv x).2 else if dn 8=true then x.alloc (.cells #[.int .i64 tI,.string idv] 129)else x) (Ord.inD [(2,1),(3,1),(3,2),(4,1),(4,2),(4,3),(6,5),(7,5),(7,6),(8,5),(8,6),(8,7),(9,1),(9,2),(9,3),(9,4),(9,5),(9,6),(9,7),(9,8),(10,0),(10,1),(10,2),(10,3),(10,4),(10,5),(10,6),(10,7),(10,8),(10,9),(11,0),(11,1),(11,2),(11,3),(11,4),(11,5),(11,6),(11,7),(11,8),(11,9),(11,10),(12,0),(12,1),(12,2),(12,3),(12,4),(12,5),(12,6),(12,7),(12,8),(12,9),(12,10),(12,11)]) (Ord.vF (by kernel_rfl)) 6 13 (by decide) rfl [.pointer (some ⟨q,3,none⟩),.pointer (some ⟨q,3,none⟩),.pointer (some ⟨q,3,none⟩),.pointer (some ⟨q,18,none⟩),.slice ta R.ins.links.length tc,.pointer (some ⟨r,0,none⟩),.string idv,undef,undef,undef,undef,undef,undef] (λx=>[.pointer (some ⟨q,3,none⟩),.pointer (some ⟨q,3,none⟩),.pointer (some ⟨q,3,none⟩),.pointer (some ⟨q,18,none⟩),.slice ta R.ins.links.length tc,.pointer (some ⟨r,0,none⟩),.string idv,.agg #[.int .i64 tI,.string idv],.slice (some ⟨x.heap.size,0,none⟩) 1 1,(jS (.slice ta R.ins.links.length tc) tI idv x).1,.pointer (some ⟨q,3,none⟩),.pointer (some ⟨q,18,none⟩),undef]) rfl (λ_=>rfl) (by kernel_rfl) ?_ rfl (by kernel_rfl) (by kernel_rfl) (by kernel_rfl) (by rw[hsz];kernel_rfl) hwS.symm ?_ ?_ ?_
  ·intro x i hic h
   rcases i with _|_|_|_|_|_|_|_|_|_|_|_|_|i
   all_goals first|rfl|(have h2:true=false:=h;cases h2)
  ·intro ρ hD hrest hco hfu
   have e0:ρ (.tmp 0)=.pointer (some ⟨r,0,none⟩):=(hrest 0 (by decide +kernel)).trans (eval_at hf0)
   have e1:ρ (.tmp 1)=.pointer (some ⟨q,3,none⟩):=(hrest 1 (by decide +kernel)).trans (eval_at hf1)
   obtain⟨k0,k1,k2,k3,k4,k5,k6,-⟩:=hD
   have k5':ρ (.tmp _)=.pointer (some ⟨r,0,none⟩):=k5
   refine⟨λ_ dn hn hd he=>aK (B:=λ_=>True) (λw h=>h) (λ_ _=>trivial) (λw0=>bI rfl (jR rfl e1)),?_⟩
   refine⟨λ_ dn hn hd he=>aK (B:=λ_=>True) (λw h=>h) (λ_ _=>trivial) (λw0=>bI rfl (jR rfl e1)),?_⟩
   refine⟨λ_ dn hn hd he=>aK (B:=λ_=>True) (λw h=>h) (λ_ _=>trivial) (λw0=>bI rfl (vz rfl k1)),?_⟩
   refine⟨λ_ dn hn hd he=>aK (B:=λ_=>True) (λw h=>h) (λ_ _=>trivial) (λw0=>bI rfl (dm rfl k2 (λw=>by go_simp))),?_⟩
   refine⟨λ_ dn hn hd he=>aK (B:=λw=>w=wS) (λw h=>h) (λw h=>h) (λw0=>bI rfl (fO rfl k3 (λw hS=>QK w _ _ _ _ (by rw[hS.2];exact hcell HS)))),?_⟩
   refine⟨λ_ dn hn hd he=>aK (B:=λ_=>True) (λw h=>h) (λ_ _=>trivial) (λw0=>bI rfl (jR rfl e0)),?_⟩
   refine⟨λ_ dn hn hd he=>⟨rfl,λw hS=>?_⟩,?_⟩
   ·obtain rfl:w=wS:=hS
    have h8:=he 8 rfl
    have h9:=he 9 rfl
    have h12:=he 12 rfl
    unfold execOp
    have hf:=hfu 53
    simp[resolve,invoke,hf,k5',Deferred.ofValue,enters_of Tryz.func53 (by kernel_rfl) rfl]
    exact HC.mono λe w' h=>by first|exact⟨_,h.1,rfl,h.2⟩|(refine⟨_,h.1,rfl,?_⟩;simp[h8,h9,h12];exact h.2)
   iterate 6 refine⟨λhic=>(by have h2:true=false:=hic;cases h2),?_⟩
   exact trivial
  ·intro x ρ hD hrest hco hfu
   have e0:ρ (.tmp 0)=.pointer (some ⟨r,0,none⟩):=(hrest 0 (by decide +kernel)).trans (eval_at hf0)
   have e1:ρ (.tmp 1)=.pointer (some ⟨q,3,none⟩):=(hrest 1 (by decide +kernel)).trans (eval_at hf1)
   obtain⟨k0,k1,k2,k3,k4,k5,k6,k7,k8,k9,k10,k11,-⟩:=hD
   have k4':ρ (.tmp _)=.slice ta R.ins.links.length tc:=k4
   have k6':ρ (.tmp _)=.string idv:=k6
   have k7':ρ (.tmp _)=.agg #[.int .i64 tI,.string idv]:=k7
   have k8':ρ (.tmp _)=.slice (some ⟨x.heap.size,0,none⟩) 1 1:=k8
   have k9':ρ (.tmp _)=(jS (.slice ta R.ins.links.length tc) tI idv x).1:=k9
   have k11':ρ (.tmp _)=.pointer (some ⟨q,18,none⟩):=k11
   refine⟨λdn hn hd he=>aK (B:=λ_=>True) (λw h=>kp dn 0 x w (by decide) (by decide) (by decide) (by decide) h) (λ_ _=>trivial) (λw0=>bI rfl (jR rfl e1)),?_⟩
   refine⟨λdn hn hd he=>aK (B:=λ_=>True) (λw h=>kp dn 1 x w (by decide) (by decide) (by decide) (by decide) h) (λ_ _=>trivial) (λw0=>bI rfl (jR rfl e1)),?_⟩
   refine⟨λdn hn hd he=>aK (B:=λ_=>True) (λw h=>kp dn 2 x w (by decide) (by decide) (by decide) (by decide) h) (λ_ _=>trivial) (λw0=>bI rfl (vz rfl k1)),?_⟩
   refine⟨λdn hn hd he=>aK (B:=λ_=>True) (λw h=>kp dn 3 x w (by decide) (by decide) (by decide) (by decide) h) (λ_ _=>trivial) (λw0=>bI rfl (dm rfl k2 (λw=>by go_simp))),?_⟩
   refine⟨λdn hn hd he=>aK (B:=λw=>w.cell? ⟨q,18,none⟩=some (.slice ta R.ins.links.length tc)) (λw h=>kp dn 4 x w (by decide) (by decide) (by decide) (by decide) h) (λw h=>by
    obtain⟨h1,h2,h3⟩:=h
    have h9:=he 9 rfl
    have h12:=he 12 rfl
    simp only[h9,h12,Bool.false_eq_true,if_false]at h3
    rw[h3]
    split
    ·exact hcel2 h2
    ·exact hcell h2) (λw0=>bI rfl (fO rfl k3 (λw hS=>QK w _ _ _ _ hS.2))),?_⟩
   refine⟨λdn hn hd he=>aK (B:=λ_=>True) (λw h=>kp dn 5 x w (by decide) (by decide) (by decide) (by decide) h) (λ_ _=>trivial) (λw0=>bI rfl (jR rfl e0)),?_⟩
   refine⟨λdn hn hd he=>⟨λ_ w hS=>(by rw[hS.1]at hn;cases hn),λh=>by have h2:true=false:=h;cases h2⟩,?_⟩
   refine⟨λdn hn hd he=>aK (B:=λ_=>True) (λw h=>kp dn 7 x w (by decide) (by decide) (by decide) (by decide) h) (λ_ _=>trivial) (λw0=>bI rfl (Ab rfl (λw=>by rw[HTI.out];exact LQ _ ρ _ k6' (hco _) w))),?_⟩
   refine⟨λdn hn hd he=>⟨λ_ w hS=>?_,λh=>by have h2:true=false:=h;cases h2⟩,?_⟩
   ·obtain⟨hS1,hS2,hS⟩:=hS
    have h9:=he 9 rfl;have h12:=he 12 rfl
    simp only[hn,h9,h12,Bool.false_eq_true,if_false]at hS
    subst hS
    unfold execOp
    simp only[k7']
    go_simp
    first|exact⟨rfl,by simp[hS1],hS2,by simp[h9,h12]⟩|exact⟨by simp[hS1],hS2,by simp[h9,h12]⟩|exact⟨rfl,rfl⟩
   refine⟨λdn hn hd he=>⟨λ_ w hS=>?_,λh=>by have h2:true=false:=h;cases h2⟩,?_⟩
   ·obtain⟨hS1,hS2,hS⟩:=hS
    have h8:=hd 8 rfl;have h12:=he 12 rfl
    simp only[hn,h8,h12,Bool.false_eq_true,if_false,if_true]at hS
    subst hS
    obtain⟨va,vc,W4,q1,q2,q3,q4,q5⟩:=HL x hS2
    unfold execOp
    simp only[resolve,invoke,builtin,Sem.run_bind,Sem.run_pure,Result.andThen_ok,List.map_toArray,List.map_cons,List.map_nil,k4',k8',q1]
    exact⟨by rw[q2],by simp[hS1],hS2,by simp[h12,q2]⟩
   refine⟨λdn hn hd he=>aK (B:=λ_=>True) (λw h=>kp dn 10 x w (by decide) (by decide) (by decide) (by decide) h) (λ_ _=>trivial) (λw0=>bI rfl (vz rfl k0)),?_⟩
   refine⟨λdn hn hd he=>aK (B:=λ_=>True) (λw h=>kp dn 11 x w (by decide) (by decide) (by decide) (by decide) h) (λ_ _=>trivial) (λw0=>bI rfl (dm rfl k10 (λw=>by go_simp))),?_⟩
   refine⟨λdn hn hd he=>⟨λ_ w hS=>?_,λh=>by have h2:true=false:=h;cases h2⟩,?_⟩
   ·obtain⟨hS1,hS2,hS⟩:=hS
    have h9:=hd 9 rfl
    simp only[hn,h9,Bool.false_eq_true,if_false,if_true]at hS
    obtain⟨va,vc,W4,q1,q2,q3,q4,q5⟩:=HL x hS2
    rw[q2]at hS
    subst hS
    rw[q2]at k9'
    unfold execOp
    simp only[k11',k9']
    go_simp
    first|exact⟨rfl,by simp[hS1],hS2,by simp[q2]⟩|exact⟨by simp[hS1],hS2,by simp[q2]⟩|exact⟨rfl,rfl⟩
   exact trivial
  intro x b w8 hS hK hD
  obtain⟨-,hx,hw⟩:=hS
  obtain⟨va,vc,W4,q1,q2,q3,q4,q5⟩:=HL x hx
  have hw8:w8=W4.setCell ⟨q,18,none⟩ (.slice va (R.ins.links.length+1) vc):=by rw[hw];simp[q2]
  rw[<-hw8]at q5
  exact hend b w8 hK ⟨_,q5⟩
end
section
variable {W0 W : World} {r tb cap q : Nat} {l : List Ps.Tok} {E : Ps.Env}
theorem KE {st:Ps.St}{Q:Ps.Req}{w:World}(h:bT W0 W r tb cap q l st (aA Q eF) w)(hk:Q.ins.links=[]):
 pqB W0 W r tb cap q l (exL W0 W r tb q w.heap.size) st (snL {},Q) (w.alloc (.cells #[.bool false,.bool false,.bool false,.bool false,.bool false,.bool false] 243)):=by
 have hlt:=h.1.rd.lt
 have hq0:=(Array.getElem?_eq_some_iff.1 h.2.1).1
 have hb:=(Below.refl w.heap.size w).alloc (Nat.le_refl _) (.cells #[.bool false,.bool false,.bool false,.bool false,.bool false,.bool false] 243)
 refine⟨eF,h.step (h.1.below hb) (Tch.of_below hb),?_,aC w _,rfl,by omega,hq0,by omega,h.2.2.1.size,h.1.base.size⟩
 show bG _ _ eF Q.ins.links
 rw[hk];exact bG.nil _ _
theorem Dn {sb:Nat}{st:Ps.St}{sn:List Bool}{Q:Ps.Req}{w:World}(yT:r<W.heap.size)(xI:q<W.heap.size)(h:pqB W0 W r tb cap q l (exL W0 W r tb q sb) st (sn,Q) w):fA W0 W r tb cap q l W.heap.size st Q w:=by
 obtain⟨lv,h1,h2,h3⟩:=h
 have:=h3.hW
 exact⟨yT,xI,lv,h1,dH h2 (by omega)⟩
theorem C9 (hP:Pdr W0 l E)(yT:r<W.heap.size)(xI:q<W.heap.size):Db W0 W r tb cap q l E:=by
 intro st0 Q w0 h hk
 obtain⟨sb,hsb⟩:∃sb,sb=w0.heap.size:=⟨_,rfl⟩
 have hm:l.length<=1000000:=by obtain⟨_,_,_,_,_,_,_,_,hm,_⟩:=h.1.rd;exact hm
 have H0:=KE h hk
 rw[<-hsb]at H0
 clear h
 go_enter Tryz.func182,Tryz.ntmps182
 refine wp_seq ?_
 refine wp_region_lit ?_
 refine wpList_plain rfl (λK hK=>?_)
 go_simp
 refine hK _ _ ?_
 clear hK K
 refine aT ?_
 obtain⟨W1,hW1⟩:∃W1,W1=w0.alloc (.cells #[.bool false,.bool false,.bool false,.bool false,.bool false,.bool false] 243):=⟨_,rfl⟩
 refine Fz (w':=W1) rfl hW1.symm λa ha hdf=>?_
 rw[<-hW1]at H0
 have hF:Fr (onM E l r q sb) 92 (onK 3) a:=Ev.aG (Ev.aG (Ev.aG (Ev.bC (by rw[ha];rfl) hdf) (by rw[ha,hsb,(bi 0).2.2];rfl)) (by rw[ha,(bi 3).2.1];rfl)) (by rw[ha];rfl)
 clear ha hdf hW1 hsb
 refine GN hP (n:=92) (j:=3) (I:=λst s R=>∃i,R={Q with ins:=i}/\Ps.OpI E l Q.ins st0 st s i/\∀a,st=.ok a->i.links.length<=a) (λst x=>by kernel_rfl) ?_ ?_ ⟨Q.ins,rfl,Ps.OpI.start _ _ _ _,λa _=>by rw[hk];exact Nat.zero_le _⟩ hF H0
 rotate_left
 ·rintro st s R b w hend ⟨i,rfl,hI,-⟩ hd hB
  exact bodyPost_end (results_none rfl _ _ _) hd ⟨rfl,st,i,Dn yT xI hB,hI.res hend⟩
 rintro pa s R b w Qr qW ⟨i,rfl,HO,hln⟩ hF hS nx
 have hln:=hln pa rfl
 refine Ev.gU (M:=onM E l r q sb) (n:=92) (K:=onK 3) (s:=(.at0 pa,(snL s,{Q with ins:=i}))) [0,1,4]
  (.ite (decide (0<=prV (Ps.aQ l pa))) (.ite (!s.prio) (.nx (onU 3) (.any (iD (dK l s.prio pa)),((snL s).set 0 true,{Q with ins:={i with priority:=prV (Ps.aQ l pa)} }))) (.nx (onU 3) (.any (iD (dK l s.prio pa)),((snL s).set 0 true,{Q with ins:=i}))))
   (.ite ((Ps.aQ l pa).toList==([112,97,114,116,105,97,108]:List UInt8)) (.ite (!s.part) (.nx (onU 3) (.any (Ps.step (Ps.quantity E l) 0 (iD (dK l s.part pa))).2,((snL s).set 1 true,{Q with ins:={i with partial_:=true,minLot:=(Ps.step (Ps.quantity E l) 0 (iD (dK l s.part pa))).1} }))) (.nx (onU 3) (.any (iD (dK l s.part pa)),((snL s).set 1 true,{Q with ins:=i}))))
   (.ite ((Ps.aQ l pa).toList==([104,111,108,100]:List UInt8)) (.nx (onU 3) (.any (iD (dK l s.hold pa)),((snL s).set 2 true,{Q with ins:={i with hold:=!s.hold} })))
   (.ite ((Ps.aQ l pa).toList==([114,101,115,101,114,118,101]:List UInt8)) (.nx (onU 3) (.any (iD (dK l s.res pa)),((snL s).set 3 true,{Q with ins:={i with reserve:=!s.res} })))
   (.ite ((Ps.aQ l pa).toList==([119,105,116,104]:List UInt8)) (.go (ah (bH 18) opD) (onU 3) (.any (.ok (pa+1)),(snL s,{Q with ins:=i})))
   (.ite ((Ps.aQ l pa).toList==([97,102,116,101,114]:List UInt8)) (.go (ah (bH 21) opD) (onU 3) (.any (.ok (pa+1)),(snL s,{Q with ins:=i})))
    (.nx (onU 3) (.any (Ps.pW l 30 (.ok pa)),(snL s,{Q with ins:=i})))))))))
  (Gg hP) (dV jK) (jF jK) (by kernel_rfl) hF hS ?_
 have fin:∀(st':Ps.St) (s':Ps.Seen) (i':Ps.Ins),Ps.OpI E l Q.ins st0 st' s' i'->i'.links=i.links->(∀a,st'=.ok a->pa<a)->∀(b:Act) (w2:World),Stop (onM E l r q sb) 92 [0,1,4] (onU 3) b->onS W0 W r tb cap q sb l (.any st',(snL s',{Q with ins:=i'})) w2->Qr .normal b w2:=λst' s' i' h1 h2 h3 b w2 hst hS=>
  nx st' s' _ ⟨i',rfl,h1,λa ha=>by rw[h2];have:=h3 a ha;omega⟩ h3 b w2 (fr3 hst) hS
 have lnk:∀(ty:Bool),(((Ps.aQ l pa).data.toList=Ps.eU/\(if ty=true then(1:Int)else 0)=0)\/((Ps.aQ l pa).data.toList=Ps.bu/\(if ty=true then(1:Int)else 0)=1))->∀(b:Act) (w2:World),Stop (onM E l r q sb) 92 [0,1,4] (onU 3) b->onS W0 W r tb cap q sb l (.any (.ok (pa+1)),(snL s,{Q with ins:=i})) w2->∀Q2:Exit->Act->World->Prop,(∀b w,Qr .normal b w->Q2 .normal b w)->
  (Code.region (if ty then 21 else 18) (nQ (ah (bH (if ty then 21 else 18)) opD).1) true).wp Tryz.prog Q2 b w2:=λty hp b w2 hst hS Q2 hQ=>by
  obtain⟨f0,hst⟩:=hst.cons
  obtain⟨f1,hst⟩:=hst.cons
  obtain⟨f4,hst⟩:=hst.cons
  obtain⟨lv,hA⟩:=hS.2
  rw[(bi _).1]at f0
  rw[(bi _).2.1]at f1
  refine Od ty hP (lv:=lv) (R:={Q with ins:=i}) hA (by show i.links.length<=1000000;omega) hst.1 f0 f1 λb2 w3 hK hB=>hQ _ _ (nx _ s _ ⟨_,rfl,HO.link qW _ hp,λa ha=>?_⟩ (λa ha=>by have:=Ba a ha;omega) b2 w3 (Ev.aG (Ev.aG (Ev.aG (Ev.bC (hK.size.trans hst.1) (hK.defers.trans hst.2.1)) ((hK.rest 4 ?_).trans f4)) ((hK.rest 1 ?_).trans (by rw[f1,(bi _).2.1]))) ((hK.rest 0 ?_).trans (by rw[f0,(bi _).1]))) ⟨trivial,hB⟩)
  ·have:=Ba a ha
   show(i.links++([_]:List Ps.Link)).length<=a
   rw[List.length_append]
   show i.links.length+1<=a
   omega
  all_goals (cases ty<;>decide +kernel)
 refine⟨λc=>⟨λd=>fin _ {s with prio:=true} _ ?_ rfl (gG s.prio),λd=>fin _ {s with prio:=true} _ ?_ rfl (gG s.prio)⟩,λn0=>⟨λc=>⟨λd=>fin _ {s with part:=true} _ ?_ rfl (Bz s.part),λd=>fin _ {s with part:=true} _ ?_ rfl (gG s.part)⟩,λn1=>⟨λc=>fin _ {s with hold:=true} _ ?_ rfl (gG s.hold),λn2=>⟨λc=>fin _ {s with res:=true} _ ?_ rfl (gG s.res),λn3=>⟨λc b w2 hst hS=>?_,λn4=>⟨λc b w2 hst hS=>?_,λn5=>fin _ s _ ?_ rfl (λa ha=>by cases ha)⟩⟩⟩⟩⟩⟩
 ·have hs:s.prio=false:=by simpa using d
  rw[hs];exact HO.prioOk qW (GG c) hs
 ·have hs:s.prio=true:=by simpa using d
  rw[hs];exact HO.prioDup qW (GG c) hs _ _
 ·have hs:s.part=false:=by simpa using d
  rw[hs];exact HO.partOk qW (iN c) hs
 ·have hs:s.part=true:=by simpa using d
  rw[hs];exact HO.partDup qW (iN c) hs _ _
 ·cases hs:s.hold with
  |true=>exact HO.holdDup qW (iN c) hs _ _
  |false=>exact HO.holdOk qW (iN c) hs
 ·cases hs:s.res with
  |true=>exact HO.resDup qW (iN c) hs _ _
  |false=>exact HO.resOk qW (iN c) hs
 ·have e1:(ah (bH 18) opD).1=.region 18 (nQ (ah (bH 18) opD).1) true:=by kernel_rfl
  have e2:(ah (bH 18) opD).2=[.bl 2,.bl 1]:=by kernel_rfl
  rw[e1,e2]
  exact lnk false (.inl ⟨iN c,rfl⟩) b w2 hst hS _ λ_ _ h=>h
 ·have e1:(ah (bH 21) opD).1=.region 21 (nQ (ah (bH 21) opD).1) true:=by kernel_rfl
  have e2:(ah (bH 21) opD).2=[.bl 2,.bl 1]:=by kernel_rfl
  rw[e1,e2]
  exact lnk true (.inr ⟨iN c,rfl⟩) b w2 hst hS _ λ_ _ h=>h
 ·exact HO.none qW (QG n0) (pX n1) (pX n2) (pX n3) (pX n4) (pX n5) _ _
theorem EM (hP:Pdr W0 l E)(yT:r<W.heap.size)(xI:q<W.heap.size):ChgC W0 W r tb cap q l E:=by
 intro st0 Q w0 h hk hamd
 obtain⟨sb,hsb⟩:∃sb,sb=w0.heap.size:=⟨_,rfl⟩
 have H0:=KE h hk
 rw[<-hsb]at H0
 clear h
 go_enter Tryz.func186,Tryz.ntmps186
 refine wp_seq ?_
 refine wp_region_lit ?_
 refine wpList_plain rfl (λK hK=>?_)
 go_simp
 refine hK _ _ ?_
 clear hK K
 refine aT ?_
 obtain⟨W1,hW1⟩:∃W1,W1=w0.alloc (.cells #[.bool false,.bool false,.bool false,.bool false,.bool false,.bool false] 243):=⟨_,rfl⟩
 refine Fz (w':=W1) rfl hW1.symm λa ha hdf=>?_
 rw[<-hW1]at H0
 have hF:Fr (onM E l r q sb) 76 (onK 19) a:=Ev.aG (Ev.aG (Ev.aG (Ev.bC (by rw[ha];rfl) hdf) (by rw[ha,hsb,(bi 0).2.2];rfl)) (by rw[ha,(bi 19).2.1];rfl)) (by rw[ha];rfl)
 clear ha hdf hW1 hsb
 refine wp_seq ?_
 refine Ev.gU (S:=onS W0 W r tb cap q sb l) (M:=onM E l r q sb) (n:=76) (K:=onK 19) (s:=(.any st0,(snL {},Q))) [0,1,4] (.ite (!Ps.dA l st0) (.ret (onU 19) (.any (Ps.fC l st0),(snL {},Q))) (.nx (onU 19) (.any (Ps.fC l st0),(snL {},Q)))) (Gg hP) (dV jK) (jF jK) (by kernel_rfl) hF ⟨trivial,H0⟩ ⟨λhc b w2 hst hS=>?_,λhc b w2 hst hS=>?_⟩
 ·have hb:Ps.dA l st0=false:=by simpa using hc
  simp only[Exit.then]
  refine bodyPost_ret (results_none rfl _ _ _) hst.2.1 ⟨rfl,_,{},by have:=Dn yT xI hS.2;rw[<-hamd];exact this,Jh hb⟩
 have hb:Ps.dA l st0=true:=by simpa using hc
 obtain⟨a0,rfl,ha0⟩:∃a0,st0=.ok a0/\a0<l.length:=by
  cases st0 with
  |error e=>cases hb
  |ok a=>exact⟨a,rfl,by simpa[Ps.dA]using hb⟩
 have hneed:Ps.fC l (.ok a0)=.ok a0:=by simp[Ps.fC,ha0]
 rw[hneed]at hS
 refine GN hP (n:=76) (j:=19) (I:=λst s R=>∃i,R={Q with amd:=i}/\Ps.ChI E l {} (.ok a0) st s i) (λst x=>by kernel_rfl) ?_ ?_ ⟨{},by rw[<-hamd],Ps.ChI.start _ _ _ _⟩ (fr3 hst) hS.2
 rotate_left
 ·rintro st s R b w hend ⟨i,rfl,hI⟩ hd hB
  refine bodyPost_end (results_none rfl _ _ _) hd ⟨rfl,st,i,Dn yT xI hB,?_⟩
  exact Nu hb (hI.res hend)
 clear hst hS hF H0 b w2
 rintro pa s R b w Qr qW ⟨i,rfl,HO⟩ hF hS nx
 refine Ev.gU (M:=onM E l r q sb) (n:=76) (K:=onK 19) (s:=(.at0 pa,(snL s,{Q with amd:=i}))) [0,1,4]
  (.ite (decide (0<=prV (Ps.aQ l pa))) (.ite (!s.prio) (.nx (onU 19) (.any (iD (dK l s.prio pa)),((snL s).set 0 true,{Q with amd:={i with hasPriority:=true,priority:=prV (Ps.aQ l pa)} }))) (.nx (onU 19) (.any (iD (dK l s.prio pa)),((snL s).set 0 true,{Q with amd:=i}))))
   (.ite ((Ps.aQ l pa).toList==([112,97,114,116,105,97,108]:List UInt8)) (.ite (!s.part) (.nx (onU 19) (.any (Ps.step (Ps.quantity E l) 0 (iD (dK l s.part pa))).2,((snL s).set 1 true,{Q with amd:={i with hasPartial:=true,partial_:=true,minLot:=(Ps.step (Ps.quantity E l) 0 (iD (dK l s.part pa))).1} }))) (.nx (onU 19) (.any (iD (dK l s.part pa)),((snL s).set 1 true,{Q with amd:=i}))))
   (.ite ((Ps.aQ l pa).toList==([119,104,111,108,101]:List UInt8)) (.nx (onU 19) (.any (iD (dK l s.part pa)),((snL s).set 1 true,{Q with amd:={i with hasPartial:=!s.part} })))
   (.ite ((Ps.aQ l pa).toList==([97,109,111,117,110,116]:List UInt8)) (.ite (!s.amount) (.nx (onU 19) (.any (Ps.step (Ps.cash E l) 0 (iD (dK l s.amount pa))).2,((snL s).set 4 true,{Q with amd:={i with hasAmount:=true,amount:=(Ps.step (Ps.cash E l) 0 (iD (dK l s.amount pa))).1} }))) (.nx (onU 19) (.any (iD (dK l s.amount pa)),((snL s).set 4 true,{Q with amd:=i}))))
   (.ite ((Ps.aQ l pa).toList==([100,97,121]:List UInt8)) (.ite (!s.day) (.nx (onU 19) (.any (Ps.step (Ps.day E l) 0 (iD (dK l s.day pa))).2,((snL s).set 5 true,{Q with amd:={i with hasSettleDay:=true,settleDay:=(Ps.step (Ps.day E l) 0 (iD (dK l s.day pa))).1} }))) (.nx (onU 19) (.any (iD (dK l s.day pa)),((snL s).set 5 true,{Q with amd:=i}))))
    (.nx (onU 19) (.any (Ps.pW l 30 (.ok pa)),(snL s,{Q with amd:=i}))))))))
  (Gg hP) (dV jK) (jF jK) (by kernel_rfl) hF hS ?_
 have fin:∀(st':Ps.St) (s':Ps.Seen) (i':Ps.Amd),Ps.ChI E l {} (.ok a0) st' s' i'->(∀a,st'=.ok a->pa<a)->∀(b:Act) (w2:World),Stop (onM E l r q sb) 76 [0,1,4] (onU 19) b->onS W0 W r tb cap q sb l (.any st',(snL s',{Q with amd:=i'})) w2->Qr .normal b w2:=λst' s' i' h1 h3 b w2 hst hS=>
  nx st' s' _ ⟨i',rfl,h1⟩ h3 b w2 (fr3 hst) hS
 refine⟨λc=>⟨λd=>fin _ {s with prio:=true} _ ?_ (gG s.prio),λd=>fin _ {s with prio:=true} _ ?_ (gG s.prio)⟩,λn0=>⟨λc=>⟨λd=>fin _ {s with part:=true} _ ?_ (Bz s.part),λd=>fin _ {s with part:=true} _ ?_ (gG s.part)⟩,λn1=>⟨λc=>fin _ {s with part:=true} _ ?_ (gG s.part),λn2=>⟨λc=>⟨λd=>fin _ {s with amount:=true} _ ?_ (wX s.amount),λd=>fin _ {s with amount:=true} _ ?_ (gG s.amount)⟩,λn3=>⟨λc=>⟨λd=>fin _ {s with day:=true} _ ?_ (DD s.day),λd=>fin _ {s with day:=true} _ ?_ (gG s.day)⟩,λn4=>fin _ s _ ?_ (λa ha=>by cases ha)⟩⟩⟩⟩⟩
 ·have hs:s.prio=false:=by simpa using d
  rw[hs];exact HO.prioOk qW (GG c) hs
 ·have hs:s.prio=true:=by simpa using d
  rw[hs];exact HO.prioDup qW (GG c) hs _ _
 ·have hs:s.part=false:=by simpa using d
  rw[hs];exact HO.partOk qW (iN c) hs
 ·have hs:s.part=true:=by simpa using d
  rw[hs];exact HO.partDup qW (iN c) hs _ _
 ·cases hs:s.part with
  |true=>exact HO.wholeDup qW (iN c) hs _ _
  |false=>exact HO.wholeOk qW (iN c) hs
 ·have hs:s.amount=false:=by simpa using d
  rw[hs];exact HO.amountOk qW (iN c) hs
 ·have hs:s.amount=true:=by simpa using d
  rw[hs];exact HO.amountDup qW (iN c) hs _ _
 ·have hs:s.day=false:=by simpa using d
  rw[hs];exact HO.dayOk qW (iN c) hs
 ·have hs:s.day=true:=by simpa using d
  rw[hs];exact HO.dayDup qW (iN c) hs _ _
 ·exact HO.none qW (QG n0) (pX n1) (pX n2) (pX n3) (pX n4) _ _
end
theorem eB {P:Program}{fn:Func}{p u v:Tmp}{ty:TypeId}(h:fn.results=#[.cell p ty,.tmp u,.tmp v])(tmps:Array Value)(w:World)(g:Nat)(t:TypeId)(cs:Array Value)(fr:Nat×Nat)(d:TypeDesc)
 (hp:tmps.getD p undef=.pointer (some ⟨g,0,none⟩)) (hg:w.heap[g]? =some (.cells cs t fr))
 (hu:P.underlying ty=some d) (hd:(match d with| .struct _| .array _ _=>true|_=>false)=true) (hi:(P.info? ty).map (·.size)=some cs.size):
 (results fn tmps).run P w=.ok (.tuple #[.agg cs,tmps.getD u undef,tmps.getD v undef]) w:=by
 have hp':tmps[p]?.getD undef=.pointer (some ⟨g,0,none⟩):=by simpa using hp
 simp[results,h,hp',asAddr,run_loadVar_row w g t ty cs fr d hg hu hd hi]
theorem below_setRow {w W:World}{g:Nat}(h:Below g w W)(_hg:Nat.le g g)(cs:Array Value):Below g w (W.setRow g cs):=by
 refine⟨h.os,h.tape,h.output,by have:=h.size;simpa[World.setRow]using this,λj hj=>?_⟩
 have hne:g≠j:=by omega
 have:(W.setRow g cs).heap[j]? =W.heap[j]?:=by simp[World.setRow,Array.getElem?_modify,hne]
 rw[this]
 exact h.block j hj
theorem gW (W:World)(g j:Nat)(cs:Array Value)(h:g≠j):(W.setRow g cs).heap[j]? =W.heap[j]?:=by simp[World.setRow,Array.getElem?_modify,h]
def aF:Array Value:=aA {} eF
theorem bU (Q:Ps.Req)(a:Option Addr)(n c:Nat):(aA Q (.slice a n c)).all (·.oneCell')=true:=by
 rw[<-Array.all_toList]
 simp[aA,aB,aH,Value.oneCell']
theorem iB:aF.all (·.oneCell')=true:=bU _ _ _ _
theorem A8 (w:World)(s:ByteArray)(at_ x:Int)(hx:¬x=0)
 (n1:Hid (∀W,Below w.heap.size w W->Calls Tryz.prog 49 #[.string s] W λe W'=>∃v,e=.returned (.tuple #[v,.int .i64 at_,.int .i64 x])/\Below W.heap.size W W')):
 Calls Tryz.prog 16 #[.string s] w λe W'=>e=.returned (.tuple #[.agg aF,.int .i64 at_,.int .i64 x])/\Below w.heap.size w W':=by
 obtain⟨g,hg⟩:∃g,g=w.heap.size:=⟨_,rfl⟩
 go_enter Tryz.func16,Tryz.ntmps16
 go_wp2_with fail
 refine(n1.out _ ((Below.refl _ _).alloc (Nat.le_refl _) _)).mono ?_
 rintro e w1 ⟨v,rfl,hb⟩
 obtain⟨W1,hW1⟩:∃W1,W1=w.alloc (.cells aF 37):=⟨_,rfl⟩
 have hb1:Below W1.heap.size W1 w1:=by rw[hW1];exact hb
 have uz:W1.heap[g]? =some (.cells aF 37 (0,0)):=by rw[hW1,hg];exact aC w _
 have hrow:w1.heap[g]? =some (.cells aF 37 (0,0)):=(hb1.block g (Array.getElem?_eq_some_iff.1 uz).1).trans uz
 have HB:=Lib.hid hb1
 have HR:=Lib.hid hrow
 clear hb hb1 uz hrow n1
 have HG:=Lib.hid hg
 have HW:=Lib.hid hW1
 clear hg hW1
 go_upto_region 3 with fail
 refine wp_region_lit ?_
 refine wpList_plain rfl (λK hK=>?_)
 go_simp
 refine hK _ _ ?_
 clear hK K
 refine wpList_plain rfl (λK hK=>?_)
 go_simp
 refine hK _ _ ?_
 clear hK K
 refine wpList_plain rfl (λK hK=>?_)
 go_simp
 refine hK _ _ ?_
 clear hK K
 refine wpList_store_row rfl _ _ _ rfl g aF (by rw[HG.out];rfl) rfl _ _ HR.out (by kernel_rfl) rfl iB ?_
 go_wp2_with fail
 refine bodyPost_ret (eB rfl _ _ g _ aF (0,0) _ (by rw[HG.out];rfl) (setRow_heap w1 g _ aF _ _ HR.out) Tryz.underlying37 rfl (by kernel_rfl)) rfl ?_
 refine⟨rfl,?_⟩
 have hB1:Below g W1 w1:=HB.out.mono (by rw[HW.out,HG.out];exact((Below.refl _ _).alloc (Nat.le_refl _) _).size)
 have hB0:Below w.heap.size w W1:=by rw[HW.out];exact(Below.refl _ _).alloc (Nat.le_refl _) _
 rw[<-HG.out]at hB0⊢
 exact below_setRow (hB0.trans hB1) (Nat.le_refl _) aF
def vR (la:Option Addr)(lc:Nat)(e:Int):Array Value:=#[.slice la 0 lc,.int .i64 0,.int .i64 0,.int .i64 e]
theorem tu (W:World)(r:Nat)(la:Option Addr)(lc:Nat)(e:Int)(b1:Bool)(hrow:W.heap[r]? =some (.cells (vR la lc e) 97 (0,0)))(h1:(e==0)=b1):
 Calls Tryz.prog 55 #[.pointer (some ⟨r,0,none⟩)] W λx W'=>x=.returned (.bool false)/\∃k,W'=W.drewN k:=by
 have k0:W.cell? ⟨r,0,none⟩=some (.slice la 0 lc):=by rw[cell_of_row _ _ _ _ _ _ hrow];rfl
 have k1:W.cell? ⟨r,1,none⟩=some (.int .i64 0):=by rw[cell_of_row _ _ _ _ _ _ hrow];rfl
 have k3:W.cell? ⟨r,3,none⟩=some (.int .i64 e):=by rw[cell_of_row _ _ _ _ _ _ hrow];rfl
 clear hrow
 cases b1
 all_goals
  go_enter Tryz.func55,Tryz.ntmps55
  go_wp2_with fail
  go_quiet (fail)
  go_wp2_with fail
  go_ret
  exact⟨rfl,_,rfl⟩
theorem Dv (W:World)(r:Nat)(la:Option Addr)(lc:Nat)(hrow:W.heap[r]? =some (.cells (vR la lc 0) 97 (0,0))):
 Calls Tryz.prog 50 #[.pointer (some ⟨r,0,none⟩)] W λx W'=>x=.returned (.bool false)/\W'.heap[r]? =some (.cells (vR la lc 4) 97 (0,0))/\Tch r r W W':=by
 have n1:=tu W r la lc 0 true hrow rfl
 have HR:=Lib.hid hrow
 clear hrow
 go_enter Tryz.func50,Tryz.ntmps50
 go_wp2_with fail
 refine n1.mono ?_
 rintro x w ⟨rfl,k,rfl⟩
 obtain⟨w,hw0⟩:∃w,w=W.drewN k:=⟨_,rfl⟩
 have hr:w.heap[r]? =some (.cells (vR la lc 0) 97 (0,0)):=by rw[hw0];exact HR.out
 have k0:w.cell? ⟨r,0,none⟩=some (.slice la 0 lc):=by rw[cell_of_row _ _ _ _ _ _ hr];rfl
 have k3:w.cell? ⟨r,3,none⟩=some (.int .i64 0):=by rw[cell_of_row _ _ _ _ _ _ hr];rfl
 have f3:=aZ 3 hr
 have HT:Hid (Tch r r W w):=Lib.hid (by rw[hw0];exact Tch.drewN _ _ _ _)
 have HRW:=Lib.hid hr
 rw[<-hw0]
 clear n1 hw0 hr HR
 go_wp2_with fail
 go_ret
 exact⟨rfl,bB w r 3 _ _ _ HRW.out,HT.out.setCell 3 _⟩
theorem Ac (w:World)(s:ByteArray)(at_:Int)
 (n1:Hid (∀W,Below w.heap.size w W->Calls Tryz.prog 49 #[.string s] W λe W'=>∃la lc,e=.returned (.tuple #[.slice la 0 lc,.int .i64 at_,.int .i64 0])/\Below W.heap.size W W')):
 Calls Tryz.prog 16 #[.string s] w λe W'=>e=.returned (.tuple #[.agg aF,.int .i64 0,.int .i64 4])/\Below w.heap.size w W':=by
 obtain⟨g,hg⟩:∃g,g=w.heap.size:=⟨_,rfl⟩
 go_enter Tryz.func16,Tryz.ntmps16
 go_wp2_with fail
 refine(n1.out _ ((Below.refl _ _).alloc (Nat.le_refl _) _)).mono ?_
 rintro e w1 ⟨la,lc,rfl,hb⟩
 obtain⟨W1,hW1⟩:∃W1,W1=w.alloc (.cells aF 37):=⟨_,rfl⟩
 have hb1:Below W1.heap.size W1 w1:=by rw[hW1];exact hb
 have uz:W1.heap[g]? =some (.cells aF 37 (0,0)):=by rw[hW1,hg];exact aC w _
 have hrow:w1.heap[g]? =some (.cells aF 37 (0,0)):=(hb1.block g (Array.getElem?_eq_some_iff.1 uz).1).trans uz
 have HB:=Lib.hid hb1
 have HR:=Lib.hid hrow
 clear hb hb1 uz hrow n1
 have HG:=Lib.hid hg
 have HW:=Lib.hid hW1
 clear hg hW1
 obtain⟨W2,hW2⟩:∃W2,W2=(w1.alloc (.cells (vR la lc 0) 97)).alloc (.cells aF 37):=⟨_,rfl⟩
 obtain⟨r,hr⟩:∃r,r=w1.heap.size:=⟨_,rfl⟩
 have hrr:W2.heap[r]? =some (.cells (vR la lc 0) 97 (0,0)):=by
  rw[hW2,hr,((Below.refl _ _).alloc (Nat.le_refl _) (.cells aF 37)).block _ (by simp)]
  exact aC w1 _
 have hb2:Below w1.heap.size w1 W2:=by rw[hW2];exact((Below.refl _ _).alloc (Nat.le_refl _) _).alloc (by simp) _
 have n2:=Dv W2 r la lc hrr
 have HR2:=Lib.hid (hr)
 have HB2:=Lib.hid hb2
 unfold vR aF aA aB aH at hW2
 simp only[List.cons_append,List.nil_append]at hW2
 rw[hW2,hr]at n2
 clear hrr hb2 hr
 go_wp2_with fail
 refine n2.mono ?_
 rw[<-hW2]
 rintro e w2 ⟨rfl,hr2,hT2⟩
 clear n2 hW2
 rw[<-HR2.out]at hr2 hT2⊢
 have n3:=tu w2 r la lc 4 false hr2 rfl
 have k2:w2.cell? ⟨r,2,none⟩=some (.int .i64 0):=by rw[cell_of_row _ _ _ _ _ _ hr2];rfl
 have k3:w2.cell? ⟨r,3,none⟩=some (.int .i64 4):=by rw[cell_of_row _ _ _ _ _ _ hr2];rfl
 have HT2:=Lib.hid hT2
 have HR3:=Lib.hid hr2
 clear hr2 hT2
 go_wp2_with fail
 refine n3.mono ?_
 rintro e w3 ⟨rfl,k,rfl⟩
 have e2:(w2.drewN k).cell? ⟨r,2,none⟩=some (.int .i64 0):=k2
 have e3:(w2.drewN k).cell? ⟨r,3,none⟩=some (.int .i64 4):=k3
 clear n3 k2 k3
 go_upto_region 22 with fail
 have hg1:g<w1.heap.size:=(Array.getElem?_eq_some_iff.1 HR.out).1
 have hgr:g≠r:=by have:=HR2.out;omega
 have hRg:(w2.drewN k).heap[g]? =some (.cells aF 37 (0,0)):=by
  have h1:W2.heap[g]? =some (.cells aF 37 (0,0)):=(HB2.out.block g hg1).trans HR.out
  exact(HT2.out.block g (Array.getElem?_eq_some_iff.1 h1).1 hgr hgr).trans h1
 obtain⟨W5,lJ⟩:∃W5,W5=(w2.drewN k).drew:=⟨_,rfl⟩
 have d2:W5.cell? ⟨r,2,none⟩=some (.int .i64 0):=by rw[lJ];exact e2
 have d3:W5.cell? ⟨r,3,none⟩=some (.int .i64 4):=by rw[lJ];exact e3
 have h2:(W5.setRow g aF).cell? ⟨r,2,none⟩=some (.int .i64 0):=(World.cell?_of_block (a:=⟨r,2,none⟩) (gW W5 g r aF hgr)).trans d2
 have h3:(W5.setRow g aF).cell? ⟨r,3,none⟩=some (.int .i64 4):=(World.cell?_of_block (a:=⟨r,3,none⟩) (gW W5 g r aF hgr)).trans d3
 refine Ord.fG (λb w=>w=if b then W5.setRow g aF else W5) 9 rfl (by kernel_rfl) (by kernel_rfl) (by rw[lJ];rfl) ?_
 have KY:Hid (W5.heap[g]? =some (.cells aF 37 (0,0))):=Lib.hid (by rw[lJ];exact hRg)
 have HW5:=Lib.hid lJ
 clear hRg lJ e2 e3
 refine Ord.aM (v:=?_) rfl rfl (λw=>?_) (λK hK=>?_)
 rotate_left
 ·(go_simp;first|done|exact rfl)
 go_simp
 refine hK _ ?_
 clear hK K
 refine Ord.aM (v:=?_) rfl rfl (λw=>?_) (λK hK=>?_)
 rotate_left
 ·(go_simp;first|done|exact rfl)
 go_simp
 refine hK _ ?_
 clear hK K
 refine Ord.aM (v:=?_) rfl rfl (λw=>?_) (λK hK=>?_)
 rotate_left
 ·(go_simp;first|done|exact rfl)
 go_simp
 refine hK _ ?_
 clear hK K
 refine Ord.aM (v:=?_) rfl rfl (λw=>?_) (λK hK=>?_)
 rotate_left
 ·(go_simp;first|done|exact rfl)
 go_simp
 refine hK _ ?_
 clear hK K
 refine Ord.iR (v:=?_) rfl rfl (λb w hS=>?_) (λK hK=>?_)
 rotate_left
 ·(cases b<;>(simp only[Bool.false_eq_true,if_true,if_false]at hS;rw[hS];go_simp;first|done|exact rfl))
 go_simp
 refine hK _ ?_
 clear hK K
 refine Ord.aM (v:=?_) rfl rfl (λw=>?_) (λK hK=>?_)
 rotate_left
 ·(go_simp;first|done|exact rfl)
 go_simp
 refine hK _ ?_
 clear hK K
 refine Ord.aM (v:=?_) rfl rfl (λw=>?_) (λK hK=>?_)
 rotate_left
 ·(go_simp;first|done|exact rfl)
 go_simp
 refine hK _ ?_
 clear hK K
 refine Ord.aM (v:=?_) rfl rfl (λw=>?_) (λK hK=>?_)
 rotate_left
 ·(go_simp;first|done|exact rfl)
 go_simp
 refine hK _ ?_
 clear hK K
 refine Ord.iR (v:=?_) rfl rfl (λb w hS=>?_) (λK hK=>?_)
 rotate_left
 ·(cases b<;>(simp only[Bool.false_eq_true,if_true,if_false]at hS;rw[hS];go_simp;first|done|exact rfl))
 go_simp
 refine hK _ ?_
 clear hK K
 refine Ord.gK rfl rfl _ _ _ rfl rfl g aF (by rw[HG.out];rfl) rfl _ _ (λw hS=>by simp only[Bool.false_eq_true,if_false]at hS;rw[hS];exact KY.out) (by kernel_rfl) rfl iB (λw hS=>by simp only[Bool.false_eq_true,if_false]at hS;rw[hS];rfl) ?_
 refine Ord.aM (v:=?_) rfl rfl (λw=>?_) (λK hK=>?_)
 rotate_left
 ·(go_simp;first|done|exact rfl)
 go_simp
 refine hK _ ?_
 clear hK K
 refine Ord.aM (v:=?_) rfl rfl (λw=>?_) (λK hK=>?_)
 rotate_left
 ·(go_simp;first|done|exact rfl)
 go_simp
 refine hK _ ?_
 clear hK K
 refine Ord.pE (λw hS=>?_)
 have hS:w=W5.setRow g aF:=hS
 subst hS
 go_wp2_with fail
 refine bodyPost_ret (eB rfl _ _ g _ aF (0,0) _ (by rw[HG.out];rfl) (setRow_heap W5 g _ aF _ _ KY.out) Tryz.underlying37 rfl (by kernel_rfl)) rfl ?_
 refine⟨rfl,?_⟩
 have hgw:g=w.heap.size:=HG.out
 have hB0:Below w.heap.size w W1:=by rw[HW.out];exact(Below.refl _ _).alloc (Nat.le_refl _) _
 have hB1:Below w.heap.size w w1:=hB0.trans (HB.out.mono hB0.size)
 have hB2:=hB1.trans (HB2.out.mono hB1.size)
 have hB3:Below w.heap.size w w2:=hB2.trans (HT2.out.below (by have:=HR2.out;omega) (by have:=HR2.out;omega) hB2.size)
 have hB5:Below w.heap.size w W5:=by rw[HW5.out];exact(below_drewN' hB3 k).drew
 rw[<-hgw]at hB5⊢
 exact below_setRow hB5 (Nat.le_refl _) aF
inductive En (r q:Nat)(t:ByteArray)(P3 P7:World->Prop):Prop
 |found (P4 P5 P6:Nat->World->Prop) (j0:Nat) (v0:ByteArray) (fn:Nat) (x:ByteArray) (a:Nat) (hj0:iK[j0]? =some (v0,fn)) (htx:(v0.toList==t.toList)=true) (hlow:∀(j:Nat) (y:ByteArray×Nat),j<j0->iK[j]? =some y->(y.1.toList==t.toList)=false)
  (eg:∀args w,(callFunc fn args).run Tryz.prog w=.ok (.enter fn args) w) (hw1:wrap64 ((a:Int)+1)=(a:Int)+1)
  (s5:Hid (∀w w',P3 w->w'=w.alloc (.cells #[.string v0,.func (.func fn) #[] #[]] 103)->(w'.cell? ⟨r,1,none⟩=some (.int .i64 a)/\w'.frozen? ⟨r,1,none⟩=false)/\P4 w.heap.size (w'.setCell ⟨r,1,none⟩ (.int .i64 ((a:Int)+1)))))
  (n6:Hid (∀w b,P4 b w->Calls Tryz.prog 53 #[.pointer (some ⟨r,0,none⟩)] w λe W'=>e=.returned (.string x)/\P5 b W'))
  (s6:Hid (∀w b,P5 b w->((∃u,w.cell? ⟨q,2,none⟩=some u)/\w.frozen? ⟨q,2,none⟩=false)/\P6 b (w.setCell ⟨q,2,none⟩ (.string x))))
  (k6:Hid (∀w b,P6 b w->w.cell? ⟨b,1,none⟩=some (.func (.func fn) #[] #[])))
  (n7:Hid (∀w b,P6 b w->Calls Tryz.prog fn #[.pointer (some ⟨r,0,none⟩),.pointer (some ⟨q,0,none⟩)] w λe W'=>e=.returned (.tuple #[])/\P7 W'))
 |none (hall:∀(j:Nat) (y:ByteArray×Nat),iK[j]? =some y->(y.1.toList==t.toList)=false) (n7:Hid (∀w,P3 w->Calls Tryz.prog 54 #[.pointer (some ⟨r,0,none⟩),.int .i64 30] w λe W'=>e=.returned (.tuple #[])/\P7 W'))
inductive ParEnd (g r q tb:Nat)(P9:World->Prop)(Post:Value->Int->Int->World->Prop):Prop
 |err (o e0:Int) (hgrr:g≠r) (hE:Hid (∀w,P9 w->(e0==0)=false/\(w.heap[g]? =some (.cells aF 37 (0,0))/\w.cell? ⟨r,2,none⟩=some (.int .i64 o)/\w.cell? ⟨r,3,none⟩=some (.int .i64 e0))/\Post (.agg aF) o e0 (w.drew.setRow g aF)))
 |subBad (x1 x2:ByteArray) (o c:Int) (hc:(c==0)=false) (Ko:g≠tb)
  (hS:Hid (∀w,P9 w->∃(Q:Ps.Req) (qa:Option Addr) (qn qc:Nat),w.cell? ⟨r,3,none⟩=some (.int .i64 0)/\w.cell? ⟨q,0,none⟩=some (.int .i64 0)/\w.cell? ⟨q,5,none⟩=some (.string x1)/\w.cell? ⟨q,2,none⟩=some (.string x2)/\((∃u,w.cell? ⟨q,1,none⟩=some u)/\(∃u,w.cell? ⟨q,3,none⟩=some u)/\w.frozen? ⟨q,1,none⟩=false/\w.frozen? ⟨q,3,none⟩=false/\(w.setCell ⟨q,1,none⟩ (.string x1)).frozen? ⟨q,3,none⟩=false)/\
   ((w.setCell ⟨q,1,none⟩ (.string x1)).setCell ⟨q,3,none⟩ (.string x2)).heap[q]? =some (.cells (aA Q (.slice qa qn qc)) 37 (0,0))/\
   Calls Tryz.prog 30 #[.agg (aA Q (.slice qa qn qc))] ((w.setCell ⟨q,1,none⟩ (.string x1)).setCell ⟨q,3,none⟩ (.string x2)) λe W'=>e=.returned (.int .i64 c)/\W'.heap[g]? =some (.cells aF 37 (0,0))/\W'.cell? ⟨tb,2,none⟩=some (.int .i64 o)/\Post (.agg aF) o c (W'.drew.setRow g aF)))
 |subOk (x1 x2:ByteArray)
  (hS:Hid (∀w,P9 w->∃(Q:Ps.Req) (qa:Option Addr) (qn qc:Nat),w.cell? ⟨r,3,none⟩=some (.int .i64 0)/\w.cell? ⟨q,0,none⟩=some (.int .i64 0)/\w.cell? ⟨q,5,none⟩=some (.string x1)/\w.cell? ⟨q,2,none⟩=some (.string x2)/\((∃u,w.cell? ⟨q,1,none⟩=some u)/\(∃u,w.cell? ⟨q,3,none⟩=some u)/\w.frozen? ⟨q,1,none⟩=false/\w.frozen? ⟨q,3,none⟩=false/\(w.setCell ⟨q,1,none⟩ (.string x1)).frozen? ⟨q,3,none⟩=false)/\
   ((w.setCell ⟨q,1,none⟩ (.string x1)).setCell ⟨q,3,none⟩ (.string x2)).heap[q]? =some (.cells (aA Q (.slice qa qn qc)) 37 (0,0))/\
   Calls Tryz.prog 30 #[.agg (aA Q (.slice qa qn qc))] ((w.setCell ⟨q,1,none⟩ (.string x1)).setCell ⟨q,3,none⟩ (.string x2)) λe W'=>e=.returned (.int .i64 0)/\W'.heap[g]? =some (.cells aF 37 (0,0))/\W'.heap[q]? =some (.cells (aA Q (.slice qa qn qc)) 37 (0,0))/\Post (.agg (aA Q (.slice qa qn qc))) 0 0 (W'.setRow g (aA Q (.slice qa qn qc)))))
 |opBad (op:Int) (hop:(op==0)=false) (o c:Int) (hc:(c==0)=false) (Ko:g≠tb)
  (hS:Hid (∀w,P9 w->∃(Q:Ps.Req) (qa:Option Addr) (qn qc:Nat),w.cell? ⟨r,3,none⟩=some (.int .i64 0)/\w.cell? ⟨q,0,none⟩=some (.int .i64 op)/\w.heap[q]? =some (.cells (aA Q (.slice qa qn qc)) 37 (0,0))/\
   Calls Tryz.prog 30 #[.agg (aA Q (.slice qa qn qc))] w λe W'=>e=.returned (.int .i64 c)/\W'.heap[g]? =some (.cells aF 37 (0,0))/\W'.cell? ⟨tb,2,none⟩=some (.int .i64 o)/\Post (.agg aF) o c (W'.drew.setRow g aF)))
 |opOk (op:Int) (hop:(op==0)=false)
  (hS:Hid (∀w,P9 w->∃(Q:Ps.Req) (qa:Option Addr) (qn qc:Nat),w.cell? ⟨r,3,none⟩=some (.int .i64 0)/\w.cell? ⟨q,0,none⟩=some (.int .i64 op)/\w.heap[q]? =some (.cells (aA Q (.slice qa qn qc)) 37 (0,0))/\
   Calls Tryz.prog 30 #[.agg (aA Q (.slice qa qn qc))] w λe W'=>e=.returned (.int .i64 0)/\W'.heap[g]? =some (.cells aF 37 (0,0))/\W'.heap[q]? =some (.cells (aA Q (.slice qa qn qc)) 37 (0,0))/\Post (.agg (aA Q (.slice qa qn qc))) 0 0 (W'.setRow g (aA Q (.slice qa qn qc)))))
inductive F7 (g tb n cap:Nat)(w1:World)(Post:Value->Int->Int->World->Prop):Prop
 |mk (t:ByteArray) (P1 P2 P7 P8 P9:World->Prop) (P3:Nat->World->Prop) (b:Bool) (hn:0<n)
  (n2:Calls Tryz.prog 50 #[.pointer (some ⟨w1.heap.size,0,none⟩)] ((w1.alloc (.cells (av tb n cap 0 0 0) 97)).alloc (.cells aF 37)) λe W'=>e=.returned (.bool true)/\P1 W')
  (n3:Hid (∀w,P1 w->Calls Tryz.prog 51 #[.pointer (some ⟨w1.heap.size,0,none⟩)] w λe W'=>e=.returned (.string t)/\P2 W'))
  (h3:Hid (∀w w',P2 w->w'=w.alloc (.cells pU.toArray 103)->P3 w.heap.size w'))
  (h3a:Hid (∀fb w cs,P3 fb w->P3 fb (w.alloc (.cells cs 103))))
  (h3c:Hid (∀fb w,P3 fb w->∀(j:Nat) (x:ByteArray×Nat),iK[j]? =some x->w.cell? ⟨fb,j*2,none⟩=some (.string x.1)/\w.cell? ⟨fb,j*2+1,none⟩=some (.func (.func x.2) #[] #[])))
  (mid:Hid (∀fb,En w1.heap.size (w1.heap.size+1) t (P3 fb) P7))
  (n8:Hid (∀w,P7 w->Calls Tryz.prog 55 #[.pointer (some ⟨w1.heap.size,0,none⟩)] w λe W'=>e=.returned (.bool b)/\P8 W'))
  (n9:Hid (b=true->∀w,P8 w->Calls Tryz.prog 54 #[.pointer (some ⟨w1.heap.size,0,none⟩),.int .i64 30] w λe W'=>e=.returned (.tuple #[])/\P9 W'))
  (n9b:Hid (b=false->∀w,P8 w->P9 w))
  (fin:ParEnd g w1.heap.size (w1.heap.size+1) tb P9 Post)
theorem zM (w:World)(s:ByteArray)(Post:Value->Int->Int->World->Prop)
 (n1:Hid (∀g,g=w.heap.size->Calls Tryz.prog 49 #[.string s] (w.alloc (.cells aF 37)) λe W'=>∃tb n cap at_,e=.returned (.tuple #[.slice (some ⟨tb,0,none⟩) n cap,.int .i64 at_,.int .i64 0])/\F7 g tb n cap W' Post)):
 Calls Tryz.prog 16 #[.string s] w λe W'=>∃rv o x,e=.returned (.tuple #[rv,.int .i64 o,.int .i64 x])/\Post rv o x W':=by
 obtain⟨g,hg⟩:∃g,g=w.heap.size:=⟨_,rfl⟩
 have m1:=n1.out g hg
 unfold aF aA aB aH at m1
 simp only[List.cons_append,List.nil_append]at m1
 go_enter Tryz.func16,Tryz.ntmps16
 rw[hg]at m1
 go_wp2_with fail
 refine m1.mono ?_
 rintro e w1 ⟨tb,n,cap,at_,rfl,tl⟩
 rw[<-hg]at tl
 clear m1 n1
 cases tl with
 |mk t P1 P2 P7 P8 P9 P3 b hn n2 n3 h3 h3a h3c mid n8 n9 n9b fin=>
 obtain⟨r,hr⟩:∃r,r=w1.heap.size:=⟨_,rfl⟩
 obtain⟨q,hq⟩:∃q,q=w1.heap.size+1:=⟨_,rfl⟩
 unfold aF aA aB aH av at n2
 simp only[List.cons_append,List.nil_append]at n2
 rw[<-hg]
 go_upto_if 30 with fail
 refine n2.mono ?_
 rintro e w2 ⟨rfl,p1⟩
 rw[<-hq,<-hr]
 rw[<-hq,<-hr]at fin
 rw[<-hr]at n3 n8 n9
 rw[<-hq,<-hr]at mid
 clear n2
 have HG:=Lib.hid hg
 have HR:=Lib.hid hr
 have HQ0:=Lib.hid hq
 clear hg hr hq
 go_upto_if 30 with fail
 go_cut [] (λwx=>Hid (P7 wx))
 case first=>
  clear n8 n9 n9b fin
  have m3:=n3.out w2 p1
  clear n3
  go_wp2_with fail
  refine m3.mono ?_
  rintro e w3 ⟨rfl,p2⟩
  have m4:=M5 w3
  have H3:=Lib.hid (h3.out w3 _ p2 rfl)
  clear m3 p1
  go_wp2_with fail
  refine m4.mono ?_
  rintro e w4 ⟨rfl,hw4⟩
  rw[<-hw4]at H3
  obtain⟨fb,hfb⟩:∃fb,fb=w3.heap.size:=⟨_,rfl⟩
  rw[<-hfb]at H3⊢
  have hm:=mid.out fb
  clear m4 hw4 h3 p2 mid hfb
  cases hm with
  |none hall n7=>
   have HALL:=Lib.hid hall
   clear hall
   go_wp2_with fail
   go_loopw [11,13,35] (λfv _ iv wr=>∃j:Nat,fv=.bool false/\iv=.int .i64 j/\j<=9/\Hid (P3 fb wr)) (λ_ _ iv _=>9-(RowKit.intOf iv).toNat)
   case atStart=>exact⟨0,rfl,rfl,by omega,H3⟩
   case round=>
    obtain⟨j,rfl,rfl,hj,HP⟩:=hrel
    by_cases hlt:j<9
    ·obtain⟨y,hy⟩:∃y,iK[j]? =some y:=⟨_,List.getElem?_eq_getElem (by exact hlt)⟩
     obtain⟨v0,fn⟩:=y
     obtain⟨y0,y1⟩:=h3c.out fb wr HP.out j _ hy
     have hte:=HALL.out j _ hy
     have hjI:(j:Int)<9:=by omega
     have hw1:wrap64 ((j:Int)+1)=((j+1:Nat):Int):=by unfold wrap64;omega
     have HP2:=Lib.hid (h3a.out fb wr #[.string v0,.func (.func fn) #[] #[]] HP.out)
     clear hy n7
     go_wp2_with fail
     refine⟨⟨j+1,by first|rfl|trivial,by first|rfl|go_num,by omega,HP2⟩,by simp[RowKit.intOf]<;>omega⟩
    ·have hjI:¬(j:Int)<9:=by omega
     have m7:=n7.out wr HP.out
     clear n7 hlt
     go_wp2_with fail
     refine m7.mono ?_
     rintro e w7 ⟨rfl,p7⟩
     have HP7:=Lib.hid p7
     clear m7 p7
     go_wp2_with fail
     go_meet
     case rel=>exact HP7
  |found P4 P5 P6 j0 v0 fn x a hj0 htx hlow eg hw1 s5 n6 s6 k6 n7=>
   have HLOW:=Lib.hid hlow
   clear hlow
   go_wp2_with fail
   go_loopw [13,35] (λ_ iv wr=>∃j:Nat,iv=.int .i64 j/\j<=j0/\Hid (P3 fb wr)) (λ_ iv _=>9-(RowKit.intOf iv).toNat)
   case atStart=>exact⟨0,rfl,by omega,H3⟩
   case round=>
    obtain⟨j,rfl,hj,HP⟩:=hrel
    have hj09:j0<9:=(List.getElem?_eq_some_iff.1 hj0).1
    have hjI:(j:Int)<9:=by omega
    by_cases hlt:j<j0
    ·obtain⟨y,hy⟩:∃y,iK[j]? =some y:=⟨_,List.getElem?_eq_getElem (by show j<9;omega)⟩
     obtain⟨v1,fn1⟩:=y
     obtain⟨y0,y1⟩:=h3c.out fb wr HP.out j _ hy
     have hte:=HLOW.out j _ hlt hy
     have hw2:wrap64 ((j:Int)+1)=((j+1:Nat):Int):=by unfold wrap64;omega
     have HP2:=Lib.hid (h3a.out fb wr #[.string v1,.func (.func fn1) #[] #[]] HP.out)
     clear hy hj0 htx eg hw1 s5 n6 s6 k6 n7
     go_wp2_with fail
     refine⟨⟨j+1,by first|rfl|go_num,by omega,HP2⟩,by simp[RowKit.intOf]<;>omega⟩
    ·obtain rfl:j=j0:=by omega
     obtain⟨y0,y1⟩:=h3c.out fb wr HP.out j _ hj0
     obtain⟨⟨c1,c2⟩,p4⟩:=s5.out wr _ HP.out rfl
     have m6:=n6.out _ _ p4
     clear s5 n6 p4 HLOW hj0
     go_wp2_with fail
     refine m6.mono ?_
     rintro e w6 ⟨rfl,p5⟩
     obtain⟨⟨⟨c3,c4⟩,c5⟩,p6⟩:=s6.out w6 _ p5
     have k7:=k6.out _ _ p6
     have m7:=n7.out _ _ p6
     clear m6 s6 k6 n7 p5 p6 c1 c2
     go_wp2_with (go_at_fn fn;refine m7.mono ?_;rintro e w7 ⟨rfl,p7⟩;have HP7:=Lib.hid p7;clear p7)
     go_meet
     case rel=>exact HP7
 case rest=>
  have hp7:=hcut
  clear n3 h3 h3a h3c mid hcut
  have m8:=n8.out _ hp7.out
  clear n8
  go_upto_if 63 with fail
  refine m8.mono ?_
  rintro e w8 ⟨rfl,p8⟩
  clear m8 hp7
  go_upto_if 63 with fail
  go_cut [] (λwx=>Hid (P9 wx))
  case first=>
   clear fin
   cases b with
   |true=>
    have m9:=n9.out rfl _ p8
    clear n9 n9b p8
    go_wp2_with fail
    refine m9.mono ?_
    rintro e w9 ⟨rfl,p9⟩
    have HP9:=Lib.hid p9
    clear m9 p9
    go_wp2_with fail
    go_meet
    case rel=>exact HP9
   |false=>
    have HP9:=Lib.hid (n9b.out rfl _ p8)
    clear n9 n9b p8
    go_wp2_with fail
    go_meet
    case rel=>exact HP9
  case rest=>
   cases fin with
   |err o e0 hgrr hE=>
    obtain⟨he,⟨hz,k2,k3⟩,hpo⟩:=hE.out wc hcut.out
    have hgr:Hid (g≠r):=hgrr
    have HRZ:=Lib.hid hz
    have Mw:=Lib.hid hpo
    clear hz hpo hE n9 n9b hcut
    go_upto_region 22 with fail
    obtain⟨W5,lJ⟩:∃W5,W5=wc.drew:=⟨_,rfl⟩
    have d2:W5.cell? ⟨r,2,none⟩=some (.int .i64 o):=by rw[lJ];exact k2
    have d3:W5.cell? ⟨r,3,none⟩=some (.int .i64 e0):=by rw[lJ];exact k3
    have h2:(W5.setRow g aF).cell? ⟨r,2,none⟩=some (.int .i64 o):=(World.cell?_of_block (a:=⟨r,2,none⟩) (gW W5 g r aF hgr.out)).trans d2
    have h3:(W5.setRow g aF).cell? ⟨r,3,none⟩=some (.int .i64 e0):=(World.cell?_of_block (a:=⟨r,3,none⟩) (gW W5 g r aF hgr.out)).trans d3
    have KY:Hid (W5.heap[g]? =some (.cells aF 37 (0,0))):=Lib.hid (by rw[lJ];exact HRZ.out)
    have Pv:Hid (Post (.agg aF) o e0 (W5.setRow g aF)):=Lib.hid (by rw[lJ];exact Mw.out)
    refine Ord.fG (λb w=>w=if b then W5.setRow g aF else W5) 9 rfl (by kernel_rfl) (by kernel_rfl) (by rw[lJ];rfl) ?_
    clear lJ k2 k3
    refine Ord.aM (v:=?_) rfl rfl (λw=>?_) (λK hK=>?_)
    rotate_left
    ·(go_simp;first|done|exact rfl)
    go_simp
    refine hK _ ?_
    clear hK K
    refine Ord.aM (v:=?_) rfl rfl (λw=>?_) (λK hK=>?_)
    rotate_left
    ·(go_simp;first|done|exact rfl)
    go_simp
    refine hK _ ?_
    clear hK K
    refine Ord.aM (v:=?_) rfl rfl (λw=>?_) (λK hK=>?_)
    rotate_left
    ·(go_simp;first|done|exact rfl)
    go_simp
    refine hK _ ?_
    clear hK K
    refine Ord.aM (v:=?_) rfl rfl (λw=>?_) (λK hK=>?_)
    rotate_left
    ·(go_simp;first|done|exact rfl)
    go_simp
    refine hK _ ?_
    clear hK K
    refine Ord.iR (v:=?_) rfl rfl (λb w hS=>?_) (λK hK=>?_)
    rotate_left
    ·(cases b<;>(simp only[Bool.false_eq_true,if_true,if_false]at hS;rw[hS];go_simp;first|done|exact rfl))
    go_simp
    refine hK _ ?_
    clear hK K
    refine Ord.aM (v:=?_) rfl rfl (λw=>?_) (λK hK=>?_)
    rotate_left
    ·(go_simp;first|done|exact rfl)
    go_simp
    refine hK _ ?_
    clear hK K
    refine Ord.aM (v:=?_) rfl rfl (λw=>?_) (λK hK=>?_)
    rotate_left
    ·(go_simp;first|done|exact rfl)
    go_simp
    refine hK _ ?_
    clear hK K
    refine Ord.aM (v:=?_) rfl rfl (λw=>?_) (λK hK=>?_)
    rotate_left
    ·(go_simp;first|done|exact rfl)
    go_simp
    refine hK _ ?_
    clear hK K
    refine Ord.iR (v:=?_) rfl rfl (λb w hS=>?_) (λK hK=>?_)
    rotate_left
    ·(cases b<;>(simp only[Bool.false_eq_true,if_true,if_false]at hS;rw[hS];go_simp;first|done|exact rfl))
    go_simp
    refine hK _ ?_
    clear hK K
    refine Ord.gK rfl rfl _ _ _ rfl rfl g aF (by first|rfl|(rw[HG.out];rfl)) rfl _ _ (λw hS=>by simp only[Bool.false_eq_true,if_false]at hS;rw[hS];exact KY.out) (by kernel_rfl) rfl iB (λw hS=>by simp only[Bool.false_eq_true,if_false]at hS;rw[hS];rfl) ?_
    refine Ord.aM (v:=?_) rfl rfl (λw=>?_) (λK hK=>?_)
    rotate_left
    ·(go_simp;first|done|exact rfl)
    go_simp
    refine hK _ ?_
    clear hK K
    refine Ord.aM (v:=?_) rfl rfl (λw=>?_) (λK hK=>?_)
    rotate_left
    ·(go_simp;first|done|exact rfl)
    go_simp
    refine hK _ ?_
    clear hK K
    refine Ord.pE (λw hS=>?_)
    have hS:w=W5.setRow g aF:=hS
    rw[hS]
    clear hS
    go_wp2_with fail
    refine bodyPost_ret (eB rfl _ _ g _ aF (0,0) _ (by first|rfl|(rw[HG.out];rfl)) (setRow_heap W5 g _ aF _ _ KY.out) Tryz.underlying37 rfl (by kernel_rfl)) rfl ?_
    exact⟨_,_,_,rfl,Pv.out⟩
   |subBad x1 x2 o c hc Ko hS=>
    obtain⟨Q,qa,qn,qc,k3,k0,k5,k2q,⟨⟨v1,c1⟩,⟨v3,c3⟩,f1,f3,f31⟩,hq2,m1⟩:=hS.out wc hcut.out
    obtain⟨cs,hcs⟩:∃cs,cs=aA Q (.slice qa qn qc):=⟨_,rfl⟩
    rw[<-hcs]at hq2 m1
    have EI:=Lib.hid hcs
    have HC1:Hid (cs.all (·.oneCell')=true):=Lib.hid (by rw[hcs];exact bU Q qa qn qc)
    clear hcs
    have HQ:=Lib.hid hq2
    have M1:=Lib.hid m1
    clear hq2 m1 hS n9 n9b hcut
    go_upto_region 25 with fail
    have m1:=M1.out
    clear M1 k3 k0 k5 k2q c1 c3 f1 f3 f31
    refine wp_region_lit ?_
    refine wpList_load_row rfl _ _ rfl q rfl _ _ _ _ HQ.out Tryz.underlying37 rfl (by rw[EI.out];kernel_rfl) ?_
    go_wp2_with fail
    refine m1.mono ?_
    rintro e wy ⟨rfl,hy⟩
    clear m1
    obtain⟨hzz,k2,hpo⟩:=hy
    have HRZ:=Lib.hid hzz
    have Mw:=Lib.hid hpo
    have hgt:Hid (g≠tb):=Ko
    clear hzz hpo
    go_upto_region 27 with fail
    obtain⟨W5,lJ⟩:∃W5,W5=wy.drew:=⟨_,rfl⟩
    have d2:W5.cell? ⟨tb,2,none⟩=some (.int .i64 o):=by rw[lJ];exact k2
    have h2:(W5.setRow g aF).cell? ⟨tb,2,none⟩=some (.int .i64 o):=(World.cell?_of_block (a:=⟨tb,2,none⟩) (gW W5 g tb aF hgt.out)).trans d2
    have KY:Hid (W5.heap[g]? =some (.cells aF 37 (0,0))):=Lib.hid (by rw[lJ];exact HRZ.out)
    have Pv:Hid (Post (.agg aF) o c (W5.setRow g aF)):=Lib.hid (by rw[lJ];exact Mw.out)
    refine Ord.fG (λb w=>w=if b then W5.setRow g aF else W5) 6 rfl (by kernel_rfl) (by kernel_rfl) (by rw[lJ];rfl) ?_
    clear lJ k2
    refine Ord.aM (v:=?_) rfl rfl (λw=>?_) (λK hK=>?_)
    rotate_left
    ·(go_simp;first|done|exact rfl)
    go_simp
    refine hK _ ?_
    clear hK K
    refine Ord.aM (v:=?_) rfl rfl (λw=>?_) (λK hK=>?_)
    rotate_left
    ·(go_simp;first|done|exact rfl)
    go_simp
    refine hK _ ?_
    clear hK K
    refine Ord.aM (v:=?_) rfl rfl (λw=>?_) (λK hK=>?_)
    rotate_left
    ·(go_simp;first|done|exact rfl)
    go_simp
    refine hK _ ?_
    clear hK K
    refine Ord.aM (v:=?_) rfl rfl (λw=>?_) (λK hK=>?_)
    rotate_left
    ·(go_simp;first|done|exact rfl)
    go_simp
    refine hK _ ?_
    clear hK K
    refine Ord.iR (v:=?_) rfl rfl (λb w hS=>?_) (λK hK=>?_)
    rotate_left
    ·(cases b<;>(simp only[Bool.false_eq_true,if_true,if_false]at hS;rw[hS];go_simp;first|done|exact rfl))
    go_simp
    refine hK _ ?_
    clear hK K
    refine Ord.aM (v:=?_) rfl rfl (λw=>?_) (λK hK=>?_)
    rotate_left
    ·(go_simp;first|done|exact rfl)
    go_simp
    refine hK _ ?_
    clear hK K
    refine Ord.gK rfl rfl _ _ _ rfl rfl g aF (by first|rfl|(rw[HG.out];rfl)) rfl _ _ (λw hS=>by simp only[Bool.false_eq_true,if_false]at hS;rw[hS];exact KY.out) (by kernel_rfl) rfl iB (λw hS=>by simp only[Bool.false_eq_true,if_false]at hS;rw[hS];rfl) ?_
    refine Ord.aM (v:=?_) rfl rfl (λw=>?_) (λK hK=>?_)
    rotate_left
    ·(go_simp;first|done|exact rfl)
    go_simp
    refine hK _ ?_
    clear hK K
    refine Ord.aM (v:=?_) rfl rfl (λw=>?_) (λK hK=>?_)
    rotate_left
    ·(go_simp;first|done|exact rfl)
    go_simp
    refine hK _ ?_
    clear hK K
    refine Ord.pE (λw hS=>?_)
    have hS:w=W5.setRow g aF:=hS
    rw[hS]
    clear hS
    go_wp2_with fail
    refine bodyPost_ret (eB rfl _ _ g _ aF (0,0) _ (by first|rfl|(rw[HG.out];rfl)) (setRow_heap W5 g _ aF _ _ KY.out) Tryz.underlying37 rfl (by kernel_rfl)) rfl ?_
    exact⟨_,_,_,rfl,Pv.out⟩
   |subOk x1 x2 hS=>
    obtain⟨Q,qa,qn,qc,k3,k0,k5,k2q,⟨⟨v1,c1⟩,⟨v3,c3⟩,f1,f3,f31⟩,hq2,m1⟩:=hS.out wc hcut.out
    obtain⟨cs,hcs⟩:∃cs,cs=aA Q (.slice qa qn qc):=⟨_,rfl⟩
    rw[<-hcs]at hq2 m1
    have EI:=Lib.hid hcs
    have HC1:Hid (cs.all (·.oneCell')=true):=Lib.hid (by rw[hcs];exact bU Q qa qn qc)
    clear hcs
    have HQ:=Lib.hid hq2
    have M1:=Lib.hid m1
    clear hq2 m1 hS n9 n9b hcut
    go_upto_region 25 with fail
    have m1:=M1.out
    clear M1 k3 k0 k5 k2q c1 c3 f1 f3 f31
    refine wp_region_lit ?_
    refine wpList_load_row rfl _ _ rfl q rfl _ _ _ _ HQ.out Tryz.underlying37 rfl (by rw[EI.out];kernel_rfl) ?_
    go_wp2_with fail
    refine m1.mono ?_
    rintro e wy ⟨rfl,hy⟩
    clear m1
    obtain⟨hzz,hqq,hpo⟩:=hy
    have HZZ:=Lib.hid hzz
    have HQQ:=Lib.hid hqq
    have Pv:=Lib.hid hpo
    clear hzz hqq hpo
    go_upto_region 28 with fail
    refine wp_region_lit ?_
    refine wpList_load_row rfl _ _ rfl q rfl _ _ _ _ HQQ.out Tryz.underlying37 rfl (by rw[EI.out];kernel_rfl) ?_
    refine wpList_store_row rfl _ _ _ rfl g cs (by first|rfl|(rw[HG.out];rfl)) rfl _ _ HZZ.out (by rw[EI.out];kernel_rfl) (by rw[EI.out];rfl) HC1.out ?_
    go_wp2_with fail
    refine bodyPost_ret (eB rfl _ _ g _ cs (0,0) _ (by first|rfl|(rw[HG.out];rfl)) (setRow_heap wy g _ cs _ _ HZZ.out) Tryz.underlying37 rfl (by rw[EI.out];kernel_rfl)) rfl ?_
    exact⟨_,_,_,rfl,Pv.out⟩
   |opBad op hop o c hc Ko hS=>
    obtain⟨Q,qa,qn,qc,k3,k0,hq2,m1⟩:=hS.out wc hcut.out
    obtain⟨cs,hcs⟩:∃cs,cs=aA Q (.slice qa qn qc):=⟨_,rfl⟩
    rw[<-hcs]at hq2 m1
    have EI:=Lib.hid hcs
    have HC1:Hid (cs.all (·.oneCell')=true):=Lib.hid (by rw[hcs];exact bU Q qa qn qc)
    clear hcs
    have HQ:=Lib.hid hq2
    have M1:=Lib.hid m1
    clear hq2 m1 hS n9 n9b hcut
    go_upto_region 25 with fail
    have m1:=M1.out
    clear M1 k3 k0
    refine wp_region_lit ?_
    refine wpList_load_row rfl _ _ rfl q rfl _ _ _ _ HQ.out Tryz.underlying37 rfl (by rw[EI.out];kernel_rfl) ?_
    go_wp2_with fail
    refine m1.mono ?_
    rintro e wy ⟨rfl,hy⟩
    clear m1
    obtain⟨hzz,k2,hpo⟩:=hy
    have HRZ:=Lib.hid hzz
    have Mw:=Lib.hid hpo
    have hgt:Hid (g≠tb):=Ko
    clear hzz hpo
    go_upto_region 27 with fail
    obtain⟨W5,lJ⟩:∃W5,W5=wy.drew:=⟨_,rfl⟩
    have d2:W5.cell? ⟨tb,2,none⟩=some (.int .i64 o):=by rw[lJ];exact k2
    have h2:(W5.setRow g aF).cell? ⟨tb,2,none⟩=some (.int .i64 o):=(World.cell?_of_block (a:=⟨tb,2,none⟩) (gW W5 g tb aF hgt.out)).trans d2
    have KY:Hid (W5.heap[g]? =some (.cells aF 37 (0,0))):=Lib.hid (by rw[lJ];exact HRZ.out)
    have Pv:Hid (Post (.agg aF) o c (W5.setRow g aF)):=Lib.hid (by rw[lJ];exact Mw.out)
    refine Ord.fG (λb w=>w=if b then W5.setRow g aF else W5) 6 rfl (by kernel_rfl) (by kernel_rfl) (by rw[lJ];rfl) ?_
    clear lJ k2
    refine Ord.aM (v:=?_) rfl rfl (λw=>?_) (λK hK=>?_)
    rotate_left
    ·(go_simp;first|done|exact rfl)
    go_simp
    refine hK _ ?_
    clear hK K
    refine Ord.aM (v:=?_) rfl rfl (λw=>?_) (λK hK=>?_)
    rotate_left
    ·(go_simp;first|done|exact rfl)
    go_simp
    refine hK _ ?_
    clear hK K
    refine Ord.aM (v:=?_) rfl rfl (λw=>?_) (λK hK=>?_)
    rotate_left
    ·(go_simp;first|done|exact rfl)
    go_simp
    refine hK _ ?_
    clear hK K
    refine Ord.aM (v:=?_) rfl rfl (λw=>?_) (λK hK=>?_)
    rotate_left
    ·(go_simp;first|done|exact rfl)
    go_simp
    refine hK _ ?_
    clear hK K
    refine Ord.iR (v:=?_) rfl rfl (λb w hS=>?_) (λK hK=>?_)
    rotate_left
    ·(cases b<;>(simp only[Bool.false_eq_true,if_true,if_false]at hS;rw[hS];go_simp;first|done|exact rfl))
    go_simp
    refine hK _ ?_
    clear hK K
    refine Ord.aM (v:=?_) rfl rfl (λw=>?_) (λK hK=>?_)
    rotate_left
    ·(go_simp;first|done|exact rfl)
    go_simp
    refine hK _ ?_
    clear hK K
    refine Ord.gK rfl rfl _ _ _ rfl rfl g aF (by first|rfl|(rw[HG.out];rfl)) rfl _ _ (λw hS=>by simp only[Bool.false_eq_true,if_false]at hS;rw[hS];exact KY.out) (by kernel_rfl) rfl iB (λw hS=>by simp only[Bool.false_eq_true,if_false]at hS;rw[hS];rfl) ?_
    refine Ord.aM (v:=?_) rfl rfl (λw=>?_) (λK hK=>?_)
    rotate_left
    ·(go_simp;first|done|exact rfl)
    go_simp
    refine hK _ ?_
    clear hK K
    refine Ord.aM (v:=?_) rfl rfl (λw=>?_) (λK hK=>?_)
    rotate_left
    ·(go_simp;first|done|exact rfl)
    go_simp
    refine hK _ ?_
    clear hK K
    refine Ord.pE (λw hS=>?_)
    have hS:w=W5.setRow g aF:=hS
    rw[hS]
    clear hS
    go_wp2_with fail
    refine bodyPost_ret (eB rfl _ _ g _ aF (0,0) _ (by first|rfl|(rw[HG.out];rfl)) (setRow_heap W5 g _ aF _ _ KY.out) Tryz.underlying37 rfl (by kernel_rfl)) rfl ?_
    exact⟨_,_,_,rfl,Pv.out⟩
   |opOk op hop hS=>
    obtain⟨Q,qa,qn,qc,k3,k0,hq2,m1⟩:=hS.out wc hcut.out
    obtain⟨cs,hcs⟩:∃cs,cs=aA Q (.slice qa qn qc):=⟨_,rfl⟩
    rw[<-hcs]at hq2 m1
    have EI:=Lib.hid hcs
    have HC1:Hid (cs.all (·.oneCell')=true):=Lib.hid (by rw[hcs];exact bU Q qa qn qc)
    clear hcs
    have HQ:=Lib.hid hq2
    have M1:=Lib.hid m1
    clear hq2 m1 hS n9 n9b hcut
    go_upto_region 25 with fail
    have m1:=M1.out
    clear M1 k3 k0
    refine wp_region_lit ?_
    refine wpList_load_row rfl _ _ rfl q rfl _ _ _ _ HQ.out Tryz.underlying37 rfl (by rw[EI.out];kernel_rfl) ?_
    go_wp2_with fail
    refine m1.mono ?_
    rintro e wy ⟨rfl,hy⟩
    clear m1
    obtain⟨hzz,hqq,hpo⟩:=hy
    have HZZ:=Lib.hid hzz
    have HQQ:=Lib.hid hqq
    have Pv:=Lib.hid hpo
    clear hzz hqq hpo
    go_upto_region 28 with fail
    refine wp_region_lit ?_
    refine wpList_load_row rfl _ _ rfl q rfl _ _ _ _ HQQ.out Tryz.underlying37 rfl (by rw[EI.out];kernel_rfl) ?_
    refine wpList_store_row rfl _ _ _ rfl g cs (by first|rfl|(rw[HG.out];rfl)) rfl _ _ HZZ.out (by rw[EI.out];kernel_rfl) (by rw[EI.out];rfl) HC1.out ?_
    go_wp2_with fail
    refine bodyPost_ret (eB rfl _ _ g _ cs (0,0) _ (by first|rfl|(rw[HG.out];rfl)) (setRow_heap wy g _ cs _ _ HZZ.out) Tryz.underlying37 rfl (by rw[EI.out];kernel_rfl)) rfl ?_
    exact⟨_,_,_,rfl,Pv.out⟩
def Dr (x:Int):Int×Int:=if-1000000000000000<=x/\x<=1000000000000000 then(x,0)else(0,12)
theorem IM (x:Int)(w:World)(b1 b2:Bool)(h1:decide (-1000000000000000<=x)=b1)(h2:decide (x<=1000000000000000)=b2):
 Calls Tryz.prog 237 #[.int .i64 x] w λe w'=>e=.returned (.bool (b1&&b2))/\w=w':=by
 cases b1
 all_goals cases b2
 all_goals simp only[decide_eq_true_eq,decide_eq_false_iff_not]at h1 h2
 all_goals
  go_enter Tryz.func237,Tryz.ntmps237
  go_wp2_with fail
  go_ret
  exact⟨rfl,rfl⟩
theorem Bb (x:Int)(w:World):
 Calls Tryz.prog 278 #[.int .i64 x] w λe w'=>e=.returned (.tuple #[.int .i64 (Dr x).1,.int .i64 (Dr x).2])/\w=w':=by
 have n1:=IM x w _ _ rfl rfl
 by_cases h: -1000000000000000<=x/\x<=1000000000000000
 ·have e1:Dr x=(x,0):=if_pos h
  rw[decide_eq_true h.1,decide_eq_true h.2]at n1
  rw[e1]
  clear e1 h
  go_enter Tryz.func278,Tryz.ntmps278
  go_wp2_with fail
  refine n1.mono ?_
  rintro e w1 ⟨rfl,rfl⟩
  clear n1
  go_wp2_with fail
  go_ret2
  exact⟨rfl,rfl⟩
 ·have e1:Dr x=(0,12):=if_neg h
  have e2:(decide (-1000000000000000<=x)&&decide (x<=1000000000000000))=false:=by
   rw[Bool.eq_false_iff]
   intro h2
   simp only[Bool.and_eq_true,decide_eq_true_eq]at h2
   exact h h2
  rw[e2]at n1
  rw[e1]
  clear e1 e2 h
  go_enter Tryz.func278,Tryz.ntmps278
  go_wp2_with fail
  refine n1.mono ?_
  rintro e w1 ⟨rfl,rfl⟩
  clear n1
  go_wp2_with fail
  go_ret2
  exact⟨rfl,rfl⟩
def PiC (s:ByteArray)(w:World):Prop:=Calls Tryz.prog 277 #[.string s,.int .i64 10,.int .i64 64] w λe w'=>
 (match Lib.parseIntB 64 s.data.toList with
  | .ok v=>e=.returned (.tuple #[.int .i64 v,.nilIface])
  |_=>∃n te pe,e=.returned (.tuple #[.int .i64 n,.iface te pe]))/\Below w.heap.size w w'
theorem am_pi (s:ByteArray)(w:World)(m:Int)(hs:s.size<=1048576)(h:rG m w):PiC s w:=by
 unfold PiC
 obtain⟨_,⟨a,b,h2⟩,⟨c,d,h3⟩⟩:=h
 rcases hr:Lib.parseIntB 64 s.data.toList with v|_|_
 ·refine(Tryz.strconv_ParseInt_10_at64_ok s (by omega) v hr w).mono ?_
  rintro e w' ⟨rfl,hw⟩
  refine⟨rfl,?_⟩
  rcases hw with rfl|⟨t,rfl⟩
  ·exact Below.refl _ _
  ·exact Lib.bytesWorld_below _ _ _
 ·refine(Tryz.strconv_ParseInt_10_at64_syntax s (by omega) hr _ w h3 (Or.inr ⟨_,_,rfl⟩)).mono ?_
  rintro e w' ⟨N,rfl,_,_,hb⟩
  exact⟨⟨_,_,_,rfl⟩,hb⟩
 ·refine(Tryz.strconv_ParseInt_10_at64_range s (by omega) hr _ w h2 (Or.inr ⟨_,_,rfl⟩)).mono ?_
  rintro e w' ⟨N,rfl,_,_,hb⟩
  exact⟨⟨_,_,_,rfl⟩,hb⟩
def xH (s:ByteArray):Int×Int:=
 match Lib.parseIntB 64 ((Lib.cut (Lib.trimPrefix s.data.toList [45]) [46]).1++(Lib.cut (Lib.trimPrefix s.data.toList [45]) [46]).2.1)with
 | .ok v=>Dr (if Lib.hasPrefix s.data.toList [45]=true then wrap64 (-v)else v)
 |_=>(0,12)
theorem I4 (s:ByteArray)(w:World)(_m:Int)(_hs:s.size<=32)(r:List UInt8)(hp:Bool)(u c:ByteArray)(v:Int)(x y:Int)
 (hu1:(u.toList==([]:List UInt8))=false) (_hu0:(u.toList.isEmpty)=false) (hc2:(c.size:Int)=2) (Jw:u.size<=32) (Ku:(1<(u.size:Int))->¬PlainAid.bt u 0=48) (hr0:(hp=true)->(r==[48,46,48,48])=false)
 (h1:Hid (∀W,Calls Tryz.prog 274 #[.string s,.string ⟨#[45]⟩] W λe w'=>e=.returned (.tuple #[.string ⟨r.toArray⟩,.bool hp])/\w'=W))
 (h2:Calls Tryz.prog 275 #[.string ⟨r.toArray⟩,.string ⟨#[46]⟩] w λe w'=>e=.returned (.tuple #[.string u,.string c,.bool true])/\∃n,w'=w.drewN n)
 (H3:Hid (∀W,Calls Tryz.prog 276 #[.string u] W λe w'=>e=.returned (.bool true)/\Below W.heap.size W w'))
 (H4:Hid (∀W,Calls Tryz.prog 276 #[.string c] W λe w'=>e=.returned (.bool true)/\Below W.heap.size W w'))
 (H5:Hid (∀W,Below w.heap.size w W->Calls Tryz.prog 277 #[.string (u++c),.int .i64 10,.int .i64 64] W λe w'=>e=.returned (.tuple #[.int .i64 v,.nilIface])/\Below W.heap.size W w'))
 (H6:Hid (∀W,Calls Tryz.prog 278 #[.int .i64 (if hp=true then wrap64 (-v)else v)] W λe w'=>e=.returned (.tuple #[.int .i64 x,.int .i64 y])/\W=w')):
 Calls Tryz.prog 254 #[.string s] w λe w'=>e=.returned (.tuple #[.int .i64 x,.int .i64 y])/\Below w.heap.size w w':=by
 have hub:=PlainAid.get_bt u
 have hcs:c.size<=32:=by omega
 by_cases hu2:1<(u.size:Int)
 all_goals cases hp
 all_goals try have hu48':=Ku hu2
 all_goals try have hr0':=hr0 rfl
 all_goals clear Ku hr0
 all_goals
  have h1':=h1.out w
  simp only[Bool.false_eq_true,if_false,if_true]at H6
  clear h1
  go_enter Tryz.func254,Tryz.ntmps254
  go_wp2_with fail
  refine h1'.mono ?_
  rintro e w' ⟨rfl,rfl⟩
  go_wp2_with fail
  refine h2.mono ?_
  rintro e w' ⟨rfl,n,rfl⟩
  clear h1' h2
  go_wp2_with (go_at_call 276;first|(refine(H3.out _).mono ?_;rintro e w1 ⟨rfl,hb1⟩)|(refine(H4.out _).mono ?_;rintro e w2 ⟨rfl,hb2⟩))
  have ik:=Lib.hid (((below_drewN' (Below.refl w'.heap.size w') n).trans (hb1.mono (by simp))).trans (hb2.mono (by have:=hb1.size;simpa using this)))
  refine(H5.out _ ik.out).mono ?_
  rintro e w3 ⟨rfl,hb3⟩
  have HB:=Lib.hid (ik.out.trans (hb3.mono ik.out.size))
  clear hb1 hb2 hb3 H3 H4 H5
  go_wp2_with fail
  refine(H6.out _).mono ?_
  rintro e w4 ⟨rfl,rfl⟩
  clear H6
  go_wp2_with fail
  go_ret2
  exact⟨rfl,HB.out⟩
theorem Gj (s:ByteArray)(w:World)(_m:Int)(_hs:s.size<=32)(r:List UInt8)(hp:Bool)(u c:ByteArray)
 (hu1:(u.toList==([]:List UInt8))=false) (_hu0:(u.toList.isEmpty)=false) (hc2:(c.size:Int)=2) (Jw:u.size<=32) (Ku:(1<(u.size:Int))->¬PlainAid.bt u 0=48) (hr0:(hp=true)->(r==[48,46,48,48])=false)
 (h1:Hid (∀W,Calls Tryz.prog 274 #[.string s,.string ⟨#[45]⟩] W λe w'=>e=.returned (.tuple #[.string ⟨r.toArray⟩,.bool hp])/\w'=W))
 (h2:Calls Tryz.prog 275 #[.string ⟨r.toArray⟩,.string ⟨#[46]⟩] w λe w'=>e=.returned (.tuple #[.string u,.string c,.bool true])/\∃n,w'=w.drewN n)
 (H3:Hid (∀W,Calls Tryz.prog 276 #[.string u] W λe w'=>e=.returned (.bool true)/\Below W.heap.size W w'))
 (H4:Hid (∀W,Calls Tryz.prog 276 #[.string c] W λe w'=>e=.returned (.bool true)/\Below W.heap.size W w'))
 (H5:Hid (∀W,Below w.heap.size w W->Calls Tryz.prog 277 #[.string (u++c),.int .i64 10,.int .i64 64] W λe w'=>(∃n te pe,e=.returned (.tuple #[.int .i64 n,.iface te pe]))/\Below W.heap.size W w')):
 Calls Tryz.prog 254 #[.string s] w λe w'=>e=.returned (.tuple #[.int .i64 0,.int .i64 12])/\Below w.heap.size w w':=by
 have hub:=PlainAid.get_bt u
 have hcs:c.size<=32:=by omega
 by_cases hu2:1<(u.size:Int)
 all_goals cases hp
 all_goals try have hu48':=Ku hu2
 all_goals try have hr0':=hr0 rfl
 all_goals clear Ku hr0
 all_goals
  have h1':=h1.out w
  clear h1
  go_enter Tryz.func254,Tryz.ntmps254
  go_wp2_with fail
  refine h1'.mono ?_
  rintro e w' ⟨rfl,rfl⟩
  go_wp2_with fail
  refine h2.mono ?_
  rintro e w' ⟨rfl,n,rfl⟩
  clear h1' h2
  go_wp2_with (go_at_call 276;first|(refine(H3.out _).mono ?_;rintro e w1 ⟨rfl,hb1⟩)|(refine(H4.out _).mono ?_;rintro e w2 ⟨rfl,hb2⟩))
  have ik:=Lib.hid (((below_drewN' (Below.refl w'.heap.size w') n).trans (hb1.mono (by simp))).trans (hb2.mono (by have:=hb1.size;simpa using this)))
  refine(H5.out _ ik.out).mono ?_
  rintro e w3 ⟨⟨z,te,pe,rfl⟩,hb3⟩
  have HB:=Lib.hid (ik.out.trans (hb3.mono ik.out.size))
  clear hb1 hb2 hb3 H3 H4 H5
  go_wp2_with fail
  go_ret2
  exact⟨rfl,HB.out⟩
theorem JX (s:ByteArray)(w:World)(m:Int)(hs:s.size<=32)(h:rG m w)(hdec:Lx.decimal s.data.toList=true):
 Calls Tryz.prog 254 #[.string s] w λe w'=>e=.returned (.tuple #[.int .i64 (xH s).1,.int .i64 (xH s).2])/\Below w.heap.size w w':=by
 have hbad:=uJ s.data.toList
 rw[hdec]at hbad
 obtain⟨r,hr⟩:∃r,r=Lib.trimPrefix s.data.toList [45]:=⟨_,rfl⟩
 obtain⟨hp,hhp⟩:∃hp,hp=Lib.hasPrefix s.data.toList [45]:=⟨_,rfl⟩
 obtain⟨u,hu⟩:∃u:ByteArray,u=⟨(Lib.cut r [46]).1.toArray⟩:=⟨_,rfl⟩
 obtain⟨c,hc⟩:∃c:ByteArray,c=⟨(Lib.cut r [46]).2.1.toArray⟩:=⟨_,rfl⟩
 obtain⟨b,hb⟩:∃b,b=(Lib.cut r [46]).2.2:=⟨_,rfl⟩
 have h1:=λW=>Tryz.strings_CutPrefix s ⟨#[45]⟩ W
 have hl1:r.length<=32:=by have:=je s.data.toList [45];rw[Lib.size_eq]at hs;rw[hr];omega
 have h2:=Tryz.strings_Cut ⟨r.toArray⟩ ⟨#[46]⟩ m w (by rw[cO];omega) h.maxlen
 have hl2:=(mO r [46]).1
 have hl3:=(mO r [46]).2
 have hval:xH s=(match Lib.parseIntB 64 (u++c).data.toList with| .ok v=>Dr (if hp=true then wrap64 (-v)else v)|_=>(0,12)):=by
  unfold xH
  rw[<-hr,<-hhp,hu,hc]
  congr 1
 simp only at h1 h2
 rw[<-hr,<-hhp]at h1 hbad
 rw[<-hu,<-hc,<-hb]at h2 hbad
 have hdu:((Lib.cut r [46]).1.all λc=>Lx.digit (c.toNat:Int))=(u.data.toList.all λc=>Lx.digit (c.toNat:Int)):=by rw[hu]
 have Jp:((Lib.cut r [46]).2.1.all λc=>Lx.digit (c.toNat:Int))=(c.data.toList.all λc=>Lx.digit (c.toNat:Int)):=by rw[hc]
 rw[hdu,Jp]at hbad
 have hu2:u.size<=32:=by rw[hu,cO];omega
 have hc2:c.size<=32:=by rw[hc,cO];omega
 clear hhp hr hu hc hb hl2 hl3 hdu Jp
 have H3:=λW=>uy u W (by omega)
 have H4:=λW=>uy c W (by omega)
 have H5:=λW hW=>am_pi (u++c) W m (by rw[ByteArray.size_append];omega) hW
 unfold Ma at hbad
 simp only[Bool.not_true,Bool.or_eq_false_iff,Bool.not_eq_false',Bool.and_eq_false_iff,bne_eq_false_iff_eq]at hbad
 obtain⟨⟨⟨⟨⟨⟨hb1,hb2⟩,hb3⟩,hb4⟩,hb5⟩,hb6⟩,xM⟩:=hbad
 subst hb1
 rw[hb4]at H3
 rw[hb5]at H4
 have e1:(u.toList==([]:List UInt8))=false:=by
  rw[beq_eq_false_iff_ne]
  intro h;rw[h]at hb2;cases hb2
 have e2:1<(u.size:Int)->¬PlainAid.bt u 0=48:=by
  intro h1 h2
  rcases hb6 with h3|h3
  ·simp at h3;omega
  ·rw[h2]at h3;exact absurd h3 (by decide)
 have e3:hp=true->(r==[48,46,48,48])=false:=by
  intro h1
  rcases xM with h3|h3
  ·rw[h1]at h3;cases h3
  ·exact h3
 have hb3':(c.size:Int)=2:=by simpa using hb3
 unfold PiC at H5
 rcases hpi:Lib.parseIntB 64 (u++c).data.toList with v|_|_
 ·
  rw[hpi]at H5 hval
  simp only[]at H5 hval
  rw[hval]
  exact I4 s w m hs r hp u c v _ _ e1 hb2 hb3' hu2 e2 e3 (Lib.hid h1) h2 (Lib.hid H3) (Lib.hid H4) (Lib.hid λW hW=>H5 W (h.below hW)) (Lib.hid λW=>Bb _ W)
 all_goals
  rw[hpi]at H5 hval
  simp only[]at H5 hval
  rw[hval]
  exact Gj s w m hs r hp u c e1 hb2 hb3' hu2 e2 e3 (Lib.hid h1) h2 (Lib.hid H3) (Lib.hid H4) (Lib.hid λW hW=>H5 W (h.below hW))
theorem Oc (w:World)(y:Int):
 Calls Tryz.prog 280 #[.int .i64 y] w λe w'=>e=.returned (.bool (decide (y.tmod 4=0)&&!decide (y.tmod 100=0)||decide (y.tmod 400=0)))/\w=w':=by
 obtain⟨b,hb⟩:∃b,b=(decide (y.tmod 4=0)&&!decide (y.tmod 100=0)||decide (y.tmod 400=0)):=⟨_,rfl⟩
 rw[<-hb]
 have HB:=Lib.hid hb
 clear hb
 by_cases h4:y.tmod 4=0
 all_goals by_cases h100:y.tmod 100=0
 all_goals by_cases h400:y.tmod 400=0
 all_goals
  have HV:=HB.out
  simp only[h4,h100,h400,decide_true,decide_false,Bool.not_true,Bool.not_false,Bool.and_true,Bool.and_false,Bool.or_true,Bool.or_false]at HV
  subst HV
  clear HB
  go_enter Tryz.func280,Tryz.ntmps280
  go_wp2_with fail
  go_ret
  first
   |exact⟨rfl,rfl⟩
   |(refine⟨?_,rfl⟩
     show Ending.returned (.bool (y.tmod 400==0))=_
     rw[show(y.tmod 400==0)=false from by rw[beq_eq_false_iff_ne];exact h400])
def F4 (p:Int):Int:=365*p+((p+3)/4-(p+99)/100+(p+399)/400)
theorem aW {x:Int}(h: -1000000000<=x/\x<=1000000000):IntKind.i64.wrap x=x:=IntWalk.i64_in _ (by omega)
theorem pK {x y:Int}(h:0<=x):x.tdiv y=x/y:=Int.tdiv_eq_ediv_of_nonneg h
theorem Mv (w:World)(y p a b c:Int)(h0:¬y<2000)(h1:IntKind.i64.wrap (y-2000)=p)(ha:(p+3).tdiv 4=a)(hb:(p+99).tdiv 100=b)(hc:(p+399).tdiv 400=c)
 (w1:IntKind.i64.wrap (p+3)=p+3) (w2:IntKind.i64.wrap (p+99)=p+99) (w3:IntKind.i64.wrap (p+399)=p+399) (w4:IntKind.i64.wrap a=a) (w5:IntKind.i64.wrap b=b) (w6:IntKind.i64.wrap c=c) (w7:IntKind.i64.wrap (a-b)=a-b) (w8:IntKind.i64.wrap (a-b+c)=a-b+c)
 (w9:IntKind.i64.wrap (365*p)=365*p) (v:Int) (w10:IntKind.i64.wrap (365*p+(a-b+c))=v):
 Calls Tryz.prog 261 #[.int .i64 y] w λe w'=>e=.returned (.int .i64 v)/\w=w':=by
 go_enter Tryz.func261,Tryz.ntmps261
 go_wp2_with fail
 go_ret
 exact⟨rfl,rfl⟩
theorem kJ (w:World)(y:Int)(h0:2000<=y)(h1:y<=3000):
 Calls Tryz.prog 261 #[.int .i64 y] w λe w'=>e=.returned (.int .i64 (F4 (y-2000)))/\w=w':=by
 refine Mv w y (y-2000) ((y-2000+3)/4) ((y-2000+99)/100) ((y-2000+399)/400) (by omega) (aW (by omega)) (pK (by omega)) (pK (by omega)) (pK (by omega)) (aW (by omega)) (aW (by omega)) (aW (by omega)) (aW (by omega)) (aW (by omega)) (aW (by omega)) (aW (by omega)) (aW (by omega)) (aW (by omega)) _ ?_
 unfold F4
 exact aW (by omega)
theorem Hq (w:World)(y m:Int)(h:y<2000\/2199<y\/m<1\/12<m):
 Calls Tryz.prog 262 #[.int .i64 y,.int .i64 m] w λe w'=>e=.returned (.int .i64 0)/\Below w.heap.size w w':=by
 by_cases h1:y<2000
 all_goals by_cases h2:2199<y
 all_goals by_cases h3:m<1
 all_goals by_cases h4:12<m
 all_goals try (exfalso;omega)
 all_goals
  clear h
  go_enter Tryz.func262,Tryz.ntmps262
  go_wp2_with fail
  go_ret
  exact⟨rfl,Below.refl _ _⟩
theorem lH {y:Int}(h:0<=y)(n:Int):y.tmod n=y%n:=Int.tmod_eq_emod_of_nonneg h
theorem OE (w:World)(y m:Int)(k:Nat)(n:Int)(h1:¬y<2000)(h2:¬2199<y)(h3:¬m<1)(h4:¬12<m)(h5:¬m=2)(hm:IntKind.i64.wrap (m-1)=(k:Int))(_hk:k<12)(hkI:(k:Int)<12)
 (hn:∀w:World,(w.alloc (.cells #[.int .i64 31,.int .i64 28,.int .i64 31,.int .i64 30,.int .i64 31,.int .i64 30,.int .i64 31,.int .i64 31,.int .i64 30,.int .i64 31,.int .i64 30,.int .i64 31] 282)).cell? ⟨w.heap.size,k,none⟩=some (.int .i64 n)):
 Calls Tryz.prog 262 #[.int .i64 y,.int .i64 m] w λe w'=>e=.returned (.int .i64 n)/\Below w.heap.size w w':=by
 go_enter Tryz.func262,Tryz.ntmps262
 go_wp2_with fail
 go_ret
 exact⟨rfl,(Below.refl _ _).alloc (Nat.le_refl _) _⟩
theorem JA (w:World)(y:Int)(b:Bool)(h1:¬y<2000)(h2:¬2199<y)(n1:∀w,Calls Tryz.prog 280 #[.int .i64 y] w λe w'=>e=.returned (.bool b)/\w=w'):
 Calls Tryz.prog 262 #[.int .i64 y,.int .i64 2] w λe w'=>e=.returned (.int .i64 (if b=true then 29 else 28))/\Below w.heap.size w w':=by
 cases b
 all_goals
  go_enter Tryz.func262,Tryz.ntmps262
  go_wp2_with (go_at_call 280;refine(n1 _).mono ?_;rintro e w1 ⟨rfl,rfl⟩)
  go_ret
  exact⟨rfl,(Below.refl _ _).alloc (Nat.le_refl _) _⟩
theorem MJ (w:World)(y:Int)(h:0<=y):Calls Tryz.prog 280 #[.int .i64 y] w λe w'=>e=.returned (.bool (Ps.xK y))/\w=w':=by
 have:=Oc w y
 rw[lH h 4,lH h 100,lH h 400]at this
 exact this
theorem zt (w:World)(y m:Int):Calls Tryz.prog 262 #[.int .i64 y,.int .i64 m] w λe w'=>e=.returned (.int .i64 (Ps.dim y m))/\Below w.heap.size w w':=by
 by_cases h:y<2000\/2199<y\/m<1\/12<m
 ·unfold Ps.dim
  rw[if_pos h]
  exact Hq w y m h
 ·unfold Ps.dim
  rw[if_neg h]
  by_cases h5:m=2
  ·subst h5
   rw[if_pos rfl]
   exact JA w y _ (by omega) (by omega) (λw=>MJ w y (by omega))
  ·rw[if_neg h5]
   obtain⟨k,hk⟩:∃k:Nat,m=(k:Int)+1:=⟨(m-1).toNat,by omega⟩
   have hkl:k<12:=by omega
   refine OE w y m k _ (by omega) (by omega) (by omega) (by omega) h5 (by rw[hk,show(k:Int)+1-1=k from by omega];exact aW (x:=(k:Int)) (by omega)) hkl (by omega) (λw=>?_)
   rw[cell_of_row _ _ _ _ _ _ (aC w _)]
   subst hk
   have hk1:k≠1:=λe=>h5 (by rw[e];rfl)
   have hc:k=0\/k=2\/k=3\/k=4\/k=5\/k=6\/k=7\/k=8\/k=9\/k=10\/k=11:=by omega
   rcases hc with rfl|rfl|rfl|rfl|rfl|rfl|rfl|rfl|rfl|rfl|rfl
   all_goals rfl
theorem Hg (w:World)(y m d:Int)(hd:d<1):
 Calls Tryz.prog 256 #[.agg #[.int .i64 y,.int .i64 m,.int .i64 d]] w λe w'=>e=.returned (.tuple #[.int .i64 0,.int .i64 28])/\Below w.heap.size w w':=by
 go_enter Tryz.func256,Tryz.ntmps256
 go_wp2_with fail
 obtain⟨W1,hW1⟩:∃W1,W1=w.alloc (Obj.cells #[.int .i64 y,.int .i64 m,.int .i64 d] 251):=⟨_,rfl⟩
 obtain⟨g,hg⟩:∃g,g=w.heap.size:=⟨_,rfl⟩
 have hrow:W1.heap[g]? =some (.cells #[.int .i64 y,.int .i64 m,.int .i64 d] 251 (0,0)):=by rw[hW1,hg];exact aC w _
 have c2:W1.cell? ⟨g,2,none⟩=some (.int .i64 d):=by rw[cell_of_row _ _ _ _ _ _ hrow];rfl
 have hB:Hid (Below w.heap.size w W1):=Lib.hid (by rw[hW1];exact(Below.refl _ _).alloc (Nat.le_refl _) _)
 rw[<-hW1,<-hg]
 clear hW1 hg hrow
 go_quiet (fail)
 go_wp2_with fail
 go_ret2
 exact⟨rfl,below_drewN' hB.out _⟩
theorem tJ {W w w3:World}{g:Nat}{x0 x1 x2:Value}(h:Below W.heap.size W w/\w.cell? ⟨g,0,none⟩=some x0/\w.cell? ⟨g,1,none⟩=some x1/\w.cell? ⟨g,2,none⟩=some x2)(hb:Below w.heap.size w w3):
 Below W.heap.size W w3/\w3.cell? ⟨g,0,none⟩=some x0/\w3.cell? ⟨g,1,none⟩=some x1/\w3.cell? ⟨g,2,none⟩=some x2:=by
 obtain⟨h1,a0,a1,a2⟩:=h
 exact⟨h1.trans (hb.mono h1.size),(hb.cell (World.block_lt_of_cell? w _ a0)).trans a0,(hb.cell (World.block_lt_of_cell? w _ a1)).trans a1,(hb.cell (World.block_lt_of_cell? w _ a2)).trans a2⟩
theorem Dw (w:World)(y m d n:Int)(hd:¬d<1)(hn:n<d)(n1:Hid (∀w,Calls Tryz.prog 262 #[.int .i64 y,.int .i64 m] w λe w'=>e=.returned (.int .i64 n)/\Below w.heap.size w w')):
 Calls Tryz.prog 256 #[.agg #[.int .i64 y,.int .i64 m,.int .i64 d]] w λe w'=>e=.returned (.tuple #[.int .i64 0,.int .i64 28])/\Below w.heap.size w w':=by
 go_enter Tryz.func256,Tryz.ntmps256
 go_wp2_with fail
 obtain⟨W1,hW1⟩:∃W1,W1=w.alloc (Obj.cells #[.int .i64 y,.int .i64 m,.int .i64 d] 251):=⟨_,rfl⟩
 obtain⟨g,hg⟩:∃g,g=w.heap.size:=⟨_,rfl⟩
 have hrow:W1.heap[g]? =some (.cells #[.int .i64 y,.int .i64 m,.int .i64 d] 251 (0,0)):=by rw[hW1,hg];exact aC w _
 have c0:W1.cell? ⟨g,0,none⟩=some (.int .i64 y):=by rw[cell_of_row _ _ _ _ _ _ hrow];rfl
 have c1:W1.cell? ⟨g,1,none⟩=some (.int .i64 m):=by rw[cell_of_row _ _ _ _ _ _ hrow];rfl
 have c2:W1.cell? ⟨g,2,none⟩=some (.int .i64 d):=by rw[cell_of_row _ _ _ _ _ _ hrow];rfl
 have hB:Hid (Below w.heap.size w W1):=Lib.hid (by rw[hW1];exact(Below.refl _ _).alloc (Nat.le_refl _) _)
 rw[<-hW1,<-hg]
 clear hW1 hg hrow
 have hb0:=Below.refl W1.heap.size W1
 have hdd:decide (d<1)=false:=decide_eq_false (by omega)
 have hS0:=And.intro hb0 (And.intro c0 (And.intro c1 c2))
 go_region_held3 (λw'=>Below W1.heap.size W1 w'/\w'.cell? ⟨g,0,none⟩=some (.int .i64 y)/\w'.cell? ⟨g,1,none⟩=some (.int .i64 m)/\w'.cell? ⟨g,2,none⟩=some (.int .i64 d))
  (first|assumption|exact Below.drew (by assumption)|(refine⟨?_,?_,?_,?_⟩<;>first|assumption|exact Below.drew (by assumption)|go_keep)|go_keep)
  (first|(go_at_call 262;with_reducible refine(n1.out _).mono ?_;rintro e w3 ⟨rfl,hb3⟩;have Ct:=tJ (by assumption) hb3))
 have HZ:=Lib.hid (hB.out.trans (Ct.1.mono hB.out.size))
 clear Ct hb3 hS0 hb0 c0 c1 c2
 go_wp2_with fail
 go_ret2
 exact⟨rfl,HZ.out⟩
theorem M3 (w:World)(y d n s t:Int)(M:Nat)(hM12:M<12)(hd:¬d<1)(hn:¬n<d)(n1:Hid (∀w,Calls Tryz.prog 262 #[.int .i64 y,.int .i64 ((M:Int)+1)] w λe w'=>e=.returned (.int .i64 n)/\Below w.heap.size w w'))
 (n2:Hid (∀w,Calls Tryz.prog 261 #[.int .i64 y] w λe w'=>e=.returned (.int .i64 s)/\w'=w)) (hs1:IntKind.i64.wrap (s+d)=s+d) (hs2:IntKind.i64.wrap (s+d-1)=t)
 (ht:t=s+d-1) (hb1:0<=t/\t<=1000000)
 (n3:Hid (∀(k:Nat) w,Calls Tryz.prog 262 #[.int .i64 y,.int .i64 ((k:Int)+1)] w λe w'=>e=.returned (.int .i64 (Ps.dim y ((k:Int)+1)))/\Below w.heap.size w w')):
 Calls Tryz.prog 256 #[.agg #[.int .i64 y,.int .i64 ((M:Int)+1),.int .i64 d]] w λe w'=>e=.returned (.tuple #[.int .i64 (t+Ps.cz y M),.int .i64 0])/\Below w.heap.size w w':=by
 go_enter Tryz.func256,Tryz.ntmps256
 go_wp2_with fail
 obtain⟨W1,hW1⟩:∃W1,W1=w.alloc (Obj.cells #[.int .i64 y,.int .i64 ((M:Int)+1),.int .i64 d] 251):=⟨_,rfl⟩
 obtain⟨g,hg⟩:∃g,g=w.heap.size:=⟨_,rfl⟩
 have hrow:W1.heap[g]? =some (.cells #[.int .i64 y,.int .i64 ((M:Int)+1),.int .i64 d] 251 (0,0)):=by rw[hW1,hg];exact aC w _
 have c0:W1.cell? ⟨g,0,none⟩=some (.int .i64 y):=by rw[cell_of_row _ _ _ _ _ _ hrow];rfl
 have c1:W1.cell? ⟨g,1,none⟩=some (.int .i64 ((M:Int)+1)):=by rw[cell_of_row _ _ _ _ _ _ hrow];rfl
 have c2:W1.cell? ⟨g,2,none⟩=some (.int .i64 d):=by rw[cell_of_row _ _ _ _ _ _ hrow];rfl
 have hB:Hid (Below w.heap.size w W1):=Lib.hid (by rw[hW1];exact(Below.refl _ _).alloc (Nat.le_refl _) _)
 rw[<-hW1,<-hg]
 have HT:=Lib.hid ht
 clear hW1 hg hrow ht
 have hb0:=Below.refl W1.heap.size W1
 have hdd:decide (d<1)=false:=decide_eq_false (by omega)
 have hS0:=And.intro hb0 (And.intro c0 (And.intro c1 c2))
 go_region_held3 (λw'=>Below W1.heap.size W1 w'/\w'.cell? ⟨g,0,none⟩=some (.int .i64 y)/\w'.cell? ⟨g,1,none⟩=some (.int .i64 ((M:Int)+1))/\w'.cell? ⟨g,2,none⟩=some (.int .i64 d))
  (first|assumption|exact Below.drew (by assumption)|(refine⟨?_,?_,?_,?_⟩<;>first|assumption|exact Below.drew (by assumption)|go_keep)|go_keep)
  (first|(go_at_call 262;with_reducible refine(n1.out _).mono ?_;rintro e w3 ⟨rfl,hb3⟩;have Ct:=tJ (by assumption) hb3))
 clear hS0 hb0 c0 c1 c2 hb3 n1
 have HS:=Lib.hid Ct
 obtain⟨hb4,e0,e1,e2⟩:=Ct
 clear hb4
 go_wp2_with fail
 go_quiet ((go_at_call 261;with_reducible exact Calls.quiet_of_same (n2.out _)))
 go_wp2_with fail
 have rD:=Lib.hid (λn=>tJ HS.out (below_drewN' (Below.refl w3.heap.size w3) n))
 go_loopw [4,5] (λnv mv wr=>∃k:Nat,nv=.int .i64 (t+Ps.cz y k)/\mv=.int .i64 ((k:Int)+1)/\k<=M/\Hid (Below W1.heap.size W1 wr/\wr.cell? ⟨g,0,none⟩=some (.int .i64 y)/\wr.cell? ⟨g,1,none⟩=some (.int .i64 ((M:Int)+1))/\wr.cell? ⟨g,2,none⟩=some (.int .i64 d))) (λ_ mv _=>20-(RowKit.intOf mv).toNat)
 case atStart=>
  refine⟨0,?_,rfl,Nat.zero_le _,Lib.hid (rD.out _)⟩
  simp[Ps.cz]
 case round=>
  obtain⟨k,rfl,rfl,hk,HK⟩:=hrel
  obtain⟨hb5,a0,a1,a2⟩:=HK.out
  clear hb5
  have hms:=Ps.tQ y k
  by_cases hlt:k<M
  ·have hkI:(k:Int)<(M:Int):=by omega
   have hkI2:(k:Int)+1<(M:Int)+1:=by omega
   have m3:=n3.out k wr
   have hdm:=Ps.nT y ((k:Int)+1)
   have hw6:IntKind.i64.wrap (t+Ps.cz y k+Ps.dim y ((k:Int)+1))=t+Ps.cz y k+Ps.dim y ((k:Int)+1):=aW (by omega)
   have hw7:IntKind.i64.wrap ((k:Int)+1+1)=(k:Int)+1+1:=aW (by omega)
   have HN:Hid (t+Ps.cz y k+Ps.dim y ((k:Int)+1)=t+Ps.cz y (k+1)):=Lib.hid (by rw[Ps.cz];omega)
   clear hms hdm n3
   go_wp2_with fail
   refine m3.mono ?_
   rintro e w5 ⟨rfl,hb5⟩
   have HK2:=Lib.hid (tJ HK.out hb5)
   clear m3 hb5 a0 a1 a2
   go_wp2_with fail
   refine⟨⟨k+1,by rw[HN.out],by push_cast;rfl,by omega,HK2⟩,?_⟩
   simp[RowKit.intOf]<;>omega
  ·have hkI2:¬(k:Int)+1<(M:Int)+1:=by omega
   obtain rfl:k=M:=by omega
   clear hms n3
   go_wp2_with fail
   go_ret2
   exact⟨rfl,hB.out.trans (HK.out.1.mono hB.out.size)⟩
theorem AP (w:World)(y m d:Int)(hd:d<=1000000000):
 Calls Tryz.prog 256 #[.agg #[.int .i64 y,.int .i64 m,.int .i64 d]] w λe w'=>e=.returned (.tuple #[.int .i64 (Ps.civil y m d).1,.int .i64 (Ps.civil y m d).2])/\Below w.heap.size w w':=by
 unfold Ps.civil
 by_cases h1:d<1
 ·rw[if_pos (.inl h1)]
  exact Hg w y m d h1
 ·by_cases h2:Ps.dim y m<d
  ·rw[if_pos (.inr h2)]
   exact Dw w y m d _ h1 h2 (Lib.hid λw=>zt w y m)
  ·rw[if_neg (by omega)]
   obtain⟨hy1,hy2,hm1,hm2⟩:=Ps.GH (y:=y) (m:=m) (by omega)
   obtain⟨M,rfl⟩:∃M:Nat,m=(M:Int)+1:=⟨(m-1).toNat,by omega⟩
   have hs:=Ps.Cj (p:=y-2000) (by omega) (by omega)
   have hdl:=Ps.nT y ((M:Int)+1)
   have:=M3 w y d (Ps.dim y ((M:Int)+1)) (Ps.ak (y-2000)) (Ps.ak (y-2000)+d-1) M (by omega) h1 h2 (Lib.hid λw=>zt w y _) (Lib.hid λw=>(kJ w y hy1 (by omega)).mono λe w' ⟨a,b⟩=>⟨a,b.symm⟩)
    (aW (by omega)) (aW (by omega)) rfl (by omega) (Lib.hid λk w=>zt w y _)
   rw[show((M:Int)+1-1).toNat=M from by omega]
   exact this
theorem J8 {x:Int}{n:Nat}(h:x=(n:Int)/\n<=1000000000):IntKind.i64.wrap x=(n:Int):=by rw[h.1];exact aW (by omega)
theorem Kn {x:Int}(h:0<=x/\x<=255):IntKind.u8.wrap x=x:=IntWalk.u8_in _ (by omega)
def xJ (f c:Int):Prop:=(f=48/\48<=c/\c<=57)\/(f≠48/\c=f)
theorem zC (w:World)(s f:ByteArray)(hs:¬(s.size:Int)=(f.size:Int))(_h1:s.size<=1000000)(_h2:f.size<=1000):
 Calls Tryz.prog 255 #[.string s,.string f] w λe w'=>e=.returned (.tuple #[.nilFunc,.bool false])/\Below w.heap.size w w':=by
 go_enter Tryz.func255,Tryz.ntmps255
 go_wp2_with fail
 go_ret2
 exact⟨rfl,(Below.refl _ _).alloc (Nat.le_refl _) _⟩
theorem zK (w:World)(s f:ByteArray)(hs:(s.size:Int)=(f.size:Int))(h1:s.size<=1000000)(h2:f.size<=1000)(j:Nat)(hj:j<f.size)(hall:Hid (∀i,i<j->xJ (PlainAid.bt f i) (PlainAid.bt s i)))(hbad:Hid (¬xJ (PlainAid.bt f j) (PlainAid.bt s j))):
 Calls Tryz.prog 255 #[.string s,.string f] w λe w'=>e=.returned (.tuple #[.nilFunc,.bool false])/\Below w.heap.size w w':=by
 have hub:=PlainAid.get_bt s
 have hfb:=PlainAid.get_bt f
 go_enter Tryz.func255,Tryz.ntmps255
 go_wp2_with fail
 obtain⟨W1,hW1⟩:∃W1,W1=w.alloc (Obj.cells #[.string s] 9):=⟨_,rfl⟩
 obtain⟨g,hg⟩:∃g,g=w.heap.size:=⟨_,rfl⟩
 have hrow:W1.heap[g]? =some (.cells #[.string s] 9 (0,0)):=by rw[hW1,hg];exact aC w _
 have c0:W1.cell? ⟨g,0,none⟩=some (.string s):=by rw[cell_of_row _ _ _ _ _ _ hrow];rfl
 have hB:Hid (Below w.heap.size w W1):=Lib.hid (by rw[hW1];exact(Below.refl _ _).alloc (Nat.le_refl _) _)
 rw[<-hW1,<-hg]
 clear hW1 hg hrow
 go_loopw [6,14] (λ_ iv wr=>∃i:Nat,iv=.int .i64 i/\i<=j/\∃n,wr=W1.drewN n) (λ_ iv _=>2000-(RowKit.intOf iv).toNat)
 case atStart=>exact⟨0,rfl,Nat.zero_le _,0,rfl⟩
 case round=>
  obtain⟨i,rfl,hi,n,rfl⟩:=hrel
  have c1:(W1.drewN n).cell? ⟨g,0,none⟩=some (.string s):=c0
  have hif:i<f.size:=by omega
  have hisI:(i:Int)<(s.size:Int):=by omega
  have hifI:(i:Int)<(f.size:Int):=by omega
  have his:i<s.size:=by omega
  by_cases hij:i<j
  ·have hf:=hall.out i hij
   have hw1:wrap64 ((i:Int)+1)=((i+1:Nat):Int):=by unfold wrap64;omega
   rcases hf with⟨x0,x1,x2⟩|⟨x0,x1⟩
   ·have y0:(PlainAid.bt f i==48)=true:=by rw[x0];rfl
    have y1:decide (PlainAid.bt s i<48)=false:=decide_eq_false (by omega)
    have y2:decide (57<PlainAid.bt s i)=false:=decide_eq_false (by omega)
    clear x1 x2 hall hbad hj hs hi
    go_wp2_with fail
    go_big_quiet (fail)
    go_wp2_with fail
    refine⟨⟨i+1,by first|rfl|go_num,by omega,?_⟩,by simp[RowKit.intOf]<;>omega⟩
    first|exact⟨_,rfl⟩|exact⟨_,World.drewN_drewN _ _ _⟩
   ·have y0:(PlainAid.bt f i==48)=false:=by rw[beq_eq_false_iff_ne];exact x0
    have y1:(PlainAid.bt s i==PlainAid.bt f i)=true:=by rw[x1];exact beq_self_eq_true _
    have y2:(PlainAid.bt f i !=48)=true:=by rw[bne,y0];rfl
    have y3:(PlainAid.bt s i !=PlainAid.bt f i)=false:=by rw[bne,y1];rfl
    clear hall hbad hj hs hi
    go_wp2_with fail
    go_big_quiet (fail)
    go_wp2_with fail
    refine⟨⟨i+1,by first|rfl|go_num,by omega,?_⟩,by simp[RowKit.intOf]<;>omega⟩
    first|exact⟨_,rfl⟩|exact⟨_,World.drewN_drewN _ _ _⟩
  ·obtain rfl:i=j:=by omega
   have hb:=hbad.out
   have hcs:(PlainAid.bt f i=48/\PlainAid.bt s i<48)\/(PlainAid.bt f i=48/\¬PlainAid.bt s i<48/\57<PlainAid.bt s i)\/(PlainAid.bt f i≠48/\PlainAid.bt s i≠PlainAid.bt f i):=by
    unfold xJ at hb
    by_cases h48:PlainAid.bt f i=48
    ·by_cases hlo:PlainAid.bt s i<48
     ·exact .inl ⟨h48,hlo⟩
     ·exact .inr (.inl ⟨h48,hlo,by
       rcases Int.lt_or_le 57 (PlainAid.bt s i)with h|h
       ·exact h
       ·exact absurd (.inl ⟨h48,by omega,by omega⟩) hb⟩)
    ·exact .inr (.inr ⟨h48,λh=>hb (.inr ⟨h48,h⟩)⟩)
   clear hb
   rcases hcs with⟨x0,x1⟩|⟨x0,x1,x2⟩|⟨x0,x1⟩
   ·have y0:(PlainAid.bt f i==48)=true:=by rw[x0];rfl
    have y1:decide (PlainAid.bt s i<48)=true:=decide_eq_true x1
    clear hall hbad hj hs hi
    go_wp2_with fail
    go_big_quiet (fail)
    go_wp2_with fail
    go_ret2
    exact⟨rfl,by first|exact below_drewN' hB.out _|exact below_drewN' (below_drewN' hB.out _) _⟩
   ·have y0:(PlainAid.bt f i==48)=true:=by rw[x0];rfl
    have y1:decide (PlainAid.bt s i<48)=false:=decide_eq_false x1
    have y2:decide (57<PlainAid.bt s i)=true:=decide_eq_true x2
    clear hall hbad hj hs hi
    go_wp2_with fail
    go_big_quiet (fail)
    go_wp2_with fail
    go_ret2
    exact⟨rfl,by first|exact below_drewN' hB.out _|exact below_drewN' (below_drewN' hB.out _) _⟩
   ·have y0:(PlainAid.bt f i==48)=false:=by rw[beq_eq_false_iff_ne];exact x0
    have y1:(PlainAid.bt s i==PlainAid.bt f i)=false:=by rw[beq_eq_false_iff_ne];exact x1
    have y2:(PlainAid.bt f i !=48)=true:=by rw[bne,y0];rfl
    have y3:(PlainAid.bt s i !=PlainAid.bt f i)=true:=by rw[bne,y1];rfl
    clear hall hbad hj hs hi
    go_wp2_with fail
    go_big_quiet (fail)
    go_wp2_with fail
    go_ret2
    exact⟨rfl,by first|exact below_drewN' hB.out _|exact below_drewN' (below_drewN' hB.out _) _⟩
theorem BI (w:World)(s f:ByteArray)(hs:(s.size:Int)=(f.size:Int))(h1:s.size<=1000000)(h2:f.size<=1000)(hall:Hid (∀i,i<f.size->xJ (PlainAid.bt f i) (PlainAid.bt s i))):
 Calls Tryz.prog 255 #[.string s,.string f] w λe w'=>e=.returned (.tuple #[.func (.func 279) #[] #[.pointer (some ⟨w.heap.size,0,none⟩)],.bool true])/\Below w.heap.size w w'/\w'.cell? ⟨w.heap.size,0,none⟩=some (.string s):=by
 have hub:=PlainAid.get_bt s
 have hfb:=PlainAid.get_bt f
 go_enter Tryz.func255,Tryz.ntmps255
 go_wp2_with fail
 obtain⟨W1,hW1⟩:∃W1,W1=w.alloc (Obj.cells #[.string s] 9):=⟨_,rfl⟩
 obtain⟨g,hg⟩:∃g,g=w.heap.size:=⟨_,rfl⟩
 have hrow:W1.heap[g]? =some (.cells #[.string s] 9 (0,0)):=by rw[hW1,hg];exact aC w _
 have c0:W1.cell? ⟨g,0,none⟩=some (.string s):=by rw[cell_of_row _ _ _ _ _ _ hrow];rfl
 have hB:Hid (Below w.heap.size w W1):=Lib.hid (by rw[hW1];exact(Below.refl _ _).alloc (Nat.le_refl _) _)
 have HG:=Lib.hid hg
 rw[<-hW1,<-hg]
 clear hW1 hg hrow
 go_loopw [6,14] (λ_ iv wr=>∃i:Nat,iv=.int .i64 i/\i<=f.size/\∃n,wr=W1.drewN n) (λ_ iv _=>2000-(RowKit.intOf iv).toNat)
 case atStart=>exact⟨0,rfl,Nat.zero_le _,0,rfl⟩
 case round=>
  obtain⟨i,rfl,hi,n,rfl⟩:=hrel
  have c1:(W1.drewN n).cell? ⟨g,0,none⟩=some (.string s):=c0
  by_cases hif:i<f.size
  ·have hisI:(i:Int)<(s.size:Int):=by omega
   have hifI:(i:Int)<(f.size:Int):=by omega
   have his:i<s.size:=by omega
   have hf:=hall.out i hif
   have hw1:wrap64 ((i:Int)+1)=((i+1:Nat):Int):=by unfold wrap64;omega
   rcases hf with⟨x0,x1,x2⟩|⟨x0,x1⟩
   ·have y0:(PlainAid.bt f i==48)=true:=by rw[x0];rfl
    have y1:decide (PlainAid.bt s i<48)=false:=decide_eq_false (by omega)
    have y2:decide (57<PlainAid.bt s i)=false:=decide_eq_false (by omega)
    clear x1 x2 hall hs hi
    go_wp2_with fail
    go_big_quiet (fail)
    go_wp2_with fail
    refine⟨⟨i+1,by first|rfl|go_num,by omega,?_⟩,by simp[RowKit.intOf]<;>omega⟩
    first|exact⟨_,rfl⟩|exact⟨_,World.drewN_drewN _ _ _⟩
   ·have y0:(PlainAid.bt f i==48)=false:=by rw[beq_eq_false_iff_ne];exact x0
    have y1:(PlainAid.bt s i==PlainAid.bt f i)=true:=by rw[x1];exact beq_self_eq_true _
    have y2:(PlainAid.bt f i !=48)=true:=by rw[bne,y0];rfl
    have y3:(PlainAid.bt s i !=PlainAid.bt f i)=false:=by rw[bne,y1];rfl
    clear hall hs hi
    go_wp2_with fail
    go_big_quiet (fail)
    go_wp2_with fail
    refine⟨⟨i+1,by first|rfl|go_num,by omega,?_⟩,by simp[RowKit.intOf]<;>omega⟩
    first|exact⟨_,rfl⟩|exact⟨_,World.drewN_drewN _ _ _⟩
  ·obtain rfl:i=f.size:=by omega
   have hifI:¬((f.size:Nat):Int)<(f.size:Int):=by omega
   have C1:=Lib.hid c1
   clear hall hs hi c1
   go_wp2_with fail
   go_ret2
   rw[<-HG.out]
   have hB2:=hB.out
   rw[<-HG.out]at hB2
   exact⟨rfl,below_drewN' hB2 _,C1.out⟩
theorem H8 (w:World)(s:ByteArray)(g a k:Nat)(hs:a+k<=s.size)(h1:s.size<=1000000)(hk:k<=6)(hc:w.cell? ⟨g,0,none⟩=some (.string s))(hd:Hid (∀i,i<k->48<=PlainAid.bt s (a+i)/\PlainAid.bt s (a+i)<=57))
 (V:Nat->Int) (h0:V 0=0) (hV:Hid (∀i,i<k->V (i+1)=10*V i+(PlainAid.bt s (a+i)-48))) (hb:Hid (∀i,i<=k->0<=V i/\V i<=1000000)):
 Calls Tryz.prog 279 #[.int .i64 a,.int .i64 k,.pointer (some ⟨g,0,none⟩)] w λe w'=>e=.returned (.int .i64 (V k))/\w=w':=by
 have hub:=PlainAid.get_bt s
 have H0:=Lib.hid h0
 clear h0
 go_enter Tryz.func279,Tryz.ntmps279
 go_wp2_with fail
 go_loopw [6,7,9] (λnv _ iv wr=>∃i:Nat,nv=.int .i64 (V i)/\iv=.int .i64 i/\i<=k/\wr=w) (λ_ _ iv _=>100-(RowKit.intOf iv).toNat)
 case atStart=>exact⟨0,by rw[H0.out],rfl,Nat.zero_le _,rfl⟩
 case round=>
  obtain⟨i,rfl,rfl,hi,rfl⟩:=hrel
  by_cases hik:i<k
  ·have hikI:(i:Int)<(k:Int):=by omega
   obtain⟨d0,d1⟩:=hd.out i hik
   obtain⟨b0,b1⟩:=hb.out i hi
   have hv:=hV.out i hik
   obtain⟨x,hx⟩:∃x,x=V i:=⟨_,rfl⟩
   have hai:wrap64 ((a:Int)+(i:Int))=((a+i:Nat):Int):=by unfold wrap64;omega
   have hai2:IntKind.i64.wrap ((a:Int)+(i:Int))=((a+i:Nat):Int):=J8 (by omega)
   have hlt:a+i<s.size:=by omega
   have ww:((a+i:Nat):Int)<(s.size:Int):=by omega
   have hw1:IntKind.i64.wrap (10*x)=10*x:=aW (by omega)
   have hw2:IntKind.u8.wrap (PlainAid.bt s (a+i)-48)=PlainAid.bt s (a+i)-48:=Kn (by omega)
   have hw4:IntKind.i64.wrap (PlainAid.bt s (a+i)-48)=PlainAid.bt s (a+i)-48:=aW (by omega)
   have hw3:IntKind.i64.wrap (10*x+(PlainAid.bt s (a+i)-48))=10*x+(PlainAid.bt s (a+i)-48):=aW (by omega)
   have HV:Hid (V (i+1)=10*x+(PlainAid.bt s (a+i)-48)):=Lib.hid (by rw[hv,hx])
   rw[<-hx]
   clear hd hb hV d0 d1 b0 b1 hv hx
   go_wp2_with fail
   refine⟨⟨i+1,by rw[HV.out],by first|rfl|go_num,by omega,by trivial⟩,by simp[RowKit.intOf]<;>omega⟩
  ·obtain rfl:i=k:=by omega
   have hikI:¬(i:Int)<(i:Int):=by omega
   clear hd hb hV
   go_wp2_with fail
   go_ret
   exact⟨rfl,rfl⟩
theorem CY (w:World)(s:ByteArray)(n1:Calls Tryz.prog 255 #[.string s,.string ⟨#[48,48,48,48,45,48,48,45,48,48]⟩] w λe w'=>e=.returned (.tuple #[.nilFunc,.bool false])/\Below w.heap.size w w'):
 Calls Tryz.prog 227 #[.string s] w λe w'=>e=.returned (.tuple #[.int .i64 0,.int .i64 3])/\Below w.heap.size w w':=by
 go_enter Tryz.func227,Tryz.ntmps227
 go_wp2_with fail
 refine n1.mono ?_
 rintro e w1 ⟨rfl,hb⟩
 have HB:=Lib.hid hb
 clear n1 hb
 go_wp2_with fail
 go_ret2
 exact⟨rfl,HB.out⟩
theorem Dj (w:World)(s:ByteArray)(g:Nat)(y m d a b:Int)
 (eg:∀args w,(callFunc 279 args).run Tryz.prog w=.ok (.enter 279 args) w)
 (n1:Calls Tryz.prog 255 #[.string s,.string ⟨#[48,48,48,48,45,48,48,45,48,48]⟩] w λe w'=>e=.returned (.tuple #[.func (.func 279) #[] #[.pointer (some ⟨g,0,none⟩)],.bool true])/\Below w.heap.size w w'/\w'.cell? ⟨g,0,none⟩=some (.string s))
 (n2:Hid (∀w,w.cell? ⟨g,0,none⟩=some (.string s)->Calls Tryz.prog 279 #[.int .i64 0,.int .i64 4,.pointer (some ⟨g,0,none⟩)] w λe w'=>e=.returned (.int .i64 y)/\w=w'))
 (n3:Hid (∀w,w.cell? ⟨g,0,none⟩=some (.string s)->Calls Tryz.prog 279 #[.int .i64 5,.int .i64 2,.pointer (some ⟨g,0,none⟩)] w λe w'=>e=.returned (.int .i64 m)/\w=w'))
 (n4:Hid (∀w,w.cell? ⟨g,0,none⟩=some (.string s)->Calls Tryz.prog 279 #[.int .i64 8,.int .i64 2,.pointer (some ⟨g,0,none⟩)] w λe w'=>e=.returned (.int .i64 d)/\w=w'))
 (n5:Hid (∀w,Calls Tryz.prog 256 #[.agg #[.int .i64 y,.int .i64 m,.int .i64 d]] w λe w'=>e=.returned (.tuple #[.int .i64 a,.int .i64 b])/\Below w.heap.size w w')):
 Calls Tryz.prog 227 #[.string s] w λe w'=>e=.returned (.tuple #[.int .i64 a,.int .i64 b])/\Below w.heap.size w w':=by
 go_enter Tryz.func227,Tryz.ntmps227
 go_wp2_with fail
 refine n1.mono ?_
 rintro e w1 ⟨rfl,hb,hc⟩
 have HB:=Lib.hid hb
 have m2:=n2.out w1 hc
 have m3:=n3.out w1 hc
 have m4:=n4.out w1 hc
 have m5:=n5.out w1
 clear n1 hb n2 n3 n4 n5
 go_wp2_with (go_at_fn 279;first|(with_reducible refine m2.mono ?_;rintro e w2 ⟨rfl,rfl⟩)|(with_reducible refine m3.mono ?_;rintro e w2 ⟨rfl,rfl⟩)|(with_reducible refine m4.mono ?_;rintro e w2 ⟨rfl,rfl⟩))
 refine m5.mono ?_
 rintro e w6 ⟨rfl,hb6⟩
 have wW:=Lib.hid (HB.out.trans (hb6.mono HB.out.size))
 clear m2 m3 m4 m5 hb6 eg
 go_wp2_with fail
 go_ret2
 exact⟨rfl,wW.out⟩
theorem l8 (s:ByteArray)(i:Nat)(c:UInt8)(h:s.data.toList[i]? =some c):PlainAid.bt s i=(c.toNat:Int):=by
 have hlt:i<s.size:=by
  have:=(List.getElem?_eq_some_iff.1 h).1
  rw[Lib.size_eq];exact this
 rw[<-PlainAid.get_bt s i hlt]
 have h2:=(List.getElem?_eq_some_iff.1 h).2
 have:s[i]=c:=by rw[<-h2];rfl
 rw[this]
theorem vk:∀(f l:List UInt8),Ps.fits f l=true↔(l.length=f.length/\∀(i:Nat) (x c:UInt8),f[i]? =some x->l[i]? =some c->Ps.fit x c=true)
 |[],[]=>by simp[Ps.fits]
 |[],_::_=>by simp[Ps.fits]
 |_::_,[]=>by simp[Ps.fits]
 |x::f,c::l=>by
  have ih:=vk f l
  unfold Ps.fits at ih⊢
  simp only[List.length_cons,List.zip_cons_cons,List.all_cons,Bool.and_eq_true,decide_eq_true_eq]at ih⊢
  constructor
  ·rintro⟨h1,h2,h3⟩
   have h4:=ih.1 ⟨by omega,h3⟩
   refine⟨h1,λi y d hy hd=>?_⟩
   cases i with
   |zero=>simp at hy hd;subst hy;subst hd;exact h2
   |succ i=>exact h4.2 i y d (by simpa using hy) (by simpa using hd)
  ·rintro⟨h1,h2⟩
   have h4:=ih.2 ⟨by omega,λi y d hy hd=>h2 (i+1) y d (by simpa using hy) (by simpa using hd)⟩
   exact⟨h1,h2 0 x c rfl rfl,h4.2⟩
theorem QJ (x c:UInt8):Ps.fit x c=true↔xJ (x.toNat:Int) (c.toNat:Int):=by
 unfold Ps.fit xJ
 by_cases h:x=48
 ·subst h
  rw[if_pos rfl]
  unfold Lx.digit
  simp only[Bool.and_eq_true,decide_eq_true_eq]
  have e:((48:UInt8).toNat:Int)=48:=rfl
  rw[e]
  omega
 ·rw[if_neg h]
  have hne:¬((x.toNat:Int)=48):=λe=>h (by
   apply UInt8.toNat_inj.1
   have:x.toNat=48:=by omega
   rw[this];rfl)
  rw[beq_iff_eq,<-UInt8.toNat_inj]
  constructor
  ·intro e;exact .inr ⟨hne,by rw[e]⟩
  ·rintro(⟨e,_⟩|⟨_,e⟩)
   ·exact absurd e hne
   ·omega
theorem BN (l:List UInt8)(c:UInt8):Ps.num (l++[c])=10*Ps.num l+(c.toNat-48):=by unfold Ps.num;rw[List.foldl_append];rfl
theorem Du:∀(k:Nat) (l:List UInt8),l.length<=k->(∀c∈l,Lx.digit (c.toNat:Int)=true)->Ps.num l<10^k
 |0,l,h,_=>by
  obtain rfl:l=[]:=List.eq_nil_of_length_eq_zero (by omega)
  decide
 |k+1,l,h,hd=>by
  rcases List.eq_nil_or_concat l with rfl|⟨t,c,rfl⟩
  ·show 0<10^(k+1)
   exact Nat.pos_of_ne_zero (by simp)
  ·rw[List.concat_eq_append]at *
   have ih:=Du k t (by simp at h;omega) (λx hx=>hd x (by simp[hx]))
   have hc:=hd c (by simp)
   unfold Lx.digit at hc
   simp only[Bool.and_eq_true,decide_eq_true_eq]at hc
   rw[BN,Nat.pow_succ]
   omega
theorem Dh (s:ByteArray)(a k:Nat)(w:World)(g:Nat)(hs:s.size=10)(hak:a+k<=10)(hk:k<=6)(hc:w.cell? ⟨g,0,none⟩=some (.string s))(hd:∀(i:Nat) (c:UInt8),i<k->s.data.toList[a+i]? =some c->Lx.digit (c.toNat:Int)=true):
 Calls Tryz.prog 279 #[.int .i64 a,.int .i64 k,.pointer (some ⟨g,0,none⟩)] w λe w'=>e=.returned (.int .i64 (Ps.num ((s.data.toList.drop a).take k)))/\w=w':=by
 have hl:s.data.toList.length=10:=by rw[<-Lib.size_eq];exact hs
 have hget:∀i,i<k->∃c,s.data.toList[a+i]? =some c:=λi hi=>⟨_,List.getElem?_eq_getElem (by omega)⟩
 refine H8 w s g a k (by omega) (by omega) hk hc (Lib.hid λi hi=>?_) (λi=>(Ps.num ((s.data.toList.drop a).take i):Int)) rfl (Lib.hid λi hi=>?_) (Lib.hid λi hi=>?_)
 ·obtain⟨c,hci⟩:=hget i hi
  have:=hd i c hi hci
  unfold Lx.digit at this
  simp only[Bool.and_eq_true,decide_eq_true_eq]at this
  rw[l8 s _ c hci]
  exact this
 ·obtain⟨c,hci⟩:=hget i hi
  have Jp:=hd i c hi hci
  unfold Lx.digit at Jp
  simp only[Bool.and_eq_true,decide_eq_true_eq]at Jp
  have e1:(s.data.toList.drop a).take (i+1)=(s.data.toList.drop a).take i++[c]:=by
   rw[List.take_add_one,List.getElem?_drop,hci];rfl
  rw[e1,BN,l8 s _ c hci]
  omega
 ·have h1:=Du 6 ((s.data.toList.drop a).take i) (by rw[List.length_take];omega) (λc hc=>by
   obtain⟨j,hj,rfl⟩:=List.getElem_of_mem hc
   rw[List.length_take]at hj
   have hj2:(s.data.toList.drop a)[j]? =some (((s.data.toList.drop a).take i)[j]'(by rw[List.length_take];exact hj)):=by
    rw[List.getElem_take]
    exact List.getElem?_eq_getElem _
   rw[List.getElem?_drop]at hj2
   exact hd j _ (by omega) hj2)
  omega
theorem MC (s:ByteArray)(w:World)(hs:s.size<=1000000):
 Calls Tryz.prog 227 #[.string s] w λe w'=>e=.returned (.tuple #[.int .i64 (Ps.fM s).1,.int .i64 (Ps.fM s).2])/\Below w.heap.size w w':=by
 have eg:=enters_of Tryz.func279 (by kernel_rfl) rfl
 obtain⟨F,hF⟩:∃F:ByteArray,F=⟨#[48,48,48,48,45,48,48,45,48,48]⟩:=⟨_,rfl⟩
 have hFs:F.size=10:=by rw[hF];rfl
 have hFl:F.data.toList=Ps.form:=by rw[hF];rfl
 have hFl2:Ps.form.length=10:=rfl
 have hsl:=Lib.size_eq s
 unfold Ps.fM
 by_cases hf:Ps.fits Ps.form s.data.toList=true
 ·rw[if_pos hf]
  obtain⟨h1,h2⟩:=(vk _ _).1 hf
  have hs10:s.size=10:=by omega
  have hget:∀i,i<10->∃x c,Ps.form[i]? =some x/\s.data.toList[i]? =some c:=λi hi=>⟨_,_,List.getElem?_eq_getElem (by omega),List.getElem?_eq_getElem (by omega)⟩
  have n1:=BI w s F (by omega) hs (by omega) (Lib.hid λi hi=>by
   obtain⟨x,c,hx,hc⟩:=hget i (by omega)
   rw[l8 s i c hc,l8 F i x (by rw[hFl];exact hx)]
   exact(QJ x c).1 (h2 i x c hx hc))
  have hdig:∀(i:Nat) (c:UInt8),Ps.form[i]? =some 48->s.data.toList[i]? =some c->Lx.digit (c.toNat:Int)=true:=λi c hi hc=>by
   have:=h2 i 48 c hi hc
   unfold Ps.fit at this
   rwa [if_pos rfl]at this
  rw[hF]at n1
  have k4:∀i,i<4->Ps.form[0+i]? =some 48:=by decide
  have k5:∀i,i<2->Ps.form[5+i]? =some 48:=by decide
  have k8:∀i,i<2->Ps.form[8+i]? =some 48:=by decide
  refine Dj w s w.heap.size _ _ _ _ _ eg n1 (Lib.hid λw1 hc=>?_) (Lib.hid λw1 hc=>?_) (Lib.hid λw1 hc=>?_) (Lib.hid λw1=>AP w1 _ _ _ ?_)
  ·exact Dh s 0 4 w1 _ hs10 (by omega) (by omega) hc (λi c hi hci=>hdig _ c (k4 i hi) hci)
  ·exact Dh s 5 2 w1 _ hs10 (by omega) (by omega) hc (λi c hi hci=>hdig _ c (k5 i hi) hci)
  ·exact Dh s 8 2 w1 _ hs10 (by omega) (by omega) hc (λi c hi hci=>hdig _ c (k8 i hi) hci)
  ·have:=Du 2 ((s.data.toList.drop 8).take 2) (by rw[List.length_take];omega) (λc hc=>by
    obtain⟨j,hj,rfl⟩:=List.getElem_of_mem hc
    rw[List.length_take]at hj
    have hj2:(s.data.toList.drop 8)[j]? =some (((s.data.toList.drop 8).take 2)[j]'(by rw[List.length_take];exact hj)):=by
     rw[List.getElem_take]
     exact List.getElem?_eq_getElem _
    rw[List.getElem?_drop]at hj2
    exact hdig _ _ (k8 j (by omega)) hj2)
   omega
 ·rw[if_neg hf]
  refine CY w s ?_
  rw[<-hF]
  by_cases hl:s.size=10
  ·have hex:∃j,j<10/\¬xJ (PlainAid.bt F j) (PlainAid.bt s j):=by
    apply Classical.byContradiction
    intro hno
    apply hf
    refine(vk _ _).2 ⟨by omega,λi x c hx hc=>?_⟩
    apply Classical.byContradiction
    intro hnf
    have hi:i<10:=by have:=(List.getElem?_eq_some_iff.1 hx).1;omega
    exact hno ⟨i,hi,λh=>hnf ((QJ x c).2 (by rw[l8 s i c hc,l8 F i x (by rw[hFl];exact hx)]at h;exact h))⟩
   obtain⟨j,⟨hj1,hj2⟩,hmin⟩:∃j,(j<10/\¬xJ (PlainAid.bt F j) (PlainAid.bt s j))/\∀i,i<j->xJ (PlainAid.bt F i) (PlainAid.bt s i):=by
    obtain⟨j,hj⟩:=hex
    induction j using Nat.strongRecOn with
    |ind j ih=>
     by_cases h:∃i,i<j/\¬xJ (PlainAid.bt F i) (PlainAid.bt s i)
     ·obtain⟨i,hi,hn⟩:=h
      exact ih i hi ⟨by omega,hn⟩
     ·exact⟨j,hj,λi hi=>Classical.byContradiction λhn=>h ⟨i,hi,hn⟩⟩
   exact zK w s F (by omega) hs (by omega) j (by omega) (Lib.hid hmin) (Lib.hid hj2)
  ·exact zC w s F (by omega) hs (by omega)
end Go.Proofs.YtnjjeapcalkmaaaGreatDoor
