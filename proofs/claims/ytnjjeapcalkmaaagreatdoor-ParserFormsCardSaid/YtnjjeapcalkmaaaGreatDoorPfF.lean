/-
  Part 6 of a proof; written short by a program out of longer texts of mine.
-/
import Derived.Test.YtnjjeapcalkmaaaGreatDoorPfE
set_option maxRecDepth 100000
set_option maxHeartbeats 4000000
set_option linter.unusedVariables false
set_option linter.unusedSimpArgs false
namespace Go.Proofs.YtnjjeapcalkmaaaGreatDoor.Lx
abbrev Bs:=List UInt8
def gm (l:Bs):Bool:=l.all λc=>!blank (c.toNat:Int)
def blanks (l:Bs):Bool:=l.all λc=>blank (c.toNat:Int)
def BC (k:Nat)(t:Bs)(a:Nat)(acc:List Tok)(next:Nat->List Tok->List Tok×Int×Int):List Tok×Int×Int:=
 if t=[]then(acc,0,0)
 else if (aC ⟨t.toArray⟩).2=0 then next (a+k+t.length) (acc++[((aC ⟨t.toArray⟩).1,⟨t.toArray⟩,a+k)])
 else([],((a+k:Nat):Int),(aC ⟨t.toArray⟩).2)
theorem nR (k:Nat)(t:Bs)(a:Nat)(acc:List Tok)(next:Nat->List Tok->List Tok×Int×Int)(h:t≠[])(hc:(aC ⟨t.toArray⟩).2=0):BC k t a acc next=next (a+k+t.length) (acc++[((aC ⟨t.toArray⟩).1,⟨t.toArray⟩,a+k)]):=by
 unfold BC;rw[if_neg h,if_pos hc]
theorem jv (k:Nat)(t:Bs)(a:Nat)(acc:List Tok)(next:Nat->List Tok->List Tok×Int×Int)(h:t≠[])(hc:(aC ⟨t.toArray⟩).2≠0):BC k t a acc next=([],((a+k:Nat):Int),(aC ⟨t.toArray⟩).2):=by
 unfold BC;rw[if_neg h,if_neg hc]
def sQ:Nat->Bs->Nat->List Tok->List Tok×Int×Int
 |0,_,_,acc=>(acc,0,0)
 |f+1,l,a,acc=>
  BC (run blank l) ((l.drop (run blank l)).take (run (λc=>!blank c) (l.drop (run blank l)))) a acc (sQ f (l.drop (run blank l+((l.drop (run blank l)).take (run (λc=>!blank c) (l.drop (run blank l)))).length)))
theorem kN (f:Nat)(l:Bs)(a:Nat)(acc:List Tok):sQ (f+1) l a acc=BC (run blank l) ((l.drop (run blank l)).take (run (λc=>!blank c) (l.drop (run blank l)))) a acc (sQ f (l.drop (run blank l+((l.drop (run blank l)).take (run (λc=>!blank c) (l.drop (run blank l)))).length))):=rfl
theorem gP (s:ByteArray)(a b:Nat):s.extract a b=⟨((s.data.toList.drop a).take (b-a)).toArray⟩:=by
 obtain⟨⟨l⟩⟩:=s
 rw[ByteArray.extract_mk]
theorem ru (s:ByteArray):∀(f a:Nat) (acc:List Tok),a<=s.size->ig f s a acc=sQ f (s.data.toList.drop a) a acc
 |0,_,_,_=>rfl
 |f+1,a,acc,ha=>by
  have hl:s.data.toList.length=s.size:=by obtain⟨⟨l⟩⟩:=s;rfl
  obtain⟨k,hk⟩:∃k,k=run blank (s.data.toList.drop a):=⟨_,rfl⟩
  have h1:skip s a=k:=by
   unfold skip
   rw[gP,hk]
   congr 1
   show List.take _ _=_
   rw[List.take_of_length_le]
   rw[List.length_drop];omega
  have hsk:=AC s a ha
  obtain⟨m,hm⟩:∃m,m=run (λc=>!blank c) ((s.data.toList.drop a).drop k):=⟨_,rfl⟩
  have h2:size s (a+k)=m:=by
   unfold size
   rw[gP,hm]
   congr 1
   show List.take _ _=_
   rw[List.take_of_length_le,List.drop_drop]
   rw[List.length_drop];omega
  rw[h1]at hsk
  have hsz:=size_le s (a+k) hsk
  rw[h2]at hsz
  obtain⟨t,hte⟩:∃t,t=(List.drop k (List.drop a s.data.toList)).take m:=⟨_,rfl⟩
  have ht:s.extract (a+k) (a+k+m)=⟨t.toArray⟩:=by
   rw[gP,hte,List.drop_drop,show a+k+m-(a+k)=m from by omega]
  have htl:t.length=m:=by
   rw[hte,List.length_take,List.drop_drop,List.length_drop];omega
  unfold ig sQ
  rw[<-hk,<-hm,<-hte]
  simp only[h1,h2,ht]
  by_cases h0:m=0
  ·rw[if_pos h0]
   unfold BC
   rw[if_pos (List.eq_nil_of_length_eq_zero (by omega))]
  ·have hn:t≠[]:=λh=>h0 (by rw[<-htl,h];rfl)
   rw[if_neg h0]
   by_cases hc:(aC ⟨t.toArray⟩).2=0
   ·rw[if_pos hc,nR _ _ _ _ _ hn hc,ru s f _ _ (by omega),List.drop_drop,htl,show a+(k+m)=a+k+m from by omega]
   ·rw[if_neg hc,jv _ _ _ _ _ hn hc]
theorem Nv (p:Int->Bool)(g l:Bs)(hg:g.all (λc=>p (c.toNat:Int))=true)(hl:∀c r,l=c::r->p (c.toNat:Int)=false):run p (g++l)=g.length:=by
 induction g with
 |nil=>
  cases l with
  |nil=>rfl
  |cons c r=>simp[run,hl c r rfl]
 |cons x g ih=>
  rw[List.all_cons,Bool.and_eq_true]at hg
  have e:run p (x::(g++l))=run p (g++l)+1:=by simp[run,hg.1]
  rw[List.cons_append,e,ih hg.2]
  rfl
theorem zF (f:Nat)(g t l:Bs)(a:Nat)(acc:List Tok)(hg:blanks g=true)(ht:gm t=true)(h0:t≠[])(hl:∀c r,l=c::r->blank (c.toNat:Int)=true):
 sQ (f+1) (g++(t++l)) a acc=if (aC ⟨t.toArray⟩).2=0 then sQ f l (a+g.length+t.length) (acc++[((aC ⟨t.toArray⟩).1,⟨t.toArray⟩,a+g.length)])else([],((a+g.length:Nat):Int),(aC ⟨t.toArray⟩).2):=by
 have e1:run blank (g++(t++l))=g.length:=Nv blank g _ hg λc r h=>by
  cases t with
  |nil=>exact absurd rfl h0
  |cons x t=>
   rw[List.cons_append]at h
   injection h with h1 h2
   subst h1
   unfold gm at ht
   rw[List.all_cons,Bool.and_eq_true]at ht
   simpa using ht.1
 have e2:run (λc=>!blank c) (t++l)=t.length:=Nv _ t _ ht λc r h=>by simp[hl c r h]
 rw[kN,e1,List.drop_left,e2,List.take_left]
 by_cases hc:(aC ⟨t.toArray⟩).2=0
 ·rw[if_pos hc,nR _ _ _ _ _ h0 hc,<-List.drop_drop,List.drop_left,List.drop_left]
 ·rw[if_neg hc,jv _ _ _ _ _ h0 hc]
theorem kJ (f:Nat)(g:Bs)(a:Nat)(acc:List Tok)(hg:blanks g=true):sQ f g a acc=(acc,0,0):=by
 cases f with
 |zero=>rfl
 |succ f=>
  have e1:run blank g=g.length:=(oP _ _).2 hg
  unfold sQ
  rw[e1,List.drop_length,List.take_nil]
  rfl
def dP:List (Bs×Bs)->Bs->Bs
 |[],e=>e
 |(g,t)::r,e=>g++(t++dP r e)
def jY:List (Bs×Bs)->Nat->List Tok
 |[],_=>[]
 |(g,t)::r,a=>((aC ⟨t.toArray⟩).1,⟨t.toArray⟩,a+g.length)::jY r (a+g.length+t.length)
def pQ:List (Bs×Bs)->Bool->Prop
 |[],_=>True
 |(g,t)::r,b=>(b=false->g≠[])/\blanks g=true/\gm t=true/\t≠[]/\(aC ⟨t.toArray⟩).2=0/\(t.all λc=>c !=35)=true/\pQ r false
theorem zL:∀(ps:List (Bs×Bs)) (e:Bs) (f a:Nat) (acc:List Tok) (b:Bool),pQ ps b->blanks e=true->(e=[]\/True)->ps.length<=f->sQ f (dP ps e) a acc=(acc++jY ps a,0,0)
 |[],e,f,a,acc,_,_,he,_,_=>by rw[jY,List.append_nil];exact kJ f e a acc he
 |(g,t)::r,e,0,a,acc,b,h,he,ht,hf=>by simp at hf
 |(g,t)::r,e,f+1,a,acc,b,⟨h1,h2,h3,h4,h5,h7,h6⟩,he,ht,hf=>by
  unfold dP
  rw[zF f g t _ a acc h2 h3 h4 λc r' hc=>?_,if_pos h5,zL r e f _ _ false h6 he ht (by simpa using hf)]
  ·rw[jY,List.append_assoc];rfl
  ·cases r with
   |nil=>
    rw[show dP [] e=e from rfl]at hc
    subst hc
    unfold blanks at he
    rw[List.all_cons,Bool.and_eq_true]at he
    exact he.1
   |cons y r=>
    obtain⟨g2,t2⟩:=y
    obtain⟨k1,k2,_⟩:=h6
    have k3:=k1 rfl
    cases g2 with
    |nil=>exact absurd rfl k3
    |cons x g2=>
     rw[dP,List.cons_append]at hc
     injection hc with hc1 _
     subst hc1
     unfold blanks at k2
     rw[List.all_cons,Bool.and_eq_true]at k2
     exact k2.1
theorem JY (l:Bs)(h:(l.all λc=>c !=35)=true)(i:Nat):isC l i=false:=by
 unfold isC
 rw[Bool.and_eq_false_iff]
 left
 rw[beq_eq_false_iff_ne]
 intro hi
 have:=List.mem_of_getElem? hi
 rw[List.all_eq_true]at h
 have:=h _ this
 simp at this
theorem uL (s:ByteArray)(h:(s.data.toList.all λc=>c !=35)=true):aV s=s:=by
 unfold aV
 rw[oo _ λj _=>JY _ h j]
 have hl:s.data.toList.length=s.size:=by obtain⟨⟨l⟩⟩:=s;rfl
 rw[hl]
 exact extract_all s
theorem rG {g:Bs}(h:blanks g=true):(g.all λc=>c !=35)=true:=by
 unfold blanks at h
 rw[List.all_eq_true]at h⊢
 intro x hx
 have h2:=h x hx
 rw[bne_iff_ne]
 rintro rfl
 revert h2
 decide
theorem wL:∀(ps:List (Bs×Bs)) (e:Bs) (b:Bool),pQ ps b->blanks e=true->((dP ps e).all λc=>c !=35)=true
 |[],e,_,_,he=>rG he
 |(g,t)::r,e,b,⟨h1,h2,h3,h4,h5,h7,h6⟩,he=>by
  unfold dP
  rw[List.all_append,List.all_append,rG h2,h7,wL r e false h6 he]
  rfl
theorem sj:∀(ps:List (Bs×Bs)) (e:Bs) (b:Bool),pQ ps b->ps.length<=(dP ps e).length
 |[],e,_,_=>Nat.zero_le _
 |(g,t)::r,e,b,⟨h1,h2,h3,h4,h5,h7,h6⟩=>by
  have:=sj r e false h6
  have:=List.length_pos_iff.2 h4
  unfold dP
  simp only[List.length_append,List.length_cons]
  omega
theorem yK (ps:List (Bs×Bs))(e:Bs)(h:pQ ps true)(he:blanks e=true)(hl:(dP ps e).length<=1024):aK ⟨(dP ps e).toArray⟩=(jY ps 0,0,0):=by
 unfold aK
 have hsz:(⟨(dP ps e).toArray⟩:ByteArray).size=(dP ps e).length:=rfl
 rw[if_neg (by rw[hsz];omega),uL _ (wL ps e true h he),ru _ _ _ _ (Nat.zero_le _)]
 have:=sj ps e true h
 exact zL ps e _ 0 [] true h he (.inr trivial) (by omega)
end Go.Proofs.YtnjjeapcalkmaaaGreatDoor.Lx
namespace Go.Proofs.YtnjjeapcalkmaaaGreatDoor.Lx
open Go
def iP:Bool->Bt->Bt
 |_,[]=>[]
 |b,c::l=>if (decide (c=35)&&b)=true then[]else c::iP (blank (c.toNat:Int)) l
def isB (b:Bool)(l:Bt)(i:Nat):Bool:=(l[i]? ==some 35)&&(if i=0 then b else((l[i-1]?).map λc=>blank (c.toNat:Int)).getD false)
theorem Bw:∀(l:Bt) (b:Bool) (k:Nat),k<l.length->isB b l k=true->(∀j,j<k->isB b l j=false)->iP b l=l.take k
 |[],b,k,h,_,_=>by simp at h
 |c::l,b,0,_,hk,_=>by
  unfold isB at hk
  unfold iP
  rw[if_pos (by simpa using hk)]
  rfl
 |c::l,b,k+1,h,hk,hlow=>by
  have h0:=hlow 0 (by omega)
  unfold isB at h0
  unfold iP
  have hn:¬(decide (c=35)&&b)=true:=by
   intro hc
   simp at hc
   simp[hc]at h0
  rw[if_neg hn,List.take_succ_cons]
  congr 1
  have e:∀j,isB (blank (c.toNat:Int)) l j=isB b (c::l) (j+1):=λj=>by
   unfold isB
   cases j with
   |zero=>simp
   |succ j=>simp
  exact Bw l _ k (by simpa using h) (by rw[e];exact hk) λj hj=>by rw[e];exact hlow _ (by omega)
theorem zR:∀(l:Bt) (b:Bool),(∀j,j<l.length->isB b l j=false)->iP b l=l
 |[],b,_=>rfl
 |c::l,b,hlow=>by
  have h0:=hlow 0 (by simp)
  unfold isB at h0
  unfold iP
  have hn:¬(decide (c=35)&&b)=true:=by
   intro hc
   simp at hc
   simp[hc]at h0
  rw[if_neg hn]
  congr 1
  have e:∀j,isB (blank (c.toNat:Int)) l j=isB b (c::l) (j+1):=λj=>by
   unfold isB
   cases j with
   |zero=>simp
   |succ j=>simp
  exact zR l _ λj hj=>by rw[e];exact hlow _ (by simp;omega)
theorem FE (l:Bt)(i:Nat):isC l i=isB true l i:=by
 unfold isC isB
 by_cases h:i=0
 ·simp[h]
 ·have:(i==0)=false:=by simp[h]
  rw[this,if_neg h,Bool.false_or]
theorem Bo (l:Bt):l.take (cutAt l)=iP true l:=by
 by_cases h:∃k,k<l.length/\isC l k=true
 ·obtain⟨k,⟨h1,h2⟩,h3⟩:∃k,(k<l.length/\isC l k=true)/\∀j,j<k->isC l j=false:=by
   obtain⟨k0,h0⟩:=h
   have hex:∃n,n=k0:=⟨k0,rfl⟩
   clear hex
   induction k0 using Nat.strongRecOn with
   |ind k0 ih=>
    by_cases hl:∃j,j<k0/\isC l j=true
    ·obtain⟨j,hj,hc⟩:=hl
     exact ih j hj ⟨by omega,hc⟩
    ·exact⟨k0,h0,λj hj=>by
      cases hc:isC l j with
      |false=>rfl
      |true=>exact absurd ⟨j,hj,hc⟩ hl⟩
  rw[rU l k h1 h2 h3]
  rw[FE]at h2
  exact(Bw l true k h1 h2 λj hj=>by rw[<-FE];exact h3 j hj).symm
 ·have hm:∀j,j<l.length->isC l j=false:=λj hj=>by
   cases hc:isC l j with
   |false=>rfl
   |true=>exact absurd ⟨j,hj,hc⟩ h
  rw[oo l hm,List.take_length]
  exact(zR l true λj hj=>by rw[<-FE];exact hm j hj).symm
theorem wT (s:ByteArray):(aV s).data.toList=iP true s.data.toList:=by
 unfold aV
 rw[gP,<-Bo]
 rfl
theorem CZ:∀(g l:Bt) (b:Bool),blanks g=true->iP b (g++l)=g++iP (b||!g.isEmpty) l
 |[],l,b,_=>by simp
 |c::g,l,b,h=>by
  unfold blanks at h
  rw[List.all_cons,Bool.and_eq_true]at h
  have hc:¬c=35:=by
   rintro rfl
   have:=h.1
   revert this;decide
  rw[List.cons_append]
  conv=>lhs;unfold iP
  rw[if_neg (by simp[hc]),h.1,CZ g l true h.2]
  simp
theorem wH:∀(t l:Bt) (b:Bool),gm t=true->t≠[]->(b=true->t.head?≠some 35)->iP b (t++l)=t++iP false l
 |[],l,b,_,h,_=>absurd rfl h
 |c::t,l,b,h,_,hb=>by
  unfold gm at h
  rw[List.all_cons,Bool.and_eq_true]at h
  have hcb:blank (c.toNat:Int)=false:=by simpa using h.1
  rw[List.cons_append]
  conv=>lhs;unfold iP
  have hn:¬(decide (c=35)&&b)=true:=by
   intro hc
   simp at hc
   exact hb hc.2 (by simp[hc.1])
  rw[if_neg hn,hcb]
  cases t with
  |nil=>rfl
  |cons d t=>rw[wH (d::t) l false h.2 (by simp) (by simp)];rfl
theorem Jr (l:Bt)(h:∀c r,l=c::r->blank (c.toNat:Int)=true):iP false l=iP true l:=by
 cases l with
 |nil=>rfl
 |cons c l=>
  have hc:¬c=35:=by
   rintro rfl
   have:=h _ _ rfl
   revert this;decide
  unfold iP
  simp[hc]
def lM:Nat->Bt->Nat->List Tok->List Tok×Int×Int
 |0,_,_,acc=>(acc,0,0)
 |_+1,[],_,acc=>(acc,0,0)
 |f+1,c::l,a,acc=>
  if blank (c.toNat:Int)=true then lM f l (a+1) acc
  else if c=35 then(acc,0,0)
  else if (aC ⟨((c::l).take (run (λc=>!blank c) (c::l))).toArray⟩).2=0 then
   lM f ((c::l).drop (run (λc=>!blank c) (c::l))) (a+run (λc=>!blank c) (c::l)) (acc++[((aC ⟨((c::l).take (run (λc=>!blank c) (c::l))).toArray⟩).1,⟨((c::l).take (run (λc=>!blank c) (c::l))).toArray⟩,a)])
  else([],(a:Int),(aC ⟨((c::l).take (run (λc=>!blank c) (c::l))).toArray⟩).2)
theorem zI (p:Int->Bool)(l:Bt):∃t r,l=t++r/\run p l=t.length/\t.all (λc=>p (c.toNat:Int))=true/\∀c r',r=c::r'->p (c.toNat:Int)=false:=by
 induction l with
 |nil=>exact⟨[],[],rfl,rfl,rfl,λc r' h=>by cases h⟩
 |cons x l ih=>
  by_cases hx:p (x.toNat:Int)=true
  ·obtain⟨t,r,h1,h2,h3,h4⟩:=ih
   refine⟨x::t,r,by rw[h1];rfl,?_,by simp[hx,h3],h4⟩
   have e:run p (x::l)=run p l+1:=by simp[run,hx]
   rw[e,h2];rfl
  ·refine⟨[],x::l,rfl,?_,rfl,λc r' h=>?_⟩
   ·simp[run,hx]
   ·injection h with h1 _
    subst h1
    simpa using hx
theorem sP:∀(f g:Nat) (l:Bt) (a:Nat) (acc:List Tok),l.length<=f->l.length<=g->sQ f l a acc=sQ g l a acc
 |0,g,l,a,acc,hf,hg=>by
  obtain rfl:=List.eq_nil_of_length_eq_zero (Nat.le_zero.1 hf)
  rw[kJ 0 [] a acc rfl,kJ g [] a acc rfl]
 |f+1,0,l,a,acc,hf,hg=>by
  obtain rfl:=List.eq_nil_of_length_eq_zero (Nat.le_zero.1 hg)
  rw[kJ 0 [] a acc rfl,kJ (f+1) [] a acc rfl]
 |f+1,g+1,l,a,acc,hf,hg=>by
  rw[kN,kN]
  obtain⟨k,hk⟩:∃k,k=run blank l:=⟨_,rfl⟩
  obtain⟨t,ht⟩:∃t,t=(l.drop k).take (run (λc=>!blank c) (l.drop k)):=⟨_,rfl⟩
  rw[<-hk,<-ht]
  by_cases h0:t=[]
  ·unfold BC;rw[if_pos h0,if_pos h0]
  ·have hp:=List.length_pos_iff.2 h0
   by_cases hcl:(aC ⟨t.toArray⟩).2=0
   ·rw[nR _ _ _ _ _ h0 hcl,nR _ _ _ _ _ h0 hcl]
    exact sP f g _ _ _ (by rw[List.length_drop];omega) (by rw[List.length_drop];omega)
   ·rw[jv _ _ _ _ _ h0 hcl,jv _ _ _ _ _ h0 hcl]
theorem OG (f a:Nat)(acc:List Tok):lM f [] a acc=(acc,0,0):=by cases f<;>rfl
theorem sH:∀(f:Nat) (l:Bt) (a:Nat) (acc:List Tok),l.length<f->sQ f (iP true l) a acc=lM f l a acc
 |0,l,a,acc,h=>by omega
 |f+1,[],a,acc,h=>rfl
 |f+1,c::l,a,acc,h=>by
  have h:l.length<f:=by simpa using h
  by_cases hb:blank (c.toNat:Int)=true
  ·unfold lM
   rw[if_pos hb,<-sH f l (a+1) acc h]
   have hc:¬c=35:=by
    rintro rfl
    revert hb;decide
   have e1:iP true (c::l)=c::iP true l:=by
    conv=>lhs;unfold iP
    rw[if_neg (by simp[hc]),hb]
   rw[e1]
   obtain⟨m,hm⟩:∃m,m=iP true l:=⟨_,rfl⟩
   rw[<-hm]
   have Ew:m.length<=l.length:=by
    rw[hm,<-Bo,List.length_take];omega
   have hmf:m.length<f:=by omega
   clear hm e1
   cases f with
   |zero=>omega
   |succ f=>
    have er:run blank (c::m)=run blank m+1:=by simp[run,hb]
    rw[kN,er,List.drop_succ_cons,kN]
    obtain⟨k,hk⟩:∃k,k=run blank m:=⟨_,rfl⟩
    obtain⟨t,ht⟩:∃t,t=(m.drop k).take (run (λc=>!blank c) (m.drop k)):=⟨_,rfl⟩
    rw[<-hk,<-ht]
    by_cases h0:t=[]
    ·unfold BC;rw[if_pos h0,if_pos h0]
    ·by_cases hcl:(aC ⟨t.toArray⟩).2=0
     ·rw[nR _ _ _ _ _ h0 hcl,nR _ _ _ _ _ h0 hcl,show k+1+t.length=k+t.length+1 from by omega,List.drop_succ_cons,show a+(k+1)+t.length=a+1+k+t.length from by omega,show a+(k+1)=a+1+k from by omega]
      refine sP _ _ _ _ _ ?_ ?_
      ·have:=List.length_pos_iff.2 h0
       rw[List.length_drop];omega
      ·have:=List.length_pos_iff.2 h0
       have:t.length<=m.length-k:=by rw[ht,List.length_take,List.length_drop];omega
       rw[List.length_drop];omega
     ·rw[jv _ _ _ _ _ h0 hcl,jv _ _ _ _ _ h0 hcl,show a+(k+1)=a+1+k from by omega]
  ·have hbf:blank (c.toNat:Int)=false:=by simpa using hb
   unfold lM
   rw[if_neg hb]
   by_cases hc:c=35
   ·rw[if_pos hc]
    subst hc
    rw[show iP true (35::l)=[]from rfl]
    exact kJ _ [] _ _ rfl
   ·rw[if_neg hc]
    obtain⟨t,r,e1,e2,e3,e4⟩:=zI (λc=>!blank c) (c::l)
    rw[e2]
    have ht0:t≠[]:=by
     rintro rfl
     have:=e4 c l (by simpa using e1.symm)
     simp[hbf]at this
    have hhd:t.head? =some c:=by
     cases t with
     |nil=>exact absurd rfl ht0
     |cons x t=>rw[List.cons_append]at e1;injection e1 with e1 _;subst e1;rfl
    rw[e1,List.take_left,List.drop_left]
    have e4':∀c r',r=c::r'->blank (c.toNat:Int)=true:=λc r' h=>by simpa using e4 c r' h
    rw[wH t r true e3 ht0 (λ_=>by rw[hhd];simpa using hc),Jr r e4']
    have hcut:∀c r',iP true r=c::r'->blank (c.toNat:Int)=true:=λx r' h=>by
     cases r with
     |nil=>cases h
     |cons y r=>
      unfold iP at h
      split at h
      ·cases h
      ·injection h with h1 _
       subst h1
       exact e4' _ _ rfl
    have e5:=zF f [] t (iP true r) a acc rfl e3 ht0 hcut
    rw[List.nil_append]at e5
    rw[e5]
    have hrl:r.length<f:=by
     have:=congrArg List.length e1
     rw[List.length_append,List.length_cons]at this
     have:=List.length_pos_iff.2 ht0
     omega
    by_cases hcl:(aC ⟨t.toArray⟩).2=0
    ·rw[if_pos hcl,if_pos hcl,sH f r _ _ hrl]
     rfl
    ·rw[if_neg hcl,if_neg hcl]
     rfl
theorem Cj (s:ByteArray):aK s=if 1024<s.size then([],1024,5)else lM (s.size+1) s.data.toList 0 []:=by
 unfold aK
 split
 ·rfl
 ·have hl:s.data.toList.length=s.size:=by obtain⟨⟨l⟩⟩:=s;rfl
  have hu:(aV s).data.toList.length=(aV s).size:=by obtain⟨⟨l⟩⟩:=aV s;rfl
  have OT:(aV s).size<=s.size:=by
   unfold aV
   rw[ByteArray.size_extract]
   omega
  rw[ru _ _ _ _ (Nat.zero_le _),List.drop_zero,sP _ (s.size+1) _ _ _ (by omega) (by omega),wT]
  exact sH (s.size+1) s.data.toList 0 [] (by omega)
end Go.Proofs.YtnjjeapcalkmaaaGreatDoor.Lx
namespace Go.Proofs.YtnjjeapcalkmaaaGreatDoor
open Go.RowKit
theorem RQ (s:ByteArray)(a:Nat)(c:UInt8)(l:List UInt8)(h:s.data.toList.drop a=c::l):a<s.size/\PlainAid.bt s a=(c.toNat:Int)/\s.data.toList.drop (a+1)=l:=by
 have hl:s.data.toList.length=s.size:=by obtain⟨⟨l⟩⟩:=s;rfl
 have hlt:a<s.data.toList.length:=by
  rcases Nat.lt_or_ge a s.data.toList.length with h'|h'
  ·exact h'
  ·rw[List.drop_eq_nil_of_le h']at h;cases h
 have h2:s.data.toList[a]? =some c:=by
  have:=congrArg (λl=>l[0]?) h
  simpa using this
 refine⟨by omega,?_,?_⟩
 ·rw[<-tC]
  unfold Lx.at_
  rw[List.getD_eq_getElem?_getD,h2]
  rfl
 ·have:=congrArg (List.drop 1) h
  rw[List.drop_drop]at this
  simpa using this
theorem QL (s:ByteArray)(a:Nat)(ha:a<s.size):(Lx.blank (PlainAid.bt s a)=true/\∀f acc,Lx.lM (f+1) (s.data.toList.drop a) a acc=Lx.lM f (s.data.toList.drop (a+1)) (a+1) acc)\/
 (Lx.blank (PlainAid.bt s a)=false/\PlainAid.bt s a=35/\∀f acc,Lx.lM (f+1) (s.data.toList.drop a) a acc=(acc,0,0))\/
 (Lx.blank (PlainAid.bt s a)=false/\¬PlainAid.bt s a=35/\∃r,0<r/\a+r<=s.size/\(∀j,j<r->Lx.blank (PlainAid.bt s (a+j))=false)/\(a+r<s.size->Lx.blank (PlainAid.bt s (a+r))=true)/\
  ∀f acc,Lx.lM (f+1) (s.data.toList.drop a) a acc=if (Lx.aC (s.extract a (a+r))).2=0 then Lx.lM f (s.data.toList.drop (a+r)) (a+r) (acc++[((Lx.aC (s.extract a (a+r))).1,s.extract a (a+r),a)])else([],(a:Int),(Lx.aC (s.extract a (a+r))).2)):=by
 have hl:s.data.toList.length=s.size:=by obtain⟨⟨l⟩⟩:=s;rfl
 obtain⟨c,l,hc⟩:∃c l,s.data.toList.drop a=c::l:=by
  cases h:s.data.toList.drop a with
  |nil=>have:=congrArg List.length h;rw[List.length_drop]at this;simp at this;omega
  |cons c l=>exact⟨c,l,rfl⟩
 obtain⟨_,hb,hd⟩:=RQ s a c l hc
 rw[hb,hd,hc]
 by_cases h1:Lx.blank (c.toNat:Int)=true
 ·exact .inl ⟨h1,λf acc=>by conv=>lhs;unfold Lx.lM
                            rw[if_pos h1]⟩
 ·have h1f:Lx.blank (c.toNat:Int)=false:=by simpa using h1
  by_cases h2:c=35
  ·exact .inr (.inl ⟨h1f,by rw[h2];rfl,λf acc=>by conv=>lhs;unfold Lx.lM
                                                  rw[if_neg h1,if_pos h2]⟩)
  ·refine .inr (.inr ⟨h1f,?_,?_⟩)
   ·intro h
    apply h2
    apply UInt8.toNat_inj.1
    show c.toNat=35
    omega
   ·obtain⟨t,r,e1,e2,e3,e4⟩:=Lx.zI (λc=>!Lx.blank c) (c::l)
    have htl:a+t.length<=s.size:=by
     have:=congrArg List.length e1
     rw[<-hc,List.length_drop,List.length_append]at this
     omega
    have hdt:s.data.toList.drop (a+t.length)=r:=by
     rw[<-List.drop_drop,hc,e1,List.drop_left]
    have hex:s.extract a (a+t.length)=⟨t.toArray⟩:=by
     rw[Lx.gP,hc,e1,Nat.add_sub_cancel_left,List.take_left]
    refine⟨t.length,?_,htl,λj hj=>?_,λhlt=>?_,λf acc=>?_⟩
    ·cases t with
     |nil=>
      have:=e4 c l (by simpa using e1.symm)
      simp[h1f]at this
     |cons _ _=>simp
    ·obtain⟨x,hx⟩:∃x,t[j]? =some x:=⟨_,List.getElem?_eq_getElem hj⟩
     have hbt:PlainAid.bt s (a+j)=(x.toNat:Int):=by
      rw[<-tC]
      unfold Lx.at_
      rw[List.getD_eq_getElem?_getD,<-List.getElem?_drop,hc,e1,List.getElem?_append_left hj,hx]
      rfl
     rw[hbt]
     rw[List.all_eq_true]at e3
     simpa using e3 x (List.mem_of_getElem? hx)
    ·cases r with
     |nil=>
      have:=congrArg List.length hdt
      rw[List.length_drop]at this
      simp at this
      omega
     |cons x r=>
      obtain⟨_,hb2,_⟩:=RQ s (a+t.length) x r hdt
      rw[hb2]
      simpa using e4 x r rfl
    ·conv=>lhs;unfold Lx.lM
     rw[if_neg h1,if_neg h2,e2,e1,List.take_left,List.drop_left,hex,hdt]
theorem Na:(Tryz.prog.info? 48).map (λi=>(i.zero,i.size,i.bytes))=some (some (.agg #[.int .i64 0,.string ByteArray.empty,.int .i64 0]),3,32):=by kernel_rfl
theorem EX (s:ByteArray)(w:World)(_hs:s.size<=9223372036854775807)(h:(1024:Int)<(s.size:Int)):
 Calls Tryz.prog 19 #[.string s] w λe w'=>e=.returned (.tuple #[.slice none 0 0,.int .i64 1024,.int .i64 5])/\w=w':=by
 go_enter Tryz.func19,Tryz.ntmps19
 go_wp2_with fail
 go_ret3
 exact⟨rfl,rfl⟩
theorem Fy (s:ByteArray)(w:World)(hs:s.size<=1024)(Z:List Lx.Tok×Int×Int)(HZ:Hid (Lx.lM (s.size+1) s.data.toList 0 []=Z)):
 Calls Tryz.prog 19 #[.string s] w λe w'=>∃v,e=.returned (.tuple #[v,.int .i64 Z.2.1,.int .i64 Z.2.2])/\w'.ownsRow w.heap.size 48 3 v Z.1.length (Lx.bM Z.1)/\Below w.heap.size w w':=by
 obtain⟨i0,hi,hz0,hz1,hz2⟩:=info_parts Na
 have hub:=PlainAid.get_bt s
 have hbl:=Lib.hid λ(c:Int) (w:World)=>MZ c w
 go_enter Tryz.func19,Tryz.ntmps19
 go_wp2_with fail
 go_loopw [5,6] (λv i wr=>∃(acc:List Lx.Tok) (a f:Nat),a<=s.size/\i=.int .i64 a/\acc.length<=a/\s.size-a<f/\Hid (Below w.heap.size w wr)/\
  Hid (wr.ownsRow w.heap.size 48 3 v acc.length (Lx.bM acc))/\Hid (Lx.lM f (s.data.toList.drop a) a acc=Z)) (λ_ i _=>s.size-(RowKit.intOf i).toNat)
 case atStart=>exact⟨[],0,s.size+1,Nat.zero_le _,rfl,Nat.zero_le _,by omega,Lib.hid (Below.refl _ _),Lib.hid (World.ownsRow_nil _ _ _ _),HZ⟩
 case round=>
  obtain⟨acc,a,f,ha,rfl,hacc,hf,HB,HO,HR⟩:=hrel
  clear HZ
  by_cases hlt:a<s.size
  ·obtain⟨f,rfl⟩:∃g,f=g+1:=⟨f-1,by omega⟩
   have q9:(a:Int)<(s.size:Int):=by omega
   rcases QL s a hlt with⟨hb,hst⟩|⟨hb,Ba,hst⟩|⟨hb,Ba,r,hr0,hrs,hrb,hre,hst⟩
   ·
    have HR2:Hid (Lx.lM f (s.data.toList.drop (a+1)) (a+1) acc=Z):=Lib.hid (by rw[<-hst f acc];exact HR.out)
    obtain⟨c,hc⟩:∃c,PlainAid.bt s a=c:=⟨_,rfl⟩
    rw[hc]at hb
    have m1:=hbl.out c wr
    rw[hb]at m1
    have hw1:wrap64 ((a:Int)+1)=((a+1:Nat):Int):=by unfold wrap64;omega
    clear hst HR hb hbl
    go_wp2_with (go_at_call 58;refine m1.mono ?_;rintro e w1 ⟨rfl,rfl⟩)
    refine⟨⟨acc,a+1,f,by omega,by first|rfl|go_num,by omega,by omega,HB,HO,HR2⟩,by simp[RowKit.intOf]<;>omega⟩
   ·
    have HZ:Hid (Z=(acc,0,0)):=Lib.hid (by rw[<-HR.out,hst f acc])
    obtain⟨c,hc⟩:∃c,PlainAid.bt s a=c:=⟨_,rfl⟩
    rw[hc]at hb Ba
    have m1:=hbl.out c wr
    rw[hb]at m1
    subst Ba
    clear hst HR hb hbl
    go_wp2_with (go_at_call 58;refine m1.mono ?_;rintro e w1 ⟨rfl,rfl⟩)
    go_ret3
    rw[HZ.out]
    exact⟨_,rfl,HO.out,HB.out⟩
   ·
    obtain⟨E,hE⟩:∃E,s.extract a (a+r)=E:=⟨_,rfl⟩
    have hEs:E.size<=1000000:=by rw[<-hE,ByteArray.size_extract];omega
    have HZ:Hid ((if (Lx.aC E).2=0 then Lx.lM f (s.data.toList.drop (a+r)) (a+r) (acc++[((Lx.aC E).1,E,a)])else([],(a:Int),(Lx.aC E).2))=Z):=Lib.hid (by
     have:=hst f acc
     rw[hE]at this
     rw[<-HR.out,this])
    have hk:=λW=>Oq E W hEs
    obtain⟨⟨kk,ee⟩,hq⟩:∃q,Lx.aC E=q:=⟨_,rfl⟩
    rw[hq]at HZ hk
    simp only at HZ hk
    have HRB:=Lib.hid hrb
    have HRE:=Lib.hid hre
    obtain⟨c,hc⟩:∃c,PlainAid.bt s a=c:=⟨_,rfl⟩
    rw[hc]at hb Ba
    obtain⟨wo,hwo⟩:∃wo:World,wo=wr:=⟨_,rfl⟩
    subst hwo
    have m1:=hbl.out c wo
    rw[hb]at m1
    have HK:=Lib.hid hk
    have h35b:(c==35)=false:=by rw[beq_eq_false_iff_ne];exact Ba
    clear hst HR hb hrb hre hq hk hEs Ba
    go_wp2_with (go_at_call 58;refine m1.mono ?_;rintro e w1 ⟨rfl,rfl⟩)
    clear m1
    go_loopw [7] (λev wx=>∃j:Nat,ev=.int .i64 ((a+j:Nat):Int)/\j<=r/\wx=wo) (λev _=>2000-(RowKit.intOf ev).toNat)
    case atStart=>exact⟨0,by simp,Nat.zero_le _,rfl⟩
    case round=>
     obtain⟨j,rfl,hj,rfl⟩:=hrel
     by_cases hjr:j<r
     ·have hjs:a+j<s.size:=by omega
      have hjsI:((a+j:Nat):Int)<(s.size:Int):=by omega
      have hbj:=HRB.out j hjr
      obtain⟨d,hd⟩:∃d,PlainAid.bt s (a+j)=d:=⟨_,rfl⟩
      rw[hd]at hbj
      have m2:=hbl.out d wr
      rw[hbj]at m2
      have hw2:wrap64 (((a+j:Nat):Int)+1)=((a+(j+1):Nat):Int):=by unfold wrap64;omega
      obtain⟨e,he⟩:∃e,e=a+j:=⟨_,rfl⟩
      have HE:=Lib.hid he
      rw[<-he]at hjs hjsI hd hw2⊢
      clear hbj HRB HRE HZ HK hbl he hE
      go_wp2_with (go_at_call 58;refine m2.mono ?_;rintro e w1 ⟨rfl,rfl⟩)
      refine⟨⟨j+1,by rw[show((e:Int)+1)=((a+(j+1):Nat):Int)from by rw[HE.out];omega],hjr,trivial⟩,by simp[RowKit.intOf]<;>omega⟩
     ·obtain rfl:j=r:=by omega
      obtain⟨e,he⟩:∃e,e=a+j:=⟨_,rfl⟩
      have HEE:=Lib.hid he
      have m3:=HK.out wr
      have hea:a<=e:=by omega
      have hae:a<e:=by omega
      have haI:(a:Int)<=(e:Int):=by omega
      have hesI:(e:Int)<=(s.size:Int):=by omega
      have hes:e<=s.size:=by omega
      have mr:(¬e<s.size/\¬(e:Int)<(s.size:Int))\/(e<s.size/\(e:Int)<(s.size:Int)/\∃d,PlainAid.bt s e=d/\Calls Tryz.prog 58 #[.int .u8 d] wr λx w'=>x=.returned (.bool true)/\wr=w'):=by
       by_cases h:e<s.size
       ·refine .inr ⟨h,by omega,_,rfl,?_⟩
        have:=hbl.out (PlainAid.bt s e) wr
        rw[show Lx.blank (PlainAid.bt s e)=true from by rw[he];exact HRE.out (by omega)]at this
        exact this
       ·exact .inl ⟨h,by omega⟩
      rw[<-he]at hE HZ hrs⊢
      clear HRB HRE HK hbl he hjr
      by_cases OV:ee=0
      ·rw[if_pos OV]at HZ
       subst OV
       rcases mr with⟨w1,w2⟩|⟨w1,w2,d,hd,m2⟩
       all_goals
        go_wp2_with (first|(go_at_call 58;refine m2.mono ?_;rintro x w1 ⟨rfl,rfl⟩)|(go_at_call 59;refine m3.mono ?_;rintro x w1 ⟨rfl,rfl⟩)|(at_builtin;refine wpList_append_own _ rfl _ _ 44 rfl w.heap.size 48 i0 _ 3 32 Tryz.underlying44 hi hz0 hz1 hz2 rfl (by decide) _ _ _ rfl (HO.out.alloc _) ⟨wr.heap.size,0,none⟩ 1 1 [.int .i64 kk,.string E,.int .i64 (a:Int)] rfl rfl ?c1 ?c2 ?c3 ?c4 ?c5 ?_))
        case c1=>
         intro j u hj
         match j,hj with
         |0,hj=>simp at hj;subst hj;simp[Addr.add]
         |1,hj=>simp at hj;subst hj;simp[Addr.add]
         |2,hj=>simp at hj;subst hj;simp[Addr.add]
         |j+3,hj=>simp at hj
        case c2=>intro u hu;simp at hu;rcases hu with rfl|rfl|rfl<;>rfl
        case c3=>unfold maxLen;omega
        case c4=>omega
        case c5=>have:=HB.out.size;simp;omega
        intro v' w3 hown3 hgrow3 _
        have lg:=(HB.out.alloc HB.out.size _).grown hgrow3 (by have:=HB.out.size;simp;omega) (λk hk=>(HO.out.lt k hk).1)
        have HO3:=Lib.hid hown3
        have HB3:=Lib.hid lg
        clear hgrow3 hown3 lg
        go_wp2_with fail
        refine⟨⟨acc++[(kk,E,a)],e,f,hes,by first|rfl|go_num,by simp;omega,by omega,HB3,Lib.hid ?_,Lib.hid HZ.out⟩,by simp[RowKit.intOf]<;>omega⟩
        rw[Lx.lX,List.length_append]
        simpa[Lx.bM]using HO3.out
      ·have hbe:(ee !=0)=true:=by simpa using OV
       rw[if_neg OV]at HZ
       clear OV
       rcases mr with⟨w1,w2⟩|⟨w1,w2,d,hd,m2⟩
       all_goals
        go_wp2_with (first|(go_at_call 58;refine m2.mono ?_;rintro x w1 ⟨rfl,rfl⟩)|(go_at_call 59;refine m3.mono ?_;rintro x w1 ⟨rfl,rfl⟩))
        go_ret3
        rw[<-HZ.out]
        exact⟨_,rfl,World.ownsRow_nil _ _ _ _,HB.out⟩
  ·have HZ:Hid (Z=(acc,0,0)):=Lib.hid (by
    have hl:s.data.toList.length=s.size:=by obtain⟨⟨l⟩⟩:=s;rfl
    rw[<-HR.out,List.drop_eq_nil_of_le (by omega),Lx.OG])
   have q9:¬(a:Int)<(s.size:Int):=by omega
   clear HR hbl
   go_wp2_with fail
   go_ret3
   rw[HZ.out]
   exact⟨_,rfl,HO.out,HB.out⟩
theorem rk_tokens (s:ByteArray)(w:World)(hs:s.size<=9223372036854775807):
 Calls Tryz.prog 19 #[.string s] w λe w'=>∃v,e=.returned (.tuple #[v,.int .i64 (Lx.aK s).2.1,.int .i64 (Lx.aK s).2.2])/\w'.ownsRow w.heap.size 48 3 v (Lx.aK s).1.length (Lx.bM (Lx.aK s).1)/\Below w.heap.size w w':=by
 rw[Lx.Cj]
 by_cases h:1024<s.size
 ·rw[if_pos h]
  refine(EX s w hs (by omega)).mono ?_
  rintro e w' ⟨rfl,rfl⟩
  exact⟨_,rfl,World.ownsRow_nil _ _ _ _,Below.refl _ _⟩
 ·rw[if_neg h]
  exact Fy s w (by omega) _ (Lib.hid rfl)
def eO (l:List UInt8):List Value:=l.map λc=>.int .i64 ((c.toNat:Int)-48)
theorem oJ (a b:List UInt8):eO (a++b)=eO a++eO b:=by simp[eO]
theorem yQ (a:List UInt8):(eO a).length=a.length:=by simp[eO]
theorem Co:(Tryz.prog.info? 3).map (λi=>(i.zero,i.size,i.bytes))=some (some (.int .i64 0),1,8):=by kernel_rfl
theorem OM (c:UInt8)(h:Id.bT (c.toNat:Int)=true)(hd:Id.digit (c.toNat:Int)=false):65<=c.toNat/\c.toNat<=90/\eO (Id.gW c)=[.int .i64 (((c.toNat:Int)-55)/10),.int .i64 (((c.toNat:Int)-55)%10)]:=by
 have hup:65<=c.toNat/\c.toNat<=90:=by
  unfold Id.bT Lx.upper at h
  unfold Id.digit at hd
  rw[hd]at h
  simp at h
  omega
 refine⟨hup.1,hup.2,?_⟩
 unfold Id.gW
 rw[hd,if_neg (by simp),Lib.decDigits_two (by omega) (by omega)]
 simp only[eO,List.map_cons,List.map_nil]
 have e1:(UInt8.ofNat (48+(c.toNat-55)/10)).toNat=48+(c.toNat-55)/10:=by rw[UInt8.toNat_ofNat'];omega
 have e2:(UInt8.ofNat (48+(c.toNat-55)%10)).toNat=48+(c.toNat-55)%10:=by rw[UInt8.toNat_ofNat'];omega
 rw[e1,e2]
 congr 1
 ·congr 1;omega
 ·congr 1;congr 1;omega
theorem Fs (s:ByteArray)(w:World)(hs:s.size<=1000)(hal:∀c∈s.data.toList,Id.bT (c.toNat:Int)=true):
 Calls Tryz.prog 221 #[.string s] w λe w'=>∃v,e=.returned v/\w'.ownsRow w.heap.size 3 1 v (Id.aT s.data.toList).length (eO (Id.aT s.data.toList))/\Below w.heap.size w w':=by
 obtain⟨i0,hi,hz0,hz1,hz2⟩:=info_parts Co
 have hub:=PlainAid.get_bt s
 have RN:=Lib.hid hal
 clear hal
 go_enter Tryz.func221,Tryz.ntmps221
 go_wp2_with fail
 go_loopw [3,4,5] (λv i x5 wr=>∃k:Nat,k<=s.size/\i=.int .i64 k/\Hid (Below w.heap.size w wr)/\Hid (wr.ownsRow w.heap.size 3 1 v (Id.aT (s.data.toList.take k)).length (eO (Id.aT (s.data.toList.take k))))) (λ_ i _ _=>s.size-(RowKit.intOf i).toNat)
 case atStart=>exact⟨0,Nat.zero_le _,rfl,Lib.hid (Below.refl _ _),Lib.hid (World.ownsRow_nil _ _ _ _)⟩
 case round=>
  obtain⟨k,hk,rfl,HB,HO⟩:=hrel
  by_cases hlt:k<s.size
  ·have q9:(k:Int)<(s.size:Int):=by omega
   have hmem:s[k]∈s.data.toList:=by
    rw[List.mem_iff_getElem]
    exact⟨k,by rw[<-Lib.size_eq];exact hlt,by rw[Array.getElem_toList];rfl⟩
   have EK:=RN.out _ hmem
   have htk:∀c∈s.data.toList.take k,Id.bT (c.toNat:Int)=true:=λc hc=>RN.out c (List.mem_of_mem_take hc)
   have hel:=Id.lL _ htk
   have Pi:(s.data.toList.take k).length<=k:=List.length_take_le _ _
   have HS:=Lib.hid (Id.sW s k hlt)
   have HLEN:Hid ((Id.aT (s.data.toList.take k)).length<=2000):=Lib.hid (by omega)
   have hbc:=hub k hlt
   have hd:=λW=>zg (PlainAid.bt s k) W
   have hw1:wrap64 ((k:Int)+1)=((k+1:Nat):Int):=by unfold wrap64;omega
   have hk1:k+1<=s.size:=hlt
   cases hdg:Id.digit (PlainAid.bt s k)with
   |true=>
    rw[hdg]at hd
    have hx1:Id.gW s[k]=[s[k]]:=by
     unfold Id.gW
     rw[if_pos (by rw[hbc];exact hdg)]
    obtain⟨c,hc⟩:∃c,PlainAid.bt s k=c:=⟨_,rfl⟩
    have ET:48<=c/\c<=57:=by
     rw[hc]at hdg
     unfold Id.digit Lx.digit at hdg
     simp at hdg
     exact hdg
    have HX:Hid (eO (Id.aT (s.data.toList.take (k+1)))=eO (Id.aT (s.data.toList.take k))++[.int .i64 (c-48)]/\(Id.aT (s.data.toList.take (k+1))).length=(Id.aT (s.data.toList.take k)).length+1):=Lib.hid (by
     rw[HS.out,hx1,oJ,List.length_append]
     refine⟨?_,rfl⟩
     show _++[Value.int .i64 ((s[k].toNat:Int)-48)]=_
     rw[hbc,hc])
    rw[hc]at hbc hd
    have hwu:IntKind.u8.wrap (c-48)=c-48:=IntWalk.u8_in _ (by omega)
    have GZ:=hd wr
    generalize eO (Id.aT (s.data.toList.take k))=xs at *
    generalize (Id.aT (s.data.toList.take k)).length=n at *
    clear hdg EK hmem htk hel Pi HS hx1 hub RN hd hc
    go_wp2_with (first|(go_at_call 220;refine GZ.mono ?_;rintro e w1 ⟨rfl,lu⟩;obtain rfl:=lu.symm;clear lu)|(at_builtin;refine wpList_append_own _ rfl _ _ 208 rfl w.heap.size 3 i0 _ 1 8 Tryz.underlying208 hi hz0 hz1 hz2 rfl (by decide) _ _ _ rfl (HO.out.alloc _) ⟨wr.heap.size,0,none⟩ 1 1 [.int .i64 (c-48)] rfl rfl ?c1 ?c2 ?c3 ?c4 ?c5 ?_))
    case c1=>
     intro j u hj
     match j,hj with
     |0,hj=>simp at hj;subst hj;simp[Addr.add]
     |j+1,hj=>simp at hj
    case c2=>intro u hu;simp at hu;rcases hu with rfl;rfl
    case c3=>have:=HLEN.out;unfold maxLen;omega
    case c4=>have:=HLEN.out;omega
    case c5=>have:=HB.out.size;simp;omega
    intro v' w3 hown3 hgrow3 _
    have lg:=(HB.out.alloc HB.out.size _).grown hgrow3 (by have:=HB.out.size;simp;omega) (λk hk=>(HO.out.lt k hk).1)
    have HO3:=Lib.hid hown3
    have HB3:=Lib.hid lg
    clear hgrow3 hown3 lg
    go_wp2_with fail
    refine⟨⟨k+1,hk1,by first|rfl|go_num,HB3,Lib.hid ?_⟩,by simp[RowKit.intOf]<;>omega⟩
    rw[HX.out.1,HX.out.2]
    exact HO3.out
   |false=>
    rw[hdg]at hd
    obtain⟨u1,u2,hx1⟩:=OM s[k] EK (by rw[hbc];exact hdg)
    obtain⟨c,hc⟩:∃c,PlainAid.bt s k=c:=⟨_,rfl⟩
    have hc65:65<=c/\c<=90:=by
     have h1:(s[k].toNat:Int)=c:=hbc.trans hc
     omega
    have HX:Hid (eO (Id.aT (s.data.toList.take (k+1)))=eO (Id.aT (s.data.toList.take k))++[.int .i64 ((c-55)/10),.int .i64 ((c-55)%10)]/\(Id.aT (s.data.toList.take (k+1))).length=(Id.aT (s.data.toList.take k)).length+2):=Lib.hid (by
     have hl2:=congrArg List.length hx1
     rw[yQ]at hl2
     rw[HS.out,oJ,hx1,List.length_append,hl2,hbc,hc]
     exact⟨rfl,rfl⟩)
    rw[hc]at hbc hd
    have hwu:IntKind.u8.wrap (c-65)=c-65:=IntWalk.u8_in _ (by omega)
    have GZ:=hd wr
    have e55:c-65+10=c-55:=by omega
    obtain⟨d,hdd⟩:∃d,c-55=d:=⟨_,rfl⟩
    have hd35:0<=d/\d<=35:=by omega
    rw[hdd]at e55 HX
    have q1:d.tdiv 10=d/10:=Int.tdiv_eq_ediv_of_nonneg hd35.1
    have q2:d.tmod 10=d%10:=Int.tmod_eq_emod_of_nonneg hd35.1
    generalize eO (Id.aT (s.data.toList.take k))=xs at *
    generalize (Id.aT (s.data.toList.take k)).length=n at *
    clear hdg EK hmem htk hel Pi HS hx1 hub RN hd hc hdd u1 u2
    go_wp2_with (first|(go_at_call 220;refine GZ.mono ?_;rintro e w1 ⟨rfl,lu⟩;obtain rfl:=lu.symm;clear lu)|(at_builtin;refine wpList_append_own _ rfl _ _ 208 rfl w.heap.size 3 i0 _ 1 8 Tryz.underlying208 hi hz0 hz1 hz2 rfl (by decide) _ _ _ rfl (HO.out.alloc _) ⟨wr.heap.size,0,none⟩ 2 2 [.int .i64 (d/10),.int .i64 (d%10)] rfl rfl ?c1 ?c2 ?c3 ?c4 ?c5 ?_))
    case c1=>
     intro j u hj
     match j,hj with
     |0,hj=>simp at hj;subst hj;simp[Addr.add]
     |1,hj=>simp at hj;subst hj;simp[Addr.add]
     |j+2,hj=>simp at hj
    case c2=>intro u hu;simp at hu;rcases hu with rfl|rfl<;>rfl
    case c3=>have:=HLEN.out;unfold maxLen;omega
    case c4=>have:=HLEN.out;omega
    case c5=>have:=HB.out.size;simp;omega
    intro v' w3 hown3 hgrow3 _
    have lg:=(HB.out.alloc HB.out.size _).grown hgrow3 (by have:=HB.out.size;simp;omega) (λk hk=>(HO.out.lt k hk).1)
    have HO3:=Lib.hid hown3
    have HB3:=Lib.hid lg
    clear hgrow3 hown3 lg
    go_wp2_with fail
    refine⟨⟨k+1,hk1,by first|rfl|go_num,HB3,Lib.hid ?_⟩,by simp[RowKit.intOf]<;>omega⟩
    rw[HX.out.1,HX.out.2]
    exact HO3.out
  ·have hkk:k=s.size:=by omega
   have q9:¬(k:Int)<(s.size:Int):=by omega
   have HE:Hid (s.data.toList.take k=s.data.toList):=Lib.hid (List.take_of_length_le (by rw[<-Lib.size_eq];omega))
   rw[HE.out]at HO
   clear hub RN
   go_wp2_with fail
   go_ret
   exact⟨_,rfl,HO.out,HB.out⟩
theorem Ji (s L:ByteArray)(w:World)(hL:L.size<=2000)(hdig:Hid (∀j,j<L.size->48<=PlainAid.bt L j/\PlainAid.bt L j<=57))
 (nE:Hid (Calls Tryz.prog 221 #[.string s] w λe w'=>∃a c,e=.returned (.slice a L.size c)/\L.size<=c/\(0<L.size->∃sb,a=some ⟨sb,0,none⟩/\∀k,k<L.size->w'.cell? ⟨sb,k,none⟩=some (.int .i64 (PlainAid.bt L k-48)))/\Below w.heap.size w w')):
 Calls Tryz.prog 174 #[.string s] w λe w'=>e=.returned (.int .i64 ((10-Id.jO L L.size%10)%10))/\Below w.heap.size w w':=by
 have HBD:=Lib.hid (Id.CX L hdig.out)
 go_enter Tryz.func174,Tryz.ntmps174
 go_wp2_with (go_at_call 221;refine nE.out.mono ?_;rintro e w1 ⟨a,c,rfl,hlc,hcell,hb1⟩;have HC:=Lib.hid hcell;have HB:=Lib.hid hb1;clear hcell hb1)
 go_loopw [4,5,6] (λsm i _ wr=>∃(k:Nat) (x:Int),k<=L.size/\i=.int .i64 k/\wr=w1/\sm=.int .i64 x/\Hid (x=Id.jO L k)) (λ_ i _ _=>L.size-(RowKit.intOf i).toNat)
 case atStart=>exact⟨0,0,Nat.zero_le _,rfl,rfl,rfl,Lib.hid rfl⟩
 case round=>
  obtain⟨k,x,hk,rfl,hwr,rfl,HX⟩:=hrel
  subst hwr
  have hbd:=HBD.out k hk
  rw[<-HX.out]at hbd
  by_cases hlt:k<L.size
  ·have q9:(k:Int)<(L.size:Int):=by omega
   obtain⟨sb,rfl,hcell⟩:=HC.out (by omega)
   obtain⟨j,hj⟩:∃j,j=L.size-1-k:=⟨_,rfl⟩
   have hjl:j<L.size:=by omega
   have hjI:(L.size:Int)-1-(k:Int)=(j:Int):=by omega
   have y1:=hcell j hjl
   have hdj:=hdig.out j hjl
   obtain⟨d,hd⟩:∃d,PlainAid.bt L j-48=d:=⟨_,rfl⟩
   have hd9:0<=d/\d<=9:=by omega
   have HT:Hid (Id.jO L (k+1)=x+(if (k:Int)%2=0 then d*2/10+d*2%10 else d/10+d%10)):=Lib.hid (by
    rw[HX.out,<-hd,hj];rfl)
   rw[hd]at y1
   have hx20:x<=36000/\0<=x:=by omega
   have hk1:k+1<=L.size:=hlt
   have hs1:wrap64 ((L.size:Int)-1)=(L.size:Int)-1:=by unfold wrap64;omega
   have hs2:wrap64 ((L.size:Int)-1-(k:Int))=(j:Int):=by unfold wrap64;omega
   have hw1:wrap64 ((k:Int)+1)=((k+1:Nat):Int):=by unfold wrap64;omega
   clear hcell hdj hd HX hj hbd HC HBD hdig
   by_cases hev:(k:Int)%2=0
   ·have hbe:((k:Int)%2==0)=true:=by simpa using hev
    have hbt:((k:Int).tmod 2==0)=true:=by rw[Int.tmod_eq_emod_of_nonneg (by omega)];exact hbe
    have HE:=Lib.hid hev
    clear hev
    go_wp2_with fail
    exact⟨⟨k+1,_,hk1,by first|rfl|go_num,by first|rfl|trivial,rfl,Lib.hid (by rw[HT.out,if_pos HE.out];omega)⟩,by simp[RowKit.intOf]<;>omega⟩
   ·have hbe:((k:Int)%2==0)=false:=by simpa using hev
    have hbt:((k:Int).tmod 2==0)=false:=by rw[Int.tmod_eq_emod_of_nonneg (by omega)];exact hbe
    have HE:=Lib.hid hev
    clear hev
    go_wp2_with fail
    exact⟨⟨k+1,_,hk1,by first|rfl|go_num,by first|rfl|trivial,rfl,Lib.hid (by rw[HT.out,if_neg HE.out];omega)⟩,by simp[RowKit.intOf]<;>omega⟩
  ·have hkk:k=L.size:=by omega
   have q9:¬(k:Int)<(L.size:Int):=by omega
   have HX2:Hid (x=Id.jO L L.size):=Lib.hid (by rw[HX.out,hkk])
   clear HC HBD hdig HX hkk
   go_wp2_with fail
   go_ret
   refine⟨?_,HB.out⟩
   rw[<-HX2.out]
   rfl
theorem Bv (s:ByteArray)(w:World)(hs:s.size<=1000)(hal:∀c∈s.data.toList,Id.bT (c.toNat:Int)=true):
 ∃z:Int,0<=z/\z<=9/\Id.EC s.data.toList=Lib.decDigits z.toNat/\Calls Tryz.prog 174 #[.string s] w λe w'=>e=.returned (.int .i64 z)/\Below w.heap.size w w':=by
 have hlen:=Id.lL _ hal
 rw[<-Lib.size_eq]at hlen
 have hdig:=Id.zY _ (Id.oH _ hal)
 obtain⟨L,hL⟩:∃L:ByteArray,L=⟨(Id.aT s.data.toList).toArray⟩:=⟨_,rfl⟩
 have hLs:L.size=(Id.aT s.data.toList).length:=by rw[hL];rfl
 rw[<-hL]at hdig
 refine⟨(10-Id.jO L L.size%10)%10,by omega,by omega,by rw[hL];rfl,Ji s L w (by omega) (Lib.hid hdig) (Lib.hid ((Fs s w hs hal).mono ?_))⟩
 rintro e w' ⟨v,rfl,hv,hb⟩
 rw[<-hLs]at hv
 have hc:∃a c,v=.slice a L.size c/\L.size<=c/\(0<L.size->∃sb,a=some ⟨sb,0,none⟩/\∀k,k<L.size->w'.cell? ⟨sb,k,none⟩=some (.int .i64 (PlainAid.bt L k-48))):=by
  rcases hv.2 with⟨h1,h0⟩|⟨g,cap,cur,h1,hB,hh,hn,hcap,Qm,htake⟩
  ·exact⟨none,0,by rw[h0];exact h1,by omega,λh=>by omega⟩
  ·refine⟨_,cap,h1,hn,λh0=>⟨g,rfl,λk hk=>?_⟩⟩
   have hcell:=hv.cells (g:=g) (by rw[h1];rfl) k (.int .i64 (PlainAid.bt L k-48)) (by
    unfold eO
    rw[List.getElem?_map,List.getElem?_eq_getElem (by rw[<-hLs];exact hk)]
    have e:PlainAid.bt L k=((Id.aT s.data.toList)[k]'(by rw[<-hLs];exact hk)).toNat:=by
     rw[<-PlainAid.get_bt L k hk]
     subst hL
     rfl
    rw[e]
    rfl)
   have add:∀j,(⟨g,0,none⟩:Addr).add j=⟨g,j,none⟩:=λj=>by unfold Addr.add;split<;>simp_all
   rwa [add]at hcell
 obtain⟨a,c,rfl,h1,h2⟩:=hc
 exact⟨a,c,rfl,h1,h2,hb⟩
theorem Ord.textD_skip {P:Program}{ops:Array Oper}{Q:Exit->Act->World->Prop}{S:Bool->World->Prop}{k0:Nat}{D:Nat->Bool}{k:Nat}{o:Oper}{rest:List Oper}{a:Act}(hw:Region.wanted o (yielded ops a.tmps)=false)(hk:decide (k=k0)=false)
 (h2:Ord.ji P ops Q S k0 D (k+1) rest (a.put o.dst undef)):Ord.ji P ops Q S k0 D k (o::rest) a:=⟨undef,λb _ _=>.inr ⟨hw,rfl,λw hS=>by rw[hk,Bool.or_false];exact hS⟩,h2⟩
theorem Cm (s:ByteArray)(w:World)(e:Int)(j:Nat)(hs:s.size<=9223372036854775807)(cls:Nat->Int->Bool)(z c11:Int)
 (nL:Hid (∀w,Calls Tryz.prog 172 #[.int .i64 0] w λe w'=>e=.returned (.tuple #[.int .i64 12,.int .i64 12])/\w'=w))
 (nM:Hid (∀(i:Nat) (c:Int) w,i<12->Calls Tryz.prog 173 #[.int .i64 0,.int .i64 i,.int .u8 c] w λe w'=>e=.returned (.bool (cls i c))/\w'=w))
 (nU:Hid (s.size=12->j=12->∀W,Calls Tryz.prog 174 #[.string (s.extract 0 11)] W λe w'=>e=.returned (.int .i64 z)/\Below W.heap.size W w'))
 (Jf:PlainAid.bt s 11=c11) (ET:Hid (s.size=12->j=12->48<=c11/\c11<=57))
 (hjn:j<=12) (hjs:j<=s.size) (hgood:Hid (∀i,i<j->cls i (PlainAid.bt s i)=true))
 (mr:Hid ((j<12/\j<s.size/\cls j (PlainAid.bt s j)=false/\e=3)\/((j=12\/j=s.size)/\(((s.size:Int)<12/\e=4)\/(¬(s.size:Int)<12/\(s.size:Int)>12/\e=5)\/(¬(s.size:Int)<12/\¬(s.size:Int)>12/\e=if c11-48=z then 0 else 18))))):
 Calls Tryz.prog 92 #[.int .i64 0,.string s] w λx w'=>(∃z:Int,x=.returned (.tuple #[.int .i64 z,.int .i64 e]))/\Below w.heap.size w w':=by
 have hub:=PlainAid.get_bt s
 go_enter Tryz.func92,Tryz.ntmps92
 go_wp2_with (go_at_call 172;refine(nL.out _).mono ?_;rintro x w1 ⟨rfl,lu⟩;obtain rfl:=lu.symm;clear lu)
 go_loopw [8] (λiv wr=>∃i:Nat,iv=.int .i64 i/\i<=j/\wr=w) (λiv _=>2000-(RowKit.intOf iv).toNat)
 case atStart=>exact⟨0,rfl,Nat.zero_le _,rfl⟩
 case round=>
  obtain⟨i,rfl,hi,hwr⟩:=hrel
  subst hwr
  by_cases hlt:i<j
  ·have hx:i<s.size:=by omega
   have hxi:(i:Int)<(s.size:Int):=by omega
   have hxh:(i:Int)<12:=by omega
   have m1:=λw=>nM.out i (PlainAid.bt s i) w (by omega)
   simp only[hgood.out i hlt]at m1
   clear mr ET nU Jf
   go_wp2_with (go_at_call 173;refine(m1 _).mono ?_;rintro x w1 ⟨rfl,lu⟩;obtain rfl:=lu.symm;clear lu)
   go_roundw
   case rel=>exact⟨i+1,by go_num,by omega,by first|rfl|trivial⟩
   case measure=>simp[RowKit.intOf];omega
  ·obtain rfl:i=j:=by omega
   rcases mr.out with⟨h1,h2,h3,rfl⟩|⟨h1,h4⟩
   ·have hxi:(i:Int)<(s.size:Int):=by omega
    have hxh:(i:Int)<12:=by omega
    have m1:=λw=>nM.out i (PlainAid.bt s i) w (by omega)
    simp only[h3]at m1
    clear mr ET nU Jf
    go_wp2_with (go_at_call 173;refine(m1 _).mono ?_;rintro x w1 ⟨rfl,lu⟩;obtain rfl:=lu.symm;clear lu)
    go_ret2
    exact⟨⟨_,rfl⟩,Below.refl _ _⟩
   ·have hnc:¬(i:Int)<(s.size:Int)\/((i:Int)<(s.size:Int)/\¬(i:Int)<12):=by omega
    rcases h4 with⟨h5,rfl⟩|⟨h5,h6,rfl⟩|⟨h5,h6,he⟩
    ·clear mr ET nU Jf
     rcases hnc with hc|⟨hc,hc2⟩
     all_goals
      first
       |(exfalso;omega)
       |(go_wp2_with fail
         go_ret2
         exact⟨⟨_,rfl⟩,Below.refl _ _⟩)
    ·clear mr ET nU Jf
     rcases hnc with hc|⟨hc,hc2⟩
     all_goals
      first
       |(exfalso;omega)
       |(go_wp2_with fail
         go_ret2
         exact⟨⟨_,rfl⟩,Below.refl _ _⟩)
    ·have KI:s.size=12:=by omega
     have hi12:i=12:=by omega
     have hc:¬(i:Int)<(s.size:Int):=by omega
     have hU:=nU.out KI hi12
     have h48:=ET.out KI hi12
     have h11:11<s.size:=by omega
     have h11I:(11:Int)<(s.size:Int):=by omega
     have h11L:(11:Int)<=(s.size:Int):=by omega
     have h11N:11<=s.size:=by omega
     have hb:=hub 11 h11
     rw[Jf]at hb
     have hwu:IntKind.u8.wrap (c11-48)=c11-48:=IntWalk.u8_in _ (by omega)
     have hwi:IntKind.i64.wrap (c11-48)=c11-48:=IntWalk.i64_in _ (by omega)
     have HE:=Lib.hid he
     have HU:=Lib.hid hU
     obtain⟨E,hE⟩:∃E,s.extract 0 11=E:=⟨_,rfl⟩
     rw[hE]at HU
     clear mr ET nU hU he hnc hgood h1 hi12 KI hub Jf
     by_cases hz:c11-48=z
     ·have hnz:(c11-48 !=z)=false:=by simp[hz]
      have he0:e=0:=by rw[HE.out,if_pos hz]
      subst he0
      clear HE hnz
      subst hz
      go_upto_region 13 with fail
      go_region_with (first|(go_at_call 174;refine(HU.out _).mono ?_;rintro x w1 ⟨rfl,hbw⟩))
      all_goals
       have HBW:=Lib.hid ((Below.refl _ _).drew.trans (hbw.mono (by first|exact Nat.le_refl _|(simp;done))))
       clear hbw
       go_upto_region 15 with fail
       clear hwi hwu hb h48 nL nM HU h5 h6 h11 h11I h11L h11N hc
       obtain⟨W9,Ke⟩:∃W9,W9=w1.drew:=⟨_,rfl⟩
       refine Ord.uJ (λ_ w=>w=W9) 1000 (λ_=>false) (λ_ _ _ h=>by cases h) rfl (by kernel_rfl) (by kernel_rfl) (by exact Ke.symm) ?_
       refine Ord.lF (v:=?_) rfl rfl (λw=>?_) (λK hK=>?_)
       rotate_left
       ·(go_simp;first|done|exact rfl)
       go_simp
       refine hK _ ?_
       clear hK K
       refine Ord.lF (v:=?_) rfl rfl (λw=>?_) (λK hK=>?_)
       rotate_left
       ·(go_simp;first|done|exact rfl)
       go_simp
       refine hK _ ?_
       clear hK K
       refine Ord.lF (v:=?_) rfl rfl (λw=>?_) (λK hK=>?_)
       rotate_left
       ·(go_simp;first|done|exact rfl)
       go_simp
       refine hK _ ?_
       clear hK K
       refine Ord.textD_skip rfl rfl ?_
       go_simp
       refine Ord.textD_skip rfl rfl ?_
       go_simp
       refine Ord.textD_skip rfl rfl ?_
       go_simp
       refine Ord.textD_skip rfl rfl ?_
       go_simp
       refine Ord.textD_skip rfl rfl ?_
       go_simp
       refine Ord.textD_skip rfl rfl ?_
       go_simp
       refine Ord.textD_skip rfl rfl ?_
       go_simp
       refine Ord.textD_skip rfl rfl ?_
       go_simp
       refine Ord.textD_skip rfl rfl ?_
       go_simp
       refine Ord.lF (v:=?_) rfl rfl (λw=>?_) (λK hK=>?_)
       rotate_left
       ·(go_simp;first|done|exact rfl)
       go_simp
       refine hK _ ?_
       clear hK K
       refine Ord.Iu (λw9 D5=>?_)
       subst D5
       rename_i hKK
       refine hKK _ _ ?_
       clear hKK
       go_wp2_with fail
       go_ret2
       exact⟨⟨_,rfl⟩,by first|exact HBW.out.drew|(rw[Ke];exact HBW.out.drew)⟩
     ·have hnz:(c11-48 !=z)=true:=by simp[hz]
      have he0:e=18:=by rw[HE.out,if_neg hz]
      subst he0
      clear HE
      go_upto_region 13 with fail
      go_region_with (first|(go_at_call 174;refine(HU.out _).mono ?_;rintro x w1 ⟨rfl,hbw⟩))
      all_goals
       have HBW:=Lib.hid ((Below.refl _ _).drew.trans (hbw.mono (by first|exact Nat.le_refl _|(simp;done))))
       clear hbw
       go_wp2_with fail
       go_ret2
       exact⟨⟨_,rfl⟩,HBW.out⟩
theorem Eg (s:ByteArray)(hs:s.size<=9223372036854775807)(w:World):
 Calls Tryz.prog 92 #[.int .i64 0,.string s] w λx w'=>(∃z:Int,x=.returned (.tuple #[.int .i64 z,.int .i64 (aN 0 s)]))/\Below w.heap.size w w':=by
 have nL:=Lib.hid λw=>uB 0 (by omega) w
 obtain⟨j,h1,h2,h3,h4⟩:=IB 0 12 s rfl rfl
 have hfull:ag 0 s=0->s.size=12/\(∀c∈(s.extract 0 11).data.toList,Id.bT (c.toNat:Int)=true)/\Id.digit (PlainAid.bt s 11)=true:=λh0=>by
  obtain⟨k1,k2,k3⟩:=fE 0 s h0
  have e1:(aL 0).low=12:=rfl
  have e2:(bE 0).length=12:=rfl
  rw[e1]at k1
  rw[e2]at k2
  exact⟨by omega,jl 0 (.inl rfl) s 11 h0,k3 11 (by omega)⟩
 obtain⟨z,hz0,hz9,hzl,hzU⟩:∃z:Int,0<=z/\z<=9/\(ag 0 s=0->Id.EC (s.extract 0 11).data.toList=Lib.decDigits z.toNat)/\(ag 0 s=0->∀W,Calls Tryz.prog 174 #[.string (s.extract 0 11)] W λe w'=>e=.returned (.int .i64 z)/\Below W.heap.size W w'):=by
  by_cases h0:ag 0 s=0
  ·obtain⟨KI,hal,_⟩:=hfull h0
   have hsz:(s.extract 0 11).size<=1000:=by rw[ByteArray.size_extract];omega
   obtain⟨z,q1,q2,q3,_⟩:=Bv (s.extract 0 11) w hsz hal
   refine⟨z,q1,q2,λ_=>q3,λ_ W=>?_⟩
   obtain⟨z',p1,p2,p3,p4⟩:=Bv (s.extract 0 11) W hsz hal
   have hzz:z'=z:=by
    have:=p3.symm.trans q3
    rw[Lib.decDigits_one (by omega),Lib.decDigits_one (by omega)]at this
    have h5:=congrArg (λl:List UInt8=>(l.head?.map UInt8.toNat).getD 0) this
    simp only[List.head?_cons,Option.map_some,Option.getD_some,UInt8.toNat_ofNat']at h5
    omega
   rw[hzz]at p4
   exact p4
  ·exact⟨0,by omega,by omega,λh=>absurd h h0,λh=>absurd h h0⟩
 have hj12:s.size=12->j=12->ag 0 s=0:=λe1 e2=>by
  rcases h4 with⟨k1,_⟩|⟨_,⟨k1,_⟩|⟨_,k1,_⟩|⟨_,_,k1⟩⟩
  ·omega
  ·have e3:oG 0=12:=rfl
   rw[e3]at k1;omega
  ·omega
  ·exact k1
 refine Cm s w (aN 0 s) j hs (mM 0) z (PlainAid.bt s 11) nL (Lib.hid λi c w hi=>Hl 0 (by omega) i (by show(i:Int)<12;omega) c w) (Lib.hid λe1 e2=>hzU (hj12 e1 e2)) rfl (Lib.hid λe1 e2=>?_) h1 h2 (Lib.hid h3) (Lib.hid ?_)
 ·have:=(hfull (hj12 e1 e2)).2.2
  unfold Id.digit Lx.digit at this
  simpa using this
 ·have e3:oG 0=12:=rfl
  rw[e3]at h4
  rcases h4 with⟨k1,k2,k3,k4⟩|⟨k0,⟨k1,k2⟩|⟨k1,k2,k3⟩|⟨k1,k2,k3⟩⟩
  ·refine .inl ⟨k1,k2,k3,?_⟩
   unfold aN
   rw[if_pos (by rw[k4];decide),k4]
  ·refine .inr ⟨k0,.inl ⟨k1,?_⟩⟩
   unfold aN
   rw[if_pos (by rw[k2];decide),k2]
  ·refine .inr ⟨k0,.inr (.inl ⟨k1,k2,?_⟩)⟩
   unfold aN
   rw[if_pos (by rw[k3];decide),k3]
  ·refine .inr ⟨k0,.inr (.inr ⟨k1,k2,?_⟩)⟩
   obtain⟨KI,_,hd⟩:=hfull k3
   have hl:=hzl k3
   have e4:(s.extract 0 11).data.toList=s.data.toList.take 11:=extract_upto s 11
   rw[e4]at hl
   have hb:PlainAid.bt s 11=(s[11].toNat:Int):=(PlainAid.get_bt s 11 (by omega)).symm
   have hdrop:s.data.toList.drop 11=[s[11]]:=by
    have hlen:s.data.toList.length=12:=by rw[<-Lib.size_eq];exact KI
    have h5:s.data.toList.drop 11=s.data.toList[11]::s.data.toList.drop 12:=List.drop_eq_getElem_cons (by omega)
    rw[h5,List.drop_eq_nil_of_le (by omega)]
    rfl
   have hd2:48<=s[11].toNat/\s[11].toNat<=57:=by
    rw[hb]at hd
    unfold Id.digit Lx.digit at hd
    simp at hd
    omega
   unfold aN
   rw[if_neg (by rw[k3];decide),if_pos rfl,hl,hdrop,Lib.decDigits_one (by omega),hb]
   by_cases hq:(s[11].toNat:Int)-48=z
   ·rw[if_pos hq,if_pos]
    congr 1
    apply UInt8.toNat.inj
    rw[UInt8.toNat_ofNat']
    omega
   ·rw[if_neg hq,if_neg]
    intro hc
    injection hc with hc _
    have:=congrArg UInt8.toNat hc
    rw[UInt8.toNat_ofNat']at this
    omega
theorem Js (k:Nat)(hk:k<3)(s:ByteArray)(hs:s.size<=9223372036854775807)(w:World):
 Calls Tryz.prog 92 #[.int .i64 k,.string s] w λx w'=>(∃z:Int,x=.returned (.tuple #[.int .i64 z,.int .i64 (aN k s)]))/\Below w.heap.size w w':=by
 rcases(show k=0\/k=1\/k=2 by omega)with rfl|hk
 ·exact Eg s (by omega) w
 ·exact De k hk s hs w
open Go
def xu (n:Int):Bool:=decide (0<=n)&&decide (n<=73048)
def HY (V:Nat->ByteArray->Bool)(i:Ps.Ins)(sn:Nat)(xL:Int):Int:=if ((decide (i.kind<0))||(decide (4<i.kind)))=true then 11 else(if ((!(V 2 i.ref))||(!(V 1 i.sender)))=true then 6 else(if ((!(decide (i.kind<3)))&&(!(i.counterparty.toList==(⟨#[]⟩:ByteArray).toList)))=true then 3 else(if ((decide (i.kind<3))&&(!(V 1 i.counterparty)))=true then 6 else(if ((decide (i.kind<3))&&(i.counterparty.toList==i.sender.toList))=true then 1 else(if ((i.side !=0)&&(i.side !=1))=true then 11 else(if ((!((i.kind==1)||(i.kind==2)))&&(i.side !=0))=true then 3 else(if (((i.kind==0)&&(!(i.asset.toList==(⟨#[67,65,83,72]⟩:ByteArray).toList)))||((decide (0<i.kind))&&(!(V 0 i.asset))))=true then 6 else(if (((i.kind==0)&&(i.quantity !=0))||((decide (0<i.kind))&&((decide (i.quantity<1))||(decide (1000000000000000<i.quantity)))))=true then 2 else(if (((decide (i.kind<2))&&((decide (i.amount<1))||(decide (1000000000000000<i.amount))))||((decide (2<=i.kind))&&(i.amount !=0)))=true then 2 else(if (((!(xu i.settleDay))||(((i.kind==1)||(i.kind==2))&&((decide (i.tradeDay<0))||(decide (i.settleDay<i.tradeDay)))))||((!((i.kind==1)||(i.kind==2)))&&(i.tradeDay !=0)))=true then 28 else(if (((decide (i.priority<0))||(decide (2<i.priority)))||((!(decide (i.kind<3)))&&(i.priority !=0)))=true then 2 else(if (i.partial_&&(!((i.kind==1)||(i.kind==2))))=true then 3 else(if ((i.partial_&&((decide (i.minLot<1))||(decide (i.quantity<i.minLot))))||((!i.partial_)&&(i.minLot !=0)))=true then 2 else(if (((i.hold&&(!(decide (i.kind<3))))||(i.reserve&&((i.kind !=0)||(i.priority !=2))))||((!(decide (i.kind<3)))&&(decide (0<(sn:Int)))))=true then 3 else(if (decide (8<(sn:Int)))=true then 8 else(xL))))))))))))))))
def Gi (A:Ps.Amd):Int:=if ((((!A.hasAmount)&&(!A.hasSettleDay))&&(!A.hasPriority))&&(!A.hasPartial))=true then 3 else(if (((((!A.hasAmount)&&(A.amount !=0))||((!A.hasSettleDay)&&(A.settleDay !=0)))||((!A.hasPriority)&&(A.priority !=0)))||((!A.hasPartial)&&(A.partial_||(A.minLot !=0))))=true then 3 else(if (A.hasAmount&&((decide (A.amount<1))||(decide (1000000000000000<A.amount))))=true then 2 else(if (A.hasSettleDay&&(!(xu A.settleDay)))=true then 28 else(if (A.hasPriority&&((decide (A.priority<0))||(decide (2<A.priority))))=true then 2 else(if (A.hasPartial&&((A.partial_&&((decide (A.minLot<1))||(decide (1000000000000000<A.minLot))))||((!A.partial_)&&(A.minLot !=0))))=true then 2 else(0))))))
theorem bG {c:Bool}{p:Prop}[Decidable p]{n x y:Int}(h:c=true↔p)(h2:¬p->x=y):(if c=true then n else x)=if p then n else y:=by
 by_cases hp:p
 ·rw[if_pos hp,if_pos (h.2 hp)]
 ·rw[if_neg hp,if_neg (λhc=>hp (h.1 hc))];exact h2 hp
theorem rq {c:Bool}{p q:Prop}[Decidable p][Decidable q]{n x y:Int}(h:c=true↔p\/q)(h2:¬p->¬q->x=y):(if c=true then n else x)=if p then n else if q then n else y:=by
 by_cases hp:p
 ·rw[if_pos hp,if_pos (h.2 (.inl hp))]
 ·by_cases hq:q
  ·rw[if_neg hp,if_pos hq,if_pos (h.2 (.inr hq))]
  ·rw[if_neg hp,if_neg hq,if_neg (λhc=>(h.1 hc).elim hp hq)];exact h2 hp hq
theorem beqS (s t:ByteArray):(s.toList==t.toList)=decide (s=t):=by
 by_cases h:s=t
 ·rw[h];simp
 ·rw[decide_eq_false h,beq_eq_false_iff_ne]
  intro he
  rw[Lib.toList_data,Lib.toList_data]at he
  exact h (ByteArray.ext (Array.toList_inj.1 he))
theorem Iz (V:Nat->ByteArray->Bool)(hV:V 1 ⟨#[]⟩=false)(i:Ps.Ins):HY V i i.links.length (Ps.eU V i [] i.links)=Ps.ny V i:=by
 unfold HY Ps.ny xu Ps.bS Ps.bN
 simp only[beqS]
 refine bG (by first|(simp;done)|(simp;omega)) λr1=>?_
 have k1:i.kind=0\/i.kind=1\/i.kind=2\/i.kind=3\/i.kind=4:=by omega
 refine rq (by simp) λr2 r3=>?_
 refine bG (by first|(simp;done)|(simp;omega)) λr4=>?_
 refine bG (by first|(simp;done)|(simp;omega)) λr5=>?_
 refine bG ?_ λr6=>?_
 ·simp only[Bool.and_eq_true,decide_eq_true_eq]
  constructor
  ·exactλh=>h.2
  ·intro h
   refine⟨Classical.byContradiction λhk=>?_,h⟩
   have h34:i.kind=3\/i.kind=4:=by omega
   have hc:i.counterparty=⟨#[]⟩:=Classical.byContradiction λhc=>r4 ⟨h34,hc⟩
   rw[<-h,hc]at r3
   exact r3 hV
 refine bG (by first|(simp;done)|(simp;omega)) λr7=>?_
 refine bG (by first|(simp;done)|(simp;omega)) λr8=>?_
 refine bG ?_ λr9=>?_
 ·rcases k1 with h|h|h|h|h<;>rw[h]<;>simp[Ps.sU]
 refine bG ?_ λr10=>?_
 ·rcases k1 with h|h|h|h|h<;>rw[h]<;>simp<;>omega
 refine bG ?_ λr11=>?_
 ·rcases k1 with h|h|h|h|h<;>rw[h]<;>simp<;>omega
 refine rq ?_ λr12 r13=>?_
 ·rcases k1 with h|h|h|h|h<;>rw[h]<;>simp<;>omega
 refine bG ?_ λr14=>?_
 ·rcases k1 with h|h|h|h|h<;>rw[h]<;>simp<;>omega
 refine bG ?_ λr15=>?_
 ·rcases k1 with h|h|h|h|h<;>rw[h]<;>simp
 refine bG ?_ λr16=>?_
 ·cases hp:i.partial_<;>simp<;>omega
 have h3:∀(c:Bool) (p q r:Prop) [Decidable p] [Decidable q] [Decidable r] (x y:Int),(c=true↔p\/q\/r)->(¬p->¬q->¬r->x=y)->(if c=true then(3:Int)else x)=if p then 3 else if q then 3 else if r then 3 else y:=by
  intro c p q r _ _ _ x y h hx
  by_cases hp:p
  ·rw[if_pos hp,if_pos (h.2 (.inl hp))]
  ·by_cases hq:q
   ·rw[if_neg hp,if_pos hq,if_pos (h.2 (.inr (.inl hq)))]
   ·by_cases hr:r
    ·rw[if_neg hp,if_neg hq,if_pos hr,if_pos (h.2 (.inr (.inr hr)))]
    ·rw[if_neg hp,if_neg hq,if_neg hr,if_neg (λhc=>(h.1 hc).elim hp (λh=>h.elim hq hr))];exact hx hp hq hr
 refine h3 _ _ _ _ _ _ ?_ λr17 r18 r19=>?_
 ·rcases k1 with h|h|h|h|h<;>rw[h]<;>simp[or_assoc]
 exact bG (by simp;omega) λ_=>rfl
theorem Jn (A:Ps.Amd):Gi A=Ps.xB A:=by
 unfold Gi Ps.xB xu Ps.bS Ps.bN
 refine bG (by simp[and_assoc]) λr1=>?_
 refine bG (by simp[or_assoc]) λr2=>?_
 have a0:A.hasAmount=false->A.amount=0:=λhk=>Classical.byContradiction λhc=>r2 (.inl ⟨hk,hc⟩)
 have d0:A.hasSettleDay=false->A.settleDay=0:=λhk=>Classical.byContradiction λhc=>r2 (.inr (.inl ⟨hk,hc⟩))
 have p0:A.hasPriority=false->A.priority=0:=λhk=>Classical.byContradiction λhc=>r2 (.inr (.inr (.inl ⟨hk,hc⟩)))
 have q0:A.hasPartial=false->A.partial_=false/\A.minLot=0:=λhk=>⟨by
  cases hv:A.partial_ with
  |false=>rfl
  |true=>exact absurd (.inr (.inr (.inr ⟨hk,.inl hv⟩))) r2,Classical.byContradiction λhc=>r2 (.inr (.inr (.inr ⟨hk,.inr hc⟩)))⟩
 refine bG ?_ λr3=>?_
 ·cases h:A.hasAmount
  ·have:=a0 h;simp[this]
  ·simp;omega
 refine bG ?_ λr4=>?_
 ·cases h:A.hasSettleDay
  ·have:=d0 h;simp[this]
  ·simp;omega
 refine bG ?_ λr5=>?_
 ·cases h:A.hasPriority
  ·have:=p0 h;simp[this]
  ·simp;omega
 refine bG ?_ λ_=>rfl
 cases h:A.hasPartial
 ·have:=q0 h;simp[this.1,this.2]
 ·cases hp:A.partial_<;>simp<;>omega
open Go.Proofs.YtnjjeapcalkmaaaGreatDoor.Ord
theorem RI:∀args w,(callFunc 93 args).run Tryz.prog w=.ok (.enter 93 args) w:=enters_of Tryz.func93 (by kernel_rfl) rfl
section
variable (x y : Operand) (n m : Int) (w : World)
theorem cm_lt3:(do eqGuard .lss 3 x y (.int .i64 n) (.int .i64 m);binOp .lss 3 (.int .i64 n) (.int .i64 m):Sem Value).run Tryz.prog w=.ok (.bool (decide (n<m))) w:=by go_simp
end
theorem Bu (w:World)(n:Int):Calls Tryz.prog 93 #[.int .i64 n] w λe w'=>e=.returned (.bool (xu n))/\Below w.heap.size w w':=by
 unfold xu
 by_cases h1:n>=0
 all_goals
  go_enter Tryz.func93,Tryz.ntmps93
  go_wp2_with fail
  go_ret
  exact⟨bK (by first|rfl|(simp;omega)|simp),Below.refl _ _⟩
open Go.Proofs.YtnjjeapcalkmaaaGreatDoor.Ev (AV Mem Fr ja)
def amdM (g:Nat)(A:Ps.Amd):Mem Unit:=ja (λt f=>if t=26/\f<9 then some f else none) [(some (g,0),aG A)] λf vs=>if f=93 then(match vs.map (Ev.eD [(some (g,0),aG A)])with|[.int .i64 n]=>some (.bool (xu n))|_=>none)else none
theorem Nk {t:TypeId}{f d:Nat}(h:(if t=26/\f<9 then some f else none)=some d)(b j:Nat)(w:World):(Instr.fieldAt t (.pointer (some ⟨b,j,none⟩)) f).run Tryz.prog w=.ok (.pointer (some ⟨b,j+d,none⟩)) w:=by
 split at h
 ·rename_i h1
  obtain⟨rfl,h2⟩:=h1
  cases h
  rcases f with _|_|_|_|_|_|_|_|_|f
  all_goals first|omega|go_simp
 ·cases h
theorem PE {S:World->Prop}{g:Nat}{A:Ps.Amd}(hr:∀w,S w->w.heap[g]? =some (.cells (aG A).toArray 26 (0,0)))(hb:∀w w',S w->Below w.heap.size w w'->S w'):Ev.Ok Tryz.prog (λ_ w=>S w) (amdM g A):=by
 refine Ev.jH (λt f d h=>Nk h) (λk b o l h w hS j v hv=>?_) (λf vs v h=>?_) (λ_ _ _ h=>by cases h)
 ·rcases k with _|k
  ·cases h
   rw[Nat.zero_add,cell_of_row _ _ _ _ _ _ (hr w hS)]
   simpa using hv
  ·cases h
 ·split at h
  ·rename_i hf
   subst hf
   split at h
   ·rename_i hm
    cases h
    rw[hm]
    exact⟨RI,λw hS=>(Bu w _).mono λe w' k=>⟨k.1,hb _ _ hS k.2⟩⟩
   ·cases h
  ·cases h
theorem RA (w:World)(A:Ps.Amd)(x:Int)(hx:x=if ((((!A.hasAmount)&&(!A.hasSettleDay))&&(!A.hasPriority))&&(!A.hasPartial))=true then 3 else(if (((((!A.hasAmount)&&(A.amount !=0))||((!A.hasSettleDay)&&(A.settleDay !=0)))||((!A.hasPriority)&&(A.priority !=0)))||((!A.hasPartial)&&(A.partial_||(A.minLot !=0))))=true then 3 else(if (A.hasAmount&&((decide (A.amount<1))||(decide (1000000000000000<A.amount))))=true then 2 else(if (A.hasSettleDay&&(!(xu A.settleDay)))=true then 28 else(if (A.hasPriority&&((decide (A.priority<0))||(decide (2<A.priority))))=true then 2 else(if (A.hasPartial&&((A.partial_&&((decide (A.minLot<1))||(decide (1000000000000000<A.minLot))))||((!A.partial_)&&(A.minLot !=0))))=true then 2 else(0))))))):
 Calls Tryz.prog 44 #[.agg (aG A).toArray] w λe w'=>e=.returned (.int .i64 x)/\Below w.heap.size w w':=by
 go_enter Tryz.func44,Tryz.ntmps44
 refine wp_seq ?_
 refine wp_region_lit ?_
 refine wpList_plain rfl (λK hK=>?_)
 go_simp
 refine hK _ _ ?_
 clear hK K
 refine wpList_plain rfl (λK hK=>?_)
 go_simp
 refine hK _ _ ?_
 clear hK K
 refine aU ?_
 obtain⟨g,hg⟩:∃g,g=w.heap.size:=⟨_,rfl⟩
 obtain⟨W1,hW1⟩:∃W1,W1=w.alloc (.cells (aG A).toArray 26):=⟨_,rfl⟩
 have hrow:∀W,Below W1.heap.size W1 W->W.heap[g]? =some (.cells (aG A).toArray 26 (0,0)):=λW hW=>by
  rw[hW.block g (by rw[hW1,hg];simp),hW1,hg];exact aD w _
 have hB1:Below w.heap.size w W1:=by rw[hW1];exact(Below.refl _ _).alloc (Nat.le_refl _) _
 rw[<-hg,<-hW1]
 refine jo rfl λa ha hdf=>?_
 refine Ev.AL (M:=amdM g A) (S:=λ_ W=>Below W1.heap.size W1 W) (n:=121) (K:=[(1,.p 0 0)]) (s:=()) (v:=x) 2 (PE hrow λW W' h1 h2=>h1.trans (h2.mono h1.size)) (λ_ W h=>h.drew) (by rw[hx];kernel_rfl) (by kernel_rfl) (Ev.aF (Ev.aX (by rw[ha];rfl) hdf) (by rw[ha];rfl)) (Below.refl _ _) ?_
 intro b W s hd ht hS
 try simp only[Exit.then,Exit.inBlock]
 refine bodyPost_ret (results_tmp rfl _ _ _) hd ?_
 rw[hg]
 exact⟨by rw[show b.tmps.getD 2 undef=.int .i64 x from eval_at ht],hB1.trans (hS.mono hB1.size)⟩
theorem vY (cl:List (Nat×(Int->Bool)))(hcl:Nb cl)(g cap:Nat)(a:Int)(s:ByteArray)(w:World)(hn:cl.length<=1024)(_ha0:0<=a)(_ha1:a<=64)
 (hc:∀(k:Nat) x,cl[k]? =some x->w.cell? ⟨g,k,none⟩=some (.func (.func x.1) #[] #[])):
 Calls Tryz.prog 204 #[.slice (some ⟨g,0,none⟩) cl.length cap,.int .i64 a,.string s] w λe w'=>(∃t:Int,e=.returned (.tuple #[.int .i64 t,.int .i64 (bR (cl.map (·.2)) a s)]))/\w=w':=by
 have HC:=Lib.hid hc
 have HT:=Lib.hid hcl
 clear hc hcl
 have hb:=PlainAid.get_bt s
 go_enter Tryz.func204,Tryz.ntmps204
 go_wp2_with fail
 go_loop [12] (λi=>∃k:Nat,k<=cl.length/\i=.int .i64 k/\∀j,j<k->lY (cl.map (·.2)) s j=false) (λi=>cl.length-(RowKit.intOf i).toNat)
 case atStart=>exact⟨0,Nat.zero_le _,rfl,λj hj=>by omega⟩
 case round=>
  obtain⟨k,hk,rfl,mG⟩:=hrel
  have HP:=Lib.hid mG
  clear mG
  by_cases hlt:k<cl.length
  ·have hget:cl[k]? =some cl[k]:=List.getElem?_eq_getElem hlt
   have hcell:=HC.out k _ hget
   obtain⟨eg,hp⟩:=HT.out cl[k] (List.getElem_mem hlt)
   have HBAD:Hid (lY (cl.map (·.2)) s k=(decide (k<s.size)&&!(cl[k].2 (PlainAid.bt s k)))):=by
    show _=_
    unfold lY
    rw[List.getD_eq_getElem?_getD,List.getElem?_map,hget]
    rfl
   clear hget
   generalize cl[k]=x at *
   obtain⟨f,p⟩:=x
   simp only at hcell eg hp HBAD
   by_cases hks:k<s.size
   ·have hcall:=λW=>hp (PlainAid.bt s k) W (PlainAid.bt_nonneg s k) (by have:=PlainAid.bt_le s k;omega)
    clear hp
    cases hq:p (PlainAid.bt s k)with
    |true=>
     rw[hq]at hcall HBAD
     clear hq
     go_wp2_with (go_at_fn f;refine(hcall _).mono ?_;rintro e w' ⟨rfl,rfl⟩)
     go_round
     case rel=>
      refine⟨k+1,by omega,by go_num,λj hj=>?_⟩
      by_cases e:j=k
      ·subst e;rw[HBAD.out];simp
      ·exact HP.out j (by omega)
     case measure=>simp[RowKit.intOf];omega
    |false=>
     rw[hq]at hcall HBAD
     clear hq
     go_wp2_with (go_at_fn f;refine(hcall _).mono ?_;rintro e w' ⟨rfl,rfl⟩)
     go_ret2
     have h3:bR (cl.map (·.2)) a s=3:=by
      unfold bR
      rw[if_pos]
      rw[List.any_eq_true]
      exact⟨k,by simpa using hlt,by rw[HBAD.out];simpa using hks⟩
     rw[h3]
     exact⟨⟨_,rfl⟩,rfl⟩
   ·clear hp
    go_wp2_with fail
    go_round
    case rel=>
     refine⟨k+1,by omega,by go_num,λj hj=>?_⟩
     by_cases e:j=k
     ·subst e;rw[HBAD.out];simp[hks]
     ·exact HP.out j (by omega)
    case measure=>simp[RowKit.intOf];omega
  ·obtain rfl:k=cl.length:=by omega
   have HF:Hid (bR (cl.map (·.2)) a s=if (s.size:Int)<a then 4 else if cl.length<s.size then 5 else 0):=by
    show _=_
    unfold bR
    rw[if_neg]
    ·simp
    ·rw[List.any_eq_true]
     rintro⟨j,hj,hj2⟩
     rw[HP.out j (by simpa using hj)]at hj2
     exact absurd hj2 (by simp)
   clear hb
   by_cases h4:(s.size:Int)<a
   ·go_wp2_with fail
    go_ret2
    rw[HF.out,if_pos h4]
    exact⟨⟨_,rfl⟩,rfl⟩
   ·by_cases h5:cl.length<s.size
    ·go_wp2_with fail
     go_ret2
     rw[HF.out,if_neg (by omega),if_pos h5]
     exact⟨⟨_,rfl⟩,rfl⟩
    ·go_wp2_with fail
     go_ret2
     rw[HF.out,if_neg (by omega),if_neg (by omega)]
     exact⟨⟨_,rfl⟩,rfl⟩
theorem oO (k:Nat)(hk:k<4)(hnil:(aL k).chk=.nilFunc)(s:ByteArray)(w:World)(h:kV w):
 Calls Tryz.prog 137 #[.int .i64 k,.string s] w λe w'=>(∃t:Int,e=.returned (.tuple #[.int .i64 t,.int .i64 (ag k s)]))/\Below w.heap.size w w':=by
 obtain⟨sb,so,sc,c0,c1,c2,c3,hsp⟩:=h k hk
 rw[hnil]at c3
 obtain⟨hl1,hl2⟩:=nX k
 have hk4:(k:Int)<4:=by omega
 have htot:(bI (aL k).sp).length<=20:=by rw[iT k hk,List.length_map];exact fG k
 have HCL:=Lib.hid (λ(a b:Int) (chk:Value) (W:World) (hW:dL W sb so (aL k).sp)=>kg a b chk sb so sc (aL k).sp W hW (by omega) (by omega) (λx hx=>by have:=hl2 x hx;omega))
 have HPF:=Lib.hid (λ(g cap:Nat) (W:World) (hW:∀(j:Nat) x,(bE k)[j]? =some x->W.cell? ⟨g,j,none⟩=some (.func (.func x.1) #[] #[]))=>
  vY (bE k) (nJ k) g cap (aL k).low s W (by have:=fG k;omega) (l8 k).1 (by have:=(l8 k).2;omega) hW)
 have HSP:Hid (∀o,dL (w.alloc o) sb so (aL k).sp):=Lib.hid λo=>hsp.below ((Below.refl _ w).alloc (Nat.le_refl _) o)
 have HFM:=Lib.hid (λ(W:World) (v:Value) (B:Nat)=>ui (W:=W) (B:=B) (v:=v) hk)
 have FM:Hid (ag k s=bR ((bE k).map (·.2)) (aL k).low s):=rfl
 clear hsp hnil hl1 hl2 htot h
 generalize (aL k).low=low at *
 generalize (aL k).body=body at *
 generalize (aL k).sp=sp at *
 go_enter Tryz.func137,Tryz.ntmps137
 go_wp2_with fail
 go_region_held3 (λw'=>w'.cell? ⟨w.heap.size,0,none⟩=some (.int .i64 low)/\w'.cell? ⟨w.heap.size,1,none⟩=some (.slice (some ⟨sb,so,none⟩) sp.length sc)/\w'.cell? ⟨w.heap.size,2,none⟩=some (.int .i64 body)/\w'.cell? ⟨w.heap.size,3,none⟩=some .nilFunc)
  (go_keep)
  (first
   |(go_at_call 205;refine(HCL.out _ _ _ _ ?_).mono ?_;(exact HSP.out _);rintro e w1 ⟨v,rfl,hown,hb1⟩;obtain⟨g,cap,rfl,hg⟩:=HFM.out _ _ _ hown;have k0:=(hb1.cell (p:=⟨w.heap.size,0,none⟩) (by simp)).trans (show _=some (Value.int .i64 low)by simp);have k1:=(hb1.cell (p:=⟨w.heap.size,1,none⟩) (by simp)).trans (show _=some (Value.slice (some ⟨sb,so,none⟩) sp.length sc)by simp);have k2:=(hb1.cell (p:=⟨w.heap.size,2,none⟩) (by simp)).trans (show _=some (Value.int .i64 body)by simp);have k3:=(hb1.cell (p:=⟨w.heap.size,3,none⟩) (by simp)).trans (show _=some Value.nilFunc by simp);have HG:=Lib.hid hg;clear hg)
   |(go_at_call 204;refine(HPF.out _ _ _ ?_).mono ?_;(exact HG.out);rintro e w2 ⟨⟨t,rfl⟩,rfl⟩))
 rw[<-FM.out]
 obtain⟨fit,HF⟩:∃fit:Int,Hid (ag k s=fit):=⟨_,Lib.hid rfl⟩
 rw[HF.out]
 have jU:Below w.heap.size w w1:=Below.trans (((Below.refl w.heap.size w).alloc (Nat.le_refl _) _).drew) (hb1.mono (B':=w.heap.size) (by simp))
 clear hb1
 by_cases hfit:fit=0
 ·subst hfit
  go_wp2_with fail
  go_quiet (fail)
  go_wp2_with fail
  go_ret2
  exact⟨⟨_,by rw[HF.out];rfl⟩,by first|assumption|exact below_drewN' (by assumption) _⟩
 ·have hbf:(fit !=0)=true:=by simpa using hfit
  clear hfit
  go_wp2_with fail
  go_ret2
  exact⟨⟨_,by rw[HF.out];rfl⟩,jU⟩
theorem wB (k:Nat)(hk:k<4)(cf bn:Nat)(uF:(aL k).chk=.func (.func cf) #[] #[])(hbn:(aL k).body=(bn:Int))(_hbn2:bn<=64)(s:ByteArray)(w:World)(h:kV w)(R:ByteArray)(code:Int)(hcode:Hid (code=if ag k s≠0 then ag k s else if (R.toList==(s.extract bn s.size).toList)=true then 0 else 18))
 (ec:∀args w,(callFunc cf args).run Tryz.prog w=.ok (.enter cf args) w)
 (hck:ag k s=0->bn<=s.size/\∀W,Calls Tryz.prog cf #[.string (s.extract 0 bn)] W λe w'=>e=.returned (.string R)/\Below W.heap.size W w'):
 Calls Tryz.prog 137 #[.int .i64 k,.string s] w λe w'=>(∃t:Int,e=.returned (.tuple #[.int .i64 t,.int .i64 code]))/\Below w.heap.size w w':=by
 obtain⟨sb,so,sc,c0,c1,c2,c3,hsp⟩:=h k hk
 rw[uF]at c3
 rw[hbn]at c2
 obtain⟨hl1,hl2⟩:=nX k
 have hk4:(k:Int)<4:=by omega
 have htot:(bI (aL k).sp).length<=20:=by rw[iT k hk,List.length_map];exact fG k
 have HCL:=Lib.hid (λ(a b:Int) (chk:Value) (W:World) (hW:dL W sb so (aL k).sp)=>kg a b chk sb so sc (aL k).sp W hW (by omega) (by omega) (λx hx=>by have:=hl2 x hx;omega))
 have HPF:=Lib.hid (λ(g cap:Nat) (W:World) (hW:∀(j:Nat) x,(bE k)[j]? =some x->W.cell? ⟨g,j,none⟩=some (.func (.func x.1) #[] #[]))=>
  vY (bE k) (nJ k) g cap (aL k).low s W (by have:=fG k;omega) (l8 k).1 (by have:=(l8 k).2;omega) hW)
 have HSP:Hid (∀o,dL (w.alloc o) sb so (aL k).sp):=Lib.hid λo=>hsp.below ((Below.refl _ w).alloc (Nat.le_refl _) o)
 have HFM:=Lib.hid (λ(W:World) (v:Value) (B:Nat)=>ui (W:=W) (B:=B) (v:=v) hk)
 have FM:Hid (ag k s=bR ((bE k).map (·.2)) (aL k).low s):=rfl
 have HCK:=Lib.hid hck
 clear hsp uF hl1 hl2 htot h hck
 generalize (aL k).low=low at *
 generalize (aL k).body=body at *
 generalize (aL k).sp=sp at *
 subst hbn
 go_enter Tryz.func137,Tryz.ntmps137
 go_wp2_with fail
 go_region_held3 (λw'=>w'.cell? ⟨w.heap.size,0,none⟩=some (.int .i64 low)/\w'.cell? ⟨w.heap.size,1,none⟩=some (.slice (some ⟨sb,so,none⟩) sp.length sc)/\w'.cell? ⟨w.heap.size,2,none⟩=some (.int .i64 bn)/\w'.cell? ⟨w.heap.size,3,none⟩=some (.func (.func cf) #[] #[]))
  (go_keep)
  (first
   |(go_at_call 205;refine(HCL.out _ _ _ _ ?_).mono ?_;(exact HSP.out _);rintro e w1 ⟨v,rfl,hown,hb1⟩;obtain⟨g,cap,rfl,hg⟩:=HFM.out _ _ _ hown;have k0:=(hb1.cell (p:=⟨w.heap.size,0,none⟩) (by simp)).trans (show _=some (Value.int .i64 low)by simp);have k1:=(hb1.cell (p:=⟨w.heap.size,1,none⟩) (by simp)).trans (show _=some (Value.slice (some ⟨sb,so,none⟩) sp.length sc)by simp);have k2:=(hb1.cell (p:=⟨w.heap.size,2,none⟩) (by simp)).trans (show _=some (Value.int .i64 bn)by simp);have k3:=(hb1.cell (p:=⟨w.heap.size,3,none⟩) (by simp)).trans (show _=some (Value.func (.func cf) #[] #[])by simp);have HG:=Lib.hid hg;clear hg)
   |(go_at_call 204;refine(HPF.out _ _ _ ?_).mono ?_;(exact HG.out);rintro e w2 ⟨⟨t,rfl⟩,rfl⟩))
 rw[<-FM.out]
 obtain⟨fit,HF⟩:∃fit:Int,Hid (ag k s=fit):=⟨_,Lib.hid rfl⟩
 rw[HF.out]
 have jU:Below w.heap.size w w1:=Below.trans (((Below.refl w.heap.size w).alloc (Nat.le_refl _) _).drew) (hb1.mono (B':=w.heap.size) (by simp))
 have hsz1:w.heap.size<w1.heap.size:=by have:=hb1.size;simp at this;omega
 clear hb1
 by_cases hfit:fit=0
 ·subst hfit
  obtain⟨hbs,hck⟩:=HCK.out HF.out
  have HCK2:=Lib.hid hck
  clear hck
  have hbs0:(bn:Int)<=(s.size:Int):=by omega
  go_wp2_with fail
  go_region_held3 (λw'=>Below w.heap.size w w'/\w.heap.size<w'.heap.size/\w'.cell? ⟨w.heap.size,2,none⟩=some (.int .i64 bn)/\w'.cell? ⟨w.heap.size,3,none⟩=some (.func (.func cf) #[] #[]))
   (first|assumption|exact Below.drew (by assumption)|(refine⟨?_,?_,?_,?_⟩<;>first|assumption|exact Below.drew (by assumption)|go_keep)|go_keep)
   (first
    |(go_at_fn cf;refine(HCK2.out _).mono ?_;rintro e w3 ⟨rfl,hb3⟩;have G8:=zD (by assumption) hb3))
  obtain⟨hb4,hsz4,k4,k5⟩:=G8
  clear hb3
  generalize hq:(R.toList==(s.extract bn s.size).toList)=q
  have HQ:Hid (code=if q=true then 0 else 18):=Lib.hid (by rw[hcode.out,HF.out,if_neg (by simp),hq])
  clear hq
  cases q with
  |true=>
   go_wp2_with fail
   go_ret2
   rw[HQ.out]
   exact⟨⟨_,rfl⟩,hb4⟩
  |false=>
   go_wp2_with fail
   go_ret2
   rw[HQ.out]
   exact⟨⟨_,rfl⟩,hb4⟩
 ·have hbf:(fit !=0)=true:=by simpa using hfit
  have HNE:=Lib.hid hfit
  clear hfit
  go_wp2_with fail
  go_ret2
  rw[hcode.out,HF.out,if_pos HNE.out]
  exact⟨⟨_,rfl⟩,jU⟩
theorem FB (k:Nat)(hk:k<3)(s:ByteArray)(w:World)(h:kV w):
 Calls Tryz.prog 137 #[.int .i64 k,.string s] w λe w'=>(∃t:Int,e=.returned (.tuple #[.int .i64 t,.int .i64 (aN k s)]))/\Below w.heap.size w w':=by
 match k,hk with
 |0,_=>
  refine wB 0 (by decide) 343 11 rfl rfl (by omega) s w h ⟨(Id.EC (s.data.toList.take 11)).toArray⟩ (aN 0 s) (Lib.hid ?_) (enters_of Tryz.func343 (by kernel_rfl) rfl) (λh0=>⟨?_,λW=>(Gp _ W ?_ (jl 0 (Or.inl rfl) s 11 h0)).mono ?_⟩)
  ·unfold aN
   rw[toList_mk,vz]
   simp only[if_pos,beq_iff_eq]
  ·have:=(fE 0 s h0).1
   simp[aL]at this;omega
  ·simp[ByteArray.size_extract];omega
  ·rintro e w' ⟨rfl,hb⟩
   rw[extract_upto]
   exact⟨rfl,hb⟩
 |1,_=>
  have e1:aN 1 s=ag 1 s:=by unfold aN;split<;>simp_all
  rw[e1]
  exact oO 1 (by decide) rfl s w h
 |2,_=>
  have e1:aN 2 s=ag 2 s:=by unfold aN;split<;>simp_all
  rw[e1]
  exact oO 2 (by decide) rfl s w h
theorem FO (k:Nat)(hk:k<3)(s:ByteArray)(w:World)(h:kV w):
 Calls Tryz.prog 80 #[.int .i64 k,.string s] w λe w'=>e=.returned (.bool (aN k s==0))/\Below w.heap.size w w':=
 xU k s w _ _ rfl (FB k hk s w h)
theorem Em (w:World)(n lo hi:Int)(b1 b2:Bool)(h1:decide (lo<=n)=b1)(h2:decide (n<=hi)=b2):
 Calls Tryz.prog 79 #[.int .i64 n,.int .i64 lo,.int .i64 hi] w λe w'=>e=.returned (.bool (b1&&b2))/\w=w':=by
 cases b1
 all_goals cases b2
 all_goals simp only[decide_eq_true_eq,decide_eq_false_iff_not]at h1 h2
 all_goals
  go_enter Tryz.func79,Tryz.ntmps79
  go_wp2_with fail
  go_ret
  exact⟨rfl,rfl⟩
theorem zu (w:World)(n lo hi:Int)(b1 b2:Bool)(h1:decide (lo<=n)=b1)(h2:decide (n<=hi)=b2):
 Calls Tryz.prog 142 #[.int .i64 n,.int .i64 lo,.int .i64 hi] w λe w'=>e=.returned (.bool (b1&&b2))/\w=w':=by
 cases b1
 all_goals cases b2
 all_goals simp only[decide_eq_true_eq,decide_eq_false_iff_not]at h1 h2
 all_goals
  go_enter Tryz.func142,Tryz.ntmps142
  go_wp2_with fail
  go_ret
  exact⟨rfl,rfl⟩
def inB (n lo hi:Int):Bool:=decide (lo<=n)&&decide (n<=hi)
theorem Jy (w:World)(n lo hi:Int):Calls Tryz.prog 79 #[.int .i64 n,.int .i64 lo,.int .i64 hi] w λe w'=>e=.returned (.bool (inB n lo hi))/\w=w':=Em w n lo hi _ _ rfl rfl
theorem tO (w:World)(n lo hi:Int):Calls Tryz.prog 142 #[.int .i64 n,.int .i64 lo,.int .i64 hi] w λe w'=>e=.returned (.bool (inB n lo hi))/\w=w':=zu w n lo hi _ _ rfl rfl
theorem FT (w:World)(n lo hi:Int):Calls Tryz.prog 79 #[.int .i64 n,.int .i64 lo,.int .i64 hi] w λe w'=>e=.returned (.bool (inB n lo hi))/\Below w.heap.size w w':=(Jy w n lo hi).mono λ_e _w' ⟨h1,h2⟩=>⟨h1,h2▸Below.refl _ _⟩
theorem Ao (w:World)(n lo hi:Int):Calls Tryz.prog 142 #[.int .i64 n,.int .i64 lo,.int .i64 hi] w λe w'=>e=.returned (.bool (inB n lo hi))/\Below w.heap.size w w':=(tO w n lo hi).mono λ_e _w' ⟨h1,h2⟩=>⟨h1,h2▸Below.refl _ _⟩
theorem JH (w:World)(b:Bool)(n:Int):Calls Tryz.prog 136 #[.agg #[.bool b,.int .i64 n]] w λe w'=>e=.returned (.bool b)/\Below w.heap.size w w':=by
 go_enter Tryz.func136,Tryz.ntmps136
 go_wp2_with fail
 go_ret
 exact⟨rfl,(Below.refl _ _).alloc (Nat.le_refl _) _⟩
def dM (rs:List (Bool×Int)):List Value:=rs.flatMap λx=>[.bool x.1,.int .i64 x.2]
def aY:List (Bool×Int)->Int
 |[]=>0
 |x::rs=>if x.1=true then x.2 else aY rs
theorem Hm:∀(rs:List (Bool×Int)) (j:Nat) (x:Bool×Int),rs[j]? =some x->(dM rs)[j*2]? =some (.bool x.1)/\(dM rs)[j*2+1]? =some (.int .i64 x.2)
 |[],j,x,h=>by simp at h
 |y::rs,0,x,h=>by
  obtain rfl:y=x:=by simpa using h
  exact⟨rfl,rfl⟩
 |y::rs,j+1,x,h=>by
  have ih:=Hm rs j x (by simpa using h)
  rw[show(j+1)*2=j*2+1+1 from by omega]
  exact ih
theorem Ck (W:World)(g cap:Nat)(rs:List (Bool×Int))(t:TypeId)(hrow:W.heap[g]? =some (.cells (dM rs).toArray t (0,0)))(_hc:rs.length<=cap)(hl:rs.length<=1000)(m:Nat)(hm:m<=rs.length)(hlow:Hid (∀j x,j<m->rs[j]? =some x->x.1=false))
 (v:Int) (hv:Hid ((m<rs.length->(∃e,rs[m]? =some (true,e))/\v=(m:Int))/\(m=rs.length->v= -1))):
 Calls Tryz.prog 135 #[.slice (some ⟨g,0,none⟩) rs.length cap,.func (.func 136) #[] #[]] W λe W'=>e=.returned (.int .i64 v)/\Below W.heap.size W W':=by
 have eg:=enters_of Tryz.func136 (by kernel_rfl) rfl
 have HR:=Lib.hid hrow
 clear hrow
 go_enter Tryz.func135,Tryz.ntmps135
 go_wp2_with fail
 go_loopw [5,8] (λ_ iv wr=>∃j:Nat,iv=.int .i64 j/\j<=m/\Hid (Below W.heap.size W wr)) (λ_ iv _=>2000-(RowKit.intOf iv).toNat)
 case atStart=>exact⟨0,rfl,Nat.zero_le _,Lib.hid (Below.refl _ _)⟩
 case round=>
  obtain⟨j,rfl,hj,HB⟩:=hrel
  by_cases hlt:j<rs.length
  ·obtain⟨x,hx⟩:∃x,rs[j]? =some x:=⟨_,List.getElem?_eq_getElem hlt⟩
   obtain⟨b,n⟩:=x
   have hr2:wr.heap[g]? =some (.cells (dM rs).toArray t (0,0)):=(HB.out.block g (Array.getElem?_eq_some_iff.1 HR.out).1).trans HR.out
   have y0:wr.cell? ⟨g,j*2,none⟩=some (.bool b):=by rw[cell_of_row _ _ _ _ _ _ hr2,List.getElem?_toArray];exact(Hm rs j _ hx).1
   have y1:wr.cell? ⟨g,j*2+1,none⟩=some (.int .i64 n):=by rw[cell_of_row _ _ _ _ _ _ hr2,List.getElem?_toArray];exact(Hm rs j _ hx).2
   have q9:(j:Int)<(rs.length:Int):=by omega
   have m1:=JH wr b n
   clear hr2
   by_cases hjm:j<m
   ·have hbf:=hlow.out j _ hjm hx
    simp only at hbf
    subst hbf
    have hw1:wrap64 ((j:Int)+1)=((j+1:Nat):Int):=by unfold wrap64;omega
    clear hx hlow hv
    go_wp2_with ((first|go_at_fn 136|go_at_call 136);refine m1.mono ?_;rintro e w1 ⟨rfl,hb⟩;have HB2:=Lib.hid (HB.out.trans (hb.mono HB.out.size));clear hb)
    refine⟨⟨j+1,by first|rfl|go_num,by omega,HB2⟩,by simp[RowKit.intOf]<;>omega⟩
   ·obtain rfl:j=m:=by omega
    obtain⟨⟨e0,he0⟩,hve⟩:=hv.out.1 hlt
    rw[hx]at he0
    cases he0
    subst hve
    clear hx hlow hv
    go_wp2_with ((first|go_at_fn 136|go_at_call 136);refine m1.mono ?_;rintro e w1 ⟨rfl,hb⟩;have HB2:=Lib.hid (HB.out.trans (hb.mono HB.out.size));clear hb)
    go_ret
    exact⟨rfl,HB2.out⟩
  ·have hje:j=rs.length:=by omega
   have hve:=hv.out.2 (by omega)
   subst hve
   have q9:¬(j:Int)<(rs.length:Int):=by omega
   clear hlow hv
   go_wp2_with fail
   go_ret
   exact⟨rfl,HB.out⟩
theorem Cg (W:World)(g cap k m:Nat)(n:Int)(_hm:m<k)(hmI:(m:Int)<(k:Int))(_hc:k<=cap)(_hl:k<=1000)
 (n1:Calls Tryz.prog 135 #[.slice (some ⟨g,0,none⟩) k cap,.func (.func 136) #[] #[]] W λe W'=>e=.returned (.int .i64 m)/\W'.cell? ⟨g,m*2+1,none⟩=some (.int .i64 n)/\Below W.heap.size W W'):
 Calls Tryz.prog 78 #[.slice (some ⟨g,0,none⟩) k cap] W λe W'=>e=.returned (.int .i64 n)/\Below W.heap.size W W':=by
 go_enter Tryz.func78,Tryz.ntmps78
 go_wp2_with fail
 refine n1.mono ?_
 rintro e w ⟨rfl,hc2,hb⟩
 have HB:=Lib.hid hb
 clear n1 hb
 go_wp2_with fail
 go_ret
 exact⟨rfl,HB.out⟩
theorem Ed (W:World)(v:Value)
 (n1:Calls Tryz.prog 135 #[v,.func (.func 136) #[] #[]] W λe W'=>e=.returned (.int .i64 (-1))/\Below W.heap.size W W'):
 Calls Tryz.prog 78 #[v] W λe W'=>e=.returned (.int .i64 0)/\Below W.heap.size W W':=by
 go_enter Tryz.func78,Tryz.ntmps78
 go_wp2_with fail
 refine n1.mono ?_
 rintro e w ⟨rfl,hb⟩
 have HB:=Lib.hid hb
 clear n1 hb
 go_wp2_with fail
 go_ret
 exact⟨rfl,HB.out⟩
theorem rC:∀rs:List (Bool×Int),∃m,m<=rs.length/\(∀(j:Nat) (x:Bool×Int),j<m->rs[j]? =some x->x.1=false)/\((m<rs.length/\∃e,rs[m]? =some (true,e)/\aY rs=e)\/(m=rs.length/\aY rs=0))
 |[]=>⟨0,Nat.le_refl _,λj x h=>by omega,.inr ⟨rfl,rfl⟩⟩
 |(b,n)::rs=>by
  cases b with
  |true=>exact⟨0,Nat.zero_le _,λj x h=>by omega,.inl ⟨by simp,n,rfl,rfl⟩⟩
  |false=>
   obtain⟨m,h1,h2,h3⟩:=rC rs
   refine⟨m+1,by simpa using h1,λj x hj hx=>?_,?_⟩
   ·cases j with
    |zero=>simp at hx;rw[<-hx]
    |succ j=>exact h2 j x (by omega) (by simpa using hx)
   ·rcases h3 with⟨h4,e,h5,h6⟩|⟨h4,h5⟩
    ·exact .inl ⟨by simpa using h4,e,by simpa using h5,by simpa[aY]using h6⟩
    ·exact .inr ⟨by simpa using h4,by simpa[aY]using h5⟩
theorem Lb (W:World)(g cap:Nat)(rs:List (Bool×Int))(t:TypeId)(hrow:W.heap[g]? =some (.cells (dM rs).toArray t (0,0)))(hc:rs.length<=cap)(hl:rs.length<=1000):
 Calls Tryz.prog 78 #[.slice (some ⟨g,0,none⟩) rs.length cap] W λe W'=>e=.returned (.int .i64 (aY rs))/\Below W.heap.size W W':=by
 obtain⟨m,h1,h2,h3⟩:=rC rs
 rcases h3 with⟨h4,e,h5,h6⟩|⟨h4,h5⟩
 ·rw[h6]
  refine Cg W g cap rs.length m e h4 (by omega) hc hl ((Ck W g cap rs t hrow hc hl m h1 (Lib.hid h2) m (Lib.hid ⟨λ_=>⟨⟨e,h5⟩,rfl⟩,λh=>by omega⟩)).mono ?_)
  rintro x w ⟨rfl,hb⟩
  have hr2:w.heap[g]? =some (.cells (dM rs).toArray t (0,0)):=(hb.block g (Array.getElem?_eq_some_iff.1 hrow).1).trans hrow
  exact⟨rfl,by rw[cell_of_row _ _ _ _ _ _ hr2,List.getElem?_toArray];exact(Hm rs m _ h5).2,hb⟩
 ·rw[h5]
  exact Ed W _ (Ck W g cap rs t hrow hc hl m h1 (Lib.hid h2) (-1) (Lib.hid ⟨λh=>by omega,λ_=>rfl⟩))
theorem ent57:∀args w,(callFunc 79 args).run Tryz.prog w=.ok (.enter 79 args) w:=enters_of Tryz.func79 (by kernel_rfl) rfl
theorem DT:∀args w,(callFunc 80 args).run Tryz.prog w=.ok (.enter 80 args) w:=enters_of Tryz.func80 (by kernel_rfl) rfl
theorem ent108:∀args w,(callFunc 141 args).run Tryz.prog w=.ok (.enter 141 args) w:=enters_of Tryz.func141 (by kernel_rfl) rfl
theorem ent101:∀args w,(callFunc 83 args).run Tryz.prog w=.ok (.enter 83 args) w:=enters_of Tryz.func83 (by kernel_rfl) rfl
theorem ent105:∀args w,(callFunc 138 args).run Tryz.prog w=.ok (.enter 138 args) w:=enters_of Tryz.func138 (by kernel_rfl) rfl
theorem ent106:∀args w,(callFunc 139 args).run Tryz.prog w=.ok (.enter 139 args) w:=enters_of Tryz.func139 (by kernel_rfl) rfl
theorem ent107:∀args w,(callFunc 140 args).run Tryz.prog w=.ok (.enter 140 args) w:=enters_of Tryz.func140 (by kernel_rfl) rfl
theorem ent109:∀args w,(callFunc 142 args).run Tryz.prog w=.ok (.enter 142 args) w:=enters_of Tryz.func142 (by kernel_rfl) rfl
theorem ent110:∀args w,(callFunc 143 args).run Tryz.prog w=.ok (.enter 143 args) w:=enters_of Tryz.func143 (by kernel_rfl) rfl
theorem ent111:∀args w,(callFunc 144 args).run Tryz.prog w=.ok (.enter 144 args) w:=enters_of Tryz.func144 (by kernel_rfl) rfl
theorem K4 (g:Nat)(Q:Ps.Req)(a:Option Addr)(n c:Nat)(w:World)(h:w.heap[g]? =some (.cells (aA Q (.slice a n c)) 37 (0,0))):(Instr.loadAt 34 (.pointer (some ⟨g,3,none⟩))).run Tryz.prog w=.ok (.agg (aB Q.ins (.slice a n c)).toArray) w:=by
 have k0:w.cell? ⟨g,3,none⟩=some (.string Q.ins.ref):=by rw[cell_of_row _ _ _ _ _ _ h];rfl
 have k1:w.cell? ⟨g,4,none⟩=some (.int .i64 Q.ins.kind):=by rw[cell_of_row _ _ _ _ _ _ h];rfl
 have k2:w.cell? ⟨g,5,none⟩=some (.string Q.ins.sender):=by rw[cell_of_row _ _ _ _ _ _ h];rfl
 have k3:w.cell? ⟨g,6,none⟩=some (.string Q.ins.counterparty):=by rw[cell_of_row _ _ _ _ _ _ h];rfl
 have k4:w.cell? ⟨g,7,none⟩=some (.int .i64 Q.ins.side):=by rw[cell_of_row _ _ _ _ _ _ h];rfl
 have k5:w.cell? ⟨g,8,none⟩=some (.string Q.ins.asset):=by rw[cell_of_row _ _ _ _ _ _ h];rfl
 have k6:w.cell? ⟨g,9,none⟩=some (.int .i64 Q.ins.quantity):=by rw[cell_of_row _ _ _ _ _ _ h];rfl
 have k7:w.cell? ⟨g,10,none⟩=some (.int .i64 Q.ins.amount):=by rw[cell_of_row _ _ _ _ _ _ h];rfl
 have k8:w.cell? ⟨g,11,none⟩=some (.int .i64 Q.ins.tradeDay):=by rw[cell_of_row _ _ _ _ _ _ h];rfl
 have k9:w.cell? ⟨g,12,none⟩=some (.int .i64 Q.ins.settleDay):=by rw[cell_of_row _ _ _ _ _ _ h];rfl
 have k10:w.cell? ⟨g,13,none⟩=some (.int .i64 Q.ins.priority):=by rw[cell_of_row _ _ _ _ _ _ h];rfl
 have k11:w.cell? ⟨g,14,none⟩=some (.bool Q.ins.partial_):=by rw[cell_of_row _ _ _ _ _ _ h];rfl
 have k12:w.cell? ⟨g,15,none⟩=some (.int .i64 Q.ins.minLot):=by rw[cell_of_row _ _ _ _ _ _ h];rfl
 have k13:w.cell? ⟨g,16,none⟩=some (.bool Q.ins.hold):=by rw[cell_of_row _ _ _ _ _ _ h];rfl
 have k14:w.cell? ⟨g,17,none⟩=some (.bool Q.ins.reserve):=by rw[cell_of_row _ _ _ _ _ _ h];rfl
 have k15:w.cell? ⟨g,18,none⟩=some (.slice a n c):=by rw[cell_of_row _ _ _ _ _ _ h];rfl
 clear h
 go_simp
 rfl
theorem rq_amd (g:Nat)(Q:Ps.Req)(lv:Value)(w:World)(h:w.heap[g]? =some (.cells (aA Q lv) 37 (0,0))):(Instr.loadAt 35 (.pointer (some ⟨g,19,none⟩))).run Tryz.prog w=.ok (.agg (aG Q.amd).toArray) w:=by
 have k0:w.cell? ⟨g,19,none⟩=some (.bool Q.amd.hasAmount):=by rw[cell_of_row _ _ _ _ _ _ h];rfl
 have k1:w.cell? ⟨g,20,none⟩=some (.bool Q.amd.hasSettleDay):=by rw[cell_of_row _ _ _ _ _ _ h];rfl
 have k2:w.cell? ⟨g,21,none⟩=some (.bool Q.amd.hasPriority):=by rw[cell_of_row _ _ _ _ _ _ h];rfl
 have k3:w.cell? ⟨g,22,none⟩=some (.bool Q.amd.hasPartial):=by rw[cell_of_row _ _ _ _ _ _ h];rfl
 have k4:w.cell? ⟨g,23,none⟩=some (.int .i64 Q.amd.amount):=by rw[cell_of_row _ _ _ _ _ _ h];rfl
 have k5:w.cell? ⟨g,24,none⟩=some (.int .i64 Q.amd.settleDay):=by rw[cell_of_row _ _ _ _ _ _ h];rfl
 have k6:w.cell? ⟨g,25,none⟩=some (.int .i64 Q.amd.priority):=by rw[cell_of_row _ _ _ _ _ _ h];rfl
 have k7:w.cell? ⟨g,26,none⟩=some (.bool Q.amd.partial_):=by rw[cell_of_row _ _ _ _ _ _ h];rfl
 have k8:w.cell? ⟨g,27,none⟩=some (.int .i64 Q.amd.minLot):=by rw[cell_of_row _ _ _ _ _ _ h];rfl
 clear h
 go_simp
 rfl
theorem bd27 (ρ:Operand->Value)(w:World):(Instr.build 35 ((#[]:Array (Nat×Operand)).map λ(i,x)=>(i,ρ x))).run Tryz.prog w=.ok (.agg (aG {}).toArray) w:=by
 go_simp
 rfl
theorem bd25 (ρ:Operand->Value)(w:World):(Instr.build 34 ((#[]:Array (Nat×Operand)).map λ(i,x)=>(i,ρ x))).run Tryz.prog w=.ok (.agg (aB {} (.slice none 0 0)).toArray) w:=by
 go_simp
 rfl
theorem ne27 (A:Ps.Amd)(x y:Operand)(w:World):(do eqGuard .neq 35 x y (.agg (aG A).toArray) (.agg (aG {}).toArray);binOp .neq 35 (.agg (aG A).toArray) (.agg (aG {}).toArray):Sem Value).run Tryz.prog w=.ok (.bool (!decide A.none)) w:=by
 unfold aG
 go_simp
 repeat' split
 all_goals simp_all [Ps.Amd.none]
theorem NS {dr:Bool}{ops:Array Oper}{id:Nat}{a:Act}{w W0:World}{Q:Exit->Act->World->Prop}(n:Nat)(vs:List Value)(hvl:vs.length=n)(hd:eZ ops=true)(hs:Region.noSelect ops=true)(hb:bL ops a.tmps.size=true)(ht:rQ ops n=true)(hS:Below W0.heap.size W0 w)
 (hY:∀ρ:Operand->Value,bX ρ (ops.toList.take n) vs->(∀t:Nat,(∀o:Oper,o∈ops.toList->o.dst≠some t)->ρ (.tmp t)=a.eval (.tmp t))->(∀v,ρ (.const v)=v)->(∀f,ρ (.func f)=.func (.func f) #[] #[])->jc Tryz.prog (Below W0.heap.size W0) ρ vs (ops.toList.take n) vs)
 (rs:List (Bool×Int)) (hrs:rs.length<=1000) {x1 x2 x3:Oper} {k d1 d2 d3:Nat} {parts:Array (Nat×Operand)} {ts:Array TypeId} (hsz:ops.size=n+3)
 (h1:ops[n]? =some x1) (h1o:x1.op=.buildSlice 172 k parts) (h1d:x1.dst=some d1) (h1g:x1.guard=none)
 (h2:ops[n+1]? =some x2) (h2o:x2.op=.call {callee:=.value (.func 78),args:=#[.tmp d1],argTypes:=ts}) (Ic:x2.dst=some d2) (h2g:x2.guard=none)
 (h3:ops[n+2]? =some x3) (h3o:x3.op=.assign (.tmp d2)) (Ry:x3.dst=some d3) (h3g:x3.guard=none) (hlt:d1<a.tmps.size/\d2<a.tmps.size/\d3<a.tmps.size)
 (t:TypeId) (hbuild:∀ρ:Operand->Value,bX ρ (ops.toList.take n) vs->∀w:World,(Instr.buildSlice 172 k (parts.map λ(i,x)=>(i,ρ x))).run Tryz.prog w=.ok (.slice (some ⟨w.heap.size,0,none⟩) rs.length rs.length) (w.alloc (.cells (dM rs).toArray t)))
 (hend:∀(b:Act) (w':World),Below W0.heap.size W0 w'->b.defers=a.defers->b.tmps.size=a.tmps.size->b.tmps[d3]? =some (.int .i64 (aY rs))->(∀t:Nat,(∀o:Oper,o∈ops.toList->o.dst≠some t)->b.tmps[t]? =a.tmps[t]?)->Q .normal b w'):
 (Code.region id ops dr).wp Tryz.prog Q a w:=by
 suffices key:∀(b:Act) (w1:World),Below W0.heap.size W0 w1->b.defers=a.defers->b.tmps.size=a.tmps.size->bX b.eval (ops.toList.take n) vs->(∀t:Nat,(∀o:Oper,o∈ops.toList->o.dst≠some t)->b.tmps[t]? =a.tmps[t]?)->wpOps Tryz.prog ops Q (List.range' n (ops.size-n)) b w1 by
  cases dr
  ·exact iJ (Below W0.heap.size W0) n vs hvl (by omega) hd hs hb hS hY key
  ·exact vC (Below W0.heap.size W0) n vs hvl (by omega) rfl hd hs hb ht hS.drew hY key
 intro b w1 hS1 hbd hbs hD hrest
 rw[show List.range' n (ops.size-n)=[n,n+1,n+2]from by rw[hsz,show n+3-n=3 from by omega];rfl]
 refine jy h1 h1g ?_
 unfold Oper.wp execOp
 rw[h1o]
 simp only[Sem.run_bind,hbuild b.eval hD w1,Result.andThen_ok]
 show wpOps _ ops Q _ (b.put x1.dst _) _
 refine jy h2 h2g ?_
 have hrow:(w1.alloc (.cells (dM rs).toArray t)).heap[w1.heap.size]? =some (.cells (dM rs).toArray t (0,0)):=by unfold World.alloc;simp
 have hS2:Below W0.heap.size W0 (w1.alloc (.cells (dM rs).toArray t)):=hS1.alloc hS1.size _
 obtain⟨w2,hw2⟩:∃w2,w2=w1.alloc (.cells (dM rs).toArray t):=⟨_,rfl⟩
 rw[<-hw2]at hrow hS2⊢
 have hc:=Lb w2 w1.heap.size rs.length rs t hrow (Nat.le_refl _) hrs
 have hargs:(#[Operand.tmp d1]:Array Operand).map (b.put x1.dst (.slice (some ⟨w1.heap.size,0,none⟩) rs.length rs.length)).eval=#[.slice (some ⟨w1.heap.size,0,none⟩) rs.length rs.length]:=by
  rw[h1d]
  simp only[List.map_toArray,List.map_cons,List.map_nil]
  rw[eval_put (by omega)]
 have hf:(b.put x1.dst (.slice (some ⟨w1.heap.size,0,none⟩) rs.length rs.length)).eval (Operand.func 78)=.func (.func 78) #[] #[]:=rfl
 unfold Oper.wp
 simp[execOp,h2o,resolve,invoke,hf,hargs,Deferred.ofValue]
 rw[Oper.upon_enter]
 refine hc.mono ?_
 rintro e w3 ⟨rfl,hb3⟩
 refine jy h3 h3g ?_
 unfold Oper.wp execOp
 rw[h3o]
 show wpOps _ ops Q _ (Act.put _ x3.dst _) _
 rw[h1d,Ic,Ry,eval_put (by simp[Act.put];omega)]
 refine hend _ _ (hS2.trans (hb3.mono hS2.size)) hbd ?_ ?_ ?_
 ·simp[Act.put,hbs]
 ·simp[Act.put,hbs,hlt.2.2]
 ·intro t ht
  have n1:d1≠t:=λh=>ht x1 (by simpa using Array.mem_of_getElem? h1) (by rw[h1d,h])
  have n2:d2≠t:=λh=>ht x2 (by simpa using Array.mem_of_getElem? h2) (by rw[Ic,h])
  have n3:d3≠t:=λh=>ht x3 (by simpa using Array.mem_of_getElem? h3) (by rw[Ry,h])
  rw[<-hrest t ht]
  simp[Act.put,n1,n2,n3]
def jD (w:World)(g:Nat)(ks:List Ps.Link):Prop:=∀(j:Nat) (x:Ps.Link),ks[j]? =some x->w.cell? ⟨g,j*2,none⟩=some (.int .i64 x.type)/\w.cell? ⟨g,j*2+1,none⟩=some (.string x.ref)
theorem jD.below {w w':World}{g:Nat}{ks:List Ps.Link}(h:jD w g ks)(hb:Below w.heap.size w w'):jD w' g ks:=λj x hj=>by
 obtain⟨h1,h2⟩:=h j x hj
 exact⟨(hb.cell (World.block_lt_of_cell? w _ h1)).trans h1,(hb.cell (World.block_lt_of_cell? w _ h2)).trans h2⟩
theorem O0 (w:World)(ty:Int)(s r:ByteArray)(h:Nat)(hc:w.cell? ⟨h,1,none⟩=some (.string r)):
 Calls Tryz.prog 145 #[.agg #[.int .i64 ty,.string s],.pointer (some ⟨h,0,none⟩)] w λe w'=>e=.returned (.bool (s.toList==r.toList))/\Below w.heap.size w w':=by
 have hlt:=World.block_lt_of_cell? w _ hc
 have hne:¬h=w.heap.size:=by simp at hlt;omega
 have k1:(w.alloc (.cells #[.int .i64 ty,.string s] 129)).cell? ⟨h,1,none⟩=some (.string r):=((((Below.refl _ _).alloc (Nat.le_refl _) _:Below w.heap.size w _)).cell hlt).trans hc
 go_enter Tryz.func145,Tryz.ntmps145
 go_wp2_with fail
 go_ret
 exact⟨rfl,(Below.refl _ _).alloc (Nat.le_refl _) _⟩
theorem Cs (W:World)(g h cap n:Nat)(ks:List Ps.Link)(r:ByteArray)(hrow:jD W g ks)(hn:n<=ks.length)(_hc:n<=cap)(hl:n<=1000)(hr:W.cell? ⟨h,1,none⟩=some (.string r))(m:Nat)(hm:m<=n)(hlow:Hid (∀j x,j<m->ks[j]? =some x->(x.ref.toList==r.toList)=false))
 (v:Int) (hv:Hid ((m<n->(∃x,ks[m]? =some x/\(x.ref.toList==r.toList)=true)/\v=(m:Int))/\(m=n->v= -1))):
 Calls Tryz.prog 206 #[.slice (some ⟨g,0,none⟩) n cap,.func (.func 145) #[] #[.pointer (some ⟨h,0,none⟩)]] W λe W'=>e=.returned (.int .i64 v)/\Below W.heap.size W W':=by
 have eg:=enters_of Tryz.func145 (by kernel_rfl) rfl
 have HR:=Lib.hid hrow
 have HC:=Lib.hid hr
 clear hrow hr
 go_enter Tryz.func206,Tryz.ntmps206
 go_wp2_with fail
 go_loopw [5,8] (λ_ iv wr=>∃j:Nat,iv=.int .i64 j/\j<=m/\Hid (Below W.heap.size W wr)) (λ_ iv _=>2000-(RowKit.intOf iv).toNat)
 case atStart=>exact⟨0,rfl,Nat.zero_le _,Lib.hid (Below.refl _ _)⟩
 case round=>
  obtain⟨j,rfl,hj,HB⟩:=hrel
  by_cases hlt:j<n
  ·obtain⟨x,hx⟩:∃x,ks[j]? =some x:=⟨_,List.getElem?_eq_getElem (by omega)⟩
   obtain⟨y0,y1⟩:=(HR.out.below HB.out) j x hx
   have q9:(j:Int)<(n:Int):=by omega
   have m1:=O0 wr x.type x.ref r h ((HB.out.cell (World.block_lt_of_cell? W _ HC.out)).trans HC.out)
   by_cases hjm:j<m
   ·have hbf:=hlow.out j _ hjm hx
    rw[hbf]at m1
    have hw1:wrap64 ((j:Int)+1)=((j+1:Nat):Int):=by unfold wrap64;omega
    clear hx hlow hv hbf
    go_wp2_with ((first|go_at_fn 145|go_at_call 145);refine m1.mono ?_;rintro e w1 ⟨rfl,hb⟩;have HB2:=Lib.hid (HB.out.trans (hb.mono HB.out.size));clear hb)
    refine⟨⟨j+1,by first|rfl|go_num,by omega,HB2⟩,by simp[RowKit.intOf]<;>omega⟩
   ·obtain rfl:j=m:=by omega
    obtain⟨⟨x0,hx0,hbt⟩,hve⟩:=hv.out.1 hlt
    rw[hx]at hx0
    cases hx0
    rw[hbt]at m1
    subst hve
    clear hx hlow hv hbt
    go_wp2_with ((first|go_at_fn 145|go_at_call 145);refine m1.mono ?_;rintro e w1 ⟨rfl,hb⟩;have HB2:=Lib.hid (HB.out.trans (hb.mono HB.out.size));clear hb)
    go_ret
    exact⟨rfl,HB2.out⟩
  ·have hje:j=n:=by omega
   have hve:=hv.out.2 (by omega)
   subst hve
   have q9:¬(j:Int)<(n:Int):=by omega
   clear hlow hv
   go_wp2_with fail
   go_ret
   exact⟨rfl,HB.out⟩
def jB (ks:List Ps.Link)(r:ByteArray):Bool:=ks.any λy=>y.ref.toList==r.toList
theorem qK:∀(ks:List Ps.Link) (r:ByteArray),∃m,m<=ks.length/\(∀(j:Nat) (x:Ps.Link),j<m->ks[j]? =some x->(x.ref.toList==r.toList)=false)/\((m<ks.length/\(∃x,ks[m]? =some x/\(x.ref.toList==r.toList)=true)/\jB ks r=true)\/(m=ks.length/\jB ks r=false))
 |[],r=>⟨0,Nat.le_refl _,λj x h=>by omega,.inr ⟨rfl,rfl⟩⟩
 |y::ks,r=>by
  cases hb:(y.ref.toList==r.toList)with
  |true=>exact⟨0,Nat.zero_le _,λj x h=>by omega,.inl ⟨by simp,⟨y,rfl,hb⟩,by unfold jB;rw[List.any_cons,hb];rfl⟩⟩
  |false=>
   obtain⟨m,h1,h2,h3⟩:=qK ks r
   have he:jB (y::ks) r=jB ks r:=by unfold jB;rw[List.any_cons,hb];rfl
   refine⟨m+1,by simpa using h1,λj x hj hx=>?_,?_⟩
   ·cases j with
    |zero=>simp at hx;rw[<-hx];exact hb
    |succ j=>exact h2 j x (by omega) (by simpa using hx)
   ·rw[he]
    rcases h3 with⟨h4,⟨x,h5,h6⟩,h7⟩|⟨h4,h5⟩
    ·exact .inl ⟨by simpa using h4,⟨x,by simpa using h5,h6⟩,h7⟩
    ·exact .inr ⟨by simpa using h4,h5⟩
theorem qG (W:World)(a b:Value)(v:Int)(c:Bool)(hc:decide (0<=v)=c)
 (n1:Calls Tryz.prog 206 #[a,b] W λe W'=>e=.returned (.int .i64 v)/\Below W.heap.size W W'):
 Calls Tryz.prog 144 #[a,b] W λe W'=>e=.returned (.bool c)/\Below W.heap.size W W':=by
 go_enter Tryz.func144,Tryz.ntmps144
 go_wp2_with fail
 refine n1.mono ?_
 rintro e w ⟨rfl,hb⟩
 have HB:=Lib.hid hb
 clear n1 hb
 go_wp2_with fail
 go_ret
 exact⟨by simp[<-hc],HB.out⟩
theorem Bg (W:World)(g h cap:Nat)(ks:List Ps.Link)(r:ByteArray)(k:Nat)(hrow:jD W g ks)(hk:k<=ks.length)(hc:k<=cap)(hl:k<=1000)(hr:W.cell? ⟨h,1,none⟩=some (.string r)):
 Calls Tryz.prog 144 #[.slice (some ⟨g,0,none⟩) k cap,.func (.func 145) #[] #[.pointer (some ⟨h,0,none⟩)]] W λe W'=>e=.returned (.bool (jB (ks.take k) r))/\Below W.heap.size W W':=by
 obtain⟨m,h1,h2,h3⟩:=qK (ks.take k) r
 have hlen:(ks.take k).length=k:=by rw[List.length_take];omega
 rw[hlen]at h1 h3
 have hlow:∀j x,j<m->ks[j]? =some x->(x.ref.toList==r.toList)=false:=λj x hj hx=>h2 j x hj (by rw[List.getElem?_take,if_pos (by omega)];exact hx)
 rcases h3 with⟨h4,⟨x,h5,h6⟩,h7⟩|⟨h4,h5⟩
 ·rw[h7]
  have h5':ks[m]? =some x:=by rw[List.getElem?_take,if_pos h4]at h5;exact h5
  exact qG W _ _ (m:Int) true (by simp) (Cs W g h cap k ks r hrow hk hc hl hr m h1 (Lib.hid hlow) m (Lib.hid ⟨λ_=>⟨⟨x,h5',h6⟩,rfl⟩,λh=>by omega⟩))
 ·rw[h5]
  exact qG W _ _ (-1) false (by decide) (Cs W g h cap k ks r hrow hk hc hl hr m h1 (Lib.hid hlow) (-1) (Lib.hid ⟨λh=>by omega,λ_=>rfl⟩))
end Go.Proofs.YtnjjeapcalkmaaaGreatDoor
namespace Go.Proofs.YtnjjeapcalkmaaaGreatDoor.Ev
open Go Go.RowKit Go.Proofs.YtnjjeapcalkmaaaGreatDoor Go.Proofs.YtnjjeapcalkmaaaGreatDoor.Ord
variable {σ : Type}
def wZ (rs:List (Ent σ)):List (Nat×Operand)->Option (List (Nat×AV))
 |[]=>some []
 |(i,.tmp t)::l=>match find t rs 0,wZ rs l with
  |some (_,e),some vs=>(match e.cond with
   |none=>some ((i,e.val)::vs)
   |some _=>none)
  |_,_=>none
 |_=>none
theorem Jw {M:Mem σ}{ρ:Operand->Value}{full:List (Ent σ)}(hR:∀(i:Nat) (e:Ent σ) (d:Nat),full[i]? =some e->e.dst=some d->ρ (.tmp d)=e.value M):∀{l:List (Nat×Operand)} {vs:List (Nat×AV)},wZ full l=some vs->l.map (λp=>(p.1,ρ p.2))=vs.map λp=>(p.1,p.2.val M):=by
 intro l
 induction l with
 |nil=>intro vs h;cases h;rfl
 |cons p l ih=>
  obtain⟨i,x⟩:=p
  intro vs h
  cases x with
  |tmp t=>
   unfold wZ at h
   split at h
   ·rename_i j e v2 h1 h2
    split at h
    ·rename_i hc
     cases h
     obtain⟨-,k1,k2⟩:=iG h1
     rw[List.map_cons,List.map_cons,ih h2,hR _ _ _ k1 k2]
     unfold Ent.value
     rw[hc]
    ·cases h
   ·cases h
  |_=>cases h
theorem Np (ρ:Operand->Value)(x y:Operand)(b:Bool)(n:Int)(hx:ρ x=.bool b)(hy:ρ y=.int .i64 n)(w:World):(Instr.build 128 (#[(0,x),(1,y)].map λ(i,x)=>(i,ρ x))).run Tryz.prog w=.ok (.agg #[.bool b,.int .i64 n]) w:=by
 simp only[List.map_toArray,List.map_cons,List.map_nil,hx,hy]
 go_simp
def qo (M:AV->Value)(o:Oper)(ov:Operand->Option AV):Option AV:=match o.op with
 | .build t ps=>if t=128 then(match ps.toList with
   |[(0,x),(1,y)]=>(match ov x,ov y with
    |some a,some c=>(match M a,M c with
     | .bool b,.int .i64 n=>some (.v (.agg #[.bool b,.int .i64 n]))
     |_,_=>none)
    |_,_=>none)
   |_=>none)else none
 |_=>none
theorem pF {M:AV->Value}{o:Oper}{ov:Operand->Option AV}{v:AV}(h:qo M o ov=some v){ρ:Operand->Value}(hov:∀x u,ov x=some u->ρ x=M u)(hM:∀x,M (.v x)=x)(w:World):(execOp ρ o).run Tryz.prog w=.ok (.value (M v)) w:=by
 unfold qo at h
 split at h
 ·rename_i t ps ho
  split at h
  ·rename_i ht
   subst ht
   split at h
   ·rename_i x y hps
    split at h
    ·rename_i a c ha hc
     split at h
     ·rename_i b n hb hn
      cases h
      have Kz:ps=#[(0,x),(1,y)]:=by rw[<-Array.toArray_toList (xs:=ps),hps]
      subst Kz
      have:=Np ρ x y b n ((hov _ _ ha).trans hb) ((hov _ _ hc).trans hn) w
      unfold execOp
      simp only[ho,Sem.run_bind,this,Result.andThen_ok,hM]
      rfl
     ·cases h
    ·cases h
   ·cases h
  ·cases h
 ·cases h
theorem DZ (W:World)(rs:List (Bool×Int))(P:Array (Nat×Value))(h24:¬(rs.length*2>2^24))(hne:¬(rs.length*2=0))(jk:Instr.fill (λi=>some (i*2,2)) ((Array.range (rs.length*2)).map (λx=>([.bool false,.int .i64 0]:List Value)[x%2]?.getD default)) P.toList=some (dM rs).toArray):
 (Instr.buildSlice 172 rs.length P).run Tryz.prog W=.ok (.slice (some ⟨W.heap.size,0,none⟩) rs.length rs.length) (W.alloc (.cells (dM rs).toArray 128)):=by
 unfold Instr.buildSlice
 go_simp
def uY (m n:Nat)(ops:Array Oper):Bool:=eZ ops&&Region.noSelect ops&&bL ops m&&rQ ops n&&ops.size==n+3
def nH (ops:Array Oper)(n:Nat):Option (Nat×List (Nat×Operand)×Nat×Nat×Nat):=match (ops.toList.drop n)with
 |[⟨some d1,.buildSlice t k ps,_,_,_,none⟩,⟨some d2,.call ⟨.value (.func f),xs,_⟩,_,_,_,none⟩,⟨some d3,.assign (.tmp e2),_,_,_,none⟩]=>if t=172/\f=78/\e2=d2/\xs.toList.length=1 then(match xs.toList with
    |[.tmp e1]=>if e1=d1 then some (k,ps.toList,d1,d2,d3)else none
    |_=>none)else none
 |_=>none
theorem KR {dr:Bool}{W0 w:World}{id m n:Nat}{ops:Array Oper}{M:Mem Unit}{K:List (Nat×AV)}{full:List (Ent Unit)}{a:Act}{Q:Exit->Act->World->Prop}{k d1 d2 d3:Nat}{ps:List (Nat×Operand)}{pv:List (Nat×AV)}(rs:List (Bool×Int))(hO:Ok Tryz.prog (λ_ W=>Below W0.heap.size W0 W) M)(hok:uY m n ops=true)(hrun:run M (keep K ops) [] () (ops.toList.take n)=some full)(hturn:full.all (λe=>!e.turn)=true)(hF:Fr M m K a)(hS:Below W0.heap.size W0 w)
 (hr0:0<rs.length) (hrs:rs.length<=1000) (he:nH ops n=some (k,ps,d1,d2,d3)) (hp:wZ full ps=some pv) (hk:k=rs.length) (jk:Instr.fill (λi=>some (i*2,2)) ((Array.range (k*2)).map (λx=>([.bool false,.int .i64 0]:List Value)[x%2]?.getD default)) (pv.map λp=>(p.1,p.2.val M))=some (dM rs).toArray)
 (hend:∀(b:Act) (w':World),Below W0.heap.size W0 w'->Fr M m ((d3,.v (.int .i64 (aY rs)))::keep K ops) b->Q .normal b w'):(Code.region id ops dr).wp Tryz.prog Q a w:=by
 unfold uY at hok
 simp only[Bool.and_eq_true,beq_iff_eq]at hok
 obtain⟨⟨⟨⟨hd,hs⟩,hb⟩,ht⟩,hsz⟩:=hok
 obtain⟨tl,e1,e2⟩:=dY hrun
 have hI:=uk uh hrun
 have hlen:full.length=n:=by rw[e1];simp[e2];omega
 unfold nH at he
 split at he
 ·rename_i d1' t k' ps' _ _ _ d2' f xs _ _ _ _ d3' e2' _ _ _ hdrop
  split at he
  ·rename_i hc
   obtain⟨rfl,rfl,rfl,-⟩:=hc
   split at he
   ·rename_i e1' hxs
    split at he
    ·rename_i hc1
     subst hc1
     cases he
     have hxs2:xs=#[.tmp d1]:=by rw[<-Array.toArray_toList (xs:=xs),hxs]
     subst hxs2
     have g1:∀i,ops[n+i]? =(ops.toList.drop n)[i]?:=λi=>by simp
     have h1:=g1 0
     have h2:=g1 1
     have h3:=g1 2
     rw[hdrop]at h1 h2 h3
     have hlt:∀(i:Nat) (o:Oper) (d:Nat),ops[i]? =some o->o.dst=some d->d<a.tmps.size:=λi o d ho hod=>by
      simp only[bL,Bool.and_eq_true]at hb
      have:=List.all_eq_true.1 hb.1 o (by simpa using Array.mem_of_getElem? ho)
      rw[hod]at this
      rw[hF.size]
      simpa using this
     refine NS (W0:=W0) n (full.map (Ent.value M)) (by rw[List.length_map,hlen]) hd hs (by rw[hF.size];exact hb) ht hS ?_ rs hrs hsz (by simpa using h1) rfl rfl rfl h2 rfl rfl rfl h3 rfl rfl rfl ⟨hlt _ _ _ h1 rfl,hlt _ _ _ h2 rfl,hlt _ _ _ h3 rfl⟩ 128 ?_ ?_
     ·intro ρ hD hrest hco hfu
      have:=Nj hO (ER hF hrun hD hrest hco hfu) hI (λe he=>by have:=List.all_eq_true.1 hturn e he;simpa using this) () hrun
      simpa using this
     ·intro ρ hD W
      have hparts:(ps'.map λ(i,x)=>(i,ρ x)).toList=pv.map λp=>(p.1,p.2.val M):=by
       rw[<-Jw (M:=M) (ρ:=ρ) (full:=full) (λi e d hi hd=>by
        have hil:i<(ops.toList.take n).length:=by
         have h7:=(List.getElem?_eq_some_iff.1 hi).1
         rw[e1]at h7
         simp only[List.nil_append,e2]at h7
         exact h7
        obtain⟨o,ho⟩:∃o,(ops.toList.take n)[i]? =some o:=⟨_,List.getElem?_eq_getElem hil⟩
        obtain⟨e5,k1,k2⟩:=uo hrun i o ho
        have:e5=e:=by
         have k3:full[i]? =some e5:=by simpa using k1
         exact Option.some.inj (k3.symm.trans hi)
        subst this
        exact bX.tmp i o (e5.value M) d hD ho (by rw[List.getElem?_map,hi];rfl) (k2.symm.trans hd)) hp]
       rw[Array.toList_map]
      rw[<-hparts]at jk
      generalize (ps'.map λ(i,x)=>(i,ρ x))=P at jk⊢
      clear hend hD hparts hp
      rw[hk]at jk⊢
      have h24:¬(rs.length*2>2^24):=by rw[show(2:Nat)^24=16777216 from by decide];omega
      have hne:¬(rs.length*2=0):=by omega
      exact DZ W rs P h24 hne jk
     ·intro b w' hB hbd hbs h3 hrest
      exact hend b w' hB ⟨hbs.trans hF.size,hbd.trans hF.defers,λt u hl=>by
       unfold Ev.look at hl
       split at hl
       ·rename_i e;subst e;cases hl;exact h3
       ·obtain⟨j1,j2⟩:=iB hl
        rw[hrest t j2]
        exact hF.look t u j1⟩
    ·cases he
   ·cases he
  ·cases he
 ·cases he
def Eh (M:Mem Unit)(K:List (Nat×AV))(n:Nat)(ops:Array Oper):Option (Array Value):=match run M K [] () (ops.toList.take n),nH ops n with
 |some full,some (k,ps,_)=>if full.all (λe=>!e.turn)=true then(match wZ full ps with
  |some pv=>Instr.fill (λi=>some (i*2,2)) ((Array.range (k*2)).map (λx=>([.bool false,.int .i64 0]:List Value)[x%2]?.getD default)) (pv.map λp=>(p.1,p.2.val M))
  |none=>none)else none
 |_,_=>none
theorem ni {dr:Bool}{W0 w:World}{id m:Nat}{ops:Array Oper}{M:Mem Unit}{K:List (Nat×AV)}{a:Act}{Q:Exit->Act->World->Prop}(n d3:Nat)(rs:List (Bool×Int))(hO:Ok Tryz.prog (λ_ W=>Below W0.heap.size W0 W) M)(hok:uY m n ops=true)(hF:Fr M m K a)(hS:Below W0.heap.size W0 w)
 (hr0:0<rs.length) (hrs:rs.length<=1000) (hk:(nH ops n).map (λe=>(e.1,e.2.2.2.2))=some (rs.length,d3)) (jk:Eh M (keep K ops) n ops=some (dM rs).toArray)
 (hend:∀(b:Act) (w':World),Below W0.heap.size W0 w'->Fr M m ((d3,.v (.int .i64 (aY rs)))::keep K ops) b->Q .normal b w'):(Code.region id ops dr).wp Tryz.prog Q a w:=by
 unfold Eh at jk
 split at jk
 ·rename_i full k ps dd hrun he
  obtain⟨d1,d2,d3'⟩:=dd
  split at jk
  ·rename_i ht
   split at jk
   ·rename_i pv hp
    rw[he]at hk
    have hk2:(k,d3')=(rs.length,d3):=by simpa using hk
    obtain⟨rfl,rfl⟩:=Prod.mk.inj hk2
    exact KR rs hO hok hrun ht hF hS hr0 hrs he hp rfl jk hend
   ·cases jk
  ·cases jk
 ·cases jk
def uz:List Value->Option (List (Bool×Int))
 |[]=>some []
 | .bool b::.int .i64 n::l=>(match uz l with
   |some rs=>some ((b,n)::rs)
   |none=>none)
 |_=>none
theorem wD:∀{l:List Value} {rs:List (Bool×Int)},uz l=some rs->l=dM rs
 |[],rs,h=>by cases h;rfl
 | .bool b::.int .i64 n::l,rs,h=>by
   unfold uz at h
   split at h
   ·rename_i rs2 h2
    cases h
    rw[wD h2]
    rfl
   ·cases h
def jG (M:Mem Unit)(s:Unit)(K:List (Nat×AV))(ops:Array Oper)(_dr:Bool):Option (Unit×List (Nat×AV)):=if rQ ops (ops.size-3)=true/\3<=ops.size then(match Eh M (keep K ops) (ops.size-3) ops,nH ops (ops.size-3)with
    |some c,some (k,_,_,_,d3)=>(match uz c.toList with
     |some rs=>if k=rs.length/\0<k/\k<=1000 then some (s,[(d3,.v (.int .i64 (aY rs)))])else none
     |none=>none)
    |_,_=>none)else none
theorem Ef {W0:World}{M:Mem Unit}(hO:Ok Tryz.prog (λ_ W=>Below W0.heap.size W0 W) M):uE (λ_ W=>Below W0.heap.size W0 W) {M with reg:=jG M}:=by
 intro s K ops dr s' nw h n id a w Q hok hF hS hend
 have h2:jG M s K ops dr=some (s',nw):=h
 unfold jG at h2
 split at h2
 ·rename_i ht
  split at h2
  ·rename_i c k ps d1 d2 d3 hf he
   split at h2
   ·rename_i rs hrs
    split at h2
    ·rename_i hk
     obtain⟨rfl,hk2,hk3⟩:=hk
     cases h2
     unfold gq at hok
     simp only[Bool.and_eq_true]at hok
     refine ni (W0:=W0) (M:=M) (m:=n) (ops.size-3) d3 rs hO (by unfold uY;simp only[Bool.and_eq_true,beq_iff_eq];exact⟨⟨⟨hok.1,hok.2⟩,ht.1⟩,by omega⟩) ⟨hF.size,hF.defers,hF.look⟩ hS hk2 hk3 (by rw[he];rfl) (by rw[hf,<-wD hrs]) λb w' hB hb=>hend b w' ⟨hb.size,hb.defers,hb.look⟩ hB
    ·cases h2
   ·cases h2
  ·cases h2
 ·cases h2
theorem Kl {W0:World}{M:Mem Unit}{n:Nat}{code:Code}{K:List (Nat×AV)}{v:Int}{Q:Exit->Act->World->Prop}{a:Act}{w:World}(r:Nat)(hO:Ok Tryz.prog (λ_ W=>Below W0.heap.size W0 W) M)(h:(ex {M with reg:=jG M} n code K ()).int {M with reg:=jG M} r 0=some v)(hl:((ex {M with reg:=jG M} n code K ()).stops [] []).map (tZ [])=[])(hF:Fr M n K a)(hS:Below W0.heap.size W0 w)
 (hq:∀a w,a.defers=[]->a.tmps[r]? =some (.int .i64 v)->Below W0.heap.size W0 w->Q .ret a w):code.wp Tryz.prog Q a w:=by
 have hO2:Ok Tryz.prog (λ_ W=>Below W0.heap.size W0 W) {M with reg:=jG M}:=⟨hO.offs,hO.load,hO.store,hO.call,hO.other⟩
 refine vJ (M:={M with reg:=jG M}) (s:=()) hO2 (Ef hO) (λ_ _ h=>h.drew) (zW (M:={M with reg:=jG M}) (ts:=[]) (cs:=[]) (hv:=0) h (λc hc=>by cases hc) (λa w _ h1 h2 h3=>hq a w h1 h2 h3) λhe x hx hc a w hst hs=>?_) ⟨hF.size,hF.defers,hF.look⟩ hS
 have hm:tZ [] x∈([]:List _):=by rw[<-hl];exact List.mem_map_of_mem hx
 cases hm
end Go.Proofs.YtnjjeapcalkmaaaGreatDoor.Ev
namespace Go.Proofs.YtnjjeapcalkmaaaGreatDoor
open Go.RowKit
open Go.Proofs.YtnjjeapcalkmaaaGreatDoor.Ord
def pR (w:World)(g:Nat)(i:Ps.Ins)(lv:Value):Prop:=w.heap[g]? =some (.cells (aB i lv).toArray 34 (0,0))
theorem pR.at {w:World}{g:Nat}{i:Ps.Ins}{lv:Value}(h:pR w g i lv)(j:Nat)(v:Value)(hj:(aB i lv)[j]? =some v):w.cell? ⟨g,j,none⟩=some v:=by
 rw[cell_of_row _ _ _ _ _ _ h,List.getElem?_toArray,hj]
theorem lI (w:World)(i:Ps.Ins)(lv:Value):pR (w.alloc (.cells (aB i lv).toArray 34)) w.heap.size i lv:=aD w _
theorem is_col (w:World)(i:Ps.Ins)(lv:Value)(c1 c2:Bool)(h1:(i.kind==3)=c1)(h2:(i.kind==4)=c2):
 Calls Tryz.prog 138 #[.agg (aB i lv).toArray] w λe w'=>e=.returned (.bool (c1||c2))/\Below w.heap.size w w':=by
 go_enter Tryz.func138,Tryz.ntmps138
 go_upto_region 1 with fail
 obtain⟨W1,hW1⟩:∃W1,W1=w.alloc (.cells (aB i lv).toArray 34):=⟨_,rfl⟩
 have hrow:pR W1 w.heap.size i lv:=by rw[hW1];exact lI w i lv
 have HB:Hid (Below w.heap.size w W1):=Lib.hid (by rw[hW1];exact(Below.refl _ _).alloc (Nat.le_refl _) _)
 rw[<-hW1]
 clear hW1
 obtain⟨g,hg⟩:∃g,g=w.heap.size:=⟨_,rfl⟩
 rw[<-hg]at hrow⊢
 clear hg
 have k1:=hrow.at 1 _ rfl
 clear hrow
 cases c1
 all_goals cases c2
 all_goals
  go_wp2_with fail
  go_ret
  exact⟨rfl,HB.out⟩
theorem is_sec (w:World)(i:Ps.Ins)(lv:Value)(c1 c2:Bool)(h1:(i.kind==1)=c1)(h2:(i.kind==2)=c2):
 Calls Tryz.prog 139 #[.agg (aB i lv).toArray] w λe w'=>e=.returned (.bool (c1||c2))/\Below w.heap.size w w':=by
 go_enter Tryz.func139,Tryz.ntmps139
 go_upto_region 1 with fail
 obtain⟨W1,hW1⟩:∃W1,W1=w.alloc (.cells (aB i lv).toArray 34):=⟨_,rfl⟩
 have hrow:pR W1 w.heap.size i lv:=by rw[hW1];exact lI w i lv
 have HB:Hid (Below w.heap.size w W1):=Lib.hid (by rw[hW1];exact(Below.refl _ _).alloc (Nat.le_refl _) _)
 rw[<-hW1]
 clear hW1
 obtain⟨g,hg⟩:∃g,g=w.heap.size:=⟨_,rfl⟩
 rw[<-hg]at hrow⊢
 clear hg
 have k1:=hrow.at 1 _ rfl
 clear hrow
 cases c1
 all_goals cases c2
 all_goals
  go_wp2_with fail
  go_ret
  exact⟨rfl,HB.out⟩
theorem Ol (w:World)(i:Ps.Ins)(lv:Value)(c1:Bool)(h1:i.partial_=c1):
 Calls Tryz.prog 143 #[.agg (aB i lv).toArray] w λe w'=>e=.returned (.int .i64 (if c1=true then i.quantity else 0))/\Below w.heap.size w w':=by
 go_enter Tryz.func143,Tryz.ntmps143
 go_upto_region 1 with fail
 obtain⟨W1,hW1⟩:∃W1,W1=w.alloc (.cells (aB i lv).toArray 34):=⟨_,rfl⟩
 have hrow:pR W1 w.heap.size i lv:=by rw[hW1];exact lI w i lv
 have HB:Hid (Below w.heap.size w W1):=Lib.hid (by rw[hW1];exact(Below.refl _ _).alloc (Nat.le_refl _) _)
 rw[<-hW1]
 clear hW1
 obtain⟨g,hg⟩:∃g,g=w.heap.size:=⟨_,rfl⟩
 rw[<-hg]at hrow⊢
 clear hg
 have k6:=hrow.at 6 _ rfl
 have k11:=hrow.at 11 _ rfl
 clear hrow
 cases c1
 all_goals
  go_wp2_with fail
  go_ret
  exact⟨rfl,HB.out⟩
theorem Lm (w:World)(i:Ps.Ins)(lv:Value)(c1 c2 v:Bool)(h1:(i.kind==0)=c1)(h2:(i.asset.toList==[67,65,83,72])=c2)(n1:∀w',Below w.heap.size w w'->Calls Tryz.prog 80 #[.int .i64 0,.string i.asset] w' λe w''=>e=.returned (.bool v)/\Below w'.heap.size w' w''):
 Calls Tryz.prog 140 #[.agg (aB i lv).toArray] w λe w'=>e=.returned (.bool (if c1=true then c2 else v))/\Below w.heap.size w w':=by
 go_enter Tryz.func140,Tryz.ntmps140
 go_upto_region 1 with fail
 obtain⟨W1,hW1⟩:∃W1,W1=w.alloc (.cells (aB i lv).toArray 34):=⟨_,rfl⟩
 have hrow:pR W1 w.heap.size i lv:=by rw[hW1];exact lI w i lv
 have HB:Hid (Below w.heap.size w W1):=Lib.hid (by rw[hW1];exact(Below.refl _ _).alloc (Nat.le_refl _) _)
 rw[<-hW1]
 clear hW1
 have m1:=n1 W1 HB.out
 clear n1
 obtain⟨g,hg⟩:∃g,g=w.heap.size:=⟨_,rfl⟩
 rw[<-hg]at hrow⊢
 clear hg
 have k1:=hrow.at 1 _ rfl
 have k5:=hrow.at 5 _ rfl
 clear hrow
 cases c1
 ·go_wp2_with ((first|go_at_fn 80|go_at_call 80);refine m1.mono ?_;rintro e w2 ⟨rfl,hb⟩;have HB2:=Lib.hid (HB.out.trans (hb.mono HB.out.size));clear hb m1)
  go_ret
  exact⟨rfl,HB2.out⟩
 ·clear m1
  go_wp2_with fail
  go_ret
  exact⟨by simp,HB.out⟩
theorem LZ (w:World)(n:Int)(u c:Bool)(h:(n==0)=c):
 Calls Tryz.prog 141 #[.int .i64 n,.bool u] w λe w'=>e=.returned (.bool (if u=true then inB n 1 1000000000000000 else c))/\Below w.heap.size w w':=by
 have m1:=tO w n 1 1000000000000000
 go_enter Tryz.func141,Tryz.ntmps141
 cases u
 ·clear m1
  go_wp2_with fail
  go_ret
  exact⟨by simp,Below.refl _ _⟩
 ·go_wp2_with ((first|go_at_fn 142|go_at_call 142);refine m1.mono ?_;rintro e w2 ⟨rfl,rfl⟩;clear m1)
  go_ret
  exact⟨rfl,Below.refl _ _⟩
def Ak (n:Int)(u:Bool):Bool:=if u=true then inB n 1 1000000000000000 else(n==0)
def mR (A:Ps.Amd):List (Bool×Int):=[(((((!A.hasAmount)&&(!A.hasSettleDay))&&(!A.hasPriority))&&(!A.hasPartial)),3),((((((!A.hasAmount)&&(A.amount !=0))||((!A.hasSettleDay)&&(A.settleDay !=0)))||((!A.hasPriority)&&(A.priority !=0)))||((!A.hasPartial)&&(A.partial_||(A.minLot !=0)))),3),((!(Ak A.amount A.hasAmount)),2),((!(inB A.settleDay 0 73048)),28),((!(inB A.priority 0 2)),2),((!(Ak A.minLot A.partial_)),2)]
open Go.Proofs.YtnjjeapcalkmaaaGreatDoor.Ev (AV Mem Fr ja aR eD)
theorem kL {S:World->Prop}{b:Nat}{l:List Value}{ty:TypeId}(h:∀w,S w->w.heap[b]? =some (.cells l.toArray ty (0,0))):∀w,S w->∀(j:Nat) (v:Value),l[j]? =some v->w.cell? ⟨b,0+j,none⟩=some v:=λw hS j v hv=>by
 rw[Nat.zero_add,cell_of_row _ _ _ _ _ _ (h w hS)]
 simpa using hv
def vo (V:List AV->List Value)(f:FuncId)(vs:List AV):Option Value:=
 if f=79\/f=142 then(match V vs with|[.int .i64 n,.int .i64 lo,.int .i64 hi]=>some (.bool (inB n lo hi))|_=>none)
 else if f=141 then(match V vs with|[.int .i64 n,.bool u]=>some (.bool (Ak n u))|_=>none)
 else none
theorem rM {V:List AV->List Value}{f:FuncId}{vs:List AV}{v:Value}(h:vo V f vs=some v){W0:World}:(∀args w,(callFunc f args).run Tryz.prog w=.ok (.enter f args) w)/\∀w,Below W0.heap.size W0 w->Calls Tryz.prog f (V vs).toArray w λe w'=>e=.returned v/\Below W0.heap.size W0 w':=by
 unfold vo at h
 split at h
 ·rename_i hf
  split at h
  ·rename_i hm
   cases h
   rw[hm]
   rcases hf with rfl|rfl
   ·exact⟨ent57,λw hw=>(FT w _ _ _).mono λe w' k=>⟨k.1,hw.trans (k.2.mono hw.size)⟩⟩
   ·exact⟨ent109,λw hw=>(Ao w _ _ _).mono λe w' k=>⟨k.1,hw.trans (k.2.mono hw.size)⟩⟩
  ·cases h
 ·split at h
  ·rename_i hf
   subst hf
   split at h
   ·rename_i hm
    cases h
    rw[hm]
    exact⟨ent108,λw hw=>(LZ w _ _ _ rfl).mono λe w' k=>⟨k.1,hw.trans (k.2.mono hw.size)⟩⟩
   ·cases h
  ·cases h
def Et (g:Nat)(A:Ps.Amd):List (Option (Nat×Nat)×List Value):=[(some (g,0),aG A)]
def amM (g:Nat)(A:Ps.Amd):Mem Unit:=ja pE (Et g A) (vo (List.map (eD (Et g A)))) (Ev.qo (eD (Et g A)))
theorem J6 (w:World)(A:Ps.Amd):Calls Tryz.prog 82 #[.agg (aG A).toArray] w λe w'=>e=.returned (.int .i64 (aY (mR A)))/\Below w.heap.size w w':=by
 go_enter Tryz.func82,Tryz.ntmps82
 refine wp_seq ?_
 refine wp_region_lit ?_
 refine wpList_plain rfl (λK hK=>?_)
 go_simp
 refine hK _ _ ?_
 clear hK K
 refine wpList_plain rfl (λK hK=>?_)
 go_simp
 refine hK _ _ ?_
 clear hK K
 refine aU ?_
 obtain⟨g,hg⟩:∃g,g=w.heap.size:=⟨_,rfl⟩
 obtain⟨W1,hW1⟩:∃W1,W1=w.alloc (.cells (aG A).toArray 35):=⟨_,rfl⟩
 have hrow:∀W,Below W1.heap.size W1 W->W.heap[g]? =some (.cells (aG A).toArray 35 (0,0)):=λW hW=>by
  rw[hW.block g (by rw[hW1,hg];simp),hW1,hg];exact aD w _
 have hB1:Below w.heap.size w W1:=by rw[hW1];exact(Below.refl _ _).alloc (Nat.le_refl _) _
 rw[<-hg,<-hW1]
 refine jo rfl λa ha hdf=>?_
 have hO:Ev.Ok Tryz.prog (λ(_:Unit) W=>Below W1.heap.size W1 W) (amM g A):=by
  refine Ev.jH (λt f d h=>q8 h) (λq b o l h W hS=>?_) (λf vs v h=>rM h) (λo ov v h ρ hov W hS=>Ev.pF h hov (λ_=>rfl) W)
  rcases q with _|q
  ·cases h
   intro j v hv
   rw[Nat.zero_add,cell_of_row _ _ _ _ _ _ (hrow W hS)]
   simpa using hv
  ·cases h
 refine wp_seq ?_
 refine Ev.ni (W0:=W1) (m:=91) (M:=amM g A) (K:=[(1,.p 0 0)]) 86 2 (mR A) hO (by kernel_rfl) (Ev.aF (Ev.aX (by rw[ha];rfl) hdf) (by rw[ha];rfl)) (Below.refl _ _) (show 0<6 by decide) (show 6<=1000 by decide) (by kernel_rfl) (by kernel_rfl) ?_
 intro b W hB hF
 refine wp_ret ?_
 refine bodyPost_ret (results_tmp rfl _ _ _) hF.defers ?_
 rw[hg]
 exact⟨by rw[show b.tmps.getD 2 undef=.int .i64 (aY (mR A))from eval_at (hF.look 2 _ rfl)],hB1.trans (hB.mono hB1.size)⟩
end Go.Proofs.YtnjjeapcalkmaaaGreatDoor
