/-
  Part 6 of a proof; written short by a program out of longer texts of mine.
-/
import Derived.Test.YtnjjeapcalkmaaaGreatDoorPiE
set_option maxRecDepth 100000
set_option maxHeartbeats 4000000
set_option linter.unusedVariables false
set_option linter.unusedSimpArgs false
namespace Go.Proofs.YtnjjeapcalkmaaaGreatDoor.Ord
open Go
section
variable {P : Program} {ops : Array Oper} {Q : Exit → Act → World → Prop}
def Closed (ops:Array Oper)(dn:Nat->Bool):Prop:=∀(j:Nat) (oj:Oper),ops[j]? =some oj->dn j=true->∀e∈oj.after,Region.binds .any e=true->dn e.on=true
theorem Hl (hd:cZ ops=true)(I:(Nat->Bool)->Act->World->Prop)
 (hstep:∀dn i o a w,ops[i]? =some o->dn i=false->(∀e∈o.after,Region.binds .any e=true->dn e.on=true)->Closed ops dn->I dn a w->wpOp P ops Q i (λa' w'=>I (λj=>dn j||j==i) a' w') a w)
 (hend:∀dn a w,(∀i,i<ops.size->dn i=true)->I dn a w->Q .normal a w):
 ∀(fuel:Nat) (listed:Array Bool) (a:Act) (w:World),listed.size=ops.size->Closed ops (λj=>listed.getD j false)->(List.range ops.size).countP (λi=>!listed.getD i true)<=fuel->I (λj=>listed.getD j false) a w->wpAny P .any ops Q fuel listed a w:=by
 have hall:∀(listed:Array Bool),listed.size=ops.size->Region.ready .any ops listed=[]->∀i,i<ops.size->listed.getD i false=true:=by
  intro listed hsz hr i
  induction i using Nat.strongRecOn with
  |ind i ih=>
   intro hi
   obtain⟨o,ho⟩:∃o,ops[i]? =some o:=⟨_,Array.getElem?_eq_getElem hi⟩
   cases hb:listed.getD i false with
   |true=>rfl
   |false=>
    exfalso
    have hmem:i∈Region.ready .any ops listed:=by
     rw[mem_ready]
     refine⟨?_,o,ho,λe he hbd=>?_⟩
     ·have:i<listed.size:=by omega
      simp[this]at hb⊢
      exact hb
     ·have hlt:=dh hd ho he hbd
      exact ih e.on hlt (by omega)
    rw[hr]at hmem
    cases hmem
 intro fuel
 induction fuel with
 |zero=>
  intro listed a w hsz Mm hc hI
  have hr:Region.ready .any ops listed=[]:=by
   cases hr:Region.ready .any ops listed with
   |nil=>rfl
   |cons x xs=>
    exfalso
    have hx:x∈Region.ready .any ops listed:=by rw[hr];exact List.mem_cons_self
    obtain⟨h1,o,ho,_⟩:=mem_ready.1 hx
    have hlt:x<ops.size:=(Array.getElem?_eq_some_iff.1 ho).1
    have:0<(List.range ops.size).countP (λi=>!listed.getD i true):=List.countP_pos_iff.2 ⟨x,List.mem_range.2 hlt,by rw[h1];rfl⟩
    omega
  exact⟨hr,hend _ a w (hall listed hsz hr) hI⟩
 |succ fuel ih=>
  intro listed a w hsz Mm hc hI
  refine⟨λhr=>hend _ a w (hall listed hsz hr) hI,λi hi=>?_⟩
  obtain⟨hun,o,ho,hafter⟩:=mem_ready.1 hi
  have hlt:i<ops.size:=(Array.getElem?_eq_some_iff.1 ho).1
  have hlt':i<listed.size:=by omega
  have hph:listed.getD i false=false:=by
   simp[hlt']at hun⊢
   exact hun
  have Aa:(λj=>(listed.setIfInBounds i true).getD j false)=(λj=>listed.getD j false||j==i):=by
   funext j
   by_cases hik:i=j
   ·subst hik
    simp[hlt']
   ·rw[getD_set_ne false hik]
    have:(j==i)=false:=by rw[beq_eq_false_iff_ne];exactλe=>hik e.symm
    rw[this,Bool.or_false]
  refine wpOp_mono (λa' w' hI'=>ih (listed.setIfInBounds i true) a' w' (by simpa using hsz) ?_ ?_ (by rw[Aa];exact hI')) (hstep _ i o a w ho hph hafter Mm hI)
  ·rw[Aa]
   intro j oj hj hl e he hb
   have hl2:(listed.getD j false||j==i)=true:=hl
   rw[Bool.or_eq_true]at hl2
   show(listed.getD e.on false||e.on==i)=true
   rw[Bool.or_eq_true]
   left
   rcases hl2 with h1|h1
   ·exact Mm j oj hj h1 e he hb
   ·obtain rfl:j=i:=by simpa using h1
    rw[ho]at hj
    cases hj
    exact hafter e he hb
  ·have:=iQ (p:=λi=>!listed.getD i true) (q:=λj=>!(listed.setIfInBounds i true).getD j true) (λj hj=>by
    by_cases hij:i=j
    ·subst hij;simp only[hun];rfl
    ·rw[getD_set_ne true hij]at hj;exact hj) (List.range ops.size) i (List.mem_range.2 hlt) (by simp only[hun];rfl) (by
     simp[hlt'])
   omega
theorem mg {id:Nat}{dr:Bool}{a:Act}{w:World}(hm:P.follows .mixedOrders=true)(hd:cZ ops=true)(I:(Nat->Bool)->Act->World->Prop)
 (h0:I (λ_=>false) a (if dr=true then w.drew else w))
 (hstep:∀dn i o a w,ops[i]? =some o->dn i=false->(∀e∈o.after,Region.binds .any e=true->dn e.on=true)->Closed ops dn->I dn a w->wpOp P ops Q i (λa' w'=>I (λj=>dn j||j==i) a' w') a w)
 (hend:∀dn a w,(∀i,i<ops.size->dn i=true)->I dn a w->Q .normal a w):(Code.region id ops dr).wp P Q a w:=by
 cases dr with
 |true=>
  refine wp_region_any hm (Hl hd I hstep hend ops.size _ a _ (by simp) ?_ ?_ ?_)
  ·intro j oj hj hl
   have:(Array.replicate ops.size false).getD j false=true:=hl
   exfalso
   by_cases hk:j<ops.size
   ·simp[hk]at this
   ·simp[hk]at this
  ·have:=List.countP_le_length (p:=λi=>!(Array.replicate ops.size false).getD i true) (l:=List.range ops.size)
   simpa using this
  ·have e:(λj=>(Array.replicate ops.size false).getD j false)=(λ_=>false):=by
    funext j
    by_cases hk:j<ops.size
    ·simp[hk]
    ·simp[hk]
   rw[e]
   exact h0
 |false=>
  have hgo:∀(m k:Nat) (a':Act) (w':World),k+m=ops.size->I (λj=>decide (j<k)) a' w'->wpOps P ops Q (List.range' k (ops.size-k)) a' w':=by
   intro m
   induction m with
   |zero=>
    intro k a' w' hk hI
    have:ops.size-k=0:=by omega
    rw[this]
    show Q .normal a' w'
    exact hend _ a' w' (λi hi=>by simp;omega) hI
   |succ m ih=>
    intro k a' w' hk hI
    obtain⟨o,ho⟩:∃o,ops[k]? =some o:=⟨_,Array.getElem?_eq_getElem (by omega)⟩
    rw[show ops.size-k=(ops.size-(k+1))+1 from by omega,List.range'_succ,wpOps_cons]
    refine wpOp_mono (λa2 w2 h2=>ih (k+1) a2 w2 (by omega) ?_) (hstep _ k o a' w' ho (by simp) (λe he hb=>by have:=dh hd ho he hb;simpa using this) (λj oj hj hl e he hb=>by
     have h1:=dh hd hj he hb
     have h2:j<k:=by simpa using hl
     simp;omega) hI)
    have e:(λj=>decide (j<k+1))=(λj=>decide (j<k)||j==k):=by
     funext j
     rw[Bool.eq_iff_iff]
     simp only[decide_eq_true_eq,Bool.or_eq_true,beq_iff_eq]
     omega
    rw[e]
    exact h2
  refine wp_region ?_
  have e:(λj=>decide (j<0))=(λ_=>false):=by funext j;simp
  have:=hgo ops.size 0 a w (by omega) (by rw[e];exact h0)
  rw[Nat.sub_zero,<-List.range_eq_range']at this
  exact this
theorem looks_at (hd:cZ ops=true){i:Nat}{o:Oper}{dn:Nat->Bool}(hi:ops[i]? =some o)(hu:dn i=false)(ha:∀e∈o.after,Region.binds .any e=true->dn e.on=true)(hC:Closed ops dn){d:Tmp}(hl:d∈o.looksAt ops):
 (∃(j:Nat) (oj:Oper),j<i/\ops[j]? =some oj/\oj.dst=some d/\dn j=true)\/((∀(j:Nat) (oj:Oper),ops[j]? =some oj->dn j=true->oj.dst≠some d)/\∀(j:Nat) (oj:Oper),j<i->ops[j]? =some oj->oj.dst≠some d):=by
 by_cases h:∃(j:Nat) (oj:Oper),j<i/\ops[j]? =some oj/\oj.dst=some d
 ·obtain⟨j,oj,hji,hj,hjd⟩:=h
  rcases(ow hd hi hj (by omega) hjd).2 hl with⟨e,he,hb,rfl⟩|⟨h1,_⟩
  ·exact .inl ⟨_,oj,hji,hj,hjd,ha e he hb⟩
  ·omega
 ·right
  refine⟨λj oj hj hdn hjd=>?_,λj oj hji hj hjd=>h ⟨j,oj,hji,hj,hjd⟩⟩
  by_cases hji:j=i
  ·subst hji;rw[hu]at hdn;cases hdn
  rcases(ow hd hi hj hji hjd).2 hl with⟨e,he,hb,rfl⟩|⟨h1,e,he,hb,h2⟩
  ·exact h ⟨_,oj,dh hd hi he hb,hj,hjd⟩
  ·have:=hC j oj hj hdn e he hb
   rw[h2,hu]at this
   cases this
def anc (ops:Array Oper)(c:Nat):List Nat:=match ops[c]? with
 |none=>[]
 |some o=>(List.range c).reverse.foldl (λR j=>if R.contains j then(match ops[j]? with
  |some oj=>(oj.after.toList.filter λe=>Region.binds .any e).map (·.on)++R
  |none=>R)else R) ((o.after.toList.filter λe=>Region.binds .any e).map (·.on))
theorem CR {dn:Nat->Bool}(hC:Closed ops dn){c:Nat}{o:Oper}(hc:ops[c]? =some o)(ha:∀e∈o.after,Region.binds .any e=true->dn e.on=true):∀i∈anc ops c,dn i=true:=by
 have key:∀(l:List Nat) (R:List Nat),(∀i∈R,dn i=true)->∀i∈l.foldl (λR j=>if R.contains j then(match ops[j]? with
  |some oj=>(oj.after.toList.filter λe=>Region.binds .any e).map (·.on)++R
  |none=>R)else R) R,dn i=true:=by
  intro l
  induction l with
  |nil=>exactλR h=>h
  |cons j l ih=>
   intro R hR
   rw[List.foldl_cons]
   refine ih _ ?_
   split
   ·rename_i hj
    have hjd:dn j=true:=hR j (by simpa using hj)
    cases hoj:ops[j]? with
    |none=>exact hR
    |some oj=>
     intro i hi
     rcases List.mem_append.1 hi with hi|hi
     ·obtain⟨e,he,rfl⟩:=List.mem_map.1 hi
      obtain⟨he,hb⟩:=List.mem_filter.1 he
      exact hC j oj hoj hjd e (Array.mem_toList_iff.1 he) hb
     ·exact hR i hi
   ·exact hR
 unfold anc
 rw[hc]
 refine key _ _ λi hi=>?_
 obtain⟨e,he,rfl⟩:=List.mem_map.1 hi
 obtain⟨he,hb⟩:=List.mem_filter.1 he
 exact ha e (Array.mem_toList_iff.1 he) hb
end
end Go.Proofs.YtnjjeapcalkmaaaGreatDoor.Ord
namespace Go.Proofs.YtnjjeapcalkmaaaGreatDoor.Se
open Go Go.RowKit Go.Proofs.YtnjjeapcalkmaaaGreatDoor Go.Proofs.YtnjjeapcalkmaaaGreatDoor.Ord
def lim (n:Nat)(b:ByteArray):ByteArray:=if b.size<=n then b else⟨#[]⟩
theorem Ld (n:Nat)(b:ByteArray):(lim n b).size<=n:=by
 unfold lim
 split
 ·assumption
 ·exact Nat.zero_le _
theorem jP {n:Nat}{b:ByteArray}(h:b.size<=n):lim n b=b:=if_pos h
abbrev SB:=Nat×ByteArray
def st (x:SB):ByteArray:=lim x.1 x.2
theorem tT (x:SB):(st x).size<=x.1:=Ld _ _
def cat (x y:SB):SB:=(x.1+y.1,st x++st y)
theorem st_cat (x y:SB):st (cat x y)=st x++st y:=jP (by
 have h1:=tT x
 have h2:=tT y
 show(st x++st y).size<=x.1+y.1
 rw[ByteArray.size_append];omega)
theorem st_lit (b:ByteArray):st (b.size,b)=b:=jP (Nat.le_refl _)
inductive PV where
 |v (x:Value)
 |s (x:SB)
 |sl (l:List SB)
 |pe (x:SB)
 |p (k j:Nat)
 |by_ (l:List UInt8)
 |u (c:UInt8)
 |a (k j n:Nat)
 |r (k j:Nat)
def PV.mem:PV->Bool
 | .sl _=>true
 | .pe _=>true
 | .by_ _=>true
 |_=>false
structure Mem where
 B:Nat
 W:World
 fix:List Nat:=[]
 blk:List (Nat×Nat):=[]
 offs:TypeId->Nat->Option Nat:=λ_ _=>none
 load:TypeId->Nat->Nat->Option PV:=λ_ _ _=>none
 cell:Nat->Nat->Value:=λ_ _=>.bool false
 call:FuncId->List PV->Option (PV×Bool×Option Prop):=λ_ _=>none
 hint:Nat->Option Bool:=λ_=>none
 loops:Nat:=0
 oth:Oper->(Operand->Option PV)->Option PV:=λ_ _=>none
 tst:Nat->Option Bool:=λ_=>none
 big:Bool:=false
variable {M : Mem}
def Mem.ptr (M:Mem)(k j:Nat):Value:=.pointer (some ⟨(M.blk.getD k (0,0)).1,(M.blk.getD k (0,0)).2+j,none⟩)
def prot (M:Mem)(g:Nat):Prop:=g<M.B\/g∈M.fix
structure Sw (M:Mem)(w:World):Prop where
 os:w.os=M.W.os
 tape:w.tape=M.W.tape
 output:w.output=M.W.output
 size:M.W.heap.size<=w.heap.size
 block:∀g,prot M g->w.heap[g]? =M.W.heap[g]?
structure Wf (M:Mem):Prop where
 B:M.B<=M.W.heap.size
 fix:∀g∈M.fix,g<M.W.heap.size
def Js (M:Mem)(v:Value)(l:List ByteArray)(w:World):Prop:=w.ownsRow M.B 9 1 v l.length (l.map .string)/\∀g,v.ownBlock=some g->g∉M.fix
def La (M:Mem)(v:Value)(l:List UInt8)(w:World):Prop:=w.ownsRow M.B 5 1 v l.length (l.map λc=>.int .u8 (c.toNat:Int))/\∀g,v.ownBlock=some g->g∉M.fix
def Den (M:Mem):PV->Value->World->Prop
 | .v x,y,_=>y=x
 | .s x,y,_=>y=.string (st x)
 | .sl l,y,w=>Js M y (l.map st) w
 | .pe x,y,w=>∃g j,y=.pointer (some ⟨g,j,none⟩)/\w.cell? ⟨g,j,none⟩=some (.string (st x))
 | .p k j,y,_=>y=M.ptr k j
 | .by_ l,y,w=>La M y l w
 | .u c,y,_=>y=.int .u8 (c.toNat:Int)
 | .a k j n,y,_=>y=.agg ((List.range n).map λi=>M.cell k (j+i)).toArray
 | .r k j,y,_=>y=M.cell k j
theorem own_below {w w':World}{B sz n:Nat}{t:TypeId}{v:Value}{xs:List Value}(h:w.ownsRow B t sz v n xs)(hb:Below w.heap.size w w'):w'.ownsRow B t sz v n xs:=fD h λg hg=>by
 refine hb.block g ?_
 rcases h.2 with⟨hn,_⟩|⟨g',cap,cur,hv,_,hh,_⟩
 ·rw[hn]at hg;cases hg
 ·have:g=g':=by rw[hv]at hg;simp[Value.ownBlock]at hg;exact hg.symm
  subst this
  exact(Array.getElem?_eq_some_iff.1 hh).1
theorem Den.below {u:PV}{y:Value}{w w':World}(h:Den M u y w)(hb:Below w.heap.size w w'):Den M u y w':=by
 cases u with
 |v x=>exact h
 |s x=>exact h
 |p k j=>exact h
 |u c=>exact h
 |a k j n=>exact h
 |r k j=>exact h
 |sl l=>exact⟨own_below h.1 hb,h.2⟩
 |by_ l=>exact⟨own_below h.1 hb,h.2⟩
 |pe x=>
  obtain⟨g,j,h1,h2⟩:=h
  exact⟨g,j,h1,(hb.cell (p:=⟨g,j,none⟩) (rP h2)).trans h2⟩
theorem Den.any {u:PV}{y:Value}{w w':World}(hu:u.mem=false)(h:Den M u y w):Den M u y w':=by
 cases u with
 |v x=>exact h
 |s x=>exact h
 |p k j=>exact h
 |u c=>exact h
 |a k j n=>exact h
 |r k j=>exact h
 |sl l=>cases hu
 |by_ l=>cases hu
 |pe x=>cases hu
theorem Den.drew {u:PV}{y:Value}{w:World}(h:Den M u y w):Den M u y w.drew:=h.below ((Below.refl _ _).drew)
theorem Sw.below {w w':World}(hM:Wf M)(h:Sw M w)(hb:Below w.heap.size w w'):Sw M w':=
 ⟨hb.os.trans h.os,hb.tape.trans h.tape,hb.output.trans h.output,Nat.le_trans h.size hb.size,λg hg=>(hb.block g (by
  have:=h.size
  rcases hg with hg|hg
  ·have:=hM.B;omega
  ·have:=hM.fix g hg;omega)).trans (h.block g hg)⟩
theorem Sw.drew {w:World}(h:Sw M w):Sw M w.drew:=⟨h.os,h.tape,h.output,h.size,h.block⟩
theorem Sw.turn {w w':World}(h:Sw M w)(hb:Below M.B w w')(hf:∀g∈M.fix,w'.heap[g]? =w.heap[g]?):Sw M w':=
 ⟨hb.os.trans h.os,hb.tape.trans h.tape,hb.output.trans h.output,Nat.le_trans h.size hb.size,λg hg=>by
  refine Eq.trans ?_ (h.block g hg)
  rcases hg with hg|hg
  ·exact hb.block g hg
  ·exact hf g hg⟩
theorem Sw.start (M:Mem):Sw M M.W:=⟨rfl,rfl,rfl,Nat.le_refl _,λ_ _=>rfl⟩
theorem Sw.to {w:World}(h:Sw M w):Below M.B M.W w:=⟨h.os,h.tape,h.output,h.size,λg hg=>h.block g (.inl hg)⟩
def j3 (M:Mem):List PV->List Value->World->Prop
 |[],[],_=>True
 |u::us,y::ys,w=>Den M u y w/\j3 M us ys w
 |_,_,_=>False
structure Ok (P:Program)(M:Mem):Prop where
 wf:Wf M
 offs:∀t f d,M.offs t f=some d->∀b j w,(Instr.fieldAt t (.pointer (some ⟨b,j,none⟩)) f).run P w=.ok (.pointer (some ⟨b,j+d,none⟩)) w
 load:∀t k j u,M.load t k j=some u->∀w,Sw M w->∃v,(Instr.loadAt t (M.ptr k j)).run P w=.ok v w/\Den M u v w
 call:∀f us u c b,M.call f us=some (u,c,b)->(∀p,b=some p->p)->(∀args w,(callFunc f args).run P w=.ok (.enter f args) w)/\∀(vals:List Value) w,Sw M w->j3 M us vals w->Calls P f vals.toArray w λe w'=>∃v,e=.returned v/\Den M u v w'/\Sw M w'/\(c=false->Below w.heap.size w w')
 oth:∀o ov u,M.oth o ov=some u->∀(ρ:Operand->Value) w,(∀f,ρ (.func f)=.func (.func f) #[] #[])->Sw M w->(∀x p,ov x=some p->Den M p (ρ x) w)->∃v,(execOp ρ o).run P w=.ok (.value v) w/\Den M u v w
structure Ent where
 dst:Option Nat
 val:PV
 cons:Bool
 uses:Bool
 skip:Bool:=false
 ob:Option Prop:=none
def find (t:Nat):List Ent->Nat->Option (Nat×Ent)
 |[],_=>none
 |e::l,i=>if e.dst=some t then some (i,e)else find t l (i+1)
def look (K:List (Nat×PV))(t:Nat):Option PV:=match K with
 |[]=>none
 |(s,v)::K=>if s=t then some v else look K t
def kT:List Ent->Nat->Nat->Nat
 |[],_,a=>a
 |e::l,k,a=>kT l (k+1) (if e.cons=true then k+1 else a)
def cst:Value->PV
 | .string b=>.s (b.size,b)
 | .slice none 0 0=>.sl []
 | .int .u8 x=>if 0<=x/\x<256 then .u (UInt8.ofNat x.toNat)else .v (.int .u8 x)
 |x=>.v x
def opT (K:List (Nat×PV))(rs:List Ent)(t:Nat):Option PV:=match find t rs 0 with
 |some (i,e)=>if e.val.mem=true then(if kT rs 0 0<=i+1 then some e.val else none)else some e.val
 |none=>match look K t with
  |some u=>if u.mem=true then(if kT rs 0 0=0 then some u else none)else some u
  |none=>none
def opd (K:List (Nat×PV))(rs:List Ent):Operand->Option PV
 | .const v=>some (cst v)
 | .tmp t=>opT K rs t
 |_=>none
def u7 (ov:Operand->Option PV):List Operand->Option (List PV)
 |[]=>some []
 |x::l=>match ov x,u7 ov l with
  |some a,some vs=>some (a::vs)
  |_,_=>none
def strs:List PV->Option (List SB)
 |[]=>some []
 | .s x::l=>match strs l with
   |some r=>some (x::r)
   |none=>none
 |_::_=>none
def OH:List PV->Option (List UInt8)
 |[]=>some []
 | .u c::l=>match OH l with
   |some r=>some (c::r)
   |none=>none
 |_::_=>none
structure Res where
 val:PV
 cons:Bool:=false
 uses:Bool:=false
 ob:Option Prop:=none
def bin2 (op:BinOp)(t:TypeId):Value->Value->Option Value
 | .int .i64 a,.int .i64 b=>if t=2\/t=3 then(match op with
   | .quo=>if b=0 then none else some (.int .i64 (IntKind.i64.wrap (a.tdiv b)))
   | .rem=>if b=0 then none else some (.int .i64 (a.tmod b))
   |_=>none)else none
 |_,_=>none
def binP (op:BinOp)(t:TypeId):PV->PV->Option PV
 | .s x,.s y=>if t=9 then(match op with
   | .add=>if x.1+y.1<=4611686018427387904 then some (.s (cat x y))else none
   | .eql=>some (.v (.bool ((st x).toList==(st y).toList)))
   | .neq=>some (.v (.bool (!((st x).toList==(st y).toList))))
   |_=>none)else none
 | .v a,.v b=>match Ev.bin op t a b with
   |some x=>some (.v x)
   |none=>match bin2 op t a b with
    |some x=>some (.v x)
    |none=>none
 |_,_=>none
def nv (M:Mem):PV->PV
 | .r k j=>.v (M.cell k j)
 |u=>u
theorem FN {u:PV}{y:Value}{w:World}(h:Den M u y w):Den M (nv M u) y w:=by
 cases u with
 |r k j=>exact h
 |_=>exact h
def PO (parts:Array (Nat×Operand)):List Nat:=parts.toList.map (·.1)
def act0 (M:Mem)(ov:Operand->Option PV)(o:Oper):Option Res:=match o.op with
 | .move x=>match ov x with
   |some u=>some {val:=u,uses:=u.mem}
   |none=>none
 | .assign x=>match ov x with
   |some u=>some {val:=u,uses:=u.mem}
   |none=>none
 | .fieldAddr t x f=>match ov x with
   |some (.p k j)=>match M.offs t f with
    |some d=>some {val:=.p k (j+d)}
    |none=>none
   |_=>none
 | .load t x=>match ov x with
   |some (.p k j)=>match M.load t k j with
    |some u=>if u.mem=true then none else some {val:=u}
    |none=>none
   |some (.pe s)=>if t=9 then some {val:=.s s,uses:=true}else none
   |_=>none
 | .binOp op t x y _=>match ov x,ov y with
   |some a,some b=>match binP op t (nv M a) (nv M b)with
    |some u=>if u.mem=true then none else some {val:=u}
    |none=>none
   |_,_=>none
 | .unOp .not _ x=>match (ov x).map (nv M)with
   |some (.v (.bool b))=>some {val:=.v (.bool (!b))}
   |_=>none
 | .convert a b x=>match (ov x).map (nv M)with
   |some (.v (.int .i64 n))=>if (a=2\/a=3)/\b=5 then some {val:=.u (UInt8.ofNat (n%256).toNat)}else none
   |some (.by_ (c::l))=>if a=135/\b=9 then some {val:=.s (l.length+1,⟨(c::l).toArray⟩),uses:=true}else none
   |_=>none
 | .pick c x y=>match (ov c).map (nv M)with
   |some (.v (.bool true))=>match ov x with
    |some u=>if u.mem=true then none else some {val:=u}
    |none=>none
   |some (.v (.bool false))=>match ov y with
    |some u=>if u.mem=true then none else some {val:=u}
    |none=>none
   |_=>none
 | .buildSlice t n parts=>if PO parts=List.range n/\0<n/\n<=12 then(match u7 ov (parts.toList.map (·.2))with
   |some us=>if t=64 then(match strs us with
    |some l=>some {val:=.sl l}
    |none=>none)else if t=135/\n<=2 then(match OH us with
    |some l=>some {val:=.by_ l}
    |none=>none)else none
   |none=>none)else none
 | .indexAddr t x y=>match ov x,(ov y).map (nv M)with
   |some (.sl l),some (.v (.int .i64 k))=>if t=64/\0<=k then(match l[k.toNat]? with
    |some s=>some {val:=.pe s,uses:=true}
    |none=>none)else none
   |_,_=>none
 | .call ⟨.value (.func f),args,_⟩=>match u7 ov args.toList with
   |some us=>match M.call f us with
    |some (u,c,b)=>some {val:=u,cons:=c,uses:=us.any PV.mem,ob:=b}
    |none=>none
   |none=>none
 | .call ⟨.builtin .append,args,ts⟩=>match args.toList with
   |[x,y]=>match ov x,ov y with
    |some (.sl l),some (.sl m)=>if ts=#[64,64]/\o.type=64 then(if M.big=true then some {val:=.sl (l++m),cons:=true,uses:=true,ob:=some (l.length+m.length<=1000000)}else if l.length+m.length<=1000000 then some {val:=.sl (l++m),cons:=true,uses:=true}else none)else none
    |some (.by_ l),some (.by_ m)=>if ts=#[135,135]/\o.type=135/\l.length+m.length<=1000000 then some {val:=.by_ (l++m),cons:=true,uses:=true}else none
    |_,_=>none
   |_=>none
 | .call ⟨.builtin .len,args,ts⟩=>match args.toList with
   |[x]=>match ov x with
    |some (.s x)=>if ts=#[9]/\o.type=3 then some {val:=.v (.int .i64 ((st x).size:Int))}else none
    |some (.sl l)=>if ts=#[64]then some {val:=.v (.int .i64 (l.length:Int)),uses:=true}else none
    |_=>none
   |_=>none
 |_=>none
def told (M:Mem)(o:Oper)(r:Res):Res:=match r.val,r.ob,o.dst with
 | .v (.bool p),none,some t=>match M.tst t with
   |some b=>{r with val:=.v (.bool b),ob:=some (p=b)}
   |none=>r
 |_,_,_=>r
def act (M:Mem)(ov:Operand->Option PV)(o:Oper):Option Res:=match act0 M ov o with
 |some r=>some (told M o r)
 |none=>match M.oth o ov with
  |some u=>if u.mem=true then none else some {val:=u}
  |none=>none
theorem PW {op:BinOp}{t:TypeId}{a b v:Value}(h:bin2 op t a b=some v)(x y:Operand)(w:World):(do eqGuard op t x y a b;binOp op t a b:Sem Value).run Tryz.prog w=.ok v w:=by
 unfold bin2 at h
 split at h
 ·split at h
  ·rename_i ht
   split at h
   ·split at h
    ·cases h
    ·rename_i hb;cases h;rcases ht with rfl|rfl<;>go_simp
   ·split at h
    ·cases h
    ·rename_i hb;cases h;rcases ht with rfl|rfl<;>go_simp
   ·cases h
  ·cases h
 ·cases h
theorem jo {ov:Operand->Option PV}{ρ:Operand->Value}{w:World}(hov:∀x u,ov x=some u->Den M u (ρ x) w):∀{l:List Operand} {us:List PV},u7 ov l=some us->j3 M us (l.map ρ) w
 |[],us,h=>by cases h;exact trivial
 |x::l,us,h=>by
  unfold u7 at h
  split at h
  ·rename_i a vs h1 h2
   cases h
   exact⟨hov _ _ h1,jo hov h2⟩
  ·cases h
theorem Fx {w:World}:∀{us:List PV} {l:List SB} {ys:List Value},strs us=some l->j3 M us ys w->ys=(l.map st).map .string
 |[],l,ys,h,hd=>by
  cases h
  cases ys with
  |nil=>rfl
  |cons y ys=>exact hd.elim
 | .s x::us,l,ys,h,hd=>by
   unfold strs at h
   split at h
   ·rename_i r hr
    cases h
    cases ys with
    |nil=>exact hd.elim
    |cons y ys=>
     obtain⟨h1,h2⟩:=hd
     have h1:y=.string (st x):=h1
     rw[h1,Fx hr h2]
     rfl
   ·cases h
 | .v _::us,l,ys,h,hd=>by cases h
 | .sl _::us,l,ys,h,hd=>by cases h
 | .pe _::us,l,ys,h,hd=>by cases h
 | .p _ _::us,l,ys,h,hd=>by cases h
 | .by_ _::us,l,ys,h,hd=>by cases h
 | .u _::us,l,ys,h,hd=>by cases h
 | .a _ _ _::us,l,ys,h,hd=>by cases h
 | .r _ _::us,l,ys,h,hd=>by cases h
theorem Ff {w:World}:∀{us:List PV} {l:List UInt8} {ys:List Value},OH us=some l->j3 M us ys w->ys=l.map λc=>.int .u8 (c.toNat:Int)
 |[],l,ys,h,hd=>by
  cases h
  cases ys with
  |nil=>rfl
  |cons y ys=>exact hd.elim
 | .u x::us,l,ys,h,hd=>by
   unfold OH at h
   split at h
   ·rename_i r hr
    cases h
    cases ys with
    |nil=>exact hd.elim
    |cons y ys=>
     obtain⟨h1,h2⟩:=hd
     have h1:y=.int .u8 (x.toNat:Int):=h1
     rw[h1,Ff hr h2]
     rfl
   ·cases h
 | .v _::us,l,ys,h,hd=>by cases h
 | .sl _::us,l,ys,h,hd=>by cases h
 | .pe _::us,l,ys,h,hd=>by cases h
 | .p _ _::us,l,ys,h,hd=>by cases h
 | .by_ _::us,l,ys,h,hd=>by cases h
 | .s _::us,l,ys,h,hd=>by cases h
 | .a _ _ _::us,l,ys,h,hd=>by cases h
 | .r _ _::us,l,ys,h,hd=>by cases h
theorem parts_eq {parts:Array (Nat×Operand)}{n:Nat}{ρ:Operand->Value}{xs:List Value}(h1:PO parts=List.range n)(h2:(parts.toList.map (·.2)).map ρ=xs):(parts.map λ(i,x)=>(i,ρ x))=((List.range n).zip xs).toArray:=by
 apply Array.toList_inj.1
 rw[Array.toList_map,<-h1,<-h2]
 unfold PO
 generalize parts.toList=l
 induction l with
 |nil=>rfl
 |cons p l ih=>simp only[List.map_cons,List.zip_cons_cons,ih]
theorem bs_str (l:List ByteArray)(h0:0<l.length)(h12:l.length<=12)(w:World):(Instr.buildSlice 64 l.length ((List.range l.length).zip (l.map Value.string)).toArray).run Tryz.prog w=.ok (.slice (some ⟨w.heap.size,0,none⟩) l.length l.length) (w.alloc (.cells (l.map Value.string).toArray 9)):=by
 rcases l with _|⟨a1,_|⟨a2,_|⟨a3,_|⟨a4,_|⟨a5,_|⟨a6,_|⟨a7,_|⟨a8,_|⟨a9,_|⟨a10,_|⟨a11,_|⟨a12,_|⟨a13,l⟩⟩⟩⟩⟩⟩⟩⟩⟩⟩⟩⟩⟩
 ·simp at h0
 all_goals first
  |(simp only[List.length_cons]at h12;omega)
  |(show(Instr.buildSlice 64 _ (Array.mk _)).run Tryz.prog w=_
    simp only[List.length_cons,List.length_nil,List.range,List.range.loop,List.map_cons,List.map_nil,List.zip_cons_cons,List.zip_nil_right,Nat.zero_add]
    go_simp
    try rfl)
theorem bs_byt (l:List UInt8)(h0:0<l.length)(h2:l.length<=2)(w:World):(Instr.buildSlice 135 l.length ((List.range l.length).zip (l.map λc=>Value.int .u8 (c.toNat:Int))).toArray).run Tryz.prog w=.ok (.slice (some ⟨w.heap.size,0,none⟩) l.length l.length) (w.alloc (.cells (l.map λc=>Value.int .u8 (c.toNat:Int)).toArray 5)):=by
 rcases l with _|⟨a1,_|⟨a2,_|⟨a3,l⟩⟩⟩
 ·simp at h0
 all_goals first
  |(simp only[List.length_cons]at h2;omega)
  |(show(Instr.buildSlice 135 _ (Array.mk _)).run Tryz.prog w=_
    simp only[List.length_cons,List.length_nil,List.range,List.range.loop,List.map_cons,List.map_nil,List.zip_cons_cons,List.zip_nil_right,Nat.zero_add]
    go_simp
    try rfl)
theorem Pm:(Tryz.prog.info? 9).map (λi=>(i.zero,i.size,i.bytes))=some (some (.string ⟨#[]⟩),1,16):=by kernel_rfl
theorem Oa:(Tryz.prog.info? 5).map (λi=>(i.zero,i.size,i.bytes))=some (some (.int .u8 0),1,1):=by kernel_rfl
theorem FL (hM:Wf M){w:World}(hS:Sw M w)(t:TypeId)(xs:List Value)(hx:xs.length<=1000):(w.alloc (.cells xs.toArray t)).ownsRow M.B t 1 (.slice (some ⟨w.heap.size,0,none⟩) xs.length xs.length) xs.length xs/\∀g,(Value.slice (some ⟨w.heap.size,0,none⟩) xs.length xs.length).ownBlock=some g->g∉M.fix:=by
 refine⟨⟨by omega,.inr ⟨w.heap.size,xs.length,xs.toArray,rfl,by have:=hM.B;have:=hS.size;omega,World.alloc_heap_new w _,Nat.le_refl _,by unfold maxLen;omega,by simp,by simp⟩⟩,λg hg hf=>?_⟩
 have e:w.heap.size=g:=by simpa[Value.ownBlock]using hg
 have:=hM.fix g hf
 have:=hS.size
 omega
theorem Gd (hM:Wf M){w:World}(hS:Sw M w)(t e:TypeId)(i:TypeInfo)(z:Value)(bytes:Nat)(ht:Tryz.prog.underlying t=some (.slice e))(hi:Tryz.prog.info? e=some i)(hz:i.zero=some z)(hsize:i.size=1)(hby:i.bytes=bytes)(hzs:z.cells.size=1)(hb16:bytes<=16)
 {v u:Value} {xs ys:List Value} (h1:w.ownsRow M.B e 1 v xs.length xs) (f1:∀g,v.ownBlock=some g->g∉M.fix) (h2:w.ownsRow M.B e 1 u ys.length ys) (ho:∀x∈ys,x.oneCell'=true) (hn:xs.length+ys.length<=1000000):
 ∃v' w',(Builtin.append_ #[t,t] t #[v,u]).run Tryz.prog w=.ok v' w'/\w'.ownsRow M.B e 1 v' (xs++ys).length (xs++ys)/\(∀g,v'.ownBlock=some g->g∉M.fix)/\Sw M w':=by
 obtain⟨a2,c,hu⟩:=gV h2
 have hB:M.B<=w.heap.size:=Nat.le_trans hM.B hS.size
 obtain⟨v',w',hr,hown,hg,hat⟩:=nO (w:=w) t t e i z 1 bytes ht hi hz hsize hby hzs (by decide) M.B v xs.length xs h1 a2 ys.length c ys (by omega) (λad had j x hj=>by
  have h0:0<ys.length:=by have:=(List.getElem?_eq_some_iff.1 hj).1;omega
  obtain⟨sb,cap,hv,_,hcell⟩:=gP h2 h0
  rw[hu,had]at hv
  have e1:ad=⟨sb,0,none⟩:=by injection hv with h;injection h
  rw[e1,show(⟨sb,0,none⟩:Addr).add j=⟨sb,j,none⟩from by unfold Addr.add;split<;>simp_all]
  exact hcell j x hj) (λha=>by
  rcases Nat.eq_zero_or_pos ys.length with h0|h0
  ·exact h0
  ·obtain⟨sb,cap,hv,_⟩:=gP h2 h0
   rw[hu,ha]at hv
   injection hv with h;cases h) ho (by unfold maxLen;omega) (by
  have:(xs.length+ys.length)*bytes<=1000000*16:=Nat.mul_le_mul hn hb16
  omega) hB
 refine⟨v',w',by rw[hu];exact hr,by rw[List.length_append];exact hown,λg hg2 hf=>?_,?_⟩
 ·rcases hat with h|h
  ·exact f1 g (by rw[<-h];exact hg2) hf
  ·rw[h]at hg2
   cases hg2
   have:=hM.fix _ hf
   have:=hS.size
   omega
 ·have hlow:∀g,v.ownBlock=some g->M.B<=g:=λg hg2=>by
   rcases h1.2 with⟨hv,_⟩|⟨g',cap,cur,hv,hb,_⟩
   ·rw[hv]at hg2;cases hg2
   ·rw[hv]at hg2
    have:g'=g:=by simpa[Value.ownBlock]using hg2
    omega
  refine hS.turn ⟨hg.os,hg.tape,hg.output,hg.size,λg hgB=>hg.block g (by omega) λe=>?_⟩ λg hgf=>hg.block g (by have:=hM.fix g hgf;have:=hS.size;omega) λe=>f1 g e.symm hgf
  have:=hlow g e.symm
  omega
theorem OC {l:List ByteArray}:∀x∈l.map Value.string,x.oneCell'=true:=λx hx=>by
 obtain⟨b,_,rfl⟩:=List.mem_map.1 hx
 rfl
theorem PD {l:List UInt8}:∀x∈l.map (λc=>Value.int .u8 (c.toNat:Int)),x.oneCell'=true:=λx hx=>by
 obtain⟨b,_,rfl⟩:=List.mem_map.1 hx
 rfl
theorem cat_ok (x y:SB)(h:x.1+y.1<=4611686018427387904)(p q:Operand)(w:World):(do eqGuard .add 9 p q (.string (st x)) (.string (st y));binOp .add 9 (.string (st x)) (.string (st y)):Sem Value).run Tryz.prog w=.ok (.string (st (cat x y))) w:=by
 have h1:=tT x
 have h2:=tT y
 rw[st_cat]
 have h3:¬9223372036854775807<(st x).size+(st y).size:=by omega
 generalize st x=a at h3⊢
 generalize st y=b at h3⊢
 clear h1 h2 h
 go_simp
 try rfl
theorem Nq (b:ByteArray)(w:World):(Builtin.len_ #[9] 3 #[.string b]).run Tryz.prog w=.ok (.int .i64 (b.size:Int)) w:=by
 go_simp
 try rfl
variable {M : Mem}
theorem idx_ok {ρ:Operand->Value}{o:Oper}{x y:Operand}{sb n c k:Nat}(ho:o.op=.indexAddr 64 x y)(h1:ρ x=.slice (some ⟨sb,0,none⟩) n c)(h2:ρ y=.int .i64 (k:Int))(hk:k<n)(w:World):(execOp ρ o).run Tryz.prog w=.ok (.value (.pointer (some ⟨sb,k,none⟩))) w:=by
 have hkI:(k:Int)<(n:Int):=by omega
 unfold execOp
 simp only[ho,h1,h2]
 go_simp
 try rfl
theorem N7 (hO:Ok Tryz.prog M){ov:Operand->Option PV}{ρ:Operand->Value}{w:World}(hfu:∀f,ρ (.func f)=.func (.func f) #[] #[])(hov:∀x u,ov x=some u->Den M u (ρ x) w)(hS:Sw M w){o:Oper}{r:Res}(h:act0 M ov o=some r)(Ca:∀p,r.ob=some p->p):
 kZ Tryz.prog (λv w'=>Den M r.val v w'/\Sw M w'/\(r.cons=false->Below w.heap.size w w')) ((execOp ρ o).run Tryz.prog w):=by
 have hb0:Below w.heap.size w w:=Below.refl _ _
 have hon:∀x u,(ov x).map (nv M)=some u->Den M u (ρ x) w:=λx u h=>by
  obtain⟨u',h1,rfl⟩:=Option.map_eq_some_iff.1 h
  exact FN (hov _ _ h1)
 unfold act0 at h
 split at h
 ·rename_i x ho
  split at h
  ·rename_i u hx
   cases h
   unfold execOp;simp only[ho];exact⟨hov _ _ hx,hS,λ_=>hb0⟩
  ·cases h
 ·rename_i x ho
  split at h
  ·rename_i u hx
   cases h
   unfold execOp;simp only[ho];exact⟨hov _ _ hx,hS,λ_=>hb0⟩
  ·cases h
 ·rename_i t x f ho
  split at h
  ·rename_i k j hx
   split at h
   ·rename_i d hd
    cases h
    have hx2:ρ x=M.ptr k j:=hov _ _ hx
    unfold execOp
    simp only[ho,hx2,Mem.ptr,Sem.run_bind,hO.offs t f d hd,Result.andThen_ok]
    refine⟨?_,hS,λ_=>hb0⟩
    show _=M.ptr k (j+d)
    unfold Mem.ptr
    rw[Nat.add_assoc]
   ·cases h
  ·cases h
 ·rename_i t x ho
  split at h
  ·rename_i k j hx
   split at h
   ·rename_i u hu
    split at h
    ·cases h
    ·cases h
     have hx2:ρ x=M.ptr k j:=hov _ _ hx
     obtain⟨v,hv,hd⟩:=hO.load t k j u hu w hS
     unfold execOp
     simp only[ho,hx2,Sem.run_bind,hv,Result.andThen_ok]
     exact⟨hd,hS,λ_=>hb0⟩
   ·cases h
  ·rename_i s hx
   split at h
   ·rename_i ht
    cases h
    subst ht
    obtain⟨g,j,e1,e2⟩:=hov _ _ hx
    have:=Ev.yx (t:=9) rfl ⟨g,j,none⟩ w _ e2
    unfold execOp
    simp only[ho,e1,Sem.run_bind,this,Result.andThen_ok]
    exact⟨rfl,hS,λ_=>hb0⟩
   ·cases h
  ·cases h
 ·rename_i op t x y t2 ho
  split at h
  ·rename_i a b hx hy
   split at h
   ·rename_i u hu
    split at h
    ·cases h
    ·cases h
     have hx2:=FN (hov _ _ hx)
     have hy2:=FN (hov _ _ hy)
     unfold execOp
     simp only[ho]
     generalize nv M a=na at hu hx2
     generalize nv M b=nb at hu hy2
     unfold binP at hu
     split at hu
     ·rename_i sx sy
      have hx3:ρ x=.string (st sx):=hx2
      have hy3:ρ y=.string (st sy):=hy2
      simp only[hx3,hy3]
      split at hu
      ·rename_i ht
       subst ht
       split at hu
       ·split at hu
        ·rename_i hle
         cases hu
         rw[Sem.run_bind,cat_ok sx sy hle]
         exact⟨rfl,hS,λ_=>hb0⟩
        ·cases hu
       ·cases hu
        have:=Ev.AX (op:=.eql) (t:=9) (a:=.string (st sx)) (b:=.string (st sy)) (v:=.bool ((st sx).toList==(st sy).toList)) rfl x y w
        rw[Sem.run_bind,this]
        exact⟨rfl,hS,λ_=>hb0⟩
       ·cases hu
        have:=Ev.AX (op:=.neq) (t:=9) (a:=.string (st sx)) (b:=.string (st sy)) (v:=.bool (!((st sx).toList==(st sy).toList))) rfl x y w
        rw[Sem.run_bind,this]
        exact⟨rfl,hS,λ_=>hb0⟩
       ·cases hu
      ·cases hu
     ·rename_i va vb
      have hx3:ρ x=va:=hx2
      have hy3:ρ y=vb:=hy2
      simp only[hx3,hy3]
      split at hu
      ·rename_i v hv
       cases hu
       rw[Sem.run_bind,Ev.AX hv]
       exact⟨rfl,hS,λ_=>hb0⟩
      ·split at hu
       ·rename_i v hv
        cases hu
        rw[Sem.run_bind,PW hv]
        exact⟨rfl,hS,λ_=>hb0⟩
       ·cases hu
     ·cases hu
   ·cases h
  ·cases h
 ·rename_i t x ho
  split at h
  ·rename_i b hx
   cases h
   have hx2:ρ x=.bool b:=hon _ _ hx
   unfold execOp;simp only[ho,hx2];exact⟨rfl,hS,λ_=>hb0⟩
  ·cases h
 ·rename_i a b x ho
  split at h
  ·rename_i n hx
   split at h
   ·rename_i hc
    cases h
    obtain⟨ha,rfl⟩:=hc
    have hx2:ρ x=.int .i64 n:=hon _ _ hx
    have e:IntKind.u8.wrap n=((UInt8.ofNat (n%256).toNat).toNat:Int):=by
     have h1:IntKind.u8.wrap n=n%256:=rfl
     rw[h1,UInt8.toNat_ofNat']
     omega
    unfold execOp
    simp only[ho,hx2]
    have:(convert a 5 (.int .i64 n)).run Tryz.prog w=.ok (.int .u8 (IntKind.u8.wrap n)) w:=by
     rcases ha with rfl|rfl<;>(go_simp;try rfl)
    rw[Sem.run_bind,this,e]
    exact⟨rfl,hS,λ_=>hb0⟩
   ·cases h
  ·rename_i c l hx
   split at h
   ·rename_i hc
    cases h
    obtain⟨rfl,rfl⟩:=hc
    obtain⟨h1,_⟩:=hon _ _ hx
    obtain⟨sb,cap,hv,_,hcell⟩:=gP h1 (by simp)
    have:(convert 135 9 (.slice (some ⟨sb,0,none⟩) (c::l).length cap)).run Tryz.prog w=.ok (.string ⟨(c::l).toArray⟩) w:=by
     refine run_convert_bytes_back _ _ _ _ ⟨sb,0,none⟩ cap (c::l) Tryz.underlying135 Tryz.underlying5 Tryz.underlying9 (λj hj=>?_)
     rw[show(⟨sb,0,none⟩:Addr).add j=⟨sb,j,none⟩from by unfold Addr.add;split<;>simp_all]
     refine hcell j _ ?_
     rw[List.getElem?_map,List.getElem?_eq_getElem hj]
     rfl
    unfold execOp
    simp only[ho,hv]
    rw[Sem.run_bind,this]
    refine⟨?_,hS,λ_=>hb0⟩
    show Value.string _=.string (st (l.length+1,⟨(c::l).toArray⟩))
    rw[show st (l.length+1,⟨(c::l).toArray⟩)=⟨(c::l).toArray⟩from jP (Nat.le_refl _)]
   ·cases h
  ·cases h
 ·rename_i c x y ho
  split at h
  ·rename_i hc
   split at h
   ·rename_i u hu
    split at h
    ·cases h
    ·cases h
     have hc2:ρ c=.bool true:=hon _ _ hc
     unfold execOp;simp only[ho,hc2];exact⟨hov _ _ hu,hS,λ_=>hb0⟩
   ·cases h
  ·rename_i hc
   split at h
   ·rename_i u hu
    split at h
    ·cases h
    ·cases h
     have hc2:ρ c=.bool false:=hon _ _ hc
     unfold execOp;simp only[ho,hc2];exact⟨hov _ _ hu,hS,λ_=>hb0⟩
   ·cases h
  ·cases h
 ·rename_i t n parts ho
  split at h
  ·rename_i hi
   obtain⟨hi,hn0,hn12⟩:=hi
   split at h
   ·rename_i us Jw
    have hd:=jo hov Jw
    have hlen:parts.toList.length=n:=by
     have:=congrArg List.length hi
     unfold PO at this
     simpa using this
    split at h
    ·rename_i ht
     subst ht
     split at h
     ·rename_i l hl
      cases h
      have hys:=Fx hl hd
      have hll:l.length=n:=by
       have:=congrArg List.length hys
       simp only[List.length_map]at this
       omega
      have e:=parts_eq hi hys
      have hb:=bs_str (l.map st) (by simpa using(by omega:0<l.length)) (by simpa using(by omega:l.length<=12)) w
      rw[List.length_map,hll]at hb
      unfold execOp
      simp only[ho,e,Sem.run_bind,hb,Result.andThen_ok]
      have hown:=FL hO.wf hS 9 ((l.map st).map Value.string) (by simp;omega)
      simp only[List.length_map,hll]at hown
      have oC:Below w.heap.size w (w.alloc (.cells ((l.map st).map Value.string).toArray 9)):=hb0.alloc (Nat.le_refl _) _
      refine⟨?_,hS.below hO.wf oC,λ_=>oC⟩
      show Js M _ (l.map st) _
      unfold Js
      rw[List.length_map,hll]
      exact hown
     ·cases h
    ·split at h
     ·rename_i ht
      obtain⟨rfl,hn2⟩:=ht
      split at h
      ·rename_i l hl
       cases h
       have hys:=Ff hl hd
       have hll:l.length=n:=by
        have:=congrArg List.length hys
        simp only[List.length_map]at this
        omega
       have e:=parts_eq hi hys
       have hb:=bs_byt l (by omega) (by omega) w
       rw[hll]at hb
       unfold execOp
       simp only[ho,e,Sem.run_bind,hb,Result.andThen_ok]
       have hown:=FL hO.wf hS 5 (l.map λc=>Value.int .u8 (c.toNat:Int)) (by simp;omega)
       simp only[List.length_map,hll]at hown
       have oC:Below w.heap.size w (w.alloc (.cells (l.map λc=>Value.int .u8 (c.toNat:Int)).toArray 5)):=hb0.alloc (Nat.le_refl _) _
       refine⟨?_,hS.below hO.wf oC,λ_=>oC⟩
       show La M _ l _
       unfold La
       rw[hll]
       exact hown
      ·cases h
     ·cases h
   ·cases h
  ·cases h
 ·rename_i t x y ho
  split at h
  ·rename_i l k hx hy
   split at h
   ·rename_i ht
    obtain⟨rfl,hk⟩:=ht
    split at h
    ·rename_i s hs
     cases h
     obtain⟨h1,_⟩:=hov _ _ hx
     have hy2:ρ y=.int .i64 k:=hon _ _ hy
     have hkl:k.toNat<l.length:=(List.getElem?_eq_some_iff.1 hs).1
     obtain⟨sb,cap,hv,_,hcell⟩:=gP h1 (by simp;omega)
     rw[List.length_map]at hv
     have hkI:k<(l.length:Int):=by omega
     rw[idx_ok (k:=k.toNat) ho hv (by rw[hy2];congr 1;omega) hkl w]
     refine⟨⟨sb,k.toNat,rfl,hcell _ _ ?_⟩,hS,λ_=>hb0⟩
     rw[List.getElem?_map,List.getElem?_map,hs]
     rfl
    ·cases h
   ·cases h
  ·cases h
 ·rename_i f args ts ho
  split at h
  ·rename_i us Jw
   split at h
   ·rename_i u c b hc
    cases h
    obtain⟨h1,h2⟩:=hO.call _ _ _ _ _ hc Ca
    have hd:=jo hov Jw
    have hargs:args.map ρ=(args.toList.map ρ).toArray:=by
     apply Array.toList_inj.1
     simp
    have hf:ρ (.func f)=.func (.func f) #[] #[]:=hfu f
    unfold execOp
    simp[ho,resolve,invoke,hf,hargs,Deferred.ofValue,h1]
    refine(h2 _ w hS hd).mono ?_
    rintro e w' ⟨v,rfl,q1,q2,q3⟩
    exact⟨v,rfl,q1,q2,q3⟩
   ·cases h
  ·cases h
 ·rename_i args ts ho
  split at h
  ·rename_i x y hxy
   have hargs:args=#[x,y]:=Array.toList_inj.1 hxy
   subst hargs
   split at h
   ·rename_i l m hx hy
    split at h
    ·rename_i hc
     obtain⟨rfl,hty⟩:=hc
     have hE:r.val=.sl (l++m)/\r.cons=true/\l.length+m.length<=1000000:=by
      split at h
      ·cases h;exact⟨rfl,rfl,Ca _ rfl⟩
      ·split at h
       ·cases h;exact⟨rfl,rfl,by assumption⟩
       ·cases h
     obtain⟨e1,e2,hn⟩:=hE
     rw[e1,e2]
     obtain⟨h1,f1⟩:=hov _ _ hx
     obtain⟨h2,f2⟩:=hov _ _ hy
     obtain⟨i0,hii,hz0,hz1,hz2⟩:=info_parts Pm
     obtain⟨v',w',hr,hown,hf,hS'⟩:=Gd hO.wf hS 64 9 i0 (.string ⟨#[]⟩) 16 Tryz.underlying64 hii hz0 hz1 hz2 rfl (by decide) (v:=ρ x) (u:=ρ y) (xs:=(l.map st).map .string) (ys:=(m.map st).map .string) (by simpa using h1) f1 (by simpa using h2) OC (by simpa using hn)
     unfold execOp
     simp only[ho,hty,resolve,invoke,builtin,Sem.run_bind,Sem.run_pure,Result.andThen_ok,List.map_toArray,List.map_cons,List.map_nil,hr]
     refine⟨?_,hS',λhc=>by cases hc⟩
     show Js M v' ((l++m).map st) w'
     unfold Js
     rw[List.map_append,List.map_append,List.length_append]
     refine⟨?_,hf⟩
     simpa using hown
    ·cases h
   ·rename_i l m hx hy
    split at h
    ·rename_i hc
     obtain⟨rfl,hty,hn⟩:=hc
     cases h
     obtain⟨h1,f1⟩:=hov _ _ hx
     obtain⟨h2,f2⟩:=hov _ _ hy
     obtain⟨i0,hii,hz0,hz1,hz2⟩:=info_parts Oa
     obtain⟨v',w',hr,hown,hf,hS'⟩:=Gd hO.wf hS 135 5 i0 (.int .u8 0) 1 Tryz.underlying135 hii hz0 hz1 hz2 rfl (by decide) (v:=ρ x) (u:=ρ y) (xs:=l.map λc=>.int .u8 (c.toNat:Int)) (ys:=m.map λc=>.int .u8 (c.toNat:Int)) (by simpa using h1) f1 (by simpa using h2) PD (by simpa using hn)
     unfold execOp
     simp only[ho,hty,resolve,invoke,builtin,Sem.run_bind,Sem.run_pure,Result.andThen_ok,List.map_toArray,List.map_cons,List.map_nil,hr]
     refine⟨?_,hS',λhc=>by cases hc⟩
     show La M v' (l++m) w'
     unfold La
     rw[List.map_append,List.length_append]
     refine⟨?_,hf⟩
     simpa using hown
    ·cases h
   ·cases h
  ·cases h
 ·rename_i args ts ho
  split at h
  ·rename_i x hxy
   have hargs:args=#[x]:=Array.toList_inj.1 hxy
   subst hargs
   split at h
   ·rename_i b hx
    split at h
    ·rename_i hc
     obtain⟨rfl,hty⟩:=hc
     cases h
     have h1:ρ x=.string (st b):=hov _ _ hx
     have hl:=Nq (st b) w
     unfold execOp
     simp only[ho,hty,resolve,invoke,builtin,Sem.run_bind,Sem.run_pure,Result.andThen_ok,List.map_toArray,List.map_cons,List.map_nil,h1,hl]
     exact⟨rfl,hS,λ_=>hb0⟩
    ·cases h
   ·rename_i l hx
    split at h
    ·rename_i hc
     subst hc
     cases h
     obtain⟨h1,f1⟩:=hov _ _ hx
     obtain⟨a2,c,hv⟩:=gV h1
     rw[List.length_map]at hv
     have hl:∀ty:TypeId,(Builtin.len_ #[64] ty #[.slice a2 l.length c]).run Tryz.prog w=.ok (.int .i64 (l.length:Int)) w:=λty=>by
      go_simp
      try rfl
     unfold execOp
     simp only[ho,resolve,invoke,builtin,Sem.run_bind,Sem.run_pure,Result.andThen_ok,List.map_toArray,List.map_cons,List.map_nil,hv,hl]
     exact⟨rfl,hS,λ_=>hb0⟩
    ·cases h
   ·cases h
  ·cases h
 ·cases h
theorem Ei (hO:Ok Tryz.prog M){ov:Operand->Option PV}{ρ:Operand->Value}{w:World}(hfu:∀f,ρ (.func f)=.func (.func f) #[] #[])(hov:∀x u,ov x=some u->Den M u (ρ x) w)(hS:Sw M w){o:Oper}{r:Res}(h:act M ov o=some r)(Ca:∀p,r.ob=some p->p):
 kZ Tryz.prog (λv w'=>Den M r.val v w'/\Sw M w'/\(r.cons=false->Below w.heap.size w w')) ((execOp ρ o).run Tryz.prog w):=by
 unfold act at h
 split at h
 ·rename_i r' hr
  cases h
  have key:(∀p,r'.ob=some p->p)->_:=λh=>N7 hO hfu hov hS hr h
  obtain⟨v0,c0,u0,b0⟩:=r'
  by_cases hc:∃p t b,v0=.v (.bool p)/\b0=none/\o.dst=some t/\M.tst t=some b
  ·obtain⟨p,t,b,rfl,rfl,e3,e4⟩:=hc
   have et:told M o ⟨.v (.bool p),c0,u0,none⟩=⟨.v (.bool b),c0,u0,some (p=b)⟩:=by
    unfold told
    simp only[e3,e4]
   rw[et]at Ca⊢
   obtain rfl:p=b:=Ca _ rfl
   exact key λq hq=>by cases hq
  ·have et:told M o ⟨v0,c0,u0,b0⟩=⟨v0,c0,u0,b0⟩:=by
    unfold told
    split
    ·rename_i p t e1 e2 e3
     split
     ·rename_i b e4
      exact absurd ⟨p,t,b,e1,e2,e3,e4⟩ hc
     ·rfl
    ·rfl
   rw[et]at Ca⊢
   exact key Ca
 split at h
 ·rename_i u hu
  split at h
  ·cases h
  ·cases h
   obtain⟨v,h1,h2⟩:=hO.oth o ov u hu ρ w hfu hS hov
   rw[h1]
   exact⟨h2,hS,λ_=>Below.refl _ _⟩
 ·cases h
variable {M : Mem}
def looks (ops:Array Oper)(o:Oper):Operand->Bool
 | .tmp t=>(o.looksAt ops).contains t
 |_=>true
def ovR (K:List (Nat×PV))(ops:Array Oper)(rs:List Ent)(o:Oper)(x:Operand):Option PV:=if looks ops o x=true then opd K rs x else none
def FO (K:List (Nat×PV))(ops:Array Oper)(rs:List Ent)(o:Oper):Bool:=(o.looksAt ops).any λt=>match opd K rs (.tmp t)with
 |some u=>u.mem
 |none=>false
def Ea (M:Mem)(K:List (Nat×PV))(ops:Array Oper)(rs:List Ent)(o:Oper):Option Ent:=match act M (ovR K ops rs o) o with
 |some r=>some {dst:=o.dst,val:=r.val,cons:=r.cons,uses:=FO K ops rs o,ob:=r.ob}
 |none=>none
def ent (M:Mem)(K:List (Nat×PV))(ops:Array Oper)(rs:List Ent)(o:Oper):Option Ent:=match o.guard with
 |none=>Ea M K ops rs o
 |some (j,want)=>match rs[j]? with
  |some e=>match e.dst,e.val with
   |some _,.v (.bool true)=>if want=true then Ea M K ops rs o else some {dst:=o.dst,val:=.v undef,cons:=false,uses:=false,skip:=true}
   |some _,.v (.bool false)=>if want=false then Ea M K ops rs o else some {dst:=o.dst,val:=.v undef,cons:=false,uses:=false,skip:=true}
   |_,_=>none
  |none=>none
def run (M:Mem)(K:List (Nat×PV))(ops:Array Oper):List Ent->List Oper->Option (List Ent)
 |rs,[]=>some rs
 |rs,o::l=>match ent M K ops rs o with
  |some e=>run M K ops (rs++[e]) l
  |none=>none
def sched (ops:Array Oper)(rs:List Ent):Bool:=(List.range rs.length).all λc=>match rs[c]? with
 |some e=>!e.cons||(((List.range c).all λi=>match rs[i]? with
  |some ei=>!ei.uses||(anc ops c).contains i
  |none=>true)&&(List.range rs.length).all λi=>match rs[i]? with
  |some ei=>!(ei.val.mem&&decide (c<i))||(anc ops i).contains c
  |none=>true)
 |none=>true
theorem gN {t:Nat}:∀{l:List Ent} {k i:Nat} {e:Ent},find t l k=some (i,e)->k<=i/\l[i-k]? =some e/\e.dst=some t
 |[],_,_,_,h=>by cases h
 |x::l,k,i,e,h=>by
  unfold find at h
  split at h
  ·rename_i hx
   cases h
   exact⟨Nat.le_refl _,by simp,hx⟩
  ·obtain⟨h1,h2,h3⟩:=gN h
   refine⟨by omega,?_,h3⟩
   rw[show i-k=(i-(k+1))+1 from by omega]
   simpa using h2
theorem yC {t:Nat}:∀{l:List Ent} {k:Nat},find t l k=none->∀(i:Nat) (e:Ent),l[i]? =some e->e.dst≠some t
 |[],_,_,i,e,hi=>by simp at hi
 |x::l,k,h,i,e,hi=>by
  unfold find at h
  split at h
  ·cases h
  ·rename_i hx
   cases i with
   |zero=>simp at hi;subst hi;exact hx
   |succ i=>exact yC h i e (by simpa using hi)
theorem lD:∀(l:List Ent) (k a b:Nat),a<=k->kT l k a<=b->a<=b/\∀(c:Nat) (e:Ent),l[c]? =some e->e.cons=true->k+c+1<=b
 |[],k,a,b,_,h=>⟨h,λc e hc=>by simp at hc⟩
 |x::l,k,a,b,hak,h=>by
  unfold kT at h
  obtain⟨h1,h2⟩:=lD l (k+1) _ b (by split<;>omega) h
  refine⟨by split at h1<;>omega,λc e hc kP=>?_⟩
  cases c with
  |zero=>
   simp at hc
   subst hc
   rw[if_pos kP]at h1
   omega
  |succ c=>
   have:=h2 c e (by simpa using hc) kP
   omega
theorem dN {K:List (Nat×PV)}{ops:Array Oper}{l:List Oper}:∀{r0 rs:List Ent},run M K ops r0 l=some rs->∃t,rs=r0++t/\t.length=l.length:=by
 induction l with
 |nil=>intro r0 rs h;cases h;exact⟨[],by simp,rfl⟩
 |cons o l ih=>
  intro r0 rs h
  unfold run at h
  split at h
  ·obtain⟨t,h1,h2⟩:=ih h
   exact⟨_::t,by rw[h1,List.append_assoc];rfl,by simp[h2]⟩
  ·cases h
theorem tK {K:List (Nat×PV)}{ops:Array Oper}{l:List Oper}:∀{r0 rs:List Ent},run M K ops r0 l=some rs->∀(i:Nat) (o:Oper),l[i]? =some o->∃e,rs[r0.length+i]? =some e/\ent M K ops (rs.take (r0.length+i)) o=some e:=by
 induction l with
 |nil=>intro r0 rs h i o hi;simp at hi
 |cons o l ih=>
  intro r0 rs h i o2 hi
  have h0:=h
  unfold run at h
  split at h
  ·rename_i e he
   obtain⟨t,h1,h2⟩:=dN h
   cases i with
   |zero=>
    simp at hi
    subst hi
    refine⟨e,by rw[h1];simp,?_⟩
    rw[h1,Nat.add_zero,List.append_assoc,List.take_left]
    exact he
   |succ i=>
    obtain⟨e2,k1,k2⟩:=ih h i o2 (by simpa using hi)
    rw[List.length_append,List.length_singleton]at k1 k2
    exact⟨e2,by rw[<-k1];congr 1;omega,by rw[<-k2];congr 2;omega⟩
  ·cases h
theorem zX {K:List (Nat×PV)}{ops:Array Oper}{rs:List Ent}{o:Oper}{e:Ent}(h:ent M K ops rs o=some e):e.dst=o.dst:=by
 unfold ent at h
 have hA:∀e,Ea M K ops rs o=some e->e.dst=o.dst:=λe h=>by
  unfold Ea at h
  split at h
  ·cases h;rfl
  ·cases h
 repeat' split at h
 all_goals first|exact hA _ h|(cases h;rfl)|cases h
theorem jZ:∀{K:List (Nat×PV)} {t:Nat} {u:PV},look K t=some u->(t,u)∈K
 |[],_,_,h=>by cases h
 |(s,v)::K,t,u,h=>by
  unfold look at h
  split at h
  ·rename_i hs;subst hs;cases h;exact List.mem_cons_self ..
  ·exact List.mem_cons_of_mem _ (jZ h)
def alive (rs:List Ent)(i:Nat)(dn:Nat->Bool):Prop:=∀(c:Nat) (e:Ent),rs[c]? =some e->e.cons=true->i<c->dn c=false
def LK (rs:List Ent)(dn:Nat->Bool):Prop:=∀(c:Nat) (e:Ent),rs[c]? =some e->e.cons=true->dn c=false
structure EH (M:Mem)(K:List (Nat×PV))(ops:Array Oper)(rs:List Ent)(a0:Act)(dn:Nat->Bool)(a:Act)(w:World):Prop where
 size:a.tmps.size=a0.tmps.size
 defers:a.defers=a0.defers
 sw:Sw M w
 rest:∀t:Nat,(∀(j:Nat) (oj:Oper),ops[j]? =some oj->dn j=true->oj.dst≠some t)->a.tmps[t]? =a0.tmps[t]?
 done:∀(j:Nat) (e:Ent) (d:Nat),rs[j]? =some e->dn j=true->e.dst=some d->(e.val.mem=true->alive rs j dn)->∃v,a.tmps[d]? =some v/\Den M e.val v w
 knownM:∀t u,(t,u)∈K->(u.mem=true->LK rs dn)->∃v,a0.tmps[t]? =some v/\Den M u v w
def okR (n:Nat)(ops:Array Oper):Bool:=cZ ops&&ops.toList.all λ(o:Oper)=>match o.dst with
 |some d=>decide (d<n)
 |none=>true
theorem vU (v:Value)(w:World)(M:Mem):Den M (cst v) v w:=by
 unfold cst
 split
 ·rename_i b
  show Value.string b=.string (st (b.size,b))
  rw[st_lit]
 ·exact⟨World.ownsRow_nil _ _ _ _,λg hg=>by cases hg⟩
 ·rename_i x
  split
  ·rename_i hx
   show Value.int .u8 x=.int .u8 ((UInt8.ofNat x.toNat).toNat:Int)
   congr 1
   rw[UInt8.toNat_ofNat']
   omega
  ·rfl
 ·rfl
section
variable {K : List (Nat × PV)} {ops : Array Oper} {rs : List Ent} {a0 a : Act} {w : World} {dn : Nat → Bool} {i : Nat} {o : Oper}
theorem Je {t:Nat}{u:PV}{r:List Ent}(hl:t∈o.looksAt ops)(h:opd K r (.tmp t)=some u)(hu:u.mem=true):FO K ops r o=true:=by
 unfold FO
 rw[List.any_eq_true]
 exact⟨t,hl,by rw[h];exact hu⟩
theorem yJ {t:Nat}{v:Value}(h:a.tmps[t]? =some v):a.eval (.tmp t)=v:=eval_at h
theorem kE (hd:cZ ops=true)(hrun:run M K ops [] ops.toList=some rs)(hsc:sched ops rs=true)(hi:ops[i]? =some o)(hu:dn i=false)(ha:∀e∈o.after,Region.binds .any e=true->dn e.on=true)(hC:Closed ops dn)(hI:EH M K ops rs a0 dn a w)
 {ei:Ent} (NJ:rs[i]? =some ei) (Jw:FO K ops (rs.take i) o=true->ei.uses=true) {x:Operand} {u:PV} (h:ovR K ops (rs.take i) o x=some u):Den M u (a.eval x) w:=by
 unfold ovR at h
 split at h
 ·rename_i hl
  have hlen:rs.length=ops.size:=by
   obtain⟨t,h1,h2⟩:=dN hrun
   rw[h1];simpa using h2
  have hilt:i<ops.size:=(Array.getElem?_eq_some_iff.1 hi).1
  have hdst:∀(j:Nat) (e:Ent),rs[j]? =some e->∃oj,ops[j]? =some oj/\e.dst=oj.dst:=λj e hj=>by
   have hjl:j<ops.size:=by have:=(List.getElem?_eq_some_iff.1 hj).1;omega
   obtain⟨e2,k1,k2⟩:=tK hrun j ops[j] (by simp[hjl])
   rw[List.length_nil,Nat.zero_add]at k1
   have:e=e2:=Option.some.inj (hj.symm.trans k1)
   subst this
   exact⟨ops[j],by simp[hjl],zX k2⟩
  have hlive:∀(c:Nat) (e:Ent),rs[c]? =some e->e.cons=true->i<c->ei.uses=true->dn c=false:=λc e hc kP hic Oo=>by
   cases Jp:dn c with
   |false=>rfl
   |true=>
    exfalso
    have hcl:c<rs.length:=(List.getElem?_eq_some_iff.1 hc).1
    have h1:=List.all_eq_true.1 hsc c (List.mem_range.2 hcl)
    rw[hc]at h1
    simp only[kP,Bool.not_true,Bool.false_or,Bool.and_eq_true]at h1
    have h2:=List.all_eq_true.1 h1.1 i (List.mem_range.2 hic)
    rw[NJ]at h2
    simp only[Oo,Bool.not_true,Bool.false_or]at h2
    obtain⟨oc,hoc⟩:∃oc,ops[c]? =some oc:=⟨_,Array.getElem?_eq_getElem (by omega)⟩
    have:=CR hC hoc (λe he hb=>hC c oc hoc Jp e he hb) i (by simpa using h2)
    rw[hu]at this
    cases this
  cases x with
  |const v=>
   have h:some (cst v)=some u:=h
   cases h
   exact vU v w M
  |tmp t=>
   have hlt:t∈o.looksAt ops:=by simpa[looks]using hl
   have Oo:=λhm=>Jw (Je hlt h hm)
   have h:opT K (rs.take i) t=some u:=h
   unfold opT at h
   split at h
   ·rename_i j e hf
    obtain⟨-,f2,f3⟩:=gN hf
    rw[Nat.sub_zero]at f2
    have hji:j<i:=by
     have:=(List.getElem?_eq_some_iff.1 f2).1
     rw[List.length_take]at this
     omega
    have f4:rs[j]? =some e:=by rw[List.getElem?_take,if_pos hji]at f2;exact f2
    obtain⟨oj,g1,g2⟩:=hdst j e f4
    have hdn:dn j=true:=by
     rcases looks_at hd hi hu ha hC hlt with⟨j',oj',h1,h2,h3,h4⟩|⟨_,h2⟩
     ·have:j'=j:=by
       by_cases hjj:j'=j
       ·exact hjj
       ·exact absurd (g2▸f3) (iT hd g1 h2 hjj h3)
      rw[<-this];exact h4
     ·exact absurd (g2▸f3) (h2 j oj hji g1)
    have hA:e.val.mem=true->(if e.val.mem=true then(if kT (rs.take i) 0 0<=j+1 then some e.val else none)else some e.val)=some u->alive rs j dn:=λhm hx=>by
     rw[if_pos hm]at hx
     split at hx
     ·rename_i hle
      cases hx
      intro c ec hc kP hjc
      by_cases hic:i<c
      ·exact hlive c ec hc kP hic (Oo hm)
      ·by_cases hci:c=i
       ·subst hci;exact hu
       ·have:=(lD _ 0 0 _ (Nat.le_refl _) hle).2 c ec (by rw[List.getElem?_take,if_pos (by omega)];exact hc) kP
        omega
     ·cases hx
    have hval:u=e.val:=by
     split at h
     ·split at h
      ·cases h;rfl
      ·cases h
     ·cases h;rfl
    obtain⟨v,k1,k2⟩:=hI.done j e t f4 hdn f3 (λhm=>hA hm h)
    rw[yJ k1,hval]
    exact k2
   ·rename_i hf
    have hnone:=yC hf
    have hr:∀(j:Nat) (oj:Oper),ops[j]? =some oj->dn j=true->oj.dst≠some t:=by
     rcases looks_at hd hi hu ha hC hlt with⟨j',oj',h1,h2,h3,h4⟩|⟨h1,_⟩
     ·exfalso
      obtain⟨ej,Jb⟩:∃ej,rs[j']? =some ej:=⟨_,List.getElem?_eq_getElem (by omega)⟩
      obtain⟨oj2,g1,g2⟩:=hdst j' ej Jb
      rw[h2]at g1
      cases g1
      exact hnone j' ej (by rw[List.getElem?_take,if_pos h1];exact Jb) (g2.trans h3)
     ·exact h1
    have h2:=hI.rest t hr
    split at h
    ·rename_i u' hk
     have hA:u'.mem=true->(if u'.mem=true then(if kT (rs.take i) 0 0=0 then some u' else none)else some u')=some u->LK rs dn:=λhm hx=>by
      rw[if_pos hm]at hx
      split at hx
      ·rename_i hle
       cases hx
       intro c ec hc kP
       by_cases hic:i<c
       ·exact hlive c ec hc kP hic (Oo hm)
       ·by_cases hci:c=i
        ·subst hci;exact hu
        ·have:=(lD _ 0 0 0 (Nat.le_refl _) (Nat.le_of_eq hle)).2 c ec (by rw[List.getElem?_take,if_pos (by omega)];exact hc) kP
         omega
      ·cases hx
     have hval:u=u':=by
      split at h
      ·split at h
       ·cases h;rfl
       ·cases h
      ·cases h;rfl
     obtain⟨v,k1,k2⟩:=hI.knownM t u' (jZ hk) (λhm=>hA hm h)
     rw[yJ (h2.trans k1),hval]
     exact k2
    ·cases h
  |global g=>cases h
  |func f=>cases h
 ·cases h
theorem A9 {tmps:Array Value}(h:o.guard=none):Region.wanted o (yielded ops tmps)=true:=by unfold Region.wanted;rw[h]
theorem PR (hd:cZ ops=true){n:Nat}(hok:okR n ops=true)(hn:a0.tmps.size=n)(hrun:run M K ops [] ops.toList=some rs)(hsc:sched ops rs=true)(hi:ops[i]? =some o)(hu:dn i=false)(hC:Closed ops dn)(hI:EH M K ops rs a0 dn a w)
 {ei:Ent} (NJ:rs[i]? =some ei) {v:Value} {w':World} (hv:Den M ei.val v w') (hS:Sw M w') (hb:ei.cons=false->Below w.heap.size w w'):EH M K ops rs a0 (λj=>dn j||j==i) (a.put o.dst v) w':=by
 have hlen:rs.length=ops.size:=by
  obtain⟨t,h1,h2⟩:=dN hrun
  rw[h1];simpa using h2
 have hdst:∀(j:Nat) (e:Ent),rs[j]? =some e->∃oj,ops[j]? =some oj/\e.dst=oj.dst:=λj e hj=>by
  have hjl:j<ops.size:=by have:=(List.getElem?_eq_some_iff.1 hj).1;omega
  obtain⟨e2,k1,k2⟩:=tK hrun j ops[j] (by simp[hjl])
  rw[List.length_nil,Nat.zero_add]at k1
  have:e=e2:=Option.some.inj (hj.symm.trans k1)
  subst this
  exact⟨ops[j],by simp[hjl],zX k2⟩
 have hor:∀j,(dn j||j==i)=true↔(dn j=true\/j=i):=λj=>by rw[Bool.or_eq_true,beq_iff_eq]
 have hput:∀d:Nat,o.dst≠some d->(a.put o.dst v).tmps[d]? =a.tmps[d]?:=λd hne=>by
  unfold Act.put
  split
  ·rename_i d2 h2
   show(a.tmps.setIfInBounds d2 v)[d]? =_
   rw[Array.getElem?_setIfInBounds_ne]
   rintro rfl
   exact hne h2
  ·rfl
 have hsz:(a.put o.dst v).tmps.size=a.tmps.size:=by
  unfold Act.put
  split
  ·show(a.tmps.setIfInBounds _ v).size=_
   simp
  ·rfl
 have hdf:(a.put o.dst v).defers=a.defers:=by
  unfold Act.put
  split<;>rfl
 have kP:ei.cons=true->∀dn':Nat->Bool,dn' i=true->∀(j:Nat),j<i->¬alive rs j dn':=λhc dn' hdi j hji hal=>by
  have:=hal i ei NJ hc hji
  rw[hdi]at this;cases this
 refine⟨hsz.trans hI.size,hdf.trans hI.defers,hS,λt ht=>?_,λj e d hj hdj zb hal=>?_,λt u ht hal=>?_⟩
 ·rw[hput t (λh=>ht i o hi (by show(dn i||i==i)=true;simp) h)]
  exact hI.rest t λj oj hj hdj=>ht j oj hj (by show(dn j||j==i)=true;rw[hdj];rfl)
 ·by_cases hji:j=i
  ·subst hji
   rw[NJ]at hj
   cases hj
   obtain⟨oj,g1,g2⟩:=hdst j ei NJ
   rw[hi]at g1
   cases g1
   have hod:o.dst=some d:=g2.symm.trans zb
   have hdn:d<a.tmps.size:=by
    rw[hI.size,hn]
    unfold okR at hok
    rw[Bool.and_eq_true]at hok
    have:=List.all_eq_true.1 hok.2 o (List.mem_of_getElem? (by simpa using hi))
    rw[hod]at this
    simpa using this
   refine⟨v,?_,hv⟩
   rw[hod]
   show(a.tmps.setIfInBounds d v)[d]? =some v
   simp[hdn]
  ·have hdj2:dn j=true:=by rcases(hor j).1 hdj with h|h;exact h;exact absurd h hji
   obtain⟨oj,g1,g2⟩:=hdst j e hj
   have hne:o.dst≠some d:=iT hd hi g1 hji (g2▸zb)
   rw[hput d hne]
   cases hm:e.val.mem with
   |false=>
    obtain⟨x,k1,k2⟩:=hI.done j e d hj hdj2 zb (λh=>by rw[hm]at h;cases h)
    exact⟨x,k1,k2.any hm⟩
   |true=>
    have hal:=hal hm
    cases hc:ei.cons with
    |true=>
     exfalso
     rcases Nat.lt_trichotomy j i with h|h|h
     ·exact kP hc _ (by show(dn i||i==i)=true;simp) j h hal
     ·exact hji h
     ·have hil:i<rs.length:=(List.getElem?_eq_some_iff.1 NJ).1
      have h1:=List.all_eq_true.1 hsc i (List.mem_range.2 hil)
      rw[NJ]at h1
      simp only[hc,Bool.not_true,Bool.false_or,Bool.and_eq_true]at h1
      have h2:=List.all_eq_true.1 h1.2 j (List.mem_range.2 (List.getElem?_eq_some_iff.1 hj).1)
      rw[hj]at h2
      simp only[hm,h,decide_true,Bool.and_self,Bool.not_true,Bool.false_or]at h2
      have:=CR hC g1 (λe he hb=>hC j oj g1 hdj2 e he hb) i (by simpa using h2)
      rw[hu]at this
      cases this
    |false=>
     obtain⟨x,k1,k2⟩:=hI.done j e d hj hdj2 zb (λ_ c ec hc' hcc hjc=>by
      have:=hal c ec hc' hcc hjc
      have h2:(dn c||c==i)=false:=this
      rw[Bool.or_eq_false_iff]at h2
      exact h2.1)
     exact⟨x,k1,k2.below (hb hc)⟩
 ·cases hm:u.mem with
  |false=>
   obtain⟨x,k1,k2⟩:=hI.knownM t u ht (λh=>by rw[hm]at h;cases h)
   exact⟨x,k1,k2.any hm⟩
  |true=>
   have hal:=hal hm
   cases hc:ei.cons with
   |true=>
    exfalso
    have:=hal i ei NJ hc
    have h2:(dn i||i==i)=false:=this
    simp at h2
   |false=>
    obtain⟨x,k1,k2⟩:=hI.knownM t u ht (λ_ c ec hc' hcc=>by
     have:=hal c ec hc' hcc
     have h2:(dn c||c==i)=false:=this
     rw[Bool.or_eq_false_iff]at h2
     exact h2.1)
    exact⟨x,k1,k2.below (hb hc)⟩
end
structure FrP (M:Mem)(n:Nat)(K:List (Nat×PV))(a:Act)(w:World):Prop where
 size:a.tmps.size=n
 defers:a.defers=[]
 look:∀t u,(t,u)∈K->∃v,a.tmps[t]? =some v/\Den M u v w
def news (rs:List Ent):List Ent->Nat->List (Nat×PV)
 |[],_=>[]
 |e::l,i=>match e.dst with
  |some d=>if e.val.mem=true/\¬kT rs 0 0<=i+1 then news rs l (i+1)else(d,e.val)::news rs l (i+1)
  |none=>news rs l (i+1)
def keep (K:List (Nat×PV))(ops:Array Oper)(rs:List Ent):List (Nat×PV):=K.filter λp=>(ops.toList.all λo=>o.dst !=some p.1)&&(!p.2.mem||decide (kT rs 0 0=0))
theorem jT {rs:List Ent}:∀{l:List Ent} {k d:Nat} {u:PV},(d,u)∈news rs l k->∃(i:Nat) (e:Ent),l[i]? =some e/\e.dst=some d/\e.val=u/\(u.mem=true->kT rs 0 0<=k+i+1)
 |[],_,_,_,h=>by cases h
 |e::l,k,d,u,h=>by
  have rec_:(d,u)∈news rs l (k+1)->∃(i:Nat) (e':Ent),(e::l)[i]? =some e'/\e'.dst=some d/\e'.val=u/\(u.mem=true->kT rs 0 0<=k+i+1):=λh=>by
   obtain⟨i,e',h1,h2,h3,h4⟩:=jT h
   exact⟨i+1,e',by simpa using h1,h2,h3,λhm=>by have:=h4 hm;omega⟩
  unfold news at h
  split at h
  ·rename_i d2 hd
   split at h
   ·exact rec_ h
   ·rename_i hc
    rcases List.mem_cons.1 h with h3|h3
    ·cases h3
     exact⟨0,e,rfl,hd,rfl,λhm=>Classical.byContradiction λhx=>hc ⟨hm,hx⟩⟩
    ·exact rec_ h3
  ·exact rec_ h
theorem Jv {K:List (Nat×PV)}{ops:Array Oper}{rs:List Ent}{t:Nat}{u:PV}(hm:(t,u)∈keep K ops rs):(t,u)∈K/\(∀o:Oper,o∈ops.toList->o.dst≠some t)/\(u.mem=true->kT rs 0 0=0):=by
 unfold keep at hm
 obtain⟨h1,h2⟩:=List.mem_filter.1 hm
 rw[Bool.and_eq_true]at h2
 refine⟨h1,λo ho=>?_,λhu=>?_⟩
 ·have:=List.all_eq_true.1 h2.1 o ho
  simpa using this
 ·have:=h2.2
  simp only[hu,Bool.not_true,Bool.false_or,decide_eq_true_eq]at this
  exact this
section
variable {K : List (Nat × PV)} {ops : Array Oper} {rs : List Ent} {a : Act} {w : World} {n id : Nat} {dr : Bool} {Q : Exit → Act → World → Prop}
theorem wp_se (hO:Ok Tryz.prog M)(hok:okR n ops=true)(hrun:run M K ops [] ops.toList=some rs)(hsc:sched ops rs=true)(Ca:∀e∈rs,∀p,e.ob=some p->p)(hF:FrP M n K a w)(hS:Sw M w)
 (hend:∀(b:Act) (w':World),FrP M n (news rs rs 0++keep K ops rs) b w'->Sw M w'->Q .normal b w'):(Code.region id ops dr).wp Tryz.prog Q a w:=by
 have hd:cZ ops=true:=by unfold okR at hok;rw[Bool.and_eq_true]at hok;exact hok.1
 have hlen:rs.length=ops.size:=by
  obtain⟨t,h1,h2⟩:=dN hrun
  rw[h1];simpa using h2
 have hdst:∀(j:Nat) (e:Ent),rs[j]? =some e->∃oj,ops[j]? =some oj/\e.dst=oj.dst:=λj e hj=>by
  have hjl:j<ops.size:=by have:=(List.getElem?_eq_some_iff.1 hj).1;omega
  obtain⟨e2,k1,k2⟩:=tK hrun j ops[j] (by simp[hjl])
  rw[List.length_nil,Nat.zero_add]at k1
  have:e=e2:=Option.some.inj (hj.symm.trans k1)
  subst this
  exact⟨ops[j],by simp[hjl],zX k2⟩
 refine mg rfl hd (EH M K ops rs a) ?_ ?_ ?_
 ·cases dr with
  |true=>exact⟨rfl,rfl,hS.drew,λ_ _=>rfl,λj e d hj hdj=>(by cases hdj),λt u hl _=>(hF.look t u hl).imp λv h=>⟨h.1,h.2.drew⟩⟩
  |false=>exact⟨rfl,rfl,hS,λ_ _=>rfl,λj e d hj hdj=>(by cases hdj),λt u hl _=>hF.look t u hl⟩
 ·intro dn i o a' w' hi hu ha hC hI
  obtain⟨ei,k1,k2⟩:=tK hrun i o (by simpa using hi)
  rw[List.length_nil,Nat.zero_add]at k1 k2
  have fin:∀(v:Value) (w2:World),Den M ei.val v w2->Sw M w2->(ei.cons=false->Below w'.heap.size w' w2)->EH M K ops rs a (λj=>dn j||j==i) (a'.put o.dst v) w2:=λv w2 h1 h2 h3=>PR hd hok hF.size hrun hsc hi hu hC hI k1 h1 h2 h3
  have doA:Region.wanted o (yielded ops a'.tmps)=true->Ea M K ops (rs.take i) o=some ei->wpOp Tryz.prog ops Q i (λa' w'=>EH M K ops rs a (λj=>dn j||j==i) a' w') a' w':=λhw hA=>by
   unfold Ea at hA
   split at hA
   ·rename_i r hr
    cases hA
    have hov:=λx u (hx:ovR K ops (rs.take i) o x=some u)=>kE hd hrun hsc hi hu ha hC hI k1 (λh=>h) hx
    have hy:gZ Tryz.prog ops (λw=>w=w') (λv w2=>Den M r.val v w2/\Sw M w2/\(r.cons=false->Below w'.heap.size w' w2)) o a':=⟨hw,λw hww=>by
     rw[hww]
     exact Ei hO (λ_=>rfl) hov hI.sw hr (Ca _ (List.mem_of_getElem? k1))⟩
    exact hy.wpOp hi rfl λv w2 ⟨q1,q2,q3⟩=>fin v w2 q1 q2 q3
   ·cases hA
  have skipA:Region.wanted o (yielded ops a'.tmps)=false->ei={dst:=o.dst,val:=.v undef,cons:=false,uses:=false,skip:=true}->wpOp Tryz.prog ops Q i (λa' w'=>EH M K ops rs a (λj=>dn j||j==i) a' w') a' w':=λhw he=>by
   have hy:aj Tryz.prog ops (λw=>w=w') (λw=>w=w') o undef a':=.inr ⟨hw,rfl,λ_ h=>h⟩
   refine hy.wpOp hi rfl λw2 hw2=>?_
   rw[hw2]
   exact fin undef w' (by rw[he];rfl) hI.sw (λ_=>Below.refl _ _)
  unfold ent at k2
  split at k2
  ·rename_i hg
   exact doA (A9 hg) k2
  ·rename_i j want hg
   split at k2
   ·rename_i ej Jb
    have hji:j<i:=by
     have:=(List.getElem?_eq_some_iff.1 Jb).1
     rw[List.length_take]at this
     omega
    have hej2:rs[j]? =some ej:=by rw[List.getElem?_take,if_pos hji]at Jb;exact Jb
    obtain⟨oj,g1,g2⟩:=hdst j ej hej2
    have hyv:∀d b,ej.dst=some d->ej.val=.v (.bool b)->Region.wanted o (yielded ops a'.tmps)=(b==want):=λd b zb hev=>by
     have hod:oj.dst=some d:=g2.symm.trans zb
     have hla:d∈o.looksAt ops:=by simp[Oper.looksAt,hg,g1,hod]
     have hdn:dn j=true:=by
      rcases looks_at hd hi hu ha hC hla with⟨j',oj',h1,h2,h3,h4⟩|⟨_,h2⟩
      ·have:j'=j:=by
        by_cases hjj:j'=j
        ·exact hjj
        ·exact absurd hod (iT hd g1 h2 hjj h3)
       rw[<-this];exact h4
      ·exact absurd hod (h2 j oj hji g1)
     obtain⟨v,e1,e2⟩:=hI.done j ej d hej2 hdn zb (λh=>by rw[hev]at h;cases h)
     rw[hev]at e2
     have e2:v=.bool b:=e2
     unfold Region.wanted
     rw[hg]
     have hyl:yielded ops a'.tmps j=some b:=by
      unfold yielded
      rw[g1]
      simp only[Option.bind_some,hod,e1,e2]
     simp only[hyl]
     cases b<;>cases want<;>rfl
    split at k2
    ·rename_i d zb hev
     have:=hyv _ _ zb hev
     split at k2
     ·rename_i hw;subst hw;exact doA this k2
     ·rename_i hw
      cases k2
      exact skipA (by rw[this];cases want<;>simp_all) rfl
    ·rename_i d zb hev
     have:=hyv _ _ zb hev
     split at k2
     ·rename_i hw;subst hw;exact doA this k2
     ·rename_i hw
      cases k2
      exact skipA (by rw[this];cases want<;>simp_all) rfl
    ·cases k2
   ·cases k2
 ·intro dn b w' hall hI
  refine hend b w' ⟨hI.size.trans hF.size,hI.defers.trans hF.defers,λt u hm=>?_⟩ hI.sw
  rcases List.mem_append.1 hm with hm|hm
  ·obtain⟨i,e,h1,h2,h3,h4⟩:=jT hm
   subst h3
   have hil:i<ops.size:=by have:=(List.getElem?_eq_some_iff.1 h1).1;omega
   refine hI.done i e t h1 (hall i hil) h2 λhmem c ec hc hcc hic=>?_
   have:=(lD rs 0 0 _ (Nat.le_refl _) (h4 hmem)).2 c ec hc hcc
   omega
  ·obtain⟨h1,h2,h3⟩:=Jv hm
   rw[hI.rest t λj oj hj _=>h2 oj (List.mem_of_getElem? (by simpa using hj))]
   obtain⟨v,k1,k2⟩:=hF.look t u h1
   refine⟨v,k1,?_⟩
   cases hmem:u.mem with
   |false=>exact k2.any hmem
   |true=>
    have hz:=h3 hmem
    obtain⟨v2,k3,k4⟩:=hI.knownM t u h1 (λ_ c ec hc hcc=>by
     have:=(lD rs 0 0 0 (Nat.le_refl _) (Nat.le_of_eq hz)).2 c ec hc hcc
     omega)
    have:v=v2:=Option.some.inj (k1.symm.trans k3)
    rw[this];exact k4
end
open Go.Proofs.YtnjjeapcalkmaaaGreatDoor.Ev (Fm Qof)
variable {M : Mem}
inductive Out where
 |nx (K:List (Nat×PV))
 |ret (K:List (Nat×PV))
 |out (k:Nat) (K:List (Nat×PV))
 |go (c:Code) (fs:List Fm) (K:List (Nat×PV))
 |ob (p:Prop) (o:Out)
def Out.bind (b:Code)(f:List (Nat×PV)->Out):Out->Out
 | .nx K=>f K
 | .ret K=>.ret K
 | .out k K=>.out k K
 | .go c fs K=>.go c (fs++[.sq b]) K
 | .ob p o=>.ob p (o.bind b f)
def Out.unblock (i:Nat):Out->Out
 | .nx K=>.nx K
 | .ret K=>.ret K
 | .out k K=>if k=i then .nx K else .out k K
 | .go c fs K=>.go c (fs++[.bl i]) K
 | .ob p o=>.ob p (o.unblock i)
def obs:List Ent->Out->Out
 |[],o=>o
 |e::l,o=>match e.ob with
  |some p=>.ob p (obs l o)
  |none=>obs l o
def exR (M:Mem)(n i:Nat)(ops:Array Oper)(dr:Bool)(K:List (Nat×PV)):Out:=match run M K ops [] ops.toList with
 |some rs=>if (okR n ops&&sched ops rs)=true then obs rs (.nx (news rs rs 0++keep K ops rs))else .go (.region i ops dr) [] K
 |none=>.go (.region i ops dr) [] K
def exC (h:Option Bool)(x y z:Out)(l:Option PV):Out:=match h with
 |none=>match l with
  |some (.v (.bool true))=>x
  |some (.v (.bool false))=>y
  |_=>z
 |some true=>match l with
  |some (.v (.bool b))=>.ob (b=true) x
  |_=>z
 |some false=>match l with
  |some (.v (.bool b))=>.ob (b=false) y
  |_=>z
def Out.bindL (f:List (Nat×PV)->Out):Out->Out
 | .nx K=>f K
 | .ret K=>.ret K
 | .out k K=>.out k K
 | .go _ _ K=>.ob False (.nx K)
 | .ob p o=>.ob p (o.bindL f)
def exL (f:List (Nat×PV)->Out):Nat->List (Nat×PV)->Out
 |0,K=>.ob False (.nx K)
 |k+1,K=>(f K).bindL (exL f k)
def ex (M:Mem)(n:Nat):Code->List (Nat×PV)->Out
 | .skip,K=>.nx K
 | .region i ops dr,K=>exR M n i ops dr K
 | .seq a b,K=>(ex M n a K).bind b (ex M n b)
 | .cond c x y,K=>match c with
   | .tmp t=>exC (M.hint t) (ex M n x K) (ex M n y K) (.go (.cond (.tmp t) x y) [] K) ((look K t).map (nv M))
   |c=>.go (.cond c x y) [] K
 | .block i b,K=>(ex M n b K).unblock i
 | .exit k,K=>.out k K
 | .ret,K=>.ret K
 | .loop c,K=>if M.loops=0 then .go (.loop c) [] K else exL (ex M n c) M.loops K
 |c,K=>.go c [] K
def Out.holds (M:Mem)(n:Nat)(Q:Exit->Act->World->Prop):Out->Prop
 | .nx K=>∀a w,FrP M n K a w->Sw M w->Q .normal a w
 | .ret K=>∀a w,FrP M n K a w->Sw M w->Q .ret a w
 | .out k K=>∀a w,FrP M n K a w->Sw M w->Q (.exit k) a w
 | .go c fs K=>∀a w,FrP M n K a w->Sw M w->c.wp Tryz.prog (Qof Tryz.prog fs Q) a w
 | .ob p o=>p/\o.holds M n Q
theorem kH {n:Nat}{Q:Exit->Act->World->Prop}{b:Code}{f:List (Nat×PV)->Out}(hf:∀K,(f K).holds M n Q->∀a w,FrP M n K a w->Sw M w->b.wp Tryz.prog Q a w):
 ∀{t:Out},(t.bind b f).holds M n Q->t.holds M n (Exit.then (b.wp Tryz.prog Q) Q):=by
 intro t
 induction t with
 |ob p o ih=>exactλhh=>⟨hh.1,ih hh.2⟩
 |nx K=>intro hh;exact hf K hh
 |ret K=>exactλhh=>hh
 |out k K=>exactλhh=>hh
 |go c fs K=>intro hh a w ha hs;have:=hh a w ha hs;rw[Ev.y9]at this;exact this
theorem gp {n:Nat}{Q:Exit->Act->World->Prop}{i:Nat}:∀{t:Out},(t.unblock i).holds M n Q->t.holds M n (Exit.inBlock i Q):=by
 intro t
 induction t with
 |ob p o ih=>exactλhh=>⟨hh.1,ih hh.2⟩
 |nx K=>exactλh=>h
 |ret K=>exactλh=>h
 |out k K=>
  intro h a w ha hs
  have h:(if k=i then Out.nx K else Out.out k K).holds M n Q:=h
  show(if k=i then Q .normal a w else Q (.exit k) a w)
  by_cases hk:k=i
  ·rw[if_pos hk]at h⊢;exact h a w ha hs
  ·rw[if_neg hk]at h⊢;exact h a w ha hs
 |go c fs K=>intro hh a w ha hs;have:=hh a w ha hs;rw[Ev.zz]at this;exact this
theorem Cr {n:Nat}{Q:Exit->Act->World->Prop}{R:Act->World->Prop}{f:List (Nat×PV)->Out}(hf:∀K,(f K).holds M n Q->∀a w,FrP M n K a w->Sw M w->R a w):
 ∀{t:Out},(t.bindL f).holds M n Q->t.holds M n (Exit.then R Q):=by
 intro t
 induction t with
 |ob p o ih=>exactλhh=>⟨hh.1,ih hh.2⟩
 |nx K=>intro hh;exact hf K hh
 |ret K=>exactλhh=>hh
 |out k K=>exactλhh=>hh
 |go c fs K=>exactλhh=>hh.1.elim
theorem qV {n:Nat}{Q:Exit->Act->World->Prop}{o:Out}:∀{l:List Ent},(obs l o).holds M n Q->(∀e∈l,∀p,e.ob=some p->p)/\o.holds M n Q
 |[],h=>⟨λe he=>(by cases he),h⟩
 |e::l,h=>by
  unfold obs at h
  split at h
  ·rename_i p hp
   obtain⟨h1,h2⟩:=h
   obtain⟨h3,h4⟩:=qV h2
   exact⟨λx hx=>by
    rcases List.mem_cons.1 hx with rfl|hx
    ·intro q hq;rw[hp]at hq;cases hq;exact h1
    ·exact h3 x hx,h4⟩
  ·rename_i hp
   obtain⟨h3,h4⟩:=qV h
   exact⟨λx hx=>by
    rcases List.mem_cons.1 hx with rfl|hx
    ·intro q hq;rw[hp]at hq;cases hq
    ·exact h3 x hx,h4⟩
theorem rU (hO:Ok Tryz.prog M){n:Nat}:∀{code:Code} {K:List (Nat×PV)} {Q:Exit->Act->World->Prop},(ex M n code K).holds M n Q->∀a w,FrP M n K a w->Sw M w->code.wp Tryz.prog Q a w:=by
 intro code
 induction code with
 |skip=>intro K Q h a w hF hS;exact wp_skip (h a w hF hS)
 |region i ops dr=>
  intro K Q h a w hF hS
  have h:(exR M n i ops dr K).holds M n Q:=h
  unfold exR at h
  split at h
  ·rename_i rs hrs
   split at h
   ·rename_i hok
    rw[Bool.and_eq_true]at hok
    obtain⟨h1,h2⟩:=qV h
    exact wp_se hO hok.1 hrs hok.2 h1 hF hS h2
   ·exact h a w hF hS
  ·exact h a w hF hS
 |seq x y ix iy=>
  intro K Q h a w hF hS
  unfold ex at h
  refine wp_seq ?_
  exact ix (kH (λK' h'=>iy h') h) a w hF hS
 |cond c x y ix iy=>
  intro K Q h a w hF hS
  cases c with
  |tmp t=>
   have h:(exC (M.hint t) (ex M n x K) (ex M n y K) (.go (.cond (.tmp t) x y) [] K) ((look K t).map (nv M))).holds M n Q:=h
   have get:∀b:Bool,(look K t).map (nv M)=some (.v (.bool b))->a.eval (.tmp t)=.bool b:=λb hl=>by
    obtain⟨u,hk,hu⟩:=Option.map_eq_some_iff.1 hl
    obtain⟨v,h1,h2⟩:=hF.look t _ (jZ hk)
    have h2:v=.bool b:=by have:=FN h2;rw[hu]at this;exact this
    exact eval_at (h2▸h1)
   generalize hl:(look K t).map (nv M)=l at h get
   unfold exC at h
   split at h
   ·split at h
    ·exact wp_cond (t:=true) (get _ rfl) (ix h a w hF hS)
    ·exact wp_cond (t:=false) (get _ rfl) (iy h a w hF hS)
    ·exact h a w hF hS
   ·split at h
    ·obtain⟨rfl,h⟩:=h
     exact wp_cond (t:=true) (get _ rfl) (ix h a w hF hS)
    ·exact h a w hF hS
   ·split at h
    ·obtain⟨rfl,h⟩:=h
     exact wp_cond (t:=false) (get _ rfl) (iy h a w hF hS)
    ·exact h a w hF hS
  |const v=>exact h a w hF hS
  |global g=>exact h a w hF hS
  |func f=>exact h a w hF hS
 |block i b ib=>
  intro K Q h a w hF hS
  unfold ex at h
  exact wp_block (ib (gp h) a w hF hS)
 |exit k=>intro K Q h a w hF hS;exact wp_exit (h a w hF hS)
 |ret=>intro K Q h a w hF hS;exact wp_ret (h a w hF hS)
 |loop c ic=>
  intro K Q h a w hF hS
  unfold ex at h
  split at h
  ·exact h a w hF hS
  ·refine wp_loop_rounds M.loops ?_
   have key:∀(k:Nat) (K:List (Nat×PV)),(exL (ex M n c) k K).holds M n Q->∀a w,FrP M n K a w->Sw M w->Code.rounds Tryz.prog c Q k a w:=by
    intro k
    induction k with
    |zero=>exactλK h=>h.1.elim
    |succ k ih=>exactλK h a w hF hS=>ic (Cr (R:=Code.rounds Tryz.prog c Q k) (λK' h'=>ih K' h') h) a w hF hS
   exact key _ K h a w hF hS
 |_=>intro K Q h a w hF hS;exact h a w hF hS
def kF (M:Mem)(ts:List Nat)(us:List PV)(a:Act)(w:World):Prop:=∀(i t:Nat) (u:PV),ts[i]? =some t->us[i]? =some u->∃v,a.tmps[t]? =some v/\Den M u v w
def looks' (K:List (Nat×PV)):List Nat->Option (List PV)
 |[]=>some []
 |t::ts=>match look K t,looks' K ts with
  |some u,some us=>some (u::us)
  |_,_=>none
theorem oH {K:List (Nat×PV)}{n:Nat}{a:Act}{w:World}(hF:FrP M n K a w):∀{ts:List Nat} {us:List PV},looks' K ts=some us->kF M ts us a w
 |[],us,h=>λi t u h1=>by simp at h1
 |s::ts,us,h=>by
  unfold looks' at h
  split at h
  ·rename_i u us' h1 h2
   cases h
   intro i t x ht hx
   cases i with
   |zero=>
    simp at ht hx
    subst ht
    subst hx
    exact hF.look _ _ (jZ h1)
   |succ i=>exact oH hF h2 i t x (by simpa using ht) (by simpa using hx)
  ·cases h
theorem kF.cons {t:Nat}{ts:List Nat}{u:PV}{us:List PV}{a:Act}{w:World}(h:kF M (t::ts) (u::us) a w):(∃v,a.tmps[t]? =some v/\Den M u v w)/\kF M ts us a w:=⟨h 0 t u rfl rfl,λi s x h1 h2=>h (i+1) s x (by simpa using h1) (by simpa using h2)⟩
def Out.retv (ts:List Nat):Out->Option (List PV×List Prop)
 | .ret K=>(looks' K ts).map λus=>(us,[])
 | .ob p o=>(o.retv ts).map λx=>(x.1,p::x.2)
 |_=>none
def Out.nxv (ts:List Nat):Out->Option (List PV×List Prop)
 | .nx K=>(looks' K ts).map λus=>(us,[])
 | .ob p o=>(o.nxv ts).map λx=>(x.1,p::x.2)
 |_=>none
def Out.gov (ts:List Nat):Out->Option ((Code×List Fm×List PV)×List Prop)
 | .go c fs K=>(looks' K ts).map λus=>((c,fs,us),[])
 | .ob p o=>(o.gov ts).map λx=>(x.1,p::x.2)
 |_=>none
def Out.outv (ts:List Nat):Out->Option ((Nat×List PV)×List Prop)
 | .out k K=>(looks' K ts).map λus=>((k,us),[])
 | .ob p o=>(o.outv ts).map λx=>(x.1,p::x.2)
 |_=>none
def All:List Prop->Prop
 |[]=>True
 |p::l=>p/\All l
section
variable {n : Nat} {code : Code} {K : List (Nat × PV)} {Q : Exit → Act → World → Prop} {us : List PV} {ps : List Prop}
theorem Gq {ts:List Nat}(hq:∀a w,a.tmps.size=n->a.defers=[]->kF M ts us a w->Sw M w->Q .ret a w):∀{o:Out} {ps:List Prop},o.retv ts=some (us,ps)->All ps->o.holds M n Q:=by
 intro o
 induction o with
 |ret K'=>
  intro ps h _ a w hF hS
  obtain⟨us',h1,h2⟩:=Option.map_eq_some_iff.1 h
  cases h2
  exact hq a w hF.size hF.defers (oH hF h1) hS
 |ob p o ih=>
  intro ps h hp
  obtain⟨⟨x,qs⟩,h1,h2⟩:=Option.map_eq_some_iff.1 h
  obtain⟨rfl,rfl⟩:=Prod.mk.inj h2
  exact⟨hp.1,ih h1 hp.2⟩
 |nx K'=>intro ps h;cases h
 |out k K'=>intro ps h;cases h
 |go c fs K'=>intro ps h;cases h
theorem Lv {ts:List Nat}(hq:∀a w,a.tmps.size=n->a.defers=[]->kF M ts us a w->Sw M w->Q .normal a w):∀{o:Out} {ps:List Prop},o.nxv ts=some (us,ps)->All ps->o.holds M n Q:=by
 intro o
 induction o with
 |nx K'=>
  intro ps h _ a w hF hS
  obtain⟨us',h1,h2⟩:=Option.map_eq_some_iff.1 h
  cases h2
  exact hq a w hF.size hF.defers (oH hF h1) hS
 |ob p o ih=>
  intro ps h hp
  obtain⟨⟨x,qs⟩,h1,h2⟩:=Option.map_eq_some_iff.1 h
  obtain⟨rfl,rfl⟩:=Prod.mk.inj h2
  exact⟨hp.1,ih h1 hp.2⟩
 |ret K'=>intro ps h;cases h
 |out k K'=>intro ps h;cases h
 |go c fs K'=>intro ps h;cases h
theorem K8 {ts:List Nat}{c:Code}{fs:List Fm}(hq:∀a w,a.tmps.size=n->a.defers=[]->kF M ts us a w->Sw M w->c.wp Tryz.prog (Qof Tryz.prog fs Q) a w):∀{o:Out} {ps:List Prop},o.gov ts=some ((c,fs,us),ps)->All ps->o.holds M n Q:=by
 intro o
 induction o with
 |go c' fs' K'=>
  intro ps h _ a w hF hS
  obtain⟨us',h1,h2⟩:=Option.map_eq_some_iff.1 h
  cases h2
  exact hq a w hF.size hF.defers (oH hF h1) hS
 |ob p o ih=>
  intro ps h hp
  obtain⟨⟨x,qs⟩,h1,h2⟩:=Option.map_eq_some_iff.1 h
  obtain⟨rfl,rfl⟩:=Prod.mk.inj h2
  exact⟨hp.1,ih h1 hp.2⟩
 |ret K'=>intro ps h;cases h
 |out k K'=>intro ps h;cases h
 |nx K'=>intro ps h;cases h
theorem IG {ts:List Nat}{k:Nat}(hq:∀a w,a.tmps.size=n->a.defers=[]->kF M ts us a w->Sw M w->Q (.exit k) a w):∀{o:Out} {ps:List Prop},o.outv ts=some ((k,us),ps)->All ps->o.holds M n Q:=by
 intro o
 induction o with
 |out k' K'=>
  intro ps h _ a w hF hS
  obtain⟨us',h1,h2⟩:=Option.map_eq_some_iff.1 h
  cases h2
  exact hq a w hF.size hF.defers (oH hF h1) hS
 |ob p o ih=>
  intro ps h hp
  obtain⟨⟨x,qs⟩,h1,h2⟩:=Option.map_eq_some_iff.1 h
  obtain⟨rfl,rfl⟩:=Prod.mk.inj h2
  exact⟨hp.1,ih h1 hp.2⟩
 |ret K'=>intro ps h;cases h
 |nx K'=>intro ps h;cases h
 |go c fs K'=>intro ps h;cases h
theorem bY (hO:Ok Tryz.prog M)(ts:List Nat)(h:(ex M n code K).retv ts=some (us,ps))(hp:All ps){a:Act}{w:World}(hF:FrP M n K a w)(hS:Sw M w)(hq:∀a w,a.tmps.size=n->a.defers=[]->kF M ts us a w->Sw M w->Q .ret a w):code.wp Tryz.prog Q a w:=rU hO (Gq hq h hp) a w hF hS
theorem Jn (hO:Ok Tryz.prog M)(ts:List Nat)(h:(ex M n code K).nxv ts=some (us,ps))(hp:All ps){a:Act}{w:World}(hF:FrP M n K a w)(hS:Sw M w)(hq:∀a w,a.tmps.size=n->a.defers=[]->kF M ts us a w->Sw M w->Q .normal a w):code.wp Tryz.prog Q a w:=rU hO (Lv hq h hp) a w hF hS
theorem Ke (hO:Ok Tryz.prog M)(ts:List Nat){k:Nat}(h:(ex M n code K).outv ts=some ((k,us),ps))(hp:All ps){a:Act}{w:World}(hF:FrP M n K a w)(hS:Sw M w)(hq:∀a w,a.tmps.size=n->a.defers=[]->kF M ts us a w->Sw M w->Q (.exit k) a w):code.wp Tryz.prog Q a w:=rU hO (IG hq h hp) a w hF hS
theorem KT (hO:Ok Tryz.prog M)(ts:List Nat){c:Code}{fs:List Fm}(h:(ex M n code K).gov ts=some ((c,fs,us),ps))(hp:All ps){a:Act}{w:World}(hF:FrP M n K a w)(hS:Sw M w)(hq:∀a w,a.tmps.size=n->a.defers=[]->kF M ts us a w->Sw M w->c.wp Tryz.prog (Qof Tryz.prog fs Q) a w):code.wp Tryz.prog Q a w:=rU hO (K8 hq h hp) a w hF hS
end
theorem lY {h:Nat->Option Bool}{lp:Nat}{u:PV}{v:Value}{w:World}:Den {M with hint:=h,loops:=lp} u v w↔Den M u v w:=by
 cases u<;>exact Iff.rfl
theorem xz {h:Nat->Option Bool}{lp:Nat}{w:World}:∀{us:List PV} {vals:List Value},j3 {M with hint:=h,loops:=lp} us vals w->j3 M us vals w
 |[],[],_=>trivial
 |[],_::_,hd=>hd
 |_::_,[],hd=>hd
 |_::_,_::_,hd=>⟨lY.1 hd.1,xz hd.2⟩
theorem Ok.hint {P:Program}{h:Nat->Option Bool}{lp:Nat}(hO:Ok P M):Ok P {M with hint:=h,loops:=lp}:=⟨⟨hO.wf.B,hO.wf.fix⟩,hO.offs,λt k j u hu w hS=>hO.load t k j u hu w ⟨hS.os,hS.tape,hS.output,hS.size,hS.block⟩|>.imp λv hv=>⟨hv.1,lY.2 hv.2⟩,λf us u c b hc hb=>(hO.call f us u c b hc hb).imp_right λh1 vals w hS hd=>(h1 vals w ⟨hS.os,hS.tape,hS.output,hS.size,hS.block⟩ (xz hd)).mono λe w' ⟨v,e1,e2,e3,e4⟩=>⟨v,e1,lY.2 e2,⟨e3.os,e3.tape,e3.output,e3.size,e3.block⟩,e4⟩,λo ov u hu ρ w hf hS hov=>(hO.oth o ov u hu ρ w hf ⟨hS.os,hS.tape,hS.output,hS.size,hS.block⟩ λx p hx=>lY.1 (hov x p hx)).imp λv hv=>⟨hv.1,lY.2 hv.2⟩⟩
theorem pg {f:Oper->(Operand->Option PV)->Option PV}{u:PV}{v:Value}{w:World}:Den {M with oth:=f} u v w↔Den M u v w:=by
 cases u<;>exact Iff.rfl
theorem Bc {f:Oper->(Operand->Option PV)->Option PV}{w:World}:∀{us:List PV} {vals:List Value},j3 {M with oth:=f} us vals w->j3 M us vals w
 |[],[],_=>trivial
 |[],_::_,hd=>hd
 |_::_,[],hd=>hd
 |_::_,_::_,hd=>⟨pg.1 hd.1,Bc hd.2⟩
theorem Ok.withOth {P:Program}{f:Oper->(Operand->Option PV)->Option PV}(hO:Ok P M)(hf:∀o ov u,f o ov=some u->∀(ρ:Operand->Value) w,(∀f,ρ (.func f)=.func (.func f) #[] #[])->Sw M w->(∀x p,ov x=some p->Den M p (ρ x) w)->∃v,(execOp ρ o).run P w=.ok (.value v) w/\Den M u v w):Ok P {M with oth:=f}:=⟨⟨hO.wf.B,hO.wf.fix⟩,hO.offs,λt k j u hu w hS=>hO.load t k j u hu w ⟨hS.os,hS.tape,hS.output,hS.size,hS.block⟩|>.imp λv hv=>⟨hv.1,pg.2 hv.2⟩,λf us u c b hc hb=>(hO.call f us u c b hc hb).imp_right λh1 vals w hS hd=>(h1 vals w ⟨hS.os,hS.tape,hS.output,hS.size,hS.block⟩ (Bc hd)).mono λe w' ⟨v,e1,e2,e3,e4⟩=>⟨v,e1,pg.2 e2,⟨e3.os,e3.tape,e3.output,e3.size,e3.block⟩,e4⟩,λo ov u hu ρ w h1 hS hov=>(hf o ov u hu ρ w h1 ⟨hS.os,hS.tape,hS.output,hS.size,hS.block⟩ λx p hx=>pg.1 (hov x p hx)).imp λv hv=>⟨hv.1,pg.2 hv.2⟩⟩
theorem qD {f:Nat->Option Bool}{u:PV}{v:Value}{w:World}:Den {M with tst:=f} u v w↔Den M u v w:=by
 cases u<;>exact Iff.rfl
theorem Bj {f:Nat->Option Bool}{w:World}:∀{us:List PV} {vals:List Value},j3 {M with tst:=f} us vals w->j3 M us vals w
 |[],[],_=>trivial
 |[],_::_,hd=>hd
 |_::_,[],hd=>hd
 |_::_,_::_,hd=>⟨qD.1 hd.1,Bj hd.2⟩
theorem Ok.withTst {P:Program}{f:Nat->Option Bool}(hO:Ok P M):Ok P {M with tst:=f}:=⟨⟨hO.wf.B,hO.wf.fix⟩,hO.offs,λt k j u hu w hS=>hO.load t k j u hu w ⟨hS.os,hS.tape,hS.output,hS.size,hS.block⟩|>.imp λv hv=>⟨hv.1,qD.2 hv.2⟩,λf us u c b hc hb=>(hO.call f us u c b hc hb).imp_right λh1 vals w hS hd=>(h1 vals w ⟨hS.os,hS.tape,hS.output,hS.size,hS.block⟩ (Bj hd)).mono λe w' ⟨v,e1,e2,e3,e4⟩=>⟨v,e1,qD.2 e2,⟨e3.os,e3.tape,e3.output,e3.size,e3.block⟩,e4⟩,λo ov u hu ρ w hf hS hov=>(hO.oth o ov u hu ρ w hf ⟨hS.os,hS.tape,hS.output,hS.size,hS.block⟩ λx p hx=>qD.1 (hov x p hx)).imp λv hv=>⟨hv.1,qD.2 hv.2⟩⟩
theorem qB {u:PV}{v:Value}{w:World}:Den {M with big:=true} u v w↔Den M u v w:=by
 cases u<;>exact Iff.rfl
theorem Bp {w:World}:∀{us:List PV} {vals:List Value},j3 {M with big:=true} us vals w->j3 M us vals w
 |[],[],_=>trivial
 |[],_::_,hd=>hd
 |_::_,[],hd=>hd
 |_::_,_::_,hd=>⟨qB.1 hd.1,Bp hd.2⟩
theorem Ok.big {P:Program}(hO:Ok P M):Ok P {M with big:=true}:=⟨⟨hO.wf.B,hO.wf.fix⟩,hO.offs,λt k j u hu w hS=>hO.load t k j u hu w ⟨hS.os,hS.tape,hS.output,hS.size,hS.block⟩|>.imp λv hv=>⟨hv.1,qB.2 hv.2⟩,λf us u c b hc hb=>(hO.call f us u c b hc hb).imp_right λh1 vals w hS hd=>(h1 vals w ⟨hS.os,hS.tape,hS.output,hS.size,hS.block⟩ (Bp hd)).mono λe w' ⟨v,e1,e2,e3,e4⟩=>⟨v,e1,qB.2 e2,⟨e3.os,e3.tape,e3.output,e3.size,e3.block⟩,e4⟩,λo ov u hu ρ w hf hS hov=>(hO.oth o ov u hu ρ w hf ⟨hS.os,hS.tape,hS.output,hS.size,hS.block⟩ λx p hx=>qB.1 (hov x p hx)).imp λv hv=>⟨hv.1,qB.2 hv.2⟩⟩
theorem bW {n:Nat}{a:Act}{w:World}(h1:a.tmps.size=n)(h2:a.defers=[]):FrP M n [] a w:=⟨h1,h2,λ_ _ h=>by cases h⟩
theorem aI {n:Nat}{K:List (Nat×PV)}{a:Act}{w:World}{t:Nat}{u:PV}{v:Value}(h:FrP M n K a w)(h1:a.tmps[t]? =some v)(h2:Den M u v w):FrP M n ((t,u)::K) a w:=⟨h.size,h.defers,λs x hm=>by
 rcases List.mem_cons.1 hm with h3|h3
 ·cases h3;exact⟨v,h1,h2⟩
 ·exact h.look s x h3⟩
open Go.Proofs.YtnjjeapcalkmaaaGreatDoor.Ev (az qx Ha D8)
def FB (t:TypeId)(f:Nat):Option Nat:=if (t=34/\f<16)\/(t=35/\f<9)\/(t=129/\f<2)\/(t=24/\f<16)\/(t=26/\f<9)\/(t=91/\f<2)\/(t=169/\f<3)\/(t=251/\f<3)then some f
 else if t=37\/t=28 then[0,1,2,3,19][f]? else none
theorem Pj {t:TypeId}{f d:Nat}(h:FB t f=some d)(b j:Nat)(w:World):(Instr.fieldAt t (.pointer (some ⟨b,j,none⟩)) f).run Tryz.prog w=.ok (.pointer (some ⟨b,j+d,none⟩)) w:=by
 unfold FB at h
 split at h
 ·rename_i h1
  cases h
  rcases h1 with⟨rfl,h2⟩|⟨rfl,h2⟩|⟨rfl,h2⟩|⟨rfl,h2⟩|⟨rfl,h2⟩|⟨rfl,h2⟩|⟨rfl,h2⟩|⟨rfl,h2⟩
  all_goals
   rcases f with _|_|_|_|_|_|_|_|_|_|_|_|_|_|_|_|f
   all_goals first|omega|go_simp
 split at h
 ·rename_i h1
  rcases h1 with rfl|rfl
  all_goals
   rcases f with _|_|_|_|_|f
   all_goals first|(cases h;go_simp)|cases h
 ·cases h
def FD (b k j:Nat):Value->PV
 | .string x=>.s (b,x)
 | .bool x=>.v (.bool x)
 |_=>.r k j
def ll (B:Nat)(W:World)(fix:List Nat)(b:Nat)(rows:List (Option (Nat×Nat)×List Value))(call:FuncId->List PV->Option (PV×Bool×Option Prop)):Mem:=
 {B:=B,W:=W,fix:=fix,blk:=qx rows,cell:=az rows,offs:=FB,call:=call,load:=λt k j=>match rows[k]? with
   |some (some _,l)=>if Ha t=true then(match l[j]? with
    |some v=>some (FD b k j v)
    |none=>none)else(match D8 t with
    |some n=>if j+n<=l.length then some (.a k j n)else none
    |none=>none)
   |_=>none}
theorem xg {B:Nat}{W:World}{fix:List Nat}{b:Nat}{rows:List (Option (Nat×Nat)×List Value)}{call:FuncId->List PV->Option (PV×Bool×Option Prop)}(hB:B<=W.heap.size)(hf:∀g∈fix,g<W.heap.size)
 (h2:∀(k g o:Nat) (l:List Value),rows[k]? =some (some (g,o),l)->(g<B\/g∈fix)/\∀w:World,w.heap[g]? =W.heap[g]?->∀(j:Nat) (v:Value),l[j]? =some v->w.cell? ⟨g,o+j,none⟩=some v)
 (hb:∀(k:Nat) (p:Nat×Nat) (l:List Value),rows[k]? =some (some p,l)->∀x,Value.string x∈l->x.size<=b)
 (h3:∀f us u c q,call f us=some (u,c,q)->(∀p,q=some p->p)->(∀args w,(callFunc f args).run Tryz.prog w=.ok (.enter f args) w)/\∀(vals:List Value) w,Sw (ll B W fix b rows call) w->j3 (ll B W fix b rows call) us vals w->Calls Tryz.prog f vals.toArray w λe w'=>∃v,e=.returned v/\Den (ll B W fix b rows call) u v w'/\Sw (ll B W fix b rows call) w'/\(c=false->Below w.heap.size w w')):
 Ok Tryz.prog (ll B W fix b rows call):=by
 refine⟨⟨hB,hf⟩,λt f d h=>Pj h,λt k j u h w hS=>?_,h3,λ_ _ _ h=>by cases h⟩
 have h:(match rows[k]? with
  |some (some _,l)=>if Ha t=true then(match l[j]? with
   |some v=>some (FD b k j v)
   |none=>none)else(match D8 t with
   |some n=>if j+n<=l.length then some (.a k j n)else none
   |none=>none)
  |_=>none)=some u:=h
 split at h
 ·rename_i p l hr
  obtain⟨g,o⟩:=p
  have hbk:(qx rows).getD k (0,0)=(g,o):=by simp[qx,hr]
  have hptr:(ll B W fix b rows call).ptr k j=.pointer (some ⟨g,o+j,none⟩):=by
   show Value.pointer (some ⟨((qx rows).getD k (0,0)).1,((qx rows).getD k (0,0)).2+j,none⟩)=_
   rw[hbk]
  obtain⟨hpr,hc⟩:=h2 k g o l hr
  have hcell:=hc w (hS.block g hpr)
  have hR:∀j (v:Value),l[j]? =some v->az rows k j=v:=λj v hj=>by
   unfold az
   simp[hr,hj]
  rw[hptr]
  split at h
  ·rename_i ht
   split at h
   ·rename_i v hv
    cases h
    refine⟨v,Ev.yx ht _ w _ (hcell j v hv),?_⟩
    unfold FD
    split
    ·rename_i x
     show Value.string x=.string (st (b,x))
     rw[show st (b,x)=x from jP (hb k _ l hr x (List.mem_of_getElem? hv))]
    ·rfl
    ·show v=az rows k j
     exact(hR j v hv).symm
   ·cases h
  ·split at h
   ·rename_i n hn
    split at h
    ·rename_i hj
     cases h
     refine⟨_,Ev.zV hn g (o+j) w (λi=>az rows k (j+i)) λi hi=>?_,rfl⟩
     have hlt:j+i<l.length:=by omega
     rw[Nat.add_assoc,hR (j+i) _ (List.getElem?_eq_getElem hlt)]
     exact hcell (j+i) _ (List.getElem?_eq_getElem hlt)
    ·cases h
   ·cases h
 ·cases h
theorem gQ {W:World}{g:Nat}{l:List Value}{t:TypeId}(h:W.heap[g]? =some (.cells l.toArray t (0,0))):∀w:World,w.heap[g]? =W.heap[g]?->∀(j:Nat) (v:Value),l[j]? =some v->w.cell? ⟨g,0+j,none⟩=some v:=λw hw j v hv=>by
 rw[Nat.zero_add,cell_of_row _ _ _ _ _ _ (hw.trans h)]
 simpa using hv
def vo (f:FuncId)(args:Array Value)(w:World)(x:ByteArray):Prop:=Calls Tryz.prog f args w λe w'=>e=.returned (.string x)/\Below w.heap.size w w'
end Go.Proofs.YtnjjeapcalkmaaaGreatDoor.Se
namespace Go.Proofs.YtnjjeapcalkmaaaGreatDoor.Ps
open Go
inductive Op where
 |prio (p:Int)
 |part (n:Int)
 |hold
 |res
 |lnk (x:Link)
def opT:Op->List ByteArray
 | .prio p=>[bw (fB p)]
 | .part n=>[bw aO,dX n]
 | .hold=>[bw bK]
 | .res=>[bw ae]
 | .lnk x=>Pt x
def opA (i:Ins):Op->Ins
 | .prio p=>{i with priority:=p}
 | .part n=>{i with partial_:=true,minLot:=n}
 | .hold=>{i with hold:=true}
 | .res=>{i with reserve:=true}
 | .lnk x=>{i with links:=i.links++[x]}
def opS (s:Seen):Op->Seen
 | .prio _=>{s with prio:=true}
 | .part _=>{s with part:=true}
 | .hold=>{s with hold:=true}
 | .res=>{s with res:=true}
 | .lnk _=>s
def opF (s:Seen):Op->Bool
 | .prio _=>!s.prio
 | .part _=>!s.part
 | .hold=>!s.hold
 | .res=>!s.res
 | .lnk _=>true
def Ir:Seen->List Op->Prop
 |_,[]=>True
 |s,o::os=>opF s o=true/\Ir (opS s o) os
def opV (V:Nat->ByteArray->Bool):Op->Prop
 | .prio p=>0<=p/\p<=2
 | .part n=>1<=n/\n<=bM
 | .lnk x=>(x.type=0\/x.type=1)/\V 2 x.ref=true
 |_=>True
theorem Bf {E:Env}{D:Int->ByteArray}(hE:fV E D)(l:List Tok):∀(os:List Op) (f:Nat) (s:Seen) (j:Ins) (a:Nat),eD l a (os.flatMap opT)->l.length=a+(os.flatMap opT).length->os.length<f->Ir s os->(∀o∈os,opV E.valid o)->
 options E l f s j a=.ok (os.foldl opA j,l.length)
 |_,0,_,_,_,_,_,hf,_,_=>by omega
 |[],f+1,s,j,a,_,hl,_,_,_=>by
  have hl':l.length=a:=by simpa using hl
  rw[OG E l f s j a (by omega),hl']
  rfl
 |o::os,f+1,s,j,a,h,hl,hf,hs,hok=>by
  rw[List.flatMap_cons]at h hl
  rw[List.length_append]at hl
  have hv:=hok o List.mem_cons_self
  have h2:=h.right
  have ih:=λ(hl2:l.length=a+(opT o).length+(os.flatMap opT).length)=>Bf hE l os f (opS s o) (opA j o) (a+(opT o).length) h2 hl2 (by simpa using hf) hs.2 λy hy=>hok y (List.mem_cons_of_mem _ hy)
  have ih:=ih (by omega)
  have h0:=h.left
  clear h h2 hl hok
  obtain⟨hs,_⟩:=hs
  rw[List.foldl_cons,<-ih]
  clear ih
  cases o with
  |prio p=>
   obtain⟨w1,w2⟩:=qF hv
   have h0:=eD.word h0.head w1
   rw[KG E l f s j a h0.lt p (by rw[dL h0];exact w2),if_neg (by simpa[opF]using hs)]
   rfl
  |part n=>
   have h1:=h0.tail.head.of (gB hv.1 hv.2).1
   have h0:=eD.word h0.head (by decide +kernel)
   rw[Ls E l f s j a h0.lt (by rw[dL h0];rfl),if_neg (by simpa[opF]using hs),bind_ok (kg h1 _ (hE.number _ hv.1 hv.2))]
   rfl
  |hold=>
   have h0:=eD.word h0.head (by decide +kernel)
   rw[LX E l f s j a h0.lt (by rw[dL h0];rfl),if_neg (by simpa[opF]using hs)]
   rfl
  |res=>
   have h0:=eD.word h0.head (by decide +kernel)
   rw[OU E l f s j a h0.lt (by rw[dL h0];rfl),if_neg (by simpa[opF]using hs)]
   rfl
  |lnk x=>
   obtain⟨ht,hv⟩:=hv
   obtain⟨hk,_⟩:=hE.refK hv
   obtain⟨ty,rf⟩:=x
   have h1:aV l (a+1) (Lx.aD rf).1 rf:=h0.tail.head
   have h0:=h0.head
   rcases ht with rfl|rfl
   ·have h0:aV l a (Lx.aD (bw eU)).1 (bw eU):=h0
    have h0:=eD.word h0 (by decide +kernel)
    rw[Mx E l f s j a h0.lt (by rw[dL h0];rfl),bind_ok (EX h1 hk hv)]
    rfl
   ·have h0:aV l a (Lx.aD (bw bu)).1 (bw bu):=h0
    have h0:=eD.word h0 (by decide +kernel)
    rw[Hd E l f s j a h0.lt (by rw[dL h0];rfl),bind_ok (EX h1 hk hv)]
    rfl
def Fu (V:Nat->ByteArray->Bool)(i:Ins)(os:List Op):Prop:=Ir {} os/\(∀o∈os,opV V o)/\∀j:Ins,j.priority=0->j.partial_=false->j.minLot=0->j.hold=false->j.reserve=false->j.links=[]->
 os.foldl opA j={j with priority:=i.priority,partial_:=i.partial_,minLot:=i.minLot,hold:=i.hold,reserve:=i.reserve,links:=i.links}
theorem QX (s:Seen)(os:List Op)(h:Ir s os):∀ls:List Link,Ir s (ls.map .lnk++os)
 |[]=>h
 |x::ls=>⟨rfl,QX s os h ls⟩
theorem QF:∀(ls:List Link) (j:Ins),(ls.map Op.lnk).foldl opA j={j with links:=j.links++ls}
 |[],j=>by simp
 |x::ls,j=>by
  rw[List.map_cons,List.foldl_cons,QF ls]
  simp[opA]
def oPr (i:Ins):List Op:=if i.priority=0 then[]else[.prio i.priority]
def oPa (i:Ins):List Op:=if i.partial_=true then[.part i.minLot]else[]
def oHo (i:Ins):List Op:=if i.hold=true then[.hold]else[]
def oRe (i:Ins):List Op:=if i.reserve=true then[.res]else[]
def kV (i:Ins):List Op:=oPr i++(oPa i++(i.links.map .lnk++(oRe i++oHo i)))
def lOps (i:Ins):List Op:=.prio i.priority::(oPa i++(oHo i++(oRe i++i.links.map .lnk)))
theorem PL {V:Nat->ByteArray->Bool}{i:Ins}(h:lF V i)(o:Op):(o∈oPr i\/o=.prio i.priority\/o∈oPa i\/o∈oHo i\/o∈oRe i\/o∈i.links.map .lnk)->opV V o:=by
 have hlot:i.partial_=true->1<=i.minLot/\i.minLot<=bM:=λhp=>by
  have h1:=h.lot hp
  have h2:=h.qty (by have:=h.part hp;omega)
  omega
 rintro(h0|h0|h0|h0|h0|h0)
 ·unfold oPr at h0
  split at h0
  ·cases h0
  ·rw[List.mem_singleton]at h0;subst h0;exact h.prio
 ·subst h0;exact h.prio
 ·unfold oPa at h0
  split at h0
  ·rename_i hp;rw[List.mem_singleton]at h0;subst h0;exact hlot hp
  ·cases h0
 ·unfold oHo at h0
  split at h0
  ·rw[List.mem_singleton]at h0;subst h0;trivial
  ·cases h0
 ·unfold oRe at h0
  split at h0
  ·rw[List.mem_singleton]at h0;subst h0;trivial
  ·cases h0
 ·obtain⟨x,hx,rfl⟩:=List.mem_map.1 h0
  exact h.link x hx
theorem PX {V:Nat->ByteArray->Bool}{i:Ins}(h:lF V i):Fu V i (kV i):=by
 refine⟨?_,λo ho=>PL h o ?_,λj h1 h2 h3 h4 h5 h6=>?_⟩
 ·unfold kV oPr oPa oRe oHo
  split<;>split<;>split<;>split<;>simp only[List.nil_append,List.singleton_append,Ir,opF,opS,Bool.not_false,true_and]
  all_goals (refine QX _ _ ?_ _;first|trivial|exact⟨rfl,trivial⟩|exact⟨rfl,rfl,trivial⟩)
 ·unfold kV at ho
  simp only[List.mem_append]at ho
  rcases ho with h0|h0|h0|h0|h0<;>simp only[h0,true_or,or_true]
 ·have hl:=h.lot0
  unfold kV
  rw[List.foldl_append,List.foldl_append,List.foldl_append,List.foldl_append,QF]
  cases i
  cases j
  simp only at h1 h2 h3 h4 h5 h6 hl
  subst h1 h2 h3 h4 h5 h6
  simp only[oPr,oPa,oRe,oHo]
  split<;>split<;>split<;>split<;>simp_all [opA]
def ry (D:Int->ByteArray)(i:Ins)(os:List Op):List ByteArray:=
 if i.kind=3\/i.kind=4 then[bw (if i.kind=3 then fF else dR),i.ref,bw sBy,i.sender,bw rR,i.asset,bw fU,dX i.quantity,bw dU,D i.settleDay]
 else if i.kind=0 then[bw BO,i.ref,bw pV,i.sender,bw sTo,i.counterparty,bw bE,bS i.amount,bw dU,D i.settleDay]++os.flatMap opT
 else if i.kind=1 then[bw (if i.side=1 then d9 else di),i.ref,bw pV,fQ i,bw sTo,toT i,bw rR,i.asset,bw fU,dX i.quantity,bw dP,bS i.amount,bw jO,D i.tradeDay,bw dU,D i.settleDay]++os.flatMap opT
 else[bw (if i.side=1 then d9 else di),i.ref,bw pV,fQ i,bw sTo,toT i,bw rR,i.asset,bw fU,dX i.quantity,bw jD,bw jO,D i.tradeDay,bw dU,D i.settleDay]++os.flatMap opT
def jC (D:Int->ByteArray)(q:Req)(os:List Op):List ByteArray:=
 if q.op=0 then ry D q.ins os
 else if q.op=1 then[bw lT,q.ref,bw sBy,q.sender]++wu D q.amd
 else[bw (if q.op=2 then eQ else if q.op=3 then bK else fI),q.ref,bw sBy,q.sender]
theorem eD.at_ {l:List Tok}{a:Nat}{ts:List ByteArray}(h:eD l a ts)(j:Nat){t:ByteArray}(ht:ts[j]? =some t){n:Int}(hc:Lx.aD t=(n,0)):aV l (a+j) n t:=(h j t ht).of hc
theorem Ga:∀os:List Op,os.length<=(os.flatMap opT).length
 |[]=>Nat.le_refl _
 |o::os=>by
  have:=Ga os
  have h2:1<=(opT o).length:=by cases o<;>simp[opT,Pt]
  rw[List.flatMap_cons,List.length_append,List.length_cons]
  omega
section
variable {E : Env} {D : Int → ByteArray} {l : List Tok}
theorem wd {a j:Nat}{ts:List ByteArray}{w:Bs}(h:eD l a ts)(ht:ts[j]? =some (bw w))(hw:oO w=true):aV l (a+j) 0 (bw w):=h.at_ j ht (iZ hw).1
theorem Mh (hE:fV E D){i:Ins}(hi:lF E.valid i){os:List Op}(ho:Fu E.valid i os)(h:eD l 0 (ry D i os))(hl:l.length=(ry D i os).length):
 line E l 0=.ok ({ref:=i.ref,ins:={i with ref:=⟨#[]⟩} },l.length):=by
 obtain⟨o1,o2,o3⟩:=ho
 have hst:=hi.settle
 have dD:=hE.day _ hst.1 hst.2
 have vD:=hE.date _ hst.1 hst.2
 obtain⟨kr,_⟩:=hE.refK hi.ref
 have uS:=hE.upper 1 _ (by omega) hi.sender
 have hcl:Lx.aD i.ref=((Lx.aD i.ref).1,0):=by
  obtain⟨k,_,hk⟩:=fo i.ref (hE.named 2 _ (by omega) hi.ref).1 (hE.named 2 _ (by omega) hi.ref).2
  rw[hk]
 have hop:∀(j:Ins) (a:Nat),eD l a (os.flatMap opT)->l.length=a+(os.flatMap opT).length->j.priority=0->j.partial_=false->j.minLot=0->j.hold=false->j.reserve=false->j.links=[]->
  options E l (l.length+1) {} j a=.ok ({j with priority:=i.priority,partial_:=i.partial_,minLot:=i.minLot,hold:=i.hold,reserve:=i.reserve,links:=i.links},l.length):=λj a h1 h2 g1 g2 g3 g4 g5 g6=>by
  rw[Bf hE l os _ _ j a h1 h2 (by have:=Ga os;omega) o1 o2,o3 j g1 g2 g3 g4 g5 g6]
 by_cases hk:i.kind=3\/i.kind=4
 ·have hA:=hi.asset (by omega)
  have uA:=hE.upper 0 _ (by omega) hA
  obtain⟨q1,q2⟩:=hi.qty (by omega)
  unfold ry at h hl
  rw[if_pos hk]at h hl
  have e3:oO (if i.kind=3 then fF else dR)=true:=by split<;>decide +kernel
  have hrest:rest E l (if i.kind=3 then fF else dR) {ref:=i.ref} 2=.ok ({ref:=i.ref,ins:={i with ref:=⟨#[]⟩} },l.length):=by
   have hc:=xP (E:=E) (l:=l) (a:=2) i.kind {} (NA (wd h (j:=2) rfl (by decide +kernel)) rfl (h.at_ 3 rfl uS) hi.sender) (λj=>lh j (wd h (j:=4) rfl (by decide +kernel)) rfl (h.at_ 5 rfl uA) hA (wd h (j:=6) rfl (by decide +kernel)) rfl (h.at_ 7 rfl (gB q1 q2).1) (hE.number _ q1 q2)) (wd h (j:=8) rfl (by decide +kernel)) rfl (h.at_ 9 rfl dD) vD
   have e:(({kind:=i.kind,sender:=i.sender,asset:=i.asset,quantity:=i.quantity,settleDay:=i.settleDay}:Ins))={i with ref:=⟨#[]⟩}:=by
    have g1:=hi.cpN hk
    have g2:=hi.sideN (by omega)
    have g3:=hi.am0 (by omega)
    have g4:=hi.trade0 (by omega)
    have g5:=hi.prio0 hk
    have g6:i.partial_=false:=by
     cases hp:i.partial_ with
     |false=>rfl
     |true=>have:=hi.part hp;omega
    have g7:=hi.lot0 g6
    have g8:=hi.hold hk
    have g9:i.reserve=false:=by
     cases hp:i.reserve with
     |false=>rfl
     |true=>have:=hi.res hp;omega
    have g10:=hi.links0 hk
    cases i
    simp only at g1 g2 g3 g4 g5 g6 g7 g8 g9 g10
    subst g1 g2 g3 g4 g5 g6 g7 g8 g9 g10
    rfl
   rw[show l.length=2+8 from hl]
   rcases hk with hk|hk
   ·rw[if_pos hk]
    unfold rest
    rw[if_neg (by decide),if_neg (by decide),if_neg (by decide),if_pos rfl,<-hk,bind_ok hc,e]
    rfl
   ·rw[if_neg (by omega)]
    unfold rest
    rw[if_neg (by decide),if_neg (by decide),if_neg (by decide),if_neg (by decide),if_pos rfl,<-hk,bind_ok hc,e]
    rfl
  exact mK (wd h (j:=0) rfl e3) (by show(if i.kind=3 then fF else dR)∈verbs;split<;>decide) (h.at_ 1 rfl hcl) kr hi.ref _ hrest
 ·have hC:=hi.cpY hk
  have uC:=hE.upper 1 _ (by omega) hC
  by_cases h0:i.kind=0
  ·obtain⟨a1,a2⟩:=hi.am (.inl h0)
   unfold ry at h hl
   rw[if_neg hk,if_pos h0]at h hl
   have h':=h.left
   rw[List.length_append]at hl
   have hrest:rest E l BO {ref:=i.ref} 2=.ok ({ref:=i.ref,ins:={i with ref:=⟨#[]⟩} },l.length):=by
    have hc:=DY (E:=E) (l:=l) (a:=2) {} (nK (wd h' (j:=2) rfl (by decide +kernel)) rfl (h'.at_ 3 rfl uS) hi.sender (wd h' (j:=4) rfl (by decide +kernel)) rfl (h'.at_ 5 rfl uC) hC) (wd h' (j:=6) rfl (by decide +kernel)) rfl (h'.at_ 7 rfl (iw a2).1) (hE.cash _ a1 a2) (wd h' (j:=8) rfl (by decide +kernel)) rfl (h'.at_ 9 rfl dD) vD
    replace hc:=hc.trans (hop _ _ h.right (by rw[hl];rfl) rfl rfl rfl rfl rfl rfl)
    unfold rest
    rw[if_pos rfl,bind_ok hc]
    have g1:=hi.asset0 h0
    have g2:=hi.sideN (by omega)
    have g3:=hi.qty0 h0
    have g4:=hi.trade0 (by omega)
    cases i
    simp only at g1 g2 g3 g4 h0
    subst g1 g2 g3 g4 h0
    rfl
   exact mK (wd h' (j:=0) rfl (by decide +kernel)) (by decide) (h'.at_ 1 rfl hcl) kr hi.ref _ hrest
  ·have hA:=hi.asset h0
   have uA:=hE.upper 0 _ (by omega) hA
   obtain⟨q1,q2⟩:=hi.qty h0
   have CV:i.kind=1\/i.kind=2:=by have:=hi.kind;omega
   obtain⟨t1,t2⟩:=hi.trade CV
   have t3:i.tradeDay<=bV:=by omega
   have dT:=hE.day _ t1 t3
   have vT:=hE.date _ t1 t3
   have vf:E.valid 1 (fQ i)=true/\E.valid 1 (toT i)=true:=by
    unfold fQ toT
    split
    ·exact⟨hC,hi.sender⟩
    ·exact⟨hi.sender,hC⟩
   have uf:=hE.upper 1 _ (by omega) vf.1
   have ut:=hE.upper 1 _ (by omega) vf.2
   have e3:oO (if i.side=1 then d9 else di)=true:=by split<;>decide +kernel
   have fin:∀(x:Ins),trade E l {} 2=.ok (x,l.length)->x.ref=⟨#[]⟩->x.kind=i.kind->x.sender=fQ i->x.counterparty=toT i->x.side=0->x.asset=i.asset->x.quantity=i.quantity->x.amount=i.amount->x.tradeDay=i.tradeDay->x.settleDay=i.settleDay->x.priority=i.priority->x.partial_=i.partial_->x.minLot=i.minLot->x.hold=i.hold->x.reserve=i.reserve->x.links=i.links->
    rest E l (if i.side=1 then d9 else di) {ref:=i.ref} 2=.ok ({ref:=i.ref,ins:={i with ref:=⟨#[]⟩} },l.length):=by
    intro x hx x1 x2 x3 x4 x5 x6 x7 x8 x9 x10 x11 x12 x13 x14 x15 x16
    have hsd:=hi.side
    unfold fQ at x3
    unfold toT at x4
    by_cases hs:i.side=1
    ·rw[if_pos hs]at x3 x4⊢
     unfold rest
     rw[if_neg (by decide),if_neg (by decide),if_pos rfl,bind_ok hx]
     unfold turn
     cases i
     cases x
     simp only at x1 x2 x3 x4 x5 x6 x7 x8 x9 x10 x11 x12 x13 x14 x15 x16 hs
     subst x1 x2 x3 x4 x5 x6 x7 x8 x9 x10 x11 x12 x13 x14 x15 x16 hs
     rfl
    ·have hs0:i.side=0:=by omega
     rw[if_neg hs]at x3 x4⊢
     unfold rest
     rw[if_neg (by decide),if_pos rfl,bind_ok hx]
     cases i
     cases x
     simp only at x1 x2 x3 x4 x5 x6 x7 x8 x9 x10 x11 x12 x13 x14 x15 x16 hs0
     subst x1 x2 x3 x4 x5 x6 x7 x8 x9 x10 x11 x12 x13 x14 x15 x16 hs0
     rfl
   have hvb:(if i.side=1 then d9 else di)∈verbs:=by split<;>decide
   by_cases h1:i.kind=1
   ·obtain⟨a1,a2⟩:=hi.am (.inr h1)
    unfold ry at h hl
    rw[if_neg hk,if_neg h0,if_pos h1]at h hl
    have h':=h.left
    rw[List.length_append]at hl
    have hc:=Ed (E:=E) (l:=l) (a:=2) {} (nK (wd h' (j:=2) rfl (by decide +kernel)) rfl (h'.at_ 3 rfl uf) vf.1 (wd h' (j:=4) rfl (by decide +kernel)) rfl (h'.at_ 5 rfl ut) vf.2)
     (λj=>lh j (wd h' (j:=6) rfl (by decide +kernel)) rfl (h'.at_ 7 rfl uA) hA (wd h' (j:=8) rfl (by decide +kernel)) rfl (h'.at_ 9 rfl (gB q1 q2).1) (hE.number _ q1 q2))
     (wd h' (j:=10) rfl (by decide +kernel)) rfl (h'.at_ 11 rfl (iw a2).1) (hE.cash _ a1 a2) (wd h' (j:=12) rfl (by decide +kernel)) rfl (h'.at_ 13 rfl dT) vT (wd h' (j:=14) rfl (by decide +kernel)) rfl (h'.at_ 15 rfl dD) vD
    replace hc:=hc.trans (hop _ _ h.right (by rw[hl];rfl) rfl rfl rfl rfl rfl rfl)
    exact mK (wd h' (j:=0) rfl e3) hvb (h'.at_ 1 rfl hcl) kr hi.ref _ (fin _ hc rfl h1.symm rfl rfl rfl rfl rfl rfl rfl rfl rfl rfl rfl rfl rfl rfl)
   ·unfold ry at h hl
    rw[if_neg hk,if_neg h0,if_neg h1]at h hl
    have h':=h.left
    rw[List.length_append]at hl
    have hc:=free_at (E:=E) (l:=l) (a:=2) {} (nK (wd h' (j:=2) rfl (by decide +kernel)) rfl (h'.at_ 3 rfl uf) vf.1 (wd h' (j:=4) rfl (by decide +kernel)) rfl (h'.at_ 5 rfl ut) vf.2)
     (λj=>lh j (wd h' (j:=6) rfl (by decide +kernel)) rfl (h'.at_ 7 rfl uA) hA (wd h' (j:=8) rfl (by decide +kernel)) rfl (h'.at_ 9 rfl (gB q1 q2).1) (hE.number _ q1 q2))
     (wd h' (j:=10) rfl (by decide +kernel)) rfl (wd h' (j:=11) rfl (by decide +kernel)) rfl (h'.at_ 12 rfl dT) vT (wd h' (j:=13) rfl (by decide +kernel)) rfl (h'.at_ 14 rfl dD) vD
    replace hc:=hc.trans (hop _ _ h.right (by rw[hl];rfl) rfl rfl rfl rfl rfl rfl)
    exact mK (wd h' (j:=0) rfl e3) hvb (h'.at_ 1 rfl hcl) kr hi.ref _ (fin _ hc rfl (by show(2:Int)=i.kind;omega) rfl rfl rfl rfl rfl (hi.am0 (by omega)).symm rfl rfl rfl rfl rfl rfl rfl rfl)
theorem NE (hE:fV E D){q:Req}(hq:zW E.valid q=0){os:List Op}(ho:q.op=0->Fu E.valid q.ins os)(h:eD l 0 (jC D q os))(hl:l.length=(jC D q os).length):
 ∃q',line E l 0=.ok (q',l.length)/\(if q'.op=0 then{q' with sender:=q'.ins.sender,ins:={q'.ins with ref:=q'.ref} }else q')=q:=by
 obtain⟨vs,vr,hq⟩:=oz _ _ hq
 have uS:=hE.upper 1 _ (by omega) vs
 obtain⟨kr,_⟩:=hE.refK vr
 have hcl:Lx.aD q.ref=((Lx.aD q.ref).1,0):=by
  obtain⟨k,_,hk⟩:=fo q.ref (hE.named 2 _ (by omega) vr).1 (hE.named 2 _ (by omega) vr).2
  rw[hk]
 unfold jC at h hl
 rcases hq with⟨h0,hi,he⟩|⟨h1,hm,he⟩|⟨h2,he⟩
 ·rw[if_pos h0]at h hl
  refine⟨_,Mh hE hi (ho h0) h hl,?_⟩
  rw[if_pos rfl]
  exact he.symm
 ·rw[if_neg (by omega),if_pos h1]at h hl
  have h':=h.left
  rw[List.length_append]at hl
  have hl:l.length=4+(wu D q.amd).length:=hl
  have hn:1<=(wu D q.amd).length:=by
   have:=hm.some
   unfold wu Hw qK rz nk
   simp only[List.length_append]
   rcases this with hb|hb|hb|hb<;>rw[hb,if_pos rfl]
   ·rw[List.length_cons];omega
   ·rw[List.length_cons];omega
   ·rw[List.length_cons];omega
   ·have:1<=(if q.amd.partial_=true then[bw aO,dX q.amd.minLot]else[bw dz]).length:=by split<;>simp
    omega
  have hrest:rest E l lT {ref:=q.ref} 2=.ok ({op:=1,sender:=q.sender,ref:=q.ref,amd:=q.amd},l.length):=by
   unfold rest
   rw[if_neg (by decide),if_neg (by decide),if_neg (by decide),if_neg (by decide),if_neg (by decide),if_pos rfl,bind_ok (NA (E:=E) (l:=l) (a:=2) (wd h' (j:=2) rfl (by decide +kernel)) rfl (h'.at_ 3 rfl uS) vs)]
   show(if l.length<=4 then _ else _)=_
   rw[if_neg (by omega),bind_ok (MM hE l q.amd 4 h.right hl hm)]
   rfl
  refine⟨_,mK (wd h' (j:=0) rfl (by decide +kernel)) (by decide) (h'.at_ 1 rfl hcl) kr vr _ hrest,?_⟩
  rw[if_neg (by show¬(1:Int)=0;decide)]
  exact he.symm
 ·rw[if_neg (by omega),if_neg (by omega)]at h hl
  have hb:=NA (E:=E) (l:=l) (a:=2) (wd h (j:=2) rfl (by decide +kernel)) rfl (h.at_ 3 rfl uS) vs
  have e3:oO (if q.op=2 then eQ else if q.op=3 then bK else fI)=true:=by split<;>(try split)<;>decide +kernel
  have hrest:rest E l (if q.op=2 then eQ else if q.op=3 then bK else fI) {ref:=q.ref} 2=.ok ({op:=q.op,sender:=q.sender,ref:=q.ref},l.length):=by
   rw[show l.length=4 from hl]
   rcases h2 with h2|h2|h2
   ·rw[show(if q.op=2 then eQ else if q.op=3 then bK else fI)=eQ from by rw[h2];rfl,h2]
    unfold rest
    rw[if_neg (by decide),if_neg (by decide),if_neg (by decide),if_neg (by decide),if_neg (by decide),if_neg (by decide),if_pos rfl,bind_ok hb];rfl
   ·rw[show(if q.op=2 then eQ else if q.op=3 then bK else fI)=bK from by rw[h2];rfl,h2]
    unfold rest
    rw[if_neg (by decide),if_neg (by decide),if_neg (by decide),if_neg (by decide),if_neg (by decide),if_neg (by decide),if_neg (by decide),if_pos rfl,bind_ok hb];rfl
   ·rw[show(if q.op=2 then eQ else if q.op=3 then bK else fI)=fI from by rw[h2];rfl,h2]
    unfold rest
    rw[if_neg (by decide),if_neg (by decide),if_neg (by decide),if_neg (by decide),if_neg (by decide),if_neg (by decide),if_neg (by decide),if_neg (by decide),bind_ok hb];rfl
  refine⟨_,mK (wd h (j:=0) rfl e3) (by show(if q.op=2 then eQ else if q.op=3 then bK else fI)∈verbs;split<;>(try split)<;>decide) (h.at_ 1 rfl hcl) kr vr _ hrest,?_⟩
  rw[if_neg (by show¬q.op=0;omega)]
  exact he.symm
end
def rF:List ByteArray->List (Bs×Bs)
 |[]=>[]
 |t::ts=>([],t.data.toList)::ts.map λx=>([32],x.data.toList)
def dI (ts:List ByteArray):ByteArray:=⟨(Lx.dF (rF ts) []).toArray⟩
theorem xV (ts:List ByteArray):(rF ts).map (·.2)=ts.map (·.data.toList):=by
 cases ts with
 |nil=>rfl
 |cons t ts=>simp[rF]
theorem zf (ts:List ByteArray):(rF ts).length=ts.length:=by
 have:=congrArg List.length (xV ts)
 simpa using this
theorem DJ (ts:List ByteArray):eD (Lx.il (rF ts) 0) 0 ts:=λj t hj=>by
 have h1:((rF ts).map (·.2))[j]? =some t.data.toList:=by rw[xV,List.getElem?_map,hj];rfl
 rw[List.getElem?_map]at h1
 obtain⟨⟨g,x⟩,h2,h3⟩:=Option.map_eq_some_iff.1 h1
 have h3:x=t.data.toList:=h3
 subst h3
 rw[Nat.zero_add]
 exact xZ _ 0 j g _ h2
theorem OV {ts:List ByteArray}(h:∀t∈ts,oo t):Lx.ng (rF ts) true:=by
 have one:∀t:ByteArray,oo t->Lx.gz t.data.toList=true/\t.data.toList≠[]/\(Lx.aD ⟨t.data.toList.toArray⟩).2=0/\(t.data.toList.all λc=>c !=35)=true:=λt ht=>⟨ht.1,ht.2.1,ht.2.2,Lx.uW t ht.2.2⟩
 have tl:∀us:List ByteArray,(∀t∈us,oo t)->Lx.ng (us.map λx=>([32],x.data.toList)) false:=by
  intro us
  induction us with
  |nil=>exactλ_=>trivial
  |cons t us ih=>
   intro hu
   obtain⟨h1,h2,h3,h4⟩:=one t (hu t List.mem_cons_self)
   exact⟨λ_=>by simp,by decide,h1,h2,h3,h4,ih λx hx=>hu x (List.mem_cons_of_mem _ hx)⟩
 cases ts with
 |nil=>trivial
 |cons t ts=>
  obtain⟨h1,h2,h3,h4⟩:=one t (h t List.mem_cons_self)
  exact⟨λhb=>(by cases hb),rfl,h1,h2,h3,h4,tl ts λx hx=>h x (List.mem_cons_of_mem _ hx)⟩
def nL:List ByteArray->Nat
 |[]=>0
 |t::ts=>t.size+1+nL ts
theorem rH:∀ts us:List ByteArray,nL (ts++us)=nL ts+nL us
 |[],us=>by simp[nL]
 |t::ts,us=>by
  show t.size+1+nL (ts++us)=t.size+1+nL ts+nL us
  rw[rH ts us]
  omega
theorem xx (ts:List ByteArray):(dI ts).size<=nL ts:=by
 have tl:∀us:List ByteArray,(Lx.dF (us.map λx=>([32],x.data.toList)) []).length=nL us:=by
  intro us
  induction us with
  |nil=>rfl
  |cons t us ih=>
   show([32]++(t.data.toList++Lx.dF _ [])).length=t.size+1+nL us
   rw[List.length_append,List.length_append,ih]
   have:t.data.toList.length=t.size:=rfl
   simp only[List.length_singleton]
   omega
 cases ts with
 |nil=>exact Nat.le_refl _
 |cons t ts=>
  show([]++(t.data.toList++Lx.dF (ts.map λ(x:ByteArray)=>([32],x.data.toList)) [])).length<=t.size+1+nL ts
  rw[List.nil_append,List.length_append,tl]
  have:t.data.toList.length=t.size:=rfl
  omega
theorem CZ {ts:List ByteArray}(h:∀t∈ts,oo t)(hl:nL ts<=1024):Lx.aL (dI ts)=(Lx.il (rF ts) 0,0,0):=
 Lx.xA _ _ (OV h) rfl (by have:=xx ts;exact Nat.le_trans this hl)
section
variable {E : Env} {D : Int → ByteArray}
theorem jl {n:Int}(h2:n<=bM):(dX n).size<=16:=by
 unfold bM at h2
 exact gY 15 n.toNat (by omega)
theorem iV {n:Int}(h2:n<=bM):(bS n).size<=17:=by
 unfold bM at h2
 exact oN n.toNat (by omega)
theorem vM (p:Int):(bw (fB p)).size<=6:=by
 unfold fB
 split
 ·decide
 ·split<;>decide
def Good (n:Nat)(ts:List ByteArray):Prop:=(∀t∈ts,oo t)/\nL ts<=n
theorem Good.nil:Good 0 []:=⟨λ_ h=>(by cases h),Nat.le_refl _⟩
theorem Good.cons {k n:Nat}{t:ByteArray}{ts:List ByteArray}(ht:oo t)(hs:t.size<=k)(h:Good n ts):Good (k+1+n) (t::ts):=⟨λx hx=>by
 rcases List.mem_cons.1 hx with rfl|hx
 ·exact ht
 ·exact h.1 x hx,by have:=h.2;unfold nL;omega⟩
theorem Good.app {k n:Nat}{ts us:List ByteArray}(h1:Good k ts)(h2:Good n us):Good (k+n) (ts++us):=⟨λx hx=>by
 rcases List.mem_append.1 hx with hx|hx
 ·exact h1.1 x hx
 ·exact h2.1 x hx,by rw[rH];have:=h1.2;have:=h2.2;omega⟩
theorem Good.mono {k n:Nat}{ts:List ByteArray}(h:Good k ts)(hk:k<=n):Good n ts:=⟨h.1,Nat.le_trans h.2 hk⟩
theorem Good.w {n:Nat}{w:Bs}{ts:List ByteArray}(hw:oO w=true)(hs:w.length<=8)(h:Good n ts):Good (9+n) (bw w::ts):=Good.cons (k:=8) (iZ hw).2 hs h
theorem Oh (hE:fV E D){o:Op}(h:opV E.valid o):Good 40 (opT o):=by
 cases o with
 |prio p=>exact(Good.cons (iZ (qF h).1).2 (vM p) .nil).mono (by decide)
 |part n=>exact(Good.w (by decide +kernel) (by decide) (.cons (gB h.1 h.2).2 (jl h.2) .nil)).mono (by decide)
 |hold=>exact(Good.w (by decide +kernel) (by decide) .nil).mono (by decide)
 |res=>exact(Good.w (by decide +kernel) (by decide) .nil).mono (by decide)
 |lnk x=>
  obtain⟨ht,hv⟩:=h
  have hr:Good 33 [x.ref]:=.cons (hE.refK hv).2 (hE.named 2 _ (by omega) hv).2 .nil
  show Good 40 [bw (if x.type=0 then eU else bu),x.ref]
  split
  ·exact Good.cons (k:=5) (iZ (w:=eU) (by decide +kernel)).2 (by decide) hr|>.mono (by decide)
  ·exact Good.cons (k:=5) (iZ (w:=bu) (by decide +kernel)).2 (by decide) hr|>.mono (by decide)
theorem BF (hE:fV E D):∀(os:List Op),(∀o∈os,opV E.valid o)->Good (40*os.length) (os.flatMap opT)
 |[],_=>.nil
 |o::os,h=>by
  rw[List.flatMap_cons,List.length_cons]
  exact((Oh hE (h o List.mem_cons_self)).app (BF hE os λx hx=>h x (List.mem_cons_of_mem _ hx))).mono (by omega)
theorem M0 (hE:fV E D)(hD:∀n:Int,0<=n->n<=bV->(D n).size<=10){i:Ins}(hi:lF E.valid i){os:List Op}(ho:∀o∈os,opV E.valid o)(hn:os.length<=12):Good 1024 (ry D i os):=by
 have hst:=hi.settle
 have gD:=hE.dayG hst.1 hst.2
 have sD:=hD _ hst.1 hst.2
 have gR:=(hE.refK hi.ref).2
 have sR:=(hE.named 2 _ (by omega) hi.ref).2
 have gS:=hE.upG (k:=1) (by omega) hi.sender
 have sS:=(hE.named 1 _ (by omega) hi.sender).2
 have gO:=(BF hE os ho).mono (n:=480) (by omega)
 unfold ry
 split
 ·rename_i hk
  have hA:=hi.asset (by omega)
  have gA:=hE.upG (k:=0) (by omega) hA
  have sA:=(hE.named 0 _ (by omega) hA).2
  obtain⟨q1,q2⟩:=hi.qty (by omega)
  refine Good.mono (Good.w (by split<;>decide +kernel) (by split<;>decide) (.cons gR sR (.w (by decide +kernel) (by decide) (.cons gS sS (.w (by decide +kernel) (by decide) (.cons gA sA (.w (by decide +kernel) (by decide) (.cons (gB q1 q2).2 (jl q2) (.w (by decide +kernel) (by decide) (.cons gD sD .nil)))))))))) (by decide)
 ·rename_i hk
  have hC:=hi.cpY hk
  have gC:=hE.upG (k:=1) (by omega) hC
  have sC:=(hE.named 1 _ (by omega) hC).2
  split
  ·rename_i h0
   obtain⟨a1,a2⟩:=hi.am (.inl h0)
   exact((Good.w (by decide +kernel) (by decide) (.cons gR sR (.w (by decide +kernel) (by decide) (.cons gS sS (.w (by decide +kernel) (by decide) (.cons gC sC (.w (by decide +kernel) (by decide) (.cons (iw a2).2 (iV a2) (.w (by decide +kernel) (by decide) (.cons gD sD .nil)))))))))).app gO).mono (by decide)
  ·rename_i h0
   have hA:=hi.asset h0
   have gA:=hE.upG (k:=0) (by omega) hA
   have sA:=(hE.named 0 _ (by omega) hA).2
   obtain⟨q1,q2⟩:=hi.qty h0
   have CV:i.kind=1\/i.kind=2:=by have:=hi.kind;omega
   obtain⟨t1,t2⟩:=hi.trade CV
   have t3:i.tradeDay<=bV:=by omega
   have gT:=hE.dayG t1 t3
   have sT:=hD _ t1 t3
   have vf:oo (fQ i)/\(fQ i).size<=32/\oo (toT i)/\(toT i).size<=32:=by
    unfold fQ toT
    split
    ·exact⟨gC,sC,gS,sS⟩
    ·exact⟨gS,sS,gC,sC⟩
   obtain⟨f1,f2,f3,f4⟩:=vf
   split
   ·rename_i h1
    obtain⟨a1,a2⟩:=hi.am (.inr h1)
    exact((Good.w (by split<;>decide +kernel) (by split<;>decide) (.cons gR sR (.w (by decide +kernel) (by decide) (.cons f1 f2 (.w (by decide +kernel) (by decide) (.cons f3 f4 (.w (by decide +kernel) (by decide) (.cons gA sA (.w (by decide +kernel) (by decide) (.cons (gB q1 q2).2 (jl q2) (.w (by decide +kernel) (by decide) (.cons (iw a2).2 (iV a2) (.w (by decide +kernel) (by decide) (.cons gT sT (.w (by decide +kernel) (by decide) (.cons gD sD .nil)))))))))))))))).app gO).mono (by decide)
   ·exact((Good.w (by split<;>decide +kernel) (by split<;>decide) (.cons gR sR (.w (by decide +kernel) (by decide) (.cons f1 f2 (.w (by decide +kernel) (by decide) (.cons f3 f4 (.w (by decide +kernel) (by decide) (.cons gA sA (.w (by decide +kernel) (by decide) (.cons (gB q1 q2).2 (jl q2) (.w (by decide +kernel) (by decide) (.w (by decide +kernel) (by decide) (.cons gT sT (.w (by decide +kernel) (by decide) (.cons gD sD .nil))))))))))))))).app gO).mono (by decide)
theorem MR (hE:fV E D)(hD:∀n:Int,0<=n->n<=bV->(D n).size<=10){m:Amd}(hm:nJ m):Good 200 (wu D m):=by
 have g1:Good 30 (Hw m):=by
  unfold Hw
  split
  ·rename_i h
   obtain⟨a1,a2⟩:=hm.am h
   exact(Good.w (by decide +kernel) (by decide) (.cons (iw a2).2 (iV a2) .nil)).mono (by decide)
  ·exact Good.nil.mono (by decide)
 have g2:Good 30 (qK D m):=by
  unfold qK
  split
  ·exact(Good.w (by decide +kernel) (by decide) (.cons (hE.dayG hm.day.1 hm.day.2) (hD _ hm.day.1 hm.day.2) .nil)).mono (by decide)
  ·exact Good.nil.mono (by decide)
 have g3:Good 30 (rz m):=by
  unfold rz
  split
  ·exact(Good.cons (iZ (qF hm.prio).1).2 (vM _) .nil).mono (by decide)
  ·exact Good.nil.mono (by decide)
 have g4:Good 30 (nk m):=by
  unfold nk
  split
  ·split
   ·rename_i h
    obtain⟨a1,a2⟩:=hm.lot h
    exact(Good.w (by decide +kernel) (by decide) (.cons (gB a1 a2).2 (jl a2) .nil)).mono (by decide)
   ·exact(Good.w (by decide +kernel) (by decide) .nil).mono (by decide)
  ·exact Good.nil.mono (by decide)
 exact(g1.app (g2.app (g3.app g4))).mono (by decide)
theorem LD (hE:fV E D)(hD:∀n:Int,0<=n->n<=bV->(D n).size<=10){q:Req}(hq:zW E.valid q=0){os:List Op}(ho:q.op=0->(∀o∈os,opV E.valid o)/\os.length<=12):Good 1024 (jC D q os):=by
 obtain⟨vs,vr,hq⟩:=oz _ _ hq
 have gR:=(hE.refK vr).2
 have sR:=(hE.named 2 _ (by omega) vr).2
 have gS:=hE.upG (k:=1) (by omega) vs
 have sS:=(hE.named 1 _ (by omega) vs).2
 unfold jC
 rcases hq with⟨h0,hi,_⟩|⟨h1,hm,_⟩|⟨h2,_⟩
 ·rw[if_pos h0]
  exact M0 hE hD hi (ho h0).1 (ho h0).2
 ·rw[if_neg (by omega),if_pos h1]
  exact((Good.w (by decide +kernel) (by decide) (.cons gR sR (.w (by decide +kernel) (by decide) (.cons gS sS .nil)))).app (MR hE hD hm)).mono (by decide)
 ·rw[if_neg (by omega),if_neg (by omega)]
  exact(Good.w (by split<;>(try split)<;>decide +kernel) (by split<;>(try split)<;>decide) (.cons gR sR (.w (by decide +kernel) (by decide) (.cons gS sS .nil)))).mono (by decide)
theorem ops_le {V:Nat->ByteArray->Bool}{i:Ins}(h:lF V i):(kV i).length<=12/\(lOps i).length<=12:=by
 have hl:=h.links
 have h1:(oPr i).length<=1:=by unfold oPr;split<;>simp
 have h2:(oPa i).length<=1:=by unfold oPa;split<;>simp
 have h3:(oRe i).length<=1:=by unfold oRe;split<;>simp
 have h4:(oHo i).length<=1:=by unfold oHo;split<;>simp
 unfold kV lOps
 simp only[List.length_append,List.length_cons,List.length_map]
 omega
theorem DN (hE:fV E D)(hD:∀n:Int,0<=n->n<=bV->(D n).size<=10){q:Req}(hq:zW E.valid q=0){os:List Op}(ho:q.op=0->Fu E.valid q.ins os/\os.length<=12):
 parse E (zW E.valid) (dI (jC D q os))=(q,0,0)/\(dI (jC D q os)).size<=1024:=by
 have hg:=LD hE hD hq (os:=os) λh=>⟨(ho h).1.2.1,(ho h).2⟩
 obtain⟨q',h1,h2⟩:=NE hE hq (λh=>(ho h).1) (DJ (jC D q os)) (by rw[mi,zf])
 refine⟨?_,Nat.le_trans (xx _) hg.2⟩
 unfold parse
 rw[CZ hg.1 hg.2,if_neg (by simp)]
 simp only[]
 rw[h1]
 simp only[]
 rw[h2,if_neg (by simpa using hq)]
end
end Go.Proofs.YtnjjeapcalkmaaaGreatDoor.Ps
namespace Go.Proofs.YtnjjeapcalkmaaaGreatDoor
open Go Go.RowKit
theorem Qa {k:Nat}{s:ByteArray}(h:bN.valid k s=true):bJ k s=0:=by
 have h:decide (au k s=0)=true:=h
 rw[decide_eq_true_eq]at h
 unfold au at h
 by_cases hf:bJ k s=0
 ·exact hf
 ·rw[if_pos hf]at h;exact absurd h hf
theorem zU (k:Nat)(hk:k<3)(c:Int):∀j,j<(bL k).length->((bL k).map (·.2)).getD j (λ_=>true) c=true->Lx.named c=true:=by
 have key:∀p∈(bL k).map (·.2),p c=true->Lx.named c=true:=by
  intro p hp hc
  have:p=Id.letter\/p=Id.dE\/p=Id.digit\/p=Id.EQ:=by
   rcases(show k=0\/k=1\/k=2 by omega)with rfl|rfl|rfl
   ·simp[bL]at hp;rcases hp with h|h|h<;>simp[h]
   ·simp[bL]at hp;rcases hp with h|h<;>simp[h]
   ·simp[bL]at hp;simp[hp]
  rcases this with rfl|rfl|rfl|rfl
  ·simp[Id.letter,Lx.named]at hc⊢;simp[hc]
  ·simp[Id.dE,Lx.named]at hc⊢;rcases hc with hc|hc<;>simp[hc]
  ·simp[Id.digit,Lx.named]at hc⊢;simp[hc]
  ·simp[Id.EQ,Id.dE,Lx.named]at hc⊢;rcases hc with(hc|hc)|hc<;>simp[hc]
 intro j hj h
 rw[List.getD_eq_getElem?_getD,List.getElem?_eq_getElem (by rw[List.length_map];exact hj)]at h
 exact key _ (List.getElem_mem _) h
theorem fE {k:Nat}(hk:k<3){s:ByteArray}(h:bN.valid k s=true):Lx.all Lx.named s.data.toList=true/\s.size<=32:=by
 obtain⟨h1,h2,h3⟩:=gJ k s (Qa h)
 have hlow:1<=(aP k).low:=by
  rcases(show k=0\/k=1\/k=2 by omega)with rfl|rfl|rfl<;>decide
 have hlen:=eT k
 have hs:s.size=s.data.toList.length:=Lib.size_eq s
 refine⟨?_,by omega⟩
 unfold Lx.all
 rw[Bool.and_eq_true,List.all_eq_true]
 refine⟨?_,λc hc=>?_⟩
 ·have:s.data.toList≠[]:=λh0=>by rw[h0]at hs;simp only[List.length_nil]at hs;omega
  simpa using this
 ·obtain⟨j,hj,rfl⟩:=List.getElem_of_mem hc
  have hjs:j<s.size:=by rw[hs];exact hj
  have:=zU k hk (PlainAid.bt s j) j (by omega) (h3 j hjs)
  rwa [show PlainAid.bt s j=((s.data.toList[j]'hj).toNat:Int)from(PlainAid.get_bt s j hjs).symm]at this
theorem LG {k:Nat}(hk:k<2){s:ByteArray}(h:bN.valid k s=true):Lx.aD s=(1,0):=by
 obtain⟨h1,h2,h3⟩:=gJ k s (Qa h)
 obtain⟨n1,n2⟩:=fE (by omega) h
 have hlow:1<=(aP k).low:=by
  rcases(show k=0\/k=1 by omega)with rfl|rfl<;>decide
 have hs:s.size=s.data.toList.length:=Lib.size_eq s
 have h0:0<s.size:=by omega
 have hj:0<s.data.toList.length:=by omega
 refine Ps.ul s n1 n2 (s.data.toList[0]'hj) (by rw[List.head?_eq_getElem?,List.getElem?_eq_getElem hj]) ?_
 have h4:=h3 0 h0
 rw[show PlainAid.bt s 0=((s.data.toList[0]'hj).toNat:Int)from(PlainAid.get_bt s 0 h0).symm]at h4
 rcases(show k=0\/k=1 by omega)with rfl|rfl
 ·exact h4
 ·exact h4
theorem QA {n:Int}(h1:1<=n)(h2:n<=Ps.bM):nD (Ps.dX n)=(n,0):=by
 have hc:=(Ps.gB h1 h2).1
 unfold Ps.bM at h2
 obtain⟨d1,d2,d3,_⟩:=Ps.dJ n.toNat
 have hp:=(Ps.pI _ d1 d2).1 (by rw[d3];omega)
 rw[d3]at hp
 unfold nD
 rw[if_pos hc]
 rw[show(Ps.dX n).data.toList=Ps.dec n.toNat from rfl,hp]
 simp only
 unfold ym
 rw[if_neg (by omega)]
 refine Prod.ext ?_ rfl
 show(n.toNat:Int)=n
 omega
theorem JI {n:Int}(h1:1<=n)(h2:n<=Ps.bM):qA xH (Ps.bS n)=(n,0):=by
 have hc:=(Ps.iw h2).1
 unfold Ps.bM at h2
 obtain⟨d1,d2⟩:=Ps.JB n.toNat
 have hp:=(Ps.pI _ d1 (by simp)).1 (by rw[d2];omega)
 rw[d2]at hp
 have hx:Lib.hasPrefix (Ps.bZ n.toNat) [45]=false:=by
  unfold Lib.hasPrefix
  rw[Bool.eq_false_iff]
  intro hb
  obtain⟨e1,e2,_⟩:=Ps.dJ (n.toNat/100)
  have:(Ps.bZ n.toNat).head? =some 45:=by
   rcases hq:Ps.bZ n.toNat with _|⟨c,l⟩
   ·rw[hq]at hb;simp at hb
   ·rw[hq]at hb;simp at hb;rw[<-hb];rfl
  unfold Ps.bZ at this
  rw[Ps.pz _ e2]at this
  exact Ps.yS (by decide) (List.mem_of_mem_head? this)
 unfold qA
 rw[if_pos hc]
 have hA:xH (Ps.bS n)=(n,0):=by
  unfold xH
  rw[show(Ps.bS n).data.toList=Ps.bZ n.toNat from rfl,Ps.tY,Ps.xy]
  simp only
  rw[hp,hx]
  simp only[Bool.false_eq_true,if_false]
  unfold Dr
  rw[if_pos (by omega)]
  refine Prod.ext ?_ rfl
  show(n.toNat:Int)=n
  omega
 rw[hA,if_pos rfl]
 unfold ym
 rw[if_neg (by omega)]
theorem K3:Ps.fV bN Ps.bA where
 named:=λ_ _ hk h=>fE hk h
 upper:=λ_ _ hk h=>LG hk h
 number:=λ_ h1 h2=>QA h1 h2
 cash:=λ_ h1 h2=>JI h1 h2
 date:=λn h1 h2=>by
  show ji Ps.fM (Ps.bA n)=(n,0)
  unfold ji
  rw[(Ps.jB h1 h2).1]
  rfl
 day:=λ_ h1 h2=>(Ps.jB h1 h2).2.1
 daySolid:=λ_ h1 h2=>⟨(Ps.jB h1 h2).2.2.1,(Ps.jB h1 h2).2.2.2.1⟩
theorem qU (n:Int)(h1:0<=n)(h2:n<=Ps.bV):(Ps.bA n).size<=10:=Nat.le_of_eq (Ps.jB h1 h2).2.2.2.2
theorem jE {q:Ps.Req}(hq:psR q=0):Ps.parse bN psR (Ps.dI (Ps.jC Ps.bA q (Ps.kV q.ins)))=(q,0,0)/\(Ps.dI (Ps.jC Ps.bA q (Ps.kV q.ins))).size<=1024:=
 Ps.DN K3 qU hq λh0=>by
  obtain⟨_,_,h⟩:=Ps.oz _ _ hq
  rcases h with⟨_,hi,_⟩|⟨h1,_⟩|⟨h1,_⟩
  ·exact⟨Ps.PX hi,(Ps.ops_le hi).1⟩
  ·omega
  ·omega
open Go Go.RowKit Go.Proofs.YtnjjeapcalkmaaaGreatDoor.Ord
open Go.Proofs.YtnjjeapcalkmaaaGreatDoor.Se
def nvR (rows:List (Option (Nat×Nat)×List Value)):PV->PV
 | .r k j=>.v (Ev.az rows k j)
 |u=>u
theorem Fw {M:Mem}{fn:Func}{r:Nat}{x:SB}{us:List PV}{ts:List Nat}{a:Act}{w:World}{R:Ending->World->Prop}(hres:fn.results=#[.tmp r])(hd:a.defers=[])(hv:kF M (r::ts) (.s x::us) a w)(hR:R (.returned (.string (st x))) w):bodyPost Tryz.prog fn R .ret a w:=by
 obtain⟨⟨v,h1,h2⟩,_⟩:=hv.cons
 have h2:v=.string (st x):=h2
 subst h2
 refine bodyPost_ret (results_tmp hres _ _ _) hd ?_
 rw[show a.tmps.getD r undef=.string (st x)from eval_at h1]
 exact hR
theorem cK {M:Mem}{w:World}(hB:M.B=M.W.heap.size)(h:Sw M w):Below M.W.heap.size M.W w:=by
 have:=h.to
 rwa [hB]at this
theorem Di (n:Nat)(h:n<1000000000000000000):(Ps.dX (n:Int)).size<=20:=by
 have:=Ps.gY 17 n (by omega)
 show(Ps.dec (n:Int).toNat).length<=20
 rw[Int.toNat_natCast]
 omega
theorem oU {P:Program}{c:Code}{tmps:Array Value}{Q:Exit->Act->World->Prop}{w:World}(h:∀a:Act,a.tmps=tmps->a.defers=[]->c.wp P Q a w):c.wp P Q ⟨tmps,[]⟩ w:=h _ rfl rfl
open Go.RowKit
inductive wR (t:ByteArray):Bool->Prop where
 |short (h:decide (4<=(t.size:Int))=false):wR t false
 |point (m:Nat) (h:decide (4<=(t.size:Int))=true) (hm:(t.size:Int)-3=(m:Int)) (NN:m<t.size) (b:(PlainAid.bt t m==46)=false):wR t false
 |last (m:Nat) (h:decide (4<=(t.size:Int))=true) (hm:(t.size:Int)-3=(m:Int)) (NN:m<t.size) (hm1:(t.size:Int)-1=((m+2:Nat):Int)) (hml1:m+2<t.size) (b:(PlainAid.bt t m==46)=true) (c:Lx.digit (PlainAid.bt t (m+2))=false):wR t false
 |one (m:Nat) (h:decide (4<=(t.size:Int))=true) (hm:(t.size:Int)-3=(m:Int)) (NN:m<t.size) (hm1:(t.size:Int)-1=((m+2:Nat):Int)) (hml1:m+2<t.size) (hm2:(t.size:Int)-2=((m+1:Nat):Int)) (hml2:m+1<t.size) (b:(PlainAid.bt t m==46)=true) (c:Lx.digit (PlainAid.bt t (m+2))=true) (d:Lx.digit (PlainAid.bt t (m+1))=false):wR t false
 |all (m:Nat) (r:Bool) (h:decide (4<=(t.size:Int))=true) (hm:(t.size:Int)-3=(m:Int)) (NN:m<t.size) (hm1:(t.size:Int)-1=((m+2:Nat):Int)) (hml1:m+2<t.size) (hm2:(t.size:Int)-2=((m+1:Nat):Int)) (hml2:m+1<t.size) (b:(PlainAid.bt t m==46)=true) (c:Lx.digit (PlainAid.bt t (m+2))=true) (d:Lx.digit (PlainAid.bt t (m+1))=true) (e:Hid (Lx.whole (t.extract 0 m).data.toList=r)):wR t r
inductive nG:Bool->Bool->Bool->Bool->Bool->Bool->Int->Int->Prop where
 |date (g s m n o:Bool):nG true g s m n o 4 0
 |num (m n o:Bool):nG false true true m n o 2 0
 |decG (n o:Bool):nG false true false true n o 3 0
 |dec (s n o:Bool):nG false false s true n o 3 0
 |nameG (o:Bool):nG false true false false true o 1 0
 |name (s o:Bool):nG false false s false true o 1 0
 |wordG:nG false true false false false true 0 0
 |word (s:Bool):nG false false s false false true 0 0
 |noneG:nG false true false false false false 0 30
 |none (s:Bool):nG false false s false false false 0 30
end Go.Proofs.YtnjjeapcalkmaaaGreatDoor
namespace Go.Proofs.YtnjjeapcalkmaaaGreatDoor.Se
open Go Go.RowKit Go.Proofs.YtnjjeapcalkmaaaGreatDoor Go.Proofs.YtnjjeapcalkmaaaGreatDoor.Ord
def JZ (cell:Nat->Nat->Value):PV->Value->World->Prop
 | .v x,y,_=>y=x
 | .s x,y,_=>y=.string (st x)
 | .sl l,y,w=>∃B,w.ownsRow B 9 1 y l.length ((l.map st).map .string)
 | .r k j,y,_=>y=cell k j
 | .a k j n,y,_=>y=.agg ((List.range n).map λi=>cell k (j+i)).toArray
 | .u c,y,_=>y=.int .u8 (c.toNat:Int)
 | .by_ l,y,w=>∃B,w.ownsRow B 5 1 y l.length (l.map λc=>.int .u8 (c.toNat:Int))
 |_,_,_=>False
def vB (cell:Nat->Nat->Value):List PV->List Value->World->Prop
 |[],[],_=>True
 |u::us,y::ys,w=>JZ cell u y w/\vB cell us ys w
 |_,_,_=>False
def Cq:PV->Bool
 | .p _ _=>false
 | .pe _=>false
 |_=>true
inductive Rv where
 |str (n:Nat) (x:ByteArray)
 |sls (xs:List SB)
 |val (x:Value)
 |bts (xs:List UInt8)
def Rv.pv:Rv->PV
 | .str n x=>.s (n,x)
 | .sls l=>.sl l
 | .val x=>.v x
 | .bts l=>.by_ l
def Rv.fits:Rv->Prop
 | .str n x=>x.size<=n
 |_=>True
def Rv.out:Rv->Value->World->World->Prop
 | .str _ x,y,_,_=>y=.string x
 | .sls l,y,w,w'=>w'.ownsRow w.heap.size 9 1 y l.length ((l.map st).map .string)
 | .val x,y,_,_=>y=x
 | .bts l,y,w,w'=>w'.ownsRow w.heap.size 5 1 y l.length (l.map λc=>.int .u8 (c.toNat:Int))
def Spec (cell:Nat->Nat->Value)(f:FuncId)(us:List PV)(r:Rv):Prop:=
 (∀args w,(callFunc f args).run Tryz.prog w=.ok (.enter f args) w)/\r.fits/\∀(vals:List Value) (w:World),vB cell us vals w->Calls Tryz.prog f vals.toArray w λe w'=>∃y,e=.returned y/\r.out y w w'/\Below w.heap.size w w'
def SpecC (cell:Nat->Nat->Value)(f:FuncId)(us:List PV)(l l2:List SB):Prop:=
 (∀args w,(callFunc f args).run Tryz.prog w=.ok (.enter f args) w)/\∀(vals:List Value) (y:Value) (w:World) (B:Nat),B<=w.heap.size->vB cell us vals w->w.ownsRow B 9 1 y l.length ((l.map st).map .string)->(∀g,y.ownBlock=some g->B<=g)->Calls Tryz.prog f (vals++[y]).toArray w λe w'=>∃z,e=.returned z/\w'.ownsRow B 9 1 z l2.length ((l2.map st).map .string)/\Below B w w'
theorem NW {M:Mem}{u:PV}{y:Value}{w:World}(ha:Cq u=true)(h:Den M u y w):JZ M.cell u y w:=by
 cases u with
 |sl l=>exact⟨M.B,by have:=h.1;rw[List.length_map]at this;exact this⟩
 |by_ l=>exact⟨M.B,h.1⟩
 |p k j=>cases ha
 |pe x=>cases ha
 |_=>exact h
theorem o9 {M:Mem}{w:World}:∀{us:List PV} {ys:List Value},us.all Cq=true->j3 M us ys w->vB M.cell us ys w
 |[],[],_,_=>trivial
 |[],_::_,_,h=>h
 |_::_,[],_,h=>h
 |u::us,y::ys,ha,h=>by
  rw[List.all_cons,Bool.and_eq_true]at ha
  exact⟨NW ha.1 h.1,o9 ha.2 h.2⟩
def hook (cell:Nat->Nat->Value)(fixE:Bool)(res:FuncId->List PV->Option Rv)(resC:FuncId->List PV->List SB->Option (List SB))(f:FuncId)(us:List PV):Option (PV×Bool×Option Prop):=match res f us with
 |some r=>if us.all Cq=true then some (r.pv,false,some (Spec cell f us r))else none
 |none=>match us.reverse with
  | .sl l::rest=>match resC f rest.reverse l with
    |some l2=>if (fixE&&rest.reverse.all Cq)=true then some (.sl l2,true,some (SpecC cell f rest.reverse l l2))else none
    |none=>none
  |_=>none
theorem yD {M:Mem}{u:PV}{w:World}:∀{us:List PV} {vals:List Value},j3 M (us++[u]) vals w->∃vs y,vals=vs++[y]/\j3 M us vs w/\Den M u y w
 |[],vals,h=>by
  rcases vals with _|⟨v,_|⟨x,l⟩⟩
  ·exact h.elim
  ·exact⟨[],v,rfl,trivial,h.1⟩
  ·exact h.2.elim
 |x::us,vals,h=>by
  rcases vals with _|⟨v,l⟩
  ·exact h.elim
  ·obtain⟨vs,y,h1,h2,h3⟩:=yD h.2
   exact⟨v::vs,y,by rw[h1];rfl,⟨h.1,h2⟩,h3⟩
theorem Pw {M:Mem}(hM:Wf M){res:FuncId->List PV->Option Rv}{resC:FuncId->List PV->List SB->Option (List SB)}{fixE:Bool}(hfix:fixE=true->M.fix=[])(f:FuncId)(us:List PV)(u:PV)(c:Bool)(q:Option Prop)(h:hook M.cell fixE res resC f us=some (u,c,q))(hq:∀p,q=some p->p):
 (∀args w,(callFunc f args).run Tryz.prog w=.ok (.enter f args) w)/\∀(vals:List Value) w,Sw M w->j3 M us vals w->Calls Tryz.prog f vals.toArray w λe w'=>∃v,e=.returned v/\Den M u v w'/\Sw M w'/\(c=false->Below w.heap.size w w'):=by
 unfold hook at h
 split at h
 ·rename_i r hr
  split at h
  ·rename_i ha
   cases h
   obtain⟨h1,h2,h3⟩:=hq _ rfl
   refine⟨h1,λvals w hS hd=>(h3 vals w (o9 ha hd)).mono ?_⟩
   rintro e w' ⟨y,rfl,ho,hb⟩
   have hB:M.B<=w.heap.size:=Nat.le_trans hM.B hS.size
   have hnew:∀{t:TypeId} {n:Nat} {xs:List Value},w'.ownsRow w.heap.size t 1 y n xs->∀g,y.ownBlock=some g->g∉M.fix:=λho g hg hf=>by
    rcases ho.2 with⟨hv,_⟩|⟨g',cap,cur,hv,hb',_⟩
    ·rw[hv]at hg;cases hg
    ·rw[hv]at hg
     have:g'=g:=by simpa[Value.ownBlock]using hg
     have:=hM.fix g hf
     have:=hS.size
     omega
   refine⟨y,rfl,?_,hS.below hM hb,λ_=>hb⟩
   cases r with
   |str n x=>
    show y=.string (st (n,x))
    rw[show st (n,x)=x from jP h2]
    exact ho
   |sls l=>
    have ho:w'.ownsRow w.heap.size 9 1 y l.length ((l.map st).map .string):=ho
    refine⟨?_,hnew ho⟩
    rw[List.length_map]
    exact dH ho hB
   |val x=>exact ho
   |bts l=>
    have ho:w'.ownsRow w.heap.size 5 1 y l.length (l.map λc=>.int .u8 (c.toNat:Int)):=ho
    exact⟨dH ho hB,hnew ho⟩
  ·cases h
 ·split at h
  ·rename_i l rest hrev
   split at h
   ·rename_i l2 hl2
    split at h
    ·rename_i hc
     cases h
     rw[Bool.and_eq_true]at hc
     have hfx:=hfix hc.1
     have Jw:us=rest.reverse++[.sl l]:=by
      have:=congrArg List.reverse hrev
      rw[List.reverse_reverse,List.reverse_cons]at this
      exact this
     obtain⟨h1,h2⟩:=hq _ rfl
     refine⟨h1,λvals w hS hd=>?_⟩
     rw[Jw]at hd
     obtain⟨vs,y,rfl,hd1,hd2⟩:=yD hd
     have hB:M.B<=w.heap.size:=Nat.le_trans hM.B hS.size
     have hy:=hd2.1
     rw[List.length_map]at hy
     refine(h2 vs y w M.B hB (o9 hc.2 hd1) hy (λg hg=>?_)).mono ?_
     ·rcases hy.2 with⟨hv,_⟩|⟨g',cap,cur,hv,hb',_⟩
      ·rw[hv]at hg;cases hg
      ·rw[hv]at hg
       have:g'=g:=by simpa[Value.ownBlock]using hg
       omega
     ·rintro e w' ⟨z,rfl,ho,hb⟩
      refine⟨z,rfl,⟨?_,λg _ hf=>by rw[hfx]at hf;cases hf⟩,hS.turn hb (λg hf=>by rw[hfx]at hf;cases hf),λhc=>by cases hc⟩
      rw[List.length_map]
      exact ho
    ·cases h
   ·cases h
  ·cases h
def noC (_:FuncId)(_:List PV)(_:List SB):Option (List SB):=none
def seM (B:Nat)(W:World)(fix:List Nat)(b:Nat)(rows:List (Option (Nat×Nat)×List Value))(res:FuncId->List PV->Option Rv)(resC:FuncId->List PV->List SB->Option (List SB):=noC):Mem:=ll B W fix b rows (hook (Ev.az rows) fix.isEmpty res resC)
theorem E8 {B:Nat}{W:World}{fix:List Nat}{b:Nat}{rows:List (Option (Nat×Nat)×List Value)}{res:FuncId->List PV->Option Rv}{resC:FuncId->List PV->List SB->Option (List SB)}(hB:B<=W.heap.size)(hf:∀g∈fix,g<W.heap.size)
 (h2:∀(k g o:Nat) (l:List Value),rows[k]? =some (some (g,o),l)->(g<B\/g∈fix)/\∀w:World,w.heap[g]? =W.heap[g]?->∀(j:Nat) (v:Value),l[j]? =some v->w.cell? ⟨g,o+j,none⟩=some v)
 (hb:∀(k:Nat) (p:Nat×Nat) (l:List Value),rows[k]? =some (some p,l)->∀x,Value.string x∈l->x.size<=b):Ok Tryz.prog (seM B W fix b rows res resC):=
 xg hB hf h2 hb λf us u c q h hq=>Pw (M:=seM B W fix b rows res resC) ⟨hB,hf⟩ (λhx=>by show fix=[];simpa using hx) f us u c q h hq
theorem O6 {cell:Nat->Nat->Value}{u:PV}{vals:List Value}{w:World}(h:vB cell [u] vals w):∃v,vals=[v]/\JZ cell u v w:=by
 rcases vals with _|⟨v,_|⟨x,l⟩⟩
 ·exact h.elim
 ·exact⟨v,rfl,h.1⟩
 ·exact h.2.elim
theorem d0_2 {cell:Nat->Nat->Value}{u u2:PV}{vals:List Value}{w:World}(h:vB cell [u,u2] vals w):∃v v2,vals=[v,v2]/\JZ cell u v w/\JZ cell u2 v2 w:=by
 rcases vals with _|⟨v,l⟩
 ·exact h.elim
 ·obtain⟨v2,rfl,h2⟩:=O6 h.2
  exact⟨v,v2,rfl,h.1,h2⟩
def jr (cell:Nat->Nat->Value):PV->Option Value
 | .v x=>some x
 | .r k j=>some (cell k j)
 | .s x=>some (.string (st x))
 | .a k j n=>some (.agg ((List.range n).map λi=>cell k (j+i)).toArray)
 |_=>none
theorem um {cell:Nat->Nat->Value}{u:PV}{x y:Value}{w:World}(hu:jr cell u=some x)(h:JZ cell u y w):y=x:=by
 cases u<;>first|(cases hu;exact h)|cases hu
end Go.Proofs.YtnjjeapcalkmaaaGreatDoor.Se
namespace Go.Proofs.YtnjjeapcalkmaaaGreatDoor
open Go Go.RowKit Go.Proofs.YtnjjeapcalkmaaaGreatDoor.Ord
open Go.Proofs.YtnjjeapcalkmaaaGreatDoor.Se
end Go.Proofs.YtnjjeapcalkmaaaGreatDoor
