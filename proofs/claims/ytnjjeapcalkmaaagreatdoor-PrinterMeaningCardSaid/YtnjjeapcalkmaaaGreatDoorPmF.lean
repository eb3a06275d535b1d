/-
  Part 6 of a proof; written short by a program out of longer texts of mine.
-/
import Derived.Test.YtnjjeapcalkmaaaGreatDoorPmE
set_option maxRecDepth 100000
set_option maxHeartbeats 4000000
set_option linter.unusedVariables false
set_option linter.unusedSimpArgs false
namespace Go.Proofs.YtnjjeapcalkmaaaGreatDoor.Ord
open Go
section
variable {P : Program} {ops : Array Oper} {Q : Exit → Act → World → Prop}
def Closed (ops:Array Oper)(dn:Nat->Bool):Prop:=∀(j:Nat) (oj:Oper),ops[j]? =some oj->dn j=true->∀e∈oj.after,Region.binds .any e=true->dn e.on=true
theorem IR (hd:bf ops=true)(I:(Nat->Bool)->Act->World->Prop)
 (hstep:∀dn i o a w,ops[i]? =some o->dn i=false->(∀e∈o.after,Region.binds .any e=true->dn e.on=true)->Closed ops dn->I dn a w->wpOp P ops Q i (λa' w'=>I (λj=>dn j||j==i) a' w') a w)
 (hend:∀dn a w,(∀i,i<ops.size->dn i=true)->I dn a w->Q .normal a w):
 ∀(fuel:Nat) (listed:Array Bool) (a:Act) (w:World),listed.size=ops.size->Closed ops (λj=>listed.getD j false)->(List.range ops.size).countP (λi=>!listed.getD i true)<=fuel->I (λj=>listed.getD j false) a w->wpAny P .any ops Q fuel listed a w:=by
 have hall:∀(listed:Array Bool),listed.size=ops.size->Region.ready .any ops listed=[]->∀i,i<ops.size->listed.getD i false=true:=by
  intro listed hsz hr i
  induction i using Nat.strongRecOn with
  |ind i ih=>
   intro hi
   obtain⟨o,ho⟩:∃o,ops[i]? =some o:=⟨_,Array.getElem?_eq_getElem hi⟩
   cases hb:listed.getD i false with
   |true=>rfl
   |false=>
    exfalso
    have hmem:i∈Region.ready .any ops listed:=by
     rw[mem_ready]
     refine⟨?_,o,ho,λe he hbd=>?_⟩
     ·have:i<listed.size:=by omega
      simp[this]at hb⊢
      exact hb
     ·have hlt:=bz hd ho he hbd
      exact ih e.on hlt (by omega)
    rw[hr]at hmem
    cases hmem
 intro fuel
 induction fuel with
 |zero=>
  intro listed a w hsz Di hc hI
  have hr:Region.ready .any ops listed=[]:=by
   cases hr:Region.ready .any ops listed with
   |nil=>rfl
   |cons x xs=>
    exfalso
    have hx:x∈Region.ready .any ops listed:=by rw[hr];exact List.mem_cons_self
    obtain⟨h1,o,ho,_⟩:=mem_ready.1 hx
    have hlt:x<ops.size:=(Array.getElem?_eq_some_iff.1 ho).1
    have:0<(List.range ops.size).countP (λi=>!listed.getD i true):=List.countP_pos_iff.2 ⟨x,List.mem_range.2 hlt,by rw[h1];rfl⟩
    omega
  exact⟨hr,hend _ a w (hall listed hsz hr) hI⟩
 |succ fuel ih=>
  intro listed a w hsz Di hc hI
  refine⟨λhr=>hend _ a w (hall listed hsz hr) hI,λi hi=>?_⟩
  obtain⟨hun,o,ho,hafter⟩:=mem_ready.1 hi
  have hlt:i<ops.size:=(Array.getElem?_eq_some_iff.1 ho).1
  have hlt':i<listed.size:=by omega
  have N7:listed.getD i false=false:=by
   simp[hlt']at hun⊢
   exact hun
  have tZ:(λj=>(listed.setIfInBounds i true).getD j false)=(λj=>listed.getD j false||j==i):=by
   funext j
   by_cases hik:i=j
   ·subst hik
    simp[hlt']
   ·rw[getD_set_ne false hik]
    have:(j==i)=false:=by rw[beq_eq_false_iff_ne];exactλe=>hik e.symm
    rw[this,Bool.or_false]
  refine wpOp_mono (λa' w' hI'=>ih (listed.setIfInBounds i true) a' w' (by simpa using hsz) ?_ ?_ (by rw[tZ];exact hI')) (hstep _ i o a w ho N7 hafter Di hI)
  ·rw[tZ]
   intro j oj hj hl e he hb
   have hl2:(listed.getD j false||j==i)=true:=hl
   rw[Bool.or_eq_true]at hl2
   show(listed.getD e.on false||e.on==i)=true
   rw[Bool.or_eq_true]
   left
   rcases hl2 with h1|h1
   ·exact Di j oj hj h1 e he hb
   ·obtain rfl:j=i:=by simpa using h1
    rw[ho]at hj
    cases hj
    exact hafter e he hb
  ·have:=gP (p:=λi=>!listed.getD i true) (q:=λj=>!(listed.setIfInBounds i true).getD j true) (λj hj=>by
    by_cases hij:i=j
    ·subst hij;simp only[hun];rfl
    ·rw[getD_set_ne true hij]at hj;exact hj) (List.range ops.size) i (List.mem_range.2 hlt) (by simp only[hun];rfl) (by
     simp[hlt'])
   omega
theorem xg {id:Nat}{dr:Bool}{a:Act}{w:World}(hm:P.follows .mixedOrders=true)(hd:bf ops=true)(I:(Nat->Bool)->Act->World->Prop)
 (h0:I (λ_=>false) a (if dr=true then w.drew else w))
 (hstep:∀dn i o a w,ops[i]? =some o->dn i=false->(∀e∈o.after,Region.binds .any e=true->dn e.on=true)->Closed ops dn->I dn a w->wpOp P ops Q i (λa' w'=>I (λj=>dn j||j==i) a' w') a w)
 (hend:∀dn a w,(∀i,i<ops.size->dn i=true)->I dn a w->Q .normal a w):(Code.region id ops dr).wp P Q a w:=by
 cases dr with
 |true=>
  refine wp_region_any hm (IR hd I hstep hend ops.size _ a _ (by simp) ?_ ?_ ?_)
  ·intro j oj hj hl
   have:(Array.replicate ops.size false).getD j false=true:=hl
   exfalso
   by_cases hk:j<ops.size
   ·simp[hk]at this
   ·simp[hk]at this
  ·have:=List.countP_le_length (p:=λi=>!(Array.replicate ops.size false).getD i true) (l:=List.range ops.size)
   simpa using this
  ·have e:(λj=>(Array.replicate ops.size false).getD j false)=(λ_=>false):=by
    funext j
    by_cases hk:j<ops.size
    ·simp[hk]
    ·simp[hk]
   rw[e]
   exact h0
 |false=>
  have hgo:∀(m k:Nat) (a':Act) (w':World),k+m=ops.size->I (λj=>decide (j<k)) a' w'->wpOps P ops Q (List.range' k (ops.size-k)) a' w':=by
   intro m
   induction m with
   |zero=>
    intro k a' w' hk hI
    have:ops.size-k=0:=by omega
    rw[this]
    show Q .normal a' w'
    exact hend _ a' w' (λi hi=>by simp;omega) hI
   |succ m ih=>
    intro k a' w' hk hI
    obtain⟨o,ho⟩:∃o,ops[k]? =some o:=⟨_,Array.getElem?_eq_getElem (by omega)⟩
    rw[show ops.size-k=(ops.size-(k+1))+1 from by omega,List.range'_succ,wpOps_cons]
    refine wpOp_mono (λa2 w2 h2=>ih (k+1) a2 w2 (by omega) ?_) (hstep _ k o a' w' ho (by simp) (λe he hb=>by have:=bz hd ho he hb;simpa using this) (λj oj hj hl e he hb=>by
     have h1:=bz hd hj he hb
     have h2:j<k:=by simpa using hl
     simp;omega) hI)
    have e:(λj=>decide (j<k+1))=(λj=>decide (j<k)||j==k):=by
     funext j
     rw[Bool.eq_iff_iff]
     simp only[decide_eq_true_eq,Bool.or_eq_true,beq_iff_eq]
     omega
    rw[e]
    exact h2
  refine wp_region ?_
  have e:(λj=>decide (j<0))=(λ_=>false):=by funext j;simp
  have:=hgo ops.size 0 a w (by omega) (by rw[e];exact h0)
  rw[Nat.sub_zero,<-List.range_eq_range']at this
  exact this
theorem looks_at (hd:bf ops=true){i:Nat}{o:Oper}{dn:Nat->Bool}(hi:ops[i]? =some o)(hu:dn i=false)(ha:∀e∈o.after,Region.binds .any e=true->dn e.on=true)(hC:Closed ops dn){d:Tmp}(hl:d∈o.looksAt ops):
 (∃(j:Nat) (oj:Oper),j<i/\ops[j]? =some oj/\oj.dst=some d/\dn j=true)\/((∀(j:Nat) (oj:Oper),ops[j]? =some oj->dn j=true->oj.dst≠some d)/\∀(j:Nat) (oj:Oper),j<i->ops[j]? =some oj->oj.dst≠some d):=by
 by_cases h:∃(j:Nat) (oj:Oper),j<i/\ops[j]? =some oj/\oj.dst=some d
 ·obtain⟨j,oj,hji,hj,hjd⟩:=h
  rcases(pz hd hi hj (by omega) hjd).2 hl with⟨e,he,hb,rfl⟩|⟨h1,_⟩
  ·exact .inl ⟨_,oj,hji,hj,hjd,ha e he hb⟩
  ·omega
 ·right
  refine⟨λj oj hj hdn hjd=>?_,λj oj hji hj hjd=>h ⟨j,oj,hji,hj,hjd⟩⟩
  by_cases hji:j=i
  ·subst hji;rw[hu]at hdn;cases hdn
  rcases(pz hd hi hj hji hjd).2 hl with⟨e,he,hb,rfl⟩|⟨h1,e,he,hb,h2⟩
  ·exact h ⟨_,oj,bz hd hi he hb,hj,hjd⟩
  ·have:=hC j oj hj hdn e he hb
   rw[h2,hu]at this
   cases this
def anc (ops:Array Oper)(c:Nat):List Nat:=match ops[c]? with
 |none=>[]
 |some o=>(List.range c).reverse.foldl (λR j=>if R.contains j then(match ops[j]? with
  |some oj=>(oj.after.toList.filter λe=>Region.binds .any e).map (·.on)++R
  |none=>R)else R) ((o.after.toList.filter λe=>Region.binds .any e).map (·.on))
theorem Ba {dn:Nat->Bool}(hC:Closed ops dn){c:Nat}{o:Oper}(hc:ops[c]? =some o)(ha:∀e∈o.after,Region.binds .any e=true->dn e.on=true):∀i∈anc ops c,dn i=true:=by
 have key:∀(l:List Nat) (R:List Nat),(∀i∈R,dn i=true)->∀i∈l.foldl (λR j=>if R.contains j then(match ops[j]? with
  |some oj=>(oj.after.toList.filter λe=>Region.binds .any e).map (·.on)++R
  |none=>R)else R) R,dn i=true:=by
  intro l
  induction l with
  |nil=>exactλR h=>h
  |cons j l ih=>
   intro R hR
   rw[List.foldl_cons]
   refine ih _ ?_
   split
   ·rename_i hj
    have hjd:dn j=true:=hR j (by simpa using hj)
    cases hoj:ops[j]? with
    |none=>exact hR
    |some oj=>
     intro i hi
     rcases List.mem_append.1 hi with hi|hi
     ·obtain⟨e,he,rfl⟩:=List.mem_map.1 hi
      obtain⟨he,hb⟩:=List.mem_filter.1 he
      exact hC j oj hoj hjd e (Array.mem_toList_iff.1 he) hb
     ·exact hR i hi
   ·exact hR
 unfold anc
 rw[hc]
 refine key _ _ λi hi=>?_
 obtain⟨e,he,rfl⟩:=List.mem_map.1 hi
 obtain⟨he,hb⟩:=List.mem_filter.1 he
 exact ha e (Array.mem_toList_iff.1 he) hb
end
end Go.Proofs.YtnjjeapcalkmaaaGreatDoor.Ord
namespace Go.Proofs.YtnjjeapcalkmaaaGreatDoor.Se
open Go Go.RowKit Go.Proofs.YtnjjeapcalkmaaaGreatDoor Go.Proofs.YtnjjeapcalkmaaaGreatDoor.Ord
def lim (n:Nat)(b:ByteArray):ByteArray:=if b.size<=n then b else⟨#[]⟩
theorem NV (n:Nat)(b:ByteArray):(lim n b).size<=n:=by
 unfold lim
 split
 ·assumption
 ·exact Nat.zero_le _
theorem eX {n:Nat}{b:ByteArray}(h:b.size<=n):lim n b=b:=if_pos h
abbrev SB:=Nat×ByteArray
def st (x:SB):ByteArray:=lim x.1 x.2
theorem uQ (x:SB):(st x).size<=x.1:=NV _ _
def cat (x y:SB):SB:=(x.1+y.1,st x++st y)
theorem il (x y:SB):st (cat x y)=st x++st y:=eX (by
 have h1:=uQ x
 have h2:=uQ y
 show(st x++st y).size<=x.1+y.1
 rw[ByteArray.size_append];omega)
theorem st_lit (b:ByteArray):st (b.size,b)=b:=eX (Nat.le_refl _)
inductive PV where
 |v (x:Value)
 |s (x:SB)
 |sl (l:List SB)
 |pe (x:SB)
 |p (k j:Nat)
 |by_ (l:List UInt8)
 |u (c:UInt8)
 |a (k j n:Nat)
 |r (k j:Nat)
def PV.mem:PV->Bool
 | .sl _=>true
 | .pe _=>true
 | .by_ _=>true
 |_=>false
structure Mem where
 B:Nat
 W:World
 fix:List Nat:=[]
 blk:List (Nat×Nat):=[]
 offs:TypeId->Nat->Option Nat:=λ_ _=>none
 load:TypeId->Nat->Nat->Option PV:=λ_ _ _=>none
 cell:Nat->Nat->Value:=λ_ _=>.bool false
 call:FuncId->List PV->Option (PV×Bool×Option Prop):=λ_ _=>none
 hint:Nat->Option Bool:=λ_=>none
 loops:Nat:=0
 oth:Oper->(Operand->Option PV)->Option PV:=λ_ _=>none
 tst:Nat->Option Bool:=λ_=>none
 big:Bool:=false
variable {M : Mem}
def Mem.ptr (M:Mem)(k j:Nat):Value:=.pointer (some ⟨(M.blk.getD k (0,0)).1,(M.blk.getD k (0,0)).2+j,none⟩)
def prot (M:Mem)(g:Nat):Prop:=g<M.B\/g∈M.fix
structure Sw (M:Mem)(w:World):Prop where
 os:w.os=M.W.os
 tape:w.tape=M.W.tape
 output:w.output=M.W.output
 size:M.W.heap.size<=w.heap.size
 block:∀g,prot M g->w.heap[g]? =M.W.heap[g]?
structure Wf (M:Mem):Prop where
 B:M.B<=M.W.heap.size
 fix:∀g∈M.fix,g<M.W.heap.size
def Kn (M:Mem)(v:Value)(l:List ByteArray)(w:World):Prop:=w.ownsRow M.B 9 1 v l.length (l.map .string)/\∀g,v.ownBlock=some g->g∉M.fix
def KE (M:Mem)(v:Value)(l:List UInt8)(w:World):Prop:=w.ownsRow M.B 5 1 v l.length (l.map λc=>.int .u8 (c.toNat:Int))/\∀g,v.ownBlock=some g->g∉M.fix
def Den (M:Mem):PV->Value->World->Prop
 | .v x,y,_=>y=x
 | .s x,y,_=>y=.string (st x)
 | .sl l,y,w=>Kn M y (l.map st) w
 | .pe x,y,w=>∃g j,y=.pointer (some ⟨g,j,none⟩)/\w.cell? ⟨g,j,none⟩=some (.string (st x))
 | .p k j,y,_=>y=M.ptr k j
 | .by_ l,y,w=>KE M y l w
 | .u c,y,_=>y=.int .u8 (c.toNat:Int)
 | .a k j n,y,_=>y=.agg ((List.range n).map λi=>M.cell k (j+i)).toArray
 | .r k j,y,_=>y=M.cell k j
theorem own_below {w w':World}{B sz n:Nat}{t:TypeId}{v:Value}{xs:List Value}(h:w.ownsRow B t sz v n xs)(hb:Below w.heap.size w w'):w'.ownsRow B t sz v n xs:=jZ h λg hg=>by
 refine hb.block g ?_
 rcases h.2 with⟨hn,_⟩|⟨g',cap,cur,hv,_,hh,_⟩
 ·rw[hn]at hg;cases hg
 ·have:g=g':=by rw[hv]at hg;simp[Value.ownBlock]at hg;exact hg.symm
  subst this
  exact(Array.getElem?_eq_some_iff.1 hh).1
theorem Den.below {u:PV}{y:Value}{w w':World}(h:Den M u y w)(hb:Below w.heap.size w w'):Den M u y w':=by
 cases u with
 |v x=>exact h
 |s x=>exact h
 |p k j=>exact h
 |u c=>exact h
 |a k j n=>exact h
 |r k j=>exact h
 |sl l=>exact⟨own_below h.1 hb,h.2⟩
 |by_ l=>exact⟨own_below h.1 hb,h.2⟩
 |pe x=>
  obtain⟨g,j,h1,h2⟩:=h
  exact⟨g,j,h1,(hb.cell (p:=⟨g,j,none⟩) (rZ h2)).trans h2⟩
theorem Den.any {u:PV}{y:Value}{w w':World}(hu:u.mem=false)(h:Den M u y w):Den M u y w':=by
 cases u with
 |v x=>exact h
 |s x=>exact h
 |p k j=>exact h
 |u c=>exact h
 |a k j n=>exact h
 |r k j=>exact h
 |sl l=>cases hu
 |by_ l=>cases hu
 |pe x=>cases hu
theorem Den.drew {u:PV}{y:Value}{w:World}(h:Den M u y w):Den M u y w.drew:=h.below ((Below.refl _ _).drew)
theorem Sw.below {w w':World}(hM:Wf M)(h:Sw M w)(hb:Below w.heap.size w w'):Sw M w':=
 ⟨hb.os.trans h.os,hb.tape.trans h.tape,hb.output.trans h.output,Nat.le_trans h.size hb.size,λg hg=>(hb.block g (by
  have:=h.size
  rcases hg with hg|hg
  ·have:=hM.B;omega
  ·have:=hM.fix g hg;omega)).trans (h.block g hg)⟩
theorem Sw.drew {w:World}(h:Sw M w):Sw M w.drew:=⟨h.os,h.tape,h.output,h.size,h.block⟩
theorem Sw.turn {w w':World}(h:Sw M w)(hb:Below M.B w w')(hf:∀g∈M.fix,w'.heap[g]? =w.heap[g]?):Sw M w':=
 ⟨hb.os.trans h.os,hb.tape.trans h.tape,hb.output.trans h.output,Nat.le_trans h.size hb.size,λg hg=>by
  refine Eq.trans ?_ (h.block g hg)
  rcases hg with hg|hg
  ·exact hb.block g hg
  ·exact hf g hg⟩
theorem Sw.start (M:Mem):Sw M M.W:=⟨rfl,rfl,rfl,Nat.le_refl _,λ_ _=>rfl⟩
theorem Sw.to {w:World}(h:Sw M w):Below M.B M.W w:=⟨h.os,h.tape,h.output,h.size,λg hg=>h.block g (.inl hg)⟩
def jH (M:Mem):List PV->List Value->World->Prop
 |[],[],_=>True
 |u::us,y::ys,w=>Den M u y w/\jH M us ys w
 |_,_,_=>False
structure Ok (P:Program)(M:Mem):Prop where
 wf:Wf M
 offs:∀t f d,M.offs t f=some d->∀b j w,(Instr.fieldAt t (.pointer (some ⟨b,j,none⟩)) f).run P w=.ok (.pointer (some ⟨b,j+d,none⟩)) w
 load:∀t k j u,M.load t k j=some u->∀w,Sw M w->∃v,(Instr.loadAt t (M.ptr k j)).run P w=.ok v w/\Den M u v w
 call:∀f us u c b,M.call f us=some (u,c,b)->(∀p,b=some p->p)->(∀args w,(callFunc f args).run P w=.ok (.enter f args) w)/\∀(vals:List Value) w,Sw M w->jH M us vals w->Calls P f vals.toArray w λe w'=>∃v,e=.returned v/\Den M u v w'/\Sw M w'/\(c=false->Below w.heap.size w w')
 oth:∀o ov u,M.oth o ov=some u->∀(ρ:Operand->Value) w,(∀f,ρ (.func f)=.func (.func f) #[] #[])->Sw M w->(∀x p,ov x=some p->Den M p (ρ x) w)->∃v,(execOp ρ o).run P w=.ok (.value v) w/\Den M u v w
structure Ent where
 dst:Option Nat
 val:PV
 cons:Bool
 uses:Bool
 skip:Bool:=false
 ob:Option Prop:=none
def find (t:Nat):List Ent->Nat->Option (Nat×Ent)
 |[],_=>none
 |e::l,i=>if e.dst=some t then some (i,e)else find t l (i+1)
def look (K:List (Nat×PV))(t:Nat):Option PV:=match K with
 |[]=>none
 |(s,v)::K=>if s=t then some v else look K t
def kT:List Ent->Nat->Nat->Nat
 |[],_,a=>a
 |e::l,k,a=>kT l (k+1) (if e.cons=true then k+1 else a)
def cst:Value->PV
 | .string b=>.s (b.size,b)
 | .slice none 0 0=>.sl []
 | .int .u8 x=>if 0<=x/\x<256 then .u (UInt8.ofNat x.toNat)else .v (.int .u8 x)
 |x=>.v x
def opT (K:List (Nat×PV))(rs:List Ent)(t:Nat):Option PV:=match find t rs 0 with
 |some (i,e)=>if e.val.mem=true then(if kT rs 0 0<=i+1 then some e.val else none)else some e.val
 |none=>match look K t with
  |some u=>if u.mem=true then(if kT rs 0 0=0 then some u else none)else some u
  |none=>none
def opd (K:List (Nat×PV))(rs:List Ent):Operand->Option PV
 | .const v=>some (cst v)
 | .tmp t=>opT K rs t
 |_=>none
def uZ (ov:Operand->Option PV):List Operand->Option (List PV)
 |[]=>some []
 |x::l=>match ov x,uZ ov l with
  |some a,some vs=>some (a::vs)
  |_,_=>none
def strs:List PV->Option (List SB)
 |[]=>some []
 | .s x::l=>match strs l with
   |some r=>some (x::r)
   |none=>none
 |_::_=>none
def Oz:List PV->Option (List UInt8)
 |[]=>some []
 | .u c::l=>match Oz l with
   |some r=>some (c::r)
   |none=>none
 |_::_=>none
structure Res where
 val:PV
 cons:Bool:=false
 uses:Bool:=false
 ob:Option Prop:=none
def bin2 (op:BinOp)(t:TypeId):Value->Value->Option Value
 | .int .i64 a,.int .i64 b=>if t=2\/t=3 then(match op with
   | .quo=>if b=0 then none else some (.int .i64 (IntKind.i64.wrap (a.tdiv b)))
   | .rem=>if b=0 then none else some (.int .i64 (a.tmod b))
   |_=>none)else none
 |_,_=>none
def binP (op:BinOp)(t:TypeId):PV->PV->Option PV
 | .s x,.s y=>if t=9 then(match op with
   | .add=>if x.1+y.1<=4611686018427387904 then some (.s (cat x y))else none
   | .eql=>some (.v (.bool ((st x).toList==(st y).toList)))
   | .neq=>some (.v (.bool (!((st x).toList==(st y).toList))))
   |_=>none)else none
 | .v a,.v b=>match Ev.bin op t a b with
   |some x=>some (.v x)
   |none=>match bin2 op t a b with
    |some x=>some (.v x)
    |none=>none
 |_,_=>none
def nv (M:Mem):PV->PV
 | .r k j=>.v (M.cell k j)
 |u=>u
theorem Fz {u:PV}{y:Value}{w:World}(h:Den M u y w):Den M (nv M u) y w:=by
 cases u with
 |r k j=>exact h
 |_=>exact h
def Qa (parts:Array (Nat×Operand)):List Nat:=parts.toList.map (·.1)
def act0 (M:Mem)(ov:Operand->Option PV)(o:Oper):Option Res:=match o.op with
 | .move x=>match ov x with
   |some u=>some {val:=u,uses:=u.mem}
   |none=>none
 | .assign x=>match ov x with
   |some u=>some {val:=u,uses:=u.mem}
   |none=>none
 | .fieldAddr t x f=>match ov x with
   |some (.p k j)=>match M.offs t f with
    |some d=>some {val:=.p k (j+d)}
    |none=>none
   |_=>none
 | .load t x=>match ov x with
   |some (.p k j)=>match M.load t k j with
    |some u=>if u.mem=true then none else some {val:=u}
    |none=>none
   |some (.pe s)=>if t=9 then some {val:=.s s,uses:=true}else none
   |_=>none
 | .binOp op t x y _=>match ov x,ov y with
   |some a,some b=>match binP op t (nv M a) (nv M b)with
    |some u=>if u.mem=true then none else some {val:=u}
    |none=>none
   |_,_=>none
 | .unOp .not _ x=>match (ov x).map (nv M)with
   |some (.v (.bool b))=>some {val:=.v (.bool (!b))}
   |_=>none
 | .convert a b x=>match (ov x).map (nv M)with
   |some (.v (.int .i64 n))=>if (a=2\/a=3)/\b=5 then some {val:=.u (UInt8.ofNat (n%256).toNat)}else none
   |some (.by_ (c::l))=>if a=135/\b=9 then some {val:=.s (l.length+1,⟨(c::l).toArray⟩),uses:=true}else none
   |_=>none
 | .pick c x y=>match (ov c).map (nv M)with
   |some (.v (.bool true))=>match ov x with
    |some u=>if u.mem=true then none else some {val:=u}
    |none=>none
   |some (.v (.bool false))=>match ov y with
    |some u=>if u.mem=true then none else some {val:=u}
    |none=>none
   |_=>none
 | .buildSlice t n parts=>if Qa parts=List.range n/\0<n/\n<=12 then(match uZ ov (parts.toList.map (·.2))with
   |some us=>if t=64 then(match strs us with
    |some l=>some {val:=.sl l}
    |none=>none)else if t=135/\n<=2 then(match Oz us with
    |some l=>some {val:=.by_ l}
    |none=>none)else none
   |none=>none)else none
 | .indexAddr t x y=>match ov x,(ov y).map (nv M)with
   |some (.sl l),some (.v (.int .i64 k))=>if t=64/\0<=k then(match l[k.toNat]? with
    |some s=>some {val:=.pe s,uses:=true}
    |none=>none)else none
   |_,_=>none
 | .call ⟨.value (.func f),args,_⟩=>match uZ ov args.toList with
   |some us=>match M.call f us with
    |some (u,c,b)=>some {val:=u,cons:=c,uses:=us.any PV.mem,ob:=b}
    |none=>none
   |none=>none
 | .call ⟨.builtin .append,args,ts⟩=>match args.toList with
   |[x,y]=>match ov x,ov y with
    |some (.sl l),some (.sl m)=>if ts=#[64,64]/\o.type=64 then(if M.big=true then some {val:=.sl (l++m),cons:=true,uses:=true,ob:=some (l.length+m.length<=1000000)}else if l.length+m.length<=1000000 then some {val:=.sl (l++m),cons:=true,uses:=true}else none)else none
    |some (.by_ l),some (.by_ m)=>if ts=#[135,135]/\o.type=135/\l.length+m.length<=1000000 then some {val:=.by_ (l++m),cons:=true,uses:=true}else none
    |_,_=>none
   |_=>none
 | .call ⟨.builtin .len,args,ts⟩=>match args.toList with
   |[x]=>match ov x with
    |some (.s x)=>if ts=#[9]/\o.type=3 then some {val:=.v (.int .i64 ((st x).size:Int))}else none
    |some (.sl l)=>if ts=#[64]then some {val:=.v (.int .i64 (l.length:Int)),uses:=true}else none
    |_=>none
   |_=>none
 |_=>none
def told (M:Mem)(o:Oper)(r:Res):Res:=match r.val,r.ob,o.dst with
 | .v (.bool p),none,some t=>match M.tst t with
   |some b=>{r with val:=.v (.bool b),ob:=some (p=b)}
   |none=>r
 |_,_,_=>r
def act (M:Mem)(ov:Operand->Option PV)(o:Oper):Option Res:=match act0 M ov o with
 |some r=>some (told M o r)
 |none=>match M.oth o ov with
  |some u=>if u.mem=true then none else some {val:=u}
  |none=>none
theorem PH {op:BinOp}{t:TypeId}{a b v:Value}(h:bin2 op t a b=some v)(x y:Operand)(w:World):(do eqGuard op t x y a b;binOp op t a b:Sem Value).run Tryz.prog w=.ok v w:=by
 unfold bin2 at h
 split at h
 ·split at h
  ·rename_i ht
   split at h
   ·split at h
    ·cases h
    ·rename_i hb;cases h;rcases ht with rfl|rfl<;>go_simp
   ·split at h
    ·cases h
    ·rename_i hb;cases h;rcases ht with rfl|rfl<;>go_simp
   ·cases h
  ·cases h
 ·cases h
theorem kC {ov:Operand->Option PV}{ρ:Operand->Value}{w:World}(hov:∀x u,ov x=some u->Den M u (ρ x) w):∀{l:List Operand} {us:List PV},uZ ov l=some us->jH M us (l.map ρ) w
 |[],us,h=>by cases h;exact trivial
 |x::l,us,h=>by
  unfold uZ at h
  split at h
  ·rename_i a vs h1 h2
   cases h
   exact⟨hov _ _ h1,kC hov h2⟩
  ·cases h
theorem Gy {w:World}:∀{us:List PV} {l:List SB} {ys:List Value},strs us=some l->jH M us ys w->ys=(l.map st).map .string
 |[],l,ys,h,hd=>by
  cases h
  cases ys with
  |nil=>rfl
  |cons y ys=>exact hd.elim
 | .s x::us,l,ys,h,hd=>by
   unfold strs at h
   split at h
   ·rename_i r hr
    cases h
    cases ys with
    |nil=>exact hd.elim
    |cons y ys=>
     obtain⟨h1,h2⟩:=hd
     have h1:y=.string (st x):=h1
     rw[h1,Gy hr h2]
     rfl
   ·cases h
 | .v _::us,l,ys,h,hd=>by cases h
 | .sl _::us,l,ys,h,hd=>by cases h
 | .pe _::us,l,ys,h,hd=>by cases h
 | .p _ _::us,l,ys,h,hd=>by cases h
 | .by_ _::us,l,ys,h,hd=>by cases h
 | .u _::us,l,ys,h,hd=>by cases h
 | .a _ _ _::us,l,ys,h,hd=>by cases h
 | .r _ _::us,l,ys,h,hd=>by cases h
theorem Fy {w:World}:∀{us:List PV} {l:List UInt8} {ys:List Value},Oz us=some l->jH M us ys w->ys=l.map λc=>.int .u8 (c.toNat:Int)
 |[],l,ys,h,hd=>by
  cases h
  cases ys with
  |nil=>rfl
  |cons y ys=>exact hd.elim
 | .u x::us,l,ys,h,hd=>by
   unfold Oz at h
   split at h
   ·rename_i r hr
    cases h
    cases ys with
    |nil=>exact hd.elim
    |cons y ys=>
     obtain⟨h1,h2⟩:=hd
     have h1:y=.int .u8 (x.toNat:Int):=h1
     rw[h1,Fy hr h2]
     rfl
   ·cases h
 | .v _::us,l,ys,h,hd=>by cases h
 | .sl _::us,l,ys,h,hd=>by cases h
 | .pe _::us,l,ys,h,hd=>by cases h
 | .p _ _::us,l,ys,h,hd=>by cases h
 | .by_ _::us,l,ys,h,hd=>by cases h
 | .s _::us,l,ys,h,hd=>by cases h
 | .a _ _ _::us,l,ys,h,hd=>by cases h
 | .r _ _::us,l,ys,h,hd=>by cases h
theorem parts_eq {parts:Array (Nat×Operand)}{n:Nat}{ρ:Operand->Value}{xs:List Value}(h1:Qa parts=List.range n)(h2:(parts.toList.map (·.2)).map ρ=xs):(parts.map λ(i,x)=>(i,ρ x))=((List.range n).zip xs).toArray:=by
 apply Array.toList_inj.1
 rw[Array.toList_map,<-h1,<-h2]
 unfold Qa
 generalize parts.toList=l
 induction l with
 |nil=>rfl
 |cons p l ih=>simp only[List.map_cons,List.zip_cons_cons,ih]
theorem bs_str (l:List ByteArray)(h0:0<l.length)(h12:l.length<=12)(w:World):(Instr.buildSlice 64 l.length ((List.range l.length).zip (l.map Value.string)).toArray).run Tryz.prog w=.ok (.slice (some ⟨w.heap.size,0,none⟩) l.length l.length) (w.alloc (.cells (l.map Value.string).toArray 9)):=by
 rcases l with _|⟨a1,_|⟨a2,_|⟨a3,_|⟨a4,_|⟨a5,_|⟨a6,_|⟨a7,_|⟨a8,_|⟨a9,_|⟨a10,_|⟨a11,_|⟨a12,_|⟨a13,l⟩⟩⟩⟩⟩⟩⟩⟩⟩⟩⟩⟩⟩
 ·simp at h0
 all_goals first
  |(simp only[List.length_cons]at h12;omega)
  |(show(Instr.buildSlice 64 _ (Array.mk _)).run Tryz.prog w=_
    simp only[List.length_cons,List.length_nil,List.range,List.range.loop,List.map_cons,List.map_nil,List.zip_cons_cons,List.zip_nil_right,Nat.zero_add]
    go_simp
    try rfl)
theorem bs_byt (l:List UInt8)(h0:0<l.length)(h2:l.length<=2)(w:World):(Instr.buildSlice 135 l.length ((List.range l.length).zip (l.map λc=>Value.int .u8 (c.toNat:Int))).toArray).run Tryz.prog w=.ok (.slice (some ⟨w.heap.size,0,none⟩) l.length l.length) (w.alloc (.cells (l.map λc=>Value.int .u8 (c.toNat:Int)).toArray 5)):=by
 rcases l with _|⟨a1,_|⟨a2,_|⟨a3,l⟩⟩⟩
 ·simp at h0
 all_goals first
  |(simp only[List.length_cons]at h2;omega)
  |(show(Instr.buildSlice 135 _ (Array.mk _)).run Tryz.prog w=_
    simp only[List.length_cons,List.length_nil,List.range,List.range.loop,List.map_cons,List.map_nil,List.zip_cons_cons,List.zip_nil_right,Nat.zero_add]
    go_simp
    try rfl)
theorem PQ:(Tryz.prog.info? 9).map (λi=>(i.zero,i.size,i.bytes))=some (some (.string ⟨#[]⟩),1,16):=by kernel_rfl
theorem PY:(Tryz.prog.info? 5).map (λi=>(i.zero,i.size,i.bytes))=some (some (.int .u8 0),1,1):=by kernel_rfl
theorem F8 (hM:Wf M){w:World}(hS:Sw M w)(t:TypeId)(xs:List Value)(hx:xs.length<=1000):(w.alloc (.cells xs.toArray t)).ownsRow M.B t 1 (.slice (some ⟨w.heap.size,0,none⟩) xs.length xs.length) xs.length xs/\∀g,(Value.slice (some ⟨w.heap.size,0,none⟩) xs.length xs.length).ownBlock=some g->g∉M.fix:=by
 refine⟨⟨by omega,.inr ⟨w.heap.size,xs.length,xs.toArray,rfl,by have:=hM.B;have:=hS.size;omega,World.alloc_heap_new w _,Nat.le_refl _,by unfold maxLen;omega,by simp,by simp⟩⟩,λg hg hf=>?_⟩
 have e:w.heap.size=g:=by simpa[Value.ownBlock]using hg
 have:=hM.fix g hf
 have:=hS.size
 omega
theorem Fx (hM:Wf M){w:World}(hS:Sw M w)(t e:TypeId)(i:TypeInfo)(z:Value)(bytes:Nat)(ht:Tryz.prog.underlying t=some (.slice e))(hi:Tryz.prog.info? e=some i)(hz:i.zero=some z)(hsize:i.size=1)(hby:i.bytes=bytes)(hzs:z.cells.size=1)(hb16:bytes<=16)
 {v u:Value} {xs ys:List Value} (h1:w.ownsRow M.B e 1 v xs.length xs) (f1:∀g,v.ownBlock=some g->g∉M.fix) (h2:w.ownsRow M.B e 1 u ys.length ys) (ho:∀x∈ys,x.oneCell'=true) (hn:xs.length+ys.length<=1000000):
 ∃v' w',(Builtin.append_ #[t,t] t #[v,u]).run Tryz.prog w=.ok v' w'/\w'.ownsRow M.B e 1 v' (xs++ys).length (xs++ys)/\(∀g,v'.ownBlock=some g->g∉M.fix)/\Sw M w':=by
 obtain⟨a2,c,hu⟩:=iO h2
 have hB:M.B<=w.heap.size:=Nat.le_trans hM.B hS.size
 obtain⟨v',w',hr,hown,hg,hat⟩:=vU (w:=w) t t e i z 1 bytes ht hi hz hsize hby hzs (by decide) M.B v xs.length xs h1 a2 ys.length c ys (by omega) (λad had j x hj=>by
  have h0:0<ys.length:=by have:=(List.getElem?_eq_some_iff.1 hj).1;omega
  obtain⟨sb,cap,hv,_,hcell⟩:=gK h2 h0
  rw[hu,had]at hv
  have e1:ad=⟨sb,0,none⟩:=by injection hv with h;injection h
  rw[e1,show(⟨sb,0,none⟩:Addr).add j=⟨sb,j,none⟩from by unfold Addr.add;split<;>simp_all]
  exact hcell j x hj) (λha=>by
  rcases Nat.eq_zero_or_pos ys.length with h0|h0
  ·exact h0
  ·obtain⟨sb,cap,hv,_⟩:=gK h2 h0
   rw[hu,ha]at hv
   injection hv with h;cases h) ho (by unfold maxLen;omega) (by
  have:(xs.length+ys.length)*bytes<=1000000*16:=Nat.mul_le_mul hn hb16
  omega) hB
 refine⟨v',w',by rw[hu];exact hr,by rw[List.length_append];exact hown,λg hg2 hf=>?_,?_⟩
 ·rcases hat with h|h
  ·exact f1 g (by rw[<-h];exact hg2) hf
  ·rw[h]at hg2
   cases hg2
   have:=hM.fix _ hf
   have:=hS.size
   omega
 ·have hlow:∀g,v.ownBlock=some g->M.B<=g:=λg hg2=>by
   rcases h1.2 with⟨hv,_⟩|⟨g',cap,cur,hv,hb,_⟩
   ·rw[hv]at hg2;cases hg2
   ·rw[hv]at hg2
    have:g'=g:=by simpa[Value.ownBlock]using hg2
    omega
  refine hS.turn ⟨hg.os,hg.tape,hg.output,hg.size,λg hgB=>hg.block g (by omega) λe=>?_⟩ λg hgf=>hg.block g (by have:=hM.fix g hgf;have:=hS.size;omega) λe=>f1 g e.symm hgf
  have:=hlow g e.symm
  omega
theorem Pn {l:List ByteArray}:∀x∈l.map Value.string,x.oneCell'=true:=λx hx=>by
 obtain⟨b,_,rfl⟩:=List.mem_map.1 hx
 rfl
theorem Pe {l:List UInt8}:∀x∈l.map (λc=>Value.int .u8 (c.toNat:Int)),x.oneCell'=true:=λx hx=>by
 obtain⟨b,_,rfl⟩:=List.mem_map.1 hx
 rfl
theorem cat_ok (x y:SB)(h:x.1+y.1<=4611686018427387904)(p q:Operand)(w:World):(do eqGuard .add 9 p q (.string (st x)) (.string (st y));binOp .add 9 (.string (st x)) (.string (st y)):Sem Value).run Tryz.prog w=.ok (.string (st (cat x y))) w:=by
 have h1:=uQ x
 have h2:=uQ y
 rw[il]
 have h3:¬9223372036854775807<(st x).size+(st y).size:=by omega
 generalize st x=a at h3⊢
 generalize st y=b at h3⊢
 clear h1 h2 h
 go_simp
 try rfl
theorem QI (b:ByteArray)(w:World):(Builtin.len_ #[9] 3 #[.string b]).run Tryz.prog w=.ok (.int .i64 (b.size:Int)) w:=by
 go_simp
 try rfl
variable {M : Mem}
theorem idx_ok {ρ:Operand->Value}{o:Oper}{x y:Operand}{sb n c k:Nat}(ho:o.op=.indexAddr 64 x y)(h1:ρ x=.slice (some ⟨sb,0,none⟩) n c)(h2:ρ y=.int .i64 (k:Int))(hk:k<n)(w:World):(execOp ρ o).run Tryz.prog w=.ok (.value (.pointer (some ⟨sb,k,none⟩))) w:=by
 have hkI:(k:Int)<(n:Int):=by omega
 unfold execOp
 simp only[ho,h1,h2]
 go_simp
 try rfl
theorem OC (hO:Ok Tryz.prog M){ov:Operand->Option PV}{ρ:Operand->Value}{w:World}(hfu:∀f,ρ (.func f)=.func (.func f) #[] #[])(hov:∀x u,ov x=some u->Den M u (ρ x) w)(hS:Sw M w){o:Oper}{r:Res}(h:act0 M ov o=some r)(CO:∀p,r.ob=some p->p):
 lL Tryz.prog (λv w'=>Den M r.val v w'/\Sw M w'/\(r.cons=false->Below w.heap.size w w')) ((execOp ρ o).run Tryz.prog w):=by
 have hb0:Below w.heap.size w w:=Below.refl _ _
 have hon:∀x u,(ov x).map (nv M)=some u->Den M u (ρ x) w:=λx u h=>by
  obtain⟨u',h1,rfl⟩:=Option.map_eq_some_iff.1 h
  exact Fz (hov _ _ h1)
 unfold act0 at h
 split at h
 ·rename_i x ho
  split at h
  ·rename_i u hx
   cases h
   unfold execOp;simp only[ho];exact⟨hov _ _ hx,hS,λ_=>hb0⟩
  ·cases h
 ·rename_i x ho
  split at h
  ·rename_i u hx
   cases h
   unfold execOp;simp only[ho];exact⟨hov _ _ hx,hS,λ_=>hb0⟩
  ·cases h
 ·rename_i t x f ho
  split at h
  ·rename_i k j hx
   split at h
   ·rename_i d hd
    cases h
    have hx2:ρ x=M.ptr k j:=hov _ _ hx
    unfold execOp
    simp only[ho,hx2,Mem.ptr,Sem.run_bind,hO.offs t f d hd,Result.andThen_ok]
    refine⟨?_,hS,λ_=>hb0⟩
    show _=M.ptr k (j+d)
    unfold Mem.ptr
    rw[Nat.add_assoc]
   ·cases h
  ·cases h
 ·rename_i t x ho
  split at h
  ·rename_i k j hx
   split at h
   ·rename_i u hu
    split at h
    ·cases h
    ·cases h
     have hx2:ρ x=M.ptr k j:=hov _ _ hx
     obtain⟨v,hv,hd⟩:=hO.load t k j u hu w hS
     unfold execOp
     simp only[ho,hx2,Sem.run_bind,hv,Result.andThen_ok]
     exact⟨hd,hS,λ_=>hb0⟩
   ·cases h
  ·rename_i s hx
   split at h
   ·rename_i ht
    cases h
    subst ht
    obtain⟨g,j,e1,e2⟩:=hov _ _ hx
    have:=Ev.zJ (t:=9) rfl ⟨g,j,none⟩ w _ e2
    unfold execOp
    simp only[ho,e1,Sem.run_bind,this,Result.andThen_ok]
    exact⟨rfl,hS,λ_=>hb0⟩
   ·cases h
  ·cases h
 ·rename_i op t x y t2 ho
  split at h
  ·rename_i a b hx hy
   split at h
   ·rename_i u hu
    split at h
    ·cases h
    ·cases h
     have hx2:=Fz (hov _ _ hx)
     have hy2:=Fz (hov _ _ hy)
     unfold execOp
     simp only[ho]
     generalize nv M a=na at hu hx2
     generalize nv M b=nb at hu hy2
     unfold binP at hu
     split at hu
     ·rename_i sx sy
      have hx3:ρ x=.string (st sx):=hx2
      have hy3:ρ y=.string (st sy):=hy2
      simp only[hx3,hy3]
      split at hu
      ·rename_i ht
       subst ht
       split at hu
       ·split at hu
        ·rename_i hle
         cases hu
         rw[Sem.run_bind,cat_ok sx sy hle]
         exact⟨rfl,hS,λ_=>hb0⟩
        ·cases hu
       ·cases hu
        have:=Ev.AQ (op:=.eql) (t:=9) (a:=.string (st sx)) (b:=.string (st sy)) (v:=.bool ((st sx).toList==(st sy).toList)) rfl x y w
        rw[Sem.run_bind,this]
        exact⟨rfl,hS,λ_=>hb0⟩
       ·cases hu
        have:=Ev.AQ (op:=.neq) (t:=9) (a:=.string (st sx)) (b:=.string (st sy)) (v:=.bool (!((st sx).toList==(st sy).toList))) rfl x y w
        rw[Sem.run_bind,this]
        exact⟨rfl,hS,λ_=>hb0⟩
       ·cases hu
      ·cases hu
     ·rename_i va vb
      have hx3:ρ x=va:=hx2
      have hy3:ρ y=vb:=hy2
      simp only[hx3,hy3]
      split at hu
      ·rename_i v hv
       cases hu
       rw[Sem.run_bind,Ev.AQ hv]
       exact⟨rfl,hS,λ_=>hb0⟩
      ·split at hu
       ·rename_i v hv
        cases hu
        rw[Sem.run_bind,PH hv]
        exact⟨rfl,hS,λ_=>hb0⟩
       ·cases hu
     ·cases hu
   ·cases h
  ·cases h
 ·rename_i t x ho
  split at h
  ·rename_i b hx
   cases h
   have hx2:ρ x=.bool b:=hon _ _ hx
   unfold execOp;simp only[ho,hx2];exact⟨rfl,hS,λ_=>hb0⟩
  ·cases h
 ·rename_i a b x ho
  split at h
  ·rename_i n hx
   split at h
   ·rename_i hc
    cases h
    obtain⟨ha,rfl⟩:=hc
    have hx2:ρ x=.int .i64 n:=hon _ _ hx
    have e:IntKind.u8.wrap n=((UInt8.ofNat (n%256).toNat).toNat:Int):=by
     have h1:IntKind.u8.wrap n=n%256:=rfl
     rw[h1,UInt8.toNat_ofNat']
     omega
    unfold execOp
    simp only[ho,hx2]
    have:(convert a 5 (.int .i64 n)).run Tryz.prog w=.ok (.int .u8 (IntKind.u8.wrap n)) w:=by
     rcases ha with rfl|rfl<;>(go_simp;try rfl)
    rw[Sem.run_bind,this,e]
    exact⟨rfl,hS,λ_=>hb0⟩
   ·cases h
  ·rename_i c l hx
   split at h
   ·rename_i hc
    cases h
    obtain⟨rfl,rfl⟩:=hc
    obtain⟨h1,_⟩:=hon _ _ hx
    obtain⟨sb,cap,hv,_,hcell⟩:=gK h1 (by simp)
    have:(convert 135 9 (.slice (some ⟨sb,0,none⟩) (c::l).length cap)).run Tryz.prog w=.ok (.string ⟨(c::l).toArray⟩) w:=by
     refine run_convert_bytes_back _ _ _ _ ⟨sb,0,none⟩ cap (c::l) Tryz.underlying135 Tryz.underlying5 Tryz.underlying9 (λj hj=>?_)
     rw[show(⟨sb,0,none⟩:Addr).add j=⟨sb,j,none⟩from by unfold Addr.add;split<;>simp_all]
     refine hcell j _ ?_
     rw[List.getElem?_map,List.getElem?_eq_getElem hj]
     rfl
    unfold execOp
    simp only[ho,hv]
    rw[Sem.run_bind,this]
    refine⟨?_,hS,λ_=>hb0⟩
    show Value.string _=.string (st (l.length+1,⟨(c::l).toArray⟩))
    rw[show st (l.length+1,⟨(c::l).toArray⟩)=⟨(c::l).toArray⟩from eX (Nat.le_refl _)]
   ·cases h
  ·cases h
 ·rename_i c x y ho
  split at h
  ·rename_i hc
   split at h
   ·rename_i u hu
    split at h
    ·cases h
    ·cases h
     have hc2:ρ c=.bool true:=hon _ _ hc
     unfold execOp;simp only[ho,hc2];exact⟨hov _ _ hu,hS,λ_=>hb0⟩
   ·cases h
  ·rename_i hc
   split at h
   ·rename_i u hu
    split at h
    ·cases h
    ·cases h
     have hc2:ρ c=.bool false:=hon _ _ hc
     unfold execOp;simp only[ho,hc2];exact⟨hov _ _ hu,hS,λ_=>hb0⟩
   ·cases h
  ·cases h
 ·rename_i t n parts ho
  split at h
  ·rename_i hi
   obtain⟨hi,hn0,hn12⟩:=hi
   split at h
   ·rename_i us J8
    have hd:=kC hov J8
    have hlen:parts.toList.length=n:=by
     have:=congrArg List.length hi
     unfold Qa at this
     simpa using this
    split at h
    ·rename_i ht
     subst ht
     split at h
     ·rename_i l hl
      cases h
      have hys:=Gy hl hd
      have hll:l.length=n:=by
       have:=congrArg List.length hys
       simp only[List.length_map]at this
       omega
      have e:=parts_eq hi hys
      have hb:=bs_str (l.map st) (by simpa using(by omega:0<l.length)) (by simpa using(by omega:l.length<=12)) w
      rw[List.length_map,hll]at hb
      unfold execOp
      simp only[ho,e,Sem.run_bind,hb,Result.andThen_ok]
      have hown:=F8 hO.wf hS 9 ((l.map st).map Value.string) (by simp;omega)
      simp only[List.length_map,hll]at hown
      have oh:Below w.heap.size w (w.alloc (.cells ((l.map st).map Value.string).toArray 9)):=hb0.alloc (Nat.le_refl _) _
      refine⟨?_,hS.below hO.wf oh,λ_=>oh⟩
      show Kn M _ (l.map st) _
      unfold Kn
      rw[List.length_map,hll]
      exact hown
     ·cases h
    ·split at h
     ·rename_i ht
      obtain⟨rfl,hn2⟩:=ht
      split at h
      ·rename_i l hl
       cases h
       have hys:=Fy hl hd
       have hll:l.length=n:=by
        have:=congrArg List.length hys
        simp only[List.length_map]at this
        omega
       have e:=parts_eq hi hys
       have hb:=bs_byt l (by omega) (by omega) w
       rw[hll]at hb
       unfold execOp
       simp only[ho,e,Sem.run_bind,hb,Result.andThen_ok]
       have hown:=F8 hO.wf hS 5 (l.map λc=>Value.int .u8 (c.toNat:Int)) (by simp;omega)
       simp only[List.length_map,hll]at hown
       have oh:Below w.heap.size w (w.alloc (.cells (l.map λc=>Value.int .u8 (c.toNat:Int)).toArray 5)):=hb0.alloc (Nat.le_refl _) _
       refine⟨?_,hS.below hO.wf oh,λ_=>oh⟩
       show KE M _ l _
       unfold KE
       rw[hll]
       exact hown
      ·cases h
     ·cases h
   ·cases h
  ·cases h
 ·rename_i t x y ho
  split at h
  ·rename_i l k hx hy
   split at h
   ·rename_i ht
    obtain⟨rfl,hk⟩:=ht
    split at h
    ·rename_i s hs
     cases h
     obtain⟨h1,_⟩:=hov _ _ hx
     have hy2:ρ y=.int .i64 k:=hon _ _ hy
     have hkl:k.toNat<l.length:=(List.getElem?_eq_some_iff.1 hs).1
     obtain⟨sb,cap,hv,_,hcell⟩:=gK h1 (by simp;omega)
     rw[List.length_map]at hv
     have hkI:k<(l.length:Int):=by omega
     rw[idx_ok (k:=k.toNat) ho hv (by rw[hy2];congr 1;omega) hkl w]
     refine⟨⟨sb,k.toNat,rfl,hcell _ _ ?_⟩,hS,λ_=>hb0⟩
     rw[List.getElem?_map,List.getElem?_map,hs]
     rfl
    ·cases h
   ·cases h
  ·cases h
 ·rename_i f args ts ho
  split at h
  ·rename_i us J8
   split at h
   ·rename_i u c b hc
    cases h
    obtain⟨h1,h2⟩:=hO.call _ _ _ _ _ hc CO
    have hd:=kC hov J8
    have hargs:args.map ρ=(args.toList.map ρ).toArray:=by
     apply Array.toList_inj.1
     simp
    have hf:ρ (.func f)=.func (.func f) #[] #[]:=hfu f
    unfold execOp
    simp[ho,resolve,invoke,hf,hargs,Deferred.ofValue,h1]
    refine(h2 _ w hS hd).mono ?_
    rintro e w' ⟨v,rfl,q1,q2,q3⟩
    exact⟨v,rfl,q1,q2,q3⟩
   ·cases h
  ·cases h
 ·rename_i args ts ho
  split at h
  ·rename_i x y hxy
   have hargs:args=#[x,y]:=Array.toList_inj.1 hxy
   subst hargs
   split at h
   ·rename_i l m hx hy
    split at h
    ·rename_i hc
     obtain⟨rfl,hty⟩:=hc
     have hE:r.val=.sl (l++m)/\r.cons=true/\l.length+m.length<=1000000:=by
      split at h
      ·cases h;exact⟨rfl,rfl,CO _ rfl⟩
      ·split at h
       ·cases h;exact⟨rfl,rfl,by assumption⟩
       ·cases h
     obtain⟨e1,e2,hn⟩:=hE
     rw[e1,e2]
     obtain⟨h1,f1⟩:=hov _ _ hx
     obtain⟨h2,f2⟩:=hov _ _ hy
     obtain⟨i0,hii,hz0,hz1,hz2⟩:=info_parts PQ
     obtain⟨v',w',hr,hown,hf,hS'⟩:=Fx hO.wf hS 64 9 i0 (.string ⟨#[]⟩) 16 Tryz.underlying64 hii hz0 hz1 hz2 rfl (by decide) (v:=ρ x) (u:=ρ y) (xs:=(l.map st).map .string) (ys:=(m.map st).map .string) (by simpa using h1) f1 (by simpa using h2) Pn (by simpa using hn)
     unfold execOp
     simp only[ho,hty,resolve,invoke,builtin,Sem.run_bind,Sem.run_pure,Result.andThen_ok,List.map_toArray,List.map_cons,List.map_nil,hr]
     refine⟨?_,hS',λhc=>by cases hc⟩
     show Kn M v' ((l++m).map st) w'
     unfold Kn
     rw[List.map_append,List.map_append,List.length_append]
     refine⟨?_,hf⟩
     simpa using hown
    ·cases h
   ·rename_i l m hx hy
    split at h
    ·rename_i hc
     obtain⟨rfl,hty,hn⟩:=hc
     cases h
     obtain⟨h1,f1⟩:=hov _ _ hx
     obtain⟨h2,f2⟩:=hov _ _ hy
     obtain⟨i0,hii,hz0,hz1,hz2⟩:=info_parts PY
     obtain⟨v',w',hr,hown,hf,hS'⟩:=Fx hO.wf hS 135 5 i0 (.int .u8 0) 1 Tryz.underlying135 hii hz0 hz1 hz2 rfl (by decide) (v:=ρ x) (u:=ρ y) (xs:=l.map λc=>.int .u8 (c.toNat:Int)) (ys:=m.map λc=>.int .u8 (c.toNat:Int)) (by simpa using h1) f1 (by simpa using h2) Pe (by simpa using hn)
     unfold execOp
     simp only[ho,hty,resolve,invoke,builtin,Sem.run_bind,Sem.run_pure,Result.andThen_ok,List.map_toArray,List.map_cons,List.map_nil,hr]
     refine⟨?_,hS',λhc=>by cases hc⟩
     show KE M v' (l++m) w'
     unfold KE
     rw[List.map_append,List.length_append]
     refine⟨?_,hf⟩
     simpa using hown
    ·cases h
   ·cases h
  ·cases h
 ·rename_i args ts ho
  split at h
  ·rename_i x hxy
   have hargs:args=#[x]:=Array.toList_inj.1 hxy
   subst hargs
   split at h
   ·rename_i b hx
    split at h
    ·rename_i hc
     obtain⟨rfl,hty⟩:=hc
     cases h
     have h1:ρ x=.string (st b):=hov _ _ hx
     have hl:=QI (st b) w
     unfold execOp
     simp only[ho,hty,resolve,invoke,builtin,Sem.run_bind,Sem.run_pure,Result.andThen_ok,List.map_toArray,List.map_cons,List.map_nil,h1,hl]
     exact⟨rfl,hS,λ_=>hb0⟩
    ·cases h
   ·rename_i l hx
    split at h
    ·rename_i hc
     subst hc
     cases h
     obtain⟨h1,f1⟩:=hov _ _ hx
     obtain⟨a2,c,hv⟩:=iO h1
     rw[List.length_map]at hv
     have hl:∀ty:TypeId,(Builtin.len_ #[64] ty #[.slice a2 l.length c]).run Tryz.prog w=.ok (.int .i64 (l.length:Int)) w:=λty=>by
      go_simp
      try rfl
     unfold execOp
     simp only[ho,resolve,invoke,builtin,Sem.run_bind,Sem.run_pure,Result.andThen_ok,List.map_toArray,List.map_cons,List.map_nil,hv,hl]
     exact⟨rfl,hS,λ_=>hb0⟩
    ·cases h
   ·cases h
  ·cases h
 ·cases h
theorem FM (hO:Ok Tryz.prog M){ov:Operand->Option PV}{ρ:Operand->Value}{w:World}(hfu:∀f,ρ (.func f)=.func (.func f) #[] #[])(hov:∀x u,ov x=some u->Den M u (ρ x) w)(hS:Sw M w){o:Oper}{r:Res}(h:act M ov o=some r)(CO:∀p,r.ob=some p->p):
 lL Tryz.prog (λv w'=>Den M r.val v w'/\Sw M w'/\(r.cons=false->Below w.heap.size w w')) ((execOp ρ o).run Tryz.prog w):=by
 unfold act at h
 split at h
 ·rename_i r' hr
  cases h
  have key:(∀p,r'.ob=some p->p)->_:=λh=>OC hO hfu hov hS hr h
  obtain⟨v0,c0,u0,b0⟩:=r'
  by_cases hc:∃p t b,v0=.v (.bool p)/\b0=none/\o.dst=some t/\M.tst t=some b
  ·obtain⟨p,t,b,rfl,rfl,e3,e4⟩:=hc
   have et:told M o ⟨.v (.bool p),c0,u0,none⟩=⟨.v (.bool b),c0,u0,some (p=b)⟩:=by
    unfold told
    simp only[e3,e4]
   rw[et]at CO⊢
   obtain rfl:p=b:=CO _ rfl
   exact key λq hq=>by cases hq
  ·have et:told M o ⟨v0,c0,u0,b0⟩=⟨v0,c0,u0,b0⟩:=by
    unfold told
    split
    ·rename_i p t e1 e2 e3
     split
     ·rename_i b e4
      exact absurd ⟨p,t,b,e1,e2,e3,e4⟩ hc
     ·rfl
    ·rfl
   rw[et]at CO⊢
   exact key CO
 split at h
 ·rename_i u hu
  split at h
  ·cases h
  ·cases h
   obtain⟨v,h1,h2⟩:=hO.oth o ov u hu ρ w hfu hS hov
   rw[h1]
   exact⟨h2,hS,λ_=>Below.refl _ _⟩
 ·cases h
variable {M : Mem}
def looks (ops:Array Oper)(o:Oper):Operand->Bool
 | .tmp t=>(o.looksAt ops).contains t
 |_=>true
def ovR (K:List (Nat×PV))(ops:Array Oper)(rs:List Ent)(o:Oper)(x:Operand):Option PV:=if looks ops o x=true then opd K rs x else none
def GX (K:List (Nat×PV))(ops:Array Oper)(rs:List Ent)(o:Oper):Bool:=(o.looksAt ops).any λt=>match opd K rs (.tmp t)with
 |some u=>u.mem
 |none=>false
def EU (M:Mem)(K:List (Nat×PV))(ops:Array Oper)(rs:List Ent)(o:Oper):Option Ent:=match act M (ovR K ops rs o) o with
 |some r=>some {dst:=o.dst,val:=r.val,cons:=r.cons,uses:=GX K ops rs o,ob:=r.ob}
 |none=>none
def ent (M:Mem)(K:List (Nat×PV))(ops:Array Oper)(rs:List Ent)(o:Oper):Option Ent:=match o.guard with
 |none=>EU M K ops rs o
 |some (j,want)=>match rs[j]? with
  |some e=>match e.dst,e.val with
   |some _,.v (.bool true)=>if want=true then EU M K ops rs o else some {dst:=o.dst,val:=.v undef,cons:=false,uses:=false,skip:=true}
   |some _,.v (.bool false)=>if want=false then EU M K ops rs o else some {dst:=o.dst,val:=.v undef,cons:=false,uses:=false,skip:=true}
   |_,_=>none
  |none=>none
def run (M:Mem)(K:List (Nat×PV))(ops:Array Oper):List Ent->List Oper->Option (List Ent)
 |rs,[]=>some rs
 |rs,o::l=>match ent M K ops rs o with
  |some e=>run M K ops (rs++[e]) l
  |none=>none
def sched (ops:Array Oper)(rs:List Ent):Bool:=(List.range rs.length).all λc=>match rs[c]? with
 |some e=>!e.cons||(((List.range c).all λi=>match rs[i]? with
  |some ei=>!ei.uses||(anc ops c).contains i
  |none=>true)&&(List.range rs.length).all λi=>match rs[i]? with
  |some ei=>!(ei.val.mem&&decide (c<i))||(anc ops i).contains c
  |none=>true)
 |none=>true
theorem gU {t:Nat}:∀{l:List Ent} {k i:Nat} {e:Ent},find t l k=some (i,e)->k<=i/\l[i-k]? =some e/\e.dst=some t
 |[],_,_,_,h=>by cases h
 |x::l,k,i,e,h=>by
  unfold find at h
  split at h
  ·rename_i hx
   cases h
   exact⟨Nat.le_refl _,by simp,hx⟩
  ·obtain⟨h1,h2,h3⟩:=gU h
   refine⟨by omega,?_,h3⟩
   rw[show i-k=(i-(k+1))+1 from by omega]
   simpa using h2
theorem yA {t:Nat}:∀{l:List Ent} {k:Nat},find t l k=none->∀(i:Nat) (e:Ent),l[i]? =some e->e.dst≠some t
 |[],_,_,i,e,hi=>by simp at hi
 |x::l,k,h,i,e,hi=>by
  unfold find at h
  split at h
  ·cases h
  ·rename_i hx
   cases i with
   |zero=>simp at hi;subst hi;exact hx
   |succ i=>exact yA h i e (by simpa using hi)
theorem lW:∀(l:List Ent) (k a b:Nat),a<=k->kT l k a<=b->a<=b/\∀(c:Nat) (e:Ent),l[c]? =some e->e.cons=true->k+c+1<=b
 |[],k,a,b,_,h=>⟨h,λc e hc=>by simp at hc⟩
 |x::l,k,a,b,hak,h=>by
  unfold kT at h
  obtain⟨h1,h2⟩:=lW l (k+1) _ b (by split<;>omega) h
  refine⟨by split at h1<;>omega,λc e hc kS=>?_⟩
  cases c with
  |zero=>
   simp at hc
   subst hc
   rw[if_pos kS]at h1
   omega
  |succ c=>
   have:=h2 c e (by simpa using hc) kS
   omega
theorem dL {K:List (Nat×PV)}{ops:Array Oper}{l:List Oper}:∀{r0 rs:List Ent},run M K ops r0 l=some rs->∃t,rs=r0++t/\t.length=l.length:=by
 induction l with
 |nil=>intro r0 rs h;cases h;exact⟨[],by simp,rfl⟩
 |cons o l ih=>
  intro r0 rs h
  unfold run at h
  split at h
  ·obtain⟨t,h1,h2⟩:=ih h
   exact⟨_::t,by rw[h1,List.append_assoc];rfl,by simp[h2]⟩
  ·cases h
theorem uO {K:List (Nat×PV)}{ops:Array Oper}{l:List Oper}:∀{r0 rs:List Ent},run M K ops r0 l=some rs->∀(i:Nat) (o:Oper),l[i]? =some o->∃e,rs[r0.length+i]? =some e/\ent M K ops (rs.take (r0.length+i)) o=some e:=by
 induction l with
 |nil=>intro r0 rs h i o hi;simp at hi
 |cons o l ih=>
  intro r0 rs h i o2 hi
  have h0:=h
  unfold run at h
  split at h
  ·rename_i e he
   obtain⟨t,h1,h2⟩:=dL h
   cases i with
   |zero=>
    simp at hi
    subst hi
    refine⟨e,by rw[h1];simp,?_⟩
    rw[h1,Nat.add_zero,List.append_assoc,List.take_left]
    exact he
   |succ i=>
    obtain⟨e2,k1,k2⟩:=ih h i o2 (by simpa using hi)
    rw[List.length_append,List.length_singleton]at k1 k2
    exact⟨e2,by rw[<-k1];congr 1;omega,by rw[<-k2];congr 2;omega⟩
  ·cases h
theorem Ag {K:List (Nat×PV)}{ops:Array Oper}{rs:List Ent}{o:Oper}{e:Ent}(h:ent M K ops rs o=some e):e.dst=o.dst:=by
 unfold ent at h
 have hA:∀e,EU M K ops rs o=some e->e.dst=o.dst:=λe h=>by
  unfold EU at h
  split at h
  ·cases h;rfl
  ·cases h
 repeat' split at h
 all_goals first|exact hA _ h|(cases h;rfl)|cases h
theorem jo:∀{K:List (Nat×PV)} {t:Nat} {u:PV},look K t=some u->(t,u)∈K
 |[],_,_,h=>by cases h
 |(s,v)::K,t,u,h=>by
  unfold look at h
  split at h
  ·rename_i hs;subst hs;cases h;exact List.mem_cons_self ..
  ·exact List.mem_cons_of_mem _ (jo h)
def alive (rs:List Ent)(i:Nat)(dn:Nat->Bool):Prop:=∀(c:Nat) (e:Ent),rs[c]? =some e->e.cons=true->i<c->dn c=false
def L8 (rs:List Ent)(dn:Nat->Bool):Prop:=∀(c:Nat) (e:Ent),rs[c]? =some e->e.cons=true->dn c=false
structure FR (M:Mem)(K:List (Nat×PV))(ops:Array Oper)(rs:List Ent)(a0:Act)(dn:Nat->Bool)(a:Act)(w:World):Prop where
 size:a.tmps.size=a0.tmps.size
 defers:a.defers=a0.defers
 sw:Sw M w
 rest:∀t:Nat,(∀(j:Nat) (oj:Oper),ops[j]? =some oj->dn j=true->oj.dst≠some t)->a.tmps[t]? =a0.tmps[t]?
 done:∀(j:Nat) (e:Ent) (d:Nat),rs[j]? =some e->dn j=true->e.dst=some d->(e.val.mem=true->alive rs j dn)->∃v,a.tmps[d]? =some v/\Den M e.val v w
 knownM:∀t u,(t,u)∈K->(u.mem=true->L8 rs dn)->∃v,a0.tmps[t]? =some v/\Den M u v w
def okR (n:Nat)(ops:Array Oper):Bool:=bf ops&&ops.toList.all λ(o:Oper)=>match o.dst with
 |some d=>decide (d<n)
 |none=>true
theorem wC (v:Value)(w:World)(M:Mem):Den M (cst v) v w:=by
 unfold cst
 split
 ·rename_i b
  show Value.string b=.string (st (b.size,b))
  rw[st_lit]
 ·exact⟨World.ownsRow_nil _ _ _ _,λg hg=>by cases hg⟩
 ·rename_i x
  split
  ·rename_i hx
   show Value.int .u8 x=.int .u8 ((UInt8.ofNat x.toNat).toNat:Int)
   congr 1
   rw[UInt8.toNat_ofNat']
   omega
  ·rfl
 ·rfl
section
variable {K : List (Nat × PV)} {ops : Array Oper} {rs : List Ent} {a0 a : Act} {w : World} {dn : Nat → Bool} {i : Nat} {o : Oper}
theorem KZ {t:Nat}{u:PV}{r:List Ent}(hl:t∈o.looksAt ops)(h:opd K r (.tmp t)=some u)(hu:u.mem=true):GX K ops r o=true:=by
 unfold GX
 rw[List.any_eq_true]
 exact⟨t,hl,by rw[h];exact hu⟩
theorem yC {t:Nat}{v:Value}(h:a.tmps[t]? =some v):a.eval (.tmp t)=v:=eval_at h
theorem j5 (hd:bf ops=true)(hrun:run M K ops [] ops.toList=some rs)(hsc:sched ops rs=true)(hi:ops[i]? =some o)(hu:dn i=false)(ha:∀e∈o.after,Region.binds .any e=true->dn e.on=true)(hC:Closed ops dn)(hI:FR M K ops rs a0 dn a w)
 {ei:Ent} (Nt:rs[i]? =some ei) (J8:GX K ops (rs.take i) o=true->ei.uses=true) {x:Operand} {u:PV} (h:ovR K ops (rs.take i) o x=some u):Den M u (a.eval x) w:=by
 unfold ovR at h
 split at h
 ·rename_i hl
  have hlen:rs.length=ops.size:=by
   obtain⟨t,h1,h2⟩:=dL hrun
   rw[h1];simpa using h2
  have hilt:i<ops.size:=(Array.getElem?_eq_some_iff.1 hi).1
  have hdst:∀(j:Nat) (e:Ent),rs[j]? =some e->∃oj,ops[j]? =some oj/\e.dst=oj.dst:=λj e hj=>by
   have hjl:j<ops.size:=by have:=(List.getElem?_eq_some_iff.1 hj).1;omega
   obtain⟨e2,k1,k2⟩:=uO hrun j ops[j] (by simp[hjl])
   rw[List.length_nil,Nat.zero_add]at k1
   have:e=e2:=Option.some.inj (hj.symm.trans k1)
   subst this
   exact⟨ops[j],by simp[hjl],Ag k2⟩
  have hlive:∀(c:Nat) (e:Ent),rs[c]? =some e->e.cons=true->i<c->ei.uses=true->dn c=false:=λc e hc kS hic QL=>by
   cases FO:dn c with
   |false=>rfl
   |true=>
    exfalso
    have hcl:c<rs.length:=(List.getElem?_eq_some_iff.1 hc).1
    have h1:=List.all_eq_true.1 hsc c (List.mem_range.2 hcl)
    rw[hc]at h1
    simp only[kS,Bool.not_true,Bool.false_or,Bool.and_eq_true]at h1
    have h2:=List.all_eq_true.1 h1.1 i (List.mem_range.2 hic)
    rw[Nt]at h2
    simp only[QL,Bool.not_true,Bool.false_or]at h2
    obtain⟨oc,hoc⟩:∃oc,ops[c]? =some oc:=⟨_,Array.getElem?_eq_getElem (by omega)⟩
    have:=Ba hC hoc (λe he hb=>hC c oc hoc FO e he hb) i (by simpa using h2)
    rw[hu]at this
    cases this
  cases x with
  |const v=>
   have h:some (cst v)=some u:=h
   cases h
   exact wC v w M
  |tmp t=>
   have hlt:t∈o.looksAt ops:=by simpa[looks]using hl
   have QL:=λhm=>J8 (KZ hlt h hm)
   have h:opT K (rs.take i) t=some u:=h
   unfold opT at h
   split at h
   ·rename_i j e hf
    obtain⟨-,f2,f3⟩:=gU hf
    rw[Nat.sub_zero]at f2
    have hji:j<i:=by
     have:=(List.getElem?_eq_some_iff.1 f2).1
     rw[List.length_take]at this
     omega
    have f4:rs[j]? =some e:=by rw[List.getElem?_take,if_pos hji]at f2;exact f2
    obtain⟨oj,g1,g2⟩:=hdst j e f4
    have hdn:dn j=true:=by
     rcases looks_at hd hi hu ha hC hlt with⟨j',oj',h1,h2,h3,h4⟩|⟨_,h2⟩
     ·have:j'=j:=by
       by_cases hjj:j'=j
       ·exact hjj
       ·exact absurd (g2▸f3) (iN hd g1 h2 hjj h3)
      rw[<-this];exact h4
     ·exact absurd (g2▸f3) (h2 j oj hji g1)
    have hA:e.val.mem=true->(if e.val.mem=true then(if kT (rs.take i) 0 0<=j+1 then some e.val else none)else some e.val)=some u->alive rs j dn:=λhm hx=>by
     rw[if_pos hm]at hx
     split at hx
     ·rename_i hle
      cases hx
      intro c ec hc kS hjc
      by_cases hic:i<c
      ·exact hlive c ec hc kS hic (QL hm)
      ·by_cases hci:c=i
       ·subst hci;exact hu
       ·have:=(lW _ 0 0 _ (Nat.le_refl _) hle).2 c ec (by rw[List.getElem?_take,if_pos (by omega)];exact hc) kS
        omega
     ·cases hx
    have hval:u=e.val:=by
     split at h
     ·split at h
      ·cases h;rfl
      ·cases h
     ·cases h;rfl
    obtain⟨v,k1,k2⟩:=hI.done j e t f4 hdn f3 (λhm=>hA hm h)
    rw[yC k1,hval]
    exact k2
   ·rename_i hf
    have hnone:=yA hf
    have hr:∀(j:Nat) (oj:Oper),ops[j]? =some oj->dn j=true->oj.dst≠some t:=by
     rcases looks_at hd hi hu ha hC hlt with⟨j',oj',h1,h2,h3,h4⟩|⟨h1,_⟩
     ·exfalso
      obtain⟨ej,J7⟩:∃ej,rs[j']? =some ej:=⟨_,List.getElem?_eq_getElem (by omega)⟩
      obtain⟨oj2,g1,g2⟩:=hdst j' ej J7
      rw[h2]at g1
      cases g1
      exact hnone j' ej (by rw[List.getElem?_take,if_pos h1];exact J7) (g2.trans h3)
     ·exact h1
    have h2:=hI.rest t hr
    split at h
    ·rename_i u' hk
     have hA:u'.mem=true->(if u'.mem=true then(if kT (rs.take i) 0 0=0 then some u' else none)else some u')=some u->L8 rs dn:=λhm hx=>by
      rw[if_pos hm]at hx
      split at hx
      ·rename_i hle
       cases hx
       intro c ec hc kS
       by_cases hic:i<c
       ·exact hlive c ec hc kS hic (QL hm)
       ·by_cases hci:c=i
        ·subst hci;exact hu
        ·have:=(lW _ 0 0 0 (Nat.le_refl _) (Nat.le_of_eq hle)).2 c ec (by rw[List.getElem?_take,if_pos (by omega)];exact hc) kS
         omega
      ·cases hx
     have hval:u=u':=by
      split at h
      ·split at h
       ·cases h;rfl
       ·cases h
      ·cases h;rfl
     obtain⟨v,k1,k2⟩:=hI.knownM t u' (jo hk) (λhm=>hA hm h)
     rw[yC (h2.trans k1),hval]
     exact k2
    ·cases h
  |global g=>cases h
  |func f=>cases h
 ·cases h
theorem BN {tmps:Array Value}(h:o.guard=none):Region.wanted o (yielded ops tmps)=true:=by unfold Region.wanted;rw[h]
theorem O5 (hd:bf ops=true){n:Nat}(hok:okR n ops=true)(hn:a0.tmps.size=n)(hrun:run M K ops [] ops.toList=some rs)(hsc:sched ops rs=true)(hi:ops[i]? =some o)(hu:dn i=false)(hC:Closed ops dn)(hI:FR M K ops rs a0 dn a w)
 {ei:Ent} (Nt:rs[i]? =some ei) {v:Value} {w':World} (hv:Den M ei.val v w') (hS:Sw M w') (hb:ei.cons=false->Below w.heap.size w w'):FR M K ops rs a0 (λj=>dn j||j==i) (a.put o.dst v) w':=by
 have hlen:rs.length=ops.size:=by
  obtain⟨t,h1,h2⟩:=dL hrun
  rw[h1];simpa using h2
 have hdst:∀(j:Nat) (e:Ent),rs[j]? =some e->∃oj,ops[j]? =some oj/\e.dst=oj.dst:=λj e hj=>by
  have hjl:j<ops.size:=by have:=(List.getElem?_eq_some_iff.1 hj).1;omega
  obtain⟨e2,k1,k2⟩:=uO hrun j ops[j] (by simp[hjl])
  rw[List.length_nil,Nat.zero_add]at k1
  have:e=e2:=Option.some.inj (hj.symm.trans k1)
  subst this
  exact⟨ops[j],by simp[hjl],Ag k2⟩
 have hor:∀j,(dn j||j==i)=true↔(dn j=true\/j=i):=λj=>by rw[Bool.or_eq_true,beq_iff_eq]
 have hput:∀d:Nat,o.dst≠some d->(a.put o.dst v).tmps[d]? =a.tmps[d]?:=λd hne=>by
  unfold Act.put
  split
  ·rename_i d2 h2
   show(a.tmps.setIfInBounds d2 v)[d]? =_
   rw[Array.getElem?_setIfInBounds_ne]
   rintro rfl
   exact hne h2
  ·rfl
 have hsz:(a.put o.dst v).tmps.size=a.tmps.size:=by
  unfold Act.put
  split
  ·show(a.tmps.setIfInBounds _ v).size=_
   simp
  ·rfl
 have hdf:(a.put o.dst v).defers=a.defers:=by
  unfold Act.put
  split<;>rfl
 have kS:ei.cons=true->∀dn':Nat->Bool,dn' i=true->∀(j:Nat),j<i->¬alive rs j dn':=λhc dn' hdi j hji hal=>by
  have:=hal i ei Nt hc hji
  rw[hdi]at this;cases this
 refine⟨hsz.trans hI.size,hdf.trans hI.defers,hS,λt ht=>?_,λj e d hj hdj Af hal=>?_,λt u ht hal=>?_⟩
 ·rw[hput t (λh=>ht i o hi (by show(dn i||i==i)=true;simp) h)]
  exact hI.rest t λj oj hj hdj=>ht j oj hj (by show(dn j||j==i)=true;rw[hdj];rfl)
 ·by_cases hji:j=i
  ·subst hji
   rw[Nt]at hj
   cases hj
   obtain⟨oj,g1,g2⟩:=hdst j ei Nt
   rw[hi]at g1
   cases g1
   have hod:o.dst=some d:=g2.symm.trans Af
   have hdn:d<a.tmps.size:=by
    rw[hI.size,hn]
    unfold okR at hok
    rw[Bool.and_eq_true]at hok
    have:=List.all_eq_true.1 hok.2 o (List.mem_of_getElem? (by simpa using hi))
    rw[hod]at this
    simpa using this
   refine⟨v,?_,hv⟩
   rw[hod]
   show(a.tmps.setIfInBounds d v)[d]? =some v
   simp[hdn]
  ·have hdj2:dn j=true:=by rcases(hor j).1 hdj with h|h;exact h;exact absurd h hji
   obtain⟨oj,g1,g2⟩:=hdst j e hj
   have hne:o.dst≠some d:=iN hd hi g1 hji (g2▸Af)
   rw[hput d hne]
   cases hm:e.val.mem with
   |false=>
    obtain⟨x,k1,k2⟩:=hI.done j e d hj hdj2 Af (λh=>by rw[hm]at h;cases h)
    exact⟨x,k1,k2.any hm⟩
   |true=>
    have hal:=hal hm
    cases hc:ei.cons with
    |true=>
     exfalso
     rcases Nat.lt_trichotomy j i with h|h|h
     ·exact kS hc _ (by show(dn i||i==i)=true;simp) j h hal
     ·exact hji h
     ·have hil:i<rs.length:=(List.getElem?_eq_some_iff.1 Nt).1
      have h1:=List.all_eq_true.1 hsc i (List.mem_range.2 hil)
      rw[Nt]at h1
      simp only[hc,Bool.not_true,Bool.false_or,Bool.and_eq_true]at h1
      have h2:=List.all_eq_true.1 h1.2 j (List.mem_range.2 (List.getElem?_eq_some_iff.1 hj).1)
      rw[hj]at h2
      simp only[hm,h,decide_true,Bool.and_self,Bool.not_true,Bool.false_or]at h2
      have:=Ba hC g1 (λe he hb=>hC j oj g1 hdj2 e he hb) i (by simpa using h2)
      rw[hu]at this
      cases this
    |false=>
     obtain⟨x,k1,k2⟩:=hI.done j e d hj hdj2 Af (λ_ c ec hc' hcc hjc=>by
      have:=hal c ec hc' hcc hjc
      have h2:(dn c||c==i)=false:=this
      rw[Bool.or_eq_false_iff]at h2
      exact h2.1)
     exact⟨x,k1,k2.below (hb hc)⟩
 ·cases hm:u.mem with
  |false=>
   obtain⟨x,k1,k2⟩:=hI.knownM t u ht (λh=>by rw[hm]at h;cases h)
   exact⟨x,k1,k2.any hm⟩
  |true=>
   have hal:=hal hm
   cases hc:ei.cons with
   |true=>
    exfalso
    have:=hal i ei Nt hc
    have h2:(dn i||i==i)=false:=this
    simp at h2
   |false=>
    obtain⟨x,k1,k2⟩:=hI.knownM t u ht (λ_ c ec hc' hcc=>by
     have:=hal c ec hc' hcc
     have h2:(dn c||c==i)=false:=this
     rw[Bool.or_eq_false_iff]at h2
     exact h2.1)
    exact⟨x,k1,k2.below (hb hc)⟩
end
structure FrP (M:Mem)(n:Nat)(K:List (Nat×PV))(a:Act)(w:World):Prop where
 size:a.tmps.size=n
 defers:a.defers=[]
 look:∀t u,(t,u)∈K->∃v,a.tmps[t]? =some v/\Den M u v w
def news (rs:List Ent):List Ent->Nat->List (Nat×PV)
 |[],_=>[]
 |e::l,i=>match e.dst with
  |some d=>if e.val.mem=true/\¬kT rs 0 0<=i+1 then news rs l (i+1)else(d,e.val)::news rs l (i+1)
  |none=>news rs l (i+1)
def keep (K:List (Nat×PV))(ops:Array Oper)(rs:List Ent):List (Nat×PV):=K.filter λp=>(ops.toList.all λo=>o.dst !=some p.1)&&(!p.2.mem||decide (kT rs 0 0=0))
theorem je {rs:List Ent}:∀{l:List Ent} {k d:Nat} {u:PV},(d,u)∈news rs l k->∃(i:Nat) (e:Ent),l[i]? =some e/\e.dst=some d/\e.val=u/\(u.mem=true->kT rs 0 0<=k+i+1)
 |[],_,_,_,h=>by cases h
 |e::l,k,d,u,h=>by
  have rec_:(d,u)∈news rs l (k+1)->∃(i:Nat) (e':Ent),(e::l)[i]? =some e'/\e'.dst=some d/\e'.val=u/\(u.mem=true->kT rs 0 0<=k+i+1):=λh=>by
   obtain⟨i,e',h1,h2,h3,h4⟩:=je h
   exact⟨i+1,e',by simpa using h1,h2,h3,λhm=>by have:=h4 hm;omega⟩
  unfold news at h
  split at h
  ·rename_i d2 hd
   split at h
   ·exact rec_ h
   ·rename_i hc
    rcases List.mem_cons.1 h with h3|h3
    ·cases h3
     exact⟨0,e,rfl,hd,rfl,λhm=>Classical.byContradiction λhx=>hc ⟨hm,hx⟩⟩
    ·exact rec_ h3
  ·exact rec_ h
theorem MB {K:List (Nat×PV)}{ops:Array Oper}{rs:List Ent}{t:Nat}{u:PV}(hm:(t,u)∈keep K ops rs):(t,u)∈K/\(∀o:Oper,o∈ops.toList->o.dst≠some t)/\(u.mem=true->kT rs 0 0=0):=by
 unfold keep at hm
 obtain⟨h1,h2⟩:=List.mem_filter.1 hm
 rw[Bool.and_eq_true]at h2
 refine⟨h1,λo ho=>?_,λhu=>?_⟩
 ·have:=List.all_eq_true.1 h2.1 o ho
  simpa using this
 ·have:=h2.2
  simp only[hu,Bool.not_true,Bool.false_or,decide_eq_true_eq]at this
  exact this
section
variable {K : List (Nat × PV)} {ops : Array Oper} {rs : List Ent} {a : Act} {w : World} {n id : Nat} {dr : Bool} {Q : Exit → Act → World → Prop}
theorem wp_se (hO:Ok Tryz.prog M)(hok:okR n ops=true)(hrun:run M K ops [] ops.toList=some rs)(hsc:sched ops rs=true)(CO:∀e∈rs,∀p,e.ob=some p->p)(hF:FrP M n K a w)(hS:Sw M w)
 (hend:∀(b:Act) (w':World),FrP M n (news rs rs 0++keep K ops rs) b w'->Sw M w'->Q .normal b w'):(Code.region id ops dr).wp Tryz.prog Q a w:=by
 have hd:bf ops=true:=by unfold okR at hok;rw[Bool.and_eq_true]at hok;exact hok.1
 have hlen:rs.length=ops.size:=by
  obtain⟨t,h1,h2⟩:=dL hrun
  rw[h1];simpa using h2
 have hdst:∀(j:Nat) (e:Ent),rs[j]? =some e->∃oj,ops[j]? =some oj/\e.dst=oj.dst:=λj e hj=>by
  have hjl:j<ops.size:=by have:=(List.getElem?_eq_some_iff.1 hj).1;omega
  obtain⟨e2,k1,k2⟩:=uO hrun j ops[j] (by simp[hjl])
  rw[List.length_nil,Nat.zero_add]at k1
  have:e=e2:=Option.some.inj (hj.symm.trans k1)
  subst this
  exact⟨ops[j],by simp[hjl],Ag k2⟩
 refine xg rfl hd (FR M K ops rs a) ?_ ?_ ?_
 ·cases dr with
  |true=>exact⟨rfl,rfl,hS.drew,λ_ _=>rfl,λj e d hj hdj=>(by cases hdj),λt u hl _=>(hF.look t u hl).imp λv h=>⟨h.1,h.2.drew⟩⟩
  |false=>exact⟨rfl,rfl,hS,λ_ _=>rfl,λj e d hj hdj=>(by cases hdj),λt u hl _=>hF.look t u hl⟩
 ·intro dn i o a' w' hi hu ha hC hI
  obtain⟨ei,k1,k2⟩:=uO hrun i o (by simpa using hi)
  rw[List.length_nil,Nat.zero_add]at k1 k2
  have fin:∀(v:Value) (w2:World),Den M ei.val v w2->Sw M w2->(ei.cons=false->Below w'.heap.size w' w2)->FR M K ops rs a (λj=>dn j||j==i) (a'.put o.dst v) w2:=λv w2 h1 h2 h3=>O5 hd hok hF.size hrun hsc hi hu hC hI k1 h1 h2 h3
  have doA:Region.wanted o (yielded ops a'.tmps)=true->EU M K ops (rs.take i) o=some ei->wpOp Tryz.prog ops Q i (λa' w'=>FR M K ops rs a (λj=>dn j||j==i) a' w') a' w':=λhw hA=>by
   unfold EU at hA
   split at hA
   ·rename_i r hr
    cases hA
    have hov:=λx u (hx:ovR K ops (rs.take i) o x=some u)=>j5 hd hrun hsc hi hu ha hC hI k1 (λh=>h) hx
    have hy:gY Tryz.prog ops (λw=>w=w') (λv w2=>Den M r.val v w2/\Sw M w2/\(r.cons=false->Below w'.heap.size w' w2)) o a':=⟨hw,λw jv=>by
     rw[jv]
     exact FM hO (λ_=>rfl) hov hI.sw hr (CO _ (List.mem_of_getElem? k1))⟩
    exact hy.wpOp hi rfl λv w2 ⟨q1,q2,q3⟩=>fin v w2 q1 q2 q3
   ·cases hA
  have skipA:Region.wanted o (yielded ops a'.tmps)=false->ei={dst:=o.dst,val:=.v undef,cons:=false,uses:=false,skip:=true}->wpOp Tryz.prog ops Q i (λa' w'=>FR M K ops rs a (λj=>dn j||j==i) a' w') a' w':=λhw he=>by
   have hy:aY Tryz.prog ops (λw=>w=w') (λw=>w=w') o undef a':=.inr ⟨hw,rfl,λ_ h=>h⟩
   refine hy.wpOp hi rfl λw2 hw2=>?_
   rw[hw2]
   exact fin undef w' (by rw[he];rfl) hI.sw (λ_=>Below.refl _ _)
  unfold ent at k2
  split at k2
  ·rename_i hg
   exact doA (BN hg) k2
  ·rename_i j want hg
   split at k2
   ·rename_i ej J7
    have hji:j<i:=by
     have:=(List.getElem?_eq_some_iff.1 J7).1
     rw[List.length_take]at this
     omega
    have hej2:rs[j]? =some ej:=by rw[List.getElem?_take,if_pos hji]at J7;exact J7
    obtain⟨oj,g1,g2⟩:=hdst j ej hej2
    have hyv:∀d b,ej.dst=some d->ej.val=.v (.bool b)->Region.wanted o (yielded ops a'.tmps)=(b==want):=λd b Af hev=>by
     have hod:oj.dst=some d:=g2.symm.trans Af
     have hla:d∈o.looksAt ops:=by simp[Oper.looksAt,hg,g1,hod]
     have hdn:dn j=true:=by
      rcases looks_at hd hi hu ha hC hla with⟨j',oj',h1,h2,h3,h4⟩|⟨_,h2⟩
      ·have:j'=j:=by
        by_cases hjj:j'=j
        ·exact hjj
        ·exact absurd hod (iN hd g1 h2 hjj h3)
       rw[<-this];exact h4
      ·exact absurd hod (h2 j oj hji g1)
     obtain⟨v,e1,e2⟩:=hI.done j ej d hej2 hdn Af (λh=>by rw[hev]at h;cases h)
     rw[hev]at e2
     have e2:v=.bool b:=e2
     unfold Region.wanted
     rw[hg]
     have hyl:yielded ops a'.tmps j=some b:=by
      unfold yielded
      rw[g1]
      simp only[Option.bind_some,hod,e1,e2]
     simp only[hyl]
     cases b<;>cases want<;>rfl
    split at k2
    ·rename_i d Af hev
     have:=hyv _ _ Af hev
     split at k2
     ·rename_i hw;subst hw;exact doA this k2
     ·rename_i hw
      cases k2
      exact skipA (by rw[this];cases want<;>simp_all) rfl
    ·rename_i d Af hev
     have:=hyv _ _ Af hev
     split at k2
     ·rename_i hw;subst hw;exact doA this k2
     ·rename_i hw
      cases k2
      exact skipA (by rw[this];cases want<;>simp_all) rfl
    ·cases k2
   ·cases k2
 ·intro dn b w' hall hI
  refine hend b w' ⟨hI.size.trans hF.size,hI.defers.trans hF.defers,λt u hm=>?_⟩ hI.sw
  rcases List.mem_append.1 hm with hm|hm
  ·obtain⟨i,e,h1,h2,h3,h4⟩:=je hm
   subst h3
   have hil:i<ops.size:=by have:=(List.getElem?_eq_some_iff.1 h1).1;omega
   refine hI.done i e t h1 (hall i hil) h2 λhmem c ec hc hcc hic=>?_
   have:=(lW rs 0 0 _ (Nat.le_refl _) (h4 hmem)).2 c ec hc hcc
   omega
  ·obtain⟨h1,h2,h3⟩:=MB hm
   rw[hI.rest t λj oj hj _=>h2 oj (List.mem_of_getElem? (by simpa using hj))]
   obtain⟨v,k1,k2⟩:=hF.look t u h1
   refine⟨v,k1,?_⟩
   cases hmem:u.mem with
   |false=>exact k2.any hmem
   |true=>
    have hz:=h3 hmem
    obtain⟨v2,k3,k4⟩:=hI.knownM t u h1 (λ_ c ec hc hcc=>by
     have:=(lW rs 0 0 0 (Nat.le_refl _) (Nat.le_of_eq hz)).2 c ec hc hcc
     omega)
    have:v=v2:=Option.some.inj (k1.symm.trans k3)
    rw[this];exact k4
end
open Go.Proofs.YtnjjeapcalkmaaaGreatDoor.Ev (Fm Qof)
variable {M : Mem}
inductive Out where
 |nx (K:List (Nat×PV))
 |ret (K:List (Nat×PV))
 |out (k:Nat) (K:List (Nat×PV))
 |go (c:Code) (fs:List Fm) (K:List (Nat×PV))
 |ob (p:Prop) (o:Out)
def Out.bind (b:Code)(f:List (Nat×PV)->Out):Out->Out
 | .nx K=>f K
 | .ret K=>.ret K
 | .out k K=>.out k K
 | .go c fs K=>.go c (fs++[.sq b]) K
 | .ob p o=>.ob p (o.bind b f)
def Out.unblock (i:Nat):Out->Out
 | .nx K=>.nx K
 | .ret K=>.ret K
 | .out k K=>if k=i then .nx K else .out k K
 | .go c fs K=>.go c (fs++[.bl i]) K
 | .ob p o=>.ob p (o.unblock i)
def obs:List Ent->Out->Out
 |[],o=>o
 |e::l,o=>match e.ob with
  |some p=>.ob p (obs l o)
  |none=>obs l o
def exR (M:Mem)(n i:Nat)(ops:Array Oper)(dr:Bool)(K:List (Nat×PV)):Out:=match run M K ops [] ops.toList with
 |some rs=>if (okR n ops&&sched ops rs)=true then obs rs (.nx (news rs rs 0++keep K ops rs))else .go (.region i ops dr) [] K
 |none=>.go (.region i ops dr) [] K
def exC (h:Option Bool)(x y z:Out)(l:Option PV):Out:=match h with
 |none=>match l with
  |some (.v (.bool true))=>x
  |some (.v (.bool false))=>y
  |_=>z
 |some true=>match l with
  |some (.v (.bool b))=>.ob (b=true) x
  |_=>z
 |some false=>match l with
  |some (.v (.bool b))=>.ob (b=false) y
  |_=>z
def Out.bindL (f:List (Nat×PV)->Out):Out->Out
 | .nx K=>f K
 | .ret K=>.ret K
 | .out k K=>.out k K
 | .go _ _ K=>.ob False (.nx K)
 | .ob p o=>.ob p (o.bindL f)
def exL (f:List (Nat×PV)->Out):Nat->List (Nat×PV)->Out
 |0,K=>.ob False (.nx K)
 |k+1,K=>(f K).bindL (exL f k)
def ex (M:Mem)(n:Nat):Code->List (Nat×PV)->Out
 | .skip,K=>.nx K
 | .region i ops dr,K=>exR M n i ops dr K
 | .seq a b,K=>(ex M n a K).bind b (ex M n b)
 | .cond c x y,K=>match c with
   | .tmp t=>exC (M.hint t) (ex M n x K) (ex M n y K) (.go (.cond (.tmp t) x y) [] K) ((look K t).map (nv M))
   |c=>.go (.cond c x y) [] K
 | .block i b,K=>(ex M n b K).unblock i
 | .exit k,K=>.out k K
 | .ret,K=>.ret K
 | .loop c,K=>if M.loops=0 then .go (.loop c) [] K else exL (ex M n c) M.loops K
 |c,K=>.go c [] K
def Out.holds (M:Mem)(n:Nat)(Q:Exit->Act->World->Prop):Out->Prop
 | .nx K=>∀a w,FrP M n K a w->Sw M w->Q .normal a w
 | .ret K=>∀a w,FrP M n K a w->Sw M w->Q .ret a w
 | .out k K=>∀a w,FrP M n K a w->Sw M w->Q (.exit k) a w
 | .go c fs K=>∀a w,FrP M n K a w->Sw M w->c.wp Tryz.prog (Qof Tryz.prog fs Q) a w
 | .ob p o=>p/\o.holds M n Q
theorem kI {n:Nat}{Q:Exit->Act->World->Prop}{b:Code}{f:List (Nat×PV)->Out}(hf:∀K,(f K).holds M n Q->∀a w,FrP M n K a w->Sw M w->b.wp Tryz.prog Q a w):
 ∀{t:Out},(t.bind b f).holds M n Q->t.holds M n (Exit.then (b.wp Tryz.prog Q) Q):=by
 intro t
 induction t with
 |ob p o ih=>exactλhh=>⟨hh.1,ih hh.2⟩
 |nx K=>intro hh;exact hf K hh
 |ret K=>exactλhh=>hh
 |out k K=>exactλhh=>hh
 |go c fs K=>intro hh a w ha hs;have:=hh a w ha hs;rw[Ev.AZ]at this;exact this
theorem gZ {n:Nat}{Q:Exit->Act->World->Prop}{i:Nat}:∀{t:Out},(t.unblock i).holds M n Q->t.holds M n (Exit.inBlock i Q):=by
 intro t
 induction t with
 |ob p o ih=>exactλhh=>⟨hh.1,ih hh.2⟩
 |nx K=>exactλh=>h
 |ret K=>exactλh=>h
 |out k K=>
  intro h a w ha hs
  have h:(if k=i then Out.nx K else Out.out k K).holds M n Q:=h
  show(if k=i then Q .normal a w else Q (.exit k) a w)
  by_cases hk:k=i
  ·rw[if_pos hk]at h⊢;exact h a w ha hs
  ·rw[if_neg hk]at h⊢;exact h a w ha hs
 |go c fs K=>intro hh a w ha hs;have:=hh a w ha hs;rw[Ev.zC]at this;exact this
theorem BP {n:Nat}{Q:Exit->Act->World->Prop}{R:Act->World->Prop}{f:List (Nat×PV)->Out}(hf:∀K,(f K).holds M n Q->∀a w,FrP M n K a w->Sw M w->R a w):
 ∀{t:Out},(t.bindL f).holds M n Q->t.holds M n (Exit.then R Q):=by
 intro t
 induction t with
 |ob p o ih=>exactλhh=>⟨hh.1,ih hh.2⟩
 |nx K=>intro hh;exact hf K hh
 |ret K=>exactλhh=>hh
 |out k K=>exactλhh=>hh
 |go c fs K=>exactλhh=>hh.1.elim
theorem rT {n:Nat}{Q:Exit->Act->World->Prop}{o:Out}:∀{l:List Ent},(obs l o).holds M n Q->(∀e∈l,∀p,e.ob=some p->p)/\o.holds M n Q
 |[],h=>⟨λe he=>(by cases he),h⟩
 |e::l,h=>by
  unfold obs at h
  split at h
  ·rename_i p hp
   obtain⟨h1,h2⟩:=h
   obtain⟨h3,h4⟩:=rT h2
   exact⟨λx hx=>by
    rcases List.mem_cons.1 hx with rfl|hx
    ·intro q hq;rw[hp]at hq;cases hq;exact h1
    ·exact h3 x hx,h4⟩
  ·rename_i hp
   obtain⟨h3,h4⟩:=rT h
   exact⟨λx hx=>by
    rcases List.mem_cons.1 hx with rfl|hx
    ·intro q hq;rw[hp]at hq;cases hq
    ·exact h3 x hx,h4⟩
theorem rW (hO:Ok Tryz.prog M){n:Nat}:∀{code:Code} {K:List (Nat×PV)} {Q:Exit->Act->World->Prop},(ex M n code K).holds M n Q->∀a w,FrP M n K a w->Sw M w->code.wp Tryz.prog Q a w:=by
 intro code
 induction code with
 |skip=>intro K Q h a w hF hS;exact wp_skip (h a w hF hS)
 |region i ops dr=>
  intro K Q h a w hF hS
  have h:(exR M n i ops dr K).holds M n Q:=h
  unfold exR at h
  split at h
  ·rename_i rs hrs
   split at h
   ·rename_i hok
    rw[Bool.and_eq_true]at hok
    obtain⟨h1,h2⟩:=rT h
    exact wp_se hO hok.1 hrs hok.2 h1 hF hS h2
   ·exact h a w hF hS
  ·exact h a w hF hS
 |seq x y ix iy=>
  intro K Q h a w hF hS
  unfold ex at h
  refine wp_seq ?_
  exact ix (kI (λK' h'=>iy h') h) a w hF hS
 |cond c x y ix iy=>
  intro K Q h a w hF hS
  cases c with
  |tmp t=>
   have h:(exC (M.hint t) (ex M n x K) (ex M n y K) (.go (.cond (.tmp t) x y) [] K) ((look K t).map (nv M))).holds M n Q:=h
   have get:∀b:Bool,(look K t).map (nv M)=some (.v (.bool b))->a.eval (.tmp t)=.bool b:=λb hl=>by
    obtain⟨u,hk,hu⟩:=Option.map_eq_some_iff.1 hl
    obtain⟨v,h1,h2⟩:=hF.look t _ (jo hk)
    have h2:v=.bool b:=by have:=Fz h2;rw[hu]at this;exact this
    exact eval_at (h2▸h1)
   generalize hl:(look K t).map (nv M)=l at h get
   unfold exC at h
   split at h
   ·split at h
    ·exact wp_cond (t:=true) (get _ rfl) (ix h a w hF hS)
    ·exact wp_cond (t:=false) (get _ rfl) (iy h a w hF hS)
    ·exact h a w hF hS
   ·split at h
    ·obtain⟨rfl,h⟩:=h
     exact wp_cond (t:=true) (get _ rfl) (ix h a w hF hS)
    ·exact h a w hF hS
   ·split at h
    ·obtain⟨rfl,h⟩:=h
     exact wp_cond (t:=false) (get _ rfl) (iy h a w hF hS)
    ·exact h a w hF hS
  |const v=>exact h a w hF hS
  |global g=>exact h a w hF hS
  |func f=>exact h a w hF hS
 |block i b ib=>
  intro K Q h a w hF hS
  unfold ex at h
  exact wp_block (ib (gZ h) a w hF hS)
 |exit k=>intro K Q h a w hF hS;exact wp_exit (h a w hF hS)
 |ret=>intro K Q h a w hF hS;exact wp_ret (h a w hF hS)
 |loop c ic=>
  intro K Q h a w hF hS
  unfold ex at h
  split at h
  ·exact h a w hF hS
  ·refine wp_loop_rounds M.loops ?_
   have key:∀(k:Nat) (K:List (Nat×PV)),(exL (ex M n c) k K).holds M n Q->∀a w,FrP M n K a w->Sw M w->Code.rounds Tryz.prog c Q k a w:=by
    intro k
    induction k with
    |zero=>exactλK h=>h.1.elim
    |succ k ih=>exactλK h a w hF hS=>ic (BP (R:=Code.rounds Tryz.prog c Q k) (λK' h'=>ih K' h') h) a w hF hS
   exact key _ K h a w hF hS
 |_=>intro K Q h a w hF hS;exact h a w hF hS
def nG (M:Mem)(ts:List Nat)(us:List PV)(a:Act)(w:World):Prop:=∀(i t:Nat) (u:PV),ts[i]? =some t->us[i]? =some u->∃v,a.tmps[t]? =some v/\Den M u v w
def looks' (K:List (Nat×PV)):List Nat->Option (List PV)
 |[]=>some []
 |t::ts=>match look K t,looks' K ts with
  |some u,some us=>some (u::us)
  |_,_=>none
theorem qb {K:List (Nat×PV)}{n:Nat}{a:Act}{w:World}(hF:FrP M n K a w):∀{ts:List Nat} {us:List PV},looks' K ts=some us->nG M ts us a w
 |[],us,h=>λi t u h1=>by simp at h1
 |s::ts,us,h=>by
  unfold looks' at h
  split at h
  ·rename_i u us' h1 h2
   cases h
   intro i t x ht hx
   cases i with
   |zero=>
    simp at ht hx
    subst ht
    subst hx
    exact hF.look _ _ (jo h1)
   |succ i=>exact qb hF h2 i t x (by simpa using ht) (by simpa using hx)
  ·cases h
theorem nG.cons {t:Nat}{ts:List Nat}{u:PV}{us:List PV}{a:Act}{w:World}(h:nG M (t::ts) (u::us) a w):(∃v,a.tmps[t]? =some v/\Den M u v w)/\nG M ts us a w:=⟨h 0 t u rfl rfl,λi s x h1 h2=>h (i+1) s x (by simpa using h1) (by simpa using h2)⟩
def Out.retv (ts:List Nat):Out->Option (List PV×List Prop)
 | .ret K=>(looks' K ts).map λus=>(us,[])
 | .ob p o=>(o.retv ts).map λx=>(x.1,p::x.2)
 |_=>none
def Out.nxv (ts:List Nat):Out->Option (List PV×List Prop)
 | .nx K=>(looks' K ts).map λus=>(us,[])
 | .ob p o=>(o.nxv ts).map λx=>(x.1,p::x.2)
 |_=>none
def Out.gov (ts:List Nat):Out->Option ((Code×List Fm×List PV)×List Prop)
 | .go c fs K=>(looks' K ts).map λus=>((c,fs,us),[])
 | .ob p o=>(o.gov ts).map λx=>(x.1,p::x.2)
 |_=>none
def Out.outv (ts:List Nat):Out->Option ((Nat×List PV)×List Prop)
 | .out k K=>(looks' K ts).map λus=>((k,us),[])
 | .ob p o=>(o.outv ts).map λx=>(x.1,p::x.2)
 |_=>none
def All:List Prop->Prop
 |[]=>True
 |p::l=>p/\All l
section
variable {n : Nat} {code : Code} {K : List (Nat × PV)} {Q : Exit → Act → World → Prop} {us : List PV} {ps : List Prop}
theorem IB {ts:List Nat}(hq:∀a w,a.tmps.size=n->a.defers=[]->nG M ts us a w->Sw M w->Q .ret a w):∀{o:Out} {ps:List Prop},o.retv ts=some (us,ps)->All ps->o.holds M n Q:=by
 intro o
 induction o with
 |ret K'=>
  intro ps h _ a w hF hS
  obtain⟨us',h1,h2⟩:=Option.map_eq_some_iff.1 h
  cases h2
  exact hq a w hF.size hF.defers (qb hF h1) hS
 |ob p o ih=>
  intro ps h hp
  obtain⟨⟨x,qs⟩,h1,h2⟩:=Option.map_eq_some_iff.1 h
  obtain⟨rfl,rfl⟩:=Prod.mk.inj h2
  exact⟨hp.1,ih h1 hp.2⟩
 |nx K'=>intro ps h;cases h
 |out k K'=>intro ps h;cases h
 |go c fs K'=>intro ps h;cases h
theorem K4 {ts:List Nat}(hq:∀a w,a.tmps.size=n->a.defers=[]->nG M ts us a w->Sw M w->Q .normal a w):∀{o:Out} {ps:List Prop},o.nxv ts=some (us,ps)->All ps->o.holds M n Q:=by
 intro o
 induction o with
 |nx K'=>
  intro ps h _ a w hF hS
  obtain⟨us',h1,h2⟩:=Option.map_eq_some_iff.1 h
  cases h2
  exact hq a w hF.size hF.defers (qb hF h1) hS
 |ob p o ih=>
  intro ps h hp
  obtain⟨⟨x,qs⟩,h1,h2⟩:=Option.map_eq_some_iff.1 h
  obtain⟨rfl,rfl⟩:=Prod.mk.inj h2
  exact⟨hp.1,ih h1 hp.2⟩
 |ret K'=>intro ps h;cases h
 |out k K'=>intro ps h;cases h
 |go c fs K'=>intro ps h;cases h
theorem Mq {ts:List Nat}{c:Code}{fs:List Fm}(hq:∀a w,a.tmps.size=n->a.defers=[]->nG M ts us a w->Sw M w->c.wp Tryz.prog (Qof Tryz.prog fs Q) a w):∀{o:Out} {ps:List Prop},o.gov ts=some ((c,fs,us),ps)->All ps->o.holds M n Q:=by
 intro o
 induction o with
 |go c' fs' K'=>
  intro ps h _ a w hF hS
  obtain⟨us',h1,h2⟩:=Option.map_eq_some_iff.1 h
  cases h2
  exact hq a w hF.size hF.defers (qb hF h1) hS
 |ob p o ih=>
  intro ps h hp
  obtain⟨⟨x,qs⟩,h1,h2⟩:=Option.map_eq_some_iff.1 h
  obtain⟨rfl,rfl⟩:=Prod.mk.inj h2
  exact⟨hp.1,ih h1 hp.2⟩
 |ret K'=>intro ps h;cases h
 |out k K'=>intro ps h;cases h
 |nx K'=>intro ps h;cases h
theorem IV {ts:List Nat}{k:Nat}(hq:∀a w,a.tmps.size=n->a.defers=[]->nG M ts us a w->Sw M w->Q (.exit k) a w):∀{o:Out} {ps:List Prop},o.outv ts=some ((k,us),ps)->All ps->o.holds M n Q:=by
 intro o
 induction o with
 |out k' K'=>
  intro ps h _ a w hF hS
  obtain⟨us',h1,h2⟩:=Option.map_eq_some_iff.1 h
  cases h2
  exact hq a w hF.size hF.defers (qb hF h1) hS
 |ob p o ih=>
  intro ps h hp
  obtain⟨⟨x,qs⟩,h1,h2⟩:=Option.map_eq_some_iff.1 h
  obtain⟨rfl,rfl⟩:=Prod.mk.inj h2
  exact⟨hp.1,ih h1 hp.2⟩
 |ret K'=>intro ps h;cases h
 |nx K'=>intro ps h;cases h
 |go c fs K'=>intro ps h;cases h
theorem gL (hO:Ok Tryz.prog M)(ts:List Nat)(h:(ex M n code K).retv ts=some (us,ps))(hp:All ps){a:Act}{w:World}(hF:FrP M n K a w)(hS:Sw M w)(hq:∀a w,a.tmps.size=n->a.defers=[]->nG M ts us a w->Sw M w->Q .ret a w):code.wp Tryz.prog Q a w:=rW hO (IB hq h hp) a w hF hS
theorem LH (hO:Ok Tryz.prog M)(ts:List Nat)(h:(ex M n code K).nxv ts=some (us,ps))(hp:All ps){a:Act}{w:World}(hF:FrP M n K a w)(hS:Sw M w)(hq:∀a w,a.tmps.size=n->a.defers=[]->nG M ts us a w->Sw M w->Q .normal a w):code.wp Tryz.prog Q a w:=rW hO (K4 hq h hp) a w hF hS
theorem ex_out (hO:Ok Tryz.prog M)(ts:List Nat){k:Nat}(h:(ex M n code K).outv ts=some ((k,us),ps))(hp:All ps){a:Act}{w:World}(hF:FrP M n K a w)(hS:Sw M w)(hq:∀a w,a.tmps.size=n->a.defers=[]->nG M ts us a w->Sw M w->Q (.exit k) a w):code.wp Tryz.prog Q a w:=rW hO (IV hq h hp) a w hF hS
theorem Qx (hO:Ok Tryz.prog M)(ts:List Nat){c:Code}{fs:List Fm}(h:(ex M n code K).gov ts=some ((c,fs,us),ps))(hp:All ps){a:Act}{w:World}(hF:FrP M n K a w)(hS:Sw M w)(hq:∀a w,a.tmps.size=n->a.defers=[]->nG M ts us a w->Sw M w->c.wp Tryz.prog (Qof Tryz.prog fs Q) a w):code.wp Tryz.prog Q a w:=rW hO (Mq hq h hp) a w hF hS
end
theorem lI {h:Nat->Option Bool}{lp:Nat}{u:PV}{v:Value}{w:World}:Den {M with hint:=h,loops:=lp} u v w↔Den M u v w:=by
 cases u<;>exact Iff.rfl
theorem yZ {h:Nat->Option Bool}{lp:Nat}{w:World}:∀{us:List PV} {vals:List Value},jH {M with hint:=h,loops:=lp} us vals w->jH M us vals w
 |[],[],_=>trivial
 |[],_::_,hd=>hd
 |_::_,[],hd=>hd
 |_::_,_::_,hd=>⟨lI.1 hd.1,yZ hd.2⟩
theorem Ok.hint {P:Program}{h:Nat->Option Bool}{lp:Nat}(hO:Ok P M):Ok P {M with hint:=h,loops:=lp}:=⟨⟨hO.wf.B,hO.wf.fix⟩,hO.offs,λt k j u hu w hS=>hO.load t k j u hu w ⟨hS.os,hS.tape,hS.output,hS.size,hS.block⟩|>.imp λv hv=>⟨hv.1,lI.2 hv.2⟩,λf us u c b hc hb=>(hO.call f us u c b hc hb).imp_right λh1 vals w hS hd=>(h1 vals w ⟨hS.os,hS.tape,hS.output,hS.size,hS.block⟩ (yZ hd)).mono λe w' ⟨v,e1,e2,e3,e4⟩=>⟨v,e1,lI.2 e2,⟨e3.os,e3.tape,e3.output,e3.size,e3.block⟩,e4⟩,λo ov u hu ρ w hf hS hov=>(hO.oth o ov u hu ρ w hf ⟨hS.os,hS.tape,hS.output,hS.size,hS.block⟩ λx p hx=>lI.1 (hov x p hx)).imp λv hv=>⟨hv.1,lI.2 hv.2⟩⟩
theorem pO {f:Oper->(Operand->Option PV)->Option PV}{u:PV}{v:Value}{w:World}:Den {M with oth:=f} u v w↔Den M u v w:=by
 cases u<;>exact Iff.rfl
theorem Bj {f:Oper->(Operand->Option PV)->Option PV}{w:World}:∀{us:List PV} {vals:List Value},jH {M with oth:=f} us vals w->jH M us vals w
 |[],[],_=>trivial
 |[],_::_,hd=>hd
 |_::_,[],hd=>hd
 |_::_,_::_,hd=>⟨pO.1 hd.1,Bj hd.2⟩
theorem Ok.withOth {P:Program}{f:Oper->(Operand->Option PV)->Option PV}(hO:Ok P M)(hf:∀o ov u,f o ov=some u->∀(ρ:Operand->Value) w,(∀f,ρ (.func f)=.func (.func f) #[] #[])->Sw M w->(∀x p,ov x=some p->Den M p (ρ x) w)->∃v,(execOp ρ o).run P w=.ok (.value v) w/\Den M u v w):Ok P {M with oth:=f}:=⟨⟨hO.wf.B,hO.wf.fix⟩,hO.offs,λt k j u hu w hS=>hO.load t k j u hu w ⟨hS.os,hS.tape,hS.output,hS.size,hS.block⟩|>.imp λv hv=>⟨hv.1,pO.2 hv.2⟩,λf us u c b hc hb=>(hO.call f us u c b hc hb).imp_right λh1 vals w hS hd=>(h1 vals w ⟨hS.os,hS.tape,hS.output,hS.size,hS.block⟩ (Bj hd)).mono λe w' ⟨v,e1,e2,e3,e4⟩=>⟨v,e1,pO.2 e2,⟨e3.os,e3.tape,e3.output,e3.size,e3.block⟩,e4⟩,λo ov u hu ρ w h1 hS hov=>(hf o ov u hu ρ w h1 ⟨hS.os,hS.tape,hS.output,hS.size,hS.block⟩ λx p hx=>pO.1 (hov x p hx)).imp λv hv=>⟨hv.1,pO.2 hv.2⟩⟩
theorem pK {u:PV}{v:Value}{w:World}:Den {M with big:=true} u v w↔Den M u v w:=by
 cases u<;>exact Iff.rfl
theorem Bh {w:World}:∀{us:List PV} {vals:List Value},jH {M with big:=true} us vals w->jH M us vals w
 |[],[],_=>trivial
 |[],_::_,hd=>hd
 |_::_,[],hd=>hd
 |_::_,_::_,hd=>⟨pK.1 hd.1,Bh hd.2⟩
theorem Ok.big {P:Program}(hO:Ok P M):Ok P {M with big:=true}:=⟨⟨hO.wf.B,hO.wf.fix⟩,hO.offs,λt k j u hu w hS=>hO.load t k j u hu w ⟨hS.os,hS.tape,hS.output,hS.size,hS.block⟩|>.imp λv hv=>⟨hv.1,pK.2 hv.2⟩,λf us u c b hc hb=>(hO.call f us u c b hc hb).imp_right λh1 vals w hS hd=>(h1 vals w ⟨hS.os,hS.tape,hS.output,hS.size,hS.block⟩ (Bh hd)).mono λe w' ⟨v,e1,e2,e3,e4⟩=>⟨v,e1,pK.2 e2,⟨e3.os,e3.tape,e3.output,e3.size,e3.block⟩,e4⟩,λo ov u hu ρ w hf hS hov=>(hO.oth o ov u hu ρ w hf ⟨hS.os,hS.tape,hS.output,hS.size,hS.block⟩ λx p hx=>pK.1 (hov x p hx)).imp λv hv=>⟨hv.1,pK.2 hv.2⟩⟩
theorem Sw.hint {w:World}{h:Nat->Option Bool}{lp:Nat}(hS:Sw M w):Sw {M with hint:=h,loops:=lp} w:=⟨hS.os,hS.tape,hS.output,hS.size,hS.block⟩
theorem cu {n:Nat}{a:Act}{w:World}(h1:a.tmps.size=n)(h2:a.defers=[]):FrP M n [] a w:=⟨h1,h2,λ_ _ h=>by cases h⟩
theorem aJ {n:Nat}{K:List (Nat×PV)}{a:Act}{w:World}{t:Nat}{u:PV}{v:Value}(h:FrP M n K a w)(h1:a.tmps[t]? =some v)(h2:Den M u v w):FrP M n ((t,u)::K) a w:=⟨h.size,h.defers,λs x hm=>by
 rcases List.mem_cons.1 hm with h3|h3
 ·cases h3;exact⟨v,h1,h2⟩
 ·exact h.look s x h3⟩
open Go.Proofs.YtnjjeapcalkmaaaGreatDoor.Ev (bE rJ JJ D7)
def Ee (t:TypeId)(f:Nat):Option Nat:=if (t=34/\f<16)\/(t=35/\f<9)\/(t=129/\f<2)\/(t=24/\f<16)\/(t=26/\f<9)\/(t=91/\f<2)\/(t=169/\f<3)\/(t=251/\f<3)then some f
 else if t=37\/t=28 then[0,1,2,3,19][f]? else none
theorem OH {t:TypeId}{f d:Nat}(h:Ee t f=some d)(b j:Nat)(w:World):(Instr.fieldAt t (.pointer (some ⟨b,j,none⟩)) f).run Tryz.prog w=.ok (.pointer (some ⟨b,j+d,none⟩)) w:=by
 unfold Ee at h
 split at h
 ·rename_i h1
  cases h
  rcases h1 with⟨rfl,h2⟩|⟨rfl,h2⟩|⟨rfl,h2⟩|⟨rfl,h2⟩|⟨rfl,h2⟩|⟨rfl,h2⟩|⟨rfl,h2⟩|⟨rfl,h2⟩
  all_goals
   rcases f with _|_|_|_|_|_|_|_|_|_|_|_|_|_|_|_|f
   all_goals first|omega|go_simp
 split at h
 ·rename_i h1
  rcases h1 with rfl|rfl
  all_goals
   rcases f with _|_|_|_|_|f
   all_goals first|(cases h;go_simp)|cases h
 ·cases h
def Em (b k j:Nat):Value->PV
 | .string x=>.s (b,x)
 | .bool x=>.v (.bool x)
 |_=>.r k j
def dm (B:Nat)(W:World)(fix:List Nat)(b:Nat)(rows:List (Option (Nat×Nat)×List Value))(call:FuncId->List PV->Option (PV×Bool×Option Prop)):Mem:=
 {B:=B,W:=W,fix:=fix,blk:=rJ rows,cell:=bE rows,offs:=Ee,call:=call,load:=λt k j=>match rows[k]? with
   |some (some _,l)=>if JJ t=true then(match l[j]? with
    |some v=>some (Em b k j v)
    |none=>none)else(match D7 t with
    |some n=>if j+n<=l.length then some (.a k j n)else none
    |none=>none)
   |_=>none}
theorem ql {B:Nat}{W:World}{fix:List Nat}{b:Nat}{rows:List (Option (Nat×Nat)×List Value)}{call:FuncId->List PV->Option (PV×Bool×Option Prop)}(hB:B<=W.heap.size)(hf:∀g∈fix,g<W.heap.size)
 (h2:∀(k g o:Nat) (l:List Value),rows[k]? =some (some (g,o),l)->(g<B\/g∈fix)/\∀w:World,w.heap[g]? =W.heap[g]?->∀(j:Nat) (v:Value),l[j]? =some v->w.cell? ⟨g,o+j,none⟩=some v)
 (hb:∀(k:Nat) (p:Nat×Nat) (l:List Value),rows[k]? =some (some p,l)->∀x,Value.string x∈l->x.size<=b)
 (h3:∀f us u c q,call f us=some (u,c,q)->(∀p,q=some p->p)->(∀args w,(callFunc f args).run Tryz.prog w=.ok (.enter f args) w)/\∀(vals:List Value) w,Sw (dm B W fix b rows call) w->jH (dm B W fix b rows call) us vals w->Calls Tryz.prog f vals.toArray w λe w'=>∃v,e=.returned v/\Den (dm B W fix b rows call) u v w'/\Sw (dm B W fix b rows call) w'/\(c=false->Below w.heap.size w w')):
 Ok Tryz.prog (dm B W fix b rows call):=by
 refine⟨⟨hB,hf⟩,λt f d h=>OH h,λt k j u h w hS=>?_,h3,λ_ _ _ h=>by cases h⟩
 have h:(match rows[k]? with
  |some (some _,l)=>if JJ t=true then(match l[j]? with
   |some v=>some (Em b k j v)
   |none=>none)else(match D7 t with
   |some n=>if j+n<=l.length then some (.a k j n)else none
   |none=>none)
  |_=>none)=some u:=h
 split at h
 ·rename_i p l hr
  obtain⟨g,o⟩:=p
  have hbk:(rJ rows).getD k (0,0)=(g,o):=by simp[rJ,hr]
  have hptr:(dm B W fix b rows call).ptr k j=.pointer (some ⟨g,o+j,none⟩):=by
   show Value.pointer (some ⟨((rJ rows).getD k (0,0)).1,((rJ rows).getD k (0,0)).2+j,none⟩)=_
   rw[hbk]
  obtain⟨hpr,hc⟩:=h2 k g o l hr
  have hcell:=hc w (hS.block g hpr)
  have hR:∀j (v:Value),l[j]? =some v->bE rows k j=v:=λj v hj=>by
   unfold bE
   simp[hr,hj]
  rw[hptr]
  split at h
  ·rename_i ht
   split at h
   ·rename_i v hv
    cases h
    refine⟨v,Ev.zJ ht _ w _ (hcell j v hv),?_⟩
    unfold Em
    split
    ·rename_i x
     show Value.string x=.string (st (b,x))
     rw[show st (b,x)=x from eX (hb k _ l hr x (List.mem_of_getElem? hv))]
    ·rfl
    ·show v=bE rows k j
     exact(hR j v hv).symm
   ·cases h
  ·split at h
   ·rename_i n hn
    split at h
    ·rename_i hj
     cases h
     refine⟨_,Ev.AL hn g (o+j) w (λi=>bE rows k (j+i)) λi hi=>?_,rfl⟩
     have hlt:j+i<l.length:=by omega
     rw[Nat.add_assoc,hR (j+i) _ (List.getElem?_eq_getElem hlt)]
     exact hcell (j+i) _ (List.getElem?_eq_getElem hlt)
    ·cases h
   ·cases h
 ·cases h
theorem nC {W:World}{g:Nat}{l:List Value}{t:TypeId}(h:W.heap[g]? =some (.cells l.toArray t (0,0))):∀w:World,w.heap[g]? =W.heap[g]?->∀(j:Nat) (v:Value),l[j]? =some v->w.cell? ⟨g,0+j,none⟩=some v:=λw hw j v hv=>by
 rw[Nat.zero_add,cell_of_row _ _ _ _ _ _ (hw.trans h)]
 simpa using hv
def jW (f:FuncId)(args:Array Value)(w:World)(x:ByteArray):Prop:=Calls Tryz.prog f args w λe w'=>e=.returned (.string x)/\Below w.heap.size w w'
end Go.Proofs.YtnjjeapcalkmaaaGreatDoor.Se
namespace Go.Proofs.YtnjjeapcalkmaaaGreatDoor.Ps
open Go
inductive Op where
 |prio (p:Int)
 |part (n:Int)
 |hold
 |res
 |lnk (x:Link)
def opT:Op->List ByteArray
 | .prio p=>[bw (eU p)]
 | .part n=>[bw aN,dM n]
 | .hold=>[bw bP]
 | .res=>[bw ah]
 | .lnk x=>O3 x
def opA (i:Ins):Op->Ins
 | .prio p=>{i with priority:=p}
 | .part n=>{i with partial_:=true,minLot:=n}
 | .hold=>{i with hold:=true}
 | .res=>{i with reserve:=true}
 | .lnk x=>{i with links:=i.links++[x]}
def opS (s:Seen):Op->Seen
 | .prio _=>{s with prio:=true}
 | .part _=>{s with part:=true}
 | .hold=>{s with hold:=true}
 | .res=>{s with res:=true}
 | .lnk _=>s
def opF (s:Seen):Op->Bool
 | .prio _=>!s.prio
 | .part _=>!s.part
 | .hold=>!s.hold
 | .res=>!s.res
 | .lnk _=>true
def Jj:Seen->List Op->Prop
 |_,[]=>True
 |s,o::os=>opF s o=true/\Jj (opS s o) os
def opV (V:Nat->ByteArray->Bool):Op->Prop
 | .prio p=>0<=p/\p<=2
 | .part n=>1<=n/\n<=bL
 | .lnk x=>(x.type=0\/x.type=1)/\V 2 x.ref=true
 |_=>True
theorem BI {E:Env}{D:Int->ByteArray}(hE:fM E D)(l:List Tok):∀(os:List Op) (f:Nat) (s:Seen) (j:Ins) (a:Nat),eB l a (os.flatMap opT)->l.length=a+(os.flatMap opT).length->os.length<f->Jj s os->(∀o∈os,opV E.valid o)->
 options E l f s j a=.ok (os.foldl opA j,l.length)
 |_,0,_,_,_,_,_,hf,_,_=>by omega
 |[],f+1,s,j,a,_,hl,_,_,_=>by
  have hl':l.length=a:=by simpa using hl
  rw[Pd E l f s j a (by omega),hl']
  rfl
 |o::os,f+1,s,j,a,h,hl,hf,hs,hok=>by
  rw[List.flatMap_cons]at h hl
  rw[List.length_append]at hl
  have hv:=hok o List.mem_cons_self
  have h2:=h.right
  have ih:=λ(hl2:l.length=a+(opT o).length+(os.flatMap opT).length)=>BI hE l os f (opS s o) (opA j o) (a+(opT o).length) h2 hl2 (by simpa using hf) hs.2 λy hy=>hok y (List.mem_cons_of_mem _ hy)
  have ih:=ih (by omega)
  have h0:=h.left
  clear h h2 hl hok
  obtain⟨hs,_⟩:=hs
  rw[List.foldl_cons,<-ih]
  clear ih
  cases o with
  |prio p=>
   obtain⟨w1,w2⟩:=qO hv
   have h0:=eB.word h0.head w1
   rw[Mj E l f s j a h0.lt p (by rw[dJ h0];exact w2),if_neg (by simpa[opF]using hs)]
   rfl
  |part n=>
   have h1:=h0.tail.head.of (fU hv.1 hv.2).1
   have h0:=eB.word h0.head (by decide +kernel)
   rw[MS E l f s j a h0.lt (by rw[dJ h0];rfl),if_neg (by simpa[opF]using hs),bind_ok (lm h1 _ (hE.number _ hv.1 hv.2))]
   rfl
  |hold=>
   have h0:=eB.word h0.head (by decide +kernel)
   rw[Kg E l f s j a h0.lt (by rw[dJ h0];rfl),if_neg (by simpa[opF]using hs)]
   rfl
  |res=>
   have h0:=eB.word h0.head (by decide +kernel)
   rw[PL E l f s j a h0.lt (by rw[dJ h0];rfl),if_neg (by simpa[opF]using hs)]
   rfl
  |lnk x=>
   obtain⟨ht,hv⟩:=hv
   obtain⟨hk,_⟩:=hE.refK hv
   obtain⟨ty,rf⟩:=x
   have h1:aa l (a+1) (Lx.aC rf).1 rf:=h0.tail.head
   have h0:=h0.head
   rcases ht with rfl|rfl
   ·have h0:aa l a (Lx.aC (bw eT)).1 (bw eT):=h0
    have h0:=eB.word h0 (by decide +kernel)
    rw[Mx E l f s j a h0.lt (by rw[dJ h0];rfl),bind_ok (Ef h1 hk hv)]
    rfl
   ·have h0:aa l a (Lx.aC (bw bZ)).1 (bw bZ):=h0
    have h0:=eB.word h0 (by decide +kernel)
    rw[Ju E l f s j a h0.lt (by rw[dJ h0];rfl),bind_ok (Ef h1 hk hv)]
    rfl
def Gg (V:Nat->ByteArray->Bool)(i:Ins)(os:List Op):Prop:=Jj {} os/\(∀o∈os,opV V o)/\∀j:Ins,j.priority=0->j.partial_=false->j.minLot=0->j.hold=false->j.reserve=false->j.links=[]->
 os.foldl opA j={j with priority:=i.priority,partial_:=i.partial_,minLot:=i.minLot,hold:=i.hold,reserve:=i.reserve,links:=i.links}
theorem Qm (s:Seen)(os:List Op)(h:Jj s os):∀ls:List Link,Jj s (ls.map .lnk++os)
 |[]=>h
 |x::ls=>⟨rfl,Qm s os h ls⟩
theorem Q3:∀(ls:List Link) (j:Ins),(ls.map Op.lnk).foldl opA j={j with links:=j.links++ls}
 |[],j=>by simp
 |x::ls,j=>by
  rw[List.map_cons,List.foldl_cons,Q3 ls]
  simp[opA]
def oPr (i:Ins):List Op:=if i.priority=0 then[]else[.prio i.priority]
def oPa (i:Ins):List Op:=if i.partial_=true then[.part i.minLot]else[]
def oHo (i:Ins):List Op:=if i.hold=true then[.hold]else[]
def oRe (i:Ins):List Op:=if i.reserve=true then[.res]else[]
def ky (i:Ins):List Op:=oPr i++(oPa i++(i.links.map .lnk++(oRe i++oHo i)))
def lOps (i:Ins):List Op:=.prio i.priority::(oPa i++(oHo i++(oRe i++i.links.map .lnk)))
theorem PS {V:Nat->ByteArray->Bool}{i:Ins}(h:mF V i)(o:Op):(o∈oPr i\/o=.prio i.priority\/o∈oPa i\/o∈oHo i\/o∈oRe i\/o∈i.links.map .lnk)->opV V o:=by
 have hlot:i.partial_=true->1<=i.minLot/\i.minLot<=bL:=λhp=>by
  have h1:=h.lot hp
  have h2:=h.qty (by have:=h.part hp;omega)
  omega
 rintro(h0|h0|h0|h0|h0|h0)
 ·unfold oPr at h0
  split at h0
  ·cases h0
  ·rw[List.mem_singleton]at h0;subst h0;exact h.prio
 ·subst h0;exact h.prio
 ·unfold oPa at h0
  split at h0
  ·rename_i hp;rw[List.mem_singleton]at h0;subst h0;exact hlot hp
  ·cases h0
 ·unfold oHo at h0
  split at h0
  ·rw[List.mem_singleton]at h0;subst h0;trivial
  ·cases h0
 ·unfold oRe at h0
  split at h0
  ·rw[List.mem_singleton]at h0;subst h0;trivial
  ·cases h0
 ·obtain⟨x,hx,rfl⟩:=List.mem_map.1 h0
  exact h.link x hx
theorem Qg {V:Nat->ByteArray->Bool}{i:Ins}(h:mF V i):Gg V i (ky i):=by
 refine⟨?_,λo ho=>PS h o ?_,λj h1 h2 h3 h4 h5 h6=>?_⟩
 ·unfold ky oPr oPa oRe oHo
  split<;>split<;>split<;>split<;>simp only[List.nil_append,List.singleton_append,Jj,opF,opS,Bool.not_false,true_and]
  all_goals (refine Qm _ _ ?_ _;first|trivial|exact⟨rfl,trivial⟩|exact⟨rfl,rfl,trivial⟩)
 ·unfold ky at ho
  simp only[List.mem_append]at ho
  rcases ho with h0|h0|h0|h0|h0<;>simp only[h0,true_or,or_true]
 ·have hl:=h.lot0
  unfold ky
  rw[List.foldl_append,List.foldl_append,List.foldl_append,List.foldl_append,Q3]
  cases i
  cases j
  simp only at h1 h2 h3 h4 h5 h6 hl
  subst h1 h2 h3 h4 h5 h6
  simp only[oPr,oPa,oRe,oHo]
  split<;>split<;>split<;>split<;>simp_all [opA]
def tq (D:Int->ByteArray)(i:Ins)(os:List Op):List ByteArray:=
 if i.kind=3\/i.kind=4 then[bw (if i.kind=3 then fB else dO),i.ref,bw sBy,i.sender,bw sZ,i.asset,bw fI,dM i.quantity,bw dU,D i.settleDay]
 else if i.kind=0 then[bw CB,i.ref,bw qY,i.sender,bw sTo,i.counterparty,bw bH,bQ i.amount,bw dU,D i.settleDay]++os.flatMap opT
 else if i.kind=1 then[bw (if i.side=1 then dh else dz),i.ref,bw qY,fH i,bw sTo,toT i,bw sZ,i.asset,bw fI,dM i.quantity,bw dN,bQ i.amount,bw jR,D i.tradeDay,bw dU,D i.settleDay]++os.flatMap opT
 else[bw (if i.side=1 then dh else dz),i.ref,bw qY,fH i,bw sTo,toT i,bw sZ,i.asset,bw fI,dM i.quantity,bw jN,bw jR,D i.tradeDay,bw dU,D i.settleDay]++os.flatMap opT
def jE (D:Int->ByteArray)(q:Req)(os:List Op):List ByteArray:=
 if q.op=0 then tq D q.ins os
 else if q.op=1 then[bw l5,q.ref,bw sBy,q.sender]++xJ D q.amd
 else[bw (if q.op=2 then eO else if q.op=3 then bP else fC),q.ref,bw sBy,q.sender]
theorem eB.at_ {l:List Tok}{a:Nat}{ts:List ByteArray}(h:eB l a ts)(j:Nat){t:ByteArray}(ht:ts[j]? =some t){n:Int}(hc:Lx.aC t=(n,0)):aa l (a+j) n t:=(h j t ht).of hc
theorem F6:∀os:List Op,os.length<=(os.flatMap opT).length
 |[]=>Nat.le_refl _
 |o::os=>by
  have:=F6 os
  have h2:1<=(opT o).length:=by cases o<;>simp[opT,O3]
  rw[List.flatMap_cons,List.length_append,List.length_cons]
  omega
section
variable {E : Env} {D : Int → ByteArray} {l : List Tok}
theorem wd {a j:Nat}{ts:List ByteArray}{w:Bs}(h:eB l a ts)(ht:ts[j]? =some (bw w))(hw:qM w=true):aa l (a+j) 0 (bw w):=h.at_ j ht (jA hw).1
theorem NZ (hE:fM E D){i:Ins}(hi:mF E.valid i){os:List Op}(ho:Gg E.valid i os)(h:eB l 0 (tq D i os))(hl:l.length=(tq D i os).length):
 line E l 0=.ok ({ref:=i.ref,ins:={i with ref:=⟨#[]⟩} },l.length):=by
 obtain⟨o1,o2,o3⟩:=ho
 have hst:=hi.settle
 have dD:=hE.day _ hst.1 hst.2
 have vD:=hE.date _ hst.1 hst.2
 obtain⟨kr,_⟩:=hE.refK hi.ref
 have uS:=hE.upper 1 _ (by omega) hi.sender
 have hcl:Lx.aC i.ref=((Lx.aC i.ref).1,0):=by
  obtain⟨k,_,hk⟩:=gH i.ref (hE.named 2 _ (by omega) hi.ref).1 (hE.named 2 _ (by omega) hi.ref).2
  rw[hk]
 have hop:∀(j:Ins) (a:Nat),eB l a (os.flatMap opT)->l.length=a+(os.flatMap opT).length->j.priority=0->j.partial_=false->j.minLot=0->j.hold=false->j.reserve=false->j.links=[]->
  options E l (l.length+1) {} j a=.ok ({j with priority:=i.priority,partial_:=i.partial_,minLot:=i.minLot,hold:=i.hold,reserve:=i.reserve,links:=i.links},l.length):=λj a h1 h2 g1 g2 g3 g4 g5 g6=>by
  rw[BI hE l os _ _ j a h1 h2 (by have:=F6 os;omega) o1 o2,o3 j g1 g2 g3 g4 g5 g6]
 by_cases hk:i.kind=3\/i.kind=4
 ·have hA:=hi.asset (by omega)
  have uA:=hE.upper 0 _ (by omega) hA
  obtain⟨q1,q2⟩:=hi.qty (by omega)
  unfold tq at h hl
  rw[if_pos hk]at h hl
  have e3:qM (if i.kind=3 then fB else dO)=true:=by split<;>decide +kernel
  have hrest:rest E l (if i.kind=3 then fB else dO) {ref:=i.ref} 2=.ok ({ref:=i.ref,ins:={i with ref:=⟨#[]⟩} },l.length):=by
   have hc:=xZ (E:=E) (l:=l) (a:=2) i.kind {} (Lv (wd h (j:=2) rfl (by decide +kernel)) rfl (h.at_ 3 rfl uS) hi.sender) (λj=>lN j (wd h (j:=4) rfl (by decide +kernel)) rfl (h.at_ 5 rfl uA) hA (wd h (j:=6) rfl (by decide +kernel)) rfl (h.at_ 7 rfl (fU q1 q2).1) (hE.number _ q1 q2)) (wd h (j:=8) rfl (by decide +kernel)) rfl (h.at_ 9 rfl dD) vD
   have e:(({kind:=i.kind,sender:=i.sender,asset:=i.asset,quantity:=i.quantity,settleDay:=i.settleDay}:Ins))={i with ref:=⟨#[]⟩}:=by
    have g1:=hi.cpN hk
    have g2:=hi.sideN (by omega)
    have g3:=hi.am0 (by omega)
    have g4:=hi.trade0 (by omega)
    have g5:=hi.prio0 hk
    have g6:i.partial_=false:=by
     cases hp:i.partial_ with
     |false=>rfl
     |true=>have:=hi.part hp;omega
    have g7:=hi.lot0 g6
    have g8:=hi.hold hk
    have g9:i.reserve=false:=by
     cases hp:i.reserve with
     |false=>rfl
     |true=>have:=hi.res hp;omega
    have g10:=hi.links0 hk
    cases i
    simp only at g1 g2 g3 g4 g5 g6 g7 g8 g9 g10
    subst g1 g2 g3 g4 g5 g6 g7 g8 g9 g10
    rfl
   rw[show l.length=2+8 from hl]
   rcases hk with hk|hk
   ·rw[if_pos hk]
    unfold rest
    rw[if_neg (by decide),if_neg (by decide),if_neg (by decide),if_pos rfl,<-hk,bind_ok hc,e]
    rfl
   ·rw[if_neg (by omega)]
    unfold rest
    rw[if_neg (by decide),if_neg (by decide),if_neg (by decide),if_neg (by decide),if_pos rfl,<-hk,bind_ok hc,e]
    rfl
  exact mh (wd h (j:=0) rfl e3) (by show(if i.kind=3 then fB else dO)∈verbs;split<;>decide) (h.at_ 1 rfl hcl) kr hi.ref _ hrest
 ·have hC:=hi.cpY hk
  have uC:=hE.upper 1 _ (by omega) hC
  by_cases h0:i.kind=0
  ·obtain⟨a1,a2⟩:=hi.am (.inl h0)
   unfold tq at h hl
   rw[if_neg hk,if_pos h0]at h hl
   have h':=h.left
   rw[List.length_append]at hl
   have hrest:rest E l CB {ref:=i.ref} 2=.ok ({ref:=i.ref,ins:={i with ref:=⟨#[]⟩} },l.length):=by
    have hc:=Ep (E:=E) (l:=l) (a:=2) {} (oQ (wd h' (j:=2) rfl (by decide +kernel)) rfl (h'.at_ 3 rfl uS) hi.sender (wd h' (j:=4) rfl (by decide +kernel)) rfl (h'.at_ 5 rfl uC) hC) (wd h' (j:=6) rfl (by decide +kernel)) rfl (h'.at_ 7 rfl (ik a2).1) (hE.cash _ a1 a2) (wd h' (j:=8) rfl (by decide +kernel)) rfl (h'.at_ 9 rfl dD) vD
    replace hc:=hc.trans (hop _ _ h.right (by rw[hl];rfl) rfl rfl rfl rfl rfl rfl)
    unfold rest
    rw[if_pos rfl,bind_ok hc]
    have g1:=hi.asset0 h0
    have g2:=hi.sideN (by omega)
    have g3:=hi.qty0 h0
    have g4:=hi.trade0 (by omega)
    cases i
    simp only at g1 g2 g3 g4 h0
    subst g1 g2 g3 g4 h0
    rfl
   exact mh (wd h' (j:=0) rfl (by decide +kernel)) (by decide) (h'.at_ 1 rfl hcl) kr hi.ref _ hrest
  ·have hA:=hi.asset h0
   have uA:=hE.upper 0 _ (by omega) hA
   obtain⟨q1,q2⟩:=hi.qty h0
   have Cm:i.kind=1\/i.kind=2:=by have:=hi.kind;omega
   obtain⟨t1,t2⟩:=hi.trade Cm
   have t3:i.tradeDay<=bF:=by omega
   have dT:=hE.day _ t1 t3
   have vT:=hE.date _ t1 t3
   have vf:E.valid 1 (fH i)=true/\E.valid 1 (toT i)=true:=by
    unfold fH toT
    split
    ·exact⟨hC,hi.sender⟩
    ·exact⟨hi.sender,hC⟩
   have uf:=hE.upper 1 _ (by omega) vf.1
   have ut:=hE.upper 1 _ (by omega) vf.2
   have e3:qM (if i.side=1 then dh else dz)=true:=by split<;>decide +kernel
   have fin:∀(x:Ins),trade E l {} 2=.ok (x,l.length)->x.ref=⟨#[]⟩->x.kind=i.kind->x.sender=fH i->x.counterparty=toT i->x.side=0->x.asset=i.asset->x.quantity=i.quantity->x.amount=i.amount->x.tradeDay=i.tradeDay->x.settleDay=i.settleDay->x.priority=i.priority->x.partial_=i.partial_->x.minLot=i.minLot->x.hold=i.hold->x.reserve=i.reserve->x.links=i.links->
    rest E l (if i.side=1 then dh else dz) {ref:=i.ref} 2=.ok ({ref:=i.ref,ins:={i with ref:=⟨#[]⟩} },l.length):=by
    intro x hx x1 x2 x3 x4 x5 x6 x7 x8 x9 x10 x11 x12 x13 x14 x15 x16
    have hsd:=hi.side
    unfold fH at x3
    unfold toT at x4
    by_cases hs:i.side=1
    ·rw[if_pos hs]at x3 x4⊢
     unfold rest
     rw[if_neg (by decide),if_neg (by decide),if_pos rfl,bind_ok hx]
     unfold turn
     cases i
     cases x
     simp only at x1 x2 x3 x4 x5 x6 x7 x8 x9 x10 x11 x12 x13 x14 x15 x16 hs
     subst x1 x2 x3 x4 x5 x6 x7 x8 x9 x10 x11 x12 x13 x14 x15 x16 hs
     rfl
    ·have hs0:i.side=0:=by omega
     rw[if_neg hs]at x3 x4⊢
     unfold rest
     rw[if_neg (by decide),if_pos rfl,bind_ok hx]
     cases i
     cases x
     simp only at x1 x2 x3 x4 x5 x6 x7 x8 x9 x10 x11 x12 x13 x14 x15 x16 hs0
     subst x1 x2 x3 x4 x5 x6 x7 x8 x9 x10 x11 x12 x13 x14 x15 x16 hs0
     rfl
   have hvb:(if i.side=1 then dh else dz)∈verbs:=by split<;>decide
   by_cases h1:i.kind=1
   ·obtain⟨a1,a2⟩:=hi.am (.inr h1)
    unfold tq at h hl
    rw[if_neg hk,if_neg h0,if_pos h1]at h hl
    have h':=h.left
    rw[List.length_append]at hl
    have hc:=DY (E:=E) (l:=l) (a:=2) {} (oQ (wd h' (j:=2) rfl (by decide +kernel)) rfl (h'.at_ 3 rfl uf) vf.1 (wd h' (j:=4) rfl (by decide +kernel)) rfl (h'.at_ 5 rfl ut) vf.2)
     (λj=>lN j (wd h' (j:=6) rfl (by decide +kernel)) rfl (h'.at_ 7 rfl uA) hA (wd h' (j:=8) rfl (by decide +kernel)) rfl (h'.at_ 9 rfl (fU q1 q2).1) (hE.number _ q1 q2))
     (wd h' (j:=10) rfl (by decide +kernel)) rfl (h'.at_ 11 rfl (ik a2).1) (hE.cash _ a1 a2) (wd h' (j:=12) rfl (by decide +kernel)) rfl (h'.at_ 13 rfl dT) vT (wd h' (j:=14) rfl (by decide +kernel)) rfl (h'.at_ 15 rfl dD) vD
    replace hc:=hc.trans (hop _ _ h.right (by rw[hl];rfl) rfl rfl rfl rfl rfl rfl)
    exact mh (wd h' (j:=0) rfl e3) hvb (h'.at_ 1 rfl hcl) kr hi.ref _ (fin _ hc rfl h1.symm rfl rfl rfl rfl rfl rfl rfl rfl rfl rfl rfl rfl rfl rfl)
   ·unfold tq at h hl
    rw[if_neg hk,if_neg h0,if_neg h1]at h hl
    have h':=h.left
    rw[List.length_append]at hl
    have hc:=free_at (E:=E) (l:=l) (a:=2) {} (oQ (wd h' (j:=2) rfl (by decide +kernel)) rfl (h'.at_ 3 rfl uf) vf.1 (wd h' (j:=4) rfl (by decide +kernel)) rfl (h'.at_ 5 rfl ut) vf.2)
     (λj=>lN j (wd h' (j:=6) rfl (by decide +kernel)) rfl (h'.at_ 7 rfl uA) hA (wd h' (j:=8) rfl (by decide +kernel)) rfl (h'.at_ 9 rfl (fU q1 q2).1) (hE.number _ q1 q2))
     (wd h' (j:=10) rfl (by decide +kernel)) rfl (wd h' (j:=11) rfl (by decide +kernel)) rfl (h'.at_ 12 rfl dT) vT (wd h' (j:=13) rfl (by decide +kernel)) rfl (h'.at_ 14 rfl dD) vD
    replace hc:=hc.trans (hop _ _ h.right (by rw[hl];rfl) rfl rfl rfl rfl rfl rfl)
    exact mh (wd h' (j:=0) rfl e3) hvb (h'.at_ 1 rfl hcl) kr hi.ref _ (fin _ hc rfl (by show(2:Int)=i.kind;omega) rfl rfl rfl rfl rfl (hi.am0 (by omega)).symm rfl rfl rfl rfl rfl rfl rfl rfl)
theorem KA (hE:fM E D){q:Req}(hq:y8 E.valid q=0){os:List Op}(ho:q.op=0->Gg E.valid q.ins os)(h:eB l 0 (jE D q os))(hl:l.length=(jE D q os).length):
 ∃q',line E l 0=.ok (q',l.length)/\(if q'.op=0 then{q' with sender:=q'.ins.sender,ins:={q'.ins with ref:=q'.ref} }else q')=q:=by
 obtain⟨vs,vr,hq⟩:=mP _ _ hq
 have uS:=hE.upper 1 _ (by omega) vs
 obtain⟨kr,_⟩:=hE.refK vr
 have hcl:Lx.aC q.ref=((Lx.aC q.ref).1,0):=by
  obtain⟨k,_,hk⟩:=gH q.ref (hE.named 2 _ (by omega) vr).1 (hE.named 2 _ (by omega) vr).2
  rw[hk]
 unfold jE at h hl
 rcases hq with⟨h0,hi,he⟩|⟨h1,hm,he⟩|⟨h2,he⟩
 ·rw[if_pos h0]at h hl
  refine⟨_,NZ hE hi (ho h0) h hl,?_⟩
  rw[if_pos rfl]
  exact he.symm
 ·rw[if_neg (by omega),if_pos h1]at h hl
  have h':=h.left
  rw[List.length_append]at hl
  have hl:l.length=4+(xJ D q.amd).length:=hl
  have hn:1<=(xJ D q.amd).length:=by
   have:=hm.some
   unfold xJ Ig qW tQ oq
   simp only[List.length_append]
   rcases this with hb|hb|hb|hb<;>rw[hb,if_pos rfl]
   ·rw[List.length_cons];omega
   ·rw[List.length_cons];omega
   ·rw[List.length_cons];omega
   ·have:1<=(if q.amd.partial_=true then[bw aN,dM q.amd.minLot]else[bw di]).length:=by split<;>simp
    omega
  have hrest:rest E l l5 {ref:=q.ref} 2=.ok ({op:=1,sender:=q.sender,ref:=q.ref,amd:=q.amd},l.length):=by
   unfold rest
   rw[if_neg (by decide),if_neg (by decide),if_neg (by decide),if_neg (by decide),if_neg (by decide),if_pos rfl,bind_ok (Lv (E:=E) (l:=l) (a:=2) (wd h' (j:=2) rfl (by decide +kernel)) rfl (h'.at_ 3 rfl uS) vs)]
   show(if l.length<=4 then _ else _)=_
   rw[if_neg (by omega),bind_ok (Mc hE l q.amd 4 h.right hl hm)]
   rfl
  refine⟨_,mh (wd h' (j:=0) rfl (by decide +kernel)) (by decide) (h'.at_ 1 rfl hcl) kr vr _ hrest,?_⟩
  rw[if_neg (by show¬(1:Int)=0;decide)]
  exact he.symm
 ·rw[if_neg (by omega),if_neg (by omega)]at h hl
  have hb:=Lv (E:=E) (l:=l) (a:=2) (wd h (j:=2) rfl (by decide +kernel)) rfl (h.at_ 3 rfl uS) vs
  have e3:qM (if q.op=2 then eO else if q.op=3 then bP else fC)=true:=by split<;>(try split)<;>decide +kernel
  have hrest:rest E l (if q.op=2 then eO else if q.op=3 then bP else fC) {ref:=q.ref} 2=.ok ({op:=q.op,sender:=q.sender,ref:=q.ref},l.length):=by
   rw[show l.length=4 from hl]
   rcases h2 with h2|h2|h2
   ·rw[show(if q.op=2 then eO else if q.op=3 then bP else fC)=eO from by rw[h2];rfl,h2]
    unfold rest
    rw[if_neg (by decide),if_neg (by decide),if_neg (by decide),if_neg (by decide),if_neg (by decide),if_neg (by decide),if_pos rfl,bind_ok hb];rfl
   ·rw[show(if q.op=2 then eO else if q.op=3 then bP else fC)=bP from by rw[h2];rfl,h2]
    unfold rest
    rw[if_neg (by decide),if_neg (by decide),if_neg (by decide),if_neg (by decide),if_neg (by decide),if_neg (by decide),if_neg (by decide),if_pos rfl,bind_ok hb];rfl
   ·rw[show(if q.op=2 then eO else if q.op=3 then bP else fC)=fC from by rw[h2];rfl,h2]
    unfold rest
    rw[if_neg (by decide),if_neg (by decide),if_neg (by decide),if_neg (by decide),if_neg (by decide),if_neg (by decide),if_neg (by decide),if_neg (by decide),bind_ok hb];rfl
  refine⟨_,mh (wd h (j:=0) rfl e3) (by show(if q.op=2 then eO else if q.op=3 then bP else fC)∈verbs;split<;>(try split)<;>decide) (h.at_ 1 rfl hcl) kr vr _ hrest,?_⟩
  rw[if_neg (by show¬q.op=0;omega)]
  exact he.symm
end
def ry:List ByteArray->List (Bs×Bs)
 |[]=>[]
 |t::ts=>([],t.data.toList)::ts.map λx=>([32],x.data.toList)
def dA (ts:List ByteArray):ByteArray:=⟨(Lx.dF (ry ts) []).toArray⟩
theorem xu (ts:List ByteArray):(ry ts).map (·.2)=ts.map (·.data.toList):=by
 cases ts with
 |nil=>rfl
 |cons t ts=>simp[ry]
theorem za (ts:List ByteArray):(ry ts).length=ts.length:=by
 have:=congrArg List.length (xu ts)
 simpa using this
theorem Dc (ts:List ByteArray):eB (Lx.jD (ry ts) 0) 0 ts:=λj t hj=>by
 have h1:((ry ts).map (·.2))[j]? =some t.data.toList:=by rw[xu,List.getElem?_map,hj];rfl
 rw[List.getElem?_map]at h1
 obtain⟨⟨g,x⟩,h2,h3⟩:=Option.map_eq_some_iff.1 h1
 have h3:x=t.data.toList:=h3
 subst h3
 rw[Nat.zero_add]
 exact yB _ 0 j g _ h2
theorem Oy {ts:List ByteArray}(h:∀t∈ts,qU t):Lx.oH (ry ts) true:=by
 have one:∀t:ByteArray,qU t->Lx.fT t.data.toList=true/\t.data.toList≠[]/\(Lx.aC ⟨t.data.toList.toArray⟩).2=0/\(t.data.toList.all λc=>c !=35)=true:=λt ht=>⟨ht.1,ht.2.1,ht.2.2,Lx.wT t ht.2.2⟩
 have tl:∀us:List ByteArray,(∀t∈us,qU t)->Lx.oH (us.map λx=>([32],x.data.toList)) false:=by
  intro us
  induction us with
  |nil=>exactλ_=>trivial
  |cons t us ih=>
   intro hu
   obtain⟨h1,h2,h3,h4⟩:=one t (hu t List.mem_cons_self)
   exact⟨λ_=>by simp,by decide,h1,h2,h3,h4,ih λx hx=>hu x (List.mem_cons_of_mem _ hx)⟩
 cases ts with
 |nil=>trivial
 |cons t ts=>
  obtain⟨h1,h2,h3,h4⟩:=one t (h t List.mem_cons_self)
  exact⟨λhb=>(by cases hb),rfl,h1,h2,h3,h4,tl ts λx hx=>h x (List.mem_cons_of_mem _ hx)⟩
def oo:List ByteArray->Nat
 |[]=>0
 |t::ts=>t.size+1+oo ts
theorem sI:∀ts us:List ByteArray,oo (ts++us)=oo ts+oo us
 |[],us=>by simp[oo]
 |t::ts,us=>by
  show t.size+1+oo (ts++us)=t.size+1+oo ts+oo us
  rw[sI ts us]
  omega
theorem yg (ts:List ByteArray):(dA ts).size<=oo ts:=by
 have tl:∀us:List ByteArray,(Lx.dF (us.map λx=>([32],x.data.toList)) []).length=oo us:=by
  intro us
  induction us with
  |nil=>rfl
  |cons t us ih=>
   show([32]++(t.data.toList++Lx.dF _ [])).length=t.size+1+oo us
   rw[List.length_append,List.length_append,ih]
   have:t.data.toList.length=t.size:=rfl
   simp only[List.length_singleton]
   omega
 cases ts with
 |nil=>exact Nat.le_refl _
 |cons t ts=>
  show([]++(t.data.toList++Lx.dF (ts.map λ(x:ByteArray)=>([32],x.data.toList)) [])).length<=t.size+1+oo ts
  rw[List.nil_append,List.length_append,tl]
  have:t.data.toList.length=t.size:=rfl
  omega
theorem Cf {ts:List ByteArray}(h:∀t∈ts,qU t)(hl:oo ts<=1024):Lx.aI (dA ts)=(Lx.jD (ry ts) 0,0,0):=
 Lx.xc _ _ (Oy h) rfl (by have:=yg ts;exact Nat.le_trans this hl)
section
variable {E : Env} {D : Int → ByteArray}
theorem jl {n:Int}(h2:n<=bL):(dM n).size<=16:=by
 unfold bL at h2
 exact gJ 15 n.toNat (by omega)
theorem iX {n:Int}(h2:n<=bL):(bQ n).size<=17:=by
 unfold bL at h2
 exact qF n.toNat (by omega)
theorem uw (p:Int):(bw (eU p)).size<=6:=by
 unfold eU
 split
 ·decide
 ·split<;>decide
def Good (n:Nat)(ts:List ByteArray):Prop:=(∀t∈ts,qU t)/\oo ts<=n
theorem Good.nil:Good 0 []:=⟨λ_ h=>(by cases h),Nat.le_refl _⟩
theorem Good.cons {k n:Nat}{t:ByteArray}{ts:List ByteArray}(ht:qU t)(hs:t.size<=k)(h:Good n ts):Good (k+1+n) (t::ts):=⟨λx hx=>by
 rcases List.mem_cons.1 hx with rfl|hx
 ·exact ht
 ·exact h.1 x hx,by have:=h.2;unfold oo;omega⟩
theorem Good.app {k n:Nat}{ts us:List ByteArray}(h1:Good k ts)(h2:Good n us):Good (k+n) (ts++us):=⟨λx hx=>by
 rcases List.mem_append.1 hx with hx|hx
 ·exact h1.1 x hx
 ·exact h2.1 x hx,by rw[sI];have:=h1.2;have:=h2.2;omega⟩
theorem Good.mono {k n:Nat}{ts:List ByteArray}(h:Good k ts)(hk:k<=n):Good n ts:=⟨h.1,Nat.le_trans h.2 hk⟩
theorem Good.w {n:Nat}{w:Bs}{ts:List ByteArray}(hw:qM w=true)(hs:w.length<=8)(h:Good n ts):Good (9+n) (bw w::ts):=Good.cons (k:=8) (jA hw).2 hs h
theorem Ob (hE:fM E D){o:Op}(h:opV E.valid o):Good 40 (opT o):=by
 cases o with
 |prio p=>exact(Good.cons (jA (qO h).1).2 (uw p) .nil).mono (by decide)
 |part n=>exact(Good.w (by decide +kernel) (by decide) (.cons (fU h.1 h.2).2 (jl h.2) .nil)).mono (by decide)
 |hold=>exact(Good.w (by decide +kernel) (by decide) .nil).mono (by decide)
 |res=>exact(Good.w (by decide +kernel) (by decide) .nil).mono (by decide)
 |lnk x=>
  obtain⟨ht,hv⟩:=h
  have hr:Good 33 [x.ref]:=.cons (hE.refK hv).2 (hE.named 2 _ (by omega) hv).2 .nil
  show Good 40 [bw (if x.type=0 then eT else bZ),x.ref]
  split
  ·exact Good.cons (k:=5) (jA (w:=eT) (by decide +kernel)).2 (by decide) hr|>.mono (by decide)
  ·exact Good.cons (k:=5) (jA (w:=bZ) (by decide +kernel)).2 (by decide) hr|>.mono (by decide)
theorem BG (hE:fM E D):∀(os:List Op),(∀o∈os,opV E.valid o)->Good (40*os.length) (os.flatMap opT)
 |[],_=>.nil
 |o::os,h=>by
  rw[List.flatMap_cons,List.length_cons]
  exact((Ob hE (h o List.mem_cons_self)).app (BG hE os λx hx=>h x (List.mem_cons_of_mem _ hx))).mono (by omega)
theorem LK (hE:fM E D)(hD:∀n:Int,0<=n->n<=bF->(D n).size<=10){i:Ins}(hi:mF E.valid i){os:List Op}(ho:∀o∈os,opV E.valid o)(hn:os.length<=12):Good 1024 (tq D i os):=by
 have hst:=hi.settle
 have gD:=hE.dayG hst.1 hst.2
 have sD:=hD _ hst.1 hst.2
 have gR:=(hE.refK hi.ref).2
 have sR:=(hE.named 2 _ (by omega) hi.ref).2
 have gS:=hE.upG (k:=1) (by omega) hi.sender
 have sS:=(hE.named 1 _ (by omega) hi.sender).2
 have gO:=(BG hE os ho).mono (n:=480) (by omega)
 unfold tq
 split
 ·rename_i hk
  have hA:=hi.asset (by omega)
  have gA:=hE.upG (k:=0) (by omega) hA
  have sA:=(hE.named 0 _ (by omega) hA).2
  obtain⟨q1,q2⟩:=hi.qty (by omega)
  refine Good.mono (Good.w (by split<;>decide +kernel) (by split<;>decide) (.cons gR sR (.w (by decide +kernel) (by decide) (.cons gS sS (.w (by decide +kernel) (by decide) (.cons gA sA (.w (by decide +kernel) (by decide) (.cons (fU q1 q2).2 (jl q2) (.w (by decide +kernel) (by decide) (.cons gD sD .nil)))))))))) (by decide)
 ·rename_i hk
  have hC:=hi.cpY hk
  have gC:=hE.upG (k:=1) (by omega) hC
  have sC:=(hE.named 1 _ (by omega) hC).2
  split
  ·rename_i h0
   obtain⟨a1,a2⟩:=hi.am (.inl h0)
   exact((Good.w (by decide +kernel) (by decide) (.cons gR sR (.w (by decide +kernel) (by decide) (.cons gS sS (.w (by decide +kernel) (by decide) (.cons gC sC (.w (by decide +kernel) (by decide) (.cons (ik a2).2 (iX a2) (.w (by decide +kernel) (by decide) (.cons gD sD .nil)))))))))).app gO).mono (by decide)
  ·rename_i h0
   have hA:=hi.asset h0
   have gA:=hE.upG (k:=0) (by omega) hA
   have sA:=(hE.named 0 _ (by omega) hA).2
   obtain⟨q1,q2⟩:=hi.qty h0
   have Cm:i.kind=1\/i.kind=2:=by have:=hi.kind;omega
   obtain⟨t1,t2⟩:=hi.trade Cm
   have t3:i.tradeDay<=bF:=by omega
   have gT:=hE.dayG t1 t3
   have sT:=hD _ t1 t3
   have vf:qU (fH i)/\(fH i).size<=32/\qU (toT i)/\(toT i).size<=32:=by
    unfold fH toT
    split
    ·exact⟨gC,sC,gS,sS⟩
    ·exact⟨gS,sS,gC,sC⟩
   obtain⟨f1,f2,f3,f4⟩:=vf
   split
   ·rename_i h1
    obtain⟨a1,a2⟩:=hi.am (.inr h1)
    exact((Good.w (by split<;>decide +kernel) (by split<;>decide) (.cons gR sR (.w (by decide +kernel) (by decide) (.cons f1 f2 (.w (by decide +kernel) (by decide) (.cons f3 f4 (.w (by decide +kernel) (by decide) (.cons gA sA (.w (by decide +kernel) (by decide) (.cons (fU q1 q2).2 (jl q2) (.w (by decide +kernel) (by decide) (.cons (ik a2).2 (iX a2) (.w (by decide +kernel) (by decide) (.cons gT sT (.w (by decide +kernel) (by decide) (.cons gD sD .nil)))))))))))))))).app gO).mono (by decide)
   ·exact((Good.w (by split<;>decide +kernel) (by split<;>decide) (.cons gR sR (.w (by decide +kernel) (by decide) (.cons f1 f2 (.w (by decide +kernel) (by decide) (.cons f3 f4 (.w (by decide +kernel) (by decide) (.cons gA sA (.w (by decide +kernel) (by decide) (.cons (fU q1 q2).2 (jl q2) (.w (by decide +kernel) (by decide) (.w (by decide +kernel) (by decide) (.cons gT sT (.w (by decide +kernel) (by decide) (.cons gD sD .nil))))))))))))))).app gO).mono (by decide)
theorem K8 (hE:fM E D)(hD:∀n:Int,0<=n->n<=bF->(D n).size<=10){m:Amd}(hm:nW m):Good 200 (xJ D m):=by
 have g1:Good 30 (Ig m):=by
  unfold Ig
  split
  ·rename_i h
   obtain⟨a1,a2⟩:=hm.am h
   exact(Good.w (by decide +kernel) (by decide) (.cons (ik a2).2 (iX a2) .nil)).mono (by decide)
  ·exact Good.nil.mono (by decide)
 have g2:Good 30 (qW D m):=by
  unfold qW
  split
  ·exact(Good.w (by decide +kernel) (by decide) (.cons (hE.dayG hm.day.1 hm.day.2) (hD _ hm.day.1 hm.day.2) .nil)).mono (by decide)
  ·exact Good.nil.mono (by decide)
 have g3:Good 30 (tQ m):=by
  unfold tQ
  split
  ·exact(Good.cons (jA (qO hm.prio).1).2 (uw _) .nil).mono (by decide)
  ·exact Good.nil.mono (by decide)
 have g4:Good 30 (oq m):=by
  unfold oq
  split
  ·split
   ·rename_i h
    obtain⟨a1,a2⟩:=hm.lot h
    exact(Good.w (by decide +kernel) (by decide) (.cons (fU a1 a2).2 (jl a2) .nil)).mono (by decide)
   ·exact(Good.w (by decide +kernel) (by decide) .nil).mono (by decide)
  ·exact Good.nil.mono (by decide)
 exact(g1.app (g2.app (g3.app g4))).mono (by decide)
theorem KT (hE:fM E D)(hD:∀n:Int,0<=n->n<=bF->(D n).size<=10){q:Req}(hq:y8 E.valid q=0){os:List Op}(ho:q.op=0->(∀o∈os,opV E.valid o)/\os.length<=12):Good 1024 (jE D q os):=by
 obtain⟨vs,vr,hq⟩:=mP _ _ hq
 have gR:=(hE.refK vr).2
 have sR:=(hE.named 2 _ (by omega) vr).2
 have gS:=hE.upG (k:=1) (by omega) vs
 have sS:=(hE.named 1 _ (by omega) vs).2
 unfold jE
 rcases hq with⟨h0,hi,_⟩|⟨h1,hm,_⟩|⟨h2,_⟩
 ·rw[if_pos h0]
  exact LK hE hD hi (ho h0).1 (ho h0).2
 ·rw[if_neg (by omega),if_pos h1]
  exact((Good.w (by decide +kernel) (by decide) (.cons gR sR (.w (by decide +kernel) (by decide) (.cons gS sS .nil)))).app (K8 hE hD hm)).mono (by decide)
 ·rw[if_neg (by omega),if_neg (by omega)]
  exact(Good.w (by split<;>(try split)<;>decide +kernel) (by split<;>(try split)<;>decide) (.cons gR sR (.w (by decide +kernel) (by decide) (.cons gS sS .nil)))).mono (by decide)
theorem ops_le {V:Nat->ByteArray->Bool}{i:Ins}(h:mF V i):(ky i).length<=12/\(lOps i).length<=12:=by
 have hl:=h.links
 have h1:(oPr i).length<=1:=by unfold oPr;split<;>simp
 have h2:(oPa i).length<=1:=by unfold oPa;split<;>simp
 have h3:(oRe i).length<=1:=by unfold oRe;split<;>simp
 have h4:(oHo i).length<=1:=by unfold oHo;split<;>simp
 unfold ky lOps
 simp only[List.length_append,List.length_cons,List.length_map]
 omega
theorem Fj (hE:fM E D)(hD:∀n:Int,0<=n->n<=bF->(D n).size<=10){q:Req}(hq:y8 E.valid q=0){os:List Op}(ho:q.op=0->Gg E.valid q.ins os/\os.length<=12):
 parse E (y8 E.valid) (dA (jE D q os))=(q,0,0)/\(dA (jE D q os)).size<=1024:=by
 have hg:=KT hE hD hq (os:=os) λh=>⟨(ho h).1.2.1,(ho h).2⟩
 obtain⟨q',h1,h2⟩:=KA hE hq (λh=>(ho h).1) (Dc (jE D q os)) (by rw[nQ,za])
 refine⟨?_,Nat.le_trans (yg _) hg.2⟩
 unfold parse
 rw[Cf hg.1 hg.2,if_neg (by simp)]
 simp only[]
 rw[h1]
 simp only[]
 rw[h2,if_neg (by simpa using hq)]
end
end Go.Proofs.YtnjjeapcalkmaaaGreatDoor.Ps
namespace Go.Proofs.YtnjjeapcalkmaaaGreatDoor
open Go Go.RowKit
theorem RH {k:Nat}{s:ByteArray}(h:bG.valid k s=true):ag k s=0:=by
 have h:decide (aP k s=0)=true:=h
 rw[decide_eq_true_eq]at h
 unfold aP at h
 by_cases hf:ag k s=0
 ·exact hf
 ·rw[if_pos hf]at h;exact absurd h hf
theorem Ae (k:Nat)(hk:k<3)(c:Int):∀j,j<(bB k).length->((bB k).map (·.2)).getD j (λ_=>true) c=true->Lx.named c=true:=by
 have key:∀p∈(bB k).map (·.2),p c=true->Lx.named c=true:=by
  intro p hp hc
  have:p=Id.letter\/p=Id.bS\/p=Id.digit\/p=Id.Be:=by
   rcases(show k=0\/k=1\/k=2 by omega)with rfl|rfl|rfl
   ·simp[bB]at hp;rcases hp with h|h|h<;>simp[h]
   ·simp[bB]at hp;rcases hp with h|h<;>simp[h]
   ·simp[bB]at hp;simp[hp]
  rcases this with rfl|rfl|rfl|rfl
  ·simp[Id.letter,Lx.named]at hc⊢;simp[hc]
  ·simp[Id.bS,Lx.named]at hc⊢;rcases hc with hc|hc<;>simp[hc]
  ·simp[Id.digit,Lx.named]at hc⊢;simp[hc]
  ·simp[Id.Be,Id.bS,Lx.named]at hc⊢;rcases hc with(hc|hc)|hc<;>simp[hc]
 intro j hj h
 rw[List.getD_eq_getElem?_getD,List.getElem?_eq_getElem (by rw[List.length_map];exact hj)]at h
 exact key _ (List.getElem_mem _) h
theorem ek {k:Nat}(hk:k<3){s:ByteArray}(h:bG.valid k s=true):Lx.all Lx.named s.data.toList=true/\s.size<=32:=by
 obtain⟨h1,h2,h3⟩:=eP k s (RH h)
 have hlow:1<=(aL k).low:=by
  rcases(show k=0\/k=1\/k=2 by omega)with rfl|rfl|rfl<;>decide
 have hlen:=eH k
 have hs:s.size=s.data.toList.length:=Lib.size_eq s
 refine⟨?_,by omega⟩
 unfold Lx.all
 rw[Bool.and_eq_true,List.all_eq_true]
 refine⟨?_,λc hc=>?_⟩
 ·have:s.data.toList≠[]:=λh0=>by rw[h0]at hs;simp only[List.length_nil]at hs;omega
  simpa using this
 ·obtain⟨j,hj,rfl⟩:=List.getElem_of_mem hc
  have hjs:j<s.size:=by rw[hs];exact hj
  have:=Ae k hk (PlainAid.bt s j) j (by omega) (h3 j hjs)
  rwa [show PlainAid.bt s j=((s.data.toList[j]'hj).toNat:Int)from(PlainAid.get_bt s j hjs).symm]at this
theorem Lg {k:Nat}(hk:k<2){s:ByteArray}(h:bG.valid k s=true):Lx.aC s=(1,0):=by
 obtain⟨h1,h2,h3⟩:=eP k s (RH h)
 obtain⟨n1,n2⟩:=ek (by omega) h
 have hlow:1<=(aL k).low:=by
  rcases(show k=0\/k=1 by omega)with rfl|rfl<;>decide
 have hs:s.size=s.data.toList.length:=Lib.size_eq s
 have h0:0<s.size:=by omega
 have hj:0<s.data.toList.length:=by omega
 refine Ps.vk s n1 n2 (s.data.toList[0]'hj) (by rw[List.head?_eq_getElem?,List.getElem?_eq_getElem hj]) ?_
 have h4:=h3 0 h0
 rw[show PlainAid.bt s 0=((s.data.toList[0]'hj).toNat:Int)from(PlainAid.get_bt s 0 h0).symm]at h4
 rcases(show k=0\/k=1 by omega)with rfl|rfl
 ·exact h4
 ·exact h4
theorem OW {n:Int}(h1:1<=n)(h2:n<=Ps.bL):ni (Ps.dM n)=(n,0):=by
 have hc:=(Ps.fU h1 h2).1
 unfold Ps.bL at h2
 obtain⟨d1,d2,d3,_⟩:=Ps.cz n.toNat
 have hp:=(Ps.pI _ d1 d2).1 (by rw[d3];omega)
 rw[d3]at hp
 unfold ni
 rw[if_pos hc]
 rw[show(Ps.dM n).data.toList=Ps.dec n.toNat from rfl,hp]
 simp only
 unfold AY
 rw[if_neg (by omega)]
 refine Prod.ext ?_ rfl
 show(n.toNat:Int)=n
 omega
theorem Hl {n:Int}(h1:1<=n)(h2:n<=Ps.bL):ow xO (Ps.bQ n)=(n,0):=by
 have hc:=(Ps.ik h2).1
 unfold Ps.bL at h2
 obtain⟨d1,d2⟩:=Ps.Ib n.toNat
 have hp:=(Ps.pI _ d1 (by simp)).1 (by rw[d2];omega)
 rw[d2]at hp
 have hx:Lib.hasPrefix (Ps.bV n.toNat) [45]=false:=by
  unfold Lib.hasPrefix
  rw[Bool.eq_false_iff]
  intro hb
  obtain⟨e1,e2,_⟩:=Ps.cz (n.toNat/100)
  have:(Ps.bV n.toNat).head? =some 45:=by
   rcases hq:Ps.bV n.toNat with _|⟨c,l⟩
   ·rw[hq]at hb;simp at hb
   ·rw[hq]at hb;simp at hb;rw[<-hb];rfl
  unfold Ps.bV at this
  rw[Ps.pJ _ e2]at this
  exact Ps.zQ (by decide) (List.mem_of_mem_head? this)
 unfold ow
 rw[if_pos hc]
 have hA:xO (Ps.bQ n)=(n,0):=by
  unfold xO
  rw[show(Ps.bQ n).data.toList=Ps.bV n.toNat from rfl,Ps.ww,Ps.xn]
  simp only
  rw[hp,hx]
  simp only[Bool.false_eq_true,if_false]
  unfold DU
  rw[if_pos (by omega)]
  refine Prod.ext ?_ rfl
  show(n.toNat:Int)=n
  omega
 rw[hA,if_pos rfl]
 unfold AY
 rw[if_neg (by omega)]
theorem Mr:Ps.fM bG Ps.au where
 named:=λ_ _ hk h=>ek hk h
 upper:=λ_ _ hk h=>Lg hk h
 number:=λ_ h1 h2=>OW h1 h2
 cash:=λ_ h1 h2=>Hl h1 h2
 date:=λn h1 h2=>by
  show jk Ps.fG (Ps.au n)=(n,0)
  unfold jk
  rw[(Ps.iT h1 h2).1]
  rfl
 day:=λ_ h1 h2=>(Ps.iT h1 h2).2.1
 daySolid:=λ_ h1 h2=>⟨(Ps.iT h1 h2).2.2.1,(Ps.iT h1 h2).2.2.2.1⟩
theorem qy (n:Int)(h1:0<=n)(h2:n<=Ps.bF):(Ps.au n).size<=10:=Nat.le_of_eq (Ps.iT h1 h2).2.2.2.2
theorem jP {q:Ps.Req}(hq:psR q=0):Ps.parse bG psR (Ps.dA (Ps.jE Ps.au q (Ps.ky q.ins)))=(q,0,0)/\(Ps.dA (Ps.jE Ps.au q (Ps.ky q.ins))).size<=1024:=
 Ps.Fj Mr qy hq λh0=>by
  obtain⟨_,_,h⟩:=Ps.mP _ _ hq
  rcases h with⟨_,hi,_⟩|⟨h1,_⟩|⟨h1,_⟩
  ·exact⟨Ps.Qg hi,(Ps.ops_le hi).1⟩
  ·omega
  ·omega
open Go Go.RowKit Go.Proofs.YtnjjeapcalkmaaaGreatDoor.Ord
open Go.Proofs.YtnjjeapcalkmaaaGreatDoor.Se
def nvR (rows:List (Option (Nat×Nat)×List Value)):PV->PV
 | .r k j=>.v (Ev.bE rows k j)
 |u=>u
theorem RB {M:Mem}{u:PV}{vals:List Value}{w:World}(h:jH M [u] vals w):∃v,vals=[v]/\Den M u v w:=by
 rcases vals with _|⟨v,_|⟨x,l⟩⟩
 ·exact h.elim
 ·exact⟨v,rfl,h.1⟩
 ·exact h.2.elim
theorem dens2 {M:Mem}{u u2:PV}{vals:List Value}{w:World}(h:jH M [u,u2] vals w):∃v v2,vals=[v,v2]/\Den M u v w/\Den M u2 v2 w:=by
 rcases vals with _|⟨v,l⟩
 ·exact h.elim
 ·obtain⟨v2,rfl,h2⟩:=RB h.2
  exact⟨v,v2,rfl,h.1,h2⟩
theorem dens3 {M:Mem}{u u2 u3:PV}{vals:List Value}{w:World}(h:jH M [u,u2,u3] vals w):∃v v2 v3,vals=[v,v2,v3]/\Den M u v w/\Den M u2 v2 w/\Den M u3 v3 w:=by
 rcases vals with _|⟨v,l⟩
 ·exact h.elim
 ·obtain⟨v2,v3,rfl,h2,h3⟩:=dens2 h.2
  exact⟨v,v2,v3,rfl,h.1,h2,h3⟩
def Bv (p:Int)(b:Bool)(n:Int):ByteArray:=⟨#[32]⟩++Ps.bw (Ps.eU p)++(if b=true then⟨#[32,112,97,114,116,105,97,108,32]⟩++Ps.dM n else⟨#[]⟩)
def C1 (f:FuncId)(q:Int)(n:Nat)(x:ByteArray):Prop:=(∀w,jW f #[.int .i64 q] w x)/\x.size<=n
def C3 (f:FuncId)(p:Int)(b:Bool)(q:Int)(n:Nat)(x:ByteArray):Prop:=(∀w,jW f #[.int .i64 p,.bool b,.int .i64 q] w x)/\x.size<=n
noncomputable def M6 (rows:List (Option (Nat×Nat)×List Value))(f:FuncId)(us:List PV):Option (PV×Bool×Option Prop):=match us.map (nvR rows)with
 |[.v (.int .i64 q)]=>if f=48 then some (.s (20,Ps.dM q),false,some (C1 f q 20 (Ps.dM q)))else if f=45 then some (.s (20,Ps.bQ q),false,some (C1 f q 20 (Ps.bQ q)))
  else if f=46 then some (.s (10,Ps.au q),false,some (C1 f q 10 (Ps.au q)))else none
 |[.v (.int .i64 p),.v (.bool b),.v (.int .i64 q)]=>if f=47 then some (.s (60,Bv p b q),false,some (C3 f p b q 60 (Bv p b q)))else none
 |_=>none
theorem Es:∀args w,(callFunc 48 args).run Tryz.prog w=.ok (.enter 48 args) w:=enters_of Tryz.func48 (by kernel_rfl) rfl
theorem NL:∀args w,(callFunc 45 args).run Tryz.prog w=.ok (.enter 45 args) w:=enters_of Tryz.func45 (by kernel_rfl) rfl
theorem LZ:∀args w,(callFunc 46 args).run Tryz.prog w=.ok (.enter 46 args) w:=enters_of Tryz.func46 (by kernel_rfl) rfl
theorem Ct:∀args w,(callFunc 47 args).run Tryz.prog w=.ok (.enter 47 args) w:=enters_of Tryz.func47 (by kernel_rfl) rfl
theorem yI {M:Mem}(hM:Wf M){f:FuncId}{vals:List Value}{w:World}{n:Nat}{x:ByteArray}(hS:Sw M w)(h:jW f vals.toArray w x)(hn:x.size<=n):Calls Tryz.prog f vals.toArray w λe w'=>∃v,e=.returned v/\Den M (.s (n,x)) v w'/\Sw M w'/\(false=false->Below w.heap.size w w'):=by
 refine h.mono ?_
 rintro e w' ⟨rfl,hb⟩
 refine⟨_,rfl,?_,hS.below hM hb,λ_=>hb⟩
 show Value.string x=.string (st (n,x))
 rw[show st (n,x)=x from eX hn]
theorem zF {B:Nat}{W:World}{fix:List Nat}{b:Nat}{rows:List (Option (Nat×Nat)×List Value)}{call:FuncId->List PV->Option (PV×Bool×Option Prop)}{u:PV}{v x:Value}{w:World}(h:Den (dm B W fix b rows call) u v w)(hu:nvR rows u=.v x):v=x:=by
 cases u with
 |r k j=>cases hu;exact h
 |v y=>cases hu;exact h
 |_=>cases hu
theorem IW {B:Nat}{W:World}{fix:List Nat}{b:Nat}{rows:List (Option (Nat×Nat)×List Value)}{call:FuncId->List PV->Option (PV×Bool×Option Prop)}(hM:Wf (dm B W fix b rows call))(f:FuncId)(us:List PV)(u:PV)(c:Bool)(q:Option Prop)(h:M6 rows f us=some (u,c,q))(hq:∀p,q=some p->p):
 (∀args w,(callFunc f args).run Tryz.prog w=.ok (.enter f args) w)/\∀(vals:List Value) w,Sw (dm B W fix b rows call) w->jH (dm B W fix b rows call) us vals w->Calls Tryz.prog f vals.toArray w λe w'=>∃v,e=.returned v/\Den (dm B W fix b rows call) u v w'/\Sw (dm B W fix b rows call) w'/\(c=false->Below w.heap.size w w'):=by
 unfold M6 at h
 split at h
 ·rename_i n hu
  rcases us with _|⟨u1,_|⟨u2,us⟩⟩
  ·simp at hu
  rotate_left
  ·simp at hu
  have hu1:nvR rows u1=.v (.int .i64 n):=by simpa using hu
  have key:∀(k:Nat) (x:ByteArray),C1 f n k x->∀(vals:List Value) w,Sw (dm B W fix b rows call) w->jH (dm B W fix b rows call) [u1] vals w->Calls Tryz.prog f vals.toArray w λe w'=>∃v,e=.returned v/\Den (dm B W fix b rows call) (.s (k,x)) v w'/\Sw (dm B W fix b rows call) w'/\(false=false->Below w.heap.size w w'):=λk x hc vals w hS hd=>by
   obtain⟨v,rfl,hv⟩:=RB hd
   obtain rfl:=zF hv hu1
   exact yI hM hS (hc.1 w) hc.2
  split at h
  ·rename_i hf;cases h;subst hf;exact⟨Es,key _ _ (hq _ rfl)⟩
  split at h
  ·rename_i hf;cases h;subst hf;exact⟨NL,key _ _ (hq _ rfl)⟩
  split at h
  ·rename_i hf;cases h;subst hf;exact⟨LZ,key _ _ (hq _ rfl)⟩
  ·cases h
 ·rename_i p b2 n hu
  rcases us with _|⟨u1,_|⟨u2,_|⟨u3,_|⟨u4,us⟩⟩⟩⟩
  ·simp at hu
  ·simp at hu
  ·simp at hu
  rotate_left
  ·simp at hu
  obtain⟨hu1,hu2,hu3⟩:nvR rows u1=.v (.int .i64 p)/\nvR rows u2=.v (.bool b2)/\nvR rows u3=.v (.int .i64 n):=by simpa using hu
  split at h
  ·rename_i hf
   cases h
   subst hf
   refine⟨Ct,λvals w hS hd=>?_⟩
   obtain⟨v,v2,v3,rfl,h1,h2,h3⟩:=dens3 hd
   obtain rfl:=zF h1 hu1
   obtain rfl:=zF h2 hu2
   obtain rfl:=zF h3 hu3
   have hc:C3 _ _ _ _ _ _:=hq _ rfl
   exact yI hM hS (hc.1 w) hc.2
  ·cases h
 ·cases h
noncomputable def lnM (W:World)(l:List Value):Mem:=dm W.heap.size W [] 0 [(none,l)] (M6 [(none,l)])
theorem Mf (W:World)(l:List Value):Ok Tryz.prog (lnM W l):=ql (Nat.le_refl _) (λg hg=>by cases hg) (λk g o l' h=>by
 rcases k with _|k
 ·cases h
 ·cases h) (λk p l' h=>by
 rcases k with _|k
 ·cases h
 ·cases h) λf us u c q h hq=>IW ⟨Nat.le_refl _,λg hg=>by cases hg⟩ f us u c q h hq
theorem qZ {M:Mem}{fn:Func}{r:Nat}{x:SB}{us:List PV}{ts:List Nat}{a:Act}{w:World}{R:Ending->World->Prop}(hres:fn.results=#[.tmp r])(hd:a.defers=[])(hv:nG M (r::ts) (.s x::us) a w)(hR:R (.returned (.string (st x))) w):bodyPost Tryz.prog fn R .ret a w:=by
 obtain⟨⟨v,h1,h2⟩,_⟩:=hv.cons
 have h2:v=.string (st x):=h2
 subst h2
 refine bodyPost_ret (results_tmp hres _ _ _) hd ?_
 rw[show a.tmps.getD r undef=.string (st x)from eval_at h1]
 exact hR
theorem dP {M:Mem}{w:World}(hB:M.B=M.W.heap.size)(h:Sw M w):Below M.W.heap.size M.W w:=by
 have:=h.to
 rwa [hB]at this
theorem Da (n:Nat)(h:n<1000000000000000000):(Ps.dM (n:Int)).size<=20:=by
 have:=Ps.gJ 17 n (by omega)
 show(Ps.dec (n:Int).toNat).length<=20
 rw[Int.toNat_natCast]
 omega
theorem nu {P:Program}{c:Code}{tmps:Array Value}{Q:Exit->Act->World->Prop}{w:World}(h:∀a:Act,a.tmps=tmps->a.defers=[]->c.wp P Q a w):c.wp P Q ⟨tmps,[]⟩ w:=h _ rfl rfl
theorem u8_of {n:Nat}(h:n<100):UInt8.ofNat (IntKind.i64.wrap (48+(n:Int))%256).toNat=UInt8.ofNat (48+n):=by
 rw[show IntKind.i64.wrap (48+(n:Int))=((48+n:Nat):Int)from(IntWalk.i64_in _ (by omega)).trans (by omega)]
 congr 1
 omega
theorem KV (n k:Nat)(hk:0<k)(hn:n<1000000000000000000):IntKind.i64.wrap ((n:Int).tdiv (k:Int))=((n/k:Nat):Int):=by
 rw[Int.tdiv_eq_ediv_of_nonneg (by omega),<-Int.natCast_ediv]
 have:=Nat.div_le_self n k
 generalize n/k=d at this⊢
 exact IntWalk.i64_in _ (by omega)
theorem Lu (n k:Nat):(n:Int).tmod (k:Int)=((n%k:Nat):Int):=by
 rw[Int.tmod_eq_emod_of_nonneg (by omega),Int.natCast_emod]
open Go.RowKit
theorem rq (s:ByteArray)(i:Nat):Lx.at_ s.data.toList i=PlainAid.bt s i:=by
 obtain⟨⟨l⟩⟩:=s
 unfold Lx.at_ PlainAid.bt
 rw[List.getD_eq_getElem?_getD]
 by_cases h:i<l.length
 ·rw[List.getElem?_eq_getElem h]
  have h2:i<(⟨⟨l⟩⟩:ByteArray).size:=h
  rw[dif_pos h2]
  rfl
 ·rw[List.getElem?_eq_none (Nat.le_of_not_lt h)]
  have h2:¬i<(⟨⟨l⟩⟩:ByteArray).size:=h
  rw[dif_neg h2]
  rfl
theorem lS (c:Int)(w:World):
 Calls Tryz.prog 189 #[.int .u8 c] w λe w'=>e=.returned (.bool (Lx.digit c))/\w=w':=by
 go_enter Tryz.func189,Tryz.ntmps189
 go_wp2
 all_goals go_ret
 all_goals exact⟨bO (by first|(simp[Lx.digit];done)|(simp[Lx.digit];omega)),rfl⟩
theorem Mt (c:Int)(w:World):
 Calls Tryz.prog 58 #[.int .u8 c] w λe w'=>e=.returned (.bool (Lx.blank c))/\w=w':=by
 go_enter Tryz.func58,Tryz.ntmps58
 go_wp2
 all_goals go_ret
 all_goals exact⟨bO (by first|(simp[Lx.blank];done)|(simp[Lx.blank];omega)),rfl⟩
theorem II (s:ByteArray)(w:World)(_h1:s.size<=1000000)(hs:¬(s.size:Int)=10):
 Calls Tryz.prog 109 #[.string s] w λe w'=>e=.returned (.bool false)/\w=w':=by
 go_enter Tryz.func109,Tryz.ntmps109
 go_wp2_with fail
 go_ret
 exact⟨rfl,rfl⟩
theorem KN (s:ByteArray)(w:World)(hs:(s.size:Int)=10)(hs2:s.size=10)(j:Nat)(hj:j<=10)(hall:Hid (∀i,i<j->Lx.xm i (PlainAid.bt s i)=true))(hbad:Hid (j<10->Lx.xm j (PlainAid.bt s j)=false))(r:Bool)(hr:Hid (r=decide (j=10))):
 Calls Tryz.prog 109 #[.string s] w λe w'=>e=.returned (.bool r)/\w=w':=by
 have hub:=PlainAid.get_bt s
 have hd:=Lib.hid λ(c:Int) (w:World)=>lS c w
 go_enter Tryz.func109,Tryz.ntmps109
 go_wp2_with fail
 go_loopw [3] (λiv wr=>∃i:Nat,iv=.int .i64 i/\i<=j/\wr=w) (λiv _=>2000-(RowKit.intOf iv).toNat)
 case atStart=>exact⟨0,rfl,Nat.zero_le _,rfl⟩
 case round=>
  obtain⟨i,rfl,hi,rfl⟩:=hrel
  by_cases h10:i<10
  ·have h10I:(i:Int)<10:=by omega
   have his:i<s.size:=by omega
   have Ca:(i:Int)<(s.size:Int):=by omega
   have hw1:wrap64 ((i:Int)+1)=((i+1:Nat):Int):=by unfold wrap64;omega
   obtain⟨b,hb⟩:∃b,Lx.xm i (PlainAid.bt s i)=b:=⟨_,rfl⟩
   have hij:b=false->r=false:=λhf=>by
    by_cases hlt:i<j
    ·rw[hall.out i hlt]at hb;rw[<-hb]at hf;cases hf
    ·rw[hr.out];simp;omega
   have hij2:b=true->i<j:=λht=>by
    by_cases hlt:i<j
    ·exact hlt
    ·obtain rfl:i=j:=by omega
     rw[hbad.out h10]at hb;rw[<-hb]at ht;cases ht
   unfold Lx.xm at hb
   obtain⟨c,hc⟩:∃c,PlainAid.bt s i=c:=⟨_,rfl⟩
   rw[hc]at hb
   clear hall hbad hr
   by_cases h4:i=4\/i=7
   ·rw[if_pos h4]at hb
    clear hd
    cases b with
    |true=>
     have hc45:c=45:=by simpa using hb
     have hlt:=hij2 rfl
     clear hij hij2 hb
     rcases h4 with h4|h4
     all_goals
      subst h4
      subst hc45
      go_wp2_with fail
      refine⟨⟨_,rfl,hlt,trivial⟩,by simp[RowKit.intOf]⟩
    |false=>
     have hc45:¬c=45:=by simpa using hb
     have hlt:=hij rfl
     clear hij hij2 hb
     subst hlt
     rcases h4 with h4|h4
     all_goals
      subst h4
      go_wp2_with fail
      go_ret
      exact⟨rfl,rfl⟩
   ·rw[if_neg h4]at hb
    have n4:((i:Int)==4)=false:=by rw[beq_eq_false_iff_ne];omega
    have n7:((i:Int)==7)=false:=by rw[beq_eq_false_iff_ne];omega
    have m1:=hd.out c wr
    rw[hb]at m1
    clear hd h4 hb
    cases b with
    |true=>
     have hlt:=hij2 rfl
     clear hij hij2
     go_wp2_with (go_at_call 189;refine m1.mono ?_;rintro e w1 ⟨rfl,rfl⟩)
     refine⟨⟨i+1,by first|rfl|go_num,hlt,trivial⟩,by simp[RowKit.intOf]<;>omega⟩
    |false=>
     have hlt:=hij rfl
     clear hij hij2
     subst hlt
     go_wp2_with (go_at_call 189;refine m1.mono ?_;rintro e w1 ⟨rfl,rfl⟩)
     go_ret
     exact⟨rfl,rfl⟩
  ·have h10I:¬(i:Int)<10:=by omega
   have hres:r=true:=by rw[hr.out];simp;omega
   subst hres
   clear hall hbad hr
   go_wp2_with fail
   go_ret
   exact⟨rfl,rfl⟩
theorem wI (p:Nat->Bool)(n:Nat):∃j,j<=n/\(∀i,i<j->p i=true)/\(j<n->p j=false):=by
 induction n with
 |zero=>exact⟨0,Nat.le_refl _,λi h=>by omega,λh=>by omega⟩
 |succ n ih=>
  obtain⟨j,h1,h2,h3⟩:=ih
  by_cases h:j<n
  ·exact⟨j,by omega,h2,λ_=>h3 h⟩
  ·obtain rfl:j=n:=by omega
   cases hp:p j with
   |true=>exact⟨j+1,Nat.le_refl _,λi hi=>by
    by_cases hij:i<j
    ·exact h2 i hij
    ·obtain rfl:i=j:=by omega
     exact hp,λh=>by omega⟩
   |false=>exact⟨j,by omega,h2,λ_=>hp⟩
theorem QF (s:ByteArray)(w:World)(h1:s.size<=1000000):
 Calls Tryz.prog 109 #[.string s] w λe w'=>e=.returned (.bool (Lx.gG s.data.toList))/\w=w':=by
 have hl:s.data.toList.length=s.size:=by obtain⟨⟨l⟩⟩:=s;rfl
 by_cases hs:s.size=10
 ·obtain⟨j,h2,h3,h4⟩:=wI (λi=>Lx.xm i (PlainAid.bt s i)) 10
  refine KN s w (by omega) hs j h2 (Lib.hid h3) (Lib.hid h4) _ (Lib.hid ?_)
  unfold Lx.gG
  rw[hl,hs,Bool.eq_iff_iff]
  simp only[decide_true,Bool.true_and,List.all_eq_true,List.mem_range,decide_eq_true_eq,rq]
  constructor
  ·intro h
   by_cases hj:j<10
   ·have:=h4 hj
    rw[h j hj]at this
    cases this
   ·omega
  ·rintro rfl i hi
   exact h3 i hi
 ·have hr:Lx.gG s.data.toList=false:=by
   unfold Lx.gG
   rw[hl]
   simp[hs]
  rw[hr]
  exact II s w h1 (by omega)
theorem FT (s:ByteArray)(w:World)(h1:s.size<=1000000)(j:Nat)(hj:j<=s.size)(hall:Hid (∀i,i<j->Lx.digit (PlainAid.bt s i)=true))(hbad:Hid (j<s.size->Lx.digit (PlainAid.bt s j)=false))(r:Bool)(hr:Hid ((j<s.size->r=false)/\(j=s.size->r=(decide (s.size=1)||(decide (1<s.size)&&!decide (PlainAid.bt s 0=48)))))):
 Calls Tryz.prog 110 #[.string s] w λe w'=>e=.returned (.bool r)/\w=w':=by
 have hub:=PlainAid.get_bt s
 have hd:=Lib.hid λ(c:Int) (w:World)=>lS c w
 go_enter Tryz.func110,Tryz.ntmps110
 go_wp2_with fail
 go_loopw [3] (λiv wr=>∃i:Nat,iv=.int .i64 i/\i<=j/\wr=w) (λiv _=>2000000-(RowKit.intOf iv).toNat)
 case atStart=>exact⟨0,rfl,Nat.zero_le _,rfl⟩
 case round=>
  obtain⟨i,rfl,hi,rfl⟩:=hrel
  by_cases his:i<s.size
  ·have Ca:(i:Int)<(s.size:Int):=by omega
   have hw1:wrap64 ((i:Int)+1)=((i+1:Nat):Int):=by unfold wrap64;omega
   obtain⟨b,hb⟩:∃b,Lx.digit (PlainAid.bt s i)=b:=⟨_,rfl⟩
   have hij:b=false->r=false:=λhf=>by
    by_cases hlt:i<j
    ·rw[hall.out i hlt]at hb;rw[<-hb]at hf;cases hf
    ·exact hr.out.1 (by omega)
   have hij2:b=true->i<j:=λht=>by
    by_cases hlt:i<j
    ·exact hlt
    ·obtain rfl:i=j:=by omega
     rw[hbad.out his]at hb;rw[<-hb]at ht;cases ht
   obtain⟨c,hc⟩:∃c,PlainAid.bt s i=c:=⟨_,rfl⟩
   rw[hc]at hb
   clear hall hbad hr
   cases b with
   |true=>
    have hlt:=hij2 rfl
    clear hij hij2
    have m1:=hd.out c wr
    rw[hb]at m1
    clear hd hb
    go_wp2_with (go_at_call 189;refine m1.mono ?_;rintro e w1 ⟨rfl,rfl⟩)
    refine⟨⟨i+1,by first|rfl|go_num,hlt,trivial⟩,by simp[RowKit.intOf]<;>omega⟩
   |false=>
    have hlt:=hij rfl
    clear hij hij2
    subst hlt
    have m1:=hd.out c wr
    rw[hb]at m1
    clear hd hb
    go_wp2_with (go_at_call 189;refine m1.mono ?_;rintro e w1 ⟨rfl,rfl⟩)
    go_ret
    exact⟨rfl,rfl⟩
  ·have Ca:¬(i:Int)<(s.size:Int):=by omega
   have hre:=hr.out.2 (by omega)
   clear hall hbad hr hd
   by_cases e1:s.size=1
   ·have e2:(s.size:Int)=1:=by omega
    have hrv:r=true:=by rw[hre];simp[e1]
    subst hrv
    clear hre
    go_wp2_with fail
    go_ret
    exact⟨rfl,rfl⟩
   ·have e2:((s.size:Int)==1)=false:=by rw[beq_eq_false_iff_ne];omega
    by_cases e3:1<s.size
    ·have e4:decide (1<(s.size:Int))=true:=by simp;omega
     have e6:0<s.size:=by omega
     have e7:(0:Int)<(s.size:Int):=by omega
     obtain⟨c,hc⟩:∃c,PlainAid.bt s 0=c:=⟨_,rfl⟩
     rw[hc]at hre
     by_cases e5:c=48
     ·have hrv:r=false:=by rw[hre];simp[e1,e5]
      have e8:(c !=48)=false:=by simp[e5]
      subst hrv
      clear hre e5
      go_wp2_with fail
      go_ret
      exact⟨rfl,rfl⟩
     ·have hrv:r=true:=by rw[hre];simp[e3,e5]
      have e8:(c !=48)=true:=by simp[e5]
      subst hrv
      clear hre e5
      go_wp2_with fail
      go_ret
      exact⟨rfl,rfl⟩
    ·have e4:decide (1<(s.size:Int))=false:=by simp;omega
     have hrv:r=false:=by rw[hre];simp[e1,e3]
     subst hrv
     clear hre
     go_wp2_with fail
     go_ret
     exact⟨rfl,rfl⟩
theorem L9 (s:ByteArray)(w:World)(h1:s.size<=1000000)(j:Nat)(hj:j<=s.size)(hall:Hid (∀i,i<j->Lx.named (PlainAid.bt s i)=true))(hbad:Hid (j<s.size->Lx.named (PlainAid.bt s j)=false))(r:Bool)(hr:Hid ((j<s.size->r=false)/\(j=s.size->r=decide (0<s.size)))):
 Calls Tryz.prog 112 #[.string s] w λe w'=>e=.returned (.bool r)/\w=w':=by
 have hub:=PlainAid.get_bt s
 have hd:=Lib.hid λ(c:Int) (w:World)=>lS c w
 go_enter Tryz.func112,Tryz.ntmps112
 go_wp2_with fail
 go_loopw [3] (λiv wr=>∃i:Nat,iv=.int .i64 i/\i<=j/\wr=w) (λiv _=>2000000-(RowKit.intOf iv).toNat)
 case atStart=>exact⟨0,rfl,Nat.zero_le _,rfl⟩
 case round=>
  obtain⟨i,rfl,hi,rfl⟩:=hrel
  by_cases his:i<s.size
  ·have Ca:(i:Int)<(s.size:Int):=by omega
   have hw1:wrap64 ((i:Int)+1)=((i+1:Nat):Int):=by unfold wrap64;omega
   obtain⟨b,hb⟩:∃b,Lx.named (PlainAid.bt s i)=b:=⟨_,rfl⟩
   have hij:b=false->r=false:=λhf=>by
    by_cases hlt:i<j
    ·rw[hall.out i hlt]at hb;rw[<-hb]at hf;cases hf
    ·exact hr.out.1 (by omega)
   have hij2:b=true->i<j:=λht=>by
    by_cases hlt:i<j
    ·exact hlt
    ·obtain rfl:i=j:=by omega
     rw[hbad.out his]at hb;rw[<-hb]at ht;cases ht
   obtain⟨c,hc⟩:∃c,PlainAid.bt s i=c:=⟨_,rfl⟩
   rw[hc]at hb
   clear hall hbad hr
   cases b with
   |true=>
    have hlt:=hij2 rfl
    clear hij hij2
    have hn:Lx.named c=true:=hb
    clear hb
    have m1:=hd.out c wr
    clear hd
    cases hdg:Lx.digit c with
    |true=>
     rw[hdg]at m1
     clear hdg hn
     go_wp2_with (go_at_call 189;refine m1.mono ?_;rintro e w1 ⟨rfl,rfl⟩)
     refine⟨⟨i+1,by first|rfl|go_num,hlt,trivial⟩,by simp[RowKit.intOf]<;>omega⟩
    |false=>
     rw[hdg]at m1
     unfold Lx.named Lx.upper at hn
     rw[hdg]at hn
     clear hdg
     by_cases h45:c=45
     ·have e1:(c !=45)=false:=by simp[h45]
      clear hn h45
      go_wp2_with (go_at_call 189;refine m1.mono ?_;rintro e w1 ⟨rfl,rfl⟩)
      refine⟨⟨i+1,by first|rfl|go_num,hlt,trivial⟩,by simp[RowKit.intOf]<;>omega⟩
     ·have e1:(c !=45)=true:=by simp[h45]
      have e2:decide (c<65)=false:=by simp[h45]at hn;simp;omega
      have e3:decide (90<c)=false:=by simp[h45]at hn;simp;omega
      clear hn h45
      go_wp2_with (go_at_call 189;refine m1.mono ?_;rintro e w1 ⟨rfl,rfl⟩)
      refine⟨⟨i+1,by first|rfl|go_num,hlt,trivial⟩,by simp[RowKit.intOf]<;>omega⟩
   |false=>
    have hlt:=hij rfl
    clear hij hij2
    subst hlt
    have hn:Lx.named c=false:=hb
    clear hb
    have m1:=hd.out c wr
    clear hd
    unfold Lx.named Lx.upper at hn
    simp only[Bool.or_eq_false_iff,Bool.and_eq_false_iff,decide_eq_false_iff_not]at hn
    obtain⟨⟨h65,hdg⟩,h45⟩:=hn
    rw[hdg]at m1
    have e1:(c !=45)=true:=by simp[h45]
    clear hdg h45
    by_cases e2:c<65
    ·have e3:decide (c<65)=true:=by simp[e2]
     clear h65
     go_wp2_with (go_at_call 189;refine m1.mono ?_;rintro e w1 ⟨rfl,rfl⟩)
     go_ret
     exact⟨rfl,rfl⟩
    ·have e3:decide (c<65)=false:=by simp[e2]
     have e4:decide (90<c)=true:=by simp;omega
     clear h65
     go_wp2_with (go_at_call 189;refine m1.mono ?_;rintro e w1 ⟨rfl,rfl⟩)
     go_ret
     exact⟨rfl,rfl⟩
  ·have Ca:¬(i:Int)<(s.size:Int):=by omega
   have hre:=hr.out.2 (by omega)
   clear hall hbad hr hd
   have HRE:=Lib.hid hre
   clear hre
   go_wp2_with fail
   go_ret
   exact⟨by rw[HRE.out];rfl,rfl⟩
theorem Ka (s:ByteArray)(w:World)(h1:s.size<=1000000)(j:Nat)(hj:j<=s.size)(hall:Hid (∀i,i<j->Lx.lower (PlainAid.bt s i)=true))(hbad:Hid (j<s.size->Lx.lower (PlainAid.bt s j)=false))(r:Bool)(hr:Hid ((j<s.size->r=false)/\(j=s.size->r=decide (0<s.size)))):
 Calls Tryz.prog 113 #[.string s] w λe w'=>e=.returned (.bool r)/\w=w':=by
 have hub:=PlainAid.get_bt s
 have hd:=Lib.hid λ(c:Int) (w:World)=>lS c w
 go_enter Tryz.func113,Tryz.ntmps113
 go_wp2_with fail
 go_loopw [3] (λiv wr=>∃i:Nat,iv=.int .i64 i/\i<=j/\wr=w) (λiv _=>2000000-(RowKit.intOf iv).toNat)
 case atStart=>exact⟨0,rfl,Nat.zero_le _,rfl⟩
 case round=>
  obtain⟨i,rfl,hi,rfl⟩:=hrel
  by_cases his:i<s.size
  ·have Ca:(i:Int)<(s.size:Int):=by omega
   have hw1:wrap64 ((i:Int)+1)=((i+1:Nat):Int):=by unfold wrap64;omega
   obtain⟨b,hb⟩:∃b,Lx.lower (PlainAid.bt s i)=b:=⟨_,rfl⟩
   have hij:b=false->r=false:=λhf=>by
    by_cases hlt:i<j
    ·rw[hall.out i hlt]at hb;rw[<-hb]at hf;cases hf
    ·exact hr.out.1 (by omega)
   have hij2:b=true->i<j:=λht=>by
    by_cases hlt:i<j
    ·exact hlt
    ·obtain rfl:i=j:=by omega
     rw[hbad.out his]at hb;rw[<-hb]at ht;cases ht
   obtain⟨c,hc⟩:∃c,PlainAid.bt s i=c:=⟨_,rfl⟩
   rw[hc]at hb
   clear hall hbad hr
   cases b with
   |true=>
    have hlt:=hij2 rfl
    clear hij hij2
    have hn:Lx.lower c=true:=hb
    clear hb hd
    unfold Lx.lower at hn
    have e2:decide (c<97)=false:=by simp at hn;simp;omega
    have e3:decide (122<c)=false:=by simp at hn;simp;omega
    clear hn
    go_wp2_with fail
    refine⟨⟨i+1,by first|rfl|go_num,hlt,trivial⟩,by simp[RowKit.intOf]<;>omega⟩
   |false=>
    have hlt:=hij rfl
    clear hij hij2
    subst hlt
    have hn:Lx.lower c=false:=hb
    clear hb hd
    unfold Lx.lower at hn
    by_cases e2:c<97
    ·have e3:decide (c<97)=true:=by simp[e2]
     clear hn
     go_wp2_with fail
     go_ret
     exact⟨rfl,rfl⟩
    ·have e3:decide (c<97)=false:=by simp[e2]
     have e4:decide (122<c)=true:=by simp at hn;simp;omega
     clear hn
     go_wp2_with fail
     go_ret
     exact⟨rfl,rfl⟩
  ·have Ca:¬(i:Int)<(s.size:Int):=by omega
   have hre:=hr.out.2 (by omega)
   clear hall hbad hr hd
   have HRE:=Lib.hid hre
   clear hre
   go_wp2_with fail
   go_ret
   exact⟨by rw[HRE.out];rfl,rfl⟩
theorem uE (P:Int->Bool)(s:ByteArray):s.data.toList.all (λc=>P (c.toNat:Int))=true↔∀i,i<s.size->P (PlainAid.bt s i)=true:=by
 obtain⟨⟨l⟩⟩:=s
 have hl:(⟨⟨l⟩⟩:ByteArray).size=l.length:=rfl
 rw[List.all_eq_true,hl]
 constructor
 ·intro h i hi
  unfold PlainAid.bt
  rw[dif_pos (by rw[hl];exact hi)]
  exact h l[i] (List.getElem_mem hi)
 ·intro h c hc
  obtain⟨i,hi,rfl⟩:=List.getElem_of_mem hc
  have:=h i hi
  unfold PlainAid.bt at this
  rw[dif_pos (by rw[hl];exact hi)]at this
  exact this
theorem xz (s:ByteArray)(w:World)(h1:s.size<=1000000):
 Calls Tryz.prog 110 #[.string s] w λe w'=>e=.returned (.bool (Lx.whole s.data.toList))/\w=w':=by
 obtain⟨j,h2,h3,h4⟩:=wI (λi=>Lx.digit (PlainAid.bt s i)) s.size
 refine FT s w h1 j h2 (Lib.hid h3) (Lib.hid h4) _ (Lib.hid ⟨λhj=>?_,λhj=>?_⟩)
 ·have hn:¬s.data.toList.all (λc=>Lx.digit (c.toNat:Int))=true:=by
   rw[uE]
   intro h
   have:=h4 hj
   rw[h j hj]at this
   cases this
  unfold Lx.whole Lx.all
  rw[Bool.eq_false_iff]
  intro h
  simp only[Bool.and_eq_true]at h
  exact hn h.1.2
 ·have hy:s.data.toList.all (λc=>Lx.digit (c.toNat:Int))=true:=by
   rw[uE]
   intro i hi
   exact h3 i (by omega)
  have hl:s.data.toList.length=s.size:=by obtain⟨⟨l⟩⟩:=s;rfl
  unfold Lx.whole Lx.all
  rw[hy,Bool.and_true]
  have hb:(s.data.toList.head? ==some 48)=(decide (0<s.size)&&decide (PlainAid.bt s 0=48)):=by
   rw[<-rq]
   unfold Lx.at_
   rw[<-hl]
   cases s.data.toList with
   |nil=>rfl
   |cons c l=>
    rw[Bool.eq_iff_iff]
    simp only[List.head?_cons,beq_iff_eq,Option.some.injEq,List.length_cons,List.getD_cons_zero,Bool.and_eq_true,decide_eq_true_eq]
    constructor
    ·rintro rfl
     exact⟨by omega,rfl⟩
    ·rintro⟨_,h⟩
     apply UInt8.toNat_inj.1
     show c.toNat=48
     omega
  rw[hb,hl]
  have he:s.data.toList.isEmpty=decide (s.size=0):=by
   rw[<-hl]
   cases s.data.toList<;>simp
  rw[he]
  by_cases e0:s.size=0
  ·simp[e0]
  ·by_cases e1:s.size=1
   ·simp[e1]
   ·have e2:0<s.size:=by omega
    have e3:1<s.size:=by omega
    simp[e0,e1,e2,e3]
theorem Gp (P:Int->Bool)(s:ByteArray):∃j,j<=s.size/\(∀i,i<j->P (PlainAid.bt s i)=true)/\(j<s.size->P (PlainAid.bt s j)=false)/\((j<s.size->Lx.all P s.data.toList=false)/\(j=s.size->Lx.all P s.data.toList=decide (0<s.size))):=by
 obtain⟨j,h2,h3,h4⟩:=wI (λi=>P (PlainAid.bt s i)) s.size
 refine⟨j,h2,h3,h4,λhj=>?_,λhj=>?_⟩
 ·have hn:¬s.data.toList.all (λc=>P (c.toNat:Int))=true:=by
   rw[uE]
   intro h
   have:=h4 hj
   rw[h j hj]at this
   cases this
  unfold Lx.all
  rw[Bool.eq_false_iff]
  intro h
  simp only[Bool.and_eq_true]at h
  exact hn h.2
 ·have hy:s.data.toList.all (λc=>P (c.toNat:Int))=true:=by
   rw[uE]
   intro i hi
   exact h3 i (by omega)
  have hl:s.data.toList.length=s.size:=by obtain⟨⟨l⟩⟩:=s;rfl
  unfold Lx.all
  rw[hy,Bool.and_true,<-hl]
  cases s.data.toList<;>simp
theorem QQ (s:ByteArray)(w:World)(h1:s.size<=1000000):
 Calls Tryz.prog 112 #[.string s] w λe w'=>e=.returned (.bool (Lx.all Lx.named s.data.toList))/\w=w':=by
 obtain⟨j,h2,h3,h4,h5⟩:=Gp Lx.named s
 exact L9 s w h1 j h2 (Lib.hid h3) (Lib.hid h4) _ (Lib.hid h5)
theorem Oq (s:ByteArray)(w:World)(h1:s.size<=1000000):
 Calls Tryz.prog 113 #[.string s] w λe w'=>e=.returned (.bool (Lx.all Lx.lower s.data.toList))/\w=w':=by
 obtain⟨j,h2,h3,h4,h5⟩:=Gp Lx.lower s
 exact Ka s w h1 j h2 (Lib.hid h3) (Lib.hid h4) _ (Lib.hid h5)
end Go.Proofs.YtnjjeapcalkmaaaGreatDoor
