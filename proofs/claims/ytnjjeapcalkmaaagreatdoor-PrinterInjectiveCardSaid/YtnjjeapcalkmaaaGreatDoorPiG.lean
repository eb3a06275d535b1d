/-
  Part 7 of a proof; written short by a program out of longer texts of mine.
-/
import Derived.Test.YtnjjeapcalkmaaaGreatDoorPiF
set_option maxRecDepth 100000
set_option maxHeartbeats 4000000
set_option linter.unusedVariables false
set_option linter.unusedSimpArgs false
namespace Go.Proofs.YtnjjeapcalkmaaaGreatDoor
open Go.RowKit
open Go.Proofs.YtnjjeapcalkmaaaGreatDoor.Ord
theorem Ey (w:World)(n lo hi:Int)(b1 b2:Bool)(h1:decide (lo<=n)=b1)(h2:decide (n<=hi)=b2):
 Calls Tryz.prog 79 #[.int .i64 n,.int .i64 lo,.int .i64 hi] w λe w'=>e=.returned (.bool (b1&&b2))/\w=w':=by
 cases b1
 all_goals cases b2
 all_goals simp only[decide_eq_true_eq,decide_eq_false_iff_not]at h1 h2
 all_goals
  go_enter Tryz.func79,Tryz.ntmps79
  go_wp2_with fail
  go_ret
  exact⟨rfl,rfl⟩
theorem zB (w:World)(n lo hi:Int)(b1 b2:Bool)(h1:decide (lo<=n)=b1)(h2:decide (n<=hi)=b2):
 Calls Tryz.prog 142 #[.int .i64 n,.int .i64 lo,.int .i64 hi] w λe w'=>e=.returned (.bool (b1&&b2))/\w=w':=by
 cases b1
 all_goals cases b2
 all_goals simp only[decide_eq_true_eq,decide_eq_false_iff_not]at h1 h2
 all_goals
  go_enter Tryz.func142,Tryz.ntmps142
  go_wp2_with fail
  go_ret
  exact⟨rfl,rfl⟩
def inB (n lo hi:Int):Bool:=decide (lo<=n)&&decide (n<=hi)
theorem Gp (w:World)(n lo hi:Int):Calls Tryz.prog 79 #[.int .i64 n,.int .i64 lo,.int .i64 hi] w λe w'=>e=.returned (.bool (inB n lo hi))/\w=w':=Ey w n lo hi _ _ rfl rfl
theorem rX (w:World)(n lo hi:Int):Calls Tryz.prog 142 #[.int .i64 n,.int .i64 lo,.int .i64 hi] w λe w'=>e=.returned (.bool (inB n lo hi))/\w=w':=zB w n lo hi _ _ rfl rfl
theorem D7 (w:World)(n lo hi:Int):Calls Tryz.prog 79 #[.int .i64 n,.int .i64 lo,.int .i64 hi] w λe w'=>e=.returned (.bool (inB n lo hi))/\Below w.heap.size w w':=(Gp w n lo hi).mono λ_e _w' ⟨h1,h2⟩=>⟨h1,h2▸Below.refl _ _⟩
theorem yU (w:World)(n lo hi:Int):Calls Tryz.prog 142 #[.int .i64 n,.int .i64 lo,.int .i64 hi] w λe w'=>e=.returned (.bool (inB n lo hi))/\Below w.heap.size w w':=(rX w n lo hi).mono λ_e _w' ⟨h1,h2⟩=>⟨h1,h2▸Below.refl _ _⟩
theorem Gn (w:World)(b:Bool)(n:Int):Calls Tryz.prog 136 #[.agg #[.bool b,.int .i64 n]] w λe w'=>e=.returned (.bool b)/\Below w.heap.size w w':=by
 go_enter Tryz.func136,Tryz.ntmps136
 go_wp2_with fail
 go_ret
 exact⟨rfl,(Below.refl _ _).alloc (Nat.le_refl _) _⟩
def dC (rs:List (Bool×Int)):List Value:=rs.flatMap λx=>[.bool x.1,.int .i64 x.2]
def aS:List (Bool×Int)->Int
 |[]=>0
 |x::rs=>if x.1=true then x.2 else aS rs
theorem GD:∀(rs:List (Bool×Int)) (j:Nat) (x:Bool×Int),rs[j]? =some x->(dC rs)[j*2]? =some (.bool x.1)/\(dC rs)[j*2+1]? =some (.int .i64 x.2)
 |[],j,x,h=>by simp at h
 |y::rs,0,x,h=>by
  obtain rfl:y=x:=by simpa using h
  exact⟨rfl,rfl⟩
 |y::rs,j+1,x,h=>by
  have ih:=GD rs j x (by simpa using h)
  rw[show(j+1)*2=j*2+1+1 from by omega]
  exact ih
theorem Ch (W:World)(g cap:Nat)(rs:List (Bool×Int))(t:TypeId)(hrow:W.heap[g]? =some (.cells (dC rs).toArray t (0,0)))(_hc:rs.length<=cap)(hl:rs.length<=1000)(m:Nat)(hm:m<=rs.length)(hlow:Hid (∀j x,j<m->rs[j]? =some x->x.1=false))
 (v:Int) (hv:Hid ((m<rs.length->(∃e,rs[m]? =some (true,e))/\v=(m:Int))/\(m=rs.length->v= -1))):
 Calls Tryz.prog 135 #[.slice (some ⟨g,0,none⟩) rs.length cap,.func (.func 136) #[] #[]] W λe W'=>e=.returned (.int .i64 v)/\Below W.heap.size W W':=by
 have eg:=enters_of Tryz.func136 (by kernel_rfl) rfl
 have HR:=Lib.hid hrow
 clear hrow
 go_enter Tryz.func135,Tryz.ntmps135
 go_wp2_with fail
 go_loopw [5,8] (λ_ iv wr=>∃j:Nat,iv=.int .i64 j/\j<=m/\Hid (Below W.heap.size W wr)) (λ_ iv _=>2000-(RowKit.intOf iv).toNat)
 case atStart=>exact⟨0,rfl,Nat.zero_le _,Lib.hid (Below.refl _ _)⟩
 case round=>
  obtain⟨j,rfl,hj,HB⟩:=hrel
  by_cases hlt:j<rs.length
  ·obtain⟨x,hx⟩:∃x,rs[j]? =some x:=⟨_,List.getElem?_eq_getElem hlt⟩
   obtain⟨b,n⟩:=x
   have hr2:wr.heap[g]? =some (.cells (dC rs).toArray t (0,0)):=(HB.out.block g (Array.getElem?_eq_some_iff.1 HR.out).1).trans HR.out
   have y0:wr.cell? ⟨g,j*2,none⟩=some (.bool b):=by rw[cell_of_row _ _ _ _ _ _ hr2,List.getElem?_toArray];exact(GD rs j _ hx).1
   have y1:wr.cell? ⟨g,j*2+1,none⟩=some (.int .i64 n):=by rw[cell_of_row _ _ _ _ _ _ hr2,List.getElem?_toArray];exact(GD rs j _ hx).2
   have ww:(j:Int)<(rs.length:Int):=by omega
   have m1:=Gn wr b n
   clear hr2
   by_cases hjm:j<m
   ·have hbf:=hlow.out j _ hjm hx
    simp only at hbf
    subst hbf
    have hw1:wrap64 ((j:Int)+1)=((j+1:Nat):Int):=by unfold wrap64;omega
    clear hx hlow hv
    go_wp2_with ((first|go_at_fn 136|go_at_call 136);refine m1.mono ?_;rintro e w1 ⟨rfl,hb⟩;have HB2:=Lib.hid (HB.out.trans (hb.mono HB.out.size));clear hb)
    refine⟨⟨j+1,by first|rfl|go_num,by omega,HB2⟩,by simp[RowKit.intOf]<;>omega⟩
   ·obtain rfl:j=m:=by omega
    obtain⟨⟨e0,he0⟩,hve⟩:=hv.out.1 hlt
    rw[hx]at he0
    cases he0
    subst hve
    clear hx hlow hv
    go_wp2_with ((first|go_at_fn 136|go_at_call 136);refine m1.mono ?_;rintro e w1 ⟨rfl,hb⟩;have HB2:=Lib.hid (HB.out.trans (hb.mono HB.out.size));clear hb)
    go_ret
    exact⟨rfl,HB2.out⟩
  ·have hje:j=rs.length:=by omega
   have hve:=hv.out.2 (by omega)
   subst hve
   have ww:¬(j:Int)<(rs.length:Int):=by omega
   clear hlow hv
   go_wp2_with fail
   go_ret
   exact⟨rfl,HB.out⟩
theorem CQ (W:World)(g cap k m:Nat)(n:Int)(_hm:m<k)(hmI:(m:Int)<(k:Int))(_hc:k<=cap)(_hl:k<=1000)
 (n1:Calls Tryz.prog 135 #[.slice (some ⟨g,0,none⟩) k cap,.func (.func 136) #[] #[]] W λe W'=>e=.returned (.int .i64 m)/\W'.cell? ⟨g,m*2+1,none⟩=some (.int .i64 n)/\Below W.heap.size W W'):
 Calls Tryz.prog 78 #[.slice (some ⟨g,0,none⟩) k cap] W λe W'=>e=.returned (.int .i64 n)/\Below W.heap.size W W':=by
 go_enter Tryz.func78,Tryz.ntmps78
 go_wp2_with fail
 refine n1.mono ?_
 rintro e w ⟨rfl,hc2,hb⟩
 have HB:=Lib.hid hb
 clear n1 hb
 go_wp2_with fail
 go_ret
 exact⟨rfl,HB.out⟩
theorem EN (W:World)(v:Value)
 (n1:Calls Tryz.prog 135 #[v,.func (.func 136) #[] #[]] W λe W'=>e=.returned (.int .i64 (-1))/\Below W.heap.size W W'):
 Calls Tryz.prog 78 #[v] W λe W'=>e=.returned (.int .i64 0)/\Below W.heap.size W W':=by
 go_enter Tryz.func78,Tryz.ntmps78
 go_wp2_with fail
 refine n1.mono ?_
 rintro e w ⟨rfl,hb⟩
 have HB:=Lib.hid hb
 clear n1 hb
 go_wp2_with fail
 go_ret
 exact⟨rfl,HB.out⟩
theorem qC:∀rs:List (Bool×Int),∃m,m<=rs.length/\(∀(j:Nat) (x:Bool×Int),j<m->rs[j]? =some x->x.1=false)/\((m<rs.length/\∃e,rs[m]? =some (true,e)/\aS rs=e)\/(m=rs.length/\aS rs=0))
 |[]=>⟨0,Nat.le_refl _,λj x h=>by omega,.inr ⟨rfl,rfl⟩⟩
 |(b,n)::rs=>by
  cases b with
  |true=>exact⟨0,Nat.zero_le _,λj x h=>by omega,.inl ⟨by simp,n,rfl,rfl⟩⟩
  |false=>
   obtain⟨m,h1,h2,h3⟩:=qC rs
   refine⟨m+1,by simpa using h1,λj x hj hx=>?_,?_⟩
   ·cases j with
    |zero=>simp at hx;rw[<-hx]
    |succ j=>exact h2 j x (by omega) (by simpa using hx)
   ·rcases h3 with⟨h4,e,h5,h6⟩|⟨h4,h5⟩
    ·exact .inl ⟨by simpa using h4,e,by simpa using h5,by simpa[aS]using h6⟩
    ·exact .inr ⟨by simpa using h4,by simpa[aS]using h5⟩
theorem NC (W:World)(g cap:Nat)(rs:List (Bool×Int))(t:TypeId)(hrow:W.heap[g]? =some (.cells (dC rs).toArray t (0,0)))(hc:rs.length<=cap)(hl:rs.length<=1000):
 Calls Tryz.prog 78 #[.slice (some ⟨g,0,none⟩) rs.length cap] W λe W'=>e=.returned (.int .i64 (aS rs))/\Below W.heap.size W W':=by
 obtain⟨m,h1,h2,h3⟩:=qC rs
 rcases h3 with⟨h4,e,h5,h6⟩|⟨h4,h5⟩
 ·rw[h6]
  refine CQ W g cap rs.length m e h4 (by omega) hc hl ((Ch W g cap rs t hrow hc hl m h1 (Lib.hid h2) m (Lib.hid ⟨λ_=>⟨⟨e,h5⟩,rfl⟩,λh=>by omega⟩)).mono ?_)
  rintro x w ⟨rfl,hb⟩
  have hr2:w.heap[g]? =some (.cells (dC rs).toArray t (0,0)):=(hb.block g (Array.getElem?_eq_some_iff.1 hrow).1).trans hrow
  exact⟨rfl,by rw[cell_of_row _ _ _ _ _ _ hr2,List.getElem?_toArray];exact(GD rs m _ h5).2,hb⟩
 ·rw[h5]
  exact EN W _ (Ch W g cap rs t hrow hc hl m h1 (Lib.hid h2) (-1) (Lib.hid ⟨λh=>by omega,λ_=>rfl⟩))
theorem ent57:∀args w,(callFunc 79 args).run Tryz.prog w=.ok (.enter 79 args) w:=enters_of Tryz.func79 (by kernel_rfl) rfl
theorem Bq:∀args w,(callFunc 80 args).run Tryz.prog w=.ok (.enter 80 args) w:=enters_of Tryz.func80 (by kernel_rfl) rfl
theorem ent108:∀args w,(callFunc 141 args).run Tryz.prog w=.ok (.enter 141 args) w:=enters_of Tryz.func141 (by kernel_rfl) rfl
theorem ent101:∀args w,(callFunc 83 args).run Tryz.prog w=.ok (.enter 83 args) w:=enters_of Tryz.func83 (by kernel_rfl) rfl
theorem ent105:∀args w,(callFunc 138 args).run Tryz.prog w=.ok (.enter 138 args) w:=enters_of Tryz.func138 (by kernel_rfl) rfl
theorem ent106:∀args w,(callFunc 139 args).run Tryz.prog w=.ok (.enter 139 args) w:=enters_of Tryz.func139 (by kernel_rfl) rfl
theorem ent107:∀args w,(callFunc 140 args).run Tryz.prog w=.ok (.enter 140 args) w:=enters_of Tryz.func140 (by kernel_rfl) rfl
theorem ent109:∀args w,(callFunc 142 args).run Tryz.prog w=.ok (.enter 142 args) w:=enters_of Tryz.func142 (by kernel_rfl) rfl
theorem ent110:∀args w,(callFunc 143 args).run Tryz.prog w=.ok (.enter 143 args) w:=enters_of Tryz.func143 (by kernel_rfl) rfl
theorem ent111:∀args w,(callFunc 144 args).run Tryz.prog w=.ok (.enter 144 args) w:=enters_of Tryz.func144 (by kernel_rfl) rfl
theorem bd27 (ρ:Operand->Value)(w:World):(Instr.build 35 ((#[]:Array (Nat×Operand)).map λ(i,x)=>(i,ρ x))).run Tryz.prog w=.ok (.agg (aH {}).toArray) w:=by
 go_simp
 rfl
theorem bd25 (ρ:Operand->Value)(w:World):(Instr.build 34 ((#[]:Array (Nat×Operand)).map λ(i,x)=>(i,ρ x))).run Tryz.prog w=.ok (.agg (aB {} (.slice none 0 0)).toArray) w:=by
 go_simp
 rfl
theorem ne27 (A:Ps.Amd)(x y:Operand)(w:World):(do eqGuard .neq 35 x y (.agg (aH A).toArray) (.agg (aH {}).toArray);binOp .neq 35 (.agg (aH A).toArray) (.agg (aH {}).toArray):Sem Value).run Tryz.prog w=.ok (.bool (!decide A.none)) w:=by
 unfold aH
 go_simp
 repeat' split
 all_goals simp_all [Ps.Amd.none]
theorem J7 {dr:Bool}{ops:Array Oper}{id:Nat}{a:Act}{w W0:World}{Q:Exit->Act->World->Prop}(n:Nat)(vs:List Value)(hvl:vs.length=n)(hd:eX ops=true)(hs:Region.noSelect ops=true)(hb:bP ops a.tmps.size=true)(ht:qR ops n=true)(hS:Below W0.heap.size W0 w)
 (hY:∀ρ:Operand->Value,bg ρ (ops.toList.take n) vs->(∀t:Nat,(∀o:Oper,o∈ops.toList->o.dst≠some t)->ρ (.tmp t)=a.eval (.tmp t))->(∀v,ρ (.const v)=v)->(∀f,ρ (.func f)=.func (.func f) #[] #[])->jN Tryz.prog (Below W0.heap.size W0) ρ vs (ops.toList.take n) vs)
 (rs:List (Bool×Int)) (hrs:rs.length<=1000) {x1 x2 x3:Oper} {k d1 d2 d3:Nat} {parts:Array (Nat×Operand)} {ts:Array TypeId} (hsz:ops.size=n+3)
 (h1:ops[n]? =some x1) (h1o:x1.op=.buildSlice 172 k parts) (h1d:x1.dst=some d1) (h1g:x1.guard=none)
 (h2:ops[n+1]? =some x2) (h2o:x2.op=.call {callee:=.value (.func 78),args:=#[.tmp d1],argTypes:=ts}) (QZ:x2.dst=some d2) (h2g:x2.guard=none)
 (h3:ops[n+2]? =some x3) (h3o:x3.op=.assign (.tmp d2)) (QO:x3.dst=some d3) (h3g:x3.guard=none) (hlt:d1<a.tmps.size/\d2<a.tmps.size/\d3<a.tmps.size)
 (t:TypeId) (hbuild:∀ρ:Operand->Value,bg ρ (ops.toList.take n) vs->∀w:World,(Instr.buildSlice 172 k (parts.map λ(i,x)=>(i,ρ x))).run Tryz.prog w=.ok (.slice (some ⟨w.heap.size,0,none⟩) rs.length rs.length) (w.alloc (.cells (dC rs).toArray t)))
 (hend:∀(b:Act) (w':World),Below W0.heap.size W0 w'->b.defers=a.defers->b.tmps.size=a.tmps.size->b.tmps[d3]? =some (.int .i64 (aS rs))->(∀t:Nat,(∀o:Oper,o∈ops.toList->o.dst≠some t)->b.tmps[t]? =a.tmps[t]?)->Q .normal b w'):
 (Code.region id ops dr).wp Tryz.prog Q a w:=by
 suffices key:∀(b:Act) (w1:World),Below W0.heap.size W0 w1->b.defers=a.defers->b.tmps.size=a.tmps.size->bg b.eval (ops.toList.take n) vs->(∀t:Nat,(∀o:Oper,o∈ops.toList->o.dst≠some t)->b.tmps[t]? =a.tmps[t]?)->wpOps Tryz.prog ops Q (List.range' n (ops.size-n)) b w1 by
  cases dr
  ·exact jL (Below W0.heap.size W0) n vs hvl (by omega) hd hs hb hS hY key
  ·exact wK (Below W0.heap.size W0) n vs hvl (by omega) rfl hd hs hb ht hS.drew hY key
 intro b w1 hS1 hbd hbs hD hrest
 rw[show List.range' n (ops.size-n)=[n,n+1,n+2]from by rw[hsz,show n+3-n=3 from by omega];rfl]
 refine qH h1 h1g ?_
 unfold Oper.wp execOp
 rw[h1o]
 simp only[Sem.run_bind,hbuild b.eval hD w1,Result.andThen_ok]
 show wpOps _ ops Q _ (b.put x1.dst _) _
 refine qH h2 h2g ?_
 have hrow:(w1.alloc (.cells (dC rs).toArray t)).heap[w1.heap.size]? =some (.cells (dC rs).toArray t (0,0)):=by unfold World.alloc;simp
 have hS2:Below W0.heap.size W0 (w1.alloc (.cells (dC rs).toArray t)):=hS1.alloc hS1.size _
 obtain⟨w2,hw2⟩:∃w2,w2=w1.alloc (.cells (dC rs).toArray t):=⟨_,rfl⟩
 rw[<-hw2]at hrow hS2⊢
 have hc:=NC w2 w1.heap.size rs.length rs t hrow (Nat.le_refl _) hrs
 have hargs:(#[Operand.tmp d1]:Array Operand).map (b.put x1.dst (.slice (some ⟨w1.heap.size,0,none⟩) rs.length rs.length)).eval=#[.slice (some ⟨w1.heap.size,0,none⟩) rs.length rs.length]:=by
  rw[h1d]
  simp only[List.map_toArray,List.map_cons,List.map_nil]
  rw[eval_put (by omega)]
 have hf:(b.put x1.dst (.slice (some ⟨w1.heap.size,0,none⟩) rs.length rs.length)).eval (Operand.func 78)=.func (.func 78) #[] #[]:=rfl
 unfold Oper.wp
 simp[execOp,h2o,resolve,invoke,hf,hargs,Deferred.ofValue]
 rw[Oper.upon_enter]
 refine hc.mono ?_
 rintro e w3 ⟨rfl,hb3⟩
 refine qH h3 h3g ?_
 unfold Oper.wp execOp
 rw[h3o]
 show wpOps _ ops Q _ (Act.put _ x3.dst _) _
 rw[h1d,QZ,QO,eval_put (by simp[Act.put];omega)]
 refine hend _ _ (hS2.trans (hb3.mono hS2.size)) hbd ?_ ?_ ?_
 ·simp[Act.put,hbs]
 ·simp[Act.put,hbs,hlt.2.2]
 ·intro t ht
  have n1:d1≠t:=λh=>ht x1 (by simpa using Array.mem_of_getElem? h1) (by rw[h1d,h])
  have n2:d2≠t:=λh=>ht x2 (by simpa using Array.mem_of_getElem? h2) (by rw[QZ,h])
  have n3:d3≠t:=λh=>ht x3 (by simpa using Array.mem_of_getElem? h3) (by rw[QO,h])
  rw[<-hrest t ht]
  simp[Act.put,n1,n2,n3]
def jX (w:World)(g:Nat)(ks:List Ps.Link):Prop:=∀(j:Nat) (x:Ps.Link),ks[j]? =some x->w.cell? ⟨g,j*2,none⟩=some (.int .i64 x.type)/\w.cell? ⟨g,j*2+1,none⟩=some (.string x.ref)
theorem jX.below {w w':World}{g:Nat}{ks:List Ps.Link}(h:jX w g ks)(hb:Below w.heap.size w w'):jX w' g ks:=λj x hj=>by
 obtain⟨h1,h2⟩:=h j x hj
 exact⟨(hb.cell (World.block_lt_of_cell? w _ h1)).trans h1,(hb.cell (World.block_lt_of_cell? w _ h2)).trans h2⟩
theorem OD (w:World)(ty:Int)(s r:ByteArray)(h:Nat)(hc:w.cell? ⟨h,1,none⟩=some (.string r)):
 Calls Tryz.prog 145 #[.agg #[.int .i64 ty,.string s],.pointer (some ⟨h,0,none⟩)] w λe w'=>e=.returned (.bool (s.toList==r.toList))/\Below w.heap.size w w':=by
 have hlt:=World.block_lt_of_cell? w _ hc
 have hne:¬h=w.heap.size:=by simp at hlt;omega
 have k1:(w.alloc (.cells #[.int .i64 ty,.string s] 129)).cell? ⟨h,1,none⟩=some (.string r):=((((Below.refl _ _).alloc (Nat.le_refl _) _:Below w.heap.size w _)).cell hlt).trans hc
 go_enter Tryz.func145,Tryz.ntmps145
 go_wp2_with fail
 go_ret
 exact⟨rfl,(Below.refl _ _).alloc (Nat.le_refl _) _⟩
theorem BB (W:World)(g h cap n:Nat)(ks:List Ps.Link)(r:ByteArray)(hrow:jX W g ks)(hn:n<=ks.length)(_hc:n<=cap)(hl:n<=1000)(hr:W.cell? ⟨h,1,none⟩=some (.string r))(m:Nat)(hm:m<=n)(hlow:Hid (∀j x,j<m->ks[j]? =some x->(x.ref.toList==r.toList)=false))
 (v:Int) (hv:Hid ((m<n->(∃x,ks[m]? =some x/\(x.ref.toList==r.toList)=true)/\v=(m:Int))/\(m=n->v= -1))):
 Calls Tryz.prog 206 #[.slice (some ⟨g,0,none⟩) n cap,.func (.func 145) #[] #[.pointer (some ⟨h,0,none⟩)]] W λe W'=>e=.returned (.int .i64 v)/\Below W.heap.size W W':=by
 have eg:=enters_of Tryz.func145 (by kernel_rfl) rfl
 have HR:=Lib.hid hrow
 have HC:=Lib.hid hr
 clear hrow hr
 go_enter Tryz.func206,Tryz.ntmps206
 go_wp2_with fail
 go_loopw [5,8] (λ_ iv wr=>∃j:Nat,iv=.int .i64 j/\j<=m/\Hid (Below W.heap.size W wr)) (λ_ iv _=>2000-(RowKit.intOf iv).toNat)
 case atStart=>exact⟨0,rfl,Nat.zero_le _,Lib.hid (Below.refl _ _)⟩
 case round=>
  obtain⟨j,rfl,hj,HB⟩:=hrel
  by_cases hlt:j<n
  ·obtain⟨x,hx⟩:∃x,ks[j]? =some x:=⟨_,List.getElem?_eq_getElem (by omega)⟩
   obtain⟨y0,y1⟩:=(HR.out.below HB.out) j x hx
   have ww:(j:Int)<(n:Int):=by omega
   have m1:=OD wr x.type x.ref r h ((HB.out.cell (World.block_lt_of_cell? W _ HC.out)).trans HC.out)
   by_cases hjm:j<m
   ·have hbf:=hlow.out j _ hjm hx
    rw[hbf]at m1
    have hw1:wrap64 ((j:Int)+1)=((j+1:Nat):Int):=by unfold wrap64;omega
    clear hx hlow hv hbf
    go_wp2_with ((first|go_at_fn 145|go_at_call 145);refine m1.mono ?_;rintro e w1 ⟨rfl,hb⟩;have HB2:=Lib.hid (HB.out.trans (hb.mono HB.out.size));clear hb)
    refine⟨⟨j+1,by first|rfl|go_num,by omega,HB2⟩,by simp[RowKit.intOf]<;>omega⟩
   ·obtain rfl:j=m:=by omega
    obtain⟨⟨x0,hx0,hbt⟩,hve⟩:=hv.out.1 hlt
    rw[hx]at hx0
    cases hx0
    rw[hbt]at m1
    subst hve
    clear hx hlow hv hbt
    go_wp2_with ((first|go_at_fn 145|go_at_call 145);refine m1.mono ?_;rintro e w1 ⟨rfl,hb⟩;have HB2:=Lib.hid (HB.out.trans (hb.mono HB.out.size));clear hb)
    go_ret
    exact⟨rfl,HB2.out⟩
  ·have hje:j=n:=by omega
   have hve:=hv.out.2 (by omega)
   subst hve
   have ww:¬(j:Int)<(n:Int):=by omega
   clear hlow hv
   go_wp2_with fail
   go_ret
   exact⟨rfl,HB.out⟩
def iH (ks:List Ps.Link)(r:ByteArray):Bool:=ks.any λy=>y.ref.toList==r.toList
theorem pO:∀(ks:List Ps.Link) (r:ByteArray),∃m,m<=ks.length/\(∀(j:Nat) (x:Ps.Link),j<m->ks[j]? =some x->(x.ref.toList==r.toList)=false)/\((m<ks.length/\(∃x,ks[m]? =some x/\(x.ref.toList==r.toList)=true)/\iH ks r=true)\/(m=ks.length/\iH ks r=false))
 |[],r=>⟨0,Nat.le_refl _,λj x h=>by omega,.inr ⟨rfl,rfl⟩⟩
 |y::ks,r=>by
  cases hb:(y.ref.toList==r.toList)with
  |true=>exact⟨0,Nat.zero_le _,λj x h=>by omega,.inl ⟨by simp,⟨y,rfl,hb⟩,by unfold iH;rw[List.any_cons,hb];rfl⟩⟩
  |false=>
   obtain⟨m,h1,h2,h3⟩:=pO ks r
   have he:iH (y::ks) r=iH ks r:=by unfold iH;rw[List.any_cons,hb];rfl
   refine⟨m+1,by simpa using h1,λj x hj hx=>?_,?_⟩
   ·cases j with
    |zero=>simp at hx;rw[<-hx];exact hb
    |succ j=>exact h2 j x (by omega) (by simpa using hx)
   ·rw[he]
    rcases h3 with⟨h4,⟨x,h5,h6⟩,h7⟩|⟨h4,h5⟩
    ·exact .inl ⟨by simpa using h4,⟨x,by simpa using h5,h6⟩,h7⟩
    ·exact .inr ⟨by simpa using h4,h5⟩
theorem pR (W:World)(a b:Value)(v:Int)(c:Bool)(hc:decide (0<=v)=c)
 (n1:Calls Tryz.prog 206 #[a,b] W λe W'=>e=.returned (.int .i64 v)/\Below W.heap.size W W'):
 Calls Tryz.prog 144 #[a,b] W λe W'=>e=.returned (.bool c)/\Below W.heap.size W W':=by
 go_enter Tryz.func144,Tryz.ntmps144
 go_wp2_with fail
 refine n1.mono ?_
 rintro e w ⟨rfl,hb⟩
 have HB:=Lib.hid hb
 clear n1 hb
 go_wp2_with fail
 go_ret
 exact⟨by simp[<-hc],HB.out⟩
theorem Bw (W:World)(g h cap:Nat)(ks:List Ps.Link)(r:ByteArray)(k:Nat)(hrow:jX W g ks)(hk:k<=ks.length)(hc:k<=cap)(hl:k<=1000)(hr:W.cell? ⟨h,1,none⟩=some (.string r)):
 Calls Tryz.prog 144 #[.slice (some ⟨g,0,none⟩) k cap,.func (.func 145) #[] #[.pointer (some ⟨h,0,none⟩)]] W λe W'=>e=.returned (.bool (iH (ks.take k) r))/\Below W.heap.size W W':=by
 obtain⟨m,h1,h2,h3⟩:=pO (ks.take k) r
 have hlen:(ks.take k).length=k:=by rw[List.length_take];omega
 rw[hlen]at h1 h3
 have hlow:∀j x,j<m->ks[j]? =some x->(x.ref.toList==r.toList)=false:=λj x hj hx=>h2 j x hj (by rw[List.getElem?_take,if_pos (by omega)];exact hx)
 rcases h3 with⟨h4,⟨x,h5,h6⟩,h7⟩|⟨h4,h5⟩
 ·rw[h7]
  have h5':ks[m]? =some x:=by rw[List.getElem?_take,if_pos h4]at h5;exact h5
  exact pR W _ _ (m:Int) true (by simp) (BB W g h cap k ks r hrow hk hc hl hr m h1 (Lib.hid hlow) m (Lib.hid ⟨λ_=>⟨⟨x,h5',h6⟩,rfl⟩,λh=>by omega⟩))
 ·rw[h5]
  exact pR W _ _ (-1) false (by decide) (BB W g h cap k ks r hrow hk hc hl hr m h1 (Lib.hid hlow) (-1) (Lib.hid ⟨λh=>by omega,λ_=>rfl⟩))
theorem wM (cl:List (Nat×(Int->Bool)))(hcl:J6 cl)(g cap:Nat)(a:Int)(s:ByteArray)(w:World)(hn:cl.length<=1024)(_ha0:0<=a)(_ha1:a<=64)
 (hc:∀(k:Nat) x,cl[k]? =some x->w.cell? ⟨g,k,none⟩=some (.func (.func x.1) #[] #[])):
 Calls Tryz.prog 204 #[.slice (some ⟨g,0,none⟩) cl.length cap,.int .i64 a,.string s] w λe w'=>(∃t:Int,e=.returned (.tuple #[.int .i64 t,.int .i64 (bR (cl.map (·.2)) a s)]))/\w=w':=by
 have HC:=Lib.hid hc
 have HT:=Lib.hid hcl
 clear hc hcl
 have hb:=PlainAid.get_bt s
 go_enter Tryz.func204,Tryz.ntmps204
 go_wp2_with fail
 go_loop [12] (λi=>∃k:Nat,k<=cl.length/\i=.int .i64 k/\∀j,j<k->rA (cl.map (·.2)) s j=false) (λi=>cl.length-(RowKit.intOf i).toNat)
 case atStart=>exact⟨0,Nat.zero_le _,rfl,λj hj=>by omega⟩
 case round=>
  obtain⟨k,hk,rfl,lq⟩:=hrel
  have HP:=Lib.hid lq
  clear lq
  by_cases hlt:k<cl.length
  ·have hget:cl[k]? =some cl[k]:=List.getElem?_eq_getElem hlt
   have hcell:=HC.out k _ hget
   obtain⟨eg,hp⟩:=HT.out cl[k] (List.getElem_mem hlt)
   have HBAD:Hid (rA (cl.map (·.2)) s k=(decide (k<s.size)&&!(cl[k].2 (PlainAid.bt s k)))):=by
    show _=_
    unfold rA
    rw[List.getD_eq_getElem?_getD,List.getElem?_map,hget]
    rfl
   clear hget
   generalize cl[k]=x at *
   obtain⟨f,p⟩:=x
   simp only at hcell eg hp HBAD
   by_cases hks:k<s.size
   ·have hcall:=λW=>hp (PlainAid.bt s k) W (PlainAid.bt_nonneg s k) (by have:=PlainAid.bt_le s k;omega)
    clear hp
    cases hq:p (PlainAid.bt s k)with
    |true=>
     rw[hq]at hcall HBAD
     clear hq
     go_wp2_with (go_at_fn f;refine(hcall _).mono ?_;rintro e w' ⟨rfl,rfl⟩)
     go_round
     case rel=>
      refine⟨k+1,by omega,by go_num,λj hj=>?_⟩
      by_cases e:j=k
      ·subst e;rw[HBAD.out];simp
      ·exact HP.out j (by omega)
     case measure=>simp[RowKit.intOf];omega
    |false=>
     rw[hq]at hcall HBAD
     clear hq
     go_wp2_with (go_at_fn f;refine(hcall _).mono ?_;rintro e w' ⟨rfl,rfl⟩)
     go_ret2
     have h3:bR (cl.map (·.2)) a s=3:=by
      unfold bR
      rw[if_pos]
      rw[List.any_eq_true]
      exact⟨k,by simpa using hlt,by rw[HBAD.out];simpa using hks⟩
     rw[h3]
     exact⟨⟨_,rfl⟩,rfl⟩
   ·clear hp
    go_wp2_with fail
    go_round
    case rel=>
     refine⟨k+1,by omega,by go_num,λj hj=>?_⟩
     by_cases e:j=k
     ·subst e;rw[HBAD.out];simp[hks]
     ·exact HP.out j (by omega)
    case measure=>simp[RowKit.intOf];omega
  ·obtain rfl:k=cl.length:=by omega
   have HF:Hid (bR (cl.map (·.2)) a s=if (s.size:Int)<a then 4 else if cl.length<s.size then 5 else 0):=by
    show _=_
    unfold bR
    rw[if_neg]
    ·simp
    ·rw[List.any_eq_true]
     rintro⟨j,hj,hj2⟩
     rw[HP.out j (by simpa using hj)]at hj2
     exact absurd hj2 (by simp)
   clear hb
   by_cases h4:(s.size:Int)<a
   ·go_wp2_with fail
    go_ret2
    rw[HF.out,if_pos h4]
    exact⟨⟨_,rfl⟩,rfl⟩
   ·by_cases h5:cl.length<s.size
    ·go_wp2_with fail
     go_ret2
     rw[HF.out,if_neg (by omega),if_pos h5]
     exact⟨⟨_,rfl⟩,rfl⟩
    ·go_wp2_with fail
     go_ret2
     rw[HF.out,if_neg (by omega),if_neg (by omega)]
     exact⟨⟨_,rfl⟩,rfl⟩
theorem mZ (k:Nat)(hk:k<4)(hnil:(aP k).chk=.nilFunc)(s:ByteArray)(w:World)(h:jW w):
 Calls Tryz.prog 137 #[.int .i64 k,.string s] w λe w'=>(∃t:Int,e=.returned (.tuple #[.int .i64 t,.int .i64 (bJ k s)]))/\Below w.heap.size w w':=by
 obtain⟨sb,so,sc,c0,c1,c2,c3,hsp⟩:=h k hk
 rw[hnil]at c3
 obtain⟨hl1,hl2⟩:=mV k
 have hk4:(k:Int)<4:=by omega
 have htot:(bF (aP k).sp).length<=20:=by rw[iC k hk,List.length_map];exact eT k
 have HCL:=Lib.hid (λ(a b:Int) (chk:Value) (W:World) (hW:dB W sb so (aP k).sp)=>jv a b chk sb so sc (aP k).sp W hW (by omega) (by omega) (λx hx=>by have:=hl2 x hx;omega))
 have HPF:=Lib.hid (λ(g cap:Nat) (W:World) (hW:∀(j:Nat) x,(bL k)[j]? =some x->W.cell? ⟨g,j,none⟩=some (.func (.func x.1) #[] #[]))=>
  wM (bL k) (mF k) g cap (aP k).low s W (by have:=eT k;omega) (kw k).1 (by have:=(kw k).2;omega) hW)
 have HSP:Hid (∀o,dB (w.alloc o) sb so (aP k).sp):=Lib.hid λo=>hsp.below ((Below.refl _ w).alloc (Nat.le_refl _) o)
 have HFM:=Lib.hid (λ(W:World) (v:Value) (B:Nat)=>tH (W:=W) (B:=B) (v:=v) hk)
 have Eh:Hid (bJ k s=bR ((bL k).map (·.2)) (aP k).low s):=rfl
 clear hsp hnil hl1 hl2 htot h
 generalize (aP k).low=low at *
 generalize (aP k).body=body at *
 generalize (aP k).sp=sp at *
 go_enter Tryz.func137,Tryz.ntmps137
 go_wp2_with fail
 go_region_held3 (λw'=>w'.cell? ⟨w.heap.size,0,none⟩=some (.int .i64 low)/\w'.cell? ⟨w.heap.size,1,none⟩=some (.slice (some ⟨sb,so,none⟩) sp.length sc)/\w'.cell? ⟨w.heap.size,2,none⟩=some (.int .i64 body)/\w'.cell? ⟨w.heap.size,3,none⟩=some .nilFunc)
  (go_keep)
  (first
   |(go_at_call 205;refine(HCL.out _ _ _ _ ?_).mono ?_;(exact HSP.out _);rintro e w1 ⟨v,rfl,hown,hb1⟩;obtain⟨g,cap,rfl,hg⟩:=HFM.out _ _ _ hown;have k0:=(hb1.cell (p:=⟨w.heap.size,0,none⟩) (by simp)).trans (show _=some (Value.int .i64 low)by simp);have k1:=(hb1.cell (p:=⟨w.heap.size,1,none⟩) (by simp)).trans (show _=some (Value.slice (some ⟨sb,so,none⟩) sp.length sc)by simp);have k2:=(hb1.cell (p:=⟨w.heap.size,2,none⟩) (by simp)).trans (show _=some (Value.int .i64 body)by simp);have k3:=(hb1.cell (p:=⟨w.heap.size,3,none⟩) (by simp)).trans (show _=some Value.nilFunc by simp);have HG:=Lib.hid hg;clear hg)
   |(go_at_call 204;refine(HPF.out _ _ _ ?_).mono ?_;(exact HG.out);rintro e w2 ⟨⟨t,rfl⟩,rfl⟩))
 rw[<-Eh.out]
 obtain⟨fit,HF⟩:∃fit:Int,Hid (bJ k s=fit):=⟨_,Lib.hid rfl⟩
 rw[HF.out]
 have ik:Below w.heap.size w w1:=Below.trans (((Below.refl w.heap.size w).alloc (Nat.le_refl _) _).drew) (hb1.mono (B':=w.heap.size) (by simp))
 clear hb1
 by_cases hfit:fit=0
 ·subst hfit
  go_wp2_with fail
  go_quiet (fail)
  go_wp2_with fail
  go_ret2
  exact⟨⟨_,by rw[HF.out];rfl⟩,by first|assumption|exact below_drewN' (by assumption) _⟩
 ·have hbf:(fit !=0)=true:=by simpa using hfit
  clear hfit
  go_wp2_with fail
  go_ret2
  exact⟨⟨_,by rw[HF.out];rfl⟩,ik⟩
theorem wP (k:Nat)(hk:k<4)(cf bn:Nat)(sZ:(aP k).chk=.func (.func cf) #[] #[])(hbn:(aP k).body=(bn:Int))(_hbn2:bn<=64)(s:ByteArray)(w:World)(h:jW w)(R:ByteArray)(code:Int)(hcode:Hid (code=if bJ k s≠0 then bJ k s else if (R.toList==(s.extract bn s.size).toList)=true then 0 else 18))
 (ec:∀args w,(callFunc cf args).run Tryz.prog w=.ok (.enter cf args) w)
 (hck:bJ k s=0->bn<=s.size/\∀W,Calls Tryz.prog cf #[.string (s.extract 0 bn)] W λe w'=>e=.returned (.string R)/\Below W.heap.size W w'):
 Calls Tryz.prog 137 #[.int .i64 k,.string s] w λe w'=>(∃t:Int,e=.returned (.tuple #[.int .i64 t,.int .i64 code]))/\Below w.heap.size w w':=by
 obtain⟨sb,so,sc,c0,c1,c2,c3,hsp⟩:=h k hk
 rw[sZ]at c3
 rw[hbn]at c2
 obtain⟨hl1,hl2⟩:=mV k
 have hk4:(k:Int)<4:=by omega
 have htot:(bF (aP k).sp).length<=20:=by rw[iC k hk,List.length_map];exact eT k
 have HCL:=Lib.hid (λ(a b:Int) (chk:Value) (W:World) (hW:dB W sb so (aP k).sp)=>jv a b chk sb so sc (aP k).sp W hW (by omega) (by omega) (λx hx=>by have:=hl2 x hx;omega))
 have HPF:=Lib.hid (λ(g cap:Nat) (W:World) (hW:∀(j:Nat) x,(bL k)[j]? =some x->W.cell? ⟨g,j,none⟩=some (.func (.func x.1) #[] #[]))=>
  wM (bL k) (mF k) g cap (aP k).low s W (by have:=eT k;omega) (kw k).1 (by have:=(kw k).2;omega) hW)
 have HSP:Hid (∀o,dB (w.alloc o) sb so (aP k).sp):=Lib.hid λo=>hsp.below ((Below.refl _ w).alloc (Nat.le_refl _) o)
 have HFM:=Lib.hid (λ(W:World) (v:Value) (B:Nat)=>tH (W:=W) (B:=B) (v:=v) hk)
 have Eh:Hid (bJ k s=bR ((bL k).map (·.2)) (aP k).low s):=rfl
 have HCK:=Lib.hid hck
 clear hsp sZ hl1 hl2 htot h hck
 generalize (aP k).low=low at *
 generalize (aP k).body=body at *
 generalize (aP k).sp=sp at *
 subst hbn
 go_enter Tryz.func137,Tryz.ntmps137
 go_wp2_with fail
 go_region_held3 (λw'=>w'.cell? ⟨w.heap.size,0,none⟩=some (.int .i64 low)/\w'.cell? ⟨w.heap.size,1,none⟩=some (.slice (some ⟨sb,so,none⟩) sp.length sc)/\w'.cell? ⟨w.heap.size,2,none⟩=some (.int .i64 bn)/\w'.cell? ⟨w.heap.size,3,none⟩=some (.func (.func cf) #[] #[]))
  (go_keep)
  (first
   |(go_at_call 205;refine(HCL.out _ _ _ _ ?_).mono ?_;(exact HSP.out _);rintro e w1 ⟨v,rfl,hown,hb1⟩;obtain⟨g,cap,rfl,hg⟩:=HFM.out _ _ _ hown;have k0:=(hb1.cell (p:=⟨w.heap.size,0,none⟩) (by simp)).trans (show _=some (Value.int .i64 low)by simp);have k1:=(hb1.cell (p:=⟨w.heap.size,1,none⟩) (by simp)).trans (show _=some (Value.slice (some ⟨sb,so,none⟩) sp.length sc)by simp);have k2:=(hb1.cell (p:=⟨w.heap.size,2,none⟩) (by simp)).trans (show _=some (Value.int .i64 bn)by simp);have k3:=(hb1.cell (p:=⟨w.heap.size,3,none⟩) (by simp)).trans (show _=some (Value.func (.func cf) #[] #[])by simp);have HG:=Lib.hid hg;clear hg)
   |(go_at_call 204;refine(HPF.out _ _ _ ?_).mono ?_;(exact HG.out);rintro e w2 ⟨⟨t,rfl⟩,rfl⟩))
 rw[<-Eh.out]
 obtain⟨fit,HF⟩:∃fit:Int,Hid (bJ k s=fit):=⟨_,Lib.hid rfl⟩
 rw[HF.out]
 have ik:Below w.heap.size w w1:=Below.trans (((Below.refl w.heap.size w).alloc (Nat.le_refl _) _).drew) (hb1.mono (B':=w.heap.size) (by simp))
 have hsz1:w.heap.size<w1.heap.size:=by have:=hb1.size;simp at this;omega
 clear hb1
 by_cases hfit:fit=0
 ·subst hfit
  obtain⟨hbs,hck⟩:=HCK.out HF.out
  have HCK2:=Lib.hid hck
  clear hck
  have hbs0:(bn:Int)<=(s.size:Int):=by omega
  go_wp2_with fail
  go_region_held3 (λw'=>Below w.heap.size w w'/\w.heap.size<w'.heap.size/\w'.cell? ⟨w.heap.size,2,none⟩=some (.int .i64 bn)/\w'.cell? ⟨w.heap.size,3,none⟩=some (.func (.func cf) #[] #[]))
   (first|assumption|exact Below.drew (by assumption)|(refine⟨?_,?_,?_,?_⟩<;>first|assumption|exact Below.drew (by assumption)|go_keep)|go_keep)
   (first
    |(go_at_fn cf;refine(HCK2.out _).mono ?_;rintro e w3 ⟨rfl,hb3⟩;have Ct:=xq (by assumption) hb3))
  obtain⟨hb4,hsz4,k4,k5⟩:=Ct
  clear hb3
  generalize hq:(R.toList==(s.extract bn s.size).toList)=q
  have HQ:Hid (code=if q=true then 0 else 18):=Lib.hid (by rw[hcode.out,HF.out,if_neg (by simp),hq])
  clear hq
  cases q with
  |true=>
   go_wp2_with fail
   go_ret2
   rw[HQ.out]
   exact⟨⟨_,rfl⟩,hb4⟩
  |false=>
   go_wp2_with fail
   go_ret2
   rw[HQ.out]
   exact⟨⟨_,rfl⟩,hb4⟩
 ·have hbf:(fit !=0)=true:=by simpa using hfit
  have Pn:=Lib.hid hfit
  clear hfit
  go_wp2_with fail
  go_ret2
  rw[hcode.out,HF.out,if_pos Pn.out]
  exact⟨⟨_,rfl⟩,ik⟩
theorem Cy (k:Nat)(hk:k<3)(s:ByteArray)(w:World)(h:jW w):
 Calls Tryz.prog 137 #[.int .i64 k,.string s] w λe w'=>(∃t:Int,e=.returned (.tuple #[.int .i64 t,.int .i64 (au k s)]))/\Below w.heap.size w w':=by
 match k,hk with
 |0,_=>
  refine wP 0 (by decide) 343 11 rfl rfl (by omega) s w h ⟨(Id.KI (s.data.toList.take 11)).toArray⟩ (au 0 s) (Lib.hid ?_) (enters_of Tryz.func343 (by kernel_rfl) rfl) (λh0=>⟨?_,λW=>(FK _ W ?_ (mf 0 (Or.inl rfl) s 11 h0)).mono ?_⟩)
  ·unfold au
   rw[toList_mk,uE]
   simp only[if_pos,beq_iff_eq]
  ·have:=(gJ 0 s h0).1
   simp[aP]at this;omega
  ·simp[ByteArray.size_extract];omega
  ·rintro e w' ⟨rfl,hb⟩
   rw[extract_upto]
   exact⟨rfl,hb⟩
 |1,_=>
  have e1:au 1 s=bJ 1 s:=by unfold au;split<;>simp_all
  rw[e1]
  exact mZ 1 (by decide) rfl s w h
 |2,_=>
  have e1:au 2 s=bJ 2 s:=by unfold au;split<;>simp_all
  rw[e1]
  exact mZ 2 (by decide) rfl s w h
theorem ER (k:Nat)(hk:k<3)(s:ByteArray)(w:World)(h:jW w):
 Calls Tryz.prog 80 #[.int .i64 k,.string s] w λe w'=>e=.returned (.bool (au k s==0))/\Below w.heap.size w w':=
 wF k s w _ _ rfl (Cy k hk s w h)
end Go.Proofs.YtnjjeapcalkmaaaGreatDoor
namespace Go.Proofs.YtnjjeapcalkmaaaGreatDoor.Ev
open Go Go.RowKit Go.Proofs.YtnjjeapcalkmaaaGreatDoor Go.Proofs.YtnjjeapcalkmaaaGreatDoor.Ord
variable {σ : Type}
def uR (rs:List (Ent σ)):List (Nat×Operand)->Option (List (Nat×AV))
 |[]=>some []
 |(i,.tmp t)::l=>match find t rs 0,uR rs l with
  |some (_,e),some vs=>(match e.cond with
   |none=>some ((i,e.val)::vs)
   |some _=>none)
  |_,_=>none
 |_=>none
theorem He {M:Mem σ}{ρ:Operand->Value}{full:List (Ent σ)}(hR:∀(i:Nat) (e:Ent σ) (d:Nat),full[i]? =some e->e.dst=some d->ρ (.tmp d)=e.value M):∀{l:List (Nat×Operand)} {vs:List (Nat×AV)},uR full l=some vs->l.map (λp=>(p.1,ρ p.2))=vs.map λp=>(p.1,p.2.val M):=by
 intro l
 induction l with
 |nil=>intro vs h;cases h;rfl
 |cons p l ih=>
  obtain⟨i,x⟩:=p
  intro vs h
  cases x with
  |tmp t=>
   unfold uR at h
   split at h
   ·rename_i j e v2 h1 h2
    split at h
    ·rename_i hc
     cases h
     obtain⟨-,k1,k2⟩:=gN h1
     rw[List.map_cons,List.map_cons,ih h2,hR _ _ _ k1 k2]
     unfold Ent.value
     rw[hc]
    ·cases h
   ·cases h
  |_=>cases h
theorem Md (ρ:Operand->Value)(x y:Operand)(b:Bool)(n:Int)(hx:ρ x=.bool b)(hy:ρ y=.int .i64 n)(w:World):(Instr.build 128 (#[(0,x),(1,y)].map λ(i,x)=>(i,ρ x))).run Tryz.prog w=.ok (.agg #[.bool b,.int .i64 n]) w:=by
 simp only[List.map_toArray,List.map_cons,List.map_nil,hx,hy]
 go_simp
def qG (M:AV->Value)(o:Oper)(ov:Operand->Option AV):Option AV:=match o.op with
 | .build t ps=>if t=128 then(match ps.toList with
   |[(0,x),(1,y)]=>(match ov x,ov y with
    |some a,some c=>(match M a,M c with
     | .bool b,.int .i64 n=>some (.v (.agg #[.bool b,.int .i64 n]))
     |_,_=>none)
    |_,_=>none)
   |_=>none)else none
 |_=>none
theorem ny {M:AV->Value}{o:Oper}{ov:Operand->Option AV}{v:AV}(h:qG M o ov=some v){ρ:Operand->Value}(hov:∀x u,ov x=some u->ρ x=M u)(hM:∀x,M (.v x)=x)(w:World):(execOp ρ o).run Tryz.prog w=.ok (.value (M v)) w:=by
 unfold qG at h
 split at h
 ·rename_i t ps ho
  split at h
  ·rename_i ht
   subst ht
   split at h
   ·rename_i x y hps
    split at h
    ·rename_i a c ha hc
     split at h
     ·rename_i b n hb hn
      cases h
      have hps2:ps=#[(0,x),(1,y)]:=by rw[<-Array.toArray_toList (xs:=ps),hps]
      subst hps2
      have:=Md ρ x y b n ((hov _ _ ha).trans hb) ((hov _ _ hc).trans hn) w
      unfold execOp
      simp only[ho,Sem.run_bind,this,Result.andThen_ok,hM]
      rfl
     ·cases h
    ·cases h
   ·cases h
  ·cases h
 ·cases h
theorem BZ (W:World)(rs:List (Bool×Int))(P:Array (Nat×Value))(h24:¬(rs.length*2>2^24))(hne:¬(rs.length*2=0))(jI:Instr.fill (λi=>some (i*2,2)) ((Array.range (rs.length*2)).map (λx=>([.bool false,.int .i64 0]:List Value)[x%2]?.getD default)) P.toList=some (dC rs).toArray):
 (Instr.buildSlice 172 rs.length P).run Tryz.prog W=.ok (.slice (some ⟨W.heap.size,0,none⟩) rs.length rs.length) (W.alloc (.cells (dC rs).toArray 128)):=by
 unfold Instr.buildSlice
 go_simp
def sj (m n:Nat)(ops:Array Oper):Bool:=eX ops&&Region.noSelect ops&&bP ops m&&qR ops n&&ops.size==n+3
def lQ (ops:Array Oper)(n:Nat):Option (Nat×List (Nat×Operand)×Nat×Nat×Nat):=match (ops.toList.drop n)with
 |[⟨some d1,.buildSlice t k ps,_,_,_,none⟩,⟨some d2,.call ⟨.value (.func f),xs,_⟩,_,_,_,none⟩,⟨some d3,.assign (.tmp e2),_,_,_,none⟩]=>if t=172/\f=78/\e2=d2/\xs.toList.length=1 then(match xs.toList with
    |[.tmp e1]=>if e1=d1 then some (k,ps.toList,d1,d2,d3)else none
    |_=>none)else none
 |_=>none
theorem Iw {dr:Bool}{W0 w:World}{id m n:Nat}{ops:Array Oper}{M:Mem Unit}{K:List (Nat×AV)}{full:List (Ent Unit)}{a:Act}{Q:Exit->Act->World->Prop}{k d1 d2 d3:Nat}{ps:List (Nat×Operand)}{pv:List (Nat×AV)}(rs:List (Bool×Int))(hO:Ok Tryz.prog (λ_ W=>Below W0.heap.size W0 W) M)(hok:sj m n ops=true)(hrun:run M (keep K ops) [] () (ops.toList.take n)=some full)(hturn:full.all (λe=>!e.turn)=true)(hF:Fr M m K a)(hS:Below W0.heap.size W0 w)
 (hr0:0<rs.length) (hrs:rs.length<=1000) (he:lQ ops n=some (k,ps,d1,d2,d3)) (hp:uR full ps=some pv) (hk:k=rs.length) (jI:Instr.fill (λi=>some (i*2,2)) ((Array.range (k*2)).map (λx=>([.bool false,.int .i64 0]:List Value)[x%2]?.getD default)) (pv.map λp=>(p.1,p.2.val M))=some (dC rs).toArray)
 (hend:∀(b:Act) (w':World),Below W0.heap.size W0 w'->Fr M m ((d3,.v (.int .i64 (aS rs)))::keep K ops) b->Q .normal b w'):(Code.region id ops dr).wp Tryz.prog Q a w:=by
 unfold sj at hok
 simp only[Bool.and_eq_true,beq_iff_eq]at hok
 obtain⟨⟨⟨⟨hd,hs⟩,hb⟩,ht⟩,hsz⟩:=hok
 obtain⟨tl,e1,e2⟩:=dN hrun
 have hI:=su tF hrun
 have hlen:full.length=n:=by rw[e1];simp[e2];omega
 unfold lQ at he
 split at he
 ·rename_i d1' t k' ps' _ _ _ d2' f xs _ _ _ _ d3' e2' _ _ _ hdrop
  split at he
  ·rename_i hc
   obtain⟨rfl,rfl,rfl,-⟩:=hc
   split at he
   ·rename_i e1' hxs
    split at he
    ·rename_i hc1
     subst hc1
     cases he
     have hxs2:xs=#[.tmp d1]:=by rw[<-Array.toArray_toList (xs:=xs),hxs]
     subst hxs2
     have g1:∀i,ops[n+i]? =(ops.toList.drop n)[i]?:=λi=>by simp
     have h1:=g1 0
     have h2:=g1 1
     have h3:=g1 2
     rw[hdrop]at h1 h2 h3
     have hlt:∀(i:Nat) (o:Oper) (d:Nat),ops[i]? =some o->o.dst=some d->d<a.tmps.size:=λi o d ho hod=>by
      simp only[bP,Bool.and_eq_true]at hb
      have:=List.all_eq_true.1 hb.1 o (by simpa using Array.mem_of_getElem? ho)
      rw[hod]at this
      rw[hF.size]
      simpa using this
     refine J7 (W0:=W0) n (full.map (Ent.value M)) (by rw[List.length_map,hlen]) hd hs (by rw[hF.size];exact hb) ht hS ?_ rs hrs hsz (by simpa using h1) rfl rfl rfl h2 rfl rfl rfl h3 rfl rfl rfl ⟨hlt _ _ _ h1 rfl,hlt _ _ _ h2 rfl,hlt _ _ _ h3 rfl⟩ 128 ?_ ?_
     ·intro ρ hD hrest hco hfu
      have:=KW hO (DL hF hrun hD hrest hco hfu) hI (λe he=>by have:=List.all_eq_true.1 hturn e he;simpa using this) () hrun
      simpa using this
     ·intro ρ hD W
      have hparts:(ps'.map λ(i,x)=>(i,ρ x)).toList=pv.map λp=>(p.1,p.2.val M):=by
       rw[<-He (M:=M) (ρ:=ρ) (full:=full) (λi e d hi hd=>by
        have hil:i<(ops.toList.take n).length:=by
         have h7:=(List.getElem?_eq_some_iff.1 hi).1
         rw[e1]at h7
         simp only[List.nil_append,e2]at h7
         exact h7
        obtain⟨o,ho⟩:∃o,(ops.toList.take n)[i]? =some o:=⟨_,List.getElem?_eq_getElem hil⟩
        obtain⟨e5,k1,k2⟩:=tN hrun i o ho
        have:e5=e:=by
         have k3:full[i]? =some e5:=by simpa using k1
         exact Option.some.inj (k3.symm.trans hi)
        subst this
        exact bg.tmp i o (e5.value M) d hD ho (by rw[List.getElem?_map,hi];rfl) (k2.symm.trans hd)) hp]
       rw[Array.toList_map]
      rw[<-hparts]at jI
      generalize (ps'.map λ(i,x)=>(i,ρ x))=P at jI⊢
      clear hend hD hparts hp
      rw[hk]at jI⊢
      have h24:¬(rs.length*2>2^24):=by rw[show(2:Nat)^24=16777216 from by decide];omega
      have hne:¬(rs.length*2=0):=by omega
      exact BZ W rs P h24 hne jI
     ·intro b w' hB hbd hbs h3 hrest
      exact hend b w' hB ⟨hbs.trans hF.size,hbd.trans hF.defers,λt u hl=>by
       unfold Ev.look at hl
       split at hl
       ·rename_i e;subst e;cases hl;exact h3
       ·obtain⟨j1,j2⟩:=gX hl
        rw[hrest t j2]
        exact hF.look t u j1⟩
    ·cases he
   ·cases he
  ·cases he
 ·cases he
def Ew (M:Mem Unit)(K:List (Nat×AV))(n:Nat)(ops:Array Oper):Option (Array Value):=match run M K [] () (ops.toList.take n),lQ ops n with
 |some full,some (k,ps,_)=>if full.all (λe=>!e.turn)=true then(match uR full ps with
  |some pv=>Instr.fill (λi=>some (i*2,2)) ((Array.range (k*2)).map (λx=>([.bool false,.int .i64 0]:List Value)[x%2]?.getD default)) (pv.map λp=>(p.1,p.2.val M))
  |none=>none)else none
 |_,_=>none
theorem mE {dr:Bool}{W0 w:World}{id m:Nat}{ops:Array Oper}{M:Mem Unit}{K:List (Nat×AV)}{a:Act}{Q:Exit->Act->World->Prop}(n d3:Nat)(rs:List (Bool×Int))(hO:Ok Tryz.prog (λ_ W=>Below W0.heap.size W0 W) M)(hok:sj m n ops=true)(hF:Fr M m K a)(hS:Below W0.heap.size W0 w)
 (hr0:0<rs.length) (hrs:rs.length<=1000) (hk:(lQ ops n).map (λe=>(e.1,e.2.2.2.2))=some (rs.length,d3)) (jI:Ew M (keep K ops) n ops=some (dC rs).toArray)
 (hend:∀(b:Act) (w':World),Below W0.heap.size W0 w'->Fr M m ((d3,.v (.int .i64 (aS rs)))::keep K ops) b->Q .normal b w'):(Code.region id ops dr).wp Tryz.prog Q a w:=by
 unfold Ew at jI
 split at jI
 ·rename_i full k ps dd hrun he
  obtain⟨d1,d2,d3'⟩:=dd
  split at jI
  ·rename_i ht
   split at jI
   ·rename_i pv hp
    rw[he]at hk
    have hk2:(k,d3')=(rs.length,d3):=by simpa using hk
    obtain⟨rfl,rfl⟩:=Prod.mk.inj hk2
    exact Iw rs hO hok hrun ht hF hS hr0 hrs he hp rfl jI hend
   ·cases jI
  ·cases jI
 ·cases jI
def tC:List Value->Option (List (Bool×Int))
 |[]=>some []
 | .bool b::.int .i64 n::l=>(match tC l with
   |some rs=>some ((b,n)::rs)
   |none=>none)
 |_=>none
theorem vv:∀{l:List Value} {rs:List (Bool×Int)},tC l=some rs->l=dC rs
 |[],rs,h=>by cases h;rfl
 | .bool b::.int .i64 n::l,rs,h=>by
   unfold tC at h
   split at h
   ·rename_i rs2 h2
    cases h
    rw[vv h2]
    rfl
   ·cases h
def iP (M:Mem Unit)(s:Unit)(K:List (Nat×AV))(ops:Array Oper)(_dr:Bool):Option (Unit×List (Nat×AV)):=if qR ops (ops.size-3)=true/\3<=ops.size then(match Ew M (keep K ops) (ops.size-3) ops,lQ ops (ops.size-3)with
    |some c,some (k,_,_,_,d3)=>(match tC c.toList with
     |some rs=>if k=rs.length/\0<k/\k<=1000 then some (s,[(d3,.v (.int .i64 (aS rs)))])else none
     |none=>none)
    |_,_=>none)else none
theorem FH {W0:World}{M:Mem Unit}(hO:Ok Tryz.prog (λ_ W=>Below W0.heap.size W0 W) M):rE (λ_ W=>Below W0.heap.size W0 W) {M with reg:=iP M}:=by
 intro s K ops dr s' nw h n id a w Q hok hF hS hend
 have h2:iP M s K ops dr=some (s',nw):=h
 unfold iP at h2
 split at h2
 ·rename_i ht
  split at h2
  ·rename_i c k ps d1 d2 d3 hf he
   split at h2
   ·rename_i rs hrs
    split at h2
    ·rename_i hk
     obtain⟨rfl,hk2,hk3⟩:=hk
     cases h2
     unfold gM at hok
     simp only[Bool.and_eq_true]at hok
     refine mE (W0:=W0) (M:=M) (m:=n) (ops.size-3) d3 rs hO (by unfold sj;simp only[Bool.and_eq_true,beq_iff_eq];exact⟨⟨⟨hok.1,hok.2⟩,ht.1⟩,by omega⟩) ⟨hF.size,hF.defers,hF.look⟩ hS hk2 hk3 (by rw[he];rfl) (by rw[hf,<-vv hrs]) λb w' hB hb=>hend b w' ⟨hb.size,hb.defers,hb.look⟩ hB
    ·cases h2
   ·cases h2
  ·cases h2
 ·cases h2
theorem J4 {W0:World}{M:Mem Unit}{n:Nat}{code:Code}{K:List (Nat×AV)}{v:Int}{Q:Exit->Act->World->Prop}{a:Act}{w:World}(r:Nat)(hO:Ok Tryz.prog (λ_ W=>Below W0.heap.size W0 W) M)(h:(ex {M with reg:=iP M} n code K ()).int {M with reg:=iP M} r 0=some v)(hl:((ex {M with reg:=iP M} n code K ()).stops [] []).map (rY [])=[])(hF:Fr M n K a)(hS:Below W0.heap.size W0 w)
 (hq:∀a w,a.defers=[]->a.tmps[r]? =some (.int .i64 v)->Below W0.heap.size W0 w->Q .ret a w):code.wp Tryz.prog Q a w:=by
 have hO2:Ok Tryz.prog (λ_ W=>Below W0.heap.size W0 W) {M with reg:=iP M}:=⟨hO.offs,hO.load,hO.store,hO.call,hO.other⟩
 refine uN (M:={M with reg:=iP M}) (s:=()) hO2 (FH hO) (λ_ _ h=>h.drew) (xh (M:={M with reg:=iP M}) (ts:=[]) (cs:=[]) (hv:=0) h (λc hc=>by cases hc) (λa w _ h1 h2 h3=>hq a w h1 h2 h3) λhe x hx hc a w hst hs=>?_) ⟨hF.size,hF.defers,hF.look⟩ hS
 have hm:rY [] x∈([]:List _):=by rw[<-hl];exact List.mem_map_of_mem hx
 cases hm
end Go.Proofs.YtnjjeapcalkmaaaGreatDoor.Ev
namespace Go.Proofs.YtnjjeapcalkmaaaGreatDoor
open Go.RowKit
open Go.Proofs.YtnjjeapcalkmaaaGreatDoor.Ord
def nW (w:World)(g:Nat)(i:Ps.Ins)(lv:Value):Prop:=w.heap[g]? =some (.cells (aB i lv).toArray 34 (0,0))
theorem nW.at {w:World}{g:Nat}{i:Ps.Ins}{lv:Value}(h:nW w g i lv)(j:Nat)(v:Value)(hj:(aB i lv)[j]? =some v):w.cell? ⟨g,j,none⟩=some v:=by
 rw[cell_of_row _ _ _ _ _ _ h,List.getElem?_toArray,hj]
theorem j4 (w:World)(i:Ps.Ins)(lv:Value):nW (w.alloc (.cells (aB i lv).toArray 34)) w.heap.size i lv:=aC w _
theorem is_col (w:World)(i:Ps.Ins)(lv:Value)(c1 c2:Bool)(h1:(i.kind==3)=c1)(h2:(i.kind==4)=c2):
 Calls Tryz.prog 138 #[.agg (aB i lv).toArray] w λe w'=>e=.returned (.bool (c1||c2))/\Below w.heap.size w w':=by
 go_enter Tryz.func138,Tryz.ntmps138
 go_upto_region 1 with fail
 obtain⟨W1,hW1⟩:∃W1,W1=w.alloc (.cells (aB i lv).toArray 34):=⟨_,rfl⟩
 have hrow:nW W1 w.heap.size i lv:=by rw[hW1];exact j4 w i lv
 have HB:Hid (Below w.heap.size w W1):=Lib.hid (by rw[hW1];exact(Below.refl _ _).alloc (Nat.le_refl _) _)
 rw[<-hW1]
 clear hW1
 obtain⟨g,hg⟩:∃g,g=w.heap.size:=⟨_,rfl⟩
 rw[<-hg]at hrow⊢
 clear hg
 have k1:=hrow.at 1 _ rfl
 clear hrow
 cases c1
 all_goals cases c2
 all_goals
  go_wp2_with fail
  go_ret
  exact⟨rfl,HB.out⟩
theorem is_sec (w:World)(i:Ps.Ins)(lv:Value)(c1 c2:Bool)(h1:(i.kind==1)=c1)(h2:(i.kind==2)=c2):
 Calls Tryz.prog 139 #[.agg (aB i lv).toArray] w λe w'=>e=.returned (.bool (c1||c2))/\Below w.heap.size w w':=by
 go_enter Tryz.func139,Tryz.ntmps139
 go_upto_region 1 with fail
 obtain⟨W1,hW1⟩:∃W1,W1=w.alloc (.cells (aB i lv).toArray 34):=⟨_,rfl⟩
 have hrow:nW W1 w.heap.size i lv:=by rw[hW1];exact j4 w i lv
 have HB:Hid (Below w.heap.size w W1):=Lib.hid (by rw[hW1];exact(Below.refl _ _).alloc (Nat.le_refl _) _)
 rw[<-hW1]
 clear hW1
 obtain⟨g,hg⟩:∃g,g=w.heap.size:=⟨_,rfl⟩
 rw[<-hg]at hrow⊢
 clear hg
 have k1:=hrow.at 1 _ rfl
 clear hrow
 cases c1
 all_goals cases c2
 all_goals
  go_wp2_with fail
  go_ret
  exact⟨rfl,HB.out⟩
theorem Px (w:World)(i:Ps.Ins)(lv:Value)(c1:Bool)(h1:i.partial_=c1):
 Calls Tryz.prog 143 #[.agg (aB i lv).toArray] w λe w'=>e=.returned (.int .i64 (if c1=true then i.quantity else 0))/\Below w.heap.size w w':=by
 go_enter Tryz.func143,Tryz.ntmps143
 go_upto_region 1 with fail
 obtain⟨W1,hW1⟩:∃W1,W1=w.alloc (.cells (aB i lv).toArray 34):=⟨_,rfl⟩
 have hrow:nW W1 w.heap.size i lv:=by rw[hW1];exact j4 w i lv
 have HB:Hid (Below w.heap.size w W1):=Lib.hid (by rw[hW1];exact(Below.refl _ _).alloc (Nat.le_refl _) _)
 rw[<-hW1]
 clear hW1
 obtain⟨g,hg⟩:∃g,g=w.heap.size:=⟨_,rfl⟩
 rw[<-hg]at hrow⊢
 clear hg
 have k6:=hrow.at 6 _ rfl
 have k11:=hrow.at 11 _ rfl
 clear hrow
 cases c1
 all_goals
  go_wp2_with fail
  go_ret
  exact⟨rfl,HB.out⟩
theorem M4 (w:World)(i:Ps.Ins)(lv:Value)(c1 c2 v:Bool)(h1:(i.kind==0)=c1)(h2:(i.asset.toList==[67,65,83,72])=c2)(n1:∀w',Below w.heap.size w w'->Calls Tryz.prog 80 #[.int .i64 0,.string i.asset] w' λe w''=>e=.returned (.bool v)/\Below w'.heap.size w' w''):
 Calls Tryz.prog 140 #[.agg (aB i lv).toArray] w λe w'=>e=.returned (.bool (if c1=true then c2 else v))/\Below w.heap.size w w':=by
 go_enter Tryz.func140,Tryz.ntmps140
 go_upto_region 1 with fail
 obtain⟨W1,hW1⟩:∃W1,W1=w.alloc (.cells (aB i lv).toArray 34):=⟨_,rfl⟩
 have hrow:nW W1 w.heap.size i lv:=by rw[hW1];exact j4 w i lv
 have HB:Hid (Below w.heap.size w W1):=Lib.hid (by rw[hW1];exact(Below.refl _ _).alloc (Nat.le_refl _) _)
 rw[<-hW1]
 clear hW1
 have m1:=n1 W1 HB.out
 clear n1
 obtain⟨g,hg⟩:∃g,g=w.heap.size:=⟨_,rfl⟩
 rw[<-hg]at hrow⊢
 clear hg
 have k1:=hrow.at 1 _ rfl
 have k5:=hrow.at 5 _ rfl
 clear hrow
 cases c1
 ·go_wp2_with ((first|go_at_fn 80|go_at_call 80);refine m1.mono ?_;rintro e w2 ⟨rfl,hb⟩;have HB2:=Lib.hid (HB.out.trans (hb.mono HB.out.size));clear hb m1)
  go_ret
  exact⟨rfl,HB2.out⟩
 ·clear m1
  go_wp2_with fail
  go_ret
  exact⟨by simp,HB.out⟩
theorem ML (w:World)(n:Int)(u c:Bool)(h:(n==0)=c):
 Calls Tryz.prog 141 #[.int .i64 n,.bool u] w λe w'=>e=.returned (.bool (if u=true then inB n 1 1000000000000000 else c))/\Below w.heap.size w w':=by
 have m1:=rX w n 1 1000000000000000
 go_enter Tryz.func141,Tryz.ntmps141
 cases u
 ·clear m1
  go_wp2_with fail
  go_ret
  exact⟨by simp,Below.refl _ _⟩
 ·go_wp2_with ((first|go_at_fn 142|go_at_call 142);refine m1.mono ?_;rintro e w2 ⟨rfl,rfl⟩;clear m1)
  go_ret
  exact⟨rfl,Below.refl _ _⟩
def yl (n:Int)(u:Bool):Bool:=if u=true then inB n 1 1000000000000000 else(n==0)
def lV (A:Ps.Amd):List (Bool×Int):=[(((((!A.hasAmount)&&(!A.hasSettleDay))&&(!A.hasPriority))&&(!A.hasPartial)),3),((((((!A.hasAmount)&&(A.amount !=0))||((!A.hasSettleDay)&&(A.settleDay !=0)))||((!A.hasPriority)&&(A.priority !=0)))||((!A.hasPartial)&&(A.partial_||(A.minLot !=0)))),3),((!(yl A.amount A.hasAmount)),2),((!(inB A.settleDay 0 73048)),28),((!(inB A.priority 0 2)),2),((!(yl A.minLot A.partial_)),2)]
open Go.Proofs.YtnjjeapcalkmaaaGreatDoor.Ev (AV Mem Fr oJ az iX)
theorem gu {S:World->Prop}{b:Nat}{l:List Value}{ty:TypeId}(h:∀w,S w->w.heap[b]? =some (.cells l.toArray ty (0,0))):∀w,S w->∀(j:Nat) (v:Value),l[j]? =some v->w.cell? ⟨b,0+j,none⟩=some v:=λw hS j v hv=>by
 rw[Nat.zero_add,cell_of_row _ _ _ _ _ _ (h w hS)]
 simpa using hv
def wC (V:List AV->List Value)(f:FuncId)(vs:List AV):Option Value:=
 if f=79\/f=142 then(match V vs with|[.int .i64 n,.int .i64 lo,.int .i64 hi]=>some (.bool (inB n lo hi))|_=>none)
 else if f=141 then(match V vs with|[.int .i64 n,.bool u]=>some (.bool (yl n u))|_=>none)
 else none
theorem qg {V:List AV->List Value}{f:FuncId}{vs:List AV}{v:Value}(h:wC V f vs=some v){W0:World}:(∀args w,(callFunc f args).run Tryz.prog w=.ok (.enter f args) w)/\∀w,Below W0.heap.size W0 w->Calls Tryz.prog f (V vs).toArray w λe w'=>e=.returned v/\Below W0.heap.size W0 w':=by
 unfold wC at h
 split at h
 ·rename_i hf
  split at h
  ·rename_i hm
   cases h
   rw[hm]
   rcases hf with rfl|rfl
   ·exact⟨ent57,λw hw=>(D7 w _ _ _).mono λe w' k=>⟨k.1,hw.trans (k.2.mono hw.size)⟩⟩
   ·exact⟨ent109,λw hw=>(yU w _ _ _).mono λe w' k=>⟨k.1,hw.trans (k.2.mono hw.size)⟩⟩
  ·cases h
 ·split at h
  ·rename_i hf
   subst hf
   split at h
   ·rename_i hm
    cases h
    rw[hm]
    exact⟨ent108,λw hw=>(ML w _ _ _ rfl).mono λe w' k=>⟨k.1,hw.trans (k.2.mono hw.size)⟩⟩
   ·cases h
  ·cases h
def El (g:Nat)(A:Ps.Amd):List (Option (Nat×Nat)×List Value):=[(some (g,0),aH A)]
def amM (g:Nat)(A:Ps.Amd):Mem Unit:=oJ kz (El g A) (wC (List.map (iX (El g A)))) (Ev.qG (iX (El g A)))
theorem IR (w:World)(A:Ps.Amd):Calls Tryz.prog 82 #[.agg (aH A).toArray] w λe w'=>e=.returned (.int .i64 (aS (lV A)))/\Below w.heap.size w w':=by
 go_enter Tryz.func82,Tryz.ntmps82
 refine wp_seq ?_
 refine wp_region_lit ?_
 refine wpList_plain rfl (λK hK=>?_)
 go_simp
 refine hK _ _ ?_
 clear hK K
 refine wpList_plain rfl (λK hK=>?_)
 go_simp
 refine hK _ _ ?_
 clear hK K
 refine aT ?_
 obtain⟨g,hg⟩:∃g,g=w.heap.size:=⟨_,rfl⟩
 obtain⟨W1,hW1⟩:∃W1,W1=w.alloc (.cells (aH A).toArray 35):=⟨_,rfl⟩
 have hrow:∀W,Below W1.heap.size W1 W->W.heap[g]? =some (.cells (aH A).toArray 35 (0,0)):=λW hW=>by
  rw[hW.block g (by rw[hW1,hg];simp),hW1,hg];exact aC w _
 have hB1:Below w.heap.size w W1:=by rw[hW1];exact(Below.refl _ _).alloc (Nat.le_refl _) _
 rw[<-hg,<-hW1]
 refine oF rfl λa ha hdf=>?_
 have hO:Ev.Ok Tryz.prog (λ(_:Unit) W=>Below W1.heap.size W1 W) (amM g A):=by
  refine Ev.oL (λt f d h=>mI h) (λq b o l h W hS=>?_) (λf vs v h=>qg h) (λo ov v h ρ hov W hS=>Ev.ny h hov (λ_=>rfl) W)
  rcases q with _|q
  ·cases h
   intro j v hv
   rw[Nat.zero_add,cell_of_row _ _ _ _ _ _ (hrow W hS)]
   simpa using hv
  ·cases h
 refine wp_seq ?_
 refine Ev.mE (W0:=W1) (m:=91) (M:=amM g A) (K:=[(1,.p 0 0)]) 86 2 (lV A) hO (by kernel_rfl) (Ev.aG (Ev.bC (by rw[ha];rfl) hdf) (by rw[ha];rfl)) (Below.refl _ _) (show 0<6 by decide) (show 6<=1000 by decide) (by kernel_rfl) (by kernel_rfl) ?_
 intro b W hB hF
 refine wp_ret ?_
 refine bodyPost_ret (results_tmp rfl _ _ _) hF.defers ?_
 rw[hg]
 exact⟨by rw[show b.tmps.getD 2 undef=.int .i64 (aS (lV A))from eval_at (hF.look 2 _ rfl)],hB1.trans (hB.mono hB1.size)⟩
theorem bv {b:Bool}{n:Int}{rs:List (Bool×Int)}{P:Prop}[Decidable P](h:b=true↔P):aS ((b,n)::rs)=if P then n else aS rs:=by
 show(if b=true then n else aS rs)=_
 by_cases hp:P
 ·rw[if_pos hp,if_pos (h.2 hp)]
 ·rw[if_neg hp,if_neg (λhb=>hp (h.1 hb))]
theorem fw (n lo hi:Int):inB n lo hi=true↔lo<=n/\n<=hi:=by
 unfold inB;simp
theorem ou (n:Int)(u:Bool):yl n u=true↔if u=true then 1<=n/\n<=Ps.bM else n=0:=by
 unfold yl Ps.bM
 cases u
 ·simp
 ·simp[fw]
theorem ag {b:Bool}{P:Prop}(h:b=true↔P):(!b)=true↔¬P:=by
 rw[<-h];cases b<;>simp
theorem H7 (A:Ps.Amd):aS (lV A)=Ps.H9 A:=by
 unfold lV Ps.H9
 rw[bv (P:=A.hasAmount=false/\A.hasSettleDay=false/\A.hasPriority=false/\A.hasPartial=false) (by simp[and_assoc]),
  bv (P:=(A.hasAmount=false/\A.amount≠0)\/(A.hasSettleDay=false/\A.settleDay≠0)\/(A.hasPriority=false/\A.priority≠0)\/(A.hasPartial=false/\(A.partial_=true\/A.minLot≠0))) (by simp[or_assoc]),
  bv (ag (ou _ _)),bv (ag (fw _ _ _)),bv (ag (fw _ _ _)),bv (ag (ou _ _))]
 rfl
def fe (V:Nat->ByteArray->Bool)(i:Ps.Ins)(sn:Nat):List (Bool×Int):=[((!(inB i.kind 0 4)),11),((!(V 2 i.ref)),6),((!(V 1 i.sender)),6),((((i.kind==3)||(i.kind==4))&&(!(i.counterparty.toList==(⟨#[]⟩:ByteArray).toList))),3),(((!((i.kind==3)||(i.kind==4)))&&(!(V 1 i.counterparty))),6),((i.counterparty.toList==i.sender.toList),1),((!(inB i.side 0 1)),11),(((!((i.kind==1)||(i.kind==2)))&&(i.side !=0)),3),((!(if (i.kind==0)=true then(i.asset.toList==[67,65,83,72])else V 0 i.asset)),6),((!(yl i.quantity (i.kind !=0))),2),((!(yl i.amount ((i.kind==0)||(i.kind==1)))),2),((!(inB i.settleDay 0 73048)),28),(((((i.kind==1)||(i.kind==2))&&(!(inB i.tradeDay 0 i.settleDay)))||((!((i.kind==1)||(i.kind==2)))&&(i.tradeDay !=0))),28),(((!(inB i.priority 0 2))||(((i.kind==3)||(i.kind==4))&&(i.priority !=0))),2),((i.partial_&&(!((i.kind==1)||(i.kind==2)))),3),(((i.partial_&&(decide (i.minLot<1)))||(!(inB i.minLot 0 (if i.partial_=true then i.quantity else 0)))),2),((i.hold&&((i.kind==3)||(i.kind==4))),3),((i.reserve&&((i.kind !=0)||(i.priority !=2))),3),((((i.kind==3)||(i.kind==4))&&(decide (0<(sn:Int)))),3),((decide (8<(sn:Int))),8)]
theorem BQ (s t:ByteArray):(s.toList==t.toList)=true↔s=t:=by
 rw[beq_iff_eq]
 constructor
 ·intro h
  rw[Lib.toList_data,Lib.toList_data]at h
  exact Go.WideShapes.bytes_inj h
 ·rintro rfl;rfl
def nZ (d:Int):List (Bool×Int)->Int
 |[]=>d
 |x::rs=>if x.1=true then x.2 else nZ d rs
theorem aR {d:Int}{b:Bool}{n:Int}{rs:List (Bool×Int)}{P:Prop}[Decidable P](h:b=true↔P):nZ d ((b,n)::rs)=if P then n else nZ d rs:=by
 show(if b=true then n else nZ d rs)=_
 by_cases hp:P
 ·rw[if_pos hp,if_pos (h.2 hp)]
 ·rw[if_neg hp,if_neg (λhb=>hp (h.1 hb))]
theorem qz (d:Int):∀rs:List (Bool×Int),(∀x∈rs,x.2≠0)->nZ d rs=if aS rs≠0 then aS rs else d
 |[],_=>by simp[nZ,aS]
 |x::rs,h=>by
  have ih:=qz d rs λy hy=>h y (List.mem_cons_of_mem _ hy)
  have hx:=h x List.mem_cons_self
  show(if x.1=true then x.2 else nZ d rs)=if (if x.1=true then x.2 else aS rs)≠0 then(if x.1=true then x.2 else aS rs)else d
  by_cases hb:x.1=true
  ·simp only[if_pos hb,if_pos hx]
  ·simp only[if_neg hb];exact ih
theorem lX (i:Ps.Ins):((i.kind==3)||(i.kind==4))=true↔i.kind=3\/i.kind=4:=by simp
theorem qM (i:Ps.Ins):((i.kind==1)||(i.kind==2))=true↔i.kind=1\/i.kind=2:=by simp
theorem df {a b:Bool}{P Q:Prop}(h1:a=true↔P)(h2:b=true↔Q):(a&&b)=true↔P/\Q:=by rw[Bool.and_eq_true,h1,h2]
theorem pq {a b:Bool}{P Q:Prop}(h1:a=true↔P)(h2:b=true↔Q):(a||b)=true↔P\/Q:=by rw[Bool.or_eq_true,h1,h2]
theorem oK (a b:Int):(a !=b)=true↔a≠b:=by simp
theorem JY (b:Bool):(!b)=true↔b=false:=by simp
theorem I7 (V:Nat->ByteArray->Bool)(i:Ps.Ins):Ps.uD V i=if aS (fe V i i.links.length)≠0 then aS (fe V i i.links.length)else Ps.jM V i [] i.links:=by
 rw[<-qz _ _ (by unfold fe;simp)]
 unfold fe Ps.uD
 have hs:(!(i.counterparty.toList==(⟨#[]⟩:ByteArray).toList))=true↔i.counterparty≠⟨#[]⟩:=ag (BQ _ _)
 have hcash:(if (i.kind==0)=true then(i.asset.toList==[67,65,83,72])else V 0 i.asset)=true↔if i.kind=0 then i.asset=Ps.wH else V 0 i.asset=true:=by
  have h2:([67,65,83,72]:List UInt8)=Ps.wH.toList:=by rw[Lib.toList_data];rfl
  rw[h2]
  by_cases h:i.kind=0
  ·simp only[h,BEq.rfl,if_true];exact BQ _ _
  ·have:(i.kind==0)=false:=by simp[h]
   simp only[this,h,if_false,Bool.false_eq_true]
 have hq:(!(yl i.quantity (i.kind !=0)))=true↔¬(if i.kind≠0 then 1<=i.quantity/\i.quantity<=Ps.bM else i.quantity=0):=by
  refine(ag (ou _ _)).trans (not_congr ?_)
  by_cases h:i.kind=0<;>simp[h]
 have ha:(!(yl i.amount ((i.kind==0)||(i.kind==1))))=true↔¬(if i.kind=0\/i.kind=1 then 1<=i.amount/\i.amount<=Ps.bM else i.amount=0):=by
  refine(ag (ou _ _)).trans (not_congr ?_)
  simp
 have hlot:((i.partial_&&(decide (i.minLot<1)))||(!(inB i.minLot 0 (if i.partial_=true then i.quantity else 0))))=true↔(i.partial_=true/\i.minLot<1)\/¬(0<=i.minLot/\i.minLot<=if i.partial_=true then i.quantity else 0):=
  pq (df Iff.rfl decide_eq_true_iff) (ag (fw _ _ _))
 rw[aR (ag (fw _ _ _)),aR (JY _),aR (JY _),aR (df (lX i) hs),aR (df (ag (lX i)) (JY _)),aR (BQ _ _),aR (ag (fw _ _ _)),
  aR (df (ag (qM i)) (oK _ _)),aR (ag hcash),aR hq,aR ha,aR (ag (fw _ _ _)),
  aR (pq (df (qM i) (ag (fw _ _ _))) (df (ag (qM i)) (oK _ _))),aR (pq (ag (fw _ _ _)) (df (lX i) (oK _ _))),
  aR (df Iff.rfl (ag (qM i))),aR hlot,aR (df Iff.rfl (lX i)),aR (df Iff.rfl (pq (oK _ _) (oK _ _))),
  aR (P:=(i.kind=3\/i.kind=4)/\0<i.links.length) (df (lX i) (by simp)),aR (P:=8<i.links.length) (by simp;omega)]
 rfl
section
variable {S : World → Prop} {ρ : Operand → Value} {o : Oper}
end
theorem sl_to (a:Option Addr)(n c k:Nat)(h1:k<=n)(h2:n<=c)(_h3:n<=1000)(w:World):(Instr.sliceAt 32 (.slice a n c) none (some (.int .i64 k)) none).run Tryz.prog w=.ok (.slice a k c) w:=by
 have e1:(k:Int)<=(c:Int):=by omega
 go_simp
 done
def mG (V:Nat->ByteArray->Bool)(i:Ps.Ins)(seen:List Ps.Link)(x:Ps.Link):List (Bool×Int):=[(!(inB x.type 0 1),11),(!(V 2 x.ref),6),(x.ref.toList==i.ref.toList,26),(iH seen x.ref,7)]
theorem DZ (ks:List Ps.Link)(r:ByteArray):iH ks r=true↔∃y∈ks,y.ref=r:=by
 unfold iH
 rw[List.any_eq_true]
 exact exists_congr λy=>and_congr_right λ_=>BQ _ _
theorem Ao (V:Nat->ByteArray->Bool)(i:Ps.Ins)(seen:List Ps.Link)(x:Ps.Link)(r:List Ps.Link):Ps.jM V i seen (x::r)=if aS (mG V i seen x)≠0 then aS (mG V i seen x)else Ps.jM V i (seen++[x]) r:=by
 rw[<-qz _ _ (by unfold mG;simp)]
 unfold mG
 rw[aR (ag (fw _ _ _)),aR (JY _),aR (BQ _ _),aR (DZ _ _)]
 rfl
def jq (i j:Ps.Ins)(eL:Bool):Bool:=((((((((((((((((i.ref.toList==j.ref.toList)&&(i.kind==j.kind))&&(i.sender.toList==j.sender.toList))&&(i.counterparty.toList==j.counterparty.toList))&&(i.side==j.side))&&(i.asset.toList==j.asset.toList))&&(i.quantity==j.quantity))&&(i.amount==j.amount))&&(i.tradeDay==j.tradeDay))&&(i.settleDay==j.settleDay))&&(i.priority==j.priority))&&(i.partial_==j.partial_))&&(i.minLot==j.minLot))&&(i.hold==j.hold))&&(i.reserve==j.reserve))&&eL)
def Kc (eL:Bool)(f:FuncId)(vs:List AV):Option Value:=if f=83 then(match vs with|[.r 0 15,.r 1 15]=>some (.bool eL)|_=>none)else none
def eqM (g h:Nat)(i j:Ps.Ins)(la lb:Value)(eL:Bool):Mem Unit:=oJ kz [(some (g,0),aB i la),(some (h,0),aB j lb)] (Kc eL)
theorem yP (w:World)(i j:Ps.Ins)(sa ta:Option Addr)(sn sc tn tc:Nat)(eL:Bool)
 (c101:∀w',Below w.heap.size w w'->Calls Tryz.prog 83 #[.slice sa sn sc,.slice ta tn tc] w' λe w''=>e=.returned (.bool eL)/\Below w'.heap.size w' w''):
 Calls Tryz.prog 35 #[.agg (aB i (.slice sa sn sc)).toArray,.agg (aB j (.slice ta tn tc)).toArray] w λe w'=>e=.returned (.bool (jq i j eL))/\Below w.heap.size w w':=by
 go_enter Tryz.func35,Tryz.ntmps35
 refine wp_seq ?_
 refine wp_region_lit ?_
 refine wpList_plain rfl (λK hK=>?_)
 go_simp
 refine hK _ _ ?_
 clear hK K
 refine wpList_plain rfl (λK hK=>?_)
 go_simp
 refine hK _ _ ?_
 clear hK K
 refine wpList_plain rfl (λK hK=>?_)
 go_simp
 refine hK _ _ ?_
 clear hK K
 refine aT ?_
 obtain⟨Wa,hWa⟩:∃Wa,Wa=w.alloc (.cells (aB i (.slice sa sn sc)).toArray 34):=⟨_,rfl⟩
 obtain⟨W1,hW1⟩:∃W1,W1=Wa.alloc (.cells (aB j (.slice ta tn tc)).toArray 34):=⟨_,rfl⟩
 obtain⟨g,hg⟩:∃g,g=w.heap.size:=⟨_,rfl⟩
 obtain⟨h,hh⟩:∃h,h=w.heap.size+1:=⟨_,rfl⟩
 have hha:h=Wa.heap.size:=by rw[hh,hWa];simp
 have DU:Below Wa.heap.size Wa W1:=by rw[hW1];exact(Below.refl _ _).alloc (Nat.le_refl _) _
 have hrow:∀W,Below W1.heap.size W1 W->W.heap[g]? =some (.cells (aB i (.slice sa sn sc)).toArray 34 (0,0)):=λW hW=>by
  rw[hW.block g (by rw[hW1,hWa,hg];simp;omega),DU.block g (by rw[hWa,hg];simp),hWa,hg];exact aC w _
 have yH:∀W,Below W1.heap.size W1 W->W.heap[h]? =some (.cells (aB j (.slice ta tn tc)).toArray 34 (0,0)):=λW hW=>by
  rw[hW.block h (by rw[hha,hW1];simp),hW1,hha];exact aC Wa _
 have hB1:Below w.heap.size w W1:=((by rw[hWa];exact(Below.refl _ _).alloc (Nat.le_refl _) _:Below w.heap.size w Wa).trans (DU.mono (by rw[hWa];simp)))
 rw[<-hWa,<-hW1,<-hg]
 rw[<-hg]at hh
 rw[<-hh]
 clear hW1 hWa hha DU hh
 refine oF rfl λa ha hdf=>?_
 have hO:Ev.Ok Tryz.prog (λ(_:Unit) W=>Below W1.heap.size W1 W) (eqM g h i j (.slice sa sn sc) (.slice ta tn tc) eL):=by
  refine Ev.oL (λt f d h=>mI h) (λq b o l h W hS=>?_) (λf vs v h=>?_) (λ_ _ _ h=>by cases h)
  ·rcases q with _|_|q
   ·cases h;exact gu hrow W hS
   ·cases h;exact gu yH W hS
   ·cases h
  ·unfold Kc at h
   split at h
   ·rename_i hf
    subst hf
    split at h
    ·cases h
     exact⟨ent101,λW hS=>(c101 W (hB1.trans (hS.mono hB1.size))).mono λe w' q=>⟨q.1,hS.trans (q.2.mono hS.size)⟩⟩
    ·cases h
   ·cases h
 refine Ev.FU (M:=eqM g h i j (.slice sa sn sc) (.slice ta tn tc) eL) (S:=λ_ W=>Below W1.heap.size W1 W) (n:=115) (K:=[(2,.p 0 0),(3,.p 1 0)]) (s:=()) (v:=jq i j eL) 4 hO (λ_ W h=>h.drew) (by kernel_rfl) (by kernel_rfl) (Ev.aG (Ev.aG (Ev.bC (by rw[ha];rfl) hdf) (by rw[ha];rfl)) (by rw[ha];rfl)) (Below.refl _ _) ?_
 intro b W s hd ht hS
 refine bodyPost_ret (results_tmp rfl _ _ _) hd ?_
 rw[hg]
 exact⟨by rw[show b.tmps.getD 4 undef=.bool (jq i j eL)from eval_at ht],hB1.trans (hS.mono hB1.size)⟩
def mX (Q:Ps.Req)(lv:Value):List Value:=([.int .i64 Q.op,.string Q.sender,.string Q.ref]:List Value)++aB Q.ins lv++aH Q.amd
def Ej (g:Nat)(Q:Ps.Req)(lv:Value):List (Option (Nat×Nat)×List Value):=[(some (g,0),mX Q lv),(none,aB {} (.slice none 0 0)),(none,aH {})]
def K9 (V:Nat->ByteArray->Bool)(g:Nat)(Q:Ps.Req)(lv:Value)(xi xa:Int)(sm:Bool)(f:FuncId)(vs:List AV):Option Value:=
 if f=80 then(match vs with
  |[.v (.int .i64 k),.r 0 j]=>if (k=1\/k=2)/\(j=1\/j=2)then some (.bool (V k.toNat (if j=1 then Q.sender else Q.ref)))else none
  |_=>none)
 else if f=81 then(match vs with|[.a 0 3 16]=>some (.int .i64 xi)|_=>none)
 else if f=35 then(match vs with|[.a 0 3 16,.a 1 0 16]=>some (.bool sm)|_=>none)
 else if f=82 then(match vs with|[.a 0 19 9]=>some (.int .i64 xa)|_=>none)
 else wC (List.map (iX (Ej g Q lv))) f vs
def Fh (V:AV->Value)(Q:Ps.Req)(o:Oper)(ov:Operand->Option AV):Option AV:=match o.op with
 | .build t ps=>(match ps.toList with
   |[]=>if t=34 then some (.a 1 0 16)else if t=35 then some (.a 2 0 9)else none
   |_=>Ev.qG V o ov)
 | .binOp .neq t x y _=>if t=35 then(match ov x,ov y with
   |some (.a 0 19 9),some (.a 2 0 9)=>some (.v (.bool (!decide Q.amd.none)))
   |_,_=>none)else none
 |_=>none
def rqM (V:Nat->ByteArray->Bool)(g:Nat)(Q:Ps.Req)(lv:Value)(xi xa:Int)(sm:Bool):Mem Unit:=oJ kz (Ej g Q lv) (K9 V g Q lv xi xa sm) (Fh (iX (Ej g Q lv)) Q)
def o7 (V:Nat->ByteArray->Bool)(Q:Ps.Req)(xi xa:Int)(sm:Bool):Int:=
 if (aS [(!inB Q.op 0 4,11),(!V 1 Q.sender,6),(!V 2 Q.ref,6)] !=0)=true then aS [(!inB Q.op 0 4,11),(!V 1 Q.sender,6),(!V 2 Q.ref,6)]
 else if (Q.op==0)=true then(if (xi !=0)=true then xi else if (aS [(!(Q.ins.ref.toList==Q.ref.toList)||!(Q.ins.sender.toList==Q.sender.toList),17)] !=0)=true then aS [(!(Q.ins.ref.toList==Q.ref.toList)||!(Q.ins.sender.toList==Q.sender.toList),17)]else if (Q.op==1)=true then xa else aS [(!decide Q.amd.none,3)])
 else if (aS [(!sm,3)] !=0)=true then aS [(!sm,3)]else if (Q.op==1)=true then xa else aS [(!decide Q.amd.none,3)]
theorem rq_w1 (w:World)(V:Nat->ByteArray->Bool)(Q:Ps.Req)(sa:Option Addr)(sn sc:Nat)(xi xa:Int)(sm:Bool)
 (cV:∀(W1:World) (k:Nat) (s:ByteArray),k<3->Below w.heap.size w W1->Calls Tryz.prog 80 #[.int .i64 k,.string s] W1 λe w'=>e=.returned (.bool (V k s))/\Below W1.heap.size W1 w')
 (nI:∀W,Below w.heap.size w W->Calls Tryz.prog 81 #[.agg (aB Q.ins (.slice sa sn sc)).toArray] W λe w'=>e=.returned (.int .i64 xi)/\Below W.heap.size W w')
 (nS:∀W,Below w.heap.size w W->Calls Tryz.prog 35 #[.agg (aB Q.ins (.slice sa sn sc)).toArray,.agg (aB {} (.slice none 0 0)).toArray] W λe w'=>e=.returned (.bool sm)/\Below W.heap.size W w')
 (nA:∀W,Below w.heap.size w W->Calls Tryz.prog 82 #[.agg (aH Q.amd).toArray] W λe w'=>e=.returned (.int .i64 xa)/\Below W.heap.size W w'):
 Calls Tryz.prog 30 #[.agg (aA Q (.slice sa sn sc))] w λe w'=>e=.returned (.int .i64 (o7 V Q xi xa sm))/\Below w.heap.size w w':=by
 go_enter Tryz.func30,Tryz.ntmps30
 refine wp_seq ?_
 refine wp_region_lit ?_
 refine wpList_plain rfl (λK hK=>?_)
 go_simp
 refine hK _ _ ?_
 clear hK K
 refine wpList_plain rfl (λK hK=>?_)
 go_simp
 refine hK _ _ ?_
 clear hK K
 refine aT ?_
 obtain⟨g,hg⟩:∃g,g=w.heap.size:=⟨_,rfl⟩
 obtain⟨W1,hW1⟩:∃W1,W1=w.alloc (.cells (aA Q (.slice sa sn sc)) 37):=⟨_,rfl⟩
 have hrow:∀W,Below W1.heap.size W1 W->W.heap[g]? =some (.cells (mX Q (.slice sa sn sc)).toArray 37 (0,0)):=λW hW=>by
  rw[hW.block g (by rw[hW1,hg];simp),hW1,hg];exact aC w _
 have hB1:Below w.heap.size w W1:=by rw[hW1];exact(Below.refl _ _).alloc (Nat.le_refl _) _
 have fin:∀{f:FuncId} {args:Array Value} {v:Value},(∀W,Below w.heap.size w W->Calls Tryz.prog f args W λe w'=>e=.returned v/\Below W.heap.size W w')->∀W,Below W1.heap.size W1 W->Calls Tryz.prog f args W λe w'=>e=.returned v/\Below W1.heap.size W1 w':=λh W hW=>(h W (hB1.trans (hW.mono hB1.size))).mono λe w' k=>⟨k.1,hW.trans (k.2.mono hW.size)⟩
 rw[<-hg,<-hW1]
 clear hW1
 refine oF rfl λa ha hdf=>?_
 have hO:Ev.Ok Tryz.prog (λ(_:Unit) W=>Below W1.heap.size W1 W) (rqM V g Q (.slice sa sn sc) xi xa sm):=by
  refine Ev.oL (λt f d h=>mI h) (λq b o l h W hS=>?_) (λf vs v h=>?_) (λo ov v h ρ hov W hS=>?_)
  ·rcases q with _|_|_|q
   ·cases h;exact gu hrow W hS
   ·cases h
   ·cases h
   ·cases h
  ·unfold K9 at h
   split at h
   ·rename_i hf
    subst hf
    split at h
    ·split at h
     ·rename_i k j hk
      cases h
      rcases hk with⟨rfl|rfl,rfl|rfl⟩
      ·exact⟨Bq,fin (λW hW=>cV W 1 Q.sender (by decide) hW)⟩
      ·exact⟨Bq,fin (λW hW=>cV W 1 Q.ref (by decide) hW)⟩
      ·exact⟨Bq,fin (λW hW=>cV W 2 Q.sender (by decide) hW)⟩
      ·exact⟨Bq,fin (λW hW=>cV W 2 Q.ref (by decide) hW)⟩
     ·cases h
    ·cases h
   split at h
   ·rename_i hf
    subst hf
    split at h
    ·cases h
     exact⟨enters_of Tryz.func81 (by kernel_rfl) rfl,fin nI⟩
    ·cases h
   split at h
   ·rename_i hf
    subst hf
    split at h
    ·cases h
     exact⟨enters_of Tryz.func35 (by kernel_rfl) rfl,fin nS⟩
    ·cases h
   split at h
   ·rename_i hf
    subst hf
    split at h
    ·cases h
     exact⟨enters_of Tryz.func82 (by kernel_rfl) rfl,fin nA⟩
    ·cases h
   exact qg h
  ·unfold Fh at h
   split at h
   ·rename_i t ps ho
    split at h
    ·rename_i hps
     have hps2:ps=#[]:=by rw[<-Array.toArray_toList (xs:=ps),hps]
     subst hps2
     split at h
     ·rename_i ht
      subst ht
      cases h
      unfold execOp
      simp only[ho,Sem.run_bind,bd25,Result.andThen_ok]
      rfl
     ·split at h
      ·rename_i ht
       subst ht
       cases h
       unfold execOp
       simp only[ho,Sem.run_bind,bd27,Result.andThen_ok]
       rfl
      ·cases h
    ·exact Ev.ny h hov (λ_=>rfl) W
   ·rename_i t x y t2 ho
    split at h
    ·rename_i ht
     subst ht
     split at h
     ·rename_i h1 h2
      cases h
      have e1:ρ x=.agg (aH Q.amd).toArray:=hov _ _ h1
      have e2:ρ y=.agg (aH {}).toArray:=hov _ _ h2
      unfold execOp
      simp only[ho,e1,e2]
      rw[Sem.run_bind,ne27]
      rfl
     ·cases h
    ·cases h
   ·cases h
 refine Ev.J4 (W0:=W1) (M:=rqM V g Q (.slice sa sn sc) xi xa sm) (n:=77) (K:=[(1,.p 0 0)]) (v:=o7 V Q xi xa sm) 2 hO (by kernel_rfl) (by kernel_rfl) (Ev.aG (Ev.bC (by rw[ha];rfl) hdf) (by rw[ha];rfl)) (Below.refl _ _) ?_
 intro b W hd ht hS
 refine bodyPost_ret (results_tmp rfl _ _ _) hd ?_
 rw[hg]
 exact⟨by rw[show b.tmps.getD 2 undef=.int .i64 (o7 V Q xi xa sm)from eval_at ht],hB1.trans (hS.mono hB1.size)⟩
open Go.Proofs.YtnjjeapcalkmaaaGreatDoor.Ev (AV Mem Fr oJ az iX Sh Stop Qof ah dw bH jA nQ fmC)
def LB (V:Nat->ByteArray->Bool)(i:Ps.Ins)(k:Nat)(x:Ps.Link)(rows:List (Option (Nat×Nat)×List Value))(f:FuncId)(vs:List AV):Option Value:=
 if f=80 then(match vs.map (iX rows)with|[.int .i64 m,.string s]=>if m=0\/m=1\/m=2 then some (.bool (V m.toNat s))else none|_=>none)
 else if f=138 then(match vs with|[.a 0 0 16]=>some (.bool ((i.kind==3)||(i.kind==4)))|_=>none)
 else if f=139 then(match vs with|[.a 0 0 16]=>some (.bool ((i.kind==1)||(i.kind==2)))|_=>none)
 else if f=140 then(match vs with|[.a 0 0 16]=>some (.bool (if (i.kind==0)=true then(i.asset.toList==[67,65,83,72])else V 0 i.asset))|_=>none)
 else if f=143 then(match vs with|[.a 0 0 16]=>some (.int .i64 (if i.partial_=true then i.quantity else 0))|_=>none)
 else if f=144 then(match vs,az rows 1 1 with|[.r 1 1,.r 1 2],.slice _ _ _=>some (.bool (iH (i.links.take k) x.ref))|_,_=>none)
 else wC (List.map (iX rows)) f vs
def GR (rows:List (Option (Nat×Nat)×List Value))(o:Oper)(ov:Operand->Option AV):Option AV:=match o.op with
 | .call ⟨.builtin .len,xs,ts⟩=>(match xs.toList,ts.toList with
   |[x],[t]=>if o.type=3/\t=32 then(match ov x with
    |some a=>match iX rows a with
     | .slice _ n _=>some (.v (.int .i64 (n:Int)))
     |_=>none
    |none=>none)else none
   |_,_=>none)
 | .slice t x none (some y) none=>if t=32 then(match ov x,ov y with
   |some (.r 0 15),some (.r 1 0)=>(match az rows 1 1 with
    | .slice _ _ _=>some (.r 1 1)
    |_=>none)
   |_,_=>none)else none
 | .makeFunc (.func f) fs cs=>(match fs.toList,cs.toList with
   |[],[x]=>if f=145 then(match ov x with
    |some (.p 2 0)=>(match az rows 1 1 with
     | .slice _ _ _=>some (.r 1 2)
     |_=>none)
    |_=>none)else none
   |_,_=>none)
 |_=>Ev.qG (iX rows) o ov
def ckM (V:Nat->ByteArray->Bool)(i:Ps.Ins)(k:Nat)(x:Ps.Link)(rows:List (Option (Nat×Nat)×List Value)):Mem Unit:=oJ kz rows (LB V i k x rows) (GR rows)
def J9 (g:Nat)(i:Ps.Ins)(lv:Value):List (Option (Nat×Nat)×List Value):=[(some (g,0),aB i lv)]
def Ni (g:Nat)(i:Ps.Ins)(sb sn sc k h:Nat)(x:Ps.Link):List (Option (Nat×Nat)×List Value):=[(some (g,0),aB i (.slice (some ⟨sb,0,none⟩) sn sc)),(none,[.int .i64 k,.slice (some ⟨sb,0,none⟩) k sc,.func (.func 145) #[] #[.pointer (some ⟨h,0,none⟩)]]),(some (h,0),[.int .i64 x.type,.string x.ref])]
def CkIn (i:Ps.Ins)(k:Nat)(x:Ps.Link)(rows:List (Option (Nat×Nat)×List Value))(W0:World):Prop:=∃(sb h c sn:Nat),az rows 0 15=.slice (some ⟨sb,0,none⟩) sn c/\az rows 1 0=.int .i64 (k:Int)/\az rows 1 1=.slice (some ⟨sb,0,none⟩) k c/\az rows 1 2=.func (.func 145) #[] #[.pointer (some ⟨h,0,none⟩)]/\iX rows (.p 2 0)=.pointer (some ⟨h,0,none⟩)/\k<=sn/\sn<=c/\sn<=1000/\
 ∀w,Below W0.heap.size W0 w->Calls Tryz.prog 144 #[.slice (some ⟨sb,0,none⟩) k c,.func (.func 145) #[] #[.pointer (some ⟨h,0,none⟩)]] w λe w'=>e=.returned (.bool (iH (i.links.take k) x.ref))/\Below w.heap.size w w'
theorem MW {V:Nat->ByteArray->Bool}{i:Ps.Ins}{k:Nat}{x:Ps.Link}{lv:Value}{o:Option (Nat×Nat)}{rs:List (Option (Nat×Nat)×List Value)}{W0:World}(hrow:∀(k b o2:Nat) (l:List Value),((o,aB i lv)::rs)[k]? =some (some (b,o2),l)->∀w,Below W0.heap.size W0 w->∀(j:Nat) (v:Value),l[j]? =some v->w.cell? ⟨b,o2+j,none⟩=some v)
 (hV:∀(m:Nat) (s:ByteArray) (w':World),m<3->Below W0.heap.size W0 w'->Calls Tryz.prog 80 #[.int .i64 m,.string s] w' λe w''=>e=.returned (.bool (V m s))/\Below w'.heap.size w' w'')
 (hc:∀sb n c,az ((o,aB i lv)::rs) 1 1=.slice sb n c->CkIn i k x ((o,aB i lv)::rs) W0):
 Ev.Ok Tryz.prog (λ(_:Unit) w=>Below W0.heap.size W0 w) (ckM V i k x ((o,aB i lv)::rs)):=by
 have agg0:iX ((o,aB i lv)::rs) (.a 0 0 16)=.agg (aB i lv).toArray:=rfl
 have fin:∀{f:FuncId} {args:Array Value} {v:Value} {w:World},Below W0.heap.size W0 w->(Calls Tryz.prog f args w λe w'=>e=.returned v/\Below w.heap.size w w')->Calls Tryz.prog f args w λe w'=>e=.returned v/\Below W0.heap.size W0 w':=λhw h=>h.mono λe w' k=>⟨k.1,hw.trans (k.2.mono hw.size)⟩
 refine Ev.oL (λt f d h=>mI h) hrow (λf vs v h=>?_) (λop ov v h ρ hov w hS=>?_)
 ·unfold LB at h
  split at h
  ·rename_i hf
   subst hf
   split at h
   ·rename_i m s hm
    split at h
    ·rename_i h3
     cases h
     rw[hm]
     obtain⟨n,hn,hk3⟩:∃n:Nat,m=(n:Int)/\n<3:=by
      rcases h3 with rfl|rfl|rfl
      ·exact⟨0,rfl,by decide⟩
      ·exact⟨1,rfl,by decide⟩
      ·exact⟨2,rfl,by decide⟩
     subst hn
     exact⟨Bq,λw hw=>fin hw (hV n s w hk3 hw)⟩
    ·cases h
   ·cases h
  split at h
  ·rename_i hf
   subst hf
   split at h
   ·cases h
    exact⟨ent105,λw hw=>fin hw (is_col w i lv _ _ rfl rfl)⟩
   ·cases h
  split at h
  ·rename_i hf
   subst hf
   split at h
   ·cases h
    exact⟨ent106,λw hw=>fin hw (is_sec w i lv _ _ rfl rfl)⟩
   ·cases h
  split at h
  ·rename_i hf
   subst hf
   split at h
   ·cases h
    exact⟨ent107,λw hw=>fin hw (M4 w i lv _ _ _ rfl rfl λw' hw'=>hV 0 i.asset w' (by decide) (hw.trans (hw'.mono hw.size)))⟩
   ·cases h
  split at h
  ·rename_i hf
   subst hf
   split at h
   ·cases h
    exact⟨ent110,λw hw=>fin hw (Px w i lv _ rfl)⟩
   ·cases h
  split at h
  ·rename_i hf
   subst hf
   split at h
   ·rename_i sb n c h11
    cases h
    obtain⟨sb,h,c,sn,k1,k2,k3,k4,k5,k6,k7,k8,k9⟩:=hc _ _ _ h11
    refine⟨ent111,λw hw=>?_⟩
    have e1:List.map (iX ((o,aB i lv)::rs)) [AV.r 1 1,.r 1 2]=[.slice (some ⟨sb,0,none⟩) k c,.func (.func 145) #[] #[.pointer (some ⟨h,0,none⟩)]]:=by
     simp only[List.map_cons,List.map_nil]
     rw[show iX ((o,aB i lv)::rs) (.r 1 1)=_ from k3,show iX ((o,aB i lv)::rs) (.r 1 2)=_ from k4]
    rw[e1]
    exact fin hw (k9 w hw)
   ·cases h
  exact qg h
 ·unfold GR at h
  split at h
  ·rename_i xs ts ho
   split at h
   ·rename_i x t hx ht2
    split at h
    ·rename_i ht
     obtain⟨ht,rfl⟩:=ht
     split at h
     ·rename_i a ha
      split at h
      ·rename_i sa n c hv
       cases h
       have h1:=hov _ _ ha
       rw[hv]at h1
       have hxs:xs=#[x]:=by rw[<-Array.toArray_toList (xs:=xs),hx]
       have hts:ts=#[32]:=by rw[<-Array.toArray_toList (xs:=ts),ht2]
       subst hxs
       subst hts
       clear hrow hV hc fin agg0 hov hx ht2 ha hv
       unfold execOp
       simp only[ho,ht]
       go_simp
       rfl
      ·cases h
     ·cases h
    ·cases h
   ·cases h
  ·rename_i t x y ho
   split at h
   ·rename_i ht
    subst ht
    split at h
    ·rename_i h1 h2
     split at h
     ·rename_i sb n c h11
      cases h
      obtain⟨sb,h,c,sn,k1,k2,k3,k4,k5,k6,k7,k8,k9⟩:=hc _ _ _ h11
      have e1:ρ x=.slice (some ⟨sb,0,none⟩) sn c:=(hov _ _ h1).trans k1
      have e2:ρ y=.int .i64 (k:Int):=(hov _ _ h2).trans k2
      rw[show iX ((o,aB i lv)::rs) (.r 1 1)=_ from k3]
      unfold execOp
      simp only[ho,e1,e2,Option.map_some,Option.map_none,Sem.run_bind,sl_to _ sn c k k6 k7 k8 w,Result.andThen_ok]
      rfl
     ·cases h
    ·cases h
   ·cases h
  ·rename_i f fs cs ho
   split at h
   ·rename_i x hfs hcs
    split at h
    ·rename_i hf
     subst hf
     split at h
     ·rename_i hx
      split at h
      ·rename_i sb n c h11
       cases h
       obtain⟨sb,h,c,sn,k1,k2,k3,k4,k5,k6,k7,k8,k9⟩:=hc _ _ _ h11
       have e1:ρ x=.pointer (some ⟨h,0,none⟩):=(hov _ _ hx).trans k5
       have hf1:fs=#[]:=by rw[<-Array.toArray_toList (xs:=fs),hfs]
       have hc1:cs=#[x]:=by rw[<-Array.toArray_toList (xs:=cs),hcs]
       subst hf1
       subst hc1
       rw[show iX ((o,aB i lv)::rs) (.r 1 2)=_ from k4]
       clear hrow hV hc fin agg0 hov k9 k1 k2 k3 k4 k5 h11
       unfold execOp
       simp only[ho,List.map_toArray,List.map_cons,List.map_nil,e1]
       go_simp
      ·cases h
     ·cases h
    ·cases h
   ·cases h
  ·exact Ev.ny h hov (λ_=>rfl) w
noncomputable def ckC:Code:=match Tryz.f81.body.getD .skip with
 | .seq _ (.seq _ c)=>c
 |c=>c
noncomputable def ckL:Code×List Ev.Fm:=ah dw ckC
noncomputable def ckG:Code×List Ev.Fm:=ah (bH 6) (jA ckL.1)
theorem Oq {Q:Exit->Act->World->Prop}{a:Act}{w:World}{id:Nat}{o1 o2 o3 o4 o5 o6:Oper}{sb sn sc k:Nat}{x:Ps.Link}(h1:o1.op=.move (.tmp 191))(h1d:o1.dst=some 193)(g1:o1.guard=none)(h2:o2.op=.indexAddr 32 (.tmp 189) (.tmp 191))(QZ:o2.dst=some 194)(g2:o2.guard=none)(h3:o3.op=.load 129 (.tmp 194))(QO:o3.dst=some 195)(g3:o3.guard=none)
 (h4:o4.op=.alloc 129) (h4d:o4.dst=some 5) (g4:o4.guard=none) (h5:o5.op=.assign (.tmp 193)) (h5d:o5.dst=some 4) (g5:o5.guard=none) (h6:o6.op=.store 129 (.tmp 5) (.tmp 195)) (h6d:o6.dst=none) (g6:o6.guard=none)
 (hsz:a.tmps.size=225) (ht:a.tmps[191]? =some (.int .i64 (k:Int))) (hs:a.tmps[189]? =some (.slice (some ⟨sb,0,none⟩) sn sc)) (hk:k<sn) (c0:w.cell? ⟨sb,k*2,none⟩=some (.int .i64 x.type)) (c1:w.cell? ⟨sb,k*2+1,none⟩=some (.string x.ref))
 (hend:∀b:Act,b.defers=a.defers->b.tmps.size=225->b.tmps[5]? =some (.pointer (some ⟨w.heap.size,0,none⟩))->b.tmps[4]? =some (.int .i64 (k:Int))->(∀s:Nat,s≠4->s≠5->s≠193->s≠194->s≠195->b.tmps[s]? =a.tmps[s]?)->Q .normal b (w.alloc (.cells #[.int .i64 x.type,.string x.ref] 129))):(Code.region id #[o1,o2,o3,o4,o5,o6] false).wp Tryz.prog Q a w:=by
 have hkI:(k:Int)<(sn:Int):=by omega
 refine wp_region_lit ?_
 refine lK g1 h1d (u:=.int .i64 (k:Int)) (by unfold execOp;rw[h1];simp only[eval_at ht];rfl) ?_
 obtain⟨t1,ht1⟩:∃t1,t1=a.tmps.setIfInBounds 193 (.int .i64 (k:Int)):=⟨_,rfl⟩
 have z1:t1.size=225:=by rw[ht1];simp[hsz]
 have r1:∀s:Nat,s≠193->t1[s]? =a.tmps[s]?:=λs n=>by rw[ht1,Array.getElem?_setIfInBounds_ne (λh=>n h.symm)]
 have q193:t1[193]? =some (.int .i64 (k:Int)):=by rw[ht1];simp[hsz]
 have q189:=(r1 189 (by decide)).trans hs
 have q191:=(r1 191 (by decide)).trans ht
 rw[<-ht1]
 clear ht1
 refine lK g2 QZ (u:=.pointer (some ⟨sb,k*2,none⟩)) (by
  have e1:(⟨t1,a.defers⟩:Act).eval (.tmp 189)=.slice (some ⟨sb,0,none⟩) sn sc:=eval_at q189
  have e2:(⟨t1,a.defers⟩:Act).eval (.tmp 191)=.int .i64 (k:Int):=eval_at q191
  clear hend q189 q191 q193 ht hs r1
  unfold execOp
  simp only[h2,e1,e2]
  go_simp) ?_
 obtain⟨t2,ht2⟩:∃t2,t2=t1.setIfInBounds 194 (.pointer (some ⟨sb,k*2,none⟩)):=⟨_,rfl⟩
 have z2:t2.size=225:=by rw[ht2];simp[z1]
 have r2:∀s:Nat,s≠194->t2[s]? =t1[s]?:=λs n=>by rw[ht2,Array.getElem?_setIfInBounds_ne (λh=>n h.symm)]
 have q194:t2[194]? =some (.pointer (some ⟨sb,k*2,none⟩)):=by rw[ht2];simp[z1]
 rw[<-ht2]
 clear ht2
 refine iO g3 QO h3 (v:=.pointer (some ⟨sb,k*2,none⟩)) (eval_at q194) (u:=.agg #[.int .i64 x.type,.string x.ref]) (Ev.zV (t:=129) (n:=2) (by kernel_rfl) sb (k*2) w (λj=>([.int .i64 x.type,.string x.ref]:List Value).getD j (.bool false)) (λj hj=>match j,hj with|0,_=>c0|1,_=>c1|j+2,h=>absurd h (by omega))) ?_
 obtain⟨t3,ht3⟩:∃t3,t3=t2.setIfInBounds 195 (.agg #[.int .i64 x.type,.string x.ref]):=⟨_,rfl⟩
 have z3:t3.size=225:=by rw[ht3];simp[z2]
 have r3:∀s:Nat,s≠195->t3[s]? =t2[s]?:=λs n=>by rw[ht3,Array.getElem?_setIfInBounds_ne (λh=>n h.symm)]
 have q195:t3[195]? =some (.agg #[.int .i64 x.type,.string x.ref]):=by rw[ht3];simp[z2]
 rw[<-ht3]
 clear ht3
 refine wpList_plain g4 λK hK=>?_
 unfold Oper.wp
 rw[show(execOp (⟨t3,a.defers⟩:Act).eval o4).run Tryz.prog w=.ok (.value (.pointer (some ⟨w.heap.size,0,none⟩))) (w.alloc (.cells #[.int .i64 0,.string ByteArray.empty] 129))from by
  clear hend hK c0 c1 q189 q191 q193 q194 q195 ht hs r1 r2 r3
  unfold execOp;rw[h4];go_simp;first|done|rfl]
 refine hK _ _ ?_
 rw[h4d]
 show wpList _ _ _ _ ⟨t3.setIfInBounds 5 (.pointer (some ⟨w.heap.size,0,none⟩)),a.defers⟩ _
 obtain⟨t4,ht4⟩:∃t4,t4=t3.setIfInBounds 5 (.pointer (some ⟨w.heap.size,0,none⟩)):=⟨_,rfl⟩
 have z4:t4.size=225:=by rw[ht4];simp[z3]
 have r4:∀s:Nat,s≠5->t4[s]? =t3[s]?:=λs n=>by rw[ht4,Array.getElem?_setIfInBounds_ne (λh=>n h.symm)]
 have q5:t4[5]? =some (.pointer (some ⟨w.heap.size,0,none⟩)):=by rw[ht4];simp[z3]
 rw[<-ht4]
 clear ht4 hK
 have q193':t4[193]? =some (.int .i64 (k:Int)):=by rw[r4 193 (by decide),r3 193 (by decide),r2 193 (by decide)];exact q193
 refine lK g5 h5d (u:=.int .i64 (k:Int)) (by
  have e1:(⟨t4,a.defers⟩:Act).eval (.tmp 193)=.int .i64 (k:Int):=eval_at q193'
  unfold execOp;simp only[h5,e1];rfl) ?_
 refine FE (w':=w.alloc (.cells #[.int .i64 x.type,.string x.ref] 129)) g6 h6d ?_ ?_
 ·have e1:(⟨t4.setIfInBounds 4 (.int .i64 (k:Int)),a.defers⟩:Act).eval (.tmp 5)=.pointer (some ⟨w.heap.size,0,none⟩):=eval_at (by rw[Array.getElem?_setIfInBounds_ne (by decide)];exact q5)
  have e2:(⟨t4.setIfInBounds 4 (.int .i64 (k:Int)),a.defers⟩:Act).eval (.tmp 195)=.agg #[.int .i64 x.type,.string x.ref]:=eval_at (by rw[Array.getElem?_setIfInBounds_ne (by decide),r4 195 (by decide)];exact q195)
  unfold execOp
  simp only[h6,e1,e2]
  clear hend c0 c1 e1 e2 q189 q191 q193 q193' q194 q195 q5 ht hs r1 r2 r3 r4
  go_simp
  first|done|rfl
 refine aT ?_
 refine hend _ rfl (by simp[z4]) (by rw[Array.getElem?_setIfInBounds_ne (by decide)];exact q5) (by simp[z4]) λs n1 n2 n3 n4 n5=>?_
 rw[Array.getElem?_setIfInBounds_ne (λh=>n1 h.symm),r4 s n2,r3 s n5,r2 s n4,r1 s n3]
theorem in_w1 (w:World)(i:Ps.Ins)(sa:Option Addr)(sn sc:Nat)(V:Nat->ByteArray->Bool)(x x1 xL:Int)(hx1:x1=aS (fe V i sn))(hn8:x1=0->sn<=8)(HSN:Hid (sn=i.links.length))(HSC:Hid (sn<=sc))(hLE:Hid (Ps.jM V i [] i.links=xL))(HLK:Hid (0<sn->∃sb,sa=some ⟨sb,0,none⟩/\∀W,Below w.heap.size w W->jX W sb i.links))(hx:x=if x1≠0 then x1 else xL)(hV0:∀(s:ByteArray) (w':World),Below w.heap.size w w'->Calls Tryz.prog 80 #[.int .i64 0,.string s] w' λe w''=>e=.returned (.bool (V 0 s))/\Below w'.heap.size w' w'')(hV1:∀(s:ByteArray) (w':World),Below w.heap.size w w'->Calls Tryz.prog 80 #[.int .i64 1,.string s] w' λe w''=>e=.returned (.bool (V 1 s))/\Below w'.heap.size w' w'')(hV2:∀(s:ByteArray) (w':World),Below w.heap.size w w'->Calls Tryz.prog 80 #[.int .i64 2,.string s] w' λe w''=>e=.returned (.bool (V 2 s))/\Below w'.heap.size w' w'')
 :Calls Tryz.prog 81 #[.agg (aB i (.slice sa sn sc)).toArray] w λe w'=>e=.returned (.int .i64 x)/\Below w.heap.size w w':=by
 go_enter Tryz.func81,Tryz.ntmps81
 refine wp_seq ?_
 refine wp_region_lit ?_
 refine wpList_plain rfl (λK hK=>?_)
 go_simp
 refine hK _ _ ?_
 clear hK K
 refine wpList_plain rfl (λK hK=>?_)
 go_simp
 refine hK _ _ ?_
 clear hK K
 refine aT ?_
 obtain⟨g,hg⟩:∃g,g=w.heap.size:=⟨_,rfl⟩
 obtain⟨W1,hW1⟩:∃W1,W1=w.alloc (.cells (aB i (.slice sa sn sc)).toArray 34):=⟨_,rfl⟩
 have hrow:∀W,Below W1.heap.size W1 W->W.heap[g]? =some (.cells (aB i (.slice sa sn sc)).toArray 34 (0,0)):=λW hW=>by
  rw[hW.block g (by rw[hW1,hg];simp),hW1,hg];exact aC w _
 have hB1:Below w.heap.size w W1:=by rw[hW1];exact(Below.refl _ _).alloc (Nat.le_refl _) _
 have up:∀W,Below W1.heap.size W1 W->Below w.heap.size w W:=λW hW=>hB1.trans (hW.mono hB1.size)
 have hV:∀(m:Nat) (s:ByteArray) (w':World),m<3->Below w.heap.size w w'->Calls Tryz.prog 80 #[.int .i64 m,.string s] w' λe w''=>e=.returned (.bool (V m s))/\Below w'.heap.size w' w'':=λm s w' hm hw=>by
  rcases m with _|_|_|m
  ·exact hV0 s w' hw
  ·exact hV1 s w' hw
  ·exact hV2 s w' hw
  ·omega
 rw[<-hg,<-hW1]
 clear hW1 hV0 hV1 hV2
 refine oF rfl λa ha hdf=>?_
 have hret:∀(b:Act) (W:World),b.defers=[]->b.tmps[2]? =some (.int .i64 x)->Below W1.heap.size W1 W->bodyPost Tryz.prog Tryz.f81 (λe w'=>e=.returned (.int .i64 x)/\Below g w w') .ret b W:=λb W hd ht hS=>by
  refine bodyPost_ret (results_tmp rfl _ _ _) hd ?_
  rw[hg]
  exact⟨by rw[show b.tmps.getD 2 undef=.int .i64 x from eval_at ht],hB1.trans (hS.mono hB1.size)⟩
 have hO1:Ev.Ok Tryz.prog (λ(_:Unit) W=>Below W1.heap.size W1 W) (ckM V i 0 ⟨0,⟨#[]⟩⟩ (J9 g i (.slice sa sn sc))):=MW (o:=some (g,0)) (rs:=[]) (λq b o2 l h W hW=>by
  rcases q with _|q
  ·cases h;exact gu hrow W hW
  ·cases h) (λm s w' hm hw=>hV m s w' hm (up _ hw)) (λsb n c h=>by cases h)
 refine wp_seq ?_
 refine Ev.mE (W0:=W1) (m:=225) (M:=ckM V i 0 ⟨0,⟨#[]⟩⟩ (J9 g i (.slice sa sn sc))) (K:=[(1,.p 0 0)]) 176 3 (fe V i sn) hO1 (by kernel_rfl) (Ev.aG (Ev.bC (by rw[ha];rfl) hdf) (by rw[ha];rfl)) (Below.refl _ _) (show 0<20 by decide) (show 20<=1000 by decide) (by kernel_rfl) (by kernel_rfl) ?_
 intro b W hB hF
 rw[<-hx1]at hF
 have f3:=hF.look 3 _ rfl
 have f1:=hF.look 1 _ rfl
 show ckC.wp Tryz.prog _ b W
 have hxv:(if (x1 !=0)=true then x1 else xL)=x:=by
  rw[hx]
  by_cases h:x1=0
  ·simp[h]
  ·simp[h]
 refine Ev.FY (M:=ckM V i 0 ⟨0,⟨#[]⟩⟩ (J9 g i (.slice sa sn sc))) (S:=λ_ W=>Below W1.heap.size W1 W) (n:=225) (K:=[(1,.p 0 0),(3,.v (.int .i64 x1))]) (s:=()) (v:=if (x1 !=0)=true then x1 else xL) (hv:=xL) (l:=[(ckL.1,ckL.2,[some (.p 0 0),some (.r 0 15),some (.v (.int .i64 (sn:Int))),some (.v (.int .i64 0))],(),[!(x1 !=0)])]) 2 [1,189,190,191] [0] hO1 (λ_ W h=>h.drew) (by kernel_rfl) (by kernel_rfl) (Ev.aG (Ev.aG (Ev.bC hF.size hF.defers) f3) f1) hB (λb W _ hd ht hS=>hret b W hd (by rw[<-hxv];exact ht) hS) ?_
 intro hvx y hy hcs b W hst hS
 rw[List.mem_singleton]at hy
 subst hy
 have hx10:x1=0:=by
  have h8:=hcs _ (List.mem_singleton.2 rfl)
  simpa using h8
 have hxL:x=xL:=by rw[hx,if_neg (by rw[hx10];simp)]
 have hsn8:=hn8 hx10
 clear hcs hvx hxv f1 f3 hF hB hx1 hn8 hx hx10 ha hdf
 obtain⟨h1,hst⟩:=hst.cons
 obtain⟨oQ,hst⟩:=hst.cons
 obtain⟨qh,hst⟩:=hst.cons
 obtain⟨nN,hst⟩:=hst.cons
 have e1:ckL.1=.loop (jA ckL.1):=by kernel_rfl
 have e2:ckL.2=[.bl 0,.sq (fmC ckL.2 1)]:=by kernel_rfl
 show ckL.1.wp Tryz.prog (Qof Tryz.prog ckL.2 _) b W
 rw[e1,e2]
 refine wp_loop (λa w=>∃k:Nat,k<=sn/\a.tmps.size=225/\a.defers=[]/\a.tmps[1]? =some (.pointer (some ⟨g,0,none⟩))/\a.tmps[189]? =some (.slice sa sn sc)/\a.tmps[190]? =some (.int .i64 (sn:Int))/\a.tmps[191]? =some (.int .i64 (k:Int))/\Below W1.heap.size W1 w/\Ps.jM V i (i.links.take k) (i.links.drop k)=x) (λa _=>match a.tmps[191]? with|some (Value.int _ k)=>sn-k.toNat|_=>0) ⟨0,Nat.zero_le _,hst.1,hst.2.1,h1,oQ,qh,nN,hS,by rw[hxL,<-hLE.out];rfl⟩ ?_
 clear hst h1 oQ qh nN hS hxL
 rintro b W ⟨k,hk,hsz,hdf,h1,oQ,qh,nN,hS,HX⟩
 have hm:(match b.tmps[191]? with|some (Value.int _ k)=>sn-k.toNat|_=>0)=sn-k:=by rw[nN];simp
 rw[hm]
 refine Ev.Jl (M:=ckM V i 0 ⟨0,⟨#[]⟩⟩ (J9 g i (.slice sa sn sc))) (S:=λ_ W=>Below W1.heap.size W1 W) (n:=225) (K:=[(1,.p 0 0),(189,.r 0 15),(190,.v (.int .i64 (sn:Int))),(191,.v (.int .i64 (k:Int)))]) (s:=()) [1,189,190,191] (.ite (decide ((k:Int)<(sn:Int))) (.go ckG [some (.p 0 0),some (.r 0 15),some (.v (.int .i64 (sn:Int))),some (.v (.int .i64 (k:Int)))] ()) (.out 0 [some (.p 0 0),some (.r 0 15),some (.v (.int .i64 (sn:Int))),some (.v (.int .i64 (k:Int)))] ())) hO1 (λ_ _ h=>h.drew) (by kernel_rfl) (Ev.aG (Ev.aG (Ev.aG (Ev.aG (Ev.bC hsz hdf) nN) qh) oQ) h1) hS ⟨λhc b W hst hS=>?_,λhc b W hst hS=>?_⟩
 rotate_left
 ·have hkn:¬k<sn:=by have:¬(k:Int)<(sn:Int):=by simpa using hc
                     omega
  have hx0:x=0:=by
   rw[<-HX,List.drop_eq_nil_of_le (by have:=HSN.out;omega)]
   rfl
  show(fmC ckL.2 1).wp Tryz.prog _ b W
  exact Ev.ex_int (M:=ckM V i 0 ⟨0,⟨#[]⟩⟩ (J9 g i (.slice sa sn sc))) (S:=λ_ W=>Below W1.heap.size W1 W) (n:=225) (K:=[]) (s:=()) (v:=x) 2 hO1 (λ_ _ h=>h.drew) (by rw[hx0];kernel_rfl) (by kernel_rfl) (Ev.bC hst.1 hst.2.1) hS λb W _ h1 h2 h3=>hret b W h1 h2 h3
 have hkn:k<sn:=by have:(k:Int)<(sn:Int):=by simpa using hc
                   omega
 clear h1 oQ qh nN hsz hdf hm hc
 obtain⟨h1,hst⟩:=hst.cons
 obtain⟨oQ,hst⟩:=hst.cons
 obtain⟨qh,hst⟩:=hst.cons
 obtain⟨nN,hst⟩:=hst.cons
 obtain⟨x0,hx0⟩:∃x0,i.links[k]? =some x0:=⟨_,List.getElem?_eq_getElem (by rw[<-HSN.out];exact hkn)⟩
 obtain⟨sb,rfl,hlr⟩:=HLK.out (by omega)
 have hLW:∀W,Below W1.heap.size W1 W->jX W sb i.links:=λW hW=>hlr W (up W hW)
 have hdrop:i.links.drop k=x0::i.links.drop (k+1):=by
  have h1:=List.drop_eq_getElem_cons (l:=i.links) (i:=k) (by rw[<-HSN.out];exact hkn)
  rw[h1]
  congr 1
  rw[List.getElem?_eq_getElem (by rw[<-HSN.out];exact hkn)]at hx0
  exact Option.some.inj hx0
 have htake:i.links.take (k+1)=i.links.take k++[x0]:=by rw[List.take_add_one,hx0];rfl
 rw[hdrop,Ao,<-htake]at HX
 have e4:ckG.2=[.sq (fmC ckG.2 0),.bl 1,.sq (fmC ckG.2 2)]:=by kernel_rfl
 show ckG.1.wp Tryz.prog (Qof Tryz.prog ckG.2 _) b W
 rw[e4]
 refine Oq (sb:=sb) (sn:=sn) (sc:=sc) (k:=k) (x:=x0) rfl rfl rfl rfl rfl rfl rfl rfl rfl rfl rfl rfl rfl rfl rfl rfl rfl rfl hst.1 nN oQ hkn (hLW W hS k x0 hx0).1 (hLW W hS k x0 hx0).2 ?_
 intro b2 hd2 hz2 h5 h4 hr2
 obtain⟨h,hh⟩:∃h,h=W.heap.size:=⟨_,rfl⟩
 obtain⟨Wh,hWh⟩:∃Wh,Wh=W.alloc (.cells #[.int .i64 x0.type,.string x0.ref] 129):=⟨_,rfl⟩
 have hBh:Below W1.heap.size W1 Wh:=by rw[hWh];exact hS.alloc hS.size _
 have yH:∀W,Below Wh.heap.size Wh W->W.heap[h]? =some (.cells [.int .i64 x0.type,.string x0.ref].toArray 129 (0,0)):=λW2 hW=>by
  rw[hW.block h (by rw[hWh,hh];simp),hWh,hh];exact aC W _
 have up2:∀W,Below Wh.heap.size Wh W->Below W1.heap.size W1 W:=λW hW=>hBh.trans (hW.mono hBh.size)
 rw[<-hWh]
 rw[<-hh]at h5
 have q1:=(hr2 1 (by decide) (by decide) (by decide) (by decide) (by decide)).trans h1
 have q189:=(hr2 189 (by decide) (by decide) (by decide) (by decide) (by decide)).trans oQ
 have q190:=(hr2 190 (by decide) (by decide) (by decide) (by decide) (by decide)).trans qh
 have q191:=(hr2 191 (by decide) (by decide) (by decide) (by decide) (by decide)).trans nN
 have hdf2:=hd2.trans hst.2.1
 clear h1 oQ qh nN hst hr2 hWh hh hS e4 hd2
 show(fmC ckG.2 0).wp Tryz.prog (Qof Tryz.prog [.bl 1,.sq (fmC ckG.2 2)] _) b2 Wh
 have hO2:Ev.Ok Tryz.prog (λ(_:Unit) W=>Below Wh.heap.size Wh W) (ckM V i k x0 (Ni g i sb sn sc k h x0)):=MW (o:=some (g,0)) (lv:=.slice (some ⟨sb,0,none⟩) sn sc) (λq b o2 l hq W hW=>by
  rcases q with _|_|_|q
  ·cases hq;exact gu hrow W (up2 W hW)
  ·cases hq
  ·cases hq;exact gu yH W hW
  ·cases hq) (λm s w' hm hw=>hV m s w' hm (up _ (up2 _ hw))) (λ_ _ _ _=>⟨sb,h,sc,sn,rfl,rfl,rfl,rfl,rfl,hk,HSC.out,by omega,λw hw=>Bw w sb h sc i.links x0.ref k (hLW w (up2 w hw)) (by have:=HSN.out;omega) (by have:=HSC.out;omega) (by omega) (by rw[cell_of_row _ _ _ _ _ _ (yH w hw)];rfl)⟩)
 have e7:fmC ckG.2 0=.seq (.region 7 (nQ (Ev.seqL (fmC ckG.2 0))) true) (Ev.qO (fmC ckG.2 0)):=by kernel_rfl
 rw[e7]
 refine wp_seq ?_
 refine Ev.mE (W0:=Wh) (m:=225) (M:=ckM V i k x0 (Ni g i sb sn sc k h x0)) (K:=[(1,.p 0 0),(5,.p 2 0),(4,.r 1 0),(189,.r 0 15),(190,.v (.int .i64 (sn:Int))),(191,.r 1 0)]) 23 6 (mG V i (i.links.take k) x0) hO2 (by kernel_rfl) (Ev.aG (Ev.aG (Ev.aG (Ev.aG (Ev.aG (Ev.aG (Ev.bC hz2 hdf2) q191) q190) q189) h4) h5) q1) (Below.refl _ _) (show 0<4 by decide) (show 4<=1000 by decide) (by kernel_rfl) (by kernel_rfl) ?_
 obtain⟨y,hy⟩:∃y,y=aS (mG V i (i.links.take k) x0):=⟨_,rfl⟩
 rw[<-hy]at HX⊢
 clear q1 q189 q190 q191 h4 h5 hz2 hdf2 e7
 intro b3 W3 hB3 hF3
 show(Ev.qO (fmC ckG.2 0)).wp Tryz.prog _ b3 W3
 refine Ev.Jl (M:=ckM V i k x0 (Ni g i sb sn sc k h x0)) (S:=λ_ W=>Below Wh.heap.size Wh W) (n:=225) (K:=[(6,.v (.int .i64 y)),(1,.p 0 0),(189,.r 0 15),(190,.v (.int .i64 (sn:Int))),(191,.r 1 0)]) (s:=()) [1,189,190,191,2] (.ite (y !=0) (.ret [some (.p 0 0),some (.r 0 15),some (.v (.int .i64 (sn:Int))),some (.r 1 0),some (.v (.int .i64 y))] ()) (.nx [some (.p 0 0),some (.r 0 15),some (.v (.int .i64 (sn:Int))),some (.r 1 0),none] ())) hO2 (λ_ _ h=>h.drew) (by kernel_rfl) (Ev.aG (Ev.aG (Ev.aG (Ev.aG (Ev.aG (Ev.bC hF3.size hF3.defers) (hF3.look 191 _ rfl)) (hF3.look 190 _ rfl)) (hF3.look 189 _ rfl)) (hF3.look 1 _ rfl)) (hF3.look 6 _ rfl)) hB3 ⟨λhc b W hst hS=>?_,λhc b W hst hS=>?_⟩
 ·have hy0:y≠0:=by simpa using hc
  rw[if_pos hy0]at HX
  refine hret b W hst.2.1 ?_ (up2 W hS)
  rw[<-HX]
  exact hst.2.2 4 2 _ rfl rfl
 ·have hy0:y=0:=by simpa using hc
  rw[if_neg (by simp[hy0])]at HX
  obtain⟨h1,hst⟩:=hst.cons
  obtain⟨oQ,hst⟩:=hst.cons
  obtain⟨qh,hst⟩:=hst.cons
  obtain⟨nN,hst⟩:=hst.cons
  have hw1:IntKind.i64.wrap ((k:Int)+1)=((k+1:Nat):Int):=by rw[IntWalk.i64_in _ (by omega)];rfl
  show(fmC ckG.2 2).wp Tryz.prog _ b W
  refine Ev.Jl (M:=ckM V i k x0 (Ni g i sb sn sc k h x0)) (S:=λ_ W=>Below Wh.heap.size Wh W) (n:=225) (K:=[(1,.p 0 0),(189,.r 0 15),(190,.v (.int .i64 (sn:Int))),(191,.r 1 0)]) (s:=()) [1,189,190,191] (.nx [some (.p 0 0),some (.r 0 15),some (.v (.int .i64 (sn:Int))),some (.v (.int .i64 (IntKind.i64.wrap ((k:Int)+1))))] ()) hO2 (λ_ _ h=>h.drew) (by kernel_rfl) (Ev.aG (Ev.aG (Ev.aG (Ev.aG (Ev.bC hst.1 hst.2.1) nN) qh) oQ) h1) hS ?_
  clear h1 oQ qh nN hst
  intro b W hst hS
  obtain⟨h1,hst⟩:=hst.cons
  obtain⟨oQ,hst⟩:=hst.cons
  obtain⟨qh,hst⟩:=hst.cons
  obtain⟨nN,hst⟩:=hst.cons
  have QQ:b.tmps[191]? =some (.int .i64 ((k+1:Nat):Int)):=by rw[<-hw1];exact nN
  refine⟨⟨k+1,hkn,hst.1,hst.2.1,h1,oQ,qh,QQ,up2 W hS,HX⟩,?_⟩
  rw[QQ];simp;omega
theorem Nn (w:World)(a:Option Addr)(n c:Nat)(hn:n≠0):
 Calls Tryz.prog 83 #[.slice a n c,.slice none 0 0] w λe w'=>e=.returned (.bool false)/\Below w.heap.size w w':=by
 go_enter Tryz.func83,Tryz.ntmps83
 have hn2:((n:Int) !=0)=true:=by simp[hn]
 go_wp2_with fail
 go_ret
 exact⟨rfl,Below.refl _ _⟩
theorem MU (w:World)(a:Option Addr)(c:Nat):
 Calls Tryz.prog 83 #[.slice a 0 c,.slice none 0 0] w λe w'=>e=.returned (.bool true)/\Below w.heap.size w w':=by
 go_enter Tryz.func83,Tryz.ntmps83
 go_wp2_with fail
 go_loopw [5,13] (λ_ iv wr=>iv=.int .i64 0/\wr=w) (λ_ _ _=>0)
 case atStart=>exact⟨rfl,rfl⟩
 case round=>
  obtain⟨rfl,rfl⟩:=hrel
  go_wp2_with fail
  go_ret
  exact⟨rfl,Below.refl _ _⟩
theorem IK (w:World)(a:Option Addr)(n c:Nat):
 Calls Tryz.prog 83 #[.slice a n c,.slice none 0 0] w λe w'=>e=.returned (.bool (n==0))/\Below w.heap.size w w':=by
 by_cases h:n=0
 ·subst h;exact MU w a c
 ·rw[show(n==0)=false from by simp[h]];exact Nn w a n c h
theorem Nt (i:Ps.Ins):jq i {} (i.links.length==0)=decide i.none:=by
 rw[Bool.eq_iff_iff,decide_eq_true_iff]
 unfold jq Ps.Ins.none
 simp only[Bool.and_eq_true,BQ]
 simp only[beq_iff_eq,and_assoc]
theorem Dz (w:World)(i:Ps.Ins)(sa:Option Addr)(sc:Nat):
 Calls Tryz.prog 35 #[.agg (aB i (.slice sa i.links.length sc)).toArray,.agg (aB {} (.slice none 0 0)).toArray] w λe w'=>e=.returned (.bool (decide i.none))/\Below w.heap.size w w':=by
 rw[<-Nt]
 exact yP w i {} sa none i.links.length sc 0 0 _ λw' _=>IK w' sa i.links.length sc
theorem bG.below {w w':World}{B:Nat}{lv:Value}{ks:List Ps.Link}(h:bG w B lv ks)(hb:Below w.heap.size w w'):bG w' B lv ks:=by
 refine fD h λg hg=>?_
 obtain⟨_,⟨rfl,_⟩|⟨g',cap,cur,rfl,hB,hh,_⟩⟩:=h
 ·simp[Value.ownBlock]at hg
 ·obtain rfl:g'=g:=by simpa[Value.ownBlock]using hg
  exact hb.block g' (Array.getElem?_eq_some_iff.1 hh).1
def InsC (W0:World):Prop:=∀(w:World) (B:Nat) (i:Ps.Ins) (a:Option Addr) (n c:Nat),Below W0.heap.size W0 w->bG w B (.slice a n c) i.links->
 Calls Tryz.prog 81 #[.agg (aB i (.slice a n c)).toArray] w λe W'=>e=.returned (.int .i64 (Ps.uD bN.valid i))/\Below w.heap.size w W'
theorem G5 (V:Nat->ByteArray->Bool)(Q:Ps.Req):Ps.zW V Q=o7 V Q (Ps.uD V Q.ins) (Ps.H9 Q.amd) (decide Q.ins.none):=by
 have e17:aS [(!(Q.ins.ref.toList==Q.ref.toList)||!(Q.ins.sender.toList==Q.sender.toList),17)]=if Q.ins.ref≠Q.ref\/Q.ins.sender≠Q.sender then 17 else 0:=
  bv (pq (ag (BQ _ _)) (ag (BQ _ _)))
 have e3:aS [(!(decide Q.ins.none),3)]=if¬Q.ins.none then 3 else 0:=bv (ag decide_eq_true_iff)
 have e4:aS [(!decide Q.amd.none,3)]=if¬Q.amd.none then 3 else 0:=bv (ag decide_eq_true_iff)
 have ex1:aS [(!(inB Q.op 0 4),11),(!(V 1 Q.sender),6),(!(V 2 Q.ref),6)]=if¬(0<=Q.op/\Q.op<=4)then 11 else if V 1 Q.sender=false then 6 else if V 2 Q.ref=false then 6 else 0:=by
  rw[bv (ag (fw _ _ _)),bv (JY _),bv (JY _)]
  rfl
 unfold o7
 rw[e17,e3,e4,ex1]
 simp only[bne_iff_ne,beq_iff_eq]
 unfold Ps.zW
 by_cases h1:¬(0<=Q.op/\Q.op<=4)
 ·simp only[if_pos h1];rfl
 simp only[if_neg h1]
 by_cases h2:V 1 Q.sender=false
 ·simp only[if_pos h2];rfl
 simp only[if_neg h2]
 by_cases h3:V 2 Q.ref=false
 ·simp only[if_pos h3];rfl
 simp only[if_neg h3,ne_eq,not_true_eq_false,if_false]
 by_cases h0:Q.op=0
 ·have h10:¬Q.op=1:=by omega
  simp only[h0,if_true]
  by_cases h4:Ps.uD V Q.ins=0
  ·simp only[h4,not_true_eq_false,if_false]
   by_cases h5:¬Q.ins.ref=Q.ref\/¬Q.ins.sender=Q.sender
   ·simp only[if_pos h5];rfl
   ·simp only[if_neg h5]
    rfl
  ·simp only[h4,not_false_eq_true,if_true]
 ·simp only[h0,if_false]
  by_cases h5:Q.ins.none
  ·simp only[h5,not_true_eq_false,if_false]
  ·simp only[h5,not_false_eq_true,if_true];rfl
theorem kL {W0 w:World}(env:lw W0)(hb:Below W0.heap.size W0 w)(k:Nat)(hk:k<3)(s:ByteArray):∀w',Below w.heap.size w w'->Calls Tryz.prog 80 #[.int .i64 k,.string s] w' λe w''=>e=.returned (.bool (bN.valid k s))/\Below w'.heap.size w' w'':=λw' hw=>
 ER k hk s w' (env w' (hb.trans (hw.mono hb.size)))
theorem ET {W0:World}(env:lw W0)(ic:InsC W0):ChkC W0:=λw B Q a n c hb hl=>by
 obtain⟨a',c',hs⟩:=hl.slice
 have hn:n=Q.ins.links.length:=by cases hs;rfl
 rw[show psR Q=_ from G5 bN.valid Q]
 refine rq_w1 w bN.valid Q a n c _ _ _ (λW k s hk hW=>kL env hb k hk s W hW) (λw' hw=>ic w' B Q.ins a n c (hb.trans (hw.mono hb.size)) (hl.below hw)) (λw' hw=>?_) (λw' hw=>?_)
 ·rw[hn]
  exact Dz w' Q.ins a c
 ·rw[<-H7]
  exact IR w' Q.amd
theorem rC:∀(rs:List (Bool×Int)),(∀x∈rs,x.2≠0)->aS rs=0->∀x∈rs,x.1=false
 |[],_,_,x,hx=>by cases hx
 |y::rs,hz,h,x,hx=>by
  unfold aS at h
  by_cases hb:y.1=true
  ·rw[if_pos hb]at h
   exact absurd h (hz y List.mem_cons_self)
  ·rw[if_neg hb]at h
   rcases List.mem_cons.1 hx with rfl|hx
   ·simpa using hb
   ·exact rC rs (λz h=>hz z (List.mem_cons_of_mem _ h)) h x hx
theorem zA {w:World}{B:Nat}{a:Option Addr}{n c:Nat}{ks:List Ps.Link}(h:bG w B (.slice a n c) ks)(hn:0<n):∃sb,a=some ⟨sb,0,none⟩/\∀W,Below w.heap.size w W->jX W sb ks:=by
 obtain⟨a',c',hs⟩:=h.slice
 obtain⟨rfl,rfl,rfl⟩:a=a'/\n=ks.length/\c=c':=by cases hs;exact⟨rfl,rfl,rfl⟩
 obtain⟨sb,cap,hv,hlt,hcell⟩:=gP h hn
 refine⟨sb,by cases hv;rfl,λW hW=>?_⟩
 refine jX.below ?_ hW
 intro j x hj
 have hk:∀(ks:List Ps.Link) (j:Nat) (x:Ps.Link),ks[j]? =some x->(fH ks)[j*2]? =some (.int .i64 x.type)/\(fH ks)[j*2+1]? =some (.string x.ref):=by
  intro ks
  induction ks with
  |nil=>intro j x h;simp at h
  |cons y ks ih=>
   intro j x h
   cases j with
   |zero=>
    obtain rfl:y=x:=by simpa using h
    exact⟨rfl,rfl⟩
   |succ j=>
    have:=ih j x (by simpa using h)
    rw[show(j+1)*2=j*2+1+1 from by omega]
    exact this
 obtain⟨h1,h2⟩:=hk ks j x hj
 exact⟨hcell _ _ h1,hcell _ _ h2⟩
theorem zo {w:World}{B:Nat}{a:Option Addr}{n c:Nat}{ks:List Ps.Link}(h:bG w B (.slice a n c) ks):n=ks.length/\n<=c:=by
 obtain⟨_,⟨hs,h0⟩|⟨g,cap,cur,hv,hB,hh,hnc,_⟩⟩:=h
 ·cases hs
  exact⟨h0.symm,Nat.le_refl _⟩
 ·cases hv
  exact⟨rfl,hnc⟩
theorem LF {W0:World}(env:lw W0):InsC W0:=λw B i a n c hb hl=>by
 obtain⟨hn,hc⟩:=zo hl
 have hx:=I7 bN.valid i
 rw[<-hn]at hx
 refine in_w1 w i a n c bN.valid (Ps.uD bN.valid i) (aS (fe bN.valid i n)) (Ps.jM bN.valid i [] i.links) rfl (λh0=>?_) (Lib.hid hn) (Lib.hid hc) (Lib.hid rfl) (Lib.hid λh=>zA hl h) hx (kL env hb 0 (by omega)) (kL env hb 1 (by omega)) (kL env hb 2 (by omega))
 have h8:=rC _ (by unfold fe;simp) h0 (decide (8<(n:Int)),8) (by unfold fe;simp)
 simp at h8
 omega
theorem Hm {m:Int}{kb ko kc:Nat}{w:World}(env:iW m kb ko kc w)(s:ByteArray)(hs:s.size<=9223372036854775807):
 Calls Tryz.prog 16 #[.string s] w λe W'=>∃rv o x,e=.returned (.tuple #[rv,.int .i64 o,.int .i64 x])/\l9 w (Ps.parse bN psR s) rv o x W':=
 L6 env (ET env.id (LF env.id)) s hs
def PrsC (W:World)(s:ByteArray)(Q:Ps.Req)(o x:Int):Prop:=Calls Tryz.prog 16 #[.string s] W λe W'=>∃a n c,e=.returned (.tuple #[.agg (aA Q (.slice a n c)),.int .i64 o,.int .i64 x])/\bG W' W.heap.size (.slice a n c) Q.ins.links/\Below W.heap.size W W'
theorem prs_of {m:Int}{kb ko kc:Nat}{w:World}(env:iW m kb ko kc w)(s:ByteArray)(hs:s.size<=9223372036854775807)(W:World)(hW:Below w.heap.size w W):PrsC W s (Ps.parse bN psR s).1 (Ps.parse bN psR s).2.1 (Ps.parse bN psR s).2.2:=by
 refine(Hm (env.below hW) s hs).mono ?_
 rintro e W' ⟨rv,o,x,rfl,⟨lv,rfl,hl⟩,rfl,rfl,hb⟩
 obtain⟨a,c,rfl⟩:=hl.slice
 exact⟨a,_,c,rfl,hl,hb⟩
def sI:Array Value:=#[Value.int IntKind.i64 0,Value.string {data:=#[]},Value.string {data:=#[]},Value.string {data:=#[]},Value.int IntKind.i64 0,Value.string {data:=#[]},Value.string {data:=#[]},Value.int IntKind.i64 0,Value.string {data:=#[]},Value.int IntKind.i64 0,Value.int IntKind.i64 0,Value.int IntKind.i64 0,Value.int IntKind.i64 0,Value.int IntKind.i64 0,Value.bool false,Value.int IntKind.i64 0,Value.bool false,Value.bool false,Value.slice none 0 0,Value.bool false,Value.bool false,Value.bool false,Value.bool false,Value.int IntKind.i64 0,Value.int IntKind.i64 0,Value.int IntKind.i64 0,Value.bool false,Value.int IntKind.i64 0]
theorem ni (w:World)(Q:Ps.Req)(a:Option Addr)(n c:Nat):Sem.run Tryz.prog (storeCells ⟨w.heap.size,0,none⟩ (aA Q (.slice a n c)).toList) (w.alloc (.cells #[Value.int IntKind.i64 0,Value.string {data:=#[]},Value.string {data:=#[]},Value.string {data:=#[]},Value.int IntKind.i64 0,Value.string {data:=#[]},Value.string {data:=#[]},Value.int IntKind.i64 0,Value.string {data:=#[]},Value.int IntKind.i64 0,Value.int IntKind.i64 0,Value.int IntKind.i64 0,Value.int IntKind.i64 0,Value.int IntKind.i64 0,Value.bool false,Value.int IntKind.i64 0,Value.bool false,Value.bool false,Value.slice none 0 0,Value.bool false,Value.bool false,Value.bool false,Value.bool false,Value.int IntKind.i64 0,Value.int IntKind.i64 0,Value.int IntKind.i64 0,Value.bool false,Value.int IntKind.i64 0] 37))=.ok () (w.alloc (.cells (aA Q (.slice a n c)) 37)):=
 run_storeCells_new w 37 sI _ (by kernel_rfl) rfl (bU Q a n c)
theorem qN (i:Ps.Ins)(a:Option Addr)(n c:Nat):(aB i (.slice a n c)).toArray.all (·.oneCell')=true:=by
 rw[<-Array.all_toList]
 simp[aB,Value.oneCell']
def lI (a b:Ps.Amd):Bool:=(a.hasAmount==b.hasAmount)&&(a.hasSettleDay==b.hasSettleDay)&&(a.hasPriority==b.hasPriority)&&(a.hasPartial==b.hasPartial)&&(a.amount==b.amount)&&(a.settleDay==b.settleDay)&&(a.priority==b.priority)&&(a.partial_==b.partial_)&&(a.minLot==b.minLot)
theorem eq_amd (a b:Ps.Amd)(x y:Operand)(w:World):(do eqGuard .eql 35 x y (.agg (aH a).toArray) (.agg (aH b).toArray);binOp .eql 35 (.agg (aH a).toArray) (.agg (aH b).toArray):Sem Value).run Tryz.prog w=.ok (.bool (lI a b)) w:=by
 unfold aH
 go_simp
 repeat' split
 all_goals simp_all [lI]
def KU (eI:Bool)(f:FuncId)(vs:List AV):Option Value:=if f=35 then(match vs with|[.a 0 3 16,.a 1 3 16]=>some (.bool eI)|_=>none)else none
def Fs (A B:Ps.Amd)(o:Oper)(ov:Operand->Option AV):Option AV:=match o.op with
 | .binOp .eql t x y _=>if t=35 then(match ov x,ov y with
   |some (.a 0 19 9),some (.a 1 19 9)=>some (.v (.bool (lI A B)))
   |_,_=>none)else none
 |_=>none
def erM (g h:Nat)(Q P:Ps.Req)(la lb:Value)(eI:Bool):Mem Unit:=oJ kz [(some (g,0),mX Q la),(some (h,0),mX P lb)] (KU eI) (Fs Q.amd P.amd)
theorem Pp (w:World)(Q P:Ps.Req)(sa ta:Option Addr)(sn sc tn tc:Nat)(eI:Bool)
 (n1:∀W,Below w.heap.size w W->Calls Tryz.prog 35 #[.agg (aB Q.ins (.slice sa sn sc)).toArray,.agg (aB P.ins (.slice ta tn tc)).toArray] W λe W'=>e=.returned (.bool eI)/\Below W.heap.size W W'):
 Calls Tryz.prog 20 #[.agg (aA Q (.slice sa sn sc)),.agg (aA P (.slice ta tn tc))] w λe w'=>e=.returned (.bool ((Q.op==P.op)&&(Q.sender.toList==P.sender.toList)&&(Q.ref.toList==P.ref.toList)&&eI&&lI Q.amd P.amd))/\Below w.heap.size w w':=by
 go_enter Tryz.func20,Tryz.ntmps20
 refine wp_seq ?_
 refine wp_region_lit ?_
 refine wpList_plain rfl (λK hK=>?_)
 go_simp
 refine hK _ _ ?_
 clear hK K
 refine wpList_plain rfl (λK hK=>?_)
 go_simp
 refine hK _ _ ?_
 clear hK K
 refine wpList_plain rfl (λK hK=>?_)
 go_simp
 refine hK _ _ ?_
 clear hK K
 refine aT ?_
 obtain⟨Wa,hWa⟩:∃Wa,Wa=w.alloc (.cells (aA Q (.slice sa sn sc)) 37):=⟨_,rfl⟩
 obtain⟨W1,hW1⟩:∃W1,W1=Wa.alloc (.cells (aA P (.slice ta tn tc)) 37):=⟨_,rfl⟩
 obtain⟨g,hg⟩:∃g,g=w.heap.size:=⟨_,rfl⟩
 obtain⟨h,hh⟩:∃h,h=w.heap.size+1:=⟨_,rfl⟩
 have hha:h=Wa.heap.size:=by rw[hh,hWa];simp
 have DU:Below Wa.heap.size Wa W1:=by rw[hW1];exact(Below.refl _ _).alloc (Nat.le_refl _) _
 have hrow:∀W,Below W1.heap.size W1 W->W.heap[g]? =some (.cells (mX Q (.slice sa sn sc)).toArray 37 (0,0)):=λW hW=>by
  rw[hW.block g (by rw[hW1,hWa,hg];simp;omega),DU.block g (by rw[hWa,hg];simp),hWa,hg];exact aC w _
 have yH:∀W,Below W1.heap.size W1 W->W.heap[h]? =some (.cells (mX P (.slice ta tn tc)).toArray 37 (0,0)):=λW hW=>by
  rw[hW.block h (by rw[hha,hW1];simp),hW1,hha];exact aC Wa _
 have hB1:Below w.heap.size w W1:=((by rw[hWa];exact(Below.refl _ _).alloc (Nat.le_refl _) _:Below w.heap.size w Wa).trans (DU.mono (by rw[hWa];simp)))
 try rw[show(w.alloc (.cells (aA Q (.slice sa sn sc)) 37)).heap.size=w.heap.size+1 from by simp]
 rw[<-hWa,<-hW1,<-hh,<-hg]
 rw[<-hg]at hh
 clear hW1 hWa hha DU hh
 refine oF rfl λa ha hdf=>?_
 have hO:Ev.Ok Tryz.prog (λ(_:Unit) W=>Below W1.heap.size W1 W) (erM g h Q P (.slice sa sn sc) (.slice ta tn tc) eI):=by
  refine Ev.oL (λt f d h=>mI h) (λq b o l h W hS=>?_) (λf vs v h=>?_) (λo ov v h ρ hov W hS=>?_)
  ·rcases q with _|_|q
   ·cases h;exact gu hrow W hS
   ·cases h;exact gu yH W hS
   ·cases h
  ·unfold KU at h
   split at h
   ·rename_i hf
    subst hf
    split at h
    ·cases h
     exact⟨enters_of Tryz.func35 (by kernel_rfl) rfl,λW hS=>(n1 W (hB1.trans (hS.mono hB1.size))).mono λe w' q=>⟨q.1,hS.trans (q.2.mono hS.size)⟩⟩
    ·cases h
   ·cases h
  ·unfold Fs at h
   split at h
   ·rename_i t x y t2 ho
    split at h
    ·rename_i ht
     subst ht
     split at h
     ·rename_i h1 h2
      cases h
      have e1:ρ x=.agg (aH Q.amd).toArray:=hov _ _ h1
      have e2:ρ y=.agg (aH P.amd).toArray:=hov _ _ h2
      unfold execOp
      simp only[ho,e1,e2]
      rw[Sem.run_bind,eq_amd]
      rfl
     ·cases h
    ·cases h
   ·cases h
 refine Ev.FU (M:=erM g h Q P (.slice sa sn sc) (.slice ta tn tc) eI) (S:=λ_ W=>Below W1.heap.size W1 W) (n:=38) (K:=[(2,.p 0 0),(3,.p 1 0)]) (s:=()) (v:=(Q.op==P.op)&&(Q.sender.toList==P.sender.toList)&&(Q.ref.toList==P.ref.toList)&&eI&&lI Q.amd P.amd) 4 hO (λ_ W h=>h.drew) (by kernel_rfl) (by kernel_rfl) (Ev.aG (Ev.aG (Ev.bC (by rw[ha];rfl) hdf) (by rw[ha];rfl)) (by rw[ha];rfl)) (Below.refl _ _) ?_
 intro b W s hd ht hS
 refine bodyPost_ret (results_tmp rfl _ _ _) hd ?_
 rw[hg]
 exact⟨by rw[show b.tmps.getD 4 undef=_ from eval_at ht],hB1.trans (hS.mono hB1.size)⟩
open Go Go.RowKit Go.Proofs.YtnjjeapcalkmaaaGreatDoor.Ord
open Go.Proofs.YtnjjeapcalkmaaaGreatDoor.Se
def og:List ByteArray->ByteArray
 |[]=>⟨#[]⟩
 |t::ts=>⟨#[32]⟩++t++og ts
def joinB:List ByteArray->ByteArray
 |[]=>⟨#[]⟩
 |t::ts=>t++og ts
theorem uG:∀ts:List ByteArray,og ts=⟨(Lx.dF (ts.map λ(x:ByteArray)=>(([32]:List UInt8),x.data.toList)) []).toArray⟩
 |[]=>rfl
 |t::ts=>by
  show⟨#[32]⟩++t++og ts=⟨([32]++(t.data.toList++Lx.dF (ts.map λ(x:ByteArray)=>(([32]:List UInt8),x.data.toList)) [])).toArray⟩
  rw[uG ts]
  apply ByteArray.ext
  apply Array.toList_inj.1
  simp[ByteArray.data_append]
theorem MO:∀ts:List ByteArray,Ps.dI ts=joinB ts
 |[]=>rfl
 |t::ts=>by
  show(⟨([]++(t.data.toList++Lx.dF (ts.map λ(x:ByteArray)=>(([32]:List UInt8),x.data.toList)) [])).toArray⟩:ByteArray)=t++og ts
  rw[uG ts]
  apply ByteArray.ext
  apply Array.toList_inj.1
  simp[ByteArray.data_append]
structure ru (Q:Ps.Req):Prop where
 ref:Q.ref.size<=40
 sender:Q.sender.size<=40
 iref:Q.ins.ref.size<=40
 isender:Q.ins.sender.size<=40
 icp:Q.ins.counterparty.size<=40
 iasset:Q.ins.asset.size<=40
theorem vw {Q:Ps.Req}(h:psR Q=0):ru Q:=by
 obtain⟨h1,h2,h3⟩:=Ps.oz _ _ h
 have n1:=(fE (by omega) h1).2
 have n2:=(fE (by omega) h2).2
 rcases h3 with⟨_,hi,_⟩|⟨_,_,he⟩|⟨_,he⟩
 ·have i1:=(fE (by omega) hi.ref).2
  have i2:=(fE (by omega) hi.sender).2
  refine⟨by omega,by omega,by omega,by omega,?_,?_⟩
  ·by_cases hk:Q.ins.kind=3\/Q.ins.kind=4
   ·rw[hi.cpN hk];decide
   ·have:=(fE (by omega) (hi.cpY hk)).2;omega
  ·by_cases hk:Q.ins.kind=0
   ·rw[hi.asset0 hk];decide
   ·have:=(fE (by omega) (hi.asset hk)).2;omega
 ·rw[he];exact⟨by show Q.ref.size<=40;omega,by show Q.sender.size<=40;omega,Nat.zero_le _,Nat.zero_le _,Nat.zero_le _,Nat.zero_le _⟩
 ·rw[he];exact⟨by show Q.ref.size<=40;omega,by show Q.sender.size<=40;omega,Nat.zero_le _,Nat.zero_le _,Nat.zero_le _,Nat.zero_le _⟩
theorem oP {i:Ps.Ins}{lv:Value}(hl:∀x,lv≠.string x)(h1:i.ref.size<=40)(h2:i.sender.size<=40)(h3:i.counterparty.size<=40)(h4:i.asset.size<=40):∀x,Value.string x∈aB i lv->x.size<=40:=λx hx=>by
 unfold aB at hx
 simp at hx
 rcases hx with rfl|rfl|rfl|rfl|h
 ·exact h1
 ·exact h2
 ·exact h3
 ·exact h4
 ·exact absurd h.symm (hl x)
theorem FR {a:Ps.Amd}:∀x,Value.string x∈aH a->x.size<=40:=λx hx=>by
 unfold aH at hx
 simp at hx
theorem zR {Q:Ps.Req}{lv:Value}(hl:∀x,lv≠.string x)(h:ru Q):∀x,Value.string x∈mX Q lv->x.size<=40:=λx hx=>by
 unfold mX at hx
 rcases List.mem_append.1 hx with hx|hx
 ·rcases List.mem_append.1 hx with hx|hx
  ·simp at hx
   rcases hx with rfl|rfl
   ·exact h.sender
   ·exact h.ref
  ·exact oP hl h.iref h.isender h.icp h.iasset x hx
 ·exact FR x hx
def RowsIn (W:World)(B b:Nat)(fix:List Nat):List (Option (Nat×Nat)×List Value)->Prop
 |[]=>True
 |(none,_)::rs=>RowsIn W B b fix rs
 |(some (g,o),l)::rs=>(o=0/\(g<B\/g∈fix)/\(∃t,W.heap[g]? =some (.cells l.toArray t (0,0)))/\∀x,Value.string x∈l->x.size<=b)/\RowsIn W B b fix rs
theorem iA {W:World}{B b:Nat}{fix:List Nat}:∀{rows:List (Option (Nat×Nat)×List Value)},RowsIn W B b fix rows->∀(k g o:Nat) (l:List Value),rows[k]? =some (some (g,o),l)->o=0/\(g<B\/g∈fix)/\(∃t,W.heap[g]? =some (.cells l.toArray t (0,0)))/\∀x,Value.string x∈l->x.size<=b
 |[],_,k,g,o,l,h=>by simp at h
 |(none,l0)::rs,hr,k,g,o,l,h=>by
  cases k with
  |zero=>simp at h
  |succ k=>exact iA (rows:=rs) hr k g o l (by simpa using h)
 |(some (g0,o0),l0)::rs,hr,k,g,o,l,h=>by
  cases k with
  |zero=>
   simp at h
   obtain⟨⟨rfl,rfl⟩,rfl⟩:=h
   exact hr.1
  |succ k=>exact iA (rows:=rs) hr.2 k g o l (by simpa using h)
def xc:Array Value:=#[Value.string {data:=#[]},Value.int IntKind.i64 0,Value.string {data:=#[]},Value.string {data:=#[]},Value.int IntKind.i64 0,Value.string {data:=#[]},Value.int IntKind.i64 0,Value.int IntKind.i64 0,Value.int IntKind.i64 0,Value.int IntKind.i64 0,Value.int IntKind.i64 0,Value.bool false,Value.int IntKind.i64 0,Value.bool false,Value.bool false,Value.slice none 0 0]
def Km:Array Value:=#[Value.bool false,Value.bool false,Value.bool false,Value.bool false,Value.int IntKind.i64 0,Value.int IntKind.i64 0,Value.int IntKind.i64 0,Value.bool false,Value.int IntKind.i64 0]
theorem lq_ins (w:World)(i:Ps.Ins)(a:Option Addr)(n c:Nat):Sem.run Tryz.prog (storeCells ⟨w.heap.size,0,none⟩ (aB i (.slice a n c))) (w.alloc (.cells xc 24))=.ok () (w.alloc (.cells (aB i (.slice a n c)).toArray 24)):=
 run_storeCells_new w 24 xc (aB i (.slice a n c)).toArray (by kernel_rfl) rfl (qN i a n c)
theorem qj (w:World)(Q:Ps.Req)(a:Option Addr)(n c:Nat):Sem.run Tryz.prog (storeCells ⟨w.heap.size,0,none⟩ (aA Q (.slice a n c)).toList) (w.alloc (.cells sI 28))=.ok () (w.alloc (.cells (aA Q (.slice a n c)) 28)):=
 run_storeCells_new w 28 sI _ (by kernel_rfl) rfl (bU Q a n c)
theorem eG {P:Program}{ops:Array Oper}{Q:Exit->Act->World->Prop}{rest:List Oper}{o:Oper}{a:Act}{w w':World}{u:Value}{d:Nat}(hg:o.guard=none)(hd:o.dst=some d)(hr:(execOp a.eval o).run P w=.ok (.value u) w')(h:wpList P ops Q rest ⟨a.tmps.setIfInBounds d u,a.defers⟩ w'):wpList P ops Q (o::rest) a w:=by
 refine wpList_plain hg λK hK=>?_
 unfold Oper.wp
 rw[hr]
 refine hK _ _ ?_
 rw[hd]
 exact h
structure LnW (w W:World)(g:Nat)(Q:Ps.Req)(lv:Value):Prop where
 hb:Below w.heap.size w W
 hg:w.heap.size=g
 sz:g+2<=W.heap.size
 r0:W.heap[g]? =some (.cells (mX Q lv).toArray 28 (0,0))
 r1:W.heap[g+1]? =some (.cells (aB Q.ins lv).toArray 24 (0,0))
theorem st40 {x:ByteArray}(h:x.size<=40):st (40,x)=x:=jP h
open Go Go.RowKit
theorem sP {P:Program}{fn:Func}{p u:Tmp}{ty:TypeId}(h:fn.results=#[.cell p ty,.tmp u])(tmps:Array Value)(w:World)(g:Nat)(t:TypeId)(cs:Array Value)(fr:Nat×Nat)(d:TypeDesc)
 (hp:tmps.getD p undef=.pointer (some ⟨g,0,none⟩)) (hg:w.heap[g]? =some (.cells cs t fr))
 (hu:P.underlying ty=some d) (hd:(match d with| .struct _| .array _ _=>true|_=>false)=true) (hi:(P.info? ty).map (·.size)=some cs.size):
 (results fn tmps).run P w=.ok (.tuple #[.agg cs,tmps.getD u undef]) w:=by
 have hp':tmps[p]?.getD undef=.pointer (some ⟨g,0,none⟩):=by simpa using hp
 simp[results,h,hp',asAddr,run_loadVar_row w g t ty cs fr d hg hu hd hi]
abbrev jc (y m d:Int):Array Value:=#[.int .i64 y,.int .i64 m,.int .i64 d]
theorem L8 (W:World)(g:Nat)(a b c:Int){o:Oper}{x y:Operand}{ρ:Operand->Value}{cur:Array Value}(h:W.heap[g]? =some (.cells cur 251 (0,0)))(ho:o.op=.store 251 x y)(hx:ρ x=.pointer (some ⟨g,0,none⟩))(hy:ρ y=.agg (jc a b c))(hc:cur.size=3):(execOp ρ o).run Tryz.prog W=.ok .skip (W.setRow g (jc a b c)):=by
 unfold execOp
 simp only[ho,hx,hy,Instr.storeAt,Instr.sureAddr,Sem.run_bind,Sem.run_pure,Result.andThen_ok,run_storeVar_row (P:=Tryz.prog) W g 251 251 cur (jc a b c) h (by kernel_rfl) (by rw[hc];rfl) (by simp[jc,Value.oneCell'])]
theorem KL (n:Int)(h0:0<=n)(hn:n<=73048):Ps.ak (n/366)<=n/\n/366<=199:=by
 unfold Ps.ak
 omega
theorem Kh (n:Int)(h0:0<=n)(hn:n<=73048)(w:World):Calls Tryz.prog 260 #[.int .i64 n] w λe w'=>e=.returned (.bool true)/\w=w':=by
 go_enter Tryz.func260,Tryz.ntmps260
 go_wp2_with fail
 go_ret
 exact⟨rfl,rfl⟩
theorem D5 (n0:Int)(h0:0<=n0)(hn:n0<=73048)(w:World):Calls Tryz.prog 240 #[.int .i64 n0] w λe w'=>∃y m d:Nat,Ps.IsC n0 y m d/\e=.returned (.tuple #[.agg (jc y m d),.int .i64 0])/\Below w.heap.size w w':=by
 have nV:=Kh n0 h0 hn
 have y0:=KL n0 h0 hn
 have q1:IntKind.i64.wrap (n0.tdiv 366)=n0/366:=by rw[pK h0];exact aW (by omega)
 have q2:IntKind.i64.wrap (2000+n0/366)=2000+n0/366:=aW (by omega)
 have HN:=Lib.hid (And.intro h0 hn)
 obtain⟨p0,hp0⟩:∃p0:Int,p0=n0/366:=⟨_,rfl⟩
 rw[<-hp0]at q1 q2 y0
 have HP0:Hid (Ps.ak p0<=n0/\0<=p0/\p0<=199):=Lib.hid ⟨y0.1,by omega,y0.2⟩
 clear hp0 y0 h0 hn
 go_enter Tryz.func240,Tryz.ntmps240
 go_upto_block 0 with(go_at_call 260;refine(nV _).mono ?_;rintro x w1 ⟨rfl,rfl⟩)
 obtain⟨q,hq⟩:∃q,q=w.heap.size:=⟨_,rfl⟩
 generalize hW0:World.alloc _ _=W0
 have hr:W0.heap[q]? =some (.cells (jc 0 0 0) 251 (0,0)):=by rw[<-hW0,hq];exact aC w _
 have HB0:Hid (Below q w W0):=Lib.hid (by rw[<-hW0,hq];exact(Below.refl _ _).alloc (Nat.le_refl _) _)
 rw[<-hq]
 have HR:=Lib.hid hr
 have HQ:=Lib.hid hq
 clear hr hq hW0
 refine wp_block ?_
 go_loopw [4] (λyv wr=>∃k:Nat,yv=.int .i64 (2000+(k:Int))/\k<=199/\Hid (Ps.ak k<=n0)/\wr=W0) (λyv _=>3000-(RowKit.intOf yv).toNat)
 case atStart=>
  obtain⟨e1,e2,e3⟩:=HP0.out
  exact⟨p0.toNat,by rw[show((p0.toNat:Nat):Int)=p0 from by omega],by omega,Lib.hid (by rw[show((p0.toNat:Nat):Int)=p0 from by omega];exact e1),rfl⟩
 case round=>
  obtain⟨k,rfl,hk,HK,rfl⟩:=hrel
  obtain⟨Y,hY⟩:∃Y:Int,Y=2000+(k:Int):=⟨_,rfl⟩
  rw[<-hY]
  have hyb:2000<=Y/\Y<=2199:=by omega
  have m1:=kJ wr (Y+1) (by omega) (by omega)
  have m2:=kJ wr Y (by omega) (by omega)
  have q3:IntKind.i64.wrap (Y+1)=Y+1:=aW (by omega)
  obtain⟨S1,hS1⟩:∃S1:Int,S1=F4 (Y+1-2000):=⟨_,rfl⟩
  obtain⟨S0,hS0⟩:∃S0:Int,S0=F4 (Y-2000):=⟨_,rfl⟩
  rw[<-hS1]at m1
  rw[<-hS0]at m2
  have rD:Hid (S1=Ps.ak ((k:Int)+1)):=Lib.hid (by rw[hS1,show Y+1-2000=(k:Int)+1 from by omega];rfl)
  have wZ:Hid (S0=Ps.ak (k:Int)):=Lib.hid (by rw[hS0,show Y-2000=(k:Int)from by omega];rfl)
  have HY:=Lib.hid hY
  have HKK:=Lib.hid hk
  clear hY hS1 hS0 hyb hk
  by_cases hlt:S1<=n0
  ·have FIN:Hid (∃k2:Nat,Value.int .i64 (Y+1)=.int .i64 (2000+(k2:Int))/\k2<=199/\Hid (Ps.ak k2<=n0)/\wr=wr):=Lib.hid (by
    have e1:=rD.out
    have e2:=HY.out
    have e3:=HKK.out
    have e4:=HN.out
    refine⟨k+1,by rw[e2,Int.natCast_add_one,Int.add_assoc],?_,Lib.hid (by rw[Int.natCast_add_one];omega),rfl⟩
    rcases Nat.lt_or_ge k 199 with h|h
    ·omega
    ·have hk9:k=199:=by omega
     subst hk9
     have:Ps.ak (((199:Nat):Int)+1)=73049:=by decide
     omega)
   have HM:Hid (Y<=2199):=Lib.hid (by have e2:=HY.out;have e3:=HKK.out;omega)
   clear m2
   go_wp2_with (go_at_call 261;refine m1.mono ?_;rintro x w1 ⟨rfl,rfl⟩)
   go_roundw
   case rel=>exact FIN.out
   case measure=>have:=HM.out;have:=HY.out;simp[RowKit.intOf];omega
  ·have HL:Hid (¬S1<=n0):=Lib.hid hlt
   obtain⟨R0,hR0⟩:∃R0:Int,R0=n0-S0:=⟨_,rfl⟩
   have HF:Hid (0<=R0/\R0<=366/\R0=n0-Ps.ak k):=Lib.hid (by
    have e1:=rD.out
    have e2:=wZ.out
    have e3:=HK.out
    have e4:=HL.out
    have e5:=Ps.ve (k:Int) (by omega)
    omega)
   have q4:IntKind.i64.wrap (n0-S0)=R0:=by rw[hR0];exact aW (by have:=HN.out;have:=HF.out;omega)
   clear hR0 q1 q2 nV
   go_upto_block 2 with(go_at_call 261;first|(with_reducible refine m1.mono ?_;rintro x w1 ⟨rfl,rfl⟩)|(with_reducible refine m2.mono ?_;rintro x w1 ⟨rfl,rfl⟩))
   clear m1 m2 hlt q4
   refine wp_block ?_
   go_loopw [5,6] (λrv mv wr2=>∃j:Nat,∃n':Int,rv=.int .i64 n'/\mv=.int .i64 ((j:Int)+1)/\j<=11/\Hid (R0=n'+Ps.cz Y j)/\0<=n'/\n'<=366/\Hid (wr2.heap[q]? =some (.cells (jc 0 0 0) 251 (0,0)))/\Hid (Below q w wr2)) (λrv _ _=>(RowKit.intOf rv).toNat)
   case atStart=>exact⟨0,R0,rfl,rfl,by omega,Lib.hid (by simp[Ps.cz]),HF.out.1,HF.out.2.1,HR,HB0⟩
   case round=>
    obtain⟨j,n',rfl,rfl,hj,HM,hm0,hm1,HR2,HB2⟩:=hrel
    obtain⟨m,hm⟩:∃m:Int,m=(j:Int)+1:=⟨_,rfl⟩
    rw[<-hm]
    have n2:=λw=>zt w Y m
    have hdm:=Ps.nT Y m
    obtain⟨dd,hdd⟩:∃dd:Int,dd=Ps.dim Y m:=⟨_,rfl⟩
    rw[<-hdd]at n2 hdm
    have HMj:=Lib.hid hm
    have HDD:=Lib.hid hdd
    clear hdd
    have hyr:Hid (Ps.cz Y 12=Ps.ak ((k:Int)+1)-Ps.ak k):=Lib.hid (by
     have e1:=Ps.mM k (by have:=HKK.out;omega)
     rw[<-HY.out]at e1
     exact e1)
    by_cases hlt2:dd<=n'
    ·have q5:IntKind.i64.wrap (n'-dd)=n'-dd:=aW (by omega)
     have q6:IntKind.i64.wrap (m+1)=m+1:=aW (by omega)
     have FIN:Hid (∀wr3:World,wr3.heap[q]? =some (.cells (jc 0 0 0) 251 (0,0))->Below q w wr3->∃j':Nat,∃n2:Int,Value.int .i64 (n'-dd)=.int .i64 n2/\Value.int .i64 (m+1)=.int .i64 ((j':Int)+1)/\j'<=11/\Hid (R0=n2+Ps.cz Y j')/\0<=n2/\n2<=366/\Hid (wr3.heap[q]? =some (.cells (jc 0 0 0) 251 (0,0)))/\Hid (Below q w wr3)):=Lib.hid (λwr3 x1 x2=>by
      have e1:=HM.out
      have e2:Ps.cz Y (j+1)=Ps.cz Y j+Ps.dim Y ((j:Int)+1):=rfl
      rw[<-HMj.out,<-HDD.out]at e2
      have e3:=hyr.out
      have e4:=HF.out
      have e5:=rD.out
      have e6:=HL.out
      have hj2:j+1<=11:=by
       rcases Nat.lt_or_ge j 11 with h|h
       ·omega
       ·have hj9:j=11:=by omega
        subst hj9
        have:Ps.cz Y (11+1)=Ps.cz Y 12:=rfl
        omega
      refine⟨j+1,n'-dd,rfl,by rw[HMj.out,Int.natCast_add_one],hj2,Lib.hid (by omega),by omega,by omega,Lib.hid x1,Lib.hid x2⟩)
     have hpos:Hid (0<dd):=Lib.hid (by
      have e1:=HDD.out
      have hYb:=HY.out
      have hkb:=HKK.out
      have e3:=HMj.out
      unfold Ps.dim at e1
      rw[if_neg (by omega)]at e1
      split at e1
      ·split at e1<;>omega
      ·split at e1<;>omega)
     have HW:Hid (∀wa wb:World,wa.heap[q]? =some (.cells (jc 0 0 0) 251 (0,0))/\Below q w wa->Below wa.heap.size wa wb->wb.heap[q]? =some (.cells (jc 0 0 0) 251 (0,0))/\Below q w wb):=Lib.hid (λwa wb h1 h2=>⟨(h2.block q (Array.getElem?_eq_some_iff.1 h1.1).1).trans h1.1,h1.2.trans (h2.mono (Nat.le_of_lt (Array.getElem?_eq_some_iff.1 h1.1).1))⟩)
     have HX0:Hid (wr.heap[q]? =some (.cells (jc 0 0 0) 251 (0,0))/\Below q w wr):=Lib.hid ⟨HR2.out,HB2.out⟩
     clear hm hyr HR2 HB2 hdm
     go_wp2_with fail
     refine(n2 _).mono ?_
     rintro x w1 ⟨rfl,hb1⟩
     have HX1:=Lib.hid (HW.out _ _ HX0.out hb1)
     clear hb1
     go_wp2_with fail
     refine(n2 _).mono ?_
     rintro x w2 ⟨rfl,hb2⟩
     have HX2:=Lib.hid (HW.out _ _ HX1.out hb2)
     clear hb2
     go_wp2_with fail
     go_roundw
     case rel=>exact FIN.out _ HX2.out.1 HX2.out.2
     case measure=>have:=hpos.out;simp[RowKit.intOf];omega
    ·have q6:IntKind.i64.wrap (n'+1)=n'+1:=aW (by omega)
     have HC:Hid (∃d:Nat,Ps.IsC n0 (2000+k) (j+1) d/\(d:Int)=n'+1):=Lib.hid (by
      have e5:=HM.out
      have e6:Ps.cz Y (j+1)=Ps.cz Y j+Ps.dim Y ((j:Int)+1):=rfl
      rw[<-HMj.out,<-HDD.out]at e6
      have eY:Y=((2000+k:Nat):Int):=by rw[HY.out];omega
      have e1:=HF.out
      have e2:=rD.out
      have e3:=HL.out
      have e4:=HN.out
      have e7:=HK.out
      rw[eY]at e5 e6
      obtain⟨_,_,hc⟩:=Ps.IsC.of (n:=n0) (p:=k) (q:=j) e4.1 e4.2 (by omega) (by omega) (by omega) (by omega)
      exact⟨_,hc,by omega⟩)
     clear hyr hm hdm
     go_wp2_with fail
     refine(n2 _).mono ?_
     rintro x w1 ⟨rfl,hb1⟩
     have HR3:Hid (w1.heap[q]? =some (.cells (jc 0 0 0) 251 (0,0))):=Lib.hid ((hb1.block q (Array.getElem?_eq_some_iff.1 HR2.out).1).trans HR2.out)
     have HB3:Hid (Below q w w1):=Lib.hid (HB2.out.trans (hb1.mono (Nat.le_of_lt (Array.getElem?_eq_some_iff.1 HR2.out).1)))
     clear hb1 HR2 HB2 n2
     go_upto_region 11 with fail
     refine wp_region_lit ?_
     refine eG (w':=w1) (u:=.int .i64 Y) rfl rfl rfl ?_
     refine eG (w':=w1) (u:=.int .i64 m) rfl rfl rfl ?_
     refine eG (w':=w1) (u:=.int .i64 n') rfl rfl rfl ?_
     refine eG (w':=w1) (u:=.int .i64 (n'+1)) rfl rfl (by go_simp) ?_
     refine eG (w':=w1) (u:=.agg (jc Y m (n'+1))) rfl rfl (by go_simp) ?_
     refine FE (w':=w1.setRow q (jc Y m (n'+1))) rfl rfl (L8 w1 q Y m (n'+1) HR3.out rfl rfl rfl rfl) ?_
     refine eG (w':=w1.setRow q (jc Y m (n'+1))) (u:=.int .i64 0) rfl rfl rfl ?_
     refine aT ?_
     have hR6:(w1.setRow q (jc Y m (n'+1))).heap[q]? =some (.cells (jc Y m (n'+1)) 251 (0,0)):=setRow_heap w1 q _ _ _ _ HR3.out
     have wW:Hid (Below q w (w1.setRow q (jc Y m (n'+1)))):=Lib.hid (by
      have hb:=HB3.out
      exact⟨hb.os,hb.tape,hb.output,by rw[setRow_size];exact hb.size,λg hg=>(setRow_other w1 q g _ (by omega)).trans (hb.block g hg)⟩)
     generalize w1.setRow q _=W6 at hR6 wW⊢
     obtain⟨d,hd1,hd2⟩:=HC.out
     have hyY:Y=((2000+k:Nat):Int):=by rw[HY.out];omega
     have hmm:m=((j+1:Nat):Int):=by rw[HMj.out];omega
     have HFIN:Hid (Ps.IsC n0 (2000+k) (j+1) d/\Y=((2000+k:Nat):Int)/\m=((j+1:Nat):Int)/\(d:Int)=n'+1):=Lib.hid ⟨hd1,hyY,hmm,hd2⟩
     have EU:=Lib.hid hR6
     clear hd1 hd2 hyY hmm hR6
     go_wp2_with fail
     try simp only[Exit.then,Exit.inBlock]
     generalize hT:(Array.setIfInBounds _ 3 (Value.int .i64 0))=T
     have hT2:T.getD 2 undef=.pointer (some ⟨q,0,none⟩):=by rw[<-hT];simp
     have hT3:T.getD 3 undef=.int .i64 0:=by rw[<-hT];simp
     clear hT
     refine bodyPost_ret (sP rfl T _ q _ _ (0,0) _ hT2 EU.out Tryz.underlying251 rfl (by kernel_rfl)) rfl ?_
     obtain⟨f1,f2,f3,f4⟩:=HFIN.out
     refine⟨2000+k,j+1,d,f1,?_,by rw[<-HQ.out];exact wW.out⟩
     rw[<-f2,<-f3,f4,hT3]
abbrev J3 (B:Nat)(l:List UInt8)(v:Value)(w:World):Prop:=w.ownsRow B 5 1 v l.length (l.map λc=>Value.int .u8 (c.toNat:Int))
def wY (n k:Int)(ds:List UInt8):Prop:=∀(w:World) (B:Nat) (v:Value) (l:List UInt8),B<=w.heap.size->l.length<=100->J3 B l v w->Calls Tryz.prog 241 #[v,.int .i64 n,.int .i64 k] w λe w'=>∃z,e=.returned z/\J3 B (l++ds) z w'/\Below B w w'
theorem Nb (n:Int)(c:UInt8)(h9:¬9<n)(q1:n.tmod 10=n)(q2:IntKind.i64.wrap (48+n)=48+n)(q3:IntKind.u8.wrap (48+n)=(c.toNat:Int)):wY n 1 [c]:=by
 intro w B v l hB hl hown
 obtain⟨i0,hi,hz0,hz1,hz2⟩:=info_parts gq
 have HC:=Lib.hid q3
 go_enter Tryz.func241,Tryz.ntmps241
 go_wp2_with (at_builtin;refine wpList_append_own _ rfl _ _ 135 rfl B 5 i0 (.int .u8 0) 1 1 Tryz.underlying135 hi hz0 hz1 hz2 rfl (by decide) _ _ _ rfl (hown.alloc _) ⟨w.heap.size,0,none⟩ 1 1 [.int .u8 (c.toNat:Int)] rfl rfl ?c1 ?c2 ?c3 ?c4 ?c5 ?_)
 case c2=>rfl
 case c3=>unfold maxLen;omega
 case c4=>omega
 case c5=>first|omega|(simp;omega)
 intro v' w2 hown2 hgrow _
 have hbel:Below B w w2:=((Below.refl B w).alloc hB (.cells #[.int .u8 (c.toNat:Int)] 5)).grown hgrow (by simp;omega) (λk hk=>(hown.lt k hk).1)
 have HO:Hid (J3 B (l++[c]) v' w2):=Lib.hid (by
  show w2.ownsRow B _ 1 v' (l++[c]).length ((l++[c]).map _)
  rw[List.map_append,List.length_append]
  exact hown2)
 have HB:=Lib.hid hbel
 clear hgrow hown2 hbel hown
 go_wp2
 go_ret
 exact⟨_,rfl,HO.out,HB.out⟩
theorem OW (n m k k' d:Int)(ds:List UInt8)(c:UInt8)(h1:1<k)(q0:IntKind.i64.wrap (n.tdiv 10)=m)(qk:IntKind.i64.wrap (k-1)=k')(q1:n.tmod 10=d)(q2:IntKind.i64.wrap (48+d)=48+d)(q3:IntKind.u8.wrap (48+d)=(c.toNat:Int))(ih:wY m k' ds)(hds:ds.length<=50):wY n k (ds++[c]):=by
 intro w B v l hB hl hown
 obtain⟨i0,hi,hz0,hz1,hz2⟩:=info_parts gq
 have n1:=ih w B v l hB hl hown
 have HL:Hid (l.length<=100/\B<=w.heap.size):=Lib.hid ⟨hl,hB⟩
 clear ih hown
 go_enter Tryz.func241,Tryz.ntmps241
 go_wp2_with fail
 refine n1.mono ?_
 rintro e w1 ⟨z,rfl,hown,hb⟩
 have hB1:B<=w1.heap.size:=Nat.le_trans hB hb.size
 clear n1
 go_wp2_with (at_builtin;refine wpList_append_own _ rfl _ _ 135 rfl B 5 i0 (.int .u8 0) 1 1 Tryz.underlying135 hi hz0 hz1 hz2 rfl (by decide) _ _ _ rfl (hown.alloc _) ⟨w1.heap.size,0,none⟩ 1 1 [.int .u8 (c.toNat:Int)] rfl rfl ?c1 ?c2 ?c3 ?c4 ?c5 ?_)
 case c1=>
  intro j u hj
  match j,hj with
  |0,hj=>simp at hj;subst hj;simp[Addr.add]
  |j+1,hj=>simp at hj
 case c2=>intro u hu;simp at hu;subst hu;rfl
 case c3=>unfold maxLen;rw[List.length_append];omega
 case c4=>rw[List.length_append];omega
 case c5=>simp;omega
 intro v' w2 hown2 hgrow _
 have hbel:Below B w w2:=(hb.alloc hB1 (.cells #[.int .u8 (c.toNat:Int)] 5)).grown hgrow (by simp;omega) (λk hk=>(hown.lt k hk).1)
 have HO:Hid (J3 B (l++(ds++[c])) v' w2):=Lib.hid (by
  show w2.ownsRow B _ 1 v' (l++(ds++[c])).length ((l++(ds++[c])).map _)
  simpa[Nat.add_assoc]using hown2)
 have HB:=Lib.hid hbel
 clear hgrow hown2 hbel hown
 go_wp2
 go_ret
 exact⟨_,rfl,HO.out,HB.out⟩
theorem Kk (d:Nat)(h:d<10):IntKind.u8.wrap (48+(d:Int))=((Ps.dgt d).toNat:Int):=by
 rw[Ps.dY d h]
 exact(IntWalk.u8_in _ (by omega)).trans (by omega)
theorem fd_one (n:Nat)(h:n<10):wY n 1 [Ps.dgt n]:=Nb n _ (by omega) (by rw[Int.tmod_eq_emod_of_nonneg (by omega)];omega) (aW (by omega)) (Kk n h)
theorem zl (n:Nat)(k:Nat)(ds:List UInt8)(hn:n<1000000)(hk:1<=k)(hk9:k<=9)(hds:ds.length<=50)(ih:wY ((n/10:Nat):Int) (k:Int) ds):wY n ((k+1:Nat):Int) (ds++[Ps.dgt (n%10)]):=
 OW n ((n/10:Nat):Int) _ (k:Int) ((n%10:Nat):Int) ds _ (by omega) (by rw[pK (by omega)];exact(aW (by omega)).trans (by omega)) ((aW (by omega)).trans (by omega)) (by rw[Int.tmod_eq_emod_of_nonneg (by omega)];omega) (aW (by omega)) (Kk _ (by omega)) ih hds
theorem DW (n:Nat)(h:n<100):wY n 2 [Ps.dgt (n/10%10),Ps.dgt (n%10)]:=by
 have:=zl n 1 [Ps.dgt (n/10)] (by omega) (by omega) (by omega) (by show(1:Nat)<=50;decide) (fd_one (n/10) (by omega))
 rw[show n/10%10=n/10 from by omega]
 exact this
theorem NT (n:Nat)(h:n<10000):wY n 4 [Ps.dgt (n/1000%10),Ps.dgt (n/100%10),Ps.dgt (n/10%10),Ps.dgt (n%10)]:=by
 have h2:=DW (n/100) (by omega)
 have h3:=zl (n/10) 2 [Ps.dgt (n/100/10%10),Ps.dgt (n/100%10)] (by omega) (by omega) (by omega) (by show(2:Nat)<=50;decide) (by rw[show n/10/10=n/100 from by omega];exact h2)
 have h4:=zl n 3 [Ps.dgt (n/100/10%10),Ps.dgt (n/100%10),Ps.dgt (n/10%10)] (by omega) (by omega) (by omega) (by show(3:Nat)<=50;decide) h3
 rw[show n/100/10%10=n/1000%10 from by omega]at h4
 exact h4
theorem Fg {B:Nat}{l:List UInt8}{z v':Value}{w1 w2:World}(hown2:w2.ownsRow B 5 1 v' (l.length+1) ((l.map λc=>Value.int .u8 (c.toNat:Int))++[.int .u8 45])):J3 B (l++[45]) v' w2:=by
 show w2.ownsRow B _ 1 v' (l++[45]).length ((l++[45]).map _)
 rw[List.map_append,List.length_append]
 exact hown2
theorem Gz (n:Int)(h0:0<=n)(hn:n<=Ps.bV)(w:World):Calls Tryz.prog 194 #[.int .i64 n] w λe w'=>e=.returned (.tuple #[.string (Ps.bA n),.int .i64 0])/\Below w.heap.size w w':=by
 have n1:=D5 n h0 hn w
 obtain⟨i0,hi,hz0,hz1,hz2⟩:=info_parts gq
 clear h0 hn
 go_enter Tryz.func194,Tryz.ntmps194
 go_upto_region 4 with(go_at_call 240;refine n1.mono ?_;rintro e w1 ⟨y,m,d,hc,rfl,hb⟩;unfold jc)
 have hc31:=hc.d31
 have HC:=Lib.hid hc
 obtain⟨g,hg⟩:∃g,g=w1.heap.size:=⟨_,rfl⟩
 generalize hW:World.alloc _ _=W
 have hrow:W.heap[g]? =some (.cells #[.int .i64 (y:Int),.int .i64 (m:Int),.int .i64 (d:Int)] 251 (0,0)):=by rw[<-hW,hg];exact aC w1 _
 have HB:Hid (Below w.heap.size w W):=Lib.hid (by rw[<-hW];exact hb.alloc hb.size _)
 have hgW:g<W.heap.size:=(Array.getElem?_eq_some_iff.1 hrow).1
 rw[<-hg]
 obtain⟨B,hBe⟩:∃B,B=W.heap.size:=⟨_,rfl⟩
 have HX:Hid (∀u:World,Below B W u->u.cell? ⟨g,0,none⟩=some (.int .i64 y)/\u.cell? ⟨g,1,none⟩=some (.int .i64 m)/\u.cell? ⟨g,2,none⟩=some (.int .i64 d)):=Lib.hid (λu hu=>by
  have h:=(hu.block g (by omega)).trans hrow
  refine⟨?_,?_,?_⟩<;>(rw[cell_of_row _ _ _ _ _ _ h];rfl))
 obtain⟨z0,-,-⟩:=HX.out W (Below.refl _ _)
 have hy:y<10000:=by have:=hc.2.1;omega
 have hm:m<100:=by have:=hc.2.2.2.1;omega
 have hd:d<100:=by omega
 obtain⟨L4,hL4⟩:∃L,L=[Ps.dgt (y/1000%10),Ps.dgt (y/100%10),Ps.dgt (y/10%10),Ps.dgt (y%10)]:=⟨_,rfl⟩
 obtain⟨M2,hM2⟩:∃L,L=[Ps.dgt (m/10%10),Ps.dgt (m%10)]:=⟨_,rfl⟩
 obtain⟨D2,hD2⟩:∃L,L=[Ps.dgt (d/10%10),Ps.dgt (d%10)]:=⟨_,rfl⟩
 have l4:L4.length=4:=by rw[hL4];rfl
 have l2:M2.length=2:=by rw[hM2];rfl
 have l3:D2.length=2:=by rw[hD2];rfl
 have m1:=NT y hy W B (.slice none 0 0) [] (by omega) (by decide) (World.ownsRow_nil _ _ _ _)
 rw[<-hL4,List.nil_append]at m1
 have HM2:Hid (wY (m:Int) 2 M2):=Lib.hid (by rw[hM2];exact DW m hm)
 have HM3:Hid (wY (d:Int) 2 D2):=Lib.hid (by rw[hD2];exact DW d hd)
 have Oe:=Lib.hid hBe
 have HT:Hid (Ps.bA n=⟨(L4++[45]++M2++[45]++D2).toArray⟩):=Lib.hid (by rw[Ps.vg hc,hL4,hM2,hD2];rfl)
 have HL:Hid (L4.length=4/\M2.length=2/\D2.length=2):=Lib.hid ⟨l4,l2,l3⟩
 clear hW hg n1 hc hc31 hrow hgW hy hm hd hb hBe hL4 hM2 hD2 l4 l2 l3
 go_wp2_with fail
 refine m1.mono ?_
 rintro e w2 ⟨z,rfl,hown,hb2⟩
 have HB2:Hid (Below B W w2/\B<=w2.heap.size):=Lib.hid ⟨hb2,by rw[Oe.out];rw[Oe.out]at hb2;exact hb2.size⟩
 clear m1 z0 hb2
 go_wp2_with (at_builtin;refine wpList_append_own _ rfl _ _ 135 rfl B 5 i0 (.int .u8 0) 1 1 Tryz.underlying135 hi hz0 hz1 hz2 rfl (by decide) _ _ _ rfl (hown.alloc _) ⟨w2.heap.size,0,none⟩ 1 1 [.int .u8 45] rfl rfl ?c1 ?c2 ?c3 ?c4 ?c5 ?_)
 case c1=>
  intro j u hj
  match j,hj with
  |0,hj=>simp at hj;subst hj;simp[Addr.add]
  |j+1,hj=>simp at hj
 case c2=>intro u hu;simp at hu;subst hu;rfl
 case c3=>have:=HL.out;unfold maxLen;omega
 case c4=>have:=HL.out;omega
 case c5=>have:=HB2.out.2;simp;omega
 intro v3 w3 hown3 hgrow _
 have HB3:Hid (Below B W w3/\B<=w3.heap.size):=Lib.hid (by
  obtain⟨x1,x2⟩:=HB2.out
  have h:=(x1.alloc x2 (.cells #[.int .u8 45] 5)).grown hgrow (by simp;omega) (λk hk=>(hown.lt k hk).1)
  exact⟨h,by rw[Oe.out];rw[Oe.out]at h;exact h.size⟩)
 obtain⟨-,z1,-⟩:=HX.out w3 HB3.out.1
 have m2:=HM2.out w3 B v3 (L4++[45]) HB3.out.2 (by have:=HL.out;rw[List.length_append];show _+1<=_;omega) (Fg (z:=z) (w1:=w2) hown3)
 clear hgrow hown3 hown
 go_wp2_with fail
 refine m2.mono ?_
 rintro e w4 ⟨z4,rfl,Mi,hb4⟩
 have xC:Hid (Below B W w4/\B<=w4.heap.size):=Lib.hid (by
  have h:=HB3.out.1.trans hb4
  exact⟨h,by rw[Oe.out];rw[Oe.out]at h;exact h.size⟩)
 clear m2 z1 hb4
 go_wp2_with (at_builtin;refine wpList_append_own _ rfl _ _ 135 rfl B 5 i0 (.int .u8 0) 1 1 Tryz.underlying135 hi hz0 hz1 hz2 rfl (by decide) _ _ _ rfl (Mi.alloc _) ⟨w4.heap.size,0,none⟩ 1 1 [.int .u8 45] rfl rfl ?c1 ?c2 ?c3 ?c4 ?c5 ?_)
 case c1=>
  intro j u hj
  match j,hj with
  |0,hj=>simp at hj;subst hj;simp[Addr.add]
  |j+1,hj=>simp at hj
 case c2=>intro u hu;simp at hu;subst hu;rfl
 case c3=>have:=HL.out;unfold maxLen;simp only[List.length_append,List.length_singleton];omega
 case c4=>have:=HL.out;simp only[List.length_append,List.length_singleton];omega
 case c5=>have:=xC.out.2;simp;omega
 intro v5 w5 hown5 hgrow _
 have Ae:Hid (Below B W w5/\B<=w5.heap.size):=Lib.hid (by
  obtain⟨x1,x2⟩:=xC.out
  have h:=(x1.alloc x2 (.cells #[.int .u8 45] 5)).grown hgrow (by simp;omega) (λk hk=>(Mi.lt k hk).1)
  exact⟨h,by rw[Oe.out];rw[Oe.out]at h;exact h.size⟩)
 obtain⟨-,-,z2⟩:=HX.out w5 Ae.out.1
 have hown5:w5.ownsRow B 5 1 v5 ((L4++[45]++M2).length+1) (((L4++[45]++M2).map λc:UInt8=>Value.int .u8 (c.toNat:Int))++[.int .u8 45]):=by simpa using hown5
 have m3:=HM3.out w5 B v5 (L4++[45]++M2++[45]) Ae.out.2 (by have:=HL.out;simp only[List.length_append,List.length_singleton];omega) (Fg (z:=z) (w1:=w2) hown5)
 clear hgrow hown5 Mi
 go_wp2_with fail
 refine m3.mono ?_
 rintro e w6 ⟨z6,rfl,hown6,hb6⟩
 have wW:Hid (Below w.heap.size w w6):=Lib.hid (by
  have h:=Ae.out.1.trans hb6
  rw[Oe.out]at h
  exact HB.out.trans (h.mono HB.out.size))
 have HLL:Hid (0<(L4++[45]++M2++[45]++D2).length):=Lib.hid (by have:=HL.out;simp only[List.length_append,List.length_singleton];omega)
 generalize L4++[45]++M2++[45]++D2=LL at hown6 HT HLL⊢
 obtain⟨sb,cap,rfl,-,hcell⟩:=gP hown6 HLL.out
 have hcv:(convert 135 9 (.slice (some ⟨sb,0,none⟩) LL.length cap)).run Tryz.prog w6=.ok (.string ⟨LL.toArray⟩) w6:=by
  refine run_convert_bytes_back _ _ _ _ ⟨sb,0,none⟩ cap LL Tryz.underlying135 Tryz.underlying5 Tryz.underlying9 (λj hj=>?_)
  rw[show(⟨sb,0,none⟩:Addr).add j=⟨sb,j,none⟩from by unfold Addr.add;split<;>simp_all]
  refine hcell j _ ?_
  rw[List.getElem?_map,List.getElem?_eq_getElem hj]
  rfl
 clear hown6 hb6 m3 z2 hcell
 go_wp2_with fail
 go_ret2
 exact⟨by rw[HT.out];rfl,wW.out⟩
theorem fd_day (n:Int)(h0:0<=n)(hn:n<=Ps.bV)(w:World):Calls Tryz.prog 122 #[.int .i64 n] w λe w'=>e=.returned (.string (Ps.bA n))/\Below w.heap.size w w':=by
 have n1:=Gz n h0 hn w
 generalize Ps.bA n=x at n1⊢
 clear h0 hn
 go_enter Tryz.func122,Tryz.ntmps122
 go_wp2_with fail
 refine n1.mono ?_
 rintro e w1 ⟨rfl,hb⟩
 clear n1
 go_wp2_with fail
 go_ret
 exact⟨rfl,hb⟩
end Go.Proofs.YtnjjeapcalkmaaaGreatDoor
namespace Go.Proofs.YtnjjeapcalkmaaaGreatDoor.Se
open Go Go.RowKit Go.Proofs.YtnjjeapcalkmaaaGreatDoor Go.Proofs.YtnjjeapcalkmaaaGreatDoor.Ord
def ai (B:Nat)(W:World)(cell:Nat->Nat->Value)(f:FuncId)(us:List PV)(r:Rv):Prop:=
 (∀args w,(callFunc f args).run Tryz.prog w=.ok (.enter f args) w)/\r.fits/\∀(vals:List Value) (w:World),Below B W w->vB cell us vals w->Calls Tryz.prog f vals.toArray w λe w'=>∃y,e=.returned y/\r.out y w w'/\Below w.heap.size w w'
def KX (B:Nat)(W:World)(cell:Nat->Nat->Value)(res:FuncId->List PV->Option Rv)(f:FuncId)(us:List PV):Option (PV×Bool×Option Prop):=match res f us with
 |some r=>if us.all Cq=true then some (r.pv,false,some (ai B W cell f us r))else none
 |none=>none
theorem MS {M:Mem}(hM:Wf M){res:FuncId->List PV->Option Rv}(f:FuncId)(us:List PV)(u:PV)(c:Bool)(q:Option Prop)(h:KX M.B M.W M.cell res f us=some (u,c,q))(hq:∀p,q=some p->p):
 (∀args w,(callFunc f args).run Tryz.prog w=.ok (.enter f args) w)/\∀(vals:List Value) w,Sw M w->j3 M us vals w->Calls Tryz.prog f vals.toArray w λe w'=>∃v,e=.returned v/\Den M u v w'/\Sw M w'/\(c=false->Below w.heap.size w w'):=by
 unfold KX at h
 split at h
 ·rename_i r hr
  split at h
  ·rename_i ha
   cases h
   obtain⟨h1,h2,h3⟩:=hq _ rfl
   refine⟨h1,λvals w hS hd=>(h3 vals w hS.to (o9 ha hd)).mono ?_⟩
   rintro e w' ⟨y,rfl,ho,hb⟩
   have hB:M.B<=w.heap.size:=Nat.le_trans hM.B hS.size
   have hnew:∀{t:TypeId} {n:Nat} {xs:List Value},w'.ownsRow w.heap.size t 1 y n xs->∀g,y.ownBlock=some g->g∉M.fix:=λho g hg hf=>by
    rcases ho.2 with⟨hv,_⟩|⟨g',cap,cur,hv,hb',_⟩
    ·rw[hv]at hg;cases hg
    ·rw[hv]at hg
     have:g'=g:=by simpa[Value.ownBlock]using hg
     have:=hM.fix g hf
     have:=hS.size
     omega
   refine⟨y,rfl,?_,hS.below hM hb,λ_=>hb⟩
   cases r with
   |str n x=>
    show y=.string (st (n,x))
    rw[show st (n,x)=x from jP h2]
    exact ho
   |sls l=>
    have ho:w'.ownsRow w.heap.size 9 1 y l.length ((l.map st).map .string):=ho
    refine⟨?_,hnew ho⟩
    rw[List.length_map]
    exact dH ho hB
   |val x=>exact ho
   |bts l=>
    have ho:w'.ownsRow w.heap.size 5 1 y l.length (l.map λc=>.int .u8 (c.toNat:Int)):=ho
    exact⟨dH ho hB,hnew ho⟩
  ·cases h
 ·cases h
def seW (B:Nat)(W:World)(fix:List Nat)(b:Nat)(rows:List (Option (Nat×Nat)×List Value))(res:FuncId->List PV->Option Rv):Mem:=ll B W fix b rows (KX B W (Ev.az rows) res)
theorem wL {B:Nat}{W:World}{fix:List Nat}{b:Nat}{rows:List (Option (Nat×Nat)×List Value)}{res:FuncId->List PV->Option Rv}(hB:B<=W.heap.size)(hf:∀g∈fix,g<W.heap.size)
 (h2:∀(k g o:Nat) (l:List Value),rows[k]? =some (some (g,o),l)->(g<B\/g∈fix)/\∀w:World,w.heap[g]? =W.heap[g]?->∀(j:Nat) (v:Value),l[j]? =some v->w.cell? ⟨g,o+j,none⟩=some v)
 (hb:∀(k:Nat) (p:Nat×Nat) (l:List Value),rows[k]? =some (some p,l)->∀x,Value.string x∈l->x.size<=b):Ok Tryz.prog (seW B W fix b rows res):=
 xg hB hf h2 hb λf us u c q h hq=>MS (M:=seW B W fix b rows res) ⟨hB,hf⟩ f us u c q h hq
theorem uH {B:Nat}{W:World}{cell:Nat->Nat->Value}{f:FuncId}{u:PV}{x y:Value}(he:∀args w,(callFunc f args).run Tryz.prog w=.ok (.enter f args) w)(hu:jr cell u=some x)(h:∀w,Below B W w->Calls Tryz.prog f #[x] w λe w'=>e=.returned y/\Below w.heap.size w w'):ai B W cell f [u] (.val y):=⟨he,trivial,λvals w hw hd=>by
 obtain⟨v,rfl,hv⟩:=O6 hd
 obtain rfl:=um hu hv
 exact(h w hw).mono λe w' ⟨h1,h2⟩=>⟨_,h1,rfl,h2⟩⟩
theorem ol {B:Nat}{W:World}{cell:Nat->Nat->Value}{f:FuncId}{u:PV}{x:Value}{n:Nat}{b:ByteArray}(he:∀args w,(callFunc f args).run Tryz.prog w=.ok (.enter f args) w)(hu:jr cell u=some x)(h:∀w,Below B W w->vo f #[x] w b)(hn:b.size<=n):ai B W cell f [u] (.str n b):=⟨he,hn,λvals w hw hd=>by
 obtain⟨v,rfl,hv⟩:=O6 hd
 obtain rfl:=um hu hv
 exact(h w hw).mono λe w' ⟨h1,h2⟩=>⟨_,h1,rfl,h2⟩⟩
end Go.Proofs.YtnjjeapcalkmaaaGreatDoor.Se
