/-
  PrinterMeaning is true for every input. The row lists some package-level variables as the program's text lays them; the card ties them.
-/
import Derived.Test.YtnjjeapcalkmaaaGreatDoorPmH
set_option maxRecDepth 100000
set_option maxHeartbeats 4000000
set_option linter.unusedVariables false
set_option linter.unusedSimpArgs false
namespace Go.Proofs.YtnjjeapcalkmaaaGreatDoor
open Go
def Bq (n:Int):Bool:=decide (0<=n)&&decide (n<=73048)
def G5 (V:Nat->ByteArray->Bool)(i:Ps.Ins)(sn:Nat)(xL:Int):Int:=if ((decide (i.kind<0))||(decide (4<i.kind)))=true then 11 else(if ((!(V 2 i.ref))||(!(V 1 i.sender)))=true then 6 else(if ((!(decide (i.kind<3)))&&(!(i.counterparty.toList==(⟨#[]⟩:ByteArray).toList)))=true then 3 else(if ((decide (i.kind<3))&&(!(V 1 i.counterparty)))=true then 6 else(if ((decide (i.kind<3))&&(i.counterparty.toList==i.sender.toList))=true then 1 else(if ((i.side !=0)&&(i.side !=1))=true then 11 else(if ((!((i.kind==1)||(i.kind==2)))&&(i.side !=0))=true then 3 else(if (((i.kind==0)&&(!(i.asset.toList==(⟨#[67,65,83,72]⟩:ByteArray).toList)))||((decide (0<i.kind))&&(!(V 0 i.asset))))=true then 6 else(if (((i.kind==0)&&(i.quantity !=0))||((decide (0<i.kind))&&((decide (i.quantity<1))||(decide (1000000000000000<i.quantity)))))=true then 2 else(if (((decide (i.kind<2))&&((decide (i.amount<1))||(decide (1000000000000000<i.amount))))||((decide (2<=i.kind))&&(i.amount !=0)))=true then 2 else(if (((!(Bq i.settleDay))||(((i.kind==1)||(i.kind==2))&&((decide (i.tradeDay<0))||(decide (i.settleDay<i.tradeDay)))))||((!((i.kind==1)||(i.kind==2)))&&(i.tradeDay !=0)))=true then 28 else(if (((decide (i.priority<0))||(decide (2<i.priority)))||((!(decide (i.kind<3)))&&(i.priority !=0)))=true then 2 else(if (i.partial_&&(!((i.kind==1)||(i.kind==2))))=true then 3 else(if ((i.partial_&&((decide (i.minLot<1))||(decide (i.quantity<i.minLot))))||((!i.partial_)&&(i.minLot !=0)))=true then 2 else(if (((i.hold&&(!(decide (i.kind<3))))||(i.reserve&&((i.kind !=0)||(i.priority !=2))))||((!(decide (i.kind<3)))&&(decide (0<(sn:Int)))))=true then 3 else(if (decide (8<(sn:Int)))=true then 8 else(xL))))))))))))))))
def Gn (A:Ps.Amd):Int:=if ((((!A.hasAmount)&&(!A.hasSettleDay))&&(!A.hasPriority))&&(!A.hasPartial))=true then 3 else(if (((((!A.hasAmount)&&(A.amount !=0))||((!A.hasSettleDay)&&(A.settleDay !=0)))||((!A.hasPriority)&&(A.priority !=0)))||((!A.hasPartial)&&(A.partial_||(A.minLot !=0))))=true then 3 else(if (A.hasAmount&&((decide (A.amount<1))||(decide (1000000000000000<A.amount))))=true then 2 else(if (A.hasSettleDay&&(!(Bq A.settleDay)))=true then 28 else(if (A.hasPriority&&((decide (A.priority<0))||(decide (2<A.priority))))=true then 2 else(if (A.hasPartial&&((A.partial_&&((decide (A.minLot<1))||(decide (1000000000000000<A.minLot))))||((!A.partial_)&&(A.minLot !=0))))=true then 2 else(0))))))
theorem bI {c:Bool}{p:Prop}[Decidable p]{n x y:Int}(h:c=true↔p)(h2:¬p->x=y):(if c=true then n else x)=if p then n else y:=by
 by_cases hp:p
 ·rw[if_pos hp,if_pos (h.2 hp)]
 ·rw[if_neg hp,if_neg (λhc=>hp (h.1 hc))];exact h2 hp
theorem yV {c:Bool}{p q:Prop}[Decidable p][Decidable q]{n x y:Int}(h:c=true↔p\/q)(h2:¬p->¬q->x=y):(if c=true then n else x)=if p then n else if q then n else y:=by
 by_cases hp:p
 ·rw[if_pos hp,if_pos (h.2 (.inl hp))]
 ·by_cases hq:q
  ·rw[if_neg hp,if_pos hq,if_pos (h.2 (.inr hq))]
  ·rw[if_neg hp,if_neg hq,if_neg (λhc=>(h.1 hc).elim hp hq)];exact h2 hp hq
theorem beqS (s t:ByteArray):(s.toList==t.toList)=decide (s=t):=by
 by_cases h:s=t
 ·rw[h];simp
 ·rw[decide_eq_false h,beq_eq_false_iff_ne]
  intro he
  rw[Lib.toList_data,Lib.toList_data]at he
  exact h (ByteArray.ext (Array.toList_inj.1 he))
theorem insRef_eq (V:Nat->ByteArray->Bool)(hV:V 1 ⟨#[]⟩=false)(i:Ps.Ins):G5 V i i.links.length (Ps.ig V i [] i.links)=Ps.rG V i:=by
 unfold G5 Ps.rG Bq Ps.bL Ps.bF
 simp only[beqS]
 refine bI (by first|(simp;done)|(simp;omega)) λr1=>?_
 have k1:i.kind=0\/i.kind=1\/i.kind=2\/i.kind=3\/i.kind=4:=by omega
 refine yV (by simp) λr2 r3=>?_
 refine bI (by first|(simp;done)|(simp;omega)) λr4=>?_
 refine bI (by first|(simp;done)|(simp;omega)) λr5=>?_
 refine bI ?_ λr6=>?_
 ·simp only[Bool.and_eq_true,decide_eq_true_eq]
  constructor
  ·exactλh=>h.2
  ·intro h
   refine⟨Classical.byContradiction λhk=>?_,h⟩
   have h34:i.kind=3\/i.kind=4:=by omega
   have hc:i.counterparty=⟨#[]⟩:=Classical.byContradiction λhc=>r4 ⟨h34,hc⟩
   rw[<-h,hc]at r3
   exact r3 hV
 refine bI (by first|(simp;done)|(simp;omega)) λr7=>?_
 refine bI (by first|(simp;done)|(simp;omega)) λr8=>?_
 refine bI ?_ λr9=>?_
 ·rcases k1 with h|h|h|h|h<;>rw[h]<;>simp[Ps.sO]
 refine bI ?_ λr10=>?_
 ·rcases k1 with h|h|h|h|h<;>rw[h]<;>simp<;>omega
 refine bI ?_ λr11=>?_
 ·rcases k1 with h|h|h|h|h<;>rw[h]<;>simp<;>omega
 refine yV ?_ λr12 r13=>?_
 ·rcases k1 with h|h|h|h|h<;>rw[h]<;>simp<;>omega
 refine bI ?_ λr14=>?_
 ·rcases k1 with h|h|h|h|h<;>rw[h]<;>simp<;>omega
 refine bI ?_ λr15=>?_
 ·rcases k1 with h|h|h|h|h<;>rw[h]<;>simp
 refine bI ?_ λr16=>?_
 ·cases hp:i.partial_<;>simp<;>omega
 have h3:∀(c:Bool) (p q r:Prop) [Decidable p] [Decidable q] [Decidable r] (x y:Int),(c=true↔p\/q\/r)->(¬p->¬q->¬r->x=y)->(if c=true then(3:Int)else x)=if p then 3 else if q then 3 else if r then 3 else y:=by
  intro c p q r _ _ _ x y h hx
  by_cases hp:p
  ·rw[if_pos hp,if_pos (h.2 (.inl hp))]
  ·by_cases hq:q
   ·rw[if_neg hp,if_pos hq,if_pos (h.2 (.inr (.inl hq)))]
   ·by_cases hr:r
    ·rw[if_neg hp,if_neg hq,if_pos hr,if_pos (h.2 (.inr (.inr hr)))]
    ·rw[if_neg hp,if_neg hq,if_neg hr,if_neg (λhc=>(h.1 hc).elim hp (λh=>h.elim hq hr))];exact hx hp hq hr
 refine h3 _ _ _ _ _ _ ?_ λr17 r18 r19=>?_
 ·rcases k1 with h|h|h|h|h<;>rw[h]<;>simp[or_assoc]
 exact bI (by simp;omega) λ_=>rfl
theorem amdRef_eq (A:Ps.Amd):Gn A=Ps.CF A:=by
 unfold Gn Ps.CF Bq Ps.bL Ps.bF
 refine bI (by simp[and_assoc]) λr1=>?_
 refine bI (by simp[or_assoc]) λr2=>?_
 have a0:A.hasAmount=false->A.amount=0:=λhk=>Classical.byContradiction λhc=>r2 (.inl ⟨hk,hc⟩)
 have d0:A.hasSettleDay=false->A.settleDay=0:=λhk=>Classical.byContradiction λhc=>r2 (.inr (.inl ⟨hk,hc⟩))
 have p0:A.hasPriority=false->A.priority=0:=λhk=>Classical.byContradiction λhc=>r2 (.inr (.inr (.inl ⟨hk,hc⟩)))
 have q0:A.hasPartial=false->A.partial_=false/\A.minLot=0:=λhk=>⟨by
  cases hv:A.partial_ with
  |false=>rfl
  |true=>exact absurd (.inr (.inr (.inr ⟨hk,.inl hv⟩))) r2,Classical.byContradiction λhc=>r2 (.inr (.inr (.inr ⟨hk,.inr hc⟩)))⟩
 refine bI ?_ λr3=>?_
 ·cases h:A.hasAmount
  ·have:=a0 h;simp[this]
  ·simp;omega
 refine bI ?_ λr4=>?_
 ·cases h:A.hasSettleDay
  ·have:=d0 h;simp[this]
  ·simp;omega
 refine bI ?_ λr5=>?_
 ·cases h:A.hasPriority
  ·have:=p0 h;simp[this]
  ·simp;omega
 refine bI ?_ λ_=>rfl
 cases h:A.hasPartial
 ·have:=q0 h;simp[this.1,this.2]
 ·cases hp:A.partial_<;>simp<;>omega
open Go.RowKit
open Go.Proofs.YtnjjeapcalkmaaaGreatDoor.Ord
theorem ent76:∀args w,(callFunc 93 args).run Tryz.prog w=.ok (.enter 93 args) w:=enters_of Tryz.func93 (by kernel_rfl) rfl
section
variable (x y : Operand) (n m : Int) (w : World)
theorem cm_lt3:(do eqGuard .lss 3 x y (.int .i64 n) (.int .i64 m);binOp .lss 3 (.int .i64 n) (.int .i64 m):Sem Value).run Tryz.prog w=.ok (.bool (decide (n<m))) w:=by go_simp
theorem cm_gt2:(do eqGuard .gtr 2 x y (.int .i64 n) (.int .i64 m);binOp .gtr 2 (.int .i64 n) (.int .i64 m):Sem Value).run Tryz.prog w=.ok (.bool (decide (m<n))) w:=by go_simp
theorem cm_ge3:(do eqGuard .geq 3 x y (.int .i64 n) (.int .i64 m);binOp .geq 3 (.int .i64 n) (.int .i64 m):Sem Value).run Tryz.prog w=.ok (.bool (decide (m<=n))) w:=by go_simp
end
theorem MM (w:World)(n:Int):Calls Tryz.prog 93 #[.int .i64 n] w λe w'=>e=.returned (.bool (Bq n))/\Below w.heap.size w w':=by
 unfold Bq
 by_cases h1:n>=0
 all_goals
  go_enter Tryz.func93,Tryz.ntmps93
  go_wp2_with fail
  go_ret
  exact⟨bO (by first|rfl|(simp;omega)|simp),Below.refl _ _⟩
open Go.Proofs.YtnjjeapcalkmaaaGreatDoor.Ev (AV Mem Fr om)
def amdM (g:Nat)(A:Ps.Amd):Mem Unit:=om (λt f=>if t=26/\f<9 then some f else none) [(some (g,0),aH A)] λf vs=>if f=93 then(match vs.map (Ev.iL [(some (g,0),aH A)])with|[.int .i64 n]=>some (.bool (Bq n))|_=>none)else none
theorem K3 {t:TypeId}{f d:Nat}(h:(if t=26/\f<9 then some f else none)=some d)(b j:Nat)(w:World):(Instr.fieldAt t (.pointer (some ⟨b,j,none⟩)) f).run Tryz.prog w=.ok (.pointer (some ⟨b,j+d,none⟩)) w:=by
 split at h
 ·rename_i h1
  obtain⟨rfl,h2⟩:=h1
  cases h
  rcases f with _|_|_|_|_|_|_|_|_|f
  all_goals first|omega|go_simp
 ·cases h
theorem QT {S:World->Prop}{g:Nat}{A:Ps.Amd}(hr:∀w,S w->w.heap[g]? =some (.cells (aH A).toArray 26 (0,0)))(hb:∀w w',S w->Below w.heap.size w w'->S w'):Ev.Ok Tryz.prog (λ_ w=>S w) (amdM g A):=by
 refine Ev.mX (λt f d h=>K3 h) (λk b o l h w hS j v hv=>?_) (λf vs v h=>?_) (λ_ _ _ h=>by cases h)
 ·rcases k with _|k
  ·cases h
   rw[Nat.zero_add,cell_of_row _ _ _ _ _ _ (hr w hS)]
   simpa using hv
  ·cases h
 ·split at h
  ·rename_i hf
   subst hf
   split at h
   ·rename_i hm
    cases h
    rw[hm]
    exact⟨ent76,λw hS=>(MM w _).mono λe w' k=>⟨k.1,hb _ _ hS k.2⟩⟩
   ·cases h
  ·cases h
theorem amd_ref (w:World)(A:Ps.Amd)(x:Int)(hx:x=if ((((!A.hasAmount)&&(!A.hasSettleDay))&&(!A.hasPriority))&&(!A.hasPartial))=true then 3 else(if (((((!A.hasAmount)&&(A.amount !=0))||((!A.hasSettleDay)&&(A.settleDay !=0)))||((!A.hasPriority)&&(A.priority !=0)))||((!A.hasPartial)&&(A.partial_||(A.minLot !=0))))=true then 3 else(if (A.hasAmount&&((decide (A.amount<1))||(decide (1000000000000000<A.amount))))=true then 2 else(if (A.hasSettleDay&&(!(Bq A.settleDay)))=true then 28 else(if (A.hasPriority&&((decide (A.priority<0))||(decide (2<A.priority))))=true then 2 else(if (A.hasPartial&&((A.partial_&&((decide (A.minLot<1))||(decide (1000000000000000<A.minLot))))||((!A.partial_)&&(A.minLot !=0))))=true then 2 else(0))))))):
 Calls Tryz.prog 44 #[.agg (aH A).toArray] w λe w'=>e=.returned (.int .i64 x)/\Below w.heap.size w w':=by
 go_enter Tryz.func44,Tryz.ntmps44
 refine wp_seq ?_
 refine wp_region_lit ?_
 refine wpList_plain rfl (λK hK=>?_)
 go_simp
 refine hK _ _ ?_
 clear hK K
 refine wpList_plain rfl (λK hK=>?_)
 go_simp
 refine hK _ _ ?_
 clear hK K
 refine av ?_
 obtain⟨g,hg⟩:∃g,g=w.heap.size:=⟨_,rfl⟩
 obtain⟨W1,hW1⟩:∃W1,W1=w.alloc (.cells (aH A).toArray 26):=⟨_,rfl⟩
 have hrow:∀W,Below W1.heap.size W1 W->W.heap[g]? =some (.cells (aH A).toArray 26 (0,0)):=λW hW=>by
  rw[hW.block g (by rw[hW1,hg];simp),hW1,hg];exact aD w _
 have hB1:Below w.heap.size w W1:=by rw[hW1];exact(Below.refl _ _).alloc (Nat.le_refl _) _
 rw[<-hg,<-hW1]
 refine rO rfl λa ha hdf=>?_
 refine Ev.MR (M:=amdM g A) (S:=λ_ W=>Below W1.heap.size W1 W) (n:=121) (K:=[(1,.p 0 0)]) (s:=()) (v:=x) 2 (QT hrow λW W' h1 h2=>h1.trans (h2.mono h1.size)) (λ_ W h=>h.drew) (by rw[hx];kernel_rfl) (by kernel_rfl) (Ev.aG (Ev.bD (by rw[ha];rfl) hdf) (by rw[ha];rfl)) (Below.refl _ _) ?_
 intro b W s hd ht hS
 try simp only[Exit.then,Exit.inBlock]
 refine bodyPost_ret (results_tmp rfl _ _ _) hd ?_
 rw[hg]
 exact⟨by rw[show b.tmps.getD 2 undef=.int .i64 x from eval_at ht],hB1.trans (hS.mono hB1.size)⟩
open Go.Proofs.YtnjjeapcalkmaaaGreatDoor.Ev (AV Mem Fr om bE iL Sh Stop Qof az gV bK jM oF fmC)
theorem bytes_inj {s t:ByteArray}(h:(s.toList==t.toList)=true):s=t:=by
 have h1:=beq_iff_eq.1 h
 rw[Lib.toList_data,Lib.toList_data]at h1
 exact ByteArray.ext (Array.toList_inj.1 h1)
def NQ (w:World)(g so:Nat)(ks:List Ps.Link):Prop:=∀(j:Nat) (x:Ps.Link),ks[j]? =some x->w.cell? ⟨g,so+j*2,none⟩=some (.int .i64 x.type)/\w.cell? ⟨g,so+j*2+1,none⟩=some (.string x.ref)
theorem NQ.of {w:World}{g:Nat}{ks:List Ps.Link}(h:jq w g ks):NQ w g 0 ks:=λj x hj=>by
 rw[Nat.zero_add]
 exact h j x hj
def nX (w:World)(sa:Option Addr)(n:Nat)(ks:List Ps.Link):Prop:=0<n->∃sb so,sa=some ⟨sb,so,none⟩/\∀W,Below w.heap.size w W->NQ W sb so ks
theorem nX.of {w:World}{sa:Option Addr}{n:Nat}{ks:List Ps.Link}(h:0<n->∃sb,sa=some ⟨sb,0,none⟩/\∀W,Below w.heap.size w W->jq W sb ks):nX w sa n ks:=λhn=>by
 obtain⟨sb,e,h⟩:=h hn
 exact⟨sb,0,e,λW hW=>.of (h W hW)⟩
theorem nX.below {w w':World}{sa:Option Addr}{n:Nat}{ks:List Ps.Link}(h:nX w sa n ks)(hb:Below w.heap.size w w'):nX w' sa n ks:=λhn=>by
 obtain⟨sb,so,e,h⟩:=h hn
 exact⟨sb,so,e,λW hW=>h W (hb.trans (hW.mono hb.size))⟩
open Go Go.RowKit Go.Proofs.YtnjjeapcalkmaaaGreatDoor.Ord
open Go.Proofs.YtnjjeapcalkmaaaGreatDoor.Se
def LM (tS:TypeId)(kr j0:Nat)(n:Int)(b:Bool)(o:Oper)(ov:Operand->Option PV):Option PV:=match o.op with
 | .indexAddr t x y=>if t=tS/\b=true then(match ov x,ov y with
   |some (.r k c),some (.r 2 0)=>if k=kr/\c=j0 then some (.p 3 0)else none
   |_,_=>none)else none
 | .call ⟨.builtin .len,xs,ts⟩=>(match xs.toList,ts.toList with
   |[x],[t]=>if t=tS/\o.type=3 then(match ov x with
    |some (.r k c)=>if k=kr/\c=j0 then some (.v (.int .i64 n))else none
    |_=>none)else none
   |_,_=>none)
 |_=>none
theorem Jp {M:Mem}{tS:TypeId}(ht:tS=22\/tS=32){kr j0 n cp:Nat}{sa:Option Addr}(hc:M.cell kr j0=.slice sa n cp)(o:Oper)(ov:Operand->Option PV)(u:PV)(h:LM tS kr j0 (n:Int) false o ov=some u)(ρ:Operand->Value)(w:World)(_:∀f,ρ (.func f)=.func (.func f) #[] #[])(_:Sw M w)(hov:∀x p,ov x=some p->Den M p (ρ x) w):∃v,(execOp ρ o).run Tryz.prog w=.ok (.value v) w/\Den M u v w:=by
 unfold LM at h
 split at h
 ·split at h
  ·rename_i hb;cases hb.2
  ·cases h
 ·rename_i xs ts ho
  split at h
  ·rename_i x t hxs hts
   split at h
   ·rename_i ht3
    obtain⟨rfl,h3⟩:=ht3
    split at h
    ·rename_i k c hx
     split at h
     ·rename_i hk
      obtain⟨rfl,rfl⟩:=hk
      cases h
      have hx2:ρ x=.slice sa n cp:=(hov _ _ hx).trans hc
      obtain rfl:xs=#[x]:=by apply Array.toList_inj.1;rw[hxs]
      obtain rfl:ts=#[t]:=by apply Array.toList_inj.1;rw[hts]
      refine⟨.int .i64 (n:Int),?_,rfl⟩
      unfold execOp
      simp only[ho,h3,hx2]
      clear hc hov hx ho
      rcases ht with rfl|rfl<;>go_simp
     ·cases h
    ·cases h
   ·cases h
  ·cases h
 ·cases h
theorem JA {w W:World}{g j:Nat}(h:w.heap[g]? =W.heap[g]?):w.cell? ⟨g,j,none⟩=W.cell? ⟨g,j,none⟩:=by
 unfold World.cell?
 rw[h]
theorem Mg {W:World}{sb so j:Nat}{x:Ps.Link}{ks:List Ps.Link}(h:NQ W sb so ks)(hj:ks[j]? =some x):sb<W.heap.size/\∀w:World,w.heap[sb]? =W.heap[sb]?->∀(k:Nat) (v:Value),([.int .i64 x.type,.string x.ref]:List Value)[k]? =some v->w.cell? ⟨sb,so+j*2+k,none⟩=some v:=by
 obtain⟨h1,h2⟩:=h j x hj
 refine⟨World.block_lt_of_cell? W _ h1,λw hw k v hv=>?_⟩
 rw[JA hw]
 rcases k with _|_|k
 ·cases hv;exact h1
 ·cases hv;exact h2
 ·cases hv
def zn (f:FuncId)(args:Array Value)(w:World)(l:List SB):Prop:=Calls Tryz.prog f args w λe w'=>∃y,e=.returned y/\w'.ownsRow w.heap.size 9 1 y l.length ((l.map st).map .string)/\Below w.heap.size w w'
theorem lp_ins (w:World)(i:Ps.Ins)(a:Option Addr)(n c:Nat):Sem.run Tryz.prog (storeCells ⟨w.heap.size,0,none⟩ (aB i (.slice a n c))) (w.alloc (.cells Mo 34))=.ok () (w.alloc (.cells (aB i (.slice a n c)).toArray 34)):=
 run_storeCells_new w 34 Mo (aB i (.slice a n c)).toArray (by kernel_rfl) rfl (zN i a n c)
theorem lp_amd (w:World)(a:Ps.Amd):Sem.run Tryz.prog (storeCells ⟨w.heap.size,0,none⟩ (aH a)) (w.alloc (.cells ME 35))=.ok () (w.alloc (.cells (aH a).toArray 35)):=
 run_storeCells_new w 35 ME (aH a).toArray (by kernel_rfl) rfl (by rw[<-Array.all_toList];simp[aH,Value.oneCell'])
theorem xE (w:World)(i:Ps.Ins)(a:Option Addr)(n c:Nat){ρ:Operand->Value}{o:Oper}{x:Operand}(ho:o.op=.box 34 x)(hx:ρ x=.agg (aB i (.slice a n c)).toArray):(execOp ρ o).run Tryz.prog w=.ok (.value (.pointer (some ⟨w.heap.size,0,none⟩))) (w.alloc (.cells (aB i (.slice a n c)).toArray 34)):=by
 have h:=lp_ins w i a n c
 unfold Mo at h
 unfold execOp
 simp only[ho,hx]
 go_simp
 try rfl
theorem bx_amd (w:World)(i:Ps.Amd){ρ:Operand->Value}{o:Oper}{x:Operand}(ho:o.op=.box 35 x)(hx:ρ x=.agg (aH i).toArray):(execOp ρ o).run Tryz.prog w=.ok (.value (.pointer (some ⟨w.heap.size,0,none⟩))) (w.alloc (.cells (aH i).toArray 35)):=by
 have h:=lp_amd w i
 unfold ME at h
 unfold execOp
 simp only[ho,hx]
 go_simp
 try rfl
theorem yL {Q:Exit->Act->World->Prop}{a:Act}{w W:World}{id:Nat}{o1 o2:Oper}{d1 d2:Nat}{p v:Value}(g1:o1.guard=none)(h1:o1.dst=some d1)(g2:o2.guard=none)(h2:o2.dst=some d2)(h3:o2.op=.assign (.const v))(hn:d1≠d2)(l1:d1<a.tmps.size)(l2:d2<a.tmps.size)(e1:(execOp a.eval o1).run Tryz.prog w=.ok (.value p) W)
 (hend:∀b:Act,b.defers=a.defers->b.tmps.size=a.tmps.size->b.tmps[d1]? =some p->b.tmps[d2]? =some v->Q .normal b W):(Code.region id #[o1,o2] false).wp Tryz.prog Q a w:=by
 refine wp_region_lit ?_
 refine eD (w':=W) (u:=p) g1 h1 e1 ?_
 refine eD (w':=W) (u:=v) g2 h2 (by unfold execOp;simp only[h3];rfl) ?_
 refine av ?_
 exact hend _ rfl (by simp) (by simp[hn,Ne.symm hn,l1]) (by simp[l2])
theorem wp_bx3 {Q:Exit->Act->World->Prop}{a:Act}{w W:World}{id:Nat}{o1 o2 o3:Oper}{d1 d2 d3:Nat}{p v u:Value}(g1:o1.guard=none)(h1:o1.dst=some d1)(g2:o2.guard=none)(h2:o2.dst=some d2)(h3:o2.op=.assign (.const v))(g3:o3.guard=none)(h4:o3.dst=some d3)(h5:o3.op=.assign (.const u))(hn:d1≠d2)(hn2:d1≠d3)(hn3:d2≠d3)(l1:d1<a.tmps.size)(l2:d2<a.tmps.size)(l3:d3<a.tmps.size)(e1:(execOp a.eval o1).run Tryz.prog w=.ok (.value p) W)
 (hend:∀b:Act,b.defers=a.defers->b.tmps.size=a.tmps.size->b.tmps[d1]? =some p->b.tmps[d2]? =some v->b.tmps[d3]? =some u->Q .normal b W):(Code.region id #[o1,o2,o3] false).wp Tryz.prog Q a w:=by
 refine wp_region_lit ?_
 refine eD (w':=W) (u:=p) g1 h1 e1 ?_
 refine eD (w':=W) (u:=v) g2 h2 (by unfold execOp;simp only[h3];rfl) ?_
 refine eD (w':=W) (u:=u) g3 h4 (by unfold execOp;simp only[h5];rfl) ?_
 refine av ?_
 exact hend _ rfl (by simp) (by simp[hn,hn2,Ne.symm hn,Ne.symm hn2,l1]) (by simp[hn3,Ne.symm hn3,l2]) (by simp[l3])
theorem zq {M:Mem}{fn:Func}{r:Nat}{l:List SB}{us:List PV}{ts:List Nat}{a:Act}{w:World}{R:Ending->World->Prop}(hres:fn.results=#[.tmp r])(hd:a.defers=[])(hv:nG M (r::ts) (.sl l::us) a w)(hR:∀v,w.ownsRow M.B 9 1 v l.length ((l.map st).map .string)->R (.returned v) w):bodyPost Tryz.prog fn R .ret a w:=by
 obtain⟨⟨v,h1,h2⟩,_⟩:=hv.cons
 refine bodyPost_ret (results_tmp hres _ _ _) hd ?_
 rw[show a.tmps.getD r undef=v from eval_at h1]
 refine hR v ?_
 have:=h2.1
 rw[List.length_map]at this
 exact this
theorem Ls {M:Mem}{l:List SB}{v:Value}{w:World}(h:w.ownsRow M.B 9 1 v l.length ((l.map st).map .string))(hf:∀g,v.ownBlock=some g->g∉M.fix):Den M (.sl l) v w:=⟨by rw[List.length_map];exact h,hf⟩
theorem DR {M:Mem}{l:List SB}{v:Value}{w:World}(h:Den M (.sl l) v w):w.ownsRow M.B 9 1 v l.length ((l.map st).map .string):=by
 have:=h.1
 rw[List.length_map]at this
 exact this
theorem Lf {Q:Exit->Act->World->Prop}{a:Act}{w W1 W:World}{id:Nat}{o1 o2 o3 o4:Oper}{tI:TypeId}{d1 d2 d3:Nat}{A2 A3 V:Value}(h1d:o1.dst=some d1)(g1:o1.guard=none)(e1:(execOp a.eval o1).run Tryz.prog w=.ok (.value A2) w)(h2:o2.op=.load tI (.tmp d1))(Q4:o2.dst=some d2)(g2:o2.guard=none)
 (h3:o3.op=.alloc tI) (RN:o3.dst=some d3) (g3:o3.guard=none) (h4:o4.op=.store tI (.tmp d3) (.tmp d2)) (h4d:o4.dst=none) (g4:o4.guard=none) (n23:d2≠d3) (l1:d1<a.tmps.size) (l2:d2<a.tmps.size) (l3:d3<a.tmps.size)
 (hl:(Instr.loadAt tI A2).run Tryz.prog w=.ok V w) (ha:(Instr.alloc tI true (.tuple #[])).run Tryz.prog w=.ok A3 W1) (hs:(Instr.storeAt tI A3 V).run Tryz.prog W1=.ok () W)
 (hend:∀b:Act,b.defers=a.defers->b.tmps.size=a.tmps.size->b.tmps[d3]? =some A3->(∀s:Nat,s≠d1->s≠d2->s≠d3->b.tmps[s]? =a.tmps[s]?)->Q .normal b W):(Code.region id #[o1,o2,o3,o4] false).wp Tryz.prog Q a w:=by
 refine wp_region_lit ?_
 refine eD (w':=w) (u:=A2) g1 h1d e1 ?_
 refine pM g2 Q4 h2 (eval_at (by simp[l1])) hl ?_
 refine eD (w':=W1) (u:=A3) g3 RN (by unfold execOp;rw[h3];simp only[Sem.run_bind,ha,Result.andThen_ok];rfl) ?_
 refine uz (w':=W) g4 h4d (by
  unfold execOp
  rw[h4]
  have e1:(⟨((a.tmps.setIfInBounds d1 A2).setIfInBounds d2 V).setIfInBounds d3 A3,a.defers⟩:Act).eval (.tmp d3)=A3:=eval_at (by simp[l3])
  have e2:(⟨((a.tmps.setIfInBounds d1 A2).setIfInBounds d2 V).setIfInBounds d3 A3,a.defers⟩:Act).eval (.tmp d2)=V:=eval_at (by simp[n23,Ne.symm n23,l2])
  simp only[e1,e2,Sem.run_bind,hs,Result.andThen_ok]
  rfl) ?_
 refine av ?_
 refine hend _ rfl (by simp) (by simp[l3]) λs n1 n2 n3=>?_
 simp[Ne.symm n1,Ne.symm n2,Ne.symm n3]
def lkC (x:Ps.Link):List Value:=[.int .i64 x.type,.string x.ref]
theorem al_lk (w:World):(Instr.alloc 129 true (.tuple #[])).run Tryz.prog w=.ok (.pointer (some ⟨w.heap.size,0,none⟩)) (w.alloc (.cells #[.int .i64 0,.string ⟨#[]⟩] 129)):=by
 go_simp
 try rfl
theorem sv_lk (w:World)(x:Ps.Link):(Instr.storeAt 129 (.pointer (some ⟨w.heap.size,0,none⟩)) (.agg (lkC x).toArray)).run Tryz.prog (w.alloc (.cells #[.int .i64 0,.string ⟨#[]⟩] 129))=.ok () (w.alloc (.cells (lkC x).toArray 129)):=by
 have h:=run_storeCells_new (P:=Tryz.prog) w 129 #[.int .i64 0,.string ⟨#[]⟩] (lkC x).toArray (by kernel_rfl) rfl (by rw[<-Array.all_toList];simp[lkC,Value.oneCell'])
 unfold lkC at h⊢
 go_simp
 try rfl
theorem Pq (w:World)(g o:Nat)(x:Ps.Link)(h1:w.cell? ⟨g,o,none⟩=some (.int .i64 x.type))(h2:w.cell? ⟨g,o+1,none⟩=some (.string x.ref)):(Instr.loadAt 129 (.pointer (some ⟨g,o,none⟩))).run Tryz.prog w=.ok (.agg (lkC x).toArray) w:=
 Ev.AL (n:=2) rfl g o w (λj=>(lkC x).getD j (.bool false)) λj hj=>by
  rcases j with _|_|j
  ·exact h1
  ·exact h2
  ·omega
def aQ (g:Nat)(i:Ps.Ins)(lv:Value):List (Option (Nat×Nat)×List Value):=[(some (g,0),aB i lv),(none,[])]
def ppWord (f:FuncId)(q:Int):Option Rv:=if f=125 then some (.str 20 (Ps.dM q))else if f=121 then some (.str 20 (Ps.bQ q))else if f=128 then some (.str 10 (Ps.bw (Ps.eU q)))else if f=195 then some (.str 5 (Ps.bw (if q=0 then Ps.eT else Ps.bZ)))else none
noncomputable def Q5 (rows:List (Option (Nat×Nat)×List Value))(f:FuncId)(us:List PV):Option Rv:=match us.map (nvR rows)with
 |[.v (.int .i64 q)]=>if f=122 then some (.str 10 (Ps.au q))else ppWord f q
 |_=>none
noncomputable def ppM (B:Nat)(W:World)(fix:List Nat)(rows:List (Option (Nat×Nat)×List Value)):Mem:=seW B W fix 40 rows (Q5 rows)
noncomputable def ppL (W:World)(rows:List (Option (Nat×Nat)×List Value))(n:Int):Mem:={ppM W.heap.size W [] rows with oth:=LM 32 0 15 n false}
noncomputable def ppB (B:Nat)(W:World)(fix:List Nat)(rows:List (Option (Nat×Nat)×List Value))(b:Bool):Mem:={ {ppM B W fix rows with big:=true}with hint:=λt=>if t=27 then some b else none,loops:=0}
theorem OJ {M M':Mem}{w:World}(h:Sw M w)(hB:M'.B=M.B)(hW:M'.W=M.W)(hf:M'.fix=M.fix):Sw M' w:=⟨hW▸h.os,hW▸h.tape,hW▸h.output,hW▸h.size,λg hg=>by
 rw[hW]
 refine h.block g ?_
 unfold prot at hg⊢
 rwa [hB,hf]at hg⟩
theorem mR {B:Nat}{W:World}{fix:List Nat}{rows:List (Option (Nat×Nat)×List Value)}(hB:B<=W.heap.size)(hf:∀g∈fix,g<W.heap.size)(hr:RowsIn W B 40 fix rows):Ok Tryz.prog (ppM B W fix rows):=
 EM hB hf (λk g o l h=>by
  obtain⟨rfl,h2,⟨t,h3⟩,_⟩:=gq hr k g o l h
  exact⟨h2,nC h3⟩) λk p l h=>(gq hr k p.1 p.2 l h).2.2.2
abbrev wb (w:Lx.Bs):SB:=(w.length,Ps.bw w)
def ls (b:Bool)(l:List SB):List SB:=cond b l []
def lkS (x:Ps.Link):List SB:=[(5,Ps.bw (if x.type=0 then Ps.eT else Ps.bZ)),(40,x.ref)]
def wX (i:Ps.Ins):List SB:=ls (!(decide (i.priority=0))) [(10,Ps.bw (Ps.eU i.priority))]++ls i.partial_ [wb Ps.aN,(20,Ps.dM i.minLot)]
def poS (i:Ps.Ins):List SB:=wX i++i.links.flatMap lkS++ls i.reserve [wb Ps.ah]++ls i.hold [wb Ps.bP]
theorem oC {a b:List Prop}:All a->All b->All (a++b):=by
 induction a with
 |nil=>exactλ_ h=>h
 |cons p a ih=>exactλh h2=>⟨h.1,ih h.2 h2⟩
theorem pg {b:Bool}{p:Prop}(h:b=true->p):All (cond b [p] []):=by
 cases b with
 |true=>exact⟨h rfl,trivial⟩
 |false=>trivial
noncomputable def poC:Code:=Ev.vG (Tryz.f123.body.getD .skip)
noncomputable def Cq:Code:=(Ev.az Ev.gV poC).1
structure PoF (W0:World)(i:Ps.Ins):Prop where
 pr:0<=i.priority/\i.priority<=2
 prW:CW W0 128 i.priority 10 (Ps.bw (Ps.eU i.priority))
 lot:i.partial_=true->CW W0 125 i.minLot 20 (Ps.dM i.minLot)
 lks:∀x∈i.links,(x.type=0\/x.type=1)/\x.ref.size<=40
 nlk:i.links.length<=8
 sz:qD (kz i)
theorem Pf (W:World)(i:Ps.Ins)(g:Nat)(hF:PoF W i)(sa:Option Addr)(sn sc:Nat)(hr:W.heap[g]? =some (.cells (aB i (.slice sa sn sc)).toArray 34 (0,0))){Q:Exit->Act->World->Prop}{a:Act}(hd:a.defers=[])(hn:a.tmps.size=50)(h1:a.tmps[1]? =some (.pointer (some ⟨g,0,none⟩)))(h2:a.tmps[2]? =some (.slice none 0 0))
 (hq:∀(b:Act) (w:World) (v:Value),b.tmps.size=50->b.defers=[]->b.tmps[1]? =some (.pointer (some ⟨g,0,none⟩))->b.tmps[3]? =some v->w.ownsRow W.heap.size 9 1 v (wX i).length (((wX i).map st).map .string)->b.tmps[24]? =some (.slice sa sn sc)->b.tmps[25]? =some (.int .i64 sn)->b.tmps[26]? =some (.int .i64 0)->Sw (ppM W.heap.size W [] (aQ g i (.slice sa sn sc))) w->Cq.wp Tryz.prog (Ev.Qof Tryz.prog (Ev.az Ev.gV poC).2 Q) b w):
 poC.wp Tryz.prog Q a W:=by
 have hgW:g<W.heap.size:=(Array.getElem?_eq_some_iff.1 hr).1
 have hs:=hF.sz
 have hO0:Ok Tryz.prog (ppM W.heap.size W [] (aQ g i (.slice sa sn sc))):=mR (Nat.le_refl _) (λg hg=>by cases hg) ⟨⟨rfl,.inl hgW,⟨_,hr⟩,mO (λx e=>by cases e) hs.iref hs.isender hs.icp hs.iasset⟩,trivial⟩
 have hO:Ok Tryz.prog (ppL W (aQ g i (.slice sa sn sc)) (sn:Int)):=hO0.withOth (Jp (.inr rfl) (cp:=sc) (sa:=sa) rfl)
 have hK:FrP (ppL W (aQ g i (.slice sa sn sc)) (sn:Int)) 50 [(1,.p 0 0),(2,.sl [])] a W:=aJ (aJ (cu hn hd) h2 (wC (.slice none 0 0) W _)) h1 rfl
 refine Qx (M:=ppL W (aQ g i (.slice sa sn sc)) (sn:Int)) (c:=Cq) (fs:=(Ev.az Ev.gV poC).2) hO [1,3,24,25,26]
  (us:=[.p 0 0,.sl (wX i),.r 0 15,.v (.int .i64 (sn:Int)),.v (.int .i64 0)])
  (ps:=cond (!(decide (i.priority=0))) [bC W.heap.size W (Ev.bE (aQ g i (.slice sa sn sc))) 128 [.r 0 10] (.str 10 (Ps.bw (Ps.eU i.priority)))] []++cond i.partial_ [bC W.heap.size W (Ev.bE (aQ g i (.slice sa sn sc))) 125 [.r 0 12] (.str 20 (Ps.dM i.minLot))] [])
  (by
  have hp:=hF.pr
  clear hO hO0 hK hq h1 h2 hd hn hr hgW hs hF
  obtain⟨ref,kind,sender,cp,side,asset,qty,am,td,sd,pr,pa,ml,ho,re,li⟩:=i
  have h3:pr=0\/pr=1\/pr=2:=by
   have h4:0<=pr/\pr<=2:=hp
   omega
  clear hp
  rcases h3 with rfl|rfl|rfl<;>cases pa<;>(show _=_;kernel_rfl)) ?_ hK (Sw.start _) ?_
 ·exact oC (pg λ_=>spW Ao rfl rfl hF.prW) (pg λh=>spW j3 rfl rfl (hF.lot h))
 ·intro b w hb hbd hv hS
  obtain⟨⟨v1,e1,d1⟩,hv⟩:=hv.cons
  obtain⟨⟨v3,e3,d3⟩,hv⟩:=hv.cons
  obtain⟨⟨v24,e24,d24⟩,hv⟩:=hv.cons
  obtain⟨⟨v25,e25,d25⟩,hv⟩:=hv.cons
  obtain⟨⟨v26,e26,d26⟩,-⟩:=hv.cons
  exact hq b w v3 hb hbd (e1.trans (congrArg some d1)) e3 (DR d3) (e24.trans (congrArg some d24)) (e25.trans (congrArg some d25)) (e26.trans (congrArg some d26)) (OJ hS rfl rfl rfl)
theorem ix_lk {ρ:Operand->Value}{o:Oper}{x y:Operand}{sb so n c j:Nat}{w:World}(ho:o.op=.indexAddr 32 x y)(h1:ρ x=.slice (some ⟨sb,so,none⟩) n c)(h2:ρ y=.int .i64 (j:Int))(hj:j<n):(execOp ρ o).run Tryz.prog w=.ok (.value (.pointer (some ⟨sb,so+j*2,none⟩))) w:=by
 have hkI:(j:Int)<(n:Int):=by omega
 unfold execOp
 simp only[ho,h1,h2]
 go_simp
theorem KX {M M2:Mem}{w1 w3:World}(h1:Sw M w1)(hf:M.fix=[])(hB:M2.B=M.B)(hx:Below M.B w1 M2.W)(h3:Sw M2 w3):Sw M w3:=
 ⟨h3.os.trans (hx.os.trans h1.os),h3.tape.trans (hx.tape.trans h1.tape),h3.output.trans (hx.output.trans h1.output),Nat.le_trans h1.size (Nat.le_trans hx.size h3.size),λg hg=>by
  have hg':g<M.B:=by
   rcases hg with h|h
   ·exact h
   ·rw[hf]at h;cases h
  exact(h3.block g (.inl (hB.symm▸hg'))).trans ((hx.block g hg').trans (h1.block g hg))⟩
def oA (b:Bool)(x l:List SB):List SB:=cond b (l++x) l
theorem LU (b:Bool)(x l:List SB):oA b x l=l++ls b x:=by cases b<;>simp[oA,ls]
def poJ (W:World)(g:Nat)(i:Ps.Ins)(sa:Option Addr)(sn sc j:Nat)(a:Act)(w:World):Prop:=a.tmps.size=50/\a.defers=[]/\a.tmps[1]? =some (.pointer (some ⟨g,0,none⟩))/\(∃v,a.tmps[3]? =some v/\w.ownsRow W.heap.size 9 1 v (wX i++(i.links.take j).flatMap lkS).length (((wX i++(i.links.take j).flatMap lkS).map st).map .string))/\a.tmps[24]? =some (.slice sa sn sc)/\a.tmps[25]? =some (.int .i64 sn)/\a.tmps[26]? =some (.int .i64 j)/\Sw (ppM W.heap.size W [] (aQ g i (.slice sa sn sc))) w
theorem Cg (i:Ps.Ins):(wX i).length<=3:=by
 unfold wX ls
 cases (!(decide (i.priority=0)))<;>cases i.partial_<;>simp
theorem GI (l:List Ps.Link):(l.flatMap lkS).length=2*l.length:=by
 induction l with
 |nil=>rfl
 |cons x l ih=>rw[List.flatMap_cons,List.length_append,ih,List.length_cons];show 2+_=_;omega
theorem Po (W:World)(i:Ps.Ins)(g:Nat)(hF:PoF W i)(sa:Option Addr)(sn sc:Nat)(hr:W.heap[g]? =some (.cells (aB i (.slice sa sn sc)).toArray 34 (0,0)))(hn:sn=i.links.length)(hlk:0<sn->∃sb so,sa=some ⟨sb,so,none⟩/\NQ W sb so i.links)
 {R:Ending->World->Prop} (hR:∀v w,w.ownsRow W.heap.size 9 1 v (poS i).length (((poS i).map st).map .string)->Below W.heap.size W w->R (.returned v) w) {a:Act} {w:World} (hJ:poJ W g i sa sn sc 0 a w):
 Cq.wp Tryz.prog (Ev.Qof Tryz.prog (Ev.az Ev.gV poC).2 (bodyPost Tryz.prog Tryz.f123 R)) a w:=by
 have hgW:g<W.heap.size:=(Array.getElem?_eq_some_iff.1 hr).1
 have hs:=hF.sz
 have hnl:=hF.nlk
 have hpl:=Cg i
 have Q8:∀(W2:World) (h:Nat) (x:Ps.Link),x.ref.size<=40->W2.heap[g]? =W.heap[g]?->W2.heap[h]? =some (.cells (lkC x).toArray 129 (0,0))->RowsIn W2 W.heap.size 40 [h] (aQ g i (.slice sa sn sc)++[(none,[]),(some (h,0),lkC x)]):=λW2 h x hx h1 h2=>
  ⟨⟨rfl,.inl hgW,⟨_,h1.trans hr⟩,mO (λx e=>by cases e) hs.iref hs.isender hs.icp hs.iasset⟩,⟨rfl,.inr (List.mem_singleton.2 rfl),⟨_,h2⟩,λy hy=>by
    unfold lkC at hy
    simp at hy
    subst hy
    exact hx⟩,trivial⟩
 have hR0:RowsIn W W.heap.size 40 [] (aQ g i (.slice sa sn sc)):=⟨⟨rfl,.inl hgW,⟨_,hr⟩,mO (λx e=>by cases e) hs.iref hs.isender hs.icp hs.iasset⟩,trivial⟩
 have hOb:∀b:Bool,Ok Tryz.prog (ppB W.heap.size W [] (aQ g i (.slice sa sn sc)) b):=λb=>(mR (Nat.le_refl _) (λg hg=>by cases hg) hR0).big.hint
 show(Code.loop (Ev.jM Cq)).wp _ _ _ _
 refine wp_loop (λa w'=>∃j:Nat,j<=sn/\poJ W g i sa sn sc j a w') (λa _=>sn-(intOf (a.tmps.getD 26 undef)).toNat) ⟨0,Nat.zero_le _,hJ⟩ ?_
 clear hJ a w
 rintro a w ⟨j,hj,h1,h2,h3,⟨v,h4,hown⟩,h24,h25,h26,hS⟩
 obtain⟨l,hl⟩:∃l,l=wX i++(i.links.take j).flatMap lkS:=⟨_,rfl⟩
 rw[<-hl]at hown
 have hll:l.length<=30:=by rw[hl,List.length_append,GI,List.length_take];omega
 have hK:∀b:Bool,FrP (ppB W.heap.size W [] (aQ g i (.slice sa sn sc)) b) 50 [(1,.p 0 0),(3,.sl l),(24,.v (.slice sa sn sc)),(25,.v (.int .i64 (sn:Int))),(26,.v (.int .i64 (j:Int)))] a w:=λb=>aJ (aJ (aJ (aJ (aJ (cu h1 h2) h26 rfl) h25 rfl) h24 rfl) h4 (Ls (M:=ppB W.heap.size W [] (aQ g i (.slice sa sn sc)) b) hown (λg _ h=>by cases h))) h3 rfl
 by_cases hlt:j<sn
 ·obtain⟨sb,so,rfl,hrow⟩:=hlk (by omega)
  obtain⟨x,hx⟩:∃x,i.links[j]? =some x:=⟨_,List.getElem?_eq_getElem (by omega)⟩
  obtain⟨hxt,hxr⟩:=hF.lks x (List.mem_of_getElem? hx)
  obtain⟨hsb,hxc⟩:=Mg hrow hx
  have hcw:∀w,jW 195 #[.int .i64 x.type] w (Ps.bw (if x.type=0 then Ps.eT else Ps.bZ)):=λw=>(NI (W0:=w) hxt).1 w (Below.refl _ _)
  have hcz:=(NI (W0:=W) hxt).2
  refine Qx (M:=ppB W.heap.size W [] (aQ g i (.slice (some ⟨sb,so,none⟩) sn sc)) true) (c:=(Ev.az (Ev.bK 8) (Ev.jM Cq)).1) (fs:=(Ev.az (Ev.bK 8) (Ev.jM Cq)).2) (hOb true) [1,3,24,25,26] (us:=[.p 0 0,.sl l,.v (.slice (some ⟨sb,so,none⟩) sn sc),.v (.int .i64 (sn:Int)),.v (.int .i64 (j:Int))]) (ps:=[decide ((j:Int)<(sn:Int))=true]) (by kernel_rfl) ⟨by simpa using hlt,trivial⟩ (hK true) (OJ hS rfl rfl rfl) ?_
  intro b w1 b1 b2 hv hS1
  obtain⟨⟨v1,e1,d1⟩,hv⟩:=hv.cons
  obtain⟨⟨v3,e3,d3⟩,hv⟩:=hv.cons
  obtain⟨⟨v24,e24,d24⟩,hv⟩:=hv.cons
  obtain⟨⟨v25,e25,d25⟩,hv⟩:=hv.cons
  obtain⟨⟨v26,e26,d26⟩,-⟩:=hv.cons
  have d1:v1=.pointer (some ⟨g,0,none⟩):=d1
  have d24:v24=.slice (some ⟨sb,so,none⟩) sn sc:=d24
  have d25:v25=.int .i64 (sn:Int):=d25
  have d26:v26=.int .i64 (j:Int):=d26
  subst d1 d24 d25 d26
  have hB1:W.heap.size<=w1.heap.size:=hS1.size
  have hw1:w1.heap[sb]? =W.heap[sb]?:=hS1.block sb (.inl hsb)
  have hg1:w1.heap[g]? =W.heap[g]?:=hS1.block g (.inl hgW)
  refine Lf (A2:=.pointer (some ⟨sb,so+j*2,none⟩)) (A3:=.pointer (some ⟨w1.heap.size,0,none⟩)) (V:=.agg (lkC x).toArray) (W1:=w1.alloc (.cells #[.int .i64 0,.string ⟨#[]⟩] 129)) (W:=w1.alloc (.cells (lkC x).toArray 129)) rfl rfl (ix_lk rfl (eval_at e24) (eval_at e26) hlt) rfl rfl rfl rfl rfl rfl rfl rfl rfl (by decide) (by rw[b1];decide) (by rw[b1];decide) (by rw[b1];decide) (Pq w1 sb (so+j*2) x (hxc w1 hw1 0 _ rfl) (hxc w1 hw1 1 _ rfl)) (al_lk w1) (sv_lk w1 x) ?_
  intro b' c1 c2 c3 c4
  obtain⟨h,hh⟩:∃h,h=w1.heap.size:=⟨_,rfl⟩
  have hbel:Below w1.heap.size w1 (w1.alloc (.cells (lkC x).toArray 129)):=(Below.refl _ _).alloc (Nat.le_refl _) _
  have hrow2:(w1.alloc (.cells (lkC x).toArray 129)).heap[h]? =some (.cells (lkC x).toArray 129 (0,0)):=by rw[hh];exact aD w1 _
  rw[<-hh]at c3
  have hlt2:h<(w1.alloc (.cells (lkC x).toArray 129)).heap.size:=(Array.getElem?_eq_some_iff.1 hrow2).1
  generalize w1.alloc (.cells (lkC x).toArray 129)=W2 at hbel hrow2 hlt2⊢
  have hg2:W2.heap[g]? =W.heap[g]?:=(hbel.block g (by omega)).trans hg1
  have hO2:Ok Tryz.prog (ppB W.heap.size W2 [h] (aQ g i (.slice (some ⟨sb,so,none⟩) sn sc)++[(none,[]),(some (h,0),lkC x)]) true):=(mR (by omega) (λg hg=>by rw[List.mem_singleton]at hg;omega) (Q8 W2 h x hxr hg2 hrow2)).big.hint
  have d3':=DR d3
  have hown2:W2.ownsRow W.heap.size 9 1 v3 l.length ((l.map st).map .string):=own_below d3' hbel
  have hne:∀q,v3.ownBlock=some q->q∉[h]:=λq hq hm=>by
   rw[List.mem_singleton]at hm
   subst hm
   have:=(World.ownsRow.lt (d3':w1.ownsRow W.heap.size 9 1 v3 l.length ((l.map st).map .string)) q hq).2
   omega
  have hK2:FrP (ppB W.heap.size W2 [h] (aQ g i (.slice (some ⟨sb,so,none⟩) sn sc)++[(none,[]),(some (h,0),lkC x)]) true) 50 [(1,.p 0 0),(3,.sl l),(5,.p 3 0),(24,.v (.slice (some ⟨sb,so,none⟩) sn sc)),(25,.v (.int .i64 (sn:Int))),(26,.v (.int .i64 (j:Int)))] b' W2:=
   aJ (aJ (aJ (aJ (aJ (aJ (cu (c2.trans b1) (c1.trans b2)) ((c4 26 (by decide) (by decide) (by decide)).trans e26) rfl) ((c4 25 (by decide) (by decide) (by decide)).trans e25) rfl) ((c4 24 (by decide) (by decide) (by decide)).trans e24) rfl) c3 rfl) ((c4 3 (by decide) (by decide) (by decide)).trans e3) (Ls (M:=ppB W.heap.size W2 [h] (aQ g i (.slice (some ⟨sb,so,none⟩) sn sc)++[(none,[]),(some (h,0),lkC x)]) true) hown2 hne)) ((c4 1 (by decide) (by decide) (by decide)).trans e1) rfl
  show(Ev.fmC (Ev.az (Ev.bK 8) (Ev.jM Cq)).2 0).wp _ _ _ _
  refine LH hO2 [1,3,24,25,26] (us:=[.p 0 0,.sl (l++lkS x),.v (.slice (some ⟨sb,so,none⟩) sn sc),.v (.int .i64 (sn:Int)),.v (.int .i64 (j:Int))])
   (ps:=[bC W.heap.size W2 (Ev.bE (aQ g i (.slice (some ⟨sb,so,none⟩) sn sc)++[(none,[]),(some (h,0),lkC x)])) 195 [.r 3 0] (.str 5 (Ps.bw (if x.type=0 then Ps.eT else Ps.bZ))),l.length+(lkS x).length<=1000000]) (by kernel_rfl)
   ⟨pV (x:=.int .i64 x.type) PP rfl (λw _=>hcw w) hcz,by show l.length+2<=1000000;omega,trivial⟩ hK2 (Sw.start _) ?_
  intro b3 w3 f1 f2 hv Fw
  obtain⟨⟨v1,e1,d1⟩,hv⟩:=hv.cons
  obtain⟨⟨v3,e3,d3⟩,hv⟩:=hv.cons
  obtain⟨⟨v24,e24,d24⟩,hv⟩:=hv.cons
  obtain⟨⟨v25,e25,d25⟩,hv⟩:=hv.cons
  obtain⟨⟨v26,e26,d26⟩,-⟩:=hv.cons
  show(Ev.fmC (Ev.az (Ev.bK 8) (Ev.jM Cq)).2 2).wp _ _ _ _
  have hK3:FrP (ppB W.heap.size W2 [h] (aQ g i (.slice (some ⟨sb,so,none⟩) sn sc)++[(none,[]),(some (h,0),lkC x)]) true) 50 [(1,.p 0 0),(3,.sl (l++lkS x)),(24,.v (.slice (some ⟨sb,so,none⟩) sn sc)),(25,.v (.int .i64 (sn:Int))),(26,.v (.int .i64 (j:Int)))] b3 w3:=
   aJ (aJ (aJ (aJ (aJ (cu f1 f2) e26 d26) e25 d25) e24 d24) e3 d3) e1 d1
  refine LH hO2 [1,3,24,25,26] (us:=[.p 0 0,.sl (l++lkS x),.v (.slice (some ⟨sb,so,none⟩) sn sc),.v (.int .i64 (sn:Int)),.v (.int .i64 (IntKind.i64.wrap ((j:Int)+1)))]) (ps:=[]) (by kernel_rfl) trivial hK3 Fw ?_
  clear hK3 e1 d1 e3 d3 e24 d24 e25 d25 e26 d26 f1 f2 Fw
  intro b3 w3 f1 f2 hv Fw
  obtain⟨⟨v1,e1,d1⟩,hv⟩:=hv.cons
  obtain⟨⟨v3,e3,d3⟩,hv⟩:=hv.cons
  obtain⟨⟨v24,e24,d24⟩,hv⟩:=hv.cons
  obtain⟨⟨v25,e25,d25⟩,hv⟩:=hv.cons
  obtain⟨⟨v26,e26,d26⟩,-⟩:=hv.cons
  have d26:v26=.int .i64 _:=d26
  rw[IntWalk.i64_in _ (by omega),show(j:Int)+1=((j+1:Nat):Int)from by omega]at d26
  subst d26
  have el:l++lkS x=wX i++(i.links.take (j+1)).flatMap lkS:=by
   rw[hl,List.take_add_one,hx]
   simp[List.append_assoc]
  have d3':=DR d3
  rw[el]at d3'
  have hSS:Sw (ppM W.heap.size W [] (aQ g i (.slice (some ⟨sb,so,none⟩) sn sc))) w3:=KX (M2:=ppB W.heap.size W2 [h] (aQ g i (.slice (some ⟨sb,so,none⟩) sn sc)++[(none,[]),(some (h,0),lkC x)]) true) (OJ hS1 rfl rfl rfl) rfl rfl (hbel.mono hB1) Fw
  refine⟨⟨j+1,by omega,f1,f2,e1.trans (congrArg some d1),⟨v3,e3,d3'⟩,e24.trans (congrArg some d24),e25.trans (congrArg some d25),e26,hSS⟩,?_⟩
  have q1:b3.tmps.getD 26 undef=.int .i64 ((j+1:Nat):Int):=eval_at e26
  have q2:a.tmps.getD 26 undef=.int .i64 (j:Int):=eval_at h26
  rw[q1,q2]
  show sn-(((j+1:Nat):Int)).toNat<sn-((j:Nat):Int).toNat
  omega
 ·obtain rfl:j=sn:=by omega
  refine ex_out (hOb false) [1,3] (k:=0) (us:=[.p 0 0,.sl l]) (ps:=[decide ((j:Int)<(j:Int))=false]) (by kernel_rfl) ⟨by simp,trivial⟩ (hK false) (OJ hS rfl rfl rfl) ?_
  intro b w1 b1 b2 hv hS1
  obtain⟨⟨v1,e1,d1⟩,hv⟩:=hv.cons
  obtain⟨⟨v3,e3,d3⟩,-⟩:=hv.cons
  show(Ev.fmC (Ev.az Ev.gV poC).2 1).wp Tryz.prog _ b w1
  refine gL (M:=ppB W.heap.size W [] (aQ g i (.slice sa j sc)) false) (n:=50) (K:=[(1,.p 0 0),(3,.sl l)]) (hOb false) [2] (us:=[.sl (oA i.hold [wb Ps.bP] (oA i.reserve [wb Ps.ah] l))]) (ps:=cond i.reserve [l.length+[wb Ps.ah].length<=1000000] []++cond i.hold [(oA i.reserve [wb Ps.ah] l).length+[wb Ps.bP].length<=1000000] [])
   (by
    clear hOb hR0 Q8 hK hr hlk hR hF hs
    clear hl
    obtain⟨ref,kind,sender,cp,side,asset,qty,am,td,sd,pr,pa,ml,ho,re,li⟩:=i
    cases re<;>cases ho<;>(show _=_;kernel_rfl)) (oC (pg λ_=>by show l.length+1<=_;omega) (pg λ_=>by
     rw[LU,List.length_append]
     have:(ls i.reserve [wb Ps.ah]).length<=1:=by cases i.reserve<;>simp[ls]
     show l.length+_+1<=_
     omega)) (aJ (aJ (cu b1 b2) e3 d3) e1 d1) hS1 ?_
  intro b4 w4 _ hd hv hS4
  refine zq rfl hd hv λv hv=>hR v w4 ?_ (dP rfl hS4)
  rw[LU,LU]at hv
  have e:l++ls i.reserve [wb Ps.ah]++ls i.hold [wb Ps.bP]=poS i:=by
   rw[hl,hn,List.take_length]
   rfl
  rw[e]at hv
  exact hv
structure PiF (W0:World)(i:Ps.Ins):Prop where
 env:iI W0
 ok:Ps.mF bG.valid i
 sz:qD (kz i)
theorem PiF.below {W0 W:World}{i:Ps.Ins}(h:PiF W0 i)(hb:Below W0.heap.size W0 W):PiF W i:=⟨h.env.below hb,h.ok,h.sz⟩
theorem PiF.po {W0:World}{i:Ps.Ins}(h:PiF W0 i):PoF W0 i where
 pr:=h.ok.prio
 prW:=Ga h.env h.ok.prio
 lot:=λhp=>mV h.env (by have h1:=h.ok.lot hp;have h2:=h.ok.qty (by have:=h.ok.part hp;omega);omega)
 lks:=λx hx=>⟨(h.ok.link x hx).1,by have:=(ek (by omega) (h.ok.link x hx).2).2;omega⟩
 nlk:=h.ok.links
 sz:=h.sz
theorem LQ:∀args w,(callFunc 123 args).run Tryz.prog w=.ok (.enter 123 args) w:=enters_of Tryz.func123 (by kernel_rfl) rfl
theorem LP:∀args w,(callFunc 126 args).run Tryz.prog w=.ok (.enter 126 args) w:=enters_of Tryz.func126 (by kernel_rfl) rfl
theorem Kb:∀args w,(callFunc 66 args).run Tryz.prog w=.ok (.enter 66 args) w:=enters_of Tryz.func66 (by kernel_rfl) rfl
theorem Na:∀args w,(callFunc 197 args).run Tryz.prog w=.ok (.enter 197 args) w:=enters_of Tryz.func197 (by kernel_rfl) rfl
theorem NT:∀args w,(callFunc 198 args).run Tryz.prog w=.ok (.enter 198 args) w:=enters_of Tryz.func198 (by kernel_rfl) rfl
theorem tu {B:Nat}{W:World}{cell:Nat->Nat->Value}{f:FuncId}{u:PV}{x:Value}{l:List SB}(he:∀args w,(callFunc f args).run Tryz.prog w=.ok (.enter f args) w)(hu:iY cell u=some x)(h:∀w,Below B W w->zn f #[x] w l):bC B W cell f [u] (.sls l):=⟨he,trivial,λvals w hw hd=>by
 obtain⟨v,rfl,hv⟩:=Qb hd
 obtain rfl:=lG hu hv
 exact h w hw⟩
theorem FH (w:World)(i:Ps.Ins)(hF:PiF w i)(sa:Option Addr)(sn sc:Nat)(hn:sn=i.links.length)(hlk:nX w sa sn i.links):zn 123 #[.agg (aB i (.slice sa sn sc)).toArray] w (poS i):=by
 unfold zn
 go_enter Tryz.func123,Tryz.ntmps123
 refine nu λa ha hdf=>?_
 refine wp_seq ?_
 have hb:Below w.heap.size w (w.alloc (.cells (aB i (.slice sa sn sc)).toArray 34)):=(Below.refl _ _).alloc (Nat.le_refl _) _
 refine yL rfl rfl rfl rfl rfl (by decide) (by rw[ha];show 1<50;decide) (by rw[ha];show 2<50;decide) (xE w i sa sn sc rfl (eval_at (by rw[ha];rfl))) λb b1 b2 b3 b4=>?_
 have hr:(w.alloc (.cells (aB i (.slice sa sn sc)).toArray 34)).heap[w.heap.size]? =some (.cells (aB i (.slice sa sn sc)).toArray 34 (0,0)):=aD w _
 generalize w.alloc (.cells (aB i (.slice sa sn sc)).toArray 34)=W at hb hr⊢
 have DI:=(hF.below hb).po
 refine Pf W i w.heap.size DI sa sn sc hr (b1.trans hdf) (b2.trans (by rw[ha];rfl)) b3 b4 λb2 w2 v c1 c2 c3 c4 c5 c6 c7 c8 c9=>?_
 refine Po W i w.heap.size DI sa sn sc hr hn (λh0=>by
  obtain⟨sb,so,e,h⟩:=hlk h0
  exact⟨sb,so,e,h W hb⟩) (λv w' h1 h2=>⟨v,rfl,dC h1 hb.size,hb.trans (h2.mono hb.size)⟩) ⟨c1,c2,c3,⟨v,c4,by simpa using c5⟩,c6,c7,c8,c9⟩
noncomputable def plM (W:World)(rows:List (Option (Nat×Nat)×List Value)):Mem:=ppM W.heap.size W [] rows
theorem AX {W:World}{i:Ps.Ins}{g:Nat}{sa:Option Addr}{sn sc:Nat}(hs:qD (kz i))(hr:W.heap[g]? =some (.cells (aB i (.slice sa sn sc)).toArray 34 (0,0))):RowsIn W W.heap.size 40 [] (aQ g i (.slice sa sn sc)):=
 ⟨⟨rfl,.inl (Array.getElem?_eq_some_iff.1 hr).1,⟨_,hr⟩,mO (λx e=>by cases e) hs.iref hs.isender hs.icp hs.iasset⟩,trivial⟩
theorem AC (w:World)(i:Ps.Ins)(hs:qD (kz i))(hsd:i.side=0\/i.side=1)(sa:Option Addr)(sn sc:Nat):jW 197 #[.agg (aB i (.slice sa sn sc)).toArray] w (Ps.fH i):=by
 unfold jW
 go_enter Tryz.func197,Tryz.ntmps197
 refine nu λa ha hdf=>?_
 refine wp_seq ?_
 have hb:Below w.heap.size w (w.alloc (.cells (aB i (.slice sa sn sc)).toArray 34)):=(Below.refl _ _).alloc (Nat.le_refl _) _
 refine yL rfl rfl rfl rfl rfl (by decide) (by rw[ha];show 1<10;decide) (by rw[ha];show 2<10;decide) (xE w i sa sn sc rfl (eval_at (by rw[ha];rfl))) λb b1 b2 b3 b4=>?_
 have hr:(w.alloc (.cells (aB i (.slice sa sn sc)).toArray 34)).heap[w.heap.size]? =some (.cells (aB i (.slice sa sn sc)).toArray 34 (0,0)):=aD w _
 generalize w.alloc (.cells (aB i (.slice sa sn sc)).toArray 34)=W at hb hr⊢
 refine gL (M:=plM W (aQ w.heap.size i (.slice sa sn sc))) (n:=10) (K:=[(1,.p 0 0)]) (mR (Nat.le_refl _) (λg hg=>by cases hg) (AX hs hr)) [2] (us:=[.s (40,Ps.fH i)]) (ps:=[]) (by
  clear hr hb ha hdf b1 b2 b3 b4 hs
  obtain⟨ref,kind,sender,cp,side,asset,qty,am,td,sd,pr,pa,ml,ho,re,li⟩:=i
  have hsd:side=0\/side=1:=hsd
  rcases hsd with rfl|rfl<;>(show _=_;kernel_rfl)) trivial (aJ (cu (b2.trans (by rw[ha];rfl)) (b1.trans hdf)) b3 rfl) (Sw.start _) ?_
 intro a w' _ hd hv hS
 refine qZ rfl hd hv ⟨?_,hb.trans ((dP rfl hS).mono hb.size)⟩
 rw[st40]
 unfold Ps.fH
 split
 ·exact hs.icp
 ·exact hs.isender
theorem Bc (w:World)(i:Ps.Ins)(hs:qD (kz i))(hsd:i.side=0\/i.side=1)(sa:Option Addr)(sn sc:Nat):jW 198 #[.agg (aB i (.slice sa sn sc)).toArray] w (Ps.toT i):=by
 unfold jW
 go_enter Tryz.func198,Tryz.ntmps198
 refine nu λa ha hdf=>?_
 refine wp_seq ?_
 have hb:Below w.heap.size w (w.alloc (.cells (aB i (.slice sa sn sc)).toArray 34)):=(Below.refl _ _).alloc (Nat.le_refl _) _
 refine yL rfl rfl rfl rfl rfl (by decide) (by rw[ha];show 1<10;decide) (by rw[ha];show 2<10;decide) (xE w i sa sn sc rfl (eval_at (by rw[ha];rfl))) λb b1 b2 b3 b4=>?_
 have hr:(w.alloc (.cells (aB i (.slice sa sn sc)).toArray 34)).heap[w.heap.size]? =some (.cells (aB i (.slice sa sn sc)).toArray 34 (0,0)):=aD w _
 generalize w.alloc (.cells (aB i (.slice sa sn sc)).toArray 34)=W at hb hr⊢
 refine gL (M:=plM W (aQ w.heap.size i (.slice sa sn sc))) (n:=10) (K:=[(1,.p 0 0)]) (mR (Nat.le_refl _) (λg hg=>by cases hg) (AX hs hr)) [2] (us:=[.s (40,Ps.toT i)]) (ps:=[]) (by
  clear hr hb ha hdf b1 b2 b3 b4 hs
  obtain⟨ref,kind,sender,cp,side,asset,qty,am,td,sd,pr,pa,ml,ho,re,li⟩:=i
  have hsd:side=0\/side=1:=hsd
  rcases hsd with rfl|rfl<;>(show _=_;kernel_rfl)) trivial (aJ (cu (b2.trans (by rw[ha];rfl)) (b1.trans hdf)) b3 rfl) (Sw.start _) ?_
 intro a w' _ hd hv hS
 refine qZ rfl hd hv ⟨?_,hb.trans ((dP rfl hS).mono hb.size)⟩
 rw[st40]
 unfold Ps.toT
 split
 ·exact hs.isender
 ·exact hs.icp
def vrS (i:Ps.Ins):List SB:=ls (decide (i.side=1)) [wb Ps.dh]++ls (decide (i.side=0)) [wb Ps.dz]
noncomputable def pdS (i:Ps.Ins):List SB:=vrS i++[(40,i.ref),wb Ps.qY,(40,Ps.fH i),wb Ps.sTo,(40,Ps.toT i),wb Ps.sZ,(40,i.asset),wb Ps.fI,(20,Ps.dM i.quantity)]++(ls (decide (i.kind=1)) [wb Ps.dN,(20,Ps.bQ i.amount)]++ls (decide (i.kind=2)) [wb Ps.jN])++[wb Ps.jR,(10,Ps.au i.tradeDay),wb Ps.dU,(10,Ps.au i.settleDay)]
noncomputable def pyS (i:Ps.Ins):List SB:=[wb Ps.CB,(40,i.ref),wb Ps.qY,(40,i.sender),wb Ps.sTo,(40,i.counterparty),wb Ps.bH,(20,Ps.bQ i.amount),wb Ps.dU,(10,Ps.au i.settleDay)]
noncomputable def pgS (i:Ps.Ins):List SB:=[(8,Ps.bw (if i.kind=3 then Ps.fB else Ps.dO)),(40,i.ref),wb Ps.sBy,(40,i.sender),wb Ps.sZ,(40,i.asset),wb Ps.fI,(20,Ps.dM i.quantity),wb Ps.dU,(10,Ps.au i.settleDay)]
noncomputable def psS (i:Ps.Ins):List SB:=if i.kind=3\/i.kind=4 then pgS i else if i.kind=0 then pyS i++poS i else pdS i++poS i
noncomputable def pdRes (i:Ps.Ins)(rows:List (Option (Nat×Nat)×List Value))(f:FuncId)(us:List PV):Option Rv:=match us with
 |[.a 0 0 16]=>if f=197 then some (.str 40 (Ps.fH i))else if f=198 then some (.str 40 (Ps.toT i))else if f=123 then some (.sls (poS i))else if f=126 then some (.sls (pdS i))else none
 |[.r 0 1]=>if f=124 then some (.str 8 (Ps.bw (if i.kind=3 then Ps.fB else Ps.dO)))else none
 |_=>Q5 rows f us
noncomputable def pdM (W:World)(i:Ps.Ins)(rows:List (Option (Nat×Nat)×List Value)):Mem:=seW W.heap.size W [] 40 rows (pdRes i rows)
noncomputable def pdB (W:World)(i:Ps.Ins)(rows:List (Option (Nat×Nat)×List Value)):Mem:={pdM W i rows with big:=true}
theorem Nq {W:World}{i:Ps.Ins}{rows:List (Option (Nat×Nat)×List Value)}(hr:RowsIn W W.heap.size 40 [] rows):Ok Tryz.prog (pdM W i rows):=
 EM (Nat.le_refl _) (λg hg=>by cases hg) (λk g o l h=>by
  obtain⟨rfl,h2,⟨t,h3⟩,_⟩:=gq hr k g o l h
  exact⟨h2,nC h3⟩) λk p l h=>(gq hr k p.1 p.2 l h).2.2.2
noncomputable def dlC:Code:=Ev.vG (Tryz.f126.body.getD .skip)
noncomputable def sbC:Code:=Ev.vG (Tryz.f66.body.getD .skip)
theorem BO (w:World)(i:Ps.Ins)(hk:i.kind=1\/i.kind=2)(hF:PiF w i)(sa:Option Addr)(sn sc:Nat):zn 126 #[.agg (aB i (.slice sa sn sc)).toArray] w (pdS i):=by
 unfold zn
 go_enter Tryz.func126,Tryz.ntmps126
 refine nu λa ha hdf=>?_
 refine wp_seq ?_
 have hb:Below w.heap.size w (w.alloc (.cells (aB i (.slice sa sn sc)).toArray 34)):=(Below.refl _ _).alloc (Nat.le_refl _) _
 refine yL rfl rfl rfl rfl rfl (by decide) (by rw[ha];show 1<42;decide) (by rw[ha];show 2<42;decide) (xE w i sa sn sc rfl (eval_at (by rw[ha];rfl))) λb b1 b2 b3 b4=>?_
 have hr:(w.alloc (.cells (aB i (.slice sa sn sc)).toArray 34)).heap[w.heap.size]? =some (.cells (aB i (.slice sa sn sc)).toArray 34 (0,0)):=aD w _
 generalize w.alloc (.cells (aB i (.slice sa sn sc)).toArray 34)=W at hb hr⊢
 have DI:=hF.below hb
 have hi:=hF.ok
 have hs:=hF.sz
 have P1:∀cell:Nat->Nat->Value,iY cell (.a 0 0 16)=some (.agg (aB i (.slice sa sn sc)).toArray)->bC W.heap.size W cell 197 [.a 0 0 16] (.str 40 (Ps.fH i)):=λcell he=>pV Na he (λw _=>AC w i hs hi.side sa sn sc) (by unfold Ps.fH;split<;>first|exact hs.icp|exact hs.isender)
 have P2:∀cell:Nat->Nat->Value,iY cell (.a 0 0 16)=some (.agg (aB i (.slice sa sn sc)).toArray)->bC W.heap.size W cell 198 [.a 0 0 16] (.str 40 (Ps.toT i)):=λcell he=>pV NT he (λw _=>Bc w i hs hi.side sa sn sc) (by unfold Ps.toT;split<;>first|exact hs.isender|exact hs.icp)
 have P3:=mV DI.env (q:=i.quantity) (by have:=hi.qty (by omega);omega)
 have P4:i.kind=1->CW W 121 i.amount 20 (Ps.bQ i.amount):=λh=>yw DI.env (by have:=hi.am (by omega);omega)
 have P5:=zK (W0:=W) (q:=i.tradeDay) (by have:=hi.trade hk;have:=hi.settle;omega)
 have P6:=zK (W0:=W) (q:=i.settleDay) hi.settle
 refine gL (M:=pdM W i (aQ w.heap.size i (.slice sa sn sc))) (n:=42) (code:=dlC) (K:=[(1,.p 0 0),(2,.sl [])]) (Nq (AX hs hr)) [2] (us:=[.sl (pdS i)])
  (ps:=[bC W.heap.size W (Ev.bE (aQ w.heap.size i (.slice sa sn sc))) 197 [.a 0 0 16] (.str 40 (Ps.fH i)),bC W.heap.size W (Ev.bE (aQ w.heap.size i (.slice sa sn sc))) 198 [.a 0 0 16] (.str 40 (Ps.toT i)),bC W.heap.size W (Ev.bE (aQ w.heap.size i (.slice sa sn sc))) 125 [.r 0 6] (.str 20 (Ps.dM i.quantity))]++(cond (decide (i.kind=1)) [bC W.heap.size W (Ev.bE (aQ w.heap.size i (.slice sa sn sc))) 121 [.r 0 7] (.str 20 (Ps.bQ i.amount))] []++[bC W.heap.size W (Ev.bE (aQ w.heap.size i (.slice sa sn sc))) 122 [.r 0 8] (.str 10 (Ps.au i.tradeDay)),bC W.heap.size W (Ev.bE (aQ w.heap.size i (.slice sa sn sc))) 122 [.r 0 9] (.str 10 (Ps.au i.settleDay))]))
  (by
   have hsd:=hi.side
   clear hr hb ha hdf b1 b2 b3 b4 hs hi DI hF P1 P2 P3 P4 P5 P6
   obtain⟨ref,kind,sender,cp,side,asset,qty,am,td,sd,pr,pa,ml,ho,re,li⟩:=i
   have hsd:side=0\/side=1:=hsd
   have hk:kind=1\/kind=2:=hk
   rcases hsd with rfl|rfl<;>rcases hk with rfl|rfl<;>(show _=_;kernel_rfl))
  (oC ⟨P1 _ rfl,P2 _ rfl,spW j3 rfl rfl P3,trivial⟩ (oC (pg λh=>spW qh rfl rfl (P4 (by simpa using h))) ⟨spW l8 rfl rfl P5,spW l8 rfl rfl P6,trivial⟩))
  (aJ (aJ (cu (b2.trans (by rw[ha];rfl)) (b1.trans hdf)) b4 (wC (.slice none 0 0) W _)) b3 rfl) (Sw.start _) ?_
 intro a w' _ hd hv hS
 exact zq rfl hd hv λv hv=>⟨v,rfl,dC hv hb.size,hb.trans ((dP rfl hS).mono hb.size)⟩
theorem Gf {i:Ps.Ins}(h:i.links.length<=8):(poS i).length<=30:=by
 unfold poS
 have:=Cg i
 rw[List.length_append,List.length_append,List.length_append,GI]
 have h1:(ls i.reserve [wb Ps.ah]).length<=1:=by cases i.reserve<;>simp[ls]
 have h2:(ls i.hold [wb Ps.bP]).length<=1:=by cases i.hold<;>simp[ls]
 omega
theorem GZ (i:Ps.Ins):(pdS i).length<=30:=by
 unfold pdS vrS
 cases decide (i.side=1)<;>cases decide (i.side=0)<;>cases decide (i.kind=1)<;>cases decide (i.kind=2)<;>simp[ls]
theorem Jm (w:World)(i:Ps.Ins)(hF:PiF w i)(sa:Option Addr)(sn sc:Nat)(hn:sn=i.links.length)(hlk:nX w sa sn i.links):zn 66 #[.agg (aB i (.slice sa sn sc)).toArray] w (psS i):=by
 unfold zn
 go_enter Tryz.func66,Tryz.ntmps66
 refine nu λa ha hdf=>?_
 refine wp_seq ?_
 have hb:Below w.heap.size w (w.alloc (.cells (aB i (.slice sa sn sc)).toArray 34)):=(Below.refl _ _).alloc (Nat.le_refl _) _
 refine yL rfl rfl rfl rfl rfl (by decide) (by rw[ha];show 1<47;decide) (by rw[ha];show 2<47;decide) (xE w i sa sn sc rfl (eval_at (by rw[ha];rfl))) λb b1 b2 b3 b4=>?_
 have hr:(w.alloc (.cells (aB i (.slice sa sn sc)).toArray 34)).heap[w.heap.size]? =some (.cells (aB i (.slice sa sn sc)).toArray 34 (0,0)):=aD w _
 generalize w.alloc (.cells (aB i (.slice sa sn sc)).toArray 34)=W at hb hr⊢
 have DI:=hF.below hb
 have OL:=hlk.below hb
 have hi:=hF.ok
 have hs:=hF.sz
 have hO:Ok Tryz.prog (pdB W i (aQ w.heap.size i (.slice sa sn sc))):=(Nq (AX hs hr)).big
 have hFr:FrP (pdB W i (aQ w.heap.size i (.slice sa sn sc))) 47 [(1,.p 0 0),(2,.sl [])] b W:=aJ (aJ (cu (b2.trans (by rw[ha];rfl)) (b1.trans hdf)) b4 (wC (.slice none 0 0) W _)) b3 rfl
 have P0:∀cell:Nat->Nat->Value,iY cell (.a 0 0 16)=some (.agg (aB i (.slice sa sn sc)).toArray)->bC W.heap.size W cell 123 [.a 0 0 16] (.sls (poS i)):=λcell he=>tu LQ he λw' hw'=>FH w' i (DI.below hw') sa sn sc hn (OL.below hw')
 have P6:=zK (W0:=W) (q:=i.settleDay) hi.settle
 have hol:=Gf hi.links
 have hdl:=GZ i
 have fin:∀(us:List SB) (a:Act) (w':World),us=psS i->a.defers=[]->nG (pdB W i (aQ w.heap.size i (.slice sa sn sc))) [2] [.sl us] a w'->Sw (pdB W i (aQ w.heap.size i (.slice sa sn sc))) w'->bodyPost Tryz.prog Tryz.f66 (λe w'=>∃y,e=.returned y/\w'.ownsRow w.heap.size 9 1 y (psS i).length (((psS i).map st).map .string)/\Below w.heap.size w w') .ret a w':=λus a w' J8 hd hv hS=>by
  subst J8
  exact zq rfl hd hv λv hv=>⟨v,rfl,dC hv hb.size,hb.trans ((dP (M:=pdB W i (aQ w.heap.size i (.slice sa sn sc))) rfl hS).mono hb.size)⟩
 by_cases hk0:i.kind=0
 ·have P4:=yw DI.env (q:=i.amount) (by have:=hi.am (by omega);omega)
  refine gL (M:=pdB W i (aQ w.heap.size i (.slice sa sn sc))) (n:=47) (code:=sbC) (K:=[(1,.p 0 0),(2,.sl [])]) hO [2] (us:=[.sl (pyS i++poS i)])
   (ps:=[bC W.heap.size W (Ev.bE (aQ w.heap.size i (.slice sa sn sc))) 121 [.r 0 7] (.str 20 (Ps.bQ i.amount)),bC W.heap.size W (Ev.bE (aQ w.heap.size i (.slice sa sn sc))) 122 [.r 0 9] (.str 10 (Ps.au i.settleDay)),bC W.heap.size W (Ev.bE (aQ w.heap.size i (.slice sa sn sc))) 123 [.a 0 0 16] (.sls (poS i)),(pyS i).length+(poS i).length<=1000000])
   (by
    clear fin hr hb ha hdf b1 b2 b3 b4 hs hi DI hF OL hlk hO hFr P0 P4 P6 hol hdl hn
    obtain⟨ref,kind,sender,cp,side,asset,qty,am,td,sd,pr,pa,ml,ho,re,li⟩:=i
    have hk0:kind=0:=hk0
    subst hk0
    show _=_
    kernel_rfl) ⟨spW qh rfl rfl P4,spW l8 rfl rfl P6,P0 _ rfl,by show 10+_<=_;omega,trivial⟩ hFr (Sw.start _) ?_
  exactλa w' _ hd hv hS=>fin _ a w' (by unfold psS;rw[if_neg (by omega),if_pos hk0]) hd hv hS
 by_cases hk3:i.kind=3\/i.kind=4
 ·have P3:=mV DI.env (q:=i.quantity) (by have:=hi.qty (by omega);omega)
  have P7:∀cell:Nat->Nat->Value,cell 0 1=.int .i64 i.kind->bC W.heap.size W cell 124 [.r 0 1] (.str 8 (Ps.bw (if i.kind=3 then Ps.fB else Ps.dO))):=λcell he=>pV (x:=.int .i64 i.kind) PT (by show some (cell 0 1)=_;rw[he]) (λw' hw'=>by
   rcases hk3 with h|h
   ·rw[h]
    exact(rz w' (DI.env.kd w' hw') 3 _ rfl).mono λe w2 ⟨h1,h2⟩=>⟨h1,h2▸Below.refl _ _⟩
   ·rw[h]
    exact(rz w' (DI.env.kd w' hw') 4 _ rfl).mono λe w2 ⟨h1,h2⟩=>⟨h1,h2▸Below.refl _ _⟩) (by split<;>decide)
  refine gL (M:=pdB W i (aQ w.heap.size i (.slice sa sn sc))) (n:=47) (code:=sbC) (K:=[(1,.p 0 0),(2,.sl [])]) hO [2] (us:=[.sl (pgS i)])
   (ps:=[bC W.heap.size W (Ev.bE (aQ w.heap.size i (.slice sa sn sc))) 124 [.r 0 1] (.str 8 (Ps.bw (if i.kind=3 then Ps.fB else Ps.dO))),bC W.heap.size W (Ev.bE (aQ w.heap.size i (.slice sa sn sc))) 125 [.r 0 6] (.str 20 (Ps.dM i.quantity)),bC W.heap.size W (Ev.bE (aQ w.heap.size i (.slice sa sn sc))) 122 [.r 0 9] (.str 10 (Ps.au i.settleDay))])
   (by
    clear fin hr hb ha hdf b1 b2 b3 b4 hs hi DI hF OL hlk hO hFr P0 P3 P6 P7 hol hdl hn hk0
    obtain⟨ref,kind,sender,cp,side,asset,qty,am,td,sd,pr,pa,ml,ho,re,li⟩:=i
    have hk3:kind=3\/kind=4:=hk3
    rcases hk3 with rfl|rfl<;>(show _=_;kernel_rfl)) ⟨P7 _ rfl,spW j3 rfl rfl P3,spW l8 rfl rfl P6,trivial⟩ hFr (Sw.start _) ?_
  exactλa w' _ hd hv hS=>fin _ a w' (by unfold psS;rw[if_pos hk3]) hd hv hS
 ·have Cm:i.kind=1\/i.kind=2:=by have:=hi.kind;omega
  have P8:∀cell:Nat->Nat->Value,iY cell (.a 0 0 16)=some (.agg (aB i (.slice sa sn sc)).toArray)->bC W.heap.size W cell 126 [.a 0 0 16] (.sls (pdS i)):=λcell he=>tu LP he λw' hw'=>BO w' i Cm (DI.below hw') sa sn sc
  refine gL (M:=pdB W i (aQ w.heap.size i (.slice sa sn sc))) (n:=47) (code:=sbC) (K:=[(1,.p 0 0),(2,.sl [])]) hO [2] (us:=[.sl (pdS i++poS i)])
   (ps:=[bC W.heap.size W (Ev.bE (aQ w.heap.size i (.slice sa sn sc))) 126 [.a 0 0 16] (.sls (pdS i)),bC W.heap.size W (Ev.bE (aQ w.heap.size i (.slice sa sn sc))) 123 [.a 0 0 16] (.sls (poS i)),(pdS i).length+(poS i).length<=1000000])
   (by
    clear fin hr hb ha hdf b1 b2 b3 b4 hs hi DI hF OL hlk hO hFr P0 P6 P8 hol hdl hn hk0 hk3
    obtain⟨ref,kind,sender,cp,side,asset,qty,am,td,sd,pr,pa,ml,ho,re,li⟩:=i
    have Cm:kind=1\/kind=2:=Cm
    rcases Cm with rfl|rfl<;>(show _=_;kernel_rfl)) ⟨P8 _ rfl,P0 _ rfl,by omega,trivial⟩ hFr (Sw.start _) ?_
  exactλa w' _ hd hv hS=>fin _ a w' (by unfold psS;rw[if_neg hk3,if_neg hk0]) hd hv hS
noncomputable def chS (m:Ps.Amd):List SB:=ls m.hasAmount [wb Ps.bH,(20,Ps.bQ m.amount)]++ls m.hasSettleDay [wb Ps.dU,(10,Ps.au m.settleDay)]++ls m.hasPriority [(10,Ps.bw (Ps.eU m.priority))]++ls (m.hasPartial&&m.partial_) [wb Ps.aN,(20,Ps.dM m.minLot)]++ls (m.hasPartial&&!m.partial_) [wb Ps.di]
def qf (g:Nat)(m:Ps.Amd):List (Option (Nat×Nat)×List Value):=[(some (g,0),aH m),(none,[])]
noncomputable def chC:Code:=Ev.vG (Tryz.f68.body.getD .skip)
theorem K7:∀args w,(callFunc 68 args).run Tryz.prog w=.ok (.enter 68 args) w:=enters_of Tryz.func68 (by kernel_rfl) rfl
theorem Dm (w:World)(m:Ps.Amd)(hE:iI w)(hm:Ps.nW m):zn 68 #[.agg (aH m).toArray] w (chS m):=by
 unfold zn
 go_enter Tryz.func68,Tryz.ntmps68
 refine nu λa ha hdf=>?_
 refine wp_seq ?_
 have hb:Below w.heap.size w (w.alloc (.cells (aH m).toArray 35)):=(Below.refl _ _).alloc (Nat.le_refl _) _
 refine yL rfl rfl rfl rfl rfl (by decide) (by rw[ha];show 1<48;decide) (by rw[ha];show 2<48;decide) (bx_amd w m rfl (eval_at (by rw[ha];rfl))) λb b1 b2 b3 b4=>?_
 have hr:(w.alloc (.cells (aH m).toArray 35)).heap[w.heap.size]? =some (.cells (aH m).toArray 35 (0,0)):=aD w _
 generalize w.alloc (.cells (aH m).toArray 35)=W at hb hr⊢
 have hEW:=hE.below hb
 have hR:RowsIn W W.heap.size 40 [] (qf w.heap.size m):=⟨⟨rfl,.inl (Array.getElem?_eq_some_iff.1 hr).1,⟨_,hr⟩,GN⟩,trivial⟩
 have P1:m.hasAmount=true->CW W 121 m.amount 20 (Ps.bQ m.amount):=λh=>yw hEW (by have:=hm.am h;omega)
 have P2:CW W 122 m.settleDay 10 (Ps.au m.settleDay):=zK hm.day
 have P3:CW W 128 m.priority 10 (Ps.bw (Ps.eU m.priority)):=Ga hEW hm.prio
 have P4:(m.hasPartial&&m.partial_)=true->CW W 125 m.minLot 20 (Ps.dM m.minLot):=λh=>mV hEW (by have:=hm.lot (Bool.and_eq_true_iff.1 h).2;omega)
 refine gL (M:=ppM W.heap.size W [] (qf w.heap.size m)) (n:=48) (code:=chC) (K:=[(1,.p 0 0),(2,.sl [])]) (mR (Nat.le_refl _) (λg hg=>by cases hg) hR) [2] (us:=[.sl (chS m)])
  (ps:=cond m.hasAmount [bC W.heap.size W (Ev.bE (qf w.heap.size m)) 121 [.r 0 4] (.str 20 (Ps.bQ m.amount))] []++(cond m.hasSettleDay [bC W.heap.size W (Ev.bE (qf w.heap.size m)) 122 [.r 0 5] (.str 10 (Ps.au m.settleDay))] []++(cond m.hasPriority [bC W.heap.size W (Ev.bE (qf w.heap.size m)) 128 [.r 0 6] (.str 10 (Ps.bw (Ps.eU m.priority)))] []++cond (m.hasPartial&&m.partial_) [bC W.heap.size W (Ev.bE (qf w.heap.size m)) 125 [.r 0 8] (.str 20 (Ps.dM m.minLot))] [])))
  (by
   clear hr hb ha hdf b1 b2 b3 b4 hR hE hEW hm P1 P2 P3 P4
   obtain⟨x1,x2,x3,x4,x5,x6,x7,x8,x9⟩:=m
   cases x1<;>cases x2<;>cases x3<;>cases x4<;>cases x8<;>(show _=_;kernel_rfl))
  (oC (pg λh=>spW qh rfl rfl (P1 h)) (oC (pg λ_=>spW l8 rfl rfl P2) (oC (pg λ_=>spW Ao rfl rfl P3) (pg λh=>spW j3 rfl rfl (P4 h)))))
  (aJ (aJ (cu (b2.trans (by rw[ha];rfl)) (b1.trans hdf)) b4 (wC (.slice none 0 0) W _)) b3 rfl) (Sw.start _) ?_
 intro a w' _ hd hv hS
 exact zq rfl hd hv λv hv=>⟨v,rfl,dC hv hb.size,hb.trans ((dP rfl hS).mono hb.size)⟩
theorem MF:∀ts:List ByteArray,Lib.join (ts.map (·.data.toList)) [32]=(Ps.dA ts).data.toList
 |[]=>rfl
 |t::ts=>by
  rw[Mi]
  show([32]:List UInt8).intercalate (t.data.toList::ts.map (·.data.toList))=(t++qK ts).data.toList
  have key:∀(us:List ByteArray) (x:List UInt8),([32]:List UInt8).intercalate (x::us.map (·.data.toList))=x++(qK us).data.toList:=by
   intro us
   induction us with
   |nil=>intro x;simp[List.intercalate,qK]
   |cons u us ih=>
    intro x
    have h:=ih u.data.toList
    rw[List.map_cons]
    have e:([32]:List UInt8).intercalate (x::u.data.toList::us.map (·.data.toList))=x++([32]++([32]:List UInt8).intercalate (u.data.toList::us.map (·.data.toList))):=by simp[List.intercalate,List.intersperse]
    rw[e,h]
    show _=x++(⟨#[32]⟩++u++qK us).data.toList
    simp[ByteArray.data_append]
  rw[key]
  simp[ByteArray.data_append]
theorem QR {w:World}{B n':Nat}{t:TypeId}{a:Option Addr}{n c:Nat}{xs:List Value}(h:w.ownsRow B t 1 (.slice a n c) n' xs):n=n'/\n'<=c:=by
 obtain⟨_,⟨hs,h0⟩|⟨g,cap,cur,hv,hB,hh,hnc,_⟩⟩:=h
 ·cases hs
  exact⟨h0.symm,by omega⟩
 ·cases hv
  exact⟨rfl,hnc⟩
theorem K6:∀args w,(callFunc 69 args).run Tryz.prog w=.ok (.enter 69 args) w:=enters_of Tryz.func69 (by kernel_rfl) rfl
theorem AP {B:Nat}{W:World}{cell:Nat->Nat->Value}{l:List SB}(h0:0<l.length)(hl:l.length<=1000)(hz:(Ps.dA (l.map st)).size<=2000):bC B W cell 69 [.sl l,.s (1,⟨#[32]⟩)] (.str 2000 (Ps.dA (l.map st))):=⟨K6,hz,λvals w _ hd=>by
 obtain⟨v,v2,rfl,⟨B',hv⟩,hv2⟩:=d0_2 hd
 have hv2:v2=.string (st (1,⟨#[32]⟩)):=hv2
 rw[show st (1,(⟨#[32]⟩:ByteArray))=⟨#[32]⟩from eX (Nat.le_refl 1)]at hv2
 subst hv2
 obtain⟨bk,c,rfl,hbk,hcell⟩:=gK hv h0
 have hcap:=QR hv
 have hcells:∀(j:Nat) x,(l.map st)[j]? =some x->w.cell? ⟨bk,0+j,none⟩=some (.string x):=λj x hj=>by
  rw[Nat.zero_add]
  refine hcell j _ ?_
  rw[List.getElem?_map,hj]
  rfl
 have e:=MF (l.map st)
 have hj:=Tryz.strings_Join bk 0 c (l.map st) ⟨#[32]⟩ w hcells hbk (by rw[List.length_map];omega) (by rw[List.length_map];exact hcap.2) (by
  rw[show(⟨#[32]⟩:ByteArray).data.toList=[32]from rfl,e]
  have:(Ps.dA (l.map st)).data.toList.length=(Ps.dA (l.map st)).size:=Array.length_toList
  omega)
 rw[show(⟨#[32]⟩:ByteArray).data.toList=[32]from rfl,e,List.length_map]at hj
 refine hj.mono λe w' ⟨h1,h2⟩=>⟨_,h1,?_,h2⟩
 show Value.string _=Value.string _
 congr 1⟩
theorem jY (w:Lx.Bs):st (wb w)=Ps.bw w:=eX (by show w.toArray.size<=w.length;simp)
theorem dW {n:Nat}{x:ByteArray}(h:x.size<=n):st (n,x)=x:=eX h
theorem MQ (l:List Ps.Link)(h:∀x∈l,(x.type=0\/x.type=1)/\x.ref.size<=40):(l.flatMap lkS).map st=l.flatMap Ps.O3:=by
 induction l with
 |nil=>rfl
 |cons x l ih=>
  rw[List.flatMap_cons,List.flatMap_cons,List.map_append,ih (λy hy=>h y (List.mem_cons_of_mem _ hy))]
  congr 1
  obtain⟨hx,hr⟩:=h x List.mem_cons_self
  show[st (5,_),st (40,x.ref)]=[_,x.ref]
  rw[dW hr,dW (by rcases hx with h|h<;>(rw[h];decide))]
theorem BC {i:Ps.Ins}(hi:Ps.mF bG.valid i):(poS i).map st=(Ps.ky i).flatMap Ps.opT:=by
 have hl:=MQ i.links λx hx=>⟨(hi.link x hx).1,by have:=(ek (by omega) (hi.link x hx).2).2;omega⟩
 have hp:st (10,Ps.bw (Ps.eU i.priority))=Ps.bw (Ps.eU i.priority):=dW (by
  have h3:i.priority=0\/i.priority=1\/i.priority=2:=by have:=hi.prio;omega
  rcases h3 with h|h|h<;>(rw[h];decide))
 have hm:i.partial_=true->st (20,Ps.dM i.minLot)=Ps.dM i.minLot:=λh=>dW (by
  have h1:=hi.lot h
  have h2:=hi.qty (by have:=hi.part h;omega)
  have h3:=h2.2
  unfold Ps.bL at h3
  obtain⟨n,e⟩:∃n:Nat,i.minLot=n:=⟨i.minLot.toNat,by omega⟩
  rw[e]
  exact Da n (by omega))
 have hl2:(i.links.map Ps.Op.lnk).flatMap Ps.opT=i.links.flatMap Ps.O3:=by
  rw[List.flatMap_map]
  rfl
 unfold poS wX Ps.ky Ps.oPr Ps.oPa Ps.oRe Ps.oHo
 simp only[List.map_append,List.flatMap_append,hl,hl2,List.append_assoc]
 have e1:(ls (!(decide (i.priority=0))) [(10,Ps.bw (Ps.eU i.priority))]).map st=(if i.priority=0 then[]else[Ps.Op.prio i.priority]).flatMap Ps.opT:=by
  by_cases h:i.priority=0
  ·rw[if_pos h];simp[ls,h]
  ·rw[if_neg h]
   simp only[ls,h,decide_false,Bool.not_false,cond_true,List.map_cons,List.map_nil,hp]
   rfl
 have e2:(ls i.partial_ [wb Ps.aN,(20,Ps.dM i.minLot)]).map st=(if i.partial_=true then[Ps.Op.part i.minLot]else[]).flatMap Ps.opT:=by
  cases h:i.partial_ with
  |false=>rfl
  |true=>
   show[st (wb Ps.aN),st (20,Ps.dM i.minLot)]=_
   rw[jY,hm h]
   rfl
 have e3:(ls i.reserve [wb Ps.ah]).map st=(if i.reserve=true then[Ps.Op.res]else[]).flatMap Ps.opT:=by
  cases i.reserve with
  |false=>rfl
  |true=>show[st (wb Ps.ah)]=_;rw[jY];rfl
 have e4:(ls i.hold [wb Ps.bP]).map st=(if i.hold=true then[Ps.Op.hold]else[]).flatMap Ps.opT:=by
  cases i.hold with
  |false=>rfl
  |true=>show[st (wb Ps.bP)]=_;rw[jY];rfl
 rw[e1,e2,e3,e4]
theorem FY {q:Int}(h:0<=q/\q<=Ps.bL):st (20,Ps.dM q)=Ps.dM q:=dW (by
 have h3:=h.2
 unfold Ps.bL at h3
 obtain⟨n,rfl⟩:∃n:Nat,q=n:=⟨q.toNat,by omega⟩
 exact Da n (by omega))
theorem zh {q:Int}(h:0<=q/\q<=Ps.bL):st (20,Ps.bQ q)=Ps.bQ q:=dW (by have:=Ps.iX h.2;omega)
theorem DV {q:Int}(h:0<=q/\q<=Ps.bF):st (10,Ps.au q)=Ps.au q:=dW (qy q h.1 h.2)
theorem M0 {i:Ps.Ins}(hi:Ps.mF bG.valid i)(hs:qD (kz i)):(psS i).map st=Ps.tq Ps.au i (Ps.ky i):=by
 have hr:st (40,i.ref)=i.ref:=dW hs.iref
 have h1:st (40,i.sender)=i.sender:=dW hs.isender
 have h2:st (40,i.counterparty)=i.counterparty:=dW hs.icp
 have h3:st (40,i.asset)=i.asset:=dW hs.iasset
 have hd:=DV hi.settle
 unfold psS Ps.tq
 by_cases hk:i.kind=3\/i.kind=4
 ·rw[if_pos hk,if_pos hk]
  unfold pgS
  simp only[List.map_cons,List.map_nil,jY,hr,h1,h3,hd,FY (q:=i.quantity) (by have:=hi.qty (by omega);omega)]
  rw[dW (by split<;>decide)]
 ·rw[if_neg hk,if_neg hk]
  by_cases h0:i.kind=0
  ·rw[if_pos h0,if_pos h0,List.map_append,BC hi]
   unfold pyS
   simp only[List.map_cons,List.map_nil,jY,hr,h1,h2,hd,zh (q:=i.amount) (by have:=hi.am (by omega);omega)]
  ·rw[if_neg h0,if_neg h0,List.map_append,BC hi]
   have hf:st (40,Ps.fH i)=Ps.fH i:=dW (by unfold Ps.fH;split<;>first|exact hs.icp|exact hs.isender)
   have ht:st (40,Ps.toT i)=Ps.toT i:=dW (by unfold Ps.toT;split<;>first|exact hs.icp|exact hs.isender)
   have hq:=FY (q:=i.quantity) (by have:=hi.qty (by omega);omega)
   have htd:=DV (q:=i.tradeDay) (by have:=hi.trade (by have:=hi.kind;omega);have:=hi.settle;omega)
   have hv:(vrS i).map st=[Ps.bw (if i.side=1 then Ps.dh else Ps.dz)]:=by
    unfold vrS
    rcases hi.side with h|h<;>(rw[h];simp[ls,jY])
   unfold pdS
   rw[List.map_append,List.map_append,List.map_append,hv]
   by_cases hk1:i.kind=1
   ·rw[if_pos hk1]
    have hc:=zh (q:=i.amount) (by have:=hi.am (by omega);omega)
    have e:(ls (decide (i.kind=1)) [wb Ps.dN,(20,Ps.bQ i.amount)]++ls (decide (i.kind=2)) [wb Ps.jN]).map st=[Ps.bw Ps.dN,Ps.bQ i.amount]:=by
     rw[hk1]
     simp[ls,jY,hc]
    rw[e]
    simp only[List.map_cons,List.map_nil,jY,hr,h3,hd,hf,ht,hq,htd]
    rfl
   ·rw[if_neg hk1]
    have hk2:i.kind=2:=by have:=hi.kind;omega
    have e:(ls (decide (i.kind=1)) [wb Ps.dN,(20,Ps.bQ i.amount)]++ls (decide (i.kind=2)) [wb Ps.jN]).map st=[Ps.bw Ps.jN]:=by
     rw[hk2]
     simp[ls,jY]
    rw[e]
    simp only[List.map_cons,List.map_nil,jY,hr,h3,hd,hf,ht,hq,htd]
    rfl
theorem Kq {m:Ps.Amd}(hm:Ps.nW m):(chS m).map st=Ps.xJ Ps.au m:=by
 have c1:m.hasAmount=true->st (20,Ps.bQ m.amount)=Ps.bQ m.amount:=λh=>zh (by have:=hm.am h;omega)
 have c2:=DV hm.day
 have c3:st (10,Ps.bw (Ps.eU m.priority))=Ps.bw (Ps.eU m.priority):=dW (by
  have h3:m.priority=0\/m.priority=1\/m.priority=2:=by have:=hm.prio;omega
  rcases h3 with h|h|h<;>(rw[h];decide))
 have c4:m.partial_=true->st (20,Ps.dM m.minLot)=Ps.dM m.minLot:=λh=>FY (by have:=hm.lot h;omega)
 unfold chS Ps.xJ Ps.Ig Ps.qW Ps.tQ Ps.oq
 generalize m.hasAmount=x1 at c1⊢
 generalize m.partial_=x8 at c4⊢
 cases x1<;>cases m.hasSettleDay<;>cases m.hasPriority<;>cases m.hasPartial<;>cases x8<;>simp[ls,jY,c1,c2,c3,c4]
def xU (W:World)(Q:Ps.Req)(lv:Value)(x:ByteArray)(e:Int):Prop:=Calls Tryz.prog 24 #[.agg (aA Q lv)] W λr W'=>r=.returned (.tuple #[.string x,.int .i64 e])/\Below W.heap.size W W'
theorem lp_req (w:World)(Q:Ps.Req)(a:Option Addr)(n c:Nat):Sem.run Tryz.prog (storeCells ⟨w.heap.size,0,none⟩ (aA Q (.slice a n c)).toList) (w.alloc (.cells Pp 37))=.ok () (w.alloc (.cells (aA Q (.slice a n c)) 37)):=
 run_storeCells_new w 37 Pp _ (by kernel_rfl) rfl (dI Q a n c)
theorem bx_req (w:World)(Q:Ps.Req)(a:Option Addr)(n c:Nat){ρ:Operand->Value}{o:Oper}{x:Operand}(ho:o.op=.box 37 x)(hx:ρ x=.agg (aA Q (.slice a n c))):(execOp ρ o).run Tryz.prog w=.ok (.value (.pointer (some ⟨w.heap.size,0,none⟩))) (w.alloc (.cells (aA Q (.slice a n c)) 37)):=by
 have h:=lp_req w Q a n c
 unfold Pp at h
 unfold execOp
 simp only[ho,hx]
 go_simp
 try rfl
def opW (k:Int):Lx.Bs:=if k=1 then Ps.l5 else if k=2 then Ps.eO else if k=3 then Ps.bP else Ps.fC
def ed (g:Nat)(Q:Ps.Req)(lv:Value):List (Option (Nat×Nat)×List Value):=[(some (g,0),tX Q lv),(none,[])]
noncomputable def ptRes (Q:Ps.Req)(e:Int)(f:FuncId)(us:List PV):Option Rv:=match us with
 |[.a 0 0 28]=>if f=30 then some (.val (.int .i64 e))else none
 |[.a 0 3 16]=>if f=66 then some (.sls (psS Q.ins))else none
 |[.a 0 19 9]=>if f=68 then some (.sls (chS Q.amd))else none
 |[.r 0 0]=>if f=67 then some (.str 8 (Ps.bw (opW Q.op)))else none
 |[.sl l,.s _]=>if f=69 then some (.str 2000 (Ps.dA (l.map st)))else none
 |_=>none
noncomputable def ptM (W:World)(Q:Ps.Req)(e:Int)(rows:List (Option (Nat×Nat)×List Value)):Mem:={seW W.heap.size W [] 40 rows (ptRes Q e)with big:=true}
noncomputable def ptC:Code:=Ev.vG (Tryz.f24.body.getD .skip)
theorem EC {W:World}{Q:Ps.Req}{e:Int}{rows:List (Option (Nat×Nat)×List Value)}(hr:RowsIn W W.heap.size 40 [] rows):Ok Tryz.prog (ptM W Q e rows):=
 (EM (Nat.le_refl _) (λg hg=>by cases hg) (λk g o l h=>by
  obtain⟨rfl,h2,⟨t,h3⟩,_⟩:=gq hr k g o l h
  exact⟨h2,nC h3⟩) λk p l h=>(gq hr k p.1 p.2 l h).2.2.2).big
theorem u6:∀args w,(callFunc 30 args).run Tryz.prog w=.ok (.enter 30 args) w:=enters_of Tryz.func30 (by kernel_rfl) rfl
theorem FW {M:Mem}{fn:Func}{r1 r2:Nat}{x:SB}{y:Value}{us:List PV}{ts:List Nat}{a:Act}{w:World}{R:Ending->World->Prop}(hres:fn.results=#[.tmp r1,.tmp r2])(hd:a.defers=[])(hv:nG M (r1::r2::ts) (.s x::.v y::us) a w)(hR:R (.returned (.tuple #[.string (st x),y])) w):bodyPost Tryz.prog fn R .ret a w:=by
 obtain⟨⟨v,h1,h2⟩,hv⟩:=hv.cons
 obtain⟨⟨v2,h3,h4⟩,_⟩:=hv.cons
 have h2:v=.string (st x):=h2
 have h4:v2=y:=h4
 subst h2 h4
 refine bodyPost_ret (results_tmp2 hres _ _ _) hd ?_
 rw[show a.tmps.getD r1 undef=.string (st x)from eval_at h1,show a.tmps.getD r2 undef=v2 from eval_at h3]
 exact hR
theorem xD (w:World)(Q:Ps.Req)(a:Option Addr)(n c:Nat){R:Ending->World->Prop}
 (h:∀(W:World) (b:Act),Below w.heap.size w W->W.heap[w.heap.size]? =some (.cells (tX Q (.slice a n c)).toArray 37 (0,0))->b.defers=[]->b.tmps.size=35->b.tmps[1]? =some (.pointer (some ⟨w.heap.size,0,none⟩))->b.tmps[2]? =some (.string ⟨#[]⟩)->b.tmps[3]? =some (.int .i64 0)->ptC.wp Tryz.prog (bodyPost Tryz.prog Tryz.f24 R) b W):
 Calls Tryz.prog 24 #[.agg (aA Q (.slice a n c))] w R:=by
 go_enter Tryz.func24,Tryz.ntmps24
 refine nu λb ha hdf=>?_
 refine wp_seq ?_
 have hb:Below w.heap.size w (w.alloc (.cells (aA Q (.slice a n c)) 37)):=(Below.refl _ _).alloc (Nat.le_refl _) _
 refine wp_bx3 rfl rfl rfl rfl rfl rfl rfl rfl (by decide) (by decide) (by decide) (by rw[ha];show 1<35;decide) (by rw[ha];show 2<35;decide) (by rw[ha];show 3<35;decide) (bx_req w Q a n c rfl (eval_at (by rw[ha];rfl))) λb b1 b2 b3 b4 b5=>?_
 have hr:(w.alloc (.cells (aA Q (.slice a n c)) 37)).heap[w.heap.size]? =some (.cells (aA Q (.slice a n c)) 37 (0,0)):=aD w _
 exact h _ b hb hr (b1.trans hdf) (b2.trans (by rw[ha];rfl)) b3 b4 b5
theorem Ap {w:World}{B:Nat}{a:Option Addr}{n c:Nat}{ks:List Ps.Link}(h:bq w B (.slice a n c) ks):n=ks.length/\nX w a n ks:=⟨(zW h).1,nX.of λh0=>zX h h0⟩
structure PtF (w:World)(Q:Ps.Req)(a:Option Addr)(n c:Nat):Prop where
 env:iI w
 ok:psR Q=0
 chk:∀W,Below w.heap.size w W->Calls Tryz.prog 30 #[.agg (aA Q (.slice a n c))] W λr W'=>r=.returned (.int .i64 0)/\Below W.heap.size W W'
 len:n=Q.ins.links.length
 put:nX w a n Q.ins.links
theorem Gm (k:Int)(hk:k=1\/k=2\/k=3\/k=4){W:World}(hE:iI W):CW W 67 k 8 (Ps.bw (opW k)):=by
 refine⟨λw hw=>?_,by rcases hk with rfl|rfl|rfl|rfl<;>decide⟩
 rcases hk with rfl|rfl|rfl|rfl
 ·exact(jJ w (hE.op w hw) 1 _ rfl).mono λe w2 ⟨h1,h2⟩=>⟨h1,h2▸Below.refl _ _⟩
 ·exact(jJ w (hE.op w hw) 2 _ rfl).mono λe w2 ⟨h1,h2⟩=>⟨h1,h2▸Below.refl _ _⟩
 ·exact(jJ w (hE.op w hw) 3 _ rfl).mono λe w2 ⟨h1,h2⟩=>⟨h1,h2▸Below.refl _ _⟩
 ·exact(jJ w (hE.op w hw) 4 _ rfl).mono λe w2 ⟨h1,h2⟩=>⟨h1,h2▸Below.refl _ _⟩
theorem Oa (i:Ps.Ins):0<(psS i).length:=by
 unfold psS
 split
 ·simp[pgS]
 ·split
  ·simp[pyS]
  ·rw[List.length_append]
   have:0<(pdS i).length:=by unfold pdS;simp;omega
   omega
theorem OI {i:Ps.Ins}(h:i.links.length<=8):(psS i).length<=1000:=by
 have h1:=Gf h
 have h2:=GZ i
 unfold psS
 split
 ·simp[pgS]
 ·split
  ·rw[List.length_append]
   have:(pyS i).length=10:=rfl
   omega
  ·rw[List.length_append]
   omega
theorem pt_sub (w:World)(i:Ps.Ins)(hi:Ps.mF bG.valid i)(a:Option Addr)(n c:Nat)(hF:PtF w (kz i) a n c):xU w (kz i) (.slice a n c) (Ps.dA (Ps.jE Ps.au (kz i) (Ps.ky i))) 0:=by
 have hs:=vV hF.ok
 have hz:=(jP hF.ok).2
 have hw:(psS i).map st=Ps.jE Ps.au (kz i) (Ps.ky i):=M0 hi hs
 rw[<-hw]
 have hz:(Ps.dA ((psS i).map st)).size<=1024:=by rw[hw];exact hz
 unfold xU
 refine xD w (kz i) a n c λW b hb hr hd hn h1 h2 h3=>?_
 have hR:RowsIn W W.heap.size 40 [] (ed w.heap.size (kz i) (.slice a n c)):=⟨⟨rfl,.inl (Array.getElem?_eq_some_iff.1 hr).1,⟨_,hr⟩,uB (λx e=>by cases e) hs⟩,trivial⟩
 refine gL (M:=ptM W (kz i) 0 (ed w.heap.size (kz i) (.slice a n c))) (n:=35) (code:=ptC) (K:=[(1,.p 0 0),(2,.s (0,⟨#[]⟩)),(3,.v (.int .i64 0))]) (EC hR) [2,3] (us:=[.s (2000,Ps.dA ((psS i).map st)),.v (.int .i64 0)])
  (ps:=[bC W.heap.size W (Ev.bE (ed w.heap.size (kz i) (.slice a n c))) 30 [.a 0 0 28] (.val (.int .i64 0)),bC W.heap.size W (Ev.bE (ed w.heap.size (kz i) (.slice a n c))) 66 [.a 0 3 16] (.sls (psS i)),bC W.heap.size W (Ev.bE (ed w.heap.size (kz i) (.slice a n c))) 69 [.sl (psS i),.s (1,⟨#[32]⟩)] (.str 2000 (Ps.dA ((psS i).map st)))]) (by kernel_rfl)
  ⟨FQ (x:=.agg (aA (kz i) (.slice a n c))) u6 rfl λw' hw'=>hF.chk w' (hb.trans (hw'.mono hb.size)),tu (x:=.agg (aB i (.slice a n c)).toArray) Kb rfl λw' hw'=>Jm w' i ⟨hF.env.below (hb.trans (hw'.mono hb.size)),hi,hs⟩ a n c hF.len (hF.put.below (hb.trans (hw'.mono hb.size))),AP (Oa i) (OI hi.links) (by omega),trivial⟩ (aJ (aJ (aJ (cu hn hd) h3 rfl) h2 rfl) h1 rfl) (Sw.start _) ?_
 intro b w' _ hd hv hS
 refine FW rfl hd hv ⟨?_,hb.trans ((dP rfl hS).mono hb.size)⟩
 rw[dW (by omega)]
theorem Qd (m:Ps.Amd):(chS m).length<=10:=by
 unfold chS
 cases m.hasAmount<;>cases m.hasSettleDay<;>cases m.hasPriority<;>cases (m.hasPartial&&m.partial_)<;>cases (m.hasPartial&&!m.partial_)<;>simp[ls]
theorem pt_amd (w:World)(s r:ByteArray)(m:Ps.Amd)(hm:Ps.nW m)(a:Option Addr)(n c:Nat)(os:List Ps.Op)(hF:PtF w {op:=1,sender:=s,ref:=r,amd:=m} a n c):xU w {op:=1,sender:=s,ref:=r,amd:=m} (.slice a n c) (Ps.dA (Ps.jE Ps.au {op:=1,sender:=s,ref:=r,amd:=m} os)) 0:=by
 have hs:=vV hF.ok
 have hz:=(jP hF.ok).2
 have s1:r.size<=40:=hs.ref
 have s2:s.size<=40:=hs.sender
 have hcl:=Qd m
 have hw:([(8,Ps.bw (opW 1)),(40,r),wb Ps.sBy,(40,s)]++chS m).map st=Ps.jE Ps.au {op:=1,sender:=s,ref:=r,amd:=m} os:=by
  rw[List.map_append,Kq hm]
  show[st (8,Ps.bw (opW 1)),st (40,r),st (wb Ps.sBy),st (40,s)]++_=[Ps.bw Ps.l5,r,Ps.bw Ps.sBy,s]++_
  rw[dW s1,dW s2,jY,dW (by decide)]
  rfl
 have hz:(Ps.dA (([(8,Ps.bw (opW 1)),(40,r),wb Ps.sBy,(40,s)]++chS m).map st)).size<=1024:=by rw[hw];exact hz
 rw[<-hw]
 unfold xU
 refine xD w _ a n c λW b hb hr hd hn h1 h2 h3=>?_
 have hR:RowsIn W W.heap.size 40 [] (ed w.heap.size {op:=1,sender:=s,ref:=r,amd:=m} (.slice a n c)):=⟨⟨rfl,.inl (Array.getElem?_eq_some_iff.1 hr).1,⟨_,hr⟩,uB (λx e=>by cases e) hs⟩,trivial⟩
 refine gL (M:=ptM W {op:=1,sender:=s,ref:=r,amd:=m} 0 (ed w.heap.size {op:=1,sender:=s,ref:=r,amd:=m} (.slice a n c))) (n:=35) (code:=ptC) (K:=[(1,.p 0 0),(2,.s (0,⟨#[]⟩)),(3,.v (.int .i64 0))]) (EC hR) [2,3] (us:=[.s (2000,Ps.dA (([(8,Ps.bw (opW 1)),(40,r),wb Ps.sBy,(40,s)]++chS m).map st)),.v (.int .i64 0)])
  (ps:=[bC W.heap.size W (Ev.bE (ed w.heap.size {op:=1,sender:=s,ref:=r,amd:=m} (.slice a n c))) 30 [.a 0 0 28] (.val (.int .i64 0)),bC W.heap.size W (Ev.bE (ed w.heap.size {op:=1,sender:=s,ref:=r,amd:=m} (.slice a n c))) 67 [.r 0 0] (.str 8 (Ps.bw (opW 1))),bC W.heap.size W (Ev.bE (ed w.heap.size {op:=1,sender:=s,ref:=r,amd:=m} (.slice a n c))) 68 [.a 0 19 9] (.sls (chS m)),([(8,Ps.bw (opW 1)),(40,r),wb Ps.sBy,(40,s)]:List SB).length+(chS m).length<=1000000,bC W.heap.size W (Ev.bE (ed w.heap.size {op:=1,sender:=s,ref:=r,amd:=m} (.slice a n c))) 69 [.sl ([(8,Ps.bw (opW 1)),(40,r),wb Ps.sBy,(40,s)]++chS m),.s (1,⟨#[32]⟩)] (.str 2000 (Ps.dA (([(8,Ps.bw (opW 1)),(40,r),wb Ps.sBy,(40,s)]++chS m).map st)))]) (by kernel_rfl)
  ⟨FQ (x:=.agg (aA {op:=1,sender:=s,ref:=r,amd:=m} (.slice a n c))) u6 rfl λw' hw'=>hF.chk w' (hb.trans (hw'.mono hb.size)),spW GK rfl rfl (Gm 1 (by omega) (hF.env.below hb)),tu (x:=.agg (aH m).toArray) K7 rfl λw' hw'=>Dm w' m (hF.env.below (hb.trans (hw'.mono hb.size))) hm,by show 4+_<=_;omega,AP (by rw[List.length_append];show 0<4+_;omega) (by rw[List.length_append];show 4+_<=_;omega) (by omega),trivial⟩ (aJ (aJ (aJ (cu hn hd) h3 rfl) h2 rfl) h1 rfl) (Sw.start _) ?_
 intro b w' _ hd hv hS
 refine FW rfl hd hv ⟨?_,hb.trans ((dP rfl hS).mono hb.size)⟩
 rw[dW (by omega)]
theorem pt_op (w:World)(k:Int)(hk:k=2\/k=3\/k=4)(s r:ByteArray)(a:Option Addr)(n c:Nat)(os:List Ps.Op)(hF:PtF w {op:=k,sender:=s,ref:=r} a n c):xU w {op:=k,sender:=s,ref:=r} (.slice a n c) (Ps.dA (Ps.jE Ps.au {op:=k,sender:=s,ref:=r} os)) 0:=by
 have hs:=vV hF.ok
 have hz:=(jP hF.ok).2
 have s1:r.size<=40:=hs.ref
 have s2:s.size<=40:=hs.sender
 have hw:([(8,Ps.bw (opW k)),(40,r),wb Ps.sBy,(40,s)]:List SB).map st=Ps.jE Ps.au {op:=k,sender:=s,ref:=r} os:=by
  show[st (8,Ps.bw (opW k)),st (40,r),st (wb Ps.sBy),st (40,s)]=_
  rw[dW s1,dW s2,jY,dW (by rcases hk with rfl|rfl|rfl<;>decide)]
  rcases hk with rfl|rfl|rfl<;>rfl
 have hz:(Ps.dA (([(8,Ps.bw (opW k)),(40,r),wb Ps.sBy,(40,s)]:List SB).map st)).size<=1024:=by rw[hw];rcases hk with rfl|rfl|rfl<;>exact hz
 rw[<-hw]
 unfold xU
 refine xD w _ a n c λW b hb hr hd hn h1 h2 h3=>?_
 have hR:RowsIn W W.heap.size 40 [] (ed w.heap.size {op:=k,sender:=s,ref:=r} (.slice a n c)):=⟨⟨rfl,.inl (Array.getElem?_eq_some_iff.1 hr).1,⟨_,hr⟩,uB (λx e=>by cases e) hs⟩,trivial⟩
 refine gL (M:=ptM W {op:=k,sender:=s,ref:=r} 0 (ed w.heap.size {op:=k,sender:=s,ref:=r} (.slice a n c))) (n:=35) (code:=ptC) (K:=[(1,.p 0 0),(2,.s (0,⟨#[]⟩)),(3,.v (.int .i64 0))]) (EC hR) [2,3] (us:=[.s (2000,Ps.dA (([(8,Ps.bw (opW k)),(40,r),wb Ps.sBy,(40,s)]:List SB).map st)),.v (.int .i64 0)])
  (ps:=[bC W.heap.size W (Ev.bE (ed w.heap.size {op:=k,sender:=s,ref:=r} (.slice a n c))) 30 [.a 0 0 28] (.val (.int .i64 0)),bC W.heap.size W (Ev.bE (ed w.heap.size {op:=k,sender:=s,ref:=r} (.slice a n c))) 67 [.r 0 0] (.str 8 (Ps.bw (opW k))),bC W.heap.size W (Ev.bE (ed w.heap.size {op:=k,sender:=s,ref:=r} (.slice a n c))) 69 [.sl [(8,Ps.bw (opW k)),(40,r),wb Ps.sBy,(40,s)],.s (1,⟨#[32]⟩)] (.str 2000 (Ps.dA (([(8,Ps.bw (opW k)),(40,r),wb Ps.sBy,(40,s)]:List SB).map st)))]) (by rcases hk with rfl|rfl|rfl<;>(show _=_;kernel_rfl))
  ⟨FQ (x:=.agg (aA {op:=k,sender:=s,ref:=r} (.slice a n c))) u6 rfl λw' hw'=>hF.chk w' (hb.trans (hw'.mono hb.size)),spW GK rfl rfl (Gm k (by omega) (hF.env.below hb)),AP (by show 0<4;decide) (by show 4<=1000;decide) (by omega),trivial⟩ (aJ (aJ (aJ (cu hn hd) h3 rfl) h2 rfl) h1 rfl) (Sw.start _) ?_
 intro b w' _ hd hv hS
 refine FW rfl hd hv ⟨?_,hb.trans ((dP rfl hS).mono hb.size)⟩
 rw[dW (by omega)]
theorem QN (w:World)(Q:Ps.Req)(a:Option Addr)(n c:Nat)(hF:PtF w Q a n c):xU w Q (.slice a n c) (Ps.dA (Ps.jE Ps.au Q (Ps.ky Q.ins))) 0:=by
 obtain⟨_,_,h3⟩:=Ps.mP _ _ hF.ok
 rcases h3 with⟨_,hi,he⟩|⟨_,hm,he⟩|⟨hk,he⟩
 ·generalize Q.ins=i at he hi
  subst he
  exact pt_sub w i hi a n c hF
 ·rw[he]at hF⊢
  exact pt_amd w _ _ _ hm a n c _ hF
 ·rw[he]at hF⊢
  exact pt_op w _ hk _ _ a n c _ hF
theorem ED (g:Nat)(Q:Ps.Req)(lv:Value)(w:World)(h:w.heap[g]? =some (.cells (aA Q lv) 37 (0,0))):(Instr.loadAt 37 (.pointer (some ⟨g,0,none⟩))).run Tryz.prog w=.ok (.agg (aA Q lv)) w:=by
 have:=run_loadVar_row (P:=Tryz.prog) w g 37 37 (aA Q lv) (0,0) _ h Tryz.underlying37 rfl (by kernel_rfl)
 unfold Instr.loadAt
 simp[Instr.sureAddr,this]
theorem CY {P:Program}{ops:Array Oper}{Q:Exit->Act->World->Prop}{rest:List Oper}{o:Oper}{a:Act}{w:World}{t:TypeId}{x:Operand}{v u:Value}{d:Nat}(hw:Region.wanted o (yielded ops a.tmps)=true)(hd:o.dst=some d)(ho:o.op=.load t x)(hx:a.eval x=v)(hr:(Instr.loadAt t v).run P w=.ok u w)(h:wpList P ops Q rest ⟨a.tmps.setIfInBounds d u,a.defers⟩ w):wpList P ops Q (o::rest) a w:=by
 refine BigFrame.wpList_want hw λK hK=>?_
 unfold Oper.wp execOp
 rw[ho]
 simp only[hx,Sem.run_bind,hr,Result.andThen_ok]
 refine hK _ _ ?_
 rw[hd]
 exact h
open Go Go.RowKit
theorem Ps.parse_ok (E:Ps.Env)(check:Ps.Req->Int)(s:ByteArray)(h:(Ps.parse E check s).2.2=0):check (Ps.parse E check s).1=0:=by
 by_cases hs:s.size<=1024
 ·exact((Ps.BD E check s hs).1 h).1
 ·exfalso
  have e:Lx.aI s=([],1024,5):=by unfold Lx.aI;rw[if_pos (by omega)]
  unfold Ps.parse at h
  rw[e,if_pos (by show¬(5:Int)=0;decide)]at h
  exact absurd h (by show¬(5:Int)=0;decide)
def rU (W:World)(s x:ByteArray)(e:Int):Prop:=Calls Tryz.prog 27 #[.string s] W λr W'=>r=.returned (.tuple #[.string x,.int .i64 e])/\Below W.heap.size W W'
noncomputable def cnT (Q:Ps.Req):ByteArray:=Ps.dA (Ps.jE Ps.au Q (Ps.ky Q.ins))
noncomputable def cnS (s:ByteArray):ByteArray×Int:=if (Ps.parse bG psR s).2.2=0 then(cnT (Ps.parse bG psR s).1,0)else(⟨#[]⟩,(Ps.parse bG psR s).2.2)
theorem cn_bad (w:World)(s:ByteArray)(Q:Ps.Req)(o x:Int)(hx:(x !=0)=true)(m2:Ii w s Q o x):rU w s ⟨#[]⟩ x:=by
 unfold rU
 have hst:=zA
 go_enter Tryz.func27,Tryz.ntmps27
 go_upto_region 2 with(go_at_call 16;refine m2.mono ?_;rintro e w2 ⟨a,n,c,rfl,hl2,hb2⟩;clear hl2)
 have HB3:Hid (Below w.heap.size w (w2.alloc (.cells (aA Q (.slice a n c)) 37))):=Lib.hid (hb2.alloc hb2.size _)
 generalize w2.alloc (.cells (aA Q (.slice a n c)) 37)=W3 at HB3⊢
 clear hb2 hst m2
 go_wp2_with fail
 go_ret2
 exact⟨rfl,HB3.out⟩
theorem Pk (w:World)(s:ByteArray)(Q:Ps.Req)(o:Int)(x:ByteArray)(m2:Ii w s Q o 0)(m3:Hid (∀W B a n c,Below w.heap.size w W->bq W B (.slice a n c) Q.ins.links->xU W Q (.slice a n c) x 0)):rU w s x 0:=by
 unfold rU
 have hst:=zA
 go_enter Tryz.func27,Tryz.ntmps27
 go_upto_region 4 with(go_at_call 16;refine m2.mono ?_;rintro e w2 ⟨a,n,c,rfl,hl2,hb2⟩;have HL2:=Lib.hid hl2;have HB2:=Lib.hid hb2;clear hb2 hl2)
 obtain⟨g,hg⟩:∃g,g=w2.heap.size:=⟨_,rfl⟩
 obtain⟨W3,hW3⟩:∃W3,W3=w2.alloc (.cells (aA Q (.slice a n c)) 37):=⟨_,rfl⟩
 have HR3:Hid (W3.heap[g]? =some (.cells (aA Q (.slice a n c)) 37 (0,0))):=Lib.hid (by rw[hW3,hg];exact aD w2 _)
 have HB3:Hid (Below w.heap.size w W3):=Lib.hid (by rw[hW3];exact HB2.out.alloc HB2.out.size _)
 have HL3:Hid (bq W3 w.heap.size (.slice a n c) Q.ins.links):=Lib.hid (by rw[hW3];exact bq.below HL2.out ((Below.refl _ _).alloc (Nat.le_refl _) _))
 rw[<-hW3,<-hg]
 have m4:=m3.out W3 _ a n c HB3.out HL3.out
 unfold xU at m4
 clear hW3 hg HB2 HL2 HL3 hst m2 m3
 refine wp_region_lit ?_
 refine pM rfl rfl rfl rfl (ED g Q (.slice a n c) W3 HR3.out) ?_
 go_wp2_with (go_at_call 24;refine m4.mono ?_;rintro e w4 ⟨rfl,hb4⟩;have Gq:=Lib.hid (HB3.out.trans (hb4.mono HB3.out.size));clear hb4 m4)
 go_ret2
 exact⟨rfl,Gq.out⟩
theorem prt_of {m:Int}{kb ko kc:Nat}{w:World}(env:iU m kb ko kc w)(hE:iI w)(Q:Ps.Req)(hQ:psR Q=0)(W:World)(B:Nat)(a:Option Addr)(n c:Nat)(hW:Below w.heap.size w W)(hl:bq W B (.slice a n c) Q.ins.links):xU W Q (.slice a n c) (cnT Q) 0:=by
 refine QN W Q a n c ⟨hE.below hW,hQ,λW2 hW2=>?_,(Ap hl).1,(Ap hl).2⟩
 have env2:=env.below (hW.trans (hW2.mono hW.size))
 have:=Kk env2.id (Q9 env2.id) W2 B Q a n c (Below.refl _ _) (hl.below hW2)
 rw[hQ]at this
 exact this
theorem zx {m:Int}{kb ko kc:Nat}{w:World}(env:iU m kb ko kc w)(hE:iI w)(s:ByteArray)(hs:s.size<=9223372036854775807)(W:World)(hW:Below w.heap.size w W):rU W s (cnS s).1 (cnS s).2:=by
 have hp:=Ej env s hs W hW
 unfold cnS
 by_cases h:(Ps.parse bG psR s).2.2=0
 ·rw[if_pos h]
  rw[h]at hp
  exact Pk W s _ _ _ hp (Lib.hid λW2 B a n c hW2 hl=>prt_of env hE _ (Ps.parse_ok _ _ _ h) W2 B a n c (hW.trans (hW2.mono hW.size)) hl)
 ·rw[if_neg h]
  exact cn_bad W s _ _ _ (by simpa using h) hp
theorem ic_bad (w:World)(s x:ByteArray)(e:Int)(he:(e==0)=false)(m2:rU w s x e):Calls Tryz.prog 29 #[.string s] w λr W'=>r=.returned (.bool false)/\Below w.heap.size w W':=by
 unfold rU at m2
 go_enter Tryz.func29,Tryz.ntmps29
 go_wp2_with (go_at_call 27;refine m2.mono ?_;rintro r w2 ⟨rfl,hb⟩)
 go_ret
 exact⟨rfl,hb⟩
theorem QX (w:World)(s x:ByteArray)(b:Bool)(hb:(x.toList==s.toList)=b)(m2:rU w s x 0):Calls Tryz.prog 29 #[.string s] w λr W'=>r=.returned (.bool b)/\Below w.heap.size w W':=by
 unfold rU at m2
 have HB:=Lib.hid hb
 go_enter Tryz.func29,Tryz.ntmps29
 go_wp2_with (go_at_call 27;refine m2.mono ?_;rintro r w2 ⟨rfl,hbl⟩)
 go_ret
 exact⟨rfl,hbl⟩
noncomputable def icS (s:ByteArray):Bool:=decide ((cnS s).2=0)&&((cnS s).1.toList==s.toList)
theorem yN {m:Int}{kb ko kc:Nat}{w:World}(env:iU m kb ko kc w)(hE:iI w)(s:ByteArray)(hs:s.size<=9223372036854775807)(W:World)(hW:Below w.heap.size w W):Calls Tryz.prog 29 #[.string s] W λr W'=>r=.returned (.bool (icS s))/\Below W.heap.size W W':=by
 have hp:=zx env hE s hs W hW
 unfold icS
 by_cases h:(cnS s).2=0
 ·rw[h]at hp⊢
  rw[decide_eq_true rfl,Bool.true_and]
  exact QX W s _ _ rfl hp
 ·rw[decide_eq_false h,Bool.false_and]
  exact ic_bad W s _ _ (by simpa using h) hp
theorem KH {Q:Ps.Req}(h:psR Q=0):cnS (cnT Q)=(cnT Q,0)/\Ps.parse bG psR (cnT Q)=(Q,0,0)/\(cnT Q).size<=1024:=by
 obtain⟨h1,h2⟩:=jP h
 refine⟨?_,h1,h2⟩
 unfold cnS
 rw[show Ps.parse bG psR (cnT Q)=(Q,0,0)from h1]
 rfl
def Cr:ByteArray:=⟨#[112,97,121,32,32,80,49,32,102,114,111,109,32,66,65,78,75,65,32,116,111,32,66,65,78,75,66,32,97,109,111,117,110,116,32,49,53,48,48,46,48,48,32,100,97,121,32,50,48,50,54,45,49,49,45,49,54,32,104,111,108,100,32,117,114,103,101,110,116,32,35,32,115,97,108,97,114,121]⟩
def vv:ByteArray:=⟨#[112,97,121,32,80,49,32,102,114,111,109,32,66,65,78,75,65,32,116,111,32,66,65,78,75,66,32,97,109,111,117,110,116,32,49,53,48,48,46,48,48,32,100,97,121,32,50,48,50,54,45,49,49,45,49,54,32,117,114,103,101,110,116,32,104,111,108,100]⟩
def kU:Ps.Req:=(Ps.parse bG psR Cr).1
theorem Gj:(Ps.parse bG psR Cr).2.2=0:=by decide +kernel
theorem Km:Ps.jE (λ_=>⟨#[50,48,50,54,45,49,49,45,49,54]⟩) kU (Ps.ky kU.ins)=[Ps.bw Ps.CB,⟨#[80,49]⟩,Ps.bw Ps.qY,⟨#[66,65,78,75,65]⟩,Ps.bw Ps.sTo,⟨#[66,65,78,75,66]⟩,Ps.bw Ps.bH,⟨#[49,53,48,48,46,48,48]⟩,Ps.bw Ps.dU,⟨#[50,48,50,54,45,49,49,45,49,54]⟩,Ps.bw (Ps.eU 2),Ps.bw Ps.bP]:=by decide +kernel
theorem IE:Ps.au 9816=⟨#[50,48,50,54,45,49,49,45,49,54]⟩:=by
 have h:Ps.IsC 9816 2026 11 16:=by unfold Ps.IsC;decide +kernel
 rw[Ps.qQ h]
 decide +kernel
theorem kn20_p:kU.op=0/\kU.ins.kind=0/\kU.ins.settleDay=9816:=by decide +kernel
theorem MP:cnT kU=vv:=by
 obtain⟨h1,h2,h3⟩:=kn20_p
 have e:Ps.jE Ps.au kU (Ps.ky kU.ins)=Ps.jE (λ_=>⟨#[50,48,50,54,45,49,49,45,49,54]⟩) kU (Ps.ky kU.ins):=by
  unfold Ps.jE Ps.tq
  rw[if_pos h1,if_pos h1,if_neg (by omega),if_pos h2,if_neg (by omega),if_pos h2,h3,IE]
 unfold cnT
 rw[e,Km]
 decide +kernel
theorem N9:cnS Cr=(vv,0):=by
 unfold cnS
 rw[if_pos Gj]
 show(cnT kU,(0:Int))=_
 rw[MP]
theorem QE:(vv.toList==([112,97,121,32,80,49,32,102,114,111,109,32,66,65,78,75,65,32,116,111,32,66,65,78,75,66,32,97,109,111,117,110,116,32,49,53,48,48,46,48,48,32,100,97,121,32,50,48,50,54,45,49,49,45,49,54,32,117,114,103,101,110,116,32,104,111,108,100]:List UInt8))=true:=by decide +kernel
theorem Js (w:World)(m1:rU w Cr vv 0)(m2:∀W,Below w.heap.size w W->Calls Tryz.prog 29 #[.string vv] W λr W'=>r=.returned (.bool true)/\Below W.heap.size W W'):Calls Tryz.prog 22 #[] w λr W'=>r=.returned (.bool true)/\Below w.heap.size w W':=by
 unfold rU at m1
 have hk:=QE
 go_enter Tryz.func22,Tryz.ntmps22
 go_upto_region 2 with(go_at_call 27;refine m1.mono ?_;rintro r w2 ⟨rfl,hb⟩;have HB:=Lib.hid hb;clear hb m1)
 go_wp2_with (go_at_call 29;refine(m2 _ HB.out).mono ?_;rintro r w3 ⟨rfl,hb2⟩;have HB2:=Lib.hid (HB.out.trans (hb2.mono HB.out.size));clear hb2)
 go_ret
 exact⟨rfl,HB2.out⟩
theorem Ph {Q:Ps.Req}(h:psR Q=0):icS (cnT Q)=true:=by
 unfold icS
 rw[(KH h).1]
 generalize cnT Q=z
 show(decide ((0:Int)=0)&&(z.toList==z.toList))=true
 rw[beq_self_eq_true]
 rfl
theorem kn20 {m:Int}{kb ko kc:Nat}{w:World}(env:iU m kb ko kc w)(hE:iI w):Calls Tryz.prog 22 #[] w λr W'=>r=.returned (.bool true)/\Below w.heap.size w W':=by
 have hc:=zx env hE Cr (by decide) w (Below.refl _ _)
 rw[N9]at hc
 have hi:=λW hW=>yN env hE vv (by decide) W hW
 have hq:psR kU=0:=Ps.parse_ok _ _ _ Gj
 have hb:icS vv=true:=by
  rw[<-MP]
  exact Ph hq
 rw[hb]at hi
 exact Js w hc hi
abbrev KnC (w:World):Prop:=Hid (∀W,Below w.heap.size w W->Calls Tryz.prog 22 #[] W λe W'=>e=.returned (.bool true)/\Below W.heap.size W W')
theorem QH (w:World)(s:ByteArray)(hs:(1100:Int)<(s.size:Int))(m1:KnC w):
 Calls Tryz.prog 9 #[.string s] w λe W'=>e=.returned (.bool true)/\Below w.heap.size w W':=by
 have HB0:Hid (Below w.heap.size w w):=Lib.hid (Below.refl _ _)
 go_enter Tryz.func9,Tryz.ntmps9
 go_upto_region 2 with(go_at_call 22;refine(m1.out _ HB0.out).mono ?_;rintro e w1 ⟨rfl,hb1⟩;have HB1:=Lib.hid (HB0.out.trans (hb1.mono HB0.out.size));clear hb1)
 go_wp2_with (go_at_call 22;refine(m1.out _ HB1.out).mono ?_;rintro e w2 ⟨rfl,hb2⟩;have HB2:=Lib.hid (HB1.out.trans (hb2.mono HB1.out.size));clear hb2)
 go_ret
 exact⟨rfl,HB2.out⟩
theorem pm_bad (w:World)(s:ByteArray)(hs:decide ((1100:Int)<(s.size:Int))=false)(Q:Ps.Req)(o x:Int)(hx:(x !=0)=true)(m1:KnC w)
 (m2:Hid (∀W,Below w.heap.size w W->rU W s ⟨#[]⟩ x)) (m3:Hid (∀W,Below w.heap.size w W->Ii W s Q o x)) (m4:Hid (∀W,Below w.heap.size w W->Calls Tryz.prog 29 #[.string s] W λr W'=>r=.returned (.bool false)/\Below W.heap.size W W')):
 Calls Tryz.prog 9 #[.string s] w λe W'=>e=.returned (.bool true)/\Below w.heap.size w W':=by
 have HB0:Hid (Below w.heap.size w w):=Lib.hid (Below.refl _ _)
 have hst:=zA
 have hxx:(x !=x)=false:=by simp
 go_enter Tryz.func9,Tryz.ntmps9
 go_upto_region 3 with(go_at_call 22;refine(m1.out _ HB0.out).mono ?_;rintro e w1 ⟨rfl,hb1⟩;have HB1:=Lib.hid (HB0.out.trans (hb1.mono HB0.out.size));clear hb1)
 go_upto_region 4 with(go_at_call 27;refine(m2.out _ HB1.out).mono ?_;rintro e w2 ⟨rfl,hb2⟩;have HB2:=Lib.hid (HB1.out.trans (hb2.mono HB1.out.size));clear hb2)
 go_upto_region 5 with(go_at_call 16;refine(m3.out _ HB2.out).mono ?_;rintro e w3 ⟨a,n,c,rfl,hl3,hb3⟩;clear hl3;have HB3:=Lib.hid (HB2.out.trans (hb3.mono HB2.out.size));clear hb3)
 have Gq:Hid (Below w.heap.size w (w3.alloc (.cells (aA Q (.slice a n c)) 37))):=Lib.hid (HB3.out.alloc HB3.out.size _)
 generalize w3.alloc (.cells (aA Q (.slice a n c)) 37)=W4 at Gq⊢
 clear hst HB3 m1 m2 m3
 go_wp2_with (go_at_call 29;refine(m4.out _ Gq.out).mono ?_;rintro r w5 ⟨rfl,hb5⟩;have JP:=Lib.hid (Gq.out.trans (hb5.mono Gq.out.size));clear hb5)
 go_ret
 exact⟨rfl,JP.out⟩
theorem QD (w:World)(s S:ByteArray)(hs:decide ((1100:Int)<(s.size:Int))=false)(Q:Ps.Req)(o o2:Int)(hlk:Q.ins.links.length<=1000)(m1:KnC w)
 (m2:Hid (∀W,Below w.heap.size w W->rU W s S 0)) (m3:Hid (∀W,Below w.heap.size w W->Ii W s Q o 0)) (m4:Hid (∀W,Below w.heap.size w W->Ii W S Q o2 0)):
 Calls Tryz.prog 9 #[.string s] w λe W'=>e=.returned (.bool true)/\Below w.heap.size w W':=by
 have HB0:Hid (Below w.heap.size w w):=Lib.hid (Below.refl _ _)
 have hst:=zA
 go_enter Tryz.func9,Tryz.ntmps9
 go_upto_region 3 with(go_at_call 22;refine(m1.out _ HB0.out).mono ?_;rintro e w1 ⟨rfl,hb1⟩;have HB1:=Lib.hid (HB0.out.trans (hb1.mono HB0.out.size));clear hb1)
 go_upto_region 4 with(go_at_call 27;refine(m2.out _ HB1.out).mono ?_;rintro e w2 ⟨rfl,hb2⟩;have HB2:=Lib.hid (HB1.out.trans (hb2.mono HB1.out.size));clear hb2)
 go_upto_region 5 with(go_at_call 16;refine(m3.out _ HB2.out).mono ?_;rintro e w3 ⟨a,n,c,rfl,hl3,hb3⟩;have HL3:=Lib.hid hl3;have HB3:=Lib.hid hb3;clear hb3 hl3)
 obtain⟨g1,hg1⟩:∃g1,g1=w3.heap.size:=⟨_,rfl⟩
 obtain⟨W4,hW4⟩:∃W4,W4=w3.alloc (.cells (aA Q (.slice a n c)) 37):=⟨_,rfl⟩
 have HR4:Hid (W4.heap[g1]? =some (.cells (aA Q (.slice a n c)) 37 (0,0))):=Lib.hid (by rw[hW4,hg1];exact aD w3 _)
 have HK4:Hid (Below w2.heap.size w2 W4):=Lib.hid (by rw[hW4];exact HB3.out.alloc HB3.out.size _)
 have HL4:Hid (bq W4 w2.heap.size (.slice a n c) Q.ins.links):=Lib.hid (by rw[hW4];exact bq.below HL3.out ((Below.refl _ _).alloc (Nat.le_refl _) _))
 have Gq:Hid (Below w.heap.size w W4):=Lib.hid (HB2.out.trans (HK4.out.mono HB2.out.size))
 rw[<-hW4,<-hg1]
 clear hW4 hg1 HB3 HL3 m1 m2 m3
 go_upto_region 10 with(go_at_call 16;refine(m4.out _ Gq.out).mono ?_;rintro e w5 ⟨a2,n2,c2,rfl,hl5,hb5⟩;have HL5:=Lib.hid hl5;have JP:=Lib.hid hb5;clear hb5 hl5)
 obtain⟨g2,hg2⟩:∃g2,g2=w5.heap.size:=⟨_,rfl⟩
 obtain⟨W6,hW6⟩:∃W6,W6=w5.alloc (.cells (aA Q (.slice a2 n2 c2)) 37):=⟨_,rfl⟩
 have hb6:Below W4.heap.size W4 W6:=by rw[hW6];exact JP.out.alloc JP.out.size _
 have Ns:Hid (W6.heap[g1]? =some (.cells (aA Q (.slice a n c)) 37 (0,0))):=Lib.hid ((hb6.block g1 (Array.getElem?_eq_some_iff.1 HR4.out).1).trans HR4.out)
 have HS6:Hid (W6.heap[g2]? =some (.cells (aA Q (.slice a2 n2 c2)) 37 (0,0))):=Lib.hid (by rw[hW6,hg2];exact aD w5 _)
 have DN:Hid (Below w.heap.size w W6):=Lib.hid (Gq.out.trans (hb6.mono Gq.out.size))
 have m5:=eq_req W6 Q w2.heap.size W4.heap.size a a2 n c n2 c2 hlk (bq.below HL4.out hb6) (by rw[hW6];exact bq.below HL5.out ((Below.refl _ _).alloc (Nat.le_refl _) _))
 rw[<-hW6,<-hg2]
 clear hW6 hg2 hb6 JP HL5 HL4 HR4 Gq HK4 hst m4
 refine wp_region_lit ?_
 refine wpList_plain rfl (λK hK=>?_)
 go_simp
 refine hK _ _ ?_
 clear hK K
 refine wpList_plain rfl (λK hK=>?_)
 go_simp
 refine hK _ _ ?_
 clear hK K
 refine wpList_plain rfl (λK hK=>?_)
 go_simp
 refine hK _ _ ?_
 clear hK K
 refine CY (by rfl) rfl rfl rfl (ED g1 Q (.slice a n c) W6 Ns.out) ?_
 refine CY (by rfl) rfl rfl rfl (ED g2 Q (.slice a2 n2 c2) W6 HS6.out) ?_
 clear Ns HS6
 go_wp2_with (go_at_call 20;refine m5.mono ?_;rintro e w7 ⟨rfl,PR⟩;have HB7:=Lib.hid (DN.out.trans (PR.mono DN.out.size));clear PR m5)
 go_ret
 exact⟨rfl,HB7.out⟩
theorem Jf {Q:Ps.Req}(h:psR Q=0):Q.ins.links.length<=8:=by
 obtain⟨_,_,h3⟩:=Ps.mP _ _ h
 rcases h3 with⟨_,hi,_⟩|⟨_,_,he⟩|⟨_,he⟩
 ·exact hi.links
 ·rw[he];exact Nat.zero_le _
 ·rw[he];exact Nat.zero_le _
theorem xH {m:Int}{kb ko kc:Nat}{w:World}(env:iU m kb ko kc w)(hE:iI w)(s:ByteArray)(_:s.size<=maxLen):Calls Tryz.prog 9 #[.string s] w λe W'=>e=.returned (.bool true)/\Below w.heap.size w W':=by
 have m1:KnC w:=Lib.hid λW hW=>kn20 (env.below hW) (hE.below hW)
 by_cases hs:1100<s.size
 ·exact QH w s (by omega) m1
 ·have hs':decide ((1100:Int)<(s.size:Int))=false:=by simp;omega
  have hc:=zx env hE s (by omega)
  have hp:=λ(W:World) (hW:Below w.heap.size w W)=>Ej env s (by omega) W hW
  by_cases he:(Ps.parse bG psR s).2.2=0
  ·have hQ:=Ps.parse_ok bG psR s he
   obtain⟨_,h2,h3⟩:=KH hQ
   have e1:cnS s=(cnT (Ps.parse bG psR s).1,0):=by unfold cnS;rw[if_pos he]
   rw[e1]at hc
   rw[he]at hp
   have hp2:=λ(W:World) (hW:Below w.heap.size w W)=>Ej env (cnT (Ps.parse bG psR s).1) (by omega) W hW
   rw[h2]at hp2
   exact QD w s _ hs' _ _ _ (by have:=Jf hQ;omega) m1 (Lib.hid hc) (Lib.hid hp) (Lib.hid hp2)
  ·have hi:=λW hW=>yN env hE s (by omega) W hW
   have e1:cnS s=(⟨#[]⟩,(Ps.parse bG psR s).2.2):=by unfold cnS;rw[if_neg he]
   have e2:icS s=false:=by
    unfold icS
    rw[e1]
    show(decide ((Ps.parse bG psR s).2.2=0)&&_)=false
    rw[decide_eq_false he,Bool.false_and]
   rw[e1]at hc
   rw[e2]at hi
   exact pm_bad w s hs' _ _ _ (by simpa using he) m1 (Lib.hid hc) (Lib.hid hp) (Lib.hid hi)
end Go.Proofs.YtnjjeapcalkmaaaGreatDoor
namespace Go.Proofs.YtnjjeapcalkmaaaGreatDoor.lawPrMeaning
open Go.ChangeShapes Go.WideShapes Go.ChangeAt Go.RowKit
theorem own:ownKnob Tryz.prog.godebug=none:=by kernel_rfl
theorem laidOut:laidOutB Tryz.prog=true:=by kernel_rfl
theorem Mk:("strconv.ErrRange",(Rows.laid_strconv_ErrRange:DataW Unit))∈Rows.printerMeaningRow.laid:=by
 unfold Rows.printerMeaningRow
 exact .tail _ (.tail _ (.tail _ (.tail _ ((.head _)))))
theorem Jw:("strconv.ErrSyntax",(Rows.laid_strconv_ErrSyntax:DataW Unit))∈Rows.printerMeaningRow.laid:=by
 unfold Rows.printerMeaningRow
 exact .tail _ (.tail _ (.tail _ (.tail _ (.tail _ ((.head _))))))
theorem memIds:("giro/ident.kinds",(Rows.laid_giro_ident_kinds:DataW Unit))∈Rows.printerMeaningRow.laid:=by
 unfold Rows.printerMeaningRow
 exact .tail _ (.tail _ (.tail _ (.tail _ (.tail _ (.tail _ ((.head _)))))))
theorem memLex:("giro/lexer.kinds",(Rows.laid_giro_lexer_kinds:DataW Unit))∈Rows.printerMeaningRow.laid:=by
 unfold Rows.printerMeaningRow
 exact .tail _ (.tail _ (.tail _ (.tail _ (.tail _ (.tail _ (.tail _ ((.head _))))))))
theorem GM:("giro/message.priorityNames",(Rows.laid_giro_message_priorityNames:DataW Unit))∈Rows.printerMeaningRow.laid:=by
 unfold Rows.printerMeaningRow
 exact .tail _ (.tail _ (.tail _ (.tail _ (.tail _ (.tail _ (.tail _ (.tail _ (.tail _ (.tail _ ((.head _)))))))))))
theorem memPow:("internal/strconv.uint64pow10",(Rows.laid_internal_strconv_uint64pow10:DataW Unit))∈Rows.printerMeaningRow.laid:=by
 unfold Rows.printerMeaningRow
 exact .tail _ (.tail _ ((.head _)))
theorem memKd:("giro/message.kindNames",(Rows.laid_giro_message_kindNames:DataW Unit))∈Rows.printerMeaningRow.laid:=by
 unfold Rows.printerMeaningRow
 exact .tail _ (.tail _ (.tail _ (.tail _ (.tail _ (.tail _ (.tail _ (.tail _ ((.head _)))))))))
theorem memOp:("giro/message.operationNames",(Rows.laid_giro_message_operationNames:DataW Unit))∈Rows.printerMeaningRow.laid:=by
 unfold Rows.printerMeaningRow
 exact .tail _ (.tail _ (.tail _ (.tail _ (.tail _ (.tail _ (.tail _ (.tail _ (.tail _ ((.head _))))))))))
theorem contract (H:Type)(enc:TypeId×Value->H)(W:World)(base:Nat)(args:Array Value)(ds gs:List (DataW H))(before:List MemPlace)
 (hval:∀(j:Nat) t v,Tryz.f9.params[j]? =some t->args[j]? =some v->Value.okWide Tryz.prog W .any base t v)
 (hW:DataW.Whole enc Tryz.prog Tryz.f9.params.toList Rows.printerMeaningSpec.vars false W args.toList ds gs before) (hL:laidMetH Tryz.prog Rows.printerMeaningRow.laid W) (hsh:W.ShapedOpen Tryz.prog):
 Calls Tryz.prog 9 args W λe W'=>∃v,e=.returned v/\Rows.printerMeaningSpec.post enc Tryz.prog Tryz.f9 false true false false W args v W':=by
 have hW':=hW
 obtain⟨p,q,hA0,hV,rfl,hfz,hnd⟩:=hW
 have hA:DataW.TrodAll enc Tryz.prog W 0 (λ_=>true) true Tryz.f9.params.toList args.toList ds p:=hA0
 rw[Tryz.params9]at hA hval
 obtain⟨v0,vs0,d0,ds0,p0,q0,hargs,rfl,rfl,h0,r0⟩:=trodAll_cons hA
 obtain⟨rfl,rfl,rfl⟩:=trodAll_nil r0
 obtain rfl:args=#[v0]:=by cases args;simp_all
 obtain⟨rfl,rfl⟩:=trodVars_none hV
 clear hA0
 simp only[List.append_nil]at hW'
 have hlt:∀x∈p0,x.block<W.heap.size:=λx hx=>by simpa using hW'.lt x hx
 obtain⟨s0,rfl,rfl,rfl,hs0⟩:=Go.ChangeMaps.open_string Tryz.underlying9 (hval 0 9 v0 rfl rfl) h0
 obtain⟨m,DJ⟩:=Tryz.laysM145.s1_3 W hsh
 obtain⟨kb,ko,kc,env⟩:=wK hL memLex memIds GM Mk Jw m DJ
 refine(xH env (uj hL memPow GM memOp memKd) s0 hs0).mono λe W' ⟨he,hb⟩=>?_
 subst he
 have t0:=Below.trod laidOut (by kernel_rfl) (of_decide_eq_true (by kernel_rfl)) h0 hb (λx hx=>by cases hx)
 exact⟨_,rfl,_,_,_,[],_,[],hW',trodAll_cons_mk (shut_bool Tryz.underlying4 _) trodAll_mk0,trodAll_cons_mk t0 trodAll_mk0,rfl,hb.frame _,λh=>by cases h⟩
noncomputable def jh (os:Os):World:=(World.doorLaid Tryz.prog 300 os).layVars Tryz.prog [("unicode/utf8.first",Rows.laid_unicode_utf8_first)]
theorem PN (os:Os):(jh os).os=os:=by unfold jh;rw[World.layVars_os];rfl
theorem Kt (os:Os):laidMetH Tryz.prog Rows.printerMeaningRow.laid ((jh os).forCall (λ_ _=>0) ⟨#[],#[Value.string ⟨#[]⟩],[]⟩).memory:=
 laidMetH_of_parts3 (fuel:=8)
  (laidMet_layVars (w0:=World.doorLaid Tryz.prog 300 os) ["unicode/utf8.first"] ((List.range (World.doorLaid Tryz.prog 300 os).heap.size).filter (· !=7)) (by rfl) (by kernel_rfl) (by kernel_rfl)
   (LaidIn.of_run _ 8 (by kernel_rfl) (by kernel_rfl) (by kernel_rfl) (by kernel_rfl))) (by kernel_rfl) (by kernel_rfl)
theorem reads (os:Os){H:Type}(enc:TypeId×Value->H):∃places,DataW.whole enc Tryz.prog ((jh os).forCall (λ_ _=>0) ⟨#[],#[Value.string ⟨#[]⟩],[]⟩).memory Tryz.f9.params.toList Rows.printerMeaningSpec.vars false #[Value.string ⟨#[]⟩].toList 8=some ([.lit (.string [])],[],places):=
 ⟨[],by kernel_rfl⟩
theorem lifted (os:Os)(started:os.Started)(H:Type)(enc:TypeId×Value->H)(F:Stop.Interp):
 ReturnsInHanded {} Tryz.checked os 9 .any ((OpenSpec.ofChange Rows.printerMeaningSpec).preRow enc Tryz.prog Tryz.f9 Rows.printerMeaningRow.domain false Rows.printerMeaningRow.laid) (((OpenSpec.ofChange Rows.printerMeaningSpec).at F).post enc Tryz.prog Tryz.f9 false true false false):=by
 obtain⟨places,hx⟩:=reads os enc
 refine returnsInHanded_of_row (C:=Tryz.checked) (s:=OpenSpec.ofChange Rows.printerMeaningSpec) own started (by kernel_rfl) Tryz.func9
  (witness_row_atRef (enc:=enc) (C:=Tryz.checked) false (jh os) #[Value.string ⟨#[]⟩] (PN os) (by kernel_rfl) (by kernel_rfl) (by kernel_rfl)
   (OpenSpec.preRow_of_cond 8 hx (by kernel_rfl) (λk hk=>by cases hk) (by kernel_rfl) (Kt os))) ?_
 intro W base args ds gs before hval hW _ _ _ hL hsh _
 exact contract H enc W base args ds gs before hval hW hL hsh
theorem said:Rows.PrinterMeaningSaid:=
 OpenClaim.holds_of_cond 9 Tryz.f9 rfl rfl rfl rfl rfl rfl rfl ⟨rfl,rfl,rfl,rfl,rfl⟩ rfl rfl rfl rfl rfl (by kernel_rfl) Tryz.func9 facts
  (of_decide_eq_true (by kernel_rfl)) (by unfold Func.isWrapper;first|(rw[if_pos (by decide +kernel)];kernel_rfl)|(rw[if_neg (by decide +kernel)];exact⟨rfl,rfl⟩))
  (λos started H enc _ F=>by rw[OpenClaim.pre_eq_preRow];exact lifted os started H enc F)
theorem plain (f:FuncId)(fn:Func)(hf:Tryz.pinned.checked.prog.funcNamed "giro/girolaw20.PrinterMeaning"=some f)(hfn:Tryz.pinned.checked.prog.funcs[f]? =some fn):
 true=Tryz.pinned.checked.prog.looks []/\∀(j:Nat) t,fn.params[j]? =some t->Tryz.pinned.checked.prog.wantsStandIn t=false:=by
 obtain rfl:f=9:=Option.some.inj ((show Tryz.prog.funcNamed "giro/girolaw20.PrinterMeaning"=some 9 by kernel_rfl).symm.trans hf)|>.symm
 obtain rfl:fn=Tryz.f9:=(Option.some.inj (Tryz.func9.symm.trans hfn)).symm
 refine⟨by kernel_rfl,λj t ht=>?_⟩
 rw[Tryz.params9]at ht
 have hm:=Array.mem_of_getElem? ht
 simp at hm
 subst hm
 exact(show Tryz.prog.wantsStandIn 9=false by kernel_rfl)
theorem card:Rows.PrinterMeaningCardSaid:=
 Claim7.holds_tied_plain_at .later [] _ _ _ _ said (λ_ h=>by cases h) (by kernel_rfl) (λ_ h=>by cases h) printerMeaning_row_tie rfl ⟨rfl,rfl⟩ (by kernel_rfl) rfl plain (by kernel_rfl)
#print axioms card
end Go.Proofs.YtnjjeapcalkmaaaGreatDoor.lawPrMeaning
