/-
  Part 8 of a proof; written short by a program out of longer texts of mine.
-/
import Derived.Test.YtnjjeapcalkmaaaGreatDoorPiG
set_option maxRecDepth 100000
set_option maxHeartbeats 4000000
set_option linter.unusedVariables false
set_option linter.unusedSimpArgs false
namespace Go.Proofs.YtnjjeapcalkmaaaGreatDoor
open Go Go.RowKit Go.Proofs.YtnjjeapcalkmaaaGreatDoor.Ord
open Go.Proofs.YtnjjeapcalkmaaaGreatDoor.Se
def opN:List ByteArray:=[⟨#[115,117,98,109,105,116]⟩,⟨#[97,109,101,110,100]⟩,⟨#[99,97,110,99,101,108]⟩,⟨#[104,111,108,100]⟩,⟨#[114,101,115,117,109,101]⟩]
def kdN:List ByteArray:=[⟨#[112,97,121,109,101,110,116]⟩,⟨#[100,118,112]⟩,⟨#[102,114,101,101]⟩,⟨#[112,108,101,100,103,101]⟩,⟨#[114,101,108,101,97,115,101]⟩]
def CL (w:World):Prop:=∀(j:Nat) (s:ByteArray),opN[j]? =some s->w.cell? ⟨0,j,none⟩=some (.string s)
def BP (w:World):Prop:=∀(j:Nat) (s:ByteArray),kdN[j]? =some s->w.cell? ⟨2,j,none⟩=some (.string s)
theorem CP (w:World)(g j n:Nat)(s:ByteArray)(h0:¬(j:Int)<0)(h1:¬(n:Int)<=(j:Int))(h2:(j:Int)<(n:Int))(_hj:j<n)(hc:w.cell? ⟨g,j,none⟩=some (.string s)):
 Calls Tryz.prog 127 #[.slice (some ⟨g,0,none⟩) n n,.int .i64 j] w λe w'=>e=.returned (.string s)/\w=w':=by
 go_enter Tryz.func127,Tryz.ntmps127
 go_wp2_with fail
 go_ret
 exact⟨rfl,rfl⟩
theorem G6 (w:World)(j:Nat)(s:ByteArray)(n1:Calls Tryz.prog 127 #[.slice (some ⟨0,0,none⟩) 5 5,.int .i64 j] w λe w'=>e=.returned (.string s)/\w=w'):
 Calls Tryz.prog 67 #[.int .i64 j] w λe w'=>e=.returned (.string s)/\w=w':=by
 go_enter Tryz.func67,Tryz.ntmps67
 go_wp2_with fail
 refine n1.mono ?_
 rintro e w1 ⟨rfl,rfl⟩
 clear n1
 go_wp2_with fail
 go_ret
 exact⟨rfl,rfl⟩
theorem G8 (w:World)(j:Nat)(s:ByteArray)(n1:Calls Tryz.prog 127 #[.slice (some ⟨2,0,none⟩) 5 5,.int .i64 j] w λe w'=>e=.returned (.string s)/\w=w'):
 Calls Tryz.prog 124 #[.int .i64 j] w λe w'=>e=.returned (.string s)/\w=w':=by
 go_enter Tryz.func124,Tryz.ntmps124
 go_wp2_with fail
 refine n1.mono ?_
 rintro e w1 ⟨rfl,rfl⟩
 clear n1
 go_wp2_with fail
 go_ret
 exact⟨rfl,rfl⟩
theorem jJ (w:World)(h:CL w)(j:Nat)(s:ByteArray)(hj:opN[j]? =some s):Calls Tryz.prog 67 #[.int .i64 j] w λe w'=>e=.returned (.string s)/\w=w':=by
 have hl:j<5:=(List.getElem?_eq_some_iff.1 hj).1
 exact G6 w j s (CP w _ j 5 s (by omega) (by omega) (by omega) hl (h j s hj))
theorem rO (w:World)(h:BP w)(j:Nat)(s:ByteArray)(hj:kdN[j]? =some s):Calls Tryz.prog 124 #[.int .i64 j] w λe w'=>e=.returned (.string s)/\w=w':=by
 have hl:j<5:=(List.getElem?_eq_some_iff.1 hj).1
 exact G8 w j s (CP w _ j 5 s (by omega) (by omega) (by omega) hl (h j s hj))
structure iM (W0:World):Prop where
 tab:∀w,Below W0.heap.size W0 w->xW w
 pr:∀w,Below W0.heap.size W0 w->rQ w
 op:∀w,Below W0.heap.size W0 w->CL w
 kd:∀w,Below W0.heap.size W0 w->BP w
theorem iM.below {W0 w:World}(h:iM W0)(hb:Below W0.heap.size W0 w):iM w:=
 ⟨λw' hw'=>h.tab w' (hb.trans (hw'.mono hb.size)),λw' hw'=>h.pr w' (hb.trans (hw'.mono hb.size)),λw' hw'=>h.op w' (hb.trans (hw'.mono hb.size)),λw' hw'=>h.kd w' (hb.trans (hw'.mono hb.size))⟩
def CW (W0:World)(f:FuncId)(q:Int)(n:Nat)(x:ByteArray):Prop:=(∀w,Below W0.heap.size W0 w->vo f #[.int .i64 q] w x)/\x.size<=n
theorem mP {W0:World}(hE:iM W0){q:Int}(h:0<=q/\q<=Ps.bM):CW W0 125 q 20 (Ps.dX q):=by
 have h2:=h.2
 unfold Ps.bM at h2
 obtain⟨n,rfl⟩:∃n:Nat,q=n:=⟨q.toNat,by omega⟩
 exact⟨λw hw=>JK n (by omega) w (hE.tab w hw),Di n (by omega)⟩
theorem zy {W0:World}(hE:iM W0){q:Int}(h:0<=q/\q<=Ps.bM):CW W0 121 q 20 (Ps.bS q):=by
 have h2:=h.2
 unfold Ps.bM at h2
 obtain⟨n,rfl⟩:∃n:Nat,q=n:=⟨q.toNat,by omega⟩
 exact⟨λw hw=>NY n (by omega) w (hE.tab w hw),by have:=Ps.iV h.2;omega⟩
theorem zi {W0:World}{q:Int}(h:0<=q/\q<=Ps.bV):CW W0 122 q 10 (Ps.bA q):=⟨λw _=>fd_day q h.1 h.2 w,qU q h.1 h.2⟩
theorem kD:∀args w,(callFunc 125 args).run Tryz.prog w=.ok (.enter 125 args) w:=enters_of Tryz.func125 (by kernel_rfl) rfl
theorem qY:∀args w,(callFunc 121 args).run Tryz.prog w=.ok (.enter 121 args) w:=enters_of Tryz.func121 (by kernel_rfl) rfl
theorem lN:∀args w,(callFunc 122 args).run Tryz.prog w=.ok (.enter 122 args) w:=enters_of Tryz.func122 (by kernel_rfl) rfl
theorem Bn:∀args w,(callFunc 128 args).run Tryz.prog w=.ok (.enter 128 args) w:=enters_of Tryz.func128 (by kernel_rfl) rfl
theorem Nv:∀args w,(callFunc 124 args).run Tryz.prog w=.ok (.enter 124 args) w:=enters_of Tryz.func124 (by kernel_rfl) rfl
theorem F6:∀args w,(callFunc 67 args).run Tryz.prog w=.ok (.enter 67 args) w:=enters_of Tryz.func67 (by kernel_rfl) rfl
theorem Pk:∀args w,(callFunc 195 args).run Tryz.prog w=.ok (.enter 195 args) w:=enters_of Tryz.func195 (by kernel_rfl) rfl
theorem GK {W0:World}(hE:iM W0){p:Int}(h:0<=p/\p<=2):CW W0 128 p 10 (Ps.bw (Ps.fB p)):=by
 refine⟨λw hw=>?_,?_⟩
 ·obtain⟨j,rfl⟩:∃j:Nat,p=j:=⟨p.toNat,by omega⟩
  have hj:prN[j]? =some (Ps.bw (Ps.fB (j:Int))):=by
   have h3:j=0\/j=1\/j=2:=by omega
   rcases h3 with rfl|rfl|rfl<;>rfl
  exact(ma w (hE.pr w hw) j _ hj).mono λe w' ⟨h1,h2⟩=>⟨h1,h2▸Below.refl _ _⟩
 ·have h3:p=0\/p=1\/p=2:=by omega
  rcases h3 with rfl|rfl|rfl<;>decide
theorem AY (w:World):vo 195 #[.int .i64 0] w (Ps.bw Ps.eU):=by
 unfold vo
 go_enter Tryz.func195,Tryz.ntmps195
 go_wp2_with fail
 go_ret
 exact⟨rfl,Below.refl _ _⟩
theorem zY (w:World):vo 195 #[.int .i64 1] w (Ps.bw Ps.bu):=by
 unfold vo
 go_enter Tryz.func195,Tryz.ntmps195
 go_wp2_with fail
 go_ret
 exact⟨rfl,Below.refl _ _⟩
theorem Kr {W0:World}{p:Int}(h:p=0\/p=1):CW W0 195 p 5 (Ps.bw (if p=0 then Ps.eU else Ps.bu)):=by
 rcases h with rfl|rfl
 ·exact⟨λw _=>AY w,by decide⟩
 ·exact⟨λw _=>zY w,by decide⟩
theorem spW {B:Nat}{W:World}{cell:Nat->Nat->Value}{f:FuncId}{u:PV}{q:Int}{n:Nat}{x:ByteArray}(he:∀args w,(callFunc f args).run Tryz.prog w=.ok (.enter f args) w)(hu:jr cell u=some (.int .i64 q))(hB:B=W.heap.size)(h:CW W f q n x):ai B W cell f [u] (.str n x):=ol he hu (λw hw=>h.1 w (hB▸hw)) h.2
open Go Go.ChangeShapes Go.WideShapes Go.ChangeAt Go.RowKit
theorem opn_g:Tryz.prog.globalNamed "giro/message.operationNames"=some 0:=by kernel_rfl
theorem opn_t:(Tryz.prog.globals[0]?).map (·.type)=some 165:=by kernel_rfl
theorem Pz {l:List (String×DataW Unit)}{W:World}(h:laidMetH Tryz.prog l W)(hx:("giro/message.operationNames",(Rows.laid_giro_message_operationNames:DataW Unit))∈l):CL W:=by
 obtain⟨g',t',cs,fuel,p,hg',ht',hv,hd⟩:=mQ h hx rfl
 obtain rfl:=Option.some.inj (opn_g.symm.trans hg')
 obtain rfl:=Option.some.inj (opn_t.symm.trans ht')
 have hd':DataW.trod _ Tryz.prog W 0 (λ_=>true) false fuel 165 cs.toList=some (.agg [.lit (.string [115,117,98,109,105,116]),.lit (.string [97,109,101,110,100]),.lit (.string [99,97,110,99,101,108]),.lit (.string [104,111,108,100]),.lit (.string [114,101,115,117,109,101])],p):=hd
 obtain⟨xs,m,_,hx,_,hxl,hall⟩:=DataW.trod_array Tryz.underlying165 hd'
 simp only[Prod.mk.injEq,DataW.agg.injEq]at hx
 obtain⟨hx,_⟩:=hx
 intro j s hj
 have Af:j<5:=by have:=(List.getElem?_eq_some_iff.1 hj).1;simpa[opN]using this
 have hrow:=hall j Af
 rw[LV,Nat.mul_one]at hrow
 have hxk:(xs.map (·.1))[j]? =some (.lit (.string s.data.toList)):=by
  rw[<-hx]
  match j,Af,hj with
  |0,_,hj=>cases hj;rfl
  |1,_,hj=>cases hj;rfl
  |2,_,hj=>cases hj;rfl
  |3,_,hj=>cases hj;rfl
  |4,_,hj=>cases hj;rfl
 rw[List.getElem?_map,Option.map_eq_some_iff]at hxk
 obtain⟨⟨d,q⟩,hq,Lf⟩:=hxk
 simp only at Lf
 subst Lf
 rw[hq]at hrow
 obtain⟨s',hs',hx',_⟩:=DataW.trod_string Tryz.underlying9 hrow
 simp only[Prod.mk.injEq,DataW.lit.injEq,Lit.string.injEq]at hx'
 have hss:s=s':=by
  have:=hx'.1
  obtain⟨⟨a⟩⟩:=s
  obtain⟨⟨b⟩⟩:=s'
  have:a=b:=this
  rw[this]
 subst hss
 rw[World.var?_cell hg' hv,<-Array.getElem?_toList]
 have:((cs.toList.drop j).take 1)[0]? =some (.string s):=by rw[hs'];rfl
 rw[List.getElem?_take,if_pos (by omega),List.getElem?_drop,Nat.add_zero]at this
 exact this
theorem JS {W w:World}(h:CL W)(hb:Below W.heap.size W w):CL w:=λj s hj=>
 (hb.cell (World.block_lt_of_cell? W _ (h j s hj))).trans (h j s hj)
theorem kdn_g:Tryz.prog.globalNamed "giro/message.kindNames"=some 2:=by kernel_rfl
theorem kdn_t:(Tryz.prog.globals[2]?).map (·.type)=some 165:=by kernel_rfl
theorem OJ {l:List (String×DataW Unit)}{W:World}(h:laidMetH Tryz.prog l W)(hx:("giro/message.kindNames",(Rows.laid_giro_message_kindNames:DataW Unit))∈l):BP W:=by
 obtain⟨g',t',cs,fuel,p,hg',ht',hv,hd⟩:=mQ h hx rfl
 obtain rfl:=Option.some.inj (kdn_g.symm.trans hg')
 obtain rfl:=Option.some.inj (kdn_t.symm.trans ht')
 have hd':DataW.trod _ Tryz.prog W 0 (λ_=>true) false fuel 165 cs.toList=some (.agg [.lit (.string [112,97,121,109,101,110,116]),.lit (.string [100,118,112]),.lit (.string [102,114,101,101]),.lit (.string [112,108,101,100,103,101]),.lit (.string [114,101,108,101,97,115,101])],p):=hd
 obtain⟨xs,m,_,hx,_,hxl,hall⟩:=DataW.trod_array Tryz.underlying165 hd'
 simp only[Prod.mk.injEq,DataW.agg.injEq]at hx
 obtain⟨hx,_⟩:=hx
 intro j s hj
 have Af:j<5:=by have:=(List.getElem?_eq_some_iff.1 hj).1;simpa[kdN]using this
 have hrow:=hall j Af
 rw[LV,Nat.mul_one]at hrow
 have hxk:(xs.map (·.1))[j]? =some (.lit (.string s.data.toList)):=by
  rw[<-hx]
  match j,Af,hj with
  |0,_,hj=>cases hj;rfl
  |1,_,hj=>cases hj;rfl
  |2,_,hj=>cases hj;rfl
  |3,_,hj=>cases hj;rfl
  |4,_,hj=>cases hj;rfl
 rw[List.getElem?_map,Option.map_eq_some_iff]at hxk
 obtain⟨⟨d,q⟩,hq,Lf⟩:=hxk
 simp only at Lf
 subst Lf
 rw[hq]at hrow
 obtain⟨s',hs',hx',_⟩:=DataW.trod_string Tryz.underlying9 hrow
 simp only[Prod.mk.injEq,DataW.lit.injEq,Lit.string.injEq]at hx'
 have hss:s=s':=by
  have:=hx'.1
  obtain⟨⟨a⟩⟩:=s
  obtain⟨⟨b⟩⟩:=s'
  have:a=b:=this
  rw[this]
 subst hss
 rw[World.var?_cell hg' hv,<-Array.getElem?_toList]
 have:((cs.toList.drop j).take 1)[0]? =some (.string s):=by rw[hs'];rfl
 rw[List.getElem?_take,if_pos (by omega),List.getElem?_drop,Nat.add_zero]at this
 exact this
theorem Ia {W w:World}(h:BP W)(hb:Below W.heap.size W w):BP w:=λj s hj=>
 (hb.cell (World.block_lt_of_cell? W _ (h j s hj))).trans (h j s hj)
theorem wI {l:List (String×DataW Unit)}{W:World}(h:laidMetH Tryz.prog l W)(h1:("internal/strconv.uint64pow10",(Rows.laid_internal_strconv_uint64pow10:DataW Unit))∈l)(h2:("giro/message.priorityNames",(Rows.laid_giro_message_priorityNames:DataW Unit))∈l)(h3:("giro/message.operationNames",(Rows.laid_giro_message_operationNames:DataW Unit))∈l)(h4:("giro/message.kindNames",(Rows.laid_giro_message_kindNames:DataW Unit))∈l):iM W:=
 ⟨λw hb=>NF (Mt h h1) hb,λw hb=>BR (kX h h2) hb,λw hb=>JS (Pz h h3) hb,λw hb=>Ia (OJ h h4) hb⟩
open Go.RowKit
end Go.Proofs.YtnjjeapcalkmaaaGreatDoor
namespace Go.Proofs.YtnjjeapcalkmaaaGreatDoor.Lx
open Go
end Go.Proofs.YtnjjeapcalkmaaaGreatDoor.Lx
namespace Go.Proofs.YtnjjeapcalkmaaaGreatDoor
open Go.RowKit
open Go
open Go.Proofs.YtnjjeapcalkmaaaGreatDoor.Ord
section
variable (x y : Operand) (n m : Int) (w : World)
theorem cm_lt3:(do eqGuard .lss 3 x y (.int .i64 n) (.int .i64 m);binOp .lss 3 (.int .i64 n) (.int .i64 m):Sem Value).run Tryz.prog w=.ok (.bool (decide (n<m))) w:=by go_simp
end
open Go.Proofs.YtnjjeapcalkmaaaGreatDoor.Ev (AV Mem Fr oJ)
open Go.Proofs.YtnjjeapcalkmaaaGreatDoor.Ev (AV Mem Fr oJ az iX Sh Stop Qof ah dw bH jA nQ fmC)
def Sz (s:ByteArray):Prop:=s.size<=9223372036854775807
def mY (i:Ps.Ins):Prop:=Sz i.ref/\Sz i.sender/\Sz i.counterparty/\Sz i.asset/\∀x∈i.links,Sz x.ref
theorem ld_slL (p:Addr)(w:World)(a:Option Addr)(n c:Nat)(h:w.cell? p=some (.slice a n c)):(Instr.loadAt 22 (.pointer (some p))).run Tryz.prog w=.ok (.slice a n c) w:=by go_simp
def Az (w:World)(g so:Nat)(ks:List Ps.Link):Prop:=∀(j:Nat) (x:Ps.Link),ks[j]? =some x->w.cell? ⟨g,so+j*2,none⟩=some (.int .i64 x.type)/\w.cell? ⟨g,so+j*2+1,none⟩=some (.string x.ref)
theorem Az.of {w:World}{g:Nat}{ks:List Ps.Link}(h:jX w g ks):Az w g 0 ks:=λj x hj=>by
 rw[Nat.zero_add]
 exact h j x hj
def fq (w:World)(sa:Option Addr)(n:Nat)(ks:List Ps.Link):Prop:=0<n->∃sb so,sa=some ⟨sb,so,none⟩/\∀W,Below w.heap.size w W->Az W sb so ks
theorem fq.of {w:World}{sa:Option Addr}{n:Nat}{ks:List Ps.Link}(h:0<n->∃sb,sa=some ⟨sb,0,none⟩/\∀W,Below w.heap.size w W->jX W sb ks):fq w sa n ks:=λhn=>by
 obtain⟨sb,e,h⟩:=h hn
 exact⟨sb,0,e,λW hW=>.of (h W hW)⟩
theorem fq.below {w w':World}{sa:Option Addr}{n:Nat}{ks:List Ps.Link}(h:fq w sa n ks)(hb:Below w.heap.size w w'):fq w' sa n ks:=λhn=>by
 obtain⟨sb,so,e,h⟩:=h hn
 exact⟨sb,so,e,λW hW=>h W (hb.trans (hW.mono hb.size))⟩
theorem Jo {S:World->Prop}{ρ:Operand->Value}{o:Oper}{x y:Operand}{sb so n c k:Nat}(ho:o.op=.indexAddr 22 x y)(h1:ρ x=.slice (some ⟨sb,so,none⟩) n c)(h2:ρ y=.int .i64 (k:Int))(hk:k<n):YB Tryz.prog S ρ o (.pointer (some ⟨sb,so+k*2,none⟩)):=λw hS=>by
 have hkI:(k:Int)<(n:Int):=by omega
 unfold execOp
 simp only[ho,h1,h2]
 go_simp
 exact⟨rfl,hS⟩
theorem Np {b:Act}{t:Nat}{v:Value}(hlt:t<b.tmps.size)(h:b.eval (.tmp t)=v):b.tmps[t]? =some v:=Ev.QE hlt h
open Go Go.RowKit Go.Proofs.YtnjjeapcalkmaaaGreatDoor.Ord
open Go.ChangeShapes Go.WideShapes Go.Deep
section
variable {H : Type} {enc : TypeId × Value → H} {W : World} {n : Nat} {t : TypeId} {v : Value} {x : DataW H × List MemPlace} {sp : Nat → Bool}
theorem jG (ht:Tryz.prog.underlying t=some (.int .i64))(h:DataW.trod enc Tryz.prog W 0 sp true n t [v]=some x):∃z,v=.int .i64 z:=by
 obtain⟨z,h1,_⟩:=DataW.trod_int ht h
 exact⟨z,by simpa using h1⟩
theorem ku (ht:Tryz.prog.underlying t=some .bool)(h:DataW.trod enc Tryz.prog W 0 sp true n t [v]=some x):∃z,v=.bool z:=by
 obtain⟨z,h1,_⟩:=DataW.trod_bool ht h
 exact⟨z,by simpa using h1⟩
theorem uV (ht:Tryz.prog.underlying t=some .string)(h:DataW.trod enc Tryz.prog W 0 sp true n t [v]=some x):∃z:ByteArray,v=.string z/\z.size<=maxLen:=by
 obtain⟨z,h1,_,h2⟩:=DataW.trod_string ht h
 exact⟨z,by simpa using h1,h2⟩
theorem dQ {l:List Value}{b m o:Nat}(h:o<m)(hl:b+m<=l.length):(((l.drop b).take m).drop o).take 1=[l.getD (b+o) undef]:=by
 have h1:o<((l.drop b).take m).length:=by simp;omega
 rw[take1_drop _ _ undef h1]
 congr 1
 rw[List.getD_eq_getElem?_getD,List.getD_eq_getElem?_getD,List.getElem?_take,if_pos h,List.getElem?_drop]
theorem bD {α:Type}{l:List α}{i m:Nat}(h:l.length=m)(hi:i<m):∃y,l[i]? =some y:=⟨_,List.getElem?_eq_getElem (h▸hi)⟩
theorem Pf (h:DataW.trod enc Tryz.prog W 0 (λ_=>true) true n 22 [v]=some x):∃(sa:Option Addr) (sc:Nat) (ks:List Ps.Link),v=.slice sa ks.length sc/\ks.length<=maxLen/\(∀k∈ks,k.ref.size<=maxLen)/\fq W sa ks.length ks:=by
 rcases open_slice_pairs Tryz.underlying22 Tryz.underlying91 (by kernel_rfl) rfl rfl (by kernel_rfl) (by kernel_rfl) h with⟨h1,_⟩|⟨a,len,cap,m,n',V0,V1,D0,D1,P0,P1,h1,_,hl,hm,hmm,_,hx⟩
 ·have h1:v=.slice none 0 0:=by simpa using h1
  exact⟨none,0,[],h1,Nat.zero_le _,λk hk=>(by cases hk),λh0=>absurd h0 (Nat.lt_irrefl 0)⟩
 have h1:v=.slice (some a) len cap:=by simpa using h1
 simp only[if_true]at hmm
 have each:∀i,i<len->∃k:Ps.Link,V0 i=.int .i64 k.type/\V1 i=.string k.ref/\k.ref.size<=maxLen:=λi hi=>by
  obtain⟨_,_,h3,h4⟩:=hx i (by omega)
  obtain⟨z,hz⟩:=jG (by kernel_rfl) h3
  obtain⟨s,hs,hs2⟩:=uV (by kernel_rfl) h4
  exact⟨⟨z,s⟩,hz,hs,hs2⟩
 have:Inhabited Ps.Link:=⟨⟨0,⟨#[]⟩⟩⟩
 obtain⟨K,hK⟩:=choose_lt each
 refine⟨some a,cap,(List.range len).map K,by rw[h1];simp,by simp;omega,λk hk=>?_,λh0=>?_⟩
 ·obtain⟨i,hi,rfl⟩:=List.mem_map.1 hk
  exact(hK i (List.mem_range.1 hi)).2.2
 ·have h0:0<len:=by simpa using h0
  obtain⟨b,o,spot⟩:=a
  have c0:=(hx 0 (by omega)).1
  have hspot:spot=none:=by simpa[Addr.add]using World.cell?_spot c0
  subst hspot
  refine⟨b,o,rfl,λW' hW j k hj=>?_⟩
  have hlt:j<len:=by have:=(List.getElem?_eq_some_iff.1 hj).1;simpa using this
  have hk:k=K j:=by
   rw[List.getElem?_map,List.getElem?_range hlt]at hj
   exact(Option.some.inj hj).symm
  subst hk
  obtain⟨g0,g1,_,_⟩:=hx j (by omega)
  obtain⟨e0,e1,_⟩:=hK j hlt
  rw[e0]at g0
  rw[e1]at g1
  have a0:(⟨b,o,none⟩:Addr).add (j*2)=⟨b,o+j*2,none⟩:=add_plain _ _ _
  have a1:(⟨b,o,none⟩:Addr).add (j*2+1)=⟨b,o+j*2+1,none⟩:=by rw[add_plain];rfl
  rw[a0]at g0
  rw[a1]at g1
  exact⟨(hW.cell (World.block_lt_of_cell? W _ g0)).trans g0,(hW.cell (World.block_lt_of_cell? W _ g1)).trans g1⟩
theorem KS {d:DataW H}{p:List MemPlace}(h:DataW.Trod enc Tryz.prog W 0 (λ_=>true) true 28 v d p):∃(Q:Ps.Req) (sa:Option Addr) (sc:Nat),v=.agg (aA Q (.slice sa Q.ins.links.length sc))/\mY Q.ins/\Sz Q.sender/\Sz Q.ref/\Q.ins.links.length<=maxLen/\fq W sa Q.ins.links.length Q.ins.links:=by
 obtain⟨fuel,hf⟩:=h
 obtain⟨xs,k,-,-,hlen,hxl,hF⟩:=DataW.trod_struct Tryz.underlying28 hf
 have hc:Tryz.prog.cellsOf 28=28:=by kernel_rfl
 rw[hc]at hlen
 obtain⟨arr,rfl⟩:∃arr,v=.agg arr:=by
  cases v<;>first|exact⟨_,rfl⟩|(simp[Value.cells]at hlen)
 have hlen:arr.toList.length=28:=hlen
 have hF:∀(i:Nat) (f:Field),_->DataW.trod enc Tryz.prog W 0 (λ_=>true) true k f.type ((arr.toList.drop f.offset).take (Tryz.prog.cellsOf f.type))=xs[i]?:=hF
 obtain⟨l,rfl⟩:∃l:List Value,arr=l.toArray:=⟨arr.toList,by simp⟩
 rw[List.toList_toArray]at hlen
 simp only[List.toList_toArray]at hF
 obtain⟨yQop,hyQop⟩:=bD hxl (i:=0) (by decide)
 have gQop:DataW.trod enc Tryz.prog W 0 (λ_=>true) true _ _ [l.getD 0 undef]=some yQop:=((congrArg _ (take1_drop l 0 undef (by omega)).symm).trans (hF 0 _ rfl)).trans hyQop
 obtain⟨vQop,eQop⟩:=jG (by kernel_rfl) gQop
 obtain⟨yQsender,IB⟩:=bD hxl (i:=1) (by decide)
 have gQsender:DataW.trod enc Tryz.prog W 0 (λ_=>true) true _ _ [l.getD 1 undef]=some yQsender:=((congrArg _ (take1_drop l 1 undef (by omega)).symm).trans (hF 1 _ rfl)).trans IB
 obtain⟨vQsender,eQsender,zQsender⟩:=uV (by kernel_rfl) gQsender
 obtain⟨yQref,hyQref⟩:=bD hxl (i:=2) (by decide)
 have gQref:DataW.trod enc Tryz.prog W 0 (λ_=>true) true _ _ [l.getD 2 undef]=some yQref:=((congrArg _ (take1_drop l 2 undef (by omega)).symm).trans (hF 2 _ rfl)).trans hyQref
 obtain⟨vQref,eQref,zQref⟩:=uV (by kernel_rfl) gQref
 obtain⟨yI,hyI⟩:=bD hxl (i:=3) (by decide)
 have gI:DataW.trod enc Tryz.prog W 0 (λ_=>true) true k 24 ((l.drop 3).take 16)=some yI:=(hF 3 _ rfl).trans hyI
 obtain⟨xsI,kI,-,-,-,mW,Cv⟩:=DataW.trod_struct Tryz.underlying24 gI
 obtain⟨yIref,hyIref⟩:=bD mW (i:=0) (by decide)
 have gIref:DataW.trod enc Tryz.prog W 0 (λ_=>true) true _ _ [l.getD (3+0) undef]=some yIref:=((congrArg _ (dQ (l:=l) (b:=3) (m:=16) (o:=0) (by decide) (by omega)).symm).trans (Cv 0 _ rfl)).trans hyIref
 obtain⟨vIref,eIref,zIref⟩:=uV (by kernel_rfl) gIref
 obtain⟨yIkind,Ow⟩:=bD mW (i:=1) (by decide)
 have gIkind:DataW.trod enc Tryz.prog W 0 (λ_=>true) true _ _ [l.getD (3+1) undef]=some yIkind:=((congrArg _ (dQ (l:=l) (b:=3) (m:=16) (o:=1) (by decide) (by omega)).symm).trans (Cv 1 _ rfl)).trans Ow
 obtain⟨vIkind,eIkind⟩:=jG (by kernel_rfl) gIkind
 obtain⟨yIsender,Ij⟩:=bD mW (i:=2) (by decide)
 have gIsender:DataW.trod enc Tryz.prog W 0 (λ_=>true) true _ _ [l.getD (3+2) undef]=some yIsender:=((congrArg _ (dQ (l:=l) (b:=3) (m:=16) (o:=2) (by decide) (by omega)).symm).trans (Cv 2 _ rfl)).trans Ij
 obtain⟨vIsender,eIsender,zIsender⟩:=uV (by kernel_rfl) gIsender
 obtain⟨yIcounterparty,sV⟩:=bD mW (i:=3) (by decide)
 have gIcounterparty:DataW.trod enc Tryz.prog W 0 (λ_=>true) true _ _ [l.getD (3+3) undef]=some yIcounterparty:=((congrArg _ (dQ (l:=l) (b:=3) (m:=16) (o:=3) (by decide) (by omega)).symm).trans (Cv 3 _ rfl)).trans sV
 obtain⟨vIcounterparty,eIcounterparty,zIcounterparty⟩:=uV (by kernel_rfl) gIcounterparty
 obtain⟨yIside,Nk⟩:=bD mW (i:=4) (by decide)
 have gIside:DataW.trod enc Tryz.prog W 0 (λ_=>true) true _ _ [l.getD (3+4) undef]=some yIside:=((congrArg _ (dQ (l:=l) (b:=3) (m:=16) (o:=4) (by decide) (by omega)).symm).trans (Cv 4 _ rfl)).trans Nk
 obtain⟨vIside,eIside⟩:=jG (by kernel_rfl) gIside
 obtain⟨yIasset,Kj⟩:=bD mW (i:=5) (by decide)
 have gIasset:DataW.trod enc Tryz.prog W 0 (λ_=>true) true _ _ [l.getD (3+5) undef]=some yIasset:=((congrArg _ (dQ (l:=l) (b:=3) (m:=16) (o:=5) (by decide) (by omega)).symm).trans (Cv 5 _ rfl)).trans Kj
 obtain⟨vIasset,eIasset,zIasset⟩:=uV (by kernel_rfl) gIasset
 obtain⟨yIquantity,Ci⟩:=bD mW (i:=6) (by decide)
 have gIquantity:DataW.trod enc Tryz.prog W 0 (λ_=>true) true _ _ [l.getD (3+6) undef]=some yIquantity:=((congrArg _ (dQ (l:=l) (b:=3) (m:=16) (o:=6) (by decide) (by omega)).symm).trans (Cv 6 _ rfl)).trans Ci
 obtain⟨vIquantity,eIquantity⟩:=jG (by kernel_rfl) gIquantity
 obtain⟨yIamount,Ho⟩:=bD mW (i:=7) (by decide)
 have gIamount:DataW.trod enc Tryz.prog W 0 (λ_=>true) true _ _ [l.getD (3+7) undef]=some yIamount:=((congrArg _ (dQ (l:=l) (b:=3) (m:=16) (o:=7) (by decide) (by omega)).symm).trans (Cv 7 _ rfl)).trans Ho
 obtain⟨vIamount,eIamount⟩:=jG (by kernel_rfl) gIamount
 obtain⟨yItradeDay,Br⟩:=bD mW (i:=8) (by decide)
 have gItradeDay:DataW.trod enc Tryz.prog W 0 (λ_=>true) true _ _ [l.getD (3+8) undef]=some yItradeDay:=((congrArg _ (dQ (l:=l) (b:=3) (m:=16) (o:=8) (by decide) (by omega)).symm).trans (Cv 8 _ rfl)).trans Br
 obtain⟨vItradeDay,eItradeDay⟩:=jG (by kernel_rfl) gItradeDay
 obtain⟨yIsettleDay,AL⟩:=bD mW (i:=9) (by decide)
 have gIsettleDay:DataW.trod enc Tryz.prog W 0 (λ_=>true) true _ _ [l.getD (3+9) undef]=some yIsettleDay:=((congrArg _ (dQ (l:=l) (b:=3) (m:=16) (o:=9) (by decide) (by omega)).symm).trans (Cv 9 _ rfl)).trans AL
 obtain⟨vIsettleDay,eIsettleDay⟩:=jG (by kernel_rfl) gIsettleDay
 obtain⟨yIpriority,CK⟩:=bD mW (i:=10) (by decide)
 have gIpriority:DataW.trod enc Tryz.prog W 0 (λ_=>true) true _ _ [l.getD (3+10) undef]=some yIpriority:=((congrArg _ (dQ (l:=l) (b:=3) (m:=16) (o:=10) (by decide) (by omega)).symm).trans (Cv 10 _ rfl)).trans CK
 obtain⟨vIpriority,eIpriority⟩:=jG (by kernel_rfl) gIpriority
 obtain⟨yIpartial_,hyIpartial_⟩:=bD mW (i:=11) (by decide)
 have gIpartial_:DataW.trod enc Tryz.prog W 0 (λ_=>true) true _ _ [l.getD (3+11) undef]=some yIpartial_:=((congrArg _ (dQ (l:=l) (b:=3) (m:=16) (o:=11) (by decide) (by omega)).symm).trans (Cv 11 _ rfl)).trans hyIpartial_
 obtain⟨vIpartial_,eIpartial_⟩:=ku (by kernel_rfl) gIpartial_
 obtain⟨yIminLot,I9⟩:=bD mW (i:=12) (by decide)
 have gIminLot:DataW.trod enc Tryz.prog W 0 (λ_=>true) true _ _ [l.getD (3+12) undef]=some yIminLot:=((congrArg _ (dQ (l:=l) (b:=3) (m:=16) (o:=12) (by decide) (by omega)).symm).trans (Cv 12 _ rfl)).trans I9
 obtain⟨vIminLot,eIminLot⟩:=jG (by kernel_rfl) gIminLot
 obtain⟨yIhold,OZ⟩:=bD mW (i:=13) (by decide)
 have gIhold:DataW.trod enc Tryz.prog W 0 (λ_=>true) true _ _ [l.getD (3+13) undef]=some yIhold:=((congrArg _ (dQ (l:=l) (b:=3) (m:=16) (o:=13) (by decide) (by omega)).symm).trans (Cv 13 _ rfl)).trans OZ
 obtain⟨vIhold,eIhold⟩:=ku (by kernel_rfl) gIhold
 obtain⟨yIreserve,EP⟩:=bD mW (i:=14) (by decide)
 have gIreserve:DataW.trod enc Tryz.prog W 0 (λ_=>true) true _ _ [l.getD (3+14) undef]=some yIreserve:=((congrArg _ (dQ (l:=l) (b:=3) (m:=16) (o:=14) (by decide) (by omega)).symm).trans (Cv 14 _ rfl)).trans EP
 obtain⟨vIreserve,eIreserve⟩:=ku (by kernel_rfl) gIreserve
 obtain⟨yIlinks,Mj⟩:=bD mW (i:=15) (by decide)
 have gIlinks:DataW.trod enc Tryz.prog W 0 (λ_=>true) true _ _ [l.getD (3+15) undef]=some yIlinks:=((congrArg _ (dQ (l:=l) (b:=3) (m:=16) (o:=15) (by decide) (by omega)).symm).trans (Cv 15 _ rfl)).trans Mj
 obtain⟨sa,sc,ks,eIlinks,zks,zkr,hks⟩:=Pf gIlinks
 obtain⟨yA,hyA⟩:=bD hxl (i:=4) (by decide)
 have gA:DataW.trod enc Tryz.prog W 0 (λ_=>true) true k 26 ((l.drop 19).take 9)=some yA:=(hF 4 _ rfl).trans hyA
 obtain⟨xsA,kA,-,-,-,zO,Ov⟩:=DataW.trod_struct Tryz.underlying26 gA
 obtain⟨yAhasAmount,AU⟩:=bD zO (i:=0) (by decide)
 have gAhasAmount:DataW.trod enc Tryz.prog W 0 (λ_=>true) true _ _ [l.getD (19+0) undef]=some yAhasAmount:=((congrArg _ (dQ (l:=l) (b:=19) (m:=9) (o:=0) (by decide) (by omega)).symm).trans (Ov 0 _ rfl)).trans AU
 obtain⟨vAhasAmount,eAhasAmount⟩:=ku (by kernel_rfl) gAhasAmount
 obtain⟨yAhasSettleDay,sK⟩:=bD zO (i:=1) (by decide)
 have gAhasSettleDay:DataW.trod enc Tryz.prog W 0 (λ_=>true) true _ _ [l.getD (19+1) undef]=some yAhasSettleDay:=((congrArg _ (dQ (l:=l) (b:=19) (m:=9) (o:=1) (by decide) (by omega)).symm).trans (Ov 1 _ rfl)).trans sK
 obtain⟨vAhasSettleDay,eAhasSettleDay⟩:=ku (by kernel_rfl) gAhasSettleDay
 obtain⟨yAhasPriority,uT⟩:=bD zO (i:=2) (by decide)
 have gAhasPriority:DataW.trod enc Tryz.prog W 0 (λ_=>true) true _ _ [l.getD (19+2) undef]=some yAhasPriority:=((congrArg _ (dQ (l:=l) (b:=19) (m:=9) (o:=2) (by decide) (by omega)).symm).trans (Ov 2 _ rfl)).trans uT
 obtain⟨vAhasPriority,eAhasPriority⟩:=ku (by kernel_rfl) gAhasPriority
 obtain⟨yAhasPartial,xQ⟩:=bD zO (i:=3) (by decide)
 have gAhasPartial:DataW.trod enc Tryz.prog W 0 (λ_=>true) true _ _ [l.getD (19+3) undef]=some yAhasPartial:=((congrArg _ (dQ (l:=l) (b:=19) (m:=9) (o:=3) (by decide) (by omega)).symm).trans (Ov 3 _ rfl)).trans xQ
 obtain⟨vAhasPartial,eAhasPartial⟩:=ku (by kernel_rfl) gAhasPartial
 obtain⟨yAamount,Gs⟩:=bD zO (i:=4) (by decide)
 have gAamount:DataW.trod enc Tryz.prog W 0 (λ_=>true) true _ _ [l.getD (19+4) undef]=some yAamount:=((congrArg _ (dQ (l:=l) (b:=19) (m:=9) (o:=4) (by decide) (by omega)).symm).trans (Ov 4 _ rfl)).trans Gs
 obtain⟨vAamount,eAamount⟩:=jG (by kernel_rfl) gAamount
 obtain⟨yAsettleDay,zL⟩:=bD zO (i:=5) (by decide)
 have gAsettleDay:DataW.trod enc Tryz.prog W 0 (λ_=>true) true _ _ [l.getD (19+5) undef]=some yAsettleDay:=((congrArg _ (dQ (l:=l) (b:=19) (m:=9) (o:=5) (by decide) (by omega)).symm).trans (Ov 5 _ rfl)).trans zL
 obtain⟨vAsettleDay,eAsettleDay⟩:=jG (by kernel_rfl) gAsettleDay
 obtain⟨yApriority,Bg⟩:=bD zO (i:=6) (by decide)
 have gApriority:DataW.trod enc Tryz.prog W 0 (λ_=>true) true _ _ [l.getD (19+6) undef]=some yApriority:=((congrArg _ (dQ (l:=l) (b:=19) (m:=9) (o:=6) (by decide) (by omega)).symm).trans (Ov 6 _ rfl)).trans Bg
 obtain⟨vApriority,eApriority⟩:=jG (by kernel_rfl) gApriority
 obtain⟨yApartial_,hyApartial_⟩:=bD zO (i:=7) (by decide)
 have gApartial_:DataW.trod enc Tryz.prog W 0 (λ_=>true) true _ _ [l.getD (19+7) undef]=some yApartial_:=((congrArg _ (dQ (l:=l) (b:=19) (m:=9) (o:=7) (by decide) (by omega)).symm).trans (Ov 7 _ rfl)).trans hyApartial_
 obtain⟨vApartial_,eApartial_⟩:=ku (by kernel_rfl) gApartial_
 obtain⟨yAminLot,IW⟩:=bD zO (i:=8) (by decide)
 have gAminLot:DataW.trod enc Tryz.prog W 0 (λ_=>true) true _ _ [l.getD (19+8) undef]=some yAminLot:=((congrArg _ (dQ (l:=l) (b:=19) (m:=9) (o:=8) (by decide) (by omega)).symm).trans (Ov 8 _ rfl)).trans IW
 obtain⟨vAminLot,eAminLot⟩:=jG (by kernel_rfl) gAminLot
 refine⟨{op:=vQop,sender:=vQsender,ref:=vQref,ins:={ref:=vIref,kind:=vIkind,sender:=vIsender,counterparty:=vIcounterparty,side:=vIside,asset:=vIasset,quantity:=vIquantity,amount:=vIamount,tradeDay:=vItradeDay,settleDay:=vIsettleDay,priority:=vIpriority,partial_:=vIpartial_,minLot:=vIminLot,hold:=vIhold,reserve:=vIreserve,links:=ks},amd:={hasAmount:=vAhasAmount,hasSettleDay:=vAhasSettleDay,hasPriority:=vAhasPriority,hasPartial:=vAhasPartial,amount:=vAamount,settleDay:=vAsettleDay,priority:=vApriority,partial_:=vApartial_,minLot:=vAminLot} },sa,sc,?_,⟨?_,?_,?_,?_,?_⟩,?_,?_,zks,hks⟩
 ·refine congrArg Value.agg ?_
  apply Array.toList_inj.1
  rw[List.toList_toArray]
  refine List.ext_getElem? λj=>?_
  have key:∀(j:Nat) (u:Value),j<28->l.getD j undef=u->l[j]? =some u:=λj u hj hu=>by rw[<-hu,List.getD_eq_getElem?_getD,List.getElem?_eq_getElem (by omega)];rfl
  match j with
  |0=>exact key 0 _ (by decide) eQop
  |1=>exact key 1 _ (by decide) eQsender
  |2=>exact key 2 _ (by decide) eQref
  |3=>exact key 3 _ (by decide) eIref
  |4=>exact key 4 _ (by decide) eIkind
  |5=>exact key 5 _ (by decide) eIsender
  |6=>exact key 6 _ (by decide) eIcounterparty
  |7=>exact key 7 _ (by decide) eIside
  |8=>exact key 8 _ (by decide) eIasset
  |9=>exact key 9 _ (by decide) eIquantity
  |10=>exact key 10 _ (by decide) eIamount
  |11=>exact key 11 _ (by decide) eItradeDay
  |12=>exact key 12 _ (by decide) eIsettleDay
  |13=>exact key 13 _ (by decide) eIpriority
  |14=>exact key 14 _ (by decide) eIpartial_
  |15=>exact key 15 _ (by decide) eIminLot
  |16=>exact key 16 _ (by decide) eIhold
  |17=>exact key 17 _ (by decide) eIreserve
  |18=>exact key 18 _ (by decide) eIlinks
  |19=>exact key 19 _ (by decide) eAhasAmount
  |20=>exact key 20 _ (by decide) eAhasSettleDay
  |21=>exact key 21 _ (by decide) eAhasPriority
  |22=>exact key 22 _ (by decide) eAhasPartial
  |23=>exact key 23 _ (by decide) eAamount
  |24=>exact key 24 _ (by decide) eAsettleDay
  |25=>exact key 25 _ (by decide) eApriority
  |26=>exact key 26 _ (by decide) eApartial_
  |27=>exact key 27 _ (by decide) eAminLot
  |j+28=>rw[List.getElem?_eq_none (by omega),List.getElem?_eq_none (by rw[Array.length_toList,xN];omega)]
 ·have:=zIref;show _<=9223372036854775807;unfold maxLen at this;omega
 ·have:=zIsender;show _<=9223372036854775807;unfold maxLen at this;omega
 ·have:=zIcounterparty;show _<=9223372036854775807;unfold maxLen at this;omega
 ·have:=zIasset;show _<=9223372036854775807;unfold maxLen at this;omega
 ·intro x hx;have:=zkr x hx;show _<=9223372036854775807;unfold maxLen at this;omega
 ·have:=zQsender;show _<=9223372036854775807;unfold maxLen at this;omega
 ·have:=zQref;show _<=9223372036854775807;unfold maxLen at this;omega
end
open Go.Proofs.YtnjjeapcalkmaaaGreatDoor.Se
abbrev kU (i:Ps.Ins):Ps.Req:={op:=0,sender:=i.sender,ref:=i.ref,ins:=i}
def xk (tS:TypeId)(kr j0:Nat)(n:Int)(b:Bool)(o:Oper)(ov:Operand->Option PV):Option PV:=match o.op with
 | .indexAddr t x y=>if t=tS/\b=true then(match ov x,ov y with
   |some (.r k c),some (.r 2 0)=>if k=kr/\c=j0 then some (.p 3 0)else none
   |_,_=>none)else none
 | .call ⟨.builtin .len,xs,ts⟩=>(match xs.toList,ts.toList with
   |[x],[t]=>if t=tS/\o.type=3 then(match ov x with
    |some (.r k c)=>if k=kr/\c=j0 then some (.v (.int .i64 n))else none
    |_=>none)else none
   |_,_=>none)
 |_=>none
theorem K5 {M:Mem}{tS:TypeId}(ht:tS=22\/tS=32){kr j0 n cp j:Nat}{sa:Option Addr}{b:Bool}(hc:M.cell kr j0=.slice sa n cp)(hj:M.cell 2 0=.int .i64 (j:Int))(hb:b=true->j<n/\∃sb so,sa=some ⟨sb,so,none⟩/\M.ptr 3 0=.pointer (some ⟨sb,so+j*2,none⟩))(o:Oper)(ov:Operand->Option PV)(u:PV)(h:xk tS kr j0 (n:Int) b o ov=some u)(ρ:Operand->Value)(w:World)(_:∀f,ρ (.func f)=.func (.func f) #[] #[])(_:Sw M w)(hov:∀x p,ov x=some p->Den M p (ρ x) w):∃v,(execOp ρ o).run Tryz.prog w=.ok (.value v) w/\Den M u v w:=by
 unfold xk at h
 split at h
 ·rename_i t x y ho
  split at h
  ·rename_i htb
   obtain⟨rfl,hbt⟩:=htb
   split at h
   ·rename_i k c hx hy
    split at h
    ·rename_i hk
     obtain⟨rfl,rfl⟩:=hk
     cases h
     obtain⟨hlt,sb,so,rfl,hp⟩:=hb hbt
     have hx2:ρ x=.slice (some ⟨sb,so,none⟩) n cp:=(hov _ _ hx).trans hc
     have hy2:ρ y=.int .i64 (j:Int):=(hov _ _ hy).trans hj
     have hkI:(j:Int)<(n:Int):=by omega
     refine⟨.pointer (some ⟨sb,so+j*2,none⟩),?_,hp.symm⟩
     unfold execOp
     simp only[ho,hx2,hy2]
     clear hp hc hj hov hx hy ho hb
     rcases ht with rfl|rfl<;>go_simp
    ·cases h
   ·cases h
  ·cases h
 ·rename_i xs ts ho
  split at h
  ·rename_i x t hxs hts
   split at h
   ·rename_i ht3
    obtain⟨rfl,h3⟩:=ht3
    split at h
    ·rename_i k c hx
     split at h
     ·rename_i hk
      obtain⟨rfl,rfl⟩:=hk
      cases h
      have hx2:ρ x=.slice sa n cp:=(hov _ _ hx).trans hc
      obtain rfl:xs=#[x]:=by apply Array.toList_inj.1;rw[hxs]
      obtain rfl:ts=#[t]:=by apply Array.toList_inj.1;rw[hts]
      refine⟨.int .i64 (n:Int),?_,rfl⟩
      unfold execOp
      simp only[ho,h3,hx2]
      clear hc hj hov hx ho hb
      rcases ht with rfl|rfl<;>go_simp
     ·cases h
    ·cases h
   ·cases h
  ·cases h
 ·cases h
theorem qd {M:Mem}{tS:TypeId}(ht:tS=22\/tS=32){kr j0 n cp:Nat}{sa:Option Addr}(hc:M.cell kr j0=.slice sa n cp)(o:Oper)(ov:Operand->Option PV)(u:PV)(h:xk tS kr j0 (n:Int) false o ov=some u)(ρ:Operand->Value)(w:World)(_:∀f,ρ (.func f)=.func (.func f) #[] #[])(_:Sw M w)(hov:∀x p,ov x=some p->Den M p (ρ x) w):∃v,(execOp ρ o).run Tryz.prog w=.ok (.value v) w/\Den M u v w:=by
 unfold xk at h
 split at h
 ·split at h
  ·rename_i hb;cases hb.2
  ·cases h
 ·rename_i xs ts ho
  split at h
  ·rename_i x t hxs hts
   split at h
   ·rename_i ht3
    obtain⟨rfl,h3⟩:=ht3
    split at h
    ·rename_i k c hx
     split at h
     ·rename_i hk
      obtain⟨rfl,rfl⟩:=hk
      cases h
      have hx2:ρ x=.slice sa n cp:=(hov _ _ hx).trans hc
      obtain rfl:xs=#[x]:=by apply Array.toList_inj.1;rw[hxs]
      obtain rfl:ts=#[t]:=by apply Array.toList_inj.1;rw[hts]
      refine⟨.int .i64 (n:Int),?_,rfl⟩
      unfold execOp
      simp only[ho,h3,hx2]
      clear hc hov hx ho
      rcases ht with rfl|rfl<;>go_simp
     ·cases h
    ·cases h
   ·cases h
  ·cases h
 ·cases h
theorem Iy {w W:World}{g j:Nat}(h:w.heap[g]? =W.heap[g]?):w.cell? ⟨g,j,none⟩=W.cell? ⟨g,j,none⟩:=by
 unfold World.cell?
 rw[h]
def De (rows:List (Option (Nat×Nat)×List Value))(j sb so:Nat)(x:Ps.Link):List (Option (Nat×Nat)×List Value):=rows++[(none,[.int .i64 (j:Int)]),(some (sb,so+j*2),[.int .i64 x.type,.string x.ref])]
theorem Al {W:World}{sb so j:Nat}{x:Ps.Link}{ks:List Ps.Link}(h:Az W sb so ks)(hj:ks[j]? =some x):sb<W.heap.size/\∀w:World,w.heap[sb]? =W.heap[sb]?->∀(k:Nat) (v:Value),([.int .i64 x.type,.string x.ref]:List Value)[k]? =some v->w.cell? ⟨sb,so+j*2+k,none⟩=some v:=by
 obtain⟨h1,h2⟩:=h j x hj
 refine⟨World.block_lt_of_cell? W _ h1,λw hw k v hv=>?_⟩
 rw[Iy hw]
 rcases k with _|_|k
 ·cases hv;exact h1
 ·cases hv;exact h2
 ·cases hv
def zQ (f:FuncId)(args:Array Value)(w:World)(l:List SB):Prop:=Calls Tryz.prog f args w λe w'=>∃y,e=.returned y/\w'.ownsRow w.heap.size 9 1 y l.length ((l.map st).map .string)/\Below w.heap.size w w'
theorem lp_ins (w:World)(i:Ps.Ins)(a:Option Addr)(n c:Nat):Sem.run Tryz.prog (storeCells ⟨w.heap.size,0,none⟩ (aB i (.slice a n c))) (w.alloc (.cells xc 34))=.ok () (w.alloc (.cells (aB i (.slice a n c)).toArray 34)):=
 run_storeCells_new w 34 xc (aB i (.slice a n c)).toArray (by kernel_rfl) rfl (qN i a n c)
theorem lp_amd (w:World)(a:Ps.Amd):Sem.run Tryz.prog (storeCells ⟨w.heap.size,0,none⟩ (aH a)) (w.alloc (.cells Km 35))=.ok () (w.alloc (.cells (aH a).toArray 35)):=
 run_storeCells_new w 35 Km (aH a).toArray (by kernel_rfl) rfl (by rw[<-Array.all_toList];simp[aH,Value.oneCell'])
theorem ui (w:World)(i:Ps.Ins)(a:Option Addr)(n c:Nat){ρ:Operand->Value}{o:Oper}{x:Operand}(ho:o.op=.box 34 x)(hx:ρ x=.agg (aB i (.slice a n c)).toArray):(execOp ρ o).run Tryz.prog w=.ok (.value (.pointer (some ⟨w.heap.size,0,none⟩))) (w.alloc (.cells (aB i (.slice a n c)).toArray 34)):=by
 have h:=lp_ins w i a n c
 unfold xc at h
 unfold execOp
 simp only[ho,hx]
 go_simp
 try rfl
theorem bx_amd (w:World)(i:Ps.Amd){ρ:Operand->Value}{o:Oper}{x:Operand}(ho:o.op=.box 35 x)(hx:ρ x=.agg (aH i).toArray):(execOp ρ o).run Tryz.prog w=.ok (.value (.pointer (some ⟨w.heap.size,0,none⟩))) (w.alloc (.cells (aH i).toArray 35)):=by
 have h:=lp_amd w i
 unfold Km at h
 unfold execOp
 simp only[ho,hx]
 go_simp
 try rfl
theorem rW {Q:Exit->Act->World->Prop}{a:Act}{w W:World}{id:Nat}{o1 o2:Oper}{d1 d2:Nat}{p v:Value}(g1:o1.guard=none)(h1:o1.dst=some d1)(g2:o2.guard=none)(h2:o2.dst=some d2)(h3:o2.op=.assign (.const v))(hn:d1≠d2)(l1:d1<a.tmps.size)(l2:d2<a.tmps.size)(e1:(execOp a.eval o1).run Tryz.prog w=.ok (.value p) W)
 (hend:∀b:Act,b.defers=a.defers->b.tmps.size=a.tmps.size->b.tmps[d1]? =some p->b.tmps[d2]? =some v->Q .normal b W):(Code.region id #[o1,o2] false).wp Tryz.prog Q a w:=by
 refine wp_region_lit ?_
 refine eG (w':=W) (u:=p) g1 h1 e1 ?_
 refine eG (w':=W) (u:=v) g2 h2 (by unfold execOp;simp only[h3];rfl) ?_
 refine aT ?_
 exact hend _ rfl (by simp) (by simp[hn,Ne.symm hn,l1]) (by simp[l2])
theorem wp_bx3 {Q:Exit->Act->World->Prop}{a:Act}{w W:World}{id:Nat}{o1 o2 o3:Oper}{d1 d2 d3:Nat}{p v u:Value}(g1:o1.guard=none)(h1:o1.dst=some d1)(g2:o2.guard=none)(h2:o2.dst=some d2)(h3:o2.op=.assign (.const v))(g3:o3.guard=none)(h4:o3.dst=some d3)(h5:o3.op=.assign (.const u))(hn:d1≠d2)(hn2:d1≠d3)(hn3:d2≠d3)(l1:d1<a.tmps.size)(l2:d2<a.tmps.size)(l3:d3<a.tmps.size)(e1:(execOp a.eval o1).run Tryz.prog w=.ok (.value p) W)
 (hend:∀b:Act,b.defers=a.defers->b.tmps.size=a.tmps.size->b.tmps[d1]? =some p->b.tmps[d2]? =some v->b.tmps[d3]? =some u->Q .normal b W):(Code.region id #[o1,o2,o3] false).wp Tryz.prog Q a w:=by
 refine wp_region_lit ?_
 refine eG (w':=W) (u:=p) g1 h1 e1 ?_
 refine eG (w':=W) (u:=v) g2 h2 (by unfold execOp;simp only[h3];rfl) ?_
 refine eG (w':=W) (u:=u) g3 h4 (by unfold execOp;simp only[h5];rfl) ?_
 refine aT ?_
 exact hend _ rfl (by simp) (by simp[hn,hn2,Ne.symm hn,Ne.symm hn2,l1]) (by simp[hn3,Ne.symm hn3,l2]) (by simp[l3])
theorem zx {M:Mem}{fn:Func}{r:Nat}{l:List SB}{us:List PV}{ts:List Nat}{a:Act}{w:World}{R:Ending->World->Prop}(hres:fn.results=#[.tmp r])(hd:a.defers=[])(hv:kF M (r::ts) (.sl l::us) a w)(hR:∀v,w.ownsRow M.B 9 1 v l.length ((l.map st).map .string)->R (.returned v) w):bodyPost Tryz.prog fn R .ret a w:=by
 obtain⟨⟨v,h1,h2⟩,_⟩:=hv.cons
 refine bodyPost_ret (results_tmp hres _ _ _) hd ?_
 rw[show a.tmps.getD r undef=v from eval_at h1]
 refine hR v ?_
 have:=h2.1
 rw[List.length_map]at this
 exact this
theorem Le {M:Mem}{l:List SB}{v:Value}{w:World}(h:w.ownsRow M.B 9 1 v l.length ((l.map st).map .string))(hf:∀g,v.ownBlock=some g->g∉M.fix):Den M (.sl l) v w:=⟨by rw[List.length_map];exact h,hf⟩
theorem Ec {M:Mem}{l:List SB}{v:Value}{w:World}(h:Den M (.sl l) v w):w.ownsRow M.B 9 1 v l.length ((l.map st).map .string):=by
 have:=h.1
 rw[List.length_map]at this
 exact this
theorem Ji {Q:Exit->Act->World->Prop}{a:Act}{w W1 W:World}{id:Nat}{o1 o2 o3 o4:Oper}{tI:TypeId}{d1 d2 d3:Nat}{A2 A3 V:Value}(h1d:o1.dst=some d1)(g1:o1.guard=none)(e1:(execOp a.eval o1).run Tryz.prog w=.ok (.value A2) w)(h2:o2.op=.load tI (.tmp d1))(QZ:o2.dst=some d2)(g2:o2.guard=none)
 (h3:o3.op=.alloc tI) (QO:o3.dst=some d3) (g3:o3.guard=none) (h4:o4.op=.store tI (.tmp d3) (.tmp d2)) (h4d:o4.dst=none) (g4:o4.guard=none) (n23:d2≠d3) (l1:d1<a.tmps.size) (l2:d2<a.tmps.size) (l3:d3<a.tmps.size)
 (hl:(Instr.loadAt tI A2).run Tryz.prog w=.ok V w) (ha:(Instr.alloc tI true (.tuple #[])).run Tryz.prog w=.ok A3 W1) (hs:(Instr.storeAt tI A3 V).run Tryz.prog W1=.ok () W)
 (hend:∀b:Act,b.defers=a.defers->b.tmps.size=a.tmps.size->b.tmps[d3]? =some A3->(∀s:Nat,s≠d1->s≠d2->s≠d3->b.tmps[s]? =a.tmps[s]?)->Q .normal b W):(Code.region id #[o1,o2,o3,o4] false).wp Tryz.prog Q a w:=by
 refine wp_region_lit ?_
 refine eG (w':=w) (u:=A2) g1 h1d e1 ?_
 refine iO g2 QZ h2 (eval_at (by simp[l1])) hl ?_
 refine eG (w':=W1) (u:=A3) g3 QO (by unfold execOp;rw[h3];simp only[Sem.run_bind,ha,Result.andThen_ok];rfl) ?_
 refine FE (w':=W) g4 h4d (by
  unfold execOp
  rw[h4]
  have e1:(⟨((a.tmps.setIfInBounds d1 A2).setIfInBounds d2 V).setIfInBounds d3 A3,a.defers⟩:Act).eval (.tmp d3)=A3:=eval_at (by simp[l3])
  have e2:(⟨((a.tmps.setIfInBounds d1 A2).setIfInBounds d2 V).setIfInBounds d3 A3,a.defers⟩:Act).eval (.tmp d2)=V:=eval_at (by simp[n23,Ne.symm n23,l2])
  simp only[e1,e2,Sem.run_bind,hs,Result.andThen_ok]
  rfl) ?_
 refine aT ?_
 refine hend _ rfl (by simp) (by simp[l3]) λs n1 n2 n3=>?_
 simp[Ne.symm n1,Ne.symm n2,Ne.symm n3]
def lkC (x:Ps.Link):List Value:=[.int .i64 x.type,.string x.ref]
theorem al_lk (w:World):(Instr.alloc 129 true (.tuple #[])).run Tryz.prog w=.ok (.pointer (some ⟨w.heap.size,0,none⟩)) (w.alloc (.cells #[.int .i64 0,.string ⟨#[]⟩] 129)):=by
 go_simp
 try rfl
theorem sv_lk (w:World)(x:Ps.Link):(Instr.storeAt 129 (.pointer (some ⟨w.heap.size,0,none⟩)) (.agg (lkC x).toArray)).run Tryz.prog (w.alloc (.cells #[.int .i64 0,.string ⟨#[]⟩] 129))=.ok () (w.alloc (.cells (lkC x).toArray 129)):=by
 have h:=run_storeCells_new (P:=Tryz.prog) w 129 #[.int .i64 0,.string ⟨#[]⟩] (lkC x).toArray (by kernel_rfl) rfl (by rw[<-Array.all_toList];simp[lkC,Value.oneCell'])
 unfold lkC at h⊢
 go_simp
 try rfl
theorem PE (w:World)(g o:Nat)(x:Ps.Link)(h1:w.cell? ⟨g,o,none⟩=some (.int .i64 x.type))(h2:w.cell? ⟨g,o+1,none⟩=some (.string x.ref)):(Instr.loadAt 129 (.pointer (some ⟨g,o,none⟩))).run Tryz.prog w=.ok (.agg (lkC x).toArray) w:=
 Ev.zV (n:=2) rfl g o w (λj=>(lkC x).getD j (.bool false)) λj hj=>by
  rcases j with _|_|j
  ·exact h1
  ·exact h2
  ·omega
def aJ (g:Nat)(i:Ps.Ins)(lv:Value):List (Option (Nat×Nat)×List Value):=[(some (g,0),aB i lv),(none,[])]
def ppWord (f:FuncId)(q:Int):Option Rv:=if f=125 then some (.str 20 (Ps.dX q))else if f=121 then some (.str 20 (Ps.bS q))else if f=128 then some (.str 10 (Ps.bw (Ps.fB q)))else if f=195 then some (.str 5 (Ps.bw (if q=0 then Ps.eU else Ps.bu)))else none
noncomputable def QY (rows:List (Option (Nat×Nat)×List Value))(f:FuncId)(us:List PV):Option Rv:=match us.map (nvR rows)with
 |[.v (.int .i64 q)]=>if f=122 then some (.str 10 (Ps.bA q))else ppWord f q
 |_=>none
noncomputable def ppM (B:Nat)(W:World)(fix:List Nat)(rows:List (Option (Nat×Nat)×List Value)):Mem:=seW B W fix 40 rows (QY rows)
noncomputable def ppL (W:World)(rows:List (Option (Nat×Nat)×List Value))(n:Int):Mem:={ppM W.heap.size W [] rows with oth:=xk 32 0 15 n false}
noncomputable def ppB (B:Nat)(W:World)(fix:List Nat)(rows:List (Option (Nat×Nat)×List Value))(b:Bool):Mem:={ {ppM B W fix rows with big:=true}with hint:=λt=>if t=27 then some b else none,loops:=0}
theorem Nr {M M':Mem}{w:World}(h:Sw M w)(hB:M'.B=M.B)(hW:M'.W=M.W)(hf:M'.fix=M.fix):Sw M' w:=⟨hW▸h.os,hW▸h.tape,hW▸h.output,hW▸h.size,λg hg=>by
 rw[hW]
 refine h.block g ?_
 unfold prot at hg⊢
 rwa [hB,hf]at hg⟩
theorem mD {B:Nat}{W:World}{fix:List Nat}{rows:List (Option (Nat×Nat)×List Value)}(hB:B<=W.heap.size)(hf:∀g∈fix,g<W.heap.size)(hr:RowsIn W B 40 fix rows):Ok Tryz.prog (ppM B W fix rows):=
 wL hB hf (λk g o l h=>by
  obtain⟨rfl,h2,⟨t,h3⟩,_⟩:=iA hr k g o l h
  exact⟨h2,gQ h3⟩) λk p l h=>(iA hr k p.1 p.2 l h).2.2.2
abbrev wb (w:Lx.Bs):SB:=(w.length,Ps.bw w)
def ls (b:Bool)(l:List SB):List SB:=cond b l []
def lkS (x:Ps.Link):List SB:=[(5,Ps.bw (if x.type=0 then Ps.eU else Ps.bu)),(40,x.ref)]
def uj (i:Ps.Ins):List SB:=ls (!(decide (i.priority=0))) [(10,Ps.bw (Ps.fB i.priority))]++ls i.partial_ [wb Ps.aO,(20,Ps.dX i.minLot)]
def poS (i:Ps.Ins):List SB:=uj i++i.links.flatMap lkS++ls i.reserve [wb Ps.ae]++ls i.hold [wb Ps.bK]
theorem nX {a b:List Prop}:All a->All b->All (a++b):=by
 induction a with
 |nil=>exactλ_ h=>h
 |cons p a ih=>exactλh h2=>⟨h.1,ih h.2 h2⟩
theorem pu {b:Bool}{p:Prop}(h:b=true->p):All (cond b [p] []):=by
 cases b with
 |true=>exact⟨h rfl,trivial⟩
 |false=>trivial
noncomputable def poC:Code:=Ev.qO (Tryz.f123.body.getD .skip)
noncomputable def BV:Code:=(Ev.ah Ev.dw poC).1
structure PoF (W0:World)(i:Ps.Ins):Prop where
 pr:0<=i.priority/\i.priority<=2
 prW:CW W0 128 i.priority 10 (Ps.bw (Ps.fB i.priority))
 lot:i.partial_=true->CW W0 125 i.minLot 20 (Ps.dX i.minLot)
 lks:∀x∈i.links,(x.type=0\/x.type=1)/\x.ref.size<=40
 nlk:i.links.length<=8
 sz:ru (kU i)
theorem OI (W:World)(i:Ps.Ins)(g:Nat)(hF:PoF W i)(sa:Option Addr)(sn sc:Nat)(hr:W.heap[g]? =some (.cells (aB i (.slice sa sn sc)).toArray 34 (0,0))){Q:Exit->Act->World->Prop}{a:Act}(hd:a.defers=[])(hn:a.tmps.size=50)(h1:a.tmps[1]? =some (.pointer (some ⟨g,0,none⟩)))(h2:a.tmps[2]? =some (.slice none 0 0))
 (hq:∀(b:Act) (w:World) (v:Value),b.tmps.size=50->b.defers=[]->b.tmps[1]? =some (.pointer (some ⟨g,0,none⟩))->b.tmps[3]? =some v->w.ownsRow W.heap.size 9 1 v (uj i).length (((uj i).map st).map .string)->b.tmps[24]? =some (.slice sa sn sc)->b.tmps[25]? =some (.int .i64 sn)->b.tmps[26]? =some (.int .i64 0)->Sw (ppM W.heap.size W [] (aJ g i (.slice sa sn sc))) w->BV.wp Tryz.prog (Ev.Qof Tryz.prog (Ev.ah Ev.dw poC).2 Q) b w):
 poC.wp Tryz.prog Q a W:=by
 have hgW:g<W.heap.size:=(Array.getElem?_eq_some_iff.1 hr).1
 have hs:=hF.sz
 have hO0:Ok Tryz.prog (ppM W.heap.size W [] (aJ g i (.slice sa sn sc))):=mD (Nat.le_refl _) (λg hg=>by cases hg) ⟨⟨rfl,.inl hgW,⟨_,hr⟩,oP (λx e=>by cases e) hs.iref hs.isender hs.icp hs.iasset⟩,trivial⟩
 have hO:Ok Tryz.prog (ppL W (aJ g i (.slice sa sn sc)) (sn:Int)):=hO0.withOth (qd (.inr rfl) (cp:=sc) (sa:=sa) rfl)
 have hK:FrP (ppL W (aJ g i (.slice sa sn sc)) (sn:Int)) 50 [(1,.p 0 0),(2,.sl [])] a W:=aI (aI (bW hn hd) h2 (vU (.slice none 0 0) W _)) h1 rfl
 refine KT (M:=ppL W (aJ g i (.slice sa sn sc)) (sn:Int)) (c:=BV) (fs:=(Ev.ah Ev.dw poC).2) hO [1,3,24,25,26]
  (us:=[.p 0 0,.sl (uj i),.r 0 15,.v (.int .i64 (sn:Int)),.v (.int .i64 0)])
  (ps:=cond (!(decide (i.priority=0))) [ai W.heap.size W (Ev.az (aJ g i (.slice sa sn sc))) 128 [.r 0 10] (.str 10 (Ps.bw (Ps.fB i.priority)))] []++cond i.partial_ [ai W.heap.size W (Ev.az (aJ g i (.slice sa sn sc))) 125 [.r 0 12] (.str 20 (Ps.dX i.minLot))] [])
  (by
  have hp:=hF.pr
  clear hO hO0 hK hq h1 h2 hd hn hr hgW hs hF
  obtain⟨ref,kind,sender,cp,side,asset,qty,am,td,sd,pr,pa,ml,ho,re,li⟩:=i
  have h3:pr=0\/pr=1\/pr=2:=by
   have h4:0<=pr/\pr<=2:=hp
   omega
  clear hp
  rcases h3 with rfl|rfl|rfl<;>cases pa<;>(show _=_;kernel_rfl)) ?_ hK (Sw.start _) ?_
 ·exact nX (pu λ_=>spW Bn rfl rfl hF.prW) (pu λh=>spW kD rfl rfl (hF.lot h))
 ·intro b w hb hbd hv hS
  obtain⟨⟨v1,e1,d1⟩,hv⟩:=hv.cons
  obtain⟨⟨v3,e3,d3⟩,hv⟩:=hv.cons
  obtain⟨⟨v24,e24,d24⟩,hv⟩:=hv.cons
  obtain⟨⟨v25,e25,d25⟩,hv⟩:=hv.cons
  obtain⟨⟨v26,e26,d26⟩,-⟩:=hv.cons
  exact hq b w v3 hb hbd (e1.trans (congrArg some d1)) e3 (Ec d3) (e24.trans (congrArg some d24)) (e25.trans (congrArg some d25)) (e26.trans (congrArg some d26)) (Nr hS rfl rfl rfl)
theorem ix_lk {ρ:Operand->Value}{o:Oper}{x y:Operand}{sb so n c j:Nat}{w:World}(ho:o.op=.indexAddr 32 x y)(h1:ρ x=.slice (some ⟨sb,so,none⟩) n c)(h2:ρ y=.int .i64 (j:Int))(hj:j<n):(execOp ρ o).run Tryz.prog w=.ok (.value (.pointer (some ⟨sb,so+j*2,none⟩))) w:=by
 have hkI:(j:Int)<(n:Int):=by omega
 unfold execOp
 simp only[ho,h1,h2]
 go_simp
theorem Jk {M M2:Mem}{w1 w3:World}(h1:Sw M w1)(hf:M.fix=[])(hB:M2.B=M.B)(hx:Below M.B w1 M2.W)(h3:Sw M2 w3):Sw M w3:=
 ⟨h3.os.trans (hx.os.trans h1.os),h3.tape.trans (hx.tape.trans h1.tape),h3.output.trans (hx.output.trans h1.output),Nat.le_trans h1.size (Nat.le_trans hx.size h3.size),λg hg=>by
  have hg':g<M.B:=by
   rcases hg with h|h
   ·exact h
   ·rw[hf]at h;cases h
  exact(h3.block g (.inl (hB.symm▸hg'))).trans ((hx.block g hg').trans (h1.block g hg))⟩
def oA (b:Bool)(x l:List SB):List SB:=cond b (l++x) l
theorem M6 (b:Bool)(x l:List SB):oA b x l=l++ls b x:=by cases b<;>simp[oA,ls]
def poJ (W:World)(g:Nat)(i:Ps.Ins)(sa:Option Addr)(sn sc j:Nat)(a:Act)(w:World):Prop:=a.tmps.size=50/\a.defers=[]/\a.tmps[1]? =some (.pointer (some ⟨g,0,none⟩))/\(∃v,a.tmps[3]? =some v/\w.ownsRow W.heap.size 9 1 v (uj i++(i.links.take j).flatMap lkS).length (((uj i++(i.links.take j).flatMap lkS).map st).map .string))/\a.tmps[24]? =some (.slice sa sn sc)/\a.tmps[25]? =some (.int .i64 sn)/\a.tmps[26]? =some (.int .i64 j)/\Sw (ppM W.heap.size W [] (aJ g i (.slice sa sn sc))) w
theorem Bh (i:Ps.Ins):(uj i).length<=3:=by
 unfold uj ls
 cases (!(decide (i.priority=0)))<;>cases i.partial_<;>simp
theorem GV (l:List Ps.Link):(l.flatMap lkS).length=2*l.length:=by
 induction l with
 |nil=>rfl
 |cons x l ih=>rw[List.flatMap_cons,List.length_append,ih,List.length_cons];show 2+_=_;omega
theorem OA (W:World)(i:Ps.Ins)(g:Nat)(hF:PoF W i)(sa:Option Addr)(sn sc:Nat)(hr:W.heap[g]? =some (.cells (aB i (.slice sa sn sc)).toArray 34 (0,0)))(hn:sn=i.links.length)(hlk:0<sn->∃sb so,sa=some ⟨sb,so,none⟩/\Az W sb so i.links)
 {R:Ending->World->Prop} (hR:∀v w,w.ownsRow W.heap.size 9 1 v (poS i).length (((poS i).map st).map .string)->Below W.heap.size W w->R (.returned v) w) {a:Act} {w:World} (hJ:poJ W g i sa sn sc 0 a w):
 BV.wp Tryz.prog (Ev.Qof Tryz.prog (Ev.ah Ev.dw poC).2 (bodyPost Tryz.prog Tryz.f123 R)) a w:=by
 have hgW:g<W.heap.size:=(Array.getElem?_eq_some_iff.1 hr).1
 have hs:=hF.sz
 have hnl:=hF.nlk
 have hpl:=Bh i
 have QW:∀(W2:World) (h:Nat) (x:Ps.Link),x.ref.size<=40->W2.heap[g]? =W.heap[g]?->W2.heap[h]? =some (.cells (lkC x).toArray 129 (0,0))->RowsIn W2 W.heap.size 40 [h] (aJ g i (.slice sa sn sc)++[(none,[]),(some (h,0),lkC x)]):=λW2 h x hx h1 h2=>
  ⟨⟨rfl,.inl hgW,⟨_,h1.trans hr⟩,oP (λx e=>by cases e) hs.iref hs.isender hs.icp hs.iasset⟩,⟨rfl,.inr (List.mem_singleton.2 rfl),⟨_,h2⟩,λy hy=>by
    unfold lkC at hy
    simp at hy
    subst hy
    exact hx⟩,trivial⟩
 have hR0:RowsIn W W.heap.size 40 [] (aJ g i (.slice sa sn sc)):=⟨⟨rfl,.inl hgW,⟨_,hr⟩,oP (λx e=>by cases e) hs.iref hs.isender hs.icp hs.iasset⟩,trivial⟩
 have hOb:∀b:Bool,Ok Tryz.prog (ppB W.heap.size W [] (aJ g i (.slice sa sn sc)) b):=λb=>(mD (Nat.le_refl _) (λg hg=>by cases hg) hR0).big.hint
 show(Code.loop (Ev.jA BV)).wp _ _ _ _
 refine wp_loop (λa w'=>∃j:Nat,j<=sn/\poJ W g i sa sn sc j a w') (λa _=>sn-(intOf (a.tmps.getD 26 undef)).toNat) ⟨0,Nat.zero_le _,hJ⟩ ?_
 clear hJ a w
 rintro a w ⟨j,hj,h1,h2,h3,⟨v,h4,hown⟩,h24,h25,h26,hS⟩
 obtain⟨l,hl⟩:∃l,l=uj i++(i.links.take j).flatMap lkS:=⟨_,rfl⟩
 rw[<-hl]at hown
 have hll:l.length<=30:=by rw[hl,List.length_append,GV,List.length_take];omega
 have hK:∀b:Bool,FrP (ppB W.heap.size W [] (aJ g i (.slice sa sn sc)) b) 50 [(1,.p 0 0),(3,.sl l),(24,.v (.slice sa sn sc)),(25,.v (.int .i64 (sn:Int))),(26,.v (.int .i64 (j:Int)))] a w:=λb=>aI (aI (aI (aI (aI (bW h1 h2) h26 rfl) h25 rfl) h24 rfl) h4 (Le (M:=ppB W.heap.size W [] (aJ g i (.slice sa sn sc)) b) hown (λg _ h=>by cases h))) h3 rfl
 by_cases hlt:j<sn
 ·obtain⟨sb,so,rfl,hrow⟩:=hlk (by omega)
  obtain⟨x,hx⟩:∃x,i.links[j]? =some x:=⟨_,List.getElem?_eq_getElem (by omega)⟩
  obtain⟨hxt,hxr⟩:=hF.lks x (List.mem_of_getElem? hx)
  obtain⟨hsb,hxc⟩:=Al hrow hx
  have hcw:∀w,vo 195 #[.int .i64 x.type] w (Ps.bw (if x.type=0 then Ps.eU else Ps.bu)):=λw=>(Kr (W0:=w) hxt).1 w (Below.refl _ _)
  have hcz:=(Kr (W0:=W) hxt).2
  refine KT (M:=ppB W.heap.size W [] (aJ g i (.slice (some ⟨sb,so,none⟩) sn sc)) true) (c:=(Ev.ah (Ev.bH 8) (Ev.jA BV)).1) (fs:=(Ev.ah (Ev.bH 8) (Ev.jA BV)).2) (hOb true) [1,3,24,25,26] (us:=[.p 0 0,.sl l,.v (.slice (some ⟨sb,so,none⟩) sn sc),.v (.int .i64 (sn:Int)),.v (.int .i64 (j:Int))]) (ps:=[decide ((j:Int)<(sn:Int))=true]) (by kernel_rfl) ⟨by simpa using hlt,trivial⟩ (hK true) (Nr hS rfl rfl rfl) ?_
  intro b w1 b1 b2 hv hS1
  obtain⟨⟨v1,e1,d1⟩,hv⟩:=hv.cons
  obtain⟨⟨v3,e3,d3⟩,hv⟩:=hv.cons
  obtain⟨⟨v24,e24,d24⟩,hv⟩:=hv.cons
  obtain⟨⟨v25,e25,d25⟩,hv⟩:=hv.cons
  obtain⟨⟨v26,e26,d26⟩,-⟩:=hv.cons
  have d1:v1=.pointer (some ⟨g,0,none⟩):=d1
  have d24:v24=.slice (some ⟨sb,so,none⟩) sn sc:=d24
  have d25:v25=.int .i64 (sn:Int):=d25
  have d26:v26=.int .i64 (j:Int):=d26
  subst d1 d24 d25 d26
  have hB1:W.heap.size<=w1.heap.size:=hS1.size
  have hw1:w1.heap[sb]? =W.heap[sb]?:=hS1.block sb (.inl hsb)
  have hg1:w1.heap[g]? =W.heap[g]?:=hS1.block g (.inl hgW)
  refine Ji (A2:=.pointer (some ⟨sb,so+j*2,none⟩)) (A3:=.pointer (some ⟨w1.heap.size,0,none⟩)) (V:=.agg (lkC x).toArray) (W1:=w1.alloc (.cells #[.int .i64 0,.string ⟨#[]⟩] 129)) (W:=w1.alloc (.cells (lkC x).toArray 129)) rfl rfl (ix_lk rfl (eval_at e24) (eval_at e26) hlt) rfl rfl rfl rfl rfl rfl rfl rfl rfl (by decide) (by rw[b1];decide) (by rw[b1];decide) (by rw[b1];decide) (PE w1 sb (so+j*2) x (hxc w1 hw1 0 _ rfl) (hxc w1 hw1 1 _ rfl)) (al_lk w1) (sv_lk w1 x) ?_
  intro b' c1 c2 c3 c4
  obtain⟨h,hh⟩:∃h,h=w1.heap.size:=⟨_,rfl⟩
  have hbel:Below w1.heap.size w1 (w1.alloc (.cells (lkC x).toArray 129)):=(Below.refl _ _).alloc (Nat.le_refl _) _
  have hrow2:(w1.alloc (.cells (lkC x).toArray 129)).heap[h]? =some (.cells (lkC x).toArray 129 (0,0)):=by rw[hh];exact aC w1 _
  rw[<-hh]at c3
  have hlt2:h<(w1.alloc (.cells (lkC x).toArray 129)).heap.size:=(Array.getElem?_eq_some_iff.1 hrow2).1
  generalize w1.alloc (.cells (lkC x).toArray 129)=W2 at hbel hrow2 hlt2⊢
  have hg2:W2.heap[g]? =W.heap[g]?:=(hbel.block g (by omega)).trans hg1
  have hO2:Ok Tryz.prog (ppB W.heap.size W2 [h] (aJ g i (.slice (some ⟨sb,so,none⟩) sn sc)++[(none,[]),(some (h,0),lkC x)]) true):=(mD (by omega) (λg hg=>by rw[List.mem_singleton]at hg;omega) (QW W2 h x hxr hg2 hrow2)).big.hint
  have d3':=Ec d3
  have hown2:W2.ownsRow W.heap.size 9 1 v3 l.length ((l.map st).map .string):=own_below d3' hbel
  have hne:∀q,v3.ownBlock=some q->q∉[h]:=λq hq hm=>by
   rw[List.mem_singleton]at hm
   subst hm
   have:=(World.ownsRow.lt (d3':w1.ownsRow W.heap.size 9 1 v3 l.length ((l.map st).map .string)) q hq).2
   omega
  have hK2:FrP (ppB W.heap.size W2 [h] (aJ g i (.slice (some ⟨sb,so,none⟩) sn sc)++[(none,[]),(some (h,0),lkC x)]) true) 50 [(1,.p 0 0),(3,.sl l),(5,.p 3 0),(24,.v (.slice (some ⟨sb,so,none⟩) sn sc)),(25,.v (.int .i64 (sn:Int))),(26,.v (.int .i64 (j:Int)))] b' W2:=
   aI (aI (aI (aI (aI (aI (bW (c2.trans b1) (c1.trans b2)) ((c4 26 (by decide) (by decide) (by decide)).trans e26) rfl) ((c4 25 (by decide) (by decide) (by decide)).trans e25) rfl) ((c4 24 (by decide) (by decide) (by decide)).trans e24) rfl) c3 rfl) ((c4 3 (by decide) (by decide) (by decide)).trans e3) (Le (M:=ppB W.heap.size W2 [h] (aJ g i (.slice (some ⟨sb,so,none⟩) sn sc)++[(none,[]),(some (h,0),lkC x)]) true) hown2 hne)) ((c4 1 (by decide) (by decide) (by decide)).trans e1) rfl
  show(Ev.fmC (Ev.ah (Ev.bH 8) (Ev.jA BV)).2 0).wp _ _ _ _
  refine Jn hO2 [1,3,24,25,26] (us:=[.p 0 0,.sl (l++lkS x),.v (.slice (some ⟨sb,so,none⟩) sn sc),.v (.int .i64 (sn:Int)),.v (.int .i64 (j:Int))])
   (ps:=[ai W.heap.size W2 (Ev.az (aJ g i (.slice (some ⟨sb,so,none⟩) sn sc)++[(none,[]),(some (h,0),lkC x)])) 195 [.r 3 0] (.str 5 (Ps.bw (if x.type=0 then Ps.eU else Ps.bu))),l.length+(lkS x).length<=1000000]) (by kernel_rfl)
   ⟨ol (x:=.int .i64 x.type) Pk rfl (λw _=>hcw w) hcz,by show l.length+2<=1000000;omega,trivial⟩ hK2 (Sw.start _) ?_
  intro b3 w3 f1 f2 hv Ct
  obtain⟨⟨v1,e1,d1⟩,hv⟩:=hv.cons
  obtain⟨⟨v3,e3,d3⟩,hv⟩:=hv.cons
  obtain⟨⟨v24,e24,d24⟩,hv⟩:=hv.cons
  obtain⟨⟨v25,e25,d25⟩,hv⟩:=hv.cons
  obtain⟨⟨v26,e26,d26⟩,-⟩:=hv.cons
  show(Ev.fmC (Ev.ah (Ev.bH 8) (Ev.jA BV)).2 2).wp _ _ _ _
  have hK3:FrP (ppB W.heap.size W2 [h] (aJ g i (.slice (some ⟨sb,so,none⟩) sn sc)++[(none,[]),(some (h,0),lkC x)]) true) 50 [(1,.p 0 0),(3,.sl (l++lkS x)),(24,.v (.slice (some ⟨sb,so,none⟩) sn sc)),(25,.v (.int .i64 (sn:Int))),(26,.v (.int .i64 (j:Int)))] b3 w3:=
   aI (aI (aI (aI (aI (bW f1 f2) e26 d26) e25 d25) e24 d24) e3 d3) e1 d1
  refine Jn hO2 [1,3,24,25,26] (us:=[.p 0 0,.sl (l++lkS x),.v (.slice (some ⟨sb,so,none⟩) sn sc),.v (.int .i64 (sn:Int)),.v (.int .i64 (IntKind.i64.wrap ((j:Int)+1)))]) (ps:=[]) (by kernel_rfl) trivial hK3 Ct ?_
  clear hK3 e1 d1 e3 d3 e24 d24 e25 d25 e26 d26 f1 f2 Ct
  intro b3 w3 f1 f2 hv Ct
  obtain⟨⟨v1,e1,d1⟩,hv⟩:=hv.cons
  obtain⟨⟨v3,e3,d3⟩,hv⟩:=hv.cons
  obtain⟨⟨v24,e24,d24⟩,hv⟩:=hv.cons
  obtain⟨⟨v25,e25,d25⟩,hv⟩:=hv.cons
  obtain⟨⟨v26,e26,d26⟩,-⟩:=hv.cons
  have d26:v26=.int .i64 _:=d26
  rw[IntWalk.i64_in _ (by omega),show(j:Int)+1=((j+1:Nat):Int)from by omega]at d26
  subst d26
  have el:l++lkS x=uj i++(i.links.take (j+1)).flatMap lkS:=by
   rw[hl,List.take_add_one,hx]
   simp[List.append_assoc]
  have d3':=Ec d3
  rw[el]at d3'
  have hSS:Sw (ppM W.heap.size W [] (aJ g i (.slice (some ⟨sb,so,none⟩) sn sc))) w3:=Jk (M2:=ppB W.heap.size W2 [h] (aJ g i (.slice (some ⟨sb,so,none⟩) sn sc)++[(none,[]),(some (h,0),lkC x)]) true) (Nr hS1 rfl rfl rfl) rfl rfl (hbel.mono hB1) Ct
  refine⟨⟨j+1,by omega,f1,f2,e1.trans (congrArg some d1),⟨v3,e3,d3'⟩,e24.trans (congrArg some d24),e25.trans (congrArg some d25),e26,hSS⟩,?_⟩
  have q1:b3.tmps.getD 26 undef=.int .i64 ((j+1:Nat):Int):=eval_at e26
  have q2:a.tmps.getD 26 undef=.int .i64 (j:Int):=eval_at h26
  rw[q1,q2]
  show sn-(((j+1:Nat):Int)).toNat<sn-((j:Nat):Int).toNat
  omega
 ·obtain rfl:j=sn:=by omega
  refine Ke (hOb false) [1,3] (k:=0) (us:=[.p 0 0,.sl l]) (ps:=[decide ((j:Int)<(j:Int))=false]) (by kernel_rfl) ⟨by simp,trivial⟩ (hK false) (Nr hS rfl rfl rfl) ?_
  intro b w1 b1 b2 hv hS1
  obtain⟨⟨v1,e1,d1⟩,hv⟩:=hv.cons
  obtain⟨⟨v3,e3,d3⟩,-⟩:=hv.cons
  show(Ev.fmC (Ev.ah Ev.dw poC).2 1).wp Tryz.prog _ b w1
  refine bY (M:=ppB W.heap.size W [] (aJ g i (.slice sa j sc)) false) (n:=50) (K:=[(1,.p 0 0),(3,.sl l)]) (hOb false) [2] (us:=[.sl (oA i.hold [wb Ps.bK] (oA i.reserve [wb Ps.ae] l))]) (ps:=cond i.reserve [l.length+[wb Ps.ae].length<=1000000] []++cond i.hold [(oA i.reserve [wb Ps.ae] l).length+[wb Ps.bK].length<=1000000] [])
   (by
    clear hOb hR0 QW hK hr hlk hR hF hs
    clear hl
    obtain⟨ref,kind,sender,cp,side,asset,qty,am,td,sd,pr,pa,ml,ho,re,li⟩:=i
    cases re<;>cases ho<;>(show _=_;kernel_rfl)) (nX (pu λ_=>by show l.length+1<=_;omega) (pu λ_=>by
     rw[M6,List.length_append]
     have:(ls i.reserve [wb Ps.ae]).length<=1:=by cases i.reserve<;>simp[ls]
     show l.length+_+1<=_
     omega)) (aI (aI (bW b1 b2) e3 d3) e1 d1) hS1 ?_
  intro b4 w4 _ hd hv hS4
  refine zx rfl hd hv λv hv=>hR v w4 ?_ (cK rfl hS4)
  rw[M6,M6]at hv
  have e:l++ls i.reserve [wb Ps.ae]++ls i.hold [wb Ps.bK]=poS i:=by
   rw[hl,hn,List.take_length]
   rfl
  rw[e]at hv
  exact hv
structure PiF (W0:World)(i:Ps.Ins):Prop where
 env:iM W0
 ok:Ps.lF bN.valid i
 sz:ru (kU i)
theorem PiF.below {W0 W:World}{i:Ps.Ins}(h:PiF W0 i)(hb:Below W0.heap.size W0 W):PiF W i:=⟨h.env.below hb,h.ok,h.sz⟩
theorem PiF.po {W0:World}{i:Ps.Ins}(h:PiF W0 i):PoF W0 i where
 pr:=h.ok.prio
 prW:=GK h.env h.ok.prio
 lot:=λhp=>mP h.env (by have h1:=h.ok.lot hp;have h2:=h.ok.qty (by have:=h.ok.part hp;omega);omega)
 lks:=λx hx=>⟨(h.ok.link x hx).1,by have:=(fE (by omega) (h.ok.link x hx).2).2;omega⟩
 nlk:=h.ok.links
 sz:=h.sz
theorem LH:∀args w,(callFunc 123 args).run Tryz.prog w=.ok (.enter 123 args) w:=enters_of Tryz.func123 (by kernel_rfl) rfl
theorem Mg:∀args w,(callFunc 126 args).run Tryz.prog w=.ok (.enter 126 args) w:=enters_of Tryz.func126 (by kernel_rfl) rfl
theorem Lc:∀args w,(callFunc 66 args).run Tryz.prog w=.ok (.enter 66 args) w:=enters_of Tryz.func66 (by kernel_rfl) rfl
theorem NG:∀args w,(callFunc 197 args).run Tryz.prog w=.ok (.enter 197 args) w:=enters_of Tryz.func197 (by kernel_rfl) rfl
theorem Ll:∀args w,(callFunc 198 args).run Tryz.prog w=.ok (.enter 198 args) w:=enters_of Tryz.func198 (by kernel_rfl) rfl
theorem si {B:Nat}{W:World}{cell:Nat->Nat->Value}{f:FuncId}{u:PV}{x:Value}{l:List SB}(he:∀args w,(callFunc f args).run Tryz.prog w=.ok (.enter f args) w)(hu:jr cell u=some x)(h:∀w,Below B W w->zQ f #[x] w l):ai B W cell f [u] (.sls l):=⟨he,trivial,λvals w hw hd=>by
 obtain⟨v,rfl,hv⟩:=O6 hd
 obtain rfl:=um hu hv
 exact h w hw⟩
theorem Df (w:World)(i:Ps.Ins)(hF:PiF w i)(sa:Option Addr)(sn sc:Nat)(hn:sn=i.links.length)(hlk:fq w sa sn i.links):zQ 123 #[.agg (aB i (.slice sa sn sc)).toArray] w (poS i):=by
 unfold zQ
 go_enter Tryz.func123,Tryz.ntmps123
 refine oU λa ha hdf=>?_
 refine wp_seq ?_
 have hb:Below w.heap.size w (w.alloc (.cells (aB i (.slice sa sn sc)).toArray 34)):=(Below.refl _ _).alloc (Nat.le_refl _) _
 refine rW rfl rfl rfl rfl rfl (by decide) (by rw[ha];show 1<50;decide) (by rw[ha];show 2<50;decide) (ui w i sa sn sc rfl (eval_at (by rw[ha];rfl))) λb b1 b2 b3 b4=>?_
 have hr:(w.alloc (.cells (aB i (.slice sa sn sc)).toArray 34)).heap[w.heap.size]? =some (.cells (aB i (.slice sa sn sc)).toArray 34 (0,0)):=aC w _
 generalize w.alloc (.cells (aB i (.slice sa sn sc)).toArray 34)=W at hb hr⊢
 have Cu:=(hF.below hb).po
 refine OI W i w.heap.size Cu sa sn sc hr (b1.trans hdf) (b2.trans (by rw[ha];rfl)) b3 b4 λb2 w2 v c1 c2 c3 c4 c5 c6 c7 c8 c9=>?_
 refine OA W i w.heap.size Cu sa sn sc hr hn (λh0=>by
  obtain⟨sb,so,e,h⟩:=hlk h0
  exact⟨sb,so,e,h W hb⟩) (λv w' h1 h2=>⟨v,rfl,dH h1 hb.size,hb.trans (h2.mono hb.size)⟩) ⟨c1,c2,c3,⟨v,c4,by simpa using c5⟩,c6,c7,c8,c9⟩
noncomputable def plM (W:World)(rows:List (Option (Nat×Nat)×List Value)):Mem:=ppM W.heap.size W [] rows
theorem zI {W:World}{i:Ps.Ins}{g:Nat}{sa:Option Addr}{sn sc:Nat}(hs:ru (kU i))(hr:W.heap[g]? =some (.cells (aB i (.slice sa sn sc)).toArray 34 (0,0))):RowsIn W W.heap.size 40 [] (aJ g i (.slice sa sn sc)):=
 ⟨⟨rfl,.inl (Array.getElem?_eq_some_iff.1 hr).1,⟨_,hr⟩,oP (λx e=>by cases e) hs.iref hs.isender hs.icp hs.iasset⟩,trivial⟩
theorem za (w:World)(i:Ps.Ins)(hs:ru (kU i))(hsd:i.side=0\/i.side=1)(sa:Option Addr)(sn sc:Nat):vo 197 #[.agg (aB i (.slice sa sn sc)).toArray] w (Ps.fQ i):=by
 unfold vo
 go_enter Tryz.func197,Tryz.ntmps197
 refine oU λa ha hdf=>?_
 refine wp_seq ?_
 have hb:Below w.heap.size w (w.alloc (.cells (aB i (.slice sa sn sc)).toArray 34)):=(Below.refl _ _).alloc (Nat.le_refl _) _
 refine rW rfl rfl rfl rfl rfl (by decide) (by rw[ha];show 1<10;decide) (by rw[ha];show 2<10;decide) (ui w i sa sn sc rfl (eval_at (by rw[ha];rfl))) λb b1 b2 b3 b4=>?_
 have hr:(w.alloc (.cells (aB i (.slice sa sn sc)).toArray 34)).heap[w.heap.size]? =some (.cells (aB i (.slice sa sn sc)).toArray 34 (0,0)):=aC w _
 generalize w.alloc (.cells (aB i (.slice sa sn sc)).toArray 34)=W at hb hr⊢
 refine bY (M:=plM W (aJ w.heap.size i (.slice sa sn sc))) (n:=10) (K:=[(1,.p 0 0)]) (mD (Nat.le_refl _) (λg hg=>by cases hg) (zI hs hr)) [2] (us:=[.s (40,Ps.fQ i)]) (ps:=[]) (by
  clear hr hb ha hdf b1 b2 b3 b4 hs
  obtain⟨ref,kind,sender,cp,side,asset,qty,am,td,sd,pr,pa,ml,ho,re,li⟩:=i
  have hsd:side=0\/side=1:=hsd
  rcases hsd with rfl|rfl<;>(show _=_;kernel_rfl)) trivial (aI (bW (b2.trans (by rw[ha];rfl)) (b1.trans hdf)) b3 rfl) (Sw.start _) ?_
 intro a w' _ hd hv hS
 refine Fw rfl hd hv ⟨?_,hb.trans ((cK rfl hS).mono hb.size)⟩
 rw[st40]
 unfold Ps.fQ
 split
 ·exact hs.icp
 ·exact hs.isender
theorem CO (w:World)(i:Ps.Ins)(hs:ru (kU i))(hsd:i.side=0\/i.side=1)(sa:Option Addr)(sn sc:Nat):vo 198 #[.agg (aB i (.slice sa sn sc)).toArray] w (Ps.toT i):=by
 unfold vo
 go_enter Tryz.func198,Tryz.ntmps198
 refine oU λa ha hdf=>?_
 refine wp_seq ?_
 have hb:Below w.heap.size w (w.alloc (.cells (aB i (.slice sa sn sc)).toArray 34)):=(Below.refl _ _).alloc (Nat.le_refl _) _
 refine rW rfl rfl rfl rfl rfl (by decide) (by rw[ha];show 1<10;decide) (by rw[ha];show 2<10;decide) (ui w i sa sn sc rfl (eval_at (by rw[ha];rfl))) λb b1 b2 b3 b4=>?_
 have hr:(w.alloc (.cells (aB i (.slice sa sn sc)).toArray 34)).heap[w.heap.size]? =some (.cells (aB i (.slice sa sn sc)).toArray 34 (0,0)):=aC w _
 generalize w.alloc (.cells (aB i (.slice sa sn sc)).toArray 34)=W at hb hr⊢
 refine bY (M:=plM W (aJ w.heap.size i (.slice sa sn sc))) (n:=10) (K:=[(1,.p 0 0)]) (mD (Nat.le_refl _) (λg hg=>by cases hg) (zI hs hr)) [2] (us:=[.s (40,Ps.toT i)]) (ps:=[]) (by
  clear hr hb ha hdf b1 b2 b3 b4 hs
  obtain⟨ref,kind,sender,cp,side,asset,qty,am,td,sd,pr,pa,ml,ho,re,li⟩:=i
  have hsd:side=0\/side=1:=hsd
  rcases hsd with rfl|rfl<;>(show _=_;kernel_rfl)) trivial (aI (bW (b2.trans (by rw[ha];rfl)) (b1.trans hdf)) b3 rfl) (Sw.start _) ?_
 intro a w' _ hd hv hS
 refine Fw rfl hd hv ⟨?_,hb.trans ((cK rfl hS).mono hb.size)⟩
 rw[st40]
 unfold Ps.toT
 split
 ·exact hs.isender
 ·exact hs.icp
def vrS (i:Ps.Ins):List SB:=ls (decide (i.side=1)) [wb Ps.d9]++ls (decide (i.side=0)) [wb Ps.di]
noncomputable def pdS (i:Ps.Ins):List SB:=vrS i++[(40,i.ref),wb Ps.pV,(40,Ps.fQ i),wb Ps.sTo,(40,Ps.toT i),wb Ps.rR,(40,i.asset),wb Ps.fU,(20,Ps.dX i.quantity)]++(ls (decide (i.kind=1)) [wb Ps.dP,(20,Ps.bS i.amount)]++ls (decide (i.kind=2)) [wb Ps.jD])++[wb Ps.jO,(10,Ps.bA i.tradeDay),wb Ps.dU,(10,Ps.bA i.settleDay)]
noncomputable def pyS (i:Ps.Ins):List SB:=[wb Ps.BO,(40,i.ref),wb Ps.pV,(40,i.sender),wb Ps.sTo,(40,i.counterparty),wb Ps.bE,(20,Ps.bS i.amount),wb Ps.dU,(10,Ps.bA i.settleDay)]
noncomputable def pgS (i:Ps.Ins):List SB:=[(8,Ps.bw (if i.kind=3 then Ps.fF else Ps.dR)),(40,i.ref),wb Ps.sBy,(40,i.sender),wb Ps.rR,(40,i.asset),wb Ps.fU,(20,Ps.dX i.quantity),wb Ps.dU,(10,Ps.bA i.settleDay)]
noncomputable def psS (i:Ps.Ins):List SB:=if i.kind=3\/i.kind=4 then pgS i else if i.kind=0 then pyS i++poS i else pdS i++poS i
noncomputable def pdRes (i:Ps.Ins)(rows:List (Option (Nat×Nat)×List Value))(f:FuncId)(us:List PV):Option Rv:=match us with
 |[.a 0 0 16]=>if f=197 then some (.str 40 (Ps.fQ i))else if f=198 then some (.str 40 (Ps.toT i))else if f=123 then some (.sls (poS i))else if f=126 then some (.sls (pdS i))else none
 |[.r 0 1]=>if f=124 then some (.str 8 (Ps.bw (if i.kind=3 then Ps.fF else Ps.dR)))else none
 |_=>QY rows f us
noncomputable def pdM (W:World)(i:Ps.Ins)(rows:List (Option (Nat×Nat)×List Value)):Mem:=seW W.heap.size W [] 40 rows (pdRes i rows)
noncomputable def pdB (W:World)(i:Ps.Ins)(rows:List (Option (Nat×Nat)×List Value)):Mem:={pdM W i rows with big:=true}
theorem Ml {W:World}{i:Ps.Ins}{rows:List (Option (Nat×Nat)×List Value)}(hr:RowsIn W W.heap.size 40 [] rows):Ok Tryz.prog (pdM W i rows):=
 wL (Nat.le_refl _) (λg hg=>by cases hg) (λk g o l h=>by
  obtain⟨rfl,h2,⟨t,h3⟩,_⟩:=iA hr k g o l h
  exact⟨h2,gQ h3⟩) λk p l h=>(iA hr k p.1 p.2 l h).2.2.2
noncomputable def dlC:Code:=Ev.qO (Tryz.f126.body.getD .skip)
noncomputable def sbC:Code:=Ev.qO (Tryz.f66.body.getD .skip)
theorem Ay (w:World)(i:Ps.Ins)(hk:i.kind=1\/i.kind=2)(hF:PiF w i)(sa:Option Addr)(sn sc:Nat):zQ 126 #[.agg (aB i (.slice sa sn sc)).toArray] w (pdS i):=by
 unfold zQ
 go_enter Tryz.func126,Tryz.ntmps126
 refine oU λa ha hdf=>?_
 refine wp_seq ?_
 have hb:Below w.heap.size w (w.alloc (.cells (aB i (.slice sa sn sc)).toArray 34)):=(Below.refl _ _).alloc (Nat.le_refl _) _
 refine rW rfl rfl rfl rfl rfl (by decide) (by rw[ha];show 1<42;decide) (by rw[ha];show 2<42;decide) (ui w i sa sn sc rfl (eval_at (by rw[ha];rfl))) λb b1 b2 b3 b4=>?_
 have hr:(w.alloc (.cells (aB i (.slice sa sn sc)).toArray 34)).heap[w.heap.size]? =some (.cells (aB i (.slice sa sn sc)).toArray 34 (0,0)):=aC w _
 generalize w.alloc (.cells (aB i (.slice sa sn sc)).toArray 34)=W at hb hr⊢
 have Cu:=hF.below hb
 have hi:=hF.ok
 have hs:=hF.sz
 have P1:∀cell:Nat->Nat->Value,jr cell (.a 0 0 16)=some (.agg (aB i (.slice sa sn sc)).toArray)->ai W.heap.size W cell 197 [.a 0 0 16] (.str 40 (Ps.fQ i)):=λcell he=>ol NG he (λw _=>za w i hs hi.side sa sn sc) (by unfold Ps.fQ;split<;>first|exact hs.icp|exact hs.isender)
 have P2:∀cell:Nat->Nat->Value,jr cell (.a 0 0 16)=some (.agg (aB i (.slice sa sn sc)).toArray)->ai W.heap.size W cell 198 [.a 0 0 16] (.str 40 (Ps.toT i)):=λcell he=>ol Ll he (λw _=>CO w i hs hi.side sa sn sc) (by unfold Ps.toT;split<;>first|exact hs.isender|exact hs.icp)
 have P3:=mP Cu.env (q:=i.quantity) (by have:=hi.qty (by omega);omega)
 have P4:i.kind=1->CW W 121 i.amount 20 (Ps.bS i.amount):=λh=>zy Cu.env (by have:=hi.am (by omega);omega)
 have P5:=zi (W0:=W) (q:=i.tradeDay) (by have:=hi.trade hk;have:=hi.settle;omega)
 have P6:=zi (W0:=W) (q:=i.settleDay) hi.settle
 refine bY (M:=pdM W i (aJ w.heap.size i (.slice sa sn sc))) (n:=42) (code:=dlC) (K:=[(1,.p 0 0),(2,.sl [])]) (Ml (zI hs hr)) [2] (us:=[.sl (pdS i)])
  (ps:=[ai W.heap.size W (Ev.az (aJ w.heap.size i (.slice sa sn sc))) 197 [.a 0 0 16] (.str 40 (Ps.fQ i)),ai W.heap.size W (Ev.az (aJ w.heap.size i (.slice sa sn sc))) 198 [.a 0 0 16] (.str 40 (Ps.toT i)),ai W.heap.size W (Ev.az (aJ w.heap.size i (.slice sa sn sc))) 125 [.r 0 6] (.str 20 (Ps.dX i.quantity))]++(cond (decide (i.kind=1)) [ai W.heap.size W (Ev.az (aJ w.heap.size i (.slice sa sn sc))) 121 [.r 0 7] (.str 20 (Ps.bS i.amount))] []++[ai W.heap.size W (Ev.az (aJ w.heap.size i (.slice sa sn sc))) 122 [.r 0 8] (.str 10 (Ps.bA i.tradeDay)),ai W.heap.size W (Ev.az (aJ w.heap.size i (.slice sa sn sc))) 122 [.r 0 9] (.str 10 (Ps.bA i.settleDay))]))
  (by
   have hsd:=hi.side
   clear hr hb ha hdf b1 b2 b3 b4 hs hi Cu hF P1 P2 P3 P4 P5 P6
   obtain⟨ref,kind,sender,cp,side,asset,qty,am,td,sd,pr,pa,ml,ho,re,li⟩:=i
   have hsd:side=0\/side=1:=hsd
   have hk:kind=1\/kind=2:=hk
   rcases hsd with rfl|rfl<;>rcases hk with rfl|rfl<;>(show _=_;kernel_rfl))
  (nX ⟨P1 _ rfl,P2 _ rfl,spW kD rfl rfl P3,trivial⟩ (nX (pu λh=>spW qY rfl rfl (P4 (by simpa using h))) ⟨spW lN rfl rfl P5,spW lN rfl rfl P6,trivial⟩))
  (aI (aI (bW (b2.trans (by rw[ha];rfl)) (b1.trans hdf)) b4 (vU (.slice none 0 0) W _)) b3 rfl) (Sw.start _) ?_
 intro a w' _ hd hv hS
 exact zx rfl hd hv λv hv=>⟨v,rfl,dH hv hb.size,hb.trans ((cK rfl hS).mono hb.size)⟩
theorem GJ {i:Ps.Ins}(h:i.links.length<=8):(poS i).length<=30:=by
 unfold poS
 have:=Bh i
 rw[List.length_append,List.length_append,List.length_append,GV]
 have h1:(ls i.reserve [wb Ps.ae]).length<=1:=by cases i.reserve<;>simp[ls]
 have h2:(ls i.hold [wb Ps.bK]).length<=1:=by cases i.hold<;>simp[ls]
 omega
theorem FJ (i:Ps.Ins):(pdS i).length<=30:=by
 unfold pdS vrS
 cases decide (i.side=1)<;>cases decide (i.side=0)<;>cases decide (i.kind=1)<;>cases decide (i.kind=2)<;>simp[ls]
theorem IZ (w:World)(i:Ps.Ins)(hF:PiF w i)(sa:Option Addr)(sn sc:Nat)(hn:sn=i.links.length)(hlk:fq w sa sn i.links):zQ 66 #[.agg (aB i (.slice sa sn sc)).toArray] w (psS i):=by
 unfold zQ
 go_enter Tryz.func66,Tryz.ntmps66
 refine oU λa ha hdf=>?_
 refine wp_seq ?_
 have hb:Below w.heap.size w (w.alloc (.cells (aB i (.slice sa sn sc)).toArray 34)):=(Below.refl _ _).alloc (Nat.le_refl _) _
 refine rW rfl rfl rfl rfl rfl (by decide) (by rw[ha];show 1<47;decide) (by rw[ha];show 2<47;decide) (ui w i sa sn sc rfl (eval_at (by rw[ha];rfl))) λb b1 b2 b3 b4=>?_
 have hr:(w.alloc (.cells (aB i (.slice sa sn sc)).toArray 34)).heap[w.heap.size]? =some (.cells (aB i (.slice sa sn sc)).toArray 34 (0,0)):=aC w _
 generalize w.alloc (.cells (aB i (.slice sa sn sc)).toArray 34)=W at hb hr⊢
 have Cu:=hF.below hb
 have Po:=hlk.below hb
 have hi:=hF.ok
 have hs:=hF.sz
 have hO:Ok Tryz.prog (pdB W i (aJ w.heap.size i (.slice sa sn sc))):=(Ml (zI hs hr)).big
 have wT:FrP (pdB W i (aJ w.heap.size i (.slice sa sn sc))) 47 [(1,.p 0 0),(2,.sl [])] b W:=aI (aI (bW (b2.trans (by rw[ha];rfl)) (b1.trans hdf)) b4 (vU (.slice none 0 0) W _)) b3 rfl
 have P0:∀cell:Nat->Nat->Value,jr cell (.a 0 0 16)=some (.agg (aB i (.slice sa sn sc)).toArray)->ai W.heap.size W cell 123 [.a 0 0 16] (.sls (poS i)):=λcell he=>si LH he λw' hw'=>Df w' i (Cu.below hw') sa sn sc hn (Po.below hw')
 have P6:=zi (W0:=W) (q:=i.settleDay) hi.settle
 have hol:=GJ hi.links
 have hdl:=FJ i
 have fin:∀(us:List SB) (a:Act) (w':World),us=psS i->a.defers=[]->kF (pdB W i (aJ w.heap.size i (.slice sa sn sc))) [2] [.sl us] a w'->Sw (pdB W i (aJ w.heap.size i (.slice sa sn sc))) w'->bodyPost Tryz.prog Tryz.f66 (λe w'=>∃y,e=.returned y/\w'.ownsRow w.heap.size 9 1 y (psS i).length (((psS i).map st).map .string)/\Below w.heap.size w w') .ret a w':=λus a w' Jw hd hv hS=>by
  subst Jw
  exact zx rfl hd hv λv hv=>⟨v,rfl,dH hv hb.size,hb.trans ((cK (M:=pdB W i (aJ w.heap.size i (.slice sa sn sc))) rfl hS).mono hb.size)⟩
 by_cases hk0:i.kind=0
 ·have P4:=zy Cu.env (q:=i.amount) (by have:=hi.am (by omega);omega)
  refine bY (M:=pdB W i (aJ w.heap.size i (.slice sa sn sc))) (n:=47) (code:=sbC) (K:=[(1,.p 0 0),(2,.sl [])]) hO [2] (us:=[.sl (pyS i++poS i)])
   (ps:=[ai W.heap.size W (Ev.az (aJ w.heap.size i (.slice sa sn sc))) 121 [.r 0 7] (.str 20 (Ps.bS i.amount)),ai W.heap.size W (Ev.az (aJ w.heap.size i (.slice sa sn sc))) 122 [.r 0 9] (.str 10 (Ps.bA i.settleDay)),ai W.heap.size W (Ev.az (aJ w.heap.size i (.slice sa sn sc))) 123 [.a 0 0 16] (.sls (poS i)),(pyS i).length+(poS i).length<=1000000])
   (by
    clear fin hr hb ha hdf b1 b2 b3 b4 hs hi Cu hF Po hlk hO wT P0 P4 P6 hol hdl hn
    obtain⟨ref,kind,sender,cp,side,asset,qty,am,td,sd,pr,pa,ml,ho,re,li⟩:=i
    have hk0:kind=0:=hk0
    subst hk0
    show _=_
    kernel_rfl) ⟨spW qY rfl rfl P4,spW lN rfl rfl P6,P0 _ rfl,by show 10+_<=_;omega,trivial⟩ wT (Sw.start _) ?_
  exactλa w' _ hd hv hS=>fin _ a w' (by unfold psS;rw[if_neg (by omega),if_pos hk0]) hd hv hS
 by_cases hk3:i.kind=3\/i.kind=4
 ·have P3:=mP Cu.env (q:=i.quantity) (by have:=hi.qty (by omega);omega)
  have P7:∀cell:Nat->Nat->Value,cell 0 1=.int .i64 i.kind->ai W.heap.size W cell 124 [.r 0 1] (.str 8 (Ps.bw (if i.kind=3 then Ps.fF else Ps.dR))):=λcell he=>ol (x:=.int .i64 i.kind) Nv (by show some (cell 0 1)=_;rw[he]) (λw' hw'=>by
   rcases hk3 with h|h
   ·rw[h]
    exact(rO w' (Cu.env.kd w' hw') 3 _ rfl).mono λe w2 ⟨h1,h2⟩=>⟨h1,h2▸Below.refl _ _⟩
   ·rw[h]
    exact(rO w' (Cu.env.kd w' hw') 4 _ rfl).mono λe w2 ⟨h1,h2⟩=>⟨h1,h2▸Below.refl _ _⟩) (by split<;>decide)
  refine bY (M:=pdB W i (aJ w.heap.size i (.slice sa sn sc))) (n:=47) (code:=sbC) (K:=[(1,.p 0 0),(2,.sl [])]) hO [2] (us:=[.sl (pgS i)])
   (ps:=[ai W.heap.size W (Ev.az (aJ w.heap.size i (.slice sa sn sc))) 124 [.r 0 1] (.str 8 (Ps.bw (if i.kind=3 then Ps.fF else Ps.dR))),ai W.heap.size W (Ev.az (aJ w.heap.size i (.slice sa sn sc))) 125 [.r 0 6] (.str 20 (Ps.dX i.quantity)),ai W.heap.size W (Ev.az (aJ w.heap.size i (.slice sa sn sc))) 122 [.r 0 9] (.str 10 (Ps.bA i.settleDay))])
   (by
    clear fin hr hb ha hdf b1 b2 b3 b4 hs hi Cu hF Po hlk hO wT P0 P3 P6 P7 hol hdl hn hk0
    obtain⟨ref,kind,sender,cp,side,asset,qty,am,td,sd,pr,pa,ml,ho,re,li⟩:=i
    have hk3:kind=3\/kind=4:=hk3
    rcases hk3 with rfl|rfl<;>(show _=_;kernel_rfl)) ⟨P7 _ rfl,spW kD rfl rfl P3,spW lN rfl rfl P6,trivial⟩ wT (Sw.start _) ?_
  exactλa w' _ hd hv hS=>fin _ a w' (by unfold psS;rw[if_pos hk3]) hd hv hS
 ·have CV:i.kind=1\/i.kind=2:=by have:=hi.kind;omega
  have P8:∀cell:Nat->Nat->Value,jr cell (.a 0 0 16)=some (.agg (aB i (.slice sa sn sc)).toArray)->ai W.heap.size W cell 126 [.a 0 0 16] (.sls (pdS i)):=λcell he=>si Mg he λw' hw'=>Ay w' i CV (Cu.below hw') sa sn sc
  refine bY (M:=pdB W i (aJ w.heap.size i (.slice sa sn sc))) (n:=47) (code:=sbC) (K:=[(1,.p 0 0),(2,.sl [])]) hO [2] (us:=[.sl (pdS i++poS i)])
   (ps:=[ai W.heap.size W (Ev.az (aJ w.heap.size i (.slice sa sn sc))) 126 [.a 0 0 16] (.sls (pdS i)),ai W.heap.size W (Ev.az (aJ w.heap.size i (.slice sa sn sc))) 123 [.a 0 0 16] (.sls (poS i)),(pdS i).length+(poS i).length<=1000000])
   (by
    clear fin hr hb ha hdf b1 b2 b3 b4 hs hi Cu hF Po hlk hO wT P0 P6 P8 hol hdl hn hk0 hk3
    obtain⟨ref,kind,sender,cp,side,asset,qty,am,td,sd,pr,pa,ml,ho,re,li⟩:=i
    have CV:kind=1\/kind=2:=CV
    rcases CV with rfl|rfl<;>(show _=_;kernel_rfl)) ⟨P8 _ rfl,P0 _ rfl,by omega,trivial⟩ wT (Sw.start _) ?_
  exactλa w' _ hd hv hS=>fin _ a w' (by unfold psS;rw[if_neg hk3,if_neg hk0]) hd hv hS
noncomputable def chS (m:Ps.Amd):List SB:=ls m.hasAmount [wb Ps.bE,(20,Ps.bS m.amount)]++ls m.hasSettleDay [wb Ps.dU,(10,Ps.bA m.settleDay)]++ls m.hasPriority [(10,Ps.bw (Ps.fB m.priority))]++ls (m.hasPartial&&m.partial_) [wb Ps.aO,(20,Ps.dX m.minLot)]++ls (m.hasPartial&&!m.partial_) [wb Ps.dz]
def qP (g:Nat)(m:Ps.Amd):List (Option (Nat×Nat)×List Value):=[(some (g,0),aH m),(none,[])]
noncomputable def chC:Code:=Ev.qO (Tryz.f68.body.getD .skip)
theorem Jz:∀args w,(callFunc 68 args).run Tryz.prog w=.ok (.enter 68 args) w:=enters_of Tryz.func68 (by kernel_rfl) rfl
theorem Dl (w:World)(m:Ps.Amd)(hE:iM w)(hm:Ps.nJ m):zQ 68 #[.agg (aH m).toArray] w (chS m):=by
 unfold zQ
 go_enter Tryz.func68,Tryz.ntmps68
 refine oU λa ha hdf=>?_
 refine wp_seq ?_
 have hb:Below w.heap.size w (w.alloc (.cells (aH m).toArray 35)):=(Below.refl _ _).alloc (Nat.le_refl _) _
 refine rW rfl rfl rfl rfl rfl (by decide) (by rw[ha];show 1<48;decide) (by rw[ha];show 2<48;decide) (bx_amd w m rfl (eval_at (by rw[ha];rfl))) λb b1 b2 b3 b4=>?_
 have hr:(w.alloc (.cells (aH m).toArray 35)).heap[w.heap.size]? =some (.cells (aH m).toArray 35 (0,0)):=aC w _
 generalize w.alloc (.cells (aH m).toArray 35)=W at hb hr⊢
 have hEW:=hE.below hb
 have hR:RowsIn W W.heap.size 40 [] (qP w.heap.size m):=⟨⟨rfl,.inl (Array.getElem?_eq_some_iff.1 hr).1,⟨_,hr⟩,FR⟩,trivial⟩
 have P1:m.hasAmount=true->CW W 121 m.amount 20 (Ps.bS m.amount):=λh=>zy hEW (by have:=hm.am h;omega)
 have P2:CW W 122 m.settleDay 10 (Ps.bA m.settleDay):=zi hm.day
 have P3:CW W 128 m.priority 10 (Ps.bw (Ps.fB m.priority)):=GK hEW hm.prio
 have P4:(m.hasPartial&&m.partial_)=true->CW W 125 m.minLot 20 (Ps.dX m.minLot):=λh=>mP hEW (by have:=hm.lot (Bool.and_eq_true_iff.1 h).2;omega)
 refine bY (M:=ppM W.heap.size W [] (qP w.heap.size m)) (n:=48) (code:=chC) (K:=[(1,.p 0 0),(2,.sl [])]) (mD (Nat.le_refl _) (λg hg=>by cases hg) hR) [2] (us:=[.sl (chS m)])
  (ps:=cond m.hasAmount [ai W.heap.size W (Ev.az (qP w.heap.size m)) 121 [.r 0 4] (.str 20 (Ps.bS m.amount))] []++(cond m.hasSettleDay [ai W.heap.size W (Ev.az (qP w.heap.size m)) 122 [.r 0 5] (.str 10 (Ps.bA m.settleDay))] []++(cond m.hasPriority [ai W.heap.size W (Ev.az (qP w.heap.size m)) 128 [.r 0 6] (.str 10 (Ps.bw (Ps.fB m.priority)))] []++cond (m.hasPartial&&m.partial_) [ai W.heap.size W (Ev.az (qP w.heap.size m)) 125 [.r 0 8] (.str 20 (Ps.dX m.minLot))] [])))
  (by
   clear hr hb ha hdf b1 b2 b3 b4 hR hE hEW hm P1 P2 P3 P4
   obtain⟨x1,x2,x3,x4,x5,x6,x7,x8,x9⟩:=m
   cases x1<;>cases x2<;>cases x3<;>cases x4<;>cases x8<;>(show _=_;kernel_rfl))
  (nX (pu λh=>spW qY rfl rfl (P1 h)) (nX (pu λ_=>spW lN rfl rfl P2) (nX (pu λ_=>spW Bn rfl rfl P3) (pu λh=>spW kD rfl rfl (P4 h)))))
  (aI (aI (bW (b2.trans (by rw[ha];rfl)) (b1.trans hdf)) b4 (vU (.slice none 0 0) W _)) b3 rfl) (Sw.start _) ?_
 intro a w' _ hd hv hS
 exact zx rfl hd hv λv hv=>⟨v,rfl,dH hv hb.size,hb.trans ((cK rfl hS).mono hb.size)⟩
theorem MP:∀ts:List ByteArray,Lib.join (ts.map (·.data.toList)) [32]=(Ps.dI ts).data.toList
 |[]=>rfl
 |t::ts=>by
  rw[MO]
  show([32]:List UInt8).intercalate (t.data.toList::ts.map (·.data.toList))=(t++og ts).data.toList
  have key:∀(us:List ByteArray) (x:List UInt8),([32]:List UInt8).intercalate (x::us.map (·.data.toList))=x++(og us).data.toList:=by
   intro us
   induction us with
   |nil=>intro x;simp[List.intercalate,og]
   |cons u us ih=>
    intro x
    have h:=ih u.data.toList
    rw[List.map_cons]
    have e:([32]:List UInt8).intercalate (x::u.data.toList::us.map (·.data.toList))=x++([32]++([32]:List UInt8).intercalate (u.data.toList::us.map (·.data.toList))):=by simp[List.intercalate,List.intersperse]
    rw[e,h]
    show _=x++(⟨#[32]⟩++u++og us).data.toList
    simp[ByteArray.data_append]
  rw[key]
  simp[ByteArray.data_append]
theorem PG {w:World}{B n':Nat}{t:TypeId}{a:Option Addr}{n c:Nat}{xs:List Value}(h:w.ownsRow B t 1 (.slice a n c) n' xs):n=n'/\n'<=c:=by
 obtain⟨_,⟨hs,h0⟩|⟨g,cap,cur,hv,hB,hh,hnc,_⟩⟩:=h
 ·cases hs
  exact⟨h0.symm,by omega⟩
 ·cases hv
  exact⟨rfl,hnc⟩
theorem KR:∀args w,(callFunc 69 args).run Tryz.prog w=.ok (.enter 69 args) w:=enters_of Tryz.func69 (by kernel_rfl) rfl
theorem yg {B:Nat}{W:World}{cell:Nat->Nat->Value}{l:List SB}(h0:0<l.length)(hl:l.length<=1000)(hz:(Ps.dI (l.map st)).size<=2000):ai B W cell 69 [.sl l,.s (1,⟨#[32]⟩)] (.str 2000 (Ps.dI (l.map st))):=⟨KR,hz,λvals w _ hd=>by
 obtain⟨v,v2,rfl,⟨B',hv⟩,hv2⟩:=d0_2 hd
 have hv2:v2=.string (st (1,⟨#[32]⟩)):=hv2
 rw[show st (1,(⟨#[32]⟩:ByteArray))=⟨#[32]⟩from jP (Nat.le_refl 1)]at hv2
 subst hv2
 obtain⟨bk,c,rfl,hbk,hcell⟩:=gP hv h0
 have hcap:=PG hv
 have hcells:∀(j:Nat) x,(l.map st)[j]? =some x->w.cell? ⟨bk,0+j,none⟩=some (.string x):=λj x hj=>by
  rw[Nat.zero_add]
  refine hcell j _ ?_
  rw[List.getElem?_map,hj]
  rfl
 have e:=MP (l.map st)
 have hj:=Tryz.strings_Join bk 0 c (l.map st) ⟨#[32]⟩ w hcells hbk (by rw[List.length_map];omega) (by rw[List.length_map];exact hcap.2) (by
  rw[show(⟨#[32]⟩:ByteArray).data.toList=[32]from rfl,e]
  have:(Ps.dI (l.map st)).data.toList.length=(Ps.dI (l.map st)).size:=Array.length_toList
  omega)
 rw[show(⟨#[32]⟩:ByteArray).data.toList=[32]from rfl,e,List.length_map]at hj
 refine hj.mono λe w' ⟨h1,h2⟩=>⟨_,h1,?_,h2⟩
 show Value.string _=Value.string _
 congr 1⟩
theorem ja (w:Lx.Bs):st (wb w)=Ps.bw w:=jP (by show w.toArray.size<=w.length;simp)
theorem dS {n:Nat}{x:ByteArray}(h:x.size<=n):st (n,x)=x:=jP h
theorem LM (l:List Ps.Link)(h:∀x∈l,(x.type=0\/x.type=1)/\x.ref.size<=40):(l.flatMap lkS).map st=l.flatMap Ps.Pt:=by
 induction l with
 |nil=>rfl
 |cons x l ih=>
  rw[List.flatMap_cons,List.flatMap_cons,List.map_append,ih (λy hy=>h y (List.mem_cons_of_mem _ hy))]
  congr 1
  obtain⟨hx,hr⟩:=h x List.mem_cons_self
  show[st (5,_),st (40,x.ref)]=[_,x.ref]
  rw[dS hr,dS (by rcases hx with h|h<;>(rw[h];decide))]
theorem Bd {i:Ps.Ins}(hi:Ps.lF bN.valid i):(poS i).map st=(Ps.kV i).flatMap Ps.opT:=by
 have hl:=LM i.links λx hx=>⟨(hi.link x hx).1,by have:=(fE (by omega) (hi.link x hx).2).2;omega⟩
 have hp:st (10,Ps.bw (Ps.fB i.priority))=Ps.bw (Ps.fB i.priority):=dS (by
  have h3:i.priority=0\/i.priority=1\/i.priority=2:=by have:=hi.prio;omega
  rcases h3 with h|h|h<;>(rw[h];decide))
 have hm:i.partial_=true->st (20,Ps.dX i.minLot)=Ps.dX i.minLot:=λh=>dS (by
  have h1:=hi.lot h
  have h2:=hi.qty (by have:=hi.part h;omega)
  have h3:=h2.2
  unfold Ps.bM at h3
  obtain⟨n,e⟩:∃n:Nat,i.minLot=n:=⟨i.minLot.toNat,by omega⟩
  rw[e]
  exact Di n (by omega))
 have hl2:(i.links.map Ps.Op.lnk).flatMap Ps.opT=i.links.flatMap Ps.Pt:=by
  rw[List.flatMap_map]
  rfl
 unfold poS uj Ps.kV Ps.oPr Ps.oPa Ps.oRe Ps.oHo
 simp only[List.map_append,List.flatMap_append,hl,hl2,List.append_assoc]
 have e1:(ls (!(decide (i.priority=0))) [(10,Ps.bw (Ps.fB i.priority))]).map st=(if i.priority=0 then[]else[Ps.Op.prio i.priority]).flatMap Ps.opT:=by
  by_cases h:i.priority=0
  ·rw[if_pos h];simp[ls,h]
  ·rw[if_neg h]
   simp only[ls,h,decide_false,Bool.not_false,cond_true,List.map_cons,List.map_nil,hp]
   rfl
 have e2:(ls i.partial_ [wb Ps.aO,(20,Ps.dX i.minLot)]).map st=(if i.partial_=true then[Ps.Op.part i.minLot]else[]).flatMap Ps.opT:=by
  cases h:i.partial_ with
  |false=>rfl
  |true=>
   show[st (wb Ps.aO),st (20,Ps.dX i.minLot)]=_
   rw[ja,hm h]
   rfl
 have e3:(ls i.reserve [wb Ps.ae]).map st=(if i.reserve=true then[Ps.Op.res]else[]).flatMap Ps.opT:=by
  cases i.reserve with
  |false=>rfl
  |true=>show[st (wb Ps.ae)]=_;rw[ja];rfl
 have e4:(ls i.hold [wb Ps.bK]).map st=(if i.hold=true then[Ps.Op.hold]else[]).flatMap Ps.opT:=by
  cases i.hold with
  |false=>rfl
  |true=>show[st (wb Ps.bK)]=_;rw[ja];rfl
 rw[e1,e2,e3,e4]
theorem EK {q:Int}(h:0<=q/\q<=Ps.bM):st (20,Ps.dX q)=Ps.dX q:=dS (by
 have h3:=h.2
 unfold Ps.bM at h3
 obtain⟨n,rfl⟩:∃n:Nat,q=n:=⟨q.toNat,by omega⟩
 exact Di n (by omega))
theorem zF {q:Int}(h:0<=q/\q<=Ps.bM):st (20,Ps.bS q)=Ps.bS q:=dS (by have:=Ps.iV h.2;omega)
theorem EY {q:Int}(h:0<=q/\q<=Ps.bV):st (10,Ps.bA q)=Ps.bA q:=dS (qU q h.1 h.2)
theorem KN {i:Ps.Ins}(hi:Ps.lF bN.valid i)(hs:ru (kU i)):(psS i).map st=Ps.ry Ps.bA i (Ps.kV i):=by
 have hr:st (40,i.ref)=i.ref:=dS hs.iref
 have h1:st (40,i.sender)=i.sender:=dS hs.isender
 have h2:st (40,i.counterparty)=i.counterparty:=dS hs.icp
 have h3:st (40,i.asset)=i.asset:=dS hs.iasset
 have hd:=EY hi.settle
 unfold psS Ps.ry
 by_cases hk:i.kind=3\/i.kind=4
 ·rw[if_pos hk,if_pos hk]
  unfold pgS
  simp only[List.map_cons,List.map_nil,ja,hr,h1,h3,hd,EK (q:=i.quantity) (by have:=hi.qty (by omega);omega)]
  rw[dS (by split<;>decide)]
 ·rw[if_neg hk,if_neg hk]
  by_cases h0:i.kind=0
  ·rw[if_pos h0,if_pos h0,List.map_append,Bd hi]
   unfold pyS
   simp only[List.map_cons,List.map_nil,ja,hr,h1,h2,hd,zF (q:=i.amount) (by have:=hi.am (by omega);omega)]
  ·rw[if_neg h0,if_neg h0,List.map_append,Bd hi]
   have hf:st (40,Ps.fQ i)=Ps.fQ i:=dS (by unfold Ps.fQ;split<;>first|exact hs.icp|exact hs.isender)
   have ht:st (40,Ps.toT i)=Ps.toT i:=dS (by unfold Ps.toT;split<;>first|exact hs.icp|exact hs.isender)
   have hq:=EK (q:=i.quantity) (by have:=hi.qty (by omega);omega)
   have htd:=EY (q:=i.tradeDay) (by have:=hi.trade (by have:=hi.kind;omega);have:=hi.settle;omega)
   have hv:(vrS i).map st=[Ps.bw (if i.side=1 then Ps.d9 else Ps.di)]:=by
    unfold vrS
    rcases hi.side with h|h<;>(rw[h];simp[ls,ja])
   unfold pdS
   rw[List.map_append,List.map_append,List.map_append,hv]
   by_cases hk1:i.kind=1
   ·rw[if_pos hk1]
    have hc:=zF (q:=i.amount) (by have:=hi.am (by omega);omega)
    have e:(ls (decide (i.kind=1)) [wb Ps.dP,(20,Ps.bS i.amount)]++ls (decide (i.kind=2)) [wb Ps.jD]).map st=[Ps.bw Ps.dP,Ps.bS i.amount]:=by
     rw[hk1]
     simp[ls,ja,hc]
    rw[e]
    simp only[List.map_cons,List.map_nil,ja,hr,h3,hd,hf,ht,hq,htd]
    rfl
   ·rw[if_neg hk1]
    have hk2:i.kind=2:=by have:=hi.kind;omega
    have e:(ls (decide (i.kind=1)) [wb Ps.dP,(20,Ps.bS i.amount)]++ls (decide (i.kind=2)) [wb Ps.jD]).map st=[Ps.bw Ps.jD]:=by
     rw[hk2]
     simp[ls,ja]
    rw[e]
    simp only[List.map_cons,List.map_nil,ja,hr,h3,hd,hf,ht,hq,htd]
    rfl
theorem MX {m:Ps.Amd}(hm:Ps.nJ m):(chS m).map st=Ps.wu Ps.bA m:=by
 have c1:m.hasAmount=true->st (20,Ps.bS m.amount)=Ps.bS m.amount:=λh=>zF (by have:=hm.am h;omega)
 have c2:=EY hm.day
 have c3:st (10,Ps.bw (Ps.fB m.priority))=Ps.bw (Ps.fB m.priority):=dS (by
  have h3:m.priority=0\/m.priority=1\/m.priority=2:=by have:=hm.prio;omega
  rcases h3 with h|h|h<;>(rw[h];decide))
 have c4:m.partial_=true->st (20,Ps.dX m.minLot)=Ps.dX m.minLot:=λh=>EK (by have:=hm.lot h;omega)
 unfold chS Ps.wu Ps.Hw Ps.qK Ps.rz Ps.nk
 generalize m.hasAmount=x1 at c1⊢
 generalize m.partial_=x8 at c4⊢
 cases x1<;>cases m.hasSettleDay<;>cases m.hasPriority<;>cases m.hasPartial<;>cases x8<;>simp[ls,ja,c1,c2,c3,c4]
def jg (W:World)(Q:Ps.Req)(lv:Value)(x:ByteArray)(e:Int):Prop:=Calls Tryz.prog 24 #[.agg (aA Q lv)] W λr W'=>r=.returned (.tuple #[.string x,.int .i64 e])/\Below W.heap.size W W'
theorem lp_req (w:World)(Q:Ps.Req)(a:Option Addr)(n c:Nat):Sem.run Tryz.prog (storeCells ⟨w.heap.size,0,none⟩ (aA Q (.slice a n c)).toList) (w.alloc (.cells sI 37))=.ok () (w.alloc (.cells (aA Q (.slice a n c)) 37)):=
 run_storeCells_new w 37 sI _ (by kernel_rfl) rfl (bU Q a n c)
theorem bx_req (w:World)(Q:Ps.Req)(a:Option Addr)(n c:Nat){ρ:Operand->Value}{o:Oper}{x:Operand}(ho:o.op=.box 37 x)(hx:ρ x=.agg (aA Q (.slice a n c))):(execOp ρ o).run Tryz.prog w=.ok (.value (.pointer (some ⟨w.heap.size,0,none⟩))) (w.alloc (.cells (aA Q (.slice a n c)) 37)):=by
 have h:=lp_req w Q a n c
 unfold sI at h
 unfold execOp
 simp only[ho,hx]
 go_simp
 try rfl
def opW (k:Int):Lx.Bs:=if k=1 then Ps.lT else if k=2 then Ps.eQ else if k=3 then Ps.bK else Ps.fI
def bX (g:Nat)(Q:Ps.Req)(lv:Value):List (Option (Nat×Nat)×List Value):=[(some (g,0),mX Q lv),(none,[])]
noncomputable def QP (Q:Ps.Req)(e:Int)(f:FuncId)(us:List PV):Option Rv:=match us with
 |[.a 0 0 28]=>if f=30 then some (.val (.int .i64 e))else none
 |[.a 0 3 16]=>if f=66 then some (.sls (psS Q.ins))else none
 |[.a 0 19 9]=>if f=68 then some (.sls (chS Q.amd))else none
 |[.r 0 0]=>if f=67 then some (.str 8 (Ps.bw (opW Q.op)))else none
 |[.sl l,.s _]=>if f=69 then some (.str 2000 (Ps.dI (l.map st)))else none
 |_=>none
noncomputable def ptM (W:World)(Q:Ps.Req)(e:Int)(rows:List (Option (Nat×Nat)×List Value)):Mem:={seW W.heap.size W [] 40 rows (QP Q e)with big:=true}
noncomputable def ptC:Code:=Ev.qO (Tryz.f24.body.getD .skip)
theorem Ee {W:World}{Q:Ps.Req}{e:Int}{rows:List (Option (Nat×Nat)×List Value)}(hr:RowsIn W W.heap.size 40 [] rows):Ok Tryz.prog (ptM W Q e rows):=
 (wL (Nat.le_refl _) (λg hg=>by cases hg) (λk g o l h=>by
  obtain⟨rfl,h2,⟨t,h3⟩,_⟩:=iA hr k g o l h
  exact⟨h2,gQ h3⟩) λk p l h=>(iA hr k p.1 p.2 l h).2.2.2).big
theorem om:∀args w,(callFunc 30 args).run Tryz.prog w=.ok (.enter 30 args) w:=enters_of Tryz.func30 (by kernel_rfl) rfl
theorem AZ {M:Mem}{fn:Func}{r1 r2:Nat}{x:SB}{y:Value}{us:List PV}{ts:List Nat}{a:Act}{w:World}{R:Ending->World->Prop}(hres:fn.results=#[.tmp r1,.tmp r2])(hd:a.defers=[])(hv:kF M (r1::r2::ts) (.s x::.v y::us) a w)(hR:R (.returned (.tuple #[.string (st x),y])) w):bodyPost Tryz.prog fn R .ret a w:=by
 obtain⟨⟨v,h1,h2⟩,hv⟩:=hv.cons
 obtain⟨⟨v2,h3,h4⟩,_⟩:=hv.cons
 have h2:v=.string (st x):=h2
 have h4:v2=y:=h4
 subst h2 h4
 refine bodyPost_ret (results_tmp2 hres _ _ _) hd ?_
 rw[show a.tmps.getD r1 undef=.string (st x)from eval_at h1,show a.tmps.getD r2 undef=v2 from eval_at h3]
 exact hR
theorem oM (w:World)(Q:Ps.Req)(a:Option Addr)(n c:Nat){R:Ending->World->Prop}
 (h:∀(W:World) (b:Act),Below w.heap.size w W->W.heap[w.heap.size]? =some (.cells (mX Q (.slice a n c)).toArray 37 (0,0))->b.defers=[]->b.tmps.size=35->b.tmps[1]? =some (.pointer (some ⟨w.heap.size,0,none⟩))->b.tmps[2]? =some (.string ⟨#[]⟩)->b.tmps[3]? =some (.int .i64 0)->ptC.wp Tryz.prog (bodyPost Tryz.prog Tryz.f24 R) b W):
 Calls Tryz.prog 24 #[.agg (aA Q (.slice a n c))] w R:=by
 go_enter Tryz.func24,Tryz.ntmps24
 refine oU λb ha hdf=>?_
 refine wp_seq ?_
 have hb:Below w.heap.size w (w.alloc (.cells (aA Q (.slice a n c)) 37)):=(Below.refl _ _).alloc (Nat.le_refl _) _
 refine wp_bx3 rfl rfl rfl rfl rfl rfl rfl rfl (by decide) (by decide) (by decide) (by rw[ha];show 1<35;decide) (by rw[ha];show 2<35;decide) (by rw[ha];show 3<35;decide) (bx_req w Q a n c rfl (eval_at (by rw[ha];rfl))) λb b1 b2 b3 b4 b5=>?_
 have hr:(w.alloc (.cells (aA Q (.slice a n c)) 37)).heap[w.heap.size]? =some (.cells (aA Q (.slice a n c)) 37 (0,0)):=aC w _
 exact h _ b hb hr (b1.trans hdf) (b2.trans (by rw[ha];rfl)) b3 b4 b5
def tsts:List (Nat×Bool)->Nat->Option Bool
 |[],_=>none
 |(s,b)::r,t=>if s=t then some b else tsts r t
abbrev dG:Nat:=9223372036854775807
structure xE (i:Ps.Ins):Prop where
 len:i.links.length<=20
 ref:i.ref.size<=100
 sender:i.sender.size<=100
 cp:i.counterparty.size<=100
 asset:i.asset.size<=100
 link:∀x∈i.links,x.ref.size<=100
theorem O0 (w:World)(i:Ps.Ins)(a:Option Addr)(n c:Nat){ρ:Operand->Value}{o:Oper}{x:Operand}(ho:o.op=.box 24 x)(hx:ρ x=.agg (aB i (.slice a n c)).toArray):(execOp ρ o).run Tryz.prog w=.ok (.value (.pointer (some ⟨w.heap.size,0,none⟩))) (w.alloc (.cells (aB i (.slice a n c)).toArray 24)):=by
 have h:=lq_ins w i a n c
 unfold xc at h
 unfold execOp
 simp only[ho,hx]
 go_simp
 try rfl
theorem F3 {M:Mem}{fn:Func}{r:Nat}{x:Value}{us:List PV}{ts:List Nat}{a:Act}{w:World}{R:Ending->World->Prop}(hres:fn.results=#[.tmp r])(hd:a.defers=[])(hv:kF M (r::ts) (.v x::us) a w)(hR:R (.returned x) w):bodyPost Tryz.prog fn R .ret a w:=by
 obtain⟨⟨v,h1,h2⟩,_⟩:=hv.cons
 have h2:v=x:=h2
 subst h2
 refine bodyPost_ret (results_tmp hres _ _ _) hd ?_
 rw[show a.tmps.getD r undef=v from eval_at h1]
 exact hR
noncomputable def ftM (W:World)(rows:List (Option (Nat×Nat)×List Value))(n:Int)(b:Bool)(l:List (Nat×Bool)):Mem:={ {seM W.heap.size W [] dG rows (λ_ _=>none)with oth:=xk 22 0 15 n b}with tst:=tsts l}
noncomputable def ftC:Code:=Ev.qO (Tryz.f31.body.getD .skip)
noncomputable def ftLp:Code:=(Ev.ah Ev.dw ftC).1
theorem o8 {i:Ps.Ins}{lv:Value}(hl:∀x,lv≠.string x)(hz:mY i):∀x,Value.string x∈aB i lv->x.size<=dG:=λx hx=>by
 obtain⟨h1,h2,h3,h4,_⟩:=hz
 unfold aB at hx
 simp at hx
 rcases hx with rfl|rfl|rfl|rfl|h
 ·exact h1
 ·exact h2
 ·exact h3
 ·exact h4
 ·exact absurd h.symm (hl x)
theorem bO {x:ByteArray}(h:Sz x):(st (dG,x)).size=x.size:=by rw[dS h]
def ftJ (W:World)(g:Nat)(i:Ps.Ins)(sa:Option Addr)(sn sc j:Nat)(a:Act)(w:World):Prop:=a.tmps.size=47/\a.defers=[]/\a.tmps[1]? =some (.pointer (some ⟨g,0,none⟩))/\a.tmps[3]? =some (.int .i64 j)/\(∀x∈i.links.take j,x.ref.size<=100)/\Sw (ftM W (aJ g i (.slice sa sn sc)) sn false []) w
theorem CJ {W w:World}{r1 r2:List (Option (Nat×Nat)×List Value)}{n m:Int}{b c:Bool}{l k:List (Nat×Bool)}(h:Sw (ftM W r1 n b l) w):Sw (ftM W r2 m c k) w:=⟨h.os,h.tape,h.output,h.size,h.block⟩
theorem O1 (w W:World)(hb:Below w.heap.size w W)(i:Ps.Ins)(g:Nat)(hz:mY i)(sa:Option Addr)(sn sc:Nat)(hr:W.heap[g]? =some (.cells (aB i (.slice sa sn sc)).toArray 24 (0,0)))(hn:sn=i.links.length)(hlk:0<sn->∃sb so,sa=some ⟨sb,so,none⟩/\Az W sb so i.links)
 (hF:(∀x∈i.links,x.ref.size<=100)->xE i) (h20:sn<=20) {a:Act} {w':World} (hJ:ftJ W g i sa sn sc 0 a w'):
 ftLp.wp Tryz.prog (Ev.Qof Tryz.prog (Ev.ah Ev.dw ftC).2 (bodyPost Tryz.prog Tryz.f31 λe w'=>∃b,e=.returned (.bool b)/\(b=true↔xE i)/\Below w.heap.size w w')) a w':=by
 have hgW:g<W.heap.size:=(Array.getElem?_eq_some_iff.1 hr).1
 have hr0:=gQ hr
 show(Code.loop (Ev.jA ftLp)).wp _ _ _ _
 refine wp_loop (λa w'=>∃j:Nat,j<=sn/\ftJ W g i sa sn sc j a w') (λa _=>sn-(intOf (a.tmps.getD 3 undef)).toNat) ⟨0,Nat.zero_le _,hJ⟩ ?_
 clear hJ a w'
 rintro a w' ⟨j,hj,h1,h2,h3,h4,hall,hS⟩
 by_cases hlt:j<sn
 ·obtain⟨sb,so,rfl,hrow⟩:=hlk (by omega)
  obtain⟨x,hx⟩:∃x,i.links[j]? =some x:=⟨_,List.getElem?_eq_getElem (by omega)⟩
  have hxz:Sz x.ref:=hz.2.2.2.2 x (List.mem_of_getElem? hx)
  obtain⟨hsb,hxc⟩:=Al hrow hx
  have hO:∀l,Ok Tryz.prog (ftM W (De (aJ g i (.slice (some ⟨sb,so,none⟩) sn sc)) j sb so x) (sn:Int) true l):=λl=>((E8 (Nat.le_refl _) (λg hg=>by cases hg) (λk g' o l hk=>by
   rcases k with _|_|_|_|k
   ·cases hk;exact⟨.inl hgW,hr0⟩
   ·cases hk
   ·cases hk
   ·cases hk;exact⟨.inl hsb,hxc⟩
   ·cases hk) (λk p l hk=>by
   rcases k with _|_|_|_|k
   ·cases hk;exact o8 (λx e=>by cases e) hz
   ·cases hk
   ·cases hk
   ·cases hk
    intro y hy
    simp at hy
    subst hy
    exact hxz
   ·cases hk)).withOth (K5 (.inl rfl) (cp:=sc) (sa:=some ⟨sb,so,none⟩) rfl rfl λ_=>⟨hlt,sb,so,rfl,rfl⟩)).withTst
  have wT:∀l,FrP (ftM W (De (aJ g i (.slice (some ⟨sb,so,none⟩) sn sc)) j sb so x) (sn:Int) true l) 47 [(1,.p 0 0),(3,.r 2 0)] a w':=λl=>aI (aI (bW h1 h2) h4 rfl) h3 rfl
  by_cases QR:100<(x.ref.size:Int)
  ·refine bY (hO [(36,true),(46,true)]) [2] (us:=[.v (.bool false)]) (ps:=[decide ((j:Int)<(sn:Int))=true,decide (100<((st (dG,x.ref)).size:Int))=true]) (by kernel_rfl) ⟨by simpa using hlt,by rw[bO hxz];simpa using QR,trivial⟩ (wT _) (CJ hS) ?_
   intro b w2 b1 b2 hv hS2
   show bodyPost Tryz.prog Tryz.f31 (λe w'=>∃b,e=.returned (.bool b)/\(b=true↔xE i)/\Below w.heap.size w w') .ret b w2
   exact F3 rfl b2 hv ⟨false,rfl,⟨(λh=>by cases h),λh=>by have:=h.link x (List.mem_of_getElem? hx);omega⟩,hb.trans ((cK (M:=ftM W (De (aJ g i (.slice (some ⟨sb,so,none⟩) sn sc)) j sb so x) (sn:Int) true [(36,true),(46,true)]) rfl hS2).mono hb.size)⟩
  ·refine Jn (hO [(36,true),(46,false)]) [1,3] (us:=[.p 0 0,.v (.int .i64 (IntKind.i64.wrap ((j:Int)+1)))]) (ps:=[decide ((j:Int)<(sn:Int))=true,decide (100<((st (dG,x.ref)).size:Int))=false]) (by kernel_rfl) ⟨by simpa using hlt,by rw[bO hxz];simpa using QR,trivial⟩ (wT _) (CJ hS) ?_
   intro b w2 b1 b2 hv hS2
   obtain⟨⟨v1,e1,d1⟩,hv⟩:=hv.cons
   obtain⟨⟨v3,e3,d3⟩,-⟩:=hv.cons
   have d3:v3=.int .i64 _:=d3
   rw[IntWalk.i64_in _ (by omega),show(j:Int)+1=((j+1:Nat):Int)from by omega]at d3
   subst d3
   refine⟨⟨j+1,by omega,b1,b2,e1.trans (congrArg some d1),e3,λy hy=>?_,CJ hS2⟩,?_⟩
   ·rw[List.take_add_one,hx]at hy
    rcases List.mem_append.1 hy with h|h
    ·exact hall y h
    ·simp at h
     subst h
     omega
   ·have q1:b.tmps.getD 3 undef=.int .i64 ((j+1:Nat):Int):=eval_at e3
    have q2:a.tmps.getD 3 undef=.int .i64 (j:Int):=eval_at h4
    rw[q1,q2]
    show sn-(((j+1:Nat):Int)).toNat<sn-((j:Nat):Int).toNat
    omega
 ·obtain rfl:j=sn:=by omega
  have hR:∀(k g' o:Nat) (l:List Value),(aJ g i (.slice sa j sc)++[(none,[.int .i64 (j:Int)])])[k]? =some (some (g',o),l)->(g'<W.heap.size\/g'∈([]:List Nat))/\∀w:World,w.heap[g']? =W.heap[g']?->∀(j:Nat) (v:Value),l[j]? =some v->w.cell? ⟨g',o+j,none⟩=some v:=λk g' o l hk=>by
   rcases k with _|_|_|k
   ·cases hk;exact⟨.inl hgW,hr0⟩
   ·cases hk
   ·cases hk
   ·cases hk
  have hRs:∀(k:Nat) (p:Nat×Nat) (l:List Value),(aJ g i (.slice sa j sc)++[(none,[.int .i64 (j:Int)])])[k]? =some (some p,l)->∀x,Value.string x∈l->x.size<=dG:=λk p l hk=>by
   rcases k with _|_|_|k
   ·cases hk;exact o8 (λx e=>by cases e) hz
   ·cases hk
   ·cases hk
   ·cases hk
  have hO:Ok Tryz.prog (ftM W (aJ g i (.slice sa j sc)++[(none,[.int .i64 (j:Int)])]) (j:Int) false [(36,false)]):=((E8 (Nat.le_refl _) (λg hg=>by cases hg) hR hRs).withOth (qd (.inl rfl) (cp:=sc) (sa:=sa) rfl)).withTst
  refine Ke hO [1] (k:=0) (us:=[.p 0 0]) (ps:=[decide ((j:Int)<(j:Int))=false]) (by kernel_rfl) ⟨by simp,trivial⟩ (aI (aI (bW h1 h2) h4 rfl) h3 rfl:FrP (ftM W (aJ g i (.slice sa j sc)++[(none,[.int .i64 (j:Int)])]) (j:Int) false [(36,false)]) 47 [(1,.p 0 0),(3,.r 2 0)] a w') (CJ hS) ?_
  intro b w2 b1 b2 hv hS2
  show(Ev.fmC (Ev.ah Ev.dw ftC).2 1).wp Tryz.prog _ b w2
  refine bY (M:=ftM W (aJ g i (.slice sa j sc)++[(none,[.int .i64 (j:Int)])]) (j:Int) false [(36,false)]) (n:=47) (K:=[]) hO [2] (us:=[.v (.bool true)]) (ps:=[]) (by kernel_rfl) trivial (bW b1 b2) hS2 ?_
  intro b3 w3 _ hd hv Ct
  refine F3 rfl hd hv ⟨true,rfl,⟨λ_=>hF λx hx=>hall x ?_,λ_=>rfl⟩,hb.trans ((cK (M:=ftM W (aJ g i (.slice sa j sc)++[(none,[.int .i64 (j:Int)])]) (j:Int) false [(36,false)]) rfl Ct).mono hb.size)⟩
  rw[hn,List.take_length]
  exact hx
theorem Pd (w:World)(i:Ps.Ins)(hz:mY i)(sa:Option Addr)(sn sc:Nat)(hn:sn=i.links.length)(hlk:fq w sa sn i.links):Calls Tryz.prog 31 #[.agg (aB i (.slice sa sn sc)).toArray] w λe w'=>∃b,e=.returned (.bool b)/\(b=true↔xE i)/\Below w.heap.size w w':=by
 go_enter Tryz.func31,Tryz.ntmps31
 refine oU λa ha hdf=>?_
 refine wp_seq ?_
 have hb:Below w.heap.size w (w.alloc (.cells (aB i (.slice sa sn sc)).toArray 24)):=(Below.refl _ _).alloc (Nat.le_refl _) _
 refine rW rfl rfl rfl rfl rfl (by decide) (by rw[ha];show 1<47;decide) (by rw[ha];show 2<47;decide) (O0 w i sa sn sc rfl (eval_at (by rw[ha];rfl))) λb b1 b2 b3 b4=>?_
 have hr:(w.alloc (.cells (aB i (.slice sa sn sc)).toArray 24)).heap[w.heap.size]? =some (.cells (aB i (.slice sa sn sc)).toArray 24 (0,0)):=aC w _
 generalize w.alloc (.cells (aB i (.slice sa sn sc)).toArray 24)=W at hb hr⊢
 have hgW:w.heap.size<W.heap.size:=(Array.getElem?_eq_some_iff.1 hr).1
 have hr0:=gQ hr
 obtain⟨z1,z2,z3,z4,z5⟩:=id hz
 have hO:∀l,Ok Tryz.prog (ftM W (aJ w.heap.size i (.slice sa sn sc)) (sn:Int) false l):=λl=>((E8 (Nat.le_refl _) (λg hg=>by cases hg) (λk g' o l hk=>by
  rcases k with _|_|k
  ·cases hk;exact⟨.inl hgW,hr0⟩
  ·cases hk
  ·cases hk) (λk p l hk=>by
  rcases k with _|_|k
  ·cases hk;exact o8 (λx e=>by cases e) hz
  ·cases hk
  ·cases hk)).withOth (qd (.inl rfl) (cp:=sc) (sa:=sa) rfl)).withTst
 have wT:∀l,FrP (ftM W (aJ w.heap.size i (.slice sa sn sc)) (sn:Int) false l) 47 [(1,.p 0 0)] b W:=λl=>aI (bW (b2.trans (by rw[ha];rfl)) (b1.trans hdf)) b3 rfl
 have fin:∀(l:List (Nat×Bool)),¬xE i->∀(a:Act) (w':World),a.tmps.size=47->a.defers=[]->kF (ftM W (aJ w.heap.size i (.slice sa sn sc)) (sn:Int) false l) [2] [.v (.bool false)] a w'->Sw (ftM W (aJ w.heap.size i (.slice sa sn sc)) (sn:Int) false l) w'->bodyPost Tryz.prog Tryz.f31 (λe w'=>∃b,e=.returned (.bool b)/\(b=true↔xE i)/\Below w.heap.size w w') .ret a w':=λl hno a w' _ hd hv hS=>
  F3 rfl hd hv ⟨false,rfl,⟨(λh=>by cases h),λh=>absurd h hno⟩,hb.trans ((cK (M:=ftM W (aJ w.heap.size i (.slice sa sn sc)) (sn:Int) false l) rfl hS).mono hb.size)⟩
 by_cases h1:(20:Int)<(sn:Int)
 ·exact bY (code:=ftC) (hO [(7,true)]) [2] (us:=[.v (.bool false)]) (ps:=[decide ((20:Int)<(sn:Int))=true]) (by kernel_rfl) ⟨by simpa using h1,trivial⟩ (wT _) (Sw.start _) (fin _ λh=>by have:=h.len;omega)
 by_cases h2:(100:Int)<(i.ref.size:Int)
 ·exact bY (code:=ftC) (hO [(7,false),(12,true)]) [2] (us:=[.v (.bool false)]) (ps:=[decide ((20:Int)<(sn:Int))=false,decide (100<((st (dG,i.ref)).size:Int))=true]) (by kernel_rfl) ⟨by simpa using h1,by rw[bO z1];simpa using h2,trivial⟩ (wT _) (Sw.start _) (fin _ λh=>by have:=h.ref;omega)
 by_cases h3:(100:Int)<(i.sender.size:Int)
 ·exact bY (code:=ftC) (hO [(7,false),(12,false),(18,true)]) [2] (us:=[.v (.bool false)]) (ps:=[decide ((20:Int)<(sn:Int))=false,decide (100<((st (dG,i.ref)).size:Int))=false,decide (100<((st (dG,i.sender)).size:Int))=true]) (by kernel_rfl) ⟨by simpa using h1,by rw[bO z1];simpa using h2,by rw[bO z2];simpa using h3,trivial⟩ (wT _) (Sw.start _) (fin _ λh=>by have:=h.sender;omega)
 by_cases h4:(100:Int)<(i.counterparty.size:Int)
 ·exact bY (code:=ftC) (hO [(7,false),(12,false),(18,false),(24,true)]) [2] (us:=[.v (.bool false)]) (ps:=[decide ((20:Int)<(sn:Int))=false,decide (100<((st (dG,i.ref)).size:Int))=false,decide (100<((st (dG,i.sender)).size:Int))=false,decide (100<((st (dG,i.counterparty)).size:Int))=true]) (by kernel_rfl) ⟨by simpa using h1,by rw[bO z1];simpa using h2,by rw[bO z2];simpa using h3,by rw[bO z3];simpa using h4,trivial⟩ (wT _) (Sw.start _) (fin _ λh=>by have:=h.cp;omega)
 by_cases h5:(100:Int)<(i.asset.size:Int)
 ·exact bY (code:=ftC) (hO [(7,false),(12,false),(18,false),(24,false),(30,true)]) [2] (us:=[.v (.bool false)]) (ps:=[decide ((20:Int)<(sn:Int))=false,decide (100<((st (dG,i.ref)).size:Int))=false,decide (100<((st (dG,i.sender)).size:Int))=false,decide (100<((st (dG,i.counterparty)).size:Int))=false,decide (100<((st (dG,i.asset)).size:Int))=true]) (by kernel_rfl) ⟨by simpa using h1,by rw[bO z1];simpa using h2,by rw[bO z2];simpa using h3,by rw[bO z3];simpa using h4,by rw[bO z4];simpa using h5,trivial⟩ (wT _) (Sw.start _) (fin _ λh=>by have:=h.asset;omega)
 refine KT (code:=ftC) (c:=ftLp) (fs:=(Ev.ah Ev.dw ftC).2) (hO [(7,false),(12,false),(18,false),(24,false),(30,false)]) [1,3] (us:=[.p 0 0,.v (.int .i64 0)]) (ps:=[decide ((20:Int)<(sn:Int))=false,decide (100<((st (dG,i.ref)).size:Int))=false,decide (100<((st (dG,i.sender)).size:Int))=false,decide (100<((st (dG,i.counterparty)).size:Int))=false,decide (100<((st (dG,i.asset)).size:Int))=false]) (by kernel_rfl) ⟨by simpa using h1,by rw[bO z1];simpa using h2,by rw[bO z2];simpa using h3,by rw[bO z3];simpa using h4,by rw[bO z4];simpa using h5,trivial⟩ (wT _) (Sw.start _) ?_
 intro a2 w2 c1 c2 hv hS
 obtain⟨⟨v1,e1,d1⟩,hv⟩:=hv.cons
 obtain⟨⟨v3,e3,d3⟩,-⟩:=hv.cons
 exact O1 w W hb i w.heap.size hz sa sn sc hr hn (λh0=>by
  obtain⟨sb,so,e,h⟩:=hlk h0
  exact⟨sb,so,e,h W hb⟩) (λh=>⟨by omega,by omega,by omega,by omega,by omega,h⟩) (by omega) ⟨c1,c2,e1.trans (congrArg some d1),e3.trans (congrArg some d3),(λx hx=>by simp at hx),CJ hS⟩
noncomputable def uM (i:Ps.Ins):Bool:=@decide (xE i) (Classical.propDecidable _)
theorem Cb (i:Ps.Ins):uM i=true↔xE i:=@decide_eq_true_iff _ (Classical.propDecidable _)
theorem Jf (w:World)(i:Ps.Ins)(hz:mY i)(sa:Option Addr)(sn sc:Nat)(hn:sn=i.links.length)(hlk:fq w sa sn i.links):Calls Tryz.prog 31 #[.agg (aB i (.slice sa sn sc)).toArray] w λe w'=>e=.returned (.bool (uM i))/\Below w.heap.size w w':=
 (Pd w i hz sa sn sc hn hlk).mono λe w' ⟨b,h1,h2,h3⟩=>by
  have hf:=Cb i
  have key:b=uM i:=by
   cases b with
   |true=>exact(hf.2 (h2.1 rfl)).symm
   |false=>
    cases hb:uM i with
    |false=>rfl
    |true=>exact absurd (h2.2 (hf.1 hb)) (by decide)
  exact⟨by rw[h1,key],h3⟩
theorem JJ:∀args w,(callFunc 31 args).run Tryz.prog w=.ok (.enter 31 args) w:=enters_of Tryz.func31 (by kernel_rfl) rfl
theorem OP (w:World)(Q:Ps.Req)(a:Option Addr)(n c:Nat){ρ:Operand->Value}{o:Oper}{x:Operand}(ho:o.op=.box 28 x)(hx:ρ x=.agg (aA Q (.slice a n c))):(execOp ρ o).run Tryz.prog w=.ok (.value (.pointer (some ⟨w.heap.size,0,none⟩))) (w.alloc (.cells (aA Q (.slice a n c)) 28)):=by
 have h:=qj w Q a n c
 unfold sI at h
 unfold execOp
 simp only[ho,hx]
 go_simp
 try rfl
structure kG (Q:Ps.Req):Prop where
 ins:xE Q.ins
 sender:Q.sender.size<=100
 ref:Q.ref.size<=100
def smRes (b:Bool)(f:FuncId)(us:List PV):Option Rv:=match us with
 |[.a 0 3 16]=>if f=31 then some (.val (.bool b))else none
 |_=>none
noncomputable def smM (W:World)(g:Nat)(Q:Ps.Req)(lv:Value)(b:Bool)(l:List (Nat×Bool)):Mem:={seW W.heap.size W [] dG (bX g Q lv) (smRes b)with tst:=tsts l}
noncomputable def smC:Code:=Ev.qO (Tryz.f23.body.getD .skip)
theorem Lt {Q:Ps.Req}{lv:Value}(hl:∀x,lv≠.string x)(hz:mY Q.ins)(h1:Sz Q.sender)(h2:Sz Q.ref):∀x,Value.string x∈mX Q lv->x.size<=dG:=λx hx=>by
 unfold mX at hx
 rcases List.mem_append.1 hx with hx|hx
 ·rcases List.mem_append.1 hx with hx|hx
  ·simp at hx
   rcases hx with rfl|rfl
   ·exact h1
   ·exact h2
  ·exact o8 hl hz x hx
 ·unfold aH at hx
  simp at hx
theorem Kq (w:World)(Q:Ps.Req)(hz:mY Q.ins)(z1:Sz Q.sender)(z2:Sz Q.ref)(sa:Option Addr)(sn sc:Nat)(hn:sn=Q.ins.links.length)(hlk:fq w sa sn Q.ins.links):Calls Tryz.prog 23 #[.agg (aA Q (.slice sa sn sc))] w λe w'=>∃b,e=.returned (.bool b)/\(b=true↔kG Q)/\Below w.heap.size w w':=by
 go_enter Tryz.func23,Tryz.ntmps23
 refine oU λa ha hdf=>?_
 refine wp_seq ?_
 have hb:Below w.heap.size w (w.alloc (.cells (aA Q (.slice sa sn sc)) 28)):=(Below.refl _ _).alloc (Nat.le_refl _) _
 refine rW rfl rfl rfl rfl rfl (by decide) (by rw[ha];show 1<18;decide) (by rw[ha];show 2<18;decide) (OP w Q sa sn sc rfl (eval_at (by rw[ha];rfl))) λb b1 b2 b3 b4=>?_
 have hr:(w.alloc (.cells (aA Q (.slice sa sn sc)) 28)).heap[w.heap.size]? =some (.cells (mX Q (.slice sa sn sc)).toArray 28 (0,0)):=aC w _
 generalize w.alloc (.cells (aA Q (.slice sa sn sc)) 28)=W at hb hr⊢
 have hgW:w.heap.size<W.heap.size:=(Array.getElem?_eq_some_iff.1 hr).1
 have hr0:=gQ hr
 have hO:∀l,Ok Tryz.prog (smM W w.heap.size Q (.slice sa sn sc) (uM Q.ins) l):=λl=>(wL (Nat.le_refl _) (λg hg=>by cases hg) (λk g' o l hk=>by
  rcases k with _|_|k
  ·cases hk;exact⟨.inl hgW,hr0⟩
  ·cases hk
  ·cases hk) (λk p l hk=>by
  rcases k with _|_|k
  ·cases hk;exact Lt (λx e=>by cases e) hz z1 z2
  ·cases hk
  ·cases hk)).withTst
 have wT:∀l,FrP (smM W w.heap.size Q (.slice sa sn sc) (uM Q.ins) l) 18 [(1,.p 0 0)] b W:=λl=>aI (bW (b2.trans (by rw[ha];rfl)) (b1.trans hdf)) b3 rfl
 have P:ai W.heap.size W (Ev.az (bX w.heap.size Q (.slice sa sn sc))) 31 [.a 0 3 16] (.val (.bool (uM Q.ins))):=uH (x:=.agg (aB Q.ins (.slice sa sn sc)).toArray) JJ rfl λw' hw'=>Jf w' Q.ins hz sa sn sc hn (hlk.below (hb.trans (hw'.mono hb.size)))
 have hfit:=Cb Q.ins
 have fin:∀(x:Bool) (l:List (Nat×Bool)),(x=true↔kG Q)->∀(a:Act) (w':World),a.tmps.size=18->a.defers=[]->kF (smM W w.heap.size Q (.slice sa sn sc) (uM Q.ins) l) [2] [.v (.bool x)] a w'->Sw (smM W w.heap.size Q (.slice sa sn sc) (uM Q.ins) l) w'->bodyPost Tryz.prog Tryz.f23 (λe w'=>∃b,e=.returned (.bool b)/\(b=true↔kG Q)/\Below w.heap.size w w') .ret a w':=λx l hx a w' _ hd hv hS=>
  F3 rfl hd hv ⟨x,rfl,hx,hb.trans ((cK (M:=smM W w.heap.size Q (.slice sa sn sc) (uM Q.ins) l) rfl hS).mono hb.size)⟩
 generalize uM Q.ins=fb at hO wT P hfit fin
 cases fb with
 |false=>exact bY (code:=smC) (hO []) [2] (us:=[.v (.bool false)]) (ps:=[ai W.heap.size W (Ev.az (bX w.heap.size Q (.slice sa sn sc))) 31 [.a 0 3 16] (.val (.bool false))]) (by kernel_rfl) ⟨P,trivial⟩ (wT _) (Sw.start _) (fin false _ ⟨(λh=>by cases h),λh=>by have:=hfit.2 h.ins;cases this⟩)
 |true=>
  have hi:=hfit.1 rfl
  by_cases h1:(Q.sender.size:Int)<=100
  ·by_cases h2:(Q.ref.size:Int)<=100
   ·exact bY (code:=smC) (hO [(10,true),(16,true)]) [2] (us:=[.v (.bool true)]) (ps:=[ai W.heap.size W (Ev.az (bX w.heap.size Q (.slice sa sn sc))) 31 [.a 0 3 16] (.val (.bool true)),decide (((st (dG,Q.sender)).size:Int)<=100)=true,decide (((st (dG,Q.ref)).size:Int)<=100)=true]) (by kernel_rfl) ⟨P,by rw[bO z1];simpa using h1,by rw[bO z2];simpa using h2,trivial⟩ (wT _) (Sw.start _) (fin true _ ⟨λ_=>⟨hi,by omega,by omega⟩,λ_=>rfl⟩)
   ·exact bY (code:=smC) (hO [(10,true),(16,false)]) [2] (us:=[.v (.bool false)]) (ps:=[ai W.heap.size W (Ev.az (bX w.heap.size Q (.slice sa sn sc))) 31 [.a 0 3 16] (.val (.bool true)),decide (((st (dG,Q.sender)).size:Int)<=100)=true,decide (((st (dG,Q.ref)).size:Int)<=100)=false]) (by kernel_rfl) ⟨P,by rw[bO z1];simpa using h1,by rw[bO z2];simpa using h2,trivial⟩ (wT _) (Sw.start _) (fin false _ ⟨(λh=>by cases h),λh=>by have:=h.ref;omega⟩)
  ·exact bY (code:=smC) (hO [(10,false)]) [2] (us:=[.v (.bool false)]) (ps:=[ai W.heap.size W (Ev.az (bX w.heap.size Q (.slice sa sn sc))) 31 [.a 0 3 16] (.val (.bool true)),decide (((st (dG,Q.sender)).size:Int)<=100)=false]) (by kernel_rfl) ⟨P,by rw[bO z1];simpa using h1,trivial⟩ (wT _) (Sw.start _) (fin false _ ⟨(λh=>by cases h),λh=>by have:=h.sender;omega⟩)
noncomputable def yo (Q:Ps.Req):Bool:=@decide (kG Q) (Classical.propDecidable _)
theorem Ar (w:World)(Q:Ps.Req)(hz:mY Q.ins)(z1:Sz Q.sender)(z2:Sz Q.ref)(sa:Option Addr)(sn sc:Nat)(hn:sn=Q.ins.links.length)(hlk:fq w sa sn Q.ins.links):∃b,(b=true↔kG Q)/\∀W,Below w.heap.size w W->Calls Tryz.prog 23 #[.agg (aA Q (.slice sa sn sc))] W λe W'=>e=.returned (.bool b)/\Below W.heap.size W W':=by
 have hf:yo Q=true↔kG Q:=@decide_eq_true_iff _ (Classical.propDecidable _)
 refine⟨yo Q,hf,λW hW=>(Kq W Q hz z1 z2 sa sn sc hn (hlk.below hW)).mono λe w' ⟨b,h1,h2,h3⟩=>?_⟩
 have key:b=yo Q:=by
  cases b with
  |true=>exact(hf.2 (h2.1 rfl)).symm
  |false=>
   cases hb:yo Q with
   |false=>rfl
   |true=>exact absurd (h2.2 (hf.1 hb)) (by decide)
 exact⟨by rw[h1,key],h3⟩
open Go.Proofs.YtnjjeapcalkmaaaGreatDoor.Ev (AV Mem Fr oJ az iX Sh Stop)
theorem Oj {P:Program}{c:Code}{tmps:Array Value}{Q:Exit->Act->World->Prop}{w:World}(h:∀a:Act,a.tmps=tmps->a.defers=[]->c.wp P Q a w):c.wp P Q ⟨tmps,[]⟩ w:=h _ rfl rfl
theorem Ky (w:World)(A:Ps.Amd):
 Calls Tryz.prog 70 #[.agg (aH A).toArray] w λe w'=>e=.returned (.agg (aH A).toArray)/\Below w.heap.size w w':=by
 unfold aH
 go_enter Tryz.func70,Tryz.ntmps70
 go_wp2_with fail
 refine bodyPost_ret (results_cell_row rfl _ _ (w.heap.size+1) _ _ (0,0) _ rfl (heap_alloc2_new _ _ _) Tryz.underlying35 rfl (by kernel_rfl)) rfl ?_
 exact⟨rfl,((Below.refl _ _).alloc (Nat.le_refl _) _).alloc (by simp) _⟩
def LkM (w:World)(B:Nat)(lv:Value)(ks:List Ps.Link):Prop:=w.ownsRow B 129 2 lv ks.length (fH ks)
theorem G7:(Tryz.prog.info? 129).map (λi=>(i.zero,i.size,i.bytes))=some (some (.agg #[.int .i64 0,.string ⟨#[]⟩]),2,24):=by kernel_rfl
theorem y_lenM {S:World->Prop}{ρ:Operand->Value}{o:Oper}{x:Operand}{a:Option Addr}{n c:Nat}(ho:o.op=.call {callee:=.builtin .len,args:=#[x],argTypes:=#[22]})(ht:o.type=3)(h:ρ x=.slice a n c):YB Tryz.prog S ρ o (.int .i64 n):=λw hS=>by
 unfold execOp
 simp only[ho,ht]
 go_simp
 exact⟨rfl,hS⟩
theorem Ka (ρ:Operand->Value)(t:Int)(s:ByteArray){x y:Operand}(h1:ρ x=.int .i64 t)(h2:ρ y=.string s)(w:World):(Instr.build 129 ((#[(0,x),(1,y)]:Array (Nat×Operand)).map λ(i,x)=>(i,ρ x))).run Tryz.prog w=.ok (.agg #[.int .i64 t,.string s]) w:=by
 simp only[List.map_toArray,List.map_cons,List.map_nil,h1,h2]
 go_simp
noncomputable def EZ (g:Nat)(x:Ps.Link)(lv:Value)(W:World):Value×World:=
 match (Builtin.append_ #[32,32] 32 #[lv,.slice (some ⟨W.drew.heap.size,0,none⟩) 1 1]).run Tryz.prog (W.drew.alloc (.cells #[.int .i64 x.type,.string x.ref] 129))with
 | .ok v W4=>(v,W4.setCell ⟨g+2,15,none⟩ v)
 |_=>(lv,W)
noncomputable def owN (g:Nat)(ks:List Ps.Link)(W:World):Nat->Value×World
 |0=>(.slice none 0 0,W)
 |k+1=>EZ g (ks[k]?.getD ⟨0,⟨#[]⟩⟩) (owN g ks W k).1 (owN g ks W k).2
def ow0 (w:World)(i:Ps.Ins)(lv:Value):World:=((w.alloc (.cells (aB i lv).toArray 24)).alloc (.cells (aB {} (.slice none 0 0)).toArray 34)).alloc (.cells (aB i (.slice none 0 0)).toArray 34)
noncomputable def owV (w:World)(i:Ps.Ins)(lv:Value):Value:=(owN w.heap.size i.links (ow0 w i lv) i.links.length).1
noncomputable def owW (w:World)(i:Ps.Ins)(lv:Value):World:=(owN w.heap.size i.links (ow0 w i lv) i.links.length).2.setRow (w.heap.size+1) (aB i (owV w i lv)).toArray
def KD (w:World)(g:Nat)(i:Ps.Ins)(lv:Value)(k:Nat)(W:World):Prop:=
 Below g w W/\W.heap[g]? =some (.cells (aB i lv).toArray 24 (0,0))/\W.heap[g+1]? =some (.cells (aB {} (.slice none 0 0)).toArray 34 (0,0))/\
  ∃ta tc,W.heap[g+2]? =some (.cells (aB i (.slice ta k tc)).toArray 34 (0,0))/\LkM W (g+3) (.slice ta k tc) (i.links.take k)/\owN g i.links (ow0 w i lv) k=(.slice ta k tc,W)
theorem ow_new (w:World)(i:Ps.Ins)(lv:Value):KD w w.heap.size i lv 0 (((w.alloc (.cells (aB i lv).toArray 24)).alloc (.cells (aB {} (.slice none 0 0)).toArray 34)).alloc (.cells (aB i (.slice none 0 0)).toArray 34)):=by
 have hs1:(w.alloc (.cells (aB i lv).toArray 24)).heap.size=w.heap.size+1:=by simp
 refine⟨(((Below.refl _ _).alloc (Nat.le_refl _) _).alloc (by simp) _).alloc (by simp;omega) _,?_,?_,none,0,?_,World.ownsRow_nil _ _ _ _,rfl⟩
 ·rw[heap_alloc_old _ _ (by simp;omega),heap_alloc_old _ _ (by simp)]
  exact aC w _
 ·rw[heap_alloc_old _ _ (by simp)]
  exact heap_alloc2_new _ _ _
 ·have:=heap_alloc2_new (w.alloc (.cells (aB i lv).toArray 24)) (.cells (aB {} (.slice none 0 0)).toArray 34) (.cells (aB i (.slice none 0 0)).toArray 34)
  rw[hs1]at this
  exact this
theorem Ny (w:World)(i:Ps.Ins)(sa:Option Addr)(sn sc:Nat)(hsn:Hid (sn=i.links.length))(hlt:Hid (sn<=1000000))(hlk:Hid (0<sn->∃sb so,sa=some ⟨sb,so,none⟩/\∀W,Below w.heap.size w W->Az W sb so i.links)):
 Calls Tryz.prog 32 #[.agg (aB i (.slice sa sn sc)).toArray] w λe w'=>e=.returned (.agg (aB i (owV w i (.slice sa sn sc))).toArray)/\w'=owW w i (.slice sa sn sc)/\∃ta tc,owV w i (.slice sa sn sc)=.slice ta sn tc/\Below w.heap.size w w'/\LkM w' (w.heap.size+3) (.slice ta sn tc) i.links:=by
 obtain⟨V9,hV9⟩:∃V9,V9=owV w i (.slice sa sn sc):=⟨_,rfl⟩
 obtain⟨X9,hX9⟩:∃X9,X9=owW w i (.slice sa sn sc):=⟨_,rfl⟩
 rw[<-hV9,<-hX9]
 have HV9:=Lib.hid hV9
 have HX9:=Lib.hid hX9
 clear hV9 hX9
 obtain⟨g,hg⟩:∃g,g=w.heap.size:=⟨_,rfl⟩
 have HN:Hid (KD w g i (.slice sa sn sc) 0 (((w.alloc (.cells (aB i (.slice sa sn sc)).toArray 24)).alloc (.cells (aB {} (.slice none 0 0)).toArray 34)).alloc (.cells (aB i (.slice none 0 0)).toArray 34))):=Lib.hid (by rw[hg];exact ow_new w i _)
 rw[<-hg]at hlk⊢
 have HG:=Lib.hid hg
 unfold aB
 go_enter Tryz.func32,Tryz.ntmps32
 go_upto_region 2 with fail
 rw[<-hg]
 clear hg
 rename_i K1 hK1 K hK
 refine Oj λa ha hdf=>?_
 have hsz:a.tmps.size=62:=by rw[ha];rfl
 have hf1:a.tmps[1]? =some (.pointer (some ⟨g,0,none⟩)):=by rw[ha];rfl
 have hf2:a.tmps[2]? =some (.pointer (some ⟨g+1,0,none⟩)):=by rw[ha];rfl
 have hf3:a.tmps[3]? =some (.pointer (some ⟨g+2,0,none⟩)):=by rw[ha];rfl
 clear ha
 generalize hW0:World.alloc _ _=W0
 replace HN:Hid (KD w g i (.slice sa sn sc) 0 W0):=by rw[<-hW0];exact HN
 clear hW0
 obtain⟨vs,hvs⟩:∃vs:List Value,vs=[(.int .i64 0)]:=⟨_,rfl⟩
 refine KO (λw=>w=W0) 1 vs (by rw[hvs];rfl) rfl (by kernel_rfl) (by kernel_rfl) (by rw[hsz];kernel_rfl) rfl ?_ ?_
 ·intro ρ hD hrest hco hfu
  refine Cf hvs ?_
  refine⟨bI rfl (y_asg rfl (hco _)),?_⟩
  exact trivial
 intro a2 w2 hS2 hK2 hD
 subst hS2
 have Fv:a2.tmps[4]? =some (.int .i64 ((0:Nat):Int)):=Np (by rw[hK2.size,hsz];decide) (bg.tmp 0 _ _ 4 hD rfl (by rw[hvs];rfl) rfl)
 clear hD hvs
 clear vs
 replace hsz:=hK2.size.trans hsz
 replace hdf:=hK2.defers.trans hdf
 replace hf1:=(hK2.rest 1 (by decide +kernel)).trans hf1
 replace hf2:=(hK2.rest 2 (by decide +kernel)).trans hf2
 replace hf3:=(hK2.rest 3 (by decide +kernel)).trans hf3
 clear hK2
 refine hK _ _ ?_
 clear hK K
 refine wp_block ?_
 refine wp_loop (λa w1=>∃k:Nat,k<=sn/\a.tmps.size=62/\a.defers=[]/\a.tmps[1]? =some (.pointer (some ⟨g,0,none⟩))/\a.tmps[2]? =some (.pointer (some ⟨g+1,0,none⟩))/\a.tmps[3]? =some (.pointer (some ⟨g+2,0,none⟩))/\a.tmps[4]? =some (.int .i64 (k:Int))/\Hid (KD w g i (.slice sa sn sc) k w1)) (λa _=>sn+1-(RowKit.intOf (a.tmps.getD 4 undef)).toNat) ⟨0,Nat.zero_le _,hsz,hdf,hf1,hf2,hf3,Fv,HN⟩ ?_
 clear hsz hdf hf1 hf2 hf3 Fv HN
 rintro a W1 ⟨k,hk,hsz,hdf,hf1,hf2,hf3,Fv,HN⟩
 have h40:=Lib.hid Fv
 refine wp_seq ?_
 have hcell0:W1.cell? ⟨g,15,none⟩=some (.slice sa sn sc):=by rw[cell_of_row _ _ _ _ _ _ HN.out.2.1];rfl
 have HC0:=Lib.hid hcell0
 clear hcell0
 obtain⟨b40,MV⟩:∃b,(decide ((k:Int)<(sn:Int)))=b:=⟨_,rfl⟩
 obtain⟨vs,hvs⟩:∃vs:List Value,vs=[(.int .i64 (k:Int)),(.pointer (some ⟨g,15,none⟩)),(.slice sa sn sc),(.int .i64 (sn:Int)),(.bool b40)]:=⟨_,rfl⟩
 refine Ic (b40) (λw=>w=W1) 5 vs (by rw[hvs];rfl) rfl (by kernel_rfl) (by kernel_rfl) (by rw[hsz];kernel_rfl) rfl ?_ ?_ ?_ ?_
 ·intro ρ hD hrest hco hfu
  have e1:ρ (.tmp 1)=.pointer (some ⟨g,0,none⟩):=(hrest 1 (by decide +kernel)).trans (eval_at hf1)
  have e4:ρ (.tmp 4)=.int .i64 (k:Int):=(hrest 4 (by decide +kernel)).trans (eval_at Fv)
  obtain⟨e36,e37,e38,e39,e40,-⟩:ρ (.tmp 36)=(.int .i64 (k:Int))/\ρ (.tmp 37)=(.pointer (some ⟨g,15,none⟩))/\ρ (.tmp 38)=(.slice sa sn sc)/\ρ (.tmp 39)=(.int .i64 (sn:Int))/\ρ (.tmp 40)=(.bool b40)/\True:=lL hvs hD
  refine Cf hvs ?_
  refine⟨bI rfl (jR rfl e4),?_⟩
  refine⟨bI rfl (dm rfl e1 (λw=>by go_simp)),?_⟩
  refine⟨bI rfl (fO rfl e37 (λw hS=>Lu _ w _ _ _ (by rw[hS];exact HC0.out))),?_⟩
  refine⟨bI rfl (y_lenM rfl rfl e38),?_⟩
  refine⟨bI rfl (Qf rfl e36 e39 (cmE MV (cm_lt3 _ _ _ _))),?_⟩
  exact trivial
 ·intro ρ hD;exact bg.tmp 4 _ _ 40 hD rfl (by rw[hvs];rfl) rfl
 rotate_left
 ·intro hcf b w9 hS9 hK2
  have hkn:¬(k:Int)<(sn:Int):=by subst MV;simpa using hcf
  subst hS9
  obtain rfl:k=sn:=by omega
  refine wp_exit ?_
  simp only[Exit.then,Exit.inBlock,if_true]
  replace hsz:=hK2.size.trans hsz
  replace hdf:=hK2.defers.trans hdf
  replace hf2:=(hK2.rest 2 (by decide +kernel)).trans hf2
  replace hf3:=(hK2.rest 3 (by decide +kernel)).trans hf3
  refine hK1 _ _ ?_
  obtain⟨hB0,hr0,hr1,ta,tc,hr2,hown,hbn⟩:=HN.out
  obtain⟨W9,OX⟩:∃W9,W9=w9.setRow (g+1) (aB i (.slice ta k tc)).toArray:=⟨_,rfl⟩
  have NI:W9.heap[g+1]? =some (.cells (aB i (.slice ta k tc)).toArray 34 (0,0)):=by rw[OX];exact setRow_heap w9 (g+1) _ _ _ _ hr1
  have Gr:∀j,j≠g+1->W9.heap[j]? =w9.heap[j]?:=λj hj=>by rw[OX];exact setRow_other w9 (g+1) j _ hj
  have hz9:W9.heap.size=w9.heap.size:=by rw[OX];exact setRow_size w9 (g+1) _
  have hb9:Below g w W9:=⟨by rw[OX];exact hB0.os,by rw[OX];exact hB0.tape,by rw[OX];exact hB0.output,by rw[hz9];exact hB0.size,λj hj=>(Gr j (by omega)).trans (hB0.block j hj)⟩
  have hL9:LkM W9 (g+3) (.slice ta k tc) i.links:=by
   have e:i.links.take k=i.links:=List.take_of_length_le (by have:=hsn.out;omega)
   rw[e]at hown
   exact fD hown λj hj=>Gr j (by have:=(hown.lt j hj).1;omega)
  have hv9:V9=.slice ta k tc:=by rw[HV9.out];unfold owV;rw[<-hsn.out,<-HG.out,hbn]
  have hx9:X9=W9:=by rw[HX9.out,OX];unfold owW;rw[<-HV9.out,hv9,<-hsn.out,<-HG.out,hbn]
  have HV:=Lib.hid hv9
  have HX:=Lib.hid hx9
  clear hv9 hx9 hbn
  have HB9:=Lib.hid hb9
  have HL9:=Lib.hid hL9
  have HR9:=Lib.hid NI
  have HW9:=Lib.hid OX
  clear hb9 hL9 NI Gr hz9 hown OX hB0 hr0 HC0
  have HRI:Hid (w9.heap[g+2]? =some (.cells (aB i (.slice ta k tc)).toArray 34 (0,0))):=Lib.hid hr2
  have HR1:=Lib.hid hr1
  clear hr2 hr1 hvs hcf MV Fv hf1 h40
  obtain⟨vs,hvs⟩:∃vs:List Value,vs=[.agg (aB i (.slice ta k tc)).toArray,undef]:=⟨_,rfl⟩
  refine wp_seq ?_
  refine iL (λn w=>w=if n=2 then W9 else w9) 2 vs (by rw[hvs];rfl) rfl (by kernel_rfl) (by kernel_rfl) (by rw[hsz];kernel_rfl) rfl ?_ ?_
  ·intro ρ hD hrest hco hfu
   have e2:ρ (.tmp 2)=.pointer (some ⟨g+1,0,none⟩):=(hrest 2 (by decide +kernel)).trans (eval_at hf2)
   have e3:ρ (.tmp 3)=.pointer (some ⟨g+2,0,none⟩):=(hrest 3 (by decide +kernel)).trans (eval_at hf3)
   obtain⟨e61,-⟩:ρ (.tmp 61)=(.agg (aB i (.slice ta k tc)).toArray)/\True/\True:=lL hvs hD
   refine yB hvs ?_
   refine⟨aK (B:=λw=>w=w9) (λw h=>h) (λw h=>h) (λw0=>bI rfl (fO rfl e3 (λw hS=>by
    have:=run_loadVar_row (P:=Tryz.prog) w (g+2) 34 34 (aB i (.slice ta k tc)).toArray (0,0) _ (by rw[hS.2];exact HRI.out) Tryz.underlying34 rfl (by kernel_rfl)
    unfold Instr.loadAt
    simp[Instr.sureAddr,this]))),?_⟩
   refine⟨⟨λ_ w hS=>?_,λh=>by have h2:true=false:=h;cases h2⟩,trivial⟩
   obtain rfl:w=w9:=hS
   unfold execOp
   simp only[e2,e61,Instr.storeAt,Instr.sureAddr,Sem.run_bind,Sem.run_pure,Result.andThen_ok,run_storeVar_row (P:=Tryz.prog) w (g+1) 34 34 (aB {} (.slice none 0 0)).toArray (aB i (.slice ta k tc)).toArray HR1.out (by kernel_rfl) rfl (by unfold aB;simp[Value.oneCell'])]
   exact⟨rfl,HW9.out.symm⟩
  intro b2 w2 hS2 hK3 hD
  obtain rfl:w2=W9:=hS2
  refine wp_ret ?_
  try simp only[Exit.then,Exit.inBlock]
  refine bodyPost_ret (results_cell_row rfl _ _ (g+1) _ _ (0,0) _ ?_ HR9.out Tryz.underlying34 rfl (by kernel_rfl)) (hK3.defers.trans hdf) ?_
  ·exact eval_at ((hK3.rest 2 (by decide +kernel)).trans hf2)
  exact⟨by rw[HV.out];rfl,HX.out.symm,ta,tc,HV.out,HB9.out,HL9.out⟩
 intro hct a2 w2 hS2 hK2
 subst hS2
 have hkn:(k:Int)<(sn:Int):=by subst MV;simpa using hct
 have hkn2:k<sn:=by omega
 replace hsz:=hK2.size.trans hsz
 replace hdf:=hK2.defers.trans hdf
 replace hf1:=(hK2.rest 1 (by decide +kernel)).trans hf1
 replace hf2:=(hK2.rest 2 (by decide +kernel)).trans hf2
 replace hf3:=(hK2.rest 3 (by decide +kernel)).trans hf3
 replace Fv:=(hK2.rest 4 (by decide +kernel)).trans Fv
 clear hK2 hvs hct MV
 clear b40 vs hK1
 obtain⟨x0,hx0⟩:∃x0,i.links[k]? =some x0:=⟨_,List.getElem?_eq_getElem (by rw[<-hsn.out];exact hkn2)⟩
 obtain⟨sb,so,hsa,QH⟩:=hlk.out (by omega)
 subst hsa
 obtain⟨hB0,hr0,hr1,ta,tc,hr2,hown,hbn⟩:=HN.out
 obtain⟨W2,hW2⟩:∃W2,W2=w2.drew:=⟨_,rfl⟩
 obtain⟨W3,hW3⟩:∃W3,W3=W2.alloc (.cells #[.int .i64 x0.type,.string x0.ref] 129):=⟨_,rfl⟩
 have hkl:(i.links.take k).length=k:=by rw[List.length_take];have:=hsn.out;omega
 have hz2:W2.heap=w2.heap:=by rw[hW2];rfl
 have hs3:W3.heap.size=W2.heap.size+1:=by rw[hW3];simp
 have BU:Below W2.heap.size W2 W3:=by rw[hW3];exact(Below.refl _ _).alloc (Nat.le_refl _) _
 have hb2:Below g w W2:=by rw[hW2];exact hB0.drew
 have hgs:g+2<W2.heap.size:=by rw[hz2];exact(Array.getElem?_eq_some_iff.1 hr2).1
 have hl3:W3.ownsRow (g+3) 129 2 (.slice ta k tc) k (fH (i.links.take k)):=by
  unfold LkM at hown
  rw[hkl]at hown
  refine fD hown λj hj=>?_
  have hj2:j<W2.heap.size:=by rw[hz2];exact(hown.lt j hj).2
  rw[BU.block j hj2,hz2]
 have hrow3:W3.heap[W2.heap.size]? =some (.cells #[.int .i64 x0.type,.string x0.ref] 129 (0,0)):=by rw[hW3];exact aC W2 _
 obtain⟨i0,hii,hz0,hz1,hz2'⟩:=info_parts G7
 obtain⟨v9,W4,NI,Gr,wU,hat9⟩:=nO (w:=W3) 32 32 129 i0 (.agg #[.int .i64 0,.string ⟨#[]⟩]) 2 24 Tryz.underlying32 hii hz0 hz1 hz2' rfl (by decide) (g+3) (.slice ta k tc) k (fH (i.links.take k))
  hl3 (some ⟨W2.heap.size,0,none⟩) 1 1 [.int .i64 x0.type,.string x0.ref] rfl (λad ha=>by cases ha;exact World.news_of_block hrow3) (λe=>by cases e) (by intro u hu;simp at hu;rcases hu with rfl|rfl<;>rfl) (by unfold maxLen;have:=hlt.out;omega) (by have:=hlt.out;omega) (by omega)
 obtain⟨va,vc,rfl⟩:=gV Gr
 have hblk:∀j,j<g+3->W4.heap[j]? =w2.heap[j]?:=λj hj=>by
  have h1:W4.heap[j]? =W3.heap[j]?:=wU.block j (by omega) (λe=>by have:=(hl3.lt j e.symm).1;omega)
  rw[h1,BU.block j (by omega),hz2]
 have Og:W4.heap[g+2]? =some (.cells (aB i (.slice ta k tc)).toArray 34 (0,0)):=(hblk (g+2) (by omega)).trans hr2
 obtain⟨W5,lJ⟩:∃W5,W5=W4.setCell ⟨g+2,15,none⟩ (.slice va (k+1) vc):=⟨_,rfl⟩
 have hr25:W5.heap[g+2]? =some (.cells (aB i (.slice va (k+1) vc)).toArray 34 (0,0)):=by
  rw[lJ]
  exact bB W4 (g+2) 15 _ _ (.slice va (k+1) vc) Og
 have Qi:∀j,j≠g+2->W5.heap[j]? =W4.heap[j]?:=λj hj=>by
  rw[lJ]
  exact Below.heap_setCell W4 _ _ j (λe=>hj (by rw[e]))
 have hsz5:W5.heap.size=W4.heap.size:=by rw[lJ];simp[World.setCell]
 have hsz4:W2.heap.size<=W4.heap.size:=Nat.le_trans BU.size wU.size
 have HN5:Hid (KD w g i (.slice (some ⟨sb,so,none⟩) sn sc) (k+1) W5):=Lib.hid ⟨⟨by rw[lJ];exact wU.os.trans (BU.os.trans hb2.os),by rw[lJ];exact wU.tape.trans (BU.tape.trans hb2.tape),by rw[lJ];exact wU.output.trans (BU.output.trans hb2.output),by have:=hb2.size;omega,λj hj=>by
  rw[Qi j (by omega),hblk j (by omega)];exact hB0.block j hj⟩,(Qi g (by omega)).trans ((hblk g (by omega)).trans hr0),(Qi (g+1) (by omega)).trans ((hblk (g+1) (by omega)).trans hr1),va,vc,hr25,by
  unfold LkM
  have e1:i.links.take (k+1)=i.links.take k++[x0]:=by rw[List.take_add_one,hx0];rfl
  rw[e1,pF,List.length_append,hkl]
  exact fD Gr λj hj=>Qi j (by have:=(Gr.lt j hj).1;omega),by
  show EZ g (i.links[k]?.getD ⟨0,⟨#[]⟩⟩) (owN g i.links (ow0 w i (.slice (some ⟨sb,so,none⟩) sn sc)) k).1 (owN g i.links (ow0 w i (.slice (some ⟨sb,so,none⟩) sn sc)) k).2=_
  rw[hbn,hx0]
  unfold EZ
  rw[hW3,hW2]at NI
  simp only[Option.getD_some,NI,lJ]⟩
 have hcg:W2.cell? ⟨g,15,none⟩=some (.slice (some ⟨sb,so,none⟩) sn sc):=by rw[cell_of_row W2 g _ _ _ _ (by rw[hz2];exact hr0)];rfl
 have hco2:W2.cell? ⟨g+2,15,none⟩=some (.slice ta k tc):=by rw[cell_of_row W2 (g+2) _ _ _ _ (by rw[hz2];exact hr2)];rfl
 have hco3:W3.cell? ⟨g+2,15,none⟩=some (.slice ta k tc):=by rw[cell_of_row W3 (g+2) _ _ _ _ (by rw[BU.block _ hgs,hz2];exact hr2)];rfl
 obtain⟨hlt1,hlt2⟩:=QH W2 hb2 k x0 hx0
 have hc4:W4.cell? ⟨g+2,15,none⟩=some (.slice ta k tc):=by rw[cell_of_row W4 (g+2) _ _ _ _ Og];rfl
 have hfz:W4.frozen? ⟨g+2,15,none⟩=false:=aZ 15 Og
 have HR9:=Lib.hid NI
 have HW2:=Lib.hid hW2
 have HW3:=Lib.hid hW3
 have HW5:=Lib.hid lJ
 clear hbn hB0 hr0 hr1 hr2 hown hkl hz2 hs3 BU hb2 hgs hl3 hrow3 hii hz0 hz1 hz2' NI Gr wU hat9 hblk Og lJ hr25 Qi hsz5 hsz4 QH hW2 hW3 HC0 HN hx0 hlk
 clear i0
 refine wp_skip ?_
 refine wp_seq (wp_block ?_)
 obtain⟨vs,hvs⟩:∃vs:List Value,vs=[(.pointer (some ⟨g+2,15,none⟩)),(.slice ta k tc),(.pointer (some ⟨g,15,none⟩)),(.slice (some ⟨sb,so,none⟩) sn sc),(.int .i64 (k:Int)),(.pointer (some ⟨sb,so+k*2,none⟩)),(.pointer (some ⟨sb,so+k*2,none⟩)),(.int .i64 x0.type),(.pointer (some ⟨g,15,none⟩)),(.slice (some ⟨sb,so,none⟩) sn sc),(.int .i64 (k:Int)),(.pointer (some ⟨sb,so+k*2,none⟩)),(.pointer (some ⟨sb,so+k*2+1,none⟩)),(.string x0.ref),(.agg #[.int .i64 x0.type,.string x0.ref]),(.slice (some ⟨W2.heap.size,0,none⟩) 1 1),(.slice va (k+1) vc),(.pointer (some ⟨g+2,15,none⟩)),(undef)]:=⟨_,rfl⟩
 refine iJ (λdn w=>w=if dn 18 then W5 else if dn 16 then W4 else if dn 15 then W3 else W2) (Ord.inD [(1,0),(3,2),(5,2),(5,3),(5,4),(6,2),(6,3),(6,4),(6,5),(7,2),(7,3),(7,4),(7,5),(7,6),(9,8),(11,8),(11,9),(11,10),(12,8),(12,9),(12,10),(12,11),(13,8),(13,9),(13,10),(13,11),(13,12),(14,2),(14,3),(14,4),(14,5),(14,6),(14,7),(14,8),(14,9),(14,10),(14,11),(14,12),(14,13),(15,2),(15,3),(15,4),(15,5),(15,6),(15,7),(15,8),(15,9),(15,10),(15,11),(15,12),(15,13),(15,14),(16,0),(16,1),(16,2),(16,3),(16,4),(16,5),(16,6),(16,7),(16,8),(16,9),(16,10),(16,11),(16,12),(16,13),(16,14),(16,15),(18,0),(18,1),(18,2),(18,3),(18,4),(18,5),(18,6),(18,7),(18,8),(18,9),(18,10),(18,11),(18,12),(18,13),(18,14),(18,15),(18,16),(18,17)]) (Ord.vF (by kernel_rfl)) 19 vs (by rw[hvs];rfl) rfl rfl (by kernel_rfl) (by kernel_rfl) (by kernel_rfl) (by rw[hsz];kernel_rfl) (by simpa using HW2.out.symm) ?_ ?_
 ·intro ρ hD hrest hco hfu
  have e1:ρ (.tmp 1)=.pointer (some ⟨g,0,none⟩):=(hrest 1 (by decide +kernel)).trans (eval_at hf1)
  have e3:ρ (.tmp 3)=.pointer (some ⟨g+2,0,none⟩):=(hrest 3 (by decide +kernel)).trans (eval_at hf3)
  have e4:ρ (.tmp 4)=.int .i64 (k:Int):=(hrest 4 (by decide +kernel)).trans (eval_at Fv)
  obtain⟨e43,e44,e45,e46,e47,e48,e49,e50,e51,e52,e53,e54,e55,e56,e57,e58,e59,e60,-⟩:ρ (.tmp 43)=(.pointer (some ⟨g+2,15,none⟩))/\ρ (.tmp 44)=(.slice ta k tc)/\ρ (.tmp 45)=(.pointer (some ⟨g,15,none⟩))/\ρ (.tmp 46)=(.slice (some ⟨sb,so,none⟩) sn sc)/\ρ (.tmp 47)=(.int .i64 (k:Int))/\ρ (.tmp 48)=(.pointer (some ⟨sb,so+k*2,none⟩))/\ρ (.tmp 49)=(.pointer (some ⟨sb,so+k*2,none⟩))/\ρ (.tmp 50)=(.int .i64 x0.type)/\ρ (.tmp 51)=(.pointer (some ⟨g,15,none⟩))/\ρ (.tmp 52)=(.slice (some ⟨sb,so,none⟩) sn sc)/\ρ (.tmp 53)=(.int .i64 (k:Int))/\ρ (.tmp 54)=(.pointer (some ⟨sb,so+k*2,none⟩))/\ρ (.tmp 55)=(.pointer (some ⟨sb,so+k*2+1,none⟩))/\ρ (.tmp 56)=(.string x0.ref)/\ρ (.tmp 57)=(.agg #[.int .i64 x0.type,.string x0.ref])/\ρ (.tmp 58)=(.slice (some ⟨W2.heap.size,0,none⟩) 1 1)/\ρ (.tmp 59)=(.slice va (k+1) vc)/\ρ (.tmp 60)=(.pointer (some ⟨g+2,15,none⟩))/\True/\True:=lL hvs hD
  refine xu hvs ?_
  refine⟨λdn hn hd he=>aK (B:=λ_=>True) (λw h=>by simpa using h) (λ_ _=>trivial) (λw0=>bI rfl (dm rfl e3 (λw=>by go_simp))),?_⟩
  refine⟨λdn hn hd he=>aK (B:=λw=>w=W2\/w=W3) (λw h=>by simpa using h) (λw h=>by have h16:=he 16 rfl;have h18:=he 18 rfl;simp only[h16,h18,Bool.false_eq_true,if_false]at h;split at h<;>first|exact .inr h|exact .inl h) (λw0=>bI rfl (fO rfl e43 (λw hS=>ld_slL _ w _ _ _ (by rcases hS.2 with h|h<;>rw[h]<;>first|exact hco2|exact hco3)))),?_⟩
  refine⟨λdn hn hd he=>aK (B:=λ_=>True) (λw h=>by simpa using h) (λ_ _=>trivial) (λw0=>bI rfl (dm rfl e1 (λw=>by go_simp))),?_⟩
  refine⟨λdn hn hd he=>aK (B:=λw=>w=W2) (λw h=>by simpa using h) (λw h=>by have Jc:=he 15 rfl;have h16:=he 16 rfl;have h18:=he 18 rfl;simp only[Jc,h16,h18,Bool.false_eq_true,if_false]at h;exact h) (λw0=>bI rfl (fO rfl e45 (λw hS=>Lu _ w _ _ _ (by rw[hS.2];exact hcg)))),?_⟩
  refine⟨λdn hn hd he=>aK (B:=λ_=>True) (λw h=>by simpa using h) (λ_ _=>trivial) (λw0=>bI rfl (jR rfl e4)),?_⟩
  refine⟨λdn hn hd he=>aK (B:=λ_=>True) (λw h=>by simpa using h) (λ_ _=>trivial) (λw0=>bI rfl (Jo rfl e46 e47 hkn2)),?_⟩
  refine⟨λdn hn hd he=>aK (B:=λ_=>True) (λw h=>by simpa using h) (λ_ _=>trivial) (λw0=>bI rfl (dm rfl e48 (λw=>by go_simp))),?_⟩
  refine⟨λdn hn hd he=>aK (B:=λw=>w=W2) (λw h=>by simpa using h) (λw h=>by have Jc:=he 15 rfl;have h16:=he 16 rfl;have h18:=he 18 rfl;simp only[Jc,h16,h18,Bool.false_eq_true,if_false]at h;exact h) (λw0=>bI rfl (fO rfl e49 (λw hS=>Eb _ w _ (by rw[hS.2];exact hlt1)))),?_⟩
  refine⟨λdn hn hd he=>aK (B:=λ_=>True) (λw h=>by simpa using h) (λ_ _=>trivial) (λw0=>bI rfl (dm rfl e1 (λw=>by go_simp))),?_⟩
  refine⟨λdn hn hd he=>aK (B:=λw=>w=W2) (λw h=>by simpa using h) (λw h=>by have Jc:=he 15 rfl;have h16:=he 16 rfl;have h18:=he 18 rfl;simp only[Jc,h16,h18,Bool.false_eq_true,if_false]at h;exact h) (λw0=>bI rfl (fO rfl e51 (λw hS=>Lu _ w _ _ _ (by rw[hS.2];exact hcg)))),?_⟩
  refine⟨λdn hn hd he=>aK (B:=λ_=>True) (λw h=>by simpa using h) (λ_ _=>trivial) (λw0=>bI rfl (jR rfl e4)),?_⟩
  refine⟨λdn hn hd he=>aK (B:=λ_=>True) (λw h=>by simpa using h) (λ_ _=>trivial) (λw0=>bI rfl (Jo rfl e52 e53 hkn2)),?_⟩
  refine⟨λdn hn hd he=>aK (B:=λ_=>True) (λw h=>by simpa using h) (λ_ _=>trivial) (λw0=>bI rfl (dm rfl e54 (λw=>by go_simp))),?_⟩
  refine⟨λdn hn hd he=>aK (B:=λw=>w=W2) (λw h=>by simpa using h) (λw h=>by have Jc:=he 15 rfl;have h16:=he 16 rfl;have h18:=he 18 rfl;simp only[Jc,h16,h18,Bool.false_eq_true,if_false]at h;exact h) (λw0=>bI rfl (fO rfl e55 (λw hS=>Dt _ w _ (by rw[hS.2];exact hlt2)))),?_⟩
  refine⟨λdn hn hd he=>aK (B:=λ_=>True) (λw h=>by simpa using h) (λ_ _=>trivial) (λw0=>bI rfl (Ab rfl (Ka ρ _ _ e50 e56))),?_⟩
  refine⟨λdn hn hd he=>⟨λ_ w hS=>?_,λh=>by have h2:true=false:=h;cases h2⟩,?_⟩
  ·have h16:=he 16 rfl;have h18:=he 18 rfl
   simp only[hn,h16,h18,Bool.false_eq_true,if_false]at hS
   subst hS
   unfold execOp
   simp only[e57]
   go_simp
   exact⟨rfl,by simp[h16,h18];first|done|exact HW3.out.symm⟩
  refine⟨λdn hn hd he=>⟨λ_ w hS=>?_,λh=>by have h2:true=false:=h;cases h2⟩,?_⟩
  ·have Jc:=hd 15 rfl;have h18:=he 18 rfl
   simp only[hn,Jc,h18,Bool.false_eq_true,if_false,if_true]at hS
   subst hS
   unfold execOp
   simp only[resolve,invoke,builtin,Sem.run_bind,Sem.run_pure,Result.andThen_ok,List.map_toArray,List.map_cons,List.map_nil,e44,e58,HR9.out]
   exact⟨rfl,by simp[h18]⟩
  refine⟨λdn hn hd he=>aK (B:=λ_=>True) (λw h=>by simpa using h) (λ_ _=>trivial) (λw0=>bI rfl (dm rfl e3 (λw=>by go_simp))),?_⟩
  refine⟨λdn hn hd he=>⟨λ_ w hS=>?_,λh=>by have h2:true=false:=h;cases h2⟩,?_⟩
  ·have h16:=hd 16 rfl
   simp only[hn,h16,Bool.false_eq_true,if_false,if_true]at hS
   subst hS
   unfold execOp
   simp only[e60,e59]
   go_simp
   exact⟨rfl,by simp;first|done|exact HW5.out.symm⟩
  exact trivial
 intro a5 w5 hS5 hK5 hD5
 have QM:w5=W5:=by simpa using hS5
 subst QM
 replace hsz:=hK5.size.trans hsz
 replace hdf:=hK5.defers.trans hdf
 replace hf1:=(hK5.rest 1 (by decide +kernel)).trans hf1
 replace hf2:=(hK5.rest 2 (by decide +kernel)).trans hf2
 replace hf3:=(hK5.rest 3 (by decide +kernel)).trans hf3
 replace Fv:=(hK5.rest 4 (by decide +kernel)).trans Fv
 clear hK5 hD5 hvs
 simp only[Exit.then,Exit.inBlock]
 have hadd:IntKind.i64.wrap ((k:Int)+1)=(k:Int)+1:=IntWalk.i64_in _ (by have:=hlt.out;omega)
 refine F5 rfl rfl rfl rfl rfl rfl rfl rfl rfl Fv (by rw[hsz];decide) (by rw[hsz];decide) hadd λb2 hd2 hs2 hf4' hk2=>?_
 have e5:((k+1:Nat):Int)=(k:Int)+1:=by omega
 refine⟨⟨k+1,hkn2,hs2.trans hsz,hd2.trans hdf,(hk2 1 (by decide) (by decide) (by decide)).trans hf1,(hk2 2 (by decide) (by decide) (by decide)).trans hf2,(hk2 3 (by decide) (by decide) (by decide)).trans hf3,by rw[e5];exact hf4',HN5⟩,?_⟩
 rw[Array.getD_eq_getD_getElem?,Array.getD_eq_getD_getElem?,hf4',h40.out]
 simp only[Option.getD_some,RowKit.intOf]
 omega
end Go.Proofs.YtnjjeapcalkmaaaGreatDoor
