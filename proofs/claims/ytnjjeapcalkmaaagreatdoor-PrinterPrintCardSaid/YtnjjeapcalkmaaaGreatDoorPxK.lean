/-
  PrinterPrint is true for every input. The row lists some package-level variables as the program's text lays them; the card ties them.
-/
import Derived.Test.YtnjjeapcalkmaaaGreatDoorPxJ
set_option maxRecDepth 100000
set_option maxHeartbeats 4000000
set_option linter.unusedVariables false
set_option linter.unusedSimpArgs false
namespace Go.Proofs.YtnjjeapcalkmaaaGreatDoor
open Go Go.RowKit Go.Proofs.YtnjjeapcalkmaaaGreatDoor.Ord
open Go.Proofs.YtnjjeapcalkmaaaGreatDoor.Se
theorem Mm (w:World)(Q:Ps.Req)(a:Option Addr)(n c:Nat)(hF:RtF w Q a n c):zK w Q (.slice a n c) (cnT Q) 0:=by
 show zK w Q (.slice a n c) (Ps.bB (Ps.iY Ps.ae Q (Ps.jh Q.ins))) 0
 have hz:=(gV hF.ok).2
 have hs:=je hF.ok
 have s1:=hs.ref
 have s2:=hs.sender
 obtain⟨_,_,h3⟩:=Ps.lQ _ _ hF.ok
 rcases h3 with⟨_,hi,he⟩|⟨_,hm,he⟩|⟨hk,he⟩
 ·generalize Q.ins=i at he hi
  subst he
  exact rt_sub w i hi a n c hF
 ·generalize Q.amd=m at he hm
  generalize Q.sender=s at he s2
  generalize Q.ref=r at he s1
  subst he
  refine O9 w 1 (.inl rfl) s r m ⟨λh=>by have:=hm.am h;omega,hm.day,hm.prio,λh=>by have:=hm.lot h;omega⟩ a n c _ ?_ hz hF
  rw[List.map_append,Ck hm]
  show Ps.bB ([st (8,Ps.bw (opW 1)),st (40,r),st (wb Ps.sBy),st (40,s)]++_)=_
  rw[bu s1,bu s2,jf,bu (by decide)]
  rfl
 ·generalize Q.op=k at he hk
  generalize Q.sender=s at he s2
  generalize Q.ref=r at he s1
  subst he
  refine O9 w k (by omega) s r {} ⟨λh=>(by cases h),(by decide),(by decide),λh=>(by cases h)⟩ a n c _ ?_ hz hF
  have e0:chS {}=[]:=rfl
  rw[e0,List.append_nil]
  show Ps.bB [st (8,Ps.bw (opW k)),st (40,r),st (wb Ps.sBy),st (40,s)]=_
  rw[bu s1,bu s2,jf,bu (by rcases hk with rfl|rfl|rfl<;>decide)]
  rcases hk with rfl|rfl|rfl<;>rfl
noncomputable def rbM (W:World)(g:Nat)(Q:Ps.Req)(lv:Value)(e:Int):Mem:={rtM 100 W.heap.size W [] Q e (bI g Q lv)with tst:=λt=>if t=10 then some true else none}
theorem O7 {Q:Ps.Req}(h:jS Q):jI Q.ins/\Sz Q.sender/\Sz Q.ref:=by
 have k:∀{x:ByteArray},x.size<=100->Sz x:=λh=>by unfold Sz;omega
 exact⟨⟨k h.ins.ref,k h.ins.sender,k h.ins.cp,k h.ins.asset,λx hx=>k (h.ins.link x hx)⟩,k h.sender,k h.ref⟩
theorem Qb (w:World)(Q:Ps.Req)(e:Int)(he:e≠0)(a:Option Addr)(n c:Nat)(hs:jS Q)(hn0:n=Q.ins.links.length)(hput:dI w a n Q.ins.links)(hq:psR Q=e):zK w Q (.slice a n c) ⟨#[]⟩ e:=by
 unfold zK
 refine xZ w Q a n c λW b hb hr hd hn h1 h2 h3=>?_
 have hgW:w.heap.size<W.heap.size:=(Array.getElem?_eq_some_iff.1 hr).1
 have hr0:=bv hr
 obtain⟨z0,z1,z2⟩:=O7 hs
 have hO:Ok Tryz.prog (rbM W w.heap.size Q (.slice a n c) e):=(mP (Nat.le_refl _) (λg hg=>by cases hg) (λk g' o l hk=>by
  rcases k with _|_|k
  ·cases hk;exact⟨.inl hgW,hr0⟩
  ·cases hk
  ·cases hk) (λk p l hk=>by
  rcases k with _|_|k
  ·cases hk;exact wJ (λx e=>by cases e) hs
  ·cases hk
  ·cases hk)).withTst
 refine bE (M:=rbM W w.heap.size Q (.slice a n c) e) (n:=78) (code:=rtC) (K:=[(1,.p 0 0),(2,.s (0,⟨#[]⟩)),(3,.v (.int .i64 0))]) hO [2,3] (us:=[.s (0,⟨#[]⟩),.v (.int .i64 e)])
  (ps:=[aL W.heap.size W (Ev.aM (bI w.heap.size Q (.slice a n c))) 14 [.a 0 0 28] (.val (.int .i64 e)),(!decide (e=0))=true]) (by kernel_rfl)
  ⟨kE (x:=.agg (aB Q (.slice a n c))) xw rfl λw' hw'=>by
   have:=IW w' Q a n c (by have:=hs.ins.len;omega) z0 z1 z2 hn0 (hput.below (hb.trans (hw'.mono hb.size)))
   rw[hq]at this
   exact this,by simpa using he,trivial⟩ (aF (aF (aF (aZ hn hd) h3 rfl) h2 rfl) h1 rfl) (Sw.start _) ?_
 intro b w' _ hd hv hS
 exact nJ rfl hd hv ⟨rfl,hb.trans ((az rfl hS).mono hb.size)⟩
noncomputable def prS (Q:Ps.Req):ByteArray×Int:=if psR Q=0 then(cnT Q,0)else(⟨#[]⟩,psR Q)
theorem rt_any (w:World)(Q:Ps.Req)(a:Option Addr)(n c:Nat)(hs:jS Q)(hn:n=Q.ins.links.length)(hput:dI w a n Q.ins.links):zK w Q (.slice a n c) (prS Q).1 (prS Q).2:=by
 unfold prS
 by_cases h:psR Q=0
 ·rw[if_pos h];exact Mm w Q a n c ⟨h,hn,hput⟩
 ·rw[if_neg h];exact Qb w Q (psR Q) h a n c hs hn hput rfl
open Go Go.RowKit
theorem FK:∀args w,(callFunc 26 args).run Tryz.prog w=.ok (.enter 26 args) w:=enters_of Tryz.func26 (by kernel_rfl) rfl
theorem pp_no (w:World)(Q:Ps.Req)(sa:Option Addr)(sn sc:Nat)(m1:KnC w)(m2:Hid (∀W,Below w.heap.size w W->Calls Tryz.prog 23 #[.agg (aB Q (.slice sa sn sc))] W λe W'=>e=.returned (.bool false)/\Below W.heap.size W W')):
 Calls Tryz.prog 5 #[.agg (aB Q (.slice sa sn sc))] w λe W'=>e=.returned (.bool true)/\Below w.heap.size w W':=by
 have FP:=Hq
 unfold A7 at FP
 have hst:=Bj
 go_enter Tryz.func5,Tryz.ntmps5
 obtain⟨g,hg⟩:∃g,g=w.heap.size:=⟨_,rfl⟩
 refine wp_seq ?_
 refine wp_region_lit ?_
 refine wpList_plain rfl (λK hK=>?_)
 go_simp
 refine hK _ _ ?_
 clear hK K
 refine wpList_plain rfl (λK hK=>?_)
 go_simp
 refine hK _ _ ?_
 clear hK K
 refine aT ?_
 have hg0:(w.alloc (.cells (aB Q (.slice sa sn sc)) 28)).heap[g]? =some (.cells (aB Q (.slice sa sn sc)) 28 (0,0)):=by rw[hg];exact aC w _
 have HB0:Hid (Below w.heap.size w (w.alloc (.cells (aB Q (.slice sa sn sc)) 28))):=Lib.hid ((Below.refl _ _).alloc (Nat.le_refl _) _)
 rw[<-hg]
 generalize w.alloc (.cells (aB Q (.slice sa sn sc)) 28)=W0 at hg0 HB0⊢
 have HR0:Hid (W0.heap[g]? =some (.cells (aB Q (.slice sa sn sc)) 28 (0,0))):=Lib.hid hg0
 have HGW:Hid (g=w.heap.size):=Lib.hid hg
 clear hg hg0 FP
 go_upto_region 1 with fail
 refine wp_region_lit ?_
 refine jZ (vs:=[]) (by rfl) rfl rfl EI rfl (m1.out _ HB0.out) λe w1 he=>?_
 obtain⟨rfl,hb1⟩:=he
 refine⟨_,rfl,?_⟩
 have HB1:=Lib.hid (HB0.out.trans (hb1.mono HB0.out.size))
 have HR1:Hid (w1.heap[g]? =some (.cells (aB Q (.slice sa sn sc)) 28 (0,0))):=Lib.hid ((hb1.block g (Array.getElem?_eq_some_iff.1 HR0.out).1).trans HR0.out)
 clear hb1 HB0 HR0
 refine wpList_plain rfl (λK hK=>?_)
 go_simp
 refine hK _ _ ?_
 clear hK K
 refine wpList_plain rfl (λK hK=>?_)
 go_simp
 refine hK _ _ ?_
 clear hK K
 refine D9 (by rfl) rfl rfl rfl (vH g Q (.slice sa sn sc) w1 HR1.out) ?_
 refine jZ (vs:=[.agg (aB Q (.slice sa sn sc))]) (by rfl) rfl rfl AC rfl (m2.out _ HB1.out) λe w2 he=>?_
 obtain⟨rfl,hb2⟩:=he
 refine⟨_,rfl,?_⟩
 have HB2:=Lib.hid (HB1.out.trans (hb2.mono HB1.out.size))
 have HR2:Hid (w2.heap[g]? =some (.cells (aB Q (.slice sa sn sc)) 28 (0,0))):=Lib.hid ((hb2.block g (Array.getElem?_eq_some_iff.1 HR1.out).1).trans HR1.out)
 clear hb2 HB1 HR1
 clear HR2
 go_wp2_with (go_at_call 22;refine(m1.out _ HB2.out).mono ?_;rintro e w3 ⟨rfl,hb3⟩;have HB3:=Lib.hid (HB2.out.trans (hb3.mono HB2.out.size));clear hb3)
 go_ret
 exact⟨rfl,by rw[HGW.out];exact HB3.out⟩
theorem pp_yes (w:World)(Q:Ps.Req)(sa:Option Addr)(sn sc:Nat)(S:ByteArray)(x:Int)(m1:KnC w)(m2:Hid (∀W,Below w.heap.size w W->Calls Tryz.prog 23 #[.agg (aB Q (.slice sa sn sc))] W λe W'=>e=.returned (.bool true)/\Below W.heap.size W W'))(m3:Hid (∀W,Below w.heap.size w W->Calls Tryz.prog 25 #[.agg (aB Q (.slice sa sn sc))] W λe W'=>∃ta tc,e=.returned (.agg (aB Q (.slice ta sn tc)))/\Below W.heap.size W W'/\dR W' W.heap.size (.slice ta sn tc) Q.ins.links))(m4:Hid (∀W B a n c,Below w.heap.size w W->dR W B (.slice a n c) Q.ins.links->qK W Q (.slice a n c) S x))
 (m5:Hid (∀W,Below w.heap.size w W->zK W Q (.slice sa sn sc) S x)):
 Calls Tryz.prog 5 #[.agg (aB Q (.slice sa sn sc))] w λe W'=>e=.returned (.bool true)/\Below w.heap.size w W':=by
 have hSS:(S.toList==S.toList)=true:=by simp
 have hxx:(x==x)=true:=by simp
 have FP:=Hq
 unfold A7 at FP
 have hst:=Bj
 go_enter Tryz.func5,Tryz.ntmps5
 obtain⟨g,hg⟩:∃g,g=w.heap.size:=⟨_,rfl⟩
 refine wp_seq ?_
 refine wp_region_lit ?_
 refine wpList_plain rfl (λK hK=>?_)
 go_simp
 refine hK _ _ ?_
 clear hK K
 refine wpList_plain rfl (λK hK=>?_)
 go_simp
 refine hK _ _ ?_
 clear hK K
 refine aT ?_
 have hg0:(w.alloc (.cells (aB Q (.slice sa sn sc)) 28)).heap[g]? =some (.cells (aB Q (.slice sa sn sc)) 28 (0,0)):=by rw[hg];exact aC w _
 have HB0:Hid (Below w.heap.size w (w.alloc (.cells (aB Q (.slice sa sn sc)) 28))):=Lib.hid ((Below.refl _ _).alloc (Nat.le_refl _) _)
 rw[<-hg]
 generalize w.alloc (.cells (aB Q (.slice sa sn sc)) 28)=W0 at hg0 HB0⊢
 have HR0:Hid (W0.heap[g]? =some (.cells (aB Q (.slice sa sn sc)) 28 (0,0))):=Lib.hid hg0
 have HGW:Hid (g=w.heap.size):=Lib.hid hg
 clear hg hg0 FP
 go_upto_region 1 with fail
 refine wp_region_lit ?_
 refine jZ (vs:=[]) (by rfl) rfl rfl EI rfl (m1.out _ HB0.out) λe w1 he=>?_
 obtain⟨rfl,hb1⟩:=he
 refine⟨_,rfl,?_⟩
 have HB1:=Lib.hid (HB0.out.trans (hb1.mono HB0.out.size))
 have HR1:Hid (w1.heap[g]? =some (.cells (aB Q (.slice sa sn sc)) 28 (0,0))):=Lib.hid ((hb1.block g (Array.getElem?_eq_some_iff.1 HR0.out).1).trans HR0.out)
 clear hb1 HB0 HR0
 refine wpList_plain rfl (λK hK=>?_)
 go_simp
 refine hK _ _ ?_
 clear hK K
 refine wpList_plain rfl (λK hK=>?_)
 go_simp
 refine hK _ _ ?_
 clear hK K
 refine D9 (by rfl) rfl rfl rfl (vH g Q (.slice sa sn sc) w1 HR1.out) ?_
 refine jZ (vs:=[.agg (aB Q (.slice sa sn sc))]) (by rfl) rfl rfl AC rfl (m2.out _ HB1.out) λe w2 he=>?_
 obtain⟨rfl,hb2⟩:=he
 refine⟨_,rfl,?_⟩
 have HB2:=Lib.hid (HB1.out.trans (hb2.mono HB1.out.size))
 have HR2:Hid (w2.heap[g]? =some (.cells (aB Q (.slice sa sn sc)) 28 (0,0))):=Lib.hid ((hb2.block g (Array.getElem?_eq_some_iff.1 HR1.out).1).trans HR1.out)
 clear hb2 HB1 HR1
 go_upto_region 3 with fail
 refine wp_region_lit ?_
 refine jl rfl rfl rfl rfl (vH g Q (.slice sa sn sc) w2 HR2.out) ?_
 refine jZ (vs:=[.agg (aB Q (.slice sa sn sc))]) (by rfl) rfl rfl OE rfl (m3.out _ HB2.out) λe w3 he=>?_
 obtain⟨ta,tc,rfl,hb3,hl3⟩:=he
 refine⟨_,rfl,?_⟩
 have HB3:=Lib.hid (HB2.out.trans (hb3.mono HB2.out.size))
 have HR3:Hid (w3.heap[g]? =some (.cells (aB Q (.slice sa sn sc)) 28 (0,0))):=Lib.hid ((hb3.block g (Array.getElem?_eq_some_iff.1 HR2.out).1).trans HR2.out)
 clear hb3 HR2 HB2
 refine jZ (vs:=[.agg (aB Q (.slice ta sn tc))]) (by rfl) rfl rfl LG rfl (m4.out w3 _ ta sn tc HB3.out hl3) λe w4 he=>?_
 clear hl3
 obtain⟨rfl,hb4⟩:=he
 refine⟨_,rfl,?_⟩
 have UL:=Lib.hid (HB3.out.trans (hb4.mono HB3.out.size))
 have HR4:Hid (w4.heap[g]? =some (.cells (aB Q (.slice sa sn sc)) 28 (0,0))):=Lib.hid ((hb4.block g (Array.getElem?_eq_some_iff.1 HR3.out).1).trans HR3.out)
 clear hb4 HR3 HB3
 go_upto_region 4 with fail
 refine wp_region_lit ?_
 refine jl rfl rfl rfl rfl (vH g Q (.slice sa sn sc) w4 HR4.out) ?_
 refine jZ (vs:=[.agg (aB Q (.slice sa sn sc))]) (by rfl) rfl rfl FK rfl (m5.out w4 UL.out) λe w5 he=>?_
 obtain⟨rfl,hb5⟩:=he
 refine⟨_,rfl,?_⟩
 have TY:=Lib.hid (UL.out.trans (hb5.mono UL.out.size))
 clear hb5 HR4 UL m1 m2 m3 m4 m5
 go_wp2_with fail
 go_ret
 exact⟨rfl,by rw[HGW.out];exact TY.out⟩
theorem D7 {m:Int}{kb ko kc:Nat}{w:World}(env:jg m kb ko kc w)(hE:jG w)(Q:Ps.Req)(sa:Option Addr)(sn sc:Nat)(hn:sn=Q.ins.links.length)(z0:jI Q.ins)(z1:Sz Q.sender)(z2:Sz Q.ref)(hput:dI w sa sn Q.ins.links):Calls Tryz.prog 5 #[.agg (aB Q (.slice sa sn sc))] w λe W'=>e=.returned (.bool true)/\Below w.heap.size w W':=by
 have m1:KnC w:=Lib.hid λW hW=>kn20 (env.below hW) (hE.below hW)
 obtain⟨b,hbs,m2⟩:=Qh w Q z0 z1 z2 sa sn sc hn hput
 cases b with
 |false=>exact pp_no w Q sa sn sc m1 (Lib.hid m2)
 |true=>
  have hsm:=hbs.1 rfl
  have h20:=hsm.ins.len
  have m3:Hid (∀W,Below w.heap.size w W->Calls Tryz.prog 25 #[.agg (aB Q (.slice sa sn sc))] W λe W'=>∃ta tc,e=.returned (.agg (aB Q (.slice ta sn tc)))/\Below W.heap.size W W'/\dR W' W.heap.size (.slice ta sn tc) Q.ins.links):=Lib.hid λW hW=>QF W Q sa sn sc (Lib.hid hn) (Lib.hid (by omega)) (Lib.hid λh0=>hput.below hW h0)
  have m4:Hid (∀W B a n c,Below w.heap.size w W->dR W B (.slice a n c) Q.ins.links->qK W Q (.slice a n c) (prS Q).1 (prS Q).2):=Lib.hid λW B a n c hW hl=>by
   unfold prS
   by_cases he:psR Q=0
   ·rw[if_pos he]
    exact Qa env hE Q he W B a n c hW hl
   ·rw[if_neg he]
    exact Qc W Q (psR Q) he a n c hsm λW2 hW2=>GA (env.below (hW.trans (hW2.mono hW.size))).id (Qf (env.below (hW.trans (hW2.mono hW.size))).id) W2 B Q a n c (Below.refl _ _) (hl.below hW2)
  exact pp_yes w Q sa sn sc (prS Q).1 (prS Q).2 m1 (Lib.hid m2) m3 m4 (Lib.hid λW hW=>rt_any W Q sa sn sc hsm hn (hput.below hW))
end Go.Proofs.YtnjjeapcalkmaaaGreatDoor
namespace Go.Proofs.YtnjjeapcalkmaaaGreatDoor.lawPrPrint
open Go.ChangeShapes Go.WideShapes Go.ChangeAt Go.RowKit
theorem own:ownKnob Tryz.prog.godebug=none:=by kernel_rfl
theorem laidOut:laidOutB Tryz.prog=true:=by kernel_rfl
theorem Oo:("strconv.ErrRange",(Rows.laid_strconv_ErrRange:DataW Unit))∈Rows.printerPrintRow.laid:=by
 unfold Rows.printerPrintRow
 exact .tail _ (.tail _ (.tail _ (.tail _ ((.head _)))))
theorem Jl:("strconv.ErrSyntax",(Rows.laid_strconv_ErrSyntax:DataW Unit))∈Rows.printerPrintRow.laid:=by
 unfold Rows.printerPrintRow
 exact .tail _ (.tail _ (.tail _ (.tail _ (.tail _ ((.head _))))))
theorem memIds:("giro/ident.kinds",(Rows.laid_giro_ident_kinds:DataW Unit))∈Rows.printerPrintRow.laid:=by
 unfold Rows.printerPrintRow
 exact .tail _ (.tail _ (.tail _ (.tail _ (.tail _ (.tail _ ((.head _)))))))
theorem memLex:("giro/lexer.kinds",(Rows.laid_giro_lexer_kinds:DataW Unit))∈Rows.printerPrintRow.laid:=by
 unfold Rows.printerPrintRow
 exact .tail _ (.tail _ (.tail _ (.tail _ (.tail _ (.tail _ (.tail _ ((.head _))))))))
theorem Ie:("giro/message.priorityNames",(Rows.laid_giro_message_priorityNames:DataW Unit))∈Rows.printerPrintRow.laid:=by
 unfold Rows.printerPrintRow
 exact .tail _ (.tail _ (.tail _ (.tail _ (.tail _ (.tail _ (.tail _ (.tail _ (.tail _ (.tail _ ((.head _)))))))))))
theorem memPow:("internal/strconv.uint64pow10",(Rows.laid_internal_strconv_uint64pow10:DataW Unit))∈Rows.printerPrintRow.laid:=by
 unfold Rows.printerPrintRow
 exact .tail _ (.tail _ ((.head _)))
theorem memKd:("giro/message.kindNames",(Rows.laid_giro_message_kindNames:DataW Unit))∈Rows.printerPrintRow.laid:=by
 unfold Rows.printerPrintRow
 exact .tail _ (.tail _ (.tail _ (.tail _ (.tail _ (.tail _ (.tail _ (.tail _ ((.head _)))))))))
theorem memOp:("giro/message.operationNames",(Rows.laid_giro_message_operationNames:DataW Unit))∈Rows.printerPrintRow.laid:=by
 unfold Rows.printerPrintRow
 exact .tail _ (.tail _ (.tail _ (.tail _ (.tail _ (.tail _ (.tail _ (.tail _ (.tail _ ((.head _))))))))))
theorem contract (H:Type)(enc:TypeId×Value->H)(W:World)(base:Nat)(args:Array Value)(ds gs:List (DataW H))(before:List MemPlace)
 (hval:∀(j:Nat) t v,Tryz.f5.params[j]? =some t->args[j]? =some v->Value.okWide Tryz.prog W .any base t v)
 (hW:DataW.Whole enc Tryz.prog Tryz.f5.params.toList Rows.printerPrintSpec.vars false W args.toList ds gs before) (hL:laidMetH Tryz.prog Rows.printerPrintRow.laid W) (hsh:W.ShapedOpen Tryz.prog):
 Calls Tryz.prog 5 args W λe W'=>∃v,e=.returned v/\Rows.printerPrintSpec.post enc Tryz.prog Tryz.f5 false true false false W args v W':=by
 have hW':=hW
 obtain⟨p,q,hA0,hV,rfl,hfz,hnd⟩:=hW
 have hA:DataW.TrodAll enc Tryz.prog W 0 (λ_=>true) true Tryz.f5.params.toList args.toList ds p:=hA0
 rw[Tryz.params5]at hA hval
 obtain⟨v0,vs0,d0,ds0,p0,q0,hargs,rfl,rfl,h0,r0⟩:=trodAll_cons hA
 obtain⟨rfl,rfl,rfl⟩:=trodAll_nil r0
 obtain rfl:args=#[v0]:=by cases args;simp_all
 obtain⟨rfl,rfl⟩:=trodVars_none hV
 clear hA0
 simp only[List.append_nil]at hW'
 have hlt:∀x∈p0,x.block<W.heap.size:=λx hx=>by simpa using hW'.lt x hx
 obtain⟨Q0,a0,c0,rfl,x0a,x0b,x0c,x0d,x0e⟩:=q_open h0
 obtain⟨m,Qo⟩:=Tryz.laysM145.s1_3 W hsh
 obtain⟨kb,ko,kc,env⟩:=xM hL memLex memIds Ie Oo Jl m Qo
 refine(D7 env (xI hL memPow Ie memOp memKd) Q0 a0 _ c0 rfl x0a x0b x0c x0e).mono λe W' ⟨he,hb⟩=>?_
 subst he
 have t0:=Below.trod laidOut (by kernel_rfl) (of_decide_eq_true (by kernel_rfl)) h0 hb (λx hx=>hlt x (by simp[hx]))
 exact⟨_,rfl,_,_,_,[],_,[],hW',trodAll_cons_mk (shut_bool Tryz.underlying4 _) trodAll_mk0,trodAll_cons_mk t0 trodAll_mk0,rfl,hb.frame _,λh=>by cases h⟩
noncomputable def kX (os:Os):World:=(World.doorLaid Tryz.prog 300 os).layVars Tryz.prog [("unicode/utf8.first",Rows.laid_unicode_utf8_first)]
theorem Ru (os:Os):(kX os).os=os:=by unfold kX;rw[World.layVars_os];rfl
theorem NL (os:Os):laidMetH Tryz.prog Rows.printerPrintRow.laid ((kX os).forCall (λ_ _=>0) ⟨#[],#[Value.agg #[.int .i64 0,.string ⟨#[]⟩,.string ⟨#[]⟩,.string ⟨#[]⟩,.int .i64 0,.string ⟨#[]⟩,.string ⟨#[]⟩,.int .i64 0,.string ⟨#[]⟩,.int .i64 0,.int .i64 0,.int .i64 0,.int .i64 0,.int .i64 0,.bool false,.int .i64 0,.bool false,.bool false,.slice none 0 0,.bool false,.bool false,.bool false,.bool false,.int .i64 0,.int .i64 0,.int .i64 0,.bool false,.int .i64 0]],[]⟩).memory:=
 laidMetH_of_parts3 (fuel:=8)
  (laidMet_layVars (w0:=World.doorLaid Tryz.prog 300 os) ["unicode/utf8.first"] ((List.range (World.doorLaid Tryz.prog 300 os).heap.size).filter (· !=7)) (by rfl) (by kernel_rfl) (by kernel_rfl)
   (LaidIn.of_run _ 8 (by kernel_rfl) (by kernel_rfl) (by kernel_rfl) (by kernel_rfl))) (by kernel_rfl) (by kernel_rfl)
theorem reads (os:Os){H:Type}(enc:TypeId×Value->H):∃places,DataW.whole enc Tryz.prog ((kX os).forCall (λ_ _=>0) ⟨#[],#[Value.agg #[.int .i64 0,.string ⟨#[]⟩,.string ⟨#[]⟩,.string ⟨#[]⟩,.int .i64 0,.string ⟨#[]⟩,.string ⟨#[]⟩,.int .i64 0,.string ⟨#[]⟩,.int .i64 0,.int .i64 0,.int .i64 0,.int .i64 0,.int .i64 0,.bool false,.int .i64 0,.bool false,.bool false,.slice none 0 0,.bool false,.bool false,.bool false,.bool false,.int .i64 0,.int .i64 0,.int .i64 0,.bool false,.int .i64 0]],[]⟩).memory Tryz.f5.params.toList Rows.printerPrintSpec.vars false #[Value.agg #[.int .i64 0,.string ⟨#[]⟩,.string ⟨#[]⟩,.string ⟨#[]⟩,.int .i64 0,.string ⟨#[]⟩,.string ⟨#[]⟩,.int .i64 0,.string ⟨#[]⟩,.int .i64 0,.int .i64 0,.int .i64 0,.int .i64 0,.int .i64 0,.bool false,.int .i64 0,.bool false,.bool false,.slice none 0 0,.bool false,.bool false,.bool false,.bool false,.int .i64 0,.int .i64 0,.int .i64 0,.bool false,.int .i64 0]].toList 8=some ([.agg [.lit (.int .i64 0),.lit (.string []),.lit (.string []),.agg [.lit (.string []),.lit (.int .i64 0),.lit (.string []),.lit (.string []),.lit (.int .i64 0),.lit (.string []),.lit (.int .i64 0),.lit (.int .i64 0),.lit (.int .i64 0),.lit (.int .i64 0),.lit (.int .i64 0),.lit (.bool false),.lit (.int .i64 0),.lit (.bool false),.lit (.bool false),.nil],.agg [.lit (.bool false),.lit (.bool false),.lit (.bool false),.lit (.bool false),.lit (.int .i64 0),.lit (.int .i64 0),.lit (.int .i64 0),.lit (.bool false),.lit (.int .i64 0)]]],[],places):=
 ⟨[],by kernel_rfl⟩
theorem lifted (os:Os)(started:os.Started)(H:Type)(enc:TypeId×Value->H)(F:Stop.Interp):
 ReturnsInHanded {} Tryz.checked os 5 .any ((OpenSpec.ofChange Rows.printerPrintSpec).preRow enc Tryz.prog Tryz.f5 Rows.printerPrintRow.domain false Rows.printerPrintRow.laid) (((OpenSpec.ofChange Rows.printerPrintSpec).at F).post enc Tryz.prog Tryz.f5 false true false false):=by
 obtain⟨places,hx⟩:=reads os enc
 refine returnsInHanded_of_row (C:=Tryz.checked) (s:=OpenSpec.ofChange Rows.printerPrintSpec) own started (by kernel_rfl) Tryz.func5
  (witness_row_atRef (enc:=enc) (C:=Tryz.checked) false (kX os) #[Value.agg #[.int .i64 0,.string ⟨#[]⟩,.string ⟨#[]⟩,.string ⟨#[]⟩,.int .i64 0,.string ⟨#[]⟩,.string ⟨#[]⟩,.int .i64 0,.string ⟨#[]⟩,.int .i64 0,.int .i64 0,.int .i64 0,.int .i64 0,.int .i64 0,.bool false,.int .i64 0,.bool false,.bool false,.slice none 0 0,.bool false,.bool false,.bool false,.bool false,.int .i64 0,.int .i64 0,.int .i64 0,.bool false,.int .i64 0]] (Ru os) (by kernel_rfl) (by kernel_rfl) (by kernel_rfl)
   (OpenSpec.preRow_of_cond 8 hx (by kernel_rfl) (λk hk=>by cases hk) (by kernel_rfl) (NL os))) ?_
 intro W base args ds gs before hval hW _ _ _ hL hsh _
 exact contract H enc W base args ds gs before hval hW hL hsh
theorem said:Rows.PrinterPrintSaid:=
 OpenClaim.holds_of_cond 5 Tryz.f5 rfl rfl rfl rfl rfl rfl rfl ⟨rfl,rfl,rfl,rfl,rfl⟩ rfl rfl rfl rfl rfl (by kernel_rfl) Tryz.func5 facts
  (of_decide_eq_true (by kernel_rfl)) (by unfold Func.isWrapper;first|(rw[if_pos (by decide +kernel)];kernel_rfl)|(rw[if_neg (by decide +kernel)];exact⟨rfl,rfl⟩))
  (λos started H enc _ F=>by rw[OpenClaim.pre_eq_preRow];exact lifted os started H enc F)
theorem plain (f:FuncId)(fn:Func)(hf:Tryz.pinned.checked.prog.funcNamed "giro/girolaw20.PrinterPrint"=some f)(hfn:Tryz.pinned.checked.prog.funcs[f]? =some fn):
 true=Tryz.pinned.checked.prog.looks []/\∀(j:Nat) t,fn.params[j]? =some t->Tryz.pinned.checked.prog.wantsStandIn t=false:=by
 obtain rfl:f=5:=Option.some.inj ((show Tryz.prog.funcNamed "giro/girolaw20.PrinterPrint"=some 5 by kernel_rfl).symm.trans hf)|>.symm
 obtain rfl:fn=Tryz.f5:=(Option.some.inj (Tryz.func5.symm.trans hfn)).symm
 refine⟨by kernel_rfl,λj t ht=>?_⟩
 rw[Tryz.params5]at ht
 have hm:=Array.mem_of_getElem? ht
 simp at hm
 subst hm
 exact(show Tryz.prog.wantsStandIn 28=false by kernel_rfl)
theorem card:Rows.PrinterPrintCardSaid:=
 Claim7.holds_tied_plain_at .later [] _ _ _ _ said (λ_ h=>by cases h) (by kernel_rfl) (λ_ h=>by cases h) printerPrint_row_tie rfl ⟨rfl,rfl⟩ (by kernel_rfl) rfl plain (by kernel_rfl)
#print axioms card
end Go.Proofs.YtnjjeapcalkmaaaGreatDoor.lawPrPrint
