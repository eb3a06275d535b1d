/-
  PrinterRoundTrip is true for every input. The row lists some package-level variables as the program's text lays them; the card ties them.
-/
import Derived.Test.YtnjjeapcalkmaaaGreatDoorPrH
set_option maxRecDepth 100000
set_option maxHeartbeats 4000000
set_option linter.unusedVariables false
set_option linter.unusedSimpArgs false
namespace Go.Proofs.YtnjjeapcalkmaaaGreatDoor
open Go.RowKit
open Go.Proofs.YtnjjeapcalkmaaaGreatDoor.Ord
theorem entOw:∀args w,(callFunc 32 args).run Tryz.prog w=.ok (.enter 32 args) w:=enters_of Tryz.func32 (by kernel_rfl) rfl
theorem entOwA:∀args w,(callFunc 70 args).run Tryz.prog w=.ok (.enter 70 args) w:=enters_of Tryz.func70 (by kernel_rfl) rfl
theorem Oa (ρ:Operand->Value)(Q:Ps.Req)(V:Value){x0 x1 x2 x3 x4:Operand}(h0:ρ x0=.int .i64 Q.op)(h1:ρ x1=.string Q.sender)(h2:ρ x2=.string Q.ref)(h3:ρ x3=.agg (aB Q.ins V).toArray)(h4:ρ x4=.agg (aH Q.amd).toArray)(w:World):
 (Instr.build 37 ((#[(0,x0),(1,x1),(2,x2),(3,x3),(4,x4)]:Array (Nat×Operand)).map λ(i,x)=>(i,ρ x))).run Tryz.prog w=.ok (.agg (aA Q V)) w:=by
 simp only[List.map_toArray,List.map_cons,List.map_nil,h0,h1,h2,h3,h4]
 unfold aA aB aH
 go_simp
theorem PK (g:Nat)(Q:Ps.Req)(a:Option Addr)(n c:Nat)(w:World)(h:w.heap[g]? =some (.cells (aA Q (.slice a n c)) 28 (0,0))):(Instr.loadAt 24 (.pointer (some ⟨g,3,none⟩))).run Tryz.prog w=.ok (.agg (aB Q.ins (.slice a n c)).toArray) w:=by
 have k0:w.cell? ⟨g,3,none⟩=some (.string Q.ins.ref):=by rw[cell_of_row _ _ _ _ _ _ h];rfl
 have k1:w.cell? ⟨g,4,none⟩=some (.int .i64 Q.ins.kind):=by rw[cell_of_row _ _ _ _ _ _ h];rfl
 have k2:w.cell? ⟨g,5,none⟩=some (.string Q.ins.sender):=by rw[cell_of_row _ _ _ _ _ _ h];rfl
 have k3:w.cell? ⟨g,6,none⟩=some (.string Q.ins.counterparty):=by rw[cell_of_row _ _ _ _ _ _ h];rfl
 have k4:w.cell? ⟨g,7,none⟩=some (.int .i64 Q.ins.side):=by rw[cell_of_row _ _ _ _ _ _ h];rfl
 have k5:w.cell? ⟨g,8,none⟩=some (.string Q.ins.asset):=by rw[cell_of_row _ _ _ _ _ _ h];rfl
 have k6:w.cell? ⟨g,9,none⟩=some (.int .i64 Q.ins.quantity):=by rw[cell_of_row _ _ _ _ _ _ h];rfl
 have k7:w.cell? ⟨g,10,none⟩=some (.int .i64 Q.ins.amount):=by rw[cell_of_row _ _ _ _ _ _ h];rfl
 have k8:w.cell? ⟨g,11,none⟩=some (.int .i64 Q.ins.tradeDay):=by rw[cell_of_row _ _ _ _ _ _ h];rfl
 have k9:w.cell? ⟨g,12,none⟩=some (.int .i64 Q.ins.settleDay):=by rw[cell_of_row _ _ _ _ _ _ h];rfl
 have k10:w.cell? ⟨g,13,none⟩=some (.int .i64 Q.ins.priority):=by rw[cell_of_row _ _ _ _ _ _ h];rfl
 have k11:w.cell? ⟨g,14,none⟩=some (.bool Q.ins.partial_):=by rw[cell_of_row _ _ _ _ _ _ h];rfl
 have k12:w.cell? ⟨g,15,none⟩=some (.int .i64 Q.ins.minLot):=by rw[cell_of_row _ _ _ _ _ _ h];rfl
 have k13:w.cell? ⟨g,16,none⟩=some (.bool Q.ins.hold):=by rw[cell_of_row _ _ _ _ _ _ h];rfl
 have k14:w.cell? ⟨g,17,none⟩=some (.bool Q.ins.reserve):=by rw[cell_of_row _ _ _ _ _ _ h];rfl
 have k15:w.cell? ⟨g,18,none⟩=some (.slice a n c):=by rw[cell_of_row _ _ _ _ _ _ h];rfl
 clear h
 go_simp
 rfl
theorem O3 (g:Nat)(Q:Ps.Req)(lv:Value)(w:World)(h:w.heap[g]? =some (.cells (aA Q lv) 28 (0,0))):(Instr.loadAt 26 (.pointer (some ⟨g,19,none⟩))).run Tryz.prog w=.ok (.agg (aH Q.amd).toArray) w:=by
 have k0:w.cell? ⟨g,19,none⟩=some (.bool Q.amd.hasAmount):=by rw[cell_of_row _ _ _ _ _ _ h];rfl
 have k1:w.cell? ⟨g,20,none⟩=some (.bool Q.amd.hasSettleDay):=by rw[cell_of_row _ _ _ _ _ _ h];rfl
 have k2:w.cell? ⟨g,21,none⟩=some (.bool Q.amd.hasPriority):=by rw[cell_of_row _ _ _ _ _ _ h];rfl
 have k3:w.cell? ⟨g,22,none⟩=some (.bool Q.amd.hasPartial):=by rw[cell_of_row _ _ _ _ _ _ h];rfl
 have k4:w.cell? ⟨g,23,none⟩=some (.int .i64 Q.amd.amount):=by rw[cell_of_row _ _ _ _ _ _ h];rfl
 have k5:w.cell? ⟨g,24,none⟩=some (.int .i64 Q.amd.settleDay):=by rw[cell_of_row _ _ _ _ _ _ h];rfl
 have k6:w.cell? ⟨g,25,none⟩=some (.int .i64 Q.amd.priority):=by rw[cell_of_row _ _ _ _ _ _ h];rfl
 have k7:w.cell? ⟨g,26,none⟩=some (.bool Q.amd.partial_):=by rw[cell_of_row _ _ _ _ _ _ h];rfl
 have k8:w.cell? ⟨g,27,none⟩=some (.int .i64 Q.amd.minLot):=by rw[cell_of_row _ _ _ _ _ _ h];rfl
 clear h
 go_simp
 rfl
theorem Ll (w:World)(Q:Ps.Req)(sa:Option Addr)(sn sc:Nat)(hsn:Hid (sn=Q.ins.links.length))(hlt:Hid (sn<=1000000))(hlk:Hid (0<sn->∃sb so,sa=some ⟨sb,so,none⟩/\∀W,Below w.heap.size w W->AZ W sb so Q.ins.links)):
 Calls Tryz.prog 25 #[.agg (aA Q (.slice sa sn sc))] w λe w'=>∃ta tc,e=.returned (.agg (aA Q (.slice ta sn tc)))/\Below w.heap.size w w'/\LkM w' w.heap.size (.slice ta sn tc) Q.ins.links:=by
 obtain⟨g,hg⟩:∃g,g=w.heap.size:=⟨_,rfl⟩
 go_enter Tryz.func25,Tryz.ntmps25
 refine wp_seq ?_
 refine wp_region_lit ?_
 refine wpList_plain rfl (λK hK=>?_)
 go_simp
 refine hK _ _ ?_
 clear hK K
 refine wpList_plain rfl (λK hK=>?_)
 go_simp
 refine hK _ _ ?_
 clear hK K
 refine aZ ?_
 have rww:Hid (∀(W:World) (sb:Nat),Below w.heap.size w W->True):=Lib.hid λ_ _ _=>trivial
 generalize hW:World.alloc _ _=W1
 have hW1:W1=(w.alloc (.cells (aA Q (.slice sa sn sc)) 28)).alloc (.cells (aA {} (.slice none 0 0)) 37):=hW.symm
 clear hW rww
 have hb1:Below w.heap.size w W1:=by rw[hW1];exact((Below.refl _ _).alloc (Nat.le_refl _) _).alloc (by simp) _
 have hr0:W1.heap[g]? =some (.cells (aA Q (.slice sa sn sc)) 28 (0,0)):=by rw[hW1,hg,heap_alloc_old _ _ (by simp)];exact aC w _
 have hr1:W1.heap[g+1]? =some (.cells (aA {} (.slice none 0 0)) 37 (0,0)):=by rw[hW1,hg];exact heap_alloc2_new _ _ _
 have hs1:g+2=W1.heap.size:=by rw[hW1,hg];simp
 have HG:=Lib.hid hg
 rw[<-hg]at hb1 hlk⊢
 clear hW1 hg
 obtain⟨W2,hW2⟩:∃W2,W2=W1.drew:=⟨_,rfl⟩
 have hb2:Below g w W2:=by rw[hW2];exact hb1.drew
 have hz2:W2.heap=W1.heap:=by rw[hW2];rfl
 have nB:=NI W2 Q.ins sa sn sc hsn hlt (Lib.hid λh=>by
  obtain⟨sb,so,e,hr⟩:=hlk.out h
  exact⟨sb,so,e,λW hW=>hr W (hb2.trans (hW.mono (by have:=hb2.size;have:=HG.out;omega)))⟩)
 obtain⟨W3,hW3⟩:∃W3,W3=owW W2 Q.ins (.slice sa sn sc):=⟨_,rfl⟩
 obtain⟨ta,tc,hV,hb3,hL3⟩:∃ta tc,owV W2 Q.ins (.slice sa sn sc)=.slice ta sn tc/\Below W2.heap.size W2 W3/\LkM W3 (W2.heap.size+3) (.slice ta sn tc) Q.ins.links:=by
  obtain⟨e,w',_,⟨_,h1,ta,tc,h2,h3,h4⟩,_⟩:=nB []
  rw[h1]at h3 h4
  rw[hW3]
  exact⟨ta,tc,h2,h3,h4⟩
 rw[hV,<-hW3]at nB
 replace nB:=Lib.hid (nB.mono λe w' h=>(⟨h.1,h.2.1⟩:_/\_))
 have hs2:W2.heap.size=g+2:=by rw[hz2,hs1]
 have hg3:∀w,Below W3.heap.size W3 w->w.heap[g]? =some (.cells (aA Q (.slice sa sn sc)) 28 (0,0))/\w.heap[g+1]? =some (.cells (aA {} (.slice none 0 0)) 37 (0,0)):=λw hw=>by
  have:=hb3.size
  rw[hw.block g (by omega),hw.block (g+1) (by omega),hb3.block g (by omega),hb3.block (g+1) (by omega),hz2]
  exact⟨hr0,hr1⟩
 have hst:Hid (∀(dn:Nat->Bool) (w:World),(if dn 13=true then∃w0,Below W3.heap.size W3 w0/\w=w0.setRow (g+1) (aA Q (.slice ta sn tc))else if dn 11=true then Below W3.heap.size W3 w else if dn 8=true then w=W3 else w=W2)->w.heap[g]? =some (.cells (aA Q (.slice sa sn sc)) 28 (0,0))):=Lib.hid λdn w h=>by
  split at h
  ·obtain⟨w0,h1,rfl⟩:=h
   rw[setRow_other _ _ _ _ (by omega)]
   exact(hg3 w0 h1).1
  ·split at h
   ·exact(hg3 w h).1
   ·split at h
    ·rw[h];exact(hg3 W3 (Below.refl _ _)).1
    ·rw[h,hz2];exact hr0
 have hz1:Hid (∀w,Below W3.heap.size W3 w->w.heap[g+1]? =some (.cells (aA {} (.slice none 0 0)) 37 (0,0))):=Lib.hid λw hw=>(hg3 w hw).2
 have HE:Hid (∀w0,Below W3.heap.size W3 w0->(w0.setRow (g+1) (aA Q (.slice ta sn tc))).heap[g+1]? =some (.cells (aA Q (.slice ta sn tc)) 37 (0,0))/\Below g w (w0.setRow (g+1) (aA Q (.slice ta sn tc)))/\LkM (w0.setRow (g+1) (aA Q (.slice ta sn tc))) g (.slice ta sn tc) Q.ins.links):=Lib.hid λw0 h0=>by
  have k1:=hb3.size
  have k2:=hb2.size
  have k3:=h0.size
  refine⟨setRow_heap w0 (g+1) _ _ _ _ (hg3 w0 h0).2,⟨?_,?_,?_,?_,λj hj=>?_⟩,?_⟩
  ·exact h0.os.trans (hb3.os.trans hb2.os)
  ·exact h0.tape.trans (hb3.tape.trans hb2.tape)
  ·exact h0.output.trans (hb3.output.trans hb2.output)
  ·rw[setRow_size];omega
  ·rw[setRow_other _ _ _ _ (by omega),h0.block j (by omega),hb3.block j (by omega)]
   exact hb2.block j hj
  ·refine dB (ed hL3 λj hj=>?_) (by omega)
   have:=hL3.lt j hj
   rw[setRow_other _ _ _ _ (by omega)]
   exact h0.block j this.2
 have HW2:=Lib.hid hW2
 clear hW3 hV hb3 hL3 hs2 hg3 hz2 hb2 hW2 hs1 hr0 hr1 hb1 hlk hlt hsn
 refine qO rfl λa ha hdf=>?_
 have hsz:a.tmps.size=16:=by rw[ha];rfl
 have hf1:a.tmps[1]? =some (.pointer (some ⟨g,0,none⟩)):=by rw[ha];rfl
 have hf2:a.tmps[2]? =some (.pointer (some ⟨g+1,0,none⟩)):=by rw[ha];rfl
 clear ha
 refine wp_seq ?_
 obtain⟨vs,hvs⟩:∃vs:List Value,vs=[(.pointer (some ⟨g,0,none⟩)),(.int .i64 Q.op),(.pointer (some ⟨g,1,none⟩)),(.string Q.sender),(.pointer (some ⟨g,2,none⟩)),(.string Q.ref),(.pointer (some ⟨g,3,none⟩)),(.agg (aB Q.ins (.slice sa sn sc)).toArray),(.agg (aB Q.ins (.slice ta sn tc)).toArray),(.pointer (some ⟨g,19,none⟩)),(.agg (aH Q.amd).toArray),(.agg (aH Q.amd).toArray),(.agg (aA Q (.slice ta sn tc))),(undef)]:=⟨_,rfl⟩
 refine iG (λdn w=>if dn 13=true then∃w0,Below W3.heap.size W3 w0/\w=w0.setRow (g+1) (aA Q (.slice ta sn tc))else if dn 11=true then Below W3.heap.size W3 w else if dn 8=true then w=W3 else w=W2) (Ord.inD [(1,0),(3,2),(5,4),(7,6),(8,6),(8,7),(10,9),(11,8),(11,9),(11,10),(12,0),(12,1),(12,2),(12,3),(12,4),(12,5),(12,6),(12,7),(12,8),(12,9),(12,10),(12,11),(13,0),(13,1),(13,2),(13,3),(13,4),(13,5),(13,6),(13,7),(13,8),(13,9),(13,10),(13,11),(13,12)]) (Ord.tK (by kernel_rfl)) 14 vs (by rw[hvs];rfl) rfl rfl (by kernel_rfl) (by kernel_rfl) (by kernel_rfl) (by rw[hsz];kernel_rfl) (by simpa using HW2.out.symm) ?_ ?_
 ·intro ρ hD hrest hco hfu
  have e1:ρ (.tmp 1)=.pointer (some ⟨g,0,none⟩):=(hrest 1 (by decide +kernel)).trans (eval_at hf1)
  have e2:ρ (.tmp 2)=.pointer (some ⟨g+1,0,none⟩):=(hrest 2 (by decide +kernel)).trans (eval_at hf2)
  obtain⟨e3,e4,e5,e6,e7,e8,e9,e10,e11,e12,e13,e14,e15,-⟩:ρ (.tmp 3)=(.pointer (some ⟨g,0,none⟩))/\ρ (.tmp 4)=(.int .i64 Q.op)/\ρ (.tmp 5)=(.pointer (some ⟨g,1,none⟩))/\ρ (.tmp 6)=(.string Q.sender)/\ρ (.tmp 7)=(.pointer (some ⟨g,2,none⟩))/\ρ (.tmp 8)=(.string Q.ref)/\ρ (.tmp 9)=(.pointer (some ⟨g,3,none⟩))/\ρ (.tmp 10)=(.agg (aB Q.ins (.slice sa sn sc)).toArray)/\ρ (.tmp 11)=(.agg (aB Q.ins (.slice ta sn tc)).toArray)/\ρ (.tmp 12)=(.pointer (some ⟨g,19,none⟩))/\ρ (.tmp 13)=(.agg (aH Q.amd).toArray)/\ρ (.tmp 14)=(.agg (aH Q.amd).toArray)/\ρ (.tmp 15)=(.agg (aA Q (.slice ta sn tc)))/\True/\True:=lX hvs hD
  refine xy hvs ?_
  refine⟨λdn hn hd he=>aK (B:=λ_=>True) (λw h=>by simpa using h) (λ_ _=>trivial) (λw0=>bH rfl (dz rfl e1 (λw=>by go_simp))),?_⟩
  refine⟨λdn hn hd he=>aK (B:=λw=>w.heap[g]? =some (.cells (aA Q (.slice sa sn sc)) 28 (0,0))) (λw h=>by simpa using h) (λw h=>hst.out dn w h) (λw0=>bH rfl (fJ rfl e3 (λw hS=>EJ _ w _ (by rw[cell_of_row _ _ _ _ _ _ hS.2];rfl)))),?_⟩
  refine⟨λdn hn hd he=>aK (B:=λ_=>True) (λw h=>by simpa using h) (λ_ _=>trivial) (λw0=>bH rfl (dz rfl e1 (λw=>by go_simp))),?_⟩
  refine⟨λdn hn hd he=>aK (B:=λw=>w.heap[g]? =some (.cells (aA Q (.slice sa sn sc)) 28 (0,0))) (λw h=>by simpa using h) (λw h=>hst.out dn w h) (λw0=>bH rfl (fJ rfl e5 (λw hS=>DV _ w _ (by rw[cell_of_row _ _ _ _ _ _ hS.2];rfl)))),?_⟩
  refine⟨λdn hn hd he=>aK (B:=λ_=>True) (λw h=>by simpa using h) (λ_ _=>trivial) (λw0=>bH rfl (dz rfl e1 (λw=>by go_simp))),?_⟩
  refine⟨λdn hn hd he=>aK (B:=λw=>w.heap[g]? =some (.cells (aA Q (.slice sa sn sc)) 28 (0,0))) (λw h=>by simpa using h) (λw h=>hst.out dn w h) (λw0=>bH rfl (fJ rfl e7 (λw hS=>DV _ w _ (by rw[cell_of_row _ _ _ _ _ _ hS.2];rfl)))),?_⟩
  refine⟨λdn hn hd he=>aK (B:=λ_=>True) (λw h=>by simpa using h) (λ_ _=>trivial) (λw0=>bH rfl (dz rfl e1 (λw=>by go_simp))),?_⟩
  refine⟨λdn hn hd he=>aK (B:=λw=>w.heap[g]? =some (.cells (aA Q (.slice sa sn sc)) 28 (0,0))) (λw h=>by simpa using h) (λw h=>hst.out dn w h) (λw0=>bH rfl (fJ rfl e9 (λw hS=>PK g Q sa sn sc w hS.2))),?_⟩
  refine⟨λdn hn hd he=>⟨λ_ w hS=>?_,λh=>by have h2:true=false:=h;cases h2⟩,?_⟩
  ·have h11:=he 11 rfl;have Ms:=he 13 rfl
   simp only[hn,h11,Ms,Bool.false_eq_true,if_false]at hS
   subst hS
   unfold execOp
   have hf:=hfu 32
   simp[resolve,invoke,hf,e10,Deferred.ofValue,entOw]
   exact nB.out.mono λe w' h=>⟨h.1,by simp[h11,Ms];exact h.2⟩
  refine⟨λdn hn hd he=>aK (B:=λ_=>True) (λw h=>by simpa using h) (λ_ _=>trivial) (λw0=>bH rfl (dz rfl e1 (λw=>by go_simp))),?_⟩
  refine⟨λdn hn hd he=>aK (B:=λw=>w.heap[g]? =some (.cells (aA Q (.slice sa sn sc)) 28 (0,0))) (λw h=>by simpa using h) (λw h=>hst.out dn w h) (λw0=>bH rfl (fJ rfl e12 (λw hS=>O3 g Q _ w hS.2))),?_⟩
  refine⟨λdn hn hd he=>⟨λ_ w hS=>?_,λh=>by have h2:true=false:=h;cases h2⟩,?_⟩
  ·have h8:=hd 8 rfl;have Ms:=he 13 rfl
   simp only[hn,h8,Ms,Bool.false_eq_true,if_false,if_true]at hS
   subst hS
   unfold execOp
   have hf:=hfu 70
   simp[resolve,invoke,hf,e13,Deferred.ofValue,entOwA]
   exact(MQ _ Q.amd).mono λe w' h=>⟨h.1,by simp[Ms];exact h.2⟩
  refine⟨λdn hn hd he=>aK (B:=λ_=>True) (λw h=>by simpa using h) (λ_ _=>trivial) (λw0=>bH rfl (y9 rfl (Oa ρ _ _ e4 e6 e8 e11 e14))),?_⟩
  refine⟨λdn hn hd he=>⟨λ_ w hS=>?_,λh=>by have h2:true=false:=h;cases h2⟩,?_⟩
  ·have h11:=hd 11 rfl
   simp only[hn,h11,Bool.false_eq_true,if_false,if_true]at hS
   unfold execOp
   simp only[e2,e15,Instr.storeAt,Instr.sureAddr,Sem.run_bind,Sem.run_pure,Result.andThen_ok,run_storeVar_row (P:=Tryz.prog) w (g+1) 37 37 (aA {} (.slice none 0 0)) (aA Q (.slice ta sn tc)) (hz1.out w hS) (by kernel_rfl) rfl (bV _ _ _ _)]
   exact⟨rfl,by simp;exact⟨w,hS,rfl⟩⟩
  exact trivial
 intro b w9 hS hK hD
 obtain⟨w0,h0,rfl⟩:∃w0,Below W3.heap.size W3 w0/\w9=w0.setRow (g+1) (aA Q (.slice ta sn tc)):=by simpa using hS
 obtain⟨k1,k2,k3⟩:=HE.out w0 h0
 refine wp_ret ?_
 try simp only[Exit.then,Exit.inBlock]
 refine bodyPost_ret (results_cell_row rfl _ _ (g+1) _ _ (0,0) _ ?_ k1 Tryz.underlying37 rfl (by kernel_rfl)) (hK.defers.trans hdf) ?_
 ·exact eval_at ((hK.rest 2 (by decide +kernel)).trans hf2)
 exact⟨ta,tc,rfl,k2,k3⟩
open Go Go.RowKit Go.Proofs.YtnjjeapcalkmaaaGreatDoor.Ord
open Go.Proofs.YtnjjeapcalkmaaaGreatDoor.Se
theorem Cb {w:World}{B:Nat}{a:Option Addr}{n c:Nat}{ks:List Ps.Link}(h:bG w B (.slice a n c) ks):n=ks.length/\gm w a n ks:=⟨(zq h).1,gm.of λh0=>yg h h0⟩
structure PtF (w:World)(Q:Ps.Req)(a:Option Addr)(n c:Nat):Prop where
 env:iH w
 ok:psR Q=0
 chk:∀W,Below w.heap.size w W->Calls Tryz.prog 30 #[.agg (aA Q (.slice a n c))] W λr W'=>r=.returned (.int .i64 0)/\Below W.heap.size W W'
 len:n=Q.ins.links.length
 put:gm w a n Q.ins.links
theorem Fz (k:Int)(hk:k=1\/k=2\/k=3\/k=4){W:World}(hE:iH W):CW W 67 k 8 (Ps.bw (opW k)):=by
 refine⟨λw hw=>?_,by rcases hk with rfl|rfl|rfl|rfl<;>decide⟩
 rcases hk with rfl|rfl|rfl|rfl
 ·exact(il w (hE.op w hw) 1 _ rfl).mono λe w2 ⟨h1,h2⟩=>⟨h1,h2▸Below.refl _ _⟩
 ·exact(il w (hE.op w hw) 2 _ rfl).mono λe w2 ⟨h1,h2⟩=>⟨h1,h2▸Below.refl _ _⟩
 ·exact(il w (hE.op w hw) 3 _ rfl).mono λe w2 ⟨h1,h2⟩=>⟨h1,h2▸Below.refl _ _⟩
 ·exact(il w (hE.op w hw) 4 _ rfl).mono λe w2 ⟨h1,h2⟩=>⟨h1,h2▸Below.refl _ _⟩
theorem Nc (i:Ps.Ins):0<(psS i).length:=by
 unfold psS
 split
 ·simp[pgS]
 ·split
  ·simp[pyS]
  ·rw[List.length_append]
   have:0<(pdS i).length:=by unfold pdS;simp;omega
   omega
theorem O5 {i:Ps.Ins}(h:i.links.length<=8):(psS i).length<=1000:=by
 have h1:=FY h
 have h2:=FP i
 unfold psS
 split
 ·simp[pgS]
 ·split
  ·rw[List.length_append]
   have:(pyS i).length=10:=rfl
   omega
  ·rw[List.length_append]
   omega
theorem pt_sub (w:World)(i:Ps.Ins)(hi:Ps.kw bO.valid i)(a:Option Addr)(n c:Nat)(hF:PtF w (kM i) a n c):oW w (kM i) (.slice a n c) (Ps.dC (Ps.ig Ps.az (kM i) (Ps.kL i))) 0:=by
 have hs:=tT hF.ok
 have hz:=(ik hF.ok).2
 have hw:(psS i).map st=Ps.ig Ps.az (kM i) (Ps.kL i):=JS hi hs
 rw[<-hw]
 have hz:(Ps.dC ((psS i).map st)).size<=1024:=by rw[hw];exact hz
 unfold oW
 refine oJ w (kM i) a n c λW b hb hr hd hn h1 h2 h3=>?_
 have hR:RowsIn W W.heap.size 40 [] (bW w.heap.size (kM i) (.slice a n c)):=⟨⟨rfl,.inl (Array.getElem?_eq_some_iff.1 hr).1,⟨_,hr⟩,zM (λx e=>by cases e) hs⟩,trivial⟩
 refine bY (M:=ptM W (kM i) 0 (bW w.heap.size (kM i) (.slice a n c))) (n:=35) (code:=ptC) (K:=[(1,.p 0 0),(2,.s (0,⟨#[]⟩)),(3,.v (.int .i64 0))]) (DJ hR) [2,3] (us:=[.s (2000,Ps.dC ((psS i).map st)),.v (.int .i64 0)])
  (ps:=[ah W.heap.size W (Ev.av (bW w.heap.size (kM i) (.slice a n c))) 30 [.a 0 0 28] (.val (.int .i64 0)),ah W.heap.size W (Ev.av (bW w.heap.size (kM i) (.slice a n c))) 66 [.a 0 3 16] (.sls (psS i)),ah W.heap.size W (Ev.av (bW w.heap.size (kM i) (.slice a n c))) 69 [.sl (psS i),.s (1,⟨#[32]⟩)] (.str 2000 (Ps.dC ((psS i).map st)))]) (by kernel_rfl)
  ⟨uk (x:=.agg (aA (kM i) (.slice a n c))) lW rfl λw' hw'=>hF.chk w' (hb.trans (hw'.mono hb.size)),sW (x:=.agg (aB i (.slice a n c)).toArray) MK rfl λw' hw'=>Gb w' i ⟨hF.env.below (hb.trans (hw'.mono hb.size)),hi,hs⟩ a n c hF.len (hF.put.below (hb.trans (hw'.mono hb.size))),zL (Nc i) (O5 hi.links) (by omega),trivial⟩ (aI (aI (aI (bT hn hd) h3 rfl) h2 rfl) h1 rfl) (Sw.start _) ?_
 intro b w' _ hd hv hS
 refine zP rfl hd hv ⟨?_,hb.trans ((bz rfl hS).mono hb.size)⟩
 rw[dQ (by omega)]
theorem Oy (m:Ps.Amd):(chS m).length<=10:=by
 unfold chS
 cases m.hasAmount<;>cases m.hasSettleDay<;>cases m.hasPriority<;>cases (m.hasPartial&&m.partial_)<;>cases (m.hasPartial&&!m.partial_)<;>simp[ls]
theorem pt_amd (w:World)(s r:ByteArray)(m:Ps.Amd)(hm:Ps.mf m)(a:Option Addr)(n c:Nat)(os:List Ps.Op)(hF:PtF w {op:=1,sender:=s,ref:=r,amd:=m} a n c):oW w {op:=1,sender:=s,ref:=r,amd:=m} (.slice a n c) (Ps.dC (Ps.ig Ps.az {op:=1,sender:=s,ref:=r,amd:=m} os)) 0:=by
 have hs:=tT hF.ok
 have hz:=(ik hF.ok).2
 have s1:r.size<=40:=hs.ref
 have s2:s.size<=40:=hs.sender
 have hcl:=Oy m
 have hw:([(8,Ps.bw (opW 1)),(40,r),wb Ps.sBy,(40,s)]++chS m).map st=Ps.ig Ps.az {op:=1,sender:=s,ref:=r,amd:=m} os:=by
  rw[List.map_append,JJ hm]
  show[st (8,Ps.bw (opW 1)),st (40,r),st (wb Ps.sBy),st (40,s)]++_=[Ps.bw Ps.lF,r,Ps.bw Ps.sBy,s]++_
  rw[dQ s1,dQ s2,jV,dQ (by decide)]
  rfl
 have hz:(Ps.dC (([(8,Ps.bw (opW 1)),(40,r),wb Ps.sBy,(40,s)]++chS m).map st)).size<=1024:=by rw[hw];exact hz
 rw[<-hw]
 unfold oW
 refine oJ w _ a n c λW b hb hr hd hn h1 h2 h3=>?_
 have hR:RowsIn W W.heap.size 40 [] (bW w.heap.size {op:=1,sender:=s,ref:=r,amd:=m} (.slice a n c)):=⟨⟨rfl,.inl (Array.getElem?_eq_some_iff.1 hr).1,⟨_,hr⟩,zM (λx e=>by cases e) hs⟩,trivial⟩
 refine bY (M:=ptM W {op:=1,sender:=s,ref:=r,amd:=m} 0 (bW w.heap.size {op:=1,sender:=s,ref:=r,amd:=m} (.slice a n c))) (n:=35) (code:=ptC) (K:=[(1,.p 0 0),(2,.s (0,⟨#[]⟩)),(3,.v (.int .i64 0))]) (DJ hR) [2,3] (us:=[.s (2000,Ps.dC (([(8,Ps.bw (opW 1)),(40,r),wb Ps.sBy,(40,s)]++chS m).map st)),.v (.int .i64 0)])
  (ps:=[ah W.heap.size W (Ev.av (bW w.heap.size {op:=1,sender:=s,ref:=r,amd:=m} (.slice a n c))) 30 [.a 0 0 28] (.val (.int .i64 0)),ah W.heap.size W (Ev.av (bW w.heap.size {op:=1,sender:=s,ref:=r,amd:=m} (.slice a n c))) 67 [.r 0 0] (.str 8 (Ps.bw (opW 1))),ah W.heap.size W (Ev.av (bW w.heap.size {op:=1,sender:=s,ref:=r,amd:=m} (.slice a n c))) 68 [.a 0 19 9] (.sls (chS m)),([(8,Ps.bw (opW 1)),(40,r),wb Ps.sBy,(40,s)]:List SB).length+(chS m).length<=1000000,ah W.heap.size W (Ev.av (bW w.heap.size {op:=1,sender:=s,ref:=r,amd:=m} (.slice a n c))) 69 [.sl ([(8,Ps.bw (opW 1)),(40,r),wb Ps.sBy,(40,s)]++chS m),.s (1,⟨#[32]⟩)] (.str 2000 (Ps.dC (([(8,Ps.bw (opW 1)),(40,r),wb Ps.sBy,(40,s)]++chS m).map st)))]) (by kernel_rfl)
  ⟨uk (x:=.agg (aA {op:=1,sender:=s,ref:=r,amd:=m} (.slice a n c))) lW rfl λw' hw'=>hF.chk w' (hb.trans (hw'.mono hb.size)),spW Ew rfl rfl (Fz 1 (by omega) (hF.env.below hb)),sW (x:=.agg (aH m).toArray) JH rfl λw' hw'=>D6 w' m (hF.env.below (hb.trans (hw'.mono hb.size))) hm,by show 4+_<=_;omega,zL (by rw[List.length_append];show 0<4+_;omega) (by rw[List.length_append];show 4+_<=_;omega) (by omega),trivial⟩ (aI (aI (aI (bT hn hd) h3 rfl) h2 rfl) h1 rfl) (Sw.start _) ?_
 intro b w' _ hd hv hS
 refine zP rfl hd hv ⟨?_,hb.trans ((bz rfl hS).mono hb.size)⟩
 rw[dQ (by omega)]
theorem pt_op (w:World)(k:Int)(hk:k=2\/k=3\/k=4)(s r:ByteArray)(a:Option Addr)(n c:Nat)(os:List Ps.Op)(hF:PtF w {op:=k,sender:=s,ref:=r} a n c):oW w {op:=k,sender:=s,ref:=r} (.slice a n c) (Ps.dC (Ps.ig Ps.az {op:=k,sender:=s,ref:=r} os)) 0:=by
 have hs:=tT hF.ok
 have hz:=(ik hF.ok).2
 have s1:r.size<=40:=hs.ref
 have s2:s.size<=40:=hs.sender
 have hw:([(8,Ps.bw (opW k)),(40,r),wb Ps.sBy,(40,s)]:List SB).map st=Ps.ig Ps.az {op:=k,sender:=s,ref:=r} os:=by
  show[st (8,Ps.bw (opW k)),st (40,r),st (wb Ps.sBy),st (40,s)]=_
  rw[dQ s1,dQ s2,jV,dQ (by rcases hk with rfl|rfl|rfl<;>decide)]
  rcases hk with rfl|rfl|rfl<;>rfl
 have hz:(Ps.dC (([(8,Ps.bw (opW k)),(40,r),wb Ps.sBy,(40,s)]:List SB).map st)).size<=1024:=by rw[hw];rcases hk with rfl|rfl|rfl<;>exact hz
 rw[<-hw]
 unfold oW
 refine oJ w _ a n c λW b hb hr hd hn h1 h2 h3=>?_
 have hR:RowsIn W W.heap.size 40 [] (bW w.heap.size {op:=k,sender:=s,ref:=r} (.slice a n c)):=⟨⟨rfl,.inl (Array.getElem?_eq_some_iff.1 hr).1,⟨_,hr⟩,zM (λx e=>by cases e) hs⟩,trivial⟩
 refine bY (M:=ptM W {op:=k,sender:=s,ref:=r} 0 (bW w.heap.size {op:=k,sender:=s,ref:=r} (.slice a n c))) (n:=35) (code:=ptC) (K:=[(1,.p 0 0),(2,.s (0,⟨#[]⟩)),(3,.v (.int .i64 0))]) (DJ hR) [2,3] (us:=[.s (2000,Ps.dC (([(8,Ps.bw (opW k)),(40,r),wb Ps.sBy,(40,s)]:List SB).map st)),.v (.int .i64 0)])
  (ps:=[ah W.heap.size W (Ev.av (bW w.heap.size {op:=k,sender:=s,ref:=r} (.slice a n c))) 30 [.a 0 0 28] (.val (.int .i64 0)),ah W.heap.size W (Ev.av (bW w.heap.size {op:=k,sender:=s,ref:=r} (.slice a n c))) 67 [.r 0 0] (.str 8 (Ps.bw (opW k))),ah W.heap.size W (Ev.av (bW w.heap.size {op:=k,sender:=s,ref:=r} (.slice a n c))) 69 [.sl [(8,Ps.bw (opW k)),(40,r),wb Ps.sBy,(40,s)],.s (1,⟨#[32]⟩)] (.str 2000 (Ps.dC (([(8,Ps.bw (opW k)),(40,r),wb Ps.sBy,(40,s)]:List SB).map st)))]) (by rcases hk with rfl|rfl|rfl<;>(show _=_;kernel_rfl))
  ⟨uk (x:=.agg (aA {op:=k,sender:=s,ref:=r} (.slice a n c))) lW rfl λw' hw'=>hF.chk w' (hb.trans (hw'.mono hb.size)),spW Ew rfl rfl (Fz k (by omega) (hF.env.below hb)),zL (by show 0<4;decide) (by show 4<=1000;decide) (by omega),trivial⟩ (aI (aI (aI (bT hn hd) h3 rfl) h2 rfl) h1 rfl) (Sw.start _) ?_
 intro b w' _ hd hv hS
 refine zP rfl hd hv ⟨?_,hb.trans ((bz rfl hS).mono hb.size)⟩
 rw[dQ (by omega)]
theorem Ns (w:World)(Q:Ps.Req)(a:Option Addr)(n c:Nat)(hF:PtF w Q a n c):oW w Q (.slice a n c) (Ps.dC (Ps.ig Ps.az Q (Ps.kL Q.ins))) 0:=by
 obtain⟨_,_,h3⟩:=Ps.pq _ _ hF.ok
 rcases h3 with⟨_,hi,he⟩|⟨_,hm,he⟩|⟨hk,he⟩
 ·generalize Q.ins=i at he hi
  subst he
  exact pt_sub w i hi a n c hF
 ·rw[he]at hF⊢
  exact pt_amd w _ _ _ hm a n c _ hF
 ·rw[he]at hF⊢
  exact pt_op w _ hk _ _ a n c _ hF
theorem qK (g:Nat)(Q:Ps.Req)(lv:Value)(w:World)(h:w.heap[g]? =some (.cells (aA Q lv) 37 (0,0))):(Instr.loadAt 37 (.pointer (some ⟨g,0,none⟩))).run Tryz.prog w=.ok (.agg (aA Q lv)) w:=by
 have:=run_loadVar_row (P:=Tryz.prog) w g 37 37 (aA Q lv) (0,0) _ h Tryz.underlying37 rfl (by kernel_rfl)
 unfold Instr.loadAt
 simp[Instr.sureAddr,this]
theorem ja {P:Program}{ops:Array Oper}{Q:Exit->Act->World->Prop}{rest:List Oper}{o:Oper}{a:Act}{w:World}{t:TypeId}{x:Operand}{v u:Value}{d:Nat}(hw:Region.wanted o (yielded ops a.tmps)=true)(hd:o.dst=some d)(ho:o.op=.load t x)(hx:a.eval x=v)(hr:(Instr.loadAt t v).run P w=.ok u w)(h:wpList P ops Q rest ⟨a.tmps.setIfInBounds d u,a.defers⟩ w):wpList P ops Q (o::rest) a w:=by
 refine BigFrame.wpList_want hw λK hK=>?_
 unfold Oper.wp execOp
 rw[ho]
 simp only[hx,Sem.run_bind,hr,Result.andThen_ok]
 refine hK _ _ ?_
 rw[hd]
 exact h
open Go Go.RowKit
theorem Ps.parse_ok (E:Ps.Env)(check:Ps.Req->Int)(s:ByteArray)(h:(Ps.parse E check s).2.2=0):check (Ps.parse E check s).1=0:=by
 by_cases hs:s.size<=1024
 ·exact((Ps.BM E check s hs).1 h).1
 ·exfalso
  have e:Lx.aL s=([],1024,5):=by unfold Lx.aL;rw[if_pos (by omega)]
  unfold Ps.parse at h
  rw[e,if_pos (by show¬(5:Int)=0;decide)]at h
  exact absurd h (by show¬(5:Int)=0;decide)
def sK (W:World)(s x:ByteArray)(e:Int):Prop:=Calls Tryz.prog 27 #[.string s] W λr W'=>r=.returned (.tuple #[.string x,.int .i64 e])/\Below W.heap.size W W'
noncomputable def cnT (Q:Ps.Req):ByteArray:=Ps.dC (Ps.ig Ps.az Q (Ps.kL Q.ins))
noncomputable def cnS (s:ByteArray):ByteArray×Int:=if (Ps.parse bO psR s).2.2=0 then(cnT (Ps.parse bO psR s).1,0)else(⟨#[]⟩,(Ps.parse bO psR s).2.2)
theorem cn_bad (w:World)(s:ByteArray)(Q:Ps.Req)(o x:Int)(hx:(x !=0)=true)(m2:NQ w s Q o x):sK w s ⟨#[]⟩ x:=by
 unfold sK
 have hst:=uB
 go_enter Tryz.func27,Tryz.ntmps27
 go_upto_region 2 with(go_at_call 16;refine m2.mono ?_;rintro e w2 ⟨a,n,c,rfl,hl2,hb2⟩;clear hl2)
 have HB3:Hid (Below w.heap.size w (w2.alloc (.cells (aA Q (.slice a n c)) 37))):=Lib.hid (hb2.alloc hb2.size _)
 generalize w2.alloc (.cells (aA Q (.slice a n c)) 37)=W3 at HB3⊢
 clear hb2 hst m2
 go_wp2_with fail
 go_ret2
 exact⟨rfl,HB3.out⟩
theorem Ny (w:World)(s:ByteArray)(Q:Ps.Req)(o:Int)(x:ByteArray)(m2:NQ w s Q o 0)(m3:Hid (∀W B a n c,Below w.heap.size w W->bG W B (.slice a n c) Q.ins.links->oW W Q (.slice a n c) x 0)):sK w s x 0:=by
 unfold sK
 have hst:=uB
 go_enter Tryz.func27,Tryz.ntmps27
 go_upto_region 4 with(go_at_call 16;refine m2.mono ?_;rintro e w2 ⟨a,n,c,rfl,hl2,hb2⟩;have HL2:=Lib.hid hl2;have HB2:=Lib.hid hb2;clear hb2 hl2)
 obtain⟨g,hg⟩:∃g,g=w2.heap.size:=⟨_,rfl⟩
 obtain⟨W3,hW3⟩:∃W3,W3=w2.alloc (.cells (aA Q (.slice a n c)) 37):=⟨_,rfl⟩
 have HR3:Hid (W3.heap[g]? =some (.cells (aA Q (.slice a n c)) 37 (0,0))):=Lib.hid (by rw[hW3,hg];exact aC w2 _)
 have HB3:Hid (Below w.heap.size w W3):=Lib.hid (by rw[hW3];exact HB2.out.alloc HB2.out.size _)
 have Pt:Hid (bG W3 w.heap.size (.slice a n c) Q.ins.links):=Lib.hid (by rw[hW3];exact bG.below HL2.out ((Below.refl _ _).alloc (Nat.le_refl _) _))
 rw[<-hW3,<-hg]
 have m4:=m3.out W3 _ a n c HB3.out Pt.out
 unfold oW at m4
 clear hW3 hg HB2 HL2 Pt hst m2 m3
 refine wp_region_lit ?_
 refine jv rfl rfl rfl rfl (qK g Q (.slice a n c) W3 HR3.out) ?_
 go_wp2_with (go_at_call 24;refine m4.mono ?_;rintro e w4 ⟨rfl,hb4⟩;have FQ:=Lib.hid (HB3.out.trans (hb4.mono HB3.out.size));clear hb4 m4)
 go_ret2
 exact⟨rfl,FQ.out⟩
theorem KX {m:Int}{kb ko kc:Nat}{w:World}(env:iU m kb ko kc w)(hE:iH w)(Q:Ps.Req)(hQ:psR Q=0)(W:World)(B:Nat)(a:Option Addr)(n c:Nat)(hW:Below w.heap.size w W)(hl:bG W B (.slice a n c) Q.ins.links):oW W Q (.slice a n c) (cnT Q) 0:=by
 refine Ns W Q a n c ⟨hE.below hW,hQ,λW2 hW2=>?_,(Cb hl).1,(Cb hl).2⟩
 have env2:=env.below (hW.trans (hW2.mono hW.size))
 have:=EM env2.id (KT env2.id) W2 B Q a n c (Below.refl _ _) (hl.below hW2)
 rw[hQ]at this
 exact this
theorem yl {m:Int}{kb ko kc:Nat}{w:World}(env:iU m kb ko kc w)(hE:iH w)(s:ByteArray)(hs:s.size<=9223372036854775807)(W:World)(hW:Below w.heap.size w W):sK W s (cnS s).1 (cnS s).2:=by
 have hp:=Ml env s hs W hW
 unfold cnS
 by_cases h:(Ps.parse bO psR s).2.2=0
 ·rw[if_pos h]
  rw[h]at hp
  exact Ny W s _ _ _ hp (Lib.hid λW2 B a n c hW2 hl=>KX env hE _ (Ps.parse_ok _ _ _ h) W2 B a n c (hW.trans (hW2.mono hW.size)) hl)
 ·rw[if_neg h]
  exact cn_bad W s _ _ _ (by simpa using h) hp
theorem ic_bad (w:World)(s x:ByteArray)(e:Int)(he:(e==0)=false)(m2:sK w s x e):Calls Tryz.prog 29 #[.string s] w λr W'=>r=.returned (.bool false)/\Below w.heap.size w W':=by
 unfold sK at m2
 go_enter Tryz.func29,Tryz.ntmps29
 go_wp2_with (go_at_call 27;refine m2.mono ?_;rintro r w2 ⟨rfl,hb⟩)
 go_ret
 exact⟨rfl,hb⟩
theorem PQ (w:World)(s x:ByteArray)(b:Bool)(hb:(x.toList==s.toList)=b)(m2:sK w s x 0):Calls Tryz.prog 29 #[.string s] w λr W'=>r=.returned (.bool b)/\Below w.heap.size w W':=by
 unfold sK at m2
 have HB:=Lib.hid hb
 go_enter Tryz.func29,Tryz.ntmps29
 go_wp2_with (go_at_call 27;refine m2.mono ?_;rintro r w2 ⟨rfl,hbl⟩)
 go_ret
 exact⟨rfl,hbl⟩
noncomputable def icS (s:ByteArray):Bool:=decide ((cnS s).2=0)&&((cnS s).1.toList==s.toList)
theorem xI {m:Int}{kb ko kc:Nat}{w:World}(env:iU m kb ko kc w)(hE:iH w)(s:ByteArray)(hs:s.size<=9223372036854775807)(W:World)(hW:Below w.heap.size w W):Calls Tryz.prog 29 #[.string s] W λr W'=>r=.returned (.bool (icS s))/\Below W.heap.size W W':=by
 have hp:=yl env hE s hs W hW
 unfold icS
 by_cases h:(cnS s).2=0
 ·rw[h]at hp⊢
  rw[decide_eq_true rfl,Bool.true_and]
  exact PQ W s _ _ rfl hp
 ·rw[decide_eq_false h,Bool.false_and]
  exact ic_bad W s _ _ (by simpa using h) hp
theorem KG {Q:Ps.Req}(h:psR Q=0):cnS (cnT Q)=(cnT Q,0)/\Ps.parse bO psR (cnT Q)=(Q,0,0)/\(cnT Q).size<=1024:=by
 obtain⟨h1,h2⟩:=ik h
 refine⟨?_,h1,h2⟩
 unfold cnS
 rw[show Ps.parse bO psR (cnT Q)=(Q,0,0)from h1]
 rfl
def BB:ByteArray:=⟨#[112,97,121,32,32,80,49,32,102,114,111,109,32,66,65,78,75,65,32,116,111,32,66,65,78,75,66,32,97,109,111,117,110,116,32,49,53,48,48,46,48,48,32,100,97,121,32,50,48,50,54,45,49,49,45,49,54,32,104,111,108,100,32,117,114,103,101,110,116,32,35,32,115,97,108,97,114,121]⟩
def vP:ByteArray:=⟨#[112,97,121,32,80,49,32,102,114,111,109,32,66,65,78,75,65,32,116,111,32,66,65,78,75,66,32,97,109,111,117,110,116,32,49,53,48,48,46,48,48,32,100,97,121,32,50,48,50,54,45,49,49,45,49,54,32,117,114,103,101,110,116,32,104,111,108,100]⟩
def kF:Ps.Req:=(Ps.parse bO psR BB).1
theorem Ez:(Ps.parse bO psR BB).2.2=0:=by decide +kernel
theorem J7:Ps.ig (λ_=>⟨#[50,48,50,54,45,49,49,45,49,54]⟩) kF (Ps.kL kF.ins)=[Ps.bw Ps.Bw,⟨#[80,49]⟩,Ps.bw Ps.ou,⟨#[66,65,78,75,65]⟩,Ps.bw Ps.sTo,⟨#[66,65,78,75,66]⟩,Ps.bw Ps.bD,⟨#[49,53,48,48,46,48,48]⟩,Ps.bw Ps.dR,⟨#[50,48,50,54,45,49,49,45,49,54]⟩,Ps.bw (Ps.fA 2),Ps.bw Ps.bJ]:=by decide +kernel
theorem Gq:Ps.az 9816=⟨#[50,48,50,54,45,49,49,45,49,54]⟩:=by
 have h:Ps.IsC 9816 2026 11 16:=by unfold Ps.IsC;decide +kernel
 rw[Ps.uz h]
 decide +kernel
theorem kn20_p:kF.op=0/\kF.ins.kind=0/\kF.ins.settleDay=9816:=by decide +kernel
theorem JX:cnT kF=vP:=by
 obtain⟨h1,h2,h3⟩:=kn20_p
 have e:Ps.ig Ps.az kF (Ps.kL kF.ins)=Ps.ig (λ_=>⟨#[50,48,50,54,45,49,49,45,49,54]⟩) kF (Ps.kL kF.ins):=by
  unfold Ps.ig Ps.sI
  rw[if_pos h1,if_pos h1,if_neg (by omega),if_pos h2,if_neg (by omega),if_pos h2,h3,Gq]
 unfold cnT
 rw[e,J7]
 decide +kernel
theorem O6:cnS BB=(vP,0):=by
 unfold cnS
 rw[if_pos Ez]
 show(cnT kF,(0:Int))=_
 rw[JX]
theorem OA:(vP.toList==([112,97,121,32,80,49,32,102,114,111,109,32,66,65,78,75,65,32,116,111,32,66,65,78,75,66,32,97,109,111,117,110,116,32,49,53,48,48,46,48,48,32,100,97,121,32,50,48,50,54,45,49,49,45,49,54,32,117,114,103,101,110,116,32,104,111,108,100]:List UInt8))=true:=by decide +kernel
theorem Hf (w:World)(m1:sK w BB vP 0)(m2:∀W,Below w.heap.size w W->Calls Tryz.prog 29 #[.string vP] W λr W'=>r=.returned (.bool true)/\Below W.heap.size W W'):Calls Tryz.prog 22 #[] w λr W'=>r=.returned (.bool true)/\Below w.heap.size w W':=by
 unfold sK at m1
 have hk:=OA
 go_enter Tryz.func22,Tryz.ntmps22
 go_upto_region 2 with(go_at_call 27;refine m1.mono ?_;rintro r w2 ⟨rfl,hb⟩;have HB:=Lib.hid hb;clear hb m1)
 go_wp2_with (go_at_call 29;refine(m2 _ HB.out).mono ?_;rintro r w3 ⟨rfl,hb2⟩;have HB2:=Lib.hid (HB.out.trans (hb2.mono HB.out.size));clear hb2)
 go_ret
 exact⟨rfl,HB2.out⟩
theorem Ey {Q:Ps.Req}(h:psR Q=0):icS (cnT Q)=true:=by
 unfold icS
 rw[(KG h).1]
 generalize cnT Q=z
 show(decide ((0:Int)=0)&&(z.toList==z.toList))=true
 rw[beq_self_eq_true]
 rfl
theorem kn20 {m:Int}{kb ko kc:Nat}{w:World}(env:iU m kb ko kc w)(hE:iH w):Calls Tryz.prog 22 #[] w λr W'=>r=.returned (.bool true)/\Below w.heap.size w W':=by
 have hc:=yl env hE BB (by decide) w (Below.refl _ _)
 rw[O6]at hc
 have hi:=λW hW=>xI env hE vP (by decide) W hW
 have hq:psR kF=0:=Ps.parse_ok _ _ _ Ez
 have hb:icS vP=true:=by
  rw[<-JX]
  exact Ey hq
 rw[hb]at hi
 exact Hf w hc hi
abbrev KnC (w:World):Prop:=Hid (∀W,Below w.heap.size w W->Calls Tryz.prog 22 #[] W λe W'=>e=.returned (.bool true)/\Below W.heap.size W W')
theorem df {P:Program}{ops:Array Oper}{Q:Exit->Act->World->Prop}{rest:List Oper}{o:Oper}{a:Act}{w:World}{f:FuncId}{xs:Array Operand}{ts:Array TypeId}{d:Nat}{R:Ending->World->Prop}(hw:Region.wanted o (yielded ops a.tmps)=true)(hd:o.dst=some d)(ho:o.op=.call ⟨.value (.func f),xs,ts⟩)
 (he:∀args w,(callFunc f args).run P w=.ok (.enter f args) w) {vs:List Value} (hx:xs.toList.map a.eval=vs) (hc:Calls P f vs.toArray w R) (h:∀e w',R e w'->∃v,e=.returned v/\wpList P ops Q rest ⟨a.tmps.setIfInBounds d v,a.defers⟩ w'):wpList P ops Q (o::rest) a w:=by
 refine BigFrame.wpList_want hw λK hK=>?_
 have hf:a.eval (.func f)=.func (.func f) #[] #[]:=rfl
 have hrun:(execOp a.eval o).run P w=.ok (.enter f vs.toArray) w:=by
  have hargs:xs.map a.eval=vs.toArray:=by
   rw[<-hx]
   apply Array.toList_inj.1
   simp
  unfold execOp
  simp[ho,resolve,invoke,hf,hargs,Deferred.ofValue,he]
 unfold Oper.wp
 rw[hrun,Oper.upon_enter]
 refine hc.mono λe w' hr=>?_
 obtain⟨v,rfl,hv⟩:=h e w' hr
 refine hK _ _ ?_
 rw[hd]
 exact hv
theorem vg:∀args w,(callFunc 22 args).run Tryz.prog w=.ok (.enter 22 args) w:=enters_of Tryz.func22 (by kernel_rfl) rfl
theorem qd:∀args w,(callFunc 23 args).run Tryz.prog w=.ok (.enter 23 args) w:=enters_of Tryz.func23 (by kernel_rfl) rfl
theorem CY:∀args w,(callFunc 25 args).run Tryz.prog w=.ok (.enter 25 args) w:=enters_of Tryz.func25 (by kernel_rfl) rfl
theorem xU:∀args w,(callFunc 24 args).run Tryz.prog w=.ok (.enter 24 args) w:=enters_of Tryz.func24 (by kernel_rfl) rfl
theorem oK (g:Nat)(Q:Ps.Req)(lv:Value)(w:World)(h:w.heap[g]? =some (.cells (aA Q lv) 28 (0,0))):(Instr.loadAt 28 (.pointer (some ⟨g,0,none⟩))).run Tryz.prog w=.ok (.agg (aA Q lv)) w:=by
 have:=run_loadVar_row (P:=Tryz.prog) w g 28 28 (aA Q lv) (0,0) _ h Tryz.underlying28 rfl (by kernel_rfl)
 unfold Instr.loadAt
 simp[Instr.sureAddr,this]
theorem Cz {i:Ps.Ins}{lv:Value}(hl:∀x,lv≠.string x)(h:ww i):∀x,Value.string x∈aB i lv->x.size<=100:=λx hx=>by
 unfold aB at hx
 simp at hx
 rcases hx with rfl|rfl|rfl|rfl|e
 ·exact h.ref
 ·exact h.sender
 ·exact h.cp
 ·exact h.asset
 ·exact absurd e.symm (hl x)
theorem EE {Q:Ps.Req}{lv:Value}(hl:∀x,lv≠.string x)(h:lg Q):∀x,Value.string x∈mK Q lv->x.size<=100:=λx hx=>by
 unfold mK at hx
 rcases List.mem_append.1 hx with hx|hx
 ·rcases List.mem_append.1 hx with hx|hx
  ·simp at hx
   rcases hx with rfl|rfl
   ·exact h.sender
   ·exact h.ref
  ·exact Cz hl h.ins x hx
 ·unfold aH at hx
  simp at hx
noncomputable def pbM (W:World)(g:Nat)(Q:Ps.Req)(lv:Value)(e:Int):Mem:={seW W.heap.size W [] 100 (bW g Q lv) (Ph Q e)with tst:=λt=>if t=9 then some true else none}
theorem L9 (w:World)(Q:Ps.Req)(e:Int)(he:e≠0)(a:Option Addr)(n c:Nat)(hs:lg Q)(hc:∀W,Below w.heap.size w W->Calls Tryz.prog 30 #[.agg (aA Q (.slice a n c))] W λr W'=>r=.returned (.int .i64 e)/\Below W.heap.size W W'):oW w Q (.slice a n c) ⟨#[]⟩ e:=by
 unfold oW
 refine oJ w Q a n c λW b hb hr hd hn h1 h2 h3=>?_
 have hgW:w.heap.size<W.heap.size:=(Array.getElem?_eq_some_iff.1 hr).1
 have hr0:=gH hr
 have hO:Ok Tryz.prog (pbM W w.heap.size Q (.slice a n c) e):=(ve (Nat.le_refl _) (λg hg=>by cases hg) (λk g' o l hk=>by
  rcases k with _|_|k
  ·cases hk;exact⟨.inl hgW,hr0⟩
  ·cases hk
  ·cases hk) (λk p l hk=>by
  rcases k with _|_|k
  ·cases hk;exact EE (λx e=>by cases e) hs
  ·cases hk
  ·cases hk)).withTst
 refine bY (M:=pbM W w.heap.size Q (.slice a n c) e) (n:=35) (code:=ptC) (K:=[(1,.p 0 0),(2,.s (0,⟨#[]⟩)),(3,.v (.int .i64 0))]) hO [2,3] (us:=[.s (0,⟨#[]⟩),.v (.int .i64 e)])
  (ps:=[ah W.heap.size W (Ev.av (bW w.heap.size Q (.slice a n c))) 30 [.a 0 0 28] (.val (.int .i64 e)),(!decide (e=0))=true]) (by kernel_rfl)
  ⟨uk (x:=.agg (aA Q (.slice a n c))) lW rfl λw' hw'=>hc w' (hb.trans (hw'.mono hb.size)),by simpa using he,trivial⟩ (aI (aI (aI (bT hn hd) h3 rfl) h2 rfl) h1 rfl) (Sw.start _) ?_
 intro b w' _ hd hv hS
 exact zP rfl hd hv ⟨rfl,hb.trans ((bz rfl hS).mono hb.size)⟩
theorem rt_no (w:World)(Q:Ps.Req)(sa:Option Addr)(sn sc:Nat)(m1:KnC w)(m2:Hid (∀W,Below w.heap.size w W->Calls Tryz.prog 23 #[.agg (aA Q (.slice sa sn sc))] W λe W'=>e=.returned (.bool false)/\Below W.heap.size W W')):
 Calls Tryz.prog 7 #[.agg (aA Q (.slice sa sn sc))] w λe W'=>e=.returned (.bool true)/\Below w.heap.size w W':=by
 have BF:=yx
 unfold wh at BF
 have hst:=uB
 go_enter Tryz.func7,Tryz.ntmps7
 obtain⟨g,hg⟩:∃g,g=w.heap.size:=⟨_,rfl⟩
 refine wp_seq ?_
 refine wp_region_lit ?_
 refine wpList_plain rfl (λK hK=>?_)
 go_simp
 refine hK _ _ ?_
 clear hK K
 refine wpList_plain rfl (λK hK=>?_)
 go_simp
 refine hK _ _ ?_
 clear hK K
 refine aZ ?_
 have hg0:(w.alloc (.cells (aA Q (.slice sa sn sc)) 28)).heap[g]? =some (.cells (aA Q (.slice sa sn sc)) 28 (0,0)):=by rw[hg];exact aC w _
 have HB0:Hid (Below w.heap.size w (w.alloc (.cells (aA Q (.slice sa sn sc)) 28))):=Lib.hid ((Below.refl _ _).alloc (Nat.le_refl _) _)
 rw[<-hg]
 generalize w.alloc (.cells (aA Q (.slice sa sn sc)) 28)=W0 at hg0 HB0⊢
 have Jq:Hid (W0.heap[g]? =some (.cells (aA Q (.slice sa sn sc)) 28 (0,0))):=Lib.hid hg0
 have HGW:Hid (g=w.heap.size):=Lib.hid hg
 clear hg hg0 BF
 go_upto_region 1 with fail
 refine wp_region_lit ?_
 refine df (vs:=[]) (by rfl) rfl rfl vg rfl (m1.out _ HB0.out) λe w1 he=>?_
 obtain⟨rfl,hb1⟩:=he
 refine⟨_,rfl,?_⟩
 have HB1:=Lib.hid (HB0.out.trans (hb1.mono HB0.out.size))
 have HR1:Hid (w1.heap[g]? =some (.cells (aA Q (.slice sa sn sc)) 28 (0,0))):=Lib.hid ((hb1.block g (Array.getElem?_eq_some_iff.1 Jq.out).1).trans Jq.out)
 clear hb1 HB0 Jq
 refine wpList_plain rfl (λK hK=>?_)
 go_simp
 refine hK _ _ ?_
 clear hK K
 refine wpList_plain rfl (λK hK=>?_)
 go_simp
 refine hK _ _ ?_
 clear hK K
 refine ja (by rfl) rfl rfl rfl (oK g Q (.slice sa sn sc) w1 HR1.out) ?_
 refine df (vs:=[.agg (aA Q (.slice sa sn sc))]) (by rfl) rfl rfl qd rfl (m2.out _ HB1.out) λe w2 he=>?_
 obtain⟨rfl,hb2⟩:=he
 refine⟨_,rfl,?_⟩
 have HB2:=Lib.hid (HB1.out.trans (hb2.mono HB1.out.size))
 have HR2:Hid (w2.heap[g]? =some (.cells (aA Q (.slice sa sn sc)) 28 (0,0))):=Lib.hid ((hb2.block g (Array.getElem?_eq_some_iff.1 HR1.out).1).trans HR1.out)
 clear hb2 HB1 HR1
 clear HR2
 go_wp2_with (go_at_call 22;refine(m1.out _ HB2.out).mono ?_;rintro e w3 ⟨rfl,hb3⟩;have HB3:=Lib.hid (HB2.out.trans (hb3.mono HB2.out.size));clear hb3)
 go_ret
 exact⟨rfl,by rw[HGW.out];exact HB3.out⟩
theorem rt_bad (w:World)(Q:Ps.Req)(sa:Option Addr)(sn sc:Nat)(x:Int)(hx:(x !=0)=true)(m1:KnC w)(m2:Hid (∀W,Below w.heap.size w W->Calls Tryz.prog 23 #[.agg (aA Q (.slice sa sn sc))] W λe W'=>e=.returned (.bool true)/\Below W.heap.size W W'))(m3:Hid (∀W,Below w.heap.size w W->Calls Tryz.prog 25 #[.agg (aA Q (.slice sa sn sc))] W λe W'=>∃ta tc,e=.returned (.agg (aA Q (.slice ta sn tc)))/\Below W.heap.size W W'/\bG W' W.heap.size (.slice ta sn tc) Q.ins.links))(m4:Hid (∀W B a n c,Below w.heap.size w W->bG W B (.slice a n c) Q.ins.links->oW W Q (.slice a n c) ⟨#[]⟩ x))
 (m5:Hid (∀W B a n c,Below w.heap.size w W->bG W B (.slice a n c) Q.ins.links->Calls Tryz.prog 30 #[.agg (aA Q (.slice a n c))] W λr W'=>r=.returned (.int .i64 x)/\Below W.heap.size W W')):
 Calls Tryz.prog 7 #[.agg (aA Q (.slice sa sn sc))] w λe W'=>e=.returned (.bool true)/\Below w.heap.size w W':=by
 have hxx:(x==x)=true:=by simp
 have BF:=yx
 unfold wh at BF
 have hst:=uB
 go_enter Tryz.func7,Tryz.ntmps7
 obtain⟨g,hg⟩:∃g,g=w.heap.size:=⟨_,rfl⟩
 refine wp_seq ?_
 refine wp_region_lit ?_
 refine wpList_plain rfl (λK hK=>?_)
 go_simp
 refine hK _ _ ?_
 clear hK K
 refine wpList_plain rfl (λK hK=>?_)
 go_simp
 refine hK _ _ ?_
 clear hK K
 refine aZ ?_
 have hg0:(w.alloc (.cells (aA Q (.slice sa sn sc)) 28)).heap[g]? =some (.cells (aA Q (.slice sa sn sc)) 28 (0,0)):=by rw[hg];exact aC w _
 have HB0:Hid (Below w.heap.size w (w.alloc (.cells (aA Q (.slice sa sn sc)) 28))):=Lib.hid ((Below.refl _ _).alloc (Nat.le_refl _) _)
 rw[<-hg]
 generalize w.alloc (.cells (aA Q (.slice sa sn sc)) 28)=W0 at hg0 HB0⊢
 have Jq:Hid (W0.heap[g]? =some (.cells (aA Q (.slice sa sn sc)) 28 (0,0))):=Lib.hid hg0
 have HGW:Hid (g=w.heap.size):=Lib.hid hg
 clear hg hg0 BF
 go_upto_region 1 with fail
 refine wp_region_lit ?_
 refine df (vs:=[]) (by rfl) rfl rfl vg rfl (m1.out _ HB0.out) λe w1 he=>?_
 obtain⟨rfl,hb1⟩:=he
 refine⟨_,rfl,?_⟩
 have HB1:=Lib.hid (HB0.out.trans (hb1.mono HB0.out.size))
 have HR1:Hid (w1.heap[g]? =some (.cells (aA Q (.slice sa sn sc)) 28 (0,0))):=Lib.hid ((hb1.block g (Array.getElem?_eq_some_iff.1 Jq.out).1).trans Jq.out)
 clear hb1 HB0 Jq
 refine wpList_plain rfl (λK hK=>?_)
 go_simp
 refine hK _ _ ?_
 clear hK K
 refine wpList_plain rfl (λK hK=>?_)
 go_simp
 refine hK _ _ ?_
 clear hK K
 refine ja (by rfl) rfl rfl rfl (oK g Q (.slice sa sn sc) w1 HR1.out) ?_
 refine df (vs:=[.agg (aA Q (.slice sa sn sc))]) (by rfl) rfl rfl qd rfl (m2.out _ HB1.out) λe w2 he=>?_
 obtain⟨rfl,hb2⟩:=he
 refine⟨_,rfl,?_⟩
 have HB2:=Lib.hid (HB1.out.trans (hb2.mono HB1.out.size))
 have HR2:Hid (w2.heap[g]? =some (.cells (aA Q (.slice sa sn sc)) 28 (0,0))):=Lib.hid ((hb2.block g (Array.getElem?_eq_some_iff.1 HR1.out).1).trans HR1.out)
 clear hb2 HB1 HR1
 go_upto_region 3 with fail
 refine wp_region_lit ?_
 refine jv rfl rfl rfl rfl (oK g Q (.slice sa sn sc) w2 HR2.out) ?_
 refine df (vs:=[.agg (aA Q (.slice sa sn sc))]) (by rfl) rfl rfl CY rfl (m3.out _ HB2.out) λe w3 he=>?_
 obtain⟨ta,tc,rfl,hb3,hl3⟩:=he
 refine⟨_,rfl,?_⟩
 have Pt:=Lib.hid hl3
 have HB3:=Lib.hid (HB2.out.trans (hb3.mono HB2.out.size))
 clear hb3 hl3 HR2
 go_upto_region 4 with fail
 obtain⟨h,hh⟩:∃h,h=w3.heap.size:=⟨_,rfl⟩
 obtain⟨W4,MW⟩:∃W4,W4=w3.alloc (.cells (aA Q (.slice ta sn tc)) 37):=⟨_,rfl⟩
 have HR4:Hid (W4.heap[h]? =some (.cells (aA Q (.slice ta sn tc)) 37 (0,0))):=Lib.hid (by rw[MW,hh];exact aC w3 _)
 have FQ:Hid (Below w.heap.size w W4):=Lib.hid (by rw[MW];exact HB3.out.alloc HB3.out.size _)
 have HL4:Hid (bG W4 w2.heap.size (.slice ta sn tc) Q.ins.links):=Lib.hid (by rw[MW];exact bG.below Pt.out ((Below.refl _ _).alloc (Nat.le_refl _) _))
 rw[<-MW,<-hh]
 clear MW hh HB3 Pt
 refine wp_region_lit ?_
 refine jv rfl rfl rfl rfl (qK h Q (.slice ta sn tc) W4 HR4.out) ?_
 refine df (vs:=[.agg (aA Q (.slice ta sn tc))]) (by rfl) rfl rfl xU rfl (m4.out W4 _ ta sn tc FQ.out HL4.out) λe w5 he=>?_
 obtain⟨rfl,hb5⟩:=he
 refine⟨_,rfl,?_⟩
 have Ik:=Lib.hid (FQ.out.trans (hb5.mono FQ.out.size))
 have Nb:Hid (w5.heap[h]? =some (.cells (aA Q (.slice ta sn tc)) 37 (0,0))):=Lib.hid ((hb5.block h (Array.getElem?_eq_some_iff.1 HR4.out).1).trans HR4.out)
 have HL5:Hid (bG w5 w2.heap.size (.slice ta sn tc) Q.ins.links):=Lib.hid (HL4.out.below hb5)
 clear hb5 HR4 HL4 FQ
 clear m1 m2 m3 m4
 go_upto_region 6 with fail
 refine wp_region_lit ?_
 refine wpList_plain rfl (λK hK=>?_)
 go_simp
 refine hK _ _ ?_
 clear hK K
 refine wpList_plain rfl (λK hK=>?_)
 go_simp
 refine hK _ _ ?_
 clear hK K
 refine wpList_plain rfl (λK hK=>?_)
 go_simp
 refine hK _ _ ?_
 clear hK K
 refine ja (by rfl) rfl rfl rfl (qK h Q (.slice ta sn tc) w5 Nb.out) ?_
 refine df (vs:=[.agg (aA Q (.slice ta sn tc))]) (by rfl) rfl rfl lW rfl (m5.out w5 _ ta sn tc Ik.out HL5.out) λe w6 he=>?_
 obtain⟨rfl,hb6⟩:=he
 refine⟨_,rfl,?_⟩
 have JC:=Lib.hid (Ik.out.trans (hb6.mono Ik.out.size))
 clear hb6 Nb HL5 Ik m5
 go_wp2_with fail
 go_ret
 exact⟨rfl,by rw[HGW.out];exact JC.out⟩
theorem Ni (w:World)(Q:Ps.Req)(sa:Option Addr)(sn sc:Nat)(S:ByteArray)(hS:(S.size:Int)<=1024)(hlk:Q.ins.links.length<=1000)(m1:KnC w)(m2:Hid (∀W,Below w.heap.size w W->Calls Tryz.prog 23 #[.agg (aA Q (.slice sa sn sc))] W λe W'=>e=.returned (.bool true)/\Below W.heap.size W W'))(m3:Hid (∀W,Below w.heap.size w W->Calls Tryz.prog 25 #[.agg (aA Q (.slice sa sn sc))] W λe W'=>∃ta tc,e=.returned (.agg (aA Q (.slice ta sn tc)))/\Below W.heap.size W W'/\bG W' W.heap.size (.slice ta sn tc) Q.ins.links))(m4:Hid (∀W B a n c,Below w.heap.size w W->bG W B (.slice a n c) Q.ins.links->oW W Q (.slice a n c) S 0))
 (m5:Hid (∀W,Below w.heap.size w W->NQ W S Q 0 0)) (m6:Hid (∀W,Below w.heap.size w W->sK W S S 0)) (m7:Hid (∀W,Below w.heap.size w W->Calls Tryz.prog 29 #[.string S] W λr W'=>r=.returned (.bool true)/\Below W.heap.size W W')):
 Calls Tryz.prog 7 #[.agg (aA Q (.slice sa sn sc))] w λe W'=>e=.returned (.bool true)/\Below w.heap.size w W':=by
 have hSS:(S.toList==S.toList)=true:=by simp
 have BF:=yx
 unfold wh at BF
 have hst:=uB
 go_enter Tryz.func7,Tryz.ntmps7
 obtain⟨g,hg⟩:∃g,g=w.heap.size:=⟨_,rfl⟩
 refine wp_seq ?_
 refine wp_region_lit ?_
 refine wpList_plain rfl (λK hK=>?_)
 go_simp
 refine hK _ _ ?_
 clear hK K
 refine wpList_plain rfl (λK hK=>?_)
 go_simp
 refine hK _ _ ?_
 clear hK K
 refine aZ ?_
 have hg0:(w.alloc (.cells (aA Q (.slice sa sn sc)) 28)).heap[g]? =some (.cells (aA Q (.slice sa sn sc)) 28 (0,0)):=by rw[hg];exact aC w _
 have HB0:Hid (Below w.heap.size w (w.alloc (.cells (aA Q (.slice sa sn sc)) 28))):=Lib.hid ((Below.refl _ _).alloc (Nat.le_refl _) _)
 rw[<-hg]
 generalize w.alloc (.cells (aA Q (.slice sa sn sc)) 28)=W0 at hg0 HB0⊢
 have Jq:Hid (W0.heap[g]? =some (.cells (aA Q (.slice sa sn sc)) 28 (0,0))):=Lib.hid hg0
 have HGW:Hid (g=w.heap.size):=Lib.hid hg
 clear hg hg0 BF
 go_upto_region 1 with fail
 refine wp_region_lit ?_
 refine df (vs:=[]) (by rfl) rfl rfl vg rfl (m1.out _ HB0.out) λe w1 he=>?_
 obtain⟨rfl,hb1⟩:=he
 refine⟨_,rfl,?_⟩
 have HB1:=Lib.hid (HB0.out.trans (hb1.mono HB0.out.size))
 have HR1:Hid (w1.heap[g]? =some (.cells (aA Q (.slice sa sn sc)) 28 (0,0))):=Lib.hid ((hb1.block g (Array.getElem?_eq_some_iff.1 Jq.out).1).trans Jq.out)
 clear hb1 HB0 Jq
 refine wpList_plain rfl (λK hK=>?_)
 go_simp
 refine hK _ _ ?_
 clear hK K
 refine wpList_plain rfl (λK hK=>?_)
 go_simp
 refine hK _ _ ?_
 clear hK K
 refine ja (by rfl) rfl rfl rfl (oK g Q (.slice sa sn sc) w1 HR1.out) ?_
 refine df (vs:=[.agg (aA Q (.slice sa sn sc))]) (by rfl) rfl rfl qd rfl (m2.out _ HB1.out) λe w2 he=>?_
 obtain⟨rfl,hb2⟩:=he
 refine⟨_,rfl,?_⟩
 have HB2:=Lib.hid (HB1.out.trans (hb2.mono HB1.out.size))
 have HR2:Hid (w2.heap[g]? =some (.cells (aA Q (.slice sa sn sc)) 28 (0,0))):=Lib.hid ((hb2.block g (Array.getElem?_eq_some_iff.1 HR1.out).1).trans HR1.out)
 clear hb2 HB1 HR1
 go_upto_region 3 with fail
 refine wp_region_lit ?_
 refine jv rfl rfl rfl rfl (oK g Q (.slice sa sn sc) w2 HR2.out) ?_
 refine df (vs:=[.agg (aA Q (.slice sa sn sc))]) (by rfl) rfl rfl CY rfl (m3.out _ HB2.out) λe w3 he=>?_
 obtain⟨ta,tc,rfl,hb3,hl3⟩:=he
 refine⟨_,rfl,?_⟩
 have Pt:=Lib.hid hl3
 have HB3:=Lib.hid (HB2.out.trans (hb3.mono HB2.out.size))
 clear hb3 hl3 HR2
 go_upto_region 4 with fail
 obtain⟨h,hh⟩:∃h,h=w3.heap.size:=⟨_,rfl⟩
 obtain⟨W4,MW⟩:∃W4,W4=w3.alloc (.cells (aA Q (.slice ta sn tc)) 37):=⟨_,rfl⟩
 have HR4:Hid (W4.heap[h]? =some (.cells (aA Q (.slice ta sn tc)) 37 (0,0))):=Lib.hid (by rw[MW,hh];exact aC w3 _)
 have FQ:Hid (Below w.heap.size w W4):=Lib.hid (by rw[MW];exact HB3.out.alloc HB3.out.size _)
 have HL4:Hid (bG W4 w2.heap.size (.slice ta sn tc) Q.ins.links):=Lib.hid (by rw[MW];exact bG.below Pt.out ((Below.refl _ _).alloc (Nat.le_refl _) _))
 rw[<-MW,<-hh]
 clear MW hh HB3 Pt
 refine wp_region_lit ?_
 refine jv rfl rfl rfl rfl (qK h Q (.slice ta sn tc) W4 HR4.out) ?_
 refine df (vs:=[.agg (aA Q (.slice ta sn tc))]) (by rfl) rfl rfl xU rfl (m4.out W4 _ ta sn tc FQ.out HL4.out) λe w5 he=>?_
 obtain⟨rfl,hb5⟩:=he
 refine⟨_,rfl,?_⟩
 have Ik:=Lib.hid (FQ.out.trans (hb5.mono FQ.out.size))
 have Nb:Hid (w5.heap[h]? =some (.cells (aA Q (.slice ta sn tc)) 37 (0,0))):=Lib.hid ((hb5.block h (Array.getElem?_eq_some_iff.1 HR4.out).1).trans HR4.out)
 have HL5:Hid (bG w5 w2.heap.size (.slice ta sn tc) Q.ins.links):=Lib.hid (HL4.out.below hb5)
 clear hb5 HR4 HL4 FQ
 clear m1 m2 m3 m4
 go_upto_region 8 with(go_at_call 16;refine(m5.out _ Ik.out).mono ?_;rintro e w6 ⟨a2,n2,c2,rfl,hl6,hb6⟩;have HL6:=Lib.hid hl6;have JC:=Lib.hid hb6;clear hb6 hl6)
 obtain⟨q,hq⟩:∃q,q=w6.heap.size:=⟨_,rfl⟩
 obtain⟨W7,hW7⟩:∃W7,W7=w6.alloc (.cells (aA Q (.slice a2 n2 c2)) 37):=⟨_,rfl⟩
 have KF:Below w5.heap.size w5 W7:=by rw[hW7];exact JC.out.alloc JC.out.size _
 have HR7:Hid (W7.heap[h]? =some (.cells (aA Q (.slice ta sn tc)) 37 (0,0))):=Lib.hid ((KF.block h (Array.getElem?_eq_some_iff.1 Nb.out).1).trans Nb.out)
 have HS7:Hid (W7.heap[q]? =some (.cells (aA Q (.slice a2 n2 c2)) 37 (0,0))):=Lib.hid (by rw[hW7,hq];exact aC w6 _)
 have HL7:Hid (bG W7 w2.heap.size (.slice ta sn tc) Q.ins.links):=Lib.hid (HL5.out.below KF)
 have HM7:Hid (bG W7 w5.heap.size (.slice a2 n2 c2) Q.ins.links):=Lib.hid (by rw[hW7];exact bG.below HL6.out ((Below.refl _ _).alloc (Nat.le_refl _) _))
 have HB7:Hid (Below w.heap.size w W7):=Lib.hid (Ik.out.trans (KF.mono Ik.out.size))
 rw[<-hW7,<-hq]
 clear hW7 hq KF JC HL6 Nb HL5 Ik m5
 go_upto_region 9 with(go_at_call 27;refine(m6.out _ HB7.out).mono ?_;rintro e w8 ⟨rfl,hb8⟩;have HK8:=Lib.hid hb8;clear hb8)
 have HB8:Hid (Below w.heap.size w w8):=Lib.hid (HB7.out.trans (HK8.out.mono HB7.out.size))
 have HR8:Hid (w8.heap[h]? =some (.cells (aA Q (.slice ta sn tc)) 37 (0,0))):=Lib.hid ((HK8.out.block h (Array.getElem?_eq_some_iff.1 HR7.out).1).trans HR7.out)
 have HS8:Hid (w8.heap[q]? =some (.cells (aA Q (.slice a2 n2 c2)) 37 (0,0))):=Lib.hid ((HK8.out.block q (Array.getElem?_eq_some_iff.1 HS7.out).1).trans HS7.out)
 have m8:=eq_req w8 Q w5.heap.size w2.heap.size a2 ta n2 c2 sn tc hlk (HM7.out.below HK8.out) (HL7.out.below HK8.out)
 clear HK8 HM7 HL7 HB7 HR7 HS7 m6
 refine wp_region_lit ?_
 refine wpList_plain rfl (λK hK=>?_)
 go_simp
 refine hK _ _ ?_
 clear hK K
 refine wpList_plain rfl (λK hK=>?_)
 go_simp
 refine hK _ _ ?_
 clear hK K
 refine wpList_plain rfl (λK hK=>?_)
 go_simp
 refine hK _ _ ?_
 clear hK K
 refine BigFrame.wpList_want (by rfl) (λK hK=>?_)
 go_simp
 refine hK _ _ ?_
 clear hK K
 refine BigFrame.wpList_want (by rfl) (λK hK=>?_)
 go_simp
 refine hK _ _ ?_
 clear hK K
 refine wpList_plain rfl (λK hK=>?_)
 go_simp
 refine hK _ _ ?_
 clear hK K
 refine wpList_plain rfl (λK hK=>?_)
 go_simp
 refine hK _ _ ?_
 clear hK K
 refine ja (by rfl) rfl rfl rfl (qK q Q (.slice a2 n2 c2) w8 HS8.out) ?_
 refine ja (by rfl) rfl rfl rfl (qK h Q (.slice ta sn tc) w8 HR8.out) ?_
 clear HR8 HS8
 go_wp2_with (first|(go_at_call 20;refine m8.mono ?_;rintro e w9 ⟨rfl,hb9⟩;have HB9:=Lib.hid (HB8.out.trans (hb9.mono HB8.out.size));clear hb9 m8)|(go_at_call 29;refine(m7.out _ HB9.out).mono ?_;rintro e w10 ⟨rfl,hb10⟩;have HB10:=Lib.hid (HB9.out.trans (hb10.mono HB9.out.size));clear hb10))
 go_ret
 exact⟨rfl,by rw[HGW.out];exact HB10.out⟩
theorem sF {m:Int}{kb ko kc:Nat}{w:World}(env:iU m kb ko kc w)(hE:iH w)(Q:Ps.Req)(sa:Option Addr)(sn sc:Nat)(hn:sn=Q.ins.links.length)(z0:pJ Q.ins)(z1:Sz Q.sender)(z2:Sz Q.ref)(hput:gm w sa sn Q.ins.links):Calls Tryz.prog 7 #[.agg (aA Q (.slice sa sn sc))] w λe W'=>e=.returned (.bool true)/\Below w.heap.size w W':=by
 have m1:KnC w:=Lib.hid λW hW=>kn20 (env.below hW) (hE.below hW)
 obtain⟨b,hbs,m2⟩:=Jk w Q z0 z1 z2 sa sn sc hn hput
 cases b with
 |false=>exact rt_no w Q sa sn sc m1 (Lib.hid m2)
 |true=>
  have hsm:=hbs.1 rfl
  have h20:=hsm.ins.len
  have m3:Hid (∀W,Below w.heap.size w W->Calls Tryz.prog 25 #[.agg (aA Q (.slice sa sn sc))] W λe W'=>∃ta tc,e=.returned (.agg (aA Q (.slice ta sn tc)))/\Below W.heap.size W W'/\bG W' W.heap.size (.slice ta sn tc) Q.ins.links):=Lib.hid λW hW=>Ll W Q sa sn sc (Lib.hid hn) (Lib.hid (by omega)) (Lib.hid λh0=>hput.below hW h0)
  have hck:=λ(W:World) (B:Nat) (a:Option Addr) (n c:Nat) (hW:Below w.heap.size w W) (hl:bG W B (.slice a n c) Q.ins.links)=>EM (env.below hW).id (KT (env.below hW).id) W B Q a n c (Below.refl _ _) hl
  by_cases he:psR Q=0
  ·obtain⟨c1,c2,c3⟩:=KG he
   have hp:=λ(W:World) (hW:Below w.heap.size w W)=>Ml env (cnT Q) (by omega) W hW
   rw[c2]at hp
   have hc:=yl env hE (cnT Q) (by omega)
   rw[c1]at hc
   have hi:=λW hW=>xI env hE (cnT Q) (by omega) W hW
   rw[Ey he]at hi
   exact Ni w Q sa sn sc (cnT Q) (by omega) (by omega) m1 (Lib.hid m2) m3 (Lib.hid λW B a n c hW hl=>KX env hE Q he W B a n c hW hl) (Lib.hid hp) (Lib.hid hc) (Lib.hid hi)
  ·exact rt_bad w Q sa sn sc (psR Q) (by simpa using he) m1 (Lib.hid m2) m3 (Lib.hid λW B a n c hW hl=>L9 W Q (psR Q) he a n c hsm λW2 hW2=>hck W2 B a n c (hW.trans (hW2.mono hW.size)) (hl.below hW2)) (Lib.hid hck)
end Go.Proofs.YtnjjeapcalkmaaaGreatDoor
namespace Go.Proofs.YtnjjeapcalkmaaaGreatDoor.lawPrRoundTrip
open Go.ChangeShapes Go.WideShapes Go.ChangeAt Go.RowKit
theorem own:ownKnob Tryz.prog.godebug=none:=by kernel_rfl
theorem laidOut:laidOutB Tryz.prog=true:=by kernel_rfl
theorem Kt:("strconv.ErrRange",(Rows.laid_strconv_ErrRange:DataW Unit))∈Rows.printerRoundTripRow.laid:=by
 unfold Rows.printerRoundTripRow
 exact .tail _ (.tail _ (.tail _ (.tail _ ((.head _)))))
theorem Gx:("strconv.ErrSyntax",(Rows.laid_strconv_ErrSyntax:DataW Unit))∈Rows.printerRoundTripRow.laid:=by
 unfold Rows.printerRoundTripRow
 exact .tail _ (.tail _ (.tail _ (.tail _ (.tail _ ((.head _))))))
theorem memIds:("giro/ident.kinds",(Rows.laid_giro_ident_kinds:DataW Unit))∈Rows.printerRoundTripRow.laid:=by
 unfold Rows.printerRoundTripRow
 exact .tail _ (.tail _ (.tail _ (.tail _ (.tail _ (.tail _ ((.head _)))))))
theorem memLex:("giro/lexer.kinds",(Rows.laid_giro_lexer_kinds:DataW Unit))∈Rows.printerRoundTripRow.laid:=by
 unfold Rows.printerRoundTripRow
 exact .tail _ (.tail _ (.tail _ (.tail _ (.tail _ (.tail _ (.tail _ ((.head _))))))))
theorem FJ:("giro/message.priorityNames",(Rows.laid_giro_message_priorityNames:DataW Unit))∈Rows.printerRoundTripRow.laid:=by
 unfold Rows.printerRoundTripRow
 exact .tail _ (.tail _ (.tail _ (.tail _ (.tail _ (.tail _ (.tail _ (.tail _ (.tail _ (.tail _ ((.head _)))))))))))
theorem memPow:("internal/strconv.uint64pow10",(Rows.laid_internal_strconv_uint64pow10:DataW Unit))∈Rows.printerRoundTripRow.laid:=by
 unfold Rows.printerRoundTripRow
 exact .tail _ (.tail _ ((.head _)))
theorem memKd:("giro/message.kindNames",(Rows.laid_giro_message_kindNames:DataW Unit))∈Rows.printerRoundTripRow.laid:=by
 unfold Rows.printerRoundTripRow
 exact .tail _ (.tail _ (.tail _ (.tail _ (.tail _ (.tail _ (.tail _ (.tail _ ((.head _)))))))))
theorem memOp:("giro/message.operationNames",(Rows.laid_giro_message_operationNames:DataW Unit))∈Rows.printerRoundTripRow.laid:=by
 unfold Rows.printerRoundTripRow
 exact .tail _ (.tail _ (.tail _ (.tail _ (.tail _ (.tail _ (.tail _ (.tail _ (.tail _ ((.head _))))))))))
theorem contract (H:Type)(enc:TypeId×Value->H)(W:World)(base:Nat)(args:Array Value)(ds gs:List (DataW H))(before:List MemPlace)
 (hval:∀(j:Nat) t v,Tryz.f7.params[j]? =some t->args[j]? =some v->Value.okWide Tryz.prog W .any base t v)
 (hW:DataW.Whole enc Tryz.prog Tryz.f7.params.toList Rows.printerRoundTripSpec.vars false W args.toList ds gs before) (hL:laidMetH Tryz.prog Rows.printerRoundTripRow.laid W) (hsh:W.ShapedOpen Tryz.prog):
 Calls Tryz.prog 7 args W λe W'=>∃v,e=.returned v/\Rows.printerRoundTripSpec.post enc Tryz.prog Tryz.f7 false true false false W args v W':=by
 have hW':=hW
 obtain⟨p,q,hA0,hV,rfl,hfz,hnd⟩:=hW
 have hA:DataW.TrodAll enc Tryz.prog W 0 (λ_=>true) true Tryz.f7.params.toList args.toList ds p:=hA0
 rw[Tryz.params7]at hA hval
 obtain⟨v0,vs0,d0,ds0,p0,q0,hargs,rfl,rfl,h0,r0⟩:=trodAll_cons hA
 obtain⟨rfl,rfl,rfl⟩:=trodAll_nil r0
 obtain rfl:args=#[v0]:=by cases args;simp_all
 obtain⟨rfl,rfl⟩:=trodVars_none hV
 clear hA0
 simp only[List.append_nil]at hW'
 have hlt:∀x∈p0,x.block<W.heap.size:=λx hx=>by simpa using hW'.lt x hx
 obtain⟨Q0,a0,c0,rfl,x0a,x0b,x0c,x0d,x0e⟩:=q_open h0
 obtain⟨m,Mt⟩:=Tryz.laysM145.s1_3 W hsh
 obtain⟨kb,ko,kc,env⟩:=uT hL memLex memIds FJ Kt Gx m Mt
 refine(sF env (uQ hL memPow FJ memOp memKd) Q0 a0 _ c0 rfl x0a x0b x0c x0e).mono λe W' ⟨he,hb⟩=>?_
 subst he
 have t0:=Below.trod laidOut (by kernel_rfl) (of_decide_eq_true (by kernel_rfl)) h0 hb (λx hx=>hlt x (by simp[hx]))
 exact⟨_,rfl,_,_,_,[],_,[],hW',trodAll_cons_mk (shut_bool Tryz.underlying4 _) trodAll_mk0,trodAll_cons_mk t0 trodAll_mk0,rfl,hb.frame _,λh=>by cases h⟩
noncomputable def jX (os:Os):World:=(World.doorLaid Tryz.prog 300 os).layVars Tryz.prog [("unicode/utf8.first",Rows.laid_unicode_utf8_first)]
theorem Ov (os:Os):(jX os).os=os:=by unfold jX;rw[World.layVars_os];rfl
theorem Js (os:Os):laidMetH Tryz.prog Rows.printerRoundTripRow.laid ((jX os).forCall (λ_ _=>0) ⟨#[],#[Value.agg #[.int .i64 0,.string ⟨#[]⟩,.string ⟨#[]⟩,.string ⟨#[]⟩,.int .i64 0,.string ⟨#[]⟩,.string ⟨#[]⟩,.int .i64 0,.string ⟨#[]⟩,.int .i64 0,.int .i64 0,.int .i64 0,.int .i64 0,.int .i64 0,.bool false,.int .i64 0,.bool false,.bool false,.slice none 0 0,.bool false,.bool false,.bool false,.bool false,.int .i64 0,.int .i64 0,.int .i64 0,.bool false,.int .i64 0]],[]⟩).memory:=
 laidMetH_of_parts3 (fuel:=8)
  (laidMet_layVars (w0:=World.doorLaid Tryz.prog 300 os) ["unicode/utf8.first"] ((List.range (World.doorLaid Tryz.prog 300 os).heap.size).filter (· !=7)) (by rfl) (by kernel_rfl) (by kernel_rfl)
   (LaidIn.of_run _ 8 (by kernel_rfl) (by kernel_rfl) (by kernel_rfl) (by kernel_rfl))) (by kernel_rfl) (by kernel_rfl)
theorem reads (os:Os){H:Type}(enc:TypeId×Value->H):∃places,DataW.whole enc Tryz.prog ((jX os).forCall (λ_ _=>0) ⟨#[],#[Value.agg #[.int .i64 0,.string ⟨#[]⟩,.string ⟨#[]⟩,.string ⟨#[]⟩,.int .i64 0,.string ⟨#[]⟩,.string ⟨#[]⟩,.int .i64 0,.string ⟨#[]⟩,.int .i64 0,.int .i64 0,.int .i64 0,.int .i64 0,.int .i64 0,.bool false,.int .i64 0,.bool false,.bool false,.slice none 0 0,.bool false,.bool false,.bool false,.bool false,.int .i64 0,.int .i64 0,.int .i64 0,.bool false,.int .i64 0]],[]⟩).memory Tryz.f7.params.toList Rows.printerRoundTripSpec.vars false #[Value.agg #[.int .i64 0,.string ⟨#[]⟩,.string ⟨#[]⟩,.string ⟨#[]⟩,.int .i64 0,.string ⟨#[]⟩,.string ⟨#[]⟩,.int .i64 0,.string ⟨#[]⟩,.int .i64 0,.int .i64 0,.int .i64 0,.int .i64 0,.int .i64 0,.bool false,.int .i64 0,.bool false,.bool false,.slice none 0 0,.bool false,.bool false,.bool false,.bool false,.int .i64 0,.int .i64 0,.int .i64 0,.bool false,.int .i64 0]].toList 8=some ([.agg [.lit (.int .i64 0),.lit (.string []),.lit (.string []),.agg [.lit (.string []),.lit (.int .i64 0),.lit (.string []),.lit (.string []),.lit (.int .i64 0),.lit (.string []),.lit (.int .i64 0),.lit (.int .i64 0),.lit (.int .i64 0),.lit (.int .i64 0),.lit (.int .i64 0),.lit (.bool false),.lit (.int .i64 0),.lit (.bool false),.lit (.bool false),.nil],.agg [.lit (.bool false),.lit (.bool false),.lit (.bool false),.lit (.bool false),.lit (.int .i64 0),.lit (.int .i64 0),.lit (.int .i64 0),.lit (.bool false),.lit (.int .i64 0)]]],[],places):=
 ⟨[],by kernel_rfl⟩
theorem lifted (os:Os)(started:os.Started)(H:Type)(enc:TypeId×Value->H)(F:Stop.Interp):
 ReturnsInHanded {} Tryz.checked os 7 .any ((OpenSpec.ofChange Rows.printerRoundTripSpec).preRow enc Tryz.prog Tryz.f7 Rows.printerRoundTripRow.domain false Rows.printerRoundTripRow.laid) (((OpenSpec.ofChange Rows.printerRoundTripSpec).at F).post enc Tryz.prog Tryz.f7 false true false false):=by
 obtain⟨places,hx⟩:=reads os enc
 refine returnsInHanded_of_row (C:=Tryz.checked) (s:=OpenSpec.ofChange Rows.printerRoundTripSpec) own started (by kernel_rfl) Tryz.func7
  (witness_row_atRef (enc:=enc) (C:=Tryz.checked) false (jX os) #[Value.agg #[.int .i64 0,.string ⟨#[]⟩,.string ⟨#[]⟩,.string ⟨#[]⟩,.int .i64 0,.string ⟨#[]⟩,.string ⟨#[]⟩,.int .i64 0,.string ⟨#[]⟩,.int .i64 0,.int .i64 0,.int .i64 0,.int .i64 0,.int .i64 0,.bool false,.int .i64 0,.bool false,.bool false,.slice none 0 0,.bool false,.bool false,.bool false,.bool false,.int .i64 0,.int .i64 0,.int .i64 0,.bool false,.int .i64 0]] (Ov os) (by kernel_rfl) (by kernel_rfl) (by kernel_rfl)
   (OpenSpec.preRow_of_cond 8 hx (by kernel_rfl) (λk hk=>by cases hk) (by kernel_rfl) (Js os))) ?_
 intro W base args ds gs before hval hW _ _ _ hL hsh _
 exact contract H enc W base args ds gs before hval hW hL hsh
theorem said:Rows.PrinterRoundTripSaid:=
 OpenClaim.holds_of_cond 7 Tryz.f7 rfl rfl rfl rfl rfl rfl rfl ⟨rfl,rfl,rfl,rfl,rfl⟩ rfl rfl rfl rfl rfl (by kernel_rfl) Tryz.func7 facts
  (of_decide_eq_true (by kernel_rfl)) (by unfold Func.isWrapper;first|(rw[if_pos (by decide +kernel)];kernel_rfl)|(rw[if_neg (by decide +kernel)];exact⟨rfl,rfl⟩))
  (λos started H enc _ F=>by rw[OpenClaim.pre_eq_preRow];exact lifted os started H enc F)
theorem plain (f:FuncId)(fn:Func)(hf:Tryz.pinned.checked.prog.funcNamed "giro/girolaw20.PrinterRoundTrip"=some f)(hfn:Tryz.pinned.checked.prog.funcs[f]? =some fn):
 true=Tryz.pinned.checked.prog.looks []/\∀(j:Nat) t,fn.params[j]? =some t->Tryz.pinned.checked.prog.wantsStandIn t=false:=by
 obtain rfl:f=7:=Option.some.inj ((show Tryz.prog.funcNamed "giro/girolaw20.PrinterRoundTrip"=some 7 by kernel_rfl).symm.trans hf)|>.symm
 obtain rfl:fn=Tryz.f7:=(Option.some.inj (Tryz.func7.symm.trans hfn)).symm
 refine⟨by kernel_rfl,λj t ht=>?_⟩
 rw[Tryz.params7]at ht
 have hm:=Array.mem_of_getElem? ht
 simp at hm
 subst hm
 exact(show Tryz.prog.wantsStandIn 28=false by kernel_rfl)
theorem card:Rows.PrinterRoundTripCardSaid:=
 Claim7.holds_tied_plain_at .later [] _ _ _ _ said (λ_ h=>by cases h) (by kernel_rfl) (λ_ h=>by cases h) printerRoundTrip_row_tie rfl ⟨rfl,rfl⟩ (by kernel_rfl) rfl plain (by kernel_rfl)
#print axioms card
end Go.Proofs.YtnjjeapcalkmaaaGreatDoor.lawPrRoundTrip
