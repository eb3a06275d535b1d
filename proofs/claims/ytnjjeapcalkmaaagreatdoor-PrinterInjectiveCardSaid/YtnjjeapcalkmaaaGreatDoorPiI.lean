/-
  PrinterInjective is true for every input. The row lists some package-level variables as the program's text lays them; the card ties them.
-/
import Derived.Test.YtnjjeapcalkmaaaGreatDoorPiH
set_option maxRecDepth 100000
set_option maxHeartbeats 4000000
set_option linter.unusedVariables false
set_option linter.unusedSimpArgs false
namespace Go.Proofs.YtnjjeapcalkmaaaGreatDoor
open Go.RowKit
open Go.Proofs.YtnjjeapcalkmaaaGreatDoor.Ord
theorem entOw:∀args w,(callFunc 32 args).run Tryz.prog w=.ok (.enter 32 args) w:=enters_of Tryz.func32 (by kernel_rfl) rfl
theorem entOwA:∀args w,(callFunc 70 args).run Tryz.prog w=.ok (.enter 70 args) w:=enters_of Tryz.func70 (by kernel_rfl) rfl
theorem PI (ρ:Operand->Value)(Q:Ps.Req)(V:Value){x0 x1 x2 x3 x4:Operand}(h0:ρ x0=.int .i64 Q.op)(h1:ρ x1=.string Q.sender)(h2:ρ x2=.string Q.ref)(h3:ρ x3=.agg (aB Q.ins V).toArray)(h4:ρ x4=.agg (aH Q.amd).toArray)(w:World):
 (Instr.build 37 ((#[(0,x0),(1,x1),(2,x2),(3,x3),(4,x4)]:Array (Nat×Operand)).map λ(i,x)=>(i,ρ x))).run Tryz.prog w=.ok (.agg (aA Q V)) w:=by
 simp only[List.map_toArray,List.map_cons,List.map_nil,h0,h1,h2,h3,h4]
 unfold aA aB aH
 go_simp
theorem QB (g:Nat)(Q:Ps.Req)(a:Option Addr)(n c:Nat)(w:World)(h:w.heap[g]? =some (.cells (aA Q (.slice a n c)) 28 (0,0))):(Instr.loadAt 24 (.pointer (some ⟨g,3,none⟩))).run Tryz.prog w=.ok (.agg (aB Q.ins (.slice a n c)).toArray) w:=by
 have k0:w.cell? ⟨g,3,none⟩=some (.string Q.ins.ref):=by rw[cell_of_row _ _ _ _ _ _ h];rfl
 have k1:w.cell? ⟨g,4,none⟩=some (.int .i64 Q.ins.kind):=by rw[cell_of_row _ _ _ _ _ _ h];rfl
 have k2:w.cell? ⟨g,5,none⟩=some (.string Q.ins.sender):=by rw[cell_of_row _ _ _ _ _ _ h];rfl
 have k3:w.cell? ⟨g,6,none⟩=some (.string Q.ins.counterparty):=by rw[cell_of_row _ _ _ _ _ _ h];rfl
 have k4:w.cell? ⟨g,7,none⟩=some (.int .i64 Q.ins.side):=by rw[cell_of_row _ _ _ _ _ _ h];rfl
 have k5:w.cell? ⟨g,8,none⟩=some (.string Q.ins.asset):=by rw[cell_of_row _ _ _ _ _ _ h];rfl
 have k6:w.cell? ⟨g,9,none⟩=some (.int .i64 Q.ins.quantity):=by rw[cell_of_row _ _ _ _ _ _ h];rfl
 have k7:w.cell? ⟨g,10,none⟩=some (.int .i64 Q.ins.amount):=by rw[cell_of_row _ _ _ _ _ _ h];rfl
 have k8:w.cell? ⟨g,11,none⟩=some (.int .i64 Q.ins.tradeDay):=by rw[cell_of_row _ _ _ _ _ _ h];rfl
 have k9:w.cell? ⟨g,12,none⟩=some (.int .i64 Q.ins.settleDay):=by rw[cell_of_row _ _ _ _ _ _ h];rfl
 have k10:w.cell? ⟨g,13,none⟩=some (.int .i64 Q.ins.priority):=by rw[cell_of_row _ _ _ _ _ _ h];rfl
 have k11:w.cell? ⟨g,14,none⟩=some (.bool Q.ins.partial_):=by rw[cell_of_row _ _ _ _ _ _ h];rfl
 have k12:w.cell? ⟨g,15,none⟩=some (.int .i64 Q.ins.minLot):=by rw[cell_of_row _ _ _ _ _ _ h];rfl
 have k13:w.cell? ⟨g,16,none⟩=some (.bool Q.ins.hold):=by rw[cell_of_row _ _ _ _ _ _ h];rfl
 have k14:w.cell? ⟨g,17,none⟩=some (.bool Q.ins.reserve):=by rw[cell_of_row _ _ _ _ _ _ h];rfl
 have k15:w.cell? ⟨g,18,none⟩=some (.slice a n c):=by rw[cell_of_row _ _ _ _ _ _ h];rfl
 clear h
 go_simp
 rfl
theorem PQ (g:Nat)(Q:Ps.Req)(lv:Value)(w:World)(h:w.heap[g]? =some (.cells (aA Q lv) 28 (0,0))):(Instr.loadAt 26 (.pointer (some ⟨g,19,none⟩))).run Tryz.prog w=.ok (.agg (aH Q.amd).toArray) w:=by
 have k0:w.cell? ⟨g,19,none⟩=some (.bool Q.amd.hasAmount):=by rw[cell_of_row _ _ _ _ _ _ h];rfl
 have k1:w.cell? ⟨g,20,none⟩=some (.bool Q.amd.hasSettleDay):=by rw[cell_of_row _ _ _ _ _ _ h];rfl
 have k2:w.cell? ⟨g,21,none⟩=some (.bool Q.amd.hasPriority):=by rw[cell_of_row _ _ _ _ _ _ h];rfl
 have k3:w.cell? ⟨g,22,none⟩=some (.bool Q.amd.hasPartial):=by rw[cell_of_row _ _ _ _ _ _ h];rfl
 have k4:w.cell? ⟨g,23,none⟩=some (.int .i64 Q.amd.amount):=by rw[cell_of_row _ _ _ _ _ _ h];rfl
 have k5:w.cell? ⟨g,24,none⟩=some (.int .i64 Q.amd.settleDay):=by rw[cell_of_row _ _ _ _ _ _ h];rfl
 have k6:w.cell? ⟨g,25,none⟩=some (.int .i64 Q.amd.priority):=by rw[cell_of_row _ _ _ _ _ _ h];rfl
 have k7:w.cell? ⟨g,26,none⟩=some (.bool Q.amd.partial_):=by rw[cell_of_row _ _ _ _ _ _ h];rfl
 have k8:w.cell? ⟨g,27,none⟩=some (.int .i64 Q.amd.minLot):=by rw[cell_of_row _ _ _ _ _ _ h];rfl
 clear h
 go_simp
 rfl
theorem Jm (w:World)(Q:Ps.Req)(sa:Option Addr)(sn sc:Nat)(hsn:Hid (sn=Q.ins.links.length))(hlt:Hid (sn<=1000000))(hlk:Hid (0<sn->∃sb so,sa=some ⟨sb,so,none⟩/\∀W,Below w.heap.size w W->Az W sb so Q.ins.links)):
 Calls Tryz.prog 25 #[.agg (aA Q (.slice sa sn sc))] w λe w'=>∃ta tc,e=.returned (.agg (aA Q (.slice ta sn tc)))/\Below w.heap.size w w'/\LkM w' w.heap.size (.slice ta sn tc) Q.ins.links:=by
 obtain⟨g,hg⟩:∃g,g=w.heap.size:=⟨_,rfl⟩
 go_enter Tryz.func25,Tryz.ntmps25
 refine wp_seq ?_
 refine wp_region_lit ?_
 refine wpList_plain rfl (λK hK=>?_)
 go_simp
 refine hK _ _ ?_
 clear hK K
 refine wpList_plain rfl (λK hK=>?_)
 go_simp
 refine hK _ _ ?_
 clear hK K
 refine aT ?_
 have rww:Hid (∀(W:World) (sb:Nat),Below w.heap.size w W->True):=Lib.hid λ_ _ _=>trivial
 generalize hW:World.alloc _ _=W1
 have hW1:W1=(w.alloc (.cells (aA Q (.slice sa sn sc)) 28)).alloc (.cells (aA {} (.slice none 0 0)) 37):=hW.symm
 clear hW rww
 have hb1:Below w.heap.size w W1:=by rw[hW1];exact((Below.refl _ _).alloc (Nat.le_refl _) _).alloc (by simp) _
 have hr0:W1.heap[g]? =some (.cells (aA Q (.slice sa sn sc)) 28 (0,0)):=by rw[hW1,hg,heap_alloc_old _ _ (by simp)];exact aC w _
 have hr1:W1.heap[g+1]? =some (.cells (aA {} (.slice none 0 0)) 37 (0,0)):=by rw[hW1,hg];exact heap_alloc2_new _ _ _
 have hs1:g+2=W1.heap.size:=by rw[hW1,hg];simp
 have HG:=Lib.hid hg
 rw[<-hg]at hb1 hlk⊢
 clear hW1 hg
 obtain⟨W2,hW2⟩:∃W2,W2=W1.drew:=⟨_,rfl⟩
 have hb2:Below g w W2:=by rw[hW2];exact hb1.drew
 have hz2:W2.heap=W1.heap:=by rw[hW2];rfl
 have nB:=Ny W2 Q.ins sa sn sc hsn hlt (Lib.hid λh=>by
  obtain⟨sb,so,e,hr⟩:=hlk.out h
  exact⟨sb,so,e,λW hW=>hr W (hb2.trans (hW.mono (by have:=hb2.size;have:=HG.out;omega)))⟩)
 obtain⟨W3,hW3⟩:∃W3,W3=owW W2 Q.ins (.slice sa sn sc):=⟨_,rfl⟩
 obtain⟨ta,tc,hV,hb3,hL3⟩:∃ta tc,owV W2 Q.ins (.slice sa sn sc)=.slice ta sn tc/\Below W2.heap.size W2 W3/\LkM W3 (W2.heap.size+3) (.slice ta sn tc) Q.ins.links:=by
  obtain⟨e,w',_,⟨_,h1,ta,tc,h2,h3,h4⟩,_⟩:=nB []
  rw[h1]at h3 h4
  rw[hW3]
  exact⟨ta,tc,h2,h3,h4⟩
 rw[hV,<-hW3]at nB
 replace nB:=Lib.hid (nB.mono λe w' h=>(⟨h.1,h.2.1⟩:_/\_))
 have hs2:W2.heap.size=g+2:=by rw[hz2,hs1]
 have hg3:∀w,Below W3.heap.size W3 w->w.heap[g]? =some (.cells (aA Q (.slice sa sn sc)) 28 (0,0))/\w.heap[g+1]? =some (.cells (aA {} (.slice none 0 0)) 37 (0,0)):=λw hw=>by
  have:=hb3.size
  rw[hw.block g (by omega),hw.block (g+1) (by omega),hb3.block g (by omega),hb3.block (g+1) (by omega),hz2]
  exact⟨hr0,hr1⟩
 have hst:Hid (∀(dn:Nat->Bool) (w:World),(if dn 13=true then∃w0,Below W3.heap.size W3 w0/\w=w0.setRow (g+1) (aA Q (.slice ta sn tc))else if dn 11=true then Below W3.heap.size W3 w else if dn 8=true then w=W3 else w=W2)->w.heap[g]? =some (.cells (aA Q (.slice sa sn sc)) 28 (0,0))):=Lib.hid λdn w h=>by
  split at h
  ·obtain⟨w0,h1,rfl⟩:=h
   rw[setRow_other _ _ _ _ (by omega)]
   exact(hg3 w0 h1).1
  ·split at h
   ·exact(hg3 w h).1
   ·split at h
    ·rw[h];exact(hg3 W3 (Below.refl _ _)).1
    ·rw[h,hz2];exact hr0
 have hz1:Hid (∀w,Below W3.heap.size W3 w->w.heap[g+1]? =some (.cells (aA {} (.slice none 0 0)) 37 (0,0))):=Lib.hid λw hw=>(hg3 w hw).2
 have HE:Hid (∀w0,Below W3.heap.size W3 w0->(w0.setRow (g+1) (aA Q (.slice ta sn tc))).heap[g+1]? =some (.cells (aA Q (.slice ta sn tc)) 37 (0,0))/\Below g w (w0.setRow (g+1) (aA Q (.slice ta sn tc)))/\LkM (w0.setRow (g+1) (aA Q (.slice ta sn tc))) g (.slice ta sn tc) Q.ins.links):=Lib.hid λw0 h0=>by
  have k1:=hb3.size
  have k2:=hb2.size
  have k3:=h0.size
  refine⟨setRow_heap w0 (g+1) _ _ _ _ (hg3 w0 h0).2,⟨?_,?_,?_,?_,λj hj=>?_⟩,?_⟩
  ·exact h0.os.trans (hb3.os.trans hb2.os)
  ·exact h0.tape.trans (hb3.tape.trans hb2.tape)
  ·exact h0.output.trans (hb3.output.trans hb2.output)
  ·rw[setRow_size];omega
  ·rw[setRow_other _ _ _ _ (by omega),h0.block j (by omega),hb3.block j (by omega)]
   exact hb2.block j hj
  ·refine dH (fD hL3 λj hj=>?_) (by omega)
   have:=hL3.lt j hj
   rw[setRow_other _ _ _ _ (by omega)]
   exact h0.block j this.2
 have HW2:=Lib.hid hW2
 clear hW3 hV hb3 hL3 hs2 hg3 hz2 hb2 hW2 hs1 hr0 hr1 hb1 hlk hlt hsn
 refine oF rfl λa ha hdf=>?_
 have hsz:a.tmps.size=16:=by rw[ha];rfl
 have hf1:a.tmps[1]? =some (.pointer (some ⟨g,0,none⟩)):=by rw[ha];rfl
 have hf2:a.tmps[2]? =some (.pointer (some ⟨g+1,0,none⟩)):=by rw[ha];rfl
 clear ha
 refine wp_seq ?_
 obtain⟨vs,hvs⟩:∃vs:List Value,vs=[(.pointer (some ⟨g,0,none⟩)),(.int .i64 Q.op),(.pointer (some ⟨g,1,none⟩)),(.string Q.sender),(.pointer (some ⟨g,2,none⟩)),(.string Q.ref),(.pointer (some ⟨g,3,none⟩)),(.agg (aB Q.ins (.slice sa sn sc)).toArray),(.agg (aB Q.ins (.slice ta sn tc)).toArray),(.pointer (some ⟨g,19,none⟩)),(.agg (aH Q.amd).toArray),(.agg (aH Q.amd).toArray),(.agg (aA Q (.slice ta sn tc))),(undef)]:=⟨_,rfl⟩
 refine iJ (λdn w=>if dn 13=true then∃w0,Below W3.heap.size W3 w0/\w=w0.setRow (g+1) (aA Q (.slice ta sn tc))else if dn 11=true then Below W3.heap.size W3 w else if dn 8=true then w=W3 else w=W2) (Ord.inD [(1,0),(3,2),(5,4),(7,6),(8,6),(8,7),(10,9),(11,8),(11,9),(11,10),(12,0),(12,1),(12,2),(12,3),(12,4),(12,5),(12,6),(12,7),(12,8),(12,9),(12,10),(12,11),(13,0),(13,1),(13,2),(13,3),(13,4),(13,5),(13,6),(13,7),(13,8),(13,9),(13,10),(13,11),(13,12)]) (Ord.vF (by kernel_rfl)) 14 vs (by rw[hvs];rfl) rfl rfl (by kernel_rfl) (by kernel_rfl) (by kernel_rfl) (by rw[hsz];kernel_rfl) (by simpa using HW2.out.symm) ?_ ?_
 ·intro ρ hD hrest hco hfu
  have e1:ρ (.tmp 1)=.pointer (some ⟨g,0,none⟩):=(hrest 1 (by decide +kernel)).trans (eval_at hf1)
  have e2:ρ (.tmp 2)=.pointer (some ⟨g+1,0,none⟩):=(hrest 2 (by decide +kernel)).trans (eval_at hf2)
  obtain⟨e3,e4,e5,e6,e7,e8,e9,e10,e11,e12,e13,e14,e15,-⟩:ρ (.tmp 3)=(.pointer (some ⟨g,0,none⟩))/\ρ (.tmp 4)=(.int .i64 Q.op)/\ρ (.tmp 5)=(.pointer (some ⟨g,1,none⟩))/\ρ (.tmp 6)=(.string Q.sender)/\ρ (.tmp 7)=(.pointer (some ⟨g,2,none⟩))/\ρ (.tmp 8)=(.string Q.ref)/\ρ (.tmp 9)=(.pointer (some ⟨g,3,none⟩))/\ρ (.tmp 10)=(.agg (aB Q.ins (.slice sa sn sc)).toArray)/\ρ (.tmp 11)=(.agg (aB Q.ins (.slice ta sn tc)).toArray)/\ρ (.tmp 12)=(.pointer (some ⟨g,19,none⟩))/\ρ (.tmp 13)=(.agg (aH Q.amd).toArray)/\ρ (.tmp 14)=(.agg (aH Q.amd).toArray)/\ρ (.tmp 15)=(.agg (aA Q (.slice ta sn tc)))/\True/\True:=lL hvs hD
  refine xu hvs ?_
  refine⟨λdn hn hd he=>aK (B:=λ_=>True) (λw h=>by simpa using h) (λ_ _=>trivial) (λw0=>bI rfl (dm rfl e1 (λw=>by go_simp))),?_⟩
  refine⟨λdn hn hd he=>aK (B:=λw=>w.heap[g]? =some (.cells (aA Q (.slice sa sn sc)) 28 (0,0))) (λw h=>by simpa using h) (λw h=>hst.out dn w h) (λw0=>bI rfl (fO rfl e3 (λw hS=>Eb _ w _ (by rw[cell_of_row _ _ _ _ _ _ hS.2];rfl)))),?_⟩
  refine⟨λdn hn hd he=>aK (B:=λ_=>True) (λw h=>by simpa using h) (λ_ _=>trivial) (λw0=>bI rfl (dm rfl e1 (λw=>by go_simp))),?_⟩
  refine⟨λdn hn hd he=>aK (B:=λw=>w.heap[g]? =some (.cells (aA Q (.slice sa sn sc)) 28 (0,0))) (λw h=>by simpa using h) (λw h=>hst.out dn w h) (λw0=>bI rfl (fO rfl e5 (λw hS=>Dt _ w _ (by rw[cell_of_row _ _ _ _ _ _ hS.2];rfl)))),?_⟩
  refine⟨λdn hn hd he=>aK (B:=λ_=>True) (λw h=>by simpa using h) (λ_ _=>trivial) (λw0=>bI rfl (dm rfl e1 (λw=>by go_simp))),?_⟩
  refine⟨λdn hn hd he=>aK (B:=λw=>w.heap[g]? =some (.cells (aA Q (.slice sa sn sc)) 28 (0,0))) (λw h=>by simpa using h) (λw h=>hst.out dn w h) (λw0=>bI rfl (fO rfl e7 (λw hS=>Dt _ w _ (by rw[cell_of_row _ _ _ _ _ _ hS.2];rfl)))),?_⟩
  refine⟨λdn hn hd he=>aK (B:=λ_=>True) (λw h=>by simpa using h) (λ_ _=>trivial) (λw0=>bI rfl (dm rfl e1 (λw=>by go_simp))),?_⟩
  refine⟨λdn hn hd he=>aK (B:=λw=>w.heap[g]? =some (.cells (aA Q (.slice sa sn sc)) 28 (0,0))) (λw h=>by simpa using h) (λw h=>hst.out dn w h) (λw0=>bI rfl (fO rfl e9 (λw hS=>QB g Q sa sn sc w hS.2))),?_⟩
  refine⟨λdn hn hd he=>⟨λ_ w hS=>?_,λh=>by have h2:true=false:=h;cases h2⟩,?_⟩
  ·have h11:=he 11 rfl;have NL:=he 13 rfl
   simp only[hn,h11,NL,Bool.false_eq_true,if_false]at hS
   subst hS
   unfold execOp
   have hf:=hfu 32
   simp[resolve,invoke,hf,e10,Deferred.ofValue,entOw]
   exact nB.out.mono λe w' h=>⟨h.1,by simp[h11,NL];exact h.2⟩
  refine⟨λdn hn hd he=>aK (B:=λ_=>True) (λw h=>by simpa using h) (λ_ _=>trivial) (λw0=>bI rfl (dm rfl e1 (λw=>by go_simp))),?_⟩
  refine⟨λdn hn hd he=>aK (B:=λw=>w.heap[g]? =some (.cells (aA Q (.slice sa sn sc)) 28 (0,0))) (λw h=>by simpa using h) (λw h=>hst.out dn w h) (λw0=>bI rfl (fO rfl e12 (λw hS=>PQ g Q _ w hS.2))),?_⟩
  refine⟨λdn hn hd he=>⟨λ_ w hS=>?_,λh=>by have h2:true=false:=h;cases h2⟩,?_⟩
  ·have h8:=hd 8 rfl;have NL:=he 13 rfl
   simp only[hn,h8,NL,Bool.false_eq_true,if_false,if_true]at hS
   subst hS
   unfold execOp
   have hf:=hfu 70
   simp[resolve,invoke,hf,e13,Deferred.ofValue,entOwA]
   exact(Ky _ Q.amd).mono λe w' h=>⟨h.1,by simp[NL];exact h.2⟩
  refine⟨λdn hn hd he=>aK (B:=λ_=>True) (λw h=>by simpa using h) (λ_ _=>trivial) (λw0=>bI rfl (Ab rfl (PI ρ _ _ e4 e6 e8 e11 e14))),?_⟩
  refine⟨λdn hn hd he=>⟨λ_ w hS=>?_,λh=>by have h2:true=false:=h;cases h2⟩,?_⟩
  ·have h11:=hd 11 rfl
   simp only[hn,h11,Bool.false_eq_true,if_false,if_true]at hS
   unfold execOp
   simp only[e2,e15,Instr.storeAt,Instr.sureAddr,Sem.run_bind,Sem.run_pure,Result.andThen_ok,run_storeVar_row (P:=Tryz.prog) w (g+1) 37 37 (aA {} (.slice none 0 0)) (aA Q (.slice ta sn tc)) (hz1.out w hS) (by kernel_rfl) rfl (bU _ _ _ _)]
   exact⟨rfl,by simp;exact⟨w,hS,rfl⟩⟩
  exact trivial
 intro b w9 hS hK hD
 obtain⟨w0,h0,rfl⟩:∃w0,Below W3.heap.size W3 w0/\w9=w0.setRow (g+1) (aA Q (.slice ta sn tc)):=by simpa using hS
 obtain⟨k1,k2,k3⟩:=HE.out w0 h0
 refine wp_ret ?_
 try simp only[Exit.then,Exit.inBlock]
 refine bodyPost_ret (results_cell_row rfl _ _ (g+1) _ _ (0,0) _ ?_ k1 Tryz.underlying37 rfl (by kernel_rfl)) (hK.defers.trans hdf) ?_
 ·exact eval_at ((hK.rest 2 (by decide +kernel)).trans hf2)
 exact⟨ta,tc,rfl,k2,k3⟩
open Go Go.RowKit Go.Proofs.YtnjjeapcalkmaaaGreatDoor.Ord
open Go.Proofs.YtnjjeapcalkmaaaGreatDoor.Se
theorem CU {w:World}{B:Nat}{a:Option Addr}{n c:Nat}{ks:List Ps.Link}(h:bG w B (.slice a n c) ks):n=ks.length/\fq w a n ks:=⟨(zo h).1,fq.of λh0=>zA h h0⟩
structure PtF (w:World)(Q:Ps.Req)(a:Option Addr)(n c:Nat):Prop where
 env:iM w
 ok:psR Q=0
 chk:∀W,Below w.heap.size w W->Calls Tryz.prog 30 #[.agg (aA Q (.slice a n c))] W λr W'=>r=.returned (.int .i64 0)/\Below W.heap.size W W'
 len:n=Q.ins.links.length
 put:fq w a n Q.ins.links
theorem GZ (k:Int)(hk:k=1\/k=2\/k=3\/k=4){W:World}(hE:iM W):CW W 67 k 8 (Ps.bw (opW k)):=by
 refine⟨λw hw=>?_,by rcases hk with rfl|rfl|rfl|rfl<;>decide⟩
 rcases hk with rfl|rfl|rfl|rfl
 ·exact(jJ w (hE.op w hw) 1 _ rfl).mono λe w2 ⟨h1,h2⟩=>⟨h1,h2▸Below.refl _ _⟩
 ·exact(jJ w (hE.op w hw) 2 _ rfl).mono λe w2 ⟨h1,h2⟩=>⟨h1,h2▸Below.refl _ _⟩
 ·exact(jJ w (hE.op w hw) 3 _ rfl).mono λe w2 ⟨h1,h2⟩=>⟨h1,h2▸Below.refl _ _⟩
 ·exact(jJ w (hE.op w hw) 4 _ rfl).mono λe w2 ⟨h1,h2⟩=>⟨h1,h2▸Below.refl _ _⟩
theorem Ou (i:Ps.Ins):0<(psS i).length:=by
 unfold psS
 split
 ·simp[pgS]
 ·split
  ·simp[pyS]
  ·rw[List.length_append]
   have:0<(pdS i).length:=by unfold pdS;simp;omega
   omega
theorem Nc {i:Ps.Ins}(h:i.links.length<=8):(psS i).length<=1000:=by
 have h1:=GJ h
 have h2:=FJ i
 unfold psS
 split
 ·simp[pgS]
 ·split
  ·rw[List.length_append]
   have:(pyS i).length=10:=rfl
   omega
  ·rw[List.length_append]
   omega
theorem pt_sub (w:World)(i:Ps.Ins)(hi:Ps.lF bN.valid i)(a:Option Addr)(n c:Nat)(hF:PtF w (kU i) a n c):jg w (kU i) (.slice a n c) (Ps.dI (Ps.jC Ps.bA (kU i) (Ps.kV i))) 0:=by
 have hs:=vw hF.ok
 have hz:=(jE hF.ok).2
 have hw:(psS i).map st=Ps.jC Ps.bA (kU i) (Ps.kV i):=KN hi hs
 rw[<-hw]
 have hz:(Ps.dI ((psS i).map st)).size<=1024:=by rw[hw];exact hz
 unfold jg
 refine oM w (kU i) a n c λW b hb hr hd hn h1 h2 h3=>?_
 have hR:RowsIn W W.heap.size 40 [] (bX w.heap.size (kU i) (.slice a n c)):=⟨⟨rfl,.inl (Array.getElem?_eq_some_iff.1 hr).1,⟨_,hr⟩,zR (λx e=>by cases e) hs⟩,trivial⟩
 refine bY (M:=ptM W (kU i) 0 (bX w.heap.size (kU i) (.slice a n c))) (n:=35) (code:=ptC) (K:=[(1,.p 0 0),(2,.s (0,⟨#[]⟩)),(3,.v (.int .i64 0))]) (Ee hR) [2,3] (us:=[.s (2000,Ps.dI ((psS i).map st)),.v (.int .i64 0)])
  (ps:=[ai W.heap.size W (Ev.az (bX w.heap.size (kU i) (.slice a n c))) 30 [.a 0 0 28] (.val (.int .i64 0)),ai W.heap.size W (Ev.az (bX w.heap.size (kU i) (.slice a n c))) 66 [.a 0 3 16] (.sls (psS i)),ai W.heap.size W (Ev.az (bX w.heap.size (kU i) (.slice a n c))) 69 [.sl (psS i),.s (1,⟨#[32]⟩)] (.str 2000 (Ps.dI ((psS i).map st)))]) (by kernel_rfl)
  ⟨uH (x:=.agg (aA (kU i) (.slice a n c))) om rfl λw' hw'=>hF.chk w' (hb.trans (hw'.mono hb.size)),si (x:=.agg (aB i (.slice a n c)).toArray) Lc rfl λw' hw'=>IZ w' i ⟨hF.env.below (hb.trans (hw'.mono hb.size)),hi,hs⟩ a n c hF.len (hF.put.below (hb.trans (hw'.mono hb.size))),yg (Ou i) (Nc hi.links) (by omega),trivial⟩ (aI (aI (aI (bW hn hd) h3 rfl) h2 rfl) h1 rfl) (Sw.start _) ?_
 intro b w' _ hd hv hS
 refine AZ rfl hd hv ⟨?_,hb.trans ((cK rfl hS).mono hb.size)⟩
 rw[dS (by omega)]
theorem OL (m:Ps.Amd):(chS m).length<=10:=by
 unfold chS
 cases m.hasAmount<;>cases m.hasSettleDay<;>cases m.hasPriority<;>cases (m.hasPartial&&m.partial_)<;>cases (m.hasPartial&&!m.partial_)<;>simp[ls]
theorem pt_amd (w:World)(s r:ByteArray)(m:Ps.Amd)(hm:Ps.nJ m)(a:Option Addr)(n c:Nat)(os:List Ps.Op)(hF:PtF w {op:=1,sender:=s,ref:=r,amd:=m} a n c):jg w {op:=1,sender:=s,ref:=r,amd:=m} (.slice a n c) (Ps.dI (Ps.jC Ps.bA {op:=1,sender:=s,ref:=r,amd:=m} os)) 0:=by
 have hs:=vw hF.ok
 have hz:=(jE hF.ok).2
 have s1:r.size<=40:=hs.ref
 have s2:s.size<=40:=hs.sender
 have hcl:=OL m
 have hw:([(8,Ps.bw (opW 1)),(40,r),wb Ps.sBy,(40,s)]++chS m).map st=Ps.jC Ps.bA {op:=1,sender:=s,ref:=r,amd:=m} os:=by
  rw[List.map_append,MX hm]
  show[st (8,Ps.bw (opW 1)),st (40,r),st (wb Ps.sBy),st (40,s)]++_=[Ps.bw Ps.lT,r,Ps.bw Ps.sBy,s]++_
  rw[dS s1,dS s2,ja,dS (by decide)]
  rfl
 have hz:(Ps.dI (([(8,Ps.bw (opW 1)),(40,r),wb Ps.sBy,(40,s)]++chS m).map st)).size<=1024:=by rw[hw];exact hz
 rw[<-hw]
 unfold jg
 refine oM w _ a n c λW b hb hr hd hn h1 h2 h3=>?_
 have hR:RowsIn W W.heap.size 40 [] (bX w.heap.size {op:=1,sender:=s,ref:=r,amd:=m} (.slice a n c)):=⟨⟨rfl,.inl (Array.getElem?_eq_some_iff.1 hr).1,⟨_,hr⟩,zR (λx e=>by cases e) hs⟩,trivial⟩
 refine bY (M:=ptM W {op:=1,sender:=s,ref:=r,amd:=m} 0 (bX w.heap.size {op:=1,sender:=s,ref:=r,amd:=m} (.slice a n c))) (n:=35) (code:=ptC) (K:=[(1,.p 0 0),(2,.s (0,⟨#[]⟩)),(3,.v (.int .i64 0))]) (Ee hR) [2,3] (us:=[.s (2000,Ps.dI (([(8,Ps.bw (opW 1)),(40,r),wb Ps.sBy,(40,s)]++chS m).map st)),.v (.int .i64 0)])
  (ps:=[ai W.heap.size W (Ev.az (bX w.heap.size {op:=1,sender:=s,ref:=r,amd:=m} (.slice a n c))) 30 [.a 0 0 28] (.val (.int .i64 0)),ai W.heap.size W (Ev.az (bX w.heap.size {op:=1,sender:=s,ref:=r,amd:=m} (.slice a n c))) 67 [.r 0 0] (.str 8 (Ps.bw (opW 1))),ai W.heap.size W (Ev.az (bX w.heap.size {op:=1,sender:=s,ref:=r,amd:=m} (.slice a n c))) 68 [.a 0 19 9] (.sls (chS m)),([(8,Ps.bw (opW 1)),(40,r),wb Ps.sBy,(40,s)]:List SB).length+(chS m).length<=1000000,ai W.heap.size W (Ev.az (bX w.heap.size {op:=1,sender:=s,ref:=r,amd:=m} (.slice a n c))) 69 [.sl ([(8,Ps.bw (opW 1)),(40,r),wb Ps.sBy,(40,s)]++chS m),.s (1,⟨#[32]⟩)] (.str 2000 (Ps.dI (([(8,Ps.bw (opW 1)),(40,r),wb Ps.sBy,(40,s)]++chS m).map st)))]) (by kernel_rfl)
  ⟨uH (x:=.agg (aA {op:=1,sender:=s,ref:=r,amd:=m} (.slice a n c))) om rfl λw' hw'=>hF.chk w' (hb.trans (hw'.mono hb.size)),spW F6 rfl rfl (GZ 1 (by omega) (hF.env.below hb)),si (x:=.agg (aH m).toArray) Jz rfl λw' hw'=>Dl w' m (hF.env.below (hb.trans (hw'.mono hb.size))) hm,by show 4+_<=_;omega,yg (by rw[List.length_append];show 0<4+_;omega) (by rw[List.length_append];show 4+_<=_;omega) (by omega),trivial⟩ (aI (aI (aI (bW hn hd) h3 rfl) h2 rfl) h1 rfl) (Sw.start _) ?_
 intro b w' _ hd hv hS
 refine AZ rfl hd hv ⟨?_,hb.trans ((cK rfl hS).mono hb.size)⟩
 rw[dS (by omega)]
theorem pt_op (w:World)(k:Int)(hk:k=2\/k=3\/k=4)(s r:ByteArray)(a:Option Addr)(n c:Nat)(os:List Ps.Op)(hF:PtF w {op:=k,sender:=s,ref:=r} a n c):jg w {op:=k,sender:=s,ref:=r} (.slice a n c) (Ps.dI (Ps.jC Ps.bA {op:=k,sender:=s,ref:=r} os)) 0:=by
 have hs:=vw hF.ok
 have hz:=(jE hF.ok).2
 have s1:r.size<=40:=hs.ref
 have s2:s.size<=40:=hs.sender
 have hw:([(8,Ps.bw (opW k)),(40,r),wb Ps.sBy,(40,s)]:List SB).map st=Ps.jC Ps.bA {op:=k,sender:=s,ref:=r} os:=by
  show[st (8,Ps.bw (opW k)),st (40,r),st (wb Ps.sBy),st (40,s)]=_
  rw[dS s1,dS s2,ja,dS (by rcases hk with rfl|rfl|rfl<;>decide)]
  rcases hk with rfl|rfl|rfl<;>rfl
 have hz:(Ps.dI (([(8,Ps.bw (opW k)),(40,r),wb Ps.sBy,(40,s)]:List SB).map st)).size<=1024:=by rw[hw];rcases hk with rfl|rfl|rfl<;>exact hz
 rw[<-hw]
 unfold jg
 refine oM w _ a n c λW b hb hr hd hn h1 h2 h3=>?_
 have hR:RowsIn W W.heap.size 40 [] (bX w.heap.size {op:=k,sender:=s,ref:=r} (.slice a n c)):=⟨⟨rfl,.inl (Array.getElem?_eq_some_iff.1 hr).1,⟨_,hr⟩,zR (λx e=>by cases e) hs⟩,trivial⟩
 refine bY (M:=ptM W {op:=k,sender:=s,ref:=r} 0 (bX w.heap.size {op:=k,sender:=s,ref:=r} (.slice a n c))) (n:=35) (code:=ptC) (K:=[(1,.p 0 0),(2,.s (0,⟨#[]⟩)),(3,.v (.int .i64 0))]) (Ee hR) [2,3] (us:=[.s (2000,Ps.dI (([(8,Ps.bw (opW k)),(40,r),wb Ps.sBy,(40,s)]:List SB).map st)),.v (.int .i64 0)])
  (ps:=[ai W.heap.size W (Ev.az (bX w.heap.size {op:=k,sender:=s,ref:=r} (.slice a n c))) 30 [.a 0 0 28] (.val (.int .i64 0)),ai W.heap.size W (Ev.az (bX w.heap.size {op:=k,sender:=s,ref:=r} (.slice a n c))) 67 [.r 0 0] (.str 8 (Ps.bw (opW k))),ai W.heap.size W (Ev.az (bX w.heap.size {op:=k,sender:=s,ref:=r} (.slice a n c))) 69 [.sl [(8,Ps.bw (opW k)),(40,r),wb Ps.sBy,(40,s)],.s (1,⟨#[32]⟩)] (.str 2000 (Ps.dI (([(8,Ps.bw (opW k)),(40,r),wb Ps.sBy,(40,s)]:List SB).map st)))]) (by rcases hk with rfl|rfl|rfl<;>(show _=_;kernel_rfl))
  ⟨uH (x:=.agg (aA {op:=k,sender:=s,ref:=r} (.slice a n c))) om rfl λw' hw'=>hF.chk w' (hb.trans (hw'.mono hb.size)),spW F6 rfl rfl (GZ k (by omega) (hF.env.below hb)),yg (by show 0<4;decide) (by show 4<=1000;decide) (by omega),trivial⟩ (aI (aI (aI (bW hn hd) h3 rfl) h2 rfl) h1 rfl) (Sw.start _) ?_
 intro b w' _ hd hv hS
 refine AZ rfl hd hv ⟨?_,hb.trans ((cK rfl hS).mono hb.size)⟩
 rw[dS (by omega)]
theorem PS (w:World)(Q:Ps.Req)(a:Option Addr)(n c:Nat)(hF:PtF w Q a n c):jg w Q (.slice a n c) (Ps.dI (Ps.jC Ps.bA Q (Ps.kV Q.ins))) 0:=by
 obtain⟨_,_,h3⟩:=Ps.oz _ _ hF.ok
 rcases h3 with⟨_,hi,he⟩|⟨_,hm,he⟩|⟨hk,he⟩
 ·generalize Q.ins=i at he hi
  subst he
  exact pt_sub w i hi a n c hF
 ·rw[he]at hF⊢
  exact pt_amd w _ _ _ hm a n c _ hF
 ·rw[he]at hF⊢
  exact pt_op w _ hk _ _ a n c _ hF
theorem ld_req (g:Nat)(Q:Ps.Req)(lv:Value)(w:World)(h:w.heap[g]? =some (.cells (aA Q lv) 37 (0,0))):(Instr.loadAt 37 (.pointer (some ⟨g,0,none⟩))).run Tryz.prog w=.ok (.agg (aA Q lv)) w:=by
 have:=run_loadVar_row (P:=Tryz.prog) w g 37 37 (aA Q lv) (0,0) _ h Tryz.underlying37 rfl (by kernel_rfl)
 unfold Instr.loadAt
 simp[Instr.sureAddr,this]
theorem gH {P:Program}{ops:Array Oper}{Q:Exit->Act->World->Prop}{rest:List Oper}{o:Oper}{a:Act}{w:World}{t:TypeId}{x:Operand}{v u:Value}{d:Nat}(hw:Region.wanted o (yielded ops a.tmps)=true)(hd:o.dst=some d)(ho:o.op=.load t x)(hx:a.eval x=v)(hr:(Instr.loadAt t v).run P w=.ok u w)(h:wpList P ops Q rest ⟨a.tmps.setIfInBounds d u,a.defers⟩ w):wpList P ops Q (o::rest) a w:=by
 refine BigFrame.wpList_want hw λK hK=>?_
 unfold Oper.wp execOp
 rw[ho]
 simp only[hx,Sem.run_bind,hr,Result.andThen_ok]
 refine hK _ _ ?_
 rw[hd]
 exact h
open Go Go.RowKit
theorem Ps.parse_ok (E:Ps.Env)(check:Ps.Req->Int)(s:ByteArray)(h:(Ps.parse E check s).2.2=0):check (Ps.parse E check s).1=0:=by
 by_cases hs:s.size<=1024
 ·exact((Ps.Cg E check s hs).1 h).1
 ·exfalso
  have e:Lx.aL s=([],1024,5):=by unfold Lx.aL;rw[if_pos (by omega)]
  unfold Ps.parse at h
  rw[e,if_pos (by show¬(5:Int)=0;decide)]at h
  exact absurd h (by show¬(5:Int)=0;decide)
def vP (W:World)(s x:ByteArray)(e:Int):Prop:=Calls Tryz.prog 27 #[.string s] W λr W'=>r=.returned (.tuple #[.string x,.int .i64 e])/\Below W.heap.size W W'
noncomputable def cnT (Q:Ps.Req):ByteArray:=Ps.dI (Ps.jC Ps.bA Q (Ps.kV Q.ins))
noncomputable def cnS (s:ByteArray):ByteArray×Int:=if (Ps.parse bN psR s).2.2=0 then(cnT (Ps.parse bN psR s).1,0)else(⟨#[]⟩,(Ps.parse bN psR s).2.2)
theorem cn_bad (w:World)(s:ByteArray)(Q:Ps.Req)(o x:Int)(hx:(x !=0)=true)(m2:PrsC w s Q o x):vP w s ⟨#[]⟩ x:=by
 unfold vP
 have hst:=ni
 go_enter Tryz.func27,Tryz.ntmps27
 go_upto_region 2 with(go_at_call 16;refine m2.mono ?_;rintro e w2 ⟨a,n,c,rfl,hl2,hb2⟩;clear hl2)
 have HB3:Hid (Below w.heap.size w (w2.alloc (.cells (aA Q (.slice a n c)) 37))):=Lib.hid (hb2.alloc hb2.size _)
 generalize w2.alloc (.cells (aA Q (.slice a n c)) 37)=W3 at HB3⊢
 clear hb2 hst m2
 go_wp2_with fail
 go_ret2
 exact⟨rfl,HB3.out⟩
theorem Ox (w:World)(s:ByteArray)(Q:Ps.Req)(o:Int)(x:ByteArray)(m2:PrsC w s Q o 0)(m3:Hid (∀W B a n c,Below w.heap.size w W->bG W B (.slice a n c) Q.ins.links->jg W Q (.slice a n c) x 0)):vP w s x 0:=by
 unfold vP
 have hst:=ni
 go_enter Tryz.func27,Tryz.ntmps27
 go_upto_region 4 with(go_at_call 16;refine m2.mono ?_;rintro e w2 ⟨a,n,c,rfl,hl2,hb2⟩;have HL2:=Lib.hid hl2;have HB2:=Lib.hid hb2;clear hb2 hl2)
 obtain⟨g,hg⟩:∃g,g=w2.heap.size:=⟨_,rfl⟩
 obtain⟨W3,hW3⟩:∃W3,W3=w2.alloc (.cells (aA Q (.slice a n c)) 37):=⟨_,rfl⟩
 have HR3:Hid (W3.heap[g]? =some (.cells (aA Q (.slice a n c)) 37 (0,0))):=Lib.hid (by rw[hW3,hg];exact aC w2 _)
 have HB3:Hid (Below w.heap.size w W3):=Lib.hid (by rw[hW3];exact HB2.out.alloc HB2.out.size _)
 have HL3:Hid (bG W3 w.heap.size (.slice a n c) Q.ins.links):=Lib.hid (by rw[hW3];exact bG.below HL2.out ((Below.refl _ _).alloc (Nat.le_refl _) _))
 rw[<-hW3,<-hg]
 have m4:=m3.out W3 _ a n c HB3.out HL3.out
 unfold jg at m4
 clear hW3 hg HB2 HL2 HL3 hst m2 m3
 refine wp_region_lit ?_
 refine iO rfl rfl rfl rfl (ld_req g Q (.slice a n c) W3 HR3.out) ?_
 go_wp2_with (go_at_call 24;refine m4.mono ?_;rintro e w4 ⟨rfl,hb4⟩;have xC:=Lib.hid (HB3.out.trans (hb4.mono HB3.out.size));clear hb4 m4)
 go_ret2
 exact⟨rfl,xC.out⟩
theorem LU {m:Int}{kb ko kc:Nat}{w:World}(env:iW m kb ko kc w)(hE:iM w)(Q:Ps.Req)(hQ:psR Q=0)(W:World)(B:Nat)(a:Option Addr)(n c:Nat)(hW:Below w.heap.size w W)(hl:bG W B (.slice a n c) Q.ins.links):jg W Q (.slice a n c) (cnT Q) 0:=by
 refine PS W Q a n c ⟨hE.below hW,hQ,λW2 hW2=>?_,(CU hl).1,(CU hl).2⟩
 have env2:=env.below (hW.trans (hW2.mono hW.size))
 have:=ET env2.id (LF env2.id) W2 B Q a n c (Below.refl _ _) (hl.below hW2)
 rw[hQ]at this
 exact this
theorem FV {m:Int}{kb ko kc:Nat}{w:World}(env:iW m kb ko kc w)(hE:iM w)(s:ByteArray)(hs:s.size<=9223372036854775807)(W:World)(hW:Below w.heap.size w W):vP W s (cnS s).1 (cnS s).2:=by
 have hp:=prs_of env s hs W hW
 unfold cnS
 by_cases h:(Ps.parse bN psR s).2.2=0
 ·rw[if_pos h]
  rw[h]at hp
  exact Ox W s _ _ _ hp (Lib.hid λW2 B a n c hW2 hl=>LU env hE _ (Ps.parse_ok _ _ _ h) W2 B a n c (hW.trans (hW2.mono hW.size)) hl)
 ·rw[if_neg h]
  exact cn_bad W s _ _ _ (by simpa using h) hp
theorem ic_bad (w:World)(s x:ByteArray)(e:Int)(he:(e==0)=false)(m2:vP w s x e):Calls Tryz.prog 29 #[.string s] w λr W'=>r=.returned (.bool false)/\Below w.heap.size w W':=by
 unfold vP at m2
 go_enter Tryz.func29,Tryz.ntmps29
 go_wp2_with (go_at_call 27;refine m2.mono ?_;rintro r w2 ⟨rfl,hb⟩)
 go_ret
 exact⟨rfl,hb⟩
theorem Ph (w:World)(s x:ByteArray)(b:Bool)(hb:(x.toList==s.toList)=b)(m2:vP w s x 0):Calls Tryz.prog 29 #[.string s] w λr W'=>r=.returned (.bool b)/\Below w.heap.size w W':=by
 unfold vP at m2
 have HB:=Lib.hid hb
 go_enter Tryz.func29,Tryz.ntmps29
 go_wp2_with (go_at_call 27;refine m2.mono ?_;rintro r w2 ⟨rfl,hbl⟩)
 go_ret
 exact⟨rfl,hbl⟩
noncomputable def icS (s:ByteArray):Bool:=decide ((cnS s).2=0)&&((cnS s).1.toList==s.toList)
theorem Hu {m:Int}{kb ko kc:Nat}{w:World}(env:iW m kb ko kc w)(hE:iM w)(s:ByteArray)(hs:s.size<=9223372036854775807)(W:World)(hW:Below w.heap.size w W):Calls Tryz.prog 29 #[.string s] W λr W'=>r=.returned (.bool (icS s))/\Below W.heap.size W W':=by
 have hp:=FV env hE s hs W hW
 unfold icS
 by_cases h:(cnS s).2=0
 ·rw[h]at hp⊢
  rw[decide_eq_true rfl,Bool.true_and]
  exact Ph W s _ _ rfl hp
 ·rw[decide_eq_false h,Bool.false_and]
  exact ic_bad W s _ _ (by simpa using h) hp
theorem DX {Q:Ps.Req}(h:psR Q=0):cnS (cnT Q)=(cnT Q,0)/\Ps.parse bN psR (cnT Q)=(Q,0,0)/\(cnT Q).size<=1024:=by
 obtain⟨h1,h2⟩:=jE h
 refine⟨?_,h1,h2⟩
 unfold cnS
 rw[show Ps.parse bN psR (cnT Q)=(Q,0,0)from h1]
 rfl
def Aq:ByteArray:=⟨#[112,97,121,32,32,80,49,32,102,114,111,109,32,66,65,78,75,65,32,116,111,32,66,65,78,75,66,32,97,109,111,117,110,116,32,49,53,48,48,46,48,48,32,100,97,121,32,50,48,50,54,45,49,49,45,49,54,32,104,111,108,100,32,117,114,103,101,110,116,32,35,32,115,97,108,97,114,121]⟩
def vV:ByteArray:=⟨#[112,97,121,32,80,49,32,102,114,111,109,32,66,65,78,75,65,32,116,111,32,66,65,78,75,66,32,97,109,111,117,110,116,32,49,53,48,48,46,48,48,32,100,97,121,32,50,48,50,54,45,49,49,45,49,54,32,117,114,103,101,110,116,32,104,111,108,100]⟩
def kN:Ps.Req:=(Ps.parse bN psR Aq).1
theorem GX:(Ps.parse bN psR Aq).2.2=0:=by decide +kernel
theorem Lr:Ps.jC (λ_=>⟨#[50,48,50,54,45,49,49,45,49,54]⟩) kN (Ps.kV kN.ins)=[Ps.bw Ps.BO,⟨#[80,49]⟩,Ps.bw Ps.pV,⟨#[66,65,78,75,65]⟩,Ps.bw Ps.sTo,⟨#[66,65,78,75,66]⟩,Ps.bw Ps.bE,⟨#[49,53,48,48,46,48,48]⟩,Ps.bw Ps.dU,⟨#[50,48,50,54,45,49,49,45,49,54]⟩,Ps.bw (Ps.fB 2),Ps.bw Ps.bK]:=by decide +kernel
theorem Ih:Ps.bA 9816=⟨#[50,48,50,54,45,49,49,45,49,54]⟩:=by
 have h:Ps.IsC 9816 2026 11 16:=by unfold Ps.IsC;decide +kernel
 rw[Ps.vg h]
 decide +kernel
theorem kn20_p:kN.op=0/\kN.ins.kind=0/\kN.ins.settleDay=9816:=by decide +kernel
theorem Lj:cnT kN=vV:=by
 obtain⟨h1,h2,h3⟩:=kn20_p
 have e:Ps.jC Ps.bA kN (Ps.kV kN.ins)=Ps.jC (λ_=>⟨#[50,48,50,54,45,49,49,45,49,54]⟩) kN (Ps.kV kN.ins):=by
  unfold Ps.jC Ps.ry
  rw[if_pos h1,if_pos h1,if_neg (by omega),if_pos h2,if_neg (by omega),if_pos h2,h3,Ih]
 unfold cnT
 rw[e,Lr]
 decide +kernel
theorem O8:cnS Aq=(vV,0):=by
 unfold cnS
 rw[if_pos GX]
 show(cnT kN,(0:Int))=_
 rw[Lj]
theorem Pe:(vV.toList==([112,97,121,32,80,49,32,102,114,111,109,32,66,65,78,75,65,32,116,111,32,66,65,78,75,66,32,97,109,111,117,110,116,32,49,53,48,48,46,48,48,32,100,97,121,32,50,48,50,54,45,49,49,45,49,54,32,117,114,103,101,110,116,32,104,111,108,100]:List UInt8))=true:=by decide +kernel
theorem JW (w:World)(m1:vP w Aq vV 0)(m2:∀W,Below w.heap.size w W->Calls Tryz.prog 29 #[.string vV] W λr W'=>r=.returned (.bool true)/\Below W.heap.size W W'):Calls Tryz.prog 22 #[] w λr W'=>r=.returned (.bool true)/\Below w.heap.size w W':=by
 unfold vP at m1
 have hk:=Pe
 go_enter Tryz.func22,Tryz.ntmps22
 go_upto_region 2 with(go_at_call 27;refine m1.mono ?_;rintro r w2 ⟨rfl,hb⟩;have HB:=Lib.hid hb;clear hb m1)
 go_wp2_with (go_at_call 29;refine(m2 _ HB.out).mono ?_;rintro r w3 ⟨rfl,hb2⟩;have HB2:=Lib.hid (HB.out.trans (hb2.mono HB.out.size));clear hb2)
 go_ret
 exact⟨rfl,HB2.out⟩
theorem Nh {Q:Ps.Req}(h:psR Q=0):icS (cnT Q)=true:=by
 unfold icS
 rw[(DX h).1]
 generalize cnT Q=z
 show(decide ((0:Int)=0)&&(z.toList==z.toList))=true
 rw[beq_self_eq_true]
 rfl
theorem kn20 {m:Int}{kb ko kc:Nat}{w:World}(env:iW m kb ko kc w)(hE:iM w):Calls Tryz.prog 22 #[] w λr W'=>r=.returned (.bool true)/\Below w.heap.size w W':=by
 have hc:=FV env hE Aq (by decide) w (Below.refl _ _)
 rw[O8]at hc
 have hi:=λW hW=>Hu env hE vV (by decide) W hW
 have hq:psR kN=0:=Ps.parse_ok _ _ _ GX
 have hb:icS vV=true:=by
  rw[<-Lj]
  exact Nh hq
 rw[hb]at hi
 exact JW w hc hi
abbrev KnC (w:World):Prop:=Hid (∀W,Below w.heap.size w W->Calls Tryz.prog 22 #[] W λe W'=>e=.returned (.bool true)/\Below W.heap.size W W')
theorem aX {P:Program}{ops:Array Oper}{Q:Exit->Act->World->Prop}{rest:List Oper}{o:Oper}{a:Act}{w:World}{f:FuncId}{xs:Array Operand}{ts:Array TypeId}{d:Nat}{R:Ending->World->Prop}(hw:Region.wanted o (yielded ops a.tmps)=true)(hd:o.dst=some d)(ho:o.op=.call ⟨.value (.func f),xs,ts⟩)
 (he:∀args w,(callFunc f args).run P w=.ok (.enter f args) w) {vs:List Value} (hx:xs.toList.map a.eval=vs) (hc:Calls P f vs.toArray w R) (h:∀e w',R e w'->∃v,e=.returned v/\wpList P ops Q rest ⟨a.tmps.setIfInBounds d v,a.defers⟩ w'):wpList P ops Q (o::rest) a w:=by
 refine BigFrame.wpList_want hw λK hK=>?_
 have hf:a.eval (.func f)=.func (.func f) #[] #[]:=rfl
 have hrun:(execOp a.eval o).run P w=.ok (.enter f vs.toArray) w:=by
  have hargs:xs.map a.eval=vs.toArray:=by
   rw[<-hx]
   apply Array.toList_inj.1
   simp
  unfold execOp
  simp[ho,resolve,invoke,hf,hargs,Deferred.ofValue,he]
 unfold Oper.wp
 rw[hrun,Oper.upon_enter]
 refine hc.mono λe w' hr=>?_
 obtain⟨v,rfl,hv⟩:=h e w' hr
 refine hK _ _ ?_
 rw[hd]
 exact hv
theorem lM:∀args w,(callFunc 22 args).run Tryz.prog w=.ok (.enter 22 args) w:=enters_of Tryz.func22 (by kernel_rfl) rfl
theorem eH:∀args w,(callFunc 23 args).run Tryz.prog w=.ok (.enter 23 args) w:=enters_of Tryz.func23 (by kernel_rfl) rfl
theorem gy:∀args w,(callFunc 25 args).run Tryz.prog w=.ok (.enter 25 args) w:=enters_of Tryz.func25 (by kernel_rfl) rfl
theorem iU:∀args w,(callFunc 24 args).run Tryz.prog w=.ok (.enter 24 args) w:=enters_of Tryz.func24 (by kernel_rfl) rfl
theorem cB (g:Nat)(Q:Ps.Req)(lv:Value)(w:World)(h:w.heap[g]? =some (.cells (aA Q lv) 28 (0,0))):(Instr.loadAt 28 (.pointer (some ⟨g,0,none⟩))).run Tryz.prog w=.ok (.agg (aA Q lv)) w:=by
 have:=run_loadVar_row (P:=Tryz.prog) w g 28 28 (aA Q lv) (0,0) _ h Tryz.underlying28 rfl (by kernel_rfl)
 unfold Instr.loadAt
 simp[Instr.sureAddr,this]
theorem Dk {i:Ps.Ins}{lv:Value}(hl:∀x,lv≠.string x)(h:xE i):∀x,Value.string x∈aB i lv->x.size<=100:=λx hx=>by
 unfold aB at hx
 simp at hx
 rcases hx with rfl|rfl|rfl|rfl|e
 ·exact h.ref
 ·exact h.sender
 ·exact h.cp
 ·exact h.asset
 ·exact absurd e.symm (hl x)
theorem FC {Q:Ps.Req}{lv:Value}(hl:∀x,lv≠.string x)(h:kG Q):∀x,Value.string x∈mX Q lv->x.size<=100:=λx hx=>by
 unfold mX at hx
 rcases List.mem_append.1 hx with hx|hx
 ·rcases List.mem_append.1 hx with hx|hx
  ·simp at hx
   rcases hx with rfl|rfl
   ·exact h.sender
   ·exact h.ref
  ·exact Dk hl h.ins x hx
 ·unfold aH at hx
  simp at hx
noncomputable def pbM (W:World)(g:Nat)(Q:Ps.Req)(lv:Value)(e:Int):Mem:={seW W.heap.size W [] 100 (bX g Q lv) (QP Q e)with tst:=λt=>if t=9 then some true else none}
theorem Kz (w:World)(Q:Ps.Req)(e:Int)(he:e≠0)(a:Option Addr)(n c:Nat)(hs:kG Q)(hc:∀W,Below w.heap.size w W->Calls Tryz.prog 30 #[.agg (aA Q (.slice a n c))] W λr W'=>r=.returned (.int .i64 e)/\Below W.heap.size W W'):jg w Q (.slice a n c) ⟨#[]⟩ e:=by
 unfold jg
 refine oM w Q a n c λW b hb hr hd hn h1 h2 h3=>?_
 have hgW:w.heap.size<W.heap.size:=(Array.getElem?_eq_some_iff.1 hr).1
 have hr0:=gQ hr
 have hO:Ok Tryz.prog (pbM W w.heap.size Q (.slice a n c) e):=(wL (Nat.le_refl _) (λg hg=>by cases hg) (λk g' o l hk=>by
  rcases k with _|_|k
  ·cases hk;exact⟨.inl hgW,hr0⟩
  ·cases hk
  ·cases hk) (λk p l hk=>by
  rcases k with _|_|k
  ·cases hk;exact FC (λx e=>by cases e) hs
  ·cases hk
  ·cases hk)).withTst
 refine bY (M:=pbM W w.heap.size Q (.slice a n c) e) (n:=35) (code:=ptC) (K:=[(1,.p 0 0),(2,.s (0,⟨#[]⟩)),(3,.v (.int .i64 0))]) hO [2,3] (us:=[.s (0,⟨#[]⟩),.v (.int .i64 e)])
  (ps:=[ai W.heap.size W (Ev.az (bX w.heap.size Q (.slice a n c))) 30 [.a 0 0 28] (.val (.int .i64 e)),(!decide (e=0))=true]) (by kernel_rfl)
  ⟨uH (x:=.agg (aA Q (.slice a n c))) om rfl λw' hw'=>hc w' (hb.trans (hw'.mono hb.size)),by simpa using he,trivial⟩ (aI (aI (aI (bW hn hd) h3 rfl) h2 rfl) h1 rfl) (Sw.start _) ?_
 intro b w' _ hd hv hS
 exact AZ rfl hd hv ⟨rfl,hb.trans ((cK rfl hS).mono hb.size)⟩
def uw:List Nat->Bool
 |[]=>true
 |x::l=>!l.contains x&&uw l
def FP (ops:Array Oper):List Nat:=ops.toList.filterMap (·.dst)
def okX (n:Nat)(ops:Array Oper)(ks:List Nat):Bool:=cZ ops&&(uw (FP ops)&&((FP ops).all (λd=>decide (d<n))&&ks.all λk=>!(FP ops).contains k))
theorem xU:∀{l:List Oper} {i j:Nat} {oi oj:Oper} {d:Nat},uw (l.filterMap (·.dst))=true->l[i]? =some oi->l[j]? =some oj->oi.dst=some d->oj.dst=some d->i=j
 |[],_,_,_,_,_,_,h,_,_,_=>by cases h
 |x::l,i,j,oi,oj,d,hn,hi,hj,h1,h2=>by
  have hmem:∀{k:Nat} {o:Oper},l[k]? =some o->o.dst=some d->d∈l.filterMap (·.dst):=λ{k o} hk hd=>List.mem_filterMap.2 ⟨o,List.mem_of_getElem? hk,hd⟩
  have hrec:uw (l.filterMap (·.dst))=true/\(x.dst=some d->d∉l.filterMap (·.dst)):=by
   cases hx:x.dst with
   |none=>rw[List.filterMap_cons,hx]at hn;exact⟨hn,λh=>by cases h⟩
   |some dx=>
    rw[List.filterMap_cons,hx]at hn
    unfold uw at hn
    rw[Bool.and_eq_true]at hn
    refine⟨hn.2,λh=>?_⟩
    cases h
    have:=hn.1
    simpa using this
  rcases i with _|i
  ·rcases j with _|j
   ·rfl
   ·cases hi
    exact absurd (hmem (by simpa using hj) h2) (hrec.2 h1)
  ·rcases j with _|j
   ·cases hj
    exact absurd (hmem (by simpa using hi) h1) (hrec.2 h2)
   ·exact congrArg (· +1) (xU hrec.1 (by simpa using hi) (by simpa using hj) h1 h2)
section
variable {ops : Array Oper} {Q : Exit → Act → World → Prop} {n id : Nat} {dr : Bool} {a : Act} {w W0 : World} {K : List (Nat × Value)} {F : Nat → Value → World → Prop}
structure InvX (W0:World)(K:List (Nat×Value))(F:Nat->Value->World->Prop)(ops:Array Oper)(n:Nat)(dn:Nat->Bool)(a:Act)(w:World):Prop where
 size:a.tmps.size=n
 defers:a.defers=[]
 below:Below W0.heap.size W0 w
 known:∀t v,(t,v)∈K->a.tmps[t]? =some v
 done:∀j oj d,ops[j]? =some oj->oj.dst=some d->dn j=true->∃v,a.tmps[d]? =some v/\F j v w
theorem zZ (hok:okX n ops (K.map (·.1))=true)(hF:∀i v w w',F i v w->Below w.heap.size w w'->F i v w')
 (h0:a.tmps.size=n) (h1:a.defers=[]) (h2:Below W0.heap.size W0 w) (h3:∀t v,(t,v)∈K->a.tmps[t]? =some v)
 (hstep:∀i o (a:Act) w,ops[i]? =some o->Below W0.heap.size W0 w->(∀t v,(t,v)∈K->a.eval (.tmp t)=v)->(∀j oj d,j<i->ops[j]? =some oj->oj.dst=some d->d∈o.looksAt ops->F j (a.eval (.tmp d)) w)->∀K',(∀v w',F i v w'->Below w.heap.size w w'->K' (a.put o.dst v) w')->wpOp Tryz.prog ops Q i K' a w)
 (hend:∀(b:Act) w',InvX W0 K F ops n (λ_=>true) b w'->Q .normal b w'):(Code.region id ops dr).wp Tryz.prog Q a w:=by
 unfold okX at hok
 rw[Bool.and_eq_true,Bool.and_eq_true,Bool.and_eq_true]at hok
 obtain⟨hd,hnd,hlt,hks⟩:=hok
 have hn:∀(i j:Nat) (oi oj:Oper) (d:Nat),ops[i]? =some oi->ops[j]? =some oj->oi.dst=some d->oj.dst=some d->i=j:=λi j oi oj d hi hj e1 e2=>xU hnd (by simpa using hi) (by simpa using hj) e1 e2
 have hdl:∀(i:Nat) (oi:Oper) (d:Nat),ops[i]? =some oi->oi.dst=some d->d<n/\d∉K.map (·.1):=λi oi d hi e=>by
  have hm:d∈FP ops:=List.mem_filterMap.2 ⟨oi,List.mem_of_getElem? (i:=i) (by simpa using hi),e⟩
  refine⟨by simpa using List.all_eq_true.1 hlt d hm,λhk=>?_⟩
  have:=List.all_eq_true.1 hks d hk
  simp only[Bool.not_eq_true']at this
  exact Bool.noConfusion ((List.contains_iff_mem.2 hm).symm.trans this)
 refine mg rfl hd (InvX W0 K F ops n) ?_ ?_ ?_
 ·cases dr with
  |true=>exact⟨h0,h1,h2.drew,h3,λj oj d _ _ h=>(by cases h)⟩
  |false=>exact⟨h0,h1,h2,h3,λj oj d _ _ h=>(by cases h)⟩
 ·intro dn i o b w' hi hu ha hC hI
  refine hstep i o b w' hi hI.below (λt v ht=>eval_at (hI.known t v ht)) (λj oj d hji hj hjd hl=>?_) _ λv w2 hv hb=>?_
  ·rcases looks_at hd hi hu ha hC hl with⟨k,ok,hk,hok,hkd,hdn⟩|⟨_,hno⟩
   ·obtain rfl:=hn _ _ _ _ _ hj hok hjd hkd
    obtain⟨v,e1,e2⟩:=hI.done j oj d hj hjd hdn
    rw[eval_at e1]
    exact e2
   ·exact absurd hjd (hno j oj hji hj)
  ·have hput:∀d:Nat,o.dst≠some d->(b.put o.dst v).tmps[d]? =b.tmps[d]?:=λd hne=>by
    unfold Act.put
    split
    ·rename_i d2 e2
     show(b.tmps.setIfInBounds d2 v)[d]? =_
     rw[Array.getElem?_setIfInBounds_ne]
     rintro rfl
     exact hne e2
    ·rfl
   refine⟨?_,?_,hI.below.trans (hb.mono hI.below.size),λt u ht=>?_,λj oj d hj hjd hdn=>?_⟩
   ·rw[<-hI.size]
    unfold Act.put
    split
    ·show(b.tmps.setIfInBounds _ v).size=_
     simp
    ·rfl
   ·rw[<-hI.defers]
    unfold Act.put
    split<;>rfl
   ·rw[hput t (λh=>(hdl i o t hi h).2 (List.mem_map.2 ⟨_,ht,rfl⟩))]
    exact hI.known t u ht
   ·by_cases hji:j=i
    ·subst hji
     rw[hi]at hj
     cases hj
     refine⟨v,?_,hv⟩
     unfold Act.put
     rw[hjd]
     show(b.tmps.setIfInBounds d v)[d]? =_
     rw[Array.getElem?_setIfInBounds_self_of_lt (by rw[hI.size];exact(hdl _ _ _ hi hjd).1)]
    ·have hdn':dn j=true:=by
      have h:(dn j||j==i)=true:=hdn
      rw[Bool.or_eq_true,beq_iff_eq]at h
      exact h.resolve_right hji
     obtain⟨u,e1,e2⟩:=hI.done j oj d hj hjd hdn'
     exact⟨u,(hput d (λh=>hji (hn _ _ _ _ _ hj hi hjd h))).trans e1,hF _ _ _ _ e2 hb⟩
 ·intro dn b w' hall hI
  exact hend b w' ⟨hI.size,hI.defers,hI.below,hI.known,λj oj d hj hjd _=>hI.done j oj d hj hjd (hall j (Array.getElem?_eq_some_iff.1 hj).1)⟩
theorem zu {i:Nat}{o:Oper}{u:Value}{K':Act->World->Prop}(hi:ops[i]? =some o)(hw:o.guard=none)(hrun:(execOp a.eval o).run Tryz.prog w=.ok (.value u) w)(h:K' (a.put o.dst u) w):wpOp Tryz.prog ops Q i K' a w:=by
 unfold wpOp
 rw[hi]
 have hwt:Region.wanted o (yielded ops a.tmps)=true:=by unfold Region.wanted;rw[hw]
 simp only[hwt,if_true]
 left
 unfold Oper.wp
 rw[hrun]
 exact h
theorem FW {i:Nat}{o:Oper}{t:TypeId}{x:Operand}{v u:Value}{K':Act->World->Prop}(hi:ops[i]? =some o)(hw:o.guard=none)(ho:o.op=.load t x)(hx:a.eval x=v)(hr:(Instr.loadAt t v).run Tryz.prog w=.ok u w)(h:K' (a.put o.dst u) w):wpOp Tryz.prog ops Q i K' a w:=by
 refine zu hi hw ?_ h
 unfold execOp
 rw[ho]
 simp only[hx,Sem.run_bind,hr,Result.andThen_ok]
 rfl
theorem F8 {i:Nat}{o:Oper}{x:Operand}{u:Value}{K':Act->World->Prop}(hi:ops[i]? =some o)(hw:o.guard=none)(ho:o.op=.move x)(hx:a.eval x=u)(h:K' (a.put o.dst u) w):wpOp Tryz.prog ops Q i K' a w:=by
 refine zu hi hw ?_ h
 unfold execOp
 rw[ho]
 simp only[hx]
 rfl
theorem wo_asg {i:Nat}{o:Oper}{x:Operand}{u:Value}{K':Act->World->Prop}(hi:ops[i]? =some o)(hw:o.guard=none)(ho:o.op=.assign x)(hx:a.eval x=u)(h:K' (a.put o.dst u) w):wpOp Tryz.prog ops Q i K' a w:=by
 refine zu hi hw ?_ h
 unfold execOp
 rw[ho]
 simp only[hx]
 rfl
theorem K7 {i:Nat}{o:Oper}{b:BinOp}{t t2:TypeId}{x y:Operand}{u v r:Value}{K':Act->World->Prop}(hi:ops[i]? =some o)(hw:o.guard=none)(ho:o.op=.binOp b t x y t2)(hx:a.eval x=u)(hy:a.eval y=v)(hr:(do eqGuard b t x y u v;binOp b t u v:Sem Value).run Tryz.prog w=.ok r w)(h:K' (a.put o.dst r) w):wpOp Tryz.prog ops Q i K' a w:=by
 refine zu hi hw ?_ h
 unfold execOp
 rw[ho]
 simp only[hx,hy]
 simp only[Sem.run_bind]at hr⊢
 generalize (eqGuard b t x y u v).run Tryz.prog w=z at hr⊢
 cases z with
 |ok z w'=>
  simp only[Result.andThen_ok]at hr⊢
  rw[hr]
  rfl
 |halt z w'=>cases hr
theorem y7 {i:Nat}{o:Oper}{f:FuncId}{xs:Array Operand}{ts:Array TypeId}{vs:List Value}{R:Ending->World->Prop}{K':Act->World->Prop}(hi:ops[i]? =some o)(hw:o.guard=none)(ho:o.op=.call ⟨.value (.func f),xs,ts⟩)
 (he:∀args w,(callFunc f args).run Tryz.prog w=.ok (.enter f args) w) (hx:xs.toList.map a.eval=vs) (hc:Calls Tryz.prog f vs.toArray w R) (h:∀e w',R e w'->∃v,e=.returned v/\K' (a.put o.dst v) w'):wpOp Tryz.prog ops Q i K' a w:=by
 unfold wpOp
 rw[hi]
 have hwt:Region.wanted o (yielded ops a.tmps)=true:=by unfold Region.wanted;rw[hw]
 simp only[hwt,if_true]
 left
 have hf:a.eval (.func f)=.func (.func f) #[] #[]:=rfl
 have hrun:(execOp a.eval o).run Tryz.prog w=.ok (.enter f vs.toArray) w:=by
  have hargs:xs.map a.eval=vs.toArray:=by
   rw[<-hx]
   apply Array.toList_inj.1
   simp
  unfold execOp
  simp[ho,resolve,invoke,hf,hargs,Deferred.ofValue,he]
 unfold Oper.wp
 rw[hrun,Oper.upon_enter]
 refine hc.mono λe w' hr=>?_
 obtain⟨v,rfl,hv⟩:=h e w' hr
 exact hv
end
theorem Lg (w:World)(ka kb:Option Addr)(n m c d:Nat)(h:¬(n:Int)=(m:Int))(_hc:n<=c)(_hd:m<=d):
 Calls Tryz.prog 83 #[.slice ka n c,.slice kb m d] w λe w'=>e=.returned (.bool false)/\Below w.heap.size w w':=by
 go_enter Tryz.func83,Tryz.ntmps83
 go_wp2_with fail
 go_ret
 exact⟨rfl,Below.refl _ _⟩
theorem lk_eqL (eL:Bool)(w:World)(ka kb:Option Addr)(n c d:Nat)(ks ls:List Ps.Link)(hn:n=ks.length)(hm:n=ls.length)(hl:n<=1000)(_hc:n<=c)(_hd:n<=d)(h1:Hid (0<n->∃sb,ka=some ⟨sb,0,none⟩/\jX w sb ks))(h2:Hid (0<n->∃sb,kb=some ⟨sb,0,none⟩/\jX w sb ls))(hE:Hid (eL=true↔ks=ls)):
 Calls Tryz.prog 83 #[.slice ka n c,.slice kb n d] w λe w'=>e=.returned (.bool eL)/\Below w.heap.size w w':=by
 have HN:=Lib.hid hn
 have HM:=Lib.hid hm
 clear hn hm
 go_enter Tryz.func83,Tryz.ntmps83
 go_wp2_with fail
 go_loopw [5,13] (λ_ iv wr=>∃k:Nat,iv=.int .i64 k/\k<=n/\Hid (ks.take k=ls.take k)/\∃q,wr=w.drewN q) (λ_ iv _=>2000-(RowKit.intOf iv).toNat)
 case atStart=>exact⟨0,rfl,Nat.zero_le _,Lib.hid (by simp),0,rfl⟩
 case round=>
  obtain⟨k,rfl,hk,HT,q,rfl⟩:=hrel
  by_cases hlt:k<n
  ·obtain⟨sb,rfl,r1⟩:=h1.out (by omega)
   obtain⟨tb,rfl,r2⟩:=h2.out (by omega)
   obtain⟨x,hx⟩:∃x,ks[k]? =some x:=⟨_,List.getElem?_eq_getElem (by rw[<-HN.out];exact hlt)⟩
   obtain⟨y,hy⟩:∃y,ls[k]? =some y:=⟨_,List.getElem?_eq_getElem (by rw[<-HM.out];exact hlt)⟩
   obtain⟨y0',y1'⟩:=r1 k x hx
   obtain⟨z0',z1'⟩:=r2 k y hy
   obtain⟨wq,hwq⟩:∃wq,wq=w.drewN q:=⟨_,rfl⟩
   have y0:wq.cell? ⟨sb,k*2,none⟩=some (.int .i64 x.type):=by rw[hwq];exact y0'
   have y1:wq.cell? ⟨sb,k*2+1,none⟩=some (.string x.ref):=by rw[hwq];exact y1'
   have z0:wq.cell? ⟨tb,k*2,none⟩=some (.int .i64 y.type):=by rw[hwq];exact z0'
   have z1:wq.cell? ⟨tb,k*2+1,none⟩=some (.string y.ref):=by rw[hwq];exact z1'
   rw[<-hwq]
   have HWQ:=Lib.hid hwq
   have ww:(k:Int)<(n:Int):=by omega
   have hw1:wrap64 ((k:Int)+1)=((k+1:Nat):Int):=by unfold wrap64;omega
   have Pn:Hid (x≠y->ks≠ls):=Lib.hid (λh e=>by rw[e,hy]at hx;exact h (Option.some.inj hx).symm)
   have HTE:Hid (x=y->ks.take (k+1)=ls.take (k+1)):=Lib.hid (λh=>by rw[List.take_add_one,List.take_add_one,HT.out,hx,hy,h])
   clear y0' y1' z0' z1' hwq r1 r2 hx hy h1 h2 HN HM HT
   obtain⟨xt,xr⟩:=x
   obtain⟨yt,yr⟩:=y
   dsimp only at y0 y1 z0 z1
   by_cases ht:xt=yt
   ·subst ht
    by_cases hr:xr=yr
    ·subst hr
     have HT2:=Lib.hid (HTE.out rfl)
     clear HTE Pn
     go_wp2_with fail
     go_quiet (fail)
     go_wp2_with fail
     refine⟨⟨k+1,by first|rfl|go_num,hlt,HT2,?_⟩,by simp[RowKit.intOf]<;>omega⟩
     rw[HWQ.out]
     first|exact⟨_,rfl⟩|exact⟨_,World.drewN_drewN _ _ _⟩
    ·have hb:(xr.toList==yr.toList)=false:=by
      rw[beq_eq_false_iff_ne]
      intro e
      refine hr ?_
      rw[Lib.toList_data,Lib.toList_data]at e
      exact ByteArray.ext (Array.toList_inj.1 e)
     obtain rfl:eL=false:=by
      have:=Pn.out λe=>hr (Ps.Link.mk.inj e).2
      cases eL with
      |false=>rfl
      |true=>exact absurd (hE.out.1 rfl) this
     clear hr Pn HTE hE
     go_wp2_with fail
     go_quiet (fail)
     go_wp2_with fail
     go_ret
     refine⟨rfl,?_⟩
     rw[HWQ.out]
     first|exact below_drewN' (below_drewN' (Below.refl _ _) _) _|exact below_drewN' (Below.refl _ _) _
   ·have hb:(xt==yt)=false:=by rw[beq_eq_false_iff_ne];exact ht
    obtain rfl:eL=false:=by
     have:=Pn.out λe=>ht (Ps.Link.mk.inj e).1
     cases eL with
     |false=>rfl
     |true=>exact absurd (hE.out.1 rfl) this
    clear Pn HTE hE
    go_wp2_with fail
    go_quiet (fail)
    go_wp2_with fail
    go_ret
    refine⟨rfl,?_⟩
    rw[HWQ.out]
    first|exact below_drewN' (below_drewN' (Below.refl _ _) _) _|exact below_drewN' (Below.refl _ _) _
  ·have ww:¬(k:Int)<(n:Int):=by omega
   obtain rfl:eL=true:=hE.out.2 (by
    obtain rfl:k=n:=by omega
    have:=HT.out
    rwa [List.take_of_length_le (by rw[HN.out];exact Nat.le_refl _),List.take_of_length_le (by rw[HM.out];exact Nat.le_refl _)]at this)
   clear h1 h2 HN HM HT hE
   go_wp2_with fail
   go_ret
   exact⟨rfl,below_drewN' (Below.refl _ _) _⟩
theorem EB (a b:ByteArray):((a.toList==b.toList)=true)=(a=b):=by
 rw[beq_iff_eq,Lib.toList_data,Lib.toList_data]
 refine propext ⟨λh=>?_,λh=>by rw[h]⟩
 have:=Array.toList_inj.1 h
 obtain⟨x⟩:=a
 obtain⟨y⟩:=b
 exact congrArg ByteArray.mk this
theorem C8 (i j:Ps.Ins)(eL:Bool)(h:eL=true↔i.links=j.links):jq i j eL=true↔i=j:=by
 unfold jq
 simp only[Bool.and_eq_true,EB,h]
 obtain⟨a0,a1,a2,a3,a4,a5,a6,a7,a8,a9,a10,a11,a12,a13,a14,a15⟩:=i
 obtain⟨b0,b1,b2,b3,b4,b5,b6,b7,b8,b9,b10,b11,b12,b13,b14,b15⟩:=j
 simp only[beq_iff_eq,Ps.Ins.mk.injEq,and_assoc]
theorem EJ (i j:Ps.Amd):lI i j=true↔i=j:=by
 unfold lI
 obtain⟨a0,a1,a2,a3,a4,a5,a6,a7,a8⟩:=i
 obtain⟨b0,b1,b2,b3,b4,b5,b6,b7,b8⟩:=j
 simp only[Bool.and_eq_true,beq_iff_eq,Ps.Amd.mk.injEq,and_assoc]
theorem I5 (w:World)(Q P:Ps.Req)(B B':Nat)(a b:Option Addr)(n c m d:Nat)(eq:Bool)(he:eq=true↔Q=P)(hl:Q.ins.links.length<=1000)(h1:bG w B (.slice a n c) Q.ins.links)(h2:bG w B' (.slice b m d) P.ins.links):
 Calls Tryz.prog 20 #[.agg (aA Q (.slice a n c)),.agg (aA P (.slice b m d))] w λe w'=>e=.returned (.bool eq)/\Below w.heap.size w w':=by
 obtain⟨hn,hc⟩:=zo h1
 obtain⟨hm,hd⟩:=zo h2
 obtain⟨eL,hL⟩:∃eL:Bool,eL=true↔Q.ins.links=P.ins.links:=⟨@decide _ (Classical.propDecidable _),@decide_eq_true_iff _ (Classical.propDecidable _)⟩
 have key:=Pp w Q P a b n c m d (jq Q.ins P.ins eL) λW hW=>yP W Q.ins P.ins a b n c m d eL λw' hw'=>?_
 ·have e:((Q.op==P.op)&&(Q.sender.toList==P.sender.toList)&&(Q.ref.toList==P.ref.toList)&&jq Q.ins P.ins eL&&lI Q.amd P.amd)=eq:=by
   rw[Bool.eq_iff_iff,he]
   simp only[Bool.and_eq_true,EB,C8 _ _ _ hL,EJ]
   obtain⟨a0,a1,a2,a3,a4⟩:=Q
   obtain⟨b0,b1,b2,b3,b4⟩:=P
   simp only[beq_iff_eq,Ps.Req.mk.injEq,and_assoc]
  rw[e]at key
  exact key
 ·have hW':=hW.trans (hw'.mono hW.size)
  by_cases hmn:n=m
  ·subst hmn
   refine lk_eqL eL w' a b n c d Q.ins.links P.ins.links hn hm (by omega) hc hd (Lib.hid λhp=>?_) (Lib.hid λhp=>?_) (Lib.hid hL)
   ·obtain⟨sb,e,h⟩:=zA h1 hp
    exact⟨sb,e,h w' hW'⟩
   ·obtain⟨sb,e,h⟩:=zA h2 hp
    exact⟨sb,e,h w' hW'⟩
  ·have:eL=false:=by
    cases eL with
    |false=>rfl
    |true=>exact absurd (by rw[hn,hm,hL.1 rfl]) hmn
   subst this
   exact Lg w' a b n m c d (by omega) hc hd
def ijF (Q P:Ps.Req)(sa:Option Addr)(sn sc:Nat)(ua:Option Addr)(un uc:Nat)(S T:ByteArray)(eq:Bool):Nat->Value->World->Prop
 |0,v,_=>v=.string S
 |1,v,_=>v=.string T
 |2,v,_=>v=.bool eq
 |3,v,_=>v=.agg (aA Q (.slice sa sn sc))
 |4,v,w=>∃B a c,v=.agg (aA Q (.slice a sn c))/\bG w B (.slice a sn c) Q.ins.links
 |5,v,_=>v=.agg (aA P (.slice ua un uc))
 |6,v,w=>∃B a c,v=.agg (aA P (.slice a un c))/\bG w B (.slice a un c) P.ins.links
 |7,v,_=>v=.bool eq
 |_,v,_=>v=.bool true
theorem Gt {Q P:Ps.Req}{sa:Option Addr}{sn sc:Nat}{ua:Option Addr}{un uc:Nat}{S T:ByteArray}{eq:Bool}(i:Nat)(v:Value)(w w':World)(h:ijF Q P sa sn sc ua un uc S T eq i v w)(hb:Below w.heap.size w w'):ijF Q P sa sn sc ua un uc S T eq i v w':=by
 rcases i with _|_|_|_|_|_|_|_|i
 ·exact h
 ·exact h
 ·exact h
 ·exact h
 ·obtain⟨B,a,c,h1,h2⟩:=h;exact⟨B,a,c,h1,h2.below hb⟩
 ·exact h
 ·obtain⟨B,a,c,h1,h2⟩:=h;exact⟨B,a,c,h1,h2.below hb⟩
 ·exact h
 ·exact h
theorem ij_eqs (S T:ByteArray)(w:World){eq:Bool}(h:(S.toList==T.toList)=eq){x y:Operand}:(do eqGuard .eql 9 x y (.string S) (.string T);binOp .eql 9 (.string S) (.string T):Sem Value).run Tryz.prog w=.ok (.bool eq) w:=by
 subst h
 go_simp
theorem ij_eqb (eq:Bool)(w:World){x y:Operand}:(do eqGuard .eql 4 x y (.bool eq) (.bool eq);binOp .eql 4 (.bool eq) (.bool eq):Sem Value).run Tryz.prog w=.ok (.bool true) w:=by
 have h:(eq==eq)=true:=by simp
 go_simp
theorem IE:∀args w,(callFunc 20 args).run Tryz.prog w=.ok (.enter 20 args) w:=enters_of Tryz.func20 (by kernel_rfl) rfl
theorem ij_no1 (w:World)(Q P:Ps.Req)(sa:Option Addr)(sn sc:Nat)(ua:Option Addr)(un uc:Nat)(m1:KnC w)(m2:Hid (∀W,Below w.heap.size w W->Calls Tryz.prog 23 #[.agg (aA Q (.slice sa sn sc))] W λe W'=>e=.returned (.bool false)/\Below W.heap.size W W')):
 Calls Tryz.prog 8 #[.agg (aA Q (.slice sa sn sc)),.agg (aA P (.slice ua un uc))] w λe W'=>e=.returned (.bool true)/\Below w.heap.size w W':=by
 have pJ:=qj
 unfold sI at pJ
 have hst:=ni
 go_enter Tryz.func8,Tryz.ntmps8
 obtain⟨g,hg⟩:∃g,g=w.heap.size:=⟨_,rfl⟩
 refine wp_seq ?_
 refine wp_region_lit ?_
 refine wpList_plain rfl (λK hK=>?_)
 go_simp
 refine hK _ _ ?_
 clear hK K
 have hg0:(w.alloc (.cells (aA Q (.slice sa sn sc)) 28)).heap[g]? =some (.cells (aA Q (.slice sa sn sc)) 28 (0,0)):=by rw[hg];exact aC w _
 have HB0:Hid (Below w.heap.size w (w.alloc (.cells (aA Q (.slice sa sn sc)) 28))):=Lib.hid ((Below.refl _ _).alloc (Nat.le_refl _) _)
 rw[<-hg]
 generalize w.alloc (.cells (aA Q (.slice sa sn sc)) 28)=W0 at hg0 HB0⊢
 have Oi:Hid (g=w.heap.size):=Lib.hid hg
 have zn:=Lib.hid hg0
 clear hg hg0
 refine wpList_plain rfl (λK hK=>?_)
 go_simp
 refine hK _ _ ?_
 clear hK K
 obtain⟨h,hh⟩:∃h,h=W0.heap.size:=⟨_,rfl⟩
 have hb1:Below W0.heap.size W0 (W0.alloc (.cells (aA P (.slice ua un uc)) 28)):=(Below.refl _ _).alloc (Nat.le_refl _) _
 have hh0:(W0.alloc (.cells (aA P (.slice ua un uc)) 28)).heap[h]? =some (.cells (aA P (.slice ua un uc)) 28 (0,0)):=by rw[hh];exact aC W0 _
 rw[<-hh]
 generalize W0.alloc (.cells (aA P (.slice ua un uc)) 28)=w0 at hh0 hb1⊢
 have zg:Hid (w0.heap[g]? =some (.cells (aA Q (.slice sa sn sc)) 28 (0,0))):=Lib.hid ((hb1.block g (Array.getElem?_eq_some_iff.1 zn.out).1).trans zn.out)
 have wZ:Hid (w0.heap[h]? =some (.cells (aA P (.slice ua un uc)) 28 (0,0))):=Lib.hid hh0
 replace HB0:=Lib.hid (HB0.out.trans (hb1.mono HB0.out.size))
 clear zn pJ hb1 hh0 hh W0
 refine wpList_plain rfl (λK hK=>?_)
 go_simp
 refine hK _ _ ?_
 clear hK K
 refine aT ?_
 go_upto_region 1 with fail
 refine wp_region_lit ?_
 refine aX (vs:=[]) (by rfl) rfl rfl lM rfl (m1.out _ HB0.out) λe w1 he=>?_
 obtain⟨rfl,hb1⟩:=he
 refine⟨_,rfl,?_⟩
 have HR1:Hid (w1.heap[g]? =some (.cells (aA Q (.slice sa sn sc)) 28 (0,0))):=Lib.hid ((hb1.block g (Array.getElem?_eq_some_iff.1 zg.out).1).trans zg.out)
 have rD:Hid (w1.heap[h]? =some (.cells (aA P (.slice ua un uc)) 28 (0,0))):=Lib.hid ((hb1.block h (Array.getElem?_eq_some_iff.1 wZ.out).1).trans wZ.out)
 have HB1:=Lib.hid (HB0.out.trans (hb1.mono HB0.out.size))
 clear hb1 HB0 zg wZ
 refine wpList_plain rfl (λK hK=>?_)
 go_simp
 refine hK _ _ ?_
 clear hK K
 refine wpList_plain rfl (λK hK=>?_)
 go_simp
 refine hK _ _ ?_
 clear hK K
 refine gH (by rfl) rfl rfl rfl (cB g Q (.slice sa sn sc) w1 HR1.out) ?_
 refine aX (vs:=[.agg (aA Q (.slice sa sn sc))]) (by rfl) rfl rfl eH rfl (m2.out _ HB1.out) λe w2 he=>?_
 obtain⟨rfl,hb2⟩:=he
 refine⟨_,rfl,?_⟩
 have HR2:Hid (w2.heap[g]? =some (.cells (aA Q (.slice sa sn sc)) 28 (0,0))):=Lib.hid ((hb2.block g (Array.getElem?_eq_some_iff.1 HR1.out).1).trans HR1.out)
 have HS2:Hid (w2.heap[h]? =some (.cells (aA P (.slice ua un uc)) 28 (0,0))):=Lib.hid ((hb2.block h (Array.getElem?_eq_some_iff.1 rD.out).1).trans rD.out)
 have HB2:=Lib.hid (HB1.out.trans (hb2.mono HB1.out.size))
 clear hb2 HB1 HR1 rD
 clear HR2 HS2
 go_wp2_with (go_at_call 22;refine(m1.out _ HB2.out).mono ?_;rintro e w3 ⟨rfl,hb3⟩;have HB3:=Lib.hid (HB2.out.trans (hb3.mono HB2.out.size));clear hb3)
 go_ret
 exact⟨rfl,by rw[Oi.out];exact HB3.out⟩
theorem ij_no2 (w:World)(Q P:Ps.Req)(sa:Option Addr)(sn sc:Nat)(ua:Option Addr)(un uc:Nat)(m1:KnC w)(m2:Hid (∀W,Below w.heap.size w W->Calls Tryz.prog 23 #[.agg (aA Q (.slice sa sn sc))] W λe W'=>e=.returned (.bool true)/\Below W.heap.size W W'))(m3:Hid (∀W,Below w.heap.size w W->Calls Tryz.prog 23 #[.agg (aA P (.slice ua un uc))] W λe W'=>e=.returned (.bool false)/\Below W.heap.size W W')):
 Calls Tryz.prog 8 #[.agg (aA Q (.slice sa sn sc)),.agg (aA P (.slice ua un uc))] w λe W'=>e=.returned (.bool true)/\Below w.heap.size w W':=by
 have pJ:=qj
 unfold sI at pJ
 have hst:=ni
 go_enter Tryz.func8,Tryz.ntmps8
 obtain⟨g,hg⟩:∃g,g=w.heap.size:=⟨_,rfl⟩
 refine wp_seq ?_
 refine wp_region_lit ?_
 refine wpList_plain rfl (λK hK=>?_)
 go_simp
 refine hK _ _ ?_
 clear hK K
 have hg0:(w.alloc (.cells (aA Q (.slice sa sn sc)) 28)).heap[g]? =some (.cells (aA Q (.slice sa sn sc)) 28 (0,0)):=by rw[hg];exact aC w _
 have HB0:Hid (Below w.heap.size w (w.alloc (.cells (aA Q (.slice sa sn sc)) 28))):=Lib.hid ((Below.refl _ _).alloc (Nat.le_refl _) _)
 rw[<-hg]
 generalize w.alloc (.cells (aA Q (.slice sa sn sc)) 28)=W0 at hg0 HB0⊢
 have Oi:Hid (g=w.heap.size):=Lib.hid hg
 have zn:=Lib.hid hg0
 clear hg hg0
 refine wpList_plain rfl (λK hK=>?_)
 go_simp
 refine hK _ _ ?_
 clear hK K
 obtain⟨h,hh⟩:∃h,h=W0.heap.size:=⟨_,rfl⟩
 have hb1:Below W0.heap.size W0 (W0.alloc (.cells (aA P (.slice ua un uc)) 28)):=(Below.refl _ _).alloc (Nat.le_refl _) _
 have hh0:(W0.alloc (.cells (aA P (.slice ua un uc)) 28)).heap[h]? =some (.cells (aA P (.slice ua un uc)) 28 (0,0)):=by rw[hh];exact aC W0 _
 rw[<-hh]
 generalize W0.alloc (.cells (aA P (.slice ua un uc)) 28)=w0 at hh0 hb1⊢
 have zg:Hid (w0.heap[g]? =some (.cells (aA Q (.slice sa sn sc)) 28 (0,0))):=Lib.hid ((hb1.block g (Array.getElem?_eq_some_iff.1 zn.out).1).trans zn.out)
 have wZ:Hid (w0.heap[h]? =some (.cells (aA P (.slice ua un uc)) 28 (0,0))):=Lib.hid hh0
 replace HB0:=Lib.hid (HB0.out.trans (hb1.mono HB0.out.size))
 clear zn pJ hb1 hh0 hh W0
 refine wpList_plain rfl (λK hK=>?_)
 go_simp
 refine hK _ _ ?_
 clear hK K
 refine aT ?_
 go_upto_region 1 with fail
 refine wp_region_lit ?_
 refine aX (vs:=[]) (by rfl) rfl rfl lM rfl (m1.out _ HB0.out) λe w1 he=>?_
 obtain⟨rfl,hb1⟩:=he
 refine⟨_,rfl,?_⟩
 have HR1:Hid (w1.heap[g]? =some (.cells (aA Q (.slice sa sn sc)) 28 (0,0))):=Lib.hid ((hb1.block g (Array.getElem?_eq_some_iff.1 zg.out).1).trans zg.out)
 have rD:Hid (w1.heap[h]? =some (.cells (aA P (.slice ua un uc)) 28 (0,0))):=Lib.hid ((hb1.block h (Array.getElem?_eq_some_iff.1 wZ.out).1).trans wZ.out)
 have HB1:=Lib.hid (HB0.out.trans (hb1.mono HB0.out.size))
 clear hb1 HB0 zg wZ
 refine wpList_plain rfl (λK hK=>?_)
 go_simp
 refine hK _ _ ?_
 clear hK K
 refine wpList_plain rfl (λK hK=>?_)
 go_simp
 refine hK _ _ ?_
 clear hK K
 refine gH (by rfl) rfl rfl rfl (cB g Q (.slice sa sn sc) w1 HR1.out) ?_
 refine aX (vs:=[.agg (aA Q (.slice sa sn sc))]) (by rfl) rfl rfl eH rfl (m2.out _ HB1.out) λe w2 he=>?_
 obtain⟨rfl,hb2⟩:=he
 refine⟨_,rfl,?_⟩
 have HR2:Hid (w2.heap[g]? =some (.cells (aA Q (.slice sa sn sc)) 28 (0,0))):=Lib.hid ((hb2.block g (Array.getElem?_eq_some_iff.1 HR1.out).1).trans HR1.out)
 have HS2:Hid (w2.heap[h]? =some (.cells (aA P (.slice ua un uc)) 28 (0,0))):=Lib.hid ((hb2.block h (Array.getElem?_eq_some_iff.1 rD.out).1).trans rD.out)
 have HB2:=Lib.hid (HB1.out.trans (hb2.mono HB1.out.size))
 clear hb2 HB1 HR1 rD
 refine BigFrame.wpList_want (by rfl) (λK hK=>?_)
 go_simp
 refine hK _ _ ?_
 clear hK K
 refine wpList_plain rfl (λK hK=>?_)
 go_simp
 refine hK _ _ ?_
 clear hK K
 refine wpList_plain rfl (λK hK=>?_)
 go_simp
 refine hK _ _ ?_
 clear hK K
 refine gH (by rfl) rfl rfl rfl (cB h P (.slice ua un uc) w2 HS2.out) ?_
 refine aX (vs:=[.agg (aA P (.slice ua un uc))]) (by rfl) rfl rfl eH rfl (m3.out _ HB2.out) λe w3 he=>?_
 obtain⟨rfl,hb3⟩:=he
 refine⟨_,rfl,?_⟩
 have HR3:Hid (w3.heap[g]? =some (.cells (aA Q (.slice sa sn sc)) 28 (0,0))):=Lib.hid ((hb3.block g (Array.getElem?_eq_some_iff.1 HR2.out).1).trans HR2.out)
 have JO:Hid (w3.heap[h]? =some (.cells (aA P (.slice ua un uc)) 28 (0,0))):=Lib.hid ((hb3.block h (Array.getElem?_eq_some_iff.1 HS2.out).1).trans HS2.out)
 have HB3:=Lib.hid (HB2.out.trans (hb3.mono HB2.out.size))
 clear hb3 HB2 HR2 HS2
 clear HR3 JO
 go_wp2_with (go_at_call 22;refine(m1.out _ HB3.out).mono ?_;rintro e w4 ⟨rfl,hb4⟩;have xC:=Lib.hid (HB3.out.trans (hb4.mono HB3.out.size));clear hb4)
 go_ret
 exact⟨rfl,by rw[Oi.out];exact xC.out⟩
theorem Fy (w:World)(Q P:Ps.Req)(sa:Option Addr)(sn sc:Nat)(ua:Option Addr)(un uc:Nat)(m1:KnC w)(S T:ByteArray)(x y:Int)(hx:(x !=0)=true)(m2:Hid (∀W,Below w.heap.size w W->Calls Tryz.prog 23 #[.agg (aA Q (.slice sa sn sc))] W λe W'=>e=.returned (.bool true)/\Below W.heap.size W W'))(m3:Hid (∀W,Below w.heap.size w W->Calls Tryz.prog 23 #[.agg (aA P (.slice ua un uc))] W λe W'=>e=.returned (.bool true)/\Below W.heap.size W W'))(m4:Hid (∀W,Below w.heap.size w W->Calls Tryz.prog 25 #[.agg (aA Q (.slice sa sn sc))] W λe W'=>∃ta tc,e=.returned (.agg (aA Q (.slice ta sn tc)))/\Below W.heap.size W W'/\bG W' W.heap.size (.slice ta sn tc) Q.ins.links))(m5:Hid (∀W,Below w.heap.size w W->Calls Tryz.prog 25 #[.agg (aA P (.slice ua un uc))] W λe W'=>∃ta tc,e=.returned (.agg (aA P (.slice ta un tc)))/\Below W.heap.size W W'/\bG W' W.heap.size (.slice ta un tc) P.ins.links))(m6:Hid (∀W B a n c,Below w.heap.size w W->bG W B (.slice a n c) Q.ins.links->jg W Q (.slice a n c) S x))(m7:Hid (∀W B a n c,Below w.heap.size w W->bG W B (.slice a n c) P.ins.links->jg W P (.slice a n c) T y)):
 Calls Tryz.prog 8 #[.agg (aA Q (.slice sa sn sc)),.agg (aA P (.slice ua un uc))] w λe W'=>e=.returned (.bool true)/\Below w.heap.size w W':=by
 have pJ:=qj
 unfold sI at pJ
 have hst:=ni
 go_enter Tryz.func8,Tryz.ntmps8
 obtain⟨g,hg⟩:∃g,g=w.heap.size:=⟨_,rfl⟩
 refine wp_seq ?_
 refine wp_region_lit ?_
 refine wpList_plain rfl (λK hK=>?_)
 go_simp
 refine hK _ _ ?_
 clear hK K
 have hg0:(w.alloc (.cells (aA Q (.slice sa sn sc)) 28)).heap[g]? =some (.cells (aA Q (.slice sa sn sc)) 28 (0,0)):=by rw[hg];exact aC w _
 have HB0:Hid (Below w.heap.size w (w.alloc (.cells (aA Q (.slice sa sn sc)) 28))):=Lib.hid ((Below.refl _ _).alloc (Nat.le_refl _) _)
 rw[<-hg]
 generalize w.alloc (.cells (aA Q (.slice sa sn sc)) 28)=W0 at hg0 HB0⊢
 have Oi:Hid (g=w.heap.size):=Lib.hid hg
 have zn:=Lib.hid hg0
 clear hg hg0
 refine wpList_plain rfl (λK hK=>?_)
 go_simp
 refine hK _ _ ?_
 clear hK K
 obtain⟨h,hh⟩:∃h,h=W0.heap.size:=⟨_,rfl⟩
 have hb1:Below W0.heap.size W0 (W0.alloc (.cells (aA P (.slice ua un uc)) 28)):=(Below.refl _ _).alloc (Nat.le_refl _) _
 have hh0:(W0.alloc (.cells (aA P (.slice ua un uc)) 28)).heap[h]? =some (.cells (aA P (.slice ua un uc)) 28 (0,0)):=by rw[hh];exact aC W0 _
 rw[<-hh]
 generalize W0.alloc (.cells (aA P (.slice ua un uc)) 28)=w0 at hh0 hb1⊢
 have zg:Hid (w0.heap[g]? =some (.cells (aA Q (.slice sa sn sc)) 28 (0,0))):=Lib.hid ((hb1.block g (Array.getElem?_eq_some_iff.1 zn.out).1).trans zn.out)
 have wZ:Hid (w0.heap[h]? =some (.cells (aA P (.slice ua un uc)) 28 (0,0))):=Lib.hid hh0
 replace HB0:=Lib.hid (HB0.out.trans (hb1.mono HB0.out.size))
 clear zn pJ hb1 hh0 hh W0
 refine wpList_plain rfl (λK hK=>?_)
 go_simp
 refine hK _ _ ?_
 clear hK K
 refine aT ?_
 go_upto_region 1 with fail
 refine wp_region_lit ?_
 refine aX (vs:=[]) (by rfl) rfl rfl lM rfl (m1.out _ HB0.out) λe w1 he=>?_
 obtain⟨rfl,hb1⟩:=he
 refine⟨_,rfl,?_⟩
 have HR1:Hid (w1.heap[g]? =some (.cells (aA Q (.slice sa sn sc)) 28 (0,0))):=Lib.hid ((hb1.block g (Array.getElem?_eq_some_iff.1 zg.out).1).trans zg.out)
 have rD:Hid (w1.heap[h]? =some (.cells (aA P (.slice ua un uc)) 28 (0,0))):=Lib.hid ((hb1.block h (Array.getElem?_eq_some_iff.1 wZ.out).1).trans wZ.out)
 have HB1:=Lib.hid (HB0.out.trans (hb1.mono HB0.out.size))
 clear hb1 HB0 zg wZ
 refine wpList_plain rfl (λK hK=>?_)
 go_simp
 refine hK _ _ ?_
 clear hK K
 refine wpList_plain rfl (λK hK=>?_)
 go_simp
 refine hK _ _ ?_
 clear hK K
 refine gH (by rfl) rfl rfl rfl (cB g Q (.slice sa sn sc) w1 HR1.out) ?_
 refine aX (vs:=[.agg (aA Q (.slice sa sn sc))]) (by rfl) rfl rfl eH rfl (m2.out _ HB1.out) λe w2 he=>?_
 obtain⟨rfl,hb2⟩:=he
 refine⟨_,rfl,?_⟩
 have HR2:Hid (w2.heap[g]? =some (.cells (aA Q (.slice sa sn sc)) 28 (0,0))):=Lib.hid ((hb2.block g (Array.getElem?_eq_some_iff.1 HR1.out).1).trans HR1.out)
 have HS2:Hid (w2.heap[h]? =some (.cells (aA P (.slice ua un uc)) 28 (0,0))):=Lib.hid ((hb2.block h (Array.getElem?_eq_some_iff.1 rD.out).1).trans rD.out)
 have HB2:=Lib.hid (HB1.out.trans (hb2.mono HB1.out.size))
 clear hb2 HB1 HR1 rD
 refine BigFrame.wpList_want (by rfl) (λK hK=>?_)
 go_simp
 refine hK _ _ ?_
 clear hK K
 refine wpList_plain rfl (λK hK=>?_)
 go_simp
 refine hK _ _ ?_
 clear hK K
 refine wpList_plain rfl (λK hK=>?_)
 go_simp
 refine hK _ _ ?_
 clear hK K
 refine gH (by rfl) rfl rfl rfl (cB h P (.slice ua un uc) w2 HS2.out) ?_
 refine aX (vs:=[.agg (aA P (.slice ua un uc))]) (by rfl) rfl rfl eH rfl (m3.out _ HB2.out) λe w3 he=>?_
 obtain⟨rfl,hb3⟩:=he
 refine⟨_,rfl,?_⟩
 have HR3:Hid (w3.heap[g]? =some (.cells (aA Q (.slice sa sn sc)) 28 (0,0))):=Lib.hid ((hb3.block g (Array.getElem?_eq_some_iff.1 HR2.out).1).trans HR2.out)
 have JO:Hid (w3.heap[h]? =some (.cells (aA P (.slice ua un uc)) 28 (0,0))):=Lib.hid ((hb3.block h (Array.getElem?_eq_some_iff.1 HS2.out).1).trans HS2.out)
 have HB3:=Lib.hid (HB2.out.trans (hb3.mono HB2.out.size))
 clear hb3 HB2 HR2 HS2
 go_upto_region 3 with fail
 refine wp_region_lit ?_
 refine iO rfl rfl rfl rfl (cB g Q (.slice sa sn sc) w3 HR3.out) ?_
 refine aX (vs:=[.agg (aA Q (.slice sa sn sc))]) (by rfl) rfl rfl gy rfl (m4.out _ HB3.out) λe w4 he=>?_
 obtain⟨ta3,tc3,rfl,hb4,hl4⟩:=he
 refine⟨_,rfl,?_⟩
 have HR4:Hid (w4.heap[g]? =some (.cells (aA Q (.slice sa sn sc)) 28 (0,0))):=Lib.hid ((hb4.block g (Array.getElem?_eq_some_iff.1 HR3.out).1).trans HR3.out)
 have KZ:Hid (w4.heap[h]? =some (.cells (aA P (.slice ua un uc)) 28 (0,0))):=Lib.hid ((hb4.block h (Array.getElem?_eq_some_iff.1 JO.out).1).trans JO.out)
 have xC:=Lib.hid (HB3.out.trans (hb4.mono HB3.out.size))
 clear hb4 HB3 HR3 JO
 refine aX (vs:=[.agg (aA Q (.slice ta3 sn tc3))]) (by rfl) rfl rfl iU rfl (m6.out w4 _ ta3 _ tc3 xC.out hl4) λe w5 he=>?_
 clear hl4
 obtain⟨rfl,hb5⟩:=he
 refine⟨_,rfl,?_⟩
 have GA:Hid (w5.heap[g]? =some (.cells (aA Q (.slice sa sn sc)) 28 (0,0))):=Lib.hid ((hb5.block g (Array.getElem?_eq_some_iff.1 HR4.out).1).trans HR4.out)
 have Gf:Hid (w5.heap[h]? =some (.cells (aA P (.slice ua un uc)) 28 (0,0))):=Lib.hid ((hb5.block h (Array.getElem?_eq_some_iff.1 KZ.out).1).trans KZ.out)
 have Ae:=Lib.hid (xC.out.trans (hb5.mono xC.out.size))
 clear hb5 xC HR4 KZ
 go_upto_region 4 with fail
 refine wp_region_lit ?_
 refine iO rfl rfl rfl rfl (cB h P (.slice ua un uc) w5 Gf.out) ?_
 refine aX (vs:=[.agg (aA P (.slice ua un uc))]) (by rfl) rfl rfl gy rfl (m5.out _ Ae.out) λe w6 he=>?_
 obtain⟨ta5,tc5,rfl,hb6,Qd⟩:=he
 refine⟨_,rfl,?_⟩
 have EU:Hid (w6.heap[g]? =some (.cells (aA Q (.slice sa sn sc)) 28 (0,0))):=Lib.hid ((hb6.block g (Array.getElem?_eq_some_iff.1 GA.out).1).trans GA.out)
 have MB:Hid (w6.heap[h]? =some (.cells (aA P (.slice ua un uc)) 28 (0,0))):=Lib.hid ((hb6.block h (Array.getElem?_eq_some_iff.1 Gf.out).1).trans Gf.out)
 have wW:=Lib.hid (Ae.out.trans (hb6.mono Ae.out.size))
 clear hb6 Ae GA Gf
 refine aX (vs:=[.agg (aA P (.slice ta5 un tc5))]) (by rfl) rfl rfl iU rfl (m7.out w6 _ ta5 _ tc5 wW.out Qd) λe w7 he=>?_
 clear Qd
 obtain⟨rfl,xM⟩:=he
 refine⟨_,rfl,?_⟩
 have HR7:Hid (w7.heap[g]? =some (.cells (aA Q (.slice sa sn sc)) 28 (0,0))):=Lib.hid ((xM.block g (Array.getElem?_eq_some_iff.1 EU.out).1).trans EU.out)
 have HS7:Hid (w7.heap[h]? =some (.cells (aA P (.slice ua un uc)) 28 (0,0))):=Lib.hid ((xM.block h (Array.getElem?_eq_some_iff.1 MB.out).1).trans MB.out)
 have NM:=Lib.hid (wW.out.trans (xM.mono wW.out.size))
 clear xM wW EU MB
 clear HR7 HS7 m1 m2 m3 m4 m5 m6 m7
 go_wp2_with fail
 go_ret
 exact⟨rfl,by rw[Oi.out];exact NM.out⟩
theorem Nj (w:World)(Q P:Ps.Req)(sa:Option Addr)(sn sc:Nat)(ua:Option Addr)(un uc:Nat)(m1:KnC w)(S T:ByteArray)(y:Int)(hy:(y !=0)=true)(m2:Hid (∀W,Below w.heap.size w W->Calls Tryz.prog 23 #[.agg (aA Q (.slice sa sn sc))] W λe W'=>e=.returned (.bool true)/\Below W.heap.size W W'))(m3:Hid (∀W,Below w.heap.size w W->Calls Tryz.prog 23 #[.agg (aA P (.slice ua un uc))] W λe W'=>e=.returned (.bool true)/\Below W.heap.size W W'))(m4:Hid (∀W,Below w.heap.size w W->Calls Tryz.prog 25 #[.agg (aA Q (.slice sa sn sc))] W λe W'=>∃ta tc,e=.returned (.agg (aA Q (.slice ta sn tc)))/\Below W.heap.size W W'/\bG W' W.heap.size (.slice ta sn tc) Q.ins.links))(m5:Hid (∀W,Below w.heap.size w W->Calls Tryz.prog 25 #[.agg (aA P (.slice ua un uc))] W λe W'=>∃ta tc,e=.returned (.agg (aA P (.slice ta un tc)))/\Below W.heap.size W W'/\bG W' W.heap.size (.slice ta un tc) P.ins.links))(m6:Hid (∀W B a n c,Below w.heap.size w W->bG W B (.slice a n c) Q.ins.links->jg W Q (.slice a n c) S 0))(m7:Hid (∀W B a n c,Below w.heap.size w W->bG W B (.slice a n c) P.ins.links->jg W P (.slice a n c) T y)):
 Calls Tryz.prog 8 #[.agg (aA Q (.slice sa sn sc)),.agg (aA P (.slice ua un uc))] w λe W'=>e=.returned (.bool true)/\Below w.heap.size w W':=by
 have pJ:=qj
 unfold sI at pJ
 have hst:=ni
 go_enter Tryz.func8,Tryz.ntmps8
 obtain⟨g,hg⟩:∃g,g=w.heap.size:=⟨_,rfl⟩
 refine wp_seq ?_
 refine wp_region_lit ?_
 refine wpList_plain rfl (λK hK=>?_)
 go_simp
 refine hK _ _ ?_
 clear hK K
 have hg0:(w.alloc (.cells (aA Q (.slice sa sn sc)) 28)).heap[g]? =some (.cells (aA Q (.slice sa sn sc)) 28 (0,0)):=by rw[hg];exact aC w _
 have HB0:Hid (Below w.heap.size w (w.alloc (.cells (aA Q (.slice sa sn sc)) 28))):=Lib.hid ((Below.refl _ _).alloc (Nat.le_refl _) _)
 rw[<-hg]
 generalize w.alloc (.cells (aA Q (.slice sa sn sc)) 28)=W0 at hg0 HB0⊢
 have Oi:Hid (g=w.heap.size):=Lib.hid hg
 have zn:=Lib.hid hg0
 clear hg hg0
 refine wpList_plain rfl (λK hK=>?_)
 go_simp
 refine hK _ _ ?_
 clear hK K
 obtain⟨h,hh⟩:∃h,h=W0.heap.size:=⟨_,rfl⟩
 have hb1:Below W0.heap.size W0 (W0.alloc (.cells (aA P (.slice ua un uc)) 28)):=(Below.refl _ _).alloc (Nat.le_refl _) _
 have hh0:(W0.alloc (.cells (aA P (.slice ua un uc)) 28)).heap[h]? =some (.cells (aA P (.slice ua un uc)) 28 (0,0)):=by rw[hh];exact aC W0 _
 rw[<-hh]
 generalize W0.alloc (.cells (aA P (.slice ua un uc)) 28)=w0 at hh0 hb1⊢
 have zg:Hid (w0.heap[g]? =some (.cells (aA Q (.slice sa sn sc)) 28 (0,0))):=Lib.hid ((hb1.block g (Array.getElem?_eq_some_iff.1 zn.out).1).trans zn.out)
 have wZ:Hid (w0.heap[h]? =some (.cells (aA P (.slice ua un uc)) 28 (0,0))):=Lib.hid hh0
 replace HB0:=Lib.hid (HB0.out.trans (hb1.mono HB0.out.size))
 clear zn pJ hb1 hh0 hh W0
 refine wpList_plain rfl (λK hK=>?_)
 go_simp
 refine hK _ _ ?_
 clear hK K
 refine aT ?_
 go_upto_region 1 with fail
 refine wp_region_lit ?_
 refine aX (vs:=[]) (by rfl) rfl rfl lM rfl (m1.out _ HB0.out) λe w1 he=>?_
 obtain⟨rfl,hb1⟩:=he
 refine⟨_,rfl,?_⟩
 have HR1:Hid (w1.heap[g]? =some (.cells (aA Q (.slice sa sn sc)) 28 (0,0))):=Lib.hid ((hb1.block g (Array.getElem?_eq_some_iff.1 zg.out).1).trans zg.out)
 have rD:Hid (w1.heap[h]? =some (.cells (aA P (.slice ua un uc)) 28 (0,0))):=Lib.hid ((hb1.block h (Array.getElem?_eq_some_iff.1 wZ.out).1).trans wZ.out)
 have HB1:=Lib.hid (HB0.out.trans (hb1.mono HB0.out.size))
 clear hb1 HB0 zg wZ
 refine wpList_plain rfl (λK hK=>?_)
 go_simp
 refine hK _ _ ?_
 clear hK K
 refine wpList_plain rfl (λK hK=>?_)
 go_simp
 refine hK _ _ ?_
 clear hK K
 refine gH (by rfl) rfl rfl rfl (cB g Q (.slice sa sn sc) w1 HR1.out) ?_
 refine aX (vs:=[.agg (aA Q (.slice sa sn sc))]) (by rfl) rfl rfl eH rfl (m2.out _ HB1.out) λe w2 he=>?_
 obtain⟨rfl,hb2⟩:=he
 refine⟨_,rfl,?_⟩
 have HR2:Hid (w2.heap[g]? =some (.cells (aA Q (.slice sa sn sc)) 28 (0,0))):=Lib.hid ((hb2.block g (Array.getElem?_eq_some_iff.1 HR1.out).1).trans HR1.out)
 have HS2:Hid (w2.heap[h]? =some (.cells (aA P (.slice ua un uc)) 28 (0,0))):=Lib.hid ((hb2.block h (Array.getElem?_eq_some_iff.1 rD.out).1).trans rD.out)
 have HB2:=Lib.hid (HB1.out.trans (hb2.mono HB1.out.size))
 clear hb2 HB1 HR1 rD
 refine BigFrame.wpList_want (by rfl) (λK hK=>?_)
 go_simp
 refine hK _ _ ?_
 clear hK K
 refine wpList_plain rfl (λK hK=>?_)
 go_simp
 refine hK _ _ ?_
 clear hK K
 refine wpList_plain rfl (λK hK=>?_)
 go_simp
 refine hK _ _ ?_
 clear hK K
 refine gH (by rfl) rfl rfl rfl (cB h P (.slice ua un uc) w2 HS2.out) ?_
 refine aX (vs:=[.agg (aA P (.slice ua un uc))]) (by rfl) rfl rfl eH rfl (m3.out _ HB2.out) λe w3 he=>?_
 obtain⟨rfl,hb3⟩:=he
 refine⟨_,rfl,?_⟩
 have HR3:Hid (w3.heap[g]? =some (.cells (aA Q (.slice sa sn sc)) 28 (0,0))):=Lib.hid ((hb3.block g (Array.getElem?_eq_some_iff.1 HR2.out).1).trans HR2.out)
 have JO:Hid (w3.heap[h]? =some (.cells (aA P (.slice ua un uc)) 28 (0,0))):=Lib.hid ((hb3.block h (Array.getElem?_eq_some_iff.1 HS2.out).1).trans HS2.out)
 have HB3:=Lib.hid (HB2.out.trans (hb3.mono HB2.out.size))
 clear hb3 HB2 HR2 HS2
 go_upto_region 3 with fail
 refine wp_region_lit ?_
 refine iO rfl rfl rfl rfl (cB g Q (.slice sa sn sc) w3 HR3.out) ?_
 refine aX (vs:=[.agg (aA Q (.slice sa sn sc))]) (by rfl) rfl rfl gy rfl (m4.out _ HB3.out) λe w4 he=>?_
 obtain⟨ta3,tc3,rfl,hb4,hl4⟩:=he
 refine⟨_,rfl,?_⟩
 have HR4:Hid (w4.heap[g]? =some (.cells (aA Q (.slice sa sn sc)) 28 (0,0))):=Lib.hid ((hb4.block g (Array.getElem?_eq_some_iff.1 HR3.out).1).trans HR3.out)
 have KZ:Hid (w4.heap[h]? =some (.cells (aA P (.slice ua un uc)) 28 (0,0))):=Lib.hid ((hb4.block h (Array.getElem?_eq_some_iff.1 JO.out).1).trans JO.out)
 have xC:=Lib.hid (HB3.out.trans (hb4.mono HB3.out.size))
 clear hb4 HB3 HR3 JO
 refine aX (vs:=[.agg (aA Q (.slice ta3 sn tc3))]) (by rfl) rfl rfl iU rfl (m6.out w4 _ ta3 _ tc3 xC.out hl4) λe w5 he=>?_
 clear hl4
 obtain⟨rfl,hb5⟩:=he
 refine⟨_,rfl,?_⟩
 have GA:Hid (w5.heap[g]? =some (.cells (aA Q (.slice sa sn sc)) 28 (0,0))):=Lib.hid ((hb5.block g (Array.getElem?_eq_some_iff.1 HR4.out).1).trans HR4.out)
 have Gf:Hid (w5.heap[h]? =some (.cells (aA P (.slice ua un uc)) 28 (0,0))):=Lib.hid ((hb5.block h (Array.getElem?_eq_some_iff.1 KZ.out).1).trans KZ.out)
 have Ae:=Lib.hid (xC.out.trans (hb5.mono xC.out.size))
 clear hb5 xC HR4 KZ
 go_upto_region 4 with fail
 refine wp_region_lit ?_
 refine iO rfl rfl rfl rfl (cB h P (.slice ua un uc) w5 Gf.out) ?_
 refine aX (vs:=[.agg (aA P (.slice ua un uc))]) (by rfl) rfl rfl gy rfl (m5.out _ Ae.out) λe w6 he=>?_
 obtain⟨ta5,tc5,rfl,hb6,Qd⟩:=he
 refine⟨_,rfl,?_⟩
 have EU:Hid (w6.heap[g]? =some (.cells (aA Q (.slice sa sn sc)) 28 (0,0))):=Lib.hid ((hb6.block g (Array.getElem?_eq_some_iff.1 GA.out).1).trans GA.out)
 have MB:Hid (w6.heap[h]? =some (.cells (aA P (.slice ua un uc)) 28 (0,0))):=Lib.hid ((hb6.block h (Array.getElem?_eq_some_iff.1 Gf.out).1).trans Gf.out)
 have wW:=Lib.hid (Ae.out.trans (hb6.mono Ae.out.size))
 clear hb6 Ae GA Gf
 refine aX (vs:=[.agg (aA P (.slice ta5 un tc5))]) (by rfl) rfl rfl iU rfl (m7.out w6 _ ta5 _ tc5 wW.out Qd) λe w7 he=>?_
 clear Qd
 obtain⟨rfl,xM⟩:=he
 refine⟨_,rfl,?_⟩
 have HR7:Hid (w7.heap[g]? =some (.cells (aA Q (.slice sa sn sc)) 28 (0,0))):=Lib.hid ((xM.block g (Array.getElem?_eq_some_iff.1 EU.out).1).trans EU.out)
 have HS7:Hid (w7.heap[h]? =some (.cells (aA P (.slice ua un uc)) 28 (0,0))):=Lib.hid ((xM.block h (Array.getElem?_eq_some_iff.1 MB.out).1).trans MB.out)
 have NM:=Lib.hid (wW.out.trans (xM.mono wW.out.size))
 clear xM wW EU MB
 clear HR7 HS7 m1 m2 m3 m4 m5 m6 m7
 go_wp2_with fail
 go_ret
 exact⟨rfl,by rw[Oi.out];exact NM.out⟩
theorem Om (w:World)(Q P:Ps.Req)(sa:Option Addr)(sn sc:Nat)(ua:Option Addr)(un uc:Nat)(m1:KnC w)(S T:ByteArray)(eq:Bool)(hst2:(S.toList==T.toList)=eq)(heq:eq=true↔Q=P)(hlk:Q.ins.links.length<=1000)(m2:Hid (∀W,Below w.heap.size w W->Calls Tryz.prog 23 #[.agg (aA Q (.slice sa sn sc))] W λe W'=>e=.returned (.bool true)/\Below W.heap.size W W'))(m3:Hid (∀W,Below w.heap.size w W->Calls Tryz.prog 23 #[.agg (aA P (.slice ua un uc))] W λe W'=>e=.returned (.bool true)/\Below W.heap.size W W'))(m4:Hid (∀W,Below w.heap.size w W->Calls Tryz.prog 25 #[.agg (aA Q (.slice sa sn sc))] W λe W'=>∃ta tc,e=.returned (.agg (aA Q (.slice ta sn tc)))/\Below W.heap.size W W'/\bG W' W.heap.size (.slice ta sn tc) Q.ins.links))(m5:Hid (∀W,Below w.heap.size w W->Calls Tryz.prog 25 #[.agg (aA P (.slice ua un uc))] W λe W'=>∃ta tc,e=.returned (.agg (aA P (.slice ta un tc)))/\Below W.heap.size W W'/\bG W' W.heap.size (.slice ta un tc) P.ins.links))(m6:Hid (∀W B a n c,Below w.heap.size w W->bG W B (.slice a n c) Q.ins.links->jg W Q (.slice a n c) S 0))(m7:Hid (∀W B a n c,Below w.heap.size w W->bG W B (.slice a n c) P.ins.links->jg W P (.slice a n c) T 0)):
 Calls Tryz.prog 8 #[.agg (aA Q (.slice sa sn sc)),.agg (aA P (.slice ua un uc))] w λe W'=>e=.returned (.bool true)/\Below w.heap.size w W':=by
 have pJ:=qj
 unfold sI at pJ
 have hst:=ni
 go_enter Tryz.func8,Tryz.ntmps8
 obtain⟨g,hg⟩:∃g,g=w.heap.size:=⟨_,rfl⟩
 refine wp_seq ?_
 refine wp_region_lit ?_
 refine wpList_plain rfl (λK hK=>?_)
 go_simp
 refine hK _ _ ?_
 clear hK K
 have hg0:(w.alloc (.cells (aA Q (.slice sa sn sc)) 28)).heap[g]? =some (.cells (aA Q (.slice sa sn sc)) 28 (0,0)):=by rw[hg];exact aC w _
 have HB0:Hid (Below w.heap.size w (w.alloc (.cells (aA Q (.slice sa sn sc)) 28))):=Lib.hid ((Below.refl _ _).alloc (Nat.le_refl _) _)
 rw[<-hg]
 generalize w.alloc (.cells (aA Q (.slice sa sn sc)) 28)=W0 at hg0 HB0⊢
 have Oi:Hid (g=w.heap.size):=Lib.hid hg
 have zn:=Lib.hid hg0
 clear hg hg0
 refine wpList_plain rfl (λK hK=>?_)
 go_simp
 refine hK _ _ ?_
 clear hK K
 obtain⟨h,hh⟩:∃h,h=W0.heap.size:=⟨_,rfl⟩
 have hb1:Below W0.heap.size W0 (W0.alloc (.cells (aA P (.slice ua un uc)) 28)):=(Below.refl _ _).alloc (Nat.le_refl _) _
 have hh0:(W0.alloc (.cells (aA P (.slice ua un uc)) 28)).heap[h]? =some (.cells (aA P (.slice ua un uc)) 28 (0,0)):=by rw[hh];exact aC W0 _
 rw[<-hh]
 generalize W0.alloc (.cells (aA P (.slice ua un uc)) 28)=w0 at hh0 hb1⊢
 have zg:Hid (w0.heap[g]? =some (.cells (aA Q (.slice sa sn sc)) 28 (0,0))):=Lib.hid ((hb1.block g (Array.getElem?_eq_some_iff.1 zn.out).1).trans zn.out)
 have wZ:Hid (w0.heap[h]? =some (.cells (aA P (.slice ua un uc)) 28 (0,0))):=Lib.hid hh0
 replace HB0:=Lib.hid (HB0.out.trans (hb1.mono HB0.out.size))
 clear zn pJ hb1 hh0 hh W0
 refine wpList_plain rfl (λK hK=>?_)
 go_simp
 refine hK _ _ ?_
 clear hK K
 refine aT ?_
 go_upto_region 1 with fail
 refine wp_region_lit ?_
 refine aX (vs:=[]) (by rfl) rfl rfl lM rfl (m1.out _ HB0.out) λe w1 he=>?_
 obtain⟨rfl,hb1⟩:=he
 refine⟨_,rfl,?_⟩
 have HR1:Hid (w1.heap[g]? =some (.cells (aA Q (.slice sa sn sc)) 28 (0,0))):=Lib.hid ((hb1.block g (Array.getElem?_eq_some_iff.1 zg.out).1).trans zg.out)
 have rD:Hid (w1.heap[h]? =some (.cells (aA P (.slice ua un uc)) 28 (0,0))):=Lib.hid ((hb1.block h (Array.getElem?_eq_some_iff.1 wZ.out).1).trans wZ.out)
 have HB1:=Lib.hid (HB0.out.trans (hb1.mono HB0.out.size))
 clear hb1 HB0 zg wZ
 refine wpList_plain rfl (λK hK=>?_)
 go_simp
 refine hK _ _ ?_
 clear hK K
 refine wpList_plain rfl (λK hK=>?_)
 go_simp
 refine hK _ _ ?_
 clear hK K
 refine gH (by rfl) rfl rfl rfl (cB g Q (.slice sa sn sc) w1 HR1.out) ?_
 refine aX (vs:=[.agg (aA Q (.slice sa sn sc))]) (by rfl) rfl rfl eH rfl (m2.out _ HB1.out) λe w2 he=>?_
 obtain⟨rfl,hb2⟩:=he
 refine⟨_,rfl,?_⟩
 have HR2:Hid (w2.heap[g]? =some (.cells (aA Q (.slice sa sn sc)) 28 (0,0))):=Lib.hid ((hb2.block g (Array.getElem?_eq_some_iff.1 HR1.out).1).trans HR1.out)
 have HS2:Hid (w2.heap[h]? =some (.cells (aA P (.slice ua un uc)) 28 (0,0))):=Lib.hid ((hb2.block h (Array.getElem?_eq_some_iff.1 rD.out).1).trans rD.out)
 have HB2:=Lib.hid (HB1.out.trans (hb2.mono HB1.out.size))
 clear hb2 HB1 HR1 rD
 refine BigFrame.wpList_want (by rfl) (λK hK=>?_)
 go_simp
 refine hK _ _ ?_
 clear hK K
 refine wpList_plain rfl (λK hK=>?_)
 go_simp
 refine hK _ _ ?_
 clear hK K
 refine wpList_plain rfl (λK hK=>?_)
 go_simp
 refine hK _ _ ?_
 clear hK K
 refine gH (by rfl) rfl rfl rfl (cB h P (.slice ua un uc) w2 HS2.out) ?_
 refine aX (vs:=[.agg (aA P (.slice ua un uc))]) (by rfl) rfl rfl eH rfl (m3.out _ HB2.out) λe w3 he=>?_
 obtain⟨rfl,hb3⟩:=he
 refine⟨_,rfl,?_⟩
 have HR3:Hid (w3.heap[g]? =some (.cells (aA Q (.slice sa sn sc)) 28 (0,0))):=Lib.hid ((hb3.block g (Array.getElem?_eq_some_iff.1 HR2.out).1).trans HR2.out)
 have JO:Hid (w3.heap[h]? =some (.cells (aA P (.slice ua un uc)) 28 (0,0))):=Lib.hid ((hb3.block h (Array.getElem?_eq_some_iff.1 HS2.out).1).trans HS2.out)
 have HB3:=Lib.hid (HB2.out.trans (hb3.mono HB2.out.size))
 clear hb3 HB2 HR2 HS2
 go_upto_region 3 with fail
 refine wp_region_lit ?_
 refine iO rfl rfl rfl rfl (cB g Q (.slice sa sn sc) w3 HR3.out) ?_
 refine aX (vs:=[.agg (aA Q (.slice sa sn sc))]) (by rfl) rfl rfl gy rfl (m4.out _ HB3.out) λe w4 he=>?_
 obtain⟨ta3,tc3,rfl,hb4,hl4⟩:=he
 refine⟨_,rfl,?_⟩
 have HR4:Hid (w4.heap[g]? =some (.cells (aA Q (.slice sa sn sc)) 28 (0,0))):=Lib.hid ((hb4.block g (Array.getElem?_eq_some_iff.1 HR3.out).1).trans HR3.out)
 have KZ:Hid (w4.heap[h]? =some (.cells (aA P (.slice ua un uc)) 28 (0,0))):=Lib.hid ((hb4.block h (Array.getElem?_eq_some_iff.1 JO.out).1).trans JO.out)
 have xC:=Lib.hid (HB3.out.trans (hb4.mono HB3.out.size))
 clear hb4 HB3 HR3 JO
 refine aX (vs:=[.agg (aA Q (.slice ta3 sn tc3))]) (by rfl) rfl rfl iU rfl (m6.out w4 _ ta3 _ tc3 xC.out hl4) λe w5 he=>?_
 clear hl4
 obtain⟨rfl,hb5⟩:=he
 refine⟨_,rfl,?_⟩
 have GA:Hid (w5.heap[g]? =some (.cells (aA Q (.slice sa sn sc)) 28 (0,0))):=Lib.hid ((hb5.block g (Array.getElem?_eq_some_iff.1 HR4.out).1).trans HR4.out)
 have Gf:Hid (w5.heap[h]? =some (.cells (aA P (.slice ua un uc)) 28 (0,0))):=Lib.hid ((hb5.block h (Array.getElem?_eq_some_iff.1 KZ.out).1).trans KZ.out)
 have Ae:=Lib.hid (xC.out.trans (hb5.mono xC.out.size))
 clear hb5 xC HR4 KZ
 go_upto_region 4 with fail
 refine wp_region_lit ?_
 refine iO rfl rfl rfl rfl (cB h P (.slice ua un uc) w5 Gf.out) ?_
 refine aX (vs:=[.agg (aA P (.slice ua un uc))]) (by rfl) rfl rfl gy rfl (m5.out _ Ae.out) λe w6 he=>?_
 obtain⟨ta5,tc5,rfl,hb6,Qd⟩:=he
 refine⟨_,rfl,?_⟩
 have EU:Hid (w6.heap[g]? =some (.cells (aA Q (.slice sa sn sc)) 28 (0,0))):=Lib.hid ((hb6.block g (Array.getElem?_eq_some_iff.1 GA.out).1).trans GA.out)
 have MB:Hid (w6.heap[h]? =some (.cells (aA P (.slice ua un uc)) 28 (0,0))):=Lib.hid ((hb6.block h (Array.getElem?_eq_some_iff.1 Gf.out).1).trans Gf.out)
 have wW:=Lib.hid (Ae.out.trans (hb6.mono Ae.out.size))
 clear hb6 Ae GA Gf
 refine aX (vs:=[.agg (aA P (.slice ta5 un tc5))]) (by rfl) rfl rfl iU rfl (m7.out w6 _ ta5 _ tc5 wW.out Qd) λe w7 he=>?_
 clear Qd
 obtain⟨rfl,xM⟩:=he
 refine⟨_,rfl,?_⟩
 have HR7:Hid (w7.heap[g]? =some (.cells (aA Q (.slice sa sn sc)) 28 (0,0))):=Lib.hid ((xM.block g (Array.getElem?_eq_some_iff.1 EU.out).1).trans EU.out)
 have HS7:Hid (w7.heap[h]? =some (.cells (aA P (.slice ua un uc)) 28 (0,0))):=Lib.hid ((xM.block h (Array.getElem?_eq_some_iff.1 MB.out).1).trans MB.out)
 have NM:=Lib.hid (wW.out.trans (xM.mono wW.out.size))
 clear xM wW EU MB
 clear m1 m2 m3 m6 m7
 go_upto_region 7 with fail
 rename_i hK0
 refine oF rfl λb hb hbd=>?_
 refine zZ (n:=49) (W0:=w7) (K:=[(2,.pointer (some ⟨g,0,none⟩)),(3,.pointer (some ⟨h,0,none⟩)),(5,.string S),(7,.string T)]) (F:=ijF Q P sa sn sc ua un uc S T eq) (by kernel_rfl) Gt (by rw[hb];rfl) hbd (Below.refl _ _) ?_ ?_ ?_
 ·intro t v ht
  rw[hb]
  simp only[List.mem_cons,List.not_mem_nil,or_false,Prod.mk.injEq]at ht
  rcases ht with⟨rfl,rfl⟩|⟨rfl,rfl⟩|⟨rfl,rfl⟩|⟨rfl,rfl⟩<;>rfl
 ·intro i o c w hi hW hk AB K' hK
  have k2:=hk 2 (.pointer (some ⟨g,0,none⟩)) (by simp)
  have k3:=hk 3 (.pointer (some ⟨h,0,none⟩)) (by simp)
  have k5:=hk 5 (.string S) (by simp)
  have k7:=hk 7 (.string T) (by simp)
  rcases i with _|_|_|_|_|_|_|_|_|_|i
  ·cases Option.some.inj hi
   exact F8 hi rfl rfl k5 (hK _ _ rfl (Below.refl _ _))
  ·cases Option.some.inj hi
   exact F8 hi rfl rfl k7 (hK _ _ rfl (Below.refl _ _))
  ·have d0:c.eval (.tmp 40)=.string S:=AB 0 _ 40 (by omega) rfl rfl (by cases Option.some.inj hi;decide)
   have d1:c.eval (.tmp 41)=.string T:=AB 1 _ 41 (by omega) rfl rfl (by cases Option.some.inj hi;decide)
   cases Option.some.inj hi
   exact K7 hi rfl rfl d0 d1 (ij_eqs S T w hst2) (hK _ _ rfl (Below.refl _ _))
  ·cases Option.some.inj hi
   exact FW hi rfl rfl k2 (cB g Q (.slice sa sn sc) w ((hW.block g (Array.getElem?_eq_some_iff.1 HR7.out).1).trans HR7.out)) (hK _ _ rfl (Below.refl _ _))
  ·have d0:c.eval (.tmp 43)=.agg (aA Q (.slice sa sn sc)):=AB 3 _ 43 (by omega) rfl rfl (by cases Option.some.inj hi;decide)
   cases Option.some.inj hi
   refine y7 (vs:=[.agg (aA Q (.slice sa sn sc))]) hi rfl rfl gy (by show[c.eval (.tmp 43)]=_;rw[d0]) (m4.out w (NM.out.trans (hW.mono NM.out.size))) λe w' he=>?_
   obtain⟨ta,tc,rfl,h1,h2⟩:=he
   exact⟨_,rfl,hK _ _ ⟨_,ta,tc,rfl,h2⟩ h1⟩
  ·cases Option.some.inj hi
   exact FW hi rfl rfl k3 (cB h P (.slice ua un uc) w ((hW.block h (Array.getElem?_eq_some_iff.1 HS7.out).1).trans HS7.out)) (hK _ _ rfl (Below.refl _ _))
  ·have d0:c.eval (.tmp 45)=.agg (aA P (.slice ua un uc)):=AB 5 _ 45 (by omega) rfl rfl (by cases Option.some.inj hi;decide)
   cases Option.some.inj hi
   refine y7 (vs:=[.agg (aA P (.slice ua un uc))]) hi rfl rfl gy (by show[c.eval (.tmp 45)]=_;rw[d0]) (m5.out w (NM.out.trans (hW.mono NM.out.size))) λe w' he=>?_
   obtain⟨ta,tc,rfl,h1,h2⟩:=he
   exact⟨_,rfl,hK _ _ ⟨_,ta,tc,rfl,h2⟩ h1⟩
  ·obtain⟨B1,a1,c1,d1,l1⟩:ijF Q P sa sn sc ua un uc S T eq 4 (c.eval (.tmp 44)) w:=AB 4 _ 44 (by omega) rfl rfl (by cases Option.some.inj hi;decide)
   obtain⟨B2,a2,c2,d2,l2⟩:ijF Q P sa sn sc ua un uc S T eq 6 (c.eval (.tmp 46)) w:=AB 6 _ 46 (by omega) rfl rfl (by cases Option.some.inj hi;decide)
   cases Option.some.inj hi
   refine y7 (vs:=[.agg (aA Q (.slice a1 sn c1)),.agg (aA P (.slice a2 un c2))]) hi rfl rfl IE (by show[c.eval (.tmp 44),c.eval (.tmp 46)]=_;rw[d1,d2]) (I5 w Q P B1 B2 a1 a2 sn c1 un c2 eq heq hlk l1 l2) λe w' he=>?_
   obtain⟨rfl,h1⟩:=he
   exact⟨_,rfl,hK _ _ rfl h1⟩
  ·have d0:c.eval (.tmp 42)=.bool eq:=AB 2 _ 42 (by omega) rfl rfl (by cases Option.some.inj hi;decide)
   have d1:c.eval (.tmp 47)=.bool eq:=AB 7 _ 47 (by omega) rfl rfl (by cases Option.some.inj hi;decide)
   cases Option.some.inj hi
   exact K7 hi rfl rfl d0 d1 (ij_eqb eq w) (hK _ _ rfl (Below.refl _ _))
  ·have d0:c.eval (.tmp 48)=.bool true:=AB 8 _ 48 (by omega) rfl rfl (by cases Option.some.inj hi;decide)
   cases Option.some.inj hi
   exact wo_asg hi rfl rfl d0 (hK _ _ rfl (Below.refl _ _))
  ·simp at hi
 ·intro c w' hI
  obtain⟨v,e1,e2⟩:=hI.done 9 _ 4 rfl rfl rfl
  have e2:v=.bool true:=e2
  subst e2
  refine hK0 c w' ?_
  refine wp_ret ?_
  show bodyPost Tryz.prog Tryz.f8 (λe W'=>e=.returned (.bool true)/\Below g w W') .ret c w'
  refine bodyPost_ret (results_tmp rfl _ _ _) hI.defers ?_
  exact⟨by rw[show c.tmps.getD 4 undef=_ from eval_at e1],by rw[Oi.out];exact NM.out.trans (hI.below.mono NM.out.size)⟩
theorem sH {m:Int}{kb ko kc:Nat}{w:World}(env:iW m kb ko kc w)(hE:iM w)(Q:Ps.Req)(sa:Option Addr)(sn sc:Nat)(P:Ps.Req)(ua:Option Addr)(un uc:Nat)(hn:sn=Q.ins.links.length)(z0:mY Q.ins)(z1:Sz Q.sender)(z2:Sz Q.ref)(hput:fq w sa sn Q.ins.links)
 (hun:un=P.ins.links.length) (y0:mY P.ins) (y1:Sz P.sender) (y2:Sz P.ref) (pput:fq w ua un P.ins.links):Calls Tryz.prog 8 #[.agg (aA Q (.slice sa sn sc)),.agg (aA P (.slice ua un uc))] w λe W'=>e=.returned (.bool true)/\Below w.heap.size w W':=by
 have m1:KnC w:=Lib.hid λW hW=>kn20 (env.below hW) (hE.below hW)
 obtain⟨b,hbs,m2⟩:=Ar w Q z0 z1 z2 sa sn sc hn hput
 obtain⟨b',hbs',m3⟩:=Ar w P y0 y1 y2 ua un uc hun pput
 cases b with
 |false=>exact ij_no1 w Q P sa sn sc ua un uc m1 (Lib.hid m2)
 |true=>
  cases b' with
  |false=>exact ij_no2 w Q P sa sn sc ua un uc m1 (Lib.hid m2) (Lib.hid m3)
  |true=>
   have hsm:=hbs.1 rfl
   have hsm':=hbs'.1 rfl
   have h20:=hsm.ins.len
   have h21:=hsm'.ins.len
   have own:∀(X:Ps.Req) (a:Option Addr) (n c:Nat),n=X.ins.links.length->X.ins.links.length<=20->fq w a n X.ins.links->Hid (∀W,Below w.heap.size w W->Calls Tryz.prog 25 #[.agg (aA X (.slice a n c))] W λe W'=>∃ta tc,e=.returned (.agg (aA X (.slice ta n tc)))/\Below W.heap.size W W'/\bG W' W.heap.size (.slice ta n tc) X.ins.links):=λX a n c hn hl hp=>Lib.hid λW hW=>Jm W X a n c (Lib.hid hn) (Lib.hid (by omega)) (Lib.hid λh0=>hp.below hW h0)
   have hck:=λ(X:Ps.Req) (W:World) (B:Nat) (a:Option Addr) (n c:Nat) (hW:Below w.heap.size w W) (hl:bG W B (.slice a n c) X.ins.links)=>ET (env.below hW).id (LF (env.below hW).id) W B X a n c (Below.refl _ _) hl
   have good:∀X:Ps.Req,psR X=0->Hid (∀W B a n c,Below w.heap.size w W->bG W B (.slice a n c) X.ins.links->jg W X (.slice a n c) (cnT X) 0):=λX he=>Lib.hid λW B a n c hW hl=>LU env hE X he W B a n c hW hl
   have bad:∀X:Ps.Req,psR X≠0->kG X->Hid (∀W B a n c,Below w.heap.size w W->bG W B (.slice a n c) X.ins.links->jg W X (.slice a n c) ⟨#[]⟩ (psR X)):=λX he hs=>Lib.hid λW B a n c hW hl=>Kz W X (psR X) he a n c hs λW2 hW2=>hck X W2 B a n c (hW.trans (hW2.mono hW.size)) (hl.below hW2)
   have o1:=own Q sa sn sc hn (by omega) hput
   have o2:=own P ua un uc hun (by omega) pput
   by_cases he:psR Q=0
   ·by_cases hf:psR P=0
    ·obtain⟨eq,heq⟩:∃eq:Bool,eq=true↔Q=P:=⟨@decide _ (Classical.propDecidable _),@decide_eq_true_iff _ (Classical.propDecidable _)⟩
     refine Om w Q P sa sn sc ua un uc m1 (cnT Q) (cnT P) eq ?_ heq (by omega) (Lib.hid m2) (Lib.hid m3) o1 o2 (good Q he) (good P hf)
     rw[Bool.eq_iff_iff,EB,heq]
     refine⟨λh=>?_,λh=>by rw[h]⟩
     obtain⟨_,c2,_⟩:=DX he
     obtain⟨_,d2,_⟩:=DX hf
     rw[h,d2]at c2
     exact(congrArg Prod.fst c2).symm
    ·exact Nj w Q P sa sn sc ua un uc m1 (cnT Q) ⟨#[]⟩ (psR P) (by simpa using hf) (Lib.hid m2) (Lib.hid m3) o1 o2 (good Q he) (bad P hf hsm')
   ·by_cases hf:psR P=0
    ·exact Fy w Q P sa sn sc ua un uc m1 ⟨#[]⟩ (cnT P) (psR Q) 0 (by simpa using he) (Lib.hid m2) (Lib.hid m3) o1 o2 (bad Q he hsm) (good P hf)
    ·exact Fy w Q P sa sn sc ua un uc m1 ⟨#[]⟩ ⟨#[]⟩ (psR Q) (psR P) (by simpa using he) (Lib.hid m2) (Lib.hid m3) o1 o2 (bad Q he hsm) (bad P hf hsm')
end Go.Proofs.YtnjjeapcalkmaaaGreatDoor
namespace Go.Proofs.YtnjjeapcalkmaaaGreatDoor.lawPrInjective
open Go.ChangeShapes Go.WideShapes Go.ChangeAt Go.RowKit
theorem own:ownKnob Tryz.prog.godebug=none:=by kernel_rfl
theorem laidOut:laidOutB Tryz.prog=true:=by kernel_rfl
theorem Mk:("strconv.ErrRange",(Rows.laid_strconv_ErrRange:DataW Unit))∈Rows.printerInjectiveRow.laid:=by
 unfold Rows.printerInjectiveRow
 exact .tail _ (.tail _ (.tail _ (.tail _ ((.head _)))))
theorem JP:("strconv.ErrSyntax",(Rows.laid_strconv_ErrSyntax:DataW Unit))∈Rows.printerInjectiveRow.laid:=by
 unfold Rows.printerInjectiveRow
 exact .tail _ (.tail _ (.tail _ (.tail _ (.tail _ ((.head _))))))
theorem memIds:("giro/ident.kinds",(Rows.laid_giro_ident_kinds:DataW Unit))∈Rows.printerInjectiveRow.laid:=by
 unfold Rows.printerInjectiveRow
 exact .tail _ (.tail _ (.tail _ (.tail _ (.tail _ (.tail _ ((.head _)))))))
theorem memLex:("giro/lexer.kinds",(Rows.laid_giro_lexer_kinds:DataW Unit))∈Rows.printerInjectiveRow.laid:=by
 unfold Rows.printerInjectiveRow
 exact .tail _ (.tail _ (.tail _ (.tail _ (.tail _ (.tail _ (.tail _ ((.head _))))))))
theorem GM:("giro/message.priorityNames",(Rows.laid_giro_message_priorityNames:DataW Unit))∈Rows.printerInjectiveRow.laid:=by
 unfold Rows.printerInjectiveRow
 exact .tail _ (.tail _ (.tail _ (.tail _ (.tail _ (.tail _ (.tail _ (.tail _ (.tail _ (.tail _ ((.head _)))))))))))
theorem memPow:("internal/strconv.uint64pow10",(Rows.laid_internal_strconv_uint64pow10:DataW Unit))∈Rows.printerInjectiveRow.laid:=by
 unfold Rows.printerInjectiveRow
 exact .tail _ (.tail _ ((.head _)))
theorem memKd:("giro/message.kindNames",(Rows.laid_giro_message_kindNames:DataW Unit))∈Rows.printerInjectiveRow.laid:=by
 unfold Rows.printerInjectiveRow
 exact .tail _ (.tail _ (.tail _ (.tail _ (.tail _ (.tail _ (.tail _ (.tail _ ((.head _)))))))))
theorem memOp:("giro/message.operationNames",(Rows.laid_giro_message_operationNames:DataW Unit))∈Rows.printerInjectiveRow.laid:=by
 unfold Rows.printerInjectiveRow
 exact .tail _ (.tail _ (.tail _ (.tail _ (.tail _ (.tail _ (.tail _ (.tail _ (.tail _ ((.head _))))))))))
theorem contract (H:Type)(enc:TypeId×Value->H)(W:World)(base:Nat)(args:Array Value)(ds gs:List (DataW H))(before:List MemPlace)
 (hval:∀(j:Nat) t v,Tryz.f8.params[j]? =some t->args[j]? =some v->Value.okWide Tryz.prog W .any base t v)
 (hW:DataW.Whole enc Tryz.prog Tryz.f8.params.toList Rows.printerInjectiveSpec.vars false W args.toList ds gs before) (hL:laidMetH Tryz.prog Rows.printerInjectiveRow.laid W) (hsh:W.ShapedOpen Tryz.prog):
 Calls Tryz.prog 8 args W λe W'=>∃v,e=.returned v/\Rows.printerInjectiveSpec.post enc Tryz.prog Tryz.f8 false true false false W args v W':=by
 have hW':=hW
 obtain⟨p,q,hA0,hV,rfl,hfz,hnd⟩:=hW
 have hA:DataW.TrodAll enc Tryz.prog W 0 (λ_=>true) true Tryz.f8.params.toList args.toList ds p:=hA0
 rw[Tryz.params8]at hA hval
 obtain⟨v0,vs0,d0,ds0,p0,q0,hargs,rfl,rfl,h0,r0⟩:=trodAll_cons hA
 obtain⟨v1,vs1,d1,ds1,p1,q1,hargs1,rfl,rfl,h1,r1⟩:=trodAll_cons r0
 obtain⟨rfl,rfl,rfl⟩:=trodAll_nil r1
 obtain rfl:args=#[v0,v1]:=by cases args;simp_all
 obtain⟨rfl,rfl⟩:=trodVars_none hV
 clear hA0
 simp only[List.append_nil]at hW'
 have hlt:∀x∈(p0++p1),x.block<W.heap.size:=λx hx=>by simpa using hW'.lt x hx
 obtain⟨Q0,a0,c0,rfl,x0a,x0b,x0c,x0d,x0e⟩:=KS h0
 obtain⟨Q1,a1,c1,rfl,x1a,x1b,x1c,x1d,x1e⟩:=KS h1
 obtain⟨m,NN⟩:=Tryz.laysM145.s1_3 W hsh
 obtain⟨kb,ko,kc,env⟩:=uY hL memLex memIds GM Mk JP m NN
 refine(sH env (wI hL memPow GM memOp memKd) Q0 a0 _ c0 Q1 a1 _ c1 rfl x0a x0b x0c x0e rfl x1a x1b x1c x1e).mono λe W' ⟨he,hb⟩=>?_
 subst he
 have t0:=Below.trod laidOut (by kernel_rfl) (of_decide_eq_true (by kernel_rfl)) h0 hb (λx hx=>hlt x (by simp[hx]))
 have t1:=Below.trod laidOut (by kernel_rfl) (of_decide_eq_true (by kernel_rfl)) h1 hb (λx hx=>hlt x (by simp[hx]))
 exact⟨_,rfl,_,_,_,[],_,[],hW',trodAll_cons_mk (shut_bool Tryz.underlying4 _) trodAll_mk0,trodAll_cons_mk t0 (trodAll_cons_mk t1 trodAll_mk0),rfl,hb.frame _,λh=>by cases h⟩
noncomputable def jk (os:Os):World:=(World.doorLaid Tryz.prog 300 os).layVars Tryz.prog [("unicode/utf8.first",Rows.laid_unicode_utf8_first)]
theorem OT (os:Os):(jk os).os=os:=by unfold jk;rw[World.layVars_os];rfl
theorem LZ (os:Os):laidMetH Tryz.prog Rows.printerInjectiveRow.laid ((jk os).forCall (λ_ _=>0) ⟨#[],#[Value.agg #[.int .i64 0,.string ⟨#[]⟩,.string ⟨#[]⟩,.string ⟨#[]⟩,.int .i64 0,.string ⟨#[]⟩,.string ⟨#[]⟩,.int .i64 0,.string ⟨#[]⟩,.int .i64 0,.int .i64 0,.int .i64 0,.int .i64 0,.int .i64 0,.bool false,.int .i64 0,.bool false,.bool false,.slice none 0 0,.bool false,.bool false,.bool false,.bool false,.int .i64 0,.int .i64 0,.int .i64 0,.bool false,.int .i64 0],.agg #[.int .i64 0,.string ⟨#[]⟩,.string ⟨#[]⟩,.string ⟨#[]⟩,.int .i64 0,.string ⟨#[]⟩,.string ⟨#[]⟩,.int .i64 0,.string ⟨#[]⟩,.int .i64 0,.int .i64 0,.int .i64 0,.int .i64 0,.int .i64 0,.bool false,.int .i64 0,.bool false,.bool false,.slice none 0 0,.bool false,.bool false,.bool false,.bool false,.int .i64 0,.int .i64 0,.int .i64 0,.bool false,.int .i64 0]],[]⟩).memory:=
 laidMetH_of_parts3 (fuel:=8)
  (laidMet_layVars (w0:=World.doorLaid Tryz.prog 300 os) ["unicode/utf8.first"] ((List.range (World.doorLaid Tryz.prog 300 os).heap.size).filter (· !=7)) (by rfl) (by kernel_rfl) (by kernel_rfl)
   (LaidIn.of_run _ 8 (by kernel_rfl) (by kernel_rfl) (by kernel_rfl) (by kernel_rfl))) (by kernel_rfl) (by kernel_rfl)
theorem reads (os:Os){H:Type}(enc:TypeId×Value->H):∃places,DataW.whole enc Tryz.prog ((jk os).forCall (λ_ _=>0) ⟨#[],#[Value.agg #[.int .i64 0,.string ⟨#[]⟩,.string ⟨#[]⟩,.string ⟨#[]⟩,.int .i64 0,.string ⟨#[]⟩,.string ⟨#[]⟩,.int .i64 0,.string ⟨#[]⟩,.int .i64 0,.int .i64 0,.int .i64 0,.int .i64 0,.int .i64 0,.bool false,.int .i64 0,.bool false,.bool false,.slice none 0 0,.bool false,.bool false,.bool false,.bool false,.int .i64 0,.int .i64 0,.int .i64 0,.bool false,.int .i64 0],.agg #[.int .i64 0,.string ⟨#[]⟩,.string ⟨#[]⟩,.string ⟨#[]⟩,.int .i64 0,.string ⟨#[]⟩,.string ⟨#[]⟩,.int .i64 0,.string ⟨#[]⟩,.int .i64 0,.int .i64 0,.int .i64 0,.int .i64 0,.int .i64 0,.bool false,.int .i64 0,.bool false,.bool false,.slice none 0 0,.bool false,.bool false,.bool false,.bool false,.int .i64 0,.int .i64 0,.int .i64 0,.bool false,.int .i64 0]],[]⟩).memory Tryz.f8.params.toList Rows.printerInjectiveSpec.vars false #[Value.agg #[.int .i64 0,.string ⟨#[]⟩,.string ⟨#[]⟩,.string ⟨#[]⟩,.int .i64 0,.string ⟨#[]⟩,.string ⟨#[]⟩,.int .i64 0,.string ⟨#[]⟩,.int .i64 0,.int .i64 0,.int .i64 0,.int .i64 0,.int .i64 0,.bool false,.int .i64 0,.bool false,.bool false,.slice none 0 0,.bool false,.bool false,.bool false,.bool false,.int .i64 0,.int .i64 0,.int .i64 0,.bool false,.int .i64 0],.agg #[.int .i64 0,.string ⟨#[]⟩,.string ⟨#[]⟩,.string ⟨#[]⟩,.int .i64 0,.string ⟨#[]⟩,.string ⟨#[]⟩,.int .i64 0,.string ⟨#[]⟩,.int .i64 0,.int .i64 0,.int .i64 0,.int .i64 0,.int .i64 0,.bool false,.int .i64 0,.bool false,.bool false,.slice none 0 0,.bool false,.bool false,.bool false,.bool false,.int .i64 0,.int .i64 0,.int .i64 0,.bool false,.int .i64 0]].toList 8=some ([.agg [.lit (.int .i64 0),.lit (.string []),.lit (.string []),.agg [.lit (.string []),.lit (.int .i64 0),.lit (.string []),.lit (.string []),.lit (.int .i64 0),.lit (.string []),.lit (.int .i64 0),.lit (.int .i64 0),.lit (.int .i64 0),.lit (.int .i64 0),.lit (.int .i64 0),.lit (.bool false),.lit (.int .i64 0),.lit (.bool false),.lit (.bool false),.nil],.agg [.lit (.bool false),.lit (.bool false),.lit (.bool false),.lit (.bool false),.lit (.int .i64 0),.lit (.int .i64 0),.lit (.int .i64 0),.lit (.bool false),.lit (.int .i64 0)]],.agg [.lit (.int .i64 0),.lit (.string []),.lit (.string []),.agg [.lit (.string []),.lit (.int .i64 0),.lit (.string []),.lit (.string []),.lit (.int .i64 0),.lit (.string []),.lit (.int .i64 0),.lit (.int .i64 0),.lit (.int .i64 0),.lit (.int .i64 0),.lit (.int .i64 0),.lit (.bool false),.lit (.int .i64 0),.lit (.bool false),.lit (.bool false),.nil],.agg [.lit (.bool false),.lit (.bool false),.lit (.bool false),.lit (.bool false),.lit (.int .i64 0),.lit (.int .i64 0),.lit (.int .i64 0),.lit (.bool false),.lit (.int .i64 0)]]],[],places):=
 ⟨[],by kernel_rfl⟩
theorem lifted (os:Os)(started:os.Started)(H:Type)(enc:TypeId×Value->H)(F:Stop.Interp):
 ReturnsInHanded {} Tryz.checked os 8 .any ((OpenSpec.ofChange Rows.printerInjectiveSpec).preRow enc Tryz.prog Tryz.f8 Rows.printerInjectiveRow.domain false Rows.printerInjectiveRow.laid) (((OpenSpec.ofChange Rows.printerInjectiveSpec).at F).post enc Tryz.prog Tryz.f8 false true false false):=by
 obtain⟨places,hx⟩:=reads os enc
 refine returnsInHanded_of_row (C:=Tryz.checked) (s:=OpenSpec.ofChange Rows.printerInjectiveSpec) own started (by kernel_rfl) Tryz.func8
  (witness_row_atRef (enc:=enc) (C:=Tryz.checked) false (jk os) #[Value.agg #[.int .i64 0,.string ⟨#[]⟩,.string ⟨#[]⟩,.string ⟨#[]⟩,.int .i64 0,.string ⟨#[]⟩,.string ⟨#[]⟩,.int .i64 0,.string ⟨#[]⟩,.int .i64 0,.int .i64 0,.int .i64 0,.int .i64 0,.int .i64 0,.bool false,.int .i64 0,.bool false,.bool false,.slice none 0 0,.bool false,.bool false,.bool false,.bool false,.int .i64 0,.int .i64 0,.int .i64 0,.bool false,.int .i64 0],.agg #[.int .i64 0,.string ⟨#[]⟩,.string ⟨#[]⟩,.string ⟨#[]⟩,.int .i64 0,.string ⟨#[]⟩,.string ⟨#[]⟩,.int .i64 0,.string ⟨#[]⟩,.int .i64 0,.int .i64 0,.int .i64 0,.int .i64 0,.int .i64 0,.bool false,.int .i64 0,.bool false,.bool false,.slice none 0 0,.bool false,.bool false,.bool false,.bool false,.int .i64 0,.int .i64 0,.int .i64 0,.bool false,.int .i64 0]] (OT os) (by kernel_rfl) (by kernel_rfl) (by kernel_rfl)
   (OpenSpec.preRow_of_cond 8 hx (by kernel_rfl) (λk hk=>by cases hk) (by kernel_rfl) (LZ os))) ?_
 intro W base args ds gs before hval hW _ _ _ hL hsh _
 exact contract H enc W base args ds gs before hval hW hL hsh
theorem said:Rows.PrinterInjectiveSaid:=
 OpenClaim.holds_of_cond 8 Tryz.f8 rfl rfl rfl rfl rfl rfl rfl ⟨rfl,rfl,rfl,rfl,rfl⟩ rfl rfl rfl rfl rfl (by kernel_rfl) Tryz.func8 facts
  (of_decide_eq_true (by kernel_rfl)) (by unfold Func.isWrapper;first|(rw[if_pos (by decide +kernel)];kernel_rfl)|(rw[if_neg (by decide +kernel)];exact⟨rfl,rfl⟩))
  (λos started H enc _ F=>by rw[OpenClaim.pre_eq_preRow];exact lifted os started H enc F)
theorem plain (f:FuncId)(fn:Func)(hf:Tryz.pinned.checked.prog.funcNamed "giro/girolaw20.PrinterInjective"=some f)(hfn:Tryz.pinned.checked.prog.funcs[f]? =some fn):
 true=Tryz.pinned.checked.prog.looks []/\∀(j:Nat) t,fn.params[j]? =some t->Tryz.pinned.checked.prog.wantsStandIn t=false:=by
 obtain rfl:f=8:=Option.some.inj ((show Tryz.prog.funcNamed "giro/girolaw20.PrinterInjective"=some 8 by kernel_rfl).symm.trans hf)|>.symm
 obtain rfl:fn=Tryz.f8:=(Option.some.inj (Tryz.func8.symm.trans hfn)).symm
 refine⟨by kernel_rfl,λj t ht=>?_⟩
 rw[Tryz.params8]at ht
 have hm:=Array.mem_of_getElem? ht
 simp at hm
 subst hm
 exact(show Tryz.prog.wantsStandIn 28=false by kernel_rfl)
theorem card:Rows.PrinterInjectiveCardSaid:=
 Claim7.holds_tied_plain_at .later [] _ _ _ _ said (λ_ h=>by cases h) (by kernel_rfl) (λ_ h=>by cases h) printerInjective_row_tie rfl ⟨rfl,rfl⟩ (by kernel_rfl) rfl plain (by kernel_rfl)
#print axioms card
end Go.Proofs.YtnjjeapcalkmaaaGreatDoor.lawPrInjective
