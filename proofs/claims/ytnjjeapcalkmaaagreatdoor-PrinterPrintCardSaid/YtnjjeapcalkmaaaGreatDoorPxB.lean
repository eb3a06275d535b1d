/-
  Part 2 of a proof; written short by a program out of longer texts of mine.
-/
import Derived.Test.YtnjjeapcalkmaaaGreatDoorPxA
set_option maxRecDepth 100000
set_option maxHeartbeats 4000000
set_option linter.unusedVariables false
set_option linter.unusedSimpArgs false
namespace Go.Proofs.YtnjjeapcalkmaaaGreatDoor
open Go.RowKit
structure Tch (r q:Nat)(W W':World):Prop where
 os:W'.os=W.os
 tape:W'.tape=W.tape
 output:W'.output=W.output
 size:W.heap.size<=W'.heap.size
 block:∀j,j<W.heap.size->j≠r->j≠q->W'.heap[j]? =W.heap[j]?
theorem Tch.refl (r q:Nat)(W:World):Tch r q W W:=⟨rfl,rfl,rfl,Nat.le_refl _,λ_ _ _ _=>rfl⟩
theorem Tch.trans {r q:Nat}{W W' W'':World}(h:Tch r q W W')(k:Tch r q W' W''):Tch r q W W'':=
 ⟨k.os.trans h.os,k.tape.trans h.tape,k.output.trans h.output,Nat.le_trans h.size k.size,λj hj h1 h2=>(k.block j (Nat.lt_of_lt_of_le hj h.size) h1 h2).trans (h.block j hj h1 h2)⟩
theorem Tch.left {r q:Nat}{W W':World}(h:Tch r r W W'):Tch r q W W':=⟨h.os,h.tape,h.output,h.size,λj hj h1 _=>h.block j hj h1 h1⟩
theorem Tch.right {r q:Nat}{W W':World}(h:Tch q q W W'):Tch r q W W':=⟨h.os,h.tape,h.output,h.size,λj hj _ h2=>h.block j hj h2 h2⟩
theorem Tch.of_below {r q:Nat}{W W':World}(h:Below W.heap.size W W'):Tch r q W W':=⟨h.os,h.tape,h.output,h.size,λj hj _ _=>h.block j hj⟩
theorem Tch.drew {r q:Nat}{W W':World}(h:Tch r q W W'):Tch r q W W'.drew:=⟨h.os,h.tape,h.output,h.size,h.block⟩
theorem Tch.cell {r q:Nat}{W W':World}(h:Tch r q W W'){p:Addr}{v:Value}(hp:W.cell? p=some v)(h1:p.block≠r)(h2:p.block≠q):W'.cell? p=some v:=by
 have hlt:=World.block_lt_of_cell? W p hp
 exact(World.cell?_of_block (h.block p.block hlt h1 h2)).trans hp
theorem Tch.below {B r q:Nat}{W W':World}(h:Tch r q W W')(h1:B<=r)(h2:B<=q)(hB:B<=W.heap.size):Below B W W':=
 ⟨h.os,h.tape,h.output,h.size,λj hj=>h.block j (Nat.lt_of_lt_of_le hj hB) (λe=>by omega) (λe=>by omega)⟩
def bK (tb n cap:Nat)(a:Nat)(o e:Int):Array Value:=#[.slice (some ⟨tb,0,none⟩) n cap,.int .i64 a,.int .i64 o,.int .i64 e]
def fw (W:World)(r tb cap:Nat)(l:List Ps.Tok)(st:Ps.St):Prop:=
 ∃(a:Nat) (o e:Int),W.heap[r]? =some (.cells (bK tb l.length cap a o e) 97 (0,0))/\iT W tb l/\tb≠r/\0<l.length/\l.length<=cap/\l.length<=1000000/\
  (match st with| .ok b=>a=b/\e=0/\b<=l.length| .error er=>e=er.2/\o=er.1/\e≠0)
theorem dF {W:World}{r tb n cap a:Nat}{o e:Int}(h:W.heap[r]? =some (.cells (bK tb n cap a o e) 97 (0,0))):
 W.cell? ⟨r,0,none⟩=some (.slice (some ⟨tb,0,none⟩) n cap)/\W.cell? ⟨r,1,none⟩=some (.int .i64 a)/\W.cell? ⟨r,2,none⟩=some (.int .i64 o)/\W.cell? ⟨r,3,none⟩=some (.int .i64 e)/\r<W.heap.size:=by
 refine⟨?_,?_,?_,?_,(Array.getElem?_eq_some_iff.1 h).1⟩
 all_goals rw[cell_of_row _ _ _ _ _ _ h];rfl
theorem fw.drewN {W:World}{r tb cap:Nat}{l:List Ps.Tok}{st:Ps.St}(h:fw W r tb cap l st)(k:Nat):fw (W.drewN k) r tb cap l st:=h
theorem Tch.drewN (r q:Nat)(W:World)(k:Nat):Tch r q W (W.drewN k):=⟨rfl,rfl,rfl,Nat.le_refl _,λ_ _ _ _=>rfl⟩
theorem OP (W:World)(r tb n cap a:Nat)(e:Int)(b1 b2:Bool)(k0:W.cell? ⟨r,0,none⟩=some (.slice (some ⟨tb,0,none⟩) n cap))(k1:W.cell? ⟨r,1,none⟩=some (.int .i64 a))(k3:W.cell? ⟨r,3,none⟩=some (.int .i64 e))
 (h1:(e==0)=b1) (h2:decide (a<n)=b2):
 Calls Tryz.prog 55 #[.pointer (some ⟨r,0,none⟩)] W λe W'=>e=.returned (.bool (b1&&b2))/\∃k,W'=W.drewN k:=by
 cases b1
 all_goals
  go_enter Tryz.func55,Tryz.ntmps55
  go_wp2_with fail
  go_quiet (fail)
  go_wp2_with fail
  go_ret
  exact⟨by simp,_,rfl⟩
theorem nk {W:World}{r tb cap:Nat}{l:List Ps.Tok}{st:Ps.St}(h:fw W r tb cap l st):
 Calls Tryz.prog 55 #[.pointer (some ⟨r,0,none⟩)] W λe W'=>e=.returned (.bool (Ps.dU l st))/\∃k,W'=W.drewN k:=by
 obtain⟨a,o,e,hr,-,-,-,-,-,hst⟩:=h
 obtain⟨k0,k1,-,k3,-⟩:=dF hr
 refine(OP W r tb l.length cap a e _ _ k0 k1 k3 rfl rfl).mono ?_
 rintro x w ⟨rfl,hk⟩
 refine⟨?_,hk⟩
 cases st with
 |ok b=>
  obtain⟨rfl,rfl,-⟩:=hst
  simp[Ps.dU]
 |error er=>
  obtain⟨-,-,he⟩:=hst
  have:(e==0)=false:=by rw[beq_eq_false_iff_ne];exact he
  rw[this];rfl
theorem sW (W:World)(r:Nat)(n1:Calls Tryz.prog 55 #[.pointer (some ⟨r,0,none⟩)] W λe W'=>e=.returned (.bool true)/\∃k,W'=W.drewN k):
 Calls Tryz.prog 50 #[.pointer (some ⟨r,0,none⟩)] W λe W'=>e=.returned (.bool true)/\∃k,W'=W.drewN k:=by
 go_enter Tryz.func50,Tryz.ntmps50
 go_wp2_with fail
 refine n1.mono ?_
 rintro e w ⟨rfl,k,rfl⟩
 clear n1
 go_wp2_with fail
 go_ret
 exact⟨rfl,_,rfl⟩
theorem Lm (W:World)(r:Nat)(e:Int)(k3:W.cell? ⟨r,3,none⟩=some (.int .i64 e))(he:(e==0)=false)(n1:Calls Tryz.prog 55 #[.pointer (some ⟨r,0,none⟩)] W λe W'=>e=.returned (.bool false)/\∃k,W'=W.drewN k):
 Calls Tryz.prog 50 #[.pointer (some ⟨r,0,none⟩)] W λe W'=>e=.returned (.bool false)/\∃k,W'=W.drewN k:=by
 go_enter Tryz.func50,Tryz.ntmps50
 go_wp2_with fail
 refine n1.mono ?_
 rintro x w ⟨rfl,k,rfl⟩
 have d3:(W.drewN k).cell? ⟨r,3,none⟩=some (.int .i64 e):=k3
 clear n1 k3
 go_wp2_with fail
 go_ret
 exact⟨rfl,_,rfl⟩
theorem ai (w:World)(g i:Nat)(cur:Array Value)(t:TypeId)(v:Value)(hg:w.heap[g]? =some (.cells cur t (0,0))):(w.setCell ⟨g,i,none⟩ v).heap[g]? =some (.cells (cur.setIfInBounds i v) t (0,0)):=by
 rw[setCell_eq_setRow w g i cur t (0,0) v hg]
 exact setRow_heap w g cur _ t _ hg
theorem aV {w:World}{g:Nat}(i:Nat){cur:Array Value}{t:TypeId}(hg:w.heap[g]? =some (.cells cur t (0,0))):w.frozen? ⟨g,i,none⟩=false:=by
 simp[World.frozen?,hg]
theorem Tch.setCell {r q:Nat}{W W':World}(h:Tch r q W W')(i:Nat)(v:Value):Tch r q W (W'.setCell ⟨r,i,none⟩ v):=
 ⟨h.os,h.tape,h.output,by have:=h.size;simpa[World.setCell]using this,λj hj h1 h2=>(Below.heap_setCell W' _ v j (λe=>h1 (by rw[e]))).trans (h.block j hj h1 h2)⟩
theorem Ke (W:World)(r tb n cap a m:Nat)(o at_ sz:Int)(t:ByteArray)(hrow:W.heap[r]? =some (.cells (bK tb n cap a o 0) 97 (0,0)))(h0:(0:Int)<(n:Int))(hm:(n:Int)-1=(m:Int))(_hml:m<n)(hmi:(m:Int)<(n:Int))(hwm:IntKind.i64.wrap (m:Int)=(m:Int))(_hmc:n<=cap)
 (t1:W.cell? ⟨tb,m*3+1,none⟩=some (.string t)) (t2:W.cell? ⟨tb,m*3+2,none⟩=some (.int .i64 at_)) (hne:tb≠r) (hz:(t.size:Int)=sz) (hw:IntKind.i64.wrap (at_+sz)=at_+sz)
 (n1:Calls Tryz.prog 55 #[.pointer (some ⟨r,0,none⟩)] W λe W'=>e=.returned (.bool false)/\∃k,W'=W.drewN k):
 Calls Tryz.prog 50 #[.pointer (some ⟨r,0,none⟩)] W λe W'=>e=.returned (.bool false)/\W'.heap[r]? =some (.cells (bK tb n cap a (at_+sz) 4) 97 (0,0))/\Tch r r W W':=by
 obtain⟨k0,k1,k2,k3,-⟩:=dF hrow
 have HR:=Lib.hid hrow
 go_enter Tryz.func50,Tryz.ntmps50
 go_wp2_with fail
 refine n1.mono ?_
 rintro x w ⟨rfl,k,rfl⟩
 obtain⟨w,hw0⟩:∃w,w=W.drewN k:=⟨_,rfl⟩
 have hr:w.heap[r]? =some (.cells (bK tb n cap a o 0) 97 (0,0)):=by rw[hw0];exact hrow
 obtain⟨d0,d1,d2,d3,-⟩:=dF hr
 have e1:w.cell? ⟨tb,m*3+1,none⟩=some (.string t):=by rw[hw0];exact t1
 have e2:w.cell? ⟨tb,m*3+2,none⟩=some (.int .i64 at_):=by rw[hw0];exact t2
 have f3:=aV 3 hr
 have f2:=aV 2 hr
 have HT:Hid (Tch r r W w):=Lib.hid (by rw[hw0];exact Tch.drewN _ _ _ _)
 rw[<-hw0]
 clear n1 hw0 k0 k1 k2 k3 t1 t2 hrow HR
 have HRW:=Lib.hid hr
 clear hr
 go_wp2_with fail
 obtain⟨w5,Ur⟩:∃w5,w5=w.setCell ⟨r,3,none⟩ (.int .i64 4):=⟨_,rfl⟩
 rw[<-Ur]
 have hr5:w5.heap[r]? =some (.cells (bK tb n cap a o 4) 97 (0,0)):=by rw[Ur];exact ai w r 3 _ _ _ HRW.out
 have HT5:Hid (Tch r r W w5):=Lib.hid (by rw[Ur];exact HT.out.setCell 3 _)
 have g1:w5.drew.cell? ⟨tb,m*3+1,none⟩=some (.string t):=by rw[Ur];exact((Tch.refl r r w).setCell 3 _).cell e1 hne hne
 have g2:w5.drew.cell? ⟨tb,m*3+2,none⟩=some (.int .i64 at_):=by rw[Ur];exact((Tch.refl r r w).setCell 3 _).cell e2 hne hne
 have hr6:w5.drew.heap[r]? =some (.cells (bK tb n cap a o 4) 97 (0,0)):=hr5
 obtain⟨h0',h1',h2',h3',-⟩:=dF hr6
 have f6:=aV 2 hr6
 have HR6:=Lib.hid hr6
 have HT6:=Lib.hid (HT5.out.drew)
 clear d0 d1 d2 d3 e1 e2 f3 f2 Ur hr5 hr6 HT5
 refine wp_region_still_tail 23 (by kernel_rfl) (by kernel_rfl) ?_
 simp only[List.take_succ_cons,List.take_zero,List.drop_succ_cons,List.drop_zero]
 change wpStill _ _ (World.drew _) _ _ _
 repeat still_step
 refine wpStill_nil ?_
 change wpList _ _ _ _ _ (World.drew _)
 generalize w5.drew=w6 at *
 go_wp2_with fail
 go_ret
 exact⟨rfl,ai w6 r 2 _ _ _ HR6.out,HT6.out.setCell 2 _⟩
theorem fw.tok {W:World}{r tb cap:Nat}{l:List Ps.Tok}{st:Ps.St}(h:fw W r tb cap l st):iT W tb l:=by obtain⟨_,_,_,_,h,_⟩:=h;exact h
theorem iT.tch {W W':World}{r q tb:Nat}{l:List Ps.Tok}(h:iT W tb l)(k:Tch r q W W')(h1:tb≠r)(h2:tb≠q):iT W' tb l:=λj x hx=>by
 obtain⟨e1,e2,e3⟩:=h j x hx
 exact⟨k.cell e1 h1 h2,k.cell e2 h1 h2,k.cell e3 h1 h2⟩
def fq (l:List Ps.Tok):Prop:=∀t∈l,t.2.1.size<=1000000/\t.2.2<=1000000
theorem vL {W:World}{r tb cap:Nat}{l:List Ps.Tok}{st:Ps.St}(h:fw W r tb cap l st)(hl:fq l):
 Calls Tryz.prog 50 #[.pointer (some ⟨r,0,none⟩)] W λe W'=>e=.returned (.bool (Ps.dU l st))/\fw W' r tb cap l (Ps.gB l st)/\Tch r r W W':=by
 have n1:=nk h
 have h0:=h
 obtain⟨a,o,e,hr,ht,hne,hpos,hcap,gN,hst⟩:=h
 obtain⟨k0,k1,k2,k3,-⟩:=dF hr
 cases st with
 |ok b=>
  obtain⟨rfl,rfl,hle⟩:=hst
  by_cases hlt:a<l.length
  ·have e1:Ps.dU l (.ok a)=true:=by simp[Ps.dU,hlt]
   have e2:Ps.gB l (.ok a)=.ok a:=by simp[Ps.gB,hlt]
   rw[e1]at n1⊢
   rw[e2]
   refine(sW W r n1).mono ?_
   rintro x w ⟨rfl,k,rfl⟩
   exact⟨rfl,h0,Tch.drewN _ _ _ _⟩
  ·have e1:Ps.dU l (.ok a)=false:=by simp[Ps.dU];omega
   have e2:Ps.gB l (.ok a)=.error (Ps.short l):=by simp[Ps.gB,hlt]
   rw[e1]at n1⊢
   rw[e2]
   obtain⟨m,hm⟩:∃m,l.length=m+1:=⟨l.length-1,by omega⟩
   obtain⟨t,htm⟩:∃t,l[m]? =some t:=⟨_,List.getElem?_eq_getElem (by omega)⟩
   obtain⟨t1,t2,t3⟩:=ht m t htm
   have hok:=hl t (List.mem_of_getElem? htm)
   have hend:Ps.short l=(((t.2.2:Int)+(t.2.1.size:Int)),4):=by
    unfold Ps.short Ps.Bb
    rw[List.getLast?_eq_getElem?,show l.length-1=m from by omega,htm]
    simp
   refine(Ke W r tb l.length cap a m o t.2.2 t.2.1.size t.2.1 hr (by omega) (by omega) (by omega) (by omega) (IntWalk.i64_in _ (by omega)) hcap t2 t3 hne rfl (IntWalk.i64_in _ (by omega)) n1).mono ?_
   rintro x w ⟨rfl,hw,hT⟩
   refine⟨rfl,⟨a,_,4,hw,ht.tch hT hne hne,hne,hpos,hcap,gN,?_⟩,hT⟩
   rw[hend]
   exact⟨rfl,rfl,by decide⟩
 |error er=>
  obtain⟨he,ho,hz⟩:=hst
  have hb:(e==0)=false:=by rw[beq_eq_false_iff_ne];exact hz
  refine(Lm W r e k3 hb n1).mono ?_
  rintro x w ⟨rfl,k,rfl⟩
  exact⟨rfl,h0,Tch.drewN _ _ _ _⟩
theorem K5 (W:World)(r:Nat)
 (n1:Hid (∀k,Calls Tryz.prog 55 #[.pointer (some ⟨r,0,none⟩)] (W.drewN k) λe W'=>e=.returned (.bool false)/\∃m,W'=(W.drewN k).drewN m)):
 Calls Tryz.prog 51 #[.pointer (some ⟨r,0,none⟩)] W λe W'=>e=.returned (.string ⟨#[]⟩)/\∃k,W'=W.drewN k:=by
 go_enter Tryz.func51,Tryz.ntmps51
 go_wp2_with fail
 go_quiet ((first|(go_at_call 55;with_reducible exact Calls.quiet_of (n1.out _))))
 clear n1
 go_wp2_with fail
 go_ret
 exact⟨rfl,_,rfl⟩
theorem Dr (W:World)(r tb n cap a:Nat)(kd:Int)(k0:W.cell? ⟨r,0,none⟩=some (.slice (some ⟨tb,0,none⟩) n cap))(k1:W.cell? ⟨r,1,none⟩=some (.int .i64 a))(hlt:(a:Int)<(n:Int))
 (t0:W.cell? ⟨tb,a*3,none⟩=some (.int .i64 kd)) (hk:(kd==0)=false)
 (n1:Hid (∀k,Calls Tryz.prog 55 #[.pointer (some ⟨r,0,none⟩)] (W.drewN k) λe W'=>e=.returned (.bool true)/\∃m,W'=(W.drewN k).drewN m)):
 Calls Tryz.prog 51 #[.pointer (some ⟨r,0,none⟩)] W λe W'=>e=.returned (.string ⟨#[]⟩)/\∃k,W'=W.drewN k:=by
 go_enter Tryz.func51,Tryz.ntmps51
 go_wp2_with fail
 go_quiet ((first|(go_at_call 55;with_reducible exact Calls.quiet_of (n1.out _))))
 clear n1
 go_wp2_with fail
 go_ret
 exact⟨rfl,_,rfl⟩
theorem D6 (W:World)(r tb n cap a:Nat)(t:ByteArray)(k0:W.cell? ⟨r,0,none⟩=some (.slice (some ⟨tb,0,none⟩) n cap))(k1:W.cell? ⟨r,1,none⟩=some (.int .i64 a))(hlt:(a:Int)<(n:Int))
 (t0:W.cell? ⟨tb,a*3,none⟩=some (.int .i64 0)) (t1:W.cell? ⟨tb,a*3+1,none⟩=some (.string t))
 (n1:Hid (∀k,Calls Tryz.prog 55 #[.pointer (some ⟨r,0,none⟩)] (W.drewN k) λe W'=>e=.returned (.bool true)/\∃m,W'=(W.drewN k).drewN m)):
 Calls Tryz.prog 51 #[.pointer (some ⟨r,0,none⟩)] W λe W'=>e=.returned (.string t)/\∃k,W'=W.drewN k:=by
 go_enter Tryz.func51,Tryz.ntmps51
 go_wp2_with fail
 go_quiet ((first|(go_at_call 55;with_reducible exact Calls.quiet_of (n1.out _))))
 clear n1
 go_wp2_with fail
 go_quiet (fail)
 go_wp2_with fail
 go_ret
 exact⟨rfl,by rw[World.drewN_drewN];exact⟨_,rfl⟩⟩
theorem vI {W:World}{r tb cap:Nat}{l:List Ps.Tok}{st:Ps.St}(h:fw W r tb cap l st):
 Calls Tryz.prog 51 #[.pointer (some ⟨r,0,none⟩)] W λe W'=>e=.returned (.string (Ps.jk l st))/\∃k,W'=W.drewN k:=by
 have n1:∀k,Calls Tryz.prog 55 #[.pointer (some ⟨r,0,none⟩)] (W.drewN k) λe W'=>e=.returned (.bool (Ps.dU l st))/\∃m,W'=(W.drewN k).drewN m:=λk=>nk (h.drewN k)
 cases hb:Ps.dU l st with
 |false=>
  rw[hb]at n1
  rw[Ps.CL l st hb]
  exact K5 W r (Lib.hid n1)
 |true=>
  rw[hb]at n1
  obtain⟨a,o,e,hr,ht,hne,hpos,hcap,gN,hst⟩:=h
  obtain⟨k0,k1,k2,k3,-⟩:=dF hr
  cases st with
  |error er=>cases hb
  |ok b=>
   obtain⟨rfl,rfl,hle⟩:=hst
   have hlt:a<l.length:=by simpa[Ps.dU]using hb
   obtain⟨t,kL⟩:∃t,l[a]? =some t:=⟨_,List.getElem?_eq_getElem hlt⟩
   obtain⟨t0,t1,t2⟩:=ht a t kL
   by_cases hk:t.1=0
   ·have hp:Ps.jk l (.ok a)=t.2.1:=by simp only[Ps.jk,Ps.aU,kL,if_pos hk]
    rw[hp]
    rw[hk]at t0
    exact D6 W r tb l.length cap a t.2.1 k0 k1 (by omega) t0 t1 (Lib.hid n1)
   ·have hp:Ps.jk l (.ok a)=⟨#[]⟩:=by simp only[Ps.jk,Ps.aU,kL,if_neg hk]
    rw[hp]
    exact Dr W r tb l.length cap a t.1 k0 k1 (by omega) t0 (by rw[beq_eq_false_iff_ne];exact hk) (Lib.hid n1)
theorem K7 (W:World)(r:Nat)(e n:Int)(k3:W.cell? ⟨r,3,none⟩=some (.int .i64 e))(he:(e==0)=false):
 Calls Tryz.prog 54 #[.pointer (some ⟨r,0,none⟩),.int .i64 n] W λe W'=>e=.returned (.tuple #[])/\∃k,W'=W.drewN k:=by
 go_enter Tryz.func54,Tryz.ntmps54
 go_wp2_with fail
 go_end0
 exact⟨rfl,0,rfl⟩
theorem J9 (W:World)(r tb n cap a:Nat)(o at_ en:Int)(hrow:W.heap[r]? =some (.cells (bK tb n cap a o 0) 97 (0,0)))(hlt:(a:Int)<(n:Int))(t2:W.cell? ⟨tb,a*3+2,none⟩=some (.int .i64 at_))(_hne:tb≠r):
 Calls Tryz.prog 54 #[.pointer (some ⟨r,0,none⟩),.int .i64 en] W λe W'=>e=.returned (.tuple #[])/\W'.heap[r]? =some (.cells (bK tb n cap a at_ en) 97 (0,0))/\Tch r r W W':=by
 obtain⟨k0,k1,k2,k3,-⟩:=dF hrow
 have d0:W.drew.cell? ⟨r,0,none⟩=some (.slice (some ⟨tb,0,none⟩) n cap):=k0
 have d1:W.drew.cell? ⟨r,1,none⟩=some (.int .i64 a):=k1
 have d2:W.drew.cell? ⟨tb,a*3+2,none⟩=some (.int .i64 at_):=t2
 have f2:W.drew.frozen? ⟨r,2,none⟩=false:=aV 2 (w:=W.drew) hrow
 have f3:W.drew.frozen? ⟨r,3,none⟩=false:=aV 3 (w:=W.drew) hrow
 have f2':=aV 2 hrow
 have f3':=aV 3 hrow
 have HR:=Lib.hid hrow
 clear hrow
 go_enter Tryz.func54,Tryz.ntmps54
 go_wp2_with fail
 go_region_law (fail)
 all_goals
  go_end0
  exact⟨rfl,ai _ r 2 _ _ _ (ai W r 3 _ _ _ HR.out),(((Tch.refl r r W).setCell 3 _).setCell 2 _).drew⟩
theorem lT {W:World}{r tb cap:Nat}{l:List Ps.Tok}{st:Ps.St}(h:fw W r tb cap l st)(n:Int)(hn:n≠0)(hst:∀a,st=.ok a->a<l.length):
 Calls Tryz.prog 54 #[.pointer (some ⟨r,0,none⟩),.int .i64 n] W λe W'=>e=.returned (.tuple #[])/\fw W' r tb cap l (Ps.qO l n st)/\Tch r r W W':=by
 have h0:=h
 obtain⟨a,o,e,hr,ht,hne,hpos,hcap,gN,hs⟩:=h
 cases st with
 |error er=>
  obtain⟨he,ho,hz⟩:=hs
  refine(K7 W r e n (dF hr).2.2.2.1 (by rw[beq_eq_false_iff_ne];exact hz)).mono ?_
  rintro x w ⟨rfl,k,rfl⟩
  exact⟨rfl,h0,Tch.drewN _ _ _ _⟩
 |ok b=>
  obtain⟨rfl,rfl,hle⟩:=hs
  have hlt:=hst a rfl
  obtain⟨t,kL⟩:∃t,l[a]? =some t:=⟨_,List.getElem?_eq_getElem hlt⟩
  obtain⟨t0,t1,t2⟩:=ht a t kL
  refine(J9 W r tb l.length cap a o t.2.2 n hr (by omega) t2 hne).mono ?_
  rintro x w ⟨rfl,hw,hT⟩
  have hf:Ps.qO l n (.ok a)=.error (t.2.2,n):=by simp only[Ps.qO,Ps.av,kL]
  rw[hf]
  exact⟨rfl,⟨a,_,n,hw,ht.tch hT hne hne,hne,hpos,hcap,gN,rfl,rfl,hn⟩,hT⟩
theorem KS (W:World)(r:Nat)(s:ByteArray)(P:World->Prop)
 (n1:Calls Tryz.prog 50 #[.pointer (some ⟨r,0,none⟩)] W λe W'=>e=.returned (.bool false)/\P W'):
 Calls Tryz.prog 179 #[.pointer (some ⟨r,0,none⟩),.string s] W λe W'=>e=.returned (.tuple #[])/\P W':=by
 go_enter Tryz.func179,Tryz.ntmps179
 go_wp2_with fail
 refine n1.mono ?_
 rintro x w ⟨rfl,hp⟩
 clear n1
 go_wp2_with fail
 refine bodyPost_ret (results_none rfl _ _ _) rfl ?_
 exact⟨rfl,hp⟩
theorem IG (W:World)(r:Nat)(s t:ByteArray)(T P:World->Prop)(hts:(t.toList==s.toList)=false)
 (n1:Calls Tryz.prog 50 #[.pointer (some ⟨r,0,none⟩)] W λe W'=>e=.returned (.bool true)/\T W')
 (n2:Hid (∀w,T w->Calls Tryz.prog 51 #[.pointer (some ⟨r,0,none⟩)] w λe W'=>e=.returned (.string t)/\T W'))
 (n3:Hid (∀w,T w->Calls Tryz.prog 54 #[.pointer (some ⟨r,0,none⟩),.int .i64 30] w λe W'=>e=.returned (.tuple #[])/\P W')):
 Calls Tryz.prog 179 #[.pointer (some ⟨r,0,none⟩),.string s] W λe W'=>e=.returned (.tuple #[])/\P W':=by
 go_enter Tryz.func179,Tryz.ntmps179
 go_wp2_with fail
 refine n1.mono ?_
 rintro x w ⟨rfl,ht⟩
 have m2:=n2.out w ht
 clear n1 n2
 go_wp2_with fail
 refine m2.mono ?_
 rintro x w2 ⟨rfl,ht2⟩
 have m3:=n3.out w2 ht2
 clear m2 n3
 go_wp2_with fail
 refine m3.mono ?_
 rintro x w3 ⟨rfl,hp⟩
 clear m3
 go_wp2_with fail
 refine bodyPost_ret (results_none rfl _ _ _) rfl ?_
 exact⟨rfl,hp⟩
theorem Lg (W:World)(r tb n cap a:Nat)(o:Int)(s:ByteArray)(T:World->Prop)(hw1:wrap64 ((a:Int)+1)=((a+1:Nat):Int))
 (hT:Hid (∀w,T w->w.heap[r]? =some (.cells (bK tb n cap a o 0) 97 (0,0))/\Tch r r W w))
 (n1:Calls Tryz.prog 50 #[.pointer (some ⟨r,0,none⟩)] W λe W'=>e=.returned (.bool true)/\T W')
 (n2:Hid (∀w,T w->Calls Tryz.prog 51 #[.pointer (some ⟨r,0,none⟩)] w λe W'=>e=.returned (.string s)/\T W')):
 Calls Tryz.prog 179 #[.pointer (some ⟨r,0,none⟩),.string s] W λe W'=>e=.returned (.tuple #[])/\W'.heap[r]? =some (.cells (bK tb n cap (a+1) o 0) 97 (0,0))/\Tch r r W W':=by
 go_enter Tryz.func179,Tryz.ntmps179
 go_wp2_with fail
 refine n1.mono ?_
 rintro x w ⟨rfl,ht⟩
 have m2:=n2.out w ht
 clear n1 n2
 go_wp2_with fail
 refine m2.mono ?_
 rintro x w2 ⟨rfl,ht2⟩
 obtain⟨hr,hc⟩:=hT.out w2 ht2
 have k1:=(dF hr).2.1
 have f1:=aV 1 hr
 have HR:=Lib.hid hr
 have HC:=Lib.hid hc
 clear m2 hT hr hc ht ht2
 go_wp2_with fail
 go_end0
 refine⟨rfl,?_,HC.out.setCell 1 _⟩
 have h:=ai w2 r 1 _ _ (.int .i64 ((a+1:Nat):Int)) HR.out
 first|exact h|(rw[hw1];exact h)|(show(w2.setCell ⟨r,1,none⟩ (.int .i64 (wrap64 ((a:Int)+1)))).heap[r]? =_;rw[hw1];exact h)
theorem SY {W:World}{r tb cap:Nat}{l:List Ps.Tok}{st:Ps.St}(h:fw W r tb cap l st)(hl:fq l)(s:ByteArray):
 Calls Tryz.prog 179 #[.pointer (some ⟨r,0,none⟩),.string s] W λe W'=>e=.returned (.tuple #[])/\fw W' r tb cap l (Ps.step (Ps.word l s.data.toList) () st).2/\Tch r r W W':=by
 have n1:=vL h hl
 cases hb:Ps.dU l st with
 |false=>
  rw[hb]at n1
  have e1:Ps.gB l st=(Ps.step (Ps.word l s.data.toList) () st).2:=by
   cases st with
   |error er=>rfl
   |ok a=>
    have hge:l.length<=a:=by simpa[Ps.dU]using hb
    have hw:Ps.word l s.data.toList a=.error (Ps.short l):=by unfold Ps.word;rw[if_pos hge]
    rw[Ps.bF hw]
    simp[Ps.gB,Nat.not_lt.2 hge]
  rw[e1]at n1
  exact KS W r s _ n1
 |true=>
  cases st with
  |error er=>cases hb
  |ok a=>
   have hlt:a<l.length:=by simpa[Ps.dU]using hb
   have e2:Ps.gB l (.ok a)=.ok a:=by simp[Ps.gB,hlt]
   rw[hb,e2]at n1
   have n2:∀w,(fw w r tb cap l (.ok a)/\Tch r r W w)->Calls Tryz.prog 51 #[.pointer (some ⟨r,0,none⟩)] w λe W'=>e=.returned (.string (Ps.aU l a))/\(fw W' r tb cap l (.ok a)/\Tch r r W W'):=λw hw=>
    (vI hw.1).mono λe W' ⟨h1,k,h2⟩=>⟨h1,by rw[h2];exact hw.1,by rw[h2];exact hw.2.trans (Tch.drewN _ _ _ _)⟩
   by_cases hp:(Ps.aU l a).data.toList=s.data.toList
   ·have hw:Ps.word l s.data.toList a=.ok ((),a+1):=by unfold Ps.word;rw[if_neg (by omega),if_pos hp]
    rw[Ps.step_ok hw]
    have hps:Ps.aU l a=s:=by
     apply ByteArray.ext
     exact Array.toList_inj.1 hp
    have hm:=nk h
    rw[hb]at hm
    obtain⟨a',o,e,hr,ht,hne,hpos,hcap,gN,hs⟩:=h
    obtain⟨rfl,rfl,hle⟩:=hs
    have back:∀w,(w.heap[r]? =some (.cells (bK tb l.length cap a' o 0) 97 (0,0))/\Tch r r W w)->fw w r tb cap l (.ok a'):=λw hw=>
     ⟨a',o,0,hw.1,ht.tch hw.2 hne hne,hne,hpos,hcap,gN,rfl,rfl,hle⟩
    refine(Lg W r tb l.length cap a' o s (λw=>w.heap[r]? =some (.cells (bK tb l.length cap a' o 0) 97 (0,0))/\Tch r r W w) (by unfold wrap64;omega) (Lib.hid λw hw=>hw) ?_ (Lib.hid λw hw=>?_)).mono ?_
    ·refine(sW W r hm).mono ?_
     rintro x w ⟨rfl,k,rfl⟩
     exact⟨rfl,hr,Tch.drewN _ _ _ _⟩
    ·refine(vI (back w hw)).mono ?_
     rintro x w2 ⟨rfl,k,rfl⟩
     have hpk:Ps.jk l (.ok a')=s:=hps
     rw[hpk]
     exact⟨rfl,hw.1,hw.2.trans (Tch.drewN _ _ _ _)⟩
    ·rintro x w ⟨rfl,hw,hT⟩
     exact⟨rfl,⟨a'+1,o,0,hw,ht.tch hT hne hne,hne,hpos,hcap,gN,rfl,rfl,hlt⟩,hT⟩
   ·have hw:Ps.word l s.data.toList a=.error (Ps.av l a,30):=by unfold Ps.word;rw[if_neg (by omega),if_neg hp]
    rw[Ps.bF hw]
    refine IG W r s (Ps.aU l a) (λw=>fw w r tb cap l (.ok a)/\Tch r r W w) _ (by rw[beq_eq_false_iff_ne,Lib.toList_data,Lib.toList_data];exact hp) n1 (Lib.hid n2) (Lib.hid λw hw=>?_)
    refine(lT hw.1 30 (by decide) (λb hb=>by cases hb;exact hlt)).mono ?_
    rintro e W' ⟨h1,h2,h3⟩
    exact⟨h1,h2,hw.2.trans h3⟩
open Go.Proofs.YtnjjeapcalkmaaaGreatDoor.Ord
section
variable {S : World → Prop} {ρ : Operand → Value} {o : Oper}
theorem jR {x:Operand}{v:Value}(ho:o.op=.move x)(h:ρ x=v):YB Tryz.prog S ρ o v:=λw hS=>by
 unfold execOp;simp only[ho,h];exact⟨rfl,hS⟩
theorem eH {t:TypeId}{x:Operand}{f:Nat}{p p':Addr}(ho:o.op=.fieldAddr t x f)(h:ρ x=.pointer (some p))(hr:∀w,(Instr.fieldAt t (.pointer (some p)) f).run Tryz.prog w=.ok (.pointer (some p')) w):YB Tryz.prog S ρ o (.pointer (some p')):=λw hS=>by
 unfold execOp;simp only[ho,h,Sem.run_bind,hr,Result.andThen_ok];exact⟨rfl,hS⟩
theorem fA {t:TypeId}{x:Operand}{p:Addr}{v:Value}(ho:o.op=.load t x)(h:ρ x=.pointer (some p))(hr:∀w,S w->(Instr.loadAt t (.pointer (some p))).run Tryz.prog w=.ok v w):YB Tryz.prog S ρ o v:=λw hS=>by
 unfold execOp;simp only[ho,h,Sem.run_bind,hr w hS,Result.andThen_ok];exact⟨rfl,hS⟩
theorem Uf {op:BinOp}{t t2:TypeId}{x y:Operand}{v1 v2 v:Value}(ho:o.op=.binOp op t x y t2)(h1:ρ x=v1)(h2:ρ y=v2)(hr:∀w,(do eqGuard op t x y v1 v2;binOp op t v1 v2:Sem Value).run Tryz.prog w=.ok v w):YB Tryz.prog S ρ o v:=λw hS=>by
 unfold execOp;simp only[ho,h1,h2]
 rw[Sem.run_bind,hr w];exact⟨rfl,hS⟩
theorem Bq {t:TypeId}{parts:Array (Nat×Operand)}{v:Value}(ho:o.op=.build t parts)(hr:∀w,(Instr.build t (parts.map λ(i,x)=>(i,ρ x))).run Tryz.prog w=.ok v w):YB Tryz.prog S ρ o v:=λw hS=>by
 unfold execOp;simp only[ho,Sem.run_bind,hr,Result.andThen_ok];exact⟨rfl,hS⟩
end
section
variable {S : World → Prop} {ρ : Operand → Value} {o : Oper} {vs : List Value}
theorem bT {v:Value}(hg:o.guard=none)(h:YB Tryz.prog S ρ o v):YV Tryz.prog S ρ vs o v:=by
 unfold YV iB
 rw[hg]
 exact⟨λ_=>h,λh=>by cases h⟩
end
theorem Fs (p:Addr)(w:World)(v:Int)(h:w.cell? p=some (.int .i64 v)):(Instr.loadAt 3 (.pointer (some p))).run Tryz.prog w=.ok (.int .i64 v) w:=by go_simp
theorem Hr (p:Addr)(w:World)(v:ByteArray)(h:w.cell? p=some (.string v)):(Instr.loadAt 9 (.pointer (some p))).run Tryz.prog w=.ok (.string v) w:=by go_simp
section
variable {P : Program} {ops : Array Oper} {Q : Exit → Act → World → Prop}
theorem ku {i:Nat}{rest:List Nat}{o:Oper}{a:Act}{w:World}(hi:ops[i]? =some o)(hg:o.guard=none)(h:o.wp P a w (wpOps P ops Q rest) Q):wpOps P ops Q (i::rest) a w:=by
 rw[wpOps_cons]
 unfold wpOp
 simp only[hi,Region.wanted,hg,if_true]
 exact .inl h
theorem jl {rest:List Oper}{o:Oper}{a:Act}{w:World}{t:TypeId}{x:Operand}{v u:Value}{d:Nat}(hg:o.guard=none)(hd:o.dst=some d)(ho:o.op=.load t x)(hx:a.eval x=v)(hr:(Instr.loadAt t v).run P w=.ok u w)(h:wpList P ops Q rest ⟨a.tmps.setIfInBounds d u,a.defers⟩ w):wpList P ops Q (o::rest) a w:=by
 refine wpList_plain hg λK hK=>?_
 unfold Oper.wp execOp
 rw[ho]
 simp only[hx,Sem.run_bind,hr,Result.andThen_ok]
 refine hK _ _ ?_
 rw[hd]
 exact h
theorem Tk {rest:List Oper}{o:Oper}{a:Act}{w:World}{t:TypeId}{x:Operand}{f:Nat}{v u:Value}{d:Nat}(hg:o.guard=none)(hd:o.dst=some d)(ho:o.op=.fieldAddr t x f)(hx:a.eval x=v)(hr:(Instr.fieldAt t v f).run P w=.ok u w)(h:wpList P ops Q rest ⟨a.tmps.setIfInBounds d u,a.defers⟩ w):wpList P ops Q (o::rest) a w:=by
 refine wpList_plain hg λK hK=>?_
 unfold Oper.wp execOp
 rw[ho]
 simp only[hx,Sem.run_bind,hr,Result.andThen_ok]
 refine hK _ _ ?_
 rw[hd]
 exact h
theorem mQ {rest:List Oper}{o:Oper}{a:Act}{w:World}{u:Value}{d:Nat}(hg:o.guard=none)(hd:o.dst=some d)(hr:(execOp a.eval o).run P w=.ok (.value u) w)(h:wpList P ops Q rest ⟨a.tmps.setIfInBounds d u,a.defers⟩ w):wpList P ops Q (o::rest) a w:=by
 refine wpList_plain hg λK hK=>?_
 unfold Oper.wp
 rw[hr]
 refine hK _ _ ?_
 rw[hd]
 exact h
theorem eval_put {b:Act}{d:Nat}{v:Value}(hd:d<b.tmps.size):(b.put (some d) v).eval (.tmp d)=v:=by
 show(b.tmps.setIfInBounds d v).getD d undef=v
 simp[hd]
end
theorem Mt (p:Addr)(w:World)(a:Option Addr)(n c:Nat)(h:w.cell? p=some (.slice a n c)):(Instr.loadAt 32 (.pointer (some p))).run Tryz.prog w=.ok (.slice a n c) w:=by go_simp
section
variable (x y : Operand) (n m : Int) (s t : ByteArray) (w : World)
end
theorem yR {P:Program}{S:World->Prop}{ρ:Operand->Value}{vs vs2:List Value}{l:List Oper}(h:vs=vs2)(h2:ji P S ρ vs l vs2):ji P S ρ vs l vs:=by
 rw[<-h]at h2;exact h2
theorem kU {ρ:Operand->Value}{vs vs2:List Value}{l:List Oper}(h:vs=vs2)(h2:cO ρ l vs):cO ρ l vs2:=by
 rw[h]at h2;exact h2
theorem cmE {e b:Bool}{s:Sem Value}(he:e=b)(h:∀w,s.run Tryz.prog w=.ok (.bool e) w):∀w,s.run Tryz.prog w=.ok (.bool b) w:=by
 subst he;exact h
theorem yJ {S:World->Prop}{ρ:Operand->Value}{o:Oper}{x:Operand}{p:Addr}(ho:o.op=.nilCheck x)(h:ρ x=.pointer (some p)):YB Tryz.prog S ρ o (.pointer (some p)):=λw hS=>by
 unfold execOp
 simp only[ho,h]
 go_simp
 exact⟨rfl,hS⟩
theorem y_asg {S:World->Prop}{ρ:Operand->Value}{o:Oper}{x:Operand}{v:Value}(ho:o.op=.assign x)(h:ρ x=v):YB Tryz.prog S ρ o v:=λw hS=>by
 unfold execOp;simp only[ho,h];exact⟨rfl,hS⟩
end Go.Proofs.YtnjjeapcalkmaaaGreatDoor
namespace Go.Proofs.YtnjjeapcalkmaaaGreatDoor.Ord
open Go
section
variable {P : Program} {ops : Array Oper} {Q : Exit → Act → World → Prop} {S : Bool → World → Prop} {k0 : Nat} {D : Nat → Bool}
def dJ (ops:Array Oper):Bool:=(List.range ops.size).all λi=>match ops[i]? with
 |none=>true
 |some oi=>(oi.after.all λe=>!Region.binds .any e||decide (e.on<i))&&(List.range ops.size).all λj=>j==i||match ops[j]? with
  |none=>true
  |some oj=>match oj.dst with
   |none=>true
   |some d=>!(oi.dst==some d)&&(!(oi.looksAt ops).contains d||(oi.after.any λe=>Region.binds .any e&&e.on==j)||(decide (i<j)&&oj.after.any λe=>Region.binds .any e&&e.on==i))
theorem dP (h:dJ ops=true){i:Nat}{oi:Oper}(hi:ops[i]? =some oi){e:Edge}(he:e∈oi.after)(hb:Region.binds .any e=true):e.on<i:=by
 have hlt:i<ops.size:=(Array.getElem?_eq_some_iff.1 hi).1
 have h1:=List.all_eq_true.1 h i (List.mem_range.2 hlt)
 rw[hi]at h1
 simp only[Bool.and_eq_true]at h1
 have h2:=Array.all_eq_true_iff_forall_mem.1 h1.1 e he
 simpa[hb]using h2
theorem qN (h:dJ ops=true){i j:Nat}{oi oj:Oper}(hi:ops[i]? =some oi)(hj:ops[j]? =some oj)(hne:j≠i){d:Tmp}(hd:oj.dst=some d):
 oi.dst≠some d/\(d∈oi.looksAt ops->(∃e∈oi.after,Region.binds .any e=true/\e.on=j)\/(i<j/\∃e∈oj.after,Region.binds .any e=true/\e.on=i)):=by
 have hlt:i<ops.size:=(Array.getElem?_eq_some_iff.1 hi).1
 have hlt2:j<ops.size:=(Array.getElem?_eq_some_iff.1 hj).1
 have h1:=List.all_eq_true.1 h i (List.mem_range.2 hlt)
 rw[hi]at h1
 simp only[Bool.and_eq_true]at h1
 have h2:=List.all_eq_true.1 h1.2 j (List.mem_range.2 hlt2)
 rw[hj]at h2
 simp only[hd,Bool.or_eq_true,beq_iff_eq,hne,false_or,Bool.and_eq_true,Bool.not_eq_true',beq_eq_false_iff_ne,decide_eq_true_eq]at h2
 refine⟨h2.1,λhm=>?_⟩
 rcases h2.2 with(h3|h3)|⟨h3,h4⟩
 ·have:(oi.looksAt ops).contains d=true:=by simpa using hm
  rw[this]at h3;cases h3
 ·obtain⟨e,he,hb⟩:=Array.any_eq_true'.1 h3
  simp only[Bool.and_eq_true,beq_iff_eq]at hb
  exact .inl ⟨e,he,hb.1,hb.2⟩
 ·obtain⟨e,he,hb⟩:=Array.any_eq_true'.1 h4
  simp only[Bool.and_eq_true,beq_iff_eq]at hb
  exact .inr ⟨h3,e,he,hb.1,hb.2⟩
theorem jM (h:dJ ops=true){i j:Nat}{oi oj:Oper}(hi:ops[i]? =some oi)(hj:ops[j]? =some oj)(hne:j≠i){d:Tmp}(hd:oj.dst=some d):oi.dst≠some d:=(qN h hi hj hne hd).1
theorem At.putW {a0 a:Act}{vs:Nat->Value}{L L':Nat->Prop}(hd:dJ ops=true)(h:At ops a0 vs L a){i:Nat}{o:Oper}(hi:ops[i]? =some o)(hn:¬L i)(hL:∀j,L' j↔(L j\/j=i)):At ops a0 vs L' (a.put o.dst (vs i)):=by
 cases hdst:o.dst with
 |none=>
  refine⟨h.defers,h.size,λk ok d hk hLk hkd hlt=>?_,λd hall=>h.rest d λk ok hk hLk=>hall k ok hk ((hL k).2 (.inl hLk))⟩
  rcases(hL k).1 hLk with h1|rfl
  ·exact h.done k ok d hk h1 hkd hlt
  ·rw[hi]at hk;cases hk;rw[hdst]at hkd;cases hkd
 |some e=>
  refine⟨h.defers,by simpa[Act.put]using h.size,λk ok d hk hLk hkd hlt=>?_,λd hall=>?_⟩
  ·rcases(hL k).1 hLk with h1|rfl
   ·have hki:i≠k:=λe=>hn (e▸h1)
    have hne:e≠d:=λAf=>by
     subst Af
     exact jM hd hk hi hki hdst hkd
    show(a.tmps.setIfInBounds e (vs i))[d]? =_
    rw[Array.getElem?_setIfInBounds_ne hne]
    exact h.done k ok d hk h1 hkd hlt
   ·rw[hi]at hk;cases hk
    rw[hdst]at hkd;cases hkd
    show(a.tmps.setIfInBounds e (vs k))[e]? =_
    rw[Array.getElem?_setIfInBounds_self,if_pos (by rw[h.size];exact hlt)]
  ·have hne:e≠d:=λAf=>hall i o hi ((hL i).2 (.inr rfl)) (by rw[hdst,Af])
   show(a.tmps.setIfInBounds e (vs i))[d]? =_
   rw[Array.getElem?_setIfInBounds_ne hne]
   exact h.rest d λk ok hk hLk=>hall k ok hk ((hL k).2 (.inl hLk))
theorem At.sameW {a0 a b:Act}{vs:Nat->Value}{L M:Nat->Prop}(hd:dJ ops=true)(h:At ops a0 vs L a)(k:At ops a0 vs M b){i:Nat}{o:Oper}(hi:ops[i]? =some o)(hL:¬L i)(hM:¬M i)
 (h1:∀e∈o.after,Region.binds .any e=true->L e.on/\M e.on) (Sk:∀j,i<j->¬L j) (hMj:∀(j:Nat) (oj:Oper),ops[j]? =some oj->M j->∀e∈oj.after,Region.binds .any e=true->M e.on) {d:Tmp} (om:d∈o.looksAt ops):a.tmps[d]? =b.tmps[d]?:=by
 by_cases hx:∃j oj,ops[j]? =some oj/\oj.dst=some d/\j≠i
 ·obtain⟨j,oj,hj,hjd,hji⟩:=hx
  rcases(qN hd hi hj hji hjd).2 om with⟨e,he,hb,rfl⟩|⟨hij,e,he,hb,Qq⟩
  ·obtain⟨hl,hm⟩:=h1 e he hb
   by_cases hlt:d<a0.tmps.size
   ·rw[h.done _ oj d hj hl hjd hlt,k.done _ oj d hj hm hjd hlt]
   ·rw[Array.getElem?_eq_none (by rw[h.size];exact Nat.le_of_not_lt hlt),Array.getElem?_eq_none (by rw[k.size];exact Nat.le_of_not_lt hlt)]
  ·have hnM:¬M j:=λhm=>hM (by rw[<-Qq];exact hMj j oj hj hm e he hb)
   have h2:∀j' oj',ops[j']? =some oj'->L j'->oj'.dst≠some d:=λj' oj' hj' hLj' he'=>by
    by_cases hjj:j'=j
    ·subst hjj;exact Sk _ hij hLj'
    ·exact jM hd hj' hj (λe=>hjj e.symm) hjd he'
   have h3:∀j' oj',ops[j']? =some oj'->M j'->oj'.dst≠some d:=λj' oj' hj' hMj' he'=>by
    by_cases hjj:j'=j
    ·subst hjj;exact hnM hMj'
    ·exact jM hd hj' hj (λe=>hjj e.symm) hjd he'
   rw[h.rest d h2,k.rest d h3]
 ·have h2:∀j oj,ops[j]? =some oj->L j->oj.dst≠some d:=λj oj hj Sk he=>hx ⟨j,oj,hj,he,λe=>hL (e▸Sk)⟩
  have h3:∀j oj,ops[j]? =some oj->M j->oj.dst≠some d:=λj oj hj hMj he=>hx ⟨j,oj,hj,he,λe=>hM (e▸hMj)⟩
  rw[h.rest d h2,k.rest d h3]
def jv (P:Program)(ops:Array Oper)(Q:Exit->Act->World->Prop)(S:Bool->World->Prop)(k0:Nat)(D:Nat->Bool):Nat->List Oper->Act->Prop
 |k,[],a=>∀w,S (decide (k0<k)) w->Q .normal a w
 |k,o::rest,a=>∃v,(∀b,(k=k0->b=false)->(D k=true->b=true)->ah P ops (S b) (S (b||decide (k=k0))) o v a)/\jv P ops Q S k0 D (k+1) rest (a.put o.dst v)
theorem mG:∀(l:List Oper) (k:Nat) (a:Act),ops.toList.drop k=l->k<=ops.size->jv P ops Q S k0 D k l a->
 ∃(vs:Nat->Value) (acts:Nat->Act),acts k=a/\(∀i o,k<=i->ops[i]? =some o->(∀b,(i=k0->b=false)->(D i=true->b=true)->ah P ops (S b) (S (b||decide (i=k0))) o (vs i) (acts i))/\acts (i+1)=(acts i).put o.dst (vs i))/\∀w,S (decide (k0<ops.size)) w->Q .normal (acts ops.size) w
 |[],k,a,hk,hks,h=>by
  have hle:=List.drop_eq_nil_iff.1 hk
  simp at hle
  have he:k=ops.size:=by omega
  refine⟨λ_=>undef,λ_=>a,rfl,λi o hi ho=>?_,?_⟩
  ·exfalso
   have hlt:i<ops.size:=(Array.getElem?_eq_some_iff.1 ho).1
   omega
  ·rw[<-he];exact h
 |o::rest,k,a,hk,hks,⟨v,hy,h⟩=>by
  have hko:ops[k]? =some o:=by
   have h2:(ops.toList.drop k)[0]? =some o:=by rw[hk];rfl
   rw[List.getElem?_drop]at h2
   simpa using h2
  have Gd:k<ops.size:=(Array.getElem?_eq_some_iff.1 hko).1
  have hkr:ops.toList.drop (k+1)=rest:=by
   rw[<-List.drop_drop,hk];rfl
  obtain⟨vs,acts,h1,h2,h3⟩:=mG rest (k+1) _ hkr Gd h
  refine⟨λi=>if i=k then v else vs i,λi=>if i=k then a else acts i,by simp,λi oi hi hoi=>?_,λw hw=>?_⟩
  ·by_cases hik:i=k
   ·subst hik
    rw[hko]at hoi;cases hoi
    simp only[if_true,if_neg (Nat.succ_ne_self i)]
    exact⟨hy,h1⟩
   ·have:=h2 i oi (by omega) hoi
    simp only[if_neg hik,if_neg (show¬i+1=k from by omega)]
    exact this
  ·have:=h3 w hw
   simp only[if_neg (show¬ops.size=k from by omega)]
   exact this
theorem Du {a0:Act}{vs:Nat->Value}{acts:Nat->Act}(hd:dJ ops=true)(hD:∀i o,ops[i]? =some o->D i=true->∃e∈o.after,Region.binds .any e=true/\(e.on=k0\/D e.on=true))(hs:Region.noSelect ops=true)(h0:acts 0=a0)
 (hv:∀i o,ops[i]? =some o->(∀b,(i=k0->b=false)->(D i=true->b=true)->ah P ops (S b) (S (b||decide (i=k0))) o (vs i) (acts i))/\acts (i+1)=(acts i).put o.dst (vs i)) (hQ:∀w,S (decide (k0<ops.size)) w->Q .normal (acts ops.size) w):
 ∀(fuel:Nat) (listed:Array Bool) (a:Act) (w:World),listed.size=ops.size->At ops a0 vs (λi=>listed.getD i false=true) a->S (listed.getD k0 false) w->(∀j,listed.getD j false=true->D j=true->listed.getD k0 false=true)->(∀(j:Nat) (oj:Oper),ops[j]? =some oj->listed.getD j false=true->∀e∈oj.after,Region.binds .any e=true->listed.getD e.on false=true)->(List.range ops.size).countP (λi=>!listed.getD i true)<=fuel->
  wpAny P .any ops Q fuel listed a w:=by
 have hat:∀k,k<=ops.size->At ops a0 vs (λi=>i<k) (acts k):=by
  intro k
  induction k with
  |zero=>
   intro _
   rw[h0]
   exact⟨rfl,rfl,λ_ _ _ _ h=>absurd h (Nat.not_lt_zero _),λ_ _=>rfl⟩
  |succ k ih=>
   intro hk
   obtain⟨o,ho⟩:∃o,ops[k]? =some o:=⟨_,Array.getElem?_eq_getElem (by omega)⟩
   rw[(hv k o ho).2]
   exact(ih (by omega)).putW hd ho (Nat.lt_irrefl k) (λj=>by omega)
 have hall:∀(listed:Array Bool),listed.size=ops.size->Region.ready .any ops listed=[]->∀i,i<ops.size->listed.getD i false=true:=by
  intro listed hsz hr i
  induction i using Nat.strongRecOn with
  |ind i ih=>
   intro hi
   obtain⟨o,ho⟩:∃o,ops[i]? =some o:=⟨_,Array.getElem?_eq_getElem hi⟩
   cases hb:listed.getD i false with
   |true=>rfl
   |false=>
    exfalso
    have hmem:i∈Region.ready .any ops listed:=by
     rw[mem_ready]
     refine⟨?_,o,ho,λe he hbd=>?_⟩
     ·have:i<listed.size:=by omega
      simp[this]at hb⊢
      exact hb
     ·have hlt:=dP hd ho he hbd
      exact ih e.on hlt (by omega)
    rw[hr]at hmem
    cases hmem
 have hend:∀(listed:Array Bool) (a:Act) (w:World),listed.size=ops.size->At ops a0 vs (λi=>listed.getD i false=true) a->S (listed.getD k0 false) w->Region.ready .any ops listed=[]->Q .normal a w:=by
  intro listed a w hsz hA hS hr
  have h1:=hall listed hsz hr
  have hA2:At ops a0 vs (λi=>i<ops.size) a:=by
   refine⟨hA.defers,hA.size,λi o d ho hi=>hA.done i o d ho (h1 i hi),λd hn=>hA.rest d λi o ho _=>hn i o ho (Array.getElem?_eq_some_iff.1 ho).1⟩
  rw[hA2.unique (hat ops.size (Nat.le_refl _))]
  refine hQ w ?_
  have e1:decide (k0<ops.size)=listed.getD k0 false:=by
   by_cases hk:k0<ops.size
   ·rw[h1 k0 hk,decide_eq_true hk]
   ·have:¬k0<listed.size:=by omega
    rw[decide_eq_false hk]
    simp[this]
  rw[e1]
  exact hS
 intro fuel
 induction fuel with
 |zero=>
  intro listed a w hsz hA hS hI FY hc
  have hr:Region.ready .any ops listed=[]:=by
   cases hr:Region.ready .any ops listed with
   |nil=>rfl
   |cons x xs=>
    exfalso
    have hx:x∈Region.ready .any ops listed:=by rw[hr];exact List.mem_cons_self
    obtain⟨h1,o,ho,_⟩:=mem_ready.1 hx
    have hlt:x<ops.size:=(Array.getElem?_eq_some_iff.1 ho).1
    have:0<(List.range ops.size).countP (λi=>!listed.getD i true):=List.countP_pos_iff.2 ⟨x,List.mem_range.2 hlt,by rw[h1];rfl⟩
    omega
  exact⟨hr,hend listed a w hsz hA hS hr⟩
 |succ fuel ih=>
  intro listed a w hsz hA hS hI FY hc
  refine⟨hend listed a w hsz hA hS,λi hi=>?_⟩
  obtain⟨hun,o,ho,hafter⟩:=mem_ready.1 hi
  have hlt:i<ops.size:=(Array.getElem?_eq_some_iff.1 ho).1
  have hsel:=λcs b=>Region.noSelect_spec hs i o cs b ho
  have hnl:¬listed.getD i false=true:=by
   have:i<listed.size:=by omega
   simp[this]at hun⊢
   exact hun
  have T9:i=k0->listed.getD k0 false=false:=λe=>by
   subst e
   cases hb:listed.getD i false with
   |false=>rfl
   |true=>exact absurd hb hnl
  have Sv:D i=true->listed.getD k0 false=true:=λhdi=>by
   obtain⟨e,he,hb,h1|h1⟩:=hD i o ho hdi
   ·rw[<-h1];exact hafter e he hb
   ·exact hI e.on (hafter e he hb) h1
  have hy:ah P ops (S (listed.getD k0 false)) (S (listed.getD k0 false||decide (i=k0))) o (vs i) a:=((hv i o ho).1 _ T9 Sv).of_looks hsel λd hdl=>
   (hat i (by omega)).sameW hd hA ho (Nat.lt_irrefl i) hnl (λe he hb=>⟨dP hd ho he hb,hafter e he hb⟩) (λj hij h=>absurd h (by omega)) (λj oj hj hl=>FY j oj hj hl) hdl
  have uo:(listed.setIfInBounds i true).getD k0 false=(listed.getD k0 false||decide (i=k0)):=by
   by_cases hik:i=k0
   ·subst hik
    have:i<listed.size:=by omega
    simp[this]
   ·rw[getD_set_ne false hik,decide_eq_false hik,Bool.or_false]
  refine hy.wpOp ho hS λw' hS'=>ih (listed.setIfInBounds i true) _ w' (by simpa using hsz) ?_ (by rw[uo];exact hS') (λj hj hdj=>?_) (λj oj hj hl e he hb=>?_) ?_
  ·refine hA.putW hd ho hnl λj=>?_
   by_cases hij:i=j
   ·subst hij
    have:i<listed.size:=by omega
    simp[this]
   ·rw[getD_set_ne false hij]
    constructor
    ·exact .inl
    ·rintro(h|rfl)
     ·exact h
     ·exact absurd rfl hij
  ·rw[uo]
   by_cases hij:i=j
   ·subst hij
    rw[Sv hdj,Bool.true_or]
   ·rw[getD_set_ne false hij]at hj
    rw[hI j hj hdj,Bool.true_or]
  ·have hle:listed.getD e.on false=true:=by
    by_cases hij:i=j
    ·subst hij
     rw[ho]at hj;cases hj
     exact hafter e he hb
    ·rw[getD_set_ne false hij]at hl
     exact FY j oj hj hl e he hb
   by_cases hie:i=e.on
   ·have hne:¬listed.getD e.on false=true:=by rw[<-hie];exact hnl
    exact absurd hle hne
   ·rw[getD_set_ne false hie];exact hle
  ·have:=iK (p:=λi=>!listed.getD i true) (q:=λj=>!(listed.setIfInBounds i true).getD j true) (λj hj=>by
    by_cases hij:i=j
    ·subst hij;simp only[hun];rfl
    ·rw[getD_set_ne true hij]at hj;exact hj) (List.range ops.size) i (List.mem_range.2 hlt) (by simp only[hun];rfl) (by
     have:i<listed.size:=by omega
     simp[this])
   omega
theorem vB {id:Nat}{a:Act}{w:World}(S:Bool->World->Prop)(k0:Nat)(D:Nat->Bool)(hD:∀i o,ops[i]? =some o->D i=true->∃e∈o.after,Region.binds .any e=true/\(e.on=k0\/D e.on=true))(hm:P.follows .mixedOrders=true)(hd:dJ ops=true)(hs:Region.noSelect ops=true)(hS:S false w.drew)(h:jv P ops Q S k0 D 0 ops.toList a):(Code.region id ops true).wp P Q a w:=by
 obtain⟨vs,acts,h1,h2,h3⟩:=mG (ops:=ops) ops.toList 0 a rfl (Nat.zero_le _) h
 refine wp_region_any hm (Du hd hD hs h1 (λi o ho=>h2 i o (Nat.zero_le _) ho) h3 ops.size _ a _ (by simp) ?_ ?_ (λj hj=>?_) (λj oj hoj hj=>?_) ?_)
 ·refine⟨rfl,rfl,λi o d ho hL=>?_,λ_ _=>rfl⟩
  exfalso
  have hlt:i<ops.size:=(Array.getElem?_eq_some_iff.1 ho).1
  simp[hlt]at hL
 ·have e:(Array.replicate ops.size false).getD k0 false=false:=by
   by_cases hk:k0<ops.size
   ·simp[hk]
   ·simp[hk]
  rw[e]
  exact hS
 ·exfalso
  by_cases hk:j<ops.size
  ·simp[hk]at hj
  ·simp[hk]at hj
 ·exfalso
  by_cases hk:j<ops.size
  ·simp[hk]at hj
  ·simp[hk]at hj
 ·have:=List.countP_le_length (p:=λi=>!(Array.replicate ops.size false).getD i true) (l:=List.range ops.size)
  simpa using this
theorem lH {v:Value}{k:Nat}{o:Oper}{rest:List Oper}{a:Act}(hg:o.guard=none)(hk:decide (k=k0)=false)
 (h1:∀w,(execOp a.eval o).run P w=.ok (.value v) w) (h2:∀K:Act->Prop,(∀a',jv P ops Q S k0 D (k+1) rest a'->K a')->K (a.put o.dst v)):jv P ops Q S k0 D k (o::rest) a:=by
 refine⟨v,λb _ _=>.inl ⟨by simp[Region.wanted,hg],λw hS=>?_⟩,h2 _ (λ_ h=>h)⟩
 rw[h1 w,hk,Bool.or_false]
 exact⟨rfl,hS⟩
theorem ML {k:Nat}{a:Act}(h:∀w,S (decide (k0<k)) w->Q .normal a w):jv P ops Q S k0 D k [] a:=h
end
section
variable {P : Program} {ops : Array Oper} {Q : Exit → Act → World → Prop} {S : (Nat → Bool) → World → Prop} {D : Nat → Nat → Bool}
theorem ug {a0:Act}{vs:Nat->Value}{acts:Nat->Act}(hd:dJ ops=true)(hD:∀i o,ops[i]? =some o->∀j,D i j=true->∃e∈o.after,Region.binds .any e=true/\(e.on=j\/D e.on j=true))(hs:Region.noSelect ops=true)(h0:acts 0=a0)
 (hv:∀i o,ops[i]? =some o->(∀dn:Nat->Bool,dn i=false->(∀j,D i j=true->dn j=true)->(∀j,D j i=true->dn j=false)->ah P ops (S dn) (S (λj=>dn j||j==i)) o (vs i) (acts i))/\acts (i+1)=(acts i).put o.dst (vs i)) (hQ:∀w,S (λj=>decide (j<ops.size)) w->Q .normal (acts ops.size) w):
 ∀(fuel:Nat) (listed:Array Bool) (a:Act) (w:World),listed.size=ops.size->At ops a0 vs (λi=>listed.getD i false=true) a->S (λj=>listed.getD j false) w->(∀i j,listed.getD i false=true->D i j=true->listed.getD j false=true)->(∀(j:Nat) (oj:Oper),ops[j]? =some oj->listed.getD j false=true->∀e∈oj.after,Region.binds .any e=true->listed.getD e.on false=true)->(List.range ops.size).countP (λi=>!listed.getD i true)<=fuel->
  wpAny P .any ops Q fuel listed a w:=by
 have hat:∀k,k<=ops.size->At ops a0 vs (λi=>i<k) (acts k):=by
  intro k
  induction k with
  |zero=>
   intro _
   rw[h0]
   exact⟨rfl,rfl,λ_ _ _ _ h=>absurd h (Nat.not_lt_zero _),λ_ _=>rfl⟩
  |succ k ih=>
   intro hk
   obtain⟨o,ho⟩:∃o,ops[k]? =some o:=⟨_,Array.getElem?_eq_getElem (by omega)⟩
   rw[(hv k o ho).2]
   exact(ih (by omega)).putW hd ho (Nat.lt_irrefl k) (λj=>by omega)
 have hall:∀(listed:Array Bool),listed.size=ops.size->Region.ready .any ops listed=[]->∀i,i<ops.size->listed.getD i false=true:=by
  intro listed hsz hr i
  induction i using Nat.strongRecOn with
  |ind i ih=>
   intro hi
   obtain⟨o,ho⟩:∃o,ops[i]? =some o:=⟨_,Array.getElem?_eq_getElem hi⟩
   cases hb:listed.getD i false with
   |true=>rfl
   |false=>
    exfalso
    have hmem:i∈Region.ready .any ops listed:=by
     rw[mem_ready]
     refine⟨?_,o,ho,λe he hbd=>?_⟩
     ·have:i<listed.size:=by omega
      simp[this]at hb⊢
      exact hb
     ·have hlt:=dP hd ho he hbd
      exact ih e.on hlt (by omega)
    rw[hr]at hmem
    cases hmem
 have hend:∀(listed:Array Bool) (a:Act) (w:World),listed.size=ops.size->At ops a0 vs (λi=>listed.getD i false=true) a->S (λj=>listed.getD j false) w->Region.ready .any ops listed=[]->Q .normal a w:=by
  intro listed a w hsz hA hS hr
  have h1:=hall listed hsz hr
  have hA2:At ops a0 vs (λi=>i<ops.size) a:=by
   refine⟨hA.defers,hA.size,λi o d ho hi=>hA.done i o d ho (h1 i hi),λd hn=>hA.rest d λi o ho _=>hn i o ho (Array.getElem?_eq_some_iff.1 ho).1⟩
  rw[hA2.unique (hat ops.size (Nat.le_refl _))]
  refine hQ w ?_
  have e1:(λj=>decide (j<ops.size))=(λj=>listed.getD j false):=by
   funext j
   by_cases hk:j<ops.size
   ·rw[h1 j hk,decide_eq_true hk]
   ·have:¬j<listed.size:=by omega
    rw[decide_eq_false hk]
    simp[this]
  rw[e1]
  exact hS
 intro fuel
 induction fuel with
 |zero=>
  intro listed a w hsz hA hS hI FY hc
  have hr:Region.ready .any ops listed=[]:=by
   cases hr:Region.ready .any ops listed with
   |nil=>rfl
   |cons x xs=>
    exfalso
    have hx:x∈Region.ready .any ops listed:=by rw[hr];exact List.mem_cons_self
    obtain⟨h1,o,ho,_⟩:=mem_ready.1 hx
    have hlt:x<ops.size:=(Array.getElem?_eq_some_iff.1 ho).1
    have:0<(List.range ops.size).countP (λi=>!listed.getD i true):=List.countP_pos_iff.2 ⟨x,List.mem_range.2 hlt,by rw[h1];rfl⟩
    omega
  exact⟨hr,hend listed a w hsz hA hS hr⟩
 |succ fuel ih=>
  intro listed a w hsz hA hS hI FY hc
  refine⟨hend listed a w hsz hA hS,λi hi=>?_⟩
  obtain⟨hun,o,ho,hafter⟩:=mem_ready.1 hi
  have hlt:i<ops.size:=(Array.getElem?_eq_some_iff.1 ho).1
  have hsel:=λcs b=>Region.noSelect_spec hs i o cs b ho
  have hnl:¬listed.getD i false=true:=by
   have:i<listed.size:=by omega
   simp[this]at hun⊢
   exact hun
  have T9:listed.getD i false=false:=by
   cases hb:listed.getD i false with
   |false=>rfl
   |true=>exact absurd hb hnl
  have Sv:∀j,D i j=true->listed.getD j false=true:=λj hdi=>by
   obtain⟨e,he,hb,h1|h1⟩:=hD i o ho j hdi
   ·rw[<-h1];exact hafter e he hb
   ·exact hI e.on j (hafter e he hb) h1
  have hEi:∀j,D j i=true->listed.getD j false=false:=λj hdj=>by
   cases hb:listed.getD j false with
   |false=>rfl
   |true=>exact absurd (hI j i hb hdj) hnl
  have hy:ah P ops (S (λj=>listed.getD j false)) (S (λj=>listed.getD j false||j==i)) o (vs i) a:=((hv i o ho).1 _ T9 Sv hEi).of_looks hsel λd hdl=>
   (hat i (by omega)).sameW hd hA ho (Nat.lt_irrefl i) hnl (λe he hb=>⟨dP hd ho he hb,hafter e he hb⟩) (λj hij h=>absurd h (by omega)) (λj oj hj hl=>FY j oj hj hl) hdl
  have uo:(λj=>(listed.setIfInBounds i true).getD j false)=(λj=>listed.getD j false||j==i):=by
   funext j
   by_cases hik:i=j
   ·subst hik
    have:i<listed.size:=by omega
    simp[this]
   ·rw[getD_set_ne false hik]
    have:(j==i)=false:=by rw[beq_eq_false_iff_ne];exactλe=>hik e.symm
    rw[this,Bool.or_false]
  refine hy.wpOp ho hS λw' hS'=>ih (listed.setIfInBounds i true) _ w' (by simpa using hsz) ?_ (by rw[uo];exact hS') (λi' j hj hdj=>?_) (λj oj hj hl e he hb=>?_) ?_
  ·refine hA.putW hd ho hnl λj=>?_
   by_cases hij:i=j
   ·subst hij
    have:i<listed.size:=by omega
    simp[this]
   ·rw[getD_set_ne false hij]
    constructor
    ·exact .inl
    ·rintro(h|rfl)
     ·exact h
     ·exact absurd rfl hij
  ·have hlj:listed.getD j false=true:=by
    by_cases hij:i=i'
    ·subst hij
     exact Sv j hdj
    ·rw[getD_set_ne false hij]at hj
     exact hI i' j hj hdj
   by_cases hie:i=j
   ·have hne:¬listed.getD j false=true:=by rw[<-hie];exact hnl
    exact absurd hlj hne
   ·rw[getD_set_ne false hie];exact hlj
  ·have hle:listed.getD e.on false=true:=by
    by_cases hij:i=j
    ·subst hij
     rw[ho]at hj;cases hj
     exact hafter e he hb
    ·rw[getD_set_ne false hij]at hl
     exact FY j oj hj hl e he hb
   by_cases hie:i=e.on
   ·have hne:¬listed.getD e.on false=true:=by rw[<-hie];exact hnl
    exact absurd hle hne
   ·rw[getD_set_ne false hie];exact hle
  ·have:=iK (p:=λi=>!listed.getD i true) (q:=λj=>!(listed.setIfInBounds i true).getD j true) (λj hj=>by
    by_cases hij:i=j
    ·subst hij;simp only[hun];rfl
    ·rw[getD_set_ne true hij]at hj;exact hj) (List.range ops.size) i (List.mem_range.2 hlt) (by simp only[hun];rfl) (by
     have:i<listed.size:=by omega
     simp[this])
   omega
def inD (ps:List (Nat×Nat))(i j:Nat):Bool:=ps.any λp=>p.1==i&&p.2==j
def depsF (ops:Array Oper)(ps:List (Nat×Nat)):Bool:=ps.all λp=>match ops[p.1]? with
 |none=>true
 |some o=>o.after.any λe=>Region.binds .any e&&(e.on==p.2||inD ps e.on p.2)
theorem wE {ps:List (Nat×Nat)}(h:depsF ops ps=true):∀i o,ops[i]? =some o->∀j,inD ps i j=true->∃e∈o.after,Region.binds .any e=true/\(e.on=j\/inD ps e.on j=true):=λi o ho j hd=>by
 obtain⟨p,hp,hb⟩:=List.any_eq_true.1 hd
 simp only[Bool.and_eq_true,beq_iff_eq]at hb
 have h1:=List.all_eq_true.1 h p hp
 rw[hb.1,ho,hb.2]at h1
 obtain⟨e,he,hb⟩:=Array.any_eq_true'.1 h1
 simp only[Bool.and_eq_true,Bool.or_eq_true,beq_iff_eq]at hb
 exact⟨e,he,hb.1,hb.2⟩
end
end Go.Proofs.YtnjjeapcalkmaaaGreatDoor.Ord
namespace Go.Proofs.YtnjjeapcalkmaaaGreatDoor
open Go.RowKit
open Go.Proofs.YtnjjeapcalkmaaaGreatDoor.Ord
structure Kept (ops:Array Oper)(a b:Act):Prop where
 defers:b.defers=a.defers
 size:b.tmps.size=a.tmps.size
 rest:∀t:Nat,(∀o:Oper,o∈ops.toList->o.dst≠some t)->b.tmps[t]? =a.tmps[t]?
section
variable {P : Program} {ops : Array Oper} {Q : Exit → Act → World → Prop} {a : Act} {w : World} {id : Nat}
theorem eval_at {b:Act}{t:Nat}{v:Value}(h:b.tmps[t]? =some v):b.eval (.tmp t)=v:=by
 show b.tmps.getD t undef=v
 rw[Array.getD_eq_getD_getElem?,h];rfl
theorem cO.tmp {ρ:Operand->Value}:∀{l:List Oper} {m:List Value} (i:Nat) (o:Oper) (v:Value) (d:Tmp),cO ρ l m->l[i]? =some o->m[i]? =some v->o.dst=some d->ρ (.tmp d)=v
 |[],_,i,o,v,d,_,h,_,_=>by simp at h
 |_::_,[],i,o,v,d,_,_,h,_=>by simp at h
 |x::_,_::_,0,o,v,d,h,h1,h2,h3=>by
  simp at h1 h2
  subst h1;subst h2
  have:=h.1
  rw[h3]at this
  exact this
 |_::_,_::_,i+1,o,v,d,h,h1,h2,h3=>cO.tmp i o v d h.2 (by simpa using h1) (by simpa using h2) h3
theorem PZ (S:World->Prop)(n:Nat)(vs:List Value)(hvl:vs.length=n)(hsz:ops.size=n)(hd:eU ops=true)(hs:Region.noSelect ops=true)(hb:bZ ops a.tmps.size=true)(hS:S w)
 (hY:∀ρ:Operand->Value,cO ρ (ops.toList.take n) vs->(∀t:Nat,(∀o:Oper,o∈ops.toList->o.dst≠some t)->ρ (.tmp t)=a.eval (.tmp t))->(∀v,ρ (.const v)=v)->(∀f,ρ (.func f)=.func (.func f) #[] #[])->ji P S ρ vs (ops.toList.take n) vs)
 (hend:∀(b:Act) (w':World),S w'->Kept ops a b->cO b.eval (ops.toList.take n) vs->Q .normal b w'):(Code.region id ops false).wp P Q a w:=by
 refine iP S n vs hvl (by omega) hd hs hb hS hY λb w' hS' h1 h2 hD h3=>?_
 rw[hsz,Nat.sub_self]
 exact hend b w' hS' ⟨h1,h2,h3⟩ hD
theorem Kg {tc:Nat}{x y:Code}(c:Bool)(S:World->Prop)(n:Nat)(vs:List Value)(hvl:vs.length=n)(hsz:ops.size=n)(hd:eU ops=true)(hs:Region.noSelect ops=true)(hb:bZ ops a.tmps.size=true)(hS:S w)
 (hY:∀ρ:Operand->Value,cO ρ (ops.toList.take n) vs->(∀t:Nat,(∀o:Oper,o∈ops.toList->o.dst≠some t)->ρ (.tmp t)=a.eval (.tmp t))->(∀v,ρ (.const v)=v)->(∀f,ρ (.func f)=.func (.func f) #[] #[])->ji P S ρ vs (ops.toList.take n) vs)
 (hc:∀ρ:Operand->Value,cO ρ (ops.toList.take n) vs->ρ (.tmp tc)=.bool c)
 (ht:c=true->∀(b:Act) (w':World),S w'->Kept ops a b->x.wp P Q b w') (hf:c=false->∀(b:Act) (w':World),S w'->Kept ops a b->y.wp P Q b w'):
 (Code.seq (Code.region id ops false) (Code.cond (.tmp tc) x y)).wp P Q a w:=by
 refine wp_seq ?_
 refine PZ S n vs hvl hsz hd hs hb hS hY λb w' hS' hk hD=>?_
 exact wp_cond_split (hc _ hD) (λh=>ht h b w' hS' hk) (λh=>hf h b w' hS' hk)
theorem aT {o:Array Oper}{Q:Exit->Act->World->Prop}(h:Q .normal a w):wpList P o Q [] a w:=h
theorem lD {c:Code}{tmps:Array Value}{K:Act->World->Prop}{Q:Exit->Act->World->Prop}(hK:K=c.wp P Q)(h:∀a:Act,a.tmps=tmps->a.defers=[]->c.wp P Q a w):Exit.then K Q .normal ⟨tmps,[]⟩ w:=by
 rw[hK]
 exact h _ rfl rfl
theorem wp_box {x1 x2:Oper}{d1 dv:Nat}(S:World->Prop)(n:Nat)(vs:List Value)(hvl:vs.length=n)(hsz:ops.size=n+2)(hd:eU ops=true)(hs:Region.noSelect ops=true)(hb:bZ ops a.tmps.size=true)(hS:S w)
 (hY:∀ρ:Operand->Value,cO ρ (ops.toList.take n) vs->(∀t:Nat,(∀o:Oper,o∈ops.toList->o.dst≠some t)->ρ (.tmp t)=a.eval (.tmp t))->(∀v,ρ (.const v)=v)->(∀f,ρ (.func f)=.func (.func f) #[] #[])->ji P S ρ vs (ops.toList.take n) vs)
 (h1:ops[n]? =some x1) (h1d:x1.dst=some d1) (h1g:x1.guard=none) (h2:ops[n+1]? =some x2) (FL:x2.dst=none) (h2g:x2.guard=none) (hlt:d1<a.tmps.size) (hne:dv≠d1) (v:Value) (hv:∀ρ:Operand->Value,cO ρ (ops.toList.take n) vs->ρ (.tmp dv)=v)
 (z o2:Obj) (hA:∀(ρ:Operand->Value) (w':World),(execOp ρ x1).run P w'=.ok (.value (.pointer (some ⟨w'.heap.size,0,none⟩))) (w'.alloc z))
 (hB:∀(ρ:Operand->Value) (w':World),ρ (.tmp d1)=.pointer (some ⟨w'.heap.size,0,none⟩)->ρ (.tmp dv)=v->(execOp ρ x2).run P (w'.alloc z)=.ok .skip (w'.alloc o2))
 (hend:∀(b:Act) (w':World),S w'->Kept ops a b->b.tmps[d1]? =some (.pointer (some ⟨w'.heap.size,0,none⟩))->Q .normal b (w'.alloc o2)):(Code.region id ops false).wp P Q a w:=by
 refine iP S n vs hvl (by omega) hd hs hb hS hY λb w' hS' k1 k2 hD k3=>?_
 rw[show List.range' n (ops.size-n)=[n,n+1]from by rw[hsz,show n+2-n=2 from by omega];rfl]
 refine ku h1 h1g ?_
 unfold Oper.wp
 rw[hA]
 show wpOps P ops Q [n+1] (b.put x1.dst (.pointer (some ⟨w'.heap.size,0,none⟩))) (w'.alloc z)
 refine ku h2 h2g ?_
 unfold Oper.wp
 have e1:(b.put x1.dst (.pointer (some ⟨w'.heap.size,0,none⟩))).eval (.tmp d1)=.pointer (some ⟨w'.heap.size,0,none⟩):=by rw[h1d];exact eval_put (by omega)
 have e2:(b.put x1.dst (.pointer (some ⟨w'.heap.size,0,none⟩))).eval (.tmp dv)=v:=by
  rw[<-hv _ hD,h1d]
  show(b.tmps.setIfInBounds d1 _).getD dv undef=b.tmps.getD dv undef
  rw[Array.getD_eq_getD_getElem?,Array.getD_eq_getD_getElem?,Array.getElem?_setIfInBounds_ne (λh=>hne h.symm)]
 rw[hB _ _ e1 e2]
 show Q .normal ((b.put x1.dst (.pointer (some ⟨w'.heap.size,0,none⟩))).put x2.dst undef) (w'.alloc o2)
 refine hend _ _ hS' ⟨?_,?_,?_⟩ ?_
 ·rw[h1d,FL];exact k1
 ·rw[h1d,FL];simp[Act.put,k2]
 ·intro t ht
  have n1:d1≠t:=λh=>ht x1 (by simpa using Array.mem_of_getElem? h1) (by rw[h1d,h])
  rw[<-k3 t ht,h1d,FL]
  simp[Act.put,n1]
 ·rw[h1d,FL]
  simp[Act.put,k2,hlt]
end
theorem BP (x y:Operand)(n m:Int){r:Int}(w:World)(h:IntKind.i64.wrap (n+m)=r):(do eqGuard .add 3 x y (.int .i64 n) (.int .i64 m);binOp .add 3 (.int .i64 n) (.int .i64 m):Sem Value).run Tryz.prog w=.ok (.int .i64 r) w:=by
 subst h
 go_simp
theorem JO {Q:Exit->Act->World->Prop}{a:Act}{w:World}{id:Nat}{o1 o2 o3:Oper}{t d1 d2:Nat}{k r:Int}(h1:o1.op=.move (.tmp t))(h1d:o1.dst=some d1)(g1:o1.guard=none)(h2:o2.op=.binOp .add 3 (.tmp d1) (.const (.int .i64 1)) 3)(FL:o2.dst=some d2)(g2:o2.guard=none)
 (h3:o3.op=.assign (.tmp d2)) (Qp:o3.dst=some t) (g3:o3.guard=none) (ht:a.tmps[t]? =some (.int .i64 k)) (l1:d1<a.tmps.size) (l2:d2<a.tmps.size) (hadd:IntKind.i64.wrap (k+1)=r)
 (hend:∀b:Act,b.defers=a.defers->b.tmps.size=a.tmps.size->b.tmps[t]? =some (.int .i64 r)->(∀s:Nat,s≠d1->s≠d2->s≠t->b.tmps[s]? =a.tmps[s]?)->Q .normal b w):(Code.region id #[o1,o2,o3] false).wp Tryz.prog Q a w:=by
 have lt:t<a.tmps.size:=(Array.getElem?_eq_some_iff.1 ht).1
 refine wp_region_lit ?_
 refine mQ g1 h1d (u:=.int .i64 k) (by unfold execOp;rw[h1];simp only[eval_at ht];rfl) ?_
 refine mQ g2 FL (u:=.int .i64 r) (by
  unfold execOp
  rw[h2]
  have e1:(⟨a.tmps.setIfInBounds d1 (.int .i64 k),a.defers⟩:Act).eval (.tmp d1)=.int .i64 k:=eval_at (by simp[l1])
  have e2:(⟨a.tmps.setIfInBounds d1 (.int .i64 k),a.defers⟩:Act).eval (.const (.int .i64 1))=.int .i64 1:=rfl
  simp only[e1,e2]
  rw[Sem.run_bind,BP _ _ k 1 w hadd]
  rfl) ?_
 refine mQ g3 Qp (u:=.int .i64 r) (by
  unfold execOp
  rw[h3]
  have e1:(⟨(a.tmps.setIfInBounds d1 (.int .i64 k)).setIfInBounds d2 (.int .i64 r),a.defers⟩:Act).eval (.tmp d2)=.int .i64 r:=eval_at (by simp[l2])
  simp only[e1]
  rfl) ?_
 refine aT ?_
 refine hend _ rfl (by simp) (by simp[lt]) λs n1 n2 n3=>?_
 show(((a.tmps.setIfInBounds d1 _).setIfInBounds d2 _).setIfInBounds t _)[s]? =_
 rw[Array.getElem?_setIfInBounds_ne (λh=>n3 h.symm),Array.getElem?_setIfInBounds_ne (λh=>n2 h.symm),Array.getElem?_setIfInBounds_ne (λh=>n1 h.symm)]
end Go.Proofs.YtnjjeapcalkmaaaGreatDoor
namespace Go.Proofs.YtnjjeapcalkmaaaGreatDoor.Ord
open Go
open Go.Proofs.YtnjjeapcalkmaaaGreatDoor (Kept)
def q9 (P:Program)(S:(Nat->Bool)->World->Prop)(D:Nat->Nat->Bool)(ρ:Operand->Value)(vs:List Value):Nat->List Oper->List Value->Prop
 |k,o::l,v::m=>(∀dn:Nat->Bool,dn k=false->(∀j,D k j=true->dn j=true)->(∀j,D j k=true->dn j=false)->YF P (S dn) (S (λj=>dn j||j==k)) ρ vs o v)/\q9 P S D ρ vs (k+1) l m
 |_,_,_=>True
theorem q9.get {P:Program}{S:(Nat->Bool)->World->Prop}{D:Nat->Nat->Bool}{ρ:Operand->Value}{vs:List Value}:∀{k:Nat} {l:List Oper} {m:List Value} (i:Nat) (o:Oper) (v:Value),q9 P S D ρ vs k l m->l[i]? =some o->m[i]? =some v->
 ∀dn:Nat->Bool,dn (k+i)=false->(∀j,D (k+i) j=true->dn j=true)->(∀j,D j (k+i)=true->dn j=false)->YF P (S dn) (S (λj=>dn j||j==(k+i))) ρ vs o v
 |_,[],_,i,o,v,_,h,_=>by simp at h
 |_,_::_,[],i,o,v,_,_,h=>by simp at h
 |k,_::_,_::_,0,o,v,h,h1,h2=>by
  simp at h1 h2
  subst h1;subst h2
  exact h.1
 |k,_::_,_::_,i+1,o,v,h,h1,h2=>by
  have:=q9.get (k:=k+1) i o v h.2 (by simpa using h1) (by simpa using h2)
  rw[show k+1+i=k+(i+1)from by omega]at this
  exact this
theorem zh {P:Program}{S:(Nat->Bool)->World->Prop}{D:Nat->Nat->Bool}{ρ:Operand->Value}{vs vs2:List Value}{k:Nat}{l:List Oper}(h:vs=vs2)(h2:q9 P S D ρ vs k l vs2):q9 P S D ρ vs k l vs:=by
 rw[<-h]at h2;exact h2
theorem ze {P:Program}{S:Nat->World->Prop}{ρ:Operand->Value}{vs vs2:List Value}{k:Nat}{l:List Oper}(h:vs=vs2)(h2:mq P S ρ vs k l vs2):mq P S ρ vs k l vs:=by
 rw[<-h]at h2;exact h2
theorem aN {P:Program}{S T:World->Prop}{B:World->Prop}{ρ:Operand->Value}{vs:List Value}{o:Oper}{v:Value}(hk:∀w,S w->T w)(hb:∀w,S w->B w)(h:∀w0,YV P (λw=>w=w0/\B w) ρ vs o v):YF P S T ρ vs o v:=by
 refine⟨λhw w hS=>?_,λhw=>⟨(h default).2 hw,hk⟩⟩
 have h1:=(h w).1 hw w ⟨rfl,hb w hS⟩
 generalize (execOp ρ o).run P w=r at h1
 cases r with
 |ok out w'=>
  cases out with
  |value x=>
   obtain⟨e,e2,-⟩:=h1
   refine⟨e,?_⟩
   rw[e2];exact hk w hS
  |skip=>
   obtain⟨e,e2,-⟩:=h1
   refine⟨e,?_⟩
   rw[e2];exact hk w hS
  |enter f args=>exact Calls.mono h1 λe w2 ⟨e1,e2,_⟩=>⟨e1,by rw[e2];exact hk w hS⟩
  |_=>exact h1.elim
 |_=>exact h1.elim
section
variable {P : Program} {ops : Array Oper} {Q : Exit → Act → World → Prop}
theorem jC {id:Nat}{a:Act}{w:World}(S:(Nat->Bool)->World->Prop)(D:Nat->Nat->Bool)(hD:∀i o,ops[i]? =some o->∀j,D i j=true->∃e∈o.after,Region.binds .any e=true/\(e.on=j\/D e.on j=true))(n:Nat)(vs:List Value)(hvl:vs.length=n)(hsz:ops.size=n)(hm:P.follows .mixedOrders=true)(hd:eU ops=true)(hdw:dJ ops=true)(hs:Region.noSelect ops=true)(hb:bZ ops a.tmps.size=true)(hS:S (λ_=>false) w.drew)
 (hY:∀ρ:Operand->Value,cO ρ (ops.toList.take n) vs->(∀t:Nat,(∀o:Oper,o∈ops.toList->o.dst≠some t)->ρ (.tmp t)=a.eval (.tmp t))->(∀v,ρ (.const v)=v)->(∀f,ρ (.func f)=.func (.func f) #[] #[])->q9 P S D ρ vs 0 (ops.toList.take n) vs)
 (hend:∀(b:Act) (w':World),S (λj=>decide (j<n)) w'->Kept ops a b->cO b.eval (ops.toList.take n) vs->Q .normal b w'):
 (Code.region id ops true).wp P Q a w:=by
 obtain⟨acts,ha0,QC,hat,lw,hrest,ll,Sy⟩:=AZ (ops:=ops) (a:=a) n vs hvl (by omega) hd hb
 have Cm:=hY (acts n).eval lw (λt h=>by show(acts n).tmps.getD t undef=a.tmps.getD t undef;rw[Array.getD_eq_getD_getElem?,Array.getD_eq_getD_getElem?,hrest t h]) (λ_=>rfl) (λ_=>rfl)
 have hkey:∀(i:Nat) (o:Oper),ops[i]? =some o->∀dn:Nat->Bool,dn i=false->(∀j,D i j=true->dn j=true)->(∀j,D j i=true->dn j=false)->ah P ops (S dn) (S (λj=>dn j||j==i)) o (vs.getD i undef) (acts i):=by
  intro i o ho dn hd1 hd2 hd3
  have hi:i<n:=by have:=(Array.getElem?_eq_some_iff.1 ho).1;omega
  have yy:=Cm.get i o _ (by rw[List.getElem?_take,if_pos hi];simpa using ho) (ll i hi) dn (by simpa using hd1) (by simpa using hd2) (by simpa using hd3)
  simp only[Nat.zero_add]at yy
  exact yy.to hs ho (Sy i o ho hi)
 refine wp_region_any hm (ug (S:=S) (D:=D) (acts:=acts) (vs:=λi=>vs.getD i undef) (a0:=a) hdw hD hs ha0 (λi o ho=>⟨hkey i o ho,QC i o ho⟩) (λw' hw'=>?_) ops.size _ a _ (by simp) ?_ ?_ (λi' j' hj _=>?_) (λj oj hoj hj=>?_) ?_)
 ·have hA:=hat ops.size (Nat.le_refl _)
  rw[hsz]at hA hw'⊢
  exact hend (acts n) w' hw' ⟨hA.defers,hA.size,hrest⟩ lw
 ·refine⟨rfl,rfl,λi o d ho hL=>?_,λ_ _=>rfl⟩
  exfalso
  have hlt:i<ops.size:=(Array.getElem?_eq_some_iff.1 ho).1
  simp[hlt]at hL
 ·have e:(λj=>(Array.replicate ops.size false).getD j false)=(λ_=>false):=by
   funext j
   by_cases hk:j<ops.size
   ·simp[hk]
   ·simp[hk]
  rw[e]
  exact hS
 ·exfalso
  by_cases hk:i'<ops.size
  ·simp[hk]at hj
  ·simp[hk]at hj
 ·exfalso
  by_cases hk:j<ops.size
  ·simp[hk]at hj
  ·simp[hk]at hj
 ·have:=List.countP_le_length (p:=λi=>!(Array.replicate ops.size false).getD i true) (l:=List.range ops.size)
  simpa using this
theorem iw {id:Nat}{a:Act}{w:World}(S:Nat->World->Prop)(n:Nat)(vs:List Value)(hvl:vs.length=n)(hsz:ops.size=n)(hd:eU ops=true)(hs:Region.noSelect ops=true)(hb:bZ ops a.tmps.size=true)(hS:S 0 w)
 (hY:∀ρ:Operand->Value,cO ρ (ops.toList.take n) vs->(∀t:Nat,(∀o:Oper,o∈ops.toList->o.dst≠some t)->ρ (.tmp t)=a.eval (.tmp t))->(∀v,ρ (.const v)=v)->(∀f,ρ (.func f)=.func (.func f) #[] #[])->mq P S ρ vs 0 (ops.toList.take n) vs)
 (hend:∀(b:Act) (w':World),S n w'->Kept ops a b->cO b.eval (ops.toList.take n) vs->Q .normal b w'):
 (Code.region id ops false).wp P Q a w:=
 mK S n vs hvl (by omega) hd hs hb hS hY λb w' hw h1 h2 h3 h4=>by
  rw[hsz,Nat.sub_self]
  exact hend b w' hw ⟨h1,h2,h4⟩ h3
theorem ji.yf {S:World->Prop}{ρ:Operand->Value}{vs:List Value}:∀{k:Nat} {l:List Oper} {m:List Value},ji P S ρ vs l m->q9 P (λ_=>S) (λ_ _=>false) ρ vs k l m
 |_,[],_,_=>trivial
 |_,_::_,[],_=>trivial
 |_,_::_,_::_,h=>⟨λ_ _ _ _=>⟨h.1.1,λhw=>⟨h.1.2 hw,λ_ h=>h⟩⟩,ji.yf h.2⟩
theorem u7 {id:Nat}{a:Act}{w:World}(S:World->Prop)(n:Nat)(vs:List Value)(hvl:vs.length=n)(hsz:ops.size=n)(hm:P.follows .mixedOrders=true)(hd:eU ops=true)(hdw:dJ ops=true)(hs:Region.noSelect ops=true)(hb:bZ ops a.tmps.size=true)(hS:S w.drew)
 (hY:∀ρ:Operand->Value,cO ρ (ops.toList.take n) vs->(∀t:Nat,(∀o:Oper,o∈ops.toList->o.dst≠some t)->ρ (.tmp t)=a.eval (.tmp t))->(∀v,ρ (.const v)=v)->(∀f,ρ (.func f)=.func (.func f) #[] #[])->ji P S ρ vs (ops.toList.take n) vs)
 (hend:∀(b:Act) (w':World),S w'->b.defers=a.defers->b.tmps.size=a.tmps.size->cO b.eval (ops.toList.take n) vs->(∀t:Nat,(∀o:Oper,o∈ops.toList->o.dst≠some t)->b.tmps[t]? =a.tmps[t]?)->Q .normal b w'):
 (Code.region id ops true).wp P Q a w:=
 jC (λ_=>S) (λ_ _=>false) (λ_ _ _ _ h=>by cases h) n vs hvl hsz hm hd hdw hs hb hS (λρ h1 h2 h3 h4=>(hY ρ h1 h2 h3 h4).yf) λb w' hw hk h3=>hend b w' hw hk.defers hk.size h3 hk.rest
end
end Go.Proofs.YtnjjeapcalkmaaaGreatDoor.Ord
namespace Go.Proofs.YtnjjeapcalkmaaaGreatDoor
open Go.RowKit
open Go.Proofs.YtnjjeapcalkmaaaGreatDoor.Ord
section
variable {P : Program} {ops : Array Oper} {Q : Exit → Act → World → Prop} {a : Act} {w : World} {id : Nat}
theorem TB (S:World->Prop)(n:Nat)(vs:List Value)(hvl:vs.length=n)(hsz:ops.size=n)(hm:P.follows .mixedOrders=true)(hd:eU ops=true)(hdw:dJ ops=true)(hs:Region.noSelect ops=true)(hb:bZ ops a.tmps.size=true)(hS:S w.drew)
 (hY:∀ρ:Operand->Value,cO ρ (ops.toList.take n) vs->(∀t:Nat,(∀o:Oper,o∈ops.toList->o.dst≠some t)->ρ (.tmp t)=a.eval (.tmp t))->(∀v,ρ (.const v)=v)->(∀f,ρ (.func f)=.func (.func f) #[] #[])->ji P S ρ vs (ops.toList.take n) vs)
 (hend:∀(b:Act) (w':World),S w'->Kept ops a b->cO b.eval (ops.toList.take n) vs->Q .normal b w'):(Code.region id ops true).wp P Q a w:=
 u7 S n vs hvl hsz hm hd hdw hs hb hS hY λb w' hS' h1 h2 hD h3=>hend b w' hS' ⟨h1,h2,h3⟩ hD
end
end Go.Proofs.YtnjjeapcalkmaaaGreatDoor
namespace Go.Proofs.YtnjjeapcalkmaaaGreatDoor.Ev
open Go Go.RowKit Go.Proofs.YtnjjeapcalkmaaaGreatDoor Go.Proofs.YtnjjeapcalkmaaaGreatDoor.Ord
theorem Uk {b:Act}{t:Nat}{v:Value}(hlt:t<b.tmps.size)(h:b.eval (.tmp t)=v):b.tmps[t]? =some v:=by
 have h2:b.tmps.getD t undef=v:=h
 rw[Array.getD_eq_getD_getElem?,Array.getElem?_eq_getElem hlt]at h2
 rw[Array.getElem?_eq_getElem hlt]
 exact congrArg some h2
inductive AV where
 |v (x:Value)
 |p (k j:Nat)
 |r (k j:Nat)
 |a (k j n:Nat)
structure Mem (σ:Type) where
 blk:List (Nat×Nat)
 offs:TypeId->Nat->Option Nat:=λ_ _=>none
 ref:Nat->Nat->Value:=λ_ _=>.bool false
 load:σ->TypeId->Nat->Nat->Option AV:=λ_ _ _ _=>none
 store:σ->TypeId->Nat->Nat->Value->Option σ:=λ_ _ _ _ _=>none
 call:σ->FuncId->List AV->Option (Value×Option σ):=λ_ _ _=>none
 other:σ->Oper->(Operand->Option AV)->Option AV:=λ_ _ _=>none
 hint:Nat->Option Bool:=λ_=>none
 lit:Nat->Bool:=λ_=>false
 reg:σ->List (Nat×AV)->Array Oper->Bool->Option (σ×List (Nat×AV)):=λ_ _ _ _=>none
variable {σ : Type}
def AV.val (M:Mem σ):AV->Value
 | .v x=>x
 | .p k j=>.pointer (some ⟨(M.blk.getD k (0,0)).1,(M.blk.getD k (0,0)).2+j,none⟩)
 | .r k j=>M.ref k j
 | .a k j n=>.agg ((List.range n).map λi=>M.ref k (j+i)).toArray
def asB (M:Mem σ)(a:AV):Option Bool:=match a.val M with
 | .bool b=>some b
 |_=>none
def asI (M:Mem σ)(a:AV):Option Int:=match a.val M with
 | .int .i64 n=>some n
 |_=>none
theorem lG {M:Mem σ}{a:AV}{b:Bool}(h:asB M a=some b):a.val M=.bool b:=by
 unfold asB at h
 split at h
 ·rename_i he;cases h;exact he
 ·cases h
theorem Am {M:Mem σ}{a:AV}{n:Int}(h:asI M a=some n):a.val M=.int .i64 n:=by
 unfold asI at h
 split at h
 ·rename_i he;cases h;exact he
 ·cases h
structure Ok (P:Program)(S:σ->World->Prop)(M:Mem σ):Prop where
 offs:∀t f d,M.offs t f=some d->∀b j w,(Instr.fieldAt t (.pointer (some ⟨b,j,none⟩)) f).run P w=.ok (.pointer (some ⟨b,j+d,none⟩)) w
 load:∀s t k j v,M.load s t k j=some v->∀w,S s w->(Instr.loadAt t ((AV.p k j).val M)).run P w=.ok (v.val M) w
 store:∀s t k j v s',M.store s t k j v=some s'->∀w,S s w->∃w',(Instr.storeAt t ((AV.p k j).val M) v).run P w=.ok () w'/\S s' w'
 call:∀s f vs v s',M.call s f vs=some (v,s')->(∀args w,(callFunc f args).run P w=.ok (.enter f args) w)/\∀w,S s w->Calls P f (vs.map (AV.val M)).toArray w λe w'=>e=.returned v/\S (s'.getD s) w'
 other:∀s o ov v,M.other s o ov=some v->∀ρ:Operand->Value,(∀x u,ov x=some u->ρ x=u.val M)->∀w,S s w->(execOp ρ o).run P w=.ok (.value (v.val M)) w
structure Ent (σ:Type) where
 dst:Option Nat
 ch:List (Nat×Bool)
 cond:Option Bool
 val:AV
 st:σ
 turn:Bool
def Ent.on (e:Ent σ):Bool:=match e.cond with
 |none=>true
 |some c=>c
def Ent.value (M:Mem σ)(e:Ent σ):Value:=match e.cond with
 |none=>e.val.val M
 |some c=>if c=true then e.val.val M else undef
def Mx (c:Option Bool)(x:Bool):Option Bool:=match c with
 |none=>some x
 |some y=>some (y&&x)
def sub (a b:List (Nat×Bool)):Bool:=a.all λg=>b.contains g
def find (t:Nat):List (Ent σ)->Nat->Option (Nat×Ent σ)
 |[],_=>none
 |e::l,i=>if e.dst=some t then some (i,e)else find t l (i+1)
def look (K:List (Nat×AV))(t:Nat):Option AV:=match K with
 |[]=>none
 |(s,v)::K=>if s=t then some v else look K t
def opd (K:List (Nat×AV))(rs:List (Ent σ))(ch:List (Nat×Bool)):Operand->Option AV
 | .const v=>some (.v v)
 | .tmp t=>match find t rs 0 with
   |some (_,e)=>if sub e.ch ch=true then some e.val else none
   |none=>look K t
 |_=>none
def xD (ov:Operand->Option AV):List Operand->Option (List AV)
 |[]=>some []
 |x::l=>match ov x,xD ov l with
  |some a,some vs=>some (a::vs)
  |_,_=>none
def bin (op:BinOp)(t:TypeId):Value->Value->Option Value
 | .int .i64 a,.int .i64 b=>if t=2\/t=3\/t=38 then(match op with
   | .eql=>some (.bool (a==b))
   | .neq=>some (.bool (a !=b))
   | .lss=>some (.bool (decide (a<b)))
   | .leq=>some (.bool (decide (a<=b)))
   | .gtr=>some (.bool (decide (b<a)))
   | .geq=>some (.bool (decide (b<=a)))
   | .add=>some (.int .i64 (IntKind.i64.wrap (a+b)))
   | .sub=>some (.int .i64 (IntKind.i64.wrap (a-b)))
   |_=>none)else none
 | .string a,.string b=>if t=9 then(match op with
   | .eql=>some (.bool (a.toList==b.toList))
   | .neq=>some (.bool (!(a.toList==b.toList)))
   |_=>none)else none
 | .bool a,.bool b=>if t=4 then(match op with
   | .eql=>some (.bool (a==b))
   | .neq=>some (.bool (a !=b))
   |_=>none)else none
 |_,_=>none
def OH (M:Mem σ)(s:σ)(ov:Operand->Option AV)(o:Oper):Option AV:=match o.op with
 | .move x=>ov x
 | .assign x=>ov x
 | .nilCheck x=>match ov x with
   |some (.p k j)=>some (.p k j)
   |_=>none
 | .fieldAddr t x f=>match ov x with
   |some (.p k j)=>match M.offs t f with
    |some d=>some (.p k (j+d))
    |none=>none
   |_=>none
 | .load t x=>match ov x with
   |some (.p k j)=>M.load s t k j
   |_=>none
 | .binOp op t x y _=>match ov x,ov y with
   |some a,some b=>match bin op t (a.val M) (b.val M)with
    |some v=>some (.v v)
    |none=>none
   |_,_=>none
 | .unOp .not _ x=>match ov x with
   |some a=>match asB M a with
    |some b=>some (.v (.bool (!b)))
    |none=>none
   |none=>none
 | .extract x i=>match ov x with
   |some a=>match a.val M with
    | .tuple vs=>match vs.toList[i]? with
      |some v=>some (.v v)
      |none=>none
    |_=>none
   |none=>none
 |_=>none
def core (M:Mem σ)(s:σ)(ov:Operand->Option AV)(o:Oper):Option AV:=match OH M s ov o with
 |some a=>some a
 |none=>M.other s o ov
def JC (M:Mem σ)(b:Bool)(x y:Operand)(ax ay:AV):AV:=match x,y,asB M ax,asB M ay with
 |_,.const (.bool false),some u,_=>.v (.bool (b&&u))
 | .const (.bool true),_,_,some u=>.v (.bool (b||u))
 |_,_,_,_=>.v (if b=true then ax.val M else ay.val M)
def gd (M:Mem σ)(rs:List (Ent σ)):Option (Nat×Bool)->Option (List (Nat×Bool)×Option Bool)
 |none=>some ([],none)
 |some (j,want)=>match rs[j]? with
  |some e=>match asB M e.val with
   |some b=>some ((j,want)::e.ch,Mx e.cond (if want=true then b else !b))
   |none=>none
  |none=>none
def act (M:Mem σ)(K:List (Nat×AV))(rs:List (Ent σ))(s:σ)(o:Oper)(ch:List (Nat×Bool))(cond:Option Bool):Option (Ent σ):=match o.op with
    | .pick (.tmp t) x y=>match find t rs 0 with
      |some (j,e)=>if sub e.ch ch=true then(match asB M e.val with
       |some b=>match opd K rs ((j,true)::ch) x,opd K rs ((j,false)::ch) y with
        |some ax,some ay=>some ⟨o.dst,ch,cond,JC M b x y ax ay,s,false⟩
        |_,_=>none
       |none=>none)else none
      |none=>none
    | .call ⟨.value (.func f),args,_⟩=>match xD (opd K rs ch) args.toList with
      |some vs=>match M.call s f vs with
       |some (v,none)=>some ⟨o.dst,ch,cond,.v v,s,false⟩
       |some (v,some s')=>match ch with
        |[]=>some ⟨o.dst,[],cond,.v v,s',true⟩
        |_=>none
       |none=>none
      |none=>none
    | .store t x y=>match ch,o.dst,opd K rs ch x,opd K rs ch y with
      |[],none,some (.p k j),some a=>match M.store s t k j (a.val M)with
       |some s'=>some ⟨none,[],cond,.v undef,s',true⟩
       |none=>none
      |_,_,_,_=>none
    |_=>match core M s (opd K rs ch) o with
     |some a=>some ⟨o.dst,ch,cond,a,s,false⟩
     |none=>none
def ent (M:Mem σ)(K:List (Nat×AV))(rs:List (Ent σ))(s:σ)(o:Oper):Option (Ent σ):=match gd M rs o.guard with
 |some (ch,cond)=>act M K rs s o ch cond
 |none=>none
def run (M:Mem σ)(K:List (Nat×AV)):List (Ent σ)->σ->List Oper->Option (List (Ent σ))
 |rs,_,[]=>some rs
 |rs,s,o::l=>match ent M K rs s o with
  |some e=>run M K (rs++[e]) e.st l
  |none=>none
theorem I8 {M:Mem σ}{rs:List (Ent σ)}{g:Option (Nat×Bool)}{ch:List (Nat×Bool)}{cond:Option Bool}(h:gd M rs g=some (ch,cond)):
 (g=none/\ch=[]/\cond=none)\/∃j want e b,g=some (j,want)/\rs[j]? =some e/\e.val.val M=.bool b/\ch=(j,want)::e.ch/\cond=Mx e.cond (if want=true then b else !b):=by
 unfold gd at h
 split at h
 ·cases h;exact .inl ⟨rfl,rfl,rfl⟩
 ·rename_i j want
  split at h
  ·rename_i e he
   split at h
   ·rename_i b hb
    cases h
    exact .inr ⟨j,want,e,b,rfl,he,lG hb,rfl,rfl⟩
   ·cases h
  ·cases h
theorem xB {M:Mem σ}{K:List (Nat×AV)}{rs:List (Ent σ)}{s:σ}{o:Oper}{ch:List (Nat×Bool)}{cond:Option Bool}{e:Ent σ}(h:act M K rs s o ch cond=some e):e.dst=o.dst/\e.ch=ch/\e.cond=cond/\(e.turn=false->e.st=s)/\(ch≠[]->e.st=s):=by
 unfold act at h
 split at h
 all_goals (repeat' split at h)
 all_goals first
  |(cases h;exact⟨rfl,rfl,rfl,λ_=>rfl,λ_=>rfl⟩)
  |(cases h;refine⟨rfl,rfl,rfl,λh=>?_,λh=>?_⟩<;>first|cases h|exact absurd rfl h)
  |(cases h;refine⟨by simp_all,rfl,rfl,λh=>?_,λh=>?_⟩<;>first|cases h|exact absurd rfl h)
  |cases h
def gT (M:Mem σ)(rs:List (Ent σ))(g:Nat×Bool):Prop:=∃e,rs[g.1]? =some e/\e.val.val M=.bool g.2/\e.on=true
def Inv (M:Mem σ)(rs:List (Ent σ)):Prop:=∀(i:Nat) (e:Ent σ),rs[i]? =some e->(e.ch=[]/\e.cond=none)\/∃(j:Nat) (want:Bool) (ej:Ent σ) (b:Bool),j<i/\rs[j]? =some ej/\ej.val.val M=.bool b/\e.ch=(j,want)::ej.ch/\e.cond=Mx ej.cond (if want=true then b else !b)
theorem JF (c:Option Bool)(x:Bool):(match Mx c x with|none=>true|some y=>y)=((match c with|none=>true|some y=>y)&&x):=by
 cases c<;>simp[Mx]
theorem Inv.chain {M:Mem σ}{rs:List (Ent σ)}(h:Inv M rs):∀(i:Nat) (e:Ent σ),rs[i]? =some e->(e.on=true↔∀g∈e.ch,gT M rs g):=by
 intro i
 induction i using Nat.strongRecOn with
 |_ i ih=>
  intro e he
  rcases h i e he with⟨h1,h2⟩|⟨j,want,ej,b,hj,MZ,hv,h1,h2⟩
  ·rw[h1];unfold Ent.on;rw[h2];simp
  ·have hon:e.on=(ej.on&&(if want=true then b else !b)):=by unfold Ent.on;rw[h2];exact JF _ _
   have i1:=ih j hj ej MZ
   rw[hon,h1]
   constructor
   ·intro hc g hg
    rw[Bool.and_eq_true]at hc
    rcases List.mem_cons.1 hg with rfl|hg
    ·refine⟨ej,MZ,?_,hc.1⟩
     rw[hv]
     have:=hc.2
     cases want<;>cases b<;>simp_all
    ·exact i1.1 hc.1 g hg
   ·intro hc
    obtain⟨e2,he2,hv2,hon2⟩:=hc (j,want) (List.mem_cons_self ..)
    have:e2=ej:=by have:=he2.symm.trans MZ;exact Option.some.inj this
    subst this
    rw[hv]at hv2
    cases hv2
    rw[Bool.and_eq_true]
    refine⟨hon2,?_⟩
    cases want<;>rfl
theorem iJ {t:Nat}:∀{l:List (Ent σ)} {k i:Nat} {e:Ent σ},find t l k=some (i,e)->k<=i/\l[i-k]? =some e/\e.dst=some t
 |[],_,_,_,h=>by cases h
 |x::l,k,i,e,h=>by
  unfold find at h
  split at h
  ·rename_i hx
   cases h
   exact⟨Nat.le_refl _,by simp,hx⟩
  ·obtain⟨h1,h2,h3⟩:=iJ h
   refine⟨by omega,?_,h3⟩
   rw[show i-k=(i-(k+1))+1 from by omega]
   simpa using h2
theorem Ig {a b:List (Nat×Bool)}(h:sub a b=true):∀g∈a,g∈b:=λg hg=>by
 unfold sub at h
 have:=List.all_eq_true.1 h g hg
 simpa using this
section
variable {S : σ → World → Prop} {M : Mem σ} {K : List (Nat × AV)} {ov : Operand → Option AV} {ρ : Operand → Value} {full r0 : List (Ent σ)}
structure Rd (M:Mem σ)(K:List (Nat×AV))(ρ:Operand->Value)(full:List (Ent σ)):Prop where
 dst:∀(i:Nat) (e:Ent σ) (d:Nat),full[i]? =some e->e.dst=some d->ρ (.tmp d)=e.value M
 known:∀t u,look K t=some u->ρ (.tmp t)=u.val M
 const:∀v,ρ (.const v)=v
 func:∀f,ρ (.func f)=.func (.func f) #[] #[]
theorem lS (hR:Rd M K ρ full)(hI:Inv M full)(hp:∀(i:Nat) (e:Ent σ),r0[i]? =some e->full[i]? =some e){ch:List (Nat×Bool)}(hg:∀g∈ch,gT M full g){x:Operand}{u:AV}(h:opd K r0 ch x=some u):ρ x=u.val M:=by
 unfold opd at h
 split at h
 ·cases h;exact hR.const _
 ·split at h
  ·rename_i i e hf
   split at h
   ·rename_i hs
    cases h
    obtain⟨-,h2,h3⟩:=iJ hf
    have h4:=hp _ _ h2
    rw[hR.dst _ _ _ h4 h3]
    have hon:=(hI.chain _ _ h4).2 λg hgm=>hg g (Ig hs g hgm)
    unfold Ent.value
    unfold Ent.on at hon
    split
    ·rfl
    ·rename_i c hc
     rw[hc]at hon
     rw[if_pos hon]
   ·cases h
  ·exact hR.known _ _ h
 ·cases h
theorem lL {ov:Operand->Option AV}(hov:∀x u,ov x=some u->ρ x=u.val M):∀{l:List Operand} {vs:List AV},xD ov l=some vs->l.map ρ=vs.map (AV.val M)
 |[],vs,h=>by cases h;rfl
 |x::l,vs,h=>by
  unfold xD at h
  split at h
  ·rename_i a vs2 h1 h2
   cases h
   rw[List.map_cons,List.map_cons,hov _ _ h1,lL hov h2]
  ·cases h
theorem Bl {op:BinOp}{t:TypeId}{a b v:Value}(h:bin op t a b=some v)(x y:Operand)(w:World):(do eqGuard op t x y a b;binOp op t a b:Sem Value).run Tryz.prog w=.ok v w:=by
 unfold bin at h
 split at h
 ·split at h
  ·rename_i ht
   split at h
   all_goals first|(cases h;rcases ht with rfl|rfl|rfl<;>go_simp)|cases h
  ·cases h
 ·split at h
  ·rename_i ht
   subst ht
   split at h
   all_goals first|(cases h;go_simp)|cases h
  ·cases h
 ·split at h
  ·rename_i a b ht
   subst ht
   split at h
   all_goals first|(cases h;go_simp;done)|(cases h;go_simp;cases a<;>cases b<;>rfl)|cases h
  ·cases h
 ·cases h
theorem Nn {b:Bool}{x y:Operand}{ax ay:AV}(hc:∀v,ρ (.const v)=v)(hx:b=true->ρ x=ax.val M)(hy:b=false->ρ y=ay.val M):(JC M b x y ax ay).val M=if b=true then ρ x else ρ y:=by
 unfold JC
 have key:(if b=true then ax.val M else ay.val M)=if b=true then ρ x else ρ y:=by
  cases b
  ·show ay.val M=ρ y
   rw[hy rfl]
  ·show ax.val M=ρ x
   rw[hx rfl]
 split
 ·rename_i u hu
  rw[<-key]
  cases b
  ·show Value.bool false=ay.val M
   rw[<-hy rfl,hc]
  ·show Value.bool u=ax.val M
   rw[lG (by assumption)]
 ·rename_i u hu1 hu
  rw[<-key]
  cases b
  ·show Value.bool u=ay.val M
   rw[lG (by assumption)]
  ·show Value.bool true=ax.val M
   rw[<-hx rfl,hc]
 ·exact key
theorem PN (hO:Ok Tryz.prog S M)(hov:∀x u,ov x=some u->ρ x=u.val M){s:σ}{o:Oper}{a:AV}(h:OH M s ov o=some a):∀w,S s w->Gives Tryz.prog (S s) (a.val M) ((execOp ρ o).run Tryz.prog w):=by
 intro w hS
 unfold OH at h
 split at h
 ·rename_i x ho
  unfold execOp;simp only[ho,hov _ _ h];exact⟨rfl,hS⟩
 ·rename_i x ho
  unfold execOp;simp only[ho,hov _ _ h];exact⟨rfl,hS⟩
 ·rename_i x ho
  split at h
  ·rename_i k j hx
   cases h
   unfold execOp;simp only[ho,hov _ _ hx];exact⟨rfl,hS⟩
  ·cases h
 ·rename_i t x f ho
  split at h
  ·rename_i k j hx
   split at h
   ·rename_i d hd
    cases h
    unfold execOp
    simp only[ho,hov _ _ hx,AV.val,Sem.run_bind,hO.offs t f d hd,Result.andThen_ok,Nat.add_assoc];exact⟨rfl,hS⟩
   ·cases h
  ·cases h
 ·rename_i t x ho
  split at h
  ·rename_i k j hx
   unfold execOp
   have hl:=hO.load s t k j a h w hS
   have hx2:ρ x=(AV.p k j).val M:=hov _ _ hx
   simp only[ho,hx2,Sem.run_bind,hl,Result.andThen_ok];exact⟨rfl,hS⟩
  ·cases h
 ·rename_i op t x y t2 ho
  split at h
  ·rename_i a b hx hy
   split at h
   ·rename_i v hv
    cases h
    unfold execOp
    simp only[ho,hov _ _ hx,hov _ _ hy]
    rw[Sem.run_bind,Bl hv];exact⟨rfl,hS⟩
   ·cases h
  ·cases h
 ·rename_i t x ho
  split at h
  ·rename_i b hx
   split at h
   ·rename_i u hu
    cases h
    unfold execOp;simp only[ho,hov _ _ hx,lG hu];exact⟨rfl,hS⟩
   ·cases h
  ·cases h
 ·rename_i x i ho
  split at h
  ·rename_i b hx
   split at h
   ·rename_i vs hvs
    split at h
    ·rename_i v hv
     cases h
     have hv2:vs[i]? =some v:=by simpa using hv
     unfold execOp
     simp only[ho,hov _ _ hx,hvs]
     simp[Instr.extract,hv2]
     exact⟨rfl,hS⟩
    ·cases h
   ·cases h
  ·cases h
 ·cases h
theorem Su (hO:Ok Tryz.prog S M)(hov:∀x u,ov x=some u->ρ x=u.val M){s:σ}{o:Oper}{a:AV}(h:core M s ov o=some a):∀w,S s w->Gives Tryz.prog (S s) (a.val M) ((execOp ρ o).run Tryz.prog w):=by
 intro w hS
 unfold core at h
 split at h
 ·cases h
  exact PN hO hov (by assumption) w hS
 ·have:=hO.other s o ov a h ρ hov w hS
  rw[this]
  exact⟨rfl,hS⟩
theorem FI (hO:Ok Tryz.prog S M)(hR:Rd M K ρ full)(hI:Inv M full)(hp:∀(i:Nat) (e:Ent σ),r0[i]? =some e->full[i]? =some e){ch:List (Nat×Bool)}{cond:Option Bool}(hg:∀g∈ch,gT M full g){s:σ}{o:Oper}{e:Ent σ}(h:act M K r0 s o ch cond=some e):
 ∀w,S s w->Gives Tryz.prog (S e.st) (e.val.val M) ((execOp ρ o).run Tryz.prog w):=by
 intro w hS
 unfold act at h
 split at h
 ·rename_i t x y ho
  split at h
  ·rename_i j e1 hf
   split at h
   ·rename_i hs
    split at h
    ·rename_i b hb
     split at h
     ·rename_i ax ay hx hy
      cases h
      obtain⟨-,h2,h3⟩:=iJ hf
      have h4:=hp _ _ h2
      have hon:=(hI.chain _ _ h4).2 λg hgm=>hg g (Ig hs g hgm)
      have hb:=lG hb
      have hc:ρ (.tmp t)=.bool b:=by
       rw[hR.dst _ _ _ h4 h3,<-hb]
       unfold Ent.value
       unfold Ent.on at hon
       split
       ·rfl
       ·rename_i c hc
        rw[hc]at hon
        rw[if_pos hon]
      have k1:b=true->ρ x=ax.val M:=λhbt=>lS hR hI hp (ch:=(j,true)::ch) (λg hgm=>by
       rcases List.mem_cons.1 hgm with rfl|hgm
       ·exact⟨e1,h4,by rw[hb,hbt],hon⟩
       ·exact hg g hgm) hx
      have k2:b=false->ρ y=ay.val M:=λhbt=>lS hR hI hp (ch:=(j,false)::ch) (λg hgm=>by
       rcases List.mem_cons.1 hgm with rfl|hgm
       ·exact⟨e1,h4,by rw[hb,hbt],hon⟩
       ·exact hg g hgm) hy
      show Gives _ _ ((JC M b x y ax ay).val M) _
      rw[Nn hR.const k1 k2]
      unfold execOp
      simp only[ho,hc]
      cases b<;>exact⟨rfl,hS⟩
     ·cases h
    ·cases h
   ·cases h
  ·cases h
 ·rename_i f args ts ho
  split at h
  ·rename_i vs hvs
   have hargs:args.map ρ=(vs.map (AV.val M)).toArray:=by
    rw[<-lL (λx u=>lS hR hI hp hg (x:=x) (u:=u)) hvs,<-Array.toList_map]
   have hf:ρ (.func f)=.func (.func f) #[] #[]:=hR.func f
   split at h
   ·rename_i v hv
    cases h
    obtain⟨h1,h2⟩:=hO.call _ _ _ _ _ hv
    unfold execOp
    simp[ho,resolve,invoke,hf,hargs,Deferred.ofValue,h1]
    exact h2 w hS
   ·rename_i v s2 hv
    split at h
    ·cases h
     obtain⟨h1,h2⟩:=hO.call _ _ _ _ _ hv
     unfold execOp
     simp[ho,resolve,invoke,hf,hargs,Deferred.ofValue,h1]
     exact h2 w hS
    ·cases h
   ·cases h
  ·cases h
 ·rename_i t x y ho
  split at h
  ·rename_i k j a hd hx hy
   split at h
   ·rename_i s2 hs2
    cases h
    obtain⟨w2,h1,h2⟩:=hO.store _ _ _ _ _ _ hs2 w hS
    have e1:=lS hR hI hp hg hx
    have e2:=lS hR hI hp hg hy
    unfold execOp
    simp only[ho,e1,e2,Sem.run_bind,Sem.run_pure,h1,Result.andThen_ok]
    exact⟨rfl,h2⟩
   ·cases h
  ·cases h
 ·split at h
  ·rename_i a ha
   cases h
   exact Su hO (λx u=>lS hR hI hp hg) ha w hS
  ·cases h
theorem Dw {s:σ}{o:Oper}{e:Ent σ}(h:ent M K r0 s o=some e):e.dst=o.dst/\(e.turn=false->e.st=s):=by
 unfold ent at h
 split at h
 ·have:=xB h;exact⟨this.1,this.2.2.2.1⟩
 ·cases h
theorem NI (hO:Ok Tryz.prog S M)(hR:Rd M K ρ full)(hI:Inv M full)(hp:∀(i:Nat) (e:Ent σ),r0[i]? =some e->full[i]? =some e){s:σ}{o:Oper}{e:Ent σ}(h:ent M K r0 s o=some e)(hi:full[r0.length]? =some e):YF Tryz.prog (S s) (S e.st) ρ (full.map (Ent.value M)) o (e.value M):=by
 unfold ent at h
 split at h
 ·rename_i ch cond hg
  obtain⟨a1,a2,a3,a4,a5⟩:=xB h
  have hon:iB (full.map (Ent.value M)) o=e.on:=by
   rcases I8 hg with⟨h1,h2,h3⟩|⟨j,want,ej,b,h1,h2,h3,h4,h5⟩
   ·unfold iB Ent.on
    rw[h1,a3,h3]
   ·have hj:=hp _ _ h2
    have:e.on=(ej.on&&(if want=true then b else !b)):=by unfold Ent.on;rw[a3,h5];exact JF _ _
    rw[this]
    unfold iB
    rw[h1]
    simp only[List.getElem?_map,hj,Option.map_some]
    unfold Ent.value Ent.on
    rw[h3]
    cases ej.cond with
    |none=>cases want<;>cases b<;>rfl
    |some c=>cases c<;>cases want<;>cases b<;>rfl
  refine⟨λhw w hS=>?_,λhw=>⟨?_,λw hS=>?_⟩⟩
  ·rw[hon]at hw
   have hch:=(hI.chain _ _ hi).1 hw
   rw[a2]at hch
   have:=FI hO hR hI hp hch h w hS
   have hv:e.value M=e.val.val M:=by
    unfold Ent.value
    unfold Ent.on at hw
    split
    ·rfl
    ·rename_i c hc
     rw[hc]at hw
     rw[if_pos hw]
   rw[hv]
   exact this
  ·rw[hon]at hw
   unfold Ent.value
   unfold Ent.on at hw
   split
   ·rename_i hc;rw[hc]at hw;cases hw
   ·rename_i c hc
    rw[hc]at hw
    rw[if_neg (by have hw2:c=false:=hw;rw[hw2];decide)]
  ·have hne:ch≠[]:=λhc0=>by
    have:=(hI.chain _ _ hi).2 (by rw[a2,hc0];intro g hgm;cases hgm)
    rw[<-hon,hw]at this
    cases this
   rw[a5 hne]
   exact hS
 ·cases h
theorem Nk {s:σ}{o:Oper}{e:Ent σ}(hI:Inv M r0)(h:ent M K r0 s o=some e):Inv M (r0++[e]):=by
 intro i e1 he
 rcases Nat.lt_or_ge i r0.length with hlt|hge
 ·rw[List.getElem?_append_left hlt]at he
  rcases hI i e1 he with h1|⟨j,want,ej,b,hj,MZ,h2⟩
  ·exact .inl h1
  ·exact .inr ⟨j,want,ej,b,hj,by rw[List.getElem?_append_left (by omega)];exact MZ,h2⟩
 ·have hi:i=r0.length:=by
   have:=(List.getElem?_eq_some_iff.1 he).1
   simp at this
   omega
  subst hi
  simp at he
  subst he
  unfold ent at h
  split at h
  ·rename_i ch cond hg
   obtain⟨a1,a2,a3,a4,a5⟩:=xB h
   rcases I8 hg with⟨h1,h2,h3⟩|⟨j,want,ej,b,h1,h2,h3,h4,h5⟩
   ·exact .inl ⟨by rw[a2,h2],by rw[a3,h3]⟩
   ·have hjl:j<r0.length:=(List.getElem?_eq_some_iff.1 h2).1
    exact .inr ⟨j,want,ej,b,hjl,by rw[List.getElem?_append_left hjl];exact h2,h3,by rw[a2,h4],by rw[a3,h5]⟩
  ·cases h
theorem dx {l:List Oper}:∀{r0:List (Ent σ)} {s:σ} {rs:List (Ent σ)},run M K r0 s l=some rs->∃t,rs=r0++t/\t.length=l.length:=by
 induction l with
 |nil=>intro r0 s rs h;cases h;exact⟨[],by simp,rfl⟩
 |cons o l ih=>
  intro r0 s rs h
  unfold run at h
  split at h
  ·obtain⟨t,h1,h2⟩:=ih h
   exact⟨_::t,by rw[h1,List.append_assoc];rfl,by simp[h2]⟩
  ·cases h
theorem vW {l:List Oper}:∀{r0:List (Ent σ)} {s:σ} {rs:List (Ent σ)},Inv M r0->run M K r0 s l=some rs->Inv M rs:=by
 induction l with
 |nil=>intro r0 s rs hI h;cases h;exact hI
 |cons o l ih=>
  intro r0 s rs hI h
  unfold run at h
  split at h
  ·rename_i e he
   exact ih (Nk hI he) h
  ·cases h
theorem vU {l:List Oper}:∀{r0:List (Ent σ)} {s:σ} {rs:List (Ent σ)},run M K r0 s l=some rs->∀(i:Nat) (o:Oper),l[i]? =some o->∃e,rs[r0.length+i]? =some e/\e.dst=o.dst:=by
 induction l with
 |nil=>intro r0 s rs h i o hi;simp at hi
 |cons o l ih=>
  intro r0 s rs h i o2 hi
  unfold run at h
  split at h
  ·rename_i e he
   cases i with
   |zero=>
    simp at hi
    subst hi
    obtain⟨t,h1,h2⟩:=dx h
    exact⟨e,by rw[h1];simp,(Dw he).1⟩
   |succ i=>
    obtain⟨e2,h1,h2⟩:=ih h i o2 (by simpa using hi)
    refine⟨e2,?_,h2⟩
    rw[List.length_append,List.length_singleton]at h1
    rw[<-h1]
    congr 1
    omega
  ·cases h
def stq (s0:σ)(rs:List (Ent σ)):Nat->σ
 |0=>s0
 |k+1=>match rs[k]? with
  |some e=>e.st
  |none=>s0
theorem run_yn (hO:Ok Tryz.prog S M)(hR:Rd M K ρ full)(hI:Inv M full)(s0:σ){l:List Oper}:∀{r0:List (Ent σ)} {s:σ},run M K r0 s l=some full->stq s0 full r0.length=s->mq Tryz.prog (λk=>S (stq s0 full k)) ρ (full.map (Ent.value M)) r0.length l ((full.drop r0.length).map (Ent.value M)):=by
 induction l with
 |nil=>intro r0 s h hs;unfold mq;trivial
 |cons o l ih=>
  intro r0 s h hs
  have h0:=h
  unfold run at h
  split at h
  ·rename_i e he
   obtain⟨t,h1,h2⟩:=dx h
   have hk:full[r0.length]? =some e:=by rw[h1];simp
   have hd:full.drop r0.length=e::t:=by rw[h1,List.append_assoc];simp
   have hd2:full.drop (r0++[e]).length=t:=by rw[h1];simp
   have hp:∀(i:Nat) (x:Ent σ),r0[i]? =some x->full[i]? =some x:=λi x hx=>by
    rw[h1,List.append_assoc,List.getElem?_append_left (List.getElem?_eq_some_iff.1 hx).1];exact hx
   have hst:stq s0 full (r0.length+1)=e.st:=by show(match full[r0.length]? with|some e=>e.st|none=>s0)=e.st;rw[hk]
   rw[hd,List.map_cons]
   refine⟨?_,?_⟩
   ·show YF _ (S (stq s0 full r0.length)) (S (stq s0 full (r0.length+1))) _ _ _ _
    rw[hs,hst]
    exact NI hO hR hI hp he hk
   ·have:=ih h (by rw[List.length_append];exact hst)
    rw[hd2,List.length_append]at this
    exact this
  ·cases h
theorem Pn (hO:Ok Tryz.prog S M)(hR:Rd M K ρ full)(hI:Inv M full)(ht:∀e∈full,e.turn=false)(s:σ){l:List Oper}:∀{r0:List (Ent σ)},run M K r0 s l=some full->ji Tryz.prog (S s) ρ (full.map (Ent.value M)) l ((full.drop r0.length).map (Ent.value M)):=by
 induction l with
 |nil=>intro r0 h;unfold ji;trivial
 |cons o l ih=>
  intro r0 h
  unfold run at h
  split at h
  ·rename_i e he
   obtain⟨t,h1,h2⟩:=dx h
   have hk:full[r0.length]? =some e:=by rw[h1];simp
   have hd:full.drop r0.length=e::t:=by rw[h1,List.append_assoc];simp
   have hd2:full.drop (r0++[e]).length=t:=by rw[h1];simp
   have hp:∀(i:Nat) (x:Ent σ),r0[i]? =some x->full[i]? =some x:=λi x hx=>by
    rw[h1,List.append_assoc,List.getElem?_append_left (List.getElem?_eq_some_iff.1 hx).1];exact hx
   have hst:e.st=s:=(Dw he).2 (ht e (List.mem_of_getElem? hk))
   rw[hd,List.map_cons]
   rw[hst]at h
   have h3:=ih h
   rw[hd2]at h3
   have h4:=NI hO hR hI hp he hk
   rw[hst]at h4
   exact⟨⟨h4.1,λhw=>(h4.2 hw).1⟩,h3⟩
  ·cases h
end
def keep (K:List (Nat×AV))(ops:Array Oper):List (Nat×AV):=K.filter λp=>ops.toList.all λo=>o.dst !=some p.1
def news (M:Mem σ):List (Ent σ)->List (Nat×AV)
 |[]=>[]
 |e::l=>match e.dst,e.cond with
  |some d,none=>(d,e.val)::news M l
  |_,_=>news M l
structure Fr (M:Mem σ)(n:Nat)(K:List (Nat×AV))(a:Act):Prop where
 size:a.tmps.size=n
 defers:a.defers=[]
 look:∀t u,look K t=some u->a.tmps[t]? =some (u.val M)
theorem ag {M:Mem σ}{n:Nat}{a:Act}(h1:a.tmps.size=n)(h2:a.defers=[]):Fr M n [] a:=⟨h1,h2,λ_ _ h=>by cases h⟩
theorem aH {M:Mem σ}{n:Nat}{K:List (Nat×AV)}{a:Act}{t:Nat}{u:AV}(h:Fr M n K a)(h1:a.tmps[t]? =some (u.val M)):Fr M n ((t,u)::K) a:=by
 refine⟨h.size,h.defers,λs v hl=>?_⟩
 unfold Ev.look at hl
 split at hl
 ·rename_i hs;subst hs;cases hl;exact h1
 ·exact h.look s v hl
theorem kg:∀{K:List (Nat×AV)} {t:Nat} {u:AV},Ev.look K t=some u->(t,u)∈K
 |[],_,_,h=>by cases h
 |(s,v)::K,t,u,h=>by
  unfold Ev.look at h
  split at h
  ·rename_i hs;subst hs;cases h;exact List.mem_cons_self ..
  ·exact List.mem_cons_of_mem _ (kg h)
theorem iM {K:List (Nat×AV)}{ops:Array Oper}:∀{t:Nat} {u:AV},Ev.look (keep K ops) t=some u->Ev.look K t=some u/\∀o:Oper,o∈ops.toList->o.dst≠some t:=by
 induction K with
 |nil=>intro t u h;cases h
 |cons p K ih=>
  obtain⟨s,v⟩:=p
  intro t u h
  unfold keep at h
  rw[List.filter_cons]at h
  split at h
  ·rename_i hk
   unfold Ev.look at h⊢
   split at h
   ·rename_i hs
    subst hs
    cases h
    rw[if_pos rfl]
    exact⟨rfl,λo ho=>by have:=List.all_eq_true.1 hk o ho;simpa using this⟩
   ·rename_i hs
    rw[if_neg hs]
    exact ih h
  ·rename_i hk
   have h2:=ih h
   refine⟨?_,h2.2⟩
   unfold Ev.look
   rw[if_neg]
   ·exact h2.1
   ·intro hs
    subst hs
    apply hk
    exact List.all_eq_true.2 λo ho=>by have:=h2.2 o ho;simpa using this
theorem kw {M:Mem σ}:∀{l:List (Ent σ)} {d:Nat} {u:AV},(d,u)∈news M l->∃e∈l,e.dst=some d/\e.cond=none/\e.val=u
 |[],_,_,h=>by cases h
 |e::l,d,u,h=>by
  unfold news at h
  split at h
  ·rename_i d2 h1 h2
   rcases List.mem_cons.1 h with h3|h3
   ·cases h3;exact⟨e,List.mem_cons_self ..,h1,h2,rfl⟩
   ·obtain⟨e2,m,r⟩:=kw h3;exact⟨e2,List.mem_cons_of_mem _ m,r⟩
  ·obtain⟨e2,m,r⟩:=kw h;exact⟨e2,List.mem_cons_of_mem _ m,r⟩
theorem Co:∀{A B:List (Nat×AV)} {t:Nat} {u:AV},Ev.look (A++B) t=some u->(t,u)∈A\/Ev.look B t=some u
 |[],B,t,u,h=>.inr h
 |(s,v)::A,B,t,u,h=>by
  rw[List.cons_append]at h
  unfold Ev.look at h
  split at h
  ·rename_i hs;subst hs;cases h;exact .inl (List.mem_cons_self ..)
  ·rcases Co h with h2|h2
   ·exact .inl (List.mem_cons_of_mem _ h2)
   ·exact .inr h2
def iF (n:Nat)(ops:Array Oper):Bool:=eU ops&&Region.noSelect ops&&bZ ops n
theorem Dx {M:Mem σ}{n:Nat}{K:List (Nat×AV)}{ops:Array Oper}{a b:Act}{s:σ}{full:List (Ent σ)}(hF:Fr M n K a)(hb:bZ ops n=true)(hrun:run M (keep K ops) [] s ops.toList=some full)(hk:Kept ops a b)(hD:cO b.eval (ops.toList.take ops.size) (full.map (Ent.value M))):Fr M n (news M full++keep K ops) b:=by
 refine⟨hk.size.trans hF.size,hk.defers.trans hF.defers,λt u hl=>?_⟩
 rcases Co hl with h1|h1
 ·obtain⟨e,hm,h2,h3,h4⟩:=kw h1
  obtain⟨i,hi⟩:=List.mem_iff_getElem?.1 hm
  obtain⟨tl,e1,e2⟩:=dx hrun
  have hlen:full.length=ops.toList.length:=by rw[e1];simpa using e2
  have hil:i<ops.toList.length:=by have:=(List.getElem?_eq_some_iff.1 hi).1;omega
  obtain⟨o,ho⟩:∃o,ops.toList[i]? =some o:=⟨_,List.getElem?_eq_getElem hil⟩
  obtain⟨e5,k1,k2⟩:=vU hrun i o ho
  have:e5=e:=by
   have k3:full[i]? =some e5:=by simpa using k1
   exact Option.some.inj (k3.symm.trans hi)
  subst this
  have hod:o.dst=some t:=k2.symm.trans h2
  have hev:=cO.tmp i o (e5.value M) t hD (by rw[List.getElem?_take,if_pos (by simpa using hil)];exact ho) (by rw[List.getElem?_map,hi];rfl) hod
  have hlt:t<n:=by
   simp only[bZ,Bool.and_eq_true]at hb
   have:=List.all_eq_true.1 hb.1 o (List.mem_of_getElem? ho)
   rw[hod]at this
   simpa using this
  rw[Uk (by rw[hk.size,hF.size];exact hlt) hev]
  unfold Ent.value
  rw[h3,h4]
 ·obtain⟨k1,k2⟩:=iM h1
  rw[hk.rest t k2]
  exact hF.look t u k1
theorem vV {M:Mem σ}:Inv M ([]:List (Ent σ)):=λi e h=>by simp at h
theorem Us {M:Mem σ}{n:Nat}{K:List (Nat×AV)}{ops:Array Oper}{a:Act}{s:σ}{full:List (Ent σ)}{ρ:Operand->Value}(hF:Fr M n K a)(hrun:run M (keep K ops) [] s ops.toList=some full)(hD:cO ρ (ops.toList.take ops.size) (full.map (Ent.value M)))
 (hrest:∀t:Nat,(∀o:Oper,o∈ops.toList->o.dst≠some t)->ρ (.tmp t)=a.eval (.tmp t)) (hco:∀v,ρ (.const v)=v) (hfu:∀f,ρ (.func f)=.func (.func f) #[] #[]):Rd M (keep K ops) ρ full:=by
 refine⟨λi e d hi hd=>?_,λt u hl=>?_,hco,hfu⟩
 ·obtain⟨tl,e1,e2⟩:=dx hrun
  have hlen:full.length=ops.toList.length:=by rw[e1];simpa using e2
  have hil:i<ops.toList.length:=by have:=(List.getElem?_eq_some_iff.1 hi).1;omega
  obtain⟨o,ho⟩:∃o,ops.toList[i]? =some o:=⟨_,List.getElem?_eq_getElem hil⟩
  obtain⟨e5,k1,k2⟩:=vU hrun i o ho
  have:e5=e:=by
   have k3:full[i]? =some e5:=by simpa using k1
   exact Option.some.inj (k3.symm.trans hi)
  subst this
  exact cO.tmp i o (e5.value M) d hD (by rw[List.getElem?_take,if_pos (by simpa using hil)];exact ho) (by rw[List.getElem?_map,hi];rfl) (k2.symm.trans hd)
 ·obtain⟨k1,k2⟩:=iM hl
  rw[hrest t k2]
  exact eval_at (hF.look t u k1)
section
variable {S : σ → World → Prop} {M : Mem σ} {K : List (Nat × AV)} {n : Nat} {ops : Array Oper} {a : Act} {w : World} {s : σ} {full : List (Ent σ)} {Q : Exit → Act → World → Prop}
theorem wp_ev {id:Nat}(hO:Ok Tryz.prog S M)(hok:iF n ops=true)(hrun:run M (keep K ops) [] s ops.toList=some full)(hF:Fr M n K a)(hS:S s w)
 (hend:∀(b:Act) (w':World),Fr M n (news M full++keep K ops) b->S (stq s full ops.size) w'->Q .normal b w'):(Code.region id ops false).wp Tryz.prog Q a w:=by
 unfold iF at hok
 simp only[Bool.and_eq_true]at hok
 obtain⟨⟨hd,hs⟩,hb⟩:=hok
 obtain⟨tl,e1,e2⟩:=dx hrun
 have hI:=vW vV hrun
 refine iw (λk=>S (stq s full k)) ops.size (full.map (Ent.value M)) (by rw[List.length_map,e1];simpa using e2) rfl hd hs (by rw[hF.size];exact hb) hS ?_ ?_
 ·intro ρ hD hrest hco hfu
  have:=run_yn hO (Us hF hrun hD hrest hco hfu) hI s hrun (by rfl)
  rw[show ops.toList.take ops.size=ops.toList from List.take_of_length_le (by simp)]
  simpa using this
 ·intro b w' hS' hk hD
  exact hend b w' (Dx hF hb hrun hk hD) hS'
theorem wp_evD {id:Nat}(hO:Ok Tryz.prog S M)(hok:iF n ops=true)(hdw:dJ ops=true)(ht:full.all (λe=>!e.turn)=true)(hrun:run M (keep K ops) [] s ops.toList=some full)(hF:Fr M n K a)(hS:S s w.drew)
 (hend:∀(b:Act) (w':World),Fr M n (news M full++keep K ops) b->S s w'->Q .normal b w'):(Code.region id ops true).wp Tryz.prog Q a w:=by
 unfold iF at hok
 simp only[Bool.and_eq_true]at hok
 obtain⟨⟨hd,hs⟩,hb⟩:=hok
 obtain⟨tl,e1,e2⟩:=dx hrun
 have hI:=vW vV hrun
 refine TB (S s) ops.size (full.map (Ent.value M)) (by rw[List.length_map,e1];simpa using e2) rfl rfl hd hdw hs (by rw[hF.size];exact hb) hS ?_ ?_
 ·intro ρ hD hrest hco hfu
  have:=Pn hO (Us hF hrun hD hrest hco hfu) hI (λe he=>by have:=List.all_eq_true.1 ht e he;simpa using this) s hrun
  rw[show ops.toList.take ops.size=ops.toList from List.take_of_length_le (by simp)]
  simpa using this
 ·intro b w' hS' hk hD
  exact hend b w' (Dx hF hb hrun hk hD) hS'
end
inductive Fm where
 |sq (b:Code)
 |bl (k:Nat)
def Qof (P:Program):List Fm->(Exit->Act->World->Prop)->Exit->Act->World->Prop
 |[],Q=>Q
 | .sq b::fs,Q=>Exit.then (b.wp P (Qof P fs Q)) (Qof P fs Q)
 | .bl k::fs,Q=>Exit.inBlock k (Qof P fs Q)
theorem BL (P:Program)(b:Code)(Q:Exit->Act->World->Prop):∀fs,Qof P (fs++[.sq b]) Q=Qof P fs (Exit.then (b.wp P Q) Q)
 |[]=>rfl
 | .sq c::fs=>by show Exit.then (c.wp P (Qof P (fs++[.sq b]) Q)) (Qof P (fs++[.sq b]) Q)=_;rw[BL P b Q fs];rfl
 | .bl k::fs=>by show Exit.inBlock k (Qof P (fs++[.sq b]) Q)=_;rw[BL P b Q fs];rfl
theorem Ba (P:Program)(i:Nat)(Q:Exit->Act->World->Prop):∀fs,Qof P (fs++[.bl i]) Q=Qof P fs (Exit.inBlock i Q)
 |[]=>rfl
 | .sq c::fs=>by show Exit.then (c.wp P (Qof P (fs++[.bl i]) Q)) (Qof P (fs++[.bl i]) Q)=_;rw[Ba P i Q fs];rfl
 | .bl k::fs=>by show Exit.inBlock k (Qof P (fs++[.bl i]) Q)=_;rw[Ba P i Q fs];rfl
inductive Tr (σ:Type) where
 |nx (K:List (Nat×AV)) (s:σ)
 |ret (K:List (Nat×AV)) (s:σ)
 |out (k:Nat) (K:List (Nat×AV)) (s:σ)
 |go (c:Code) (fs:List Fm) (K:List (Nat×AV)) (s:σ)
 |ite (c:Bool) (x y:Tr σ)
 |one (c b:Bool) (x:Tr σ)
def Tr.bind (b:Code)(f:List (Nat×AV)->σ->Tr σ):Tr σ->Tr σ
 | .nx K s=>f K s
 | .ret K s=>.ret K s
 | .out k K s=>.out k K s
 | .go c fs K s=>.go c (fs++[.sq b]) K s
 | .ite c x y=>.ite c (x.bind b f) (y.bind b f)
 | .one c d x=>.one c d (x.bind b f)
def Tr.unblock (i:Nat):Tr σ->Tr σ
 | .nx K s=>.nx K s
 | .ret K s=>.ret K s
 | .out k K s=>if k=i then .nx K s else .out k K s
 | .go c fs K s=>.go c (fs++[.bl i]) K s
 | .ite c x y=>.ite c (x.unblock i) (y.unblock i)
 | .one c d x=>.one c d (x.unblock i)
def FN:List Oper->Option (Nat×Nat×Nat)
 |[⟨some d1,.move (.tmp t),_,_,_,none⟩,⟨some d2,.binOp .add ty (.tmp e1) (.const (.int .i64 c)) ty2,_,_,_,none⟩,⟨some t2,.assign (.tmp e2),_,_,_,none⟩]=>if d1=e1/\d2=e2/\t=t2/\c=1/\ty=3/\ty2=3 then some (t,d1,d2)else none
 |_=>none
theorem Cb {l:List Oper}{t d1 d2:Nat}(h:FN l=some (t,d1,d2)):∃o1 o2 o3:Oper,l=[o1,o2,o3]/\o1.op=.move (.tmp t)/\o1.dst=some d1/\o1.guard=none/\o2.op=.binOp .add 3 (.tmp d1) (.const (.int .i64 1)) 3/\o2.dst=some d2/\o2.guard=none/\o3.op=.assign (.tmp d2)/\o3.dst=some t/\o3.guard=none:=by
 unfold FN at h
 split at h
 ·split at h
  ·rename_i hc
   obtain⟨rfl,rfl,rfl,rfl,rfl,rfl⟩:=hc
   cases h
   exact⟨_,_,_,rfl,rfl,rfl,rfl,rfl,rfl,rfl,rfl,rfl,rfl⟩
  ·cases h
 ·cases h
def Ai:List Oper->Option (Nat×Nat)
 |[⟨some d,.binOp .add ty (.tmp t) (.const (.int .i64 c)) ty2,_,_,_,none⟩,⟨some t2,.move (.tmp e),_,_,_,none⟩]=>if d=e/\t=t2/\c=1/\ty=3/\ty2=3 then some (t,d)else none
 |_=>none
theorem PQ {Q:Exit->Act->World->Prop}{a:Act}{w:World}{id t d:Nat}{ops:Array Oper}{k:Int}(hi:Ai ops.toList=some (t,d))(ht:a.tmps[t]? =some (.int .i64 k))(hd:d<a.tmps.size)
 (hend:∀b:Act,b.defers=a.defers->b.tmps.size=a.tmps.size->b.tmps[t]? =some (.int .i64 (IntKind.i64.wrap (k+1)))->(∀s:Nat,s≠d->s≠t->b.tmps[s]? =a.tmps[s]?)->Q .normal b w):(Code.region id ops false).wp Tryz.prog Q a w:=by
 have lt:t<a.tmps.size:=(Array.getElem?_eq_some_iff.1 ht).1
 unfold Ai at hi
 split at hi
 ·rename_i d2 ty t2 c ty2 _ _ _ t3 e _ _ _ hl
  split at hi
  ·rename_i hc
   obtain⟨rfl,rfl,rfl,rfl,rfl⟩:=hc
   cases hi
   have hops:ops=_:=(Array.toArray_toList (xs:=ops)).symm.trans (congrArg List.toArray hl)
   rw[hops]
   refine wp_region_lit ?_
   refine mQ rfl rfl (u:=.int .i64 (IntKind.i64.wrap (k+1))) (by
    unfold execOp
    have e1:a.eval (.tmp t)=.int .i64 k:=eval_at ht
    have e2:a.eval (.const (.int .i64 1))=.int .i64 1:=rfl
    simp only[e1,e2]
    rw[Sem.run_bind,BP _ _ k 1 w rfl]
    rfl) ?_
   refine mQ rfl rfl (u:=.int .i64 (IntKind.i64.wrap (k+1))) (by
    unfold execOp
    have e1:(⟨a.tmps.setIfInBounds d (.int .i64 (IntKind.i64.wrap (k+1))),a.defers⟩:Act).eval (.tmp d)=.int .i64 (IntKind.i64.wrap (k+1)):=eval_at (by simp[hd])
    simp only[e1]
    rfl) ?_
   refine aT ?_
   refine hend _ rfl (by simp) (by simp[lt]) λs n1 n2=>?_
   show((a.tmps.setIfInBounds d _).setIfInBounds t _)[s]? =_
   rw[Array.getElem?_setIfInBounds_ne (λh=>n2 h.symm),Array.getElem?_setIfInBounds_ne (λh=>n1 h.symm)]
  ·cases hi
 ·cases hi
def exI (M:Mem σ)(n:Nat)(i:Nat)(ops:Array Oper)(dr:Bool)(K:List (Nat×AV))(s:σ):Tr σ:=match M.reg s K ops dr with
 |some (s',nw)=>if iF n ops=true then .nx (nw++keep K ops) s' else .go (.region i ops dr) [] K s
 |none=>match Ai ops.toList with
 |some (t,d)=>match look K t with
  |some a=>match asI M a with
   |some k=>if d<n/\dr=false then .nx ((t,.v (.int .i64 (IntKind.i64.wrap (k+1))))::K.filter λp=>p.1 !=d&&p.1 !=t) s else .go (.region i ops dr) [] K s
   |none=>.go (.region i ops dr) [] K s
  |none=>.go (.region i ops dr) [] K s
 |none=>match FN ops.toList with
 |some (t,d1,d2)=>match look K t with
  |some a=>match asI M a with
   |some k=>if d1<n/\d2<n/\dr=false then .nx ((t,.v (.int .i64 (IntKind.i64.wrap (k+1))))::K.filter λp=>p.1 !=d1&&p.1 !=d2&&p.1 !=t) s else .go (.region i ops dr) [] K s
   |none=>.go (.region i ops dr) [] K s
  |none=>.go (.region i ops dr) [] K s
 |none=>.go (.region i ops dr) [] K s
def ex (M:Mem σ)(n:Nat):Code->List (Nat×AV)->σ->Tr σ
 | .skip,K,s=>.nx K s
 | .region i ops dr,K,s=>if iF n ops=true then(match run M (keep K ops) [] s ops.toList with
  |some full=>if dr=true then(if (dJ ops&&full.all (λe=>!e.turn))=true then .nx (news M full++keep K ops) s else .go (.region i ops dr) [] K s)else .nx (news M full++keep K ops) (stq s full ops.size)
  |none=>exI M n i ops dr K s)else exI M n i ops dr K s
 | .seq a b,K,s=>(ex M n a K s).bind b (ex M n b)
 | .cond c x y,K,s=>match c with
   | .tmp t=>match look K t with
     |some a=>match asB M a with
      |some c=>match M.hint t with
       |some true=>.one c true (ex M n x K s)
       |some false=>.one c false (ex M n y K s)
       |none=>if M.lit t=true then(match c with|true=>ex M n x K s|false=>ex M n y K s)else .ite c (ex M n x K s) (ex M n y K s)
      |none=>.go (.cond (.tmp t) x y) [] K s
     |none=>.go (.cond (.tmp t) x y) [] K s
   |c=>.go (.cond c x y) [] K s
 | .block i b,K,s=>(ex M n b K s).unblock i
 | .exit k,K,s=>.out k K s
 | .ret,K,s=>.ret K s
 |c,K,s=>.go c [] K s
section
variable {S : σ → World → Prop} {M : Mem σ} {n : Nat}
def Tr.holds (S:σ->World->Prop)(M:Mem σ)(n:Nat)(Q:Exit->Act->World->Prop):Tr σ->Prop
 | .nx K s=>∀a w,Fr M n K a->S s w->Q .normal a w
 | .ret K s=>∀a w,Fr M n K a->S s w->Q .ret a w
 | .out k K s=>∀a w,Fr M n K a->S s w->Q (.exit k) a w
 | .go c fs K s=>∀a w,Fr M n K a->S s w->c.wp Tryz.prog (Qof Tryz.prog fs Q) a w
 | .ite c x y=>(c=true->x.holds S M n Q)/\(c=false->y.holds S M n Q)
 | .one c b x=>c=b/\x.holds S M n Q
theorem kz {Q:Exit->Act->World->Prop}{b:Code}{f:List (Nat×AV)->σ->Tr σ}(hf:∀K s,(f K s).holds S M n Q->∀a w,Fr M n K a->S s w->b.wp Tryz.prog Q a w):
 ∀{t:Tr σ},(t.bind b f).holds S M n Q->t.holds S M n (Exit.then (b.wp Tryz.prog Q) Q):=by
 intro t
 induction t with
 |nx K s=>intro hh;exact hf K s hh
 |ret K s=>exactλhh=>hh
 |out k K s=>exactλhh=>hh
 |go c fs K s=>intro hh a w ha hs;have:=hh a w ha hs;rw[BL]at this;exact this
 |ite c x y ix iy=>intro hh;exact⟨λhc=>ix (hh.1 hc),λhc=>iy (hh.2 hc)⟩
 |one c b x ix=>intro hh;exact⟨hh.1,ix hh.2⟩
theorem iR {Q:Exit->Act->World->Prop}{i:Nat}:∀{t:Tr σ},(t.unblock i).holds S M n Q->t.holds S M n (Exit.inBlock i Q):=by
 intro t
 induction t with
 |nx K s=>exactλh=>h
 |ret K s=>exactλh=>h
 |out k K s=>
  intro h a w ha hs
  unfold Tr.unblock at h
  show(if k=i then Q .normal a w else Q (.exit k) a w)
  split at h
  ·rename_i hk;rw[if_pos hk];exact h a w ha hs
  ·rename_i hk;rw[if_neg hk];exact h a w ha hs
 |go c fs K s=>intro hh a w ha hs;have:=hh a w ha hs;rw[Ba]at this;exact this
 |ite c x y ix iy=>intro h;exact⟨λhc=>ix (h.1 hc),λhc=>iy (h.2 hc)⟩
 |one c b x ix=>intro h;exact⟨h.1,ix h.2⟩
theorem uB {K:List (Nat×AV)}{f:Nat->Bool}:∀{t:Nat} {u:AV},Ev.look (K.filter λp=>f p.1) t=some u->Ev.look K t=some u/\f t=true:=by
 induction K with
 |nil=>intro t u h;cases h
 |cons p K ih=>
  obtain⟨s,v⟩:=p
  intro t u h
  rw[List.filter_cons]at h
  split at h
  ·rename_i hk
   unfold Ev.look at h⊢
   split at h
   ·rename_i hs;subst hs;cases h;rw[if_pos rfl];exact⟨rfl,hk⟩
   ·rename_i hs;rw[if_neg hs];exact ih h
  ·rename_i hk
   have h2:=ih h
   refine⟨?_,h2.2⟩
   unfold Ev.look
   rw[if_neg]
   ·exact h2.1
   ·intro hs;subst hs;exact hk h2.2
def uO (S:σ->World->Prop)(M:Mem σ):Prop:=∀s K ops dr s' nw,M.reg s K ops dr=some (s',nw)->∀n id a w (Q:Exit->Act->World->Prop),iF n ops=true->Fr M n K a->S s w->(∀b w',Fr M n (nw++keep K ops) b->S s' w'->Q .normal b w')->(Code.region id ops dr).wp Tryz.prog Q a w
theorem Mw (hG:uO S M){i:Nat}{ops:Array Oper}{dr:Bool}{K:List (Nat×AV)}{s:σ}{Q:Exit->Act->World->Prop}(hh:(exI M n i ops dr K s).holds S M n Q){a:Act}{w:World}(hF:Fr M n K a)(hS:S s w):(Code.region i ops dr).wp Tryz.prog Q a w:=by
 unfold exI at hh
 split at hh
 ·rename_i s' nw hs
  split at hh
  ·rename_i h1
   exact hG s K ops dr s' nw hs n i a w Q h1 hF hS λb w' hb hs'=>hh b w' hb hs'
  ·exact hh a w hF hS
 split at hh
 ·rename_i t d hi
  split at hh
  ·rename_i u hu
   split at hh
   ·rename_i k hk
    split at hh
    ·rename_i hc
     obtain⟨h1,rfl⟩:=hc
     refine PQ hi ((hF.look _ _ hu).trans (congrArg some (Am hk))) (by rw[hF.size];exact h1) λb hd hz ht hr=>hh b w ?_ hS
     refine aH ?_ ht
     refine⟨hz.trans hF.size,hd.trans hF.defers,λt2 u2 hl2=>?_⟩
     obtain⟨q1,q2⟩:=uB (f:=λx=>x !=d&&x !=t) hl2
     simp only[Bool.and_eq_true,bne_iff_ne,ne_eq]at q2
     rw[hr t2 q2.1 q2.2];exact hF.look _ _ q1
    ·exact hh a w hF hS
   ·exact hh a w hF hS
  ·exact hh a w hF hS
 split at hh
 ·rename_i t d1 d2 hi
  split at hh
  ·rename_i u hu
   split at hh
   ·rename_i k hk
    split at hh
    ·rename_i hc
     obtain⟨h1,h2,rfl⟩:=hc
     obtain⟨o1,o2,o3,hl,a1,a2,a3,a4,a5,a6,a7,a8,a9⟩:=Cb hi
     have hops:ops=#[o1,o2,o3]:=by rw[<-Array.toArray_toList (xs:=ops),hl]
     rw[hops]
     refine JO a1 a2 a3 a4 a5 a6 a7 a8 a9 ((hF.look _ _ hu).trans (congrArg some (Am hk))) (by rw[hF.size];exact h1) (by rw[hF.size];exact h2) rfl λb hd hz ht hr=>hh b w ?_ hS
     refine aH ?_ ht|>λh=>h
     refine⟨hz.trans hF.size,hd.trans hF.defers,λt2 u2 hl2=>?_⟩
     obtain⟨q1,q2⟩:=uB (f:=λx=>x !=d1&&x !=d2&&x !=t) hl2
     simp only[Bool.and_eq_true,bne_iff_ne,ne_eq]at q2
     rw[hr t2 q2.1.1 q2.1.2 q2.2];exact hF.look _ _ q1
    ·exact hh a w hF hS
   ·exact hh a w hF hS
  ·exact hh a w hF hS
 ·exact hh a w hF hS
theorem xN (hO:Ok Tryz.prog S M)(hG:uO S M)(hdr:∀s w,S s w->S s w.drew):∀{code:Code} {K:List (Nat×AV)} {s:σ} {Q:Exit->Act->World->Prop},(ex M n code K s).holds S M n Q->∀{a:Act} {w:World},Fr M n K a->S s w->code.wp Tryz.prog Q a w:=by
 intro code
 induction code with
 |skip=>intro K s Q hh a w hF hS;exact wp_skip (hh a w hF hS)
 |region id ops dr=>
  intro K s Q hh a w hF hS
  unfold ex at hh
  split at hh
  ·rename_i hok
   split at hh
   ·rename_i full hrun
    split at hh
    ·rename_i hd
     split at hh
     ·rename_i h2
      subst hd
      rw[Bool.and_eq_true]at h2
      exact wp_evD hO hok h2.1 h2.2 hrun hF (hdr s w hS) λb w' hFb hSb=>hh b w' hFb hSb
     ·exact hh a w hF hS
    ·rename_i hd
     have:dr=false:=by simpa using hd
     subst this
     exact wp_ev hO hok hrun hF hS λb w' hFb hSb=>hh b w' hFb hSb
   ·exact Mw hG hh hF hS
  ·exact Mw hG hh hF hS
 |seq x y ix iy=>
  intro K s Q hh a w hF hS
  exact wp_seq (ix (kz (λK s h3 a w ha hs=>iy h3 ha hs) hh) hF hS)
 |cond c x y ix iy=>
  intro K s Q hh a w hF hS
  unfold ex at hh
  split at hh
  ·split at hh
   ·rename_i hl
    split at hh
    ·rename_i hb
     have hc:=eval_at ((hF.look _ _ hl).trans (congrArg some (lG hb)))
     split at hh
     ·rw[hh.1]at hc;exact wp_cond_true hc (ix hh.2 hF hS)
     ·rw[hh.1]at hc;exact wp_cond_false hc (iy hh.2 hF hS)
     ·split at hh
      ·split at hh
       ·exact wp_cond_true hc (ix hh hF hS)
       ·exact wp_cond_false hc (iy hh hF hS)
      ·exact wp_cond_split hc (λhc=>ix (hh.1 hc) hF hS) (λhc=>iy (hh.2 hc) hF hS)
    ·exact hh a w hF hS
   ·exact hh a w hF hS
  ·exact hh a w hF hS
 |block i b ib=>intro K s Q hh a w hF hS;exact wp_block (ib (iR hh) hF hS)
 |exit k=>intro K s Q hh a w hF hS;exact wp_exit (hh a w hF hS)
 |ret=>intro K s Q hh a w hF hS;exact wp_ret (hh a w hF hS)
 |_=>intros;rename_i hh _ _ hF hS;exact hh _ _ hF hS
theorem uF (hO:Ok Tryz.prog S M)(hdr:∀s w,S s w->S s w.drew)(hnr:M.reg=λ_ _ _ _=>none){code:Code}{K:List (Nat×AV)}{s:σ}{Q:Exit->Act->World->Prop}(h:(ex M n code K s).holds S M n Q){a:Act}{w:World}(hF:Fr M n K a)(hS:S s w):code.wp Tryz.prog Q a w:=
 xN hO (λs K ops dr s' nw h=>by rw[hnr]at h;cases h) hdr h hF hS
def Tr.stops (ts:List Nat)(cs:List Bool):Tr σ->List (Code×List Fm×List (Option AV)×σ×List Bool)
 | .go c fs K s=>[(c,fs,ts.map (look K),s,cs)]
 | .ite c x y=>x.stops ts (cs++[c])++y.stops ts (cs++[!c])
 |_=>[]
def uD (is:List Nat)(x:Code×List Fm×List (Option AV)×σ×List Bool):Code×List Fm×List (Option AV)×σ×List Bool:=(x.1,x.2.1,x.2.2.1,x.2.2.2.1,is.map λi=>x.2.2.2.2.getD i true)
def Tr.int (M:Mem σ)(r:Nat)(h:Int):Tr σ->Option Int
 | .ret K _=>match look K r with
   |some a=>asI M a
   |none=>none
 | .go _ _ _ _=>some h
 | .ite c x y=>match x.int M r h,y.int M r h with
   |some p,some q=>some (if c=true then p else q)
   |_,_=>none
 |_=>none
def Tr.boolv (M:Mem σ)(r:Nat)(h:Bool):Tr σ->Option Bool
 | .ret K _=>match look K r with
   |some a=>asB M a
   |none=>none
 | .go _ _ _ _=>some h
 | .ite c x y=>match x.boolv M r h,y.boolv M r h with
   |some p,some q=>some (if c=true then p else q)
   |_,_=>none
 |_=>none
def Stop (M:Mem σ)(n:Nat)(ts:List Nat)(us:List (Option AV))(a:Act):Prop:=a.tmps.size=n/\a.defers=[]/\∀(i t:Nat) (u:AV),ts[i]? =some t->us[i]? =some (some u)->a.tmps[t]? =some (u.val M)
theorem oD {ts:List Nat}{K:List (Nat×AV)}{a:Act}(h:Fr M n K a):Stop M n ts (ts.map (look K)) a:=
 ⟨h.size,h.defers,λi t u h1 h2=>by
  rw[List.getElem?_map,h1]at h2
  have h3:look K t=some u:=by simpa using h2
  exact h.look t u h3⟩
theorem Stop.cons {t:Nat}{ts:List Nat}{u:AV}{us:List (Option AV)}{a:Act}(h:Stop M n (t::ts) (some u::us) a):a.tmps[t]? =some (u.val M)/\Stop M n ts us a:=
 ⟨h.2.2 0 t u rfl rfl,h.1,h.2.1,λi s v h1 h2=>h.2.2 (i+1) s v (by simpa using h1) (by simpa using h2)⟩
theorem zw {Q:Exit->Act->World->Prop}{r:Nat}{hv:Int}{ts:List Nat}:∀{t:Tr σ} {v:Int} {cs:List Bool},t.int M r hv=some v->(∀c∈cs,c=true)->(∀a w s,a.defers=[]->a.tmps[r]? =some (.int .i64 v)->S s w->Q .ret a w)->
 (v=hv->∀x∈t.stops ts cs,(∀c∈x.2.2.2.2,c=true)->∀a w,Stop M n ts x.2.2.1 a->S x.2.2.2.1 w->x.1.wp Tryz.prog (Qof Tryz.prog x.2.1 Q) a w)->t.holds S M n Q:=by
 intro t
 induction t with
 |nx K s=>intro v cs h;cases h
 |out k K s=>intro v cs h;cases h
 |ret K s=>
  intro v cs h hc hq hg a w ha hs
  unfold Tr.int at h
  split at h
  ·rename_i hl
   exact hq a w s ha.defers ((ha.look _ _ hl).trans (congrArg some (Am h))) hs
  ·cases h
 |one c b x ix=>intro v cs h;cases h
 |go c fs K s=>
  intro v cs h hc hq hg a w ha hs
  cases h
  exact hg rfl _ (List.mem_singleton.2 rfl) hc a w (oD ha) hs
 |ite c x y ix iy=>
  intro v cs h hc hq hg
  unfold Tr.int at h
  split at h
  ·rename_i p q hp hq2
   cases h
   refine⟨λhcc=>ix hp (cs:=cs++[c]) (λd hd=>?_) (by rw[if_pos hcc]at hq;exact hq) (λhe z hz=>?_),λhcc=>iy hq2 (cs:=cs++[!c]) (λd hd=>?_) (by rw[if_neg (by rw[hcc];decide)]at hq;exact hq) (λhe z hz=>?_)⟩
   ·rcases List.mem_append.1 hd with h1|h1
    ·exact hc d h1
    ·rw[List.mem_singleton.1 h1];exact hcc
   ·exact hg (by rw[if_pos hcc];exact he) z (List.mem_append_left _ hz)
   ·rcases List.mem_append.1 hd with h1|h1
    ·exact hc d h1
    ·rw[List.mem_singleton.1 h1,hcc];rfl
   ·exact hg (by rw[if_neg (by rw[hcc];decide)];exact he) z (List.mem_append_right _ hz)
  ·cases h
theorem Ep {Q:Exit->Act->World->Prop}{r:Nat}{hv:Bool}{ts:List Nat}:∀{t:Tr σ} {v:Bool} {cs:List Bool},t.boolv M r hv=some v->(∀c∈cs,c=true)->(∀a w s,a.defers=[]->a.tmps[r]? =some (.bool v)->S s w->Q .ret a w)->
 (v=hv->∀x∈t.stops ts cs,(∀c∈x.2.2.2.2,c=true)->∀a w,Stop M n ts x.2.2.1 a->S x.2.2.2.1 w->x.1.wp Tryz.prog (Qof Tryz.prog x.2.1 Q) a w)->t.holds S M n Q:=by
 intro t
 induction t with
 |nx K s=>intro v cs h;cases h
 |out k K s=>intro v cs h;cases h
 |ret K s=>
  intro v cs h hc hq hg a w ha hs
  unfold Tr.boolv at h
  split at h
  ·rename_i hl
   exact hq a w s ha.defers ((ha.look _ _ hl).trans (congrArg some (lG h))) hs
  ·cases h
 |one c b x ix=>intro v cs h;cases h
 |go c fs K s=>
  intro v cs h hc hq hg a w ha hs
  cases h
  exact hg rfl _ (List.mem_singleton.2 rfl) hc a w (oD ha) hs
 |ite c x y ix iy=>
  intro v cs h hc hq hg
  unfold Tr.boolv at h
  split at h
  ·rename_i p q hp hq2
   cases h
   refine⟨λhcc=>ix hp (cs:=cs++[c]) (λd hd=>?_) (by rw[if_pos hcc]at hq;exact hq) (λhe z hz=>?_),λhcc=>iy hq2 (cs:=cs++[!c]) (λd hd=>?_) (by rw[if_neg (by rw[hcc];decide)]at hq;exact hq) (λhe z hz=>?_)⟩
   ·rcases List.mem_append.1 hd with h1|h1
    ·exact hc d h1
    ·rw[List.mem_singleton.1 h1];exact hcc
   ·exact hg (by rw[if_pos hcc];exact he) z (List.mem_append_left _ hz)
   ·rcases List.mem_append.1 hd with h1|h1
    ·exact hc d h1
    ·rw[List.mem_singleton.1 h1,hcc];rfl
   ·exact hg (by rw[if_neg (by rw[hcc];decide)];exact he) z (List.mem_append_right _ hz)
  ·cases h
theorem BZ {code:Code}{K:List (Nat×AV)}{s:σ}{v hv:Int}{Q:Exit->Act->World->Prop}{a:Act}{w:World}{l:List (Code×List Fm×List (Option AV)×σ×List Bool)}(r:Nat)(ts is:List Nat)(hO:Ok Tryz.prog S M)(hdr:∀s w,S s w->S s w.drew)(h:(ex M n code K s).int M r hv=some v)(hl:((ex M n code K s).stops ts []).map (uD is)=l)(hF:Fr M n K a)(hS:S s w)
 (hq:∀a w s,a.defers=[]->a.tmps[r]? =some (.int .i64 v)->S s w->Q .ret a w) (hg:v=hv->∀x∈l,(∀c∈x.2.2.2.2,c=true)->∀a w,Stop M n ts x.2.2.1 a->S x.2.2.2.1 w->x.1.wp Tryz.prog (Qof Tryz.prog x.2.1 Q) a w) (hnr:M.reg=λ_ _ _ _=>none:=by rfl):code.wp Tryz.prog Q a w:=by
 refine uF hO hdr hnr (zw (ts:=ts) (cs:=[]) h (λc hc=>by cases hc) hq λhe x hx hc a w hst hs=>?_) hF hS
 have hm:uD is x∈l:=by rw[<-hl];exact List.mem_map_of_mem hx
 refine hg he _ hm (λc hcm=>?_) a w hst hs
 obtain⟨i,-,hi⟩:=List.mem_map.1 hcm
 rw[<-hi,List.getD_eq_getElem?_getD]
 cases hx2:x.2.2.2.2[i]? with
 |none=>rfl
 |some d=>exact hc d (List.mem_of_getElem? hx2)
theorem Cx {code:Code}{K:List (Nat×AV)}{s:σ}{v hv:Bool}{Q:Exit->Act->World->Prop}{a:Act}{w:World}{l:List (Code×List Fm×List (Option AV)×σ×List Bool)}(r:Nat)(ts is:List Nat)(hO:Ok Tryz.prog S M)(hdr:∀s w,S s w->S s w.drew)(h:(ex M n code K s).boolv M r hv=some v)(hl:((ex M n code K s).stops ts []).map (uD is)=l)(hF:Fr M n K a)(hS:S s w)
 (hq:∀a w s,a.defers=[]->a.tmps[r]? =some (.bool v)->S s w->Q .ret a w) (hg:v=hv->∀x∈l,(∀c∈x.2.2.2.2,c=true)->∀a w,Stop M n ts x.2.2.1 a->S x.2.2.2.1 w->x.1.wp Tryz.prog (Qof Tryz.prog x.2.1 Q) a w) (hnr:M.reg=λ_ _ _ _=>none:=by rfl):code.wp Tryz.prog Q a w:=by
 refine uF hO hdr hnr (Ep (ts:=ts) (cs:=[]) h (λc hc=>by cases hc) hq λhe x hx hc a w hst hs=>?_) hF hS
 have hm:uD is x∈l:=by rw[<-hl];exact List.mem_map_of_mem hx
 refine hg he _ hm (λc hcm=>?_) a w hst hs
 obtain⟨i,-,hi⟩:=List.mem_map.1 hcm
 rw[<-hi,List.getD_eq_getElem?_getD]
 cases hx2:x.2.2.2.2[i]? with
 |none=>rfl
 |some d=>exact hc d (List.mem_of_getElem? hx2)
theorem A8 {code:Code}{K:List (Nat×AV)}{s:σ}{v:Int}{Q:Exit->Act->World->Prop}{a:Act}{w:World}(r:Nat)(hO:Ok Tryz.prog S M)(hdr:∀s w,S s w->S s w.drew)(h:(ex M n code K s).int M r 0=some v)(hl:((ex M n code K s).stops [] []).map (uD [])=[])(hF:Fr M n K a)(hS:S s w)
 (hq:∀a w s,a.defers=[]->a.tmps[r]? =some (.int .i64 v)->S s w->Q .ret a w) (hnr:M.reg=λ_ _ _ _=>none:=by rfl):code.wp Tryz.prog Q a w:=
 BZ r [] [] hO hdr h hl hF hS hq (λ_ x hx=>by cases hx) hnr
theorem JR {code:Code}{K:List (Nat×AV)}{s:σ}{v:Bool}{Q:Exit->Act->World->Prop}{a:Act}{w:World}(r:Nat)(hO:Ok Tryz.prog S M)(hdr:∀s w,S s w->S s w.drew)(h:(ex M n code K s).boolv M r false=some v)(hl:((ex M n code K s).stops [] []).map (uD [])=[])(hF:Fr M n K a)(hS:S s w)
 (hq:∀a w s,a.defers=[]->a.tmps[r]? =some (.bool v)->S s w->Q .ret a w) (hnr:M.reg=λ_ _ _ _=>none:=by rfl):code.wp Tryz.prog Q a w:=
 Cx r [] [] hO hdr h hl hF hS hq (λ_ x hx=>by cases hx) hnr
end
inductive Sh (σ:Type) where
 |nx (us:List (Option AV)) (s:σ)
 |ret (us:List (Option AV)) (s:σ)
 |out (k:Nat) (us:List (Option AV)) (s:σ)
 |go (x:Code×List Fm) (us:List (Option AV)) (s:σ)
 |ite (c:Bool) (x y:Sh σ)
 |one (c b:Bool) (x:Sh σ)
def Tr.shape (ts:List Nat):Tr σ->Sh σ
 | .nx K s=>.nx (ts.map (look K)) s
 | .ret K s=>.ret (ts.map (look K)) s
 | .out k K s=>.out k (ts.map (look K)) s
 | .go c fs K s=>.go (c,fs) (ts.map (look K)) s
 | .ite c x y=>.ite c (x.shape ts) (y.shape ts)
 | .one c b x=>.one c b (x.shape ts)
def Sh.holds (S:σ->World->Prop)(M:Mem σ)(n:Nat)(ts:List Nat)(Q:Exit->Act->World->Prop):Sh σ->Prop
 | .nx us s=>∀a w,Stop M n ts us a->S s w->Q .normal a w
 | .ret us s=>∀a w,Stop M n ts us a->S s w->Q .ret a w
 | .out k us s=>∀a w,Stop M n ts us a->S s w->Q (.exit k) a w
 | .go x us s=>∀a w,Stop M n ts us a->S s w->x.1.wp Tryz.prog (Qof Tryz.prog x.2 Q) a w
 | .ite c x y=>(c=true->x.holds S M n ts Q)/\(c=false->y.holds S M n ts Q)
 | .one c b x=>c=b/\x.holds S M n ts Q
theorem gU {S:σ->World->Prop}{M:Mem σ}{n:Nat}{ts:List Nat}{Q:Exit->Act->World->Prop}:∀{t:Tr σ},(t.shape ts).holds S M n ts Q->t.holds S M n Q
 | .nx K s,h=>λa w ha hs=>h a w (oD ha) hs
 | .ret K s,h=>λa w ha hs=>h a w (oD ha) hs
 | .out k K s,h=>λa w ha hs=>h a w (oD ha) hs
 | .go c fs K s,h=>λa w ha hs=>h a w (oD ha) hs
 | .ite c x y,h=>⟨λhc=>gU (h.1 hc),λhc=>gU (h.2 hc)⟩
 | .one c b x,h=>⟨h.1,gU h.2⟩
theorem rX {S:σ->World->Prop}{M:Mem σ}{n:Nat}{code:Code}{K:List (Nat×AV)}{s:σ}{Q:Exit->Act->World->Prop}{a:Act}{w:World}(ts:List Nat)(sh:Sh σ)(hO:Ok Tryz.prog S M)(hdr:∀s w,S s w->S s w.drew)(h:(ex M n code K s).shape ts=sh)(hF:Fr M n K a)(hS:S s w)(hh:sh.holds S M n ts Q)(hnr:M.reg=λ_ _ _ _=>none:=by rfl):code.wp Tryz.prog Q a w:=
 uF hO hdr hnr (gU (by rw[h];exact hh)) hF hS
theorem iL {S:σ->World->Prop}{M:Mem σ}{n:Nat}{code:Code}{K:List (Nat×AV)}{s:σ}{Q:Exit->Act->World->Prop}{a:Act}{w:World}(ts:List Nat)(sh:Sh σ)(hO:Ok Tryz.prog S M)(hG:uO S M)(hdr:∀s w,S s w->S s w.drew)(h:(ex M n code K s).shape ts=sh)(hF:Fr M n K a)(hS:S s w)(hh:sh.holds S M n ts Q):code.wp Tryz.prog Q a w:=
 xN hO hG hdr (gU (by rw[h];exact hh)) hF hS
def exF (M:Mem σ)(n:Nat):Tr σ->List Fm->Tr σ
 |t,[]=>t
 |t,.sq b::fs=>exF M n (t.bind b (ex M n b)) fs
 |t,.bl k::fs=>exF M n (t.unblock k) fs
theorem Hg {S:σ->World->Prop}{M:Mem σ}{n:Nat}(hO:Ok Tryz.prog S M)(hG:uO S M)(hdr:∀s w,S s w->S s w.drew):∀{fs:List Fm} {t:Tr σ} {Q:Exit->Act->World->Prop},(exF M n t fs).holds S M n Q->t.holds S M n (Qof Tryz.prog fs Q)
 |[],_,_,h=>h
 | .sq b::fs,_,_,h=>kz (λ_ _ h2 _ _ ha hs=>xN hO hG hdr h2 ha hs) (Hg hO hG hdr (fs:=fs) h)
 | .bl k::fs,_,_,h=>iR (Hg hO hG hdr (fs:=fs) h)
theorem ex_shF {S:σ->World->Prop}{M:Mem σ}{n:Nat}{code:Code}{fs:List Fm}{K:List (Nat×AV)}{s:σ}{Q:Exit->Act->World->Prop}{a:Act}{w:World}(ts:List Nat)(sh:Sh σ)(hO:Ok Tryz.prog S M)(hG:uO S M)(hdr:∀s w,S s w->S s w.drew)(h:(exF M n (ex M n code K s) fs).shape ts=sh)(hF:Fr M n K a)(hS:S s w)(hh:sh.holds S M n ts Q):code.wp Tryz.prog (Qof Tryz.prog fs Q) a w:=
 xN hO hG hdr (Hg hO hG hdr (gU (by rw[h];exact hh))) hF hS
def spot (p:Code->Bool):Code->Option (Code×List Fm)
 | .seq a b=>if p (.seq a b)=true then some (.seq a b,[])else match spot p a with
   |some (c,fs)=>some (c,fs++[.sq b])
   |none=>spot p b
 | .block k b=>if p (.block k b)=true then some (.block k b,[])else match spot p b with
   |some (c,fs)=>some (c,fs++[.bl k])
   |none=>none
 | .cond c x y=>if p (.cond c x y)=true then some (.cond c x y,[])else match spot p x with
   |some z=>some z
   |none=>spot p y
 |c=>if p c=true then some (c,[])else none
def cK:Code->Bool
 | .loop _=>true
 |_=>false
def bL (i:Nat):Code->Bool
 | .region j _ _=>i==j
 |_=>false
def aX (p:Code->Bool)(c:Code):Code×List Fm:=(spot p c).getD (.skip,[])
def fU:Code->Code
 | .loop b=>b
 |c=>c
def mJ:Code->Array Oper
 | .region _ ops _=>ops
 |_=>#[]
def seqL:Code->Code
 | .seq a _=>a
 |c=>c
def nC:Code->Code
 | .seq _ b=>b
 |c=>c
def fmC (fs:List Fm)(i:Nat):Code:=match fs[i]? with
 |some (.sq b)=>b
 |_=>.skip
def aM (rows:List (Option (Nat×Nat)×List Value))(k j:Nat):Value:=((rows.getD k (none,[])).2.getD j (.bool false))
def j5 (rows:List (Option (Nat×Nat)×List Value)):List (Nat×Nat):=rows.map λr=>match r.1 with
 |some a=>a
 |none=>(0,0)
def fe (rows:List (Option (Nat×Nat)×List Value)):AV->Value
 | .v x=>x
 | .p k j=>.pointer (some ⟨((j5 rows).getD k (0,0)).1,((j5 rows).getD k (0,0)).2+j,none⟩)
 | .r k j=>aM rows k j
 | .a k j n=>.agg ((List.range n).map λi=>aM rows k (j+i)).toArray
def GY (t:TypeId):Option Nat:=if t=91\/t=129 then some 2 else if t=24\/t=34 then some 16 else if t=26\/t=35 then some 9 else if t=28\/t=37 then some 28 else none
def Jo (t:TypeId):Bool:=t==2||t==3||t==4||t==9||t==22||t==32
def lX (offs:TypeId->Nat->Option Nat)(rows:List (Option (Nat×Nat)×List Value))(call:FuncId->List AV->Option Value)(other:Oper->(Operand->Option AV)->Option AV:=λ_ _=>none):Mem Unit:=
 {blk:=j5 rows,offs:=offs,ref:=aM rows,load:=λ_ t k j=>match rows[k]? with
  |some (some _,l)=>if Jo t=true then(if j<l.length then some (.r k j)else none)else(match GY t with
   |some n=>if j+n<=l.length then some (.a k j n)else none
   |none=>none)
  |_=>none,call:=λ_ f vs=>match call f vs with|some v=>some (v,none)|none=>none,other:=λ_=>other}
theorem xu (offs:TypeId->Nat->Option Nat)(rows:List (Option (Nat×Nat)×List Value))(call:FuncId->List AV->Option Value)(other:Oper->(Operand->Option AV)->Option AV):AV.val (lX offs rows call other)=fe rows:=by
 funext a
 cases a<;>rfl
theorem BS {t:TypeId}(ht:Jo t=true)(p:Addr)(w:World)(v:Value)(h:w.cell? p=some v):(Instr.loadAt t (.pointer (some p))).run Tryz.prog w=.ok v w:=by
 unfold Jo at ht
 simp only[Bool.or_eq_true,beq_iff_eq]at ht
 rcases ht with((((rfl|rfl)|rfl)|rfl)|rfl)|rfl<;>go_simp
theorem agg_ty {t:TypeId}{n:Nat}(h:GY t=some n):∃d,Tryz.prog.underlying t=some d/\(match d with| .struct _| .array _ _=>true|_=>false)=true/\(Tryz.prog.info? t).map (·.size)=some n:=by
 unfold GY at h
 repeat' split at h
 all_goals first
  |(rename_i h1;cases h;rcases h1 with rfl|rfl)
  |cases h
 all_goals first
  |exact⟨_,Tryz.underlying91,rfl,by kernel_rfl⟩
  |exact⟨_,Tryz.underlying129,rfl,by kernel_rfl⟩
  |exact⟨_,Tryz.underlying24,rfl,by kernel_rfl⟩
  |exact⟨_,Tryz.underlying34,rfl,by kernel_rfl⟩
  |exact⟨_,Tryz.underlying26,rfl,by kernel_rfl⟩
  |exact⟨_,Tryz.underlying35,rfl,by kernel_rfl⟩
  |exact⟨_,Tryz.underlying28,rfl,by kernel_rfl⟩
  |exact⟨_,Tryz.underlying37,rfl,by kernel_rfl⟩
theorem xY {t:TypeId}{n:Nat}(ht:GY t=some n)(b o:Nat)(w:World)(f:Nat->Value)(h:∀j,j<n->w.cell? ⟨b,o+j,none⟩=some (f j)):(Instr.loadAt t (.pointer (some ⟨b,o,none⟩))).run Tryz.prog w=.ok (.agg ((List.range n).map f).toArray) w:=by
 obtain⟨d,hu,hd,hi⟩:=agg_ty ht
 have hl:(loadCells ⟨b,o,none⟩ n).run Tryz.prog w=.ok ((List.range n).map f).toArray w:=run_loadCells (P:=Tryz.prog) (w:=w) ⟨b,o,none⟩ n f (λj hj=>by
  have hadd:(⟨b,o,none⟩:Addr).add j=⟨b,o+j,none⟩:=by unfold Addr.add;split<;>simp_all
  rw[hadd];exact h j hj)
 cases hq:Tryz.prog.info? t with
 |none=>simp[hq]at hi
 |some i=>
  have hs:i.size=n:=by simpa[hq]using hi
  have hagg:(isAgg t).run Tryz.prog w=.ok true w:=by
   unfold isAgg
   rw[Sem.run_bind,run_underlying hu w]
   cases d<;>simp_all
  unfold Instr.loadAt
  simp[Instr.sureAddr,loadVar,Sem.run_bind,hagg,sizeOf,typeInfo,hq,hs,hl]
theorem jw {offs:TypeId->Nat->Option Nat}{rows:List (Option (Nat×Nat)×List Value)}{call:FuncId->List AV->Option Value}{other:Oper->(Operand->Option AV)->Option AV}{S:World->Prop}(h1:∀t f d,offs t f=some d->∀b j w,(Instr.fieldAt t (.pointer (some ⟨b,j,none⟩)) f).run Tryz.prog w=.ok (.pointer (some ⟨b,j+d,none⟩)) w)
 (h2:∀(k b o:Nat) (l:List Value),rows[k]? =some (some (b,o),l)->∀w,S w->∀(j:Nat) (v:Value),l[j]? =some v->w.cell? ⟨b,o+j,none⟩=some v)
 (h3:∀f vs v,call f vs=some v->(∀args w,(callFunc f args).run Tryz.prog w=.ok (.enter f args) w)/\∀w,S w->Calls Tryz.prog f (vs.map (fe rows)).toArray w λe w'=>e=.returned v/\S w')
 (h4:∀o ov v,other o ov=some v->∀ρ:Operand->Value,(∀x u,ov x=some u->ρ x=fe rows u)->∀w,S w->(execOp ρ o).run Tryz.prog w=.ok (.value (fe rows v)) w):Ok Tryz.prog (λ_ w=>S w) (lX offs rows call other):=by
 refine⟨h1,λ_ t k j v h w hS=>?_,λ_ _ _ _ _ _ h=>(by cases h),λ_ f vs v s' h=>?_,λ_ o ov v h ρ hov w hS=>?_⟩
 ·rw[xu]
  unfold lX at h
  simp only at h
  split at h
  ·rename_i p l hr
   obtain⟨b,o⟩:=p
   have hb:(j5 rows).getD k (0,0)=(b,o):=by simp[j5,hr]
   have hv:∀j,j<l.length->w.cell? ⟨b,o+j,none⟩=some (aM rows k j):=λj hj=>by
    have h5:=h2 k b o l hr w hS j l[j] (List.getElem?_eq_getElem hj)
    have hv:aM rows k j=l[j]:=by unfold aM;simp[hr,hj]
    rw[hv];exact h5
   show(Instr.loadAt t (.pointer (some ⟨((j5 rows).getD k (0,0)).1,((j5 rows).getD k (0,0)).2+j,none⟩))).run Tryz.prog w=_
   rw[hb]
   split at h
   ·rename_i ht
    split at h
    ·rename_i hj
     cases h
     exact BS ht _ w _ (hv j hj)
    ·cases h
   ·split at h
    ·rename_i n hn
     split at h
     ·rename_i hj
      cases h
      exact xY hn b (o+j) w (λi=>aM rows k (j+i)) λi hi=>by rw[Nat.add_assoc];exact hv (j+i) (by omega)
     ·cases h
    ·cases h
  ·cases h
 ·rw[xu]
  unfold lX at h
  simp only at h
  split at h
  ·rename_i v2 hv
   cases h
   exact h3 _ _ _ hv
  ·cases h
 ·rw[xu]at hov⊢
  exact h4 o ov v h ρ hov w hS
theorem Fj {M:Mem σ}{m n:Nat}{K:List (Nat×AV)}{ops:Array Oper}{a:Act}{s:σ}{full:List (Ent σ)}{ρ:Operand->Value}(hF:Fr M m K a)(hrun:run M (keep K ops) [] s (ops.toList.take n)=some full)(hD:cO ρ (ops.toList.take n) (full.map (Ent.value M)))
 (hrest:∀t:Nat,(∀o:Oper,o∈ops.toList->o.dst≠some t)->ρ (.tmp t)=a.eval (.tmp t)) (hco:∀v,ρ (.const v)=v) (hfu:∀f,ρ (.func f)=.func (.func f) #[] #[]):Rd M (keep K ops) ρ full:=by
 refine⟨λi e d hi hd=>?_,λt u hl=>?_,hco,hfu⟩
 ·obtain⟨tl,e1,e2⟩:=dx hrun
  have hlen:full.length=(ops.toList.take n).length:=by rw[e1];simpa using e2
  have hil:i<(ops.toList.take n).length:=by have:=(List.getElem?_eq_some_iff.1 hi).1;omega
  obtain⟨o,ho⟩:∃o,(ops.toList.take n)[i]? =some o:=⟨_,List.getElem?_eq_getElem hil⟩
  obtain⟨e5,k1,k2⟩:=vU hrun i o ho
  have:e5=e:=by
   have k3:full[i]? =some e5:=by simpa using k1
   exact Option.some.inj (k3.symm.trans hi)
  subst this
  exact cO.tmp i o (e5.value M) d hD ho (by rw[List.getElem?_map,hi];rfl) (k2.symm.trans hd)
 ·obtain⟨k1,k2⟩:=iM hl
  rw[hrest t k2]
  exact eval_at (hF.look t u k1)
def xP (M:Mem σ)(K:List (Nat×AV))(s:σ)(n:Nat)(ops:Array Oper):Option (FuncId×List AV):=match run M (keep K ops) [] s (ops.toList.take n),ops[n]? with
 |some full,some ⟨_,.call ⟨.value (.func f),xs,_⟩,_,_,_,none⟩=>if full.all (λe=>!e.turn)=true then(match xD (opd (keep K ops) full []) xs.toList with
  |some vs=>some (f,vs)
  |none=>none)else none
 |_,_=>none
theorem wh {S:σ->World->Prop}{M:Mem σ}{m n id:Nat}{K:List (Nat×AV)}{ops:Array Oper}{s:σ}{a:Act}{w:World}{Q:Exit->Act->World->Prop}{f:FuncId}{vs:List AV}{T:Ending->World->Prop}(hO:Ok Tryz.prog S M)(hok:iF m ops=true)(hsz:ops.size=n+1)(hc:xP M K s n ops=some (f,vs))(hF:Fr M m K a)(hS:S s w)
 (hent:∀args w,(callFunc f args).run Tryz.prog w=.ok (.enter f args) w) (hcall:∀w,S s w->Calls Tryz.prog f (vs.map (AV.val M)).toArray w T) (hend:∀e w',T e w'->∃v,e=.returned v/\∀b,Fr M m (keep K ops) b->Q .normal b w'):(Code.region id ops false).wp Tryz.prog Q a w:=by
 unfold xP at hc
 split at hc
 ·rename_i full dst g xs ts _ _ _ hrun hlast
  split at hc
  ·rename_i hturn
   split at hc
   ·rename_i vs2 hargs
    cases hc
    unfold iF at hok
    simp only[Bool.and_eq_true]at hok
    obtain⟨⟨hd,hs⟩,hb⟩:=hok
    obtain⟨tl,e1,e2⟩:=dx hrun
    have hI:=vW vV hrun
    have hlen:full.length=n:=by rw[e1];simp[e2];omega
    refine iP (S s) n (full.map (Ent.value M)) (by rw[List.length_map,hlen]) (by omega) hd hs (by rw[hF.size];exact hb) hS (λρ hD hrest hco hfu=>?_) λb w1 hS1 hbd hbs hD hrest=>?_
    ·have:=Pn hO (Fj hF hrun hD hrest hco hfu) hI (λe he=>by have:=List.all_eq_true.1 hturn e he;simpa using this) s hrun
     simpa using this
    ·rw[show List.range' n (ops.size-n)=[n]from by rw[hsz,show n+1-n=1 from by omega];rfl]
     refine ku hlast rfl ?_
     have hR:=Fj (ρ:=b.eval) hF hrun hD (λt ht=>by show b.tmps.getD t undef=a.tmps.getD t undef;rw[Array.getD_eq_getD_getElem?,Array.getD_eq_getD_getElem?,hrest t ht]) (λ_=>rfl) (λ_=>rfl)
     have hxs:xs.map b.eval=(vs.map (AV.val M)).toArray:=by
      have h7:=lL (ρ:=b.eval) (λx u hx=>lS hR hI (λ_ _ h=>h) (λg hg=>by cases hg) hx) hargs
      rw[<-h7,<-Array.toList_map,Array.toArray_toList]
     have hf:b.eval (Operand.func f)=.func (.func f) #[] #[]:=rfl
     unfold Oper.wp
     simp only[execOp,resolve,invoke,hf,hxs]
     simp[Deferred.ofValue,hent]
     rw[Oper.upon_enter]
     refine(hcall w1 hS1).mono λe w' hT=>?_
     obtain⟨v,rfl,hq⟩:=hend e w' hT
     refine hq _ ?_
     refine⟨?_,by cases dst<;>exact hbd.trans hF.defers,λt u hl=>?_⟩
     ·cases dst<;>simp[Act.put,hbs,hF.size]
     ·obtain⟨j1,j2⟩:=iM hl
      have hne:dst≠some t:=j2 _ (by simpa using Array.mem_of_getElem? hlast)
      have h8:=(hrest t j2).trans (hF.look t u j1)
      cases dst with
      |none=>exact h8
      |some d=>
       have:d≠t:=λe=>hne (by rw[e])
       simp[Act.put,this,h8]
   ·cases hc
  ·cases hc
 ·cases hc
end Go.Proofs.YtnjjeapcalkmaaaGreatDoor.Ev
namespace Go.Proofs.YtnjjeapcalkmaaaGreatDoor
open Go.RowKit
open Go.Proofs.YtnjjeapcalkmaaaGreatDoor.Ord
theorem tV {P:Program}{ops:Array Oper}{Q:Exit->Act->World->Prop}{rest:List Oper}{o:Oper}{a:Act}{w w':World}(hg:o.guard=none)(hd:o.dst=none)(hr:(execOp a.eval o).run P w=.ok .skip w')(h:wpList P ops Q rest a w'):wpList P ops Q (o::rest) a w:=by
 refine wpList_plain hg λK hK=>?_
 unfold Oper.wp
 rw[hr]
 refine hK _ _ ?_
 rw[hd]
 exact h
end Go.Proofs.YtnjjeapcalkmaaaGreatDoor
