/-
  ParserLines IS TRUE FOR EVERY INPUT. The row lists some package-level variables as the program's text lays them; the card ties them.
-/
import Derived.Test.YthijakidnkhbnaaGreatDoorMqI
set_option maxRecDepth 100000
set_option maxHeartbeats 4000000
set_option linter.unusedVariables false
set_option linter.unusedSimpArgs false
namespace Go.Proofs.YthijakidnkhbnaaGreatDoor
open Go.RowKit
open Go.Proofs.YthijakidnkhbnaaGreatDoor.Ord
open Go.Proofs.YthijakidnkhbnaaGreatDoor.Ev (AV Mem Fr Sh Stop Qof aK aM fmC)
def nG:Nat->Code->Code
 |0,c=>c
 |n+1,.seq _ c=>nG n c
 |_+1,c=>c
def JH:Code->Code
 | .seq c _=>c
 |c=>c
noncomputable def oF:Code:=nG 9 (Tryz.f10.body.getD .skip)
noncomputable def iV:Code:=nG 1 oF
structure nH (r tb cap n g z:Nat)(a:Act):Prop where
 size:a.tmps.size=146
 defers:a.defers=[]
 t2:a.tmps[2]? =some (.pointer (some ⟨z,0,none⟩))
 t5:a.tmps[5]? =some (.slice (some ⟨tb,0,none⟩) n cap)
 t8:a.tmps[8]? =some (.pointer (some ⟨r,0,none⟩))
 t9:a.tmps[9]? =some (.pointer (some ⟨g,0,none⟩))
def paK (z:Nat):List (Nat×AV):=[(2,.v (.pointer (some ⟨z,0,none⟩))),(5,.r 0 0),(8,.p 0 0),(9,.p 1 0)]
def paU (z:Nat):List (Option AV):=[some (.v (.pointer (some ⟨z,0,none⟩))),some (.r 0 0),some (.p 0 0),some (.p 1 0)]
section
variable {W : World} {r tb cap : Nat} {l : List Ps.Tok} {g z : Nat} {st st' : Ps.St} {Q : Ps.Req} {lv : Value} {w w' : World}
theorem Aq (ρ:Operand->Value)(w:World):(Instr.build 38 ((#[]:Array (Nat×Operand)).map λ(i,x)=>(i,ρ x))).run Tryz.prog w=.ok (.agg (aA {} aQ)) w:=by
 unfold aA aB aG
 go_simp
 first|done|rfl
theorem Eb {n:Nat}{av ev ov:Int}{qc:List Value}{k0:Int}{t0:ByteArray}{o0:Int}{q:Option Int}{a:Act}(h:nH r tb cap n g z a):Fr (paM r tb cap n g av ev ov qc k0 t0 o0 q) 146 (paK z) a:=
 Ev.aC (Ev.aC (Ev.aC (Ev.aC (Ev.aU h.size h.defers) h.t9) h.t8) h.t5) h.t2
theorem Jo {n:Nat}{av ev ov:Int}{qc:List Value}{k0:Int}{t0:ByteArray}{o0:Int}{q:Option Int}{a:Act}(h:Stop (paM r tb cap n g av ev ov qc k0 t0 o0 q) 146 [2,5,8,9] (paU z) a):nH r tb cap n g z a:=
 have h1:=h.cons
 have h2:=h1.2.cons
 have h3:=h2.2.cons
 have h4:=h3.2.cons
 ⟨h.1,h.2.1,h1.1,h2.1,h3.1,h4.1⟩
theorem Hd (w:World)(z:Nat)(Q0 Q:Ps.Req)(lv0 lv:Value)(h:w.heap[z]? =some (.cells (aA Q0 lv0) 38 (0,0)))(h1:lv.oneCell'=true):(Instr.storeAt 38 (.pointer (some ⟨z,0,none⟩)) (.agg (aA Q lv))).run Tryz.prog w=.ok () (w.setRow z (aA Q lv)):=by
 simp only[Instr.storeAt,Instr.sureAddr,Sem.run_bind,Sem.run_pure,Result.andThen_ok,run_storeVar_row (P:=Tryz.prog) w z 38 38 (aA Q0 lv0) (aA Q lv) h (by kernel_rfl) rfl (by unfold aA aB aG;simpa[Value.oneCell']using h1)]
theorem st_fr {z:Nat}{cs:Array Value}{o:Obj}(h:w.heap[r]? =some o)(hne:r≠z):(w.setRow z cs).heap[r]? =some o:=(setRow_other w z r _ hne).trans h
theorem pa_r39 {a:Act}{P:Ps.Req×Int×Int}{er:Int×Int}(h:bN W r tb cap l g z (.error er) Q lv w)(hF:nH r tb cap l.length g z a)(hP:P=({},er.1,er.2)):(aK (aM 39) iV).1.wp Tryz.prog (Qof Tryz.prog (aK (aM 39) iV).2 (bodyPost Tryz.prog Tryz.f10 (di W P))) a w:=by
 show(Code.region _ _ true).wp Tryz.prog (Exit.then (Code.ret.wp Tryz.prog _) _) a w
 obtain⟨vs,hvs⟩:∃vs:List Value,vs=[.agg (aA {} aQ),.pointer (some ⟨r,0,none⟩),.pointer (some ⟨r,0,none⟩),.pointer (some ⟨r,3,none⟩),.int .i64 er.1,.pointer (some ⟨r,0,none⟩),.pointer (some ⟨r,0,none⟩),.pointer (some ⟨r,2,none⟩),.int .i64 er.2,undef,.int .i64 er.1,.int .i64 er.2]:=⟨_,rfl⟩
 have HR:Hid (∀w',w'=w.drew.setRow z (aA {} aQ)\/w'=w.drew->w'.cell? ⟨r,3,none⟩=some (.int .i64 er.1)/\w'.cell? ⟨r,2,none⟩=some (.int .i64 er.2)):=Lib.hid λw' hw'=>by
  obtain⟨a',e,o,hr,-,-,-,-,-,he,ho,-⟩:=h.drew.rd
  have hz:r≠z:=by have:=h.hzt;have:=h.htr;omega
  have hr':w'.heap[r]? =some (.cells (cO tb l.length cap a' e o) 81 (0,0)):=by
   rcases hw' with rfl|rfl
   ·exact st_fr hr hz
   ·exact hr
  exact⟨by rw[(ag hr').2.2.2.1,ho],by rw[(ag hr').2.2.1,he]⟩
 refine dE (λdn w'=>if dn 9=true then w'=w.drew.setRow z (aA {} aQ)else w'=w.drew) (λ_ _=>false) (λ_ _ _ _ h=>by cases h) 12 vs (by rw[hvs];rfl) rfl rfl (by kernel_rfl) (by kernel_rfl) (by kernel_rfl) (by rw[hF.size];kernel_rfl) (by simp) ?_ ?_
 ·intro ρ hD hrest hco hfu
  have e2:ρ (.tmp 2)=.pointer (some ⟨z,0,none⟩):=(hrest 2 (by decide +kernel)).trans (eval_at hF.t2)
  have e8:ρ (.tmp 8)=.pointer (some ⟨r,0,none⟩):=(hrest 8 (by decide +kernel)).trans (eval_at hF.t8)
  obtain⟨k0,k1,k2,k3,k4,k5,k6,k7,k8,-⟩:=dS hvs hD
  have hB:∀(dn:Nat->Bool) w',(if dn 9=true then w'=w.drew.setRow z (aA {} aQ)else w'=w.drew)->w'=w.drew.setRow z (aA {} aQ)\/w'=w.drew:=λdn w' h=>by
   split at h
   ·exact .inl h
   ·exact .inr h
  refine jZ hvs ?_
  refine⟨λdn hn hd he=>aF (B:=λ_=>True) (λw h=>by simpa using h) (λ_ _=>trivial) (λw0=>aP rfl (kJ rfl (Aq ρ))),?_⟩
  refine⟨λdn hn hd he=>aF (B:=λ_=>True) (λw h=>by simpa using h) (λ_ _=>trivial) (λw0=>aP rfl (bG rfl e8)),?_⟩
  refine⟨λdn hn hd he=>aF (B:=λ_=>True) (λw h=>by simpa using h) (λ_ _=>trivial) (λw0=>aP rfl (il rfl k1)),?_⟩
  refine⟨λdn hn hd he=>aF (B:=λ_=>True) (λw h=>by simpa using h) (λ_ _=>trivial) (λw0=>aP rfl (bS rfl k2 (λw=>by go_simp))),?_⟩
  refine⟨λdn hn hd he=>aF (B:=λw'=>w'=w.drew.setRow z (aA {} aQ)\/w'=w.drew) (λw h=>by simpa using h) (hB dn) (λw0=>aP rfl (bT rfl k3 (λw2 hS=>lZ _ w2 _ (HR.out w2 hS.2).1))),?_⟩
  refine⟨λdn hn hd he=>aF (B:=λ_=>True) (λw h=>by simpa using h) (λ_ _=>trivial) (λw0=>aP rfl (bG rfl e8)),?_⟩
  refine⟨λdn hn hd he=>aF (B:=λ_=>True) (λw h=>by simpa using h) (λ_ _=>trivial) (λw0=>aP rfl (il rfl k5)),?_⟩
  refine⟨λdn hn hd he=>aF (B:=λ_=>True) (λw h=>by simpa using h) (λ_ _=>trivial) (λw0=>aP rfl (bS rfl k6 (λw=>by go_simp))),?_⟩
  refine⟨λdn hn hd he=>aF (B:=λw'=>w'=w.drew.setRow z (aA {} aQ)\/w'=w.drew) (λw h=>by simpa using h) (hB dn) (λw0=>aP rfl (bT rfl k7 (λw2 hS=>lZ _ w2 _ (HR.out w2 hS.2).2))),?_⟩
  refine⟨λdn hn hd he=>⟨λ_ w2 hS=>?_,λh=>by have h2:true=false:=h;cases h2⟩,?_⟩
  ·simp only[hn,Bool.false_eq_true,if_false]at hS
   subst hS
   have k0':ρ (.tmp 126)=.agg (aA {} aQ):=k0
   unfold execOp
   simp only[e2,k0',Sem.run_bind,Hd w.drew z {} {} aQ aQ h.drew.zero rfl]
   exact⟨rfl,by simp⟩
  refine⟨λdn hn hd he=>aF (B:=λ_=>True) (λw h=>by simpa using h) (λ_ _=>trivial) (λw0=>aP rfl (qE rfl k4)),?_⟩
  exact⟨λdn hn hd he=>aF (B:=λ_=>True) (λw h=>by simpa using h) (λ_ _=>trivial) (λw0=>aP rfl (qE rfl k8)),trivial⟩
 intro b w9 hS hK hD
 have hS':w9=w.drew.setRow z (aA {} aQ):=by simpa using hS
 rw[hS']
 refine wp_ret ?_
 subst hP
 exact Dj (P:=({},er.1,er.2)) rfl h.drew (World.ownsRow_nil _ _ _ _) (hK.defers.trans hF.defers) ((hK.rest 2 (by decide +kernel)).trans hF.t2) (bR.tmp 10 _ _ 3 hD rfl (by rw[hvs];rfl) rfl) (bR.tmp 11 _ _ 4 hD rfl (by rw[hvs];rfl) rfl)
theorem tok0 (h:ae w r tb cap l st){x:Ps.Tok}(hx:l[0]? =some x):∀(j:Nat) (v:Value),[Value.int .i64 x.1,.string x.2.1,.int .i64 (Ps.aT l 0)][j]? =some v->w.cell? ⟨tb,j,none⟩=some v:=by
 obtain⟨a',e,o,hr,ht,hne,hpos,hcap,bE,hs⟩:=h
 obtain⟨t0,t1,t2⟩:=ht 0 x hx
 have ho:Ps.aT l 0=x.2.2:=by unfold Ps.aT;rw[hx]
 intro j v hv
 rcases j with _|_|_|j
 ·cases hv;exact t0
 ·cases hv;exact t1
 ·cases hv;rw[ho];exact t2
 ·cases hv
theorem pa_r42 {a:Act}{P:Ps.Req×Int×Int}{q:Int}(h:bN W r tb cap l g z st Q lv w)(hF:nH r tb cap l.length g z a)(hq:a.tmps[12]? =some (.int .i64 q))(hP:P=({},Ps.aT l 0,q)):(aK (aM 42) iV).1.wp Tryz.prog (Qof Tryz.prog (aK (aM 42) iV).2 (bodyPost Tryz.prog Tryz.f10 (di W P))) a w:=by
 show(Code.region _ _ true).wp Tryz.prog (Exit.then (Code.ret.wp Tryz.prog _) _) a w
 obtain⟨vs,hvs⟩:∃vs:List Value,vs=[.agg (aA {} aQ),.slice (some ⟨tb,0,none⟩) l.length cap,.pointer (some ⟨tb,0,none⟩),.pointer (some ⟨tb,2,none⟩),.int .i64 (Ps.aT l 0),.int .i64 q,undef,.int .i64 (Ps.aT l 0),.int .i64 q]:=⟨_,rfl⟩
 have hpos:0<l.length:=by obtain⟨_,_,_,_,_,_,h,_⟩:=h.rd;exact h
 have HR:Hid (∀w',w'=w.drew.setRow z (aA {} aQ)\/w'=w.drew->w'.cell? ⟨tb,2,none⟩=some (.int .i64 (Ps.aT l 0))):=Lib.hid λw' hw'=>by
  have hz:z<tb:=h.hzt
  have hrd:ae w' r tb cap l st:=by
   rcases hw' with rfl|rfl
   ·have hT:Tch z z w.drew (w.drew.setRow z (aA {} aQ)):=⟨rfl,rfl,rfl,by rw[setRow_size];exact Nat.le_refl _,λj _ h1 _=>setRow_other _ z j _ h1⟩
    exact h.drew.rd.tch hT.right (by have:=h.htr;omega) (by omega)
   ·exact h.drew.rd
  exact tok0 hrd (List.getElem?_eq_getElem hpos) 2 _ rfl
 refine dE (λdn w'=>if dn 6=true then w'=w.drew.setRow z (aA {} aQ)else w'=w.drew) (λ_ _=>false) (λ_ _ _ _ h=>by cases h) 9 vs (by rw[hvs];rfl) rfl rfl (by kernel_rfl) (by kernel_rfl) (by kernel_rfl) (by rw[hF.size];kernel_rfl) (by simp) ?_ ?_
 ·intro ρ hD hrest hco hfu
  have e2:ρ (.tmp 2)=.pointer (some ⟨z,0,none⟩):=(hrest 2 (by decide +kernel)).trans (eval_at hF.t2)
  have e5:ρ (.tmp 5)=.slice (some ⟨tb,0,none⟩) l.length cap:=(hrest 5 (by decide +kernel)).trans (eval_at hF.t5)
  have e12:ρ (.tmp 12)=.int .i64 q:=(hrest 12 (by decide +kernel)).trans (eval_at hq)
  obtain⟨k0,k1,k2,k3,k4,k5,-⟩:=dS hvs hD
  have hB:∀(dn:Nat->Bool) w',(if dn 6=true then w'=w.drew.setRow z (aA {} aQ)else w'=w.drew)->w'=w.drew.setRow z (aA {} aQ)\/w'=w.drew:=λdn w' h=>by
   split at h
   ·exact .inl h
   ·exact .inr h
  refine jZ hvs ?_
  refine⟨λdn hn hd he=>aF (B:=λ_=>True) (λw h=>by simpa using h) (λ_ _=>trivial) (λw0=>aP rfl (kJ rfl (Aq ρ))),?_⟩
  refine⟨λdn hn hd he=>aF (B:=λ_=>True) (λw h=>by simpa using h) (λ_ _=>trivial) (λw0=>aP rfl (bG rfl e5)),?_⟩
  refine⟨λdn hn hd he=>aF (B:=λ_=>True) (λw h=>by simpa using h) (λ_ _=>trivial) (λw0=>aP rfl (Js (k:=0) rfl k1 (hco _) hpos)),?_⟩
  refine⟨λdn hn hd he=>aF (B:=λ_=>True) (λw h=>by simpa using h) (λ_ _=>trivial) (λw0=>aP rfl (bS rfl k2 (λw=>by go_simp))),?_⟩
  refine⟨λdn hn hd he=>aF (B:=λw'=>w'=w.drew.setRow z (aA {} aQ)\/w'=w.drew) (λw h=>by simpa using h) (hB dn) (λw0=>aP rfl (bT rfl k3 (λw2 hS=>lZ _ w2 _ (HR.out w2 hS.2)))),?_⟩
  refine⟨λdn hn hd he=>aF (B:=λ_=>True) (λw h=>by simpa using h) (λ_ _=>trivial) (λw0=>aP rfl (bG rfl e12)),?_⟩
  refine⟨λdn hn hd he=>⟨λ_ w2 hS=>?_,λh=>by have h2:true=false:=h;cases h2⟩,?_⟩
  ·simp only[hn,Bool.false_eq_true,if_false]at hS
   subst hS
   have k0':ρ (.tmp 139)=.agg (aA {} aQ):=k0
   unfold execOp
   simp only[e2,k0',Sem.run_bind,Hd w.drew z {} {} aQ aQ h.drew.zero rfl]
   exact⟨rfl,by simp⟩
  refine⟨λdn hn hd he=>aF (B:=λ_=>True) (λw h=>by simpa using h) (λ_ _=>trivial) (λw0=>aP rfl (qE rfl k4)),?_⟩
  exact⟨λdn hn hd he=>aF (B:=λ_=>True) (λw h=>by simpa using h) (λ_ _=>trivial) (λw0=>aP rfl (qE rfl k5)),trivial⟩
 intro b w9 hS hK hD
 have hS':w9=w.drew.setRow z (aA {} aQ):=by simpa using hS
 rw[hS']
 refine wp_ret ?_
 subst hP
 exact Dj (P:=({},Ps.aT l 0,q)) rfl h.drew (World.ownsRow_nil _ _ _ _) (hK.defers.trans hF.defers) ((hK.rest 2 (by decide +kernel)).trans hF.t2) (bR.tmp 7 _ _ 3 hD rfl (by rw[hvs];rfl) rfl) (bR.tmp 8 _ _ 4 hD rfl (by rw[hvs];rfl) rfl)
theorem lk_one {B:Nat}{ks:List Ps.Link}(h:LkL w B lv ks):lv.oneCell'=true:=by
 rcases h.2 with⟨rfl,-⟩|⟨g,cap,cur,rfl,-⟩<;>rfl
theorem pa_r43 {a:Act}{P:Ps.Req×Int×Int}(h:bN W r tb cap l g z st Q lv w)(hF:nH r tb cap l.length g z a)(hP:P=(Q,0,0)):(aK (aM 43) iV).1.wp Tryz.prog (Qof Tryz.prog (aK (aM 43) iV).2 (bodyPost Tryz.prog Tryz.f10 (di W P))) a w:=by
 show(Code.region _ _ false).wp Tryz.prog (Exit.then (Code.ret.wp Tryz.prog _) _) a w
 obtain⟨d,hu,hd,hi⟩:=Ev.rM (t:=38) rfl
 have hone:=lk_one h.lk
 refine wp_region_lit ?_
 refine jK rfl rfl rfl (v:=.pointer (some ⟨g,0,none⟩)) (eval_at hF.t9) (u:=.agg (aA Q lv)) (by
  have:=run_loadVar_row (P:=Tryz.prog) w g _ 38 (aA Q lv) (0,0) d h.row hu (by cases d<;>first|rfl|cases hd) hi
  unfold Instr.loadAt
  simp[Instr.sureAddr,this]) ?_
 refine jT (w':=w.setRow z (aA Q lv)) rfl rfl ?_ ?_
 ·have e1:(⟨a.tmps.setIfInBounds 145 (.agg (aA Q lv)),a.defers⟩:Act).eval (.tmp 2)=.pointer (some ⟨z,0,none⟩):=eval_at (by rw[Array.getElem?_setIfInBounds_ne (by decide)];exact hF.t2)
  have e2:(⟨a.tmps.setIfInBounds 145 (.agg (aA Q lv)),a.defers⟩:Act).eval (.tmp 145)=.agg (aA Q lv):=eval_at (by simp[hF.size])
  unfold execOp
  simp only[e1,e2,Sem.run_bind,Hd w z {} Q aQ lv h.zero hone]
  rfl
 refine af rfl rfl (u:=.int .i64 0) rfl ?_
 refine af rfl rfl (u:=.int .i64 0) rfl ?_
 refine aL ?_
 refine wp_ret ?_
 subst hP
 refine Dj (P:=(Q,0,0)) rfl h h.lk hF.defers ?_ (eval_at ?_) (eval_at ?_)
 ·simp only[Array.getElem?_setIfInBounds_ne (show(4:Nat)≠2 by decide),Array.getElem?_setIfInBounds_ne (show(3:Nat)≠2 by decide),Array.getElem?_setIfInBounds_ne (show(145:Nat)≠2 by decide)]
  exact hF.t2
 ·simp[Array.getElem?_setIfInBounds_ne (show(4:Nat)≠3 by decide),hF.size]
 ·simp[hF.size]
def PaN (W:World)(r tb cap:Nat)(l:List Ps.Tok)(g z:Nat)(st:Ps.St)(Q:Ps.Req)(lv:Value)(av ev ov:Int)(w:World):Prop:=bN W r tb cap l g z st Q lv w/\∀(j:Nat) (v:Value),[Value.slice (some ⟨tb,0,none⟩) l.length cap,.int .i64 av,.int .i64 ev,.int .i64 ov][j]? =some v->w.cell? ⟨r,j,none⟩=some v
def StN (l:List Ps.Tok)(st:Ps.St)(av ev ov:Int):Prop:=match st with| .ok b=>av=(b:Int)/\ev=0/\b<=l.length| .error er=>ev=er.2/\ov=er.1/\ev≠0
theorem N7 (h:bN W r tb cap l g z st Q lv w):∃av ev ov:Int,PaN W r tb cap l g z st Q lv av ev ov w/\StN l st av ev ov:=by
 obtain⟨a',e,o,hr,ht,hne,hpos,hcap,bE,hs⟩:=h.rd
 obtain⟨k0,k1,k2,k3,-⟩:=ag hr
 refine⟨a',e,o,⟨h,λj v hv=>?_⟩,hs⟩
 rcases j with _|_|_|_|j
 ·cases hv;exact k0
 ·cases hv;exact k1
 ·cases hv;exact k2
 ·cases hv;exact k3
 ·cases hv
theorem PaN.below {av ev ov:Int}(h:PaN W r tb cap l g z st Q lv av ev ov w)(hb:Below w.heap.size w w'):PaN W r tb cap l g z st Q lv av ev ov w':=
 ⟨h.1.below hb,λj v hv=>by
  have:=h.1.size;have:=h.1.hrg
  exact(hb.cell (p:=⟨r,j,none⟩) (by show r<_;omega)).trans (h.2 j v hv)⟩
theorem PaN.drew {av ev ov:Int}(h:PaN W r tb cap l g z st Q lv av ev ov w):PaN W r tb cap l g z st Q lv av ev ov w.drew:=⟨h.1.drew,h.2⟩
theorem zB {av ev ov:Int}{x:Ps.Tok}(hx:l[0]? =some x)(q:Option Int)
 (hC:∀q0,q=some q0->∀w,bN W r tb cap l g z st Q lv w->Calls Tryz.prog 13 #[.agg (aA Q lv)] w λe w'=>e=.returned (.int .i64 q0)/\Below w.heap.size w w'):
 Ev.Ok Tryz.prog (λ(_:Unit) w=>PaN W r tb cap l g z st Q lv av ev ov w) (paM r tb cap l.length g av ev ov (aA Q lv).toList x.1 x.2.1 (Ps.aT l 0) q):=
 paM_ok (List.getElem?_eq_some_iff.1 hx).1 (λw h=>h.2) (λw h j v hv=>by rw[cell_of_row _ _ _ _ _ _ h.1.row];simpa using hv) (λw h=>tok0 h.1.rd hx) λq0 hq w h=>(hC q0 hq w h.1).mono λe w' k=>⟨k.1,h.below k.2⟩
theorem Fe {a:Act}{P:Ps.Req×Int×Int}{er:Int×Int}(h:bN W r tb cap l g z (.error er) Q lv w)(hF:nH r tb cap l.length g z a)(hP:P=({},er.1,er.2)):iV.wp Tryz.prog (bodyPost Tryz.prog Tryz.f10 (di W P)) a w:=by
 obtain⟨av,ev,ov,hN,rfl,rfl,hev⟩:=N7 h
 obtain⟨x,hx⟩:∃x,l[0]? =some x:=⟨_,List.getElem?_eq_getElem (by obtain⟨_,_,_,_,_,_,h,_⟩:=h.rd;exact h)⟩
 refine Ev.jA (M:=paM r tb cap l.length g av er.2 er.1 (aA Q lv).toList x.1 x.2.1 (Ps.aT l 0) none) (S:=λ_ w=>PaN W r tb cap l g z (.error er) Q lv av er.2 er.1 w) (n:=146) (K:=paK z) (s:=()) [2,5,8,9] (.ite (er.2 !=0) (.go (aK (aM 39) iV) (paU z) ()) (.go (aK (aM 40) iV) (paU z) ())) (zB hx none (λ_ h=>by cases h)) (λ_ w h=>h.drew) (by kernel_rfl) (Eb hF) hN ⟨λhc b w2 hst hS=>?_,λhc=>?_⟩
 ·exact pa_r39 hS.1 (Jo hst) hP
 ·have:er.2=0:=by simpa using hc
  exact absurd this hev
theorem OE {a:Act}{P:Ps.Req×Int×Int}{b:Nat}(h:bN W r tb cap l g z (.ok b) Q lv w)(hF:nH r tb cap l.length g z a)(q:Int)
 (hC:∀w,bN W r tb cap l g z (.ok b) Q lv w->Calls Tryz.prog 13 #[.agg (aA Q lv)] w λe w'=>e=.returned (.int .i64 q)/\Below w.heap.size w w') (hP:P=if q≠0 then({},Ps.aT l 0,q)else(Q,0,0)):iV.wp Tryz.prog (bodyPost Tryz.prog Tryz.f10 (di W P)) a w:=by
 obtain⟨av,ev,ov,hN,rfl,rfl,hle⟩:=N7 h
 obtain⟨x,hx⟩:∃x,l[0]? =some x:=⟨_,List.getElem?_eq_getElem (by obtain⟨_,_,_,_,_,_,h,_⟩:=h.rd;exact h)⟩
 refine Ev.jA (M:=paM r tb cap l.length g b 0 ov (aA Q lv).toList x.1 x.2.1 (Ps.aT l 0) (some q)) (S:=λ_ w=>PaN W r tb cap l g z (.ok b) Q lv b 0 ov w) (n:=146) (K:=paK z) (s:=()) [2,5,8,9,12] (.ite ((0:Int) !=0) (.go (aK (aM 39) iV) (paU z++[none]) ()) (.ite (q !=0) (.go (aK (aM 42) iV) (paU z++[some (.v (.int .i64 q))]) ()) (.go (aK (aM 43) iV) (paU z++[some (.v (.int .i64 q))]) ()))) (zB hx (some q) (λ_ h=>by cases h;exact hC)) (λ_ w h=>h.drew) (by kernel_rfl) (Eb hF) hN ⟨λhc=>(by cases hc),λ_=>⟨λhc b2 w2 hst hS=>?_,λhc b2 w2 hst hS=>?_⟩⟩
 all_goals
  have h1:=hst.cons
  have h2:=h1.2.cons
  have h3:=h2.2.cons
  have h4:=h3.2.cons
  have h5:=h4.2.cons
 ·exact pa_r42 hS.1 ⟨hst.1,hst.2.1,h1.1,h2.1,h3.1,h4.1⟩ h5.1 (by rw[hP,if_pos (by simpa using hc)])
 ·exact pa_r43 hS.1 ⟨hst.1,hst.2.1,h1.1,h2.1,h3.1,h4.1⟩ (by rw[hP,if_neg (by simpa using hc)])
theorem NQ (hl:bF l){a:Act}{P:Ps.Req×Int×Int}(h:bN W r tb cap l g z st Q lv w)(hF:nH r tb cap l.length g z a)(q:Int)
 (hC:∀b,st=.ok b->∀w,bN W r tb cap l g z st Q lv w->Calls Tryz.prog 13 #[.agg (aA Q lv)] w λe w'=>e=.returned (.int .i64 q)/\Below w.heap.size w w')
 (hP:P=match Ps.vL l st with| .error e=>({},e.1,e.2)| .ok _=>if q≠0 then({},Ps.aT l 0,q)else(Q,0,0)):oF.wp Tryz.prog (bodyPost Tryz.prog Tryz.f10 (di W P)) a w:=by
 obtain⟨av,ev,ov,hN,Gx⟩:=N7 h
 obtain⟨x,hx⟩:∃x,l[0]? =some x:=⟨_,List.getElem?_eq_getElem (by obtain⟨_,_,_,_,_,_,h,_⟩:=h.rd;exact h)⟩
 show(Code.seq (JH oF) iV).wp Tryz.prog _ a w
 refine wp_seq ?_
 refine Ev.jA (M:=paM r tb cap l.length g av ev ov (aA Q lv).toList x.1 x.2.1 (Ps.aT l 0) none) (S:=λ_ w=>PaN W r tb cap l g z st Q lv av ev ov w) (n:=146) (K:=paK z) (s:=()) [2,5,8,9] (.ite ((ev==0)&&decide (av<(l.length:Int))) (.go (aK (aM 37) (JH oF)) (paU z) ()) (.nx (paU z) ())) (zB hx none (λ_ h=>by cases h)) (λ_ w h=>h.drew) (by kernel_rfl) (Eb hF) hN ⟨λhc b2 w2 hst hS=>?_,λhc b2 w2 hst hS=>?_⟩
 ·cases st with
  |error er=>
   exfalso
   obtain⟨e1,e2,e3⟩:=Gx
   simp[e3]at hc
  |ok b=>
   obtain⟨rfl,rfl,hle⟩:=Gx
   have hlt:b<l.length:=by simp at hc;exact hc
   have hF2:=Jo hst
   show(Code.region _ _ false).wp Tryz.prog (Exit.then (iV.wp Tryz.prog _) _) b2 w2
   refine wp_region_lit ?_
   refine af rfl rfl (u:=.pointer (some ⟨r,0,none⟩)) (by unfold execOp;simp only[eval_at hF2.t8];rfl) ?_
   refine jN rfl rfl _ _ _ rfl DK #[.pointer (some ⟨r,0,none⟩),.int .i64 30] ?_ ((gW hS.1.rd 30 (by decide) (λc hc=>by cases hc;exact hlt)).mono ?_)
   ·simp only[List.map_toArray,List.map_cons,List.map_nil]
    rw[eval_at (t:=119) (v:=.pointer (some ⟨r,0,none⟩)) (by simp[hF2.size])]
    rfl
   rintro e w3 ⟨rfl,h1,h2⟩
   refine⟨_,rfl,?_⟩
   refine aL ?_
   simp only[Exit.then]
   have ne:∀t:Nat,t≠119->t≠120->∀u v:Value,((b2.tmps.setIfInBounds 119 u).setIfInBounds 120 v)[t]? =b2.tmps[t]?:=λt n1 n2 u v=>by
    rw[Array.getElem?_setIfInBounds_ne (λh=>n2 h.symm),Array.getElem?_setIfInBounds_ne (λh=>n1 h.symm)]
   refine Fe (er:=(Ps.aT l b,30)) (hS.1.reader h1 h2) ⟨by simp[hF2.size],hF2.defers,(ne 2 (by decide) (by decide) _ _).trans hF2.t2,(ne 5 (by decide) (by decide) _ _).trans hF2.t5,(ne 8 (by decide) (by decide) _ _).trans hF2.t8,(ne 9 (by decide) (by decide) _ _).trans hF2.t9⟩ ?_
   rw[hP]
   unfold Ps.vL
   simp only[if_pos hlt]
 ·simp only[Exit.then]
  have hF2:=Jo hst
  cases st with
  |error er=>exact Fe hS.1 hF2 (by rw[hP];rfl)
  |ok b=>
   obtain⟨rfl,rfl,hle⟩:=Gx
   have hnl:¬b<l.length:=by simp at hc;omega
   refine OE hS.1 hF2 q (hC b rfl) ?_
   rw[hP]
   unfold Ps.vL
   simp only[if_neg hnl]
end
open Go.Proofs.YthijakidnkhbnaaGreatDoor.Ev (AV Mem Fr Sh Stop Qof aK aM dW fP fmC)
noncomputable def cB:Code:=JH (nG 8 (Tryz.f10.body.getD .skip))
abbrev PaX:=Ps.Req×Value
def oK (x:PaX)(t:TypeId)(j:Nat):Option Value:=if t=9 then(match j with|3=>some (.string x.1.ins.ref)|5=>some (.string x.1.ins.sender)|_=>none)else none
def jy (x:PaX)(t:TypeId)(j:Nat)(v:Value):Option PaX:=match j,v with
 |0,.int .i64 n=>if t=3 then some ({x.1 with op:=n},x.2)else none
 |1,.string s=>if t=9 then some ({x.1 with sender:=s},x.2)else none
 |2,.string s=>if t=9 then some ({x.1 with ref:=s},x.2)else none
 |_,_=>none
def paB (W:World)(r tb cap:Nat)(l:List Ps.Tok)(g z:Nat)(st:Ps.St)(x:PaX)(w:World):Prop:=bN W r tb cap l g z st x.1 x.2 w
def ll (E:Ps.Env)(l:List Ps.Tok)(r tb cap g:Nat):Mem (RS×PaX):={rdM E l r g oK jy (λ_ _ _=>none) (λ_=>none) (.slice (some ⟨tb,0,none⟩) l.length cap)with lit:=λt=>t==43||t==68||t==101}
section
variable {W : World} {r tb cap : Nat} {l : List Ps.Tok} {g z : Nat} {st st' : Ps.St} {Q : Ps.Req} {lv : Value} {w w' : World} {E : Ps.Env}
theorem jV:RdB (rrR r tb cap l) r (paB W r tb cap l g z):=⟨λh=>h.rd,λh h1 h2=>h.reader h1 h2⟩
theorem iG (hR:Rdr r tb cap l E)(ht:Nat->Option Bool):Ev.Ok Tryz.prog (rdS l (paB W r tb cap l g z)) (rdM E l r g oK jy (λ_ _ _=>none) ht (.slice (some ⟨tb,0,none⟩) l.length cap)):=by
 refine yK jV hR (λx t j v h st w hB=>?_) (λx t j v x' h st w hB=>?_) (λ_ _ _ _ _ h=>by cases h)
 ·unfold oK at h
  have hB:bN W r tb cap l g z st x.1 x.2 w:=hB
  split at h
  ·rename_i ht
   subst ht
   split at h
   ·cases h
    exact Ev.oU (t:=9) rfl _ w _ (by rw[cell_of_row _ _ _ _ _ _ hB.row];rfl)
   ·cases h
    exact Ev.oU (t:=9) rfl _ w _ (by rw[cell_of_row _ _ _ _ _ _ hB.row];rfl)
   ·cases h
  ·cases h
 ·unfold jy at h
  have hB:bN W r tb cap l g z st x.1 x.2 w:=hB
  split at h
  ·split at h
   ·rename_i ht
    cases h
    exact⟨_,oG (by rw[ht];simp) _ w _ _ (by rw[cell_of_row _ _ _ _ _ _ hB.row];rfl) (aJ 0 hB.row) (.inl ⟨_,rfl⟩),hB.field 0 _ _ rfl rfl⟩
   ·cases h
  ·split at h
   ·rename_i ht
    cases h
    exact⟨_,oG (by rw[ht];simp) _ w _ _ (by rw[cell_of_row _ _ _ _ _ _ hB.row];rfl) (aJ 1 hB.row) (.inr (.inr ⟨_,rfl⟩)),hB.field 1 _ _ rfl rfl⟩
   ·cases h
  ·split at h
   ·rename_i ht
    cases h
    exact⟨_,oG (by rw[ht];simp) _ w _ _ (by rw[cell_of_row _ _ _ _ _ _ hB.row];rfl) (aJ 2 hB.row) (.inr (.inr ⟨_,rfl⟩)),hB.field 2 _ _ rfl rfl⟩
   ·cases h
  ·cases h
theorem pK:∀(s:RS×PaX) w,rdS l (paB W r tb cap l g z) s w->rdS l (paB W r tb cap l g z) s w.drew:=λ_ _ h=>⟨h.1,bN.drew h.2⟩
def kG (z:Nat)(V:ByteArray):List (Nat×AV):=[(2,.v (.pointer (some ⟨z,0,none⟩))),(5,.r 0 0),(8,.p 0 0),(9,.p 1 0),(10,.v (.string V))]
def oH (z:Nat)(V:ByteArray):List (Option AV):=[some (.v (.pointer (some ⟨z,0,none⟩))),some (.r 0 0),some (.p 0 0),some (.p 1 0),some (.v (.string V))]
structure iw (r tb cap n g z:Nat)(V:ByteArray)(a:Act):Prop extends nH r tb cap n g z a where
 t10:a.tmps[10]? =some (.string V)
theorem qL {V:ByteArray}{a:Act}{lt:Nat->Bool}{ht:Nat->Option Bool}(h:iw r tb cap l.length g z V a):Fr {rdM E l r g oK jy (λ_ _ _=>none) ht (.slice (some ⟨tb,0,none⟩) l.length cap)with lit:=lt} 146 (kG z V) a:=
 Ev.aC (Ev.aC (Ev.aC (Ev.aC (Ev.aC (Ev.aU h.size h.defers) h.t10) h.t9) h.t8) h.t5) h.t2
theorem lQ {V:ByteArray}{a:Act}{lt:Nat->Bool}{ht:Nat->Option Bool}{ts:List Nat}{us:List (Option AV)}(h:Stop {rdM E l r g oK jy (λ_ _ _=>none) ht (.slice (some ⟨tb,0,none⟩) l.length cap)with lit:=lt} 146 ([2,5,8,9,10]++ts) (oH z V++us) a):iw r tb cap l.length g z V a/\Stop {rdM E l r g oK jy (λ_ _ _=>none) ht (.slice (some ⟨tb,0,none⟩) l.length cap)with lit:=lt} 146 ts us a:=
 have h1:=h.cons
 have h2:=h1.2.cons
 have h3:=h2.2.cons
 have h4:=h3.2.cons
 have h5:=h4.2.cons
 ⟨⟨⟨h.1,h.2.1,h1.1,h2.1,h3.1,h4.1⟩,h5.1⟩,h5.2⟩
theorem ent28:∀args w,(callFunc 28 args).run Tryz.prog w=.ok (.enter 28 args) w:=enters_of Tryz.func28 (by kernel_rfl) rfl
theorem ent31:∀args w,(callFunc 31 args).run Tryz.prog w=.ok (.enter 31 args) w:=enters_of Tryz.func31 (by kernel_rfl) rfl
theorem fa_q (f d:Nat)(h:yS 38 f=some d)(w:World):(Instr.fieldAt 38 (.pointer (some ⟨g,0,none⟩)) f).run Tryz.prog w=.ok (.pointer (some ⟨g,d,none⟩)) w:=by
 have:=FQ h g 0 w
 rw[Nat.zero_add]at this
 exact this
theorem pa_r19 {V:ByteArray}{P:Ps.P Ps.Ins}{a:Act}{K:Exit->Act->World->Prop}(hF:iw r tb cap l.length g z V a)(h:bN W r tb cap l g z st {} aQ w)
 (hC:Calls Tryz.prog 28 #[.pointer (some ⟨r,0,none⟩),.string V] w (dh P w r tb cap l st))
 (hend:∀(b:Act) (w':World) (st':Ps.St) (i:Ps.Ins) (lv:Value),iw r tb cap l.length g z V b->bN W r tb cap l g z st' {ins:=i} lv w'->Ps.Res P st st' i->K .normal b w'):(aK (aM 19) cB).1.wp Tryz.prog K a w:=by
 show(Code.region _ _ false).wp Tryz.prog _ a w
 refine wp_region_lit ?_
 refine af rfl rfl (u:=.pointer (some ⟨r,0,none⟩)) (by unfold execOp;simp only[eval_at hF.t8];rfl) ?_
 refine af rfl rfl (u:=.string V) (by
  unfold execOp
  have e:(⟨a.tmps.setIfInBounds 56 (.pointer (some ⟨r,0,none⟩)),a.defers⟩:Act).eval (.tmp 10)=.string V:=eval_at (by rw[Array.getElem?_setIfInBounds_ne (by decide)];exact hF.t10)
  simp only[e];rfl) ?_
 refine jN rfl rfl _ _ _ rfl ent28 #[.pointer (some ⟨r,0,none⟩),.string V] ?_ (hC.mono ?_)
 ·simp only[List.map_toArray,List.map_cons,List.map_nil]
  rw[eval_at (t:=56) (v:=.pointer (some ⟨r,0,none⟩)) (by rw[Array.getElem?_setIfInBounds_ne (by decide)];simp[hF.size]),eval_at (t:=57) (v:=.string V) (by simp[hF.size])]
 rintro e w1 ⟨i,lv,st',rfl,h1,h2,h3,h4⟩
 refine⟨_,rfl,?_⟩
 have hA:=h.reader h1 h2
 have hg:=h.size
 obtain⟨a3,Ob⟩:∃a3:Array Value,a3=((a.tmps.setIfInBounds 56 (.pointer (some ⟨r,0,none⟩))).setIfInBounds 57 (.string V)).setIfInBounds 58 (.agg (aB i lv).toArray):=⟨_,rfl⟩
 have s3:a3.size=146:=by rw[Ob];simp[hF.size]
 have e58:a3[58]? =some (.agg (aB i lv).toArray):=by rw[Ob];simp[hF.size]
 have k3:∀t:Nat,t<56->a3[t]? =a.tmps[t]?:=λt ht=>by
  rw[Ob,Array.getElem?_setIfInBounds_ne (by omega),Array.getElem?_setIfInBounds_ne (by omega),Array.getElem?_setIfInBounds_ne (by omega)]
 rw[<-Ob]
 refine yc rfl rfl rfl (v:=.pointer (some ⟨g,0,none⟩)) (eval_at ((k3 9 (by decide)).trans hF.t9)) (fa_q 3 3 rfl _) ?_
 refine jT (w':=w1.setRow g (aA {ins:=i} lv)) rfl rfl ?_ ?_
 ·have e1:(⟨a3.setIfInBounds 59 (.pointer (some ⟨g,3,none⟩)),a.defers⟩:Act).eval (.tmp 59)=.pointer (some ⟨g,3,none⟩):=eval_at (by simp[s3])
  have e2:(⟨a3.setIfInBounds 59 (.pointer (some ⟨g,3,none⟩)),a.defers⟩:Act).eval (.tmp 58)=.agg (aB i lv).toArray:=eval_at (by rw[Array.getElem?_setIfInBounds_ne (by decide)];exact e58)
  unfold execOp
  have hs:=LW (T:=35) (o:=3) (cs:=(aB i lv).toArray) rfl {ins:=i} lv hA.row (by show 3+16<=28;omega) (CG h3 i) rfl
  simp only[e1,e2,Sem.run_bind]
  rw[hs]
  rfl
 refine aL ?_
 have kk:∀t:Nat,t<56->(a3.setIfInBounds 59 (.pointer (some ⟨g,3,none⟩)))[t]? =a.tmps[t]?:=λt ht=>by
  rw[Array.getElem?_setIfInBounds_ne (by omega)];exact k3 t ht
 exact hend _ _ st' i lv ⟨⟨by simp[s3],hF.defers,(kk 2 (by decide)).trans hF.t2,(kk 5 (by decide)).trans hF.t5,(kk 8 (by decide)).trans hF.t8,(kk 9 (by decide)).trans hF.t9⟩,(kk 10 (by decide)).trans hF.t10⟩ (hA.whole {ins:=i} lv (Ed h3 (by omega))) h4
theorem pa_r35 {V:ByteArray}{a:Act}{K:Exit->Act->World->Prop}{E:Ps.Env}(hF:iw r tb cap l.length g z V a)(h:bN W r tb cap l g z st Q aQ w)(hQ:Q.ins={})
 (hC:Calls Tryz.prog 31 #[.pointer (some ⟨r,0,none⟩)] w (vo w r tb cap l E st))
 (hend:∀(b:Act) (w':World) (st':Ps.St) (m:Ps.Amd),iw r tb cap l.length g z V b->bN W r tb cap l g z st' {Q with amd:=m} aQ w'->Ps.Res (Ps.zx E l) st st' m->K .normal b w'):(aK (aM 35) cB).1.wp Tryz.prog K a w:=by
 show(Code.region _ _ false).wp Tryz.prog _ a w
 refine wp_region_lit ?_
 refine af rfl rfl (u:=.pointer (some ⟨r,0,none⟩)) (by unfold execOp;simp only[eval_at hF.t8];rfl) ?_
 refine jN rfl rfl _ _ _ rfl ent31 #[.pointer (some ⟨r,0,none⟩)] ?_ (hC.mono ?_)
 ·simp only[List.map_toArray,List.map_cons,List.map_nil]
  rw[eval_at (t:=102) (v:=.pointer (some ⟨r,0,none⟩)) (by simp[hF.size])]
 rintro e w1 ⟨m,st',rfl,h1,h2,h4⟩
 refine⟨_,rfl,?_⟩
 have hA:=h.reader h1 h2
 obtain⟨a3,Ob⟩:∃a3:Array Value,a3=(a.tmps.setIfInBounds 102 (.pointer (some ⟨r,0,none⟩))).setIfInBounds 103 (.agg (aG m).toArray):=⟨_,rfl⟩
 have s3:a3.size=146:=by rw[Ob];simp[hF.size]
 have e58:a3[103]? =some (.agg (aG m).toArray):=by rw[Ob];simp[hF.size]
 have k3:∀t:Nat,t<56->a3[t]? =a.tmps[t]?:=λt ht=>by
  rw[Ob,Array.getElem?_setIfInBounds_ne (by omega),Array.getElem?_setIfInBounds_ne (by omega)]
 rw[<-Ob]
 refine yc rfl rfl rfl (v:=.pointer (some ⟨g,0,none⟩)) (eval_at ((k3 9 (by decide)).trans hF.t9)) (fa_q 4 19 rfl _) ?_
 refine jT (w':=w1.setRow g (aA {Q with amd:=m} aQ)) rfl rfl ?_ ?_
 ·have e1:(⟨a3.setIfInBounds 104 (.pointer (some ⟨g,19,none⟩)),a.defers⟩:Act).eval (.tmp 104)=.pointer (some ⟨g,19,none⟩):=eval_at (by simp[s3])
  have e2:(⟨a3.setIfInBounds 104 (.pointer (some ⟨g,19,none⟩)),a.defers⟩:Act).eval (.tmp 103)=.agg (aG m).toArray:=eval_at (by rw[Array.getElem?_setIfInBounds_ne (by decide)];exact e58)
  unfold execOp
  have hs:=LW (T:=36) (o:=19) (cs:=(aG m).toArray) rfl {Q with amd:=m} aQ hA.row (by show 19+9<=28;omega) (by simp[aG,Value.oneCell']) rfl
  simp only[e1,e2,Sem.run_bind]
  rw[hs]
  rfl
 refine aL ?_
 have kk:∀t:Nat,t<56->(a3.setIfInBounds 104 (.pointer (some ⟨g,19,none⟩)))[t]? =a.tmps[t]?:=λt ht=>by
  rw[Array.getElem?_setIfInBounds_ne (by omega)];exact k3 t ht
 refine hend _ _ st' m ⟨⟨by simp[s3],hF.defers,(kk 2 (by decide)).trans hF.t2,(kk 5 (by decide)).trans hF.t5,(kk 8 (by decide)).trans hF.t8,(kk 9 (by decide)).trans hF.t9⟩,(kk 10 (by decide)).trans hF.t10⟩ (hA.whole {Q with amd:=m} aQ ?_) h4
 show LkL w1 (g+1) aQ Q.ins.links
 rw[hQ]
 exact World.ownsRow_nil _ _ _ _
theorem pa_r20 (hR:Rdr r tb cap l E){V:ByteArray}{a:Act}{K:Exit->Act->World->Prop}{i:Ps.Ins}(hF:iw r tb cap l.length g z V a)(h:bN W r tb cap l g z st {ins:=i} lv w)
 (hend:∀(b:Act) (w':World),nH r tb cap l.length g z b->bN W r tb cap l g z st (Ps.rC i) lv w'->K .normal b w'):(fmC (aK (aM 19) cB).2 0).wp Tryz.prog K a w:=by
 refine Ev.bH (M:=ll E l r tb cap g) (S:=rdS l (paB W r tb cap l g z)) (n:=146) (K:=kG z V) (s:=(.any st,({ins:=i},lv))) [2,5,8,9,10] (.nx (oH z V) (.any st,(Ps.rC i,lv))) ((iG hR _).lit) ((bU jV).lit) pK (by kernel_rfl) (qL hF) ⟨trivial,h⟩ λb w2 hst hS=>?_
 exact hend b w2 (lQ (ts:=[]) (us:=[]) hst).1.tonH hS.2
theorem pa_I (hR:Rdr r tb cap l E)(hpos:0<l.length){V:ByteArray}{P:Ps.P Ps.Ins}{a:Act}{K:Exit->Act->World->Prop}(hF:iw r tb cap l.length g z V a)(h:bN W r tb cap l g z (.ok 0) {} aQ w)
 (hev:(Ev.ex (ll E l r tb cap g) 146 cB (kG z V) (.at0 0,({},aQ))).shape [2,5,8,9,10]=.go (aK (aM 19) cB) (oH z V) (.any (.ok 1),({},aQ)))
 (hC:∀w,bN W r tb cap l g z (.ok 1) {} aQ w->Calls Tryz.prog 28 #[.pointer (some ⟨r,0,none⟩),.string V] w (dh P w r tb cap l (.ok 1)))
 (hend:∀(b:Act) (w':World) (st':Ps.St) (i:Ps.Ins) (lv:Value),nH r tb cap l.length g z b->bN W r tb cap l g z st' (Ps.rC i) lv w'->Ps.Res P (.ok 1) st' i->K .normal b w'):cB.wp Tryz.prog K a w:=by
 refine Ev.bH (M:=ll E l r tb cap g) (S:=rdS l (paB W r tb cap l g z)) (n:=146) (K:=kG z V) (s:=(.at0 0,({},aQ))) [2,5,8,9,10] _ ((iG hR _).lit) ((bU jV).lit) pK hev (qL hF) ⟨hpos,h⟩ λb w2 hst hS=>?_
 refine pa_r19 (lQ (ts:=[]) (us:=[]) hst).1 hS.2 (hC w2 hS.2) λb3 w3 st3 i lv3 DL h3 hres=>?_
 show(fmC (aK (aM 19) cB).2 0).wp Tryz.prog _ b3 w3
 refine pa_r20 hR DL h3 λb4 w4 hF4 h4=>?_
 exact hend b4 w4 st3 i lv3 hF4 h4 hres
theorem OX (hR:Rdr r tb cap l E)(hpos:0<l.length){V:ByteArray}{a:Act}{K:Exit->Act->World->Prop}(hF:iw r tb cap l.length g z V a)(h:bN W r tb cap l g z (.ok 0) {} aQ w)
 (hV:V.toList∉Ps.verbs) (hend:∀(b:Act) (w':World),nH r tb cap l.length g z b->bN W r tb cap l g z (.error (Ps.aT l 0,30)) {} aQ w'->K .normal b w'):cB.wp Tryz.prog K a w:=by
 have hne:∀x:ByteArray,x.toList∈Ps.verbs->(V.toList==x.toList)=false:=λx hx=>by
  rw[beq_eq_false_iff_ne]
  exactλhe=>hV (by rw[he];exact hx)
 refine Ev.bH (M:={rdM E l r g oK jy (λ_ _ _=>none) (λt=>if t==43||t==68 then some false else none) (.slice (some ⟨tb,0,none⟩) l.length cap)with lit:=λ_=>false}) (S:=rdS l (paB W r tb cap l g z)) (n:=146) (K:=kG z V) (s:=(.at0 0,({},aQ))) [2,5,8,9,10]
  (.one (V.toList==(⟨#[112,97,121]⟩:ByteArray).toList) false (.one (V.toList==(⟨#[100,101,108,105,118,101,114]⟩:ByteArray).toList) false (.one (V.toList==(⟨#[114,101,99,101,105,118,101]⟩:ByteArray).toList) false (.one (V.toList==(⟨#[112,108,101,100,103,101]⟩:ByteArray).toList) false (.one (V.toList==(⟨#[114,101,108,101,97,115,101]⟩:ByteArray).toList) false
   (.one (V.toList==(⟨#[97,109,101,110,100]⟩:ByteArray).toList) false (.one (V.toList==(⟨#[99,97,110,99,101,108]⟩:ByteArray).toList) false (.one (V.toList==(⟨#[104,111,108,100]⟩:ByteArray).toList) false (.one (V.toList==(⟨#[114,101,115,117,109,101]⟩:ByteArray).toList) false
    (.nx (oH z V) (.any (Ps.gM l 30 (.ok 0)),({},aQ)))))))))))) ((iG hR _).lit) ((bU jV).lit) pK (by kernel_rfl) (qL hF) ⟨hpos,h⟩ ?_
 refine⟨hne _ (by decide +kernel),hne _ (by decide +kernel),hne _ (by decide +kernel),hne _ (by decide +kernel),hne _ (by decide +kernel),hne _ (by decide +kernel),hne _ (by decide +kernel),hne _ (by decide +kernel),hne _ (by decide +kernel),λb w2 hst hS=>?_⟩
 exact hend b w2 (lQ (ts:=[]) (us:=[]) hst).1.tonH hS.2
def opW:Nat->ByteArray
 |1=>⟨#[97,109,101,110,100]⟩
 |2=>⟨#[99,97,110,99,101,108]⟩
 |3=>⟨#[104,111,108,100]⟩
 |4=>⟨#[114,101,115,117,109,101]⟩
 |_=>⟨#[]⟩
def yt:Array Value:=#[.string (opW 0),.string (opW 1),.string (opW 2),.string (opW 3),.string (opW 4)]
noncomputable def mR:Code:=fP (aK dW cB).1
theorem pa_r28 {V:ByteArray}{a:Act}{K:Exit->Act->World->Prop}{k:Nat}(hk:k<5)(hF:iw r tb cap l.length g z V a)(h11:a.tmps[11]? =some (.int .i64 k))
 (hend:∀(b:Act) (w':World),iw r tb cap l.length g z V b->b.tmps[11]? =some (.int .i64 k)->b.tmps[82]? =some (.bool (V.toList==(opW k).toList))->Below w.heap.size w w'->K .normal b w'):(aK (aM 28) mR).1.wp Tryz.prog K a w:=by
 show(Code.region _ _ false).wp Tryz.prog _ a w
 refine wp_region_lit ?_
 refine af rfl rfl (u:=.string V) (by unfold execOp;simp only[eval_at hF.t10];rfl) ?_
 refine wpList_plain rfl λK hK=>?_
 unfold Oper.wp
 rw[show(execOp (⟨a.tmps.setIfInBounds 77 (.string V),a.defers⟩:Act).eval _).run Tryz.prog w=.ok (.value (.slice (some ⟨w.heap.size,0,none⟩) 5 5)) (w.alloc (.cells yt 9))from by
  unfold execOp
  unfold yt
  go_simp
  first|done|rfl]
 refine hK _ _ ?_
 clear hK K
 obtain⟨a2,ha2⟩:∃a2:Array Value,a2=(a.tmps.setIfInBounds 77 (.string V)).setIfInBounds 78 (.slice (some ⟨w.heap.size,0,none⟩) 5 5):=⟨_,rfl⟩
 have s2:a2.size=146:=by rw[ha2];simp[hF.size]
 have e77:a2[77]? =some (.string V):=by rw[ha2,Array.getElem?_setIfInBounds_ne (by decide)];simp[hF.size]
 have e78:a2[78]? =some (.slice (some ⟨w.heap.size,0,none⟩) 5 5):=by rw[ha2];simp[hF.size]
 have k2:∀t:Nat,t<56->a2[t]? =a.tmps[t]?:=λt ht=>by
  rw[ha2,Array.getElem?_setIfInBounds_ne (by omega),Array.getElem?_setIfInBounds_ne (by omega)]
 show wpList Tryz.prog _ _ _ ⟨(a.tmps.setIfInBounds 77 (.string V)).setIfInBounds 78 (.slice (some ⟨w.heap.size,0,none⟩) 5 5),a.defers⟩ _
 rw[<-ha2]
 have NZ:(k:Int)<(5:Int):=by omega
 obtain⟨w1,hw1⟩:∃w1,w1=w.alloc (.cells yt 9):=⟨_,rfl⟩
 have hb:Below w.heap.size w w1:=by rw[hw1];exact(Below.refl _ _).alloc (Nat.le_refl _) _
 have hc:w1.cell? ⟨w.heap.size,k,none⟩=some (.string (opW k)):=by
  rw[hw1,cell_of_row _ _ _ _ _ _ (aD w _)]
  rcases k with _|_|_|_|_|k
  all_goals first|rfl|omega
 rw[<-hw1]
 clear hw1
 refine af rfl rfl (u:=.int .i64 k) (by unfold execOp;simp only[eval_at (b:=⟨a2,a.defers⟩) ((k2 11 (by decide)).trans h11)];rfl) ?_
 have e79:(a2.setIfInBounds 79 (.int .i64 k))[79]? =some (.int .i64 k):=by simp[s2]
 have f78:(a2.setIfInBounds 79 (.int .i64 k))[78]? =some (.slice (some ⟨w.heap.size,0,none⟩) 5 5):=by rw[Array.getElem?_setIfInBounds_ne (by decide)];exact e78
 refine af rfl rfl (u:=.pointer (some ⟨w.heap.size,k,none⟩)) (by
  have g1:(⟨a2.setIfInBounds 79 (.int .i64 k),a.defers⟩:Act).eval (.tmp 78)=_:=eval_at f78
  have g2:(⟨a2.setIfInBounds 79 (.int .i64 k),a.defers⟩:Act).eval (.tmp 79)=_:=eval_at e79
  unfold execOp
  simp only[g1,g2]
  clear g1 g2 f78 e79 hc hb k2 ha2 hend
  go_simp
  done) ?_
 refine jK rfl rfl rfl (v:=.pointer (some ⟨w.heap.size,k,none⟩)) (eval_at (by simp[s2])) (u:=.string (opW k)) (Ev.oU (t:=9) rfl _ w1 _ hc) ?_
 refine af rfl rfl (u:=.bool (V.toList==(opW k).toList)) (by
  have g1:(⟨((a2.setIfInBounds 79 (.int .i64 k)).setIfInBounds 80 (.pointer (some ⟨w.heap.size,k,none⟩))).setIfInBounds 81 (.string (opW k)),a.defers⟩:Act).eval (.tmp 77)=.string V:=eval_at (by
   rw[Array.getElem?_setIfInBounds_ne (by decide),Array.getElem?_setIfInBounds_ne (by decide),Array.getElem?_setIfInBounds_ne (by decide)];exact e77)
  have g2:(⟨((a2.setIfInBounds 79 (.int .i64 k)).setIfInBounds 80 (.pointer (some ⟨w.heap.size,k,none⟩))).setIfInBounds 81 (.string (opW k)),a.defers⟩:Act).eval (.tmp 81)=.string (opW k):=eval_at (by simp[s2])
  unfold execOp
  simp only[g1,g2]
  clear g1 g2 f78 e79 hc hb k2 ha2 hend
  go_simp
  first|done|rfl) ?_
 refine aL ?_
 have kk:∀t:Nat,t<56->((((a2.setIfInBounds 79 (.int .i64 k)).setIfInBounds 80 (.pointer (some ⟨w.heap.size,k,none⟩))).setIfInBounds 81 (.string (opW k))).setIfInBounds 82 (.bool (V.toList==(opW k).toList)))[t]? =a.tmps[t]?:=λt ht=>by
  rw[Array.getElem?_setIfInBounds_ne (by omega),Array.getElem?_setIfInBounds_ne (by omega),Array.getElem?_setIfInBounds_ne (by omega),Array.getElem?_setIfInBounds_ne (by omega)];exact k2 t ht
 exact hend _ _ ⟨⟨by simp[s2],hF.defers,(kk 2 (by decide)).trans hF.t2,(kk 5 (by decide)).trans hF.t5,(kk 8 (by decide)).trans hF.t8,(kk 9 (by decide)).trans hF.t9⟩,(kk 10 (by decide)).trans hF.t10⟩ ((kk 11 (by decide)).trans h11) (by simp[s2]) hb
def opQ (j k:Nat):Ps.Req:={op:=if j<k then(j:Int)else 0}
def qi (a:Act):Nat:=match (a.tmps[11]?:Option Value)with
 |some (.int _ n)=>(5-n).toNat
 |_=>0
theorem NJ (hR:Rdr r tb cap l E)(hpos:0<l.length){V:ByteArray}{j:Nat}{a:Act}{K:Exit->Act->World->Prop}(hj0:1<=j)(hj:j<5)(hV:∀k,1<=k->k<5->(V.toList==(opW k).toList)=decide (k=j))(hF:iw r tb cap l.length g z V a)(h11:a.tmps[11]? =some (.int .i64 1))(h:bN W r tb cap l g z (.ok 0) {} aQ w)
 (hend:∀(b:Act) (w':World),iw r tb cap l.length g z V b->bN W r tb cap l g z (.ok 0) {op:=j} aQ w'->K (.exit 1) b w'):(Code.loop mR).wp Tryz.prog K a w:=by
 refine wp_loop (λa w=>∃k:Nat,1<=k/\k<=5/\iw r tb cap l.length g z V a/\a.tmps[11]? =some (.int .i64 k)/\bN W r tb cap l g z (.ok 0) (opQ j k) aQ w) (λa _=>qi a) ⟨1,by omega,by omega,hF,h11,by
  unfold opQ;rw[if_neg (by omega)];exact h⟩ ?_
 clear hF h11 h
 rintro a w ⟨k,hk1,hk5,hF,h11,h⟩
 have hm:qi a=5-k:=by unfold qi;rw[h11];simp
 have hFr:Fr (ll E l r tb cap g) 146 ((11,.v (.int .i64 k))::kG z V) a:=Ev.aC (qL hF) h11
 refine Ev.bH (M:=ll E l r tb cap g) (S:=rdS l (paB W r tb cap l g z)) (n:=146) (K:=(11,.v (.int .i64 k))::kG z V) (s:=(.at0 0,(opQ j k,aQ))) [2,5,8,9,10,11] (.ite (decide ((k:Int)<5)) (.go (aK (aM 28) mR) (oH z V++[some (.v (.int .i64 k))]) (.at0 0,(opQ j k,aQ))) (.out 1 (oH z V++[some (.v (.int .i64 k))]) (.at0 0,(opQ j k,aQ)))) ((iG hR _).lit) ((bU jV).lit) pK (by kernel_rfl) hFr ⟨hpos,h⟩ ⟨λhc b w2 hst hS=>?_,λhc b w2 hst hS=>?_⟩
 ·have hk:k<5:=by have:=of_decide_eq_true hc;omega
  obtain⟨hF2,Ay⟩:=lQ (ts:=[11]) (us:=[some (.v (.int .i64 k))]) hst
  refine pa_r28 hk hF2 Ay.cons.1 λb3 w3 DL h11 h82 hb=>?_
  have h3:bN W r tb cap l g z (.ok 0) (opQ j k) aQ w3:=bN.below hS.2 hb
  rw[hV k hk1 hk]at h82
  show(fmC (aK (aM 28) mR).2 0).wp Tryz.prog _ b3 w3
  have key:∀(b:Act) (w':World),iw r tb cap l.length g z V b->b.tmps[11]? =some (.int .i64 k)->bN W r tb cap l g z (.ok 0) (opQ j (k+1)) aQ w'->(fmC (aK (aM 28) mR).2 2).wp Tryz.prog (Exit.then (λa' w'=>(∃k:Nat,1<=k/\k<=5/\iw r tb cap l.length g z V a'/\a'.tmps[11]? =some (.int .i64 k)/\bN W r tb cap l g z (.ok 0) (opQ j k) aQ w')/\qi a'<qi a) K) b w':=λb w' xe hb11 hA=>by
   have hFr:Fr (ll E l r tb cap g) 146 ((11,.v (.int .i64 k))::kG z V) b:=Ev.aC (qL xe) hb11
   refine Ev.bH (M:=ll E l r tb cap g) (S:=rdS l (paB W r tb cap l g z)) (n:=146) (K:=(11,.v (.int .i64 k))::kG z V) (s:=(.at0 0,(opQ j (k+1),aQ))) [2,5,8,9,10,11] (.nx (oH z V++[some (.v (.int .i64 (IntKind.i64.wrap ((k:Int)+1))))]) (.at0 0,(opQ j (k+1),aQ))) ((iG hR _).lit) ((bU jV).lit) pK (by kernel_rfl) hFr ⟨hpos,hA⟩ λb4 w4 hst hS=>?_
   obtain⟨hF4,Ju⟩:=lQ (ts:=[11]) (us:=[some (.v (.int .i64 (IntKind.i64.wrap ((k:Int)+1))))]) hst
   have h4:b4.tmps[11]? =some (.int .i64 ((k+1:Nat):Int)):=by
    have:b4.tmps[11]? =some (.int .i64 (IntKind.i64.wrap ((k:Int)+1))):=Ju.cons.1
    rw[IntWalk.i64_in _ (by omega)]at this
    simpa using this
   refine⟨⟨k+1,by omega,by omega,hF4,h4,hS.2⟩,?_⟩
   rw[hm]
   unfold qi
   rw[h4]
   simp
   omega
  have hFr3:Fr (ll E l r tb cap g) 146 ((82,.v (.bool (decide (k=j))))::(11,.v (.int .i64 k))::kG z V) b3:=Ev.aC (Ev.aC (qL DL) h11) h82
  refine Ev.bH (M:=ll E l r tb cap g) (S:=rdS l (paB W r tb cap l g z)) (n:=146) (K:=(82,.v (.bool (decide (k=j))))::(11,.v (.int .i64 k))::kG z V) (s:=(.at0 0,(opQ j k,aQ))) [2,5,8,9,10,11] (.ite (decide (k=j)) (.nx (oH z V++[some (.v (.int .i64 k))]) (.at0 0,({opQ j k with op:=(k:Int)},aQ))) (.nx (oH z V++[some (.v (.int .i64 k))]) (.at0 0,(opQ j k,aQ)))) ((iG hR _).lit) ((bU jV).lit) pK (by kernel_rfl) hFr3 ⟨hpos,h3⟩ ⟨λhc b4 w4 hst hS=>?_,λhc b4 w4 hst hS=>?_⟩
  ·have hkj:k=j:=of_decide_eq_true hc
   obtain⟨hF4,Ju⟩:=lQ (ts:=[11]) (us:=[some (.v (.int .i64 k))]) hst
   refine key b4 w4 hF4 Ju.cons.1 ?_
   have:=hS.2
   unfold opQ at this⊢
   rw[if_pos (show j<k+1 by omega),<-hkj]
   exact this
  ·have hkj:k≠j:=of_decide_eq_false hc
   obtain⟨hF4,Ju⟩:=lQ (ts:=[11]) (us:=[some (.v (.int .i64 k))]) hst
   refine key b4 w4 hF4 Ju.cons.1 ?_
   have:=hS.2
   unfold opQ at this⊢
   by_cases hjk:j<k
   ·rw[if_pos (show j<k+1 by omega)];rw[if_pos hjk]at this;exact this
   ·rw[if_neg (show¬j<k+1 by omega)];rw[if_neg hjk]at this;exact this
 ·have hk:¬(k:Int)<5:=of_decide_eq_false hc
  have hk5':k=5:=by omega
  subst hk5'
  have h5:bN W r tb cap l g z (.ok 0) (opQ j 5) aQ w2:=hS.2
  unfold opQ at h5
  rw[if_pos hj]at h5
  exact hend b w2 (lQ (ts:=[11]) (us:=[some (.v (.int .i64 (5:Nat)))]) hst).1 h5
noncomputable def qz:Code:=fmC (aK dW cB).2 1
theorem pa_O (hR:Rdr r tb cap l E)(hpos:0<l.length){V:ByteArray}{j:Nat}{a:Act}{K:Exit->Act->World->Prop}(hj0:1<=j)(hj:j<5)(hV:∀k,1<=k->k<5->(V.toList==(opW k).toList)=decide (k=j))(hF:iw r tb cap l.length g z V a)(h:bN W r tb cap l g z (.ok 0) {} aQ w)
 (hev:(Ev.ex (ll E l r tb cap g) 146 cB (kG z V) (.at0 0,({},aQ))).shape [2,5,8,9,10,11]=.go (aK dW cB) (oH z V++[some (.v (.int .i64 1))]) (.at0 0,({},aQ)))
 (hrest:∀(b:Act) (w':World),iw r tb cap l.length g z V b->bN W r tb cap l g z (.ok 0) {op:=j} aQ w'->qz.wp Tryz.prog (Qof Tryz.prog [.bl 0] K) b w'):cB.wp Tryz.prog K a w:=by
 refine Ev.bH (M:=ll E l r tb cap g) (S:=rdS l (paB W r tb cap l g z)) (n:=146) (K:=kG z V) (s:=(.at0 0,({},aQ))) [2,5,8,9,10,11] _ ((iG hR _).lit) ((bU jV).lit) pK hev (qL hF) ⟨hpos,h⟩ λb w2 hst hS=>?_
 obtain⟨hF2,Ay⟩:=lQ (ts:=[11]) (us:=[some (.v (.int .i64 1))]) hst
 show(Code.loop mR).wp Tryz.prog _ b w2
 refine NJ hR hpos hj0 hj hV hF2 Ay.cons.1 hS.2 λb3 w3 DL h3=>?_
 exact hrest b3 w3 DL h3
def yU (E:Ps.Env)(l:List Ps.Tok):ByteArray×Ps.St:=Ps.step (Ps.ref E l) ⟨#[]⟩ (.ok 1)
def opR (E:Ps.Env)(l:List Ps.Tok)(j:Int):Ps.Req:={op:=j,ref:=(yU E l).1,sender:=(byA E l (yU E l).2).1}
theorem Ee (j:Int):Ps.Res (Ps.bind' (Ps.ref E l) λx=>Ps.bind' (Ps.by_ E l) λs=>Ps.bO {op:=j,sender:=s,ref:=x}) (.ok 1) (byA E l (yU E l).2).2 (opR E l j):=
 Ps.Res.bind (Ps.Res.of_step (Ps.ref E l) ⟨#[]⟩ _) (Ps.Res.bind (zY E l _) (Ps.Res.pure _ _))
theorem pa_Or (hR:Rdr r tb cap l E)(hpos:0<l.length){V:ByteArray}{j:Nat}{a:Act}{K:Exit->Act->World->Prop}(hF:iw r tb cap l.length g z V a)(h:bN W r tb cap l g z (.ok 0) {op:=j} aQ w)
 (hev:(Ev.ex (ll E l r tb cap g) 146 qz (kG z V) (.at0 0,({op:=j},aQ))).shape [2,5,8,9,10]=.nx (oH z V) (.any (byA E l (yU E l).2).2,(opR E l j,aQ)))
 (hend:∀(b:Act) (w':World),nH r tb cap l.length g z b->bN W r tb cap l g z (byA E l (yU E l).2).2 (opR E l j) aQ w'->K .normal b w'):qz.wp Tryz.prog (Qof Tryz.prog [.bl 0] K) a w:=by
 refine Ev.bH (M:=ll E l r tb cap g) (S:=rdS l (paB W r tb cap l g z)) (n:=146) (K:=kG z V) (s:=(.at0 0,({op:=j},aQ))) [2,5,8,9,10] _ ((iG hR _).lit) ((bU jV).lit) pK hev (qL hF) ⟨hpos,h⟩ λb w2 hst hS=>?_
 exact hend b w2 (lQ (ts:=[]) (us:=[]) hst).1.tonH hS.2
theorem pa_Am (hR:Rdr r tb cap l E)(hpos:0<l.length){a:Act}{K:Exit->Act->World->Prop}(hF:iw r tb cap l.length g z (opW 1) a)(h:bN W r tb cap l g z (.ok 0) {op:=(1:Nat)} aQ w)
 (hC:∀st w,bN W r tb cap l g z st (opR E l 1) aQ w->Calls Tryz.prog 31 #[.pointer (some ⟨r,0,none⟩)] w (vo w r tb cap l E st))
 (hend:∀(b:Act) (w':World) (st':Ps.St) (m:Ps.Amd),nH r tb cap l.length g z b->bN W r tb cap l g z st' {opR E l 1 with amd:=m} aQ w'->Ps.Res (Ps.zx E l) (byA E l (yU E l).2).2 st' m->K .normal b w'):qz.wp Tryz.prog (Qof Tryz.prog [.bl 0] K) a w:=by
 refine Ev.bH (M:=ll E l r tb cap g) (S:=rdS l (paB W r tb cap l g z)) (n:=146) (K:=kG z (opW 1)) (s:=(.at0 0,({op:=(1:Nat)},aQ))) [2,5,8,9,10] (.go (aK (aM 35) qz) (oH z (opW 1)) (.any (byA E l (yU E l).2).2,(opR E l 1,aQ))) ((iG hR _).lit) ((bU jV).lit) pK (by kernel_rfl) (qL hF) ⟨hpos,h⟩ λb w2 hst hS=>?_
 refine pa_r35 (Q:=opR E l 1) (lQ (ts:=[]) (us:=[]) hst).1 hS.2 rfl (hC _ w2 hS.2) λb3 w3 st3 m DL h3 hres=>?_
 exact hend b3 w3 st3 m DL.tonH h3 hres
end
open Go.Proofs.YthijakidnkhbnaaGreatDoor.Ev (AV Mem Fr Sh Stop Qof aK aM dW fP gK fmC)
def xR (n:Nat)(Q:Ps.Req):Prop:=Ps.nR n Q.ins/\Q.sender.size<=1000000/\Q.ref.size<=1000000
theorem ba_eq {V x:ByteArray}(h:V.toList=x.toList):V=x:=by
 rw[Lib.toList_data,Lib.toList_data]at h
 exact ByteArray.ext (Array.ext' h)
theorem F6 {n:Nat}:Ps.nR n {}:=⟨Nat.zero_le _,Nat.zero_le _,Nat.zero_le _,Nat.zero_le _,Nat.zero_le _,λ_ h=>by cases h⟩
section
variable {W : World} {r tb cap : Nat} {l : List Ps.Tok} {g z : Nat} {w : World} {E : Ps.Env}
theorem sub_sm (hl:bF l){F:ByteArray->Ps.P Ps.Ins}(h:∀x:ByteArray,x.size<=1000000->Ps.ak (Ps.nR (l.length+1)) (F x)){st st':Ps.St}{i:Ps.Ins}(hr:Ps.Res (Ps.bind' (Ps.ref E l) F) st st' i)(b:Nat)(hb:st'=.ok b):xR (l.length+1) (Ps.rC i):=by
 subst hb
 have:=Ps.ak.res (Ps.ak.bind (Ps.gJ hl 2 _) h) hr
 exact⟨this,this.2.2.1,this.2.1⟩
theorem op_sm (hl:bF l)(j:Int)(b:Nat)(hb:(byA E l (yU E l).2).2=.ok b):xR (l.length+1) (opR E l j):=by
 have hr:=Ee (E:=E) (l:=l) j
 rw[hb]at hr
 exact Ps.ak.res (R:=xR (l.length+1)) (Ps.ak.bind (Ps.gJ hl 2 _) λx hx=>Ps.ak.bind (Ps.Km hl) λs hs=>Ps.ak.pure ⟨F6,hs,hx⟩) hr
theorem NI (hR:Rdr r tb cap l E)(hpos:0<l.length){V:ByteArray}{a:Act}{K:Exit->Act->World->Prop}(hF:iw r tb cap l.length g z V a)(h:bN W r tb cap l g z (.ok 0) {} aQ w)(hpk:(Ps.aW l 0).data.toList=V.toList)
 (hend:∀(b:Act) (w':World) (st':Ps.St) (Q:Ps.Req) (lv:Value),nH r tb cap l.length g z b->bN W r tb cap l g z st' Q lv w'->Ps.Fb E l st' Q->(∀b,st'=.ok b->xR (l.length+1) Q)->K .normal b w'):cB.wp Tryz.prog K a w:=by
 have hl:=hR.toks
 by_cases hv:V.toList∈Ps.verbs
 ·have ins:∀(x:ByteArray) (v:Ps.Bs) (F:ByteArray->Ps.P Ps.Ins),x.toList=v->V.toList=v->(Ev.ex (ll E l r tb cap g) 146 cB (kG z x) (.at0 0,({},aQ))).shape [2,5,8,9,10]=.go (aK (aM 19) cB) (oH z x) (.any (.ok 1),({},aQ))->
   (∀y a,Ps.df Ps.fin (Ps.rest E l v {ref:=y} a)=Ps.df Ps.rC (F y a))->(∀y:ByteArray,y.size<=1000000->Ps.ak (Ps.nR (l.length+1)) (F y))->(∀(w:World),ae w r tb cap l (.ok 1)->r<w.heap.size->tb<w.heap.size->Calls Tryz.prog 28 #[.pointer (some ⟨r,0,none⟩),.string x] w (dh (Ps.bind' (Ps.ref E l) F) w r tb cap l (.ok 1)))->cB.wp Tryz.prog K a w:=λx v F hx hx2 hev hc hs hC=>by
   have hVx:V=x:=ba_eq (hx2.trans hx.symm)
   subst hVx
   exact pa_I hR hpos hF h hev (λw hw=>hC w hw.rd (by have:=hw.size;have:=hw.hrg;omega) (by have:=hw.size;have:=hw.hrg;have:=hw.htr;omega)) λb w' st' i lv xe hA hres=>hend b w' st' _ lv xe hA (Ps.M6 (hpk.trans hx) (by rw[<-hx];exact hv) hc hres) (sub_sm hl hs hres)
  have ops:∀(j:Nat) (k:Int),1<=j->j<5->V=opW j->(∀k,1<=k->k<5->((opW j).toList==(opW k).toList)=decide (k=j))->(Ev.ex (ll E l r tb cap g) 146 cB (kG z (opW j)) (.at0 0,({},aQ))).shape [2,5,8,9,10,11]=.go (aK dW cB) (oH z (opW j)++[some (.v (.int .i64 1))]) (.at0 0,({},aQ))->(j:Int)=k->((opW j).toList=Ps.mh/\k=2\/(opW j).toList=Ps.fV/\k=3\/(opW j).toList=Ps.ou/\k=4)->
   (Ev.ex (ll E l r tb cap g) 146 qz (kG z (opW j)) (.at0 0,({op:=j},aQ))).shape [2,5,8,9,10]=.nx (oH z (opW j)) (.any (byA E l (yU E l).2).2,(opR E l j,aQ))->cB.wp Tryz.prog K a w:=λj k h1 h5 hx hV hev hjk hc hev2=>by
   subst hx
   subst hjk
   exact pa_O hR hpos h1 h5 hV hF h hev λb w' xe hA=>pa_Or hR hpos xe hA hev2 λb w' xe hA=>hend b w' _ _ aQ xe hA (Ps.CQ hpk hv (λx a=>Ps.Nc E l x _ j hc a) (Ee j)) (op_sm hl j)
  rcases wT hv with e|e|e|e|e|e|e|e|e
  ·exact ins ⟨#[112,97,121]⟩ _ (λx=>Ps.payment E l {ref:=x}) (by decide +kernel) e (by kernel_rfl) (λy a=>Ps.LD E l y a) (Ps.pay_sm hl) λw h1 h2 h3=>Cu w r tb cap l _ E hR h1 h2 h3
  ·exact ins ⟨#[100,101,108,105,118,101,114]⟩ _ (Ps.trade2 E l false) (by decide +kernel) e (by kernel_rfl) (λy a=>Ps.ui E l y _ false (.inl ⟨rfl,rfl⟩) a) (Ps.BU hl false) λw h1 h2 h3=>vw w r tb cap l _ E hR h1 h2 h3
  ·exact ins ⟨#[114,101,99,101,105,118,101]⟩ _ (Ps.trade2 E l true) (by decide +kernel) e (by kernel_rfl) (λy a=>Ps.ui E l y _ true (.inr ⟨rfl,rfl⟩) a) (Ps.BU hl true) λw h1 h2 h3=>vE w r tb cap l _ E hR h1 h2 h3
  ·exact ins ⟨#[112,108,101,100,103,101]⟩ _ (λx=>Ps.collateral E l 3 {ref:=x}) (by decide +kernel) e (by kernel_rfl) (λy a=>Ps.ww E l y _ 3 (.inl ⟨rfl,rfl⟩) a) (Ps.FI hl 3) λw h1 h2 h3=>wR w r tb cap l _ E hR h1 h2 h3
  ·exact ins ⟨#[114,101,108,101,97,115,101]⟩ _ (λx=>Ps.collateral E l 4 {ref:=x}) (by decide +kernel) e (by kernel_rfl) (λy a=>Ps.ww E l y _ 4 (.inr ⟨rfl,rfl⟩) a) (Ps.FI hl 4) λw h1 h2 h3=>tq w r tb cap l _ E hR h1 h2 h3
  ·have hx:V=opW 1:=ba_eq (e.trans (by decide +kernel))
   subst hx
   refine pa_O hR hpos (j:=1) (by decide) (by decide) (λk h1 h5=>?_) hF h (by kernel_rfl) λb w' xe hA=>pa_Am hR hpos xe hA (λst w hw=>BC w r tb cap l st E hR hw.rd (by have:=hw.size;have:=hw.hrg;omega) (by have:=hw.size;have:=hw.hrg;have:=hw.htr;omega)) λb w' st' m xe hA hres=>?_
   ·rcases(show k=1\/k=2\/k=3\/k=4 by omega)with rfl|rfl|rfl|rfl<;>decide +kernel
   ·have hr:Ps.Res (Ps.bind' (Ps.ref E l) λx=>Ps.bind' (Ps.by_ E l) λs=>Ps.bind' (Ps.zx E l) λm=>Ps.bO ({op:=1,sender:=s,ref:=x,amd:=m}:Ps.Req)) (.ok 1) st' {opR E l 1 with amd:=m}:=
     Ps.Res.bind (Ps.Res.of_step (Ps.ref E l) ⟨#[]⟩ _) (Ps.Res.bind (zY E l _) (Ps.Res.bind hres (Ps.Res.pure _ _)))
    refine hend b w' st' _ aQ xe hA (Ps.CQ hpk hv (v:=(opW 1).toList) (λx a=>?_) hr) λc hc=>?_
    ·rw[show(opW 1).toList=Ps.oQ from by decide +kernel]
     exact Ps.Cm E l x a
    ·subst hc
     exact Ps.ak.res (R:=xR (l.length+1)) (Ps.ak.bind (Ps.gJ hl 2 _) λx hx=>Ps.ak.bind (Ps.Km hl) λs hs=>Ps.ak.bind Ps.ak.any λm _=>Ps.ak.pure ⟨F6,hs,hx⟩) hr
  ·exact ops 2 2 (by decide) (by decide) (ba_eq (e.trans (by decide +kernel))) (λk h1 h5=>by rcases(show k=1\/k=2\/k=3\/k=4 by omega)with rfl|rfl|rfl|rfl<;>decide +kernel) (by kernel_rfl) rfl (.inl ⟨by decide +kernel,rfl⟩) (by kernel_rfl)
  ·exact ops 3 3 (by decide) (by decide) (ba_eq (e.trans (by decide +kernel))) (λk h1 h5=>by rcases(show k=1\/k=2\/k=3\/k=4 by omega)with rfl|rfl|rfl|rfl<;>decide +kernel) (by kernel_rfl) rfl (.inr (.inl ⟨by decide +kernel,rfl⟩)) (by kernel_rfl)
  ·exact ops 4 4 (by decide) (by decide) (ba_eq (e.trans (by decide +kernel))) (λk h1 h5=>by rcases(show k=1\/k=2\/k=3\/k=4 by omega)with rfl|rfl|rfl|rfl<;>decide +kernel) (by kernel_rfl) rfl (.inr (.inr ⟨by decide +kernel,rfl⟩)) (by kernel_rfl)
 ·refine OX hR hpos hF h hv λb w' xe hA=>?_
  have hm:Ps.oJ E l=(.error (Ps.aT l 0,30),{}):=by unfold Ps.oJ;rw[if_neg (by rw[hpk];exact hv)]
  exact hend b w' _ _ aQ xe hA ⟨{},by rw[hm],λb hb=>by cases hb⟩ (λb hb=>by cases hb)
end
theorem MJ (W:World)(r:Nat)(a:Option Addr)(cap:Nat)(hrow:W.heap[r]? =some (.cells #[.slice a 0 cap,.int .i64 0,.int .i64 0,.int .i64 0] 81 (0,0))):
 Calls Tryz.prog 27 #[.pointer (some ⟨r,0,none⟩)] W λe W'=>e=.returned (.bool true)/\Tch r r W W':=by
 have k0:W.cell? ⟨r,0,none⟩=some (.slice a 0 cap):=by rw[cell_of_row _ _ _ _ _ _ hrow];rfl
 have k1:W.cell? ⟨r,1,none⟩=some (.int .i64 0):=by rw[cell_of_row _ _ _ _ _ _ hrow];rfl
 have k2:W.cell? ⟨r,2,none⟩=some (.int .i64 0):=by rw[cell_of_row _ _ _ _ _ _ hrow];rfl
 have f2:=aJ 2 hrow
 have n0:(W.setCell ⟨r,2,none⟩ (.int .i64 4)).cell? ⟨r,0,none⟩=some (.slice a 0 cap):=by rw[cell_of_row _ _ _ _ _ _ (aN W r 2 _ _ _ hrow)];rfl
 have HR:=Lib.hid hrow
 clear hrow
 go_enter Tryz.func27,Tryz.ntmps27
 go_wp2_with fail
 go_quiet (fail)
 go_upto_region 5 with fail
 obtain⟨W1,hW1⟩:∃W1,W1=W.drewN nq:=⟨_,rfl⟩
 have HR1:Hid (W1.heap[r]? =some (.cells #[.slice a 0 cap,.int .i64 0,.int .i64 0,.int .i64 0] 81 (0,0))):=Lib.hid (by rw[hW1];exact HR.out)
 have HT1:Hid (Tch r r W W1):=Lib.hid (by rw[hW1];exact Tch.drewN _ _ _ _)
 rw[<-hW1]
 clear hW1 k0 k1 k2 f2 n0
 have k0:W1.cell? ⟨r,0,none⟩=some (.slice a 0 cap):=by rw[cell_of_row _ _ _ _ _ _ HR1.out];rfl
 have k1:W1.cell? ⟨r,1,none⟩=some (.int .i64 0):=by rw[cell_of_row _ _ _ _ _ _ HR1.out];rfl
 have k2:W1.cell? ⟨r,2,none⟩=some (.int .i64 0):=by rw[cell_of_row _ _ _ _ _ _ HR1.out];rfl
 have f2:=aJ 2 HR1.out
 have n0:(W1.setCell ⟨r,2,none⟩ (.int .i64 4)).cell? ⟨r,0,none⟩=some (.slice a 0 cap):=by rw[cell_of_row _ _ _ _ _ _ (aN W1 r 2 _ _ _ HR1.out)];rfl
 go_wp2_with fail
 go_ret
 exact⟨rfl,HT1.out.setCell 2 _⟩
theorem ent15:∀args w,(callFunc 15 args).run Tryz.prog w=.ok (.enter 15 args) w:=enters_of Tryz.func15 (by kernel_rfl) rfl
structure P0 (W:World)(z:Nat)(v:Value)(l:List Ps.Tok)(w:World):Prop where
 bel:Below W.heap.size W w
 zero:w.heap[z]? =some (.cells (aA {} aQ) 38 (0,0))
 tok:w.ownsRow (z+1) 53 3 v l.length (Lx.bW l)
 hz:z=W.heap.size
section
variable {W : World} {z : Nat} {v : Value} {l : List Ps.Tok} {w w' : World}
theorem P0.below (h:P0 W z v l w)(hb:Below w.heap.size w w'):P0 W z v l w':=
 ⟨h.bel.trans (hb.mono h.bel.size),(hb.block z (Array.getElem?_eq_some_iff.1 h.zero).1).trans h.zero,bP h.tok λj hj=>hb.block j (h.tok.lt j hj).2,h.hz⟩
theorem MB {a:Act}{o x:Int}(h0:w.heap[z]? =some (.cells (aA {} aQ) 38 (0,0)))(hb:Below W.heap.size W w)(hz:z=W.heap.size)(hd:a.defers=[])(h2:a.tmps[2]? =some (.pointer (some ⟨z,0,none⟩)))(h3:a.eval (.tmp 3)=.int .i64 o)(h4:a.eval (.tmp 4)=.int .i64 x):
 bodyPost Tryz.prog Tryz.f10 (di W ({},o,x)) .ret a (w.setRow z (aA {} aQ)):=by
 refine bodyPost_ret (xW _ rfl h2 h3 h4 (setRow_heap w z _ _ _ _ h0)) hd ⟨aQ,rfl,World.ownsRow_nil _ _ _ _,?_⟩
 exact⟨hb.os,hb.tape,hb.output,by rw[setRow_size];exact hb.size,λj hj=>(setRow_other w z j _ (by omega)).trans (hb.block j hj)⟩
end
section
variable {W : World} {r tb cap : Nat} {l : List Ps.Tok} {g z : Nat} {st : Ps.St} {Q : Ps.Req} {lv : Value} {w : World}
theorem pa_chk (h:bN W r tb cap l g z st Q lv w)(hQ:xR (l.length+1) Q):Calls Tryz.prog 13 #[.agg (aA Q lv)] w λe w'=>e=.returned (.int .i64 (psR Q))/\Below w.heap.size w w':=by
 have bE:l.length<=1000000:=by obtain⟨_,_,_,_,_,_,_,_,h,_⟩:=h.rd;exact h
 obtain⟨⟨h0,h1,h2,h3,h4,h5⟩,h6,h7⟩:=hQ
 have sz:∀s:ByteArray,s.size<=1000000->Sz s:=λs hs=>by unfold Sz;omega
 have hlk:=h.lk
 obtain⟨sa,sc,rfl⟩:∃sa sc,lv=.slice sa Q.ins.links.length sc:=by
  rcases hlk.2 with⟨e0,n0⟩|⟨g,cap,cur,e0,-⟩
  ·exact⟨none,0,by rw[e0,n0]⟩
  ·exact⟨_,_,e0⟩
 exact rk_req w Q sa _ sc (by omega) ⟨sz _ h1,sz _ h2,sz _ h3,sz _ h4,λx hx=>sz _ (h5 x hx)⟩ (sz _ h6) (sz _ h7) rfl λhn=>xg hlk hn
end
theorem KN (s:ByteArray)(W:World)(hs:s.size<=9223372036854775807):Calls Tryz.prog 10 #[.string s] W (di W (Ps.parse az psR s)):=by
 obtain⟨z,hz⟩:∃z,z=W.heap.size:=⟨_,rfl⟩
 obtain⟨P,hP⟩:∃P,P=Ps.parse az psR s:=⟨_,rfl⟩
 rw[<-hP]
 have HP:=Lib.hid hP
 clear hP
 have hb0:Below W.heap.size W (W.alloc (.cells (aA {} aQ) 38)):=(Below.refl _ _).alloc (Nat.le_refl _) _
 have h0:(W.alloc (.cells (aA {} aQ) 38)).heap[z]? =some (.cells (aA {} aQ) 38 (0,0)):=by rw[hz];exact aD W _
 have HT:=Lib.hid (IX s (W.alloc (.cells (aA {} aQ) 38)) hs)
 have HB0:=Lib.hid hb0
 have H0:=Lib.hid h0
 clear hb0 h0
 go_enter Tryz.func10,Tryz.ntmps10
 refine wp_seq ?_
 refine wp_region_lit ?_
 refine wpList_plain rfl (λK hK=>?_)
 go_simp
 refine hK _ _ ?_
 clear hK K
 refine af rfl rfl (u:=.int .i64 0) rfl ?_
 refine af rfl rfl (u:=.int .i64 0) rfl ?_
 refine aL ?_
 simp only[Exit.then]
 refine mM (w':=W.alloc (.cells (aA {} aQ) 38)) rfl (by kernel_rfl) λa ha hdf=>?_
 have hsz:a.tmps.size=146:=by rw[ha];rfl
 have hf0:a.tmps[0]? =some (.string s):=by rw[ha];rfl
 have hf2:a.tmps[2]? =some (.pointer (some ⟨z,0,none⟩)):=by rw[ha,hz];rfl
 clear ha
 refine wp_seq ?_
 refine wp_region_lit ?_
 refine af rfl rfl (u:=.string s) (by unfold execOp;simp only[eval_at hf0];rfl) ?_
 refine jN rfl rfl _ _ _ rfl ent15 #[.string s] ?_ (HT.out.mono ?_)
 ·simp only[List.map_toArray,List.map_cons,List.map_nil]
  rw[eval_at (t:=14) (v:=.string s) (by simp[hsz])]
 rintro e w1 ⟨v,rfl,htk,hb1⟩
 refine⟨_,rfl,?_⟩
 obtain⟨l,hl⟩:∃l,l=(Lx.aO s).1:=⟨_,rfl⟩
 obtain⟨o,ho⟩:∃o,o=(Lx.aO s).2.1:=⟨_,rfl⟩
 obtain⟨x,hx⟩:∃x,x=(Lx.aO s).2.2:=⟨_,rfl⟩
 rw[<-hl]at htk
 rw[<-ho,<-hx]
 have hsz0:(W.alloc (.cells (aA {} aQ) 38)).heap.size=z+1:=by rw[hz];simp
 rw[hsz0]at htk
 have hA:P0 W z v l w1:=⟨HB0.out.trans (hb1.mono HB0.out.size),(hb1.block z (by omega)).trans H0.out,htk,hz⟩
 obtain⟨va,vc,rfl,HV⟩:∃va vc,v=.slice va l.length vc/\(0<l.length->∃tb,va=some ⟨tb,0,none⟩/\z+1<=tb/\l.length<=vc):=by
  rcases htk.2 with h|⟨g,cap,cur,h1,h2,-,h3,-⟩
  ·exact⟨none,0,by rw[h.1,h.2],λh0=>by omega⟩
  ·exact⟨_,cap,h1,λ_=>⟨g,rfl,h2,h3⟩⟩
 clear htk hb1 hsz0 HT H0 HB0
 refine af rfl rfl (u:=.tuple #[.slice va l.length vc,.int .i64 o,.int .i64 x]) (by unfold execOp;simp[Act.eval,Array.getElem?_setIfInBounds,hsz]) ?_
 refine af rfl rfl (u:=.slice va l.length vc) (by unfold execOp;simp[Act.eval,Array.getElem?_setIfInBounds,hsz,Instr.extract]) ?_
 refine af rfl rfl (u:=.int .i64 o) (by unfold execOp;simp[Act.eval,Array.getElem?_setIfInBounds,hsz,Instr.extract]) ?_
 refine af rfl rfl (u:=.int .i64 x) (by unfold execOp;simp[Act.eval,Array.getElem?_setIfInBounds,hsz,Instr.extract]) ?_
 refine af rfl rfl (u:=.slice va l.length vc) (by unfold execOp;simp[Act.eval,Array.getElem?_setIfInBounds,hsz]) ?_
 refine af rfl rfl (u:=.int .i64 o) (by unfold execOp;simp[Act.eval,Array.getElem?_setIfInBounds,hsz]) ?_
 refine af rfl rfl (u:=.int .i64 x) (by unfold execOp;simp[Act.eval,Array.getElem?_setIfInBounds,hsz]) ?_
 refine aL ?_
 simp only[Exit.then]
 suffices key:∀b:Act,b.tmps.size=146->b.defers=[]->b.tmps[2]? =some (.pointer (some ⟨z,0,none⟩))->b.tmps[5]? =some (.slice va l.length vc)->b.tmps[6]? =some (.int .i64 o)->b.tmps[7]? =some (.int .i64 x)->(nG 2 (Tryz.f10.body.getD .skip)).wp Tryz.prog (bodyPost Tryz.prog Tryz.f10 (di W P)) b w1 from
  key _ (by simp[hsz]) hdf (by simp[Array.getElem?_setIfInBounds];exact hf2) (by simp[Array.getElem?_setIfInBounds,hsz]) (by simp[Array.getElem?_setIfInBounds,hsz]) (by simp[Array.getElem?_setIfInBounds,hsz])
 clear hf0 hf2 hdf hsz a
 intro b hsz hdf hf2 dm JU OV
 show(Code.seq (JH (nG 2 (Tryz.f10.body.getD .skip))) (nG 3 (Tryz.f10.body.getD .skip))).wp Tryz.prog _ b w1
 refine wp_seq ?_
 show(Code.seq (Code.region _ _ false) (Code.cond (.tmp 20) (.seq (Code.region _ _ false) .ret) .skip)).wp Tryz.prog _ b w1
 refine wp_seq ?_
 refine wp_region_lit ?_
 refine af rfl rfl (u:=.int .i64 x) (by unfold execOp;simp only[eval_at OV];rfl) ?_
 refine af rfl rfl (u:=.bool (x !=0)) (by
  have e1:(⟨b.tmps.setIfInBounds 19 (.int .i64 x),b.defers⟩:Act).eval (.tmp 19)=.int .i64 x:=eval_at (by simp[hsz])
  unfold execOp
  simp only[e1]
  clear e1
  go_simp
  first|done|rfl) ?_
 refine aL ?_
 simp only[Exit.then]
 suffices key:∀b:Act,b.tmps.size=146->b.defers=[]->b.tmps[2]? =some (.pointer (some ⟨z,0,none⟩))->b.tmps[5]? =some (.slice va l.length vc)->b.tmps[6]? =some (.int .i64 o)->b.tmps[7]? =some (.int .i64 x)->b.tmps[20]? =some (.bool (x !=0))->(Code.cond (.tmp 20) (.seq (Code.region 3 (gK (aK (aM 3) (Tryz.f10.body.getD .skip)).1) false) .ret) .skip).wp Tryz.prog (Exit.then ((nG 3 (Tryz.f10.body.getD .skip)).wp Tryz.prog (bodyPost Tryz.prog Tryz.f10 (di W P))) (bodyPost Tryz.prog Tryz.f10 (di W P))) b w1 from
  key _ (by simp[hsz]) hdf (by simp[Array.getElem?_setIfInBounds];exact hf2) (by simp[Array.getElem?_setIfInBounds];exact dm) (by simp[Array.getElem?_setIfInBounds];exact JU) (by simp[Array.getElem?_setIfInBounds];exact OV) (by simp[Array.getElem?_setIfInBounds,hsz])
 clear hf2 dm JU OV hdf hsz b
 intro b hsz hdf hf2 dm JU OV hf20
 refine wp_cond_split (eval_at hf20) (λhb=>?_) (λhb=>?_)
 ·have hx0:x≠0:=by simpa using hb
  have hPe:P=({},o,x):=by
   rw[HP.out]
   unfold Ps.parse
   rw[if_pos (by rw[<-hx];exact hx0),<-ho,<-hx]
  refine wp_seq ?_
  show(Code.region _ _ false).wp Tryz.prog _ b w1
  refine wp_region_lit ?_
  refine lC rfl rfl rfl (u:=.agg (aA {} aQ)) (Aq _ _) ?_
  refine af rfl rfl (u:=.int .i64 o) (by unfold execOp;simp only[eval_at (b:=⟨b.tmps.setIfInBounds 21 (.agg (aA {} aQ)),b.defers⟩) (t:=6) (v:=.int .i64 o) (by simp[Array.getElem?_setIfInBounds];exact JU)];rfl) ?_
  refine af rfl rfl (u:=.int .i64 x) (by unfold execOp;simp only[eval_at (b:=⟨(b.tmps.setIfInBounds 21 (.agg (aA {} aQ))).setIfInBounds 22 (.int .i64 o),b.defers⟩) (t:=7) (v:=.int .i64 x) (by simp[Array.getElem?_setIfInBounds];exact OV)];rfl) ?_
  refine jT (w':=w1.setRow z (aA {} aQ)) rfl rfl (by
   have e1:(⟨((b.tmps.setIfInBounds 21 (.agg (aA {} aQ))).setIfInBounds 22 (.int .i64 o)).setIfInBounds 23 (.int .i64 x),b.defers⟩:Act).eval (.tmp 2)=.pointer (some ⟨z,0,none⟩):=eval_at (by simp[Array.getElem?_setIfInBounds];exact hf2)
   have e2:(⟨((b.tmps.setIfInBounds 21 (.agg (aA {} aQ))).setIfInBounds 22 (.int .i64 o)).setIfInBounds 23 (.int .i64 x),b.defers⟩:Act).eval (.tmp 21)=.agg (aA {} aQ):=eval_at (by simp[Array.getElem?_setIfInBounds,hsz])
   unfold execOp
   simp only[e1,e2,Sem.run_bind,Hd w1 z {} {} aQ aQ hA.zero rfl]
   rfl) ?_
  refine af rfl rfl (u:=.int .i64 o) (by unfold execOp;simp only[eval_at (b:=⟨((b.tmps.setIfInBounds 21 (.agg (aA {} aQ))).setIfInBounds 22 (.int .i64 o)).setIfInBounds 23 (.int .i64 x),b.defers⟩) (t:=22) (v:=.int .i64 o) (by simp[Array.getElem?_setIfInBounds,hsz])];rfl) ?_
  refine af rfl rfl (u:=.int .i64 x) (by unfold execOp;simp only[eval_at (b:=⟨(((b.tmps.setIfInBounds 21 (.agg (aA {} aQ))).setIfInBounds 22 (.int .i64 o)).setIfInBounds 23 (.int .i64 x)).setIfInBounds 3 (.int .i64 o),b.defers⟩) (t:=23) (v:=.int .i64 x) (by simp[Array.getElem?_setIfInBounds,hsz])];rfl) ?_
  refine aL ?_
  simp only[Exit.then]
  refine wp_ret ?_
  rw[hPe]
  exact MB hA.zero hA.bel hz hdf (by simp[Array.getElem?_setIfInBounds];exact hf2) (eval_at (by simp[Array.getElem?_setIfInBounds,hsz])) (eval_at (by simp[Array.getElem?_setIfInBounds,hsz]))
 have hx0:x=0:=by simpa using hb
 refine wp_skip ?_
 simp only[Exit.then]
 clear hf20 hb JU OV
 obtain⟨r,hr⟩:∃r,r=w1.heap.size:=⟨_,rfl⟩
 obtain⟨rc,hrc⟩:∃rc:Array Value,rc=#[.slice va l.length vc,.int .i64 0,.int .i64 0,.int .i64 0]:=⟨_,rfl⟩
 show(Code.seq (Code.region 4 _ false) (Code.seq (Code.region 5 _ false) (nG 5 (Tryz.f10.body.getD .skip)))).wp Tryz.prog _ b w1
 refine wp_seq ?_
 refine wp_region_lit ?_
 refine af rfl rfl (u:=.slice va l.length vc) (by unfold execOp;simp only[eval_at dm];rfl) ?_
 refine lC rfl rfl rfl (u:=.agg rc) (by
  simp only[List.map_toArray,List.map_cons,List.map_nil]
  rw[eval_at (b:=⟨b.tmps.setIfInBounds 24 (.slice va l.length vc),b.defers⟩) (t:=24) (v:=.slice va l.length vc) (by simp[hsz]),hrc]
  go_simp
  first|done|rfl) ?_
 refine wpList_plain rfl λK hK=>?_
 unfold Oper.wp
 rw[show(execOp (⟨(b.tmps.setIfInBounds 24 (.slice va l.length vc)).setIfInBounds 25 (.agg rc),b.defers⟩:Act).eval _).run Tryz.prog w1=.ok (.value (.pointer (some ⟨w1.heap.size,0,none⟩))) (w1.alloc (.cells rc 81))from by
  have e1:(⟨(b.tmps.setIfInBounds 24 (.slice va l.length vc)).setIfInBounds 25 (.agg rc),b.defers⟩:Act).eval (.tmp 25)=.agg rc:=eval_at (by simp[hsz])
  unfold execOp
  simp only[e1]
  clear e1
  rw[hrc]
  go_simp
  first|done|rfl]
 refine hK _ _ ?_
 clear hK K
 show wpList Tryz.prog _ _ _ ⟨((b.tmps.setIfInBounds 24 (.slice va l.length vc)).setIfInBounds 25 (.agg rc)).setIfInBounds 26 (.pointer (some ⟨w1.heap.size,0,none⟩)),b.defers⟩ _
 rw[<-hr]
 refine af rfl rfl (u:=.pointer (some ⟨r,0,none⟩)) (by
  have e1:(⟨((b.tmps.setIfInBounds 24 (.slice va l.length vc)).setIfInBounds 25 (.agg rc)).setIfInBounds 26 (.pointer (some ⟨r,0,none⟩)),b.defers⟩:Act).eval (.tmp 26)=.pointer (some ⟨r,0,none⟩):=eval_at (by simp[hsz])
  unfold execOp;simp only[e1];rfl) ?_
 refine aL ?_
 simp only[Exit.then]
 suffices key:∀b:Act,b.tmps.size=146->b.defers=[]->b.tmps[2]? =some (.pointer (some ⟨z,0,none⟩))->b.tmps[5]? =some (.slice va l.length vc)->b.tmps[8]? =some (.pointer (some ⟨r,0,none⟩))->(Code.seq (Code.region 5 (gK (aK (aM 5) (Tryz.f10.body.getD .skip)).1) false) (nG 5 (Tryz.f10.body.getD .skip))).wp Tryz.prog (bodyPost Tryz.prog Tryz.f10 (di W P)) b (w1.alloc (.cells rc 81))from
  key _ (by simp[hsz]) hdf (by simp[Array.getElem?_setIfInBounds];exact hf2) (by simp[Array.getElem?_setIfInBounds];exact dm) (by simp[Array.getElem?_setIfInBounds,hsz])
 clear hf2 dm hdf hsz b
 intro b hsz hdf hf2 dm Mh
 obtain⟨w2,hw2⟩:∃w2,w2=w1.alloc (.cells rc 81):=⟨_,rfl⟩
 have hs2:w2.heap.size=r+1:=by rw[hw2,hr];simp
 have hb2:Below w1.heap.size w1 w2:=by rw[hw2];exact(Below.refl _ _).alloc (Nat.le_refl _) _
 have hrow2:w2.heap[r]? =some (.cells rc 81 (0,0)):=by rw[hw2,hr];exact aD w1 _
 rw[<-hw2]
 have hA2:=hA.below hb2
 clear hw2
 obtain⟨g,hg⟩:∃g,g=w2.heap.size:=⟨_,rfl⟩
 refine wp_seq ?_
 show(Code.region 5 _ false).wp Tryz.prog _ b w2
 refine wp_region_lit ?_
 refine lC rfl rfl rfl (u:=.agg (aA {} aQ)) (Aq _ _) ?_
 refine wpList_plain rfl λK hK=>?_
 unfold Oper.wp
 rw[show(execOp (⟨b.tmps.setIfInBounds 27 (.agg (aA {} aQ)),b.defers⟩:Act).eval _).run Tryz.prog w2=.ok (.value (.pointer (some ⟨w2.heap.size,0,none⟩))) (w2.alloc (.cells (aA {} aQ) 38))from by
  unfold execOp aA aB aG
  go_simp
  first|done|rfl]
 refine hK _ _ ?_
 clear hK K
 show wpList Tryz.prog _ _ _ ⟨(b.tmps.setIfInBounds 27 (.agg (aA {} aQ))).setIfInBounds 9 (.pointer (some ⟨w2.heap.size,0,none⟩)),b.defers⟩ _
 rw[<-hg]
 have hb3:Below w2.heap.size w2 (w2.alloc (.cells (aA {} aQ) 38)):=(Below.refl _ _).alloc (Nat.le_refl _) _
 have hrow3:(w2.alloc (.cells (aA {} aQ) 38)).heap[g]? =some (.cells (aA {} aQ) 38 (0,0)):=by rw[hg];exact aD w2 _
 refine jT (w':=(w2.alloc (.cells (aA {} aQ) 38)).setRow g (aA {} aQ)) rfl rfl (by
  have e1:(⟨(b.tmps.setIfInBounds 27 (.agg (aA {} aQ))).setIfInBounds 9 (.pointer (some ⟨g,0,none⟩)),b.defers⟩:Act).eval (.tmp 9)=.pointer (some ⟨g,0,none⟩):=eval_at (by simp[hsz])
  have e2:(⟨(b.tmps.setIfInBounds 27 (.agg (aA {} aQ))).setIfInBounds 9 (.pointer (some ⟨g,0,none⟩)),b.defers⟩:Act).eval (.tmp 27)=.agg (aA {} aQ):=eval_at (by simp[Array.getElem?_setIfInBounds,hsz])
  unfold execOp
  simp only[e1,e2,Sem.run_bind,Hd _ g {} {} aQ aQ hrow3 rfl]
  rfl) ?_
 rw[setRow_self _ g _ _ (0,0) hrow3]
 refine aL ?_
 simp only[Exit.then]
 obtain⟨w3,hw3⟩:∃w3,w3=w2.alloc (.cells (aA {} aQ) 38):=⟨_,rfl⟩
 rw[<-hw3]at hb3 hrow3⊢
 clear hw3
 have hA3:=hA2.below hb3
 have LG:w3.heap[r]? =some (.cells rc 81 (0,0)):=(hb3.block r (by omega)).trans hrow2
 have hgr:g=r+1:=by omega
 have hzr:z<r:=by have:=hA.bel.size;have:=(Array.getElem?_eq_some_iff.1 hA.zero).1;omega
 have htr:∀b,(Value.slice va l.length vc).ownBlock=some b->b<r:=λb hb=>by rw[hr];exact(hA.tok.lt b hb).2
 clear hb2 hb3 hA hA2 hrow2 hs2 hg
 suffices key:∀b:Act,b.tmps.size=146->b.defers=[]->b.tmps[2]? =some (.pointer (some ⟨z,0,none⟩))->b.tmps[5]? =some (.slice va l.length vc)->b.tmps[8]? =some (.pointer (some ⟨r,0,none⟩))->b.tmps[9]? =some (.pointer (some ⟨g,0,none⟩))->(nG 5 (Tryz.f10.body.getD .skip)).wp Tryz.prog (bodyPost Tryz.prog Tryz.f10 (di W P)) b w3 from
  key _ (by simp[hsz]) hdf (by simp[Array.getElem?_setIfInBounds];exact hf2) (by simp[Array.getElem?_setIfInBounds];exact dm) (by simp[Array.getElem?_setIfInBounds];exact Mh) (by simp[Array.getElem?_setIfInBounds,hsz])
 clear hf2 dm Mh hdf hsz b
 intro b hsz hdf hf2 dm Mh hf9
 show(Code.seq (Code.seq (Code.region 6 _ false) (Code.cond (.tmp 29) (.seq (Code.region 7 (gK (aK (aM 7) (Tryz.f10.body.getD .skip)).1) false) .ret) .skip)) (nG 6 (Tryz.f10.body.getD .skip))).wp Tryz.prog _ b w3
 refine wp_seq (wp_seq ?_)
 refine wp_region_lit ?_
 refine af rfl rfl (u:=.pointer (some ⟨r,0,none⟩)) (by unfold execOp;simp only[eval_at Mh];rfl) ?_
 have htin:=Lx.rR s
 rw[<-hl]at htin
 have hargs:((#[Operand.tmp 28]:Array Operand).map (⟨b.tmps.setIfInBounds 28 (.pointer (some ⟨r,0,none⟩)),b.defers⟩:Act).eval)=#[.pointer (some ⟨r,0,none⟩)]:=by
  simp only[List.map_toArray,List.map_cons,List.map_nil]
  rw[eval_at (t:=28) (v:=.pointer (some ⟨r,0,none⟩)) (by simp[hsz])]
 have hset:∀(t:Nat) (u u':Value),t<20->((b.tmps.setIfInBounds 28 u).setIfInBounds 29 u')[t]? =b.tmps[t]?:=λt u u' ht=>by
  rw[Array.getElem?_setIfInBounds_ne (by omega),Array.getElem?_setIfInBounds_ne (by omega)]
 by_cases hpos:0<l.length
 ·
  have hne:l≠[]:=λh=>by rw[h]at hpos;exact absurd hpos (by decide)
  obtain⟨tb,rfl,htz,hcap⟩:=HV hpos
  have htr':tb<r:=htr tb rfl
  have hold:fH w3 tb l:=by
   rcases oz hA3.tok with⟨_,h0⟩|⟨tb',cap',hv,_,_,hold⟩
   ·exact absurd h0 hne
   ·cases hv;exact hold
  have hto:bF l:=λt ht=>by obtain⟨a,b,_⟩:=htin.2 t ht;exact⟨by omega,by omega⟩
  have hR:Rdr r tb vc l az:=rdr_of hto λt ht=>by
   obtain⟨-,-,y,rfl,h1,h2⟩:=htin.2 t ht
   rw[h2,<-h1]
  have hrd:ae w3 r tb vc l (.ok 0):=⟨0,0,0,by rw[hrc]at LG;exact LG,hold,by omega,hpos,hcap,by omega,rfl,rfl,by omega⟩
  have hPA:bN W r tb vc l g z (.ok 0) {} aQ w3:=⟨hrd,hrow3,hA3.zero,hA3.bel,World.ownsRow_nil _ _ _ _,by omega,by omega,htr',by omega⟩
  refine jN rfl rfl _ _ _ rfl KS _ hargs ((oV hrd hto).mono ?_)
  rintro e w4 ⟨rfl,h1,h2⟩
  rw[show Ps.bJ l (.ok 0)=.ok 0 from by simp[Ps.bJ,hpos]]at h1
  rw[show Ps.bA l (.ok 0)=true from by simp[Ps.bA,hpos]]
  have hPA4:=hPA.reader h1 h2
  refine⟨_,rfl,?_⟩
  refine aL ?_
  simp only[Exit.then]
  refine wp_cond_false (eval_at (by simp[Array.getElem?_setIfInBounds,hsz])) ?_
  refine wp_skip ?_
  simp only[Exit.then]
  suffices key:∀b:Act,nH r tb vc l.length g z b->(nG 6 (Tryz.f10.body.getD .skip)).wp Tryz.prog (bodyPost Tryz.prog Tryz.f10 (di W P)) b w4 from
   key _ ⟨by simp[hsz],hdf,(hset 2 _ _ (by decide)).trans hf2,(hset 5 _ _ (by decide)).trans dm,(hset 8 _ _ (by decide)).trans Mh,(hset 9 _ _ (by decide)).trans hf9⟩
  clear hset hargs hsz hdf hf2 dm Mh hf9 h1 h2 hPA hrd hold LG hrow3 hA3 hrc rc hr htr HV b w3 w2
  intro b hF
  obtain⟨y,hy⟩:∃y,l[0]? =some y:=⟨_,List.getElem?_eq_getElem hpos⟩
  obtain⟨av,ev,ov,hN,Gx⟩:=N7 hPA4
  obtain⟨V,hVe⟩:∃V,V=Ps.aW l 0:=⟨_,rfl⟩
  show(Code.seq (Code.region 8 _ false) (Code.seq (JH (nG 7 (Tryz.f10.body.getD .skip))) (Code.seq cB oF))).wp Tryz.prog _ b w4
  have PV:∀(b:Act) (w':World),iw r tb vc l.length g z V b->bN W r tb vc l g z (.ok 0) {} aQ w'->(Code.seq cB oF).wp Tryz.prog (bodyPost Tryz.prog Tryz.f10 (di W P)) b w':=λb w' xe hA=>by
   refine wp_seq (NI hR hpos xe hA (by rw[Lib.toList_data,hVe]) λb2 w5 st Q lv hF2 hA2 hmid hsm=>?_)
   simp only[Exit.then]
   refine NQ hto hA2 hF2 (psR Q) (λc hc w hw=>pa_chk hw (hsm c hc)) ?_
   rw[HP.out]
   exact Ps.Gj hl.symm (by rw[<-hx];exact hx0) hpos hmid
  refine wp_seq ?_
  refine wp_region_lit ?_
  refine af rfl rfl (u:=.string ⟨#[]⟩) rfl ?_
  refine aL ?_
  simp only[Exit.then]
  suffices key:∀b:Act,iw r tb vc l.length g z ⟨#[]⟩ b->(Code.seq (JH (nG 7 (Tryz.f10.body.getD .skip))) (Code.seq cB oF)).wp Tryz.prog (bodyPost Tryz.prog Tryz.f10 (di W P)) b w4 from
   key _ ⟨⟨by simp[hF.size],hF.defers,by simp[Array.getElem?_setIfInBounds];exact hF.t2,by simp[Array.getElem?_setIfInBounds];exact hF.t5,by simp[Array.getElem?_setIfInBounds];exact hF.t8,by simp[Array.getElem?_setIfInBounds];exact hF.t9⟩,by simp[Array.getElem?_setIfInBounds,hF.size]⟩
  clear hF b
  intro b hF
  refine wp_seq ?_
  refine Ev.jA (M:=paM r tb vc l.length g av ev ov (aA {} aQ).toList y.1 y.2.1 (Ps.aT l 0) none) (S:=λ_ w=>PaN W r tb vc l g z (.ok 0) {} aQ av ev ov w) (n:=146) (K:=(10,.v (.string ⟨#[]⟩))::paK z) (s:=()) [2,5,8,9,10] (.ite (y.1==0) (.nx (paU z++[some (.r 2 1)]) ()) (.nx (paU z++[some (.v (.string ⟨#[]⟩))]) ())) (zB hy none (λ_ h=>by cases h)) (λ_ w h=>h.drew) (by kernel_rfl) (Ev.aC (Eb hF.tonH) hF.t10) hN ⟨λhc b2 w2 hst hS=>?_,λhc b2 w2 hst hS=>?_⟩
  all_goals
   have h1:=hst.cons
   have h2:=h1.2.cons
   have h3:=h2.2.cons
   have h4:=h3.2.cons
   have h5:=h4.2.cons
   simp only[Exit.then]
  ·refine PV b2 w2 ⟨⟨hst.1,hst.2.1,h1.1,h2.1,h3.1,h4.1⟩,?_⟩ hS.1
   have h6:b2.tmps[10]? =some (.string y.2.1):=h5.1
   rw[h6,hVe]
   unfold Ps.aW
   rw[hy]
   simp[beq_iff_eq.1 hc]
  ·refine PV b2 w2 ⟨⟨hst.1,hst.2.1,h1.1,h2.1,h3.1,h4.1⟩,?_⟩ hS.1
   have h6:b2.tmps[10]? =some (.string ⟨#[]⟩):=h5.1
   rw[h6,hVe]
   unfold Ps.aW
   rw[hy]
   simp[beq_eq_false_iff_ne.1 hc]
 ·
  have hl0:l.length=0:=by omega
  have hln:l=[]:=List.length_eq_zero_iff.1 hl0
  have hPe:P=({},0,4):=by
   rw[HP.out]
   unfold Ps.parse
   rw[if_neg (by rw[<-hx,hx0];simp),<-hl,hln]
   rfl
  rw[hl0]at hrc
  rw[hrc]at LG
  refine jN rfl rfl _ _ _ rfl KS _ hargs ((MJ w3 r va vc LG).mono ?_)
  rintro e w4 ⟨rfl,h2⟩
  refine⟨_,rfl,?_⟩
  refine aL ?_
  simp only[Exit.then]
  refine wp_cond_true (eval_at (by simp[Array.getElem?_setIfInBounds,hsz])) ?_
  have hzz:z<w3.heap.size:=(Array.getElem?_eq_some_iff.1 hA3.zero).1
  have hz4:w4.heap[z]? =some (.cells (aA {} aQ) 38 (0,0)):=(h2.block z hzz (by omega) (by omega)).trans hA3.zero
  have hb4:Below W.heap.size W w4:=⟨h2.os.trans hA3.bel.os,h2.tape.trans hA3.bel.tape,h2.output.trans hA3.bel.output,Nat.le_trans hA3.bel.size h2.size,λj hj=>(h2.block j (by omega) (by omega) (by omega)).trans (hA3.bel.block j hj)⟩
  suffices key:∀b:Act,b.tmps.size=146->b.defers=[]->b.tmps[2]? =some (.pointer (some ⟨z,0,none⟩))->(Code.seq (Code.region 7 (gK (aK (aM 7) (Tryz.f10.body.getD .skip)).1) false) .ret).wp Tryz.prog (Exit.then ((nG 6 (Tryz.f10.body.getD .skip)).wp Tryz.prog (bodyPost Tryz.prog Tryz.f10 (di W P))) (bodyPost Tryz.prog Tryz.f10 (di W P))) b w4 from
   key _ (by simp[hsz]) hdf ((hset 2 _ _ (by decide)).trans hf2)
  clear hset hargs hsz hdf hf2 dm Mh hf9 b
  intro b hsz hdf hf2
  refine wp_seq ?_
  show(Code.region _ _ false).wp Tryz.prog _ b w4
  refine wp_region_lit ?_
  refine lC rfl rfl rfl (u:=.agg (aA {} aQ)) (Aq _ _) ?_
  refine jT (w':=w4.setRow z (aA {} aQ)) rfl rfl (by
   have e1:(⟨b.tmps.setIfInBounds 30 (.agg (aA {} aQ)),b.defers⟩:Act).eval (.tmp 2)=.pointer (some ⟨z,0,none⟩):=eval_at (by simp[Array.getElem?_setIfInBounds];exact hf2)
   have e2:(⟨b.tmps.setIfInBounds 30 (.agg (aA {} aQ)),b.defers⟩:Act).eval (.tmp 30)=.agg (aA {} aQ):=eval_at (by simp[Array.getElem?_setIfInBounds,hsz])
   unfold execOp
   simp only[e1,e2,Sem.run_bind,Hd w4 z {} {} aQ aQ hz4 rfl]
   rfl) ?_
  refine af rfl rfl (u:=.int .i64 0) rfl ?_
  refine af rfl rfl (u:=.int .i64 4) rfl ?_
  refine aL ?_
  simp only[Exit.then]
  refine wp_ret ?_
  rw[hPe]
  exact MB hz4 hb4 hz hdf (by simp[Array.getElem?_setIfInBounds];exact hf2) (eval_at (by simp[Array.getElem?_setIfInBounds,hsz])) (eval_at (by simp[Array.getElem?_setIfInBounds,hsz]))
open Go.Proofs.YthijakidnkhbnaaGreatDoor.Ev (AV Mem Fr jJ dG eZ Sh Stop)
theorem eq36 (A:Ps.Amd)(x y:Operand)(w:World):(do eqGuard .eql 36 x y (.agg (aG A).toArray) (.agg (aG A).toArray);binOp .eql 36 (.agg (aG A).toArray) (.agg (aG A).toArray):Sem Value).run Tryz.prog w=.ok (.bool true) w:=by
 unfold aG
 go_simp
theorem NM (w:World)(i:Ps.Ins)(sa ta:Option Addr)(sn sc tc:Nat)(h63:sn<=9223372036854775806)(hsn:sn=i.links.length)(hlk:0<sn->∃sb,sa=some ⟨sb,0,none⟩/\∀W,Below w.heap.size w W->dM W sb i.links)(hlm:0<sn->∃sb,ta=some ⟨sb,0,none⟩/\∀W,Below w.heap.size w W->dM W sb i.links):
 Calls Tryz.prog 33 #[.agg (aB i (.slice sa sn sc)).toArray,.agg (aB i (.slice ta sn tc)).toArray] w λe w'=>e=.returned (.bool true)/\Below w.heap.size w w':=
 BZ w i i sa ta sn sc sn tc _ (Lib.hid h63) (Lib.hid hsn) (Lib.hid hsn) (Lib.hid hlk) (Lib.hid hlm) (Lib.hid λh=>absurd rfl h)
  (Lib.hid λ_ ⟨j,y,z,h1,h2,h3⟩=>absurd (by rw[h1]at h2;cases h2;exact⟨rfl,rfl⟩) h3)
  (Lib.hid λ_ _=>by simp)
def J2 (f:FuncId)(vs:List AV):Option Value:=if f=33 then(match vs with|[.a 0 3 16,.a 1 3 16]=>some (.bool true)|_=>none)else none
def Es (o:Oper)(ov:Operand->Option AV):Option AV:=match o.op with
 | .binOp .eql t x y _=>if t=36 then(match ov x,ov y with
   |some (.a 0 19 9),some (.a 1 19 9)=>some (.v (.bool true))
   |_,_=>none)else none
 |_=>none
def sqM (g h:Nat)(Q:Ps.Req)(la lb:Value):Mem Unit:=jJ tJ [(some (g,0),Af Q la),(some (h,0),Af Q lb)] J2 Es
theorem Ie (w:World)(Q:Ps.Req)(sa ta:Option Addr)(sn sc tc:Nat)(h63:Hid (sn<=9223372036854775806))(hsn:Hid (sn=Q.ins.links.length))(hlk:Hid (0<sn->∃sb,sa=some ⟨sb,0,none⟩/\∀W,Below w.heap.size w W->dM W sb Q.ins.links))(hlm:Hid (0<sn->∃sb,ta=some ⟨sb,0,none⟩/\∀W,Below w.heap.size w W->dM W sb Q.ins.links)):
 Calls Tryz.prog 11 #[.agg (aA Q (.slice sa sn sc)),.agg (aA Q (.slice ta sn tc))] w λe w'=>e=.returned (.bool true)/\Below w.heap.size w w':=by
 go_enter Tryz.func11,Tryz.ntmps11
 refine wp_seq ?_
 refine wp_region_lit ?_
 refine wpList_plain rfl (λK hK=>?_)
 go_simp
 refine hK _ _ ?_
 clear hK K
 refine wpList_plain rfl (λK hK=>?_)
 go_simp
 refine hK _ _ ?_
 clear hK K
 refine wpList_plain rfl (λK hK=>?_)
 go_simp
 refine hK _ _ ?_
 clear hK K
 refine aL ?_
 obtain⟨Wa,hWa⟩:∃Wa,Wa=w.alloc (.cells (aA Q (.slice sa sn sc)) 38):=⟨_,rfl⟩
 obtain⟨W1,hW1⟩:∃W1,W1=Wa.alloc (.cells (aA Q (.slice ta sn tc)) 38):=⟨_,rfl⟩
 obtain⟨g,hg⟩:∃g,g=w.heap.size:=⟨_,rfl⟩
 obtain⟨h,hh⟩:∃h,h=w.heap.size+1:=⟨_,rfl⟩
 have KA:h=Wa.heap.size:=by rw[hh,hWa];simp
 have uX:Below Wa.heap.size Wa W1:=by rw[hW1];exact(Below.refl _ _).alloc (Nat.le_refl _) _
 have hrow:∀W,Below W1.heap.size W1 W->W.heap[g]? =some (.cells (Af Q (.slice sa sn sc)).toArray 38 (0,0)):=λW hW=>by
  rw[hW.block g (by rw[hW1,hWa,hg];simp;omega),uX.block g (by rw[hWa,hg];simp),hWa,hg];exact aD w _
 have kV:∀W,Below W1.heap.size W1 W->W.heap[h]? =some (.cells (Af Q (.slice ta sn tc)).toArray 38 (0,0)):=λW hW=>by
  rw[hW.block h (by rw[KA,hW1];simp),hW1,KA];exact aD Wa _
 have hB1:Below w.heap.size w W1:=((by rw[hWa];exact(Below.refl _ _).alloc (Nat.le_refl _) _:Below w.heap.size w Wa).trans (uX.mono (by rw[hWa];simp)))
 have up:∀W,Below W1.heap.size W1 W->Below w.heap.size w W:=λW hW=>hB1.trans (hW.mono hB1.size)
 rw[<-hg]at hh
 rw[<-hWa,<-hW1,<-hg,<-hh]
 clear hW1 hWa KA uX hh
 refine iq rfl λa ha hdf=>?_
 have hO:Ev.Ok Tryz.prog (λ(_:Unit) W=>Below W1.heap.size W1 W) (sqM g h Q (.slice sa sn sc) (.slice ta sn tc)):=by
  refine Ev.gD (λt f d h=>BD h) (λq b o l h W hS=>?_) (λf vs v h=>?_) (λo ov v h ρ hov W hS=>?_)
  ·rcases q with _|_|q
   ·cases h;exact fF hrow W hS
   ·cases h;exact fF kV W hS
   ·cases h
  ·unfold J2 at h
   split at h
   ·rename_i hf
    subst hf
    split at h
    ·cases h
     exact⟨O1,λW hS=>(NM W Q.ins sa ta sn sc tc h63.out hsn.out (λhp=>by
      obtain⟨sb,e,hr⟩:=hlk.out hp
      exact⟨sb,e,λW' hW'=>hr W' ((up W hS).trans (hW'.mono (up W hS).size))⟩) (λhp=>by
      obtain⟨sb,e,hr⟩:=hlm.out hp
      exact⟨sb,e,λW' hW'=>hr W' ((up W hS).trans (hW'.mono (up W hS).size))⟩)).mono λe w' q=>⟨q.1,hS.trans (q.2.mono hS.size)⟩⟩
    ·cases h
   ·cases h
  ·unfold Es at h
   split at h
   ·rename_i t x y t2 ho
    split at h
    ·rename_i ht
     subst ht
     split at h
     ·rename_i h1 h2
      cases h
      have e1:ρ x=.agg (aG Q.amd).toArray:=hov _ _ h1
      have e2:ρ y=.agg (aG Q.amd).toArray:=hov _ _ h2
      unfold execOp
      simp only[ho,e1,e2]
      rw[Sem.run_bind,eq36]
      rfl
     ·cases h
    ·cases h
   ·cases h
 refine Ev.yO (M:=sqM g h Q (.slice sa sn sc) (.slice ta sn tc)) (S:=λ_ W=>Below W1.heap.size W1 W) (n:=Tryz.f11.ntmps) (K:=[(2,.p 0 0),(3,.p 1 0)]) (s:=()) (v:=(Q.op==Q.op)&&(Q.sender.toList==Q.sender.toList)&&(Q.ref.toList==Q.ref.toList)&&true&&true) 4 hO (λ_ W h=>h.drew) (by kernel_rfl) (by kernel_rfl) (Ev.aC (Ev.aC (Ev.aU (by rw[ha];rfl) hdf) (by rw[ha];rfl)) (by rw[ha];rfl)) (Below.refl _ _) ?_
 intro b W s hd ht hS
 refine bodyPost_ret (results_tmp rfl _ _ _) hd ?_
 rw[hg]
 refine⟨?_,hB1.trans (hS.mono hB1.size)⟩
 rw[show b.tmps.getD 4 undef=.bool ((Q.op==Q.op)&&(Q.sender.toList==Q.sender.toList)&&(Q.ref.toList==Q.ref.toList)&&true&&true)from eval_at ht]
 simp
open Go.Proofs.YthijakidnkhbnaaGreatDoor.Ev (Fy)
def RrsC (W:World)(s:ByteArray)(Q:Ps.Req)(o x:Int):Prop:=Calls Tryz.prog 10 #[.string s] W λe W'=>∃a n c,e=.returned (.tuple #[.agg (aA Q (.slice a n c)),.int .i64 o,.int .i64 x])/\n=Q.ins.links.length/\LkL W' W.heap.size (.slice a n c) Q.ins.links/\Below W.heap.size W W'
theorem rrs_of (s:ByteArray)(hs:s.size<=9223372036854775807)(W:World):RrsC W s (Ps.parse az psR s).1 (Ps.parse az psR s).2.1 (Ps.parse az psR s).2.2:=by
 refine(KN s W hs).mono ?_
 rintro e W' ⟨lv,rfl,hl,hb⟩
 obtain⟨sa,sc,rfl⟩:∃sa sc,lv=.slice sa (Ps.parse az psR s).1.ins.links.length sc:=by
  rcases hl.2 with⟨e0,n0⟩|⟨g,cap,cur,e0,-⟩
  ·exact⟨none,0,by rw[e0,n0]⟩
  ·exact⟨_,_,e0⟩
 exact⟨_,_,_,rfl,rfl,hl,hb⟩
theorem NT (w:World)(Q:Ps.Req)(a:Option Addr)(n c:Nat):Sem.run Tryz.prog (storeCells ⟨w.heap.size,0,none⟩ (aA Q (.slice a n c)).toList) (w.alloc (.cells Ns 38))=.ok () (w.alloc (.cells (aA Q (.slice a n c)) 38)):=
 run_storeCells_new w 38 Ns _ (by kernel_rfl) rfl (dH Q a n c)
theorem Fs (g:Nat)(Q:Ps.Req)(lv:Value)(w:World)(h:w.heap[g]? =some (.cells (aA Q lv) 38 (0,0))):(Instr.loadAt 38 (.pointer (some ⟨g,0,none⟩))).run Tryz.prog w=.ok (.agg (aA Q lv)) w:=by
 obtain⟨d,hu,hd,hi⟩:=Ev.rM (t:=38) rfl
 have:=run_loadVar_row (P:=Tryz.prog) w g _ 38 (aA Q lv) (0,0) d h hu (by cases d<;>first|rfl|cases hd) hi
 unfold Instr.loadAt
 simp[Instr.sureAddr,this]
def LkS (w:World)(sa:Option Addr)(ks:List Ps.Link):Prop:=0<ks.length->∃sb,sa=some ⟨sb,0,none⟩/\∀W,Below w.heap.size w W->dM W sb ks
theorem LkS.below {w w':World}{sa:Option Addr}{ks:List Ps.Link}(h:LkS w sa ks)(hb:Below w.heap.size w w'):LkS w' sa ks:=λhn=>by
 obtain⟨sb,e,hr⟩:=h hn
 exact⟨sb,e,λW hW=>hr W (hb.trans (hW.mono hb.size))⟩
theorem wM {S:World->Prop}{ρ:Operand->Value}{vs:List Value}{o:Oper}{v:Value}(hw:fU vs o=true)(h:YB Tryz.prog S ρ o v):YV Tryz.prog S ρ vs o v:=⟨λ_=>h,λh2=>by rw[hw]at h2;cases h2⟩
theorem cmI (p q:Operand)(k:Int)(w:World):(do eqGuard .eql 3 p q (.int .i64 k) (.int .i64 k);binOp .eql 3 (.int .i64 k) (.int .i64 k):Sem Value).run Tryz.prog w=.ok (.bool true) w:=by
 go_simp
 first|done|rfl|simp
theorem N8 (w:World)(s:ByteArray)(hs:(400:Int)<(s.size:Int))
 (m1:Hid (∀W,Below w.heap.size w W->Calls Tryz.prog 8 #[] W λe W'=>e=.returned (.bool true)/\Below W.heap.size W W')):
 Calls Tryz.prog 3 #[.string s] w λe W'=>e=.returned (.bool true)/\Below w.heap.size w W':=by
 have HB0:Hid (Below w.heap.size w w):=Lib.hid (Below.refl _ _)
 go_enter Tryz.func3,Tryz.ntmps3
 go_upto_region 2 with(go_at_call 8;refine(m1.out _ HB0.out).mono ?_;rintro e w1 ⟨rfl,hb1⟩;have HB1:=Lib.hid (HB0.out.trans (hb1.mono HB0.out.size));clear hb1)
 go_wp2_with (go_at_call 8;refine(m1.out _ HB1.out).mono ?_;rintro e w2 ⟨rfl,hb2⟩;have HB2:=Lib.hid (HB1.out.trans (hb2.mono HB1.out.size));clear hb2)
 go_ret
 exact⟨rfl,HB2.out⟩
theorem ent12:∀args w,(callFunc 12 args).run Tryz.prog w=.ok (.enter 12 args) w:=enters_of Tryz.func12 (by kernel_rfl) rfl
theorem ent11:∀args w,(callFunc 11 args).run Tryz.prog w=.ok (.enter 11 args) w:=enters_of Tryz.func11 (by kernel_rfl) rfl
theorem Nz (w:World)(s:ByteArray)(hs:(s.size:Int)<=400)(Q:Ps.Req)(o x:Int)(bE:Q.ins.links.length<=1000000)
 (m1:Hid (∀W,Below w.heap.size w W->Calls Tryz.prog 8 #[] W λe W'=>e=.returned (.bool true)/\Below W.heap.size W W'))
 (m2:Hid (∀W,Below w.heap.size w W->KZ W s Q o x)) (m3:Hid (∀W,RrsC W s Q o x)):
 Calls Tryz.prog 3 #[.string s] w λe W'=>e=.returned (.bool true)/\Below w.heap.size w W':=by
 have HB0:Hid (Below w.heap.size w w):=Lib.hid (Below.refl _ _)
 have hst:=KI
 have Ay:=NT
 unfold Ns at Ay
 go_enter Tryz.func3,Tryz.ntmps3
 go_upto_region 3 with(go_at_call 8;refine(m1.out _ HB0.out).mono ?_;rintro e w1 ⟨rfl,hb1⟩;have HB1:=Lib.hid (HB0.out.trans (hb1.mono HB0.out.size));clear hb1)
 go_upto_region 4 with(go_at_call 9;refine(m2.out _ HB1.out).mono ?_;rintro e w2 ⟨a,n,c,rfl,hl2,hb2⟩;have HL2:=Lib.hid hl2;have HB2:=Lib.hid (HB1.out.trans (hb2.mono HB1.out.size));clear hb2 hl2)
 obtain⟨g,hg⟩:∃g,g=w2.heap.size:=⟨_,rfl⟩
 obtain⟨W3,hW3⟩:∃W3,W3=w2.alloc (.cells (aA Q (.slice a n c)) 29):=⟨_,rfl⟩
 have HR3:Hid (W3.heap[g]? =some (.cells (aA Q (.slice a n c)) 29 (0,0))):=Lib.hid (by rw[hW3,hg];exact aD w2 _)
 have HB3:Hid (Below w.heap.size w W3):=Lib.hid (by rw[hW3];exact HB2.out.alloc HB2.out.size _)
 have HN:Hid (n=Q.ins.links.length):=Lib.hid (by obtain⟨a',c',hs⟩:=dB HL2.out;cases hs;rfl)
 have HL3:Hid (LkS W3 a Q.ins.links):=Lib.hid (LkS.below (w:=w2) (λhn=>KT HL2.out (by rw[HN.out];exact hn)) (by rw[hW3];exact(Below.refl _ _).alloc (Nat.le_refl _) _))
 have m4:=m3.out W3
 rw[<-hW3,<-hg]
 clear hW3 hg HB2 HB1 HL2 hst m1 m2
 go_upto_region 5 with(go_at_call 10;refine m4.mono ?_;rintro e w4 ⟨a2,n2,c2,rfl,hn2,hl4,hb4⟩;have PM:=Lib.hid hb4;have HL4:=Lib.hid hl4;have HN4:=Lib.hid hn2;clear hb4 hl4 hn2)
 obtain⟨g2,hg2⟩:∃g2,g2=w4.heap.size:=⟨_,rfl⟩
 obtain⟨W5,jw⟩:∃W5,W5=w4.alloc (.cells (aA Q (.slice a2 n2 c2)) 38):=⟨_,rfl⟩
 have hb5:Below w4.heap.size w4 W5:=by rw[jw];exact(Below.refl _ _).alloc (Nat.le_refl _) _
 have CP:Below W3.heap.size W3 W5:=PM.out.trans (hb5.mono PM.out.size)
 have HR5:Hid (W5.heap[g]? =some (.cells (aA Q (.slice a n c)) 29 (0,0))):=Lib.hid ((CP.block g (Array.getElem?_eq_some_iff.1 HR3.out).1).trans HR3.out)
 have OL:Hid (W5.heap[g2]? =some (.cells (aA Q (.slice a2 n2 c2)) 38 (0,0))):=Lib.hid (by rw[jw,hg2];exact aD w4 _)
 have HB5:Hid (Below w.heap.size w W5):=Lib.hid (HB3.out.trans (CP.mono HB3.out.size))
 have HL5:Hid (LkS W5 a Q.ins.links):=Lib.hid (HL3.out.below CP)
 have HL6:Hid (LkS W5 a2 Q.ins.links):=Lib.hid (LkS.below (w:=w4) (λhn=>xg HL4.out (by rw[HN4.out];exact hn)) hb5)
 rw[<-jw,<-hg2]
 clear hb5 CP jw hg2 HR3 HB3 HL3 PM HL4 Ay m3
 refine iq rfl λb hb hdf=>?_
 have hsz:b.tmps.size=43:=by rw[hb];rfl
 have hf3:b.tmps[3]? =some (.pointer (some ⟨g,0,none⟩)):=by rw[hb];rfl
 have cZ:b.tmps[4]? =some (.int .i64 o):=by rw[hb];rfl
 have dm:b.tmps[5]? =some (.int .i64 x):=by rw[hb];rfl
 have JU:b.tmps[6]? =some (.pointer (some ⟨g2,0,none⟩)):=by rw[hb];rfl
 have OV:b.tmps[7]? =some (.int .i64 o):=by rw[hb];rfl
 have Mh:b.tmps[8]? =some (.int .i64 x):=by rw[hb];rfl
 clear hb
 have HQ:Hid (∀w',Below W5.heap.size W5 w'->w'.heap[g]? =some (.cells (aA Q (.slice a n c)) 29 (0,0))/\w'.heap[g2]? =some (.cells (aA Q (.slice a2 n2 c2)) 38 (0,0))):=Lib.hid λw' hw'=>
  ⟨(hw'.block g (Array.getElem?_eq_some_iff.1 HR5.out).1).trans HR5.out,(hw'.block g2 (Array.getElem?_eq_some_iff.1 OL.out).1).trans OL.out⟩
 refine iC (X:=Option Addr×Nat) (λ_ w=>Below W5.heap.size W5 w) (λy dn w=>dn 10=true/\Below W5.heap.size W5 w/\LkS w y.1 Q.ins.links) (Ord.inD [(12,10),(13,10),(14,10)]) (Ord.ig (by kernel_rfl)) 10 15 (by decide) rfl [.int .i64 x,.int .i64 x,.bool true,.bool true,.int .i64 o,.int .i64 o,.bool true,.bool true,.bool true,.agg (aA Q (.slice a n c)),.agg (aA Q (.slice none n 0)),.agg (aA Q (.slice a2 n2 c2)),.bool true,.bool true,.bool true] (λy=>[.int .i64 x,.int .i64 x,.bool true,.bool true,.int .i64 o,.int .i64 o,.bool true,.bool true,.bool true,.agg (aA Q (.slice a n c)),.agg (aA Q (.slice y.1 n y.2)),.agg (aA Q (.slice a2 n2 c2)),.bool true,.bool true,.bool true]) rfl (λ_=>rfl) rfl ?_ rfl (by kernel_rfl) (by kernel_rfl) (by kernel_rfl) (by rw[hsz];kernel_rfl) ((Below.refl _ _).drew) ?_ ?_ ?_
 ·intro y i hic h
  rcases i with _|_|_|_|_|_|_|_|_|_|_|i
  all_goals first|rfl|exact absurd rfl hic|(rcases i with _|_|_|_|i<;>first|rfl|(have h2:true=false:=h;cases h2))
 ·intro ρ hD hrest hco hfu
  have e3:ρ (.tmp 3)=.pointer (some ⟨g,0,none⟩):=(hrest 3 (by decide +kernel)).trans (eval_at hf3)
  have e4:ρ (.tmp 4)=.int .i64 o:=(hrest 4 (by decide +kernel)).trans (eval_at cZ)
  have e5:ρ (.tmp 5)=.int .i64 x:=(hrest 5 (by decide +kernel)).trans (eval_at dm)
  have e6:ρ (.tmp 6)=.pointer (some ⟨g2,0,none⟩):=(hrest 6 (by decide +kernel)).trans (eval_at JU)
  have e7:ρ (.tmp 7)=.int .i64 o:=(hrest 7 (by decide +kernel)).trans (eval_at OV)
  have e8:ρ (.tmp 8)=.int .i64 x:=(hrest 8 (by decide +kernel)).trans (eval_at Mh)
  obtain⟨k0,k1,k2,k3,k4,k5,k6,k7,k8,k9,-⟩:ρ (.tmp 29)=.int .i64 x/\ρ (.tmp 30)=.int .i64 x/\ρ (.tmp 31)=.bool true/\ρ (.tmp 32)=.bool true/\ρ (.tmp 33)=.int .i64 o/\ρ (.tmp 34)=.int .i64 o/\ρ (.tmp 35)=.bool true/\ρ (.tmp 36)=.bool true/\ρ (.tmp 37)=.bool true/\ρ (.tmp 38)=.agg (aA Q (.slice a n c))/\_:=hD
  refine⟨λ_ dn hn hd he=>aF (B:=λ_=>True) (λw h=>h) (λ_ _=>trivial) (λw0=>aP rfl (bG rfl e5)),?_⟩
  refine⟨λ_ dn hn hd he=>aF (B:=λ_=>True) (λw h=>h) (λ_ _=>trivial) (λw0=>aP rfl (bG rfl e8)),?_⟩
  refine⟨λ_ dn hn hd he=>aF (B:=λ_=>True) (λw h=>h) (λ_ _=>trivial) (λw0=>aP rfl (ry rfl k0 k1 (λw=>cmI _ _ x w))),?_⟩
  refine⟨λ_ dn hn hd he=>aF (B:=λ_=>True) (λw h=>h) (λ_ _=>trivial) (λw0=>aP rfl (bG rfl k2)),?_⟩
  refine⟨λ_ dn hn hd he=>aF (B:=λ_=>True) (λw h=>h) (λ_ _=>trivial) (λw0=>wM rfl (bG rfl e4)),?_⟩
  refine⟨λ_ dn hn hd he=>aF (B:=λ_=>True) (λw h=>h) (λ_ _=>trivial) (λw0=>wM rfl (bG rfl e7)),?_⟩
  refine⟨λ_ dn hn hd he=>aF (B:=λ_=>True) (λw h=>h) (λ_ _=>trivial) (λw0=>wM rfl (ry rfl k4 k5 (λw=>cmI _ _ o w))),?_⟩
  refine⟨λ_ dn hn hd he=>aF (B:=λ_=>True) (λw h=>h) (λ_ _=>trivial) (λw0=>aP rfl (Dt (b:=true) rfl k3 k6 (hco _))),?_⟩
  refine⟨λ_ dn hn hd he=>aF (B:=λ_=>True) (λw h=>h) (λ_ _=>trivial) (λw0=>aP rfl (bG rfl k7)),?_⟩
  refine⟨λ_ dn hn hd he=>aF (B:=λw=>Below W5.heap.size W5 w) (λw h=>h) (λw h=>h) (λw0=>wM rfl (bT rfl e3 (λw hS=>J8 g Q _ w (HQ.out w hS.2).1))),?_⟩
  refine⟨λ_ dn hn hd he=>⟨rfl,λw hS=>?_⟩,?_⟩
  ·unfold execOp
   have hf:=hfu 12
   simp[resolve,invoke,hf,k9,Deferred.ofValue,ent12]
   refine(Hl w Q a n c HN (Lib.hid (by rw[HN.out];exact bE)) (Lib.hid λhn=>by
    obtain⟨sb,z1,z2⟩:=HL5.out (by rw[<-HN.out];exact hn)
    exact⟨sb,z1,λW hW=>z2 W (hS.trans (hW.mono hS.size))⟩)).mono ?_
   rintro e w' ⟨ta,tc,rfl,hb,hl⟩
   exact⟨_,rfl,ta,⟨tc,rfl⟩,hS.trans (hb.mono hS.size),λhn2=>xg hl (by rw[HN.out];exact hn2)⟩
  refine⟨λ_ dn hn hd he=>aF (B:=λw=>Below W5.heap.size W5 w) (λw h=>h) (λw h=>h) (λw0=>wM rfl (bT rfl e6 (λw hS=>Fs g2 Q _ w (HQ.out w hS.2).2))),?_⟩
  refine⟨λhic=>(by have h2:true=false:=hic;cases h2),?_⟩
  refine⟨λhic=>(by have h2:true=false:=hic;cases h2),?_⟩
  refine⟨λhic=>(by have h2:true=false:=hic;cases h2),?_⟩
  exact trivial
 ·rintro⟨ta,tc⟩ ρ hD hrest hco hfu
  have e3:ρ (.tmp 3)=.pointer (some ⟨g,0,none⟩):=(hrest 3 (by decide +kernel)).trans (eval_at hf3)
  have e4:ρ (.tmp 4)=.int .i64 o:=(hrest 4 (by decide +kernel)).trans (eval_at cZ)
  have e5:ρ (.tmp 5)=.int .i64 x:=(hrest 5 (by decide +kernel)).trans (eval_at dm)
  have e6:ρ (.tmp 6)=.pointer (some ⟨g2,0,none⟩):=(hrest 6 (by decide +kernel)).trans (eval_at JU)
  have e7:ρ (.tmp 7)=.int .i64 o:=(hrest 7 (by decide +kernel)).trans (eval_at OV)
  have e8:ρ (.tmp 8)=.int .i64 x:=(hrest 8 (by decide +kernel)).trans (eval_at Mh)
  obtain⟨k0,k1,k2,k3,k4,k5,k6,k7,k8,k9,k10,k11,k12,k13,-⟩:ρ (.tmp 29)=.int .i64 x/\ρ (.tmp 30)=.int .i64 x/\ρ (.tmp 31)=.bool true/\ρ (.tmp 32)=.bool true/\ρ (.tmp 33)=.int .i64 o/\ρ (.tmp 34)=.int .i64 o/\ρ (.tmp 35)=.bool true/\ρ (.tmp 36)=.bool true/\ρ (.tmp 37)=.bool true/\ρ (.tmp 38)=.agg (aA Q (.slice a n c))/\ρ (.tmp 39)=.agg (aA Q (.slice ta n tc))/\ρ (.tmp 40)=.agg (aA Q (.slice a2 n2 c2))/\ρ (.tmp 41)=.bool true/\ρ (.tmp 42)=.bool true/\_:=hD
  have kp:∀(dn:Nat->Bool) (j:Nat) (w:World),(dn 10=true/\Below W5.heap.size W5 w/\LkS w ta Q.ins.links)->((dn 10||10==j)=true/\Below W5.heap.size W5 w/\LkS w ta Q.ins.links):=λdn j w h=>⟨by rw[h.1];rfl,h.2⟩
  refine⟨λdn hn hd he=>aF (B:=λ_=>True) (λw h=>kp dn 0 w h) (λ_ _=>trivial) (λw0=>aP rfl (bG rfl e5)),?_⟩
  refine⟨λdn hn hd he=>aF (B:=λ_=>True) (λw h=>kp dn 1 w h) (λ_ _=>trivial) (λw0=>aP rfl (bG rfl e8)),?_⟩
  refine⟨λdn hn hd he=>aF (B:=λ_=>True) (λw h=>kp dn 2 w h) (λ_ _=>trivial) (λw0=>aP rfl (ry rfl k0 k1 (λw=>cmI _ _ x w))),?_⟩
  refine⟨λdn hn hd he=>aF (B:=λ_=>True) (λw h=>kp dn 3 w h) (λ_ _=>trivial) (λw0=>aP rfl (bG rfl k2)),?_⟩
  refine⟨λdn hn hd he=>aF (B:=λ_=>True) (λw h=>kp dn 4 w h) (λ_ _=>trivial) (λw0=>wM rfl (bG rfl e4)),?_⟩
  refine⟨λdn hn hd he=>aF (B:=λ_=>True) (λw h=>kp dn 5 w h) (λ_ _=>trivial) (λw0=>wM rfl (bG rfl e7)),?_⟩
  refine⟨λdn hn hd he=>aF (B:=λ_=>True) (λw h=>kp dn 6 w h) (λ_ _=>trivial) (λw0=>wM rfl (ry rfl k4 k5 (λw=>cmI _ _ o w))),?_⟩
  refine⟨λdn hn hd he=>aF (B:=λ_=>True) (λw h=>kp dn 7 w h) (λ_ _=>trivial) (λw0=>aP rfl (Dt (b:=true) rfl k3 k6 (hco _))),?_⟩
  refine⟨λdn hn hd he=>aF (B:=λ_=>True) (λw h=>kp dn 8 w h) (λ_ _=>trivial) (λw0=>aP rfl (bG rfl k7)),?_⟩
  refine⟨λdn hn hd he=>aF (B:=λw=>Below W5.heap.size W5 w) (λw h=>kp dn 9 w h) (λw h=>h.2.1) (λw0=>wM rfl (bT rfl e3 (λw hS=>J8 g Q _ w (HQ.out w hS.2).1))),?_⟩
  refine⟨λdn hn hd he=>⟨λ_ w hS=>(by rw[hS.1]at hn;cases hn),λh=>by have h2:true=false:=h;cases h2⟩,?_⟩
  refine⟨λdn hn hd he=>aF (B:=λw=>Below W5.heap.size W5 w) (λw h=>kp dn 11 w h) (λw h=>h.2.1) (λw0=>wM rfl (bT rfl e6 (λw hS=>Fs g2 Q _ w (HQ.out w hS.2).2))),?_⟩
  refine⟨λdn hn hd he=>⟨λ_ w hS=>?_,λh=>by have h2:true=false:=h;cases h2⟩,?_⟩
  ·obtain⟨hS1,hS2,JS⟩:=hS
   unfold execOp
   have hf:=hfu 11
   simp[resolve,invoke,hf,k10,k11,Deferred.ofValue,ent11]
   obtain rfl:n2=n:=by rw[HN4.out,HN.out]
   refine(Ie w Q ta a2 n2 tc c2 (Lib.hid (by rw[HN.out];omega)) HN (Lib.hid λhn=>JS (by rw[<-HN.out];exact hn)) (Lib.hid λhn=>by
    obtain⟨sb,z1,z2⟩:=HL6.out (by rw[<-HN.out];exact hn)
    exact⟨sb,z1,λW hW=>z2 W (hS2.trans (hW.mono hS2.size))⟩)).mono ?_
   rintro e w' ⟨rfl,hb⟩
   exact⟨rfl,hS1,hS2.trans (hb.mono hS2.size),JS.below hb⟩
  refine⟨λdn hn hd he=>aF (B:=λ_=>True) (λw h=>kp dn 13 w h) (λ_ _=>trivial) (λw0=>aP rfl (Dt (b:=true) rfl k8 k12 (hco _))),?_⟩
  refine⟨λdn hn hd he=>aF (B:=λ_=>True) (λw h=>kp dn 14 w h) (λ_ _=>trivial) (λw0=>aP rfl (qE rfl k13)),?_⟩
  exact trivial
 ·intro y b w' hS hK hD
  rename_i K9 hK9 b9
  refine hK9 _ _ ?_
  refine wp_ret ?_
  refine bodyPost_ret (results_tmp rfl _ _ _) (hK.defers.trans hdf) ?_
  have e2:b.tmps[2]? =some (.bool true):=Fy (by rw[hK.size,hsz];decide) (bR.tmp 14 _ _ 2 hD rfl rfl rfl)
  exact⟨by rw[show b.tmps.getD 2 undef=.bool true from eval_at e2],HB5.out.trans (hS.2.1.mono HB5.out.size)⟩
theorem ite0 {c:Prop}[Decidable c]{n x:Int}(h:(if c then n else x)=0)(hn:n≠0):¬c/\x=0:=by
 by_cases hc:c
 ·rw[if_pos hc]at h;exact absurd h hn
 ·rw[if_neg hc]at h;exact⟨hc,h⟩
theorem Dz {V:Nat->ByteArray->Bool}{i:Ps.Ins}(h:Ps.oI V i=0):i.links.length<=8:=by
 unfold Ps.oI at h
 iterate 19 (replace h:=(ite0 h (by decide)).2)
 have:=(ite0 h (by decide)).1
 omega
theorem Cv {V:Nat->ByteArray->Bool}{q:Ps.Req}(h:Ps.Hg V q=0):q.ins.links.length<=8:=by
 unfold Ps.Hg at h
 repeat (split at h;· cases h)
 split at h
 ·split at h
  ·exact absurd h ‹_›
  ·rename_i h1
   exact Dz (by simpa using h1)
 ·split at h
  ·cases h
  ·rename_i h1
   have h2:q.ins.none:=by simpa using h1
   have:q.ins.links.length=0:=by simp_all [Ps.Ins.none]
   omega
theorem BV (s:ByteArray)(hs:s.size<=1024):(Ps.parse az psR s).1.ins.links.length<=8:=by
 obtain⟨h1,h2⟩:=Ps.Ab az psR s hs
 by_cases he:(Ps.parse az psR s).2.2=0
 ·exact Cv (h1 he).1
 ·rw[(h2 he).1];exact Nat.zero_le _
theorem ER {m:Int}{kb ko kc:Nat}{w:World}(env:kQ m kb ko kc w)(s:ByteArray)(hs:s.size<=maxLen):
 Calls Tryz.prog 3 #[.string s] w λe W'=>e=.returned (.bool true)/\Below w.heap.size w W':=by
 have m1:Hid (∀W,Below w.heap.size w W->Calls Tryz.prog 8 #[] W λe W'=>e=.returned (.bool true)/\Below W.heap.size W W'):=Lib.hid λW hW=>Jw (env.below hW)
 have hs63:s.size<=9223372036854775807:=by unfold maxLen at hs;omega
 by_cases h:(400:Int)<(s.size:Int)
 ·exact N8 w s h m1
 ·exact Nz w s (by omega) _ _ _ (by have:=BV s (by omega);omega) m1 (Lib.hid λW hW=>zM env s hs63 W hW) (Lib.hid λW=>rrs_of s hs63 W)
end Go.Proofs.YthijakidnkhbnaaGreatDoor
namespace Go.Proofs.YthijakidnkhbnaaGreatDoor.lawPLines
open Go.ChangeShapes Go.WideShapes Go.ChangeAt Go.RowKit
theorem own:ownKnob Tryz.prog.godebug=none:=by kernel_rfl
theorem laidOut:laidOutB Tryz.prog=true:=by kernel_rfl
theorem JV:("strconv.ErrRange",(Rows.laid_strconv_ErrRange:DataW Unit))∈Rows.parserLinesRow.laid:=by
 unfold Rows.parserLinesRow
 exact .tail _ (.tail _ (.tail _ (.tail _ ((.head _)))))
theorem G9:("strconv.ErrSyntax",(Rows.laid_strconv_ErrSyntax:DataW Unit))∈Rows.parserLinesRow.laid:=by
 unfold Rows.parserLinesRow
 exact .tail _ (.tail _ (.tail _ (.tail _ (.tail _ ((.head _))))))
theorem memIds:("giro/ident.kinds",(Rows.laid_giro_ident_kinds:DataW Unit))∈Rows.parserLinesRow.laid:=by
 unfold Rows.parserLinesRow
 exact .tail _ (.tail _ (.tail _ (.tail _ (.tail _ (.tail _ ((.head _)))))))
theorem memLex:("giro/lexer.kinds",(Rows.laid_giro_lexer_kinds:DataW Unit))∈Rows.parserLinesRow.laid:=by
 unfold Rows.parserLinesRow
 exact .tail _ (.tail _ (.tail _ (.tail _ (.tail _ (.tail _ (.tail _ ((.head _))))))))
theorem OP:("giro/message.priorityNames",(Rows.laid_giro_message_priorityNames:DataW Unit))∈Rows.parserLinesRow.laid:=by
 unfold Rows.parserLinesRow
 exact .tail _ (.tail _ (.tail _ (.tail _ (.tail _ (.tail _ (.tail _ (.tail _ ((.head _)))))))))
theorem contract (H:Type)(enc:TypeId×Value->H)(W:World)(base:Nat)(args:Array Value)(ds gs:List (DataW H))(before:List MemPlace)
 (hval:∀(j:Nat) t v,Tryz.f3.params[j]? =some t->args[j]? =some v->Value.okWide Tryz.prog W .any base t v)
 (hW:DataW.Whole enc Tryz.prog Tryz.f3.params.toList Rows.parserLinesSpec.vars false W args.toList ds gs before) (hL:laidMetH Tryz.prog Rows.parserLinesRow.laid W) (hsh:W.ShapedOpen Tryz.prog):
 Calls Tryz.prog 3 args W λe W'=>∃v,e=.returned v/\Rows.parserLinesSpec.post enc Tryz.prog Tryz.f3 false true false false W args v W':=by
 have hW':=hW
 obtain⟨p,q,hA0,hV,rfl,hfz,hnd⟩:=hW
 have hA:DataW.TrodAll enc Tryz.prog W 0 (λ_=>true) true Tryz.f3.params.toList args.toList ds p:=hA0
 rw[Tryz.params3]at hA hval
 obtain⟨v0,vs0,d0,ds0,p0,q0,hargs,rfl,rfl,h0,r0⟩:=trodAll_cons hA
 obtain⟨rfl,rfl,rfl⟩:=trodAll_nil r0
 obtain rfl:args=#[v0]:=by cases args;simp_all
 obtain⟨rfl,rfl⟩:=trodVars_none hV
 clear hA0
 simp only[List.append_nil]at hW'
 have hlt:∀x∈p0,x.block<W.heap.size:=λx hx=>by simpa using hW'.lt x hx
 obtain⟨s0,rfl,rfl,rfl,hs0⟩:=Go.ChangeMaps.open_string Tryz.underlying9 (hval 0 9 v0 rfl rfl) h0
 obtain⟨m,qB⟩:=Tryz.laysM145.s1_3 W hsh
 obtain⟨kb,ko,kc,env⟩:=uJ hL memLex memIds OP JV G9 m qB
 refine(ER env s0 hs0).mono λe W' ⟨he,hb⟩=>?_
 subst he
 have t0:=Below.trod laidOut (by kernel_rfl) (of_decide_eq_true (by kernel_rfl)) h0 hb (λx hx=>by cases hx)
 exact⟨_,rfl,_,_,_,[],_,[],hW',trodAll_cons_mk (shut_bool Tryz.underlying4 _) trodAll_mk0,trodAll_cons_mk t0 trodAll_mk0,rfl,hb.frame _,λh=>by cases h⟩
noncomputable def jh (os:Os):World:=(World.doorLaid Tryz.prog 300 os).layVars Tryz.prog [("unicode/utf8.first",Rows.laid_unicode_utf8_first)]
theorem Mx (os:Os):(jh os).os=os:=by unfold jh;rw[World.layVars_os];rfl
theorem Me (os:Os):laidMetH Tryz.prog Rows.parserLinesRow.laid ((jh os).forCall (λ_ _=>0) ⟨#[],#[Value.string ⟨#[]⟩],[]⟩).memory:=
 laidMetH_of_parts3 (fuel:=8)
  (laidMet_layVars (w0:=World.doorLaid Tryz.prog 300 os) ["unicode/utf8.first"] ((List.range (World.doorLaid Tryz.prog 300 os).heap.size).filter (· !=4)) (by rfl) (by kernel_rfl) (by kernel_rfl)
   (LaidIn.of_run _ 8 (by kernel_rfl) (by kernel_rfl) (by kernel_rfl) (by kernel_rfl))) (by kernel_rfl) (by kernel_rfl)
theorem reads (os:Os){H:Type}(enc:TypeId×Value->H):∃places,DataW.whole enc Tryz.prog ((jh os).forCall (λ_ _=>0) ⟨#[],#[Value.string ⟨#[]⟩],[]⟩).memory Tryz.f3.params.toList Rows.parserLinesSpec.vars false #[Value.string ⟨#[]⟩].toList 8=some ([.lit (.string [])],[],places):=
 ⟨[],by kernel_rfl⟩
theorem lifted (os:Os)(started:os.Started)(H:Type)(enc:TypeId×Value->H)(F:Stop.Interp):
 ReturnsInHanded {} Tryz.checked os 3 .any ((OpenSpec.ofChange Rows.parserLinesSpec).preRow enc Tryz.prog Tryz.f3 Rows.parserLinesRow.domain false Rows.parserLinesRow.laid) (((OpenSpec.ofChange Rows.parserLinesSpec).at F).post enc Tryz.prog Tryz.f3 false true false false):=by
 obtain⟨places,hx⟩:=reads os enc
 refine returnsInHanded_of_row (C:=Tryz.checked) (s:=OpenSpec.ofChange Rows.parserLinesSpec) own started (by kernel_rfl) Tryz.func3
  (witness_row_atRef (enc:=enc) (C:=Tryz.checked) false (jh os) #[Value.string ⟨#[]⟩] (Mx os) (by kernel_rfl) (by kernel_rfl) (by kernel_rfl)
   (OpenSpec.preRow_of_cond 8 hx (by kernel_rfl) (λk hk=>by cases hk) (by kernel_rfl) (Me os))) ?_
 intro W base args ds gs before hval hW _ _ _ hL hsh _
 exact contract H enc W base args ds gs before hval hW hL hsh
theorem said:Rows.ParserLinesSaid:=
 OpenClaim.holds_of_cond 3 Tryz.f3 rfl rfl rfl rfl rfl rfl rfl ⟨rfl,rfl,rfl,rfl,rfl⟩ rfl rfl rfl rfl rfl (by kernel_rfl) Tryz.func3 (by kernel_rfl)
  (of_decide_eq_true (by kernel_rfl)) (by unfold Func.isWrapper;first|(rw[if_pos (by decide +kernel)];kernel_rfl)|(rw[if_neg (by decide +kernel)];exact⟨rfl,rfl⟩))
  (λos started H enc _ F=>by rw[OpenClaim.pre_eq_preRow];exact lifted os started H enc F)
theorem plain (f:FuncId)(fn:Func)(hf:Tryz.pinned.checked.prog.funcNamed "giro/girolaw19.ParserLines"=some f)(hfn:Tryz.pinned.checked.prog.funcs[f]? =some fn):
 true=Tryz.pinned.checked.prog.looks []/\∀(j:Nat) t,fn.params[j]? =some t->Tryz.pinned.checked.prog.wantsStandIn t=false:=by
 obtain rfl:f=3:=Option.some.inj ((show Tryz.prog.funcNamed "giro/girolaw19.ParserLines"=some 3 by kernel_rfl).symm.trans hf)|>.symm
 obtain rfl:fn=Tryz.f3:=(Option.some.inj (Tryz.func3.symm.trans hfn)).symm
 refine⟨by kernel_rfl,λj t ht=>?_⟩
 rw[Tryz.params3]at ht
 have hm:=Array.mem_of_getElem? ht
 simp at hm
 subst hm
 exact(show Tryz.prog.wantsStandIn 9=false by kernel_rfl)
theorem card:Rows.ParserLinesCardSaid:=
 Claim7.holds_tied_plain_at .later [] _ _ _ _ said (λ_ h=>by cases h) (by kernel_rfl) (λ_ h=>by cases h) parserLines_row_tie rfl ⟨rfl,rfl⟩ (by kernel_rfl) rfl plain (by kernel_rfl)
#print axioms card
end Go.Proofs.YthijakidnkhbnaaGreatDoor.lawPLines
