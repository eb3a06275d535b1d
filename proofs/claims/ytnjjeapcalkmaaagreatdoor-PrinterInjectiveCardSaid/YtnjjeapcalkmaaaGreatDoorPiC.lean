/-
  Part 3 of a proof; written short by a program out of longer texts of mine.
-/
import Derived.Test.YtnjjeapcalkmaaaGreatDoorPiB
set_option maxRecDepth 100000
set_option maxHeartbeats 4000000
set_option linter.unusedVariables false
set_option linter.unusedSimpArgs false
namespace Go.Proofs.YtnjjeapcalkmaaaGreatDoor
open Go.RowKit
def dM (k:Nat)(s:ByteArray):Int:=if au k s=0 then 0 else 6
theorem JU (k:Nat)(w:World)(s:ByteArray)(kx ob:Nat)(u:Value)(b:Bool)(hk:w.cell? ⟨kx,0,none⟩=some (.int .i64 k))(ho:w.heap[ob]? =some (.cells #[u] 9 (0,0)))
 (n1:Calls Tryz.prog 80 #[.int .i64 k,.string s] w λe w'=>e=.returned (.bool b)/\Below w.heap.size w w'):
 Calls Tryz.prog 188 #[.string s,.pointer (some ⟨kx,0,none⟩),.pointer (some ⟨ob,0,none⟩)] w λe w'=>e=.returned (.int .i64 (if b=true then 0 else 6))/\w'.heap[ob]? =some (.cells #[if b=true then .string s else u] 9 (0,0))/\Tch ob ob w w':=by
 have HO:=Lib.hid ho
 clear ho
 cases b with
 |true=>
  go_enter Tryz.func188,Tryz.ntmps188
  go_wp2_with fail
  refine n1.mono ?_
  rintro e w' ⟨rfl,hb⟩
  have hr:w'.heap[ob]? =some (.cells #[u] 9 (0,0)):=(hb.block ob (Array.getElem?_eq_some_iff.1 HO.out).1).trans HO.out
  have f0:=aZ 0 hr
  have z0:w'.cell? ⟨ob,0,none⟩=some u:=by rw[cell_of_row _ _ _ _ _ _ hr];rfl
  have HR:=Lib.hid hr
  have HB:=Lib.hid hb
  clear n1 hr hb
  go_wp2_with fail
  go_ret
  exact⟨rfl,bB w' ob 0 _ _ _ HR.out,(Tch.of_below HB.out).setCell 0 _⟩
 |false=>
  go_enter Tryz.func188,Tryz.ntmps188
  go_wp2_with fail
  refine n1.mono ?_
  rintro e w' ⟨rfl,hb⟩
  have HB:=Lib.hid hb
  clear n1 hb
  go_wp2_with fail
  go_ret
  exact⟨rfl,(HB.out.block ob (Array.getElem?_eq_some_iff.1 HO.out).1).trans HO.out,Tch.of_below HB.out⟩
theorem ps_idL (W:World)(r k kb kn kc:Nat)(v:ByteArray)(P:World->Prop)
 (n1:Hid (∀w kx ob,w.cell? ⟨kx,0,none⟩=some (.int .i64 k)->w.heap[ob]? =some (.cells #[.string ⟨#[]⟩] 9 (0,0))->Below W.heap.size W w->W.heap.size<=ob->W.heap.size<=kx->kx≠ob->
  Calls Tryz.prog 187 #[.pointer (some ⟨r,0,none⟩),.func (.func 188) #[] #[.pointer (some ⟨kx,0,none⟩),.pointer (some ⟨ob,0,none⟩)],.slice (some ⟨kb,0,none⟩) kn kc] w λe W'=>e=.returned (.tuple #[])/\W'.cell? ⟨ob,0,none⟩=some (.string v)/\P W')):
 Calls Tryz.prog 108 #[.pointer (some ⟨r,0,none⟩),.int .i64 k,.slice (some ⟨kb,0,none⟩) kn kc] W λe W'=>e=.returned (.string v)/\P W':=by
 go_enter Tryz.func108,Tryz.ntmps108
 go_wp2_with fail
 refine(n1.out _ W.heap.size (W.heap.size+1) ?_ ?_ ?_ (by omega) (by omega) (by omega)).mono ?_
 ·exact Lib.cell?_alloc_some _ (by rw[cell_of_row _ _ _ _ _ _ (aC W _)];rfl)
 ·have h:=aC (W.alloc (Obj.cells #[.int .i64 k] 3)) (Obj.cells #[.string ⟨#[]⟩] 9)
  rwa [show(W.alloc (Obj.cells #[.int .i64 k] 3)).heap.size=W.heap.size+1 from by simp]at h
 ·exact((Below.refl _ _).alloc (Nat.le_refl _) _).alloc (by simp) _
 rintro x w' ⟨rfl,hv,hp⟩
 clear n1
 go_wp2_with fail
 go_ret
 exact⟨rfl,hp⟩
theorem Tch.fresh {r ob:Nat}{W W1 W':World}(hb:Below W.heap.size W W1)(h:Tch r ob W1 W')(Ca:W.heap.size<=ob):Tch r r W W':=
 ⟨h.os.trans hb.os,h.tape.trans hb.tape,h.output.trans hb.output,Nat.le_trans hb.size h.size,λj hj h1 _=>(h.block j (Nat.lt_of_lt_of_le hj hb.size) h1 (by omega)).trans (hb.block j hj)⟩
def lw (W0:World):Prop:=∀w,Below W0.heap.size W0 w->jW w
theorem eu.below {W w:World}{r tb cap:Nat}{l:List Ps.Tok}{st:Ps.St}(h:eu W r tb cap l st)(hb:Below W.heap.size W w):eu w r tb cap l st:=by
 obtain⟨a,o,e,hr,ht,rest⟩:=h
 refine⟨a,o,e,(hb.block r (Array.getElem?_eq_some_iff.1 hr).1).trans hr,λj x hx=>?_,rest⟩
 obtain⟨t0,t1,t2⟩:=ht j x hx
 have up:∀{p:Addr} {v:Value},W.cell? p=some v->w.cell? p=some v:=λhp=>(hb.cell (World.block_lt_of_cell? W _ hp)).trans hp
 exact⟨up t0,up t1,up t2⟩
theorem eu.lt {W:World}{r tb cap:Nat}{l:List Ps.Tok}{st:Ps.St}(h:eu W r tb cap l st):r<W.heap.size/\tb<W.heap.size:=by
 obtain⟨a,o,e,hr,ht,hne,hpos,_⟩:=h
 obtain⟨x,hx⟩:∃x,l[0]? =some x:=⟨_,List.getElem?_eq_getElem hpos⟩
 exact⟨(Array.getElem?_eq_some_iff.1 hr).1,World.block_lt_of_cell? W _ (ht 0 x hx).1⟩
theorem xY (k:Nat)(s:ByteArray):(if (au k s==0)=true then(0:Int)else 6)=dM k s:=by
 unfold dM
 by_cases h:au k s=0
 ·rw[if_pos h,if_pos (by simpa using h)]
 ·rw[if_neg h,if_neg (by simpa using h)]
theorem EE (l:List Ps.Tok)(ks:List Int)(k:Nat)(st:Ps.St):
 (match dZ l ks st with|some s=>if dM k s=0 then s else⟨#[]⟩|none=>⟨#[]⟩)=(Ps.step (Ps.take l (λs=>(s,dM k s)) ks) ⟨#[]⟩ st).1:=by
 cases st with
 |error e=>rfl
 |ok a=>
  cases jb:l[a]? with
  |none=>
   have hw:Ps.take l (λs=>(s,dM k s)) ks a=.error (Ps.short l):=by simp only[Ps.take,jb]
   rw[Ps.af hw]
   simp only[dZ,jb]
  |some t=>
   by_cases hkd:t.1∈ks
   ·by_cases hc:dM k t.2.1=0
    ·have hw:Ps.take l (λs=>(s,dM k s)) ks a=.ok (t.2.1,a+1):=by simp only[Ps.take,jb,if_pos hkd,if_pos hc]
     rw[Ps.step_ok hw]
     simp only[dZ,jb,if_pos hkd,if_pos hc]
    ·have hw:Ps.take l (λs=>(s,dM k s)) ks a=.error (Ps.aU l a,dM k t.2.1):=by simp only[Ps.take,jb,if_pos hkd,if_neg hc]
     rw[Ps.af hw]
     simp only[dZ,jb,if_pos hkd,if_neg hc]
   ·have hw:Ps.take l (λs=>(s,dM k s)) ks a=.error (Ps.aU l a,30):=by simp only[Ps.take,jb,if_neg hkd]
    rw[Ps.af hw]
    simp only[dZ,jb,if_neg hkd]
theorem jQ {W0 W:World}{r tb cap:Nat}{l:List Ps.Tok}{st:Ps.St}(h:eu W r tb cap l st)(hl:ek l)(env:lw W0)(hW:Below W0.heap.size W0 W)(hr0:W0.heap.size<=r)(k:Nat)(hk3:k<3)
 (kb kc:Nat) (ks:List Int) (hkb:kb≠r) (hkc:ks.length<=kc) (hkl:ks.length<=100) (hk:∀(j:Nat) (x:Int),ks[j]? =some x->W.cell? ⟨kb,j,none⟩=some (.int .i64 x)):
 Calls Tryz.prog 108 #[.pointer (some ⟨r,0,none⟩),.int .i64 k,.slice (some ⟨kb,0,none⟩) ks.length kc] W λe W'=>
  e=.returned (.string (Ps.step (Ps.take l (λs=>(s,dM k s)) ks) ⟨#[]⟩ st).1)/\eu W' r tb cap l (Ps.step (Ps.take l (λs=>(s,dM k s)) ks) ⟨#[]⟩ st).2/\Tch r r W W':=by
 refine ps_idL W r k kb ks.length kc _ _ (Lib.hid λw kx ob hkx Ca hbw hob0 hkx0 hne=>?_)
 have hlt:=h.lt
 have hs:=h.below hbw
 obtain⟨val,hval⟩:∃val:Option ByteArray->ByteArray,val=λs=>match s with|some s=>if dM k s=0 then s else⟨#[]⟩|none=>⟨#[]⟩:=⟨_,rfl⟩
 have hB0:Below W0.heap.size W0 w:=hW.trans (hbw.mono hW.size)
 refine(Fj hs hl 188 (.pointer (some ⟨kx,0,none⟩)) (.pointer (some ⟨ob,0,none⟩)) kb kc ob ks hkb hkc hkl (λj x hx=>(hbw.cell (World.block_lt_of_cell? W _ (hk j x hx))).trans (hk j x hx)) (by omega) (by omega) (dM k)
  (λs w'=>w'.heap[ob]? =some (.cells #[.string (val s)] 9 (0,0))/\w'.cell? ⟨kx,0,none⟩=some (.int .i64 k)/\Below W0.heap.size W0 w') ?_ ?_
  (enters_of Tryz.func188 (by kernel_rfl) rfl) ?_).mono ?_
 ·rintro s w1 w2 ⟨x1,x2,x3⟩ hT
  exact⟨(hT.block ob (Array.getElem?_eq_some_iff.1 x1).1 (by omega) (by omega)).trans x1,hT.cell x2 (by show kx≠r;omega) (by show kx≠r;omega),x3.trans (hT.below hr0 hr0 x3.size)⟩
 ·rw[hval];exact⟨Ca,hkx,hB0⟩
 ·rintro s w1 ⟨x1,x2,x3⟩ hsz
  have hn:val none=⟨#[]⟩:=by rw[hval]
  rw[hn]at x1
  refine(JU k w1 s kx ob (.string ⟨#[]⟩) _ x2 x1 (IX k hk3 s w1 (by omega) (env w1 x3))).mono ?_
  rintro e w2 ⟨rfl,y1,y2⟩
  refine⟨by rw[xY],⟨?_,y2.cell x2 hne hne,x3.trans (y2.below (by have:=hW.size;omega) (by have:=hW.size;omega) x3.size)⟩,y2⟩
  rw[y1,hval]
  have hc:=xY k s
  by_cases hv:(au k s==0)=true
  ·rw[if_pos hv]at hc⊢
   simp only[<-hc,if_true]
  ·rw[if_neg hv]at hc⊢
   simp only[<-hc]
   rfl
 ·rintro e w2 ⟨rfl,y1,y2,y3,y4,y5⟩
  refine⟨rfl,?_,y1,Tch.fresh hbw y2 hob0⟩
  rw[cell_of_row _ _ _ _ _ _ y3,hval,<-EE l ks k st]
  rfl
structure fK (W0 W:World)(r tb cap:Nat)(l:List Ps.Tok)(st:Ps.St):Prop where
 rd:eu W r tb cap l st
 base:Below W0.heap.size W0 W
 r0:W0.heap.size<=r
theorem fK.next {W0 W W':World}{r tb cap:Nat}{l:List Ps.Tok}{st st':Ps.St}(h:fK W0 W r tb cap l st)(hr:eu W' r tb cap l st')(hT:Tch r r W W'):fK W0 W' r tb cap l st':=
 ⟨hr,h.base.trans (hT.below h.r0 h.r0 h.base.size),h.r0⟩
theorem fK.below {W0 W W':World}{r tb cap:Nat}{l:List Ps.Tok}{st:Ps.St}(h:fK W0 W r tb cap l st)(hb:Below W.heap.size W W'):fK W0 W' r tb cap l st:=
 ⟨h.rd.below hb,h.base.trans (hb.mono h.base.size),h.r0⟩
def vJ (l:List Ps.Tok):Ps.P ByteArray:=Ps.take l (λs=>(s,dM 2 s)) [1,2,4]
def vQ (l:List Ps.Tok):Ps.P ByteArray:=Ps.take l (λs=>(s,dM 1 s)) [1]
def LJ (l:List Ps.Tok):Ps.P ByteArray:=Ps.take l (λs=>(s,dM 0 s)) [1]
def oh (f:Nat)(W0:World)(l:List Ps.Tok)(p:Ps.P ByteArray):Prop:=
 ∀(W:World) (r tb cap:Nat) (st:Ps.St),fK W0 W r tb cap l st->Calls Tryz.prog f #[.pointer (some ⟨r,0,none⟩)] W λe W'=>
  e=.returned (.string (Ps.step p ⟨#[]⟩ st).1)/\fK W0 W' r tb cap l (Ps.step p ⟨#[]⟩ st).2/\Tch r r W W'
theorem uL {W:World}{cs:Array Value}{t:TypeId}(ks:List Int)(hcs:cs.toList=ks.map λk=>Value.int .i64 k)(j:Nat)(x:Int)(hx:ks[j]? =some x):(W.alloc (.cells cs t)).cell? ⟨W.heap.size,j,none⟩=some (.int .i64 x):=by
 rw[cell_of_row _ _ _ _ _ _ (aC W _),<-Array.getElem?_toList,hcs,List.getElem?_map,hx]
 rfl
theorem Ng (W:World)(r:Nat)(v:ByteArray)(P:World->Prop)
 (n1:Hid (∀w,w=W.alloc (.cells #[.int .i64 1,.int .i64 2,.int .i64 4] 3)->Calls Tryz.prog 108 #[.pointer (some ⟨r,0,none⟩),.int .i64 2,.slice (some ⟨W.heap.size,0,none⟩) 3 3] w λe W'=>e=.returned (.string v)/\P W')):
 Calls Tryz.prog 53 #[.pointer (some ⟨r,0,none⟩)] W λe W'=>e=.returned (.string v)/\P W':=by
 go_enter Tryz.func53,Tryz.ntmps53
 go_wp2_with fail
 refine(n1.out _ rfl).mono ?_
 rintro e w ⟨rfl,hp⟩
 clear n1
 go_wp2_with fail
 go_ret
 exact⟨rfl,hp⟩
theorem EL (W:World)(r:Nat)(v:ByteArray)(P:World->Prop)
 (n1:Hid (∀w,w=W.alloc (.cells #[.int .i64 1] 3)->Calls Tryz.prog 108 #[.pointer (some ⟨r,0,none⟩),.int .i64 1,.slice (some ⟨W.heap.size,0,none⟩) 1 1] w λe W'=>e=.returned (.string v)/\P W')):
 Calls Tryz.prog 223 #[.pointer (some ⟨r,0,none⟩)] W λe W'=>e=.returned (.string v)/\P W':=by
 go_enter Tryz.func223,Tryz.ntmps223
 go_wp2_with fail
 refine(n1.out _ rfl).mono ?_
 rintro e w ⟨rfl,hp⟩
 clear n1
 go_wp2_with fail
 go_ret
 exact⟨rfl,hp⟩
theorem KH (W:World)(r:Nat)(v:ByteArray)(P:World->Prop)
 (n1:Hid (∀w,w=W.alloc (.cells #[.int .i64 1] 3)->Calls Tryz.prog 108 #[.pointer (some ⟨r,0,none⟩),.int .i64 0,.slice (some ⟨W.heap.size,0,none⟩) 1 1] w λe W'=>e=.returned (.string v)/\P W')):
 Calls Tryz.prog 231 #[.pointer (some ⟨r,0,none⟩)] W λe W'=>e=.returned (.string v)/\P W':=by
 go_enter Tryz.func231,Tryz.ntmps231
 go_wp2_with fail
 refine(n1.out _ rfl).mono ?_
 rintro e w ⟨rfl,hp⟩
 clear n1
 go_wp2_with fail
 go_ret
 exact⟨rfl,hp⟩
theorem Tch.after {r:Nat}{W W1 W':World}(hb:Below W.heap.size W W1)(h:Tch r r W1 W'):Tch r r W W':=(Tch.of_below hb).trans h
theorem KC {W0:World}{l:List Ps.Tok}(hl:ek l)(env:lw W0):oh 53 W0 l (vJ l):=λW r tb cap st h=>by
 refine Ng W r _ _ (Lib.hid λw hw=>?_)
 have hb:Below W.heap.size W w:=by rw[hw];exact(Below.refl _ _).alloc (Nat.le_refl _) _
 have h1:=h.below hb
 have hlt:=h.rd.lt
 refine(jQ h1.rd hl env h1.base h1.r0 2 (by decide) W.heap.size 3 [1,2,4] (by omega) (by decide) (by decide) (λj x hx=>by rw[hw];exact uL [1,2,4] rfl j x hx)).mono ?_
 rintro e W' ⟨rfl,h2,h3⟩
 exact⟨rfl,h1.next h2 h3,h3.after hb⟩
theorem xX {W0:World}{l:List Ps.Tok}(hl:ek l)(env:lw W0):oh 223 W0 l (vQ l):=λW r tb cap st h=>by
 refine EL W r _ _ (Lib.hid λw hw=>?_)
 have hb:Below W.heap.size W w:=by rw[hw];exact(Below.refl _ _).alloc (Nat.le_refl _) _
 have h1:=h.below hb
 have hlt:=h.rd.lt
 refine(jQ h1.rd hl env h1.base h1.r0 1 (by decide) W.heap.size 1 [1] (by omega) (by decide) (by decide) (λj x hx=>by rw[hw];exact uL [1] rfl j x hx)).mono ?_
 rintro e W' ⟨rfl,h2,h3⟩
 exact⟨rfl,h1.next h2 h3,h3.after hb⟩
theorem O9 {W0:World}{l:List Ps.Tok}(hl:ek l)(env:lw W0):oh 231 W0 l (LJ l):=λW r tb cap st h=>by
 refine KH W r _ _ (Lib.hid λw hw=>?_)
 have hb:Below W.heap.size W w:=by rw[hw];exact(Below.refl _ _).alloc (Nat.le_refl _) _
 have h1:=h.below hb
 have hlt:=h.rd.lt
 refine(jQ h1.rd hl env h1.base h1.r0 0 (by decide) W.heap.size 1 [1] (by omega) (by decide) (by decide) (λj x hx=>by rw[hw];exact uL [1] rfl j x hx)).mono ?_
 rintro e W' ⟨rfl,h2,h3⟩
 exact⟨rfl,h1.next h2 h3,h3.after hb⟩
theorem yM {W0 W:World}{r tb cap:Nat}{l:List Ps.Tok}{st:Ps.St}(hl:ek l)(h:fK W0 W r tb cap l st)(s:ByteArray):
 Calls Tryz.prog 179 #[.pointer (some ⟨r,0,none⟩),.string s] W λe W'=>e=.returned (.tuple #[])/\fK W0 W' r tb cap l (Ps.step (Ps.word l s.data.toList) () st).2/\Tch r r W W':=
 (PZ h.rd hl s).mono λ_ _ ⟨h1,h2,h3⟩=>⟨h1,h.next h2 h3,h3⟩
theorem ps_byL (W:World)(r:Nat)(v:ByteArray)(P Q:World->Prop)
 (n1:Calls Tryz.prog 179 #[.pointer (some ⟨r,0,none⟩),.string ⟨#[98,121]⟩] W λe W'=>e=.returned (.tuple #[])/\P W')
 (n2:Hid (∀w,P w->Calls Tryz.prog 223 #[.pointer (some ⟨r,0,none⟩)] w λe W'=>e=.returned (.string v)/\Q W')):
 Calls Tryz.prog 185 #[.pointer (some ⟨r,0,none⟩)] W λe W'=>e=.returned (.string v)/\Q W':=by
 go_enter Tryz.func185,Tryz.ntmps185
 go_wp2_with fail
 refine n1.mono ?_
 rintro e w ⟨rfl,hp⟩
 have m2:=n2.out w hp
 clear n1 n2
 go_wp2_with fail
 refine m2.mono ?_
 rintro e w2 ⟨rfl,hq⟩
 clear m2
 go_wp2_with fail
 go_ret
 exact⟨rfl,hq⟩
def QD (l:List Ps.Tok):Ps.P ByteArray:=Ps.bind' (Ps.word l Ps.sBy) λ_=>vQ l
theorem ps_by {W0:World}{l:List Ps.Tok}(hl:ek l)(env:lw W0):oh 185 W0 l (QD l):=λW r tb cap st h=>by
 unfold QD
 rw[Ps.JG _ _ () _ st]
 refine ps_byL W r _ (λw=>fK W0 w r tb cap l (Ps.step (Ps.word l Ps.sBy) () st).2/\Tch r r W w) _ (yM hl h ⟨#[98,121]⟩) (Lib.hid λw hw=>?_)
 exact(xX hl env w r tb cap _ hw.1).mono λe W' ⟨h1,h2,h3⟩=>⟨h1,h2,hw.2.trans h3⟩
theorem Lm {α β:Type}(l:List Ps.Tok)(F:ByteArray->α×Int)(G:ByteArray->β×Int)(h:∀s,(F s).2=(G s).2)(ks:List Int)(z:α)(z':β)(st:Ps.St):(Ps.step (Ps.take l F ks) z st).2=(Ps.step (Ps.take l G ks) z' st).2:=by
 cases st with
 |error e=>rfl
 |ok a=>
  cases jb:l[a]? with
  |none=>
   have h1:Ps.take l F ks a=.error (Ps.short l):=by simp only[Ps.take,jb]
   have h2:Ps.take l G ks a=.error (Ps.short l):=by simp only[Ps.take,jb]
   rw[Ps.af h1,Ps.af h2]
  |some t=>
   by_cases hkd:t.1∈ks
   ·by_cases hc:(F t.2.1).2=0
    ·have hg:(G t.2.1).2=0:=by rw[<-h];exact hc
     have h1:Ps.take l F ks a=.ok ((F t.2.1).1,a+1):=by simp only[Ps.take,jb,if_pos hkd,if_pos hc]
     have h2:Ps.take l G ks a=.ok ((G t.2.1).1,a+1):=by simp only[Ps.take,jb,if_pos hkd,if_pos hg]
     rw[Ps.step_ok h1,Ps.step_ok h2]
    ·have hg:¬(G t.2.1).2=0:=by rw[<-h];exact hc
     have h1:Ps.take l F ks a=.error (Ps.aU l a,(F t.2.1).2):=by simp only[Ps.take,jb,if_pos hkd,if_neg hc]
     have h2:Ps.take l G ks a=.error (Ps.aU l a,(G t.2.1).2):=by simp only[Ps.take,jb,if_pos hkd,if_neg hg]
     rw[Ps.af h1,Ps.af h2,h]
   ·have h1:Ps.take l F ks a=.error (Ps.aU l a,30):=by simp only[Ps.take,jb,if_neg hkd]
    have h2:Ps.take l G ks a=.error (Ps.aU l a,30):=by simp only[Ps.take,jb,if_neg hkd]
    rw[Ps.af h1,Ps.af h2]
theorem ES (l:List Ps.Tok)(ks:List Int)(F:ByteArray->Int×Int)(hF:∀s,(F s).2≠0->(F s).1=0)(st:Ps.St):
 (match dZ l ks st with|some s=>(F s).1|none=>0)=(Ps.step (Ps.take l F ks) 0 st).1:=by
 cases st with
 |error e=>rfl
 |ok a=>
  cases jb:l[a]? with
  |none=>
   have hw:Ps.take l F ks a=.error (Ps.short l):=by simp only[Ps.take,jb]
   rw[Ps.af hw]
   simp only[dZ,jb]
  |some t=>
   by_cases hkd:t.1∈ks
   ·by_cases hc:(F t.2.1).2=0
    ·have hw:Ps.take l F ks a=.ok ((F t.2.1).1,a+1):=by simp only[Ps.take,jb,if_pos hkd,if_pos hc]
     rw[Ps.step_ok hw]
     simp only[dZ,jb,if_pos hkd]
    ·have hw:Ps.take l F ks a=.error (Ps.aU l a,(F t.2.1).2):=by simp only[Ps.take,jb,if_pos hkd,if_neg hc]
     rw[Ps.af hw]
     simp only[dZ,jb,if_pos hkd]
     exact hF _ hc
   ·have hw:Ps.take l F ks a=.error (Ps.aU l a,30):=by simp only[Ps.take,jb,if_neg hkd]
    rw[Ps.af hw]
    simp only[dZ,jb,if_neg hkd]
def nH (g:Nat)(W0:World)(F:ByteArray->Int×Int):Prop:=
 (∀args w,(callFunc g args).run Tryz.prog w=.ok (.enter g args) w)/\(∀s,(F s).2≠0->(F s).1=0)/\
 ∀w (s:ByteArray),Below W0.heap.size W0 w->s.size<=1000000->Calls Tryz.prog g #[.string s] w λe W'=>e=.returned (.tuple #[.int .i64 (F s).1,.int .i64 (F s).2])/\Below w.heap.size w W'
theorem EC (w:World)(s:ByteArray)(g kx ob:Nat)(u:Value)(n x:Int)(hk:w.cell? ⟨kx,0,none⟩=some (.func (.func g) #[] #[]))(ho:w.heap[ob]? =some (.cells #[u] 2 (0,0)))
 (eg:∀args w,(callFunc g args).run Tryz.prog w=.ok (.enter g args) w)
 (n1:Calls Tryz.prog g #[.string s] w λe w'=>e=.returned (.tuple #[.int .i64 n,.int .i64 x])/\Below w.heap.size w w'):
 Calls Tryz.prog 252 #[.string s,.pointer (some ⟨kx,0,none⟩),.pointer (some ⟨ob,0,none⟩)] w λe w'=>e=.returned (.int .i64 x)/\w'.heap[ob]? =some (.cells #[.int .i64 n] 2 (0,0))/\Tch ob ob w w':=by
 have HO:=Lib.hid ho
 clear ho
 go_enter Tryz.func252,Tryz.ntmps252
 go_wp2_with (go_at_fn g;refine n1.mono ?_;rintro e w' ⟨rfl,hb⟩;have HR:=Lib.hid ((hb.block ob (Array.getElem?_eq_some_iff.1 HO.out).1).trans HO.out);have f0:=aZ 0 HR.out;have z0:w'.cell? ⟨ob,0,none⟩=some u:=(by rw[cell_of_row _ _ _ _ _ _ HR.out];rfl);have HB:=Lib.hid hb;clear hb)
 go_ret
 exact⟨rfl,bB w' ob 0 _ _ _ HR.out,(Tch.of_below HB.out).setCell 0 _⟩
theorem IP (W:World)(r g:Nat)(kd v:Int)(P:World->Prop)
 (n1:Hid (∀w kx ob kb,w.cell? ⟨kx,0,none⟩=some (.func (.func g) #[] #[])->w.heap[ob]? =some (.cells #[.int .i64 0] 2 (0,0))->w.cell? ⟨kb,0,none⟩=some (.int .i64 kd)->Below W.heap.size W w->W.heap.size<=ob->W.heap.size<=kx->W.heap.size<=kb->kx≠ob->
  Calls Tryz.prog 187 #[.pointer (some ⟨r,0,none⟩),.func (.func 252) #[] #[.pointer (some ⟨kx,0,none⟩),.pointer (some ⟨ob,0,none⟩)],.slice (some ⟨kb,0,none⟩) 1 1] w λe W'=>e=.returned (.tuple #[])/\W'.cell? ⟨ob,0,none⟩=some (.int .i64 v)/\P W')):
 Calls Tryz.prog 224 #[.pointer (some ⟨r,0,none⟩),.func (.func g) #[] #[],.int .i64 kd] W λe W'=>e=.returned (.int .i64 v)/\P W':=by
 go_enter Tryz.func224,Tryz.ntmps224
 go_wp2_with fail
 refine(n1.out _ W.heap.size (W.heap.size+1) (W.heap.size+1+1) ?_ ?_ ?_ ?_ (by omega) (by omega) (by omega) (by omega)).mono ?_
 ·exact Lib.cell?_alloc_some _ (Lib.cell?_alloc_some _ (by rw[cell_of_row _ _ _ _ _ _ (aC W _)];rfl))
 ·rw[Below.heap_alloc _ _ _ (by simp)]
  have h:=aC (W.alloc (Obj.cells #[.func (.func g) #[] #[]] 242)) (Obj.cells #[.int .i64 0] 2)
  rwa [show(W.alloc (Obj.cells #[.func (.func g) #[] #[]] 242)).heap.size=W.heap.size+1 from by simp]at h
 ·have h:=aC ((W.alloc (Obj.cells #[.func (.func g) #[] #[]] 242)).alloc (Obj.cells #[.int .i64 0] 2)) (Obj.cells #[.int .i64 kd] 3)
  rw[show((W.alloc (Obj.cells #[.func (.func g) #[] #[]] 242)).alloc (Obj.cells #[.int .i64 0] 2)).heap.size=W.heap.size+1+1 from by simp]at h
  rw[cell_of_row _ _ _ _ _ _ h];rfl
 ·exact(((Below.refl _ _).alloc (Nat.le_refl _) _).alloc (by simp) _).alloc (by simp;omega) _
 rintro x w' ⟨rfl,hv,hp⟩
 clear n1
 go_wp2_with fail
 go_ret
 exact⟨rfl,hp⟩
theorem wE {W0 W:World}{r tb cap:Nat}{l:List Ps.Tok}{st:Ps.St}(hl:ek l)(h:fK W0 W r tb cap l st)(g:Nat)(F:ByteArray->Int×Int)(hg:nH g W0 F)(kd:Int):
 Calls Tryz.prog 224 #[.pointer (some ⟨r,0,none⟩),.func (.func g) #[] #[],.int .i64 kd] W λe W'=>
  e=.returned (.int .i64 (Ps.step (Ps.take l F [kd]) 0 st).1)/\fK W0 W' r tb cap l (Ps.step (Ps.take l F [kd]) 0 st).2/\Tch r r W W':=by
 obtain⟨eg,hF,hc⟩:=hg
 refine IP W r g kd _ _ (Lib.hid λw kx ob kb hkx Ca hkb hbw hob0 hkx0 hkb0 hne=>?_)
 have hlt:=h.rd.lt
 have h1:=h.below hbw
 obtain⟨val,hval⟩:∃val:Option ByteArray->Int,val=λs=>match s with|some s=>(F s).1|none=>0:=⟨_,rfl⟩
 refine(Fj h1.rd hl 252 (.pointer (some ⟨kx,0,none⟩)) (.pointer (some ⟨ob,0,none⟩)) kb 1 ob [kd] (by omega) (by simp) (by simp)
  (λj x hx=>by
   cases j with
   |zero=>obtain rfl:kd=x:=by simpa using hx
          exact hkb
   |succ j=>simp at hx) (by omega) (by omega) (λs=>(F s).2)
  (λs w'=>w'.heap[ob]? =some (.cells #[.int .i64 (val s)] 2 (0,0))/\w'.cell? ⟨kx,0,none⟩=some (.func (.func g) #[] #[])/\Below W0.heap.size W0 w') ?_ ?_
  (enters_of Tryz.func252 (by kernel_rfl) rfl) ?_).mono ?_
 ·rintro s w1 w2 ⟨x1,x2,x3⟩ hT
  exact⟨(hT.block ob (Array.getElem?_eq_some_iff.1 x1).1 (by omega) (by omega)).trans x1,hT.cell x2 (by show kx≠r;omega) (by show kx≠r;omega),x3.trans (hT.below h.r0 h.r0 x3.size)⟩
 ·rw[hval];exact⟨Ca,hkx,h1.base⟩
 ·rintro s w1 ⟨x1,x2,x3⟩ hsz
  refine(EC w1 s g kx ob _ (F s).1 (F s).2 x2 x1 eg (hc w1 s x3 hsz)).mono ?_
  rintro e w2 ⟨rfl,y1,y2⟩
  have hB:W0.heap.size<=ob:=by have:=h.base.size;omega
  exact⟨rfl,⟨by rw[y1,hval],y2.cell x2 hne hne,x3.trans (y2.below hB hB x3.size)⟩,y2⟩
 ·rintro e w2 ⟨rfl,y1,y2,y3,y4,y5⟩
  have hT:=Tch.fresh hbw y2 hob0
  rw[Lm l (λs=>(s,(F s).2)) F (λ_=>rfl) [kd] ⟨#[]⟩ 0 st]at y1
  refine⟨rfl,?_,h.next y1 hT,hT⟩
  rw[cell_of_row _ _ _ _ _ _ y3,hval,<-ES l [kd] F hF st]
  rfl
def wD (f:Nat)(W0:World)(l:List Ps.Tok)(p:Ps.P Int):Prop:=
 ∀(W:World) (r tb cap:Nat) (st:Ps.St),fK W0 W r tb cap l st->Calls Tryz.prog f #[.pointer (some ⟨r,0,none⟩)] W λe W'=>
  e=.returned (.int .i64 (Ps.step p 0 st).1)/\fK W0 W' r tb cap l (Ps.step p 0 st).2/\Tch r r W W'
theorem Na {W0:World}{l:List Ps.Tok}(hl:ek l)(F:ByteArray->Int×Int)(hF:nH 225 W0 F):wD 180 W0 l (Ps.take l F [3]):=λW r tb cap st h=>by
 have n1:=wE hl h 225 F hF 3
 generalize Ps.step (Ps.take l F [3]) 0 st=x at *
 clear h hF hl
 go_enter Tryz.func180,Tryz.ntmps180
 go_wp2_with fail
 refine n1.mono ?_
 rintro e w ⟨rfl,h1,h2⟩
 clear n1
 go_wp2_with fail
 go_ret
 exact⟨rfl,h1,h2⟩
theorem CF {W0:World}{l:List Ps.Tok}(hl:ek l)(F:ByteArray->Int×Int)(hF:nH 257 W0 F):wD 230 W0 l (Ps.take l F [2]):=λW r tb cap st h=>by
 have n1:=wE hl h 257 F hF 2
 generalize Ps.step (Ps.take l F [2]) 0 st=x at *
 clear h hF hl
 go_enter Tryz.func230,Tryz.ntmps230
 go_wp2_with fail
 refine n1.mono ?_
 rintro e w ⟨rfl,h1,h2⟩
 clear n1
 go_wp2_with fail
 go_ret
 exact⟨rfl,h1,h2⟩
theorem ps_day {W0:World}{l:List Ps.Tok}(hl:ek l)(F:ByteArray->Int×Int)(hF:nH 226 W0 F):wD 181 W0 l (Ps.take l F [4]):=λW r tb cap st h=>by
 have n1:=wE hl h 226 F hF 4
 generalize Ps.step (Ps.take l F [4]) 0 st=x at *
 clear h hF hl
 go_enter Tryz.func181,Tryz.ntmps181
 go_wp2_with fail
 refine n1.mono ?_
 rintro e w ⟨rfl,h1,h2⟩
 clear n1
 go_wp2_with fail
 go_ret
 exact⟨rfl,h1,h2⟩
def bT (W0 W:World)(r tb cap q:Nat)(l:List Ps.Tok)(st:Ps.St)(cs:Array Value)(w:World):Prop:=
 fK W0 w r tb cap l st/\w.heap[q]? =some (.cells cs 37 (0,0))/\Tch r q W w/\q≠r/\q≠tb/\W0.heap.size<=q
theorem bT.step {W0 W:World}{r tb cap q:Nat}{l:List Ps.Tok}{st st':Ps.St}{cs:Array Value}{w w':World}(h:bT W0 W r tb cap q l st cs w)(h1:fK W0 w' r tb cap l st')(h2:Tch r r w w'):bT W0 W r tb cap q l st' cs w':=by
 obtain⟨a,b,c,d,e,f⟩:=h
 exact⟨h1,(h2.block q (Array.getElem?_eq_some_iff.1 b).1 d d).trans b,c.trans h2.left,d,e,f⟩
theorem bT.cell {W0 W:World}{r tb cap q:Nat}{l:List Ps.Tok}{st:Ps.St}{cs:Array Value}{w:World}(h:bT W0 W r tb cap q l st cs w)(j:Nat)(hj:j<cs.size):(∃u,w.cell? ⟨q,j,none⟩=some u)/\w.frozen? ⟨q,j,none⟩=false:=by
 obtain⟨a,b,c,d,e,f⟩:=h
 exact⟨⟨cs[j],by rw[cell_of_row _ _ _ _ _ _ b];exact Array.getElem?_eq_getElem hj⟩,aZ j b⟩
theorem bT.store {W0 W:World}{r tb cap q:Nat}{l:List Ps.Tok}{st:Ps.St}{cs:Array Value}{w:World}(h:bT W0 W r tb cap q l st cs w)(j:Nat)(v:Value):bT W0 W r tb cap q l st (cs.setIfInBounds j v) (w.setCell ⟨q,j,none⟩ v):=by
 obtain⟨a,b,c,d,e,f⟩:=h
 have hT:Tch q q w (w.setCell ⟨q,j,none⟩ v):=(Tch.refl _ _ _).setCell j v
 refine⟨⟨?_,a.base.trans (hT.below f f a.base.size),a.r0⟩,bB w q j _ _ _ b,c.trans hT.right,d,e,f⟩
 obtain⟨x,o,er,hr,ht,hne,rest⟩:=a.rd
 exact⟨x,o,er,(hT.block r (Array.getElem?_eq_some_iff.1 hr).1 (Ne.symm d) (Ne.symm d)).trans hr,ht.tch hT (Ne.symm e) (Ne.symm e),hne,rest⟩
def prN:List ByteArray:=[⟨#[110,111,114,109,97,108]⟩,⟨#[104,105,103,104]⟩,⟨#[117,114,103,101,110,116]⟩]
def rQ (w:World):Prop:=∀(j:Nat) (s:ByteArray),prN[j]? =some s->w.cell? ⟨3,j,none⟩=some (.string s)
theorem LC (w:World)(g j:Nat)(s:ByteArray)(h0:¬(j:Int)<0)(h1:¬(3:Int)<=(j:Int))(h2:(j:Int)<3)(_hj:j<3)(hc:w.cell? ⟨g,j,none⟩=some (.string s)):
 Calls Tryz.prog 127 #[.slice (some ⟨g,0,none⟩) 3 3,.int .i64 j] w λe w'=>e=.returned (.string s)/\w=w':=by
 go_enter Tryz.func127,Tryz.ntmps127
 go_wp2_with fail
 go_ret
 exact⟨rfl,rfl⟩
theorem Aj (w:World)(j:Nat)(s:ByteArray)(n1:Calls Tryz.prog 127 #[.slice (some ⟨3,0,none⟩) 3 3,.int .i64 j] w λe w'=>e=.returned (.string s)/\w=w'):
 Calls Tryz.prog 128 #[.int .i64 j] w λe w'=>e=.returned (.string s)/\w=w':=by
 go_enter Tryz.func128,Tryz.ntmps128
 go_wp2_with fail
 refine n1.mono ?_
 rintro e w1 ⟨rfl,rfl⟩
 clear n1
 go_wp2_with fail
 go_ret
 exact⟨rfl,rfl⟩
theorem ma (w:World)(h:rQ w)(j:Nat)(s:ByteArray)(hj:prN[j]? =some s):Calls Tryz.prog 128 #[.int .i64 j] w λe w'=>e=.returned (.string s)/\w=w':=by
 have hl:j<3:=(List.getElem?_eq_some_iff.1 hj).1
 exact Aj w j s (LC w _ j s (by omega) (by omega) (by omega) hl (h j s hj))
theorem z8 (w:World):Calls Tryz.prog 228 #[.string ⟨#[]⟩] w λe w'=>e=.returned (.int .i64 (-1))/\w=w':=by
 go_enter Tryz.func228,Tryz.ntmps228
 go_wp2_with fail
 go_loopw [3] (λpv wr=>pv=.int .i64 0/\wr=w) (λ_ _=>0)
 case atStart=>exact⟨rfl,rfl⟩
 case round=>
  obtain⟨rfl,rfl⟩:=hrel
  go_wp2_with fail
  go_ret
  exact⟨rfl,rfl⟩
theorem L9 (w:World)(s:ByteArray)(hs:(s.toList==([]:List UInt8))=false)(m:Option Nat)(v:Int)(hv:Hid (v=match m with|some j=>(j:Int)|none=> -1))
 (hm:Hid (∀(j:Nat) (t:ByteArray),prN[j]? =some t->(∀i,m=some i->j<=i)->((t.toList==s.toList)=true↔m=some j))) (hm3:∀i,m=some i->i<3)
 (n1:Hid (∀(j:Nat) (t:ByteArray),prN[j]? =some t->Calls Tryz.prog 128 #[.int .i64 j] w λe w'=>e=.returned (.string t)/\w=w')):
 Calls Tryz.prog 228 #[.string s] w λe w'=>e=.returned (.int .i64 v)/\w=w':=by
 go_enter Tryz.func228,Tryz.ntmps228
 go_wp2_with fail
 go_loopw [3] (λpv wr=>∃j:Nat,pv=.int .i64 j/\j<=3/\Hid (∀i,m=some i->j<=i)/\wr=w) (λpv _=>3-(RowKit.intOf pv).toNat)
 case atStart=>exact⟨0,rfl,by omega,Lib.hid (λ_ _=>Nat.zero_le _),rfl⟩
 case round=>
  obtain⟨j,rfl,hj,HJ,rfl⟩:=hrel
  by_cases hlt:j<3
  ·obtain⟨t,ht⟩:∃t,prN[j]? =some t:=⟨_,List.getElem?_eq_getElem (by exact hlt)⟩
   have m1:=n1.out j t ht
   have hq:=hm.out j t ht HJ.out
   have hjI:(j:Int)<=2:=by omega
   by_cases hmj:m=some j
   ·have hte:=hq.2 hmj
    have HV:Hid (v=(j:Int)):=Lib.hid (by rw[hv.out,hmj])
    clear hm3 hmj hq ht
    go_wp2_with fail
    refine m1.mono ?_
    rintro e w1 ⟨rfl,rfl⟩
    clear m1
    go_wp2_with fail
    go_ret
    rw[HV.out]
    exact⟨rfl,rfl⟩
   ·have hte:(t.toList==s.toList)=false:=by
     rw[Bool.eq_false_iff]
     exactλh=>hmj (hq.1 h)
    have HJ2:Hid (∀i,m=some i->j+1<=i):=Lib.hid (λi hi=>by
     have:=HJ.out i hi
     rcases Nat.lt_or_ge j i with h|h
     ·exact h
     ·exact absurd (by rw[hi];congr 1;omega) hmj)
    clear hm3 hmj hq ht
    go_wp2_with fail
    refine m1.mono ?_
    rintro e w1 ⟨rfl,rfl⟩
    clear m1
    go_wp2_with fail
    refine⟨⟨j+1,by go_num,by omega,HJ2,trivial⟩,by simp[RowKit.intOf]<;>omega⟩
  ·have hjI:¬(j:Int)<=2:=by omega
   have HV:Hid (v= -1):=Lib.hid (by
    rw[hv.out]
    cases hmi:m with
    |none=>rfl
    |some i=>have:=HJ.out i hmi;have:=hm3 i hmi;omega)
   clear hm3 hlt
   go_wp2_with fail
   go_ret
   rw[HV.out]
   exact⟨rfl,rfl⟩
def prM (s:ByteArray):Option Nat:=if s.data.toList=Ps.qL then some 0 else if s.data.toList=Ps.GI then some 1 else if s.data.toList=Ps.tO then some 2 else none
def prV (s:ByteArray):Int:=match prM s with|some j=>(j:Int)|none=> -1
theorem Av (s:ByteArray):Ps.prio s.data.toList=(prM s).map λj=>(j:Int):=by
 unfold Ps.prio prM
 split
 ·rfl
 ·split
  ·rfl
  ·split<;>rfl
theorem BG (w:World)(s:ByteArray)(h:rQ w):Calls Tryz.prog 228 #[.string s] w λe w'=>e=.returned (.int .i64 (prV s))/\w=w':=by
 by_cases hs:s.data.toList=[]
 ·have e1:s=⟨#[]⟩:=by
   apply ByteArray.ext
   exact Array.toList_inj.1 hs
  subst e1
  exact z8 w
 ·refine L9 w s (by rw[beq_eq_false_iff_ne,Lib.toList_data];exact hs) (prM s) _ (Lib.hid rfl) (Lib.hid λj t ht hle=>?_) (λi hi=>?_) (Lib.hid λj t ht=>ma w h j t ht)
  ·have hl:j<3:=(List.getElem?_eq_some_iff.1 ht).1
   rw[beq_iff_eq,Lib.toList_data,Lib.toList_data]
   have key:∀(x:List UInt8),t.data.toList=x->(x=s.data.toList↔s.data.toList=x):=λx _=>eq_comm
   match j,hl with
   |0,_=>
    obtain rfl:t=⟨#[110,111,114,109,97,108]⟩:=(Option.some.inj ht).symm
    have e:(⟨#[110,111,114,109,97,108]⟩:ByteArray).data.toList=Ps.qL:=rfl
    rw[e]
    unfold prM
    constructor
    ·intro h;rw[if_pos h.symm]
    ·intro h
     by_cases hc:s.data.toList=Ps.qL
     ·exact hc.symm
     ·rw[if_neg hc]at h
      split at h
      ·cases h
      ·split at h<;>cases h
   |1,_=>
    obtain rfl:t=⟨#[104,105,103,104]⟩:=(Option.some.inj ht).symm
    have e:(⟨#[104,105,103,104]⟩:ByteArray).data.toList=Ps.GI:=rfl
    rw[e]
    unfold prM
    constructor
    ·intro h
     rw[<-h,if_neg (by decide),if_pos rfl]
    ·intro h
     split at h
     ·cases h
     ·split at h
      ·rename_i hc;exact hc.symm
      ·split at h<;>cases h
   |2,_=>
    obtain rfl:t=⟨#[117,114,103,101,110,116]⟩:=(Option.some.inj ht).symm
    have e:(⟨#[117,114,103,101,110,116]⟩:ByteArray).data.toList=Ps.tO:=rfl
    rw[e]
    unfold prM
    constructor
    ·intro h
     rw[<-h,if_neg (by decide),if_neg (by decide),if_pos rfl]
    ·intro h
     split at h
     ·cases h
     ·split at h
      ·cases h
      ·split at h
       ·rename_i hc;exact hc.symm
       ·cases h
  ·unfold prM at hi
   split at hi
   ·cases hi;decide
   ·split at hi
    ·cases hi;decide
    ·split at hi
     ·cases hi;decide
     ·cases hi
theorem Cw (w:World)(r sb p:Nat)(P:World->Prop)(_h6:p<6)(hi:(p:Int)<6)(hc:w.cell? ⟨sb,p,none⟩=some (.bool true))
 (n1:Calls Tryz.prog 54 #[.pointer (some ⟨r,0,none⟩),.int .i64 7] w λe W'=>e=.returned (.tuple #[])/\P W'):
 Calls Tryz.prog 229 #[.pointer (some ⟨r,0,none⟩),.pointer (some ⟨sb,0,none⟩),.int .i64 p] w λe W'=>e=.returned (.bool false)/\P W':=by
 go_enter Tryz.func229,Tryz.ntmps229
 go_wp2_with fail
 refine n1.mono ?_
 rintro e w1 ⟨rfl,hp⟩
 clear n1
 go_wp2_with fail
 go_ret
 exact⟨rfl,hp⟩
theorem Gl (w:World)(r sb p tb n cap a:Nat)(o e0:Int)(cs:Array Value)(t:TypeId)(_h6:p<6)(hi:(p:Int)<6)(hrow:w.heap[sb]? =some (.cells cs t (0,0)))(hcp:cs[p]? =some (.bool false))(hne:sb≠r)
 (hr:w.heap[r]? =some (.cells (av tb n cap a o e0) 97 (0,0))) (hw1:wrap64 ((a:Int)+1)=((a+1:Nat):Int)):
 Calls Tryz.prog 229 #[.pointer (some ⟨r,0,none⟩),.pointer (some ⟨sb,0,none⟩),.int .i64 p] w λe W'=>e=.returned (.bool true)/\W'.heap[r]? =some (.cells (av tb n cap (a+1) o e0) 97 (0,0))/\W'.heap[sb]? =some (.cells (cs.setIfInBounds p (.bool true)) t (0,0))/\Tch r sb w W':=by
 have hc:w.cell? ⟨sb,p,none⟩=some (.bool false):=by rw[cell_of_row _ _ _ _ _ _ hrow];exact hcp
 have fc:=aZ p hrow
 obtain⟨w2,hw2⟩:∃w2,w2=w.setCell ⟨sb,p,none⟩ (.bool true):=⟨_,rfl⟩
 have hT:Tch sb sb w w2:=by rw[hw2];exact(Tch.refl _ _ _).setCell p _
 have hr2:w2.heap[r]? =some (.cells (av tb n cap a o e0) 97 (0,0)):=(hT.block r (Array.getElem?_eq_some_iff.1 hr).1 (Ne.symm hne) (Ne.symm hne)).trans hr
 have hs2:w2.heap[sb]? =some (.cells (cs.setIfInBounds p (.bool true)) t (0,0)):=by rw[hw2];exact bB w sb p _ _ _ hrow
 have k1:=(bf hr2).2.1
 have f1:=aZ 1 hr2
 have HT:=Lib.hid hT
 have HR2:=Lib.hid hr2
 have HS2:=Lib.hid hs2
 have HW2:=Lib.hid hw2
 clear hrow hcp hr hT hr2 hs2
 go_enter Tryz.func229,Tryz.ntmps229
 rw[hw2]at k1 f1
 clear hw2
 go_wp2_with fail
 go_ret
 rw[<-HW2.out]
 have hz:Tch r r w2 (w2.setCell ⟨r,1,none⟩ (.int .i64 ((a+1:Nat):Int))):=(Tch.refl _ _ _).setCell 1 _
 refine⟨rfl,?_,?_,?_⟩
 ·exact bB w2 r 1 _ _ _ HR2.out
 ·exact(hz.block sb (Array.getElem?_eq_some_iff.1 HS2.out).1 hne hne).trans HS2.out
 ·exact HT.out.right.trans hz.left
end Go.Proofs.YtnjjeapcalkmaaaGreatDoor
namespace Go.Proofs.YtnjjeapcalkmaaaGreatDoor.Ps
open Go
def Res {α:Type}(p:P α)(st st':St)(x:α):Prop:=match st with
 | .error e=>st'=.error e
 | .ok a=>match st' with
   | .ok b=>p a=.ok (x,b)
   | .error e=>p a=.error e
theorem Res.of_step {α:Type}(p:P α)(z:α)(st:St):Res p st (step p z st).2 (step p z st).1:=by
 cases st with
 |error e=>rfl
 |ok a=>
  unfold Res step
  cases h:p a with
  |error e=>simp[h]
  |ok x=>obtain⟨x,b⟩:=x;simp[h]
theorem Res.pure {α:Type}(x:α)(st:St):Res (dO x) st st x:=by cases st<;>rfl
theorem Res.bind {α β:Type}{m:P α}{f:α->P β}{st st1 st2:St}{y:α}{x:β}(h1:Res m st st1 y)(h2:Res (f y) st1 st2 x):Res (bind' m f) st st2 x:=by
 cases st with
 |error e=>
  obtain rfl:st1=.error e:=h1
  exact h2
 |ok a=>
  cases st1 with
  |error e=>
   obtain rfl:st2=.error e:=h2
   exact cu h1
  |ok b=>
   have e1:bind' m f a=f y b:=bind_ok h1
   cases st2 with
   |error e=>show bind' m f a=_;rw[e1];exact h2
   |ok c=>show bind' m f a=_;rw[e1];exact h2
theorem Res.mono {α:Type}{p q:P α}{st st':St}{x:α}(h:Res p st st' x)(he:∀a,st=.ok a->p a=q a):Res q st st' x:=by
 cases st with
 |error e=>exact h
 |ok a=>unfold Res at h⊢;simp only[<-he a rfl];exact h
def OpI (E:Env)(l:List Tok)(i0:Ins)(st0 st:St)(s:Seen)(i:Ins):Prop:=match st0 with
 | .error e=>st=.error e
 | .ok a0=>match st with
   | .ok a=>∃f,l.length+1<=a+f/\options E l (l.length+1) {} i0 a0=options E l f s i a
   | .error e=>options E l (l.length+1) {} i0 a0=.error e
theorem OpI.start (E:Env)(l:List Tok)(i0:Ins)(st0:St):OpI E l i0 st0 st0 {} i0:=by
 cases st0 with
 |error e=>rfl
 |ok a=>exact⟨l.length+1,by omega,rfl⟩
theorem OpI.res {E:Env}{l:List Tok}{i0 i:Ins}{st0 st:St}{s:Seen}(h:OpI E l i0 st0 st s i)(hend:dA l st=false):Res (options E l (l.length+1) {} i0) st0 st i:=by
 cases st0 with
 |error e=>exact h
 |ok a0=>
  cases st with
  |error e=>exact h
  |ok a=>
   obtain⟨f,hf,h⟩:=h
   show options E l (l.length+1) {} i0 a0=.ok (i,a)
   have hle:l.length<=a:=by simpa[dA]using hend
   rw[h]
   cases f with
   |zero=>rfl
   |succ f=>simp only[options,if_pos hle]
theorem OpI.round {E:Env}{l:List Tok}{i0 i:Ins}{st0 st':St}{a:Nat}{s s':Seen}{i':Ins}(h:OpI E l i0 st0 (.ok a) s i)(hlt:a<l.length)
 (hr:∀f,match st' with| .ok b=>a<b/\options E l (f+1) s i a=options E l f s' i' b| .error e=>options E l (f+1) s i a=.error e):OpI E l i0 st0 st' s' i':=by
 cases st0 with
 |error e=>cases h
 |ok a0=>
  obtain⟨f,hf,h⟩:=h
  obtain⟨f,rfl⟩:∃g,f=g+1:=⟨f-1,by omega⟩
  have hr:=hr f
  cases st' with
  |error e=>exact h.trans hr
  |ok b=>exact⟨f,by omega,h.trans hr.2⟩
theorem OpI.prioDup {E:Env}{l:List Tok}{i0 i:Ins}{st0:St}{a:Nat}{s:Seen}{p:Int}(h:OpI E l i0 st0 (.ok a) s i)(hlt:a<l.length)(hp:prio (aQ l a).data.toList=some p)(hs:s.prio=true)(s':Seen)(i':Ins):OpI E l i0 st0 (.error (aU l a,7)) s' i':=
 h.round hlt λf=>by simp only[options,if_neg (Nat.not_le.2 hlt),hp,hs,if_true];rfl
theorem OpI.prioOk {E:Env}{l:List Tok}{i0 i:Ins}{st0:St}{a:Nat}{s:Seen}{p:Int}(h:OpI E l i0 st0 (.ok a) s i)(hlt:a<l.length)(hp:prio (aQ l a).data.toList=some p)(hs:s.prio=false):OpI E l i0 st0 (.ok (a+1)) {s with prio:=true} {i with priority:=p}:=
 h.round hlt λf=>⟨by omega,by simp only[options,if_neg (Nat.not_le.2 hlt),hp,hs,if_false,Bool.false_eq_true]⟩
theorem OpI.holdDup {E:Env}{l:List Tok}{i0 i:Ins}{st0:St}{a:Nat}{s:Seen}(h:OpI E l i0 st0 (.ok a) s i)(hlt:a<l.length)(hp:(aQ l a).data.toList=bK)(hs:s.hold=true)(s':Seen)(i':Ins):OpI E l i0 st0 (.error (aU l a,7)) s' i':=
 h.round hlt λf=>by
  simp only[options,if_neg (Nat.not_le.2 hlt),hp,show prio bK=none from by decide,show¬bK=aO from by decide,hs,if_true,if_false];rfl
theorem OpI.holdOk {E:Env}{l:List Tok}{i0 i:Ins}{st0:St}{a:Nat}{s:Seen}(h:OpI E l i0 st0 (.ok a) s i)(hlt:a<l.length)(hp:(aQ l a).data.toList=bK)(hs:s.hold=false):OpI E l i0 st0 (.ok (a+1)) {s with hold:=true} {i with hold:=true}:=
 h.round hlt λf=>⟨by omega,by simp only[options,if_neg (Nat.not_le.2 hlt),hp,show prio bK=none from by decide,show¬bK=aO from by decide,hs,if_true,if_false,Bool.false_eq_true]⟩
theorem OpI.resDup {E:Env}{l:List Tok}{i0 i:Ins}{st0:St}{a:Nat}{s:Seen}(h:OpI E l i0 st0 (.ok a) s i)(hlt:a<l.length)(hp:(aQ l a).data.toList=ae)(hs:s.res=true)(s':Seen)(i':Ins):OpI E l i0 st0 (.error (aU l a,7)) s' i':=
 h.round hlt λf=>by
  simp only[options,if_neg (Nat.not_le.2 hlt),hp,show prio ae=none from by decide,show¬ae=aO from by decide,show¬ae=bK from by decide,hs,if_true,if_false];rfl
theorem OpI.resOk {E:Env}{l:List Tok}{i0 i:Ins}{st0:St}{a:Nat}{s:Seen}(h:OpI E l i0 st0 (.ok a) s i)(hlt:a<l.length)(hp:(aQ l a).data.toList=ae)(hs:s.res=false):OpI E l i0 st0 (.ok (a+1)) {s with res:=true} {i with reserve:=true}:=
 h.round hlt λf=>⟨by omega,by simp only[options,if_neg (Nat.not_le.2 hlt),hp,show prio ae=none from by decide,show¬ae=aO from by decide,show¬ae=bK from by decide,hs,if_true,if_false,Bool.false_eq_true]⟩
theorem OpI.partDup {E:Env}{l:List Tok}{i0 i:Ins}{st0:St}{a:Nat}{s:Seen}(h:OpI E l i0 st0 (.ok a) s i)(hlt:a<l.length)(hp:(aQ l a).data.toList=aO)(hs:s.part=true)(s':Seen)(i':Ins):OpI E l i0 st0 (.error (aU l a,7)) s' i':=
 h.round hlt λf=>by
  simp only[options,if_neg (Nat.not_le.2 hlt),hp,show prio aO=none from by decide,hs,if_true];rfl
theorem eP {α:Type}{l:List Tok}{acc:ByteArray->α×Int}{ks:List Int}{a b:Nat}{x:α}(h:take l acc ks a=.ok (x,b)):b=a+1:=by
 unfold take at h
 split at h
 ·cases h
 ·split at h
  ·split at h
   ·cases h;rfl
   ·cases h
  ·cases h
theorem OpI.partOk {E:Env}{l:List Tok}{i0 i:Ins}{st0:St}{a:Nat}{s:Seen}(h:OpI E l i0 st0 (.ok a) s i)(hlt:a<l.length)(hp:(aQ l a).data.toList=aO)(hs:s.part=false):OpI E l i0 st0 (step (quantity E l) 0 (.ok (a+1))).2 {s with part:=true} {i with partial_:=true,minLot:=(step (quantity E l) 0 (.ok (a+1))).1}:=
 h.round hlt λf=>by
  have e:options E l (f+1) s i a=bind' (quantity E l) (λn=>options E l f {s with part:=true} {i with partial_:=true,minLot:=n}) (a+1):=by
   simp only[options,if_neg (Nat.not_le.2 hlt),hp,show prio aO=none from by decide,hs,if_true,if_false,Bool.false_eq_true]
  cases hq:quantity E l (a+1)with
  |error er=>rw[af hq];exact e.trans (cu hq)
  |ok x=>
   obtain⟨x,b⟩:=x
   rw[step_ok hq]
   have:=eP hq
   exact⟨by omega,e.trans (bind_ok hq)⟩
theorem OpI.link {E:Env}{l:List Tok}{i0 i:Ins}{st0:St}{a:Nat}{s:Seen}(h:OpI E l i0 st0 (.ok a) s i)(hlt:a<l.length)(ty:Int)(hp:((aQ l a).data.toList=eU/\ty=0)\/((aQ l a).data.toList=bu/\ty=1)):OpI E l i0 st0 (step (ref E l) ⟨#[]⟩ (.ok (a+1))).2 s {i with links:=i.links++[⟨ty,(step (ref E l) ⟨#[]⟩ (.ok (a+1))).1⟩]}:=
 h.round hlt λf=>by
  have e:options E l (f+1) s i a=bind' (ref E l) (λr=>options E l f s {i with links:=i.links++[⟨ty,r⟩]}) (a+1):=by
   rcases hp with⟨hp,rfl⟩|⟨hp,rfl⟩
   ·simp only[options,if_neg (Nat.not_le.2 hlt),hp,show prio eU=none from by decide,show¬eU=aO from by decide,show¬eU=bK from by decide,show¬eU=ae from by decide,if_true,if_false]
   ·simp only[options,if_neg (Nat.not_le.2 hlt),hp,show prio bu=none from by decide,show¬bu=aO from by decide,show¬bu=bK from by decide,show¬bu=ae from by decide,show¬bu=eU from by decide,if_true,if_false]
  cases hq:ref E l (a+1)with
  |error er=>rw[af hq];exact e.trans (cu hq)
  |ok x=>
   obtain⟨x,b⟩:=x
   rw[step_ok hq]
   have hq2:take l (λs=>(s,if E.valid 2 s then 0 else 6)) [1,2,4] (a+1)=.ok (x,b):=hq
   have:=eP hq2
   exact⟨by omega,e.trans (bind_ok hq)⟩
theorem OpI.none {E:Env}{l:List Tok}{i0 i:Ins}{st0:St}{a:Nat}{s:Seen}(h:OpI E l i0 st0 (.ok a) s i)(hlt:a<l.length)(hp:prio (aQ l a).data.toList=.none)(h1:(aQ l a).data.toList≠aO)(h2:(aQ l a).data.toList≠bK)(h3:(aQ l a).data.toList≠ae)(h4:(aQ l a).data.toList≠eU)(h5:(aQ l a).data.toList≠bu)(s':Seen)(i':Ins):OpI E l i0 st0 (.error (aU l a,30)) s' i':=
 h.round hlt λf=>by
  simp only[options,if_neg (Nat.not_le.2 hlt),hp,if_neg h1,if_neg h2,if_neg h3,if_neg h4,if_neg h5];rfl
def ChI (E:Env)(l:List Tok)(i0:Amd)(st0 st:St)(s:Seen)(i:Amd):Prop:=match st0 with
 | .error e=>st=.error e
 | .ok a0=>match st with
   | .ok a=>∃f,l.length+1<=a+f/\changes E l (l.length+1) {} i0 a0=changes E l f s i a
   | .error e=>changes E l (l.length+1) {} i0 a0=.error e
theorem ChI.start (E:Env)(l:List Tok)(i0:Amd)(st0:St):ChI E l i0 st0 st0 {} i0:=by
 cases st0 with
 |error e=>rfl
 |ok a=>exact⟨l.length+1,by omega,rfl⟩
theorem ChI.res {E:Env}{l:List Tok}{i0 i:Amd}{st0 st:St}{s:Seen}(h:ChI E l i0 st0 st s i)(hend:dA l st=false):Res (changes E l (l.length+1) {} i0) st0 st i:=by
 cases st0 with
 |error e=>exact h
 |ok a0=>
  cases st with
  |error e=>exact h
  |ok a=>
   obtain⟨f,hf,h⟩:=h
   show changes E l (l.length+1) {} i0 a0=.ok (i,a)
   have hle:l.length<=a:=by simpa[dA]using hend
   rw[h]
   cases f with
   |zero=>rfl
   |succ f=>simp only[changes,if_pos hle]
theorem ChI.round {E:Env}{l:List Tok}{i0 i:Amd}{st0 st':St}{a:Nat}{s s':Seen}{i':Amd}(h:ChI E l i0 st0 (.ok a) s i)(hlt:a<l.length)
 (hr:∀f,match st' with| .ok b=>a<b/\changes E l (f+1) s i a=changes E l f s' i' b| .error e=>changes E l (f+1) s i a=.error e):ChI E l i0 st0 st' s' i':=by
 cases st0 with
 |error e=>cases h
 |ok a0=>
  obtain⟨f,hf,h⟩:=h
  obtain⟨f,rfl⟩:∃g,f=g+1:=⟨f-1,by omega⟩
  have hr:=hr f
  cases st' with
  |error e=>exact h.trans hr
  |ok b=>exact⟨f,by omega,h.trans hr.2⟩
theorem ChI.prioDup {E:Env}{l:List Tok}{i0 i:Amd}{st0:St}{a:Nat}{s:Seen}{p:Int}(h:ChI E l i0 st0 (.ok a) s i)(hlt:a<l.length)(hp:prio (aQ l a).data.toList=some p)(hs:s.prio=true)(s':Seen)(i':Amd):ChI E l i0 st0 (.error (aU l a,7)) s' i':=
 h.round hlt λf=>by simp only[changes,if_neg (Nat.not_le.2 hlt),hp,hs,if_true];rfl
theorem ChI.prioOk {E:Env}{l:List Tok}{i0 i:Amd}{st0:St}{a:Nat}{s:Seen}{p:Int}(h:ChI E l i0 st0 (.ok a) s i)(hlt:a<l.length)(hp:prio (aQ l a).data.toList=some p)(hs:s.prio=false):ChI E l i0 st0 (.ok (a+1)) {s with prio:=true} {i with hasPriority:=true,priority:=p}:=
 h.round hlt λf=>⟨by omega,by simp only[changes,if_neg (Nat.not_le.2 hlt),hp,hs,if_false,Bool.false_eq_true]⟩
theorem ChI.partDup {E:Env}{l:List Tok}{i0 i:Amd}{st0:St}{a:Nat}{s:Seen}(h:ChI E l i0 st0 (.ok a) s i)(hlt:a<l.length)(hp:(aQ l a).data.toList=aO)(hs:s.part=true)(s':Seen)(i':Amd):ChI E l i0 st0 (.error (aU l a,7)) s' i':=
 h.round hlt λf=>by
  simp only[changes,if_neg (Nat.not_le.2 hlt),hp,show prio aO=none from by decide,hs,if_true];rfl
theorem ChI.partOk {E:Env}{l:List Tok}{i0 i:Amd}{st0:St}{a:Nat}{s:Seen}(h:ChI E l i0 st0 (.ok a) s i)(hlt:a<l.length)(hp:(aQ l a).data.toList=aO)(hs:s.part=false):ChI E l i0 st0 (step (quantity E l) 0 (.ok (a+1))).2 {s with part:=true} {i with hasPartial:=true,partial_:=true,minLot:=(step (quantity E l) 0 (.ok (a+1))).1}:=
 h.round hlt λf=>by
  have e:changes E l (f+1) s i a=bind' (quantity E l) (λn=>changes E l f {s with part:=true} {i with hasPartial:=true,partial_:=true,minLot:=n}) (a+1):=by
   simp only[changes,if_neg (Nat.not_le.2 hlt),hp,show prio aO=none from by decide,hs,if_true,if_false,Bool.false_eq_true]
  cases hq:quantity E l (a+1)with
  |error er=>rw[af hq];exact e.trans (cu hq)
  |ok x=>
   obtain⟨x,b⟩:=x
   rw[step_ok hq]
   have:=eP hq
   exact⟨by omega,e.trans (bind_ok hq)⟩
theorem ChI.wholeDup {E:Env}{l:List Tok}{i0 i:Amd}{st0:St}{a:Nat}{s:Seen}(h:ChI E l i0 st0 (.ok a) s i)(hlt:a<l.length)(hp:(aQ l a).data.toList=dz)(hs:s.part=true)(s':Seen)(i':Amd):ChI E l i0 st0 (.error (aU l a,7)) s' i':=
 h.round hlt λf=>by
  simp only[changes,if_neg (Nat.not_le.2 hlt),hp,show prio dz=none from by decide,show¬dz=aO from by decide,hs,if_true,if_false];rfl
theorem ChI.wholeOk {E:Env}{l:List Tok}{i0 i:Amd}{st0:St}{a:Nat}{s:Seen}(h:ChI E l i0 st0 (.ok a) s i)(hlt:a<l.length)(hp:(aQ l a).data.toList=dz)(hs:s.part=false):ChI E l i0 st0 (.ok (a+1)) {s with part:=true} {i with hasPartial:=true}:=
 h.round hlt λf=>⟨by omega,by simp only[changes,if_neg (Nat.not_le.2 hlt),hp,show prio dz=none from by decide,show¬dz=aO from by decide,hs,if_true,if_false,Bool.false_eq_true]⟩
theorem ChI.amountDup {E:Env}{l:List Tok}{i0 i:Amd}{st0:St}{a:Nat}{s:Seen}(h:ChI E l i0 st0 (.ok a) s i)(hlt:a<l.length)(hp:(aQ l a).data.toList=bE)(hs:s.amount=true)(s':Seen)(i':Amd):ChI E l i0 st0 (.error (aU l a,7)) s' i':=
 h.round hlt λf=>by
  simp only[changes,if_neg (Nat.not_le.2 hlt),hp,show prio bE=none from by decide,show¬bE=aO from by decide,show¬bE=dz from by decide,hs,if_true,if_false];rfl
theorem ChI.amountOk {E:Env}{l:List Tok}{i0 i:Amd}{st0:St}{a:Nat}{s:Seen}(h:ChI E l i0 st0 (.ok a) s i)(hlt:a<l.length)(hp:(aQ l a).data.toList=bE)(hs:s.amount=false):ChI E l i0 st0 (step (cash E l) 0 (.ok (a+1))).2 {s with amount:=true} {i with hasAmount:=true,amount:=(step (cash E l) 0 (.ok (a+1))).1}:=
 h.round hlt λf=>by
  have e:changes E l (f+1) s i a=bind' (cash E l) (λn=>changes E l f {s with amount:=true} {i with hasAmount:=true,amount:=n}) (a+1):=by
   simp only[changes,if_neg (Nat.not_le.2 hlt),hp,show prio bE=none from by decide,show¬bE=aO from by decide,show¬bE=dz from by decide,hs,if_true,if_false,Bool.false_eq_true]
  cases hq:cash E l (a+1)with
  |error er=>rw[af hq];exact e.trans (cu hq)
  |ok x=>
   obtain⟨x,b⟩:=x
   rw[step_ok hq]
   have:=eP hq
   exact⟨by omega,e.trans (bind_ok hq)⟩
theorem ChI.dayDup {E:Env}{l:List Tok}{i0 i:Amd}{st0:St}{a:Nat}{s:Seen}(h:ChI E l i0 st0 (.ok a) s i)(hlt:a<l.length)(hp:(aQ l a).data.toList=dU)(hs:s.day=true)(s':Seen)(i':Amd):ChI E l i0 st0 (.error (aU l a,7)) s' i':=
 h.round hlt λf=>by
  simp only[changes,if_neg (Nat.not_le.2 hlt),hp,show prio dU=none from by decide,show¬dU=aO from by decide,show¬dU=dz from by decide,show¬dU=bE from by decide,hs,if_true,if_false];rfl
theorem ChI.dayOk {E:Env}{l:List Tok}{i0 i:Amd}{st0:St}{a:Nat}{s:Seen}(h:ChI E l i0 st0 (.ok a) s i)(hlt:a<l.length)(hp:(aQ l a).data.toList=dU)(hs:s.day=false):ChI E l i0 st0 (step (day E l) 0 (.ok (a+1))).2 {s with day:=true} {i with hasSettleDay:=true,settleDay:=(step (day E l) 0 (.ok (a+1))).1}:=
 h.round hlt λf=>by
  have e:changes E l (f+1) s i a=bind' (day E l) (λn=>changes E l f {s with day:=true} {i with hasSettleDay:=true,settleDay:=n}) (a+1):=by
   simp only[changes,if_neg (Nat.not_le.2 hlt),hp,show prio dU=none from by decide,show¬dU=aO from by decide,show¬dU=dz from by decide,show¬dU=bE from by decide,hs,if_true,if_false,Bool.false_eq_true]
  cases hq:day E l (a+1)with
  |error er=>rw[af hq];exact e.trans (cu hq)
  |ok x=>
   obtain⟨x,b⟩:=x
   rw[step_ok hq]
   have:=eP hq
   exact⟨by omega,e.trans (bind_ok hq)⟩
theorem ChI.none {E:Env}{l:List Tok}{i0 i:Amd}{st0:St}{a:Nat}{s:Seen}(h:ChI E l i0 st0 (.ok a) s i)(hlt:a<l.length)(hp:prio (aQ l a).data.toList=.none)(h1:(aQ l a).data.toList≠aO)(h2:(aQ l a).data.toList≠dz)(h3:(aQ l a).data.toList≠bE)(h4:(aQ l a).data.toList≠dU)(s':Seen)(i':Amd):ChI E l i0 st0 (.error (aU l a,30)) s' i':=
 h.round hlt λf=>by
  simp only[changes,if_neg (Nat.not_le.2 hlt),hp,if_neg h1,if_neg h2,if_neg h3,if_neg h4];rfl
end Go.Proofs.YtnjjeapcalkmaaaGreatDoor.Ps
namespace Go.Proofs.YtnjjeapcalkmaaaGreatDoor
open Go.RowKit
theorem nO {w:World}(t ty e:TypeId)(i:TypeInfo)(z:Value)(size bytes:Nat)(ht:Tryz.prog.underlying t=some (.slice e))(hi:Tryz.prog.info? e=some i)(hz:i.zero=some z)
 (hsize:i.size=size) (hby:i.bytes=bytes) (hzs:z.cells.size=size) (hsz:0<size) (base:Nat) (v:Value) (n:Nat) (xs:List Value) (hown:w.ownsRow base e size v n xs)
 (a2:Option Addr) (m c:Nat) (news:List Value) (hl:news.length=m*size) (hnews:∀ad,a2=some ad->∀j u,news[j]? =some u->w.cell? (ad.add j)=some u) (h0:a2=none->m=0) (h1:∀u∈news,u.oneCell'=true)
 (h63:n+m<=maxLen) (hbytes:(n+m)*bytes<=140737488355328) (hbase:base<=w.heap.size):
 ∃v' w',(Builtin.append_ #[t,t] ty #[v,.slice a2 m c]).run Tryz.prog w=.ok v' w'/\w'.ownsRow base e size v' (n+m) (xs++news)/\w.grownBy w' v.ownBlock/\(v'.ownBlock=v.ownBlock\/v'.ownBlock=some w.heap.size):=by
 cases a2 with
 |none=>
  obtain rfl:=h0 rfl
  obtain rfl:news=[]:=List.eq_nil_of_length_eq_zero (by omega)
  refine⟨v,w,?_,by simpa using hown,⟨rfl,rfl,rfl,Nat.le_refl _,λ_ _ _=>rfl⟩,.inl rfl⟩
  rcases hown.2 with⟨rfl,rfl⟩|⟨g,cap,cur,rfl,_,_,hnc,_⟩
  ·simp[Builtin.append_,run_underlying ht,sizeOf,typeInfo,hi,Builtin.lenOf,Builtin.firstCells]
  ·simp[Builtin.append_,run_underlying ht,sizeOf,typeInfo,hi,Builtin.lenOf,Builtin.firstCells,hnc,storeCells]
 |some ad=>
  obtain⟨v',w',hr,ho,hg,_,hat⟩:=run_append_own_at (P:=Tryz.prog) w base t ty e i z size bytes ht hi hz hsize hby hzs hsz v n xs hown ad m c news hl (hnews ad rfl) h1 h63 hbytes hbase
  exact⟨v',w',hr,ho,hg,hat⟩
theorem gV {w:World}{B:Nat}{t:TypeId}{sz:Nat}{v:Value}{n:Nat}{xs:List Value}(h:w.ownsRow B t sz v n xs):∃a c,v=.slice a n c:=by
 obtain⟨_,⟨rfl,rfl⟩|⟨g,cap,cur,rfl,_⟩⟩:=h
 ·exact⟨none,0,rfl⟩
 ·exact⟨_,cap,rfl⟩
theorem fD {W W':World}{B:Nat}{t:TypeId}{sz:Nat}{v:Value}{n:Nat}{xs:List Value}(h:W.ownsRow B t sz v n xs)(hb:∀g,v.ownBlock=some g->W'.heap[g]? =W.heap[g]?):W'.ownsRow B t sz v n xs:=by
 refine⟨h.1,?_⟩
 rcases h.2 with hn|⟨g,cap,cur,hv,hB,hh,rest⟩
 ·exact .inl hn
 ·exact .inr ⟨g,cap,cur,hv,hB,(hb g (by simp[hv,Value.ownBlock])).trans hh,rest⟩
theorem gP {w:World}{B sz:Nat}{t:TypeId}{v:Value}{n:Nat}{xs:List Value}(h:w.ownsRow B t sz v n xs)(hn:0<n):∃sb cap,v=.slice (some ⟨sb,0,none⟩) n cap/\sb<w.heap.size/\∀(k:Nat) (x:Value),xs[k]? =some x->w.cell? ⟨sb,k,none⟩=some x:=by
 obtain⟨hl,⟨_,h0⟩|⟨g,cap,cur,hv,hB,hh,hnc,hcap,hcur,htake⟩⟩:=h
 ·omega
 ·refine⟨g,cap,hv,(Array.getElem?_eq_some_iff.1 hh).1,λk x hk=>?_⟩
  have hk3:k<xs.length:=(List.getElem?_eq_some_iff.1 hk).1
  rw[<-htake,List.getElem?_take_of_lt (by omega)]at hk
  rw[cell_of_row _ _ _ _ _ _ hh]
  simpa using hk
theorem dH {W:World}{B B':Nat}{t:TypeId}{sz:Nat}{v:Value}{n:Nat}{xs:List Value}(h:W.ownsRow B t sz v n xs)(hB:B'<=B):W.ownsRow B' t sz v n xs:=by
 obtain⟨h1,h2|⟨g,cap,cur,hv,hb,r⟩⟩:=h
 ·exact⟨h1,.inl h2⟩
 ·exact⟨h1,.inr ⟨g,cap,cur,hv,Nat.le_trans hB hb,r⟩⟩
def fH (ks:List Ps.Link):List Value:=ks.flatMap λx=>[.int .i64 x.type,.string x.ref]
theorem pF (ks:List Ps.Link)(x:Ps.Link):fH (ks++[x])=fH ks++[.int .i64 x.type,.string x.ref]:=by unfold fH;rw[List.flatMap_append];rfl
def bG (w:World)(B:Nat)(lv:Value)(ks:List Ps.Link):Prop:=w.ownsRow B 129 2 lv ks.length (fH ks)
theorem bG.nil (w:World)(B:Nat):bG w B (.slice none 0 0) []:=World.ownsRow_nil _ _ _ _
theorem bG.keep {w w':World}{B:Nat}{lv:Value}{ks:List Ps.Link}(h:bG w B lv ks){r q:Nat}(hT:Tch r q w w')(hr:r<B)(hq:q<B):bG w' B lv ks:=by
 refine fD h λg hg=>?_
 obtain⟨_,⟨rfl,_⟩|⟨g',cap,cur,rfl,hB,hh,_⟩⟩:=h
 ·simp[Value.ownBlock]at hg
 ·obtain rfl:g'=g:=by simpa[Value.ownBlock]using hg
  exact hT.block g' (Array.getElem?_eq_some_iff.1 hh).1 (by omega) (by omega)
theorem bG.slice {w:World}{B:Nat}{lv:Value}{ks:List Ps.Link}(h:bG w B lv ks):∃a c,lv=.slice a ks.length c:=gV h
def aB (i:Ps.Ins)(lv:Value):List Value:=[.string i.ref,.int .i64 i.kind,.string i.sender,.string i.counterparty,.int .i64 i.side,.string i.asset,.int .i64 i.quantity,.int .i64 i.amount,.int .i64 i.tradeDay,.int .i64 i.settleDay,.int .i64 i.priority,
 .bool i.partial_,.int .i64 i.minLot,.bool i.hold,.bool i.reserve,lv]
def aH (a:Ps.Amd):List Value:=[.bool a.hasAmount,.bool a.hasSettleDay,.bool a.hasPriority,.bool a.hasPartial,.int .i64 a.amount,.int .i64 a.settleDay,.int .i64 a.priority,.bool a.partial_,.int .i64 a.minLot]
def aA (q:Ps.Req)(lv:Value):Array Value:=(([Value.int .i64 q.op,.string q.sender,.string q.ref]:List Value)++aB q.ins lv++aH q.amd).toArray
theorem xN (q:Ps.Req)(lv:Value):(aA q lv).size=28:=rfl
def fA (W0 W:World)(r tb cap q:Nat)(l:List Ps.Tok)(B:Nat)(st:Ps.St)(Q:Ps.Req)(w:World):Prop:=
 r<B/\q<B/\∃lv,bT W0 W r tb cap q l st (aA Q lv) w/\bG w B lv Q.ins.links
theorem fA.step {W0 W:World}{r tb cap q B:Nat}{l:List Ps.Tok}{st st':Ps.St}{Q:Ps.Req}{w w':World}(h:fA W0 W r tb cap q l B st Q w)(h1:fK W0 w' r tb cap l st')(h2:Tch r r w w'):fA W0 W r tb cap q l B st' Q w':=by
 obtain⟨a,b,lv,c,d⟩:=h
 exact⟨a,b,lv,c.step h1 h2,d.keep h2 a a⟩
theorem fA.rd {W0 W:World}{r tb cap q B:Nat}{l:List Ps.Tok}{st:Ps.St}{Q:Ps.Req}{w:World}(h:fA W0 W r tb cap q l B st Q w):fK W0 w r tb cap l st:=by
 obtain⟨a,b,lv,c,d⟩:=h
 exact c.1
theorem fA.store {W0 W:World}{r tb cap q B:Nat}{l:List Ps.Tok}{st:Ps.St}{Q:Ps.Req}{w:World}(h:fA W0 W r tb cap q l B st Q w)(j:Nat)(v:Value)(Q':Ps.Req)(hQ:∀lv,(aA Q lv).setIfInBounds j v=aA Q' lv)(hl:Q'.ins.links=Q.ins.links):fA W0 W r tb cap q l B st Q' (w.setCell ⟨q,j,none⟩ v):=by
 obtain⟨a,b,lv,c,d⟩:=h
 refine⟨a,b,lv,?_,?_⟩
 ·rw[<-hQ lv];exact c.store j v
 ·rw[hl]
  exact d.keep ((Tch.refl q q w).setCell j v) b b
theorem fA.below {W0 W:World}{r tb cap q B:Nat}{l:List Ps.Tok}{st:Ps.St}{Q:Ps.Req}{w w':World}(h:fA W0 W r tb cap q l B st Q w)(hb:Below w.heap.size w w'):fA W0 W r tb cap q l B st Q w':=h.step (h.rd.below hb) (Tch.of_below hb)
theorem fA.drewN {W0 W:World}{r tb cap q B:Nat}{l:List Ps.Tok}{st:Ps.St}{Q:Ps.Req}{w:World}(h:fA W0 W r tb cap q l B st Q w)(k:Nat):fA W0 W r tb cap q l B st Q (w.drewN k):=h.below (below_drewN' (Below.refl _ _) k)
open Go.Proofs.YtnjjeapcalkmaaaGreatDoor.Ord
open Go.Proofs.YtnjjeapcalkmaaaGreatDoor.Ev (AV Mem Fr Sh Stop Qof ah dw bH jA nQ fmC asI look keep gM)
section
variable {l : List Ps.Tok} {pa : Nat}
def dK (l:List Ps.Tok)(b:Bool)(pa:Nat):Ps.St:=if b=true then Ps.pW l 7 (.ok pa)else .ok pa
def iD (st:Ps.St):Ps.St:=match st with
 | .ok a=>.ok (a+1)
 | .error e=>.error e
theorem lU {α:Type}{p:Ps.P α}(hp:∀x k,p (pa+1)=.ok (x,k)->pa<k)(zv:α)(b:Bool):∀a,(Ps.step p zv (iD (dK l b pa))).2=.ok a->pa<a:=λa h=>by
 cases b
 ·have h2:(Ps.step p zv (.ok (pa+1))).2=.ok a:=h
  cases hq:p (pa+1)with
  |ok x=>
   obtain⟨v,k⟩:=x
   rw[Ps.step_ok hq]at h2
   cases h2
   exact hp _ _ hq
  |error er=>rw[Ps.af hq]at h2;cases h2
 ·cases h
theorem wX {E:Ps.Env}(b:Bool):∀a,(Ps.step (Ps.cash E l) 0 (iD (dK l b pa))).2=.ok a->pa<a:=lU (λx k h=>by have:=Ps.eP h;omega) 0 b
theorem DD {E:Ps.Env}(b:Bool):∀a,(Ps.step (Ps.day E l) 0 (iD (dK l b pa))).2=.ok a->pa<a:=lU (λx k h=>by have:=Ps.eP h;omega) 0 b
theorem Bz {E:Ps.Env}(b:Bool):∀a,(Ps.step (Ps.quantity E l) 0 (iD (dK l b pa))).2=.ok a->pa<a:=lU (λx k h=>by have:=Ps.eP h;omega) 0 b
theorem Ba {E:Ps.Env}:∀a,(Ps.step (Ps.ref E l) ⟨#[]⟩ (.ok (pa+1))).2=.ok a->pa+1<a:=λa h=>by
 cases hq:Ps.ref E l (pa+1)with
 |ok x=>
  obtain⟨v,k⟩:=x
  rw[Ps.step_ok hq]at h
  cases h
  have:=Ps.eP (l:=l) (ks:=[1,2,4]) (acc:=λs=>(s,if E.valid 2 s then(0:Int)else 6)) hq
  omega
 |error er=>rw[Ps.af hq]at h;cases h
theorem Jh {st0:Ps.St}{E:Ps.Env}(hb:Ps.dA l st0=false):Ps.Res (λa=>if l.length<=a then .error (Ps.short l)else Ps.changes E l (l.length+1) {} {} a) st0 (Ps.fC l st0) {}:=by
 cases st0 with
 |error er=>rfl
 |ok a=>
  have hge:l.length<=a:=by simpa[Ps.dA]using hb
  have h1:Ps.fC l (.ok a)=.error (Ps.short l):=by simp[Ps.fC,Nat.not_lt.2 hge]
  rw[h1]
  show(if l.length<=a then _ else _)=_
  rw[if_pos hge]
theorem Nu {st0 st:Ps.St}{E:Ps.Env}{i:Ps.Amd}(hb:Ps.dA l st0=true)(h:Ps.Res (Ps.changes E l (l.length+1) {} {}) st0 st i):Ps.Res (λa=>if l.length<=a then .error (Ps.short l)else Ps.changes E l (l.length+1) {} {} a) st0 st i:=
 h.mono λa ha=>by
  subst ha
  have hlt:a<l.length:=by simpa[Ps.dA]using hb
  rw[if_neg (Nat.not_le.2 hlt)]
theorem gG (b:Bool):∀a,iD (dK l b pa)=.ok a->pa<a:=λa h=>by
 cases b
 ·cases h;omega
 ·cases h
end
inductive RS where
 |at0 (a:Nat)
 |dup (b:Bool) (a:Nat)
 |any (s:Ps.St)
def RS.st (l:List Ps.Tok):RS->Ps.St
 | .at0 a=>.ok a
 | .dup b a=>dK l b a
 | .any s=>s
def RS.bound (l:List Ps.Tok):RS->Prop
 | .at0 a=>a<l.length
 | .dup _ a=>a<l.length
 | .any _=>True
def PN:List Oper->Option Nat
 |[⟨some d0,.move (.tmp t),_,_,_,none⟩,⟨some d1,.nilCheck (.tmp e0),_,_,_,none⟩,⟨some d2,.fieldAddr t1 (.tmp e1) f1,_,_,_,none⟩,⟨some d3,.load t2 (.tmp e2),_,_,_,none⟩,⟨some d4,.binOp .add t3 (.tmp e3) (.const (.int .i64 c)) t4,_,_,_,none⟩,⟨some d5,.nilCheck (.tmp e4),_,_,_,none⟩,⟨some d6,.fieldAddr t5 (.tmp e5) f2,_,_,_,none⟩,⟨none,.store t6 (.tmp e6) (.tmp e7),_,_,_,none⟩]=>
  if (e0=d0/\e1=d1/\e2=d2/\e3=d3/\e4=d0/\e5=d5/\e6=d6/\e7=d4)/\((t1=114\/t1=97)/\t5=t1/\t2=3/\t3=3/\t4=3/\t6=3/\c=1/\f1=1/\f2=1)then some t else none
 |_=>none
theorem wp_inc {ops:Array Oper}{t n id r:Nat}{a:Act}{w:World}{x:Int}{Q:Exit->Act->World->Prop}(ht:PN ops.toList=some t)(hok:gM n ops=true)(hsz:a.tmps.size=n)(hno:∀o:Oper,o∈ops.toList->o.dst≠some t)(hf:a.tmps[t]? =some (.pointer (some ⟨r,0,none⟩)))(hx:w.cell? ⟨r,1,none⟩=some (.int .i64 x))(hz:w.frozen? ⟨r,1,none⟩=false)
 (hend:∀b:Act,Kept ops a b->Q .normal b (w.setCell ⟨r,1,none⟩ (.int .i64 (IntKind.i64.wrap (x+1))))):(Code.region id ops false).wp Tryz.prog Q a w:=by
 unfold PN at ht
 split at ht
 ·split at ht
  ·rename_i d0 t _ _ _ d1 e0 _ _ _ d2 t1 e1 f1 _ _ _ d3 t2 e2 _ _ _ d4 t3 e3 c t4 _ _ _ d5 e4 _ _ _ d6 t5 e5 f2 _ _ _ t6 e6 e7 _ _ _ hl hc
   obtain⟨⟨rfl,rfl,rfl,rfl,rfl,rfl,rfl,rfl⟩,h1,rfl,rfl,rfl,rfl,rfl,rfl,rfl,rfl⟩:=hc
   cases ht
   have hops:ops=_:=(Array.toArray_toList (xs:=ops)).symm.trans (congrArg List.toArray hl)
   unfold gM at hok
   simp only[Bool.and_eq_true]at hok
   obtain⟨⟨hd,hs⟩,hb⟩:=hok
   subst hops
   obtain⟨vs,hvs⟩:∃vs:List Value,vs=[.pointer (some ⟨r,0,none⟩),.pointer (some ⟨r,0,none⟩),.pointer (some ⟨r,1,none⟩),.int .i64 x,.int .i64 (IntKind.i64.wrap (x+1)),.pointer (some ⟨r,0,none⟩),.pointer (some ⟨r,1,none⟩),undef]:=⟨_,rfl⟩
   refine iL (λk w2=>if k=8 then w2=w.setCell ⟨r,1,none⟩ (.int .i64 (IntKind.i64.wrap (x+1)))else w2=w) 8 vs (by rw[hvs];rfl) rfl hd hs (by rw[hsz];exact hb) (by simp) ?_ ?_
   ·intro ρ hD hrest hco hfu
    have e0:=(hrest t hno).trans (eval_at hf)
    obtain⟨k0,k1,k2,k3,k4,k5,k6,-⟩:=lL hvs hD
    refine yB hvs ?_
    refine⟨aK (B:=λ_=>True) (λw h=>by simpa using h) (λ_ _=>trivial) (λw0=>bI rfl (jR rfl e0)),?_⟩
    refine⟨aK (B:=λ_=>True) (λw h=>by simpa using h) (λ_ _=>trivial) (λw0=>bI rfl (vz rfl k0)),?_⟩
    refine⟨aK (B:=λ_=>True) (λw h=>by simpa using h) (λ_ _=>trivial) (λw0=>bI rfl (dm rfl k1 (λw=>by rcases h1 with rfl|rfl<;>go_simp))),?_⟩
    refine⟨aK (B:=λw2=>w2=w) (λw h=>by simpa using h) (λw h=>by simpa using h) (λw0=>bI rfl (fO rfl k2 (λw2 hS=>Eb _ w2 _ (by rw[hS.2];exact hx)))),?_⟩
    refine⟨aK (B:=λ_=>True) (λw h=>by simpa using h) (λ_ _=>trivial) (λw0=>bI rfl (Qf rfl k3 (hco _) (λw=>zk _ _ _ _ w rfl))),?_⟩
    refine⟨aK (B:=λ_=>True) (λw h=>by simpa using h) (λ_ _=>trivial) (λw0=>bI rfl (vz rfl k0)),?_⟩
    refine⟨aK (B:=λ_=>True) (λw h=>by simpa using h) (λ_ _=>trivial) (λw0=>bI rfl (dm rfl k5 (λw=>by rcases h1 with rfl|rfl<;>go_simp))),?_⟩
    refine⟨⟨λ_ w2 hS=>?_,λh=>by have h2:true=false:=h;cases h2⟩,trivial⟩
    have hA:w2=w:=by simpa using hS
    subst hA
    clear hD hrest hend hd hs hb hl hvs hno h1
    have k6':ρ (.tmp _)=.pointer (some ⟨r,1,none⟩):=k6
    have k4':ρ (.tmp _)=.int .i64 (IntKind.i64.wrap (x+1)):=k4
    clear k0 k1 k2 k3 k4 k5 k6 e0
    unfold execOp
    simp only[k6',k4']
    go_simp
    exact⟨rfl,rfl⟩
   ·intro b w2 hS hK hD
    have:w2=w.setCell ⟨r,1,none⟩ (.int .i64 (IntKind.i64.wrap (x+1))):=by simpa using hS
    rw[this]
    exact hend b hK
  ·cases ht
 ·cases ht
def LY (i:Ps.Ins):Nat->Value->Option Ps.Ins
 |0,.string s=>some {i with ref:=s}
 |1,.int .i64 n=>some {i with kind:=n}
 |2,.string s=>some {i with sender:=s}
 |3,.string s=>some {i with counterparty:=s}
 |4,.int .i64 n=>some {i with side:=n}
 |5,.string s=>some {i with asset:=s}
 |6,.int .i64 n=>some {i with quantity:=n}
 |7,.int .i64 n=>some {i with amount:=n}
 |8,.int .i64 n=>some {i with tradeDay:=n}
 |9,.int .i64 n=>some {i with settleDay:=n}
 |10,.int .i64 n=>some {i with priority:=n}
 |11,.bool b=>some {i with partial_:=b}
 |12,.int .i64 n=>some {i with minLot:=n}
 |13,.bool b=>some {i with hold:=b}
 |14,.bool b=>some {i with reserve:=b}
 |_,_=>none
def Ju (i:Ps.Amd):Nat->Value->Option Ps.Amd
 |0,.bool b=>some {i with hasAmount:=b}
 |1,.bool b=>some {i with hasSettleDay:=b}
 |2,.bool b=>some {i with hasPriority:=b}
 |3,.bool b=>some {i with hasPartial:=b}
 |4,.int .i64 n=>some {i with amount:=n}
 |5,.int .i64 n=>some {i with settleDay:=n}
 |6,.int .i64 n=>some {i with priority:=n}
 |7,.bool b=>some {i with partial_:=b}
 |8,.int .i64 n=>some {i with minLot:=n}
 |_,_=>none
theorem st_one {t:TypeId}(ht:t=2\/t=3\/t=4\/t=9)(p:Addr)(w:World)(u v:Value)(h:w.cell? p=some u)(hz:w.frozen? p=false)(hv:(∃n,v=.int .i64 n)\/(∃b,v=.bool b)\/∃s,v=.string s):(Instr.storeAt t (.pointer (some p)) v).run Tryz.prog w=.ok () (w.setCell p v):=by
 rcases hv with⟨n,rfl⟩|⟨b,rfl⟩|⟨s,rfl⟩<;>rcases ht with rfl|rfl|rfl|rfl<;>go_simp
def kz (t:TypeId)(f:Nat):Option Nat:=if (t=34/\f<16)\/(t=35/\f<9)\/(t=129/\f<2)then some f else if t=37 then[0,1,2,3,19][f]? else none
theorem mI {t:TypeId}{f d:Nat}(h:kz t f=some d)(b j:Nat)(w:World):(Instr.fieldAt t (.pointer (some ⟨b,j,none⟩)) f).run Tryz.prog w=.ok (.pointer (some ⟨b,j+d,none⟩)) w:=by
 unfold kz at h
 split at h
 ·rename_i h1
  cases h
  rcases h1 with⟨rfl,h2⟩|⟨rfl,h2⟩|⟨rfl,h2⟩
  all_goals
   rcases f with _|_|_|_|_|_|_|_|_|_|_|_|_|_|_|_|f
   all_goals first|omega|go_simp
 split at h
 ·rename_i h1
  subst h1
  rcases f with _|_|_|_|_|f
  all_goals first|(cases h;go_simp)|cases h
 ·cases h
structure RdB {X:Type}(R:Ps.St->World->Prop)(r:Nat)(B:Ps.St->X->World->Prop):Prop where
 rd:∀{st x w},B st x w->R st w
 go:∀{st st' x w w'},B st x w->R st' w'->Tch r r w w'->B st' x w'
def RdI (l:List Ps.Tok)(r:Nat)(R:Ps.St->World->Prop)(inc:RS->Option RS):Prop:=∀s s',inc s=some s'->s.bound l->s'.bound l/\∀w,R (s.st l) w->∃x:Int,w.cell? ⟨r,1,none⟩=some (.int .i64 x)/\w.frozen? ⟨r,1,none⟩=false/\R (s'.st l) (w.setCell ⟨r,1,none⟩ (.int .i64 (IntKind.i64.wrap (x+1))))
def rdS {X:Type}(l:List Ps.Tok)(B:Ps.St->X->World->Prop)(s:RS×X)(w:World):Prop:=s.1.bound l/\B (s.1.st l) s.2 w
def rdG {X:Type}(inc:RS->Option RS)(offs:TypeId->Nat->Option Nat)(blk:List (Nat×Nat))(ref:Nat->Nat->Value)(rc:RS->FuncId->List AV->Option (Value×Option RS))(loadX:RS×X->TypeId->Nat->Nat->Option AV)(storeX:X->TypeId->Nat->Nat->Value->Option X)(callX:RS×X->FuncId->List AV->Option (Value×Option (RS×X)))(hint:Nat->Option Bool):Mem (RS×X):=
 {blk:=blk,offs:=offs,ref:=ref,load:=loadX
  store:=λs t k j v=>match storeX s.2 t k j v with
   |some x=>some (s.1,x)
   |none=>none
  call:=λs f vs=>match rc s.1 f vs with
   |some (v,none)=>some (v,none)
   |some (v,some q)=>some (v,some (q,s.2))
   |none=>callX s f vs
  hint:=hint
  reg:=λs K ops dr=>if dr=true then none else match PN ops.toList with
   |some t=>match Ev.look (keep K ops) t with
    |some (.p 0 0)=>match inc s.1 with
     |some q=>some ((q,s.2),[])
     |none=>none
    |_=>none
   |none=>none}
section
variable {X : Type} {l : List Ps.Tok} {r : Nat} {inc : RS → Option RS} {R : Ps.St → World → Prop} {B : Ps.St → X → World → Prop} {offs : TypeId → Nat → Option Nat} {blk : List (Nat × Nat)} {ref : Nat → Nat → Value} {rc : RS → FuncId → List AV → Option (Value × Option RS)} {loadX : RS × X → TypeId → Nat → Nat → Option AV} {storeX : X → TypeId → Nat → Nat → Value → Option X} {callX : RS × X → FuncId → List AV → Option (Value × Option (RS × X))} {hint : Nat → Option Bool}
def uU (l:List Ps.Tok)(r:Nat)(R:Ps.St->World->Prop){σ:Type}(M:Mem σ)(q:RS)(f:FuncId)(vs:List AV)(v:Value)(q':RS):Prop:=(∀args w,(callFunc f args).run Tryz.prog w=.ok (.enter f args) w)/\(q.bound l->q'.bound l/\∀w,R (q.st l) w->Calls Tryz.prog f (vs.map (AV.val M)).toArray w λe w'=>e=.returned v/\R (q'.st l) w'/\Tch r r w w')
theorem rdG_ok (hB:RdB R r B)(ho:∀t f d,offs t f=some d->∀b j w,(Instr.fieldAt t (.pointer (some ⟨b,j,none⟩)) f).run Tryz.prog w=.ok (.pointer (some ⟨b,j+d,none⟩)) w)
 (hC:∀q f vs v q',rc q f vs=some (v,q')->uU l r R (rdG inc offs blk ref rc loadX storeX callX hint) q f vs v (q'.getD q))
 (hL:∀s t k j v,loadX s t k j=some v->∀w,rdS l B s w->(Instr.loadAt t ((AV.p k j).val (rdG inc offs blk ref rc loadX storeX callX hint))).run Tryz.prog w=.ok (v.val (rdG inc offs blk ref rc loadX storeX callX hint)) w)
 (hS:∀x t k j v x',storeX x t k j v=some x'->∀st w,B st x w->∃w',(Instr.storeAt t ((AV.p k j).val (rdG inc offs blk ref rc loadX storeX callX hint)) v).run Tryz.prog w=.ok () w'/\B st x' w')
 (hX:∀s f vs v s',callX s f vs=some (v,s')->(∀args w,(callFunc f args).run Tryz.prog w=.ok (.enter f args) w)/\(s.1.bound l->∀w,B (s.1.st l) s.2 w->Calls Tryz.prog f (vs.map (AV.val (rdG inc offs blk ref rc loadX storeX callX hint))).toArray w λe w'=>e=.returned v/\rdS l B (s'.getD s) w')):
 Ev.Ok Tryz.prog (rdS l B) (rdG inc offs blk ref rc loadX storeX callX hint):=by
 refine⟨ho,hL,λs t k j v s' h w hw=>?_,λs f vs v s' h=>?_,λ_ _ _ _ h=>(by cases h)⟩
 ·have h2:(match storeX s.2 t k j v with|some x=>some (s.1,x)|none=>none)=some s':=h
  split at h2
  ·rename_i x hx
   cases h2
   obtain⟨w',e1,e2⟩:=hS _ _ _ _ _ _ hx _ w hw.2
   exact⟨w',e1,hw.1,e2⟩
  ·cases h2
 ·have h2:(match rc s.1 f vs with|some (v,none)=>some (v,none)|some (v,some q)=>some (v,some (q,s.2))|none=>callX s f vs)=some (v,s'):=h
  split at h2
  ·rename_i hq
   cases h2
   obtain⟨k1,k2⟩:=hC _ _ _ _ _ hq
   exact⟨k1,λw hw=>((k2 hw.1).2 w (hB.rd hw.2)).mono λe w' h=>⟨h.1,hw.1,hB.go hw.2 h.2.1 h.2.2⟩⟩
  ·rename_i hq
   cases h2
   obtain⟨k1,k2⟩:=hC _ _ _ _ _ hq
   exact⟨k1,λw hw=>((k2 hw.1).2 w (hB.rd hw.2)).mono λe w' h=>⟨h.1,(k2 hw.1).1,hB.go hw.2 h.2.1 h.2.2⟩⟩
  ·obtain⟨k1,k2⟩:=hX _ _ _ _ _ h2
   exact⟨k1,λw hw=>k2 hw.1 w hw.2⟩
theorem O7 (hB:RdB R r B)(hI:RdI l r R inc)(hb:blk.getD 0 (0,0)=(r,0)):Ev.rE (rdS l B) (rdG inc offs blk ref rc loadX storeX callX hint):=by
 intro s K ops dr s' nw h n id a w Q hok hF hw hend
 have h2:(if dr=true then none else match PN ops.toList with|some t=>(match Ev.look (keep K ops) t with|some (.p 0 0)=>(match inc s.1 with|some q=>some ((q,s.2),[])|none=>none)|_=>none)|none=>none)=some (s',nw):=h
 split at h2
 ·cases h2
 obtain rfl:dr=false:=by cases dr<;>simp_all
 split at h2
 ·rename_i t ht
  split at h2
  ·rename_i hl
   split at h2
   ·rename_i q hq
    cases h2
    obtain⟨k1,k2⟩:=Ev.gX hl
    obtain⟨e2,e3⟩:=hI _ _ hq hw.1
    obtain⟨x,c1,c2,c3⟩:=e3 w (hB.rd hw.2)
    have hp:(AV.p 0 0).val (rdG inc offs blk ref rc loadX storeX callX hint)=.pointer (some ⟨r,0,none⟩):=by
     show Value.pointer (some ⟨(blk.getD 0 (0,0)).1,(blk.getD 0 (0,0)).2+0,none⟩)=_
     rw[hb]
    refine wp_inc ht hok hF.size k2 ((hF.look _ _ k1).trans (by rw[hp])) c1 c2 λb hk=>hend b _ ⟨hk.size.trans hF.size,hk.defers.trans hF.defers,λt u hl=>?_⟩ ⟨e2,?_⟩
    ·obtain⟨j1,j2⟩:=Ev.gX hl
     rw[hk.rest t j2]
     exact hF.look t u j1
    ·exact hB.go hw.2 c3 ((Tch.refl r r w).setCell 1 _)
   ·cases h2
  ·cases h2
 ·cases h2
end
theorem Fz {P:Program}{c:Code}{tmps:Array Value}{K:Act->World->Prop}{Q:Exit->Act->World->Prop}{w w':World}(hK:K=c.wp P Q)(hw:w=w')(h:∀a:Act,a.tmps=tmps->a.defers=[]->c.wp P Q a w'):Exit.then K Q .normal ⟨tmps,[]⟩ w:=by
 rw[hK,hw]
 exact h _ rfl rfl
theorem gL {P:Program}{c:Code}{tmps:Array Value}{Q:Exit->Act->World->Prop}{w:World}(h:∀a:Act,a.tmps=tmps->a.defers=[]->c.wp P Q a w):c.wp P Q ⟨tmps,[]⟩ w:=h _ rfl rfl
def wJ {β:Type}:List (FuncId×(List AV->Option β))->FuncId->List AV->Option β
 |[],_,_=>none
 |(g,h)::t,f,vs=>if f=g then h vs else wJ t f vs
theorem qZ {β:Type}{G:FuncId->List AV->β->Prop}:∀{t:List (FuncId×(List AV->Option β))} {f:FuncId} {vs:List AV} {b:β},wJ t f vs=some b->(∀x∈t,∀vs b,x.2 vs=some b->G x.1 vs b)->G f vs b
 |[],_,_,_,h,_=>by cases h
 |(g,h1)::t,f,vs,b,h,hG=>by
  unfold wJ at h
  split at h
  ·rename_i e;subst e;exact hG (f,h1) List.mem_cons_self vs b h
  ·exact qZ h λx hx=>hG x (List.mem_cons_of_mem _ hx)
open Go.RowKit Go.Lib
def zh:List UInt8:=[48,49,50,51,52,53,54,55,56,57]
theorem lC (c:UInt8):zh.contains c=Lx.digit (c.toNat:Int):=by
 have key:∀n:Fin 256,zh.contains (UInt8.ofNat n.val)=Lx.digit ((UInt8.ofNat n.val).toNat:Int):=by decide +kernel
 have:=key ⟨c.toNat,UInt8.toNat_lt c⟩
 simpa using this
theorem jY (p:UInt8->Bool):∀l:List UInt8,l.dropWhile p=[]↔∀x∈l,p x=true
 |[]=>by simp
 |a::l=>by
  rw[List.dropWhile_cons]
  cases h:p a with
  |true=>simp[h,jY p l]
  |false=>simp[h]
theorem jV (p:UInt8->Bool):∀(l:List UInt8),∀x∈l.takeWhile p,p x=true
 |[]=>by simp
 |a::l=>by
  rw[List.takeWhile_cons]
  cases h:p a with
  |true=>
   intro x hx
   rcases List.mem_cons.1 hx with rfl|hx
   ·exact h
   ·exact jV p l x hx
  |false=>simp
theorem Bu (l:List UInt8):(Lib.trimS l zh=[])↔(l.all λc=>Lx.digit (c.toNat:Int))=true:=by
 unfold Lib.trimS Lib.trimLeftS
 rw[jY]
 constructor
 ·intro h
  rw[List.all_eq_true]
  intro x hx
  have hr:∀x∈Lib.trimRightS l zh,Lx.digit (x.toNat:Int)=true:=λx hx=>by rw[<-lC];exact h x hx
  rw[Lib.trimRightS]at hr
  rcases List.mem_append.1 (by rw[List.takeWhile_append_dropWhile];exact List.mem_reverse.2 hx:x∈l.reverse.takeWhile (zh.contains ·)++l.reverse.dropWhile (zh.contains ·))with h1|h1
  ·rw[<-lC]
   exact jV _ _ x h1
  ·exact hr x (List.mem_reverse.2 h1)
 ·intro h x hx
  rw[List.all_eq_true]at h
  rw[lC]
  apply h
  rw[Lib.trimRightS]at hx
  have:=List.mem_reverse.1 hx
  exact List.mem_reverse.1 ((List.dropWhile_suffix _).sublist.subset this)
theorem PY (s:ByteArray)(W:World)(hs:s.size<=9223372036854775807):
 Calls Tryz.prog 149 #[.string s,.string ⟨#[48,49,50,51,52,53,54,55,56,57]⟩] W λe w'=>e=.returned (.string ⟨(Lib.trimS s.data.toList zh).toArray⟩)/\Below W.heap.size W w':=
 Any.strings_Trim_laid Tryz.lays160 (by kernel_rfl) s ⟨#[48,49,50,51,52,53,54,55,56,57]⟩ W hs (by decide) (ascii_of_all (by decide))
theorem IQ (l:List UInt8)(w:World)(hs:l.length<=1048576):
 Calls Tryz.prog 276 #[.string ⟨l.toArray⟩] w λe w'=>e=.returned (.bool (l.all λc=>Lx.digit (c.toNat:Int)))/\Below w.heap.size w w':=by
 have ht:=λW=>PY ⟨l.toArray⟩ W (by rw[cO];omega)
 simp only at ht
 have HT:Hid ((Lib.trimS l zh=[])↔(l.all λc=>Lx.digit (c.toNat:Int))=true):=Lib.hid (Bu l)
 generalize (l.all λc=>Lx.digit (c.toNat:Int))=b at *
 generalize Lib.trimS l zh=t at *
 go_enter Tryz.func276,Tryz.ntmps276
 go_wp2_with fail
 refine(ht _).mono ?_
 rintro e w' ⟨rfl,hb⟩
 go_wp2_with fail
 go_ret
 refine⟨eZ ?_,hb⟩
 rw[Bool.eq_iff_iff,<-HT.out]
 simp
structure rG (m:Int)(W:World):Prop where
 maxlen:W.cell? ⟨5,0,none⟩=some (.int .i64 m)
 range:∃te pe,W.cell? ⟨12,0,none⟩=some (.iface te pe)
 syn:∃te pe,W.cell? ⟨11,0,none⟩=some (.iface te pe)
theorem rG.below {m:Int}{W W':World}(h:rG m W)(hb:Below W.heap.size W W'):rG m W':=by
 have t:∀(p:Addr) (v:Value),W.cell? p=some v->p.spot=none->W'.cell? p=some v:=λp v hc hs=>by
  obtain⟨b,o,sp⟩:=p
  cases hs
  exact(hb.cell (p:=⟨b,o,none⟩) (rP hc)).trans hc
 obtain⟨h1,⟨a,b,h2⟩,⟨c,d,h3⟩⟩:=h
 exact⟨t _ _ h1 rfl,⟨a,b,t _ _ h2 rfl⟩,⟨c,d,t _ _ h3 rfl⟩⟩
def Ma (hp:Bool)(r:List UInt8)(u c:ByteArray)(b du dc:Bool):Bool:=
 !b||u.toList.isEmpty||((c.size:Int) !=2)||!du||!dc||(decide (1<(u.size:Int))&&decide (PlainAid.bt u 0=48))||(hp&&(r==[48,46,48,48]))
theorem uy (s:ByteArray)(w:World)(hs:s.size<=1048576):
 Calls Tryz.prog 276 #[.string s] w λe w'=>e=.returned (.bool (s.data.toList.all λc=>Lx.digit (c.toNat:Int)))/\Below w.heap.size w w':=
 IQ s.data.toList w (by rw[<-Lib.size_eq];exact hs)
theorem AA (b:Bool)(U C:List UInt8)(neg:Bool):
 (!b||(ByteArray.mk U.toArray).toList.isEmpty||(((ByteArray.mk C.toArray).size:Int) !=2)||!(U.all λc=>Lx.digit (c.toNat:Int))||!(C.all λc=>Lx.digit (c.toNat:Int))||
  (decide (1<((ByteArray.mk U.toArray).size:Int))&&decide (PlainAid.bt ⟨U.toArray⟩ 0=48))||neg)=
 !(b&&Lx.whole U&&decide (C.length=2)&&Lx.all Lx.digit C&&!neg):=by
 rw[Lib.toList_data,cO,cO]
 cases b with
 |false=>simp
 |true=>
  cases neg with
  |true=>simp
  |false=>
   by_cases h2:C.length=2
   ·have hC:Lx.all Lx.digit C=C.all λc=>Lx.digit (c.toNat:Int):=by
     unfold Lx.all
     cases C with
     |nil=>simp at h2
     |cons a C=>simp
    rw[hC]
    cases U with
    |nil=>simp[Lx.whole,Lx.all]
    |cons x U=>
     have hb:PlainAid.bt ⟨(x::U).toArray⟩ 0=(x.toNat:Int):=(PlainAid.get_bt ⟨(x::U).toArray⟩ 0 (by rw[cO];simp)).symm
     rw[hb]
     unfold Lx.whole Lx.all
     have e48:decide ((x.toNat:Int)=48)=(x==48):=by
      rw[Bool.eq_iff_iff]
      simp only[decide_eq_true_eq,beq_iff_eq]
      rw[<-UInt8.toNat_inj]
      show((x.toNat:Int)=48)↔(x.toNat=48)
      omega
     rw[e48]
     generalize (x::U).all (λc=>Lx.digit (c.toNat:Int))=d1
     generalize C.all (λc=>Lx.digit (c.toNat:Int))=d2
     generalize hq:(x==48)=q
     have hlen:decide (1<(((x::U).length:Nat):Int))=!((x::U).length==1):=by
      rw[Bool.eq_iff_iff];simp
      cases U with
      |nil=>simp
      |cons a U=>simp;omega
     rw[hlen]
     have hh:((x::U).head? ==some 48)=q:=by rw[<-hq];rfl
     rw[hh]
     have h2':((C.length:Int) !=2)=false:=by rw[bne_eq_false_iff_eq];omega
     rw[h2']
     generalize ((x::U).length==1)=o
     simp only[h2,decide_true]
     cases d1<;>cases d2<;>cases q<;>cases o<;>rfl
   ·have h2':((C.length:Int) !=2)=true:=by rw[bne_iff_ne];omega
    simp[h2,h2']
theorem am_neg (l:List UInt8):(Lib.hasPrefix l [45]&&(Lib.trimPrefix l [45]==[48,46,48,48]))=(l==[45,48,46,48,48]):=by
 cases l with
 |nil=>rfl
 |cons a l=>
  by_cases h:a=45
  ·subst h
   simp[Lib.hasPrefix,Lib.trimPrefix]
  ·have h1:Lib.hasPrefix (a::l) [45]=false:=by
    have h45:((45:UInt8)==a)=false:=by rw[beq_eq_false_iff_ne];exactλh'=>h h'.symm
    simp only[Lib.hasPrefix,List.isPrefixOf,h45,Bool.false_and]
   rw[h1]
   symm
   simp[h]
theorem uJ (l:List UInt8):
 Ma (Lib.hasPrefix l [45]) (Lib.trimPrefix l [45]) ⟨(Lib.cut (Lib.trimPrefix l [45]) [46]).1.toArray⟩ ⟨(Lib.cut (Lib.trimPrefix l [45]) [46]).2.1.toArray⟩ (Lib.cut (Lib.trimPrefix l [45]) [46]).2.2
  ((Lib.cut (Lib.trimPrefix l [45]) [46]).1.all λc=>Lx.digit (c.toNat:Int)) ((Lib.cut (Lib.trimPrefix l [45]) [46]).2.1.all λc=>Lx.digit (c.toNat:Int))=!Lx.decimal l:=by
 unfold Ma
 rw[am_neg,AA]
 rfl
theorem Cz (w:World)(s:ByteArray)(kd k e0:Int)(b1 b2:Bool)(h1:(e0==0)=b1)(h2:(k==kd)=b2)
 (n1:Calls Tryz.prog 98 #[.string s] w λe w'=>e=.returned (.tuple #[.int .i64 k,.int .i64 e0])/\Below w.heap.size w w'):
 Calls Tryz.prog 253 #[.string s,.int .i64 kd] w λe w'=>e=.returned (.bool (b1&&b2))/\Below w.heap.size w w':=by
 cases b1
 all_goals
  go_enter Tryz.func253,Tryz.ntmps253
  go_wp2_with fail
  refine n1.mono ?_
  rintro e w1 ⟨rfl,hb⟩
  have HB:=Lib.hid hb
  clear n1 hb
  go_wp2_with fail
  go_ret
  exact⟨by simp,HB.out⟩
theorem yE (s:ByteArray)(kd:Int)(w:World)(m:Int)(kb ko kc:Nat)(hs:s.size<=9223372036854775807)(h:kM m kb ko kc w):
 Calls Tryz.prog 253 #[.string s,.int .i64 kd] w λe w'=>e=.returned (.bool (decide (Lx.aD s=(kd,0))))/\Below w.heap.size w w':=by
 refine(Cz w s kd _ _ _ _ rfl rfl (q8 s w m kb ko kc hs h)).mono ?_
 rintro e w1 ⟨rfl,hb⟩
 refine⟨congrArg (λb=>Ending.returned (.bool b)) ?_,hb⟩
 rw[Bool.eq_iff_iff,Bool.and_eq_true,beq_iff_eq,beq_iff_eq,decide_eq_true_eq]
 constructor
 ·rintro⟨a,b⟩;exact Prod.ext b a
 ·intro h;rw[h];exact⟨rfl,rfl⟩
theorem JQ (w:World)(s:ByteArray)(n1:Calls Tryz.prog 253 #[.string s,.int .i64 2] w λe w'=>e=.returned (.bool false)/\Below w.heap.size w w'):
 Calls Tryz.prog 257 #[.string s] w λe w'=>e=.returned (.tuple #[.int .i64 0,.int .i64 30])/\Below w.heap.size w w':=by
 go_enter Tryz.func257,Tryz.ntmps257
 go_wp2_with fail
 refine n1.mono ?_
 rintro e w1 ⟨rfl,hb⟩
 have HB:=Lib.hid hb
 clear n1 hb
 go_wp2_with fail
 go_ret2
 exact⟨rfl,HB.out⟩
theorem JL (w:World)(s:ByteArray)(n1:Calls Tryz.prog 253 #[.string s,.int .i64 3] w λe w'=>e=.returned (.bool false)/\Below w.heap.size w w'):
 Calls Tryz.prog 225 #[.string s] w λe w'=>e=.returned (.tuple #[.int .i64 0,.int .i64 30])/\Below w.heap.size w w':=by
 go_enter Tryz.func225,Tryz.ntmps225
 go_wp2_with fail
 refine n1.mono ?_
 rintro e w1 ⟨rfl,hb⟩
 have HB:=Lib.hid hb
 clear n1 hb
 go_wp2_with fail
 go_ret2
 exact⟨rfl,HB.out⟩
theorem Gm (w:World)(s:ByteArray)(n:Int)(b1 b2:Bool)(h1:decide (n<1)=b1)(h2:decide (1000000000000000<n)=b2)(n1:Calls Tryz.prog 253 #[.string s,.int .i64 2] w λe w'=>e=.returned (.bool true)/\Below w.heap.size w w')
 (n2:Hid (∀w1,Below w.heap.size w w1->Calls Tryz.prog 277 #[.string s,.int .i64 10,.int .i64 64] w1 λe w'=>e=.returned (.tuple #[.int .i64 n,.nilIface])/\Below w1.heap.size w1 w')):
 Calls Tryz.prog 257 #[.string s] w λe w'=>e=.returned (.tuple #[.int .i64 (if b1||b2 then 0 else n),.int .i64 (if b1||b2 then 2 else 0)])/\Below w.heap.size w w':=by
 cases b1
 all_goals cases b2
 all_goals simp only[decide_eq_true_eq,decide_eq_false_iff_not]at h1 h2
 all_goals try (exfalso;omega)
 all_goals
  go_enter Tryz.func257,Tryz.ntmps257
  go_wp2_with fail
  refine n1.mono ?_
  rintro e w1 ⟨rfl,hb⟩
  have HB:=Lib.hid hb
  have m2:=n2.out w1 hb
  clear n1 hb n2
  go_wp2_with fail
  refine m2.mono ?_
  rintro e w2 ⟨rfl,hb⟩
  have HB2:=Lib.hid (HB.out.trans (hb.mono HB.out.size))
  clear m2 hb
  go_wp2_with fail
  go_ret2
  exact⟨rfl,HB2.out⟩
theorem yF (w:World)(s:ByteArray)(n:Int)(n1:Calls Tryz.prog 253 #[.string s,.int .i64 2] w λe w'=>e=.returned (.bool true)/\Below w.heap.size w w')
 (n2:Hid (∀w1,Below w.heap.size w w1->Calls Tryz.prog 277 #[.string s,.int .i64 10,.int .i64 64] w1 λe w'=>(∃te pe,e=.returned (.tuple #[.int .i64 n,.iface te pe]))/\Below w1.heap.size w1 w')):
 Calls Tryz.prog 257 #[.string s] w λe w'=>e=.returned (.tuple #[.int .i64 0,.int .i64 2])/\Below w.heap.size w w':=by
 go_enter Tryz.func257,Tryz.ntmps257
 go_wp2_with fail
 refine n1.mono ?_
 rintro e w1 ⟨rfl,hb⟩
 have HB:=Lib.hid hb
 have m2:=n2.out w1 hb
 clear n1 hb n2
 go_wp2_with fail
 refine m2.mono ?_
 rintro e w2 ⟨⟨te,pe,rfl⟩,hb⟩
 have HB2:=Lib.hid (HB.out.trans (hb.mono HB.out.size))
 clear m2 hb
 go_wp2_with fail
 go_ret2
 exact⟨rfl,HB2.out⟩
def ym (v:Int):Int×Int:=if v<1\/1000000000000000<v then(0,2)else(v,0)
def nD (s:ByteArray):Int×Int:=
 if Lx.aD s=(2,0)then(match Lib.parseIntB 64 s.data.toList with| .ok v=>ym v|_=>(0,2))else(0,30)
theorem FX (v:Int):((if (decide (v<1)||decide (1000000000000000<v))=true then(0:Int)else v),(if (decide (v<1)||decide (1000000000000000<v))=true then(2:Int)else 0))=ym v:=by
 unfold ym
 by_cases h:v<1\/1000000000000000<v
 ·rw[if_pos h,if_pos (by simpa using h),if_pos (by simpa using h)]
 ·rw[if_neg h,if_neg (by simpa using h),if_neg (by simpa using h)]
theorem ps_qty {W0:World}(m:Int)(kb ko kc:Nat)(hx:kM m kb ko kc W0)(ha:rG m W0):nH 257 W0 nD:=by
 refine⟨enters_of Tryz.func257 (by kernel_rfl) rfl,λs hs=>?_,λw s hw hsz=>?_⟩
 ·unfold nD at hs⊢
  split
  ·rw[if_pos (by assumption)]at hs
   split
   ·rename_i v hv
    rw[hv]at hs
    simp only[ym]at hs⊢
    split
    ·rfl
    ·rw[if_neg (by assumption)]at hs;exact absurd rfl hs
   ·rfl
  ·rfl
 ·have n1:=yE s 2 w m kb ko kc (by omega) (hx.below hw)
  by_cases hc:Lx.aD s=(2,0)
  ·rw[decide_eq_true hc]at n1
   have hq:nD s=(match Lib.parseIntB 64 s.data.toList with| .ok v=>ym v|_=>(0,2)):=by unfold nD;rw[if_pos hc]
   have env:∀w1,Below w.heap.size w w1->rG m w1:=λw1 h1=>ha.below (hw.trans (h1.mono hw.size))
   rcases hr:Lib.parseIntB 64 s.data.toList with v|_|_
   ·rw[hr]at hq
    simp only[]at hq
    rw[hq,<-FX v]
    refine Gm w s v _ _ rfl rfl n1 (Lib.hid λw1 h1=>?_)
    refine(Tryz.strconv_ParseInt_10_at64_ok s (by omega) v hr w1).mono ?_
    rintro e w' ⟨rfl,hw'⟩
    refine⟨rfl,?_⟩
    rcases hw' with rfl|⟨t,rfl⟩
    ·exact Below.refl _ _
    ·exact Lib.bytesWorld_below _ _ _
   ·rw[hr]at hq
    simp only[]at hq
    rw[hq]
    refine yF w s 0 n1 (Lib.hid λw1 h1=>?_)
    obtain⟨_,⟨a,b,h2⟩,⟨c,d,h3⟩⟩:=env w1 h1
    refine(Tryz.strconv_ParseInt_10_at64_syntax s (by omega) hr _ w1 h3 (Or.inr ⟨_,_,rfl⟩)).mono ?_
    rintro e w' ⟨N,rfl,_,_,hb⟩
    exact⟨⟨_,_,rfl⟩,hb⟩
   ·rw[hr]at hq
    simp only[]at hq
    rw[hq]
    refine yF w s (Lib.intSat 64 s.data.toList) n1 (Lib.hid λw1 h1=>?_)
    obtain⟨_,⟨a,b,h2⟩,⟨c,d,h3⟩⟩:=env w1 h1
    refine(Tryz.strconv_ParseInt_10_at64_range s (by omega) hr _ w1 h2 (Or.inr ⟨_,_,rfl⟩)).mono ?_
    rintro e w' ⟨N,rfl,_,_,hb⟩
    exact⟨⟨_,_,rfl⟩,hb⟩
  ·rw[decide_eq_false hc]at n1
   have hq:nD s=(0,30):=by unfold nD;rw[if_neg hc]
   rw[hq]
   exact JQ w s n1
def iK:List (ByteArray×Nat):=[(⟨#[112,97,121]⟩,99),(⟨#[100,101,108,105,118,101,114]⟩,100),(⟨#[114,101,99,101,105,118,101]⟩,101),
 (⟨#[112,108,101,100,103,101]⟩,102),(⟨#[114,101,108,101,97,115,101]⟩,103),(⟨#[97,109,101,110,100]⟩,104),
 (⟨#[99,97,110,99,101,108]⟩,105),(⟨#[104,111,108,100]⟩,106),(⟨#[114,101,115,117,109,101]⟩,107)]
def pU:List Value:=iK.flatMap λx=>[.string x.1,.func (.func x.2) #[] #[]]
theorem M5 (w:World):Calls Tryz.prog 52 #[] w λe w'=>e=.returned (.slice (some ⟨w.heap.size,0,none⟩) 9 9)/\w'=w.alloc (.cells pU.toArray 103):=by
 go_enter Tryz.func52,Tryz.ntmps52
 go_wp2_with fail
 go_ret
 exact⟨rfl,rfl⟩
theorem QN:∀(l:List (ByteArray×Nat)) (j:Nat) (x:ByteArray×Nat),l[j]? =some x->(l.flatMap λx=>[Value.string x.1,.func (.func x.2) #[] #[]])[j*2]? =some (.string x.1)/\(l.flatMap λx=>[Value.string x.1,.func (.func x.2) #[] #[]])[j*2+1]? =some (.func (.func x.2) #[] #[])
 |[],j,x,h=>by simp at h
 |y::l,0,x,h=>by
  obtain rfl:y=x:=by simpa using h
  exact⟨rfl,rfl⟩
 |y::l,j+1,x,h=>by
  have ih:=QN l j x (by simpa using h)
  rw[show(j+1)*2=j*2+1+1 from by omega]
  exact ih
theorem BH (W:World)(r q:Nat)(P1:World->Prop)
 (n1:Calls Tryz.prog 100 #[.pointer (some ⟨r,0,none⟩),.pointer (some ⟨q,0,none⟩)] W λe W'=>e=.returned (.tuple #[])/\P1 W')
 (s1:Hid (∀w,P1 w->∃(x y:ByteArray) (cs:Array Value),w.heap[q]? =some (.cells cs 37 (0,0))/\cs[5]? =some (.string x)/\cs[6]? =some (.string y)/\7<cs.size)):
 Calls Tryz.prog 101 #[.pointer (some ⟨r,0,none⟩),.pointer (some ⟨q,0,none⟩)] W λe W'=>e=.returned (.tuple #[])/\∃(w:World) (x y:ByteArray),P1 w/\w.cell? ⟨q,5,none⟩=some (.string x)/\w.cell? ⟨q,6,none⟩=some (.string y)/\W'=(((w.setCell ⟨q,7,none⟩ (.int .i64 1)).setCell ⟨q,5,none⟩ (.string y)).setCell ⟨q,6,none⟩ (.string x)).drew:=by
 go_enter Tryz.func101,Tryz.ntmps101
 go_wp2_with fail
 refine n1.mono ?_
 rintro e w ⟨rfl,h1⟩
 obtain⟨x,y,cs,hr,hx,hy,hs⟩:=s1.out w h1
 have c5:w.cell? ⟨q,5,none⟩=some (.string x):=by rw[cell_of_row _ _ _ _ _ _ hr];exact hx
 have c6:w.cell? ⟨q,6,none⟩=some (.string y):=by rw[cell_of_row _ _ _ _ _ _ hr];exact hy
 have c7:w.cell? ⟨q,7,none⟩=some cs[7]:=by rw[cell_of_row _ _ _ _ _ _ hr];exact Array.getElem?_eq_getElem hs
 have f5:=aZ 5 hr
 have f6:=aZ 6 hr
 have f7:=aZ 7 hr
 have d5:w.drew.cell? ⟨q,5,none⟩=some (.string x):=c5
 have d6:w.drew.cell? ⟨q,6,none⟩=some (.string y):=c6
 have d7:w.drew.cell? ⟨q,7,none⟩=some cs[7]:=c7
 have g5:w.drew.frozen? ⟨q,5,none⟩=false:=f5
 have g6:w.drew.frozen? ⟨q,6,none⟩=false:=f6
 have g7:w.drew.frozen? ⟨q,7,none⟩=false:=f7
 have H1:=Lib.hid h1
 have HC5:=Lib.hid c5
 have HC6:=Lib.hid c6
 clear n1 s1 hr hx hy h1
 go_wp2_with fail
 go_region_law (fail)
 all_goals
  go_end0
  exact⟨rfl,w,x,y,H1.out,HC5.out,HC6.out,rfl⟩
def ji (D:ByteArray->Int×Int)(s:ByteArray):Int×Int:=if (D s).2=0 then((D s).1,0)else(0,28)
theorem KV (w:World)(s:ByteArray)(n:Int)(_hw:IntKind.i64.wrap n=n)
 (n1:Calls Tryz.prog 227 #[.string s] w λe w'=>e=.returned (.tuple #[.int .i64 n,.int .i64 0])/\Below w.heap.size w w'):
 Calls Tryz.prog 226 #[.string s] w λe w'=>e=.returned (.tuple #[.int .i64 n,.int .i64 0])/\Below w.heap.size w w':=by
 go_enter Tryz.func226,Tryz.ntmps226
 go_wp2_with fail
 refine n1.mono ?_
 rintro e w1 ⟨rfl,hb⟩
 have HB:=Lib.hid hb
 clear n1 hb
 go_wp2_with fail
 go_ret2
 exact⟨rfl,HB.out⟩
theorem NB (w:World)(s:ByteArray)(n x:Int)(hx:(x==0)=false)
 (n1:Calls Tryz.prog 227 #[.string s] w λe w'=>e=.returned (.tuple #[.int .i64 n,.int .i64 x])/\Below w.heap.size w w'):
 Calls Tryz.prog 226 #[.string s] w λe w'=>e=.returned (.tuple #[.int .i64 0,.int .i64 28])/\Below w.heap.size w w':=by
 go_enter Tryz.func226,Tryz.ntmps226
 go_wp2_with fail
 refine n1.mono ?_
 rintro e w1 ⟨rfl,hb⟩
 have HB:=Lib.hid hb
 clear n1 hb
 go_wp2_with fail
 go_ret2
 exact⟨rfl,HB.out⟩
theorem Ik {W0:World}(D:ByteArray->Int×Int)(hr:∀s,IntKind.i64.wrap (D s).1=(D s).1)
 (hD:∀w (s:ByteArray),Below W0.heap.size W0 w->s.size<=1000000->Calls Tryz.prog 227 #[.string s] w λe W'=>e=.returned (.tuple #[.int .i64 (D s).1,.int .i64 (D s).2])/\Below w.heap.size w W'):
 nH 226 W0 (ji D):=by
 refine⟨enters_of Tryz.func226 (by kernel_rfl) rfl,λs hs=>?_,λw s hw hsz=>?_⟩
 ·unfold ji at hs⊢
  split
  ·rw[if_pos (by assumption)]at hs;exact absurd rfl hs
  ·rfl
 ·have n1:=hD w s hw hsz
  by_cases h:(D s).2=0
  ·rw[h]at n1
   unfold ji
   rw[if_pos h]
   exact KV w s _ (hr s) n1
  ·unfold ji
   rw[if_neg h]
   exact NB w s _ _ (by rw[beq_eq_false_iff_ne];exact h) n1
theorem I6 (w:World)(s:ByteArray)(n:Int)(b1 b2:Bool)(h1:decide (n<1)=b1)(h2:decide (1000000000000000<n)=b2)(n1:Calls Tryz.prog 253 #[.string s,.int .i64 3] w λe w'=>e=.returned (.bool true)/\Below w.heap.size w w')
 (n2:Hid (∀w1,Below w.heap.size w w1->Calls Tryz.prog 254 #[.string s] w1 λe w'=>e=.returned (.tuple #[.int .i64 n,.int .i64 0])/\Below w1.heap.size w1 w')):
 Calls Tryz.prog 225 #[.string s] w λe w'=>e=.returned (.tuple #[.int .i64 (if b1||b2 then 0 else n),.int .i64 (if b1||b2 then 2 else 0)])/\Below w.heap.size w w':=by
 cases b1
 all_goals cases b2
 all_goals simp only[decide_eq_true_eq,decide_eq_false_iff_not]at h1 h2
 all_goals try (exfalso;omega)
 all_goals
  go_enter Tryz.func225,Tryz.ntmps225
  go_wp2_with fail
  refine n1.mono ?_
  rintro e w1 ⟨rfl,hb⟩
  have HB:=Lib.hid hb
  have m2:=n2.out w1 hb
  clear n1 hb n2
  go_wp2_with fail
  refine m2.mono ?_
  rintro e w2 ⟨rfl,hb⟩
  have HB2:=Lib.hid (HB.out.trans (hb.mono HB.out.size))
  clear m2 hb
  go_wp2_with fail
  go_ret2
  exact⟨rfl,HB2.out⟩
theorem II (w:World)(s:ByteArray)(n x:Int)(h0:¬x=0)(n1:Calls Tryz.prog 253 #[.string s,.int .i64 3] w λe w'=>e=.returned (.bool true)/\Below w.heap.size w w')
 (n2:Hid (∀w1,Below w.heap.size w w1->Calls Tryz.prog 254 #[.string s] w1 λe w'=>e=.returned (.tuple #[.int .i64 n,.int .i64 x])/\Below w1.heap.size w1 w')):
 Calls Tryz.prog 225 #[.string s] w λe w'=>e=.returned (.tuple #[.int .i64 0,.int .i64 2])/\Below w.heap.size w w':=by
 go_enter Tryz.func225,Tryz.ntmps225
 go_wp2_with fail
 refine n1.mono ?_
 rintro e w1 ⟨rfl,hb⟩
 have HB:=Lib.hid hb
 have m2:=n2.out w1 hb
 clear n1 hb n2
 go_wp2_with fail
 refine m2.mono ?_
 rintro e w2 ⟨rfl,hb⟩
 have HB2:=Lib.hid (HB.out.trans (hb.mono HB.out.size))
 clear m2 hb
 go_wp2_with fail
 go_ret2
 exact⟨rfl,HB2.out⟩
def qA (A:ByteArray->Int×Int)(s:ByteArray):Int×Int:=
 if Lx.aD s=(3,0)then(if (A s).2=0 then ym (A s).1 else(0,2))else(0,30)
theorem qf {s:ByteArray}(h:Lx.aD s=(3,0)):Lx.decimal s.data.toList=true:=by
 unfold Lx.aD at h
 split at h
 ·cases h
 ·split at h
  ·cases h
  ·split at h
   ·cases h
   ·split at h
    ·assumption
    ·split at h
     ·cases h
     ·split at h<;>cases h
theorem ps_amt {W0:World}(m:Int)(kb ko kc:Nat)(hx:kM m kb ko kc W0)(A:ByteArray->Int×Int)
 (hA:∀w (s:ByteArray),Below W0.heap.size W0 w->s.size<=32->Lx.decimal s.data.toList=true->Calls Tryz.prog 254 #[.string s] w λe W'=>e=.returned (.tuple #[.int .i64 (A s).1,.int .i64 (A s).2])/\Below w.heap.size w W'):
 nH 225 W0 (qA A):=by
 refine⟨enters_of Tryz.func225 (by kernel_rfl) rfl,λs hs=>?_,λw s hw hsz=>?_⟩
 ·unfold qA at hs⊢
  split
  ·rw[if_pos (by assumption)]at hs
   split
   ·rw[if_pos (by assumption)]at hs
    unfold ym at hs⊢
    split
    ·rfl
    ·rw[if_neg (by assumption)]at hs;exact absurd rfl hs
   ·rfl
  ·rfl
 ·have n1:=yE s 3 w m kb ko kc (by omega) (hx.below hw)
  by_cases hc:Lx.aD s=(3,0)
  ·rw[decide_eq_true hc]at n1
   have h32:s.size<=32:=by
    rcases Nat.lt_or_ge 32 s.size with h|h
    ·unfold Lx.aD at hc;rw[if_pos h]at hc;cases hc
    ·exact h
   have hA1:=λw1 (h1:Below w.heap.size w w1)=>hA w1 s (hw.trans (h1.mono hw.size)) h32 (qf hc)
   unfold qA
   rw[if_pos hc]
   by_cases h:(A s).2=0
   ·rw[if_pos h,<-FX]
    rw[h]at hA1
    exact I6 w s (A s).1 _ _ rfl rfl n1 (Lib.hid hA1)
   ·rw[if_neg h]
    exact II w s (A s).1 (A s).2 h n1 (Lib.hid hA1)
  ·rw[decide_eq_false hc]at n1
   have hq:qA A s=(0,30):=by unfold qA;rw[if_neg hc]
   rw[hq]
   exact JL w s n1
def kC (sn:List Bool):Array Value:=(sn.map Value.bool).toArray
theorem bT.fresh {W0 W:World}{r tb cap q sb:Nat}{l:List Ps.Tok}{st st':Ps.St}{cs:Array Value}{w w':World}(h:bT W0 W r tb cap q l st cs w)(hr:eu w' r tb cap l st')(hT:Tch r sb w w')(hsq:sb≠q)(hW:W.heap.size<=sb)(h0:W0.heap.size<=sb):bT W0 W r tb cap q l st' cs w':=by
 obtain⟨a,b,c,d,e,f⟩:=h
 refine⟨⟨hr,a.base.trans (hT.below a.r0 h0 a.base.size),a.r0⟩,(hT.block q (Array.getElem?_eq_some_iff.1 b).1 d (Ne.symm hsq)).trans b,?_,d,e,f⟩
 exact⟨hT.os.trans c.os,hT.tape.trans c.tape,hT.output.trans c.output,Nat.le_trans c.size hT.size,λj hj h1 h2=>(hT.block j (Nat.lt_of_lt_of_le hj c.size) h1 (by omega)).trans (c.block j hj h1 h2)⟩
theorem Nz {W0 W:World}{r tb cap q sb a:Nat}{l:List Ps.Tok}{cs:Array Value}{w:World}(h:bT W0 W r tb cap q l (.ok a) cs w)(hlt:a<l.length)(sn:List Bool)(t:TypeId)(hs:w.heap[sb]? =some (.cells (kC sn) t (0,0)))
 (hsr:sb≠r) (hsq:sb≠q) (hst:sb≠tb) (hW:W.heap.size<=sb) (h0:W0.heap.size<=sb) (p:Nat) (hp:p<6) (b:Bool) (hb:sn[p]? =some b):
 Calls Tryz.prog 229 #[.pointer (some ⟨r,0,none⟩),.pointer (some ⟨sb,0,none⟩),.int .i64 p] w λe W'=>e=.returned (.bool (!b))/\
  bT W0 W r tb cap q l (if b=true then .error (Ps.aU l a,7)else .ok (a+1)) cs W'/\W'.heap[sb]? =some (.cells (kC (sn.set p true)) t (0,0))/\Tch r sb w W':=by
 have hcp:(kC sn)[p]? =some (.bool b):=by unfold kC;rw[List.getElem?_toArray,List.getElem?_map,hb];rfl
 cases b with
 |true=>
  have hc:w.cell? ⟨sb,p,none⟩=some (.bool true):=by rw[cell_of_row _ _ _ _ _ _ hs];exact hcp
  refine Cw w r sb p _ hp (by omega) hc ((jw h.1.rd 7 (by decide) (λb hb=>by cases hb;exact hlt)).mono ?_)
  rintro e w1 ⟨h1,h2,h3⟩
  have hset:sn.set p true=sn:=by
   apply List.ext_getElem?
   intro i
   by_cases hi:p=i
   ·subst hi
    rw[List.getElem?_set_self (List.getElem?_eq_some_iff.1 hb).1,hb]
   ·rw[List.getElem?_set_ne hi]
  rw[hset]
  exact⟨h1,h.step (h.1.next h2 h3) h3,(h3.block sb (Array.getElem?_eq_some_iff.1 hs).1 hsr hsr).trans hs,h3.left⟩
 |false=>
  obtain⟨a',o,e0,hr,ht,hne,hpos,hcap,fT,hst2⟩:=h.1.rd
  obtain⟨rfl,rfl,hle⟩:=hst2
  refine(Gl w r sb p tb l.length cap a' o 0 (kC sn) t hp (by omega) hs hcp hsr hr (by unfold wrap64;omega)).mono ?_
  rintro e w1 ⟨rfl,h1,h2,h3⟩
  refine⟨rfl,h.fresh ⟨a'+1,o,0,h1,ht.tch h3 hne (Ne.symm hst),hne,hpos,hcap,fT,rfl,rfl,hlt⟩ h3 hsq hW h0,?_,h3⟩
  rw[h2]
  unfold kC
  simp
def psE (Fc Fq Fd:ByteArray->Int×Int):Ps.Env:={valid:=λk s=>decide (au k s=0),cash:=Fc,number:=Fq,date:=Fd}
theorem qp (Fc Fq Fd:ByteArray->Int×Int)(l:List Ps.Tok)(k:Nat)(ks:List Int):Ps.ident (psE Fc Fq Fd) l k ks=Ps.take l (λs=>(s,dM k s)) ks:=by
 unfold Ps.ident
 congr 1
 funext s
 simp only[psE,dM,decide_eq_true_eq]
theorem Gb (Fc Fq Fd:ByteArray->Int×Int)(l:List Ps.Tok):Ps.ref (psE Fc Fq Fd) l=vJ l:=qp _ _ _ l 2 _
theorem uI (Fc Fq Fd:ByteArray->Int×Int)(l:List Ps.Tok):Ps.member (psE Fc Fq Fd) l=vQ l:=qp _ _ _ l 1 _
theorem Jr (Fc Fq Fd:ByteArray->Int×Int)(l:List Ps.Tok):Ps.isin (psE Fc Fq Fd) l=LJ l:=qp _ _ _ l 0 _
theorem PU (Fc Fq Fd:ByteArray->Int×Int)(hd:∀s,(Fd s).2=0\/Fd s=(0,28))(l:List Ps.Tok):Ps.day (psE Fc Fq Fd) l=Ps.take l Fd [4]:=by
 unfold Ps.day
 congr 1
 funext s
 show((Fd s).1,if (Fd s).2=0 then(0:Int)else 28)=Fd s
 rcases hd s with h|h
 ·rw[if_pos h];exact Prod.ext rfl h.symm
 ·rw[h];rfl
theorem psE_by (Fc Fq Fd:ByteArray->Int×Int)(l:List Ps.Tok):Ps.by_ (psE Fc Fq Fd) l=QD l:=by unfold Ps.by_ QD;rw[uI]
abbrev eF:Value:=.slice none 0 0
open Go.Proofs.YtnjjeapcalkmaaaGreatDoor.Ev (AV Mem Fr Sh Stop Qof ah dw bH jA nQ fmC qO look keep gM)
structure Pdr (W0:World)(l:List Ps.Tok)(E:Ps.Env):Prop where
 toks:ek l
 ref:oh 53 W0 l (Ps.ref E l)
 member:oh 223 W0 l (Ps.member E l)
 isin:oh 231 W0 l (Ps.isin E l)
 by_:oh 185 W0 l (Ps.by_ E l)
 cash:wD 180 W0 l (Ps.cash E l)
 qty:wD 230 W0 l (Ps.quantity E l)
 day:wD 181 W0 l (Ps.day E l)
 prio:∀w,Below W0.heap.size W0 w->rQ w
section
variable {W0 W : World} {r tb cap q : Nat} {l : List Ps.Tok} {E : Ps.Env}
def pqR (W0:World)(r tb cap:Nat)(l:List Ps.Tok)(st:Ps.St)(w:World):Prop:=fK W0 w r tb cap l st
def Im (l:List Ps.Tok)(s:RS)(p:Ps.P ByteArray):List AV->Option (Value×Option RS)
 |[.p 0 0]=>some (.string (Ps.step p ⟨#[]⟩ (s.st l)).1,some (.any (Ps.step p ⟨#[]⟩ (s.st l)).2))
 |_=>none
def M8 (l:List Ps.Tok)(s:RS)(p:Ps.P Int):List AV->Option (Value×Option RS)
 |[.p 0 0]=>some (.int .i64 (Ps.step p 0 (s.st l)).1,some (.any (Ps.step p 0 (s.st l)).2))
 |_=>none
def pqTab (E:Ps.Env)(l:List Ps.Tok)(s:RS):List (FuncId×(List AV->Option (Value×Option RS))):=
 [(179,λvs=>match vs with|[.p 0 0,.v (.string x)]=>some (.tuple #[],some (.any (Ps.step (Ps.word l x.data.toList) () (s.st l)).2))|_=>none),
  (53,Im l s (Ps.ref E l)),(223,Im l s (Ps.member E l)),(231,Im l s (Ps.isin E l)),(185,Im l s (Ps.by_ E l)),
  (180,M8 l s (Ps.cash E l)),(230,M8 l s (Ps.quantity E l)),(181,M8 l s (Ps.day E l)),
  (51,λvs=>match vs with|[.p 0 0]=>some (.string (Ps.jH l (s.st l)),none)|_=>none),
  (55,λvs=>match vs with|[.p 0 0]=>(match s with| .at0 _=>some (.bool true,none)|_=>some (.bool (Ps.dA l (s.st l)),none))|_=>none),
  (50,λvs=>match vs with|[.p 0 0]=>some (.bool (Ps.dA l (s.st l)),some (.any (Ps.fC l (s.st l))))|_=>none),
  (54,λvs=>match vs,s with|[.p 0 0,.v (.int .i64 n)],.at0 a=>if n=30 then some (.tuple #[],some (.any (Ps.pW l 30 (.ok a))))else none|_,_=>none),
  (228,λvs=>match vs with|[.v (.string x)]=>some (.int .i64 (prV x),none)|_=>none)]
def Lp (E:Ps.Env)(l:List Ps.Tok)(s:RS)(f:FuncId)(vs:List AV):Option (Value×Option RS):=wJ (pqTab E l s) f vs
theorem JE (hP:Pdr W0 l E){σ:Type}{M:Mem σ}(hM:M.blk.getD 0 (0,0)=(r,0)){s:RS}{f:FuncId}{vs:List AV}{v:Value}{s':Option RS}(h:Lp E l s f vs=some (v,s')):uU l r (pqR W0 r tb cap l) M s f vs v (s'.getD s):=by
 have hp:(AV.p 0 0).val M=.pointer (some ⟨r,0,none⟩):=by
  show Value.pointer (some ⟨(M.blk.getD 0 (0,0)).1,(M.blk.getD 0 (0,0)).2+0,none⟩)=_
  rw[hM]
 have hstr:∀{g:FuncId} {p:Ps.P ByteArray},oh g W0 l p->(∀args w,(callFunc g args).run Tryz.prog w=.ok (.enter g args) w)->∀vs (b:Value×Option RS),Im l s p vs=some b->uU l r (pqR W0 r tb cap l) M s g vs b.1 (b.2.getD s):=λhg he vs b h=>by
  unfold Im at h
  split at h
  ·cases h
   refine⟨he,λ_=>⟨trivial,λw hw=>?_⟩⟩
   simp only[List.map_cons,List.map_nil,hp]
   exact hg w r tb cap _ hw
  ·cases h
 have hint:∀{g:FuncId} {p:Ps.P Int},wD g W0 l p->(∀args w,(callFunc g args).run Tryz.prog w=.ok (.enter g args) w)->∀vs (b:Value×Option RS),M8 l s p vs=some b->uU l r (pqR W0 r tb cap l) M s g vs b.1 (b.2.getD s):=λhg he vs b h=>by
  unfold M8 at h
  split at h
  ·cases h
   refine⟨he,λ_=>⟨trivial,λw hw=>?_⟩⟩
   simp only[List.map_cons,List.map_nil,hp]
   exact hg w r tb cap _ hw
  ·cases h
 refine qZ (G:=λf vs b=>uU l r (pqR W0 r tb cap l) M s f vs b.1 (b.2.getD s)) h ?_
 refine List.forall_mem_cons.2 ⟨λvs b h=>?_,List.forall_mem_cons.2 ⟨hstr hP.ref (enters_of Tryz.func53 (by kernel_rfl) rfl),List.forall_mem_cons.2 ⟨hstr hP.member (enters_of Tryz.func223 (by kernel_rfl) rfl),List.forall_mem_cons.2 ⟨hstr hP.isin (enters_of Tryz.func231 (by kernel_rfl) rfl),List.forall_mem_cons.2 ⟨hstr hP.by_ (enters_of Tryz.func185 (by kernel_rfl) rfl),List.forall_mem_cons.2 ⟨hint hP.cash (enters_of Tryz.func180 (by kernel_rfl) rfl),List.forall_mem_cons.2 ⟨hint hP.qty (enters_of Tryz.func230 (by kernel_rfl) rfl),List.forall_mem_cons.2 ⟨hint hP.day (enters_of Tryz.func181 (by kernel_rfl) rfl),
  List.forall_mem_cons.2 ⟨λvs b h=>?_,List.forall_mem_cons.2 ⟨λvs b h=>?_,List.forall_mem_cons.2 ⟨λvs b h=>?_,List.forall_mem_cons.2 ⟨λvs b h=>?_,List.forall_mem_cons.2 ⟨λvs b h=>?_,λ_ h=>by cases h⟩⟩⟩⟩⟩⟩⟩⟩⟩⟩⟩⟩⟩
 ·dsimp only at h
  split at h
  ·cases h
   refine⟨enters_of Tryz.func179 (by kernel_rfl) rfl,λ_=>⟨trivial,λw hw=>?_⟩⟩
   simp only[List.map_cons,List.map_nil,hp]
   exact yM hP.toks hw _
  ·cases h
 ·dsimp only at h
  split at h
  ·cases h
   refine⟨enters_of Tryz.func51 (by kernel_rfl) rfl,λhb=>⟨hb,λw hw=>?_⟩⟩
   simp only[List.map_cons,List.map_nil,hp]
   exact(tX hw.rd).mono λe w' ⟨k1,k,k2⟩=>⟨k1,by rw[k2];exact hw.next (hw.rd.drewN k) (Tch.drewN _ _ _ _),by rw[k2];exact Tch.drewN _ _ _ _⟩
  ·cases h
 ·dsimp only at h
  split at h
  ·have key:∀w,pqR W0 r tb cap l (s.st l) w->Calls Tryz.prog 55 (List.map (AV.val M) [AV.p 0 0]).toArray w λe w'=>e=.returned (.bool (Ps.dA l (s.st l)))/\pqR W0 r tb cap l (s.st l) w'/\Tch r r w w':=λw hw=>by
    simp only[List.map_cons,List.map_nil,hp]
    exact(mR (fK.rd hw)).mono λe w' ⟨k1,k,k2⟩=>⟨k1,by rw[k2];exact fK.next hw (hw.rd.drewN k) (Tch.drewN _ _ _ _),by rw[k2];exact Tch.drewN _ _ _ _⟩
   split at h
   ·cases h
    refine⟨enters_of Tryz.func55 (by kernel_rfl) rfl,λhb=>⟨hb,λw hw=>(key w hw).mono λe w' k=>⟨k.1.trans ?_,k.2⟩⟩⟩
    rename_i a
    have hb2:a<l.length:=hb
    show Ending.returned (.bool (decide (a<l.length)))=_
    rw[decide_eq_true hb2]
   ·cases h
    exact⟨enters_of Tryz.func55 (by kernel_rfl) rfl,λhb=>⟨hb,key⟩⟩
  ·cases h
 ·dsimp only at h
  split at h
  ·cases h
   refine⟨enters_of Tryz.func50 (by kernel_rfl) rfl,λ_=>⟨trivial,λw hw=>?_⟩⟩
   simp only[List.map_cons,List.map_nil,hp]
   exact(tV (fK.rd hw) hP.toks).mono λe w' ⟨k1,k2,k3⟩=>⟨k1,fK.next hw k2 k3,k3⟩
  ·cases h
 ·dsimp only at h
  split at h
  ·split at h
   ·rename_i hn
    subst hn
    cases h
    refine⟨enters_of Tryz.func54 (by kernel_rfl) rfl,λhb=>⟨trivial,λw hw=>?_⟩⟩
    simp only[List.map_cons,List.map_nil,hp]
    exact(jw (fK.rd hw) 30 (by decide) (λb hb2=>by cases hb2;exact hb)).mono λe w' ⟨k1,k2,k3⟩=>⟨k1,fK.next hw k2 k3,k3⟩
   ·cases h
  ·cases h
 ·dsimp only at h
  split at h
  ·cases h
   refine⟨enters_of Tryz.func228 (by kernel_rfl) rfl,λhb=>⟨hb,λw hw=>?_⟩⟩
   exact(BG w _ (hP.prio w (fK.base hw))).mono λe w' ⟨k1,k2⟩=>⟨k1,by rw[<-k2];exact hw,by rw[<-k2];exact Tch.refl _ _ _⟩
  ·cases h
def QS:RS->Option RS
 | .at0 a=>some (.any (.ok (a+1)))
 |_=>none
theorem pq_inc:RdI l r (pqR W0 r tb cap l) QS:=λs s' hs hb=>by
 cases s with
 |at0 b=>
  cases hs
  refine⟨trivial,λw h=>?_⟩
  obtain⟨a,o,e,hr,ht,hne,hpos,hcap,fT,rfl,rfl,hle⟩:=fK.rd h
  have hlt:a<l.length:=hb
  obtain⟨-,k1,-,-,-⟩:=bf hr
  have hw1:IntKind.i64.wrap ((a:Int)+1)=((a+1:Nat):Int):=by rw[IntWalk.i64_in _ (by omega)];rfl
  refine⟨a,k1,aZ 1 hr,?_⟩
  rw[hw1]
  have hT:Tch r r w (w.setCell ⟨r,1,none⟩ (.int .i64 ((a+1:Nat):Int))):=(Tch.refl r r w).setCell 1 _
  exact fK.next h ⟨a+1,o,0,bB w r 1 _ _ (.int .i64 ((a+1:Nat):Int)) hr,ht.tch hT hne hne,hne,hpos,hcap,fT,rfl,rfl,hlt⟩ hT
 |dup b a=>cases hs
 |any st=>cases hs
def Cx (Q:Ps.Req)(j:Nat)(v:Value):Option Ps.Req:=match j,v with
 |0,.int .i64 n=>some {Q with op:=n}
 |1,.string s=>some {Q with sender:=s}
 |2,.string s=>some {Q with ref:=s}
 |j+3,v=>if j<16 then(match LY Q.ins j v with|some i=>some {Q with ins:=i}|none=>none)else(match Ju Q.amd (j-16) v with|some a=>some {Q with amd:=a}|none=>none)
 |_,_=>none
theorem Il {Q Q':Ps.Req}{j:Nat}{v:Value}(h:Cx Q j v=some Q'):(∀lv,(aA Q lv).setIfInBounds j v=aA Q' lv)/\Q'.ins.links=Q.ins.links/\((∃n,v=.int .i64 n)\/(∃b,v=.bool b)\/∃s,v=.string s)/\j<28:=by
 unfold Cx at h
 split at h
 ·cases h;exact⟨λ_=>rfl,rfl,by simp,by decide⟩
 ·cases h;exact⟨λ_=>rfl,rfl,by simp,by decide⟩
 ·cases h;exact⟨λ_=>rfl,rfl,by simp,by decide⟩
 ·rename_i j
  split at h
  ·split at h
   ·rename_i i hi
    cases h
    unfold LY at hi
    split at hi
    all_goals first|(cases hi;exact⟨λ_=>rfl,rfl,by simp,by decide⟩)|cases hi
   ·cases h
  ·rename_i hj
   split at h
   ·rename_i a ha
    cases h
    obtain⟨k,rfl⟩:∃k,j=k+16:=⟨j-16,by omega⟩
    rw[Nat.add_sub_cancel]at ha
    unfold Ju at ha
    split at ha
    all_goals first|(cases ha;exact⟨λ_=>rfl,rfl,by simp,by decide⟩)|cases ha
   ·cases h
 ·cases h
def pqB (W0 W:World)(r tb cap q:Nat)(l:List Ps.Tok)(Ex:List Bool->List Ps.Link->Value->World->Prop)(st:Ps.St)(x:List Bool×Ps.Req)(w:World):Prop:=∃lv,bT W0 W r tb cap q l st (aA x.2 lv) w/\Ex x.1 x.2.ins.links lv w
def Ie (r q:Nat)(Ex:List Bool->List Ps.Link->Value->World->Prop):Prop:=∀{sn ks lv w w'},Ex sn ks lv w->Tch r q w w'->Ex sn ks lv w'
variable {Ex : List Bool → List Ps.Link → Value → World → Prop}
theorem KM (hE:Ie r q Ex):RdB (pqR W0 r tb cap l) r (pqB W0 W r tb cap q l Ex):=⟨λ⟨_,h,_⟩=>h.1,λ⟨lv,h,he⟩ hs hT=>⟨lv,h.step hs hT,hE he hT.left⟩⟩
def Dq (t:TypeId)(f:Nat):Option Nat:=if t=97 then(if f<4 then some f else none)else kz t f
theorem PK {t:TypeId}{f d:Nat}(h:Dq t f=some d)(b j:Nat)(w:World):(Instr.fieldAt t (.pointer (some ⟨b,j,none⟩)) f).run Tryz.prog w=.ok (.pointer (some ⟨b,j+d,none⟩)) w:=by
 unfold Dq at h
 split at h
 ·rename_i h1
  subst h1
  split at h
  ·cases h
   rcases f with _|_|_|_|f
   all_goals first|omega|go_simp
  ·cases h
 ·exact mI h b j w
def sc4 (t:TypeId):Bool:=t==2||t==3||t==4||t==9
theorem KP {t:TypeId}(h:sc4 t=true):t=2\/t=3\/t=4\/t=9:=by
 unfold sc4 at h
 simp only[Bool.or_eq_true,beq_iff_eq]at h
 rcases h with((h|h)|h)|h<;>simp[h]
def Jj (s:RS×(List Bool×Ps.Req))(t:TypeId)(k j:Nat):Option AV:=if k=1/\sc4 t=true/\j≠18 then(match (aA s.2.2 eF)[j]? with|some v=>some (.v v)|none=>none)else none
def GU (x:List Bool×Ps.Req)(t:TypeId)(k j:Nat)(v:Value):Option (List Bool×Ps.Req):=if k=1/\sc4 t=true then(match Cx x.2 j v with|some Q=>some (x.1,Q)|none=>none)else none
def pqM (E:Ps.Env)(l:List Ps.Tok)(r q sb:Nat)(callX:RS×(List Bool×Ps.Req)->FuncId->List AV->Option (Value×Option (RS×(List Bool×Ps.Req))))(hint:Nat->Option Bool):Mem (RS×(List Bool×Ps.Req)):=rdG QS Dq [(r,0),(q,0),(sb,0)] (λ_ _=>.bool false) (Lp E l) Jj GU callX hint
variable {sb : Nat} {callX : RS × (List Bool × Ps.Req) → FuncId → List AV → Option (Value × Option (RS × (List Bool × Ps.Req)))} {hint : Nat → Option Bool}
theorem bi (j:Nat):(AV.p 0 j).val (pqM E l r q sb callX hint)=.pointer (some ⟨r,j,none⟩)/\(AV.p 1 j).val (pqM E l r q sb callX hint)=.pointer (some ⟨q,j,none⟩)/\(AV.p 2 j).val (pqM E l r q sb callX hint)=.pointer (some ⟨sb,j,none⟩):=by
 refine⟨?_,?_,?_⟩
 ·show Value.pointer (some ⟨r,0+j,none⟩)=_;rw[Nat.zero_add]
 ·show Value.pointer (some ⟨q,0+j,none⟩)=_;rw[Nat.zero_add]
 ·show Value.pointer (some ⟨sb,0+j,none⟩)=_;rw[Nat.zero_add]
theorem Ef (hP:Pdr W0 l E)(hE:Ie r q Ex)(hX:∀s f vs v s',callX s f vs=some (v,s')->(∀args w,(callFunc f args).run Tryz.prog w=.ok (.enter f args) w)/\(s.1.bound l->∀w,pqB W0 W r tb cap q l Ex (s.1.st l) s.2 w->Calls Tryz.prog f (vs.map (AV.val (pqM E l r q sb callX hint))).toArray w λe w'=>e=.returned v/\rdS l (pqB W0 W r tb cap q l Ex) (s'.getD s) w')):
 Ev.Ok Tryz.prog (rdS l (pqB W0 W r tb cap q l Ex)) (pqM E l r q sb callX hint):=by
 refine rdG_ok (KM (tb:=tb) (cap:=cap) hE) (λt f d h=>PK h) (λs f vs v s' h=>JE hP rfl h) (λs t k j v h w hw=>?_) (λx t k j v x' h st w hw=>?_) hX
 ·unfold Jj at h
  split at h
  ·rename_i hk
   obtain⟨rfl,ht,hj⟩:=hk
   split at h
   ·rename_i u hu
    cases h
    obtain⟨lv,hA,-⟩:=hw.2
    have h28:j<28:=(Array.getElem?_eq_some_iff.1 hu).1
    have hc:w.cell? ⟨q,j,none⟩=some u:=by
     rw[cell_of_row _ _ _ _ _ _ hA.2.1,<-hu]
     rcases j with _|_|_|_|_|_|_|_|_|_|_|_|_|_|_|_|_|_|_|_|_|_|_|_|_|_|_|_|j
     all_goals first|omega|rfl
    show(Instr.loadAt t ((AV.p 1 j).val (pqM E l r q sb callX hint))).run Tryz.prog w=.ok u w
    rw[(bi j).2.1]
    exact Ev.yx (by rcases KP ht with rfl|rfl|rfl|rfl<;>rfl) _ w u hc
   ·cases h
  ·cases h
 ·unfold GU at h
  split at h
  ·rename_i hk
   obtain⟨rfl,ht⟩:=hk
   split at h
   ·rename_i Q hQ
    cases h
    obtain⟨k1,k2,k3,k4⟩:=Il hQ
    obtain⟨lv,hA,he⟩:=hw
    obtain⟨⟨u,hu⟩,hf⟩:=hA.cell j k4
    refine⟨w.setCell ⟨q,j,none⟩ v,?_,lv,?_,?_⟩
    ·show(Instr.storeAt t ((AV.p 1 j).val (pqM E l r q sb callX hint)) v).run Tryz.prog w=_
     rw[(bi j).2.1]
     exact st_one (KP ht) _ w u v hu hf k3
    ·show bT W0 W r tb cap q l st (aA Q lv) _
     rw[<-k1 lv]
     exact hA.store j v
    ·show Ex x.1 Q.ins.links lv _
     rw[k2]
     exact hE he (((Tch.refl q q w).setCell j v).right)
   ·cases h
  ·cases h
theorem dV (hE:Ie r q Ex):Ev.rE (rdS l (pqB W0 W r tb cap q l Ex)) (pqM E l r q sb callX hint):=O7 (KM (tb:=tb) (cap:=cap) hE) pq_inc rfl
theorem jF (hE:Ie r q Ex):∀(s:RS×(List Bool×Ps.Req)) w,rdS l (pqB W0 W r tb cap q l Ex) s w->rdS l (pqB W0 W r tb cap q l Ex) s w.drew:=λs w h=>by
 obtain⟨h1,lv,h2,h3⟩:=h
 have hT:Tch r r w w.drew:=Tch.drewN _ _ _ 1
 exact⟨h1,lv,h2.step (h2.1.next (h2.1.rd.drewN 1) hT) hT,hE h3 hT.left⟩
end
open Go.Proofs.YtnjjeapcalkmaaaGreatDoor.Ev (AV Mem Fr Sh Stop Qof ah dw bH jA nQ fmC qO look keep gM tq)
section
variable {l : List Ps.Tok} {E : Ps.Env}
def wV (E:Ps.Env)(l:List Ps.Tok)(st:Ps.St)(i:Ps.Ins):Ps.St×Ps.Ins:=
 let a:=Ps.step (Ps.isin E l) ⟨#[]⟩ (Ps.step (Ps.word l Ps.rR) () st).2
 let b:=Ps.step (Ps.quantity E l) 0 (Ps.step (Ps.word l Ps.fU) () a.2).2
 (b.2,{i with asset:=a.1,quantity:=b.1})
def qb (E:Ps.Env)(l:List Ps.Tok)(st:Ps.St):Ps.St×ByteArray×ByteArray:=
 let a:=Ps.step (Ps.member E l) ⟨#[]⟩ (Ps.step (Ps.word l Ps.pV) () st).2
 let b:=Ps.step (Ps.member E l) ⟨#[]⟩ (Ps.step (Ps.word l Ps.sTo) () a.2).2
 (b.2,a.1,b.1)
def Au (E:Ps.Env)(l:List Ps.Tok)(st:Ps.St)(i:Ps.Ins)(kd:Int):Ps.St×Ps.Ins:=
 let a:=Ps.step (Ps.by_ E l) ⟨#[]⟩ st
 let b:=wV E l a.2 {i with kind:=kd,sender:=a.1}
 let d:=Ps.step (Ps.day E l) 0 (Ps.step (Ps.word l Ps.dU) () b.1).2
 (d.2,{b.2 with settleDay:=d.1})
def OB (E:Ps.Env)(l:List Ps.Tok)(st:Ps.St)(i:Ps.Ins):Ps.St×Ps.Ins:=
 let a:=Ps.step (Ps.day E l) 0 (Ps.step (Ps.word l Ps.jO) () st).2
 let b:=Ps.step (Ps.day E l) 0 (Ps.step (Ps.word l Ps.dU) () a.2).2
 (b.2,{i with tradeDay:=a.1,settleDay:=b.1})
theorem Ag (st:Ps.St)(i:Ps.Ins):Ps.Res (Ps.security E l i) st (wV E l st i).1 (wV E l st i).2:=
 .bind (.of_step _ () _) (.bind (.of_step _ ⟨#[]⟩ _) (.bind (.of_step _ () _) (.bind (.of_step _ 0 _) (.pure _ _))))
theorem Ai (st:Ps.St):Ps.Res (Ps.parties E l) st (qb E l st).1 (qb E l st).2:=
 .bind (.of_step _ () _) (.bind (.of_step _ ⟨#[]⟩ _) (.bind (.of_step _ () _) (.bind (.of_step _ ⟨#[]⟩ _) (.pure _ _))))
theorem LA (st:Ps.St)(i:Ps.Ins)(kd:Int):Ps.Res (Ps.collateral E l kd i) st (Au E l st i kd).1 (Au E l st i kd).2:=
 .bind (.of_step _ ⟨#[]⟩ _) (.bind (Ag (Ps.step (Ps.by_ E l) ⟨#[]⟩ st).2 {i with kind:=kd,sender:=(Ps.step (Ps.by_ E l) ⟨#[]⟩ st).1}) (.bind (.of_step _ () _) (.bind (.of_step _ 0 _) (.pure _ _))))
end
section
variable {W0 W : World} {r tb cap q : Nat} {l : List Ps.Tok} {E : Ps.Env}
def exN:List Bool->List Ps.Link->Value->World->Prop:=λ_ ks lv _=>lv=eF/\ks=[]
theorem bq:Ie r q exN:=λh _=>h
def fmTab (E:Ps.Env)(l:List Ps.Tok)(s:RS×(List Bool×Ps.Req)):List (FuncId×(List AV->Option (Value×Option (RS×(List Bool×Ps.Req))))):=
 [(178,λvs=>match vs with|[.p 0 0]=>some (.tuple #[.string (qb E l (s.1.st l)).2.1,.string (qb E l (s.1.st l)).2.2],some (.any (qb E l (s.1.st l)).1,s.2))|_=>none),
  (183,λvs=>match vs with|[.p 0 0,.p 1 3]=>some (.tuple #[],some (.any (wV E l (s.1.st l) s.2.2.ins).1,(s.2.1,{s.2.2 with ins:=(wV E l (s.1.st l) s.2.2.ins).2})))|_=>none)]
def fmX (E:Ps.Env)(l:List Ps.Tok)(s:RS×(List Bool×Ps.Req))(f:FuncId)(vs:List AV):Option (Value×Option (RS×(List Bool×Ps.Req))):=wJ (fmTab E l s) f vs
def noX (_s:RS×(List Bool×Ps.Req))(_f:FuncId)(_vs:List AV):Option (Value×Option (RS×(List Bool×Ps.Req))):=none
abbrev noH:Nat->Option Bool:=λ_=>none
theorem lg (hP:Pdr W0 l E):Ev.Ok Tryz.prog (rdS l (pqB W0 W r tb cap q l exN)) (pqM E l r q 0 noX noH):=Ef hP bq λs f vs v s' h=>by cases h
theorem pq_par (hP:Pdr W0 l E)(st:Ps.St)(x:List Bool×Ps.Req)(w:World)(h:pqB W0 W r tb cap q l exN st x w):
 Calls Tryz.prog 178 #[.pointer (some ⟨r,0,none⟩)] w λe w'=>e=.returned (.tuple #[.string (qb E l st).2.1,.string (qb E l st).2.2])/\rdS l (pqB W0 W r tb cap q l exN) (.any (qb E l st).1,x) w':=by
 go_enter Tryz.func178,Tryz.ntmps178
 refine gL λa ha hdf=>?_
 refine Ev.gU (M:=pqM E l r q 0 noX noH) (n:=14) (K:=[(0,.p 0 0)]) (s:=(.any st,x)) [2,3] (.ret [some (.v (.string (qb E l st).2.1)),some (.v (.string (qb E l st).2.2))] (.any (qb E l st).1,x)) (lg hP) (dV bq) (jF bq) (by kernel_rfl) (Ev.aG (Ev.bC (by rw[ha];rfl) hdf) (by rw[ha];rfl)) ⟨trivial,h⟩ ?_
 intro b w' hst hS
 obtain⟨f2,hst⟩:=hst.cons
 obtain⟨f3,hst⟩:=hst.cons
 refine bodyPost_ret (results_tmp2 rfl _ _ _) hst.2.1 ⟨?_,hS⟩
 rw[show b.tmps.getD 2 undef=_ from eval_at f2,show b.tmps.getD 3 undef=_ from eval_at f3]
 rfl
theorem pq_sec (hP:Pdr W0 l E)(st:Ps.St)(x:List Bool×Ps.Req)(w:World)(h:pqB W0 W r tb cap q l exN st x w):
 Calls Tryz.prog 183 #[.pointer (some ⟨r,0,none⟩),.pointer (some ⟨q,3,none⟩)] w λe w'=>e=.returned (.tuple #[])/\rdS l (pqB W0 W r tb cap q l exN) (.any (wV E l st x.2.ins).1,(x.1,{x.2 with ins:=(wV E l st x.2.ins).2})) w':=by
 go_enter Tryz.func183,Tryz.ntmps183
 refine gL λa ha hdf=>?_
 refine Ev.gU (M:=pqM E l r q 0 noX noH) (n:=18) (K:=[(0,.p 0 0),(1,.p 1 3)]) (s:=(.any st,x)) [] (.nx [] (.any (wV E l st x.2.ins).1,(x.1,{x.2 with ins:=(wV E l st x.2.ins).2}))) (lg hP) (dV bq) (jF bq) (by kernel_rfl) (Ev.aG (Ev.aG (Ev.bC (by rw[ha];rfl) hdf) (by rw[ha,(bi 3).2.1];rfl)) (by rw[ha];rfl)) ⟨trivial,h⟩ ?_
 intro b w' hst hS
 exact bodyPost_end (results_none rfl _ _ _) hst.2.1 ⟨rfl,hS⟩
theorem Cs (hP:Pdr W0 l E):Ev.Ok Tryz.prog (rdS l (pqB W0 W r tb cap q l exN)) (pqM E l r q 0 (fmX E l) noH):=Ef hP bq λs f vs v s' h=>by
 refine qZ (G:=λf vs b=>(∀args w,(callFunc f args).run Tryz.prog w=.ok (.enter f args) w)/\(s.1.bound l->∀w,pqB W0 W r tb cap q l exN (s.1.st l) s.2 w->Calls Tryz.prog f (vs.map (AV.val (pqM E l r q 0 (fmX E l) noH))).toArray w λe w'=>e=.returned b.1/\rdS l (pqB W0 W r tb cap q l exN) (b.2.getD s) w')) h ?_
 refine List.forall_mem_cons.2 ⟨λvs b h=>?_,List.forall_mem_cons.2 ⟨λvs b h=>?_,λ_ h=>by cases h⟩⟩
 ·dsimp only at h
  split at h
  ·cases h
   exact⟨enters_of Tryz.func178 (by kernel_rfl) rfl,λ_ w hw=>pq_par hP _ _ w hw⟩
  ·cases h
 ·dsimp only at h
  split at h
  ·cases h
   refine⟨enters_of Tryz.func183 (by kernel_rfl) rfl,λ_ w hw=>?_⟩
   simp only[List.map_cons,List.map_nil,(bi _).1,(bi _).2.1]
   exact pq_sec hP _ _ w hw
  ·cases h
theorem pq_col (hP:Pdr W0 l E)(kd:Int)(st:Ps.St)(x:List Bool×Ps.Req)(w:World)(h:pqB W0 W r tb cap q l exN st x w):
 Calls Tryz.prog 184 #[.pointer (some ⟨r,0,none⟩),.pointer (some ⟨q,3,none⟩),.int .i64 kd] w λe w'=>e=.returned (.tuple #[])/\rdS l (pqB W0 W r tb cap q l exN) (.any (Au E l st x.2.ins kd).1,(x.1,{x.2 with ins:=(Au E l st x.2.ins kd).2})) w':=by
 go_enter Tryz.func184,Tryz.ntmps184
 refine gL λa ha hdf=>?_
 refine Ev.gU (M:=pqM E l r q 0 (fmX E l) noH) (n:=25) (K:=[(0,.p 0 0),(1,.p 1 3),(2,.v (.int .i64 kd))]) (s:=(.any st,x)) [] (.nx [] (.any (Au E l st x.2.ins kd).1,(x.1,{x.2 with ins:=(Au E l st x.2.ins kd).2}))) (Cs hP) (dV bq) (jF bq) (by kernel_rfl) (Ev.aG (Ev.aG (Ev.aG (Ev.bC (by rw[ha];rfl) hdf) (by rw[ha];rfl)) (by rw[ha,(bi 3).2.1];rfl)) (by rw[ha];rfl)) ⟨trivial,h⟩ ?_
 intro b w' hst hS
 exact bodyPost_end (results_none rfl _ _ _) hst.2.1 ⟨rfl,hS⟩
theorem MK {st:Ps.St}{sn:List Bool}{Q:Ps.Req}{w:World}(h:pqB W0 W r tb cap q l exN st (sn,Q) w)(hr:r<W.heap.size)(hq:q<W.heap.size):fA W0 W r tb cap q l W.heap.size st Q w:=by
 obtain⟨lv,h1,rfl,h3⟩:=h
 have h4:Q.ins.links=[]:=h3
 exact⟨hr,hq,eF,h1,by rw[h4];exact bG.nil _ _⟩
def oI (W0 W:World)(r tb cap q:Nat)(l:List Ps.Tok)(p:Ps.P Ps.Req)(st:Ps.St)(e:Ending)(W':World):Prop:=e=.returned (.tuple #[])/\∃st' Q',fA W0 W r tb cap q l W.heap.size st' Q' W'/\Ps.Res p st st' Q'
def ky (fn:Nat)(W0 W:World)(r tb cap q:Nat)(l:List Ps.Tok)(E:Ps.Env)(v:Ps.Bs):Prop:=∀(st:Ps.St) (Q:Ps.Req) (w:World),bT W0 W r tb cap q l st (aA Q eF) w->Q.ins.links=[]->Q.amd={}->
 Calls Tryz.prog fn #[.pointer (some ⟨r,0,none⟩),.pointer (some ⟨q,0,none⟩)] w (oI W0 W r tb cap q l (Ps.rest E l v Q) st)
theorem oI.bind {p:Ps.P Ps.Ins}{g:Ps.Ins->Ps.Req}{p2:Ps.P Ps.Req}{st:Ps.St}{e:Ending}{w:World}(hp:p2=Ps.bind' p λi=>Ps.dO (g i))(h:e=.returned (.tuple #[])/\∃st' i',fA W0 W r tb cap q l W.heap.size st' (g i') w/\Ps.Res p st st' i'):oI W0 W r tb cap q l p2 st e w:=by
 obtain⟨h1,st',i',h2,h3⟩:=h
 exact⟨h1,st',g i',h2,by rw[hp];exact .bind h3 (.pure _ _)⟩
def Db (W0 W:World)(r tb cap q:Nat)(l:List Ps.Tok)(E:Ps.Env):Prop:=∀(st:Ps.St) (Q:Ps.Req) (w:World),bT W0 W r tb cap q l st (aA Q eF) w->Q.ins.links=[]->
 Calls Tryz.prog 182 #[.pointer (some ⟨r,0,none⟩),.pointer (some ⟨q,3,none⟩)] w λe W'=>e=.returned (.tuple #[])/\∃st' i',fA W0 W r tb cap q l W.heap.size st' {Q with ins:=i'} W'/\Ps.Res (Ps.options E l (l.length+1) {} Q.ins) st st' i'
theorem Fa (hP:Pdr W0 l E)(qi:Db W0 W r tb cap q l E){fn:Func}{id m n:Nat}{ops:Array Oper}{K:List (Nat×AV)}{st:Ps.St}{Q:Ps.Req}{a:Act}{w:World}{R:Ending->World->Prop}(hfn:fn.results=#[])(hok:gM m ops=true)(hsz:ops.size=n+1)(hc:tq (pqM E l r q 0 (fmX E l) noH) K (.any st,(([]:List Bool),Q)) n ops=some (182,[.p 0 0,.p 1 3]))(hF:Fr (pqM E l r q 0 (fmX E l) noH) m K a)(hS:rdS l (pqB W0 W r tb cap q l exN) (.any st,([],Q)) w)
 (hR:∀st' i' w',fA W0 W r tb cap q l W.heap.size st' {Q with ins:=i'} w'->Ps.Res (Ps.options E l (l.length+1) {} Q.ins) st st' i'->R (.returned (.tuple #[])) w'):(Code.region id ops false).wp Tryz.prog (bodyPost Tryz.prog fn R) a w:=by
 refine Ev.uB (Cs hP) hok hsz hc hF hS (enters_of Tryz.func182 (by kernel_rfl) rfl) (T:=λe w'=>e=.returned (.tuple #[])/\∃st' i',fA W0 W r tb cap q l W.heap.size st' {Q with ins:=i'} w'/\Ps.Res (Ps.options E l (l.length+1) {} Q.ins) st st' i') (λw hw=>?_) λe w' hT=>?_
 ·simp only[List.map_cons,List.map_nil,(bi _).1,(bi _).2.1]
  obtain⟨-,lv,h1,rfl,h3⟩:=hw
  exact qi st Q w h1 h3
 ·obtain⟨rfl,st',i',h1,h2⟩:=hT
  exact⟨_,rfl,λb hb=>bodyPost_end (results_none hfn _ _ _) hb.defers (hR st' i' w' h1 h2)⟩
noncomputable def PT:Code:=Tryz.f99.body.getD .skip
noncomputable def BD:Code:=Tryz.f100.body.getD .skip
theorem DI (hP:Pdr W0 l E)(qi:Db W0 W r tb cap q l E):ky 99 W0 W r tb cap q l E Ps.BO:=λst Q w h hk ha=>by
 go_enter Tryz.func99,Tryz.ntmps99
 refine gL λa ha2 hdf=>?_
 obtain⟨p,hp⟩:∃p,p=qb E l st:=⟨_,rfl⟩
 obtain⟨n,hn⟩:∃n,n=Ps.step (Ps.cash E l) 0 (Ps.step (Ps.word l Ps.bE) () p.1).2:=⟨_,rfl⟩
 obtain⟨d,hd⟩:∃d,d=Ps.step (Ps.day E l) 0 (Ps.step (Ps.word l Ps.dU) () n.2).2:=⟨_,rfl⟩
 refine Ev.gU (M:=pqM E l r q 0 (fmX E l) noH) (n:=42) (K:=[(0,.p 0 0),(1,.p 1 0)]) (s:=(.any st,([],Q))) [0,4] (.go (ah (bH 7) PT) [some (.p 0 0),some (.p 1 3)] (.any d.2,([],{Q with ins:={Q.ins with kind:=0,asset:=Ps.wH,sender:=p.2.1,counterparty:=p.2.2,amount:=n.1,settleDay:=d.1} }))) (Cs hP) (dV bq) (jF bq) (by rw[hd,hn,hp];kernel_rfl) (Ev.aG (Ev.aG (Ev.bC (by rw[ha2];rfl) hdf) (by rw[ha2,(bi 0).2.1];rfl)) (by rw[ha2];rfl)) ⟨trivial,eF,h,rfl,hk⟩ ?_
 intro b w' hst hS
 have e1:(ah (bH 7) PT).1=.region 7 (nQ (ah (bH 7) PT).1) false:=by kernel_rfl
 have e2:(ah (bH 7) PT).2=[]:=by kernel_rfl
 rw[e1,e2]
 obtain⟨f0,hst⟩:=hst.cons
 obtain⟨f4,hst⟩:=hst.cons
 refine Fa hP qi (K:=[(0,.p 0 0),(4,.p 1 3)]) (m:=42) (n:=2) rfl (by kernel_rfl) (by kernel_rfl) (by kernel_rfl) (Ev.aG (Ev.aG (Ev.bC hst.1 hst.2.1) f4) f0) hS λst' i' w' h1 h2=>?_
 refine oI.bind (p:=Ps.payment E l Q.ins) (g:=λi=>{Q with ins:=i}) (by unfold Ps.rest;rw[if_pos rfl]) ⟨rfl,st',i',h1,?_⟩
 exact .bind (Ai st) (.bind (.of_step _ () _) (.bind (.of_step _ 0 _) (.bind (.of_step _ () _) (.bind (.of_step _ 0 _) (by rw[<-hp,<-hn,<-hd];exact h2)))))
theorem Cm (hP:Pdr W0 l E)(qi:Db W0 W r tb cap q l E){st:Ps.St}{Q:Ps.Req}{w:World}(h:bT W0 W r tb cap q l st (aA Q eF) w)(hk:Q.ins.links=[]):
 Calls Tryz.prog 100 #[.pointer (some ⟨r,0,none⟩),.pointer (some ⟨q,0,none⟩)] w λe W'=>e=.returned (.tuple #[])/\∃st' i',fA W0 W r tb cap q l W.heap.size st' {Q with ins:=i'} W'/\Ps.Res (Ps.trade E l Q.ins) st st' i':=by
 go_enter Tryz.func100,Tryz.ntmps100
 refine gL λa ha2 hdf=>?_
 obtain⟨p,hp⟩:∃p,p=qb E l st:=⟨_,rfl⟩
 obtain⟨s,hs⟩:∃s,s=wV E l p.1 {Q.ins with kind:=1,sender:=p.2.1,counterparty:=p.2.2}:=⟨_,rfl⟩
 obtain⟨n,hn⟩:∃n,n=Ps.step (Ps.cash E l) 0 (Ps.step (Ps.word l Ps.dP) () s.1).2:=⟨_,rfl⟩
 obtain⟨d,hd⟩:∃d,d=OB E l n.2 {s.2 with amount:=n.1}:=⟨_,rfl⟩
 have e1:(ah (bH 13) BD).1=.region 13 (nQ (ah (bH 13) BD).1) false:=by kernel_rfl
 have e2:(ah (bH 13) BD).2=[]:=by kernel_rfl
 have tail:∀(s4:Ps.St) (i4 i5:Ps.Ins) (s5:Ps.St),OB E l s4 i4=(s5,i5)->Ps.Res (λa=>if (Ps.aQ l a).data.toList=Ps.jD then .ok ({s.2 with kind:=2},a+1)else Ps.bind' (Ps.word l Ps.dP) (λ_=>Ps.bind' (Ps.cash E l) λn=>Ps.dO {s.2 with amount:=n}) a) s.1 s4 i4->
  ∀b w',Stop (pqM E l r q 0 (fmX E l) noH) 62 [0,4] [some (.p 0 0),some (.p 1 3)] b->rdS l (pqB W0 W r tb cap q l exN) (.any s5,(([]:List Bool),{Q with ins:=i5})) w'->(ah (bH 13) BD).1.wp Tryz.prog (Qof Tryz.prog (ah (bH 13) BD).2 (bodyPost Tryz.prog Tryz.f100 λe W'=>e=.returned (.tuple #[])/\∃st' i',fA W0 W r tb cap q l W.heap.size st' {Q with ins:=i'} W'/\Ps.Res (Ps.trade E l Q.ins) st st' i')) b w':=λs4 i4 i5 s5 hdat hres b w' hst hS=>by
  rw[e1,e2]
  obtain⟨f0,hst⟩:=hst.cons
  obtain⟨f4,hst⟩:=hst.cons
  refine Fa hP qi (K:=[(0,.p 0 0),(4,.p 1 3)]) (m:=62) (n:=2) rfl (by kernel_rfl) (by kernel_rfl) (by kernel_rfl) (Ev.aG (Ev.aG (Ev.bC hst.1 hst.2.1) f4) f0) hS λst' i' w' h1 h2=>⟨rfl,st',i',h1,?_⟩
  have hd2:({i4 with tradeDay:=(Ps.step (Ps.day E l) 0 (Ps.step (Ps.word l Ps.jO) () s4).2).1,settleDay:=(Ps.step (Ps.day E l) 0 (Ps.step (Ps.word l Ps.dU) () (Ps.step (Ps.day E l) 0 (Ps.step (Ps.word l Ps.jO) () s4).2).2).2).1}:Ps.Ins)=i5:=congrArg Prod.snd hdat
  have hd1:(Ps.step (Ps.day E l) 0 (Ps.step (Ps.word l Ps.dU) () (Ps.step (Ps.day E l) 0 (Ps.step (Ps.word l Ps.jO) () s4).2).2).2).2=s5:=congrArg Prod.fst hdat
  exact .bind (Ai st) (.bind (Ag _ _) (.bind (by rw[<-hp,<-hs];exact hres) (.bind (.of_step _ () _) (.bind (.of_step _ 0 _) (.bind (.of_step _ () _) (.bind (.of_step _ 0 _) (by rw[hd2,hd1];exact h2)))))))
 refine Ev.gU (M:=pqM E l r q 0 (fmX E l) noH) (n:=62) (K:=[(0,.p 0 0),(1,.p 1 0)]) (s:=(.any st,([],Q))) [0,4] (.ite ((Ps.jH l s.1).toList==([102,114,101,101]:List UInt8)) (.go (ah (bH 5) BD) [some (.p 0 0),some (.p 1 3)] (.any s.1,([],{Q with ins:=s.2}))) (.go (ah (bH 13) BD) [some (.p 0 0),some (.p 1 3)] (.any d.1,([],{Q with ins:=d.2})))) (Cs hP) (dV bq) (jF bq) (by rw[hd,hn,hs,hp];kernel_rfl) (Ev.aG (Ev.aG (Ev.bC (by rw[ha2];rfl) hdf) (by rw[ha2,(bi 0).2.1];rfl)) (by rw[ha2];rfl)) ⟨trivial,eF,h,rfl,hk⟩ ⟨λhc b w' hst hS=>?_,λhc b w' hst hS=>?_⟩
 ·have hfree:(Ps.jH l s.1).data.toList=Ps.jD:=by rw[<-Lib.toList_data];exact beq_iff_eq.1 hc
  obtain⟨a,hs1,hlt⟩:∃a,s.1=.ok a/\a<l.length:=by
   cases hq:s.1 with
   |error e=>rw[hq]at hfree;cases hfree
   |ok a=>
    refine⟨a,rfl,?_⟩
    rw[hq]at hfree
    rcases Nat.lt_or_ge a l.length with h1|h1
    ·exact h1
    ·exfalso
     have:Ps.jH l (.ok a)=⟨#[]⟩:=by show Ps.aQ l a=_;unfold Ps.aQ;rw[List.getElem?_eq_none h1]
     rw[this]at hfree
     cases hfree
  rw[hs1]at hS
  obtain⟨f0,hst⟩:=hst.cons
  obtain⟨f4,hst⟩:=hst.cons
  refine Ev.ex_shF (M:=pqM E l r q 0 (fmX E l) noH) (n:=62) (K:=[(0,.p 0 0),(4,.p 1 3)]) (s:=(.at0 a,([],{Q with ins:=s.2}))) [0,4] (.go (ah (bH 13) BD) [some (.p 0 0),some (.p 1 3)] (.any (OB E l (.ok (a+1)) {s.2 with kind:=2}).1,([],{Q with ins:=(OB E l (.ok (a+1)) {s.2 with kind:=2}).2}))) (Cs hP) (dV bq) (jF bq) (by kernel_rfl) (Ev.aG (Ev.aG (Ev.bC hst.1 hst.2.1) f4) f0) ⟨hlt,hS.2⟩ ?_
  refine tail _ _ _ _ rfl ?_
  rw[hs1]at hfree⊢
  have hf2:(Ps.aQ l a).data.toList=Ps.jD:=hfree
  exact if_pos hf2
 ·have hfree:¬(Ps.jH l s.1).data.toList=Ps.jD:=λe=>by
   rw[<-Lib.toList_data]at e
   rw[show(Ps.jH l s.1).toList=[102,114,101,101]from e]at hc
   cases hc
  refine tail n.2 _ _ _ hd.symm ?_ b w' hst hS
  have h2:Ps.Res (Ps.bind' (Ps.word l Ps.dP) λ_=>Ps.bind' (Ps.cash E l) λn=>Ps.dO {s.2 with amount:=n}) s.1 n.2 {s.2 with amount:=n.1}:=by
   rw[hn]
   exact .bind (.of_step _ () _) (.bind (.of_step _ 0 _) (.pure _ _))
  refine h2.mono λa ha=>?_
  rw[ha]at hfree
  have hf2:¬(Ps.aQ l a).data.toList=Ps.jD:=hfree
  exact(if_neg hf2).symm
theorem KA (hP:Pdr W0 l E)(qi:Db W0 W r tb cap q l E):ky 100 W0 W r tb cap q l E Ps.di:=λst Q w h hk ha=>
 (Cm hP qi h hk).mono λe w' hw=>oI.bind (p:=Ps.trade E l Q.ins) (g:=λi=>{Q with ins:=i}) (by unfold Ps.rest;rw[if_neg (by decide),if_pos rfl]) hw
theorem EO (hP:Pdr W0 l E)(qi:Db W0 W r tb cap q l E):ky 101 W0 W r tb cap q l E Ps.d9:=λst Q w h hk ha=>by
 refine(BH w r q _ (Cm hP qi h hk) (Lib.hid ?_)).mono ?_
 ·rintro w' ⟨st',i',⟨h1,h2,lv,h3,h4⟩,h5⟩
  exact⟨i'.sender,i'.counterparty,_,h3.2.1,rfl,rfl,by show 7<28;omega⟩
 ·rintro e W' ⟨rfl,w',x,y,⟨st',i',h2,h3⟩,c5,c6,rfl⟩
  have hx:x=i'.sender/\y=i'.counterparty:=by
   obtain⟨_,_,lv,h4,_⟩:=h2
   have k5:w'.cell? ⟨q,5,none⟩=some (.string i'.sender):=by rw[cell_of_row _ _ _ _ _ _ h4.2.1];rfl
   have k6:w'.cell? ⟨q,6,none⟩=some (.string i'.counterparty):=by rw[cell_of_row _ _ _ _ _ _ h4.2.1];rfl
   rw[k5]at c5;rw[k6]at c6
   cases c5;cases c6;exact⟨rfl,rfl⟩
  obtain⟨rfl,rfl⟩:=hx
  refine oI.bind (p:=Ps.trade E l Q.ins) (g:=λi=>{Q with ins:=Ps.turn i}) (by unfold Ps.rest;rw[if_neg (by decide),if_neg (by decide),if_pos rfl]) ⟨rfl,st',i',?_,h3⟩
  have e1:=((h2.store 7 (.int .i64 1) {Q with ins:={i' with side:=1} } (λlv=>rfl) rfl).store 5 (.string i'.counterparty) {Q with ins:={i' with side:=1,sender:=i'.counterparty} } (λlv=>rfl) rfl).store 6 (.string i'.sender) {Q with ins:=Ps.turn i'} (λlv=>rfl) rfl
  exact e1.below (Below.refl _ _).drew
theorem GY (hP:Pdr W0 l E)(hr:r<W.heap.size)(hq:q<W.heap.size){fn:Func}{id m:Nat}{ops:Array Oper}(kd:Int){st:Ps.St}{Q:Ps.Req}{a:Act}{w:World}{p:Ps.P Ps.Req}(hp:p=Ps.bind' (Ps.collateral E l kd Q.ins) λi=>Ps.dO {Q with ins:=i})(hfn:fn.results=#[])(hok:gM m ops=true)(hsz:ops.size=5)(hc:tq (pqM E l r q 0 noX noH) [(0,.p 0 0),(1,.p 1 0)] (.any st,(([]:List Bool),Q)) 4 ops=some (184,[.p 0 0,.p 1 3,.v (.int .i64 kd)]))(hF:Fr (pqM E l r q 0 noX noH) m [(0,.p 0 0),(1,.p 1 0)] a)(hS:pqB W0 W r tb cap q l exN st ([],Q) w):
 (Code.region id ops false).wp Tryz.prog (bodyPost Tryz.prog fn (oI W0 W r tb cap q l p st)) a w:=by
 refine Ev.uB (lg hP) hok hsz hc hF ⟨trivial,hS⟩ (enters_of Tryz.func184 (by kernel_rfl) rfl) (T:=λe w'=>e=.returned (.tuple #[])/\rdS l (pqB W0 W r tb cap q l exN) (.any (Au E l st Q.ins kd).1,([],{Q with ins:=(Au E l st Q.ins kd).2})) w') (λw hw=>?_) λe w' hT=>?_
 ·simp only[List.map_cons,List.map_nil,(bi _).1,(bi _).2.1]
  exact pq_col hP kd st _ w hw.2
 ·obtain⟨rfl,hS⟩:=hT
  exact⟨_,rfl,λb hb=>bodyPost_end (results_none hfn _ _ _) hb.defers (oI.bind hp ⟨rfl,_,_,MK hS.2 hr hq,LA _ _ _⟩)⟩
theorem IA (hP:Pdr W0 l E)(hr:r<W.heap.size)(hq:q<W.heap.size):ky 102 W0 W r tb cap q l E Ps.fF:=λst Q w h hk ha=>by
 go_enter Tryz.func102,Tryz.ntmps102
 refine gL λa ha2 hdf=>?_
 exact GY hP hr hq 3 (by unfold Ps.rest;rw[if_neg (by decide),if_neg (by decide),if_neg (by decide),if_pos rfl]) rfl (m:=9) (by kernel_rfl) rfl (by kernel_rfl) (Ev.aG (Ev.aG (Ev.bC (by rw[ha2];rfl) hdf) (by rw[ha2,(bi 0).2.1];rfl)) (by rw[ha2];rfl)) ⟨eF,h,rfl,hk⟩
theorem E5 (hP:Pdr W0 l E)(hr:r<W.heap.size)(hq:q<W.heap.size):ky 103 W0 W r tb cap q l E Ps.dR:=λst Q w h hk ha=>by
 go_enter Tryz.func103,Tryz.ntmps103
 refine gL λa ha2 hdf=>?_
 exact GY hP hr hq 4 (by unfold Ps.rest;rw[if_neg (by decide),if_neg (by decide),if_neg (by decide),if_neg (by decide),if_pos rfl]) rfl (m:=9) (by kernel_rfl) rfl (by kernel_rfl) (Ev.aG (Ev.aG (Ev.bC (by rw[ha2];rfl) hdf) (by rw[ha2,(bi 0).2.1];rfl)) (by rw[ha2];rfl)) ⟨eF,h,rfl,hk⟩
theorem FI (hr:r<W.heap.size)(hq:q<W.heap.size){fn:Func}{kd:Int}{st:Ps.St}{Q:Ps.Req}{p:Ps.P Ps.Req}{b:Act}{w:World}(hp:p=Ps.bind' (Ps.by_ E l) λs=>Ps.dO {Q with op:=kd,sender:=s})(hfn:fn.results=#[])(hd:b.defers=[])(hS:rdS l (pqB W0 W r tb cap q l exN) (.any (Ps.step (Ps.by_ E l) ⟨#[]⟩ st).2,([],{Q with op:=kd,sender:=(Ps.step (Ps.by_ E l) ⟨#[]⟩ st).1})) w):bodyPost Tryz.prog fn (oI W0 W r tb cap q l p st) .normal b w:=
 bodyPost_end (results_none hfn _ _ _) hd ⟨rfl,_,_,MK hS.2 hr hq,by rw[hp];exact .bind (.of_step _ ⟨#[]⟩ _) (.pure _ _)⟩
theorem JM (hP:Pdr W0 l E)(hr:r<W.heap.size)(hq:q<W.heap.size):ky 105 W0 W r tb cap q l E Ps.eQ:=λst Q w h hk ha=>by
 go_enter Tryz.func105,Tryz.ntmps105
 refine gL λa ha2 hdf=>?_
 refine Ev.gU (M:=pqM E l r q 0 noX noH) (n:=12) (K:=[(0,.p 0 0),(1,.p 1 0)]) (s:=(.any st,([],Q))) [] (.nx [] (.any (Ps.step (Ps.by_ E l) ⟨#[]⟩ st).2,([],{Q with op:=2,sender:=(Ps.step (Ps.by_ E l) ⟨#[]⟩ st).1}))) (lg hP) (dV bq) (jF bq) (by kernel_rfl) (Ev.aG (Ev.aG (Ev.bC (by rw[ha2];rfl) hdf) (by rw[ha2,(bi 0).2.1];rfl)) (by rw[ha2];rfl)) ⟨trivial,eF,h,rfl,hk⟩ ?_
 intro b w' hst hS
 exact FI hr hq (by unfold Ps.rest;iterate 6 rw[if_neg (by decide)]
                    rw[if_pos rfl]) rfl hst.2.1 hS
theorem PM (hP:Pdr W0 l E)(hr:r<W.heap.size)(hq:q<W.heap.size):ky 106 W0 W r tb cap q l E Ps.bK:=λst Q w h hk ha=>by
 go_enter Tryz.func106,Tryz.ntmps106
 refine gL λa ha2 hdf=>?_
 refine Ev.gU (M:=pqM E l r q 0 noX noH) (n:=12) (K:=[(0,.p 0 0),(1,.p 1 0)]) (s:=(.any st,([],Q))) [] (.nx [] (.any (Ps.step (Ps.by_ E l) ⟨#[]⟩ st).2,([],{Q with op:=3,sender:=(Ps.step (Ps.by_ E l) ⟨#[]⟩ st).1}))) (lg hP) (dV bq) (jF bq) (by kernel_rfl) (Ev.aG (Ev.aG (Ev.bC (by rw[ha2];rfl) hdf) (by rw[ha2,(bi 0).2.1];rfl)) (by rw[ha2];rfl)) ⟨trivial,eF,h,rfl,hk⟩ ?_
 intro b w' hst hS
 exact FI hr hq (by unfold Ps.rest;iterate 6 rw[if_neg (by decide)]
                    rw[if_neg (by decide),if_pos rfl]) rfl hst.2.1 hS
theorem Iq (hP:Pdr W0 l E)(hr:r<W.heap.size)(hq:q<W.heap.size):ky 107 W0 W r tb cap q l E Ps.fI:=λst Q w h hk ha=>by
 go_enter Tryz.func107,Tryz.ntmps107
 refine gL λa ha2 hdf=>?_
 refine Ev.gU (M:=pqM E l r q 0 noX noH) (n:=12) (K:=[(0,.p 0 0),(1,.p 1 0)]) (s:=(.any st,([],Q))) [] (.nx [] (.any (Ps.step (Ps.by_ E l) ⟨#[]⟩ st).2,([],{Q with op:=4,sender:=(Ps.step (Ps.by_ E l) ⟨#[]⟩ st).1}))) (lg hP) (dV bq) (jF bq) (by kernel_rfl) (Ev.aG (Ev.aG (Ev.bC (by rw[ha2];rfl) hdf) (by rw[ha2,(bi 0).2.1];rfl)) (by rw[ha2];rfl)) ⟨trivial,eF,h,rfl,hk⟩ ?_
 intro b w' hst hS
 exact FI hr hq (by unfold Ps.rest;iterate 6 rw[if_neg (by decide)]
                    rw[if_neg (by decide),if_neg (by decide)]) rfl hst.2.1 hS
def Ot (E:Ps.Env)(l:List Ps.Tok):Ps.P Ps.Amd:=λa=>if l.length<=a then .error (Ps.short l)else Ps.changes E l (l.length+1) {} {} a
def ChgC (W0 W:World)(r tb cap q:Nat)(l:List Ps.Tok)(E:Ps.Env):Prop:=∀(st:Ps.St) (Q:Ps.Req) (w:World),bT W0 W r tb cap q l st (aA Q eF) w->Q.ins.links=[]->Q.amd={}->
 Calls Tryz.prog 186 #[.pointer (some ⟨r,0,none⟩),.pointer (some ⟨q,19,none⟩)] w λe W'=>e=.returned (.tuple #[])/\∃st' m',fA W0 W r tb cap q l W.heap.size st' {Q with amd:=m'} W'/\Ps.Res (Ot E l) st st' m'
noncomputable def NU:Code:=Tryz.f104.body.getD .skip
theorem Jy (hP:Pdr W0 l E)(hchg:ChgC W0 W r tb cap q l E):ky 104 W0 W r tb cap q l E Ps.lT:=λst Q w h hk ha=>by
 go_enter Tryz.func104,Tryz.ntmps104
 refine gL λa ha2 hdf=>?_
 obtain⟨z,hz⟩:∃z,z=Ps.step (Ps.by_ E l) ⟨#[]⟩ st:=⟨_,rfl⟩
 refine Ev.gU (M:=pqM E l r q 0 noX noH) (n:=17) (K:=[(0,.p 0 0),(1,.p 1 0)]) (s:=(.any st,([],Q))) [0,1] (.go (ah (bH 1) NU) [some (.p 0 0),some (.p 1 0)] (.any z.2,([],{Q with op:=1,sender:=z.1}))) (lg hP) (dV bq) (jF bq) (by rw[hz];kernel_rfl) (Ev.aG (Ev.aG (Ev.bC (by rw[ha2];rfl) hdf) (by rw[ha2,(bi 0).2.1];rfl)) (by rw[ha2];rfl)) ⟨trivial,eF,h,rfl,hk⟩ ?_
 intro b w' hst hS
 have e1:(ah (bH 1) NU).1=.region 1 (nQ (ah (bH 1) NU).1) false:=by kernel_rfl
 have e2:(ah (bH 1) NU).2=[]:=by kernel_rfl
 rw[e1,e2]
 obtain⟨f0,hst⟩:=hst.cons
 obtain⟨f1,hst⟩:=hst.cons
 refine Ev.uB (lg hP) (K:=[(0,.p 0 0),(1,.p 1 0)]) (m:=17) (n:=4) (f:=186) (vs:=[.p 0 0,.p 1 19]) (by kernel_rfl) (by kernel_rfl) (by kernel_rfl) (Ev.aG (Ev.aG (Ev.bC hst.1 hst.2.1) f1) f0) hS (enters_of Tryz.func186 (by kernel_rfl) rfl) (T:=λe W'=>e=.returned (.tuple #[])/\∃st' m',fA W0 W r tb cap q l W.heap.size st' {Q with op:=1,sender:=z.1,amd:=m'} W'/\Ps.Res (Ot E l) z.2 st' m') (λw hw=>?_) λe w' hT=>?_
 ·simp only[List.map_cons,List.map_nil,(bi _).1,(bi _).2.1]
  obtain⟨-,lv,h1,rfl,h3⟩:=hw
  exact hchg z.2 _ w h1 h3 ha
 ·obtain⟨rfl,st',m',h1,h2⟩:=hT
  refine⟨_,rfl,λb hb=>bodyPost_end (results_none rfl _ _ _) hb.defers ⟨rfl,st',_,h1,?_⟩⟩
  unfold Ps.rest
  iterate 5 rw[if_neg (by decide)]
  rw[if_pos rfl]
  refine .bind (.of_step _ ⟨#[]⟩ _) ?_
  rw[<-hz]
  have h4:Ps.Res (Ps.bind' (Ot E l) λm=>Ps.dO {Q with op:=1,sender:=z.1,amd:=m}) z.2 st' {Q with op:=1,sender:=z.1,amd:=m'}:=.bind h2 (.pure _ _)
  refine h4.mono λa _=>?_
  unfold Ot
  by_cases hle:l.length<=a
  ·simp only[Ps.bind',if_pos hle]
  ·simp only[Ps.bind',if_neg hle]
end
end Go.Proofs.YtnjjeapcalkmaaaGreatDoor
