/-
  Part 3 of a proof; written short by a program out of longer texts of mine.
-/
import Derived.Test.YthijakidnkhbnaaGreatDoorMqB
set_option maxRecDepth 100000
set_option maxHeartbeats 4000000
set_option linter.unusedVariables false
set_option linter.unusedSimpArgs false
namespace Go.Proofs.YthijakidnkhbnaaGreatDoor
open Go.RowKit
theorem Gl (W:World)(r:Nat)(f:Value)(ka:Option Addr)(kn kc:Nat)(P:World->Prop)
 (n1:Calls Tryz.prog 20 #[.pointer (some ⟨r,0,none⟩)] W λe W'=>e=.returned (.bool false)/\P W'):
 Calls Tryz.prog 97 #[.pointer (some ⟨r,0,none⟩),f,.slice ka kn kc] W λe W'=>e=.returned (.tuple #[])/\P W':=by
 go_enter Tryz.func97,Tryz.ntmps97
 go_wp2_with fail
 refine n1.mono ?_
 rintro x w ⟨rfl,hp⟩
 clear n1
 go_wp2_with fail
 refine bodyPost_ret (results_none rfl _ _ _) rfl ?_
 exact⟨rfl,hp⟩
theorem eO {w:World}{p1 p2 p3 p4 p5:Addr}{v1 v2 v3 v4 v5:Value}(h:w.cell? p1=some v1/\w.cell? p2=some v2/\w.cell? p3=some v3/\w.cell? p4=some v4/\w.cell? p5=some v5)(o:Obj):(w.alloc o).cell? p1=some v1/\(w.alloc o).cell? p2=some v2/\(w.alloc o).cell? p3=some v3/\(w.alloc o).cell? p4=some v4/\(w.alloc o).cell? p5=some v5:=
 ⟨Lib.cell?_alloc_some _ h.1,Lib.cell?_alloc_some _ h.2.1,Lib.cell?_alloc_some _ h.2.2.1,Lib.cell?_alloc_some _ h.2.2.2.1,Lib.cell?_alloc_some _ h.2.2.2.2⟩
def ol (W:World)(r tb n cap a:Nat)(o:Int)(kd:Int)(t:ByteArray)(at_:Int)(kb:Nat)(ks:List Int)(w:World):Prop:=
 w.heap[r]? =some (.cells (bK tb n cap a o 0) 68 (0,0))/\
 (w.cell? ⟨tb,a*3,none⟩=some (.int .i64 kd)/\w.cell? ⟨tb,a*3+1,none⟩=some (.string t)/\w.cell? ⟨tb,a*3+2,none⟩=some (.int .i64 at_))/\
 (∀(j:Nat) (k:Int),ks[j]? =some k->w.cell? ⟨kb,j,none⟩=some (.int .i64 k))/\Tch r r W w
theorem aD (w:World)(o:Obj):(w.alloc o).heap[w.heap.size]? =some o:=World.alloc_heap_new w o
theorem ol.below {W:World}{r tb n cap a:Nat}{o kd at_:Int}{t:ByteArray}{kb:Nat}{ks:List Int}{w w':World}(h:ol W r tb n cap a o kd t at_ kb ks w)(hb:Below w.heap.size w w'):ol W r tb n cap a o kd t at_ kb ks w':=by
 obtain⟨hr,⟨t0,t1,t2⟩,hk,hT⟩:=h
 have up:∀{p:Addr} {v:Value},w.cell? p=some v->w'.cell? p=some v:=λhp=>(hb.cell (World.block_lt_of_cell? w _ hp)).trans hp
 exact⟨(hb.block r (Array.getElem?_eq_some_iff.1 hr).1).trans hr,⟨up t0,up t1,up t2⟩,λj k hj=>up (hk j k hj),hT.trans (Tch.of_below hb)⟩
theorem Cq (W:World)(r tb n cap a:Nat)(o kd at_:Int)(t:ByteArray)(f:Value)(kb kc:Nat)(ks:List Int)(hlt:(a:Int)<(n:Int))(hks:∀k∈ks,(kd==k)=false)(_hkc:ks.length<=kc)(hkl:ks.length<=100)(P:World->Prop)
 (n1:Calls Tryz.prog 20 #[.pointer (some ⟨r,0,none⟩)] W λe W'=>e=.returned (.bool true)/\ol W r tb n cap a o kd t at_ kb ks W')
 (n3:Hid (∀w,ol W r tb n cap a o kd t at_ kb ks w->Calls Tryz.prog 24 #[.pointer (some ⟨r,0,none⟩),.int .i64 30] w λe W'=>e=.returned (.tuple #[])/\P W')):
 Calls Tryz.prog 97 #[.pointer (some ⟨r,0,none⟩),f,.slice (some ⟨kb,0,none⟩) ks.length kc] W λe W'=>e=.returned (.tuple #[])/\P W':=by
 have HK:=Lib.hid hks
 clear hks
 go_enter Tryz.func97,Tryz.ntmps97
 go_wp2_with fail
 refine n1.mono ?_
 rintro x w ⟨rfl,hT⟩
 have HT:=Lib.hid hT
 obtain⟨hr,⟨t0,t1,t2⟩,-,-⟩:=hT
 obtain⟨k0,k1,-,-,-⟩:=cK hr
 have d0:w.drew.cell? ⟨r,0,none⟩=some (.slice (some ⟨tb,0,none⟩) n cap):=k0
 have d1:w.drew.cell? ⟨r,1,none⟩=some (.int .i64 a):=k1
 have e0:w.drew.cell? ⟨tb,a*3,none⟩=some (.int .i64 kd):=t0
 have e1:w.drew.cell? ⟨tb,a*3+1,none⟩=some (.string t):=t1
 have e2:w.drew.cell? ⟨tb,a*3+2,none⟩=some (.int .i64 at_):=t2
 have a0:=λo=>Lib.cell?_alloc_some (W:=w) o t0
 have a1:=λo=>Lib.cell?_alloc_some (W:=w) o t1
 have a2:=λo=>Lib.cell?_alloc_some (W:=w) o t2
 have a3:=λo=>Lib.cell?_alloc_some (W:=w) o k0
 have a4:=λo=>Lib.cell?_alloc_some (W:=w) o k1
 clear n1 hr
 go_wp2_with fail
 have hS0:=And.intro k0 (And.intro k1 (And.intro t0 (And.intro t1 t2)))
 go_region_held3 (λw'=>w'.cell? ⟨r,0,none⟩=some (.slice (some ⟨tb,0,none⟩) n cap)/\w'.cell? ⟨r,1,none⟩=some (.int .i64 a)/\w'.cell? ⟨tb,a*3,none⟩=some (.int .i64 kd)/\w'.cell? ⟨tb,a*3+1,none⟩=some (.string t)/\w'.cell? ⟨tb,a*3+2,none⟩=some (.int .i64 at_))
  (first|assumption|exact ps_S5_drew (by assumption)|exact eO (by assumption) _)
  (fail)
 obtain⟨w9,iJ⟩:∃w9,w9=(w.alloc (Obj.cells #[.int .i64 kd,.string t,.int .i64 at_] 78)).drew:=⟨_,rfl⟩
 obtain⟨q,hq⟩:∃q,q=w.heap.size:=⟨_,rfl⟩
 have za:Hid (ol W r tb n cap a o kd t at_ kb ks w9):=Lib.hid (HT.out.below (by rw[iJ];exact((Below.refl _ _).alloc (Nat.le_refl _) _).drew))
 have bu:w9.heap[q]? =some (.cells #[.int .i64 kd,.string t,.int .i64 at_] 78 (0,0)):=by rw[iJ,hq];exact aD w _
 have y0:w9.cell? ⟨q,0,none⟩=some (.int .i64 kd):=by rw[cell_of_row _ _ _ _ _ _ bu];rfl
 rw[<-iJ,<-hq]
 clear bu iJ hq HT d0 d1 e0 e1 e2 a0 a1 a2 a3 a4 k0 k1 t0 t1 t2 hS0
 have n4:=n3.out w9 za.out
 go_wp2_with fail
 go_loopw [8,25] (λkv iv wr=>∃j:Nat,j<=ks.length/\iv=.int .i64 j/\wr=w9) (λ_ iv _=>ks.length-(RowKit.intOf iv).toNat)
 case atStart=>exact⟨0,Nat.zero_le _,rfl,rfl⟩
 case round=>
  obtain⟨j,hj,rfl,rfl⟩:=hrel
  by_cases hlt2:j<ks.length
  ·obtain⟨k,hk⟩:∃k,ks[j]? =some k:=⟨_,List.getElem?_eq_getElem hlt2⟩
   have x0:=za.out.2.2.1 j k hk
   have hkk:=HK.out k (List.mem_of_getElem? hk)
   have jc:(j:Int)<(ks.length:Int):=by omega
   clear hk n4 n3
   go_wp2_with fail
   refine⟨⟨j+1,by omega,by go_num,trivial⟩,by simp[RowKit.intOf]<;>omega⟩
  ·have jc:¬(j:Int)<(ks.length:Int):=by omega
   clear hlt2 n3
   go_wp2_with fail
   refine n4.mono ?_
   rintro x w5 ⟨rfl,hp⟩
   clear n4
   go_wp2_with fail
   go_end0
   exact⟨rfl,hp⟩
theorem Cw (W:World)(r tb n cap a:Nat)(o kd at_:Int)(t:ByteArray)(g:Nat)(c1 c2:Value)(kb kc:Nat)(ks:List Int)(hlt:(a:Int)<(n:Int))(j0:Nat)(hj0:ks[j0]? =some kd)(hks:∀j k,j<j0->ks[j]? =some k->(kd==k)=false)(_hkc:ks.length<=kc)(hkl:ks.length<=100)(code:Int)(T2 P:World->Prop)
 (n1:Calls Tryz.prog 20 #[.pointer (some ⟨r,0,none⟩)] W λe W'=>e=.returned (.bool true)/\ol W r tb n cap a o kd t at_ kb ks W')
 (eg:∀args w,(callFunc g args).run Tryz.prog w=.ok (.enter g args) w)
 (acc:Hid (∀w,ol W r tb n cap a o kd t at_ kb ks w->Calls Tryz.prog g #[.string t,c1,c2] w λe W'=>e=.returned (.int .i64 code)/\T2 W'))
 (hcode:(code==0)=false)
 (n3:Hid (∀w,T2 w->Calls Tryz.prog 24 #[.pointer (some ⟨r,0,none⟩),.int .i64 code] w λe W'=>e=.returned (.tuple #[])/\P W')):
 Calls Tryz.prog 97 #[.pointer (some ⟨r,0,none⟩),.func (.func g) #[] #[c1,c2],.slice (some ⟨kb,0,none⟩) ks.length kc] W λe W'=>e=.returned (.tuple #[])/\P W':=by
 have HK:=Lib.hid hks
 clear hks
 go_enter Tryz.func97,Tryz.ntmps97
 go_wp2_with fail
 refine n1.mono ?_
 rintro x w ⟨rfl,hT⟩
 have HT:=Lib.hid hT
 obtain⟨hr,⟨t0,t1,t2⟩,-,-⟩:=hT
 obtain⟨k0,k1,-,-,-⟩:=cK hr
 have d0:w.drew.cell? ⟨r,0,none⟩=some (.slice (some ⟨tb,0,none⟩) n cap):=k0
 have d1:w.drew.cell? ⟨r,1,none⟩=some (.int .i64 a):=k1
 have e0:w.drew.cell? ⟨tb,a*3,none⟩=some (.int .i64 kd):=t0
 have e1:w.drew.cell? ⟨tb,a*3+1,none⟩=some (.string t):=t1
 have e2:w.drew.cell? ⟨tb,a*3+2,none⟩=some (.int .i64 at_):=t2
 have a0:=λo=>Lib.cell?_alloc_some (W:=w) o t0
 have a1:=λo=>Lib.cell?_alloc_some (W:=w) o t1
 have a2:=λo=>Lib.cell?_alloc_some (W:=w) o t2
 have a3:=λo=>Lib.cell?_alloc_some (W:=w) o k0
 have a4:=λo=>Lib.cell?_alloc_some (W:=w) o k1
 clear n1 hr
 go_wp2_with fail
 have hS0:=And.intro k0 (And.intro k1 (And.intro t0 (And.intro t1 t2)))
 go_region_held3 (λw'=>w'.cell? ⟨r,0,none⟩=some (.slice (some ⟨tb,0,none⟩) n cap)/\w'.cell? ⟨r,1,none⟩=some (.int .i64 a)/\w'.cell? ⟨tb,a*3,none⟩=some (.int .i64 kd)/\w'.cell? ⟨tb,a*3+1,none⟩=some (.string t)/\w'.cell? ⟨tb,a*3+2,none⟩=some (.int .i64 at_))
  (first|assumption|exact ps_S5_drew (by assumption)|exact eO (by assumption) _)
  (fail)
 obtain⟨w9,iJ⟩:∃w9,w9=(w.alloc (Obj.cells #[.int .i64 kd,.string t,.int .i64 at_] 78)).drew:=⟨_,rfl⟩
 obtain⟨q,hq⟩:∃q,q=w.heap.size:=⟨_,rfl⟩
 have za:Hid (ol W r tb n cap a o kd t at_ kb ks w9):=Lib.hid (HT.out.below (by rw[iJ];exact((Below.refl _ _).alloc (Nat.le_refl _) _).drew))
 have bu:w9.heap[q]? =some (.cells #[.int .i64 kd,.string t,.int .i64 at_] 78 (0,0)):=by rw[iJ,hq];exact aD w _
 have y0:w9.cell? ⟨q,0,none⟩=some (.int .i64 kd):=by rw[cell_of_row _ _ _ _ _ _ bu];rfl
 have y1:w9.cell? ⟨q,1,none⟩=some (.string t):=by rw[cell_of_row _ _ _ _ _ _ bu];rfl
 rw[<-iJ,<-hq]
 clear bu iJ hq HT d0 d1 e0 e1 e2 a0 a1 a2 a3 a4 k0 k1 t0 t1 t2 hS0
 have n4:=acc.out w9 za.out
 clear acc
 go_wp2_with fail
 go_loopw [8,25] (λkv iv wr=>∃j:Nat,j<=j0/\iv=.int .i64 j/\wr=w9) (λ_ iv _=>ks.length-(RowKit.intOf iv).toNat)
 case atStart=>exact⟨0,Nat.zero_le _,rfl,rfl⟩
 case round=>
  obtain⟨j,hj,rfl,rfl⟩:=hrel
  have hl0:j0<ks.length:=(List.getElem?_eq_some_iff.1 hj0).1
  have jc:(j:Int)<(ks.length:Int):=by omega
  have hltN:j<ks.length:=by omega
  by_cases hlt2:j<j0
  ·obtain⟨k,hk⟩:∃k,ks[j]? =some k:=⟨_,List.getElem?_eq_getElem (by omega)⟩
   have x0:=za.out.2.2.1 j k hk
   have hkk:=HK.out j k hlt2 hk
   clear hk n4 hj0
   go_wp2_with fail
   refine⟨⟨j+1,by omega,by go_num,trivial⟩,by simp[RowKit.intOf]<;>omega⟩
  ·obtain rfl:j=j0:=by omega
   have x0:=za.out.2.2.1 j kd hj0
   clear hlt2 hj hj0
   go_wp2_with (go_at_fn g;refine n4.mono ?_;rintro x w5 ⟨rfl,hp⟩)
   refine(n3.out w5 hp).mono ?_
   rintro x w6 ⟨rfl,hp2⟩
   clear n3 n4 hp
   go_wp2_with fail
   refine bodyPost_ret (results_none rfl _ _ _) rfl ?_
   exact⟨rfl,hp2⟩
theorem Ea (W:World)(r tb n cap a:Nat)(o kd at_:Int)(t:ByteArray)(g:Nat)(c1 c2:Value)(kb kc:Nat)(ks:List Int)(hlt:(a:Int)<(n:Int))(j0:Nat)(hj0:ks[j0]? =some kd)(hks:∀j k,j<j0->ks[j]? =some k->(kd==k)=false)(_hkc:ks.length<=kc)(hkl:ks.length<=100)(hw1:wrap64 ((a:Int)+1)=((a+1:Nat):Int))(T2:World->Prop)
 (n1:Calls Tryz.prog 20 #[.pointer (some ⟨r,0,none⟩)] W λe W'=>e=.returned (.bool true)/\ol W r tb n cap a o kd t at_ kb ks W')
 (eg:∀args w,(callFunc g args).run Tryz.prog w=.ok (.enter g args) w)
 (acc:Hid (∀w,ol W r tb n cap a o kd t at_ kb ks w->Calls Tryz.prog g #[.string t,c1,c2] w λe W'=>e=.returned (.int .i64 0)/\T2 W'))
 (hT:Hid (∀w,T2 w->w.heap[r]? =some (.cells (bK tb n cap a o 0) 68 (0,0)))):
 Calls Tryz.prog 97 #[.pointer (some ⟨r,0,none⟩),.func (.func g) #[] #[c1,c2],.slice (some ⟨kb,0,none⟩) ks.length kc] W λe W'=>e=.returned (.tuple #[])/\∃w5,T2 w5/\W'=w5.setCell ⟨r,1,none⟩ (.int .i64 ((a+1:Nat):Int)):=by
 have HK:=Lib.hid hks
 clear hks
 go_enter Tryz.func97,Tryz.ntmps97
 go_wp2_with fail
 refine n1.mono ?_
 rintro x w ⟨rfl,hT⟩
 have HT:=Lib.hid hT
 obtain⟨hr,⟨t0,t1,t2⟩,-,-⟩:=hT
 obtain⟨k0,k1,-,-,-⟩:=cK hr
 have d0:w.drew.cell? ⟨r,0,none⟩=some (.slice (some ⟨tb,0,none⟩) n cap):=k0
 have d1:w.drew.cell? ⟨r,1,none⟩=some (.int .i64 a):=k1
 have e0:w.drew.cell? ⟨tb,a*3,none⟩=some (.int .i64 kd):=t0
 have e1:w.drew.cell? ⟨tb,a*3+1,none⟩=some (.string t):=t1
 have e2:w.drew.cell? ⟨tb,a*3+2,none⟩=some (.int .i64 at_):=t2
 have a0:=λo=>Lib.cell?_alloc_some (W:=w) o t0
 have a1:=λo=>Lib.cell?_alloc_some (W:=w) o t1
 have a2:=λo=>Lib.cell?_alloc_some (W:=w) o t2
 have a3:=λo=>Lib.cell?_alloc_some (W:=w) o k0
 have a4:=λo=>Lib.cell?_alloc_some (W:=w) o k1
 clear n1 hr
 go_wp2_with fail
 have hS0:=And.intro k0 (And.intro k1 (And.intro t0 (And.intro t1 t2)))
 go_region_held3 (λw'=>w'.cell? ⟨r,0,none⟩=some (.slice (some ⟨tb,0,none⟩) n cap)/\w'.cell? ⟨r,1,none⟩=some (.int .i64 a)/\w'.cell? ⟨tb,a*3,none⟩=some (.int .i64 kd)/\w'.cell? ⟨tb,a*3+1,none⟩=some (.string t)/\w'.cell? ⟨tb,a*3+2,none⟩=some (.int .i64 at_))
  (first|assumption|exact ps_S5_drew (by assumption)|exact eO (by assumption) _)
  (fail)
 obtain⟨w9,iJ⟩:∃w9,w9=(w.alloc (Obj.cells #[.int .i64 kd,.string t,.int .i64 at_] 78)).drew:=⟨_,rfl⟩
 obtain⟨q,hq⟩:∃q,q=w.heap.size:=⟨_,rfl⟩
 have za:Hid (ol W r tb n cap a o kd t at_ kb ks w9):=Lib.hid (HT.out.below (by rw[iJ];exact((Below.refl _ _).alloc (Nat.le_refl _) _).drew))
 have bu:w9.heap[q]? =some (.cells #[.int .i64 kd,.string t,.int .i64 at_] 78 (0,0)):=by rw[iJ,hq];exact aD w _
 have y0:w9.cell? ⟨q,0,none⟩=some (.int .i64 kd):=by rw[cell_of_row _ _ _ _ _ _ bu];rfl
 have y1:w9.cell? ⟨q,1,none⟩=some (.string t):=by rw[cell_of_row _ _ _ _ _ _ bu];rfl
 rw[<-iJ,<-hq]
 clear bu iJ hq HT d0 d1 e0 e1 e2 a0 a1 a2 a3 a4 k0 k1 t0 t1 t2 hS0
 have n4:=acc.out w9 za.out
 clear acc
 go_wp2_with fail
 go_loopw [8,25] (λkv iv wr=>∃j:Nat,j<=j0/\iv=.int .i64 j/\wr=w9) (λ_ iv _=>ks.length-(RowKit.intOf iv).toNat)
 case atStart=>exact⟨0,Nat.zero_le _,rfl,rfl⟩
 case round=>
  obtain⟨j,hj,rfl,rfl⟩:=hrel
  have hl0:j0<ks.length:=(List.getElem?_eq_some_iff.1 hj0).1
  have jc:(j:Int)<(ks.length:Int):=by omega
  have hltN:j<ks.length:=by omega
  by_cases hlt2:j<j0
  ·obtain⟨k,hk⟩:∃k,ks[j]? =some k:=⟨_,List.getElem?_eq_getElem (by omega)⟩
   have x0:=za.out.2.2.1 j k hk
   have hkk:=HK.out j k hlt2 hk
   clear hk n4 hj0
   go_wp2_with fail
   refine⟨⟨j+1,by omega,by go_num,trivial⟩,by simp[RowKit.intOf]<;>omega⟩
  ·obtain rfl:j=j0:=by omega
   have x0:=za.out.2.2.1 j kd hj0
   clear hlt2 hj hj0
   go_wp2_with (go_at_fn g;refine n4.mono ?_;rintro x w5 ⟨rfl,hp⟩;have HP:=Lib.hid hp;have HR5:=Lib.hid (hT.out w5 hp);have z1:=(cK HR5.out).2.1;have f1:=aJ 1 HR5.out;clear hp)
   refine bodyPost_ret (results_none rfl _ _ _) rfl ?_
   refine⟨rfl,w5,HP.out,?_⟩
   first|rfl|rw[hw1]
def eU (l:List Ps.Tok)(ks:List Int)(st:Ps.St):Option ByteArray:=match st with
 | .ok a=>match l[a]? with
   |some t=>if t.1∈ks then some t.2.1 else none
   |none=>none
 | .error _=>none
theorem Ij (ks:List Int)(k:Int)(h:k∈ks):∃j:Nat,ks[j]? =some k/\∀(i:Nat) (x:Int),i<j->ks[i]? =some x->(k==x)=false:=by
 induction ks with
 |nil=>cases h
 |cons y ks ih=>
  by_cases hy:k=y
  ·subst hy
   exact⟨0,rfl,λi x hi=>by omega⟩
  ·obtain⟨j,hj,hb⟩:=ih (by simpa[hy]using h)
   refine⟨j+1,by simpa using hj,λi x hi hx=>?_⟩
   cases i with
   |zero=>
    obtain rfl:y=x:=by simpa using hx
    rw[beq_eq_false_iff_ne];exact hy
   |succ i=>exact hb i x (by omega) (by simpa using hx)
theorem Ep {W:World}{r tb cap:Nat}{l:List Ps.Tok}{st:Ps.St}(h:fB W r tb cap l st)(hl:bF l)(g:Nat)(c1 c2:Value)(kb kc ob:Nat)(ks:List Int)(_hkb:kb≠r)(hkc:ks.length<=kc)(hkl:ks.length<=100)
 (hk:∀(j:Nat) (k:Int),ks[j]? =some k->W.cell? ⟨kb,j,none⟩=some (.int .i64 k)) (hob:ob≠r) (hot:ob≠tb) (code:ByteArray->Int) (X:Option ByteArray->World->Prop) (hX:∀s w w',X s w->Tch r r w w'->X s w') (h0:X none W)
 (eg:∀args w,(callFunc g args).run Tryz.prog w=.ok (.enter g args) w)
 (hacc:∀s w,X none w->s.size<=1000000->Calls Tryz.prog g #[.string s,c1,c2] w λe W'=>e=.returned (.int .i64 (code s))/\X (some s) W'/\Tch ob ob w W'):
 Calls Tryz.prog 97 #[.pointer (some ⟨r,0,none⟩),.func (.func g) #[] #[c1,c2],.slice (some ⟨kb,0,none⟩) ks.length kc] W λe W'=>
  e=.returned (.tuple #[])/\fB W' r tb cap l (Ps.step (Ps.take l (λs=>(s,code s)) ks) ⟨#[]⟩ st).2/\Tch r ob W W'/\X (eU l ks st) W':=by
 have n1:=tC h hl
 cases hb:Ps.bA l st with
 |false=>
  rw[hb]at n1
  have e1:Ps.bJ l st=(Ps.step (Ps.take l (λs=>(s,code s)) ks) ⟨#[]⟩ st).2/\eU l ks st=none:=by
   cases st with
   |error er=>exact⟨rfl,rfl⟩
   |ok a=>
    have hge:l.length<=a:=by simpa[Ps.bA]using hb
    have hn:l[a]? =none:=List.getElem?_eq_none hge
    have hw:Ps.take l (λs=>(s,code s)) ks a=.error (Ps.short l):=by simp only[Ps.take,hn]
    rw[Ps.aX hw]
    exact⟨by simp[Ps.bJ,Nat.not_lt.2 hge],by simp only[eU,hn]⟩
  rw[e1.1]at n1
  rw[e1.2]
  refine(Gl W r _ _ _ _ _ n1).mono ?_
  rintro x w ⟨rfl,hs,hT⟩
  exact⟨rfl,hs,hT.left,hX _ _ _ h0 hT⟩
 |true=>
  cases st with
  |error er=>cases hb
  |ok a=>
   have hlt:a<l.length:=by simpa[Ps.bA]using hb
   obtain⟨t,eG⟩:∃t,l[a]? =some t:=⟨_,List.getElem?_eq_getElem hlt⟩
   have EF:=hl t (List.mem_of_getElem? eG)
   have hm:=ma h
   rw[hb]at hm
   obtain⟨a',o,e,hr,ht,hne,hpos,hcap,bE,hs⟩:=h
   obtain⟨rfl,rfl,hle⟩:=hs
   obtain⟨t0,t1,t2⟩:=ht a' t eG
   have m1:Calls Tryz.prog 20 #[.pointer (some ⟨r,0,none⟩)] W λe W'=>e=.returned (.bool true)/\ol W r tb l.length cap a' o t.1 t.2.1 t.2.2 kb ks W':=by
    refine(qb W r hm).mono ?_
    rintro x w ⟨rfl,k,rfl⟩
    exact⟨rfl,hr,⟨t0,t1,t2⟩,hk,Tch.drewN _ _ _ _⟩
   have back:∀w,ol W r tb l.length cap a' o t.1 t.2.1 t.2.2 kb ks w->fB w r tb cap l (.ok a')/\Tch r r W w:=λw hw=>
    ⟨⟨a',o,0,hw.1,ht.tch hw.2.2.2 hne hne,hne,hpos,hcap,bE,rfl,rfl,hle⟩,hw.2.2.2⟩
   by_cases hkd:t.1∈ks
   ·have htk:eU l ks (.ok a')=some t.2.1:=by simp only[eU,eG,if_pos hkd]
    obtain⟨j0,hj0,hbef⟩:=Ij ks t.1 hkd
    rw[htk]
    have acc:∀w,ol W r tb l.length cap a' o t.1 t.2.1 t.2.2 kb ks w->Calls Tryz.prog g #[.string t.2.1,c1,c2] w λe W'=>e=.returned (.int .i64 (code t.2.1))/\(W'.heap[r]? =some (.cells (bK tb l.length cap a' o 0) 68 (0,0))/\Tch r ob W W'/\X (some t.2.1) W'):=λw hw=>by
     refine(hacc t.2.1 w (hX _ _ _ h0 hw.2.2.2) EF.1).mono ?_
     rintro x w2 ⟨h1,h2,h3⟩
     exact⟨h1,(h3.block r (Array.getElem?_eq_some_iff.1 hw.1).1 (Ne.symm hob) (Ne.symm hob)).trans hw.1,hw.2.2.2.left.trans h3.right,h2⟩
    by_cases hcode:code t.2.1=0
    ·have hw:Ps.take l (λs=>(s,code s)) ks a'=.ok (t.2.1,a'+1):=by simp only[Ps.take,eG,if_pos hkd,if_pos hcode]
     rw[Ps.step_ok hw]
     simp only[hcode]at acc
     refine(Ea W r tb l.length cap a' o t.1 t.2.2 t.2.1 g c1 c2 kb kc ks (by omega) j0 hj0 hbef hkc hkl (by unfold wrap64;omega) _ m1 eg (Lib.hid acc) (Lib.hid λw hw=>hw.1)).mono ?_
     rintro x w ⟨rfl,w5,⟨hr5,PH,hX5⟩,rfl⟩
     have hT6:Tch r r w5 (w5.setCell ⟨r,1,none⟩ (.int .i64 ((a'+1:Nat):Int))):=(Tch.refl _ _ _).setCell 1 _
     exact⟨rfl,⟨a'+1,o,0,aN w5 r 1 _ _ _ hr5,(ht.tch PH hne (Ne.symm hot)).tch hT6 hne hne,hne,hpos,hcap,bE,rfl,rfl,hlt⟩,PH.trans hT6.left,hX _ _ _ hX5 hT6⟩
    ·have hw:Ps.take l (λs=>(s,code s)) ks a'=.error (Ps.aT l a',code t.2.1):=by simp only[Ps.take,eG,if_pos hkd,if_neg hcode]
     rw[Ps.aX hw]
     refine Cw W r tb l.length cap a' o t.1 t.2.2 t.2.1 g c1 c2 kb kc ks (by omega) j0 hj0 hbef hkc hkl (code t.2.1) _ _ m1 eg (Lib.hid acc) (by rw[beq_eq_false_iff_ne];exact hcode) (Lib.hid λw hw=>?_)
     have hs5:fB w r tb cap l (.ok a'):=⟨a',o,0,hw.1,ht.tch hw.2.1 hne (Ne.symm hot),hne,hpos,hcap,bE,rfl,rfl,hle⟩
     refine(j6 hs5 (code t.2.1) hcode (λb hb=>by cases hb;exact hlt)).mono ?_
     rintro x w6 ⟨h1,h2,h3⟩
     exact⟨h1,h2,hw.2.1.trans h3.left,hX _ _ _ hw.2.2 h3⟩
   ·have htk:eU l ks (.ok a')=none:=by simp only[eU,eG,if_neg hkd]
    rw[htk]
    have hw:Ps.take l (λs=>(s,code s)) ks a'=.error (Ps.aT l a',30):=by simp only[Ps.take,eG,if_neg hkd]
    rw[Ps.aX hw]
    refine Cq W r tb l.length cap a' o t.1 t.2.2 t.2.1 _ kb kc ks (by omega) (λk hk=>by rw[beq_eq_false_iff_ne];rintro rfl;exact hkd hk) hkc hkl _ m1 (Lib.hid λw hw=>?_)
    refine(j6 (back w hw).1 30 (by decide) (λb hb=>by cases hb;exact hlt)).mono ?_
    rintro x w6 ⟨h1,h2,h3⟩
    exact⟨h1,h2,((back w hw).2.trans h3).left,hX _ _ _ h0 ((back w hw).2.trans h3)⟩
def dZ (k:Nat)(s:ByteArray):Int:=if aY k s=0 then 0 else 6
theorem I4 (k:Nat)(w:World)(s:ByteArray)(kx ob:Nat)(u:Value)(b:Bool)(hk:w.cell? ⟨kx,0,none⟩=some (.int .i64 k))(ho:w.heap[ob]? =some (.cells #[u] 9 (0,0)))
 (n1:Calls Tryz.prog 65 #[.int .i64 k,.string s] w λe w'=>e=.returned (.bool b)/\Below w.heap.size w w'):
 Calls Tryz.prog 98 #[.string s,.pointer (some ⟨kx,0,none⟩),.pointer (some ⟨ob,0,none⟩)] w λe w'=>e=.returned (.int .i64 (if b=true then 0 else 6))/\w'.heap[ob]? =some (.cells #[if b=true then .string s else u] 9 (0,0))/\Tch ob ob w w':=by
 have HO:=Lib.hid ho
 clear ho
 cases b with
 |true=>
  go_enter Tryz.func98,Tryz.ntmps98
  go_wp2_with fail
  refine n1.mono ?_
  rintro e w' ⟨rfl,hb⟩
  have hr:w'.heap[ob]? =some (.cells #[u] 9 (0,0)):=(hb.block ob (Array.getElem?_eq_some_iff.1 HO.out).1).trans HO.out
  have f0:=aJ 0 hr
  have z0:w'.cell? ⟨ob,0,none⟩=some u:=by rw[cell_of_row _ _ _ _ _ _ hr];rfl
  have HR:=Lib.hid hr
  have HB:=Lib.hid hb
  clear n1 hr hb
  go_wp2_with fail
  go_ret
  exact⟨rfl,aN w' ob 0 _ _ _ HR.out,(Tch.of_below HB.out).setCell 0 _⟩
 |false=>
  go_enter Tryz.func98,Tryz.ntmps98
  go_wp2_with fail
  refine n1.mono ?_
  rintro e w' ⟨rfl,hb⟩
  have HB:=Lib.hid hb
  clear n1 hb
  go_wp2_with fail
  go_ret
  exact⟨rfl,(HB.out.block ob (Array.getElem?_eq_some_iff.1 HO.out).1).trans HO.out,Tch.of_below HB.out⟩
theorem ps_idL (W:World)(r k kb kn kc:Nat)(v:ByteArray)(P:World->Prop)
 (n1:Hid (∀w kx ob,w.cell? ⟨kx,0,none⟩=some (.int .i64 k)->w.heap[ob]? =some (.cells #[.string ⟨#[]⟩] 9 (0,0))->Below W.heap.size W w->W.heap.size<=ob->W.heap.size<=kx->kx≠ob->
  Calls Tryz.prog 97 #[.pointer (some ⟨r,0,none⟩),.func (.func 98) #[] #[.pointer (some ⟨kx,0,none⟩),.pointer (some ⟨ob,0,none⟩)],.slice (some ⟨kb,0,none⟩) kn kc] w λe W'=>e=.returned (.tuple #[])/\W'.cell? ⟨ob,0,none⟩=some (.string v)/\P W')):
 Calls Tryz.prog 62 #[.pointer (some ⟨r,0,none⟩),.int .i64 k,.slice (some ⟨kb,0,none⟩) kn kc] W λe W'=>e=.returned (.string v)/\P W':=by
 go_enter Tryz.func62,Tryz.ntmps62
 go_wp2_with fail
 refine(n1.out _ W.heap.size (W.heap.size+1) ?_ ?_ ?_ (by omega) (by omega) (by omega)).mono ?_
 ·exact Lib.cell?_alloc_some _ (by rw[cell_of_row _ _ _ _ _ _ (aD W _)];rfl)
 ·have h:=aD (W.alloc (Obj.cells #[.int .i64 k] 3)) (Obj.cells #[.string ⟨#[]⟩] 9)
  rwa [show(W.alloc (Obj.cells #[.int .i64 k] 3)).heap.size=W.heap.size+1 from by simp]at h
 ·exact((Below.refl _ _).alloc (Nat.le_refl _) _).alloc (by simp) _
 rintro x w' ⟨rfl,hv,hp⟩
 clear n1
 go_wp2_with fail
 go_ret
 exact⟨rfl,hp⟩
theorem Tch.fresh {r ob:Nat}{W W1 W':World}(hb:Below W.heap.size W W1)(h:Tch r ob W1 W')(hob:W.heap.size<=ob):Tch r r W W':=
 ⟨h.os.trans hb.os,h.tape.trans hb.tape,h.output.trans hb.output,Nat.le_trans hb.size h.size,λj hj h1 _=>(h.block j (Nat.lt_of_lt_of_le hj hb.size) h1 (by omega)).trans (hb.block j hj)⟩
def mI (W0:World):Prop:=∀w,Below W0.heap.size W0 w->jv w
theorem fB.below {W w:World}{r tb cap:Nat}{l:List Ps.Tok}{st:Ps.St}(h:fB W r tb cap l st)(hb:Below W.heap.size W w):fB w r tb cap l st:=by
 obtain⟨a,o,e,hr,ht,rest⟩:=h
 refine⟨a,o,e,(hb.block r (Array.getElem?_eq_some_iff.1 hr).1).trans hr,λj x hx=>?_,rest⟩
 obtain⟨t0,t1,t2⟩:=ht j x hx
 have up:∀{p:Addr} {v:Value},W.cell? p=some v->w.cell? p=some v:=λhp=>(hb.cell (World.block_lt_of_cell? W _ hp)).trans hp
 exact⟨up t0,up t1,up t2⟩
theorem fB.lt {W:World}{r tb cap:Nat}{l:List Ps.Tok}{st:Ps.St}(h:fB W r tb cap l st):r<W.heap.size/\tb<W.heap.size:=by
 obtain⟨a,o,e,hr,ht,hne,hpos,_⟩:=h
 obtain⟨x,hx⟩:∃x,l[0]? =some x:=⟨_,List.getElem?_eq_getElem hpos⟩
 exact⟨(Array.getElem?_eq_some_iff.1 hr).1,World.block_lt_of_cell? W _ (ht 0 x hx).1⟩
theorem wU (k:Nat)(s:ByteArray):(if (aY k s==0)=true then(0:Int)else 6)=dZ k s:=by
 unfold dZ
 by_cases h:aY k s=0
 ·rw[if_pos h,if_pos (by simpa using h)]
 ·rw[if_neg h,if_neg (by simpa using h)]
theorem Ck (l:List Ps.Tok)(ks:List Int)(k:Nat)(st:Ps.St):
 (match eU l ks st with|some s=>if dZ k s=0 then s else⟨#[]⟩|none=>⟨#[]⟩)=(Ps.step (Ps.take l (λs=>(s,dZ k s)) ks) ⟨#[]⟩ st).1:=by
 cases st with
 |error e=>rfl
 |ok a=>
  cases eG:l[a]? with
  |none=>
   have hw:Ps.take l (λs=>(s,dZ k s)) ks a=.error (Ps.short l):=by simp only[Ps.take,eG]
   rw[Ps.aX hw]
   simp only[eU,eG]
  |some t=>
   by_cases hkd:t.1∈ks
   ·by_cases hc:dZ k t.2.1=0
    ·have hw:Ps.take l (λs=>(s,dZ k s)) ks a=.ok (t.2.1,a+1):=by simp only[Ps.take,eG,if_pos hkd,if_pos hc]
     rw[Ps.step_ok hw]
     simp only[eU,eG,if_pos hkd,if_pos hc]
    ·have hw:Ps.take l (λs=>(s,dZ k s)) ks a=.error (Ps.aT l a,dZ k t.2.1):=by simp only[Ps.take,eG,if_pos hkd,if_neg hc]
     rw[Ps.aX hw]
     simp only[eU,eG,if_pos hkd,if_neg hc]
   ·have hw:Ps.take l (λs=>(s,dZ k s)) ks a=.error (Ps.aT l a,30):=by simp only[Ps.take,eG,if_neg hkd]
    rw[Ps.aX hw]
    simp only[eU,eG,if_neg hkd]
theorem jS {W0 W:World}{r tb cap:Nat}{l:List Ps.Tok}{st:Ps.St}(h:fB W r tb cap l st)(hl:bF l)(env:mI W0)(hW:Below W0.heap.size W0 W)(hr0:W0.heap.size<=r)(k:Nat)(hk3:k<3)
 (kb kc:Nat) (ks:List Int) (hkb:kb≠r) (hkc:ks.length<=kc) (hkl:ks.length<=100) (hk:∀(j:Nat) (x:Int),ks[j]? =some x->W.cell? ⟨kb,j,none⟩=some (.int .i64 x)):
 Calls Tryz.prog 62 #[.pointer (some ⟨r,0,none⟩),.int .i64 k,.slice (some ⟨kb,0,none⟩) ks.length kc] W λe W'=>
  e=.returned (.string (Ps.step (Ps.take l (λs=>(s,dZ k s)) ks) ⟨#[]⟩ st).1)/\fB W' r tb cap l (Ps.step (Ps.take l (λs=>(s,dZ k s)) ks) ⟨#[]⟩ st).2/\Tch r r W W':=by
 refine ps_idL W r k kb ks.length kc _ _ (Lib.hid λw kx ob hkx hob hbw hob0 hkx0 hne=>?_)
 have hlt:=h.lt
 have hs:=h.below hbw
 obtain⟨val,hval⟩:∃val:Option ByteArray->ByteArray,val=λs=>match s with|some s=>if dZ k s=0 then s else⟨#[]⟩|none=>⟨#[]⟩:=⟨_,rfl⟩
 have hB0:Below W0.heap.size W0 w:=hW.trans (hbw.mono hW.size)
 refine(Ep hs hl 98 (.pointer (some ⟨kx,0,none⟩)) (.pointer (some ⟨ob,0,none⟩)) kb kc ob ks hkb hkc hkl (λj x hx=>(hbw.cell (World.block_lt_of_cell? W _ (hk j x hx))).trans (hk j x hx)) (by omega) (by omega) (dZ k)
  (λs w'=>w'.heap[ob]? =some (.cells #[.string (val s)] 9 (0,0))/\w'.cell? ⟨kx,0,none⟩=some (.int .i64 k)/\Below W0.heap.size W0 w') ?_ ?_
  (enters_of Tryz.func98 (by kernel_rfl) rfl) ?_).mono ?_
 ·rintro s w1 w2 ⟨x1,x2,x3⟩ hT
  exact⟨(hT.block ob (Array.getElem?_eq_some_iff.1 x1).1 (by omega) (by omega)).trans x1,hT.cell x2 (by show kx≠r;omega) (by show kx≠r;omega),x3.trans (hT.below hr0 hr0 x3.size)⟩
 ·rw[hval];exact⟨hob,hkx,hB0⟩
 ·rintro s w1 ⟨x1,x2,x3⟩ hsz
  have hn:val none=⟨#[]⟩:=by rw[hval]
  rw[hn]at x1
  refine(I4 k w1 s kx ob (.string ⟨#[]⟩) _ x2 x1 (Hq k hk3 s w1 (by omega) (env w1 x3))).mono ?_
  rintro e w2 ⟨rfl,y1,y2⟩
  refine⟨by rw[wU],⟨?_,y2.cell x2 hne hne,x3.trans (y2.below (by have:=hW.size;omega) (by have:=hW.size;omega) x3.size)⟩,y2⟩
  rw[y1,hval]
  have hc:=wU k s
  by_cases hv:(aY k s==0)=true
  ·rw[if_pos hv]at hc⊢
   simp only[<-hc,if_true]
  ·rw[if_neg hv]at hc⊢
   simp only[<-hc]
   rfl
 ·rintro e w2 ⟨rfl,y1,y2,y3,y4,y5⟩
  refine⟨rfl,?_,y1,Tch.fresh hbw y2 hob0⟩
  rw[cell_of_row _ _ _ _ _ _ y3,hval,<-Ck l ks k st]
  rfl
structure fO (W0 W:World)(r tb cap:Nat)(l:List Ps.Tok)(st:Ps.St):Prop where
 rd:fB W r tb cap l st
 base:Below W0.heap.size W0 W
 r0:W0.heap.size<=r
theorem fO.next {W0 W W':World}{r tb cap:Nat}{l:List Ps.Tok}{st st':Ps.St}(h:fO W0 W r tb cap l st)(hr:fB W' r tb cap l st')(hT:Tch r r W W'):fO W0 W' r tb cap l st':=
 ⟨hr,h.base.trans (hT.below h.r0 h.r0 h.base.size),h.r0⟩
theorem fO.below {W0 W W':World}{r tb cap:Nat}{l:List Ps.Tok}{st:Ps.St}(h:fO W0 W r tb cap l st)(hb:Below W.heap.size W W'):fO W0 W' r tb cap l st:=
 ⟨h.rd.below hb,h.base.trans (hb.mono h.base.size),h.r0⟩
def uu (l:List Ps.Tok):Ps.P ByteArray:=Ps.take l (λs=>(s,dZ 2 s)) [1,2,4]
def uG (l:List Ps.Tok):Ps.P ByteArray:=Ps.take l (λs=>(s,dZ 1 s)) [1]
def Kq (l:List Ps.Tok):Ps.P ByteArray:=Ps.take l (λs=>(s,dZ 0 s)) [1]
def qP (f:Nat)(W0:World)(l:List Ps.Tok)(p:Ps.P ByteArray):Prop:=
 ∀(W:World) (r tb cap:Nat) (st:Ps.St),fO W0 W r tb cap l st->Calls Tryz.prog f #[.pointer (some ⟨r,0,none⟩)] W λe W'=>
  e=.returned (.string (Ps.step p ⟨#[]⟩ st).1)/\fO W0 W' r tb cap l (Ps.step p ⟨#[]⟩ st).2/\Tch r r W W'
theorem vZ {W:World}{cs:Array Value}{t:TypeId}(ks:List Int)(hcs:cs.toList=ks.map λk=>Value.int .i64 k)(j:Nat)(x:Int)(hx:ks[j]? =some x):(W.alloc (.cells cs t)).cell? ⟨W.heap.size,j,none⟩=some (.int .i64 x):=by
 rw[cell_of_row _ _ _ _ _ _ (aD W _),<-Array.getElem?_toList,hcs,List.getElem?_map,hx]
 rfl
theorem NS (W:World)(r:Nat)(v:ByteArray)(P:World->Prop)
 (n1:Hid (∀w,w=W.alloc (.cells #[.int .i64 1,.int .i64 2,.int .i64 4] 3)->Calls Tryz.prog 62 #[.pointer (some ⟨r,0,none⟩),.int .i64 2,.slice (some ⟨W.heap.size,0,none⟩) 3 3] w λe W'=>e=.returned (.string v)/\P W')):
 Calls Tryz.prog 23 #[.pointer (some ⟨r,0,none⟩)] W λe W'=>e=.returned (.string v)/\P W':=by
 go_enter Tryz.func23,Tryz.ntmps23
 go_wp2_with fail
 refine(n1.out _ rfl).mono ?_
 rintro e w ⟨rfl,hp⟩
 clear n1
 go_wp2_with fail
 go_ret
 exact⟨rfl,hp⟩
theorem Dx (W:World)(r:Nat)(v:ByteArray)(P:World->Prop)
 (n1:Hid (∀w,w=W.alloc (.cells #[.int .i64 1] 3)->Calls Tryz.prog 62 #[.pointer (some ⟨r,0,none⟩),.int .i64 1,.slice (some ⟨W.heap.size,0,none⟩) 1 1] w λe W'=>e=.returned (.string v)/\P W')):
 Calls Tryz.prog 131 #[.pointer (some ⟨r,0,none⟩)] W λe W'=>e=.returned (.string v)/\P W':=by
 go_enter Tryz.func131,Tryz.ntmps131
 go_wp2_with fail
 refine(n1.out _ rfl).mono ?_
 rintro e w ⟨rfl,hp⟩
 clear n1
 go_wp2_with fail
 go_ret
 exact⟨rfl,hp⟩
theorem KV (W:World)(r:Nat)(v:ByteArray)(P:World->Prop)
 (n1:Hid (∀w,w=W.alloc (.cells #[.int .i64 1] 3)->Calls Tryz.prog 62 #[.pointer (some ⟨r,0,none⟩),.int .i64 0,.slice (some ⟨W.heap.size,0,none⟩) 1 1] w λe W'=>e=.returned (.string v)/\P W')):
 Calls Tryz.prog 139 #[.pointer (some ⟨r,0,none⟩)] W λe W'=>e=.returned (.string v)/\P W':=by
 go_enter Tryz.func139,Tryz.ntmps139
 go_wp2_with fail
 refine(n1.out _ rfl).mono ?_
 rintro e w ⟨rfl,hp⟩
 clear n1
 go_wp2_with fail
 go_ret
 exact⟨rfl,hp⟩
theorem Tch.after {r:Nat}{W W1 W':World}(hb:Below W.heap.size W W1)(h:Tch r r W1 W'):Tch r r W W':=(Tch.of_below hb).trans h
theorem KO {W0:World}{l:List Ps.Tok}(hl:bF l)(env:mI W0):qP 23 W0 l (uu l):=λW r tb cap st h=>by
 refine NS W r _ _ (Lib.hid λw hw=>?_)
 have hb:Below W.heap.size W w:=by rw[hw];exact(Below.refl _ _).alloc (Nat.le_refl _) _
 have h1:=h.below hb
 have hlt:=h.rd.lt
 refine(jS h1.rd hl env h1.base h1.r0 2 (by decide) W.heap.size 3 [1,2,4] (by omega) (by decide) (by decide) (λj x hx=>by rw[hw];exact vZ [1,2,4] rfl j x hx)).mono ?_
 rintro e W' ⟨rfl,h2,h3⟩
 exact⟨rfl,h1.next h2 h3,h3.after hb⟩
theorem xV {W0:World}{l:List Ps.Tok}(hl:bF l)(env:mI W0):qP 131 W0 l (uG l):=λW r tb cap st h=>by
 refine Dx W r _ _ (Lib.hid λw hw=>?_)
 have hb:Below W.heap.size W w:=by rw[hw];exact(Below.refl _ _).alloc (Nat.le_refl _) _
 have h1:=h.below hb
 have hlt:=h.rd.lt
 refine(jS h1.rd hl env h1.base h1.r0 1 (by decide) W.heap.size 1 [1] (by omega) (by decide) (by decide) (λj x hx=>by rw[hw];exact vZ [1] rfl j x hx)).mono ?_
 rintro e W' ⟨rfl,h2,h3⟩
 exact⟨rfl,h1.next h2 h3,h3.after hb⟩
theorem NY {W0:World}{l:List Ps.Tok}(hl:bF l)(env:mI W0):qP 139 W0 l (Kq l):=λW r tb cap st h=>by
 refine KV W r _ _ (Lib.hid λw hw=>?_)
 have hb:Below W.heap.size W w:=by rw[hw];exact(Below.refl _ _).alloc (Nat.le_refl _) _
 have h1:=h.below hb
 have hlt:=h.rd.lt
 refine(jS h1.rd hl env h1.base h1.r0 0 (by decide) W.heap.size 1 [1] (by omega) (by decide) (by decide) (λj x hx=>by rw[hw];exact vZ [1] rfl j x hx)).mono ?_
 rintro e W' ⟨rfl,h2,h3⟩
 exact⟨rfl,h1.next h2 h3,h3.after hb⟩
theorem xD {W0 W:World}{r tb cap:Nat}{l:List Ps.Tok}{st:Ps.St}(hl:bF l)(h:fO W0 W r tb cap l st)(s:ByteArray):
 Calls Tryz.prog 89 #[.pointer (some ⟨r,0,none⟩),.string s] W λe W'=>e=.returned (.tuple #[])/\fO W0 W' r tb cap l (Ps.step (Ps.word l s.data.toList) () st).2/\Tch r r W W':=
 (Oz h.rd hl s).mono λ_ _ ⟨h1,h2,h3⟩=>⟨h1,h.next h2 h3,h3⟩
theorem ps_byL (W:World)(r:Nat)(v:ByteArray)(P Q:World->Prop)
 (n1:Calls Tryz.prog 89 #[.pointer (some ⟨r,0,none⟩),.string ⟨#[98,121]⟩] W λe W'=>e=.returned (.tuple #[])/\P W')
 (n2:Hid (∀w,P w->Calls Tryz.prog 131 #[.pointer (some ⟨r,0,none⟩)] w λe W'=>e=.returned (.string v)/\Q W')):
 Calls Tryz.prog 95 #[.pointer (some ⟨r,0,none⟩)] W λe W'=>e=.returned (.string v)/\Q W':=by
 go_enter Tryz.func95,Tryz.ntmps95
 go_wp2_with fail
 refine n1.mono ?_
 rintro e w ⟨rfl,hp⟩
 have m2:=n2.out w hp
 clear n1 n2
 go_wp2_with fail
 refine m2.mono ?_
 rintro e w2 ⟨rfl,hq⟩
 clear m2
 go_wp2_with fail
 go_ret
 exact⟨rfl,hq⟩
def Nr (l:List Ps.Tok):Ps.P ByteArray:=Ps.bind' (Ps.word l Ps.sBy) λ_=>uG l
theorem ps_by {W0:World}{l:List Ps.Tok}(hl:bF l)(env:mI W0):qP 95 W0 l (Nr l):=λW r tb cap st h=>by
 unfold Nr
 rw[Ps.IV _ _ () _ st]
 refine ps_byL W r _ (λw=>fO W0 w r tb cap l (Ps.step (Ps.word l Ps.sBy) () st).2/\Tch r r W w) _ (xD hl h ⟨#[98,121]⟩) (Lib.hid λw hw=>?_)
 exact(xV hl env w r tb cap _ hw.1).mono λe W' ⟨h1,h2,h3⟩=>⟨h1,h2,hw.2.trans h3⟩
theorem LJ {α β:Type}(l:List Ps.Tok)(F:ByteArray->α×Int)(G:ByteArray->β×Int)(h:∀s,(F s).2=(G s).2)(ks:List Int)(z:α)(z':β)(st:Ps.St):(Ps.step (Ps.take l F ks) z st).2=(Ps.step (Ps.take l G ks) z' st).2:=by
 cases st with
 |error e=>rfl
 |ok a=>
  cases eG:l[a]? with
  |none=>
   have h1:Ps.take l F ks a=.error (Ps.short l):=by simp only[Ps.take,eG]
   have h2:Ps.take l G ks a=.error (Ps.short l):=by simp only[Ps.take,eG]
   rw[Ps.aX h1,Ps.aX h2]
  |some t=>
   by_cases hkd:t.1∈ks
   ·by_cases hc:(F t.2.1).2=0
    ·have hg:(G t.2.1).2=0:=by rw[<-h];exact hc
     have h1:Ps.take l F ks a=.ok ((F t.2.1).1,a+1):=by simp only[Ps.take,eG,if_pos hkd,if_pos hc]
     have h2:Ps.take l G ks a=.ok ((G t.2.1).1,a+1):=by simp only[Ps.take,eG,if_pos hkd,if_pos hg]
     rw[Ps.step_ok h1,Ps.step_ok h2]
    ·have hg:¬(G t.2.1).2=0:=by rw[<-h];exact hc
     have h1:Ps.take l F ks a=.error (Ps.aT l a,(F t.2.1).2):=by simp only[Ps.take,eG,if_pos hkd,if_neg hc]
     have h2:Ps.take l G ks a=.error (Ps.aT l a,(G t.2.1).2):=by simp only[Ps.take,eG,if_pos hkd,if_neg hg]
     rw[Ps.aX h1,Ps.aX h2,h]
   ·have h1:Ps.take l F ks a=.error (Ps.aT l a,30):=by simp only[Ps.take,eG,if_neg hkd]
    have h2:Ps.take l G ks a=.error (Ps.aT l a,30):=by simp only[Ps.take,eG,if_neg hkd]
    rw[Ps.aX h1,Ps.aX h2]
theorem DI (l:List Ps.Tok)(ks:List Int)(F:ByteArray->Int×Int)(hF:∀s,(F s).2≠0->(F s).1=0)(st:Ps.St):
 (match eU l ks st with|some s=>(F s).1|none=>0)=(Ps.step (Ps.take l F ks) 0 st).1:=by
 cases st with
 |error e=>rfl
 |ok a=>
  cases eG:l[a]? with
  |none=>
   have hw:Ps.take l F ks a=.error (Ps.short l):=by simp only[Ps.take,eG]
   rw[Ps.aX hw]
   simp only[eU,eG]
  |some t=>
   by_cases hkd:t.1∈ks
   ·by_cases hc:(F t.2.1).2=0
    ·have hw:Ps.take l F ks a=.ok ((F t.2.1).1,a+1):=by simp only[Ps.take,eG,if_pos hkd,if_pos hc]
     rw[Ps.step_ok hw]
     simp only[eU,eG,if_pos hkd]
    ·have hw:Ps.take l F ks a=.error (Ps.aT l a,(F t.2.1).2):=by simp only[Ps.take,eG,if_pos hkd,if_neg hc]
     rw[Ps.aX hw]
     simp only[eU,eG,if_pos hkd]
     exact hF _ hc
   ·have hw:Ps.take l F ks a=.error (Ps.aT l a,30):=by simp only[Ps.take,eG,if_neg hkd]
    rw[Ps.aX hw]
    simp only[eU,eG,if_neg hkd]
def nP (g:Nat)(W0:World)(F:ByteArray->Int×Int):Prop:=
 (∀args w,(callFunc g args).run Tryz.prog w=.ok (.enter g args) w)/\(∀s,(F s).2≠0->(F s).1=0)/\
 ∀w (s:ByteArray),Below W0.heap.size W0 w->s.size<=1000000->Calls Tryz.prog g #[.string s] w λe W'=>e=.returned (.tuple #[.int .i64 (F s).1,.int .i64 (F s).2])/\Below w.heap.size w W'
theorem CO (w:World)(s:ByteArray)(g kx ob:Nat)(u:Value)(n x:Int)(hk:w.cell? ⟨kx,0,none⟩=some (.func (.func g) #[] #[]))(ho:w.heap[ob]? =some (.cells #[u] 2 (0,0)))
 (eg:∀args w,(callFunc g args).run Tryz.prog w=.ok (.enter g args) w)
 (n1:Calls Tryz.prog g #[.string s] w λe w'=>e=.returned (.tuple #[.int .i64 n,.int .i64 x])/\Below w.heap.size w w'):
 Calls Tryz.prog 162 #[.string s,.pointer (some ⟨kx,0,none⟩),.pointer (some ⟨ob,0,none⟩)] w λe w'=>e=.returned (.int .i64 x)/\w'.heap[ob]? =some (.cells #[.int .i64 n] 2 (0,0))/\Tch ob ob w w':=by
 have HO:=Lib.hid ho
 clear ho
 go_enter Tryz.func162,Tryz.ntmps162
 go_wp2_with (go_at_fn g;refine n1.mono ?_;rintro e w' ⟨rfl,hb⟩;have HR:=Lib.hid ((hb.block ob (Array.getElem?_eq_some_iff.1 HO.out).1).trans HO.out);have f0:=aJ 0 HR.out;have z0:w'.cell? ⟨ob,0,none⟩=some u:=(by rw[cell_of_row _ _ _ _ _ _ HR.out];rfl);have HB:=Lib.hid hb;clear hb)
 go_ret
 exact⟨rfl,aN w' ob 0 _ _ _ HR.out,(Tch.of_below HB.out).setCell 0 _⟩
theorem IY (W:World)(r g:Nat)(kd v:Int)(P:World->Prop)
 (n1:Hid (∀w kx ob kb,w.cell? ⟨kx,0,none⟩=some (.func (.func g) #[] #[])->w.heap[ob]? =some (.cells #[.int .i64 0] 2 (0,0))->w.cell? ⟨kb,0,none⟩=some (.int .i64 kd)->Below W.heap.size W w->W.heap.size<=ob->W.heap.size<=kx->W.heap.size<=kb->kx≠ob->
  Calls Tryz.prog 97 #[.pointer (some ⟨r,0,none⟩),.func (.func 162) #[] #[.pointer (some ⟨kx,0,none⟩),.pointer (some ⟨ob,0,none⟩)],.slice (some ⟨kb,0,none⟩) 1 1] w λe W'=>e=.returned (.tuple #[])/\W'.cell? ⟨ob,0,none⟩=some (.int .i64 v)/\P W')):
 Calls Tryz.prog 132 #[.pointer (some ⟨r,0,none⟩),.func (.func g) #[] #[],.int .i64 kd] W λe W'=>e=.returned (.int .i64 v)/\P W':=by
 go_enter Tryz.func132,Tryz.ntmps132
 go_wp2_with fail
 refine(n1.out _ W.heap.size (W.heap.size+1) (W.heap.size+1+1) ?_ ?_ ?_ ?_ (by omega) (by omega) (by omega) (by omega)).mono ?_
 ·exact Lib.cell?_alloc_some _ (Lib.cell?_alloc_some _ (by rw[cell_of_row _ _ _ _ _ _ (aD W _)];rfl))
 ·rw[Below.heap_alloc _ _ _ (by simp)]
  have h:=aD (W.alloc (Obj.cells #[.func (.func g) #[] #[]] 162)) (Obj.cells #[.int .i64 0] 2)
  rwa [show(W.alloc (Obj.cells #[.func (.func g) #[] #[]] 162)).heap.size=W.heap.size+1 from by simp]at h
 ·have h:=aD ((W.alloc (Obj.cells #[.func (.func g) #[] #[]] 162)).alloc (Obj.cells #[.int .i64 0] 2)) (Obj.cells #[.int .i64 kd] 3)
  rw[show((W.alloc (Obj.cells #[.func (.func g) #[] #[]] 162)).alloc (Obj.cells #[.int .i64 0] 2)).heap.size=W.heap.size+1+1 from by simp]at h
  rw[cell_of_row _ _ _ _ _ _ h];rfl
 ·exact(((Below.refl _ _).alloc (Nat.le_refl _) _).alloc (by simp) _).alloc (by simp;omega) _
 rintro x w' ⟨rfl,hv,hp⟩
 clear n1
 go_wp2_with fail
 go_ret
 exact⟨rfl,hp⟩
theorem vN {W0 W:World}{r tb cap:Nat}{l:List Ps.Tok}{st:Ps.St}(hl:bF l)(h:fO W0 W r tb cap l st)(g:Nat)(F:ByteArray->Int×Int)(hg:nP g W0 F)(kd:Int):
 Calls Tryz.prog 132 #[.pointer (some ⟨r,0,none⟩),.func (.func g) #[] #[],.int .i64 kd] W λe W'=>
  e=.returned (.int .i64 (Ps.step (Ps.take l F [kd]) 0 st).1)/\fO W0 W' r tb cap l (Ps.step (Ps.take l F [kd]) 0 st).2/\Tch r r W W':=by
 obtain⟨eg,hF,hc⟩:=hg
 refine IY W r g kd _ _ (Lib.hid λw kx ob kb hkx hob hkb hbw hob0 hkx0 hkb0 hne=>?_)
 have hlt:=h.rd.lt
 have h1:=h.below hbw
 obtain⟨val,hval⟩:∃val:Option ByteArray->Int,val=λs=>match s with|some s=>(F s).1|none=>0:=⟨_,rfl⟩
 refine(Ep h1.rd hl 162 (.pointer (some ⟨kx,0,none⟩)) (.pointer (some ⟨ob,0,none⟩)) kb 1 ob [kd] (by omega) (by simp) (by simp)
  (λj x hx=>by
   cases j with
   |zero=>obtain rfl:kd=x:=by simpa using hx
          exact hkb
   |succ j=>simp at hx) (by omega) (by omega) (λs=>(F s).2)
  (λs w'=>w'.heap[ob]? =some (.cells #[.int .i64 (val s)] 2 (0,0))/\w'.cell? ⟨kx,0,none⟩=some (.func (.func g) #[] #[])/\Below W0.heap.size W0 w') ?_ ?_
  (enters_of Tryz.func162 (by kernel_rfl) rfl) ?_).mono ?_
 ·rintro s w1 w2 ⟨x1,x2,x3⟩ hT
  exact⟨(hT.block ob (Array.getElem?_eq_some_iff.1 x1).1 (by omega) (by omega)).trans x1,hT.cell x2 (by show kx≠r;omega) (by show kx≠r;omega),x3.trans (hT.below h.r0 h.r0 x3.size)⟩
 ·rw[hval];exact⟨hob,hkx,h1.base⟩
 ·rintro s w1 ⟨x1,x2,x3⟩ hsz
  refine(CO w1 s g kx ob _ (F s).1 (F s).2 x2 x1 eg (hc w1 s x3 hsz)).mono ?_
  rintro e w2 ⟨rfl,y1,y2⟩
  have hB:W0.heap.size<=ob:=by have:=h.base.size;omega
  exact⟨rfl,⟨by rw[y1,hval],y2.cell x2 hne hne,x3.trans (y2.below hB hB x3.size)⟩,y2⟩
 ·rintro e w2 ⟨rfl,y1,y2,y3,y4,y5⟩
  have hT:=Tch.fresh hbw y2 hob0
  rw[LJ l (λs=>(s,(F s).2)) F (λ_=>rfl) [kd] ⟨#[]⟩ 0 st]at y1
  refine⟨rfl,?_,h.next y1 hT,hT⟩
  rw[cell_of_row _ _ _ _ _ _ y3,hval,<-DI l [kd] F hF st]
  rfl
def ul (f:Nat)(W0:World)(l:List Ps.Tok)(p:Ps.P Int):Prop:=
 ∀(W:World) (r tb cap:Nat) (st:Ps.St),fO W0 W r tb cap l st->Calls Tryz.prog f #[.pointer (some ⟨r,0,none⟩)] W λe W'=>
  e=.returned (.int .i64 (Ps.step p 0 st).1)/\fO W0 W' r tb cap l (Ps.step p 0 st).2/\Tch r r W W'
theorem NH {W0:World}{l:List Ps.Tok}(hl:bF l)(F:ByteArray->Int×Int)(hF:nP 133 W0 F):ul 90 W0 l (Ps.take l F [3]):=λW r tb cap st h=>by
 have n1:=vN hl h 133 F hF 3
 generalize Ps.step (Ps.take l F [3]) 0 st=x at *
 clear h hF hl
 go_enter Tryz.func90,Tryz.ntmps90
 go_wp2_with fail
 refine n1.mono ?_
 rintro e w ⟨rfl,h1,h2⟩
 clear n1
 go_wp2_with fail
 go_ret
 exact⟨rfl,h1,h2⟩
theorem Bv {W0:World}{l:List Ps.Tok}(hl:bF l)(F:ByteArray->Int×Int)(hF:nP 168 W0 F):ul 138 W0 l (Ps.take l F [2]):=λW r tb cap st h=>by
 have n1:=vN hl h 168 F hF 2
 generalize Ps.step (Ps.take l F [2]) 0 st=x at *
 clear h hF hl
 go_enter Tryz.func138,Tryz.ntmps138
 go_wp2_with fail
 refine n1.mono ?_
 rintro e w ⟨rfl,h1,h2⟩
 clear n1
 go_wp2_with fail
 go_ret
 exact⟨rfl,h1,h2⟩
theorem ps_day {W0:World}{l:List Ps.Tok}(hl:bF l)(F:ByteArray->Int×Int)(hF:nP 134 W0 F):ul 91 W0 l (Ps.take l F [4]):=λW r tb cap st h=>by
 have n1:=vN hl h 134 F hF 4
 generalize Ps.step (Ps.take l F [4]) 0 st=x at *
 clear h hF hl
 go_enter Tryz.func91,Tryz.ntmps91
 go_wp2_with fail
 refine n1.mono ?_
 rintro e w ⟨rfl,h1,h2⟩
 clear n1
 go_wp2_with fail
 go_ret
 exact⟨rfl,h1,h2⟩
def bv (W0 W:World)(r tb cap q:Nat)(l:List Ps.Tok)(st:Ps.St)(cs:Array Value)(w:World):Prop:=
 fO W0 w r tb cap l st/\w.heap[q]? =some (.cells cs 29 (0,0))/\Tch r q W w/\q≠r/\q≠tb/\W0.heap.size<=q
theorem bv.step {W0 W:World}{r tb cap q:Nat}{l:List Ps.Tok}{st st':Ps.St}{cs:Array Value}{w w':World}(h:bv W0 W r tb cap q l st cs w)(h1:fO W0 w' r tb cap l st')(h2:Tch r r w w'):bv W0 W r tb cap q l st' cs w':=by
 obtain⟨a,b,c,d,e,f⟩:=h
 exact⟨h1,(h2.block q (Array.getElem?_eq_some_iff.1 b).1 d d).trans b,c.trans h2.left,d,e,f⟩
theorem bv.cell {W0 W:World}{r tb cap q:Nat}{l:List Ps.Tok}{st:Ps.St}{cs:Array Value}{w:World}(h:bv W0 W r tb cap q l st cs w)(j:Nat)(hj:j<cs.size):(∃u,w.cell? ⟨q,j,none⟩=some u)/\w.frozen? ⟨q,j,none⟩=false:=by
 obtain⟨a,b,c,d,e,f⟩:=h
 exact⟨⟨cs[j],by rw[cell_of_row _ _ _ _ _ _ b];exact Array.getElem?_eq_getElem hj⟩,aJ j b⟩
theorem bv.store {W0 W:World}{r tb cap q:Nat}{l:List Ps.Tok}{st:Ps.St}{cs:Array Value}{w:World}(h:bv W0 W r tb cap q l st cs w)(j:Nat)(v:Value):bv W0 W r tb cap q l st (cs.setIfInBounds j v) (w.setCell ⟨q,j,none⟩ v):=by
 obtain⟨a,b,c,d,e,f⟩:=h
 have hT:Tch q q w (w.setCell ⟨q,j,none⟩ v):=(Tch.refl _ _ _).setCell j v
 refine⟨⟨?_,a.base.trans (hT.below f f a.base.size),a.r0⟩,aN w q j _ _ _ b,c.trans hT.right,d,e,f⟩
 obtain⟨x,o,er,hr,ht,hne,rest⟩:=a.rd
 exact⟨x,o,er,(hT.block r (Array.getElem?_eq_some_iff.1 hr).1 (Ne.symm d) (Ne.symm d)).trans hr,ht.tch hT (Ne.symm e) (Ne.symm e),hne,rest⟩
def prN:List ByteArray:=[⟨#[110,111,114,109,97,108]⟩,⟨#[104,105,103,104]⟩,⟨#[117,114,103,101,110,116]⟩]
def uH (w:World):Prop:=∀(j:Nat) (s:ByteArray),prN[j]? =some s->w.cell? ⟨3,j,none⟩=some (.string s)
theorem Jr (w:World)(g j:Nat)(s:ByteArray)(h0:¬(j:Int)<0)(h1:¬(3:Int)<=(j:Int))(h2:(j:Int)<3)(_hj:j<3)(hc:w.cell? ⟨g,j,none⟩=some (.string s)):
 Calls Tryz.prog 184 #[.slice (some ⟨g,0,none⟩) 3 3,.int .i64 j] w λe w'=>e=.returned (.string s)/\w=w':=by
 go_enter Tryz.func184,Tryz.ntmps184
 go_wp2_with fail
 go_ret
 exact⟨rfl,rfl⟩
theorem zg (w:World)(j:Nat)(s:ByteArray)(n1:Calls Tryz.prog 184 #[.slice (some ⟨3,0,none⟩) 3 3,.int .i64 j] w λe w'=>e=.returned (.string s)/\w=w'):
 Calls Tryz.prog 167 #[.int .i64 j] w λe w'=>e=.returned (.string s)/\w=w':=by
 go_enter Tryz.func167,Tryz.ntmps167
 go_wp2_with fail
 refine n1.mono ?_
 rintro e w1 ⟨rfl,rfl⟩
 clear n1
 go_wp2_with fail
 go_ret
 exact⟨rfl,rfl⟩
theorem wF (w:World)(h:uH w)(j:Nat)(s:ByteArray)(hj:prN[j]? =some s):Calls Tryz.prog 167 #[.int .i64 j] w λe w'=>e=.returned (.string s)/\w=w':=by
 have hl:j<3:=(List.getElem?_eq_some_iff.1 hj).1
 exact zg w j s (Jr w _ j s (by omega) (by omega) (by omega) hl (h j s hj))
theorem zL (w:World):Calls Tryz.prog 136 #[.string ⟨#[]⟩] w λe w'=>e=.returned (.int .i64 (-1))/\w=w':=by
 go_enter Tryz.func136,Tryz.ntmps136
 go_wp2_with fail
 go_loopw [3] (λpv wr=>pv=.int .i64 0/\wr=w) (λ_ _=>0)
 case atStart=>exact⟨rfl,rfl⟩
 case round=>
  obtain⟨rfl,rfl⟩:=hrel
  go_wp2_with fail
  go_ret
  exact⟨rfl,rfl⟩
theorem KQ (w:World)(s:ByteArray)(hs:(s.toList==([]:List UInt8))=false)(m:Option Nat)(v:Int)(hv:Hid (v=match m with|some j=>(j:Int)|none=> -1))
 (hm:Hid (∀(j:Nat) (t:ByteArray),prN[j]? =some t->(∀i,m=some i->j<=i)->((t.toList==s.toList)=true↔m=some j))) (hm3:∀i,m=some i->i<3)
 (n1:Hid (∀(j:Nat) (t:ByteArray),prN[j]? =some t->Calls Tryz.prog 167 #[.int .i64 j] w λe w'=>e=.returned (.string t)/\w=w')):
 Calls Tryz.prog 136 #[.string s] w λe w'=>e=.returned (.int .i64 v)/\w=w':=by
 go_enter Tryz.func136,Tryz.ntmps136
 go_wp2_with fail
 go_loopw [3] (λpv wr=>∃j:Nat,pv=.int .i64 j/\j<=3/\Hid (∀i,m=some i->j<=i)/\wr=w) (λpv _=>3-(RowKit.intOf pv).toNat)
 case atStart=>exact⟨0,rfl,by omega,Lib.hid (λ_ _=>Nat.zero_le _),rfl⟩
 case round=>
  obtain⟨j,rfl,hj,HJ,rfl⟩:=hrel
  by_cases hlt:j<3
  ·obtain⟨t,ht⟩:∃t,prN[j]? =some t:=⟨_,List.getElem?_eq_getElem (by exact hlt)⟩
   have m1:=n1.out j t ht
   have hq:=hm.out j t ht HJ.out
   have hjI:(j:Int)<=2:=by omega
   by_cases hmj:m=some j
   ·have hte:=hq.2 hmj
    have HV:Hid (v=(j:Int)):=Lib.hid (by rw[hv.out,hmj])
    clear hm3 hmj hq ht
    go_wp2_with fail
    refine m1.mono ?_
    rintro e w1 ⟨rfl,rfl⟩
    clear m1
    go_wp2_with fail
    go_ret
    rw[HV.out]
    exact⟨rfl,rfl⟩
   ·have hte:(t.toList==s.toList)=false:=by
     rw[Bool.eq_false_iff]
     exactλh=>hmj (hq.1 h)
    have HJ2:Hid (∀i,m=some i->j+1<=i):=Lib.hid (λi hi=>by
     have:=HJ.out i hi
     rcases Nat.lt_or_ge j i with h|h
     ·exact h
     ·exact absurd (by rw[hi];congr 1;omega) hmj)
    clear hm3 hmj hq ht
    go_wp2_with fail
    refine m1.mono ?_
    rintro e w1 ⟨rfl,rfl⟩
    clear m1
    go_wp2_with fail
    refine⟨⟨j+1,by go_num,by omega,HJ2,trivial⟩,by simp[RowKit.intOf]<;>omega⟩
  ·have hjI:¬(j:Int)<=2:=by omega
   have HV:Hid (v= -1):=Lib.hid (by
    rw[hv.out]
    cases hmi:m with
    |none=>rfl
    |some i=>have:=HJ.out i hmi;have:=hm3 i hmi;omega)
   clear hm3 hlt
   go_wp2_with fail
   go_ret
   rw[HV.out]
   exact⟨rfl,rfl⟩
def prM (s:ByteArray):Option Nat:=if s.data.toList=Ps.mK then some 0 else if s.data.toList=Ps.BP then some 1 else if s.data.toList=Ps.qQ then some 2 else none
def prV (s:ByteArray):Int:=match prM s with|some j=>(j:Int)|none=> -1
theorem Bq (s:ByteArray):Ps.prio s.data.toList=(prM s).map λj=>(j:Int):=by
 unfold Ps.prio prM
 split
 ·rfl
 ·split
  ·rfl
  ·split<;>rfl
theorem zl (w:World)(s:ByteArray)(h:uH w):Calls Tryz.prog 136 #[.string s] w λe w'=>e=.returned (.int .i64 (prV s))/\w=w':=by
 by_cases hs:s.data.toList=[]
 ·have e1:s=⟨#[]⟩:=by
   apply ByteArray.ext
   exact Array.toList_inj.1 hs
  subst e1
  exact zL w
 ·refine KQ w s (by rw[beq_eq_false_iff_ne,Lib.toList_data];exact hs) (prM s) _ (Lib.hid rfl) (Lib.hid λj t ht hle=>?_) (λi hi=>?_) (Lib.hid λj t ht=>wF w h j t ht)
  ·have hl:j<3:=(List.getElem?_eq_some_iff.1 ht).1
   rw[beq_iff_eq,Lib.toList_data,Lib.toList_data]
   have key:∀(x:List UInt8),t.data.toList=x->(x=s.data.toList↔s.data.toList=x):=λx _=>eq_comm
   match j,hl with
   |0,_=>
    obtain rfl:t=⟨#[110,111,114,109,97,108]⟩:=(Option.some.inj ht).symm
    have e:(⟨#[110,111,114,109,97,108]⟩:ByteArray).data.toList=Ps.mK:=rfl
    rw[e]
    unfold prM
    constructor
    ·intro h;rw[if_pos h.symm]
    ·intro h
     by_cases hc:s.data.toList=Ps.mK
     ·exact hc.symm
     ·rw[if_neg hc]at h
      split at h
      ·cases h
      ·split at h<;>cases h
   |1,_=>
    obtain rfl:t=⟨#[104,105,103,104]⟩:=(Option.some.inj ht).symm
    have e:(⟨#[104,105,103,104]⟩:ByteArray).data.toList=Ps.BP:=rfl
    rw[e]
    unfold prM
    constructor
    ·intro h
     rw[<-h,if_neg (by decide),if_pos rfl]
    ·intro h
     split at h
     ·cases h
     ·split at h
      ·rename_i hc;exact hc.symm
      ·split at h<;>cases h
   |2,_=>
    obtain rfl:t=⟨#[117,114,103,101,110,116]⟩:=(Option.some.inj ht).symm
    have e:(⟨#[117,114,103,101,110,116]⟩:ByteArray).data.toList=Ps.qQ:=rfl
    rw[e]
    unfold prM
    constructor
    ·intro h
     rw[<-h,if_neg (by decide),if_neg (by decide),if_pos rfl]
    ·intro h
     split at h
     ·cases h
     ·split at h
      ·cases h
      ·split at h
       ·rename_i hc;exact hc.symm
       ·cases h
  ·unfold prM at hi
   split at hi
   ·cases hi;decide
   ·split at hi
    ·cases hi;decide
    ·split at hi
     ·cases hi;decide
     ·cases hi
theorem Ci (w:World)(r sb p:Nat)(P:World->Prop)(_h6:p<6)(hi:(p:Int)<6)(hc:w.cell? ⟨sb,p,none⟩=some (.bool true))
 (n1:Calls Tryz.prog 24 #[.pointer (some ⟨r,0,none⟩),.int .i64 7] w λe W'=>e=.returned (.tuple #[])/\P W'):
 Calls Tryz.prog 137 #[.pointer (some ⟨r,0,none⟩),.pointer (some ⟨sb,0,none⟩),.int .i64 p] w λe W'=>e=.returned (.bool false)/\P W':=by
 go_enter Tryz.func137,Tryz.ntmps137
 go_wp2_with fail
 refine n1.mono ?_
 rintro e w1 ⟨rfl,hp⟩
 clear n1
 go_wp2_with fail
 go_ret
 exact⟨rfl,hp⟩
theorem JP (w:World)(r sb p tb n cap a:Nat)(o e0:Int)(cs:Array Value)(t:TypeId)(_h6:p<6)(hi:(p:Int)<6)(hrow:w.heap[sb]? =some (.cells cs t (0,0)))(hcp:cs[p]? =some (.bool false))(hne:sb≠r)
 (hr:w.heap[r]? =some (.cells (bK tb n cap a o e0) 68 (0,0))) (hw1:wrap64 ((a:Int)+1)=((a+1:Nat):Int)):
 Calls Tryz.prog 137 #[.pointer (some ⟨r,0,none⟩),.pointer (some ⟨sb,0,none⟩),.int .i64 p] w λe W'=>e=.returned (.bool true)/\W'.heap[r]? =some (.cells (bK tb n cap (a+1) o e0) 68 (0,0))/\W'.heap[sb]? =some (.cells (cs.setIfInBounds p (.bool true)) t (0,0))/\Tch r sb w W':=by
 have hc:w.cell? ⟨sb,p,none⟩=some (.bool false):=by rw[cell_of_row _ _ _ _ _ _ hrow];exact hcp
 have fc:=aJ p hrow
 obtain⟨w2,hw2⟩:∃w2,w2=w.setCell ⟨sb,p,none⟩ (.bool true):=⟨_,rfl⟩
 have hT:Tch sb sb w w2:=by rw[hw2];exact(Tch.refl _ _ _).setCell p _
 have hr2:w2.heap[r]? =some (.cells (bK tb n cap a o e0) 68 (0,0)):=(hT.block r (Array.getElem?_eq_some_iff.1 hr).1 (Ne.symm hne) (Ne.symm hne)).trans hr
 have hs2:w2.heap[sb]? =some (.cells (cs.setIfInBounds p (.bool true)) t (0,0)):=by rw[hw2];exact aN w sb p _ _ _ hrow
 have k1:=(cK hr2).2.1
 have f1:=aJ 1 hr2
 have HT:=Lib.hid hT
 have HR2:=Lib.hid hr2
 have HS2:=Lib.hid hs2
 have HW2:=Lib.hid hw2
 clear hrow hcp hr hT hr2 hs2
 go_enter Tryz.func137,Tryz.ntmps137
 rw[hw2]at k1 f1
 clear hw2
 go_wp2_with fail
 go_ret
 rw[<-HW2.out]
 have hz:Tch r r w2 (w2.setCell ⟨r,1,none⟩ (.int .i64 ((a+1:Nat):Int))):=(Tch.refl _ _ _).setCell 1 _
 refine⟨rfl,?_,?_,?_⟩
 ·exact aN w2 r 1 _ _ _ HR2.out
 ·exact(hz.block sb (Array.getElem?_eq_some_iff.1 HS2.out).1 hne hne).trans HS2.out
 ·exact HT.out.right.trans hz.left
end Go.Proofs.YthijakidnkhbnaaGreatDoor
namespace Go.Proofs.YthijakidnkhbnaaGreatDoor.Ps
open Go
def Res {α:Type}(p:P α)(st st':St)(x:α):Prop:=match st with
 | .error e=>st'=.error e
 | .ok a=>match st' with
   | .ok b=>p a=.ok (x,b)
   | .error e=>p a=.error e
theorem Res.of_step {α:Type}(p:P α)(z:α)(st:St):Res p st (step p z st).2 (step p z st).1:=by
 cases st with
 |error e=>rfl
 |ok a=>
  unfold Res step
  cases h:p a with
  |error e=>simp[h]
  |ok x=>obtain⟨x,b⟩:=x;simp[h]
theorem Res.pure {α:Type}(x:α)(st:St):Res (bO x) st st x:=by cases st<;>rfl
theorem Res.bind {α β:Type}{m:P α}{f:α->P β}{st st1 st2:St}{y:α}{x:β}(h1:Res m st st1 y)(h2:Res (f y) st1 st2 x):Res (bind' m f) st st2 x:=by
 cases st with
 |error e=>
  obtain rfl:st1=.error e:=h1
  exact h2
 |ok a=>
  cases st1 with
  |error e=>
   obtain rfl:st2=.error e:=h2
   exact dK h1
  |ok b=>
   have e1:bind' m f a=f y b:=bind_ok h1
   cases st2 with
   |error e=>show bind' m f a=_;rw[e1];exact h2
   |ok c=>show bind' m f a=_;rw[e1];exact h2
theorem Res.mono {α:Type}{p q:P α}{st st':St}{x:α}(h:Res p st st' x)(he:∀a,st=.ok a->p a=q a):Res q st st' x:=by
 cases st with
 |error e=>exact h
 |ok a=>unfold Res at h⊢;simp only[<-he a rfl];exact h
def OpI (E:Env)(l:List Tok)(i0:Ins)(st0 st:St)(s:Seen)(i:Ins):Prop:=match st0 with
 | .error e=>st=.error e
 | .ok a0=>match st with
   | .ok a=>∃f,l.length+1<=a+f/\options E l (l.length+1) {} i0 a0=options E l f s i a
   | .error e=>options E l (l.length+1) {} i0 a0=.error e
theorem OpI.start (E:Env)(l:List Tok)(i0:Ins)(st0:St):OpI E l i0 st0 st0 {} i0:=by
 cases st0 with
 |error e=>rfl
 |ok a=>exact⟨l.length+1,by omega,rfl⟩
theorem OpI.res {E:Env}{l:List Tok}{i0 i:Ins}{st0 st:St}{s:Seen}(h:OpI E l i0 st0 st s i)(hend:bA l st=false):Res (options E l (l.length+1) {} i0) st0 st i:=by
 cases st0 with
 |error e=>exact h
 |ok a0=>
  cases st with
  |error e=>exact h
  |ok a=>
   obtain⟨f,hf,h⟩:=h
   show options E l (l.length+1) {} i0 a0=.ok (i,a)
   have hle:l.length<=a:=by simpa[bA]using hend
   rw[h]
   cases f with
   |zero=>rfl
   |succ f=>simp only[options,if_pos hle]
theorem OpI.round {E:Env}{l:List Tok}{i0 i:Ins}{st0 st':St}{a:Nat}{s s':Seen}{i':Ins}(h:OpI E l i0 st0 (.ok a) s i)(hlt:a<l.length)
 (hr:∀f,match st' with| .ok b=>a<b/\options E l (f+1) s i a=options E l f s' i' b| .error e=>options E l (f+1) s i a=.error e):OpI E l i0 st0 st' s' i':=by
 cases st0 with
 |error e=>cases h
 |ok a0=>
  obtain⟨f,hf,h⟩:=h
  obtain⟨f,rfl⟩:∃g,f=g+1:=⟨f-1,by omega⟩
  have hr:=hr f
  cases st' with
  |error e=>exact h.trans hr
  |ok b=>exact⟨f,by omega,h.trans hr.2⟩
theorem OpI.prioDup {E:Env}{l:List Tok}{i0 i:Ins}{st0:St}{a:Nat}{s:Seen}{p:Int}(h:OpI E l i0 st0 (.ok a) s i)(hlt:a<l.length)(hp:prio (aW l a).data.toList=some p)(hs:s.prio=true)(s':Seen)(i':Ins):OpI E l i0 st0 (.error (aT l a,7)) s' i':=
 h.round hlt λf=>by simp only[options,if_neg (Nat.not_le.2 hlt),hp,hs,if_true];rfl
theorem OpI.prioOk {E:Env}{l:List Tok}{i0 i:Ins}{st0:St}{a:Nat}{s:Seen}{p:Int}(h:OpI E l i0 st0 (.ok a) s i)(hlt:a<l.length)(hp:prio (aW l a).data.toList=some p)(hs:s.prio=false):OpI E l i0 st0 (.ok (a+1)) {s with prio:=true} {i with priority:=p}:=
 h.round hlt λf=>⟨by omega,by simp only[options,if_neg (Nat.not_le.2 hlt),hp,hs,if_false,Bool.false_eq_true]⟩
theorem OpI.holdDup {E:Env}{l:List Tok}{i0 i:Ins}{st0:St}{a:Nat}{s:Seen}(h:OpI E l i0 st0 (.ok a) s i)(hlt:a<l.length)(hp:(aW l a).data.toList=fV)(hs:s.hold=true)(s':Seen)(i':Ins):OpI E l i0 st0 (.error (aT l a,7)) s' i':=
 h.round hlt λf=>by
  simp only[options,if_neg (Nat.not_le.2 hlt),hp,show prio fV=none from by decide,show¬fV=bB from by decide,hs,if_true,if_false];rfl
theorem OpI.holdOk {E:Env}{l:List Tok}{i0 i:Ins}{st0:St}{a:Nat}{s:Seen}(h:OpI E l i0 st0 (.ok a) s i)(hlt:a<l.length)(hp:(aW l a).data.toList=fV)(hs:s.hold=false):OpI E l i0 st0 (.ok (a+1)) {s with hold:=true} {i with hold:=true}:=
 h.round hlt λf=>⟨by omega,by simp only[options,if_neg (Nat.not_le.2 hlt),hp,show prio fV=none from by decide,show¬fV=bB from by decide,hs,if_true,if_false,Bool.false_eq_true]⟩
theorem OpI.resDup {E:Env}{l:List Tok}{i0 i:Ins}{st0:St}{a:Nat}{s:Seen}(h:OpI E l i0 st0 (.ok a) s i)(hlt:a<l.length)(hp:(aW l a).data.toList=dX)(hs:s.res=true)(s':Seen)(i':Ins):OpI E l i0 st0 (.error (aT l a,7)) s' i':=
 h.round hlt λf=>by
  simp only[options,if_neg (Nat.not_le.2 hlt),hp,show prio dX=none from by decide,show¬dX=bB from by decide,show¬dX=fV from by decide,hs,if_true,if_false];rfl
theorem OpI.resOk {E:Env}{l:List Tok}{i0 i:Ins}{st0:St}{a:Nat}{s:Seen}(h:OpI E l i0 st0 (.ok a) s i)(hlt:a<l.length)(hp:(aW l a).data.toList=dX)(hs:s.res=false):OpI E l i0 st0 (.ok (a+1)) {s with res:=true} {i with reserve:=true}:=
 h.round hlt λf=>⟨by omega,by simp only[options,if_neg (Nat.not_le.2 hlt),hp,show prio dX=none from by decide,show¬dX=bB from by decide,show¬dX=fV from by decide,hs,if_true,if_false,Bool.false_eq_true]⟩
theorem OpI.partDup {E:Env}{l:List Tok}{i0 i:Ins}{st0:St}{a:Nat}{s:Seen}(h:OpI E l i0 st0 (.ok a) s i)(hlt:a<l.length)(hp:(aW l a).data.toList=bB)(hs:s.part=true)(s':Seen)(i':Ins):OpI E l i0 st0 (.error (aT l a,7)) s' i':=
 h.round hlt λf=>by
  simp only[options,if_neg (Nat.not_le.2 hlt),hp,show prio bB=none from by decide,hs,if_true];rfl
theorem eY {α:Type}{l:List Tok}{acc:ByteArray->α×Int}{ks:List Int}{a b:Nat}{x:α}(h:take l acc ks a=.ok (x,b)):b=a+1:=by
 unfold take at h
 split at h
 ·cases h
 ·split at h
  ·split at h
   ·cases h;rfl
   ·cases h
  ·cases h
theorem OpI.partOk {E:Env}{l:List Tok}{i0 i:Ins}{st0:St}{a:Nat}{s:Seen}(h:OpI E l i0 st0 (.ok a) s i)(hlt:a<l.length)(hp:(aW l a).data.toList=bB)(hs:s.part=false):OpI E l i0 st0 (step (quantity E l) 0 (.ok (a+1))).2 {s with part:=true} {i with partial_:=true,minLot:=(step (quantity E l) 0 (.ok (a+1))).1}:=
 h.round hlt λf=>by
  have e:options E l (f+1) s i a=bind' (quantity E l) (λn=>options E l f {s with part:=true} {i with partial_:=true,minLot:=n}) (a+1):=by
   simp only[options,if_neg (Nat.not_le.2 hlt),hp,show prio bB=none from by decide,hs,if_true,if_false,Bool.false_eq_true]
  cases hq:quantity E l (a+1)with
  |error er=>rw[aX hq];exact e.trans (dK hq)
  |ok x=>
   obtain⟨x,b⟩:=x
   rw[step_ok hq]
   have:=eY hq
   exact⟨by omega,e.trans (bind_ok hq)⟩
theorem OpI.link {E:Env}{l:List Tok}{i0 i:Ins}{st0:St}{a:Nat}{s:Seen}(h:OpI E l i0 st0 (.ok a) s i)(hlt:a<l.length)(ty:Int)(hp:((aW l a).data.toList=lJ/\ty=0)\/((aW l a).data.toList=iQ/\ty=1)):OpI E l i0 st0 (step (ref E l) ⟨#[]⟩ (.ok (a+1))).2 s {i with links:=i.links++[⟨ty,(step (ref E l) ⟨#[]⟩ (.ok (a+1))).1⟩]}:=
 h.round hlt λf=>by
  have e:options E l (f+1) s i a=bind' (ref E l) (λr=>options E l f s {i with links:=i.links++[⟨ty,r⟩]}) (a+1):=by
   rcases hp with⟨hp,rfl⟩|⟨hp,rfl⟩
   ·simp only[options,if_neg (Nat.not_le.2 hlt),hp,show prio lJ=none from by decide,show¬lJ=bB from by decide,show¬lJ=fV from by decide,show¬lJ=dX from by decide,if_true,if_false]
   ·simp only[options,if_neg (Nat.not_le.2 hlt),hp,show prio iQ=none from by decide,show¬iQ=bB from by decide,show¬iQ=fV from by decide,show¬iQ=dX from by decide,show¬iQ=lJ from by decide,if_true,if_false]
  cases hq:ref E l (a+1)with
  |error er=>rw[aX hq];exact e.trans (dK hq)
  |ok x=>
   obtain⟨x,b⟩:=x
   rw[step_ok hq]
   have hq2:take l (λs=>(s,if E.valid 2 s then 0 else 6)) [1,2,4] (a+1)=.ok (x,b):=hq
   have:=eY hq2
   exact⟨by omega,e.trans (bind_ok hq)⟩
theorem OpI.none {E:Env}{l:List Tok}{i0 i:Ins}{st0:St}{a:Nat}{s:Seen}(h:OpI E l i0 st0 (.ok a) s i)(hlt:a<l.length)(hp:prio (aW l a).data.toList=.none)(h1:(aW l a).data.toList≠bB)(h2:(aW l a).data.toList≠fV)(h3:(aW l a).data.toList≠dX)(h4:(aW l a).data.toList≠lJ)(h5:(aW l a).data.toList≠iQ)(s':Seen)(i':Ins):OpI E l i0 st0 (.error (aT l a,30)) s' i':=
 h.round hlt λf=>by
  simp only[options,if_neg (Nat.not_le.2 hlt),hp,if_neg h1,if_neg h2,if_neg h3,if_neg h4,if_neg h5];rfl
def ChI (E:Env)(l:List Tok)(i0:Amd)(st0 st:St)(s:Seen)(i:Amd):Prop:=match st0 with
 | .error e=>st=.error e
 | .ok a0=>match st with
   | .ok a=>∃f,l.length+1<=a+f/\changes E l (l.length+1) {} i0 a0=changes E l f s i a
   | .error e=>changes E l (l.length+1) {} i0 a0=.error e
theorem ChI.start (E:Env)(l:List Tok)(i0:Amd)(st0:St):ChI E l i0 st0 st0 {} i0:=by
 cases st0 with
 |error e=>rfl
 |ok a=>exact⟨l.length+1,by omega,rfl⟩
theorem ChI.res {E:Env}{l:List Tok}{i0 i:Amd}{st0 st:St}{s:Seen}(h:ChI E l i0 st0 st s i)(hend:bA l st=false):Res (changes E l (l.length+1) {} i0) st0 st i:=by
 cases st0 with
 |error e=>exact h
 |ok a0=>
  cases st with
  |error e=>exact h
  |ok a=>
   obtain⟨f,hf,h⟩:=h
   show changes E l (l.length+1) {} i0 a0=.ok (i,a)
   have hle:l.length<=a:=by simpa[bA]using hend
   rw[h]
   cases f with
   |zero=>rfl
   |succ f=>simp only[changes,if_pos hle]
theorem ChI.round {E:Env}{l:List Tok}{i0 i:Amd}{st0 st':St}{a:Nat}{s s':Seen}{i':Amd}(h:ChI E l i0 st0 (.ok a) s i)(hlt:a<l.length)
 (hr:∀f,match st' with| .ok b=>a<b/\changes E l (f+1) s i a=changes E l f s' i' b| .error e=>changes E l (f+1) s i a=.error e):ChI E l i0 st0 st' s' i':=by
 cases st0 with
 |error e=>cases h
 |ok a0=>
  obtain⟨f,hf,h⟩:=h
  obtain⟨f,rfl⟩:∃g,f=g+1:=⟨f-1,by omega⟩
  have hr:=hr f
  cases st' with
  |error e=>exact h.trans hr
  |ok b=>exact⟨f,by omega,h.trans hr.2⟩
theorem ChI.prioDup {E:Env}{l:List Tok}{i0 i:Amd}{st0:St}{a:Nat}{s:Seen}{p:Int}(h:ChI E l i0 st0 (.ok a) s i)(hlt:a<l.length)(hp:prio (aW l a).data.toList=some p)(hs:s.prio=true)(s':Seen)(i':Amd):ChI E l i0 st0 (.error (aT l a,7)) s' i':=
 h.round hlt λf=>by simp only[changes,if_neg (Nat.not_le.2 hlt),hp,hs,if_true];rfl
theorem ChI.prioOk {E:Env}{l:List Tok}{i0 i:Amd}{st0:St}{a:Nat}{s:Seen}{p:Int}(h:ChI E l i0 st0 (.ok a) s i)(hlt:a<l.length)(hp:prio (aW l a).data.toList=some p)(hs:s.prio=false):ChI E l i0 st0 (.ok (a+1)) {s with prio:=true} {i with hasPriority:=true,priority:=p}:=
 h.round hlt λf=>⟨by omega,by simp only[changes,if_neg (Nat.not_le.2 hlt),hp,hs,if_false,Bool.false_eq_true]⟩
theorem ChI.partDup {E:Env}{l:List Tok}{i0 i:Amd}{st0:St}{a:Nat}{s:Seen}(h:ChI E l i0 st0 (.ok a) s i)(hlt:a<l.length)(hp:(aW l a).data.toList=bB)(hs:s.part=true)(s':Seen)(i':Amd):ChI E l i0 st0 (.error (aT l a,7)) s' i':=
 h.round hlt λf=>by
  simp only[changes,if_neg (Nat.not_le.2 hlt),hp,show prio bB=none from by decide,hs,if_true];rfl
theorem ChI.partOk {E:Env}{l:List Tok}{i0 i:Amd}{st0:St}{a:Nat}{s:Seen}(h:ChI E l i0 st0 (.ok a) s i)(hlt:a<l.length)(hp:(aW l a).data.toList=bB)(hs:s.part=false):ChI E l i0 st0 (step (quantity E l) 0 (.ok (a+1))).2 {s with part:=true} {i with hasPartial:=true,partial_:=true,minLot:=(step (quantity E l) 0 (.ok (a+1))).1}:=
 h.round hlt λf=>by
  have e:changes E l (f+1) s i a=bind' (quantity E l) (λn=>changes E l f {s with part:=true} {i with hasPartial:=true,partial_:=true,minLot:=n}) (a+1):=by
   simp only[changes,if_neg (Nat.not_le.2 hlt),hp,show prio bB=none from by decide,hs,if_true,if_false,Bool.false_eq_true]
  cases hq:quantity E l (a+1)with
  |error er=>rw[aX hq];exact e.trans (dK hq)
  |ok x=>
   obtain⟨x,b⟩:=x
   rw[step_ok hq]
   have:=eY hq
   exact⟨by omega,e.trans (bind_ok hq)⟩
theorem ChI.wholeDup {E:Env}{l:List Tok}{i0 i:Amd}{st0:St}{a:Nat}{s:Seen}(h:ChI E l i0 st0 (.ok a) s i)(hlt:a<l.length)(hp:(aW l a).data.toList=iB)(hs:s.part=true)(s':Seen)(i':Amd):ChI E l i0 st0 (.error (aT l a,7)) s' i':=
 h.round hlt λf=>by
  simp only[changes,if_neg (Nat.not_le.2 hlt),hp,show prio iB=none from by decide,show¬iB=bB from by decide,hs,if_true,if_false];rfl
theorem ChI.wholeOk {E:Env}{l:List Tok}{i0 i:Amd}{st0:St}{a:Nat}{s:Seen}(h:ChI E l i0 st0 (.ok a) s i)(hlt:a<l.length)(hp:(aW l a).data.toList=iB)(hs:s.part=false):ChI E l i0 st0 (.ok (a+1)) {s with part:=true} {i with hasPartial:=true}:=
 h.round hlt λf=>⟨by omega,by simp only[changes,if_neg (Nat.not_le.2 hlt),hp,show prio iB=none from by decide,show¬iB=bB from by decide,hs,if_true,if_false,Bool.false_eq_true]⟩
theorem ChI.amountDup {E:Env}{l:List Tok}{i0 i:Amd}{st0:St}{a:Nat}{s:Seen}(h:ChI E l i0 st0 (.ok a) s i)(hlt:a<l.length)(hp:(aW l a).data.toList=dY)(hs:s.amount=true)(s':Seen)(i':Amd):ChI E l i0 st0 (.error (aT l a,7)) s' i':=
 h.round hlt λf=>by
  simp only[changes,if_neg (Nat.not_le.2 hlt),hp,show prio dY=none from by decide,show¬dY=bB from by decide,show¬dY=iB from by decide,hs,if_true,if_false];rfl
theorem ChI.amountOk {E:Env}{l:List Tok}{i0 i:Amd}{st0:St}{a:Nat}{s:Seen}(h:ChI E l i0 st0 (.ok a) s i)(hlt:a<l.length)(hp:(aW l a).data.toList=dY)(hs:s.amount=false):ChI E l i0 st0 (step (cash E l) 0 (.ok (a+1))).2 {s with amount:=true} {i with hasAmount:=true,amount:=(step (cash E l) 0 (.ok (a+1))).1}:=
 h.round hlt λf=>by
  have e:changes E l (f+1) s i a=bind' (cash E l) (λn=>changes E l f {s with amount:=true} {i with hasAmount:=true,amount:=n}) (a+1):=by
   simp only[changes,if_neg (Nat.not_le.2 hlt),hp,show prio dY=none from by decide,show¬dY=bB from by decide,show¬dY=iB from by decide,hs,if_true,if_false,Bool.false_eq_true]
  cases hq:cash E l (a+1)with
  |error er=>rw[aX hq];exact e.trans (dK hq)
  |ok x=>
   obtain⟨x,b⟩:=x
   rw[step_ok hq]
   have:=eY hq
   exact⟨by omega,e.trans (bind_ok hq)⟩
theorem ChI.dayDup {E:Env}{l:List Tok}{i0 i:Amd}{st0:St}{a:Nat}{s:Seen}(h:ChI E l i0 st0 (.ok a) s i)(hlt:a<l.length)(hp:(aW l a).data.toList=iY)(hs:s.day=true)(s':Seen)(i':Amd):ChI E l i0 st0 (.error (aT l a,7)) s' i':=
 h.round hlt λf=>by
  simp only[changes,if_neg (Nat.not_le.2 hlt),hp,show prio iY=none from by decide,show¬iY=bB from by decide,show¬iY=iB from by decide,show¬iY=dY from by decide,hs,if_true,if_false];rfl
theorem ChI.dayOk {E:Env}{l:List Tok}{i0 i:Amd}{st0:St}{a:Nat}{s:Seen}(h:ChI E l i0 st0 (.ok a) s i)(hlt:a<l.length)(hp:(aW l a).data.toList=iY)(hs:s.day=false):ChI E l i0 st0 (step (day E l) 0 (.ok (a+1))).2 {s with day:=true} {i with hasSettleDay:=true,settleDay:=(step (day E l) 0 (.ok (a+1))).1}:=
 h.round hlt λf=>by
  have e:changes E l (f+1) s i a=bind' (day E l) (λn=>changes E l f {s with day:=true} {i with hasSettleDay:=true,settleDay:=n}) (a+1):=by
   simp only[changes,if_neg (Nat.not_le.2 hlt),hp,show prio iY=none from by decide,show¬iY=bB from by decide,show¬iY=iB from by decide,show¬iY=dY from by decide,hs,if_true,if_false,Bool.false_eq_true]
  cases hq:day E l (a+1)with
  |error er=>rw[aX hq];exact e.trans (dK hq)
  |ok x=>
   obtain⟨x,b⟩:=x
   rw[step_ok hq]
   have:=eY hq
   exact⟨by omega,e.trans (bind_ok hq)⟩
theorem ChI.none {E:Env}{l:List Tok}{i0 i:Amd}{st0:St}{a:Nat}{s:Seen}(h:ChI E l i0 st0 (.ok a) s i)(hlt:a<l.length)(hp:prio (aW l a).data.toList=.none)(h1:(aW l a).data.toList≠bB)(h2:(aW l a).data.toList≠iB)(h3:(aW l a).data.toList≠dY)(h4:(aW l a).data.toList≠iY)(s':Seen)(i':Amd):ChI E l i0 st0 (.error (aT l a,30)) s' i':=
 h.round hlt λf=>by
  simp only[changes,if_neg (Nat.not_le.2 hlt),hp,if_neg h1,if_neg h2,if_neg h3,if_neg h4];rfl
end Go.Proofs.YthijakidnkhbnaaGreatDoor.Ps
namespace Go.Proofs.YthijakidnkhbnaaGreatDoor
open Go.RowKit
theorem nz {w:World}(t ty e:TypeId)(i:TypeInfo)(z:Value)(size bytes:Nat)(ht:Tryz.prog.underlying t=some (.slice e))(hi:Tryz.prog.info? e=some i)(hz:i.zero=some z)
 (hsize:i.size=size) (hby:i.bytes=bytes) (hzs:z.cells.size=size) (hsz:0<size) (base:Nat) (v:Value) (n:Nat) (xs:List Value) (hown:w.ownsRow base e size v n xs)
 (a2:Option Addr) (m c:Nat) (news:List Value) (hl:news.length=m*size) (hnews:∀ad,a2=some ad->∀j u,news[j]? =some u->w.cell? (ad.add j)=some u) (h0:a2=none->m=0) (h1:∀u∈news,u.oneCell'=true)
 (h63:n+m<=maxLen) (hbytes:(n+m)*bytes<=140737488355328) (hbase:base<=w.heap.size):
 ∃v' w',(Builtin.append_ #[t,t] ty #[v,.slice a2 m c]).run Tryz.prog w=.ok v' w'/\w'.ownsRow base e size v' (n+m) (xs++news)/\w.grownBy w' v.ownBlock/\(v'.ownBlock=v.ownBlock\/v'.ownBlock=some w.heap.size):=by
 cases a2 with
 |none=>
  obtain rfl:=h0 rfl
  obtain rfl:news=[]:=List.eq_nil_of_length_eq_zero (by omega)
  refine⟨v,w,?_,by simpa using hown,⟨rfl,rfl,rfl,Nat.le_refl _,λ_ _ _=>rfl⟩,.inl rfl⟩
  rcases hown.2 with⟨rfl,rfl⟩|⟨g,cap,cur,rfl,_,_,hnc,_⟩
  ·simp[Builtin.append_,run_underlying ht,sizeOf,typeInfo,hi,Builtin.lenOf,Builtin.firstCells]
  ·simp[Builtin.append_,run_underlying ht,sizeOf,typeInfo,hi,Builtin.lenOf,Builtin.firstCells,hnc,storeCells]
 |some ad=>
  obtain⟨v',w',hr,ho,hg,_,hat⟩:=run_append_own_at (P:=Tryz.prog) w base t ty e i z size bytes ht hi hz hsize hby hzs hsz v n xs hown ad m c news hl (hnews ad rfl) h1 h63 hbytes hbase
  exact⟨v',w',hr,ho,hg,hat⟩
theorem dB {w:World}{B:Nat}{t:TypeId}{sz:Nat}{v:Value}{n:Nat}{xs:List Value}(h:w.ownsRow B t sz v n xs):∃a c,v=.slice a n c:=by
 obtain⟨_,⟨rfl,rfl⟩|⟨g,cap,cur,rfl,_⟩⟩:=h
 ·exact⟨none,0,rfl⟩
 ·exact⟨_,cap,rfl⟩
theorem bP {W W':World}{B:Nat}{t:TypeId}{sz:Nat}{v:Value}{n:Nat}{xs:List Value}(h:W.ownsRow B t sz v n xs)(hb:∀g,v.ownBlock=some g->W'.heap[g]? =W.heap[g]?):W'.ownsRow B t sz v n xs:=by
 refine⟨h.1,?_⟩
 rcases h.2 with hn|⟨g,cap,cur,hv,hB,hh,rest⟩
 ·exact .inl hn
 ·exact .inr ⟨g,cap,cur,hv,hB,(hb g (by simp[hv,Value.ownBlock])).trans hh,rest⟩
theorem xY {w:World}{B sz:Nat}{t:TypeId}{v:Value}{n:Nat}{xs:List Value}(h:w.ownsRow B t sz v n xs)(hn:0<n):∃sb cap,v=.slice (some ⟨sb,0,none⟩) n cap/\sb<w.heap.size/\∀(k:Nat) (x:Value),xs[k]? =some x->w.cell? ⟨sb,k,none⟩=some x:=by
 obtain⟨hl,⟨_,h0⟩|⟨g,cap,cur,hv,hB,hh,hnc,hcap,NN,htake⟩⟩:=h
 ·omega
 ·refine⟨g,cap,hv,(Array.getElem?_eq_some_iff.1 hh).1,λk x hk=>?_⟩
  have hk3:k<xs.length:=(List.getElem?_eq_some_iff.1 hk).1
  rw[<-htake,List.getElem?_take_of_lt (by omega)]at hk
  rw[cell_of_row _ _ _ _ _ _ hh]
  simpa using hk
theorem ja {W:World}{B B':Nat}{t:TypeId}{sz:Nat}{v:Value}{n:Nat}{xs:List Value}(h:W.ownsRow B t sz v n xs)(hB:B'<=B):W.ownsRow B' t sz v n xs:=by
 obtain⟨h1,h2|⟨g,cap,cur,hv,hb,r⟩⟩:=h
 ·exact⟨h1,.inl h2⟩
 ·exact⟨h1,.inr ⟨g,cap,cur,hv,Nat.le_trans hB hb,r⟩⟩
theorem DF {P:Program}{ops:Array Oper}{o:Oper}{a:Act}{w:World}{K:Act->World->Prop}{Q:Exit->Act->World->Prop}{E:Prop}(hw:Region.wanted o (yielded ops a.tmps)=true)(k:FuncId)(xo:Array Operand)(ts:Array TypeId)
 (hop:o.op=Op.call {callee:=Callee.value (Operand.func k),args:=xo,argTypes:=ts}) (hent:∀args w,(callFunc k args).run P w=.ok (.enter k args) w) (args:Array Value) (hargs:xo.map a.eval=args)
 (h:Calls P k args w λe w'=>∃v,e=.returned v/\K (a.put o.dst v) w'):if Region.wanted o (yielded ops a.tmps)=true then Oper.wp P o a w K Q else E:=by
 rw[if_pos hw]
 have ha:a.eval (Operand.func k)=.func (.func k) #[] #[]:=rfl
 unfold Oper.wp
 simp[execOp,hop,resolve,invoke,ha,hargs,Deferred.ofValue,hent]
 rw[Oper.upon_enter]
 refine h.mono ?_
 rintro e w' ⟨v,rfl,hK⟩
 exact hK
def dO (ks:List Ps.Link):List Value:=ks.flatMap λx=>[.int .i64 x.type,.string x.ref]
theorem kC (ks:List Ps.Link)(x:Ps.Link):dO (ks++[x])=dO ks++[.int .i64 x.type,.string x.ref]:=by unfold dO;rw[List.flatMap_append];rfl
def ed (w:World)(B:Nat)(lv:Value)(ks:List Ps.Link):Prop:=w.ownsRow B 117 2 lv ks.length (dO ks)
theorem ed.nil (w:World)(B:Nat):ed w B (.slice none 0 0) []:=World.ownsRow_nil _ _ _ _
theorem ed.keep {w w':World}{B:Nat}{lv:Value}{ks:List Ps.Link}(h:ed w B lv ks){r q:Nat}(hT:Tch r q w w')(hr:r<B)(hq:q<B):ed w' B lv ks:=by
 refine bP h λg hg=>?_
 obtain⟨_,⟨rfl,_⟩|⟨g',cap,cur,rfl,hB,hh,_⟩⟩:=h
 ·simp[Value.ownBlock]at hg
 ·obtain rfl:g'=g:=by simpa[Value.ownBlock]using hg
  exact hT.block g' (Array.getElem?_eq_some_iff.1 hh).1 (by omega) (by omega)
theorem ed.slice {w:World}{B:Nat}{lv:Value}{ks:List Ps.Link}(h:ed w B lv ks):∃a c,lv=.slice a ks.length c:=dB h
def aB (i:Ps.Ins)(lv:Value):List Value:=[.string i.ref,.int .i64 i.kind,.string i.sender,.string i.counterparty,.int .i64 i.side,.string i.asset,.int .i64 i.quantity,.int .i64 i.amount,.int .i64 i.tradeDay,.int .i64 i.settleDay,.int .i64 i.priority,
 .bool i.partial_,.int .i64 i.minLot,.bool i.hold,.bool i.reserve,lv]
def aG (a:Ps.Amd):List Value:=[.bool a.hasAmount,.bool a.hasSettleDay,.bool a.hasPriority,.bool a.hasPartial,.int .i64 a.amount,.int .i64 a.settleDay,.int .i64 a.priority,.bool a.partial_,.int .i64 a.minLot]
def aA (q:Ps.Req)(lv:Value):Array Value:=(([Value.int .i64 q.op,.string q.sender,.string q.ref]:List Value)++aB q.ins lv++aG q.amd).toArray
def fC (W0 W:World)(r tb cap q:Nat)(l:List Ps.Tok)(B:Nat)(st:Ps.St)(Q:Ps.Req)(w:World):Prop:=
 r<B/\q<B/\∃lv,bv W0 W r tb cap q l st (aA Q lv) w/\ed w B lv Q.ins.links
theorem fC.step {W0 W:World}{r tb cap q B:Nat}{l:List Ps.Tok}{st st':Ps.St}{Q:Ps.Req}{w w':World}(h:fC W0 W r tb cap q l B st Q w)(h1:fO W0 w' r tb cap l st')(h2:Tch r r w w'):fC W0 W r tb cap q l B st' Q w':=by
 obtain⟨a,b,lv,c,d⟩:=h
 exact⟨a,b,lv,c.step h1 h2,d.keep h2 a a⟩
theorem fC.rd {W0 W:World}{r tb cap q B:Nat}{l:List Ps.Tok}{st:Ps.St}{Q:Ps.Req}{w:World}(h:fC W0 W r tb cap q l B st Q w):fO W0 w r tb cap l st:=by
 obtain⟨a,b,lv,c,d⟩:=h
 exact c.1
theorem fC.store {W0 W:World}{r tb cap q B:Nat}{l:List Ps.Tok}{st:Ps.St}{Q:Ps.Req}{w:World}(h:fC W0 W r tb cap q l B st Q w)(j:Nat)(v:Value)(Q':Ps.Req)(hQ:∀lv,(aA Q lv).setIfInBounds j v=aA Q' lv)(hl:Q'.ins.links=Q.ins.links):fC W0 W r tb cap q l B st Q' (w.setCell ⟨q,j,none⟩ v):=by
 obtain⟨a,b,lv,c,d⟩:=h
 refine⟨a,b,lv,?_,?_⟩
 ·rw[<-hQ lv];exact c.store j v
 ·rw[hl]
  exact d.keep ((Tch.refl q q w).setCell j v) b b
theorem fC.below {W0 W:World}{r tb cap q B:Nat}{l:List Ps.Tok}{st:Ps.St}{Q:Ps.Req}{w w':World}(h:fC W0 W r tb cap q l B st Q w)(hb:Below w.heap.size w w'):fC W0 W r tb cap q l B st Q w':=h.step (h.rd.below hb) (Tch.of_below hb)
theorem fC.drewN {W0 W:World}{r tb cap q B:Nat}{l:List Ps.Tok}{st:Ps.St}{Q:Ps.Req}{w:World}(h:fC W0 W r tb cap q l B st Q w)(k:Nat):fC W0 W r tb cap q l B st Q (w.drewN k):=h.below (below_drewN' (Below.refl _ _) k)
open Go.Proofs.YthijakidnkhbnaaGreatDoor.Ord
open Go.Proofs.YthijakidnkhbnaaGreatDoor.Ev (AV Mem Fr Sh Stop Qof aK dW aM fP gK fmC asI look keep gF)
section
variable {l : List Ps.Tok} {pa : Nat}
def bL (l:List Ps.Tok)(b:Bool)(pa:Nat):Ps.St:=if b=true then Ps.gM l 7 (.ok pa)else .ok pa
def dV (st:Ps.St):Ps.St:=match st with
 | .ok a=>.ok (a+1)
 | .error e=>.error e
theorem LP (fA:pa<l.length)(b:Bool):∀a,bL l b pa=.ok a->a<l.length:=λa h=>by
 cases b
 ·cases h;exact fA
 ·cases h
theorem lY {α:Type}{p:Ps.P α}(hp:∀x k,p (pa+1)=.ok (x,k)->pa<k)(zv:α)(b:Bool):∀a,(Ps.step p zv (dV (bL l b pa))).2=.ok a->pa<a:=λa h=>by
 cases b
 ·have h2:(Ps.step p zv (.ok (pa+1))).2=.ok a:=h
  cases hq:p (pa+1)with
  |ok x=>
   obtain⟨v,k⟩:=x
   rw[Ps.step_ok hq]at h2
   cases h2
   exact hp _ _ hq
  |error er=>rw[Ps.aX hq]at h2;cases h2
 ·cases h
theorem ni {E:Ps.Env}(b:Bool):∀a,(Ps.step (Ps.cash E l) 0 (dV (bL l b pa))).2=.ok a->pa<a:=lY (λx k h=>by have:=Ps.eY h;omega) 0 b
theorem vD {E:Ps.Env}(b:Bool):∀a,(Ps.step (Ps.day E l) 0 (dV (bL l b pa))).2=.ok a->pa<a:=lY (λx k h=>by have:=Ps.eY h;omega) 0 b
theorem qJ {E:Ps.Env}(b:Bool):∀a,(Ps.step (Ps.quantity E l) 0 (dV (bL l b pa))).2=.ok a->pa<a:=lY (λx k h=>by have:=Ps.eY h;omega) 0 b
theorem qI {E:Ps.Env}:∀a,(Ps.step (Ps.ref E l) ⟨#[]⟩ (.ok (pa+1))).2=.ok a->pa+1<a:=λa h=>by
 cases hq:Ps.ref E l (pa+1)with
 |ok x=>
  obtain⟨v,k⟩:=x
  rw[Ps.step_ok hq]at h
  cases h
  have:=Ps.eY (l:=l) (ks:=[1,2,4]) (acc:=λs=>(s,if E.valid 2 s then(0:Int)else 6)) hq
  omega
 |error er=>rw[Ps.aX hq]at h;cases h
theorem Bp {st0:Ps.St}{E:Ps.Env}(hb:Ps.bA l st0=false):Ps.Res (λa=>if l.length<=a then .error (Ps.short l)else Ps.changes E l (l.length+1) {} {} a) st0 (Ps.bJ l st0) {}:=by
 cases st0 with
 |error er=>rfl
 |ok a=>
  have hge:l.length<=a:=by simpa[Ps.bA]using hb
  have h1:Ps.bJ l (.ok a)=.error (Ps.short l):=by simp[Ps.bJ,Nat.not_lt.2 hge]
  rw[h1]
  show(if l.length<=a then _ else _)=_
  rw[if_pos hge]
theorem FV {st0 st:Ps.St}{E:Ps.Env}{i:Ps.Amd}(hb:Ps.bA l st0=true)(h:Ps.Res (Ps.changes E l (l.length+1) {} {}) st0 st i):Ps.Res (λa=>if l.length<=a then .error (Ps.short l)else Ps.changes E l (l.length+1) {} {} a) st0 st i:=
 h.mono λa ha=>by
  subst ha
  have hlt:a<l.length:=by simpa[Ps.bA]using hb
  rw[if_neg (Nat.not_le.2 hlt)]
theorem dQ (b:Bool):∀a,dV (bL l b pa)=.ok a->pa<a:=λa h=>by
 cases b
 ·cases h;omega
 ·cases h
end
inductive RS where
 |at0 (a:Nat)
 |dup (b:Bool) (a:Nat)
 |any (s:Ps.St)
def RS.st (l:List Ps.Tok):RS->Ps.St
 | .at0 a=>.ok a
 | .dup b a=>bL l b a
 | .any s=>s
def RS.bound (l:List Ps.Tok):RS->Prop
 | .at0 a=>a<l.length
 | .dup _ a=>a<l.length
 | .any _=>True
def RS.inc (l:List Ps.Tok):RS->Option RS
 | .at0 a=>some (.any (.ok (a+1)))
 | .dup b a=>some (.any (dV (bL l b a)))
 | .any _=>none
theorem RS.lt {l:List Ps.Tok}{q:RS}{q':RS}(hb:q.bound l)(h:q.inc l=some q'):q'.st l=dV (q.st l)/\q'.bound l/\∀a,q.st l=.ok a->a<l.length:=by
 cases q with
 |at0 a=>cases h;exact⟨rfl,trivial,λb hb2=>by cases hb2;exact hb⟩
 |dup b a=>cases h;exact⟨rfl,trivial,LP hb b⟩
 |any s=>cases h
def OY:List Oper->Option Nat
 |[⟨some d0,.move (.tmp t),_,_,_,none⟩,⟨some d1,.nilCheck (.tmp e0),_,_,_,none⟩,⟨some d2,.fieldAddr t1 (.tmp e1) f1,_,_,_,none⟩,⟨some d3,.load t2 (.tmp e2),_,_,_,none⟩,⟨some d4,.binOp .add t3 (.tmp e3) (.const (.int .i64 c)) t4,_,_,_,none⟩,⟨some d5,.nilCheck (.tmp e4),_,_,_,none⟩,⟨some d6,.fieldAddr t5 (.tmp e5) f2,_,_,_,none⟩,⟨none,.store t6 (.tmp e6) (.tmp e7),_,_,_,none⟩]=>
  if (e0=d0/\e1=d1/\e2=d2/\e3=d3/\e4=d0/\e5=d5/\e6=d6/\e7=d4)/\((t1=81\/t1=68)/\t5=t1/\t2=3/\t3=3/\t4=3/\t6=3/\c=1/\f1=1/\f2=1)then some t else none
 |_=>none
theorem wp_inc {ops:Array Oper}{t n id r:Nat}{a:Act}{w:World}{x:Int}{Q:Exit->Act->World->Prop}(ht:OY ops.toList=some t)(hok:gF n ops=true)(hsz:a.tmps.size=n)(hno:∀o:Oper,o∈ops.toList->o.dst≠some t)(hf:a.tmps[t]? =some (.pointer (some ⟨r,0,none⟩)))(hx:w.cell? ⟨r,1,none⟩=some (.int .i64 x))(hz:w.frozen? ⟨r,1,none⟩=false)
 (hend:∀b:Act,Kept ops a b->Q .normal b (w.setCell ⟨r,1,none⟩ (.int .i64 (IntKind.i64.wrap (x+1))))):(Code.region id ops false).wp Tryz.prog Q a w:=by
 unfold OY at ht
 split at ht
 ·split at ht
  ·rename_i d0 t _ _ _ d1 e0 _ _ _ d2 t1 e1 f1 _ _ _ d3 t2 e2 _ _ _ d4 t3 e3 c t4 _ _ _ d5 e4 _ _ _ d6 t5 e5 f2 _ _ _ t6 e6 e7 _ _ _ hl hc
   obtain⟨⟨rfl,rfl,rfl,rfl,rfl,rfl,rfl,rfl⟩,h1,rfl,rfl,rfl,rfl,rfl,rfl,rfl,rfl⟩:=hc
   cases ht
   have hops:ops=_:=(Array.toArray_toList (xs:=ops)).symm.trans (congrArg List.toArray hl)
   unfold gF at hok
   simp only[Bool.and_eq_true]at hok
   obtain⟨⟨hd,hs⟩,hb⟩:=hok
   subst hops
   obtain⟨vs,hvs⟩:∃vs:List Value,vs=[.pointer (some ⟨r,0,none⟩),.pointer (some ⟨r,0,none⟩),.pointer (some ⟨r,1,none⟩),.int .i64 x,.int .i64 (IntKind.i64.wrap (x+1)),.pointer (some ⟨r,0,none⟩),.pointer (some ⟨r,1,none⟩),undef]:=⟨_,rfl⟩
   refine dw (λk w2=>if k=8 then w2=w.setCell ⟨r,1,none⟩ (.int .i64 (IntKind.i64.wrap (x+1)))else w2=w) 8 vs (by rw[hvs];rfl) rfl hd hs (by rw[hsz];exact hb) (by simp) ?_ ?_
   ·intro ρ hD hrest hco hfu
    have e0:=(hrest t hno).trans (eval_at hf)
    obtain⟨k0,k1,k2,k3,k4,k5,k6,-⟩:=dS hvs hD
    refine mr hvs ?_
    refine⟨aF (B:=λ_=>True) (λw h=>by simpa using h) (λ_ _=>trivial) (λw0=>aP rfl (bG rfl e0)),?_⟩
    refine⟨aF (B:=λ_=>True) (λw h=>by simpa using h) (λ_ _=>trivial) (λw0=>aP rfl (il rfl k0)),?_⟩
    refine⟨aF (B:=λ_=>True) (λw h=>by simpa using h) (λ_ _=>trivial) (λw0=>aP rfl (bS rfl k1 (λw=>by rcases h1 with rfl|rfl<;>go_simp))),?_⟩
    refine⟨aF (B:=λw2=>w2=w) (λw h=>by simpa using h) (λw h=>by simpa using h) (λw0=>aP rfl (bT rfl k2 (λw2 hS=>lZ _ w2 _ (by rw[hS.2];exact hx)))),?_⟩
    refine⟨aF (B:=λ_=>True) (λw h=>by simpa using h) (λ_ _=>trivial) (λw0=>aP rfl (ry rfl k3 (hco _) (λw=>su _ _ _ _ w rfl))),?_⟩
    refine⟨aF (B:=λ_=>True) (λw h=>by simpa using h) (λ_ _=>trivial) (λw0=>aP rfl (il rfl k0)),?_⟩
    refine⟨aF (B:=λ_=>True) (λw h=>by simpa using h) (λ_ _=>trivial) (λw0=>aP rfl (bS rfl k5 (λw=>by rcases h1 with rfl|rfl<;>go_simp))),?_⟩
    refine⟨⟨λ_ w2 hS=>?_,λh=>by have h2:true=false:=h;cases h2⟩,trivial⟩
    have hA:w2=w:=by simpa using hS
    subst hA
    clear hD hrest hend hd hs hb hl hvs hno h1
    have k6':ρ (.tmp _)=.pointer (some ⟨r,1,none⟩):=k6
    have k4':ρ (.tmp _)=.int .i64 (IntKind.i64.wrap (x+1)):=k4
    clear k0 k1 k2 k3 k4 k5 k6 e0
    unfold execOp
    simp only[k6',k4']
    go_simp
    exact⟨rfl,rfl⟩
   ·intro b w2 hS hK hD
    have:w2=w.setCell ⟨r,1,none⟩ (.int .i64 (IntKind.i64.wrap (x+1))):=by simpa using hS
    rw[this]
    exact hend b hK
  ·cases ht
 ·cases ht
def qw (i:Ps.Ins):Nat->Value->Option Ps.Ins
 |0,.string s=>some {i with ref:=s}
 |1,.int .i64 n=>some {i with kind:=n}
 |2,.string s=>some {i with sender:=s}
 |3,.string s=>some {i with counterparty:=s}
 |4,.int .i64 n=>some {i with side:=n}
 |5,.string s=>some {i with asset:=s}
 |6,.int .i64 n=>some {i with quantity:=n}
 |7,.int .i64 n=>some {i with amount:=n}
 |8,.int .i64 n=>some {i with tradeDay:=n}
 |9,.int .i64 n=>some {i with settleDay:=n}
 |10,.int .i64 n=>some {i with priority:=n}
 |11,.bool b=>some {i with partial_:=b}
 |12,.int .i64 n=>some {i with minLot:=n}
 |13,.bool b=>some {i with hold:=b}
 |14,.bool b=>some {i with reserve:=b}
 |_,_=>none
theorem wV {i i':Ps.Ins}{j:Nat}{v:Value}(h:qw i j v=some i')(lv:Value):(aB i lv).toArray.setIfInBounds j v=(aB i' lv).toArray/\i'.links=i.links/\((∃n,v=.int .i64 n)\/(∃b,v=.bool b)\/∃s,v=.string s)/\j<16:=by
 unfold qw at h
 split at h
 all_goals first|(cases h;exact⟨rfl,rfl,by simp,by decide⟩)|cases h
def vS (i:Ps.Amd):Nat->Value->Option Ps.Amd
 |0,.bool b=>some {i with hasAmount:=b}
 |1,.bool b=>some {i with hasSettleDay:=b}
 |2,.bool b=>some {i with hasPriority:=b}
 |3,.bool b=>some {i with hasPartial:=b}
 |4,.int .i64 n=>some {i with amount:=n}
 |5,.int .i64 n=>some {i with settleDay:=n}
 |6,.int .i64 n=>some {i with priority:=n}
 |7,.bool b=>some {i with partial_:=b}
 |8,.int .i64 n=>some {i with minLot:=n}
 |_,_=>none
theorem JF {i i':Ps.Amd}{j:Nat}{v:Value}(h:vS i j v=some i'):(aG i).toArray.setIfInBounds j v=(aG i').toArray/\((∃n,v=.int .i64 n)\/(∃b,v=.bool b)\/∃s,v=.string s)/\j<9:=by
 unfold vS at h
 split at h
 all_goals first|(cases h;exact⟨rfl,by simp,by decide⟩)|cases h
theorem oG {t:TypeId}(ht:t=2\/t=3\/t=4\/t=9)(p:Addr)(w:World)(u v:Value)(h:w.cell? p=some u)(hz:w.frozen? p=false)(hv:(∃n,v=.int .i64 n)\/(∃b,v=.bool b)\/∃s,v=.string s):(Instr.storeAt t (.pointer (some p)) v).run Tryz.prog w=.ok () (w.setCell p v):=by
 rcases hv with⟨n,rfl⟩|⟨b,rfl⟩|⟨s,rfl⟩<;>rcases ht with rfl|rfl|rfl|rfl<;>go_simp
def oZ (t:TypeId)(f:Nat):Option Nat:=if (t=25/\f<16)\/(t=27/\f<9)\/(t=117/\f<2)then some f else if t=29 then[0,1,2,3,19][f]? else none
theorem qG {t:TypeId}{f d:Nat}(h:oZ t f=some d)(b j:Nat)(w:World):(Instr.fieldAt t (.pointer (some ⟨b,j,none⟩)) f).run Tryz.prog w=.ok (.pointer (some ⟨b,j+d,none⟩)) w:=by
 unfold oZ at h
 split at h
 ·rename_i h1
  cases h
  rcases h1 with⟨rfl,h2⟩|⟨rfl,h2⟩|⟨rfl,h2⟩
  all_goals
   rcases f with _|_|_|_|_|_|_|_|_|_|_|_|_|_|_|_|f
   all_goals first|omega|go_simp
 split at h
 ·rename_i h1
  subst h1
  rcases f with _|_|_|_|_|f
  all_goals first|(cases h;go_simp)|cases h
 ·cases h
structure RdB {X:Type}(R:Ps.St->World->Prop)(r:Nat)(B:Ps.St->X->World->Prop):Prop where
 rd:∀{st x w},B st x w->R st w
 go:∀{st st' x w w'},B st x w->R st' w'->Tch r r w w'->B st' x w'
def RdI (l:List Ps.Tok)(r:Nat)(R:Ps.St->World->Prop)(inc:RS->Option RS):Prop:=∀s s',inc s=some s'->s.bound l->s'.bound l/\∀w,R (s.st l) w->∃x:Int,w.cell? ⟨r,1,none⟩=some (.int .i64 x)/\w.frozen? ⟨r,1,none⟩=false/\R (s'.st l) (w.setCell ⟨r,1,none⟩ (.int .i64 (IntKind.i64.wrap (x+1))))
def rdS {X:Type}(l:List Ps.Tok)(B:Ps.St->X->World->Prop)(s:RS×X)(w:World):Prop:=s.1.bound l/\B (s.1.st l) s.2 w
def rdG {X:Type}(inc:RS->Option RS)(offs:TypeId->Nat->Option Nat)(blk:List (Nat×Nat))(ref:Nat->Nat->Value)(rc:RS->FuncId->List AV->Option (Value×Option RS))(loadX:RS×X->TypeId->Nat->Nat->Option AV)(storeX:X->TypeId->Nat->Nat->Value->Option X)(callX:RS×X->FuncId->List AV->Option (Value×Option (RS×X)))(hint:Nat->Option Bool):Mem (RS×X):=
 {blk:=blk,offs:=offs,ref:=ref,load:=loadX
  store:=λs t k j v=>match storeX s.2 t k j v with
   |some x=>some (s.1,x)
   |none=>none
  call:=λs f vs=>match rc s.1 f vs with
   |some (v,none)=>some (v,none)
   |some (v,some q)=>some (v,some (q,s.2))
   |none=>callX s f vs
  hint:=hint
  reg:=λs K ops dr=>if dr=true then none else match OY ops.toList with
   |some t=>match Ev.look (keep K ops) t with
    |some (.p 0 0)=>match inc s.1 with
     |some q=>some ((q,s.2),[])
     |none=>none
    |_=>none
   |none=>none}
section
variable {X : Type} {l : List Ps.Tok} {r : Nat} {inc : RS → Option RS} {R : Ps.St → World → Prop} {B : Ps.St → X → World → Prop} {offs : TypeId → Nat → Option Nat} {blk : List (Nat × Nat)} {ref : Nat → Nat → Value} {rc : RS → FuncId → List AV → Option (Value × Option RS)} {loadX : RS × X → TypeId → Nat → Nat → Option AV} {storeX : X → TypeId → Nat → Nat → Value → Option X} {callX : RS × X → FuncId → List AV → Option (Value × Option (RS × X))} {hint : Nat → Option Bool}
def vz (l:List Ps.Tok)(r:Nat)(R:Ps.St->World->Prop){σ:Type}(M:Mem σ)(q:RS)(f:FuncId)(vs:List AV)(v:Value)(q':RS):Prop:=(∀args w,(callFunc f args).run Tryz.prog w=.ok (.enter f args) w)/\(q.bound l->q'.bound l/\∀w,R (q.st l) w->Calls Tryz.prog f (vs.map (AV.val M)).toArray w λe w'=>e=.returned v/\R (q'.st l) w'/\Tch r r w w')
theorem MG (hB:RdB R r B)(ho:∀t f d,offs t f=some d->∀b j w,(Instr.fieldAt t (.pointer (some ⟨b,j,none⟩)) f).run Tryz.prog w=.ok (.pointer (some ⟨b,j+d,none⟩)) w)
 (hC:∀q f vs v q',rc q f vs=some (v,q')->vz l r R (rdG inc offs blk ref rc loadX storeX callX hint) q f vs v (q'.getD q))
 (hL:∀s t k j v,loadX s t k j=some v->∀w,rdS l B s w->(Instr.loadAt t ((AV.p k j).val (rdG inc offs blk ref rc loadX storeX callX hint))).run Tryz.prog w=.ok (v.val (rdG inc offs blk ref rc loadX storeX callX hint)) w)
 (hS:∀x t k j v x',storeX x t k j v=some x'->∀st w,B st x w->∃w',(Instr.storeAt t ((AV.p k j).val (rdG inc offs blk ref rc loadX storeX callX hint)) v).run Tryz.prog w=.ok () w'/\B st x' w')
 (hX:∀s f vs v s',callX s f vs=some (v,s')->(∀args w,(callFunc f args).run Tryz.prog w=.ok (.enter f args) w)/\(s.1.bound l->∀w,B (s.1.st l) s.2 w->Calls Tryz.prog f (vs.map (AV.val (rdG inc offs blk ref rc loadX storeX callX hint))).toArray w λe w'=>e=.returned v/\rdS l B (s'.getD s) w')):
 Ev.Ok Tryz.prog (rdS l B) (rdG inc offs blk ref rc loadX storeX callX hint):=by
 refine⟨ho,hL,λs t k j v s' h w hw=>?_,λs f vs v s' h=>?_,λ_ _ _ _ h=>(by cases h)⟩
 ·have h2:(match storeX s.2 t k j v with|some x=>some (s.1,x)|none=>none)=some s':=h
  split at h2
  ·rename_i x hx
   cases h2
   obtain⟨w',e1,e2⟩:=hS _ _ _ _ _ _ hx _ w hw.2
   exact⟨w',e1,hw.1,e2⟩
  ·cases h2
 ·have h2:(match rc s.1 f vs with|some (v,none)=>some (v,none)|some (v,some q)=>some (v,some (q,s.2))|none=>callX s f vs)=some (v,s'):=h
  split at h2
  ·rename_i hq
   cases h2
   obtain⟨k1,k2⟩:=hC _ _ _ _ _ hq
   exact⟨k1,λw hw=>((k2 hw.1).2 w (hB.rd hw.2)).mono λe w' h=>⟨h.1,hw.1,hB.go hw.2 h.2.1 h.2.2⟩⟩
  ·rename_i hq
   cases h2
   obtain⟨k1,k2⟩:=hC _ _ _ _ _ hq
   exact⟨k1,λw hw=>((k2 hw.1).2 w (hB.rd hw.2)).mono λe w' h=>⟨h.1,(k2 hw.1).1,hB.go hw.2 h.2.1 h.2.2⟩⟩
  ·obtain⟨k1,k2⟩:=hX _ _ _ _ _ h2
   exact⟨k1,λw hw=>k2 hw.1 w hw.2⟩
theorem FU (hB:RdB R r B)(hI:RdI l r R inc)(hb:blk.getD 0 (0,0)=(r,0)):Ev.kR (rdS l B) (rdG inc offs blk ref rc loadX storeX callX hint):=by
 intro s K ops dr s' nw h n id a w Q hok hF hw hend
 have h2:(if dr=true then none else match OY ops.toList with|some t=>(match Ev.look (keep K ops) t with|some (.p 0 0)=>(match inc s.1 with|some q=>some ((q,s.2),[])|none=>none)|_=>none)|none=>none)=some (s',nw):=h
 split at h2
 ·cases h2
 obtain rfl:dr=false:=by cases dr<;>simp_all
 split at h2
 ·rename_i t ht
  split at h2
  ·rename_i hl
   split at h2
   ·rename_i q hq
    cases h2
    obtain⟨k1,k2⟩:=Ev.gQ hl
    obtain⟨e2,e3⟩:=hI _ _ hq hw.1
    obtain⟨x,c1,c2,c3⟩:=e3 w (hB.rd hw.2)
    have hp:(AV.p 0 0).val (rdG inc offs blk ref rc loadX storeX callX hint)=.pointer (some ⟨r,0,none⟩):=by
     show Value.pointer (some ⟨(blk.getD 0 (0,0)).1,(blk.getD 0 (0,0)).2+0,none⟩)=_
     rw[hb]
    refine wp_inc ht hok hF.size k2 ((hF.look _ _ k1).trans (by rw[hp])) c1 c2 λb hk=>hend b _ ⟨hk.size.trans hF.size,hk.defers.trans hF.defers,λt u hl=>?_⟩ ⟨e2,?_⟩
    ·obtain⟨j1,j2⟩:=Ev.gQ hl
     rw[hk.rest t j2]
     exact hF.look t u j1
    ·exact hB.go hw.2 c3 ((Tch.refl r r w).setCell 1 _)
   ·cases h2
  ·cases h2
 ·cases h2
end
theorem mM {P:Program}{c:Code}{tmps:Array Value}{K:Act->World->Prop}{Q:Exit->Act->World->Prop}{w w':World}(hK:K=c.wp P Q)(hw:w=w')(h:∀a:Act,a.tmps=tmps->a.defers=[]->c.wp P Q a w'):Exit.then K Q .normal ⟨tmps,[]⟩ w:=by
 rw[hK,hw]
 exact h _ rfl rfl
theorem fw {P:Program}{c:Code}{tmps:Array Value}{Q:Exit->Act->World->Prop}{w:World}(h:∀a:Act,a.tmps=tmps->a.defers=[]->c.wp P Q a w):c.wp P Q ⟨tmps,[]⟩ w:=h _ rfl rfl
def tY {β:Type}:List (FuncId×(List AV->Option β))->FuncId->List AV->Option β
 |[],_,_=>none
 |(g,h)::t,f,vs=>if f=g then h vs else tY t f vs
theorem qd {β:Type}{G:FuncId->List AV->β->Prop}:∀{t:List (FuncId×(List AV->Option β))} {f:FuncId} {vs:List AV} {b:β},tY t f vs=some b->(∀x∈t,∀vs b,x.2 vs=some b->G x.1 vs b)->G f vs b
 |[],_,_,_,h,_=>by cases h
 |(g,h1)::t,f,vs,b,h,hG=>by
  unfold tY at h
  split at h
  ·rename_i e;subst e;exact hG (f,h1) List.mem_cons_self vs b h
  ·exact qd h λx hx=>hG x (List.mem_cons_of_mem _ hx)
open Go.RowKit Go.Lib
def yH:List UInt8:=[48,49,50,51,52,53,54,55,56,57]
theorem lX (c:UInt8):yH.contains c=Lx.digit (c.toNat:Int):=by
 have key:∀n:Fin 256,yH.contains (UInt8.ofNat n.val)=Lx.digit ((UInt8.ofNat n.val).toNat:Int):=by decide +kernel
 have:=key ⟨c.toNat,UInt8.toNat_lt c⟩
 simpa using this
theorem ji (p:UInt8->Bool):∀l:List UInt8,l.dropWhile p=[]↔∀x∈l,p x=true
 |[]=>by simp
 |a::l=>by
  rw[List.dropWhile_cons]
  cases h:p a with
  |true=>simp[h,ji p l]
  |false=>simp[h]
theorem jl (p:UInt8->Bool):∀(l:List UInt8),∀x∈l.takeWhile p,p x=true
 |[]=>by simp
 |a::l=>by
  rw[List.takeWhile_cons]
  cases h:p a with
  |true=>
   intro x hx
   rcases List.mem_cons.1 hx with rfl|hx
   ·exact h
   ·exact jl p l x hx
  |false=>simp
theorem Br (l:List UInt8):(Lib.trimS l yH=[])↔(l.all λc=>Lx.digit (c.toNat:Int))=true:=by
 unfold Lib.trimS Lib.trimLeftS
 rw[ji]
 constructor
 ·intro h
  rw[List.all_eq_true]
  intro x hx
  have hr:∀x∈Lib.trimRightS l yH,Lx.digit (x.toNat:Int)=true:=λx hx=>by rw[<-lX];exact h x hx
  rw[Lib.trimRightS]at hr
  rcases List.mem_append.1 (by rw[List.takeWhile_append_dropWhile];exact List.mem_reverse.2 hx:x∈l.reverse.takeWhile (yH.contains ·)++l.reverse.dropWhile (yH.contains ·))with h1|h1
  ·rw[<-lX]
   exact jl _ _ x h1
  ·exact hr x (List.mem_reverse.2 h1)
 ·intro h x hx
  rw[List.all_eq_true]at h
  rw[lX]
  apply h
  rw[Lib.trimRightS]at hx
  have:=List.mem_reverse.1 hx
  exact List.mem_reverse.1 ((List.dropWhile_suffix _).sublist.subset this)
theorem Mw (s:ByteArray)(W:World)(hs:s.size<=9223372036854775807):
 Calls Tryz.prog 86 #[.string s,.string ⟨#[48,49,50,51,52,53,54,55,56,57]⟩] W λe w'=>e=.returned (.string ⟨(Lib.trimS s.data.toList yH).toArray⟩)/\Below W.heap.size W w':=
 Any.strings_Trim_laid Tryz.lays160 (by kernel_rfl) s ⟨#[48,49,50,51,52,53,54,55,56,57]⟩ W hs (by decide) (ascii_of_all (by decide))
theorem Gu (l:List UInt8)(w:World)(hs:l.length<=1048576):
 Calls Tryz.prog 178 #[.string ⟨l.toArray⟩] w λe w'=>e=.returned (.bool (l.all λc=>Lx.digit (c.toNat:Int)))/\Below w.heap.size w w':=by
 have ht:=λW=>Mw ⟨l.toArray⟩ W (by rw[dL];omega)
 simp only at ht
 have HT:Hid ((Lib.trimS l yH=[])↔(l.all λc=>Lx.digit (c.toNat:Int))=true):=Lib.hid (Br l)
 generalize (l.all λc=>Lx.digit (c.toNat:Int))=b at *
 generalize Lib.trimS l yH=t at *
 go_enter Tryz.func178,Tryz.ntmps178
 go_wp2_with fail
 refine(ht _).mono ?_
 rintro e w' ⟨rfl,hb⟩
 go_wp2_with fail
 go_ret
 refine⟨bY ?_,hb⟩
 rw[Bool.eq_iff_iff,<-HT.out]
 simp
structure sH (m:Int)(W:World):Prop where
 maxlen:W.cell? ⟨2,0,none⟩=some (.int .i64 m)
 range:∃te pe,W.cell? ⟨7,0,none⟩=some (.iface te pe)
 syn:∃te pe,W.cell? ⟨6,0,none⟩=some (.iface te pe)
theorem sH.below {m:Int}{W W':World}(h:sH m W)(hb:Below W.heap.size W W'):sH m W':=by
 have t:∀(p:Addr) (v:Value),W.cell? p=some v->p.spot=none->W'.cell? p=some v:=λp v hc hs=>by
  obtain⟨b,o,sp⟩:=p
  cases hs
  exact(hb.cell (p:=⟨b,o,none⟩) (vB hc)).trans hc
 obtain⟨h1,⟨a,b,h2⟩,⟨c,d,h3⟩⟩:=h
 exact⟨t _ _ h1 rfl,⟨a,b,t _ _ h2 rfl⟩,⟨c,d,t _ _ h3 rfl⟩⟩
def Jq (hp:Bool)(r:List UInt8)(u c:ByteArray)(b du dc:Bool):Bool:=
 !b||u.toList.isEmpty||((c.size:Int) !=2)||!du||!dc||(decide (1<(u.size:Int))&&decide (PlainAid.bt u 0=48))||(hp&&(r==[48,46,48,48]))
theorem ug (s:ByteArray)(w:World)(hs:s.size<=1048576):
 Calls Tryz.prog 178 #[.string s] w λe w'=>e=.returned (.bool (s.data.toList.all λc=>Lx.digit (c.toNat:Int)))/\Below w.heap.size w w':=
 Gu s.data.toList w (by rw[<-Lib.size_eq];exact hs)
theorem yA (b:Bool)(U C:List UInt8)(neg:Bool):
 (!b||(ByteArray.mk U.toArray).toList.isEmpty||(((ByteArray.mk C.toArray).size:Int) !=2)||!(U.all λc=>Lx.digit (c.toNat:Int))||!(C.all λc=>Lx.digit (c.toNat:Int))||
  (decide (1<((ByteArray.mk U.toArray).size:Int))&&decide (PlainAid.bt ⟨U.toArray⟩ 0=48))||neg)=
 !(b&&Lx.whole U&&decide (C.length=2)&&Lx.all Lx.digit C&&!neg):=by
 rw[Lib.toList_data,dL,dL]
 cases b with
 |false=>simp
 |true=>
  cases neg with
  |true=>simp
  |false=>
   by_cases h2:C.length=2
   ·have hC:Lx.all Lx.digit C=C.all λc=>Lx.digit (c.toNat:Int):=by
     unfold Lx.all
     cases C with
     |nil=>simp at h2
     |cons a C=>simp
    rw[hC]
    cases U with
    |nil=>simp[Lx.whole,Lx.all]
    |cons x U=>
     have hb:PlainAid.bt ⟨(x::U).toArray⟩ 0=(x.toNat:Int):=(PlainAid.get_bt ⟨(x::U).toArray⟩ 0 (by rw[dL];simp)).symm
     rw[hb]
     unfold Lx.whole Lx.all
     have e48:decide ((x.toNat:Int)=48)=(x==48):=by
      rw[Bool.eq_iff_iff]
      simp only[decide_eq_true_eq,beq_iff_eq]
      rw[<-UInt8.toNat_inj]
      show((x.toNat:Int)=48)↔(x.toNat=48)
      omega
     rw[e48]
     generalize (x::U).all (λc=>Lx.digit (c.toNat:Int))=d1
     generalize C.all (λc=>Lx.digit (c.toNat:Int))=d2
     generalize hq:(x==48)=q
     have hlen:decide (1<(((x::U).length:Nat):Int))=!((x::U).length==1):=by
      rw[Bool.eq_iff_iff];simp
      cases U with
      |nil=>simp
      |cons a U=>simp;omega
     rw[hlen]
     have hh:((x::U).head? ==some 48)=q:=by rw[<-hq];rfl
     rw[hh]
     have h2':((C.length:Int) !=2)=false:=by rw[bne_eq_false_iff_eq];omega
     rw[h2']
     generalize ((x::U).length==1)=o
     simp only[h2,decide_true]
     cases d1<;>cases d2<;>cases q<;>cases o<;>rfl
   ·have h2':((C.length:Int) !=2)=true:=by rw[bne_iff_ne];omega
    simp[h2,h2']
theorem am_neg (l:List UInt8):(Lib.hasPrefix l [45]&&(Lib.trimPrefix l [45]==[48,46,48,48]))=(l==[45,48,46,48,48]):=by
 cases l with
 |nil=>rfl
 |cons a l=>
  by_cases h:a=45
  ·subst h
   simp[Lib.hasPrefix,Lib.trimPrefix]
  ·have h1:Lib.hasPrefix (a::l) [45]=false:=by
    have h45:((45:UInt8)==a)=false:=by rw[beq_eq_false_iff_ne];exactλh'=>h h'.symm
    simp only[Lib.hasPrefix,List.isPrefixOf,h45,Bool.false_and]
   rw[h1]
   symm
   simp[h]
theorem uj (l:List UInt8):
 Jq (Lib.hasPrefix l [45]) (Lib.trimPrefix l [45]) ⟨(Lib.cut (Lib.trimPrefix l [45]) [46]).1.toArray⟩ ⟨(Lib.cut (Lib.trimPrefix l [45]) [46]).2.1.toArray⟩ (Lib.cut (Lib.trimPrefix l [45]) [46]).2.2
  ((Lib.cut (Lib.trimPrefix l [45]) [46]).1.all λc=>Lx.digit (c.toNat:Int)) ((Lib.cut (Lib.trimPrefix l [45]) [46]).2.1.all λc=>Lx.digit (c.toNat:Int))=!Lx.decimal l:=by
 unfold Jq
 rw[am_neg,yA]
 rfl
theorem Cj (w:World)(s:ByteArray)(kd k e0:Int)(b1 b2:Bool)(h1:(e0==0)=b1)(h2:(k==kd)=b2)
 (n1:Calls Tryz.prog 52 #[.string s] w λe w'=>e=.returned (.tuple #[.int .i64 k,.int .i64 e0])/\Below w.heap.size w w'):
 Calls Tryz.prog 163 #[.string s,.int .i64 kd] w λe w'=>e=.returned (.bool (b1&&b2))/\Below w.heap.size w w':=by
 cases b1
 all_goals
  go_enter Tryz.func163,Tryz.ntmps163
  go_wp2_with fail
  refine n1.mono ?_
  rintro e w1 ⟨rfl,hb⟩
  have HB:=Lib.hid hb
  clear n1 hb
  go_wp2_with fail
  go_ret
  exact⟨by simp,HB.out⟩
theorem xX (s:ByteArray)(kd:Int)(w:World)(m:Int)(kb ko kc:Nat)(hs:s.size<=9223372036854775807)(h:kr m kb ko kc w):
 Calls Tryz.prog 163 #[.string s,.int .i64 kd] w λe w'=>e=.returned (.bool (decide (Lx.aI s=(kd,0))))/\Below w.heap.size w w':=by
 refine(Cj w s kd _ _ _ _ rfl rfl (sF s w m kb ko kc hs h)).mono ?_
 rintro e w1 ⟨rfl,hb⟩
 refine⟨congrArg (λb=>Ending.returned (.bool b)) ?_,hb⟩
 rw[Bool.eq_iff_iff,Bool.and_eq_true,beq_iff_eq,beq_iff_eq,decide_eq_true_eq]
 constructor
 ·rintro⟨a,b⟩;exact Prod.ext b a
 ·intro h;rw[h];exact⟨rfl,rfl⟩
theorem Gw (w:World)(s:ByteArray)(n1:Calls Tryz.prog 163 #[.string s,.int .i64 2] w λe w'=>e=.returned (.bool false)/\Below w.heap.size w w'):
 Calls Tryz.prog 168 #[.string s] w λe w'=>e=.returned (.tuple #[.int .i64 0,.int .i64 30])/\Below w.heap.size w w':=by
 go_enter Tryz.func168,Tryz.ntmps168
 go_wp2_with fail
 refine n1.mono ?_
 rintro e w1 ⟨rfl,hb⟩
 have HB:=Lib.hid hb
 clear n1 hb
 go_wp2_with fail
 go_ret2
 exact⟨rfl,HB.out⟩
theorem Hr (w:World)(s:ByteArray)(n1:Calls Tryz.prog 163 #[.string s,.int .i64 3] w λe w'=>e=.returned (.bool false)/\Below w.heap.size w w'):
 Calls Tryz.prog 133 #[.string s] w λe w'=>e=.returned (.tuple #[.int .i64 0,.int .i64 30])/\Below w.heap.size w w':=by
 go_enter Tryz.func133,Tryz.ntmps133
 go_wp2_with fail
 refine n1.mono ?_
 rintro e w1 ⟨rfl,hb⟩
 have HB:=Lib.hid hb
 clear n1 hb
 go_wp2_with fail
 go_ret2
 exact⟨rfl,HB.out⟩
theorem Ig (w:World)(s:ByteArray)(n:Int)(b1 b2:Bool)(h1:decide (n<1)=b1)(h2:decide (1000000000000000<n)=b2)(n1:Calls Tryz.prog 163 #[.string s,.int .i64 2] w λe w'=>e=.returned (.bool true)/\Below w.heap.size w w')
 (n2:Hid (∀w1,Below w.heap.size w w1->Calls Tryz.prog 179 #[.string s,.int .i64 10,.int .i64 64] w1 λe w'=>e=.returned (.tuple #[.int .i64 n,.nilIface])/\Below w1.heap.size w1 w')):
 Calls Tryz.prog 168 #[.string s] w λe w'=>e=.returned (.tuple #[.int .i64 (if b1||b2 then 0 else n),.int .i64 (if b1||b2 then 2 else 0)])/\Below w.heap.size w w':=by
 cases b1
 all_goals cases b2
 all_goals simp only[decide_eq_true_eq,decide_eq_false_iff_not]at h1 h2
 all_goals try (exfalso;omega)
 all_goals
  go_enter Tryz.func168,Tryz.ntmps168
  go_wp2_with fail
  refine n1.mono ?_
  rintro e w1 ⟨rfl,hb⟩
  have HB:=Lib.hid hb
  have m2:=n2.out w1 hb
  clear n1 hb n2
  go_wp2_with fail
  refine m2.mono ?_
  rintro e w2 ⟨rfl,hb⟩
  have HB2:=Lib.hid (HB.out.trans (hb.mono HB.out.size))
  clear m2 hb
  go_wp2_with fail
  go_ret2
  exact⟨rfl,HB2.out⟩
theorem xK (w:World)(s:ByteArray)(n:Int)(n1:Calls Tryz.prog 163 #[.string s,.int .i64 2] w λe w'=>e=.returned (.bool true)/\Below w.heap.size w w')
 (n2:Hid (∀w1,Below w.heap.size w w1->Calls Tryz.prog 179 #[.string s,.int .i64 10,.int .i64 64] w1 λe w'=>(∃te pe,e=.returned (.tuple #[.int .i64 n,.iface te pe]))/\Below w1.heap.size w1 w')):
 Calls Tryz.prog 168 #[.string s] w λe w'=>e=.returned (.tuple #[.int .i64 0,.int .i64 2])/\Below w.heap.size w w':=by
 go_enter Tryz.func168,Tryz.ntmps168
 go_wp2_with fail
 refine n1.mono ?_
 rintro e w1 ⟨rfl,hb⟩
 have HB:=Lib.hid hb
 have m2:=n2.out w1 hb
 clear n1 hb n2
 go_wp2_with fail
 refine m2.mono ?_
 rintro e w2 ⟨⟨te,pe,rfl⟩,hb⟩
 have HB2:=Lib.hid (HB.out.trans (hb.mono HB.out.size))
 clear m2 hb
 go_wp2_with fail
 go_ret2
 exact⟨rfl,HB2.out⟩
def qC (v:Int):Int×Int:=if v<1\/1000000000000000<v then(0,2)else(v,0)
def jY (s:ByteArray):Int×Int:=
 if Lx.aI s=(2,0)then(match Lib.parseIntB 64 s.data.toList with| .ok v=>qC v|_=>(0,2))else(0,30)
theorem FB (v:Int):((if (decide (v<1)||decide (1000000000000000<v))=true then(0:Int)else v),(if (decide (v<1)||decide (1000000000000000<v))=true then(2:Int)else 0))=qC v:=by
 unfold qC
 by_cases h:v<1\/1000000000000000<v
 ·rw[if_pos h,if_pos (by simpa using h),if_pos (by simpa using h)]
 ·rw[if_neg h,if_neg (by simpa using h),if_neg (by simpa using h)]
theorem ps_qty {W0:World}(m:Int)(kb ko kc:Nat)(hx:kr m kb ko kc W0)(ha:sH m W0):nP 168 W0 jY:=by
 refine⟨enters_of Tryz.func168 (by kernel_rfl) rfl,λs hs=>?_,λw s hw hsz=>?_⟩
 ·unfold jY at hs⊢
  split
  ·rw[if_pos (by assumption)]at hs
   split
   ·rename_i v hv
    rw[hv]at hs
    simp only[qC]at hs⊢
    split
    ·rfl
    ·rw[if_neg (by assumption)]at hs;exact absurd rfl hs
   ·rfl
  ·rfl
 ·have n1:=xX s 2 w m kb ko kc (by omega) (hx.below hw)
  by_cases hc:Lx.aI s=(2,0)
  ·rw[decide_eq_true hc]at n1
   have hq:jY s=(match Lib.parseIntB 64 s.data.toList with| .ok v=>qC v|_=>(0,2)):=by unfold jY;rw[if_pos hc]
   have env:∀w1,Below w.heap.size w w1->sH m w1:=λw1 h1=>ha.below (hw.trans (h1.mono hw.size))
   rcases hr:Lib.parseIntB 64 s.data.toList with v|_|_
   ·rw[hr]at hq
    simp only[]at hq
    rw[hq,<-FB v]
    refine Ig w s v _ _ rfl rfl n1 (Lib.hid λw1 h1=>?_)
    refine(Tryz.strconv_ParseInt_10_at64_ok s (by omega) v hr w1).mono ?_
    rintro e w' ⟨rfl,hw'⟩
    refine⟨rfl,?_⟩
    rcases hw' with rfl|⟨t,rfl⟩
    ·exact Below.refl _ _
    ·exact Lib.bytesWorld_below _ _ _
   ·rw[hr]at hq
    simp only[]at hq
    rw[hq]
    refine xK w s 0 n1 (Lib.hid λw1 h1=>?_)
    obtain⟨_,⟨a,b,h2⟩,⟨c,d,h3⟩⟩:=env w1 h1
    refine(Tryz.strconv_ParseInt_10_at64_syntax s (by omega) hr _ w1 h3 (Or.inr ⟨_,_,rfl⟩)).mono ?_
    rintro e w' ⟨N,rfl,_,_,hb⟩
    exact⟨⟨_,_,rfl⟩,hb⟩
   ·rw[hr]at hq
    simp only[]at hq
    rw[hq]
    refine xK w s (Lib.intSat 64 s.data.toList) n1 (Lib.hid λw1 h1=>?_)
    obtain⟨_,⟨a,b,h2⟩,⟨c,d,h3⟩⟩:=env w1 h1
    refine(Tryz.strconv_ParseInt_10_at64_range s (by omega) hr _ w1 h2 (Or.inr ⟨_,_,rfl⟩)).mono ?_
    rintro e w' ⟨N,rfl,_,_,hb⟩
    exact⟨⟨_,_,rfl⟩,hb⟩
  ·rw[decide_eq_false hc]at n1
   have hq:jY s=(0,30):=by unfold jY;rw[if_neg hc]
   rw[hq]
   exact Gw w s n1
def iA:List (ByteArray×Nat):=[(⟨#[112,97,121]⟩,53),(⟨#[100,101,108,105,118,101,114]⟩,54),(⟨#[114,101,99,101,105,118,101]⟩,55),
 (⟨#[112,108,101,100,103,101]⟩,56),(⟨#[114,101,108,101,97,115,101]⟩,57),(⟨#[97,109,101,110,100]⟩,58),
 (⟨#[99,97,110,99,101,108]⟩,59),(⟨#[104,111,108,100]⟩,60),(⟨#[114,101,115,117,109,101]⟩,61)]
def qN:List Value:=iA.flatMap λx=>[.string x.1,.func (.func x.2) #[] #[]]
theorem Jv (w:World):Calls Tryz.prog 22 #[] w λe w'=>e=.returned (.slice (some ⟨w.heap.size,0,none⟩) 9 9)/\w'=w.alloc (.cells qN.toArray 74):=by
 go_enter Tryz.func22,Tryz.ntmps22
 go_wp2_with fail
 go_ret
 exact⟨rfl,rfl⟩
theorem PO:∀(l:List (ByteArray×Nat)) (j:Nat) (x:ByteArray×Nat),l[j]? =some x->(l.flatMap λx=>[Value.string x.1,.func (.func x.2) #[] #[]])[j*2]? =some (.string x.1)/\(l.flatMap λx=>[Value.string x.1,.func (.func x.2) #[] #[]])[j*2+1]? =some (.func (.func x.2) #[] #[])
 |[],j,x,h=>by simp at h
 |y::l,0,x,h=>by
  obtain rfl:y=x:=by simpa using h
  exact⟨rfl,rfl⟩
 |y::l,j+1,x,h=>by
  have ih:=PO l j x (by simpa using h)
  rw[show(j+1)*2=j*2+1+1 from by omega]
  exact ih
theorem Bj (W:World)(r q:Nat)(P1:World->Prop)
 (n1:Calls Tryz.prog 54 #[.pointer (some ⟨r,0,none⟩),.pointer (some ⟨q,0,none⟩)] W λe W'=>e=.returned (.tuple #[])/\P1 W')
 (s1:Hid (∀w,P1 w->∃(x y:ByteArray) (cs:Array Value),w.heap[q]? =some (.cells cs 29 (0,0))/\cs[5]? =some (.string x)/\cs[6]? =some (.string y)/\7<cs.size)):
 Calls Tryz.prog 55 #[.pointer (some ⟨r,0,none⟩),.pointer (some ⟨q,0,none⟩)] W λe W'=>e=.returned (.tuple #[])/\∃(w:World) (x y:ByteArray),P1 w/\w.cell? ⟨q,5,none⟩=some (.string x)/\w.cell? ⟨q,6,none⟩=some (.string y)/\W'=(((w.setCell ⟨q,7,none⟩ (.int .i64 1)).setCell ⟨q,5,none⟩ (.string y)).setCell ⟨q,6,none⟩ (.string x)).drew:=by
 go_enter Tryz.func55,Tryz.ntmps55
 go_wp2_with fail
 refine n1.mono ?_
 rintro e w ⟨rfl,h1⟩
 obtain⟨x,y,cs,hr,hx,hy,hs⟩:=s1.out w h1
 have c5:w.cell? ⟨q,5,none⟩=some (.string x):=by rw[cell_of_row _ _ _ _ _ _ hr];exact hx
 have c6:w.cell? ⟨q,6,none⟩=some (.string y):=by rw[cell_of_row _ _ _ _ _ _ hr];exact hy
 have c7:w.cell? ⟨q,7,none⟩=some cs[7]:=by rw[cell_of_row _ _ _ _ _ _ hr];exact Array.getElem?_eq_getElem hs
 have f5:=aJ 5 hr
 have f6:=aJ 6 hr
 have f7:=aJ 7 hr
 have d5:w.drew.cell? ⟨q,5,none⟩=some (.string x):=c5
 have d6:w.drew.cell? ⟨q,6,none⟩=some (.string y):=c6
 have d7:w.drew.cell? ⟨q,7,none⟩=some cs[7]:=c7
 have g5:w.drew.frozen? ⟨q,5,none⟩=false:=f5
 have g6:w.drew.frozen? ⟨q,6,none⟩=false:=f6
 have g7:w.drew.frozen? ⟨q,7,none⟩=false:=f7
 have H1:=Lib.hid h1
 have HC5:=Lib.hid c5
 have HC6:=Lib.hid c6
 clear n1 s1 hr hx hy h1
 go_wp2_with fail
 go_region_law (fail)
 all_goals
  go_end0
  exact⟨rfl,w,x,y,H1.out,HC5.out,HC6.out,rfl⟩
def jG (D:ByteArray->Int×Int)(s:ByteArray):Int×Int:=if (D s).2=0 then((D s).1,0)else(0,28)
theorem K5 (w:World)(s:ByteArray)(n:Int)(_hw:IntKind.i64.wrap n=n)
 (n1:Calls Tryz.prog 135 #[.string s] w λe w'=>e=.returned (.tuple #[.int .i64 n,.int .i64 0])/\Below w.heap.size w w'):
 Calls Tryz.prog 134 #[.string s] w λe w'=>e=.returned (.tuple #[.int .i64 n,.int .i64 0])/\Below w.heap.size w w':=by
 go_enter Tryz.func134,Tryz.ntmps134
 go_wp2_with fail
 refine n1.mono ?_
 rintro e w1 ⟨rfl,hb⟩
 have HB:=Lib.hid hb
 clear n1 hb
 go_wp2_with fail
 go_ret2
 exact⟨rfl,HB.out⟩
theorem LB (w:World)(s:ByteArray)(n x:Int)(hx:(x==0)=false)
 (n1:Calls Tryz.prog 135 #[.string s] w λe w'=>e=.returned (.tuple #[.int .i64 n,.int .i64 x])/\Below w.heap.size w w'):
 Calls Tryz.prog 134 #[.string s] w λe w'=>e=.returned (.tuple #[.int .i64 0,.int .i64 28])/\Below w.heap.size w w':=by
 go_enter Tryz.func134,Tryz.ntmps134
 go_wp2_with fail
 refine n1.mono ?_
 rintro e w1 ⟨rfl,hb⟩
 have HB:=Lib.hid hb
 clear n1 hb
 go_wp2_with fail
 go_ret2
 exact⟨rfl,HB.out⟩
theorem II {W0:World}(D:ByteArray->Int×Int)(hr:∀s,IntKind.i64.wrap (D s).1=(D s).1)
 (hD:∀w (s:ByteArray),Below W0.heap.size W0 w->s.size<=1000000->Calls Tryz.prog 135 #[.string s] w λe W'=>e=.returned (.tuple #[.int .i64 (D s).1,.int .i64 (D s).2])/\Below w.heap.size w W'):
 nP 134 W0 (jG D):=by
 refine⟨enters_of Tryz.func134 (by kernel_rfl) rfl,λs hs=>?_,λw s hw hsz=>?_⟩
 ·unfold jG at hs⊢
  split
  ·rw[if_pos (by assumption)]at hs;exact absurd rfl hs
  ·rfl
 ·have n1:=hD w s hw hsz
  by_cases h:(D s).2=0
  ·rw[h]at n1
   unfold jG
   rw[if_pos h]
   exact K5 w s _ (hr s) n1
  ·unfold jG
   rw[if_neg h]
   exact LB w s _ _ (by rw[beq_eq_false_iff_ne];exact h) n1
theorem IG (w:World)(s:ByteArray)(n:Int)(b1 b2:Bool)(h1:decide (n<1)=b1)(h2:decide (1000000000000000<n)=b2)(n1:Calls Tryz.prog 163 #[.string s,.int .i64 3] w λe w'=>e=.returned (.bool true)/\Below w.heap.size w w')
 (n2:Hid (∀w1,Below w.heap.size w w1->Calls Tryz.prog 164 #[.string s] w1 λe w'=>e=.returned (.tuple #[.int .i64 n,.int .i64 0])/\Below w1.heap.size w1 w')):
 Calls Tryz.prog 133 #[.string s] w λe w'=>e=.returned (.tuple #[.int .i64 (if b1||b2 then 0 else n),.int .i64 (if b1||b2 then 2 else 0)])/\Below w.heap.size w w':=by
 cases b1
 all_goals cases b2
 all_goals simp only[decide_eq_true_eq,decide_eq_false_iff_not]at h1 h2
 all_goals try (exfalso;omega)
 all_goals
  go_enter Tryz.func133,Tryz.ntmps133
  go_wp2_with fail
  refine n1.mono ?_
  rintro e w1 ⟨rfl,hb⟩
  have HB:=Lib.hid hb
  have m2:=n2.out w1 hb
  clear n1 hb n2
  go_wp2_with fail
  refine m2.mono ?_
  rintro e w2 ⟨rfl,hb⟩
  have HB2:=Lib.hid (HB.out.trans (hb.mono HB.out.size))
  clear m2 hb
  go_wp2_with fail
  go_ret2
  exact⟨rfl,HB2.out⟩
theorem Ga (w:World)(s:ByteArray)(n x:Int)(h0:¬x=0)(n1:Calls Tryz.prog 163 #[.string s,.int .i64 3] w λe w'=>e=.returned (.bool true)/\Below w.heap.size w w')
 (n2:Hid (∀w1,Below w.heap.size w w1->Calls Tryz.prog 164 #[.string s] w1 λe w'=>e=.returned (.tuple #[.int .i64 n,.int .i64 x])/\Below w1.heap.size w1 w')):
 Calls Tryz.prog 133 #[.string s] w λe w'=>e=.returned (.tuple #[.int .i64 0,.int .i64 2])/\Below w.heap.size w w':=by
 go_enter Tryz.func133,Tryz.ntmps133
 go_wp2_with fail
 refine n1.mono ?_
 rintro e w1 ⟨rfl,hb⟩
 have HB:=Lib.hid hb
 have m2:=n2.out w1 hb
 clear n1 hb n2
 go_wp2_with fail
 refine m2.mono ?_
 rintro e w2 ⟨rfl,hb⟩
 have HB2:=Lib.hid (HB.out.trans (hb.mono HB.out.size))
 clear m2 hb
 go_wp2_with fail
 go_ret2
 exact⟨rfl,HB2.out⟩
def kT (A:ByteArray->Int×Int)(s:ByteArray):Int×Int:=
 if Lx.aI s=(3,0)then(if (A s).2=0 then qC (A s).1 else(0,2))else(0,30)
theorem jo {s:ByteArray}(h:Lx.aI s=(3,0)):Lx.decimal s.data.toList=true:=by
 unfold Lx.aI at h
 split at h
 ·cases h
 ·split at h
  ·cases h
  ·split at h
   ·cases h
   ·split at h
    ·assumption
    ·split at h
     ·cases h
     ·split at h<;>cases h
theorem ps_amt {W0:World}(m:Int)(kb ko kc:Nat)(hx:kr m kb ko kc W0)(A:ByteArray->Int×Int)
 (hA:∀w (s:ByteArray),Below W0.heap.size W0 w->s.size<=32->Lx.decimal s.data.toList=true->Calls Tryz.prog 164 #[.string s] w λe W'=>e=.returned (.tuple #[.int .i64 (A s).1,.int .i64 (A s).2])/\Below w.heap.size w W'):
 nP 133 W0 (kT A):=by
 refine⟨enters_of Tryz.func133 (by kernel_rfl) rfl,λs hs=>?_,λw s hw hsz=>?_⟩
 ·unfold kT at hs⊢
  split
  ·rw[if_pos (by assumption)]at hs
   split
   ·rw[if_pos (by assumption)]at hs
    unfold qC at hs⊢
    split
    ·rfl
    ·rw[if_neg (by assumption)]at hs;exact absurd rfl hs
   ·rfl
  ·rfl
 ·have n1:=xX s 3 w m kb ko kc (by omega) (hx.below hw)
  by_cases hc:Lx.aI s=(3,0)
  ·rw[decide_eq_true hc]at n1
   have h32:s.size<=32:=by
    rcases Nat.lt_or_ge 32 s.size with h|h
    ·unfold Lx.aI at hc;rw[if_pos h]at hc;cases hc
    ·exact h
   have hA1:=λw1 (h1:Below w.heap.size w w1)=>hA w1 s (hw.trans (h1.mono hw.size)) h32 (jo hc)
   unfold kT
   rw[if_pos hc]
   by_cases h:(A s).2=0
   ·rw[if_pos h,<-FB]
    rw[h]at hA1
    exact IG w s (A s).1 _ _ rfl rfl n1 (Lib.hid hA1)
   ·rw[if_neg h]
    exact Ga w s (A s).1 (A s).2 h n1 (Lib.hid hA1)
  ·rw[decide_eq_false hc]at n1
   have hq:kT A s=(0,30):=by unfold kT;rw[if_neg hc]
   rw[hq]
   exact Hr w s n1
def bI (sn:List Bool):Array Value:=(sn.map Value.bool).toArray
theorem bv.fresh {W0 W:World}{r tb cap q sb:Nat}{l:List Ps.Tok}{st st':Ps.St}{cs:Array Value}{w w':World}(h:bv W0 W r tb cap q l st cs w)(hr:fB w' r tb cap l st')(hT:Tch r sb w w')(hsq:sb≠q)(hW:W.heap.size<=sb)(h0:W0.heap.size<=sb):bv W0 W r tb cap q l st' cs w':=by
 obtain⟨a,b,c,d,e,f⟩:=h
 refine⟨⟨hr,a.base.trans (hT.below a.r0 h0 a.base.size),a.r0⟩,(hT.block q (Array.getElem?_eq_some_iff.1 b).1 d (Ne.symm hsq)).trans b,?_,d,e,f⟩
 exact⟨hT.os.trans c.os,hT.tape.trans c.tape,hT.output.trans c.output,Nat.le_trans c.size hT.size,λj hj h1 h2=>(hT.block j (Nat.lt_of_lt_of_le hj c.size) h1 (by omega)).trans (c.block j hj h1 h2)⟩
theorem Nu {W0 W:World}{r tb cap q sb a:Nat}{l:List Ps.Tok}{cs:Array Value}{w:World}(h:bv W0 W r tb cap q l (.ok a) cs w)(hlt:a<l.length)(sn:List Bool)(t:TypeId)(hs:w.heap[sb]? =some (.cells (bI sn) t (0,0)))
 (O4:sb≠r) (hsq:sb≠q) (hst:sb≠tb) (hW:W.heap.size<=sb) (h0:W0.heap.size<=sb) (p:Nat) (hp:p<6) (b:Bool) (hb:sn[p]? =some b):
 Calls Tryz.prog 137 #[.pointer (some ⟨r,0,none⟩),.pointer (some ⟨sb,0,none⟩),.int .i64 p] w λe W'=>e=.returned (.bool (!b))/\
  bv W0 W r tb cap q l (if b=true then .error (Ps.aT l a,7)else .ok (a+1)) cs W'/\W'.heap[sb]? =some (.cells (bI (sn.set p true)) t (0,0))/\Tch r sb w W':=by
 have hcp:(bI sn)[p]? =some (.bool b):=by unfold bI;rw[List.getElem?_toArray,List.getElem?_map,hb];rfl
 cases b with
 |true=>
  have hc:w.cell? ⟨sb,p,none⟩=some (.bool true):=by rw[cell_of_row _ _ _ _ _ _ hs];exact hcp
  refine Ci w r sb p _ hp (by omega) hc ((j6 h.1.rd 7 (by decide) (λb hb=>by cases hb;exact hlt)).mono ?_)
  rintro e w1 ⟨h1,h2,h3⟩
  have hset:sn.set p true=sn:=by
   apply List.ext_getElem?
   intro i
   by_cases hi:p=i
   ·subst hi
    rw[List.getElem?_set_self (List.getElem?_eq_some_iff.1 hb).1,hb]
   ·rw[List.getElem?_set_ne hi]
  rw[hset]
  exact⟨h1,h.step (h.1.next h2 h3) h3,(h3.block sb (Array.getElem?_eq_some_iff.1 hs).1 O4 O4).trans hs,h3.left⟩
 |false=>
  obtain⟨a',o,e0,hr,ht,hne,hpos,hcap,bE,Ay⟩:=h.1.rd
  obtain⟨rfl,rfl,hle⟩:=Ay
  refine(JP w r sb p tb l.length cap a' o 0 (bI sn) t hp (by omega) hs hcp O4 hr (by unfold wrap64;omega)).mono ?_
  rintro e w1 ⟨rfl,h1,h2,h3⟩
  refine⟨rfl,h.fresh ⟨a'+1,o,0,h1,ht.tch h3 hne (Ne.symm hst),hne,hpos,hcap,bE,rfl,rfl,hlt⟩ h3 hsq hW h0,?_,h3⟩
  rw[h2]
  unfold bI
  simp
def psE (Fc Fq Fd:ByteArray->Int×Int):Ps.Env:={valid:=λk s=>decide (aY k s=0),cash:=Fc,number:=Fq,date:=Fd}
theorem qf (Fc Fq Fd:ByteArray->Int×Int)(l:List Ps.Tok)(k:Nat)(ks:List Int):Ps.ident (psE Fc Fq Fd) l k ks=Ps.take l (λs=>(s,dZ k s)) ks:=by
 unfold Ps.ident
 congr 1
 funext s
 simp only[psE,dZ,decide_eq_true_eq]
theorem Ec (Fc Fq Fd:ByteArray->Int×Int)(l:List Ps.Tok):Ps.ref (psE Fc Fq Fd) l=uu l:=qf _ _ _ l 2 _
theorem ve (Fc Fq Fd:ByteArray->Int×Int)(l:List Ps.Tok):Ps.member (psE Fc Fq Fd) l=uG l:=qf _ _ _ l 1 _
theorem Ma (Fc Fq Fd:ByteArray->Int×Int)(l:List Ps.Tok):Ps.isin (psE Fc Fq Fd) l=Kq l:=qf _ _ _ l 0 _
theorem ND (Fc Fq Fd:ByteArray->Int×Int)(hd:∀s,(Fd s).2=0\/Fd s=(0,28))(l:List Ps.Tok):Ps.day (psE Fc Fq Fd) l=Ps.take l Fd [4]:=by
 unfold Ps.day
 congr 1
 funext s
 show((Fd s).1,if (Fd s).2=0 then(0:Int)else 28)=Fd s
 rcases hd s with h|h
 ·rw[if_pos h];exact Prod.ext rfl h.symm
 ·rw[h];rfl
theorem psE_by (Fc Fq Fd:ByteArray->Int×Int)(l:List Ps.Tok):Ps.by_ (psE Fc Fq Fd) l=Nr l:=by unfold Ps.by_ Nr;rw[ve]
abbrev ek:Value:=.slice none 0 0
open Go.Proofs.YthijakidnkhbnaaGreatDoor.Ev (AV Mem Fr Sh Stop Qof aK dW aM fP gK fmC AR look keep gF)
structure Pdr (W0:World)(l:List Ps.Tok)(E:Ps.Env):Prop where
 toks:bF l
 ref:qP 23 W0 l (Ps.ref E l)
 member:qP 131 W0 l (Ps.member E l)
 isin:qP 139 W0 l (Ps.isin E l)
 by_:qP 95 W0 l (Ps.by_ E l)
 cash:ul 90 W0 l (Ps.cash E l)
 qty:ul 138 W0 l (Ps.quantity E l)
 day:ul 91 W0 l (Ps.day E l)
 prio:∀w,Below W0.heap.size W0 w->uH w
section
variable {W0 W : World} {r tb cap q : Nat} {l : List Ps.Tok} {E : Ps.Env}
def pqR (W0:World)(r tb cap:Nat)(l:List Ps.Tok)(st:Ps.St)(w:World):Prop:=fO W0 w r tb cap l st
def Iw (l:List Ps.Tok)(s:RS)(p:Ps.P ByteArray):List AV->Option (Value×Option RS)
 |[.p 0 0]=>some (.string (Ps.step p ⟨#[]⟩ (s.st l)).1,some (.any (Ps.step p ⟨#[]⟩ (s.st l)).2))
 |_=>none
def Ji (l:List Ps.Tok)(s:RS)(p:Ps.P Int):List AV->Option (Value×Option RS)
 |[.p 0 0]=>some (.int .i64 (Ps.step p 0 (s.st l)).1,some (.any (Ps.step p 0 (s.st l)).2))
 |_=>none
def pqTab (E:Ps.Env)(l:List Ps.Tok)(s:RS):List (FuncId×(List AV->Option (Value×Option RS))):=
 [(89,λvs=>match vs with|[.p 0 0,.v (.string x)]=>some (.tuple #[],some (.any (Ps.step (Ps.word l x.data.toList) () (s.st l)).2))|_=>none),
  (23,Iw l s (Ps.ref E l)),(131,Iw l s (Ps.member E l)),(139,Iw l s (Ps.isin E l)),(95,Iw l s (Ps.by_ E l)),
  (90,Ji l s (Ps.cash E l)),(138,Ji l s (Ps.quantity E l)),(91,Ji l s (Ps.day E l)),
  (21,λvs=>match vs with|[.p 0 0]=>some (.string (Ps.jO l (s.st l)),none)|_=>none),
  (25,λvs=>match vs with|[.p 0 0]=>(match s with| .at0 _=>some (.bool true,none)|_=>some (.bool (Ps.bA l (s.st l)),none))|_=>none),
  (20,λvs=>match vs with|[.p 0 0]=>some (.bool (Ps.bA l (s.st l)),some (.any (Ps.bJ l (s.st l))))|_=>none),
  (24,λvs=>match vs,s with|[.p 0 0,.v (.int .i64 n)],.at0 a=>if n=30 then some (.tuple #[],some (.any (Ps.gM l 30 (.ok a))))else none|_,_=>none),
  (136,λvs=>match vs with|[.v (.string x)]=>some (.int .i64 (prV x),none)|_=>none)]
def MZ (E:Ps.Env)(l:List Ps.Tok)(s:RS)(f:FuncId)(vs:List AV):Option (Value×Option RS):=tY (pqTab E l s) f vs
theorem I5 (hP:Pdr W0 l E){σ:Type}{M:Mem σ}(hM:M.blk.getD 0 (0,0)=(r,0)){s:RS}{f:FuncId}{vs:List AV}{v:Value}{s':Option RS}(h:MZ E l s f vs=some (v,s')):vz l r (pqR W0 r tb cap l) M s f vs v (s'.getD s):=by
 have hp:(AV.p 0 0).val M=.pointer (some ⟨r,0,none⟩):=by
  show Value.pointer (some ⟨(M.blk.getD 0 (0,0)).1,(M.blk.getD 0 (0,0)).2+0,none⟩)=_
  rw[hM]
 have hstr:∀{g:FuncId} {p:Ps.P ByteArray},qP g W0 l p->(∀args w,(callFunc g args).run Tryz.prog w=.ok (.enter g args) w)->∀vs (b:Value×Option RS),Iw l s p vs=some b->vz l r (pqR W0 r tb cap l) M s g vs b.1 (b.2.getD s):=λhg he vs b h=>by
  unfold Iw at h
  split at h
  ·cases h
   refine⟨he,λ_=>⟨trivial,λw hw=>?_⟩⟩
   simp only[List.map_cons,List.map_nil,hp]
   exact hg w r tb cap _ hw
  ·cases h
 have hint:∀{g:FuncId} {p:Ps.P Int},ul g W0 l p->(∀args w,(callFunc g args).run Tryz.prog w=.ok (.enter g args) w)->∀vs (b:Value×Option RS),Ji l s p vs=some b->vz l r (pqR W0 r tb cap l) M s g vs b.1 (b.2.getD s):=λhg he vs b h=>by
  unfold Ji at h
  split at h
  ·cases h
   refine⟨he,λ_=>⟨trivial,λw hw=>?_⟩⟩
   simp only[List.map_cons,List.map_nil,hp]
   exact hg w r tb cap _ hw
  ·cases h
 refine qd (G:=λf vs b=>vz l r (pqR W0 r tb cap l) M s f vs b.1 (b.2.getD s)) h ?_
 refine List.forall_mem_cons.2 ⟨λvs b h=>?_,List.forall_mem_cons.2 ⟨hstr hP.ref (enters_of Tryz.func23 (by kernel_rfl) rfl),List.forall_mem_cons.2 ⟨hstr hP.member (enters_of Tryz.func131 (by kernel_rfl) rfl),List.forall_mem_cons.2 ⟨hstr hP.isin (enters_of Tryz.func139 (by kernel_rfl) rfl),List.forall_mem_cons.2 ⟨hstr hP.by_ (enters_of Tryz.func95 (by kernel_rfl) rfl),List.forall_mem_cons.2 ⟨hint hP.cash (enters_of Tryz.func90 (by kernel_rfl) rfl),List.forall_mem_cons.2 ⟨hint hP.qty (enters_of Tryz.func138 (by kernel_rfl) rfl),List.forall_mem_cons.2 ⟨hint hP.day (enters_of Tryz.func91 (by kernel_rfl) rfl),
  List.forall_mem_cons.2 ⟨λvs b h=>?_,List.forall_mem_cons.2 ⟨λvs b h=>?_,List.forall_mem_cons.2 ⟨λvs b h=>?_,List.forall_mem_cons.2 ⟨λvs b h=>?_,List.forall_mem_cons.2 ⟨λvs b h=>?_,λ_ h=>by cases h⟩⟩⟩⟩⟩⟩⟩⟩⟩⟩⟩⟩⟩
 ·dsimp only at h
  split at h
  ·cases h
   refine⟨enters_of Tryz.func89 (by kernel_rfl) rfl,λ_=>⟨trivial,λw hw=>?_⟩⟩
   simp only[List.map_cons,List.map_nil,hp]
   exact xD hP.toks hw _
  ·cases h
 ·dsimp only at h
  split at h
  ·cases h
   refine⟨enters_of Tryz.func21 (by kernel_rfl) rfl,λhb=>⟨hb,λw hw=>?_⟩⟩
   simp only[List.map_cons,List.map_nil,hp]
   exact(tT hw.rd).mono λe w' ⟨k1,k,k2⟩=>⟨k1,by rw[k2];exact hw.next (hw.rd.drewN k) (Tch.drewN _ _ _ _),by rw[k2];exact Tch.drewN _ _ _ _⟩
  ·cases h
 ·dsimp only at h
  split at h
  ·have key:∀w,pqR W0 r tb cap l (s.st l) w->Calls Tryz.prog 25 (List.map (AV.val M) [AV.p 0 0]).toArray w λe w'=>e=.returned (.bool (Ps.bA l (s.st l)))/\pqR W0 r tb cap l (s.st l) w'/\Tch r r w w':=λw hw=>by
    simp only[List.map_cons,List.map_nil,hp]
    exact(ma (fO.rd hw)).mono λe w' ⟨k1,k,k2⟩=>⟨k1,by rw[k2];exact fO.next hw (hw.rd.drewN k) (Tch.drewN _ _ _ _),by rw[k2];exact Tch.drewN _ _ _ _⟩
   split at h
   ·cases h
    refine⟨enters_of Tryz.func25 (by kernel_rfl) rfl,λhb=>⟨hb,λw hw=>(key w hw).mono λe w' k=>⟨k.1.trans ?_,k.2⟩⟩⟩
    rename_i a
    have hb2:a<l.length:=hb
    show Ending.returned (.bool (decide (a<l.length)))=_
    rw[decide_eq_true hb2]
   ·cases h
    exact⟨enters_of Tryz.func25 (by kernel_rfl) rfl,λhb=>⟨hb,key⟩⟩
  ·cases h
 ·dsimp only at h
  split at h
  ·cases h
   refine⟨enters_of Tryz.func20 (by kernel_rfl) rfl,λ_=>⟨trivial,λw hw=>?_⟩⟩
   simp only[List.map_cons,List.map_nil,hp]
   exact(tC (fO.rd hw) hP.toks).mono λe w' ⟨k1,k2,k3⟩=>⟨k1,fO.next hw k2 k3,k3⟩
  ·cases h
 ·dsimp only at h
  split at h
  ·split at h
   ·rename_i hn
    subst hn
    cases h
    refine⟨enters_of Tryz.func24 (by kernel_rfl) rfl,λhb=>⟨trivial,λw hw=>?_⟩⟩
    simp only[List.map_cons,List.map_nil,hp]
    exact(j6 (fO.rd hw) 30 (by decide) (λb hb2=>by cases hb2;exact hb)).mono λe w' ⟨k1,k2,k3⟩=>⟨k1,fO.next hw k2 k3,k3⟩
   ·cases h
  ·cases h
 ·dsimp only at h
  split at h
  ·cases h
   refine⟨enters_of Tryz.func136 (by kernel_rfl) rfl,λhb=>⟨hb,λw hw=>?_⟩⟩
   exact(zl w _ (hP.prio w (fO.base hw))).mono λe w' ⟨k1,k2⟩=>⟨k1,by rw[<-k2];exact hw,by rw[<-k2];exact Tch.refl _ _ _⟩
  ·cases h
def O5:RS->Option RS
 | .at0 a=>some (.any (.ok (a+1)))
 |_=>none
theorem pq_inc:RdI l r (pqR W0 r tb cap l) O5:=λs s' hs hb=>by
 cases s with
 |at0 b=>
  cases hs
  refine⟨trivial,λw h=>?_⟩
  obtain⟨a,o,e,hr,ht,hne,hpos,hcap,bE,rfl,rfl,hle⟩:=fO.rd h
  have hlt:a<l.length:=hb
  obtain⟨-,k1,-,-,-⟩:=cK hr
  have hw1:IntKind.i64.wrap ((a:Int)+1)=((a+1:Nat):Int):=by rw[IntWalk.i64_in _ (by omega)];rfl
  refine⟨a,k1,aJ 1 hr,?_⟩
  rw[hw1]
  have hT:Tch r r w (w.setCell ⟨r,1,none⟩ (.int .i64 ((a+1:Nat):Int))):=(Tch.refl r r w).setCell 1 _
  exact fO.next h ⟨a+1,o,0,aN w r 1 _ _ (.int .i64 ((a+1:Nat):Int)) hr,ht.tch hT hne hne,hne,hpos,hcap,bE,rfl,rfl,hlt⟩ hT
 |dup b a=>cases hs
 |any st=>cases hs
def DU (Q:Ps.Req)(j:Nat)(v:Value):Option Ps.Req:=match j,v with
 |0,.int .i64 n=>some {Q with op:=n}
 |1,.string s=>some {Q with sender:=s}
 |2,.string s=>some {Q with ref:=s}
 |j+3,v=>if j<16 then(match qw Q.ins j v with|some i=>some {Q with ins:=i}|none=>none)else(match vS Q.amd (j-16) v with|some a=>some {Q with amd:=a}|none=>none)
 |_,_=>none
theorem G7 {Q Q':Ps.Req}{j:Nat}{v:Value}(h:DU Q j v=some Q'):(∀lv,(aA Q lv).setIfInBounds j v=aA Q' lv)/\Q'.ins.links=Q.ins.links/\((∃n,v=.int .i64 n)\/(∃b,v=.bool b)\/∃s,v=.string s)/\j<28:=by
 unfold DU at h
 split at h
 ·cases h;exact⟨λ_=>rfl,rfl,by simp,by decide⟩
 ·cases h;exact⟨λ_=>rfl,rfl,by simp,by decide⟩
 ·cases h;exact⟨λ_=>rfl,rfl,by simp,by decide⟩
 ·rename_i j
  split at h
  ·split at h
   ·rename_i i hi
    cases h
    unfold qw at hi
    split at hi
    all_goals first|(cases hi;exact⟨λ_=>rfl,rfl,by simp,by decide⟩)|cases hi
   ·cases h
  ·rename_i hj
   split at h
   ·rename_i a ha
    cases h
    obtain⟨k,rfl⟩:∃k,j=k+16:=⟨j-16,by omega⟩
    rw[Nat.add_sub_cancel]at ha
    unfold vS at ha
    split at ha
    all_goals first|(cases ha;exact⟨λ_=>rfl,rfl,by simp,by decide⟩)|cases ha
   ·cases h
 ·cases h
def pqB (W0 W:World)(r tb cap q:Nat)(l:List Ps.Tok)(Ex:List Bool->List Ps.Link->Value->World->Prop)(st:Ps.St)(x:List Bool×Ps.Req)(w:World):Prop:=∃lv,bv W0 W r tb cap q l st (aA x.2 lv) w/\Ex x.1 x.2.ins.links lv w
def Iz (r q:Nat)(Ex:List Bool->List Ps.Link->Value->World->Prop):Prop:=∀{sn ks lv w w'},Ex sn ks lv w->Tch r q w w'->Ex sn ks lv w'
variable {Ex : List Bool → List Ps.Link → Value → World → Prop}
theorem J7 (hE:Iz r q Ex):RdB (pqR W0 r tb cap l) r (pqB W0 W r tb cap q l Ex):=⟨λ⟨_,h,_⟩=>h.1,λ⟨lv,h,he⟩ hs hT=>⟨lv,h.step hs hT,hE he hT.left⟩⟩
def Cr (t:TypeId)(f:Nat):Option Nat:=if t=68 then(if f<4 then some f else none)else oZ t f
theorem OG {t:TypeId}{f d:Nat}(h:Cr t f=some d)(b j:Nat)(w:World):(Instr.fieldAt t (.pointer (some ⟨b,j,none⟩)) f).run Tryz.prog w=.ok (.pointer (some ⟨b,j+d,none⟩)) w:=by
 unfold Cr at h
 split at h
 ·rename_i h1
  subst h1
  split at h
  ·cases h
   rcases f with _|_|_|_|f
   all_goals first|omega|go_simp
  ·cases h
 ·exact qG h b j w
def sc4 (t:TypeId):Bool:=t==2||t==3||t==4||t==9
theorem KJ {t:TypeId}(h:sc4 t=true):t=2\/t=3\/t=4\/t=9:=by
 unfold sc4 at h
 simp only[Bool.or_eq_true,beq_iff_eq]at h
 rcases h with((h|h)|h)|h<;>simp[h]
def Lc (s:RS×(List Bool×Ps.Req))(t:TypeId)(k j:Nat):Option AV:=if k=1/\sc4 t=true/\j≠18 then(match (aA s.2.2 ek)[j]? with|some v=>some (.v v)|none=>none)else none
def FO (x:List Bool×Ps.Req)(t:TypeId)(k j:Nat)(v:Value):Option (List Bool×Ps.Req):=if k=1/\sc4 t=true then(match DU x.2 j v with|some Q=>some (x.1,Q)|none=>none)else none
def pqM (E:Ps.Env)(l:List Ps.Tok)(r q sb:Nat)(callX:RS×(List Bool×Ps.Req)->FuncId->List AV->Option (Value×Option (RS×(List Bool×Ps.Req))))(hint:Nat->Option Bool):Mem (RS×(List Bool×Ps.Req)):=rdG O5 Cr [(r,0),(q,0),(sb,0)] (λ_ _=>.bool false) (MZ E l) Lc FO callX hint
variable {sb : Nat} {callX : RS × (List Bool × Ps.Req) → FuncId → List AV → Option (Value × Option (RS × (List Bool × Ps.Req)))} {hint : Nat → Option Bool}
theorem cu (j:Nat):(AV.p 0 j).val (pqM E l r q sb callX hint)=.pointer (some ⟨r,j,none⟩)/\(AV.p 1 j).val (pqM E l r q sb callX hint)=.pointer (some ⟨q,j,none⟩)/\(AV.p 2 j).val (pqM E l r q sb callX hint)=.pointer (some ⟨sb,j,none⟩):=by
 refine⟨?_,?_,?_⟩
 ·show Value.pointer (some ⟨r,0+j,none⟩)=_;rw[Nat.zero_add]
 ·show Value.pointer (some ⟨q,0+j,none⟩)=_;rw[Nat.zero_add]
 ·show Value.pointer (some ⟨sb,0+j,none⟩)=_;rw[Nat.zero_add]
theorem CW (hP:Pdr W0 l E)(hE:Iz r q Ex)(hX:∀s f vs v s',callX s f vs=some (v,s')->(∀args w,(callFunc f args).run Tryz.prog w=.ok (.enter f args) w)/\(s.1.bound l->∀w,pqB W0 W r tb cap q l Ex (s.1.st l) s.2 w->Calls Tryz.prog f (vs.map (AV.val (pqM E l r q sb callX hint))).toArray w λe w'=>e=.returned v/\rdS l (pqB W0 W r tb cap q l Ex) (s'.getD s) w')):
 Ev.Ok Tryz.prog (rdS l (pqB W0 W r tb cap q l Ex)) (pqM E l r q sb callX hint):=by
 refine MG (J7 (tb:=tb) (cap:=cap) hE) (λt f d h=>OG h) (λs f vs v s' h=>I5 hP rfl h) (λs t k j v h w hw=>?_) (λx t k j v x' h st w hw=>?_) hX
 ·unfold Lc at h
  split at h
  ·rename_i hk
   obtain⟨rfl,ht,hj⟩:=hk
   split at h
   ·rename_i u hu
    cases h
    obtain⟨lv,hA,-⟩:=hw.2
    have h28:j<28:=(Array.getElem?_eq_some_iff.1 hu).1
    have hc:w.cell? ⟨q,j,none⟩=some u:=by
     rw[cell_of_row _ _ _ _ _ _ hA.2.1,<-hu]
     rcases j with _|_|_|_|_|_|_|_|_|_|_|_|_|_|_|_|_|_|_|_|_|_|_|_|_|_|_|_|j
     all_goals first|omega|rfl
    show(Instr.loadAt t ((AV.p 1 j).val (pqM E l r q sb callX hint))).run Tryz.prog w=.ok u w
    rw[(cu j).2.1]
    exact Ev.oU (by rcases KJ ht with rfl|rfl|rfl|rfl<;>rfl) _ w u hc
   ·cases h
  ·cases h
 ·unfold FO at h
  split at h
  ·rename_i hk
   obtain⟨rfl,ht⟩:=hk
   split at h
   ·rename_i Q hQ
    cases h
    obtain⟨k1,k2,k3,k4⟩:=G7 hQ
    obtain⟨lv,hA,he⟩:=hw
    obtain⟨⟨u,hu⟩,hf⟩:=hA.cell j k4
    refine⟨w.setCell ⟨q,j,none⟩ v,?_,lv,?_,?_⟩
    ·show(Instr.storeAt t ((AV.p 1 j).val (pqM E l r q sb callX hint)) v).run Tryz.prog w=_
     rw[(cu j).2.1]
     exact oG (KJ ht) _ w u v hu hf k3
    ·show bv W0 W r tb cap q l st (aA Q lv) _
     rw[<-k1 lv]
     exact hA.store j v
    ·show Ex x.1 Q.ins.links lv _
     rw[k2]
     exact hE he (((Tch.refl q q w).setCell j v).right)
   ·cases h
  ·cases h
theorem eB (hE:Iz r q Ex):Ev.kR (rdS l (pqB W0 W r tb cap q l Ex)) (pqM E l r q sb callX hint):=FU (J7 (tb:=tb) (cap:=cap) hE) pq_inc rfl
theorem jM (hE:Iz r q Ex):∀(s:RS×(List Bool×Ps.Req)) w,rdS l (pqB W0 W r tb cap q l Ex) s w->rdS l (pqB W0 W r tb cap q l Ex) s w.drew:=λs w h=>by
 obtain⟨h1,lv,h2,h3⟩:=h
 have hT:Tch r r w w.drew:=Tch.drewN _ _ _ 1
 exact⟨h1,lv,h2.step (h2.1.next (h2.1.rd.drewN 1) hT) hT,hE h3 hT.left⟩
end
end Go.Proofs.YthijakidnkhbnaaGreatDoor
