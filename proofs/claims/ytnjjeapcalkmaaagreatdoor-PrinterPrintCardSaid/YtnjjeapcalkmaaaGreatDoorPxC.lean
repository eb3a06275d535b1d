/-
  Part 3 of a proof; written short by a program out of longer texts of mine.
-/
import Derived.Test.YtnjjeapcalkmaaaGreatDoorPxB
set_option maxRecDepth 100000
set_option maxHeartbeats 4000000
set_option linter.unusedVariables false
set_option linter.unusedSimpArgs false
namespace Go.Proofs.YtnjjeapcalkmaaaGreatDoor
open Go.RowKit
theorem MO (W:World)(r:Nat)(f:Value)(ka:Option Addr)(kn kc:Nat)(P:World->Prop)
 (n1:Calls Tryz.prog 50 #[.pointer (some ⟨r,0,none⟩)] W λe W'=>e=.returned (.bool false)/\P W'):
 Calls Tryz.prog 187 #[.pointer (some ⟨r,0,none⟩),f,.slice ka kn kc] W λe W'=>e=.returned (.tuple #[])/\P W':=by
 go_enter Tryz.func187,Tryz.ntmps187
 go_wp2_with fail
 refine n1.mono ?_
 rintro x w ⟨rfl,hp⟩
 clear n1
 go_wp2_with fail
 refine bodyPost_ret (results_none rfl _ _ _) rfl ?_
 exact⟨rfl,hp⟩
theorem pQ {w:World}{p1 p2 p3 p4 p5:Addr}{v1 v2 v3 v4 v5:Value}(h:w.cell? p1=some v1/\w.cell? p2=some v2/\w.cell? p3=some v3/\w.cell? p4=some v4/\w.cell? p5=some v5):w.drew.cell? p1=some v1/\w.drew.cell? p2=some v2/\w.drew.cell? p3=some v3/\w.drew.cell? p4=some v4/\w.drew.cell? p5=some v5:=h
theorem mD {w:World}{p1 p2 p3 p4 p5:Addr}{v1 v2 v3 v4 v5:Value}(h:w.cell? p1=some v1/\w.cell? p2=some v2/\w.cell? p3=some v3/\w.cell? p4=some v4/\w.cell? p5=some v5)(o:Obj):(w.alloc o).cell? p1=some v1/\(w.alloc o).cell? p2=some v2/\(w.alloc o).cell? p3=some v3/\(w.alloc o).cell? p4=some v4/\(w.alloc o).cell? p5=some v5:=
 ⟨Lib.cell?_alloc_some _ h.1,Lib.cell?_alloc_some _ h.2.1,Lib.cell?_alloc_some _ h.2.2.1,Lib.cell?_alloc_some _ h.2.2.2.1,Lib.cell?_alloc_some _ h.2.2.2.2⟩
def pK (W:World)(r tb n cap a:Nat)(o:Int)(kd:Int)(t:ByteArray)(at_:Int)(kb:Nat)(ks:List Int)(w:World):Prop:=
 w.heap[r]? =some (.cells (bK tb n cap a o 0) 97 (0,0))/\
 (w.cell? ⟨tb,a*3,none⟩=some (.int .i64 kd)/\w.cell? ⟨tb,a*3+1,none⟩=some (.string t)/\w.cell? ⟨tb,a*3+2,none⟩=some (.int .i64 at_))/\
 (∀(j:Nat) (k:Int),ks[j]? =some k->w.cell? ⟨kb,j,none⟩=some (.int .i64 k))/\Tch r r W w
theorem aC (w:World)(o:Obj):(w.alloc o).heap[w.heap.size]? =some o:=World.alloc_heap_new w o
theorem pK.below {W:World}{r tb n cap a:Nat}{o kd at_:Int}{t:ByteArray}{kb:Nat}{ks:List Int}{w w':World}(h:pK W r tb n cap a o kd t at_ kb ks w)(hb:Below w.heap.size w w'):pK W r tb n cap a o kd t at_ kb ks w':=by
 obtain⟨hr,⟨t0,t1,t2⟩,hk,hT⟩:=h
 have up:∀{p:Addr} {v:Value},w.cell? p=some v->w'.cell? p=some v:=λhp=>(hb.cell (World.block_lt_of_cell? w _ hp)).trans hp
 exact⟨(hb.block r (Array.getElem?_eq_some_iff.1 hr).1).trans hr,⟨up t0,up t1,up t2⟩,λj k hj=>up (hk j k hj),hT.trans (Tch.of_below hb)⟩
theorem G7 (W:World)(r tb n cap a:Nat)(o kd at_:Int)(t:ByteArray)(f:Value)(kb kc:Nat)(ks:List Int)(hlt:(a:Int)<(n:Int))(hks:∀k∈ks,(kd==k)=false)(_hkc:ks.length<=kc)(hkl:ks.length<=100)(P:World->Prop)
 (n1:Calls Tryz.prog 50 #[.pointer (some ⟨r,0,none⟩)] W λe W'=>e=.returned (.bool true)/\pK W r tb n cap a o kd t at_ kb ks W')
 (n3:Hid (∀w,pK W r tb n cap a o kd t at_ kb ks w->Calls Tryz.prog 54 #[.pointer (some ⟨r,0,none⟩),.int .i64 30] w λe W'=>e=.returned (.tuple #[])/\P W')):
 Calls Tryz.prog 187 #[.pointer (some ⟨r,0,none⟩),f,.slice (some ⟨kb,0,none⟩) ks.length kc] W λe W'=>e=.returned (.tuple #[])/\P W':=by
 have HK:=Lib.hid hks
 clear hks
 go_enter Tryz.func187,Tryz.ntmps187
 go_wp2_with fail
 refine n1.mono ?_
 rintro x w ⟨rfl,hT⟩
 have HT:=Lib.hid hT
 obtain⟨hr,⟨t0,t1,t2⟩,-,-⟩:=hT
 obtain⟨k0,k1,-,-,-⟩:=dF hr
 have d0:w.drew.cell? ⟨r,0,none⟩=some (.slice (some ⟨tb,0,none⟩) n cap):=k0
 have d1:w.drew.cell? ⟨r,1,none⟩=some (.int .i64 a):=k1
 have e0:w.drew.cell? ⟨tb,a*3,none⟩=some (.int .i64 kd):=t0
 have e1:w.drew.cell? ⟨tb,a*3+1,none⟩=some (.string t):=t1
 have e2:w.drew.cell? ⟨tb,a*3+2,none⟩=some (.int .i64 at_):=t2
 have a0:=λo=>Lib.cell?_alloc_some (W:=w) o t0
 have a1:=λo=>Lib.cell?_alloc_some (W:=w) o t1
 have a2:=λo=>Lib.cell?_alloc_some (W:=w) o t2
 have a3:=λo=>Lib.cell?_alloc_some (W:=w) o k0
 have a4:=λo=>Lib.cell?_alloc_some (W:=w) o k1
 clear n1 hr
 go_wp2_with fail
 have hS0:=And.intro k0 (And.intro k1 (And.intro t0 (And.intro t1 t2)))
 go_region_held3 (λw'=>w'.cell? ⟨r,0,none⟩=some (.slice (some ⟨tb,0,none⟩) n cap)/\w'.cell? ⟨r,1,none⟩=some (.int .i64 a)/\w'.cell? ⟨tb,a*3,none⟩=some (.int .i64 kd)/\w'.cell? ⟨tb,a*3+1,none⟩=some (.string t)/\w'.cell? ⟨tb,a*3+2,none⟩=some (.int .i64 at_))
  (first|assumption|exact pQ (by assumption)|exact mD (by assumption) _)
  (fail)
 obtain⟨w9,FC⟩:∃w9,w9=(w.alloc (Obj.cells #[.int .i64 kd,.string t,.int .i64 at_] 106)).drew:=⟨_,rfl⟩
 obtain⟨q,hq⟩:∃q,q=w.heap.size:=⟨_,rfl⟩
 have Qs:Hid (pK W r tb n cap a o kd t at_ kb ks w9):=Lib.hid (HT.out.below (by rw[FC];exact((Below.refl _ _).alloc (Nat.le_refl _) _).drew))
 have o9:w9.heap[q]? =some (.cells #[.int .i64 kd,.string t,.int .i64 at_] 106 (0,0)):=by rw[FC,hq];exact aC w _
 have y0:w9.cell? ⟨q,0,none⟩=some (.int .i64 kd):=by rw[cell_of_row _ _ _ _ _ _ o9];rfl
 rw[<-FC,<-hq]
 clear o9 FC hq HT d0 d1 e0 e1 e2 a0 a1 a2 a3 a4 k0 k1 t0 t1 t2 hS0
 have n4:=n3.out w9 Qs.out
 go_wp2_with fail
 go_loopw [8,25] (λkv iv wr=>∃j:Nat,j<=ks.length/\iv=.int .i64 j/\wr=w9) (λ_ iv _=>ks.length-(RowKit.intOf iv).toNat)
 case atStart=>exact⟨0,Nat.zero_le _,rfl,rfl⟩
 case round=>
  obtain⟨j,hj,rfl,rfl⟩:=hrel
  by_cases hlt2:j<ks.length
  ·obtain⟨k,hk⟩:∃k,ks[j]? =some k:=⟨_,List.getElem?_eq_getElem hlt2⟩
   have x0:=Qs.out.2.2.1 j k hk
   have hkk:=HK.out k (List.mem_of_getElem? hk)
   have tZ:(j:Int)<(ks.length:Int):=by omega
   clear hk n4 n3
   go_wp2_with fail
   refine⟨⟨j+1,by omega,by go_num,trivial⟩,by simp[RowKit.intOf]<;>omega⟩
  ·have tZ:¬(j:Int)<(ks.length:Int):=by omega
   clear hlt2 n3
   go_wp2_with fail
   refine n4.mono ?_
   rintro x w5 ⟨rfl,hp⟩
   clear n4
   go_wp2_with fail
   go_end0
   exact⟨rfl,hp⟩
theorem Hu (W:World)(r tb n cap a:Nat)(o kd at_:Int)(t:ByteArray)(g:Nat)(c1 c2:Value)(kb kc:Nat)(ks:List Int)(hlt:(a:Int)<(n:Int))(j0:Nat)(hj0:ks[j0]? =some kd)(hks:∀j k,j<j0->ks[j]? =some k->(kd==k)=false)(_hkc:ks.length<=kc)(hkl:ks.length<=100)(code:Int)(T2 P:World->Prop)
 (n1:Calls Tryz.prog 50 #[.pointer (some ⟨r,0,none⟩)] W λe W'=>e=.returned (.bool true)/\pK W r tb n cap a o kd t at_ kb ks W')
 (eg:∀args w,(callFunc g args).run Tryz.prog w=.ok (.enter g args) w)
 (acc:Hid (∀w,pK W r tb n cap a o kd t at_ kb ks w->Calls Tryz.prog g #[.string t,c1,c2] w λe W'=>e=.returned (.int .i64 code)/\T2 W'))
 (hcode:(code==0)=false)
 (n3:Hid (∀w,T2 w->Calls Tryz.prog 54 #[.pointer (some ⟨r,0,none⟩),.int .i64 code] w λe W'=>e=.returned (.tuple #[])/\P W')):
 Calls Tryz.prog 187 #[.pointer (some ⟨r,0,none⟩),.func (.func g) #[] #[c1,c2],.slice (some ⟨kb,0,none⟩) ks.length kc] W λe W'=>e=.returned (.tuple #[])/\P W':=by
 have HK:=Lib.hid hks
 clear hks
 go_enter Tryz.func187,Tryz.ntmps187
 go_wp2_with fail
 refine n1.mono ?_
 rintro x w ⟨rfl,hT⟩
 have HT:=Lib.hid hT
 obtain⟨hr,⟨t0,t1,t2⟩,-,-⟩:=hT
 obtain⟨k0,k1,-,-,-⟩:=dF hr
 have d0:w.drew.cell? ⟨r,0,none⟩=some (.slice (some ⟨tb,0,none⟩) n cap):=k0
 have d1:w.drew.cell? ⟨r,1,none⟩=some (.int .i64 a):=k1
 have e0:w.drew.cell? ⟨tb,a*3,none⟩=some (.int .i64 kd):=t0
 have e1:w.drew.cell? ⟨tb,a*3+1,none⟩=some (.string t):=t1
 have e2:w.drew.cell? ⟨tb,a*3+2,none⟩=some (.int .i64 at_):=t2
 have a0:=λo=>Lib.cell?_alloc_some (W:=w) o t0
 have a1:=λo=>Lib.cell?_alloc_some (W:=w) o t1
 have a2:=λo=>Lib.cell?_alloc_some (W:=w) o t2
 have a3:=λo=>Lib.cell?_alloc_some (W:=w) o k0
 have a4:=λo=>Lib.cell?_alloc_some (W:=w) o k1
 clear n1 hr
 go_wp2_with fail
 have hS0:=And.intro k0 (And.intro k1 (And.intro t0 (And.intro t1 t2)))
 go_region_held3 (λw'=>w'.cell? ⟨r,0,none⟩=some (.slice (some ⟨tb,0,none⟩) n cap)/\w'.cell? ⟨r,1,none⟩=some (.int .i64 a)/\w'.cell? ⟨tb,a*3,none⟩=some (.int .i64 kd)/\w'.cell? ⟨tb,a*3+1,none⟩=some (.string t)/\w'.cell? ⟨tb,a*3+2,none⟩=some (.int .i64 at_))
  (first|assumption|exact pQ (by assumption)|exact mD (by assumption) _)
  (fail)
 obtain⟨w9,FC⟩:∃w9,w9=(w.alloc (Obj.cells #[.int .i64 kd,.string t,.int .i64 at_] 106)).drew:=⟨_,rfl⟩
 obtain⟨q,hq⟩:∃q,q=w.heap.size:=⟨_,rfl⟩
 have Qs:Hid (pK W r tb n cap a o kd t at_ kb ks w9):=Lib.hid (HT.out.below (by rw[FC];exact((Below.refl _ _).alloc (Nat.le_refl _) _).drew))
 have o9:w9.heap[q]? =some (.cells #[.int .i64 kd,.string t,.int .i64 at_] 106 (0,0)):=by rw[FC,hq];exact aC w _
 have y0:w9.cell? ⟨q,0,none⟩=some (.int .i64 kd):=by rw[cell_of_row _ _ _ _ _ _ o9];rfl
 have y1:w9.cell? ⟨q,1,none⟩=some (.string t):=by rw[cell_of_row _ _ _ _ _ _ o9];rfl
 rw[<-FC,<-hq]
 clear o9 FC hq HT d0 d1 e0 e1 e2 a0 a1 a2 a3 a4 k0 k1 t0 t1 t2 hS0
 have n4:=acc.out w9 Qs.out
 clear acc
 go_wp2_with fail
 go_loopw [8,25] (λkv iv wr=>∃j:Nat,j<=j0/\iv=.int .i64 j/\wr=w9) (λ_ iv _=>ks.length-(RowKit.intOf iv).toNat)
 case atStart=>exact⟨0,Nat.zero_le _,rfl,rfl⟩
 case round=>
  obtain⟨j,hj,rfl,rfl⟩:=hrel
  have hl0:j0<ks.length:=(List.getElem?_eq_some_iff.1 hj0).1
  have tZ:(j:Int)<(ks.length:Int):=by omega
  have hltN:j<ks.length:=by omega
  by_cases hlt2:j<j0
  ·obtain⟨k,hk⟩:∃k,ks[j]? =some k:=⟨_,List.getElem?_eq_getElem (by omega)⟩
   have x0:=Qs.out.2.2.1 j k hk
   have hkk:=HK.out j k hlt2 hk
   clear hk n4 hj0
   go_wp2_with fail
   refine⟨⟨j+1,by omega,by go_num,trivial⟩,by simp[RowKit.intOf]<;>omega⟩
  ·obtain rfl:j=j0:=by omega
   have x0:=Qs.out.2.2.1 j kd hj0
   clear hlt2 hj hj0
   go_wp2_with (go_at_fn g;refine n4.mono ?_;rintro x w5 ⟨rfl,hp⟩)
   refine(n3.out w5 hp).mono ?_
   rintro x w6 ⟨rfl,hp2⟩
   clear n3 n4 hp
   go_wp2_with fail
   refine bodyPost_ret (results_none rfl _ _ _) rfl ?_
   exact⟨rfl,hp2⟩
theorem Hw (W:World)(r tb n cap a:Nat)(o kd at_:Int)(t:ByteArray)(g:Nat)(c1 c2:Value)(kb kc:Nat)(ks:List Int)(hlt:(a:Int)<(n:Int))(j0:Nat)(hj0:ks[j0]? =some kd)(hks:∀j k,j<j0->ks[j]? =some k->(kd==k)=false)(_hkc:ks.length<=kc)(hkl:ks.length<=100)(hw1:wrap64 ((a:Int)+1)=((a+1:Nat):Int))(T2:World->Prop)
 (n1:Calls Tryz.prog 50 #[.pointer (some ⟨r,0,none⟩)] W λe W'=>e=.returned (.bool true)/\pK W r tb n cap a o kd t at_ kb ks W')
 (eg:∀args w,(callFunc g args).run Tryz.prog w=.ok (.enter g args) w)
 (acc:Hid (∀w,pK W r tb n cap a o kd t at_ kb ks w->Calls Tryz.prog g #[.string t,c1,c2] w λe W'=>e=.returned (.int .i64 0)/\T2 W'))
 (hT:Hid (∀w,T2 w->w.heap[r]? =some (.cells (bK tb n cap a o 0) 97 (0,0)))):
 Calls Tryz.prog 187 #[.pointer (some ⟨r,0,none⟩),.func (.func g) #[] #[c1,c2],.slice (some ⟨kb,0,none⟩) ks.length kc] W λe W'=>e=.returned (.tuple #[])/\∃w5,T2 w5/\W'=w5.setCell ⟨r,1,none⟩ (.int .i64 ((a+1:Nat):Int)):=by
 have HK:=Lib.hid hks
 clear hks
 go_enter Tryz.func187,Tryz.ntmps187
 go_wp2_with fail
 refine n1.mono ?_
 rintro x w ⟨rfl,hT⟩
 have HT:=Lib.hid hT
 obtain⟨hr,⟨t0,t1,t2⟩,-,-⟩:=hT
 obtain⟨k0,k1,-,-,-⟩:=dF hr
 have d0:w.drew.cell? ⟨r,0,none⟩=some (.slice (some ⟨tb,0,none⟩) n cap):=k0
 have d1:w.drew.cell? ⟨r,1,none⟩=some (.int .i64 a):=k1
 have e0:w.drew.cell? ⟨tb,a*3,none⟩=some (.int .i64 kd):=t0
 have e1:w.drew.cell? ⟨tb,a*3+1,none⟩=some (.string t):=t1
 have e2:w.drew.cell? ⟨tb,a*3+2,none⟩=some (.int .i64 at_):=t2
 have a0:=λo=>Lib.cell?_alloc_some (W:=w) o t0
 have a1:=λo=>Lib.cell?_alloc_some (W:=w) o t1
 have a2:=λo=>Lib.cell?_alloc_some (W:=w) o t2
 have a3:=λo=>Lib.cell?_alloc_some (W:=w) o k0
 have a4:=λo=>Lib.cell?_alloc_some (W:=w) o k1
 clear n1 hr
 go_wp2_with fail
 have hS0:=And.intro k0 (And.intro k1 (And.intro t0 (And.intro t1 t2)))
 go_region_held3 (λw'=>w'.cell? ⟨r,0,none⟩=some (.slice (some ⟨tb,0,none⟩) n cap)/\w'.cell? ⟨r,1,none⟩=some (.int .i64 a)/\w'.cell? ⟨tb,a*3,none⟩=some (.int .i64 kd)/\w'.cell? ⟨tb,a*3+1,none⟩=some (.string t)/\w'.cell? ⟨tb,a*3+2,none⟩=some (.int .i64 at_))
  (first|assumption|exact pQ (by assumption)|exact mD (by assumption) _)
  (fail)
 obtain⟨w9,FC⟩:∃w9,w9=(w.alloc (Obj.cells #[.int .i64 kd,.string t,.int .i64 at_] 106)).drew:=⟨_,rfl⟩
 obtain⟨q,hq⟩:∃q,q=w.heap.size:=⟨_,rfl⟩
 have Qs:Hid (pK W r tb n cap a o kd t at_ kb ks w9):=Lib.hid (HT.out.below (by rw[FC];exact((Below.refl _ _).alloc (Nat.le_refl _) _).drew))
 have o9:w9.heap[q]? =some (.cells #[.int .i64 kd,.string t,.int .i64 at_] 106 (0,0)):=by rw[FC,hq];exact aC w _
 have y0:w9.cell? ⟨q,0,none⟩=some (.int .i64 kd):=by rw[cell_of_row _ _ _ _ _ _ o9];rfl
 have y1:w9.cell? ⟨q,1,none⟩=some (.string t):=by rw[cell_of_row _ _ _ _ _ _ o9];rfl
 rw[<-FC,<-hq]
 clear o9 FC hq HT d0 d1 e0 e1 e2 a0 a1 a2 a3 a4 k0 k1 t0 t1 t2 hS0
 have n4:=acc.out w9 Qs.out
 clear acc
 go_wp2_with fail
 go_loopw [8,25] (λkv iv wr=>∃j:Nat,j<=j0/\iv=.int .i64 j/\wr=w9) (λ_ iv _=>ks.length-(RowKit.intOf iv).toNat)
 case atStart=>exact⟨0,Nat.zero_le _,rfl,rfl⟩
 case round=>
  obtain⟨j,hj,rfl,rfl⟩:=hrel
  have hl0:j0<ks.length:=(List.getElem?_eq_some_iff.1 hj0).1
  have tZ:(j:Int)<(ks.length:Int):=by omega
  have hltN:j<ks.length:=by omega
  by_cases hlt2:j<j0
  ·obtain⟨k,hk⟩:∃k,ks[j]? =some k:=⟨_,List.getElem?_eq_getElem (by omega)⟩
   have x0:=Qs.out.2.2.1 j k hk
   have hkk:=HK.out j k hlt2 hk
   clear hk n4 hj0
   go_wp2_with fail
   refine⟨⟨j+1,by omega,by go_num,trivial⟩,by simp[RowKit.intOf]<;>omega⟩
  ·obtain rfl:j=j0:=by omega
   have x0:=Qs.out.2.2.1 j kd hj0
   clear hlt2 hj hj0
   go_wp2_with (go_at_fn g;refine n4.mono ?_;rintro x w5 ⟨rfl,hp⟩;have HP:=Lib.hid hp;have HR5:=Lib.hid (hT.out w5 hp);have z1:=(dF HR5.out).2.1;have f1:=aV 1 HR5.out;clear hp)
   refine bodyPost_ret (results_none rfl _ _ _) rfl ?_
   refine⟨rfl,w5,HP.out,?_⟩
   first|rfl|rw[hw1]
def ed (l:List Ps.Tok)(ks:List Int)(st:Ps.St):Option ByteArray:=match st with
 | .ok a=>match l[a]? with
   |some t=>if t.1∈ks then some t.2.1 else none
   |none=>none
 | .error _=>none
theorem J7 (ks:List Int)(k:Int)(h:k∈ks):∃j:Nat,ks[j]? =some k/\∀(i:Nat) (x:Int),i<j->ks[i]? =some x->(k==x)=false:=by
 induction ks with
 |nil=>cases h
 |cons y ks ih=>
  by_cases hy:k=y
  ·subst hy
   exact⟨0,rfl,λi x hi=>by omega⟩
  ·obtain⟨j,hj,hb⟩:=ih (by simpa[hy]using h)
   refine⟨j+1,by simpa using hj,λi x hi hx=>?_⟩
   cases i with
   |zero=>
    obtain rfl:y=x:=by simpa using hx
    rw[beq_eq_false_iff_ne];exact hy
   |succ i=>exact hb i x (by omega) (by simpa using hx)
theorem JQ {W:World}{r tb cap:Nat}{l:List Ps.Tok}{st:Ps.St}(h:fw W r tb cap l st)(hl:fq l)(g:Nat)(c1 c2:Value)(kb kc ob:Nat)(ks:List Int)(_hkb:kb≠r)(hkc:ks.length<=kc)(hkl:ks.length<=100)
 (hk:∀(j:Nat) (k:Int),ks[j]? =some k->W.cell? ⟨kb,j,none⟩=some (.int .i64 k)) (EK:ob≠r) (hot:ob≠tb) (code:ByteArray->Int) (X:Option ByteArray->World->Prop) (hX:∀s w w',X s w->Tch r r w w'->X s w') (h0:X none W)
 (eg:∀args w,(callFunc g args).run Tryz.prog w=.ok (.enter g args) w)
 (hacc:∀s w,X none w->s.size<=1000000->Calls Tryz.prog g #[.string s,c1,c2] w λe W'=>e=.returned (.int .i64 (code s))/\X (some s) W'/\Tch ob ob w W'):
 Calls Tryz.prog 187 #[.pointer (some ⟨r,0,none⟩),.func (.func g) #[] #[c1,c2],.slice (some ⟨kb,0,none⟩) ks.length kc] W λe W'=>
  e=.returned (.tuple #[])/\fw W' r tb cap l (Ps.step (Ps.take l (λs=>(s,code s)) ks) ⟨#[]⟩ st).2/\Tch r ob W W'/\X (ed l ks st) W':=by
 have n1:=vL h hl
 cases hb:Ps.dU l st with
 |false=>
  rw[hb]at n1
  have e1:Ps.gB l st=(Ps.step (Ps.take l (λs=>(s,code s)) ks) ⟨#[]⟩ st).2/\ed l ks st=none:=by
   cases st with
   |error er=>exact⟨rfl,rfl⟩
   |ok a=>
    have hge:l.length<=a:=by simpa[Ps.dU]using hb
    have hn:l[a]? =none:=List.getElem?_eq_none hge
    have hw:Ps.take l (λs=>(s,code s)) ks a=.error (Ps.short l):=by simp only[Ps.take,hn]
    rw[Ps.bF hw]
    exact⟨by simp[Ps.gB,Nat.not_lt.2 hge],by simp only[ed,hn]⟩
  rw[e1.1]at n1
  rw[e1.2]
  refine(MO W r _ _ _ _ _ n1).mono ?_
  rintro x w ⟨rfl,hs,hT⟩
  exact⟨rfl,hs,hT.left,hX _ _ _ h0 hT⟩
 |true=>
  cases st with
  |error er=>cases hb
  |ok a=>
   have hlt:a<l.length:=by simpa[Ps.dU]using hb
   obtain⟨t,kL⟩:∃t,l[a]? =some t:=⟨_,List.getElem?_eq_getElem hlt⟩
   have Gj:=hl t (List.mem_of_getElem? kL)
   have hm:=nk h
   rw[hb]at hm
   obtain⟨a',o,e,hr,ht,hne,hpos,hcap,gN,hs⟩:=h
   obtain⟨rfl,rfl,hle⟩:=hs
   obtain⟨t0,t1,t2⟩:=ht a' t kL
   have m1:Calls Tryz.prog 50 #[.pointer (some ⟨r,0,none⟩)] W λe W'=>e=.returned (.bool true)/\pK W r tb l.length cap a' o t.1 t.2.1 t.2.2 kb ks W':=by
    refine(sW W r hm).mono ?_
    rintro x w ⟨rfl,k,rfl⟩
    exact⟨rfl,hr,⟨t0,t1,t2⟩,hk,Tch.drewN _ _ _ _⟩
   have back:∀w,pK W r tb l.length cap a' o t.1 t.2.1 t.2.2 kb ks w->fw w r tb cap l (.ok a')/\Tch r r W w:=λw hw=>
    ⟨⟨a',o,0,hw.1,ht.tch hw.2.2.2 hne hne,hne,hpos,hcap,gN,rfl,rfl,hle⟩,hw.2.2.2⟩
   by_cases hkd:t.1∈ks
   ·have htk:ed l ks (.ok a')=some t.2.1:=by simp only[ed,kL,if_pos hkd]
    obtain⟨j0,hj0,hbef⟩:=J7 ks t.1 hkd
    rw[htk]
    have acc:∀w,pK W r tb l.length cap a' o t.1 t.2.1 t.2.2 kb ks w->Calls Tryz.prog g #[.string t.2.1,c1,c2] w λe W'=>e=.returned (.int .i64 (code t.2.1))/\(W'.heap[r]? =some (.cells (bK tb l.length cap a' o 0) 97 (0,0))/\Tch r ob W W'/\X (some t.2.1) W'):=λw hw=>by
     refine(hacc t.2.1 w (hX _ _ _ h0 hw.2.2.2) Gj.1).mono ?_
     rintro x w2 ⟨h1,h2,h3⟩
     exact⟨h1,(h3.block r (Array.getElem?_eq_some_iff.1 hw.1).1 (Ne.symm EK) (Ne.symm EK)).trans hw.1,hw.2.2.2.left.trans h3.right,h2⟩
    by_cases hcode:code t.2.1=0
    ·have hw:Ps.take l (λs=>(s,code s)) ks a'=.ok (t.2.1,a'+1):=by simp only[Ps.take,kL,if_pos hkd,if_pos hcode]
     rw[Ps.step_ok hw]
     simp only[hcode]at acc
     refine(Hw W r tb l.length cap a' o t.1 t.2.2 t.2.1 g c1 c2 kb kc ks (by omega) j0 hj0 hbef hkc hkl (by unfold wrap64;omega) _ m1 eg (Lib.hid acc) (Lib.hid λw hw=>hw.1)).mono ?_
     rintro x w ⟨rfl,w5,⟨hr5,UU,hX5⟩,rfl⟩
     have hT6:Tch r r w5 (w5.setCell ⟨r,1,none⟩ (.int .i64 ((a'+1:Nat):Int))):=(Tch.refl _ _ _).setCell 1 _
     exact⟨rfl,⟨a'+1,o,0,ai w5 r 1 _ _ _ hr5,(ht.tch UU hne (Ne.symm hot)).tch hT6 hne hne,hne,hpos,hcap,gN,rfl,rfl,hlt⟩,UU.trans hT6.left,hX _ _ _ hX5 hT6⟩
    ·have hw:Ps.take l (λs=>(s,code s)) ks a'=.error (Ps.av l a',code t.2.1):=by simp only[Ps.take,kL,if_pos hkd,if_neg hcode]
     rw[Ps.bF hw]
     refine Hu W r tb l.length cap a' o t.1 t.2.2 t.2.1 g c1 c2 kb kc ks (by omega) j0 hj0 hbef hkc hkl (code t.2.1) _ _ m1 eg (Lib.hid acc) (by rw[beq_eq_false_iff_ne];exact hcode) (Lib.hid λw hw=>?_)
     have hs5:fw w r tb cap l (.ok a'):=⟨a',o,0,hw.1,ht.tch hw.2.1 hne (Ne.symm hot),hne,hpos,hcap,gN,rfl,rfl,hle⟩
     refine(lT hs5 (code t.2.1) hcode (λb hb=>by cases hb;exact hlt)).mono ?_
     rintro x w6 ⟨h1,h2,h3⟩
     exact⟨h1,h2,hw.2.1.trans h3.left,hX _ _ _ hw.2.2 h3⟩
   ·have htk:ed l ks (.ok a')=none:=by simp only[ed,kL,if_neg hkd]
    rw[htk]
    have hw:Ps.take l (λs=>(s,code s)) ks a'=.error (Ps.av l a',30):=by simp only[Ps.take,kL,if_neg hkd]
    rw[Ps.bF hw]
    refine G7 W r tb l.length cap a' o t.1 t.2.2 t.2.1 _ kb kc ks (by omega) (λk hk=>by rw[beq_eq_false_iff_ne];rintro rfl;exact hkd hk) hkc hkl _ m1 (Lib.hid λw hw=>?_)
    refine(lT (back w hw).1 30 (by decide) (λb hb=>by cases hb;exact hlt)).mono ?_
    rintro x w6 ⟨h1,h2,h3⟩
    exact⟨h1,h2,((back w hw).2.trans h3).left,hX _ _ _ h0 ((back w hw).2.trans h3)⟩
def dz (k:Nat)(s:ByteArray):Int:=if aS k s=0 then 0 else 6
theorem L9 (k:Nat)(w:World)(s:ByteArray)(kx ob:Nat)(u:Value)(b:Bool)(hk:w.cell? ⟨kx,0,none⟩=some (.int .i64 k))(ho:w.heap[ob]? =some (.cells #[u] 9 (0,0)))
 (n1:Calls Tryz.prog 80 #[.int .i64 k,.string s] w λe w'=>e=.returned (.bool b)/\Below w.heap.size w w'):
 Calls Tryz.prog 188 #[.string s,.pointer (some ⟨kx,0,none⟩),.pointer (some ⟨ob,0,none⟩)] w λe w'=>e=.returned (.int .i64 (if b=true then 0 else 6))/\w'.heap[ob]? =some (.cells #[if b=true then .string s else u] 9 (0,0))/\Tch ob ob w w':=by
 have HO:=Lib.hid ho
 clear ho
 cases b with
 |true=>
  go_enter Tryz.func188,Tryz.ntmps188
  go_wp2_with fail
  refine n1.mono ?_
  rintro e w' ⟨rfl,hb⟩
  have hr:w'.heap[ob]? =some (.cells #[u] 9 (0,0)):=(hb.block ob (Array.getElem?_eq_some_iff.1 HO.out).1).trans HO.out
  have f0:=aV 0 hr
  have z0:w'.cell? ⟨ob,0,none⟩=some u:=by rw[cell_of_row _ _ _ _ _ _ hr];rfl
  have HR:=Lib.hid hr
  have HB:=Lib.hid hb
  clear n1 hr hb
  go_wp2_with fail
  go_ret
  exact⟨rfl,ai w' ob 0 _ _ _ HR.out,(Tch.of_below HB.out).setCell 0 _⟩
 |false=>
  go_enter Tryz.func188,Tryz.ntmps188
  go_wp2_with fail
  refine n1.mono ?_
  rintro e w' ⟨rfl,hb⟩
  have HB:=Lib.hid hb
  clear n1 hb
  go_wp2_with fail
  go_ret
  exact⟨rfl,(HB.out.block ob (Array.getElem?_eq_some_iff.1 HO.out).1).trans HO.out,Tch.of_below HB.out⟩
theorem ps_idL (W:World)(r k kb kn kc:Nat)(v:ByteArray)(P:World->Prop)
 (n1:Hid (∀w kx ob,w.cell? ⟨kx,0,none⟩=some (.int .i64 k)->w.heap[ob]? =some (.cells #[.string ⟨#[]⟩] 9 (0,0))->Below W.heap.size W w->W.heap.size<=ob->W.heap.size<=kx->kx≠ob->
  Calls Tryz.prog 187 #[.pointer (some ⟨r,0,none⟩),.func (.func 188) #[] #[.pointer (some ⟨kx,0,none⟩),.pointer (some ⟨ob,0,none⟩)],.slice (some ⟨kb,0,none⟩) kn kc] w λe W'=>e=.returned (.tuple #[])/\W'.cell? ⟨ob,0,none⟩=some (.string v)/\P W')):
 Calls Tryz.prog 108 #[.pointer (some ⟨r,0,none⟩),.int .i64 k,.slice (some ⟨kb,0,none⟩) kn kc] W λe W'=>e=.returned (.string v)/\P W':=by
 go_enter Tryz.func108,Tryz.ntmps108
 go_wp2_with fail
 refine(n1.out _ W.heap.size (W.heap.size+1) ?_ ?_ ?_ (by omega) (by omega) (by omega)).mono ?_
 ·exact Lib.cell?_alloc_some _ (by rw[cell_of_row _ _ _ _ _ _ (aC W _)];rfl)
 ·have h:=aC (W.alloc (Obj.cells #[.int .i64 k] 3)) (Obj.cells #[.string ⟨#[]⟩] 9)
  rwa [show(W.alloc (Obj.cells #[.int .i64 k] 3)).heap.size=W.heap.size+1 from by simp]at h
 ·exact((Below.refl _ _).alloc (Nat.le_refl _) _).alloc (by simp) _
 rintro x w' ⟨rfl,hv,hp⟩
 clear n1
 go_wp2_with fail
 go_ret
 exact⟨rfl,hp⟩
theorem Tch.fresh {r ob:Nat}{W W1 W':World}(hb:Below W.heap.size W W1)(h:Tch r ob W1 W')(EK:W.heap.size<=ob):Tch r r W W':=
 ⟨h.os.trans hb.os,h.tape.trans hb.tape,h.output.trans hb.output,Nat.le_trans hb.size h.size,λj hj h1 _=>(h.block j (Nat.lt_of_lt_of_le hj hb.size) h1 (by omega)).trans (hb.block j hj)⟩
def mR (W0:World):Prop:=∀w,Below W0.heap.size W0 w->kK w
theorem fw.below {W w:World}{r tb cap:Nat}{l:List Ps.Tok}{st:Ps.St}(h:fw W r tb cap l st)(hb:Below W.heap.size W w):fw w r tb cap l st:=by
 obtain⟨a,o,e,hr,ht,rest⟩:=h
 refine⟨a,o,e,(hb.block r (Array.getElem?_eq_some_iff.1 hr).1).trans hr,λj x hx=>?_,rest⟩
 obtain⟨t0,t1,t2⟩:=ht j x hx
 have up:∀{p:Addr} {v:Value},W.cell? p=some v->w.cell? p=some v:=λhp=>(hb.cell (World.block_lt_of_cell? W _ hp)).trans hp
 exact⟨up t0,up t1,up t2⟩
theorem fw.lt {W:World}{r tb cap:Nat}{l:List Ps.Tok}{st:Ps.St}(h:fw W r tb cap l st):r<W.heap.size/\tb<W.heap.size:=by
 obtain⟨a,o,e,hr,ht,hne,hpos,_⟩:=h
 obtain⟨x,hx⟩:∃x,l[0]? =some x:=⟨_,List.getElem?_eq_getElem hpos⟩
 exact⟨(Array.getElem?_eq_some_iff.1 hr).1,World.block_lt_of_cell? W _ (ht 0 x hx).1⟩
theorem zo (k:Nat)(s:ByteArray):(if (aS k s==0)=true then(0:Int)else 6)=dz k s:=by
 unfold dz
 by_cases h:aS k s=0
 ·rw[if_pos h,if_pos (by simpa using h)]
 ·rw[if_neg h,if_neg (by simpa using h)]
theorem GQ (l:List Ps.Tok)(ks:List Int)(k:Nat)(st:Ps.St):
 (match ed l ks st with|some s=>if dz k s=0 then s else⟨#[]⟩|none=>⟨#[]⟩)=(Ps.step (Ps.take l (λs=>(s,dz k s)) ks) ⟨#[]⟩ st).1:=by
 cases st with
 |error e=>rfl
 |ok a=>
  cases kL:l[a]? with
  |none=>
   have hw:Ps.take l (λs=>(s,dz k s)) ks a=.error (Ps.short l):=by simp only[Ps.take,kL]
   rw[Ps.bF hw]
   simp only[ed,kL]
  |some t=>
   by_cases hkd:t.1∈ks
   ·by_cases hc:dz k t.2.1=0
    ·have hw:Ps.take l (λs=>(s,dz k s)) ks a=.ok (t.2.1,a+1):=by simp only[Ps.take,kL,if_pos hkd,if_pos hc]
     rw[Ps.step_ok hw]
     simp only[ed,kL,if_pos hkd,if_pos hc]
    ·have hw:Ps.take l (λs=>(s,dz k s)) ks a=.error (Ps.av l a,dz k t.2.1):=by simp only[Ps.take,kL,if_pos hkd,if_neg hc]
     rw[Ps.bF hw]
     simp only[ed,kL,if_pos hkd,if_neg hc]
   ·have hw:Ps.take l (λs=>(s,dz k s)) ks a=.error (Ps.av l a,30):=by simp only[Ps.take,kL,if_neg hkd]
    rw[Ps.bF hw]
    simp only[ed,kL,if_neg hkd]
theorem kD {W0 W:World}{r tb cap:Nat}{l:List Ps.Tok}{st:Ps.St}(h:fw W r tb cap l st)(hl:fq l)(env:mR W0)(hW:Below W0.heap.size W0 W)(hr0:W0.heap.size<=r)(k:Nat)(hk3:k<3)
 (kb kc:Nat) (ks:List Int) (hkb:kb≠r) (hkc:ks.length<=kc) (hkl:ks.length<=100) (hk:∀(j:Nat) (x:Int),ks[j]? =some x->W.cell? ⟨kb,j,none⟩=some (.int .i64 x)):
 Calls Tryz.prog 108 #[.pointer (some ⟨r,0,none⟩),.int .i64 k,.slice (some ⟨kb,0,none⟩) ks.length kc] W λe W'=>
  e=.returned (.string (Ps.step (Ps.take l (λs=>(s,dz k s)) ks) ⟨#[]⟩ st).1)/\fw W' r tb cap l (Ps.step (Ps.take l (λs=>(s,dz k s)) ks) ⟨#[]⟩ st).2/\Tch r r W W':=by
 refine ps_idL W r k kb ks.length kc _ _ (Lib.hid λw kx ob hkx EK hbw hob0 hkx0 hne=>?_)
 have hlt:=h.lt
 have hs:=h.below hbw
 obtain⟨val,hval⟩:∃val:Option ByteArray->ByteArray,val=λs=>match s with|some s=>if dz k s=0 then s else⟨#[]⟩|none=>⟨#[]⟩:=⟨_,rfl⟩
 have hB0:Below W0.heap.size W0 w:=hW.trans (hbw.mono hW.size)
 refine(JQ hs hl 188 (.pointer (some ⟨kx,0,none⟩)) (.pointer (some ⟨ob,0,none⟩)) kb kc ob ks hkb hkc hkl (λj x hx=>(hbw.cell (World.block_lt_of_cell? W _ (hk j x hx))).trans (hk j x hx)) (by omega) (by omega) (dz k)
  (λs w'=>w'.heap[ob]? =some (.cells #[.string (val s)] 9 (0,0))/\w'.cell? ⟨kx,0,none⟩=some (.int .i64 k)/\Below W0.heap.size W0 w') ?_ ?_
  (enters_of Tryz.func188 (by kernel_rfl) rfl) ?_).mono ?_
 ·rintro s w1 w2 ⟨x1,x2,x3⟩ hT
  exact⟨(hT.block ob (Array.getElem?_eq_some_iff.1 x1).1 (by omega) (by omega)).trans x1,hT.cell x2 (by show kx≠r;omega) (by show kx≠r;omega),x3.trans (hT.below hr0 hr0 x3.size)⟩
 ·rw[hval];exact⟨EK,hkx,hB0⟩
 ·rintro s w1 ⟨x1,x2,x3⟩ hsz
  have hn:val none=⟨#[]⟩:=by rw[hval]
  rw[hn]at x1
  refine(L9 k w1 s kx ob (.string ⟨#[]⟩) _ x2 x1 (LC k hk3 s w1 (by omega) (env w1 x3))).mono ?_
  rintro e w2 ⟨rfl,y1,y2⟩
  refine⟨by rw[zo],⟨?_,y2.cell x2 hne hne,x3.trans (y2.below (by have:=hW.size;omega) (by have:=hW.size;omega) x3.size)⟩,y2⟩
  rw[y1,hval]
  have hc:=zo k s
  by_cases hv:(aS k s==0)=true
  ·rw[if_pos hv]at hc⊢
   simp only[<-hc,if_true]
  ·rw[if_neg hv]at hc⊢
   simp only[<-hc]
   rfl
 ·rintro e w2 ⟨rfl,y1,y2,y3,y4,y5⟩
  refine⟨rfl,?_,y1,Tch.fresh hbw y2 hob0⟩
  rw[cell_of_row _ _ _ _ _ _ y3,hval,<-GQ l ks k st]
  rfl
structure gM (W0 W:World)(r tb cap:Nat)(l:List Ps.Tok)(st:Ps.St):Prop where
 rd:fw W r tb cap l st
 base:Below W0.heap.size W0 W
 r0:W0.heap.size<=r
theorem gM.next {W0 W W':World}{r tb cap:Nat}{l:List Ps.Tok}{st st':Ps.St}(h:gM W0 W r tb cap l st)(hr:fw W' r tb cap l st')(hT:Tch r r W W'):gM W0 W' r tb cap l st':=
 ⟨hr,h.base.trans (hT.below h.r0 h.r0 h.base.size),h.r0⟩
theorem gM.below {W0 W W':World}{r tb cap:Nat}{l:List Ps.Tok}{st:Ps.St}(h:gM W0 W r tb cap l st)(hb:Below W.heap.size W W'):gM W0 W' r tb cap l st:=
 ⟨h.rd.below hb,h.base.trans (hb.mono h.base.size),h.r0⟩
def wV (l:List Ps.Tok):Ps.P ByteArray:=Ps.take l (λs=>(s,dz 2 s)) [1,2,4]
def wD (l:List Ps.Tok):Ps.P ByteArray:=Ps.take l (λs=>(s,dz 1 s)) [1]
def Nf (l:List Ps.Tok):Ps.P ByteArray:=Ps.take l (λs=>(s,dz 0 s)) [1]
def qW (f:Nat)(W0:World)(l:List Ps.Tok)(p:Ps.P ByteArray):Prop:=
 ∀(W:World) (r tb cap:Nat) (st:Ps.St),gM W0 W r tb cap l st->Calls Tryz.prog f #[.pointer (some ⟨r,0,none⟩)] W λe W'=>
  e=.returned (.string (Ps.step p ⟨#[]⟩ st).1)/\gM W0 W' r tb cap l (Ps.step p ⟨#[]⟩ st).2/\Tch r r W W'
theorem xR {W:World}{cs:Array Value}{t:TypeId}(ks:List Int)(hcs:cs.toList=ks.map λk=>Value.int .i64 k)(j:Nat)(x:Int)(hx:ks[j]? =some x):(W.alloc (.cells cs t)).cell? ⟨W.heap.size,j,none⟩=some (.int .i64 x):=by
 rw[cell_of_row _ _ _ _ _ _ (aC W _),<-Array.getElem?_toList,hcs,List.getElem?_map,hx]
 rfl
theorem SC (W:World)(r:Nat)(v:ByteArray)(P:World->Prop)
 (n1:Hid (∀w,w=W.alloc (.cells #[.int .i64 1,.int .i64 2,.int .i64 4] 3)->Calls Tryz.prog 108 #[.pointer (some ⟨r,0,none⟩),.int .i64 2,.slice (some ⟨W.heap.size,0,none⟩) 3 3] w λe W'=>e=.returned (.string v)/\P W')):
 Calls Tryz.prog 53 #[.pointer (some ⟨r,0,none⟩)] W λe W'=>e=.returned (.string v)/\P W':=by
 go_enter Tryz.func53,Tryz.ntmps53
 go_wp2_with fail
 refine(n1.out _ rfl).mono ?_
 rintro e w ⟨rfl,hp⟩
 clear n1
 go_wp2_with fail
 go_ret
 exact⟨rfl,hp⟩
theorem Gt (W:World)(r:Nat)(v:ByteArray)(P:World->Prop)
 (n1:Hid (∀w,w=W.alloc (.cells #[.int .i64 1] 3)->Calls Tryz.prog 108 #[.pointer (some ⟨r,0,none⟩),.int .i64 1,.slice (some ⟨W.heap.size,0,none⟩) 1 1] w λe W'=>e=.returned (.string v)/\P W')):
 Calls Tryz.prog 223 #[.pointer (some ⟨r,0,none⟩)] W λe W'=>e=.returned (.string v)/\P W':=by
 go_enter Tryz.func223,Tryz.ntmps223
 go_wp2_with fail
 refine(n1.out _ rfl).mono ?_
 rintro e w ⟨rfl,hp⟩
 clear n1
 go_wp2_with fail
 go_ret
 exact⟨rfl,hp⟩
theorem Mj (W:World)(r:Nat)(v:ByteArray)(P:World->Prop)
 (n1:Hid (∀w,w=W.alloc (.cells #[.int .i64 1] 3)->Calls Tryz.prog 108 #[.pointer (some ⟨r,0,none⟩),.int .i64 0,.slice (some ⟨W.heap.size,0,none⟩) 1 1] w λe W'=>e=.returned (.string v)/\P W')):
 Calls Tryz.prog 231 #[.pointer (some ⟨r,0,none⟩)] W λe W'=>e=.returned (.string v)/\P W':=by
 go_enter Tryz.func231,Tryz.ntmps231
 go_wp2_with fail
 refine(n1.out _ rfl).mono ?_
 rintro e w ⟨rfl,hp⟩
 clear n1
 go_wp2_with fail
 go_ret
 exact⟨rfl,hp⟩
theorem Tch.after {r:Nat}{W W1 W':World}(hb:Below W.heap.size W W1)(h:Tch r r W1 W'):Tch r r W W':=(Tch.of_below hb).trans h
theorem Po {W0:World}{l:List Ps.Tok}(hl:fq l)(env:mR W0):qW 53 W0 l (wV l):=λW r tb cap st h=>by
 refine SC W r _ _ (Lib.hid λw hw=>?_)
 have hb:Below W.heap.size W w:=by rw[hw];exact(Below.refl _ _).alloc (Nat.le_refl _) _
 have h1:=h.below hb
 have hlt:=h.rd.lt
 refine(kD h1.rd hl env h1.base h1.r0 2 (by decide) W.heap.size 3 [1,2,4] (by omega) (by decide) (by decide) (λj x hx=>by rw[hw];exact xR [1,2,4] rfl j x hx)).mono ?_
 rintro e W' ⟨rfl,h2,h3⟩
 exact⟨rfl,h1.next h2 h3,h3.after hb⟩
theorem zb {W0:World}{l:List Ps.Tok}(hl:fq l)(env:mR W0):qW 223 W0 l (wD l):=λW r tb cap st h=>by
 refine Gt W r _ _ (Lib.hid λw hw=>?_)
 have hb:Below W.heap.size W w:=by rw[hw];exact(Below.refl _ _).alloc (Nat.le_refl _) _
 have h1:=h.below hb
 have hlt:=h.rd.lt
 refine(kD h1.rd hl env h1.base h1.r0 1 (by decide) W.heap.size 1 [1] (by omega) (by decide) (by decide) (λj x hx=>by rw[hw];exact xR [1] rfl j x hx)).mono ?_
 rintro e W' ⟨rfl,h2,h3⟩
 exact⟨rfl,h1.next h2 h3,h3.after hb⟩
theorem RX {W0:World}{l:List Ps.Tok}(hl:fq l)(env:mR W0):qW 231 W0 l (Nf l):=λW r tb cap st h=>by
 refine Mj W r _ _ (Lib.hid λw hw=>?_)
 have hb:Below W.heap.size W w:=by rw[hw];exact(Below.refl _ _).alloc (Nat.le_refl _) _
 have h1:=h.below hb
 have hlt:=h.rd.lt
 refine(kD h1.rd hl env h1.base h1.r0 0 (by decide) W.heap.size 1 [1] (by omega) (by decide) (by decide) (λj x hx=>by rw[hw];exact xR [1] rfl j x hx)).mono ?_
 rintro e W' ⟨rfl,h2,h3⟩
 exact⟨rfl,h1.next h2 h3,h3.after hb⟩
theorem zT {W0 W:World}{r tb cap:Nat}{l:List Ps.Tok}{st:Ps.St}(hl:fq l)(h:gM W0 W r tb cap l st)(s:ByteArray):
 Calls Tryz.prog 179 #[.pointer (some ⟨r,0,none⟩),.string s] W λe W'=>e=.returned (.tuple #[])/\gM W0 W' r tb cap l (Ps.step (Ps.word l s.data.toList) () st).2/\Tch r r W W':=
 (SY h.rd hl s).mono λ_ _ ⟨h1,h2,h3⟩=>⟨h1,h.next h2 h3,h3⟩
theorem ps_byL (W:World)(r:Nat)(v:ByteArray)(P Q:World->Prop)
 (n1:Calls Tryz.prog 179 #[.pointer (some ⟨r,0,none⟩),.string ⟨#[98,121]⟩] W λe W'=>e=.returned (.tuple #[])/\P W')
 (n2:Hid (∀w,P w->Calls Tryz.prog 223 #[.pointer (some ⟨r,0,none⟩)] w λe W'=>e=.returned (.string v)/\Q W')):
 Calls Tryz.prog 185 #[.pointer (some ⟨r,0,none⟩)] W λe W'=>e=.returned (.string v)/\Q W':=by
 go_enter Tryz.func185,Tryz.ntmps185
 go_wp2_with fail
 refine n1.mono ?_
 rintro e w ⟨rfl,hp⟩
 have m2:=n2.out w hp
 clear n1 n2
 go_wp2_with fail
 refine m2.mono ?_
 rintro e w2 ⟨rfl,hq⟩
 clear m2
 go_wp2_with fail
 go_ret
 exact⟨rfl,hq⟩
def UI (l:List Ps.Tok):Ps.P ByteArray:=Ps.bind' (Ps.word l Ps.sBy) λ_=>wD l
theorem ps_by {W0:World}{l:List Ps.Tok}(hl:fq l)(env:mR W0):qW 185 W0 l (UI l):=λW r tb cap st h=>by
 unfold UI
 rw[Ps.Ki _ _ () _ st]
 refine ps_byL W r _ (λw=>gM W0 w r tb cap l (Ps.step (Ps.word l Ps.sBy) () st).2/\Tch r r W w) _ (zT hl h ⟨#[98,121]⟩) (Lib.hid λw hw=>?_)
 exact(zb hl env w r tb cap _ hw.1).mono λe W' ⟨h1,h2,h3⟩=>⟨h1,h2,hw.2.trans h3⟩
theorem Qd {α β:Type}(l:List Ps.Tok)(F:ByteArray->α×Int)(G:ByteArray->β×Int)(h:∀s,(F s).2=(G s).2)(ks:List Int)(z:α)(z':β)(st:Ps.St):(Ps.step (Ps.take l F ks) z st).2=(Ps.step (Ps.take l G ks) z' st).2:=by
 cases st with
 |error e=>rfl
 |ok a=>
  cases kL:l[a]? with
  |none=>
   have h1:Ps.take l F ks a=.error (Ps.short l):=by simp only[Ps.take,kL]
   have h2:Ps.take l G ks a=.error (Ps.short l):=by simp only[Ps.take,kL]
   rw[Ps.bF h1,Ps.bF h2]
  |some t=>
   by_cases hkd:t.1∈ks
   ·by_cases hc:(F t.2.1).2=0
    ·have hg:(G t.2.1).2=0:=by rw[<-h];exact hc
     have h1:Ps.take l F ks a=.ok ((F t.2.1).1,a+1):=by simp only[Ps.take,kL,if_pos hkd,if_pos hc]
     have h2:Ps.take l G ks a=.ok ((G t.2.1).1,a+1):=by simp only[Ps.take,kL,if_pos hkd,if_pos hg]
     rw[Ps.step_ok h1,Ps.step_ok h2]
    ·have hg:¬(G t.2.1).2=0:=by rw[<-h];exact hc
     have h1:Ps.take l F ks a=.error (Ps.av l a,(F t.2.1).2):=by simp only[Ps.take,kL,if_pos hkd,if_neg hc]
     have h2:Ps.take l G ks a=.error (Ps.av l a,(G t.2.1).2):=by simp only[Ps.take,kL,if_pos hkd,if_neg hg]
     rw[Ps.bF h1,Ps.bF h2,h]
   ·have h1:Ps.take l F ks a=.error (Ps.av l a,30):=by simp only[Ps.take,kL,if_neg hkd]
    have h2:Ps.take l G ks a=.error (Ps.av l a,30):=by simp only[Ps.take,kL,if_neg hkd]
    rw[Ps.bF h1,Ps.bF h2]
theorem GD (l:List Ps.Tok)(ks:List Int)(F:ByteArray->Int×Int)(hF:∀s,(F s).2≠0->(F s).1=0)(st:Ps.St):
 (match ed l ks st with|some s=>(F s).1|none=>0)=(Ps.step (Ps.take l F ks) 0 st).1:=by
 cases st with
 |error e=>rfl
 |ok a=>
  cases kL:l[a]? with
  |none=>
   have hw:Ps.take l F ks a=.error (Ps.short l):=by simp only[Ps.take,kL]
   rw[Ps.bF hw]
   simp only[ed,kL]
  |some t=>
   by_cases hkd:t.1∈ks
   ·by_cases hc:(F t.2.1).2=0
    ·have hw:Ps.take l F ks a=.ok ((F t.2.1).1,a+1):=by simp only[Ps.take,kL,if_pos hkd,if_pos hc]
     rw[Ps.step_ok hw]
     simp only[ed,kL,if_pos hkd]
    ·have hw:Ps.take l F ks a=.error (Ps.av l a,(F t.2.1).2):=by simp only[Ps.take,kL,if_pos hkd,if_neg hc]
     rw[Ps.bF hw]
     simp only[ed,kL,if_pos hkd]
     exact hF _ hc
   ·have hw:Ps.take l F ks a=.error (Ps.av l a,30):=by simp only[Ps.take,kL,if_neg hkd]
    rw[Ps.bF hw]
    simp only[ed,kL,if_neg hkd]
def oP (g:Nat)(W0:World)(F:ByteArray->Int×Int):Prop:=
 (∀args w,(callFunc g args).run Tryz.prog w=.ok (.enter g args) w)/\(∀s,(F s).2≠0->(F s).1=0)/\
 ∀w (s:ByteArray),Below W0.heap.size W0 w->s.size<=1000000->Calls Tryz.prog g #[.string s] w λe W'=>e=.returned (.tuple #[.int .i64 (F s).1,.int .i64 (F s).2])/\Below w.heap.size w W'
theorem H9 (w:World)(s:ByteArray)(g kx ob:Nat)(u:Value)(n x:Int)(hk:w.cell? ⟨kx,0,none⟩=some (.func (.func g) #[] #[]))(ho:w.heap[ob]? =some (.cells #[u] 2 (0,0)))
 (eg:∀args w,(callFunc g args).run Tryz.prog w=.ok (.enter g args) w)
 (n1:Calls Tryz.prog g #[.string s] w λe w'=>e=.returned (.tuple #[.int .i64 n,.int .i64 x])/\Below w.heap.size w w'):
 Calls Tryz.prog 252 #[.string s,.pointer (some ⟨kx,0,none⟩),.pointer (some ⟨ob,0,none⟩)] w λe w'=>e=.returned (.int .i64 x)/\w'.heap[ob]? =some (.cells #[.int .i64 n] 2 (0,0))/\Tch ob ob w w':=by
 have HO:=Lib.hid ho
 clear ho
 go_enter Tryz.func252,Tryz.ntmps252
 go_wp2_with (go_at_fn g;refine n1.mono ?_;rintro e w' ⟨rfl,hb⟩;have HR:=Lib.hid ((hb.block ob (Array.getElem?_eq_some_iff.1 HO.out).1).trans HO.out);have f0:=aV 0 HR.out;have z0:w'.cell? ⟨ob,0,none⟩=some u:=(by rw[cell_of_row _ _ _ _ _ _ HR.out];rfl);have HB:=Lib.hid hb;clear hb)
 go_ret
 exact⟨rfl,ai w' ob 0 _ _ _ HR.out,(Tch.of_below HB.out).setCell 0 _⟩
theorem Ka (W:World)(r g:Nat)(kd v:Int)(P:World->Prop)
 (n1:Hid (∀w kx ob kb,w.cell? ⟨kx,0,none⟩=some (.func (.func g) #[] #[])->w.heap[ob]? =some (.cells #[.int .i64 0] 2 (0,0))->w.cell? ⟨kb,0,none⟩=some (.int .i64 kd)->Below W.heap.size W w->W.heap.size<=ob->W.heap.size<=kx->W.heap.size<=kb->kx≠ob->
  Calls Tryz.prog 187 #[.pointer (some ⟨r,0,none⟩),.func (.func 252) #[] #[.pointer (some ⟨kx,0,none⟩),.pointer (some ⟨ob,0,none⟩)],.slice (some ⟨kb,0,none⟩) 1 1] w λe W'=>e=.returned (.tuple #[])/\W'.cell? ⟨ob,0,none⟩=some (.int .i64 v)/\P W')):
 Calls Tryz.prog 224 #[.pointer (some ⟨r,0,none⟩),.func (.func g) #[] #[],.int .i64 kd] W λe W'=>e=.returned (.int .i64 v)/\P W':=by
 go_enter Tryz.func224,Tryz.ntmps224
 go_wp2_with fail
 refine(n1.out _ W.heap.size (W.heap.size+1) (W.heap.size+1+1) ?_ ?_ ?_ ?_ (by omega) (by omega) (by omega) (by omega)).mono ?_
 ·exact Lib.cell?_alloc_some _ (Lib.cell?_alloc_some _ (by rw[cell_of_row _ _ _ _ _ _ (aC W _)];rfl))
 ·rw[Below.heap_alloc _ _ _ (by simp)]
  have h:=aC (W.alloc (Obj.cells #[.func (.func g) #[] #[]] 242)) (Obj.cells #[.int .i64 0] 2)
  rwa [show(W.alloc (Obj.cells #[.func (.func g) #[] #[]] 242)).heap.size=W.heap.size+1 from by simp]at h
 ·have h:=aC ((W.alloc (Obj.cells #[.func (.func g) #[] #[]] 242)).alloc (Obj.cells #[.int .i64 0] 2)) (Obj.cells #[.int .i64 kd] 3)
  rw[show((W.alloc (Obj.cells #[.func (.func g) #[] #[]] 242)).alloc (Obj.cells #[.int .i64 0] 2)).heap.size=W.heap.size+1+1 from by simp]at h
  rw[cell_of_row _ _ _ _ _ _ h];rfl
 ·exact(((Below.refl _ _).alloc (Nat.le_refl _) _).alloc (by simp) _).alloc (by simp;omega) _
 rintro x w' ⟨rfl,hv,hp⟩
 clear n1
 go_wp2_with fail
 go_ret
 exact⟨rfl,hp⟩
theorem vZ {W0 W:World}{r tb cap:Nat}{l:List Ps.Tok}{st:Ps.St}(hl:fq l)(h:gM W0 W r tb cap l st)(g:Nat)(F:ByteArray->Int×Int)(hg:oP g W0 F)(kd:Int):
 Calls Tryz.prog 224 #[.pointer (some ⟨r,0,none⟩),.func (.func g) #[] #[],.int .i64 kd] W λe W'=>
  e=.returned (.int .i64 (Ps.step (Ps.take l F [kd]) 0 st).1)/\gM W0 W' r tb cap l (Ps.step (Ps.take l F [kd]) 0 st).2/\Tch r r W W':=by
 obtain⟨eg,hF,hc⟩:=hg
 refine Ka W r g kd _ _ (Lib.hid λw kx ob kb hkx EK hkb hbw hob0 hkx0 hkb0 hne=>?_)
 have hlt:=h.rd.lt
 have h1:=h.below hbw
 obtain⟨val,hval⟩:∃val:Option ByteArray->Int,val=λs=>match s with|some s=>(F s).1|none=>0:=⟨_,rfl⟩
 refine(JQ h1.rd hl 252 (.pointer (some ⟨kx,0,none⟩)) (.pointer (some ⟨ob,0,none⟩)) kb 1 ob [kd] (by omega) (by simp) (by simp)
  (λj x hx=>by
   cases j with
   |zero=>obtain rfl:kd=x:=by simpa using hx
          exact hkb
   |succ j=>simp at hx) (by omega) (by omega) (λs=>(F s).2)
  (λs w'=>w'.heap[ob]? =some (.cells #[.int .i64 (val s)] 2 (0,0))/\w'.cell? ⟨kx,0,none⟩=some (.func (.func g) #[] #[])/\Below W0.heap.size W0 w') ?_ ?_
  (enters_of Tryz.func252 (by kernel_rfl) rfl) ?_).mono ?_
 ·rintro s w1 w2 ⟨x1,x2,x3⟩ hT
  exact⟨(hT.block ob (Array.getElem?_eq_some_iff.1 x1).1 (by omega) (by omega)).trans x1,hT.cell x2 (by show kx≠r;omega) (by show kx≠r;omega),x3.trans (hT.below h.r0 h.r0 x3.size)⟩
 ·rw[hval];exact⟨EK,hkx,h1.base⟩
 ·rintro s w1 ⟨x1,x2,x3⟩ hsz
  refine(H9 w1 s g kx ob _ (F s).1 (F s).2 x2 x1 eg (hc w1 s x3 hsz)).mono ?_
  rintro e w2 ⟨rfl,y1,y2⟩
  have hB:W0.heap.size<=ob:=by have:=h.base.size;omega
  exact⟨rfl,⟨by rw[y1,hval],y2.cell x2 hne hne,x3.trans (y2.below hB hB x3.size)⟩,y2⟩
 ·rintro e w2 ⟨rfl,y1,y2,y3,y4,y5⟩
  have hT:=Tch.fresh hbw y2 hob0
  rw[Qd l (λs=>(s,(F s).2)) F (λ_=>rfl) [kd] ⟨#[]⟩ 0 st]at y1
  refine⟨rfl,?_,h.next y1 hT,hT⟩
  rw[cell_of_row _ _ _ _ _ _ y3,hval,<-GD l [kd] F hF st]
  rfl
def xy (f:Nat)(W0:World)(l:List Ps.Tok)(p:Ps.P Int):Prop:=
 ∀(W:World) (r tb cap:Nat) (st:Ps.St),gM W0 W r tb cap l st->Calls Tryz.prog f #[.pointer (some ⟨r,0,none⟩)] W λe W'=>
  e=.returned (.int .i64 (Ps.step p 0 st).1)/\gM W0 W' r tb cap l (Ps.step p 0 st).2/\Tch r r W W'
theorem RP {W0:World}{l:List Ps.Tok}(hl:fq l)(F:ByteArray->Int×Int)(hF:oP 225 W0 F):xy 180 W0 l (Ps.take l F [3]):=λW r tb cap st h=>by
 have n1:=vZ hl h 225 F hF 3
 generalize Ps.step (Ps.take l F [3]) 0 st=x at *
 clear h hF hl
 go_enter Tryz.func180,Tryz.ntmps180
 go_wp2_with fail
 refine n1.mono ?_
 rintro e w ⟨rfl,h1,h2⟩
 clear n1
 go_wp2_with fail
 go_ret
 exact⟨rfl,h1,h2⟩
theorem DK {W0:World}{l:List Ps.Tok}(hl:fq l)(F:ByteArray->Int×Int)(hF:oP 257 W0 F):xy 230 W0 l (Ps.take l F [2]):=λW r tb cap st h=>by
 have n1:=vZ hl h 257 F hF 2
 generalize Ps.step (Ps.take l F [2]) 0 st=x at *
 clear h hF hl
 go_enter Tryz.func230,Tryz.ntmps230
 go_wp2_with fail
 refine n1.mono ?_
 rintro e w ⟨rfl,h1,h2⟩
 clear n1
 go_wp2_with fail
 go_ret
 exact⟨rfl,h1,h2⟩
theorem ps_day {W0:World}{l:List Ps.Tok}(hl:fq l)(F:ByteArray->Int×Int)(hF:oP 226 W0 F):xy 181 W0 l (Ps.take l F [4]):=λW r tb cap st h=>by
 have n1:=vZ hl h 226 F hF 4
 generalize Ps.step (Ps.take l F [4]) 0 st=x at *
 clear h hF hl
 go_enter Tryz.func181,Tryz.ntmps181
 go_wp2_with fail
 refine n1.mono ?_
 rintro e w ⟨rfl,h1,h2⟩
 clear n1
 go_wp2_with fail
 go_ret
 exact⟨rfl,h1,h2⟩
def bz (W0 W:World)(r tb cap q:Nat)(l:List Ps.Tok)(st:Ps.St)(cs:Array Value)(w:World):Prop:=
 gM W0 w r tb cap l st/\w.heap[q]? =some (.cells cs 37 (0,0))/\Tch r q W w/\q≠r/\q≠tb/\W0.heap.size<=q
theorem bz.step {W0 W:World}{r tb cap q:Nat}{l:List Ps.Tok}{st st':Ps.St}{cs:Array Value}{w w':World}(h:bz W0 W r tb cap q l st cs w)(h1:gM W0 w' r tb cap l st')(h2:Tch r r w w'):bz W0 W r tb cap q l st' cs w':=by
 obtain⟨a,b,c,d,e,f⟩:=h
 exact⟨h1,(h2.block q (Array.getElem?_eq_some_iff.1 b).1 d d).trans b,c.trans h2.left,d,e,f⟩
theorem bz.cell {W0 W:World}{r tb cap q:Nat}{l:List Ps.Tok}{st:Ps.St}{cs:Array Value}{w:World}(h:bz W0 W r tb cap q l st cs w)(j:Nat)(hj:j<cs.size):(∃u,w.cell? ⟨q,j,none⟩=some u)/\w.frozen? ⟨q,j,none⟩=false:=by
 obtain⟨a,b,c,d,e,f⟩:=h
 exact⟨⟨cs[j],by rw[cell_of_row _ _ _ _ _ _ b];exact Array.getElem?_eq_getElem hj⟩,aV j b⟩
theorem bz.store {W0 W:World}{r tb cap q:Nat}{l:List Ps.Tok}{st:Ps.St}{cs:Array Value}{w:World}(h:bz W0 W r tb cap q l st cs w)(j:Nat)(v:Value):bz W0 W r tb cap q l st (cs.setIfInBounds j v) (w.setCell ⟨q,j,none⟩ v):=by
 obtain⟨a,b,c,d,e,f⟩:=h
 have hT:Tch q q w (w.setCell ⟨q,j,none⟩ v):=(Tch.refl _ _ _).setCell j v
 refine⟨⟨?_,a.base.trans (hT.below f f a.base.size),a.r0⟩,ai w q j _ _ _ b,c.trans hT.right,d,e,f⟩
 obtain⟨x,o,er,hr,ht,hne,rest⟩:=a.rd
 exact⟨x,o,er,(hT.block r (Array.getElem?_eq_some_iff.1 hr).1 (Ne.symm d) (Ne.symm d)).trans hr,ht.tch hT (Ne.symm e) (Ne.symm e),hne,rest⟩
def prN:List ByteArray:=[⟨#[110,111,114,109,97,108]⟩,⟨#[104,105,103,104]⟩,⟨#[117,114,103,101,110,116]⟩]
def uW (w:World):Prop:=∀(j:Nat) (s:ByteArray),prN[j]? =some s->w.cell? ⟨3,j,none⟩=some (.string s)
theorem QQ (w:World)(g j:Nat)(s:ByteArray)(h0:¬(j:Int)<0)(h1:¬(3:Int)<=(j:Int))(h2:(j:Int)<3)(_hj:j<3)(hc:w.cell? ⟨g,j,none⟩=some (.string s)):
 Calls Tryz.prog 127 #[.slice (some ⟨g,0,none⟩) 3 3,.int .i64 j] w λe w'=>e=.returned (.string s)/\w=w':=by
 go_enter Tryz.func127,Tryz.ntmps127
 go_wp2_with fail
 go_ret
 exact⟨rfl,rfl⟩
theorem Dk (w:World)(j:Nat)(s:ByteArray)(n1:Calls Tryz.prog 127 #[.slice (some ⟨3,0,none⟩) 3 3,.int .i64 j] w λe w'=>e=.returned (.string s)/\w=w'):
 Calls Tryz.prog 128 #[.int .i64 j] w λe w'=>e=.returned (.string s)/\w=w':=by
 go_enter Tryz.func128,Tryz.ntmps128
 go_wp2_with fail
 refine n1.mono ?_
 rintro e w1 ⟨rfl,rfl⟩
 clear n1
 go_wp2_with fail
 go_ret
 exact⟨rfl,rfl⟩
theorem oZ (w:World)(h:uW w)(j:Nat)(s:ByteArray)(hj:prN[j]? =some s):Calls Tryz.prog 128 #[.int .i64 j] w λe w'=>e=.returned (.string s)/\w=w':=by
 have hl:j<3:=(List.getElem?_eq_some_iff.1 hj).1
 exact Dk w j s (QQ w _ j s (by omega) (by omega) (by omega) hl (h j s hj))
theorem Bg (w:World):Calls Tryz.prog 228 #[.string ⟨#[]⟩] w λe w'=>e=.returned (.int .i64 (-1))/\w=w':=by
 go_enter Tryz.func228,Tryz.ntmps228
 go_wp2_with fail
 go_loopw [3] (λpv wr=>pv=.int .i64 0/\wr=w) (λ_ _=>0)
 case atStart=>exact⟨rfl,rfl⟩
 case round=>
  obtain⟨rfl,rfl⟩:=hrel
  go_wp2_with fail
  go_ret
  exact⟨rfl,rfl⟩
theorem NT (w:World)(s:ByteArray)(hs:(s.toList==([]:List UInt8))=false)(m:Option Nat)(v:Int)(hv:Hid (v=match m with|some j=>(j:Int)|none=> -1))
 (hm:Hid (∀(j:Nat) (t:ByteArray),prN[j]? =some t->(∀i,m=some i->j<=i)->((t.toList==s.toList)=true↔m=some j))) (hm3:∀i,m=some i->i<3)
 (n1:Hid (∀(j:Nat) (t:ByteArray),prN[j]? =some t->Calls Tryz.prog 128 #[.int .i64 j] w λe w'=>e=.returned (.string t)/\w=w')):
 Calls Tryz.prog 228 #[.string s] w λe w'=>e=.returned (.int .i64 v)/\w=w':=by
 go_enter Tryz.func228,Tryz.ntmps228
 go_wp2_with fail
 go_loopw [3] (λpv wr=>∃j:Nat,pv=.int .i64 j/\j<=3/\Hid (∀i,m=some i->j<=i)/\wr=w) (λpv _=>3-(RowKit.intOf pv).toNat)
 case atStart=>exact⟨0,rfl,by omega,Lib.hid (λ_ _=>Nat.zero_le _),rfl⟩
 case round=>
  obtain⟨j,rfl,hj,HJ,rfl⟩:=hrel
  by_cases hlt:j<3
  ·obtain⟨t,ht⟩:∃t,prN[j]? =some t:=⟨_,List.getElem?_eq_getElem (by exact hlt)⟩
   have m1:=n1.out j t ht
   have hq:=hm.out j t ht HJ.out
   have hjI:(j:Int)<=2:=by omega
   by_cases hmj:m=some j
   ·have hte:=hq.2 hmj
    have HV:Hid (v=(j:Int)):=Lib.hid (by rw[hv.out,hmj])
    clear hm3 hmj hq ht
    go_wp2_with fail
    refine m1.mono ?_
    rintro e w1 ⟨rfl,rfl⟩
    clear m1
    go_wp2_with fail
    go_ret
    rw[HV.out]
    exact⟨rfl,rfl⟩
   ·have hte:(t.toList==s.toList)=false:=by
     rw[Bool.eq_false_iff]
     exactλh=>hmj (hq.1 h)
    have HJ2:Hid (∀i,m=some i->j+1<=i):=Lib.hid (λi hi=>by
     have:=HJ.out i hi
     rcases Nat.lt_or_ge j i with h|h
     ·exact h
     ·exact absurd (by rw[hi];congr 1;omega) hmj)
    clear hm3 hmj hq ht
    go_wp2_with fail
    refine m1.mono ?_
    rintro e w1 ⟨rfl,rfl⟩
    clear m1
    go_wp2_with fail
    refine⟨⟨j+1,by go_num,by omega,HJ2,trivial⟩,by simp[RowKit.intOf]<;>omega⟩
  ·have hjI:¬(j:Int)<=2:=by omega
   have HV:Hid (v= -1):=Lib.hid (by
    rw[hv.out]
    cases hmi:m with
    |none=>rfl
    |some i=>have:=HJ.out i hmi;have:=hm3 i hmi;omega)
   clear hm3 hlt
   go_wp2_with fail
   go_ret
   rw[HV.out]
   exact⟨rfl,rfl⟩
def prM (s:ByteArray):Option Nat:=if s.data.toList=Ps.qL then some 0 else if s.data.toList=Ps.Ic then some 1 else if s.data.toList=Ps.vJ then some 2 else none
def prV (s:ByteArray):Int:=match prM s with|some j=>(j:Int)|none=> -1
theorem Em (s:ByteArray):Ps.prio s.data.toList=(prM s).map λj=>(j:Int):=by
 unfold Ps.prio prM
 split
 ·rfl
 ·split
  ·rfl
  ·split<;>rfl
theorem EP (w:World)(s:ByteArray)(h:uW w):Calls Tryz.prog 228 #[.string s] w λe w'=>e=.returned (.int .i64 (prV s))/\w=w':=by
 by_cases hs:s.data.toList=[]
 ·have e1:s=⟨#[]⟩:=by
   apply ByteArray.ext
   exact Array.toList_inj.1 hs
  subst e1
  exact Bg w
 ·refine NT w s (by rw[beq_eq_false_iff_ne,Lib.toList_data];exact hs) (prM s) _ (Lib.hid rfl) (Lib.hid λj t ht hle=>?_) (λi hi=>?_) (Lib.hid λj t ht=>oZ w h j t ht)
  ·have hl:j<3:=(List.getElem?_eq_some_iff.1 ht).1
   rw[beq_iff_eq,Lib.toList_data,Lib.toList_data]
   have key:∀(x:List UInt8),t.data.toList=x->(x=s.data.toList↔s.data.toList=x):=λx _=>eq_comm
   match j,hl with
   |0,_=>
    obtain rfl:t=⟨#[110,111,114,109,97,108]⟩:=(Option.some.inj ht).symm
    have e:(⟨#[110,111,114,109,97,108]⟩:ByteArray).data.toList=Ps.qL:=rfl
    rw[e]
    unfold prM
    constructor
    ·intro h;rw[if_pos h.symm]
    ·intro h
     by_cases hc:s.data.toList=Ps.qL
     ·exact hc.symm
     ·rw[if_neg hc]at h
      split at h
      ·cases h
      ·split at h<;>cases h
   |1,_=>
    obtain rfl:t=⟨#[104,105,103,104]⟩:=(Option.some.inj ht).symm
    have e:(⟨#[104,105,103,104]⟩:ByteArray).data.toList=Ps.Ic:=rfl
    rw[e]
    unfold prM
    constructor
    ·intro h
     rw[<-h,if_neg (by decide),if_pos rfl]
    ·intro h
     split at h
     ·cases h
     ·split at h
      ·rename_i hc;exact hc.symm
      ·split at h<;>cases h
   |2,_=>
    obtain rfl:t=⟨#[117,114,103,101,110,116]⟩:=(Option.some.inj ht).symm
    have e:(⟨#[117,114,103,101,110,116]⟩:ByteArray).data.toList=Ps.vJ:=rfl
    rw[e]
    unfold prM
    constructor
    ·intro h
     rw[<-h,if_neg (by decide),if_neg (by decide),if_pos rfl]
    ·intro h
     split at h
     ·cases h
     ·split at h
      ·cases h
      ·split at h
       ·rename_i hc;exact hc.symm
       ·cases h
  ·unfold prM at hi
   split at hi
   ·cases hi;decide
   ·split at hi
    ·cases hi;decide
    ·split at hi
     ·cases hi;decide
     ·cases hi
theorem FM (w:World)(r sb p:Nat)(P:World->Prop)(_h6:p<6)(hi:(p:Int)<6)(hc:w.cell? ⟨sb,p,none⟩=some (.bool true))
 (n1:Calls Tryz.prog 54 #[.pointer (some ⟨r,0,none⟩),.int .i64 7] w λe W'=>e=.returned (.tuple #[])/\P W'):
 Calls Tryz.prog 229 #[.pointer (some ⟨r,0,none⟩),.pointer (some ⟨sb,0,none⟩),.int .i64 p] w λe W'=>e=.returned (.bool false)/\P W':=by
 go_enter Tryz.func229,Tryz.ntmps229
 go_wp2_with fail
 refine n1.mono ?_
 rintro e w1 ⟨rfl,hp⟩
 clear n1
 go_wp2_with fail
 go_ret
 exact⟨rfl,hp⟩
theorem MC (w:World)(r sb p tb n cap a:Nat)(o e0:Int)(cs:Array Value)(t:TypeId)(_h6:p<6)(hi:(p:Int)<6)(hrow:w.heap[sb]? =some (.cells cs t (0,0)))(hcp:cs[p]? =some (.bool false))(hne:sb≠r)
 (hr:w.heap[r]? =some (.cells (bK tb n cap a o e0) 97 (0,0))) (hw1:wrap64 ((a:Int)+1)=((a+1:Nat):Int)):
 Calls Tryz.prog 229 #[.pointer (some ⟨r,0,none⟩),.pointer (some ⟨sb,0,none⟩),.int .i64 p] w λe W'=>e=.returned (.bool true)/\W'.heap[r]? =some (.cells (bK tb n cap (a+1) o e0) 97 (0,0))/\W'.heap[sb]? =some (.cells (cs.setIfInBounds p (.bool true)) t (0,0))/\Tch r sb w W':=by
 have hc:w.cell? ⟨sb,p,none⟩=some (.bool false):=by rw[cell_of_row _ _ _ _ _ _ hrow];exact hcp
 have fc:=aV p hrow
 obtain⟨w2,hw2⟩:∃w2,w2=w.setCell ⟨sb,p,none⟩ (.bool true):=⟨_,rfl⟩
 have hT:Tch sb sb w w2:=by rw[hw2];exact(Tch.refl _ _ _).setCell p _
 have hr2:w2.heap[r]? =some (.cells (bK tb n cap a o e0) 97 (0,0)):=(hT.block r (Array.getElem?_eq_some_iff.1 hr).1 (Ne.symm hne) (Ne.symm hne)).trans hr
 have hs2:w2.heap[sb]? =some (.cells (cs.setIfInBounds p (.bool true)) t (0,0)):=by rw[hw2];exact ai w sb p _ _ _ hrow
 have k1:=(dF hr2).2.1
 have f1:=aV 1 hr2
 have HT:=Lib.hid hT
 have HR2:=Lib.hid hr2
 have HS2:=Lib.hid hs2
 have HW2:=Lib.hid hw2
 clear hrow hcp hr hT hr2 hs2
 go_enter Tryz.func229,Tryz.ntmps229
 rw[hw2]at k1 f1
 clear hw2
 go_wp2_with fail
 go_ret
 rw[<-HW2.out]
 have hz:Tch r r w2 (w2.setCell ⟨r,1,none⟩ (.int .i64 ((a+1:Nat):Int))):=(Tch.refl _ _ _).setCell 1 _
 refine⟨rfl,?_,?_,?_⟩
 ·exact ai w2 r 1 _ _ _ HR2.out
 ·exact(hz.block sb (Array.getElem?_eq_some_iff.1 HS2.out).1 hne hne).trans HS2.out
 ·exact HT.out.right.trans hz.left
end Go.Proofs.YtnjjeapcalkmaaaGreatDoor
namespace Go.Proofs.YtnjjeapcalkmaaaGreatDoor.Ps
open Go
def Res {α:Type}(p:P α)(st st':St)(x:α):Prop:=match st with
 | .error e=>st'=.error e
 | .ok a=>match st' with
   | .ok b=>p a=.ok (x,b)
   | .error e=>p a=.error e
theorem Res.of_step {α:Type}(p:P α)(z:α)(st:St):Res p st (step p z st).2 (step p z st).1:=by
 cases st with
 |error e=>rfl
 |ok a=>
  unfold Res step
  cases h:p a with
  |error e=>simp[h]
  |ok x=>obtain⟨x,b⟩:=x;simp[h]
theorem Res.pure {α:Type}(x:α)(st:St):Res (eB x) st st x:=by cases st<;>rfl
theorem Res.bind {α β:Type}{m:P α}{f:α->P β}{st st1 st2:St}{y:α}{x:β}(h1:Res m st st1 y)(h2:Res (f y) st1 st2 x):Res (bind' m f) st st2 x:=by
 cases st with
 |error e=>
  obtain rfl:st1=.error e:=h1
  exact h2
 |ok a=>
  cases st1 with
  |error e=>
   obtain rfl:st2=.error e:=h2
   exact dO h1
  |ok b=>
   have e1:bind' m f a=f y b:=bind_ok h1
   cases st2 with
   |error e=>show bind' m f a=_;rw[e1];exact h2
   |ok c=>show bind' m f a=_;rw[e1];exact h2
theorem Res.mono {α:Type}{p q:P α}{st st':St}{x:α}(h:Res p st st' x)(he:∀a,st=.ok a->p a=q a):Res q st st' x:=by
 cases st with
 |error e=>exact h
 |ok a=>unfold Res at h⊢;simp only[<-he a rfl];exact h
def OpI (E:Env)(l:List Tok)(i0:Ins)(st0 st:St)(s:Seen)(i:Ins):Prop:=match st0 with
 | .error e=>st=.error e
 | .ok a0=>match st with
   | .ok a=>∃f,l.length+1<=a+f/\options E l (l.length+1) {} i0 a0=options E l f s i a
   | .error e=>options E l (l.length+1) {} i0 a0=.error e
theorem OpI.start (E:Env)(l:List Tok)(i0:Ins)(st0:St):OpI E l i0 st0 st0 {} i0:=by
 cases st0 with
 |error e=>rfl
 |ok a=>exact⟨l.length+1,by omega,rfl⟩
theorem OpI.res {E:Env}{l:List Tok}{i0 i:Ins}{st0 st:St}{s:Seen}(h:OpI E l i0 st0 st s i)(hend:dU l st=false):Res (options E l (l.length+1) {} i0) st0 st i:=by
 cases st0 with
 |error e=>exact h
 |ok a0=>
  cases st with
  |error e=>exact h
  |ok a=>
   obtain⟨f,hf,h⟩:=h
   show options E l (l.length+1) {} i0 a0=.ok (i,a)
   have hle:l.length<=a:=by simpa[dU]using hend
   rw[h]
   cases f with
   |zero=>rfl
   |succ f=>simp only[options,if_pos hle]
theorem OpI.round {E:Env}{l:List Tok}{i0 i:Ins}{st0 st':St}{a:Nat}{s s':Seen}{i':Ins}(h:OpI E l i0 st0 (.ok a) s i)(hlt:a<l.length)
 (hr:∀f,match st' with| .ok b=>a<b/\options E l (f+1) s i a=options E l f s' i' b| .error e=>options E l (f+1) s i a=.error e):OpI E l i0 st0 st' s' i':=by
 cases st0 with
 |error e=>cases h
 |ok a0=>
  obtain⟨f,hf,h⟩:=h
  obtain⟨f,rfl⟩:∃g,f=g+1:=⟨f-1,by omega⟩
  have hr:=hr f
  cases st' with
  |error e=>exact h.trans hr
  |ok b=>exact⟨f,by omega,h.trans hr.2⟩
theorem OpI.prioDup {E:Env}{l:List Tok}{i0 i:Ins}{st0:St}{a:Nat}{s:Seen}{p:Int}(h:OpI E l i0 st0 (.ok a) s i)(hlt:a<l.length)(hp:prio (aU l a).data.toList=some p)(hs:s.prio=true)(s':Seen)(i':Ins):OpI E l i0 st0 (.error (av l a,7)) s' i':=
 h.round hlt λf=>by simp only[options,if_neg (Nat.not_le.2 hlt),hp,hs,if_true];rfl
theorem OpI.prioOk {E:Env}{l:List Tok}{i0 i:Ins}{st0:St}{a:Nat}{s:Seen}{p:Int}(h:OpI E l i0 st0 (.ok a) s i)(hlt:a<l.length)(hp:prio (aU l a).data.toList=some p)(hs:s.prio=false):OpI E l i0 st0 (.ok (a+1)) {s with prio:=true} {i with priority:=p}:=
 h.round hlt λf=>⟨by omega,by simp only[options,if_neg (Nat.not_le.2 hlt),hp,hs,if_false,Bool.false_eq_true]⟩
theorem OpI.holdDup {E:Env}{l:List Tok}{i0 i:Ins}{st0:St}{a:Nat}{s:Seen}(h:OpI E l i0 st0 (.ok a) s i)(hlt:a<l.length)(hp:(aU l a).data.toList=bU)(hs:s.hold=true)(s':Seen)(i':Ins):OpI E l i0 st0 (.error (av l a,7)) s' i':=
 h.round hlt λf=>by
  simp only[options,if_neg (Nat.not_le.2 hlt),hp,show prio bU=none from by decide,show¬bU=aK from by decide,hs,if_true,if_false];rfl
theorem OpI.holdOk {E:Env}{l:List Tok}{i0 i:Ins}{st0:St}{a:Nat}{s:Seen}(h:OpI E l i0 st0 (.ok a) s i)(hlt:a<l.length)(hp:(aU l a).data.toList=bU)(hs:s.hold=false):OpI E l i0 st0 (.ok (a+1)) {s with hold:=true} {i with hold:=true}:=
 h.round hlt λf=>⟨by omega,by simp only[options,if_neg (Nat.not_le.2 hlt),hp,show prio bU=none from by decide,show¬bU=aK from by decide,hs,if_true,if_false,Bool.false_eq_true]⟩
theorem OpI.resDup {E:Env}{l:List Tok}{i0 i:Ins}{st0:St}{a:Nat}{s:Seen}(h:OpI E l i0 st0 (.ok a) s i)(hlt:a<l.length)(hp:(aU l a).data.toList=aY)(hs:s.res=true)(s':Seen)(i':Ins):OpI E l i0 st0 (.error (av l a,7)) s' i':=
 h.round hlt λf=>by
  simp only[options,if_neg (Nat.not_le.2 hlt),hp,show prio aY=none from by decide,show¬aY=aK from by decide,show¬aY=bU from by decide,hs,if_true,if_false];rfl
theorem OpI.resOk {E:Env}{l:List Tok}{i0 i:Ins}{st0:St}{a:Nat}{s:Seen}(h:OpI E l i0 st0 (.ok a) s i)(hlt:a<l.length)(hp:(aU l a).data.toList=aY)(hs:s.res=false):OpI E l i0 st0 (.ok (a+1)) {s with res:=true} {i with reserve:=true}:=
 h.round hlt λf=>⟨by omega,by simp only[options,if_neg (Nat.not_le.2 hlt),hp,show prio aY=none from by decide,show¬aY=aK from by decide,show¬aY=bU from by decide,hs,if_true,if_false,Bool.false_eq_true]⟩
theorem OpI.partDup {E:Env}{l:List Tok}{i0 i:Ins}{st0:St}{a:Nat}{s:Seen}(h:OpI E l i0 st0 (.ok a) s i)(hlt:a<l.length)(hp:(aU l a).data.toList=aK)(hs:s.part=true)(s':Seen)(i':Ins):OpI E l i0 st0 (.error (av l a,7)) s' i':=
 h.round hlt λf=>by
  simp only[options,if_neg (Nat.not_le.2 hlt),hp,show prio aK=none from by decide,hs,if_true];rfl
theorem fO {α:Type}{l:List Tok}{acc:ByteArray->α×Int}{ks:List Int}{a b:Nat}{x:α}(h:take l acc ks a=.ok (x,b)):b=a+1:=by
 unfold take at h
 split at h
 ·cases h
 ·split at h
  ·split at h
   ·cases h;rfl
   ·cases h
  ·cases h
theorem OpI.partOk {E:Env}{l:List Tok}{i0 i:Ins}{st0:St}{a:Nat}{s:Seen}(h:OpI E l i0 st0 (.ok a) s i)(hlt:a<l.length)(hp:(aU l a).data.toList=aK)(hs:s.part=false):OpI E l i0 st0 (step (quantity E l) 0 (.ok (a+1))).2 {s with part:=true} {i with partial_:=true,minLot:=(step (quantity E l) 0 (.ok (a+1))).1}:=
 h.round hlt λf=>by
  have e:options E l (f+1) s i a=bind' (quantity E l) (λn=>options E l f {s with part:=true} {i with partial_:=true,minLot:=n}) (a+1):=by
   simp only[options,if_neg (Nat.not_le.2 hlt),hp,show prio aK=none from by decide,hs,if_true,if_false,Bool.false_eq_true]
  cases hq:quantity E l (a+1)with
  |error er=>rw[bF hq];exact e.trans (dO hq)
  |ok x=>
   obtain⟨x,b⟩:=x
   rw[step_ok hq]
   have:=fO hq
   exact⟨by omega,e.trans (bind_ok hq)⟩
theorem OpI.link {E:Env}{l:List Tok}{i0 i:Ins}{st0:St}{a:Nat}{s:Seen}(h:OpI E l i0 st0 (.ok a) s i)(hlt:a<l.length)(ty:Int)(hp:((aU l a).data.toList=fF/\ty=0)\/((aU l a).data.toList=dC/\ty=1)):OpI E l i0 st0 (step (ref E l) ⟨#[]⟩ (.ok (a+1))).2 s {i with links:=i.links++[⟨ty,(step (ref E l) ⟨#[]⟩ (.ok (a+1))).1⟩]}:=
 h.round hlt λf=>by
  have e:options E l (f+1) s i a=bind' (ref E l) (λr=>options E l f s {i with links:=i.links++[⟨ty,r⟩]}) (a+1):=by
   rcases hp with⟨hp,rfl⟩|⟨hp,rfl⟩
   ·simp only[options,if_neg (Nat.not_le.2 hlt),hp,show prio fF=none from by decide,show¬fF=aK from by decide,show¬fF=bU from by decide,show¬fF=aY from by decide,if_true,if_false]
   ·simp only[options,if_neg (Nat.not_le.2 hlt),hp,show prio dC=none from by decide,show¬dC=aK from by decide,show¬dC=bU from by decide,show¬dC=aY from by decide,show¬dC=fF from by decide,if_true,if_false]
  cases hq:ref E l (a+1)with
  |error er=>rw[bF hq];exact e.trans (dO hq)
  |ok x=>
   obtain⟨x,b⟩:=x
   rw[step_ok hq]
   have hq2:take l (λs=>(s,if E.valid 2 s then 0 else 6)) [1,2,4] (a+1)=.ok (x,b):=hq
   have:=fO hq2
   exact⟨by omega,e.trans (bind_ok hq)⟩
theorem OpI.none {E:Env}{l:List Tok}{i0 i:Ins}{st0:St}{a:Nat}{s:Seen}(h:OpI E l i0 st0 (.ok a) s i)(hlt:a<l.length)(hp:prio (aU l a).data.toList=.none)(h1:(aU l a).data.toList≠aK)(h2:(aU l a).data.toList≠bU)(h3:(aU l a).data.toList≠aY)(h4:(aU l a).data.toList≠fF)(h5:(aU l a).data.toList≠dC)(s':Seen)(i':Ins):OpI E l i0 st0 (.error (av l a,30)) s' i':=
 h.round hlt λf=>by
  simp only[options,if_neg (Nat.not_le.2 hlt),hp,if_neg h1,if_neg h2,if_neg h3,if_neg h4,if_neg h5];rfl
def ChI (E:Env)(l:List Tok)(i0:Amd)(st0 st:St)(s:Seen)(i:Amd):Prop:=match st0 with
 | .error e=>st=.error e
 | .ok a0=>match st with
   | .ok a=>∃f,l.length+1<=a+f/\changes E l (l.length+1) {} i0 a0=changes E l f s i a
   | .error e=>changes E l (l.length+1) {} i0 a0=.error e
theorem ChI.start (E:Env)(l:List Tok)(i0:Amd)(st0:St):ChI E l i0 st0 st0 {} i0:=by
 cases st0 with
 |error e=>rfl
 |ok a=>exact⟨l.length+1,by omega,rfl⟩
theorem ChI.res {E:Env}{l:List Tok}{i0 i:Amd}{st0 st:St}{s:Seen}(h:ChI E l i0 st0 st s i)(hend:dU l st=false):Res (changes E l (l.length+1) {} i0) st0 st i:=by
 cases st0 with
 |error e=>exact h
 |ok a0=>
  cases st with
  |error e=>exact h
  |ok a=>
   obtain⟨f,hf,h⟩:=h
   show changes E l (l.length+1) {} i0 a0=.ok (i,a)
   have hle:l.length<=a:=by simpa[dU]using hend
   rw[h]
   cases f with
   |zero=>rfl
   |succ f=>simp only[changes,if_pos hle]
theorem ChI.round {E:Env}{l:List Tok}{i0 i:Amd}{st0 st':St}{a:Nat}{s s':Seen}{i':Amd}(h:ChI E l i0 st0 (.ok a) s i)(hlt:a<l.length)
 (hr:∀f,match st' with| .ok b=>a<b/\changes E l (f+1) s i a=changes E l f s' i' b| .error e=>changes E l (f+1) s i a=.error e):ChI E l i0 st0 st' s' i':=by
 cases st0 with
 |error e=>cases h
 |ok a0=>
  obtain⟨f,hf,h⟩:=h
  obtain⟨f,rfl⟩:∃g,f=g+1:=⟨f-1,by omega⟩
  have hr:=hr f
  cases st' with
  |error e=>exact h.trans hr
  |ok b=>exact⟨f,by omega,h.trans hr.2⟩
theorem ChI.prioDup {E:Env}{l:List Tok}{i0 i:Amd}{st0:St}{a:Nat}{s:Seen}{p:Int}(h:ChI E l i0 st0 (.ok a) s i)(hlt:a<l.length)(hp:prio (aU l a).data.toList=some p)(hs:s.prio=true)(s':Seen)(i':Amd):ChI E l i0 st0 (.error (av l a,7)) s' i':=
 h.round hlt λf=>by simp only[changes,if_neg (Nat.not_le.2 hlt),hp,hs,if_true];rfl
theorem ChI.prioOk {E:Env}{l:List Tok}{i0 i:Amd}{st0:St}{a:Nat}{s:Seen}{p:Int}(h:ChI E l i0 st0 (.ok a) s i)(hlt:a<l.length)(hp:prio (aU l a).data.toList=some p)(hs:s.prio=false):ChI E l i0 st0 (.ok (a+1)) {s with prio:=true} {i with hasPriority:=true,priority:=p}:=
 h.round hlt λf=>⟨by omega,by simp only[changes,if_neg (Nat.not_le.2 hlt),hp,hs,if_false,Bool.false_eq_true]⟩
theorem ChI.partDup {E:Env}{l:List Tok}{i0 i:Amd}{st0:St}{a:Nat}{s:Seen}(h:ChI E l i0 st0 (.ok a) s i)(hlt:a<l.length)(hp:(aU l a).data.toList=aK)(hs:s.part=true)(s':Seen)(i':Amd):ChI E l i0 st0 (.error (av l a,7)) s' i':=
 h.round hlt λf=>by
  simp only[changes,if_neg (Nat.not_le.2 hlt),hp,show prio aK=none from by decide,hs,if_true];rfl
theorem ChI.partOk {E:Env}{l:List Tok}{i0 i:Amd}{st0:St}{a:Nat}{s:Seen}(h:ChI E l i0 st0 (.ok a) s i)(hlt:a<l.length)(hp:(aU l a).data.toList=aK)(hs:s.part=false):ChI E l i0 st0 (step (quantity E l) 0 (.ok (a+1))).2 {s with part:=true} {i with hasPartial:=true,partial_:=true,minLot:=(step (quantity E l) 0 (.ok (a+1))).1}:=
 h.round hlt λf=>by
  have e:changes E l (f+1) s i a=bind' (quantity E l) (λn=>changes E l f {s with part:=true} {i with hasPartial:=true,partial_:=true,minLot:=n}) (a+1):=by
   simp only[changes,if_neg (Nat.not_le.2 hlt),hp,show prio aK=none from by decide,hs,if_true,if_false,Bool.false_eq_true]
  cases hq:quantity E l (a+1)with
  |error er=>rw[bF hq];exact e.trans (dO hq)
  |ok x=>
   obtain⟨x,b⟩:=x
   rw[step_ok hq]
   have:=fO hq
   exact⟨by omega,e.trans (bind_ok hq)⟩
theorem ChI.wholeDup {E:Env}{l:List Tok}{i0 i:Amd}{st0:St}{a:Nat}{s:Seen}(h:ChI E l i0 st0 (.ok a) s i)(hlt:a<l.length)(hp:(aU l a).data.toList=fD)(hs:s.part=true)(s':Seen)(i':Amd):ChI E l i0 st0 (.error (av l a,7)) s' i':=
 h.round hlt λf=>by
  simp only[changes,if_neg (Nat.not_le.2 hlt),hp,show prio fD=none from by decide,show¬fD=aK from by decide,hs,if_true,if_false];rfl
theorem ChI.wholeOk {E:Env}{l:List Tok}{i0 i:Amd}{st0:St}{a:Nat}{s:Seen}(h:ChI E l i0 st0 (.ok a) s i)(hlt:a<l.length)(hp:(aU l a).data.toList=fD)(hs:s.part=false):ChI E l i0 st0 (.ok (a+1)) {s with part:=true} {i with hasPartial:=true}:=
 h.round hlt λf=>⟨by omega,by simp only[changes,if_neg (Nat.not_le.2 hlt),hp,show prio fD=none from by decide,show¬fD=aK from by decide,hs,if_true,if_false,Bool.false_eq_true]⟩
theorem ChI.amountDup {E:Env}{l:List Tok}{i0 i:Amd}{st0:St}{a:Nat}{s:Seen}(h:ChI E l i0 st0 (.ok a) s i)(hlt:a<l.length)(hp:(aU l a).data.toList=bY)(hs:s.amount=true)(s':Seen)(i':Amd):ChI E l i0 st0 (.error (av l a,7)) s' i':=
 h.round hlt λf=>by
  simp only[changes,if_neg (Nat.not_le.2 hlt),hp,show prio bY=none from by decide,show¬bY=aK from by decide,show¬bY=fD from by decide,hs,if_true,if_false];rfl
theorem ChI.amountOk {E:Env}{l:List Tok}{i0 i:Amd}{st0:St}{a:Nat}{s:Seen}(h:ChI E l i0 st0 (.ok a) s i)(hlt:a<l.length)(hp:(aU l a).data.toList=bY)(hs:s.amount=false):ChI E l i0 st0 (step (cash E l) 0 (.ok (a+1))).2 {s with amount:=true} {i with hasAmount:=true,amount:=(step (cash E l) 0 (.ok (a+1))).1}:=
 h.round hlt λf=>by
  have e:changes E l (f+1) s i a=bind' (cash E l) (λn=>changes E l f {s with amount:=true} {i with hasAmount:=true,amount:=n}) (a+1):=by
   simp only[changes,if_neg (Nat.not_le.2 hlt),hp,show prio bY=none from by decide,show¬bY=aK from by decide,show¬bY=fD from by decide,hs,if_true,if_false,Bool.false_eq_true]
  cases hq:cash E l (a+1)with
  |error er=>rw[bF hq];exact e.trans (dO hq)
  |ok x=>
   obtain⟨x,b⟩:=x
   rw[step_ok hq]
   have:=fO hq
   exact⟨by omega,e.trans (bind_ok hq)⟩
theorem ChI.dayDup {E:Env}{l:List Tok}{i0 i:Amd}{st0:St}{a:Nat}{s:Seen}(h:ChI E l i0 st0 (.ok a) s i)(hlt:a<l.length)(hp:(aU l a).data.toList=eF)(hs:s.day=true)(s':Seen)(i':Amd):ChI E l i0 st0 (.error (av l a,7)) s' i':=
 h.round hlt λf=>by
  simp only[changes,if_neg (Nat.not_le.2 hlt),hp,show prio eF=none from by decide,show¬eF=aK from by decide,show¬eF=fD from by decide,show¬eF=bY from by decide,hs,if_true,if_false];rfl
theorem ChI.dayOk {E:Env}{l:List Tok}{i0 i:Amd}{st0:St}{a:Nat}{s:Seen}(h:ChI E l i0 st0 (.ok a) s i)(hlt:a<l.length)(hp:(aU l a).data.toList=eF)(hs:s.day=false):ChI E l i0 st0 (step (day E l) 0 (.ok (a+1))).2 {s with day:=true} {i with hasSettleDay:=true,settleDay:=(step (day E l) 0 (.ok (a+1))).1}:=
 h.round hlt λf=>by
  have e:changes E l (f+1) s i a=bind' (day E l) (λn=>changes E l f {s with day:=true} {i with hasSettleDay:=true,settleDay:=n}) (a+1):=by
   simp only[changes,if_neg (Nat.not_le.2 hlt),hp,show prio eF=none from by decide,show¬eF=aK from by decide,show¬eF=fD from by decide,show¬eF=bY from by decide,hs,if_true,if_false,Bool.false_eq_true]
  cases hq:day E l (a+1)with
  |error er=>rw[bF hq];exact e.trans (dO hq)
  |ok x=>
   obtain⟨x,b⟩:=x
   rw[step_ok hq]
   have:=fO hq
   exact⟨by omega,e.trans (bind_ok hq)⟩
theorem ChI.none {E:Env}{l:List Tok}{i0 i:Amd}{st0:St}{a:Nat}{s:Seen}(h:ChI E l i0 st0 (.ok a) s i)(hlt:a<l.length)(hp:prio (aU l a).data.toList=.none)(h1:(aU l a).data.toList≠aK)(h2:(aU l a).data.toList≠fD)(h3:(aU l a).data.toList≠bY)(h4:(aU l a).data.toList≠eF)(s':Seen)(i':Amd):ChI E l i0 st0 (.error (av l a,30)) s' i':=
 h.round hlt λf=>by
  simp only[changes,if_neg (Nat.not_le.2 hlt),hp,if_neg h1,if_neg h2,if_neg h3,if_neg h4];rfl
end Go.Proofs.YtnjjeapcalkmaaaGreatDoor.Ps
namespace Go.Proofs.YtnjjeapcalkmaaaGreatDoor
open Go.RowKit
theorem pF {w:World}(t ty e:TypeId)(i:TypeInfo)(z:Value)(size bytes:Nat)(ht:Tryz.prog.underlying t=some (.slice e))(hi:Tryz.prog.info? e=some i)(hz:i.zero=some z)
 (hsize:i.size=size) (hby:i.bytes=bytes) (hzs:z.cells.size=size) (hsz:0<size) (base:Nat) (v:Value) (n:Nat) (xs:List Value) (hown:w.ownsRow base e size v n xs)
 (a2:Option Addr) (m c:Nat) (news:List Value) (hl:news.length=m*size) (hnews:∀ad,a2=some ad->∀j u,news[j]? =some u->w.cell? (ad.add j)=some u) (h0:a2=none->m=0) (h1:∀u∈news,u.oneCell'=true)
 (h63:n+m<=maxLen) (hbytes:(n+m)*bytes<=140737488355328) (hbase:base<=w.heap.size):
 ∃v' w',(Builtin.append_ #[t,t] ty #[v,.slice a2 m c]).run Tryz.prog w=.ok v' w'/\w'.ownsRow base e size v' (n+m) (xs++news)/\w.grownBy w' v.ownBlock/\(v'.ownBlock=v.ownBlock\/v'.ownBlock=some w.heap.size):=by
 cases a2 with
 |none=>
  obtain rfl:=h0 rfl
  obtain rfl:news=[]:=List.eq_nil_of_length_eq_zero (by omega)
  refine⟨v,w,?_,by simpa using hown,⟨rfl,rfl,rfl,Nat.le_refl _,λ_ _ _=>rfl⟩,.inl rfl⟩
  rcases hown.2 with⟨rfl,rfl⟩|⟨g,cap,cur,rfl,_,_,hnc,_⟩
  ·simp[Builtin.append_,run_underlying ht,sizeOf,typeInfo,hi,Builtin.lenOf,Builtin.firstCells]
  ·simp[Builtin.append_,run_underlying ht,sizeOf,typeInfo,hi,Builtin.lenOf,Builtin.firstCells,hnc,storeCells]
 |some ad=>
  obtain⟨v',w',hr,ho,hg,_,hat⟩:=run_append_own_at (P:=Tryz.prog) w base t ty e i z size bytes ht hi hz hsize hby hzs hsz v n xs hown ad m c news hl (hnews ad rfl) h1 h63 hbytes hbase
  exact⟨v',w',hr,ho,hg,hat⟩
theorem iN {w:World}{B:Nat}{t:TypeId}{sz:Nat}{v:Value}{n:Nat}{xs:List Value}(h:w.ownsRow B t sz v n xs):∃a c,v=.slice a n c:=by
 obtain⟨_,⟨rfl,rfl⟩|⟨g,cap,cur,rfl,_⟩⟩:=h
 ·exact⟨none,0,rfl⟩
 ·exact⟨_,cap,rfl⟩
theorem gF {W W':World}{B:Nat}{t:TypeId}{sz:Nat}{v:Value}{n:Nat}{xs:List Value}(h:W.ownsRow B t sz v n xs)(hb:∀g,v.ownBlock=some g->W'.heap[g]? =W.heap[g]?):W'.ownsRow B t sz v n xs:=by
 refine⟨h.1,?_⟩
 rcases h.2 with hn|⟨g,cap,cur,hv,hB,hh,rest⟩
 ·exact .inl hn
 ·exact .inr ⟨g,cap,cur,hv,hB,(hb g (by simp[hv,Value.ownBlock])).trans hh,rest⟩
theorem fT {w:World}{B sz:Nat}{t:TypeId}{v:Value}{n:Nat}{xs:List Value}(h:w.ownsRow B t sz v n xs)(hn:0<n):∃sb cap,v=.slice (some ⟨sb,0,none⟩) n cap/\sb<w.heap.size/\∀(k:Nat) (x:Value),xs[k]? =some x->w.cell? ⟨sb,k,none⟩=some x:=by
 obtain⟨hl,⟨_,h0⟩|⟨g,cap,cur,hv,hB,hh,hnc,hcap,Tv,htake⟩⟩:=h
 ·omega
 ·refine⟨g,cap,hv,(Array.getElem?_eq_some_iff.1 hh).1,λk x hk=>?_⟩
  have hk3:k<xs.length:=(List.getElem?_eq_some_iff.1 hk).1
  rw[<-htake,List.getElem?_take_of_lt (by omega)]at hk
  rw[cell_of_row _ _ _ _ _ _ hh]
  simpa using hk
theorem dA {W:World}{B B':Nat}{t:TypeId}{sz:Nat}{v:Value}{n:Nat}{xs:List Value}(h:W.ownsRow B t sz v n xs)(hB:B'<=B):W.ownsRow B' t sz v n xs:=by
 obtain⟨h1,h2|⟨g,cap,cur,hv,hb,r⟩⟩:=h
 ·exact⟨h1,.inl h2⟩
 ·exact⟨h1,.inr ⟨g,cap,cur,hv,Nat.le_trans hB hb,r⟩⟩
def gK (ks:List Ps.Link):List Value:=ks.flatMap λx=>[.int .i64 x.type,.string x.ref]
theorem qz (ks:List Ps.Link)(x:Ps.Link):gK (ks++[x])=gK ks++[.int .i64 x.type,.string x.ref]:=by unfold gK;rw[List.flatMap_append];rfl
def dR (w:World)(B:Nat)(lv:Value)(ks:List Ps.Link):Prop:=w.ownsRow B 129 2 lv ks.length (gK ks)
theorem dR.nil (w:World)(B:Nat):dR w B (.slice none 0 0) []:=World.ownsRow_nil _ _ _ _
theorem dR.keep {w w':World}{B:Nat}{lv:Value}{ks:List Ps.Link}(h:dR w B lv ks){r q:Nat}(hT:Tch r q w w')(hr:r<B)(hq:q<B):dR w' B lv ks:=by
 refine gF h λg hg=>?_
 obtain⟨_,⟨rfl,_⟩|⟨g',cap,cur,rfl,hB,hh,_⟩⟩:=h
 ·simp[Value.ownBlock]at hg
 ·obtain rfl:g'=g:=by simpa[Value.ownBlock]using hg
  exact hT.block g' (Array.getElem?_eq_some_iff.1 hh).1 (by omega) (by omega)
theorem dR.slice {w:World}{B:Nat}{lv:Value}{ks:List Ps.Link}(h:dR w B lv ks):∃a c,lv=.slice a ks.length c:=iN h
def aA (i:Ps.Ins)(lv:Value):List Value:=[.string i.ref,.int .i64 i.kind,.string i.sender,.string i.counterparty,.int .i64 i.side,.string i.asset,.int .i64 i.quantity,.int .i64 i.amount,.int .i64 i.tradeDay,.int .i64 i.settleDay,.int .i64 i.priority,
 .bool i.partial_,.int .i64 i.minLot,.bool i.hold,.bool i.reserve,lv]
def aG (a:Ps.Amd):List Value:=[.bool a.hasAmount,.bool a.hasSettleDay,.bool a.hasPriority,.bool a.hasPartial,.int .i64 a.amount,.int .i64 a.settleDay,.int .i64 a.priority,.bool a.partial_,.int .i64 a.minLot]
def aB (q:Ps.Req)(lv:Value):Array Value:=(([Value.int .i64 q.op,.string q.sender,.string q.ref]:List Value)++aA q.ins lv++aG q.amd).toArray
theorem zL (q:Ps.Req)(lv:Value):(aB q lv).size=28:=rfl
def fu (W0 W:World)(r tb cap q:Nat)(l:List Ps.Tok)(B:Nat)(st:Ps.St)(Q:Ps.Req)(w:World):Prop:=
 r<B/\q<B/\∃lv,bz W0 W r tb cap q l st (aB Q lv) w/\dR w B lv Q.ins.links
theorem fu.step {W0 W:World}{r tb cap q B:Nat}{l:List Ps.Tok}{st st':Ps.St}{Q:Ps.Req}{w w':World}(h:fu W0 W r tb cap q l B st Q w)(h1:gM W0 w' r tb cap l st')(h2:Tch r r w w'):fu W0 W r tb cap q l B st' Q w':=by
 obtain⟨a,b,lv,c,d⟩:=h
 exact⟨a,b,lv,c.step h1 h2,d.keep h2 a a⟩
theorem fu.rd {W0 W:World}{r tb cap q B:Nat}{l:List Ps.Tok}{st:Ps.St}{Q:Ps.Req}{w:World}(h:fu W0 W r tb cap q l B st Q w):gM W0 w r tb cap l st:=by
 obtain⟨a,b,lv,c,d⟩:=h
 exact c.1
theorem fu.store {W0 W:World}{r tb cap q B:Nat}{l:List Ps.Tok}{st:Ps.St}{Q:Ps.Req}{w:World}(h:fu W0 W r tb cap q l B st Q w)(j:Nat)(v:Value)(Q':Ps.Req)(hQ:∀lv,(aB Q lv).setIfInBounds j v=aB Q' lv)(hl:Q'.ins.links=Q.ins.links):fu W0 W r tb cap q l B st Q' (w.setCell ⟨q,j,none⟩ v):=by
 obtain⟨a,b,lv,c,d⟩:=h
 refine⟨a,b,lv,?_,?_⟩
 ·rw[<-hQ lv];exact c.store j v
 ·rw[hl]
  exact d.keep ((Tch.refl q q w).setCell j v) b b
theorem fu.below {W0 W:World}{r tb cap q B:Nat}{l:List Ps.Tok}{st:Ps.St}{Q:Ps.Req}{w w':World}(h:fu W0 W r tb cap q l B st Q w)(hb:Below w.heap.size w w'):fu W0 W r tb cap q l B st Q w':=h.step (h.rd.below hb) (Tch.of_below hb)
theorem fu.drewN {W0 W:World}{r tb cap q B:Nat}{l:List Ps.Tok}{st:Ps.St}{Q:Ps.Req}{w:World}(h:fu W0 W r tb cap q l B st Q w)(k:Nat):fu W0 W r tb cap q l B st Q (w.drewN k):=h.below (below_drewN' (Below.refl _ _) k)
open Go.Proofs.YtnjjeapcalkmaaaGreatDoor.Ord
open Go.Proofs.YtnjjeapcalkmaaaGreatDoor.Ev (AV Mem Fr Sh Stop Qof aX cK bL fU mJ fmC asI look keep iF)
section
variable {l : List Ps.Tok} {pa : Nat}
def dm (l:List Ps.Tok)(b:Bool)(pa:Nat):Ps.St:=if b=true then Ps.qO l 7 (.ok pa)else .ok pa
def iq (st:Ps.St):Ps.St:=match st with
 | .ok a=>.ok (a+1)
 | .error e=>.error e
theorem mU {α:Type}{p:Ps.P α}(hp:∀x k,p (pa+1)=.ok (x,k)->pa<k)(zv:α)(b:Bool):∀a,(Ps.step p zv (iq (dm l b pa))).2=.ok a->pa<a:=λa h=>by
 cases b
 ·have h2:(Ps.step p zv (.ok (pa+1))).2=.ok a:=h
  cases hq:p (pa+1)with
  |ok x=>
   obtain⟨v,k⟩:=x
   rw[Ps.step_ok hq]at h2
   cases h2
   exact hp _ _ hq
  |error er=>rw[Ps.bF hq]at h2;cases h2
 ·cases h
theorem yz {E:Ps.Env}(b:Bool):∀a,(Ps.step (Ps.cash E l) 0 (iq (dm l b pa))).2=.ok a->pa<a:=mU (λx k h=>by have:=Ps.fO h;omega) 0 b
theorem G5 {E:Ps.Env}(b:Bool):∀a,(Ps.step (Ps.day E l) 0 (iq (dm l b pa))).2=.ok a->pa<a:=mU (λx k h=>by have:=Ps.fO h;omega) 0 b
theorem DI {E:Ps.Env}(b:Bool):∀a,(Ps.step (Ps.quantity E l) 0 (iq (dm l b pa))).2=.ok a->pa<a:=mU (λx k h=>by have:=Ps.fO h;omega) 0 b
theorem Cs {E:Ps.Env}:∀a,(Ps.step (Ps.ref E l) ⟨#[]⟩ (.ok (pa+1))).2=.ok a->pa+1<a:=λa h=>by
 cases hq:Ps.ref E l (pa+1)with
 |ok x=>
  obtain⟨v,k⟩:=x
  rw[Ps.step_ok hq]at h
  cases h
  have:=Ps.fO (l:=l) (ks:=[1,2,4]) (acc:=λs=>(s,if E.valid 2 s then(0:Int)else 6)) hq
  omega
 |error er=>rw[Ps.bF hq]at h;cases h
theorem O6 {st0:Ps.St}{E:Ps.Env}(hb:Ps.dU l st0=false):Ps.Res (λa=>if l.length<=a then .error (Ps.short l)else Ps.changes E l (l.length+1) {} {} a) st0 (Ps.gB l st0) {}:=by
 cases st0 with
 |error er=>rfl
 |ok a=>
  have hge:l.length<=a:=by simpa[Ps.dU]using hb
  have h1:Ps.gB l (.ok a)=.error (Ps.short l):=by simp[Ps.gB,Nat.not_lt.2 hge]
  rw[h1]
  show(if l.length<=a then _ else _)=_
  rw[if_pos hge]
theorem UG {st0 st:Ps.St}{E:Ps.Env}{i:Ps.Amd}(hb:Ps.dU l st0=true)(h:Ps.Res (Ps.changes E l (l.length+1) {} {}) st0 st i):Ps.Res (λa=>if l.length<=a then .error (Ps.short l)else Ps.changes E l (l.length+1) {} {} a) st0 st i:=
 h.mono λa ha=>by
  subst ha
  have hlt:a<l.length:=by simpa[Ps.dU]using hb
  rw[if_neg (Nat.not_le.2 hlt)]
theorem gy (b:Bool):∀a,iq (dm l b pa)=.ok a->pa<a:=λa h=>by
 cases b
 ·cases h;omega
 ·cases h
end
inductive RS where
 |at0 (a:Nat)
 |dup (b:Bool) (a:Nat)
 |any (s:Ps.St)
def RS.st (l:List Ps.Tok):RS->Ps.St
 | .at0 a=>.ok a
 | .dup b a=>dm l b a
 | .any s=>s
def RS.bound (l:List Ps.Tok):RS->Prop
 | .at0 a=>a<l.length
 | .dup _ a=>a<l.length
 | .any _=>True
def TR:List Oper->Option Nat
 |[⟨some d0,.move (.tmp t),_,_,_,none⟩,⟨some d1,.nilCheck (.tmp e0),_,_,_,none⟩,⟨some d2,.fieldAddr t1 (.tmp e1) f1,_,_,_,none⟩,⟨some d3,.load t2 (.tmp e2),_,_,_,none⟩,⟨some d4,.binOp .add t3 (.tmp e3) (.const (.int .i64 c)) t4,_,_,_,none⟩,⟨some d5,.nilCheck (.tmp e4),_,_,_,none⟩,⟨some d6,.fieldAddr t5 (.tmp e5) f2,_,_,_,none⟩,⟨none,.store t6 (.tmp e6) (.tmp e7),_,_,_,none⟩]=>
  if (e0=d0/\e1=d1/\e2=d2/\e3=d3/\e4=d0/\e5=d5/\e6=d6/\e7=d4)/\((t1=114\/t1=97)/\t5=t1/\t2=3/\t3=3/\t4=3/\t6=3/\c=1/\f1=1/\f2=1)then some t else none
 |_=>none
theorem wp_inc {ops:Array Oper}{t n id r:Nat}{a:Act}{w:World}{x:Int}{Q:Exit->Act->World->Prop}(ht:TR ops.toList=some t)(hok:iF n ops=true)(hsz:a.tmps.size=n)(hno:∀o:Oper,o∈ops.toList->o.dst≠some t)(hf:a.tmps[t]? =some (.pointer (some ⟨r,0,none⟩)))(hx:w.cell? ⟨r,1,none⟩=some (.int .i64 x))(hz:w.frozen? ⟨r,1,none⟩=false)
 (hend:∀b:Act,Kept ops a b->Q .normal b (w.setCell ⟨r,1,none⟩ (.int .i64 (IntKind.i64.wrap (x+1))))):(Code.region id ops false).wp Tryz.prog Q a w:=by
 unfold TR at ht
 split at ht
 ·split at ht
  ·rename_i d0 t _ _ _ d1 e0 _ _ _ d2 t1 e1 f1 _ _ _ d3 t2 e2 _ _ _ d4 t3 e3 c t4 _ _ _ d5 e4 _ _ _ d6 t5 e5 f2 _ _ _ t6 e6 e7 _ _ _ hl hc
   obtain⟨⟨rfl,rfl,rfl,rfl,rfl,rfl,rfl,rfl⟩,h1,rfl,rfl,rfl,rfl,rfl,rfl,rfl,rfl⟩:=hc
   cases ht
   have hops:ops=_:=(Array.toArray_toList (xs:=ops)).symm.trans (congrArg List.toArray hl)
   unfold iF at hok
   simp only[Bool.and_eq_true]at hok
   obtain⟨⟨hd,hs⟩,hb⟩:=hok
   subst hops
   obtain⟨vs,hvs⟩:∃vs:List Value,vs=[.pointer (some ⟨r,0,none⟩),.pointer (some ⟨r,0,none⟩),.pointer (some ⟨r,1,none⟩),.int .i64 x,.int .i64 (IntKind.i64.wrap (x+1)),.pointer (some ⟨r,0,none⟩),.pointer (some ⟨r,1,none⟩),undef]:=⟨_,rfl⟩
   refine iw (λk w2=>if k=8 then w2=w.setCell ⟨r,1,none⟩ (.int .i64 (IntKind.i64.wrap (x+1)))else w2=w) 8 vs (by rw[hvs];rfl) rfl hd hs (by rw[hsz];exact hb) (by simp) ?_ ?_
   ·intro ρ hD hrest hco hfu
    have e0:=(hrest t hno).trans (eval_at hf)
    obtain⟨k0,k1,k2,k3,k4,k5,k6,-⟩:=kU hvs hD
    refine ze hvs ?_
    refine⟨aN (B:=λ_=>True) (λw h=>by simpa using h) (λ_ _=>trivial) (λw0=>bT rfl (jR rfl e0)),?_⟩
    refine⟨aN (B:=λ_=>True) (λw h=>by simpa using h) (λ_ _=>trivial) (λw0=>bT rfl (yJ rfl k0)),?_⟩
    refine⟨aN (B:=λ_=>True) (λw h=>by simpa using h) (λ_ _=>trivial) (λw0=>bT rfl (eH rfl k1 (λw=>by rcases h1 with rfl|rfl<;>go_simp))),?_⟩
    refine⟨aN (B:=λw2=>w2=w) (λw h=>by simpa using h) (λw h=>by simpa using h) (λw0=>bT rfl (fA rfl k2 (λw2 hS=>Fs _ w2 _ (by rw[hS.2];exact hx)))),?_⟩
    refine⟨aN (B:=λ_=>True) (λw h=>by simpa using h) (λ_ _=>trivial) (λw0=>bT rfl (Uf rfl k3 (hco _) (λw=>BP _ _ _ _ w rfl))),?_⟩
    refine⟨aN (B:=λ_=>True) (λw h=>by simpa using h) (λ_ _=>trivial) (λw0=>bT rfl (yJ rfl k0)),?_⟩
    refine⟨aN (B:=λ_=>True) (λw h=>by simpa using h) (λ_ _=>trivial) (λw0=>bT rfl (eH rfl k5 (λw=>by rcases h1 with rfl|rfl<;>go_simp))),?_⟩
    refine⟨⟨λ_ w2 hS=>?_,λh=>by have h2:true=false:=h;cases h2⟩,trivial⟩
    have hA:w2=w:=by simpa using hS
    subst hA
    clear hD hrest hend hd hs hb hl hvs hno h1
    have k6':ρ (.tmp _)=.pointer (some ⟨r,1,none⟩):=k6
    have k4':ρ (.tmp _)=.int .i64 (IntKind.i64.wrap (x+1)):=k4
    clear k0 k1 k2 k3 k4 k5 k6 e0
    unfold execOp
    simp only[k6',k4']
    go_simp
    exact⟨rfl,rfl⟩
   ·intro b w2 hS hK hD
    have:w2=w.setCell ⟨r,1,none⟩ (.int .i64 (IntKind.i64.wrap (x+1))):=by simpa using hS
    rw[this]
    exact hend b hK
  ·cases ht
 ·cases ht
def Py (i:Ps.Ins):Nat->Value->Option Ps.Ins
 |0,.string s=>some {i with ref:=s}
 |1,.int .i64 n=>some {i with kind:=n}
 |2,.string s=>some {i with sender:=s}
 |3,.string s=>some {i with counterparty:=s}
 |4,.int .i64 n=>some {i with side:=n}
 |5,.string s=>some {i with asset:=s}
 |6,.int .i64 n=>some {i with quantity:=n}
 |7,.int .i64 n=>some {i with amount:=n}
 |8,.int .i64 n=>some {i with tradeDay:=n}
 |9,.int .i64 n=>some {i with settleDay:=n}
 |10,.int .i64 n=>some {i with priority:=n}
 |11,.bool b=>some {i with partial_:=b}
 |12,.int .i64 n=>some {i with minLot:=n}
 |13,.bool b=>some {i with hold:=b}
 |14,.bool b=>some {i with reserve:=b}
 |_,_=>none
def QO (i:Ps.Amd):Nat->Value->Option Ps.Amd
 |0,.bool b=>some {i with hasAmount:=b}
 |1,.bool b=>some {i with hasSettleDay:=b}
 |2,.bool b=>some {i with hasPriority:=b}
 |3,.bool b=>some {i with hasPartial:=b}
 |4,.int .i64 n=>some {i with amount:=n}
 |5,.int .i64 n=>some {i with settleDay:=n}
 |6,.int .i64 n=>some {i with priority:=n}
 |7,.bool b=>some {i with partial_:=b}
 |8,.int .i64 n=>some {i with minLot:=n}
 |_,_=>none
theorem st_one {t:TypeId}(ht:t=2\/t=3\/t=4\/t=9)(p:Addr)(w:World)(u v:Value)(h:w.cell? p=some u)(hz:w.frozen? p=false)(hv:(∃n,v=.int .i64 n)\/(∃b,v=.bool b)\/∃s,v=.string s):(Instr.storeAt t (.pointer (some p)) v).run Tryz.prog w=.ok () (w.setCell p v):=by
 rcases hv with⟨n,rfl⟩|⟨b,rfl⟩|⟨s,rfl⟩<;>rcases ht with rfl|rfl|rfl|rfl<;>go_simp
def pM (t:TypeId)(f:Nat):Option Nat:=if (t=34/\f<16)\/(t=35/\f<9)\/(t=129/\f<2)then some f else if t=37 then[0,1,2,3,19][f]? else none
theorem qZ {t:TypeId}{f d:Nat}(h:pM t f=some d)(b j:Nat)(w:World):(Instr.fieldAt t (.pointer (some ⟨b,j,none⟩)) f).run Tryz.prog w=.ok (.pointer (some ⟨b,j+d,none⟩)) w:=by
 unfold pM at h
 split at h
 ·rename_i h1
  cases h
  rcases h1 with⟨rfl,h2⟩|⟨rfl,h2⟩|⟨rfl,h2⟩
  all_goals
   rcases f with _|_|_|_|_|_|_|_|_|_|_|_|_|_|_|_|f
   all_goals first|omega|go_simp
 split at h
 ·rename_i h1
  subst h1
  rcases f with _|_|_|_|_|f
  all_goals first|(cases h;go_simp)|cases h
 ·cases h
structure RdB {X:Type}(R:Ps.St->World->Prop)(r:Nat)(B:Ps.St->X->World->Prop):Prop where
 rd:∀{st x w},B st x w->R st w
 go:∀{st st' x w w'},B st x w->R st' w'->Tch r r w w'->B st' x w'
def RdI (l:List Ps.Tok)(r:Nat)(R:Ps.St->World->Prop)(inc:RS->Option RS):Prop:=∀s s',inc s=some s'->s.bound l->s'.bound l/\∀w,R (s.st l) w->∃x:Int,w.cell? ⟨r,1,none⟩=some (.int .i64 x)/\w.frozen? ⟨r,1,none⟩=false/\R (s'.st l) (w.setCell ⟨r,1,none⟩ (.int .i64 (IntKind.i64.wrap (x+1))))
def rdS {X:Type}(l:List Ps.Tok)(B:Ps.St->X->World->Prop)(s:RS×X)(w:World):Prop:=s.1.bound l/\B (s.1.st l) s.2 w
def rdG {X:Type}(inc:RS->Option RS)(offs:TypeId->Nat->Option Nat)(blk:List (Nat×Nat))(ref:Nat->Nat->Value)(rc:RS->FuncId->List AV->Option (Value×Option RS))(loadX:RS×X->TypeId->Nat->Nat->Option AV)(storeX:X->TypeId->Nat->Nat->Value->Option X)(callX:RS×X->FuncId->List AV->Option (Value×Option (RS×X)))(hint:Nat->Option Bool):Mem (RS×X):=
 {blk:=blk,offs:=offs,ref:=ref,load:=loadX
  store:=λs t k j v=>match storeX s.2 t k j v with
   |some x=>some (s.1,x)
   |none=>none
  call:=λs f vs=>match rc s.1 f vs with
   |some (v,none)=>some (v,none)
   |some (v,some q)=>some (v,some (q,s.2))
   |none=>callX s f vs
  hint:=hint
  reg:=λs K ops dr=>if dr=true then none else match TR ops.toList with
   |some t=>match Ev.look (keep K ops) t with
    |some (.p 0 0)=>match inc s.1 with
     |some q=>some ((q,s.2),[])
     |none=>none
    |_=>none
   |none=>none}
section
variable {X : Type} {l : List Ps.Tok} {r : Nat} {inc : RS → Option RS} {R : Ps.St → World → Prop} {B : Ps.St → X → World → Prop} {offs : TypeId → Nat → Option Nat} {blk : List (Nat × Nat)} {ref : Nat → Nat → Value} {rc : RS → FuncId → List AV → Option (Value × Option RS)} {loadX : RS × X → TypeId → Nat → Nat → Option AV} {storeX : X → TypeId → Nat → Nat → Value → Option X} {callX : RS × X → FuncId → List AV → Option (Value × Option (RS × X))} {hint : Nat → Option Bool}
def wC (l:List Ps.Tok)(r:Nat)(R:Ps.St->World->Prop){σ:Type}(M:Mem σ)(q:RS)(f:FuncId)(vs:List AV)(v:Value)(q':RS):Prop:=(∀args w,(callFunc f args).run Tryz.prog w=.ok (.enter f args) w)/\(q.bound l->q'.bound l/\∀w,R (q.st l) w->Calls Tryz.prog f (vs.map (AV.val M)).toArray w λe w'=>e=.returned v/\R (q'.st l) w'/\Tch r r w w')
theorem rdG_ok (hB:RdB R r B)(ho:∀t f d,offs t f=some d->∀b j w,(Instr.fieldAt t (.pointer (some ⟨b,j,none⟩)) f).run Tryz.prog w=.ok (.pointer (some ⟨b,j+d,none⟩)) w)
 (hC:∀q f vs v q',rc q f vs=some (v,q')->wC l r R (rdG inc offs blk ref rc loadX storeX callX hint) q f vs v (q'.getD q))
 (hL:∀s t k j v,loadX s t k j=some v->∀w,rdS l B s w->(Instr.loadAt t ((AV.p k j).val (rdG inc offs blk ref rc loadX storeX callX hint))).run Tryz.prog w=.ok (v.val (rdG inc offs blk ref rc loadX storeX callX hint)) w)
 (hS:∀x t k j v x',storeX x t k j v=some x'->∀st w,B st x w->∃w',(Instr.storeAt t ((AV.p k j).val (rdG inc offs blk ref rc loadX storeX callX hint)) v).run Tryz.prog w=.ok () w'/\B st x' w')
 (hX:∀s f vs v s',callX s f vs=some (v,s')->(∀args w,(callFunc f args).run Tryz.prog w=.ok (.enter f args) w)/\(s.1.bound l->∀w,B (s.1.st l) s.2 w->Calls Tryz.prog f (vs.map (AV.val (rdG inc offs blk ref rc loadX storeX callX hint))).toArray w λe w'=>e=.returned v/\rdS l B (s'.getD s) w')):
 Ev.Ok Tryz.prog (rdS l B) (rdG inc offs blk ref rc loadX storeX callX hint):=by
 refine⟨ho,hL,λs t k j v s' h w hw=>?_,λs f vs v s' h=>?_,λ_ _ _ _ h=>(by cases h)⟩
 ·have h2:(match storeX s.2 t k j v with|some x=>some (s.1,x)|none=>none)=some s':=h
  split at h2
  ·rename_i x hx
   cases h2
   obtain⟨w',e1,e2⟩:=hS _ _ _ _ _ _ hx _ w hw.2
   exact⟨w',e1,hw.1,e2⟩
  ·cases h2
 ·have h2:(match rc s.1 f vs with|some (v,none)=>some (v,none)|some (v,some q)=>some (v,some (q,s.2))|none=>callX s f vs)=some (v,s'):=h
  split at h2
  ·rename_i hq
   cases h2
   obtain⟨k1,k2⟩:=hC _ _ _ _ _ hq
   exact⟨k1,λw hw=>((k2 hw.1).2 w (hB.rd hw.2)).mono λe w' h=>⟨h.1,hw.1,hB.go hw.2 h.2.1 h.2.2⟩⟩
  ·rename_i hq
   cases h2
   obtain⟨k1,k2⟩:=hC _ _ _ _ _ hq
   exact⟨k1,λw hw=>((k2 hw.1).2 w (hB.rd hw.2)).mono λe w' h=>⟨h.1,(k2 hw.1).1,hB.go hw.2 h.2.1 h.2.2⟩⟩
  ·obtain⟨k1,k2⟩:=hX _ _ _ _ _ h2
   exact⟨k1,λw hw=>k2 hw.1 w hw.2⟩
theorem RG (hB:RdB R r B)(hI:RdI l r R inc)(hb:blk.getD 0 (0,0)=(r,0)):Ev.uO (rdS l B) (rdG inc offs blk ref rc loadX storeX callX hint):=by
 intro s K ops dr s' nw h n id a w Q hok hF hw hend
 have h2:(if dr=true then none else match TR ops.toList with|some t=>(match Ev.look (keep K ops) t with|some (.p 0 0)=>(match inc s.1 with|some q=>some ((q,s.2),[])|none=>none)|_=>none)|none=>none)=some (s',nw):=h
 split at h2
 ·cases h2
 obtain rfl:dr=false:=by cases dr<;>simp_all
 split at h2
 ·rename_i t ht
  split at h2
  ·rename_i hl
   split at h2
   ·rename_i q hq
    cases h2
    obtain⟨k1,k2⟩:=Ev.iM hl
    obtain⟨e2,e3⟩:=hI _ _ hq hw.1
    obtain⟨x,c1,c2,c3⟩:=e3 w (hB.rd hw.2)
    have hp:(AV.p 0 0).val (rdG inc offs blk ref rc loadX storeX callX hint)=.pointer (some ⟨r,0,none⟩):=by
     show Value.pointer (some ⟨(blk.getD 0 (0,0)).1,(blk.getD 0 (0,0)).2+0,none⟩)=_
     rw[hb]
    refine wp_inc ht hok hF.size k2 ((hF.look _ _ k1).trans (by rw[hp])) c1 c2 λb hk=>hend b _ ⟨hk.size.trans hF.size,hk.defers.trans hF.defers,λt u hl=>?_⟩ ⟨e2,?_⟩
    ·obtain⟨j1,j2⟩:=Ev.iM hl
     rw[hk.rest t j2]
     exact hF.look t u j1
    ·exact hB.go hw.2 c3 ((Tch.refl r r w).setCell 1 _)
   ·cases h2
  ·cases h2
 ·cases h2
end
theorem JJ {P:Program}{c:Code}{tmps:Array Value}{K:Act->World->Prop}{Q:Exit->Act->World->Prop}{w w':World}(hK:K=c.wp P Q)(hw:w=w')(h:∀a:Act,a.tmps=tmps->a.defers=[]->c.wp P Q a w'):Exit.then K Q .normal ⟨tmps,[]⟩ w:=by
 rw[hK,hw]
 exact h _ rfl rfl
theorem gz {P:Program}{c:Code}{tmps:Array Value}{Q:Exit->Act->World->Prop}{w:World}(h:∀a:Act,a.tmps=tmps->a.defers=[]->c.wp P Q a w):c.wp P Q ⟨tmps,[]⟩ w:=h _ rfl rfl
def yX {β:Type}:List (FuncId×(List AV->Option β))->FuncId->List AV->Option β
 |[],_,_=>none
 |(g,h)::t,f,vs=>if f=g then h vs else yX t f vs
theorem tN {β:Type}{G:FuncId->List AV->β->Prop}:∀{t:List (FuncId×(List AV->Option β))} {f:FuncId} {vs:List AV} {b:β},yX t f vs=some b->(∀x∈t,∀vs b,x.2 vs=some b->G x.1 vs b)->G f vs b
 |[],_,_,_,h,_=>by cases h
 |(g,h1)::t,f,vs,b,h,hG=>by
  unfold yX at h
  split at h
  ·rename_i e;subst e;exact hG (f,h1) List.mem_cons_self vs b h
  ·exact tN h λx hx=>hG x (List.mem_cons_of_mem _ hx)
open Go.RowKit Go.Lib
def CG:List UInt8:=[48,49,50,51,52,53,54,55,56,57]
theorem mh (c:UInt8):CG.contains c=Lx.digit (c.toNat:Int):=by
 have key:∀n:Fin 256,CG.contains (UInt8.ofNat n.val)=Lx.digit ((UInt8.ofNat n.val).toNat:Int):=by decide +kernel
 have:=key ⟨c.toNat,UInt8.toNat_lt c⟩
 simpa using this
theorem kP (p:UInt8->Bool):∀l:List UInt8,l.dropWhile p=[]↔∀x∈l,p x=true
 |[]=>by simp
 |a::l=>by
  rw[List.dropWhile_cons]
  cases h:p a with
  |true=>simp[h,kP p l]
  |false=>simp[h]
theorem kQ (p:UInt8->Bool):∀(l:List UInt8),∀x∈l.takeWhile p,p x=true
 |[]=>by simp
 |a::l=>by
  rw[List.takeWhile_cons]
  cases h:p a with
  |true=>
   intro x hx
   rcases List.mem_cons.1 hx with rfl|hx
   ·exact h
   ·exact kQ p l x hx
  |false=>simp
theorem Ew (l:List UInt8):(Lib.trimS l CG=[])↔(l.all λc=>Lx.digit (c.toNat:Int))=true:=by
 unfold Lib.trimS Lib.trimLeftS
 rw[kP]
 constructor
 ·intro h
  rw[List.all_eq_true]
  intro x hx
  have hr:∀x∈Lib.trimRightS l CG,Lx.digit (x.toNat:Int)=true:=λx hx=>by rw[<-mh];exact h x hx
  rw[Lib.trimRightS]at hr
  rcases List.mem_append.1 (by rw[List.takeWhile_append_dropWhile];exact List.mem_reverse.2 hx:x∈l.reverse.takeWhile (CG.contains ·)++l.reverse.dropWhile (CG.contains ·))with h1|h1
  ·rw[<-mh]
   exact kQ _ _ x h1
  ·exact hr x (List.mem_reverse.2 h1)
 ·intro h x hx
  rw[List.all_eq_true]at h
  rw[mh]
  apply h
  rw[Lib.trimRightS]at hx
  have:=List.mem_reverse.1 hx
  exact List.mem_reverse.1 ((List.dropWhile_suffix _).sublist.subset this)
theorem Sj (s:ByteArray)(W:World)(hs:s.size<=9223372036854775807):
 Calls Tryz.prog 149 #[.string s,.string ⟨#[48,49,50,51,52,53,54,55,56,57]⟩] W λe w'=>e=.returned (.string ⟨(Lib.trimS s.data.toList CG).toArray⟩)/\Below W.heap.size W w':=
 Any.strings_Trim_laid Tryz.lays160 (by kernel_rfl) s ⟨#[48,49,50,51,52,53,54,55,56,57]⟩ W hs (by decide) (ascii_of_all (by decide))
theorem KL (l:List UInt8)(w:World)(hs:l.length<=1048576):
 Calls Tryz.prog 276 #[.string ⟨l.toArray⟩] w λe w'=>e=.returned (.bool (l.all λc=>Lx.digit (c.toNat:Int)))/\Below w.heap.size w w':=by
 have ht:=λW=>Sj ⟨l.toArray⟩ W (by rw[dS];omega)
 simp only at ht
 have HT:Hid ((Lib.trimS l CG=[])↔(l.all λc=>Lx.digit (c.toNat:Int))=true):=Lib.hid (Ew l)
 generalize (l.all λc=>Lx.digit (c.toNat:Int))=b at *
 generalize Lib.trimS l CG=t at *
 go_enter Tryz.func276,Tryz.ntmps276
 go_wp2_with fail
 refine(ht _).mono ?_
 rintro e w' ⟨rfl,hb⟩
 go_wp2_with fail
 go_ret
 refine⟨bq ?_,hb⟩
 rw[Bool.eq_iff_iff,<-HT.out]
 simp
structure uG (m:Int)(W:World):Prop where
 maxlen:W.cell? ⟨5,0,none⟩=some (.int .i64 m)
 range:∃te pe,W.cell? ⟨12,0,none⟩=some (.iface te pe)
 syn:∃te pe,W.cell? ⟨11,0,none⟩=some (.iface te pe)
theorem uG.below {m:Int}{W W':World}(h:uG m W)(hb:Below W.heap.size W W'):uG m W':=by
 have t:∀(p:Addr) (v:Value),W.cell? p=some v->p.spot=none->W'.cell? p=some v:=λp v hc hs=>by
  obtain⟨b,o,sp⟩:=p
  cases hs
  exact(hb.cell (p:=⟨b,o,none⟩) (uT hc)).trans hc
 obtain⟨h1,⟨a,b,h2⟩,⟨c,d,h3⟩⟩:=h
 exact⟨t _ _ h1 rfl,⟨a,b,t _ _ h2 rfl⟩,⟨c,d,t _ _ h3 rfl⟩⟩
def Mv (hp:Bool)(r:List UInt8)(u c:ByteArray)(b du dc:Bool):Bool:=
 !b||u.toList.isEmpty||((c.size:Int) !=2)||!du||!dc||(decide (1<(u.size:Int))&&decide (PlainAid.bt u 0=48))||(hp&&(r==[48,46,48,48]))
theorem wT (s:ByteArray)(w:World)(hs:s.size<=1048576):
 Calls Tryz.prog 276 #[.string s] w λe w'=>e=.returned (.bool (s.data.toList.all λc=>Lx.digit (c.toNat:Int)))/\Below w.heap.size w w':=
 KL s.data.toList w (by rw[<-Lib.size_eq];exact hs)
theorem BF (b:Bool)(U C:List UInt8)(neg:Bool):
 (!b||(ByteArray.mk U.toArray).toList.isEmpty||(((ByteArray.mk C.toArray).size:Int) !=2)||!(U.all λc=>Lx.digit (c.toNat:Int))||!(C.all λc=>Lx.digit (c.toNat:Int))||
  (decide (1<((ByteArray.mk U.toArray).size:Int))&&decide (PlainAid.bt ⟨U.toArray⟩ 0=48))||neg)=
 !(b&&Lx.whole U&&decide (C.length=2)&&Lx.all Lx.digit C&&!neg):=by
 rw[Lib.toList_data,dS,dS]
 cases b with
 |false=>simp
 |true=>
  cases neg with
  |true=>simp
  |false=>
   by_cases h2:C.length=2
   ·have hC:Lx.all Lx.digit C=C.all λc=>Lx.digit (c.toNat:Int):=by
     unfold Lx.all
     cases C with
     |nil=>simp at h2
     |cons a C=>simp
    rw[hC]
    cases U with
    |nil=>simp[Lx.whole,Lx.all]
    |cons x U=>
     have hb:PlainAid.bt ⟨(x::U).toArray⟩ 0=(x.toNat:Int):=(PlainAid.get_bt ⟨(x::U).toArray⟩ 0 (by rw[dS];simp)).symm
     rw[hb]
     unfold Lx.whole Lx.all
     have e48:decide ((x.toNat:Int)=48)=(x==48):=by
      rw[Bool.eq_iff_iff]
      simp only[decide_eq_true_eq,beq_iff_eq]
      rw[<-UInt8.toNat_inj]
      show((x.toNat:Int)=48)↔(x.toNat=48)
      omega
     rw[e48]
     generalize (x::U).all (λc=>Lx.digit (c.toNat:Int))=d1
     generalize C.all (λc=>Lx.digit (c.toNat:Int))=d2
     generalize hq:(x==48)=q
     have hlen:decide (1<(((x::U).length:Nat):Int))=!((x::U).length==1):=by
      rw[Bool.eq_iff_iff];simp
      cases U with
      |nil=>simp
      |cons a U=>simp;omega
     rw[hlen]
     have hh:((x::U).head? ==some 48)=q:=by rw[<-hq];rfl
     rw[hh]
     have h2':((C.length:Int) !=2)=false:=by rw[bne_eq_false_iff_eq];omega
     rw[h2']
     generalize ((x::U).length==1)=o
     simp only[h2,decide_true]
     cases d1<;>cases d2<;>cases q<;>cases o<;>rfl
   ·have h2':((C.length:Int) !=2)=true:=by rw[bne_iff_ne];omega
    simp[h2,h2']
theorem am_neg (l:List UInt8):(Lib.hasPrefix l [45]&&(Lib.trimPrefix l [45]==[48,46,48,48]))=(l==[45,48,46,48,48]):=by
 cases l with
 |nil=>rfl
 |cons a l=>
  by_cases h:a=45
  ·subst h
   simp[Lib.hasPrefix,Lib.trimPrefix]
  ·have h1:Lib.hasPrefix (a::l) [45]=false:=by
    have h45:((45:UInt8)==a)=false:=by rw[beq_eq_false_iff_ne];exactλh'=>h h'.symm
    simp only[Lib.hasPrefix,List.isPrefixOf,h45,Bool.false_and]
   rw[h1]
   symm
   simp[h]
theorem xX (l:List UInt8):
 Mv (Lib.hasPrefix l [45]) (Lib.trimPrefix l [45]) ⟨(Lib.cut (Lib.trimPrefix l [45]) [46]).1.toArray⟩ ⟨(Lib.cut (Lib.trimPrefix l [45]) [46]).2.1.toArray⟩ (Lib.cut (Lib.trimPrefix l [45]) [46]).2.2
  ((Lib.cut (Lib.trimPrefix l [45]) [46]).1.all λc=>Lx.digit (c.toNat:Int)) ((Lib.cut (Lib.trimPrefix l [45]) [46]).2.1.all λc=>Lx.digit (c.toNat:Int))=!Lx.decimal l:=by
 unfold Mv
 rw[am_neg,BF]
 rfl
theorem GN (w:World)(s:ByteArray)(kd k e0:Int)(b1 b2:Bool)(h1:(e0==0)=b1)(h2:(k==kd)=b2)
 (n1:Calls Tryz.prog 98 #[.string s] w λe w'=>e=.returned (.tuple #[.int .i64 k,.int .i64 e0])/\Below w.heap.size w w'):
 Calls Tryz.prog 253 #[.string s,.int .i64 kd] w λe w'=>e=.returned (.bool (b1&&b2))/\Below w.heap.size w w':=by
 cases b1
 all_goals
  go_enter Tryz.func253,Tryz.ntmps253
  go_wp2_with fail
  refine n1.mono ?_
  rintro e w1 ⟨rfl,hb⟩
  have HB:=Lib.hid hb
  clear n1 hb
  go_wp2_with fail
  go_ret
  exact⟨by simp,HB.out⟩
theorem zk (s:ByteArray)(kd:Int)(w:World)(m:Int)(kb ko kc:Nat)(hs:s.size<=9223372036854775807)(h:lm m kb ko kc w):
 Calls Tryz.prog 253 #[.string s,.int .i64 kd] w λe w'=>e=.returned (.bool (decide (Lx.aD s=(kd,0))))/\Below w.heap.size w w':=by
 refine(GN w s kd _ _ _ _ rfl rfl (uM s w m kb ko kc hs h)).mono ?_
 rintro e w1 ⟨rfl,hb⟩
 refine⟨congrArg (λb=>Ending.returned (.bool b)) ?_,hb⟩
 rw[Bool.eq_iff_iff,Bool.and_eq_true,beq_iff_eq,beq_iff_eq,decide_eq_true_eq]
 constructor
 ·rintro⟨a,b⟩;exact Prod.ext b a
 ·intro h;rw[h];exact⟨rfl,rfl⟩
theorem Jz (w:World)(s:ByteArray)(n1:Calls Tryz.prog 253 #[.string s,.int .i64 2] w λe w'=>e=.returned (.bool false)/\Below w.heap.size w w'):
 Calls Tryz.prog 257 #[.string s] w λe w'=>e=.returned (.tuple #[.int .i64 0,.int .i64 30])/\Below w.heap.size w w':=by
 go_enter Tryz.func257,Tryz.ntmps257
 go_wp2_with fail
 refine n1.mono ?_
 rintro e w1 ⟨rfl,hb⟩
 have HB:=Lib.hid hb
 clear n1 hb
 go_wp2_with fail
 go_ret2
 exact⟨rfl,HB.out⟩
theorem MU (w:World)(s:ByteArray)(n1:Calls Tryz.prog 253 #[.string s,.int .i64 3] w λe w'=>e=.returned (.bool false)/\Below w.heap.size w w'):
 Calls Tryz.prog 225 #[.string s] w λe w'=>e=.returned (.tuple #[.int .i64 0,.int .i64 30])/\Below w.heap.size w w':=by
 go_enter Tryz.func225,Tryz.ntmps225
 go_wp2_with fail
 refine n1.mono ?_
 rintro e w1 ⟨rfl,hb⟩
 have HB:=Lib.hid hb
 clear n1 hb
 go_wp2_with fail
 go_ret2
 exact⟨rfl,HB.out⟩
theorem Lt (w:World)(s:ByteArray)(n:Int)(b1 b2:Bool)(h1:decide (n<1)=b1)(h2:decide (1000000000000000<n)=b2)(n1:Calls Tryz.prog 253 #[.string s,.int .i64 2] w λe w'=>e=.returned (.bool true)/\Below w.heap.size w w')
 (n2:Hid (∀w1,Below w.heap.size w w1->Calls Tryz.prog 277 #[.string s,.int .i64 10,.int .i64 64] w1 λe w'=>e=.returned (.tuple #[.int .i64 n,.nilIface])/\Below w1.heap.size w1 w')):
 Calls Tryz.prog 257 #[.string s] w λe w'=>e=.returned (.tuple #[.int .i64 (if b1||b2 then 0 else n),.int .i64 (if b1||b2 then 2 else 0)])/\Below w.heap.size w w':=by
 cases b1
 all_goals cases b2
 all_goals simp only[decide_eq_true_eq,decide_eq_false_iff_not]at h1 h2
 all_goals try (exfalso;omega)
 all_goals
  go_enter Tryz.func257,Tryz.ntmps257
  go_wp2_with fail
  refine n1.mono ?_
  rintro e w1 ⟨rfl,hb⟩
  have HB:=Lib.hid hb
  have m2:=n2.out w1 hb
  clear n1 hb n2
  go_wp2_with fail
  refine m2.mono ?_
  rintro e w2 ⟨rfl,hb⟩
  have HB2:=Lib.hid (HB.out.trans (hb.mono HB.out.size))
  clear m2 hb
  go_wp2_with fail
  go_ret2
  exact⟨rfl,HB2.out⟩
theorem zu (w:World)(s:ByteArray)(n:Int)(n1:Calls Tryz.prog 253 #[.string s,.int .i64 2] w λe w'=>e=.returned (.bool true)/\Below w.heap.size w w')
 (n2:Hid (∀w1,Below w.heap.size w w1->Calls Tryz.prog 277 #[.string s,.int .i64 10,.int .i64 64] w1 λe w'=>(∃te pe,e=.returned (.tuple #[.int .i64 n,.iface te pe]))/\Below w1.heap.size w1 w')):
 Calls Tryz.prog 257 #[.string s] w λe w'=>e=.returned (.tuple #[.int .i64 0,.int .i64 2])/\Below w.heap.size w w':=by
 go_enter Tryz.func257,Tryz.ntmps257
 go_wp2_with fail
 refine n1.mono ?_
 rintro e w1 ⟨rfl,hb⟩
 have HB:=Lib.hid hb
 have m2:=n2.out w1 hb
 clear n1 hb n2
 go_wp2_with fail
 refine m2.mono ?_
 rintro e w2 ⟨⟨te,pe,rfl⟩,hb⟩
 have HB2:=Lib.hid (HB.out.trans (hb.mono HB.out.size))
 clear m2 hb
 go_wp2_with fail
 go_ret2
 exact⟨rfl,HB2.out⟩
def Ao (v:Int):Int×Int:=if v<1\/1000000000000000<v then(0,2)else(v,0)
def oq (s:ByteArray):Int×Int:=
 if Lx.aD s=(2,0)then(match Lib.parseIntB 64 s.data.toList with| .ok v=>Ao v|_=>(0,2))else(0,30)
theorem IZ (v:Int):((if (decide (v<1)||decide (1000000000000000<v))=true then(0:Int)else v),(if (decide (v<1)||decide (1000000000000000<v))=true then(2:Int)else 0))=Ao v:=by
 unfold Ao
 by_cases h:v<1\/1000000000000000<v
 ·rw[if_pos h,if_pos (by simpa using h),if_pos (by simpa using h)]
 ·rw[if_neg h,if_neg (by simpa using h),if_neg (by simpa using h)]
theorem ps_qty {W0:World}(m:Int)(kb ko kc:Nat)(hx:lm m kb ko kc W0)(ha:uG m W0):oP 257 W0 oq:=by
 refine⟨enters_of Tryz.func257 (by kernel_rfl) rfl,λs hs=>?_,λw s hw hsz=>?_⟩
 ·unfold oq at hs⊢
  split
  ·rw[if_pos (by assumption)]at hs
   split
   ·rename_i v hv
    rw[hv]at hs
    simp only[Ao]at hs⊢
    split
    ·rfl
    ·rw[if_neg (by assumption)]at hs;exact absurd rfl hs
   ·rfl
  ·rfl
 ·have n1:=zk s 2 w m kb ko kc (by omega) (hx.below hw)
  by_cases hc:Lx.aD s=(2,0)
  ·rw[decide_eq_true hc]at n1
   have hq:oq s=(match Lib.parseIntB 64 s.data.toList with| .ok v=>Ao v|_=>(0,2)):=by unfold oq;rw[if_pos hc]
   have env:∀w1,Below w.heap.size w w1->uG m w1:=λw1 h1=>ha.below (hw.trans (h1.mono hw.size))
   rcases hr:Lib.parseIntB 64 s.data.toList with v|_|_
   ·rw[hr]at hq
    simp only[]at hq
    rw[hq,<-IZ v]
    refine Lt w s v _ _ rfl rfl n1 (Lib.hid λw1 h1=>?_)
    refine(Tryz.strconv_ParseInt_10_at64_ok s (by omega) v hr w1).mono ?_
    rintro e w' ⟨rfl,hw'⟩
    refine⟨rfl,?_⟩
    rcases hw' with rfl|⟨t,rfl⟩
    ·exact Below.refl _ _
    ·exact Lib.bytesWorld_below _ _ _
   ·rw[hr]at hq
    simp only[]at hq
    rw[hq]
    refine zu w s 0 n1 (Lib.hid λw1 h1=>?_)
    obtain⟨_,⟨a,b,h2⟩,⟨c,d,h3⟩⟩:=env w1 h1
    refine(Tryz.strconv_ParseInt_10_at64_syntax s (by omega) hr _ w1 h3 (Or.inr ⟨_,_,rfl⟩)).mono ?_
    rintro e w' ⟨N,rfl,_,_,hb⟩
    exact⟨⟨_,_,rfl⟩,hb⟩
   ·rw[hr]at hq
    simp only[]at hq
    rw[hq]
    refine zu w s (Lib.intSat 64 s.data.toList) n1 (Lib.hid λw1 h1=>?_)
    obtain⟨_,⟨a,b,h2⟩,⟨c,d,h3⟩⟩:=env w1 h1
    refine(Tryz.strconv_ParseInt_10_at64_range s (by omega) hr _ w1 h2 (Or.inr ⟨_,_,rfl⟩)).mono ?_
    rintro e w' ⟨N,rfl,_,_,hb⟩
    exact⟨⟨_,_,rfl⟩,hb⟩
  ·rw[decide_eq_false hc]at n1
   have hq:oq s=(0,30):=by unfold oq;rw[if_neg hc]
   rw[hq]
   exact Jz w s n1
def jE:List (ByteArray×Nat):=[(⟨#[112,97,121]⟩,99),(⟨#[100,101,108,105,118,101,114]⟩,100),(⟨#[114,101,99,101,105,118,101]⟩,101),
 (⟨#[112,108,101,100,103,101]⟩,102),(⟨#[114,101,108,101,97,115,101]⟩,103),(⟨#[97,109,101,110,100]⟩,104),
 (⟨#[99,97,110,99,101,108]⟩,105),(⟨#[104,111,108,100]⟩,106),(⟨#[114,101,115,117,109,101]⟩,107)]
def qg:List Value:=jE.flatMap λx=>[.string x.1,.func (.func x.2) #[] #[]]
theorem PP (w:World):Calls Tryz.prog 52 #[] w λe w'=>e=.returned (.slice (some ⟨w.heap.size,0,none⟩) 9 9)/\w'=w.alloc (.cells qg.toArray 103):=by
 go_enter Tryz.func52,Tryz.ntmps52
 go_wp2_with fail
 go_ret
 exact⟨rfl,rfl⟩
theorem UO:∀(l:List (ByteArray×Nat)) (j:Nat) (x:ByteArray×Nat),l[j]? =some x->(l.flatMap λx=>[Value.string x.1,.func (.func x.2) #[] #[]])[j*2]? =some (.string x.1)/\(l.flatMap λx=>[Value.string x.1,.func (.func x.2) #[] #[]])[j*2+1]? =some (.func (.func x.2) #[] #[])
 |[],j,x,h=>by simp at h
 |y::l,0,x,h=>by
  obtain rfl:y=x:=by simpa using h
  exact⟨rfl,rfl⟩
 |y::l,j+1,x,h=>by
  have ih:=UO l j x (by simpa using h)
  rw[show(j+1)*2=j*2+1+1 from by omega]
  exact ih
theorem DX (W:World)(r q:Nat)(P1:World->Prop)
 (n1:Calls Tryz.prog 100 #[.pointer (some ⟨r,0,none⟩),.pointer (some ⟨q,0,none⟩)] W λe W'=>e=.returned (.tuple #[])/\P1 W')
 (s1:Hid (∀w,P1 w->∃(x y:ByteArray) (cs:Array Value),w.heap[q]? =some (.cells cs 37 (0,0))/\cs[5]? =some (.string x)/\cs[6]? =some (.string y)/\7<cs.size)):
 Calls Tryz.prog 101 #[.pointer (some ⟨r,0,none⟩),.pointer (some ⟨q,0,none⟩)] W λe W'=>e=.returned (.tuple #[])/\∃(w:World) (x y:ByteArray),P1 w/\w.cell? ⟨q,5,none⟩=some (.string x)/\w.cell? ⟨q,6,none⟩=some (.string y)/\W'=(((w.setCell ⟨q,7,none⟩ (.int .i64 1)).setCell ⟨q,5,none⟩ (.string y)).setCell ⟨q,6,none⟩ (.string x)).drew:=by
 go_enter Tryz.func101,Tryz.ntmps101
 go_wp2_with fail
 refine n1.mono ?_
 rintro e w ⟨rfl,h1⟩
 obtain⟨x,y,cs,hr,hx,hy,hs⟩:=s1.out w h1
 have c5:w.cell? ⟨q,5,none⟩=some (.string x):=by rw[cell_of_row _ _ _ _ _ _ hr];exact hx
 have c6:w.cell? ⟨q,6,none⟩=some (.string y):=by rw[cell_of_row _ _ _ _ _ _ hr];exact hy
 have c7:w.cell? ⟨q,7,none⟩=some cs[7]:=by rw[cell_of_row _ _ _ _ _ _ hr];exact Array.getElem?_eq_getElem hs
 have f5:=aV 5 hr
 have f6:=aV 6 hr
 have f7:=aV 7 hr
 have d5:w.drew.cell? ⟨q,5,none⟩=some (.string x):=c5
 have d6:w.drew.cell? ⟨q,6,none⟩=some (.string y):=c6
 have d7:w.drew.cell? ⟨q,7,none⟩=some cs[7]:=c7
 have g5:w.drew.frozen? ⟨q,5,none⟩=false:=f5
 have g6:w.drew.frozen? ⟨q,6,none⟩=false:=f6
 have g7:w.drew.frozen? ⟨q,7,none⟩=false:=f7
 have H1:=Lib.hid h1
 have HC5:=Lib.hid c5
 have HC6:=Lib.hid c6
 clear n1 s1 hr hx hy h1
 go_wp2_with fail
 go_region_law (fail)
 all_goals
  go_end0
  exact⟨rfl,w,x,y,H1.out,HC5.out,HC6.out,rfl⟩
def kH (D:ByteArray->Int×Int)(s:ByteArray):Int×Int:=if (D s).2=0 then((D s).1,0)else(0,28)
theorem Oh (w:World)(s:ByteArray)(n:Int)(_hw:IntKind.i64.wrap n=n)
 (n1:Calls Tryz.prog 227 #[.string s] w λe w'=>e=.returned (.tuple #[.int .i64 n,.int .i64 0])/\Below w.heap.size w w'):
 Calls Tryz.prog 226 #[.string s] w λe w'=>e=.returned (.tuple #[.int .i64 n,.int .i64 0])/\Below w.heap.size w w':=by
 go_enter Tryz.func226,Tryz.ntmps226
 go_wp2_with fail
 refine n1.mono ?_
 rintro e w1 ⟨rfl,hb⟩
 have HB:=Lib.hid hb
 clear n1 hb
 go_wp2_with fail
 go_ret2
 exact⟨rfl,HB.out⟩
theorem Ns (w:World)(s:ByteArray)(n x:Int)(hx:(x==0)=false)
 (n1:Calls Tryz.prog 227 #[.string s] w λe w'=>e=.returned (.tuple #[.int .i64 n,.int .i64 x])/\Below w.heap.size w w'):
 Calls Tryz.prog 226 #[.string s] w λe w'=>e=.returned (.tuple #[.int .i64 0,.int .i64 28])/\Below w.heap.size w w':=by
 go_enter Tryz.func226,Tryz.ntmps226
 go_wp2_with fail
 refine n1.mono ?_
 rintro e w1 ⟨rfl,hb⟩
 have HB:=Lib.hid hb
 clear n1 hb
 go_wp2_with fail
 go_ret2
 exact⟨rfl,HB.out⟩
theorem Lv {W0:World}(D:ByteArray->Int×Int)(hr:∀s,IntKind.i64.wrap (D s).1=(D s).1)
 (hD:∀w (s:ByteArray),Below W0.heap.size W0 w->s.size<=1000000->Calls Tryz.prog 227 #[.string s] w λe W'=>e=.returned (.tuple #[.int .i64 (D s).1,.int .i64 (D s).2])/\Below w.heap.size w W'):
 oP 226 W0 (kH D):=by
 refine⟨enters_of Tryz.func226 (by kernel_rfl) rfl,λs hs=>?_,λw s hw hsz=>?_⟩
 ·unfold kH at hs⊢
  split
  ·rw[if_pos (by assumption)]at hs;exact absurd rfl hs
  ·rfl
 ·have n1:=hD w s hw hsz
  by_cases h:(D s).2=0
  ·rw[h]at n1
   unfold kH
   rw[if_pos h]
   exact Oh w s _ (hr s) n1
  ·unfold kH
   rw[if_neg h]
   exact Ns w s _ _ (by rw[beq_eq_false_iff_ne];exact h) n1
theorem L8 (w:World)(s:ByteArray)(n:Int)(b1 b2:Bool)(h1:decide (n<1)=b1)(h2:decide (1000000000000000<n)=b2)(n1:Calls Tryz.prog 253 #[.string s,.int .i64 3] w λe w'=>e=.returned (.bool true)/\Below w.heap.size w w')
 (n2:Hid (∀w1,Below w.heap.size w w1->Calls Tryz.prog 254 #[.string s] w1 λe w'=>e=.returned (.tuple #[.int .i64 n,.int .i64 0])/\Below w1.heap.size w1 w')):
 Calls Tryz.prog 225 #[.string s] w λe w'=>e=.returned (.tuple #[.int .i64 (if b1||b2 then 0 else n),.int .i64 (if b1||b2 then 2 else 0)])/\Below w.heap.size w w':=by
 cases b1
 all_goals cases b2
 all_goals simp only[decide_eq_true_eq,decide_eq_false_iff_not]at h1 h2
 all_goals try (exfalso;omega)
 all_goals
  go_enter Tryz.func225,Tryz.ntmps225
  go_wp2_with fail
  refine n1.mono ?_
  rintro e w1 ⟨rfl,hb⟩
  have HB:=Lib.hid hb
  have m2:=n2.out w1 hb
  clear n1 hb n2
  go_wp2_with fail
  refine m2.mono ?_
  rintro e w2 ⟨rfl,hb⟩
  have HB2:=Lib.hid (HB.out.trans (hb.mono HB.out.size))
  clear m2 hb
  go_wp2_with fail
  go_ret2
  exact⟨rfl,HB2.out⟩
theorem Jy (w:World)(s:ByteArray)(n x:Int)(h0:¬x=0)(n1:Calls Tryz.prog 253 #[.string s,.int .i64 3] w λe w'=>e=.returned (.bool true)/\Below w.heap.size w w')
 (n2:Hid (∀w1,Below w.heap.size w w1->Calls Tryz.prog 254 #[.string s] w1 λe w'=>e=.returned (.tuple #[.int .i64 n,.int .i64 x])/\Below w1.heap.size w1 w')):
 Calls Tryz.prog 225 #[.string s] w λe w'=>e=.returned (.tuple #[.int .i64 0,.int .i64 2])/\Below w.heap.size w w':=by
 go_enter Tryz.func225,Tryz.ntmps225
 go_wp2_with fail
 refine n1.mono ?_
 rintro e w1 ⟨rfl,hb⟩
 have HB:=Lib.hid hb
 have m2:=n2.out w1 hb
 clear n1 hb n2
 go_wp2_with fail
 refine m2.mono ?_
 rintro e w2 ⟨rfl,hb⟩
 have HB2:=Lib.hid (HB.out.trans (hb.mono HB.out.size))
 clear m2 hb
 go_wp2_with fail
 go_ret2
 exact⟨rfl,HB2.out⟩
def qV (A:ByteArray->Int×Int)(s:ByteArray):Int×Int:=
 if Lx.aD s=(3,0)then(if (A s).2=0 then Ao (A s).1 else(0,2))else(0,30)
theorem tY {s:ByteArray}(h:Lx.aD s=(3,0)):Lx.decimal s.data.toList=true:=by
 unfold Lx.aD at h
 split at h
 ·cases h
 ·split at h
  ·cases h
  ·split at h
   ·cases h
   ·split at h
    ·assumption
    ·split at h
     ·cases h
     ·split at h<;>cases h
theorem ps_amt {W0:World}(m:Int)(kb ko kc:Nat)(hx:lm m kb ko kc W0)(A:ByteArray->Int×Int)
 (hA:∀w (s:ByteArray),Below W0.heap.size W0 w->s.size<=32->Lx.decimal s.data.toList=true->Calls Tryz.prog 254 #[.string s] w λe W'=>e=.returned (.tuple #[.int .i64 (A s).1,.int .i64 (A s).2])/\Below w.heap.size w W'):
 oP 225 W0 (qV A):=by
 refine⟨enters_of Tryz.func225 (by kernel_rfl) rfl,λs hs=>?_,λw s hw hsz=>?_⟩
 ·unfold qV at hs⊢
  split
  ·rw[if_pos (by assumption)]at hs
   split
   ·rw[if_pos (by assumption)]at hs
    unfold Ao at hs⊢
    split
    ·rfl
    ·rw[if_neg (by assumption)]at hs;exact absurd rfl hs
   ·rfl
  ·rfl
 ·have n1:=zk s 3 w m kb ko kc (by omega) (hx.below hw)
  by_cases hc:Lx.aD s=(3,0)
  ·rw[decide_eq_true hc]at n1
   have h32:s.size<=32:=by
    rcases Nat.lt_or_ge 32 s.size with h|h
    ·unfold Lx.aD at hc;rw[if_pos h]at hc;cases hc
    ·exact h
   have hA1:=λw1 (h1:Below w.heap.size w w1)=>hA w1 s (hw.trans (h1.mono hw.size)) h32 (tY hc)
   unfold qV
   rw[if_pos hc]
   by_cases h:(A s).2=0
   ·rw[if_pos h,<-IZ]
    rw[h]at hA1
    exact L8 w s (A s).1 _ _ rfl rfl n1 (Lib.hid hA1)
   ·rw[if_neg h]
    exact Jy w s (A s).1 (A s).2 h n1 (Lib.hid hA1)
  ·rw[decide_eq_false hc]at n1
   have hq:qV A s=(0,30):=by unfold qV;rw[if_neg hc]
   rw[hq]
   exact MU w s n1
def lI (sn:List Bool):Array Value:=(sn.map Value.bool).toArray
theorem bz.fresh {W0 W:World}{r tb cap q sb:Nat}{l:List Ps.Tok}{st st':Ps.St}{cs:Array Value}{w w':World}(h:bz W0 W r tb cap q l st cs w)(hr:fw w' r tb cap l st')(hT:Tch r sb w w')(hsq:sb≠q)(hW:W.heap.size<=sb)(h0:W0.heap.size<=sb):bz W0 W r tb cap q l st' cs w':=by
 obtain⟨a,b,c,d,e,f⟩:=h
 refine⟨⟨hr,a.base.trans (hT.below a.r0 h0 a.base.size),a.r0⟩,(hT.block q (Array.getElem?_eq_some_iff.1 b).1 d (Ne.symm hsq)).trans b,?_,d,e,f⟩
 exact⟨hT.os.trans c.os,hT.tape.trans c.tape,hT.output.trans c.output,Nat.le_trans c.size hT.size,λj hj h1 h2=>(hT.block j (Nat.lt_of_lt_of_le hj c.size) h1 (by omega)).trans (c.block j hj h1 h2)⟩
theorem Rb {W0 W:World}{r tb cap q sb a:Nat}{l:List Ps.Tok}{cs:Array Value}{w:World}(h:bz W0 W r tb cap q l (.ok a) cs w)(hlt:a<l.length)(sn:List Bool)(t:TypeId)(hs:w.heap[sb]? =some (.cells (lI sn) t (0,0)))
 (hsr:sb≠r) (hsq:sb≠q) (hst:sb≠tb) (hW:W.heap.size<=sb) (h0:W0.heap.size<=sb) (p:Nat) (hp:p<6) (b:Bool) (hb:sn[p]? =some b):
 Calls Tryz.prog 229 #[.pointer (some ⟨r,0,none⟩),.pointer (some ⟨sb,0,none⟩),.int .i64 p] w λe W'=>e=.returned (.bool (!b))/\
  bz W0 W r tb cap q l (if b=true then .error (Ps.av l a,7)else .ok (a+1)) cs W'/\W'.heap[sb]? =some (.cells (lI (sn.set p true)) t (0,0))/\Tch r sb w W':=by
 have hcp:(lI sn)[p]? =some (.bool b):=by unfold lI;rw[List.getElem?_toArray,List.getElem?_map,hb];rfl
 cases b with
 |true=>
  have hc:w.cell? ⟨sb,p,none⟩=some (.bool true):=by rw[cell_of_row _ _ _ _ _ _ hs];exact hcp
  refine FM w r sb p _ hp (by omega) hc ((lT h.1.rd 7 (by decide) (λb hb=>by cases hb;exact hlt)).mono ?_)
  rintro e w1 ⟨h1,h2,h3⟩
  have hset:sn.set p true=sn:=by
   apply List.ext_getElem?
   intro i
   by_cases hi:p=i
   ·subst hi
    rw[List.getElem?_set_self (List.getElem?_eq_some_iff.1 hb).1,hb]
   ·rw[List.getElem?_set_ne hi]
  rw[hset]
  exact⟨h1,h.step (h.1.next h2 h3) h3,(h3.block sb (Array.getElem?_eq_some_iff.1 hs).1 hsr hsr).trans hs,h3.left⟩
 |false=>
  obtain⟨a',o,e0,hr,ht,hne,hpos,hcap,gN,TL⟩:=h.1.rd
  obtain⟨rfl,rfl,hle⟩:=TL
  refine(MC w r sb p tb l.length cap a' o 0 (lI sn) t hp (by omega) hs hcp hsr hr (by unfold wrap64;omega)).mono ?_
  rintro e w1 ⟨rfl,h1,h2,h3⟩
  refine⟨rfl,h.fresh ⟨a'+1,o,0,h1,ht.tch h3 hne (Ne.symm hst),hne,hpos,hcap,gN,rfl,rfl,hlt⟩ h3 hsq hW h0,?_,h3⟩
  rw[h2]
  unfold lI
  simp
def psE (Fc Fq Fd:ByteArray->Int×Int):Ps.Env:={valid:=λk s=>decide (aS k s=0),cash:=Fc,number:=Fq,date:=Fd}
theorem sO (Fc Fq Fd:ByteArray->Int×Int)(l:List Ps.Tok)(k:Nat)(ks:List Int):Ps.ident (psE Fc Fq Fd) l k ks=Ps.take l (λs=>(s,dz k s)) ks:=by
 unfold Ps.ident
 congr 1
 funext s
 simp only[psE,dz,decide_eq_true_eq]
theorem JS (Fc Fq Fd:ByteArray->Int×Int)(l:List Ps.Tok):Ps.ref (psE Fc Fq Fd) l=wV l:=sO _ _ _ l 2 _
theorem vv (Fc Fq Fd:ByteArray->Int×Int)(l:List Ps.Tok):Ps.member (psE Fc Fq Fd) l=wD l:=sO _ _ _ l 1 _
theorem QP (Fc Fq Fd:ByteArray->Int×Int)(l:List Ps.Tok):Ps.isin (psE Fc Fq Fd) l=Nf l:=sO _ _ _ l 0 _
theorem Ri (Fc Fq Fd:ByteArray->Int×Int)(hd:∀s,(Fd s).2=0\/Fd s=(0,28))(l:List Ps.Tok):Ps.day (psE Fc Fq Fd) l=Ps.take l Fd [4]:=by
 unfold Ps.day
 congr 1
 funext s
 show((Fd s).1,if (Fd s).2=0 then(0:Int)else 28)=Fd s
 rcases hd s with h|h
 ·rw[if_pos h];exact Prod.ext rfl h.symm
 ·rw[h];rfl
theorem psE_by (Fc Fq Fd:ByteArray->Int×Int)(l:List Ps.Tok):Ps.by_ (psE Fc Fq Fd) l=UI l:=by unfold Ps.by_ UI;rw[vv]
abbrev fI:Value:=.slice none 0 0
open Go.Proofs.YtnjjeapcalkmaaaGreatDoor.Ev (AV Mem Fr Sh Stop Qof aX cK bL fU mJ fmC nC look keep iF)
structure Pdr (W0:World)(l:List Ps.Tok)(E:Ps.Env):Prop where
 toks:fq l
 ref:qW 53 W0 l (Ps.ref E l)
 member:qW 223 W0 l (Ps.member E l)
 isin:qW 231 W0 l (Ps.isin E l)
 by_:qW 185 W0 l (Ps.by_ E l)
 cash:xy 180 W0 l (Ps.cash E l)
 qty:xy 230 W0 l (Ps.quantity E l)
 day:xy 181 W0 l (Ps.day E l)
 prio:∀w,Below W0.heap.size W0 w->uW w
section
variable {W0 W : World} {r tb cap q : Nat} {l : List Ps.Tok} {E : Ps.Env}
def pqR (W0:World)(r tb cap:Nat)(l:List Ps.Tok)(st:Ps.St)(w:World):Prop:=gM W0 w r tb cap l st
def Kv (l:List Ps.Tok)(s:RS)(p:Ps.P ByteArray):List AV->Option (Value×Option RS)
 |[.p 0 0]=>some (.string (Ps.step p ⟨#[]⟩ (s.st l)).1,some (.any (Ps.step p ⟨#[]⟩ (s.st l)).2))
 |_=>none
def Px (l:List Ps.Tok)(s:RS)(p:Ps.P Int):List AV->Option (Value×Option RS)
 |[.p 0 0]=>some (.int .i64 (Ps.step p 0 (s.st l)).1,some (.any (Ps.step p 0 (s.st l)).2))
 |_=>none
def pqTab (E:Ps.Env)(l:List Ps.Tok)(s:RS):List (FuncId×(List AV->Option (Value×Option RS))):=
 [(179,λvs=>match vs with|[.p 0 0,.v (.string x)]=>some (.tuple #[],some (.any (Ps.step (Ps.word l x.data.toList) () (s.st l)).2))|_=>none),
  (53,Kv l s (Ps.ref E l)),(223,Kv l s (Ps.member E l)),(231,Kv l s (Ps.isin E l)),(185,Kv l s (Ps.by_ E l)),
  (180,Px l s (Ps.cash E l)),(230,Px l s (Ps.quantity E l)),(181,Px l s (Ps.day E l)),
  (51,λvs=>match vs with|[.p 0 0]=>some (.string (Ps.jk l (s.st l)),none)|_=>none),
  (55,λvs=>match vs with|[.p 0 0]=>(match s with| .at0 _=>some (.bool true,none)|_=>some (.bool (Ps.dU l (s.st l)),none))|_=>none),
  (50,λvs=>match vs with|[.p 0 0]=>some (.bool (Ps.dU l (s.st l)),some (.any (Ps.gB l (s.st l))))|_=>none),
  (54,λvs=>match vs,s with|[.p 0 0,.v (.int .i64 n)],.at0 a=>if n=30 then some (.tuple #[],some (.any (Ps.qO l 30 (.ok a))))else none|_,_=>none),
  (228,λvs=>match vs with|[.v (.string x)]=>some (.int .i64 (prV x),none)|_=>none)]
def O3 (E:Ps.Env)(l:List Ps.Tok)(s:RS)(f:FuncId)(vs:List AV):Option (Value×Option RS):=yX (pqTab E l s) f vs
theorem MJ (hP:Pdr W0 l E){σ:Type}{M:Mem σ}(hM:M.blk.getD 0 (0,0)=(r,0)){s:RS}{f:FuncId}{vs:List AV}{v:Value}{s':Option RS}(h:O3 E l s f vs=some (v,s')):wC l r (pqR W0 r tb cap l) M s f vs v (s'.getD s):=by
 have hp:(AV.p 0 0).val M=.pointer (some ⟨r,0,none⟩):=by
  show Value.pointer (some ⟨(M.blk.getD 0 (0,0)).1,(M.blk.getD 0 (0,0)).2+0,none⟩)=_
  rw[hM]
 have hstr:∀{g:FuncId} {p:Ps.P ByteArray},qW g W0 l p->(∀args w,(callFunc g args).run Tryz.prog w=.ok (.enter g args) w)->∀vs (b:Value×Option RS),Kv l s p vs=some b->wC l r (pqR W0 r tb cap l) M s g vs b.1 (b.2.getD s):=λhg he vs b h=>by
  unfold Kv at h
  split at h
  ·cases h
   refine⟨he,λ_=>⟨trivial,λw hw=>?_⟩⟩
   simp only[List.map_cons,List.map_nil,hp]
   exact hg w r tb cap _ hw
  ·cases h
 have hint:∀{g:FuncId} {p:Ps.P Int},xy g W0 l p->(∀args w,(callFunc g args).run Tryz.prog w=.ok (.enter g args) w)->∀vs (b:Value×Option RS),Px l s p vs=some b->wC l r (pqR W0 r tb cap l) M s g vs b.1 (b.2.getD s):=λhg he vs b h=>by
  unfold Px at h
  split at h
  ·cases h
   refine⟨he,λ_=>⟨trivial,λw hw=>?_⟩⟩
   simp only[List.map_cons,List.map_nil,hp]
   exact hg w r tb cap _ hw
  ·cases h
 refine tN (G:=λf vs b=>wC l r (pqR W0 r tb cap l) M s f vs b.1 (b.2.getD s)) h ?_
 refine List.forall_mem_cons.2 ⟨λvs b h=>?_,List.forall_mem_cons.2 ⟨hstr hP.ref (enters_of Tryz.func53 (by kernel_rfl) rfl),List.forall_mem_cons.2 ⟨hstr hP.member (enters_of Tryz.func223 (by kernel_rfl) rfl),List.forall_mem_cons.2 ⟨hstr hP.isin (enters_of Tryz.func231 (by kernel_rfl) rfl),List.forall_mem_cons.2 ⟨hstr hP.by_ (enters_of Tryz.func185 (by kernel_rfl) rfl),List.forall_mem_cons.2 ⟨hint hP.cash (enters_of Tryz.func180 (by kernel_rfl) rfl),List.forall_mem_cons.2 ⟨hint hP.qty (enters_of Tryz.func230 (by kernel_rfl) rfl),List.forall_mem_cons.2 ⟨hint hP.day (enters_of Tryz.func181 (by kernel_rfl) rfl),
  List.forall_mem_cons.2 ⟨λvs b h=>?_,List.forall_mem_cons.2 ⟨λvs b h=>?_,List.forall_mem_cons.2 ⟨λvs b h=>?_,List.forall_mem_cons.2 ⟨λvs b h=>?_,List.forall_mem_cons.2 ⟨λvs b h=>?_,λ_ h=>by cases h⟩⟩⟩⟩⟩⟩⟩⟩⟩⟩⟩⟩⟩
 ·dsimp only at h
  split at h
  ·cases h
   refine⟨enters_of Tryz.func179 (by kernel_rfl) rfl,λ_=>⟨trivial,λw hw=>?_⟩⟩
   simp only[List.map_cons,List.map_nil,hp]
   exact zT hP.toks hw _
  ·cases h
 ·dsimp only at h
  split at h
  ·cases h
   refine⟨enters_of Tryz.func51 (by kernel_rfl) rfl,λhb=>⟨hb,λw hw=>?_⟩⟩
   simp only[List.map_cons,List.map_nil,hp]
   exact(vI hw.rd).mono λe w' ⟨k1,k,k2⟩=>⟨k1,by rw[k2];exact hw.next (hw.rd.drewN k) (Tch.drewN _ _ _ _),by rw[k2];exact Tch.drewN _ _ _ _⟩
  ·cases h
 ·dsimp only at h
  split at h
  ·have key:∀w,pqR W0 r tb cap l (s.st l) w->Calls Tryz.prog 55 (List.map (AV.val M) [AV.p 0 0]).toArray w λe w'=>e=.returned (.bool (Ps.dU l (s.st l)))/\pqR W0 r tb cap l (s.st l) w'/\Tch r r w w':=λw hw=>by
    simp only[List.map_cons,List.map_nil,hp]
    exact(nk (gM.rd hw)).mono λe w' ⟨k1,k,k2⟩=>⟨k1,by rw[k2];exact gM.next hw (hw.rd.drewN k) (Tch.drewN _ _ _ _),by rw[k2];exact Tch.drewN _ _ _ _⟩
   split at h
   ·cases h
    refine⟨enters_of Tryz.func55 (by kernel_rfl) rfl,λhb=>⟨hb,λw hw=>(key w hw).mono λe w' k=>⟨k.1.trans ?_,k.2⟩⟩⟩
    rename_i a
    have hb2:a<l.length:=hb
    show Ending.returned (.bool (decide (a<l.length)))=_
    rw[decide_eq_true hb2]
   ·cases h
    exact⟨enters_of Tryz.func55 (by kernel_rfl) rfl,λhb=>⟨hb,key⟩⟩
  ·cases h
 ·dsimp only at h
  split at h
  ·cases h
   refine⟨enters_of Tryz.func50 (by kernel_rfl) rfl,λ_=>⟨trivial,λw hw=>?_⟩⟩
   simp only[List.map_cons,List.map_nil,hp]
   exact(vL (gM.rd hw) hP.toks).mono λe w' ⟨k1,k2,k3⟩=>⟨k1,gM.next hw k2 k3,k3⟩
  ·cases h
 ·dsimp only at h
  split at h
  ·split at h
   ·rename_i hn
    subst hn
    cases h
    refine⟨enters_of Tryz.func54 (by kernel_rfl) rfl,λhb=>⟨trivial,λw hw=>?_⟩⟩
    simp only[List.map_cons,List.map_nil,hp]
    exact(lT (gM.rd hw) 30 (by decide) (λb hb2=>by cases hb2;exact hb)).mono λe w' ⟨k1,k2,k3⟩=>⟨k1,gM.next hw k2 k3,k3⟩
   ·cases h
  ·cases h
 ·dsimp only at h
  split at h
  ·cases h
   refine⟨enters_of Tryz.func228 (by kernel_rfl) rfl,λhb=>⟨hb,λw hw=>?_⟩⟩
   exact(EP w _ (hP.prio w (gM.base hw))).mono λe w' ⟨k1,k2⟩=>⟨k1,by rw[<-k2];exact hw,by rw[<-k2];exact Tch.refl _ _ _⟩
  ·cases h
def Um:RS->Option RS
 | .at0 a=>some (.any (.ok (a+1)))
 |_=>none
theorem pq_inc:RdI l r (pqR W0 r tb cap l) Um:=λs s' hs hb=>by
 cases s with
 |at0 b=>
  cases hs
  refine⟨trivial,λw h=>?_⟩
  obtain⟨a,o,e,hr,ht,hne,hpos,hcap,gN,rfl,rfl,hle⟩:=gM.rd h
  have hlt:a<l.length:=hb
  obtain⟨-,k1,-,-,-⟩:=dF hr
  have hw1:IntKind.i64.wrap ((a:Int)+1)=((a+1:Nat):Int):=by rw[IntWalk.i64_in _ (by omega)];rfl
  refine⟨a,k1,aV 1 hr,?_⟩
  rw[hw1]
  have hT:Tch r r w (w.setCell ⟨r,1,none⟩ (.int .i64 ((a+1:Nat):Int))):=(Tch.refl r r w).setCell 1 _
  exact gM.next h ⟨a+1,o,0,ai w r 1 _ _ (.int .i64 ((a+1:Nat):Int)) hr,ht.tch hT hne hne,hne,hpos,hcap,gN,rfl,rfl,hlt⟩ hT
 |dup b a=>cases hs
 |any st=>cases hs
def Fu (Q:Ps.Req)(j:Nat)(v:Value):Option Ps.Req:=match j,v with
 |0,.int .i64 n=>some {Q with op:=n}
 |1,.string s=>some {Q with sender:=s}
 |2,.string s=>some {Q with ref:=s}
 |j+3,v=>if j<16 then(match Py Q.ins j v with|some i=>some {Q with ins:=i}|none=>none)else(match QO Q.amd (j-16) v with|some a=>some {Q with amd:=a}|none=>none)
 |_,_=>none
theorem K4 {Q Q':Ps.Req}{j:Nat}{v:Value}(h:Fu Q j v=some Q'):(∀lv,(aB Q lv).setIfInBounds j v=aB Q' lv)/\Q'.ins.links=Q.ins.links/\((∃n,v=.int .i64 n)\/(∃b,v=.bool b)\/∃s,v=.string s)/\j<28:=by
 unfold Fu at h
 split at h
 ·cases h;exact⟨λ_=>rfl,rfl,by simp,by decide⟩
 ·cases h;exact⟨λ_=>rfl,rfl,by simp,by decide⟩
 ·cases h;exact⟨λ_=>rfl,rfl,by simp,by decide⟩
 ·rename_i j
  split at h
  ·split at h
   ·rename_i i hi
    cases h
    unfold Py at hi
    split at hi
    all_goals first|(cases hi;exact⟨λ_=>rfl,rfl,by simp,by decide⟩)|cases hi
   ·cases h
  ·rename_i hj
   split at h
   ·rename_i a ha
    cases h
    obtain⟨k,rfl⟩:∃k,j=k+16:=⟨j-16,by omega⟩
    rw[Nat.add_sub_cancel]at ha
    unfold QO at ha
    split at ha
    all_goals first|(cases ha;exact⟨λ_=>rfl,rfl,by simp,by decide⟩)|cases ha
   ·cases h
 ·cases h
def pqB (W0 W:World)(r tb cap q:Nat)(l:List Ps.Tok)(Ex:List Bool->List Ps.Link->Value->World->Prop)(st:Ps.St)(x:List Bool×Ps.Req)(w:World):Prop:=∃lv,bz W0 W r tb cap q l st (aB x.2 lv) w/\Ex x.1 x.2.ins.links lv w
def LF (r q:Nat)(Ex:List Bool->List Ps.Link->Value->World->Prop):Prop:=∀{sn ks lv w w'},Ex sn ks lv w->Tch r q w w'->Ex sn ks lv w'
variable {Ex : List Bool → List Ps.Link → Value → World → Prop}
theorem Ob (hE:LF r q Ex):RdB (pqR W0 r tb cap l) r (pqB W0 W r tb cap q l Ex):=⟨λ⟨_,h,_⟩=>h.1,λ⟨lv,h,he⟩ hs hT=>⟨lv,h.step hs hT,hE he hT.left⟩⟩
def F5 (t:TypeId)(f:Nat):Option Nat:=if t=97 then(if f<4 then some f else none)else pM t f
theorem RH {t:TypeId}{f d:Nat}(h:F5 t f=some d)(b j:Nat)(w:World):(Instr.fieldAt t (.pointer (some ⟨b,j,none⟩)) f).run Tryz.prog w=.ok (.pointer (some ⟨b,j+d,none⟩)) w:=by
 unfold F5 at h
 split at h
 ·rename_i h1
  subst h1
  split at h
  ·cases h
   rcases f with _|_|_|_|f
   all_goals first|omega|go_simp
  ·cases h
 ·exact qZ h b j w
def sc4 (t:TypeId):Bool:=t==2||t==3||t==4||t==9
theorem NS {t:TypeId}(h:sc4 t=true):t=2\/t=3\/t=4\/t=9:=by
 unfold sc4 at h
 simp only[Bool.or_eq_true,beq_iff_eq]at h
 rcases h with((h|h)|h)|h<;>simp[h]
def PI (s:RS×(List Bool×Ps.Req))(t:TypeId)(k j:Nat):Option AV:=if k=1/\sc4 t=true/\j≠18 then(match (aB s.2.2 fI)[j]? with|some v=>some (.v v)|none=>none)else none
def Jb (x:List Bool×Ps.Req)(t:TypeId)(k j:Nat)(v:Value):Option (List Bool×Ps.Req):=if k=1/\sc4 t=true then(match Fu x.2 j v with|some Q=>some (x.1,Q)|none=>none)else none
def pqM (E:Ps.Env)(l:List Ps.Tok)(r q sb:Nat)(callX:RS×(List Bool×Ps.Req)->FuncId->List AV->Option (Value×Option (RS×(List Bool×Ps.Req))))(hint:Nat->Option Bool):Mem (RS×(List Bool×Ps.Req)):=rdG Um F5 [(r,0),(q,0),(sb,0)] (λ_ _=>.bool false) (O3 E l) PI Jb callX hint
variable {sb : Nat} {callX : RS × (List Bool × Ps.Req) → FuncId → List AV → Option (Value × Option (RS × (List Bool × Ps.Req)))} {hint : Nat → Option Bool}
theorem dH (j:Nat):(AV.p 0 j).val (pqM E l r q sb callX hint)=.pointer (some ⟨r,j,none⟩)/\(AV.p 1 j).val (pqM E l r q sb callX hint)=.pointer (some ⟨q,j,none⟩)/\(AV.p 2 j).val (pqM E l r q sb callX hint)=.pointer (some ⟨sb,j,none⟩):=by
 refine⟨?_,?_,?_⟩
 ·show Value.pointer (some ⟨r,0+j,none⟩)=_;rw[Nat.zero_add]
 ·show Value.pointer (some ⟨q,0+j,none⟩)=_;rw[Nat.zero_add]
 ·show Value.pointer (some ⟨sb,0+j,none⟩)=_;rw[Nat.zero_add]
theorem Hm (hP:Pdr W0 l E)(hE:LF r q Ex)(hX:∀s f vs v s',callX s f vs=some (v,s')->(∀args w,(callFunc f args).run Tryz.prog w=.ok (.enter f args) w)/\(s.1.bound l->∀w,pqB W0 W r tb cap q l Ex (s.1.st l) s.2 w->Calls Tryz.prog f (vs.map (AV.val (pqM E l r q sb callX hint))).toArray w λe w'=>e=.returned v/\rdS l (pqB W0 W r tb cap q l Ex) (s'.getD s) w')):
 Ev.Ok Tryz.prog (rdS l (pqB W0 W r tb cap q l Ex)) (pqM E l r q sb callX hint):=by
 refine rdG_ok (Ob (tb:=tb) (cap:=cap) hE) (λt f d h=>RH h) (λs f vs v s' h=>MJ hP rfl h) (λs t k j v h w hw=>?_) (λx t k j v x' h st w hw=>?_) hX
 ·unfold PI at h
  split at h
  ·rename_i hk
   obtain⟨rfl,ht,hj⟩:=hk
   split at h
   ·rename_i u hu
    cases h
    obtain⟨lv,hA,-⟩:=hw.2
    have h28:j<28:=(Array.getElem?_eq_some_iff.1 hu).1
    have hc:w.cell? ⟨q,j,none⟩=some u:=by
     rw[cell_of_row _ _ _ _ _ _ hA.2.1,<-hu]
     rcases j with _|_|_|_|_|_|_|_|_|_|_|_|_|_|_|_|_|_|_|_|_|_|_|_|_|_|_|_|j
     all_goals first|omega|rfl
    show(Instr.loadAt t ((AV.p 1 j).val (pqM E l r q sb callX hint))).run Tryz.prog w=.ok u w
    rw[(dH j).2.1]
    exact Ev.BS (by rcases NS ht with rfl|rfl|rfl|rfl<;>rfl) _ w u hc
   ·cases h
  ·cases h
 ·unfold Jb at h
  split at h
  ·rename_i hk
   obtain⟨rfl,ht⟩:=hk
   split at h
   ·rename_i Q hQ
    cases h
    obtain⟨k1,k2,k3,k4⟩:=K4 hQ
    obtain⟨lv,hA,he⟩:=hw
    obtain⟨⟨u,hu⟩,hf⟩:=hA.cell j k4
    refine⟨w.setCell ⟨q,j,none⟩ v,?_,lv,?_,?_⟩
    ·show(Instr.storeAt t ((AV.p 1 j).val (pqM E l r q sb callX hint)) v).run Tryz.prog w=_
     rw[(dH j).2.1]
     exact st_one (NS ht) _ w u v hu hf k3
    ·show bz W0 W r tb cap q l st (aB Q lv) _
     rw[<-k1 lv]
     exact hA.store j v
    ·show Ex x.1 Q.ins.links lv _
     rw[k2]
     exact hE he (((Tch.refl q q w).setCell j v).right)
   ·cases h
  ·cases h
theorem eQ (hE:LF r q Ex):Ev.uO (rdS l (pqB W0 W r tb cap q l Ex)) (pqM E l r q sb callX hint):=RG (Ob (tb:=tb) (cap:=cap) hE) pq_inc rfl
theorem jr (hE:LF r q Ex):∀(s:RS×(List Bool×Ps.Req)) w,rdS l (pqB W0 W r tb cap q l Ex) s w->rdS l (pqB W0 W r tb cap q l Ex) s w.drew:=λs w h=>by
 obtain⟨h1,lv,h2,h3⟩:=h
 have hT:Tch r r w w.drew:=Tch.drewN _ _ _ 1
 exact⟨h1,lv,h2.step (h2.1.next (h2.1.rd.drewN 1) hT) hT,hE h3 hT.left⟩
end
end Go.Proofs.YtnjjeapcalkmaaaGreatDoor
