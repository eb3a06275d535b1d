/-
  Part 5 of a proof; written short by a program out of longer texts of mine.
-/
import Derived.Test.YtnjjeapcalkmaaaGreatDoorPxD
set_option maxRecDepth 100000
set_option maxHeartbeats 4000000
set_option linter.unusedVariables false
set_option linter.unusedSimpArgs false
namespace Go.Proofs.YtnjjeapcalkmaaaGreatDoor
open Go.RowKit
theorem Sd (w:World)(y:Int):
 Calls Tryz.prog 280 #[.int .i64 y] w λe w'=>e=.returned (.bool (decide (y.tmod 4=0)&&!decide (y.tmod 100=0)||decide (y.tmod 400=0)))/\w=w':=by
 obtain⟨b,hb⟩:∃b,b=(decide (y.tmod 4=0)&&!decide (y.tmod 100=0)||decide (y.tmod 400=0)):=⟨_,rfl⟩
 rw[<-hb]
 have HB:=Lib.hid hb
 clear hb
 by_cases h4:y.tmod 4=0
 all_goals by_cases SX:y.tmod 100=0
 all_goals by_cases LX:y.tmod 400=0
 all_goals
  have HV:=HB.out
  simp only[h4,SX,LX,decide_true,decide_false,Bool.not_true,Bool.not_false,Bool.and_true,Bool.and_false,Bool.or_true,Bool.or_false]at HV
  subst HV
  clear HB
  go_enter Tryz.func280,Tryz.ntmps280
  go_wp2_with fail
  go_ret
  first
   |exact⟨rfl,rfl⟩
   |(refine⟨?_,rfl⟩
     show Ending.returned (.bool (y.tmod 400==0))=_
     rw[show(y.tmod 400==0)=false from by rw[beq_eq_false_iff_ne];exact LX])
def I4 (p:Int):Int:=365*p+((p+3)/4-(p+99)/100+(p+399)/400)
theorem au {x:Int}(h: -1000000000<=x/\x<=1000000000):IntKind.i64.wrap x=x:=IntWalk.i64_in _ (by omega)
theorem qf {x y:Int}(h:0<=x):x.tdiv y=x/y:=Int.tdiv_eq_ediv_of_nonneg h
theorem M6 (w:World)(y p a b c:Int)(h0:¬y<2000)(h1:IntKind.i64.wrap (y-2000)=p)(ha:(p+3).tdiv 4=a)(hb:(p+99).tdiv 100=b)(hc:(p+399).tdiv 400=c)
 (w1:IntKind.i64.wrap (p+3)=p+3) (w2:IntKind.i64.wrap (p+99)=p+99) (w3:IntKind.i64.wrap (p+399)=p+399) (w4:IntKind.i64.wrap a=a) (w5:IntKind.i64.wrap b=b) (w6:IntKind.i64.wrap c=c) (w7:IntKind.i64.wrap (a-b)=a-b) (w8:IntKind.i64.wrap (a-b+c)=a-b+c)
 (w9:IntKind.i64.wrap (365*p)=365*p) (v:Int) (w10:IntKind.i64.wrap (365*p+(a-b+c))=v):
 Calls Tryz.prog 261 #[.int .i64 y] w λe w'=>e=.returned (.int .i64 v)/\w=w':=by
 go_enter Tryz.func261,Tryz.ntmps261
 go_wp2_with fail
 go_ret
 exact⟨rfl,rfl⟩
theorem lZ (w:World)(y:Int)(h0:2000<=y)(h1:y<=3000):
 Calls Tryz.prog 261 #[.int .i64 y] w λe w'=>e=.returned (.int .i64 (I4 (y-2000)))/\w=w':=by
 refine M6 w y (y-2000) ((y-2000+3)/4) ((y-2000+99)/100) ((y-2000+399)/400) (by omega) (au (by omega)) (qf (by omega)) (qf (by omega)) (qf (by omega)) (au (by omega)) (au (by omega)) (au (by omega)) (au (by omega)) (au (by omega)) (au (by omega)) (au (by omega)) (au (by omega)) (au (by omega)) _ ?_
 unfold I4
 exact au (by omega)
theorem Jn (w:World)(y m:Int)(h:y<2000\/2199<y\/m<1\/12<m):
 Calls Tryz.prog 262 #[.int .i64 y,.int .i64 m] w λe w'=>e=.returned (.int .i64 0)/\Below w.heap.size w w':=by
 by_cases h1:y<2000
 all_goals by_cases h2:2199<y
 all_goals by_cases h3:m<1
 all_goals by_cases h4:12<m
 all_goals try (exfalso;omega)
 all_goals
  clear h
  go_enter Tryz.func262,Tryz.ntmps262
  go_wp2_with fail
  go_ret
  exact⟨rfl,Below.refl _ _⟩
theorem mX {y:Int}(h:0<=y)(n:Int):y.tmod n=y%n:=Int.tmod_eq_emod_of_nonneg h
theorem R5 (w:World)(y m:Int)(k:Nat)(n:Int)(h1:¬y<2000)(h2:¬2199<y)(h3:¬m<1)(h4:¬12<m)(h5:¬m=2)(hm:IntKind.i64.wrap (m-1)=(k:Int))(_hk:k<12)(TV:(k:Int)<12)
 (hn:∀w:World,(w.alloc (.cells #[.int .i64 31,.int .i64 28,.int .i64 31,.int .i64 30,.int .i64 31,.int .i64 30,.int .i64 31,.int .i64 31,.int .i64 30,.int .i64 31,.int .i64 30,.int .i64 31] 282)).cell? ⟨w.heap.size,k,none⟩=some (.int .i64 n)):
 Calls Tryz.prog 262 #[.int .i64 y,.int .i64 m] w λe w'=>e=.returned (.int .i64 n)/\Below w.heap.size w w':=by
 go_enter Tryz.func262,Tryz.ntmps262
 go_wp2_with fail
 go_ret
 exact⟨rfl,(Below.refl _ _).alloc (Nat.le_refl _) _⟩
theorem KU (w:World)(y:Int)(b:Bool)(h1:¬y<2000)(h2:¬2199<y)(n1:∀w,Calls Tryz.prog 280 #[.int .i64 y] w λe w'=>e=.returned (.bool b)/\w=w'):
 Calls Tryz.prog 262 #[.int .i64 y,.int .i64 2] w λe w'=>e=.returned (.int .i64 (if b=true then 29 else 28))/\Below w.heap.size w w':=by
 cases b
 all_goals
  go_enter Tryz.func262,Tryz.ntmps262
  go_wp2_with (go_at_call 280;refine(n1 _).mono ?_;rintro e w1 ⟨rfl,rfl⟩)
  go_ret
  exact⟨rfl,(Below.refl _ _).alloc (Nat.le_refl _) _⟩
theorem NZ (w:World)(y:Int)(h:0<=y):Calls Tryz.prog 280 #[.int .i64 y] w λe w'=>e=.returned (.bool (Ps.kN y))/\w=w':=by
 have:=Sd w y
 rw[mX h 4,mX h 100,mX h 400]at this
 exact this
theorem CR (w:World)(y m:Int):Calls Tryz.prog 262 #[.int .i64 y,.int .i64 m] w λe w'=>e=.returned (.int .i64 (Ps.dim y m))/\Below w.heap.size w w':=by
 by_cases h:y<2000\/2199<y\/m<1\/12<m
 ·unfold Ps.dim
  rw[if_pos h]
  exact Jn w y m h
 ·unfold Ps.dim
  rw[if_neg h]
  by_cases h5:m=2
  ·subst h5
   rw[if_pos rfl]
   exact KU w y _ (by omega) (by omega) (λw=>NZ w y (by omega))
  ·rw[if_neg h5]
   obtain⟨k,hk⟩:∃k:Nat,m=(k:Int)+1:=⟨(m-1).toNat,by omega⟩
   have hkl:k<12:=by omega
   refine R5 w y m k _ (by omega) (by omega) (by omega) (by omega) h5 (by rw[hk,show(k:Int)+1-1=k from by omega];exact au (x:=(k:Int)) (by omega)) hkl (by omega) (λw=>?_)
   rw[cell_of_row _ _ _ _ _ _ (aC w _)]
   subst hk
   have hk1:k≠1:=λe=>h5 (by rw[e];rfl)
   have hc:k=0\/k=2\/k=3\/k=4\/k=5\/k=6\/k=7\/k=8\/k=9\/k=10\/k=11:=by omega
   rcases hc with rfl|rfl|rfl|rfl|rfl|rfl|rfl|rfl|rfl|rfl|rfl
   all_goals rfl
theorem Js (w:World)(y m d:Int)(hd:d<1):
 Calls Tryz.prog 256 #[.agg #[.int .i64 y,.int .i64 m,.int .i64 d]] w λe w'=>e=.returned (.tuple #[.int .i64 0,.int .i64 28])/\Below w.heap.size w w':=by
 go_enter Tryz.func256,Tryz.ntmps256
 go_wp2_with fail
 obtain⟨W1,hW1⟩:∃W1,W1=w.alloc (Obj.cells #[.int .i64 y,.int .i64 m,.int .i64 d] 251):=⟨_,rfl⟩
 obtain⟨g,hg⟩:∃g,g=w.heap.size:=⟨_,rfl⟩
 have hrow:W1.heap[g]? =some (.cells #[.int .i64 y,.int .i64 m,.int .i64 d] 251 (0,0)):=by rw[hW1,hg];exact aC w _
 have c2:W1.cell? ⟨g,2,none⟩=some (.int .i64 d):=by rw[cell_of_row _ _ _ _ _ _ hrow];rfl
 have hB:Hid (Below w.heap.size w W1):=Lib.hid (by rw[hW1];exact(Below.refl _ _).alloc (Nat.le_refl _) _)
 rw[<-hW1,<-hg]
 clear hW1 hg hrow
 go_quiet (fail)
 go_wp2_with fail
 go_ret2
 exact⟨rfl,below_drewN' hB.out _⟩
theorem vN {W w w3:World}{g:Nat}{x0 x1 x2:Value}(h:Below W.heap.size W w/\w.cell? ⟨g,0,none⟩=some x0/\w.cell? ⟨g,1,none⟩=some x1/\w.cell? ⟨g,2,none⟩=some x2)(hb:Below w.heap.size w w3):
 Below W.heap.size W w3/\w3.cell? ⟨g,0,none⟩=some x0/\w3.cell? ⟨g,1,none⟩=some x1/\w3.cell? ⟨g,2,none⟩=some x2:=by
 obtain⟨h1,a0,a1,a2⟩:=h
 exact⟨h1.trans (hb.mono h1.size),(hb.cell (World.block_lt_of_cell? w _ a0)).trans a0,(hb.cell (World.block_lt_of_cell? w _ a1)).trans a1,(hb.cell (World.block_lt_of_cell? w _ a2)).trans a2⟩
theorem Gv (w:World)(y m d n:Int)(hd:¬d<1)(hn:n<d)(n1:Hid (∀w,Calls Tryz.prog 262 #[.int .i64 y,.int .i64 m] w λe w'=>e=.returned (.int .i64 n)/\Below w.heap.size w w')):
 Calls Tryz.prog 256 #[.agg #[.int .i64 y,.int .i64 m,.int .i64 d]] w λe w'=>e=.returned (.tuple #[.int .i64 0,.int .i64 28])/\Below w.heap.size w w':=by
 go_enter Tryz.func256,Tryz.ntmps256
 go_wp2_with fail
 obtain⟨W1,hW1⟩:∃W1,W1=w.alloc (Obj.cells #[.int .i64 y,.int .i64 m,.int .i64 d] 251):=⟨_,rfl⟩
 obtain⟨g,hg⟩:∃g,g=w.heap.size:=⟨_,rfl⟩
 have hrow:W1.heap[g]? =some (.cells #[.int .i64 y,.int .i64 m,.int .i64 d] 251 (0,0)):=by rw[hW1,hg];exact aC w _
 have c0:W1.cell? ⟨g,0,none⟩=some (.int .i64 y):=by rw[cell_of_row _ _ _ _ _ _ hrow];rfl
 have c1:W1.cell? ⟨g,1,none⟩=some (.int .i64 m):=by rw[cell_of_row _ _ _ _ _ _ hrow];rfl
 have c2:W1.cell? ⟨g,2,none⟩=some (.int .i64 d):=by rw[cell_of_row _ _ _ _ _ _ hrow];rfl
 have hB:Hid (Below w.heap.size w W1):=Lib.hid (by rw[hW1];exact(Below.refl _ _).alloc (Nat.le_refl _) _)
 rw[<-hW1,<-hg]
 clear hW1 hg hrow
 have hb0:=Below.refl W1.heap.size W1
 have hdd:decide (d<1)=false:=decide_eq_false (by omega)
 have hS0:=And.intro hb0 (And.intro c0 (And.intro c1 c2))
 go_region_held3 (λw'=>Below W1.heap.size W1 w'/\w'.cell? ⟨g,0,none⟩=some (.int .i64 y)/\w'.cell? ⟨g,1,none⟩=some (.int .i64 m)/\w'.cell? ⟨g,2,none⟩=some (.int .i64 d))
  (first|assumption|exact Below.drew (by assumption)|(refine⟨?_,?_,?_,?_⟩<;>first|assumption|exact Below.drew (by assumption)|go_keep)|go_keep)
  (first|(go_at_call 262;with_reducible refine(n1.out _).mono ?_;rintro e w3 ⟨rfl,hb3⟩;have E9:=vN (by assumption) hb3))
 have HZ:=Lib.hid (hB.out.trans (E9.1.mono hB.out.size))
 clear E9 hb3 hS0 hb0 c0 c1 c2
 go_wp2_with fail
 go_ret2
 exact⟨rfl,HZ.out⟩
theorem PE (w:World)(y d n s t:Int)(M:Nat)(hM12:M<12)(hd:¬d<1)(hn:¬n<d)(n1:Hid (∀w,Calls Tryz.prog 262 #[.int .i64 y,.int .i64 ((M:Int)+1)] w λe w'=>e=.returned (.int .i64 n)/\Below w.heap.size w w'))
 (n2:Hid (∀w,Calls Tryz.prog 261 #[.int .i64 y] w λe w'=>e=.returned (.int .i64 s)/\w'=w)) (hs1:IntKind.i64.wrap (s+d)=s+d) (hs2:IntKind.i64.wrap (s+d-1)=t)
 (ht:t=s+d-1) (hb1:0<=t/\t<=1000000)
 (n3:Hid (∀(k:Nat) w,Calls Tryz.prog 262 #[.int .i64 y,.int .i64 ((k:Int)+1)] w λe w'=>e=.returned (.int .i64 (Ps.dim y ((k:Int)+1)))/\Below w.heap.size w w')):
 Calls Tryz.prog 256 #[.agg #[.int .i64 y,.int .i64 ((M:Int)+1),.int .i64 d]] w λe w'=>e=.returned (.tuple #[.int .i64 (t+Ps.bQ y M),.int .i64 0])/\Below w.heap.size w w':=by
 go_enter Tryz.func256,Tryz.ntmps256
 go_wp2_with fail
 obtain⟨W1,hW1⟩:∃W1,W1=w.alloc (Obj.cells #[.int .i64 y,.int .i64 ((M:Int)+1),.int .i64 d] 251):=⟨_,rfl⟩
 obtain⟨g,hg⟩:∃g,g=w.heap.size:=⟨_,rfl⟩
 have hrow:W1.heap[g]? =some (.cells #[.int .i64 y,.int .i64 ((M:Int)+1),.int .i64 d] 251 (0,0)):=by rw[hW1,hg];exact aC w _
 have c0:W1.cell? ⟨g,0,none⟩=some (.int .i64 y):=by rw[cell_of_row _ _ _ _ _ _ hrow];rfl
 have c1:W1.cell? ⟨g,1,none⟩=some (.int .i64 ((M:Int)+1)):=by rw[cell_of_row _ _ _ _ _ _ hrow];rfl
 have c2:W1.cell? ⟨g,2,none⟩=some (.int .i64 d):=by rw[cell_of_row _ _ _ _ _ _ hrow];rfl
 have hB:Hid (Below w.heap.size w W1):=Lib.hid (by rw[hW1];exact(Below.refl _ _).alloc (Nat.le_refl _) _)
 rw[<-hW1,<-hg]
 have HT:=Lib.hid ht
 clear hW1 hg hrow ht
 have hb0:=Below.refl W1.heap.size W1
 have hdd:decide (d<1)=false:=decide_eq_false (by omega)
 have hS0:=And.intro hb0 (And.intro c0 (And.intro c1 c2))
 go_region_held3 (λw'=>Below W1.heap.size W1 w'/\w'.cell? ⟨g,0,none⟩=some (.int .i64 y)/\w'.cell? ⟨g,1,none⟩=some (.int .i64 ((M:Int)+1))/\w'.cell? ⟨g,2,none⟩=some (.int .i64 d))
  (first|assumption|exact Below.drew (by assumption)|(refine⟨?_,?_,?_,?_⟩<;>first|assumption|exact Below.drew (by assumption)|go_keep)|go_keep)
  (first|(go_at_call 262;with_reducible refine(n1.out _).mono ?_;rintro e w3 ⟨rfl,hb3⟩;have E9:=vN (by assumption) hb3))
 clear hS0 hb0 c0 c1 c2 hb3 n1
 have HS:=Lib.hid E9
 obtain⟨hb4,e0,e1,e2⟩:=E9
 clear hb4
 go_wp2_with fail
 go_quiet ((go_at_call 261;with_reducible exact Calls.quiet_of_same (n2.out _)))
 go_wp2_with fail
 have HS1:=Lib.hid (λn=>vN HS.out (below_drewN' (Below.refl w3.heap.size w3) n))
 go_loopw [4,5] (λnv mv wr=>∃k:Nat,nv=.int .i64 (t+Ps.bQ y k)/\mv=.int .i64 ((k:Int)+1)/\k<=M/\Hid (Below W1.heap.size W1 wr/\wr.cell? ⟨g,0,none⟩=some (.int .i64 y)/\wr.cell? ⟨g,1,none⟩=some (.int .i64 ((M:Int)+1))/\wr.cell? ⟨g,2,none⟩=some (.int .i64 d))) (λ_ mv _=>20-(RowKit.intOf mv).toNat)
 case atStart=>
  refine⟨0,?_,rfl,Nat.zero_le _,Lib.hid (HS1.out _)⟩
  simp[Ps.bQ]
 case round=>
  obtain⟨k,rfl,rfl,hk,HK⟩:=hrel
  obtain⟨hb5,a0,a1,a2⟩:=HK.out
  clear hb5
  have hms:=Ps.vS y k
  by_cases hlt:k<M
  ·have TV:(k:Int)<(M:Int):=by omega
   have hkI2:(k:Int)+1<(M:Int)+1:=by omega
   have m3:=n3.out k wr
   have Rm:=Ps.pR y ((k:Int)+1)
   have hw6:IntKind.i64.wrap (t+Ps.bQ y k+Ps.dim y ((k:Int)+1))=t+Ps.bQ y k+Ps.dim y ((k:Int)+1):=au (by omega)
   have hw7:IntKind.i64.wrap ((k:Int)+1+1)=(k:Int)+1+1:=au (by omega)
   have HN:Hid (t+Ps.bQ y k+Ps.dim y ((k:Int)+1)=t+Ps.bQ y (k+1)):=Lib.hid (by rw[Ps.bQ];omega)
   clear hms Rm n3
   go_wp2_with fail
   refine m3.mono ?_
   rintro e w5 ⟨rfl,hb5⟩
   have HK2:=Lib.hid (vN HK.out hb5)
   clear m3 hb5 a0 a1 a2
   go_wp2_with fail
   refine⟨⟨k+1,by rw[HN.out],by push_cast;rfl,by omega,HK2⟩,?_⟩
   simp[RowKit.intOf]<;>omega
  ·have hkI2:¬(k:Int)+1<(M:Int)+1:=by omega
   obtain rfl:k=M:=by omega
   clear hms n3
   go_wp2_with fail
   go_ret2
   exact⟨rfl,hB.out.trans (HK.out.1.mono hB.out.size)⟩
theorem Aj (w:World)(y m d:Int)(hd:d<=1000000000):
 Calls Tryz.prog 256 #[.agg #[.int .i64 y,.int .i64 m,.int .i64 d]] w λe w'=>e=.returned (.tuple #[.int .i64 (Ps.civil y m d).1,.int .i64 (Ps.civil y m d).2])/\Below w.heap.size w w':=by
 unfold Ps.civil
 by_cases h1:d<1
 ·rw[if_pos (.inl h1)]
  exact Js w y m d h1
 ·by_cases h2:Ps.dim y m<d
  ·rw[if_pos (.inr h2)]
   exact Gv w y m d _ h1 h2 (Lib.hid λw=>CR w y m)
  ·rw[if_neg (by omega)]
   obtain⟨hy1,hy2,hm1,hm2⟩:=Ps.JB (y:=y) (m:=m) (by omega)
   obtain⟨M,rfl⟩:∃M:Nat,m=(M:Int)+1:=⟨(m-1).toNat,by omega⟩
   have hs:=Ps.Cv (p:=y-2000) (by omega) (by omega)
   have hdl:=Ps.pR y ((M:Int)+1)
   have:=PE w y d (Ps.dim y ((M:Int)+1)) (Ps.aj (y-2000)) (Ps.aj (y-2000)+d-1) M (by omega) h1 h2 (Lib.hid λw=>CR w y _) (Lib.hid λw=>(lZ w y hy1 (by omega)).mono λe w' ⟨a,b⟩=>⟨a,b.symm⟩)
    (au (by omega)) (au (by omega)) rfl (by omega) (Lib.hid λk w=>CR w y _)
   rw[show((M:Int)+1-1).toNat=M from by omega]
   exact this
theorem Od {x:Int}{n:Nat}(h:x=(n:Int)/\n<=1000000000):IntKind.i64.wrap x=(n:Int):=by rw[h.1];exact au (by omega)
theorem Pt {x:Int}(h:0<=x/\x<=255):IntKind.u8.wrap x=x:=IntWalk.u8_in _ (by omega)
def zF (f c:Int):Prop:=(f=48/\48<=c/\c<=57)\/(f≠48/\c=f)
theorem Br (w:World)(s f:ByteArray)(hs:¬(s.size:Int)=(f.size:Int))(_h1:s.size<=1000000)(_h2:f.size<=1000):
 Calls Tryz.prog 255 #[.string s,.string f] w λe w'=>e=.returned (.tuple #[.nilFunc,.bool false])/\Below w.heap.size w w':=by
 go_enter Tryz.func255,Tryz.ntmps255
 go_wp2_with fail
 go_ret2
 exact⟨rfl,(Below.refl _ _).alloc (Nat.le_refl _) _⟩
theorem AY (w:World)(s f:ByteArray)(hs:(s.size:Int)=(f.size:Int))(h1:s.size<=1000000)(h2:f.size<=1000)(j:Nat)(hj:j<f.size)(hall:Hid (∀i,i<j->zF (PlainAid.bt f i) (PlainAid.bt s i)))(hbad:Hid (¬zF (PlainAid.bt f j) (PlainAid.bt s j))):
 Calls Tryz.prog 255 #[.string s,.string f] w λe w'=>e=.returned (.tuple #[.nilFunc,.bool false])/\Below w.heap.size w w':=by
 have hub:=PlainAid.get_bt s
 have hfb:=PlainAid.get_bt f
 go_enter Tryz.func255,Tryz.ntmps255
 go_wp2_with fail
 obtain⟨W1,hW1⟩:∃W1,W1=w.alloc (Obj.cells #[.string s] 9):=⟨_,rfl⟩
 obtain⟨g,hg⟩:∃g,g=w.heap.size:=⟨_,rfl⟩
 have hrow:W1.heap[g]? =some (.cells #[.string s] 9 (0,0)):=by rw[hW1,hg];exact aC w _
 have c0:W1.cell? ⟨g,0,none⟩=some (.string s):=by rw[cell_of_row _ _ _ _ _ _ hrow];rfl
 have hB:Hid (Below w.heap.size w W1):=Lib.hid (by rw[hW1];exact(Below.refl _ _).alloc (Nat.le_refl _) _)
 rw[<-hW1,<-hg]
 clear hW1 hg hrow
 go_loopw [6,14] (λ_ iv wr=>∃i:Nat,iv=.int .i64 i/\i<=j/\∃n,wr=W1.drewN n) (λ_ iv _=>2000-(RowKit.intOf iv).toNat)
 case atStart=>exact⟨0,rfl,Nat.zero_le _,0,rfl⟩
 case round=>
  obtain⟨i,rfl,hi,n,rfl⟩:=hrel
  have c1:(W1.drewN n).cell? ⟨g,0,none⟩=some (.string s):=c0
  have hif:i<f.size:=by omega
  have hisI:(i:Int)<(s.size:Int):=by omega
  have hifI:(i:Int)<(f.size:Int):=by omega
  have his:i<s.size:=by omega
  by_cases hij:i<j
  ·have hf:=hall.out i hij
   have hw1:wrap64 ((i:Int)+1)=((i+1:Nat):Int):=by unfold wrap64;omega
   rcases hf with⟨x0,x1,x2⟩|⟨x0,x1⟩
   ·have y0:(PlainAid.bt f i==48)=true:=by rw[x0];rfl
    have y1:decide (PlainAid.bt s i<48)=false:=decide_eq_false (by omega)
    have y2:decide (57<PlainAid.bt s i)=false:=decide_eq_false (by omega)
    clear x1 x2 hall hbad hj hs hi
    go_wp2_with fail
    go_big_quiet (fail)
    go_wp2_with fail
    refine⟨⟨i+1,by first|rfl|go_num,by omega,?_⟩,by simp[RowKit.intOf]<;>omega⟩
    first|exact⟨_,rfl⟩|exact⟨_,World.drewN_drewN _ _ _⟩
   ·have y0:(PlainAid.bt f i==48)=false:=by rw[beq_eq_false_iff_ne];exact x0
    have y1:(PlainAid.bt s i==PlainAid.bt f i)=true:=by rw[x1];exact beq_self_eq_true _
    have y2:(PlainAid.bt f i !=48)=true:=by rw[bne,y0];rfl
    have y3:(PlainAid.bt s i !=PlainAid.bt f i)=false:=by rw[bne,y1];rfl
    clear hall hbad hj hs hi
    go_wp2_with fail
    go_big_quiet (fail)
    go_wp2_with fail
    refine⟨⟨i+1,by first|rfl|go_num,by omega,?_⟩,by simp[RowKit.intOf]<;>omega⟩
    first|exact⟨_,rfl⟩|exact⟨_,World.drewN_drewN _ _ _⟩
  ·obtain rfl:i=j:=by omega
   have hb:=hbad.out
   have hcs:(PlainAid.bt f i=48/\PlainAid.bt s i<48)\/(PlainAid.bt f i=48/\¬PlainAid.bt s i<48/\57<PlainAid.bt s i)\/(PlainAid.bt f i≠48/\PlainAid.bt s i≠PlainAid.bt f i):=by
    unfold zF at hb
    by_cases h48:PlainAid.bt f i=48
    ·by_cases hlo:PlainAid.bt s i<48
     ·exact .inl ⟨h48,hlo⟩
     ·exact .inr (.inl ⟨h48,hlo,by
       rcases Int.lt_or_le 57 (PlainAid.bt s i)with h|h
       ·exact h
       ·exact absurd (.inl ⟨h48,by omega,by omega⟩) hb⟩)
    ·exact .inr (.inr ⟨h48,λh=>hb (.inr ⟨h48,h⟩)⟩)
   clear hb
   rcases hcs with⟨x0,x1⟩|⟨x0,x1,x2⟩|⟨x0,x1⟩
   ·have y0:(PlainAid.bt f i==48)=true:=by rw[x0];rfl
    have y1:decide (PlainAid.bt s i<48)=true:=decide_eq_true x1
    clear hall hbad hj hs hi
    go_wp2_with fail
    go_big_quiet (fail)
    go_wp2_with fail
    go_ret2
    exact⟨rfl,by first|exact below_drewN' hB.out _|exact below_drewN' (below_drewN' hB.out _) _⟩
   ·have y0:(PlainAid.bt f i==48)=true:=by rw[x0];rfl
    have y1:decide (PlainAid.bt s i<48)=false:=decide_eq_false x1
    have y2:decide (57<PlainAid.bt s i)=true:=decide_eq_true x2
    clear hall hbad hj hs hi
    go_wp2_with fail
    go_big_quiet (fail)
    go_wp2_with fail
    go_ret2
    exact⟨rfl,by first|exact below_drewN' hB.out _|exact below_drewN' (below_drewN' hB.out _) _⟩
   ·have y0:(PlainAid.bt f i==48)=false:=by rw[beq_eq_false_iff_ne];exact x0
    have y1:(PlainAid.bt s i==PlainAid.bt f i)=false:=by rw[beq_eq_false_iff_ne];exact x1
    have y2:(PlainAid.bt f i !=48)=true:=by rw[bne,y0];rfl
    have y3:(PlainAid.bt s i !=PlainAid.bt f i)=true:=by rw[bne,y1];rfl
    clear hall hbad hj hs hi
    go_wp2_with fail
    go_big_quiet (fail)
    go_wp2_with fail
    go_ret2
    exact⟨rfl,by first|exact below_drewN' hB.out _|exact below_drewN' (below_drewN' hB.out _) _⟩
theorem EY (w:World)(s f:ByteArray)(hs:(s.size:Int)=(f.size:Int))(h1:s.size<=1000000)(h2:f.size<=1000)(hall:Hid (∀i,i<f.size->zF (PlainAid.bt f i) (PlainAid.bt s i))):
 Calls Tryz.prog 255 #[.string s,.string f] w λe w'=>e=.returned (.tuple #[.func (.func 279) #[] #[.pointer (some ⟨w.heap.size,0,none⟩)],.bool true])/\Below w.heap.size w w'/\w'.cell? ⟨w.heap.size,0,none⟩=some (.string s):=by
 have hub:=PlainAid.get_bt s
 have hfb:=PlainAid.get_bt f
 go_enter Tryz.func255,Tryz.ntmps255
 go_wp2_with fail
 obtain⟨W1,hW1⟩:∃W1,W1=w.alloc (Obj.cells #[.string s] 9):=⟨_,rfl⟩
 obtain⟨g,hg⟩:∃g,g=w.heap.size:=⟨_,rfl⟩
 have hrow:W1.heap[g]? =some (.cells #[.string s] 9 (0,0)):=by rw[hW1,hg];exact aC w _
 have c0:W1.cell? ⟨g,0,none⟩=some (.string s):=by rw[cell_of_row _ _ _ _ _ _ hrow];rfl
 have hB:Hid (Below w.heap.size w W1):=Lib.hid (by rw[hW1];exact(Below.refl _ _).alloc (Nat.le_refl _) _)
 have HG:=Lib.hid hg
 rw[<-hW1,<-hg]
 clear hW1 hg hrow
 go_loopw [6,14] (λ_ iv wr=>∃i:Nat,iv=.int .i64 i/\i<=f.size/\∃n,wr=W1.drewN n) (λ_ iv _=>2000-(RowKit.intOf iv).toNat)
 case atStart=>exact⟨0,rfl,Nat.zero_le _,0,rfl⟩
 case round=>
  obtain⟨i,rfl,hi,n,rfl⟩:=hrel
  have c1:(W1.drewN n).cell? ⟨g,0,none⟩=some (.string s):=c0
  by_cases hif:i<f.size
  ·have hisI:(i:Int)<(s.size:Int):=by omega
   have hifI:(i:Int)<(f.size:Int):=by omega
   have his:i<s.size:=by omega
   have hf:=hall.out i hif
   have hw1:wrap64 ((i:Int)+1)=((i+1:Nat):Int):=by unfold wrap64;omega
   rcases hf with⟨x0,x1,x2⟩|⟨x0,x1⟩
   ·have y0:(PlainAid.bt f i==48)=true:=by rw[x0];rfl
    have y1:decide (PlainAid.bt s i<48)=false:=decide_eq_false (by omega)
    have y2:decide (57<PlainAid.bt s i)=false:=decide_eq_false (by omega)
    clear x1 x2 hall hs hi
    go_wp2_with fail
    go_big_quiet (fail)
    go_wp2_with fail
    refine⟨⟨i+1,by first|rfl|go_num,by omega,?_⟩,by simp[RowKit.intOf]<;>omega⟩
    first|exact⟨_,rfl⟩|exact⟨_,World.drewN_drewN _ _ _⟩
   ·have y0:(PlainAid.bt f i==48)=false:=by rw[beq_eq_false_iff_ne];exact x0
    have y1:(PlainAid.bt s i==PlainAid.bt f i)=true:=by rw[x1];exact beq_self_eq_true _
    have y2:(PlainAid.bt f i !=48)=true:=by rw[bne,y0];rfl
    have y3:(PlainAid.bt s i !=PlainAid.bt f i)=false:=by rw[bne,y1];rfl
    clear hall hs hi
    go_wp2_with fail
    go_big_quiet (fail)
    go_wp2_with fail
    refine⟨⟨i+1,by first|rfl|go_num,by omega,?_⟩,by simp[RowKit.intOf]<;>omega⟩
    first|exact⟨_,rfl⟩|exact⟨_,World.drewN_drewN _ _ _⟩
  ·obtain rfl:i=f.size:=by omega
   have hifI:¬((f.size:Nat):Int)<(f.size:Int):=by omega
   have C1:=Lib.hid c1
   clear hall hs hi c1
   go_wp2_with fail
   go_ret2
   rw[<-HG.out]
   have hB2:=hB.out
   rw[<-HG.out]at hB2
   exact⟨rfl,below_drewN' hB2 _,C1.out⟩
theorem LA (w:World)(s:ByteArray)(g a k:Nat)(hs:a+k<=s.size)(h1:s.size<=1000000)(hk:k<=6)(hc:w.cell? ⟨g,0,none⟩=some (.string s))(hd:Hid (∀i,i<k->48<=PlainAid.bt s (a+i)/\PlainAid.bt s (a+i)<=57))
 (V:Nat->Int) (h0:V 0=0) (hV:Hid (∀i,i<k->V (i+1)=10*V i+(PlainAid.bt s (a+i)-48))) (hb:Hid (∀i,i<=k->0<=V i/\V i<=1000000)):
 Calls Tryz.prog 279 #[.int .i64 a,.int .i64 k,.pointer (some ⟨g,0,none⟩)] w λe w'=>e=.returned (.int .i64 (V k))/\w=w':=by
 have hub:=PlainAid.get_bt s
 have H0:=Lib.hid h0
 clear h0
 go_enter Tryz.func279,Tryz.ntmps279
 go_wp2_with fail
 go_loopw [6,7,9] (λnv _ iv wr=>∃i:Nat,nv=.int .i64 (V i)/\iv=.int .i64 i/\i<=k/\wr=w) (λ_ _ iv _=>100-(RowKit.intOf iv).toNat)
 case atStart=>exact⟨0,by rw[H0.out],rfl,Nat.zero_le _,rfl⟩
 case round=>
  obtain⟨i,rfl,rfl,hi,rfl⟩:=hrel
  by_cases hik:i<k
  ·have hikI:(i:Int)<(k:Int):=by omega
   obtain⟨d0,d1⟩:=hd.out i hik
   obtain⟨b0,b1⟩:=hb.out i hi
   have hv:=hV.out i hik
   obtain⟨x,hx⟩:∃x,x=V i:=⟨_,rfl⟩
   have hai:wrap64 ((a:Int)+(i:Int))=((a+i:Nat):Int):=by unfold wrap64;omega
   have hai2:IntKind.i64.wrap ((a:Int)+(i:Int))=((a+i:Nat):Int):=Od (by omega)
   have hlt:a+i<s.size:=by omega
   have tZ:((a+i:Nat):Int)<(s.size:Int):=by omega
   have hw1:IntKind.i64.wrap (10*x)=10*x:=au (by omega)
   have hw2:IntKind.u8.wrap (PlainAid.bt s (a+i)-48)=PlainAid.bt s (a+i)-48:=Pt (by omega)
   have hw4:IntKind.i64.wrap (PlainAid.bt s (a+i)-48)=PlainAid.bt s (a+i)-48:=au (by omega)
   have hw3:IntKind.i64.wrap (10*x+(PlainAid.bt s (a+i)-48))=10*x+(PlainAid.bt s (a+i)-48):=au (by omega)
   have HV:Hid (V (i+1)=10*x+(PlainAid.bt s (a+i)-48)):=Lib.hid (by rw[hv,hx])
   rw[<-hx]
   clear hd hb hV d0 d1 b0 b1 hv hx
   go_wp2_with fail
   refine⟨⟨i+1,by rw[HV.out],by first|rfl|go_num,by omega,by trivial⟩,by simp[RowKit.intOf]<;>omega⟩
  ·obtain rfl:i=k:=by omega
   have hikI:¬(i:Int)<(i:Int):=by omega
   clear hd hb hV
   go_wp2_with fail
   go_ret
   exact⟨rfl,rfl⟩
theorem CX (w:World)(s:ByteArray)(n1:Calls Tryz.prog 255 #[.string s,.string ⟨#[48,48,48,48,45,48,48,45,48,48]⟩] w λe w'=>e=.returned (.tuple #[.nilFunc,.bool false])/\Below w.heap.size w w'):
 Calls Tryz.prog 227 #[.string s] w λe w'=>e=.returned (.tuple #[.int .i64 0,.int .i64 3])/\Below w.heap.size w w':=by
 go_enter Tryz.func227,Tryz.ntmps227
 go_wp2_with fail
 refine n1.mono ?_
 rintro e w1 ⟨rfl,hb⟩
 have HB:=Lib.hid hb
 clear n1 hb
 go_wp2_with fail
 go_ret2
 exact⟨rfl,HB.out⟩
theorem IU (w:World)(s:ByteArray)(g:Nat)(y m d a b:Int)
 (eg:∀args w,(callFunc 279 args).run Tryz.prog w=.ok (.enter 279 args) w)
 (n1:Calls Tryz.prog 255 #[.string s,.string ⟨#[48,48,48,48,45,48,48,45,48,48]⟩] w λe w'=>e=.returned (.tuple #[.func (.func 279) #[] #[.pointer (some ⟨g,0,none⟩)],.bool true])/\Below w.heap.size w w'/\w'.cell? ⟨g,0,none⟩=some (.string s))
 (n2:Hid (∀w,w.cell? ⟨g,0,none⟩=some (.string s)->Calls Tryz.prog 279 #[.int .i64 0,.int .i64 4,.pointer (some ⟨g,0,none⟩)] w λe w'=>e=.returned (.int .i64 y)/\w=w'))
 (n3:Hid (∀w,w.cell? ⟨g,0,none⟩=some (.string s)->Calls Tryz.prog 279 #[.int .i64 5,.int .i64 2,.pointer (some ⟨g,0,none⟩)] w λe w'=>e=.returned (.int .i64 m)/\w=w'))
 (n4:Hid (∀w,w.cell? ⟨g,0,none⟩=some (.string s)->Calls Tryz.prog 279 #[.int .i64 8,.int .i64 2,.pointer (some ⟨g,0,none⟩)] w λe w'=>e=.returned (.int .i64 d)/\w=w'))
 (n5:Hid (∀w,Calls Tryz.prog 256 #[.agg #[.int .i64 y,.int .i64 m,.int .i64 d]] w λe w'=>e=.returned (.tuple #[.int .i64 a,.int .i64 b])/\Below w.heap.size w w')):
 Calls Tryz.prog 227 #[.string s] w λe w'=>e=.returned (.tuple #[.int .i64 a,.int .i64 b])/\Below w.heap.size w w':=by
 go_enter Tryz.func227,Tryz.ntmps227
 go_wp2_with fail
 refine n1.mono ?_
 rintro e w1 ⟨rfl,hb,hc⟩
 have HB:=Lib.hid hb
 have m2:=n2.out w1 hc
 have m3:=n3.out w1 hc
 have m4:=n4.out w1 hc
 have m5:=n5.out w1
 clear n1 hb n2 n3 n4 n5
 go_wp2_with (go_at_fn 279;first|(with_reducible refine m2.mono ?_;rintro e w2 ⟨rfl,rfl⟩)|(with_reducible refine m3.mono ?_;rintro e w2 ⟨rfl,rfl⟩)|(with_reducible refine m4.mono ?_;rintro e w2 ⟨rfl,rfl⟩))
 refine m5.mono ?_
 rintro e w6 ⟨rfl,hb6⟩
 have MW:=Lib.hid (HB.out.trans (hb6.mono HB.out.size))
 clear m2 m3 m4 m5 hb6 eg
 go_wp2_with fail
 go_ret2
 exact⟨rfl,MW.out⟩
theorem oH (s:ByteArray)(i:Nat)(c:UInt8)(h:s.data.toList[i]? =some c):PlainAid.bt s i=(c.toNat:Int):=by
 have hlt:i<s.size:=by
  have:=(List.getElem?_eq_some_iff.1 h).1
  rw[Lib.size_eq];exact this
 rw[<-PlainAid.get_bt s i hlt]
 have h2:=(List.getElem?_eq_some_iff.1 h).2
 have:s[i]=c:=by rw[<-h2];rfl
 rw[this]
theorem wW:∀(f l:List UInt8),Ps.fits f l=true↔(l.length=f.length/\∀(i:Nat) (x c:UInt8),f[i]? =some x->l[i]? =some c->Ps.fit x c=true)
 |[],[]=>by simp[Ps.fits]
 |[],_::_=>by simp[Ps.fits]
 |_::_,[]=>by simp[Ps.fits]
 |x::f,c::l=>by
  have ih:=wW f l
  unfold Ps.fits at ih⊢
  simp only[List.length_cons,List.zip_cons_cons,List.all_cons,Bool.and_eq_true,decide_eq_true_eq]at ih⊢
  constructor
  ·rintro⟨h1,h2,h3⟩
   have h4:=ih.1 ⟨by omega,h3⟩
   refine⟨h1,λi y d hy hd=>?_⟩
   cases i with
   |zero=>simp at hy hd;subst hy;subst hd;exact h2
   |succ i=>exact h4.2 i y d (by simpa using hy) (by simpa using hd)
  ·rintro⟨h1,h2⟩
   have h4:=ih.2 ⟨by omega,λi y d hy hd=>h2 (i+1) y d (by simpa using hy) (by simpa using hd)⟩
   exact⟨h1,h2 0 x c rfl rfl,h4.2⟩
theorem UN (x c:UInt8):Ps.fit x c=true↔zF (x.toNat:Int) (c.toNat:Int):=by
 unfold Ps.fit zF
 by_cases h:x=48
 ·subst h
  rw[if_pos rfl]
  unfold Lx.digit
  simp only[Bool.and_eq_true,decide_eq_true_eq]
  have e:((48:UInt8).toNat:Int)=48:=rfl
  rw[e]
  omega
 ·rw[if_neg h]
  have hne:¬((x.toNat:Int)=48):=λe=>h (by
   apply UInt8.toNat_inj.1
   have:x.toNat=48:=by omega
   rw[this];rfl)
  rw[beq_iff_eq,<-UInt8.toNat_inj]
  constructor
  ·intro e;exact .inr ⟨hne,by rw[e]⟩
  ·rintro(⟨e,_⟩|⟨_,e⟩)
   ·exact absurd e hne
   ·omega
theorem Cw (l:List UInt8)(c:UInt8):Ps.num (l++[c])=10*Ps.num l+(c.toNat-48):=by unfold Ps.num;rw[List.foldl_append];rfl
theorem Fe:∀(k:Nat) (l:List UInt8),l.length<=k->(∀c∈l,Lx.digit (c.toNat:Int)=true)->Ps.num l<10^k
 |0,l,h,_=>by
  obtain rfl:l=[]:=List.eq_nil_of_length_eq_zero (by omega)
  decide
 |k+1,l,h,hd=>by
  rcases List.eq_nil_or_concat l with rfl|⟨t,c,rfl⟩
  ·show 0<10^(k+1)
   exact Nat.pos_of_ne_zero (by simp)
  ·rw[List.concat_eq_append]at *
   have ih:=Fe k t (by simp at h;omega) (λx hx=>hd x (by simp[hx]))
   have hc:=hd c (by simp)
   unfold Lx.digit at hc
   simp only[Bool.and_eq_true,decide_eq_true_eq]at hc
   rw[Cw,Nat.pow_succ]
   omega
theorem GH (s:ByteArray)(a k:Nat)(w:World)(g:Nat)(hs:s.size=10)(hak:a+k<=10)(hk:k<=6)(hc:w.cell? ⟨g,0,none⟩=some (.string s))(hd:∀(i:Nat) (c:UInt8),i<k->s.data.toList[a+i]? =some c->Lx.digit (c.toNat:Int)=true):
 Calls Tryz.prog 279 #[.int .i64 a,.int .i64 k,.pointer (some ⟨g,0,none⟩)] w λe w'=>e=.returned (.int .i64 (Ps.num ((s.data.toList.drop a).take k)))/\w=w':=by
 have hl:s.data.toList.length=10:=by rw[<-Lib.size_eq];exact hs
 have hget:∀i,i<k->∃c,s.data.toList[a+i]? =some c:=λi hi=>⟨_,List.getElem?_eq_getElem (by omega)⟩
 refine LA w s g a k (by omega) (by omega) hk hc (Lib.hid λi hi=>?_) (λi=>(Ps.num ((s.data.toList.drop a).take i):Int)) rfl (Lib.hid λi hi=>?_) (Lib.hid λi hi=>?_)
 ·obtain⟨c,hci⟩:=hget i hi
  have:=hd i c hi hci
  unfold Lx.digit at this
  simp only[Bool.and_eq_true,decide_eq_true_eq]at this
  rw[oH s _ c hci]
  exact this
 ·obtain⟨c,hci⟩:=hget i hi
  have Gr:=hd i c hi hci
  unfold Lx.digit at Gr
  simp only[Bool.and_eq_true,decide_eq_true_eq]at Gr
  have e1:(s.data.toList.drop a).take (i+1)=(s.data.toList.drop a).take i++[c]:=by
   rw[List.take_add_one,List.getElem?_drop,hci];rfl
  rw[e1,Cw,oH s _ c hci]
  omega
 ·have h1:=Fe 6 ((s.data.toList.drop a).take i) (by rw[List.length_take];omega) (λc hc=>by
   obtain⟨j,hj,rfl⟩:=List.getElem_of_mem hc
   rw[List.length_take]at hj
   have hj2:(s.data.toList.drop a)[j]? =some (((s.data.toList.drop a).take i)[j]'(by rw[List.length_take];exact hj)):=by
    rw[List.getElem_take]
    exact List.getElem?_eq_getElem _
   rw[List.getElem?_drop]at hj2
   exact hd j _ (by omega) hj2)
  omega
theorem Nl (s:ByteArray)(w:World)(hs:s.size<=1000000):
 Calls Tryz.prog 227 #[.string s] w λe w'=>e=.returned (.tuple #[.int .i64 (Ps.gL s).1,.int .i64 (Ps.gL s).2])/\Below w.heap.size w w':=by
 have eg:=enters_of Tryz.func279 (by kernel_rfl) rfl
 obtain⟨F,hF⟩:∃F:ByteArray,F=⟨#[48,48,48,48,45,48,48,45,48,48]⟩:=⟨_,rfl⟩
 have hFs:F.size=10:=by rw[hF];rfl
 have hFl:F.data.toList=Ps.form:=by rw[hF];rfl
 have hFl2:Ps.form.length=10:=rfl
 have hsl:=Lib.size_eq s
 unfold Ps.gL
 by_cases hf:Ps.fits Ps.form s.data.toList=true
 ·rw[if_pos hf]
  obtain⟨h1,h2⟩:=(wW _ _).1 hf
  have hs10:s.size=10:=by omega
  have hget:∀i,i<10->∃x c,Ps.form[i]? =some x/\s.data.toList[i]? =some c:=λi hi=>⟨_,_,List.getElem?_eq_getElem (by omega),List.getElem?_eq_getElem (by omega)⟩
  have n1:=EY w s F (by omega) hs (by omega) (Lib.hid λi hi=>by
   obtain⟨x,c,hx,hc⟩:=hget i (by omega)
   rw[oH s i c hc,oH F i x (by rw[hFl];exact hx)]
   exact(UN x c).1 (h2 i x c hx hc))
  have hdig:∀(i:Nat) (c:UInt8),Ps.form[i]? =some 48->s.data.toList[i]? =some c->Lx.digit (c.toNat:Int)=true:=λi c hi hc=>by
   have:=h2 i 48 c hi hc
   unfold Ps.fit at this
   rwa [if_pos rfl]at this
  rw[hF]at n1
  have k4:∀i,i<4->Ps.form[0+i]? =some 48:=by decide
  have k5:∀i,i<2->Ps.form[5+i]? =some 48:=by decide
  have k8:∀i,i<2->Ps.form[8+i]? =some 48:=by decide
  refine IU w s w.heap.size _ _ _ _ _ eg n1 (Lib.hid λw1 hc=>?_) (Lib.hid λw1 hc=>?_) (Lib.hid λw1 hc=>?_) (Lib.hid λw1=>Aj w1 _ _ _ ?_)
  ·exact GH s 0 4 w1 _ hs10 (by omega) (by omega) hc (λi c hi hci=>hdig _ c (k4 i hi) hci)
  ·exact GH s 5 2 w1 _ hs10 (by omega) (by omega) hc (λi c hi hci=>hdig _ c (k5 i hi) hci)
  ·exact GH s 8 2 w1 _ hs10 (by omega) (by omega) hc (λi c hi hci=>hdig _ c (k8 i hi) hci)
  ·have:=Fe 2 ((s.data.toList.drop 8).take 2) (by rw[List.length_take];omega) (λc hc=>by
    obtain⟨j,hj,rfl⟩:=List.getElem_of_mem hc
    rw[List.length_take]at hj
    have hj2:(s.data.toList.drop 8)[j]? =some (((s.data.toList.drop 8).take 2)[j]'(by rw[List.length_take];exact hj)):=by
     rw[List.getElem_take]
     exact List.getElem?_eq_getElem _
    rw[List.getElem?_drop]at hj2
    exact hdig _ _ (k8 j (by omega)) hj2)
   omega
 ·rw[if_neg hf]
  refine CX w s ?_
  rw[<-hF]
  by_cases hl:s.size=10
  ·have hex:∃j,j<10/\¬zF (PlainAid.bt F j) (PlainAid.bt s j):=by
    apply Classical.byContradiction
    intro hno
    apply hf
    refine(wW _ _).2 ⟨by omega,λi x c hx hc=>?_⟩
    apply Classical.byContradiction
    intro hnf
    have hi:i<10:=by have:=(List.getElem?_eq_some_iff.1 hx).1;omega
    exact hno ⟨i,hi,λh=>hnf ((UN x c).2 (by rw[oH s i c hc,oH F i x (by rw[hFl];exact hx)]at h;exact h))⟩
   obtain⟨j,⟨hj1,hj2⟩,hmin⟩:∃j,(j<10/\¬zF (PlainAid.bt F j) (PlainAid.bt s j))/\∀i,i<j->zF (PlainAid.bt F i) (PlainAid.bt s i):=by
    obtain⟨j,hj⟩:=hex
    induction j using Nat.strongRecOn with
    |ind j ih=>
     by_cases h:∃i,i<j/\¬zF (PlainAid.bt F i) (PlainAid.bt s i)
     ·obtain⟨i,hi,hn⟩:=h
      exact ih i hi ⟨by omega,hn⟩
     ·exact⟨j,hj,λi hi=>Classical.byContradiction λhn=>h ⟨i,hi,hn⟩⟩
   exact AY w s F (by omega) hs (by omega) j (by omega) (Lib.hid hmin) (Lib.hid hj2)
  ·exact Br w s F (by omega) hs (by omega)
structure jg (m:Int)(kb ko kc:Nat)(W0:World):Prop where
 lx:lm m kb ko kc W0
 id:mR W0
 pr:∀w,Below W0.heap.size W0 w->uW w
 am:uG m W0
theorem jg.below {m:Int}{kb ko kc:Nat}{W0 w:World}(h:jg m kb ko kc W0)(hb:Below W0.heap.size W0 w):jg m kb ko kc w:=
 ⟨h.lx.below hb,λw' hw'=>h.id w' (hb.trans (hw'.mono hb.size)),λw' hw'=>h.pr w' (hb.trans (hw'.mono hb.size)),h.am.below hb⟩
def bM:Ps.Env:=psE (qV yt) oq (kH Ps.gL)
def psR:Ps.Req->Int:=Ps.zH bM.valid
theorem RN {m:Int}{kb ko kc:Nat}{W0:World}(h:jg m kb ko kc W0):oP 225 W0 (qV yt):=
 ps_amt m kb ko kc h.lx yt λw s hw hs hd=>KZ s w m hs (h.am.below hw) hd
theorem pv_qty {m:Int}{kb ko kc:Nat}{W0:World}(h:jg m kb ko kc W0):oP 257 W0 oq:=ps_qty m kb ko kc h.lx h.am
theorem pv_day (W0:World):oP 226 W0 (kH Ps.gL):=
 Lv Ps.gL (λs=>by have:=Ps.KG s;exact au (by omega)) λw s _ hs=>Nl s w hs
theorem N9 (D:ByteArray->Int×Int)(s:ByteArray):(kH D s).2=0\/kH D s=(0,28):=by
 unfold kH
 split
 ·exact .inl rfl
 ·exact .inr rfl
def ChkC (W0:World):Prop:=∀(w:World) (B:Nat) (Q:Ps.Req) (a:Option Addr) (n c:Nat),Below W0.heap.size W0 w->dR w B (.slice a n c) Q.ins.links->
 Calls Tryz.prog 30 #[.agg (aB Q (.slice a n c))] w λe W'=>e=.returned (.int .i64 (psR Q))/\Below w.heap.size w W'
namespace Ps
def BN (E:Env)(l:List Tok):St×Req:=
 if (aU l 0).data.toList∈verbs then((step (bind' (ref E l) λr=>rest E l (aU l 0).data.toList {ref:=r}) {} (.ok 1)).2,(step (bind' (ref E l) λr=>rest E l (aU l 0).data.toList {ref:=r}) {} (.ok 1)).1)
 else(.error (av l 0,30),{})
def KD (l:List Tok):St->St
 | .ok b=>if b<l.length then .error (av l b,30)else .ok b
 | .error e=>.error e
theorem UE (E:Env)(l:List Tok)(hl:0<l.length):line E l 0=match KD l (BN E l).1 with
 | .ok b=>.ok ((BN E l).2,b)
 | .error e=>.error e:=by
 unfold line BN
 rw[if_neg (by omega)]
 by_cases hv:(aU l 0).data.toList∈verbs
 ·rw[if_pos hv,if_pos hv]
  simp only[]
  cases hr:ref E l 1 with
  |error e=>
   rw[show(0+1:Nat)=1 from rfl,dO hr,bF (dO hr)]
   rfl
  |ok x=>
   obtain⟨x,b⟩:=x
   rw[show(0+1:Nat)=1 from rfl,bind_ok hr]
   cases hq:rest E l (aU l 0).data.toList {ref:=x} b with
   |error e=>rw[dO hq,bF (show bind' (ref E l) (λr=>rest E l (aU l 0).data.toList {ref:=r}) 1=.error e from by rw[bind_ok hr];exact hq)];rfl
   |ok y=>
    obtain⟨y,d⟩:=y
    rw[bind_ok hq,step_ok (show bind' (ref E l) (λr=>rest E l (aU l 0).data.toList {ref:=r}) 1=.ok (y,d)from by rw[bind_ok hr];exact hq)]
    show(if d<l.length then _ else _)=_
    unfold KD
    by_cases hd:d<l.length
    ·simp only[if_pos hd]
    ·simp only[if_neg hd]
 ·rw[if_neg hv,if_neg hv]
  rfl
theorem Res.state {α:Type}{p:P α}{st st':St}{x:α}(z:α)(h:Res p st st' x):st'=(step p z st).2:=by
 cases st with
 |error e=>exact h
 |ok a=>
  cases st' with
  |error e=>rw[bF (show p a=.error e from h)]
  |ok b=>rw[step_ok (show p a=.ok (x,b)from h)]
theorem Res.value {α:Type}{p:P α}{st st':St}{x:α}(z:α)(h:Res p st st' x)(b:Nat)(hb:st'=.ok b):x=(step p z st).1:=by
 subst hb
 cases st with
 |error e=>cases h
 |ok a=>rw[step_ok (show p a=.ok (x,b)from h)]
end Ps
theorem xE:jE.map (λx=>x.1.data.toList)=Ps.verbs:=rfl
theorem QJ:∀a b:Fin 9,a<b->Ps.verbs[a.val]?≠Ps.verbs[b.val]?:=by decide
theorem fm_low {j0 j:Nat}{v:Ps.Bs}(h0:Ps.verbs[j0]? =some v)(hj:j<j0){y:ByteArray×Nat}(hy:jE[j]? =some y):y.1.data.toList≠v:=by
 intro he
 have hl:j0<9:=(List.getElem?_eq_some_iff.1 h0).1
 have h1:Ps.verbs[j]? =some y.1.data.toList:=by rw[<-xE,List.getElem?_map,hy];rfl
 exact QJ ⟨j,by omega⟩ ⟨j0,hl⟩ hj (by rw[h0];show Ps.verbs[j]? =_;rw[h1,he])
theorem bz.put {W0 W:World}{r tb cap q:Nat}{l:List Ps.Tok}{st:Ps.St}{Q:Ps.Req}{lv:Value}{w:World}(h:bz W0 W r tb cap q l st (aB Q lv) w)(j:Nat)(v:Value)(Q':Ps.Req)(hQ:(aB Q lv).setIfInBounds j v=aB Q' lv):bz W0 W r tb cap q l st (aB Q' lv) (w.setCell ⟨q,j,none⟩ v):=by
 rw[<-hQ];exact h.store j v
theorem bz.qr {W0 W:World}{r tb cap q:Nat}{l:List Ps.Tok}{st:Ps.St}{Q:Ps.Req}{w:World}(h:bz W0 W r tb cap q l st (aB Q fI) w)(hr:r<W.heap.size)(hq:q<W.heap.size)(hk:Q.ins.links=[]):fu W0 W r tb cap q l W.heap.size st Q w:=⟨hr,hq,fI,h,by rw[hk];exact dR.nil _ _⟩
theorem bz.inc {W0 W:World}{r tb cap q a:Nat}{l:List Ps.Tok}{cs:Array Value}{w:World}(h:bz W0 W r tb cap q l (.ok a) cs w)(hlt:a<l.length):
 (w.cell? ⟨r,1,none⟩=some (.int .i64 a)/\w.frozen? ⟨r,1,none⟩=false)/\bz W0 W r tb cap q l (.ok (a+1)) cs (w.setCell ⟨r,1,none⟩ (.int .i64 ((a:Int)+1)))/\Tch r r w (w.setCell ⟨r,1,none⟩ (.int .i64 ((a:Int)+1))):=by
 obtain⟨a',o,e,hr,ht,hne,hpos,hcap,gN,hst⟩:=h.1.rd
 obtain⟨rfl,rfl,hle⟩:=hst
 obtain⟨-,k1,-,-,-⟩:=dF hr
 have hT:Tch r r w (w.setCell ⟨r,1,none⟩ (.int .i64 ((a':Int)+1))):=(Tch.refl r r w).setCell 1 _
 refine⟨⟨k1,aV 1 hr⟩,h.step (h.1.next ⟨a'+1,o,0,?_,ht.tch hT hne hne,hne,hpos,hcap,gN,rfl,rfl,hlt⟩ hT) hT,hT⟩
 have:=ai w r 1 _ _ (.int .i64 ((a':Int)+1)) hr
 exact this
theorem K9 {w Wr:World}{r tb cap q:Nat}{l:List Ps.Tok}{E:Ps.Env}(hl:fq l)(env:mR w)(hpos:0<l.length)(Bp:r<Wr.heap.size)(y8:q<Wr.heap.size)(_hmany:l.length<=1000000)(hE:Ps.ref E l=wV l)(_fb:Nat)
 (t:ByteArray) (j0:Nat) (v0:ByteArray) (fn:Nat) (hj0:jE[j0]? =some (v0,fn)) (htx:v0.data.toList=t.data.toList) (eg:∀args w,(callFunc fn args).run Tryz.prog w=.ok (.enter fn args) w) (hform:l8 fn w Wr r tb cap q l E t.data.toList)
 (P3 P7:World->Prop) (hP3:∀w',P3 w'->bz w Wr r tb cap q l (.ok 0) (aB {} fI) w')
 (hP7:∀st' Q' w',fu w Wr r tb cap q l Wr.heap.size st' Q' w'->Ps.Res (Ps.bind' (Ps.ref E l) λx=>Ps.rest E l t.data.toList {ref:=x}) (.ok 1) st' Q'->P7 w'):Fv r q t P3 P7:=by
 have hvj:Ps.verbs[j0]? =some t.data.toList:=by rw[<-htx,<-xE,List.getElem?_map,hj0];rfl
 refine .found (λb w'=>bz w Wr r tb cap q l (.ok 1) (aB {} fI) w'/\w'.heap[b]? =some (.cells #[.string v0,.func (.func fn) #[] #[]] 103 (0,0))/\Wr.heap.size<=b)
  (λb w'=>bz w Wr r tb cap q l (Ps.step (wV l) ⟨#[]⟩ (.ok 1)).2 (aB {} fI) w'/\w'.heap[b]? =some (.cells #[.string v0,.func (.func fn) #[] #[]] 103 (0,0))/\Wr.heap.size<=b)
  (λb w'=>bz w Wr r tb cap q l (Ps.step (wV l) ⟨#[]⟩ (.ok 1)).2 (aB {ref:=(Ps.step (wV l) ⟨#[]⟩ (.ok 1)).1} fI) w'/\w'.heap[b]? =some (.cells #[.string v0,.func (.func fn) #[] #[]] 103 (0,0))/\Wr.heap.size<=b)
  j0 v0 fn (Ps.step (wV l) ⟨#[]⟩ (.ok 1)).1 0 hj0 (by rw[Lib.toList_data,Lib.toList_data,htx];exact beq_self_eq_true _) (λj y hj hy=>by rw[Lib.toList_data,Lib.toList_data,beq_eq_false_iff_ne];exact fm_low hvj hj hy) eg (by unfold wrap64;omega)
  (Lib.hid ?_) (Lib.hid ?_) (Lib.hid ?_) (Lib.hid ?_) (Lib.hid ?_)
 ·rintro w1 w2 h1 rfl
  have h2:=hP3 w1 h1
  have hb:=(Below.refl w1.heap.size w1).alloc (Nat.le_refl _) (.cells #[.string v0,.func (.func fn) #[] #[]] 103)
  have h3:=h2.step (h2.1.below hb) (Tch.of_below hb)
  obtain⟨c1,c2,c3⟩:=h3.inc hpos
  have hsz:=h2.2.2.1.size
  have hrow:=aC w1 (.cells #[.string v0,.func (.func fn) #[] #[]] 103)
  exact⟨c1,c2,(c3.block _ (by simp) (by omega) (by omega)).trans hrow,hsz⟩
 ·rintro w1 b ⟨h1,h2,h3⟩
  refine(Po hl env w1 r tb cap _ h1.1).mono ?_
  rintro e W' ⟨c1,c2,c3⟩
  exact⟨c1,h1.step c2 c3,(c3.block b (Array.getElem?_eq_some_iff.1 h2).1 (by omega) (by omega)).trans h2,h3⟩
 ·rintro w1 b ⟨h1,h2,h3⟩
  refine⟨h1.cell 2 (by show 2<28;omega),h1.put 2 _ _ rfl,?_,h3⟩
  exact(((Tch.refl q q w1).setCell 2 _).block b (Array.getElem?_eq_some_iff.1 h2).1 (by omega) (by omega)).trans h2
 ·rintro w1 b ⟨h1,h2,h3⟩
  rw[cell_of_row _ _ _ _ _ _ h2];rfl
 ·rintro w1 b ⟨h1,h2,h3⟩
  refine(hform _ _ w1 h1 rfl rfl).mono ?_
  rintro e W' ⟨c1,st',Q',c2,c3⟩
  refine⟨c1,hP7 st' Q' W' c2 (Ps.Res.bind ?_ c3)⟩
  rw[hE]
  exact Ps.Res.of_step _ _ _
theorem KA {v:Ps.Bs}(h:v∈Ps.verbs):v=Ps.E8\/v=Ps.fC\/v=Ps.eZ\/v=Ps.eP\/v=Ps.dN\/v=Ps.nK\/v=Ps.fQ\/v=Ps.bU\/v=Ps.gG:=by
 simpa[Ps.verbs]using h
def nT (w:World)(P:Ps.Req×Int×Int)(rv:Value)(o x:Int)(W':World):Prop:=
 (∃lv,rv=.agg (aB P.1 lv)/\dR W' w.heap.size lv P.1.ins.links)/\o=P.2.1/\x=P.2.2/\Below w.heap.size w W'
theorem bz.other {W0 W:World}{r tb cap q:Nat}{l:List Ps.Tok}{st:Ps.St}{cs:Array Value}{w:World}(h:bz W0 W r tb cap q l st cs w){g:Nat}{o:Obj}(hg:W.heap[g]? =some o)(h1:g≠r)(h2:g≠q):w.heap[g]? =some o:=
 (h.2.2.1.block g (Array.getElem?_eq_some_iff.1 hg).1 h1 h2).trans hg
theorem M4 {m:Int}{kb ko kc:Nat}{w w1:World}(env:jg m kb ko kc w)(chk:ChkC w)(tb cap g:Nat)(l:List Ps.Tok)(hl:fq l)(hpos:0<l.length)(hcap:l.length<=cap)(gN:l.length<=1000000)(hg:g=w.heap.size)
 (hgz:w1.heap[g]? =some (.cells aI 37 (0,0))) (hb1:Below w.heap.size w w1) (htb:g<tb) (htl:tb<w1.heap.size) (Gj:iT w1 tb l) (P:Ps.Req×Int×Int)
 (hP:P=match Ps.line bM l 0 with
  | .error e=>({},e.1,e.2)
  | .ok (q,_)=>
    let q:=if q.op=0 then{q with sender:=q.ins.sender,ins:={q.ins with ref:=q.ref} }else q
    if psR q≠0 then({},Ps.av l 0,psR q)else(q,0,0)):
 I1 g tb l.length cap w1 (nT w P):=by
 obtain⟨r,hr⟩:∃r,r=w1.heap.size:=⟨_,rfl⟩
 obtain⟨q,hq⟩:∃q,q=w1.heap.size+1:=⟨_,rfl⟩
 obtain⟨Wr,hWr⟩:∃Wr,Wr=(w1.alloc (.cells (bK tb l.length cap 0 0 0) 97)).alloc (.cells aI 37):=⟨_,rfl⟩
 have hsz1:(w1.alloc (.cells (bK tb l.length cap 0 0 0) 97)).heap.size=w1.heap.size+1:=by simp
 have pV:Below w1.heap.size w1 (w1.alloc (.cells (bK tb l.length cap 0 0 0) 97)):=(Below.refl _ _).alloc (Nat.le_refl _) _
 have hbb:Below (w1.heap.size+1) (w1.alloc (.cells (bK tb l.length cap 0 0 0) 97)) Wr:=by
  rw[hWr,<-hsz1];exact(Below.refl _ _).alloc (Nat.le_refl _) _
 have hbr:Below w1.heap.size w1 Wr:=pV.trans (hbb.mono (by omega))
 have hrr:Wr.heap[r]? =some (.cells (bK tb l.length cap 0 0 0) 97 (0,0)):=by
  rw[hr,hbb.block w1.heap.size (by omega)];exact aC w1 _
 have hqr:Wr.heap[q]? =some (.cells aI 37 (0,0)):=by
  rw[hWr,hq,<-hsz1];exact aC _ _
 have Bp:r<Wr.heap.size:=(Array.getElem?_eq_some_iff.1 hrr).1
 have y8:q<Wr.heap.size:=(Array.getElem?_eq_some_iff.1 hqr).1
 have hgW:Wr.heap[g]? =some (.cells aI 37 (0,0)):=(hbr.block g (by omega)).trans hgz
 have hbw:Below w.heap.size w Wr:=hb1.trans (hbr.mono hb1.size)
 have hrd:fw Wr r tb cap l (.ok 0):=⟨0,0,0,hrr,Gj.below hbr htl,by omega,hpos,hcap,gN,rfl,rfl,by omega⟩
 have hR0:bz w Wr r tb cap q l (.ok 0) (aB {} fI) Wr:=⟨⟨hrd,hbw,by have:=hb1.size;omega⟩,hqr,Tch.refl _ _ _,by omega,by omega,by have:=hb1.size;omega⟩
 have eid:mR w:=env.id
 have hdd:∀s,(kH Ps.gL s).2=0\/kH Ps.gL s=(0,28):=N9 _
 have PW:Pdr w l bM:=⟨hl,by unfold bM;rw[JS];exact Po hl eid,by unfold bM;rw[vv];exact zb hl eid,by unfold bM;rw[QP];exact RX hl eid,by unfold bM;rw[psE_by];exact ps_by hl eid,RP hl _ (RN env),DK hl _ (pv_qty env),by unfold bM;rw[Ri _ _ _ hdd];exact ps_day hl _ (pv_day w),env.pr⟩
 have sN:IM w Wr r tb cap q l bM:=F4 PW Bp y8
 obtain⟨t,ht⟩:∃t,t=Ps.aU l 0:=⟨_,rfl⟩
 obtain⟨st7,Qu⟩:∃st7,st7=(Ps.BN bM l).1:=⟨_,rfl⟩
 obtain⟨Q7,hQ7⟩:∃Q7,Q7=(Ps.BN bM l).2:=⟨_,rfl⟩
 have uR:=Ps.UE bM l hpos
 rw[<-Qu,<-hQ7]at uR
 obtain⟨st9,Tj⟩:∃st9,st9=Ps.KD l st7:=⟨_,rfl⟩
 rw[<-Tj]at uR
 have hgr:g≠r:=by omega
 have hgq:g≠q:=by omega
 refine .mk t (λw'=>bz w Wr r tb cap q l (.ok 0) (aB {} fI) w') (λw'=>bz w Wr r tb cap q l (.ok 0) (aB {} fI) w')
  (λw'=>∃Q',fu w Wr r tb cap q l Wr.heap.size st7 Q' w'/\∀b,st7=.ok b->Q'=Q7) (λw'=>∃Q',fu w Wr r tb cap q l Wr.heap.size st7 Q' w'/\∀b,st7=.ok b->Q'=Q7) (λw'=>∃Q',fu w Wr r tb cap q l Wr.heap.size st9 Q' w'/\∀b,st9=.ok b->Q'=Q7)
  (λfb w'=>bz w Wr r tb cap q l (.ok 0) (aB {} fI) w'/\w'.heap[fb]? =some (.cells qg.toArray 103 (0,0))) (Ps.dU l st7) hpos ?_ (Lib.hid ?_) (Lib.hid ?_) (Lib.hid ?_) (Lib.hid ?_) (Lib.hid ?_) (Lib.hid ?_) (Lib.hid ?_) (Lib.hid ?_) ?_
 ·
  rw[<-hr,<-hWr]
  have n2:=vL hrd hl
  rw[show Ps.dU l (.ok 0)=true from by simp[Ps.dU,hpos],show Ps.gB l (.ok 0)=.ok 0 from by simp[Ps.gB,hpos]]at n2
  refine n2.mono ?_
  rintro e W' ⟨c1,c2,c3⟩
  exact⟨c1,hR0.step (hR0.1.next c2 c3) c3⟩
 ·
  rw[<-hr]
  intro w' hw'
  refine(vI hw'.1.rd).mono ?_
  rintro e w2 ⟨c1,k,rfl⟩
  have hbk:=below_drewN' (Below.refl w'.heap.size w') k
  exact⟨by rw[ht];exact c1,hw'.step (hw'.1.below hbk) (Tch.of_below hbk)⟩
 ·rintro w' w2 hw' rfl
  have pV:=(Below.refl w'.heap.size w').alloc (Nat.le_refl _) (.cells qg.toArray 103)
  exact⟨hw'.step (hw'.1.below pV) (Tch.of_below pV),aC w' _⟩
 ·rintro fb w' cs ⟨c1,c2⟩
  have pV:=(Below.refl w'.heap.size w').alloc (Nat.le_refl _) (.cells cs 103)
  exact⟨c1.step (c1.1.below pV) (Tch.of_below pV),(pV.block fb (Array.getElem?_eq_some_iff.1 c2).1).trans c2⟩
 ·rintro fb w' ⟨c1,c2⟩ j x hx
  obtain⟨e1,e2⟩:=UO jE j x hx
  refine⟨?_,?_⟩
  ·rw[cell_of_row _ _ _ _ _ _ c2,List.getElem?_toArray];exact e1
  ·rw[cell_of_row _ _ _ _ _ _ c2,List.getElem?_toArray];exact e2
 ·
  rw[<-hr,show r+1=q from by omega]
  intro fb
  by_cases hv:t.data.toList∈Ps.verbs
  ·have hmid:Ps.BN bM l=((Ps.step (Ps.bind' (Ps.ref bM l) λx=>Ps.rest bM l t.data.toList {ref:=x}) {} (.ok 1)).2,(Ps.step (Ps.bind' (Ps.ref bM l) λx=>Ps.rest bM l t.data.toList {ref:=x}) {} (.ok 1)).1):=by
    unfold Ps.BN;rw[<-ht,if_pos hv]
   have fin:∀(j0:Nat) (v0:ByteArray) (fn:Nat),jE[j0]? =some (v0,fn)->v0.data.toList=t.data.toList->(∀args w,(callFunc fn args).run Tryz.prog w=.ok (.enter fn args) w)->l8 fn w Wr r tb cap q l bM t.data.toList->
    Fv r q t (λw'=>bz w Wr r tb cap q l (.ok 0) (aB {} fI) w'/\w'.heap[fb]? =some (.cells qg.toArray 103 (0,0))) (λw'=>∃Q',fu w Wr r tb cap q l Wr.heap.size st7 Q' w'/\∀b,st7=.ok b->Q'=Q7):=λj0 v0 fn hj0 hv0 eg hf=>
    K9 hl eid hpos Bp y8 gN (JS _ _ _ l) fb t j0 v0 fn hj0 hv0 eg hf _ _ (λw' h=>h.1) λst' Q' w' h1 h2=>by
     have e1:=h2.state {}
     have e2:=h2.value {}
     rw[Qu,hQ7,hmid]
     refine⟨Q',by have h3:=h1;rw[e1]at h3;exact h3,λb hb=>e2 b (by rw[e1];exact hb)⟩
   rcases KA hv with h|h|h|h|h|h|h|h|h
   ·exact fin 0 _ _ rfl h.symm (enters_of Tryz.func99 (by kernel_rfl) rfl) (by rw[h];exact FO PW sN)
   ·exact fin 1 _ _ rfl h.symm (enters_of Tryz.func100 (by kernel_rfl) rfl) (by rw[h];exact Og PW sN)
   ·exact fin 2 _ _ rfl h.symm (enters_of Tryz.func101 (by kernel_rfl) rfl) (by rw[h];exact Gb PW sN)
   ·exact fin 3 _ _ rfl h.symm (enters_of Tryz.func102 (by kernel_rfl) rfl) (by rw[h];exact KR PW Bp y8)
   ·exact fin 4 _ _ rfl h.symm (enters_of Tryz.func103 (by kernel_rfl) rfl) (by rw[h];exact IP PW Bp y8)
   ·exact fin 5 _ _ rfl h.symm (enters_of Tryz.func104 (by kernel_rfl) rfl) (by rw[h];exact Nr PW (Gn PW Bp y8))
   ·exact fin 6 _ _ rfl h.symm (enters_of Tryz.func105 (by kernel_rfl) rfl) (by rw[h];exact Kl PW Bp y8)
   ·exact fin 7 _ _ rfl h.symm (enters_of Tryz.func106 (by kernel_rfl) rfl) (by rw[h];exact UK PW Bp y8)
   ·exact fin 8 _ _ rfl h.symm (enters_of Tryz.func107 (by kernel_rfl) rfl) (by rw[h];exact KE PW Bp y8)
  ·have hmid:Ps.BN bM l=(.error (Ps.av l 0,30),{}):=by unfold Ps.BN;rw[<-ht,if_neg hv]
   refine .none (λj y hy=>?_) (Lib.hid ?_)
   ·rw[Lib.toList_data,Lib.toList_data,beq_eq_false_iff_ne]
    intro he
    apply hv
    rw[<-he,<-xE]
    exact List.mem_map.2 ⟨y,List.mem_of_getElem? hy,rfl⟩
   ·rintro w' ⟨c1,c2⟩
    refine(lT c1.1.rd 30 (by decide) (λb hb=>by cases hb;exact hpos)).mono ?_
    rintro e W' ⟨h1,h2,h3⟩
    refine⟨h1,{},?_,λb hb=>by rw[Qu,hmid]at hb;cases hb⟩
    rw[Qu,hmid]
    exact(c1.step (c1.1.next h2 h3) h3).qr Bp y8 rfl
 ·
  rw[<-hr]
  rintro w' ⟨Q',c1,c2⟩
  refine(nk c1.rd.rd).mono ?_
  rintro e W' ⟨h1,k,rfl⟩
  exact⟨h1,Q',c1.drewN k,c2⟩
 ·
  rw[<-hr]
  rintro hb w' ⟨Q',c1,c2⟩
  obtain⟨b,hb7⟩:∃b,st7=.ok b:=by cases hs:st7 with
   |ok b=>exact⟨b,rfl⟩
   |error e=>rw[hs]at hb;cases hb
  have hlt:b<l.length:=by rw[hb7]at hb;simpa[Ps.dU]using hb
  have hf:Ps.qO l 30 st7=st9:=by rw[Tj,hb7];simp[Ps.KD,Ps.qO,hlt]
  refine(lT c1.rd.rd 30 (by decide) (λb' hb'=>by rw[hb7]at hb';cases hb';exact hlt)).mono ?_
  rintro e W' ⟨h1,h2,h3⟩
  refine⟨h1,Q',?_,λb' hb'=>?_⟩
  ·have:=c1.step (c1.rd.next h2 h3) h3
   rw[hf]at this
   exact this
  ·rw[Tj,hb7]at hb'
   simp[Ps.KD,hlt]at hb'
 ·rintro hb w' ⟨Q',c1,c2⟩
  have h9:st9=st7:=by
   rw[Tj]
   cases hs:st7 with
   |error e=>rfl
   |ok b=>
    rw[hs]at hb
    have:¬b<l.length:=by simpa[Ps.dU]using hb
    simp[Ps.KD,this]
  rw[h9]
  exact⟨Q',c1,c2⟩
 ·
  rw[<-hr,show r+1=q from by omega]
  cases h9:st9 with
  |error er=>
   rw[h9]at uR
   simp only[]at uR
   rw[uR]at hP
   simp only[]at hP
   refine .err er.1 er.2 hgr (Lib.hid ?_)
   rintro w' ⟨Q',c1,c2⟩
   have hrd9:=c1.rd.rd
   obtain⟨a,o,e,hrow,_,_,_,_,_,hst⟩:=hrd9
   obtain⟨he,ho,hne⟩:=hst
   obtain⟨_,_,k2,k3,_⟩:=dF hrow
   obtain⟨_,_,lv,c3,c4⟩:=c1
   have yY:=c3.other hgW hgr hgq
   refine⟨by rw[beq_eq_false_iff_ne,<-he];exact hne,⟨yY,by rw[k2,ho],by rw[k3,he]⟩,?_⟩
   rw[hP]
   refine⟨⟨fI,rfl,dR.nil _ _⟩,rfl,rfl,?_⟩
   have:=c3.1.base.drew
   rw[<-hg]at this⊢
   exact below_setRow this (Nat.le_refl _) aI
  |ok b9=>
   rw[h9]at uR
   simp only[]at uR
   rw[uR]at hP
   simp only[]at hP
   have hend:∀w',(∃Q',fu w Wr r tb cap q l Wr.heap.size (.ok b9) Q' w'/\∀b,(Except.ok b9:Ps.St)=.ok b->Q'=Q7)->∃(qa:Option Addr) (qc:Nat),bz w Wr r tb cap q l (.ok b9) (aB Q7 (.slice qa Q7.ins.links.length qc)) w'/\dR w' Wr.heap.size (.slice qa Q7.ins.links.length qc) Q7.ins.links:=by
    rintro w' ⟨Q',c1,c2⟩
    obtain rfl:=c2 b9 rfl
    obtain⟨_,_,lv,c3,c4⟩:=c1
    obtain⟨qa,qc,rfl⟩:=c4.slice
    exact⟨qa,qc,c3,c4⟩
   have hk3:∀w',bz w Wr r tb cap q l (.ok b9) (aB Q7 (.slice none 0 0)) w'->True:=λ_ _=>trivial
   have Qt:∀(w':World) (cs:Array Value),bz w Wr r tb cap q l (.ok b9) cs w'->w'.cell? ⟨r,3,none⟩=some (.int .i64 0):=by
    rintro w' cs c3
    obtain⟨a,o,e,hrow,_,_,_,_,_,hst⟩:=c3.1.rd
    obtain⟨_,he,_⟩:=hst
    rw[(dF hrow).2.2.2.1,he]
   obtain⟨Q2,hQ2⟩:∃Q2,Q2=if Q7.op=0 then({Q7 with sender:=Q7.ins.sender,ins:={Q7.ins with ref:=Q7.ref} }:Ps.Req)else Q7:=⟨_,rfl⟩
   rw[<-hQ2]at hP
   have hl2:Q2.ins.links=Q7.ins.links:=by rw[hQ2];split<;>rfl
   have um:∀(w':World) (qa:Option Addr) (qc:Nat),bz w Wr r tb cap q l (.ok b9) (aB Q2 (.slice qa Q7.ins.links.length qc)) w'->dR w' Wr.heap.size (.slice qa Q7.ins.links.length qc) Q7.ins.links->
    Calls Tryz.prog 30 #[.agg (aB Q2 (.slice qa Q7.ins.links.length qc))] w' λe W'=>e=.returned (.int .i64 (psR Q2))/\W'.heap[g]? =some (.cells aI 37 (0,0))/\W'.cell? ⟨tb,2,none⟩=some (.int .i64 (Ps.av l 0))/\W'.heap[q]? =some (.cells (aB Q2 (.slice qa Q7.ins.links.length qc)) 37 (0,0))/\
     dR W' Wr.heap.size (.slice qa Q7.ins.links.length qc) Q7.ins.links/\Below w.heap.size w W':=by
    intro w' qa qc c3 c4
    refine(chk w' Wr.heap.size Q2 qa _ qc c3.1.base (by rw[hl2];exact c4)).mono ?_
    rintro e W' ⟨h1,h2⟩
    have yY:=c3.other hgW hgr hgq
    obtain⟨x,hx⟩:∃x,l[0]? =some x:=⟨_,List.getElem?_eq_getElem hpos⟩
    have htk:=(c3.1.rd.tok 0 x hx).2.2
    have hoff:Ps.av l 0=x.2.2:=by unfold Ps.av;rw[hx]
    refine⟨h1,(h2.block g (Array.getElem?_eq_some_iff.1 yY).1).trans yY,?_,(h2.block q (Array.getElem?_eq_some_iff.1 c3.2.1).1).trans c3.2.1,c4.keep (Tch.of_below (r:=r) (q:=r) h2) Bp Bp,c3.1.base.trans (h2.mono c3.1.base.size)⟩
    rw[hoff]
    exact(h2.cell (p:=⟨tb,2,none⟩) c3.1.rd.lt.2).trans htk
   have hbad:∀(W':World),psR Q2≠0->Below w.heap.size w W'->nT w P (.agg aI) (Ps.av l 0) (psR Q2) (W'.drew.setRow g aI):=by
    intro W' hne hb
    rw[if_pos hne]at hP
    rw[hP]
    refine⟨⟨fI,rfl,dR.nil _ _⟩,rfl,rfl,?_⟩
    have:=hb.drew
    rw[<-hg]at this⊢
    exact below_setRow this (Nat.le_refl _) aI
   have hgood:∀(W':World) (qa:Option Addr) (qc:Nat),psR Q2=0->Below w.heap.size w W'->dR W' Wr.heap.size (.slice qa Q7.ins.links.length qc) Q7.ins.links->nT w P (.agg (aB Q2 (.slice qa Q7.ins.links.length qc))) 0 0 (W'.setRow g (aB Q2 (.slice qa Q7.ins.links.length qc))):=by
    intro W' qa qc hz hb hlk
    rw[if_neg (by rw[hz];simp)]at hP
    rw[hP]
    refine⟨⟨_,rfl,?_⟩,rfl,rfl,?_⟩
    ·show dR _ w.heap.size _ Q2.ins.links
     rw[hl2]
     refine dA (gF hlk λb hb2=>iG W' g b _ ?_) hbw.size
     have h1:=(hlk.lt b hb2).1
     have h2:=hb1.size
     have h3:=hbr.size
     omega
    ·rw[<-hg]at hb⊢
     exact below_setRow hb (Nat.le_refl _) _
   by_cases hop:Q7.op=0
   ·have SE:Q2={Q7 with sender:=Q7.ins.sender,ins:={Q7.ins with ref:=Q7.ref} }:=by rw[hQ2,if_pos hop]
    have hst:∀w' qa qc,bz w Wr r tb cap q l (.ok b9) (aB Q7 (.slice qa Q7.ins.links.length qc)) w'->dR w' Wr.heap.size (.slice qa Q7.ins.links.length qc) Q7.ins.links->
     (w'.cell? ⟨q,0,none⟩=some (.int .i64 0)/\w'.cell? ⟨q,5,none⟩=some (.string Q7.ins.sender)/\w'.cell? ⟨q,2,none⟩=some (.string Q7.ref)/\((∃u,w'.cell? ⟨q,1,none⟩=some u)/\(∃u,w'.cell? ⟨q,3,none⟩=some u)/\w'.frozen? ⟨q,1,none⟩=false/\w'.frozen? ⟨q,3,none⟩=false/\(w'.setCell ⟨q,1,none⟩ (.string Q7.ins.sender)).frozen? ⟨q,3,none⟩=false))/\
     bz w Wr r tb cap q l (.ok b9) (aB Q2 (.slice qa Q7.ins.links.length qc)) ((w'.setCell ⟨q,1,none⟩ (.string Q7.ins.sender)).setCell ⟨q,3,none⟩ (.string Q7.ref))/\dR ((w'.setCell ⟨q,1,none⟩ (.string Q7.ins.sender)).setCell ⟨q,3,none⟩ (.string Q7.ref)) Wr.heap.size (.slice qa Q7.ins.links.length qc) Q7.ins.links:=by
     intro w' qa qc c3 c4
     have d1:=c3.put 1 (.string Q7.ins.sender) {Q7 with sender:=Q7.ins.sender} rfl
     have d2:=d1.put 3 (.string Q7.ref) Q2 (by rw[SE];rfl)
     have z:∀(Q:Ps.Req) (lv:Value),(aB Q lv).size=28:=λ_ _=>rfl
     refine⟨⟨?_,?_,?_,(c3.cell 1 (by rw[z];omega)).1,(c3.cell 3 (by rw[z];omega)).1,(c3.cell 1 (by rw[z];omega)).2,(c3.cell 3 (by rw[z];omega)).2,(d1.cell 3 (by rw[z];omega)).2⟩,d2,?_⟩
     ·rw[cell_of_row _ _ _ _ _ _ c3.2.1]
      show some (Value.int .i64 Q7.op)=_
      rw[hop]
     ·rw[cell_of_row _ _ _ _ _ _ c3.2.1];rfl
     ·rw[cell_of_row _ _ _ _ _ _ c3.2.1];rfl
     ·exact(c4.keep ((Tch.refl q q w').setCell 1 _) y8 y8).keep ((Tch.refl q q _).setCell 3 _) y8 y8
    by_cases hz:psR Q2=0
    ·refine .subOk Q7.ins.sender Q7.ref (Lib.hid ?_)
     intro w' hw'
     obtain⟨qa,qc,c3,c4⟩:=hend w' hw'
     obtain⟨⟨d0,d5,d2,d6⟩,d7,d8⟩:=hst w' qa qc c3 c4
     refine⟨Q2,qa,_,qc,Qt w' _ c3,d0,d5,d2,d6,d7.2.1,(um _ qa qc d7 d8).mono ?_⟩
     rintro e W' ⟨h1,h2,h3,h4,h5,h6⟩
     exact⟨by rw[h1,hz],h2,h4,hgood W' qa qc hz h6 h5⟩
    ·refine .subBad Q7.ins.sender Q7.ref (Ps.av l 0) (psR Q2) (by rw[beq_eq_false_iff_ne];exact hz) (by omega) (Lib.hid ?_)
     intro w' hw'
     obtain⟨qa,qc,c3,c4⟩:=hend w' hw'
     obtain⟨⟨d0,d5,d2,d6⟩,d7,d8⟩:=hst w' qa qc c3 c4
     refine⟨Q2,qa,_,qc,Qt w' _ c3,d0,d5,d2,d6,d7.2.1,(um _ qa qc d7 d8).mono ?_⟩
     rintro e W' ⟨h1,h2,h3,h4,h5,h6⟩
     exact⟨h1,h2,h3,hbad W' hz h6⟩
   ·have SE:Q2=Q7:=by rw[hQ2,if_neg hop]
    have hc0:∀w' qa qc,bz w Wr r tb cap q l (.ok b9) (aB Q7 (.slice qa Q7.ins.links.length qc)) w'->w'.cell? ⟨q,0,none⟩=some (.int .i64 Q7.op):=λw' qa qc c3=>by
     rw[cell_of_row _ _ _ _ _ _ c3.2.1];rfl
    by_cases hz:psR Q2=0
    ·refine .opOk Q7.op (by rw[beq_eq_false_iff_ne];exact hop) (Lib.hid ?_)
     intro w' hw'
     obtain⟨qa,qc,c3,c4⟩:=hend w' hw'
     have c5:=c3
     rw[<-SE]at c5
     rw[hl2]at c5
     refine⟨Q2,qa,_,qc,Qt w' _ c3,hc0 w' qa qc c3,c5.2.1,(um _ qa qc c5 c4).mono ?_⟩
     rintro e W' ⟨h1,h2,h3,h4,h5,h6⟩
     exact⟨by rw[h1,hz],h2,h4,hgood W' qa qc hz h6 h5⟩
    ·refine .opBad Q7.op (by rw[beq_eq_false_iff_ne];exact hop) (Ps.av l 0) (psR Q2) (by rw[beq_eq_false_iff_ne];exact hz) (by omega) (Lib.hid ?_)
     intro w' hw'
     obtain⟨qa,qc,c3,c4⟩:=hend w' hw'
     have c5:=c3
     rw[<-SE]at c5
     rw[hl2]at c5
     refine⟨Q2,qa,_,qc,Qt w' _ c3,hc0 w' qa qc c3,c5.2.1,(um _ qa qc c5 c4).mono ?_⟩
     rintro e W' ⟨h1,h2,h3,h4,h5,h6⟩
     exact⟨h1,h2,h3,hbad W' hz h6⟩
end Go.Proofs.YtnjjeapcalkmaaaGreatDoor
namespace Go.Proofs.YtnjjeapcalkmaaaGreatDoor.Lx
open Go
def Uu (s:ByteArray)(t:Tok):Prop:=t.2.1.size<=s.size/\t.2.2<=s.size/\∃x,x=aD t.2.1/\x.2=0/\t.1=x.1
theorem zl (s:ByteArray):∀(f a:Nat) (acc:List Tok),a<=s.size->acc.length<=a->(∀t∈acc,Uu s t)->(jD f s a acc).1.length<=s.size/\∀t∈(jD f s a acc).1,Uu s t
 |0,a,acc,h1,h2,h3=>⟨Nat.le_trans h2 h1,h3⟩
 |f+1,a,acc,h1,h2,h3=>by
  unfold jD
  split
  ·exact⟨Nat.le_trans h2 h1,h3⟩
  ·rename_i hz
   have k1:=Ar s a h1
   have k2:=size_le s (a+skip s a) k1
   obtain⟨x,hx⟩:∃x,x=s.extract (a+skip s a) (a+skip s a+size s (a+skip s a)):=⟨_,rfl⟩
   have hxs:x.size<=s.size:=by rw[hx,ByteArray.size_extract];omega
   rw[<-hx]
   obtain⟨c,hc⟩:∃c,c=aD x:=⟨_,rfl⟩
   rw[<-hc]
   split
   ·rename_i hc0
    refine zl s f _ _ k2 (by rw[List.length_append];simp only[List.length_singleton];omega) λt ht=>?_
    rcases List.mem_append.1 ht with h|h
    ·exact h3 t h
    ·have ht2:=List.mem_singleton.1 h
     rw[ht2]
     exact⟨hxs,k1,c,hc,hc0,rfl⟩
   ·exact⟨Nat.zero_le _,λt ht=>by cases ht⟩
theorem Cy (s:ByteArray):(aO s).1.length<=1024/\∀t∈(aO s).1,t.2.1.size<=1024/\t.2.2<=1024/\∃x,x=aD t.2.1/\x.2=0/\t.1=x.1:=by
 unfold aO
 split
 ·exact⟨Nat.zero_le _,λt ht=>by cases ht⟩
 ·have hu:(bC s).size<=1024:=by
   unfold bC
   rw[ByteArray.size_extract]
   omega
  obtain⟨h1,h2⟩:=zl (bC s) ((bC s).size+1) 0 [] (Nat.zero_le _) (Nat.le_refl _) (λt ht=>by cases ht)
  exact⟨by omega,λt ht=>by obtain⟨a,b,c⟩:=h2 t ht;exact⟨by omega,by omega,c⟩⟩
end Go.Proofs.YtnjjeapcalkmaaaGreatDoor.Lx
namespace Go.Proofs.YtnjjeapcalkmaaaGreatDoor
open Go.RowKit
theorem NV {m:Int}{kb ko kc:Nat}{w:World}(env:jg m kb ko kc w)(chk:ChkC w)(s:ByteArray)(hs:s.size<=9223372036854775807):
 Calls Tryz.prog 16 #[.string s] w λe W'=>∃rv o x,e=.returned (.tuple #[rv,.int .i64 o,.int .i64 x])/\nT w (Ps.parse bM psR s) rv o x W':=by
 have Gj:∀W,Below w.heap.size w W->_:=λW hW=>DD s W m kb ko kc hs (env.lx.below hW)
 have hin:=Lx.Cy s
 by_cases he:(Lx.aO s).2.2=0
 ·by_cases hl:(Lx.aO s).1=[]
  ·
   have hP:Ps.parse bM psR s=({},0,4):=by
    unfold Ps.parse
    rw[if_neg (by rw[he];simp),hl]
    rfl
   refine(Ae w s (Lx.aO s).2.1 (Lib.hid λW hW=>(Gj W hW).mono ?_)).mono ?_
   ·rintro e W' ⟨v,rfl,h1,h2⟩
    rw[hl]at h1
    obtain⟨a,c,rfl⟩:=iN h1
    exact⟨a,c,by rw[he];rfl,h2⟩
   ·rintro e W' ⟨rfl,hb⟩
    refine⟨_,_,_,rfl,?_⟩
    rw[hP]
    exact⟨⟨fI,rfl,dR.nil _ _⟩,rfl,rfl,hb⟩
  ·
   have hpos:0<(Lx.aO s).1.length:=List.length_pos_iff.2 hl
   refine(Ac w s (nT w (Ps.parse bM psR s)) (Lib.hid λg hg=>?_))
   have pV:=(Below.refl w.heap.size w).alloc (Nat.le_refl _) (.cells aI 37)
   refine(Gj _ pV).mono ?_
   rintro e w1 ⟨v,rfl,h1,h2⟩
   have hsz:(w.alloc (.cells aI 37)).heap.size=w.heap.size+1:=by simp
   rcases CQ h1 with⟨_,h0⟩|⟨tb,cap,rfl,htb,htl,hold⟩
   ·exact absurd h0 hl
   ·have hcap:(Lx.aO s).1.length<=cap:=by
     rcases h1.2 with⟨hv,_⟩|⟨g',cap',cur,hv,hB,hh,hn,hcap',Tv,htake⟩
     ·cases hv
     ·cases hv;exact hn
    refine⟨tb,_,cap,(Lx.aO s).2.1,by rw[he],?_⟩
    have hgz:w1.heap[g]? =some (.cells aI 37 (0,0)):=by
     rw[hg,h2.block w.heap.size (by omega)]
     exact aC w _
    refine M4 env chk tb cap g (Lx.aO s).1 (λt ht=>?_) hpos hcap (by omega) hg hgz (pV.trans (h2.mono (by omega))) (by omega) htl hold _ ?_
    ·obtain⟨a,b,_⟩:=hin.2 t ht
     exact⟨by omega,by omega⟩
    ·unfold Ps.parse
     rw[if_neg (by rw[he];simp)]
     cases Ps.line bM (Lx.aO s).1 0 with
     |error er=>rfl
     |ok x=>rfl
 ·
  have hP:Ps.parse bM psR s=({},(Lx.aO s).2.1,(Lx.aO s).2.2):=by
   unfold Ps.parse
   rw[if_pos he]
  refine(Ez w s (Lx.aO s).2.1 (Lx.aO s).2.2 he (Lib.hid λW hW=>(Gj W hW).mono ?_)).mono ?_
  ·rintro e W' ⟨v,rfl,h1,h2⟩
   exact⟨v,rfl,h2⟩
  ·rintro e W' ⟨rfl,hb⟩
   refine⟨_,_,_,rfl,?_⟩
   rw[hP]
   exact⟨⟨fI,rfl,dR.nil _ _⟩,rfl,rfl,hb⟩
open Go.ChangeShapes Go.WideShapes Go.ChangeAt Go.RowKit
theorem Kn:Tryz.prog.globalNamed "giro/lexer.kinds"=some 1:=by kernel_rfl
theorem KI:(Tryz.prog.globals[1]?).map (·.type)=some 198:=by kernel_rfl
theorem BA:Tryz.prog.cellsOf 200=2:=by kernel_rfl
theorem Gp (g o j:Nat):(⟨g,o,none⟩:Addr).add j=⟨g,o+j,none⟩:=by
 unfold Addr.add
 split
 ·rename_i h;simp_all
 ·rfl
theorem wR {l:List (String×DataW Unit)}{W:World}(h:laidMetH Tryz.prog l W)(hm:("giro/lexer.kinds",(Rows.laid_giro_lexer_kinds:DataW Unit))∈l)
 (m:Int) (Qo:W.cell? ⟨5,0,none⟩=some (.int .i64 m)):∃kb ko kc,lm m kb ko kc W:=by
 obtain⟨g,t,cs,fuel,p,hg,ht,hv,hd⟩:=h.funcs hm
 obtain rfl:=Option.some.inj (Kn.symm.trans hg)
 obtain rfl:=Option.some.inj (KI.symm.trans ht)
 have hd':DataW.trod (funcToken Tryz.prog) Tryz.prog W 0 (λ_=>true) true fuel 198 cs.toList=some (.slice [.agg [.lit (.int .i64 4),.held [103,105,114,111,47,108,101,120,101,114,46,100,97,116,101]],.agg [.lit (.int .i64 2),.held [103,105,114,111,47,108,101,120,101,114,46,107,105,110,100,115,36,49]],.agg [.lit (.int .i64 3),.held [103,105,114,111,47,108,101,120,101,114,46,100,101,99,105,109,97,108]],.agg [.lit (.int .i64 1),.held [103,105,114,111,47,108,101,120,101,114,46,107,105,110,100,115,36,50]],.agg [.lit (.int .i64 0),.held [103,105,114,111,47,108,101,120,101,114,46,107,105,110,100,115,36,51]]] [],p):=hd
 rcases Go.Deep.open_slice_pairs Tryz.underlying198 Tryz.underlying200 BA rfl rfl (by kernel_rfl) (by kernel_rfl) hd' with⟨_,hx⟩|⟨a,len,cap,mm,n,V0,V1,D0,D1,P0,P1,hcs,_,hlc,_,hmm,hx,hel⟩
 ·simp at hx
 simp only[Prod.mk.injEq,DataW.slice.injEq]at hx
 obtain⟨⟨hL,_⟩,_⟩:=hx
 have hlen:len=5:=by have:=congrArg List.length hL;simpa using this.symm
 subst hlen
 have hm5:5<=mm:=by rw[hmm];split<;>omega
 obtain⟨a0,b0,c0,d0⟩:=hel 0 (by omega)
 have e0:=congrArg (λl=>l[0]?) hL
 simp[List.range_succ]at e0
 rw[<-e0.1]at c0
 rw[<-e0.2]at d0
 obtain⟨n0,hn0,hl0,_⟩:=DataW.trod_int Tryz.underlying3 c0
 simp only[Prod.mk.injEq,DataW.lit.injEq,Lit.int.injEq,true_and]at hl0
 obtain rfl:=hl0.1
 have hf0:=func_of_trod (f0:=325) Tryz.underlying60 (by kernel_rfl) d0
 simp only[List.cons.injEq,and_true]at hn0
 rw[hn0]at a0
 rw[hf0]at b0
 obtain⟨a1,b1,c1,d1⟩:=hel 1 (by omega)
 have e1:=congrArg (λl=>l[1]?) hL
 simp[List.range_succ]at e1
 rw[<-e1.1]at c1
 rw[<-e1.2]at d1
 obtain⟨n1,hn1,hl1,_⟩:=DataW.trod_int Tryz.underlying3 c1
 simp only[Prod.mk.injEq,DataW.lit.injEq,Lit.int.injEq,true_and]at hl1
 obtain rfl:=hl1.1
 have hf1:=func_of_trod (f0:=326) Tryz.underlying60 (by kernel_rfl) d1
 simp only[List.cons.injEq,and_true]at hn1
 rw[hn1]at a1
 rw[hf1]at b1
 obtain⟨a2,b2,c2,d2⟩:=hel 2 (by omega)
 have e2:=congrArg (λl=>l[2]?) hL
 simp[List.range_succ]at e2
 rw[<-e2.1]at c2
 rw[<-e2.2]at d2
 obtain⟨n2,hn2,hl2,_⟩:=DataW.trod_int Tryz.underlying3 c2
 simp only[Prod.mk.injEq,DataW.lit.injEq,Lit.int.injEq,true_and]at hl2
 obtain rfl:=hl2.1
 have hf2:=func_of_trod (f0:=328) Tryz.underlying60 (by kernel_rfl) d2
 simp only[List.cons.injEq,and_true]at hn2
 rw[hn2]at a2
 rw[hf2]at b2
 obtain⟨a3,b3,c3,d3⟩:=hel 3 (by omega)
 have e3:=congrArg (λl=>l[3]?) hL
 simp[List.range_succ]at e3
 rw[<-e3.1]at c3
 rw[<-e3.2]at d3
 obtain⟨n3,hn3,hl3,_⟩:=DataW.trod_int Tryz.underlying3 c3
 simp only[Prod.mk.injEq,DataW.lit.injEq,Lit.int.injEq,true_and]at hl3
 obtain rfl:=hl3.1
 have hf3:=func_of_trod (f0:=329) Tryz.underlying60 (by kernel_rfl) d3
 simp only[List.cons.injEq,and_true]at hn3
 rw[hn3]at a3
 rw[hf3]at b3
 obtain⟨a4,b4,c4,d4⟩:=hel 4 (by omega)
 have e4:=congrArg (λl=>l[4]?) hL
 simp[List.range_succ]at e4
 rw[<-e4.1]at c4
 rw[<-e4.2]at d4
 obtain⟨n4,hn4,hl4,_⟩:=DataW.trod_int Tryz.underlying3 c4
 simp only[Prod.mk.injEq,DataW.lit.injEq,Lit.int.injEq,true_and]at hl4
 obtain rfl:=hl4.1
 have JL:=func_of_trod (f0:=332) Tryz.underlying60 (by kernel_rfl) d4
 simp only[List.cons.injEq,and_true]at hn4
 rw[hn4]at a4
 rw[JL]at b4
 obtain⟨b,off,spot⟩:=a
 have hspot:spot=none:=by simpa[Addr.add]using World.cell?_spot a0
 subst hspot
 simp only[Gp]at a0 b0 a1 b1 a2 b2 a3 b3 a4 b4
 have hvar:=World.var?_cell hg hv 0
 rw[Array.eq_one_of_toList hcs]at hvar
 exact⟨b,off,cap,⟨Qo,by simpa using hvar,a0,b0,a1,b1,a2,b2,a3,b3,a4,b4⟩⟩
theorem sF {H:Type}{enc:TypeId×Value->H}{P:Program}{w:World}{base:Nat}{sp:Nat->Bool}{held:Bool}{fuel:Nat}{t:TypeId}{ms:Array (String×TypeId)}{cs:List Value}{nm:String}{d:DataW H}{p:List MemPlace}
 (ht:P.underlying t=some (.interface ms)) (h:DataW.trod enc P w base sp held fuel t cs=some (.iface nm d,p)):∃te v,cs=[.iface te v]:=by
 cases fuel with
 |zero=>simp[DataW.trod]at h
 |succ n=>
  unfold DataW.trod at h
  rw[ht]at h
  split at h<;>simp_all
theorem nu {P:Program}{l:List (String×DataW Unit)}{w:World}(h:laidMetH P l w){n:String}{d:DataW Unit}(hx:(n,d)∈l)(hd:d.handleName?.isNone=true):Lib.VarReads P w n d:=by
 have hm:(n,d)∈l.filter λx=>x.2.handleName?.isNone:=List.mem_filter.2 ⟨hx,hd⟩
 unfold laidMetH at h
 generalize (l.filter λx=>x.2.handleName?.isSome)=fl at h
 cases fl with
 |nil=>exact Lib.laidMet.reads h hx
 |cons a tl=>exact Lib.laidMet.reads h.1 hm
theorem Io {l:List (String×DataW Unit)}{W:World}(h:laidMetH Tryz.prog l W){n:String}{g:Nat}{s:List UInt8}(hg:Tryz.prog.globalNamed n=some g)(ht:(Tryz.prog.globals[g]?).map (·.type)=some 139)
 (hx:(n,(.iface "*errors.errorString" (.ptr (.agg [.lit (.string s)])):DataW Unit))∈l):∃te pe,W.cell? ⟨g,0,none⟩=some (.iface te pe):=by
 obtain⟨g',t',cs,fuel,p,hg',ht',hv,hd⟩:=nu h hx rfl
 obtain rfl:=Option.some.inj (hg.symm.trans hg')
 obtain rfl:=Option.some.inj (ht.symm.trans ht')
 obtain⟨te,v,hcs⟩:=sF Tryz.underlying139 hd
 have hvar:=World.var?_cell hg hv 0
 rw[Array.eq_one_of_toList hcs]at hvar
 exact⟨te,v,by simpa using hvar⟩
theorem BG:Tryz.prog.cellsOf 258=2:=by kernel_rfl
def nQ (f:Nat)(nm:UInt8×List UInt8):Prop:=((List.range Tryz.prog.funcs.size).filter λg=>(Tryz.prog.funcs[g]?).any (·.name.toUTF8.data.toList==nm.1::nm.2))=[f]
theorem zJ {W:World}{fuel:Nat}{cs:List Value}{p:List MemPlace}(rows:List (Nat×Nat×(UInt8×List UInt8)))(hone:∀x∈rows,nQ x.2.1 x.2.2)(hr:rows≠[])
 (h:DataW.trod (funcToken Tryz.prog) Tryz.prog W 0 (λ_=>true) true fuel 220 cs=some (.slice (rows.map λx=>.agg [.lit (.int .i64 x.1),.held (x.2.2.1::x.2.2.2)]) [],p)):
 ∃sb so sc,cs=[.slice (some ⟨sb,so,none⟩) rows.length sc]/\dW W sb so (rows.map λx=>(x.1,x.2.1)):=by
 rcases Go.Deep.open_slice_pairs Tryz.underlying220 Tryz.underlying258 BG rfl rfl (by kernel_rfl) (by kernel_rfl) h with⟨_,hx⟩|⟨a,len,cap,mm,n,V0,V1,D0,D1,P0,P1,hcs,_,hlc,_,hmm,hx,hel⟩
 ·simp at hx
 simp only[Prod.mk.injEq,DataW.slice.injEq]at hx
 obtain⟨⟨hL,_⟩,_⟩:=hx
 have hlen:len=rows.length:=by have:=congrArg List.length hL;simpa using this.symm
 subst hlen
 have hm5:rows.length<=mm:=by rw[hmm];split<;>omega
 obtain⟨b,off,spot⟩:=a
 have key:∀(j:Nat) (x:Nat×Nat×(UInt8×List UInt8)),rows[j]? =some x->W.cell? ((⟨b,off,spot⟩:Addr).add (j*2))=some (.int .i64 (x.1:Int))/\W.cell? ((⟨b,off,spot⟩:Addr).add (j*2+1))=some (.func (.func x.2.1) #[] #[]):=by
  intro j x hj
  have hjl:j<rows.length:=(List.getElem?_eq_some_iff.1 hj).1
  obtain⟨a0,b0,c0,d0⟩:=hel j (by omega)
  have e0:=congrArg (λl=>l[j]?) hL
  simp only[List.getElem?_map,hj,Option.map_some,List.getElem?_range hjl,Option.some.injEq,DataW.agg.injEq,List.cons.injEq,and_true]at e0
  rw[<-e0.1]at c0
  rw[<-e0.2]at d0
  obtain⟨n0,hn0,hl0,_⟩:=DataW.trod_int Tryz.underlying3 c0
  simp only[Prod.mk.injEq,DataW.lit.injEq,Lit.int.injEq,true_and]at hl0
  have hf0:=func_of_trod (f0:=x.2.1) Tryz.underlying256 (hone x (List.mem_iff_getElem?.2 ⟨j,hj⟩)) d0
  simp only[List.cons.injEq,and_true]at hn0
  rw[hn0,<-hl0.1]at a0
  rw[hf0]at b0
  exact⟨a0,b0⟩
 obtain⟨x,rest,rfl⟩:=List.exists_cons_of_ne_nil hr
 have hspot:spot=none:=by simpa[Addr.add]using World.cell?_spot (key 0 x rfl).1
 subst hspot
 refine⟨b,off,cap,hcs,λj y hy=>?_⟩
 rw[List.getElem?_map,Option.map_eq_some_iff]at hy
 obtain⟨z,hz,rfl⟩:=hy
 have:=key j z hz
 rwa [Gp,Gp]at this
theorem Un:Tryz.prog.cellsOf 3=1:=by kernel_rfl
theorem id_cs:Tryz.prog.cellsOf 220=1:=by kernel_rfl
theorem id_cf:Tryz.prog.cellsOf 155=1:=by kernel_rfl
theorem Ux:Tryz.prog.cellsOf 222=4:=by kernel_rfl
theorem DC {W:World}{fuel:Nat}{cs:List Value}{p:List MemPlace}(low body:Int)(rows:List (Nat×Nat×(UInt8×List UInt8)))(hone:∀x∈rows,nQ x.2.1 x.2.2)(hr:rows≠[])(cd:DataW (List UInt8))(chk:Value)
 (um:∀fuel v p,DataW.trod (funcToken Tryz.prog) Tryz.prog W 0 (λ_=>true) true fuel 155 [v]=some (cd,p)->v=chk)
 (h:DataW.trod (funcToken Tryz.prog) Tryz.prog W 0 (λ_=>true) true fuel 222 cs=some (.agg [.lit (.int .i64 low),.slice (rows.map λx=>.agg [.lit (.int .i64 x.1),.held (x.2.2.1::x.2.2.2)]) [],.lit (.int .i64 body),cd],p)):
 ∃sb so sc,cs=[.int .i64 low,.slice (some ⟨sb,so,none⟩) rows.length sc,.int .i64 body,chk]/\dW W sb so (rows.map λx=>(x.1,x.2.1)):=by
 obtain⟨xs,n,rfl,hx,hl,hxl,hall⟩:=DataW.trod_struct Tryz.underlying222 h
 rw[Ux]at hl
 simp only[Prod.mk.injEq,DataW.agg.injEq]at hx
 obtain⟨hx,_⟩:=hx
 match xs,hx,cs,hl with
 |[y0,y1,y2,y3],hx,[v0,v1,v2,v3],_=>
  simp only[List.map_cons,List.map_nil,List.cons.injEq,and_true]at hx
  obtain⟨h0,h1,h2,h3⟩:=hx
  have g0:DataW.trod (funcToken Tryz.prog) Tryz.prog W 0 (λ_=>true) true n 3 (([v0,v1,v2,v3].drop 0).take (Tryz.prog.cellsOf 3))=some y0:=hall 0 _ rfl
  rw[Un]at g0
  have g1:DataW.trod (funcToken Tryz.prog) Tryz.prog W 0 (λ_=>true) true n 220 (([v0,v1,v2,v3].drop 1).take (Tryz.prog.cellsOf 220))=some y1:=hall 1 _ rfl
  rw[id_cs]at g1
  have g2:DataW.trod (funcToken Tryz.prog) Tryz.prog W 0 (λ_=>true) true n 3 (([v0,v1,v2,v3].drop 2).take (Tryz.prog.cellsOf 3))=some y2:=hall 2 _ rfl
  rw[Un]at g2
  have g3:DataW.trod (funcToken Tryz.prog) Tryz.prog W 0 (λ_=>true) true n 155 (([v0,v1,v2,v3].drop 3).take (Tryz.prog.cellsOf 155))=some y3:=hall 3 _ rfl
  rw[id_cf]at g3
  change DataW.trod _ _ _ _ _ _ n 3 [v0]=some y0 at g0
  change DataW.trod _ _ _ _ _ _ n 220 [v1]=some y1 at g1
  change DataW.trod _ _ _ _ _ _ n 3 [v2]=some y2 at g2
  change DataW.trod _ _ _ _ _ _ n 155 [v3]=some y3 at g3
  obtain⟨a0,b0⟩:=y0
  obtain⟨a1,b1⟩:=y1
  obtain⟨a2,b2⟩:=y2
  obtain⟨a3,b3⟩:=y3
  simp only at h0 h1 h2 h3
  subst h0 h1 h2 h3
  obtain⟨z0,e0,l0,_⟩:=DataW.trod_int Tryz.underlying3 g0
  obtain⟨z2,e2,l2,_⟩:=DataW.trod_int Tryz.underlying3 g2
  simp only[Prod.mk.injEq,DataW.lit.injEq,Lit.int.injEq,true_and,List.cons.injEq,and_true]at l0 l2 e0 e2
  obtain⟨sb,so,sc,e1,hsp⟩:=zJ rows hone hr g1
  simp only[List.cons.injEq,and_true]at e1
  have e3:=um _ _ _ g3
  refine⟨sb,so,sc,?_,hsp⟩
  rw[e0,e1,e2,e3,<-l0.1,<-l2.1]
theorem LP:Tryz.prog.globalNamed "giro/ident.kinds"=some 4:=by kernel_rfl
theorem KH:(Tryz.prog.globals[4]?).map (·.type)=some 223:=by kernel_rfl
def qC:UInt8×List UInt8:=(103,[105,114,111,47,105,100,101,110,116,46,108,101,116,116,101,114])
def oF:UInt8×List UInt8:=(103,[105,114,111,47,105,100,101,110,116,46,97,108,112,104,97,110,117,109,101,114,105,99])
def sM:UInt8×List UInt8:=(103,[105,114,111,47,105,100,101,110,116,46,100,105,103,105,116])
def IX:UInt8×List UInt8:=(103,[105,114,111,47,105,100,101,110,116,46,114,101,102,67,104,97,114,97,99,116,101,114])
theorem qo:nQ 340 qC:=by unfold nQ;kernel_rfl
theorem mO:nQ 341 oF:=by unfold nQ;kernel_rfl
theorem uU:nQ 342 sM:=by unfold nQ;kernel_rfl
theorem Kk:nQ 344 IX:=by unfold nQ;kernel_rfl
def jU (k:Nat):List (Nat×Nat×(UInt8×List UInt8)):=
 if k=0 then[(2,340,qC),(9,341,oF),(1,342,sM)]
 else if k=1 then[(1,340,qC),(7,341,oF)]
 else if k=2 then[(16,344,IX)]
 else[(18,341,oF),(2,342,sM)]
theorem IA (k:Nat):∀x∈jU k,nQ x.2.1 x.2.2:=by
 unfold jU
 split
 ·intro x hx;simp at hx;rcases hx with rfl|rfl|rfl
  ·exact qo
  ·exact mO
  ·exact uU
 ·split
  ·intro x hx;simp at hx;rcases hx with rfl|rfl
   ·exact qo
   ·exact mO
  ·split
   ·intro x hx;simp at hx;subst hx
    exact Kk
   ·intro x hx;simp at hx;rcases hx with rfl|rfl
    ·exact mO
    ·exact uU
theorem Kj (k:Nat):jU k≠[]:=by
 unfold jU
 split
 ·simp
 ·split
  ·simp
  ·split<;>simp
theorem zV (k:Nat):(jU k).map (λx=>(x.1,x.2.1))=(aR k).sp:=by
 unfold jU aR
 split
 ·rfl
 ·split
  ·rfl
  ·split<;>rfl
theorem mI {W:World}{fuel:Nat}{v:Value}{p:List MemPlace}(h:DataW.trod (funcToken Tryz.prog) Tryz.prog W 0 (λ_=>true) true fuel 155 [v]=some (.nil,p)):v=.nilFunc:=by
 cases fuel with
 |zero=>simp[DataW.trod]at h
 |succ n=>
  unfold DataW.trod at h
  rw[ww]at h
  split at h<;>simp_all
theorem Q4 {W:World}{g:Nat}{cs:Array Value}(hg:g=4)(hcell:∀i,W.cell? ⟨g,i,none⟩=cs[i]?)(k:Nat)
 (h:∃sb so sc,(cs.toList.drop (k*4)).take 4=[.int .i64 (aR k).low,.slice (some ⟨sb,so,none⟩) (jU k).length sc,.int .i64 (aR k).body,(aR k).chk]/\dW W sb so ((jU k).map λx=>(x.1,x.2.1))):
 ∃sb so sc,OV W k sb so sc:=by
 subst hg
 obtain⟨sb,so,sc,hl,hsp⟩:=h
 have at':∀j v,j<4->((cs.toList.drop (k*4)).take 4)[j]? =some v->W.cell? ⟨4,k*4+j,none⟩=some v:=λj v hj hv=>by
  rw[hcell,<-Array.getElem?_toList,<-List.getElem?_drop,<-hv,List.getElem?_take,if_pos hj]
 rw[zV]at hsp
 have hlen:(jU k).length=(aR k).sp.length:=by rw[<-zV,List.length_map]
 rw[hlen]at hl
 refine⟨sb,so,sc,⟨?_,?_,?_,?_,hsp⟩⟩
 ·exact at' 0 _ (by omega) (by rw[hl];rfl)
 ·exact at' 1 _ (by omega) (by rw[hl];rfl)
 ·exact at' 2 _ (by omega) (by rw[hl];rfl)
 ·exact at' 3 _ (by omega) (by rw[hl];rfl)
def kY (k:Nat)(cd:DataW (List UInt8)):DataW (List UInt8):=
 .agg [.lit (.int .i64 (aR k).low),.slice ((jU k).map λx=>.agg [.lit (.int .i64 x.1),.held (x.2.2.1::x.2.2.2)]) [],.lit (.int .i64 (aR k).body),cd]
def Ha (k:Nat):DataW (List UInt8):=
 if k=0 then .held [103,105,114,111,47,105,100,101,110,116,46,108,117,104,110]else if k=3 then .held [103,105,114,111,47,105,100,101,110,116,46,109,111,100,57,55]else .nil
theorem Kc {W:World}(k:Nat)(hk:k<4)(fuel:Nat)(v:Value)(p:List MemPlace)(h:DataW.trod (funcToken Tryz.prog) Tryz.prog W 0 (λ_=>true) true fuel 155 [v]=some (Ha k,p)):v=(aR k).chk:=by
 match k,hk with
 |0,_=>exact func_of_trod (f0:=343) ww (by kernel_rfl) h
 |1,_=>exact mI h
 |2,_=>exact mI h
 |3,_=>exact func_of_trod (f0:=345) ww (by kernel_rfl) h
theorem vk {l:List (String×DataW Unit)}{W:World}(h:laidMetH Tryz.prog l W)(hm:("giro/ident.kinds",(Rows.laid_giro_ident_kinds:DataW Unit))∈l):kK W:=by
 obtain⟨g,t,cs,fuel,p,hg,ht,hv,hd⟩:=h.funcs hm
 obtain rfl:=Option.some.inj (LP.symm.trans hg)
 obtain rfl:=Option.some.inj (KH.symm.trans ht)
 have hd':DataW.trod (funcToken Tryz.prog) Tryz.prog W 0 (λ_=>true) true fuel 223 cs.toList=some (.agg [kY 0 (Ha 0),kY 1 (Ha 1),kY 2 (Ha 2),kY 3 (Ha 3)],p):=hd
 obtain⟨xs,m,_,hx,_,hxl,hall⟩:=DataW.trod_array Tryz.underlying223 hd'
 simp only[Prod.mk.injEq,DataW.agg.injEq]at hx
 obtain⟨hx,_⟩:=hx
 intro k hk
 refine Q4 rfl (World.var?_cell hg hv) k ?_
 have hrow:=hall k hk
 rw[Ux]at hrow
 have hxk:(xs.map (·.1))[k]? =some (kY k (Ha k)):=by
  rw[<-hx]
  match k,hk with
  |0,_=>rfl
  |1,_=>rfl
  |2,_=>rfl
  |3,_=>rfl
 rw[List.getElem?_map,Option.map_eq_some_iff]at hxk
 obtain⟨⟨d,q⟩,hq,Np⟩:=hxk
 simp only at Np
 subst Np
 rw[hq]at hrow
 exact DC _ _ (jU k) (IA k) (Kj k) (Ha k) (aR k).chk (λfuel v p=>Kc k hk fuel v p) hrow
theorem KY:Tryz.prog.globalNamed "giro/message.priorityNames"=some 3:=by kernel_rfl
theorem KC:(Tryz.prog.globals[3]?).map (·.type)=some 216:=by kernel_rfl
theorem QN:Tryz.prog.cellsOf 9=1:=by kernel_rfl
theorem Ld:Tryz.prog.globalNamed "strconv.ErrRange"=some 12:=by kernel_rfl
theorem Lh:(Tryz.prog.globals[12]?).map (·.type)=some 139:=by kernel_rfl
theorem IC:Tryz.prog.globalNamed "strconv.ErrSyntax"=some 11:=by kernel_rfl
theorem Gz:(Tryz.prog.globals[11]?).map (·.type)=some 139:=by kernel_rfl
theorem mF {l:List (String×DataW Unit)}{W:World}(h:laidMetH Tryz.prog l W)(hx:("giro/message.priorityNames",(Rows.laid_giro_message_priorityNames:DataW Unit))∈l):uW W:=by
 obtain⟨g',t',cs,fuel,p,hg',ht',hv,hd⟩:=nu h hx rfl
 obtain rfl:=Option.some.inj (KY.symm.trans hg')
 obtain rfl:=Option.some.inj (KC.symm.trans ht')
 have hd':DataW.trod _ Tryz.prog W 0 (λ_=>true) false fuel 216 cs.toList=some (.agg [.lit (.string [110,111,114,109,97,108]),.lit (.string [104,105,103,104]),.lit (.string [117,114,103,101,110,116])],p):=hd
 obtain⟨xs,m,_,hx,_,hxl,hall⟩:=DataW.trod_array Tryz.underlying216 hd'
 simp only[Prod.mk.injEq,DataW.agg.injEq]at hx
 obtain⟨hx,_⟩:=hx
 intro j s hj
 have CU:j<3:=by have:=(List.getElem?_eq_some_iff.1 hj).1;simpa[prN]using this
 have hrow:=hall j CU
 rw[QN,Nat.mul_one]at hrow
 have hxk:(xs.map (·.1))[j]? =some (.lit (.string s.data.toList)):=by
  rw[<-hx]
  match j,CU,hj with
  |0,_,hj=>cases hj;rfl
  |1,_,hj=>cases hj;rfl
  |2,_,hj=>cases hj;rfl
 rw[List.getElem?_map,Option.map_eq_some_iff]at hxk
 obtain⟨⟨d,q⟩,hq,Np⟩:=hxk
 simp only at Np
 subst Np
 rw[hq]at hrow
 obtain⟨s',hs',hx',_⟩:=DataW.trod_string Tryz.underlying9 hrow
 simp only[Prod.mk.injEq,DataW.lit.injEq,Lit.string.injEq]at hx'
 have hss:s=s':=by
  have:=hx'.1
  obtain⟨⟨a⟩⟩:=s
  obtain⟨⟨b⟩⟩:=s'
  have:a=b:=this
  rw[this]
 subst hss
 rw[World.var?_cell hg' hv,<-Array.getElem?_toList]
 have:((cs.toList.drop j).take 1)[0]? =some (.string s):=by rw[hs'];rfl
 rw[List.getElem?_take,if_pos (by omega),List.getElem?_drop,Nat.add_zero]at this
 exact this
theorem DW {W w:World}(h:uW W)(hb:Below W.heap.size W w):uW w:=λj s hj=>
 (hb.cell (World.block_lt_of_cell? W _ (h j s hj))).trans (h j s hj)
theorem xM {l:List (String×DataW Unit)}{W:World}(h:laidMetH Tryz.prog l W)(h1:("giro/lexer.kinds",(Rows.laid_giro_lexer_kinds:DataW Unit))∈l)(h2:("giro/ident.kinds",(Rows.laid_giro_ident_kinds:DataW Unit))∈l)(h3:("giro/message.priorityNames",(Rows.laid_giro_message_priorityNames:DataW Unit))∈l)
 (h4:("strconv.ErrRange",(Rows.laid_strconv_ErrRange:DataW Unit))∈l) (h5:("strconv.ErrSyntax",(Rows.laid_strconv_ErrSyntax:DataW Unit))∈l) (m:Int) (Qo:W.cell? ⟨5,0,none⟩=some (.int .i64 m)):∃kb ko kc,jg m kb ko kc W:=by
 obtain⟨kb,ko,kc,hl⟩:=wR h h1 m Qo
 exact⟨kb,ko,kc,hl,λw hw=>(vk h h2).below hw,λw hw=>DW (mF h h3) hw,Qo,Io h Ld Lh h4,Io h IC Gz h5⟩
open Go.ChangeShapes Go.WideShapes Go.RowKit
theorem NC {P:Program}{l:List (String×DataW Unit)}{w:World}(h:laidMetH P l w){n:String}{d:DataW Unit}(hx:(n,d)∈l)(hd:d.handleName?.isNone=true):Lib.VarReads P w n d:=by
 have hm:(n,d)∈l.filter λx=>x.2.handleName?.isNone:=List.mem_filter.2 ⟨hx,hd⟩
 unfold laidMetH at h
 generalize (l.filter λx=>x.2.handleName?.isSome)=fl at h
 cases fl with
 |nil=>exact Lib.laidMet.reads h hx
 |cons a tl=>exact Lib.laidMet.reads h.1 hm
theorem tb_g:Tryz.prog.globalNamed "internal/strconv.uint64pow10"=some 6:=by kernel_rfl
theorem tb_t:(Tryz.prog.globals[6]?).map (·.type)=some 284:=by kernel_rfl
theorem tb_c1:Tryz.prog.cellsOf 234=1:=by kernel_rfl
theorem tb_c20:Tryz.prog.cellsOf 284=20:=by kernel_rfl
theorem RA:(Rows.laid_internal_strconv_uint64pow10:DataW Unit)=Lib.tabData .u64 Lib.pow10Tab:=by kernel_rfl
theorem QB {l:List (String×DataW Unit)}{W:World}(h:laidMetH Tryz.prog l W)(hx:("internal/strconv.uint64pow10",(Rows.laid_internal_strconv_uint64pow10:DataW Unit))∈l):Lib.TabIs Tryz.prog W "internal/strconv.uint64pow10" .u64 Lib.pow10Tab:=by
 obtain⟨g',t',cs,fuel,p,hg',ht',hv,hd⟩:=NC h hx rfl
 obtain rfl:=Option.some.inj (tb_g.symm.trans hg')
 obtain rfl:=Option.some.inj (tb_t.symm.trans ht')
 rw[RA]at hd
 have hc:=Lib.cells_of_tab Tryz.underlying284 Tryz.underlying234 tb_c1 tb_c20 hd
 unfold Lib.TabIs
 rw[hv,<-hc]
theorem Pk {W W':World}{n:String}{k:IntKind}{zs:List Int}(h:Lib.TabIs Tryz.prog W n k zs)(hb:Below W.heap.size W W'):Lib.TabIs Tryz.prog W' n k zs:=by
 unfold Lib.TabIs World.var? at h⊢
 cases hg:Tryz.prog.globalNamed n with
 |none=>rw[hg]at h;simp at h
 |some g=>
  rw[hg]at h
  simp only[Option.bind_some]at h⊢
  have hlt:g<W.heap.size:=by
   rcases Nat.lt_or_ge g W.heap.size with h'|h'
   ·exact h'
   ·rw[Array.getElem?_eq_none h']at h;simp at h
  rw[hb.block g hlt]
  exact h
end Go.Proofs.YtnjjeapcalkmaaaGreatDoor
namespace Go.Proofs.YtnjjeapcalkmaaaGreatDoor.Lx
open Go
abbrev Bt:=List UInt8
theorem mf (c:UInt8):∀(p r:Bt),c∉p->Lib.index (p++c::r) [c]=p.length
 |[],r,_=>by
  show Lib.index (c::r) [c]=0
  rw[Lib.index];simp[List.isPrefixOf]
 |b::p,r,h=>by
  have hb:¬b=c:=λe=>h (by rw[e];exact List.mem_cons_self)
  have ih:=mf c p r λhm=>h (List.mem_cons_of_mem _ hm)
  have hp:([c]:Bt).isPrefixOf (b::(p++c::r))=false:=by simp[List.isPrefixOf,Ne.symm hb]
  have hm:((p.length:Int)== -1)=false:=by rw[beq_eq_false_iff_ne];omega
  rw[List.cons_append,Lib.index,hp,ih]
  simp[hm]
theorem pG (c:UInt8):∀l:Bt,c∉l->Lib.index l [c]= -1
 |[],_=>by simp[Lib.index]
 |b::l,h=>by
  have hb:¬b=c:=λe=>h (by rw[e];exact List.mem_cons_self)
  have ih:=pG c l λhm=>h (List.mem_cons_of_mem _ hm)
  have hp:([c]:Bt).isPrefixOf (b::l)=false:=by simp[List.isPrefixOf,Ne.symm hb]
  rw[Lib.index,hp,ih]
  simp
def pcs (c:UInt8)(l:Bt):List Bt:=Lib.splitK [c] 0 (l.count c) l
theorem EU (c:UInt8)(l:Bt)(h:c∉l):pcs c l=[l]:=by
 unfold pcs
 rw[List.count_eq_zero.2 h]
 rfl
theorem Ap (c:UInt8)(p r:Bt)(h:c∉p):pcs c (p++c::r)=p::pcs c r:=by
 unfold pcs
 rw[List.count_append,List.count_eq_zero.2 h,List.count_cons_self,Nat.zero_add]
 conv=>lhs;unfold Lib.splitK
 rw[mf c p r h]
 have hm:((p.length:Int)== -1)=false:=by rw[beq_eq_false_iff_ne];omega
 rw[hm]
 simp only[Bool.false_eq_true,if_false,Int.toNat_natCast,Nat.add_zero,List.take_left,List.length_singleton]
 congr 1
 rw[<-List.drop_drop,List.drop_left]
 rfl
theorem nz (c:UInt8)(l:Bt):(c∉l/\pcs c l=[l])\/∃p r,l=p++c::r/\c∉p/\pcs c l=p::pcs c r:=by
 by_cases h:c∈l
 ·obtain⟨p,r,rfl,hp⟩:=List.eq_append_cons_of_mem h
  exact .inr ⟨p,r,rfl,hp,Ap c p r hp⟩
 ·exact .inl ⟨h,EU c l h⟩
theorem pieces_eq (s:ByteArray):(pieces s).map (·.data.toList)=pcs 45 s.data.toList:=by
 unfold pieces pcs
 rw[Lib.splitB_data]
 congr 1
 exact Lib.count_one 45 _
def at_ (l:Bt)(i:Nat):Int:=((l.getD i 0).toNat:Int)
def PX (i:Nat)(c:Int):Bool:=if i=4\/i=7 then decide (c=45)else digit c
def kM (l:Bt):Bool:=decide (l.length=10)&&(List.range 10).all λi=>PX i (at_ l i)
theorem QL:∀l:Bt,l.length=10->∃a b c d e f g h i j,l=[a,b,c,d,e,f,g,h,i,j]
 |[a,b,c,d,e,f,g,h,i,j],_=>⟨a,b,c,d,e,f,g,h,i,j,rfl⟩
theorem NQ:∀l:Bt,l.length=2->∃a b,l=[a,b]
 |[a,b],_=>⟨a,b,rfl⟩
theorem list4:∀l:Bt,l.length=4->∃a b c d,l=[a,b,c,d]
 |[a,b,c,d],_=>⟨a,b,c,d,rfl⟩
theorem gm {c:UInt8}(h:digit (c.toNat:Int)=true):c≠45/\c≠46:=by
 constructor
 all_goals
  rintro rfl
  revert h
  decide
theorem Uq (c:UInt8):decide ((c.toNat:Int)=45)=true↔c=45:=by
 rw[decide_eq_true_iff]
 constructor
 ·intro h
  apply UInt8.toNat_inj.1
  have:c.toNat=45:=by omega
  rw[this];rfl
 ·rintro rfl;rfl
theorem u8_46 (c:UInt8):decide ((c.toNat:Int)=46)=true↔c=46:=by
 rw[decide_eq_true_iff]
 constructor
 ·intro h
  apply UInt8.toNat_inj.1
  have:c.toNat=46:=by omega
  rw[this];rfl
 ·rintro rfl;rfl
theorem nZ (a b c d e f g h i j:UInt8):kM [a,b,c,d,e,f,g,h,i,j]=true↔digit a.toNat=true/\digit b.toNat=true/\digit c.toNat=true/\digit d.toNat=true/\e=45/\digit f.toNat=true/\digit g.toNat=true/\h=45/\digit i.toNat=true/\digit j.toNat=true:=by
 unfold kM
 have:(List.range 10)=[0,1,2,3,4,5,6,7,8,9]:=rfl
 rw[this]
 simp only[List.all_cons,List.all_nil,Bool.and_true,Bool.and_eq_true]
 rw[<-Uq e,<-Uq h]
 simp only[PX,at_]
 simp
theorem SK (s:ByteArray):date s=(decide (s.data.toList.length=10)&&decide ((pcs 45 s.data.toList).length=3)&&decide (((pcs 45 s.data.toList)[0]?.map List.length).getD 0=4)&&decide (((pcs 45 s.data.toList)[1]?.map List.length).getD 0=2)&&(pcs 45 s.data.toList).all λp=>all digit p):=by
 unfold date
 have hz:∀x:ByteArray,x.data.toList.length=x.size:=by rintro⟨⟨l⟩⟩;rfl
 rw[<-pieces_eq,List.length_map,List.getElem?_map,List.getElem?_map,List.all_map,Option.map_map,Option.map_map,hz]
 have hf:(List.length∘λx:ByteArray=>x.data.toList)=λx=>x.size:=funext hz
 rw[hf]
 rfl
theorem qJ (s:ByteArray):date s=kM s.data.toList:=by
 rw[SK]
 obtain⟨l,hl⟩:∃l,l=s.data.toList:=⟨_,rfl⟩
 rw[<-hl]
 clear hl
 rw[Bool.eq_iff_iff]
 constructor
 ·intro h
  simp only[Bool.and_eq_true,decide_eq_true_eq]at h
  obtain⟨⟨⟨⟨h1,h2⟩,h3⟩,h4⟩,h5⟩:=h
  rcases nz 45 l with⟨_,e⟩|⟨p,r,rfl,hp,e⟩
  ·rw[e]at h2;simp at h2
  rw[e]at h2 h3 h4 h5
  rcases nz 45 r with⟨_,e⟩|⟨q,r,rfl,hq,e⟩
  ·rw[e]at h2;simp at h2
  rw[e]at h2 h4 h5
  rcases nz 45 r with⟨_,e⟩|⟨q2,r2,rfl,hq2,e⟩
  ·rw[e]at h5
   have h3:p.length=4:=by simpa using h3
   have h4:q.length=2:=by simpa using h4
   have hr:r.length=2:=by
    simp only[List.length_append,List.length_cons]at h1;omega
   obtain⟨a,b,c,d,rfl⟩:=list4 p h3
   obtain⟨f,g,rfl⟩:=NQ q h4
   obtain⟨i,j,rfl⟩:=NQ r hr
   show kM [a,b,c,d,45,f,g,45,i,j]=true
   rw[nZ]
   simp[all]at h5
   simp[h5]
  ·exfalso
   rw[e]at h2
   simp only[List.length_cons]at h2
   have:0<(pcs 45 r2).length:=by
    rcases nz 45 r2 with⟨_,e⟩|⟨_,_,_,_,e⟩<;>rw[e]<;>simp
   omega
 ·intro h
  have h1:l.length=10:=by
   unfold kM at h
   simp only[Bool.and_eq_true,decide_eq_true_eq]at h
   exact h.1
  obtain⟨a,b,c,d,e,f,g,h',i,j,rfl⟩:=QL l h1
  rw[nZ]at h
  obtain⟨x0,x1,x2,x3,rfl,x5,x6,rfl,x8,x9⟩:=h
  have e1:pcs 45 [a,b,c,d,45,f,g,45,i,j]=[[a,b,c,d],[f,g],[i,j]]:=by
   rw[show([a,b,c,d,45,f,g,45,i,j]:Bt)=[a,b,c,d]++45::([f,g]++45::[i,j])from rfl]
   rw[Ap,Ap,EU]
   ·simp[Ne.symm (gm x8).1,Ne.symm (gm x9).1]
   ·simp[Ne.symm (gm x5).1,Ne.symm (gm x6).1]
   ·simp[Ne.symm (gm x0).1,Ne.symm (gm x1).1,Ne.symm (gm x2).1,Ne.symm (gm x3).1]
  rw[e1]
  simp[all,x0,x1,x2,x3,x5,x6,x8,x9]
def OA (t:Bt):Bool:=decide (4<=t.length)&&decide (at_ t (t.length-3)=46)&&digit (at_ t (t.length-1))&&digit (at_ t (t.length-2))&&whole (t.take (t.length-3))
def fV (l:Bt):Bt:=if l.head? =some 45 then l.drop 1 else l
def mW (l:Bt):Bool:=!(l==[45,48,46,48,48])&&OA (fV l)
theorem JI (l:Bt):Lib.trimPrefix l [45]=fV l:=by
 unfold Lib.trimPrefix fV Lib.hasPrefix
 cases l with
 |nil=>rfl
 |cons c l=>by_cases h:c=45
            ·subst h;simp[List.isPrefixOf]
            ·simp[List.isPrefixOf,h,Ne.symm h]
theorem lC {l:Bt}(h:whole l=true):∀c∈l,digit (c.toNat:Int)=true:=by
 unfold whole all at h
 simp only[Bool.and_eq_true,List.all_eq_true]at h
 exact h.1.2
theorem vO (p r:Bt)(h:(46:UInt8)∉p):Lib.cut (p++46::r) [46]=(p,r,true):=by
 unfold Lib.cut
 rw[mf 46 p r h,if_pos (by omega)]
 simp only[Int.toNat_natCast,List.take_left,List.length_singleton]
 congr 2
 rw[<-List.drop_drop,List.drop_left]
 rfl
theorem Ot (t:Bt):((Lib.cut t [46]).2.2&&whole (Lib.cut t [46]).1&&decide ((Lib.cut t [46]).2.1.length=2)&&all digit (Lib.cut t [46]).2.1)=OA t:=by
 rw[Bool.eq_iff_iff]
 constructor
 ·intro h
  by_cases hm:(46:UInt8)∈t
  ·obtain⟨p,r,rfl,hp⟩:=List.eq_append_cons_of_mem hm
   rw[vO p r hp]at h
   simp only[Bool.and_eq_true,decide_eq_true_eq,Bool.true_and]at h
   obtain⟨⟨h1,h2⟩,h3⟩:=h
   obtain⟨x,y,rfl⟩:=NQ r h2
   have hpl:0<p.length:=by
    cases p with
    |nil=>simp[whole,all]at h1
    |cons _ _=>simp
   have hn:(p++[46,x,y]).length=p.length+3:=by simp
   unfold OA
   rw[hn,show p.length+3-3=p.length from by omega,show p.length+3-1=p.length+2 from by omega,show p.length+3-2=p.length+1 from by omega,List.take_left,h1]
   have a0:at_ (p++[46,x,y]) p.length=46:=by unfold at_;rw[List.getD_eq_getElem?_getD,List.getElem?_append_right (Nat.le_refl _),Nat.sub_self];rfl
   have a1:at_ (p++[46,x,y]) (p.length+1)=x.toNat:=by unfold at_;rw[List.getD_eq_getElem?_getD,List.getElem?_append_right (by omega),Nat.add_sub_cancel_left];rfl
   have a2:at_ (p++[46,x,y]) (p.length+2)=y.toNat:=by unfold at_;rw[List.getD_eq_getElem?_getD,List.getElem?_append_right (by omega),Nat.add_sub_cancel_left];rfl
   rw[a0,a1,a2]
   simp[all]at h3
   simp[h3]
   omega
  ·unfold Lib.cut at h
   rw[pG 46 t hm]at h
   simp at h
 ·intro h
  unfold OA at h
  simp only[Bool.and_eq_true,decide_eq_true_eq]at h
  obtain⟨⟨⟨⟨h0,h1⟩,h2⟩,h3⟩,h4⟩:=h
  obtain⟨p,hp⟩:∃p,p=t.take (t.length-3):=⟨_,rfl⟩
  obtain⟨z,x,y,hr⟩:∃z x y,t.drop (t.length-3)=[z,x,y]:=by
   have:(t.drop (t.length-3)).length=3:=by rw[List.length_drop];omega
   match t.drop (t.length-3),this with
   |[z,x,y],_=>exact⟨z,x,y,rfl⟩
  have ht:t=p++[z,x,y]:=by rw[hp,<-hr,List.take_append_drop]
  have hpl:p.length=t.length-3:=by rw[hp,List.length_take];omega
  rw[<-hp]at h4
  have a0:at_ t (t.length-3)=z.toNat:=by unfold at_;rw[<-hpl,ht,List.getD_eq_getElem?_getD,List.getElem?_append_right (by omega),Nat.sub_self];rfl
  have a1:at_ t (t.length-2)=x.toNat:=by unfold at_;rw[show t.length-2=p.length+1 from by omega,ht,List.getD_eq_getElem?_getD,List.getElem?_append_right (by omega),Nat.add_sub_cancel_left];rfl
  have a2:at_ t (t.length-1)=y.toNat:=by unfold at_;rw[show t.length-1=p.length+2 from by omega,ht,List.getD_eq_getElem?_getD,List.getElem?_append_right (by omega),Nat.add_sub_cancel_left];rfl
  rw[a0]at h1
  rw[a1]at h3
  rw[a2]at h2
  have hz:z=46:=(u8_46 z).1 (by simp[h1])
  subst hz
  have hn:(46:UInt8)∉p:=λhm=>(gm (lC h4 _ hm)).2 rfl
  rw[ht,show p++[46,x,y]=p++46::[x,y]from rfl,vO p _ hn]
  simp[h4,all,h2,h3]
theorem xx (l:Bt):decimal l=mW l:=by
 unfold decimal mW
 rw[JI,Ot,Bool.and_comm]
def QS (l:Bt):Int×Int:=
 if 32<l.length then(0,5)else if kM l then(4,0)else if whole l&&decide (l.length<=16)then(2,0)else if mW l then(3,0)
 else if all named l then(1,0)else if all lower l then(0,0)else(0,30)
theorem Di (s:ByteArray):aD s=QS s.data.toList:=by
 have hl:s.data.toList.length=s.size:=by obtain⟨⟨l⟩⟩:=s;rfl
 unfold aD QS
 rw[qJ,xx,hl]
theorem yO (s:ByteArray)(h:(aD s).2=0):(s.data.toList.all λc=>c !=35)=true:=by
 rw[Di]at h
 obtain⟨l,hl⟩:∃l,l=s.data.toList:=⟨_,rfl⟩
 rw[<-hl]at h⊢
 rw[List.all_eq_true]
 intro c hc
 rw[bne_iff_ne]
 rintro rfl
 unfold QS at h
 split at h
 ·cases h
 split at h
 ·rename_i hd
  have h1:l.length=10:=by
   unfold kM at hd
   simp only[Bool.and_eq_true,decide_eq_true_eq]at hd
   exact hd.1
  obtain⟨a,b,c,d,e,f,g,h',i,j,rfl⟩:=QL l h1
  rw[nZ]at hd
  obtain⟨x0,x1,x2,x3,rfl,x5,x6,rfl,x8,x9⟩:=hd
  have k:∀c:UInt8,digit (c.toNat:Int)=true->(35:UInt8)≠c:=by
   rintro c hc rfl
   revert hc;decide
  simp[k _ x0,k _ x1,k _ x2,k _ x3,k _ x5,k _ x6,k _ x8,k _ x9]at hc
 split at h
 ·rename_i hd
  rw[Bool.and_eq_true]at hd
  have:=lC hd.1 _ hc
  revert this;decide
 split at h
 ·rename_i hd
  unfold mW at hd
  rw[Bool.and_eq_true]at hd
  have hr:=hd.2
  have hm:(35:UInt8)∈fV l:=by
   unfold fV
   split
   ·rename_i hh
    cases l with
    |nil=>cases hh
    |cons x l=>
     obtain rfl:x=45:=by simpa using hh
     rcases List.mem_cons.1 hc with h|h
     ·cases h
     ·exact h
   ·exact hc
  rw[<-Ot]at hr
  by_cases hn:(46:UInt8)∈fV l
  ·obtain⟨p,r,he,hp⟩:=List.eq_append_cons_of_mem hn
   rw[he,vO p r hp]at hr
   rw[he]at hm
   simp only[Bool.and_eq_true,decide_eq_true_eq,Bool.true_and]at hr
   obtain⟨⟨h1,h2⟩,h3⟩:=hr
   rcases List.mem_append.1 hm with hm|hm
   ·have:=lC h1 _ hm
    revert this;decide
   ·rcases List.mem_cons.1 hm with hm|hm
    ·cases hm
    ·unfold all at h3
     rw[Bool.and_eq_true,List.all_eq_true]at h3
     have:=h3.2 _ hm
     revert this;decide
  ·unfold Lib.cut at hr
   rw[pG 46 _ hn]at hr
   simp at hr
 split at h
 ·rename_i hd
  unfold all at hd
  rw[Bool.and_eq_true,List.all_eq_true]at hd
  have:=hd.2 _ hc
  revert this;decide
 split at h
 ·rename_i hd
  unfold all at hd
  rw[Bool.and_eq_true,List.all_eq_true]at hd
  have:=hd.2 _ hc
  revert this;decide
 ·cases h
end Go.Proofs.YtnjjeapcalkmaaaGreatDoor.Lx
namespace Go.Proofs.YtnjjeapcalkmaaaGreatDoor.Ps
open Go
abbrev Dg:=List UInt8
def Gf (l:Dg):Prop:=∀c∈l,48<=c.toNat/\c.toNat<=57
def pu:Nat->Dg->Nat
 |acc,[]=>acc
 |acc,c::l=>pu (acc*10+(c.toNat-48)) l
theorem Ir:∀(l:Dg) (acc:Nat),acc<=pu acc l
 |[],acc=>Nat.le_refl _
 |c::l,acc=>by
  have:=Ir l (acc*10+(c.toNat-48))
  unfold pu
  omega
theorem ve:∀(l:Dg) (acc:Nat),Gf l->(pu acc l<=100000000000000000->Lib.parseUintM (2^64-1) acc l=.ok (pu acc l))/\(∀u,Lib.parseUintM (2^64-1) acc l=.ok u->u=pu acc l)
 |[],acc,_=>⟨λ_=>rfl,λu h=>by cases h;rfl⟩
 |c::l,acc,hd=>by
  have hc:=hd c List.mem_cons_self
  have ih:=ve l (acc*10+(c.toNat-48)) λx hx=>hd x (List.mem_cons_of_mem _ hx)
  have hle:=Ir l (acc*10+(c.toNat-48))
  unfold Lib.parseUintM pu
  rw[if_pos hc]
  refine⟨λh=>?_,λu h=>?_⟩
  ·rw[if_neg (by omega),if_neg (by omega)]
   exact ih.1 h
  ·split at h
   ·cases h
   ·split at h
    ·cases h
    ·exact ih.2 u h
theorem pI (l:Dg)(h:Gf l)(h0:l≠[]):(pu 0 l<=1000000000000000->Lib.parseIntB 64 l=.ok (pu 0 l:Int))/\(∀v,Lib.parseIntB 64 l=.ok v->v=(pu 0 l:Int)):=by
 cases l with
 |nil=>exact absurd rfl h0
 |cons c r=>
  have hc:=h c List.mem_cons_self
  have e43:¬c.toNat=43:=by omega
  have e45:¬c.toNat=45:=by omega
  obtain⟨p1,p2⟩:=ve (c::r) 0 h
  have hu:Lib.parseUintB 64 (c::r)=Lib.parseUintM (2^64-1) 0 (c::r):=by
   unfold Lib.parseUintB
   rw[if_neg (by simp)]
  have hI:∀x,Lib.parseUintM (2^64-1) 0 (c::r)=x->Lib.parseIntB 64 (c::r)=(match x with
   | .ok u=>if 2^63<=u then .range else .ok (u:Int)
   | .range=>.range
   |_=>Lib.parseIntB 64 (c::r)):=by
   intro x hx
   rcases x with u|_|_
   ·unfold Lib.parseIntB
    simp only[e43,e45,or_self,if_false,hu,hx]
    simp
   ·rfl
   ·unfold Lib.parseIntB
    simp only[e43,e45,or_self,if_false,hu,hx]
  constructor
  ·intro hn
   rw[hI _ (p1 (by omega))]
   simp only
   rw[if_neg (by omega)]
  ·intro v hv
   rcases hp:Lib.parseUintM (2^64-1) 0 (c::r)with u|_|_
   ·rw[hI _ hp]at hv
    simp only at hv
    split at hv
    ·cases hv
    ·cases hv
     rw[p2 u hp]
   ·exfalso
    unfold Lib.parseIntB at hv
    simp only[e43,e45,or_self,if_false,hu,hp]at hv
    cases hv
   ·rw[hI _ hp]at hv
    cases hv
theorem ky:∀(l:Dg) (x:Nat) (c:UInt8),pu x (l++[c])=pu x l*10+(c.toNat-48)
 |[],x,c=>rfl
 |d::l,x,c=>by
  rw[List.cons_append]
  conv=>lhs;unfold pu
  rw[ky l _ c]
  rfl
end Go.Proofs.YtnjjeapcalkmaaaGreatDoor.Ps
namespace Go.Proofs.YtnjjeapcalkmaaaGreatDoor.Lx
abbrev Bs:=List UInt8
def iZ (l:Bs):Bool:=l.all λc=>!blank (c.toNat:Int)
def blanks (l:Bs):Bool:=l.all λc=>blank (c.toNat:Int)
def Dc (k:Nat)(t:Bs)(a:Nat)(acc:List Tok)(next:Nat->List Tok->List Tok×Int×Int):List Tok×Int×Int:=
 if t=[]then(acc,0,0)
 else if (aD ⟨t.toArray⟩).2=0 then next (a+k+t.length) (acc++[((aD ⟨t.toArray⟩).1,⟨t.toArray⟩,a+k)])
 else([],((a+k:Nat):Int),(aD ⟨t.toArray⟩).2)
theorem Bf (k:Nat)(t:Bs)(a:Nat)(acc:List Tok)(next:Nat->List Tok->List Tok×Int×Int)(h:t≠[])(hc:(aD ⟨t.toArray⟩).2=0):Dc k t a acc next=next (a+k+t.length) (acc++[((aD ⟨t.toArray⟩).1,⟨t.toArray⟩,a+k)]):=by
 unfold Dc;rw[if_neg h,if_pos hc]
theorem yV (k:Nat)(t:Bs)(a:Nat)(acc:List Tok)(next:Nat->List Tok->List Tok×Int×Int)(h:t≠[])(hc:(aD ⟨t.toArray⟩).2≠0):Dc k t a acc next=([],((a+k:Nat):Int),(aD ⟨t.toArray⟩).2):=by
 unfold Dc;rw[if_neg h,if_neg hc]
def tq:Nat->Bs->Nat->List Tok->List Tok×Int×Int
 |0,_,_,acc=>(acc,0,0)
 |f+1,l,a,acc=>
  Dc (run blank l) ((l.drop (run blank l)).take (run (λc=>!blank c) (l.drop (run blank l)))) a acc (tq f (l.drop (run blank l+((l.drop (run blank l)).take (run (λc=>!blank c) (l.drop (run blank l)))).length)))
theorem zR (f:Nat)(l:Bs)(a:Nat)(acc:List Tok):tq (f+1) l a acc=Dc (run blank l) ((l.drop (run blank l)).take (run (λc=>!blank c) (l.drop (run blank l)))) a acc (tq f (l.drop (run blank l+((l.drop (run blank l)).take (run (λc=>!blank c) (l.drop (run blank l)))).length))):=rfl
theorem lV (s:ByteArray)(a b:Nat):s.extract a b=⟨((s.data.toList.drop a).take (b-a)).toArray⟩:=by
 obtain⟨⟨l⟩⟩:=s
 rw[ByteArray.extract_mk]
theorem tC (s:ByteArray):∀(f a:Nat) (acc:List Tok),a<=s.size->jD f s a acc=tq f (s.data.toList.drop a) a acc
 |0,_,_,_=>rfl
 |f+1,a,acc,ha=>by
  have hl:s.data.toList.length=s.size:=by obtain⟨⟨l⟩⟩:=s;rfl
  obtain⟨k,hk⟩:∃k,k=run blank (s.data.toList.drop a):=⟨_,rfl⟩
  have h1:skip s a=k:=by
   unfold skip
   rw[lV,hk]
   congr 1
   show List.take _ _=_
   rw[List.take_of_length_le]
   rw[List.length_drop];omega
  have hsk:=Ar s a ha
  obtain⟨m,hm⟩:∃m,m=run (λc=>!blank c) ((s.data.toList.drop a).drop k):=⟨_,rfl⟩
  have h2:size s (a+k)=m:=by
   unfold size
   rw[lV,hm]
   congr 1
   show List.take _ _=_
   rw[List.take_of_length_le,List.drop_drop]
   rw[List.length_drop];omega
  rw[h1]at hsk
  have hsz:=size_le s (a+k) hsk
  rw[h2]at hsz
  obtain⟨t,hte⟩:∃t,t=(List.drop k (List.drop a s.data.toList)).take m:=⟨_,rfl⟩
  have ht:s.extract (a+k) (a+k+m)=⟨t.toArray⟩:=by
   rw[lV,hte,List.drop_drop,show a+k+m-(a+k)=m from by omega]
  have htl:t.length=m:=by
   rw[hte,List.length_take,List.drop_drop,List.length_drop];omega
  unfold jD tq
  rw[<-hk,<-hm,<-hte]
  simp only[h1,h2,ht]
  by_cases h0:m=0
  ·rw[if_pos h0]
   unfold Dc
   rw[if_pos (List.eq_nil_of_length_eq_zero (by omega))]
  ·have hn:t≠[]:=λh=>h0 (by rw[<-htl,h];rfl)
   rw[if_neg h0]
   by_cases hc:(aD ⟨t.toArray⟩).2=0
   ·rw[if_pos hc,Bf _ _ _ _ _ hn hc,tC s f _ _ (by omega),List.drop_drop,htl,show a+(k+m)=a+k+m from by omega]
   ·rw[if_neg hc,yV _ _ _ _ _ hn hc]
theorem Ph (p:Int->Bool)(g l:Bs)(hg:g.all (λc=>p (c.toNat:Int))=true)(hl:∀c r,l=c::r->p (c.toNat:Int)=false):run p (g++l)=g.length:=by
 induction g with
 |nil=>
  cases l with
  |nil=>rfl
  |cons c r=>simp[run,hl c r rfl]
 |cons x g ih=>
  rw[List.all_cons,Bool.and_eq_true]at hg
  have e:run p (x::(g++l))=run p (g++l)+1:=by simp[run,hg.1]
  rw[List.cons_append,e,ih hg.2]
  rfl
theorem Jj (f:Nat)(g t l:Bs)(a:Nat)(acc:List Tok)(hg:blanks g=true)(ht:iZ t=true)(h0:t≠[])(hl:∀c r,l=c::r->blank (c.toNat:Int)=true):
 tq (f+1) (g++(t++l)) a acc=if (aD ⟨t.toArray⟩).2=0 then tq f l (a+g.length+t.length) (acc++[((aD ⟨t.toArray⟩).1,⟨t.toArray⟩,a+g.length)])else([],((a+g.length:Nat):Int),(aD ⟨t.toArray⟩).2):=by
 have e1:run blank (g++(t++l))=g.length:=Ph blank g _ hg λc r h=>by
  cases t with
  |nil=>exact absurd rfl h0
  |cons x t=>
   rw[List.cons_append]at h
   injection h with h1 h2
   subst h1
   unfold iZ at ht
   rw[List.all_cons,Bool.and_eq_true]at ht
   simpa using ht.1
 have e2:run (λc=>!blank c) (t++l)=t.length:=Ph _ t _ ht λc r h=>by simp[hl c r h]
 rw[zR,e1,List.drop_left,e2,List.take_left]
 by_cases hc:(aD ⟨t.toArray⟩).2=0
 ·rw[if_pos hc,Bf _ _ _ _ _ h0 hc,<-List.drop_drop,List.drop_left,List.drop_left]
 ·rw[if_neg hc,yV _ _ _ _ _ h0 hc]
theorem QM (f:Nat)(g:Bs)(a:Nat)(acc:List Tok)(hg:blanks g=true):tq f g a acc=(acc,0,0):=by
 cases f with
 |zero=>rfl
 |succ f=>
  have e1:run blank g=g.length:=(oz _ _).2 hg
  unfold tq
  rw[e1,List.drop_length,List.take_nil]
  rfl
def dY:List (Bs×Bs)->Bs->Bs
 |[],e=>e
 |(g,t)::r,e=>g++(t++dY r e)
def jb:List (Bs×Bs)->Nat->List Tok
 |[],_=>[]
 |(g,t)::r,a=>((aD ⟨t.toArray⟩).1,⟨t.toArray⟩,a+g.length)::jb r (a+g.length+t.length)
def qD:List (Bs×Bs)->Bool->Prop
 |[],_=>True
 |(g,t)::r,b=>(b=false->g≠[])/\blanks g=true/\iZ t=true/\t≠[]/\(aD ⟨t.toArray⟩).2=0/\(t.all λc=>c !=35)=true/\qD r false
theorem z8:∀(ps:List (Bs×Bs)) (e:Bs) (f a:Nat) (acc:List Tok) (b:Bool),qD ps b->blanks e=true->(e=[]\/True)->ps.length<=f->tq f (dY ps e) a acc=(acc++jb ps a,0,0)
 |[],e,f,a,acc,_,_,he,_,_=>by rw[jb,List.append_nil];exact QM f e a acc he
 |(g,t)::r,e,0,a,acc,b,h,he,ht,hf=>by simp at hf
 |(g,t)::r,e,f+1,a,acc,b,⟨h1,h2,h3,h4,h5,h7,h6⟩,he,ht,hf=>by
  unfold dY
  rw[Jj f g t _ a acc h2 h3 h4 λc r' hc=>?_,if_pos h5,z8 r e f _ _ false h6 he ht (by simpa using hf)]
  ·rw[jb,List.append_assoc];rfl
  ·cases r with
   |nil=>
    rw[show dY [] e=e from rfl]at hc
    subst hc
    unfold blanks at he
    rw[List.all_cons,Bool.and_eq_true]at he
    exact he.1
   |cons y r=>
    obtain⟨g2,t2⟩:=y
    obtain⟨k1,k2,_⟩:=h6
    have k3:=k1 rfl
    cases g2 with
    |nil=>exact absurd rfl k3
    |cons x g2=>
     rw[dY,List.cons_append]at hc
     injection hc with hc1 _
     subst hc1
     unfold blanks at k2
     rw[List.all_cons,Bool.and_eq_true]at k2
     exact k2.1
theorem KV (l:Bs)(h:(l.all λc=>c !=35)=true)(i:Nat):isC l i=false:=by
 unfold isC
 rw[Bool.and_eq_false_iff]
 left
 rw[beq_eq_false_iff_ne]
 intro hi
 have:=List.mem_of_getElem? hi
 rw[List.all_eq_true]at h
 have:=h _ this
 simp at this
theorem vE (s:ByteArray)(h:(s.data.toList.all λc=>c !=35)=true):bC s=s:=by
 unfold bC
 rw[wB _ λj _=>KV _ h j]
 have hl:s.data.toList.length=s.size:=by obtain⟨⟨l⟩⟩:=s;rfl
 rw[hl]
 exact extract_all s
theorem rG {g:Bs}(h:blanks g=true):(g.all λc=>c !=35)=true:=by
 unfold blanks at h
 rw[List.all_eq_true]at h⊢
 intro x hx
 have h2:=h x hx
 rw[bne_iff_ne]
 rintro rfl
 revert h2
 decide
theorem wM:∀(ps:List (Bs×Bs)) (e:Bs) (b:Bool),qD ps b->blanks e=true->((dY ps e).all λc=>c !=35)=true
 |[],e,_,_,he=>rG he
 |(g,t)::r,e,b,⟨h1,h2,h3,h4,h5,h7,h6⟩,he=>by
  unfold dY
  rw[List.all_append,List.all_append,rG h2,h7,wM r e false h6 he]
  rfl
theorem uQ:∀(ps:List (Bs×Bs)) (e:Bs) (b:Bool),qD ps b->ps.length<=(dY ps e).length
 |[],e,_,_=>Nat.zero_le _
 |(g,t)::r,e,b,⟨h1,h2,h3,h4,h5,h7,h6⟩=>by
  have:=uQ r e false h6
  have:=List.length_pos_iff.2 h4
  unfold dY
  simp only[List.length_append,List.length_cons]
  omega
theorem zB (ps:List (Bs×Bs))(e:Bs)(h:qD ps true)(he:blanks e=true)(hl:(dY ps e).length<=1024):aO ⟨(dY ps e).toArray⟩=(jb ps 0,0,0):=by
 unfold aO
 have hsz:(⟨(dY ps e).toArray⟩:ByteArray).size=(dY ps e).length:=rfl
 rw[if_neg (by rw[hsz];omega),vE _ (wM ps e true h he),tC _ _ _ _ (Nat.zero_le _)]
 have:=uQ ps e true h
 exact z8 ps e _ 0 [] true h he (.inr trivial) (by omega)
end Go.Proofs.YtnjjeapcalkmaaaGreatDoor.Lx
namespace Go.Proofs.YtnjjeapcalkmaaaGreatDoor.Ps
open Go
def Off (l:List Tok)(o:Int):Prop:=(∃a,o=av l a)\/o=Bb l
def aQ {α:Type}(l:List Tok)(p:P α):Prop:=∀a e,p a=.error e->Off l e.1/\e.2≠0
section
variable {l : List Tok}
theorem aQ.pure {α:Type}(x:α):aQ l (eB x):=λa e h=>by cases h
theorem aQ.bind {α β:Type}{m:P α}{f:α->P β}(hm:aQ l m)(hf:∀x,aQ l (f x)):aQ l (bind' m f):=λa e h=>by
 unfold bind' at h
 cases hc:m a with
 |error e'=>rw[hc]at h;cases h;exact hm a _ hc
 |ok x=>rw[hc]at h;exact hf x.1 x.2 e h
theorem aQ.fail {α:Type}(n:Int)(hn:n≠0):aQ l (jA (α:=α) l n):=λa e h=>by
 cases h;exact⟨.inl ⟨a,rfl⟩,hn⟩
theorem aQ.word (w:Bs):aQ l (word l w):=λa e h=>by
 unfold Ps.word at h
 split at h
 ·cases h;exact⟨.inr rfl,by show(4:Int)≠0;decide⟩
 ·split at h
  ·cases h
  ·cases h;exact⟨.inl ⟨a,rfl⟩,by show(30:Int)≠0;decide⟩
theorem aQ.take {α:Type}(f:ByteArray->α×Int)(ks:List Int):aQ l (take l f ks):=λa e h=>by
 unfold Ps.take at h
 split at h
 ·cases h;exact⟨.inr rfl,by show(4:Int)≠0;decide⟩
 ·split at h
  ·split at h
   ·cases h
   ·rename_i hz;cases h;exact⟨.inl ⟨a,rfl⟩,hz⟩
  ·cases h;exact⟨.inl ⟨a,rfl⟩,by show(30:Int)≠0;decide⟩
variable (E : Env)
theorem aQ.ref:aQ l (Ps.ref E l):=by unfold Ps.ref Ps.ident;exact aQ.take _ _
theorem aQ.member:aQ l (Ps.member E l):=by unfold Ps.member Ps.ident;exact aQ.take _ _
theorem aQ.isin:aQ l (Ps.isin E l):=by unfold Ps.isin Ps.ident;exact aQ.take _ _
theorem aQ.cash:aQ l (Ps.cash E l):=aQ.take _ _
theorem aQ.quantity:aQ l (Ps.quantity E l):=aQ.take _ _
theorem aQ.day:aQ l (Ps.day E l):=aQ.take _ _
theorem aQ.options:∀(f:Nat) (s:Seen) (i:Ins),aQ l (options E l f s i)
 |0,s,i=>.pure i
 |f+1,s,i=>λa e h=>by
  have ih:=aQ.options f
  unfold Ps.options at h
  split at h
  ·cases h
  split at h
  ·split at h
   ·exact aQ.fail 7 (by decide) a e h
   ·exact ih _ _ _ e h
  split at h
  ·split at h
   ·exact aQ.fail 7 (by decide) a e h
   ·exact aQ.bind (.quantity E) (λn=>ih _ _) _ e h
  split at h
  ·split at h
   ·exact aQ.fail 7 (by decide) a e h
   ·exact ih _ _ _ e h
  split at h
  ·split at h
   ·exact aQ.fail 7 (by decide) a e h
   ·exact ih _ _ _ e h
  split at h
  ·exact aQ.bind (.ref E) (λn=>ih _ _) _ e h
  split at h
  ·exact aQ.bind (.ref E) (λn=>ih _ _) _ e h
  exact aQ.fail 30 (by decide) a e h
theorem aQ.changes:∀(f:Nat) (s:Seen) (i:Amd),aQ l (changes E l f s i)
 |0,s,i=>.pure i
 |f+1,s,i=>λa e h=>by
  have ih:=aQ.changes f
  unfold Ps.changes at h
  split at h
  ·cases h
  split at h
  ·split at h
   ·exact aQ.fail 7 (by decide) a e h
   ·exact ih _ _ _ e h
  split at h
  ·split at h
   ·exact aQ.fail 7 (by decide) a e h
   ·exact aQ.bind (.quantity E) (λn=>ih _ _) _ e h
  split at h
  ·split at h
   ·exact aQ.fail 7 (by decide) a e h
   ·exact ih _ _ _ e h
  split at h
  ·split at h
   ·exact aQ.fail 7 (by decide) a e h
   ·exact aQ.bind (.cash E) (λn=>ih _ _) _ e h
  split at h
  ·split at h
   ·exact aQ.fail 7 (by decide) a e h
   ·exact aQ.bind (.day E) (λn=>ih _ _) _ e h
  exact aQ.fail 30 (by decide) a e h
theorem aQ.parties:aQ l (parties E l):=.bind (.word _) λ_=>.bind (.member E) λ_=>.bind (.word _) λ_=>.bind (.member E) λ_=>.pure _
theorem aQ.by_:aQ l (by_ E l):=.bind (.word _) λ_=>.member E
theorem aQ.security (i:Ins):aQ l (security E l i):=.bind (.word _) λ_=>.bind (.isin E) λ_=>.bind (.word _) λ_=>.bind (.quantity E) λ_=>.pure _
theorem aQ.payment (i:Ins):aQ l (payment E l i):=.bind (.parties E) λ_=>.bind (.word _) λ_=>.bind (.cash E) λ_=>.bind (.word _) λ_=>.bind (.day E) λ_=>.options E _ _ _
theorem aQ.trade (i:Ins):aQ l (trade E l i):=.bind (.parties E) λ_=>.bind (.security E _) λj=>.bind (λa e h=>by
 split at h
 ·cases h
 ·exact aQ.bind (.word _) (λ_=>aQ.bind (.cash E) λ_=>.pure _) a e h) λ_=>.bind (.word _) λ_=>.bind (.day E) λ_=>.bind (.word _) λ_=>.bind (.day E) λ_=>.options E _ _ _
theorem aQ.collateral (k:Int)(i:Ins):aQ l (collateral E l k i):=.bind (.by_ E) λ_=>.bind (.security E _) λ_=>.bind (.word _) λ_=>.bind (.day E) λ_=>.pure _
theorem aQ.rest (v:Bs)(q:Req):aQ l (rest E l v q):=by
 unfold Ps.rest
 split
 ·exact .bind (.payment E _) λ_=>.pure _
 split
 ·exact .bind (.trade E _) λ_=>.pure _
 split
 ·exact .bind (.trade E _) λ_=>.pure _
 split
 ·exact .bind (.collateral E _ _) λ_=>.pure _
 split
 ·exact .bind (.collateral E _ _) λ_=>.pure _
 split
 ·refine .bind (.by_ E) λ_ a e h=>?_
  split at h
  ·cases h;exact⟨.inr rfl,by show(4:Int)≠0;decide⟩
  ·exact aQ.bind (.changes E _ _ _) (λ_=>.pure _) a e h
 split
 ·exact .bind (.by_ E) λ_=>.pure _
 split
 ·exact .bind (.by_ E) λ_=>.pure _
 ·exact .bind (.by_ E) λ_=>.pure _
theorem aQ.line:aQ l (line E l):=λa e h=>by
 unfold Ps.line at h
 split at h
 ·cases h;exact⟨.inr rfl,by show(4:Int)≠0;decide⟩
 split at h
 ·refine aQ.bind (.ref E) (λr=>aQ.bind (.rest E _ _) λq=>?_) _ e h
  intro b e h
  have h:(if b<l.length then(.error (av l b,30):Except Er (Req×Nat))else .ok (q,b))=.error e:=h
  split at h
  ·cases h;exact⟨.inl ⟨b,rfl⟩,by show(30:Int)≠0;decide⟩
  ·cases h
 ·cases h;exact⟨.inl ⟨a,rfl⟩,by show(30:Int)≠0;decide⟩
end
theorem Dj:∀(f:Nat) (l:Bs) (a:Nat) (acc:List Tok) (m:Nat),a+l.length<=m->(∀t∈acc,t.2.2+t.2.1.size<=m)->(∀t∈(Lx.tq f l a acc).1,t.2.2+t.2.1.size<=m)/\0<=(Lx.tq f l a acc).2.1/\(Lx.tq f l a acc).2.1<=m
 |0,l,a,acc,m,ha,h=>⟨h,Int.le_refl _,by show(0:Int)<=m;omega⟩
 |f+1,l,a,acc,m,ha,h=>by
  rw[Lx.zR]
  have h1:=Lx.yD Lx.blank l
  obtain⟨k,hk⟩:∃k,k=Lx.run Lx.blank l:=⟨_,rfl⟩
  rw[<-hk]at h1⊢
  obtain⟨t,ht⟩:∃t,t=(l.drop k).take (Lx.run (λc=>!Lx.blank c) (l.drop k)):=⟨_,rfl⟩
  rw[<-ht]
  have htl:k+t.length<=l.length:=by
   rw[ht,List.length_take,List.length_drop];omega
  by_cases h0:t=[]
  ·unfold Lx.Dc
   rw[if_pos h0]
   exact⟨h,Int.le_refl _,by show(0:Int)<=m;omega⟩
  by_cases hc:(Lx.aD ⟨t.toArray⟩).2=0
  ·rw[Lx.Bf _ _ _ _ _ h0 hc]
   refine Dj f _ _ _ m ?_ λx hx=>?_
   ·rw[List.length_drop];omega
   ·rcases List.mem_append.1 hx with hx|hx
    ·exact h x hx
    ·rw[List.mem_singleton.1 hx]
     show a+k+t.length<=m
     omega
  ·rw[Lx.yV _ _ _ _ _ h0 hc]
   exact⟨λt ht=>by simp at ht,by show(0:Int)<=((a+k:Nat):Int);omega,by show((a+k:Nat):Int)<=m;omega⟩
theorem AP (s:ByteArray)(hs:s.size<=1024):(∀t∈(Lx.aO s).1,t.2.2+t.2.1.size<=s.size)/\0<=(Lx.aO s).2.1/\(Lx.aO s).2.1<=s.size:=by
 have hu:(Lx.bC s).size<=s.size:=by
  unfold Lx.bC
  rw[ByteArray.size_extract]
  omega
 unfold Lx.aO
 rw[if_neg (by omega),Lx.tC _ _ _ _ (Nat.zero_le _)]
 refine Dj _ _ _ _ _ ?_ λt ht=>by cases ht
 have:(Lx.bC s).data.toList.length=(Lx.bC s).size:=by obtain⟨⟨l⟩⟩:=Lx.bC s;rfl
 rw[List.drop_zero,this]
 omega
theorem Off.bound {l:List Tok}{o:Int}{m:Nat}(h:∀t∈l,t.2.2+t.2.1.size<=m)(ho:Off l o):0<=o/\o<=m:=by
 rcases ho with⟨a,rfl⟩|rfl
 ·unfold av
  cases ha:l[a]? with
  |none=>exact⟨Int.le_refl _,by show(0:Int)<=m;omega⟩
  |some t=>
   have:=h t (List.mem_of_getElem? ha)
   exact⟨by show(0:Int)<=(t.2.2:Int);omega,by show(t.2.2:Int)<=m;omega⟩
 ·unfold Bb
  cases ha:l.getLast? with
  |none=>exact⟨Int.le_refl _,by show(0:Int)<=m;omega⟩
  |some t=>
   have:=h t (List.mem_of_getLast? ha)
   exact⟨by show(0:Int)<=((t.2.2+t.2.1.size:Nat):Int);omega,by show((t.2.2+t.2.1.size:Nat):Int)<=m;omega⟩
theorem Ej (E:Env)(check:Req->Int)(s:ByteArray)(hs:s.size<=1024):((parse E check s).2.2=0->check (parse E check s).1=0/\(parse E check s).2.1=0)/\((parse E check s).2.2≠0->(parse E check s).1={}/\0<=(parse E check s).2.1/\(parse E check s).2.1<=s.size):=by
 obtain⟨h1,h2,h3⟩:=AP s hs
 unfold parse
 split
 ·rename_i he
  exact⟨λh=>absurd h he,λ_=>⟨rfl,h2,h3⟩⟩
 ·cases hl:line E (Lx.aO s).1 0 with
  |error e=>
   simp only[]
   obtain⟨hb,hz⟩:=aQ.line E 0 e hl
   exact⟨λh=>absurd h hz,λ_=>⟨trivial,hb.bound h1⟩⟩
  |ok x=>
   obtain⟨q,b⟩:=x
   simp only[]
   obtain⟨q',hq'⟩:∃q',q'=if q.op=0 then({q with sender:=q.ins.sender,ins:={q.ins with ref:=q.ref} }:Req)else q:=⟨_,rfl⟩
   rw[<-hq']
   by_cases hc:check q'≠0
   ·rw[if_pos hc]
    exact⟨λh=>absurd h hc,λ_=>⟨rfl,Off.bound h1 (.inl ⟨0,rfl⟩)⟩⟩
   ·rw[if_neg hc]
    exact⟨λ_=>⟨by simpa using hc,rfl⟩,λh=>absurd rfl h⟩
def dgt (n:Nat):UInt8:=UInt8.ofNat (48+n)
theorem qj {α:Type}{l:List α}(l':List α)(h:l≠[]):(l++l').head? =l.head?:=by
 cases l with
 |nil=>exact absurd rfl h
 |cons x l=>rfl
abbrev dec (n:Nat):List UInt8:=Lib.decDigits n
theorem dX {n:Nat}(h:n<10):dec n=[dgt n]:=Lib.decDigits_one h
theorem kG {n:Nat}(h:¬n<10):dec n=dec (n/10)++[dgt (n%10)]:=by
 show Lib.decDigits n=_
 rw[Lib.decDigits,dif_neg h]
 rfl
theorem fH (n:Nat)(h:n<10):(dgt n).toNat=48+n:=by
 unfold dgt
 rw[UInt8.toNat_ofNat']
 omega
theorem df (n:Nat):Gf (dec n)/\dec n≠[]/\pu 0 (dec n)=n/\(1<=n->∀c,(dec n).head? =some c->c≠48):=by
 induction n using Nat.strongRecOn with
 |ind n ih=>
  by_cases h:n<10
  ·rw[dX h]
   have ht:=fH n h
   refine⟨λc hc=>?_,List.cons_ne_nil _ _,?_,λh1 c hc=>?_⟩
   ·rw[List.mem_singleton]at hc;rw[hc];omega
   ·have h5:=ky [] 0 (dgt n)
    rw[ht]at h5
    exact h5.trans (by show 0*10+(48+n-48)=n;omega)
   ·replace hc:dgt n=c:=Option.some.inj hc
    rintro rfl
    have:=congrArg UInt8.toNat hc
    rw[ht]at this
    have e:(48:UInt8).toNat=48:=rfl
    omega
  ·obtain⟨h1,h2,h3,h4⟩:=ih (n/10) (by omega)
   rw[kG h]
   have ht:=fH (n%10) (by omega)
   refine⟨λc hc=>?_,by simp,?_,λ_ c hc=>?_⟩
   ·rcases List.mem_append.1 hc with hc|hc
    ·exact h1 c hc
    ·rw[List.mem_singleton]at hc;rw[hc];omega
   ·rw[ky,h3,ht];omega
   ·refine h4 (by omega) c ?_
    rw[qj _ h2]at hc
    exact hc
theorem iH:∀(k n:Nat),n<10^(k+1)->(dec n).length<=k+1
 |0,n,h=>by rw[dX (by omega)];simp
 |k+1,n,h=>by
  by_cases hn:n<10
  ·rw[dX hn];simp
  ·rw[kG hn,List.length_append]
   have hp:10^(k+1+1)=10^(k+1)*10:=Nat.pow_succ 10 (k+1)
   have:=iH k (n/10) (by omega)
   simp;omega
theorem xe {l:List UInt8}(h:Gf l):l.all (λc=>Lx.digit (c.toNat:Int))=true:=by
 rw[List.all_eq_true]
 intro c hc
 have:=h c hc
 unfold Lx.digit
 simp;omega
theorem xk {l:List UInt8}(h:Gf l):Lx.iZ l=true:=by
 unfold Lx.iZ
 rw[List.all_eq_true]
 intro c hc
 have:=h c hc
 unfold Lx.blank
 simp;omega
theorem DJ (l:List UInt8)(h:∀c,l[4]? =some c->c≠45):Lx.kM l=false:=by
 unfold Lx.kM
 by_cases hl:l.length=10
 ·have h4:Lx.PX 4 (Lx.at_ l 4)=false:=by
   have h5:=h l[4] (List.getElem?_eq_getElem (by omega))
   have e:Lx.at_ l 4=(l[4].toNat:Int):=by
    unfold Lx.at_
    rw[List.getD_eq_getElem?_getD,List.getElem?_eq_getElem (by omega)];rfl
   rw[e]
   unfold Lx.PX
   simp only[true_or,if_true,decide_eq_false_iff_not]
   intro hc
   apply h5
   apply UInt8.toNat.inj
   have e45:(45:UInt8).toNat=45:=rfl
   omega
  rw[Bool.and_eq_false_iff]
  right
  rw[List.all_eq_false]
  exact⟨4,by simp,by simp[h4]⟩
 ·simp[hl]
theorem qA {c:UInt8}(h:48<=c.toNat):c≠45:=by
 rintro rfl
 have e45:(45:UInt8).toNat=45:=rfl
 omega
theorem CE (n:Nat)(h1:1<=n)(h2:n<=1000000000000000):Lx.aD ⟨(dec n).toArray⟩=(2,0):=by
 obtain⟨d1,d2,d3,d4⟩:=df n
 have dl:=iH 15 n (by omega)
 have hsz:(⟨(dec n).toArray⟩:ByteArray).size=(dec n).length:=rfl
 have hd:(⟨(dec n).toArray⟩:ByteArray).data.toList=dec n:=rfl
 have hrd:Lx.kM (dec n)=false:=DJ _ λc hc=>qA (d1 c (List.mem_of_getElem? hc)).1
 have hw:Lx.whole (dec n)=true:=by
  unfold Lx.whole Lx.all
  rw[xe d1]
  have he:(dec n).isEmpty=false:=by simp[d2]
  rw[he]
  have hh:((dec n).head? ==some 48)=false:=by
   rw[beq_eq_false_iff_ne]
   intro hc
   exact d4 h1 _ hc rfl
  rw[hh]
  simp
 unfold Lx.aD
 rw[Lx.qJ,hd,hrd,hsz,hw]
 rw[if_neg (by omega)]
 simp only[Bool.false_eq_true,if_false,Bool.true_and]
 rw[if_pos (by simpa using dl)]
def cu (n:Nat):List UInt8:=dec (n/100)++[46,dgt (n/10%10),dgt (n%10)]
theorem rP (n:Nat)(h2:n<=1000000000000000):(cu n).length<=17:=by
 have:=iH 13 (n/100) (by omega)
 unfold cu
 simp;omega
theorem DN (n:Nat):Lx.iZ (cu n)=true:=by
 have e1:Lx.iZ (dec (n/100))=true:=xk (df (n/100)).1
 have t1:=fH (n/10%10) (by omega)
 have t2:=fH (n%10) (by omega)
 unfold cu
 unfold Lx.iZ at e1⊢
 rw[List.all_append,e1]
 simp only[List.all_cons,List.all_nil,t1,t2,Lx.blank]
 simp;omega
theorem Kb (n:Nat):Lx.whole (dec n)=true:=by
 obtain⟨d1,d2,d3,d4⟩:=df n
 unfold Lx.whole Lx.all
 rw[xe d1]
 have he:(dec n).isEmpty=false:=by simp[d2]
 rw[he]
 by_cases h0:n<10
 ·rw[dX h0];simp
 ·have hh:((dec n).head? ==some 48)=false:=by
   rw[beq_eq_false_iff_ne]
   intro hc
   exact d4 (by omega) _ hc rfl
  rw[hh]
  simp
theorem Bh {n:Nat}{c:UInt8}(hc:c.toNat<48):c∉dec n:=λh=>by
 have:=(df n).1 c h
 omega
theorem wm (n:Nat):Lib.trimPrefix (cu n) [45]=cu n:=by
 rw[Lx.JI]
 unfold Lx.fV
 rw[if_neg]
 obtain⟨d1,d2,_⟩:=df (n/100)
 unfold cu
 intro h
 rw[qj _ d2]at h
 exact Bh (by decide) (List.mem_of_mem_head? h)
theorem zU (n:Nat):Lib.cut (cu n) [46]=(dec (n/100),[dgt (n/10%10),dgt (n%10)],true):=Lx.vO _ _ (Bh (by decide))
theorem yS (n:Nat):Gf [dgt (n/10%10),dgt (n%10)]:=λc hc=>by
 have t1:=fH (n/10%10) (by omega)
 have t2:=fH (n%10) (by omega)
 simp at hc
 rcases hc with rfl|rfl<;>omega
theorem xm (n:Nat)(h2:n<=1000000000000000):Lx.aD ⟨(cu n).toArray⟩=(3,0):=by
 obtain⟨d1,d2,d3,d4⟩:=df (n/100)
 have dl:=rP n h2
 have hsz:(⟨(cu n).toArray⟩:ByteArray).size=(cu n).length:=rfl
 have hd:(⟨(cu n).toArray⟩:ByteArray).data.toList=cu n:=rfl
 have hrd:Lx.kM (cu n)=false:=DJ _ λc hc=>by
  have hm:=List.mem_of_getElem? hc
  unfold cu at hm
  rcases List.mem_append.1 hm with hm|hm
  ·exact qA (d1 c hm).1
  ·rcases List.mem_cons.1 hm with rfl|hm
   ·decide
   ·exact qA (yS n c hm).1
 have hw:Lx.whole (cu n)=false:=by
  unfold Lx.whole Lx.all
  have:(cu n).all (λc=>Lx.digit (c.toNat:Int))=false:=by
   rw[List.all_eq_false]
   exact⟨46,by unfold cu;simp,by decide⟩
  rw[this]
  simp
 have Gr:Lx.decimal (cu n)=true:=by
  unfold Lx.decimal
  rw[wm,zU]
  have h45:(cu n==[45,48,46,48,48])=false:=by
   rw[beq_eq_false_iff_ne]
   intro he
   have hh:=congrArg List.head? he
   unfold cu at hh
   rw[qj _ d2]at hh
   exact Bh (by decide) (List.mem_of_mem_head? hh)
  rw[h45]
  have ha:Lx.all Lx.digit [dgt (n/10%10),dgt (n%10)]=true:=by
   unfold Lx.all
   rw[xe (yS n)];rfl
  simp only[Kb,ha]
  rfl
 unfold Lx.aD
 rw[Lx.qJ,hd,hrd,hsz,hw,Gr]
 rw[if_neg (by omega)]
 simp
theorem Jw (n:Nat):Gf (dec (n/100)++[dgt (n/10%10),dgt (n%10)])/\pu 0 (dec (n/100)++[dgt (n/10%10),dgt (n%10)])=n:=by
 obtain⟨d1,d2,d3,d4⟩:=df (n/100)
 refine⟨λc hc=>?_,?_⟩
 ·rcases List.mem_append.1 hc with hc|hc
  ·exact d1 c hc
  ·exact yS n c hc
 ·have t1:=fH (n/10%10) (by omega)
  have t2:=fH (n%10) (by omega)
  rw[show dec (n/100)++[dgt (n/10%10),dgt (n%10)]=(dec (n/100)++[dgt (n/10%10)])++[dgt (n%10)]from by simp]
  rw[ky,ky,d3,t1,t2]
  omega
theorem iA (s:ByteArray)(h:Lx.all Lx.named s.data.toList=true)(hs:s.size<=32):∃k∈([1,2,4]:List Int),Lx.aD s=(k,0):=by
 have Gr:Lx.decimal s.data.toList=false:=by
  rw[Lx.xx]
  unfold Lx.mW Lx.OA
  rw[Bool.and_eq_false_iff]
  right
  rw[Bool.and_eq_false_iff];left
  rw[Bool.and_eq_false_iff];left
  rw[Bool.and_eq_false_iff];left
  by_cases hl:4<=(Lx.fV s.data.toList).length
  ·rw[Bool.and_eq_false_iff];right
   rw[decide_eq_false_iff_not]
   intro hc
   have hm:∀c∈Lx.fV s.data.toList,c∈s.data.toList:=λc hc=>by
    unfold Lx.fV at hc
    split at hc
    ·exact List.mem_of_mem_drop hc
    ·exact hc
   have hi:(Lx.fV s.data.toList).length-3<(Lx.fV s.data.toList).length:=by omega
   have e:Lx.at_ (Lx.fV s.data.toList) ((Lx.fV s.data.toList).length-3)=((Lx.fV s.data.toList)[(Lx.fV s.data.toList).length-3].toNat:Int):=by
    unfold Lx.at_
    rw[List.getD_eq_getElem?_getD,List.getElem?_eq_getElem hi];rfl
   rw[e]at hc
   have hmem:=hm _ (List.getElem_mem hi)
   unfold Lx.all at h
   rw[Bool.and_eq_true,List.all_eq_true]at h
   have:=h.2 _ hmem
   rw[hc]at this
   revert this
   decide
  ·rw[Bool.and_eq_false_iff];left
   simpa using hl
 unfold Lx.aD
 rw[if_neg (by omega),Gr,h]
 by_cases h1:Lx.date s=true
 ·rw[if_pos h1];exact⟨4,by simp,rfl⟩
 ·rw[if_neg h1]
  by_cases h2:(Lx.whole s.data.toList&&decide (s.size<=16))=true
  ·rw[if_pos h2];exact⟨2,by simp,rfl⟩
  ·rw[if_neg h2];exact⟨1,by simp,by simp⟩
theorem wu (s:ByteArray)(h:Lx.all Lx.named s.data.toList=true)(hs:s.size<=32)(c:UInt8)(hc:s.data.toList.head? =some c)(hu:Lx.upper (c.toNat:Int)=true):Lx.aD s=(1,0):=by
 obtain⟨l,hl⟩:∃l,s.data.toList=l:=⟨_,rfl⟩
 have hnd:Lx.digit (c.toNat:Int)=false:=by
  unfold Lx.upper at hu
  unfold Lx.digit
  simp at hu⊢
  omega
 obtain⟨k,hk,h1⟩:=iA s h hs
 rw[hl]at hc
 cases l with
 |nil=>cases hc
 |cons x l=>
  simp at hc
  subst hc
  have hrd:Lx.date s=false:=by
   rw[Lx.qJ,hl]
   unfold Lx.kM
   rw[Bool.and_eq_false_iff];right
   rw[List.all_eq_false]
   refine⟨0,by simp,?_⟩
   have:Lx.PX 0 (Lx.at_ (x::l) 0)=Lx.digit (x.toNat:Int):=rfl
   rw[this,hnd]
   simp
  have hw:Lx.whole s.data.toList=false:=by
   rw[hl]
   unfold Lx.whole Lx.all
   rw[List.all_cons,hnd]
   simp
  unfold Lx.aD at h1⊢
  rw[if_neg (by omega)]at h1⊢
  rw[hrd,hw]at h1⊢
  simp only[Bool.false_eq_true,if_false,Bool.false_and,h]at h1⊢
  by_cases hd:Lx.decimal s.data.toList=true
  ·rw[if_pos hd]at h1
   cases h1
   simp at hk
  ·rw[if_neg hd]
   rfl
theorem uX {l:List UInt8}(h:Lx.all Lx.named l=true):Lx.iZ l=true/\l≠[]:=by
 unfold Lx.all at h
 rw[Bool.and_eq_true,List.all_eq_true]at h
 refine⟨?_,λh0=>by rw[h0]at h;simp at h⟩
 unfold Lx.iZ
 rw[List.all_eq_true]
 intro c hc
 have:=h.2 c hc
 unfold Lx.named Lx.upper Lx.digit at this
 unfold Lx.blank
 simp at this⊢
 omega
def ak (l:List Tok)(a:Nat)(k:Int)(t:ByteArray):Prop:=∃o,l[a]? =some (k,t,o)
theorem ak.lt {l:List Tok}{a:Nat}{k:Int}{t:ByteArray}(h:ak l a k t):a<l.length:=by
 obtain⟨o,h⟩:=h
 exact(List.getElem?_eq_some_iff.1 h).1
theorem dw {l:List Tok}{a:Nat}{t:ByteArray}(h:ak l a 0 t):aU l a=t:=by
 obtain⟨o,h⟩:=h
 simp only[aU,h]
 rfl
theorem fK {l:List Tok}{a:Nat}{t:ByteArray}{w:Bs}(h:ak l a 0 t)(hw:t.data.toList=w):word l w a=.ok ((),a+1):=by
 unfold word
 rw[if_neg (by have:=h.lt;omega),dw h,if_pos hw]
theorem take_at {α:Type}{l:List Tok}{a:Nat}{k:Int}{t:ByteArray}{f:ByteArray->α×Int}{ks:List Int}(h:ak l a k t)(hk:k∈ks)(x:α)(hf:f t=(x,0)):take l f ks a=.ok (x,a+1):=by
 obtain⟨o,h⟩:=h
 unfold take
 simp only[h,if_pos hk,hf,if_true]
theorem rW {E:Env}{l:List Tok}{a:Nat}{k:Int}{t:ByteArray}{n:Nat}{ks:List Int}(h:ak l a k t)(hk:k∈ks)(hf:E.valid n t=true):ident E l n ks a=.ok (t,a+1):=take_at h hk t (by rw[if_pos hf])
theorem pW {E:Env}{l:List Tok}{a:Nat}{t:ByteArray}(h:ak l a 4 t)(x:Int)(hf:E.date t=(x,0)):day E l a=.ok (x,a+1):=take_at h (by simp) x (by rw[hf];rfl)
theorem BJ {E:Env}{l:List Tok}{a:Nat}{t:ByteArray}(h:ak l a 3 t)(x:Int)(hf:E.cash t=(x,0)):cash E l a=.ok (x,a+1):=take_at h (by simp) x hf
theorem l7 {E:Env}{l:List Tok}{a:Nat}{t:ByteArray}(h:ak l a 2 t)(x:Int)(hf:E.number t=(x,0)):quantity E l a=.ok (x,a+1):=take_at h (by simp) x hf
section
variable (E : Env) (l : List Tok) (f : Nat) (s : Seen) (i : Ins) (a : Nat)
theorem Nu (hlt:a<l.length)(p:Int)(hp:prio (aU l a).data.toList=some p):options E l (f+1) s i a=if s.prio=true then .error (av l a,7)else options E l f {s with prio:=true} {i with priority:=p} (a+1):=by
 conv=>lhs;unfold options
 rw[if_neg (by omega),hp]
 simp only[]
 by_cases h:s.prio=true
 ·rw[if_pos h,if_pos h];rfl
 ·rw[if_neg h,if_neg h]
theorem NP (hlt:a<l.length)(hw:(aU l a).data.toList=aK):options E l (f+1) s i a=if s.part=true then .error (av l a,7)else bind' (quantity E l) (λn=>options E l f {s with part:=true} {i with partial_:=true,minLot:=n}) (a+1):=by
 conv=>lhs;unfold options
 rw[if_neg (by omega),hw,show prio aK=none from by decide]
 simp only[if_true]
 by_cases h:s.part=true
 ·rw[if_pos h,if_pos h];rfl
 ·rw[if_neg h,if_neg h]
theorem Pp (hlt:a<l.length)(hw:(aU l a).data.toList=bU):options E l (f+1) s i a=if s.hold=true then .error (av l a,7)else options E l f {s with hold:=true} {i with hold:=true} (a+1):=by
 conv=>lhs;unfold options
 rw[if_neg (by omega),hw,show prio bU=none from by decide]
 simp only[]
 rw[if_neg (by decide),if_pos trivial]
 by_cases h:s.hold=true
 ·rw[if_pos h,if_pos h];rfl
 ·rw[if_neg h,if_neg h]
theorem Si (hlt:a<l.length)(hw:(aU l a).data.toList=aY):options E l (f+1) s i a=if s.res=true then .error (av l a,7)else options E l f {s with res:=true} {i with reserve:=true} (a+1):=by
 conv=>lhs;unfold options
 rw[if_neg (by omega),hw,show prio aY=none from by decide]
 simp only[]
 rw[if_neg (by decide),if_neg (by decide),if_pos trivial]
 by_cases h:s.res=true
 ·rw[if_pos h,if_pos h];rfl
 ·rw[if_neg h,if_neg h]
theorem OQ (hlt:a<l.length)(hw:(aU l a).data.toList=fF):options E l (f+1) s i a=bind' (ref E l) (λr=>options E l f s {i with links:=i.links++[⟨0,r⟩]}) (a+1):=by
 conv=>lhs;unfold options
 rw[if_neg (by omega),hw,show prio fF=none from by decide]
 simp only[]
 rw[if_neg (by decide),if_neg (by decide),if_neg (by decide),if_pos trivial]
theorem J4 (hlt:a<l.length)(hw:(aU l a).data.toList=dC):options E l (f+1) s i a=bind' (ref E l) (λr=>options E l f s {i with links:=i.links++[⟨1,r⟩]}) (a+1):=by
 conv=>lhs;unfold options
 rw[if_neg (by omega),hw,show prio dC=none from by decide]
 simp only[]
 rw[if_neg (by decide),if_neg (by decide),if_neg (by decide),if_neg (by decide),if_pos trivial]
end
theorem Rx (E:Env)(l:List Tok)(f:Nat)(s:Seen)(i:Ins)(a:Nat)(h:l.length<=a):options E l (f+1) s i a=.ok (i,a):=by
 conv=>lhs;unfold options
 rw[if_pos h]
theorem zS:∀(ps:List (Bs×Bs)) (a j:Nat) (g t:Bs),ps[j]? =some (g,t)->ak (Lx.jb ps a) j (Lx.aD ⟨t.toArray⟩).1 ⟨t.toArray⟩
 |[],a,j,g,t,h=>by simp at h
 |(g',t')::ps,a,0,g,t,h=>by
  simp at h
  obtain⟨rfl,rfl⟩:=h
  exact⟨_,rfl⟩
 |(g',t')::ps,a,j+1,g,t,h=>by
  obtain⟨o,ho⟩:=zS ps (a+g'.length+t'.length) j g t (by simpa using h)
  exact⟨o,by rw[Lx.jb];simpa using ho⟩
theorem oV:∀(ps:List (Bs×Bs)) (a:Nat),(Lx.jb ps a).length=ps.length
 |[],_=>rfl
 |(g,t)::ps,a=>by rw[Lx.jb,List.length_cons,oV ps,List.length_cons]
section
variable {E : Env} {l : List Tok} {a : Nat}
theorem zM {t:ByteArray}(h:ak l a 1 t)(hf:E.valid 1 t=true):member E l a=.ok (t,a+1):=rW h (by simp) hf
theorem Ry {t:ByteArray}(h:ak l a 1 t)(hf:E.valid 0 t=true):isin E l a=.ok (t,a+1):=rW h (by simp) hf
theorem Ga {k:Int}{t:ByteArray}(h:ak l a k t)(hk:k∈([1,2,4]:List Int))(hf:E.valid 2 t=true):ref E l a=.ok (t,a+1):=rW h hk hf
theorem pU {f A t B:ByteArray}(h0:ak l a 0 f)(hf:f.data.toList=rH)(h1:ak l (a+1) 1 A)(v1:E.valid 1 A=true)(h2:ak l (a+2) 0 t)(ht:t.data.toList=sTo)(h3:ak l (a+3) 1 B)(v3:E.valid 1 B=true):
 parties E l a=.ok ((A,B),a+4):=by
 unfold parties
 rw[bind_ok (fK h0 hf),bind_ok (zM h1 v1),bind_ok (fK h2 ht),bind_ok (zM h3 v3)]
 rfl
theorem NW {b A:ByteArray}(h0:ak l a 0 b)(hb:b.data.toList=sBy)(h1:ak l (a+1) 1 A)(v1:E.valid 1 A=true):by_ E l a=.ok (A,a+2):=by
 unfold by_
 rw[bind_ok (fK h0 hb)]
 exact rW h1 (by simp) v1
theorem mo {w1 X w2 N:ByteArray}(i:Ins){n:Int}(h0:ak l a 0 w1)(hw1:w1.data.toList=uK)(h1:ak l (a+1) 1 X)(v1:E.valid 0 X=true)(h2:ak l (a+2) 0 w2)(hw2:w2.data.toList=gQ)(h3:ak l (a+3) 2 N)(v3:E.number N=(n,0)):
 security E l i a=.ok ({i with asset:=X,quantity:=n},a+4):=by
 unfold security
 rw[bind_ok (fK h0 hw1),bind_ok (Ry h1 v1),bind_ok (fK h2 hw2),bind_ok (l7 h3 n v3)]
 rfl
theorem Gc (i:Ins){A B w1 C w2 D:ByteArray}{n d:Int}(hp:parties E l a=.ok ((A,B),a+4))(h4:ak l (a+4) 0 w1)(hw1:w1.data.toList=bY)(h5:ak l (a+5) 3 C)(v5:E.cash C=(n,0))
 (h6:ak l (a+6) 0 w2) (hw2:w2.data.toList=eF) (h7:ak l (a+7) 4 D) (v7:E.date D=(d,0)):
 payment E l i a=options E l (l.length+1) {} {i with kind:=0,asset:=uH,sender:=A,counterparty:=B,amount:=n,settleDay:=d} (a+8):=by
 unfold payment
 rw[bind_ok hp,bind_ok (fK h4 hw1),bind_ok (BJ h5 n v5),bind_ok (fK h6 hw2),bind_ok (pW h7 d v7)]
theorem GR (i:Ins){A B X w1 C w2 T w3 D:ByteArray}{q n t d:Int}(hp:parties E l a=.ok ((A,B),a+4))(hs:∀j,security E l j (a+4)=.ok ({j with asset:=X,quantity:=q},a+8))
 (h8:ak l (a+8) 0 w1) (hw1:w1.data.toList=d9) (h9:ak l (a+9) 3 C) (v9:E.cash C=(n,0)) (h10:ak l (a+10) 0 w2) (hw2:w2.data.toList=j4) (h11:ak l (a+11) 4 T) (v11:E.date T=(t,0))
 (h12:ak l (a+12) 0 w3) (hw3:w3.data.toList=eF) (Qm:ak l (a+13) 4 D) (v13:E.date D=(d,0)):
 trade E l i a=options E l (l.length+1) {} {i with kind:=1,sender:=A,counterparty:=B,asset:=X,quantity:=q,amount:=n,tradeDay:=t,settleDay:=d} (a+14):=by
 unfold trade
 rw[bind_ok hp,bind_ok (hs _)]
 have e1:(λa=>if (aU l a).data.toList=jy then(.ok (({i with kind:=2,sender:=A,counterparty:=B,asset:=X,quantity:=q}:Ins),a+1):Except Er (Ins×Nat))else bind' (word l d9) (λ_=>bind' (cash E l) λn=>eB ({i with kind:=1,sender:=A,counterparty:=B,asset:=X,quantity:=q,amount:=n}:Ins)) a) (a+8)=.ok ({i with kind:=1,sender:=A,counterparty:=B,asset:=X,quantity:=q,amount:=n},a+10):=by
  show(if _ then _ else _)=_
  rw[if_neg (by rw[dw h8,hw1];decide),bind_ok (fK h8 hw1),bind_ok (BJ h9 n v9)]
  rfl
 refine(bind_ok e1).trans ?_
 rw[bind_ok (fK h10 hw2),bind_ok (pW h11 t v11),bind_ok (fK h12 hw3),bind_ok (pW Qm d v13)]
theorem free_at (i:Ins){A B X w1 w2 T w3 D:ByteArray}{q t d:Int}(hp:parties E l a=.ok ((A,B),a+4))(hs:∀j,security E l j (a+4)=.ok ({j with asset:=X,quantity:=q},a+8))
 (h8:ak l (a+8) 0 w1) (hw1:w1.data.toList=jy) (h9:ak l (a+9) 0 w2) (hw2:w2.data.toList=j4) (h10:ak l (a+10) 4 T) (v10:E.date T=(t,0))
 (h11:ak l (a+11) 0 w3) (hw3:w3.data.toList=eF) (h12:ak l (a+12) 4 D) (v12:E.date D=(d,0)):
 trade E l i a=options E l (l.length+1) {} {i with kind:=2,sender:=A,counterparty:=B,asset:=X,quantity:=q,tradeDay:=t,settleDay:=d} (a+13):=by
 unfold trade
 rw[bind_ok hp,bind_ok (hs _)]
 have e1:(λa=>if (aU l a).data.toList=jy then(.ok (({i with kind:=2,sender:=A,counterparty:=B,asset:=X,quantity:=q}:Ins),a+1):Except Er (Ins×Nat))else bind' (word l d9) (λ_=>bind' (cash E l) λn=>eB ({i with kind:=1,sender:=A,counterparty:=B,asset:=X,quantity:=q,amount:=n}:Ins)) a) (a+8)=.ok ({i with kind:=2,sender:=A,counterparty:=B,asset:=X,quantity:=q},a+9):=by
  show(if _ then _ else _)=_
  rw[if_pos (by rw[dw h8,hw1])]
 refine(bind_ok e1).trans ?_
 rw[bind_ok (fK h9 hw2),bind_ok (pW h10 t v10),bind_ok (fK h11 hw3),bind_ok (pW h12 d v12)]
theorem yu (k:Int)(i:Ins){A X w1 D:ByteArray}{q d:Int}(hb:by_ E l a=.ok (A,a+2))(hs:∀j,security E l j (a+2)=.ok ({j with asset:=X,quantity:=q},a+6))(h6:ak l (a+6) 0 w1)(hw1:w1.data.toList=eF)(h7:ak l (a+7) 4 D)(v7:E.date D=(d,0)):
 collateral E l k i a=.ok ({i with kind:=k,sender:=A,asset:=X,quantity:=q,settleDay:=d},a+8):=by
 unfold collateral
 rw[bind_ok hb,bind_ok (hs _),bind_ok (fK h6 hw1),bind_ok (pW h7 d v7)]
 rfl
end
theorem nX {E:Env}{l:List Tok}{v R:ByteArray}{k:Int}(h0:ak l 0 0 v)(hv:v.data.toList∈verbs)(h1:ak l 1 k R)(hk:k∈([1,2,4]:List Int))(vr:E.valid 2 R=true)(q:Req)(hr:rest E l v.data.toList {ref:=R} 2=.ok (q,l.length)):line E l 0=.ok (q,l.length):=by
 unfold line
 rw[if_neg (by have:=h0.lt;omega),dw h0,if_pos hv,bind_ok (Ga h1 hk vr)]
 show bind' _ _ 2=_
 rw[bind_ok hr,if_neg (by omega)]
end Go.Proofs.YtnjjeapcalkmaaaGreatDoor.Ps
