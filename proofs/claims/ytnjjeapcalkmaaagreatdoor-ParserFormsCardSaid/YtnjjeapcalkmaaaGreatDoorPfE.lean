/-
  Part 5 of a proof; written short by a program out of longer texts of mine.
-/
import Derived.Test.YtnjjeapcalkmaaaGreatDoorPfD
set_option maxRecDepth 100000
set_option maxHeartbeats 4000000
set_option linter.unusedVariables false
set_option linter.unusedSimpArgs false
namespace Go.Proofs.YtnjjeapcalkmaaaGreatDoor
open Go.RowKit
theorem Q6 (w:World)(y:Int):
 Calls Tryz.prog 280 #[.int .i64 y] w λe w'=>e=.returned (.bool (decide (y.tmod 4=0)&&!decide (y.tmod 100=0)||decide (y.tmod 400=0)))/\w=w':=by
 obtain⟨b,hb⟩:∃b,b=(decide (y.tmod 4=0)&&!decide (y.tmod 100=0)||decide (y.tmod 400=0)):=⟨_,rfl⟩
 rw[<-hb]
 have HB:=Lib.hid hb
 clear hb
 by_cases h4:y.tmod 4=0
 all_goals by_cases h100:y.tmod 100=0
 all_goals by_cases IP:y.tmod 400=0
 all_goals
  have HV:=HB.out
  simp only[h4,h100,IP,decide_true,decide_false,Bool.not_true,Bool.not_false,Bool.and_true,Bool.and_false,Bool.or_true,Bool.or_false]at HV
  subst HV
  clear HB
  go_enter Tryz.func280,Tryz.ntmps280
  go_wp2_with fail
  go_ret
  first
   |exact⟨rfl,rfl⟩
   |(refine⟨?_,rfl⟩
     show Ending.returned (.bool (y.tmod 400==0))=_
     rw[show(y.tmod 400==0)=false from by rw[beq_eq_false_iff_ne];exact IP])
def Rl (p:Int):Int:=365*p+((p+3)/4-(p+99)/100+(p+399)/400)
theorem bP {x:Int}(h: -1000000000<=x/\x<=1000000000):IntKind.i64.wrap x=x:=IntWalk.i64_in _ (by omega)
theorem zq {x y:Int}(h:0<=x):x.tdiv y=x/y:=Int.tdiv_eq_ediv_of_nonneg h
theorem OE (w:World)(y p a b c:Int)(h0:¬y<2000)(h1:IntKind.i64.wrap (y-2000)=p)(ha:(p+3).tdiv 4=a)(hb:(p+99).tdiv 100=b)(hc:(p+399).tdiv 400=c)
 (w1:IntKind.i64.wrap (p+3)=p+3) (w2:IntKind.i64.wrap (p+99)=p+99) (w3:IntKind.i64.wrap (p+399)=p+399) (w4:IntKind.i64.wrap a=a) (w5:IntKind.i64.wrap b=b) (w6:IntKind.i64.wrap c=c) (w7:IntKind.i64.wrap (a-b)=a-b) (w8:IntKind.i64.wrap (a-b+c)=a-b+c)
 (w9:IntKind.i64.wrap (365*p)=365*p) (v:Int) (w10:IntKind.i64.wrap (365*p+(a-b+c))=v):
 Calls Tryz.prog 261 #[.int .i64 y] w λe w'=>e=.returned (.int .i64 v)/\w=w':=by
 go_enter Tryz.func261,Tryz.ntmps261
 go_wp2_with fail
 go_ret
 exact⟨rfl,rfl⟩
theorem Aj (w:World)(y:Int)(h0:2000<=y)(h1:y<=3000):
 Calls Tryz.prog 261 #[.int .i64 y] w λe w'=>e=.returned (.int .i64 (Rl (y-2000)))/\w=w':=by
 refine OE w y (y-2000) ((y-2000+3)/4) ((y-2000+99)/100) ((y-2000+399)/400) (by omega) (bP (by omega)) (zq (by omega)) (zq (by omega)) (zq (by omega)) (bP (by omega)) (bP (by omega)) (bP (by omega)) (bP (by omega)) (bP (by omega)) (bP (by omega)) (bP (by omega)) (bP (by omega)) (bP (by omega)) _ ?_
 unfold Rl
 exact bP (by omega)
theorem KW (w:World)(y m:Int)(h:y<2000\/2199<y\/m<1\/12<m):
 Calls Tryz.prog 262 #[.int .i64 y,.int .i64 m] w λe w'=>e=.returned (.int .i64 0)/\Below w.heap.size w w':=by
 by_cases h1:y<2000
 all_goals by_cases h2:2199<y
 all_goals by_cases h3:m<1
 all_goals by_cases h4:12<m
 all_goals try (exfalso;omega)
 all_goals
  clear h
  go_enter Tryz.func262,Tryz.ntmps262
  go_wp2_with fail
  go_ret
  exact⟨rfl,Below.refl _ _⟩
theorem mW {y:Int}(h:0<=y)(n:Int):y.tmod n=y%n:=Int.tmod_eq_emod_of_nonneg h
theorem O9 (w:World)(y m:Int)(k:Nat)(n:Int)(h1:¬y<2000)(h2:¬2199<y)(h3:¬m<1)(h4:¬12<m)(h5:¬m=2)(hm:IntKind.i64.wrap (m-1)=(k:Int))(_hk:k<12)(PT:(k:Int)<12)
 (hn:∀w:World,(w.alloc (.cells #[.int .i64 31,.int .i64 28,.int .i64 31,.int .i64 30,.int .i64 31,.int .i64 30,.int .i64 31,.int .i64 31,.int .i64 30,.int .i64 31,.int .i64 30,.int .i64 31] 282)).cell? ⟨w.heap.size,k,none⟩=some (.int .i64 n)):
 Calls Tryz.prog 262 #[.int .i64 y,.int .i64 m] w λe w'=>e=.returned (.int .i64 n)/\Below w.heap.size w w':=by
 go_enter Tryz.func262,Tryz.ntmps262
 go_wp2_with fail
 go_ret
 exact⟨rfl,(Below.refl _ _).alloc (Nat.le_refl _) _⟩
theorem Jq (w:World)(y:Int)(b:Bool)(h1:¬y<2000)(h2:¬2199<y)(n1:∀w,Calls Tryz.prog 280 #[.int .i64 y] w λe w'=>e=.returned (.bool b)/\w=w'):
 Calls Tryz.prog 262 #[.int .i64 y,.int .i64 2] w λe w'=>e=.returned (.int .i64 (if b=true then 29 else 28))/\Below w.heap.size w w':=by
 cases b
 all_goals
  go_enter Tryz.func262,Tryz.ntmps262
  go_wp2_with (go_at_call 280;refine(n1 _).mono ?_;rintro e w1 ⟨rfl,rfl⟩)
  go_ret
  exact⟨rfl,(Below.refl _ _).alloc (Nat.le_refl _) _⟩
theorem LG (w:World)(y:Int)(h:0<=y):Calls Tryz.prog 280 #[.int .i64 y] w λe w'=>e=.returned (.bool (Ps.kT y))/\w=w':=by
 have:=Q6 w y
 rw[mW h 4,mW h 100,mW h 400]at this
 exact this
theorem FN (w:World)(y m:Int):Calls Tryz.prog 262 #[.int .i64 y,.int .i64 m] w λe w'=>e=.returned (.int .i64 (Ps.dim y m))/\Below w.heap.size w w':=by
 by_cases h:y<2000\/2199<y\/m<1\/12<m
 ·unfold Ps.dim
  rw[if_pos h]
  exact KW w y m h
 ·unfold Ps.dim
  rw[if_neg h]
  by_cases h5:m=2
  ·subst h5
   rw[if_pos rfl]
   exact Jq w y _ (by omega) (by omega) (λw=>LG w y (by omega))
  ·rw[if_neg h5]
   obtain⟨k,hk⟩:∃k:Nat,m=(k:Int)+1:=⟨(m-1).toNat,by omega⟩
   have hkl:k<12:=by omega
   refine O9 w y m k _ (by omega) (by omega) (by omega) (by omega) h5 (by rw[hk,show(k:Int)+1-1=k from by omega];exact bP (x:=(k:Int)) (by omega)) hkl (by omega) (λw=>?_)
   rw[cell_of_row _ _ _ _ _ _ (aD w _)]
   subst hk
   have hk1:k≠1:=λe=>h5 (by rw[e];rfl)
   have hc:k=0\/k=2\/k=3\/k=4\/k=5\/k=6\/k=7\/k=8\/k=9\/k=10\/k=11:=by omega
   rcases hc with rfl|rfl|rfl|rfl|rfl|rfl|rfl|rfl|rfl|rfl|rfl
   all_goals rfl
theorem Ij (w:World)(y m d:Int)(hd:d<1):
 Calls Tryz.prog 256 #[.agg #[.int .i64 y,.int .i64 m,.int .i64 d]] w λe w'=>e=.returned (.tuple #[.int .i64 0,.int .i64 28])/\Below w.heap.size w w':=by
 go_enter Tryz.func256,Tryz.ntmps256
 go_wp2_with fail
 obtain⟨W1,hW1⟩:∃W1,W1=w.alloc (Obj.cells #[.int .i64 y,.int .i64 m,.int .i64 d] 251):=⟨_,rfl⟩
 obtain⟨g,hg⟩:∃g,g=w.heap.size:=⟨_,rfl⟩
 have hrow:W1.heap[g]? =some (.cells #[.int .i64 y,.int .i64 m,.int .i64 d] 251 (0,0)):=by rw[hW1,hg];exact aD w _
 have c2:W1.cell? ⟨g,2,none⟩=some (.int .i64 d):=by rw[cell_of_row _ _ _ _ _ _ hrow];rfl
 have hB:Hid (Below w.heap.size w W1):=Lib.hid (by rw[hW1];exact(Below.refl _ _).alloc (Nat.le_refl _) _)
 rw[<-hW1,<-hg]
 clear hW1 hg hrow
 go_quiet (fail)
 go_wp2_with fail
 go_ret2
 exact⟨rfl,below_drewN' hB.out _⟩
theorem uq {W w w3:World}{g:Nat}{x0 x1 x2:Value}(h:Below W.heap.size W w/\w.cell? ⟨g,0,none⟩=some x0/\w.cell? ⟨g,1,none⟩=some x1/\w.cell? ⟨g,2,none⟩=some x2)(hb:Below w.heap.size w w3):
 Below W.heap.size W w3/\w3.cell? ⟨g,0,none⟩=some x0/\w3.cell? ⟨g,1,none⟩=some x1/\w3.cell? ⟨g,2,none⟩=some x2:=by
 obtain⟨h1,a0,a1,a2⟩:=h
 exact⟨h1.trans (hb.mono h1.size),(hb.cell (World.block_lt_of_cell? w _ a0)).trans a0,(hb.cell (World.block_lt_of_cell? w _ a1)).trans a1,(hb.cell (World.block_lt_of_cell? w _ a2)).trans a2⟩
theorem Ee (w:World)(y m d n:Int)(hd:¬d<1)(hn:n<d)(n1:Hid (∀w,Calls Tryz.prog 262 #[.int .i64 y,.int .i64 m] w λe w'=>e=.returned (.int .i64 n)/\Below w.heap.size w w')):
 Calls Tryz.prog 256 #[.agg #[.int .i64 y,.int .i64 m,.int .i64 d]] w λe w'=>e=.returned (.tuple #[.int .i64 0,.int .i64 28])/\Below w.heap.size w w':=by
 go_enter Tryz.func256,Tryz.ntmps256
 go_wp2_with fail
 obtain⟨W1,hW1⟩:∃W1,W1=w.alloc (Obj.cells #[.int .i64 y,.int .i64 m,.int .i64 d] 251):=⟨_,rfl⟩
 obtain⟨g,hg⟩:∃g,g=w.heap.size:=⟨_,rfl⟩
 have hrow:W1.heap[g]? =some (.cells #[.int .i64 y,.int .i64 m,.int .i64 d] 251 (0,0)):=by rw[hW1,hg];exact aD w _
 have c0:W1.cell? ⟨g,0,none⟩=some (.int .i64 y):=by rw[cell_of_row _ _ _ _ _ _ hrow];rfl
 have c1:W1.cell? ⟨g,1,none⟩=some (.int .i64 m):=by rw[cell_of_row _ _ _ _ _ _ hrow];rfl
 have c2:W1.cell? ⟨g,2,none⟩=some (.int .i64 d):=by rw[cell_of_row _ _ _ _ _ _ hrow];rfl
 have hB:Hid (Below w.heap.size w W1):=Lib.hid (by rw[hW1];exact(Below.refl _ _).alloc (Nat.le_refl _) _)
 rw[<-hW1,<-hg]
 clear hW1 hg hrow
 have hb0:=Below.refl W1.heap.size W1
 have hdd:decide (d<1)=false:=decide_eq_false (by omega)
 have hS0:=And.intro hb0 (And.intro c0 (And.intro c1 c2))
 go_region_held3 (λw'=>Below W1.heap.size W1 w'/\w'.cell? ⟨g,0,none⟩=some (.int .i64 y)/\w'.cell? ⟨g,1,none⟩=some (.int .i64 m)/\w'.cell? ⟨g,2,none⟩=some (.int .i64 d))
  (first|assumption|exact Below.drew (by assumption)|(refine⟨?_,?_,?_,?_⟩<;>first|assumption|exact Below.drew (by assumption)|go_keep)|go_keep)
  (first|(go_at_call 262;with_reducible refine(n1.out _).mono ?_;rintro e w3 ⟨rfl,hb3⟩;have G8:=uq (by assumption) hb3))
 have HZ:=Lib.hid (hB.out.trans (G8.1.mono hB.out.size))
 clear G8 hb3 hS0 hb0 c0 c1 c2
 go_wp2_with fail
 go_ret2
 exact⟨rfl,HZ.out⟩
theorem L8 (w:World)(y d n s t:Int)(M:Nat)(hM12:M<12)(hd:¬d<1)(hn:¬n<d)(n1:Hid (∀w,Calls Tryz.prog 262 #[.int .i64 y,.int .i64 ((M:Int)+1)] w λe w'=>e=.returned (.int .i64 n)/\Below w.heap.size w w'))
 (n2:Hid (∀w,Calls Tryz.prog 261 #[.int .i64 y] w λe w'=>e=.returned (.int .i64 s)/\w'=w)) (hs1:IntKind.i64.wrap (s+d)=s+d) (hs2:IntKind.i64.wrap (s+d-1)=t)
 (ht:t=s+d-1) (hb1:0<=t/\t<=1000000)
 (n3:Hid (∀(k:Nat) w,Calls Tryz.prog 262 #[.int .i64 y,.int .i64 ((k:Int)+1)] w λe w'=>e=.returned (.int .i64 (Ps.dim y ((k:Int)+1)))/\Below w.heap.size w w')):
 Calls Tryz.prog 256 #[.agg #[.int .i64 y,.int .i64 ((M:Int)+1),.int .i64 d]] w λe w'=>e=.returned (.tuple #[.int .i64 (t+Ps.bQ y M),.int .i64 0])/\Below w.heap.size w w':=by
 go_enter Tryz.func256,Tryz.ntmps256
 go_wp2_with fail
 obtain⟨W1,hW1⟩:∃W1,W1=w.alloc (Obj.cells #[.int .i64 y,.int .i64 ((M:Int)+1),.int .i64 d] 251):=⟨_,rfl⟩
 obtain⟨g,hg⟩:∃g,g=w.heap.size:=⟨_,rfl⟩
 have hrow:W1.heap[g]? =some (.cells #[.int .i64 y,.int .i64 ((M:Int)+1),.int .i64 d] 251 (0,0)):=by rw[hW1,hg];exact aD w _
 have c0:W1.cell? ⟨g,0,none⟩=some (.int .i64 y):=by rw[cell_of_row _ _ _ _ _ _ hrow];rfl
 have c1:W1.cell? ⟨g,1,none⟩=some (.int .i64 ((M:Int)+1)):=by rw[cell_of_row _ _ _ _ _ _ hrow];rfl
 have c2:W1.cell? ⟨g,2,none⟩=some (.int .i64 d):=by rw[cell_of_row _ _ _ _ _ _ hrow];rfl
 have hB:Hid (Below w.heap.size w W1):=Lib.hid (by rw[hW1];exact(Below.refl _ _).alloc (Nat.le_refl _) _)
 rw[<-hW1,<-hg]
 have HT:=Lib.hid ht
 clear hW1 hg hrow ht
 have hb0:=Below.refl W1.heap.size W1
 have hdd:decide (d<1)=false:=decide_eq_false (by omega)
 have hS0:=And.intro hb0 (And.intro c0 (And.intro c1 c2))
 go_region_held3 (λw'=>Below W1.heap.size W1 w'/\w'.cell? ⟨g,0,none⟩=some (.int .i64 y)/\w'.cell? ⟨g,1,none⟩=some (.int .i64 ((M:Int)+1))/\w'.cell? ⟨g,2,none⟩=some (.int .i64 d))
  (first|assumption|exact Below.drew (by assumption)|(refine⟨?_,?_,?_,?_⟩<;>first|assumption|exact Below.drew (by assumption)|go_keep)|go_keep)
  (first|(go_at_call 262;with_reducible refine(n1.out _).mono ?_;rintro e w3 ⟨rfl,hb3⟩;have G8:=uq (by assumption) hb3))
 clear hS0 hb0 c0 c1 c2 hb3 n1
 have HS:=Lib.hid G8
 obtain⟨hb4,e0,e1,e2⟩:=G8
 clear hb4
 go_wp2_with fail
 go_quiet ((go_at_call 261;with_reducible exact Calls.quiet_of_same (n2.out _)))
 go_wp2_with fail
 have HS1:=Lib.hid (λn=>uq HS.out (below_drewN' (Below.refl w3.heap.size w3) n))
 go_loopw [4,5] (λnv mv wr=>∃k:Nat,nv=.int .i64 (t+Ps.bQ y k)/\mv=.int .i64 ((k:Int)+1)/\k<=M/\Hid (Below W1.heap.size W1 wr/\wr.cell? ⟨g,0,none⟩=some (.int .i64 y)/\wr.cell? ⟨g,1,none⟩=some (.int .i64 ((M:Int)+1))/\wr.cell? ⟨g,2,none⟩=some (.int .i64 d))) (λ_ mv _=>20-(RowKit.intOf mv).toNat)
 case atStart=>
  refine⟨0,?_,rfl,Nat.zero_le _,Lib.hid (HS1.out _)⟩
  simp[Ps.bQ]
 case round=>
  obtain⟨k,rfl,rfl,hk,HK⟩:=hrel
  obtain⟨hb5,a0,a1,a2⟩:=HK.out
  clear hb5
  have hms:=Ps.ul y k
  by_cases hlt:k<M
  ·have PT:(k:Int)<(M:Int):=by omega
   have hkI2:(k:Int)+1<(M:Int)+1:=by omega
   have m3:=n3.out k wr
   have hdm:=Ps.ry y ((k:Int)+1)
   have hw6:IntKind.i64.wrap (t+Ps.bQ y k+Ps.dim y ((k:Int)+1))=t+Ps.bQ y k+Ps.dim y ((k:Int)+1):=bP (by omega)
   have hw7:IntKind.i64.wrap ((k:Int)+1+1)=(k:Int)+1+1:=bP (by omega)
   have HN:Hid (t+Ps.bQ y k+Ps.dim y ((k:Int)+1)=t+Ps.bQ y (k+1)):=Lib.hid (by rw[Ps.bQ];omega)
   clear hms hdm n3
   go_wp2_with fail
   refine m3.mono ?_
   rintro e w5 ⟨rfl,hb5⟩
   have HK2:=Lib.hid (uq HK.out hb5)
   clear m3 hb5 a0 a1 a2
   go_wp2_with fail
   refine⟨⟨k+1,by rw[HN.out],by push_cast;rfl,by omega,HK2⟩,?_⟩
   simp[RowKit.intOf]<;>omega
  ·have hkI2:¬(k:Int)+1<(M:Int)+1:=by omega
   obtain rfl:k=M:=by omega
   clear hms n3
   go_wp2_with fail
   go_ret2
   exact⟨rfl,hB.out.trans (HK.out.1.mono hB.out.size)⟩
theorem Ay (w:World)(y m d:Int)(hd:d<=1000000000):
 Calls Tryz.prog 256 #[.agg #[.int .i64 y,.int .i64 m,.int .i64 d]] w λe w'=>e=.returned (.tuple #[.int .i64 (Ps.civil y m d).1,.int .i64 (Ps.civil y m d).2])/\Below w.heap.size w w':=by
 unfold Ps.civil
 by_cases h1:d<1
 ·rw[if_pos (.inl h1)]
  exact Ij w y m d h1
 ·by_cases h2:Ps.dim y m<d
  ·rw[if_pos (.inr h2)]
   exact Ee w y m d _ h1 h2 (Lib.hid λw=>FN w y m)
  ·rw[if_neg (by omega)]
   obtain⟨hy1,hy2,hm1,hm2⟩:=Ps.Gu (y:=y) (m:=m) (by omega)
   obtain⟨M,rfl⟩:∃M:Nat,m=(M:Int)+1:=⟨(m-1).toNat,by omega⟩
   have hs:=Ps.Dt (p:=y-2000) (by omega) (by omega)
   have hdl:=Ps.ry y ((M:Int)+1)
   have:=L8 w y d (Ps.dim y ((M:Int)+1)) (Ps.bD (y-2000)) (Ps.bD (y-2000)+d-1) M (by omega) h1 h2 (Lib.hid λw=>FN w y _) (Lib.hid λw=>(Aj w y hy1 (by omega)).mono λe w' ⟨a,b⟩=>⟨a,b.symm⟩)
    (bP (by omega)) (bP (by omega)) rfl (by omega) (Lib.hid λk w=>FN w y _)
   rw[show((M:Int)+1-1).toNat=M from by omega]
   exact this
theorem MF {x:Int}{n:Nat}(h:x=(n:Int)/\n<=1000000000):IntKind.i64.wrap x=(n:Int):=by rw[h.1];exact bP (by omega)
theorem MP {x:Int}(h:0<=x/\x<=255):IntKind.u8.wrap x=x:=IntWalk.u8_in _ (by omega)
def yE (f c:Int):Prop:=(f=48/\48<=c/\c<=57)\/(f≠48/\c=f)
theorem AO (w:World)(s f:ByteArray)(hs:¬(s.size:Int)=(f.size:Int))(_h1:s.size<=1000000)(_h2:f.size<=1000):
 Calls Tryz.prog 255 #[.string s,.string f] w λe w'=>e=.returned (.tuple #[.nilFunc,.bool false])/\Below w.heap.size w w':=by
 go_enter Tryz.func255,Tryz.ntmps255
 go_wp2_with fail
 go_ret2
 exact⟨rfl,(Below.refl _ _).alloc (Nat.le_refl _) _⟩
theorem AZ (w:World)(s f:ByteArray)(hs:(s.size:Int)=(f.size:Int))(h1:s.size<=1000000)(h2:f.size<=1000)(j:Nat)(hj:j<f.size)(hall:Hid (∀i,i<j->yE (PlainAid.bt f i) (PlainAid.bt s i)))(hbad:Hid (¬yE (PlainAid.bt f j) (PlainAid.bt s j))):
 Calls Tryz.prog 255 #[.string s,.string f] w λe w'=>e=.returned (.tuple #[.nilFunc,.bool false])/\Below w.heap.size w w':=by
 have hub:=PlainAid.get_bt s
 have hfb:=PlainAid.get_bt f
 go_enter Tryz.func255,Tryz.ntmps255
 go_wp2_with fail
 obtain⟨W1,hW1⟩:∃W1,W1=w.alloc (Obj.cells #[.string s] 9):=⟨_,rfl⟩
 obtain⟨g,hg⟩:∃g,g=w.heap.size:=⟨_,rfl⟩
 have hrow:W1.heap[g]? =some (.cells #[.string s] 9 (0,0)):=by rw[hW1,hg];exact aD w _
 have c0:W1.cell? ⟨g,0,none⟩=some (.string s):=by rw[cell_of_row _ _ _ _ _ _ hrow];rfl
 have hB:Hid (Below w.heap.size w W1):=Lib.hid (by rw[hW1];exact(Below.refl _ _).alloc (Nat.le_refl _) _)
 rw[<-hW1,<-hg]
 clear hW1 hg hrow
 go_loopw [6,14] (λ_ iv wr=>∃i:Nat,iv=.int .i64 i/\i<=j/\∃n,wr=W1.drewN n) (λ_ iv _=>2000-(RowKit.intOf iv).toNat)
 case atStart=>exact⟨0,rfl,Nat.zero_le _,0,rfl⟩
 case round=>
  obtain⟨i,rfl,hi,n,rfl⟩:=hrel
  have c1:(W1.drewN n).cell? ⟨g,0,none⟩=some (.string s):=c0
  have hif:i<f.size:=by omega
  have Cc:(i:Int)<(s.size:Int):=by omega
  have hifI:(i:Int)<(f.size:Int):=by omega
  have his:i<s.size:=by omega
  by_cases hij:i<j
  ·have hf:=hall.out i hij
   have hw1:wrap64 ((i:Int)+1)=((i+1:Nat):Int):=by unfold wrap64;omega
   rcases hf with⟨x0,x1,x2⟩|⟨x0,x1⟩
   ·have y0:(PlainAid.bt f i==48)=true:=by rw[x0];rfl
    have y1:decide (PlainAid.bt s i<48)=false:=decide_eq_false (by omega)
    have y2:decide (57<PlainAid.bt s i)=false:=decide_eq_false (by omega)
    clear x1 x2 hall hbad hj hs hi
    go_wp2_with fail
    go_big_quiet (fail)
    go_wp2_with fail
    refine⟨⟨i+1,by first|rfl|go_num,by omega,?_⟩,by simp[RowKit.intOf]<;>omega⟩
    first|exact⟨_,rfl⟩|exact⟨_,World.drewN_drewN _ _ _⟩
   ·have y0:(PlainAid.bt f i==48)=false:=by rw[beq_eq_false_iff_ne];exact x0
    have y1:(PlainAid.bt s i==PlainAid.bt f i)=true:=by rw[x1];exact beq_self_eq_true _
    have y2:(PlainAid.bt f i !=48)=true:=by rw[bne,y0];rfl
    have y3:(PlainAid.bt s i !=PlainAid.bt f i)=false:=by rw[bne,y1];rfl
    clear hall hbad hj hs hi
    go_wp2_with fail
    go_big_quiet (fail)
    go_wp2_with fail
    refine⟨⟨i+1,by first|rfl|go_num,by omega,?_⟩,by simp[RowKit.intOf]<;>omega⟩
    first|exact⟨_,rfl⟩|exact⟨_,World.drewN_drewN _ _ _⟩
  ·obtain rfl:i=j:=by omega
   have hb:=hbad.out
   have hcs:(PlainAid.bt f i=48/\PlainAid.bt s i<48)\/(PlainAid.bt f i=48/\¬PlainAid.bt s i<48/\57<PlainAid.bt s i)\/(PlainAid.bt f i≠48/\PlainAid.bt s i≠PlainAid.bt f i):=by
    unfold yE at hb
    by_cases h48:PlainAid.bt f i=48
    ·by_cases hlo:PlainAid.bt s i<48
     ·exact .inl ⟨h48,hlo⟩
     ·exact .inr (.inl ⟨h48,hlo,by
       rcases Int.lt_or_le 57 (PlainAid.bt s i)with h|h
       ·exact h
       ·exact absurd (.inl ⟨h48,by omega,by omega⟩) hb⟩)
    ·exact .inr (.inr ⟨h48,λh=>hb (.inr ⟨h48,h⟩)⟩)
   clear hb
   rcases hcs with⟨x0,x1⟩|⟨x0,x1,x2⟩|⟨x0,x1⟩
   ·have y0:(PlainAid.bt f i==48)=true:=by rw[x0];rfl
    have y1:decide (PlainAid.bt s i<48)=true:=decide_eq_true x1
    clear hall hbad hj hs hi
    go_wp2_with fail
    go_big_quiet (fail)
    go_wp2_with fail
    go_ret2
    exact⟨rfl,by first|exact below_drewN' hB.out _|exact below_drewN' (below_drewN' hB.out _) _⟩
   ·have y0:(PlainAid.bt f i==48)=true:=by rw[x0];rfl
    have y1:decide (PlainAid.bt s i<48)=false:=decide_eq_false x1
    have y2:decide (57<PlainAid.bt s i)=true:=decide_eq_true x2
    clear hall hbad hj hs hi
    go_wp2_with fail
    go_big_quiet (fail)
    go_wp2_with fail
    go_ret2
    exact⟨rfl,by first|exact below_drewN' hB.out _|exact below_drewN' (below_drewN' hB.out _) _⟩
   ·have y0:(PlainAid.bt f i==48)=false:=by rw[beq_eq_false_iff_ne];exact x0
    have y1:(PlainAid.bt s i==PlainAid.bt f i)=false:=by rw[beq_eq_false_iff_ne];exact x1
    have y2:(PlainAid.bt f i !=48)=true:=by rw[bne,y0];rfl
    have y3:(PlainAid.bt s i !=PlainAid.bt f i)=true:=by rw[bne,y1];rfl
    clear hall hbad hj hs hi
    go_wp2_with fail
    go_big_quiet (fail)
    go_wp2_with fail
    go_ret2
    exact⟨rfl,by first|exact below_drewN' hB.out _|exact below_drewN' (below_drewN' hB.out _) _⟩
theorem DX (w:World)(s f:ByteArray)(hs:(s.size:Int)=(f.size:Int))(h1:s.size<=1000000)(h2:f.size<=1000)(hall:Hid (∀i,i<f.size->yE (PlainAid.bt f i) (PlainAid.bt s i))):
 Calls Tryz.prog 255 #[.string s,.string f] w λe w'=>e=.returned (.tuple #[.func (.func 279) #[] #[.pointer (some ⟨w.heap.size,0,none⟩)],.bool true])/\Below w.heap.size w w'/\w'.cell? ⟨w.heap.size,0,none⟩=some (.string s):=by
 have hub:=PlainAid.get_bt s
 have hfb:=PlainAid.get_bt f
 go_enter Tryz.func255,Tryz.ntmps255
 go_wp2_with fail
 obtain⟨W1,hW1⟩:∃W1,W1=w.alloc (Obj.cells #[.string s] 9):=⟨_,rfl⟩
 obtain⟨g,hg⟩:∃g,g=w.heap.size:=⟨_,rfl⟩
 have hrow:W1.heap[g]? =some (.cells #[.string s] 9 (0,0)):=by rw[hW1,hg];exact aD w _
 have c0:W1.cell? ⟨g,0,none⟩=some (.string s):=by rw[cell_of_row _ _ _ _ _ _ hrow];rfl
 have hB:Hid (Below w.heap.size w W1):=Lib.hid (by rw[hW1];exact(Below.refl _ _).alloc (Nat.le_refl _) _)
 have HG:=Lib.hid hg
 rw[<-hW1,<-hg]
 clear hW1 hg hrow
 go_loopw [6,14] (λ_ iv wr=>∃i:Nat,iv=.int .i64 i/\i<=f.size/\∃n,wr=W1.drewN n) (λ_ iv _=>2000-(RowKit.intOf iv).toNat)
 case atStart=>exact⟨0,rfl,Nat.zero_le _,0,rfl⟩
 case round=>
  obtain⟨i,rfl,hi,n,rfl⟩:=hrel
  have c1:(W1.drewN n).cell? ⟨g,0,none⟩=some (.string s):=c0
  by_cases hif:i<f.size
  ·have Cc:(i:Int)<(s.size:Int):=by omega
   have hifI:(i:Int)<(f.size:Int):=by omega
   have his:i<s.size:=by omega
   have hf:=hall.out i hif
   have hw1:wrap64 ((i:Int)+1)=((i+1:Nat):Int):=by unfold wrap64;omega
   rcases hf with⟨x0,x1,x2⟩|⟨x0,x1⟩
   ·have y0:(PlainAid.bt f i==48)=true:=by rw[x0];rfl
    have y1:decide (PlainAid.bt s i<48)=false:=decide_eq_false (by omega)
    have y2:decide (57<PlainAid.bt s i)=false:=decide_eq_false (by omega)
    clear x1 x2 hall hs hi
    go_wp2_with fail
    go_big_quiet (fail)
    go_wp2_with fail
    refine⟨⟨i+1,by first|rfl|go_num,by omega,?_⟩,by simp[RowKit.intOf]<;>omega⟩
    first|exact⟨_,rfl⟩|exact⟨_,World.drewN_drewN _ _ _⟩
   ·have y0:(PlainAid.bt f i==48)=false:=by rw[beq_eq_false_iff_ne];exact x0
    have y1:(PlainAid.bt s i==PlainAid.bt f i)=true:=by rw[x1];exact beq_self_eq_true _
    have y2:(PlainAid.bt f i !=48)=true:=by rw[bne,y0];rfl
    have y3:(PlainAid.bt s i !=PlainAid.bt f i)=false:=by rw[bne,y1];rfl
    clear hall hs hi
    go_wp2_with fail
    go_big_quiet (fail)
    go_wp2_with fail
    refine⟨⟨i+1,by first|rfl|go_num,by omega,?_⟩,by simp[RowKit.intOf]<;>omega⟩
    first|exact⟨_,rfl⟩|exact⟨_,World.drewN_drewN _ _ _⟩
  ·obtain rfl:i=f.size:=by omega
   have hifI:¬((f.size:Nat):Int)<(f.size:Int):=by omega
   have C1:=Lib.hid c1
   clear hall hs hi c1
   go_wp2_with fail
   go_ret2
   rw[<-HG.out]
   have hB2:=hB.out
   rw[<-HG.out]at hB2
   exact⟨rfl,below_drewN' hB2 _,C1.out⟩
theorem KU (w:World)(s:ByteArray)(g a k:Nat)(hs:a+k<=s.size)(h1:s.size<=1000000)(hk:k<=6)(hc:w.cell? ⟨g,0,none⟩=some (.string s))(hd:Hid (∀i,i<k->48<=PlainAid.bt s (a+i)/\PlainAid.bt s (a+i)<=57))
 (V:Nat->Int) (h0:V 0=0) (hV:Hid (∀i,i<k->V (i+1)=10*V i+(PlainAid.bt s (a+i)-48))) (hb:Hid (∀i,i<=k->0<=V i/\V i<=1000000)):
 Calls Tryz.prog 279 #[.int .i64 a,.int .i64 k,.pointer (some ⟨g,0,none⟩)] w λe w'=>e=.returned (.int .i64 (V k))/\w=w':=by
 have hub:=PlainAid.get_bt s
 have H0:=Lib.hid h0
 clear h0
 go_enter Tryz.func279,Tryz.ntmps279
 go_wp2_with fail
 go_loopw [6,7,9] (λnv _ iv wr=>∃i:Nat,nv=.int .i64 (V i)/\iv=.int .i64 i/\i<=k/\wr=w) (λ_ _ iv _=>100-(RowKit.intOf iv).toNat)
 case atStart=>exact⟨0,by rw[H0.out],rfl,Nat.zero_le _,rfl⟩
 case round=>
  obtain⟨i,rfl,rfl,hi,rfl⟩:=hrel
  by_cases hik:i<k
  ·have hikI:(i:Int)<(k:Int):=by omega
   obtain⟨d0,d1⟩:=hd.out i hik
   obtain⟨b0,b1⟩:=hb.out i hi
   have hv:=hV.out i hik
   obtain⟨x,hx⟩:∃x,x=V i:=⟨_,rfl⟩
   have hai:wrap64 ((a:Int)+(i:Int))=((a+i:Nat):Int):=by unfold wrap64;omega
   have hai2:IntKind.i64.wrap ((a:Int)+(i:Int))=((a+i:Nat):Int):=MF (by omega)
   have hlt:a+i<s.size:=by omega
   have q9:((a+i:Nat):Int)<(s.size:Int):=by omega
   have hw1:IntKind.i64.wrap (10*x)=10*x:=bP (by omega)
   have hw2:IntKind.u8.wrap (PlainAid.bt s (a+i)-48)=PlainAid.bt s (a+i)-48:=MP (by omega)
   have hw4:IntKind.i64.wrap (PlainAid.bt s (a+i)-48)=PlainAid.bt s (a+i)-48:=bP (by omega)
   have hw3:IntKind.i64.wrap (10*x+(PlainAid.bt s (a+i)-48))=10*x+(PlainAid.bt s (a+i)-48):=bP (by omega)
   have HV:Hid (V (i+1)=10*x+(PlainAid.bt s (a+i)-48)):=Lib.hid (by rw[hv,hx])
   rw[<-hx]
   clear hd hb hV d0 d1 b0 b1 hv hx
   go_wp2_with fail
   refine⟨⟨i+1,by rw[HV.out],by first|rfl|go_num,by omega,by trivial⟩,by simp[RowKit.intOf]<;>omega⟩
  ·obtain rfl:i=k:=by omega
   have hikI:¬(i:Int)<(i:Int):=by omega
   clear hd hb hV
   go_wp2_with fail
   go_ret
   exact⟨rfl,rfl⟩
theorem Br (w:World)(s:ByteArray)(n1:Calls Tryz.prog 255 #[.string s,.string ⟨#[48,48,48,48,45,48,48,45,48,48]⟩] w λe w'=>e=.returned (.tuple #[.nilFunc,.bool false])/\Below w.heap.size w w'):
 Calls Tryz.prog 227 #[.string s] w λe w'=>e=.returned (.tuple #[.int .i64 0,.int .i64 3])/\Below w.heap.size w w':=by
 go_enter Tryz.func227,Tryz.ntmps227
 go_wp2_with fail
 refine n1.mono ?_
 rintro e w1 ⟨rfl,hb⟩
 have HB:=Lib.hid hb
 clear n1 hb
 go_wp2_with fail
 go_ret2
 exact⟨rfl,HB.out⟩
theorem Fw (w:World)(s:ByteArray)(g:Nat)(y m d a b:Int)
 (eg:∀args w,(callFunc 279 args).run Tryz.prog w=.ok (.enter 279 args) w)
 (n1:Calls Tryz.prog 255 #[.string s,.string ⟨#[48,48,48,48,45,48,48,45,48,48]⟩] w λe w'=>e=.returned (.tuple #[.func (.func 279) #[] #[.pointer (some ⟨g,0,none⟩)],.bool true])/\Below w.heap.size w w'/\w'.cell? ⟨g,0,none⟩=some (.string s))
 (n2:Hid (∀w,w.cell? ⟨g,0,none⟩=some (.string s)->Calls Tryz.prog 279 #[.int .i64 0,.int .i64 4,.pointer (some ⟨g,0,none⟩)] w λe w'=>e=.returned (.int .i64 y)/\w=w'))
 (n3:Hid (∀w,w.cell? ⟨g,0,none⟩=some (.string s)->Calls Tryz.prog 279 #[.int .i64 5,.int .i64 2,.pointer (some ⟨g,0,none⟩)] w λe w'=>e=.returned (.int .i64 m)/\w=w'))
 (n4:Hid (∀w,w.cell? ⟨g,0,none⟩=some (.string s)->Calls Tryz.prog 279 #[.int .i64 8,.int .i64 2,.pointer (some ⟨g,0,none⟩)] w λe w'=>e=.returned (.int .i64 d)/\w=w'))
 (n5:Hid (∀w,Calls Tryz.prog 256 #[.agg #[.int .i64 y,.int .i64 m,.int .i64 d]] w λe w'=>e=.returned (.tuple #[.int .i64 a,.int .i64 b])/\Below w.heap.size w w')):
 Calls Tryz.prog 227 #[.string s] w λe w'=>e=.returned (.tuple #[.int .i64 a,.int .i64 b])/\Below w.heap.size w w':=by
 go_enter Tryz.func227,Tryz.ntmps227
 go_wp2_with fail
 refine n1.mono ?_
 rintro e w1 ⟨rfl,hb,hc⟩
 have HB:=Lib.hid hb
 have m2:=n2.out w1 hc
 have m3:=n3.out w1 hc
 have m4:=n4.out w1 hc
 have m5:=n5.out w1
 clear n1 hb n2 n3 n4 n5
 go_wp2_with (go_at_fn 279;first|(with_reducible refine m2.mono ?_;rintro e w2 ⟨rfl,rfl⟩)|(with_reducible refine m3.mono ?_;rintro e w2 ⟨rfl,rfl⟩)|(with_reducible refine m4.mono ?_;rintro e w2 ⟨rfl,rfl⟩))
 refine m5.mono ?_
 rintro e w6 ⟨rfl,hb6⟩
 have Kt:=Lib.hid (HB.out.trans (hb6.mono HB.out.size))
 clear m2 m3 m4 m5 hb6 eg
 go_wp2_with fail
 go_ret2
 exact⟨rfl,Kt.out⟩
theorem nu (s:ByteArray)(i:Nat)(c:UInt8)(h:s.data.toList[i]? =some c):PlainAid.bt s i=(c.toNat:Int):=by
 have hlt:i<s.size:=by
  have:=(List.getElem?_eq_some_iff.1 h).1
  rw[Lib.size_eq];exact this
 rw[<-PlainAid.get_bt s i hlt]
 have h2:=(List.getElem?_eq_some_iff.1 h).2
 have:s[i]=c:=by rw[<-h2];rfl
 rw[this]
theorem vI:∀(f l:List UInt8),Ps.fits f l=true↔(l.length=f.length/\∀(i:Nat) (x c:UInt8),f[i]? =some x->l[i]? =some c->Ps.fit x c=true)
 |[],[]=>by simp[Ps.fits]
 |[],_::_=>by simp[Ps.fits]
 |_::_,[]=>by simp[Ps.fits]
 |x::f,c::l=>by
  have ih:=vI f l
  unfold Ps.fits at ih⊢
  simp only[List.length_cons,List.zip_cons_cons,List.all_cons,Bool.and_eq_true,decide_eq_true_eq]at ih⊢
  constructor
  ·rintro⟨h1,h2,h3⟩
   have h4:=ih.1 ⟨by omega,h3⟩
   refine⟨h1,λi y d hy hd=>?_⟩
   cases i with
   |zero=>simp at hy hd;subst hy;subst hd;exact h2
   |succ i=>exact h4.2 i y d (by simpa using hy) (by simpa using hd)
  ·rintro⟨h1,h2⟩
   have h4:=ih.2 ⟨by omega,λi y d hy hd=>h2 (i+1) y d (by simpa using hy) (by simpa using hd)⟩
   exact⟨h1,h2 0 x c rfl rfl,h4.2⟩
theorem RG (x c:UInt8):Ps.fit x c=true↔yE (x.toNat:Int) (c.toNat:Int):=by
 unfold Ps.fit yE
 by_cases h:x=48
 ·subst h
  rw[if_pos rfl]
  unfold Lx.digit
  simp only[Bool.and_eq_true,decide_eq_true_eq]
  have e:((48:UInt8).toNat:Int)=48:=rfl
  rw[e]
  omega
 ·rw[if_neg h]
  have hne:¬((x.toNat:Int)=48):=λe=>h (by
   apply UInt8.toNat_inj.1
   have:x.toNat=48:=by omega
   rw[this];rfl)
  rw[beq_iff_eq,<-UInt8.toNat_inj]
  constructor
  ·intro e;exact .inr ⟨hne,by rw[e]⟩
  ·rintro(⟨e,_⟩|⟨_,e⟩)
   ·exact absurd e hne
   ·omega
theorem DC (l:List UInt8)(c:UInt8):Ps.num (l++[c])=10*Ps.num l+(c.toNat-48):=by unfold Ps.num;rw[List.foldl_append];rfl
theorem En:∀(k:Nat) (l:List UInt8),l.length<=k->(∀c∈l,Lx.digit (c.toNat:Int)=true)->Ps.num l<10^k
 |0,l,h,_=>by
  obtain rfl:l=[]:=List.eq_nil_of_length_eq_zero (by omega)
  decide
 |k+1,l,h,hd=>by
  rcases List.eq_nil_or_concat l with rfl|⟨t,c,rfl⟩
  ·show 0<10^(k+1)
   exact Nat.pos_of_ne_zero (by simp)
  ·rw[List.concat_eq_append]at *
   have ih:=En k t (by simp at h;omega) (λx hx=>hd x (by simp[hx]))
   have hc:=hd c (by simp)
   unfold Lx.digit at hc
   simp only[Bool.and_eq_true,decide_eq_true_eq]at hc
   rw[DC,Nat.pow_succ]
   omega
theorem Ej (s:ByteArray)(a k:Nat)(w:World)(g:Nat)(hs:s.size=10)(hak:a+k<=10)(hk:k<=6)(hc:w.cell? ⟨g,0,none⟩=some (.string s))(hd:∀(i:Nat) (c:UInt8),i<k->s.data.toList[a+i]? =some c->Lx.digit (c.toNat:Int)=true):
 Calls Tryz.prog 279 #[.int .i64 a,.int .i64 k,.pointer (some ⟨g,0,none⟩)] w λe w'=>e=.returned (.int .i64 (Ps.num ((s.data.toList.drop a).take k)))/\w=w':=by
 have hl:s.data.toList.length=10:=by rw[<-Lib.size_eq];exact hs
 have hget:∀i,i<k->∃c,s.data.toList[a+i]? =some c:=λi hi=>⟨_,List.getElem?_eq_getElem (by omega)⟩
 refine KU w s g a k (by omega) (by omega) hk hc (Lib.hid λi hi=>?_) (λi=>(Ps.num ((s.data.toList.drop a).take i):Int)) rfl (Lib.hid λi hi=>?_) (Lib.hid λi hi=>?_)
 ·obtain⟨c,hci⟩:=hget i hi
  have:=hd i c hi hci
  unfold Lx.digit at this
  simp only[Bool.and_eq_true,decide_eq_true_eq]at this
  rw[nu s _ c hci]
  exact this
 ·obtain⟨c,hci⟩:=hget i hi
  have GZ:=hd i c hi hci
  unfold Lx.digit at GZ
  simp only[Bool.and_eq_true,decide_eq_true_eq]at GZ
  have e1:(s.data.toList.drop a).take (i+1)=(s.data.toList.drop a).take i++[c]:=by
   rw[List.take_add_one,List.getElem?_drop,hci];rfl
  rw[e1,DC,nu s _ c hci]
  omega
 ·have h1:=En 6 ((s.data.toList.drop a).take i) (by rw[List.length_take];omega) (λc hc=>by
   obtain⟨j,hj,rfl⟩:=List.getElem_of_mem hc
   rw[List.length_take]at hj
   have hj2:(s.data.toList.drop a)[j]? =some (((s.data.toList.drop a).take i)[j]'(by rw[List.length_take];exact hj)):=by
    rw[List.getElem_take]
    exact List.getElem?_eq_getElem _
   rw[List.getElem?_drop]at hj2
   exact hd j _ (by omega) hj2)
  omega
theorem LB (s:ByteArray)(w:World)(hs:s.size<=1000000):
 Calls Tryz.prog 227 #[.string s] w λe w'=>e=.returned (.tuple #[.int .i64 (Ps.fo s).1,.int .i64 (Ps.fo s).2])/\Below w.heap.size w w':=by
 have eg:=enters_of Tryz.func279 (by kernel_rfl) rfl
 obtain⟨F,hF⟩:∃F:ByteArray,F=⟨#[48,48,48,48,45,48,48,45,48,48]⟩:=⟨_,rfl⟩
 have hFs:F.size=10:=by rw[hF];rfl
 have hFl:F.data.toList=Ps.form:=by rw[hF];rfl
 have hFl2:Ps.form.length=10:=rfl
 have hsl:=Lib.size_eq s
 unfold Ps.fo
 by_cases hf:Ps.fits Ps.form s.data.toList=true
 ·rw[if_pos hf]
  obtain⟨h1,h2⟩:=(vI _ _).1 hf
  have hs10:s.size=10:=by omega
  have hget:∀i,i<10->∃x c,Ps.form[i]? =some x/\s.data.toList[i]? =some c:=λi hi=>⟨_,_,List.getElem?_eq_getElem (by omega),List.getElem?_eq_getElem (by omega)⟩
  have n1:=DX w s F (by omega) hs (by omega) (Lib.hid λi hi=>by
   obtain⟨x,c,hx,hc⟩:=hget i (by omega)
   rw[nu s i c hc,nu F i x (by rw[hFl];exact hx)]
   exact(RG x c).1 (h2 i x c hx hc))
  have hdig:∀(i:Nat) (c:UInt8),Ps.form[i]? =some 48->s.data.toList[i]? =some c->Lx.digit (c.toNat:Int)=true:=λi c hi hc=>by
   have:=h2 i 48 c hi hc
   unfold Ps.fit at this
   rwa [if_pos rfl]at this
  rw[hF]at n1
  have k4:∀i,i<4->Ps.form[0+i]? =some 48:=by decide
  have k5:∀i,i<2->Ps.form[5+i]? =some 48:=by decide
  have k8:∀i,i<2->Ps.form[8+i]? =some 48:=by decide
  refine Fw w s w.heap.size _ _ _ _ _ eg n1 (Lib.hid λw1 hc=>?_) (Lib.hid λw1 hc=>?_) (Lib.hid λw1 hc=>?_) (Lib.hid λw1=>Ay w1 _ _ _ ?_)
  ·exact Ej s 0 4 w1 _ hs10 (by omega) (by omega) hc (λi c hi hci=>hdig _ c (k4 i hi) hci)
  ·exact Ej s 5 2 w1 _ hs10 (by omega) (by omega) hc (λi c hi hci=>hdig _ c (k5 i hi) hci)
  ·exact Ej s 8 2 w1 _ hs10 (by omega) (by omega) hc (λi c hi hci=>hdig _ c (k8 i hi) hci)
  ·have:=En 2 ((s.data.toList.drop 8).take 2) (by rw[List.length_take];omega) (λc hc=>by
    obtain⟨j,hj,rfl⟩:=List.getElem_of_mem hc
    rw[List.length_take]at hj
    have hj2:(s.data.toList.drop 8)[j]? =some (((s.data.toList.drop 8).take 2)[j]'(by rw[List.length_take];exact hj)):=by
     rw[List.getElem_take]
     exact List.getElem?_eq_getElem _
    rw[List.getElem?_drop]at hj2
    exact hdig _ _ (k8 j (by omega)) hj2)
   omega
 ·rw[if_neg hf]
  refine Br w s ?_
  rw[<-hF]
  by_cases hl:s.size=10
  ·have hex:∃j,j<10/\¬yE (PlainAid.bt F j) (PlainAid.bt s j):=by
    apply Classical.byContradiction
    intro hno
    apply hf
    refine(vI _ _).2 ⟨by omega,λi x c hx hc=>?_⟩
    apply Classical.byContradiction
    intro hnf
    have hi:i<10:=by have:=(List.getElem?_eq_some_iff.1 hx).1;omega
    exact hno ⟨i,hi,λh=>hnf ((RG x c).2 (by rw[nu s i c hc,nu F i x (by rw[hFl];exact hx)]at h;exact h))⟩
   obtain⟨j,⟨hj1,hj2⟩,hmin⟩:∃j,(j<10/\¬yE (PlainAid.bt F j) (PlainAid.bt s j))/\∀i,i<j->yE (PlainAid.bt F i) (PlainAid.bt s i):=by
    obtain⟨j,hj⟩:=hex
    induction j using Nat.strongRecOn with
    |ind j ih=>
     by_cases h:∃i,i<j/\¬yE (PlainAid.bt F i) (PlainAid.bt s i)
     ·obtain⟨i,hi,hn⟩:=h
      exact ih i hi ⟨by omega,hn⟩
     ·exact⟨j,hj,λi hi=>Classical.byContradiction λhn=>h ⟨i,hi,hn⟩⟩
   exact AZ w s F (by omega) hs (by omega) j (by omega) (Lib.hid hmin) (Lib.hid hj2)
  ·exact AO w s F (by omega) hs (by omega)
structure lS (m:Int)(kb ko kc:Nat)(W0:World):Prop where
 lx:ll m kb ko kc W0
 id:mE W0
 pr:∀w,Below W0.heap.size W0 w->vH w
 am:tq m W0
theorem lS.below {m:Int}{kb ko kc:Nat}{W0 w:World}(h:lS m kb ko kc W0)(hb:Below W0.heap.size W0 w):lS m kb ko kc w:=
 ⟨h.lx.below hb,λw' hw'=>h.id w' (hb.trans (hw'.mono hb.size)),λw' hw'=>h.pr w' (hb.trans (hw'.mono hb.size)),h.am.below hb⟩
def az:Ps.Env:=psE (qY xn) oI (kC Ps.fo)
def psR:Ps.Req->Int:=Ps.yN az.valid
theorem Qi {m:Int}{kb ko kc:Nat}{W0:World}(h:lS m kb ko kc W0):oQ 225 W0 (qY xn):=
 ps_amt m kb ko kc h.lx xn λw s hw hs hd=>JU s w m hs (h.am.below hw) hd
theorem pv_qty {m:Int}{kb ko kc:Nat}{W0:World}(h:lS m kb ko kc W0):oQ 257 W0 oI:=ps_qty m kb ko kc h.lx h.am
theorem pv_day (W0:World):oQ 226 W0 (kC Ps.fo):=
 KT Ps.fo (λs=>by have:=Ps.KE s;exact bP (by omega)) λw s _ hs=>LB s w hs
theorem Ll (D:ByteArray->Int×Int)(s:ByteArray):(kC D s).2=0\/kC D s=(0,28):=by
 unfold kC
 split
 ·exact .inl rfl
 ·exact .inr rfl
def ChkC (W0:World):Prop:=∀(w:World) (B:Nat) (Q:Ps.Req) (a:Option Addr) (n c:Nat),Below W0.heap.size W0 w->eP w B (.slice a n c) Q.ins.links->
 Calls Tryz.prog 30 #[.agg (aA Q (.slice a n c))] w λe W'=>e=.returned (.int .i64 (psR Q))/\Below w.heap.size w W'
namespace Ps
def BV (E:Env)(l:List Tok):St×Req:=
 if (aQ l 0).data.toList∈verbs then((step (bind' (ref E l) λr=>rest E l (aQ l 0).data.toList {ref:=r}) {} (.ok 1)).2,(step (bind' (ref E l) λr=>rest E l (aQ l 0).data.toList {ref:=r}) {} (.ok 1)).1)
 else(.error (ai l 0,30),{})
def IR (l:List Tok):St->St
 | .ok b=>if b<l.length then .error (ai l b,30)else .ok b
 | .error e=>.error e
theorem O5 (E:Env)(l:List Tok)(hl:0<l.length):line E l 0=match IR l (BV E l).1 with
 | .ok b=>.ok ((BV E l).2,b)
 | .error e=>.error e:=by
 unfold line BV
 rw[if_neg (by omega)]
 by_cases hv:(aQ l 0).data.toList∈verbs
 ·rw[if_pos hv,if_pos hv]
  simp only[]
  cases hr:ref E l 1 with
  |error e=>
   rw[show(0+1:Nat)=1 from rfl,dG hr,ak (dG hr)]
   rfl
  |ok x=>
   obtain⟨x,b⟩:=x
   rw[show(0+1:Nat)=1 from rfl,bind_ok hr]
   cases hq:rest E l (aQ l 0).data.toList {ref:=x} b with
   |error e=>rw[dG hq,ak (show bind' (ref E l) (λr=>rest E l (aQ l 0).data.toList {ref:=r}) 1=.error e from by rw[bind_ok hr];exact hq)];rfl
   |ok y=>
    obtain⟨y,d⟩:=y
    rw[bind_ok hq,step_ok (show bind' (ref E l) (λr=>rest E l (aQ l 0).data.toList {ref:=r}) 1=.ok (y,d)from by rw[bind_ok hr];exact hq)]
    show(if d<l.length then _ else _)=_
    unfold IR
    by_cases hd:d<l.length
    ·simp only[if_pos hd]
    ·simp only[if_neg hd]
 ·rw[if_neg hv,if_neg hv]
  rfl
theorem Res.state {α:Type}{p:P α}{st st':St}{x:α}(z:α)(h:Res p st st' x):st'=(step p z st).2:=by
 cases st with
 |error e=>exact h
 |ok a=>
  cases st' with
  |error e=>rw[ak (show p a=.error e from h)]
  |ok b=>rw[step_ok (show p a=.ok (x,b)from h)]
theorem Res.value {α:Type}{p:P α}{st st':St}{x:α}(z:α)(h:Res p st st' x)(b:Nat)(hb:st'=.ok b):x=(step p z st).1:=by
 subst hb
 cases st with
 |error e=>cases h
 |ok a=>rw[step_ok (show p a=.ok (x,b)from h)]
end Ps
theorem xZ:iY.map (λx=>x.1.data.toList)=Ps.verbs:=rfl
theorem K8:∀a b:Fin 9,a<b->Ps.verbs[a.val]?≠Ps.verbs[b.val]?:=by decide
theorem fm_low {j0 j:Nat}{v:Ps.Bs}(h0:Ps.verbs[j0]? =some v)(hj:j<j0){y:ByteArray×Nat}(hy:iY[j]? =some y):y.1.data.toList≠v:=by
 intro he
 have hl:j0<9:=(List.getElem?_eq_some_iff.1 h0).1
 have h1:Ps.verbs[j]? =some y.1.data.toList:=by rw[<-xZ,List.getElem?_map,hy];rfl
 exact K8 ⟨j,by omega⟩ ⟨j0,hl⟩ hj (by rw[h0];show Ps.verbs[j]? =_;rw[h1,he])
theorem bY.put {W0 W:World}{r tb cap q:Nat}{l:List Ps.Tok}{st:Ps.St}{Q:Ps.Req}{lv:Value}{w:World}(h:bY W0 W r tb cap q l st (aA Q lv) w)(j:Nat)(v:Value)(Q':Ps.Req)(hQ:(aA Q lv).setIfInBounds j v=aA Q' lv):bY W0 W r tb cap q l st (aA Q' lv) (w.setCell ⟨q,j,none⟩ v):=by
 rw[<-hQ];exact h.store j v
theorem bY.qr {W0 W:World}{r tb cap q:Nat}{l:List Ps.Tok}{st:Ps.St}{Q:Ps.Req}{w:World}(h:bY W0 W r tb cap q l st (aA Q fA) w)(hr:r<W.heap.size)(hq:q<W.heap.size)(hk:Q.ins.links=[]):fJ W0 W r tb cap q l W.heap.size st Q w:=⟨hr,hq,fA,h,by rw[hk];exact eP.nil _ _⟩
theorem bY.inc {W0 W:World}{r tb cap q a:Nat}{l:List Ps.Tok}{cs:Array Value}{w:World}(h:bY W0 W r tb cap q l (.ok a) cs w)(hlt:a<l.length):
 (w.cell? ⟨r,1,none⟩=some (.int .i64 a)/\w.frozen? ⟨r,1,none⟩=false)/\bY W0 W r tb cap q l (.ok (a+1)) cs (w.setCell ⟨r,1,none⟩ (.int .i64 ((a:Int)+1)))/\Tch r r w (w.setCell ⟨r,1,none⟩ (.int .i64 ((a:Int)+1))):=by
 obtain⟨a',o,e,hr,ht,hne,hpos,hcap,eQ,hst⟩:=h.1.rd
 obtain⟨rfl,rfl,hle⟩:=hst
 obtain⟨-,k1,-,-,-⟩:=bu hr
 have hT:Tch r r w (w.setCell ⟨r,1,none⟩ (.int .i64 ((a':Int)+1))):=(Tch.refl r r w).setCell 1 _
 refine⟨⟨k1,aP 1 hr⟩,h.step (h.1.next ⟨a'+1,o,0,?_,ht.tch hT hne hne,hne,hpos,hcap,eQ,rfl,rfl,hlt⟩ hT) hT,hT⟩
 have:=aa w r 1 _ _ (.int .i64 ((a':Int)+1)) hr
 exact this
theorem Jd {w Wr:World}{r tb cap q:Nat}{l:List Ps.Tok}{E:Ps.Env}(hl:fI l)(env:mE w)(hpos:0<l.length)(AJ:r<Wr.heap.size)(yT:q<Wr.heap.size)(_hmany:l.length<=1000000)(hE:Ps.ref E l=vv l)(_fb:Nat)
 (t:ByteArray) (j0:Nat) (v0:ByteArray) (fn:Nat) (hj0:iY[j0]? =some (v0,fn)) (htx:v0.data.toList=t.data.toList) (eg:∀args w,(callFunc fn args).run Tryz.prog w=.ok (.enter fn args) w) (hform:mJ fn w Wr r tb cap q l E t.data.toList)
 (P3 P7:World->Prop) (hP3:∀w',P3 w'->bY w Wr r tb cap q l (.ok 0) (aA {} fA) w')
 (hP7:∀st' Q' w',fJ w Wr r tb cap q l Wr.heap.size st' Q' w'->Ps.Res (Ps.bind' (Ps.ref E l) λx=>Ps.rest E l t.data.toList {ref:=x}) (.ok 1) st' Q'->P7 w'):F8 r q t P3 P7:=by
 have hvj:Ps.verbs[j0]? =some t.data.toList:=by rw[<-htx,<-xZ,List.getElem?_map,hj0];rfl
 refine .found (λb w'=>bY w Wr r tb cap q l (.ok 1) (aA {} fA) w'/\w'.heap[b]? =some (.cells #[.string v0,.func (.func fn) #[] #[]] 103 (0,0))/\Wr.heap.size<=b)
  (λb w'=>bY w Wr r tb cap q l (Ps.step (vv l) ⟨#[]⟩ (.ok 1)).2 (aA {} fA) w'/\w'.heap[b]? =some (.cells #[.string v0,.func (.func fn) #[] #[]] 103 (0,0))/\Wr.heap.size<=b)
  (λb w'=>bY w Wr r tb cap q l (Ps.step (vv l) ⟨#[]⟩ (.ok 1)).2 (aA {ref:=(Ps.step (vv l) ⟨#[]⟩ (.ok 1)).1} fA) w'/\w'.heap[b]? =some (.cells #[.string v0,.func (.func fn) #[] #[]] 103 (0,0))/\Wr.heap.size<=b)
  j0 v0 fn (Ps.step (vv l) ⟨#[]⟩ (.ok 1)).1 0 hj0 (by rw[Lib.toList_data,Lib.toList_data,htx];exact beq_self_eq_true _) (λj y hj hy=>by rw[Lib.toList_data,Lib.toList_data,beq_eq_false_iff_ne];exact fm_low hvj hj hy) eg (by unfold wrap64;omega)
  (Lib.hid ?_) (Lib.hid ?_) (Lib.hid ?_) (Lib.hid ?_) (Lib.hid ?_)
 ·rintro w1 w2 h1 rfl
  have h2:=hP3 w1 h1
  have hb:=(Below.refl w1.heap.size w1).alloc (Nat.le_refl _) (.cells #[.string v0,.func (.func fn) #[] #[]] 103)
  have h3:=h2.step (h2.1.below hb) (Tch.of_below hb)
  obtain⟨c1,c2,c3⟩:=h3.inc hpos
  have hsz:=h2.2.2.1.size
  have hrow:=aD w1 (.cells #[.string v0,.func (.func fn) #[] #[]] 103)
  exact⟨c1,c2,(c3.block _ (by simp) (by omega) (by omega)).trans hrow,hsz⟩
 ·rintro w1 b ⟨h1,h2,h3⟩
  refine(Ng hl env w1 r tb cap _ h1.1).mono ?_
  rintro e W' ⟨c1,c2,c3⟩
  exact⟨c1,h1.step c2 c3,(c3.block b (Array.getElem?_eq_some_iff.1 h2).1 (by omega) (by omega)).trans h2,h3⟩
 ·rintro w1 b ⟨h1,h2,h3⟩
  refine⟨h1.cell 2 (by show 2<28;omega),h1.put 2 _ _ rfl,?_,h3⟩
  exact(((Tch.refl q q w1).setCell 2 _).block b (Array.getElem?_eq_some_iff.1 h2).1 (by omega) (by omega)).trans h2
 ·rintro w1 b ⟨h1,h2,h3⟩
  rw[cell_of_row _ _ _ _ _ _ h2];rfl
 ·rintro w1 b ⟨h1,h2,h3⟩
  refine(hform _ _ w1 h1 rfl rfl).mono ?_
  rintro e W' ⟨c1,st',Q',c2,c3⟩
  refine⟨c1,hP7 st' Q' W' c2 (Ps.Res.bind ?_ c3)⟩
  rw[hE]
  exact Ps.Res.of_step _ _ _
theorem JC {v:Ps.Bs}(h:v∈Ps.verbs):v=Ps.Bi\/v=Ps.dO\/v=Ps.dN\/v=Ps.iL\/v=Ps.fP\/v=Ps.mh\/v=Ps.dx\/v=Ps.bz\/v=Ps.fD:=by
 simpa[Ps.verbs]using h
def nV (w:World)(P:Ps.Req×Int×Int)(rv:Value)(o x:Int)(W':World):Prop:=
 (∃lv,rv=.agg (aA P.1 lv)/\eP W' w.heap.size lv P.1.ins.links)/\o=P.2.1/\x=P.2.2/\Below w.heap.size w W'
theorem bY.other {W0 W:World}{r tb cap q:Nat}{l:List Ps.Tok}{st:Ps.St}{cs:Array Value}{w:World}(h:bY W0 W r tb cap q l st cs w){g:Nat}{o:Obj}(hg:W.heap[g]? =some o)(h1:g≠r)(h2:g≠q):w.heap[g]? =some o:=
 (h.2.2.1.block g (Array.getElem?_eq_some_iff.1 hg).1 h1 h2).trans hg
theorem NR {m:Int}{kb ko kc:Nat}{w w1:World}(env:lS m kb ko kc w)(chk:ChkC w)(tb cap g:Nat)(l:List Ps.Tok)(hl:fI l)(hpos:0<l.length)(hcap:l.length<=cap)(eQ:l.length<=1000000)(hg:g=w.heap.size)
 (hgz:w1.heap[g]? =some (.cells aH 37 (0,0))) (hb1:Below w.heap.size w w1) (htb:g<tb) (htl:tb<w1.heap.size) (EM:iN w1 tb l) (P:Ps.Req×Int×Int)
 (hP:P=match Ps.line az l 0 with
  | .error e=>({},e.1,e.2)
  | .ok (q,_)=>
    let q:=if q.op=0 then{q with sender:=q.ins.sender,ins:={q.ins with ref:=q.ref} }else q
    if psR q≠0 then({},Ps.ai l 0,psR q)else(q,0,0)):
 Gt g tb l.length cap w1 (nV w P):=by
 obtain⟨r,hr⟩:∃r,r=w1.heap.size:=⟨_,rfl⟩
 obtain⟨q,hq⟩:∃q,q=w1.heap.size+1:=⟨_,rfl⟩
 obtain⟨Wr,hWr⟩:∃Wr,Wr=(w1.alloc (.cells (bC tb l.length cap 0 0 0) 97)).alloc (.cells aH 37):=⟨_,rfl⟩
 have hsz1:(w1.alloc (.cells (bC tb l.length cap 0 0 0) 97)).heap.size=w1.heap.size+1:=by simp
 have oq:Below w1.heap.size w1 (w1.alloc (.cells (bC tb l.length cap 0 0 0) 97)):=(Below.refl _ _).alloc (Nat.le_refl _) _
 have hbb:Below (w1.heap.size+1) (w1.alloc (.cells (bC tb l.length cap 0 0 0) 97)) Wr:=by
  rw[hWr,<-hsz1];exact(Below.refl _ _).alloc (Nat.le_refl _) _
 have hbr:Below w1.heap.size w1 Wr:=oq.trans (hbb.mono (by omega))
 have hrr:Wr.heap[r]? =some (.cells (bC tb l.length cap 0 0 0) 97 (0,0)):=by
  rw[hr,hbb.block w1.heap.size (by omega)];exact aD w1 _
 have hqr:Wr.heap[q]? =some (.cells aH 37 (0,0)):=by
  rw[hWr,hq,<-hsz1];exact aD _ _
 have AJ:r<Wr.heap.size:=(Array.getElem?_eq_some_iff.1 hrr).1
 have yT:q<Wr.heap.size:=(Array.getElem?_eq_some_iff.1 hqr).1
 have hgW:Wr.heap[g]? =some (.cells aH 37 (0,0)):=(hbr.block g (by omega)).trans hgz
 have hbw:Below w.heap.size w Wr:=hb1.trans (hbr.mono hb1.size)
 have hrd:fM Wr r tb cap l (.ok 0):=⟨0,0,0,hrr,EM.below hbr htl,by omega,hpos,hcap,eQ,rfl,rfl,by omega⟩
 have hR0:bY w Wr r tb cap q l (.ok 0) (aA {} fA) Wr:=⟨⟨hrd,hbw,by have:=hb1.size;omega⟩,hqr,Tch.refl _ _ _,by omega,by omega,by have:=hb1.size;omega⟩
 have eid:mE w:=env.id
 have hdd:∀s,(kC Ps.fo s).2=0\/kC Ps.fo s=(0,28):=Ll _
 have K6:Pdr w l az:=⟨hl,by unfold az;rw[Gh];exact Ng hl eid,by unfold az;rw[vK];exact yY hl eid,by unfold az;rw[MJ];exact QT hl eid,by unfold az;rw[psE_by];exact ps_by hl eid,PM hl _ (Qi env),CW hl _ (pv_qty env),by unfold az;rw[Qs _ _ _ hdd];exact ps_day hl _ (pv_day w),env.pr⟩
 have rO:Fh w Wr r tb cap q l az:=GU K6 AJ yT
 obtain⟨t,ht⟩:∃t,t=Ps.aQ l 0:=⟨_,rfl⟩
 obtain⟨st7,Pg⟩:∃st7,st7=(Ps.BV az l).1:=⟨_,rfl⟩
 obtain⟨Q7,hQ7⟩:∃Q7,Q7=(Ps.BV az l).2:=⟨_,rfl⟩
 have tT:=Ps.O5 az l hpos
 rw[<-Pg,<-hQ7]at tT
 obtain⟨st9,Om⟩:∃st9,st9=Ps.IR l st7:=⟨_,rfl⟩
 rw[<-Om]at tT
 have hgr:g≠r:=by omega
 have hgq:g≠q:=by omega
 refine .mk t (λw'=>bY w Wr r tb cap q l (.ok 0) (aA {} fA) w') (λw'=>bY w Wr r tb cap q l (.ok 0) (aA {} fA) w')
  (λw'=>∃Q',fJ w Wr r tb cap q l Wr.heap.size st7 Q' w'/\∀b,st7=.ok b->Q'=Q7) (λw'=>∃Q',fJ w Wr r tb cap q l Wr.heap.size st7 Q' w'/\∀b,st7=.ok b->Q'=Q7) (λw'=>∃Q',fJ w Wr r tb cap q l Wr.heap.size st9 Q' w'/\∀b,st9=.ok b->Q'=Q7)
  (λfb w'=>bY w Wr r tb cap q l (.ok 0) (aA {} fA) w'/\w'.heap[fb]? =some (.cells qD.toArray 103 (0,0))) (Ps.dK l st7) hpos ?_ (Lib.hid ?_) (Lib.hid ?_) (Lib.hid ?_) (Lib.hid ?_) (Lib.hid ?_) (Lib.hid ?_) (Lib.hid ?_) (Lib.hid ?_) ?_
 ·
  rw[<-hr,<-hWr]
  have n2:=uu hrd hl
  rw[show Ps.dK l (.ok 0)=true from by simp[Ps.dK,hpos],show Ps.fO l (.ok 0)=.ok 0 from by simp[Ps.fO,hpos]]at n2
  refine n2.mono ?_
  rintro e W' ⟨c1,c2,c3⟩
  exact⟨c1,hR0.step (hR0.1.next c2 c3) c3⟩
 ·
  rw[<-hr]
  intro w' hw'
  refine(uW hw'.1.rd).mono ?_
  rintro e w2 ⟨c1,k,rfl⟩
  have hbk:=below_drewN' (Below.refl w'.heap.size w') k
  exact⟨by rw[ht];exact c1,hw'.step (hw'.1.below hbk) (Tch.of_below hbk)⟩
 ·rintro w' w2 hw' rfl
  have oq:=(Below.refl w'.heap.size w').alloc (Nat.le_refl _) (.cells qD.toArray 103)
  exact⟨hw'.step (hw'.1.below oq) (Tch.of_below oq),aD w' _⟩
 ·rintro fb w' cs ⟨c1,c2⟩
  have oq:=(Below.refl w'.heap.size w').alloc (Nat.le_refl _) (.cells cs 103)
  exact⟨c1.step (c1.1.below oq) (Tch.of_below oq),(oq.block fb (Array.getElem?_eq_some_iff.1 c2).1).trans c2⟩
 ·rintro fb w' ⟨c1,c2⟩ j x hx
  obtain⟨e1,e2⟩:=RV iY j x hx
  refine⟨?_,?_⟩
  ·rw[cell_of_row _ _ _ _ _ _ c2,List.getElem?_toArray];exact e1
  ·rw[cell_of_row _ _ _ _ _ _ c2,List.getElem?_toArray];exact e2
 ·
  rw[<-hr,show r+1=q from by omega]
  intro fb
  by_cases hv:t.data.toList∈Ps.verbs
  ·have hmid:Ps.BV az l=((Ps.step (Ps.bind' (Ps.ref az l) λx=>Ps.rest az l t.data.toList {ref:=x}) {} (.ok 1)).2,(Ps.step (Ps.bind' (Ps.ref az l) λx=>Ps.rest az l t.data.toList {ref:=x}) {} (.ok 1)).1):=by
    unfold Ps.BV;rw[<-ht,if_pos hv]
   have fin:∀(j0:Nat) (v0:ByteArray) (fn:Nat),iY[j0]? =some (v0,fn)->v0.data.toList=t.data.toList->(∀args w,(callFunc fn args).run Tryz.prog w=.ok (.enter fn args) w)->mJ fn w Wr r tb cap q l az t.data.toList->
    F8 r q t (λw'=>bY w Wr r tb cap q l (.ok 0) (aA {} fA) w'/\w'.heap[fb]? =some (.cells qD.toArray 103 (0,0))) (λw'=>∃Q',fJ w Wr r tb cap q l Wr.heap.size st7 Q' w'/\∀b,st7=.ok b->Q'=Q7):=λj0 v0 fn hj0 hv0 eg hf=>
    Jd hl eid hpos AJ yT eQ (Gh _ _ _ l) fb t j0 v0 fn hj0 hv0 eg hf _ _ (λw' h=>h.1) λst' Q' w' h1 h2=>by
     have e1:=h2.state {}
     have e2:=h2.value {}
     rw[Pg,hQ7,hmid]
     refine⟨Q',by have h3:=h1;rw[e1]at h3;exact h3,λb hb=>e2 b (by rw[e1];exact hb)⟩
   rcases JC hv with h|h|h|h|h|h|h|h|h
   ·exact fin 0 _ _ rfl h.symm (enters_of Tryz.func99 (by kernel_rfl) rfl) (by rw[h];exact EZ K6 rO)
   ·exact fin 1 _ _ rfl h.symm (enters_of Tryz.func100 (by kernel_rfl) rfl) (by rw[h];exact Ky K6 rO)
   ·exact fin 2 _ _ rfl h.symm (enters_of Tryz.func101 (by kernel_rfl) rfl) (by rw[h];exact Fb K6 rO)
   ·exact fin 3 _ _ rfl h.symm (enters_of Tryz.func102 (by kernel_rfl) rfl) (by rw[h];exact Il K6 AJ yT)
   ·exact fin 4 _ _ rfl h.symm (enters_of Tryz.func103 (by kernel_rfl) rfl) (by rw[h];exact F5 K6 AJ yT)
   ·exact fin 5 _ _ rfl h.symm (enters_of Tryz.func104 (by kernel_rfl) rfl) (by rw[h];exact Lp K6 (EP K6 AJ yT))
   ·exact fin 6 _ _ rfl h.symm (enters_of Tryz.func105 (by kernel_rfl) rfl) (by rw[h];exact I9 K6 AJ yT)
   ·exact fin 7 _ _ rfl h.symm (enters_of Tryz.func106 (by kernel_rfl) rfl) (by rw[h];exact Pe K6 AJ yT)
   ·exact fin 8 _ _ rfl h.symm (enters_of Tryz.func107 (by kernel_rfl) rfl) (by rw[h];exact KN K6 AJ yT)
  ·have hmid:Ps.BV az l=(.error (Ps.ai l 0,30),{}):=by unfold Ps.BV;rw[<-ht,if_neg hv]
   refine .none (λj y hy=>?_) (Lib.hid ?_)
   ·rw[Lib.toList_data,Lib.toList_data,beq_eq_false_iff_ne]
    intro he
    apply hv
    rw[<-he,<-xZ]
    exact List.mem_map.2 ⟨y,List.mem_of_getElem? hy,rfl⟩
   ·rintro w' ⟨c1,c2⟩
    refine(kw c1.1.rd 30 (by decide) (λb hb=>by cases hb;exact hpos)).mono ?_
    rintro e W' ⟨h1,h2,h3⟩
    refine⟨h1,{},?_,λb hb=>by rw[Pg,hmid]at hb;cases hb⟩
    rw[Pg,hmid]
    exact(c1.step (c1.1.next h2 h3) h3).qr AJ yT rfl
 ·
  rw[<-hr]
  rintro w' ⟨Q',c1,c2⟩
  refine(nK c1.rd.rd).mono ?_
  rintro e W' ⟨h1,k,rfl⟩
  exact⟨h1,Q',c1.drewN k,c2⟩
 ·
  rw[<-hr]
  rintro hb w' ⟨Q',c1,c2⟩
  obtain⟨b,OO⟩:∃b,st7=.ok b:=by cases hs:st7 with
   |ok b=>exact⟨b,rfl⟩
   |error e=>rw[hs]at hb;cases hb
  have hlt:b<l.length:=by rw[OO]at hb;simpa[Ps.dK]using hb
  have hf:Ps.qZ l 30 st7=st9:=by rw[Om,OO];simp[Ps.IR,Ps.qZ,hlt]
  refine(kw c1.rd.rd 30 (by decide) (λb' hb'=>by rw[OO]at hb';cases hb';exact hlt)).mono ?_
  rintro e W' ⟨h1,h2,h3⟩
  refine⟨h1,Q',?_,λb' hb'=>?_⟩
  ·have:=c1.step (c1.rd.next h2 h3) h3
   rw[hf]at this
   exact this
  ·rw[Om,OO]at hb'
   simp[Ps.IR,hlt]at hb'
 ·rintro hb w' ⟨Q',c1,c2⟩
  have h9:st9=st7:=by
   rw[Om]
   cases hs:st7 with
   |error e=>rfl
   |ok b=>
    rw[hs]at hb
    have:¬b<l.length:=by simpa[Ps.dK]using hb
    simp[Ps.IR,this]
  rw[h9]
  exact⟨Q',c1,c2⟩
 ·
  rw[<-hr,show r+1=q from by omega]
  cases h9:st9 with
  |error er=>
   rw[h9]at tT
   simp only[]at tT
   rw[tT]at hP
   simp only[]at hP
   refine .err er.1 er.2 hgr (Lib.hid ?_)
   rintro w' ⟨Q',c1,c2⟩
   have hrd9:=c1.rd.rd
   obtain⟨a,o,e,hrow,_,_,_,_,_,hst⟩:=hrd9
   obtain⟨he,ho,hne⟩:=hst
   obtain⟨_,_,k2,k3,_⟩:=bu hrow
   obtain⟨_,_,lv,c3,c4⟩:=c1
   have xm:=c3.other hgW hgr hgq
   refine⟨by rw[beq_eq_false_iff_ne,<-he];exact hne,⟨xm,by rw[k2,ho],by rw[k3,he]⟩,?_⟩
   rw[hP]
   refine⟨⟨fA,rfl,eP.nil _ _⟩,rfl,rfl,?_⟩
   have:=c3.1.base.drew
   rw[<-hg]at this⊢
   exact below_setRow this (Nat.le_refl _) aH
  |ok b9=>
   rw[h9]at tT
   simp only[]at tT
   rw[tT]at hP
   simp only[]at hP
   have hend:∀w',(∃Q',fJ w Wr r tb cap q l Wr.heap.size (.ok b9) Q' w'/\∀b,(Except.ok b9:Ps.St)=.ok b->Q'=Q7)->∃(qa:Option Addr) (qc:Nat),bY w Wr r tb cap q l (.ok b9) (aA Q7 (.slice qa Q7.ins.links.length qc)) w'/\eP w' Wr.heap.size (.slice qa Q7.ins.links.length qc) Q7.ins.links:=by
    rintro w' ⟨Q',c1,c2⟩
    obtain rfl:=c2 b9 rfl
    obtain⟨_,_,lv,c3,c4⟩:=c1
    obtain⟨qa,qc,rfl⟩:=c4.slice
    exact⟨qa,qc,c3,c4⟩
   have hk3:∀w',bY w Wr r tb cap q l (.ok b9) (aA Q7 (.slice none 0 0)) w'->True:=λ_ _=>trivial
   have Oc:∀(w':World) (cs:Array Value),bY w Wr r tb cap q l (.ok b9) cs w'->w'.cell? ⟨r,3,none⟩=some (.int .i64 0):=by
    rintro w' cs c3
    obtain⟨a,o,e,hrow,_,_,_,_,_,hst⟩:=c3.1.rd
    obtain⟨_,he,_⟩:=hst
    rw[(bu hrow).2.2.2.1,he]
   obtain⟨Q2,hQ2⟩:∃Q2,Q2=if Q7.op=0 then({Q7 with sender:=Q7.ins.sender,ins:={Q7.ins with ref:=Q7.ref} }:Ps.Req)else Q7:=⟨_,rfl⟩
   rw[<-hQ2]at hP
   have hl2:Q2.ins.links=Q7.ins.links:=by rw[hQ2];split<;>rfl
   have uF:∀(w':World) (qa:Option Addr) (qc:Nat),bY w Wr r tb cap q l (.ok b9) (aA Q2 (.slice qa Q7.ins.links.length qc)) w'->eP w' Wr.heap.size (.slice qa Q7.ins.links.length qc) Q7.ins.links->
    Calls Tryz.prog 30 #[.agg (aA Q2 (.slice qa Q7.ins.links.length qc))] w' λe W'=>e=.returned (.int .i64 (psR Q2))/\W'.heap[g]? =some (.cells aH 37 (0,0))/\W'.cell? ⟨tb,2,none⟩=some (.int .i64 (Ps.ai l 0))/\W'.heap[q]? =some (.cells (aA Q2 (.slice qa Q7.ins.links.length qc)) 37 (0,0))/\
     eP W' Wr.heap.size (.slice qa Q7.ins.links.length qc) Q7.ins.links/\Below w.heap.size w W':=by
    intro w' qa qc c3 c4
    refine(chk w' Wr.heap.size Q2 qa _ qc c3.1.base (by rw[hl2];exact c4)).mono ?_
    rintro e W' ⟨h1,h2⟩
    have xm:=c3.other hgW hgr hgq
    obtain⟨x,hx⟩:∃x,l[0]? =some x:=⟨_,List.getElem?_eq_getElem hpos⟩
    have htk:=(c3.1.rd.tok 0 x hx).2.2
    have hoff:Ps.ai l 0=x.2.2:=by unfold Ps.ai;rw[hx]
    refine⟨h1,(h2.block g (Array.getElem?_eq_some_iff.1 xm).1).trans xm,?_,(h2.block q (Array.getElem?_eq_some_iff.1 c3.2.1).1).trans c3.2.1,c4.keep (Tch.of_below (r:=r) (q:=r) h2) AJ AJ,c3.1.base.trans (h2.mono c3.1.base.size)⟩
    rw[hoff]
    exact(h2.cell (p:=⟨tb,2,none⟩) c3.1.rd.lt.2).trans htk
   have hbad:∀(W':World),psR Q2≠0->Below w.heap.size w W'->nV w P (.agg aH) (Ps.ai l 0) (psR Q2) (W'.drew.setRow g aH):=by
    intro W' hne hb
    rw[if_pos hne]at hP
    rw[hP]
    refine⟨⟨fA,rfl,eP.nil _ _⟩,rfl,rfl,?_⟩
    have:=hb.drew
    rw[<-hg]at this⊢
    exact below_setRow this (Nat.le_refl _) aH
   have hgood:∀(W':World) (qa:Option Addr) (qc:Nat),psR Q2=0->Below w.heap.size w W'->eP W' Wr.heap.size (.slice qa Q7.ins.links.length qc) Q7.ins.links->nV w P (.agg (aA Q2 (.slice qa Q7.ins.links.length qc))) 0 0 (W'.setRow g (aA Q2 (.slice qa Q7.ins.links.length qc))):=by
    intro W' qa qc hz hb hlk
    rw[if_neg (by rw[hz];simp)]at hP
    rw[hP]
    refine⟨⟨_,rfl,?_⟩,rfl,rfl,?_⟩
    ·show eP _ w.heap.size _ Q2.ins.links
     rw[hl2]
     refine gz (fK hlk λb hb2=>iF W' g b _ ?_) hbw.size
     have h1:=(hlk.lt b hb2).1
     have h2:=hb1.size
     have h3:=hbr.size
     omega
    ·rw[<-hg]at hb⊢
     exact below_setRow hb (Nat.le_refl _) _
   by_cases hop:Q7.op=0
   ·have PZ:Q2={Q7 with sender:=Q7.ins.sender,ins:={Q7.ins with ref:=Q7.ref} }:=by rw[hQ2,if_pos hop]
    have hst:∀w' qa qc,bY w Wr r tb cap q l (.ok b9) (aA Q7 (.slice qa Q7.ins.links.length qc)) w'->eP w' Wr.heap.size (.slice qa Q7.ins.links.length qc) Q7.ins.links->
     (w'.cell? ⟨q,0,none⟩=some (.int .i64 0)/\w'.cell? ⟨q,5,none⟩=some (.string Q7.ins.sender)/\w'.cell? ⟨q,2,none⟩=some (.string Q7.ref)/\((∃u,w'.cell? ⟨q,1,none⟩=some u)/\(∃u,w'.cell? ⟨q,3,none⟩=some u)/\w'.frozen? ⟨q,1,none⟩=false/\w'.frozen? ⟨q,3,none⟩=false/\(w'.setCell ⟨q,1,none⟩ (.string Q7.ins.sender)).frozen? ⟨q,3,none⟩=false))/\
     bY w Wr r tb cap q l (.ok b9) (aA Q2 (.slice qa Q7.ins.links.length qc)) ((w'.setCell ⟨q,1,none⟩ (.string Q7.ins.sender)).setCell ⟨q,3,none⟩ (.string Q7.ref))/\eP ((w'.setCell ⟨q,1,none⟩ (.string Q7.ins.sender)).setCell ⟨q,3,none⟩ (.string Q7.ref)) Wr.heap.size (.slice qa Q7.ins.links.length qc) Q7.ins.links:=by
     intro w' qa qc c3 c4
     have d1:=c3.put 1 (.string Q7.ins.sender) {Q7 with sender:=Q7.ins.sender} rfl
     have d2:=d1.put 3 (.string Q7.ref) Q2 (by rw[PZ];rfl)
     have z:∀(Q:Ps.Req) (lv:Value),(aA Q lv).size=28:=λ_ _=>rfl
     refine⟨⟨?_,?_,?_,(c3.cell 1 (by rw[z];omega)).1,(c3.cell 3 (by rw[z];omega)).1,(c3.cell 1 (by rw[z];omega)).2,(c3.cell 3 (by rw[z];omega)).2,(d1.cell 3 (by rw[z];omega)).2⟩,d2,?_⟩
     ·rw[cell_of_row _ _ _ _ _ _ c3.2.1]
      show some (Value.int .i64 Q7.op)=_
      rw[hop]
     ·rw[cell_of_row _ _ _ _ _ _ c3.2.1];rfl
     ·rw[cell_of_row _ _ _ _ _ _ c3.2.1];rfl
     ·exact(c4.keep ((Tch.refl q q w').setCell 1 _) yT yT).keep ((Tch.refl q q _).setCell 3 _) yT yT
    by_cases hz:psR Q2=0
    ·refine .subOk Q7.ins.sender Q7.ref (Lib.hid ?_)
     intro w' hw'
     obtain⟨qa,qc,c3,c4⟩:=hend w' hw'
     obtain⟨⟨d0,d5,d2,d6⟩,d7,d8⟩:=hst w' qa qc c3 c4
     refine⟨Q2,qa,_,qc,Oc w' _ c3,d0,d5,d2,d6,d7.2.1,(uF _ qa qc d7 d8).mono ?_⟩
     rintro e W' ⟨h1,h2,h3,h4,h5,h6⟩
     exact⟨by rw[h1,hz],h2,h4,hgood W' qa qc hz h6 h5⟩
    ·refine .subBad Q7.ins.sender Q7.ref (Ps.ai l 0) (psR Q2) (by rw[beq_eq_false_iff_ne];exact hz) (by omega) (Lib.hid ?_)
     intro w' hw'
     obtain⟨qa,qc,c3,c4⟩:=hend w' hw'
     obtain⟨⟨d0,d5,d2,d6⟩,d7,d8⟩:=hst w' qa qc c3 c4
     refine⟨Q2,qa,_,qc,Oc w' _ c3,d0,d5,d2,d6,d7.2.1,(uF _ qa qc d7 d8).mono ?_⟩
     rintro e W' ⟨h1,h2,h3,h4,h5,h6⟩
     exact⟨h1,h2,h3,hbad W' hz h6⟩
   ·have PZ:Q2=Q7:=by rw[hQ2,if_neg hop]
    have hc0:∀w' qa qc,bY w Wr r tb cap q l (.ok b9) (aA Q7 (.slice qa Q7.ins.links.length qc)) w'->w'.cell? ⟨q,0,none⟩=some (.int .i64 Q7.op):=λw' qa qc c3=>by
     rw[cell_of_row _ _ _ _ _ _ c3.2.1];rfl
    by_cases hz:psR Q2=0
    ·refine .opOk Q7.op (by rw[beq_eq_false_iff_ne];exact hop) (Lib.hid ?_)
     intro w' hw'
     obtain⟨qa,qc,c3,c4⟩:=hend w' hw'
     have c5:=c3
     rw[<-PZ]at c5
     rw[hl2]at c5
     refine⟨Q2,qa,_,qc,Oc w' _ c3,hc0 w' qa qc c3,c5.2.1,(uF _ qa qc c5 c4).mono ?_⟩
     rintro e W' ⟨h1,h2,h3,h4,h5,h6⟩
     exact⟨by rw[h1,hz],h2,h4,hgood W' qa qc hz h6 h5⟩
    ·refine .opBad Q7.op (by rw[beq_eq_false_iff_ne];exact hop) (Ps.ai l 0) (psR Q2) (by rw[beq_eq_false_iff_ne];exact hz) (by omega) (Lib.hid ?_)
     intro w' hw'
     obtain⟨qa,qc,c3,c4⟩:=hend w' hw'
     have c5:=c3
     rw[<-PZ]at c5
     rw[hl2]at c5
     refine⟨Q2,qa,_,qc,Oc w' _ c3,hc0 w' qa qc c3,c5.2.1,(uF _ qa qc c5 c4).mono ?_⟩
     rintro e W' ⟨h1,h2,h3,h4,h5,h6⟩
     exact⟨h1,h2,h3,hbad W' hz h6⟩
end Go.Proofs.YtnjjeapcalkmaaaGreatDoor
namespace Go.Proofs.YtnjjeapcalkmaaaGreatDoor.Lx
open Go
def Rh (s:ByteArray)(t:Tok):Prop:=t.2.1.size<=s.size/\t.2.2<=s.size/\∃x,x=aC t.2.1/\x.2=0/\t.1=x.1
theorem yx (s:ByteArray):∀(f a:Nat) (acc:List Tok),a<=s.size->acc.length<=a->(∀t∈acc,Rh s t)->(ig f s a acc).1.length<=s.size/\∀t∈(ig f s a acc).1,Rh s t
 |0,a,acc,h1,h2,h3=>⟨Nat.le_trans h2 h1,h3⟩
 |f+1,a,acc,h1,h2,h3=>by
  unfold ig
  split
  ·exact⟨Nat.le_trans h2 h1,h3⟩
  ·rename_i hz
   have k1:=AC s a h1
   have k2:=size_le s (a+skip s a) k1
   obtain⟨x,hx⟩:∃x,x=s.extract (a+skip s a) (a+skip s a+size s (a+skip s a)):=⟨_,rfl⟩
   have hxs:x.size<=s.size:=by rw[hx,ByteArray.size_extract];omega
   rw[<-hx]
   obtain⟨c,hc⟩:∃c,c=aC x:=⟨_,rfl⟩
   rw[<-hc]
   split
   ·rename_i hc0
    refine yx s f _ _ k2 (by rw[List.length_append];simp only[List.length_singleton];omega) λt ht=>?_
    rcases List.mem_append.1 ht with h|h
    ·exact h3 t h
    ·have ht2:=List.mem_singleton.1 h
     rw[ht2]
     exact⟨hxs,k1,c,hc,hc0,rfl⟩
   ·exact⟨Nat.zero_le _,λt ht=>by cases ht⟩
theorem Dj (s:ByteArray):(aK s).1.length<=1024/\∀t∈(aK s).1,t.2.1.size<=1024/\t.2.2<=1024/\∃x,x=aC t.2.1/\x.2=0/\t.1=x.1:=by
 unfold aK
 split
 ·exact⟨Nat.zero_le _,λt ht=>by cases ht⟩
 ·have hu:(aV s).size<=1024:=by
   unfold aV
   rw[ByteArray.size_extract]
   omega
  obtain⟨h1,h2⟩:=yx (aV s) ((aV s).size+1) 0 [] (Nat.zero_le _) (Nat.le_refl _) (λt ht=>by cases ht)
  exact⟨by omega,λt ht=>by obtain⟨a,b,c⟩:=h2 t ht;exact⟨by omega,by omega,c⟩⟩
end Go.Proofs.YtnjjeapcalkmaaaGreatDoor.Lx
namespace Go.Proofs.YtnjjeapcalkmaaaGreatDoor
open Go.RowKit
theorem OH {m:Int}{kb ko kc:Nat}{w:World}(env:lS m kb ko kc w)(chk:ChkC w)(s:ByteArray)(hs:s.size<=9223372036854775807):
 Calls Tryz.prog 16 #[.string s] w λe W'=>∃rv o x,e=.returned (.tuple #[rv,.int .i64 o,.int .i64 x])/\nV w (Ps.parse az psR s) rv o x W':=by
 have EM:∀W,Below w.heap.size w W->_:=λW hW=>Cf s W m kb ko kc hs (env.lx.below hW)
 have hin:=Lx.Dj s
 by_cases he:(Lx.aK s).2.2=0
 ·by_cases hl:(Lx.aK s).1=[]
  ·
   have hP:Ps.parse az psR s=({},0,4):=by
    unfold Ps.parse
    rw[if_neg (by rw[he];simp),hl]
    rfl
   refine(Av w s (Lx.aK s).2.1 (Lib.hid λW hW=>(EM W hW).mono ?_)).mono ?_
   ·rintro e W' ⟨v,rfl,h1,h2⟩
    rw[hl]at h1
    obtain⟨a,c,rfl⟩:=fF h1
    exact⟨a,c,by rw[he];rfl,h2⟩
   ·rintro e W' ⟨rfl,hb⟩
    refine⟨_,_,_,rfl,?_⟩
    rw[hP]
    exact⟨⟨fA,rfl,eP.nil _ _⟩,rfl,rfl,hb⟩
  ·
   have hpos:0<(Lx.aK s).1.length:=List.length_pos_iff.2 hl
   refine(Ar w s (nV w (Ps.parse az psR s)) (Lib.hid λg hg=>?_))
   have oq:=(Below.refl w.heap.size w).alloc (Nat.le_refl _) (.cells aH 37)
   refine(EM _ oq).mono ?_
   rintro e w1 ⟨v,rfl,h1,h2⟩
   have hsz:(w.alloc (.cells aH 37)).heap.size=w.heap.size+1:=by simp
   rcases BD h1 with⟨_,h0⟩|⟨tb,cap,rfl,htb,htl,hold⟩
   ·exact absurd h0 hl
   ·have hcap:(Lx.aK s).1.length<=cap:=by
     rcases h1.2 with⟨hv,_⟩|⟨g',cap',cur,hv,hB,hh,hn,hcap',Qm,htake⟩
     ·cases hv
     ·cases hv;exact hn
    refine⟨tb,_,cap,(Lx.aK s).2.1,by rw[he],?_⟩
    have hgz:w1.heap[g]? =some (.cells aH 37 (0,0)):=by
     rw[hg,h2.block w.heap.size (by omega)]
     exact aD w _
    refine NR env chk tb cap g (Lx.aK s).1 (λt ht=>?_) hpos hcap (by omega) hg hgz (oq.trans (h2.mono (by omega))) (by omega) htl hold _ ?_
    ·obtain⟨a,b,_⟩:=hin.2 t ht
     exact⟨by omega,by omega⟩
    ·unfold Ps.parse
     rw[if_neg (by rw[he];simp)]
     cases Ps.line az (Lx.aK s).1 0 with
     |error er=>rfl
     |ok x=>rfl
 ·
  have hP:Ps.parse az psR s=({},(Lx.aK s).2.1,(Lx.aK s).2.2):=by
   unfold Ps.parse
   rw[if_pos he]
  refine(DK w s (Lx.aK s).2.1 (Lx.aK s).2.2 he (Lib.hid λW hW=>(EM W hW).mono ?_)).mono ?_
  ·rintro e W' ⟨v,rfl,h1,h2⟩
   exact⟨v,rfl,h2⟩
  ·rintro e W' ⟨rfl,hb⟩
   refine⟨_,_,_,rfl,?_⟩
   rw[hP]
   exact⟨⟨fA,rfl,eP.nil _ _⟩,rfl,rfl,hb⟩
open Go.ChangeShapes Go.WideShapes Go.ChangeAt Go.RowKit
theorem Io:Tryz.prog.globalNamed "giro/lexer.kinds"=some 1:=by kernel_rfl
theorem J8:(Tryz.prog.globals[1]?).map (·.type)=some 198:=by kernel_rfl
theorem BH:Tryz.prog.cellsOf 200=2:=by kernel_rfl
theorem D9 (g o j:Nat):(⟨g,o,none⟩:Addr).add j=⟨g,o+j,none⟩:=by
 unfold Addr.add
 split
 ·rename_i h;simp_all
 ·rfl
theorem xS {l:List (String×DataW Unit)}{W:World}(h:laidMetH Tryz.prog l W)(hm:("giro/lexer.kinds",(Rows.laid_giro_lexer_kinds:DataW Unit))∈l)
 (m:Int) (Ew:W.cell? ⟨5,0,none⟩=some (.int .i64 m)):∃kb ko kc,ll m kb ko kc W:=by
 obtain⟨g,t,cs,fuel,p,hg,ht,hv,hd⟩:=h.funcs hm
 obtain rfl:=Option.some.inj (Io.symm.trans hg)
 obtain rfl:=Option.some.inj (J8.symm.trans ht)
 have hd':DataW.trod (funcToken Tryz.prog) Tryz.prog W 0 (λ_=>true) true fuel 198 cs.toList=some (.slice [.agg [.lit (.int .i64 4),.held [103,105,114,111,47,108,101,120,101,114,46,100,97,116,101]],.agg [.lit (.int .i64 2),.held [103,105,114,111,47,108,101,120,101,114,46,107,105,110,100,115,36,49]],.agg [.lit (.int .i64 3),.held [103,105,114,111,47,108,101,120,101,114,46,100,101,99,105,109,97,108]],.agg [.lit (.int .i64 1),.held [103,105,114,111,47,108,101,120,101,114,46,107,105,110,100,115,36,50]],.agg [.lit (.int .i64 0),.held [103,105,114,111,47,108,101,120,101,114,46,107,105,110,100,115,36,51]]] [],p):=hd
 rcases Go.Deep.open_slice_pairs Tryz.underlying198 Tryz.underlying200 BH rfl rfl (by kernel_rfl) (by kernel_rfl) hd' with⟨_,hx⟩|⟨a,len,cap,mm,n,V0,V1,D0,D1,P0,P1,hcs,_,hlc,_,hmm,hx,hel⟩
 ·simp at hx
 simp only[Prod.mk.injEq,DataW.slice.injEq]at hx
 obtain⟨⟨hL,_⟩,_⟩:=hx
 have hlen:len=5:=by have:=congrArg List.length hL;simpa using this.symm
 subst hlen
 have hm5:5<=mm:=by rw[hmm];split<;>omega
 obtain⟨a0,b0,c0,d0⟩:=hel 0 (by omega)
 have e0:=congrArg (λl=>l[0]?) hL
 simp[List.range_succ]at e0
 rw[<-e0.1]at c0
 rw[<-e0.2]at d0
 obtain⟨n0,hn0,hl0,_⟩:=DataW.trod_int Tryz.underlying3 c0
 simp only[Prod.mk.injEq,DataW.lit.injEq,Lit.int.injEq,true_and]at hl0
 obtain rfl:=hl0.1
 have hf0:=func_of_trod (f0:=325) Tryz.underlying60 (by kernel_rfl) d0
 simp only[List.cons.injEq,and_true]at hn0
 rw[hn0]at a0
 rw[hf0]at b0
 obtain⟨a1,b1,c1,d1⟩:=hel 1 (by omega)
 have e1:=congrArg (λl=>l[1]?) hL
 simp[List.range_succ]at e1
 rw[<-e1.1]at c1
 rw[<-e1.2]at d1
 obtain⟨n1,hn1,hl1,_⟩:=DataW.trod_int Tryz.underlying3 c1
 simp only[Prod.mk.injEq,DataW.lit.injEq,Lit.int.injEq,true_and]at hl1
 obtain rfl:=hl1.1
 have hf1:=func_of_trod (f0:=326) Tryz.underlying60 (by kernel_rfl) d1
 simp only[List.cons.injEq,and_true]at hn1
 rw[hn1]at a1
 rw[hf1]at b1
 obtain⟨a2,b2,c2,d2⟩:=hel 2 (by omega)
 have e2:=congrArg (λl=>l[2]?) hL
 simp[List.range_succ]at e2
 rw[<-e2.1]at c2
 rw[<-e2.2]at d2
 obtain⟨n2,hn2,hl2,_⟩:=DataW.trod_int Tryz.underlying3 c2
 simp only[Prod.mk.injEq,DataW.lit.injEq,Lit.int.injEq,true_and]at hl2
 obtain rfl:=hl2.1
 have hf2:=func_of_trod (f0:=328) Tryz.underlying60 (by kernel_rfl) d2
 simp only[List.cons.injEq,and_true]at hn2
 rw[hn2]at a2
 rw[hf2]at b2
 obtain⟨a3,b3,c3,d3⟩:=hel 3 (by omega)
 have e3:=congrArg (λl=>l[3]?) hL
 simp[List.range_succ]at e3
 rw[<-e3.1]at c3
 rw[<-e3.2]at d3
 obtain⟨n3,hn3,hl3,_⟩:=DataW.trod_int Tryz.underlying3 c3
 simp only[Prod.mk.injEq,DataW.lit.injEq,Lit.int.injEq,true_and]at hl3
 obtain rfl:=hl3.1
 have hf3:=func_of_trod (f0:=329) Tryz.underlying60 (by kernel_rfl) d3
 simp only[List.cons.injEq,and_true]at hn3
 rw[hn3]at a3
 rw[hf3]at b3
 obtain⟨a4,b4,c4,d4⟩:=hel 4 (by omega)
 have e4:=congrArg (λl=>l[4]?) hL
 simp[List.range_succ]at e4
 rw[<-e4.1]at c4
 rw[<-e4.2]at d4
 obtain⟨n4,hn4,hl4,_⟩:=DataW.trod_int Tryz.underlying3 c4
 simp only[Prod.mk.injEq,DataW.lit.injEq,Lit.int.injEq,true_and]at hl4
 obtain rfl:=hl4.1
 have He:=func_of_trod (f0:=332) Tryz.underlying60 (by kernel_rfl) d4
 simp only[List.cons.injEq,and_true]at hn4
 rw[hn4]at a4
 rw[He]at b4
 obtain⟨b,off,spot⟩:=a
 have hspot:spot=none:=by simpa[Addr.add]using World.cell?_spot a0
 subst hspot
 simp only[D9]at a0 b0 a1 b1 a2 b2 a3 b3 a4 b4
 have hvar:=World.var?_cell hg hv 0
 rw[Array.eq_one_of_toList hcs]at hvar
 exact⟨b,off,cap,⟨Ew,by simpa using hvar,a0,b0,a1,b1,a2,b2,a3,b3,a4,b4⟩⟩
theorem pX {H:Type}{enc:TypeId×Value->H}{P:Program}{w:World}{base:Nat}{sp:Nat->Bool}{held:Bool}{fuel:Nat}{t:TypeId}{ms:Array (String×TypeId)}{cs:List Value}{nm:String}{d:DataW H}{p:List MemPlace}
 (ht:P.underlying t=some (.interface ms)) (h:DataW.trod enc P w base sp held fuel t cs=some (.iface nm d,p)):∃te v,cs=[.iface te v]:=by
 cases fuel with
 |zero=>simp[DataW.trod]at h
 |succ n=>
  unfold DataW.trod at h
  rw[ht]at h
  split at h<;>simp_all
theorem yX {P:Program}{l:List (String×DataW Unit)}{w:World}(h:laidMetH P l w){n:String}{d:DataW Unit}(hx:(n,d)∈l)(hd:d.handleName?.isNone=true):Lib.VarReads P w n d:=by
 have hm:(n,d)∈l.filter λx=>x.2.handleName?.isNone:=List.mem_filter.2 ⟨hx,hd⟩
 unfold laidMetH at h
 generalize (l.filter λx=>x.2.handleName?.isSome)=fl at h
 cases fl with
 |nil=>exact Lib.laidMet.reads h hx
 |cons a tl=>exact Lib.laidMet.reads h.1 hm
theorem IA {l:List (String×DataW Unit)}{W:World}(h:laidMetH Tryz.prog l W){n:String}{g:Nat}{s:List UInt8}(hg:Tryz.prog.globalNamed n=some g)(ht:(Tryz.prog.globals[g]?).map (·.type)=some 139)
 (hx:(n,(.iface "*errors.errorString" (.ptr (.agg [.lit (.string s)])):DataW Unit))∈l):∃te pe,W.cell? ⟨g,0,none⟩=some (.iface te pe):=by
 obtain⟨g',t',cs,fuel,p,hg',ht',hv,hd⟩:=yX h hx rfl
 obtain rfl:=Option.some.inj (hg.symm.trans hg')
 obtain rfl:=Option.some.inj (ht.symm.trans ht')
 obtain⟨te,v,hcs⟩:=pX Tryz.underlying139 hd
 have hvar:=World.var?_cell hg hv 0
 rw[Array.eq_one_of_toList hcs]at hvar
 exact⟨te,v,by simpa using hvar⟩
theorem AU:Tryz.prog.cellsOf 258=2:=by kernel_rfl
def mI (f:Nat)(nm:UInt8×List UInt8):Prop:=((List.range Tryz.prog.funcs.size).filter λg=>(Tryz.prog.funcs[g]?).any (·.name.toUTF8.data.toList==nm.1::nm.2))=[f]
theorem yF {W:World}{fuel:Nat}{cs:List Value}{p:List MemPlace}(rows:List (Nat×Nat×(UInt8×List UInt8)))(hone:∀x∈rows,mI x.2.1 x.2.2)(hr:rows≠[])
 (h:DataW.trod (funcToken Tryz.prog) Tryz.prog W 0 (λ_=>true) true fuel 220 cs=some (.slice (rows.map λx=>.agg [.lit (.int .i64 x.1),.held (x.2.2.1::x.2.2.2)]) [],p)):
 ∃sb so sc,cs=[.slice (some ⟨sb,so,none⟩) rows.length sc]/\dL W sb so (rows.map λx=>(x.1,x.2.1)):=by
 rcases Go.Deep.open_slice_pairs Tryz.underlying220 Tryz.underlying258 AU rfl rfl (by kernel_rfl) (by kernel_rfl) h with⟨_,hx⟩|⟨a,len,cap,mm,n,V0,V1,D0,D1,P0,P1,hcs,_,hlc,_,hmm,hx,hel⟩
 ·simp at hx
 simp only[Prod.mk.injEq,DataW.slice.injEq]at hx
 obtain⟨⟨hL,_⟩,_⟩:=hx
 have hlen:len=rows.length:=by have:=congrArg List.length hL;simpa using this.symm
 subst hlen
 have hm5:rows.length<=mm:=by rw[hmm];split<;>omega
 obtain⟨b,off,spot⟩:=a
 have key:∀(j:Nat) (x:Nat×Nat×(UInt8×List UInt8)),rows[j]? =some x->W.cell? ((⟨b,off,spot⟩:Addr).add (j*2))=some (.int .i64 (x.1:Int))/\W.cell? ((⟨b,off,spot⟩:Addr).add (j*2+1))=some (.func (.func x.2.1) #[] #[]):=by
  intro j x hj
  have hjl:j<rows.length:=(List.getElem?_eq_some_iff.1 hj).1
  obtain⟨a0,b0,c0,d0⟩:=hel j (by omega)
  have e0:=congrArg (λl=>l[j]?) hL
  simp only[List.getElem?_map,hj,Option.map_some,List.getElem?_range hjl,Option.some.injEq,DataW.agg.injEq,List.cons.injEq,and_true]at e0
  rw[<-e0.1]at c0
  rw[<-e0.2]at d0
  obtain⟨n0,hn0,hl0,_⟩:=DataW.trod_int Tryz.underlying3 c0
  simp only[Prod.mk.injEq,DataW.lit.injEq,Lit.int.injEq,true_and]at hl0
  have hf0:=func_of_trod (f0:=x.2.1) Tryz.underlying256 (hone x (List.mem_iff_getElem?.2 ⟨j,hj⟩)) d0
  simp only[List.cons.injEq,and_true]at hn0
  rw[hn0,<-hl0.1]at a0
  rw[hf0]at b0
  exact⟨a0,b0⟩
 obtain⟨x,rest,rfl⟩:=List.exists_cons_of_ne_nil hr
 have hspot:spot=none:=by simpa[Addr.add]using World.cell?_spot (key 0 x rfl).1
 subst hspot
 refine⟨b,off,cap,hcs,λj y hy=>?_⟩
 rw[List.getElem?_map,Option.map_eq_some_iff]at hy
 obtain⟨z,hz,rfl⟩:=hy
 have:=key j z hz
 rwa [D9,D9]at this
theorem Rq:Tryz.prog.cellsOf 3=1:=by kernel_rfl
theorem id_cs:Tryz.prog.cellsOf 220=1:=by kernel_rfl
theorem id_cf:Tryz.prog.cellsOf 155=1:=by kernel_rfl
theorem Ru:Tryz.prog.cellsOf 222=4:=by kernel_rfl
theorem DY {W:World}{fuel:Nat}{cs:List Value}{p:List MemPlace}(low body:Int)(rows:List (Nat×Nat×(UInt8×List UInt8)))(hone:∀x∈rows,mI x.2.1 x.2.2)(hr:rows≠[])(cd:DataW (List UInt8))(chk:Value)
 (uF:∀fuel v p,DataW.trod (funcToken Tryz.prog) Tryz.prog W 0 (λ_=>true) true fuel 155 [v]=some (cd,p)->v=chk)
 (h:DataW.trod (funcToken Tryz.prog) Tryz.prog W 0 (λ_=>true) true fuel 222 cs=some (.agg [.lit (.int .i64 low),.slice (rows.map λx=>.agg [.lit (.int .i64 x.1),.held (x.2.2.1::x.2.2.2)]) [],.lit (.int .i64 body),cd],p)):
 ∃sb so sc,cs=[.int .i64 low,.slice (some ⟨sb,so,none⟩) rows.length sc,.int .i64 body,chk]/\dL W sb so (rows.map λx=>(x.1,x.2.1)):=by
 obtain⟨xs,n,rfl,hx,hl,hxl,hall⟩:=DataW.trod_struct Tryz.underlying222 h
 rw[Ru]at hl
 simp only[Prod.mk.injEq,DataW.agg.injEq]at hx
 obtain⟨hx,_⟩:=hx
 match xs,hx,cs,hl with
 |[y0,y1,y2,y3],hx,[v0,v1,v2,v3],_=>
  simp only[List.map_cons,List.map_nil,List.cons.injEq,and_true]at hx
  obtain⟨h0,h1,h2,h3⟩:=hx
  have g0:DataW.trod (funcToken Tryz.prog) Tryz.prog W 0 (λ_=>true) true n 3 (([v0,v1,v2,v3].drop 0).take (Tryz.prog.cellsOf 3))=some y0:=hall 0 _ rfl
  rw[Rq]at g0
  have g1:DataW.trod (funcToken Tryz.prog) Tryz.prog W 0 (λ_=>true) true n 220 (([v0,v1,v2,v3].drop 1).take (Tryz.prog.cellsOf 220))=some y1:=hall 1 _ rfl
  rw[id_cs]at g1
  have g2:DataW.trod (funcToken Tryz.prog) Tryz.prog W 0 (λ_=>true) true n 3 (([v0,v1,v2,v3].drop 2).take (Tryz.prog.cellsOf 3))=some y2:=hall 2 _ rfl
  rw[Rq]at g2
  have g3:DataW.trod (funcToken Tryz.prog) Tryz.prog W 0 (λ_=>true) true n 155 (([v0,v1,v2,v3].drop 3).take (Tryz.prog.cellsOf 155))=some y3:=hall 3 _ rfl
  rw[id_cf]at g3
  change DataW.trod _ _ _ _ _ _ n 3 [v0]=some y0 at g0
  change DataW.trod _ _ _ _ _ _ n 220 [v1]=some y1 at g1
  change DataW.trod _ _ _ _ _ _ n 3 [v2]=some y2 at g2
  change DataW.trod _ _ _ _ _ _ n 155 [v3]=some y3 at g3
  obtain⟨a0,b0⟩:=y0
  obtain⟨a1,b1⟩:=y1
  obtain⟨a2,b2⟩:=y2
  obtain⟨a3,b3⟩:=y3
  simp only at h0 h1 h2 h3
  subst h0 h1 h2 h3
  obtain⟨z0,e0,l0,_⟩:=DataW.trod_int Tryz.underlying3 g0
  obtain⟨z2,e2,l2,_⟩:=DataW.trod_int Tryz.underlying3 g2
  simp only[Prod.mk.injEq,DataW.lit.injEq,Lit.int.injEq,true_and,List.cons.injEq,and_true]at l0 l2 e0 e2
  obtain⟨sb,so,sc,e1,hsp⟩:=yF rows hone hr g1
  simp only[List.cons.injEq,and_true]at e1
  have e3:=uF _ _ _ g3
  refine⟨sb,so,sc,?_,hsp⟩
  rw[e0,e1,e2,e3,<-l0.1,<-l2.1]
theorem Iw:Tryz.prog.globalNamed "giro/ident.kinds"=some 4:=by kernel_rfl
theorem Jb:(Tryz.prog.globals[4]?).map (·.type)=some 223:=by kernel_rfl
def og:UInt8×List UInt8:=(103,[105,114,111,47,105,100,101,110,116,46,108,101,116,116,101,114])
def nW:UInt8×List UInt8:=(103,[105,114,111,47,105,100,101,110,116,46,97,108,112,104,97,110,117,109,101,114,105,99])
def sN:UInt8×List UInt8:=(103,[105,114,111,47,105,100,101,110,116,46,100,105,103,105,116])
def Gm:UInt8×List UInt8:=(103,[105,114,111,47,105,100,101,110,116,46,114,101,102,67,104,97,114,97,99,116,101,114])
theorem qw:mI 340 og:=by unfold mI;kernel_rfl
theorem mO:mI 341 nW:=by unfold mI;kernel_rfl
theorem tF:mI 342 sN:=by unfold mI;kernel_rfl
theorem KL:mI 344 Gm:=by unfold mI;kernel_rfl
def jP (k:Nat):List (Nat×Nat×(UInt8×List UInt8)):=
 if k=0 then[(2,340,og),(9,341,nW),(1,342,sN)]
 else if k=1 then[(1,340,og),(7,341,nW)]
 else if k=2 then[(16,344,Gm)]
 else[(18,341,nW),(2,342,sN)]
theorem Gc (k:Nat):∀x∈jP k,mI x.2.1 x.2.2:=by
 unfold jP
 split
 ·intro x hx;simp at hx;rcases hx with rfl|rfl|rfl
  ·exact qw
  ·exact mO
  ·exact tF
 ·split
  ·intro x hx;simp at hx;rcases hx with rfl|rfl
   ·exact qw
   ·exact mO
  ·split
   ·intro x hx;simp at hx;subst hx
    exact KL
   ·intro x hx;simp at hx;rcases hx with rfl|rfl
    ·exact mO
    ·exact tF
theorem Im (k:Nat):jP k≠[]:=by
 unfold jP
 split
 ·simp
 ·split
  ·simp
  ·split<;>simp
theorem zS (k:Nat):(jP k).map (λx=>(x.1,x.2.1))=(aL k).sp:=by
 unfold jP aL
 split
 ·rfl
 ·split
  ·rfl
  ·split<;>rfl
theorem nC {W:World}{fuel:Nat}{v:Value}{p:List MemPlace}(h:DataW.trod (funcToken Tryz.prog) Tryz.prog W 0 (λ_=>true) true fuel 155 [v]=some (.nil,p)):v=.nilFunc:=by
 cases fuel with
 |zero=>simp[DataW.trod]at h
 |succ n=>
  unfold DataW.trod at h
  rw[vN]at h
  split at h<;>simp_all
theorem QZ {W:World}{g:Nat}{cs:Array Value}(hg:g=4)(hcell:∀i,W.cell? ⟨g,i,none⟩=cs[i]?)(k:Nat)
 (h:∃sb so sc,(cs.toList.drop (k*4)).take 4=[.int .i64 (aL k).low,.slice (some ⟨sb,so,none⟩) (jP k).length sc,.int .i64 (aL k).body,(aL k).chk]/\dL W sb so ((jP k).map λx=>(x.1,x.2.1))):
 ∃sb so sc,N9 W k sb so sc:=by
 subst hg
 obtain⟨sb,so,sc,hl,hsp⟩:=h
 have at':∀j v,j<4->((cs.toList.drop (k*4)).take 4)[j]? =some v->W.cell? ⟨4,k*4+j,none⟩=some v:=λj v hj hv=>by
  rw[hcell,<-Array.getElem?_toList,<-List.getElem?_drop,<-hv,List.getElem?_take,if_pos hj]
 rw[zS]at hsp
 have hlen:(jP k).length=(aL k).sp.length:=by rw[<-zS,List.length_map]
 rw[hlen]at hl
 refine⟨sb,so,sc,⟨?_,?_,?_,?_,hsp⟩⟩
 ·exact at' 0 _ (by omega) (by rw[hl];rfl)
 ·exact at' 1 _ (by omega) (by rw[hl];rfl)
 ·exact at' 2 _ (by omega) (by rw[hl];rfl)
 ·exact at' 3 _ (by omega) (by rw[hl];rfl)
def kP (k:Nat)(cd:DataW (List UInt8)):DataW (List UInt8):=
 .agg [.lit (.int .i64 (aL k).low),.slice ((jP k).map λx=>.agg [.lit (.int .i64 x.1),.held (x.2.2.1::x.2.2.2)]) [],.lit (.int .i64 (aL k).body),cd]
def FW (k:Nat):DataW (List UInt8):=
 if k=0 then .held [103,105,114,111,47,105,100,101,110,116,46,108,117,104,110]else if k=3 then .held [103,105,114,111,47,105,100,101,110,116,46,109,111,100,57,55]else .nil
theorem Jp {W:World}(k:Nat)(hk:k<4)(fuel:Nat)(v:Value)(p:List MemPlace)(h:DataW.trod (funcToken Tryz.prog) Tryz.prog W 0 (λ_=>true) true fuel 155 [v]=some (FW k,p)):v=(aL k).chk:=by
 match k,hk with
 |0,_=>exact func_of_trod (f0:=343) vN (by kernel_rfl) h
 |1,_=>exact nC h
 |2,_=>exact nC h
 |3,_=>exact func_of_trod (f0:=345) vN (by kernel_rfl) h
theorem wh {l:List (String×DataW Unit)}{W:World}(h:laidMetH Tryz.prog l W)(hm:("giro/ident.kinds",(Rows.laid_giro_ident_kinds:DataW Unit))∈l):kV W:=by
 obtain⟨g,t,cs,fuel,p,hg,ht,hv,hd⟩:=h.funcs hm
 obtain rfl:=Option.some.inj (Iw.symm.trans hg)
 obtain rfl:=Option.some.inj (Jb.symm.trans ht)
 have hd':DataW.trod (funcToken Tryz.prog) Tryz.prog W 0 (λ_=>true) true fuel 223 cs.toList=some (.agg [kP 0 (FW 0),kP 1 (FW 1),kP 2 (FW 2),kP 3 (FW 3)],p):=hd
 obtain⟨xs,m,_,hx,_,hxl,hall⟩:=DataW.trod_array Tryz.underlying223 hd'
 simp only[Prod.mk.injEq,DataW.agg.injEq]at hx
 obtain⟨hx,_⟩:=hx
 intro k hk
 refine QZ rfl (World.var?_cell hg hv) k ?_
 have hrow:=hall k hk
 rw[Ru]at hrow
 have hxk:(xs.map (·.1))[k]? =some (kP k (FW k)):=by
  rw[<-hx]
  match k,hk with
  |0,_=>rfl
  |1,_=>rfl
  |2,_=>rfl
  |3,_=>rfl
 rw[List.getElem?_map,Option.map_eq_some_iff]at hxk
 obtain⟨⟨d,q⟩,hq,hdq⟩:=hxk
 simp only at hdq
 subst hdq
 rw[hq]at hrow
 exact DY _ _ (jP k) (Gc k) (Im k) (FW k) (aL k).chk (λfuel v p=>Jp k hk fuel v p) hrow
theorem KG:Tryz.prog.globalNamed "giro/message.priorityNames"=some 3:=by kernel_rfl
theorem Ia:(Tryz.prog.globals[3]?).map (·.type)=some 216:=by kernel_rfl
theorem pr_c1:Tryz.prog.cellsOf 9=1:=by kernel_rfl
theorem Jk:Tryz.prog.globalNamed "strconv.ErrRange"=some 12:=by kernel_rfl
theorem IW:(Tryz.prog.globals[12]?).map (·.type)=some 139:=by kernel_rfl
theorem EF:Tryz.prog.globalNamed "strconv.ErrSyntax"=some 11:=by kernel_rfl
theorem FI:(Tryz.prog.globals[11]?).map (·.type)=some 139:=by kernel_rfl
theorem vB {l:List (String×DataW Unit)}{W:World}(h:laidMetH Tryz.prog l W)(hx:("giro/message.priorityNames",(Rows.laid_giro_message_priorityNames:DataW Unit))∈l):vH W:=by
 obtain⟨g',t',cs,fuel,p,hg',ht',hv,hd⟩:=yX h hx rfl
 obtain rfl:=Option.some.inj (KG.symm.trans hg')
 obtain rfl:=Option.some.inj (Ia.symm.trans ht')
 have hd':DataW.trod _ Tryz.prog W 0 (λ_=>true) false fuel 216 cs.toList=some (.agg [.lit (.string [110,111,114,109,97,108]),.lit (.string [104,105,103,104]),.lit (.string [117,114,103,101,110,116])],p):=hd
 obtain⟨xs,m,_,hx,_,hxl,hall⟩:=DataW.trod_array Tryz.underlying216 hd'
 simp only[Prod.mk.injEq,DataW.agg.injEq]at hx
 obtain⟨hx,_⟩:=hx
 intro j s hj
 have Kc:j<3:=by have:=(List.getElem?_eq_some_iff.1 hj).1;simpa[prN]using this
 have hrow:=hall j Kc
 rw[pr_c1,Nat.mul_one]at hrow
 have hxk:(xs.map (·.1))[j]? =some (.lit (.string s.data.toList)):=by
  rw[<-hx]
  match j,Kc,hj with
  |0,_,hj=>cases hj;rfl
  |1,_,hj=>cases hj;rfl
  |2,_,hj=>cases hj;rfl
 rw[List.getElem?_map,Option.map_eq_some_iff]at hxk
 obtain⟨⟨d,q⟩,hq,hdq⟩:=hxk
 simp only at hdq
 subst hdq
 rw[hq]at hrow
 obtain⟨s',hs',hx',_⟩:=DataW.trod_string Tryz.underlying9 hrow
 simp only[Prod.mk.injEq,DataW.lit.injEq,Lit.string.injEq]at hx'
 have hss:s=s':=by
  have:=hx'.1
  obtain⟨⟨a⟩⟩:=s
  obtain⟨⟨b⟩⟩:=s'
  have:a=b:=this
  rw[this]
 subst hss
 rw[World.var?_cell hg' hv,<-Array.getElem?_toList]
 have:((cs.toList.drop j).take 1)[0]? =some (.string s):=by rw[hs'];rfl
 rw[List.getElem?_take,if_pos (by omega),List.getElem?_drop,Nat.add_zero]at this
 exact this
theorem MU {W w:World}(h:vH W)(hb:Below W.heap.size W w):vH w:=λj s hj=>
 (hb.cell (World.block_lt_of_cell? W _ (h j s hj))).trans (h j s hj)
theorem vF {l:List (String×DataW Unit)}{W:World}(h:laidMetH Tryz.prog l W)(h1:("giro/lexer.kinds",(Rows.laid_giro_lexer_kinds:DataW Unit))∈l)(h2:("giro/ident.kinds",(Rows.laid_giro_ident_kinds:DataW Unit))∈l)(h3:("giro/message.priorityNames",(Rows.laid_giro_message_priorityNames:DataW Unit))∈l)
 (h4:("strconv.ErrRange",(Rows.laid_strconv_ErrRange:DataW Unit))∈l) (h5:("strconv.ErrSyntax",(Rows.laid_strconv_ErrSyntax:DataW Unit))∈l) (m:Int) (Ew:W.cell? ⟨5,0,none⟩=some (.int .i64 m)):∃kb ko kc,lS m kb ko kc W:=by
 obtain⟨kb,ko,kc,hl⟩:=xS h h1 m Ew
 exact⟨kb,ko,kc,hl,λw hw=>(wh h h2).below hw,λw hw=>MU (vB h h3) hw,Ew,IA h Jk IW h4,IA h EF FI h5⟩
end Go.Proofs.YtnjjeapcalkmaaaGreatDoor
namespace Go.Proofs.YtnjjeapcalkmaaaGreatDoor.Lx
open Go
abbrev Bt:=List UInt8
theorem mV (c:UInt8):∀(p r:Bt),c∉p->Lib.index (p++c::r) [c]=p.length
 |[],r,_=>by
  show Lib.index (c::r) [c]=0
  rw[Lib.index];simp[List.isPrefixOf]
 |b::p,r,h=>by
  have hb:¬b=c:=λe=>h (by rw[e];exact List.mem_cons_self)
  have ih:=mV c p r λhm=>h (List.mem_cons_of_mem _ hm)
  have hp:([c]:Bt).isPrefixOf (b::(p++c::r))=false:=by simp[List.isPrefixOf,Ne.symm hb]
  have hm:((p.length:Int)== -1)=false:=by rw[beq_eq_false_iff_ne];omega
  rw[List.cons_append,Lib.index,hp,ih]
  simp[hm]
theorem pU (c:UInt8):∀l:Bt,c∉l->Lib.index l [c]= -1
 |[],_=>by simp[Lib.index]
 |b::l,h=>by
  have hb:¬b=c:=λe=>h (by rw[e];exact List.mem_cons_self)
  have ih:=pU c l λhm=>h (List.mem_cons_of_mem _ hm)
  have hp:([c]:Bt).isPrefixOf (b::l)=false:=by simp[List.isPrefixOf,Ne.symm hb]
  rw[Lib.index,hp,ih]
  simp
def pcs (c:UInt8)(l:Bt):List Bt:=Lib.splitK [c] 0 (l.count c) l
theorem Ch (c:UInt8)(l:Bt)(h:c∉l):pcs c l=[l]:=by
 unfold pcs
 rw[List.count_eq_zero.2 h]
 rfl
theorem zo (c:UInt8)(p r:Bt)(h:c∉p):pcs c (p++c::r)=p::pcs c r:=by
 unfold pcs
 rw[List.count_append,List.count_eq_zero.2 h,List.count_cons_self,Nat.zero_add]
 conv=>lhs;unfold Lib.splitK
 rw[mV c p r h]
 have hm:((p.length:Int)== -1)=false:=by rw[beq_eq_false_iff_ne];omega
 rw[hm]
 simp only[Bool.false_eq_true,if_false,Int.toNat_natCast,Nat.add_zero,List.take_left,List.length_singleton]
 congr 1
 rw[<-List.drop_drop,List.drop_left]
 rfl
theorem nN (c:UInt8)(l:Bt):(c∉l/\pcs c l=[l])\/∃p r,l=p++c::r/\c∉p/\pcs c l=p::pcs c r:=by
 by_cases h:c∈l
 ·obtain⟨p,r,rfl,hp⟩:=List.eq_append_cons_of_mem h
  exact .inr ⟨p,r,rfl,hp,zo c p r hp⟩
 ·exact .inl ⟨h,Ch c l h⟩
theorem pieces_eq (s:ByteArray):(pieces s).map (·.data.toList)=pcs 45 s.data.toList:=by
 unfold pieces pcs
 rw[Lib.splitB_data]
 congr 1
 exact Lib.count_one 45 _
def at_ (l:Bt)(i:Nat):Int:=((l.getD i 0).toNat:Int)
def yS (i:Nat)(c:Int):Bool:=if i=4\/i=7 then decide (c=45)else digit c
def gY (l:Bt):Bool:=decide (l.length=10)&&(List.range 10).all λi=>yS i (at_ l i)
theorem Ku:∀l:Bt,l.length=10->∃a b c d e f g h i j,l=[a,b,c,d,e,f,g,h,i,j]
 |[a,b,c,d,e,f,g,h,i,j],_=>⟨a,b,c,d,e,f,g,h,i,j,rfl⟩
theorem Mg:∀l:Bt,l.length=2->∃a b,l=[a,b]
 |[a,b],_=>⟨a,b,rfl⟩
theorem list4:∀l:Bt,l.length=4->∃a b c d,l=[a,b,c,d]
 |[a,b,c,d],_=>⟨a,b,c,d,rfl⟩
theorem gQ {c:UInt8}(h:digit (c.toNat:Int)=true):c≠45/\c≠46:=by
 constructor
 all_goals
  rintro rfl
  revert h
  decide
theorem Rc (c:UInt8):decide ((c.toNat:Int)=45)=true↔c=45:=by
 rw[decide_eq_true_iff]
 constructor
 ·intro h
  apply UInt8.toNat_inj.1
  have:c.toNat=45:=by omega
  rw[this];rfl
 ·rintro rfl;rfl
theorem u8_46 (c:UInt8):decide ((c.toNat:Int)=46)=true↔c=46:=by
 rw[decide_eq_true_iff]
 constructor
 ·intro h
  apply UInt8.toNat_inj.1
  have:c.toNat=46:=by omega
  rw[this];rfl
 ·rintro rfl;rfl
theorem nO (a b c d e f g h i j:UInt8):gY [a,b,c,d,e,f,g,h,i,j]=true↔digit a.toNat=true/\digit b.toNat=true/\digit c.toNat=true/\digit d.toNat=true/\e=45/\digit f.toNat=true/\digit g.toNat=true/\h=45/\digit i.toNat=true/\digit j.toNat=true:=by
 unfold gY
 have:(List.range 10)=[0,1,2,3,4,5,6,7,8,9]:=rfl
 rw[this]
 simp only[List.all_cons,List.all_nil,Bool.and_true,Bool.and_eq_true]
 rw[<-Rc e,<-Rc h]
 simp only[yS,at_]
 simp
theorem Pj (s:ByteArray):date s=(decide (s.data.toList.length=10)&&decide ((pcs 45 s.data.toList).length=3)&&decide (((pcs 45 s.data.toList)[0]?.map List.length).getD 0=4)&&decide (((pcs 45 s.data.toList)[1]?.map List.length).getD 0=2)&&(pcs 45 s.data.toList).all λp=>all digit p):=by
 unfold date
 have hz:∀x:ByteArray,x.data.toList.length=x.size:=by rintro⟨⟨l⟩⟩;rfl
 rw[<-pieces_eq,List.length_map,List.getElem?_map,List.getElem?_map,List.all_map,Option.map_map,Option.map_map,hz]
 have hf:(List.length∘λx:ByteArray=>x.data.toList)=λx=>x.size:=funext hz
 rw[hf]
 rfl
theorem qM (s:ByteArray):date s=gY s.data.toList:=by
 rw[Pj]
 obtain⟨l,hl⟩:∃l,l=s.data.toList:=⟨_,rfl⟩
 rw[<-hl]
 clear hl
 rw[Bool.eq_iff_iff]
 constructor
 ·intro h
  simp only[Bool.and_eq_true,decide_eq_true_eq]at h
  obtain⟨⟨⟨⟨h1,h2⟩,h3⟩,h4⟩,h5⟩:=h
  rcases nN 45 l with⟨_,e⟩|⟨p,r,rfl,hp,e⟩
  ·rw[e]at h2;simp at h2
  rw[e]at h2 h3 h4 h5
  rcases nN 45 r with⟨_,e⟩|⟨q,r,rfl,hq,e⟩
  ·rw[e]at h2;simp at h2
  rw[e]at h2 h4 h5
  rcases nN 45 r with⟨_,e⟩|⟨q2,r2,rfl,hq2,e⟩
  ·rw[e]at h5
   have h3:p.length=4:=by simpa using h3
   have h4:q.length=2:=by simpa using h4
   have hr:r.length=2:=by
    simp only[List.length_append,List.length_cons]at h1;omega
   obtain⟨a,b,c,d,rfl⟩:=list4 p h3
   obtain⟨f,g,rfl⟩:=Mg q h4
   obtain⟨i,j,rfl⟩:=Mg r hr
   show gY [a,b,c,d,45,f,g,45,i,j]=true
   rw[nO]
   simp[all]at h5
   simp[h5]
  ·exfalso
   rw[e]at h2
   simp only[List.length_cons]at h2
   have:0<(pcs 45 r2).length:=by
    rcases nN 45 r2 with⟨_,e⟩|⟨_,_,_,_,e⟩<;>rw[e]<;>simp
   omega
 ·intro h
  have h1:l.length=10:=by
   unfold gY at h
   simp only[Bool.and_eq_true,decide_eq_true_eq]at h
   exact h.1
  obtain⟨a,b,c,d,e,f,g,h',i,j,rfl⟩:=Ku l h1
  rw[nO]at h
  obtain⟨x0,x1,x2,x3,rfl,x5,x6,rfl,x8,x9⟩:=h
  have e1:pcs 45 [a,b,c,d,45,f,g,45,i,j]=[[a,b,c,d],[f,g],[i,j]]:=by
   rw[show([a,b,c,d,45,f,g,45,i,j]:Bt)=[a,b,c,d]++45::([f,g]++45::[i,j])from rfl]
   rw[zo,zo,Ch]
   ·simp[Ne.symm (gQ x8).1,Ne.symm (gQ x9).1]
   ·simp[Ne.symm (gQ x5).1,Ne.symm (gQ x6).1]
   ·simp[Ne.symm (gQ x0).1,Ne.symm (gQ x1).1,Ne.symm (gQ x2).1,Ne.symm (gQ x3).1]
  rw[e1]
  simp[all,x0,x1,x2,x3,x5,x6,x8,x9]
def xz (t:Bt):Bool:=decide (4<=t.length)&&decide (at_ t (t.length-3)=46)&&digit (at_ t (t.length-1))&&digit (at_ t (t.length-2))&&whole (t.take (t.length-3))
def bi (l:Bt):Bt:=if l.head? =some 45 then l.drop 1 else l
def dh (l:Bt):Bool:=!(l==[45,48,46,48,48])&&xz (bi l)
theorem IC (l:Bt):Lib.trimPrefix l [45]=bi l:=by
 unfold Lib.trimPrefix bi Lib.hasPrefix
 cases l with
 |nil=>rfl
 |cons c l=>by_cases h:c=45
            ·subst h;simp[List.isPrefixOf]
            ·simp[List.isPrefixOf,h,Ne.symm h]
theorem lD {l:Bt}(h:whole l=true):∀c∈l,digit (c.toNat:Int)=true:=by
 unfold whole all at h
 simp only[Bool.and_eq_true,List.all_eq_true]at h
 exact h.1.2
theorem ug (p r:Bt)(h:(46:UInt8)∉p):Lib.cut (p++46::r) [46]=(p,r,true):=by
 unfold Lib.cut
 rw[mV 46 p r h,if_pos (by omega)]
 simp only[Int.toNat_natCast,List.take_left,List.length_singleton]
 congr 2
 rw[<-List.drop_drop,List.drop_left]
 rfl
theorem Me (t:Bt):((Lib.cut t [46]).2.2&&whole (Lib.cut t [46]).1&&decide ((Lib.cut t [46]).2.1.length=2)&&all digit (Lib.cut t [46]).2.1)=xz t:=by
 rw[Bool.eq_iff_iff]
 constructor
 ·intro h
  by_cases hm:(46:UInt8)∈t
  ·obtain⟨p,r,rfl,hp⟩:=List.eq_append_cons_of_mem hm
   rw[ug p r hp]at h
   simp only[Bool.and_eq_true,decide_eq_true_eq,Bool.true_and]at h
   obtain⟨⟨h1,h2⟩,h3⟩:=h
   obtain⟨x,y,rfl⟩:=Mg r h2
   have hpl:0<p.length:=by
    cases p with
    |nil=>simp[whole,all]at h1
    |cons _ _=>simp
   have hn:(p++[46,x,y]).length=p.length+3:=by simp
   unfold xz
   rw[hn,show p.length+3-3=p.length from by omega,show p.length+3-1=p.length+2 from by omega,show p.length+3-2=p.length+1 from by omega,List.take_left,h1]
   have a0:at_ (p++[46,x,y]) p.length=46:=by unfold at_;rw[List.getD_eq_getElem?_getD,List.getElem?_append_right (Nat.le_refl _),Nat.sub_self];rfl
   have a1:at_ (p++[46,x,y]) (p.length+1)=x.toNat:=by unfold at_;rw[List.getD_eq_getElem?_getD,List.getElem?_append_right (by omega),Nat.add_sub_cancel_left];rfl
   have a2:at_ (p++[46,x,y]) (p.length+2)=y.toNat:=by unfold at_;rw[List.getD_eq_getElem?_getD,List.getElem?_append_right (by omega),Nat.add_sub_cancel_left];rfl
   rw[a0,a1,a2]
   simp[all]at h3
   simp[h3]
   omega
  ·unfold Lib.cut at h
   rw[pU 46 t hm]at h
   simp at h
 ·intro h
  unfold xz at h
  simp only[Bool.and_eq_true,decide_eq_true_eq]at h
  obtain⟨⟨⟨⟨h0,h1⟩,h2⟩,h3⟩,h4⟩:=h
  obtain⟨p,hp⟩:∃p,p=t.take (t.length-3):=⟨_,rfl⟩
  obtain⟨z,x,y,hr⟩:∃z x y,t.drop (t.length-3)=[z,x,y]:=by
   have:(t.drop (t.length-3)).length=3:=by rw[List.length_drop];omega
   match t.drop (t.length-3),this with
   |[z,x,y],_=>exact⟨z,x,y,rfl⟩
  have ht:t=p++[z,x,y]:=by rw[hp,<-hr,List.take_append_drop]
  have hpl:p.length=t.length-3:=by rw[hp,List.length_take];omega
  rw[<-hp]at h4
  have a0:at_ t (t.length-3)=z.toNat:=by unfold at_;rw[<-hpl,ht,List.getD_eq_getElem?_getD,List.getElem?_append_right (by omega),Nat.sub_self];rfl
  have a1:at_ t (t.length-2)=x.toNat:=by unfold at_;rw[show t.length-2=p.length+1 from by omega,ht,List.getD_eq_getElem?_getD,List.getElem?_append_right (by omega),Nat.add_sub_cancel_left];rfl
  have a2:at_ t (t.length-1)=y.toNat:=by unfold at_;rw[show t.length-1=p.length+2 from by omega,ht,List.getD_eq_getElem?_getD,List.getElem?_append_right (by omega),Nat.add_sub_cancel_left];rfl
  rw[a0]at h1
  rw[a1]at h3
  rw[a2]at h2
  have hz:z=46:=(u8_46 z).1 (by simp[h1])
  subst hz
  have hn:(46:UInt8)∉p:=λhm=>(gQ (lD h4 _ hm)).2 rfl
  rw[ht,show p++[46,x,y]=p++46::[x,y]from rfl,ug p _ hn]
  simp[h4,all,h2,h3]
theorem wU (l:Bt):decimal l=dh l:=by
 unfold decimal dh
 rw[IC,Me,Bool.and_comm]
def zZ (l:Bt):Int×Int:=
 if 32<l.length then(0,5)else if gY l then(4,0)else if whole l&&decide (l.length<=16)then(2,0)else if dh l then(3,0)
 else if all named l then(1,0)else if all lower l then(0,0)else(0,30)
theorem tV (s:ByteArray):aC s=zZ s.data.toList:=by
 have hl:s.data.toList.length=s.size:=by obtain⟨⟨l⟩⟩:=s;rfl
 unfold aC zZ
 rw[qM,wU,hl]
theorem xV (s:ByteArray)(h:(aC s).2=0):(s.data.toList.all λc=>c !=35)=true:=by
 rw[tV]at h
 obtain⟨l,hl⟩:∃l,l=s.data.toList:=⟨_,rfl⟩
 rw[<-hl]at h⊢
 rw[List.all_eq_true]
 intro c hc
 rw[bne_iff_ne]
 rintro rfl
 unfold zZ at h
 split at h
 ·cases h
 split at h
 ·rename_i hd
  have h1:l.length=10:=by
   unfold gY at hd
   simp only[Bool.and_eq_true,decide_eq_true_eq]at hd
   exact hd.1
  obtain⟨a,b,c,d,e,f,g,h',i,j,rfl⟩:=Ku l h1
  rw[nO]at hd
  obtain⟨x0,x1,x2,x3,rfl,x5,x6,rfl,x8,x9⟩:=hd
  have k:∀c:UInt8,digit (c.toNat:Int)=true->(35:UInt8)≠c:=by
   rintro c hc rfl
   revert hc;decide
  simp[k _ x0,k _ x1,k _ x2,k _ x3,k _ x5,k _ x6,k _ x8,k _ x9]at hc
 split at h
 ·rename_i hd
  rw[Bool.and_eq_true]at hd
  have:=lD hd.1 _ hc
  revert this;decide
 split at h
 ·rename_i hd
  unfold dh at hd
  rw[Bool.and_eq_true]at hd
  have hr:=hd.2
  have hm:(35:UInt8)∈bi l:=by
   unfold bi
   split
   ·rename_i hh
    cases l with
    |nil=>cases hh
    |cons x l=>
     obtain rfl:x=45:=by simpa using hh
     rcases List.mem_cons.1 hc with h|h
     ·cases h
     ·exact h
   ·exact hc
  rw[<-Me]at hr
  by_cases hn:(46:UInt8)∈bi l
  ·obtain⟨p,r,he,hp⟩:=List.eq_append_cons_of_mem hn
   rw[he,ug p r hp]at hr
   rw[he]at hm
   simp only[Bool.and_eq_true,decide_eq_true_eq,Bool.true_and]at hr
   obtain⟨⟨h1,h2⟩,h3⟩:=hr
   rcases List.mem_append.1 hm with hm|hm
   ·have:=lD h1 _ hm
    revert this;decide
   ·rcases List.mem_cons.1 hm with hm|hm
    ·cases hm
    ·unfold all at h3
     rw[Bool.and_eq_true,List.all_eq_true]at h3
     have:=h3.2 _ hm
     revert this;decide
  ·unfold Lib.cut at hr
   rw[pU 46 _ hn]at hr
   simp at hr
 split at h
 ·rename_i hd
  unfold all at hd
  rw[Bool.and_eq_true,List.all_eq_true]at hd
  have:=hd.2 _ hc
  revert this;decide
 split at h
 ·rename_i hd
  unfold all at hd
  rw[Bool.and_eq_true,List.all_eq_true]at hd
  have:=hd.2 _ hc
  revert this;decide
 ·cases h
end Go.Proofs.YtnjjeapcalkmaaaGreatDoor.Lx
namespace Go.Proofs.YtnjjeapcalkmaaaGreatDoor
open Go.RowKit
theorem tC (s:ByteArray)(i:Nat):Lx.at_ s.data.toList i=PlainAid.bt s i:=by
 obtain⟨⟨l⟩⟩:=s
 unfold Lx.at_ PlainAid.bt
 rw[List.getD_eq_getElem?_getD]
 by_cases h:i<l.length
 ·rw[List.getElem?_eq_getElem h]
  have h2:i<(⟨⟨l⟩⟩:ByteArray).size:=h
  rw[dif_pos h2]
  rfl
 ·rw[List.getElem?_eq_none (Nat.le_of_not_lt h)]
  have h2:¬i<(⟨⟨l⟩⟩:ByteArray).size:=h
  rw[dif_neg h2]
  rfl
theorem nG (c:Int)(w:World):
 Calls Tryz.prog 189 #[.int .u8 c] w λe w'=>e=.returned (.bool (Lx.digit c))/\w=w':=by
 go_enter Tryz.func189,Tryz.ntmps189
 go_wp2
 all_goals go_ret
 all_goals exact⟨bK (by first|(simp[Lx.digit];done)|(simp[Lx.digit];omega)),rfl⟩
theorem MZ (c:Int)(w:World):
 Calls Tryz.prog 58 #[.int .u8 c] w λe w'=>e=.returned (.bool (Lx.blank c))/\w=w':=by
 go_enter Tryz.func58,Tryz.ntmps58
 go_wp2
 all_goals go_ret
 all_goals exact⟨bK (by first|(simp[Lx.blank];done)|(simp[Lx.blank];omega)),rfl⟩
theorem JV (s:ByteArray)(w:World)(_h1:s.size<=1000000)(hs:¬(s.size:Int)=10):
 Calls Tryz.prog 109 #[.string s] w λe w'=>e=.returned (.bool false)/\w=w':=by
 go_enter Tryz.func109,Tryz.ntmps109
 go_wp2_with fail
 go_ret
 exact⟨rfl,rfl⟩
theorem Ns (s:ByteArray)(w:World)(hs:(s.size:Int)=10)(hs2:s.size=10)(j:Nat)(hj:j<=10)(hall:Hid (∀i,i<j->Lx.yS i (PlainAid.bt s i)=true))(hbad:Hid (j<10->Lx.yS j (PlainAid.bt s j)=false))(r:Bool)(hr:Hid (r=decide (j=10))):
 Calls Tryz.prog 109 #[.string s] w λe w'=>e=.returned (.bool r)/\w=w':=by
 have hub:=PlainAid.get_bt s
 have hd:=Lib.hid λ(c:Int) (w:World)=>nG c w
 go_enter Tryz.func109,Tryz.ntmps109
 go_wp2_with fail
 go_loopw [3] (λiv wr=>∃i:Nat,iv=.int .i64 i/\i<=j/\wr=w) (λiv _=>2000-(RowKit.intOf iv).toNat)
 case atStart=>exact⟨0,rfl,Nat.zero_le _,rfl⟩
 case round=>
  obtain⟨i,rfl,hi,rfl⟩:=hrel
  by_cases h10:i<10
  ·have h10I:(i:Int)<10:=by omega
   have his:i<s.size:=by omega
   have Cc:(i:Int)<(s.size:Int):=by omega
   have hw1:wrap64 ((i:Int)+1)=((i+1:Nat):Int):=by unfold wrap64;omega
   obtain⟨b,hb⟩:∃b,Lx.yS i (PlainAid.bt s i)=b:=⟨_,rfl⟩
   have hij:b=false->r=false:=λhf=>by
    by_cases hlt:i<j
    ·rw[hall.out i hlt]at hb;rw[<-hb]at hf;cases hf
    ·rw[hr.out];simp;omega
   have hij2:b=true->i<j:=λht=>by
    by_cases hlt:i<j
    ·exact hlt
    ·obtain rfl:i=j:=by omega
     rw[hbad.out h10]at hb;rw[<-hb]at ht;cases ht
   unfold Lx.yS at hb
   obtain⟨c,hc⟩:∃c,PlainAid.bt s i=c:=⟨_,rfl⟩
   rw[hc]at hb
   clear hall hbad hr
   by_cases h4:i=4\/i=7
   ·rw[if_pos h4]at hb
    clear hd
    cases b with
    |true=>
     have hc45:c=45:=by simpa using hb
     have hlt:=hij2 rfl
     clear hij hij2 hb
     rcases h4 with h4|h4
     all_goals
      subst h4
      subst hc45
      go_wp2_with fail
      refine⟨⟨_,rfl,hlt,trivial⟩,by simp[RowKit.intOf]⟩
    |false=>
     have hc45:¬c=45:=by simpa using hb
     have hlt:=hij rfl
     clear hij hij2 hb
     subst hlt
     rcases h4 with h4|h4
     all_goals
      subst h4
      go_wp2_with fail
      go_ret
      exact⟨rfl,rfl⟩
   ·rw[if_neg h4]at hb
    have n4:((i:Int)==4)=false:=by rw[beq_eq_false_iff_ne];omega
    have n7:((i:Int)==7)=false:=by rw[beq_eq_false_iff_ne];omega
    have m1:=hd.out c wr
    rw[hb]at m1
    clear hd h4 hb
    cases b with
    |true=>
     have hlt:=hij2 rfl
     clear hij hij2
     go_wp2_with (go_at_call 189;refine m1.mono ?_;rintro e w1 ⟨rfl,rfl⟩)
     refine⟨⟨i+1,by first|rfl|go_num,hlt,trivial⟩,by simp[RowKit.intOf]<;>omega⟩
    |false=>
     have hlt:=hij rfl
     clear hij hij2
     subst hlt
     go_wp2_with (go_at_call 189;refine m1.mono ?_;rintro e w1 ⟨rfl,rfl⟩)
     go_ret
     exact⟨rfl,rfl⟩
  ·have h10I:¬(i:Int)<10:=by omega
   have hres:r=true:=by rw[hr.out];simp;omega
   subst hres
   clear hall hbad hr
   go_wp2_with fail
   go_ret
   exact⟨rfl,rfl⟩
theorem vR (p:Nat->Bool)(n:Nat):∃j,j<=n/\(∀i,i<j->p i=true)/\(j<n->p j=false):=by
 induction n with
 |zero=>exact⟨0,Nat.le_refl _,λi h=>by omega,λh=>by omega⟩
 |succ n ih=>
  obtain⟨j,h1,h2,h3⟩:=ih
  by_cases h:j<n
  ·exact⟨j,by omega,h2,λ_=>h3 h⟩
  ·obtain rfl:j=n:=by omega
   cases hp:p j with
   |true=>exact⟨j+1,Nat.le_refl _,λi hi=>by
    by_cases hij:i<j
    ·exact h2 i hij
    ·obtain rfl:i=j:=by omega
     exact hp,λh=>by omega⟩
   |false=>exact⟨j,by omega,h2,λ_=>hp⟩
theorem Po (s:ByteArray)(w:World)(h1:s.size<=1000000):
 Calls Tryz.prog 109 #[.string s] w λe w'=>e=.returned (.bool (Lx.gY s.data.toList))/\w=w':=by
 have hl:s.data.toList.length=s.size:=by obtain⟨⟨l⟩⟩:=s;rfl
 by_cases hs:s.size=10
 ·obtain⟨j,h2,h3,h4⟩:=vR (λi=>Lx.yS i (PlainAid.bt s i)) 10
  refine Ns s w (by omega) hs j h2 (Lib.hid h3) (Lib.hid h4) _ (Lib.hid ?_)
  unfold Lx.gY
  rw[hl,hs,Bool.eq_iff_iff]
  simp only[decide_true,Bool.true_and,List.all_eq_true,List.mem_range,decide_eq_true_eq,tC]
  constructor
  ·intro h
   by_cases hj:j<10
   ·have:=h4 hj
    rw[h j hj]at this
    cases this
   ·omega
  ·rintro rfl i hi
   exact h3 i hi
 ·have hr:Lx.gY s.data.toList=false:=by
   unfold Lx.gY
   rw[hl]
   simp[hs]
  rw[hr]
  exact JV s w h1 (by omega)
theorem GX (s:ByteArray)(w:World)(h1:s.size<=1000000)(j:Nat)(hj:j<=s.size)(hall:Hid (∀i,i<j->Lx.digit (PlainAid.bt s i)=true))(hbad:Hid (j<s.size->Lx.digit (PlainAid.bt s j)=false))(r:Bool)(hr:Hid ((j<s.size->r=false)/\(j=s.size->r=(decide (s.size=1)||(decide (1<s.size)&&!decide (PlainAid.bt s 0=48)))))):
 Calls Tryz.prog 110 #[.string s] w λe w'=>e=.returned (.bool r)/\w=w':=by
 have hub:=PlainAid.get_bt s
 have hd:=Lib.hid λ(c:Int) (w:World)=>nG c w
 go_enter Tryz.func110,Tryz.ntmps110
 go_wp2_with fail
 go_loopw [3] (λiv wr=>∃i:Nat,iv=.int .i64 i/\i<=j/\wr=w) (λiv _=>2000000-(RowKit.intOf iv).toNat)
 case atStart=>exact⟨0,rfl,Nat.zero_le _,rfl⟩
 case round=>
  obtain⟨i,rfl,hi,rfl⟩:=hrel
  by_cases his:i<s.size
  ·have Cc:(i:Int)<(s.size:Int):=by omega
   have hw1:wrap64 ((i:Int)+1)=((i+1:Nat):Int):=by unfold wrap64;omega
   obtain⟨b,hb⟩:∃b,Lx.digit (PlainAid.bt s i)=b:=⟨_,rfl⟩
   have hij:b=false->r=false:=λhf=>by
    by_cases hlt:i<j
    ·rw[hall.out i hlt]at hb;rw[<-hb]at hf;cases hf
    ·exact hr.out.1 (by omega)
   have hij2:b=true->i<j:=λht=>by
    by_cases hlt:i<j
    ·exact hlt
    ·obtain rfl:i=j:=by omega
     rw[hbad.out his]at hb;rw[<-hb]at ht;cases ht
   obtain⟨c,hc⟩:∃c,PlainAid.bt s i=c:=⟨_,rfl⟩
   rw[hc]at hb
   clear hall hbad hr
   cases b with
   |true=>
    have hlt:=hij2 rfl
    clear hij hij2
    have m1:=hd.out c wr
    rw[hb]at m1
    clear hd hb
    go_wp2_with (go_at_call 189;refine m1.mono ?_;rintro e w1 ⟨rfl,rfl⟩)
    refine⟨⟨i+1,by first|rfl|go_num,hlt,trivial⟩,by simp[RowKit.intOf]<;>omega⟩
   |false=>
    have hlt:=hij rfl
    clear hij hij2
    subst hlt
    have m1:=hd.out c wr
    rw[hb]at m1
    clear hd hb
    go_wp2_with (go_at_call 189;refine m1.mono ?_;rintro e w1 ⟨rfl,rfl⟩)
    go_ret
    exact⟨rfl,rfl⟩
  ·have Cc:¬(i:Int)<(s.size:Int):=by omega
   have hre:=hr.out.2 (by omega)
   clear hall hbad hr hd
   by_cases e1:s.size=1
   ·have e2:(s.size:Int)=1:=by omega
    have hrv:r=true:=by rw[hre];simp[e1]
    subst hrv
    clear hre
    go_wp2_with fail
    go_ret
    exact⟨rfl,rfl⟩
   ·have e2:((s.size:Int)==1)=false:=by rw[beq_eq_false_iff_ne];omega
    by_cases e3:1<s.size
    ·have e4:decide (1<(s.size:Int))=true:=by simp;omega
     have e6:0<s.size:=by omega
     have e7:(0:Int)<(s.size:Int):=by omega
     obtain⟨c,hc⟩:∃c,PlainAid.bt s 0=c:=⟨_,rfl⟩
     rw[hc]at hre
     by_cases e5:c=48
     ·have hrv:r=false:=by rw[hre];simp[e1,e5]
      have e8:(c !=48)=false:=by simp[e5]
      subst hrv
      clear hre e5
      go_wp2_with fail
      go_ret
      exact⟨rfl,rfl⟩
     ·have hrv:r=true:=by rw[hre];simp[e3,e5]
      have e8:(c !=48)=true:=by simp[e5]
      subst hrv
      clear hre e5
      go_wp2_with fail
      go_ret
      exact⟨rfl,rfl⟩
    ·have e4:decide (1<(s.size:Int))=false:=by simp;omega
     have hrv:r=false:=by rw[hre];simp[e1,e3]
     subst hrv
     clear hre
     go_wp2_with fail
     go_ret
     exact⟨rfl,rfl⟩
theorem N8 (s:ByteArray)(w:World)(h1:s.size<=1000000)(j:Nat)(hj:j<=s.size)(hall:Hid (∀i,i<j->Lx.named (PlainAid.bt s i)=true))(hbad:Hid (j<s.size->Lx.named (PlainAid.bt s j)=false))(r:Bool)(hr:Hid ((j<s.size->r=false)/\(j=s.size->r=decide (0<s.size)))):
 Calls Tryz.prog 112 #[.string s] w λe w'=>e=.returned (.bool r)/\w=w':=by
 have hub:=PlainAid.get_bt s
 have hd:=Lib.hid λ(c:Int) (w:World)=>nG c w
 go_enter Tryz.func112,Tryz.ntmps112
 go_wp2_with fail
 go_loopw [3] (λiv wr=>∃i:Nat,iv=.int .i64 i/\i<=j/\wr=w) (λiv _=>2000000-(RowKit.intOf iv).toNat)
 case atStart=>exact⟨0,rfl,Nat.zero_le _,rfl⟩
 case round=>
  obtain⟨i,rfl,hi,rfl⟩:=hrel
  by_cases his:i<s.size
  ·have Cc:(i:Int)<(s.size:Int):=by omega
   have hw1:wrap64 ((i:Int)+1)=((i+1:Nat):Int):=by unfold wrap64;omega
   obtain⟨b,hb⟩:∃b,Lx.named (PlainAid.bt s i)=b:=⟨_,rfl⟩
   have hij:b=false->r=false:=λhf=>by
    by_cases hlt:i<j
    ·rw[hall.out i hlt]at hb;rw[<-hb]at hf;cases hf
    ·exact hr.out.1 (by omega)
   have hij2:b=true->i<j:=λht=>by
    by_cases hlt:i<j
    ·exact hlt
    ·obtain rfl:i=j:=by omega
     rw[hbad.out his]at hb;rw[<-hb]at ht;cases ht
   obtain⟨c,hc⟩:∃c,PlainAid.bt s i=c:=⟨_,rfl⟩
   rw[hc]at hb
   clear hall hbad hr
   cases b with
   |true=>
    have hlt:=hij2 rfl
    clear hij hij2
    have hn:Lx.named c=true:=hb
    clear hb
    have m1:=hd.out c wr
    clear hd
    cases hdg:Lx.digit c with
    |true=>
     rw[hdg]at m1
     clear hdg hn
     go_wp2_with (go_at_call 189;refine m1.mono ?_;rintro e w1 ⟨rfl,rfl⟩)
     refine⟨⟨i+1,by first|rfl|go_num,hlt,trivial⟩,by simp[RowKit.intOf]<;>omega⟩
    |false=>
     rw[hdg]at m1
     unfold Lx.named Lx.upper at hn
     rw[hdg]at hn
     clear hdg
     by_cases h45:c=45
     ·have e1:(c !=45)=false:=by simp[h45]
      clear hn h45
      go_wp2_with (go_at_call 189;refine m1.mono ?_;rintro e w1 ⟨rfl,rfl⟩)
      refine⟨⟨i+1,by first|rfl|go_num,hlt,trivial⟩,by simp[RowKit.intOf]<;>omega⟩
     ·have e1:(c !=45)=true:=by simp[h45]
      have e2:decide (c<65)=false:=by simp[h45]at hn;simp;omega
      have e3:decide (90<c)=false:=by simp[h45]at hn;simp;omega
      clear hn h45
      go_wp2_with (go_at_call 189;refine m1.mono ?_;rintro e w1 ⟨rfl,rfl⟩)
      refine⟨⟨i+1,by first|rfl|go_num,hlt,trivial⟩,by simp[RowKit.intOf]<;>omega⟩
   |false=>
    have hlt:=hij rfl
    clear hij hij2
    subst hlt
    have hn:Lx.named c=false:=hb
    clear hb
    have m1:=hd.out c wr
    clear hd
    unfold Lx.named Lx.upper at hn
    simp only[Bool.or_eq_false_iff,Bool.and_eq_false_iff,decide_eq_false_iff_not]at hn
    obtain⟨⟨h65,hdg⟩,h45⟩:=hn
    rw[hdg]at m1
    have e1:(c !=45)=true:=by simp[h45]
    clear hdg h45
    by_cases e2:c<65
    ·have e3:decide (c<65)=true:=by simp[e2]
     clear h65
     go_wp2_with (go_at_call 189;refine m1.mono ?_;rintro e w1 ⟨rfl,rfl⟩)
     go_ret
     exact⟨rfl,rfl⟩
    ·have e3:decide (c<65)=false:=by simp[e2]
     have e4:decide (90<c)=true:=by simp;omega
     clear h65
     go_wp2_with (go_at_call 189;refine m1.mono ?_;rintro e w1 ⟨rfl,rfl⟩)
     go_ret
     exact⟨rfl,rfl⟩
  ·have Cc:¬(i:Int)<(s.size:Int):=by omega
   have hre:=hr.out.2 (by omega)
   clear hall hbad hr hd
   have HRE:=Lib.hid hre
   clear hre
   go_wp2_with fail
   go_ret
   exact⟨by rw[HRE.out];rfl,rfl⟩
theorem LV (s:ByteArray)(w:World)(h1:s.size<=1000000)(j:Nat)(hj:j<=s.size)(hall:Hid (∀i,i<j->Lx.lower (PlainAid.bt s i)=true))(hbad:Hid (j<s.size->Lx.lower (PlainAid.bt s j)=false))(r:Bool)(hr:Hid ((j<s.size->r=false)/\(j=s.size->r=decide (0<s.size)))):
 Calls Tryz.prog 113 #[.string s] w λe w'=>e=.returned (.bool r)/\w=w':=by
 have hub:=PlainAid.get_bt s
 have hd:=Lib.hid λ(c:Int) (w:World)=>nG c w
 go_enter Tryz.func113,Tryz.ntmps113
 go_wp2_with fail
 go_loopw [3] (λiv wr=>∃i:Nat,iv=.int .i64 i/\i<=j/\wr=w) (λiv _=>2000000-(RowKit.intOf iv).toNat)
 case atStart=>exact⟨0,rfl,Nat.zero_le _,rfl⟩
 case round=>
  obtain⟨i,rfl,hi,rfl⟩:=hrel
  by_cases his:i<s.size
  ·have Cc:(i:Int)<(s.size:Int):=by omega
   have hw1:wrap64 ((i:Int)+1)=((i+1:Nat):Int):=by unfold wrap64;omega
   obtain⟨b,hb⟩:∃b,Lx.lower (PlainAid.bt s i)=b:=⟨_,rfl⟩
   have hij:b=false->r=false:=λhf=>by
    by_cases hlt:i<j
    ·rw[hall.out i hlt]at hb;rw[<-hb]at hf;cases hf
    ·exact hr.out.1 (by omega)
   have hij2:b=true->i<j:=λht=>by
    by_cases hlt:i<j
    ·exact hlt
    ·obtain rfl:i=j:=by omega
     rw[hbad.out his]at hb;rw[<-hb]at ht;cases ht
   obtain⟨c,hc⟩:∃c,PlainAid.bt s i=c:=⟨_,rfl⟩
   rw[hc]at hb
   clear hall hbad hr
   cases b with
   |true=>
    have hlt:=hij2 rfl
    clear hij hij2
    have hn:Lx.lower c=true:=hb
    clear hb hd
    unfold Lx.lower at hn
    have e2:decide (c<97)=false:=by simp at hn;simp;omega
    have e3:decide (122<c)=false:=by simp at hn;simp;omega
    clear hn
    go_wp2_with fail
    refine⟨⟨i+1,by first|rfl|go_num,hlt,trivial⟩,by simp[RowKit.intOf]<;>omega⟩
   |false=>
    have hlt:=hij rfl
    clear hij hij2
    subst hlt
    have hn:Lx.lower c=false:=hb
    clear hb hd
    unfold Lx.lower at hn
    by_cases e2:c<97
    ·have e3:decide (c<97)=true:=by simp[e2]
     clear hn
     go_wp2_with fail
     go_ret
     exact⟨rfl,rfl⟩
    ·have e3:decide (c<97)=false:=by simp[e2]
     have e4:decide (122<c)=true:=by simp at hn;simp;omega
     clear hn
     go_wp2_with fail
     go_ret
     exact⟨rfl,rfl⟩
  ·have Cc:¬(i:Int)<(s.size:Int):=by omega
   have hre:=hr.out.2 (by omega)
   clear hall hbad hr hd
   have HRE:=Lib.hid hre
   clear hre
   go_wp2_with fail
   go_ret
   exact⟨by rw[HRE.out];rfl,rfl⟩
theorem uV (P:Int->Bool)(s:ByteArray):s.data.toList.all (λc=>P (c.toNat:Int))=true↔∀i,i<s.size->P (PlainAid.bt s i)=true:=by
 obtain⟨⟨l⟩⟩:=s
 have hl:(⟨⟨l⟩⟩:ByteArray).size=l.length:=rfl
 rw[List.all_eq_true,hl]
 constructor
 ·intro h i hi
  unfold PlainAid.bt
  rw[dif_pos (by rw[hl];exact hi)]
  exact h l[i] (List.getElem_mem hi)
 ·intro h c hc
  obtain⟨i,hi,rfl⟩:=List.getElem_of_mem hc
  have:=h i hi
  unfold PlainAid.bt at this
  rw[dif_pos (by rw[hl];exact hi)]at this
  exact this
theorem yg (s:ByteArray)(w:World)(h1:s.size<=1000000):
 Calls Tryz.prog 110 #[.string s] w λe w'=>e=.returned (.bool (Lx.whole s.data.toList))/\w=w':=by
 obtain⟨j,h2,h3,h4⟩:=vR (λi=>Lx.digit (PlainAid.bt s i)) s.size
 refine GX s w h1 j h2 (Lib.hid h3) (Lib.hid h4) _ (Lib.hid ⟨λhj=>?_,λhj=>?_⟩)
 ·have hn:¬s.data.toList.all (λc=>Lx.digit (c.toNat:Int))=true:=by
   rw[uV]
   intro h
   have:=h4 hj
   rw[h j hj]at this
   cases this
  unfold Lx.whole Lx.all
  rw[Bool.eq_false_iff]
  intro h
  simp only[Bool.and_eq_true]at h
  exact hn h.1.2
 ·have hy:s.data.toList.all (λc=>Lx.digit (c.toNat:Int))=true:=by
   rw[uV]
   intro i hi
   exact h3 i (by omega)
  have hl:s.data.toList.length=s.size:=by obtain⟨⟨l⟩⟩:=s;rfl
  unfold Lx.whole Lx.all
  rw[hy,Bool.and_true]
  have hb:(s.data.toList.head? ==some 48)=(decide (0<s.size)&&decide (PlainAid.bt s 0=48)):=by
   rw[<-tC]
   unfold Lx.at_
   rw[<-hl]
   cases s.data.toList with
   |nil=>rfl
   |cons c l=>
    rw[Bool.eq_iff_iff]
    simp only[List.head?_cons,beq_iff_eq,Option.some.injEq,List.length_cons,List.getD_cons_zero,Bool.and_eq_true,decide_eq_true_eq]
    constructor
    ·rintro rfl
     exact⟨by omega,rfl⟩
    ·rintro⟨_,h⟩
     apply UInt8.toNat_inj.1
     show c.toNat=48
     omega
  rw[hb,hl]
  have he:s.data.toList.isEmpty=decide (s.size=0):=by
   rw[<-hl]
   cases s.data.toList<;>simp
  rw[he]
  by_cases e0:s.size=0
  ·simp[e0]
  ·by_cases e1:s.size=1
   ·simp[e1]
   ·have e2:0<s.size:=by omega
    have e3:1<s.size:=by omega
    simp[e0,e1,e2,e3]
theorem Gj (P:Int->Bool)(s:ByteArray):∃j,j<=s.size/\(∀i,i<j->P (PlainAid.bt s i)=true)/\(j<s.size->P (PlainAid.bt s j)=false)/\((j<s.size->Lx.all P s.data.toList=false)/\(j=s.size->Lx.all P s.data.toList=decide (0<s.size))):=by
 obtain⟨j,h2,h3,h4⟩:=vR (λi=>P (PlainAid.bt s i)) s.size
 refine⟨j,h2,h3,h4,λhj=>?_,λhj=>?_⟩
 ·have hn:¬s.data.toList.all (λc=>P (c.toNat:Int))=true:=by
   rw[uV]
   intro h
   have:=h4 hj
   rw[h j hj]at this
   cases this
  unfold Lx.all
  rw[Bool.eq_false_iff]
  intro h
  simp only[Bool.and_eq_true]at h
  exact hn h.2
 ·have hy:s.data.toList.all (λc=>P (c.toNat:Int))=true:=by
   rw[uV]
   intro i hi
   exact h3 i (by omega)
  have hl:s.data.toList.length=s.size:=by obtain⟨⟨l⟩⟩:=s;rfl
  unfold Lx.all
  rw[hy,Bool.and_true,<-hl]
  cases s.data.toList<;>simp
theorem Pk (s:ByteArray)(w:World)(h1:s.size<=1000000):
 Calls Tryz.prog 112 #[.string s] w λe w'=>e=.returned (.bool (Lx.all Lx.named s.data.toList))/\w=w':=by
 obtain⟨j,h2,h3,h4,h5⟩:=Gj Lx.named s
 exact N8 s w h1 j h2 (Lib.hid h3) (Lib.hid h4) _ (Lib.hid h5)
theorem PH (s:ByteArray)(w:World)(h1:s.size<=1000000):
 Calls Tryz.prog 113 #[.string s] w λe w'=>e=.returned (.bool (Lx.all Lx.lower s.data.toList))/\w=w':=by
 obtain⟨j,h2,h3,h4,h5⟩:=Gj Lx.lower s
 exact LV s w h1 j h2 (Lib.hid h3) (Lib.hid h4) _ (Lib.hid h5)
theorem EQ (c:Int)(w:World):
 Calls Tryz.prog 219 #[.int .u8 c] w λe w'=>e=.returned (.bool (Id.letter c))/\w'=w:=by
 go_enter Tryz.func219,Tryz.ntmps219
 go_wp2
 all_goals go_ret
 all_goals exact⟨bK (by first|(simp[Id.letter,Lx.upper];done)|(simp[Id.letter,Lx.upper];omega)),rfl⟩
theorem zg (c:Int)(w:World):
 Calls Tryz.prog 220 #[.int .u8 c] w λe w'=>e=.returned (.bool (Id.digit c))/\w'=w:=by
 go_enter Tryz.func220,Tryz.ntmps220
 go_wp2
 all_goals go_ret
 all_goals exact⟨bK (by first|(simp[Id.digit,Lx.digit];done)|(simp[Id.digit,Lx.digit];omega)),rfl⟩
def oG (k:Nat):Int:=if k=0 then 12 else if k=1 then 4 else if k=2 then 1 else 20
def AY (k:Nat):Int:=if k=0 then 12 else if k=1 then 8 else if k=2 then 16 else 20
theorem uB (k:Nat)(hk:k<3)(w:World):
 Calls Tryz.prog 172 #[.int .i64 k] w λe w'=>e=.returned (.tuple #[.int .i64 (oG k),.int .i64 (AY k)])/\w'=w:=by
 match k,hk with
 |0,_=>
  go_enter Tryz.func172,Tryz.ntmps172
  go_wp2
  all_goals go_ret2
  all_goals exact⟨rfl,rfl⟩
 |1,_=>
  go_enter Tryz.func172,Tryz.ntmps172
  go_wp2
  all_goals go_ret2
  all_goals exact⟨rfl,rfl⟩
 |2,_=>
  go_enter Tryz.func172,Tryz.ntmps172
  go_wp2
  all_goals go_ret2
  all_goals exact⟨rfl,rfl⟩
theorem J5 (i:Nat)(c:Int)(b1 b2:Bool)(hi:i<2)(w:World)
 (nL:Hid (∀w,Calls Tryz.prog 219 #[.int .u8 c] w λe w'=>e=.returned (.bool b1)/\w'=w))
 (nD:Hid (∀w,Calls Tryz.prog 220 #[.int .u8 c] w λe w'=>e=.returned (.bool b2)/\w'=w)):
 Calls Tryz.prog 173 #[.int .i64 0,.int .i64 i,.int .u8 c] w λe w'=>e=.returned (.bool (b1))/\w'=w:=by
 have h1:(i:Int)<2:=by omega
 have h2:¬(i:Int)=11:=by omega
 have h3:((i:Int)==11)=false:=by simp;omega
 have h4:((i:Int)>=2)=False:=by simp;omega
 cases b1<;>cases b2
 all_goals
  go_enter Tryz.func173,Tryz.ntmps173
  go_wp2_with (first|(go_at_call 219;refine(nL.out _).mono ?_;rintro x w1 ⟨rfl,rfl⟩)|(go_at_call 220;refine(nD.out _).mono ?_;rintro x w1 ⟨rfl,rfl⟩))
  all_goals go_ret
  all_goals first|exact⟨rfl,rfl⟩|exact⟨bK (by simp_all),rfl⟩
theorem I8 (i:Nat)(c:Int)(b1 b2:Bool)(hi:2<=i)(hi2:i<11)(w:World)
 (nL:Hid (∀w,Calls Tryz.prog 219 #[.int .u8 c] w λe w'=>e=.returned (.bool b1)/\w'=w))
 (nD:Hid (∀w,Calls Tryz.prog 220 #[.int .u8 c] w λe w'=>e=.returned (.bool b2)/\w'=w)):
 Calls Tryz.prog 173 #[.int .i64 0,.int .i64 i,.int .u8 c] w λe w'=>e=.returned (.bool (b1||b2))/\w'=w:=by
 have h1:¬(i:Int)<2:=by omega
 have h2:(i:Int)<11:=by omega
 have h3:((i:Int)==11)=false:=by simp;omega
 have h4:(i:Int)>=2:=by omega
 cases b1<;>cases b2
 all_goals
  go_enter Tryz.func173,Tryz.ntmps173
  go_wp2_with (first|(go_at_call 219;refine(nL.out _).mono ?_;rintro x w1 ⟨rfl,rfl⟩)|(go_at_call 220;refine(nD.out _).mono ?_;rintro x w1 ⟨rfl,rfl⟩))
  all_goals go_ret
  all_goals first|exact⟨rfl,rfl⟩|exact⟨bK (by simp_all),rfl⟩
theorem JQ (i:Nat)(c:Int)(b1 b2:Bool)(hi:i=11)(w:World)
 (nL:Hid (∀w,Calls Tryz.prog 219 #[.int .u8 c] w λe w'=>e=.returned (.bool b1)/\w'=w))
 (nD:Hid (∀w,Calls Tryz.prog 220 #[.int .u8 c] w λe w'=>e=.returned (.bool b2)/\w'=w)):
 Calls Tryz.prog 173 #[.int .i64 0,.int .i64 i,.int .u8 c] w λe w'=>e=.returned (.bool (b2))/\w'=w:=by
 subst hi
 cases b1<;>cases b2
 all_goals
  go_enter Tryz.func173,Tryz.ntmps173
  go_wp2_with (first|(go_at_call 219;refine(nL.out _).mono ?_;rintro x w1 ⟨rfl,rfl⟩)|(go_at_call 220;refine(nD.out _).mono ?_;rintro x w1 ⟨rfl,rfl⟩))
  all_goals go_ret
  all_goals first|exact⟨rfl,rfl⟩|exact⟨bK (by simp_all),rfl⟩
theorem Jo (i:Nat)(c:Int)(b1 b2:Bool)(hi:i=0)(w:World)
 (nL:Hid (∀w,Calls Tryz.prog 219 #[.int .u8 c] w λe w'=>e=.returned (.bool b1)/\w'=w))
 (nD:Hid (∀w,Calls Tryz.prog 220 #[.int .u8 c] w λe w'=>e=.returned (.bool b2)/\w'=w)):
 Calls Tryz.prog 173 #[.int .i64 1,.int .i64 i,.int .u8 c] w λe w'=>e=.returned (.bool (b1))/\w'=w:=by
 subst hi
 cases b1<;>cases b2
 all_goals
  go_enter Tryz.func173,Tryz.ntmps173
  go_wp2_with (first|(go_at_call 219;refine(nL.out _).mono ?_;rintro x w1 ⟨rfl,rfl⟩)|(go_at_call 220;refine(nD.out _).mono ?_;rintro x w1 ⟨rfl,rfl⟩))
  all_goals go_ret
  all_goals first|exact⟨rfl,rfl⟩|exact⟨bK (by simp_all),rfl⟩
theorem JZ (i:Nat)(c:Int)(b1 b2:Bool)(hi:0<i)(w:World)
 (nL:Hid (∀w,Calls Tryz.prog 219 #[.int .u8 c] w λe w'=>e=.returned (.bool b1)/\w'=w))
 (nD:Hid (∀w,Calls Tryz.prog 220 #[.int .u8 c] w λe w'=>e=.returned (.bool b2)/\w'=w)):
 Calls Tryz.prog 173 #[.int .i64 1,.int .i64 i,.int .u8 c] w λe w'=>e=.returned (.bool (b1||b2))/\w'=w:=by
 have h1:(i:Int)>0:=by omega
 cases b1<;>cases b2
 all_goals
  go_enter Tryz.func173,Tryz.ntmps173
  go_wp2_with (first|(go_at_call 219;refine(nL.out _).mono ?_;rintro x w1 ⟨rfl,rfl⟩)|(go_at_call 220;refine(nD.out _).mono ?_;rintro x w1 ⟨rfl,rfl⟩))
  all_goals go_ret
  all_goals first|exact⟨rfl,rfl⟩|exact⟨bK (by simp_all),rfl⟩
theorem Md (i:Nat)(c:Int)(b1 b2 b3:Bool)(h3:(c==45)=b3)(w:World)
 (nL:Hid (∀w,Calls Tryz.prog 219 #[.int .u8 c] w λe w'=>e=.returned (.bool b1)/\w'=w))
 (nD:Hid (∀w,Calls Tryz.prog 220 #[.int .u8 c] w λe w'=>e=.returned (.bool b2)/\w'=w)):
 Calls Tryz.prog 173 #[.int .i64 2,.int .i64 i,.int .u8 c] w λe w'=>e=.returned (.bool (b1||b2||b3))/\w'=w:=by
 cases b1<;>cases b2<;>cases b3
 all_goals
  go_enter Tryz.func173,Tryz.ntmps173
  go_wp2_with (first|(go_at_call 219;refine(nL.out _).mono ?_;rintro x w1 ⟨rfl,rfl⟩)|(go_at_call 220;refine(nD.out _).mono ?_;rintro x w1 ⟨rfl,rfl⟩))
  all_goals go_ret
  all_goals first|exact⟨rfl,rfl⟩|exact⟨bK (by simp_all),rfl⟩
def mM (k i:Nat):Int->Bool:=((bE k).map (·.2)).getD i λ_=>true
theorem M3 (i:Nat)(h:i<2):mM 0 i=Id.letter:=by
 match i,h with
 |0,_=>rfl
 |1,_=>rfl
theorem K3 (i:Nat)(h1:2<=i)(h:i<11):mM 0 i=Id.bT:=by
 obtain⟨j,rfl⟩:∃j,i=j+2:=⟨i-2,by omega⟩
 have hj:j<9:=by omega
 clear h h1
 match j,hj with
 |0,_=>rfl
 |1,_=>rfl
 |2,_=>rfl
 |3,_=>rfl
 |4,_=>rfl
 |5,_=>rfl
 |6,_=>rfl
 |7,_=>rfl
 |8,_=>rfl
theorem Kq (i:Nat)(h1:0<i)(h:i<8):mM 1 i=Id.bT:=by
 obtain⟨j,rfl⟩:∃j,i=j+1:=⟨i-1,by omega⟩
 have hj:j<7:=by omega
 clear h h1
 match j,hj with
 |0,_=>rfl
 |1,_=>rfl
 |2,_=>rfl
 |3,_=>rfl
 |4,_=>rfl
 |5,_=>rfl
 |6,_=>rfl
theorem QB (i:Nat)(h:i<16):mM 2 i=Id.Db:=by
 by_cases h8:i<8
 ·match i,h8 with
  |0,_=>rfl
  |1,_=>rfl
  |2,_=>rfl
  |3,_=>rfl
  |4,_=>rfl
  |5,_=>rfl
  |6,_=>rfl
  |7,_=>rfl
 ·obtain⟨j,rfl⟩:∃j,i=j+8:=⟨i-8,by omega⟩
  have hj:j<8:=by omega
  clear h h8
  match j,hj with
  |0,_=>rfl
  |1,_=>rfl
  |2,_=>rfl
  |3,_=>rfl
  |4,_=>rfl
  |5,_=>rfl
  |6,_=>rfl
  |7,_=>rfl
theorem Hl (k:Nat)(hk:k<3)(i:Nat)(hi:(i:Int)<AY k)(c:Int)(w:World):
 Calls Tryz.prog 173 #[.int .i64 k,.int .i64 i,.int .u8 c] w λe w'=>e=.returned (.bool (mM k i c))/\w'=w:=by
 have nL:=Lib.hid λw=>EQ c w
 have nD:=Lib.hid λw=>zg c w
 match k,hk with
 |0,_=>
  have h12:i<12:=by have:(i:Int)<12:=hi;omega
  by_cases h2:i<2
  ·rw[M3 i h2]
   exact J5 i c _ _ h2 w nL nD
  ·by_cases h11:i<11
   ·rw[K3 i (by omega) h11]
    exact I8 i c _ _ (by omega) h11 w nL nD
   ·obtain rfl:i=11:=by omega
    exact JQ 11 c _ _ rfl w nL nD
 |1,_=>
  have h12:i<8:=by have:(i:Int)<8:=hi;omega
  by_cases h0:i=0
  ·subst h0
   exact Jo 0 c _ _ rfl w nL nD
  ·rw[Kq i (by omega) h12]
   exact JZ i c _ _ (by omega) w nL nD
 |2,_=>
  have h12:i<16:=by have:(i:Int)<16:=hi;omega
  rw[QB i h12]
  exact Md i c _ _ _ (by rw[Bool.eq_iff_iff,beq_iff_eq,decide_eq_true_iff]) w nL nD
theorem jV {B:Nat}{a w:World}(h:Below B a w)(q:Nat):Below B a (w.drewN q):=⟨h.os,h.tape,h.output,h.size,h.block⟩
theorem GI (k:Int)(s:ByteArray)(w:World)(hk1:k=1\/k=2)(low high e:Int)(nb j:Nat)(hs:s.size<=9223372036854775807)(hhi:high=(nb:Int))(hnb:nb<=20)(cls:Nat->Int->Bool)
 (nL:Hid (∀w,Calls Tryz.prog 172 #[.int .i64 k] w λe w'=>e=.returned (.tuple #[.int .i64 low,.int .i64 high])/\w'=w))
 (nM:Hid (∀(i:Nat) (c:Int) w,i<nb->Calls Tryz.prog 173 #[.int .i64 k,.int .i64 i,.int .u8 c] w λe w'=>e=.returned (.bool (cls i c))/\w'=w))
 (hjn:j<=nb) (hjs:j<=s.size) (hgood:Hid (∀i,i<j->cls i (PlainAid.bt s i)=true))
 (mr:Hid ((j<nb/\j<s.size/\cls j (PlainAid.bt s j)=false/\e=3)\/((j=nb\/j=s.size)/\(((s.size:Int)<low/\e=4)\/(¬(s.size:Int)<low/\(s.size:Int)>high/\e=5)\/(¬(s.size:Int)<low/\¬(s.size:Int)>high/\e=0))))):
 Calls Tryz.prog 92 #[.int .i64 k,.string s] w λx w'=>(∃z:Int,x=.returned (.tuple #[.int .i64 z,.int .i64 e]))/\Below w.heap.size w w':=by
 have hub:=PlainAid.get_bt s
 rcases hk1 with rfl|rfl
 all_goals
  go_enter Tryz.func92,Tryz.ntmps92
  go_wp2_with (go_at_call 172;refine(nL.out _).mono ?_;rintro x w1 ⟨rfl,lu⟩;obtain rfl:=lu.symm;clear lu)
  go_loopw [8] (λiv wr=>∃i:Nat,iv=.int .i64 i/\i<=j/\wr=w) (λiv _=>2000-(RowKit.intOf iv).toNat)
  case atStart=>exact⟨0,rfl,Nat.zero_le _,rfl⟩
  case round=>
   obtain⟨i,rfl,hi,hwr⟩:=hrel
   subst hwr
   by_cases hlt:i<j
   ·have hx:i<s.size:=by omega
    have hxi:(i:Int)<(s.size:Int):=by omega
    have hxh:(i:Int)<high:=by omega
    have m1:=λw=>nM.out i (PlainAid.bt s i) w (by omega)
    simp only[hgood.out i hlt]at m1
    go_wp2_with (go_at_call 173;refine(m1 _).mono ?_;rintro x w1 ⟨rfl,lu⟩;obtain rfl:=lu.symm;clear lu)
    go_roundw
    case rel=>exact⟨i+1,by go_num,by omega,by first|rfl|trivial⟩
    case measure=>simp[RowKit.intOf];omega
   ·obtain rfl:i=j:=by omega
    rcases mr.out with⟨h1,h2,h3,rfl⟩|⟨h1,h4⟩
    ·have hxi:(i:Int)<(s.size:Int):=by omega
     have hxh:(i:Int)<high:=by omega
     have m1:=λw=>nM.out i (PlainAid.bt s i) w (by omega)
     simp only[h3]at m1
     go_wp2_with (go_at_call 173;refine(m1 _).mono ?_;rintro x w1 ⟨rfl,lu⟩;obtain rfl:=lu.symm;clear lu)
     go_ret2
     exact⟨⟨_,rfl⟩,Below.refl _ _⟩
    ·have hnc:¬(i:Int)<(s.size:Int)\/((i:Int)<(s.size:Int)/\¬(i:Int)<high):=by omega
     rcases h4 with⟨h5,rfl⟩|⟨h5,h6,rfl⟩|⟨h5,h6,rfl⟩
     ·rcases hnc with hc|⟨hc,hc2⟩
      all_goals
       first
        |(exfalso;omega)
        |(go_wp2_with fail
          go_ret2
          exact⟨⟨_,rfl⟩,Below.refl _ _⟩)
     ·rcases hnc with hc|⟨hc,hc2⟩
      all_goals
       first
        |(exfalso;omega)
        |(go_wp2_with fail
          go_ret2
          exact⟨⟨_,rfl⟩,Below.refl _ _⟩)
     ·rcases hnc with hc|⟨hc,hc2⟩
      all_goals
       first
        |(exfalso;omega)
        |(go_wp2_with fail
          go_quiet (fail)
          go_wp2_with fail
          go_quiet (fail)
          go_wp2_with fail
          go_ret2
          exact⟨⟨_,rfl⟩,by first|exact Below.refl _ _|exact jV (Below.refl _ _) _|exact jV (jV (Below.refl _ _) _) _⟩)
theorem QO (p:Nat->Bool)(m:Nat):∃j,j<=m/\(∀i,i<j->p i=true)/\(j=m\/(j<m/\p j=false)):=by
 induction m with
 |zero=>exact⟨0,Nat.le_refl _,λi h=>absurd h (Nat.not_lt_zero _),Or.inl rfl⟩
 |succ m ih=>
  obtain⟨j,hj,hall,hend⟩:=ih
  rcases hend with rfl|⟨h1,h2⟩
  ·cases hp:p j with
   |false=>exact⟨j,by omega,hall,Or.inr ⟨by omega,hp⟩⟩
   |true=>
    refine⟨j+1,Nat.le_refl _,λi h=>?_,Or.inl rfl⟩
    by_cases h3:i=j
    ·rw[h3];exact hp
    ·exact hall i (by omega)
  ·exact⟨j,by omega,hall,Or.inr ⟨by omega,h2⟩⟩
theorem IB (k nb:Nat)(s:ByteArray)(hnb:(bE k).length=nb)(hlow:(aL k).low=oG k):
 ∃j,j<=nb/\j<=s.size/\(∀i,i<j->mM k i (PlainAid.bt s i)=true)/\
  ((j<nb/\j<s.size/\mM k j (PlainAid.bt s j)=false/\ag k s=3)\/((j=nb\/j=s.size)/\(((s.size:Int)<oG k/\ag k s=4)\/(¬(s.size:Int)<oG k/\(s.size:Int)>(nb:Int)/\ag k s=5)\/(¬(s.size:Int)<oG k/\¬(s.size:Int)>(nb:Int)/\ag k s=0)))):=by
 obtain⟨j,hj,hall,hend⟩:=QO (λi=>mM k i (PlainAid.bt s i)) (min nb s.size)
 refine⟨j,by omega,by omega,hall,?_⟩
 unfold ag bR
 rw[hlow,List.length_map,hnb]
 rcases hend with h|⟨h1,h2⟩
 ·right
  have hno:(List.range nb).any (lY ((bE k).map (·.2)) s)=false:=by
   rw[List.any_eq_false]
   intro i hi
   have hi':=List.mem_range.1 hi
   unfold lY
   by_cases hx:i<s.size
   ·have:=hall i (by omega)
    unfold mM at this
    simp[this]
   ·simp[hx]
  rw[hno]
  refine⟨by omega,?_⟩
  by_cases ha:(s.size:Int)<oG k
  ·exact Or.inl ⟨ha,by simp[ha]⟩
  ·by_cases hb:(s.size:Int)>(nb:Int)
   ·refine Or.inr (Or.inl ⟨ha,hb,?_⟩)
    have hb2:nb<s.size:=by omega
    simp[ha,hb2]
   ·refine Or.inr (Or.inr ⟨ha,hb,?_⟩)
    have hb2:¬nb<s.size:=by omega
    simp only[Bool.false_eq_true,if_false,if_neg ha,if_neg hb2]
 ·left
  refine⟨by omega,by omega,h2,?_⟩
  have hyes:(List.range nb).any (lY ((bE k).map (·.2)) s)=true:=by
   rw[List.any_eq_true]
   refine⟨j,List.mem_range.2 (by omega),?_⟩
   have hx:j<s.size:=by omega
   have h2':(((bE k).map (·.2)).getD j λ_=>true) (PlainAid.bt s j)=false:=h2
   unfold lY
   rw[h2']
   simp[hx]
  rw[hyes,if_pos rfl]
theorem De (k:Nat)(hk:k=1\/k=2)(s:ByteArray)(hs:s.size<=9223372036854775807)(w:World):
 Calls Tryz.prog 92 #[.int .i64 k,.string s] w λx w'=>(∃z:Int,x=.returned (.tuple #[.int .i64 z,.int .i64 (aN k s)]))/\Below w.heap.size w w':=by
 have he:aN k s=ag k s:=by
  unfold aN
  rcases hk with rfl|rfl<;>split<;>simp_all
 rw[he]
 have hk3:k<3:=by omega
 have nL:=Lib.hid λw=>uB k hk3 w
 obtain⟨nb,hnb,hhi,hb20⟩:∃nb:Nat,(bE k).length=nb/\AY k=(nb:Int)/\nb<=20:=by
  rcases hk with rfl|rfl
  ·exact⟨8,rfl,rfl,by omega⟩
  ·exact⟨16,rfl,rfl,by omega⟩
 have hlow:(aL k).low=oG k:=by rcases hk with rfl|rfl<;>rfl
 obtain⟨j,h1,h2,h3,h4⟩:=IB k nb s hnb hlow
 refine GI k s w (by omega) (oG k) (AY k) (ag k s) nb j hs hhi hb20 (mM k) nL (Lib.hid λi c w hi=>Hl k hk3 i (by omega) c w) h1 h2 (Lib.hid h3) (Lib.hid ?_)
 rw[hhi]
 exact h4
theorem Qk (s:ByteArray)(w:World)(h0:(s.toList==[45,48,46,48,48])=true):
 Calls Tryz.prog 111 #[.string s] w λe w'=>e=.returned (.bool false)/\w=w':=by
 go_enter Tryz.func111,Tryz.ntmps111
 go_wp2_with fail
 go_ret
 exact⟨rfl,rfl⟩
inductive rJ (t:ByteArray):Bool->Prop where
 |short (h:decide (4<=(t.size:Int))=false):rJ t false
 |point (m:Nat) (h:decide (4<=(t.size:Int))=true) (hm:(t.size:Int)-3=(m:Int)) (Ew:m<t.size) (b:(PlainAid.bt t m==46)=false):rJ t false
 |last (m:Nat) (h:decide (4<=(t.size:Int))=true) (hm:(t.size:Int)-3=(m:Int)) (Ew:m<t.size) (hm1:(t.size:Int)-1=((m+2:Nat):Int)) (NI:m+2<t.size) (b:(PlainAid.bt t m==46)=true) (c:Lx.digit (PlainAid.bt t (m+2))=false):rJ t false
 |one (m:Nat) (h:decide (4<=(t.size:Int))=true) (hm:(t.size:Int)-3=(m:Int)) (Ew:m<t.size) (hm1:(t.size:Int)-1=((m+2:Nat):Int)) (NI:m+2<t.size) (hm2:(t.size:Int)-2=((m+1:Nat):Int)) (hml2:m+1<t.size) (b:(PlainAid.bt t m==46)=true) (c:Lx.digit (PlainAid.bt t (m+2))=true) (d:Lx.digit (PlainAid.bt t (m+1))=false):rJ t false
 |all (m:Nat) (r:Bool) (h:decide (4<=(t.size:Int))=true) (hm:(t.size:Int)-3=(m:Int)) (Ew:m<t.size) (hm1:(t.size:Int)-1=((m+2:Nat):Int)) (NI:m+2<t.size) (hm2:(t.size:Int)-2=((m+1:Nat):Int)) (hml2:m+1<t.size) (b:(PlainAid.bt t m==46)=true) (c:Lx.digit (PlainAid.bt t (m+2))=true) (d:Lx.digit (PlainAid.bt t (m+1))=true) (e:Hid (Lx.whole (t.extract 0 m).data.toList=r)):rJ t r
theorem Pz (s t:ByteArray)(w:World)(h1:s.size<=1000)(ht:t.size<=1000)(h0:(s.toList==[45,48,46,48,48])=false)(r ng:Bool)(hg:(ng=true/\decide (0<s.size)=true/\0<s.size/\(PlainAid.bt s 0==45)=true)\/(ng=false/\(decide (0<s.size)=false\/decide (0<s.size)=true/\0<s.size/\(PlainAid.bt s 0==45)=false)))
 (hst:Hid ((ng=true->0<s.size/\s.extract 1 s.size=t)/\(ng=false->t=s))) (mr:rJ t r):Calls Tryz.prog 111 #[.string s] w λe w'=>e=.returned (.bool r)/\w=w':=by
 have hub:=PlainAid.get_bt s
 go_enter Tryz.func111,Tryz.ntmps111
 go_upto_region 3 with fail
 go_cut [13] (λv wx=>v=.bool ng/\w=wx)
 case first=>
  rcases hg with⟨rfl,n0,n1,n2⟩|⟨rfl,n0|⟨n0,n1,n2⟩⟩
  all_goals
   go_wp2_with fail
   go_meet
   case rel=>exact⟨rfl,rfl⟩
 case rest=>
  obtain⟨rfl,rfl⟩:=hcut
  clear hg hub h0
  go_upto_if 13 with fail
  go_cut [0] (λv wx=>v=.string t/\w=wx)
  case first=>
   cases ng with
   |true=>
    obtain⟨n1,n2⟩:=hst.out.1 rfl
    have n3:(1:Int)<=(s.size:Int):=by omega
    clear hst
    go_wp2_with fail
    go_meet
    case rel=>exact⟨rfl,rfl⟩
   |false=>
    have n2:=hst.out.2 rfl
    subst n2
    clear hst
    go_wp2_with fail
    go_meet
    case rel=>exact⟨rfl,rfl⟩
  case rest=>
   obtain⟨rfl,rfl⟩:=hcut
   clear hst h1
   have hubt:=PlainAid.get_bt t
   have hd:=λ(c:Int)=>nG c w
   go_upto_region 6 with fail
   cases mr with
   |short h=>
    go_wp2_with fail
    go_ret
    exact⟨rfl,rfl⟩
   |point m h hm Ew b=>
    go_wp2_with fail
    go_ret
    exact⟨rfl,rfl⟩
   |last m h hm Ew hm1 NI b c=>
    have m1:=hd (PlainAid.bt t (m+2))
    rw[c]at m1
    clear c
    go_wp2_with (go_at_call 189;refine m1.mono ?_;rintro e w1 ⟨rfl,rfl⟩)
    go_ret
    exact⟨rfl,rfl⟩
   |one m h hm Ew hm1 NI hm2 hml2 b c d=>
    obtain⟨x2,hx2⟩:∃x,PlainAid.bt t (m+2)=x:=⟨_,rfl⟩
    obtain⟨x1,hx1⟩:∃x,PlainAid.bt t (m+1)=x:=⟨_,rfl⟩
    rw[hx2]at c
    rw[hx1]at d
    have m1:=hd x2
    have m2:=hd x1
    rw[c]at m1
    rw[d]at m2
    clear c d
    go_wp2_with (first|(go_at_call 189;refine m1.mono ?_;rintro e w1 ⟨rfl,rfl⟩)|(go_at_call 189;refine m2.mono ?_;rintro e w1 ⟨rfl,rfl⟩))
    go_ret
    exact⟨rfl,rfl⟩
   |all m r h hm Ew hm1 NI hm2 hml2 b c d e=>
    obtain⟨x2,hx2⟩:∃x,PlainAid.bt t (m+2)=x:=⟨_,rfl⟩
    obtain⟨x1,hx1⟩:∃x,PlainAid.bt t (m+1)=x:=⟨_,rfl⟩
    rw[hx2]at c
    rw[hx1]at d
    have m1:=hd x2
    have m2:=hd x1
    obtain⟨E,hE⟩:∃E,t.extract 0 m=E:=⟨_,rfl⟩
    have m3:=yg E w (by rw[<-hE,ByteArray.size_extract];omega)
    rw[show Lx.whole E.data.toList=r from by rw[<-hE];exact e.out]at m3
    rw[c]at m1
    rw[d]at m2
    clear c d e
    go_wp2_with (first|(go_at_call 189;refine m1.mono ?_;rintro e w1 ⟨rfl,rfl⟩)|(go_at_call 189;refine m2.mono ?_;rintro e w1 ⟨rfl,rfl⟩)|(go_at_call 110;refine m3.mono ?_;rintro e w1 ⟨rfl,rfl⟩))
    go_ret
    exact⟨rfl,rfl⟩
theorem GG (s:ByteArray):s.extract 1 s.size=⟨(s.data.toList.drop 1).toArray⟩:=by
 have hl:s.data.toList.length=s.size:=by obtain⟨⟨l⟩⟩:=s;rfl
 have h2:=Lib.extract_data s 1 s.size
 rw[List.take_of_length_le (by rw[List.length_drop];omega)]at h2
 generalize s.extract 1 s.size=x at h2⊢
 obtain⟨⟨l⟩⟩:=x
 have h2:l=_:=h2
 rw[h2]
theorem ED (s:ByteArray)(w:World)(h1:s.size<=1000):
 Calls Tryz.prog 111 #[.string s] w λe w'=>e=.returned (.bool (Lx.dh s.data.toList))/\w=w':=by
 by_cases h0:(s.toList==[45,48,46,48,48])=true
 ·have hr:Lx.dh s.data.toList=false:=by
   unfold Lx.dh
   rw[<-Lib.toList_data,h0]
   rfl
  rw[hr]
  exact Qk s w h0
 ·have h0:(s.toList==[45,48,46,48,48])=false:=by simpa using h0
  have hr:Lx.dh s.data.toList=Lx.xz (Lx.bi s.data.toList):=by
   unfold Lx.dh
   rw[<-Lib.toList_data,h0]
   rfl
  rw[hr]
  have hl:s.data.toList.length=s.size:=by obtain⟨⟨l⟩⟩:=s;rfl
  obtain⟨t,ht⟩:∃t:ByteArray,t=⟨(Lx.bi s.data.toList).toArray⟩:=⟨_,rfl⟩
  have htl:t.data.toList=Lx.bi s.data.toList:=by rw[ht]
  have hts:t.data.toList.length=t.size:=by obtain⟨⟨l⟩⟩:=t;rfl
  rw[<-htl]
  have htz:t.size<=s.size:=by
   rw[<-hts,htl,<-hl]
   unfold Lx.bi
   split
   ·rw[List.length_drop];omega
   ·exact Nat.le_refl _
  refine(λ⟨ng,hg,hst⟩ mr=>Pz s t w h1 (by omega) h0 _ ng hg (Lib.hid hst) mr:(∃ng:Bool,((ng=true/\decide (0<s.size)=true/\0<s.size/\(PlainAid.bt s 0==45)=true)\/(ng=false/\(decide (0<s.size)=false\/decide (0<s.size)=true/\0<s.size/\(PlainAid.bt s 0==45)=false)))/\((ng=true->0<s.size/\s.extract 1 s.size=t)/\(ng=false->t=s)))->_->_) ?_ ?_
  ·by_cases hp:0<s.size
   ·have hbt:PlainAid.bt s 0=Lx.at_ s.data.toList 0:=(tC s 0).symm
    have hh:∃c l,s.data.toList=c::l:=by
     cases hc:s.data.toList with
     |nil=>rw[hc]at hl;simp at hl;omega
     |cons c l=>exact⟨c,l,rfl⟩
    obtain⟨c,l,hc⟩:=hh
    by_cases h45:c=45
    ·refine⟨true,.inl ⟨rfl,by simp[hp],hp,?_⟩,λ_=>⟨hp,?_⟩,(λh=>nomatch h)⟩
     ·rw[hbt,hc,h45];rfl
     ·rw[GG,ht]
      unfold Lx.bi
      rw[hc,h45]
      rfl
    ·refine⟨false,.inr ⟨rfl,.inr ⟨by simp[hp],hp,?_⟩⟩,(λh=>nomatch h),λ_=>?_⟩
     rotate_left
     ·rw[ht]
      unfold Lx.bi
      rw[if_neg (by rw[hc];simp[h45])]
     ·rw[hbt,hc,beq_eq_false_iff_ne]
      unfold Lx.at_
      intro hx
      apply h45
      apply UInt8.toNat_inj.1
      show c.toNat=45
      have hx:(c.toNat:Int)=45:=hx
      omega
   ·refine⟨false,.inr ⟨rfl,.inl (decide_eq_false hp)⟩,(λh=>nomatch h),λ_=>?_⟩
    rw[ht]
    unfold Lx.bi
    have:s.data.toList=[]:=List.eq_nil_of_length_eq_zero (by omega)
    rw[this]
    obtain⟨⟨l⟩⟩:=s
    simp at this
    subst this
    rfl
  ·by_cases h4:4<=t.size
   ·obtain⟨m,hm⟩:∃m,t.size=m+3:=⟨t.size-3,by omega⟩
    have d4:decide (4<=(t.size:Int))=true:=by simp;omega
    have hrd:Lx.xz t.data.toList=(decide (PlainAid.bt t m=46)&&Lx.digit (PlainAid.bt t (m+2))&&Lx.digit (PlainAid.bt t (m+1))&&Lx.whole (t.extract 0 m).data.toList):=by
     unfold Lx.xz
     rw[hts,tC,tC,tC,hm,show m+3-3=m from by omega,show m+3-1=m+2 from by omega,show m+3-2=m+1 from by omega,Lib.extract_data]
     have:decide (4<=m+3)=true:=by simp;omega
     rw[this]
     rfl
    rw[hrd]
    have q3:(t.size:Int)-3=(m:Int):=by omega
    have q1:(t.size:Int)-1=((m+2:Nat):Int):=by omega
    have q2:(t.size:Int)-2=((m+1:Nat):Int):=by omega
    cases hb:decide (PlainAid.bt t m=46)with
    |false=>exact .point m d4 q3 (by omega) (by rw[beq_eq_false_iff_ne];simpa using hb)
    |true=>
     have hb':(PlainAid.bt t m==46)=true:=by simpa using hb
     cases hc:Lx.digit (PlainAid.bt t (m+2))with
     |false=>exact .last m d4 q3 (by omega) q1 (by omega) hb' hc
     |true=>
      cases hd:Lx.digit (PlainAid.bt t (m+1))with
      |false=>exact .one m d4 q3 (by omega) q1 (by omega) q2 (by omega) hb' hc hd
      |true=>exact .all m _ d4 q3 (by omega) q1 (by omega) q2 (by omega) hb' hc hd (Lib.hid rfl)
   ·have hrd:Lx.xz t.data.toList=false:=by
     unfold Lx.xz
     rw[hts]
     simp[h4]
    rw[hrd]
    exact .short (by simp;omega)
inductive mK:Bool->Bool->Bool->Bool->Bool->Bool->Int->Int->Prop where
 |date (g s m n o:Bool):mK true g s m n o 4 0
 |num (m n o:Bool):mK false true true m n o 2 0
 |decG (n o:Bool):mK false true false true n o 3 0
 |dec (s n o:Bool):mK false false s true n o 3 0
 |nameG (o:Bool):mK false true false false true o 1 0
 |name (s o:Bool):mK false false s false true o 1 0
 |wordG:mK false true false false false true 0 0
 |word (s:Bool):mK false false s false false true 0 0
 |noneG:mK false true false false false false 0 30
 |none (s:Bool):mK false false s false false false 0 30
theorem Lr (s:ByteArray)(w:World)(h1:s.size<=32)(bd bg bs bm bn bw:Bool)(k e:Int)(mr:mK bd bg bs bm bn bw k e)(h16:decide ((s.size:Int)<=16)=bs)
 (m1:Calls Tryz.prog 109 #[.string s] w λe w'=>e=.returned (.bool bd)/\w=w')
 (m2:Calls Tryz.prog 110 #[.string s] w λe w'=>e=.returned (.bool bg)/\w=w')
 (m3:Calls Tryz.prog 111 #[.string s] w λe w'=>e=.returned (.bool bm)/\w=w')
 (m4:Calls Tryz.prog 112 #[.string s] w λe w'=>e=.returned (.bool bn)/\w=w')
 (m5:Calls Tryz.prog 113 #[.string s] w λe w'=>e=.returned (.bool bw)/\w=w'):
 Calls Tryz.prog 59 #[.string s] w λx w'=>x=.returned (.tuple #[.int .i64 k,.int .i64 e])/\w=w':=by
 cases mr
 all_goals
  go_enter Tryz.func59,Tryz.ntmps59
  go_wp2_with ((first|(go_at_call 109;refine m1.mono ?_)|(go_at_call 110;refine m2.mono ?_)|(go_at_call 111;refine m3.mono ?_)|(go_at_call 112;refine m4.mono ?_)|(go_at_call 113;refine m5.mono ?_));rintro e w1 ⟨rfl,rfl⟩)
  go_ret2
  exact⟨rfl,rfl⟩
theorem Ca (s:ByteArray)(w:World)(_h1:s.size<=1000000)(h2:(32:Int)<(s.size:Int)):
 Calls Tryz.prog 59 #[.string s] w λx w'=>x=.returned (.tuple #[.int .i64 0,.int .i64 5])/\w=w':=by
 go_enter Tryz.func59,Tryz.ntmps59
 go_wp2_with fail
 go_ret2
 exact⟨rfl,rfl⟩
theorem Oq (s:ByteArray)(w:World)(h1:s.size<=1000000):
 Calls Tryz.prog 59 #[.string s] w λx w'=>x=.returned (.tuple #[.int .i64 (Lx.aC s).1,.int .i64 (Lx.aC s).2])/\w=w':=by
 rw[Lx.tV]
 have hl:s.data.toList.length=s.size:=by obtain⟨⟨l⟩⟩:=s;rfl
 by_cases h:32<s.size
 ·rw[show Lx.zZ s.data.toList=(0,5)from by unfold Lx.zZ;rw[if_pos (by rw[hl];exact h)]]
  exact Ca s w h1 (by omega)
 ·refine Lr s w (by omega) (Lx.gY s.data.toList) (Lx.whole s.data.toList) (decide ((s.size:Int)<=16)) (Lx.dh s.data.toList) (Lx.all Lx.named s.data.toList) (Lx.all Lx.lower s.data.toList) _ _ ?_ rfl (Po s w h1) (yg s w h1) (ED s w (by omega)) (Pk s w h1) (PH s w h1)
  have h16:decide (s.size<=16)=decide ((s.size:Int)<=16):=by
   by_cases hh:s.size<=16
   ·rw[decide_eq_true hh,decide_eq_true (by omega)]
   ·rw[decide_eq_false hh,decide_eq_false (by omega)]
  unfold Lx.zZ
  rw[if_neg (by rw[hl];exact h),hl,h16]
  generalize Lx.gY s.data.toList=bd
  generalize Lx.whole s.data.toList=bg
  generalize decide ((s.size:Int)<=16)=bs
  generalize Lx.dh s.data.toList=bm
  generalize Lx.all Lx.named s.data.toList=bn
  generalize Lx.all Lx.lower s.data.toList=bw
  cases bd with
  |true=>exact .date _ _ _ _ _
  |false=>
   cases bg with
   |true=>
    cases bs with
    |true=>exact .num _ _ _
    |false=>
     cases bm with
     |true=>exact .decG _ _
     |false=>
      cases bn with
      |true=>exact .nameG _
      |false=>
       cases bw with
       |true=>exact .wordG
       |false=>exact .noneG
   |false=>
    cases bm with
    |true=>exact .dec _ _ _
    |false=>
     cases bn with
     |true=>exact .name _ _
     |false=>
      cases bw with
      |true=>exact .word _
      |false=>exact .none _
end Go.Proofs.YtnjjeapcalkmaaaGreatDoor
