/-
  Part 5 of a proof; written short by a program out of longer texts of mine.
-/
import Derived.Test.YthijakidnkhbnaaGreatDoorMqD
set_option maxRecDepth 100000
set_option maxHeartbeats 4000000
set_option linter.unusedVariables false
set_option linter.unusedSimpArgs false
namespace Go.Proofs.YthijakidnkhbnaaGreatDoor
open Go.RowKit
theorem Oy (w:World)(y:Int):
 Calls Tryz.prog 195 #[.int .i64 y] w λe w'=>e=.returned (.bool (decide (y.tmod 4=0)&&!decide (y.tmod 100=0)||decide (y.tmod 400=0)))/\w=w':=by
 obtain⟨b,hb⟩:∃b,b=(decide (y.tmod 4=0)&&!decide (y.tmod 100=0)||decide (y.tmod 400=0)):=⟨_,rfl⟩
 rw[<-hb]
 have HB:=Lib.hid hb
 clear hb
 by_cases h4:y.tmod 4=0
 all_goals by_cases h100:y.tmod 100=0
 all_goals by_cases IE:y.tmod 400=0
 all_goals
  have HV:=HB.out
  simp only[h4,h100,IE,decide_true,decide_false,Bool.not_true,Bool.not_false,Bool.and_true,Bool.and_false,Bool.or_true,Bool.or_false]at HV
  subst HV
  clear HB
  go_enter Tryz.func195,Tryz.ntmps195
  go_wp2_with fail
  go_ret
  first
   |exact⟨rfl,rfl⟩
   |(refine⟨?_,rfl⟩
     show Ending.returned (.bool (y.tmod 400==0))=_
     rw[show(y.tmod 400==0)=false from by rw[beq_eq_false_iff_ne];exact IE])
def PR (p:Int):Int:=365*p+((p+3)/4-(p+99)/100+(p+399)/400)
theorem bf {x:Int}(h: -1000000000<=x/\x<=1000000000):IntKind.i64.wrap x=x:=IntWalk.i64_in _ (by omega)
theorem zA {x y:Int}(h:0<=x):x.tdiv y=x/y:=Int.tdiv_eq_ediv_of_nonneg h
theorem KF (w:World)(y p a b c:Int)(h0:¬y<2000)(h1:IntKind.i64.wrap (y-2000)=p)(ha:(p+3).tdiv 4=a)(hb:(p+99).tdiv 100=b)(hc:(p+399).tdiv 400=c)
 (w1:IntKind.i64.wrap (p+3)=p+3) (w2:IntKind.i64.wrap (p+99)=p+99) (w3:IntKind.i64.wrap (p+399)=p+399) (w4:IntKind.i64.wrap a=a) (w5:IntKind.i64.wrap b=b) (w6:IntKind.i64.wrap c=c) (w7:IntKind.i64.wrap (a-b)=a-b) (w8:IntKind.i64.wrap (a-b+c)=a-b+c)
 (w9:IntKind.i64.wrap (365*p)=365*p) (v:Int) (w10:IntKind.i64.wrap (365*p+(a-b+c))=v):
 Calls Tryz.prog 183 #[.int .i64 y] w λe w'=>e=.returned (.int .i64 v)/\w=w':=by
 go_enter Tryz.func183,Tryz.ntmps183
 go_wp2_with fail
 go_ret
 exact⟨rfl,rfl⟩
theorem yV (w:World)(y:Int)(h0:2000<=y)(h1:y<=3000):
 Calls Tryz.prog 183 #[.int .i64 y] w λe w'=>e=.returned (.int .i64 (PR (y-2000)))/\w=w':=by
 refine KF w y (y-2000) ((y-2000+3)/4) ((y-2000+99)/100) ((y-2000+399)/400) (by omega) (bf (by omega)) (zA (by omega)) (zA (by omega)) (zA (by omega)) (bf (by omega)) (bf (by omega)) (bf (by omega)) (bf (by omega)) (bf (by omega)) (bf (by omega)) (bf (by omega)) (bf (by omega)) (bf (by omega)) _ ?_
 unfold PR
 exact bf (by omega)
theorem Ii (w:World)(y m:Int)(h:y<2000\/2199<y\/m<1\/12<m):
 Calls Tryz.prog 182 #[.int .i64 y,.int .i64 m] w λe w'=>e=.returned (.int .i64 0)/\Below w.heap.size w w':=by
 by_cases h1:y<2000
 all_goals by_cases h2:2199<y
 all_goals by_cases h3:m<1
 all_goals by_cases h4:12<m
 all_goals try (exfalso;omega)
 all_goals
  clear h
  go_enter Tryz.func182,Tryz.ntmps182
  go_wp2_with fail
  go_ret
  exact⟨rfl,Below.refl _ _⟩
theorem mG {y:Int}(h:0<=y)(n:Int):y.tmod n=y%n:=Int.tmod_eq_emod_of_nonneg h
theorem Ol (w:World)(y m:Int)(k:Nat)(n:Int)(h1:¬y<2000)(h2:¬2199<y)(h3:¬m<1)(h4:¬12<m)(h5:¬m=2)(hm:IntKind.i64.wrap (m-1)=(k:Int))(_hk:k<12)(NZ:(k:Int)<12)
 (hn:∀w:World,(w.alloc (.cells #[.int .i64 31,.int .i64 28,.int .i64 31,.int .i64 30,.int .i64 31,.int .i64 30,.int .i64 31,.int .i64 31,.int .i64 30,.int .i64 31,.int .i64 30,.int .i64 31] 216)).cell? ⟨w.heap.size,k,none⟩=some (.int .i64 n)):
 Calls Tryz.prog 182 #[.int .i64 y,.int .i64 m] w λe w'=>e=.returned (.int .i64 n)/\Below w.heap.size w w':=by
 go_enter Tryz.func182,Tryz.ntmps182
 go_wp2_with fail
 go_ret
 exact⟨rfl,(Below.refl _ _).alloc (Nat.le_refl _) _⟩
theorem GY (w:World)(y:Int)(b:Bool)(h1:¬y<2000)(h2:¬2199<y)(n1:∀w,Calls Tryz.prog 195 #[.int .i64 y] w λe w'=>e=.returned (.bool b)/\w=w'):
 Calls Tryz.prog 182 #[.int .i64 y,.int .i64 2] w λe w'=>e=.returned (.int .i64 (if b=true then 29 else 28))/\Below w.heap.size w w':=by
 cases b
 all_goals
  go_enter Tryz.func182,Tryz.ntmps182
  go_wp2_with (go_at_call 195;refine(n1 _).mono ?_;rintro e w1 ⟨rfl,rfl⟩)
  go_ret
  exact⟨rfl,(Below.refl _ _).alloc (Nat.le_refl _) _⟩
theorem L9 (w:World)(y:Int)(h:0<=y):Calls Tryz.prog 195 #[.int .i64 y] w λe w'=>e=.returned (.bool (Ps.zR y))/\w=w':=by
 have:=Oy w y
 rw[mG h 4,mG h 100,mG h 400]at this
 exact this
theorem Dr (w:World)(y m:Int):Calls Tryz.prog 182 #[.int .i64 y,.int .i64 m] w λe w'=>e=.returned (.int .i64 (Ps.dim y m))/\Below w.heap.size w w':=by
 by_cases h:y<2000\/2199<y\/m<1\/12<m
 ·unfold Ps.dim
  rw[if_pos h]
  exact Ii w y m h
 ·unfold Ps.dim
  rw[if_neg h]
  by_cases h5:m=2
  ·subst h5
   rw[if_pos rfl]
   exact GY w y _ (by omega) (by omega) (λw=>L9 w y (by omega))
  ·rw[if_neg h5]
   obtain⟨k,hk⟩:∃k:Nat,m=(k:Int)+1:=⟨(m-1).toNat,by omega⟩
   have hkl:k<12:=by omega
   refine Ol w y m k _ (by omega) (by omega) (by omega) (by omega) h5 (by rw[hk,show(k:Int)+1-1=k from by omega];exact bf (x:=(k:Int)) (by omega)) hkl (by omega) (λw=>?_)
   rw[cell_of_row _ _ _ _ _ _ (aD w _)]
   subst hk
   have hk1:k≠1:=λe=>h5 (by rw[e];rfl)
   have hc:k=0\/k=2\/k=3\/k=4\/k=5\/k=6\/k=7\/k=8\/k=9\/k=10\/k=11:=by omega
   rcases hc with rfl|rfl|rfl|rfl|rfl|rfl|rfl|rfl|rfl|rfl|rfl
   all_goals rfl
theorem GD (w:World)(y m d:Int)(hd:d<1):
 Calls Tryz.prog 166 #[.agg #[.int .i64 y,.int .i64 m,.int .i64 d]] w λe w'=>e=.returned (.tuple #[.int .i64 0,.int .i64 28])/\Below w.heap.size w w':=by
 go_enter Tryz.func166,Tryz.ntmps166
 go_wp2_with fail
 obtain⟨W1,hW1⟩:∃W1,W1=w.alloc (Obj.cells #[.int .i64 y,.int .i64 m,.int .i64 d] 190):=⟨_,rfl⟩
 obtain⟨g,hg⟩:∃g,g=w.heap.size:=⟨_,rfl⟩
 have hrow:W1.heap[g]? =some (.cells #[.int .i64 y,.int .i64 m,.int .i64 d] 190 (0,0)):=by rw[hW1,hg];exact aD w _
 have c2:W1.cell? ⟨g,2,none⟩=some (.int .i64 d):=by rw[cell_of_row _ _ _ _ _ _ hrow];rfl
 have hB:Hid (Below w.heap.size w W1):=Lib.hid (by rw[hW1];exact(Below.refl _ _).alloc (Nat.le_refl _) _)
 rw[<-hW1,<-hg]
 clear hW1 hg hrow
 go_quiet (fail)
 go_wp2_with fail
 go_ret2
 exact⟨rfl,below_drewN' hB.out _⟩
theorem tF {W w w3:World}{g:Nat}{x0 x1 x2:Value}(h:Below W.heap.size W w/\w.cell? ⟨g,0,none⟩=some x0/\w.cell? ⟨g,1,none⟩=some x1/\w.cell? ⟨g,2,none⟩=some x2)(hb:Below w.heap.size w w3):
 Below W.heap.size W w3/\w3.cell? ⟨g,0,none⟩=some x0/\w3.cell? ⟨g,1,none⟩=some x1/\w3.cell? ⟨g,2,none⟩=some x2:=by
 obtain⟨h1,a0,a1,a2⟩:=h
 exact⟨h1.trans (hb.mono h1.size),(hb.cell (World.block_lt_of_cell? w _ a0)).trans a0,(hb.cell (World.block_lt_of_cell? w _ a1)).trans a1,(hb.cell (World.block_lt_of_cell? w _ a2)).trans a2⟩
theorem ET (w:World)(y m d n:Int)(hd:¬d<1)(hn:n<d)(n1:Hid (∀w,Calls Tryz.prog 182 #[.int .i64 y,.int .i64 m] w λe w'=>e=.returned (.int .i64 n)/\Below w.heap.size w w')):
 Calls Tryz.prog 166 #[.agg #[.int .i64 y,.int .i64 m,.int .i64 d]] w λe w'=>e=.returned (.tuple #[.int .i64 0,.int .i64 28])/\Below w.heap.size w w':=by
 go_enter Tryz.func166,Tryz.ntmps166
 go_wp2_with fail
 obtain⟨W1,hW1⟩:∃W1,W1=w.alloc (Obj.cells #[.int .i64 y,.int .i64 m,.int .i64 d] 190):=⟨_,rfl⟩
 obtain⟨g,hg⟩:∃g,g=w.heap.size:=⟨_,rfl⟩
 have hrow:W1.heap[g]? =some (.cells #[.int .i64 y,.int .i64 m,.int .i64 d] 190 (0,0)):=by rw[hW1,hg];exact aD w _
 have c0:W1.cell? ⟨g,0,none⟩=some (.int .i64 y):=by rw[cell_of_row _ _ _ _ _ _ hrow];rfl
 have c1:W1.cell? ⟨g,1,none⟩=some (.int .i64 m):=by rw[cell_of_row _ _ _ _ _ _ hrow];rfl
 have c2:W1.cell? ⟨g,2,none⟩=some (.int .i64 d):=by rw[cell_of_row _ _ _ _ _ _ hrow];rfl
 have hB:Hid (Below w.heap.size w W1):=Lib.hid (by rw[hW1];exact(Below.refl _ _).alloc (Nat.le_refl _) _)
 rw[<-hW1,<-hg]
 clear hW1 hg hrow
 have hb0:=Below.refl W1.heap.size W1
 have hdd:decide (d<1)=false:=decide_eq_false (by omega)
 have hS0:=And.intro hb0 (And.intro c0 (And.intro c1 c2))
 go_region_held3 (λw'=>Below W1.heap.size W1 w'/\w'.cell? ⟨g,0,none⟩=some (.int .i64 y)/\w'.cell? ⟨g,1,none⟩=some (.int .i64 m)/\w'.cell? ⟨g,2,none⟩=some (.int .i64 d))
  (first|assumption|exact Below.drew (by assumption)|(refine⟨?_,?_,?_,?_⟩<;>first|assumption|exact Below.drew (by assumption)|go_keep)|go_keep)
  (first|(go_at_call 182;with_reducible refine(n1.out _).mono ?_;rintro e w3 ⟨rfl,hb3⟩;have JS:=tF (by assumption) hb3))
 have HZ:=Lib.hid (hB.out.trans (JS.1.mono hB.out.size))
 clear JS hb3 hS0 hb0 c0 c1 c2
 go_wp2_with fail
 go_ret2
 exact⟨rfl,HZ.out⟩
theorem Jn (w:World)(y d n s t:Int)(M:Nat)(hM12:M<12)(hd:¬d<1)(hn:¬n<d)(n1:Hid (∀w,Calls Tryz.prog 182 #[.int .i64 y,.int .i64 ((M:Int)+1)] w λe w'=>e=.returned (.int .i64 n)/\Below w.heap.size w w'))
 (n2:Hid (∀w,Calls Tryz.prog 183 #[.int .i64 y] w λe w'=>e=.returned (.int .i64 s)/\w'=w)) (hs1:IntKind.i64.wrap (s+d)=s+d) (hs2:IntKind.i64.wrap (s+d-1)=t)
 (ht:t=s+d-1) (hb1:0<=t/\t<=1000000)
 (n3:Hid (∀(k:Nat) w,Calls Tryz.prog 182 #[.int .i64 y,.int .i64 ((k:Int)+1)] w λe w'=>e=.returned (.int .i64 (Ps.dim y ((k:Int)+1)))/\Below w.heap.size w w')):
 Calls Tryz.prog 166 #[.agg #[.int .i64 y,.int .i64 ((M:Int)+1),.int .i64 d]] w λe w'=>e=.returned (.tuple #[.int .i64 (t+Ps.gm y M),.int .i64 0])/\Below w.heap.size w w':=by
 go_enter Tryz.func166,Tryz.ntmps166
 go_wp2_with fail
 obtain⟨W1,hW1⟩:∃W1,W1=w.alloc (Obj.cells #[.int .i64 y,.int .i64 ((M:Int)+1),.int .i64 d] 190):=⟨_,rfl⟩
 obtain⟨g,hg⟩:∃g,g=w.heap.size:=⟨_,rfl⟩
 have hrow:W1.heap[g]? =some (.cells #[.int .i64 y,.int .i64 ((M:Int)+1),.int .i64 d] 190 (0,0)):=by rw[hW1,hg];exact aD w _
 have c0:W1.cell? ⟨g,0,none⟩=some (.int .i64 y):=by rw[cell_of_row _ _ _ _ _ _ hrow];rfl
 have c1:W1.cell? ⟨g,1,none⟩=some (.int .i64 ((M:Int)+1)):=by rw[cell_of_row _ _ _ _ _ _ hrow];rfl
 have c2:W1.cell? ⟨g,2,none⟩=some (.int .i64 d):=by rw[cell_of_row _ _ _ _ _ _ hrow];rfl
 have hB:Hid (Below w.heap.size w W1):=Lib.hid (by rw[hW1];exact(Below.refl _ _).alloc (Nat.le_refl _) _)
 rw[<-hW1,<-hg]
 have HT:=Lib.hid ht
 clear hW1 hg hrow ht
 have hb0:=Below.refl W1.heap.size W1
 have hdd:decide (d<1)=false:=decide_eq_false (by omega)
 have hS0:=And.intro hb0 (And.intro c0 (And.intro c1 c2))
 go_region_held3 (λw'=>Below W1.heap.size W1 w'/\w'.cell? ⟨g,0,none⟩=some (.int .i64 y)/\w'.cell? ⟨g,1,none⟩=some (.int .i64 ((M:Int)+1))/\w'.cell? ⟨g,2,none⟩=some (.int .i64 d))
  (first|assumption|exact Below.drew (by assumption)|(refine⟨?_,?_,?_,?_⟩<;>first|assumption|exact Below.drew (by assumption)|go_keep)|go_keep)
  (first|(go_at_call 182;with_reducible refine(n1.out _).mono ?_;rintro e w3 ⟨rfl,hb3⟩;have JS:=tF (by assumption) hb3))
 clear hS0 hb0 c0 c1 c2 hb3 n1
 have HS:=Lib.hid JS
 obtain⟨hb4,e0,e1,e2⟩:=JS
 clear hb4
 go_wp2_with fail
 go_quiet ((go_at_call 183;with_reducible exact Calls.quiet_of_same (n2.out _)))
 go_wp2_with fail
 have HS1:=Lib.hid (λn=>tF HS.out (below_drewN' (Below.refl w3.heap.size w3) n))
 go_loopw [4,5] (λnv mv wr=>∃k:Nat,nv=.int .i64 (t+Ps.gm y k)/\mv=.int .i64 ((k:Int)+1)/\k<=M/\Hid (Below W1.heap.size W1 wr/\wr.cell? ⟨g,0,none⟩=some (.int .i64 y)/\wr.cell? ⟨g,1,none⟩=some (.int .i64 ((M:Int)+1))/\wr.cell? ⟨g,2,none⟩=some (.int .i64 d))) (λ_ mv _=>20-(RowKit.intOf mv).toNat)
 case atStart=>
  refine⟨0,?_,rfl,Nat.zero_le _,Lib.hid (HS1.out _)⟩
  simp[Ps.gm]
 case round=>
  obtain⟨k,rfl,rfl,hk,HK⟩:=hrel
  obtain⟨hb5,a0,a1,a2⟩:=HK.out
  clear hb5
  have hms:=Ps.yG y k
  by_cases hlt:k<M
  ·have NZ:(k:Int)<(M:Int):=by omega
   have hkI2:(k:Int)+1<(M:Int)+1:=by omega
   have m3:=n3.out k wr
   have hdm:=Ps.xw y ((k:Int)+1)
   have hw6:IntKind.i64.wrap (t+Ps.gm y k+Ps.dim y ((k:Int)+1))=t+Ps.gm y k+Ps.dim y ((k:Int)+1):=bf (by omega)
   have hw7:IntKind.i64.wrap ((k:Int)+1+1)=(k:Int)+1+1:=bf (by omega)
   have HN:Hid (t+Ps.gm y k+Ps.dim y ((k:Int)+1)=t+Ps.gm y (k+1)):=Lib.hid (by rw[Ps.gm];omega)
   clear hms hdm n3
   go_wp2_with fail
   refine m3.mono ?_
   rintro e w5 ⟨rfl,hb5⟩
   have HK2:=Lib.hid (tF HK.out hb5)
   clear m3 hb5 a0 a1 a2
   go_wp2_with fail
   refine⟨⟨k+1,by rw[HN.out],by push_cast;rfl,by omega,HK2⟩,?_⟩
   simp[RowKit.intOf]<;>omega
  ·have hkI2:¬(k:Int)+1<(M:Int)+1:=by omega
   obtain rfl:k=M:=by omega
   clear hms n3
   go_wp2_with fail
   go_ret2
   exact⟨rfl,hB.out.trans (HK.out.1.mono hB.out.size)⟩
theorem zQ (w:World)(y m d:Int)(hd:d<=1000000000):
 Calls Tryz.prog 166 #[.agg #[.int .i64 y,.int .i64 m,.int .i64 d]] w λe w'=>e=.returned (.tuple #[.int .i64 (Ps.l8 y m d).1,.int .i64 (Ps.l8 y m d).2])/\Below w.heap.size w w':=by
 unfold Ps.l8
 by_cases h1:d<1
 ·rw[if_pos (.inl h1)]
  exact GD w y m d h1
 ·by_cases h2:Ps.dim y m<d
  ·rw[if_pos (.inr h2)]
   exact ET w y m d _ h1 h2 (Lib.hid λw=>Dr w y m)
  ·rw[if_neg (by omega)]
   obtain⟨hy1,hy2,hm1,hm2⟩:=Ps.zW (y:=y) (m:=m) (by omega)
   obtain⟨M,rfl⟩:∃M:Nat,m=(M:Int)+1:=⟨(m-1).toNat,by omega⟩
   have hs:=Ps.tX (p:=y-2000) (by omega) (by omega)
   have hdl:=Ps.xw y ((M:Int)+1)
   have:=Jn w y d (Ps.dim y ((M:Int)+1)) (Ps.l9 (y-2000)) (Ps.l9 (y-2000)+d-1) M (by omega) h1 h2 (Lib.hid λw=>Dr w y _) (Lib.hid λw=>(yV w y hy1 (by omega)).mono λe w' ⟨a,b⟩=>⟨a,b.symm⟩)
    (bf (by omega)) (bf (by omega)) rfl (by omega) (Lib.hid λk w=>Dr w y _)
   rw[show((M:Int)+1-1).toNat=M from by omega]
   exact this
theorem KU {x:Int}{n:Nat}(h:x=(n:Int)/\n<=1000000000):IntKind.i64.wrap x=(n:Int):=by rw[h.1];exact bf (by omega)
theorem LX {x:Int}(h:0<=x/\x<=255):IntKind.u8.wrap x=x:=IntWalk.u8_in _ (by omega)
def wK (f c:Int):Prop:=(f=48/\48<=c/\c<=57)\/(f≠48/\c=f)
theorem xh (w:World)(s f:ByteArray)(hs:¬(s.size:Int)=(f.size:Int))(_h1:s.size<=1000000)(_h2:f.size<=1000):
 Calls Tryz.prog 165 #[.string s,.string f] w λe w'=>e=.returned (.tuple #[.nilFunc,.bool false])/\Below w.heap.size w w':=by
 go_enter Tryz.func165,Tryz.ntmps165
 go_wp2_with fail
 go_ret2
 exact⟨rfl,(Below.refl _ _).alloc (Nat.le_refl _) _⟩
theorem zV (w:World)(s f:ByteArray)(hs:(s.size:Int)=(f.size:Int))(h1:s.size<=1000000)(h2:f.size<=1000)(j:Nat)(hj:j<f.size)(hall:Hid (∀i,i<j->wK (PlainAid.bt f i) (PlainAid.bt s i)))(hbad:Hid (¬wK (PlainAid.bt f j) (PlainAid.bt s j))):
 Calls Tryz.prog 165 #[.string s,.string f] w λe w'=>e=.returned (.tuple #[.nilFunc,.bool false])/\Below w.heap.size w w':=by
 have hub:=PlainAid.get_bt s
 have hfb:=PlainAid.get_bt f
 go_enter Tryz.func165,Tryz.ntmps165
 go_wp2_with fail
 obtain⟨W1,hW1⟩:∃W1,W1=w.alloc (Obj.cells #[.string s] 9):=⟨_,rfl⟩
 obtain⟨g,hg⟩:∃g,g=w.heap.size:=⟨_,rfl⟩
 have hrow:W1.heap[g]? =some (.cells #[.string s] 9 (0,0)):=by rw[hW1,hg];exact aD w _
 have c0:W1.cell? ⟨g,0,none⟩=some (.string s):=by rw[cell_of_row _ _ _ _ _ _ hrow];rfl
 have hB:Hid (Below w.heap.size w W1):=Lib.hid (by rw[hW1];exact(Below.refl _ _).alloc (Nat.le_refl _) _)
 rw[<-hW1,<-hg]
 clear hW1 hg hrow
 go_loopw [6,14] (λ_ iv wr=>∃i:Nat,iv=.int .i64 i/\i<=j/\∃n,wr=W1.drewN n) (λ_ iv _=>2000-(RowKit.intOf iv).toNat)
 case atStart=>exact⟨0,rfl,Nat.zero_le _,0,rfl⟩
 case round=>
  obtain⟨i,rfl,hi,n,rfl⟩:=hrel
  have c1:(W1.drewN n).cell? ⟨g,0,none⟩=some (.string s):=c0
  have hif:i<f.size:=by omega
  have BO:(i:Int)<(s.size:Int):=by omega
  have hifI:(i:Int)<(f.size:Int):=by omega
  have his:i<s.size:=by omega
  by_cases hij:i<j
  ·have hf:=hall.out i hij
   have hw1:wrap64 ((i:Int)+1)=((i+1:Nat):Int):=by unfold wrap64;omega
   rcases hf with⟨x0,x1,x2⟩|⟨x0,x1⟩
   ·have y0:(PlainAid.bt f i==48)=true:=by rw[x0];rfl
    have y1:decide (PlainAid.bt s i<48)=false:=decide_eq_false (by omega)
    have y2:decide (57<PlainAid.bt s i)=false:=decide_eq_false (by omega)
    clear x1 x2 hall hbad hj hs hi
    go_wp2_with fail
    go_big_quiet (fail)
    go_wp2_with fail
    refine⟨⟨i+1,by first|rfl|go_num,by omega,?_⟩,by simp[RowKit.intOf]<;>omega⟩
    first|exact⟨_,rfl⟩|exact⟨_,World.drewN_drewN _ _ _⟩
   ·have y0:(PlainAid.bt f i==48)=false:=by rw[beq_eq_false_iff_ne];exact x0
    have y1:(PlainAid.bt s i==PlainAid.bt f i)=true:=by rw[x1];exact beq_self_eq_true _
    have y2:(PlainAid.bt f i !=48)=true:=by rw[bne,y0];rfl
    have y3:(PlainAid.bt s i !=PlainAid.bt f i)=false:=by rw[bne,y1];rfl
    clear hall hbad hj hs hi
    go_wp2_with fail
    go_big_quiet (fail)
    go_wp2_with fail
    refine⟨⟨i+1,by first|rfl|go_num,by omega,?_⟩,by simp[RowKit.intOf]<;>omega⟩
    first|exact⟨_,rfl⟩|exact⟨_,World.drewN_drewN _ _ _⟩
  ·obtain rfl:i=j:=by omega
   have hb:=hbad.out
   have hcs:(PlainAid.bt f i=48/\PlainAid.bt s i<48)\/(PlainAid.bt f i=48/\¬PlainAid.bt s i<48/\57<PlainAid.bt s i)\/(PlainAid.bt f i≠48/\PlainAid.bt s i≠PlainAid.bt f i):=by
    unfold wK at hb
    by_cases h48:PlainAid.bt f i=48
    ·by_cases hlo:PlainAid.bt s i<48
     ·exact .inl ⟨h48,hlo⟩
     ·exact .inr (.inl ⟨h48,hlo,by
       rcases Int.lt_or_le 57 (PlainAid.bt s i)with h|h
       ·exact h
       ·exact absurd (.inl ⟨h48,by omega,by omega⟩) hb⟩)
    ·exact .inr (.inr ⟨h48,λh=>hb (.inr ⟨h48,h⟩)⟩)
   clear hb
   rcases hcs with⟨x0,x1⟩|⟨x0,x1,x2⟩|⟨x0,x1⟩
   ·have y0:(PlainAid.bt f i==48)=true:=by rw[x0];rfl
    have y1:decide (PlainAid.bt s i<48)=true:=decide_eq_true x1
    clear hall hbad hj hs hi
    go_wp2_with fail
    go_big_quiet (fail)
    go_wp2_with fail
    go_ret2
    exact⟨rfl,by first|exact below_drewN' hB.out _|exact below_drewN' (below_drewN' hB.out _) _⟩
   ·have y0:(PlainAid.bt f i==48)=true:=by rw[x0];rfl
    have y1:decide (PlainAid.bt s i<48)=false:=decide_eq_false x1
    have y2:decide (57<PlainAid.bt s i)=true:=decide_eq_true x2
    clear hall hbad hj hs hi
    go_wp2_with fail
    go_big_quiet (fail)
    go_wp2_with fail
    go_ret2
    exact⟨rfl,by first|exact below_drewN' hB.out _|exact below_drewN' (below_drewN' hB.out _) _⟩
   ·have y0:(PlainAid.bt f i==48)=false:=by rw[beq_eq_false_iff_ne];exact x0
    have y1:(PlainAid.bt s i==PlainAid.bt f i)=false:=by rw[beq_eq_false_iff_ne];exact x1
    have y2:(PlainAid.bt f i !=48)=true:=by rw[bne,y0];rfl
    have y3:(PlainAid.bt s i !=PlainAid.bt f i)=true:=by rw[bne,y1];rfl
    clear hall hbad hj hs hi
    go_wp2_with fail
    go_big_quiet (fail)
    go_wp2_with fail
    go_ret2
    exact⟨rfl,by first|exact below_drewN' hB.out _|exact below_drewN' (below_drewN' hB.out _) _⟩
theorem Ak (w:World)(s f:ByteArray)(hs:(s.size:Int)=(f.size:Int))(h1:s.size<=1000000)(h2:f.size<=1000)(hall:Hid (∀i,i<f.size->wK (PlainAid.bt f i) (PlainAid.bt s i))):
 Calls Tryz.prog 165 #[.string s,.string f] w λe w'=>e=.returned (.tuple #[.func (.func 181) #[] #[.pointer (some ⟨w.heap.size,0,none⟩)],.bool true])/\Below w.heap.size w w'/\w'.cell? ⟨w.heap.size,0,none⟩=some (.string s):=by
 have hub:=PlainAid.get_bt s
 have hfb:=PlainAid.get_bt f
 go_enter Tryz.func165,Tryz.ntmps165
 go_wp2_with fail
 obtain⟨W1,hW1⟩:∃W1,W1=w.alloc (Obj.cells #[.string s] 9):=⟨_,rfl⟩
 obtain⟨g,hg⟩:∃g,g=w.heap.size:=⟨_,rfl⟩
 have hrow:W1.heap[g]? =some (.cells #[.string s] 9 (0,0)):=by rw[hW1,hg];exact aD w _
 have c0:W1.cell? ⟨g,0,none⟩=some (.string s):=by rw[cell_of_row _ _ _ _ _ _ hrow];rfl
 have hB:Hid (Below w.heap.size w W1):=Lib.hid (by rw[hW1];exact(Below.refl _ _).alloc (Nat.le_refl _) _)
 have HG:=Lib.hid hg
 rw[<-hW1,<-hg]
 clear hW1 hg hrow
 go_loopw [6,14] (λ_ iv wr=>∃i:Nat,iv=.int .i64 i/\i<=f.size/\∃n,wr=W1.drewN n) (λ_ iv _=>2000-(RowKit.intOf iv).toNat)
 case atStart=>exact⟨0,rfl,Nat.zero_le _,0,rfl⟩
 case round=>
  obtain⟨i,rfl,hi,n,rfl⟩:=hrel
  have c1:(W1.drewN n).cell? ⟨g,0,none⟩=some (.string s):=c0
  by_cases hif:i<f.size
  ·have BO:(i:Int)<(s.size:Int):=by omega
   have hifI:(i:Int)<(f.size:Int):=by omega
   have his:i<s.size:=by omega
   have hf:=hall.out i hif
   have hw1:wrap64 ((i:Int)+1)=((i+1:Nat):Int):=by unfold wrap64;omega
   rcases hf with⟨x0,x1,x2⟩|⟨x0,x1⟩
   ·have y0:(PlainAid.bt f i==48)=true:=by rw[x0];rfl
    have y1:decide (PlainAid.bt s i<48)=false:=decide_eq_false (by omega)
    have y2:decide (57<PlainAid.bt s i)=false:=decide_eq_false (by omega)
    clear x1 x2 hall hs hi
    go_wp2_with fail
    go_big_quiet (fail)
    go_wp2_with fail
    refine⟨⟨i+1,by first|rfl|go_num,by omega,?_⟩,by simp[RowKit.intOf]<;>omega⟩
    first|exact⟨_,rfl⟩|exact⟨_,World.drewN_drewN _ _ _⟩
   ·have y0:(PlainAid.bt f i==48)=false:=by rw[beq_eq_false_iff_ne];exact x0
    have y1:(PlainAid.bt s i==PlainAid.bt f i)=true:=by rw[x1];exact beq_self_eq_true _
    have y2:(PlainAid.bt f i !=48)=true:=by rw[bne,y0];rfl
    have y3:(PlainAid.bt s i !=PlainAid.bt f i)=false:=by rw[bne,y1];rfl
    clear hall hs hi
    go_wp2_with fail
    go_big_quiet (fail)
    go_wp2_with fail
    refine⟨⟨i+1,by first|rfl|go_num,by omega,?_⟩,by simp[RowKit.intOf]<;>omega⟩
    first|exact⟨_,rfl⟩|exact⟨_,World.drewN_drewN _ _ _⟩
  ·obtain rfl:i=f.size:=by omega
   have hifI:¬((f.size:Nat):Int)<(f.size:Int):=by omega
   have C1:=Lib.hid c1
   clear hall hs hi c1
   go_wp2_with fail
   go_ret2
   rw[<-HG.out]
   have hB2:=hB.out
   rw[<-HG.out]at hB2
   exact⟨rfl,below_drewN' hB2 _,C1.out⟩
theorem JL (w:World)(s:ByteArray)(g a k:Nat)(hs:a+k<=s.size)(h1:s.size<=1000000)(hk:k<=6)(hc:w.cell? ⟨g,0,none⟩=some (.string s))(hd:Hid (∀i,i<k->48<=PlainAid.bt s (a+i)/\PlainAid.bt s (a+i)<=57))
 (V:Nat->Int) (h0:V 0=0) (hV:Hid (∀i,i<k->V (i+1)=10*V i+(PlainAid.bt s (a+i)-48))) (hb:Hid (∀i,i<=k->0<=V i/\V i<=1000000)):
 Calls Tryz.prog 181 #[.int .i64 a,.int .i64 k,.pointer (some ⟨g,0,none⟩)] w λe w'=>e=.returned (.int .i64 (V k))/\w=w':=by
 have hub:=PlainAid.get_bt s
 have H0:=Lib.hid h0
 clear h0
 go_enter Tryz.func181,Tryz.ntmps181
 go_wp2_with fail
 go_loopw [6,7,9] (λnv _ iv wr=>∃i:Nat,nv=.int .i64 (V i)/\iv=.int .i64 i/\i<=k/\wr=w) (λ_ _ iv _=>100-(RowKit.intOf iv).toNat)
 case atStart=>exact⟨0,by rw[H0.out],rfl,Nat.zero_le _,rfl⟩
 case round=>
  obtain⟨i,rfl,rfl,hi,rfl⟩:=hrel
  by_cases hik:i<k
  ·have hikI:(i:Int)<(k:Int):=by omega
   obtain⟨d0,d1⟩:=hd.out i hik
   obtain⟨b0,b1⟩:=hb.out i hi
   have hv:=hV.out i hik
   obtain⟨x,hx⟩:∃x,x=V i:=⟨_,rfl⟩
   have hai:wrap64 ((a:Int)+(i:Int))=((a+i:Nat):Int):=by unfold wrap64;omega
   have hai2:IntKind.i64.wrap ((a:Int)+(i:Int))=((a+i:Nat):Int):=KU (by omega)
   have hlt:a+i<s.size:=by omega
   have jc:((a+i:Nat):Int)<(s.size:Int):=by omega
   have hw1:IntKind.i64.wrap (10*x)=10*x:=bf (by omega)
   have hw2:IntKind.u8.wrap (PlainAid.bt s (a+i)-48)=PlainAid.bt s (a+i)-48:=LX (by omega)
   have hw4:IntKind.i64.wrap (PlainAid.bt s (a+i)-48)=PlainAid.bt s (a+i)-48:=bf (by omega)
   have hw3:IntKind.i64.wrap (10*x+(PlainAid.bt s (a+i)-48))=10*x+(PlainAid.bt s (a+i)-48):=bf (by omega)
   have HV:Hid (V (i+1)=10*x+(PlainAid.bt s (a+i)-48)):=Lib.hid (by rw[hv,hx])
   rw[<-hx]
   clear hd hb hV d0 d1 b0 b1 hv hx
   go_wp2_with fail
   refine⟨⟨i+1,by rw[HV.out],by first|rfl|go_num,by omega,by trivial⟩,by simp[RowKit.intOf]<;>omega⟩
  ·obtain rfl:i=k:=by omega
   have hikI:¬(i:Int)<(i:Int):=by omega
   clear hd hb hV
   go_wp2_with fail
   go_ret
   exact⟨rfl,rfl⟩
theorem CE (w:World)(s:ByteArray)(n1:Calls Tryz.prog 165 #[.string s,.string ⟨#[48,48,48,48,45,48,48,45,48,48]⟩] w λe w'=>e=.returned (.tuple #[.nilFunc,.bool false])/\Below w.heap.size w w'):
 Calls Tryz.prog 135 #[.string s] w λe w'=>e=.returned (.tuple #[.int .i64 0,.int .i64 3])/\Below w.heap.size w w':=by
 go_enter Tryz.func135,Tryz.ntmps135
 go_wp2_with fail
 refine n1.mono ?_
 rintro e w1 ⟨rfl,hb⟩
 have HB:=Lib.hid hb
 clear n1 hb
 go_wp2_with fail
 go_ret2
 exact⟨rfl,HB.out⟩
theorem Df (w:World)(s:ByteArray)(g:Nat)(y m d a b:Int)
 (eg:∀args w,(callFunc 181 args).run Tryz.prog w=.ok (.enter 181 args) w)
 (n1:Calls Tryz.prog 165 #[.string s,.string ⟨#[48,48,48,48,45,48,48,45,48,48]⟩] w λe w'=>e=.returned (.tuple #[.func (.func 181) #[] #[.pointer (some ⟨g,0,none⟩)],.bool true])/\Below w.heap.size w w'/\w'.cell? ⟨g,0,none⟩=some (.string s))
 (n2:Hid (∀w,w.cell? ⟨g,0,none⟩=some (.string s)->Calls Tryz.prog 181 #[.int .i64 0,.int .i64 4,.pointer (some ⟨g,0,none⟩)] w λe w'=>e=.returned (.int .i64 y)/\w=w'))
 (n3:Hid (∀w,w.cell? ⟨g,0,none⟩=some (.string s)->Calls Tryz.prog 181 #[.int .i64 5,.int .i64 2,.pointer (some ⟨g,0,none⟩)] w λe w'=>e=.returned (.int .i64 m)/\w=w'))
 (n4:Hid (∀w,w.cell? ⟨g,0,none⟩=some (.string s)->Calls Tryz.prog 181 #[.int .i64 8,.int .i64 2,.pointer (some ⟨g,0,none⟩)] w λe w'=>e=.returned (.int .i64 d)/\w=w'))
 (n5:Hid (∀w,Calls Tryz.prog 166 #[.agg #[.int .i64 y,.int .i64 m,.int .i64 d]] w λe w'=>e=.returned (.tuple #[.int .i64 a,.int .i64 b])/\Below w.heap.size w w')):
 Calls Tryz.prog 135 #[.string s] w λe w'=>e=.returned (.tuple #[.int .i64 a,.int .i64 b])/\Below w.heap.size w w':=by
 go_enter Tryz.func135,Tryz.ntmps135
 go_wp2_with fail
 refine n1.mono ?_
 rintro e w1 ⟨rfl,hb,hc⟩
 have HB:=Lib.hid hb
 have m2:=n2.out w1 hc
 have m3:=n3.out w1 hc
 have m4:=n4.out w1 hc
 have m5:=n5.out w1
 clear n1 hb n2 n3 n4 n5
 go_wp2_with (go_at_fn 181;first|(with_reducible refine m2.mono ?_;rintro e w2 ⟨rfl,rfl⟩)|(with_reducible refine m3.mono ?_;rintro e w2 ⟨rfl,rfl⟩)|(with_reducible refine m4.mono ?_;rintro e w2 ⟨rfl,rfl⟩))
 refine m5.mono ?_
 rintro e w6 ⟨rfl,hb6⟩
 have HB6:=Lib.hid (HB.out.trans (hb6.mono HB.out.size))
 clear m2 m3 m4 m5 hb6 eg
 go_wp2_with fail
 go_ret2
 exact⟨rfl,HB6.out⟩
theorem mJ (s:ByteArray)(i:Nat)(c:UInt8)(h:s.data.toList[i]? =some c):PlainAid.bt s i=(c.toNat:Int):=by
 have hlt:i<s.size:=by
  have:=(List.getElem?_eq_some_iff.1 h).1
  rw[Lib.size_eq];exact this
 rw[<-PlainAid.get_bt s i hlt]
 have h2:=(List.getElem?_eq_some_iff.1 h).2
 have:s[i]=c:=by rw[<-h2];rfl
 rw[this]
theorem uU:∀(f l:List UInt8),Ps.fits f l=true↔(l.length=f.length/\∀(i:Nat) (x c:UInt8),f[i]? =some x->l[i]? =some c->Ps.fit x c=true)
 |[],[]=>by simp[Ps.fits]
 |[],_::_=>by simp[Ps.fits]
 |_::_,[]=>by simp[Ps.fits]
 |x::f,c::l=>by
  have ih:=uU f l
  unfold Ps.fits at ih⊢
  simp only[List.length_cons,List.zip_cons_cons,List.all_cons,Bool.and_eq_true,decide_eq_true_eq]at ih⊢
  constructor
  ·rintro⟨h1,h2,h3⟩
   have h4:=ih.1 ⟨by omega,h3⟩
   refine⟨h1,λi y d hy hd=>?_⟩
   cases i with
   |zero=>simp at hy hd;subst hy;subst hd;exact h2
   |succ i=>exact h4.2 i y d (by simpa using hy) (by simpa using hd)
  ·rintro⟨h1,h2⟩
   have h4:=ih.2 ⟨by omega,λi y d hy hd=>h2 (i+1) y d (by simpa using hy) (by simpa using hd)⟩
   exact⟨h1,h2 0 x c rfl rfl,h4.2⟩
theorem PD (x c:UInt8):Ps.fit x c=true↔wK (x.toNat:Int) (c.toNat:Int):=by
 unfold Ps.fit wK
 by_cases h:x=48
 ·subst h
  rw[if_pos rfl]
  unfold Lx.digit
  simp only[Bool.and_eq_true,decide_eq_true_eq]
  have e:((48:UInt8).toNat:Int)=48:=rfl
  rw[e]
  omega
 ·rw[if_neg h]
  have hne:¬((x.toNat:Int)=48):=λe=>h (by
   apply UInt8.toNat_inj.1
   have:x.toNat=48:=by omega
   rw[this];rfl)
  rw[beq_iff_eq,<-UInt8.toNat_inj]
  constructor
  ·intro e;exact .inr ⟨hne,by rw[e]⟩
  ·rintro(⟨e,_⟩|⟨_,e⟩)
   ·exact absurd e hne
   ·omega
theorem Ap (l:List UInt8)(c:UInt8):Ps.num (l++[c])=10*Ps.num l+(c.toNat-48):=by unfold Ps.num;rw[List.foldl_append];rfl
theorem DC:∀(k:Nat) (l:List UInt8),l.length<=k->(∀c∈l,Lx.digit (c.toNat:Int)=true)->Ps.num l<10^k
 |0,l,h,_=>by
  obtain rfl:l=[]:=List.eq_nil_of_length_eq_zero (by omega)
  decide
 |k+1,l,h,hd=>by
  rcases List.eq_nil_or_concat l with rfl|⟨t,c,rfl⟩
  ·show 0<10^(k+1)
   exact Nat.pos_of_ne_zero (by simp)
  ·rw[List.concat_eq_append]at *
   have ih:=DC k t (by simp at h;omega) (λx hx=>hd x (by simp[hx]))
   have hc:=hd c (by simp)
   unfold Lx.digit at hc
   simp only[Bool.and_eq_true,decide_eq_true_eq]at hc
   rw[Ap,Nat.pow_succ]
   omega
theorem DX (s:ByteArray)(a k:Nat)(w:World)(g:Nat)(hs:s.size=10)(hak:a+k<=10)(hk:k<=6)(hc:w.cell? ⟨g,0,none⟩=some (.string s))(hd:∀(i:Nat) (c:UInt8),i<k->s.data.toList[a+i]? =some c->Lx.digit (c.toNat:Int)=true):
 Calls Tryz.prog 181 #[.int .i64 a,.int .i64 k,.pointer (some ⟨g,0,none⟩)] w λe w'=>e=.returned (.int .i64 (Ps.num ((s.data.toList.drop a).take k)))/\w=w':=by
 have hl:s.data.toList.length=10:=by rw[<-Lib.size_eq];exact hs
 have hget:∀i,i<k->∃c,s.data.toList[a+i]? =some c:=λi hi=>⟨_,List.getElem?_eq_getElem (by omega)⟩
 refine JL w s g a k (by omega) (by omega) hk hc (Lib.hid λi hi=>?_) (λi=>(Ps.num ((s.data.toList.drop a).take i):Int)) rfl (Lib.hid λi hi=>?_) (Lib.hid λi hi=>?_)
 ·obtain⟨c,hci⟩:=hget i hi
  have:=hd i c hi hci
  unfold Lx.digit at this
  simp only[Bool.and_eq_true,decide_eq_true_eq]at this
  rw[mJ s _ c hci]
  exact this
 ·obtain⟨c,hci⟩:=hget i hi
  have Ni:=hd i c hi hci
  unfold Lx.digit at Ni
  simp only[Bool.and_eq_true,decide_eq_true_eq]at Ni
  have e1:(s.data.toList.drop a).take (i+1)=(s.data.toList.drop a).take i++[c]:=by
   rw[List.take_add_one,List.getElem?_drop,hci];rfl
  rw[e1,Ap,mJ s _ c hci]
  omega
 ·have h1:=DC 6 ((s.data.toList.drop a).take i) (by rw[List.length_take];omega) (λc hc=>by
   obtain⟨j,hj,rfl⟩:=List.getElem_of_mem hc
   rw[List.length_take]at hj
   have hj2:(s.data.toList.drop a)[j]? =some (((s.data.toList.drop a).take i)[j]'(by rw[List.length_take];exact hj)):=by
    rw[List.getElem_take]
    exact List.getElem?_eq_getElem _
   rw[List.getElem?_drop]at hj2
   exact hd j _ (by omega) hj2)
  omega
theorem MP (s:ByteArray)(w:World)(hs:s.size<=1000000):
 Calls Tryz.prog 135 #[.string s] w λe w'=>e=.returned (.tuple #[.int .i64 (Ps.bi s).1,.int .i64 (Ps.bi s).2])/\Below w.heap.size w w':=by
 have eg:=enters_of Tryz.func181 (by kernel_rfl) rfl
 obtain⟨F,hF⟩:∃F:ByteArray,F=⟨#[48,48,48,48,45,48,48,45,48,48]⟩:=⟨_,rfl⟩
 have hFs:F.size=10:=by rw[hF];rfl
 have hFl:F.data.toList=Ps.form:=by rw[hF];rfl
 have hFl2:Ps.form.length=10:=rfl
 have hsl:=Lib.size_eq s
 unfold Ps.bi
 by_cases hf:Ps.fits Ps.form s.data.toList=true
 ·rw[if_pos hf]
  obtain⟨h1,h2⟩:=(uU _ _).1 hf
  have hs10:s.size=10:=by omega
  have hget:∀i,i<10->∃x c,Ps.form[i]? =some x/\s.data.toList[i]? =some c:=λi hi=>⟨_,_,List.getElem?_eq_getElem (by omega),List.getElem?_eq_getElem (by omega)⟩
  have n1:=Ak w s F (by omega) hs (by omega) (Lib.hid λi hi=>by
   obtain⟨x,c,hx,hc⟩:=hget i (by omega)
   rw[mJ s i c hc,mJ F i x (by rw[hFl];exact hx)]
   exact(PD x c).1 (h2 i x c hx hc))
  have hdig:∀(i:Nat) (c:UInt8),Ps.form[i]? =some 48->s.data.toList[i]? =some c->Lx.digit (c.toNat:Int)=true:=λi c hi hc=>by
   have:=h2 i 48 c hi hc
   unfold Ps.fit at this
   rwa [if_pos rfl]at this
  rw[hF]at n1
  have k4:∀i,i<4->Ps.form[0+i]? =some 48:=by decide
  have k5:∀i,i<2->Ps.form[5+i]? =some 48:=by decide
  have k8:∀i,i<2->Ps.form[8+i]? =some 48:=by decide
  refine Df w s w.heap.size _ _ _ _ _ eg n1 (Lib.hid λw1 hc=>?_) (Lib.hid λw1 hc=>?_) (Lib.hid λw1 hc=>?_) (Lib.hid λw1=>zQ w1 _ _ _ ?_)
  ·exact DX s 0 4 w1 _ hs10 (by omega) (by omega) hc (λi c hi hci=>hdig _ c (k4 i hi) hci)
  ·exact DX s 5 2 w1 _ hs10 (by omega) (by omega) hc (λi c hi hci=>hdig _ c (k5 i hi) hci)
  ·exact DX s 8 2 w1 _ hs10 (by omega) (by omega) hc (λi c hi hci=>hdig _ c (k8 i hi) hci)
  ·have:=DC 2 ((s.data.toList.drop 8).take 2) (by rw[List.length_take];omega) (λc hc=>by
    obtain⟨j,hj,rfl⟩:=List.getElem_of_mem hc
    rw[List.length_take]at hj
    have hj2:(s.data.toList.drop 8)[j]? =some (((s.data.toList.drop 8).take 2)[j]'(by rw[List.length_take];exact hj)):=by
     rw[List.getElem_take]
     exact List.getElem?_eq_getElem _
    rw[List.getElem?_drop]at hj2
    exact hdig _ _ (k8 j (by omega)) hj2)
   omega
 ·rw[if_neg hf]
  refine CE w s ?_
  rw[<-hF]
  by_cases hl:s.size=10
  ·have hex:∃j,j<10/\¬wK (PlainAid.bt F j) (PlainAid.bt s j):=by
    apply Classical.byContradiction
    intro hno
    apply hf
    refine(uU _ _).2 ⟨by omega,λi x c hx hc=>?_⟩
    apply Classical.byContradiction
    intro hnf
    have hi:i<10:=by have:=(List.getElem?_eq_some_iff.1 hx).1;omega
    exact hno ⟨i,hi,λh=>hnf ((PD x c).2 (by rw[mJ s i c hc,mJ F i x (by rw[hFl];exact hx)]at h;exact h))⟩
   obtain⟨j,⟨hj1,hj2⟩,hmin⟩:∃j,(j<10/\¬wK (PlainAid.bt F j) (PlainAid.bt s j))/\∀i,i<j->wK (PlainAid.bt F i) (PlainAid.bt s i):=by
    obtain⟨j,hj⟩:=hex
    induction j using Nat.strongRecOn with
    |ind j ih=>
     by_cases h:∃i,i<j/\¬wK (PlainAid.bt F i) (PlainAid.bt s i)
     ·obtain⟨i,hi,hn⟩:=h
      exact ih i hi ⟨by omega,hn⟩
     ·exact⟨j,hj,λi hi=>Classical.byContradiction λhn=>h ⟨i,hi,hn⟩⟩
   exact zV w s F (by omega) hs (by omega) j (by omega) (Lib.hid hmin) (Lib.hid hj2)
  ·exact xh w s F (by omega) hs (by omega)
structure kQ (m:Int)(kb ko kc:Nat)(W0:World):Prop where
 lx:kr m kb ko kc W0
 id:mI W0
 pr:∀w,Below W0.heap.size W0 w->uH w
 am:sH m W0
theorem kQ.below {m:Int}{kb ko kc:Nat}{W0 w:World}(h:kQ m kb ko kc W0)(hb:Below W0.heap.size W0 w):kQ m kb ko kc w:=
 ⟨h.lx.below hb,λw' hw'=>h.id w' (hb.trans (hw'.mono hb.size)),λw' hw'=>h.pr w' (hb.trans (hw'.mono hb.size)),h.am.below hb⟩
def az:Ps.Env:=psE (kT pu) jY (jG Ps.bi)
def psR:Ps.Req->Int:=Ps.Hg az.valid
theorem NK {m:Int}{kb ko kc:Nat}{W0:World}(h:kQ m kb ko kc W0):nP 133 W0 (kT pu):=
 ps_amt m kb ko kc h.lx pu λw s hw hs hd=>Gf s w m hs (h.am.below hw) hd
theorem pv_qty {m:Int}{kb ko kc:Nat}{W0:World}(h:kQ m kb ko kc W0):nP 168 W0 jY:=ps_qty m kb ko kc h.lx h.am
theorem pv_day (W0:World):nP 134 W0 (jG Ps.bi):=
 II Ps.bi (λs=>by have:=Ps.JI s;exact bf (by omega)) λw s _ hs=>MP s w hs
theorem JX (D:ByteArray->Int×Int)(s:ByteArray):(jG D s).2=0\/jG D s=(0,28):=by
 unfold jG
 split
 ·exact .inl rfl
 ·exact .inr rfl
def ChkC (W0:World):Prop:=∀(w:World) (B:Nat) (Q:Ps.Req) (a:Option Addr) (n c:Nat),Below W0.heap.size W0 w->ed w B (.slice a n c) Q.ins.links->
 Calls Tryz.prog 26 #[.agg (aA Q (.slice a n c))] w λe W'=>e=.returned (.int .i64 (psR Q))/\Below w.heap.size w W'
namespace Ps
def oJ (E:Env)(l:List Tok):St×Req:=
 if (aW l 0).data.toList∈verbs then((step (bind' (ref E l) λr=>rest E l (aW l 0).data.toList {ref:=r}) {} (.ok 1)).2,(step (bind' (ref E l) λr=>rest E l (aW l 0).data.toList {ref:=r}) {} (.ok 1)).1)
 else(.error (aT l 0,30),{})
def vL (l:List Tok):St->St
 | .ok b=>if b<l.length then .error (aT l b,30)else .ok b
 | .error e=>.error e
theorem FP (E:Env)(l:List Tok)(hl:0<l.length):line E l 0=match vL l (oJ E l).1 with
 | .ok b=>.ok ((oJ E l).2,b)
 | .error e=>.error e:=by
 unfold line oJ
 rw[if_neg (by omega)]
 by_cases hv:(aW l 0).data.toList∈verbs
 ·rw[if_pos hv,if_pos hv]
  simp only[]
  cases hr:ref E l 1 with
  |error e=>
   rw[show(0+1:Nat)=1 from rfl,dK hr,aX (dK hr)]
   rfl
  |ok x=>
   obtain⟨x,b⟩:=x
   rw[show(0+1:Nat)=1 from rfl,bind_ok hr]
   cases hq:rest E l (aW l 0).data.toList {ref:=x} b with
   |error e=>rw[dK hq,aX (show bind' (ref E l) (λr=>rest E l (aW l 0).data.toList {ref:=r}) 1=.error e from by rw[bind_ok hr];exact hq)];rfl
   |ok y=>
    obtain⟨y,d⟩:=y
    rw[bind_ok hq,step_ok (show bind' (ref E l) (λr=>rest E l (aW l 0).data.toList {ref:=r}) 1=.ok (y,d)from by rw[bind_ok hr];exact hq)]
    show(if d<l.length then _ else _)=_
    unfold vL
    by_cases hd:d<l.length
    ·simp only[if_pos hd]
    ·simp only[if_neg hd]
 ·rw[if_neg hv,if_neg hv]
  rfl
theorem Res.state {α:Type}{p:P α}{st st':St}{x:α}(z:α)(h:Res p st st' x):st'=(step p z st).2:=by
 cases st with
 |error e=>exact h
 |ok a=>
  cases st' with
  |error e=>rw[aX (show p a=.error e from h)]
  |ok b=>rw[step_ok (show p a=.ok (x,b)from h)]
theorem Res.value {α:Type}{p:P α}{st st':St}{x:α}(z:α)(h:Res p st st' x)(b:Nat)(hb:st'=.ok b):x=(step p z st).1:=by
 subst hb
 cases st with
 |error e=>cases h
 |ok a=>rw[step_ok (show p a=.ok (x,b)from h)]
end Ps
theorem uN:iA.map (λx=>x.1.data.toList)=Ps.verbs:=rfl
theorem KG:∀a b:Fin 9,a<b->Ps.verbs[a.val]?≠Ps.verbs[b.val]?:=by decide
theorem fm_low {j0 j:Nat}{v:Ps.Bs}(h0:Ps.verbs[j0]? =some v)(hj:j<j0){y:ByteArray×Nat}(hy:iA[j]? =some y):y.1.data.toList≠v:=by
 intro he
 have hl:j0<9:=(List.getElem?_eq_some_iff.1 h0).1
 have h1:Ps.verbs[j]? =some y.1.data.toList:=by rw[<-uN,List.getElem?_map,hy];rfl
 exact KG ⟨j,by omega⟩ ⟨j0,hl⟩ hj (by rw[h0];show Ps.verbs[j]? =_;rw[h1,he])
theorem bv.put {W0 W:World}{r tb cap q:Nat}{l:List Ps.Tok}{st:Ps.St}{Q:Ps.Req}{lv:Value}{w:World}(h:bv W0 W r tb cap q l st (aA Q lv) w)(j:Nat)(v:Value)(Q':Ps.Req)(hQ:(aA Q lv).setIfInBounds j v=aA Q' lv):bv W0 W r tb cap q l st (aA Q' lv) (w.setCell ⟨q,j,none⟩ v):=by
 rw[<-hQ];exact h.store j v
theorem bv.qr {W0 W:World}{r tb cap q:Nat}{l:List Ps.Tok}{st:Ps.St}{Q:Ps.Req}{w:World}(h:bv W0 W r tb cap q l st (aA Q ek) w)(hr:r<W.heap.size)(hq:q<W.heap.size)(hk:Q.ins.links=[]):fC W0 W r tb cap q l W.heap.size st Q w:=⟨hr,hq,ek,h,by rw[hk];exact ed.nil _ _⟩
theorem bv.inc {W0 W:World}{r tb cap q a:Nat}{l:List Ps.Tok}{cs:Array Value}{w:World}(h:bv W0 W r tb cap q l (.ok a) cs w)(hlt:a<l.length):
 (w.cell? ⟨r,1,none⟩=some (.int .i64 a)/\w.frozen? ⟨r,1,none⟩=false)/\bv W0 W r tb cap q l (.ok (a+1)) cs (w.setCell ⟨r,1,none⟩ (.int .i64 ((a:Int)+1)))/\Tch r r w (w.setCell ⟨r,1,none⟩ (.int .i64 ((a:Int)+1))):=by
 obtain⟨a',o,e,hr,ht,hne,hpos,hcap,bE,hst⟩:=h.1.rd
 obtain⟨rfl,rfl,hle⟩:=hst
 obtain⟨-,k1,-,-,-⟩:=cK hr
 have hT:Tch r r w (w.setCell ⟨r,1,none⟩ (.int .i64 ((a':Int)+1))):=(Tch.refl r r w).setCell 1 _
 refine⟨⟨k1,aJ 1 hr⟩,h.step (h.1.next ⟨a'+1,o,0,?_,ht.tch hT hne hne,hne,hpos,hcap,bE,rfl,rfl,hlt⟩ hT) hT,hT⟩
 have:=aN w r 1 _ _ (.int .i64 ((a':Int)+1)) hr
 exact this
theorem GX {w Wr:World}{r tb cap q:Nat}{l:List Ps.Tok}{E:Ps.Env}(hl:bF l)(env:mI w)(hpos:0<l.length)(yl:r<Wr.heap.size)(wI:q<Wr.heap.size)(_hmany:l.length<=1000000)(hE:Ps.ref E l=uu l)(_fb:Nat)
 (t:ByteArray) (j0:Nat) (v0:ByteArray) (fn:Nat) (hj0:iA[j0]? =some (v0,fn)) (htx:v0.data.toList=t.data.toList) (eg:∀args w,(callFunc fn args).run Tryz.prog w=.ok (.enter fn args) w) (hform:lm fn w Wr r tb cap q l E t.data.toList)
 (P3 P7:World->Prop) (hP3:∀w',P3 w'->bv w Wr r tb cap q l (.ok 0) (aA {} ek) w')
 (hP7:∀st' Q' w',fC w Wr r tb cap q l Wr.heap.size st' Q' w'->Ps.Res (Ps.bind' (Ps.ref E l) λx=>Ps.rest E l t.data.toList {ref:=x}) (.ok 1) st' Q'->P7 w'):CK r q t P3 P7:=by
 have hvj:Ps.verbs[j0]? =some t.data.toList:=by rw[<-htx,<-uN,List.getElem?_map,hj0];rfl
 refine .found (λb w'=>bv w Wr r tb cap q l (.ok 1) (aA {} ek) w'/\w'.heap[b]? =some (.cells #[.string v0,.func (.func fn) #[] #[]] 74 (0,0))/\Wr.heap.size<=b)
  (λb w'=>bv w Wr r tb cap q l (Ps.step (uu l) ⟨#[]⟩ (.ok 1)).2 (aA {} ek) w'/\w'.heap[b]? =some (.cells #[.string v0,.func (.func fn) #[] #[]] 74 (0,0))/\Wr.heap.size<=b)
  (λb w'=>bv w Wr r tb cap q l (Ps.step (uu l) ⟨#[]⟩ (.ok 1)).2 (aA {ref:=(Ps.step (uu l) ⟨#[]⟩ (.ok 1)).1} ek) w'/\w'.heap[b]? =some (.cells #[.string v0,.func (.func fn) #[] #[]] 74 (0,0))/\Wr.heap.size<=b)
  j0 v0 fn (Ps.step (uu l) ⟨#[]⟩ (.ok 1)).1 0 hj0 (by rw[Lib.toList_data,Lib.toList_data,htx];exact beq_self_eq_true _) (λj y hj hy=>by rw[Lib.toList_data,Lib.toList_data,beq_eq_false_iff_ne];exact fm_low hvj hj hy) eg (by unfold wrap64;omega)
  (Lib.hid ?_) (Lib.hid ?_) (Lib.hid ?_) (Lib.hid ?_) (Lib.hid ?_)
 ·rintro w1 w2 h1 rfl
  have h2:=hP3 w1 h1
  have hb:=(Below.refl w1.heap.size w1).alloc (Nat.le_refl _) (.cells #[.string v0,.func (.func fn) #[] #[]] 74)
  have h3:=h2.step (h2.1.below hb) (Tch.of_below hb)
  obtain⟨c1,c2,c3⟩:=h3.inc hpos
  have hsz:=h2.2.2.1.size
  have hrow:=aD w1 (.cells #[.string v0,.func (.func fn) #[] #[]] 74)
  exact⟨c1,c2,(c3.block _ (by simp) (by omega) (by omega)).trans hrow,hsz⟩
 ·rintro w1 b ⟨h1,h2,h3⟩
  refine(KO hl env w1 r tb cap _ h1.1).mono ?_
  rintro e W' ⟨c1,c2,c3⟩
  exact⟨c1,h1.step c2 c3,(c3.block b (Array.getElem?_eq_some_iff.1 h2).1 (by omega) (by omega)).trans h2,h3⟩
 ·rintro w1 b ⟨h1,h2,h3⟩
  refine⟨h1.cell 2 (by show 2<28;omega),h1.put 2 _ _ rfl,?_,h3⟩
  exact(((Tch.refl q q w1).setCell 2 _).block b (Array.getElem?_eq_some_iff.1 h2).1 (by omega) (by omega)).trans h2
 ·rintro w1 b ⟨h1,h2,h3⟩
  rw[cell_of_row _ _ _ _ _ _ h2];rfl
 ·rintro w1 b ⟨h1,h2,h3⟩
  refine(hform _ _ w1 h1 rfl rfl).mono ?_
  rintro e W' ⟨c1,st',Q',c2,c3⟩
  refine⟨c1,hP7 st' Q' W' c2 (Ps.Res.bind ?_ c3)⟩
  rw[hE]
  exact Ps.Res.of_step _ _ _
theorem wT {v:Ps.Bs}(h:v∈Ps.verbs):v=Ps.Lg\/v=Ps.kw\/v=Ps.lG\/v=Ps.pg\/v=Ps.lS\/v=Ps.oQ\/v=Ps.mh\/v=Ps.fV\/v=Ps.ou:=by
 simpa[Ps.verbs]using h
def mQ (w:World)(P:Ps.Req×Int×Int)(rv:Value)(o x:Int)(W':World):Prop:=
 (∃lv,rv=.agg (aA P.1 lv)/\ed W' w.heap.size lv P.1.ins.links)/\o=P.2.1/\x=P.2.2/\Below w.heap.size w W'
theorem bv.other {W0 W:World}{r tb cap q:Nat}{l:List Ps.Tok}{st:Ps.St}{cs:Array Value}{w:World}(h:bv W0 W r tb cap q l st cs w){g:Nat}{o:Obj}(hg:W.heap[g]? =some o)(h1:g≠r)(h2:g≠q):w.heap[g]? =some o:=
 (h.2.2.1.block g (Array.getElem?_eq_some_iff.1 hg).1 h1 h2).trans hg
theorem Jc {m:Int}{kb ko kc:Nat}{w w1:World}(env:kQ m kb ko kc w)(chk:ChkC w)(tb cap g:Nat)(l:List Ps.Tok)(hl:bF l)(hpos:0<l.length)(hcap:l.length<=cap)(bE:l.length<=1000000)(hg:g=w.heap.size)
 (hgz:w1.heap[g]? =some (.cells aH 29 (0,0))) (hb1:Below w.heap.size w w1) (htb:g<tb) (htl:tb<w1.heap.size) (EF:fH w1 tb l) (P:Ps.Req×Int×Int)
 (hP:P=match Ps.line az l 0 with
  | .error e=>({},e.1,e.2)
  | .ok (q,_)=>
    let q:=if q.op=0 then{q with sender:=q.ins.sender,ins:={q.ins with ref:=q.ref} }else q
    if psR q≠0 then({},Ps.aT l 0,psR q)else(q,0,0)):
 F5 g tb l.length cap w1 (mQ w P):=by
 obtain⟨r,hr⟩:∃r,r=w1.heap.size:=⟨_,rfl⟩
 obtain⟨q,hq⟩:∃q,q=w1.heap.size+1:=⟨_,rfl⟩
 obtain⟨Wr,hWr⟩:∃Wr,Wr=(w1.alloc (.cells (bK tb l.length cap 0 0 0) 68)).alloc (.cells aH 29):=⟨_,rfl⟩
 have hsz1:(w1.alloc (.cells (bK tb l.length cap 0 0 0) 68)).heap.size=w1.heap.size+1:=by simp
 have mZ:Below w1.heap.size w1 (w1.alloc (.cells (bK tb l.length cap 0 0 0) 68)):=(Below.refl _ _).alloc (Nat.le_refl _) _
 have hbb:Below (w1.heap.size+1) (w1.alloc (.cells (bK tb l.length cap 0 0 0) 68)) Wr:=by
  rw[hWr,<-hsz1];exact(Below.refl _ _).alloc (Nat.le_refl _) _
 have hbr:Below w1.heap.size w1 Wr:=mZ.trans (hbb.mono (by omega))
 have hrr:Wr.heap[r]? =some (.cells (bK tb l.length cap 0 0 0) 68 (0,0)):=by
  rw[hr,hbb.block w1.heap.size (by omega)];exact aD w1 _
 have hqr:Wr.heap[q]? =some (.cells aH 29 (0,0)):=by
  rw[hWr,hq,<-hsz1];exact aD _ _
 have yl:r<Wr.heap.size:=(Array.getElem?_eq_some_iff.1 hrr).1
 have wI:q<Wr.heap.size:=(Array.getElem?_eq_some_iff.1 hqr).1
 have hgW:Wr.heap[g]? =some (.cells aH 29 (0,0)):=(hbr.block g (by omega)).trans hgz
 have hbw:Below w.heap.size w Wr:=hb1.trans (hbr.mono hb1.size)
 have hrd:fB Wr r tb cap l (.ok 0):=⟨0,0,0,hrr,EF.below hbr htl,by omega,hpos,hcap,bE,rfl,rfl,by omega⟩
 have hR0:bv w Wr r tb cap q l (.ok 0) (aA {} ek) Wr:=⟨⟨hrd,hbw,by have:=hb1.size;omega⟩,hqr,Tch.refl _ _ _,by omega,by omega,by have:=hb1.size;omega⟩
 have eid:mI w:=env.id
 have hdd:∀s,(jG Ps.bi s).2=0\/jG Ps.bi s=(0,28):=JX _
 have MV:Pdr w l az:=⟨hl,by unfold az;rw[Ec];exact KO hl eid,by unfold az;rw[ve];exact xV hl eid,by unfold az;rw[Ma];exact NY hl eid,by unfold az;rw[psE_by];exact ps_by hl eid,NH hl _ (NK env),Bv hl _ (pv_qty env),by unfold az;rw[ND _ _ _ hdd];exact ps_day hl _ (pv_day w),env.pr⟩
 have iR:EY w Wr r tb cap q l az:=DV MV yl wI
 obtain⟨t,ht⟩:∃t,t=Ps.aW l 0:=⟨_,rfl⟩
 obtain⟨st7,Oe⟩:∃st7,st7=(Ps.oJ az l).1:=⟨_,rfl⟩
 obtain⟨Q7,hQ7⟩:∃Q7,Q7=(Ps.oJ az l).2:=⟨_,rfl⟩
 have sG:=Ps.FP az l hpos
 rw[<-Oe,<-hQ7]at sG
 obtain⟨st9,Ou⟩:∃st9,st9=Ps.vL l st7:=⟨_,rfl⟩
 rw[<-Ou]at sG
 have hgr:g≠r:=by omega
 have hgq:g≠q:=by omega
 refine .mk t (λw'=>bv w Wr r tb cap q l (.ok 0) (aA {} ek) w') (λw'=>bv w Wr r tb cap q l (.ok 0) (aA {} ek) w')
  (λw'=>∃Q',fC w Wr r tb cap q l Wr.heap.size st7 Q' w'/\∀b,st7=.ok b->Q'=Q7) (λw'=>∃Q',fC w Wr r tb cap q l Wr.heap.size st7 Q' w'/\∀b,st7=.ok b->Q'=Q7) (λw'=>∃Q',fC w Wr r tb cap q l Wr.heap.size st9 Q' w'/\∀b,st9=.ok b->Q'=Q7)
  (λfb w'=>bv w Wr r tb cap q l (.ok 0) (aA {} ek) w'/\w'.heap[fb]? =some (.cells qN.toArray 74 (0,0))) (Ps.bA l st7) hpos ?_ (Lib.hid ?_) (Lib.hid ?_) (Lib.hid ?_) (Lib.hid ?_) (Lib.hid ?_) (Lib.hid ?_) (Lib.hid ?_) (Lib.hid ?_) ?_
 ·
  rw[<-hr,<-hWr]
  have n2:=tC hrd hl
  rw[show Ps.bA l (.ok 0)=true from by simp[Ps.bA,hpos],show Ps.bJ l (.ok 0)=.ok 0 from by simp[Ps.bJ,hpos]]at n2
  refine n2.mono ?_
  rintro e W' ⟨c1,c2,c3⟩
  exact⟨c1,hR0.step (hR0.1.next c2 c3) c3⟩
 ·
  rw[<-hr]
  intro w' hw'
  refine(tT hw'.1.rd).mono ?_
  rintro e w2 ⟨c1,k,rfl⟩
  have hbk:=below_drewN' (Below.refl w'.heap.size w') k
  exact⟨by rw[ht];exact c1,hw'.step (hw'.1.below hbk) (Tch.of_below hbk)⟩
 ·rintro w' w2 hw' rfl
  have mZ:=(Below.refl w'.heap.size w').alloc (Nat.le_refl _) (.cells qN.toArray 74)
  exact⟨hw'.step (hw'.1.below mZ) (Tch.of_below mZ),aD w' _⟩
 ·rintro fb w' cs ⟨c1,c2⟩
  have mZ:=(Below.refl w'.heap.size w').alloc (Nat.le_refl _) (.cells cs 74)
  exact⟨c1.step (c1.1.below mZ) (Tch.of_below mZ),(mZ.block fb (Array.getElem?_eq_some_iff.1 c2).1).trans c2⟩
 ·rintro fb w' ⟨c1,c2⟩ j x hx
  obtain⟨e1,e2⟩:=PO iA j x hx
  refine⟨?_,?_⟩
  ·rw[cell_of_row _ _ _ _ _ _ c2,List.getElem?_toArray];exact e1
  ·rw[cell_of_row _ _ _ _ _ _ c2,List.getElem?_toArray];exact e2
 ·
  rw[<-hr,show r+1=q from by omega]
  intro fb
  by_cases hv:t.data.toList∈Ps.verbs
  ·have hmid:Ps.oJ az l=((Ps.step (Ps.bind' (Ps.ref az l) λx=>Ps.rest az l t.data.toList {ref:=x}) {} (.ok 1)).2,(Ps.step (Ps.bind' (Ps.ref az l) λx=>Ps.rest az l t.data.toList {ref:=x}) {} (.ok 1)).1):=by
    unfold Ps.oJ;rw[<-ht,if_pos hv]
   have fin:∀(j0:Nat) (v0:ByteArray) (fn:Nat),iA[j0]? =some (v0,fn)->v0.data.toList=t.data.toList->(∀args w,(callFunc fn args).run Tryz.prog w=.ok (.enter fn args) w)->lm fn w Wr r tb cap q l az t.data.toList->
    CK r q t (λw'=>bv w Wr r tb cap q l (.ok 0) (aA {} ek) w'/\w'.heap[fb]? =some (.cells qN.toArray 74 (0,0))) (λw'=>∃Q',fC w Wr r tb cap q l Wr.heap.size st7 Q' w'/\∀b,st7=.ok b->Q'=Q7):=λj0 v0 fn hj0 hv0 eg hf=>
    GX hl eid hpos yl wI bE (Ec _ _ _ l) fb t j0 v0 fn hj0 hv0 eg hf _ _ (λw' h=>h.1) λst' Q' w' h1 h2=>by
     have e1:=h2.state {}
     have e2:=h2.value {}
     rw[Oe,hQ7,hmid]
     refine⟨Q',by have h3:=h1;rw[e1]at h3;exact h3,λb hb=>e2 b (by rw[e1];exact hb)⟩
   rcases wT hv with h|h|h|h|h|h|h|h|h
   ·exact fin 0 _ _ rfl h.symm (enters_of Tryz.func53 (by kernel_rfl) rfl) (by rw[h];exact D6 MV iR)
   ·exact fin 1 _ _ rfl h.symm (enters_of Tryz.func54 (by kernel_rfl) rfl) (by rw[h];exact LY MV iR)
   ·exact fin 2 _ _ rfl h.symm (enters_of Tryz.func55 (by kernel_rfl) rfl) (by rw[h];exact EH MV iR)
   ·exact fin 3 _ _ rfl h.symm (enters_of Tryz.func56 (by kernel_rfl) rfl) (by rw[h];exact Gv MV yl wI)
   ·exact fin 4 _ _ rfl h.symm (enters_of Tryz.func57 (by kernel_rfl) rfl) (by rw[h];exact Ce MV yl wI)
   ·exact fin 5 _ _ rfl h.symm (enters_of Tryz.func58 (by kernel_rfl) rfl) (by rw[h];exact Kt MV (Cb MV yl wI))
   ·exact fin 6 _ _ rfl h.symm (enters_of Tryz.func59 (by kernel_rfl) rfl) (by rw[h];exact I7 MV yl wI)
   ·exact fin 7 _ _ rfl h.symm (enters_of Tryz.func60 (by kernel_rfl) rfl) (by rw[h];exact M3 MV yl wI)
   ·exact fin 8 _ _ rfl h.symm (enters_of Tryz.func61 (by kernel_rfl) rfl) (by rw[h];exact IP MV yl wI)
  ·have hmid:Ps.oJ az l=(.error (Ps.aT l 0,30),{}):=by unfold Ps.oJ;rw[<-ht,if_neg hv]
   refine .none (λj y hy=>?_) (Lib.hid ?_)
   ·rw[Lib.toList_data,Lib.toList_data,beq_eq_false_iff_ne]
    intro he
    apply hv
    rw[<-he,<-uN]
    exact List.mem_map.2 ⟨y,List.mem_of_getElem? hy,rfl⟩
   ·rintro w' ⟨c1,c2⟩
    refine(j6 c1.1.rd 30 (by decide) (λb hb=>by cases hb;exact hpos)).mono ?_
    rintro e W' ⟨h1,h2,h3⟩
    refine⟨h1,{},?_,λb hb=>by rw[Oe,hmid]at hb;cases hb⟩
    rw[Oe,hmid]
    exact(c1.step (c1.1.next h2 h3) h3).qr yl wI rfl
 ·
  rw[<-hr]
  rintro w' ⟨Q',c1,c2⟩
  refine(ma c1.rd.rd).mono ?_
  rintro e W' ⟨h1,k,rfl⟩
  exact⟨h1,Q',c1.drewN k,c2⟩
 ·
  rw[<-hr]
  rintro hb w' ⟨Q',c1,c2⟩
  obtain⟨b,Mj⟩:∃b,st7=.ok b:=by cases hs:st7 with
   |ok b=>exact⟨b,rfl⟩
   |error e=>rw[hs]at hb;cases hb
  have hlt:b<l.length:=by rw[Mj]at hb;simpa[Ps.bA]using hb
  have hf:Ps.gM l 30 st7=st9:=by rw[Ou,Mj];simp[Ps.vL,Ps.gM,hlt]
  refine(j6 c1.rd.rd 30 (by decide) (λb' hb'=>by rw[Mj]at hb';cases hb';exact hlt)).mono ?_
  rintro e W' ⟨h1,h2,h3⟩
  refine⟨h1,Q',?_,λb' hb'=>?_⟩
  ·have:=c1.step (c1.rd.next h2 h3) h3
   rw[hf]at this
   exact this
  ·rw[Ou,Mj]at hb'
   simp[Ps.vL,hlt]at hb'
 ·rintro hb w' ⟨Q',c1,c2⟩
  have h9:st9=st7:=by
   rw[Ou]
   cases hs:st7 with
   |error e=>rfl
   |ok b=>
    rw[hs]at hb
    have:¬b<l.length:=by simpa[Ps.bA]using hb
    simp[Ps.vL,this]
  rw[h9]
  exact⟨Q',c1,c2⟩
 ·
  rw[<-hr,show r+1=q from by omega]
  cases h9:st9 with
  |error er=>
   rw[h9]at sG
   simp only[]at sG
   rw[sG]at hP
   simp only[]at hP
   refine .err er.1 er.2 hgr (Lib.hid ?_)
   rintro w' ⟨Q',c1,c2⟩
   have hrd9:=c1.rd.rd
   obtain⟨a,o,e,hrow,_,_,_,_,_,hst⟩:=hrd9
   obtain⟨he,ho,hne⟩:=hst
   obtain⟨_,_,k2,k3,_⟩:=cK hrow
   obtain⟨_,_,lv,c3,c4⟩:=c1
   have qX:=c3.other hgW hgr hgq
   refine⟨by rw[beq_eq_false_iff_ne,<-he];exact hne,⟨qX,by rw[k2,ho],by rw[k3,he]⟩,?_⟩
   rw[hP]
   refine⟨⟨ek,rfl,ed.nil _ _⟩,rfl,rfl,?_⟩
   have:=c3.1.base.drew
   rw[<-hg]at this⊢
   exact below_setRow this (Nat.le_refl _) aH
  |ok b9=>
   rw[h9]at sG
   simp only[]at sG
   rw[sG]at hP
   simp only[]at hP
   have hend:∀w',(∃Q',fC w Wr r tb cap q l Wr.heap.size (.ok b9) Q' w'/\∀b,(Except.ok b9:Ps.St)=.ok b->Q'=Q7)->∃(qa:Option Addr) (qc:Nat),bv w Wr r tb cap q l (.ok b9) (aA Q7 (.slice qa Q7.ins.links.length qc)) w'/\ed w' Wr.heap.size (.slice qa Q7.ins.links.length qc) Q7.ins.links:=by
    rintro w' ⟨Q',c1,c2⟩
    obtain rfl:=c2 b9 rfl
    obtain⟨_,_,lv,c3,c4⟩:=c1
    obtain⟨qa,qc,rfl⟩:=c4.slice
    exact⟨qa,qc,c3,c4⟩
   have hk3:∀w',bv w Wr r tb cap q l (.ok b9) (aA Q7 (.slice none 0 0)) w'->True:=λ_ _=>trivial
   have Oj:∀(w':World) (cs:Array Value),bv w Wr r tb cap q l (.ok b9) cs w'->w'.cell? ⟨r,3,none⟩=some (.int .i64 0):=by
    rintro w' cs c3
    obtain⟨a,o,e,hrow,_,_,_,_,_,hst⟩:=c3.1.rd
    obtain⟨_,he,_⟩:=hst
    rw[(cK hrow).2.2.2.1,he]
   obtain⟨Q2,hQ2⟩:∃Q2,Q2=if Q7.op=0 then({Q7 with sender:=Q7.ins.sender,ins:={Q7.ins with ref:=Q7.ref} }:Ps.Req)else Q7:=⟨_,rfl⟩
   rw[<-hQ2]at hP
   have hl2:Q2.ins.links=Q7.ins.links:=by rw[hQ2];split<;>rfl
   have sQ:∀(w':World) (qa:Option Addr) (qc:Nat),bv w Wr r tb cap q l (.ok b9) (aA Q2 (.slice qa Q7.ins.links.length qc)) w'->ed w' Wr.heap.size (.slice qa Q7.ins.links.length qc) Q7.ins.links->
    Calls Tryz.prog 26 #[.agg (aA Q2 (.slice qa Q7.ins.links.length qc))] w' λe W'=>e=.returned (.int .i64 (psR Q2))/\W'.heap[g]? =some (.cells aH 29 (0,0))/\W'.cell? ⟨tb,2,none⟩=some (.int .i64 (Ps.aT l 0))/\W'.heap[q]? =some (.cells (aA Q2 (.slice qa Q7.ins.links.length qc)) 29 (0,0))/\
     ed W' Wr.heap.size (.slice qa Q7.ins.links.length qc) Q7.ins.links/\Below w.heap.size w W':=by
    intro w' qa qc c3 c4
    refine(chk w' Wr.heap.size Q2 qa _ qc c3.1.base (by rw[hl2];exact c4)).mono ?_
    rintro e W' ⟨h1,h2⟩
    have qX:=c3.other hgW hgr hgq
    obtain⟨x,hx⟩:∃x,l[0]? =some x:=⟨_,List.getElem?_eq_getElem hpos⟩
    have htk:=(c3.1.rd.tok 0 x hx).2.2
    have hoff:Ps.aT l 0=x.2.2:=by unfold Ps.aT;rw[hx]
    refine⟨h1,(h2.block g (Array.getElem?_eq_some_iff.1 qX).1).trans qX,?_,(h2.block q (Array.getElem?_eq_some_iff.1 c3.2.1).1).trans c3.2.1,c4.keep (Tch.of_below (r:=r) (q:=r) h2) yl yl,c3.1.base.trans (h2.mono c3.1.base.size)⟩
    rw[hoff]
    exact(h2.cell (p:=⟨tb,2,none⟩) c3.1.rd.lt.2).trans htk
   have hbad:∀(W':World),psR Q2≠0->Below w.heap.size w W'->mQ w P (.agg aH) (Ps.aT l 0) (psR Q2) (W'.drew.setRow g aH):=by
    intro W' hne hb
    rw[if_pos hne]at hP
    rw[hP]
    refine⟨⟨ek,rfl,ed.nil _ _⟩,rfl,rfl,?_⟩
    have:=hb.drew
    rw[<-hg]at this⊢
    exact below_setRow this (Nat.le_refl _) aH
   have hgood:∀(W':World) (qa:Option Addr) (qc:Nat),psR Q2=0->Below w.heap.size w W'->ed W' Wr.heap.size (.slice qa Q7.ins.links.length qc) Q7.ins.links->mQ w P (.agg (aA Q2 (.slice qa Q7.ins.links.length qc))) 0 0 (W'.setRow g (aA Q2 (.slice qa Q7.ins.links.length qc))):=by
    intro W' qa qc hz hb hlk
    rw[if_neg (by rw[hz];simp)]at hP
    rw[hP]
    refine⟨⟨_,rfl,?_⟩,rfl,rfl,?_⟩
    ·show ed _ w.heap.size _ Q2.ins.links
     rw[hl2]
     refine ja (bP hlk λb hb2=>gN W' g b _ ?_) hbw.size
     have h1:=(hlk.lt b hb2).1
     have h2:=hb1.size
     have h3:=hbr.size
     omega
    ·rw[<-hg]at hb⊢
     exact below_setRow hb (Nat.le_refl _) _
   by_cases hop:Q7.op=0
   ·have Om:Q2={Q7 with sender:=Q7.ins.sender,ins:={Q7.ins with ref:=Q7.ref} }:=by rw[hQ2,if_pos hop]
    have hst:∀w' qa qc,bv w Wr r tb cap q l (.ok b9) (aA Q7 (.slice qa Q7.ins.links.length qc)) w'->ed w' Wr.heap.size (.slice qa Q7.ins.links.length qc) Q7.ins.links->
     (w'.cell? ⟨q,0,none⟩=some (.int .i64 0)/\w'.cell? ⟨q,5,none⟩=some (.string Q7.ins.sender)/\w'.cell? ⟨q,2,none⟩=some (.string Q7.ref)/\((∃u,w'.cell? ⟨q,1,none⟩=some u)/\(∃u,w'.cell? ⟨q,3,none⟩=some u)/\w'.frozen? ⟨q,1,none⟩=false/\w'.frozen? ⟨q,3,none⟩=false/\(w'.setCell ⟨q,1,none⟩ (.string Q7.ins.sender)).frozen? ⟨q,3,none⟩=false))/\
     bv w Wr r tb cap q l (.ok b9) (aA Q2 (.slice qa Q7.ins.links.length qc)) ((w'.setCell ⟨q,1,none⟩ (.string Q7.ins.sender)).setCell ⟨q,3,none⟩ (.string Q7.ref))/\ed ((w'.setCell ⟨q,1,none⟩ (.string Q7.ins.sender)).setCell ⟨q,3,none⟩ (.string Q7.ref)) Wr.heap.size (.slice qa Q7.ins.links.length qc) Q7.ins.links:=by
     intro w' qa qc c3 c4
     have d1:=c3.put 1 (.string Q7.ins.sender) {Q7 with sender:=Q7.ins.sender} rfl
     have d2:=d1.put 3 (.string Q7.ref) Q2 (by rw[Om];rfl)
     have z:∀(Q:Ps.Req) (lv:Value),(aA Q lv).size=28:=λ_ _=>rfl
     refine⟨⟨?_,?_,?_,(c3.cell 1 (by rw[z];omega)).1,(c3.cell 3 (by rw[z];omega)).1,(c3.cell 1 (by rw[z];omega)).2,(c3.cell 3 (by rw[z];omega)).2,(d1.cell 3 (by rw[z];omega)).2⟩,d2,?_⟩
     ·rw[cell_of_row _ _ _ _ _ _ c3.2.1]
      show some (Value.int .i64 Q7.op)=_
      rw[hop]
     ·rw[cell_of_row _ _ _ _ _ _ c3.2.1];rfl
     ·rw[cell_of_row _ _ _ _ _ _ c3.2.1];rfl
     ·exact(c4.keep ((Tch.refl q q w').setCell 1 _) wI wI).keep ((Tch.refl q q _).setCell 3 _) wI wI
    by_cases hz:psR Q2=0
    ·refine .subOk Q7.ins.sender Q7.ref (Lib.hid ?_)
     intro w' hw'
     obtain⟨qa,qc,c3,c4⟩:=hend w' hw'
     obtain⟨⟨d0,d5,d2,d6⟩,d7,d8⟩:=hst w' qa qc c3 c4
     refine⟨Q2,qa,_,qc,Oj w' _ c3,d0,d5,d2,d6,d7.2.1,(sQ _ qa qc d7 d8).mono ?_⟩
     rintro e W' ⟨h1,h2,h3,h4,h5,h6⟩
     exact⟨by rw[h1,hz],h2,h4,hgood W' qa qc hz h6 h5⟩
    ·refine .subBad Q7.ins.sender Q7.ref (Ps.aT l 0) (psR Q2) (by rw[beq_eq_false_iff_ne];exact hz) (by omega) (Lib.hid ?_)
     intro w' hw'
     obtain⟨qa,qc,c3,c4⟩:=hend w' hw'
     obtain⟨⟨d0,d5,d2,d6⟩,d7,d8⟩:=hst w' qa qc c3 c4
     refine⟨Q2,qa,_,qc,Oj w' _ c3,d0,d5,d2,d6,d7.2.1,(sQ _ qa qc d7 d8).mono ?_⟩
     rintro e W' ⟨h1,h2,h3,h4,h5,h6⟩
     exact⟨h1,h2,h3,hbad W' hz h6⟩
   ·have Om:Q2=Q7:=by rw[hQ2,if_neg hop]
    have hc0:∀w' qa qc,bv w Wr r tb cap q l (.ok b9) (aA Q7 (.slice qa Q7.ins.links.length qc)) w'->w'.cell? ⟨q,0,none⟩=some (.int .i64 Q7.op):=λw' qa qc c3=>by
     rw[cell_of_row _ _ _ _ _ _ c3.2.1];rfl
    by_cases hz:psR Q2=0
    ·refine .opOk Q7.op (by rw[beq_eq_false_iff_ne];exact hop) (Lib.hid ?_)
     intro w' hw'
     obtain⟨qa,qc,c3,c4⟩:=hend w' hw'
     have c5:=c3
     rw[<-Om]at c5
     rw[hl2]at c5
     refine⟨Q2,qa,_,qc,Oj w' _ c3,hc0 w' qa qc c3,c5.2.1,(sQ _ qa qc c5 c4).mono ?_⟩
     rintro e W' ⟨h1,h2,h3,h4,h5,h6⟩
     exact⟨by rw[h1,hz],h2,h4,hgood W' qa qc hz h6 h5⟩
    ·refine .opBad Q7.op (by rw[beq_eq_false_iff_ne];exact hop) (Ps.aT l 0) (psR Q2) (by rw[beq_eq_false_iff_ne];exact hz) (by omega) (Lib.hid ?_)
     intro w' hw'
     obtain⟨qa,qc,c3,c4⟩:=hend w' hw'
     have c5:=c3
     rw[<-Om]at c5
     rw[hl2]at c5
     refine⟨Q2,qa,_,qc,Oj w' _ c3,hc0 w' qa qc c3,c5.2.1,(sQ _ qa qc c5 c4).mono ?_⟩
     rintro e W' ⟨h1,h2,h3,h4,h5,h6⟩
     exact⟨h1,h2,h3,hbad W' hz h6⟩
end Go.Proofs.YthijakidnkhbnaaGreatDoor
namespace Go.Proofs.YthijakidnkhbnaaGreatDoor.Lx
open Go
def O6 (s:ByteArray)(t:Tok):Prop:=t.2.1.size<=s.size/\t.2.2<=s.size/\∃x,x=aI t.2.1/\x.2=0/\t.1=x.1
theorem xU (s:ByteArray):∀(f a:Nat) (acc:List Tok),a<=s.size->acc.length<=a->(∀t∈acc,O6 s t)->(gq f s a acc).1.length<=s.size/\∀t∈(gq f s a acc).1,O6 s t
 |0,a,acc,h1,h2,h3=>⟨Nat.le_trans h2 h1,h3⟩
 |f+1,a,acc,h1,h2,h3=>by
  unfold gq
  split
  ·exact⟨Nat.le_trans h2 h1,h3⟩
  ·rename_i hz
   have k1:=yw s a h1
   have k2:=size_le s (a+skip s a) k1
   obtain⟨x,hx⟩:∃x,x=s.extract (a+skip s a) (a+skip s a+size s (a+skip s a)):=⟨_,rfl⟩
   have hxs:x.size<=s.size:=by rw[hx,ByteArray.size_extract];omega
   rw[<-hx]
   obtain⟨c,hc⟩:∃c,c=aI x:=⟨_,rfl⟩
   rw[<-hc]
   split
   ·rename_i hc0
    refine xU s f _ _ k2 (by rw[List.length_append];simp only[List.length_singleton];omega) λt ht=>?_
    rcases List.mem_append.1 ht with h|h
    ·exact h3 t h
    ·have ht2:=List.mem_singleton.1 h
     rw[ht2]
     exact⟨hxs,k1,c,hc,hc0,rfl⟩
   ·exact⟨Nat.zero_le _,λt ht=>by cases ht⟩
theorem rR (s:ByteArray):(aO s).1.length<=1024/\∀t∈(aO s).1,t.2.1.size<=1024/\t.2.2<=1024/\∃x,x=aI t.2.1/\x.2=0/\t.1=x.1:=by
 unfold aO
 split
 ·exact⟨Nat.zero_le _,λt ht=>by cases ht⟩
 ·have hu:(aZ s).size<=1024:=by
   unfold aZ
   rw[ByteArray.size_extract]
   omega
  obtain⟨h1,h2⟩:=xU (aZ s) ((aZ s).size+1) 0 [] (Nat.zero_le _) (Nat.le_refl _) (λt ht=>by cases ht)
  exact⟨by omega,λt ht=>by obtain⟨a,b,c⟩:=h2 t ht;exact⟨by omega,by omega,c⟩⟩
end Go.Proofs.YthijakidnkhbnaaGreatDoor.Lx
namespace Go.Proofs.YthijakidnkhbnaaGreatDoor
open Go.RowKit
theorem Lu {m:Int}{kb ko kc:Nat}{w:World}(env:kQ m kb ko kc w)(chk:ChkC w)(s:ByteArray)(hs:s.size<=9223372036854775807):
 Calls Tryz.prog 9 #[.string s] w λe W'=>∃rv o x,e=.returned (.tuple #[rv,.int .i64 o,.int .i64 x])/\mQ w (Ps.parse az psR s) rv o x W':=by
 have EF:∀W,Below w.heap.size w W->_:=λW hW=>A7 s W m kb ko kc hs (env.lx.below hW)
 have hin:=Lx.rR s
 by_cases he:(Lx.aO s).2.2=0
 ·by_cases hl:(Lx.aO s).1=[]
  ·
   have hP:Ps.parse az psR s=({},0,4):=by
    unfold Ps.parse
    rw[if_neg (by rw[he];simp),hl]
    rfl
   refine(yP w s (Lx.aO s).2.1 (Lib.hid λW hW=>(EF W hW).mono ?_)).mono ?_
   ·rintro e W' ⟨v,rfl,h1,h2⟩
    rw[hl]at h1
    obtain⟨a,c,rfl⟩:=dB h1
    exact⟨a,c,by rw[he];rfl,h2⟩
   ·rintro e W' ⟨rfl,hb⟩
    refine⟨_,_,_,rfl,?_⟩
    rw[hP]
    exact⟨⟨ek,rfl,ed.nil _ _⟩,rfl,rfl,hb⟩
  ·
   have hpos:0<(Lx.aO s).1.length:=List.length_pos_iff.2 hl
   refine(zX w s (mQ w (Ps.parse az psR s)) (Lib.hid λg hg=>?_))
   have mZ:=(Below.refl w.heap.size w).alloc (Nat.le_refl _) (.cells aH 29)
   refine(EF _ mZ).mono ?_
   rintro e w1 ⟨v,rfl,h1,h2⟩
   have hsz:(w.alloc (.cells aH 29)).heap.size=w.heap.size+1:=by simp
   rcases oz h1 with⟨_,h0⟩|⟨tb,cap,rfl,htb,htl,hold⟩
   ·exact absurd h0 hl
   ·have hcap:(Lx.aO s).1.length<=cap:=by
     rcases h1.2 with⟨hv,_⟩|⟨g',cap',cur,hv,hB,hh,hn,hcap',NN,htake⟩
     ·cases hv
     ·cases hv;exact hn
    refine⟨tb,_,cap,(Lx.aO s).2.1,by rw[he],?_⟩
    have hgz:w1.heap[g]? =some (.cells aH 29 (0,0)):=by
     rw[hg,h2.block w.heap.size (by omega)]
     exact aD w _
    refine Jc env chk tb cap g (Lx.aO s).1 (λt ht=>?_) hpos hcap (by omega) hg hgz (mZ.trans (h2.mono (by omega))) (by omega) htl hold _ ?_
    ·obtain⟨a,b,_⟩:=hin.2 t ht
     exact⟨by omega,by omega⟩
    ·unfold Ps.parse
     rw[if_neg (by rw[he];simp)]
     cases Ps.line az (Lx.aO s).1 0 with
     |error er=>rfl
     |ok x=>rfl
 ·
  have hP:Ps.parse az psR s=({},(Lx.aO s).2.1,(Lx.aO s).2.2):=by
   unfold Ps.parse
   rw[if_pos he]
  refine(A9 w s (Lx.aO s).2.1 (Lx.aO s).2.2 he (Lib.hid λW hW=>(EF W hW).mono ?_)).mono ?_
  ·rintro e W' ⟨v,rfl,h1,h2⟩
   exact⟨v,rfl,h2⟩
  ·rintro e W' ⟨rfl,hb⟩
   refine⟨_,_,_,rfl,?_⟩
   rw[hP]
   exact⟨⟨ek,rfl,ed.nil _ _⟩,rfl,rfl,hb⟩
open Go.ChangeShapes Go.WideShapes Go.ChangeAt Go.RowKit
theorem Gh:Tryz.prog.globalNamed "giro/lexer.kinds"=some 0:=by kernel_rfl
theorem H9:(Tryz.prog.globals[0]?).map (·.type)=some 123:=by kernel_rfl
theorem zH:Tryz.prog.cellsOf 125=2:=by kernel_rfl
theorem Cs (g o j:Nat):(⟨g,o,none⟩:Addr).add j=⟨g,o+j,none⟩:=by
 unfold Addr.add
 split
 ·rename_i h;simp_all
 ·rfl
theorem uz {l:List (String×DataW Unit)}{W:World}(h:laidMetH Tryz.prog l W)(hm:("giro/lexer.kinds",(Rows.laid_giro_lexer_kinds:DataW Unit))∈l)
 (m:Int) (qB:W.cell? ⟨2,0,none⟩=some (.int .i64 m)):∃kb ko kc,kr m kb ko kc W:=by
 obtain⟨g,t,cs,fuel,p,hg,ht,hv,hd⟩:=h.funcs hm
 obtain rfl:=Option.some.inj (Gh.symm.trans hg)
 obtain rfl:=Option.some.inj (H9.symm.trans ht)
 have hd':DataW.trod (funcToken Tryz.prog) Tryz.prog W 0 (λ_=>true) true fuel 123 cs.toList=some (.slice [.agg [.lit (.int .i64 4),.held [103,105,114,111,47,108,101,120,101,114,46,100,97,116,101]],.agg [.lit (.int .i64 2),.held [103,105,114,111,47,108,101,120,101,114,46,107,105,110,100,115,36,49]],.agg [.lit (.int .i64 3),.held [103,105,114,111,47,108,101,120,101,114,46,100,101,99,105,109,97,108]],.agg [.lit (.int .i64 1),.held [103,105,114,111,47,108,101,120,101,114,46,107,105,110,100,115,36,50]],.agg [.lit (.int .i64 0),.held [103,105,114,111,47,108,101,120,101,114,46,107,105,110,100,115,36,51]]] [],p):=hd
 rcases Go.Deep.open_slice_pairs Tryz.underlying123 Tryz.underlying125 zH rfl rfl (by kernel_rfl) (by kernel_rfl) hd' with⟨_,hx⟩|⟨a,len,cap,mm,n,V0,V1,D0,D1,P0,P1,hcs,_,hlc,_,hmm,hx,hel⟩
 ·simp at hx
 simp only[Prod.mk.injEq,DataW.slice.injEq]at hx
 obtain⟨⟨hL,_⟩,_⟩:=hx
 have hlen:len=5:=by have:=congrArg List.length hL;simpa using this.symm
 subst hlen
 have hm5:5<=mm:=by rw[hmm];split<;>omega
 obtain⟨a0,b0,c0,d0⟩:=hel 0 (by omega)
 have e0:=congrArg (λl=>l[0]?) hL
 simp[List.range_succ]at e0
 rw[<-e0.1]at c0
 rw[<-e0.2]at d0
 obtain⟨n0,hn0,hl0,_⟩:=DataW.trod_int Tryz.underlying3 c0
 simp only[Prod.mk.injEq,DataW.lit.injEq,Lit.int.injEq,true_and]at hl0
 obtain rfl:=hl0.1
 have hf0:=func_of_trod (f0:=241) Tryz.underlying43 (by kernel_rfl) d0
 simp only[List.cons.injEq,and_true]at hn0
 rw[hn0]at a0
 rw[hf0]at b0
 obtain⟨a1,b1,c1,d1⟩:=hel 1 (by omega)
 have e1:=congrArg (λl=>l[1]?) hL
 simp[List.range_succ]at e1
 rw[<-e1.1]at c1
 rw[<-e1.2]at d1
 obtain⟨n1,hn1,hl1,_⟩:=DataW.trod_int Tryz.underlying3 c1
 simp only[Prod.mk.injEq,DataW.lit.injEq,Lit.int.injEq,true_and]at hl1
 obtain rfl:=hl1.1
 have hf1:=func_of_trod (f0:=242) Tryz.underlying43 (by kernel_rfl) d1
 simp only[List.cons.injEq,and_true]at hn1
 rw[hn1]at a1
 rw[hf1]at b1
 obtain⟨a2,b2,c2,d2⟩:=hel 2 (by omega)
 have e2:=congrArg (λl=>l[2]?) hL
 simp[List.range_succ]at e2
 rw[<-e2.1]at c2
 rw[<-e2.2]at d2
 obtain⟨n2,hn2,hl2,_⟩:=DataW.trod_int Tryz.underlying3 c2
 simp only[Prod.mk.injEq,DataW.lit.injEq,Lit.int.injEq,true_and]at hl2
 obtain rfl:=hl2.1
 have hf2:=func_of_trod (f0:=244) Tryz.underlying43 (by kernel_rfl) d2
 simp only[List.cons.injEq,and_true]at hn2
 rw[hn2]at a2
 rw[hf2]at b2
 obtain⟨a3,b3,c3,d3⟩:=hel 3 (by omega)
 have e3:=congrArg (λl=>l[3]?) hL
 simp[List.range_succ]at e3
 rw[<-e3.1]at c3
 rw[<-e3.2]at d3
 obtain⟨n3,hn3,hl3,_⟩:=DataW.trod_int Tryz.underlying3 c3
 simp only[Prod.mk.injEq,DataW.lit.injEq,Lit.int.injEq,true_and]at hl3
 obtain rfl:=hl3.1
 have hf3:=func_of_trod (f0:=245) Tryz.underlying43 (by kernel_rfl) d3
 simp only[List.cons.injEq,and_true]at hn3
 rw[hn3]at a3
 rw[hf3]at b3
 obtain⟨a4,b4,c4,d4⟩:=hel 4 (by omega)
 have e4:=congrArg (λl=>l[4]?) hL
 simp[List.range_succ]at e4
 rw[<-e4.1]at c4
 rw[<-e4.2]at d4
 obtain⟨n4,hn4,hl4,_⟩:=DataW.trod_int Tryz.underlying3 c4
 simp only[Prod.mk.injEq,DataW.lit.injEq,Lit.int.injEq,true_and]at hl4
 obtain rfl:=hl4.1
 have cZ:=func_of_trod (f0:=248) Tryz.underlying43 (by kernel_rfl) d4
 simp only[List.cons.injEq,and_true]at hn4
 rw[hn4]at a4
 rw[cZ]at b4
 obtain⟨b,off,spot⟩:=a
 have hspot:spot=none:=by simpa[Addr.add]using World.cell?_spot a0
 subst hspot
 simp only[Cs]at a0 b0 a1 b1 a2 b2 a3 b3 a4 b4
 have hvar:=World.var?_cell hg hv 0
 rw[Array.eq_one_of_toList hcs]at hvar
 exact⟨b,off,cap,⟨qB,by simpa using hvar,a0,b0,a1,b1,a2,b2,a3,b3,a4,b4⟩⟩
theorem pV {H:Type}{enc:TypeId×Value->H}{P:Program}{w:World}{base:Nat}{sp:Nat->Bool}{held:Bool}{fuel:Nat}{t:TypeId}{ms:Array (String×TypeId)}{cs:List Value}{nm:String}{d:DataW H}{p:List MemPlace}
 (ht:P.underlying t=some (.interface ms)) (h:DataW.trod enc P w base sp held fuel t cs=some (.iface nm d,p)):∃te v,cs=[.iface te v]:=by
 cases fuel with
 |zero=>simp[DataW.trod]at h
 |succ n=>
  unfold DataW.trod at h
  rw[ht]at h
  split at h<;>simp_all
theorem xG {P:Program}{l:List (String×DataW Unit)}{w:World}(h:laidMetH P l w){n:String}{d:DataW Unit}(hx:(n,d)∈l)(hd:d.handleName?.isNone=true):Lib.VarReads P w n d:=by
 have hm:(n,d)∈l.filter λx=>x.2.handleName?.isNone:=List.mem_filter.2 ⟨hx,hd⟩
 unfold laidMetH at h
 generalize (l.filter λx=>x.2.handleName?.isSome)=fl at h
 cases fl with
 |nil=>exact Lib.laidMet.reads h hx
 |cons a tl=>exact Lib.laidMet.reads h.1 hm
theorem En {l:List (String×DataW Unit)}{W:World}(h:laidMetH Tryz.prog l W){n:String}{g:Nat}{s:List UInt8}(hg:Tryz.prog.globalNamed n=some g)(ht:(Tryz.prog.globals[g]?).map (·.type)=some 201)
 (hx:(n,(.iface "*errors.errorString" (.ptr (.agg [.lit (.string s)])):DataW Unit))∈l):∃te pe,W.cell? ⟨g,0,none⟩=some (.iface te pe):=by
 obtain⟨g',t',cs,fuel,p,hg',ht',hv,hd⟩:=xG h hx rfl
 obtain rfl:=Option.some.inj (hg.symm.trans hg')
 obtain rfl:=Option.some.inj (ht.symm.trans ht')
 obtain⟨te,v,hcs⟩:=pV Tryz.underlying201 hd
 have hvar:=World.var?_cell hg hv 0
 rw[Array.eq_one_of_toList hcs]at hvar
 exact⟨te,v,by simpa using hvar⟩
theorem xm:Tryz.prog.cellsOf 193=2:=by kernel_rfl
def mF (f:Nat)(nm:UInt8×List UInt8):Prop:=((List.range Tryz.prog.funcs.size).filter λg=>(Tryz.prog.funcs[g]?).any (·.name.toUTF8.data.toList==nm.1::nm.2))=[f]
theorem wG {W:World}{fuel:Nat}{cs:List Value}{p:List MemPlace}(rows:List (Nat×Nat×(UInt8×List UInt8)))(hone:∀x∈rows,mF x.2.1 x.2.2)(hr:rows≠[])
 (h:DataW.trod (funcToken Tryz.prog) Tryz.prog W 0 (λ_=>true) true fuel 166 cs=some (.slice (rows.map λx=>.agg [.lit (.int .i64 x.1),.held (x.2.2.1::x.2.2.2)]) [],p)):
 ∃sb so sc,cs=[.slice (some ⟨sb,so,none⟩) rows.length sc]/\dP W sb so (rows.map λx=>(x.1,x.2.1)):=by
 rcases Go.Deep.open_slice_pairs Tryz.underlying166 Tryz.underlying193 xm rfl rfl (by kernel_rfl) (by kernel_rfl) h with⟨_,hx⟩|⟨a,len,cap,mm,n,V0,V1,D0,D1,P0,P1,hcs,_,hlc,_,hmm,hx,hel⟩
 ·simp at hx
 simp only[Prod.mk.injEq,DataW.slice.injEq]at hx
 obtain⟨⟨hL,_⟩,_⟩:=hx
 have hlen:len=rows.length:=by have:=congrArg List.length hL;simpa using this.symm
 subst hlen
 have hm5:rows.length<=mm:=by rw[hmm];split<;>omega
 obtain⟨b,off,spot⟩:=a
 have key:∀(j:Nat) (x:Nat×Nat×(UInt8×List UInt8)),rows[j]? =some x->W.cell? ((⟨b,off,spot⟩:Addr).add (j*2))=some (.int .i64 (x.1:Int))/\W.cell? ((⟨b,off,spot⟩:Addr).add (j*2+1))=some (.func (.func x.2.1) #[] #[]):=by
  intro j x hj
  have hjl:j<rows.length:=(List.getElem?_eq_some_iff.1 hj).1
  obtain⟨a0,b0,c0,d0⟩:=hel j (by omega)
  have e0:=congrArg (λl=>l[j]?) hL
  simp only[List.getElem?_map,hj,Option.map_some,List.getElem?_range hjl,Option.some.injEq,DataW.agg.injEq,List.cons.injEq,and_true]at e0
  rw[<-e0.1]at c0
  rw[<-e0.2]at d0
  obtain⟨n0,hn0,hl0,_⟩:=DataW.trod_int Tryz.underlying3 c0
  simp only[Prod.mk.injEq,DataW.lit.injEq,Lit.int.injEq,true_and]at hl0
  have hf0:=func_of_trod (f0:=x.2.1) Tryz.underlying191 (hone x (List.mem_iff_getElem?.2 ⟨j,hj⟩)) d0
  simp only[List.cons.injEq,and_true]at hn0
  rw[hn0,<-hl0.1]at a0
  rw[hf0]at b0
  exact⟨a0,b0⟩
 obtain⟨x,rest,rfl⟩:=List.exists_cons_of_ne_nil hr
 have hspot:spot=none:=by simpa[Addr.add]using World.cell?_spot (key 0 x rfl).1
 subst hspot
 refine⟨b,off,cap,hcs,λj y hy=>?_⟩
 rw[List.getElem?_map,Option.map_eq_some_iff]at hy
 obtain⟨z,hz,rfl⟩:=hy
 have:=key j z hz
 rwa [Cs,Cs]at this
theorem Pb:Tryz.prog.cellsOf 3=1:=by kernel_rfl
theorem id_cs:Tryz.prog.cellsOf 166=1:=by kernel_rfl
theorem id_cf:Tryz.prog.cellsOf 101=1:=by kernel_rfl
theorem PW:Tryz.prog.cellsOf 168=4:=by kernel_rfl
theorem Bg {W:World}{fuel:Nat}{cs:List Value}{p:List MemPlace}(low body:Int)(rows:List (Nat×Nat×(UInt8×List UInt8)))(hone:∀x∈rows,mF x.2.1 x.2.2)(hr:rows≠[])(cd:DataW (List UInt8))(chk:Value)
 (sQ:∀fuel v p,DataW.trod (funcToken Tryz.prog) Tryz.prog W 0 (λ_=>true) true fuel 101 [v]=some (cd,p)->v=chk)
 (h:DataW.trod (funcToken Tryz.prog) Tryz.prog W 0 (λ_=>true) true fuel 168 cs=some (.agg [.lit (.int .i64 low),.slice (rows.map λx=>.agg [.lit (.int .i64 x.1),.held (x.2.2.1::x.2.2.2)]) [],.lit (.int .i64 body),cd],p)):
 ∃sb so sc,cs=[.int .i64 low,.slice (some ⟨sb,so,none⟩) rows.length sc,.int .i64 body,chk]/\dP W sb so (rows.map λx=>(x.1,x.2.1)):=by
 obtain⟨xs,n,rfl,hx,hl,hxl,hall⟩:=DataW.trod_struct Tryz.underlying168 h
 rw[PW]at hl
 simp only[Prod.mk.injEq,DataW.agg.injEq]at hx
 obtain⟨hx,_⟩:=hx
 match xs,hx,cs,hl with
 |[y0,y1,y2,y3],hx,[v0,v1,v2,v3],_=>
  simp only[List.map_cons,List.map_nil,List.cons.injEq,and_true]at hx
  obtain⟨h0,h1,h2,h3⟩:=hx
  have g0:DataW.trod (funcToken Tryz.prog) Tryz.prog W 0 (λ_=>true) true n 3 (([v0,v1,v2,v3].drop 0).take (Tryz.prog.cellsOf 3))=some y0:=hall 0 _ rfl
  rw[Pb]at g0
  have g1:DataW.trod (funcToken Tryz.prog) Tryz.prog W 0 (λ_=>true) true n 166 (([v0,v1,v2,v3].drop 1).take (Tryz.prog.cellsOf 166))=some y1:=hall 1 _ rfl
  rw[id_cs]at g1
  have g2:DataW.trod (funcToken Tryz.prog) Tryz.prog W 0 (λ_=>true) true n 3 (([v0,v1,v2,v3].drop 2).take (Tryz.prog.cellsOf 3))=some y2:=hall 2 _ rfl
  rw[Pb]at g2
  have g3:DataW.trod (funcToken Tryz.prog) Tryz.prog W 0 (λ_=>true) true n 101 (([v0,v1,v2,v3].drop 3).take (Tryz.prog.cellsOf 101))=some y3:=hall 3 _ rfl
  rw[id_cf]at g3
  change DataW.trod _ _ _ _ _ _ n 3 [v0]=some y0 at g0
  change DataW.trod _ _ _ _ _ _ n 166 [v1]=some y1 at g1
  change DataW.trod _ _ _ _ _ _ n 3 [v2]=some y2 at g2
  change DataW.trod _ _ _ _ _ _ n 101 [v3]=some y3 at g3
  obtain⟨a0,b0⟩:=y0
  obtain⟨a1,b1⟩:=y1
  obtain⟨a2,b2⟩:=y2
  obtain⟨a3,b3⟩:=y3
  simp only at h0 h1 h2 h3
  subst h0 h1 h2 h3
  obtain⟨z0,e0,l0,_⟩:=DataW.trod_int Tryz.underlying3 g0
  obtain⟨z2,e2,l2,_⟩:=DataW.trod_int Tryz.underlying3 g2
  simp only[Prod.mk.injEq,DataW.lit.injEq,Lit.int.injEq,true_and,List.cons.injEq,and_true]at l0 l2 e0 e2
  obtain⟨sb,so,sc,e1,hsp⟩:=wG rows hone hr g1
  simp only[List.cons.injEq,and_true]at e1
  have e3:=sQ _ _ _ g3
  refine⟨sb,so,sc,?_,hsp⟩
  rw[e0,e1,e2,e3,<-l0.1,<-l2.1]
theorem Gm:Tryz.prog.globalNamed "giro/ident.kinds"=some 1:=by kernel_rfl
theorem Ht:(Tryz.prog.globals[1]?).map (·.type)=some 169:=by kernel_rfl
def oD:UInt8×List UInt8:=(103,[105,114,111,47,105,100,101,110,116,46,108,101,116,116,101,114])
def nC:UInt8×List UInt8:=(103,[105,114,111,47,105,100,101,110,116,46,97,108,112,104,97,110,117,109,101,114,105,99])
def qh:UInt8×List UInt8:=(103,[105,114,111,47,105,100,101,110,116,46,100,105,103,105,116])
def Fu:UInt8×List UInt8:=(103,[105,114,111,47,105,100,101,110,116,46,114,101,102,67,104,97,114,97,99,116,101,114])
theorem qV:mF 256 oD:=by unfold mF;kernel_rfl
theorem lV:mF 257 nC:=by unfold mF;kernel_rfl
theorem rf:mF 258 qh:=by unfold mF;kernel_rfl
theorem Ho:mF 260 Fu:=by unfold mF;kernel_rfl
def iU (k:Nat):List (Nat×Nat×(UInt8×List UInt8)):=
 if k=0 then[(2,256,oD),(9,257,nC),(1,258,qh)]
 else if k=1 then[(1,256,oD),(7,257,nC)]
 else if k=2 then[(16,260,Fu)]
 else[(18,257,nC),(2,258,qh)]
theorem EB (k:Nat):∀x∈iU k,mF x.2.1 x.2.2:=by
 unfold iU
 split
 ·intro x hx;simp at hx;rcases hx with rfl|rfl|rfl
  ·exact qV
  ·exact lV
  ·exact rf
 ·split
  ·intro x hx;simp at hx;rcases hx with rfl|rfl
   ·exact qV
   ·exact lV
  ·split
   ·intro x hx;simp at hx;subst hx
    exact Ho
   ·intro x hx;simp at hx;rcases hx with rfl|rfl
    ·exact lV
    ·exact rf
theorem GA (k:Nat):iU k≠[]:=by
 unfold iU
 split
 ·simp
 ·split
  ·simp
  ·split<;>simp
theorem xH (k:Nat):(iU k).map (λx=>(x.1,x.2.1))=(aV k).sp:=by
 unfold iU aV
 split
 ·rfl
 ·split
  ·rfl
  ·split<;>rfl
theorem lU {W:World}{fuel:Nat}{v:Value}{p:List MemPlace}(h:DataW.trod (funcToken Tryz.prog) Tryz.prog W 0 (λ_=>true) true fuel 101 [v]=some (.nil,p)):v=.nilFunc:=by
 cases fuel with
 |zero=>simp[DataW.trod]at h
 |succ n=>
  unfold DataW.trod at h
  rw[uS]at h
  split at h<;>simp_all
theorem Nt {W:World}{g:Nat}{cs:Array Value}(hg:g=1)(hcell:∀i,W.cell? ⟨g,i,none⟩=cs[i]?)(k:Nat)
 (h:∃sb so sc,(cs.toList.drop (k*4)).take 4=[.int .i64 (aV k).low,.slice (some ⟨sb,so,none⟩) (iU k).length sc,.int .i64 (aV k).body,(aV k).chk]/\dP W sb so ((iU k).map λx=>(x.1,x.2.1))):
 ∃sb so sc,KM W k sb so sc:=by
 subst hg
 obtain⟨sb,so,sc,hl,hsp⟩:=h
 have at':∀j v,j<4->((cs.toList.drop (k*4)).take 4)[j]? =some v->W.cell? ⟨1,k*4+j,none⟩=some v:=λj v hj hv=>by
  rw[hcell,<-Array.getElem?_toList,<-List.getElem?_drop,<-hv,List.getElem?_take,if_pos hj]
 rw[xH]at hsp
 have hlen:(iU k).length=(aV k).sp.length:=by rw[<-xH,List.length_map]
 rw[hlen]at hl
 refine⟨sb,so,sc,⟨?_,?_,?_,?_,hsp⟩⟩
 ·exact at' 0 _ (by omega) (by rw[hl];rfl)
 ·exact at' 1 _ (by omega) (by rw[hl];rfl)
 ·exact at' 2 _ (by omega) (by rw[hl];rfl)
 ·exact at' 3 _ (by omega) (by rw[hl];rfl)
def jW (k:Nat)(cd:DataW (List UInt8)):DataW (List UInt8):=
 .agg [.lit (.int .i64 (aV k).low),.slice ((iU k).map λx=>.agg [.lit (.int .i64 x.1),.held (x.2.2.1::x.2.2.2)]) [],.lit (.int .i64 (aV k).body),cd]
def DT (k:Nat):DataW (List UInt8):=
 if k=0 then .held [103,105,114,111,47,105,100,101,110,116,46,108,117,104,110]else if k=3 then .held [103,105,114,111,47,105,100,101,110,116,46,109,111,100,57,55]else .nil
theorem Gd {W:World}(k:Nat)(hk:k<4)(fuel:Nat)(v:Value)(p:List MemPlace)(h:DataW.trod (funcToken Tryz.prog) Tryz.prog W 0 (λ_=>true) true fuel 101 [v]=some (DT k,p)):v=(aV k).chk:=by
 match k,hk with
 |0,_=>exact func_of_trod (f0:=259) uS (by kernel_rfl) h
 |1,_=>exact lU h
 |2,_=>exact lU h
 |3,_=>exact func_of_trod (f0:=261) uS (by kernel_rfl) h
theorem vW {l:List (String×DataW Unit)}{W:World}(h:laidMetH Tryz.prog l W)(hm:("giro/ident.kinds",(Rows.laid_giro_ident_kinds:DataW Unit))∈l):jv W:=by
 obtain⟨g,t,cs,fuel,p,hg,ht,hv,hd⟩:=h.funcs hm
 obtain rfl:=Option.some.inj (Gm.symm.trans hg)
 obtain rfl:=Option.some.inj (Ht.symm.trans ht)
 have hd':DataW.trod (funcToken Tryz.prog) Tryz.prog W 0 (λ_=>true) true fuel 169 cs.toList=some (.agg [jW 0 (DT 0),jW 1 (DT 1),jW 2 (DT 2),jW 3 (DT 3)],p):=hd
 obtain⟨xs,m,_,hx,_,hxl,hall⟩:=DataW.trod_array Tryz.underlying169 hd'
 simp only[Prod.mk.injEq,DataW.agg.injEq]at hx
 obtain⟨hx,_⟩:=hx
 intro k hk
 refine Nt rfl (World.var?_cell hg hv) k ?_
 have hrow:=hall k hk
 rw[PW]at hrow
 have hxk:(xs.map (·.1))[k]? =some (jW k (DT k)):=by
  rw[<-hx]
  match k,hk with
  |0,_=>rfl
  |1,_=>rfl
  |2,_=>rfl
  |3,_=>rfl
 rw[List.getElem?_map,Option.map_eq_some_iff]at hxk
 obtain⟨⟨d,q⟩,hq,hdq⟩:=hxk
 simp only at hdq
 subst hdq
 rw[hq]at hrow
 exact Bg _ _ (iU k) (EB k) (GA k) (DT k) (aV k).chk (λfuel v p=>Gd k hk fuel v p) hrow
theorem H8:Tryz.prog.globalNamed "giro/message.priorityNames"=some 3:=by kernel_rfl
theorem Gp:(Tryz.prog.globals[3]?).map (·.type)=some 207:=by kernel_rfl
theorem pr_c1:Tryz.prog.cellsOf 9=1:=by kernel_rfl
theorem GK:Tryz.prog.globalNamed "strconv.ErrRange"=some 7:=by kernel_rfl
theorem GQ:(Tryz.prog.globals[7]?).map (·.type)=some 201:=by kernel_rfl
theorem EJ:Tryz.prog.globalNamed "strconv.ErrSyntax"=some 6:=by kernel_rfl
theorem Dq:(Tryz.prog.globals[6]?).map (·.type)=some 201:=by kernel_rfl
theorem uh {l:List (String×DataW Unit)}{W:World}(h:laidMetH Tryz.prog l W)(hx:("giro/message.priorityNames",(Rows.laid_giro_message_priorityNames:DataW Unit))∈l):uH W:=by
 obtain⟨g',t',cs,fuel,p,hg',ht',hv,hd⟩:=xG h hx rfl
 obtain rfl:=Option.some.inj (H8.symm.trans hg')
 obtain rfl:=Option.some.inj (Gp.symm.trans ht')
 have hd':DataW.trod _ Tryz.prog W 0 (λ_=>true) false fuel 207 cs.toList=some (.agg [.lit (.string [110,111,114,109,97,108]),.lit (.string [104,105,103,104]),.lit (.string [117,114,103,101,110,116])],p):=hd
 obtain⟨xs,m,_,hx,_,hxl,hall⟩:=DataW.trod_array Tryz.underlying207 hd'
 simp only[Prod.mk.injEq,DataW.agg.injEq]at hx
 obtain⟨hx,_⟩:=hx
 intro j s hj
 have hj3:j<3:=by have:=(List.getElem?_eq_some_iff.1 hj).1;simpa[prN]using this
 have hrow:=hall j hj3
 rw[pr_c1,Nat.mul_one]at hrow
 have hxk:(xs.map (·.1))[j]? =some (.lit (.string s.data.toList)):=by
  rw[<-hx]
  match j,hj3,hj with
  |0,_,hj=>cases hj;rfl
  |1,_,hj=>cases hj;rfl
  |2,_,hj=>cases hj;rfl
 rw[List.getElem?_map,Option.map_eq_some_iff]at hxk
 obtain⟨⟨d,q⟩,hq,hdq⟩:=hxk
 simp only at hdq
 subst hdq
 rw[hq]at hrow
 obtain⟨s',hs',hx',_⟩:=DataW.trod_string Tryz.underlying9 hrow
 simp only[Prod.mk.injEq,DataW.lit.injEq,Lit.string.injEq]at hx'
 have hss:s=s':=by
  have:=hx'.1
  obtain⟨⟨a⟩⟩:=s
  obtain⟨⟨b⟩⟩:=s'
  have:a=b:=this
  rw[this]
 subst hss
 rw[World.var?_cell hg' hv,<-Array.getElem?_toList]
 have:((cs.toList.drop j).take 1)[0]? =some (.string s):=by rw[hs'];rfl
 rw[List.getElem?_take,if_pos (by omega),List.getElem?_drop,Nat.add_zero]at this
 exact this
theorem Ke {W w:World}(h:uH W)(hb:Below W.heap.size W w):uH w:=λj s hj=>
 (hb.cell (World.block_lt_of_cell? W _ (h j s hj))).trans (h j s hj)
theorem uJ {l:List (String×DataW Unit)}{W:World}(h:laidMetH Tryz.prog l W)(h1:("giro/lexer.kinds",(Rows.laid_giro_lexer_kinds:DataW Unit))∈l)(h2:("giro/ident.kinds",(Rows.laid_giro_ident_kinds:DataW Unit))∈l)(h3:("giro/message.priorityNames",(Rows.laid_giro_message_priorityNames:DataW Unit))∈l)
 (h4:("strconv.ErrRange",(Rows.laid_strconv_ErrRange:DataW Unit))∈l) (h5:("strconv.ErrSyntax",(Rows.laid_strconv_ErrSyntax:DataW Unit))∈l) (m:Int) (qB:W.cell? ⟨2,0,none⟩=some (.int .i64 m)):∃kb ko kc,kQ m kb ko kc W:=by
 obtain⟨kb,ko,kc,hl⟩:=uz h h1 m qB
 exact⟨kb,ko,kc,hl,λw hw=>(vW h h2).below hw,λw hw=>Ke (uh h h3) hw,qB,En h GK GQ h4,En h EJ Dq h5⟩
open Go.Proofs.YthijakidnkhbnaaGreatDoor.Ord
theorem Dn (w:World)(n lo hi:Int)(b1 b2:Bool)(h1:decide (lo<=n)=b1)(h2:decide (n<=hi)=b2):
 Calls Tryz.prog 64 #[.int .i64 n,.int .i64 lo,.int .i64 hi] w λe w'=>e=.returned (.bool (b1&&b2))/\w=w':=by
 cases b1
 all_goals cases b2
 all_goals simp only[decide_eq_true_eq,decide_eq_false_iff_not]at h1 h2
 all_goals
  go_enter Tryz.func64,Tryz.ntmps64
  go_wp2_with fail
  go_ret
  exact⟨rfl,rfl⟩
theorem yD (w:World)(n lo hi:Int)(b1 b2:Bool)(h1:decide (lo<=n)=b1)(h2:decide (n<=hi)=b2):
 Calls Tryz.prog 106 #[.int .i64 n,.int .i64 lo,.int .i64 hi] w λe w'=>e=.returned (.bool (b1&&b2))/\w=w':=by
 cases b1
 all_goals cases b2
 all_goals simp only[decide_eq_true_eq,decide_eq_false_iff_not]at h1 h2
 all_goals
  go_enter Tryz.func106,Tryz.ntmps106
  go_wp2_with fail
  go_ret
  exact⟨rfl,rfl⟩
def inB (n lo hi:Int):Bool:=decide (lo<=n)&&decide (n<=hi)
theorem Gc (w:World)(n lo hi:Int):Calls Tryz.prog 64 #[.int .i64 n,.int .i64 lo,.int .i64 hi] w λe w'=>e=.returned (.bool (inB n lo hi))/\w=w':=Dn w n lo hi _ _ rfl rfl
theorem rT (w:World)(n lo hi:Int):Calls Tryz.prog 106 #[.int .i64 n,.int .i64 lo,.int .i64 hi] w λe w'=>e=.returned (.bool (inB n lo hi))/\w=w':=yD w n lo hi _ _ rfl rfl
theorem EE (w:World)(n lo hi:Int):Calls Tryz.prog 64 #[.int .i64 n,.int .i64 lo,.int .i64 hi] w λe w'=>e=.returned (.bool (inB n lo hi))/\Below w.heap.size w w':=(Gc w n lo hi).mono λ_e _w' ⟨h1,h2⟩=>⟨h1,h2▸Below.refl _ _⟩
theorem zT (w:World)(n lo hi:Int):Calls Tryz.prog 106 #[.int .i64 n,.int .i64 lo,.int .i64 hi] w λe w'=>e=.returned (.bool (inB n lo hi))/\Below w.heap.size w w':=(rT w n lo hi).mono λ_e _w' ⟨h1,h2⟩=>⟨h1,h2▸Below.refl _ _⟩
theorem Ib (w:World)(b:Bool)(n:Int):Calls Tryz.prog 100 #[.agg #[.bool b,.int .i64 n]] w λe w'=>e=.returned (.bool b)/\Below w.heap.size w w':=by
 go_enter Tryz.func100,Tryz.ntmps100
 go_wp2_with fail
 go_ret
 exact⟨rfl,(Below.refl _ _).alloc (Nat.le_refl _) _⟩
def dN (rs:List (Bool×Int)):List Value:=rs.flatMap λx=>[.bool x.1,.int .i64 x.2]
def aj:List (Bool×Int)->Int
 |[]=>0
 |x::rs=>if x.1=true then x.2 else aj rs
theorem F7:∀(rs:List (Bool×Int)) (j:Nat) (x:Bool×Int),rs[j]? =some x->(dN rs)[j*2]? =some (.bool x.1)/\(dN rs)[j*2+1]? =some (.int .i64 x.2)
 |[],j,x,h=>by simp at h
 |y::rs,0,x,h=>by
  obtain rfl:y=x:=by simpa using h
  exact⟨rfl,rfl⟩
 |y::rs,j+1,x,h=>by
  have ih:=F7 rs j x (by simpa using h)
  rw[show(j+1)*2=j*2+1+1 from by omega]
  exact ih
theorem AY (W:World)(g cap:Nat)(rs:List (Bool×Int))(t:TypeId)(hrow:W.heap[g]? =some (.cells (dN rs).toArray t (0,0)))(_hc:rs.length<=cap)(hl:rs.length<=1000)(m:Nat)(hm:m<=rs.length)(hlow:Hid (∀j x,j<m->rs[j]? =some x->x.1=false))
 (v:Int) (hv:Hid ((m<rs.length->(∃e,rs[m]? =some (true,e))/\v=(m:Int))/\(m=rs.length->v= -1))):
 Calls Tryz.prog 99 #[.slice (some ⟨g,0,none⟩) rs.length cap,.func (.func 100) #[] #[]] W λe W'=>e=.returned (.int .i64 v)/\Below W.heap.size W W':=by
 have eg:=enters_of Tryz.func100 (by kernel_rfl) rfl
 have HR:=Lib.hid hrow
 clear hrow
 go_enter Tryz.func99,Tryz.ntmps99
 go_wp2_with fail
 go_loopw [5,8] (λ_ iv wr=>∃j:Nat,iv=.int .i64 j/\j<=m/\Hid (Below W.heap.size W wr)) (λ_ iv _=>2000-(RowKit.intOf iv).toNat)
 case atStart=>exact⟨0,rfl,Nat.zero_le _,Lib.hid (Below.refl _ _)⟩
 case round=>
  obtain⟨j,rfl,hj,HB⟩:=hrel
  by_cases hlt:j<rs.length
  ·obtain⟨x,hx⟩:∃x,rs[j]? =some x:=⟨_,List.getElem?_eq_getElem hlt⟩
   obtain⟨b,n⟩:=x
   have hr2:wr.heap[g]? =some (.cells (dN rs).toArray t (0,0)):=(HB.out.block g (Array.getElem?_eq_some_iff.1 HR.out).1).trans HR.out
   have y0:wr.cell? ⟨g,j*2,none⟩=some (.bool b):=by rw[cell_of_row _ _ _ _ _ _ hr2,List.getElem?_toArray];exact(F7 rs j _ hx).1
   have y1:wr.cell? ⟨g,j*2+1,none⟩=some (.int .i64 n):=by rw[cell_of_row _ _ _ _ _ _ hr2,List.getElem?_toArray];exact(F7 rs j _ hx).2
   have jc:(j:Int)<(rs.length:Int):=by omega
   have m1:=Ib wr b n
   clear hr2
   by_cases hjm:j<m
   ·have hbf:=hlow.out j _ hjm hx
    simp only at hbf
    subst hbf
    have hw1:wrap64 ((j:Int)+1)=((j+1:Nat):Int):=by unfold wrap64;omega
    clear hx hlow hv
    go_wp2_with ((first|go_at_fn 100|go_at_call 100);refine m1.mono ?_;rintro e w1 ⟨rfl,hb⟩;have HB2:=Lib.hid (HB.out.trans (hb.mono HB.out.size));clear hb)
    refine⟨⟨j+1,by first|rfl|go_num,by omega,HB2⟩,by simp[RowKit.intOf]<;>omega⟩
   ·obtain rfl:j=m:=by omega
    obtain⟨⟨e0,he0⟩,hve⟩:=hv.out.1 hlt
    rw[hx]at he0
    cases he0
    subst hve
    clear hx hlow hv
    go_wp2_with ((first|go_at_fn 100|go_at_call 100);refine m1.mono ?_;rintro e w1 ⟨rfl,hb⟩;have HB2:=Lib.hid (HB.out.trans (hb.mono HB.out.size));clear hb)
    go_ret
    exact⟨rfl,HB2.out⟩
  ·have hje:j=rs.length:=by omega
   have hve:=hv.out.2 (by omega)
   subst hve
   have jc:¬(j:Int)<(rs.length:Int):=by omega
   clear hlow hv
   go_wp2_with fail
   go_ret
   exact⟨rfl,HB.out⟩
theorem Bi (W:World)(g cap k m:Nat)(n:Int)(_hm:m<k)(hmI:(m:Int)<(k:Int))(_hc:k<=cap)(_hl:k<=1000)
 (n1:Calls Tryz.prog 99 #[.slice (some ⟨g,0,none⟩) k cap,.func (.func 100) #[] #[]] W λe W'=>e=.returned (.int .i64 m)/\W'.cell? ⟨g,m*2+1,none⟩=some (.int .i64 n)/\Below W.heap.size W W'):
 Calls Tryz.prog 63 #[.slice (some ⟨g,0,none⟩) k cap] W λe W'=>e=.returned (.int .i64 n)/\Below W.heap.size W W':=by
 go_enter Tryz.func63,Tryz.ntmps63
 go_wp2_with fail
 refine n1.mono ?_
 rintro e w ⟨rfl,hc2,hb⟩
 have HB:=Lib.hid hb
 clear n1 hb
 go_wp2_with fail
 go_ret
 exact⟨rfl,HB.out⟩
theorem DY (W:World)(v:Value)
 (n1:Calls Tryz.prog 99 #[v,.func (.func 100) #[] #[]] W λe W'=>e=.returned (.int .i64 (-1))/\Below W.heap.size W W'):
 Calls Tryz.prog 63 #[v] W λe W'=>e=.returned (.int .i64 0)/\Below W.heap.size W W':=by
 go_enter Tryz.func63,Tryz.ntmps63
 go_wp2_with fail
 refine n1.mono ?_
 rintro e w ⟨rfl,hb⟩
 have HB:=Lib.hid hb
 clear n1 hb
 go_wp2_with fail
 go_ret
 exact⟨rfl,HB.out⟩
theorem pM:∀rs:List (Bool×Int),∃m,m<=rs.length/\(∀(j:Nat) (x:Bool×Int),j<m->rs[j]? =some x->x.1=false)/\((m<rs.length/\∃e,rs[m]? =some (true,e)/\aj rs=e)\/(m=rs.length/\aj rs=0))
 |[]=>⟨0,Nat.le_refl _,λj x h=>by omega,.inr ⟨rfl,rfl⟩⟩
 |(b,n)::rs=>by
  cases b with
  |true=>exact⟨0,Nat.zero_le _,λj x h=>by omega,.inl ⟨by simp,n,rfl,rfl⟩⟩
  |false=>
   obtain⟨m,h1,h2,h3⟩:=pM rs
   refine⟨m+1,by simpa using h1,λj x hj hx=>?_,?_⟩
   ·cases j with
    |zero=>simp at hx;rw[<-hx]
    |succ j=>exact h2 j x (by omega) (by simpa using hx)
   ·rcases h3 with⟨h4,e,h5,h6⟩|⟨h4,h5⟩
    ·exact .inl ⟨by simpa using h4,e,by simpa using h5,by simpa[aj]using h6⟩
    ·exact .inr ⟨by simpa using h4,by simpa[aj]using h5⟩
theorem MM (W:World)(g cap:Nat)(rs:List (Bool×Int))(t:TypeId)(hrow:W.heap[g]? =some (.cells (dN rs).toArray t (0,0)))(hc:rs.length<=cap)(hl:rs.length<=1000):
 Calls Tryz.prog 63 #[.slice (some ⟨g,0,none⟩) rs.length cap] W λe W'=>e=.returned (.int .i64 (aj rs))/\Below W.heap.size W W':=by
 obtain⟨m,h1,h2,h3⟩:=pM rs
 rcases h3 with⟨h4,e,h5,h6⟩|⟨h4,h5⟩
 ·rw[h6]
  refine Bi W g cap rs.length m e h4 (by omega) hc hl ((AY W g cap rs t hrow hc hl m h1 (Lib.hid h2) m (Lib.hid ⟨λ_=>⟨⟨e,h5⟩,rfl⟩,λh=>by omega⟩)).mono ?_)
  rintro x w ⟨rfl,hb⟩
  have hr2:w.heap[g]? =some (.cells (dN rs).toArray t (0,0)):=(hb.block g (Array.getElem?_eq_some_iff.1 hrow).1).trans hrow
  exact⟨rfl,by rw[cell_of_row _ _ _ _ _ _ hr2,List.getElem?_toArray];exact(F7 rs m _ h5).2,hb⟩
 ·rw[h5]
  exact DY W _ (AY W g cap rs t hrow hc hl m h1 (Lib.hid h2) (-1) (Lib.hid ⟨λh=>by omega,λ_=>rfl⟩))
theorem ent57:∀args w,(callFunc 64 args).run Tryz.prog w=.ok (.enter 64 args) w:=enters_of Tryz.func64 (by kernel_rfl) rfl
theorem ze:∀args w,(callFunc 65 args).run Tryz.prog w=.ok (.enter 65 args) w:=enters_of Tryz.func65 (by kernel_rfl) rfl
theorem ent108:∀args w,(callFunc 105 args).run Tryz.prog w=.ok (.enter 105 args) w:=enters_of Tryz.func105 (by kernel_rfl) rfl
theorem ent101:∀args w,(callFunc 83 args).run Tryz.prog w=.ok (.enter 83 args) w:=enters_of Tryz.func83 (by kernel_rfl) rfl
theorem ent105:∀args w,(callFunc 102 args).run Tryz.prog w=.ok (.enter 102 args) w:=enters_of Tryz.func102 (by kernel_rfl) rfl
theorem ent106:∀args w,(callFunc 103 args).run Tryz.prog w=.ok (.enter 103 args) w:=enters_of Tryz.func103 (by kernel_rfl) rfl
theorem ent107:∀args w,(callFunc 104 args).run Tryz.prog w=.ok (.enter 104 args) w:=enters_of Tryz.func104 (by kernel_rfl) rfl
theorem ent109:∀args w,(callFunc 106 args).run Tryz.prog w=.ok (.enter 106 args) w:=enters_of Tryz.func106 (by kernel_rfl) rfl
theorem ent110:∀args w,(callFunc 107 args).run Tryz.prog w=.ok (.enter 107 args) w:=enters_of Tryz.func107 (by kernel_rfl) rfl
theorem ent111:∀args w,(callFunc 108 args).run Tryz.prog w=.ok (.enter 108 args) w:=enters_of Tryz.func108 (by kernel_rfl) rfl
theorem JZ (g:Nat)(Q:Ps.Req)(a:Option Addr)(n c:Nat)(w:World)(h:w.heap[g]? =some (.cells (aA Q (.slice a n c)) 29 (0,0))):(Instr.loadAt 25 (.pointer (some ⟨g,3,none⟩))).run Tryz.prog w=.ok (.agg (aB Q.ins (.slice a n c)).toArray) w:=by
 have k0:w.cell? ⟨g,3,none⟩=some (.string Q.ins.ref):=by rw[cell_of_row _ _ _ _ _ _ h];rfl
 have k1:w.cell? ⟨g,4,none⟩=some (.int .i64 Q.ins.kind):=by rw[cell_of_row _ _ _ _ _ _ h];rfl
 have k2:w.cell? ⟨g,5,none⟩=some (.string Q.ins.sender):=by rw[cell_of_row _ _ _ _ _ _ h];rfl
 have k3:w.cell? ⟨g,6,none⟩=some (.string Q.ins.counterparty):=by rw[cell_of_row _ _ _ _ _ _ h];rfl
 have k4:w.cell? ⟨g,7,none⟩=some (.int .i64 Q.ins.side):=by rw[cell_of_row _ _ _ _ _ _ h];rfl
 have k5:w.cell? ⟨g,8,none⟩=some (.string Q.ins.asset):=by rw[cell_of_row _ _ _ _ _ _ h];rfl
 have k6:w.cell? ⟨g,9,none⟩=some (.int .i64 Q.ins.quantity):=by rw[cell_of_row _ _ _ _ _ _ h];rfl
 have k7:w.cell? ⟨g,10,none⟩=some (.int .i64 Q.ins.amount):=by rw[cell_of_row _ _ _ _ _ _ h];rfl
 have k8:w.cell? ⟨g,11,none⟩=some (.int .i64 Q.ins.tradeDay):=by rw[cell_of_row _ _ _ _ _ _ h];rfl
 have k9:w.cell? ⟨g,12,none⟩=some (.int .i64 Q.ins.settleDay):=by rw[cell_of_row _ _ _ _ _ _ h];rfl
 have k10:w.cell? ⟨g,13,none⟩=some (.int .i64 Q.ins.priority):=by rw[cell_of_row _ _ _ _ _ _ h];rfl
 have k11:w.cell? ⟨g,14,none⟩=some (.bool Q.ins.partial_):=by rw[cell_of_row _ _ _ _ _ _ h];rfl
 have k12:w.cell? ⟨g,15,none⟩=some (.int .i64 Q.ins.minLot):=by rw[cell_of_row _ _ _ _ _ _ h];rfl
 have k13:w.cell? ⟨g,16,none⟩=some (.bool Q.ins.hold):=by rw[cell_of_row _ _ _ _ _ _ h];rfl
 have k14:w.cell? ⟨g,17,none⟩=some (.bool Q.ins.reserve):=by rw[cell_of_row _ _ _ _ _ _ h];rfl
 have k15:w.cell? ⟨g,18,none⟩=some (.slice a n c):=by rw[cell_of_row _ _ _ _ _ _ h];rfl
 clear h
 go_simp
 rfl
theorem rq_amd (g:Nat)(Q:Ps.Req)(lv:Value)(w:World)(h:w.heap[g]? =some (.cells (aA Q lv) 29 (0,0))):(Instr.loadAt 27 (.pointer (some ⟨g,19,none⟩))).run Tryz.prog w=.ok (.agg (aG Q.amd).toArray) w:=by
 have k0:w.cell? ⟨g,19,none⟩=some (.bool Q.amd.hasAmount):=by rw[cell_of_row _ _ _ _ _ _ h];rfl
 have k1:w.cell? ⟨g,20,none⟩=some (.bool Q.amd.hasSettleDay):=by rw[cell_of_row _ _ _ _ _ _ h];rfl
 have k2:w.cell? ⟨g,21,none⟩=some (.bool Q.amd.hasPriority):=by rw[cell_of_row _ _ _ _ _ _ h];rfl
 have k3:w.cell? ⟨g,22,none⟩=some (.bool Q.amd.hasPartial):=by rw[cell_of_row _ _ _ _ _ _ h];rfl
 have k4:w.cell? ⟨g,23,none⟩=some (.int .i64 Q.amd.amount):=by rw[cell_of_row _ _ _ _ _ _ h];rfl
 have k5:w.cell? ⟨g,24,none⟩=some (.int .i64 Q.amd.settleDay):=by rw[cell_of_row _ _ _ _ _ _ h];rfl
 have k6:w.cell? ⟨g,25,none⟩=some (.int .i64 Q.amd.priority):=by rw[cell_of_row _ _ _ _ _ _ h];rfl
 have k7:w.cell? ⟨g,26,none⟩=some (.bool Q.amd.partial_):=by rw[cell_of_row _ _ _ _ _ _ h];rfl
 have k8:w.cell? ⟨g,27,none⟩=some (.int .i64 Q.amd.minLot):=by rw[cell_of_row _ _ _ _ _ _ h];rfl
 clear h
 go_simp
 rfl
theorem bd27 (ρ:Operand->Value)(w:World):(Instr.build 27 ((#[]:Array (Nat×Operand)).map λ(i,x)=>(i,ρ x))).run Tryz.prog w=.ok (.agg (aG {}).toArray) w:=by
 go_simp
 rfl
theorem bd25 (ρ:Operand->Value)(w:World):(Instr.build 25 ((#[]:Array (Nat×Operand)).map λ(i,x)=>(i,ρ x))).run Tryz.prog w=.ok (.agg (aB {} (.slice none 0 0)).toArray) w:=by
 go_simp
 rfl
theorem ne27 (A:Ps.Amd)(x y:Operand)(w:World):(do eqGuard .neq 27 x y (.agg (aG A).toArray) (.agg (aG {}).toArray);binOp .neq 27 (.agg (aG A).toArray) (.agg (aG {}).toArray):Sem Value).run Tryz.prog w=.ok (.bool (!decide A.none)) w:=by
 unfold aG
 go_simp
 repeat' split
 all_goals simp_all [Ps.Amd.none]
theorem LC {dr:Bool}{ops:Array Oper}{id:Nat}{a:Act}{w W0:World}{Q:Exit->Act->World->Prop}(n:Nat)(vs:List Value)(hvl:vs.length=n)(hd:eF ops=true)(hs:Region.noSelect ops=true)(hb:bV ops a.tmps.size=true)(ht:qy ops n=true)(hS:Below W0.heap.size W0 w)
 (hY:∀ρ:Operand->Value,bR ρ (ops.toList.take n) vs->(∀t:Nat,(∀o:Oper,o∈ops.toList->o.dst≠some t)->ρ (.tmp t)=a.eval (.tmp t))->(∀v,ρ (.const v)=v)->(∀f,ρ (.func f)=.func (.func f) #[] #[])->ik Tryz.prog (Below W0.heap.size W0) ρ vs (ops.toList.take n) vs)
 (rs:List (Bool×Int)) (hrs:rs.length<=1000) {x1 x2 x3:Oper} {k d1 d2 d3:Nat} {parts:Array (Nat×Operand)} {ts:Array TypeId} (hsz:ops.size=n+3)
 (h1:ops[n]? =some x1) (h1o:x1.op=.buildSlice 136 k parts) (h1d:x1.dst=some d1) (h1g:x1.guard=none)
 (h2:ops[n+1]? =some x2) (h2o:x2.op=.call {callee:=.value (.func 63),args:=#[.tmp d1],argTypes:=ts}) (xn:x2.dst=some d2) (h2g:x2.guard=none)
 (h3:ops[n+2]? =some x3) (h3o:x3.op=.assign (.tmp d2)) (Mi:x3.dst=some d3) (h3g:x3.guard=none) (hlt:d1<a.tmps.size/\d2<a.tmps.size/\d3<a.tmps.size)
 (t:TypeId) (hbuild:∀ρ:Operand->Value,bR ρ (ops.toList.take n) vs->∀w:World,(Instr.buildSlice 136 k (parts.map λ(i,x)=>(i,ρ x))).run Tryz.prog w=.ok (.slice (some ⟨w.heap.size,0,none⟩) rs.length rs.length) (w.alloc (.cells (dN rs).toArray t)))
 (hend:∀(b:Act) (w':World),Below W0.heap.size W0 w'->b.defers=a.defers->b.tmps.size=a.tmps.size->b.tmps[d3]? =some (.int .i64 (aj rs))->(∀t:Nat,(∀o:Oper,o∈ops.toList->o.dst≠some t)->b.tmps[t]? =a.tmps[t]?)->Q .normal b w'):
 (Code.region id ops dr).wp Tryz.prog Q a w:=by
 suffices key:∀(b:Act) (w1:World),Below W0.heap.size W0 w1->b.defers=a.defers->b.tmps.size=a.tmps.size->bR b.eval (ops.toList.take n) vs->(∀t:Nat,(∀o:Oper,o∈ops.toList->o.dst≠some t)->b.tmps[t]? =a.tmps[t]?)->wpOps Tryz.prog ops Q (List.range' n (ops.size-n)) b w1 by
  cases dr
  ·exact gU (Below W0.heap.size W0) n vs hvl (by omega) hd hs hb hS hY key
  ·exact u7 (Below W0.heap.size W0) n vs hvl (by omega) rfl hd hs hb ht hS.drew hY key
 intro b w1 hS1 hbd hbs hD hrest
 rw[show List.range' n (ops.size-n)=[n,n+1,n+2]from by rw[hsz,show n+3-n=3 from by omega];rfl]
 refine jq h1 h1g ?_
 unfold Oper.wp execOp
 rw[h1o]
 simp only[Sem.run_bind,hbuild b.eval hD w1,Result.andThen_ok]
 show wpOps _ ops Q _ (b.put x1.dst _) _
 refine jq h2 h2g ?_
 have hrow:(w1.alloc (.cells (dN rs).toArray t)).heap[w1.heap.size]? =some (.cells (dN rs).toArray t (0,0)):=by unfold World.alloc;simp
 have hS2:Below W0.heap.size W0 (w1.alloc (.cells (dN rs).toArray t)):=hS1.alloc hS1.size _
 obtain⟨w2,hw2⟩:∃w2,w2=w1.alloc (.cells (dN rs).toArray t):=⟨_,rfl⟩
 rw[<-hw2]at hrow hS2⊢
 have hc:=MM w2 w1.heap.size rs.length rs t hrow (Nat.le_refl _) hrs
 have hargs:(#[Operand.tmp d1]:Array Operand).map (b.put x1.dst (.slice (some ⟨w1.heap.size,0,none⟩) rs.length rs.length)).eval=#[.slice (some ⟨w1.heap.size,0,none⟩) rs.length rs.length]:=by
  rw[h1d]
  simp only[List.map_toArray,List.map_cons,List.map_nil]
  rw[eval_put (by omega)]
 have hf:(b.put x1.dst (.slice (some ⟨w1.heap.size,0,none⟩) rs.length rs.length)).eval (Operand.func 63)=.func (.func 63) #[] #[]:=rfl
 unfold Oper.wp
 simp[execOp,h2o,resolve,invoke,hf,hargs,Deferred.ofValue]
 rw[Oper.upon_enter]
 refine hc.mono ?_
 rintro e w3 ⟨rfl,hb3⟩
 refine jq h3 h3g ?_
 unfold Oper.wp execOp
 rw[h3o]
 show wpOps _ ops Q _ (Act.put _ x3.dst _) _
 rw[h1d,xn,Mi,eval_put (by simp[Act.put];omega)]
 refine hend _ _ (hS2.trans (hb3.mono hS2.size)) hbd ?_ ?_ ?_
 ·simp[Act.put,hbs]
 ·simp[Act.put,hbs,hlt.2.2]
 ·intro t ht
  have n1:d1≠t:=λh=>ht x1 (by simpa using Array.mem_of_getElem? h1) (by rw[h1d,h])
  have n2:d2≠t:=λh=>ht x2 (by simpa using Array.mem_of_getElem? h2) (by rw[xn,h])
  have n3:d3≠t:=λh=>ht x3 (by simpa using Array.mem_of_getElem? h3) (by rw[Mi,h])
  rw[<-hrest t ht]
  simp[Act.put,n1,n2,n3]
def dM (w:World)(g:Nat)(ks:List Ps.Link):Prop:=∀(j:Nat) (x:Ps.Link),ks[j]? =some x->w.cell? ⟨g,j*2,none⟩=some (.int .i64 x.type)/\w.cell? ⟨g,j*2+1,none⟩=some (.string x.ref)
theorem dM.below {w w':World}{g:Nat}{ks:List Ps.Link}(h:dM w g ks)(hb:Below w.heap.size w w'):dM w' g ks:=λj x hj=>by
 obtain⟨h1,h2⟩:=h j x hj
 exact⟨(hb.cell (World.block_lt_of_cell? w _ h1)).trans h1,(hb.cell (World.block_lt_of_cell? w _ h2)).trans h2⟩
theorem Ml (w:World)(ty:Int)(s r:ByteArray)(h:Nat)(hc:w.cell? ⟨h,1,none⟩=some (.string r)):
 Calls Tryz.prog 109 #[.agg #[.int .i64 ty,.string s],.pointer (some ⟨h,0,none⟩)] w λe w'=>e=.returned (.bool (s.toList==r.toList))/\Below w.heap.size w w':=by
 have hlt:=World.block_lt_of_cell? w _ hc
 have hne:¬h=w.heap.size:=by simp at hlt;omega
 have k1:(w.alloc (.cells #[.int .i64 ty,.string s] 117)).cell? ⟨h,1,none⟩=some (.string r):=((((Below.refl _ _).alloc (Nat.le_refl _) _:Below w.heap.size w _)).cell hlt).trans hc
 go_enter Tryz.func109,Tryz.ntmps109
 go_wp2_with fail
 go_ret
 exact⟨rfl,(Below.refl _ _).alloc (Nat.le_refl _) _⟩
theorem Bz (W:World)(g h cap n:Nat)(ks:List Ps.Link)(r:ByteArray)(hrow:dM W g ks)(hn:n<=ks.length)(_hc:n<=cap)(hl:n<=1000)(hr:W.cell? ⟨h,1,none⟩=some (.string r))(m:Nat)(hm:m<=n)(hlow:Hid (∀j x,j<m->ks[j]? =some x->(x.ref.toList==r.toList)=false))
 (v:Int) (hv:Hid ((m<n->(∃x,ks[m]? =some x/\(x.ref.toList==r.toList)=true)/\v=(m:Int))/\(m=n->v= -1))):
 Calls Tryz.prog 142 #[.slice (some ⟨g,0,none⟩) n cap,.func (.func 109) #[] #[.pointer (some ⟨h,0,none⟩)]] W λe W'=>e=.returned (.int .i64 v)/\Below W.heap.size W W':=by
 have eg:=enters_of Tryz.func109 (by kernel_rfl) rfl
 have HR:=Lib.hid hrow
 have HC:=Lib.hid hr
 clear hrow hr
 go_enter Tryz.func142,Tryz.ntmps142
 go_wp2_with fail
 go_loopw [5,8] (λ_ iv wr=>∃j:Nat,iv=.int .i64 j/\j<=m/\Hid (Below W.heap.size W wr)) (λ_ iv _=>2000-(RowKit.intOf iv).toNat)
 case atStart=>exact⟨0,rfl,Nat.zero_le _,Lib.hid (Below.refl _ _)⟩
 case round=>
  obtain⟨j,rfl,hj,HB⟩:=hrel
  by_cases hlt:j<n
  ·obtain⟨x,hx⟩:∃x,ks[j]? =some x:=⟨_,List.getElem?_eq_getElem (by omega)⟩
   obtain⟨y0,y1⟩:=(HR.out.below HB.out) j x hx
   have jc:(j:Int)<(n:Int):=by omega
   have m1:=Ml wr x.type x.ref r h ((HB.out.cell (World.block_lt_of_cell? W _ HC.out)).trans HC.out)
   by_cases hjm:j<m
   ·have hbf:=hlow.out j _ hjm hx
    rw[hbf]at m1
    have hw1:wrap64 ((j:Int)+1)=((j+1:Nat):Int):=by unfold wrap64;omega
    clear hx hlow hv hbf
    go_wp2_with ((first|go_at_fn 109|go_at_call 109);refine m1.mono ?_;rintro e w1 ⟨rfl,hb⟩;have HB2:=Lib.hid (HB.out.trans (hb.mono HB.out.size));clear hb)
    refine⟨⟨j+1,by first|rfl|go_num,by omega,HB2⟩,by simp[RowKit.intOf]<;>omega⟩
   ·obtain rfl:j=m:=by omega
    obtain⟨⟨x0,hx0,hbt⟩,hve⟩:=hv.out.1 hlt
    rw[hx]at hx0
    cases hx0
    rw[hbt]at m1
    subst hve
    clear hx hlow hv hbt
    go_wp2_with ((first|go_at_fn 109|go_at_call 109);refine m1.mono ?_;rintro e w1 ⟨rfl,hb⟩;have HB2:=Lib.hid (HB.out.trans (hb.mono HB.out.size));clear hb)
    go_ret
    exact⟨rfl,HB2.out⟩
  ·have hje:j=n:=by omega
   have hve:=hv.out.2 (by omega)
   subst hve
   have jc:¬(j:Int)<(n:Int):=by omega
   clear hlow hv
   go_wp2_with fail
   go_ret
   exact⟨rfl,HB.out⟩
def iD (ks:List Ps.Link)(r:ByteArray):Bool:=ks.any λy=>y.ref.toList==r.toList
theorem pY:∀(ks:List Ps.Link) (r:ByteArray),∃m,m<=ks.length/\(∀(j:Nat) (x:Ps.Link),j<m->ks[j]? =some x->(x.ref.toList==r.toList)=false)/\((m<ks.length/\(∃x,ks[m]? =some x/\(x.ref.toList==r.toList)=true)/\iD ks r=true)\/(m=ks.length/\iD ks r=false))
 |[],r=>⟨0,Nat.le_refl _,λj x h=>by omega,.inr ⟨rfl,rfl⟩⟩
 |y::ks,r=>by
  cases hb:(y.ref.toList==r.toList)with
  |true=>exact⟨0,Nat.zero_le _,λj x h=>by omega,.inl ⟨by simp,⟨y,rfl,hb⟩,by unfold iD;rw[List.any_cons,hb];rfl⟩⟩
  |false=>
   obtain⟨m,h1,h2,h3⟩:=pY ks r
   have he:iD (y::ks) r=iD ks r:=by unfold iD;rw[List.any_cons,hb];rfl
   refine⟨m+1,by simpa using h1,λj x hj hx=>?_,?_⟩
   ·cases j with
    |zero=>simp at hx;rw[<-hx];exact hb
    |succ j=>exact h2 j x (by omega) (by simpa using hx)
   ·rw[he]
    rcases h3 with⟨h4,⟨x,h5,h6⟩,h7⟩|⟨h4,h5⟩
    ·exact .inl ⟨by simpa using h4,⟨x,by simpa using h5,h6⟩,h7⟩
    ·exact .inr ⟨by simpa using h4,h5⟩
theorem qD (W:World)(a b:Value)(v:Int)(c:Bool)(hc:decide (0<=v)=c)
 (n1:Calls Tryz.prog 142 #[a,b] W λe W'=>e=.returned (.int .i64 v)/\Below W.heap.size W W'):
 Calls Tryz.prog 108 #[a,b] W λe W'=>e=.returned (.bool c)/\Below W.heap.size W W':=by
 go_enter Tryz.func108,Tryz.ntmps108
 go_wp2_with fail
 refine n1.mono ?_
 rintro e w ⟨rfl,hb⟩
 have HB:=Lib.hid hb
 clear n1 hb
 go_wp2_with fail
 go_ret
 exact⟨by simp[<-hc],HB.out⟩
theorem AB (W:World)(g h cap:Nat)(ks:List Ps.Link)(r:ByteArray)(k:Nat)(hrow:dM W g ks)(hk:k<=ks.length)(hc:k<=cap)(hl:k<=1000)(hr:W.cell? ⟨h,1,none⟩=some (.string r)):
 Calls Tryz.prog 108 #[.slice (some ⟨g,0,none⟩) k cap,.func (.func 109) #[] #[.pointer (some ⟨h,0,none⟩)]] W λe W'=>e=.returned (.bool (iD (ks.take k) r))/\Below W.heap.size W W':=by
 obtain⟨m,h1,h2,h3⟩:=pY (ks.take k) r
 have hlen:(ks.take k).length=k:=by rw[List.length_take];omega
 rw[hlen]at h1 h3
 have hlow:∀j x,j<m->ks[j]? =some x->(x.ref.toList==r.toList)=false:=λj x hj hx=>h2 j x hj (by rw[List.getElem?_take,if_pos (by omega)];exact hx)
 rcases h3 with⟨h4,⟨x,h5,h6⟩,h7⟩|⟨h4,h5⟩
 ·rw[h7]
  have h5':ks[m]? =some x:=by rw[List.getElem?_take,if_pos h4]at h5;exact h5
  exact qD W _ _ (m:Int) true (by simp) (Bz W g h cap k ks r hrow hk hc hl hr m h1 (Lib.hid hlow) m (Lib.hid ⟨λ_=>⟨⟨x,h5',h6⟩,rfl⟩,λh=>by omega⟩))
 ·rw[h5]
  exact qD W _ _ (-1) false (by decide) (Bz W g h cap k ks r hrow hk hc hl hr m h1 (Lib.hid hlow) (-1) (Lib.hid ⟨λh=>by omega,λ_=>rfl⟩))
theorem uB (cl:List (Nat×(Int->Bool)))(hcl:Kg cl)(g cap:Nat)(a:Int)(s:ByteArray)(w:World)(hn:cl.length<=1024)(_ha0:0<=a)(_ha1:a<=64)
 (hc:∀(k:Nat) x,cl[k]? =some x->w.cell? ⟨g,k,none⟩=some (.func (.func x.1) #[] #[])):
 Calls Tryz.prog 140 #[.slice (some ⟨g,0,none⟩) cl.length cap,.int .i64 a,.string s] w λe w'=>(∃t:Int,e=.returned (.tuple #[.int .i64 t,.int .i64 (bq (cl.map (·.2)) a s)]))/\w=w':=by
 have HC:=Lib.hid hc
 have HT:=Lib.hid hcl
 clear hc hcl
 have hb:=PlainAid.get_bt s
 go_enter Tryz.func140,Tryz.ntmps140
 go_wp2_with fail
 go_loop [12] (λi=>∃k:Nat,k<=cl.length/\i=.int .i64 k/\∀j,j<k->kS (cl.map (·.2)) s j=false) (λi=>cl.length-(RowKit.intOf i).toNat)
 case atStart=>exact⟨0,Nat.zero_le _,rfl,λj hj=>by omega⟩
 case round=>
  obtain⟨k,hk,rfl,lq⟩:=hrel
  have HP:=Lib.hid lq
  clear lq
  by_cases hlt:k<cl.length
  ·have hget:cl[k]? =some cl[k]:=List.getElem?_eq_getElem hlt
   have hcell:=HC.out k _ hget
   obtain⟨eg,hp⟩:=HT.out cl[k] (List.getElem_mem hlt)
   have HBAD:Hid (kS (cl.map (·.2)) s k=(decide (k<s.size)&&!(cl[k].2 (PlainAid.bt s k)))):=by
    show _=_
    unfold kS
    rw[List.getD_eq_getElem?_getD,List.getElem?_map,hget]
    rfl
   clear hget
   generalize cl[k]=x at *
   obtain⟨f,p⟩:=x
   simp only at hcell eg hp HBAD
   by_cases hks:k<s.size
   ·have hcall:=λW=>hp (PlainAid.bt s k) W (PlainAid.bt_nonneg s k) (by have:=PlainAid.bt_le s k;omega)
    clear hp
    cases hq:p (PlainAid.bt s k)with
    |true=>
     rw[hq]at hcall HBAD
     clear hq
     go_wp2_with (go_at_fn f;refine(hcall _).mono ?_;rintro e w' ⟨rfl,rfl⟩)
     go_round
     case rel=>
      refine⟨k+1,by omega,by go_num,λj hj=>?_⟩
      by_cases e:j=k
      ·subst e;rw[HBAD.out];simp
      ·exact HP.out j (by omega)
     case measure=>simp[RowKit.intOf];omega
    |false=>
     rw[hq]at hcall HBAD
     clear hq
     go_wp2_with (go_at_fn f;refine(hcall _).mono ?_;rintro e w' ⟨rfl,rfl⟩)
     go_ret2
     have h3:bq (cl.map (·.2)) a s=3:=by
      unfold bq
      rw[if_pos]
      rw[List.any_eq_true]
      exact⟨k,by simpa using hlt,by rw[HBAD.out];simpa using hks⟩
     rw[h3]
     exact⟨⟨_,rfl⟩,rfl⟩
   ·clear hp
    go_wp2_with fail
    go_round
    case rel=>
     refine⟨k+1,by omega,by go_num,λj hj=>?_⟩
     by_cases e:j=k
     ·subst e;rw[HBAD.out];simp[hks]
     ·exact HP.out j (by omega)
    case measure=>simp[RowKit.intOf];omega
  ·obtain rfl:k=cl.length:=by omega
   have HF:Hid (bq (cl.map (·.2)) a s=if (s.size:Int)<a then 4 else if cl.length<s.size then 5 else 0):=by
    show _=_
    unfold bq
    rw[if_neg]
    ·simp
    ·rw[List.any_eq_true]
     rintro⟨j,hj,hj2⟩
     rw[HP.out j (by simpa using hj)]at hj2
     exact absurd hj2 (by simp)
   clear hb
   by_cases h4:(s.size:Int)<a
   ·go_wp2_with fail
    go_ret2
    rw[HF.out,if_pos h4]
    exact⟨⟨_,rfl⟩,rfl⟩
   ·by_cases h5:cl.length<s.size
    ·go_wp2_with fail
     go_ret2
     rw[HF.out,if_neg (by omega),if_pos h5]
     exact⟨⟨_,rfl⟩,rfl⟩
    ·go_wp2_with fail
     go_ret2
     rw[HF.out,if_neg (by omega),if_neg (by omega)]
     exact⟨⟨_,rfl⟩,rfl⟩
theorem nT (k:Nat)(hk:k<4)(hnil:(aV k).chk=.nilFunc)(s:ByteArray)(w:World)(h:jv w):
 Calls Tryz.prog 101 #[.int .i64 k,.string s] w λe w'=>(∃t:Int,e=.returned (.tuple #[.int .i64 t,.int .i64 (bC k s)]))/\Below w.heap.size w w':=by
 obtain⟨sb,so,sc,c0,c1,c2,c3,hsp⟩:=h k hk
 rw[hnil]at c3
 obtain⟨hl1,hl2⟩:=mf k
 have hk4:(k:Int)<4:=by omega
 have htot:(bX (aV k).sp).length<=20:=by rw[gZ k hk,List.length_map];exact fQ k
 have HCL:=Lib.hid (λ(a b:Int) (chk:Value) (W:World) (hW:dP W sb so (aV k).sp)=>kH a b chk sb so sc (aV k).sp W hW (by omega) (by omega) (λx hx=>by have:=hl2 x hx;omega))
 have HPF:=Lib.hid (λ(g cap:Nat) (W:World) (hW:∀(j:Nat) x,(bZ k)[j]? =some x->W.cell? ⟨g,j,none⟩=some (.func (.func x.1) #[] #[]))=>
  uB (bZ k) (mo k) g cap (aV k).low s W (by have:=fQ k;omega) (lL k).1 (by have:=(lL k).2;omega) hW)
 have Ka:Hid (∀o,dP (w.alloc o) sb so (aV k).sp):=Lib.hid λo=>hsp.below ((Below.refl _ w).alloc (Nat.le_refl _) o)
 have HFM:=Lib.hid (λ(W:World) (v:Value) (B:Nat)=>tO (W:=W) (B:=B) (v:=v) hk)
 have C8:Hid (bC k s=bq ((bZ k).map (·.2)) (aV k).low s):=rfl
 clear hsp hnil hl1 hl2 htot h
 generalize (aV k).low=low at *
 generalize (aV k).body=body at *
 generalize (aV k).sp=sp at *
 go_enter Tryz.func101,Tryz.ntmps101
 go_wp2_with fail
 go_region_held3 (λw'=>w'.cell? ⟨w.heap.size,0,none⟩=some (.int .i64 low)/\w'.cell? ⟨w.heap.size,1,none⟩=some (.slice (some ⟨sb,so,none⟩) sp.length sc)/\w'.cell? ⟨w.heap.size,2,none⟩=some (.int .i64 body)/\w'.cell? ⟨w.heap.size,3,none⟩=some .nilFunc)
  (go_keep)
  (first
   |(go_at_call 141;refine(HCL.out _ _ _ _ ?_).mono ?_;(exact Ka.out _);rintro e w1 ⟨v,rfl,hown,hb1⟩;obtain⟨g,cap,rfl,hg⟩:=HFM.out _ _ _ hown;have k0:=(hb1.cell (p:=⟨w.heap.size,0,none⟩) (by simp)).trans (show _=some (Value.int .i64 low)by simp);have k1:=(hb1.cell (p:=⟨w.heap.size,1,none⟩) (by simp)).trans (show _=some (Value.slice (some ⟨sb,so,none⟩) sp.length sc)by simp);have k2:=(hb1.cell (p:=⟨w.heap.size,2,none⟩) (by simp)).trans (show _=some (Value.int .i64 body)by simp);have k3:=(hb1.cell (p:=⟨w.heap.size,3,none⟩) (by simp)).trans (show _=some Value.nilFunc by simp);have HG:=Lib.hid hg;clear hg)
   |(go_at_call 140;refine(HPF.out _ _ _ ?_).mono ?_;(exact HG.out);rintro e w2 ⟨⟨t,rfl⟩,rfl⟩))
 rw[<-C8.out]
 obtain⟨fit,HF⟩:∃fit:Int,Hid (bC k s=fit):=⟨_,Lib.hid rfl⟩
 rw[HF.out]
 have iT:Below w.heap.size w w1:=Below.trans (((Below.refl w.heap.size w).alloc (Nat.le_refl _) _).drew) (hb1.mono (B':=w.heap.size) (by simp))
 clear hb1
 by_cases hfit:fit=0
 ·subst hfit
  go_wp2_with fail
  go_quiet (fail)
  go_wp2_with fail
  go_ret2
  exact⟨⟨_,by rw[HF.out];rfl⟩,by first|assumption|exact below_drewN' (by assumption) _⟩
 ·have hbf:(fit !=0)=true:=by simpa using hfit
  clear hfit
  go_wp2_with fail
  go_ret2
  exact⟨⟨_,by rw[HF.out];rfl⟩,iT⟩
theorem vY (k:Nat)(hk:k<4)(cf bn:Nat)(sQ:(aV k).chk=.func (.func cf) #[] #[])(hbn:(aV k).body=(bn:Int))(_hbn2:bn<=64)(s:ByteArray)(w:World)(h:jv w)(R:ByteArray)(code:Int)(hcode:Hid (code=if bC k s≠0 then bC k s else if (R.toList==(s.extract bn s.size).toList)=true then 0 else 18))
 (ec:∀args w,(callFunc cf args).run Tryz.prog w=.ok (.enter cf args) w)
 (hck:bC k s=0->bn<=s.size/\∀W,Calls Tryz.prog cf #[.string (s.extract 0 bn)] W λe w'=>e=.returned (.string R)/\Below W.heap.size W w'):
 Calls Tryz.prog 101 #[.int .i64 k,.string s] w λe w'=>(∃t:Int,e=.returned (.tuple #[.int .i64 t,.int .i64 code]))/\Below w.heap.size w w':=by
 obtain⟨sb,so,sc,c0,c1,c2,c3,hsp⟩:=h k hk
 rw[sQ]at c3
 rw[hbn]at c2
 obtain⟨hl1,hl2⟩:=mf k
 have hk4:(k:Int)<4:=by omega
 have htot:(bX (aV k).sp).length<=20:=by rw[gZ k hk,List.length_map];exact fQ k
 have HCL:=Lib.hid (λ(a b:Int) (chk:Value) (W:World) (hW:dP W sb so (aV k).sp)=>kH a b chk sb so sc (aV k).sp W hW (by omega) (by omega) (λx hx=>by have:=hl2 x hx;omega))
 have HPF:=Lib.hid (λ(g cap:Nat) (W:World) (hW:∀(j:Nat) x,(bZ k)[j]? =some x->W.cell? ⟨g,j,none⟩=some (.func (.func x.1) #[] #[]))=>
  uB (bZ k) (mo k) g cap (aV k).low s W (by have:=fQ k;omega) (lL k).1 (by have:=(lL k).2;omega) hW)
 have Ka:Hid (∀o,dP (w.alloc o) sb so (aV k).sp):=Lib.hid λo=>hsp.below ((Below.refl _ w).alloc (Nat.le_refl _) o)
 have HFM:=Lib.hid (λ(W:World) (v:Value) (B:Nat)=>tO (W:=W) (B:=B) (v:=v) hk)
 have C8:Hid (bC k s=bq ((bZ k).map (·.2)) (aV k).low s):=rfl
 have HCK:=Lib.hid hck
 clear hsp sQ hl1 hl2 htot h hck
 generalize (aV k).low=low at *
 generalize (aV k).body=body at *
 generalize (aV k).sp=sp at *
 subst hbn
 go_enter Tryz.func101,Tryz.ntmps101
 go_wp2_with fail
 go_region_held3 (λw'=>w'.cell? ⟨w.heap.size,0,none⟩=some (.int .i64 low)/\w'.cell? ⟨w.heap.size,1,none⟩=some (.slice (some ⟨sb,so,none⟩) sp.length sc)/\w'.cell? ⟨w.heap.size,2,none⟩=some (.int .i64 bn)/\w'.cell? ⟨w.heap.size,3,none⟩=some (.func (.func cf) #[] #[]))
  (go_keep)
  (first
   |(go_at_call 141;refine(HCL.out _ _ _ _ ?_).mono ?_;(exact Ka.out _);rintro e w1 ⟨v,rfl,hown,hb1⟩;obtain⟨g,cap,rfl,hg⟩:=HFM.out _ _ _ hown;have k0:=(hb1.cell (p:=⟨w.heap.size,0,none⟩) (by simp)).trans (show _=some (Value.int .i64 low)by simp);have k1:=(hb1.cell (p:=⟨w.heap.size,1,none⟩) (by simp)).trans (show _=some (Value.slice (some ⟨sb,so,none⟩) sp.length sc)by simp);have k2:=(hb1.cell (p:=⟨w.heap.size,2,none⟩) (by simp)).trans (show _=some (Value.int .i64 bn)by simp);have k3:=(hb1.cell (p:=⟨w.heap.size,3,none⟩) (by simp)).trans (show _=some (Value.func (.func cf) #[] #[])by simp);have HG:=Lib.hid hg;clear hg)
   |(go_at_call 140;refine(HPF.out _ _ _ ?_).mono ?_;(exact HG.out);rintro e w2 ⟨⟨t,rfl⟩,rfl⟩))
 rw[<-C8.out]
 obtain⟨fit,HF⟩:∃fit:Int,Hid (bC k s=fit):=⟨_,Lib.hid rfl⟩
 rw[HF.out]
 have iT:Below w.heap.size w w1:=Below.trans (((Below.refl w.heap.size w).alloc (Nat.le_refl _) _).drew) (hb1.mono (B':=w.heap.size) (by simp))
 have hsz1:w.heap.size<w1.heap.size:=by have:=hb1.size;simp at this;omega
 clear hb1
 by_cases hfit:fit=0
 ·subst hfit
  obtain⟨hbs,hck⟩:=HCK.out HF.out
  have HCK2:=Lib.hid hck
  clear hck
  have hbs0:(bn:Int)<=(s.size:Int):=by omega
  go_wp2_with fail
  go_region_held3 (λw'=>Below w.heap.size w w'/\w.heap.size<w'.heap.size/\w'.cell? ⟨w.heap.size,2,none⟩=some (.int .i64 bn)/\w'.cell? ⟨w.heap.size,3,none⟩=some (.func (.func cf) #[] #[]))
   (first|assumption|exact Below.drew (by assumption)|(refine⟨?_,?_,?_,?_⟩<;>first|assumption|exact Below.drew (by assumption)|go_keep)|go_keep)
   (first
    |(go_at_fn cf;refine(HCK2.out _).mono ?_;rintro e w3 ⟨rfl,hb3⟩;have JS:=xI (by assumption) hb3))
  obtain⟨hb4,hsz4,k4,k5⟩:=JS
  clear hb3
  generalize hq:(R.toList==(s.extract bn s.size).toList)=q
  have HQ:Hid (code=if q=true then 0 else 18):=Lib.hid (by rw[hcode.out,HF.out,if_neg (by simp),hq])
  clear hq
  cases q with
  |true=>
   go_wp2_with fail
   go_ret2
   rw[HQ.out]
   exact⟨⟨_,rfl⟩,hb4⟩
  |false=>
   go_wp2_with fail
   go_ret2
   rw[HQ.out]
   exact⟨⟨_,rfl⟩,hb4⟩
 ·have hbf:(fit !=0)=true:=by simpa using hfit
  have HNE:=Lib.hid hfit
  clear hfit
  go_wp2_with fail
  go_ret2
  rw[hcode.out,HF.out,if_pos HNE.out]
  exact⟨⟨_,rfl⟩,iT⟩
theorem CY (k:Nat)(hk:k<3)(s:ByteArray)(w:World)(h:jv w):
 Calls Tryz.prog 101 #[.int .i64 k,.string s] w λe w'=>(∃t:Int,e=.returned (.tuple #[.int .i64 t,.int .i64 (aY k s)]))/\Below w.heap.size w w':=by
 match k,hk with
 |0,_=>
  refine vY 0 (by decide) 259 11 rfl rfl (by omega) s w h ⟨(Id.EN (s.data.toList.take 11)).toArray⟩ (aY 0 s) (Lib.hid ?_) (enters_of Tryz.func259 (by kernel_rfl) rfl) (λh0=>⟨?_,λW=>(FM _ W ?_ (jR 0 (Or.inl rfl) s 11 h0)).mono ?_⟩)
  ·unfold aY
   rw[toList_mk,oC]
   simp only[if_pos,beq_iff_eq]
  ·have:=(iI 0 s h0).1
   simp[aV]at this;omega
  ·simp[ByteArray.size_extract];omega
  ·rintro e w' ⟨rfl,hb⟩
   rw[extract_upto]
   exact⟨rfl,hb⟩
 |1,_=>
  have e1:aY 1 s=bC 1 s:=by unfold aY;split<;>simp_all
  rw[e1]
  exact nT 1 (by decide) rfl s w h
 |2,_=>
  have e1:aY 2 s=bC 2 s:=by unfold aY;split<;>simp_all
  rw[e1]
  exact nT 2 (by decide) rfl s w h
theorem Dw (k:Nat)(hk:k<3)(s:ByteArray)(w:World)(h:jv w):
 Calls Tryz.prog 65 #[.int .i64 k,.string s] w λe w'=>e=.returned (.bool (aY k s==0))/\Below w.heap.size w w':=
 vI k s w _ _ rfl (CY k hk s w h)
end Go.Proofs.YthijakidnkhbnaaGreatDoor
namespace Go.Proofs.YthijakidnkhbnaaGreatDoor.Ev
open Go Go.RowKit Go.Proofs.YthijakidnkhbnaaGreatDoor Go.Proofs.YthijakidnkhbnaaGreatDoor.Ord
variable {σ : Type}
def uq (rs:List (Ent σ)):List (Nat×Operand)->Option (List (Nat×AV))
 |[]=>some []
 |(i,.tmp t)::l=>match find t rs 0,uq rs l with
  |some (_,e),some vs=>(match e.cond with
   |none=>some ((i,e.val)::vs)
   |some _=>none)
  |_,_=>none
 |_=>none
theorem JO {M:Mem σ}{ρ:Operand->Value}{full:List (Ent σ)}(hR:∀(i:Nat) (e:Ent σ) (d:Nat),full[i]? =some e->e.dst=some d->ρ (.tmp d)=e.value M):∀{l:List (Nat×Operand)} {vs:List (Nat×AV)},uq full l=some vs->l.map (λp=>(p.1,ρ p.2))=vs.map λp=>(p.1,p.2.val M):=by
 intro l
 induction l with
 |nil=>intro vs h;cases h;rfl
 |cons p l ih=>
  obtain⟨i,x⟩:=p
  intro vs h
  cases x with
  |tmp t=>
   unfold uq at h
   split at h
   ·rename_i j e v2 h1 h2
    split at h
    ·rename_i hc
     cases h
     obtain⟨-,k1,k2⟩:=mU h1
     rw[List.map_cons,List.map_cons,ih h2,hR _ _ _ k1 k2]
     unfold Ent.value
     rw[hc]
    ·cases h
   ·cases h
  |_=>cases h
theorem MN (ρ:Operand->Value)(x y:Operand)(b:Bool)(n:Int)(hx:ρ x=.bool b)(hy:ρ y=.int .i64 n)(w:World):(Instr.build 110 (#[(0,x),(1,y)].map λ(i,x)=>(i,ρ x))).run Tryz.prog w=.ok (.agg #[.bool b,.int .i64 n]) w:=by
 simp only[List.map_toArray,List.map_cons,List.map_nil,hx,hy]
 go_simp
def pX (M:AV->Value)(o:Oper)(ov:Operand->Option AV):Option AV:=match o.op with
 | .build t ps=>if t=110 then(match ps.toList with
   |[(0,x),(1,y)]=>(match ov x,ov y with
    |some a,some c=>(match M a,M c with
     | .bool b,.int .i64 n=>some (.v (.agg #[.bool b,.int .i64 n]))
     |_,_=>none)
    |_,_=>none)
   |_=>none)else none
 |_=>none
theorem oP {M:AV->Value}{o:Oper}{ov:Operand->Option AV}{v:AV}(h:pX M o ov=some v){ρ:Operand->Value}(hov:∀x u,ov x=some u->ρ x=M u)(hM:∀x,M (.v x)=x)(w:World):(execOp ρ o).run Tryz.prog w=.ok (.value (M v)) w:=by
 unfold pX at h
 split at h
 ·rename_i t ps ho
  split at h
  ·rename_i ht
   subst ht
   split at h
   ·rename_i x y hps
    split at h
    ·rename_i a c ha hc
     split at h
     ·rename_i b n hb hn
      cases h
      have Jy:ps=#[(0,x),(1,y)]:=by rw[<-Array.toArray_toList (xs:=ps),hps]
      subst Jy
      have:=MN ρ x y b n ((hov _ _ ha).trans hb) ((hov _ _ hc).trans hn) w
      unfold execOp
      simp only[ho,Sem.run_bind,this,Result.andThen_ok,hM]
      rfl
     ·cases h
    ·cases h
   ·cases h
  ·cases h
 ·cases h
theorem Bw (W:World)(rs:List (Bool×Int))(P:Array (Nat×Value))(h24:¬(rs.length*2>2^24))(hne:¬(rs.length*2=0))(jP:Instr.fill (λi=>some (i*2,2)) ((Array.range (rs.length*2)).map (λx=>([.bool false,.int .i64 0]:List Value)[x%2]?.getD default)) P.toList=some (dN rs).toArray):
 (Instr.buildSlice 136 rs.length P).run Tryz.prog W=.ok (.slice (some ⟨W.heap.size,0,none⟩) rs.length rs.length) (W.alloc (.cells (dN rs).toArray 110)):=by
 unfold Instr.buildSlice
 go_simp
def tL (m n:Nat)(ops:Array Oper):Bool:=eF ops&&Region.noSelect ops&&bV ops m&&qy ops n&&ops.size==n+3
def lw (ops:Array Oper)(n:Nat):Option (Nat×List (Nat×Operand)×Nat×Nat×Nat):=match (ops.toList.drop n)with
 |[⟨some d1,.buildSlice t k ps,_,_,_,none⟩,⟨some d2,.call ⟨.value (.func f),xs,_⟩,_,_,_,none⟩,⟨some d3,.assign (.tmp e2),_,_,_,none⟩]=>if t=136/\f=63/\e2=d2/\xs.toList.length=1 then(match xs.toList with
    |[.tmp e1]=>if e1=d1 then some (k,ps.toList,d1,d2,d3)else none
    |_=>none)else none
 |_=>none
theorem GN {dr:Bool}{W0 w:World}{id m n:Nat}{ops:Array Oper}{M:Mem Unit}{K:List (Nat×AV)}{full:List (Ent Unit)}{a:Act}{Q:Exit->Act->World->Prop}{k d1 d2 d3:Nat}{ps:List (Nat×Operand)}{pv:List (Nat×AV)}(rs:List (Bool×Int))(hO:Ok Tryz.prog (λ_ W=>Below W0.heap.size W0 W) M)(hok:tL m n ops=true)(hrun:run M (keep K ops) [] () (ops.toList.take n)=some full)(hturn:full.all (λe=>!e.turn)=true)(hF:Fr M m K a)(hS:Below W0.heap.size W0 w)
 (hr0:0<rs.length) (hrs:rs.length<=1000) (he:lw ops n=some (k,ps,d1,d2,d3)) (hp:uq full ps=some pv) (hk:k=rs.length) (jP:Instr.fill (λi=>some (i*2,2)) ((Array.range (k*2)).map (λx=>([.bool false,.int .i64 0]:List Value)[x%2]?.getD default)) (pv.map λp=>(p.1,p.2.val M))=some (dN rs).toArray)
 (hend:∀(b:Act) (w':World),Below W0.heap.size W0 w'->Fr M m ((d3,.v (.int .i64 (aj rs)))::keep K ops) b->Q .normal b w'):(Code.region id ops dr).wp Tryz.prog Q a w:=by
 unfold tL at hok
 simp only[Bool.and_eq_true,beq_iff_eq]at hok
 obtain⟨⟨⟨⟨hd,hs⟩,hb⟩,ht⟩,hsz⟩:=hok
 obtain⟨tl,e1,e2⟩:=gV hrun
 have hI:=sj tN hrun
 have hlen:full.length=n:=by rw[e1];simp[e2];omega
 unfold lw at he
 split at he
 ·rename_i d1' t k' ps' _ _ _ d2' f xs _ _ _ _ d3' e2' _ _ _ hdrop
  split at he
  ·rename_i hc
   obtain⟨rfl,rfl,rfl,-⟩:=hc
   split at he
   ·rename_i e1' hxs
    split at he
    ·rename_i hc1
     subst hc1
     cases he
     have hxs2:xs=#[.tmp d1]:=by rw[<-Array.toArray_toList (xs:=xs),hxs]
     subst hxs2
     have g1:∀i,ops[n+i]? =(ops.toList.drop n)[i]?:=λi=>by simp
     have h1:=g1 0
     have h2:=g1 1
     have h3:=g1 2
     rw[hdrop]at h1 h2 h3
     have hlt:∀(i:Nat) (o:Oper) (d:Nat),ops[i]? =some o->o.dst=some d->d<a.tmps.size:=λi o d ho hod=>by
      simp only[bV,Bool.and_eq_true]at hb
      have:=List.all_eq_true.1 hb.1 o (by simpa using Array.mem_of_getElem? ho)
      rw[hod]at this
      rw[hF.size]
      simpa using this
     refine LC (W0:=W0) n (full.map (Ent.value M)) (by rw[List.length_map,hlen]) hd hs (by rw[hF.size];exact hb) ht hS ?_ rs hrs hsz (by simpa using h1) rfl rfl rfl h2 rfl rfl rfl h3 rfl rfl rfl ⟨hlt _ _ _ h1 rfl,hlt _ _ _ h2 rfl,hlt _ _ _ h3 rfl⟩ 110 ?_ ?_
     ·intro ρ hD hrest hco hfu
      have:=ML hO (D5 hF hrun hD hrest hco hfu) hI (λe he=>by have:=List.all_eq_true.1 hturn e he;simpa using this) () hrun
      simpa using this
     ·intro ρ hD W
      have hparts:(ps'.map λ(i,x)=>(i,ρ x)).toList=pv.map λp=>(p.1,p.2.val M):=by
       rw[<-JO (M:=M) (ρ:=ρ) (full:=full) (λi e d hi hd=>by
        have hil:i<(ops.toList.take n).length:=by
         have h7:=(List.getElem?_eq_some_iff.1 hi).1
         rw[e1]at h7
         simp only[List.nil_append,e2]at h7
         exact h7
        obtain⟨o,ho⟩:∃o,(ops.toList.take n)[i]? =some o:=⟨_,List.getElem?_eq_getElem hil⟩
        obtain⟨e5,k1,k2⟩:=tQ hrun i o ho
        have:e5=e:=by
         have k3:full[i]? =some e5:=by simpa using k1
         exact Option.some.inj (k3.symm.trans hi)
        subst this
        exact bR.tmp i o (e5.value M) d hD ho (by rw[List.getElem?_map,hi];rfl) (k2.symm.trans hd)) hp]
       rw[Array.toList_map]
      rw[<-hparts]at jP
      generalize (ps'.map λ(i,x)=>(i,ρ x))=P at jP⊢
      clear hend hD hparts hp
      rw[hk]at jP⊢
      have h24:¬(rs.length*2>2^24):=by rw[show(2:Nat)^24=16777216 from by decide];omega
      have hne:¬(rs.length*2=0):=by omega
      exact Bw W rs P h24 hne jP
     ·intro b w' hB hbd hbs h3 hrest
      exact hend b w' hB ⟨hbs.trans hF.size,hbd.trans hF.defers,λt u hl=>by
       unfold Ev.look at hl
       split at hl
       ·rename_i e;subst e;cases hl;exact h3
       ·obtain⟨j1,j2⟩:=gQ hl
        rw[hrest t j2]
        exact hF.look t u j1⟩
    ·cases he
   ·cases he
  ·cases he
 ·cases he
def CL (M:Mem Unit)(K:List (Nat×AV))(n:Nat)(ops:Array Oper):Option (Array Value):=match run M K [] () (ops.toList.take n),lw ops n with
 |some full,some (k,ps,_)=>if full.all (λe=>!e.turn)=true then(match uq full ps with
  |some pv=>Instr.fill (λi=>some (i*2,2)) ((Array.range (k*2)).map (λx=>([.bool false,.int .i64 0]:List Value)[x%2]?.getD default)) (pv.map λp=>(p.1,p.2.val M))
  |none=>none)else none
 |_,_=>none
theorem mq {dr:Bool}{W0 w:World}{id m:Nat}{ops:Array Oper}{M:Mem Unit}{K:List (Nat×AV)}{a:Act}{Q:Exit->Act->World->Prop}(n d3:Nat)(rs:List (Bool×Int))(hO:Ok Tryz.prog (λ_ W=>Below W0.heap.size W0 W) M)(hok:tL m n ops=true)(hF:Fr M m K a)(hS:Below W0.heap.size W0 w)
 (hr0:0<rs.length) (hrs:rs.length<=1000) (hk:(lw ops n).map (λe=>(e.1,e.2.2.2.2))=some (rs.length,d3)) (jP:CL M (keep K ops) n ops=some (dN rs).toArray)
 (hend:∀(b:Act) (w':World),Below W0.heap.size W0 w'->Fr M m ((d3,.v (.int .i64 (aj rs)))::keep K ops) b->Q .normal b w'):(Code.region id ops dr).wp Tryz.prog Q a w:=by
 unfold CL at jP
 split at jP
 ·rename_i full k ps dd hrun he
  obtain⟨d1,d2,d3'⟩:=dd
  split at jP
  ·rename_i ht
   split at jP
   ·rename_i pv hp
    rw[he]at hk
    have hk2:(k,d3')=(rs.length,d3):=by simpa using hk
    obtain⟨rfl,rfl⟩:=Prod.mk.inj hk2
    exact GN rs hO hok hrun ht hF hS hr0 hrs he hp rfl jP hend
   ·cases jP
  ·cases jP
 ·cases jP
def sw:List Value->Option (List (Bool×Int))
 |[]=>some []
 | .bool b::.int .i64 n::l=>(match sw l with
   |some rs=>some ((b,n)::rs)
   |none=>none)
 |_=>none
theorem uQ:∀{l:List Value} {rs:List (Bool×Int)},sw l=some rs->l=dN rs
 |[],rs,h=>by cases h;rfl
 | .bool b::.int .i64 n::l,rs,h=>by
   unfold sw at h
   split at h
   ·rename_i rs2 h2
    cases h
    rw[uQ h2]
    rfl
   ·cases h
def iF (M:Mem Unit)(s:Unit)(K:List (Nat×AV))(ops:Array Oper)(_dr:Bool):Option (Unit×List (Nat×AV)):=if qy ops (ops.size-3)=true/\3<=ops.size then(match CL M (keep K ops) (ops.size-3) ops,lw ops (ops.size-3)with
    |some c,some (k,_,_,_,d3)=>(match sw c.toList with
     |some rs=>if k=rs.length/\0<k/\k<=1000 then some (s,[(d3,.v (.int .i64 (aj rs)))])else none
     |none=>none)
    |_,_=>none)else none
theorem CX {W0:World}{M:Mem Unit}(hO:Ok Tryz.prog (λ_ W=>Below W0.heap.size W0 W) M):kR (λ_ W=>Below W0.heap.size W0 W) {M with reg:=iF M}:=by
 intro s K ops dr s' nw h n id a w Q hok hF hS hend
 have h2:iF M s K ops dr=some (s',nw):=h
 unfold iF at h2
 split at h2
 ·rename_i ht
  split at h2
  ·rename_i c k ps d1 d2 d3 hf he
   split at h2
   ·rename_i rs hrs
    split at h2
    ·rename_i hk
     obtain⟨rfl,hk2,hk3⟩:=hk
     cases h2
     unfold gF at hok
     simp only[Bool.and_eq_true]at hok
     refine mq (W0:=W0) (M:=M) (m:=n) (ops.size-3) d3 rs hO (by unfold tL;simp only[Bool.and_eq_true,beq_iff_eq];exact⟨⟨⟨hok.1,hok.2⟩,ht.1⟩,by omega⟩) ⟨hF.size,hF.defers,hF.look⟩ hS hk2 hk3 (by rw[he];rfl) (by rw[hf,<-uQ hrs]) λb w' hB hb=>hend b w' ⟨hb.size,hb.defers,hb.look⟩ hB
    ·cases h2
   ·cases h2
  ·cases h2
 ·cases h2
theorem Jl {W0:World}{M:Mem Unit}{n:Nat}{code:Code}{K:List (Nat×AV)}{v:Int}{Q:Exit->Act->World->Prop}{a:Act}{w:World}(r:Nat)(hO:Ok Tryz.prog (λ_ W=>Below W0.heap.size W0 W) M)(h:(ex {M with reg:=iF M} n code K ()).int {M with reg:=iF M} r 0=some v)(hl:((ex {M with reg:=iF M} n code K ()).stops [] []).map (rz [])=[])(hF:Fr M n K a)(hS:Below W0.heap.size W0 w)
 (hq:∀a w,a.defers=[]->a.tmps[r]? =some (.int .i64 v)->Below W0.heap.size W0 w->Q .ret a w):code.wp Tryz.prog Q a w:=by
 have hO2:Ok Tryz.prog (λ_ W=>Below W0.heap.size W0 W) {M with reg:=iF M}:=⟨hO.offs,hO.load,hO.store,hO.call,hO.other⟩
 refine uK (M:={M with reg:=iF M}) (s:=()) hO2 (CX hO) (λ_ _ h=>h.drew) (wW (M:={M with reg:=iF M}) (ts:=[]) (cs:=[]) (hv:=0) h (λc hc=>by cases hc) (λa w _ h1 h2 h3=>hq a w h1 h2 h3) λhe x hx hc a w hst hs=>?_) ⟨hF.size,hF.defers,hF.look⟩ hS
 have hm:rz [] x∈([]:List _):=by rw[<-hl];exact List.mem_map_of_mem hx
 cases hm
end Go.Proofs.YthijakidnkhbnaaGreatDoor.Ev
namespace Go.Proofs.YthijakidnkhbnaaGreatDoor
open Go.RowKit
open Go.Proofs.YthijakidnkhbnaaGreatDoor.Ord
def oW (w:World)(g:Nat)(i:Ps.Ins)(lv:Value):Prop:=w.heap[g]? =some (.cells (aB i lv).toArray 25 (0,0))
theorem oW.at {w:World}{g:Nat}{i:Ps.Ins}{lv:Value}(h:oW w g i lv)(j:Nat)(v:Value)(hj:(aB i lv)[j]? =some v):w.cell? ⟨g,j,none⟩=some v:=by
 rw[cell_of_row _ _ _ _ _ _ h,List.getElem?_toArray,hj]
theorem kI (w:World)(i:Ps.Ins)(lv:Value):oW (w.alloc (.cells (aB i lv).toArray 25)) w.heap.size i lv:=aD w _
theorem is_col (w:World)(i:Ps.Ins)(lv:Value)(c1 c2:Bool)(h1:(i.kind==3)=c1)(h2:(i.kind==4)=c2):
 Calls Tryz.prog 102 #[.agg (aB i lv).toArray] w λe w'=>e=.returned (.bool (c1||c2))/\Below w.heap.size w w':=by
 go_enter Tryz.func102,Tryz.ntmps102
 go_upto_region 1 with fail
 obtain⟨W1,hW1⟩:∃W1,W1=w.alloc (.cells (aB i lv).toArray 25):=⟨_,rfl⟩
 have hrow:oW W1 w.heap.size i lv:=by rw[hW1];exact kI w i lv
 have HB:Hid (Below w.heap.size w W1):=Lib.hid (by rw[hW1];exact(Below.refl _ _).alloc (Nat.le_refl _) _)
 rw[<-hW1]
 clear hW1
 obtain⟨g,hg⟩:∃g,g=w.heap.size:=⟨_,rfl⟩
 rw[<-hg]at hrow⊢
 clear hg
 have k1:=hrow.at 1 _ rfl
 clear hrow
 cases c1
 all_goals cases c2
 all_goals
  go_wp2_with fail
  go_ret
  exact⟨rfl,HB.out⟩
theorem is_sec (w:World)(i:Ps.Ins)(lv:Value)(c1 c2:Bool)(h1:(i.kind==1)=c1)(h2:(i.kind==2)=c2):
 Calls Tryz.prog 103 #[.agg (aB i lv).toArray] w λe w'=>e=.returned (.bool (c1||c2))/\Below w.heap.size w w':=by
 go_enter Tryz.func103,Tryz.ntmps103
 go_upto_region 1 with fail
 obtain⟨W1,hW1⟩:∃W1,W1=w.alloc (.cells (aB i lv).toArray 25):=⟨_,rfl⟩
 have hrow:oW W1 w.heap.size i lv:=by rw[hW1];exact kI w i lv
 have HB:Hid (Below w.heap.size w W1):=Lib.hid (by rw[hW1];exact(Below.refl _ _).alloc (Nat.le_refl _) _)
 rw[<-hW1]
 clear hW1
 obtain⟨g,hg⟩:∃g,g=w.heap.size:=⟨_,rfl⟩
 rw[<-hg]at hrow⊢
 clear hg
 have k1:=hrow.at 1 _ rfl
 clear hrow
 cases c1
 all_goals cases c2
 all_goals
  go_wp2_with fail
  go_ret
  exact⟨rfl,HB.out⟩
theorem Nh (w:World)(i:Ps.Ins)(lv:Value)(c1:Bool)(h1:i.partial_=c1):
 Calls Tryz.prog 107 #[.agg (aB i lv).toArray] w λe w'=>e=.returned (.int .i64 (if c1=true then i.quantity else 0))/\Below w.heap.size w w':=by
 go_enter Tryz.func107,Tryz.ntmps107
 go_upto_region 1 with fail
 obtain⟨W1,hW1⟩:∃W1,W1=w.alloc (.cells (aB i lv).toArray 25):=⟨_,rfl⟩
 have hrow:oW W1 w.heap.size i lv:=by rw[hW1];exact kI w i lv
 have HB:Hid (Below w.heap.size w W1):=Lib.hid (by rw[hW1];exact(Below.refl _ _).alloc (Nat.le_refl _) _)
 rw[<-hW1]
 clear hW1
 obtain⟨g,hg⟩:∃g,g=w.heap.size:=⟨_,rfl⟩
 rw[<-hg]at hrow⊢
 clear hg
 have k6:=hrow.at 6 _ rfl
 have k11:=hrow.at 11 _ rfl
 clear hrow
 cases c1
 all_goals
  go_wp2_with fail
  go_ret
  exact⟨rfl,HB.out⟩
theorem K7 (w:World)(i:Ps.Ins)(lv:Value)(c1 c2 v:Bool)(h1:(i.kind==0)=c1)(h2:(i.asset.toList==[67,65,83,72])=c2)(n1:∀w',Below w.heap.size w w'->Calls Tryz.prog 65 #[.int .i64 0,.string i.asset] w' λe w''=>e=.returned (.bool v)/\Below w'.heap.size w' w''):
 Calls Tryz.prog 104 #[.agg (aB i lv).toArray] w λe w'=>e=.returned (.bool (if c1=true then c2 else v))/\Below w.heap.size w w':=by
 go_enter Tryz.func104,Tryz.ntmps104
 go_upto_region 1 with fail
 obtain⟨W1,hW1⟩:∃W1,W1=w.alloc (.cells (aB i lv).toArray 25):=⟨_,rfl⟩
 have hrow:oW W1 w.heap.size i lv:=by rw[hW1];exact kI w i lv
 have HB:Hid (Below w.heap.size w W1):=Lib.hid (by rw[hW1];exact(Below.refl _ _).alloc (Nat.le_refl _) _)
 rw[<-hW1]
 clear hW1
 have m1:=n1 W1 HB.out
 clear n1
 obtain⟨g,hg⟩:∃g,g=w.heap.size:=⟨_,rfl⟩
 rw[<-hg]at hrow⊢
 clear hg
 have k1:=hrow.at 1 _ rfl
 have k5:=hrow.at 5 _ rfl
 clear hrow
 cases c1
 ·go_wp2_with ((first|go_at_fn 65|go_at_call 65);refine m1.mono ?_;rintro e w2 ⟨rfl,hb⟩;have HB2:=Lib.hid (HB.out.trans (hb.mono HB.out.size));clear hb m1)
  go_ret
  exact⟨rfl,HB2.out⟩
 ·clear m1
  go_wp2_with fail
  go_ret
  exact⟨by simp,HB.out⟩
theorem LA (w:World)(n:Int)(u c:Bool)(h:(n==0)=c):
 Calls Tryz.prog 105 #[.int .i64 n,.bool u] w λe w'=>e=.returned (.bool (if u=true then inB n 1 1000000000000000 else c))/\Below w.heap.size w w':=by
 have m1:=rT w n 1 1000000000000000
 go_enter Tryz.func105,Tryz.ntmps105
 cases u
 ·clear m1
  go_wp2_with fail
  go_ret
  exact⟨by simp,Below.refl _ _⟩
 ·go_wp2_with ((first|go_at_fn 106|go_at_call 106);refine m1.mono ?_;rintro e w2 ⟨rfl,rfl⟩;clear m1)
  go_ret
  exact⟨rfl,Below.refl _ _⟩
def yg (n:Int)(u:Bool):Bool:=if u=true then inB n 1 1000000000000000 else(n==0)
def lK (A:Ps.Amd):List (Bool×Int):=[(((((!A.hasAmount)&&(!A.hasSettleDay))&&(!A.hasPriority))&&(!A.hasPartial)),3),((((((!A.hasAmount)&&(A.amount !=0))||((!A.hasSettleDay)&&(A.settleDay !=0)))||((!A.hasPriority)&&(A.priority !=0)))||((!A.hasPartial)&&(A.partial_||(A.minLot !=0)))),3),((!(yg A.amount A.hasAmount)),2),((!(inB A.settleDay 0 73048)),28),((!(inB A.priority 0 2)),2),((!(yg A.minLot A.partial_)),2)]
open Go.Proofs.YthijakidnkhbnaaGreatDoor.Ev (AV Mem Fr jJ dG eZ)
theorem jr {S:World->Prop}{b:Nat}{l:List Value}{ty:TypeId}(h:∀w,S w->w.heap[b]? =some (.cells l.toArray ty (0,0))):∀w,S w->∀(j:Nat) (v:Value),l[j]? =some v->w.cell? ⟨b,0+j,none⟩=some v:=λw hS j v hv=>by
 rw[Nat.zero_add,cell_of_row _ _ _ _ _ _ (h w hS)]
 simpa using hv
def uO (V:List AV->List Value)(f:FuncId)(vs:List AV):Option Value:=
 if f=64\/f=106 then(match V vs with|[.int .i64 n,.int .i64 lo,.int .i64 hi]=>some (.bool (inB n lo hi))|_=>none)
 else if f=105 then(match V vs with|[.int .i64 n,.bool u]=>some (.bool (yg n u))|_=>none)
 else none
theorem rF {V:List AV->List Value}{f:FuncId}{vs:List AV}{v:Value}(h:uO V f vs=some v){W0:World}:(∀args w,(callFunc f args).run Tryz.prog w=.ok (.enter f args) w)/\∀w,Below W0.heap.size W0 w->Calls Tryz.prog f (V vs).toArray w λe w'=>e=.returned v/\Below W0.heap.size W0 w':=by
 unfold uO at h
 split at h
 ·rename_i hf
  split at h
  ·rename_i hm
   cases h
   rw[hm]
   rcases hf with rfl|rfl
   ·exact⟨ent57,λw hw=>(EE w _ _ _).mono λe w' k=>⟨k.1,hw.trans (k.2.mono hw.size)⟩⟩
   ·exact⟨ent109,λw hw=>(zT w _ _ _).mono λe w' k=>⟨k.1,hw.trans (k.2.mono hw.size)⟩⟩
  ·cases h
 ·split at h
  ·rename_i hf
   subst hf
   split at h
   ·rename_i hm
    cases h
    rw[hm]
    exact⟨ent108,λw hw=>(LA w _ _ _ rfl).mono λe w' k=>⟨k.1,hw.trans (k.2.mono hw.size)⟩⟩
   ·cases h
  ·cases h
def EO (g:Nat)(A:Ps.Amd):List (Option (Nat×Nat)×List Value):=[(some (g,0),aG A)]
def amM (g:Nat)(A:Ps.Amd):Mem Unit:=jJ oZ (EO g A) (uO (List.map (eZ (EO g A)))) (Ev.pX (eZ (EO g A)))
theorem JJ (w:World)(A:Ps.Amd):Calls Tryz.prog 67 #[.agg (aG A).toArray] w λe w'=>e=.returned (.int .i64 (aj (lK A)))/\Below w.heap.size w w':=by
 go_enter Tryz.func67,Tryz.ntmps67
 refine wp_seq ?_
 refine wp_region_lit ?_
 refine wpList_plain rfl (λK hK=>?_)
 go_simp
 refine hK _ _ ?_
 clear hK K
 refine wpList_plain rfl (λK hK=>?_)
 go_simp
 refine hK _ _ ?_
 clear hK K
 refine aL ?_
 obtain⟨g,hg⟩:∃g,g=w.heap.size:=⟨_,rfl⟩
 obtain⟨W1,hW1⟩:∃W1,W1=w.alloc (.cells (aG A).toArray 27):=⟨_,rfl⟩
 have hrow:∀W,Below W1.heap.size W1 W->W.heap[g]? =some (.cells (aG A).toArray 27 (0,0)):=λW hW=>by
  rw[hW.block g (by rw[hW1,hg];simp),hW1,hg];exact aD w _
 have hB1:Below w.heap.size w W1:=by rw[hW1];exact(Below.refl _ _).alloc (Nat.le_refl _) _
 rw[<-hg,<-hW1]
 refine iq rfl λa ha hdf=>?_
 have hO:Ev.Ok Tryz.prog (λ(_:Unit) W=>Below W1.heap.size W1 W) (amM g A):=by
  refine Ev.gD (λt f d h=>qG h) (λq b o l h W hS=>?_) (λf vs v h=>rF h) (λo ov v h ρ hov W hS=>Ev.oP h hov (λ_=>rfl) W)
  rcases q with _|q
  ·cases h
   intro j v hv
   rw[Nat.zero_add,cell_of_row _ _ _ _ _ _ (hrow W hS)]
   simpa using hv
  ·cases h
 refine wp_seq ?_
 refine Ev.mq (W0:=W1) (m:=91) (M:=amM g A) (K:=[(1,.p 0 0)]) 86 2 (lK A) hO (by kernel_rfl) (Ev.aC (Ev.aU (by rw[ha];rfl) hdf) (by rw[ha];rfl)) (Below.refl _ _) (show 0<6 by decide) (show 6<=1000 by decide) (by kernel_rfl) (by kernel_rfl) ?_
 intro b W hB hF
 refine wp_ret ?_
 refine bodyPost_ret (results_tmp rfl _ _ _) hF.defers ?_
 rw[hg]
 exact⟨by rw[show b.tmps.getD 2 undef=.int .i64 (aj (lK A))from eval_at (hF.look 2 _ rfl)],hB1.trans (hB.mono hB1.size)⟩
theorem dD {b:Bool}{n:Int}{rs:List (Bool×Int)}{P:Prop}[Decidable P](h:b=true↔P):aj ((b,n)::rs)=if P then n else aj rs:=by
 show(if b=true then n else aj rs)=_
 by_cases hp:P
 ·rw[if_pos hp,if_pos (h.2 hp)]
 ·rw[if_neg hp,if_neg (λhb=>hp (h.1 hb))]
theorem fo (n lo hi:Int):inB n lo hi=true↔lo<=n/\n<=hi:=by
 unfold inB;simp
theorem pW (n:Int)(u:Bool):yg n u=true↔if u=true then 1<=n/\n<=Ps.nY else n=0:=by
 unfold yg Ps.nY
 cases u
 ·simp
 ·simp[fo]
theorem bD {b:Bool}{P:Prop}(h:b=true↔P):(!b)=true↔¬P:=by
 rw[<-h];cases b<;>simp
theorem F8 (A:Ps.Amd):aj (lK A)=Ps.yF A:=by
 unfold lK Ps.yF
 rw[dD (P:=A.hasAmount=false/\A.hasSettleDay=false/\A.hasPriority=false/\A.hasPartial=false) (by simp[and_assoc]),
  dD (P:=(A.hasAmount=false/\A.amount≠0)\/(A.hasSettleDay=false/\A.settleDay≠0)\/(A.hasPriority=false/\A.priority≠0)\/(A.hasPartial=false/\(A.partial_=true\/A.minLot≠0))) (by simp[or_assoc]),
  dD (bD (pW _ _)),dD (bD (fo _ _ _)),dD (bD (fo _ _ _)),dD (bD (pW _ _))]
 rfl
def gH (V:Nat->ByteArray->Bool)(i:Ps.Ins)(sn:Nat):List (Bool×Int):=[((!(inB i.kind 0 4)),11),((!(V 2 i.ref)),6),((!(V 1 i.sender)),6),((((i.kind==3)||(i.kind==4))&&(!(i.counterparty.toList==(⟨#[]⟩:ByteArray).toList))),3),(((!((i.kind==3)||(i.kind==4)))&&(!(V 1 i.counterparty))),6),((i.counterparty.toList==i.sender.toList),1),((!(inB i.side 0 1)),11),(((!((i.kind==1)||(i.kind==2)))&&(i.side !=0)),3),((!(if (i.kind==0)=true then(i.asset.toList==[67,65,83,72])else V 0 i.asset)),6),((!(yg i.quantity (i.kind !=0))),2),((!(yg i.amount ((i.kind==0)||(i.kind==1)))),2),((!(inB i.settleDay 0 73048)),28),(((((i.kind==1)||(i.kind==2))&&(!(inB i.tradeDay 0 i.settleDay)))||((!((i.kind==1)||(i.kind==2)))&&(i.tradeDay !=0))),28),(((!(inB i.priority 0 2))||(((i.kind==3)||(i.kind==4))&&(i.priority !=0))),2),((i.partial_&&(!((i.kind==1)||(i.kind==2)))),3),(((i.partial_&&(decide (i.minLot<1)))||(!(inB i.minLot 0 (if i.partial_=true then i.quantity else 0)))),2),((i.hold&&((i.kind==3)||(i.kind==4))),3),((i.reserve&&((i.kind !=0)||(i.priority !=2))),3),((((i.kind==3)||(i.kind==4))&&(decide (0<(sn:Int)))),3),((decide (8<(sn:Int))),8)]
theorem BJ (s t:ByteArray):(s.toList==t.toList)=true↔s=t:=by
 rw[beq_iff_eq]
 constructor
 ·intro h
  rw[Lib.toList_data,Lib.toList_data]at h
  exact Go.WideShapes.bytes_inj h
 ·rintro rfl;rfl
def nu (d:Int):List (Bool×Int)->Int
 |[]=>d
 |x::rs=>if x.1=true then x.2 else nu d rs
theorem ah {d:Int}{b:Bool}{n:Int}{rs:List (Bool×Int)}{P:Prop}[Decidable P](h:b=true↔P):nu d ((b,n)::rs)=if P then n else nu d rs:=by
 show(if b=true then n else nu d rs)=_
 by_cases hp:P
 ·rw[if_pos hp,if_pos (h.2 hp)]
 ·rw[if_neg hp,if_neg (λhb=>hp (h.1 hb))]
theorem rG (d:Int):∀rs:List (Bool×Int),(∀x∈rs,x.2≠0)->nu d rs=if aj rs≠0 then aj rs else d
 |[],_=>by simp[nu,aj]
 |x::rs,h=>by
  have ih:=rG d rs λy hy=>h y (List.mem_cons_of_mem _ hy)
  have hx:=h x List.mem_cons_self
  show(if x.1=true then x.2 else nu d rs)=if (if x.1=true then x.2 else aj rs)≠0 then(if x.1=true then x.2 else aj rs)else d
  by_cases hb:x.1=true
  ·simp only[if_pos hb,if_pos hx]
  ·simp only[if_neg hb];exact ih
theorem lM (i:Ps.Ins):((i.kind==3)||(i.kind==4))=true↔i.kind=3\/i.kind=4:=by simp
theorem pQ (i:Ps.Ins):((i.kind==1)||(i.kind==2))=true↔i.kind=1\/i.kind=2:=by simp
theorem eH {a b:Bool}{P Q:Prop}(h1:a=true↔P)(h2:b=true↔Q):(a&&b)=true↔P/\Q:=by rw[Bool.and_eq_true,h1,h2]
theorem pJ {a b:Bool}{P Q:Prop}(h1:a=true↔P)(h2:b=true↔Q):(a||b)=true↔P\/Q:=by rw[Bool.or_eq_true,h1,h2]
theorem oo (a b:Int):(a !=b)=true↔a≠b:=by simp
theorem IW (b:Bool):(!b)=true↔b=false:=by simp
theorem Hf (V:Nat->ByteArray->Bool)(i:Ps.Ins):Ps.oI V i=if aj (gH V i i.links.length)≠0 then aj (gH V i i.links.length)else Ps.fJ V i [] i.links:=by
 rw[<-rG _ _ (by unfold gH;simp)]
 unfold gH Ps.oI
 have hs:(!(i.counterparty.toList==(⟨#[]⟩:ByteArray).toList))=true↔i.counterparty≠⟨#[]⟩:=bD (BJ _ _)
 have hcash:(if (i.kind==0)=true then(i.asset.toList==[67,65,83,72])else V 0 i.asset)=true↔if i.kind=0 then i.asset=Ps.rY else V 0 i.asset=true:=by
  have h2:([67,65,83,72]:List UInt8)=Ps.rY.toList:=by rw[Lib.toList_data];rfl
  rw[h2]
  by_cases h:i.kind=0
  ·simp only[h,BEq.rfl,if_true];exact BJ _ _
  ·have:(i.kind==0)=false:=by simp[h]
   simp only[this,h,if_false,Bool.false_eq_true]
 have hq:(!(yg i.quantity (i.kind !=0)))=true↔¬(if i.kind≠0 then 1<=i.quantity/\i.quantity<=Ps.nY else i.quantity=0):=by
  refine(bD (pW _ _)).trans (not_congr ?_)
  by_cases h:i.kind=0<;>simp[h]
 have ha:(!(yg i.amount ((i.kind==0)||(i.kind==1))))=true↔¬(if i.kind=0\/i.kind=1 then 1<=i.amount/\i.amount<=Ps.nY else i.amount=0):=by
  refine(bD (pW _ _)).trans (not_congr ?_)
  simp
 have hlot:((i.partial_&&(decide (i.minLot<1)))||(!(inB i.minLot 0 (if i.partial_=true then i.quantity else 0))))=true↔(i.partial_=true/\i.minLot<1)\/¬(0<=i.minLot/\i.minLot<=if i.partial_=true then i.quantity else 0):=
  pJ (eH Iff.rfl decide_eq_true_iff) (bD (fo _ _ _))
 rw[ah (bD (fo _ _ _)),ah (IW _),ah (IW _),ah (eH (lM i) hs),ah (eH (bD (lM i)) (IW _)),ah (BJ _ _),ah (bD (fo _ _ _)),
  ah (eH (bD (pQ i)) (oo _ _)),ah (bD hcash),ah hq,ah ha,ah (bD (fo _ _ _)),
  ah (pJ (eH (pQ i) (bD (fo _ _ _))) (eH (bD (pQ i)) (oo _ _))),ah (pJ (bD (fo _ _ _)) (eH (lM i) (oo _ _))),
  ah (eH Iff.rfl (bD (pQ i))),ah hlot,ah (eH Iff.rfl (lM i)),ah (eH Iff.rfl (pJ (oo _ _) (oo _ _))),
  ah (P:=(i.kind=3\/i.kind=4)/\0<i.links.length) (eH (lM i) (by simp)),ah (P:=8<i.links.length) (by simp;omega)]
 rfl
section
variable {S : World → Prop} {ρ : Operand → Value} {o : Oper}
end
theorem sl_to (a:Option Addr)(n c k:Nat)(h1:k<=n)(h2:n<=c)(_h3:n<=1000)(w:World):(Instr.sliceAt 23 (.slice a n c) none (some (.int .i64 k)) none).run Tryz.prog w=.ok (.slice a k c) w:=by
 have e1:(k:Int)<=(c:Int):=by omega
 go_simp
 done
def mV (V:Nat->ByteArray->Bool)(i:Ps.Ins)(seen:List Ps.Link)(x:Ps.Link):List (Bool×Int):=[(!(inB x.type 0 1),11),(!(V 2 x.ref),6),(x.ref.toList==i.ref.toList,26),(iD seen x.ref,7)]
theorem Cc (ks:List Ps.Link)(r:ByteArray):iD ks r=true↔∃y∈ks,y.ref=r:=by
 unfold iD
 rw[List.any_eq_true]
 exact exists_congr λy=>and_congr_right λ_=>BJ _ _
theorem AZ (V:Nat->ByteArray->Bool)(i:Ps.Ins)(seen:List Ps.Link)(x:Ps.Link)(r:List Ps.Link):Ps.fJ V i seen (x::r)=if aj (mV V i seen x)≠0 then aj (mV V i seen x)else Ps.fJ V i (seen++[x]) r:=by
 rw[<-rG _ _ (by unfold mV;simp)]
 unfold mV
 rw[ah (bD (fo _ _ _)),ah (IW _),ah (BJ _ _),ah (Cc _ _)]
 rfl
end Go.Proofs.YthijakidnkhbnaaGreatDoor
