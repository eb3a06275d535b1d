/-
  Part 9 of a proof; written short by a program out of longer texts of mine.
-/
import Derived.Test.YthijakidnkhbnaaGreatDoorMqH
set_option maxRecDepth 100000
set_option maxHeartbeats 4000000
set_option linter.unusedVariables false
set_option linter.unusedSimpArgs false
namespace Go.Proofs.YthijakidnkhbnaaGreatDoor
open Go.RowKit
theorem gL {x:Int}(h: -1000000000000000000<=x/\x<=1000000000000000000):IntKind.i64.wrap x=x:=IntWalk.i64_in _ (by omega)
theorem yM (s:ByteArray)(w:World)(k e:Int)(hke:(e !=0)=true\/((e !=0)=false/\(k !=2)=true))
 (m1:Calls Tryz.prog 44 #[.string s] w λx w'=>x=.returned (.tuple #[.int .i64 k,.int .i64 e])/\w=w'):
 Calls Tryz.prog 111 #[.string s] w λx w'=>x=.returned (.tuple #[.int .i64 0,.int .i64 30])/\w=w':=by
 rcases hke with h|⟨h,h2⟩
 all_goals
  go_enter Tryz.func111,Tryz.ntmps111
  go_wp2_with (go_at_call 44;refine m1.mono ?_;rintro x w1 ⟨rfl,rfl⟩)
  go_ret2
  exact⟨rfl,rfl⟩
def tk (s:ByteArray)(i:Nat):List UInt8:=s.data.toList.take i
theorem tH (s:ByteArray)(i:Nat)(hi:i<s.size):∃c:UInt8,tk s (i+1)=tk s i++[c]/\PlainAid.bt s i=(c.toNat:Int)/\c∈s.data.toList:=by
 obtain⟨⟨l⟩⟩:=s
 have hl:i<l.length:=hi
 refine⟨l[i],?_,?_,List.getElem_mem hl⟩
 ·unfold tk
  exact List.take_succ_eq_append_getElem hl
 ·unfold PlainAid.bt
  rw[dif_pos hi]
  rfl
theorem Lv (s:ByteArray):tk s s.size=s.data.toList:=by
 obtain⟨⟨l⟩⟩:=s
 exact List.take_length
theorem Dk (s:ByteArray)(w:World)(hs:s.size<=16)(hd:Hid (Ps.qM s.data.toList))(R:Int×Int)(hR:Hid (R=Ps.canon (Ps.dU 0 s.data.toList)))
 (m1:Calls Tryz.prog 44 #[.string s] w λx w'=>x=.returned (.tuple #[.int .i64 2,.int .i64 0])/\w=w'):
 Calls Tryz.prog 111 #[.string s] w λx w'=>x=.returned (.tuple #[.int .i64 R.1,.int .i64 R.2])/\w=w':=by
 have hub:=PlainAid.get_bt s
 go_enter Tryz.func111,Tryz.ntmps111
 go_wp2_with (go_at_call 44;refine m1.mono ?_;rintro x w1 ⟨rfl,rfl⟩)
 clear m1
 go_loopw [6,7] (λnv iv wr=>∃i N:Nat,iv=.int .i64 i/\nv=.int .i64 N/\i<=s.size/\Hid (N=Ps.dU 0 (tk s i))/\wr=w) (λ_ iv _=>2000-(RowKit.intOf iv).toNat)
 case atStart=>exact⟨0,0,rfl,rfl,Nat.zero_le _,Lib.hid rfl,rfl⟩
 case round=>
  obtain⟨i,N,rfl,rfl,hi,HN,rfl⟩:=hrel
  have hN:N<10000000000000000:=by
   have h1:=Ps.Em (tk s i) 0 (λc hc=>hd.out c (List.mem_of_mem_take hc))
   have h2:(tk s i).length<=16:=by unfold tk;rw[List.length_take];omega
   have h3:10^(tk s i).length<=10^16:=Nat.pow_le_pow_right (by omega) h2
   have h4:(10:Nat)^16=10000000000000000:=by decide
   rw[HN.out]
   omega
  by_cases hlt:i<s.size
  ·obtain⟨c,e1,e2,e3⟩:=tH s i hlt
   have hc:=hd.out c e3
   have jc:(i:Int)<(s.size:Int):=by omega
   have HN2:Hid (10*N+(c.toNat-48)=Ps.dU 0 (tk s (i+1))):=Lib.hid (by rw[e1,Ps.qx,<-HN.out];omega)
   obtain⟨d,hd'⟩:∃d:Int,d=(c.toNat:Int):=⟨_,rfl⟩
   rw[<-hd']at e2
   have hd1:48<=d/\d<=57:=by omega
   have q1:IntKind.u8.wrap (d-48)=d-48:=IntWalk.u8_in _ (by omega)
   have q5:IntKind.i64.wrap (d-48)=d-48:=gL (by omega)
   obtain⟨x,hx⟩:∃x:Int,x=(N:Int):=⟨_,rfl⟩
   rw[<-hx]
   have q6:IntKind.i64.wrap (10*x)=10*x:=gL (by omega)
   have q7:IntKind.i64.wrap (10*x+(d-48))=10*x+(d-48):=gL (by omega)
   have hw1:wrap64 ((i:Int)+1)=((i+1:Nat):Int):=by unfold wrap64;omega
   have HE:Hid (10*x+(d-48)=((10*N+(c.toNat-48):Nat):Int)):=Lib.hid (by omega)
   clear hx e1 e3 hc HN hN hd1 hd' hd hR
   go_wp2_with fail
   refine⟨⟨i+1,10*N+(c.toNat-48),by first|rfl|go_num,by first|exact congrArg (Value.int .i64) HE.out|(rw[HE.out]),hlt,HN2,trivial⟩,by simp[RowKit.intOf]<;>omega⟩
  ·obtain rfl:i=s.size:=by omega
   have jc:¬(s.size:Int)<(s.size:Int):=by omega
   rw[Lv]at HN
   have hR2:=hR.out
   rw[<-HN.out]at hR2
   unfold Ps.canon at hR2
   clear hR HN hd
   by_cases h1:1<=N
   ·have f1:decide ((N:Int)<1)=false:=decide_eq_false (by omega)
    by_cases h2:N<=1000000000000000
    ·have f2:decide (1000000000000000<(N:Int))=false:=decide_eq_false (by omega)
     rw[if_pos ⟨h1,h2⟩]at hR2
     subst hR2
     clear h1 h2
     go_wp2_with fail
     go_ret2
     exact⟨rfl,rfl⟩
    ·have f2:decide (1000000000000000<(N:Int))=true:=decide_eq_true (by omega)
     rw[if_neg (by omega)]at hR2
     subst hR2
     clear h1 h2
     go_wp2_with fail
     go_ret2
     exact⟨rfl,rfl⟩
   ·have f1:decide ((N:Int)<1)=true:=decide_eq_true (by omega)
    rw[if_neg (by omega)]at hR2
    subst hR2
    clear h1
    go_wp2_with fail
    go_ret2
    exact⟨rfl,rfl⟩
theorem GH (x:Int)(w:World)(b1 b2:Bool)(h1:decide (-1000000000000000<=x)=b1)(h2:decide (x<=1000000000000000)=b2):
 Calls Tryz.prog 185 #[.int .i64 x] w λe w'=>e=.returned (.bool (b1&&b2))/\w=w':=by
 cases b1
 all_goals cases b2
 all_goals
  go_enter Tryz.func185,Tryz.ntmps185
  go_wp2_with fail
  go_ret
  exact⟨rfl,rfl⟩
def JD (y:Int):Int×Int:=if-1000000000000000<=y/\y<=1000000000000000 then(y,0)else(0,12)
theorem Ah (x:Int)(w:World)(b:Bool)(m1:Calls Tryz.prog 185 #[.int .i64 x] w λe w'=>e=.returned (.bool b)/\w=w'):
 Calls Tryz.prog 169 #[.int .i64 x] w λe w'=>e=.returned (.tuple #[.int .i64 (if b=true then x else 0),.int .i64 (if b=true then 0 else 12)])/\w=w':=by
 cases b
 all_goals
  go_enter Tryz.func169,Tryz.ntmps169
  go_wp2_with (go_at_call 185;refine m1.mono ?_;rintro e w1 ⟨rfl,rfl⟩)
  go_ret2
  exact⟨rfl,rfl⟩
theorem oM (x:Int)(w:World):Calls Tryz.prog 169 #[.int .i64 x] w λe w'=>e=.returned (.tuple #[.int .i64 (JD x).1,.int .i64 (JD x).2])/\w=w':=by
 have h:=Ah x w _ (GH x w _ _ rfl rfl)
 have e:(((decide (-1000000000000000<=x))&&(decide (x<=1000000000000000)))=true)↔(-1000000000000000<=x/\x<=1000000000000000):=by simp
 unfold JD
 by_cases hb: -1000000000000000<=x/\x<=1000000000000000
 ·rw[if_pos hb]
  simp only[hb]at h
  exact h
 ·rw[if_neg hb]
  simp only[e,hb,if_false]at h
  exact h
theorem rk_amL (s t:ByteArray)(w:World)(h1:s.size<=1000)(m:Nat)(hm:(t.size:Int)-3=(m:Int))(HTS:Hid (t.size=m+3))(hm1:1<=m)(htl:t.size<=1000)(ng:Bool)
 (hg:(ng=true/\decide (0<s.size)=true/\0<s.size/\(PlainAid.bt s 0==45)=true)\/(ng=false/\(decide (0<s.size)=false\/decide (0<s.size)=true/\0<s.size/\(PlainAid.bt s 0==45)=false)))
 (hst:Hid ((ng=true->0<s.size/\s.extract 1 s.size=t)/\(ng=false->t=s))) (hdot:(PlainAid.bt t m !=46)=false) (hz0:(PlainAid.bt t 0==48)=false\/((PlainAid.bt t 0==48)=true/\decide ((4:Int)<(t.size:Int))=false))
 (X:Nat->Int) (Z:Nat->Bool) (hX0:X 0=0) (hZ0:Z 0=true) (hXm:Hid (X (m+1)=X m/\Z (m+1)=Z m))
 (hX:Hid (∀i,i<t.size->i≠m->48<=PlainAid.bt t i/\PlainAid.bt t i<=57/\X (i+1)=(if X i<=1000000000000000 then 10*X i+(PlainAid.bt t i-48)else X i)/\Z (i+1)=(Z i&&(PlainAid.bt t i==48))))
 (hXb:Hid (∀i,i<=t.size->0<=X i/\X i<=10000000000000009)) (hzn:Hid (Z t.size=true->ng=false)) (R:Int×Int) (hR:Hid (R=JD (if ng=true then 0-X t.size else X t.size))):
 Calls Tryz.prog 143 #[.string s] w λx w'=>x=.returned (.tuple #[.int .i64 R.1,.int .i64 R.2])/\w=w':=by
 have hub:=PlainAid.get_bt s
 go_enter Tryz.func143,Tryz.ntmps143
 go_upto_region 2 with fail
 go_cut [5] (λv wx=>v=.bool ng/\w=wx)
 case first=>
  rcases hg with⟨rfl,n0,n1,n2⟩|⟨rfl,n0|⟨n0,n1,n2⟩⟩
  all_goals
   go_wp2_with fail
   go_meet
   case rel=>exact⟨rfl,rfl⟩
 case rest=>
  obtain⟨rfl,rfl⟩:=hcut
  clear hg hub
  go_upto_if 19 with fail
  go_cut [4] (λv wx=>v=.string t/\w=wx)
  case first=>
   cases ng with
   |true=>
    obtain⟨n1,n2⟩:=hst.out.1 rfl
    have n3:(1:Int)<=(s.size:Int):=by omega
    clear hst
    go_wp2_with fail
    go_meet
    case rel=>exact⟨rfl,rfl⟩
   |false=>
    have n2:=hst.out.2 rfl
    subst n2
    clear hst
    go_wp2_with fail
    go_meet
    case rel=>exact⟨rfl,rfl⟩
  case rest=>
   obtain⟨rfl,rfl⟩:=hcut
   clear hst h1
   have hubt:=PlainAid.get_bt t
   have hts:=HTS.out
   have qB:m<t.size:=by omega
   have h0l:0<t.size:=by omega
   have h0I:(0:Int)<(t.size:Int):=by omega
   have h4:decide ((t.size:Int)<4)=false:=decide_eq_false (by omega)
   clear hts
   go_upto_region 6 with fail
   go_cut [41] (λv wx=>v=.bool false/\w=wx)
   case first=>
    rcases hz0 with z0|⟨z0,z1⟩
    all_goals
     go_wp2_with fail
     go_meet
     case rel=>exact⟨rfl,rfl⟩
   case rest=>
    obtain⟨rfl,rfl⟩:=hcut
    clear hz0 hdot h0l h0I h4
    go_wp2_with fail
    go_loopw [7,8,9] (λxv zv iv wr=>∃i:Nat,iv=.int .i64 i/\xv=.int .i64 (X i)/\zv=.bool (Z i)/\i<=t.size/\wr=w) (λ_ _ iv _=>2000-(RowKit.intOf iv).toNat)
    case atStart=>exact⟨0,rfl,by rw[hX0],by rw[hZ0],Nat.zero_le _,rfl⟩
    case round=>
     obtain⟨i,rfl,rfl,rfl,hi,rfl⟩:=hrel
     clear hX0 hZ0
     by_cases hlt:i<t.size
     ·have jc:(i:Int)<(t.size:Int):=by omega
      have hw1:wrap64 ((i:Int)+1)=((i+1:Nat):Int):=by unfold wrap64;omega
      by_cases him:i=m
      ·subst him
       obtain⟨e1,e2⟩:=hXm.out
       have HE1:=Lib.hid e1
       have HE2:=Lib.hid e2
       clear e1 e2 hX hXb hXm hzn hR HTS
       go_wp2_with fail
       refine⟨⟨i+1,by first|rfl|go_num,by rw[HE1.out],by rw[HE2.out],hlt,trivial⟩,by simp[RowKit.intOf]<;>omega⟩
      ·have himI:((i:Int)==(m:Int))=false:=by rw[beq_eq_false_iff_ne];omega
       have himI2:¬(i:Int)=(m:Int):=by omega
       obtain⟨d1,d2,e1,e2⟩:=hX.out i hlt him
       obtain⟨b1,b2⟩:=hXb.out i (by omega)
       obtain⟨c,hc⟩:∃c,PlainAid.bt t i=c:=⟨_,rfl⟩
       rw[hc]at d1 d2 e1 e2
       obtain⟨x,hx⟩:∃x,X i=x:=⟨_,rfl⟩
       rw[hx]at e1 b1 b2⊢
       obtain⟨z,hz⟩:∃z,Z i=z:=⟨_,rfl⟩
       rw[hz]at e2⊢
       have g1:decide (c<48)=false:=decide_eq_false (by omega)
       have g2:decide (57<c)=false:=decide_eq_false (by omega)
       have q1:IntKind.u8.wrap (c-48)=c-48:=IntWalk.u8_in _ (by omega)
       have q5:IntKind.i64.wrap (c-48)=c-48:=gL (by omega)
       have q6:IntKind.i64.wrap (10*x)=10*x:=gL (by omega)
       have q7:IntKind.i64.wrap (10*x+(c-48))=10*x+(c-48):=gL (by omega)
       have MR:=Lib.hid e1
       have HZ1:=Lib.hid e2
       clear e1 e2 d1 d2 b1 b2 hx hz hX hXb hXm hzn hR HTS him
       by_cases hmo:x<=1000000000000000
       ·have g3:decide (x<=1000000000000000)=true:=decide_eq_true hmo
        rw[if_pos hmo]at MR
        clear hmo
        cases z with
        |false=>
         go_wp2_with fail
         refine⟨⟨i+1,by first|rfl|go_num,by rw[MR.out],by rw[HZ1.out];rfl,hlt,trivial⟩,by simp[RowKit.intOf]<;>omega⟩
        |true=>
         by_cases h48:c=48
         ·have g4:(c==48)=true:=by simp[h48]
          rw[g4]at HZ1
          clear h48
          go_wp2_with fail
          refine⟨⟨i+1,by first|rfl|go_num,by rw[MR.out],by rw[HZ1.out];rfl,hlt,trivial⟩,by simp[RowKit.intOf]<;>omega⟩
         ·have g4:(c==48)=false:=by simp[h48]
          rw[g4]at HZ1
          clear h48
          go_wp2_with fail
          refine⟨⟨i+1,by first|rfl|go_num,by rw[MR.out],by rw[HZ1.out];rfl,hlt,trivial⟩,by simp[RowKit.intOf]<;>omega⟩
       ·have g3:decide (x<=1000000000000000)=false:=decide_eq_false hmo
        rw[if_neg hmo]at MR
        clear hmo
        cases z with
        |false=>
         go_wp2_with fail
         refine⟨⟨i+1,by first|rfl|go_num,by rw[MR.out],by rw[HZ1.out];rfl,hlt,trivial⟩,by simp[RowKit.intOf]<;>omega⟩
        |true=>
         by_cases h48:c=48
         ·have g4:(c==48)=true:=by simp[h48]
          rw[g4]at HZ1
          clear h48
          go_wp2_with fail
          refine⟨⟨i+1,by first|rfl|go_num,by rw[MR.out],by rw[HZ1.out];rfl,hlt,trivial⟩,by simp[RowKit.intOf]<;>omega⟩
         ·have g4:(c==48)=false:=by simp[h48]
          rw[g4]at HZ1
          clear h48
          go_wp2_with fail
          refine⟨⟨i+1,by first|rfl|go_num,by rw[MR.out],by rw[HZ1.out];rfl,hlt,trivial⟩,by simp[RowKit.intOf]<;>omega⟩
     ·obtain rfl:i=t.size:=by omega
      have jc:¬(t.size:Int)<(t.size:Int):=by omega
      have OB:=hzn.out
      have hb:=hXb.out t.size (Nat.le_refl _)
      have hR2:=hR.out
      obtain⟨x,hx⟩:∃x,X t.size=x:=⟨_,rfl⟩
      rw[hx]at hR2 hb⊢
      obtain⟨z,hz⟩:∃z,Z t.size=z:=⟨_,rfl⟩
      rw[hz]at OB⊢
      have q8:IntKind.i64.wrap (-x)= -x:=gL (by omega)
      have q9:IntKind.i64.wrap (0-x)=0-x:=gL (by omega)
      have m1:=oM x wr
      have m2:=oM (-x) wr
      have m3:=oM (0-x) wr
      clear hX hXb hXm hzn hR HTS hx hz hb
      cases ng with
      |true=>
       have hzf:z=false:=by
        cases z with
        |false=>rfl
        |true=>exact absurd (OB rfl) (by simp)
       subst hzf
       rw[if_pos rfl]at hR2
       subst hR2
       clear OB m1
       go_wp2_with (go_at_call 169;first|(refine m3.mono ?_;rintro e w1 ⟨rfl,rfl⟩)|(refine m2.mono ?_;rintro e w1 ⟨rfl,rfl⟩))
       go_ret2
       first|exact⟨rfl,rfl⟩|exact⟨by simp,rfl⟩
      |false=>
       rw[if_neg (by simp)]at hR2
       subst hR2
       clear OB m2 m3 q8 q9
       cases z
       all_goals
        go_wp2_with (go_at_call 169;refine m1.mono ?_;rintro e w1 ⟨rfl,rfl⟩)
        go_ret2
        exact⟨rfl,rfl⟩
theorem Dl (s:ByteArray)(w:World)(k e:Int)(hke:(e !=0)=true\/((e !=0)=false/\(k !=3)=true))
 (m1:Calls Tryz.prog 44 #[.string s] w λx w'=>x=.returned (.tuple #[.int .i64 k,.int .i64 e])/\w=w'):
 Calls Tryz.prog 110 #[.string s] w λx w'=>x=.returned (.tuple #[.int .i64 0,.int .i64 30])/\w=w':=by
 rcases hke with h|⟨h,h2⟩
 all_goals
  go_enter Tryz.func110,Tryz.ntmps110
  go_wp2_with (go_at_call 44;refine m1.mono ?_;rintro x w1 ⟨rfl,rfl⟩)
  go_ret2
  exact⟨rfl,rfl⟩
theorem MO (s:ByteArray)(w:World)(v e:Int)(R:Int×Int)(iH:((e !=0)=true/\R=(0,2))\/((e !=0)=false/\decide (v<1)=true/\R=(0,2))\/((e !=0)=false/\decide (v<1)=false/\R=(v,0)))
 (m1:Calls Tryz.prog 44 #[.string s] w λx w'=>x=.returned (.tuple #[.int .i64 3,.int .i64 0])/\w=w')
 (m2:Calls Tryz.prog 143 #[.string s] w λx w'=>x=.returned (.tuple #[.int .i64 v,.int .i64 e])/\w=w'):
 Calls Tryz.prog 110 #[.string s] w λx w'=>x=.returned (.tuple #[.int .i64 R.1,.int .i64 R.2])/\w=w':=by
 rcases iH with⟨h,rfl⟩|⟨h,h2,rfl⟩|⟨h,h2,rfl⟩
 all_goals
  go_enter Tryz.func110,Tryz.ntmps110
  go_wp2_with (first|(go_at_call 44;refine m1.mono ?_;rintro x w1 ⟨rfl,rfl⟩)|(go_at_call 143;refine m2.mono ?_;rintro x w1 ⟨rfl,rfl⟩))
  go_ret2
  exact⟨rfl,rfl⟩
theorem Fv {l:List UInt8}(h:∀c∈l,Lx.digit (c.toNat:Int)=true):Ps.qM l:=λc hc=>by
 have:=h c hc
 unfold Lx.digit at this
 simp at this
 omega
def dg (t:ByteArray)(i:Nat):List UInt8:=(tk t i).filter (· !=46)
theorem I8 (s:ByteArray)(h:Lx.dR s.data.toList=true):∃(t:ByteArray) (p:List UInt8) (x y:UInt8),t.data.toList=Lx.dz s.data.toList/\t.data.toList=p++[46,x,y]/\Lx.whole p=true/\Lx.digit (x.toNat:Int)=true/\Lx.digit (y.toNat:Int)=true/\¬s.data.toList=[45,48,46,48,48]:=by
 unfold Lx.dR at h
 rw[Bool.and_eq_true]at h
 obtain⟨h1,h2⟩:=h
 rw[<-Lx.Lr]at h2
 refine⟨⟨(Lx.dz s.data.toList).toArray⟩,?_⟩
 by_cases hm:(46:UInt8)∈Lx.dz s.data.toList
 ·obtain⟨p,r,he,hp⟩:=List.eq_append_cons_of_mem hm
  rw[he,Lx.si p r hp]at h2
  simp only[Bool.and_eq_true,decide_eq_true_eq,Bool.true_and]at h2
  obtain⟨⟨a1,a2⟩,a3⟩:=h2
  obtain⟨x,y,rfl⟩:=Lx.Fx r a2
  unfold Lx.all at a3
  simp at a3
  exact⟨p,x,y,rfl,he,a1,a3.1,a3.2,by simpa using h1⟩
 ·unfold Lib.cut at h2
  rw[Lx.oO 46 _ hm]at h2
  simp at h2
theorem IQ {s:ByteArray}(h:Lx.aI s=(3,0)):Lx.dR s.data.toList=true/\s.size<=32:=by
 refine⟨by rw[<-Lx.uD];exact jo h,?_⟩
 unfold Lx.aI at h
 split at h
 ·cases h
 ·omega
theorem GZ {s:ByteArray}(h:Lx.aI s=(2,0)):Lx.whole s.data.toList=true/\s.size<=16:=by
 unfold Lx.aI at h
 split at h
 ·cases h
 ·split at h
  ·cases h
  ·split at h
   ·rename_i hw
    simpa using hw
   ·split at h
    ·cases h
    ·split at h
     ·cases h
     ·split at h<;>cases h
theorem IR (s:ByteArray)(w:World)(h1:s.size<=1000000):
 Calls Tryz.prog 111 #[.string s] w λx w'=>x=.returned (.tuple #[.int .i64 (jY s).1,.int .i64 (jY s).2])/\w=w':=by
 have m1:=yz s w h1
 unfold jY
 by_cases hk:Lx.aI s=(2,0)
 ·rw[if_pos hk]
  rw[hk]at m1
  obtain⟨hw,hs⟩:=GZ hk
  have hd:=Fv (Lx.j5 hw)
  refine Dk s w hs (Lib.hid hd) _ (Lib.hid ?_) m1
  have hne:s.data.toList≠[]:=by
   intro h0
   rw[h0]at hw
   simp[Lx.whole,Lx.all]at hw
  obtain⟨p1,p2⟩:=Ps.pI s.data.toList hd hne
  by_cases hn:Ps.dU 0 s.data.toList<=1000000000000000
  ·rw[p1 hn]
   show qC _=_
   unfold qC Ps.canon
   by_cases h0:1<=Ps.dU 0 s.data.toList
   ·rw[if_neg (by omega),if_pos ⟨h0,hn⟩]
   ·rw[if_pos (by omega),if_neg (by omega)]
  ·have hc:Ps.canon (Ps.dU 0 s.data.toList)=(0,2):=by unfold Ps.canon;rw[if_neg (by omega)]
   rw[hc]
   rcases hp:Lib.parseIntB 64 s.data.toList with v|_|_
   ·have:=p2 v hp
    show qC v=_
    unfold qC
    rw[if_pos (by omega)]
   ·rfl
   ·rfl
 ·rw[if_neg hk]
  refine yM s w _ _ ?_ m1
  by_cases he:(Lx.aI s).2=0
  ·right
   refine⟨by simp[he],?_⟩
   rw[bne_iff_ne]
   intro hk2
   apply hk
   rw[<-hk2,<-he]
  ·left;simp[he]
theorem Eo (t:ByteArray)(l:List UInt8)(i:Nat)(c:UInt8)(ht:t.data.toList=l)(h:l[i]? =some c):PlainAid.bt t i=(c.toNat:Int):=by
 rw[<-qR,ht]
 unfold Lx.at_
 rw[List.getD_eq_getElem?_getD,h]
 rfl
theorem Mt (t:ByteArray)(p:List UInt8)(x y:UInt8)(ht:t.data.toList=p++[46,x,y])(hp:Ps.qM p)(hx:48<=x.toNat/\x.toNat<=57)(hy:48<=y.toNat/\y.toNat<=57)(i:Nat):Ps.qM (dg t i):=λc hc=>by
 unfold dg tk at hc
 obtain⟨h1,h2⟩:=List.mem_filter.1 hc
 have h3:=List.mem_of_mem_take h1
 rw[ht]at h3
 rcases List.mem_append.1 h3 with h|h
 ·exact hp c h
 ·simp only[List.mem_cons,List.mem_nil_iff,or_false]at h
  rcases h with rfl|rfl|rfl
  ·simp at h2
  ·exact hx
  ·exact hy
theorem lN {c:UInt8}(h:48<=c.toNat/\c.toNat<=57):(c !=46)=true:=by
 rw[bne_iff_ne]
 rintro rfl
 revert h
 decide
theorem Bc {p:List UInt8}(h:Ps.qM p):p.filter (· !=46)=p:=List.filter_eq_self.2 λc hc=>lN (h c hc)
theorem OM (s:ByteArray)(w:World)(h1:s.size<=1000000):
 Calls Tryz.prog 110 #[.string s] w λx w'=>x=.returned (.tuple #[.int .i64 (kT pu s).1,.int .i64 (kT pu s).2])/\w=w':=by
 have m1:=yz s w h1
 unfold kT
 by_cases hk:Lx.aI s=(3,0)
 ·rw[if_pos hk]
  rw[hk]at m1
  obtain⟨hdec,hs⟩:=IQ hk
  obtain⟨t,p,x,y,hu,ht,hw,hx,hy,hzz⟩:=I8 s hdec
  have hpd:=Fv (Lx.j5 hw)
  have hxd:48<=x.toNat/\x.toNat<=57:=by unfold Lx.digit at hx;simp at hx;omega
  have Pd:48<=y.toNat/\y.toNat<=57:=by unfold Lx.digit at hy;simp at hy;omega
  have hl:s.data.toList.length=s.size:=by obtain⟨⟨l⟩⟩:=s;rfl
  have htl:t.data.toList.length=t.size:=by obtain⟨⟨l⟩⟩:=t;rfl
  have htz:t.size=p.length+3:=by rw[<-htl,ht];simp
  have hp1:1<=p.length:=by
   cases p with
   |nil=>simp[Lx.whole,Lx.all]at hw
   |cons _ _=>simp
  have hts:t.size<=s.size:=by
   rw[<-htl,hu,<-hl]
   unfold Lx.dz
   split
   ·rw[List.length_drop];omega
   ·exact Nat.le_refl _
  obtain⟨D,hD⟩:∃D,D=p++[x,y]:=⟨_,rfl⟩
  have hDd:Ps.qM D:=λc hc=>by
   rw[hD]at hc
   rcases List.mem_append.1 hc with h|h
   ·exact hpd c h
   ·simp only[List.mem_cons,List.mem_nil_iff,or_false]at h
    rcases h with rfl|rfl
    ·exact hxd
    ·exact Pd
  have hdgn:dg t t.size=D:=by
   unfold dg
   rw[Lv,ht,hD,List.filter_append,Bc hpd]
   simp[lN hxd,lN Pd]
  obtain⟨ng,hng⟩:∃ng:Bool,ng=Lib.hasPrefix s.data.toList [45]:=⟨_,rfl⟩
  have hhd:ng=true↔s.data.toList.head? =some 45:=by
   rw[hng]
   unfold Lib.hasPrefix
   cases s.data.toList with
   |nil=>simp[List.isPrefixOf]
   |cons c l=>
    simp only[List.isPrefixOf,Bool.and_true,beq_iff_eq,List.head?_cons,Option.some.injEq]
    exact eq_comm
  have hext:(ng=true->0<s.size/\s.extract 1 s.size=t)/\(ng=false->t=s):=by
   constructor
   ·intro h
    have h2:=hhd.1 h
    refine⟨?_,?_⟩
    ·cases hc:s.data.toList with
     |nil=>rw[hc]at h2;cases h2
     |cons c l=>rw[<-hl,hc];simp
    ·rw[vG]
     unfold Lx.dz at hu
     rw[if_pos h2]at hu
     rw[<-hu]
   ·intro h
    have h2:¬s.data.toList.head? =some 45:=λhh=>by rw[hhd.2 hh]at h;cases h
    unfold Lx.dz at hu
    rw[if_neg h2]at hu
    obtain⟨⟨a⟩⟩:=t
    obtain⟨⟨b⟩⟩:=s
    have:a=b:=hu
    rw[this]
  have hg:(ng=true/\decide (0<s.size)=true/\0<s.size/\(PlainAid.bt s 0==45)=true)\/(ng=false/\(decide (0<s.size)=false\/decide (0<s.size)=true/\0<s.size/\(PlainAid.bt s 0==45)=false)):=by
   have hs0:0<s.size:=by omega
   obtain⟨c,l,hc⟩:∃c l,s.data.toList=c::l:=by
    cases hc:s.data.toList with
    |nil=>rw[hc]at hl;simp at hl;omega
    |cons c l=>exact⟨c,l,rfl⟩
   have hb:=Eo s _ 0 c hc (by simp)
   have hcc:ng=true↔c=45:=by rw[hhd,hc];simp
   cases ng with
   |true=>
    left
    refine⟨rfl,by simp[hs0],hs0,?_⟩
    rw[hb,hcc.1 rfl];rfl
   |false=>
    right
    refine⟨rfl,.inr ⟨by simp[hs0],hs0,?_⟩⟩
    rw[hb,beq_eq_false_iff_ne]
    intro hx
    have:c=45:=by
     apply UInt8.toNat_inj.1
     show c.toNat=45
     omega
    have:=hcc.2 this
    cases this
  obtain⟨R,hR⟩:∃R,R=JD (if ng=true then 0-(Ps.gY 0 D:Int)else(Ps.gY 0 D:Int)):=⟨_,rfl⟩
  have hdot:PlainAid.bt t p.length=46:=Eo t _ _ 46 ht (by rw[List.getElem?_append_right (Nat.le_refl _),Nat.sub_self];rfl)
  have hstep:∀i,i<t.size->i≠p.length->∃c:UInt8,(48<=c.toNat/\c.toNat<=57)/\PlainAid.bt t i=(c.toNat:Int)/\dg t (i+1)=dg t i++[c]:=λi hi him=>by
   obtain⟨c,e1,e2,e3⟩:=tH t i hi
   have hc:48<=c.toNat/\c.toNat<=57:=by
    obtain⟨c',hc'⟩:∃c',(p++[46,x,y])[i]? =some c':=⟨_,List.getElem?_eq_getElem (by rw[<-ht,htl];exact hi)⟩
    have hb:=Eo t _ i c' ht hc'
    have hcc:c=c':=by
     apply UInt8.toNat_inj.1
     rw[e2]at hb
     omega
    subst hcc
    by_cases hip:i<p.length
    ·rw[List.getElem?_append_left hip]at hc'
     exact hpd c (List.mem_of_getElem? hc')
    ·rw[List.getElem?_append_right (by omega)]at hc'
     obtain⟨q,hq⟩:∃q,i-p.length=q+1:=⟨i-p.length-1,by omega⟩
     rw[hq]at hc'
     match q,hc' with
     |0,hc'=>cases hc';exact hxd
     |1,hc'=>cases hc';exact Pd
     |q+2,hc'=>simp at hc'
   refine⟨c,hc,e2,?_⟩
   unfold dg
   rw[e1,List.filter_append]
   simp[lN hc]
  have hdm:dg t (p.length+1)=dg t p.length:=by
   obtain⟨c,e1,e2,e3⟩:=tH t p.length (by omega)
   have:c=46:=by
    apply UInt8.toNat_inj.1
    show c.toNat=46
    omega
   unfold dg
   rw[e1,List.filter_append,this]
   simp
  have m2:=rk_amL s t w (by omega) p.length (by omega) (Lib.hid htz) hp1 (by omega) ng hg (Lib.hid hext) (by rw[hdot];rfl) ?hz0 (λi=>(Ps.gY 0 (dg t i):Int)) (λi=>(dg t i).all (· ==48)) rfl rfl (Lib.hid ⟨by simp only[hdm],by simp only[hdm]⟩)
   (Lib.hid λi hi him=>?step) (Lib.hid λi hi=>?bnd) (Lib.hid λhz=>?zn) R (Lib.hid (by rw[hR];simp only[hdgn]))
  case hz0=>
   by_cases h48:PlainAid.bt t 0=48
   ·right
    refine⟨by simp[h48],decide_eq_false ?_⟩
    cases hpc:p with
    |nil=>rw[hpc]at hp1;simp at hp1
    |cons c q=>
     have hb:=Eo t _ 0 c ht (by rw[hpc];rfl)
     have zC:c=48:=by
      apply UInt8.toNat_inj.1
      show c.toNat=48
      omega
     unfold Lx.whole at hw
     rw[hpc,zC]at hw
     simp at hw
     have hq:q=[]:=List.eq_nil_of_length_eq_zero (by simpa using hw.2)
     rw[hpc,hq]at htz
     simp at htz
     omega
   ·left;simp[h48]
  case step=>
   obtain⟨c,hc,e1,e2⟩:=hstep i hi him
   refine⟨by omega,by omega,?_,?_⟩
   ·show(Ps.gY 0 (dg t (i+1)):Int)=_
    rw[e2,Ps.xE,e1]
    by_cases hb:Ps.gY 0 (dg t i)<=1000000000000000
    ·rw[if_pos hb,if_pos (by omega)];omega
    ·rw[if_neg hb,if_neg (by omega)]
   ·show(dg t (i+1)).all (· ==48)=_
    rw[e2,List.all_append,e1]
    congr 1
    simp only[List.all_cons,List.all_nil,Bool.and_true]
    rw[Bool.eq_iff_iff,beq_iff_eq,beq_iff_eq]
    constructor
    ·rintro rfl;rfl
    ·intro h
     apply UInt8.toNat_inj.1
     show c.toNat=48
     omega
  case bnd=>
   have:=Ps.Nb 10000000000000009 (Nat.le_refl _) (dg t i) 0 (Mt t p x y ht hpd hxd Pd i) (by omega)
   omega
  case zn=>
   have hz:(dg t t.size).all (· ==48)=true:=hz
   rw[hdgn,hD,List.all_append,Bool.and_eq_true]at hz
   cases hngc:ng with
   |false=>rfl
   |true=>
    exfalso
    have hs2:=hhd.1 hngc
    apply hzz
    have hp48:p=[48]:=by
     cases hpc:p with
     |nil=>rw[hpc]at hp1;simp at hp1
     |cons c q=>
      rw[hpc]at hz
      simp at hz
      unfold Lx.whole at hw
      rw[hpc,hz.1.1]at hw
      simp at hw
      have hq:q=[]:=List.eq_nil_of_length_eq_zero (by simpa using hw.2)
      rw[hz.1.1,hq]
    have hxy:x=48/\y=48:=by simpa using hz.2
    have h2:Lx.dz s.data.toList=[48,46,48,48]:=by rw[<-hu,ht,hp48,hxy.1,hxy.2];rfl
    unfold Lx.dz at h2
    rw[if_pos hs2]at h2
    cases hc:s.data.toList with
    |nil=>rw[hc]at hs2;cases hs2
    |cons c l=>
     rw[hc]at hs2 h2
     obtain rfl:c=45:=by simpa using hs2
     have:l=[48,46,48,48]:=by simpa using h2
     rw[this]
  have hcut:Lib.cut (Lib.trimPrefix s.data.toList [45]) [46]=(p,[x,y],true):=by
   rw[Lx.Eg,<-hu,ht]
   exact Lx.si p [x,y] λh=>by have:=lN (hpd 46 h);simp at this
  have hDne:D≠[]:=by rw[hD];simp
  obtain⟨p1,p2⟩:=Ps.pI D hDd hDne
  have hamt:pu s=match Lib.parseIntB 64 D with| .ok v=>xu (if ng=true then wrap64 (-v)else v)|_=>(0,12):=by
   unfold pu
   rw[hcut,<-hD,<-hng]
   cases Lib.parseIntB 64 D<;>rfl
  have hcan:=Ps.GG D
  have hgoal:(if (pu s).2=0 then qC (pu s).1 else(0,2))=if ng=true then(0,2)else Ps.canon (Ps.dU 0 D):=by
   rw[hamt]
   rcases hp:Lib.parseIntB 64 D with v|_|_
   ·have hv:=p2 v hp
    have hvb:=Lib.parseIntB_bounds hp
    simp only
    cases ng with
    |true=>
     have hwv:wrap64 (-v)= -v:=by unfold wrap64;omega
     simp only[if_true,hwv]
     unfold xu
     by_cases hb: -1000000000000000≤-v∧-v<=1000000000000000
     ·simp only[if_pos hb,if_true]
      unfold qC
      rw[if_pos (by omega)]
     ·simp only[if_neg hb]
      rfl
    |false=>
     simp only[Bool.false_eq_true,if_false]
     unfold xu Ps.canon
     by_cases hb: -1000000000000000<=v/\v<=1000000000000000
     ·simp only[if_pos hb,if_true]
      unfold qC
      by_cases h0:v<1
      ·rw[if_pos (by omega),if_neg (by omega)]
      ·rw[if_neg (by omega),if_pos (by omega),hv]
     ·simp only[if_neg hb]
      rw[if_neg (c:=1<=Ps.dU 0 D/\Ps.dU 0 D<=1000000000000000) (by omega)]
      rfl
   ·have:¬Ps.dU 0 D<=1000000000000000:=λh=>by rw[p1 h]at hp;cases hp
    have hc:Ps.canon (Ps.dU 0 D)=(0,2):=by unfold Ps.canon;rw[if_neg (by omega)]
    rw[hc]
    simp
   ·have:¬Ps.dU 0 D<=1000000000000000:=λh=>by rw[p1 h]at hp;cases hp
    have hc:Ps.canon (Ps.dU 0 D)=(0,2):=by unfold Ps.canon;rw[if_neg (by omega)]
    rw[hc]
    simp
  rw[hgoal]
  refine MO s w R.1 R.2 _ ?_ m1 m2
  rw[<-hcan]
  rw[hR]
  unfold JD Ps.canon
  cases ng with
  |true=>
   simp only[if_true]
   by_cases hb: -1000000000000000<=0-(Ps.gY 0 D:Int)/\0-(Ps.gY 0 D:Int)<=1000000000000000
   ·simp only[if_pos hb]
    exact .inr (.inl ⟨rfl,decide_eq_true (by omega),trivial⟩)
   ·simp only[if_neg hb]
    exact .inl ⟨rfl,trivial⟩
  |false=>
   simp only[Bool.false_eq_true,if_false]
   by_cases hb: -1000000000000000<=(Ps.gY 0 D:Int)/\(Ps.gY 0 D:Int)<=1000000000000000
   ·simp only[if_pos hb]
    by_cases h0:(Ps.gY 0 D:Int)<1
    ·exact .inr (.inl ⟨rfl,decide_eq_true h0,by rw[if_neg (by omega)]⟩)
    ·exact .inr (.inr ⟨rfl,decide_eq_false h0,by rw[if_pos (by omega)]⟩)
   ·simp only[if_neg hb]
    exact .inl ⟨rfl,by rw[if_neg (by omega)]⟩
 ·rw[if_neg hk]
  refine Dl s w _ _ ?_ m1
  by_cases he:(Lx.aI s).2=0
  ·right
   refine⟨by simp[he],?_⟩
   rw[bne_iff_ne]
   intro hk2
   apply hk
   rw[<-hk2,<-he]
  ·left;simp[he]
theorem JG (w:World)(y:Int)(h40:y.tmod 400=0->y.tmod 4=0):
 Calls Tryz.prog 151 #[.int .i64 y] w λe w'=>e=.returned (.bool (decide (y.tmod 4=0)&&!decide (y.tmod 100=0)||decide (y.tmod 400=0)))/\w'=w:=by
 obtain⟨b,hb⟩:∃b,b=(decide (y.tmod 4=0)&&!decide (y.tmod 100=0)||decide (y.tmod 400=0)):=⟨_,rfl⟩
 rw[<-hb]
 have HB:=Lib.hid hb
 clear hb
 by_cases h4:y.tmod 4=0
 all_goals by_cases h100:y.tmod 100=0
 all_goals by_cases IE:y.tmod 400=0
 all_goals first|(exact absurd (h40 IE) h4)|skip
 all_goals
  have HV:=HB.out
  simp only[h4,h100,IE,decide_true,decide_false,Bool.not_true,Bool.not_false,Bool.and_true,Bool.and_false,Bool.or_true,Bool.or_false]at HV
  subst HV
  clear HB h40
  go_enter Tryz.func151,Tryz.ntmps151
  go_wp2_with fail
  go_ret
  first
   |exact⟨rfl,rfl⟩
   |(refine⟨?_,rfl⟩
     show Ending.returned (.bool (y.tmod 400==0))=_
     rw[show(y.tmod 400==0)=false from by rw[beq_eq_false_iff_ne];exact IE])
theorem Au (w:World)(y:Int)(h1:2000<=y):
 Calls Tryz.prog 151 #[.int .i64 y] w λe w'=>e=.returned (.bool (Ps.zR y))/\w'=w:=by
 have t4:y.tmod 4=y%4:=Int.tmod_eq_emod_of_nonneg (by omega)
 have t1:y.tmod 100=y%100:=Int.tmod_eq_emod_of_nonneg (by omega)
 have t0:y.tmod 400=y%400:=Int.tmod_eq_emod_of_nonneg (by omega)
 have h:=JG w y (by rw[t4,t0];omega)
 rw[t4,t1,t0]at h
 exact h
theorem CZ (w:World)(y m:Int)(h:y<2000\/(¬y<2000/\y>2199)\/(¬y<2000/\¬y>2199/\m<1)\/(¬y<2000/\¬y>2199/\¬m<1/\m>12)):
 Calls Tryz.prog 152 #[.int .i64 y,.int .i64 m] w λe w'=>e=.returned (.int .i64 0)/\w'=w:=by
 rcases h with a|⟨a,b⟩|⟨a,b,c⟩|⟨a,b,c,d⟩
 all_goals
  go_enter Tryz.func152,Tryz.ntmps152
  go_wp2_with fail
  go_ret
  exact⟨rfl,rfl⟩
theorem Gy (w:World)(y m:Int)(a:¬y<2000)(b:¬y>2199)(h:m=4\/m=6\/m=9\/m=11):
 Calls Tryz.prog 152 #[.int .i64 y,.int .i64 m] w λe w'=>e=.returned (.int .i64 30)/\w'=w:=by
 rcases h with rfl|rfl|rfl|rfl
 all_goals
  go_enter Tryz.func152,Tryz.ntmps152
  go_wp2_with fail
  go_ret
  exact⟨rfl,rfl⟩
theorem HY (w:World)(y m:Int)(a:¬y<2000)(b:¬y>2199)(h:m=1\/m=3\/m=5\/m=7\/m=8\/m=10\/m=12):
 Calls Tryz.prog 152 #[.int .i64 y,.int .i64 m] w λe w'=>e=.returned (.int .i64 31)/\w'=w:=by
 rcases h with rfl|rfl|rfl|rfl|rfl|rfl|rfl
 all_goals
  go_enter Tryz.func152,Tryz.ntmps152
  go_wp2_with fail
  go_ret
  exact⟨rfl,rfl⟩
theorem DZ (w:World)(y:Int)(a:¬y<2000)(b:¬y>2199)(l:Bool)(n1:∀w,Calls Tryz.prog 151 #[.int .i64 y] w λe w'=>e=.returned (.bool l)/\w'=w):
 Calls Tryz.prog 152 #[.int .i64 y,.int .i64 2] w λe w'=>e=.returned (.int .i64 (if l=true then 29 else 28))/\w'=w:=by
 cases l
 all_goals
  go_enter Tryz.func152,Tryz.ntmps152
  go_wp2_with (go_at_call 151;refine(n1 _).mono ?_;rintro x w1 ⟨rfl,rfl⟩)
  go_ret
  exact⟨rfl,rfl⟩
theorem uY (w:World)(y m:Int):
 Calls Tryz.prog 152 #[.int .i64 y,.int .i64 m] w λe w'=>e=.returned (.int .i64 (Ps.dim y m))/\w'=w:=by
 unfold Ps.dim
 by_cases ho:y<2000\/2199<y\/m<1\/12<m
 ·rw[if_pos ho]
  exact CZ w y m (by omega)
 ·rw[if_neg ho]
  have a:¬y<2000:=by omega
  have b:¬y>2199:=by omega
  by_cases h2:m=2
  ·subst h2
   rw[if_pos rfl]
   exact DZ w y a b _ λw=>Au w y (by omega)
  ·rw[if_neg h2]
   by_cases h4:m=4\/m=6\/m=9\/m=11
   ·rw[if_pos h4]
    exact Gy w y m a b h4
   ·rw[if_neg h4]
    exact HY w y m a b (by omega)
theorem CU (s:ByteArray)(w:World)(hs:s.size<=16)(hd:Hid (Ps.qM s.data.toList)):
 Calls Tryz.prog 145 #[.string s] w λx w'=>x=.returned (.int .i64 (Ps.dU 0 s.data.toList:Nat))/\w'=w:=by
 have hub:=PlainAid.get_bt s
 go_enter Tryz.func145,Tryz.ntmps145
 go_wp2_with fail
 go_loopw [3,4] (λnv iv wr=>∃i N:Nat,iv=.int .i64 i/\nv=.int .i64 N/\i<=s.size/\Hid (N=Ps.dU 0 (tk s i))/\wr=w) (λ_ iv _=>2000-(RowKit.intOf iv).toNat)
 case atStart=>exact⟨0,0,rfl,rfl,Nat.zero_le _,Lib.hid rfl,rfl⟩
 case round=>
  obtain⟨i,N,rfl,rfl,hi,HN,rfl⟩:=hrel
  have hN:N<10000000000000000:=by
   have h1:=Ps.Em (tk s i) 0 (λc hc=>hd.out c (List.mem_of_mem_take hc))
   have h2:(tk s i).length<=16:=by unfold tk;rw[List.length_take];omega
   have h3:10^(tk s i).length<=10^16:=Nat.pow_le_pow_right (by omega) h2
   have h4:(10:Nat)^16=10000000000000000:=by decide
   rw[HN.out]
   omega
  by_cases hlt:i<s.size
  ·obtain⟨c,e1,e2,e3⟩:=tH s i hlt
   have hc:=hd.out c e3
   have jc:(i:Int)<(s.size:Int):=by omega
   have HN2:Hid (10*N+(c.toNat-48)=Ps.dU 0 (tk s (i+1))):=Lib.hid (by rw[e1,Ps.qx,<-HN.out];omega)
   obtain⟨d,hd'⟩:∃d:Int,d=(c.toNat:Int):=⟨_,rfl⟩
   rw[<-hd']at e2
   have hd1:48<=d/\d<=57:=by omega
   have q1:IntKind.u8.wrap (d-48)=d-48:=IntWalk.u8_in _ (by omega)
   have q5:IntKind.i64.wrap (d-48)=d-48:=gL (by omega)
   obtain⟨x,hx⟩:∃x:Int,x=(N:Int):=⟨_,rfl⟩
   rw[<-hx]
   have q6:IntKind.i64.wrap (10*x)=10*x:=gL (by omega)
   have q7:IntKind.i64.wrap (10*x+(d-48))=10*x+(d-48):=gL (by omega)
   have hw1:wrap64 ((i:Int)+1)=((i+1:Nat):Int):=by unfold wrap64;omega
   have HE:Hid (10*x+(d-48)=((10*N+(c.toNat-48):Nat):Int)):=Lib.hid (by omega)
   clear hx e1 e3 hc HN hN hd1 hd' hd
   go_wp2_with fail
   refine⟨⟨i+1,10*N+(c.toNat-48),by first|rfl|go_num,by first|exact congrArg (Value.int .i64) HE.out|(rw[HE.out]),hlt,HN2,trivial⟩,by simp[RowKit.intOf]<;>omega⟩
  ·obtain rfl:i=s.size:=by omega
   have hx:N=Ps.dU 0 s.data.toList:=by rw[HN.out];congr 1;exact List.take_length
   have jc:¬((s.size:Nat):Int)<(s.size:Int):=by omega
   clear HN hN hlt
   go_wp2_with fail
   go_ret
   exact⟨by rw[<-hx];rfl,rfl⟩
theorem KE (l:List UInt8):∀a:Nat,l.foldl (λn c=>10*n+(c.toNat-48)) a=Ps.dU a l:=by
 induction l with
 |nil=>intro a;rfl
 |cons c l ih=>
  intro a
  rw[List.foldl_cons,ih]
  conv=>rhs;unfold Ps.dU
  rw[Nat.mul_comm 10 a]
def rU (y m d:Int):Value:=.agg #[.int .i64 y,.int .i64 m,.int .i64 d]
theorem Cg (w:World)(y m d n:Int)(b1 b2:Bool)(h1:decide (d>=1)=b1)(h2:decide (d<=n)=b2)(n1:Hid (∀w,Calls Tryz.prog 152 #[.int .i64 y,.int .i64 m] w λe w'=>e=.returned (.int .i64 n)/\w'=w)):
 Calls Tryz.prog 146 #[rU y m d] w λe w'=>e=.returned (.bool (b1&&b2))/\Below w.heap.size w w':=by
 unfold rU
 cases b1<;>cases b2
 all_goals
  go_enter Tryz.func146,Tryz.ntmps146
  go_wp2_with fail
  obtain⟨w9,iJ⟩:∃w9,w9=w.alloc (Obj.cells #[.int .i64 y,.int .i64 m,.int .i64 d] 150):=⟨_,rfl⟩
  obtain⟨q,hq⟩:∃q,q=w.heap.size:=⟨_,rfl⟩
  have bu:w9.heap[q]? =some (.cells #[.int .i64 y,.int .i64 m,.int .i64 d] 150 (0,0)):=by rw[iJ,hq];exact aD w _
  have Mk:Hid (Below w.heap.size w w9):=Lib.hid (by rw[iJ];exact(Below.refl _ _).alloc (Nat.le_refl _) _)
  have y0:w9.cell? ⟨q,0,none⟩=some (.int .i64 y):=by rw[cell_of_row _ _ _ _ _ _ bu];rfl
  have y1:w9.cell? ⟨q,1,none⟩=some (.int .i64 m):=by rw[cell_of_row _ _ _ _ _ _ bu];rfl
  have y2:w9.cell? ⟨q,2,none⟩=some (.int .i64 d):=by rw[cell_of_row _ _ _ _ _ _ bu];rfl
  rw[<-iJ,<-hq]
  clear bu iJ hq
  go_quiet (first|(go_at_call 152;exact Calls.quiet_of_same (n1.out _)))
  go_wp2_with fail
  go_ret
  exact⟨rfl,below_drewN' Mk.out _⟩
theorem Ef (k:Nat)(h:k<=200):0<=Ps.oq k/\Ps.oq k<=100000:=by
 rw[Ps.ym]
 exact Ps.tX (by omega) (by omega)
theorem Cy (y m:Int):0<=Ps.dim y m/\Ps.dim y m<=31:=by
 unfold Ps.dim
 split
 ·omega
 ·split
  ·split<;>omega
  ·split<;>omega
theorem Nl (y:Int)(k:Nat):0<=Ps.gm y k/\Ps.gm y k<=31*k:=by
 induction k with
 |zero=>simp[Ps.gm]
 |succ k ih=>
  have:=Cy y ((k:Int)+1)
  unfold Ps.gm
  omega
theorem G8 (w:World)(Y M:Nat)(d:Int)(hY:Y<=199)(hM:M<=11)(hd:1<=d/\d<=31):
 Calls Tryz.prog 147 #[rU (2000+(Y:Int)) ((M:Int)+1) d] w λe w'=>e=.returned (.int .i64 (Ps.oq Y+Ps.gm (2000+(Y:Int)) M+d-1))/\Below w.heap.size w w':=by
 unfold rU
 obtain⟨y,hy⟩:∃y:Int,y=2000+(Y:Int):=⟨_,rfl⟩
 rw[<-hy]
 obtain⟨m,hm⟩:∃m:Int,m=(M:Int)+1:=⟨_,rfl⟩
 rw[<-hm]
 have HYY:Hid (y=2000+(Y:Int)/\m=(M:Int)+1):=Lib.hid ⟨hy,hm⟩
 have hyb:2000<=y/\y<=2199:=by omega
 clear hy hm
 go_enter Tryz.func147,Tryz.ntmps147
 go_wp2_with fail
 obtain⟨w9,iJ⟩:∃w9,w9=w.alloc (Obj.cells #[.int .i64 y,.int .i64 m,.int .i64 d] 150):=⟨_,rfl⟩
 obtain⟨q,hq⟩:∃q,q=w.heap.size:=⟨_,rfl⟩
 have bu:w9.heap[q]? =some (.cells #[.int .i64 y,.int .i64 m,.int .i64 d] 150 (0,0)):=by rw[iJ,hq];exact aD w _
 have Mk:Hid (Below w.heap.size w w9):=Lib.hid (by rw[iJ];exact(Below.refl _ _).alloc (Nat.le_refl _) _)
 have y0:w9.cell? ⟨q,0,none⟩=some (.int .i64 y):=by rw[cell_of_row _ _ _ _ _ _ bu];rfl
 have y1:w9.cell? ⟨q,1,none⟩=some (.int .i64 m):=by rw[cell_of_row _ _ _ _ _ _ bu];rfl
 have y2:w9.cell? ⟨q,2,none⟩=some (.int .i64 d):=by rw[cell_of_row _ _ _ _ _ _ bu];rfl
 rw[<-iJ,<-hq]
 clear bu iJ hq
 go_loopw [3,4] (λnv iv wr=>∃k:Nat,∃i n:Int,iv=.int .i64 i/\nv=.int .i64 n/\i=2000+(k:Int)/\Hid (n=Ps.oq k)/\k<=Y/\wr=w9) (λ_ iv _=>5000-(RowKit.intOf iv).toNat)
 case atStart=>exact⟨0,2000,0,rfl,rfl,rfl,Lib.hid rfl,Nat.zero_le _,rfl⟩
 case round=>
  obtain⟨k,i,n,rfl,rfl,hi,HN,hk,hwr⟩:=hrel
  subst hwr
  have hyy:=HYY.out
  have hb:=Ef k (by omega)
  rw[<-HN.out]at hb
  by_cases hlt:i<y
  ·have hk1:k+1<=Y:=by omega
   have hi1:i+1=2000+((k+1:Nat):Int):=by omega
   have hiy:i<=2199/\2000<=i:=by omega
   have n1:=Au wr i (by omega)
   have q1:IntKind.i64.wrap (n+365)=n+365:=gL (by omega)
   have q2:IntKind.i64.wrap (n+365+1)=n+365+1:=gL (by omega)
   have q3:IntKind.i64.wrap (i+1)=i+1:=gL (by omega)
   have hsuc:Ps.oq (k+1)=Ps.oq k+365+(if Ps.zR i=true then 1 else 0):=by rw[hi];rfl
   rw[<-HN.out]at hsuc
   have HS:=Lib.hid hsuc
   have HI:=Lib.hid hi1
   clear hsuc hyy hi hi1
   cases hl:Ps.zR i with
   |true=>
    rw[hl]at n1
    have HS2:Hid (n+365+1=Ps.oq (k+1)):=Lib.hid (by rw[HS.out,hl];rfl)
    clear HS HN
    go_wp2_with (go_at_call 151;refine n1.mono ?_;rintro x w1 ⟨rfl,rfl⟩)
    go_roundw
    case rel=>exact⟨k+1,i+1,n+365+1,by first|rfl|go_num,by first|rfl|go_num,HI.out,HS2,hk1,by first|rfl|trivial⟩
    case measure=>simp[RowKit.intOf];omega
   |false=>
    rw[hl]at n1
    have HS2:Hid (n+365=Ps.oq (k+1)):=Lib.hid (by rw[HS.out,hl];simp)
    clear HS HN
    go_wp2_with (go_at_call 151;refine n1.mono ?_;rintro x w1 ⟨rfl,rfl⟩)
    go_roundw
    case rel=>exact⟨k+1,i+1,n+365,by first|rfl|go_num,by first|rfl|go_num,HI.out,HS2,hk1,by first|rfl|trivial⟩
    case measure=>simp[RowKit.intOf];omega
  ·have hkY:k=Y:=by omega
   have HKY:=Lib.hid hkY
   clear hyy hi hkY hk hb
   go_wp2_with fail
   go_loopw [3,5] (λnv iv wr2=>∃k:Nat,∃j x:Int,iv=.int .i64 j/\nv=.int .i64 x/\j=(k:Int)+1/\Hid (x=Ps.oq Y+Ps.gm y k)/\k<=M/\wr2=wr) (λ_ iv _=>5000-(RowKit.intOf iv).toNat)
   case atStart=>exact⟨0,1,n,rfl,rfl,rfl,Lib.hid (by rw[HN.out,HKY.out];simp[Ps.gm]),Nat.zero_le _,rfl⟩
   case round=>
    obtain⟨k2,j,x,rfl,rfl,hj,HX,hk2,hwr2⟩:=hrel
    subst hwr2
    have hyy:=HYY.out
    have hbm:=Nl y k2
    have hx:=HX.out
    have hby:=Ef Y (by omega)
    by_cases hlt2:j<m
    ·have hk1:k2+1<=M:=by omega
     have hj1:j+1=((k2+1:Nat):Int)+1:=by omega
     have hjb:1<=j/\j<=12:=by omega
     have n2:=λw=>uY w y j
     have hdm:=Cy y j
     have q4:IntKind.i64.wrap (x+Ps.dim y j)=x+Ps.dim y j:=gL (by omega)
     have q5:IntKind.i64.wrap (j+1)=j+1:=gL (by omega)
     have HS2:Hid (x+Ps.dim y j=Ps.oq Y+Ps.gm y (k2+1)):=Lib.hid (by
      show _=Ps.oq Y+(Ps.gm y k2+Ps.dim y ((k2:Int)+1))
      rw[hx,hj]
      omega)
     have HJ:=Lib.hid hj1
     clear hx HX hbm hby hdm hyy hj hj1
     go_wp2_with (go_at_call 152;refine(n2 _).mono ?_;rintro z w1 ⟨rfl,rZ⟩;obtain rfl:=rZ.symm;clear rZ)
     go_roundw
     case rel=>exact⟨k2+1,j+1,x+Ps.dim y j,by first|rfl|go_num,by first|rfl|go_num,HJ.out,HS2,hk1,by first|rfl|trivial⟩
     case measure=>simp[RowKit.intOf];omega
    ·have hkM:k2=M:=by omega
     have q6:IntKind.i64.wrap (x+d)=x+d:=gL (by omega)
     have q7:IntKind.i64.wrap (x+d-1)=x+d-1:=gL (by omega)
     rw[hkM]at hx
     have HX2:=Lib.hid hx
     clear HX hbm hby hyy hj hkM hx
     go_wp2_with fail
     go_ret
     exact⟨by rw[<-HX2.out];rfl,Mk.out⟩
theorem Jf (w:World)(y m d:Int)(hy:2000<=y/\y<=2199)(hm:1<=m/\m<=12)(hd:1<=d/\d<=31):
 Calls Tryz.prog 147 #[rU y m d] w λe w'=>e=.returned (.int .i64 (Ps.l9 (y-2000)+Ps.gm y (m-1).toNat+d-1))/\Below w.heap.size w w':=by
 have h:=G8 w (y-2000).toNat (m-1).toNat d (by omega) (by omega) hd
 have e1:2000+(((y-2000).toNat:Nat):Int)=y:=by omega
 have e2:(((m-1).toNat:Nat):Int)+1=m:=by omega
 have e3:(((y-2000).toNat:Nat):Int)=y-2000:=by omega
 rw[Ps.ym,e1,e2,e3]at h
 exact h
def jb (f c:Int):Bool:=if f=48 then !(decide (c<48)||decide (c>57))else decide (c=f)
theorem BL (s p:ByteArray)(w:World)(hsz:((s.size:Int) !=(p.size:Int))=true):
 Calls Tryz.prog 144 #[.string s,.string p] w λe w'=>e=.returned (.bool false)/\Below w.heap.size w w':=by
 go_enter Tryz.func144,Tryz.ntmps144
 go_wp2_with fail
 go_ret
 exact⟨rfl,Below.refl _ _⟩
inductive xN (pc sc:Int):Bool->Prop
 |dig (h1:(pc==48)=true) (h2:(pc !=48)=false) (h3:decide (sc<48)=false) (h4:decide (sc>57)=false):xN pc sc true
 |low (h1:(pc==48)=true) (h2:(pc !=48)=false) (h3:decide (sc<48)=true):xN pc sc false
 |high (h1:(pc==48)=true) (h2:(pc !=48)=false) (h3:decide (sc<48)=false) (h4:decide (sc>57)=true):xN pc sc false
 |same (h1:(pc==48)=false) (h2:(pc !=48)=true) (h3:(sc !=pc)=false):xN pc sc true
 |other (h1:(pc==48)=false) (h2:(pc !=48)=true) (h3:(sc !=pc)=true):xN pc sc false
theorem Jd (pc sc:Int):xN pc sc (jb pc sc):=by
 unfold jb
 by_cases h:pc=48
 ·rw[if_pos h]
  by_cases h3:sc<48
  ·have e:(!(decide (sc<48)||decide (sc>57)))=false:=by simp[h3]
   rw[e]
   exact .low (by simp[h]) (by simp[h]) (by simp[h3])
  ·by_cases h4:sc>57
   ·have e:(!(decide (sc<48)||decide (sc>57)))=false:=by simp[h4]
    rw[e]
    exact .high (by simp[h]) (by simp[h]) (by simpa using h3) (by simp[h4])
   ·have e:(!(decide (sc<48)||decide (sc>57)))=true:=by simp at h3 h4⊢;omega
    rw[e]
    exact .dig (by simp[h]) (by simp[h]) (by simpa using h3) (by simpa using h4)
 ·rw[if_neg h]
  by_cases h3:sc=pc
  ·rw[decide_eq_true h3]
   exact .same (by simp[h]) (by simp[h]) (by simp[h3])
  ·rw[decide_eq_false h3]
   exact .other (by simp[h]) (by simp[h]) (by simp[h3])
theorem EW (s p:ByteArray)(w:World)(n j:Nat)(hs:s.size=n)(hp:p.size=n)(hn:n<=16)(hj:j<=n)(r:Bool)(hgood:Hid (∀i,i<j->jb (PlainAid.bt p i) (PlainAid.bt s i)=true))(hend:Hid ((j=n/\r=true)\/(j<n/\jb (PlainAid.bt p j) (PlainAid.bt s j)=false/\r=false))):
 Calls Tryz.prog 144 #[.string s,.string p] w λe w'=>e=.returned (.bool r)/\Below w.heap.size w w':=by
 have hub:=PlainAid.get_bt s
 have hub2:=PlainAid.get_bt p
 have hsz:((s.size:Int) !=(p.size:Int))=false:=by rw[hs,hp];simp
 have Ka:=Lib.hid (And.intro hs hp)
 clear hs hp
 go_enter Tryz.func144,Tryz.ntmps144
 go_wp2_with fail
 go_loopw [5] (λiv wr=>∃i:Nat,iv=.int .i64 i/\i<=j/\Below w.heap.size w wr) (λiv _=>2000-(RowKit.intOf iv).toNat)
 case atStart=>exact⟨0,rfl,Nat.zero_le _,Below.refl _ _⟩
 case round=>
  obtain⟨i,rfl,hi,hb⟩:=hrel
  have HB:=Lib.hid hb
  clear hb hsz
  have hs:=Ka.out.1
  have hp:=Ka.out.2
  by_cases hin:i<n
  ·have hx:i<s.size:=by omega
   have hx2:i<p.size:=by omega
   have hxi:(i:Int)<(s.size:Int):=by omega
   have hxi2:(i:Int)<(p.size:Int):=by omega
   have HW1:Hid (wrap64 ((i:Int)+1)=((i+1:Nat):Int)):=Lib.hid (by unfold wrap64;omega)
   obtain⟨pc,hpc⟩:∃c,PlainAid.bt p i=c:=⟨_,rfl⟩
   obtain⟨sc,hsc⟩:∃c,PlainAid.bt s i=c:=⟨_,rfl⟩
   have iH:=Jd pc sc
   have HM:Hid (2000-(RowKit.intOf (.int .i64 ((i+1:Nat):Int))).toNat<2000-(RowKit.intOf (.int .i64 (i:Int))).toNat):=Lib.hid (by simp[RowKit.intOf];omega)
   have HJ:Hid ((i<j/\jb pc sc=true)\/(i=j/\jb pc sc=false/\r=false)):=Lib.hid (by
    by_cases hlt:i<j
    ·exact .inl ⟨hlt,by rw[<-hpc,<-hsc];exact hgood.out i hlt⟩
    ·have hij:i=j:=by omega
     rcases hend.out with⟨h1,_⟩|⟨_,hf,hr⟩
     ·omega
     ·exact .inr ⟨hij,by rw[<-hpc,<-hsc,hij];exact hf,hr⟩)
   have hub1:=hub i hx
   have hub3:=hub2 i hx2
   rw[hsc]at hub1
   rw[hpc]at hub3
   clear hs hp hgood hend hub hub2 hin hsc hpc hn hj Ka
   rcases HJ.out with⟨hlt,hf⟩|⟨hij,hf,hr⟩
   ·rw[hf]at iH
    have HL:=Lib.hid hlt
    clear HJ hf hlt hi
    cases iH with
    |dig h1 h2 h3 h4=>
     go_wp2_with fail
     go_big_quiet (fail)
     have hw1:=HW1.out
     go_wp2_with fail
     go_roundw
     case rel=>exact⟨i+1,by go_num,HL.out,below_drewN' HB.out _⟩
     case measure=>rw[HW1.out];exact HM.out
    |same h1 h2 h3=>
     go_wp2_with fail
     go_big_quiet (fail)
     have hw1:=HW1.out
     go_wp2_with fail
     go_roundw
     case rel=>exact⟨i+1,by go_num,HL.out,below_drewN' HB.out _⟩
     case measure=>rw[HW1.out];exact HM.out
   ·rw[hf]at iH
    subst hr
    clear HJ hf hij hi
    cases iH with
    |low h1 h2 h3=>
     go_wp2_with fail
     go_big_quiet (fail)
     go_wp2_with fail
     go_ret
     exact⟨rfl,below_drewN' HB.out _⟩
    |high h1 h2 h3 h4=>
     go_wp2_with fail
     go_big_quiet (fail)
     go_wp2_with fail
     go_ret
     exact⟨rfl,below_drewN' HB.out _⟩
    |other h1 h2 h3=>
     go_wp2_with fail
     go_big_quiet (fail)
     go_wp2_with fail
     go_ret
     exact⟨rfl,below_drewN' HB.out _⟩
  ·have hij:i=j/\j=n:=by omega
   have hr:r=true:=by
    rcases hend.out with⟨_,hr⟩|⟨h1,_⟩
    ·exact hr
    ·omega
   subst hr
   have hxi:¬(i:Int)<(s.size:Int):=by omega
   clear hs hp hij
   go_wp2_with fail
   go_ret
   exact⟨rfl,HB.out⟩
theorem Az (s:ByteArray)(w:World)(nS:Hid (Calls Tryz.prog 144 #[.string s,.string ⟨#[48,48,48,48,45,48,48,45,48,48]⟩] w λe w'=>e=.returned (.bool false)/\Below w.heap.size w w')):
 Calls Tryz.prog 112 #[.string s] w λe w'=>e=.returned (.tuple #[.int .i64 0,.int .i64 3])/\Below w.heap.size w w':=by
 go_enter Tryz.func112,Tryz.ntmps112
 go_wp2_with (go_at_call 144;refine nS.out.mono ?_;rintro x w1 ⟨rfl,hb⟩;have HB:=Lib.hid hb;clear hb)
 go_ret2
 exact⟨rfl,HB.out⟩
theorem Dv (s E1 E2 E3:ByteArray)(w:World)(hs:s.size=10)(h1:s.extract 0 4=E1)(h2:s.extract 5 7=E2)(h3:s.extract 8 s.size=E3)(y m d n e:Int)(b:Bool)(hres:Hid ((b=false/\n=0/\e=28)\/(b=true/\e=0)))
 (nS:Hid (Calls Tryz.prog 144 #[.string s,.string ⟨#[48,48,48,48,45,48,48,45,48,48]⟩] w λe w'=>e=.returned (.bool true)/\Below w.heap.size w w'))
 (n1:Hid (∀W,Calls Tryz.prog 145 #[.string E1] W λx w'=>x=.returned (.int .i64 y)/\w'=W))
 (n2:Hid (∀W,Calls Tryz.prog 145 #[.string E2] W λx w'=>x=.returned (.int .i64 m)/\w'=W))
 (n3:Hid (∀W,Calls Tryz.prog 145 #[.string E3] W λx w'=>x=.returned (.int .i64 d)/\w'=W))
 (nV:Hid (∀W,Calls Tryz.prog 146 #[rU y m d] W λx w'=>x=.returned (.bool b)/\Below W.heap.size W w'))
 (nF:Hid (b=true->∀W,Calls Tryz.prog 147 #[rU y m d] W λx w'=>x=.returned (.int .i64 n)/\Below W.heap.size W w')):
 Calls Tryz.prog 112 #[.string s] w λe' w'=>e'=.returned (.tuple #[.int .i64 n,.int .i64 e])/\Below w.heap.size w w':=by
 have k1:(4:Int)<=(s.size:Int):=by omega
 have k2:(7:Int)<=(s.size:Int):=by omega
 have k3:(8:Int)<=(s.size:Int):=by omega
 have k4:4<=s.size:=by omega
 have k5:7<=s.size:=by omega
 have k6:8<=s.size:=by omega
 clear hs
 go_enter Tryz.func112,Tryz.ntmps112
 go_upto_region 3 with(go_at_call 144;refine nS.out.mono ?_;rintro x w1 ⟨rfl,hb⟩;have HB:=Lib.hid hb;clear hb)
 clear nS
 obtain⟨W0,hW0⟩:∃W0,W0=w1.drew:=⟨_,rfl⟩
 obtain⟨W1,hW1⟩:∃W1,W1=W0.alloc (.cells #[.int .i64 0,.int .i64 0,.int .i64 0] 150):=⟨_,rfl⟩
 obtain⟨W2,hW2⟩:∃W2,W2=W0.alloc (.cells #[.int .i64 y,.int .i64 m,.int .i64 d] 150):=⟨_,rfl⟩
 have HW1:=Lib.hid hW1
 have HW2:=Lib.hid hW2
 have HW0:=Lib.hid hW0
 have ent_num:∀args w,(callFunc 145 args).run Tryz.prog w=.ok (.enter 145 args) w:=enters_of Tryz.func145 (by kernel_rfl) rfl
 refine Ord.sS (λdn w=>w=if dn 11 then W2 else if dn 10 then W1 else W0) (Ord.inD [(11,10)]) (Ord.ig (by kernel_rfl)) rfl (by kernel_rfl) (by kernel_rfl) (by simp;exact hW0.symm) ?_
 clear hW1 hW2 hW0
 refine Ord.fK (v:=?_) rfl (λdn w h=>by simpa using h) (λw=>?_) (λK hK=>?_)
 rotate_left
 ·(go_simp;first|done|exact rfl)
 go_simp
 refine hK _ ?_
 clear hK K
 refine Ord.fK (v:=?_) rfl (λdn w h=>by simpa using h) (λw=>?_) (λK hK=>?_)
 rotate_left
 ·(go_simp;first|done|exact rfl)
 go_simp
 refine hK _ ?_
 clear hK K
 refine Ord.oh (v:=.int .i64 y) rfl rfl ent_num (args:=#[.string E1]) (by first|rfl|(simp only[List.map_toArray,List.map_cons,List.map_nil];go_simp;done)) (λdn w hn hd he hS=>?_) (λK hK=>?_)
 ·(refine(n1.out _).mono ?_
   rintro x w' ⟨rfl,rfl⟩
   exact⟨rfl,by simpa using hS⟩)
 go_simp
 refine hK _ ?_
 clear hK K
 refine Ord.fK (v:=?_) rfl (λdn w h=>by simpa using h) (λw=>?_) (λK hK=>?_)
 rotate_left
 ·(go_simp;first|done|exact rfl)
 go_simp
 refine hK _ ?_
 clear hK K
 refine Ord.fK (v:=?_) rfl (λdn w h=>by simpa using h) (λw=>?_) (λK hK=>?_)
 rotate_left
 ·(go_simp;first|done|exact rfl)
 go_simp
 refine hK _ ?_
 clear hK K
 refine Ord.oh (v:=.int .i64 m) rfl rfl ent_num (args:=#[.string E2]) (by first|rfl|(simp only[List.map_toArray,List.map_cons,List.map_nil];go_simp;done)) (λdn w hn hd he hS=>?_) (λK hK=>?_)
 ·(refine(n2.out _).mono ?_
   rintro x w' ⟨rfl,rfl⟩
   exact⟨rfl,by simpa using hS⟩)
 go_simp
 refine hK _ ?_
 clear hK K
 refine Ord.fK (v:=?_) rfl (λdn w h=>by simpa using h) (λw=>?_) (λK hK=>?_)
 rotate_left
 ·(go_simp;first|done|exact rfl)
 go_simp
 refine hK _ ?_
 clear hK K
 refine Ord.fK (v:=?_) rfl (λdn w h=>by simpa using h) (λw=>?_) (λK hK=>?_)
 rotate_left
 ·(go_simp;first|done|exact rfl)
 go_simp
 refine hK _ ?_
 clear hK K
 refine Ord.oh (v:=.int .i64 d) rfl rfl ent_num (args:=#[.string E3]) (by first|rfl|(simp only[List.map_toArray,List.map_cons,List.map_nil];go_simp;done)) (λdn w hn hd he hS=>?_) (λK hK=>?_)
 ·(refine(n3.out _).mono ?_
   rintro x w' ⟨rfl,rfl⟩
   exact⟨rfl,by simpa using hS⟩)
 go_simp
 refine hK _ ?_
 clear hK K
 refine Ord.fK (v:=?_) rfl (λdn w h=>by simpa using h) (λw=>?_) (λK hK=>?_)
 rotate_left
 ·(go_simp;first|done|exact rfl)
 go_simp
 refine hK _ ?_
 clear hK K
 refine Ord.uP (v:=.pointer (some ⟨W0.heap.size,0,none⟩)) rfl (λdn w hn hd he hS=>?_) (λK hK=>?_)
 ·(have h11:=he 11 rfl
   rw[hn,h11]at hS
   simp only[Bool.false_eq_true,if_false]at hS
   refine⟨W1,Or.inl ?_,by simp[h11]⟩
   rw[hS,HW1.out]
   go_simp
   first|done|exact rfl)
 go_simp
 refine hK _ ?_
 clear hK K
 refine Ord.uP (v:=undef) rfl (λdn w hn hd he hS=>?_) (λK hK=>?_)
 ·(have h10:=hd 10 rfl
   rw[hn,h10]at hS
   simp only[Bool.false_eq_true,if_false,if_true]at hS
   refine⟨W2,Or.inr ⟨rfl,?_⟩,by simp⟩
   rw[hS,HW1.out,HW2.out]
   go_simp
   first|done|exact rfl)
 go_simp
 refine hK _ ?_
 clear hK K
 refine Ord.JN (λw9 iJ=>?_)
 have hw8:w9=W2:=by simpa using iJ
 clear iJ
 subst hw8
 rename_i hKK
 refine hKK _ _ ?_
 clear hKK
 obtain⟨q,hq⟩:∃q,q=W0.heap.size:=⟨_,rfl⟩
 have hrow:w9.heap[q]? =some (.cells #[.int .i64 y,.int .i64 m,.int .i64 d] 150 (0,0)):=by rw[HW2.out,hq];exact aD W0 _
 have Mk:Hid (Below w.heap.size w w9):=Lib.hid (by rw[HW2.out,HW0.out];exact HB.out.drew.alloc HB.out.size _)
 have ld:∀W,Below w9.heap.size w9 W->(Instr.loadAt 150 (.pointer (some ⟨q,0,none⟩))).run Tryz.prog W=.ok (rU y m d) W:=λW hW=>by
  have:=run_loadVar_row (P:=Tryz.prog) W q 150 150 #[.int .i64 y,.int .i64 m,.int .i64 d] (0,0) _ ((hW.block q (Array.getElem?_eq_some_iff.1 hrow).1).trans hrow) Tryz.underlying150 rfl (by kernel_rfl)
  unfold Instr.loadAt
  simp[Instr.sureAddr,this]
  rfl
 have HLD:=Lib.hid ld
 rw[<-hq]
 clear ld hrow hq HW2 HW1 HW0 HB ent_num n1 n2 n3 k1 k2 k3 k4 k5 k6 h1 h2 h3
 go_upto_region 4 with fail
 refine wp_region_lit ?_
 refine jK rfl rfl rfl rfl (HLD.out w9 (Below.refl _ _)) ?_
 rcases hres.out with⟨rfl,rfl,rfl⟩|⟨rfl,rfl⟩
 ·go_wp2_with (go_at_call 146;refine(nV.out _).mono ?_;rintro x w' ⟨rfl,hb⟩;have HB':=Lib.hid (Mk.out.trans (hb.mono Mk.out.size));clear hb)
  go_ret2
  exact⟨rfl,HB'.out⟩
 ·have nF':=Lib.hid (nF.out rfl)
  clear nF hres
  go_upto_region 6 with(go_at_call 146;refine(nV.out _).mono ?_;rintro x w' ⟨rfl,hb⟩;have HB':=Lib.hid (Mk.out.trans (hb.mono Mk.out.size));have HK:=Lib.hid hb;clear hb)
  refine wp_region_lit ?_
  refine jK rfl rfl rfl rfl (HLD.out _ HK.out) ?_
  go_wp2_with (go_at_call 147;refine(nF'.out _).mono ?_;rintro x w'' ⟨rfl,hb⟩;have HB'':=Lib.hid (HB'.out.trans (hb.mono HB'.out.size));clear hb)
  go_ret2
  exact⟨rfl,HB''.out⟩
def shP:ByteArray:=⟨#[48,48,48,48,45,48,48,45,48,48]⟩
theorem Kh (s:ByteArray)(i:Nat)(h:i<s.size):PlainAid.bt s i=((s.data.toList[i]'(by rw[<-Lib.size_eq];exact h)).toNat:Int):=(PlainAid.get_bt s i h).symm
theorem Iq (f c:UInt8):jb (f.toNat:Int) (c.toNat:Int)=Ps.fit f c:=by
 unfold jb Ps.fit Lx.digit
 by_cases hf:f=48
 ·have e:(f.toNat:Int)=48:=by rw[hf];rfl
  rw[if_pos e,if_pos hf,Bool.eq_iff_iff]
  simp
 ·have e:¬(f.toNat:Int)=48:=λh=>hf (UInt8.toNat.inj (by have e48:(48:UInt8).toNat=48:=rfl;omega))
  rw[if_neg e,if_neg hf,Bool.eq_iff_iff]
  simp only[decide_eq_true_eq,beq_iff_eq]
  exact⟨λh=>UInt8.toNat.inj (by omega),λh=>by rw[h]⟩
theorem vR:shP.size=10:=rfl
theorem Iu (s:ByteArray)(w:World):Calls Tryz.prog 144 #[.string s,.string shP] w λe w'=>e=.returned (.bool (Ps.fits Ps.form s.data.toList))/\Below w.heap.size w w':=by
 have hl:s.data.toList.length=s.size:=(Lib.size_eq s).symm
 by_cases h10:s.size=10
 ·have hf:∀i,i<10->jb (PlainAid.bt shP i) (PlainAid.bt s i)=(match Ps.form[i]?,s.data.toList[i]? with|some f,some c=>Ps.fit f c|_,_=>true):=λi hi=>by
   have h1:i<s.size:=by omega
   have h2:i<shP.size:=by rw[vR];exact hi
   rw[Kh s i h1,Kh shP i h2,Iq]
   have e1:Ps.form[i]? =some (shP.data.toList[i]'(by rw[<-Lib.size_eq];exact h2)):=by
    have:Ps.form=shP.data.toList:=rfl
    rw[this];exact List.getElem?_eq_getElem _
   have e2:s.data.toList[i]? =some (s.data.toList[i]'(by rw[<-Lib.size_eq];exact h1)):=List.getElem?_eq_getElem _
   rw[e1,e2]
  obtain⟨j,hj,hall,hend⟩:=FK (λi=>jb (PlainAid.bt shP i) (PlainAid.bt s i)) 10
  have hr:((j=10/\Ps.fits Ps.form s.data.toList=true)\/(j<10/\jb (PlainAid.bt shP j) (PlainAid.bt s j)=false/\Ps.fits Ps.form s.data.toList=false)):=by
   have hfl:Ps.form.length=10:=rfl
   unfold Ps.fits
   rw[hl,h10,hfl]
   simp only[decide_true,Bool.true_and]
   rcases hend with rfl|⟨h1,h2⟩
   ·refine .inl ⟨rfl,?_⟩
    rw[List.all_eq_true]
    intro x hx
    obtain⟨i,hi⟩:=List.mem_iff_getElem?.1 hx
    have hz:=hi
    rw[List.getElem?_zip_eq_some]at hz
    have hi10:i<10:=by
     have:=(List.getElem?_eq_some_iff.1 hz.1).1
     omega
    have h3:jb (PlainAid.bt shP i) (PlainAid.bt s i)=true:=hall i hi10
    rw[hf i hi10,hz.1,hz.2]at h3
    exact h3
   ·refine .inr ⟨h1,h2,?_⟩
    rw[List.all_eq_false]
    have h2':jb (PlainAid.bt shP j) (PlainAid.bt s j)=false:=h2
    rw[hf j h1]at h2'
    have e1:Ps.form[j]? =some (Ps.form[j]'(by omega)):=List.getElem?_eq_getElem _
    have e2:s.data.toList[j]? =some (s.data.toList[j]'(by omega)):=List.getElem?_eq_getElem _
    rw[e1,e2]at h2'
    refine⟨(Ps.form[j]'(by omega),s.data.toList[j]'(by omega)),List.mem_iff_getElem?.2 ⟨j,List.getElem?_zip_eq_some.2 ⟨e1,e2⟩⟩,?_⟩
    simp only[]at h2'⊢
    rw[h2']
    simp
  exact EW s shP w 10 j h10 vR (by omega) hj _ (Lib.hid hall) (Lib.hid hr)
 ·have hfz:Ps.fits Ps.form s.data.toList=false:=by
   unfold Ps.fits
   have hfl:Ps.form.length=10:=rfl
   rw[hl,hfl,decide_eq_false h10]
   rfl
  rw[hfz]
  refine BL s shP w ?_
  rw[vR]
  simp
  omega
theorem Io (s:ByteArray)(w:World):Calls Tryz.prog 112 #[.string s] w λe w'=>e=.returned (.tuple #[.int .i64 (Ps.bi s).1,.int .i64 (Ps.bi s).2])/\Below w.heap.size w w':=by
 have hsh:=Iu s w
 have hl:s.data.toList.length=s.size:=(Lib.size_eq s).symm
 unfold Ps.bi
 cases hfit:Ps.fits Ps.form s.data.toList with
 |false=>
  rw[hfit]at hsh
  exact Az s w (Lib.hid hsh)
 |true=>
  rw[hfit]at hsh
  simp only[if_true]
  have MX:=hfit
  unfold Ps.fits at MX
  simp only[Bool.and_eq_true,decide_eq_true_eq,List.all_eq_true]at MX
  obtain⟨h10,hall⟩:=MX
  have hfl:Ps.form.length=10:=rfl
  rw[hl,hfl]at h10
  have hdg:∀i,i<10->Ps.form[i]? =some 48->∀c,s.data.toList[i]? =some c->48<=c.toNat/\c.toNat<=57:=λi hi hf c hc=>by
   have:=hall (48,c) (List.mem_iff_getElem?.2 ⟨i,List.getElem?_zip_eq_some.2 ⟨hf,hc⟩⟩)
   unfold Ps.fit Lx.digit at this
   simp at this
   omega
  have dg:∀(a n:Nat),a+n<=10->(∀i,i<n->Ps.form[a+i]? =some 48)->Ps.qM ((s.data.toList.drop a).take n):=λa n han hf c hc=>by
   obtain⟨i,hi⟩:=List.mem_iff_getElem?.1 hc
   rw[List.getElem?_take]at hi
   split at hi
   ·rename_i hin
    rw[List.getElem?_drop]at hi
    exact hdg (a+i) (by omega) (hf i hin) c hi
   ·cases hi
  have d1:Ps.qM (s.data.toList.take 4):=by
   have:=dg 0 4 (by omega) (λi hi=>by rcases(show i=0\/i=1\/i=2\/i=3 by omega)with rfl|rfl|rfl|rfl<;>rfl)
   simpa using this
  have d2:=dg 5 2 (by omega) (λi hi=>by rcases(show i=0\/i=1 by omega)with rfl|rfl<;>rfl)
  have d3:=dg 8 2 (by omega) (λi hi=>by rcases(show i=0\/i=1 by omega)with rfl|rfl<;>rfl)
  have x1:(s.extract 0 4).data.toList=s.data.toList.take 4:=extract_upto s 4
  have x2:(s.extract 5 7).data.toList=(s.data.toList.drop 5).take 2:=by
   obtain⟨⟨l⟩⟩:=s
   rw[ByteArray.extract_mk]
  have x3:(s.extract 8 s.size).data.toList=(s.data.toList.drop 8).take 2:=by
   have:(s.data.toList.drop 8).take 2=s.data.toList.drop 8:=List.take_of_length_le (by rw[List.length_drop];omega)
   rw[this]
   have h:=oC s 8
   rw[Lib.toList_data]at h
   exact h
  obtain⟨y,hy⟩:∃y:Nat,y=Ps.num (s.data.toList.take 4):=⟨_,rfl⟩
  obtain⟨m,hm⟩:∃m:Nat,m=Ps.num ((s.data.toList.drop 5).take 2):=⟨_,rfl⟩
  obtain⟨d,hd⟩:∃d:Nat,d=Ps.num ((s.data.toList.drop 8).take 2):=⟨_,rfl⟩
  have nm:∀(E:ByteArray) (l:List UInt8),E.data.toList=l->E.size<=16->Ps.qM l->∀W,Calls Tryz.prog 145 #[.string E] W λx w'=>x=.returned (.int .i64 (Ps.num l:Nat))/\w'=W:=λE l hE hs hg W=>by
   have:=CU E W hs (Lib.hid (by rw[hE];exact hg))
   rw[hE]at this
   have e:Ps.num l=Ps.dU 0 l:=KE l 0
   rw[e]
   exact this
  rw[<-hy,<-hm,<-hd]
  have z1:(s.extract 0 4).size<=16:=by rw[ByteArray.size_extract];omega
  have z2:(s.extract 5 7).size<=16:=by rw[ByteArray.size_extract];omega
  have z3:(s.extract 8 s.size).size<=16:=by rw[ByteArray.size_extract];omega
  refine Dv s _ _ _ w h10 rfl rfl rfl (y:Int) (m:Int) (d:Int) (Ps.l8 y m d).1 (Ps.l8 y m d).2 (decide ((d:Int)>=1)&&decide ((d:Int)<=Ps.dim y m)) (Lib.hid ?_) (Lib.hid hsh) (Lib.hid (by rw[hy];exact nm _ _ x1 z1 d1)) (Lib.hid (by rw[hm];exact nm _ _ x2 z2 d2)) (Lib.hid (by rw[hd];exact nm _ _ x3 z3 d3)) (Lib.hid λW=>Cg W y m d (Ps.dim y m) _ _ rfl rfl (Lib.hid λw=>uY w y m)) (Lib.hid λhb W=>?_)
  ·unfold Ps.l8
   by_cases hc:(d:Int)<1\/Ps.dim y m<(d:Int)
   ·rw[if_pos hc]
    refine .inl ⟨?_,rfl,rfl⟩
    rw[Bool.and_eq_false_iff]
    rcases hc with hc|hc
    ·exact .inl (by simp;omega)
    ·exact .inr (by simp;omega)
   ·rw[if_neg hc]
    exact .inr ⟨by simp;omega,rfl⟩
  ·have hb':1<=(d:Int)/\(d:Int)<=Ps.dim y m:=by simpa using hb
   have hp:=Ps.zW (y:=y) (m:=m) (by omega)
   have hdl:=Cy y m
   unfold Ps.l8
   rw[if_neg (by omega)]
   have:=Jf W y m d ⟨hp.1,hp.2.1⟩ ⟨hp.2.2.1,hp.2.2.2⟩ (by omega)
   have e:Ps.l9 ((y:Int)-2000)+(d:Int)-1+Ps.gm y ((m:Int)-1).toNat=Ps.l9 ((y:Int)-2000)+Ps.gm y ((m:Int)-1).toNat+(d:Int)-1:=by omega
   rw[e]
   exact this
theorem Ps.day_eq (l:List Ps.Tok):Ps.day {az with date:=Ps.bi} l=Ps.day az l:=by
 have h:∀s,jG Ps.bi s=if (Ps.bi s).2=0 then((Ps.bi s).1,0)else(0,28):=λs=>rfl
 funext a
 unfold Ps.day Ps.take
 split
 ·rfl
 ·rename_i t _
  show(if t.1∈[(4:Int)]then(if (if (Ps.bi t.2.1).2=0 then(0:Int)else 28)=0 then Except.ok ((Ps.bi t.2.1).1,a+1)else Except.error (Ps.aT l a,if (Ps.bi t.2.1).2=0 then(0:Int)else 28))else _)=(if t.1∈[(4:Int)]then(if (if (jG Ps.bi t.2.1).2=0 then(0:Int)else 28)=0 then Except.ok ((jG Ps.bi t.2.1).1,a+1)else Except.error (Ps.aT l a,if (jG Ps.bi t.2.1).2=0 then(0:Int)else 28))else _)
  rw[h]
  by_cases hz:(Ps.bi t.2.1).2=0
  ·rw[if_pos hz];simp[hz]
  ·rw[if_neg hz];simp[hz]
theorem zk:∀kd:Int,kd∈[1,2,4]↔jH (2:Nat) kd:=by
 intro kd
 unfold jH
 simp
 omega
theorem pO (k:Nat)(hk:k<2):∀kd:Int,kd∈[1]↔jH k kd:=by
 intro kd
 unfold jH
 have:(k:Int)≠2:=by omega
 simp[this]
theorem Db {k:Int}{kd:Int}{ks:List Int}(h:∀kd,kd∈ks↔jH k kd)(hb:xC k kd):kd∉ks:=λhm=>by
 have:=(h kd).1 hm
 unfold jH at this
 unfold xC at hb
 rcases this with h1|⟨h1,h2,h3⟩
 ·rw[h1]at hb;exact absurd hb.1 (by simp)
 ·rcases hb.2 with h4|⟨h4,h5,h6⟩
  ·rw[h2]at h4;cases h4
  ·rcases h3 with h7|⟨h7,h8⟩
   ·rw[h5]at h7;cases h7
   ·rw[h6]at h8;cases h8
theorem rdr_of {r tb cap:Nat}{l:List Ps.Tok}(hl:bF l)(hk:∀t∈l,Lx.aI t.2.1=(t.1,0)):Rdr r tb cap l az:=by
 have nc:∀k,k<3->∀t∈l,∃e:Int,(e=0↔az.valid k t.2.1=true)/\∀w,Calls Tryz.prog 73 #[.int .i64 k,.string t.2.1] w λx w'=>(∃z:Int,x=.returned (.tuple #[.int .i64 z,.int .i64 e]))/\Below w.heap.size w w':=λk hk t ht=>
  ⟨aY k t.2.1,by show _↔decide (aY k t.2.1=0)=true;simp,λw=>xc k hk t.2.1 (by have:=(hl t ht).1;omega) w⟩
 have sz:∀t∈l,t.2.1.size<=1000000:=λt ht=>(hl t ht).1
 refine⟨hl,λw st h=>?_,λw st h=>?_,λw st h=>?_,λw st h=>?_,λw st h=>?_,λw st h=>?_⟩
 ·exact tV h hl az 2 [1,2,4] zk (λkd=>Db zk) (nc 2 (by decide))
 ·exact tV h hl az 1 [1] (pO 1 (by decide)) (λkd=>Db (pO 1 (by decide))) (nc 1 (by decide))
 ·exact tV h hl az 0 [1] (pO 0 (by decide)) (λkd=>Db (pO 0 (by decide))) (nc 0 (by decide))
 ·refine OO h hl az (λt ht h3=>?_) λt ht w=>(OM t.2.1 w (sz t ht)).mono λe w' q=>⟨q.1,q.2.symm⟩
  show(kT pu t.2.1).2=30
  unfold kT
  rw[if_neg (λh=>h3 (by rw[hk t ht]at h;exact(Prod.mk.inj h).1))]
 ·refine Hu h hl az (λt ht h3=>?_) λt ht w=>(IR t.2.1 w (sz t ht)).mono λe w' q=>⟨q.1,q.2.symm⟩
  show(jY t.2.1).2=30
  unfold jY
  rw[if_neg (λh=>h3 (by rw[hk t ht]at h;exact(Prod.mk.inj h).1))]
 ·rw[<-Ps.day_eq]
  exact Ny h hl {az with date:=Ps.bi} λt ht _ w=>Io t.2.1 w
open Go.Proofs.YthijakidnkhbnaaGreatDoor.Ord
theorem uy (k:Nat)(hk:k<3)(s:ByteArray)(hs:Sz s)(w:World):
 Calls Tryz.prog 36 #[.int .i64 k,.string s] w λe w'=>e=.returned (.bool (az.valid k s))/\Below w.heap.size w w':=by
 have n:=xc k hk s hs w
 go_enter Tryz.func36,Tryz.ntmps36
 go_wp2_with fail
 refine n.mono ?_
 rintro e w' ⟨⟨z,rfl⟩,hB⟩
 go_wp2_with fail
 go_ret
 exact⟨bY (by rw[show az.valid k s=decide (aY k s=0)from rfl,Bool.eq_iff_iff];simp),hB⟩
theorem rk_amd (w:World)(A:Ps.Amd):Calls Tryz.prog 38 #[.agg (aG A).toArray] w λe w'=>e=.returned (.int .i64 (Ps.yF A))/\Below w.heap.size w w':=
 OI w A (Ps.yF A) (IC A).symm
theorem rk_ins (w:World)(i:Ps.Ins)(sa:Option Addr)(sn sc:Nat)(hG:xO i)(hsn:sn=i.links.length)(hlk:0<sn->∃sb,sa=some ⟨sb,0,none⟩/\∀W,Below w.heap.size w W->dM W sb i.links):
 Calls Tryz.prog 37 #[.agg (aB i (.slice sa sn sc)).toArray] w λe w'=>e=.returned (.int .i64 (Ps.oI az.valid i))/\Below w.heap.size w w':=
 Ov w az.valid i sa sn sc _ _ (Lib.hid λW k s hk hz hB=>(uy k hk s hz W)) (Lib.hid hG) (Lib.hid hsn) (Lib.hid hlk) (Lib.hid rfl) (by
  rw[hsn]
  exact(IZ az.valid (by decide +kernel) i).symm)
theorem M4 (w:World)(i:Ps.Ins)(sa:Option Addr)(sn sc:Nat)(h63:sn<=9223372036854775806)(hsn:sn=i.links.length)(hlk:0<sn->∃sb,sa=some ⟨sb,0,none⟩/\∀W,Below w.heap.size w W->dM W sb i.links):
 Calls Tryz.prog 33 #[.agg (aB i (.slice sa sn sc)).toArray,.agg (aB {} (.slice none 0 0)).toArray] w λe w'=>e=.returned (.bool (decide i.none))/\Below w.heap.size w w':=
 BZ w i {} sa none sn sc 0 0 _ (Lib.hid h63) (Lib.hid hsn) (Lib.hid rfl) (Lib.hid hlk) (Lib.hid λh=>absurd h (by omega))
  (Lib.hid λh=>decide_eq_false λhn=>h (by rw[hsn];exact hn.2.2.2.2.2.2.2.2.2.2.2.2.2.2.2))
  (Lib.hid λ_ ⟨j,y,z,_,h,_⟩=>absurd h (by show¬([]:List Ps.Link)[j]? =some z;simp))
  (Lib.hid λh _=>by
   have h0:i.links.length=0:=by omega
   simp only[beqS]
   unfold Ps.Ins.none
   rw[Bool.eq_iff_iff]
   simp[h0,and_assoc])
theorem rk_req (w:World)(Q:Ps.Req)(sa:Option Addr)(sn sc:Nat)(h63:sn<=9223372036854775806)(hG:xO Q.ins)(hG1:Sz Q.sender)(hG2:Sz Q.ref)(hsn:sn=Q.ins.links.length)(hlk:0<sn->∃sb,sa=some ⟨sb,0,none⟩/\∀W,Below w.heap.size w W->dM W sb Q.ins.links):
 Calls Tryz.prog 13 #[.agg (aA Q (.slice sa sn sc))] w λe w'=>e=.returned (.int .i64 (psR Q))/\Below w.heap.size w w':=by
 have up:∀W,Below w.heap.size w W->0<sn->∃sb,sa=some ⟨sb,0,none⟩/\∀W',Below W.heap.size W W'->dM W' sb Q.ins.links:=λW hW h=>by
  obtain⟨sb,e,hr⟩:=hlk h
  exact⟨sb,e,λW' hW'=>hr W' (hW.trans (hW'.mono hW.size))⟩
 refine Mm w az.valid Q sa sn sc _ (Ps.oI az.valid Q.ins) (Ps.yF Q.amd) (decide Q.ins.none) (Lib.hid λW k s hk hz hB=>(uy k hk s hz W)) (Lib.hid hG1) (Lib.hid hG2)
  (Lib.hid λW hW=>rk_ins W Q.ins sa sn sc hG hsn (up W hW)) (Lib.hid λW hW=>M4 W Q.ins sa sn sc h63 hsn (up W hW)) (Lib.hid λW hW=>rk_amd W Q.amd) ?_
 unfold psR Ps.Hg
 symm
 simp only[beqS]
 refine bQ (by first|(simp;done)|(simp;omega)) λr1=>?_
 refine rD (by simp) λr2 r3=>?_
 have k1:Q.op=0\/Q.op=1\/Q.op=2\/Q.op=3\/Q.op=4:=by omega
 rcases k1 with h|h|h|h|h
 ·simp only[h]
  by_cases hi:Ps.oI az.valid Q.ins=0
  ·rw[hi]
   by_cases h5:Q.ins.ref=Q.ref<;>by_cases h6:Q.ins.sender=Q.sender<;>by_cases h7:Q.amd.none<;>simp[h5,h6,h7]
  ·simp[hi]
 all_goals
  simp only[h]
  by_cases h7:Q.ins.none<;>by_cases h8:Q.amd.none<;>simp[h7,h8]
open Go.Proofs.YthijakidnkhbnaaGreatDoor.Ev (AV Mem Fr Sh Stop Qof aK aM fmC)
theorem Ed {w:World}{B B':Nat}{lv:Value}{ks:List Ps.Link}(h:LkL w B lv ks)(hb:B'<=B):LkL w B' lv ks:=
 ⟨h.1,h.2.imp id λ⟨g,cap,cur,h1,h2,h3⟩=>⟨g,cap,cur,h1,Nat.le_trans hb h2,h3⟩⟩
theorem Kw {Q:Exit->Act->World->Prop}{a:Act}{w:World}{id:Nat}{o1 o2 o3 o4 o5:Oper}{r:Nat}{x:ByteArray}{ts:Array TypeId}(T:World->Prop)
 (h1:o1.op=.move (.tmp 0)) (h1d:o1.dst=some 6) (g1:o1.guard=none) (h2:o2.op=.call {callee:=.value (.func 29),args:=#[.tmp 6,.const (.int .i64 2)],argTypes:=ts}) (xn:o2.dst=some 7) (g2:o2.guard=none)
 (h3:o3.op=.build 35 #[(0,.tmp 7)]) (Mi:o3.dst=some 8) (g3:o3.guard=none) (h4:o4.op=.alloc 35) (h4d:o4.dst=some 5) (g4:o4.guard=none) (h5:o5.op=.store 35 (.tmp 5) (.tmp 8)) (h5d:o5.dst=none) (g5:o5.guard=none)
 (hsz:a.tmps.size=100) (hf0:a.tmps[0]? =some (.pointer (some ⟨r,0,none⟩)))
 (hC:Calls Tryz.prog 29 #[.pointer (some ⟨r,0,none⟩),.int .i64 2] w λe w'=>e=.returned (.string x)/\T w')
 (hend:∀(b:Act) (w':World),T w'->b.defers=a.defers->b.tmps.size=100->b.tmps[5]? =some (.pointer (some ⟨w'.heap.size,0,none⟩))->(∀s:Nat,s≠5->s≠6->s≠7->s≠8->b.tmps[s]? =a.tmps[s]?)->Q .normal b (w'.alloc (.cells (aB {ref:=x} (.slice none 0 0)).toArray 35))):(Code.region id #[o1,o2,o3,o4,o5] false).wp Tryz.prog Q a w:=by
 refine wp_region_lit ?_
 refine af g1 h1d (u:=.pointer (some ⟨r,0,none⟩)) (by unfold execOp;rw[h1];simp only[eval_at hf0];rfl) ?_
 refine jN g2 xn _ _ _ h2 Bn #[.pointer (some ⟨r,0,none⟩),.int .i64 2] ?_ (hC.mono ?_)
 ·simp only[List.map_toArray,List.map_cons,List.map_nil]
  rw[eval_at (t:=6) (v:=.pointer (some ⟨r,0,none⟩)) (by simp[hsz])]
  rfl
 rintro e w' ⟨rfl,hT⟩
 refine⟨_,rfl,?_⟩
 obtain⟨t3,ht3⟩:∃t3,t3=(a.tmps.setIfInBounds 6 (.pointer (some ⟨r,0,none⟩))).setIfInBounds 7 (.string x):=⟨_,rfl⟩
 have s3:t3.size=100:=by rw[ht3];simp[hsz]
 have e7:t3[7]? =some (.string x):=by rw[ht3];simp[hsz]
 have k3:∀s:Nat,s≠6->s≠7->t3[s]? =a.tmps[s]?:=λs n1 n2=>by rw[ht3,Array.getElem?_setIfInBounds_ne (λh=>n2 h.symm),Array.getElem?_setIfInBounds_ne (λh=>n1 h.symm)]
 rw[<-ht3]
 refine lC g3 Mi h3 (u:=.agg (aB {ref:=x} (.slice none 0 0)).toArray) ?_ ?_
 ·simp only[List.map_toArray,List.map_cons,List.map_nil]
  rw[eval_at (t:=7) (v:=.string x) e7]
  unfold aB
  go_simp
  first|done|rfl
 refine wpList_plain g4 λK hK=>?_
 unfold Oper.wp
 rw[show(execOp (⟨t3.setIfInBounds 8 (.agg (aB {ref:=x} (.slice none 0 0)).toArray),a.defers⟩:Act).eval o4).run Tryz.prog w'=.ok (.value (.pointer (some ⟨w'.heap.size,0,none⟩))) (w'.alloc (.cells (aB {} (.slice none 0 0)).toArray 35))from by unfold execOp;rw[h4];unfold aB;go_simp]
 refine hK _ _ ?_
 rw[h4d]
 refine jT (w':=w'.alloc (.cells (aB {ref:=x} (.slice none 0 0)).toArray 35)) g5 h5d ?_ ?_
 ·have e5:(Act.put ⟨t3.setIfInBounds 8 (.agg (aB {ref:=x} (.slice none 0 0)).toArray),a.defers⟩ (some 5) (.pointer (some ⟨w'.heap.size,0,none⟩))).eval (.tmp 5)=.pointer (some ⟨w'.heap.size,0,none⟩):=eval_at (by simp[Act.put,s3])
  have e8:(Act.put ⟨t3.setIfInBounds 8 (.agg (aB {ref:=x} (.slice none 0 0)).toArray),a.defers⟩ (some 5) (.pointer (some ⟨w'.heap.size,0,none⟩))).eval (.tmp 8)=.agg (aB {ref:=x} (.slice none 0 0)).toArray:=eval_at (by
   show((t3.setIfInBounds 8 _).setIfInBounds 5 _)[8]? =_
   rw[Array.getElem?_setIfInBounds_ne (by decide)];simp[s3])
  unfold execOp
  rw[h5]
  simp only[e5,e8]
  clear e5 e8 hC hend hK
  unfold aB
  go_simp
  first|done|rfl
 refine aL ?_
 refine hend _ w' hT rfl (by simp[Act.put,s3]) (by simp[Act.put,s3]) λs n1 n2 n3 n4=>?_
 show((t3.setIfInBounds 8 _).setIfInBounds 5 _)[s]? =_
 rw[Array.getElem?_setIfInBounds_ne (λh=>n1 h.symm),Array.getElem?_setIfInBounds_ne (λh=>n4 h.symm)]
 exact k3 s n2 n3
noncomputable def kL:Code:=match Tryz.f28.body.getD .skip with
 | .seq _ (.seq _ c)=>c
 |c=>c
def dh (P:Ps.P Ps.Ins)(W:World)(r tb cap:Nat)(l:List Ps.Tok)(st0:Ps.St)(e:Ending)(W':World):Prop:=∃i lv st,e=.returned (.agg (aB i lv).toArray)/\ae W' r tb cap l st/\Tch r r W W'/\LkL W' W.heap.size lv i.links/\Ps.Res P st0 st i
section
variable {W : World} {r tb cap : Nat} {l : List Ps.Tok} {st0 : Ps.St} {E : Ps.Env}
theorem jg (V:ByteArray){P:Ps.P Ps.Ins}(hR:Rdr r tb cap l E)(H0:ae W r tb cap l st0)(hr0:r<W.heap.size)(ht0:tb<W.heap.size)
 (h:∀(g z:Nat) (x1:ByteArray) (s1:Ps.St) (a:Act) (w:World),Ps.Res (Ps.ref E l) st0 s1 x1->Fr (rdM (X:=Ps.Ins) E l r g (λ_ _ _=>none) (λ_ _ _ _=>none) (λ_ _ _=>none) (λ_=>none) (.bool false)) 100 [(0,.p 0 0),(1,.v (.string V)),(4,.v (.pointer (some ⟨z,0,none⟩))),(5,.p 1 0)] a->SAt W r tb cap l g z s1 {ref:=x1} (.slice none 0 0) w->kL.wp Tryz.prog (bodyPost Tryz.prog Tryz.f28 (dh P W r tb cap l st0)) a w):
 Calls Tryz.prog 28 #[.pointer (some ⟨r,0,none⟩),.string V] W (dh P W r tb cap l st0):=by
 obtain⟨z,hz⟩:∃z,z=W.heap.size:=⟨_,rfl⟩
 obtain⟨x1,hx1⟩:∃x,x=(Ps.step (Ps.ref E l) ⟨#[]⟩ st0).1:=⟨_,rfl⟩
 obtain⟨s1,hs1⟩:∃x,x=(Ps.step (Ps.ref E l) ⟨#[]⟩ st0).2:=⟨_,rfl⟩
 have HS1:=Lib.hid hs1
 have MR:=Lib.hid hx1
 clear hs1 hx1
 have hb0:Below W.heap.size W (W.alloc (.cells (aB {} (.slice none 0 0)).toArray 35)):=(Below.refl _ _).alloc (Nat.le_refl _) _
 have H1:Hid (Calls Tryz.prog 29 #[.pointer (some ⟨r,0,none⟩),.int .i64 2] (W.alloc (.cells (aB {} (.slice none 0 0)).toArray 35)) λe w'=>e=.returned (.string x1)/\ae w' r tb cap l s1/\Tch r r (W.alloc (.cells (aB {} (.slice none 0 0)).toArray 35)) w'):=Lib.hid (by rw[HS1.out,MR.out];exact hR.ref _ _ (H0.below hb0))
 have HB0:=Lib.hid hb0
 clear hb0
 go_enter Tryz.func28,Tryz.ntmps28
 refine wp_seq ?_
 refine wp_region_lit ?_
 refine wpList_plain rfl (λK hK=>?_)
 go_simp
 refine hK _ _ ?_
 clear hK K
 refine aL ?_
 simp only[Exit.then]
 refine mM (w':=W.alloc (.cells (aB {} (.slice none 0 0)).toArray 35)) rfl (by kernel_rfl) λa ha hdf=>?_
 have hsz:a.tmps.size=100:=by rw[ha];rfl
 have hf0:a.tmps[0]? =some (.pointer (some ⟨r,0,none⟩)):=by rw[ha];rfl
 have hf1:a.tmps[1]? =some (.string V):=by rw[ha];rfl
 have cZ:a.tmps[4]? =some (.pointer (some ⟨z,0,none⟩)):=by rw[ha,hz];rfl
 clear ha
 refine wp_seq ?_
 refine Kw (r:=r) (a:=a) (T:=λw=>ae w r tb cap l s1/\Tch r r (W.alloc (.cells (aB {} (.slice none 0 0)).toArray 35)) w) rfl rfl rfl rfl rfl rfl rfl rfl rfl rfl rfl rfl rfl rfl rfl hsz hf0 H1.out ?_
 intro b w1 hT1 hd1 hz1 dm hk1
 have hzz:w1.heap.size>z:=by have:=hT1.2.size;rw[hz];simp at this;omega
 obtain⟨g,hg⟩:∃g,g=w1.heap.size:=⟨_,rfl⟩
 rw[<-hg]at dm
 obtain⟨w4,hw4⟩:∃w4,w4=w1.alloc (.cells (aB {ref:=x1} (.slice none 0 0)).toArray 35):=⟨_,rfl⟩
 have HA:SAt W r tb cap l g z s1 {ref:=x1} (.slice none 0 0) w4:=(by
  have hb4:Below w1.heap.size w1 w4:=by rw[hw4];exact(Below.refl _ _).alloc (Nat.le_refl _) _
  have e0:z≠r:=by have:=hr0;omega
  refine⟨hT1.1.below hb4,by rw[hw4,hg];exact aD w1 _,?_,?_,by omega,by omega,by omega,hr0,ht0⟩
  ·rw[hb4.block z (by omega),hT1.2.block z (by rw[hz];simp) e0 e0,hz]
   exact aD W _
  ·exact(Tch.of_below HB0.out).trans (hT1.2.trans (Tch.of_below hb4)))
 rw[<-hw4]
 clear hw4 hg hzz hT1 H1 HB0 hz
 replace hf0:=(hk1 0 (by decide) (by decide) (by decide) (by decide)).trans hf0
 replace hf1:=(hk1 1 (by decide) (by decide) (by decide) (by decide)).trans hf1
 replace cZ:=(hk1 4 (by decide) (by decide) (by decide) (by decide)).trans cZ
 replace hsz:=hz1
 replace hdf:=hd1.trans hdf
 clear hd1 hz1 hk1 w1
 refine h g z x1 s1 b w4 (by rw[HS1.out,MR.out];exact Ps.Res.of_step _ _ _) ⟨hsz,hdf,λt u hl=>?_⟩ HA
 unfold Ev.look at hl
 split at hl
 ·rename_i e;subst e;cases hl;exact hf0
 ·unfold Ev.look at hl
  split at hl
  ·rename_i e;subst e;cases hl;exact hf1
  ·unfold Ev.look at hl
   split at hl
   ·rename_i e;subst e;cases hl;exact cZ
   ·unfold Ev.look at hl
    split at hl
    ·rename_i e;subst e;cases hl;exact dm
    ·cases hl
def iZ (W:World)(r tb cap:Nat)(l:List Ps.Tok)(g z:Nat)(st:Ps.St)(i:Ps.Ins)(w:World):Prop:=SAt W r tb cap l g z st i (.slice none 0 0) w
theorem fE {g z:Nat}:RdB (rrR r tb cap l) r (iZ W r tb cap l g z):=⟨λh=>h.rd,λh hs hT=>SAt.reader h hs hT⟩
def j4 (i:Ps.Ins)(t:TypeId)(j:Nat):Option Value:=if t=2\/t=3\/t=4\/t=9 then(aB i (.slice none 0 0))[j]? else none
def jI (i:Ps.Ins)(t:TypeId)(j:Nat)(v:Value):Option Ps.Ins:=if t=2\/t=3\/t=4\/t=9 then qw i j v else none
def ku (E:Ps.Env)(l:List Ps.Tok)(r g:Nat)(hint:Nat->Option Bool):Mem (RS×Ps.Ins):=rdM E l r g j4 jI (λ_ _ _=>none) hint (.bool false)
theorem gG {g z:Nat}{hint:Nat->Option Bool}(hR:Rdr r tb cap l E):Ev.Ok Tryz.prog (rdS l (iZ W r tb cap l g z)) (ku E l r g hint):=by
 refine yK fE hR (λx t j v h st w hB=>?_) (λx t j v x' h st w hB=>?_) (λ_ _ _ _ _ h=>by cases h)
 ·unfold j4 at h
  split at h
  ·rename_i ht
   refine Ev.oU ?_ _ w v (by rw[cell_of_row _ _ _ _ _ _ hB.row];simpa using h)
   rcases ht with rfl|rfl|rfl|rfl<;>rfl
  ·cases h
 ·unfold jI at h
  split at h
  ·rename_i ht
   obtain⟨k1,-,k2,k3⟩:=wV h (.slice none 0 0)
   exact⟨_,oG ht _ w ((aB x (.slice none 0 0))[j]'(by simpa[aB]using k3)) v (by rw[cell_of_row _ _ _ _ _ _ hB.row];simp[aB,k3]) (aJ j hB.row) k2,SAt.field hB j v x' k1⟩
  ·cases h
theorem qH {X:Type}{E:Ps.Env}{l:List Ps.Tok}{r g n:Nat}{lo lo' st st' ca ca' h h' sl}{K:List (Nat×AV)}{a:Act}(hK:∀t k j,Ev.look K t≠some (.r k j))(hKa:∀t k j m,Ev.look K t≠some (.a k j m))(hF:Fr (rdM (X:=X) E l r g lo st ca h sl) n K a):Fr (rdM (X:=X) E l r g lo' st' ca' h' sl) n K a:=
 ⟨hF.size,hF.defers,λt u hl=>by
  have:=hF.look t u hl
  cases u with
  |v x=>exact this
  |p k j=>exact this
  |r k j=>exact absurd hl (hK t k j)
  |a k j m=>exact absurd hl (hKa t k j m)⟩
theorem FN {P:Ps.P Ps.Ins}{g z:Nat}{w7:World}{st2:Ps.St}{i2:Ps.Ins}{lv2:Value}(HA:SAt W r tb cap l g z st2 i2 lv2 w7)(HL:∃B,W.heap.size<=B/\g<B/\z<B/\LkL w7 B lv2 i2.links)(HRES:Ps.Res P st0 st2 i2):dh P W r tb cap l st0 (.returned (.agg (aB i2 lv2).toArray)) (w7.setRow z (aB i2 lv2).toArray):=by
 have qW:∀j,j≠z->(w7.setRow z (aB i2 lv2).toArray).heap[j]? =w7.heap[j]?:=λj hj=>setRow_other w7 z j _ hj
 have hz9:(w7.setRow z (aB i2 lv2).toArray).heap.size=w7.heap.size:=setRow_size w7 z _
 have wB:Tch z z w7 (w7.setRow z (aB i2 lv2).toArray):=⟨rfl,rfl,rfl,by omega,λj _ h1 _=>qW j h1⟩
 have k1:=HA.hr
 have k2:=HA.htb
 have k3:=HA.hz
 have k4:=HA.tch
 obtain⟨BB,hB1,hB2,hB3,hlk⟩:=HL
 exact⟨i2,lv2,st2,rfl,HA.rd.tch wB.right (by omega) (by omega),⟨wB.os.trans k4.os,wB.tape.trans k4.tape,wB.output.trans k4.output,Nat.le_trans k4.size wB.size,λj hj a b=>(qW j (by omega)).trans (k4.block j hj a b)⟩,Ed (bP hlk λj hj=>qW j (by have:=(hlk.lt j hj).1;omega)) hB1,HRES⟩
theorem CG {w:World}{B:Nat}{lv:Value}{ks:List Ps.Link}(h:LkL w B lv ks)(i:Ps.Ins):((aB i lv).toArray.all (·.oneCell'))=true:=by
 obtain⟨ta,tc,hlv⟩:=dB h
 rw[hlv]
 simp[aB,Value.oneCell']
theorem lu {P:Ps.P Ps.Ins}{g z:Nat}{st:Ps.St}{i:Ps.Ins}{a:Act}{w:World}(hR:Rdr r tb cap l E)(hl:i.links=[])(HA:SAt W r tb cap l g z st i (.slice none 0 0) w)(hres:∀st2 i2,Ps.Res (Ps.options E l (l.length+1) {} i) st st2 i2->Ps.Res P st0 st2 i2)(hsz:a.tmps.size=100)(hdf:a.defers=[])(hf0:a.tmps[0]? =some (.pointer (some ⟨r,0,none⟩)))(cZ:a.tmps[4]? =some (.pointer (some ⟨z,0,none⟩)))(dm:a.tmps[5]? =some (.pointer (some ⟨g,0,none⟩))):
 (aK (aM 34) kL).1.wp Tryz.prog (Qof Tryz.prog (aK (aM 34) kL).2 (bodyPost Tryz.prog Tryz.f28 (dh P W r tb cap l st0))) a w:=by
 have q1:=HA.size
 have q2:=HA.hr
 have q3:=HA.htb
 have q4:=HA.tch.size
 refine zo (r:=r) (g:=g) (i:=i) (λi2 lv2 w'=>∃st2,SAt W r tb cap l g z st2 i (.slice none 0 0) w'/\(∃B,W.heap.size<=B/\g<B/\z<B/\LkL w' B lv2 i2.links)/\Ps.Res P st0 st2 i2) rfl rfl rfl rfl rfl rfl rfl rfl rfl rfl rfl rfl hsz hf0 dm HA.row ?_ ?_
 ·refine(Ag _ r tb cap l st i E hR hl HA.rd (by omega) (by omega)).mono ?_
  rintro e w' ⟨i2,lv2,st2,rfl,k1,k2,k3,k4⟩
  have hA2:=HA.reader k1 k2
  refine⟨i2,lv2,rfl,?_,hA2.row,st2,hA2,⟨_,by omega,by omega,by omega,k3⟩,hres _ _ k4⟩
  obtain⟨ta,tc,hlv⟩:=dB k3
  rw[hlv];rfl
 intro b i2 lv2 w6 hT h1 h2 h3
 obtain⟨st2,hA2,⟨BB,hB1,hB2,hB3,hlk⟩,hres2⟩:=hT
 have hA3:=hA2.whole i2 lv2
 have hlk2:LkL (w6.setRow g (aB i2 lv2).toArray) BB lv2 i2.links:=bP hlk λj hj=>setRow_other w6 g j _ (by have:=(hlk.lt j hj).1;omega)
 show(fmC (aK (aM 34) kL).2 0).wp Tryz.prog _ b _
 exact kN (fn:=Tryz.f28) (R:=dh P W r tb cap l st0) (T:=35) (tg:=5) (tz:=4) (d:=99) (g:=g) (z:=z) (cs:=(aB i2 lv2).toArray) (zs:=(aB {} (.slice none 0 0)).toArray) (λ_ _ h=>h) rfl rfl rfl rfl rfl rfl rfl (by rw[h2];decide) (by decide) (h1.trans hdf) ((h3 5 (by decide) (by decide) (by decide)).trans dm) ((h3 4 (by decide) (by decide) (by decide)).trans cZ) rfl hA3.row hA3.zero rfl (CG hlk2 i2) (FN hA3 ⟨BB,hB1,hB2,hB3,hlk2⟩ hres2)
theorem CF {P:Ps.P Ps.Ins}{g z:Nat}{st:Ps.St}{i:Ps.Ins}{a:Act}{w:World}(hl:i.links=[])(HA:SAt W r tb cap l g z st i (.slice none 0 0) w)(hres:Ps.Res P st0 st i)(hsz:a.tmps.size=100)(hdf:a.defers=[])(cZ:a.tmps[4]? =some (.pointer (some ⟨z,0,none⟩)))(dm:a.tmps[5]? =some (.pointer (some ⟨g,0,none⟩))):
 (aK (aM 35) kL).1.wp Tryz.prog (Qof Tryz.prog (aK (aM 35) kL).2 (bodyPost Tryz.prog Tryz.f28 (dh P W r tb cap l st0))) a w:=by
 have hlk:LkL w w.heap.size (.slice none 0 0) i.links:=by rw[hl];exact World.ownsRow_nil _ _ _ _
 exact wZ (fn:=Tryz.f28) (R:=dh P W r tb cap l st0) (T:=35) (tg:=5) (tz:=4) (d:=99) (g:=g) (z:=z) (cs:=(aB i (.slice none 0 0)).toArray) (zs:=(aB {} (.slice none 0 0)).toArray) (λ_ _ h=>h) rfl rfl rfl rfl rfl rfl rfl (by rw[hsz];decide) (by decide) hdf dm cZ rfl HA.row HA.zero rfl (CG hlk i) (FN HA ⟨_,HA.tch.size,HA.size.1,HA.size.2,hlk⟩ hres)
end
section
variable (E : Ps.Env) (l : List Ps.Tok) (s : Ps.St)
def sW (w:Ps.Bs):Ps.St:=(Ps.step (Ps.word l w) () s).2
def sM:ByteArray×Ps.St:=Ps.step (Ps.member E l) ⟨#[]⟩ s
def sI:ByteArray×Ps.St:=Ps.step (Ps.isin E l) ⟨#[]⟩ s
def sC:Int×Ps.St:=Ps.step (Ps.cash E l) 0 s
def sN:Int×Ps.St:=Ps.step (Ps.quantity E l) 0 s
def sD:Int×Ps.St:=Ps.step (Ps.day E l) 0 s
def jC:ByteArray×Ps.St:=sM E l (sW l s Ps.MI)
def au:ByteArray×Ps.St:=sM E l (sW l (jC E l s).2 Ps.sTo)
def byA:ByteArray×Ps.St:=sM E l (sW l s Ps.sBy)
def iK:ByteArray×Ps.St:=sI E l (sW l s Ps.Fj)
def dF:Int×Ps.St:=sN E l (sW l (iK E l s).2 Ps.mX)
def amtA:Int×Ps.St:=sC E l (sW l s Ps.dY)
def AC:Int×Ps.St:=sC E l (sW l s Ps.fZ)
def je:Int×Ps.St:=sD E l (sW l s Ps.kz)
def pF:Int×Ps.St:=sD E l (sW l s Ps.iY)
theorem qF:Ps.Res (Ps.parties E l) s (au E l s).2 ((jC E l s).1,(au E l s).1):=
 Ps.Res.bind (Ps.Res.of_step _ () _) (Ps.Res.bind (Ps.Res.of_step (Ps.member E l) ⟨#[]⟩ _) (Ps.Res.bind (Ps.Res.of_step _ () _) (Ps.Res.bind (Ps.Res.of_step (Ps.member E l) ⟨#[]⟩ _) (Ps.Res.pure _ _))))
theorem zY:Ps.Res (Ps.by_ E l) s (byA E l s).2 (byA E l s).1:=Ps.Res.bind (Ps.Res.of_step _ () _) (Ps.Res.of_step (Ps.member E l) ⟨#[]⟩ _)
theorem mO (i:Ps.Ins):Ps.Res (Ps.security E l i) s (dF E l s).2 {i with asset:=(iK E l s).1,quantity:=(dF E l s).1}:=
 Ps.Res.bind (Ps.Res.of_step _ () _) (Ps.Res.bind (Ps.Res.of_step (Ps.isin E l) ⟨#[]⟩ _) (Ps.Res.bind (Ps.Res.of_step _ () _) (Ps.Res.bind (Ps.Res.of_step (Ps.quantity E l) 0 _) (Ps.Res.pure _ _))))
end
def Aj:Nat->Option Bool:=λt=>match t with|14=>some false|35=>some false|44=>some true|66=>some false|95=>some true|_=>none
theorem Cu (W:World)(r tb cap:Nat)(l:List Ps.Tok)(st0:Ps.St)(E:Ps.Env)(hR:Rdr r tb cap l E)(H0:ae W r tb cap l st0)(hr0:r<W.heap.size)(ht0:tb<W.heap.size):
 Calls Tryz.prog 28 #[.pointer (some ⟨r,0,none⟩),.string ⟨#[112,97,121]⟩] W (dh (Ps.bind' (Ps.ref E l) λx=>Ps.payment E l {ref:=x}) W r tb cap l st0):=by
 refine jg _ hR H0 hr0 ht0 λg z x1 s1 a w hx hF HA=>?_
 have hF:=qH (lo':=j4) (st':=jI) (ca':=λ_ _ _=>none) (h':=Aj) (λt k j h=>by have:=Ev.eP h;simp at this) (λt k j m h=>by have:=Ev.eP h;simp at this) hF
 have hdr:∀(s:RS×Ps.Ins) w,rdS l (iZ W r tb cap l g z) s w->rdS l (iZ W r tb cap l g z) s w.drew:=λs w h=>⟨h.1,SAt.reader h.2 (h.2.rd.drewN 1) (Tch.drewN _ _ _ 1)⟩
 refine Ev.bH (M:=ku E l r g Aj) (S:=rdS l (iZ W r tb cap l g z)) (n:=100) (K:=[(0,.p 0 0),(1,.v (.string (⟨#[112,97,121]⟩:ByteArray))),(4,.v (.pointer (some ⟨z,0,none⟩))),(5,.p 1 0)]) (s:=(.any s1,{ref:=x1})) [0,4,5] (.one (((⟨#[112,97,121]⟩:ByteArray).toList==(⟨#[112,108,101,100,103,101]⟩:ByteArray).toList)||((⟨#[112,97,121]⟩:ByteArray).toList==(⟨#[114,101,108,101,97,115,101]⟩:ByteArray).toList)) false (.one ((⟨#[112,97,121]⟩:ByteArray).toList==(⟨#[114,101,99,101,105,118,101]⟩:ByteArray).toList) false (.one ((⟨#[112,97,121]⟩:ByteArray).toList==(⟨#[112,97,121]⟩:ByteArray).toList) true (.one (((⟨#[112,97,121]⟩:ByteArray).toList==(⟨#[100,101,108,105,118,101,114]⟩:ByteArray).toList)||((⟨#[112,97,121]⟩:ByteArray).toList==(⟨#[114,101,99,101,105,118,101]⟩:ByteArray).toList)) false (.one (decide ((0:Int)<3)) true (.go (aK (aM 34) kL) [some (.p 0 0),some (.v (.pointer (some ⟨z,0,none⟩))),some (.p 1 0)] (.any (pF E l (amtA E l (au E l s1).2).2).2,{ref:=x1,sender:=(jC E l s1).1,counterparty:=(au E l s1).1,asset:=Ps.rY,amount:=(amtA E l (au E l s1).2).1,settleDay:=(pF E l (amtA E l (au E l s1).2).2).1}))))))) (gG hR) (bU fE) hdr (by kernel_rfl) hF ⟨trivial,HA⟩ ⟨by kernel_rfl,⟨by kernel_rfl,⟨by kernel_rfl,⟨by kernel_rfl,⟨by kernel_rfl,λb w2 hst hS=>?_⟩⟩⟩⟩⟩
 obtain⟨hf0,hst⟩:=hst.cons
 obtain⟨cZ,hst⟩:=hst.cons
 obtain⟨dm,hst⟩:=hst.cons
 exact lu hR rfl hS.2 (λst2 i2 iR=>Ps.Res.bind hx (Ps.Res.bind (qF E l s1) (Ps.Res.bind (Ps.Res.of_step _ () _) (Ps.Res.bind (Ps.Res.of_step (Ps.cash E l) 0 _) (Ps.Res.bind (Ps.Res.of_step _ () _) (Ps.Res.bind (Ps.Res.of_step (Ps.day E l) 0 _) iR)))))) hst.1 hst.2.1 hf0 cZ dm
def rP:Nat->Option Bool:=λt=>match t with|14=>some true|17=>some false|35=>some false|44=>some false|66=>some false|95=>some false|_=>none
theorem wR (W:World)(r tb cap:Nat)(l:List Ps.Tok)(st0:Ps.St)(E:Ps.Env)(hR:Rdr r tb cap l E)(H0:ae W r tb cap l st0)(hr0:r<W.heap.size)(ht0:tb<W.heap.size):
 Calls Tryz.prog 28 #[.pointer (some ⟨r,0,none⟩),.string ⟨#[112,108,101,100,103,101]⟩] W (dh (Ps.bind' (Ps.ref E l) λx=>Ps.collateral E l 3 {ref:=x}) W r tb cap l st0):=by
 refine jg _ hR H0 hr0 ht0 λg z x1 s1 a w hx hF HA=>?_
 have hF:=qH (lo':=j4) (st':=jI) (ca':=λ_ _ _=>none) (h':=rP) (λt k j h=>by have:=Ev.eP h;simp at this) (λt k j m h=>by have:=Ev.eP h;simp at this) hF
 have hdr:∀(s:RS×Ps.Ins) w,rdS l (iZ W r tb cap l g z) s w->rdS l (iZ W r tb cap l g z) s w.drew:=λs w h=>⟨h.1,SAt.reader h.2 (h.2.rd.drewN 1) (Tch.drewN _ _ _ 1)⟩
 refine Ev.bH (M:=ku E l r g rP) (S:=rdS l (iZ W r tb cap l g z)) (n:=100) (K:=[(0,.p 0 0),(1,.v (.string (⟨#[112,108,101,100,103,101]⟩:ByteArray))),(4,.v (.pointer (some ⟨z,0,none⟩))),(5,.p 1 0)]) (s:=(.any s1,{ref:=x1})) [0,4,5] (.one (((⟨#[112,108,101,100,103,101]⟩:ByteArray).toList==(⟨#[112,108,101,100,103,101]⟩:ByteArray).toList)||((⟨#[112,108,101,100,103,101]⟩:ByteArray).toList==(⟨#[114,101,108,101,97,115,101]⟩:ByteArray).toList)) true (.one ((⟨#[112,108,101,100,103,101]⟩:ByteArray).toList==(⟨#[114,101,108,101,97,115,101]⟩:ByteArray).toList) false (.one ((⟨#[112,108,101,100,103,101]⟩:ByteArray).toList==(⟨#[114,101,99,101,105,118,101]⟩:ByteArray).toList) false (.one ((⟨#[112,108,101,100,103,101]⟩:ByteArray).toList==(⟨#[112,97,121]⟩:ByteArray).toList) false (.one (((⟨#[112,108,101,100,103,101]⟩:ByteArray).toList==(⟨#[100,101,108,105,118,101,114]⟩:ByteArray).toList)||((⟨#[112,108,101,100,103,101]⟩:ByteArray).toList==(⟨#[114,101,99,101,105,118,101]⟩:ByteArray).toList)) false (.one (decide ((3:Int)<3)) false (.go (aK (aM 35) kL) [some (.p 0 0),some (.v (.pointer (some ⟨z,0,none⟩))),some (.p 1 0)] (.any (pF E l (dF E l (byA E l s1).2).2).2,{ref:=x1,kind:=3,sender:=(byA E l s1).1,asset:=(iK E l (byA E l s1).2).1,quantity:=(dF E l (byA E l s1).2).1,settleDay:=(pF E l (dF E l (byA E l s1).2).2).1})))))))) (gG hR) (bU fE) hdr (by kernel_rfl) hF ⟨trivial,HA⟩ ⟨by kernel_rfl,⟨by kernel_rfl,⟨by kernel_rfl,⟨by kernel_rfl,⟨by kernel_rfl,⟨by kernel_rfl,λb w2 hst hS=>?_⟩⟩⟩⟩⟩⟩
 obtain⟨hf0,hst⟩:=hst.cons
 obtain⟨cZ,hst⟩:=hst.cons
 obtain⟨dm,hst⟩:=hst.cons
 exact CF rfl hS.2 (Ps.Res.bind hx (Ps.Res.bind (zY E l s1) (Ps.Res.bind (mO E l _ _) (Ps.Res.bind (Ps.Res.of_step _ () _) (Ps.Res.bind (Ps.Res.of_step (Ps.day E l) 0 _) (Ps.Res.pure _ _)))))) hst.1 hst.2.1 cZ dm
def o7:Nat->Option Bool:=λt=>match t with|14=>some true|17=>some true|35=>some false|44=>some false|66=>some false|95=>some false|_=>none
theorem tq (W:World)(r tb cap:Nat)(l:List Ps.Tok)(st0:Ps.St)(E:Ps.Env)(hR:Rdr r tb cap l E)(H0:ae W r tb cap l st0)(hr0:r<W.heap.size)(ht0:tb<W.heap.size):
 Calls Tryz.prog 28 #[.pointer (some ⟨r,0,none⟩),.string ⟨#[114,101,108,101,97,115,101]⟩] W (dh (Ps.bind' (Ps.ref E l) λx=>Ps.collateral E l 4 {ref:=x}) W r tb cap l st0):=by
 refine jg _ hR H0 hr0 ht0 λg z x1 s1 a w hx hF HA=>?_
 have hF:=qH (lo':=j4) (st':=jI) (ca':=λ_ _ _=>none) (h':=o7) (λt k j h=>by have:=Ev.eP h;simp at this) (λt k j m h=>by have:=Ev.eP h;simp at this) hF
 have hdr:∀(s:RS×Ps.Ins) w,rdS l (iZ W r tb cap l g z) s w->rdS l (iZ W r tb cap l g z) s w.drew:=λs w h=>⟨h.1,SAt.reader h.2 (h.2.rd.drewN 1) (Tch.drewN _ _ _ 1)⟩
 refine Ev.bH (M:=ku E l r g o7) (S:=rdS l (iZ W r tb cap l g z)) (n:=100) (K:=[(0,.p 0 0),(1,.v (.string (⟨#[114,101,108,101,97,115,101]⟩:ByteArray))),(4,.v (.pointer (some ⟨z,0,none⟩))),(5,.p 1 0)]) (s:=(.any s1,{ref:=x1})) [0,4,5] (.one (((⟨#[114,101,108,101,97,115,101]⟩:ByteArray).toList==(⟨#[112,108,101,100,103,101]⟩:ByteArray).toList)||((⟨#[114,101,108,101,97,115,101]⟩:ByteArray).toList==(⟨#[114,101,108,101,97,115,101]⟩:ByteArray).toList)) true (.one ((⟨#[114,101,108,101,97,115,101]⟩:ByteArray).toList==(⟨#[114,101,108,101,97,115,101]⟩:ByteArray).toList) true (.one ((⟨#[114,101,108,101,97,115,101]⟩:ByteArray).toList==(⟨#[114,101,99,101,105,118,101]⟩:ByteArray).toList) false (.one ((⟨#[114,101,108,101,97,115,101]⟩:ByteArray).toList==(⟨#[112,97,121]⟩:ByteArray).toList) false (.one (((⟨#[114,101,108,101,97,115,101]⟩:ByteArray).toList==(⟨#[100,101,108,105,118,101,114]⟩:ByteArray).toList)||((⟨#[114,101,108,101,97,115,101]⟩:ByteArray).toList==(⟨#[114,101,99,101,105,118,101]⟩:ByteArray).toList)) false (.one (decide ((4:Int)<3)) false (.go (aK (aM 35) kL) [some (.p 0 0),some (.v (.pointer (some ⟨z,0,none⟩))),some (.p 1 0)] (.any (pF E l (dF E l (byA E l s1).2).2).2,{ref:=x1,kind:=4,sender:=(byA E l s1).1,asset:=(iK E l (byA E l s1).2).1,quantity:=(dF E l (byA E l s1).2).1,settleDay:=(pF E l (dF E l (byA E l s1).2).2).1})))))))) (gG hR) (bU fE) hdr (by kernel_rfl) hF ⟨trivial,HA⟩ ⟨by kernel_rfl,⟨by kernel_rfl,⟨by kernel_rfl,⟨by kernel_rfl,⟨by kernel_rfl,⟨by kernel_rfl,λb w2 hst hS=>?_⟩⟩⟩⟩⟩⟩
 obtain⟨hf0,hst⟩:=hst.cons
 obtain⟨cZ,hst⟩:=hst.cons
 obtain⟨dm,hst⟩:=hst.cons
 exact CF rfl hS.2 (Ps.Res.bind hx (Ps.Res.bind (zY E l s1) (Ps.Res.bind (mO E l _ _) (Ps.Res.bind (Ps.Res.of_step _ () _) (Ps.Res.bind (Ps.Res.of_step (Ps.day E l) 0 _) (Ps.Res.pure _ _)))))) hst.1 hst.2.1 cZ dm
def dJ:Nat->Option Bool:=λt=>match t with|14=>some false|35=>some false|44=>some false|66=>some true|95=>some true|_=>none
theorem vw (W:World)(r tb cap:Nat)(l:List Ps.Tok)(st0:Ps.St)(E:Ps.Env)(hR:Rdr r tb cap l E)(H0:ae W r tb cap l st0)(hr0:r<W.heap.size)(ht0:tb<W.heap.size):
 Calls Tryz.prog 28 #[.pointer (some ⟨r,0,none⟩),.string ⟨#[100,101,108,105,118,101,114]⟩] W (dh (Ps.bind' (Ps.ref E l) (Ps.trade2 E l false)) W r tb cap l st0):=by
 refine jg _ hR H0 hr0 ht0 λg z x1 s1 a w hx hF HA=>?_
 have hF:=qH (lo':=j4) (st':=jI) (ca':=λ_ _ _=>none) (h':=dJ) (λt k j h=>by have:=Ev.eP h;simp at this) (λt k j m h=>by have:=Ev.eP h;simp at this) hF
 have hdr:∀(s:RS×Ps.Ins) w,rdS l (iZ W r tb cap l g z) s w->rdS l (iZ W r tb cap l g z) s w.drew:=λs w h=>⟨h.1,SAt.reader h.2 (h.2.rd.drewN 1) (Tch.drewN _ _ _ 1)⟩
 refine Ev.bH (M:=ku E l r g dJ) (S:=rdS l (iZ W r tb cap l g z)) (n:=100) (K:=[(0,.p 0 0),(1,.v (.string (⟨#[100,101,108,105,118,101,114]⟩:ByteArray))),(4,.v (.pointer (some ⟨z,0,none⟩))),(5,.p 1 0)]) (s:=(.any s1,{ref:=x1})) [0,4,5] (.one (((⟨#[100,101,108,105,118,101,114]⟩:ByteArray).toList==(⟨#[112,108,101,100,103,101]⟩:ByteArray).toList)||((⟨#[100,101,108,105,118,101,114]⟩:ByteArray).toList==(⟨#[114,101,108,101,97,115,101]⟩:ByteArray).toList)) false (.one ((⟨#[100,101,108,105,118,101,114]⟩:ByteArray).toList==(⟨#[114,101,99,101,105,118,101]⟩:ByteArray).toList) false (.one ((⟨#[100,101,108,105,118,101,114]⟩:ByteArray).toList==(⟨#[112,97,121]⟩:ByteArray).toList) false (.one (((⟨#[100,101,108,105,118,101,114]⟩:ByteArray).toList==(⟨#[100,101,108,105,118,101,114]⟩:ByteArray).toList)||((⟨#[100,101,108,105,118,101,114]⟩:ByteArray).toList==(⟨#[114,101,99,101,105,118,101]⟩:ByteArray).toList)) true (.ite (d9 l (dF E l (au E l s1).2).2 (⟨#[102,114,101,101]⟩:ByteArray).data.toList) (.go (aK (aM 26) kL) [some (.p 0 0),some (.v (.pointer (some ⟨z,0,none⟩))),some (.p 1 0)] (.any (dF E l (au E l s1).2).2,{ref:=x1,sender:=(jC E l s1).1,counterparty:=(au E l s1).1,asset:=(iK E l (au E l s1).2).1,quantity:=(dF E l (au E l s1).2).1,kind:=2})) (.one (decide ((1:Int)<3)) true (.go (aK (aM 34) kL) [some (.p 0 0),some (.v (.pointer (some ⟨z,0,none⟩))),some (.p 1 0)] (.any (pF E l (je E l (AC E l (dF E l (au E l s1).2).2).2).2).2,{({ref:=x1,sender:=(jC E l s1).1,counterparty:=(au E l s1).1,asset:=(iK E l (au E l s1).2).1,quantity:=(dF E l (au E l s1).2).1,kind:=1,amount:=(AC E l (dF E l (au E l s1).2).2).1}:Ps.Ins)with tradeDay:=(je E l (AC E l (dF E l (au E l s1).2).2).2).1,settleDay:=(pF E l (je E l (AC E l (dF E l (au E l s1).2).2).2).2).1})))))))) (gG hR) (bU fE) hdr (by kernel_rfl) hF ⟨trivial,HA⟩ ⟨by kernel_rfl,⟨by kernel_rfl,⟨by kernel_rfl,⟨by kernel_rfl,⟨λhc b w2 hst hS=>?_,λhc=>⟨by kernel_rfl,λb w2 hst hS=>?_⟩⟩⟩⟩⟩⟩
 ·obtain⟨k1,k2⟩:=Ps.price_free (E:=E) (i:=({ref:=x1,sender:=(jC E l s1).1,counterparty:=(au E l s1).1,asset:=(iK E l (au E l s1).2).1,quantity:=(dF E l (au E l s1).2).1,kind:=1}:Ps.Ins)) hc
  obtain⟨pa,fA⟩:∃pa,(dF E l (au E l s1).2).2=.ok pa:=by
   cases h:(dF E l (au E l s1).2).2 with
   |ok b=>exact⟨b,rfl⟩
   |error er=>rw[h]at hc;cases hc
  have hlt:=k1 pa fA
  rw[fA]at k2
  have HA2:SAt W r tb cap l g z (.ok pa) {ref:=x1,sender:=(jC E l s1).1,counterparty:=(au E l s1).1,asset:=(iK E l (au E l s1).2).1,quantity:=(dF E l (au E l s1).2).1,kind:=2} (.slice none 0 0) w2:=by rw[<-fA];exact hS.2
  obtain⟨hf0,hst⟩:=hst.cons
  obtain⟨cZ,hst⟩:=hst.cons
  obtain⟨dm,hst⟩:=hst.cons
  have hF2:=(Ev.aC (M:=ku E l r g dJ) (u:=.p 0 0) (Ev.aC (u:=.v (.pointer (some ⟨z,0,none⟩))) (Ev.aC (u:=.p 1 0) (Ev.aU hst.1 hst.2.1) dm) cZ) hf0)
  refine Ev.bH (M:=ku E l r g dJ) (S:=rdS l (iZ W r tb cap l g z)) (n:=100) (K:=[(0,.p 0 0),(4,.v (.pointer (some ⟨z,0,none⟩))),(5,.p 1 0)]) (s:=(.at0 pa,{ref:=x1,sender:=(jC E l s1).1,counterparty:=(au E l s1).1,asset:=(iK E l (au E l s1).2).1,quantity:=(dF E l (au E l s1).2).1,kind:=2})) [0,4,5] (.nx [some (.p 0 0),some (.v (.pointer (some ⟨z,0,none⟩))),some (.p 1 0)] (.any (.ok (pa+1)),{ref:=x1,sender:=(jC E l s1).1,counterparty:=(au E l s1).1,asset:=(iK E l (au E l s1).2).1,quantity:=(dF E l (au E l s1).2).1,kind:=2})) (gG hR) (bU fE) hdr (by kernel_rfl) hF2 ⟨hlt,HA2⟩ λb w3 hst hS=>?_
  clear hf0 cZ dm hF2 HA2
  obtain⟨hf0,hst⟩:=hst.cons
  obtain⟨cZ,hst⟩:=hst.cons
  obtain⟨dm,hst⟩:=hst.cons
  have hF2:=(Ev.aC (M:=ku E l r g dJ) (u:=.p 0 0) (Ev.aC (u:=.v (.pointer (some ⟨z,0,none⟩))) (Ev.aC (u:=.p 1 0) (Ev.aU hst.1 hst.2.1) dm) cZ) hf0)
  show(fmC (aK (aM 26) kL).2 0).wp Tryz.prog _ b w3
  refine Ev.bH (M:=ku E l r g dJ) (S:=rdS l (iZ W r tb cap l g z)) (n:=100) (K:=[(0,.p 0 0),(4,.v (.pointer (some ⟨z,0,none⟩))),(5,.p 1 0)]) (s:=(.any (.ok (pa+1)),{ref:=x1,sender:=(jC E l s1).1,counterparty:=(au E l s1).1,asset:=(iK E l (au E l s1).2).1,quantity:=(dF E l (au E l s1).2).1,kind:=2})) [0,4,5] (.nx [some (.p 0 0),some (.v (.pointer (some ⟨z,0,none⟩))),some (.p 1 0)] (.any (je E l (.ok (pa+1))).2,{ref:=x1,sender:=(jC E l s1).1,counterparty:=(au E l s1).1,asset:=(iK E l (au E l s1).2).1,quantity:=(dF E l (au E l s1).2).1,kind:=2,tradeDay:=(je E l (.ok (pa+1))).1})) (gG hR) (bU fE) hdr (by kernel_rfl) hF2 hS λb w4 hst hS=>?_
  clear hf0 cZ dm hF2
  obtain⟨hf0,hst⟩:=hst.cons
  obtain⟨cZ,hst⟩:=hst.cons
  obtain⟨dm,hst⟩:=hst.cons
  have hF2:=(Ev.aC (M:=ku E l r g dJ) (u:=.p 0 0) (Ev.aC (u:=.v (.pointer (some ⟨z,0,none⟩))) (Ev.aC (u:=.p 1 0) (Ev.aU hst.1 hst.2.1) dm) cZ) hf0)
  show(fmC (aK (aM 26) kL).2 1).wp Tryz.prog _ b w4
  refine Ev.bH (M:=ku E l r g dJ) (S:=rdS l (iZ W r tb cap l g z)) (n:=100) (K:=[(0,.p 0 0),(4,.v (.pointer (some ⟨z,0,none⟩))),(5,.p 1 0)]) (s:=(.any (je E l (.ok (pa+1))).2,{ref:=x1,sender:=(jC E l s1).1,counterparty:=(au E l s1).1,asset:=(iK E l (au E l s1).2).1,quantity:=(dF E l (au E l s1).2).1,kind:=2,tradeDay:=(je E l (.ok (pa+1))).1})) [0,4,5] (.one (decide ((2:Int)<3)) true (.go (aK (aM 34) kL) [some (.p 0 0),some (.v (.pointer (some ⟨z,0,none⟩))),some (.p 1 0)] (.any (pF E l (je E l (.ok (pa+1))).2).2,{({ref:=x1,sender:=(jC E l s1).1,counterparty:=(au E l s1).1,asset:=(iK E l (au E l s1).2).1,quantity:=(dF E l (au E l s1).2).1,kind:=2}:Ps.Ins)with tradeDay:=(je E l (.ok (pa+1))).1,settleDay:=(pF E l (je E l (.ok (pa+1))).2).1}))) (gG hR) (bU fE) hdr (by kernel_rfl) hF2 hS ⟨by kernel_rfl,λb w5 hst hS=>?_⟩
  clear hf0 cZ dm hF2
  obtain⟨hf0,hst⟩:=hst.cons
  obtain⟨cZ,hst⟩:=hst.cons
  obtain⟨dm,hst⟩:=hst.cons
  exact lu hR rfl hS.2 (λst2 i2 iR=>Ps.Res.bind hx (Ps.Res.bind (qF E l s1) (Ps.Res.bind (mO E l _ _) (Ps.Res.bind (by rw[fA];exact k2) (Ps.Res.bind (Ps.Res.of_step _ () _) (Ps.Res.bind (Ps.Res.of_step (Ps.day E l) 0 _) (Ps.Res.bind (Ps.Res.of_step _ () _) (Ps.Res.bind (Ps.Res.of_step (Ps.day E l) 0 _) iR)))))))) hst.1 hst.2.1 hf0 cZ dm
 ·obtain⟨hf0,hst⟩:=hst.cons
  obtain⟨cZ,hst⟩:=hst.cons
  obtain⟨dm,hst⟩:=hst.cons
  exact lu hR rfl hS.2 (λst2 i2 iR=>Ps.Res.bind hx (Ps.Res.bind (qF E l s1) (Ps.Res.bind (mO E l _ _) (Ps.Res.bind (Ps.price_against hc (Ps.Res.bind (Ps.Res.of_step _ () _) (Ps.Res.bind (Ps.Res.of_step (Ps.cash E l) 0 _) (Ps.Res.pure _ _)))) (Ps.Res.bind (Ps.Res.of_step _ () _) (Ps.Res.bind (Ps.Res.of_step (Ps.day E l) 0 _) (Ps.Res.bind (Ps.Res.of_step _ () _) (Ps.Res.bind (Ps.Res.of_step (Ps.day E l) 0 _) iR)))))))) hst.1 hst.2.1 hf0 cZ dm
def dI:Nat->Option Bool:=λt=>match t with|14=>some false|35=>some true|44=>some false|66=>some true|95=>some true|_=>none
theorem vE (W:World)(r tb cap:Nat)(l:List Ps.Tok)(st0:Ps.St)(E:Ps.Env)(hR:Rdr r tb cap l E)(H0:ae W r tb cap l st0)(hr0:r<W.heap.size)(ht0:tb<W.heap.size):
 Calls Tryz.prog 28 #[.pointer (some ⟨r,0,none⟩),.string ⟨#[114,101,99,101,105,118,101]⟩] W (dh (Ps.bind' (Ps.ref E l) (Ps.trade2 E l true)) W r tb cap l st0):=by
 refine jg _ hR H0 hr0 ht0 λg z x1 s1 a w hx hF HA=>?_
 have hF:=qH (lo':=j4) (st':=jI) (ca':=λ_ _ _=>none) (h':=dI) (λt k j h=>by have:=Ev.eP h;simp at this) (λt k j m h=>by have:=Ev.eP h;simp at this) hF
 have hdr:∀(s:RS×Ps.Ins) w,rdS l (iZ W r tb cap l g z) s w->rdS l (iZ W r tb cap l g z) s w.drew:=λs w h=>⟨h.1,SAt.reader h.2 (h.2.rd.drewN 1) (Tch.drewN _ _ _ 1)⟩
 refine Ev.bH (M:=ku E l r g dI) (S:=rdS l (iZ W r tb cap l g z)) (n:=100) (K:=[(0,.p 0 0),(1,.v (.string (⟨#[114,101,99,101,105,118,101]⟩:ByteArray))),(4,.v (.pointer (some ⟨z,0,none⟩))),(5,.p 1 0)]) (s:=(.any s1,{ref:=x1})) [0,4,5] (.one (((⟨#[114,101,99,101,105,118,101]⟩:ByteArray).toList==(⟨#[112,108,101,100,103,101]⟩:ByteArray).toList)||((⟨#[114,101,99,101,105,118,101]⟩:ByteArray).toList==(⟨#[114,101,108,101,97,115,101]⟩:ByteArray).toList)) false (.one ((⟨#[114,101,99,101,105,118,101]⟩:ByteArray).toList==(⟨#[114,101,99,101,105,118,101]⟩:ByteArray).toList) true (.one ((⟨#[114,101,99,101,105,118,101]⟩:ByteArray).toList==(⟨#[112,97,121]⟩:ByteArray).toList) false (.one (((⟨#[114,101,99,101,105,118,101]⟩:ByteArray).toList==(⟨#[100,101,108,105,118,101,114]⟩:ByteArray).toList)||((⟨#[114,101,99,101,105,118,101]⟩:ByteArray).toList==(⟨#[114,101,99,101,105,118,101]⟩:ByteArray).toList)) true (.ite (d9 l (dF E l (au E l s1).2).2 (⟨#[102,114,101,101]⟩:ByteArray).data.toList) (.go (aK (aM 26) kL) [some (.p 0 0),some (.v (.pointer (some ⟨z,0,none⟩))),some (.p 1 0)] (.any (dF E l (au E l s1).2).2,{ref:=x1,sender:=(au E l s1).1,counterparty:=(jC E l s1).1,side:=1,asset:=(iK E l (au E l s1).2).1,quantity:=(dF E l (au E l s1).2).1,kind:=2})) (.one (decide ((1:Int)<3)) true (.go (aK (aM 34) kL) [some (.p 0 0),some (.v (.pointer (some ⟨z,0,none⟩))),some (.p 1 0)] (.any (pF E l (je E l (AC E l (dF E l (au E l s1).2).2).2).2).2,{({ref:=x1,sender:=(au E l s1).1,counterparty:=(jC E l s1).1,side:=1,asset:=(iK E l (au E l s1).2).1,quantity:=(dF E l (au E l s1).2).1,kind:=1,amount:=(AC E l (dF E l (au E l s1).2).2).1}:Ps.Ins)with tradeDay:=(je E l (AC E l (dF E l (au E l s1).2).2).2).1,settleDay:=(pF E l (je E l (AC E l (dF E l (au E l s1).2).2).2).2).1})))))))) (gG hR) (bU fE) hdr (by kernel_rfl) hF ⟨trivial,HA⟩ ⟨by kernel_rfl,⟨by kernel_rfl,⟨by kernel_rfl,⟨by kernel_rfl,⟨λhc b w2 hst hS=>?_,λhc=>⟨by kernel_rfl,λb w2 hst hS=>?_⟩⟩⟩⟩⟩⟩
 ·obtain⟨k1,k2⟩:=Ps.price_free (E:=E) (i:=({ref:=x1,sender:=(au E l s1).1,counterparty:=(jC E l s1).1,side:=1,asset:=(iK E l (au E l s1).2).1,quantity:=(dF E l (au E l s1).2).1,kind:=1}:Ps.Ins)) hc
  obtain⟨pa,fA⟩:∃pa,(dF E l (au E l s1).2).2=.ok pa:=by
   cases h:(dF E l (au E l s1).2).2 with
   |ok b=>exact⟨b,rfl⟩
   |error er=>rw[h]at hc;cases hc
  have hlt:=k1 pa fA
  rw[fA]at k2
  have HA2:SAt W r tb cap l g z (.ok pa) {ref:=x1,sender:=(au E l s1).1,counterparty:=(jC E l s1).1,side:=1,asset:=(iK E l (au E l s1).2).1,quantity:=(dF E l (au E l s1).2).1,kind:=2} (.slice none 0 0) w2:=by rw[<-fA];exact hS.2
  obtain⟨hf0,hst⟩:=hst.cons
  obtain⟨cZ,hst⟩:=hst.cons
  obtain⟨dm,hst⟩:=hst.cons
  have hF2:=(Ev.aC (M:=ku E l r g dI) (u:=.p 0 0) (Ev.aC (u:=.v (.pointer (some ⟨z,0,none⟩))) (Ev.aC (u:=.p 1 0) (Ev.aU hst.1 hst.2.1) dm) cZ) hf0)
  refine Ev.bH (M:=ku E l r g dI) (S:=rdS l (iZ W r tb cap l g z)) (n:=100) (K:=[(0,.p 0 0),(4,.v (.pointer (some ⟨z,0,none⟩))),(5,.p 1 0)]) (s:=(.at0 pa,{ref:=x1,sender:=(au E l s1).1,counterparty:=(jC E l s1).1,side:=1,asset:=(iK E l (au E l s1).2).1,quantity:=(dF E l (au E l s1).2).1,kind:=2})) [0,4,5] (.nx [some (.p 0 0),some (.v (.pointer (some ⟨z,0,none⟩))),some (.p 1 0)] (.any (.ok (pa+1)),{ref:=x1,sender:=(au E l s1).1,counterparty:=(jC E l s1).1,side:=1,asset:=(iK E l (au E l s1).2).1,quantity:=(dF E l (au E l s1).2).1,kind:=2})) (gG hR) (bU fE) hdr (by kernel_rfl) hF2 ⟨hlt,HA2⟩ λb w3 hst hS=>?_
  clear hf0 cZ dm hF2 HA2
  obtain⟨hf0,hst⟩:=hst.cons
  obtain⟨cZ,hst⟩:=hst.cons
  obtain⟨dm,hst⟩:=hst.cons
  have hF2:=(Ev.aC (M:=ku E l r g dI) (u:=.p 0 0) (Ev.aC (u:=.v (.pointer (some ⟨z,0,none⟩))) (Ev.aC (u:=.p 1 0) (Ev.aU hst.1 hst.2.1) dm) cZ) hf0)
  show(fmC (aK (aM 26) kL).2 0).wp Tryz.prog _ b w3
  refine Ev.bH (M:=ku E l r g dI) (S:=rdS l (iZ W r tb cap l g z)) (n:=100) (K:=[(0,.p 0 0),(4,.v (.pointer (some ⟨z,0,none⟩))),(5,.p 1 0)]) (s:=(.any (.ok (pa+1)),{ref:=x1,sender:=(au E l s1).1,counterparty:=(jC E l s1).1,side:=1,asset:=(iK E l (au E l s1).2).1,quantity:=(dF E l (au E l s1).2).1,kind:=2})) [0,4,5] (.nx [some (.p 0 0),some (.v (.pointer (some ⟨z,0,none⟩))),some (.p 1 0)] (.any (je E l (.ok (pa+1))).2,{ref:=x1,sender:=(au E l s1).1,counterparty:=(jC E l s1).1,side:=1,asset:=(iK E l (au E l s1).2).1,quantity:=(dF E l (au E l s1).2).1,kind:=2,tradeDay:=(je E l (.ok (pa+1))).1})) (gG hR) (bU fE) hdr (by kernel_rfl) hF2 hS λb w4 hst hS=>?_
  clear hf0 cZ dm hF2
  obtain⟨hf0,hst⟩:=hst.cons
  obtain⟨cZ,hst⟩:=hst.cons
  obtain⟨dm,hst⟩:=hst.cons
  have hF2:=(Ev.aC (M:=ku E l r g dI) (u:=.p 0 0) (Ev.aC (u:=.v (.pointer (some ⟨z,0,none⟩))) (Ev.aC (u:=.p 1 0) (Ev.aU hst.1 hst.2.1) dm) cZ) hf0)
  show(fmC (aK (aM 26) kL).2 1).wp Tryz.prog _ b w4
  refine Ev.bH (M:=ku E l r g dI) (S:=rdS l (iZ W r tb cap l g z)) (n:=100) (K:=[(0,.p 0 0),(4,.v (.pointer (some ⟨z,0,none⟩))),(5,.p 1 0)]) (s:=(.any (je E l (.ok (pa+1))).2,{ref:=x1,sender:=(au E l s1).1,counterparty:=(jC E l s1).1,side:=1,asset:=(iK E l (au E l s1).2).1,quantity:=(dF E l (au E l s1).2).1,kind:=2,tradeDay:=(je E l (.ok (pa+1))).1})) [0,4,5] (.one (decide ((2:Int)<3)) true (.go (aK (aM 34) kL) [some (.p 0 0),some (.v (.pointer (some ⟨z,0,none⟩))),some (.p 1 0)] (.any (pF E l (je E l (.ok (pa+1))).2).2,{({ref:=x1,sender:=(au E l s1).1,counterparty:=(jC E l s1).1,side:=1,asset:=(iK E l (au E l s1).2).1,quantity:=(dF E l (au E l s1).2).1,kind:=2}:Ps.Ins)with tradeDay:=(je E l (.ok (pa+1))).1,settleDay:=(pF E l (je E l (.ok (pa+1))).2).1}))) (gG hR) (bU fE) hdr (by kernel_rfl) hF2 hS ⟨by kernel_rfl,λb w5 hst hS=>?_⟩
  clear hf0 cZ dm hF2
  obtain⟨hf0,hst⟩:=hst.cons
  obtain⟨cZ,hst⟩:=hst.cons
  obtain⟨dm,hst⟩:=hst.cons
  exact lu hR rfl hS.2 (λst2 i2 iR=>Ps.Res.bind hx (Ps.Res.bind (qF E l s1) (Ps.Res.bind (mO E l _ _) (Ps.Res.bind (by rw[fA];exact k2) (Ps.Res.bind (Ps.Res.of_step _ () _) (Ps.Res.bind (Ps.Res.of_step (Ps.day E l) 0 _) (Ps.Res.bind (Ps.Res.of_step _ () _) (Ps.Res.bind (Ps.Res.of_step (Ps.day E l) 0 _) iR)))))))) hst.1 hst.2.1 hf0 cZ dm
 ·obtain⟨hf0,hst⟩:=hst.cons
  obtain⟨cZ,hst⟩:=hst.cons
  obtain⟨dm,hst⟩:=hst.cons
  exact lu hR rfl hS.2 (λst2 i2 iR=>Ps.Res.bind hx (Ps.Res.bind (qF E l s1) (Ps.Res.bind (mO E l _ _) (Ps.Res.bind (Ps.price_against hc (Ps.Res.bind (Ps.Res.of_step _ () _) (Ps.Res.bind (Ps.Res.of_step (Ps.cash E l) 0 _) (Ps.Res.pure _ _)))) (Ps.Res.bind (Ps.Res.of_step _ () _) (Ps.Res.bind (Ps.Res.of_step (Ps.day E l) 0 _) (Ps.Res.bind (Ps.Res.of_step _ () _) (Ps.Res.bind (Ps.Res.of_step (Ps.day E l) 0 _) iR)))))))) hst.1 hst.2.1 hf0 cZ dm
theorem M0 (ρ:Operand->Value)(Q:Ps.Req)(V:Value){x0 x1 x2 x3 x4:Operand}(h0:ρ x0=.int .i64 Q.op)(h1:ρ x1=.string Q.sender)(h2:ρ x2=.string Q.ref)(h3:ρ x3=.agg (aB Q.ins V).toArray)(h4:ρ x4=.agg (aG Q.amd).toArray)(w:World):
 (Instr.build 38 ((#[(0,x0),(1,x1),(2,x2),(3,x3),(4,x4)]:Array (Nat×Operand)).map λ(i,x)=>(i,ρ x))).run Tryz.prog w=.ok (.agg (aA Q V)) w:=by
 simp only[List.map_toArray,List.map_cons,List.map_nil,h0,h1,h2,h3,h4]
 unfold aA aB aG
 go_simp
theorem xg {w:World}{B:Nat}{a:Option Addr}{n c:Nat}{ks:List Ps.Link}(h:LkL w B (.slice a n c) ks)(hn:0<n):∃sb,a=some ⟨sb,0,none⟩/\∀W,Below w.heap.size w W->dM W sb ks:=by
 obtain⟨a',c',hs⟩:=dB h
 obtain⟨rfl,rfl,rfl⟩:a=a'/\n=ks.length/\c=c':=by cases hs;exact⟨rfl,rfl,rfl⟩
 obtain⟨sb,cap,hv,hlt,hcell⟩:=xY h hn
 refine⟨sb,by cases hv;rfl,λW hW=>?_⟩
 refine dM.below ?_ hW
 intro j x hj
 have hk:∀(ks:List Ps.Link) (j:Nat) (x:Ps.Link),ks[j]? =some x->(dO ks)[j*2]? =some (.int .i64 x.type)/\(dO ks)[j*2+1]? =some (.string x.ref):=by
  intro ks
  induction ks with
  |nil=>intro j x h;simp at h
  |cons y ks ih=>
   intro j x h
   cases j with
   |zero=>
    obtain rfl:y=x:=by simpa using h
    exact⟨rfl,rfl⟩
   |succ j=>
    have:=ih j x (by simpa using h)
    rw[show(j+1)*2=j*2+1+1 from by omega]
    exact this
 obtain⟨h1,h2⟩:=hk ks j x hj
 exact⟨hcell _ _ h1,hcell _ _ h2⟩
theorem ent34:∀args w,(callFunc 34 args).run Tryz.prog w=.ok (.enter 34 args) w:=enters_of Tryz.func34 (by kernel_rfl) rfl
theorem ent35:∀args w,(callFunc 35 args).run Tryz.prog w=.ok (.enter 35 args) w:=enters_of Tryz.func35 (by kernel_rfl) rfl
theorem Hl (w:World)(Q:Ps.Req)(sa:Option Addr)(sn sc:Nat)(hsn:Hid (sn=Q.ins.links.length))(hlt:Hid (sn<=1000000))(hlk:Hid (0<sn->∃sb,sa=some ⟨sb,0,none⟩/\∀W,Below w.heap.size w W->dM W sb Q.ins.links)):
 Calls Tryz.prog 12 #[.agg (aA Q (.slice sa sn sc))] w λe w'=>∃ta tc,e=.returned (.agg (aA Q (.slice ta sn tc)))/\Below w.heap.size w w'/\LkL w' w.heap.size (.slice ta sn tc) Q.ins.links:=by
 obtain⟨g,hg⟩:∃g,g=w.heap.size:=⟨_,rfl⟩
 go_enter Tryz.func12,Tryz.ntmps12
 refine wp_seq ?_
 refine wp_region_lit ?_
 refine wpList_plain rfl (λK hK=>?_)
 go_simp
 refine hK _ _ ?_
 clear hK K
 refine wpList_plain rfl (λK hK=>?_)
 go_simp
 refine hK _ _ ?_
 clear hK K
 refine aL ?_
 have rww:Hid (∀(W:World) (sb:Nat),Below w.heap.size w W->True):=Lib.hid λ_ _ _=>trivial
 generalize hW:World.alloc _ _=W1
 have hW1:W1=(w.alloc (.cells (aA Q (.slice sa sn sc)) 29)).alloc (.cells (aA {} (.slice none 0 0)) 38):=hW.symm
 clear hW rww
 have hb1:Below w.heap.size w W1:=by rw[hW1];exact((Below.refl _ _).alloc (Nat.le_refl _) _).alloc (by simp) _
 have hr0:W1.heap[g]? =some (.cells (aA Q (.slice sa sn sc)) 29 (0,0)):=by rw[hW1,hg,heap_alloc_old _ _ (by simp)];exact aD w _
 have hr1:W1.heap[g+1]? =some (.cells (aA {} (.slice none 0 0)) 38 (0,0)):=by rw[hW1,hg];exact heap_alloc2_new _ _ _
 have hs1:g+2=W1.heap.size:=by rw[hW1,hg];simp
 have HG:=Lib.hid hg
 rw[<-hg]at hb1 hlk⊢
 clear hW1 hg
 obtain⟨W2,hW2⟩:∃W2,W2=W1.drew:=⟨_,rfl⟩
 have hb2:Below g w W2:=by rw[hW2];exact hb1.drew
 have hz2:W2.heap=W1.heap:=by rw[hW2];rfl
 have nB:=KP W2 Q.ins sa sn sc hsn hlt (Lib.hid λh=>by
  obtain⟨sb,e,hr⟩:=hlk.out h
  exact⟨sb,e,λW hW=>hr W (hb2.trans (hW.mono (by have:=hb2.size;have:=HG.out;omega)))⟩)
 obtain⟨W3,hW3⟩:∃W3,W3=bkW W2 Q.ins (.slice sa sn sc):=⟨_,rfl⟩
 obtain⟨ta,tc,hV,hb3,hL3⟩:∃ta tc,bkV W2 Q.ins (.slice sa sn sc)=.slice ta sn tc/\Below W2.heap.size W2 W3/\LkL W3 (W2.heap.size+3) (.slice ta sn tc) Q.ins.links:=by
  obtain⟨e,w',_,⟨_,h1,ta,tc,h2,h3,h4⟩,_⟩:=nB []
  rw[h1]at h3 h4
  rw[hW3]
  exact⟨ta,tc,h2,h3,h4⟩
 rw[hV,<-hW3]at nB
 replace nB:=Lib.hid (nB.mono λe w' h=>(⟨h.1,h.2.1⟩:_/\_))
 have hs2:W2.heap.size=g+2:=by rw[hz2,hs1]
 have hg3:∀w,Below W3.heap.size W3 w->w.heap[g]? =some (.cells (aA Q (.slice sa sn sc)) 29 (0,0))/\w.heap[g+1]? =some (.cells (aA {} (.slice none 0 0)) 38 (0,0)):=λw hw=>by
  have:=hb3.size
  rw[hw.block g (by omega),hw.block (g+1) (by omega),hb3.block g (by omega),hb3.block (g+1) (by omega),hz2]
  exact⟨hr0,hr1⟩
 have hst:Hid (∀(dn:Nat->Bool) (w:World),(if dn 13=true then∃w0,Below W3.heap.size W3 w0/\w=w0.setRow (g+1) (aA Q (.slice ta sn tc))else if dn 11=true then Below W3.heap.size W3 w else if dn 8=true then w=W3 else w=W2)->w.heap[g]? =some (.cells (aA Q (.slice sa sn sc)) 29 (0,0))):=Lib.hid λdn w h=>by
  split at h
  ·obtain⟨w0,h1,rfl⟩:=h
   rw[setRow_other _ _ _ _ (by omega)]
   exact(hg3 w0 h1).1
  ·split at h
   ·exact(hg3 w h).1
   ·split at h
    ·rw[h];exact(hg3 W3 (Below.refl _ _)).1
    ·rw[h,hz2];exact hr0
 have hz1:Hid (∀w,Below W3.heap.size W3 w->w.heap[g+1]? =some (.cells (aA {} (.slice none 0 0)) 38 (0,0))):=Lib.hid λw hw=>(hg3 w hw).2
 have HE:Hid (∀w0,Below W3.heap.size W3 w0->(w0.setRow (g+1) (aA Q (.slice ta sn tc))).heap[g+1]? =some (.cells (aA Q (.slice ta sn tc)) 38 (0,0))/\Below g w (w0.setRow (g+1) (aA Q (.slice ta sn tc)))/\LkL (w0.setRow (g+1) (aA Q (.slice ta sn tc))) g (.slice ta sn tc) Q.ins.links):=Lib.hid λw0 h0=>by
  have k1:=hb3.size
  have k2:=hb2.size
  have k3:=h0.size
  refine⟨setRow_heap w0 (g+1) _ _ _ _ (hg3 w0 h0).2,⟨?_,?_,?_,?_,λj hj=>?_⟩,?_⟩
  ·exact h0.os.trans (hb3.os.trans hb2.os)
  ·exact h0.tape.trans (hb3.tape.trans hb2.tape)
  ·exact h0.output.trans (hb3.output.trans hb2.output)
  ·rw[setRow_size];omega
  ·rw[setRow_other _ _ _ _ (by omega),h0.block j (by omega),hb3.block j (by omega)]
   exact hb2.block j hj
  ·refine ja (bP hL3 λj hj=>?_) (by omega)
   have:=hL3.lt j hj
   rw[setRow_other _ _ _ _ (by omega)]
   exact h0.block j this.2
 have HW2:=Lib.hid hW2
 clear hW3 hV hb3 hL3 hs2 hg3 hz2 hb2 hW2 hs1 hr0 hr1 hb1 hlk hlt hsn
 refine iq rfl λa ha hdf=>?_
 have hsz:a.tmps.size=16:=by rw[ha];rfl
 have hf1:a.tmps[1]? =some (.pointer (some ⟨g,0,none⟩)):=by rw[ha];rfl
 have hf2:a.tmps[2]? =some (.pointer (some ⟨g+1,0,none⟩)):=by rw[ha];rfl
 clear ha
 refine wp_seq ?_
 obtain⟨vs,hvs⟩:∃vs:List Value,vs=[(.pointer (some ⟨g,0,none⟩)),(.int .i64 Q.op),(.pointer (some ⟨g,1,none⟩)),(.string Q.sender),(.pointer (some ⟨g,2,none⟩)),(.string Q.ref),(.pointer (some ⟨g,3,none⟩)),(.agg (aB Q.ins (.slice sa sn sc)).toArray),(.agg (aB Q.ins (.slice ta sn tc)).toArray),(.pointer (some ⟨g,19,none⟩)),(.agg (aG Q.amd).toArray),(.agg (aG Q.amd).toArray),(.agg (aA Q (.slice ta sn tc))),(undef)]:=⟨_,rfl⟩
 refine dE (λdn w=>if dn 13=true then∃w0,Below W3.heap.size W3 w0/\w=w0.setRow (g+1) (aA Q (.slice ta sn tc))else if dn 11=true then Below W3.heap.size W3 w else if dn 8=true then w=W3 else w=W2) (Ord.inD [(1,0),(3,2),(5,4),(7,6),(8,6),(8,7),(10,9),(11,8),(11,9),(11,10),(12,0),(12,1),(12,2),(12,3),(12,4),(12,5),(12,6),(12,7),(12,8),(12,9),(12,10),(12,11),(13,0),(13,1),(13,2),(13,3),(13,4),(13,5),(13,6),(13,7),(13,8),(13,9),(13,10),(13,11),(13,12)]) (Ord.ig (by kernel_rfl)) 14 vs (by rw[hvs];rfl) rfl rfl (by kernel_rfl) (by kernel_rfl) (by kernel_rfl) (by rw[hsz];kernel_rfl) (by simpa using HW2.out.symm) ?_ ?_
 ·intro ρ hD hrest hco hfu
  have e1:ρ (.tmp 1)=.pointer (some ⟨g,0,none⟩):=(hrest 1 (by decide +kernel)).trans (eval_at hf1)
  have e2:ρ (.tmp 2)=.pointer (some ⟨g+1,0,none⟩):=(hrest 2 (by decide +kernel)).trans (eval_at hf2)
  obtain⟨e3,e4,e5,e6,e7,e8,e9,e10,e11,e12,e13,e14,e15,-⟩:ρ (.tmp 3)=(.pointer (some ⟨g,0,none⟩))/\ρ (.tmp 4)=(.int .i64 Q.op)/\ρ (.tmp 5)=(.pointer (some ⟨g,1,none⟩))/\ρ (.tmp 6)=(.string Q.sender)/\ρ (.tmp 7)=(.pointer (some ⟨g,2,none⟩))/\ρ (.tmp 8)=(.string Q.ref)/\ρ (.tmp 9)=(.pointer (some ⟨g,3,none⟩))/\ρ (.tmp 10)=(.agg (aB Q.ins (.slice sa sn sc)).toArray)/\ρ (.tmp 11)=(.agg (aB Q.ins (.slice ta sn tc)).toArray)/\ρ (.tmp 12)=(.pointer (some ⟨g,19,none⟩))/\ρ (.tmp 13)=(.agg (aG Q.amd).toArray)/\ρ (.tmp 14)=(.agg (aG Q.amd).toArray)/\ρ (.tmp 15)=(.agg (aA Q (.slice ta sn tc)))/\True/\True:=dS hvs hD
  refine jZ hvs ?_
  refine⟨λdn hn hd he=>aF (B:=λ_=>True) (λw h=>by simpa using h) (λ_ _=>trivial) (λw0=>aP rfl (bS rfl e1 (λw=>by go_simp))),?_⟩
  refine⟨λdn hn hd he=>aF (B:=λw=>w.heap[g]? =some (.cells (aA Q (.slice sa sn sc)) 29 (0,0))) (λw h=>by simpa using h) (λw h=>hst.out dn w h) (λw0=>aP rfl (bT rfl e3 (λw hS=>lZ _ w _ (by rw[cell_of_row _ _ _ _ _ _ hS.2];rfl)))),?_⟩
  refine⟨λdn hn hd he=>aF (B:=λ_=>True) (λw h=>by simpa using h) (λ_ _=>trivial) (λw0=>aP rfl (bS rfl e1 (λw=>by go_simp))),?_⟩
  refine⟨λdn hn hd he=>aF (B:=λw=>w.heap[g]? =some (.cells (aA Q (.slice sa sn sc)) 29 (0,0))) (λw h=>by simpa using h) (λw h=>hst.out dn w h) (λw0=>aP rfl (bT rfl e5 (λw hS=>yB _ w _ (by rw[cell_of_row _ _ _ _ _ _ hS.2];rfl)))),?_⟩
  refine⟨λdn hn hd he=>aF (B:=λ_=>True) (λw h=>by simpa using h) (λ_ _=>trivial) (λw0=>aP rfl (bS rfl e1 (λw=>by go_simp))),?_⟩
  refine⟨λdn hn hd he=>aF (B:=λw=>w.heap[g]? =some (.cells (aA Q (.slice sa sn sc)) 29 (0,0))) (λw h=>by simpa using h) (λw h=>hst.out dn w h) (λw0=>aP rfl (bT rfl e7 (λw hS=>yB _ w _ (by rw[cell_of_row _ _ _ _ _ _ hS.2];rfl)))),?_⟩
  refine⟨λdn hn hd he=>aF (B:=λ_=>True) (λw h=>by simpa using h) (λ_ _=>trivial) (λw0=>aP rfl (bS rfl e1 (λw=>by go_simp))),?_⟩
  refine⟨λdn hn hd he=>aF (B:=λw=>w.heap[g]? =some (.cells (aA Q (.slice sa sn sc)) 29 (0,0))) (λw h=>by simpa using h) (λw h=>hst.out dn w h) (λw0=>aP rfl (bT rfl e9 (λw hS=>JZ g Q sa sn sc w hS.2))),?_⟩
  refine⟨λdn hn hd he=>⟨λ_ w hS=>?_,λh=>by have h2:true=false:=h;cases h2⟩,?_⟩
  ·have h11:=he 11 rfl;have h13:=he 13 rfl
   simp only[hn,h11,h13,Bool.false_eq_true,if_false]at hS
   subst hS
   unfold execOp
   have hf:=hfu 34
   simp[resolve,invoke,hf,e10,Deferred.ofValue,ent34]
   exact nB.out.mono λe w' h=>⟨h.1,by simp[h11,h13];exact h.2⟩
  refine⟨λdn hn hd he=>aF (B:=λ_=>True) (λw h=>by simpa using h) (λ_ _=>trivial) (λw0=>aP rfl (bS rfl e1 (λw=>by go_simp))),?_⟩
  refine⟨λdn hn hd he=>aF (B:=λw=>w.heap[g]? =some (.cells (aA Q (.slice sa sn sc)) 29 (0,0))) (λw h=>by simpa using h) (λw h=>hst.out dn w h) (λw0=>aP rfl (bT rfl e12 (λw hS=>rq_amd g Q _ w hS.2))),?_⟩
  refine⟨λdn hn hd he=>⟨λ_ w hS=>?_,λh=>by have h2:true=false:=h;cases h2⟩,?_⟩
  ·have h8:=hd 8 rfl;have h13:=he 13 rfl
   simp only[hn,h8,h13,Bool.false_eq_true,if_false,if_true]at hS
   subst hS
   unfold execOp
   have hf:=hfu 35
   simp[resolve,invoke,hf,e13,Deferred.ofValue,ent35]
   exact(I9 _ Q.amd).mono λe w' h=>⟨h.1,by simp[h13];exact h.2⟩
  refine⟨λdn hn hd he=>aF (B:=λ_=>True) (λw h=>by simpa using h) (λ_ _=>trivial) (λw0=>aP rfl (kJ rfl (M0 ρ _ _ e4 e6 e8 e11 e14))),?_⟩
  refine⟨λdn hn hd he=>⟨λ_ w hS=>?_,λh=>by have h2:true=false:=h;cases h2⟩,?_⟩
  ·have h11:=hd 11 rfl
   simp only[hn,h11,Bool.false_eq_true,if_false,if_true]at hS
   unfold execOp
   simp only[e2,e15,Instr.storeAt,Instr.sureAddr,Sem.run_bind,Sem.run_pure,Result.andThen_ok,run_storeVar_row (P:=Tryz.prog) w (g+1) 38 38 (aA {} (.slice none 0 0)) (aA Q (.slice ta sn tc)) (hz1.out w hS) (by kernel_rfl) rfl (dH _ _ _ _)]
   exact⟨rfl,by simp;exact⟨w,hS,rfl⟩⟩
  exact trivial
 intro b w9 hS hK hD
 obtain⟨w0,h0,rfl⟩:∃w0,Below W3.heap.size W3 w0/\w9=w0.setRow (g+1) (aA Q (.slice ta sn tc)):=by simpa using hS
 obtain⟨k1,k2,k3⟩:=HE.out w0 h0
 refine wp_ret ?_
 try simp only[Exit.then,Exit.inBlock]
 refine bodyPost_ret (results_cell_row rfl _ _ (g+1) _ _ (0,0) _ ?_ k1 Tryz.underlying38 rfl (by kernel_rfl)) (hK.defers.trans hdf) ?_
 ·exact eval_at ((hK.rest 2 (by decide +kernel)).trans hf2)
 exact⟨ta,tc,rfl,k2,k3⟩
abbrev aQ:Value:=.slice none 0 0
structure bN (W:World)(r tb cap:Nat)(l:List Ps.Tok)(g z:Nat)(st:Ps.St)(Q:Ps.Req)(lv:Value)(w:World):Prop where
 rd:ae w r tb cap l st
 row:w.heap[g]? =some (.cells (aA Q lv) 38 (0,0))
 zero:w.heap[z]? =some (.cells (aA {} aQ) 38 (0,0))
 bel:Below W.heap.size W w
 lk:LkL w (g+1) lv Q.ins.links
 hz:W.heap.size<=z
 hzt:z<tb
 htr:tb<r
 hrg:r<g
section
variable {W : World} {r tb cap : Nat} {l : List Ps.Tok} {g z : Nat} {st st' : Ps.St} {Q : Ps.Req} {lv : Value} {w w' : World}
theorem bN.size (h:bN W r tb cap l g z st Q lv w):g<w.heap.size:=(Array.getElem?_eq_some_iff.1 h.row).1
theorem bN.reader (h:bN W r tb cap l g z st Q lv w)(hs:ae w' r tb cap l st')(hT:Tch r r w w'):bN W r tb cap l g z st' Q lv w':=by
 have h1:=h.hz;have h2:=h.hzt;have h3:=h.htr;have h4:=h.hrg;have h5:=h.size
 have up:∀j,j<w.heap.size->j≠r->w'.heap[j]? =w.heap[j]?:=λj hj hne=>hT.block j hj hne hne
 refine⟨hs,(up g h5 (by omega)).trans h.row,(up z (by omega) (by omega)).trans h.zero,?_,bP h.lk λj hj=>?_,h1,h2,h3,h4⟩
 ·refine⟨hT.os.trans h.bel.os,hT.tape.trans h.bel.tape,hT.output.trans h.bel.output,Nat.le_trans h.bel.size hT.size,λj hj=>(up j (by have:=h.bel.size;omega) (by omega)).trans (h.bel.block j hj)⟩
 ·have:=h.lk.lt j hj
  exact up j this.2 (by omega)
theorem bN.drew (h:bN W r tb cap l g z st Q lv w):bN W r tb cap l g z st Q lv w.drew:=h.reader (h.rd.drewN 1) (Tch.drewN _ _ _ 1)
theorem bN.below (h:bN W r tb cap l g z st Q lv w)(hb:Below w.heap.size w w'):bN W r tb cap l g z st Q lv w':=h.reader (h.rd.below hb) (Tch.of_below hb)
theorem bN.whole (h:bN W r tb cap l g z st Q lv w)(Q':Ps.Req)(lv':Value)(hl:LkL w (g+1) lv' Q'.ins.links):bN W r tb cap l g z st Q' lv' (w.setRow g (aA Q' lv')):=by
 have h1:=h.hz;have h2:=h.hzt;have h3:=h.htr;have h4:=h.hrg;have h5:=h.size
 have up:∀k,k≠g->(w.setRow g (aA Q' lv')).heap[k]? =w.heap[k]?:=λk hk=>setRow_other w g k _ hk
 have hsz:(w.setRow g (aA Q' lv')).heap.size=w.heap.size:=setRow_size w g _
 have hT:Tch g g w (w.setRow g (aA Q' lv')):=⟨rfl,rfl,rfl,by omega,λj _ h1 _=>up j h1⟩
 refine⟨h.rd.tch hT.right (by omega) (by omega),setRow_heap w g _ _ _ _ h.row,(up z (by omega)).trans h.zero,?_,bP hl λj hj=>?_,h1,h2,h3,h4⟩
 ·exact⟨h.bel.os,h.bel.tape,h.bel.output,by rw[hsz];exact h.bel.size,λj hj=>(up j (by omega)).trans (h.bel.block j hj)⟩
 ·have:=h.lk
  have:=hl.lt j hj
  exact up j (by omega)
theorem bN.field (h:bN W r tb cap l g z st Q lv w)(j:Nat)(v:Value)(Q':Ps.Req)(hc:(aA Q lv).setIfInBounds j v=aA Q' lv)(hk:Q'.ins.links=Q.ins.links):bN W r tb cap l g z st Q' lv (w.setCell ⟨g,j,none⟩ v):=by
 rw[setCell_eq_setRow w g j _ _ (0,0) v h.row,hc]
 exact h.whole Q' lv (by rw[hk];exact h.lk)
theorem LW {T:TypeId}{o:Nat}{cs:Array Value}(hT:Ev.De T=some cs.size)(Q':Ps.Req)(lv':Value)(h:w.heap[g]? =some (.cells (aA Q lv) 38 (0,0)))(hl:o+cs.size<=28)(h1:cs.all (·.oneCell')=true)(hc:((aA Q lv).toList.take o++cs.toList++(aA Q lv).toList.drop (o+cs.size)).toArray=aA Q' lv'):
 (Instr.storeAt T (.pointer (some ⟨g,o,none⟩)) (.agg cs)).run Tryz.prog w=.ok () (w.setRow g (aA Q' lv')):=by
 obtain⟨d,hu,hd,hi⟩:=Ev.rM hT
 have:=run_storeCells_at (P:=Tryz.prog) g o 38 cs.toList 0 (aA Q lv) w h (by show o+0+cs.toList.length<=28;rw[Array.length_toList];omega) (λv hv=>(Array.all_eq_true_iff_forall_mem.1 h1) v (by simpa using hv))
 rw[Nat.add_zero,Array.length_toList,hc]at this
 cases hq:Tryz.prog.info? T with
 |none=>simp[hq]at hi
 |some i=>
  have hs:cs.size=i.size:=by simp[hq]at hi;omega
  simp[Instr.storeAt,Instr.sureAddr,storeVar,sizeOf,typeInfo,hq,Value.cells,hs,this]
end
theorem xW (fn:Func)(h:fn.results=#[.cell 2 38,.tmp 3,.tmp 4]){a:Act}{w:World}{z:Nat}{Q:Ps.Req}{lv:Value}{o x:Int}(hz:a.tmps[2]? =some (.pointer (some ⟨z,0,none⟩)))(h3:a.eval (.tmp 3)=.int .i64 o)(h4:a.eval (.tmp 4)=.int .i64 x)(hrow:w.heap[z]? =some (.cells (aA Q lv) 38 (0,0))):
 (results fn a.tmps).run Tryz.prog w=.ok (.tuple #[.agg (aA Q lv),.int .i64 o,.int .i64 x]) w:=by
 have e2:a.tmps[2]?.getD undef=.pointer (some ⟨z,0,none⟩):=by rw[hz];rfl
 have e3:a.tmps[3]?.getD undef=.int .i64 o:=by rw[<-h3];unfold Act.eval;simp
 have e4:a.tmps[4]?.getD undef=.int .i64 x:=by rw[<-h4];unfold Act.eval;simp
 obtain⟨d,hu,hd,hi⟩:=Ev.rM (t:=38) rfl
 simp[results,h,e2,e3,e4,asAddr,run_loadVar_row (P:=Tryz.prog) w z _ 38 (aA Q lv) (0,0) d hrow hu (by cases d<;>first|rfl|cases hd) hi]
def di (W:World)(P:Ps.Req×Int×Int)(e:Ending)(W':World):Prop:=∃lv,e=.returned (.tuple #[.agg (aA P.1 lv),.int .i64 P.2.1,.int .i64 P.2.2])/\LkL W' W.heap.size lv P.1.ins.links/\Below W.heap.size W W'
section
variable {W : World} {r tb cap : Nat} {l : List Ps.Tok} {g z : Nat} {st st' : Ps.St} {Q : Ps.Req} {lv : Value} {w w' : World}
theorem Dj {P:Ps.Req×Int×Int}{a:Act}{fn:Func}(hfn:fn.results=#[.cell 2 38,.tmp 3,.tmp 4]){lv':Value}(h:bN W r tb cap l g z st Q lv w)(hl:LkL w (g+1) lv' P.1.ins.links)(hd:a.defers=[])(h2:a.tmps[2]? =some (.pointer (some ⟨z,0,none⟩)))(h3:a.eval (.tmp 3)=.int .i64 P.2.1)(h4:a.eval (.tmp 4)=.int .i64 P.2.2):
 bodyPost Tryz.prog fn (di W P) .ret a (w.setRow z (aA P.1 lv')):=by
 have h1:=h.hz;have hzt:=h.hzt;have h3':=h.htr;have h4':=h.hrg;have h5:=h.size
 have up:∀k,k≠z->(w.setRow z (aA P.1 lv')).heap[k]? =w.heap[k]?:=λk hk=>setRow_other w z k _ hk
 have hsz:(w.setRow z (aA P.1 lv')).heap.size=w.heap.size:=setRow_size w z _
 refine bodyPost_ret (xW fn hfn h2 h3 h4 (setRow_heap w z _ _ _ _ h.zero)) hd ⟨lv',rfl,?_,?_⟩
 ·refine ja (bP hl λj hj=>?_) (by omega)
  have:=hl.lt j hj
  exact up j (by omega)
 ·exact⟨h.bel.os,h.bel.tape,h.bel.output,by rw[hsz];exact h.bel.size,λj hj=>(up j (by omega)).trans (h.bel.block j hj)⟩
end
def FH (n:Nat)(o:Oper)(ov:Operand->Option AV):Option AV:=match o.op with
 | .indexAddr t x y=>if t=48 then(match ov x,ov y with
   |some (.r 0 0),some (.v (.int .i64 (.ofNat 0)))=>some (.p 2 0)
   |_,_=>none)else none
 | .call ⟨.builtin .len,xs,ts⟩=>(match xs.toList,ts.toList with
   |[x],[t]=>if o.type=3/\t=48 then(match ov x with
    |some (.r 0 0)=>some (.v (.int .i64 (n:Int)))
    |_=>none)else none
   |_,_=>none)
 |_=>none
def DD (t:TypeId)(f:Nat):Option Nat:=if (t=81/\f<4)\/(t=53/\f<3)then some f else none
def Jp (q:Option Int)(f:FuncId)(vs:List AV):Option Value:=if f=13 then(match vs,q with|[.a 1 0 28],some q=>some (.int .i64 q)|_,_=>none)else none
def Ky (r tb cap n g:Nat)(av ev ov:Int)(qc:List Value)(k0:Int)(t0:ByteArray)(o0:Int):List (Option (Nat×Nat)×List Value):=
 [(some (r,0),[.slice (some ⟨tb,0,none⟩) n cap,.int .i64 av,.int .i64 ev,.int .i64 ov]),(some (g,0),qc),(some (tb,0),[.int .i64 k0,.string t0,.int .i64 o0])]
def paM (r tb cap n g:Nat)(av ev ov:Int)(qc:List Value)(k0:Int)(t0:ByteArray)(o0:Int)(q:Option Int):Mem Unit:=Ev.jJ DD (Ky r tb cap n g av ev ov qc k0 t0 o0) (Jp q) (FH n)
theorem ent13:∀args w,(callFunc 13 args).run Tryz.prog w=.ok (.enter 13 args) w:=enters_of Tryz.func13 (by kernel_rfl) rfl
theorem M7 {t:TypeId}{f d:Nat}(h:DD t f=some d)(b j:Nat)(w:World):(Instr.fieldAt t (.pointer (some ⟨b,j,none⟩)) f).run Tryz.prog w=.ok (.pointer (some ⟨b,j+d,none⟩)) w:=by
 unfold DD at h
 split at h
 ·rename_i h1
  cases h
  rcases h1 with⟨rfl,h2⟩|⟨rfl,h2⟩
  ·rcases f with _|_|_|_|f
   all_goals first|omega|go_simp
  ·rcases f with _|_|_|f
   all_goals first|omega|go_simp
 ·cases h
theorem paM_ok {r tb cap n g:Nat}{av ev ov:Int}{qc:List Value}{k0:Int}{t0:ByteArray}{o0:Int}{q:Option Int}{S:World->Prop}(hn:0<n)
 (h0:∀w,S w->∀(j:Nat) (v:Value),[Value.slice (some ⟨tb,0,none⟩) n cap,.int .i64 av,.int .i64 ev,.int .i64 ov][j]? =some v->w.cell? ⟨r,j,none⟩=some v)
 (h1:∀w,S w->∀(j:Nat) (v:Value),qc[j]? =some v->w.cell? ⟨g,j,none⟩=some v)
 (h2:∀w,S w->∀(j:Nat) (v:Value),[Value.int .i64 k0,.string t0,.int .i64 o0][j]? =some v->w.cell? ⟨tb,j,none⟩=some v)
 (hC:∀q0,q=some q0->∀w,S w->Calls Tryz.prog 13 #[Ev.eZ (Ky r tb cap n g av ev ov qc k0 t0 o0) (.a 1 0 28)] w λe w'=>e=.returned (.int .i64 q0)/\S w'):
 Ev.Ok Tryz.prog (λ(_:Unit) w=>S w) (paM r tb cap n g av ev ov qc k0 t0 o0 q):=by
 refine Ev.gD (λt f d h b j w=>M7 h b j w) (λk b o l h w hS=>?_) (λf vs v h=>?_) (λo ov v h ρ hov w hS=>?_)
 ·rcases k with _|_|_|k
  ·cases h;intro j v hv;rw[Nat.zero_add];exact h0 w hS j v hv
  ·cases h;intro j v hv;rw[Nat.zero_add];exact h1 w hS j v hv
  ·cases h;intro j v hv;rw[Nat.zero_add];exact h2 w hS j v hv
  ·cases h
 ·unfold Jp at h
  split at h
  ·rename_i hf
   subst hf
   split at h
   ·cases h
    exact⟨ent13,λw hS=>hC _ rfl w hS⟩
   ·cases h
  ·cases h
 ·unfold FH at h
  split at h
  ·rename_i t x y hop
   split at h
   ·rename_i ht
    subst ht
    split at h
    ·rename_i hx hy
     cases h
     have e1:=hov _ _ hx
     have e2:=hov _ _ hy
     have e1':ρ x=.slice (some ⟨tb,0,none⟩) n cap:=e1
     have e2':ρ y=.int .i64 ((0:Nat):Int):=e2
     have NZ:((0:Nat):Int)<(n:Int):=by omega
     show _=Result.ok (Next.value (.pointer (some ⟨tb,0+0,none⟩))) w
     clear e1 e2 hov hx hy h0 h1 h2 hC hS
     unfold execOp
     simp only[hop,e1',e2']
     go_simp
     first|done|rfl
    ·cases h
   ·cases h
  ·rename_i xs ts hop
   split at h
   ·rename_i x t hxs hts
    split at h
    ·rename_i hc
     obtain⟨hty,rfl⟩:=hc
     split at h
     ·rename_i hx
      cases h
      have e1:=hov _ _ hx
      have e1':ρ x=.slice (some ⟨tb,0,none⟩) n cap:=e1
      have exs:xs=#[x]:=by rw[<-Array.toArray_toList (xs:=xs),hxs]
      have ets:ts=#[48]:=by rw[<-Array.toArray_toList (xs:=ts),hts]
      subst exs
      subst ets
      clear e1 hov hxs hts hx h0 h1 h2 hC hS
      unfold execOp
      simp only[hop,hty]
      go_simp
      rfl
     ·cases h
    ·cases h
   ·cases h
  ·cases h
end Go.Proofs.YthijakidnkhbnaaGreatDoor
