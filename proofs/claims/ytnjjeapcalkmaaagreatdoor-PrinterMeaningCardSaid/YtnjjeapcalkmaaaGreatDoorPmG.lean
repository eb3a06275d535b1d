/-
  Part 7 of a proof; written short by a program out of longer texts of mine.
-/
import Derived.Test.YtnjjeapcalkmaaaGreatDoorPmF
set_option maxRecDepth 100000
set_option maxHeartbeats 4000000
set_option linter.unusedVariables false
set_option linter.unusedSimpArgs false
namespace Go.Proofs.YtnjjeapcalkmaaaGreatDoor
open Go.RowKit
theorem OO (s:ByteArray)(w:World)(h0:(s.toList==[45,48,46,48,48])=true):
 Calls Tryz.prog 111 #[.string s] w λe w'=>e=.returned (.bool false)/\w=w':=by
 go_enter Tryz.func111,Tryz.ntmps111
 go_wp2_with fail
 go_ret
 exact⟨rfl,rfl⟩
inductive qx (t:ByteArray):Bool->Prop where
 |short (h:decide (4<=(t.size:Int))=false):qx t false
 |point (m:Nat) (h:decide (4<=(t.size:Int))=true) (hm:(t.size:Int)-3=(m:Int)) (DJ:m<t.size) (b:(PlainAid.bt t m==46)=false):qx t false
 |last (m:Nat) (h:decide (4<=(t.size:Int))=true) (hm:(t.size:Int)-3=(m:Int)) (DJ:m<t.size) (hm1:(t.size:Int)-1=((m+2:Nat):Int)) (M5:m+2<t.size) (b:(PlainAid.bt t m==46)=true) (c:Lx.digit (PlainAid.bt t (m+2))=false):qx t false
 |one (m:Nat) (h:decide (4<=(t.size:Int))=true) (hm:(t.size:Int)-3=(m:Int)) (DJ:m<t.size) (hm1:(t.size:Int)-1=((m+2:Nat):Int)) (M5:m+2<t.size) (hm2:(t.size:Int)-2=((m+1:Nat):Int)) (hml2:m+1<t.size) (b:(PlainAid.bt t m==46)=true) (c:Lx.digit (PlainAid.bt t (m+2))=true) (d:Lx.digit (PlainAid.bt t (m+1))=false):qx t false
 |all (m:Nat) (r:Bool) (h:decide (4<=(t.size:Int))=true) (hm:(t.size:Int)-3=(m:Int)) (DJ:m<t.size) (hm1:(t.size:Int)-1=((m+2:Nat):Int)) (M5:m+2<t.size) (hm2:(t.size:Int)-2=((m+1:Nat):Int)) (hml2:m+1<t.size) (b:(PlainAid.bt t m==46)=true) (c:Lx.digit (PlainAid.bt t (m+2))=true) (d:Lx.digit (PlainAid.bt t (m+1))=true) (e:Hid (Lx.whole (t.extract 0 m).data.toList=r)):qx t r
theorem Ou (s t:ByteArray)(w:World)(h1:s.size<=1000)(ht:t.size<=1000)(h0:(s.toList==[45,48,46,48,48])=false)(r ng:Bool)(hg:(ng=true/\decide (0<s.size)=true/\0<s.size/\(PlainAid.bt s 0==45)=true)\/(ng=false/\(decide (0<s.size)=false\/decide (0<s.size)=true/\0<s.size/\(PlainAid.bt s 0==45)=false)))
 (hst:Hid ((ng=true->0<s.size/\s.extract 1 s.size=t)/\(ng=false->t=s))) (lC:qx t r):Calls Tryz.prog 111 #[.string s] w λe w'=>e=.returned (.bool r)/\w=w':=by
 have hub:=PlainAid.get_bt s
 go_enter Tryz.func111,Tryz.ntmps111
 go_upto_region 3 with fail
 go_cut [13] (λv wx=>v=.bool ng/\w=wx)
 case first=>
  rcases hg with⟨rfl,n0,n1,n2⟩|⟨rfl,n0|⟨n0,n1,n2⟩⟩
  all_goals
   go_wp2_with fail
   go_meet
   case rel=>exact⟨rfl,rfl⟩
 case rest=>
  obtain⟨rfl,rfl⟩:=hcut
  clear hg hub h0
  go_upto_if 13 with fail
  go_cut [0] (λv wx=>v=.string t/\w=wx)
  case first=>
   cases ng with
   |true=>
    obtain⟨n1,n2⟩:=hst.out.1 rfl
    have n3:(1:Int)<=(s.size:Int):=by omega
    clear hst
    go_wp2_with fail
    go_meet
    case rel=>exact⟨rfl,rfl⟩
   |false=>
    have n2:=hst.out.2 rfl
    subst n2
    clear hst
    go_wp2_with fail
    go_meet
    case rel=>exact⟨rfl,rfl⟩
  case rest=>
   obtain⟨rfl,rfl⟩:=hcut
   clear hst h1
   have hubt:=PlainAid.get_bt t
   have hd:=λ(c:Int)=>lS c w
   go_upto_region 6 with fail
   cases lC with
   |short h=>
    go_wp2_with fail
    go_ret
    exact⟨rfl,rfl⟩
   |point m h hm DJ b=>
    go_wp2_with fail
    go_ret
    exact⟨rfl,rfl⟩
   |last m h hm DJ hm1 M5 b c=>
    have m1:=hd (PlainAid.bt t (m+2))
    rw[c]at m1
    clear c
    go_wp2_with (go_at_call 189;refine m1.mono ?_;rintro e w1 ⟨rfl,rfl⟩)
    go_ret
    exact⟨rfl,rfl⟩
   |one m h hm DJ hm1 M5 hm2 hml2 b c d=>
    obtain⟨x2,hx2⟩:∃x,PlainAid.bt t (m+2)=x:=⟨_,rfl⟩
    obtain⟨x1,hx1⟩:∃x,PlainAid.bt t (m+1)=x:=⟨_,rfl⟩
    rw[hx2]at c
    rw[hx1]at d
    have m1:=hd x2
    have m2:=hd x1
    rw[c]at m1
    rw[d]at m2
    clear c d
    go_wp2_with (first|(go_at_call 189;refine m1.mono ?_;rintro e w1 ⟨rfl,rfl⟩)|(go_at_call 189;refine m2.mono ?_;rintro e w1 ⟨rfl,rfl⟩))
    go_ret
    exact⟨rfl,rfl⟩
   |all m r h hm DJ hm1 M5 hm2 hml2 b c d e=>
    obtain⟨x2,hx2⟩:∃x,PlainAid.bt t (m+2)=x:=⟨_,rfl⟩
    obtain⟨x1,hx1⟩:∃x,PlainAid.bt t (m+1)=x:=⟨_,rfl⟩
    rw[hx2]at c
    rw[hx1]at d
    have m1:=hd x2
    have m2:=hd x1
    obtain⟨E,hE⟩:∃E,t.extract 0 m=E:=⟨_,rfl⟩
    have m3:=xz E w (by rw[<-hE,ByteArray.size_extract];omega)
    rw[show Lx.whole E.data.toList=r from by rw[<-hE];exact e.out]at m3
    rw[c]at m1
    rw[d]at m2
    clear c d e
    go_wp2_with (first|(go_at_call 189;refine m1.mono ?_;rintro e w1 ⟨rfl,rfl⟩)|(go_at_call 189;refine m2.mono ?_;rintro e w1 ⟨rfl,rfl⟩)|(go_at_call 110;refine m3.mono ?_;rintro e w1 ⟨rfl,rfl⟩))
    go_ret
    exact⟨rfl,rfl⟩
theorem Fe (s:ByteArray):s.extract 1 s.size=⟨(s.data.toList.drop 1).toArray⟩:=by
 have hl:s.data.toList.length=s.size:=by obtain⟨⟨l⟩⟩:=s;rfl
 have h2:=Lib.extract_data s 1 s.size
 rw[List.take_of_length_le (by rw[List.length_drop];omega)]at h2
 generalize s.extract 1 s.size=x at h2⊢
 obtain⟨⟨l⟩⟩:=x
 have h2:l=_:=h2
 rw[h2]
theorem Dt (s:ByteArray)(w:World)(h1:s.size<=1000):
 Calls Tryz.prog 111 #[.string s] w λe w'=>e=.returned (.bool (Lx.dS s.data.toList))/\w=w':=by
 by_cases h0:(s.toList==[45,48,46,48,48])=true
 ·have hr:Lx.dS s.data.toList=false:=by
   unfold Lx.dS
   rw[<-Lib.toList_data,h0]
   rfl
  rw[hr]
  exact OO s w h0
 ·have h0:(s.toList==[45,48,46,48,48])=false:=by simpa using h0
  have hr:Lx.dS s.data.toList=Lx.xR (Lx.bW s.data.toList):=by
   unfold Lx.dS
   rw[<-Lib.toList_data,h0]
   rfl
  rw[hr]
  have hl:s.data.toList.length=s.size:=by obtain⟨⟨l⟩⟩:=s;rfl
  obtain⟨t,ht⟩:∃t:ByteArray,t=⟨(Lx.bW s.data.toList).toArray⟩:=⟨_,rfl⟩
  have htl:t.data.toList=Lx.bW s.data.toList:=by rw[ht]
  have hts:t.data.toList.length=t.size:=by obtain⟨⟨l⟩⟩:=t;rfl
  rw[<-htl]
  have htz:t.size<=s.size:=by
   rw[<-hts,htl,<-hl]
   unfold Lx.bW
   split
   ·rw[List.length_drop];omega
   ·exact Nat.le_refl _
  refine(λ⟨ng,hg,hst⟩ lC=>Ou s t w h1 (by omega) h0 _ ng hg (Lib.hid hst) lC:(∃ng:Bool,((ng=true/\decide (0<s.size)=true/\0<s.size/\(PlainAid.bt s 0==45)=true)\/(ng=false/\(decide (0<s.size)=false\/decide (0<s.size)=true/\0<s.size/\(PlainAid.bt s 0==45)=false)))/\((ng=true->0<s.size/\s.extract 1 s.size=t)/\(ng=false->t=s)))->_->_) ?_ ?_
  ·by_cases hp:0<s.size
   ·have hbt:PlainAid.bt s 0=Lx.at_ s.data.toList 0:=(rq s 0).symm
    have hh:∃c l,s.data.toList=c::l:=by
     cases hc:s.data.toList with
     |nil=>rw[hc]at hl;simp at hl;omega
     |cons c l=>exact⟨c,l,rfl⟩
    obtain⟨c,l,hc⟩:=hh
    by_cases h45:c=45
    ·refine⟨true,.inl ⟨rfl,by simp[hp],hp,?_⟩,λ_=>⟨hp,?_⟩,(λh=>nomatch h)⟩
     ·rw[hbt,hc,h45];rfl
     ·rw[Fe,ht]
      unfold Lx.bW
      rw[hc,h45]
      rfl
    ·refine⟨false,.inr ⟨rfl,.inr ⟨by simp[hp],hp,?_⟩⟩,(λh=>nomatch h),λ_=>?_⟩
     rotate_left
     ·rw[ht]
      unfold Lx.bW
      rw[if_neg (by rw[hc];simp[h45])]
     ·rw[hbt,hc,beq_eq_false_iff_ne]
      unfold Lx.at_
      intro hx
      apply h45
      apply UInt8.toNat_inj.1
      show c.toNat=45
      have hx:(c.toNat:Int)=45:=hx
      omega
   ·refine⟨false,.inr ⟨rfl,.inl (decide_eq_false hp)⟩,(λh=>nomatch h),λ_=>?_⟩
    rw[ht]
    unfold Lx.bW
    have:s.data.toList=[]:=List.eq_nil_of_length_eq_zero (by omega)
    rw[this]
    obtain⟨⟨l⟩⟩:=s
    simp at this
    subst this
    rfl
  ·by_cases h4:4<=t.size
   ·obtain⟨m,hm⟩:∃m,t.size=m+3:=⟨t.size-3,by omega⟩
    have d4:decide (4<=(t.size:Int))=true:=by simp;omega
    have hrd:Lx.xR t.data.toList=(decide (PlainAid.bt t m=46)&&Lx.digit (PlainAid.bt t (m+2))&&Lx.digit (PlainAid.bt t (m+1))&&Lx.whole (t.extract 0 m).data.toList):=by
     unfold Lx.xR
     rw[hts,rq,rq,rq,hm,show m+3-3=m from by omega,show m+3-1=m+2 from by omega,show m+3-2=m+1 from by omega,Lib.extract_data]
     have:decide (4<=m+3)=true:=by simp;omega
     rw[this]
     rfl
    rw[hrd]
    have q3:(t.size:Int)-3=(m:Int):=by omega
    have q1:(t.size:Int)-1=((m+2:Nat):Int):=by omega
    have q2:(t.size:Int)-2=((m+1:Nat):Int):=by omega
    cases hb:decide (PlainAid.bt t m=46)with
    |false=>exact .point m d4 q3 (by omega) (by rw[beq_eq_false_iff_ne];simpa using hb)
    |true=>
     have hb':(PlainAid.bt t m==46)=true:=by simpa using hb
     cases hc:Lx.digit (PlainAid.bt t (m+2))with
     |false=>exact .last m d4 q3 (by omega) q1 (by omega) hb' hc
     |true=>
      cases hd:Lx.digit (PlainAid.bt t (m+1))with
      |false=>exact .one m d4 q3 (by omega) q1 (by omega) q2 (by omega) hb' hc hd
      |true=>exact .all m _ d4 q3 (by omega) q1 (by omega) q2 (by omega) hb' hc hd (Lib.hid rfl)
   ·have hrd:Lx.xR t.data.toList=false:=by
     unfold Lx.xR
     rw[hts]
     simp[h4]
    rw[hrd]
    exact .short (by simp;omega)
inductive lY:Bool->Bool->Bool->Bool->Bool->Bool->Int->Int->Prop where
 |date (g s m n o:Bool):lY true g s m n o 4 0
 |num (m n o:Bool):lY false true true m n o 2 0
 |decG (n o:Bool):lY false true false true n o 3 0
 |dec (s n o:Bool):lY false false s true n o 3 0
 |nameG (o:Bool):lY false true false false true o 1 0
 |name (s o:Bool):lY false false s false true o 1 0
 |wordG:lY false true false false false true 0 0
 |word (s:Bool):lY false false s false false true 0 0
 |noneG:lY false true false false false false 0 30
 |none (s:Bool):lY false false s false false false 0 30
theorem KS (s:ByteArray)(w:World)(h1:s.size<=32)(bd bg bs bm bn bw:Bool)(k e:Int)(lC:lY bd bg bs bm bn bw k e)(h16:decide ((s.size:Int)<=16)=bs)
 (m1:Calls Tryz.prog 109 #[.string s] w λe w'=>e=.returned (.bool bd)/\w=w')
 (m2:Calls Tryz.prog 110 #[.string s] w λe w'=>e=.returned (.bool bg)/\w=w')
 (m3:Calls Tryz.prog 111 #[.string s] w λe w'=>e=.returned (.bool bm)/\w=w')
 (m4:Calls Tryz.prog 112 #[.string s] w λe w'=>e=.returned (.bool bn)/\w=w')
 (m5:Calls Tryz.prog 113 #[.string s] w λe w'=>e=.returned (.bool bw)/\w=w'):
 Calls Tryz.prog 59 #[.string s] w λx w'=>x=.returned (.tuple #[.int .i64 k,.int .i64 e])/\w=w':=by
 cases lC
 all_goals
  go_enter Tryz.func59,Tryz.ntmps59
  go_wp2_with ((first|(go_at_call 109;refine m1.mono ?_)|(go_at_call 110;refine m2.mono ?_)|(go_at_call 111;refine m3.mono ?_)|(go_at_call 112;refine m4.mono ?_)|(go_at_call 113;refine m5.mono ?_));rintro e w1 ⟨rfl,rfl⟩)
  go_ret2
  exact⟨rfl,rfl⟩
theorem Cj (s:ByteArray)(w:World)(_h1:s.size<=1000000)(h2:(32:Int)<(s.size:Int)):
 Calls Tryz.prog 59 #[.string s] w λx w'=>x=.returned (.tuple #[.int .i64 0,.int .i64 5])/\w=w':=by
 go_enter Tryz.func59,Tryz.ntmps59
 go_wp2_with fail
 go_ret2
 exact⟨rfl,rfl⟩
theorem Pg (s:ByteArray)(w:World)(h1:s.size<=1000000):
 Calls Tryz.prog 59 #[.string s] w λx w'=>x=.returned (.tuple #[.int .i64 (Lx.aC s).1,.int .i64 (Lx.aC s).2])/\w=w':=by
 rw[Lx.rV]
 have hl:s.data.toList.length=s.size:=by obtain⟨⟨l⟩⟩:=s;rfl
 by_cases h:32<s.size
 ·rw[show Lx.yo s.data.toList=(0,5)from by unfold Lx.yo;rw[if_pos (by rw[hl];exact h)]]
  exact Cj s w h1 (by omega)
 ·refine KS s w (by omega) (Lx.gG s.data.toList) (Lx.whole s.data.toList) (decide ((s.size:Int)<=16)) (Lx.dS s.data.toList) (Lx.all Lx.named s.data.toList) (Lx.all Lx.lower s.data.toList) _ _ ?_ rfl (QF s w h1) (xz s w h1) (Dt s w (by omega)) (QQ s w h1) (Oq s w h1)
  have h16:decide (s.size<=16)=decide ((s.size:Int)<=16):=by
   by_cases hh:s.size<=16
   ·rw[decide_eq_true hh,decide_eq_true (by omega)]
   ·rw[decide_eq_false hh,decide_eq_false (by omega)]
  unfold Lx.yo
  rw[if_neg (by rw[hl];exact h),hl,h16]
  generalize Lx.gG s.data.toList=bd
  generalize Lx.whole s.data.toList=bg
  generalize decide ((s.size:Int)<=16)=bs
  generalize Lx.dS s.data.toList=bm
  generalize Lx.all Lx.named s.data.toList=bn
  generalize Lx.all Lx.lower s.data.toList=bw
  cases bd with
  |true=>exact .date _ _ _ _ _
  |false=>
   cases bg with
   |true=>
    cases bs with
    |true=>exact .num _ _ _
    |false=>
     cases bm with
     |true=>exact .decG _ _
     |false=>
      cases bn with
      |true=>exact .nameG _
      |false=>
       cases bw with
       |true=>exact .wordG
       |false=>exact .noneG
   |false=>
    cases bm with
    |true=>exact .dec _ _ _
    |false=>
     cases bn with
     |true=>exact .name _ _
     |false=>
      cases bw with
      |true=>exact .word _
      |false=>exact .none _
theorem wr64 {x:Int}(h: -1000000000000000000<=x/\x<=1000000000000000000):wrap64 x=x:=by unfold wrap64;omega
theorem dE {x:Int}(h: -1000000000000000000<=x/\x<=1000000000000000000):IntKind.i64.wrap x=x:=IntWalk.i64_in _ (by omega)
theorem PW (s:ByteArray)(w:World)(k e:Int)(hke:(e !=0)=true\/((e !=0)=false/\(k !=2)=true))
 (m1:Calls Tryz.prog 59 #[.string s] w λx w'=>x=.returned (.tuple #[.int .i64 k,.int .i64 e])/\w=w'):
 Calls Tryz.prog 191 #[.string s] w λx w'=>x=.returned (.tuple #[.int .i64 0,.int .i64 30])/\w=w':=by
 rcases hke with h|⟨h,h2⟩
 all_goals
  go_enter Tryz.func191,Tryz.ntmps191
  go_wp2_with (go_at_call 59;refine m1.mono ?_;rintro x w1 ⟨rfl,rfl⟩)
  go_ret2
  exact⟨rfl,rfl⟩
def tk (s:ByteArray)(i:Nat):List UInt8:=s.data.toList.take i
theorem Gb (s:ByteArray)(i:Nat)(hi:i<s.size):∃c:UInt8,tk s (i+1)=tk s i++[c]/\PlainAid.bt s i=(c.toNat:Int)/\c∈s.data.toList:=by
 obtain⟨⟨l⟩⟩:=s
 have hl:i<l.length:=hi
 refine⟨l[i],?_,?_,List.getElem_mem hl⟩
 ·unfold tk
  exact List.take_succ_eq_append_getElem hl
 ·unfold PlainAid.bt
  rw[dif_pos hi]
  rfl
theorem tk_all (s:ByteArray):tk s s.size=s.data.toList:=by
 obtain⟨⟨l⟩⟩:=s
 exact List.take_length
theorem rk_numberL (s:ByteArray)(w:World)(hs:s.size<=16)(hd:Hid (Ps.xW s.data.toList))(R:Int×Int)(hR:Hid (R=Ps.canon (Ps.iA 0 s.data.toList)))
 (m1:Calls Tryz.prog 59 #[.string s] w λx w'=>x=.returned (.tuple #[.int .i64 2,.int .i64 0])/\w=w'):
 Calls Tryz.prog 191 #[.string s] w λx w'=>x=.returned (.tuple #[.int .i64 R.1,.int .i64 R.2])/\w=w':=by
 have hub:=PlainAid.get_bt s
 go_enter Tryz.func191,Tryz.ntmps191
 go_wp2_with (go_at_call 59;refine m1.mono ?_;rintro x w1 ⟨rfl,rfl⟩)
 clear m1
 go_loopw [6,7] (λnv iv wr=>∃i N:Nat,iv=.int .i64 i/\nv=.int .i64 N/\i<=s.size/\Hid (N=Ps.iA 0 (tk s i))/\wr=w) (λ_ iv _=>2000-(RowKit.intOf iv).toNat)
 case atStart=>exact⟨0,0,rfl,rfl,Nat.zero_le _,Lib.hid rfl,rfl⟩
 case round=>
  obtain⟨i,N,rfl,rfl,hi,HN,rfl⟩:=hrel
  have hN:N<10000000000000000:=by
   have h1:=Ps.GU (tk s i) 0 (λc hc=>hd.out c (List.mem_of_mem_take hc))
   have h2:(tk s i).length<=16:=by unfold tk;rw[List.length_take];omega
   have h3:10^(tk s i).length<=10^16:=Nat.pow_le_pow_right (by omega) h2
   have h4:(10:Nat)^16=10000000000000000:=by decide
   rw[HN.out]
   omega
  by_cases hlt:i<s.size
  ·obtain⟨c,e1,e2,e3⟩:=Gb s i hlt
   have hc:=hd.out c e3
   have jI:(i:Int)<(s.size:Int):=by omega
   have HN2:Hid (10*N+(c.toNat-48)=Ps.iA 0 (tk s (i+1))):=Lib.hid (by rw[e1,Ps.gM,<-HN.out];omega)
   obtain⟨d,hd'⟩:∃d:Int,d=(c.toNat:Int):=⟨_,rfl⟩
   rw[<-hd']at e2
   have hd1:48<=d/\d<=57:=by omega
   have q1:IntKind.u8.wrap (d-48)=d-48:=IntWalk.u8_in _ (by omega)
   have q5:IntKind.i64.wrap (d-48)=d-48:=dE (by omega)
   obtain⟨x,hx⟩:∃x:Int,x=(N:Int):=⟨_,rfl⟩
   rw[<-hx]
   have q6:IntKind.i64.wrap (10*x)=10*x:=dE (by omega)
   have q7:IntKind.i64.wrap (10*x+(d-48))=10*x+(d-48):=dE (by omega)
   have hw1:wrap64 ((i:Int)+1)=((i+1:Nat):Int):=by unfold wrap64;omega
   have HE:Hid (10*x+(d-48)=((10*N+(c.toNat-48):Nat):Int)):=Lib.hid (by omega)
   clear hx e1 e3 hc HN hN hd1 hd' hd hR
   go_wp2_with fail
   refine⟨⟨i+1,10*N+(c.toNat-48),by first|rfl|go_num,by first|exact congrArg (Value.int .i64) HE.out|(rw[HE.out]),hlt,HN2,trivial⟩,by simp[RowKit.intOf]<;>omega⟩
  ·obtain rfl:i=s.size:=by omega
   have jI:¬(s.size:Int)<(s.size:Int):=by omega
   rw[tk_all]at HN
   have hR2:=hR.out
   rw[<-HN.out]at hR2
   unfold Ps.canon at hR2
   clear hR HN hd
   by_cases h1:1<=N
   ·have f1:decide ((N:Int)<1)=false:=decide_eq_false (by omega)
    by_cases h2:N<=1000000000000000
    ·have f2:decide (1000000000000000<(N:Int))=false:=decide_eq_false (by omega)
     rw[if_pos ⟨h1,h2⟩]at hR2
     subst hR2
     clear h1 h2
     go_wp2_with fail
     go_ret2
     exact⟨rfl,rfl⟩
    ·have f2:decide (1000000000000000<(N:Int))=true:=decide_eq_true (by omega)
     rw[if_neg (by omega)]at hR2
     subst hR2
     clear h1 h2
     go_wp2_with fail
     go_ret2
     exact⟨rfl,rfl⟩
   ·have f1:decide ((N:Int)<1)=true:=decide_eq_true (by omega)
    rw[if_neg (by omega)]at hR2
    subst hR2
    clear h1
    go_wp2_with fail
    go_ret2
    exact⟨rfl,rfl⟩
theorem Ht (x:Int)(w:World)(b1 b2:Bool)(h1:decide (-1000000000000000<=x)=b1)(h2:decide (x<=1000000000000000)=b2):
 Calls Tryz.prog 200 #[.int .i64 x] w λe w'=>e=.returned (.bool (b1&&b2))/\w=w':=by
 cases b1
 all_goals cases b2
 all_goals
  go_enter Tryz.func200,Tryz.ntmps200
  go_wp2_with fail
  go_ret
  exact⟨rfl,rfl⟩
def Qi (y:Int):Int×Int:=if-1000000000000000<=y/\y<=1000000000000000 then(y,0)else(0,12)
theorem Av (x:Int)(w:World)(b:Bool)(m1:Calls Tryz.prog 200 #[.int .i64 x] w λe w'=>e=.returned (.bool b)/\w=w'):
 Calls Tryz.prog 258 #[.int .i64 x] w λe w'=>e=.returned (.tuple #[.int .i64 (if b=true then x else 0),.int .i64 (if b=true then 0 else 12)])/\w=w':=by
 cases b
 all_goals
  go_enter Tryz.func258,Tryz.ntmps258
  go_wp2_with (go_at_call 200;refine m1.mono ?_;rintro e w1 ⟨rfl,rfl⟩)
  go_ret2
  exact⟨rfl,rfl⟩
theorem oN (x:Int)(w:World):Calls Tryz.prog 258 #[.int .i64 x] w λe w'=>e=.returned (.tuple #[.int .i64 (Qi x).1,.int .i64 (Qi x).2])/\w=w':=by
 have h:=Av x w _ (Ht x w _ _ rfl rfl)
 have e:(((decide (-1000000000000000<=x))&&(decide (x<=1000000000000000)))=true)↔(-1000000000000000<=x/\x<=1000000000000000):=by simp
 unfold Qi
 by_cases hb: -1000000000000000<=x/\x<=1000000000000000
 ·rw[if_pos hb]
  simp only[hb]at h
  exact h
 ·rw[if_neg hb]
  simp only[e,hb,if_false]at h
  exact h
theorem rk_amL (s t:ByteArray)(w:World)(h1:s.size<=1000)(m:Nat)(hm:(t.size:Int)-3=(m:Int))(HTS:Hid (t.size=m+3))(hm1:1<=m)(htl:t.size<=1000)(ng:Bool)
 (hg:(ng=true/\decide (0<s.size)=true/\0<s.size/\(PlainAid.bt s 0==45)=true)\/(ng=false/\(decide (0<s.size)=false\/decide (0<s.size)=true/\0<s.size/\(PlainAid.bt s 0==45)=false)))
 (hst:Hid ((ng=true->0<s.size/\s.extract 1 s.size=t)/\(ng=false->t=s))) (hdot:(PlainAid.bt t m !=46)=false) (hz0:(PlainAid.bt t 0==48)=false\/((PlainAid.bt t 0==48)=true/\decide ((4:Int)<(t.size:Int))=false))
 (X:Nat->Int) (Z:Nat->Bool) (hX0:X 0=0) (hZ0:Z 0=true) (hXm:Hid (X (m+1)=X m/\Z (m+1)=Z m))
 (hX:Hid (∀i,i<t.size->i≠m->48<=PlainAid.bt t i/\PlainAid.bt t i<=57/\X (i+1)=(if X i<=1000000000000000 then 10*X i+(PlainAid.bt t i-48)else X i)/\Z (i+1)=(Z i&&(PlainAid.bt t i==48))))
 (hXb:Hid (∀i,i<=t.size->0<=X i/\X i<=10000000000000009)) (hzn:Hid (Z t.size=true->ng=false)) (R:Int×Int) (hR:Hid (R=Qi (if ng=true then 0-X t.size else X t.size))):
 Calls Tryz.prog 232 #[.string s] w λx w'=>x=.returned (.tuple #[.int .i64 R.1,.int .i64 R.2])/\w=w':=by
 have hub:=PlainAid.get_bt s
 go_enter Tryz.func232,Tryz.ntmps232
 go_upto_region 2 with fail
 go_cut [5] (λv wx=>v=.bool ng/\w=wx)
 case first=>
  rcases hg with⟨rfl,n0,n1,n2⟩|⟨rfl,n0|⟨n0,n1,n2⟩⟩
  all_goals
   go_wp2_with fail
   go_meet
   case rel=>exact⟨rfl,rfl⟩
 case rest=>
  obtain⟨rfl,rfl⟩:=hcut
  clear hg hub
  go_upto_if 19 with fail
  go_cut [4] (λv wx=>v=.string t/\w=wx)
  case first=>
   cases ng with
   |true=>
    obtain⟨n1,n2⟩:=hst.out.1 rfl
    have n3:(1:Int)<=(s.size:Int):=by omega
    clear hst
    go_wp2_with fail
    go_meet
    case rel=>exact⟨rfl,rfl⟩
   |false=>
    have n2:=hst.out.2 rfl
    subst n2
    clear hst
    go_wp2_with fail
    go_meet
    case rel=>exact⟨rfl,rfl⟩
  case rest=>
   obtain⟨rfl,rfl⟩:=hcut
   clear hst h1
   have hubt:=PlainAid.get_bt t
   have hts:=HTS.out
   have DJ:m<t.size:=by omega
   have h0l:0<t.size:=by omega
   have h0I:(0:Int)<(t.size:Int):=by omega
   have h4:decide ((t.size:Int)<4)=false:=decide_eq_false (by omega)
   clear hts
   go_upto_region 6 with fail
   go_cut [41] (λv wx=>v=.bool false/\w=wx)
   case first=>
    rcases hz0 with z0|⟨z0,z1⟩
    all_goals
     go_wp2_with fail
     go_meet
     case rel=>exact⟨rfl,rfl⟩
   case rest=>
    obtain⟨rfl,rfl⟩:=hcut
    clear hz0 hdot h0l h0I h4
    go_wp2_with fail
    go_loopw [7,8,9] (λxv zv iv wr=>∃i:Nat,iv=.int .i64 i/\xv=.int .i64 (X i)/\zv=.bool (Z i)/\i<=t.size/\wr=w) (λ_ _ iv _=>2000-(RowKit.intOf iv).toNat)
    case atStart=>exact⟨0,rfl,by rw[hX0],by rw[hZ0],Nat.zero_le _,rfl⟩
    case round=>
     obtain⟨i,rfl,rfl,rfl,hi,rfl⟩:=hrel
     clear hX0 hZ0
     by_cases hlt:i<t.size
     ·have jI:(i:Int)<(t.size:Int):=by omega
      have hw1:wrap64 ((i:Int)+1)=((i+1:Nat):Int):=by unfold wrap64;omega
      by_cases him:i=m
      ·subst him
       obtain⟨e1,e2⟩:=hXm.out
       have HE1:=Lib.hid e1
       have HE2:=Lib.hid e2
       clear e1 e2 hX hXb hXm hzn hR HTS
       go_wp2_with fail
       refine⟨⟨i+1,by first|rfl|go_num,by rw[HE1.out],by rw[HE2.out],hlt,trivial⟩,by simp[RowKit.intOf]<;>omega⟩
      ·have himI:((i:Int)==(m:Int))=false:=by rw[beq_eq_false_iff_ne];omega
       have himI2:¬(i:Int)=(m:Int):=by omega
       obtain⟨d1,d2,e1,e2⟩:=hX.out i hlt him
       obtain⟨b1,b2⟩:=hXb.out i (by omega)
       obtain⟨c,hc⟩:∃c,PlainAid.bt t i=c:=⟨_,rfl⟩
       rw[hc]at d1 d2 e1 e2
       obtain⟨x,hx⟩:∃x,X i=x:=⟨_,rfl⟩
       rw[hx]at e1 b1 b2⊢
       obtain⟨z,hz⟩:∃z,Z i=z:=⟨_,rfl⟩
       rw[hz]at e2⊢
       have g1:decide (c<48)=false:=decide_eq_false (by omega)
       have g2:decide (57<c)=false:=decide_eq_false (by omega)
       have q1:IntKind.u8.wrap (c-48)=c-48:=IntWalk.u8_in _ (by omega)
       have q5:IntKind.i64.wrap (c-48)=c-48:=dE (by omega)
       have q6:IntKind.i64.wrap (10*x)=10*x:=dE (by omega)
       have q7:IntKind.i64.wrap (10*x+(c-48))=10*x+(c-48):=dE (by omega)
       have Nr:=Lib.hid e1
       have HZ1:=Lib.hid e2
       clear e1 e2 d1 d2 b1 b2 hx hz hX hXb hXm hzn hR HTS him
       by_cases hmo:x<=1000000000000000
       ·have g3:decide (x<=1000000000000000)=true:=decide_eq_true hmo
        rw[if_pos hmo]at Nr
        clear hmo
        cases z with
        |false=>
         go_wp2_with fail
         refine⟨⟨i+1,by first|rfl|go_num,by rw[Nr.out],by rw[HZ1.out];rfl,hlt,trivial⟩,by simp[RowKit.intOf]<;>omega⟩
        |true=>
         by_cases h48:c=48
         ·have g4:(c==48)=true:=by simp[h48]
          rw[g4]at HZ1
          clear h48
          go_wp2_with fail
          refine⟨⟨i+1,by first|rfl|go_num,by rw[Nr.out],by rw[HZ1.out];rfl,hlt,trivial⟩,by simp[RowKit.intOf]<;>omega⟩
         ·have g4:(c==48)=false:=by simp[h48]
          rw[g4]at HZ1
          clear h48
          go_wp2_with fail
          refine⟨⟨i+1,by first|rfl|go_num,by rw[Nr.out],by rw[HZ1.out];rfl,hlt,trivial⟩,by simp[RowKit.intOf]<;>omega⟩
       ·have g3:decide (x<=1000000000000000)=false:=decide_eq_false hmo
        rw[if_neg hmo]at Nr
        clear hmo
        cases z with
        |false=>
         go_wp2_with fail
         refine⟨⟨i+1,by first|rfl|go_num,by rw[Nr.out],by rw[HZ1.out];rfl,hlt,trivial⟩,by simp[RowKit.intOf]<;>omega⟩
        |true=>
         by_cases h48:c=48
         ·have g4:(c==48)=true:=by simp[h48]
          rw[g4]at HZ1
          clear h48
          go_wp2_with fail
          refine⟨⟨i+1,by first|rfl|go_num,by rw[Nr.out],by rw[HZ1.out];rfl,hlt,trivial⟩,by simp[RowKit.intOf]<;>omega⟩
         ·have g4:(c==48)=false:=by simp[h48]
          rw[g4]at HZ1
          clear h48
          go_wp2_with fail
          refine⟨⟨i+1,by first|rfl|go_num,by rw[Nr.out],by rw[HZ1.out];rfl,hlt,trivial⟩,by simp[RowKit.intOf]<;>omega⟩
     ·obtain rfl:i=t.size:=by omega
      have jI:¬(t.size:Int)<(t.size:Int):=by omega
      have Pj:=hzn.out
      have hb:=hXb.out t.size (Nat.le_refl _)
      have hR2:=hR.out
      obtain⟨x,hx⟩:∃x,X t.size=x:=⟨_,rfl⟩
      rw[hx]at hR2 hb⊢
      obtain⟨z,hz⟩:∃z,Z t.size=z:=⟨_,rfl⟩
      rw[hz]at Pj⊢
      have q8:IntKind.i64.wrap (-x)= -x:=dE (by omega)
      have q9:IntKind.i64.wrap (0-x)=0-x:=dE (by omega)
      have m1:=oN x wr
      have m2:=oN (-x) wr
      have m3:=oN (0-x) wr
      clear hX hXb hXm hzn hR HTS hx hz hb
      cases ng with
      |true=>
       have hzf:z=false:=by
        cases z with
        |false=>rfl
        |true=>exact absurd (Pj rfl) (by simp)
       subst hzf
       rw[if_pos rfl]at hR2
       subst hR2
       clear Pj m1
       go_wp2_with (go_at_call 258;first|(refine m3.mono ?_;rintro e w1 ⟨rfl,rfl⟩)|(refine m2.mono ?_;rintro e w1 ⟨rfl,rfl⟩))
       go_ret2
       first|exact⟨rfl,rfl⟩|exact⟨by simp,rfl⟩
      |false=>
       rw[if_neg (by simp)]at hR2
       subst hR2
       clear Pj m2 m3 q8 q9
       cases z
       all_goals
        go_wp2_with (go_at_call 258;refine m1.mono ?_;rintro e w1 ⟨rfl,rfl⟩)
        go_ret2
        exact⟨rfl,rfl⟩
theorem J3 (w:World)(y:Int)(h40:y.tmod 400=0->y.tmod 4=0):
 Calls Tryz.prog 202 #[.int .i64 y] w λe w'=>e=.returned (.bool (decide (y.tmod 4=0)&&!decide (y.tmod 100=0)||decide (y.tmod 400=0)))/\w'=w:=by
 obtain⟨b,hb⟩:∃b,b=(decide (y.tmod 4=0)&&!decide (y.tmod 100=0)||decide (y.tmod 400=0)):=⟨_,rfl⟩
 rw[<-hb]
 have HB:=Lib.hid hb
 clear hb
 by_cases h4:y.tmod 4=0
 all_goals by_cases O6:y.tmod 100=0
 all_goals by_cases Hq:y.tmod 400=0
 all_goals first|(exact absurd (h40 Hq) h4)|skip
 all_goals
  have HV:=HB.out
  simp only[h4,O6,Hq,decide_true,decide_false,Bool.not_true,Bool.not_false,Bool.and_true,Bool.and_false,Bool.or_true,Bool.or_false]at HV
  subst HV
  clear HB h40
  go_enter Tryz.func202,Tryz.ntmps202
  go_wp2_with fail
  go_ret
  first
   |exact⟨rfl,rfl⟩
   |(refine⟨?_,rfl⟩
     show Ending.returned (.bool (y.tmod 400==0))=_
     rw[show(y.tmod 400==0)=false from by rw[beq_eq_false_iff_ne];exact Hq])
theorem vM (w:World)(y:Int)(h1:2000<=y):
 Calls Tryz.prog 202 #[.int .i64 y] w λe w'=>e=.returned (.bool (Ps.jG y))/\w'=w:=by
 have t4:y.tmod 4=y%4:=Int.tmod_eq_emod_of_nonneg (by omega)
 have t1:y.tmod 100=y%100:=Int.tmod_eq_emod_of_nonneg (by omega)
 have t0:y.tmod 400=y%400:=Int.tmod_eq_emod_of_nonneg (by omega)
 have h:=J3 w y (by rw[t4,t0];omega)
 rw[t4,t1,t0]at h
 exact h
theorem FU (w:World)(y m:Int)(h:y<2000\/(¬y<2000/\y>2199)\/(¬y<2000/\¬y>2199/\m<1)\/(¬y<2000/\¬y>2199/\¬m<1/\m>12)):
 Calls Tryz.prog 203 #[.int .i64 y,.int .i64 m] w λe w'=>e=.returned (.int .i64 0)/\w'=w:=by
 rcases h with a|⟨a,b⟩|⟨a,b,c⟩|⟨a,b,c,d⟩
 all_goals
  go_enter Tryz.func203,Tryz.ntmps203
  go_wp2_with fail
  go_ret
  exact⟨rfl,rfl⟩
theorem IY (w:World)(y m:Int)(a:¬y<2000)(b:¬y>2199)(h:m=4\/m=6\/m=9\/m=11):
 Calls Tryz.prog 203 #[.int .i64 y,.int .i64 m] w λe w'=>e=.returned (.int .i64 30)/\w'=w:=by
 rcases h with rfl|rfl|rfl|rfl
 all_goals
  go_enter Tryz.func203,Tryz.ntmps203
  go_wp2_with fail
  go_ret
  exact⟨rfl,rfl⟩
theorem I1 (w:World)(y m:Int)(a:¬y<2000)(b:¬y>2199)(h:m=1\/m=3\/m=5\/m=7\/m=8\/m=10\/m=12):
 Calls Tryz.prog 203 #[.int .i64 y,.int .i64 m] w λe w'=>e=.returned (.int .i64 31)/\w'=w:=by
 rcases h with rfl|rfl|rfl|rfl|rfl|rfl|rfl
 all_goals
  go_enter Tryz.func203,Tryz.ntmps203
  go_wp2_with fail
  go_ret
  exact⟨rfl,rfl⟩
theorem EP (w:World)(y:Int)(a:¬y<2000)(b:¬y>2199)(l:Bool)(n1:∀w,Calls Tryz.prog 202 #[.int .i64 y] w λe w'=>e=.returned (.bool l)/\w'=w):
 Calls Tryz.prog 203 #[.int .i64 y,.int .i64 2] w λe w'=>e=.returned (.int .i64 (if l=true then 29 else 28))/\w'=w:=by
 cases l
 all_goals
  go_enter Tryz.func203,Tryz.ntmps203
  go_wp2_with (go_at_call 202;refine(n1 _).mono ?_;rintro x w1 ⟨rfl,rfl⟩)
  go_ret
  exact⟨rfl,rfl⟩
theorem oI (w:World)(y m:Int):
 Calls Tryz.prog 203 #[.int .i64 y,.int .i64 m] w λe w'=>e=.returned (.int .i64 (Ps.dim y m))/\w'=w:=by
 unfold Ps.dim
 by_cases ho:y<2000\/2199<y\/m<1\/12<m
 ·rw[if_pos ho]
  exact FU w y m (by omega)
 ·rw[if_neg ho]
  have a:¬y<2000:=by omega
  have b:¬y>2199:=by omega
  by_cases h2:m=2
  ·subst h2
   rw[if_pos rfl]
   exact EP w y a b _ λw=>vM w y (by omega)
  ·rw[if_neg h2]
   by_cases h4:m=4\/m=6\/m=9\/m=11
   ·rw[if_pos h4]
    exact IY w y m a b h4
   ·rw[if_neg h4]
    exact I1 w y m a b (by omega)
theorem rk3_number (s:ByteArray)(w:World)(hs:s.size<=16)(hd:Hid (Ps.xW s.data.toList)):
 Calls Tryz.prog 234 #[.string s] w λx w'=>x=.returned (.int .i64 (Ps.iA 0 s.data.toList:Nat))/\w'=w:=by
 have hub:=PlainAid.get_bt s
 go_enter Tryz.func234,Tryz.ntmps234
 go_wp2_with fail
 go_loopw [3,4] (λnv iv wr=>∃i N:Nat,iv=.int .i64 i/\nv=.int .i64 N/\i<=s.size/\Hid (N=Ps.iA 0 (tk s i))/\wr=w) (λ_ iv _=>2000-(RowKit.intOf iv).toNat)
 case atStart=>exact⟨0,0,rfl,rfl,Nat.zero_le _,Lib.hid rfl,rfl⟩
 case round=>
  obtain⟨i,N,rfl,rfl,hi,HN,rfl⟩:=hrel
  have hN:N<10000000000000000:=by
   have h1:=Ps.GU (tk s i) 0 (λc hc=>hd.out c (List.mem_of_mem_take hc))
   have h2:(tk s i).length<=16:=by unfold tk;rw[List.length_take];omega
   have h3:10^(tk s i).length<=10^16:=Nat.pow_le_pow_right (by omega) h2
   have h4:(10:Nat)^16=10000000000000000:=by decide
   rw[HN.out]
   omega
  by_cases hlt:i<s.size
  ·obtain⟨c,e1,e2,e3⟩:=Gb s i hlt
   have hc:=hd.out c e3
   have jI:(i:Int)<(s.size:Int):=by omega
   have HN2:Hid (10*N+(c.toNat-48)=Ps.iA 0 (tk s (i+1))):=Lib.hid (by rw[e1,Ps.gM,<-HN.out];omega)
   obtain⟨d,hd'⟩:∃d:Int,d=(c.toNat:Int):=⟨_,rfl⟩
   rw[<-hd']at e2
   have hd1:48<=d/\d<=57:=by omega
   have q1:IntKind.u8.wrap (d-48)=d-48:=IntWalk.u8_in _ (by omega)
   have q5:IntKind.i64.wrap (d-48)=d-48:=dE (by omega)
   obtain⟨x,hx⟩:∃x:Int,x=(N:Int):=⟨_,rfl⟩
   rw[<-hx]
   have q6:IntKind.i64.wrap (10*x)=10*x:=dE (by omega)
   have q7:IntKind.i64.wrap (10*x+(d-48))=10*x+(d-48):=dE (by omega)
   have hw1:wrap64 ((i:Int)+1)=((i+1:Nat):Int):=by unfold wrap64;omega
   have HE:Hid (10*x+(d-48)=((10*N+(c.toNat-48):Nat):Int)):=Lib.hid (by omega)
   clear hx e1 e3 hc HN hN hd1 hd' hd
   go_wp2_with fail
   refine⟨⟨i+1,10*N+(c.toNat-48),by first|rfl|go_num,by first|exact congrArg (Value.int .i64) HE.out|(rw[HE.out]),hlt,HN2,trivial⟩,by simp[RowKit.intOf]<;>omega⟩
  ·obtain rfl:i=s.size:=by omega
   have hx:N=Ps.iA 0 s.data.toList:=by rw[HN.out];congr 1;exact List.take_length
   have jI:¬((s.size:Nat):Int)<(s.size:Int):=by omega
   clear HN hN hlt
   go_wp2_with fail
   go_ret
   exact⟨by rw[<-hx];rfl,rfl⟩
theorem num_numA (l:List UInt8):∀a:Nat,l.foldl (λn c=>10*n+(c.toNat-48)) a=Ps.iA a l:=by
 induction l with
 |nil=>intro a;rfl
 |cons c l ih=>
  intro a
  rw[List.foldl_cons,ih]
  conv=>rhs;unfold Ps.iA
  rw[Nat.mul_comm 10 a]
def uU (y m d:Int):Value:=.agg #[.int .i64 y,.int .i64 m,.int .i64 d]
theorem rk3_validL (w:World)(y m d n:Int)(b1 b2:Bool)(h1:decide (d>=1)=b1)(h2:decide (d<=n)=b2)(n1:Hid (∀w,Calls Tryz.prog 203 #[.int .i64 y,.int .i64 m] w λe w'=>e=.returned (.int .i64 n)/\w'=w)):
 Calls Tryz.prog 235 #[uU y m d] w λe w'=>e=.returned (.bool (b1&&b2))/\Below w.heap.size w w':=by
 unfold uU
 cases b1<;>cases b2
 all_goals
  go_enter Tryz.func235,Tryz.ntmps235
  go_wp2_with fail
  obtain⟨w9,ru⟩:∃w9,w9=w.alloc (Obj.cells #[.int .i64 y,.int .i64 m,.int .i64 d] 169):=⟨_,rfl⟩
  obtain⟨q,hq⟩:∃q,q=w.heap.size:=⟨_,rfl⟩
  have fQ:w9.heap[q]? =some (.cells #[.int .i64 y,.int .i64 m,.int .i64 d] 169 (0,0)):=by rw[ru,hq];exact aD w _
  have HB9:Hid (Below w.heap.size w w9):=Lib.hid (by rw[ru];exact(Below.refl _ _).alloc (Nat.le_refl _) _)
  have y0:w9.cell? ⟨q,0,none⟩=some (.int .i64 y):=by rw[cell_of_row _ _ _ _ _ _ fQ];rfl
  have y1:w9.cell? ⟨q,1,none⟩=some (.int .i64 m):=by rw[cell_of_row _ _ _ _ _ _ fQ];rfl
  have y2:w9.cell? ⟨q,2,none⟩=some (.int .i64 d):=by rw[cell_of_row _ _ _ _ _ _ fQ];rfl
  rw[<-ru,<-hq]
  clear fQ ru hq
  go_quiet (first|(go_at_call 203;exact Calls.quiet_of_same (n1.out _)))
  go_wp2_with fail
  go_ret
  exact⟨rfl,below_drewN' HB9.out _⟩
theorem GG (k:Nat)(h:k<=200):0<=Ps.ku k/\Ps.ku k<=100000:=by
 rw[Ps.j6]
 exact Ps.vP (by omega) (by omega)
theorem Ak (y m:Int):0<=Ps.dim y m/\Ps.dim y m<=31:=by
 unfold Ps.dim
 split
 ·omega
 ·split
  ·split<;>omega
  ·split<;>omega
theorem Qh (y:Int)(k:Nat):0<=Ps.ak y k/\Ps.ak y k<=31*k:=by
 induction k with
 |zero=>simp[Ps.ak]
 |succ k ih=>
  have:=Ak y ((k:Int)+1)
  unfold Ps.ak
  omega
theorem H8 (w:World)(Y M:Nat)(d:Int)(hY:Y<=199)(hM:M<=11)(hd:1<=d/\d<=31):
 Calls Tryz.prog 236 #[uU (2000+(Y:Int)) ((M:Int)+1) d] w λe w'=>e=.returned (.int .i64 (Ps.ku Y+Ps.ak (2000+(Y:Int)) M+d-1))/\Below w.heap.size w w':=by
 unfold uU
 obtain⟨y,hy⟩:∃y:Int,y=2000+(Y:Int):=⟨_,rfl⟩
 rw[<-hy]
 obtain⟨m,hm⟩:∃m:Int,m=(M:Int)+1:=⟨_,rfl⟩
 rw[<-hm]
 have HYY:Hid (y=2000+(Y:Int)/\m=(M:Int)+1):=Lib.hid ⟨hy,hm⟩
 have hyb:2000<=y/\y<=2199:=by omega
 clear hy hm
 go_enter Tryz.func236,Tryz.ntmps236
 go_wp2_with fail
 obtain⟨w9,ru⟩:∃w9,w9=w.alloc (Obj.cells #[.int .i64 y,.int .i64 m,.int .i64 d] 169):=⟨_,rfl⟩
 obtain⟨q,hq⟩:∃q,q=w.heap.size:=⟨_,rfl⟩
 have fQ:w9.heap[q]? =some (.cells #[.int .i64 y,.int .i64 m,.int .i64 d] 169 (0,0)):=by rw[ru,hq];exact aD w _
 have HB9:Hid (Below w.heap.size w w9):=Lib.hid (by rw[ru];exact(Below.refl _ _).alloc (Nat.le_refl _) _)
 have y0:w9.cell? ⟨q,0,none⟩=some (.int .i64 y):=by rw[cell_of_row _ _ _ _ _ _ fQ];rfl
 have y1:w9.cell? ⟨q,1,none⟩=some (.int .i64 m):=by rw[cell_of_row _ _ _ _ _ _ fQ];rfl
 have y2:w9.cell? ⟨q,2,none⟩=some (.int .i64 d):=by rw[cell_of_row _ _ _ _ _ _ fQ];rfl
 rw[<-ru,<-hq]
 clear fQ ru hq
 go_loopw [3,4] (λnv iv wr=>∃k:Nat,∃i n:Int,iv=.int .i64 i/\nv=.int .i64 n/\i=2000+(k:Int)/\Hid (n=Ps.ku k)/\k<=Y/\wr=w9) (λ_ iv _=>5000-(RowKit.intOf iv).toNat)
 case atStart=>exact⟨0,2000,0,rfl,rfl,rfl,Lib.hid rfl,Nat.zero_le _,rfl⟩
 case round=>
  obtain⟨k,i,n,rfl,rfl,hi,HN,hk,hwr⟩:=hrel
  subst hwr
  have hyy:=HYY.out
  have hb:=GG k (by omega)
  rw[<-HN.out]at hb
  by_cases hlt:i<y
  ·have hk1:k+1<=Y:=by omega
   have hi1:i+1=2000+((k+1:Nat):Int):=by omega
   have hiy:i<=2199/\2000<=i:=by omega
   have n1:=vM wr i (by omega)
   have q1:IntKind.i64.wrap (n+365)=n+365:=dE (by omega)
   have q2:IntKind.i64.wrap (n+365+1)=n+365+1:=dE (by omega)
   have q3:IntKind.i64.wrap (i+1)=i+1:=dE (by omega)
   have Io:Ps.ku (k+1)=Ps.ku k+365+(if Ps.jG i=true then 1 else 0):=by rw[hi];rfl
   rw[<-HN.out]at Io
   have HS:=Lib.hid Io
   have HI:=Lib.hid hi1
   clear Io hyy hi hi1
   cases hl:Ps.jG i with
   |true=>
    rw[hl]at n1
    have HS2:Hid (n+365+1=Ps.ku (k+1)):=Lib.hid (by rw[HS.out,hl];rfl)
    clear HS HN
    go_wp2_with (go_at_call 202;refine n1.mono ?_;rintro x w1 ⟨rfl,rfl⟩)
    go_roundw
    case rel=>exact⟨k+1,i+1,n+365+1,by first|rfl|go_num,by first|rfl|go_num,HI.out,HS2,hk1,by first|rfl|trivial⟩
    case measure=>simp[RowKit.intOf];omega
   |false=>
    rw[hl]at n1
    have HS2:Hid (n+365=Ps.ku (k+1)):=Lib.hid (by rw[HS.out,hl];simp)
    clear HS HN
    go_wp2_with (go_at_call 202;refine n1.mono ?_;rintro x w1 ⟨rfl,rfl⟩)
    go_roundw
    case rel=>exact⟨k+1,i+1,n+365,by first|rfl|go_num,by first|rfl|go_num,HI.out,HS2,hk1,by first|rfl|trivial⟩
    case measure=>simp[RowKit.intOf];omega
  ·have hkY:k=Y:=by omega
   have HKY:=Lib.hid hkY
   clear hyy hi hkY hk hb
   go_wp2_with fail
   go_loopw [3,5] (λnv iv wr2=>∃k:Nat,∃j x:Int,iv=.int .i64 j/\nv=.int .i64 x/\j=(k:Int)+1/\Hid (x=Ps.ku Y+Ps.ak y k)/\k<=M/\wr2=wr) (λ_ iv _=>5000-(RowKit.intOf iv).toNat)
   case atStart=>exact⟨0,1,n,rfl,rfl,rfl,Lib.hid (by rw[HN.out,HKY.out];simp[Ps.ak]),Nat.zero_le _,rfl⟩
   case round=>
    obtain⟨k2,j,x,rfl,rfl,hj,HX,hk2,hwr2⟩:=hrel
    subst hwr2
    have hyy:=HYY.out
    have hbm:=Qh y k2
    have hx:=HX.out
    have hby:=GG Y (by omega)
    by_cases hlt2:j<m
    ·have hk1:k2+1<=M:=by omega
     have hj1:j+1=((k2+1:Nat):Int)+1:=by omega
     have hjb:1<=j/\j<=12:=by omega
     have n2:=λw=>oI w y j
     have KF:=Ak y j
     have q4:IntKind.i64.wrap (x+Ps.dim y j)=x+Ps.dim y j:=dE (by omega)
     have q5:IntKind.i64.wrap (j+1)=j+1:=dE (by omega)
     have HS2:Hid (x+Ps.dim y j=Ps.ku Y+Ps.ak y (k2+1)):=Lib.hid (by
      show _=Ps.ku Y+(Ps.ak y k2+Ps.dim y ((k2:Int)+1))
      rw[hx,hj]
      omega)
     have HJ:=Lib.hid hj1
     clear hx HX hbm hby KF hyy hj hj1
     go_wp2_with (go_at_call 203;refine(n2 _).mono ?_;rintro z w1 ⟨rfl,jv⟩;obtain rfl:=jv.symm;clear jv)
     go_roundw
     case rel=>exact⟨k2+1,j+1,x+Ps.dim y j,by first|rfl|go_num,by first|rfl|go_num,HJ.out,HS2,hk1,by first|rfl|trivial⟩
     case measure=>simp[RowKit.intOf];omega
    ·have hkM:k2=M:=by omega
     have q6:IntKind.i64.wrap (x+d)=x+d:=dE (by omega)
     have q7:IntKind.i64.wrap (x+d-1)=x+d-1:=dE (by omega)
     rw[hkM]at hx
     have HX2:=Lib.hid hx
     clear HX hbm hby hyy hj hkM hx
     go_wp2_with fail
     go_ret
     exact⟨by rw[<-HX2.out];rfl,HB9.out⟩
theorem rk3_from (w:World)(y m d:Int)(hy:2000<=y/\y<=2199)(hm:1<=m/\m<=12)(hd:1<=d/\d<=31):
 Calls Tryz.prog 236 #[uU y m d] w λe w'=>e=.returned (.int .i64 (Ps.aW (y-2000)+Ps.ak y (m-1).toNat+d-1))/\Below w.heap.size w w':=by
 have h:=H8 w (y-2000).toNat (m-1).toNat d (by omega) (by omega) hd
 have e1:2000+(((y-2000).toNat:Nat):Int)=y:=by omega
 have e2:(((m-1).toNat:Nat):Int)+1=m:=by omega
 have e3:(((y-2000).toNat:Nat):Int)=y-2000:=by omega
 rw[Ps.j6,e1,e2,e3]at h
 exact h
open Go Go.RowKit Go.Proofs.YtnjjeapcalkmaaaGreatDoor.Ord
open Go.Proofs.YtnjjeapcalkmaaaGreatDoor.Se
def dB (x:Int):ByteArray:=⟨#[UInt8.ofNat (IntKind.i64.wrap (48+x.tmod 10)%256).toNat]⟩
def dQ (x:Int):Int:=IntKind.i64.wrap (x.tdiv 10)
theorem rP (n:Nat):dB (n:Int)=⟨#[Ps.dgt (n%10)]⟩:=by
 unfold dB
 rw[show(n:Int).tmod 10=((n%10:Nat):Int)from Lu n 10,u8_of (by omega)]
 rfl
theorem zP (n:Nat)(h:n<1000000000000000000):dQ (n:Int)=((n/10:Nat):Int):=KV n 10 (by omega) h
theorem yX (c:UInt8):st (1,(⟨#[c]⟩:ByteArray))=⟨#[c]⟩:=eX (Nat.le_refl 1)
theorem Eo (n:Nat)(hn:n<10000)(w:World):jW 133 #[.int .i64 (n:Int),.int .i64 4] w ⟨(Ps.d4 n).toArray⟩:=by
 unfold jW
 go_enter Tryz.func133,Tryz.ntmps133
 refine nu λa ha hdf=>?_
 refine gL (n:=23) (M:={lnM w [.int .i64 (n:Int)]with loops:=5}) (Ok.hint (Mf w _)) [4] (us:=[.s (Se.cat (1,dB (dQ (dQ (dQ n)))) (Se.cat (1,dB (dQ (dQ n))) (Se.cat (1,dB (dQ n)) (Se.cat (1,dB n) (0,⟨#[]⟩)))))]) (ps:=[]) (by kernel_rfl) trivial (aJ (aJ (cu (by rw[ha];rfl) hdf) (v:=.int .i64 4) (t:=1) (u:=.v (.int .i64 4)) (by rw[ha];rfl) rfl) (v:=.int .i64 (n:Int)) (t:=0) (u:=.r 0 0) (by rw[ha];rfl) rfl) (Sw.hint (Sw.start _)) ?_
 intro a w' _ hd hv hS
 refine qZ rfl hd hv ⟨?_,dP rfl hS⟩
 have h1:n/10/10=n/100:=by omega
 have h2:n/100/10=n/1000:=by omega
 rw[zP n (by omega),zP (n/10) (by omega),h1,zP (n/100) (by omega),h2,rP,rP,rP,rP,il,il,il,il,yX,yX,yX,yX]
 rfl
theorem wQ (n:Nat)(hn:n<100)(w:World):jW 133 #[.int .i64 (n:Int),.int .i64 2] w ⟨(Ps.d2 n).toArray⟩:=by
 unfold jW
 go_enter Tryz.func133,Tryz.ntmps133
 refine nu λa ha hdf=>?_
 refine gL (n:=23) (M:={lnM w [.int .i64 (n:Int)]with loops:=5}) (Ok.hint (Mf w _)) [4] (us:=[.s (Se.cat (1,dB (dQ n)) (Se.cat (1,dB n) (0,⟨#[]⟩)))]) (ps:=[]) (by kernel_rfl) trivial (aJ (aJ (cu (by rw[ha];rfl) hdf) (v:=.int .i64 2) (t:=1) (u:=.v (.int .i64 2)) (by rw[ha];rfl) rfl) (v:=.int .i64 (n:Int)) (t:=0) (u:=.r 0 0) (by rw[ha];rfl) rfl) (Sw.hint (Sw.start _)) ?_
 intro a w' _ hd hv hS
 refine qZ rfl hd hv ⟨?_,dP rfl hS⟩
 rw[zP n (by omega),rP,rP,il,il,yX,yX]
 rfl
theorem row_set (W:World)(g q:Nat)(x:Nat)(a b c v:Value)(t:TypeId)(h:W.heap[g]? =some (.cells #[a,b,c] t (0,0)))(hx:x<3)(hB:Below q W W)(hq:q<=g):(W.setCell ⟨g,x,none⟩ v).heap[g]? =some (.cells (#[a,b,c].setIfInBounds x v) t (0,0))/\Below q W (W.setCell ⟨g,x,none⟩ v):=⟨aX W g x _ t v h,hB.setCell hq v⟩
theorem Cx (W:World)(g:Nat)(a b c:Int)(h:W.heap[g]? =some (.cells #[.int .i64 a,.int .i64 b,.int .i64 c] 169 (0,0))):(Instr.loadAt 169 (.pointer (some ⟨g,0,none⟩))).run Tryz.prog W=.ok (.agg #[.int .i64 a,.int .i64 b,.int .i64 c]) W:=by
 have:=run_loadVar_row (P:=Tryz.prog) W g 169 169 #[.int .i64 a,.int .i64 b,.int .i64 c] (0,0) _ h Tryz.underlying169 rfl (by kernel_rfl)
 unfold Instr.loadAt
 simp[Instr.sureAddr,this]
theorem xq (W:World)(g:Nat)(a b c:Int){o:Oper}{x y:Operand}{ρ:Operand->Value}{cur:Array Value}(h:W.heap[g]? =some (.cells cur 169 (0,0)))(ho:o.op=.store 169 x y)(hx:ρ x=.pointer (some ⟨g,0,none⟩))(hy:ρ y=.agg #[.int .i64 a,.int .i64 b,.int .i64 c])(hc:cur.size=3:=by rfl):(execOp ρ o).run Tryz.prog W=.ok .skip (W.setRow g #[.int .i64 a,.int .i64 b,.int .i64 c]):=by
 unfold execOp
 simp only[ho,hx,hy,Instr.storeAt,Instr.sureAddr,Sem.run_bind,Sem.run_pure,Result.andThen_ok,run_storeVar_row (P:=Tryz.prog) W g 169 169 cur #[.int .i64 a,.int .i64 b,.int .i64 c] h (by kernel_rfl) (by rw[hc];rfl) (by simp[Value.oneCell'])]
theorem rk3_to (n0:Int)(h0:0<=n0)(hn:n0<=Ps.bF)(w:World):Calls Tryz.prog 132 #[.int .i64 n0] w λe w'=>∃y m d:Nat,Ps.IsC n0 y m d/\e=.returned (uU y m d)/\Below w.heap.size w w':=by
 have hn':=hn
 unfold Ps.bF at hn
 go_enter Tryz.func132,Tryz.ntmps132
 go_upto_block 0 with fail
 obtain⟨q,hq⟩:∃q,q=w.heap.size:=⟨_,rfl⟩
 generalize hW0:World.alloc _ _=W0
 have hg:W0.heap[q+1]? =some (.cells #[.int .i64 2000,.int .i64 1,.int .i64 1] 169 (0,0)):=by
  rw[<-hW0,hq];exact heap_alloc2_new _ _ _
 have hr:W0.heap[q]? =some (.cells #[.int .i64 0,.int .i64 0,.int .i64 0] 169 (0,0)):=by
  rw[<-hW0,hq,heap_alloc_old _ _ (by simp)];exact aD w _
 have HB0:Hid (Below q w W0):=Lib.hid (by rw[<-hW0,hq];exact(((Below.refl _ _).alloc (Nat.le_refl _) _).alloc (by simp) _))
 rw[<-hq]
 have HG:=Lib.hid hg
 have HR:=Lib.hid hr
 have HQ:=Lib.hid hq
 clear hg hr hq hW0
 refine wp_block ?_
 go_loopw [0,4] (λnv yv wr=>∃k:Nat,∃n:Int,nv=.int .i64 n/\k<=199/\Hid (n0=n+Ps.aW k)/\0<=n/\n<=73048/\Hid (wr.heap[q+1]? =some (.cells #[.int .i64 (2000+(k:Int)),.int .i64 1,.int .i64 1] 169 (0,0)))/\Hid (wr.heap[q]? =some (.cells #[.int .i64 0,.int .i64 0,.int .i64 0] 169 (0,0)))/\Hid (Below q w wr)) (λnv _ _=>(RowKit.intOf nv).toNat)
 case atStart=>exact⟨0,n0,rfl,by omega,Lib.hid (by rw[show Ps.aW ((0:Nat):Int)=0 from by decide];omega),h0,hn,HG,HR,HB0⟩
 case round=>
  obtain⟨k,n,rfl,hk,HN,hn0,hn1,HG,HR,HB⟩:=hrel
  have y0:wr.cell? ⟨q+1,0,none⟩=some (.int .i64 (2000+(k:Int))):=by rw[cell_of_row _ _ _ _ _ _ HG.out];rfl
  have f0:wr.frozen? ⟨q+1,0,none⟩=false:=aS 0 HG.out
  obtain⟨Y,hY⟩:∃Y:Int,Y=2000+(k:Int):=⟨_,rfl⟩
  rw[<-hY]at y0
  have hyb:2000<=Y/\Y<=2199:=by omega
  have n1:=vM wr Y hyb.1
  have hst:=Ps.j6 (k+1)
  have Og:=Ps.j6 k
  have Io:Ps.ku (k+1)=Ps.ku k+365+(if Ps.jG Y=true then 1 else 0):=by rw[hY];rfl
  have q3:IntKind.i64.wrap (Y+1)=Y+1:=dE (by omega)
  have LJ:=Lib.hid hY
  have HS:=Lib.hid hst
  have HS2:=Lib.hid Og
  have HSU:=Lib.hid Io
  clear hY hst Og Io hyb
  have fin:∀(L:Int) (n':Int),Hid (n'=n-L/\L=365+(if Ps.jG Y=true then 1 else 0))->L<=n->∃k':Nat,∃n2:Int,Value.int .i64 n'=.int .i64 n2/\k'<=199/\Hid (n0=n2+Ps.aW k')/\0<=n2/\n2<=73048/\Hid ((wr.setCell ⟨q+1,0,none⟩ (.int .i64 (Y+1))).heap[q+1]? =some (.cells #[.int .i64 (2000+(k':Int)),.int .i64 1,.int .i64 1] 169 (0,0)))/\Hid ((wr.setCell ⟨q+1,0,none⟩ (.int .i64 (Y+1))).heap[q]? =some (.cells #[.int .i64 0,.int .i64 0,.int .i64 0] 169 (0,0)))/\Hid (Below q w (wr.setCell ⟨q+1,0,none⟩ (.int .i64 (Y+1)))):=λL n' hL hle=>by
   obtain⟨hn',hL⟩:=hL.out
   have e0:=HN.out
   have e1:=HS.out
   have e2:=HS2.out
   have e3:=HSU.out
   have e4:=LJ.out
   have eL:Ps.aW ((k+1:Nat):Int)=Ps.aW (k:Int)+L:=by omega
   have hk2:k+1<=199:=by
    rcases Nat.lt_or_ge k 199 with h|h
    ·omega
    ·have hk9:k=199:=by omega
     subst hk9
     have:Ps.aW ((199+1:Nat):Int)=73049:=by decide
     omega
   refine⟨k+1,n',rfl,hk2,Lib.hid (by omega),by omega,by split at hL<;>omega,Lib.hid ?_,Lib.hid ?_,Lib.hid (HB.out.setCell (by show q<=q+1;omega) _)⟩
   ·rw[aX wr (q+1) 0 _ _ _ HG.out,e4,show(2000+((k+1:Nat):Int))=2000+(k:Int)+1 from by omega]
    rfl
   ·rw[Below.heap_setCell wr _ _ q (by show q≠q+1;omega)];exact HR.out
  cases hl:Ps.jG Y with
  |true=>
   rw[hl]at n1
   by_cases hlt:n<366
   ·have hx:Hid (n<365+(if Ps.jG Y=true then 1 else 0)):=Lib.hid (by rw[hl,if_pos rfl];omega)
    clear fin
    go_wp2_with (go_at_call 202;refine n1.mono ?_;rintro x w1 ⟨rfl,rfl⟩)
    have O1:Hid (n0=n+Ps.aW k/\n<365+(if Ps.jG Y=true then 1 else 0)/\k<=199/\0<=n):=Lib.hid ⟨HN.out,hx.out,hk,hn0⟩
    clear hx n1 y0 f0 q3 hl hlt
    go_loopw [0] (λnv wr2=>∃j:Nat,∃n':Int,nv=.int .i64 n'/\j<=11/\Hid (n=n'+Ps.ak Y j)/\0<=n'/\n'<=73048/\Hid (wr2.heap[q+1]? =some (.cells #[.int .i64 Y,.int .i64 ((j:Int)+1),.int .i64 1] 169 (0,0)))/\Hid (wr2.heap[q]? =some (.cells #[.int .i64 0,.int .i64 0,.int .i64 0] 169 (0,0)))/\Hid (Below q w wr2)) (λnv _=>(RowKit.intOf nv).toNat)
    case atStart=>exact⟨0,n,rfl,by omega,Lib.hid (by simp[Ps.ak]),hn0,hn1,Lib.hid (by rw[HG.out,LJ.out];rfl),HR,HB⟩
    case round=>
     obtain⟨j,n',rfl,hj,HM,hm0,hm1,HG2,HR2,HB2⟩:=hrel
     have z0:wr.cell? ⟨q+1,0,none⟩=some (.int .i64 Y):=by rw[cell_of_row _ _ _ _ _ _ HG2.out];rfl
     have z1':wr.cell? ⟨q+1,1,none⟩=some (.int .i64 ((j:Int)+1)):=by rw[cell_of_row _ _ _ _ _ _ HG2.out];rfl
     have z2:wr.cell? ⟨q+1,2,none⟩=some (.int .i64 1):=by rw[cell_of_row _ _ _ _ _ _ HG2.out];rfl
     have f1:wr.frozen? ⟨q+1,1,none⟩=false:=aS 1 HG2.out
     have f2:wr.frozen? ⟨q+1,2,none⟩=false:=aS 2 HG2.out
     obtain⟨m,hm⟩:∃m:Int,m=(j:Int)+1:=⟨_,rfl⟩
     rw[<-hm]at z1'
     have n2:=λw=>oI w Y m
     have KF:=Ak Y m
     obtain⟨dd,hdd⟩:∃dd:Int,dd=Ps.dim Y m:=⟨_,rfl⟩
     rw[<-hdd]at n2 KF
     have DD:=Lib.hid hm
     have Nc:=Lib.hid hdd
     clear hdd
     have KC:Hid (Ps.ak Y 12=365+(if Ps.jG Y=true then 1 else 0)):=Lib.hid (by
      have e1:=Ps.iP k (by have:=O1.out.2.2.1;omega)
      have e2:=HS.out
      have e3:=HS2.out
      have e4:=HSU.out
      rw[<-LJ.out]at e1
      rw[e1]
      rw[Int.natCast_add_one]at e2
      omega)
     by_cases hlt2:dd<=n'
     ·have q4:IntKind.i64.wrap (n'-dd)=n'-dd:=dE (by omega)
      have q5:IntKind.i64.wrap (m+1)=m+1:=dE (by omega)
      have FIN:Hid (∃j':Nat,∃n2:Int,Value.int .i64 (n'-dd)=.int .i64 n2/\j'<=11/\Hid (n=n2+Ps.ak Y j')/\0<=n2/\n2<=73048/\Hid ((wr.setCell ⟨q+1,1,none⟩ (.int .i64 (m+1))).heap[q+1]? =some (.cells #[.int .i64 Y,.int .i64 ((j':Int)+1),.int .i64 1] 169 (0,0)))/\Hid ((wr.setCell ⟨q+1,1,none⟩ (.int .i64 (m+1))).heap[q]? =some (.cells #[.int .i64 0,.int .i64 0,.int .i64 0] 169 (0,0)))/\Hid (Below q w (wr.setCell ⟨q+1,1,none⟩ (.int .i64 (m+1))))):=Lib.hid (by
       have e1:=HM.out
       have e2:Ps.ak Y (j+1)=Ps.ak Y j+Ps.dim Y ((j:Int)+1):=rfl
       rw[<-DD.out,<-Nc.out]at e2
       have e3:=KC.out
       have e4:=O1.out
       have hj2:j+1<=11:=by
        rcases Nat.lt_or_ge j 11 with h|h
        ·omega
        ·have hj9:j=11:=by omega
         subst hj9
         have:Ps.ak Y (11+1)=Ps.ak Y 12:=rfl
         omega
       refine⟨j+1,n'-dd,rfl,hj2,Lib.hid (by omega),by omega,by omega,Lib.hid ?_,Lib.hid ?_,Lib.hid (HB2.out.setCell (by show q<=q+1;omega) _)⟩
       ·rw[aX wr (q+1) 1 _ _ _ HG2.out,DD.out,Int.natCast_add_one]
        rfl
       ·rw[Below.heap_setCell wr _ _ q (by show q≠q+1;omega)];exact HR2.out)
      have hpos:Hid (0<dd):=Lib.hid (by
       have e1:=Nc.out
       have hYb:=LJ.out
       have hkb:=O1.out.2.2.1
       unfold Ps.dim at e1
       rw[if_neg (by omega)]at e1
       split at e1
       ·split at e1<;>omega
       ·split at e1<;>omega)
      clear hm KC
      go_wp2_with (go_at_call 203;refine(n2 _).mono ?_;rintro z w1 ⟨rfl,jv⟩;obtain rfl:=jv.symm;clear jv)
      go_roundw
      case rel=>exact FIN.out
      case measure=>have:=hpos.out;simp[RowKit.intOf];omega
     ·have q6:IntKind.i64.wrap (1+n')=1+n':=dE (by omega)
      obtain⟨W5,kw⟩:∃W5,W5=wr.setCell ⟨q+1,2,none⟩ (.int .i64 (1+n')):=⟨_,rfl⟩
      have hG5:W5.heap[q+1]? =some (.cells #[.int .i64 Y,.int .i64 m,.int .i64 (1+n')] 169 (0,0)):=by
       rw[kw,aX wr (q+1) 2 _ _ _ HG2.out,DD.out];rfl
      have hR5:W5.heap[q]? =some (.cells #[.int .i64 0,.int .i64 0,.int .i64 0] 169 (0,0)):=by
       rw[kw,Below.heap_setCell wr _ _ q (by show q≠q+1;omega)];exact HR2.out
      have JP:Hid (Below q w W5):=Lib.hid (by rw[kw];exact HB2.out.setCell (by show q<=q+1;omega) _)
      have HC:Hid (∃d:Nat,Ps.IsC n0 (2000+k) (j+1) d/\(d:Int)=1+n'):=Lib.hid (by
       obtain⟨e1,e2,e3,e4⟩:=O1.out
       have e5:=HM.out
       have e6:Ps.ak Y (j+1)=Ps.ak Y j+Ps.dim Y ((j:Int)+1):=rfl
       rw[<-DD.out,<-Nc.out]at e6
       have eY:Y=((2000+k:Nat):Int):=by rw[LJ.out];omega
       have e7:=HS.out
       have e8:=HS2.out
       have e9:=HSU.out
       rw[Int.natCast_add_one]at e7
       rw[eY]at e5 e6
       obtain⟨_,_,hc⟩:=Ps.IsC.of (n:=n0) (p:=k) (q:=j) h0 hn' (by omega) (by omega) (by omega) (by omega)
       exact⟨_,hc,by omega⟩)
      clear KC hm
      go_upto_region 12 with(go_at_call 203;refine(n2 _).mono ?_;rintro z w1 ⟨rfl,jv⟩;obtain rfl:=jv.symm;clear jv)
      rw[<-kw]
      clear kw
      refine wp_region_lit ?_
      refine pM rfl rfl rfl rfl (Cx W5 (q+1) Y m (1+n') hG5) ?_
      refine uz (w':=W5.setRow q #[.int .i64 Y,.int .i64 m,.int .i64 (1+n')]) rfl rfl (xq W5 q Y m (1+n') hR5 rfl rfl rfl) ?_
      refine av ?_
      have KP:(W5.setRow q #[.int .i64 Y,.int .i64 m,.int .i64 (1+n')]).heap[q]? =some (.cells #[.int .i64 Y,.int .i64 m,.int .i64 (1+n')] 169 (0,0)):=setRow_heap W5 q _ _ _ _ hR5
      have DN:Hid (Below q w (W5.setRow q #[.int .i64 Y,.int .i64 m,.int .i64 (1+n')])):=Lib.hid (by
       have hb:=JP.out
       exact⟨hb.os,hb.tape,hb.output,by rw[setRow_size];exact hb.size,λg hg=>(setRow_other W5 q g _ (by omega)).trans (hb.block g hg)⟩)
      generalize W5.setRow q _=W6 at KP DN⊢
      obtain⟨d,hd1,hd2⟩:=HC.out
      have Q6:Y=((2000+k:Nat):Int):=by rw[LJ.out];omega
      have hmm:m=((j+1:Nat):Int):=by rw[DD.out];omega
      have NF:Hid (Ps.IsC n0 (2000+k) (j+1) d/\Y=((2000+k:Nat):Int)/\m=((j+1:Nat):Int)/\(d:Int)=1+n'):=Lib.hid ⟨hd1,Q6,hmm,hd2⟩
      have Ns:=Lib.hid KP
      clear hd1 hd2 Q6 hmm KP
      go_wp2_with fail
      try simp only[Exit.then,Exit.inBlock]
      refine bodyPost_ret (results_cell_row rfl _ _ q _ _ (0,0) _ rfl Ns.out Tryz.underlying169 rfl (by kernel_rfl)) rfl ?_
      obtain⟨f1,f2,f3,f4⟩:=NF.out
      exact⟨2000+k,j+1,d,f1,by rw[f2,f3,<-f4];rfl,by rw[<-HQ.out];exact DN.out⟩
   ·have hle:366<=n:=by omega
    have q1:IntKind.i64.wrap (n-366)=n-366:=dE (by omega)
    have FIN:=Lib.hid (fin 366 (n-366) (Lib.hid ⟨rfl,by rw[hl];rfl⟩) hle)
    clear fin
    go_wp2_with (go_at_call 202;refine n1.mono ?_;rintro x w1 ⟨rfl,rfl⟩)
    go_roundw
    case rel=>exact FIN.out
    case measure=>simp[RowKit.intOf];omega
  |false=>
   rw[hl]at n1
   by_cases hlt:n<365
   ·have hx:Hid (n<365+(if Ps.jG Y=true then 1 else 0)):=Lib.hid (by rw[hl];simpa using hlt)
    clear fin
    go_wp2_with (go_at_call 202;refine n1.mono ?_;rintro x w1 ⟨rfl,rfl⟩)
    have O1:Hid (n0=n+Ps.aW k/\n<365+(if Ps.jG Y=true then 1 else 0)/\k<=199/\0<=n):=Lib.hid ⟨HN.out,hx.out,hk,hn0⟩
    clear hx n1 y0 f0 q3 hl hlt
    go_loopw [0] (λnv wr2=>∃j:Nat,∃n':Int,nv=.int .i64 n'/\j<=11/\Hid (n=n'+Ps.ak Y j)/\0<=n'/\n'<=73048/\Hid (wr2.heap[q+1]? =some (.cells #[.int .i64 Y,.int .i64 ((j:Int)+1),.int .i64 1] 169 (0,0)))/\Hid (wr2.heap[q]? =some (.cells #[.int .i64 0,.int .i64 0,.int .i64 0] 169 (0,0)))/\Hid (Below q w wr2)) (λnv _=>(RowKit.intOf nv).toNat)
    case atStart=>exact⟨0,n,rfl,by omega,Lib.hid (by simp[Ps.ak]),hn0,hn1,Lib.hid (by rw[HG.out,LJ.out];rfl),HR,HB⟩
    case round=>
     obtain⟨j,n',rfl,hj,HM,hm0,hm1,HG2,HR2,HB2⟩:=hrel
     have z0:wr.cell? ⟨q+1,0,none⟩=some (.int .i64 Y):=by rw[cell_of_row _ _ _ _ _ _ HG2.out];rfl
     have z1':wr.cell? ⟨q+1,1,none⟩=some (.int .i64 ((j:Int)+1)):=by rw[cell_of_row _ _ _ _ _ _ HG2.out];rfl
     have z2:wr.cell? ⟨q+1,2,none⟩=some (.int .i64 1):=by rw[cell_of_row _ _ _ _ _ _ HG2.out];rfl
     have f1:wr.frozen? ⟨q+1,1,none⟩=false:=aS 1 HG2.out
     have f2:wr.frozen? ⟨q+1,2,none⟩=false:=aS 2 HG2.out
     obtain⟨m,hm⟩:∃m:Int,m=(j:Int)+1:=⟨_,rfl⟩
     rw[<-hm]at z1'
     have n2:=λw=>oI w Y m
     have KF:=Ak Y m
     obtain⟨dd,hdd⟩:∃dd:Int,dd=Ps.dim Y m:=⟨_,rfl⟩
     rw[<-hdd]at n2 KF
     have DD:=Lib.hid hm
     have Nc:=Lib.hid hdd
     clear hdd
     have KC:Hid (Ps.ak Y 12=365+(if Ps.jG Y=true then 1 else 0)):=Lib.hid (by
      have e1:=Ps.iP k (by have:=O1.out.2.2.1;omega)
      have e2:=HS.out
      have e3:=HS2.out
      have e4:=HSU.out
      rw[<-LJ.out]at e1
      rw[e1]
      rw[Int.natCast_add_one]at e2
      omega)
     by_cases hlt2:dd<=n'
     ·have q4:IntKind.i64.wrap (n'-dd)=n'-dd:=dE (by omega)
      have q5:IntKind.i64.wrap (m+1)=m+1:=dE (by omega)
      have FIN:Hid (∃j':Nat,∃n2:Int,Value.int .i64 (n'-dd)=.int .i64 n2/\j'<=11/\Hid (n=n2+Ps.ak Y j')/\0<=n2/\n2<=73048/\Hid ((wr.setCell ⟨q+1,1,none⟩ (.int .i64 (m+1))).heap[q+1]? =some (.cells #[.int .i64 Y,.int .i64 ((j':Int)+1),.int .i64 1] 169 (0,0)))/\Hid ((wr.setCell ⟨q+1,1,none⟩ (.int .i64 (m+1))).heap[q]? =some (.cells #[.int .i64 0,.int .i64 0,.int .i64 0] 169 (0,0)))/\Hid (Below q w (wr.setCell ⟨q+1,1,none⟩ (.int .i64 (m+1))))):=Lib.hid (by
       have e1:=HM.out
       have e2:Ps.ak Y (j+1)=Ps.ak Y j+Ps.dim Y ((j:Int)+1):=rfl
       rw[<-DD.out,<-Nc.out]at e2
       have e3:=KC.out
       have e4:=O1.out
       have hj2:j+1<=11:=by
        rcases Nat.lt_or_ge j 11 with h|h
        ·omega
        ·have hj9:j=11:=by omega
         subst hj9
         have:Ps.ak Y (11+1)=Ps.ak Y 12:=rfl
         omega
       refine⟨j+1,n'-dd,rfl,hj2,Lib.hid (by omega),by omega,by omega,Lib.hid ?_,Lib.hid ?_,Lib.hid (HB2.out.setCell (by show q<=q+1;omega) _)⟩
       ·rw[aX wr (q+1) 1 _ _ _ HG2.out,DD.out,Int.natCast_add_one]
        rfl
       ·rw[Below.heap_setCell wr _ _ q (by show q≠q+1;omega)];exact HR2.out)
      have hpos:Hid (0<dd):=Lib.hid (by
       have e1:=Nc.out
       have hYb:=LJ.out
       have hkb:=O1.out.2.2.1
       unfold Ps.dim at e1
       rw[if_neg (by omega)]at e1
       split at e1
       ·split at e1<;>omega
       ·split at e1<;>omega)
      clear hm KC
      go_wp2_with (go_at_call 203;refine(n2 _).mono ?_;rintro z w1 ⟨rfl,jv⟩;obtain rfl:=jv.symm;clear jv)
      go_roundw
      case rel=>exact FIN.out
      case measure=>have:=hpos.out;simp[RowKit.intOf];omega
     ·have q6:IntKind.i64.wrap (1+n')=1+n':=dE (by omega)
      obtain⟨W5,kw⟩:∃W5,W5=wr.setCell ⟨q+1,2,none⟩ (.int .i64 (1+n')):=⟨_,rfl⟩
      have hG5:W5.heap[q+1]? =some (.cells #[.int .i64 Y,.int .i64 m,.int .i64 (1+n')] 169 (0,0)):=by
       rw[kw,aX wr (q+1) 2 _ _ _ HG2.out,DD.out];rfl
      have hR5:W5.heap[q]? =some (.cells #[.int .i64 0,.int .i64 0,.int .i64 0] 169 (0,0)):=by
       rw[kw,Below.heap_setCell wr _ _ q (by show q≠q+1;omega)];exact HR2.out
      have JP:Hid (Below q w W5):=Lib.hid (by rw[kw];exact HB2.out.setCell (by show q<=q+1;omega) _)
      have HC:Hid (∃d:Nat,Ps.IsC n0 (2000+k) (j+1) d/\(d:Int)=1+n'):=Lib.hid (by
       obtain⟨e1,e2,e3,e4⟩:=O1.out
       have e5:=HM.out
       have e6:Ps.ak Y (j+1)=Ps.ak Y j+Ps.dim Y ((j:Int)+1):=rfl
       rw[<-DD.out,<-Nc.out]at e6
       have eY:Y=((2000+k:Nat):Int):=by rw[LJ.out];omega
       have e7:=HS.out
       have e8:=HS2.out
       have e9:=HSU.out
       rw[Int.natCast_add_one]at e7
       rw[eY]at e5 e6
       obtain⟨_,_,hc⟩:=Ps.IsC.of (n:=n0) (p:=k) (q:=j) h0 hn' (by omega) (by omega) (by omega) (by omega)
       exact⟨_,hc,by omega⟩)
      clear KC hm
      go_upto_region 12 with(go_at_call 203;refine(n2 _).mono ?_;rintro z w1 ⟨rfl,jv⟩;obtain rfl:=jv.symm;clear jv)
      rw[<-kw]
      clear kw
      refine wp_region_lit ?_
      refine pM rfl rfl rfl rfl (Cx W5 (q+1) Y m (1+n') hG5) ?_
      refine uz (w':=W5.setRow q #[.int .i64 Y,.int .i64 m,.int .i64 (1+n')]) rfl rfl (xq W5 q Y m (1+n') hR5 rfl rfl rfl) ?_
      refine av ?_
      have KP:(W5.setRow q #[.int .i64 Y,.int .i64 m,.int .i64 (1+n')]).heap[q]? =some (.cells #[.int .i64 Y,.int .i64 m,.int .i64 (1+n')] 169 (0,0)):=setRow_heap W5 q _ _ _ _ hR5
      have DN:Hid (Below q w (W5.setRow q #[.int .i64 Y,.int .i64 m,.int .i64 (1+n')])):=Lib.hid (by
       have hb:=JP.out
       exact⟨hb.os,hb.tape,hb.output,by rw[setRow_size];exact hb.size,λg hg=>(setRow_other W5 q g _ (by omega)).trans (hb.block g hg)⟩)
      generalize W5.setRow q _=W6 at KP DN⊢
      obtain⟨d,hd1,hd2⟩:=HC.out
      have Q6:Y=((2000+k:Nat):Int):=by rw[LJ.out];omega
      have hmm:m=((j+1:Nat):Int):=by rw[DD.out];omega
      have NF:Hid (Ps.IsC n0 (2000+k) (j+1) d/\Y=((2000+k:Nat):Int)/\m=((j+1:Nat):Int)/\(d:Int)=1+n'):=Lib.hid ⟨hd1,Q6,hmm,hd2⟩
      have Ns:=Lib.hid KP
      clear hd1 hd2 Q6 hmm KP
      go_wp2_with fail
      try simp only[Exit.then,Exit.inBlock]
      refine bodyPost_ret (results_cell_row rfl _ _ q _ _ (0,0) _ rfl Ns.out Tryz.underlying169 rfl (by kernel_rfl)) rfl ?_
      obtain⟨f1,f2,f3,f4⟩:=NF.out
      exact⟨2000+k,j+1,d,f1,by rw[f2,f3,<-f4];rfl,by rw[<-HQ.out];exact DN.out⟩
   ·have hle:365<=n:=by omega
    have q1:IntKind.i64.wrap (n-365)=n-365:=dE (by omega)
    have FIN:=Lib.hid (fin 365 (n-365) (Lib.hid ⟨rfl,by rw[hl];rfl⟩) hle)
    clear fin
    go_wp2_with (go_at_call 202;refine n1.mono ?_;rintro x w1 ⟨rfl,rfl⟩)
    go_roundw
    case rel=>exact FIN.out
    case measure=>simp[RowKit.intOf];omega
end Go.Proofs.YtnjjeapcalkmaaaGreatDoor
namespace Go.Proofs.YtnjjeapcalkmaaaGreatDoor.Se
open Go Go.RowKit Go.Proofs.YtnjjeapcalkmaaaGreatDoor Go.Proofs.YtnjjeapcalkmaaaGreatDoor.Ord
def IA (cell:Nat->Nat->Value):PV->Value->World->Prop
 | .v x,y,_=>y=x
 | .s x,y,_=>y=.string (st x)
 | .sl l,y,w=>∃B,w.ownsRow B 9 1 y l.length ((l.map st).map .string)
 | .r k j,y,_=>y=cell k j
 | .a k j n,y,_=>y=.agg ((List.range n).map λi=>cell k (j+i)).toArray
 | .u c,y,_=>y=.int .u8 (c.toNat:Int)
 | .by_ l,y,w=>∃B,w.ownsRow B 5 1 y l.length (l.map λc=>.int .u8 (c.toNat:Int))
 |_,_,_=>False
def wu (cell:Nat->Nat->Value):List PV->List Value->World->Prop
 |[],[],_=>True
 |u::us,y::ys,w=>IA cell u y w/\wu cell us ys w
 |_,_,_=>False
def Cc:PV->Bool
 | .p _ _=>false
 | .pe _=>false
 |_=>true
inductive Rv where
 |str (n:Nat) (x:ByteArray)
 |sls (xs:List SB)
 |val (x:Value)
 |bts (xs:List UInt8)
def Rv.pv:Rv->PV
 | .str n x=>.s (n,x)
 | .sls l=>.sl l
 | .val x=>.v x
 | .bts l=>.by_ l
def Rv.fits:Rv->Prop
 | .str n x=>x.size<=n
 |_=>True
def Rv.out:Rv->Value->World->World->Prop
 | .str _ x,y,_,_=>y=.string x
 | .sls l,y,w,w'=>w'.ownsRow w.heap.size 9 1 y l.length ((l.map st).map .string)
 | .val x,y,_,_=>y=x
 | .bts l,y,w,w'=>w'.ownsRow w.heap.size 5 1 y l.length (l.map λc=>.int .u8 (c.toNat:Int))
def Spec (cell:Nat->Nat->Value)(f:FuncId)(us:List PV)(r:Rv):Prop:=
 (∀args w,(callFunc f args).run Tryz.prog w=.ok (.enter f args) w)/\r.fits/\∀(vals:List Value) (w:World),wu cell us vals w->Calls Tryz.prog f vals.toArray w λe w'=>∃y,e=.returned y/\r.out y w w'/\Below w.heap.size w w'
def SpecC (cell:Nat->Nat->Value)(f:FuncId)(us:List PV)(l l2:List SB):Prop:=
 (∀args w,(callFunc f args).run Tryz.prog w=.ok (.enter f args) w)/\∀(vals:List Value) (y:Value) (w:World) (B:Nat),B<=w.heap.size->wu cell us vals w->w.ownsRow B 9 1 y l.length ((l.map st).map .string)->(∀g,y.ownBlock=some g->B<=g)->Calls Tryz.prog f (vals++[y]).toArray w λe w'=>∃z,e=.returned z/\w'.ownsRow B 9 1 z l2.length ((l2.map st).map .string)/\Below B w w'
theorem QU {M:Mem}{u:PV}{y:Value}{w:World}(ha:Cc u=true)(h:Den M u y w):IA M.cell u y w:=by
 cases u with
 |sl l=>exact⟨M.B,by have:=h.1;rw[List.length_map]at this;exact this⟩
 |by_ l=>exact⟨M.B,h.1⟩
 |p k j=>cases ha
 |pe x=>cases ha
 |_=>exact h
theorem pR {M:Mem}{w:World}:∀{us:List PV} {ys:List Value},us.all Cc=true->jH M us ys w->wu M.cell us ys w
 |[],[],_,_=>trivial
 |[],_::_,_,h=>h
 |_::_,[],_,h=>h
 |u::us,y::ys,ha,h=>by
  rw[List.all_cons,Bool.and_eq_true]at ha
  exact⟨QU ha.1 h.1,pR ha.2 h.2⟩
def hook (cell:Nat->Nat->Value)(fixE:Bool)(res:FuncId->List PV->Option Rv)(resC:FuncId->List PV->List SB->Option (List SB))(f:FuncId)(us:List PV):Option (PV×Bool×Option Prop):=match res f us with
 |some r=>if us.all Cc=true then some (r.pv,false,some (Spec cell f us r))else none
 |none=>match us.reverse with
  | .sl l::rest=>match resC f rest.reverse l with
    |some l2=>if (fixE&&rest.reverse.all Cc)=true then some (.sl l2,true,some (SpecC cell f rest.reverse l l2))else none
    |none=>none
  |_=>none
theorem yP {M:Mem}{u:PV}{w:World}:∀{us:List PV} {vals:List Value},jH M (us++[u]) vals w->∃vs y,vals=vs++[y]/\jH M us vs w/\Den M u y w
 |[],vals,h=>by
  rcases vals with _|⟨v,_|⟨x,l⟩⟩
  ·exact h.elim
  ·exact⟨[],v,rfl,trivial,h.1⟩
  ·exact h.2.elim
 |x::us,vals,h=>by
  rcases vals with _|⟨v,l⟩
  ·exact h.elim
  ·obtain⟨vs,y,h1,h2,h3⟩:=yP h.2
   exact⟨v::vs,y,by rw[h1];rfl,⟨h.1,h2⟩,h3⟩
theorem PI {M:Mem}(hM:Wf M){res:FuncId->List PV->Option Rv}{resC:FuncId->List PV->List SB->Option (List SB)}{fixE:Bool}(hfix:fixE=true->M.fix=[])(f:FuncId)(us:List PV)(u:PV)(c:Bool)(q:Option Prop)(h:hook M.cell fixE res resC f us=some (u,c,q))(hq:∀p,q=some p->p):
 (∀args w,(callFunc f args).run Tryz.prog w=.ok (.enter f args) w)/\∀(vals:List Value) w,Sw M w->jH M us vals w->Calls Tryz.prog f vals.toArray w λe w'=>∃v,e=.returned v/\Den M u v w'/\Sw M w'/\(c=false->Below w.heap.size w w'):=by
 unfold hook at h
 split at h
 ·rename_i r hr
  split at h
  ·rename_i ha
   cases h
   obtain⟨h1,h2,h3⟩:=hq _ rfl
   refine⟨h1,λvals w hS hd=>(h3 vals w (pR ha hd)).mono ?_⟩
   rintro e w' ⟨y,rfl,ho,hb⟩
   have hB:M.B<=w.heap.size:=Nat.le_trans hM.B hS.size
   have hnew:∀{t:TypeId} {n:Nat} {xs:List Value},w'.ownsRow w.heap.size t 1 y n xs->∀g,y.ownBlock=some g->g∉M.fix:=λho g hg hf=>by
    rcases ho.2 with⟨hv,_⟩|⟨g',cap,cur,hv,hb',_⟩
    ·rw[hv]at hg;cases hg
    ·rw[hv]at hg
     have:g'=g:=by simpa[Value.ownBlock]using hg
     have:=hM.fix g hf
     have:=hS.size
     omega
   refine⟨y,rfl,?_,hS.below hM hb,λ_=>hb⟩
   cases r with
   |str n x=>
    show y=.string (st (n,x))
    rw[show st (n,x)=x from eX h2]
    exact ho
   |sls l=>
    have ho:w'.ownsRow w.heap.size 9 1 y l.length ((l.map st).map .string):=ho
    refine⟨?_,hnew ho⟩
    rw[List.length_map]
    exact dC ho hB
   |val x=>exact ho
   |bts l=>
    have ho:w'.ownsRow w.heap.size 5 1 y l.length (l.map λc=>.int .u8 (c.toNat:Int)):=ho
    exact⟨dC ho hB,hnew ho⟩
  ·cases h
 ·split at h
  ·rename_i l rest hrev
   split at h
   ·rename_i l2 hl2
    split at h
    ·rename_i hc
     cases h
     rw[Bool.and_eq_true]at hc
     have hfx:=hfix hc.1
     have J8:us=rest.reverse++[.sl l]:=by
      have:=congrArg List.reverse hrev
      rw[List.reverse_reverse,List.reverse_cons]at this
      exact this
     obtain⟨h1,h2⟩:=hq _ rfl
     refine⟨h1,λvals w hS hd=>?_⟩
     rw[J8]at hd
     obtain⟨vs,y,rfl,hd1,hd2⟩:=yP hd
     have hB:M.B<=w.heap.size:=Nat.le_trans hM.B hS.size
     have hy:=hd2.1
     rw[List.length_map]at hy
     refine(h2 vs y w M.B hB (pR hc.2 hd1) hy (λg hg=>?_)).mono ?_
     ·rcases hy.2 with⟨hv,_⟩|⟨g',cap,cur,hv,hb',_⟩
      ·rw[hv]at hg;cases hg
      ·rw[hv]at hg
       have:g'=g:=by simpa[Value.ownBlock]using hg
       omega
     ·rintro e w' ⟨z,rfl,ho,hb⟩
      refine⟨z,rfl,⟨?_,λg _ hf=>by rw[hfx]at hf;cases hf⟩,hS.turn hb (λg hf=>by rw[hfx]at hf;cases hf),λhc=>by cases hc⟩
      rw[List.length_map]
      exact ho
    ·cases h
   ·cases h
  ·cases h
def noC (_:FuncId)(_:List PV)(_:List SB):Option (List SB):=none
def seM (B:Nat)(W:World)(fix:List Nat)(b:Nat)(rows:List (Option (Nat×Nat)×List Value))(res:FuncId->List PV->Option Rv)(resC:FuncId->List PV->List SB->Option (List SB):=noC):Mem:=dm B W fix b rows (hook (Ev.bE rows) fix.isEmpty res resC)
theorem seM_ok {B:Nat}{W:World}{fix:List Nat}{b:Nat}{rows:List (Option (Nat×Nat)×List Value)}{res:FuncId->List PV->Option Rv}{resC:FuncId->List PV->List SB->Option (List SB)}(hB:B<=W.heap.size)(hf:∀g∈fix,g<W.heap.size)
 (h2:∀(k g o:Nat) (l:List Value),rows[k]? =some (some (g,o),l)->(g<B\/g∈fix)/\∀w:World,w.heap[g]? =W.heap[g]?->∀(j:Nat) (v:Value),l[j]? =some v->w.cell? ⟨g,o+j,none⟩=some v)
 (hb:∀(k:Nat) (p:Nat×Nat) (l:List Value),rows[k]? =some (some p,l)->∀x,Value.string x∈l->x.size<=b):Ok Tryz.prog (seM B W fix b rows res resC):=
 ql hB hf h2 hb λf us u c q h hq=>PI (M:=seM B W fix b rows res resC) ⟨hB,hf⟩ (λhx=>by show fix=[];simpa using hx) f us u c q h hq
theorem Qb {cell:Nat->Nat->Value}{u:PV}{vals:List Value}{w:World}(h:wu cell [u] vals w):∃v,vals=[v]/\IA cell u v w:=by
 rcases vals with _|⟨v,_|⟨x,l⟩⟩
 ·exact h.elim
 ·exact⟨v,rfl,h.1⟩
 ·exact h.2.elim
theorem d0_2 {cell:Nat->Nat->Value}{u u2:PV}{vals:List Value}{w:World}(h:wu cell [u,u2] vals w):∃v v2,vals=[v,v2]/\IA cell u v w/\IA cell u2 v2 w:=by
 rcases vals with _|⟨v,l⟩
 ·exact h.elim
 ·obtain⟨v2,rfl,h2⟩:=Qb h.2
  exact⟨v,v2,rfl,h.1,h2⟩
def iY (cell:Nat->Nat->Value):PV->Option Value
 | .v x=>some x
 | .r k j=>some (cell k j)
 | .s x=>some (.string (st x))
 | .a k j n=>some (.agg ((List.range n).map λi=>cell k (j+i)).toArray)
 |_=>none
theorem lG {cell:Nat->Nat->Value}{u:PV}{x y:Value}{w:World}(hu:iY cell u=some x)(h:IA cell u y w):y=x:=by
 cases u<;>first|(cases hu;exact h)|cases hu
theorem NE {cell:Nat->Nat->Value}{f:FuncId}{u u2:PV}{x x2:Value}{n:Nat}{b:ByteArray}(he:∀args w,(callFunc f args).run Tryz.prog w=.ok (.enter f args) w)(hu:iY cell u=some x)(hu2:iY cell u2=some x2)(h:∀w,jW f #[x,x2] w b)(hn:b.size<=n):Spec cell f [u,u2] (.str n b):=⟨he,hn,λvals w hd=>by
 obtain⟨v,v2,rfl,hv,hv2⟩:=d0_2 hd
 obtain rfl:=lG hu hv
 obtain rfl:=lG hu2 hv2
 exact(h w).mono λe w' ⟨h1,h2⟩=>⟨_,h1,rfl,h2⟩⟩
end Go.Proofs.YtnjjeapcalkmaaaGreatDoor.Se
namespace Go.Proofs.YtnjjeapcalkmaaaGreatDoor
open Go Go.RowKit Go.Proofs.YtnjjeapcalkmaaaGreatDoor.Ord
open Go.Proofs.YtnjjeapcalkmaaaGreatDoor.Se
theorem kP:∀args w,(callFunc 133 args).run Tryz.prog w=.ok (.enter 133 args) w:=enters_of Tryz.func133 (by kernel_rfl) rfl
def AO (g:Nat)(y m d:Nat):List (Option (Nat×Nat)×List Value):=[(some (g,0),[.int .i64 (y:Int),.int .i64 (m:Int),.int .i64 (d:Int)])]
def f3Res (y m d:Nat)(f:FuncId)(us:List PV):Option Rv:=if f=133 then(match us with
 |[.r 0 0,.v (.int .i64 4)]=>some (.str 4 ⟨(Ps.d4 y).toArray⟩)
 |[.r 0 1,.v (.int .i64 2)]=>some (.str 2 ⟨(Ps.d2 m).toArray⟩)
 |[.r 0 2,.v (.int .i64 2)]=>some (.str 2 ⟨(Ps.d2 d).toArray⟩)
 |_=>none)else none
theorem row1 {W:World}{g B:Nat}{l:List Value}{t:TypeId}{fix:List Nat}(h:W.heap[g]? =some (.cells l.toArray t (0,0)))(hp:g<B\/g∈fix):∀(k g' o:Nat) (l':List Value),([(some (g,0),l)]:List (Option (Nat×Nat)×List Value))[k]? =some (some (g',o),l')->(g'<B\/g'∈fix)/\∀w:World,w.heap[g']? =W.heap[g']?->∀(j:Nat) (v:Value),l'[j]? =some v->w.cell? ⟨g',o+j,none⟩=some v:=λk g' o l' hk=>by
 rcases k with _|k
 ·cases hk;exact⟨hp,nC h⟩
 ·cases hk
theorem str1 {g b:Nat}{l:List Value}(h:∀x,Value.string x∈l->x.size<=b):∀(k:Nat) (p:Nat×Nat) (l':List Value),([(some (g,0),l)]:List (Option (Nat×Nat)×List Value))[k]? =some (some p,l')->∀x,Value.string x∈l'->x.size<=b:=λk p l' hk=>by
 rcases k with _|k
 ·cases hk;exact h
 ·cases hk
theorem Jb (n:Int)(h0:0<=n)(hn:n<=Ps.bF)(w:World):jW 75 #[.int .i64 n] w (Ps.au n):=by
 have n1:=rk3_to n h0 hn w
 unfold jW
 clear h0 hn
 go_enter Tryz.func75,Tryz.ntmps75
 go_upto_region 2 with(go_at_call 132;refine n1.mono ?_;rintro e w1 ⟨y,m,d,hc,rfl,hb⟩;unfold uU)
 rename_i K hK
 have hc31:=hc.d31
 have hc2:=hc
 obtain⟨g,hg⟩:∃g,g=w1.heap.size:=⟨_,rfl⟩
 generalize hW:World.alloc _ _=W
 have hrow:W.heap[g]? =some (.cells #[.int .i64 (y:Int),.int .i64 (m:Int),.int .i64 (d:Int)] 169 (0,0)):=by rw[<-hW,hg];exact aD w1 _
 have HB:Below w.heap.size w W:=by rw[<-hW];exact hb.alloc hb.size _
 have hgW:g<W.heap.size:=(Array.getElem?_eq_some_iff.1 hrow).1
 rw[<-hg]
 clear hW hg n1
 refine nu λa ha hdf=>?_
 obtain⟨c1,c2,c3,c4,c5,c6,_⟩:=hc
 refine LH (M:=seM W.heap.size W [] 0 (AO g y m d) (f3Res y m d)) (n:=19) (seM_ok (Nat.le_refl _) (λ_ h=>by cases h) (row1 hrow (.inl hgW)) (str1 λx hx=>by simp at hx)) [2] (K:=[(3,.p 0 0)])
  (us:=[.s (Se.cat (Se.cat (Se.cat (Se.cat (4,⟨(Ps.d4 y).toArray⟩) (1,⟨#[45]⟩)) (2,⟨(Ps.d2 m).toArray⟩)) (1,⟨#[45]⟩)) (2,⟨(Ps.d2 d).toArray⟩))])
  (ps:=[Se.Spec (Ev.bE (AO g y m d)) 133 [.r 0 0,.v (.int .i64 4)] (.str 4 ⟨(Ps.d4 y).toArray⟩),Se.Spec (Ev.bE (AO g y m d)) 133 [.r 0 1,.v (.int .i64 2)] (.str 2 ⟨(Ps.d2 m).toArray⟩),Se.Spec (Ev.bE (AO g y m d)) 133 [.r 0 2,.v (.int .i64 2)] (.str 2 ⟨(Ps.d2 d).toArray⟩)])
  (by kernel_rfl) ⟨NE kP rfl rfl (λw=>Eo y (by omega) w) (Nat.le_refl _),NE kP rfl rfl (λw=>wQ m (by omega) w) (Nat.le_refl _),NE kP rfl rfl (λw=>wQ d (by omega) w) (Nat.le_refl _),trivial⟩
  (aJ (cu (by rw[ha];rfl) hdf) (v:=.pointer (some ⟨g,0,none⟩)) (by rw[ha];rfl) rfl) (Sw.start _) ?_
 intro a w' _ hd hv hS
 refine hK _ _ (wp_ret ?_)
 try simp only[Exit.then,Exit.inBlock]
 refine qZ rfl hd hv ⟨?_,HB.trans ((dP rfl hS).mono HB.size)⟩
 rw[il,il,il,il,Ps.qQ hc2,show st (4,(⟨(Ps.d4 y).toArray⟩:ByteArray))=_ from eX (Nat.le_refl 4),show st (2,(⟨(Ps.d2 m).toArray⟩:ByteArray))=_ from eX (Nat.le_refl 2),show st (2,(⟨(Ps.d2 d).toArray⟩:ByteArray))=_ from eX (Nat.le_refl 2),show st (1,(⟨#[45]⟩:ByteArray))=_ from eX (Nat.le_refl 1)]
 rfl
theorem l_date (n:Int)(h0:0<=n)(hn:n<=Ps.bF)(w:World):jW 46 #[.int .i64 n] w (Ps.au n):=by
 have n1:=Jb n h0 hn w
 unfold jW at n1⊢
 go_enter Tryz.func46,Tryz.ntmps46
 go_wp2_with (go_at_call 75;refine n1.mono ?_;rintro e w1 ⟨rfl,hb⟩)
 go_ret
 exact⟨rfl,hb⟩
open Go.RowKit
open Go.Proofs.YtnjjeapcalkmaaaGreatDoor.Ord
theorem Ea (w:World)(n lo hi:Int)(b1 b2:Bool)(h1:decide (lo<=n)=b1)(h2:decide (n<=hi)=b2):
 Calls Tryz.prog 79 #[.int .i64 n,.int .i64 lo,.int .i64 hi] w λe w'=>e=.returned (.bool (b1&&b2))/\w=w':=by
 cases b1
 all_goals cases b2
 all_goals simp only[decide_eq_true_eq,decide_eq_false_iff_not]at h1 h2
 all_goals
  go_enter Tryz.func79,Tryz.ntmps79
  go_wp2_with fail
  go_ret
  exact⟨rfl,rfl⟩
theorem AB (w:World)(n lo hi:Int)(b1 b2:Bool)(h1:decide (lo<=n)=b1)(h2:decide (n<=hi)=b2):
 Calls Tryz.prog 142 #[.int .i64 n,.int .i64 lo,.int .i64 hi] w λe w'=>e=.returned (.bool (b1&&b2))/\w=w':=by
 cases b1
 all_goals cases b2
 all_goals simp only[decide_eq_true_eq,decide_eq_false_iff_not]at h1 h2
 all_goals
  go_enter Tryz.func142,Tryz.ntmps142
  go_wp2_with fail
  go_ret
  exact⟨rfl,rfl⟩
def inB (n lo hi:Int):Bool:=decide (lo<=n)&&decide (n<=hi)
theorem Jn (w:World)(n lo hi:Int):Calls Tryz.prog 79 #[.int .i64 n,.int .i64 lo,.int .i64 hi] w λe w'=>e=.returned (.bool (inB n lo hi))/\w=w':=Ea w n lo hi _ _ rfl rfl
theorem sH (w:World)(n lo hi:Int):Calls Tryz.prog 142 #[.int .i64 n,.int .i64 lo,.int .i64 hi] w λe w'=>e=.returned (.bool (inB n lo hi))/\w=w':=AB w n lo hi _ _ rfl rfl
theorem Ew (w:World)(n lo hi:Int):Calls Tryz.prog 79 #[.int .i64 n,.int .i64 lo,.int .i64 hi] w λe w'=>e=.returned (.bool (inB n lo hi))/\Below w.heap.size w w':=(Jn w n lo hi).mono λ_e _w' ⟨h1,h2⟩=>⟨h1,h2▸Below.refl _ _⟩
theorem yz (w:World)(n lo hi:Int):Calls Tryz.prog 142 #[.int .i64 n,.int .i64 lo,.int .i64 hi] w λe w'=>e=.returned (.bool (inB n lo hi))/\Below w.heap.size w w':=(sH w n lo hi).mono λ_e _w' ⟨h1,h2⟩=>⟨h1,h2▸Below.refl _ _⟩
theorem JN (w:World)(b:Bool)(n:Int):Calls Tryz.prog 136 #[.agg #[.bool b,.int .i64 n]] w λe w'=>e=.returned (.bool b)/\Below w.heap.size w w':=by
 go_enter Tryz.func136,Tryz.ntmps136
 go_wp2_with fail
 go_ret
 exact⟨rfl,(Below.refl _ _).alloc (Nat.le_refl _) _⟩
def cO (rs:List (Bool×Int)):List Value:=rs.flatMap λx=>[.bool x.1,.int .i64 x.2]
def aV:List (Bool×Int)->Int
 |[]=>0
 |x::rs=>if x.1=true then x.2 else aV rs
theorem Fs:∀(rs:List (Bool×Int)) (j:Nat) (x:Bool×Int),rs[j]? =some x->(cO rs)[j*2]? =some (.bool x.1)/\(cO rs)[j*2+1]? =some (.int .i64 x.2)
 |[],j,x,h=>by simp at h
 |y::rs,0,x,h=>by
  obtain rfl:y=x:=by simpa using h
  exact⟨rfl,rfl⟩
 |y::rs,j+1,x,h=>by
  have ih:=Fs rs j x (by simpa using h)
  rw[show(j+1)*2=j*2+1+1 from by omega]
  exact ih
theorem Ck (W:World)(g cap:Nat)(rs:List (Bool×Int))(t:TypeId)(hrow:W.heap[g]? =some (.cells (cO rs).toArray t (0,0)))(_hc:rs.length<=cap)(hl:rs.length<=1000)(m:Nat)(hm:m<=rs.length)(hlow:Hid (∀j x,j<m->rs[j]? =some x->x.1=false))
 (v:Int) (hv:Hid ((m<rs.length->(∃e,rs[m]? =some (true,e))/\v=(m:Int))/\(m=rs.length->v= -1))):
 Calls Tryz.prog 135 #[.slice (some ⟨g,0,none⟩) rs.length cap,.func (.func 136) #[] #[]] W λe W'=>e=.returned (.int .i64 v)/\Below W.heap.size W W':=by
 have eg:=enters_of Tryz.func136 (by kernel_rfl) rfl
 have HR:=Lib.hid hrow
 clear hrow
 go_enter Tryz.func135,Tryz.ntmps135
 go_wp2_with fail
 go_loopw [5,8] (λ_ iv wr=>∃j:Nat,iv=.int .i64 j/\j<=m/\Hid (Below W.heap.size W wr)) (λ_ iv _=>2000-(RowKit.intOf iv).toNat)
 case atStart=>exact⟨0,rfl,Nat.zero_le _,Lib.hid (Below.refl _ _)⟩
 case round=>
  obtain⟨j,rfl,hj,HB⟩:=hrel
  by_cases hlt:j<rs.length
  ·obtain⟨x,hx⟩:∃x,rs[j]? =some x:=⟨_,List.getElem?_eq_getElem hlt⟩
   obtain⟨b,n⟩:=x
   have hr2:wr.heap[g]? =some (.cells (cO rs).toArray t (0,0)):=(HB.out.block g (Array.getElem?_eq_some_iff.1 HR.out).1).trans HR.out
   have y0:wr.cell? ⟨g,j*2,none⟩=some (.bool b):=by rw[cell_of_row _ _ _ _ _ _ hr2,List.getElem?_toArray];exact(Fs rs j _ hx).1
   have y1:wr.cell? ⟨g,j*2+1,none⟩=some (.int .i64 n):=by rw[cell_of_row _ _ _ _ _ _ hr2,List.getElem?_toArray];exact(Fs rs j _ hx).2
   have jI:(j:Int)<(rs.length:Int):=by omega
   have m1:=JN wr b n
   clear hr2
   by_cases hjm:j<m
   ·have hbf:=hlow.out j _ hjm hx
    simp only at hbf
    subst hbf
    have hw1:wrap64 ((j:Int)+1)=((j+1:Nat):Int):=by unfold wrap64;omega
    clear hx hlow hv
    go_wp2_with ((first|go_at_fn 136|go_at_call 136);refine m1.mono ?_;rintro e w1 ⟨rfl,hb⟩;have HB2:=Lib.hid (HB.out.trans (hb.mono HB.out.size));clear hb)
    refine⟨⟨j+1,by first|rfl|go_num,by omega,HB2⟩,by simp[RowKit.intOf]<;>omega⟩
   ·obtain rfl:j=m:=by omega
    obtain⟨⟨e0,he0⟩,hve⟩:=hv.out.1 hlt
    rw[hx]at he0
    cases he0
    subst hve
    clear hx hlow hv
    go_wp2_with ((first|go_at_fn 136|go_at_call 136);refine m1.mono ?_;rintro e w1 ⟨rfl,hb⟩;have HB2:=Lib.hid (HB.out.trans (hb.mono HB.out.size));clear hb)
    go_ret
    exact⟨rfl,HB2.out⟩
  ·have hje:j=rs.length:=by omega
   have hve:=hv.out.2 (by omega)
   subst hve
   have jI:¬(j:Int)<(rs.length:Int):=by omega
   clear hlow hv
   go_wp2_with fail
   go_ret
   exact⟨rfl,HB.out⟩
theorem Au (W:World)(g cap k m:Nat)(n:Int)(_hm:m<k)(hmI:(m:Int)<(k:Int))(_hc:k<=cap)(_hl:k<=1000)
 (n1:Calls Tryz.prog 135 #[.slice (some ⟨g,0,none⟩) k cap,.func (.func 136) #[] #[]] W λe W'=>e=.returned (.int .i64 m)/\W'.cell? ⟨g,m*2+1,none⟩=some (.int .i64 n)/\Below W.heap.size W W'):
 Calls Tryz.prog 78 #[.slice (some ⟨g,0,none⟩) k cap] W λe W'=>e=.returned (.int .i64 n)/\Below W.heap.size W W':=by
 go_enter Tryz.func78,Tryz.ntmps78
 go_wp2_with fail
 refine n1.mono ?_
 rintro e w ⟨rfl,hc2,hb⟩
 have HB:=Lib.hid hb
 clear n1 hb
 go_wp2_with fail
 go_ret
 exact⟨rfl,HB.out⟩
theorem Dv (W:World)(v:Value)
 (n1:Calls Tryz.prog 135 #[v,.func (.func 136) #[] #[]] W λe W'=>e=.returned (.int .i64 (-1))/\Below W.heap.size W W'):
 Calls Tryz.prog 78 #[v] W λe W'=>e=.returned (.int .i64 0)/\Below W.heap.size W W':=by
 go_enter Tryz.func78,Tryz.ntmps78
 go_wp2_with fail
 refine n1.mono ?_
 rintro e w ⟨rfl,hb⟩
 have HB:=Lib.hid hb
 clear n1 hb
 go_wp2_with fail
 go_ret
 exact⟨rfl,HB.out⟩
theorem pE:∀rs:List (Bool×Int),∃m,m<=rs.length/\(∀(j:Nat) (x:Bool×Int),j<m->rs[j]? =some x->x.1=false)/\((m<rs.length/\∃e,rs[m]? =some (true,e)/\aV rs=e)\/(m=rs.length/\aV rs=0))
 |[]=>⟨0,Nat.le_refl _,λj x h=>by omega,.inr ⟨rfl,rfl⟩⟩
 |(b,n)::rs=>by
  cases b with
  |true=>exact⟨0,Nat.zero_le _,λj x h=>by omega,.inl ⟨by simp,n,rfl,rfl⟩⟩
  |false=>
   obtain⟨m,h1,h2,h3⟩:=pE rs
   refine⟨m+1,by simpa using h1,λj x hj hx=>?_,?_⟩
   ·cases j with
    |zero=>simp at hx;rw[<-hx]
    |succ j=>exact h2 j x (by omega) (by simpa using hx)
   ·rcases h3 with⟨h4,e,h5,h6⟩|⟨h4,h5⟩
    ·exact .inl ⟨by simpa using h4,e,by simpa using h5,by simpa[aV]using h6⟩
    ·exact .inr ⟨by simpa using h4,by simpa[aV]using h5⟩
theorem KG (W:World)(g cap:Nat)(rs:List (Bool×Int))(t:TypeId)(hrow:W.heap[g]? =some (.cells (cO rs).toArray t (0,0)))(hc:rs.length<=cap)(hl:rs.length<=1000):
 Calls Tryz.prog 78 #[.slice (some ⟨g,0,none⟩) rs.length cap] W λe W'=>e=.returned (.int .i64 (aV rs))/\Below W.heap.size W W':=by
 obtain⟨m,h1,h2,h3⟩:=pE rs
 rcases h3 with⟨h4,e,h5,h6⟩|⟨h4,h5⟩
 ·rw[h6]
  refine Au W g cap rs.length m e h4 (by omega) hc hl ((Ck W g cap rs t hrow hc hl m h1 (Lib.hid h2) m (Lib.hid ⟨λ_=>⟨⟨e,h5⟩,rfl⟩,λh=>by omega⟩)).mono ?_)
  rintro x w ⟨rfl,hb⟩
  have hr2:w.heap[g]? =some (.cells (cO rs).toArray t (0,0)):=(hb.block g (Array.getElem?_eq_some_iff.1 hrow).1).trans hrow
  exact⟨rfl,by rw[cell_of_row _ _ _ _ _ _ hr2,List.getElem?_toArray];exact(Fs rs m _ h5).2,hb⟩
 ·rw[h5]
  exact Dv W _ (Ck W g cap rs t hrow hc hl m h1 (Lib.hid h2) (-1) (Lib.hid ⟨λh=>by omega,λ_=>rfl⟩))
theorem ent57:∀args w,(callFunc 79 args).run Tryz.prog w=.ok (.enter 79 args) w:=enters_of Tryz.func79 (by kernel_rfl) rfl
theorem Cb:∀args w,(callFunc 80 args).run Tryz.prog w=.ok (.enter 80 args) w:=enters_of Tryz.func80 (by kernel_rfl) rfl
theorem ent108:∀args w,(callFunc 141 args).run Tryz.prog w=.ok (.enter 141 args) w:=enters_of Tryz.func141 (by kernel_rfl) rfl
theorem ent101:∀args w,(callFunc 83 args).run Tryz.prog w=.ok (.enter 83 args) w:=enters_of Tryz.func83 (by kernel_rfl) rfl
theorem ent105:∀args w,(callFunc 138 args).run Tryz.prog w=.ok (.enter 138 args) w:=enters_of Tryz.func138 (by kernel_rfl) rfl
theorem ent106:∀args w,(callFunc 139 args).run Tryz.prog w=.ok (.enter 139 args) w:=enters_of Tryz.func139 (by kernel_rfl) rfl
theorem ent107:∀args w,(callFunc 140 args).run Tryz.prog w=.ok (.enter 140 args) w:=enters_of Tryz.func140 (by kernel_rfl) rfl
theorem ent109:∀args w,(callFunc 142 args).run Tryz.prog w=.ok (.enter 142 args) w:=enters_of Tryz.func142 (by kernel_rfl) rfl
theorem ent110:∀args w,(callFunc 143 args).run Tryz.prog w=.ok (.enter 143 args) w:=enters_of Tryz.func143 (by kernel_rfl) rfl
theorem ent111:∀args w,(callFunc 144 args).run Tryz.prog w=.ok (.enter 144 args) w:=enters_of Tryz.func144 (by kernel_rfl) rfl
theorem bd27 (ρ:Operand->Value)(w:World):(Instr.build 35 ((#[]:Array (Nat×Operand)).map λ(i,x)=>(i,ρ x))).run Tryz.prog w=.ok (.agg (aH {}).toArray) w:=by
 go_simp
 rfl
theorem bd25 (ρ:Operand->Value)(w:World):(Instr.build 34 ((#[]:Array (Nat×Operand)).map λ(i,x)=>(i,ρ x))).run Tryz.prog w=.ok (.agg (aB {} (.slice none 0 0)).toArray) w:=by
 go_simp
 rfl
theorem ne27 (A:Ps.Amd)(x y:Operand)(w:World):(do eqGuard .neq 35 x y (.agg (aH A).toArray) (.agg (aH {}).toArray);binOp .neq 35 (.agg (aH A).toArray) (.agg (aH {}).toArray):Sem Value).run Tryz.prog w=.ok (.bool (!decide A.none)) w:=by
 unfold aH
 go_simp
 repeat' split
 all_goals simp_all [Ps.Amd.none]
theorem LB {dr:Bool}{ops:Array Oper}{id:Nat}{a:Act}{w W0:World}{Q:Exit->Act->World->Prop}(n:Nat)(vs:List Value)(hvl:vs.length=n)(hd:fO ops=true)(hs:Region.noSelect ops=true)(hb:bU ops a.tmps.size=true)(ht:rQ ops n=true)(hS:Below W0.heap.size W0 w)
 (hY:∀ρ:Operand->Value,dG ρ (ops.toList.take n) vs->(∀t:Nat,(∀o:Oper,o∈ops.toList->o.dst≠some t)->ρ (.tmp t)=a.eval (.tmp t))->(∀v,ρ (.const v)=v)->(∀f,ρ (.func f)=.func (.func f) #[] #[])->lZ Tryz.prog (Below W0.heap.size W0) ρ vs (ops.toList.take n) vs)
 (rs:List (Bool×Int)) (hrs:rs.length<=1000) {x1 x2 x3:Oper} {k d1 d2 d3:Nat} {parts:Array (Nat×Operand)} {ts:Array TypeId} (hsz:ops.size=n+3)
 (h1:ops[n]? =some x1) (h1o:x1.op=.buildSlice 172 k parts) (h1d:x1.dst=some d1) (h1g:x1.guard=none)
 (h2:ops[n+1]? =some x2) (h2o:x2.op=.call {callee:=.value (.func 78),args:=#[.tmp d1],argTypes:=ts}) (Q4:x2.dst=some d2) (h2g:x2.guard=none)
 (h3:ops[n+2]? =some x3) (h3o:x3.op=.assign (.tmp d2)) (RN:x3.dst=some d3) (h3g:x3.guard=none) (hlt:d1<a.tmps.size/\d2<a.tmps.size/\d3<a.tmps.size)
 (t:TypeId) (hbuild:∀ρ:Operand->Value,dG ρ (ops.toList.take n) vs->∀w:World,(Instr.buildSlice 172 k (parts.map λ(i,x)=>(i,ρ x))).run Tryz.prog w=.ok (.slice (some ⟨w.heap.size,0,none⟩) rs.length rs.length) (w.alloc (.cells (cO rs).toArray t)))
 (hend:∀(b:Act) (w':World),Below W0.heap.size W0 w'->b.defers=a.defers->b.tmps.size=a.tmps.size->b.tmps[d3]? =some (.int .i64 (aV rs))->(∀t:Nat,(∀o:Oper,o∈ops.toList->o.dst≠some t)->b.tmps[t]? =a.tmps[t]?)->Q .normal b w'):
 (Code.region id ops dr).wp Tryz.prog Q a w:=by
 suffices key:∀(b:Act) (w1:World),Below W0.heap.size W0 w1->b.defers=a.defers->b.tmps.size=a.tmps.size->dG b.eval (ops.toList.take n) vs->(∀t:Nat,(∀o:Oper,o∈ops.toList->o.dst≠some t)->b.tmps[t]? =a.tmps[t]?)->wpOps Tryz.prog ops Q (List.range' n (ops.size-n)) b w1 by
  cases dr
  ·exact ny (Below W0.heap.size W0) n vs hvl (by omega) hd hs hb hS hY key
  ·exact wR (Below W0.heap.size W0) n vs hvl (by omega) rfl hd hs hb ht hS.drew hY key
 intro b w1 hS1 hbd hbs hD hrest
 rw[show List.range' n (ops.size-n)=[n,n+1,n+2]from by rw[hsz,show n+3-n=3 from by omega];rfl]
 refine ou h1 h1g ?_
 unfold Oper.wp execOp
 rw[h1o]
 simp only[Sem.run_bind,hbuild b.eval hD w1,Result.andThen_ok]
 show wpOps _ ops Q _ (b.put x1.dst _) _
 refine ou h2 h2g ?_
 have hrow:(w1.alloc (.cells (cO rs).toArray t)).heap[w1.heap.size]? =some (.cells (cO rs).toArray t (0,0)):=by unfold World.alloc;simp
 have hS2:Below W0.heap.size W0 (w1.alloc (.cells (cO rs).toArray t)):=hS1.alloc hS1.size _
 obtain⟨w2,hw2⟩:∃w2,w2=w1.alloc (.cells (cO rs).toArray t):=⟨_,rfl⟩
 rw[<-hw2]at hrow hS2⊢
 have hc:=KG w2 w1.heap.size rs.length rs t hrow (Nat.le_refl _) hrs
 have hargs:(#[Operand.tmp d1]:Array Operand).map (b.put x1.dst (.slice (some ⟨w1.heap.size,0,none⟩) rs.length rs.length)).eval=#[.slice (some ⟨w1.heap.size,0,none⟩) rs.length rs.length]:=by
  rw[h1d]
  simp only[List.map_toArray,List.map_cons,List.map_nil]
  rw[eval_put (by omega)]
 have hf:(b.put x1.dst (.slice (some ⟨w1.heap.size,0,none⟩) rs.length rs.length)).eval (Operand.func 78)=.func (.func 78) #[] #[]:=rfl
 unfold Oper.wp
 simp[execOp,h2o,resolve,invoke,hf,hargs,Deferred.ofValue]
 rw[Oper.upon_enter]
 refine hc.mono ?_
 rintro e w3 ⟨rfl,hb3⟩
 refine ou h3 h3g ?_
 unfold Oper.wp execOp
 rw[h3o]
 show wpOps _ ops Q _ (Act.put _ x3.dst _) _
 rw[h1d,Q4,RN,eval_put (by simp[Act.put];omega)]
 refine hend _ _ (hS2.trans (hb3.mono hS2.size)) hbd ?_ ?_ ?_
 ·simp[Act.put,hbs]
 ·simp[Act.put,hbs,hlt.2.2]
 ·intro t ht
  have n1:d1≠t:=λh=>ht x1 (by simpa using Array.mem_of_getElem? h1) (by rw[h1d,h])
  have n2:d2≠t:=λh=>ht x2 (by simpa using Array.mem_of_getElem? h2) (by rw[Q4,h])
  have n3:d3≠t:=λh=>ht x3 (by simpa using Array.mem_of_getElem? h3) (by rw[RN,h])
  rw[<-hrest t ht]
  simp[Act.put,n1,n2,n3]
def jq (w:World)(g:Nat)(ks:List Ps.Link):Prop:=∀(j:Nat) (x:Ps.Link),ks[j]? =some x->w.cell? ⟨g,j*2,none⟩=some (.int .i64 x.type)/\w.cell? ⟨g,j*2+1,none⟩=some (.string x.ref)
theorem jq.below {w w':World}{g:Nat}{ks:List Ps.Link}(h:jq w g ks)(hb:Below w.heap.size w w'):jq w' g ks:=λj x hj=>by
 obtain⟨h1,h2⟩:=h j x hj
 exact⟨(hb.cell (World.block_lt_of_cell? w _ h1)).trans h1,(hb.cell (World.block_lt_of_cell? w _ h2)).trans h2⟩
theorem OG (w:World)(ty:Int)(s r:ByteArray)(h:Nat)(hc:w.cell? ⟨h,1,none⟩=some (.string r)):
 Calls Tryz.prog 145 #[.agg #[.int .i64 ty,.string s],.pointer (some ⟨h,0,none⟩)] w λe w'=>e=.returned (.bool (s.toList==r.toList))/\Below w.heap.size w w':=by
 have hlt:=World.block_lt_of_cell? w _ hc
 have hne:¬h=w.heap.size:=by simp at hlt;omega
 have k1:(w.alloc (.cells #[.int .i64 ty,.string s] 129)).cell? ⟨h,1,none⟩=some (.string r):=((((Below.refl _ _).alloc (Nat.le_refl _) _:Below w.heap.size w _)).cell hlt).trans hc
 go_enter Tryz.func145,Tryz.ntmps145
 go_wp2_with fail
 go_ret
 exact⟨rfl,(Below.refl _ _).alloc (Nat.le_refl _) _⟩
theorem Ay (W:World)(g h cap n:Nat)(ks:List Ps.Link)(r:ByteArray)(hrow:jq W g ks)(hn:n<=ks.length)(_hc:n<=cap)(hl:n<=1000)(hr:W.cell? ⟨h,1,none⟩=some (.string r))(m:Nat)(hm:m<=n)(hlow:Hid (∀j x,j<m->ks[j]? =some x->(x.ref.toList==r.toList)=false))
 (v:Int) (hv:Hid ((m<n->(∃x,ks[m]? =some x/\(x.ref.toList==r.toList)=true)/\v=(m:Int))/\(m=n->v= -1))):
 Calls Tryz.prog 206 #[.slice (some ⟨g,0,none⟩) n cap,.func (.func 145) #[] #[.pointer (some ⟨h,0,none⟩)]] W λe W'=>e=.returned (.int .i64 v)/\Below W.heap.size W W':=by
 have eg:=enters_of Tryz.func145 (by kernel_rfl) rfl
 have HR:=Lib.hid hrow
 have HC:=Lib.hid hr
 clear hrow hr
 go_enter Tryz.func206,Tryz.ntmps206
 go_wp2_with fail
 go_loopw [5,8] (λ_ iv wr=>∃j:Nat,iv=.int .i64 j/\j<=m/\Hid (Below W.heap.size W wr)) (λ_ iv _=>2000-(RowKit.intOf iv).toNat)
 case atStart=>exact⟨0,rfl,Nat.zero_le _,Lib.hid (Below.refl _ _)⟩
 case round=>
  obtain⟨j,rfl,hj,HB⟩:=hrel
  by_cases hlt:j<n
  ·obtain⟨x,hx⟩:∃x,ks[j]? =some x:=⟨_,List.getElem?_eq_getElem (by omega)⟩
   obtain⟨y0,y1⟩:=(HR.out.below HB.out) j x hx
   have jI:(j:Int)<(n:Int):=by omega
   have m1:=OG wr x.type x.ref r h ((HB.out.cell (World.block_lt_of_cell? W _ HC.out)).trans HC.out)
   by_cases hjm:j<m
   ·have hbf:=hlow.out j _ hjm hx
    rw[hbf]at m1
    have hw1:wrap64 ((j:Int)+1)=((j+1:Nat):Int):=by unfold wrap64;omega
    clear hx hlow hv hbf
    go_wp2_with ((first|go_at_fn 145|go_at_call 145);refine m1.mono ?_;rintro e w1 ⟨rfl,hb⟩;have HB2:=Lib.hid (HB.out.trans (hb.mono HB.out.size));clear hb)
    refine⟨⟨j+1,by first|rfl|go_num,by omega,HB2⟩,by simp[RowKit.intOf]<;>omega⟩
   ·obtain rfl:j=m:=by omega
    obtain⟨⟨x0,hx0,hbt⟩,hve⟩:=hv.out.1 hlt
    rw[hx]at hx0
    cases hx0
    rw[hbt]at m1
    subst hve
    clear hx hlow hv hbt
    go_wp2_with ((first|go_at_fn 145|go_at_call 145);refine m1.mono ?_;rintro e w1 ⟨rfl,hb⟩;have HB2:=Lib.hid (HB.out.trans (hb.mono HB.out.size));clear hb)
    go_ret
    exact⟨rfl,HB2.out⟩
  ·have hje:j=n:=by omega
   have hve:=hv.out.2 (by omega)
   subst hve
   have jI:¬(j:Int)<(n:Int):=by omega
   clear hlow hv
   go_wp2_with fail
   go_ret
   exact⟨rfl,HB.out⟩
def iE (ks:List Ps.Link)(r:ByteArray):Bool:=ks.any λy=>y.ref.toList==r.toList
theorem qJ:∀(ks:List Ps.Link) (r:ByteArray),∃m,m<=ks.length/\(∀(j:Nat) (x:Ps.Link),j<m->ks[j]? =some x->(x.ref.toList==r.toList)=false)/\((m<ks.length/\(∃x,ks[m]? =some x/\(x.ref.toList==r.toList)=true)/\iE ks r=true)\/(m=ks.length/\iE ks r=false))
 |[],r=>⟨0,Nat.le_refl _,λj x h=>by omega,.inr ⟨rfl,rfl⟩⟩
 |y::ks,r=>by
  cases hb:(y.ref.toList==r.toList)with
  |true=>exact⟨0,Nat.zero_le _,λj x h=>by omega,.inl ⟨by simp,⟨y,rfl,hb⟩,by unfold iE;rw[List.any_cons,hb];rfl⟩⟩
  |false=>
   obtain⟨m,h1,h2,h3⟩:=qJ ks r
   have he:iE (y::ks) r=iE ks r:=by unfold iE;rw[List.any_cons,hb];rfl
   refine⟨m+1,by simpa using h1,λj x hj hx=>?_,?_⟩
   ·cases j with
    |zero=>simp at hx;rw[<-hx];exact hb
    |succ j=>exact h2 j x (by omega) (by simpa using hx)
   ·rw[he]
    rcases h3 with⟨h4,⟨x,h5,h6⟩,h7⟩|⟨h4,h5⟩
    ·exact .inl ⟨by simpa using h4,⟨x,by simpa using h5,h6⟩,h7⟩
    ·exact .inr ⟨by simpa using h4,h5⟩
theorem o8 (W:World)(a b:Value)(v:Int)(c:Bool)(hc:decide (0<=v)=c)
 (n1:Calls Tryz.prog 206 #[a,b] W λe W'=>e=.returned (.int .i64 v)/\Below W.heap.size W W'):
 Calls Tryz.prog 144 #[a,b] W λe W'=>e=.returned (.bool c)/\Below W.heap.size W W':=by
 go_enter Tryz.func144,Tryz.ntmps144
 go_wp2_with fail
 refine n1.mono ?_
 rintro e w ⟨rfl,hb⟩
 have HB:=Lib.hid hb
 clear n1 hb
 go_wp2_with fail
 go_ret
 exact⟨by simp[<-hc],HB.out⟩
theorem Aw (W:World)(g h cap:Nat)(ks:List Ps.Link)(r:ByteArray)(k:Nat)(hrow:jq W g ks)(hk:k<=ks.length)(hc:k<=cap)(hl:k<=1000)(hr:W.cell? ⟨h,1,none⟩=some (.string r)):
 Calls Tryz.prog 144 #[.slice (some ⟨g,0,none⟩) k cap,.func (.func 145) #[] #[.pointer (some ⟨h,0,none⟩)]] W λe W'=>e=.returned (.bool (iE (ks.take k) r))/\Below W.heap.size W W':=by
 obtain⟨m,h1,h2,h3⟩:=qJ (ks.take k) r
 have hlen:(ks.take k).length=k:=by rw[List.length_take];omega
 rw[hlen]at h1 h3
 have hlow:∀j x,j<m->ks[j]? =some x->(x.ref.toList==r.toList)=false:=λj x hj hx=>h2 j x hj (by rw[List.getElem?_take,if_pos (by omega)];exact hx)
 rcases h3 with⟨h4,⟨x,h5,h6⟩,h7⟩|⟨h4,h5⟩
 ·rw[h7]
  have h5':ks[m]? =some x:=by rw[List.getElem?_take,if_pos h4]at h5;exact h5
  exact o8 W _ _ (m:Int) true (by simp) (Ay W g h cap k ks r hrow hk hc hl hr m h1 (Lib.hid hlow) m (Lib.hid ⟨λ_=>⟨⟨x,h5',h6⟩,rfl⟩,λh=>by omega⟩))
 ·rw[h5]
  exact o8 W _ _ (-1) false (by decide) (Ay W g h cap k ks r hrow hk hc hl hr m h1 (Lib.hid hlow) (-1) (Lib.hid ⟨λh=>by omega,λ_=>rfl⟩))
theorem vK (cl:List (Nat×(Int->Bool)))(hcl:Kv cl)(g cap:Nat)(a:Int)(s:ByteArray)(w:World)(hn:cl.length<=1024)(_ha0:0<=a)(_ha1:a<=64)
 (hc:∀(k:Nat) x,cl[k]? =some x->w.cell? ⟨g,k,none⟩=some (.func (.func x.1) #[] #[])):
 Calls Tryz.prog 204 #[.slice (some ⟨g,0,none⟩) cl.length cap,.int .i64 a,.string s] w λe w'=>(∃t:Int,e=.returned (.tuple #[.int .i64 t,.int .i64 (bR (cl.map (·.2)) a s)]))/\w=w':=by
 have HC:=Lib.hid hc
 have HT:=Lib.hid hcl
 clear hc hcl
 have hb:=PlainAid.get_bt s
 go_enter Tryz.func204,Tryz.ntmps204
 go_wp2_with fail
 go_loop [12] (λi=>∃k:Nat,k<=cl.length/\i=.int .i64 k/\∀j,j<k->kR (cl.map (·.2)) s j=false) (λi=>cl.length-(RowKit.intOf i).toNat)
 case atStart=>exact⟨0,Nat.zero_le _,rfl,λj hj=>by omega⟩
 case round=>
  obtain⟨k,hk,rfl,l9⟩:=hrel
  have HP:=Lib.hid l9
  clear l9
  by_cases hlt:k<cl.length
  ·have hget:cl[k]? =some cl[k]:=List.getElem?_eq_getElem hlt
   have hcell:=HC.out k _ hget
   obtain⟨eg,hp⟩:=HT.out cl[k] (List.getElem_mem hlt)
   have HBAD:Hid (kR (cl.map (·.2)) s k=(decide (k<s.size)&&!(cl[k].2 (PlainAid.bt s k)))):=by
    show _=_
    unfold kR
    rw[List.getD_eq_getElem?_getD,List.getElem?_map,hget]
    rfl
   clear hget
   generalize cl[k]=x at *
   obtain⟨f,p⟩:=x
   simp only at hcell eg hp HBAD
   by_cases hks:k<s.size
   ·have hcall:=λW=>hp (PlainAid.bt s k) W (PlainAid.bt_nonneg s k) (by have:=PlainAid.bt_le s k;omega)
    clear hp
    cases hq:p (PlainAid.bt s k)with
    |true=>
     rw[hq]at hcall HBAD
     clear hq
     go_wp2_with (go_at_fn f;refine(hcall _).mono ?_;rintro e w' ⟨rfl,rfl⟩)
     go_round
     case rel=>
      refine⟨k+1,by omega,by go_num,λj hj=>?_⟩
      by_cases e:j=k
      ·subst e;rw[HBAD.out];simp
      ·exact HP.out j (by omega)
     case measure=>simp[RowKit.intOf];omega
    |false=>
     rw[hq]at hcall HBAD
     clear hq
     go_wp2_with (go_at_fn f;refine(hcall _).mono ?_;rintro e w' ⟨rfl,rfl⟩)
     go_ret2
     have h3:bR (cl.map (·.2)) a s=3:=by
      unfold bR
      rw[if_pos]
      rw[List.any_eq_true]
      exact⟨k,by simpa using hlt,by rw[HBAD.out];simpa using hks⟩
     rw[h3]
     exact⟨⟨_,rfl⟩,rfl⟩
   ·clear hp
    go_wp2_with fail
    go_round
    case rel=>
     refine⟨k+1,by omega,by go_num,λj hj=>?_⟩
     by_cases e:j=k
     ·subst e;rw[HBAD.out];simp[hks]
     ·exact HP.out j (by omega)
    case measure=>simp[RowKit.intOf];omega
  ·obtain rfl:k=cl.length:=by omega
   have HF:Hid (bR (cl.map (·.2)) a s=if (s.size:Int)<a then 4 else if cl.length<s.size then 5 else 0):=by
    show _=_
    unfold bR
    rw[if_neg]
    ·simp
    ·rw[List.any_eq_true]
     rintro⟨j,hj,hj2⟩
     rw[HP.out j (by simpa using hj)]at hj2
     exact absurd hj2 (by simp)
   clear hb
   by_cases h4:(s.size:Int)<a
   ·go_wp2_with fail
    go_ret2
    rw[HF.out,if_pos h4]
    exact⟨⟨_,rfl⟩,rfl⟩
   ·by_cases h5:cl.length<s.size
    ·go_wp2_with fail
     go_ret2
     rw[HF.out,if_neg (by omega),if_pos h5]
     exact⟨⟨_,rfl⟩,rfl⟩
    ·go_wp2_with fail
     go_ret2
     rw[HF.out,if_neg (by omega),if_neg (by omega)]
     exact⟨⟨_,rfl⟩,rfl⟩
theorem nY (k:Nat)(hk:k<4)(hnil:(aL k).chk=.nilFunc)(s:ByteArray)(w:World)(h:jd w):
 Calls Tryz.prog 137 #[.int .i64 k,.string s] w λe w'=>(∃t:Int,e=.returned (.tuple #[.int .i64 t,.int .i64 (ag k s)]))/\Below w.heap.size w w':=by
 obtain⟨sb,so,sc,c0,c1,c2,c3,hsp⟩:=h k hk
 rw[hnil]at c3
 obtain⟨hl1,hl2⟩:=mJ k
 have hk4:(k:Int)<4:=by omega
 have htot:(bJ (aL k).sp).length<=20:=by rw[gu k hk,List.length_map];exact eH k
 have HCL:=Lib.hid (λ(a b:Int) (chk:Value) (W:World) (hW:cZ W sb so (aL k).sp)=>kL a b chk sb so sc (aL k).sp W hW (by omega) (by omega) (λx hx=>by have:=hl2 x hx;omega))
 have HPF:=Lib.hid (λ(g cap:Nat) (W:World) (hW:∀(j:Nat) x,(bB k)[j]? =some x->W.cell? ⟨g,j,none⟩=some (.func (.func x.1) #[] #[]))=>
  vK (bB k) (mW k) g cap (aL k).low s W (by have:=eH k;omega) (lH k).1 (by have:=(lH k).2;omega) hW)
 have HSP:Hid (∀o,cZ (w.alloc o) sb so (aL k).sp):=Lib.hid λo=>hsp.below ((Below.refl _ w).alloc (Nat.le_refl _) o)
 have HFM:=Lib.hid (λ(W:World) (v:Value) (B:Nat)=>uM (W:=W) (B:=B) (v:=v) hk)
 have Dk:Hid (ag k s=bR ((bB k).map (·.2)) (aL k).low s):=rfl
 clear hsp hnil hl1 hl2 htot h
 generalize (aL k).low=low at *
 generalize (aL k).body=body at *
 generalize (aL k).sp=sp at *
 go_enter Tryz.func137,Tryz.ntmps137
 go_wp2_with fail
 go_region_held3 (λw'=>w'.cell? ⟨w.heap.size,0,none⟩=some (.int .i64 low)/\w'.cell? ⟨w.heap.size,1,none⟩=some (.slice (some ⟨sb,so,none⟩) sp.length sc)/\w'.cell? ⟨w.heap.size,2,none⟩=some (.int .i64 body)/\w'.cell? ⟨w.heap.size,3,none⟩=some .nilFunc)
  (go_keep)
  (first
   |(go_at_call 205;refine(HCL.out _ _ _ _ ?_).mono ?_;(exact HSP.out _);rintro e w1 ⟨v,rfl,hown,hb1⟩;obtain⟨g,cap,rfl,hg⟩:=HFM.out _ _ _ hown;have k0:=(hb1.cell (p:=⟨w.heap.size,0,none⟩) (by simp)).trans (show _=some (Value.int .i64 low)by simp);have k1:=(hb1.cell (p:=⟨w.heap.size,1,none⟩) (by simp)).trans (show _=some (Value.slice (some ⟨sb,so,none⟩) sp.length sc)by simp);have k2:=(hb1.cell (p:=⟨w.heap.size,2,none⟩) (by simp)).trans (show _=some (Value.int .i64 body)by simp);have k3:=(hb1.cell (p:=⟨w.heap.size,3,none⟩) (by simp)).trans (show _=some Value.nilFunc by simp);have HG:=Lib.hid hg;clear hg)
   |(go_at_call 204;refine(HPF.out _ _ _ ?_).mono ?_;(exact HG.out);rintro e w2 ⟨⟨t,rfl⟩,rfl⟩))
 rw[<-Dk.out]
 obtain⟨fit,HF⟩:∃fit:Int,Hid (ag k s=fit):=⟨_,Lib.hid rfl⟩
 rw[HF.out]
 have jB:Below w.heap.size w w1:=Below.trans (((Below.refl w.heap.size w).alloc (Nat.le_refl _) _).drew) (hb1.mono (B':=w.heap.size) (by simp))
 clear hb1
 by_cases hfit:fit=0
 ·subst hfit
  go_wp2_with fail
  go_quiet (fail)
  go_wp2_with fail
  go_ret2
  exact⟨⟨_,by rw[HF.out];rfl⟩,by first|assumption|exact below_drewN' (by assumption) _⟩
 ·have hbf:(fit !=0)=true:=by simpa using hfit
  clear hfit
  go_wp2_with fail
  go_ret2
  exact⟨⟨_,by rw[HF.out];rfl⟩,jB⟩
theorem vz (k:Nat)(hk:k<4)(cf bn:Nat)(tT:(aL k).chk=.func (.func cf) #[] #[])(hbn:(aL k).body=(bn:Int))(_hbn2:bn<=64)(s:ByteArray)(w:World)(h:jd w)(R:ByteArray)(code:Int)(hcode:Hid (code=if ag k s≠0 then ag k s else if (R.toList==(s.extract bn s.size).toList)=true then 0 else 18))
 (ec:∀args w,(callFunc cf args).run Tryz.prog w=.ok (.enter cf args) w)
 (hck:ag k s=0->bn<=s.size/\∀W,Calls Tryz.prog cf #[.string (s.extract 0 bn)] W λe w'=>e=.returned (.string R)/\Below W.heap.size W w'):
 Calls Tryz.prog 137 #[.int .i64 k,.string s] w λe w'=>(∃t:Int,e=.returned (.tuple #[.int .i64 t,.int .i64 code]))/\Below w.heap.size w w':=by
 obtain⟨sb,so,sc,c0,c1,c2,c3,hsp⟩:=h k hk
 rw[tT]at c3
 rw[hbn]at c2
 obtain⟨hl1,hl2⟩:=mJ k
 have hk4:(k:Int)<4:=by omega
 have htot:(bJ (aL k).sp).length<=20:=by rw[gu k hk,List.length_map];exact eH k
 have HCL:=Lib.hid (λ(a b:Int) (chk:Value) (W:World) (hW:cZ W sb so (aL k).sp)=>kL a b chk sb so sc (aL k).sp W hW (by omega) (by omega) (λx hx=>by have:=hl2 x hx;omega))
 have HPF:=Lib.hid (λ(g cap:Nat) (W:World) (hW:∀(j:Nat) x,(bB k)[j]? =some x->W.cell? ⟨g,j,none⟩=some (.func (.func x.1) #[] #[]))=>
  vK (bB k) (mW k) g cap (aL k).low s W (by have:=eH k;omega) (lH k).1 (by have:=(lH k).2;omega) hW)
 have HSP:Hid (∀o,cZ (w.alloc o) sb so (aL k).sp):=Lib.hid λo=>hsp.below ((Below.refl _ w).alloc (Nat.le_refl _) o)
 have HFM:=Lib.hid (λ(W:World) (v:Value) (B:Nat)=>uM (W:=W) (B:=B) (v:=v) hk)
 have Dk:Hid (ag k s=bR ((bB k).map (·.2)) (aL k).low s):=rfl
 have HCK:=Lib.hid hck
 clear hsp tT hl1 hl2 htot h hck
 generalize (aL k).low=low at *
 generalize (aL k).body=body at *
 generalize (aL k).sp=sp at *
 subst hbn
 go_enter Tryz.func137,Tryz.ntmps137
 go_wp2_with fail
 go_region_held3 (λw'=>w'.cell? ⟨w.heap.size,0,none⟩=some (.int .i64 low)/\w'.cell? ⟨w.heap.size,1,none⟩=some (.slice (some ⟨sb,so,none⟩) sp.length sc)/\w'.cell? ⟨w.heap.size,2,none⟩=some (.int .i64 bn)/\w'.cell? ⟨w.heap.size,3,none⟩=some (.func (.func cf) #[] #[]))
  (go_keep)
  (first
   |(go_at_call 205;refine(HCL.out _ _ _ _ ?_).mono ?_;(exact HSP.out _);rintro e w1 ⟨v,rfl,hown,hb1⟩;obtain⟨g,cap,rfl,hg⟩:=HFM.out _ _ _ hown;have k0:=(hb1.cell (p:=⟨w.heap.size,0,none⟩) (by simp)).trans (show _=some (Value.int .i64 low)by simp);have k1:=(hb1.cell (p:=⟨w.heap.size,1,none⟩) (by simp)).trans (show _=some (Value.slice (some ⟨sb,so,none⟩) sp.length sc)by simp);have k2:=(hb1.cell (p:=⟨w.heap.size,2,none⟩) (by simp)).trans (show _=some (Value.int .i64 bn)by simp);have k3:=(hb1.cell (p:=⟨w.heap.size,3,none⟩) (by simp)).trans (show _=some (Value.func (.func cf) #[] #[])by simp);have HG:=Lib.hid hg;clear hg)
   |(go_at_call 204;refine(HPF.out _ _ _ ?_).mono ?_;(exact HG.out);rintro e w2 ⟨⟨t,rfl⟩,rfl⟩))
 rw[<-Dk.out]
 obtain⟨fit,HF⟩:∃fit:Int,Hid (ag k s=fit):=⟨_,Lib.hid rfl⟩
 rw[HF.out]
 have jB:Below w.heap.size w w1:=Below.trans (((Below.refl w.heap.size w).alloc (Nat.le_refl _) _).drew) (hb1.mono (B':=w.heap.size) (by simp))
 have hsz1:w.heap.size<w1.heap.size:=by have:=hb1.size;simp at this;omega
 clear hb1
 by_cases hfit:fit=0
 ·subst hfit
  obtain⟨hbs,hck⟩:=HCK.out HF.out
  have HCK2:=Lib.hid hck
  clear hck
  have hbs0:(bn:Int)<=(s.size:Int):=by omega
  go_wp2_with fail
  go_region_held3 (λw'=>Below w.heap.size w w'/\w.heap.size<w'.heap.size/\w'.cell? ⟨w.heap.size,2,none⟩=some (.int .i64 bn)/\w'.cell? ⟨w.heap.size,3,none⟩=some (.func (.func cf) #[] #[]))
   (first|assumption|exact Below.drew (by assumption)|(refine⟨?_,?_,?_,?_⟩<;>first|assumption|exact Below.drew (by assumption)|go_keep)|go_keep)
   (first
    |(go_at_fn cf;refine(HCK2.out _).mono ?_;rintro e w3 ⟨rfl,hb3⟩;have Fw:=yY (by assumption) hb3))
  obtain⟨hb4,hsz4,k4,k5⟩:=Fw
  clear hb3
  generalize hq:(R.toList==(s.extract bn s.size).toList)=q
  have HQ:Hid (code=if q=true then 0 else 18):=Lib.hid (by rw[hcode.out,HF.out,if_neg (by simp),hq])
  clear hq
  cases q with
  |true=>
   go_wp2_with fail
   go_ret2
   rw[HQ.out]
   exact⟨⟨_,rfl⟩,hb4⟩
  |false=>
   go_wp2_with fail
   go_ret2
   rw[HQ.out]
   exact⟨⟨_,rfl⟩,hb4⟩
 ·have hbf:(fit !=0)=true:=by simpa using hfit
  have HNE:=Lib.hid hfit
  clear hfit
  go_wp2_with fail
  go_ret2
  rw[hcode.out,HF.out,if_pos HNE.out]
  exact⟨⟨_,rfl⟩,jB⟩
theorem EE (k:Nat)(hk:k<3)(s:ByteArray)(w:World)(h:jd w):
 Calls Tryz.prog 137 #[.int .i64 k,.string s] w λe w'=>(∃t:Int,e=.returned (.tuple #[.int .i64 t,.int .i64 (aP k s)]))/\Below w.heap.size w w':=by
 match k,hk with
 |0,_=>
  refine vz 0 (by decide) 343 11 rfl rfl (by omega) s w h ⟨(Id.ET (s.data.toList.take 11)).toArray⟩ (aP 0 s) (Lib.hid ?_) (enters_of Tryz.func343 (by kernel_rfl) rfl) (λh0=>⟨?_,λW=>(Gw _ W ?_ (jT 0 (Or.inl rfl) s 11 h0)).mono ?_⟩)
  ·unfold aP
   rw[toList_mk,wz]
   simp only[if_pos,beq_iff_eq]
  ·have:=(eP 0 s h0).1
   simp[aL]at this;omega
  ·simp[ByteArray.size_extract];omega
  ·rintro e w' ⟨rfl,hb⟩
   rw[extract_upto]
   exact⟨rfl,hb⟩
 |1,_=>
  have e1:aP 1 s=ag 1 s:=by unfold aP;split<;>simp_all
  rw[e1]
  exact nY 1 (by decide) rfl s w h
 |2,_=>
  have e1:aP 2 s=ag 2 s:=by unfold aP;split<;>simp_all
  rw[e1]
  exact nY 2 (by decide) rfl s w h
theorem EN (k:Nat)(hk:k<3)(s:ByteArray)(w:World)(h:jd w):
 Calls Tryz.prog 80 #[.int .i64 k,.string s] w λe w'=>e=.returned (.bool (aP k s==0))/\Below w.heap.size w w':=
 vL k s w _ _ rfl (EE k hk s w h)
end Go.Proofs.YtnjjeapcalkmaaaGreatDoor
namespace Go.Proofs.YtnjjeapcalkmaaaGreatDoor.Ev
open Go Go.RowKit Go.Proofs.YtnjjeapcalkmaaaGreatDoor Go.Proofs.YtnjjeapcalkmaaaGreatDoor.Ord
variable {σ : Type}
def wm (rs:List (Ent σ)):List (Nat×Operand)->Option (List (Nat×AV))
 |[]=>some []
 |(i,.tmp t)::l=>match find t rs 0,wm rs l with
  |some (_,e),some vs=>(match e.cond with
   |none=>some ((i,e.val)::vs)
   |some _=>none)
  |_,_=>none
 |_=>none
theorem Ha {M:Mem σ}{ρ:Operand->Value}{full:List (Ent σ)}(hR:∀(i:Nat) (e:Ent σ) (d:Nat),full[i]? =some e->e.dst=some d->ρ (.tmp d)=e.value M):∀{l:List (Nat×Operand)} {vs:List (Nat×AV)},wm full l=some vs->l.map (λp=>(p.1,ρ p.2))=vs.map λp=>(p.1,p.2.val M):=by
 intro l
 induction l with
 |nil=>intro vs h;cases h;rfl
 |cons p l ih=>
  obtain⟨i,x⟩:=p
  intro vs h
  cases x with
  |tmp t=>
   unfold wm at h
   split at h
   ·rename_i j e v2 h1 h2
    split at h
    ·rename_i hc
     cases h
     obtain⟨-,k1,k2⟩:=gU h1
     rw[List.map_cons,List.map_cons,ih h2,hR _ _ _ k1 k2]
     unfold Ent.value
     rw[hc]
    ·cases h
   ·cases h
  |_=>cases h
theorem MG (ρ:Operand->Value)(x y:Operand)(b:Bool)(n:Int)(hx:ρ x=.bool b)(hy:ρ y=.int .i64 n)(w:World):(Instr.build 128 (#[(0,x),(1,y)].map λ(i,x)=>(i,ρ x))).run Tryz.prog w=.ok (.agg #[.bool b,.int .i64 n]) w:=by
 simp only[List.map_toArray,List.map_cons,List.map_nil,hx,hy]
 go_simp
def qC (M:AV->Value)(o:Oper)(ov:Operand->Option AV):Option AV:=match o.op with
 | .build t ps=>if t=128 then(match ps.toList with
   |[(0,x),(1,y)]=>(match ov x,ov y with
    |some a,some c=>(match M a,M c with
     | .bool b,.int .i64 n=>some (.v (.agg #[.bool b,.int .i64 n]))
     |_,_=>none)
    |_,_=>none)
   |_=>none)else none
 |_=>none
theorem oO {M:AV->Value}{o:Oper}{ov:Operand->Option AV}{v:AV}(h:qC M o ov=some v){ρ:Operand->Value}(hov:∀x u,ov x=some u->ρ x=M u)(hM:∀x,M (.v x)=x)(w:World):(execOp ρ o).run Tryz.prog w=.ok (.value (M v)) w:=by
 unfold qC at h
 split at h
 ·rename_i t ps ho
  split at h
  ·rename_i ht
   subst ht
   split at h
   ·rename_i x y hps
    split at h
    ·rename_i a c ha hc
     split at h
     ·rename_i b n hb hn
      cases h
      have hps2:ps=#[(0,x),(1,y)]:=by rw[<-Array.toArray_toList (xs:=ps),hps]
      subst hps2
      have:=MG ρ x y b n ((hov _ _ ha).trans hb) ((hov _ _ hc).trans hn) w
      unfold execOp
      simp only[ho,Sem.run_bind,this,Result.andThen_ok,hM]
      rfl
     ·cases h
    ·cases h
   ·cases h
  ·cases h
 ·cases h
theorem Co (W:World)(rs:List (Bool×Int))(P:Array (Nat×Value))(h24:¬(rs.length*2>2^24))(hne:¬(rs.length*2=0))(jL:Instr.fill (λi=>some (i*2,2)) ((Array.range (rs.length*2)).map (λx=>([.bool false,.int .i64 0]:List Value)[x%2]?.getD default)) P.toList=some (cO rs).toArray):
 (Instr.buildSlice 172 rs.length P).run Tryz.prog W=.ok (.slice (some ⟨W.heap.size,0,none⟩) rs.length rs.length) (W.alloc (.cells (cO rs).toArray 128)):=by
 unfold Instr.buildSlice
 go_simp
def uH (m n:Nat)(ops:Array Oper):Bool:=fO ops&&Region.noSelect ops&&bU ops m&&rQ ops n&&ops.size==n+3
def l7 (ops:Array Oper)(n:Nat):Option (Nat×List (Nat×Operand)×Nat×Nat×Nat):=match (ops.toList.drop n)with
 |[⟨some d1,.buildSlice t k ps,_,_,_,none⟩,⟨some d2,.call ⟨.value (.func f),xs,_⟩,_,_,_,none⟩,⟨some d3,.assign (.tmp e2),_,_,_,none⟩]=>if t=172/\f=78/\e2=d2/\xs.toList.length=1 then(match xs.toList with
    |[.tmp e1]=>if e1=d1 then some (k,ps.toList,d1,d2,d3)else none
    |_=>none)else none
 |_=>none
theorem I8 {dr:Bool}{W0 w:World}{id m n:Nat}{ops:Array Oper}{M:Mem Unit}{K:List (Nat×AV)}{full:List (Ent Unit)}{a:Act}{Q:Exit->Act->World->Prop}{k d1 d2 d3:Nat}{ps:List (Nat×Operand)}{pv:List (Nat×AV)}(rs:List (Bool×Int))(hO:Ok Tryz.prog (λ_ W=>Below W0.heap.size W0 W) M)(hok:uH m n ops=true)(hrun:run M (keep K ops) [] () (ops.toList.take n)=some full)(hturn:full.all (λe=>!e.turn)=true)(hF:Fr M m K a)(hS:Below W0.heap.size W0 w)
 (hr0:0<rs.length) (hrs:rs.length<=1000) (he:l7 ops n=some (k,ps,d1,d2,d3)) (hp:wm full ps=some pv) (hk:k=rs.length) (jL:Instr.fill (λi=>some (i*2,2)) ((Array.range (k*2)).map (λx=>([.bool false,.int .i64 0]:List Value)[x%2]?.getD default)) (pv.map λp=>(p.1,p.2.val M))=some (cO rs).toArray)
 (hend:∀(b:Act) (w':World),Below W0.heap.size W0 w'->Fr M m ((d3,.v (.int .i64 (aV rs)))::keep K ops) b->Q .normal b w'):(Code.region id ops dr).wp Tryz.prog Q a w:=by
 unfold uH at hok
 simp only[Bool.and_eq_true,beq_iff_eq]at hok
 obtain⟨⟨⟨⟨hd,hs⟩,hb⟩,ht⟩,hsz⟩:=hok
 obtain⟨tl,e1,e2⟩:=dL hrun
 have hI:=uP uN hrun
 have hlen:full.length=n:=by rw[e1];simp[e2];omega
 unfold l7 at he
 split at he
 ·rename_i d1' t k' ps' _ _ _ d2' f xs _ _ _ _ d3' e2' _ _ _ hdrop
  split at he
  ·rename_i hc
   obtain⟨rfl,rfl,rfl,-⟩:=hc
   split at he
   ·rename_i e1' hxs
    split at he
    ·rename_i hc1
     subst hc1
     cases he
     have hxs2:xs=#[.tmp d1]:=by rw[<-Array.toArray_toList (xs:=xs),hxs]
     subst hxs2
     have g1:∀i,ops[n+i]? =(ops.toList.drop n)[i]?:=λi=>by simp
     have h1:=g1 0
     have h2:=g1 1
     have h3:=g1 2
     rw[hdrop]at h1 h2 h3
     have hlt:∀(i:Nat) (o:Oper) (d:Nat),ops[i]? =some o->o.dst=some d->d<a.tmps.size:=λi o d ho hod=>by
      simp only[bU,Bool.and_eq_true]at hb
      have:=List.all_eq_true.1 hb.1 o (by simpa using Array.mem_of_getElem? ho)
      rw[hod]at this
      rw[hF.size]
      simpa using this
     refine LB (W0:=W0) n (full.map (Ent.value M)) (by rw[List.length_map,hlen]) hd hs (by rw[hF.size];exact hb) ht hS ?_ rs hrs hsz (by simpa using h1) rfl rfl rfl h2 rfl rfl rfl h3 rfl rfl rfl ⟨hlt _ _ _ h1 rfl,hlt _ _ _ h2 rfl,hlt _ _ _ h3 rfl⟩ 128 ?_ ?_
     ·intro ρ hD hrest hco hfu
      have:=Mm hO (Dp hF hrun hD hrest hco hfu) hI (λe he=>by have:=List.all_eq_true.1 hturn e he;simpa using this) () hrun
      simpa using this
     ·intro ρ hD W
      have hparts:(ps'.map λ(i,x)=>(i,ρ x)).toList=pv.map λp=>(p.1,p.2.val M):=by
       rw[<-Ha (M:=M) (ρ:=ρ) (full:=full) (λi e d hi hd=>by
        have hil:i<(ops.toList.take n).length:=by
         have h7:=(List.getElem?_eq_some_iff.1 hi).1
         rw[e1]at h7
         simp only[List.nil_append,e2]at h7
         exact h7
        obtain⟨o,ho⟩:∃o,(ops.toList.take n)[i]? =some o:=⟨_,List.getElem?_eq_getElem hil⟩
        obtain⟨e5,k1,k2⟩:=uR hrun i o ho
        have:e5=e:=by
         have k3:full[i]? =some e5:=by simpa using k1
         exact Option.some.inj (k3.symm.trans hi)
        subst this
        exact dG.tmp i o (e5.value M) d hD ho (by rw[List.getElem?_map,hi];rfl) (k2.symm.trans hd)) hp]
       rw[Array.toList_map]
      rw[<-hparts]at jL
      generalize (ps'.map λ(i,x)=>(i,ρ x))=P at jL⊢
      clear hend hD hparts hp
      rw[hk]at jL⊢
      have h24:¬(rs.length*2>2^24):=by rw[show(2:Nat)^24=16777216 from by decide];omega
      have hne:¬(rs.length*2=0):=by omega
      exact Co W rs P h24 hne jL
     ·intro b w' hB hbd hbs h3 hrest
      exact hend b w' hB ⟨hbs.trans hF.size,hbd.trans hF.defers,λt u hl=>by
       unfold Ev.look at hl
       split at hl
       ·rename_i e;subst e;cases hl;exact h3
       ·obtain⟨j1,j2⟩:=gQ hl
        rw[hrest t j2]
        exact hF.look t u j1⟩
    ·cases he
   ·cases he
  ·cases he
 ·cases he
def Dh (M:Mem Unit)(K:List (Nat×AV))(n:Nat)(ops:Array Oper):Option (Array Value):=match run M K [] () (ops.toList.take n),l7 ops n with
 |some full,some (k,ps,_)=>if full.all (λe=>!e.turn)=true then(match wm full ps with
  |some pv=>Instr.fill (λi=>some (i*2,2)) ((Array.range (k*2)).map (λx=>([.bool false,.int .i64 0]:List Value)[x%2]?.getD default)) (pv.map λp=>(p.1,p.2.val M))
  |none=>none)else none
 |_,_=>none
theorem mf {dr:Bool}{W0 w:World}{id m:Nat}{ops:Array Oper}{M:Mem Unit}{K:List (Nat×AV)}{a:Act}{Q:Exit->Act->World->Prop}(n d3:Nat)(rs:List (Bool×Int))(hO:Ok Tryz.prog (λ_ W=>Below W0.heap.size W0 W) M)(hok:uH m n ops=true)(hF:Fr M m K a)(hS:Below W0.heap.size W0 w)
 (hr0:0<rs.length) (hrs:rs.length<=1000) (hk:(l7 ops n).map (λe=>(e.1,e.2.2.2.2))=some (rs.length,d3)) (jL:Dh M (keep K ops) n ops=some (cO rs).toArray)
 (hend:∀(b:Act) (w':World),Below W0.heap.size W0 w'->Fr M m ((d3,.v (.int .i64 (aV rs)))::keep K ops) b->Q .normal b w'):(Code.region id ops dr).wp Tryz.prog Q a w:=by
 unfold Dh at jL
 split at jL
 ·rename_i full k ps dd hrun he
  obtain⟨d1,d2,d3'⟩:=dd
  split at jL
  ·rename_i ht
   split at jL
   ·rename_i pv hp
    rw[he]at hk
    have hk2:(k,d3')=(rs.length,d3):=by simpa using hk
    obtain⟨rfl,rfl⟩:=Prod.mk.inj hk2
    exact I8 rs hO hok hrun ht hF hS hr0 hrs he hp rfl jL hend
   ·cases jL
  ·cases jL
 ·cases jL
def uI:List Value->Option (List (Bool×Int))
 |[]=>some []
 | .bool b::.int .i64 n::l=>(match uI l with
   |some rs=>some ((b,n)::rs)
   |none=>none)
 |_=>none
theorem vE:∀{l:List Value} {rs:List (Bool×Int)},uI l=some rs->l=cO rs
 |[],rs,h=>by cases h;rfl
 | .bool b::.int .i64 n::l,rs,h=>by
   unfold uI at h
   split at h
   ·rename_i rs2 h2
    cases h
    rw[vE h2]
    rfl
   ·cases h
def iM (M:Mem Unit)(s:Unit)(K:List (Nat×AV))(ops:Array Oper)(_dr:Bool):Option (Unit×List (Nat×AV)):=if rQ ops (ops.size-3)=true/\3<=ops.size then(match Dh M (keep K ops) (ops.size-3) ops,l7 ops (ops.size-3)with
    |some c,some (k,_,_,_,d3)=>(match uI c.toList with
     |some rs=>if k=rs.length/\0<k/\k<=1000 then some (s,[(d3,.v (.int .i64 (aV rs)))])else none
     |none=>none)
    |_,_=>none)else none
theorem FB {W0:World}{M:Mem Unit}(hO:Ok Tryz.prog (λ_ W=>Below W0.heap.size W0 W) M):sj (λ_ W=>Below W0.heap.size W0 W) {M with reg:=iM M}:=by
 intro s K ops dr s' nw h n id a w Q hok hF hS hend
 have h2:iM M s K ops dr=some (s',nw):=h
 unfold iM at h2
 split at h2
 ·rename_i ht
  split at h2
  ·rename_i c k ps d1 d2 d3 hf he
   split at h2
   ·rename_i rs hrs
    split at h2
    ·rename_i hk
     obtain⟨rfl,hk2,hk3⟩:=hk
     cases h2
     unfold gI at hok
     simp only[Bool.and_eq_true]at hok
     refine mf (W0:=W0) (M:=M) (m:=n) (ops.size-3) d3 rs hO (by unfold uH;simp only[Bool.and_eq_true,beq_iff_eq];exact⟨⟨⟨hok.1,hok.2⟩,ht.1⟩,by omega⟩) ⟨hF.size,hF.defers,hF.look⟩ hS hk2 hk3 (by rw[he];rfl) (by rw[hf,<-vE hrs]) λb w' hB hb=>hend b w' ⟨hb.size,hb.defers,hb.look⟩ hB
    ·cases h2
   ·cases h2
  ·cases h2
 ·cases h2
theorem Kr {W0:World}{M:Mem Unit}{n:Nat}{code:Code}{K:List (Nat×AV)}{v:Int}{Q:Exit->Act->World->Prop}{a:Act}{w:World}(r:Nat)(hO:Ok Tryz.prog (λ_ W=>Below W0.heap.size W0 W) M)(h:(ex {M with reg:=iM M} n code K ()).int {M with reg:=iM M} r 0=some v)(hl:((ex {M with reg:=iM M} n code K ()).stops [] []).map (sG [])=[])(hF:Fr M n K a)(hS:Below W0.heap.size W0 w)
 (hq:∀a w,a.defers=[]->a.tmps[r]? =some (.int .i64 v)->Below W0.heap.size W0 w->Q .ret a w):code.wp Tryz.prog Q a w:=by
 have hO2:Ok Tryz.prog (λ_ W=>Below W0.heap.size W0 W) {M with reg:=iM M}:=⟨hO.offs,hO.load,hO.store,hO.call,hO.other⟩
 refine uW (M:={M with reg:=iM M}) (s:=()) hO2 (FB hO) (λ_ _ h=>h.drew) (yT (M:={M with reg:=iM M}) (ts:=[]) (cs:=[]) (hv:=0) h (λc hc=>by cases hc) (λa w _ h1 h2 h3=>hq a w h1 h2 h3) λhe x hx hc a w hst hs=>?_) ⟨hF.size,hF.defers,hF.look⟩ hS
 have hm:sG [] x∈([]:List _):=by rw[<-hl];exact List.mem_map_of_mem hx
 cases hm
end Go.Proofs.YtnjjeapcalkmaaaGreatDoor.Ev
namespace Go.Proofs.YtnjjeapcalkmaaaGreatDoor
open Go.RowKit
open Go.Proofs.YtnjjeapcalkmaaaGreatDoor.Ord
def jV (w:World)(g:Nat)(i:Ps.Ins)(lv:Value):Prop:=w.heap[g]? =some (.cells (aB i lv).toArray 34 (0,0))
theorem jV.at {w:World}{g:Nat}{i:Ps.Ins}{lv:Value}(h:jV w g i lv)(j:Nat)(v:Value)(hj:(aB i lv)[j]? =some v):w.cell? ⟨g,j,none⟩=some v:=by
 rw[cell_of_row _ _ _ _ _ _ h,List.getElem?_toArray,hj]
theorem jV.below {w w':World}{g:Nat}{i:Ps.Ins}{lv:Value}(h:jV w g i lv)(hb:Below w.heap.size w w'):jV w' g i lv:=(hb.block g (Array.getElem?_eq_some_iff.1 h).1).trans h
theorem kH (w:World)(i:Ps.Ins)(lv:Value):jV (w.alloc (.cells (aB i lv).toArray 34)) w.heap.size i lv:=aD w _
theorem is_col (w:World)(i:Ps.Ins)(lv:Value)(c1 c2:Bool)(h1:(i.kind==3)=c1)(h2:(i.kind==4)=c2):
 Calls Tryz.prog 138 #[.agg (aB i lv).toArray] w λe w'=>e=.returned (.bool (c1||c2))/\Below w.heap.size w w':=by
 go_enter Tryz.func138,Tryz.ntmps138
 go_upto_region 1 with fail
 obtain⟨W1,hW1⟩:∃W1,W1=w.alloc (.cells (aB i lv).toArray 34):=⟨_,rfl⟩
 have hrow:jV W1 w.heap.size i lv:=by rw[hW1];exact kH w i lv
 have HB:Hid (Below w.heap.size w W1):=Lib.hid (by rw[hW1];exact(Below.refl _ _).alloc (Nat.le_refl _) _)
 rw[<-hW1]
 clear hW1
 obtain⟨g,hg⟩:∃g,g=w.heap.size:=⟨_,rfl⟩
 rw[<-hg]at hrow⊢
 clear hg
 have k1:=hrow.at 1 _ rfl
 clear hrow
 cases c1
 all_goals cases c2
 all_goals
  go_wp2_with fail
  go_ret
  exact⟨rfl,HB.out⟩
theorem is_sec (w:World)(i:Ps.Ins)(lv:Value)(c1 c2:Bool)(h1:(i.kind==1)=c1)(h2:(i.kind==2)=c2):
 Calls Tryz.prog 139 #[.agg (aB i lv).toArray] w λe w'=>e=.returned (.bool (c1||c2))/\Below w.heap.size w w':=by
 go_enter Tryz.func139,Tryz.ntmps139
 go_upto_region 1 with fail
 obtain⟨W1,hW1⟩:∃W1,W1=w.alloc (.cells (aB i lv).toArray 34):=⟨_,rfl⟩
 have hrow:jV W1 w.heap.size i lv:=by rw[hW1];exact kH w i lv
 have HB:Hid (Below w.heap.size w W1):=Lib.hid (by rw[hW1];exact(Below.refl _ _).alloc (Nat.le_refl _) _)
 rw[<-hW1]
 clear hW1
 obtain⟨g,hg⟩:∃g,g=w.heap.size:=⟨_,rfl⟩
 rw[<-hg]at hrow⊢
 clear hg
 have k1:=hrow.at 1 _ rfl
 clear hrow
 cases c1
 all_goals cases c2
 all_goals
  go_wp2_with fail
  go_ret
  exact⟨rfl,HB.out⟩
theorem O8 (w:World)(i:Ps.Ins)(lv:Value)(c1:Bool)(h1:i.partial_=c1):
 Calls Tryz.prog 143 #[.agg (aB i lv).toArray] w λe w'=>e=.returned (.int .i64 (if c1=true then i.quantity else 0))/\Below w.heap.size w w':=by
 go_enter Tryz.func143,Tryz.ntmps143
 go_upto_region 1 with fail
 obtain⟨W1,hW1⟩:∃W1,W1=w.alloc (.cells (aB i lv).toArray 34):=⟨_,rfl⟩
 have hrow:jV W1 w.heap.size i lv:=by rw[hW1];exact kH w i lv
 have HB:Hid (Below w.heap.size w W1):=Lib.hid (by rw[hW1];exact(Below.refl _ _).alloc (Nat.le_refl _) _)
 rw[<-hW1]
 clear hW1
 obtain⟨g,hg⟩:∃g,g=w.heap.size:=⟨_,rfl⟩
 rw[<-hg]at hrow⊢
 clear hg
 have k6:=hrow.at 6 _ rfl
 have k11:=hrow.at 11 _ rfl
 clear hrow
 cases c1
 all_goals
  go_wp2_with fail
  go_ret
  exact⟨rfl,HB.out⟩
theorem M9 (w:World)(i:Ps.Ins)(lv:Value)(c1 c2 v:Bool)(h1:(i.kind==0)=c1)(h2:(i.asset.toList==[67,65,83,72])=c2)(n1:∀w',Below w.heap.size w w'->Calls Tryz.prog 80 #[.int .i64 0,.string i.asset] w' λe w''=>e=.returned (.bool v)/\Below w'.heap.size w' w''):
 Calls Tryz.prog 140 #[.agg (aB i lv).toArray] w λe w'=>e=.returned (.bool (if c1=true then c2 else v))/\Below w.heap.size w w':=by
 go_enter Tryz.func140,Tryz.ntmps140
 go_upto_region 1 with fail
 obtain⟨W1,hW1⟩:∃W1,W1=w.alloc (.cells (aB i lv).toArray 34):=⟨_,rfl⟩
 have hrow:jV W1 w.heap.size i lv:=by rw[hW1];exact kH w i lv
 have HB:Hid (Below w.heap.size w W1):=Lib.hid (by rw[hW1];exact(Below.refl _ _).alloc (Nat.le_refl _) _)
 rw[<-hW1]
 clear hW1
 have m1:=n1 W1 HB.out
 clear n1
 obtain⟨g,hg⟩:∃g,g=w.heap.size:=⟨_,rfl⟩
 rw[<-hg]at hrow⊢
 clear hg
 have k1:=hrow.at 1 _ rfl
 have k5:=hrow.at 5 _ rfl
 clear hrow
 cases c1
 ·go_wp2_with ((first|go_at_fn 80|go_at_call 80);refine m1.mono ?_;rintro e w2 ⟨rfl,hb⟩;have HB2:=Lib.hid (HB.out.trans (hb.mono HB.out.size));clear hb m1)
  go_ret
  exact⟨rfl,HB2.out⟩
 ·clear m1
  go_wp2_with fail
  go_ret
  exact⟨by simp,HB.out⟩
theorem Ke (w:World)(n:Int)(u c:Bool)(h:(n==0)=c):
 Calls Tryz.prog 141 #[.int .i64 n,.bool u] w λe w'=>e=.returned (.bool (if u=true then inB n 1 1000000000000000 else c))/\Below w.heap.size w w':=by
 have m1:=sH w n 1 1000000000000000
 go_enter Tryz.func141,Tryz.ntmps141
 cases u
 ·clear m1
  go_wp2_with fail
  go_ret
  exact⟨by simp,Below.refl _ _⟩
 ·go_wp2_with ((first|go_at_fn 142|go_at_call 142);refine m1.mono ?_;rintro e w2 ⟨rfl,rfl⟩;clear m1)
  go_ret
  exact⟨rfl,Below.refl _ _⟩
def zt (n:Int)(u:Bool):Bool:=if u=true then inB n 1 1000000000000000 else(n==0)
def ll (A:Ps.Amd):List (Bool×Int):=[(((((!A.hasAmount)&&(!A.hasSettleDay))&&(!A.hasPriority))&&(!A.hasPartial)),3),((((((!A.hasAmount)&&(A.amount !=0))||((!A.hasSettleDay)&&(A.settleDay !=0)))||((!A.hasPriority)&&(A.priority !=0)))||((!A.hasPartial)&&(A.partial_||(A.minLot !=0)))),3),((!(zt A.amount A.hasAmount)),2),((!(inB A.settleDay 0 73048)),28),((!(inB A.priority 0 2)),2),((!(zt A.minLot A.partial_)),2)]
open Go.Proofs.YtnjjeapcalkmaaaGreatDoor.Ev (AV Mem Fr om bE iL)
theorem gp {S:World->Prop}{b:Nat}{l:List Value}{ty:TypeId}(h:∀w,S w->w.heap[b]? =some (.cells l.toArray ty (0,0))):∀w,S w->∀(j:Nat) (v:Value),l[j]? =some v->w.cell? ⟨b,0+j,none⟩=some v:=λw hS j v hv=>by
 rw[Nat.zero_add,cell_of_row _ _ _ _ _ _ (h w hS)]
 simpa using hv
def vY (V:List AV->List Value)(f:FuncId)(vs:List AV):Option Value:=
 if f=79\/f=142 then(match V vs with|[.int .i64 n,.int .i64 lo,.int .i64 hi]=>some (.bool (inB n lo hi))|_=>none)
 else if f=141 then(match V vs with|[.int .i64 n,.bool u]=>some (.bool (zt n u))|_=>none)
 else none
theorem rC {V:List AV->List Value}{f:FuncId}{vs:List AV}{v:Value}(h:vY V f vs=some v){W0:World}:(∀args w,(callFunc f args).run Tryz.prog w=.ok (.enter f args) w)/\∀w,Below W0.heap.size W0 w->Calls Tryz.prog f (V vs).toArray w λe w'=>e=.returned v/\Below W0.heap.size W0 w':=by
 unfold vY at h
 split at h
 ·rename_i hf
  split at h
  ·rename_i hm
   cases h
   rw[hm]
   rcases hf with rfl|rfl
   ·exact⟨ent57,λw hw=>(Ew w _ _ _).mono λe w' k=>⟨k.1,hw.trans (k.2.mono hw.size)⟩⟩
   ·exact⟨ent109,λw hw=>(yz w _ _ _).mono λe w' k=>⟨k.1,hw.trans (k.2.mono hw.size)⟩⟩
  ·cases h
 ·split at h
  ·rename_i hf
   subst hf
   split at h
   ·rename_i hm
    cases h
    rw[hm]
    exact⟨ent108,λw hw=>(Ke w _ _ _ rfl).mono λe w' k=>⟨k.1,hw.trans (k.2.mono hw.size)⟩⟩
   ·cases h
  ·cases h
def EA (g:Nat)(A:Ps.Amd):List (Option (Nat×Nat)×List Value):=[(some (g,0),aH A)]
def amM (g:Nat)(A:Ps.Amd):Mem Unit:=om lu (EA g A) (vY (List.map (iL (EA g A)))) (Ev.qC (iL (EA g A)))
theorem Ic (w:World)(A:Ps.Amd):Calls Tryz.prog 82 #[.agg (aH A).toArray] w λe w'=>e=.returned (.int .i64 (aV (ll A)))/\Below w.heap.size w w':=by
 go_enter Tryz.func82,Tryz.ntmps82
 refine wp_seq ?_
 refine wp_region_lit ?_
 refine wpList_plain rfl (λK hK=>?_)
 go_simp
 refine hK _ _ ?_
 clear hK K
 refine wpList_plain rfl (λK hK=>?_)
 go_simp
 refine hK _ _ ?_
 clear hK K
 refine av ?_
 obtain⟨g,hg⟩:∃g,g=w.heap.size:=⟨_,rfl⟩
 obtain⟨W1,hW1⟩:∃W1,W1=w.alloc (.cells (aH A).toArray 35):=⟨_,rfl⟩
 have hrow:∀W,Below W1.heap.size W1 W->W.heap[g]? =some (.cells (aH A).toArray 35 (0,0)):=λW hW=>by
  rw[hW.block g (by rw[hW1,hg];simp),hW1,hg];exact aD w _
 have hB1:Below w.heap.size w W1:=by rw[hW1];exact(Below.refl _ _).alloc (Nat.le_refl _) _
 rw[<-hg,<-hW1]
 refine rO rfl λa ha hdf=>?_
 have hO:Ev.Ok Tryz.prog (λ(_:Unit) W=>Below W1.heap.size W1 W) (amM g A):=by
  refine Ev.mX (λt f d h=>mq h) (λq b o l h W hS=>?_) (λf vs v h=>rC h) (λo ov v h ρ hov W hS=>Ev.oO h hov (λ_=>rfl) W)
  rcases q with _|q
  ·cases h
   intro j v hv
   rw[Nat.zero_add,cell_of_row _ _ _ _ _ _ (hrow W hS)]
   simpa using hv
  ·cases h
 refine wp_seq ?_
 refine Ev.mf (W0:=W1) (m:=91) (M:=amM g A) (K:=[(1,.p 0 0)]) 86 2 (ll A) hO (by kernel_rfl) (Ev.aG (Ev.bD (by rw[ha];rfl) hdf) (by rw[ha];rfl)) (Below.refl _ _) (show 0<6 by decide) (show 6<=1000 by decide) (by kernel_rfl) (by kernel_rfl) ?_
 intro b W hB hF
 refine wp_ret ?_
 refine bodyPost_ret (results_tmp rfl _ _ _) hF.defers ?_
 rw[hg]
 exact⟨by rw[show b.tmps.getD 2 undef=.int .i64 (aV (ll A))from eval_at (hF.look 2 _ rfl)],hB1.trans (hB.mono hB1.size)⟩
theorem bu {b:Bool}{n:Int}{rs:List (Bool×Int)}{P:Prop}[Decidable P](h:b=true↔P):aV ((b,n)::rs)=if P then n else aV rs:=by
 show(if b=true then n else aV rs)=_
 by_cases hp:P
 ·rw[if_pos hp,if_pos (h.2 hp)]
 ·rw[if_neg hp,if_neg (λhb=>hp (h.1 hb))]
theorem gB (n lo hi:Int):inB n lo hi=true↔lo<=n/\n<=hi:=by
 unfold inB;simp
theorem pu (n:Int)(u:Bool):zt n u=true↔if u=true then 1<=n/\n<=Ps.bL else n=0:=by
 unfold zt Ps.bL
 cases u
 ·simp
 ·simp[gB]
theorem aj {b:Bool}{P:Prop}(h:b=true↔P):(!b)=true↔¬P:=by
 rw[<-h];cases b<;>simp
theorem JX (A:Ps.Amd):aV (ll A)=Ps.CF A:=by
 unfold ll Ps.CF
 rw[bu (P:=A.hasAmount=false/\A.hasSettleDay=false/\A.hasPriority=false/\A.hasPartial=false) (by simp[and_assoc]),
  bu (P:=(A.hasAmount=false/\A.amount≠0)\/(A.hasSettleDay=false/\A.settleDay≠0)\/(A.hasPriority=false/\A.priority≠0)\/(A.hasPartial=false/\(A.partial_=true\/A.minLot≠0))) (by simp[or_assoc]),
  bu (aj (pu _ _)),bu (aj (gB _ _ _)),bu (aj (gB _ _ _)),bu (aj (pu _ _))]
 rfl
def gF (V:Nat->ByteArray->Bool)(i:Ps.Ins)(sn:Nat):List (Bool×Int):=[((!(inB i.kind 0 4)),11),((!(V 2 i.ref)),6),((!(V 1 i.sender)),6),((((i.kind==3)||(i.kind==4))&&(!(i.counterparty.toList==(⟨#[]⟩:ByteArray).toList))),3),(((!((i.kind==3)||(i.kind==4)))&&(!(V 1 i.counterparty))),6),((i.counterparty.toList==i.sender.toList),1),((!(inB i.side 0 1)),11),(((!((i.kind==1)||(i.kind==2)))&&(i.side !=0)),3),((!(if (i.kind==0)=true then(i.asset.toList==[67,65,83,72])else V 0 i.asset)),6),((!(zt i.quantity (i.kind !=0))),2),((!(zt i.amount ((i.kind==0)||(i.kind==1)))),2),((!(inB i.settleDay 0 73048)),28),(((((i.kind==1)||(i.kind==2))&&(!(inB i.tradeDay 0 i.settleDay)))||((!((i.kind==1)||(i.kind==2)))&&(i.tradeDay !=0))),28),(((!(inB i.priority 0 2))||(((i.kind==3)||(i.kind==4))&&(i.priority !=0))),2),((i.partial_&&(!((i.kind==1)||(i.kind==2)))),3),(((i.partial_&&(decide (i.minLot<1)))||(!(inB i.minLot 0 (if i.partial_=true then i.quantity else 0)))),2),((i.hold&&((i.kind==3)||(i.kind==4))),3),((i.reserve&&((i.kind !=0)||(i.priority !=2))),3),((((i.kind==3)||(i.kind==4))&&(decide (0<(sn:Int)))),3),((decide (8<(sn:Int))),8)]
theorem BV (s t:ByteArray):(s.toList==t.toList)=true↔s=t:=by
 rw[beq_iff_eq]
 constructor
 ·intro h
  rw[Lib.toList_data,Lib.toList_data]at h
  exact Go.WideShapes.bytes_inj h
 ·rintro rfl;rfl
def oM (d:Int):List (Bool×Int)->Int
 |[]=>d
 |x::rs=>if x.1=true then x.2 else oM d rs
theorem aU {d:Int}{b:Bool}{n:Int}{rs:List (Bool×Int)}{P:Prop}[Decidable P](h:b=true↔P):oM d ((b,n)::rs)=if P then n else oM d rs:=by
 show(if b=true then n else oM d rs)=_
 by_cases hp:P
 ·rw[if_pos hp,if_pos (h.2 hp)]
 ·rw[if_neg hp,if_neg (λhb=>hp (h.1 hb))]
theorem qm (d:Int):∀rs:List (Bool×Int),(∀x∈rs,x.2≠0)->oM d rs=if aV rs≠0 then aV rs else d
 |[],_=>by simp[oM,aV]
 |x::rs,h=>by
  have ih:=qm d rs λy hy=>h y (List.mem_cons_of_mem _ hy)
  have hx:=h x List.mem_cons_self
  show(if x.1=true then x.2 else oM d rs)=if (if x.1=true then x.2 else aV rs)≠0 then(if x.1=true then x.2 else aV rs)else d
  by_cases hb:x.1=true
  ·simp only[if_pos hb,if_pos hx]
  ·simp only[if_neg hb];exact ih
theorem l6 (i:Ps.Ins):((i.kind==3)||(i.kind==4))=true↔i.kind=3\/i.kind=4:=by simp
theorem qG (i:Ps.Ins):((i.kind==1)||(i.kind==2))=true↔i.kind=1\/i.kind=2:=by simp
theorem df {a b:Bool}{P Q:Prop}(h1:a=true↔P)(h2:b=true↔Q):(a&&b)=true↔P/\Q:=by rw[Bool.and_eq_true,h1,h2]
theorem pX {a b:Bool}{P Q:Prop}(h1:a=true↔P)(h2:b=true↔Q):(a||b)=true↔P\/Q:=by rw[Bool.or_eq_true,h1,h2]
theorem qX (a b:Int):(a !=b)=true↔a≠b:=by simp
theorem Ho (b:Bool):(!b)=true↔b=false:=by simp
theorem I4 (V:Nat->ByteArray->Bool)(i:Ps.Ins):Ps.rG V i=if aV (gF V i i.links.length)≠0 then aV (gF V i i.links.length)else Ps.ig V i [] i.links:=by
 rw[<-qm _ _ (by unfold gF;simp)]
 unfold gF Ps.rG
 have hs:(!(i.counterparty.toList==(⟨#[]⟩:ByteArray).toList))=true↔i.counterparty≠⟨#[]⟩:=aj (BV _ _)
 have hcash:(if (i.kind==0)=true then(i.asset.toList==[67,65,83,72])else V 0 i.asset)=true↔if i.kind=0 then i.asset=Ps.sO else V 0 i.asset=true:=by
  have h2:([67,65,83,72]:List UInt8)=Ps.sO.toList:=by rw[Lib.toList_data];rfl
  rw[h2]
  by_cases h:i.kind=0
  ·simp only[h,BEq.rfl,if_true];exact BV _ _
  ·have:(i.kind==0)=false:=by simp[h]
   simp only[this,h,if_false,Bool.false_eq_true]
 have hq:(!(zt i.quantity (i.kind !=0)))=true↔¬(if i.kind≠0 then 1<=i.quantity/\i.quantity<=Ps.bL else i.quantity=0):=by
  refine(aj (pu _ _)).trans (not_congr ?_)
  by_cases h:i.kind=0<;>simp[h]
 have ha:(!(zt i.amount ((i.kind==0)||(i.kind==1))))=true↔¬(if i.kind=0\/i.kind=1 then 1<=i.amount/\i.amount<=Ps.bL else i.amount=0):=by
  refine(aj (pu _ _)).trans (not_congr ?_)
  simp
 have hlot:((i.partial_&&(decide (i.minLot<1)))||(!(inB i.minLot 0 (if i.partial_=true then i.quantity else 0))))=true↔(i.partial_=true/\i.minLot<1)\/¬(0<=i.minLot/\i.minLot<=if i.partial_=true then i.quantity else 0):=
  pX (df Iff.rfl decide_eq_true_iff) (aj (gB _ _ _))
 rw[aU (aj (gB _ _ _)),aU (Ho _),aU (Ho _),aU (df (l6 i) hs),aU (df (aj (l6 i)) (Ho _)),aU (BV _ _),aU (aj (gB _ _ _)),
  aU (df (aj (qG i)) (qX _ _)),aU (aj hcash),aU hq,aU ha,aU (aj (gB _ _ _)),
  aU (pX (df (qG i) (aj (gB _ _ _))) (df (aj (qG i)) (qX _ _))),aU (pX (aj (gB _ _ _)) (df (l6 i) (qX _ _))),
  aU (df Iff.rfl (aj (qG i))),aU hlot,aU (df Iff.rfl (l6 i)),aU (df Iff.rfl (pX (qX _ _) (qX _ _))),
  aU (P:=(i.kind=3\/i.kind=4)/\0<i.links.length) (df (l6 i) (by simp)),aU (P:=8<i.links.length) (by simp;omega)]
 rfl
section
variable {S : World → Prop} {ρ : Operand → Value} {o : Oper}
end
theorem sl_to (a:Option Addr)(n c k:Nat)(h1:k<=n)(h2:n<=c)(_h3:n<=1000)(w:World):(Instr.sliceAt 32 (.slice a n c) none (some (.int .i64 k)) none).run Tryz.prog w=.ok (.slice a k c) w:=by
 have e1:(k:Int)<=(c:Int):=by omega
 go_simp
 done
def mr (V:Nat->ByteArray->Bool)(i:Ps.Ins)(seen:List Ps.Link)(x:Ps.Link):List (Bool×Int):=[(!(inB x.type 0 1),11),(!(V 2 x.ref),6),(x.ref.toList==i.ref.toList,26),(iE seen x.ref,7)]
theorem Ey (ks:List Ps.Link)(r:ByteArray):iE ks r=true↔∃y∈ks,y.ref=r:=by
 unfold iE
 rw[List.any_eq_true]
 exact exists_congr λy=>and_congr_right λ_=>BV _ _
theorem Cu (V:Nat->ByteArray->Bool)(i:Ps.Ins)(seen:List Ps.Link)(x:Ps.Link)(r:List Ps.Link):Ps.ig V i seen (x::r)=if aV (mr V i seen x)≠0 then aV (mr V i seen x)else Ps.ig V i (seen++[x]) r:=by
 rw[<-qm _ _ (by unfold mr;simp)]
 unfold mr
 rw[aU (aj (gB _ _ _)),aU (Ho _),aU (BV _ _),aU (Ey _ _)]
 rfl
def oU (i j:Ps.Ins)(eL:Bool):Bool:=((((((((((((((((i.ref.toList==j.ref.toList)&&(i.kind==j.kind))&&(i.sender.toList==j.sender.toList))&&(i.counterparty.toList==j.counterparty.toList))&&(i.side==j.side))&&(i.asset.toList==j.asset.toList))&&(i.quantity==j.quantity))&&(i.amount==j.amount))&&(i.tradeDay==j.tradeDay))&&(i.settleDay==j.settleDay))&&(i.priority==j.priority))&&(i.partial_==j.partial_))&&(i.minLot==j.minLot))&&(i.hold==j.hold))&&(i.reserve==j.reserve))&&eL)
def Kw (eL:Bool)(f:FuncId)(vs:List AV):Option Value:=if f=83 then(match vs with|[.r 0 15,.r 1 15]=>some (.bool eL)|_=>none)else none
def eqM (g h:Nat)(i j:Ps.Ins)(la lb:Value)(eL:Bool):Mem Unit:=om lu [(some (g,0),aB i la),(some (h,0),aB j lb)] (Kw eL)
theorem xw (w:World)(i j:Ps.Ins)(sa ta:Option Addr)(sn sc tn tc:Nat)(eL:Bool)
 (c101:∀w',Below w.heap.size w w'->Calls Tryz.prog 83 #[.slice sa sn sc,.slice ta tn tc] w' λe w''=>e=.returned (.bool eL)/\Below w'.heap.size w' w''):
 Calls Tryz.prog 35 #[.agg (aB i (.slice sa sn sc)).toArray,.agg (aB j (.slice ta tn tc)).toArray] w λe w'=>e=.returned (.bool (oU i j eL))/\Below w.heap.size w w':=by
 go_enter Tryz.func35,Tryz.ntmps35
 refine wp_seq ?_
 refine wp_region_lit ?_
 refine wpList_plain rfl (λK hK=>?_)
 go_simp
 refine hK _ _ ?_
 clear hK K
 refine wpList_plain rfl (λK hK=>?_)
 go_simp
 refine hK _ _ ?_
 clear hK K
 refine wpList_plain rfl (λK hK=>?_)
 go_simp
 refine hK _ _ ?_
 clear hK K
 refine av ?_
 obtain⟨Wa,hWa⟩:∃Wa,Wa=w.alloc (.cells (aB i (.slice sa sn sc)).toArray 34):=⟨_,rfl⟩
 obtain⟨W1,hW1⟩:∃W1,W1=Wa.alloc (.cells (aB j (.slice ta tn tc)).toArray 34):=⟨_,rfl⟩
 obtain⟨g,hg⟩:∃g,g=w.heap.size:=⟨_,rfl⟩
 obtain⟨h,hh⟩:∃h,h=w.heap.size+1:=⟨_,rfl⟩
 have hha:h=Wa.heap.size:=by rw[hh,hWa];simp
 have Dr:Below Wa.heap.size Wa W1:=by rw[hW1];exact(Below.refl _ _).alloc (Nat.le_refl _) _
 have hrow:∀W,Below W1.heap.size W1 W->W.heap[g]? =some (.cells (aB i (.slice sa sn sc)).toArray 34 (0,0)):=λW hW=>by
  rw[hW.block g (by rw[hW1,hWa,hg];simp;omega),Dr.block g (by rw[hWa,hg];simp),hWa,hg];exact aD w _
 have yO:∀W,Below W1.heap.size W1 W->W.heap[h]? =some (.cells (aB j (.slice ta tn tc)).toArray 34 (0,0)):=λW hW=>by
  rw[hW.block h (by rw[hha,hW1];simp),hW1,hha];exact aD Wa _
 have hB1:Below w.heap.size w W1:=((by rw[hWa];exact(Below.refl _ _).alloc (Nat.le_refl _) _:Below w.heap.size w Wa).trans (Dr.mono (by rw[hWa];simp)))
 rw[<-hWa,<-hW1,<-hg]
 rw[<-hg]at hh
 rw[<-hh]
 clear hW1 hWa hha Dr hh
 refine rO rfl λa ha hdf=>?_
 have hO:Ev.Ok Tryz.prog (λ(_:Unit) W=>Below W1.heap.size W1 W) (eqM g h i j (.slice sa sn sc) (.slice ta tn tc) eL):=by
  refine Ev.mX (λt f d h=>mq h) (λq b o l h W hS=>?_) (λf vs v h=>?_) (λ_ _ _ h=>by cases h)
  ·rcases q with _|_|q
   ·cases h;exact gp hrow W hS
   ·cases h;exact gp yO W hS
   ·cases h
  ·unfold Kw at h
   split at h
   ·rename_i hf
    subst hf
    split at h
    ·cases h
     exact⟨ent101,λW hS=>(c101 W (hB1.trans (hS.mono hB1.size))).mono λe w' q=>⟨q.1,hS.trans (q.2.mono hS.size)⟩⟩
    ·cases h
   ·cases h
 refine Ev.Fp (M:=eqM g h i j (.slice sa sn sc) (.slice ta tn tc) eL) (S:=λ_ W=>Below W1.heap.size W1 W) (n:=115) (K:=[(2,.p 0 0),(3,.p 1 0)]) (s:=()) (v:=oU i j eL) 4 hO (λ_ W h=>h.drew) (by kernel_rfl) (by kernel_rfl) (Ev.aG (Ev.aG (Ev.bD (by rw[ha];rfl) hdf) (by rw[ha];rfl)) (by rw[ha];rfl)) (Below.refl _ _) ?_
 intro b W s hd ht hS
 refine bodyPost_ret (results_tmp rfl _ _ _) hd ?_
 rw[hg]
 exact⟨by rw[show b.tmps.getD 4 undef=.bool (oU i j eL)from eval_at ht],hB1.trans (hS.mono hB1.size)⟩
def tX (Q:Ps.Req)(lv:Value):List Value:=([.int .i64 Q.op,.string Q.sender,.string Q.ref]:List Value)++aB Q.ins lv++aH Q.amd
def DK (g:Nat)(Q:Ps.Req)(lv:Value):List (Option (Nat×Nat)×List Value):=[(some (g,0),tX Q lv),(none,aB {} (.slice none 0 0)),(none,aH {})]
def Nk (V:Nat->ByteArray->Bool)(g:Nat)(Q:Ps.Req)(lv:Value)(xi xa:Int)(sm:Bool)(f:FuncId)(vs:List AV):Option Value:=
 if f=80 then(match vs with
  |[.v (.int .i64 k),.r 0 j]=>if (k=1\/k=2)/\(j=1\/j=2)then some (.bool (V k.toNat (if j=1 then Q.sender else Q.ref)))else none
  |_=>none)
 else if f=81 then(match vs with|[.a 0 3 16]=>some (.int .i64 xi)|_=>none)
 else if f=35 then(match vs with|[.a 0 3 16,.a 1 0 16]=>some (.bool sm)|_=>none)
 else if f=82 then(match vs with|[.a 0 19 9]=>some (.int .i64 xa)|_=>none)
 else vY (List.map (iL (DK g Q lv))) f vs
def GJ (V:AV->Value)(Q:Ps.Req)(o:Oper)(ov:Operand->Option AV):Option AV:=match o.op with
 | .build t ps=>(match ps.toList with
   |[]=>if t=34 then some (.a 1 0 16)else if t=35 then some (.a 2 0 9)else none
   |_=>Ev.qC V o ov)
 | .binOp .neq t x y _=>if t=35 then(match ov x,ov y with
   |some (.a 0 19 9),some (.a 2 0 9)=>some (.v (.bool (!decide Q.amd.none)))
   |_,_=>none)else none
 |_=>none
def rqM (V:Nat->ByteArray->Bool)(g:Nat)(Q:Ps.Req)(lv:Value)(xi xa:Int)(sm:Bool):Mem Unit:=om lu (DK g Q lv) (Nk V g Q lv xi xa sm) (GJ (iL (DK g Q lv)) Q)
def pY (V:Nat->ByteArray->Bool)(Q:Ps.Req)(xi xa:Int)(sm:Bool):Int:=
 if (aV [(!inB Q.op 0 4,11),(!V 1 Q.sender,6),(!V 2 Q.ref,6)] !=0)=true then aV [(!inB Q.op 0 4,11),(!V 1 Q.sender,6),(!V 2 Q.ref,6)]
 else if (Q.op==0)=true then(if (xi !=0)=true then xi else if (aV [(!(Q.ins.ref.toList==Q.ref.toList)||!(Q.ins.sender.toList==Q.sender.toList),17)] !=0)=true then aV [(!(Q.ins.ref.toList==Q.ref.toList)||!(Q.ins.sender.toList==Q.sender.toList),17)]else if (Q.op==1)=true then xa else aV [(!decide Q.amd.none,3)])
 else if (aV [(!sm,3)] !=0)=true then aV [(!sm,3)]else if (Q.op==1)=true then xa else aV [(!decide Q.amd.none,3)]
theorem rq_w1 (w:World)(V:Nat->ByteArray->Bool)(Q:Ps.Req)(sa:Option Addr)(sn sc:Nat)(xi xa:Int)(sm:Bool)
 (cV:∀(W1:World) (k:Nat) (s:ByteArray),k<3->Below w.heap.size w W1->Calls Tryz.prog 80 #[.int .i64 k,.string s] W1 λe w'=>e=.returned (.bool (V k s))/\Below W1.heap.size W1 w')
 (nI:∀W,Below w.heap.size w W->Calls Tryz.prog 81 #[.agg (aB Q.ins (.slice sa sn sc)).toArray] W λe w'=>e=.returned (.int .i64 xi)/\Below W.heap.size W w')
 (nS:∀W,Below w.heap.size w W->Calls Tryz.prog 35 #[.agg (aB Q.ins (.slice sa sn sc)).toArray,.agg (aB {} (.slice none 0 0)).toArray] W λe w'=>e=.returned (.bool sm)/\Below W.heap.size W w')
 (nA:∀W,Below w.heap.size w W->Calls Tryz.prog 82 #[.agg (aH Q.amd).toArray] W λe w'=>e=.returned (.int .i64 xa)/\Below W.heap.size W w'):
 Calls Tryz.prog 30 #[.agg (aA Q (.slice sa sn sc))] w λe w'=>e=.returned (.int .i64 (pY V Q xi xa sm))/\Below w.heap.size w w':=by
 go_enter Tryz.func30,Tryz.ntmps30
 refine wp_seq ?_
 refine wp_region_lit ?_
 refine wpList_plain rfl (λK hK=>?_)
 go_simp
 refine hK _ _ ?_
 clear hK K
 refine wpList_plain rfl (λK hK=>?_)
 go_simp
 refine hK _ _ ?_
 clear hK K
 refine av ?_
 obtain⟨g,hg⟩:∃g,g=w.heap.size:=⟨_,rfl⟩
 obtain⟨W1,hW1⟩:∃W1,W1=w.alloc (.cells (aA Q (.slice sa sn sc)) 37):=⟨_,rfl⟩
 have hrow:∀W,Below W1.heap.size W1 W->W.heap[g]? =some (.cells (tX Q (.slice sa sn sc)).toArray 37 (0,0)):=λW hW=>by
  rw[hW.block g (by rw[hW1,hg];simp),hW1,hg];exact aD w _
 have hB1:Below w.heap.size w W1:=by rw[hW1];exact(Below.refl _ _).alloc (Nat.le_refl _) _
 have fin:∀{f:FuncId} {args:Array Value} {v:Value},(∀W,Below w.heap.size w W->Calls Tryz.prog f args W λe w'=>e=.returned v/\Below W.heap.size W w')->∀W,Below W1.heap.size W1 W->Calls Tryz.prog f args W λe w'=>e=.returned v/\Below W1.heap.size W1 w':=λh W hW=>(h W (hB1.trans (hW.mono hB1.size))).mono λe w' k=>⟨k.1,hW.trans (k.2.mono hW.size)⟩
 rw[<-hg,<-hW1]
 clear hW1
 refine rO rfl λa ha hdf=>?_
 have hO:Ev.Ok Tryz.prog (λ(_:Unit) W=>Below W1.heap.size W1 W) (rqM V g Q (.slice sa sn sc) xi xa sm):=by
  refine Ev.mX (λt f d h=>mq h) (λq b o l h W hS=>?_) (λf vs v h=>?_) (λo ov v h ρ hov W hS=>?_)
  ·rcases q with _|_|_|q
   ·cases h;exact gp hrow W hS
   ·cases h
   ·cases h
   ·cases h
  ·unfold Nk at h
   split at h
   ·rename_i hf
    subst hf
    split at h
    ·split at h
     ·rename_i k j hk
      cases h
      rcases hk with⟨rfl|rfl,rfl|rfl⟩
      ·exact⟨Cb,fin (λW hW=>cV W 1 Q.sender (by decide) hW)⟩
      ·exact⟨Cb,fin (λW hW=>cV W 1 Q.ref (by decide) hW)⟩
      ·exact⟨Cb,fin (λW hW=>cV W 2 Q.sender (by decide) hW)⟩
      ·exact⟨Cb,fin (λW hW=>cV W 2 Q.ref (by decide) hW)⟩
     ·cases h
    ·cases h
   split at h
   ·rename_i hf
    subst hf
    split at h
    ·cases h
     exact⟨enters_of Tryz.func81 (by kernel_rfl) rfl,fin nI⟩
    ·cases h
   split at h
   ·rename_i hf
    subst hf
    split at h
    ·cases h
     exact⟨enters_of Tryz.func35 (by kernel_rfl) rfl,fin nS⟩
    ·cases h
   split at h
   ·rename_i hf
    subst hf
    split at h
    ·cases h
     exact⟨enters_of Tryz.func82 (by kernel_rfl) rfl,fin nA⟩
    ·cases h
   exact rC h
  ·unfold GJ at h
   split at h
   ·rename_i t ps ho
    split at h
    ·rename_i hps
     have hps2:ps=#[]:=by rw[<-Array.toArray_toList (xs:=ps),hps]
     subst hps2
     split at h
     ·rename_i ht
      subst ht
      cases h
      unfold execOp
      simp only[ho,Sem.run_bind,bd25,Result.andThen_ok]
      rfl
     ·split at h
      ·rename_i ht
       subst ht
       cases h
       unfold execOp
       simp only[ho,Sem.run_bind,bd27,Result.andThen_ok]
       rfl
      ·cases h
    ·exact Ev.oO h hov (λ_=>rfl) W
   ·rename_i t x y t2 ho
    split at h
    ·rename_i ht
     subst ht
     split at h
     ·rename_i h1 h2
      cases h
      have e1:ρ x=.agg (aH Q.amd).toArray:=hov _ _ h1
      have e2:ρ y=.agg (aH {}).toArray:=hov _ _ h2
      unfold execOp
      simp only[ho,e1,e2]
      rw[Sem.run_bind,ne27]
      rfl
     ·cases h
    ·cases h
   ·cases h
 refine Ev.Kr (W0:=W1) (M:=rqM V g Q (.slice sa sn sc) xi xa sm) (n:=77) (K:=[(1,.p 0 0)]) (v:=pY V Q xi xa sm) 2 hO (by kernel_rfl) (by kernel_rfl) (Ev.aG (Ev.bD (by rw[ha];rfl) hdf) (by rw[ha];rfl)) (Below.refl _ _) ?_
 intro b W hd ht hS
 refine bodyPost_ret (results_tmp rfl _ _ _) hd ?_
 rw[hg]
 exact⟨by rw[show b.tmps.getD 2 undef=.int .i64 (pY V Q xi xa sm)from eval_at ht],hB1.trans (hS.mono hB1.size)⟩
end Go.Proofs.YtnjjeapcalkmaaaGreatDoor
