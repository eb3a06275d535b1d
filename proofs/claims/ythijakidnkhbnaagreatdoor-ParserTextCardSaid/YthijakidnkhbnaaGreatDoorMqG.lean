/-
  Part 7 of a proof; written short by a program out of longer texts of mine.
-/
import Derived.Test.YthijakidnkhbnaaGreatDoorMqF
set_option maxRecDepth 100000
set_option maxHeartbeats 4000000
set_option linter.unusedVariables false
set_option linter.unusedSimpArgs false
namespace Go.Proofs.YthijakidnkhbnaaGreatDoor
open Go.RowKit
theorem Ct (c:Int)(w:World):
 Calls Tryz.prog 148 #[.int .u8 c] w λe w'=>e=.returned (.bool (Id.letter c))/\w'=w:=by
 go_enter Tryz.func148,Tryz.ntmps148
 go_wp2
 all_goals go_ret
 all_goals exact⟨bY (by first|(simp[Id.letter,Lx.upper];done)|(simp[Id.letter,Lx.upper];omega)),rfl⟩
theorem wX (c:Int)(w:World):
 Calls Tryz.prog 149 #[.int .u8 c] w λe w'=>e=.returned (.bool (Id.digit c))/\w'=w:=by
 go_enter Tryz.func149,Tryz.ntmps149
 go_wp2
 all_goals go_ret
 all_goals exact⟨bY (by first|(simp[Id.digit,Lx.digit];done)|(simp[Id.digit,Lx.digit];omega)),rfl⟩
def nW (k:Nat):Int:=if k=0 then 12 else if k=1 then 4 else if k=2 then 1 else 20
def yN (k:Nat):Int:=if k=0 then 12 else if k=1 then 8 else if k=2 then 16 else 20
theorem rV (k:Nat)(hk:k<3)(w:World):
 Calls Tryz.prog 113 #[.int .i64 k] w λe w'=>e=.returned (.tuple #[.int .i64 (nW k),.int .i64 (yN k)])/\w'=w:=by
 match k,hk with
 |0,_=>
  go_enter Tryz.func113,Tryz.ntmps113
  go_wp2
  all_goals go_ret2
  all_goals exact⟨rfl,rfl⟩
 |1,_=>
  go_enter Tryz.func113,Tryz.ntmps113
  go_wp2
  all_goals go_ret2
  all_goals exact⟨rfl,rfl⟩
 |2,_=>
  go_enter Tryz.func113,Tryz.ntmps113
  go_wp2
  all_goals go_ret2
  all_goals exact⟨rfl,rfl⟩
theorem Iy (i:Nat)(c:Int)(b1 b2:Bool)(hi:i<2)(w:World)
 (nL:Hid (∀w,Calls Tryz.prog 148 #[.int .u8 c] w λe w'=>e=.returned (.bool b1)/\w'=w))
 (nD:Hid (∀w,Calls Tryz.prog 149 #[.int .u8 c] w λe w'=>e=.returned (.bool b2)/\w'=w)):
 Calls Tryz.prog 114 #[.int .i64 0,.int .i64 i,.int .u8 c] w λe w'=>e=.returned (.bool (b1))/\w'=w:=by
 have h1:(i:Int)<2:=by omega
 have h2:¬(i:Int)=11:=by omega
 have h3:((i:Int)==11)=false:=by simp;omega
 have h4:((i:Int)>=2)=False:=by simp;omega
 cases b1<;>cases b2
 all_goals
  go_enter Tryz.func114,Tryz.ntmps114
  go_wp2_with (first|(go_at_call 148;refine(nL.out _).mono ?_;rintro x w1 ⟨rfl,rfl⟩)|(go_at_call 149;refine(nD.out _).mono ?_;rintro x w1 ⟨rfl,rfl⟩))
  all_goals go_ret
  all_goals first|exact⟨rfl,rfl⟩|exact⟨bY (by simp_all),rfl⟩
theorem G5 (i:Nat)(c:Int)(b1 b2:Bool)(hi:2<=i)(hi2:i<11)(w:World)
 (nL:Hid (∀w,Calls Tryz.prog 148 #[.int .u8 c] w λe w'=>e=.returned (.bool b1)/\w'=w))
 (nD:Hid (∀w,Calls Tryz.prog 149 #[.int .u8 c] w λe w'=>e=.returned (.bool b2)/\w'=w)):
 Calls Tryz.prog 114 #[.int .i64 0,.int .i64 i,.int .u8 c] w λe w'=>e=.returned (.bool (b1||b2))/\w'=w:=by
 have h1:¬(i:Int)<2:=by omega
 have h2:(i:Int)<11:=by omega
 have h3:((i:Int)==11)=false:=by simp;omega
 have h4:(i:Int)>=2:=by omega
 cases b1<;>cases b2
 all_goals
  go_enter Tryz.func114,Tryz.ntmps114
  go_wp2_with (first|(go_at_call 148;refine(nL.out _).mono ?_;rintro x w1 ⟨rfl,rfl⟩)|(go_at_call 149;refine(nD.out _).mono ?_;rintro x w1 ⟨rfl,rfl⟩))
  all_goals go_ret
  all_goals first|exact⟨rfl,rfl⟩|exact⟨bY (by simp_all),rfl⟩
theorem IB (i:Nat)(c:Int)(b1 b2:Bool)(hi:i=11)(w:World)
 (nL:Hid (∀w,Calls Tryz.prog 148 #[.int .u8 c] w λe w'=>e=.returned (.bool b1)/\w'=w))
 (nD:Hid (∀w,Calls Tryz.prog 149 #[.int .u8 c] w λe w'=>e=.returned (.bool b2)/\w'=w)):
 Calls Tryz.prog 114 #[.int .i64 0,.int .i64 i,.int .u8 c] w λe w'=>e=.returned (.bool (b2))/\w'=w:=by
 subst hi
 cases b1<;>cases b2
 all_goals
  go_enter Tryz.func114,Tryz.ntmps114
  go_wp2_with (first|(go_at_call 148;refine(nL.out _).mono ?_;rintro x w1 ⟨rfl,rfl⟩)|(go_at_call 149;refine(nD.out _).mono ?_;rintro x w1 ⟨rfl,rfl⟩))
  all_goals go_ret
  all_goals first|exact⟨rfl,rfl⟩|exact⟨bY (by simp_all),rfl⟩
theorem GJ (i:Nat)(c:Int)(b1 b2:Bool)(hi:i=0)(w:World)
 (nL:Hid (∀w,Calls Tryz.prog 148 #[.int .u8 c] w λe w'=>e=.returned (.bool b1)/\w'=w))
 (nD:Hid (∀w,Calls Tryz.prog 149 #[.int .u8 c] w λe w'=>e=.returned (.bool b2)/\w'=w)):
 Calls Tryz.prog 114 #[.int .i64 1,.int .i64 i,.int .u8 c] w λe w'=>e=.returned (.bool (b1))/\w'=w:=by
 subst hi
 cases b1<;>cases b2
 all_goals
  go_enter Tryz.func114,Tryz.ntmps114
  go_wp2_with (first|(go_at_call 148;refine(nL.out _).mono ?_;rintro x w1 ⟨rfl,rfl⟩)|(go_at_call 149;refine(nD.out _).mono ?_;rintro x w1 ⟨rfl,rfl⟩))
  all_goals go_ret
  all_goals first|exact⟨rfl,rfl⟩|exact⟨bY (by simp_all),rfl⟩
theorem JM (i:Nat)(c:Int)(b1 b2:Bool)(hi:0<i)(w:World)
 (nL:Hid (∀w,Calls Tryz.prog 148 #[.int .u8 c] w λe w'=>e=.returned (.bool b1)/\w'=w))
 (nD:Hid (∀w,Calls Tryz.prog 149 #[.int .u8 c] w λe w'=>e=.returned (.bool b2)/\w'=w)):
 Calls Tryz.prog 114 #[.int .i64 1,.int .i64 i,.int .u8 c] w λe w'=>e=.returned (.bool (b1||b2))/\w'=w:=by
 have h1:(i:Int)>0:=by omega
 cases b1<;>cases b2
 all_goals
  go_enter Tryz.func114,Tryz.ntmps114
  go_wp2_with (first|(go_at_call 148;refine(nL.out _).mono ?_;rintro x w1 ⟨rfl,rfl⟩)|(go_at_call 149;refine(nD.out _).mono ?_;rintro x w1 ⟨rfl,rfl⟩))
  all_goals go_ret
  all_goals first|exact⟨rfl,rfl⟩|exact⟨bY (by simp_all),rfl⟩
theorem J4 (i:Nat)(c:Int)(b1 b2 b3:Bool)(h3:(c==45)=b3)(w:World)
 (nL:Hid (∀w,Calls Tryz.prog 148 #[.int .u8 c] w λe w'=>e=.returned (.bool b1)/\w'=w))
 (nD:Hid (∀w,Calls Tryz.prog 149 #[.int .u8 c] w λe w'=>e=.returned (.bool b2)/\w'=w)):
 Calls Tryz.prog 114 #[.int .i64 2,.int .i64 i,.int .u8 c] w λe w'=>e=.returned (.bool (b1||b2||b3))/\w'=w:=by
 cases b1<;>cases b2<;>cases b3
 all_goals
  go_enter Tryz.func114,Tryz.ntmps114
  go_wp2_with (first|(go_at_call 148;refine(nL.out _).mono ?_;rintro x w1 ⟨rfl,rfl⟩)|(go_at_call 149;refine(nD.out _).mono ?_;rintro x w1 ⟨rfl,rfl⟩))
  all_goals go_ret
  all_goals first|exact⟨rfl,rfl⟩|exact⟨bY (by simp_all),rfl⟩
def l7 (k i:Nat):Int->Bool:=((bZ k).map (·.2)).getD i λ_=>true
theorem Lp (i:Nat)(h:i<2):l7 0 i=Id.letter:=by
 match i,h with
 |0,_=>rfl
 |1,_=>rfl
theorem Kc (i:Nat)(h1:2<=i)(h:i<11):l7 0 i=Id.bz:=by
 obtain⟨j,rfl⟩:∃j,i=j+2:=⟨i-2,by omega⟩
 have hj:j<9:=by omega
 clear h h1
 match j,hj with
 |0,_=>rfl
 |1,_=>rfl
 |2,_=>rfl
 |3,_=>rfl
 |4,_=>rfl
 |5,_=>rfl
 |6,_=>rfl
 |7,_=>rfl
 |8,_=>rfl
theorem Lm (i:Nat)(h1:0<i)(h:i<8):l7 1 i=Id.bz:=by
 obtain⟨j,rfl⟩:∃j,i=j+1:=⟨i-1,by omega⟩
 have hj:j<7:=by omega
 clear h h1
 match j,hj with
 |0,_=>rfl
 |1,_=>rfl
 |2,_=>rfl
 |3,_=>rfl
 |4,_=>rfl
 |5,_=>rfl
 |6,_=>rfl
theorem NE (i:Nat)(h:i<16):l7 2 i=Id.IM:=by
 by_cases h8:i<8
 ·match i,h8 with
  |0,_=>rfl
  |1,_=>rfl
  |2,_=>rfl
  |3,_=>rfl
  |4,_=>rfl
  |5,_=>rfl
  |6,_=>rfl
  |7,_=>rfl
 ·obtain⟨j,rfl⟩:∃j,i=j+8:=⟨i-8,by omega⟩
  have hj:j<8:=by omega
  clear h h8
  match j,hj with
  |0,_=>rfl
  |1,_=>rfl
  |2,_=>rfl
  |3,_=>rfl
  |4,_=>rfl
  |5,_=>rfl
  |6,_=>rfl
  |7,_=>rfl
theorem Fa (k:Nat)(hk:k<3)(i:Nat)(hi:(i:Int)<yN k)(c:Int)(w:World):
 Calls Tryz.prog 114 #[.int .i64 k,.int .i64 i,.int .u8 c] w λe w'=>e=.returned (.bool (l7 k i c))/\w'=w:=by
 have nL:=Lib.hid λw=>Ct c w
 have nD:=Lib.hid λw=>wX c w
 match k,hk with
 |0,_=>
  have h12:i<12:=by have:(i:Int)<12:=hi;omega
  by_cases h2:i<2
  ·rw[Lp i h2]
   exact Iy i c _ _ h2 w nL nD
  ·by_cases h11:i<11
   ·rw[Kc i (by omega) h11]
    exact G5 i c _ _ (by omega) h11 w nL nD
   ·obtain rfl:i=11:=by omega
    exact IB 11 c _ _ rfl w nL nD
 |1,_=>
  have h12:i<8:=by have:(i:Int)<8:=hi;omega
  by_cases h0:i=0
  ·subst h0
   exact GJ 0 c _ _ rfl w nL nD
  ·rw[Lm i (by omega) h12]
   exact JM i c _ _ (by omega) w nL nD
 |2,_=>
  have h12:i<16:=by have:(i:Int)<16:=hi;omega
  rw[NE i h12]
  exact J4 i c _ _ _ (by rw[Bool.eq_iff_iff,beq_iff_eq,decide_eq_true_iff]) w nL nD
theorem iW {B:Nat}{a w:World}(h:Below B a w)(q:Nat):Below B a (w.drewN q):=⟨h.os,h.tape,h.output,h.size,h.block⟩
theorem EI (k:Int)(s:ByteArray)(w:World)(hk1:k=1\/k=2)(low high e:Int)(nb j:Nat)(hs:s.size<=9223372036854775807)(hhi:high=(nb:Int))(hnb:nb<=20)(cls:Nat->Int->Bool)
 (nL:Hid (∀w,Calls Tryz.prog 113 #[.int .i64 k] w λe w'=>e=.returned (.tuple #[.int .i64 low,.int .i64 high])/\w'=w))
 (nM:Hid (∀(i:Nat) (c:Int) w,i<nb->Calls Tryz.prog 114 #[.int .i64 k,.int .i64 i,.int .u8 c] w λe w'=>e=.returned (.bool (cls i c))/\w'=w))
 (hjn:j<=nb) (hjs:j<=s.size) (hgood:Hid (∀i,i<j->cls i (PlainAid.bt s i)=true))
 (iH:Hid ((j<nb/\j<s.size/\cls j (PlainAid.bt s j)=false/\e=3)\/((j=nb\/j=s.size)/\(((s.size:Int)<low/\e=4)\/(¬(s.size:Int)<low/\(s.size:Int)>high/\e=5)\/(¬(s.size:Int)<low/\¬(s.size:Int)>high/\e=0))))):
 Calls Tryz.prog 73 #[.int .i64 k,.string s] w λx w'=>(∃z:Int,x=.returned (.tuple #[.int .i64 z,.int .i64 e]))/\Below w.heap.size w w':=by
 have hub:=PlainAid.get_bt s
 rcases hk1 with rfl|rfl
 all_goals
  go_enter Tryz.func73,Tryz.ntmps73
  go_wp2_with (go_at_call 113;refine(nL.out _).mono ?_;rintro x w1 ⟨rfl,rZ⟩;obtain rfl:=rZ.symm;clear rZ)
  go_loopw [8] (λiv wr=>∃i:Nat,iv=.int .i64 i/\i<=j/\wr=w) (λiv _=>2000-(RowKit.intOf iv).toNat)
  case atStart=>exact⟨0,rfl,Nat.zero_le _,rfl⟩
  case round=>
   obtain⟨i,rfl,hi,hwr⟩:=hrel
   subst hwr
   by_cases hlt:i<j
   ·have hx:i<s.size:=by omega
    have hxi:(i:Int)<(s.size:Int):=by omega
    have hxh:(i:Int)<high:=by omega
    have m1:=λw=>nM.out i (PlainAid.bt s i) w (by omega)
    simp only[hgood.out i hlt]at m1
    go_wp2_with (go_at_call 114;refine(m1 _).mono ?_;rintro x w1 ⟨rfl,rZ⟩;obtain rfl:=rZ.symm;clear rZ)
    go_roundw
    case rel=>exact⟨i+1,by go_num,by omega,by first|rfl|trivial⟩
    case measure=>simp[RowKit.intOf];omega
   ·obtain rfl:i=j:=by omega
    rcases iH.out with⟨h1,h2,h3,rfl⟩|⟨h1,h4⟩
    ·have hxi:(i:Int)<(s.size:Int):=by omega
     have hxh:(i:Int)<high:=by omega
     have m1:=λw=>nM.out i (PlainAid.bt s i) w (by omega)
     simp only[h3]at m1
     go_wp2_with (go_at_call 114;refine(m1 _).mono ?_;rintro x w1 ⟨rfl,rZ⟩;obtain rfl:=rZ.symm;clear rZ)
     go_ret2
     exact⟨⟨_,rfl⟩,Below.refl _ _⟩
    ·have hnc:¬(i:Int)<(s.size:Int)\/((i:Int)<(s.size:Int)/\¬(i:Int)<high):=by omega
     rcases h4 with⟨h5,rfl⟩|⟨h5,h6,rfl⟩|⟨h5,h6,rfl⟩
     ·rcases hnc with hc|⟨hc,hc2⟩
      all_goals
       first
        |(exfalso;omega)
        |(go_wp2_with fail
          go_ret2
          exact⟨⟨_,rfl⟩,Below.refl _ _⟩)
     ·rcases hnc with hc|⟨hc,hc2⟩
      all_goals
       first
        |(exfalso;omega)
        |(go_wp2_with fail
          go_ret2
          exact⟨⟨_,rfl⟩,Below.refl _ _⟩)
     ·rcases hnc with hc|⟨hc,hc2⟩
      all_goals
       first
        |(exfalso;omega)
        |(go_wp2_with fail
          go_quiet (fail)
          go_wp2_with fail
          go_quiet (fail)
          go_wp2_with fail
          go_ret2
          exact⟨⟨_,rfl⟩,by first|exact Below.refl _ _|exact iW (Below.refl _ _) _|exact iW (iW (Below.refl _ _) _) _⟩)
theorem FK (p:Nat->Bool)(m:Nat):∃j,j<=m/\(∀i,i<j->p i=true)/\(j=m\/(j<m/\p j=false)):=by
 induction m with
 |zero=>exact⟨0,Nat.le_refl _,λi h=>absurd h (Nat.not_lt_zero _),Or.inl rfl⟩
 |succ m ih=>
  obtain⟨j,hj,hall,hend⟩:=ih
  rcases hend with rfl|⟨h1,h2⟩
  ·cases hp:p j with
   |false=>exact⟨j,by omega,hall,Or.inr ⟨by omega,hp⟩⟩
   |true=>
    refine⟨j+1,Nat.le_refl _,λi h=>?_,Or.inl rfl⟩
    by_cases h3:i=j
    ·rw[h3];exact hp
    ·exact hall i (by omega)
  ·exact⟨j,by omega,hall,Or.inr ⟨by omega,h2⟩⟩
theorem FJ (k nb:Nat)(s:ByteArray)(hnb:(bZ k).length=nb)(hlow:(aV k).low=nW k):
 ∃j,j<=nb/\j<=s.size/\(∀i,i<j->l7 k i (PlainAid.bt s i)=true)/\
  ((j<nb/\j<s.size/\l7 k j (PlainAid.bt s j)=false/\bC k s=3)\/((j=nb\/j=s.size)/\(((s.size:Int)<nW k/\bC k s=4)\/(¬(s.size:Int)<nW k/\(s.size:Int)>(nb:Int)/\bC k s=5)\/(¬(s.size:Int)<nW k/\¬(s.size:Int)>(nb:Int)/\bC k s=0)))):=by
 obtain⟨j,hj,hall,hend⟩:=FK (λi=>l7 k i (PlainAid.bt s i)) (min nb s.size)
 refine⟨j,by omega,by omega,hall,?_⟩
 unfold bC bq
 rw[hlow,List.length_map,hnb]
 rcases hend with h|⟨h1,h2⟩
 ·right
  have hno:(List.range nb).any (kS ((bZ k).map (·.2)) s)=false:=by
   rw[List.any_eq_false]
   intro i hi
   have hi':=List.mem_range.1 hi
   unfold kS
   by_cases hx:i<s.size
   ·have:=hall i (by omega)
    unfold l7 at this
    simp[this]
   ·simp[hx]
  rw[hno]
  refine⟨by omega,?_⟩
  by_cases ha:(s.size:Int)<nW k
  ·exact Or.inl ⟨ha,by simp[ha]⟩
  ·by_cases hb:(s.size:Int)>(nb:Int)
   ·refine Or.inr (Or.inl ⟨ha,hb,?_⟩)
    have hb2:nb<s.size:=by omega
    simp[ha,hb2]
   ·refine Or.inr (Or.inr ⟨ha,hb,?_⟩)
    have hb2:¬nb<s.size:=by omega
    simp only[Bool.false_eq_true,if_false,if_neg ha,if_neg hb2]
 ·left
  refine⟨by omega,by omega,h2,?_⟩
  have hyes:(List.range nb).any (kS ((bZ k).map (·.2)) s)=true:=by
   rw[List.any_eq_true]
   refine⟨j,List.mem_range.2 (by omega),?_⟩
   have hx:j<s.size:=by omega
   have h2':(((bZ k).map (·.2)).getD j λ_=>true) (PlainAid.bt s j)=false:=h2
   unfold kS
   rw[h2']
   simp[hx]
  rw[hyes,if_pos rfl]
theorem zy (k:Nat)(hk:k=1\/k=2)(s:ByteArray)(hs:s.size<=9223372036854775807)(w:World):
 Calls Tryz.prog 73 #[.int .i64 k,.string s] w λx w'=>(∃z:Int,x=.returned (.tuple #[.int .i64 z,.int .i64 (aY k s)]))/\Below w.heap.size w w':=by
 have he:aY k s=bC k s:=by
  unfold aY
  rcases hk with rfl|rfl<;>split<;>simp_all
 rw[he]
 have hk3:k<3:=by omega
 have nL:=Lib.hid λw=>rV k hk3 w
 obtain⟨nb,hnb,hhi,hb20⟩:∃nb:Nat,(bZ k).length=nb/\yN k=(nb:Int)/\nb<=20:=by
  rcases hk with rfl|rfl
  ·exact⟨8,rfl,rfl,by omega⟩
  ·exact⟨16,rfl,rfl,by omega⟩
 have hlow:(aV k).low=nW k:=by rcases hk with rfl|rfl<;>rfl
 obtain⟨j,h1,h2,h3,h4⟩:=FJ k nb s hnb hlow
 refine EI k s w (by omega) (nW k) (yN k) (bC k s) nb j hs hhi hb20 (l7 k) nL (Lib.hid λi c w hi=>Fa k hk3 i (by omega) c w) h1 h2 (Lib.hid h3) (Lib.hid ?_)
 rw[hhi]
 exact h4
theorem Ox (s:ByteArray)(w:World)(h0:(s.toList==[45,48,46,48,48])=true):
 Calls Tryz.prog 80 #[.string s] w λe w'=>e=.returned (.bool false)/\w=w':=by
 go_enter Tryz.func80,Tryz.ntmps80
 go_wp2_with fail
 go_ret
 exact⟨rfl,rfl⟩
inductive rH (t:ByteArray):Bool->Prop where
 |short (h:decide (4<=(t.size:Int))=false):rH t false
 |point (m:Nat) (h:decide (4<=(t.size:Int))=true) (hm:(t.size:Int)-3=(m:Int)) (qB:m<t.size) (b:(PlainAid.bt t m==46)=false):rH t false
 |last (m:Nat) (h:decide (4<=(t.size:Int))=true) (hm:(t.size:Int)-3=(m:Int)) (qB:m<t.size) (hm1:(t.size:Int)-1=((m+2:Nat):Int)) (MU:m+2<t.size) (b:(PlainAid.bt t m==46)=true) (c:Lx.digit (PlainAid.bt t (m+2))=false):rH t false
 |one (m:Nat) (h:decide (4<=(t.size:Int))=true) (hm:(t.size:Int)-3=(m:Int)) (qB:m<t.size) (hm1:(t.size:Int)-1=((m+2:Nat):Int)) (MU:m+2<t.size) (hm2:(t.size:Int)-2=((m+1:Nat):Int)) (hml2:m+1<t.size) (b:(PlainAid.bt t m==46)=true) (c:Lx.digit (PlainAid.bt t (m+2))=true) (d:Lx.digit (PlainAid.bt t (m+1))=false):rH t false
 |all (m:Nat) (r:Bool) (h:decide (4<=(t.size:Int))=true) (hm:(t.size:Int)-3=(m:Int)) (qB:m<t.size) (hm1:(t.size:Int)-1=((m+2:Nat):Int)) (MU:m+2<t.size) (hm2:(t.size:Int)-2=((m+1:Nat):Int)) (hml2:m+1<t.size) (b:(PlainAid.bt t m==46)=true) (c:Lx.digit (PlainAid.bt t (m+2))=true) (d:Lx.digit (PlainAid.bt t (m+1))=true) (e:Hid (Lx.whole (t.extract 0 m).data.toList=r)):rH t r
theorem Np (s t:ByteArray)(w:World)(h1:s.size<=1000)(ht:t.size<=1000)(h0:(s.toList==[45,48,46,48,48])=false)(r ng:Bool)(hg:(ng=true/\decide (0<s.size)=true/\0<s.size/\(PlainAid.bt s 0==45)=true)\/(ng=false/\(decide (0<s.size)=false\/decide (0<s.size)=true/\0<s.size/\(PlainAid.bt s 0==45)=false)))
 (hst:Hid ((ng=true->0<s.size/\s.extract 1 s.size=t)/\(ng=false->t=s))) (iH:rH t r):Calls Tryz.prog 80 #[.string s] w λe w'=>e=.returned (.bool r)/\w=w':=by
 have hub:=PlainAid.get_bt s
 go_enter Tryz.func80,Tryz.ntmps80
 go_upto_region 3 with fail
 go_cut [13] (λv wx=>v=.bool ng/\w=wx)
 case first=>
  rcases hg with⟨rfl,n0,n1,n2⟩|⟨rfl,n0|⟨n0,n1,n2⟩⟩
  all_goals
   go_wp2_with fail
   go_meet
   case rel=>exact⟨rfl,rfl⟩
 case rest=>
  obtain⟨rfl,rfl⟩:=hcut
  clear hg hub h0
  go_upto_if 13 with fail
  go_cut [0] (λv wx=>v=.string t/\w=wx)
  case first=>
   cases ng with
   |true=>
    obtain⟨n1,n2⟩:=hst.out.1 rfl
    have n3:(1:Int)<=(s.size:Int):=by omega
    clear hst
    go_wp2_with fail
    go_meet
    case rel=>exact⟨rfl,rfl⟩
   |false=>
    have n2:=hst.out.2 rfl
    subst n2
    clear hst
    go_wp2_with fail
    go_meet
    case rel=>exact⟨rfl,rfl⟩
  case rest=>
   obtain⟨rfl,rfl⟩:=hcut
   clear hst h1
   have hubt:=PlainAid.get_bt t
   have hd:=λ(c:Int)=>lF c w
   go_upto_region 6 with fail
   cases iH with
   |short h=>
    go_wp2_with fail
    go_ret
    exact⟨rfl,rfl⟩
   |point m h hm qB b=>
    go_wp2_with fail
    go_ret
    exact⟨rfl,rfl⟩
   |last m h hm qB hm1 MU b c=>
    have m1:=hd (PlainAid.bt t (m+2))
    rw[c]at m1
    clear c
    go_wp2_with (go_at_call 120;refine m1.mono ?_;rintro e w1 ⟨rfl,rfl⟩)
    go_ret
    exact⟨rfl,rfl⟩
   |one m h hm qB hm1 MU hm2 hml2 b c d=>
    obtain⟨x2,hx2⟩:∃x,PlainAid.bt t (m+2)=x:=⟨_,rfl⟩
    obtain⟨x1,hx1⟩:∃x,PlainAid.bt t (m+1)=x:=⟨_,rfl⟩
    rw[hx2]at c
    rw[hx1]at d
    have m1:=hd x2
    have m2:=hd x1
    rw[c]at m1
    rw[d]at m2
    clear c d
    go_wp2_with (first|(go_at_call 120;refine m1.mono ?_;rintro e w1 ⟨rfl,rfl⟩)|(go_at_call 120;refine m2.mono ?_;rintro e w1 ⟨rfl,rfl⟩))
    go_ret
    exact⟨rfl,rfl⟩
   |all m r h hm qB hm1 MU hm2 hml2 b c d e=>
    obtain⟨x2,hx2⟩:∃x,PlainAid.bt t (m+2)=x:=⟨_,rfl⟩
    obtain⟨x1,hx1⟩:∃x,PlainAid.bt t (m+1)=x:=⟨_,rfl⟩
    rw[hx2]at c
    rw[hx1]at d
    have m1:=hd x2
    have m2:=hd x1
    obtain⟨E,hE⟩:∃E,t.extract 0 m=E:=⟨_,rfl⟩
    have m3:=xA E w (by rw[<-hE,ByteArray.size_extract];omega)
    rw[show Lx.whole E.data.toList=r from by rw[<-hE];exact e.out]at m3
    rw[c]at m1
    rw[d]at m2
    clear c d e
    go_wp2_with (first|(go_at_call 120;refine m1.mono ?_;rintro e w1 ⟨rfl,rfl⟩)|(go_at_call 120;refine m2.mono ?_;rintro e w1 ⟨rfl,rfl⟩)|(go_at_call 79;refine m3.mono ?_;rintro e w1 ⟨rfl,rfl⟩))
    go_ret
    exact⟨rfl,rfl⟩
theorem vG (s:ByteArray):s.extract 1 s.size=⟨(s.data.toList.drop 1).toArray⟩:=by
 have hl:s.data.toList.length=s.size:=by obtain⟨⟨l⟩⟩:=s;rfl
 have h2:=Lib.extract_data s 1 s.size
 rw[List.take_of_length_le (by rw[List.length_drop];omega)]at h2
 generalize s.extract 1 s.size=x at h2⊢
 obtain⟨⟨l⟩⟩:=x
 have h2:l=_:=h2
 rw[h2]
theorem CJ (s:ByteArray)(w:World)(h1:s.size<=1000):
 Calls Tryz.prog 80 #[.string s] w λe w'=>e=.returned (.bool (Lx.dR s.data.toList))/\w=w':=by
 by_cases h0:(s.toList==[45,48,46,48,48])=true
 ·have hr:Lx.dR s.data.toList=false:=by
   unfold Lx.dR
   rw[<-Lib.toList_data,h0]
   rfl
  rw[hr]
  exact Ox s w h0
 ·have h0:(s.toList==[45,48,46,48,48])=false:=by simpa using h0
  have hr:Lx.dR s.data.toList=Lx.yj (Lx.dz s.data.toList):=by
   unfold Lx.dR
   rw[<-Lib.toList_data,h0]
   rfl
  rw[hr]
  have hl:s.data.toList.length=s.size:=by obtain⟨⟨l⟩⟩:=s;rfl
  obtain⟨t,ht⟩:∃t:ByteArray,t=⟨(Lx.dz s.data.toList).toArray⟩:=⟨_,rfl⟩
  have htl:t.data.toList=Lx.dz s.data.toList:=by rw[ht]
  have hts:t.data.toList.length=t.size:=by obtain⟨⟨l⟩⟩:=t;rfl
  rw[<-htl]
  have htz:t.size<=s.size:=by
   rw[<-hts,htl,<-hl]
   unfold Lx.dz
   split
   ·rw[List.length_drop];omega
   ·exact Nat.le_refl _
  refine(λ⟨ng,hg,hst⟩ iH=>Np s t w h1 (by omega) h0 _ ng hg (Lib.hid hst) iH:(∃ng:Bool,((ng=true/\decide (0<s.size)=true/\0<s.size/\(PlainAid.bt s 0==45)=true)\/(ng=false/\(decide (0<s.size)=false\/decide (0<s.size)=true/\0<s.size/\(PlainAid.bt s 0==45)=false)))/\((ng=true->0<s.size/\s.extract 1 s.size=t)/\(ng=false->t=s)))->_->_) ?_ ?_
  ·by_cases hp:0<s.size
   ·have hbt:PlainAid.bt s 0=Lx.at_ s.data.toList 0:=(qR s 0).symm
    have hh:∃c l,s.data.toList=c::l:=by
     cases hc:s.data.toList with
     |nil=>rw[hc]at hl;simp at hl;omega
     |cons c l=>exact⟨c,l,rfl⟩
    obtain⟨c,l,hc⟩:=hh
    by_cases h45:c=45
    ·refine⟨true,.inl ⟨rfl,by simp[hp],hp,?_⟩,λ_=>⟨hp,?_⟩,(λh=>nomatch h)⟩
     ·rw[hbt,hc,h45];rfl
     ·rw[vG,ht]
      unfold Lx.dz
      rw[hc,h45]
      rfl
    ·refine⟨false,.inr ⟨rfl,.inr ⟨by simp[hp],hp,?_⟩⟩,(λh=>nomatch h),λ_=>?_⟩
     rotate_left
     ·rw[ht]
      unfold Lx.dz
      rw[if_neg (by rw[hc];simp[h45])]
     ·rw[hbt,hc,beq_eq_false_iff_ne]
      unfold Lx.at_
      intro hx
      apply h45
      apply UInt8.toNat_inj.1
      show c.toNat=45
      have hx:(c.toNat:Int)=45:=hx
      omega
   ·refine⟨false,.inr ⟨rfl,.inl (decide_eq_false hp)⟩,(λh=>nomatch h),λ_=>?_⟩
    rw[ht]
    unfold Lx.dz
    have:s.data.toList=[]:=List.eq_nil_of_length_eq_zero (by omega)
    rw[this]
    obtain⟨⟨l⟩⟩:=s
    simp at this
    subst this
    rfl
  ·by_cases h4:4<=t.size
   ·obtain⟨m,hm⟩:∃m,t.size=m+3:=⟨t.size-3,by omega⟩
    have d4:decide (4<=(t.size:Int))=true:=by simp;omega
    have hrd:Lx.yj t.data.toList=(decide (PlainAid.bt t m=46)&&Lx.digit (PlainAid.bt t (m+2))&&Lx.digit (PlainAid.bt t (m+1))&&Lx.whole (t.extract 0 m).data.toList):=by
     unfold Lx.yj
     rw[hts,qR,qR,qR,hm,show m+3-3=m from by omega,show m+3-1=m+2 from by omega,show m+3-2=m+1 from by omega,Lib.extract_data]
     have:decide (4<=m+3)=true:=by simp;omega
     rw[this]
     rfl
    rw[hrd]
    have q3:(t.size:Int)-3=(m:Int):=by omega
    have q1:(t.size:Int)-1=((m+2:Nat):Int):=by omega
    have q2:(t.size:Int)-2=((m+1:Nat):Int):=by omega
    cases hb:decide (PlainAid.bt t m=46)with
    |false=>exact .point m d4 q3 (by omega) (by rw[beq_eq_false_iff_ne];simpa using hb)
    |true=>
     have hb':(PlainAid.bt t m==46)=true:=by simpa using hb
     cases hc:Lx.digit (PlainAid.bt t (m+2))with
     |false=>exact .last m d4 q3 (by omega) q1 (by omega) hb' hc
     |true=>
      cases hd:Lx.digit (PlainAid.bt t (m+1))with
      |false=>exact .one m d4 q3 (by omega) q1 (by omega) q2 (by omega) hb' hc hd
      |true=>exact .all m _ d4 q3 (by omega) q1 (by omega) q2 (by omega) hb' hc hd (Lib.hid rfl)
   ·have hrd:Lx.yj t.data.toList=false:=by
     unfold Lx.yj
     rw[hts]
     simp[h4]
    rw[hrd]
    exact .short (by simp;omega)
inductive l5:Bool->Bool->Bool->Bool->Bool->Bool->Int->Int->Prop where
 |date (g s m n o:Bool):l5 true g s m n o 4 0
 |num (m n o:Bool):l5 false true true m n o 2 0
 |decG (n o:Bool):l5 false true false true n o 3 0
 |dec (s n o:Bool):l5 false false s true n o 3 0
 |nameG (o:Bool):l5 false true false false true o 1 0
 |name (s o:Bool):l5 false false s false true o 1 0
 |wordG:l5 false true false false false true 0 0
 |word (s:Bool):l5 false false s false false true 0 0
 |noneG:l5 false true false false false false 0 30
 |none (s:Bool):l5 false false s false false false 0 30
theorem Kv (s:ByteArray)(w:World)(h1:s.size<=32)(bd bg bs bm bn bw:Bool)(k e:Int)(iH:l5 bd bg bs bm bn bw k e)(h16:decide ((s.size:Int)<=16)=bs)
 (m1:Calls Tryz.prog 78 #[.string s] w λe w'=>e=.returned (.bool bd)/\w=w')
 (m2:Calls Tryz.prog 79 #[.string s] w λe w'=>e=.returned (.bool bg)/\w=w')
 (m3:Calls Tryz.prog 80 #[.string s] w λe w'=>e=.returned (.bool bm)/\w=w')
 (m4:Calls Tryz.prog 81 #[.string s] w λe w'=>e=.returned (.bool bn)/\w=w')
 (m5:Calls Tryz.prog 82 #[.string s] w λe w'=>e=.returned (.bool bw)/\w=w'):
 Calls Tryz.prog 44 #[.string s] w λx w'=>x=.returned (.tuple #[.int .i64 k,.int .i64 e])/\w=w':=by
 cases iH
 all_goals
  go_enter Tryz.func44,Tryz.ntmps44
  go_wp2_with ((first|(go_at_call 78;refine m1.mono ?_)|(go_at_call 79;refine m2.mono ?_)|(go_at_call 80;refine m3.mono ?_)|(go_at_call 81;refine m4.mono ?_)|(go_at_call 82;refine m5.mono ?_));rintro e w1 ⟨rfl,rfl⟩)
  go_ret2
  exact⟨rfl,rfl⟩
theorem Bo (s:ByteArray)(w:World)(_h1:s.size<=1000000)(h2:(32:Int)<(s.size:Int)):
 Calls Tryz.prog 44 #[.string s] w λx w'=>x=.returned (.tuple #[.int .i64 0,.int .i64 5])/\w=w':=by
 go_enter Tryz.func44,Tryz.ntmps44
 go_wp2_with fail
 go_ret2
 exact⟨rfl,rfl⟩
theorem yz (s:ByteArray)(w:World)(h1:s.size<=1000000):
 Calls Tryz.prog 44 #[.string s] w λx w'=>x=.returned (.tuple #[.int .i64 (Lx.aI s).1,.int .i64 (Lx.aI s).2])/\w=w':=by
 rw[Lx.Av]
 have hl:s.data.toList.length=s.size:=by obtain⟨⟨l⟩⟩:=s;rfl
 by_cases h:32<s.size
 ·rw[show Lx.Bf s.data.toList=(0,5)from by unfold Lx.Bf;rw[if_pos (by rw[hl];exact h)]]
  exact Bo s w h1 (by omega)
 ·refine Kv s w (by omega) (Lx.kU s.data.toList) (Lx.whole s.data.toList) (decide ((s.size:Int)<=16)) (Lx.dR s.data.toList) (Lx.all Lx.named s.data.toList) (Lx.all Lx.lower s.data.toList) _ _ ?_ rfl (NV s w h1) (xA s w h1) (CJ s w (by omega)) (Nv s w h1) (Mr s w h1)
  have h16:decide (s.size<=16)=decide ((s.size:Int)<=16):=by
   by_cases hh:s.size<=16
   ·rw[decide_eq_true hh,decide_eq_true (by omega)]
   ·rw[decide_eq_false hh,decide_eq_false (by omega)]
  unfold Lx.Bf
  rw[if_neg (by rw[hl];exact h),hl,h16]
  generalize Lx.kU s.data.toList=bd
  generalize Lx.whole s.data.toList=bg
  generalize decide ((s.size:Int)<=16)=bs
  generalize Lx.dR s.data.toList=bm
  generalize Lx.all Lx.named s.data.toList=bn
  generalize Lx.all Lx.lower s.data.toList=bw
  cases bd with
  |true=>exact .date _ _ _ _ _
  |false=>
   cases bg with
   |true=>
    cases bs with
    |true=>exact .num _ _ _
    |false=>
     cases bm with
     |true=>exact .decG _ _
     |false=>
      cases bn with
      |true=>exact .nameG _
      |false=>
       cases bw with
       |true=>exact .wordG
       |false=>exact .noneG
   |false=>
    cases bm with
    |true=>exact .dec _ _ _
    |false=>
     cases bn with
     |true=>exact .name _ _
     |false=>
      cases bw with
      |true=>exact .word _
      |false=>exact .none _
end Go.Proofs.YthijakidnkhbnaaGreatDoor
namespace Go.Proofs.YthijakidnkhbnaaGreatDoor.Lx
open Go
def jE:Bool->Bt->Bt
 |_,[]=>[]
 |b,c::l=>if (decide (c=35)&&b)=true then[]else c::jE (blank (c.toNat:Int)) l
def isB (b:Bool)(l:Bt)(i:Nat):Bool:=(l[i]? ==some 35)&&(if i=0 then b else((l[i-1]?).map λc=>blank (c.toNat:Int)).getD false)
theorem Bh:∀(l:Bt) (b:Bool) (k:Nat),k<l.length->isB b l k=true->(∀j,j<k->isB b l j=false)->jE b l=l.take k
 |[],b,k,h,_,_=>by simp at h
 |c::l,b,0,_,hk,_=>by
  unfold isB at hk
  unfold jE
  rw[if_pos (by simpa using hk)]
  rfl
 |c::l,b,k+1,h,hk,hlow=>by
  have h0:=hlow 0 (by omega)
  unfold isB at h0
  unfold jE
  have hn:¬(decide (c=35)&&b)=true:=by
   intro hc
   simp at hc
   simp[hc]at h0
  rw[if_neg hn,List.take_succ_cons]
  congr 1
  have e:∀j,isB (blank (c.toNat:Int)) l j=isB b (c::l) (j+1):=λj=>by
   unfold isB
   cases j with
   |zero=>simp
   |succ j=>simp
  exact Bh l _ k (by simpa using h) (by rw[e];exact hk) λj hj=>by rw[e];exact hlow _ (by omega)
theorem wh:∀(l:Bt) (b:Bool),(∀j,j<l.length->isB b l j=false)->jE b l=l
 |[],b,_=>rfl
 |c::l,b,hlow=>by
  have h0:=hlow 0 (by simp)
  unfold isB at h0
  unfold jE
  have hn:¬(decide (c=35)&&b)=true:=by
   intro hc
   simp at hc
   simp[hc]at h0
  rw[if_neg hn]
  congr 1
  have e:∀j,isB (blank (c.toNat:Int)) l j=isB b (c::l) (j+1):=λj=>by
   unfold isB
   cases j with
   |zero=>simp
   |succ j=>simp
  exact wh l _ λj hj=>by rw[e];exact hlow _ (by simp;omega)
theorem Ca (l:Bt)(i:Nat):isC l i=isB true l i:=by
 unfold isC isB
 by_cases h:i=0
 ·simp[h]
 ·have:(i==0)=false:=by simp[h]
  rw[this,if_neg h,Bool.false_or]
theorem Ad (l:Bt):l.take (cutAt l)=jE true l:=by
 by_cases h:∃k,k<l.length/\isC l k=true
 ·obtain⟨k,⟨h1,h2⟩,h3⟩:∃k,(k<l.length/\isC l k=true)/\∀j,j<k->isC l j=false:=by
   obtain⟨k0,h0⟩:=h
   have hex:∃n,n=k0:=⟨k0,rfl⟩
   clear hex
   induction k0 using Nat.strongRecOn with
   |ind k0 ih=>
    by_cases hl:∃j,j<k0/\isC l j=true
    ·obtain⟨j,hj,hc⟩:=hl
     exact ih j hj ⟨by omega,hc⟩
    ·exact⟨k0,h0,λj hj=>by
      cases hc:isC l j with
      |false=>rfl
      |true=>exact absurd ⟨j,hj,hc⟩ hl⟩
  rw[qm l k h1 h2 h3]
  rw[Ca]at h2
  exact(Bh l true k h1 h2 λj hj=>by rw[<-Ca];exact h3 j hj).symm
 ·have hm:∀j,j<l.length->isC l j=false:=λj hj=>by
   cases hc:isC l j with
   |false=>rfl
   |true=>exact absurd ⟨j,hj,hc⟩ h
  rw[uT l hm,List.take_length]
  exact(wh l true λj hj=>by rw[<-Ca];exact hm j hj).symm
theorem uR (s:ByteArray):(aZ s).data.toList=jE true s.data.toList:=by
 unfold aZ
 rw[fe,<-Ad]
 rfl
theorem vJ:∀(t l:Bt) (b:Bool),FT t=true->t≠[]->(b=true->t.head?≠some 35)->jE b (t++l)=t++jE false l
 |[],l,b,_,h,_=>absurd rfl h
 |c::t,l,b,h,_,hb=>by
  unfold FT at h
  rw[List.all_cons,Bool.and_eq_true]at h
  have hcb:blank (c.toNat:Int)=false:=by simpa using h.1
  rw[List.cons_append]
  conv=>lhs;unfold jE
  have hn:¬(decide (c=35)&&b)=true:=by
   intro hc
   simp at hc
   exact hb hc.2 (by simp[hc.1])
  rw[if_neg hn,hcb]
  cases t with
  |nil=>rfl
  |cons d t=>rw[vJ (d::t) l false h.2 (by simp) (by simp)];rfl
theorem Ic (l:Bt)(h:∀c r,l=c::r->blank (c.toNat:Int)=true):jE false l=jE true l:=by
 cases l with
 |nil=>rfl
 |cons c l=>
  have hc:¬c=35:=by
   rintro rfl
   have:=h _ _ rfl
   revert this;decide
  unfold jE
  simp[hc]
def kE:Nat->Bt->Nat->List Tok->List Tok×Int×Int
 |0,_,_,acc=>(acc,0,0)
 |_+1,[],_,acc=>(acc,0,0)
 |f+1,c::l,a,acc=>
  if blank (c.toNat:Int)=true then kE f l (a+1) acc
  else if c=35 then(acc,0,0)
  else if (aI ⟨((c::l).take (run (λc=>!blank c) (c::l))).toArray⟩).2=0 then
   kE f ((c::l).drop (run (λc=>!blank c) (c::l))) (a+run (λc=>!blank c) (c::l)) (acc++[((aI ⟨((c::l).take (run (λc=>!blank c) (c::l))).toArray⟩).1,⟨((c::l).take (run (λc=>!blank c) (c::l))).toArray⟩,a)])
  else([],(a:Int),(aI ⟨((c::l).take (run (λc=>!blank c) (c::l))).toArray⟩).2)
theorem xB (p:Int->Bool)(l:Bt):∃t r,l=t++r/\run p l=t.length/\t.all (λc=>p (c.toNat:Int))=true/\∀c r',r=c::r'->p (c.toNat:Int)=false:=by
 induction l with
 |nil=>exact⟨[],[],rfl,rfl,rfl,λc r' h=>by cases h⟩
 |cons x l ih=>
  by_cases hx:p (x.toNat:Int)=true
  ·obtain⟨t,r,h1,h2,h3,h4⟩:=ih
   refine⟨x::t,r,by rw[h1];rfl,?_,by simp[hx,h3],h4⟩
   have e:run p (x::l)=run p l+1:=by simp[run,hx]
   rw[e,h2];rfl
  ·refine⟨[],x::l,rfl,?_,rfl,λc r' h=>?_⟩
   ·simp[run,hx]
   ·injection h with h1 _
    subst h1
    simpa using hx
theorem qY:∀(f g:Nat) (l:Bt) (a:Nat) (acc:List Tok),l.length<=f->l.length<=g->oL f l a acc=oL g l a acc
 |0,g,l,a,acc,hf,hg=>by
  obtain rfl:=List.eq_nil_of_length_eq_zero (Nat.le_zero.1 hf)
  rw[lD 0 [] a acc rfl,lD g [] a acc rfl]
 |f+1,0,l,a,acc,hf,hg=>by
  obtain rfl:=List.eq_nil_of_length_eq_zero (Nat.le_zero.1 hg)
  rw[lD 0 [] a acc rfl,lD (f+1) [] a acc rfl]
 |f+1,g+1,l,a,acc,hf,hg=>by
  rw[iN,iN]
  obtain⟨k,hk⟩:∃k,k=run blank l:=⟨_,rfl⟩
  obtain⟨t,ht⟩:∃t,t=(l.drop k).take (run (λc=>!blank c) (l.drop k)):=⟨_,rfl⟩
  rw[<-hk,<-ht]
  by_cases h0:t=[]
  ·unfold wN;rw[if_pos h0,if_pos h0]
  ·have hp:=List.length_pos_iff.2 h0
   by_cases hcl:(aI ⟨t.toArray⟩).2=0
   ·rw[kM _ _ _ _ _ h0 hcl,kM _ _ _ _ _ h0 hcl]
    exact qY f g _ _ _ (by rw[List.length_drop];omega) (by rw[List.length_drop];omega)
   ·rw[jB _ _ _ _ _ h0 hcl,jB _ _ _ _ _ h0 hcl]
theorem Jz (f a:Nat)(acc:List Tok):kE f [] a acc=(acc,0,0):=by cases f<;>rfl
theorem qg:∀(f:Nat) (l:Bt) (a:Nat) (acc:List Tok),l.length<f->oL f (jE true l) a acc=kE f l a acc
 |0,l,a,acc,h=>by omega
 |f+1,[],a,acc,h=>rfl
 |f+1,c::l,a,acc,h=>by
  have h:l.length<f:=by simpa using h
  by_cases hb:blank (c.toNat:Int)=true
  ·unfold kE
   rw[if_pos hb,<-qg f l (a+1) acc h]
   have hc:¬c=35:=by
    rintro rfl
    revert hb;decide
   have e1:jE true (c::l)=c::jE true l:=by
    conv=>lhs;unfold jE
    rw[if_neg (by simp[hc]),hb]
   rw[e1]
   obtain⟨m,hm⟩:∃m,m=jE true l:=⟨_,rfl⟩
   rw[<-hm]
   have qB:m.length<=l.length:=by
    rw[hm,<-Ad,List.length_take];omega
   have hmf:m.length<f:=by omega
   clear hm e1
   cases f with
   |zero=>omega
   |succ f=>
    have er:run blank (c::m)=run blank m+1:=by simp[run,hb]
    rw[iN,er,List.drop_succ_cons,iN]
    obtain⟨k,hk⟩:∃k,k=run blank m:=⟨_,rfl⟩
    obtain⟨t,ht⟩:∃t,t=(m.drop k).take (run (λc=>!blank c) (m.drop k)):=⟨_,rfl⟩
    rw[<-hk,<-ht]
    by_cases h0:t=[]
    ·unfold wN;rw[if_pos h0,if_pos h0]
    ·by_cases hcl:(aI ⟨t.toArray⟩).2=0
     ·rw[kM _ _ _ _ _ h0 hcl,kM _ _ _ _ _ h0 hcl,show k+1+t.length=k+t.length+1 from by omega,List.drop_succ_cons,show a+(k+1)+t.length=a+1+k+t.length from by omega,show a+(k+1)=a+1+k from by omega]
      refine qY _ _ _ _ _ ?_ ?_
      ·have:=List.length_pos_iff.2 h0
       rw[List.length_drop];omega
      ·have:=List.length_pos_iff.2 h0
       have:t.length<=m.length-k:=by rw[ht,List.length_take,List.length_drop];omega
       rw[List.length_drop];omega
     ·rw[jB _ _ _ _ _ h0 hcl,jB _ _ _ _ _ h0 hcl,show a+(k+1)=a+1+k from by omega]
  ·have hbf:blank (c.toNat:Int)=false:=by simpa using hb
   unfold kE
   rw[if_neg hb]
   by_cases hc:c=35
   ·rw[if_pos hc]
    subst hc
    rw[show jE true (35::l)=[]from rfl]
    exact lD _ [] _ _ rfl
   ·rw[if_neg hc]
    obtain⟨t,r,e1,e2,e3,e4⟩:=xB (λc=>!blank c) (c::l)
    rw[e2]
    have ht0:t≠[]:=by
     rintro rfl
     have:=e4 c l (by simpa using e1.symm)
     simp[hbf]at this
    have hhd:t.head? =some c:=by
     cases t with
     |nil=>exact absurd rfl ht0
     |cons x t=>rw[List.cons_append]at e1;injection e1 with e1 _;subst e1;rfl
    rw[e1,List.take_left,List.drop_left]
    have e4':∀c r',r=c::r'->blank (c.toNat:Int)=true:=λc r' h=>by simpa using e4 c r' h
    rw[vJ t r true e3 ht0 (λ_=>by rw[hhd];simpa using hc),Ic r e4']
    have hcut:∀c r',jE true r=c::r'->blank (c.toNat:Int)=true:=λx r' h=>by
     cases r with
     |nil=>cases h
     |cons y r=>
      unfold jE at h
      split at h
      ·cases h
      ·injection h with h1 _
       subst h1
       exact e4' _ _ rfl
    have e5:=G6 f [] t (jE true r) a acc rfl e3 ht0 hcut
    rw[List.nil_append]at e5
    rw[e5]
    have hrl:r.length<f:=by
     have:=congrArg List.length e1
     rw[List.length_append,List.length_cons]at this
     have:=List.length_pos_iff.2 ht0
     omega
    by_cases hcl:(aI ⟨t.toArray⟩).2=0
    ·rw[if_pos hcl,if_pos hcl,qg f r _ _ hrl]
     rfl
    ·rw[if_neg hcl,if_neg hcl]
     rfl
theorem Ao (s:ByteArray):aO s=if 1024<s.size then([],1024,5)else kE (s.size+1) s.data.toList 0 []:=by
 unfold aO
 split
 ·rfl
 ·have hl:s.data.toList.length=s.size:=by obtain⟨⟨l⟩⟩:=s;rfl
  have hu:(aZ s).data.toList.length=(aZ s).size:=by obtain⟨⟨l⟩⟩:=aZ s;rfl
  have hus:(aZ s).size<=s.size:=by
   unfold aZ
   rw[ByteArray.size_extract]
   omega
  rw[rE _ _ _ _ (Nat.zero_le _),List.drop_zero,qY _ (s.size+1) _ _ _ (by omega) (by omega),uR]
  exact qg (s.size+1) s.data.toList 0 [] (by omega)
end Go.Proofs.YthijakidnkhbnaaGreatDoor.Lx
namespace Go.Proofs.YthijakidnkhbnaaGreatDoor
open Go.RowKit
theorem PI (s:ByteArray)(a:Nat)(c:UInt8)(l:List UInt8)(h:s.data.toList.drop a=c::l):a<s.size/\PlainAid.bt s a=(c.toNat:Int)/\s.data.toList.drop (a+1)=l:=by
 have hl:s.data.toList.length=s.size:=by obtain⟨⟨l⟩⟩:=s;rfl
 have hlt:a<s.data.toList.length:=by
  rcases Nat.lt_or_ge a s.data.toList.length with h'|h'
  ·exact h'
  ·rw[List.drop_eq_nil_of_le h']at h;cases h
 have h2:s.data.toList[a]? =some c:=by
  have:=congrArg (λl=>l[0]?) h
  simpa using this
 refine⟨by omega,?_,?_⟩
 ·rw[<-qR]
  unfold Lx.at_
  rw[List.getD_eq_getElem?_getD,h2]
  rfl
 ·have:=congrArg (List.drop 1) h
  rw[List.drop_drop]at this
  simpa using this
theorem OD (s:ByteArray)(a:Nat)(ha:a<s.size):(Lx.blank (PlainAid.bt s a)=true/\∀f acc,Lx.kE (f+1) (s.data.toList.drop a) a acc=Lx.kE f (s.data.toList.drop (a+1)) (a+1) acc)\/
 (Lx.blank (PlainAid.bt s a)=false/\PlainAid.bt s a=35/\∀f acc,Lx.kE (f+1) (s.data.toList.drop a) a acc=(acc,0,0))\/
 (Lx.blank (PlainAid.bt s a)=false/\¬PlainAid.bt s a=35/\∃r,0<r/\a+r<=s.size/\(∀j,j<r->Lx.blank (PlainAid.bt s (a+j))=false)/\(a+r<s.size->Lx.blank (PlainAid.bt s (a+r))=true)/\
  ∀f acc,Lx.kE (f+1) (s.data.toList.drop a) a acc=if (Lx.aI (s.extract a (a+r))).2=0 then Lx.kE f (s.data.toList.drop (a+r)) (a+r) (acc++[((Lx.aI (s.extract a (a+r))).1,s.extract a (a+r),a)])else([],(a:Int),(Lx.aI (s.extract a (a+r))).2)):=by
 have hl:s.data.toList.length=s.size:=by obtain⟨⟨l⟩⟩:=s;rfl
 obtain⟨c,l,hc⟩:∃c l,s.data.toList.drop a=c::l:=by
  cases h:s.data.toList.drop a with
  |nil=>have:=congrArg List.length h;rw[List.length_drop]at this;simp at this;omega
  |cons c l=>exact⟨c,l,rfl⟩
 obtain⟨_,hb,hd⟩:=PI s a c l hc
 rw[hb,hd,hc]
 by_cases h1:Lx.blank (c.toNat:Int)=true
 ·exact .inl ⟨h1,λf acc=>by conv=>lhs;unfold Lx.kE
                            rw[if_pos h1]⟩
 ·have h1f:Lx.blank (c.toNat:Int)=false:=by simpa using h1
  by_cases h2:c=35
  ·exact .inr (.inl ⟨h1f,by rw[h2];rfl,λf acc=>by conv=>lhs;unfold Lx.kE
                                                  rw[if_neg h1,if_pos h2]⟩)
  ·refine .inr (.inr ⟨h1f,?_,?_⟩)
   ·intro h
    apply h2
    apply UInt8.toNat_inj.1
    show c.toNat=35
    omega
   ·obtain⟨t,r,e1,e2,e3,e4⟩:=Lx.xB (λc=>!Lx.blank c) (c::l)
    have htl:a+t.length<=s.size:=by
     have:=congrArg List.length e1
     rw[<-hc,List.length_drop,List.length_append]at this
     omega
    have hdt:s.data.toList.drop (a+t.length)=r:=by
     rw[<-List.drop_drop,hc,e1,List.drop_left]
    have hex:s.extract a (a+t.length)=⟨t.toArray⟩:=by
     rw[Lx.fe,hc,e1,Nat.add_sub_cancel_left,List.take_left]
    refine⟨t.length,?_,htl,λj hj=>?_,λhlt=>?_,λf acc=>?_⟩
    ·cases t with
     |nil=>
      have:=e4 c l (by simpa using e1.symm)
      simp[h1f]at this
     |cons _ _=>simp
    ·obtain⟨x,hx⟩:∃x,t[j]? =some x:=⟨_,List.getElem?_eq_getElem hj⟩
     have hbt:PlainAid.bt s (a+j)=(x.toNat:Int):=by
      rw[<-qR]
      unfold Lx.at_
      rw[List.getD_eq_getElem?_getD,<-List.getElem?_drop,hc,e1,List.getElem?_append_left hj,hx]
      rfl
     rw[hbt]
     rw[List.all_eq_true]at e3
     simpa using e3 x (List.mem_of_getElem? hx)
    ·cases r with
     |nil=>
      have:=congrArg List.length hdt
      rw[List.length_drop]at this
      simp at this
      omega
     |cons x r=>
      obtain⟨_,hb2,_⟩:=PI s (a+t.length) x r hdt
      rw[hb2]
      simpa using e4 x r rfl
    ·conv=>lhs;unfold Lx.kE
     rw[if_neg h1,if_neg h2,e2,e1,List.take_left,List.drop_left,hex,hdt]
theorem J6:(Tryz.prog.info? 53).map (λi=>(i.zero,i.size,i.bytes))=some (some (.agg #[.int .i64 0,.string ByteArray.empty,.int .i64 0]),3,32):=by kernel_rfl
theorem Da (s:ByteArray)(w:World)(_hs:s.size<=9223372036854775807)(h:(1024:Int)<(s.size:Int)):
 Calls Tryz.prog 15 #[.string s] w λe w'=>e=.returned (.tuple #[.slice none 0 0,.int .i64 1024,.int .i64 5])/\w=w':=by
 go_enter Tryz.func15,Tryz.ntmps15
 go_wp2_with fail
 go_ret3
 exact⟨rfl,rfl⟩
theorem Dh (s:ByteArray)(w:World)(hs:s.size<=1024)(Z:List Lx.Tok×Int×Int)(HZ:Hid (Lx.kE (s.size+1) s.data.toList 0 []=Z)):
 Calls Tryz.prog 15 #[.string s] w λe w'=>∃v,e=.returned (.tuple #[v,.int .i64 Z.2.1,.int .i64 Z.2.2])/\w'.ownsRow w.heap.size 53 3 v Z.1.length (Lx.bW Z.1)/\Below w.heap.size w w':=by
 obtain⟨i0,hi,hz0,hz1,hz2⟩:=info_parts J6
 have hub:=PlainAid.get_bt s
 have hbl:=Lib.hid λ(c:Int) (w:World)=>Jt c w
 go_enter Tryz.func15,Tryz.ntmps15
 go_wp2_with fail
 go_loopw [5,6] (λv i wr=>∃(acc:List Lx.Tok) (a f:Nat),a<=s.size/\i=.int .i64 a/\acc.length<=a/\s.size-a<f/\Hid (Below w.heap.size w wr)/\
  Hid (wr.ownsRow w.heap.size 53 3 v acc.length (Lx.bW acc))/\Hid (Lx.kE f (s.data.toList.drop a) a acc=Z)) (λ_ i _=>s.size-(RowKit.intOf i).toNat)
 case atStart=>exact⟨[],0,s.size+1,Nat.zero_le _,rfl,Nat.zero_le _,by omega,Lib.hid (Below.refl _ _),Lib.hid (World.ownsRow_nil _ _ _ _),HZ⟩
 case round=>
  obtain⟨acc,a,f,ha,rfl,hacc,hf,HB,HO,HR⟩:=hrel
  clear HZ
  by_cases hlt:a<s.size
  ·obtain⟨f,rfl⟩:∃g,f=g+1:=⟨f-1,by omega⟩
   have jc:(a:Int)<(s.size:Int):=by omega
   rcases OD s a hlt with⟨hb,hst⟩|⟨hb,zZ,hst⟩|⟨hb,zZ,r,hr0,hrs,hrb,hre,hst⟩
   ·
    have HR2:Hid (Lx.kE f (s.data.toList.drop (a+1)) (a+1) acc=Z):=Lib.hid (by rw[<-hst f acc];exact HR.out)
    obtain⟨c,hc⟩:∃c,PlainAid.bt s a=c:=⟨_,rfl⟩
    rw[hc]at hb
    have m1:=hbl.out c wr
    rw[hb]at m1
    have hw1:wrap64 ((a:Int)+1)=((a+1:Nat):Int):=by unfold wrap64;omega
    clear hst HR hb hbl
    go_wp2_with (go_at_call 43;refine m1.mono ?_;rintro e w1 ⟨rfl,rfl⟩)
    refine⟨⟨acc,a+1,f,by omega,by first|rfl|go_num,by omega,by omega,HB,HO,HR2⟩,by simp[RowKit.intOf]<;>omega⟩
   ·
    have HZ:Hid (Z=(acc,0,0)):=Lib.hid (by rw[<-HR.out,hst f acc])
    obtain⟨c,hc⟩:∃c,PlainAid.bt s a=c:=⟨_,rfl⟩
    rw[hc]at hb zZ
    have m1:=hbl.out c wr
    rw[hb]at m1
    subst zZ
    clear hst HR hb hbl
    go_wp2_with (go_at_call 43;refine m1.mono ?_;rintro e w1 ⟨rfl,rfl⟩)
    go_ret3
    rw[HZ.out]
    exact⟨_,rfl,HO.out,HB.out⟩
   ·
    obtain⟨E,hE⟩:∃E,s.extract a (a+r)=E:=⟨_,rfl⟩
    have hEs:E.size<=1000000:=by rw[<-hE,ByteArray.size_extract];omega
    have HZ:Hid ((if (Lx.aI E).2=0 then Lx.kE f (s.data.toList.drop (a+r)) (a+r) (acc++[((Lx.aI E).1,E,a)])else([],(a:Int),(Lx.aI E).2))=Z):=Lib.hid (by
     have:=hst f acc
     rw[hE]at this
     rw[<-HR.out,this])
    have hk:=λW=>yz E W hEs
    obtain⟨⟨kk,ee⟩,hq⟩:∃q,Lx.aI E=q:=⟨_,rfl⟩
    rw[hq]at HZ hk
    simp only at HZ hk
    have HRB:=Lib.hid hrb
    have HRE:=Lib.hid hre
    obtain⟨c,hc⟩:∃c,PlainAid.bt s a=c:=⟨_,rfl⟩
    rw[hc]at hb zZ
    obtain⟨wo,hwo⟩:∃wo:World,wo=wr:=⟨_,rfl⟩
    subst hwo
    have m1:=hbl.out c wo
    rw[hb]at m1
    have HK:=Lib.hid hk
    have h35b:(c==35)=false:=by rw[beq_eq_false_iff_ne];exact zZ
    clear hst HR hb hrb hre hq hk hEs zZ
    go_wp2_with (go_at_call 43;refine m1.mono ?_;rintro e w1 ⟨rfl,rfl⟩)
    clear m1
    go_loopw [7] (λev wx=>∃j:Nat,ev=.int .i64 ((a+j:Nat):Int)/\j<=r/\wx=wo) (λev _=>2000-(RowKit.intOf ev).toNat)
    case atStart=>exact⟨0,by simp,Nat.zero_le _,rfl⟩
    case round=>
     obtain⟨j,rfl,hj,rfl⟩:=hrel
     by_cases hjr:j<r
     ·have hjs:a+j<s.size:=by omega
      have hjsI:((a+j:Nat):Int)<(s.size:Int):=by omega
      have hbj:=HRB.out j hjr
      obtain⟨d,hd⟩:∃d,PlainAid.bt s (a+j)=d:=⟨_,rfl⟩
      rw[hd]at hbj
      have m2:=hbl.out d wr
      rw[hbj]at m2
      have hw2:wrap64 (((a+j:Nat):Int)+1)=((a+(j+1):Nat):Int):=by unfold wrap64;omega
      obtain⟨e,he⟩:∃e,e=a+j:=⟨_,rfl⟩
      have HE:=Lib.hid he
      rw[<-he]at hjs hjsI hd hw2⊢
      clear hbj HRB HRE HZ HK hbl he hE
      go_wp2_with (go_at_call 43;refine m2.mono ?_;rintro e w1 ⟨rfl,rfl⟩)
      refine⟨⟨j+1,by rw[show((e:Int)+1)=((a+(j+1):Nat):Int)from by rw[HE.out];omega],hjr,trivial⟩,by simp[RowKit.intOf]<;>omega⟩
     ·obtain rfl:j=r:=by omega
      obtain⟨e,he⟩:∃e,e=a+j:=⟨_,rfl⟩
      have HEE:=Lib.hid he
      have m3:=HK.out wr
      have hea:a<=e:=by omega
      have hae:a<e:=by omega
      have haI:(a:Int)<=(e:Int):=by omega
      have hesI:(e:Int)<=(s.size:Int):=by omega
      have hes:e<=s.size:=by omega
      have iH:(¬e<s.size/\¬(e:Int)<(s.size:Int))\/(e<s.size/\(e:Int)<(s.size:Int)/\∃d,PlainAid.bt s e=d/\Calls Tryz.prog 43 #[.int .u8 d] wr λx w'=>x=.returned (.bool true)/\wr=w'):=by
       by_cases h:e<s.size
       ·refine .inr ⟨h,by omega,_,rfl,?_⟩
        have:=hbl.out (PlainAid.bt s e) wr
        rw[show Lx.blank (PlainAid.bt s e)=true from by rw[he];exact HRE.out (by omega)]at this
        exact this
       ·exact .inl ⟨h,by omega⟩
      rw[<-he]at hE HZ hrs⊢
      clear HRB HRE HK hbl he hjr
      by_cases Mg:ee=0
      ·rw[if_pos Mg]at HZ
       subst Mg
       rcases iH with⟨w1,w2⟩|⟨w1,w2,d,hd,m2⟩
       all_goals
        go_wp2_with (first|(go_at_call 43;refine m2.mono ?_;rintro x w1 ⟨rfl,rfl⟩)|(go_at_call 44;refine m3.mono ?_;rintro x w1 ⟨rfl,rfl⟩)|(at_builtin;refine wpList_append_own _ rfl _ _ 48 rfl w.heap.size 53 i0 _ 3 32 Tryz.underlying48 hi hz0 hz1 hz2 rfl (by decide) _ _ _ rfl (HO.out.alloc _) ⟨wr.heap.size,0,none⟩ 1 1 [.int .i64 kk,.string E,.int .i64 (a:Int)] rfl rfl ?c1 ?c2 ?c3 ?c4 ?c5 ?_))
        case c1=>
         intro j u hj
         match j,hj with
         |0,hj=>simp at hj;subst hj;simp[Addr.add]
         |1,hj=>simp at hj;subst hj;simp[Addr.add]
         |2,hj=>simp at hj;subst hj;simp[Addr.add]
         |j+3,hj=>simp at hj
        case c2=>intro u hu;simp at hu;rcases hu with rfl|rfl|rfl<;>rfl
        case c3=>unfold maxLen;omega
        case c4=>omega
        case c5=>have:=HB.out.size;simp;omega
        intro v' w3 hown3 hgrow3 _
        have kX:=(HB.out.alloc HB.out.size _).grown hgrow3 (by have:=HB.out.size;simp;omega) (λk hk=>(HO.out.lt k hk).1)
        have HO3:=Lib.hid hown3
        have HB3:=Lib.hid kX
        clear hgrow3 hown3 kX
        go_wp2_with fail
        refine⟨⟨acc++[(kk,E,a)],e,f,hes,by first|rfl|go_num,by simp;omega,by omega,HB3,Lib.hid ?_,Lib.hid HZ.out⟩,by simp[RowKit.intOf]<;>omega⟩
        rw[Lx.kY,List.length_append]
        simpa[Lx.bW]using HO3.out
      ·have hbe:(ee !=0)=true:=by simpa using Mg
       rw[if_neg Mg]at HZ
       clear Mg
       rcases iH with⟨w1,w2⟩|⟨w1,w2,d,hd,m2⟩
       all_goals
        go_wp2_with (first|(go_at_call 43;refine m2.mono ?_;rintro x w1 ⟨rfl,rfl⟩)|(go_at_call 44;refine m3.mono ?_;rintro x w1 ⟨rfl,rfl⟩))
        go_ret3
        rw[<-HZ.out]
        exact⟨_,rfl,World.ownsRow_nil _ _ _ _,HB.out⟩
  ·have HZ:Hid (Z=(acc,0,0)):=Lib.hid (by
    have hl:s.data.toList.length=s.size:=by obtain⟨⟨l⟩⟩:=s;rfl
    rw[<-HR.out,List.drop_eq_nil_of_le (by omega),Lx.Jz])
   have jc:¬(a:Int)<(s.size:Int):=by omega
   clear HR hbl
   go_wp2_with fail
   go_ret3
   rw[HZ.out]
   exact⟨_,rfl,HO.out,HB.out⟩
theorem IX (s:ByteArray)(w:World)(hs:s.size<=9223372036854775807):
 Calls Tryz.prog 15 #[.string s] w λe w'=>∃v,e=.returned (.tuple #[v,.int .i64 (Lx.aO s).2.1,.int .i64 (Lx.aO s).2.2])/\w'.ownsRow w.heap.size 53 3 v (Lx.aO s).1.length (Lx.bW (Lx.aO s).1)/\Below w.heap.size w w':=by
 rw[Lx.Ao]
 by_cases h:1024<s.size
 ·rw[if_pos h]
  refine(Da s w hs (by omega)).mono ?_
  rintro e w' ⟨rfl,rfl⟩
  exact⟨_,rfl,World.ownsRow_nil _ _ _ _,Below.refl _ _⟩
 ·rw[if_neg h]
  exact Dh s w (by omega) _ (Lib.hid rfl)
def eT (l:List UInt8):List Value:=l.map λc=>.int .i64 ((c.toNat:Int)-48)
theorem nZ (a b:List UInt8):eT (a++b)=eT a++eT b:=by simp[eT]
theorem wP (a:List UInt8):(eT a).length=a.length:=by simp[eT]
theorem BN:(Tryz.prog.info? 3).map (λi=>(i.zero,i.size,i.bytes))=some (some (.int .i64 0),1,8):=by kernel_rfl
theorem KH (c:UInt8)(h:Id.bz (c.toNat:Int)=true)(hd:Id.digit (c.toNat:Int)=false):65<=c.toNat/\c.toNat<=90/\eT (Id.gI c)=[.int .i64 (((c.toNat:Int)-55)/10),.int .i64 (((c.toNat:Int)-55)%10)]:=by
 have hup:65<=c.toNat/\c.toNat<=90:=by
  unfold Id.bz Lx.upper at h
  unfold Id.digit at hd
  rw[hd]at h
  simp at h
  omega
 refine⟨hup.1,hup.2,?_⟩
 unfold Id.gI
 rw[hd,if_neg (by simp),Lib.decDigits_two (by omega) (by omega)]
 simp only[eT,List.map_cons,List.map_nil]
 have e1:(UInt8.ofNat (48+(c.toNat-55)/10)).toNat=48+(c.toNat-55)/10:=by rw[UInt8.toNat_ofNat'];omega
 have e2:(UInt8.ofNat (48+(c.toNat-55)%10)).toNat=48+(c.toNat-55)%10:=by rw[UInt8.toNat_ofNat'];omega
 rw[e1,e2]
 congr 1
 ·congr 1;omega
 ·congr 1;congr 1;omega
theorem EZ (s:ByteArray)(w:World)(hs:s.size<=1000)(hal:∀c∈s.data.toList,Id.bz (c.toNat:Int)=true):
 Calls Tryz.prog 150 #[.string s] w λe w'=>∃v,e=.returned v/\w'.ownsRow w.heap.size 3 1 v (Id.aa s.data.toList).length (eT (Id.aa s.data.toList))/\Below w.heap.size w w':=by
 obtain⟨i0,hi,hz0,hz1,hz2⟩:=info_parts BN
 have hub:=PlainAid.get_bt s
 have PQ:=Lib.hid hal
 clear hal
 go_enter Tryz.func150,Tryz.ntmps150
 go_wp2_with fail
 go_loopw [3,4,5] (λv i x5 wr=>∃k:Nat,k<=s.size/\i=.int .i64 k/\Hid (Below w.heap.size w wr)/\Hid (wr.ownsRow w.heap.size 3 1 v (Id.aa (s.data.toList.take k)).length (eT (Id.aa (s.data.toList.take k))))) (λ_ i _ _=>s.size-(RowKit.intOf i).toNat)
 case atStart=>exact⟨0,Nat.zero_le _,rfl,Lib.hid (Below.refl _ _),Lib.hid (World.ownsRow_nil _ _ _ _)⟩
 case round=>
  obtain⟨k,hk,rfl,HB,HO⟩:=hrel
  by_cases hlt:k<s.size
  ·have jc:(k:Int)<(s.size:Int):=by omega
   have hmem:s[k]∈s.data.toList:=by
    rw[List.mem_iff_getElem]
    exact⟨k,by rw[<-Lib.size_eq];exact hlt,by rw[Array.getElem_toList];rfl⟩
   have Ch:=PQ.out _ hmem
   have htk:∀c∈s.data.toList.take k,Id.bz (c.toNat:Int)=true:=λc hc=>PQ.out c (List.mem_of_mem_take hc)
   have hel:=Id.kK _ htk
   have Nk:(s.data.toList.take k).length<=k:=List.length_take_le _ _
   have HS:=Lib.hid (Id.rQ s k hlt)
   have HLEN:Hid ((Id.aa (s.data.toList.take k)).length<=2000):=Lib.hid (by omega)
   have hbc:=hub k hlt
   have hd:=λW=>wX (PlainAid.bt s k) W
   have hw1:wrap64 ((k:Int)+1)=((k+1:Nat):Int):=by unfold wrap64;omega
   have hk1:k+1<=s.size:=hlt
   cases hdg:Id.digit (PlainAid.bt s k)with
   |true=>
    rw[hdg]at hd
    have hx1:Id.gI s[k]=[s[k]]:=by
     unfold Id.gI
     rw[if_pos (by rw[hbc];exact hdg)]
    obtain⟨c,hc⟩:∃c,PlainAid.bt s k=c:=⟨_,rfl⟩
    have zC:48<=c/\c<=57:=by
     rw[hc]at hdg
     unfold Id.digit Lx.digit at hdg
     simp at hdg
     exact hdg
    have HX:Hid (eT (Id.aa (s.data.toList.take (k+1)))=eT (Id.aa (s.data.toList.take k))++[.int .i64 (c-48)]/\(Id.aa (s.data.toList.take (k+1))).length=(Id.aa (s.data.toList.take k)).length+1):=Lib.hid (by
     rw[HS.out,hx1,nZ,List.length_append]
     refine⟨?_,rfl⟩
     show _++[Value.int .i64 ((s[k].toNat:Int)-48)]=_
     rw[hbc,hc])
    rw[hc]at hbc hd
    have hwu:IntKind.u8.wrap (c-48)=c-48:=IntWalk.u8_in _ (by omega)
    have Ni:=hd wr
    generalize eT (Id.aa (s.data.toList.take k))=xs at *
    generalize (Id.aa (s.data.toList.take k)).length=n at *
    clear hdg Ch hmem htk hel Nk HS hx1 hub PQ hd hc
    go_wp2_with (first|(go_at_call 149;refine Ni.mono ?_;rintro e w1 ⟨rfl,rZ⟩;obtain rfl:=rZ.symm;clear rZ)|(at_builtin;refine wpList_append_own _ rfl _ _ 133 rfl w.heap.size 3 i0 _ 1 8 Tryz.underlying133 hi hz0 hz1 hz2 rfl (by decide) _ _ _ rfl (HO.out.alloc _) ⟨wr.heap.size,0,none⟩ 1 1 [.int .i64 (c-48)] rfl rfl ?c1 ?c2 ?c3 ?c4 ?c5 ?_))
    case c1=>
     intro j u hj
     match j,hj with
     |0,hj=>simp at hj;subst hj;simp[Addr.add]
     |j+1,hj=>simp at hj
    case c2=>intro u hu;simp at hu;rcases hu with rfl;rfl
    case c3=>have:=HLEN.out;unfold maxLen;omega
    case c4=>have:=HLEN.out;omega
    case c5=>have:=HB.out.size;simp;omega
    intro v' w3 hown3 hgrow3 _
    have kX:=(HB.out.alloc HB.out.size _).grown hgrow3 (by have:=HB.out.size;simp;omega) (λk hk=>(HO.out.lt k hk).1)
    have HO3:=Lib.hid hown3
    have HB3:=Lib.hid kX
    clear hgrow3 hown3 kX
    go_wp2_with fail
    refine⟨⟨k+1,hk1,by first|rfl|go_num,HB3,Lib.hid ?_⟩,by simp[RowKit.intOf]<;>omega⟩
    rw[HX.out.1,HX.out.2]
    exact HO3.out
   |false=>
    rw[hdg]at hd
    obtain⟨u1,u2,hx1⟩:=KH s[k] Ch (by rw[hbc];exact hdg)
    obtain⟨c,hc⟩:∃c,PlainAid.bt s k=c:=⟨_,rfl⟩
    have hc65:65<=c/\c<=90:=by
     have h1:(s[k].toNat:Int)=c:=hbc.trans hc
     omega
    have HX:Hid (eT (Id.aa (s.data.toList.take (k+1)))=eT (Id.aa (s.data.toList.take k))++[.int .i64 ((c-55)/10),.int .i64 ((c-55)%10)]/\(Id.aa (s.data.toList.take (k+1))).length=(Id.aa (s.data.toList.take k)).length+2):=Lib.hid (by
     have hl2:=congrArg List.length hx1
     rw[wP]at hl2
     rw[HS.out,nZ,hx1,List.length_append,hl2,hbc,hc]
     exact⟨rfl,rfl⟩)
    rw[hc]at hbc hd
    have hwu:IntKind.u8.wrap (c-65)=c-65:=IntWalk.u8_in _ (by omega)
    have Ni:=hd wr
    have e55:c-65+10=c-55:=by omega
    obtain⟨d,hdd⟩:∃d,c-55=d:=⟨_,rfl⟩
    have hd35:0<=d/\d<=35:=by omega
    rw[hdd]at e55 HX
    have q1:d.tdiv 10=d/10:=Int.tdiv_eq_ediv_of_nonneg hd35.1
    have q2:d.tmod 10=d%10:=Int.tmod_eq_emod_of_nonneg hd35.1
    generalize eT (Id.aa (s.data.toList.take k))=xs at *
    generalize (Id.aa (s.data.toList.take k)).length=n at *
    clear hdg Ch hmem htk hel Nk HS hx1 hub PQ hd hc hdd u1 u2
    go_wp2_with (first|(go_at_call 149;refine Ni.mono ?_;rintro e w1 ⟨rfl,rZ⟩;obtain rfl:=rZ.symm;clear rZ)|(at_builtin;refine wpList_append_own _ rfl _ _ 133 rfl w.heap.size 3 i0 _ 1 8 Tryz.underlying133 hi hz0 hz1 hz2 rfl (by decide) _ _ _ rfl (HO.out.alloc _) ⟨wr.heap.size,0,none⟩ 2 2 [.int .i64 (d/10),.int .i64 (d%10)] rfl rfl ?c1 ?c2 ?c3 ?c4 ?c5 ?_))
    case c1=>
     intro j u hj
     match j,hj with
     |0,hj=>simp at hj;subst hj;simp[Addr.add]
     |1,hj=>simp at hj;subst hj;simp[Addr.add]
     |j+2,hj=>simp at hj
    case c2=>intro u hu;simp at hu;rcases hu with rfl|rfl<;>rfl
    case c3=>have:=HLEN.out;unfold maxLen;omega
    case c4=>have:=HLEN.out;omega
    case c5=>have:=HB.out.size;simp;omega
    intro v' w3 hown3 hgrow3 _
    have kX:=(HB.out.alloc HB.out.size _).grown hgrow3 (by have:=HB.out.size;simp;omega) (λk hk=>(HO.out.lt k hk).1)
    have HO3:=Lib.hid hown3
    have HB3:=Lib.hid kX
    clear hgrow3 hown3 kX
    go_wp2_with fail
    refine⟨⟨k+1,hk1,by first|rfl|go_num,HB3,Lib.hid ?_⟩,by simp[RowKit.intOf]<;>omega⟩
    rw[HX.out.1,HX.out.2]
    exact HO3.out
  ·have hkk:k=s.size:=by omega
   have jc:¬(k:Int)<(s.size:Int):=by omega
   have HE:Hid (s.data.toList.take k=s.data.toList):=Lib.hid (List.take_of_length_le (by rw[<-Lib.size_eq];omega))
   rw[HE.out]at HO
   clear hub PQ
   go_wp2_with fail
   go_ret
   exact⟨_,rfl,HO.out,HB.out⟩
theorem GU (s L:ByteArray)(w:World)(hL:L.size<=2000)(hdig:Hid (∀j,j<L.size->48<=PlainAid.bt L j/\PlainAid.bt L j<=57))
 (nE:Hid (Calls Tryz.prog 150 #[.string s] w λe w'=>∃a c,e=.returned (.slice a L.size c)/\L.size<=c/\(0<L.size->∃sb,a=some ⟨sb,0,none⟩/\∀k,k<L.size->w'.cell? ⟨sb,k,none⟩=some (.int .i64 (PlainAid.bt L k-48)))/\Below w.heap.size w w')):
 Calls Tryz.prog 115 #[.string s] w λe w'=>e=.returned (.int .i64 ((10-Id.iX L L.size%10)%10))/\Below w.heap.size w w':=by
 have HBD:=Lib.hid (Id.Ai L hdig.out)
 go_enter Tryz.func115,Tryz.ntmps115
 go_wp2_with (go_at_call 150;refine nE.out.mono ?_;rintro e w1 ⟨a,c,rfl,hlc,hcell,hb1⟩;have HC:=Lib.hid hcell;have HB:=Lib.hid hb1;clear hcell hb1)
 go_loopw [4,5,6] (λsm i _ wr=>∃(k:Nat) (x:Int),k<=L.size/\i=.int .i64 k/\wr=w1/\sm=.int .i64 x/\Hid (x=Id.iX L k)) (λ_ i _ _=>L.size-(RowKit.intOf i).toNat)
 case atStart=>exact⟨0,0,Nat.zero_le _,rfl,rfl,rfl,Lib.hid rfl⟩
 case round=>
  obtain⟨k,x,hk,rfl,hwr,rfl,HX⟩:=hrel
  subst hwr
  have hbd:=HBD.out k hk
  rw[<-HX.out]at hbd
  by_cases hlt:k<L.size
  ·have jc:(k:Int)<(L.size:Int):=by omega
   obtain⟨sb,rfl,hcell⟩:=HC.out (by omega)
   obtain⟨j,hj⟩:∃j,j=L.size-1-k:=⟨_,rfl⟩
   have hjl:j<L.size:=by omega
   have hjI:(L.size:Int)-1-(k:Int)=(j:Int):=by omega
   have y1:=hcell j hjl
   have hdj:=hdig.out j hjl
   obtain⟨d,hd⟩:∃d,PlainAid.bt L j-48=d:=⟨_,rfl⟩
   have hd9:0<=d/\d<=9:=by omega
   have HT:Hid (Id.iX L (k+1)=x+(if (k:Int)%2=0 then d*2/10+d*2%10 else d/10+d%10)):=Lib.hid (by
    rw[HX.out,<-hd,hj];rfl)
   rw[hd]at y1
   have hx20:x<=36000/\0<=x:=by omega
   have hk1:k+1<=L.size:=hlt
   have hs1:wrap64 ((L.size:Int)-1)=(L.size:Int)-1:=by unfold wrap64;omega
   have hs2:wrap64 ((L.size:Int)-1-(k:Int))=(j:Int):=by unfold wrap64;omega
   have hw1:wrap64 ((k:Int)+1)=((k+1:Nat):Int):=by unfold wrap64;omega
   clear hcell hdj hd HX hj hbd HC HBD hdig
   by_cases hev:(k:Int)%2=0
   ·have hbe:((k:Int)%2==0)=true:=by simpa using hev
    have hbt:((k:Int).tmod 2==0)=true:=by rw[Int.tmod_eq_emod_of_nonneg (by omega)];exact hbe
    have HE:=Lib.hid hev
    clear hev
    go_wp2_with fail
    exact⟨⟨k+1,_,hk1,by first|rfl|go_num,by first|rfl|trivial,rfl,Lib.hid (by rw[HT.out,if_pos HE.out];omega)⟩,by simp[RowKit.intOf]<;>omega⟩
   ·have hbe:((k:Int)%2==0)=false:=by simpa using hev
    have hbt:((k:Int).tmod 2==0)=false:=by rw[Int.tmod_eq_emod_of_nonneg (by omega)];exact hbe
    have HE:=Lib.hid hev
    clear hev
    go_wp2_with fail
    exact⟨⟨k+1,_,hk1,by first|rfl|go_num,by first|rfl|trivial,rfl,Lib.hid (by rw[HT.out,if_neg HE.out];omega)⟩,by simp[RowKit.intOf]<;>omega⟩
  ·have hkk:k=L.size:=by omega
   have jc:¬(k:Int)<(L.size:Int):=by omega
   have HX2:Hid (x=Id.iX L L.size):=Lib.hid (by rw[HX.out,hkk])
   clear HC HBD hdig HX hkk
   go_wp2_with fail
   go_ret
   refine⟨?_,HB.out⟩
   rw[<-HX2.out]
   rfl
theorem Be (s:ByteArray)(w:World)(hs:s.size<=1000)(hal:∀c∈s.data.toList,Id.bz (c.toNat:Int)=true):
 ∃z:Int,0<=z/\z<=9/\Id.EN s.data.toList=Lib.decDigits z.toNat/\Calls Tryz.prog 115 #[.string s] w λe w'=>e=.returned (.int .i64 z)/\Below w.heap.size w w':=by
 have hlen:=Id.kK _ hal
 rw[<-Lib.size_eq]at hlen
 have hdig:=Id.xJ _ (Id.nX _ hal)
 obtain⟨L,hL⟩:∃L:ByteArray,L=⟨(Id.aa s.data.toList).toArray⟩:=⟨_,rfl⟩
 have hLs:L.size=(Id.aa s.data.toList).length:=by rw[hL];rfl
 rw[<-hL]at hdig
 refine⟨(10-Id.iX L L.size%10)%10,by omega,by omega,by rw[hL];rfl,GU s L w (by omega) (Lib.hid hdig) (Lib.hid ((EZ s w hs hal).mono ?_))⟩
 rintro e w' ⟨v,rfl,hv,hb⟩
 rw[<-hLs]at hv
 have hc:∃a c,v=.slice a L.size c/\L.size<=c/\(0<L.size->∃sb,a=some ⟨sb,0,none⟩/\∀k,k<L.size->w'.cell? ⟨sb,k,none⟩=some (.int .i64 (PlainAid.bt L k-48))):=by
  rcases hv.2 with⟨h1,h0⟩|⟨g,cap,cur,h1,hB,hh,hn,hcap,NN,htake⟩
  ·exact⟨none,0,by rw[h0];exact h1,by omega,λh=>by omega⟩
  ·refine⟨_,cap,h1,hn,λh0=>⟨g,rfl,λk hk=>?_⟩⟩
   have hcell:=hv.cells (g:=g) (by rw[h1];rfl) k (.int .i64 (PlainAid.bt L k-48)) (by
    unfold eT
    rw[List.getElem?_map,List.getElem?_eq_getElem (by rw[<-hLs];exact hk)]
    have e:PlainAid.bt L k=((Id.aa s.data.toList)[k]'(by rw[<-hLs];exact hk)).toNat:=by
     rw[<-PlainAid.get_bt L k hk]
     subst hL
     rfl
    rw[e]
    rfl)
   have add:∀j,(⟨g,0,none⟩:Addr).add j=⟨g,j,none⟩:=λj=>by unfold Addr.add;split<;>simp_all
   rwa [add]at hcell
 obtain⟨a,c,rfl,h1,h2⟩:=hc
 exact⟨a,c,rfl,h1,h2,hb⟩
theorem Ord.textD_skip {P:Program}{ops:Array Oper}{Q:Exit->Act->World->Prop}{S:Bool->World->Prop}{k0:Nat}{D:Nat->Bool}{k:Nat}{o:Oper}{rest:List Oper}{a:Act}(hw:Region.wanted o (yielded ops a.tmps)=false)(hk:decide (k=k0)=false)
 (h2:Ord.jQ P ops Q S k0 D (k+1) rest (a.put o.dst undef)):Ord.jQ P ops Q S k0 D k (o::rest) a:=⟨undef,λb _ _=>.inr ⟨hw,rfl,λw hS=>by rw[hk,Bool.or_false];exact hS⟩,h2⟩
theorem zh (s:ByteArray)(w:World)(e:Int)(j:Nat)(hs:s.size<=9223372036854775807)(cls:Nat->Int->Bool)(z c11:Int)
 (nL:Hid (∀w,Calls Tryz.prog 113 #[.int .i64 0] w λe w'=>e=.returned (.tuple #[.int .i64 12,.int .i64 12])/\w'=w))
 (nM:Hid (∀(i:Nat) (c:Int) w,i<12->Calls Tryz.prog 114 #[.int .i64 0,.int .i64 i,.int .u8 c] w λe w'=>e=.returned (.bool (cls i c))/\w'=w))
 (nU:Hid (s.size=12->j=12->∀W,Calls Tryz.prog 115 #[.string (s.extract 0 11)] W λe w'=>e=.returned (.int .i64 z)/\Below W.heap.size W w'))
 (Hz:PlainAid.bt s 11=c11) (zC:Hid (s.size=12->j=12->48<=c11/\c11<=57))
 (hjn:j<=12) (hjs:j<=s.size) (hgood:Hid (∀i,i<j->cls i (PlainAid.bt s i)=true))
 (iH:Hid ((j<12/\j<s.size/\cls j (PlainAid.bt s j)=false/\e=3)\/((j=12\/j=s.size)/\(((s.size:Int)<12/\e=4)\/(¬(s.size:Int)<12/\(s.size:Int)>12/\e=5)\/(¬(s.size:Int)<12/\¬(s.size:Int)>12/\e=if c11-48=z then 0 else 18))))):
 Calls Tryz.prog 73 #[.int .i64 0,.string s] w λx w'=>(∃z:Int,x=.returned (.tuple #[.int .i64 z,.int .i64 e]))/\Below w.heap.size w w':=by
 have hub:=PlainAid.get_bt s
 go_enter Tryz.func73,Tryz.ntmps73
 go_wp2_with (go_at_call 113;refine(nL.out _).mono ?_;rintro x w1 ⟨rfl,rZ⟩;obtain rfl:=rZ.symm;clear rZ)
 go_loopw [8] (λiv wr=>∃i:Nat,iv=.int .i64 i/\i<=j/\wr=w) (λiv _=>2000-(RowKit.intOf iv).toNat)
 case atStart=>exact⟨0,rfl,Nat.zero_le _,rfl⟩
 case round=>
  obtain⟨i,rfl,hi,hwr⟩:=hrel
  subst hwr
  by_cases hlt:i<j
  ·have hx:i<s.size:=by omega
   have hxi:(i:Int)<(s.size:Int):=by omega
   have hxh:(i:Int)<12:=by omega
   have m1:=λw=>nM.out i (PlainAid.bt s i) w (by omega)
   simp only[hgood.out i hlt]at m1
   clear iH zC nU Hz
   go_wp2_with (go_at_call 114;refine(m1 _).mono ?_;rintro x w1 ⟨rfl,rZ⟩;obtain rfl:=rZ.symm;clear rZ)
   go_roundw
   case rel=>exact⟨i+1,by go_num,by omega,by first|rfl|trivial⟩
   case measure=>simp[RowKit.intOf];omega
  ·obtain rfl:i=j:=by omega
   rcases iH.out with⟨h1,h2,h3,rfl⟩|⟨h1,h4⟩
   ·have hxi:(i:Int)<(s.size:Int):=by omega
    have hxh:(i:Int)<12:=by omega
    have m1:=λw=>nM.out i (PlainAid.bt s i) w (by omega)
    simp only[h3]at m1
    clear iH zC nU Hz
    go_wp2_with (go_at_call 114;refine(m1 _).mono ?_;rintro x w1 ⟨rfl,rZ⟩;obtain rfl:=rZ.symm;clear rZ)
    go_ret2
    exact⟨⟨_,rfl⟩,Below.refl _ _⟩
   ·have hnc:¬(i:Int)<(s.size:Int)\/((i:Int)<(s.size:Int)/\¬(i:Int)<12):=by omega
    rcases h4 with⟨h5,rfl⟩|⟨h5,h6,rfl⟩|⟨h5,h6,he⟩
    ·clear iH zC nU Hz
     rcases hnc with hc|⟨hc,hc2⟩
     all_goals
      first
       |(exfalso;omega)
       |(go_wp2_with fail
         go_ret2
         exact⟨⟨_,rfl⟩,Below.refl _ _⟩)
    ·clear iH zC nU Hz
     rcases hnc with hc|⟨hc,hc2⟩
     all_goals
      first
       |(exfalso;omega)
       |(go_wp2_with fail
         go_ret2
         exact⟨⟨_,rfl⟩,Below.refl _ _⟩)
    ·have IA:s.size=12:=by omega
     have hi12:i=12:=by omega
     have hc:¬(i:Int)<(s.size:Int):=by omega
     have hU:=nU.out IA hi12
     have h48:=zC.out IA hi12
     have h11:11<s.size:=by omega
     have h11I:(11:Int)<(s.size:Int):=by omega
     have h11L:(11:Int)<=(s.size:Int):=by omega
     have h11N:11<=s.size:=by omega
     have hb:=hub 11 h11
     rw[Hz]at hb
     have hwu:IntKind.u8.wrap (c11-48)=c11-48:=IntWalk.u8_in _ (by omega)
     have hwi:IntKind.i64.wrap (c11-48)=c11-48:=IntWalk.i64_in _ (by omega)
     have HE:=Lib.hid he
     have HU:=Lib.hid hU
     obtain⟨E,hE⟩:∃E,s.extract 0 11=E:=⟨_,rfl⟩
     rw[hE]at HU
     clear iH zC nU hU he hnc hgood h1 hi12 IA hub Hz
     by_cases hz:c11-48=z
     ·have hnz:(c11-48 !=z)=false:=by simp[hz]
      have he0:e=0:=by rw[HE.out,if_pos hz]
      subst he0
      clear HE hnz
      subst hz
      go_upto_region 13 with fail
      go_region_with (first|(go_at_call 115;refine(HU.out _).mono ?_;rintro x w1 ⟨rfl,hbw⟩))
      all_goals
       have HBW:=Lib.hid ((Below.refl _ _).drew.trans (hbw.mono (by first|exact Nat.le_refl _|(simp;done))))
       clear hbw
       go_upto_region 15 with fail
       clear hwi hwu hb h48 nL nM HU h5 h6 h11 h11I h11L h11N hc
       obtain⟨W9,JR⟩:∃W9,W9=w1.drew:=⟨_,rfl⟩
       refine Ord.sP (λ_ w=>w=W9) 1000 (λ_=>false) (λ_ _ _ h=>by cases h) rfl (by kernel_rfl) (by kernel_rfl) (by exact JR.symm) ?_
       refine Ord.kF (v:=?_) rfl rfl (λw=>?_) (λK hK=>?_)
       rotate_left
       ·(go_simp;first|done|exact rfl)
       go_simp
       refine hK _ ?_
       clear hK K
       refine Ord.kF (v:=?_) rfl rfl (λw=>?_) (λK hK=>?_)
       rotate_left
       ·(go_simp;first|done|exact rfl)
       go_simp
       refine hK _ ?_
       clear hK K
       refine Ord.kF (v:=?_) rfl rfl (λw=>?_) (λK hK=>?_)
       rotate_left
       ·(go_simp;first|done|exact rfl)
       go_simp
       refine hK _ ?_
       clear hK K
       refine Ord.textD_skip rfl rfl ?_
       go_simp
       refine Ord.textD_skip rfl rfl ?_
       go_simp
       refine Ord.textD_skip rfl rfl ?_
       go_simp
       refine Ord.textD_skip rfl rfl ?_
       go_simp
       refine Ord.textD_skip rfl rfl ?_
       go_simp
       refine Ord.textD_skip rfl rfl ?_
       go_simp
       refine Ord.textD_skip rfl rfl ?_
       go_simp
       refine Ord.textD_skip rfl rfl ?_
       go_simp
       refine Ord.textD_skip rfl rfl ?_
       go_simp
       refine Ord.kF (v:=?_) rfl rfl (λw=>?_) (λK hK=>?_)
       rotate_left
       ·(go_simp;first|done|exact rfl)
       go_simp
       refine hK _ ?_
       clear hK K
       refine Ord.JE (λw9 iJ=>?_)
       subst iJ
       rename_i hKK
       refine hKK _ _ ?_
       clear hKK
       go_wp2_with fail
       go_ret2
       exact⟨⟨_,rfl⟩,by first|exact HBW.out.drew|(rw[JR];exact HBW.out.drew)⟩
     ·have hnz:(c11-48 !=z)=true:=by simp[hz]
      have he0:e=18:=by rw[HE.out,if_neg hz]
      subst he0
      clear HE
      go_upto_region 13 with fail
      go_region_with (first|(go_at_call 115;refine(HU.out _).mono ?_;rintro x w1 ⟨rfl,hbw⟩))
      all_goals
       have HBW:=Lib.hid ((Below.refl _ _).drew.trans (hbw.mono (by first|exact Nat.le_refl _|(simp;done))))
       clear hbw
       go_wp2_with fail
       go_ret2
       exact⟨⟨_,rfl⟩,HBW.out⟩
theorem Dc (s:ByteArray)(hs:s.size<=9223372036854775807)(w:World):
 Calls Tryz.prog 73 #[.int .i64 0,.string s] w λx w'=>(∃z:Int,x=.returned (.tuple #[.int .i64 z,.int .i64 (aY 0 s)]))/\Below w.heap.size w w':=by
 have nL:=Lib.hid λw=>rV 0 (by omega) w
 obtain⟨j,h1,h2,h3,h4⟩:=FJ 0 12 s rfl rfl
 have hfull:bC 0 s=0->s.size=12/\(∀c∈(s.extract 0 11).data.toList,Id.bz (c.toNat:Int)=true)/\Id.digit (PlainAid.bt s 11)=true:=λh0=>by
  obtain⟨k1,k2,k3⟩:=iI 0 s h0
  have e1:(aV 0).low=12:=rfl
  have e2:(bZ 0).length=12:=rfl
  rw[e1]at k1
  rw[e2]at k2
  exact⟨by omega,jR 0 (.inl rfl) s 11 h0,k3 11 (by omega)⟩
 obtain⟨z,hz0,hz9,hzl,hzU⟩:∃z:Int,0<=z/\z<=9/\(bC 0 s=0->Id.EN (s.extract 0 11).data.toList=Lib.decDigits z.toNat)/\(bC 0 s=0->∀W,Calls Tryz.prog 115 #[.string (s.extract 0 11)] W λe w'=>e=.returned (.int .i64 z)/\Below W.heap.size W w'):=by
  by_cases h0:bC 0 s=0
  ·obtain⟨IA,hal,_⟩:=hfull h0
   have hsz:(s.extract 0 11).size<=1000:=by rw[ByteArray.size_extract];omega
   obtain⟨z,q1,q2,q3,_⟩:=Be (s.extract 0 11) w hsz hal
   refine⟨z,q1,q2,λ_=>q3,λ_ W=>?_⟩
   obtain⟨z',p1,p2,p3,p4⟩:=Be (s.extract 0 11) W hsz hal
   have hzz:z'=z:=by
    have:=p3.symm.trans q3
    rw[Lib.decDigits_one (by omega),Lib.decDigits_one (by omega)]at this
    have h5:=congrArg (λl:List UInt8=>(l.head?.map UInt8.toNat).getD 0) this
    simp only[List.head?_cons,Option.map_some,Option.getD_some,UInt8.toNat_ofNat']at h5
    omega
   rw[hzz]at p4
   exact p4
  ·exact⟨0,by omega,by omega,λh=>absurd h h0,λh=>absurd h h0⟩
 have hj12:s.size=12->j=12->bC 0 s=0:=λe1 e2=>by
  rcases h4 with⟨k1,_⟩|⟨_,⟨k1,_⟩|⟨_,k1,_⟩|⟨_,_,k1⟩⟩
  ·omega
  ·have e3:nW 0=12:=rfl
   rw[e3]at k1;omega
  ·omega
  ·exact k1
 refine zh s w (aY 0 s) j hs (l7 0) z (PlainAid.bt s 11) nL (Lib.hid λi c w hi=>Fa 0 (by omega) i (by show(i:Int)<12;omega) c w) (Lib.hid λe1 e2=>hzU (hj12 e1 e2)) rfl (Lib.hid λe1 e2=>?_) h1 h2 (Lib.hid h3) (Lib.hid ?_)
 ·have:=(hfull (hj12 e1 e2)).2.2
  unfold Id.digit Lx.digit at this
  simpa using this
 ·have e3:nW 0=12:=rfl
  rw[e3]at h4
  rcases h4 with⟨k1,k2,k3,k4⟩|⟨k0,⟨k1,k2⟩|⟨k1,k2,k3⟩|⟨k1,k2,k3⟩⟩
  ·refine .inl ⟨k1,k2,k3,?_⟩
   unfold aY
   rw[if_pos (by rw[k4];decide),k4]
  ·refine .inr ⟨k0,.inl ⟨k1,?_⟩⟩
   unfold aY
   rw[if_pos (by rw[k2];decide),k2]
  ·refine .inr ⟨k0,.inr (.inl ⟨k1,k2,?_⟩)⟩
   unfold aY
   rw[if_pos (by rw[k3];decide),k3]
  ·refine .inr ⟨k0,.inr (.inr ⟨k1,k2,?_⟩)⟩
   obtain⟨IA,_,hd⟩:=hfull k3
   have hl:=hzl k3
   have e4:(s.extract 0 11).data.toList=s.data.toList.take 11:=extract_upto s 11
   rw[e4]at hl
   have hb:PlainAid.bt s 11=(s[11].toNat:Int):=(PlainAid.get_bt s 11 (by omega)).symm
   have hdrop:s.data.toList.drop 11=[s[11]]:=by
    have hlen:s.data.toList.length=12:=by rw[<-Lib.size_eq];exact IA
    have h5:s.data.toList.drop 11=s.data.toList[11]::s.data.toList.drop 12:=List.drop_eq_getElem_cons (by omega)
    rw[h5,List.drop_eq_nil_of_le (by omega)]
    rfl
   have hd2:48<=s[11].toNat/\s[11].toNat<=57:=by
    rw[hb]at hd
    unfold Id.digit Lx.digit at hd
    simp at hd
    omega
   unfold aY
   rw[if_neg (by rw[k3];decide),if_pos rfl,hl,hdrop,Lib.decDigits_one (by omega),hb]
   by_cases hq:(s[11].toNat:Int)-48=z
   ·rw[if_pos hq,if_pos]
    congr 1
    apply UInt8.toNat.inj
    rw[UInt8.toNat_ofNat']
    omega
   ·rw[if_neg hq,if_neg]
    intro hc
    injection hc with hc _
    have:=congrArg UInt8.toNat hc
    rw[UInt8.toNat_ofNat']at this
    omega
theorem xc (k:Nat)(hk:k<3)(s:ByteArray)(hs:s.size<=9223372036854775807)(w:World):
 Calls Tryz.prog 73 #[.int .i64 k,.string s] w λx w'=>(∃z:Int,x=.returned (.tuple #[.int .i64 z,.int .i64 (aY k s)]))/\Below w.heap.size w w':=by
 rcases(show k=0\/k=1\/k=2 by omega)with rfl|hk
 ·exact Dc s (by omega) w
 ·exact zy k hk s hs w
open Go
def wH (n:Int):Bool:=decide (0<=n)&&decide (n<=73048)
def E8 (V:Nat->ByteArray->Bool)(i:Ps.Ins)(sn:Nat)(xL:Int):Int:=if ((decide (i.kind<0))||(decide (4<i.kind)))=true then 11 else(if ((!(V 2 i.ref))||(!(V 1 i.sender)))=true then 6 else(if ((!(decide (i.kind<3)))&&(!(i.counterparty.toList==(⟨#[]⟩:ByteArray).toList)))=true then 3 else(if ((decide (i.kind<3))&&(!(V 1 i.counterparty)))=true then 6 else(if ((decide (i.kind<3))&&(i.counterparty.toList==i.sender.toList))=true then 1 else(if ((i.side !=0)&&(i.side !=1))=true then 11 else(if ((!((i.kind==1)||(i.kind==2)))&&(i.side !=0))=true then 3 else(if (((i.kind==0)&&(!(i.asset.toList==(⟨#[67,65,83,72]⟩:ByteArray).toList)))||((decide (0<i.kind))&&(!(V 0 i.asset))))=true then 6 else(if (((i.kind==0)&&(i.quantity !=0))||((decide (0<i.kind))&&((decide (i.quantity<1))||(decide (1000000000000000<i.quantity)))))=true then 2 else(if (((decide (i.kind<2))&&((decide (i.amount<1))||(decide (1000000000000000<i.amount))))||((decide (2<=i.kind))&&(i.amount !=0)))=true then 2 else(if (((!(wH i.settleDay))||(((i.kind==1)||(i.kind==2))&&((decide (i.tradeDay<0))||(decide (i.settleDay<i.tradeDay)))))||((!((i.kind==1)||(i.kind==2)))&&(i.tradeDay !=0)))=true then 28 else(if (((decide (i.priority<0))||(decide (2<i.priority)))||((!(decide (i.kind<3)))&&(i.priority !=0)))=true then 2 else(if (i.partial_&&(!((i.kind==1)||(i.kind==2))))=true then 3 else(if ((i.partial_&&((decide (i.minLot<1))||(decide (i.quantity<i.minLot))))||((!i.partial_)&&(i.minLot !=0)))=true then 2 else(if (((i.hold&&(!(decide (i.kind<3))))||(i.reserve&&((i.kind !=0)||(i.priority !=2))))||((!(decide (i.kind<3)))&&(decide (0<(sn:Int)))))=true then 3 else(if (decide (8<(sn:Int)))=true then 8 else(xL))))))))))))))))
def F3 (A:Ps.Amd):Int:=if ((((!A.hasAmount)&&(!A.hasSettleDay))&&(!A.hasPriority))&&(!A.hasPartial))=true then 3 else(if (((((!A.hasAmount)&&(A.amount !=0))||((!A.hasSettleDay)&&(A.settleDay !=0)))||((!A.hasPriority)&&(A.priority !=0)))||((!A.hasPartial)&&(A.partial_||(A.minLot !=0))))=true then 3 else(if (A.hasAmount&&((decide (A.amount<1))||(decide (1000000000000000<A.amount))))=true then 2 else(if (A.hasSettleDay&&(!(wH A.settleDay)))=true then 28 else(if (A.hasPriority&&((decide (A.priority<0))||(decide (2<A.priority))))=true then 2 else(if (A.hasPartial&&((A.partial_&&((decide (A.minLot<1))||(decide (1000000000000000<A.minLot))))||((!A.partial_)&&(A.minLot !=0))))=true then 2 else(0))))))
theorem bQ {c:Bool}{p:Prop}[Decidable p]{n x y:Int}(h:c=true↔p)(h2:¬p->x=y):(if c=true then n else x)=if p then n else y:=by
 by_cases hp:p
 ·rw[if_pos hp,if_pos (h.2 hp)]
 ·rw[if_neg hp,if_neg (λhc=>hp (h.1 hc))];exact h2 hp
theorem rD {c:Bool}{p q:Prop}[Decidable p][Decidable q]{n x y:Int}(h:c=true↔p\/q)(h2:¬p->¬q->x=y):(if c=true then n else x)=if p then n else if q then n else y:=by
 by_cases hp:p
 ·rw[if_pos hp,if_pos (h.2 (.inl hp))]
 ·by_cases hq:q
  ·rw[if_neg hp,if_pos hq,if_pos (h.2 (.inr hq))]
  ·rw[if_neg hp,if_neg hq,if_neg (λhc=>(h.1 hc).elim hp hq)];exact h2 hp hq
theorem beqS (s t:ByteArray):(s.toList==t.toList)=decide (s=t):=by
 by_cases h:s=t
 ·rw[h];simp
 ·rw[decide_eq_false h,beq_eq_false_iff_ne]
  intro he
  rw[Lib.toList_data,Lib.toList_data]at he
  exact h (ByteArray.ext (Array.toList_inj.1 he))
theorem IZ (V:Nat->ByteArray->Bool)(hV:V 1 ⟨#[]⟩=false)(i:Ps.Ins):E8 V i i.links.length (Ps.fJ V i [] i.links)=Ps.oI V i:=by
 unfold E8 Ps.oI wH Ps.nY Ps.zP
 simp only[beqS]
 refine bQ (by first|(simp;done)|(simp;omega)) λr1=>?_
 have k1:i.kind=0\/i.kind=1\/i.kind=2\/i.kind=3\/i.kind=4:=by omega
 refine rD (by simp) λr2 r3=>?_
 refine bQ (by first|(simp;done)|(simp;omega)) λr4=>?_
 refine bQ (by first|(simp;done)|(simp;omega)) λr5=>?_
 refine bQ ?_ λr6=>?_
 ·simp only[Bool.and_eq_true,decide_eq_true_eq]
  constructor
  ·exactλh=>h.2
  ·intro h
   refine⟨Classical.byContradiction λhk=>?_,h⟩
   have h34:i.kind=3\/i.kind=4:=by omega
   have hc:i.counterparty=⟨#[]⟩:=Classical.byContradiction λhc=>r4 ⟨h34,hc⟩
   rw[<-h,hc]at r3
   exact r3 hV
 refine bQ (by first|(simp;done)|(simp;omega)) λr7=>?_
 refine bQ (by first|(simp;done)|(simp;omega)) λr8=>?_
 refine bQ ?_ λr9=>?_
 ·rcases k1 with h|h|h|h|h<;>rw[h]<;>simp[Ps.rY]
 refine bQ ?_ λr10=>?_
 ·rcases k1 with h|h|h|h|h<;>rw[h]<;>simp<;>omega
 refine bQ ?_ λr11=>?_
 ·rcases k1 with h|h|h|h|h<;>rw[h]<;>simp<;>omega
 refine rD ?_ λr12 r13=>?_
 ·rcases k1 with h|h|h|h|h<;>rw[h]<;>simp<;>omega
 refine bQ ?_ λr14=>?_
 ·rcases k1 with h|h|h|h|h<;>rw[h]<;>simp<;>omega
 refine bQ ?_ λr15=>?_
 ·rcases k1 with h|h|h|h|h<;>rw[h]<;>simp
 refine bQ ?_ λr16=>?_
 ·cases hp:i.partial_<;>simp<;>omega
 have h3:∀(c:Bool) (p q r:Prop) [Decidable p] [Decidable q] [Decidable r] (x y:Int),(c=true↔p\/q\/r)->(¬p->¬q->¬r->x=y)->(if c=true then(3:Int)else x)=if p then 3 else if q then 3 else if r then 3 else y:=by
  intro c p q r _ _ _ x y h hx
  by_cases hp:p
  ·rw[if_pos hp,if_pos (h.2 (.inl hp))]
  ·by_cases hq:q
   ·rw[if_neg hp,if_pos hq,if_pos (h.2 (.inr (.inl hq)))]
   ·by_cases hr:r
    ·rw[if_neg hp,if_neg hq,if_pos hr,if_pos (h.2 (.inr (.inr hr)))]
    ·rw[if_neg hp,if_neg hq,if_neg hr,if_neg (λhc=>(h.1 hc).elim hp (λh=>h.elim hq hr))];exact hx hp hq hr
 refine h3 _ _ _ _ _ _ ?_ λr17 r18 r19=>?_
 ·rcases k1 with h|h|h|h|h<;>rw[h]<;>simp[or_assoc]
 exact bQ (by simp;omega) λ_=>rfl
theorem IC (A:Ps.Amd):F3 A=Ps.yF A:=by
 unfold F3 Ps.yF wH Ps.nY Ps.zP
 refine bQ (by simp[and_assoc]) λr1=>?_
 refine bQ (by simp[or_assoc]) λr2=>?_
 have a0:A.hasAmount=false->A.amount=0:=λhk=>Classical.byContradiction λhc=>r2 (.inl ⟨hk,hc⟩)
 have d0:A.hasSettleDay=false->A.settleDay=0:=λhk=>Classical.byContradiction λhc=>r2 (.inr (.inl ⟨hk,hc⟩))
 have p0:A.hasPriority=false->A.priority=0:=λhk=>Classical.byContradiction λhc=>r2 (.inr (.inr (.inl ⟨hk,hc⟩)))
 have q0:A.hasPartial=false->A.partial_=false/\A.minLot=0:=λhk=>⟨by
  cases hv:A.partial_ with
  |false=>rfl
  |true=>exact absurd (.inr (.inr (.inr ⟨hk,.inl hv⟩))) r2,Classical.byContradiction λhc=>r2 (.inr (.inr (.inr ⟨hk,.inr hc⟩)))⟩
 refine bQ ?_ λr3=>?_
 ·cases h:A.hasAmount
  ·have:=a0 h;simp[this]
  ·simp;omega
 refine bQ ?_ λr4=>?_
 ·cases h:A.hasSettleDay
  ·have:=d0 h;simp[this]
  ·simp;omega
 refine bQ ?_ λr5=>?_
 ·cases h:A.hasPriority
  ·have:=p0 h;simp[this]
  ·simp;omega
 refine bQ ?_ λ_=>rfl
 cases h:A.hasPartial
 ·have:=q0 h;simp[this.1,this.2]
 ·cases hp:A.partial_<;>simp<;>omega
open Go.Proofs.YthijakidnkhbnaaGreatDoor.Ord
theorem PX:∀args w,(callFunc 76 args).run Tryz.prog w=.ok (.enter 76 args) w:=enters_of Tryz.func76 (by kernel_rfl) rfl
section
variable (x y : Operand) (n m : Int) (w : World)
theorem cm_lt3:(do eqGuard .lss 3 x y (.int .i64 n) (.int .i64 m);binOp .lss 3 (.int .i64 n) (.int .i64 m):Sem Value).run Tryz.prog w=.ok (.bool (decide (n<m))) w:=by go_simp
end
theorem zb (w:World)(n:Int):Calls Tryz.prog 76 #[.int .i64 n] w λe w'=>e=.returned (.bool (wH n))/\Below w.heap.size w w':=by
 unfold wH
 by_cases h1:n>=0
 all_goals
  go_enter Tryz.func76,Tryz.ntmps76
  go_wp2_with fail
  go_ret
  exact⟨bY (by first|rfl|(simp;omega)|simp),Below.refl _ _⟩
open Go.Proofs.YthijakidnkhbnaaGreatDoor.Ev (AV Mem Fr jJ)
def amdM (g:Nat)(A:Ps.Amd):Mem Unit:=jJ (λt f=>if t=36/\f<9 then some f else none) [(some (g,0),aG A)] λf vs=>if f=76 then(match vs.map (Ev.eZ [(some (g,0),aG A)])with|[.int .i64 n]=>some (.bool (wH n))|_=>none)else none
theorem BI {t:TypeId}{f d:Nat}(h:(if t=36/\f<9 then some f else none)=some d)(b j:Nat)(w:World):(Instr.fieldAt t (.pointer (some ⟨b,j,none⟩)) f).run Tryz.prog w=.ok (.pointer (some ⟨b,j+d,none⟩)) w:=by
 split at h
 ·rename_i h1
  obtain⟨rfl,h2⟩:=h1
  cases h
  rcases f with _|_|_|_|_|_|_|_|_|f
  all_goals first|omega|go_simp
 ·cases h
theorem NR {S:World->Prop}{g:Nat}{A:Ps.Amd}(hr:∀w,S w->w.heap[g]? =some (.cells (aG A).toArray 36 (0,0)))(hb:∀w w',S w->Below w.heap.size w w'->S w'):Ev.Ok Tryz.prog (λ_ w=>S w) (amdM g A):=by
 refine Ev.gD (λt f d h=>BI h) (λk b o l h w hS j v hv=>?_) (λf vs v h=>?_) (λ_ _ _ h=>by cases h)
 ·rcases k with _|k
  ·cases h
   rw[Nat.zero_add,cell_of_row _ _ _ _ _ _ (hr w hS)]
   simpa using hv
  ·cases h
 ·split at h
  ·rename_i hf
   subst hf
   split at h
   ·rename_i hm
    cases h
    rw[hm]
    exact⟨PX,λw hS=>(zb w _).mono λe w' k=>⟨k.1,hb _ _ hS k.2⟩⟩
   ·cases h
  ·cases h
theorem OI (w:World)(A:Ps.Amd)(x:Int)(hx:x=if ((((!A.hasAmount)&&(!A.hasSettleDay))&&(!A.hasPriority))&&(!A.hasPartial))=true then 3 else(if (((((!A.hasAmount)&&(A.amount !=0))||((!A.hasSettleDay)&&(A.settleDay !=0)))||((!A.hasPriority)&&(A.priority !=0)))||((!A.hasPartial)&&(A.partial_||(A.minLot !=0))))=true then 3 else(if (A.hasAmount&&((decide (A.amount<1))||(decide (1000000000000000<A.amount))))=true then 2 else(if (A.hasSettleDay&&(!(wH A.settleDay)))=true then 28 else(if (A.hasPriority&&((decide (A.priority<0))||(decide (2<A.priority))))=true then 2 else(if (A.hasPartial&&((A.partial_&&((decide (A.minLot<1))||(decide (1000000000000000<A.minLot))))||((!A.partial_)&&(A.minLot !=0))))=true then 2 else(0))))))):
 Calls Tryz.prog 38 #[.agg (aG A).toArray] w λe w'=>e=.returned (.int .i64 x)/\Below w.heap.size w w':=by
 go_enter Tryz.func38,Tryz.ntmps38
 refine wp_seq ?_
 refine wp_region_lit ?_
 refine wpList_plain rfl (λK hK=>?_)
 go_simp
 refine hK _ _ ?_
 clear hK K
 refine wpList_plain rfl (λK hK=>?_)
 go_simp
 refine hK _ _ ?_
 clear hK K
 refine aL ?_
 obtain⟨g,hg⟩:∃g,g=w.heap.size:=⟨_,rfl⟩
 obtain⟨W1,hW1⟩:∃W1,W1=w.alloc (.cells (aG A).toArray 36):=⟨_,rfl⟩
 have hrow:∀W,Below W1.heap.size W1 W->W.heap[g]? =some (.cells (aG A).toArray 36 (0,0)):=λW hW=>by
  rw[hW.block g (by rw[hW1,hg];simp),hW1,hg];exact aD w _
 have hB1:Below w.heap.size w W1:=by rw[hW1];exact(Below.refl _ _).alloc (Nat.le_refl _) _
 rw[<-hg,<-hW1]
 refine iq rfl λa ha hdf=>?_
 refine Ev.yh (M:=amdM g A) (S:=λ_ W=>Below W1.heap.size W1 W) (n:=121) (K:=[(1,.p 0 0)]) (s:=()) (v:=x) 2 (NR hrow λW W' h1 h2=>h1.trans (h2.mono h1.size)) (λ_ W h=>h.drew) (by rw[hx];kernel_rfl) (by kernel_rfl) (Ev.aC (Ev.aU (by rw[ha];rfl) hdf) (by rw[ha];rfl)) (Below.refl _ _) ?_
 intro b W s hd ht hS
 try simp only[Exit.then,Exit.inBlock]
 refine bodyPost_ret (results_tmp rfl _ _ _) hd ?_
 rw[hg]
 exact⟨by rw[show b.tmps.getD 2 undef=.int .i64 x from eval_at ht],hB1.trans (hS.mono hB1.size)⟩
open Go.Proofs.YthijakidnkhbnaaGreatDoor.Ev (AV Mem Fr jJ dG eZ Sh Stop Qof aK dW aM fP gK fmC)
def Sz (s:ByteArray):Prop:=s.size<=9223372036854775807
def xO (i:Ps.Ins):Prop:=Sz i.ref/\Sz i.sender/\Sz i.counterparty/\Sz i.asset/\∀x∈i.links,Sz x.ref
theorem O3:∀args w,(callFunc 36 args).run Tryz.prog w=.ok (.enter 36 args) w:=enters_of Tryz.func36 (by kernel_rfl) rfl
theorem bytes_inj {s t:ByteArray}(h:(s.toList==t.toList)=true):s=t:=by
 have h1:=beq_iff_eq.1 h
 rw[Lib.toList_data,Lib.toList_data]at h1
 exact ByteArray.ext (Array.toList_inj.1 h1)
theorem MQ (sb k:Nat)(x:Ps.Link)(w:World)(h1:w.cell? ⟨sb,k*2,none⟩=some (.int .i64 x.type))(h2:w.cell? ⟨sb,k*2+1,none⟩=some (.string x.ref)):(Instr.loadAt 96 (.pointer (some ⟨sb,k*2,none⟩))).run Tryz.prog w=.ok (.agg #[.int .i64 x.type,.string x.ref]) w:=by go_simp
theorem y_idxL {S:World->Prop}{ρ:Operand->Value}{o:Oper}{x y:Operand}{sb n c k:Nat}(ho:o.op=.indexAddr 33 x y)(h1:ρ x=.slice (some ⟨sb,0,none⟩) n c)(h2:ρ y=.int .i64 (k:Int))(hk:k<n):YB Tryz.prog S ρ o (.pointer (some ⟨sb,k*2,none⟩)):=λw hS=>by
 have NZ:(k:Int)<(n:Int):=by omega
 unfold execOp
 simp only[ho,h1,h2]
 go_simp
 exact⟨rfl,hS⟩
theorem yT (p:Addr)(w:World)(a:Option Addr)(n c:Nat)(h:w.cell? p=some (.slice a n c)):(Instr.loadAt 33 (.pointer (some p))).run Tryz.prog w=.ok (.slice a n c) w:=by go_simp
theorem zU {b:Act}{t:Nat}{v:Value}(hlt:t<b.tmps.size)(h:b.eval (.tmp t)=v):b.tmps[t]? =some v:=Ev.Fy hlt h
def mi (t:TypeId)(f:Nat):Option Nat:=if (t=35/\f<16)\/(t=96/\f<2)then some f else none
def Ey (V:Nat->ByteArray->Bool)(rows:List (Option (Nat×Nat)×List Value))(f:FuncId)(vs:List AV):Option Value:=
 if f=76 then(match vs.map (eZ rows)with|[.int .i64 n]=>some (.bool (wH n))|_=>none)
 else if f=36 then(match vs with
  |[.v (.int .i64 k),.r p j]=>if (k=0\/k=1\/k=2)/\((p=0/\(j=0\/j=2\/j=3\/j=5))\/(p=2/\j=1))then(match dG rows p j with| .string s=>some (.bool (V k.toNat s))|_=>none)else none
  |_=>none)
 else none
def yZ (rows:List (Option (Nat×Nat)×List Value))(o:Oper)(ov:Operand->Option AV):Option AV:=match o.op with
 | .call ⟨.builtin .len,xs,ts⟩=>(match xs.toList,ts.toList with
   |[x],[t]=>if o.type=3/\t=33 then(match ov x with
    |some a=>match eZ rows a with
     | .slice _ n _=>some (.v (.int .i64 (n:Int)))
     |_=>none
    |none=>none)else none
   |_,_=>none)
 |_=>none
theorem wm {rows:List (Option (Nat×Nat)×List Value)}{o:Oper}{ov:Operand->Option AV}{v:AV}(h:yZ rows o ov=some v){ρ:Operand->Value}(hov:∀x u,ov x=some u->ρ x=eZ rows u)(w:World):(execOp ρ o).run Tryz.prog w=.ok (.value (eZ rows v)) w:=by
 unfold yZ at h
 split at h
 ·rename_i xs ts ho
  split at h
  ·rename_i x t hx ht2
   split at h
   ·rename_i ht
    obtain⟨ht,rfl⟩:=ht
    split at h
    ·rename_i a ha
     split at h
     ·rename_i sa n c hv
      cases h
      have h1:=hov _ _ ha
      rw[hv]at h1
      have hxs:xs=#[x]:=by rw[<-Array.toArray_toList (xs:=xs),hx]
      have hts:ts=#[33]:=by rw[<-Array.toArray_toList (xs:=ts),ht2]
      subst hxs
      subst hts
      unfold execOp
      simp only[ho,ht]
      go_simp
      rfl
     ·cases h
    ·cases h
   ·cases h
  ·cases h
 ·cases h
def BS (rows:List (Option (Nat×Nat)×List Value))(o:Oper)(ov:Operand->Option AV):Option AV:=match o.op with
 | .indexAddr t x y=>if t=33 then(match ov x,ov y with
   |some (.r 0 15),some (.r 1 1)=>(match dG rows 0 15,dG rows 1 1 with
    | .slice _ _ _,.int .i64 _=>some (.p 3 0)
    |_,_=>none)
   |_,_=>none)else none
 |_=>yZ rows o ov
def uE (V:Nat->ByteArray->Bool)(rows:List (Option (Nat×Nat)×List Value)):Mem Unit:=jJ mi rows (Ey V rows) (BS rows)
theorem lW {t:TypeId}{f d:Nat}(h:mi t f=some d)(b j:Nat)(w:World):(Instr.fieldAt t (.pointer (some ⟨b,j,none⟩)) f).run Tryz.prog w=.ok (.pointer (some ⟨b,j+d,none⟩)) w:=by
 unfold mi at h
 split at h
 ·rename_i h1
  cases h
  rcases h1 with⟨rfl,h2⟩|⟨rfl,h2⟩
  ·rcases f with _|_|_|_|_|_|_|_|_|_|_|_|_|_|_|_|f
   all_goals first|omega|go_simp
  ·rcases f with _|_|f
   all_goals first|omega|go_simp
 ·cases h
theorem yJ {V:Nat->ByteArray->Bool}{rows:List (Option (Nat×Nat)×List Value)}{S:World->Prop}(hb:∀w w',S w->Below w.heap.size w w'->S w')(hrow:∀(k b o:Nat) (l:List Value),rows[k]? =some (some (b,o),l)->∀w,S w->∀(j:Nat) (v:Value),l[j]? =some v->w.cell? ⟨b,o+j,none⟩=some v)
 (cV:∀(W:World) (k:Nat) (s:ByteArray),k<3->Sz s->S W->Calls Tryz.prog 36 #[.int .i64 k,.string s] W λe w'=>e=.returned (.bool (V k s))/\Below W.heap.size W w')
 (hz:∀p j s,(p=0/\(j=0\/j=2\/j=3\/j=5))\/(p=2/\j=1)->dG rows p j=.string s->Sz s)
 (hix:∀(sb:Option Addr) (n c:Nat) (m:Int),dG rows 0 15=.slice sb n c->dG rows 1 1=.int .i64 m->∃(b k:Nat),sb=some ⟨b,0,none⟩/\m=(k:Int)/\k<n/\∃l,rows[3]? =some (some (b,k*2),l)):Ev.Ok Tryz.prog (λ_ w=>S w) (uE V rows):=by
 refine Ev.gD (λt f d h=>lW h) hrow (λf vs v h=>?_) (λo ov v h ρ hov w hS=>?_)
 ·unfold Ey at h
  split at h
  ·rename_i hf
   subst hf
   split at h
   ·rename_i hm
    cases h
    rw[hm]
    exact⟨PX,λw hS=>(zb w _).mono λe w' k=>⟨k.1,hb _ _ hS k.2⟩⟩
   ·cases h
  ·split at h
   ·rename_i hf
    subst hf
    split at h
    ·split at h
     ·rename_i k p j hk
      split at h
      ·rename_i s hs
       cases h
       refine⟨O3,λw hS=>?_⟩
       obtain⟨n,hn,hk3⟩:∃n:Nat,k=(n:Int)/\n<3:=by
        rcases hk.1 with rfl|rfl|rfl
        ·exact⟨0,rfl,by decide⟩
        ·exact⟨1,rfl,by decide⟩
        ·exact⟨2,rfl,by decide⟩
       subst hn
       have:=cV w n s hk3 (hz p j s hk.2 hs) hS
       simp only[List.map_cons,List.map_nil,eZ,hs]
       exact this.mono λe w' q=>⟨q.1,hb _ _ hS q.2⟩
      ·cases h
     ·cases h
    ·cases h
   ·cases h
 ·unfold BS at h
  split at h
  ·rename_i t x y ho
   split at h
   ·rename_i ht
    subst ht
    split at h
    ·rename_i h1 h2
     split at h
     ·rename_i sa n c m h3 h4
      cases h
      obtain⟨b,k,rfl,rfl,hk,l,h5⟩:=hix _ _ _ _ h3 h4
      have e1:ρ x=.slice (some ⟨b,0,none⟩) n c:=(hov _ _ h1).trans h3
      have e2:ρ y=.int .i64 (k:Int):=(hov _ _ h2).trans h4
      have hb3:(Ev.oN rows).getD 3 (0,0)=(b,k*2):=by simp[Ev.oN,h5]
      have hv:eZ rows (.p 3 0)=.pointer (some ⟨b,k*2,none⟩):=by
       show Value.pointer (some ⟨((Ev.oN rows).getD 3 (0,0)).1,((Ev.oN rows).getD 3 (0,0)).2+0,none⟩)=_
       rw[hb3]
       rfl
      have NZ:(k:Int)<(n:Int):=by omega
      rw[hv]
      unfold execOp
      simp only[ho,e1,e2]
      go_simp
     ·cases h
    ·cases h
   ·cases h
  ·exact wm h hov w
theorem al_L {ρ:Operand->Value}{o:Oper}(ho:o.op=.alloc 96)(W:World):(execOp ρ o).run Tryz.prog W=.ok (.value (.pointer (some ⟨W.heap.size,0,none⟩))) (W.alloc (.cells #[.int .i64 0,.string ByteArray.empty] 96)):=by
 unfold execOp;rw[ho];go_simp;first|done|rfl
theorem st_L {ρ:Operand->Value}{o:Oper}{x y:Operand}{n:Int}{s:ByteArray}(ho:o.op=.store 96 x y)(W:World)(e1:ρ x=.pointer (some ⟨W.heap.size,0,none⟩))(e2:ρ y=.agg #[.int .i64 n,.string s]):(execOp ρ o).run Tryz.prog (W.alloc (.cells #[.int .i64 0,.string ByteArray.empty] 96))=.ok .skip (W.alloc (.cells #[.int .i64 n,.string s] 96)):=by
 unfold execOp;simp only[ho,e1,e2];go_simp;first|done|rfl
noncomputable def insB:Code:=Tryz.f37.body.getD .skip
noncomputable def nO:Code×List Ev.Fm:=aK dW insB
noncomputable def wD:Code×List Ev.Fm:=aK (aM 37) (fP nO.1)
noncomputable def MS:Code:=fmC wD.2 0
noncomputable def xQ:Code×List Ev.Fm:=aK dW MS
def Bb (g:Nat)(i:Ps.Ins)(lv:Value)(k:Nat):List (Option (Nat×Nat)×List Value):=[(some (g,0),aB i lv),(none,[.int .i64 k])]
def K4 (g:Nat)(i:Ps.Ins)(lv:Value)(k h:Nat)(x:Ps.Link):List (Option (Nat×Nat)×List Value):=[(some (g,0),aB i lv),(none,[.int .i64 k]),(some (h,0),[.int .i64 x.type,.string x.ref])]
def PK (g:Nat)(i:Ps.Ins)(lv:Value)(k h:Nat)(x:Ps.Link)(m sb:Nat)(y:Ps.Link):List (Option (Nat×Nat)×List Value):=[(some (g,0),aB i lv),(none,[.int .i64 k,.int .i64 m]),(some (h,0),[.int .i64 x.type,.string x.ref]),(some (sb,m*2),[.int .i64 y.type,.string y.ref])]
theorem fF {S:World->Prop}{b:Nat}{l:List Value}{ty:TypeId}(h:∀w,S w->w.heap[b]? =some (.cells l.toArray ty (0,0))):∀w,S w->∀(j:Nat) (v:Value),l[j]? =some v->w.cell? ⟨b,0+j,none⟩=some v:=λw hS j v hv=>by
 rw[Nat.zero_add,cell_of_row _ _ _ _ _ _ (h w hS)]
 simpa using hv
theorem ED {i:Ps.Ins}{lv:Value}{j:Nat}{s:ByteArray}{r:List (Option (Nat×Nat)×List Value)}{o:Option (Nat×Nat)}(hG:xO i)(hj:j=0\/j=2\/j=3\/j=5)(h:dG ((o,aB i lv)::r) 0 j=.string s):Sz s:=by
 obtain⟨h1,h2,h3,h4,-⟩:=hG
 rcases hj with rfl|rfl|rfl|rfl<;>cases h<;>assumption
theorem qA (w:World)(V:Nat->ByteArray->Bool)(i:Ps.Ins)(sa:Option Addr)(sn sc:Nat)
 (cV:Hid (∀(W1:World) (k:Nat) (s:ByteArray),k<3->Sz s->Below w.heap.size w W1->Calls Tryz.prog 36 #[.int .i64 k,.string s] W1 λe w'=>e=.returned (.bool (V k s))/\Below W1.heap.size W1 w'))
 (hG:Hid (xO i)) (g:Nat) (W1:World) (hrow:Hid (∀W,Below W1.heap.size W1 W->W.heap[g]? =some (.cells (aB i (.slice sa sn sc)).toArray 35 (0,0)))) (HB1:Hid (Below w.heap.size w W1)) (k:Nat):Ev.Ok Tryz.prog (λ(_:Unit) W=>Below W1.heap.size W1 W) (uE V (Bb g i (.slice sa sn sc) k)):=by
 refine yJ (λW W' h1 h2=>h1.trans (h2.mono h1.size)) (λq b o l h W hS=>?_) (λW k s hk hs hS=>cV.out W k s hk hs (HB1.out.trans (hS.mono HB1.out.size))) (λp j s hp h=>?_) (λsb n c m _ h=>by cases h)
 ·rcases q with _|_|q
  ·cases h;exact fF hrow.out W hS
  ·cases h
  ·cases h
 ·rcases hp with⟨rfl,hj⟩|⟨rfl,rfl⟩
  ·exact ED hG.out hj h
  ·cases h
theorem IK (w:World)(V:Nat->ByteArray->Bool)(i:Ps.Ins)(sa:Option Addr)(sn sc:Nat)(x xL:Int)
 (cV:Hid (∀(W1:World) (k:Nat) (s:ByteArray),k<3->Sz s->Below w.heap.size w W1->Calls Tryz.prog 36 #[.int .i64 k,.string s] W1 λe w'=>e=.returned (.bool (V k s))/\Below W1.heap.size W1 w'))
 (hG:Hid (xO i)) (hsn:Hid (sn=i.links.length)) (hlk:Hid (0<sn->∃sb,sa=some ⟨sb,0,none⟩/\∀W,Below w.heap.size w W->dM W sb i.links))
 (g:Nat) (W1:World) (hrow:Hid (∀W,Below W1.heap.size W1 W->W.heap[g]? =some (.cells (aB i (.slice sa sn sc)).toArray 35 (0,0)))) (HB1:Hid (Below w.heap.size w W1)) (hx:Hid (x=xL)) (hn8:Hid (sn<=8)) (Q:Exit->Act->World->Prop) (hq:Hid (∀(b:Act) (W:World),b.defers=[]->b.tmps[2]? =some (.int .i64 x)->Below W1.heap.size W1 W->Q .ret b W))
 (hL:Hid (Ps.fJ V i [] i.links=xL)) (a:Act) (w2:World) (hsz:a.tmps.size=291) (hdf:a.defers=[]) (hf1:a.tmps[1]? =some (.pointer (some ⟨g,0,none⟩))) (dm:a.tmps[5]? =some (.int .i64 0)) (HB:Below W1.heap.size W1 w2):nO.1.wp Tryz.prog (Qof Tryz.prog nO.2 Q) a w2:=by
 have e1:nO.1=.loop (fP nO.1):=by kernel_rfl
 have e2:nO.2=[.bl 0,.sq (fmC nO.2 1)]:=by kernel_rfl
 rw[e1,e2]
 refine wp_loop (λa w=>∃k:Nat,k<=sn/\a.tmps.size=291/\a.defers=[]/\a.tmps[1]? =some (.pointer (some ⟨g,0,none⟩))/\a.tmps[5]? =some (.int .i64 (k:Int))/\Below W1.heap.size W1 w/\Ps.fJ V i (i.links.take k) (i.links.drop k)=xL) (λa _=>match a.tmps[5]? with|some (Value.int _ k)=>sn-k.toNat|_=>0) ⟨0,Nat.zero_le _,hsz,hdf,hf1,dm,HB,by rw[<-hL.out];rfl⟩ ?_
 clear hsz hdf hf1 dm HB
 rintro a w3 ⟨k,hk,hsz,hdf,hf1,dm,HB,HX⟩
 have hm:(match a.tmps[5]? with|some (Value.int _ k)=>sn-k.toNat|_=>0)=sn-k:=by rw[dm];simp
 rw[hm]
 refine Ev.jA (M:=uE V (Bb g i (.slice sa sn sc) k)) (S:=λ_ W=>Below W1.heap.size W1 W) (n:=291) (K:=[(1,.p 0 0),(5,.r 1 0)]) (s:=()) [1,5] (.ite (decide ((k:Int)<(sn:Int))) (.go wD [some (.p 0 0),some (.r 1 0)] ()) (.out 0 [some (.p 0 0),some (.r 1 0)] ())) (qA w V i sa sn sc cV hG g W1 hrow HB1 k) (λ_ _ h=>h.drew) (by kernel_rfl) (Ev.aC (Ev.aC (Ev.aU hsz hdf) dm) hf1) HB ⟨λhc=>?_,λhc=>?_⟩
 ·intro b W hst hS
  have hkn:k<sn:=by have:(k:Int)<(sn:Int):=by simpa using hc
                    omega
  obtain⟨b1,hst⟩:=hst.cons
  obtain⟨b5,hst⟩:=hst.cons
  obtain⟨x0,hx0⟩:∃x0,i.links[k]? =some x0:=⟨_,List.getElem?_eq_getElem (by rw[<-hsn.out];exact hkn)⟩
  have hstep:xL=if¬(0<=x0.type/\x0.type<=1)then 11 else if V 2 x0.ref=false then 6 else if x0.ref=i.ref then 26 else if∃y∈i.links.take k,y.ref=x0.ref then 7 else Ps.fJ V i (i.links.take (k+1)) (i.links.drop (k+1)):=by
   have hd:i.links.drop k=x0::i.links.drop (k+1):=by
    have h1:=List.drop_eq_getElem_cons (l:=i.links) (i:=k) (by rw[<-hsn.out];exact hkn)
    rw[h1]
    congr 1
    rw[List.getElem?_eq_getElem (by rw[<-hsn.out];exact hkn)]at hx0
    exact Option.some.inj hx0
   rw[<-HX,hd]
   conv=>lhs;unfold Ps.fJ
   have ht:i.links.take (k+1)=i.links.take k++[x0]:=by rw[List.take_add_one,hx0];rfl
   rw[ht]
  obtain⟨sb,rfl,hlr⟩:=hlk.out (by omega)
  have hLW:∀W,Below W1.heap.size W1 W->dM W sb i.links:=λW hW=>hlr W (HB1.out.trans (hW.mono HB1.out.size))
  have e3:wD.1=.region 37 (gK wD.1) false:=by kernel_rfl
  have e4:wD.2=[.sq MS,.bl 1,.sq (fmC wD.2 2)]:=by kernel_rfl
  show wD.1.wp Tryz.prog (Qof Tryz.prog wD.2 _) b W
  rw[e3,e4]
  obtain⟨vs,hvs⟩:∃vs:List Value,vs=[(.pointer (some ⟨g,15,none⟩)),(.slice (some ⟨sb,0,none⟩) sn sc),(.int .i64 (k:Int)),(.pointer (some ⟨sb,k*2,none⟩)),(.agg #[.int .i64 x0.type,.string x0.ref])]:=⟨_,rfl⟩
  have b1':b.tmps[1]? =some (.pointer (some ⟨g,0,none⟩)):=b1
  have b5':b.tmps[5]? =some (.int .i64 (k:Int)):=b5
  refine K3 (dv:=259) (d1:=6) (Below W1.heap.size W1) 5 vs (by rw[hvs];rfl) (by kernel_rfl) (by kernel_rfl) (by kernel_rfl) (by rw[hst.1];kernel_rfl) hS ?_ rfl rfl rfl rfl rfl rfl (by rw[hst.1];decide) (by decide) (.agg #[.int .i64 x0.type,.string x0.ref]) ?_ (.cells #[.int .i64 0,.string ByteArray.empty] 96) (.cells #[.int .i64 x0.type,.string x0.ref] 96) ?_ ?_ ?_
  ·intro ρ hD hrest hco hfu
   have e1:ρ (.tmp 1)=.pointer (some ⟨g,0,none⟩):=(hrest 1 (by decide +kernel)).trans (eval_at b1')
   have e5:ρ (.tmp 5)=.int .i64 (k:Int):=(hrest 5 (by decide +kernel)).trans (eval_at b5')
   obtain⟨e255,e256,e257,e258,e259,-⟩:ρ (.tmp 255)=(.pointer (some ⟨g,15,none⟩))/\ρ (.tmp 256)=(.slice (some ⟨sb,0,none⟩) sn sc)/\ρ (.tmp 257)=(.int .i64 (k:Int))/\ρ (.tmp 258)=(.pointer (some ⟨sb,k*2,none⟩))/\ρ (.tmp 259)=(.agg #[.int .i64 x0.type,.string x0.ref])/\True:=dS hvs hD
   refine jd hvs ?_
   refine⟨aP rfl (bS rfl e1 (λw=>lW (d:=15) (by kernel_rfl) g 0 w)),?_⟩
   refine⟨aP rfl (bT rfl e255 (λw hS=>yT _ w _ _ _ (by rw[cell_of_row _ _ _ _ _ _ (hrow.out w hS)];rfl))),?_⟩
   refine⟨aP rfl (bG rfl e5),?_⟩
   refine⟨aP rfl (y_idxL rfl e256 e257 hkn),?_⟩
   refine⟨aP rfl (bT rfl e258 (λw hS=>MQ sb k x0 w (hLW w hS k x0 hx0).1 (hLW w hS k x0 hx0).2)),?_⟩
   exact trivial
  ·intro ρ hD;exact bR.tmp 4 _ _ 259 hD rfl (by rw[hvs];rfl) rfl
  ·intro ρ W;exact al_L rfl W
  ·intro ρ W e1 e2;exact st_L rfl W e1 e2
  intro a4 w4 hS4 hK JU
  have c1:=(hK.rest 1 (by decide +kernel)).trans b1'
  have c5:=(hK.rest 5 (by decide +kernel)).trans b5'
  have cz:=hK.size.trans hst.1
  have cd:=hK.defers.trans hst.2.1
  obtain⟨h,hh⟩:∃h,h=w4.heap.size:=⟨_,rfl⟩
  obtain⟨Wh,hWh⟩:∃Wh,Wh=w4.alloc (.cells #[.int .i64 x0.type,.string x0.ref] 96):=⟨_,rfl⟩
  have hBh:Below W1.heap.size W1 Wh:=by rw[hWh];exact hS4.alloc hS4.size _
  have kV:∀W,Below Wh.heap.size Wh W->W.heap[h]? =some (.cells [.int .i64 x0.type,.string x0.ref].toArray 96 (0,0)):=λW hW=>by
   rw[hW.block h (by rw[hWh,hh];simp),hWh,hh];exact aD w4 _
  rw[<-hWh]
  rw[<-hh]at JU
  have up:∀W,Below Wh.heap.size Wh W->Below W1.heap.size W1 W:=λW hW=>hBh.trans (hW.mono hBh.size)
  clear hWh hh hS4 hvs hK b1 b5 b1' b5' hst hS e3 e4
  show MS.wp Tryz.prog (Qof Tryz.prog [.bl 1,.sq (fmC wD.2 2)] _) a4 Wh
  have hzx:Sz x0.ref:=hG.out.2.2.2.2 x0 (List.mem_of_getElem? hx0)
  have hO2:Ev.Ok Tryz.prog (λ(_:Unit) W=>Below Wh.heap.size Wh W) (uE V (K4 g i (.slice (some ⟨sb,0,none⟩) sn sc) k h x0)):=by
   refine yJ (λW W' h1 h2=>h1.trans (h2.mono h1.size)) (λq b o l h W hS=>?_) (λW k s hk hs hS=>cV.out W k s hk hs (HB1.out.trans ((up W hS).mono HB1.out.size))) (λp j s hp h=>?_) (λsb n c m _ h=>by cases h)
   ·rcases q with _|_|_|q
    ·cases h;exact fF hrow.out W (up W hS)
    ·cases h
    ·cases h;exact fF kV W hS
    ·cases h
   ·rcases hp with⟨rfl,hj⟩|⟨rfl,rfl⟩
    ·exact ED hG.out hj h
    ·cases h;exact hzx
  refine Ev.jA (M:=uE V (K4 g i (.slice (some ⟨sb,0,none⟩) sn sc) k h x0)) (S:=λ_ W=>Below Wh.heap.size Wh W) (n:=291) (K:=[(1,.p 0 0),(5,.r 1 0),(6,.p 2 0)]) (s:=()) [1,5,6,7,2]
   (.ite ((x0.type !=0)&&(x0.type !=1)) (.ret [some (.p 0 0),some (.r 1 0),some (.p 2 0),none,some (.v (.int .i64 11))] ()) (.ite (!(V 2 x0.ref)) (.ret [some (.p 0 0),some (.r 1 0),some (.p 2 0),none,some (.v (.int .i64 6))] ()) (.ite (x0.ref.toList==i.ref.toList) (.ret [some (.p 0 0),some (.r 1 0),some (.p 2 0),none,some (.v (.int .i64 26))] ()) (.go xQ [some (.p 0 0),some (.r 1 0),some (.p 2 0),some (.v (.int .i64 0)),none] ()))))
   hO2 (λ_ _ h=>h.drew) (by kernel_rfl) (Ev.aC (Ev.aC (Ev.aC (Ev.aU cz cd) JU) c5) c1) (Below.refl _ _) ?_
  have done:∀(b:Act) (W:World) (us:List (Option AV)) (n:Int),Stop (uE V (K4 g i (.slice (some ⟨sb,0,none⟩) sn sc) k h x0)) 291 [1,5,6,7,2] us b->us[4]? =some (some (.v (.int .i64 n)))->x=n->Below Wh.heap.size Wh W->Q .ret b W:=λb W us n hst hu hx hS=>
   hq.out b W hst.2.1 (by rw[hx];exact hst.2.2 4 2 _ rfl hu) (up W hS)
  refine⟨λc1 b W hst hS=>done b W _ 11 hst rfl ?_ hS,λn1=>⟨λc2 b W hst hS=>done b W _ 6 hst rfl ?_ hS,λn2=>⟨λc3 b W hst hS=>done b W _ 26 hst rfl ?_ hS,λn3 b W hst hS=>?_⟩⟩⟩
  ·simp only[Bool.and_eq_true,bne_iff_ne,ne_eq]at c1
   rw[hx.out,hstep,if_pos (by omega)]
  ·simp only[Bool.and_eq_false_iff,bne_eq_false_iff_eq]at n1
   rw[hx.out,hstep,if_neg (by omega),if_pos (by simpa using c2)]
  ·simp only[Bool.and_eq_false_iff,bne_eq_false_iff_eq]at n1
   rw[hx.out,hstep,if_neg (by omega),if_neg (by simpa using n2),if_pos (bytes_inj c3)]
  have hstep2:xL=if∃y∈i.links.take k,y.ref=x0.ref then 7 else Ps.fJ V i (i.links.take (k+1)) (i.links.drop (k+1)):=by
   simp only[Bool.and_eq_false_iff,bne_eq_false_iff_eq]at n1
   rw[hstep,if_neg (by omega),if_neg (by simpa using n2),if_neg (λhc=>by rw[hc]at n3;simp at n3)]
  clear hstep n1 n2 n3
  obtain⟨d1,hst⟩:=hst.cons
  obtain⟨d5,hst⟩:=hst.cons
  obtain⟨d6,hst⟩:=hst.cons
  obtain⟨d7,hst⟩:=hst.cons
  have e5:xQ.1=.loop (fP xQ.1):=by kernel_rfl
  have e6:xQ.2=[.bl 2]:=by kernel_rfl
  show xQ.1.wp Tryz.prog (Qof Tryz.prog xQ.2 _) b W
  rw[e5,e6]
  refine wp_loop (λa w=>∃m:Nat,m<=k/\a.tmps.size=291/\a.defers=[]/\a.tmps[1]? =some (.pointer (some ⟨g,0,none⟩))/\a.tmps[5]? =some (.int .i64 (k:Int))/\a.tmps[6]? =some (.pointer (some ⟨h,0,none⟩))/\a.tmps[7]? =some (.int .i64 (m:Int))/\Below Wh.heap.size Wh w/\∀y∈i.links.take m,y.ref≠x0.ref) (λa _=>match a.tmps[7]? with|some (Value.int _ m)=>k-m.toNat|_=>0) ⟨0,Nat.zero_le _,hst.1,hst.2.1,d1,d5,d6,d7,hS,λy hy=>by simp at hy⟩ ?_
  clear hst d1 d5 d6 d7 hS cz cd c1 c5 JU
  rintro b W ⟨m,hm,hsz,hdf,d1,d5,d6,d7,hS,hno⟩
  have hme:(match b.tmps[7]? with|some (Value.int _ m)=>k-m.toNat|_=>0)=k-m:=by rw[d7];simp
  rw[hme]
  obtain⟨y0,hy0⟩:∃y0,i.links[m]? =some y0:=⟨_,List.getElem?_eq_getElem (by have:=hsn.out;omega)⟩
  have hmn:m<sn:=by omega
  have hO3:Ev.Ok Tryz.prog (λ(_:Unit) W=>Below Wh.heap.size Wh W) (uE V (PK g i (.slice (some ⟨sb,0,none⟩) sn sc) k h x0 m sb y0)):=by
   refine yJ (λW W' h1 h2=>h1.trans (h2.mono h1.size)) (λq b o l h W hS=>?_) (λW k s hk hs hS=>cV.out W k s hk hs (HB1.out.trans ((up W hS).mono HB1.out.size))) (λp j s hp h=>?_) (λsb2 n c m2 h1 h2=>?_)
   ·rcases q with _|_|_|_|q
    ·cases h;exact fF hrow.out W (up W hS)
    ·cases h
    ·cases h;exact fF kV W hS
    ·cases h
     intro j v hv
     obtain⟨z1,z2⟩:=hLW W (up W hS) m y0 hy0
     rcases j with _|_|j
     ·cases hv;exact z1
     ·cases hv;exact z2
     ·cases hv
    ·cases h
   ·rcases hp with⟨rfl,hj⟩|⟨rfl,rfl⟩
    ·exact ED hG.out hj h
    ·cases h;exact hzx
   ·cases h1;cases h2
    exact⟨sb,m,rfl,rfl,hmn,_,rfl⟩
  have hw1:IntKind.i64.wrap ((m:Int)+1)=((m+1:Nat):Int):=by have:=hn8.out;rw[IntWalk.i64_in _ (by omega)];rfl
  refine Ev.jA (M:=uE V (PK g i (.slice (some ⟨sb,0,none⟩) sn sc) k h x0 m sb y0)) (S:=λ_ W=>Below Wh.heap.size Wh W) (n:=291) (K:=[(1,.p 0 0),(5,.r 1 0),(6,.p 2 0),(7,.r 1 1)]) (s:=()) [1,5,6,7,2]
   (.ite (decide ((m:Int)<(k:Int))) (.ite (y0.ref.toList==x0.ref.toList) (.ret [some (.p 0 0),some (.r 1 0),some (.p 2 0),some (.r 1 1),some (.v (.int .i64 7))] ()) (.nx [some (.p 0 0),some (.r 1 0),some (.p 2 0),some (.v (.int .i64 (IntKind.i64.wrap ((m:Int)+1)))),none] ())) (.out 2 [some (.p 0 0),some (.r 1 0),some (.p 2 0),some (.r 1 1),none] ()))
   hO3 (λ_ _ h=>h.drew) (by kernel_rfl) (Ev.aC (Ev.aC (Ev.aC (Ev.aC (Ev.aU hsz hdf) d7) d6) d5) d1) hS ⟨λc1=>⟨λc2 b W hst hS=>?_,λc2 b W hst hS=>?_⟩,λc1 b W hst hS=>?_⟩
  ·refine hq.out b W hst.2.1 ?_ (up W hS)
   have hmk:m<k:=by have:(m:Int)<(k:Int):=by simpa using c1
                    omega
   rw[hx.out,hstep2,if_pos ⟨y0,List.mem_of_getElem? (i:=m) (by rw[List.getElem?_take,if_pos hmk];exact hy0),bytes_inj c2⟩]
   exact hst.2.2 4 2 _ rfl rfl
  ·have hmk:m<k:=by have:(m:Int)<(k:Int):=by simpa using c1
                    omega
   obtain⟨f1,hst⟩:=hst.cons
   obtain⟨f5,hst⟩:=hst.cons
   obtain⟨f6,hst⟩:=hst.cons
   obtain⟨f7,-⟩:=hst.cons
   have f7':b.tmps[7]? =some (.int .i64 ((m+1:Nat):Int)):=by rw[<-hw1];exact f7
   refine⟨⟨m+1,hmk,hst.1,hst.2.1,f1,f5,f6,f7',hS,λy hy=>?_⟩,?_⟩
   ·rw[List.take_add_one,hy0]at hy
    rcases List.mem_append.1 hy with h1|h1
    ·exact hno y h1
    ·have:y=y0:=by simpa using h1
     subst this
     intro hc;rw[hc]at c2;simp at c2
   ·rw[f7'];simp;omega
  ·have hmk:m=k:=by have:¬(m:Int)<(k:Int):=by simpa using c1
                    omega
   subst hmk
   obtain⟨f1,hst⟩:=hst.cons
   obtain⟨f5,hst⟩:=hst.cons
   have hk1:IntKind.i64.wrap ((m:Int)+1)=((m+1:Nat):Int):=hw1
   show(fmC wD.2 2).wp Tryz.prog _ b W
   refine Ev.jA (M:=uE V (Bb g i (.slice (some ⟨sb,0,none⟩) sn sc) m)) (S:=λ_ W=>Below W1.heap.size W1 W) (n:=291) (K:=[(1,.p 0 0),(5,.r 1 0)]) (s:=()) [1,5] (.nx [some (.p 0 0),some (.v (.int .i64 (IntKind.i64.wrap ((m:Int)+1))))] ()) (qA w V i _ sn sc cV hG g W1 hrow HB1 m) (λ_ _ h=>h.drew) (by kernel_rfl) (Ev.aC (Ev.aC (Ev.aU hst.1 hst.2.1) f5) f1) (up W hS) ?_
   intro b W hst hS
   obtain⟨f1,hst⟩:=hst.cons
   obtain⟨f5,hst⟩:=hst.cons
   have f5':b.tmps[5]? =some (.int .i64 ((m+1:Nat):Int)):=by rw[<-hk1];exact f5
   refine⟨⟨m+1,hmn,hst.1,hst.2.1,f1,f5',hS,?_⟩,?_⟩
   ·rw[hstep2,if_neg]
    rintro⟨y,hy,he⟩
    exact hno y hy he
   ·rw[f5'];simp;omega
 ·intro b W hst hS
  have hkn:¬(k:Int)<(sn:Int):=by simpa using hc
  have hx0:x=0:=by
   rw[hx.out,<-HX,List.drop_eq_nil_of_le (by have:=hsn.out;omega)]
   rfl
  obtain⟨b1,hst⟩:=hst.cons
  show(fmC nO.2 1).wp Tryz.prog Q b W
  refine Ev.yh (M:=uE V (Bb g i (.slice sa sn sc) k)) (S:=λ_ W=>Below W1.heap.size W1 W) (n:=291) (K:=[]) (s:=()) (v:=x) 2 (qA w V i sa sn sc cV hG g W1 hrow HB1 k) (λ_ _ h=>h.drew) (by rw[hx0];kernel_rfl) (by kernel_rfl) (Ev.aU hst.1 hst.2.1) hS λb W _ h1 h2 h3=>hq.out b W h1 h2 h3
theorem Ov (w:World)(V:Nat->ByteArray->Bool)(i:Ps.Ins)(sa:Option Addr)(sn sc:Nat)(x xL:Int)
 (cV:Hid (∀(W1:World) (k:Nat) (s:ByteArray),k<3->Sz s->Below w.heap.size w W1->Calls Tryz.prog 36 #[.int .i64 k,.string s] W1 λe w'=>e=.returned (.bool (V k s))/\Below W1.heap.size W1 w'))
 (hG:Hid (xO i)) (hsn:Hid (sn=i.links.length)) (hlk:Hid (0<sn->∃sb,sa=some ⟨sb,0,none⟩/\∀W,Below w.heap.size w W->dM W sb i.links)) (hL:Hid (Ps.fJ V i [] i.links=xL))
 (hx:x=if ((decide (i.kind<0))||(decide (4<i.kind)))=true then 11 else(if ((!(V 2 i.ref))||(!(V 1 i.sender)))=true then 6 else(if ((!(decide (i.kind<3)))&&(!(i.counterparty.toList==(⟨#[]⟩:ByteArray).toList)))=true then 3 else(if ((decide (i.kind<3))&&(!(V 1 i.counterparty)))=true then 6 else(if ((decide (i.kind<3))&&(i.counterparty.toList==i.sender.toList))=true then 1 else(if ((i.side !=0)&&(i.side !=1))=true then 11 else(if ((!((i.kind==1)||(i.kind==2)))&&(i.side !=0))=true then 3 else(if (((i.kind==0)&&(!(i.asset.toList==(⟨#[67,65,83,72]⟩:ByteArray).toList)))||((decide (0<i.kind))&&(!(V 0 i.asset))))=true then 6 else(if (((i.kind==0)&&(i.quantity !=0))||((decide (0<i.kind))&&((decide (i.quantity<1))||(decide (1000000000000000<i.quantity)))))=true then 2 else(if (((decide (i.kind<2))&&((decide (i.amount<1))||(decide (1000000000000000<i.amount))))||((decide (2<=i.kind))&&(i.amount !=0)))=true then 2 else(if (((!(wH i.settleDay))||(((i.kind==1)||(i.kind==2))&&((decide (i.tradeDay<0))||(decide (i.settleDay<i.tradeDay)))))||((!((i.kind==1)||(i.kind==2)))&&(i.tradeDay !=0)))=true then 28 else(if (((decide (i.priority<0))||(decide (2<i.priority)))||((!(decide (i.kind<3)))&&(i.priority !=0)))=true then 2 else(if (i.partial_&&(!((i.kind==1)||(i.kind==2))))=true then 3 else(if ((i.partial_&&((decide (i.minLot<1))||(decide (i.quantity<i.minLot))))||((!i.partial_)&&(i.minLot !=0)))=true then 2 else(if (((i.hold&&(!(decide (i.kind<3))))||(i.reserve&&((i.kind !=0)||(i.priority !=2))))||((!(decide (i.kind<3)))&&(decide (0<(sn:Int)))))=true then 3 else(if (decide (8<(sn:Int)))=true then 8 else(xL))))))))))))))))):
 Calls Tryz.prog 37 #[.agg (aB i (.slice sa sn sc)).toArray] w λe w'=>e=.returned (.int .i64 x)/\Below w.heap.size w w':=by
 go_enter Tryz.func37,Tryz.ntmps37
 refine wp_seq ?_
 refine wp_region_lit ?_
 refine wpList_plain rfl (λK hK=>?_)
 go_simp
 refine hK _ _ ?_
 clear hK K
 refine wpList_plain rfl (λK hK=>?_)
 go_simp
 refine hK _ _ ?_
 clear hK K
 refine aL ?_
 obtain⟨g,hg⟩:∃g,g=w.heap.size:=⟨_,rfl⟩
 obtain⟨W1,hW1⟩:∃W1,W1=w.alloc (.cells (aB i (.slice sa sn sc)).toArray 35):=⟨_,rfl⟩
 have hrow:∀W,Below W1.heap.size W1 W->W.heap[g]? =some (.cells (aB i (.slice sa sn sc)).toArray 35 (0,0)):=λW hW=>by
  rw[hW.block g (by rw[hW1,hg];simp),hW1,hg];exact aD w _
 have hB1:Below w.heap.size w W1:=by rw[hW1];exact(Below.refl _ _).alloc (Nat.le_refl _) _
 rw[<-hg,<-hW1]
 refine iq rfl λa ha hdf=>?_
 have hret:∀(b:Act) (W:World),b.defers=[]->b.tmps[2]? =some (.int .i64 x)->Below W1.heap.size W1 W->bodyPost Tryz.prog Tryz.f37 (λe w'=>e=.returned (.int .i64 x)/\Below g w w') .ret b W:=λb W hd ht hS=>by
  refine bodyPost_ret (results_tmp rfl _ _ _) hd ?_
  rw[hg]
  exact⟨by rw[show b.tmps.getD 2 undef=.int .i64 x from eval_at ht],hB1.trans (hS.mono hB1.size)⟩
 refine Ev.yu (M:=uE V (Bb g i (.slice sa sn sc) 0)) (S:=λ_ W=>Below W1.heap.size W1 W) (n:=291) (K:=[(1,.p 0 0)]) (s:=()) (v:=x) (hv:=xL) (l:=[(nO.1,nO.2,[some (.p 0 0),some (.v (.int .i64 0))],(),[!(decide (8<(sn:Int)))])]) 2 [1,5] [15] (qA w V i sa sn sc cV hG g W1 (Lib.hid hrow) (Lib.hid hB1) 0) (λ_ W h=>h.drew) (by rw[hx];kernel_rfl) (by kernel_rfl) (Ev.aC (Ev.aU (by rw[ha];rfl) hdf) (by rw[ha];rfl)) (Below.refl _ _) (λb W _=>hret b W) ?_
 intro hxL y hy hcs b W hst hS
 rw[List.mem_singleton]at hy
 subst hy
 have hn8:sn<=8:=by
  have h8:(8<(sn:Int))->False:=by simpa using hcs _ (List.mem_singleton.2 rfl)
  exact Nat.not_lt.1 λh=>h8 (by omega)
 obtain⟨h1,hst⟩:=hst.cons
 obtain⟨h5,hst⟩:=hst.cons
 exact IK w V i sa sn sc x xL cV hG hsn hlk g W1 (Lib.hid hrow) (Lib.hid hB1) (Lib.hid hxL) (Lib.hid hn8) _ (Lib.hid hret) hL b W hst.1 hst.2.1 h1 h5 hS
theorem DK:∀args w,(callFunc 32 args).run Tryz.prog w=.ok (.enter 32 args) w:=enters_of Tryz.func32 (by kernel_rfl) rfl
theorem Kk {P:Program}{c:Code}{tmps:Array Value}{Q:Exit->Act->World->Prop}{w:World}(h:∀a:Act,a.tmps=tmps->a.defers=[]->c.wp P Q a w):c.wp P Q ⟨tmps,[]⟩ w:=h _ rfl rfl
theorem Lh (p:Addr)(w:World)(a:Option Addr)(n c:Nat)(h:w.cell? p=some (.slice a n c)):(Instr.loadAt 48 (.pointer (some p))).run Tryz.prog w=.ok (.slice a n c) w:=by go_simp
theorem Js {S:World->Prop}{ρ:Operand->Value}{o:Oper}{x y:Operand}{sb n c k:Nat}(ho:o.op=.indexAddr 48 x y)(h1:ρ x=.slice (some ⟨sb,0,none⟩) n c)(h2:ρ y=.int .i64 (k:Int))(hk:k<n):YB Tryz.prog S ρ o (.pointer (some ⟨sb,k*3,none⟩)):=λw hS=>by
 have NZ:(k:Int)<(n:Int):=by omega
 unfold execOp
 simp only[ho,h1,h2]
 go_simp
 exact⟨rfl,hS⟩
theorem ent112:∀args w,(callFunc 112 args).run Tryz.prog w=.ok (.enter 112 args) w:=enters_of Tryz.func112 (by kernel_rfl) rfl
theorem Kz (W:World)(r tb n cap a:Nat)(o kd:Int)(t:ByteArray)(v e x:Int)(hw1:IntKind.i64.wrap ((a:Int)+1)=((a+1:Nat):Int))(hlt:(a:Int)<(n:Int))(qB:a<n)(hmc:n<=cap)(hkd:(kd !=4)=false)(P:World->Prop)
 (n1:Calls Tryz.prog 27 #[.pointer (some ⟨r,0,none⟩)] W λe W'=>e=.returned (.bool false)/\dx W r tb n cap a o kd t W')
 (nc:Hid (∀w,Calls Tryz.prog 112 #[.string t] w λx w'=>x=.returned (.tuple #[.int .i64 v,.int .i64 e])/\Below w.heap.size w w'))
 (n3:Hid ((e !=0)=true->x=0/\∀w,dx W r tb n cap a o kd t w->Calls Tryz.prog 32 #[.pointer (some ⟨r,0,none⟩),.int .i64 28] w λe W'=>e=.returned (.tuple #[])/\P W'))
 (n4:Hid ((e !=0)=false->x=v/\∀w,dx W r tb n cap a o kd t w->P (w.setCell ⟨r,1,none⟩ (.int .i64 ((a+1:Nat):Int))))):
 Calls Tryz.prog 71 #[.pointer (some ⟨r,0,none⟩)] W λe W'=>e=.returned (.int .i64 x)/\P W':=by
 have HW:=Lib.hid hw1
 clear hw1
 go_enter Tryz.func71,Tryz.ntmps71
 go_wp2_with fail
 refine n1.mono ?_
 rintro x1 w ⟨rfl,hT⟩
 have HT:=Lib.hid hT
 obtain⟨hr,⟨t0,t1⟩,-⟩:=hT
 obtain⟨k0,k1,k2,k3,-⟩:=ag hr
 clear n1 hr
 go_wp2_with fail
 go_quiet (fail)
 obtain⟨w1,hw1'⟩:∃w1,w1=w.drewN nq:=⟨_,rfl⟩
 have HT1:=Lib.hid (HT.out.drewN nq)
 rw[<-hw1']at HT1
 rw[<-hw1']
 clear hw1' HT k0 k1 k2 k3 t0 t1
 have HT:=HT1
 clear HT1
 go_wp2_with fail
 rename_i K1 hK1
 refine Kk λa0 ha hdf=>?_
 have hsz:a0.tmps.size=48:=by rw[ha];rfl
 have hf0:a0.tmps[0]? =some (.pointer (some ⟨r,0,none⟩)):=by rw[ha];rfl
 clear ha
 obtain⟨w2,hw2⟩:∃w2,w2=w1.drew:=⟨_,rfl⟩
 have FC:dx W r tb n cap a o kd t w2:=by rw[hw2];exact HT.out.drewN 1
 have hst:Hid (∀(dn:Nat->Bool) (w:World),(if dn 11=true then Below w2.heap.size w2 w else w=w2)->dx W r tb n cap a o kd t w):=Lib.hid λdn w h=>by
  split at h
  ·exact FC.below h
  ·rw[h];exact FC
 have HW2:=Lib.hid hw2
 have HT2:=Lib.hid FC
 clear hw2 FC HT
 obtain⟨vs,hvs⟩:∃vs:List Value,vs=[(.pointer (some ⟨r,0,none⟩)),(.pointer (some ⟨r,0,none⟩)),(.pointer (some ⟨r,0,none⟩)),(.slice (some ⟨tb,0,none⟩) n cap),(.pointer (some ⟨r,0,none⟩)),(.pointer (some ⟨r,0,none⟩)),(.pointer (some ⟨r,1,none⟩)),(.int .i64 (a:Int)),(.pointer (some ⟨tb,a*3,none⟩)),(.pointer (some ⟨tb,a*3+1,none⟩)),(.string t),(.tuple #[.int .i64 v,.int .i64 e]),(.tuple #[.int .i64 v,.int .i64 e]),(.int .i64 v),(.int .i64 e),(.int .i64 v),(.int .i64 e)]:=⟨_,rfl⟩
 refine dE (λdn w=>if dn 11=true then Below w2.heap.size w2 w else w=w2) (Ord.inD [(1,0),(2,0),(2,1),(3,0),(3,1),(3,2),(5,4),(6,4),(6,5),(7,4),(7,5),(7,6),(8,0),(8,1),(8,2),(8,3),(8,4),(8,5),(8,6),(8,7),(9,0),(9,1),(9,2),(9,3),(9,4),(9,5),(9,6),(9,7),(9,8),(10,0),(10,1),(10,2),(10,3),(10,4),(10,5),(10,6),(10,7),(10,8),(10,9),(11,0),(11,1),(11,2),(11,3),(11,4),(11,5),(11,6),(11,7),(11,8),(11,9),(11,10),(12,0),(12,1),(12,2),(12,3),(12,4),(12,5),(12,6),(12,7),(12,8),(12,9),(12,10),(12,11),(13,0),(13,1),(13,2),(13,3),(13,4),(13,5),(13,6),(13,7),(13,8),(13,9),(13,10),(13,11),(13,12),(14,0),(14,1),(14,2),(14,3),(14,4),(14,5),(14,6),(14,7),(14,8),(14,9),(14,10),(14,11),(14,12),(15,0),(15,1),(15,2),(15,3),(15,4),(15,5),(15,6),(15,7),(15,8),(15,9),(15,10),(15,11),(15,12),(15,13),(16,0),(16,1),(16,2),(16,3),(16,4),(16,5),(16,6),(16,7),(16,8),(16,9),(16,10),(16,11),(16,12),(16,14)]) (Ord.ig (by kernel_rfl)) 17 vs (by rw[hvs];rfl) rfl rfl (by kernel_rfl) (by kernel_rfl) (by kernel_rfl) (by rw[hsz];kernel_rfl) (by simpa using HW2.out.symm) ?_ ?_
 ·intro ρ hD hrest hco hfu
  have e0:ρ (.tmp 0)=.pointer (some ⟨r,0,none⟩):=(hrest 0 (by decide +kernel)).trans (eval_at hf0)
  obtain⟨e22,e23,e24,e25,e26,e27,e28,e29,e30,e31,e32,e33,e21,e34,e35,e3,e4,-⟩:ρ (.tmp 22)=(.pointer (some ⟨r,0,none⟩))/\ρ (.tmp 23)=(.pointer (some ⟨r,0,none⟩))/\ρ (.tmp 24)=(.pointer (some ⟨r,0,none⟩))/\ρ (.tmp 25)=(.slice (some ⟨tb,0,none⟩) n cap)/\ρ (.tmp 26)=(.pointer (some ⟨r,0,none⟩))/\ρ (.tmp 27)=(.pointer (some ⟨r,0,none⟩))/\ρ (.tmp 28)=(.pointer (some ⟨r,1,none⟩))/\ρ (.tmp 29)=(.int .i64 (a:Int))/\ρ (.tmp 30)=(.pointer (some ⟨tb,a*3,none⟩))/\ρ (.tmp 31)=(.pointer (some ⟨tb,a*3+1,none⟩))/\ρ (.tmp 32)=(.string t)/\ρ (.tmp 33)=(.tuple #[.int .i64 v,.int .i64 e])/\ρ (.tmp 21)=(.tuple #[.int .i64 v,.int .i64 e])/\ρ (.tmp 34)=(.int .i64 v)/\ρ (.tmp 35)=(.int .i64 e)/\ρ (.tmp 3)=(.int .i64 v)/\ρ (.tmp 4)=(.int .i64 e)/\True:=dS hvs hD
  refine jZ hvs ?_
  refine⟨λdn hn hd he=>aF (B:=λ_=>True) (λw h=>by simpa using h) (λ_ _=>trivial) (λw0=>aP rfl (bG rfl e0)),?_⟩
  refine⟨λdn hn hd he=>aF (B:=λ_=>True) (λw h=>by simpa using h) (λ_ _=>trivial) (λw0=>aP rfl (il rfl e22)),?_⟩
  refine⟨λdn hn hd he=>aF (B:=λ_=>True) (λw h=>by simpa using h) (λ_ _=>trivial) (λw0=>aP rfl (bS rfl e23 (λw=>by go_simp))),?_⟩
  refine⟨λdn hn hd he=>aF (B:=λw=>dx W r tb n cap a o kd t w) (λw h=>by simpa using h) (λw h=>hst.out dn w h) (λw0=>aP rfl (bT rfl e24 (λw hS=>Lh _ w _ _ _ (ag hS.2.1).1))),?_⟩
  refine⟨λdn hn hd he=>aF (B:=λ_=>True) (λw h=>by simpa using h) (λ_ _=>trivial) (λw0=>aP rfl (bG rfl e0)),?_⟩
  refine⟨λdn hn hd he=>aF (B:=λ_=>True) (λw h=>by simpa using h) (λ_ _=>trivial) (λw0=>aP rfl (il rfl e26)),?_⟩
  refine⟨λdn hn hd he=>aF (B:=λ_=>True) (λw h=>by simpa using h) (λ_ _=>trivial) (λw0=>aP rfl (bS rfl e27 (λw=>by go_simp))),?_⟩
  refine⟨λdn hn hd he=>aF (B:=λw=>dx W r tb n cap a o kd t w) (λw h=>by simpa using h) (λw h=>hst.out dn w h) (λw0=>aP rfl (bT rfl e28 (λw hS=>lZ _ w _ (ag hS.2.1).2.1))),?_⟩
  refine⟨λdn hn hd he=>aF (B:=λ_=>True) (λw h=>by simpa using h) (λ_ _=>trivial) (λw0=>aP rfl (Js rfl e25 e29 qB)),?_⟩
  refine⟨λdn hn hd he=>aF (B:=λ_=>True) (λw h=>by simpa using h) (λ_ _=>trivial) (λw0=>aP rfl (bS rfl e30 (λw=>by go_simp))),?_⟩
  refine⟨λdn hn hd he=>aF (B:=λw=>dx W r tb n cap a o kd t w) (λw h=>by simpa using h) (λw h=>hst.out dn w h) (λw0=>aP rfl (bT rfl e31 (λw hS=>yB _ w _ hS.2.2.1.2))),?_⟩
  refine⟨λdn hn hd he=>⟨λ_ w hS=>?_,λh=>by have h2:true=false:=h;cases h2⟩,?_⟩
  ·simp only[hn,Bool.false_eq_true,if_false]at hS
   subst hS
   unfold execOp
   have hf:=hfu 112
   simp[resolve,invoke,hf,e32,Deferred.ofValue,ent112]
   exact(nc.out w).mono λx w' h=>⟨h.1,by simp;exact h.2⟩
  refine⟨λdn hn hd he=>aF (B:=λ_=>True) (λw h=>by simpa using h) (λ_ _=>trivial) (λw0=>aP rfl (bG rfl e33)),?_⟩
  refine⟨λdn hn hd he=>aF (B:=λ_=>True) (λw h=>by simpa using h) (λ_ _=>trivial) (λw0=>aP rfl (O0 rfl e21 rfl)),?_⟩
  refine⟨λdn hn hd he=>aF (B:=λ_=>True) (λw h=>by simpa using h) (λ_ _=>trivial) (λw0=>aP rfl (O0 rfl e21 rfl)),?_⟩
  refine⟨λdn hn hd he=>aF (B:=λ_=>True) (λw h=>by simpa using h) (λ_ _=>trivial) (λw0=>aP rfl (qE rfl e34)),?_⟩
  refine⟨λdn hn hd he=>aF (B:=λ_=>True) (λw h=>by simpa using h) (λ_ _=>trivial) (λw0=>aP rfl (qE rfl e35)),?_⟩
  exact trivial
 intro b w9 hS hK hD
 have hB:Below w2.heap.size w2 w9:=by simpa using hS
 have wB:=HT2.out.below hB
 have hf3:b.tmps[3]? =some (.int .i64 v):=zU (by rw[hK.size,hsz];decide) (bR.tmp 15 _ _ 3 hD rfl (by rw[hvs];rfl) rfl)
 have cZ:b.tmps[4]? =some (.int .i64 e):=zU (by rw[hK.size,hsz];decide) (bR.tmp 16 _ _ 4 hD rfl (by rw[hvs];rfl) rfl)
 replace hsz:=hK.size.trans hsz
 replace hdf:=hK.defers.trans hdf
 replace hf0:=(hK.rest 0 (by decide +kernel)).trans hf0
 have HT:=Lib.hid wB
 clear hB wB hS hK hD hvs hst HT2 HW2 nc
 clear vs
 refine hK1 _ _ ?_
 clear hK1 K1
 obtain⟨b37,Jg⟩:∃b,(e !=0)=b:=⟨_,rfl⟩
 obtain⟨vs,hvs⟩:∃vs:List Value,vs=[(.int .i64 e),(.bool b37)]:=⟨_,rfl⟩
 refine Og b37 (λw=>w=w9) 2 vs (by rw[hvs];rfl) rfl (by kernel_rfl) (by kernel_rfl) (by rw[hsz];kernel_rfl) rfl ?_ ?_ ?_ ?_
 ·intro ρ hD hrest hco hfu
  have e4:ρ (.tmp 4)=.int .i64 e:=(hrest 4 (by decide +kernel)).trans (eval_at cZ)
  obtain⟨e36,e37,-⟩:ρ (.tmp 36)=(.int .i64 e)/\ρ (.tmp 37)=(.bool b37)/\True:=dS hvs hD
  refine jd hvs ?_
  refine⟨aP rfl (bG rfl e4),?_⟩
  refine⟨aP rfl (ry rfl e36 (hco _) (cmE Jg (cm_ne3 _ _ _ _))),?_⟩
  exact trivial
 ·intro ρ hD;exact bR.tmp 1 _ _ 37 hD rfl (by rw[hvs];rfl) rfl
 ·intro hct b1 w3 hS hK
  subst hS
  obtain⟨hx0,hcl⟩:=n3.out (by rw[Jg];exact hct)
  have hc:=Lib.hid (hcl w3 HT.out)
  clear hcl n3 n4 hct hvs Jg
  clear vs
  replace hsz:=hK.size.trans hsz
  replace hdf:=hK.defers.trans hdf
  replace hf0:=(hK.rest 0 (by decide +kernel)).trans hf0
  refine wp_seq ?_
  obtain⟨vs,hvs⟩:∃vs:List Value,vs=[(.pointer (some ⟨r,0,none⟩)),(.tuple #[])]:=⟨_,rfl⟩
  refine dw (λk w=>if k=2 then P w else w=w3) 2 vs (by rw[hvs];rfl) rfl (by kernel_rfl) (by kernel_rfl) (by rw[hsz];kernel_rfl) (by simp) ?_ ?_
  ·intro ρ hD hrest hco hfu
   have e0:ρ (.tmp 0)=.pointer (some ⟨r,0,none⟩):=(hrest 0 (by decide +kernel)).trans (eval_at hf0)
   obtain⟨e38,e39,-⟩:ρ (.tmp 38)=(.pointer (some ⟨r,0,none⟩))/\ρ (.tmp 39)=(.tuple #[])/\True:=dS hvs hD
   refine mr hvs ?_
   refine⟨aF (B:=λ_=>True) (λw h=>by simpa using h) (λ_ _=>trivial) (λw0=>aP rfl (bG rfl e0)),?_⟩
   refine⟨⟨λ_ w hS=>?_,λh=>by have h2:true=false:=h;cases h2⟩,trivial⟩
   obtain rfl:w=w3:=by simpa using hS
   unfold execOp
   have hf:=hfu 32
   have hc0:=hco (.int .i64 28)
   simp[resolve,invoke,hf,hc0,e38,Deferred.ofValue,DK]
   exact hc.out.mono λe w' h=>⟨h.1,h.2⟩
  intro b2 w4 hS hK2 hD
  have hp:P w4:=by simpa using hS
  refine OT rfl rfl rfl (by rw[hK2.size,hsz];decide) λb9 hd9 hv9=>?_
  try simp only[Exit.then,Exit.inBlock]
  refine bodyPost_ret (results_tmp rfl _ _ _) (hd9.trans (hK2.defers.trans hdf)) ?_
  rw[hv9]
  exact⟨by rw[hx0],hp⟩
 intro hcf b1 w3 hS hK
 subst hS
 obtain⟨hx0,hcl⟩:=n4.out (by rw[Jg];exact hcf)
 have hp:=Lib.hid (hcl w3 HT.out)
 clear hcl n3 n4 hcf hvs Jg
 clear vs
 replace hsz:=hK.size.trans hsz
 replace hdf:=hK.defers.trans hdf
 replace hf0:=(hK.rest 0 (by decide +kernel)).trans hf0
 replace hf3:=(hK.rest 3 (by decide +kernel)).trans hf3
 clear hK
 obtain⟨w5,JQ⟩:∃w5,w5=w3.setCell ⟨r,1,none⟩ (.int .i64 ((a+1:Nat):Int)):=⟨_,rfl⟩
 have HW5:=Lib.hid JQ
 rw[<-JQ]at hp
 clear JQ
 have hc1:w3.cell? ⟨r,1,none⟩=some (.int .i64 (a:Int)):=(ag HT.out.1).2.1
 have hfz:w3.frozen? ⟨r,1,none⟩=false:=aJ 1 HT.out.1
 refine wp_seq ?_
 obtain⟨vs,hvs⟩:∃vs:List Value,vs=[(.pointer (some ⟨r,0,none⟩)),(.pointer (some ⟨r,0,none⟩)),(.pointer (some ⟨r,1,none⟩)),(.int .i64 (a:Int)),(.int .i64 ((a+1:Nat):Int)),(.pointer (some ⟨r,0,none⟩)),(.pointer (some ⟨r,1,none⟩)),undef]:=⟨_,rfl⟩
 refine dw (λk w=>if k=8 then w=w5 else w=w3) 8 vs (by rw[hvs];rfl) rfl (by kernel_rfl) (by kernel_rfl) (by rw[hsz];kernel_rfl) (by simp) ?_ ?_
 ·intro ρ hD hrest hco hfu
  have e0:ρ (.tmp 0)=.pointer (some ⟨r,0,none⟩):=(hrest 0 (by decide +kernel)).trans (eval_at hf0)
  obtain⟨e40,e41,e42,e43,e44,e45,e46,-⟩:ρ (.tmp 40)=(.pointer (some ⟨r,0,none⟩))/\ρ (.tmp 41)=(.pointer (some ⟨r,0,none⟩))/\ρ (.tmp 42)=(.pointer (some ⟨r,1,none⟩))/\ρ (.tmp 43)=(.int .i64 (a:Int))/\ρ (.tmp 44)=(.int .i64 ((a+1:Nat):Int))/\ρ (.tmp 45)=(.pointer (some ⟨r,0,none⟩))/\ρ (.tmp 46)=(.pointer (some ⟨r,1,none⟩))/\True/\True:=dS hvs hD
  refine mr hvs ?_
  refine⟨aF (B:=λ_=>True) (λw h=>by simpa using h) (λ_ _=>trivial) (λw0=>aP rfl (bG rfl e0)),?_⟩
  refine⟨aF (B:=λ_=>True) (λw h=>by simpa using h) (λ_ _=>trivial) (λw0=>aP rfl (il rfl e40)),?_⟩
  refine⟨aF (B:=λ_=>True) (λw h=>by simpa using h) (λ_ _=>trivial) (λw0=>aP rfl (bS rfl e41 (λw=>by go_simp))),?_⟩
  refine⟨aF (B:=λw=>w=w3) (λw h=>by simpa using h) (λw h=>by simpa using h) (λw0=>aP rfl (bT rfl e42 (λw hS=>lZ _ w _ (by rw[hS.2];exact hc1)))),?_⟩
  refine⟨aF (B:=λ_=>True) (λw h=>by simpa using h) (λ_ _=>trivial) (λw0=>aP rfl (ry rfl e43 (hco _) (λw=>su _ _ _ _ w HW.out))),?_⟩
  refine⟨aF (B:=λ_=>True) (λw h=>by simpa using h) (λ_ _=>trivial) (λw0=>aP rfl (il rfl e40)),?_⟩
  refine⟨aF (B:=λ_=>True) (λw h=>by simpa using h) (λ_ _=>trivial) (λw0=>aP rfl (bS rfl e45 (λw=>by go_simp))),?_⟩
  refine⟨⟨λ_ w hS=>?_,λh=>by have h2:true=false:=h;cases h2⟩,trivial⟩
  obtain rfl:w=w3:=by simpa using hS
  unfold execOp
  simp only[e46,e44]
  go_simp
  exact⟨rfl,HW5.out.symm⟩
 intro b2 w4 hS hK hD
 obtain rfl:w4=w5:=by simpa using hS
 replace hsz:=hK.size.trans hsz
 replace hdf:=hK.defers.trans hdf
 replace hf3:=(hK.rest 3 (by decide +kernel)).trans hf3
 clear hvs hD hK
 clear vs
 refine wp_seq ?_
 obtain⟨vs,hvs⟩:∃vs:List Value,vs=[(.int .i64 v),(.int .i64 v)]:=⟨_,rfl⟩
 refine EA (λw=>w=w4) 2 vs (by rw[hvs];rfl) rfl (by kernel_rfl) (by kernel_rfl) (by rw[hsz];kernel_rfl) rfl ?_ ?_
 ·intro ρ hD hrest hco hfu
  have e3:ρ (.tmp 3)=.int .i64 v:=(hrest 3 (by decide +kernel)).trans (eval_at hf3)
  obtain⟨e47,e2,-⟩:ρ (.tmp 47)=(.int .i64 v)/\ρ (.tmp 2)=(.int .i64 v)/\True:=dS hvs hD
  refine jd hvs ?_
  refine⟨aP rfl (bG rfl e3),?_⟩
  refine⟨aP rfl (qE rfl e47),?_⟩
  exact trivial
 intro b3 w6 hS hK hD
 subst hS
 refine wp_ret ?_
 have hv9:b3.tmps.getD 2 undef=.int .i64 v:=bR.tmp 1 _ _ 2 hD rfl (by rw[hvs];rfl) rfl
 refine bodyPost_ret (results_tmp rfl _ _ _) (hK.defers.trans hdf) ?_
 rw[hv9]
 exact⟨by rw[hx0],hp.out⟩
theorem Ik (W:World)(r:Nat)(P:World->Prop)
 (n1:Calls Tryz.prog 27 #[.pointer (some ⟨r,0,none⟩)] W λe W'=>e=.returned (.bool true)/\P W'):
 Calls Tryz.prog 71 #[.pointer (some ⟨r,0,none⟩)] W λe W'=>e=.returned (.int .i64 0)/\P W':=by
 go_enter Tryz.func71,Tryz.ntmps71
 go_wp2_with fail
 refine n1.mono ?_
 rintro x w ⟨rfl,hp⟩
 clear n1
 go_wp2_with fail
 go_ret
 exact⟨rfl,hp⟩
theorem zw (W:World)(r tb n cap a:Nat)(o kd:Int)(t:ByteArray)(hkd:(kd !=4)=true)(hlt:(a:Int)<(n:Int))(qB:a<n)(hmc:n<=cap)(P:World->Prop)
 (n1:Calls Tryz.prog 27 #[.pointer (some ⟨r,0,none⟩)] W λe W'=>e=.returned (.bool false)/\dx W r tb n cap a o kd t W')
 (n3:Hid (∀w,dx W r tb n cap a o kd t w->Calls Tryz.prog 32 #[.pointer (some ⟨r,0,none⟩),.int .i64 30] w λe W'=>e=.returned (.tuple #[])/\P W')):
 Calls Tryz.prog 71 #[.pointer (some ⟨r,0,none⟩)] W λe W'=>e=.returned (.int .i64 0)/\P W':=by
 go_enter Tryz.func71,Tryz.ntmps71
 go_wp2_with fail
 refine n1.mono ?_
 rintro x w ⟨rfl,hT⟩
 have HT:=Lib.hid hT
 obtain⟨hr,⟨t0,t1⟩,-⟩:=hT
 obtain⟨k0,k1,k2,k3,-⟩:=ag hr
 clear n1 hr
 go_wp2_with fail
 go_quiet (fail)
 have m3:=n3.out _ (HT.out.drewN nq)
 clear n3
 go_wp2_with fail
 refine m3.mono ?_
 rintro x w2 ⟨rfl,hp⟩
 clear m3
 go_wp2_with fail
 go_ret
 exact⟨rfl,hp⟩
theorem Ny {W:World}{r tb cap:Nat}{l:List Ps.Tok}{st:Ps.St}(h:ae W r tb cap l st)(hl:bF l)(E:Ps.Env)
 (nc:∀t∈l,t.1=4->∀w,Calls Tryz.prog 112 #[.string t.2.1] w λx w'=>x=.returned (.tuple #[.int .i64 (E.date t.2.1).1,.int .i64 (E.date t.2.1).2])/\Below w.heap.size w w'):
 Calls Tryz.prog 71 #[.pointer (some ⟨r,0,none⟩)] W λe W'=>e=.returned (.int .i64 (Ps.step (Ps.day E l) 0 st).1)/\ae W' r tb cap l (Ps.step (Ps.day E l) 0 st).2/\Tch r r W W':=by
 have n1:=oV h hl
 cases hb:Ps.bA l st with
 |false=>
  rw[hb]at n1
  have e1:Ps.bJ l st=(Ps.step (Ps.day E l) 0 st).2/\(Ps.step (Ps.day E l) 0 st).1=0:=by
   cases st with
   |error er=>exact⟨rfl,rfl⟩
   |ok a=>
    have hge:l.length<=a:=by simpa[Ps.bA]using hb
    have hw:Ps.day E l a=.error (Ps.short l):=by unfold Ps.day Ps.take;rw[List.getElem?_eq_none hge]
    rw[Ps.aX hw]
    exact⟨by simp[Ps.bJ,Nat.not_lt.2 hge],rfl⟩
  rw[e1.1]at n1
  rw[e1.2]
  exact Ik W r _ n1
 |true=>
  cases st with
  |error er=>cases hb
  |ok a=>
   have hlt:a<l.length:=by simpa[Ps.bA]using hb
   obtain⟨t,eG⟩:∃t,l[a]? =some t:=⟨_,List.getElem?_eq_getElem hlt⟩
   have hmem:=List.mem_of_getElem? eG
   have hc:=nc t hmem
   obtain⟨a',e,o,hr,ht,hne,hpos,hcap,bE,hs⟩:=h
   obtain⟨rfl,rfl,hle⟩:=hs
   obtain⟨k0,k1,k2,k3,-⟩:=ag hr
   obtain⟨t0,t1,t2⟩:=ht a t eG
   have m1:Calls Tryz.prog 27 #[.pointer (some ⟨r,0,none⟩)] W λe W'=>e=.returned (.bool false)/\dx W r tb l.length cap a o t.1 t.2.1 W':=by
    refine(jk W r tb l.length cap a k0 k1 k2 (by omega)).mono ?_
    rintro x w ⟨rfl,k,rfl⟩
    exact⟨rfl,hr,⟨t0,t1⟩,Tch.drewN _ _ _ _⟩
   have back:∀w,dx W r tb l.length cap a o t.1 t.2.1 w->ae w r tb cap l (.ok a)/\Tch r r W w:=λw hw=>
    ⟨⟨a,0,o,hw.1,ht.tch hw.2.2 hne hne,hne,hpos,hcap,bE,rfl,rfl,hle⟩,hw.2.2⟩
   by_cases hk:t.1=4
   ·have hok:(E.date t.2.1).2=0->Ps.day E l a=.ok ((E.date t.2.1).1,a+1):=λhe=>by simp[Ps.day,Ps.take,eG,hk,he]
    have hbd:(E.date t.2.1).2≠0->Ps.day E l a=.error (Ps.aT l a,28):=λhe=>by simp[Ps.day,Ps.take,eG,hk,he]
    refine Kz W r tb l.length cap a o t.1 t.2.1 (E.date t.2.1).1 (E.date t.2.1).2 _ (IntWalk.i64_in _ (by omega)) (by omega) hlt hcap (by rw[hk];rfl) (λW'=>ae W' r tb cap l (Ps.step (Ps.day E l) 0 (.ok a)).2/\Tch r r W W') m1 (Lib.hid (hc hk)) (Lib.hid λhe=>?_) (Lib.hid λhe=>?_)
    ·have hw:=hbd (by simpa using he)
     rw[Ps.aX hw]
     refine⟨rfl,λw hw=>?_⟩
     refine(gW (back w hw).1 28 (by decide) (λb hb=>by cases hb;exact hlt)).mono ?_
     rintro e W' ⟨h1,h2,h3⟩
     exact⟨h1,h2,(back w hw).2.trans h3⟩
    ·have hw:=hok (by simpa using he)
     rw[Ps.step_ok hw]
     exact⟨rfl,λw hw=>⟨⟨_,0,o,aN w r 1 _ _ (.int .i64 ((a+1:Nat):Int)) hw.1,ht.tch (hw.2.2.setCell 1 _) hne hne,hne,hpos,hcap,bE,rfl,rfl,hlt⟩,hw.2.2.setCell 1 _⟩⟩
   ·have hw:Ps.day E l a=.error (Ps.aT l a,30):=by simp[Ps.day,Ps.take,eG,hk,Ps.fM]
    rw[Ps.aX hw]
    refine zw W r tb l.length cap a o t.1 t.2.1 (by simp[hk]) (by omega) hlt hcap _ m1 (Lib.hid λw hw=>?_)
    refine(gW (back w hw).1 30 (by decide) (λb hb=>by cases hb;exact hlt)).mono ?_
    rintro e W' ⟨h1,h2,h3⟩
    exact⟨h1,h2,(back w hw).2.trans h3⟩
theorem cm_neL (x y:Operand)(n m:Int)(s t:ByteArray)(w:World):(do eqGuard .neq 96 x y (.agg #[.int .i64 n,.string s]) (.agg #[.int .i64 m,.string t]);binOp .neq 96 (.agg #[.int .i64 n,.string s]) (.agg #[.int .i64 m,.string t]):Sem Value).run Tryz.prog w=.ok (.bool (!(decide (n=m)&&(s.toList==t.toList)))) w:=by
 go_simp
 repeat' split
 all_goals simp_all
def wY (rows:List (Option (Nat×Nat)×List Value))(o:Oper)(ov:Operand->Option AV):Option AV:=match o.op with
 | .indexAddr t x y=>if t=33 then(match ov x,ov y with
   |some (.r p 15),some (.r 1 0)=>if p=0\/p=2 then(match dG rows p 15,dG rows 1 0 with
    | .slice _ _ _,.int .i64 _=>some (.p (if p=0 then 3 else 4) 0)
    |_,_=>none)else none
   |_,_=>none)else none
 | .binOp .neq t x y _=>if t=96 then(match ov x,ov y with
   |some (.a p 0 2),some (.a q 0 2)=>(match dG rows p 0,dG rows p 1,dG rows q 0,dG rows q 1 with
    | .int .i64 n,.string s,.int .i64 m,.string t=>some (.v (.bool (!(decide (n=m)&&(s.toList==t.toList)))))
    |_,_,_,_=>none)
   |_,_=>none)else none
 |_=>yZ rows o ov
def vP (rows:List (Option (Nat×Nat)×List Value)):Mem Unit:=jJ mi rows (λ_ _=>none) (wY rows)
theorem Bl {rows:List (Option (Nat×Nat)×List Value)}{S:World->Prop}(hrow:∀(k b o:Nat) (l:List Value),rows[k]? =some (some (b,o),l)->∀w,S w->∀(j:Nat) (v:Value),l[j]? =some v->w.cell? ⟨b,o+j,none⟩=some v)
 (hix:∀(p:Nat) (sb:Option Addr) (n c:Nat) (m:Int),p=0\/p=2->dG rows p 15=.slice sb n c->dG rows 1 0=.int .i64 m->∃(b k:Nat),sb=some ⟨b,0,none⟩/\m=(k:Int)/\k<n/\∃l,rows[if p=0 then 3 else 4]? =some (some (b,k*2),l)):Ev.Ok Tryz.prog (λ_ w=>S w) (vP rows):=by
 refine Ev.gD (λt f d h=>lW h) hrow (λ_ _ _ h=>by cases h) (λo ov v h ρ hov w hS=>?_)
 unfold wY at h
 split at h
 ·rename_i t x y ho
  split at h
  ·rename_i ht
   subst ht
   split at h
   ·rename_i p h1 h2
    split at h
    ·rename_i hp
     split at h
     ·rename_i sa n c m h3 h4
      cases h
      obtain⟨b,k,rfl,rfl,hk,l,h5⟩:=hix _ _ _ _ _ hp h3 h4
      have e1:ρ x=.slice (some ⟨b,0,none⟩) n c:=(hov _ _ h1).trans h3
      have e2:ρ y=.int .i64 (k:Int):=(hov _ _ h2).trans h4
      have hb3:(Ev.oN rows).getD (if p=0 then 3 else 4) (0,0)=(b,k*2):=by simp[Ev.oN,h5]
      have hv:eZ rows (.p (if p=0 then 3 else 4) 0)=.pointer (some ⟨b,k*2,none⟩):=by
       show Value.pointer (some ⟨((Ev.oN rows).getD (if p=0 then 3 else 4) (0,0)).1,((Ev.oN rows).getD (if p=0 then 3 else 4) (0,0)).2+0,none⟩)=_
       rw[hb3]
       rfl
      have NZ:(k:Int)<(n:Int):=by omega
      rw[hv]
      clear hv hb3 h5
      unfold execOp
      simp only[ho,e1,e2]
      go_simp
     ·cases h
    ·cases h
   ·cases h
  ·cases h
 ·rename_i t x y t2 ho
  split at h
  ·rename_i ht
   subst ht
   split at h
   ·rename_i p q h1 h2
    split at h
    ·rename_i n s m t k1 k2 k3 k4
     cases h
     have e1:ρ x=.agg #[.int .i64 n,.string s]:=by
      rw[hov _ _ h1]
      show Value.agg #[dG rows p (0+0),dG rows p (0+1)]=_
      rw[show dG rows p (0+0)=_ from k1,show dG rows p (0+1)=_ from k2]
     have e2:ρ y=.agg #[.int .i64 m,.string t]:=by
      rw[hov _ _ h2]
      show Value.agg #[dG rows q (0+0),dG rows q (0+1)]=_
      rw[show dG rows q (0+0)=_ from k3,show dG rows q (0+1)=_ from k4]
     unfold execOp
     simp only[ho,e1,e2]
     rw[Sem.run_bind,cm_neL]
     rfl
    ·cases h
   ·cases h
  ·cases h
 ·exact wm h hov w
noncomputable def sameB:Code:=Tryz.f33.body.getD .skip
noncomputable def nN:Code×List Ev.Fm:=aK dW sameB
def zJ (g h:Nat)(a b:Ps.Ins)(la lb:Value):List (Option (Nat×Nat)×List Value):=[(some (g,0),aB a la),(none,[]),(some (h,0),aB b lb)]
def K8 (g h:Nat)(a b:Ps.Ins)(la lb:Value)(k sb tb:Nat)(y z:Ps.Link):List (Option (Nat×Nat)×List Value):=[(some (g,0),aB a la),(none,[.int .i64 k]),(some (h,0),aB b lb),(some (sb,k*2),[.int .i64 y.type,.string y.ref]),(some (tb,k*2),[.int .i64 z.type,.string z.ref])]
theorem vT {W:World}{sb k:Nat}{ks:List Ps.Link}{y:Ps.Link}(h:dM W sb ks)(hy:ks[k]? =some y):∀(j:Nat) (v:Value),([.int .i64 y.type,.string y.ref]:List Value)[j]? =some v->W.cell? ⟨sb,k*2+j,none⟩=some v:=by
 intro j v hv
 obtain⟨z1,z2⟩:=h k y hy
 rcases j with _|_|j
 ·cases hv;exact z1
 ·cases hv;exact z2
 ·cases hv
theorem BZ (w:World)(a0 b0:Ps.Ins)(sa ta:Option Addr)(sn sc tn tc:Nat)(x:Bool)(hb63:Hid (sn<=9223372036854775806))(hsn:Hid (sn=a0.links.length))(htn:Hid (tn=b0.links.length))
 (hlk:Hid (0<sn->∃sb,sa=some ⟨sb,0,none⟩/\∀W,Below w.heap.size w W->dM W sb a0.links)) (hlm:Hid (0<tn->∃sb,ta=some ⟨sb,0,none⟩/\∀W,Below w.heap.size w W->dM W sb b0.links))
 (hx1:Hid (¬sn=tn->x=false)) (hx2:Hid (sn=tn->(∃(j:Nat) (y z:Ps.Link),a0.links[j]? =some y/\b0.links[j]? =some z/\¬(y.type=z.type/\y.ref=z.ref))->x=false))
 (hx3:Hid (sn=tn->(∀(j:Nat) (y z:Ps.Link),a0.links[j]? =some y->b0.links[j]? =some z->y.type=z.type/\y.ref=z.ref)->x=((((((((((((((((a0.ref.toList==b0.ref.toList)&&(a0.kind==b0.kind))&&(a0.sender.toList==b0.sender.toList))&&(a0.counterparty.toList==b0.counterparty.toList))&&(a0.side==b0.side))&&(a0.asset.toList==b0.asset.toList))&&(a0.quantity==b0.quantity))&&(a0.amount==b0.amount))&&(a0.tradeDay==b0.tradeDay))&&(a0.settleDay==b0.settleDay))&&(a0.priority==b0.priority))&&(a0.partial_==b0.partial_))&&(a0.minLot==b0.minLot))&&(a0.hold==b0.hold))&&(a0.reserve==b0.reserve))))):
 Calls Tryz.prog 33 #[.agg (aB a0 (.slice sa sn sc)).toArray,.agg (aB b0 (.slice ta tn tc)).toArray] w λe w'=>e=.returned (.bool x)/\Below w.heap.size w w':=by
 go_enter Tryz.func33,Tryz.ntmps33
 refine wp_seq ?_
 refine wp_region_lit ?_
 refine wpList_plain rfl (λK hK=>?_)
 go_simp
 refine hK _ _ ?_
 clear hK K
 refine wpList_plain rfl (λK hK=>?_)
 go_simp
 refine hK _ _ ?_
 clear hK K
 refine wpList_plain rfl (λK hK=>?_)
 go_simp
 refine hK _ _ ?_
 clear hK K
 refine aL ?_
 obtain⟨Wa,hWa⟩:∃Wa,Wa=w.alloc (.cells (aB a0 (.slice sa sn sc)).toArray 35):=⟨_,rfl⟩
 obtain⟨W1,hW1⟩:∃W1,W1=Wa.alloc (.cells (aB b0 (.slice ta tn tc)).toArray 35):=⟨_,rfl⟩
 obtain⟨g,hg⟩:∃g,g=w.heap.size:=⟨_,rfl⟩
 obtain⟨h,hh⟩:∃h,h=w.heap.size+1:=⟨_,rfl⟩
 have KA:h=Wa.heap.size:=by rw[hh,hWa];simp
 have uX:Below Wa.heap.size Wa W1:=by rw[hW1];exact(Below.refl _ _).alloc (Nat.le_refl _) _
 have hrow:∀W,Below W1.heap.size W1 W->W.heap[g]? =some (.cells (aB a0 (.slice sa sn sc)).toArray 35 (0,0)):=λW hW=>by
  rw[hW.block g (by rw[hW1,hWa,hg];simp;omega),uX.block g (by rw[hWa,hg];simp),hWa,hg];exact aD w _
 have kV:∀W,Below W1.heap.size W1 W->W.heap[h]? =some (.cells (aB b0 (.slice ta tn tc)).toArray 35 (0,0)):=λW hW=>by
  rw[hW.block h (by rw[KA,hW1];simp),hW1,KA];exact aD Wa _
 have hB1:Below w.heap.size w W1:=((by rw[hWa];exact(Below.refl _ _).alloc (Nat.le_refl _) _:Below w.heap.size w Wa).trans (uX.mono (by rw[hWa];simp)))
 rw[<-hg]at hh
 rw[<-hWa,<-hW1,<-hg,<-hh]
 clear hW1 hWa KA uX hh
 refine iq rfl λa ha hdf=>?_
 have hret:∀(b:Act) (W:World),b.defers=[]->b.tmps[4]? =some (.bool x)->Below W1.heap.size W1 W->bodyPost Tryz.prog Tryz.f33 (λe w'=>e=.returned (.bool x)/\Below g w w') .ret b W:=λb W hd ht hS=>by
  refine bodyPost_ret (results_tmp rfl _ _ _) hd ?_
  rw[hg]
  exact⟨by rw[show b.tmps.getD 4 undef=.bool x from eval_at ht],hB1.trans (hS.mono hB1.size)⟩
 have hO3:Ev.Ok Tryz.prog (λ(_:Unit) W=>Below W1.heap.size W1 W) (vP (zJ g h a0 b0 (.slice sa sn sc) (.slice ta tn tc))):=by
  refine Bl (λq b o l h W hS=>?_) (λp sb n c m hp h1 h2=>?_)
  ·rcases q with _|_|_|q
   ·cases h;exact fF hrow W hS
   ·cases h
   ·cases h;exact fF kV W hS
   ·cases h
  ·cases h2
 have hx0:(if (((sn:Int) !=(tn:Int))=true)then false else x)=x:=by
  split
  ·rename_i h1
   exact(hx1.out (by intro h2;rw[h2]at h1;simp at h1)).symm
  ·rfl
 refine Ev.AU (M:=vP (zJ g h a0 b0 (.slice sa sn sc) (.slice ta tn tc))) (S:=λ_ W=>Below W1.heap.size W1 W) (n:=134) (K:=[(2,.p 0 0),(3,.p 2 0)]) (s:=()) (v:=if (((sn:Int) !=(tn:Int))=true)then false else x) (hv:=x) (l:=[(nN.1,nN.2,[some (.p 0 0),some (.p 2 0),some (.v (.int .i64 0))],(),[!((sn:Int) !=(tn:Int))])]) 4 [2,3,5] [0] hO3 (λ_ W h=>h.drew) (by kernel_rfl) (by kernel_rfl) (Ev.aC (Ev.aC (Ev.aU (by rw[ha];rfl) hdf) (by rw[ha];rfl)) (by rw[ha];rfl)) (Below.refl _ _) (λb W _ hd ht hS=>hret b W hd (by rw[<-hx0];exact ht) hS) ?_
 intro _ y hy hcs b W hst hS
 rw[List.mem_singleton]at hy
 subst hy
 have Gx:sn=tn:=by
  have h8:=hcs _ (List.mem_singleton.2 rfl)
  simp at h8
  omega
 subst Gx
 clear hcs hx0 hx1 ha
 obtain⟨h2,hst⟩:=hst.cons
 obtain⟨h3,hst⟩:=hst.cons
 obtain⟨h5,hst⟩:=hst.cons
 have e1:nN.1=.loop (fP nN.1):=by kernel_rfl
 have e2:nN.2=[.bl 0,.sq (fmC nN.2 1)]:=by kernel_rfl
 show nN.1.wp Tryz.prog (Qof Tryz.prog nN.2 _) b W
 rw[e1,e2]
 refine wp_loop (λa w=>∃k:Nat,k<=sn/\a.tmps.size=134/\a.defers=[]/\a.tmps[2]? =some (.pointer (some ⟨g,0,none⟩))/\a.tmps[3]? =some (.pointer (some ⟨h,0,none⟩))/\a.tmps[5]? =some (.int .i64 (k:Int))/\Below W1.heap.size W1 w/\∀(j:Nat) (y z:Ps.Link),j<k->a0.links[j]? =some y->b0.links[j]? =some z->y.type=z.type/\y.ref=z.ref) (λa _=>match a.tmps[5]? with|some (Value.int _ k)=>sn-k.toNat|_=>0) ⟨0,Nat.zero_le _,hst.1,hst.2.1,h2,h3,h5,hS,λj _ _ hj=>absurd hj (Nat.not_lt_zero _)⟩ ?_
 clear hst h2 h3 h5 hS hdf
 rintro b W ⟨k,hk,hsz,hdf,h2,h3,h5,hS,heq⟩
 have hm:(match b.tmps[5]? with|some (Value.int _ k)=>sn-k.toNat|_=>0)=sn-k:=by rw[h5];simp
 rw[hm]
 rcases Nat.lt_or_ge k sn with hkn|hge
 ·obtain⟨y,hy⟩:∃y,a0.links[k]? =some y:=⟨_,List.getElem?_eq_getElem (by rw[<-hsn.out];exact hkn)⟩
  obtain⟨z,hz⟩:∃z,b0.links[k]? =some z:=⟨_,List.getElem?_eq_getElem (by rw[<-htn.out];exact hkn)⟩
  obtain⟨sb,rfl,hlr⟩:=hlk.out (by omega)
  obtain⟨tb,rfl,hmr⟩:=hlm.out (by omega)
  have hO5:Ev.Ok Tryz.prog (λ(_:Unit) W=>Below W1.heap.size W1 W) (vP (K8 g h a0 b0 (.slice (some ⟨sb,0,none⟩) sn sc) (.slice (some ⟨tb,0,none⟩) sn tc) k sb tb y z)):=by
   refine Bl (λq b o l h W hS=>?_) (λp sb2 n c m hp h1 h2=>?_)
   ·rcases q with _|_|_|_|_|q
    ·cases h;exact fF hrow W hS
    ·cases h
    ·cases h;exact fF kV W hS
    ·cases h;exact vT (hlr W (hB1.trans (hS.mono hB1.size))) hy
    ·cases h;exact vT (hmr W (hB1.trans (hS.mono hB1.size))) hz
    ·cases h
   ·cases h2
    rcases hp with rfl|rfl
    ·cases h1;exact⟨sb,k,rfl,rfl,hkn,_,rfl⟩
    ·cases h1;exact⟨tb,k,rfl,rfl,hkn,_,rfl⟩
  have hw1:IntKind.i64.wrap ((k:Int)+1)=((k+1:Nat):Int):=by have:=hb63.out;rw[IntWalk.i64_in _ (by omega)];rfl
  refine Ev.jA (M:=vP (K8 g h a0 b0 (.slice (some ⟨sb,0,none⟩) sn sc) (.slice (some ⟨tb,0,none⟩) sn tc) k sb tb y z)) (S:=λ_ W=>Below W1.heap.size W1 W) (n:=134) (K:=[(2,.p 0 0),(3,.p 2 0),(5,.r 1 0)]) (s:=()) [2,3,5,4]
   (.ite (decide ((k:Int)<(sn:Int))) (.ite (!(decide (y.type=z.type)&&(y.ref.toList==z.ref.toList))) (.ret [some (.p 0 0),some (.p 2 0),some (.r 1 0),some (.v (.bool false))] ()) (.nx [some (.p 0 0),some (.p 2 0),some (.v (.int .i64 (IntKind.i64.wrap ((k:Int)+1)))),none] ())) (.out 0 [some (.p 0 0),some (.p 2 0),some (.r 1 0),none] ()))
   hO5 (λ_ _ h=>h.drew) (by kernel_rfl) (Ev.aC (Ev.aC (Ev.aC (Ev.aU hsz hdf) h5) h3) h2) hS ⟨λc1=>⟨λc2 b W hst hS=>?_,λc2 b W hst hS=>?_⟩,λc1 b W hst hS=>absurd c1 (by simp;omega)⟩
  ·refine hret b W hst.2.1 ?_ hS
   rw[hx2.out rfl ⟨k,y,z,hy,hz,λ⟨q1,q2⟩=>by rw[q1,q2]at c2;simp at c2⟩]
   exact hst.2.2 3 4 _ rfl rfl
  ·obtain⟨f2,hst⟩:=hst.cons
   obtain⟨f3,hst⟩:=hst.cons
   obtain⟨f5,hst⟩:=hst.cons
   have f5':b.tmps[5]? =some (.int .i64 ((k+1:Nat):Int)):=by rw[<-hw1];exact f5
   refine⟨⟨k+1,hkn,hst.1,hst.2.1,f2,f3,f5',hS,λj y2 z2 hj hy2 hz2=>?_⟩,?_⟩
   ·rcases Nat.lt_or_ge j k with h1|h1
    ·exact heq j y2 z2 h1 hy2 hz2
    ·obtain rfl:j=k:=by omega
     rw[hy]at hy2;rw[hz]at hz2
     cases hy2;cases hz2
     have c3:(decide (y.type=z.type)&&(y.ref.toList==z.ref.toList))=true:=by cases hq:(decide (y.type=z.type)&&(y.ref.toList==z.ref.toList))with|true=>rfl|false=>rw[hq]at c2;cases c2
     rw[Bool.and_eq_true]at c3
     exact⟨of_decide_eq_true c3.1,bytes_inj c3.2⟩
   ·rw[f5'];simp;omega
 ·refine Ev.jA (M:=vP (zJ g h a0 b0 (.slice sa sn sc) (.slice ta sn tc))) (S:=λ_ W=>Below W1.heap.size W1 W) (n:=134) (K:=[(2,.p 0 0),(3,.p 2 0),(5,.v (.int .i64 (k:Int)))]) (s:=()) [2,3] (.ite (decide ((k:Int)<(sn:Int))) (.go (aK (aM 6) (fP nN.1)) [some (.p 0 0),some (.p 2 0)] ()) (.out 0 [some (.p 0 0),some (.p 2 0)] ())) hO3 (λ_ _ h=>h.drew) (by kernel_rfl) (Ev.aC (Ev.aC (Ev.aC (Ev.aU hsz hdf) h5) h3) h2) hS ⟨λc1 b W hst hS=>absurd c1 (by simp;omega),λc1 b W hst hS=>?_⟩
  obtain⟨f2,hst⟩:=hst.cons
  obtain⟨f3,hst⟩:=hst.cons
  show(fmC nN.2 1).wp Tryz.prog _ b W
  have hx4:=hx3.out rfl (λj y z hy hz=>heq j y z (by have:=(List.getElem?_eq_some_iff.1 hy).1;have:=hsn.out;omega) hy hz)
  refine Ev.yO (M:=vP (zJ g h a0 b0 (.slice sa sn sc) (.slice ta sn tc))) (S:=λ_ W=>Below W1.heap.size W1 W) (n:=134) (K:=[(2,.p 0 0),(3,.p 2 0)]) (s:=()) (v:=x) 4 hO3 (λ_ _ h=>h.drew) (by rw[hx4];kernel_rfl) (by kernel_rfl) (Ev.aC (Ev.aC (Ev.aU hst.1 hst.2.1) f3) f2) hS λb W _ h1 h2 h3=>hret b W h1 h2 h3
end Go.Proofs.YthijakidnkhbnaaGreatDoor
