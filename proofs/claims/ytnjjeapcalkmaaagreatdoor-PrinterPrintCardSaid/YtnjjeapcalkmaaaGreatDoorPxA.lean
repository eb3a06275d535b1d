/-
  Part 1 of a proof; written short by a program out of longer texts of mine.
-/
import Derived.WalkKit
import Derived.Lib.Hide
import Derived.Lib.Split
import Derived.Lib.SplitLaws
import Derived.Lib.IndexMore
import Derived.Lib.Strings
import Derived.Test.YtnjjeapcalkmaaaGreatDoorProg
import Derived.Test.YtnjjeapcalkmaaaGreatDoorShelf
import Derived.WalkSpells
import Derived.WalkLawsBesides
import Derived.Shelf.GgClosure.Gives
import Derived.Deep.Draws
import Derived.Lib.CutLaws
import Derived.Laws.EntriesVeiled
import Derived.Deep.RegionWith
import Derived.Lib.ItoaNum
import Derived.PlainAid
import Derived.Shelf.Strings.Builder1
import Derived.Laws.RangeString
import Derived.Deep.RegionHeld3
import Derived.Deep.QuietTactic
import Derived.BigQuiet
import Derived.OrdersHeld
import Derived.Laws.Tables
import Derived.StillTailTactics
import Derived.Deep.RegionLaw
import Derived.RangeFuncBox
import Derived.Maps.AppendAt
import Derived.Lib.AtoiErrMem
import Derived.Shelf.Strings.SlTrimAscii
import Derived.Lib.SlTrimSet
import Derived.Deep.AppendLies
import Derived.Deep.LoopGhost
import Derived.Laws.Rows
import Derived.Deep.DeepCutAuto
import Derived.Deep.CutBlock
import Derived.Test.YtnjjeapcalkmaaaGreatDoorRows
import Derived.LaidMore
import Derived.LaidHandle
import Derived.Deep.SlicePairs
import Derived.ProofKit
import Derived.Lib.LaidU8
import Derived.OpenShut
import Derived.Lib.LaidTab
import Derived.Below
import Derived.Lib.ParseIntB
import Derived.Lib.ParseIntBCases
import Derived.Lib.ItoaMem
import Derived.LoopN
import Derived.WideShapes
import Derived.Deep.WholeRow
import Derived.Deep.Fields
import Derived.Test.YtnjjeapcalkmaaaGreatDoorCards
import Derived.Test.YtnjjeapcalkmaaaGreatDoorTie
import Derived.Test.YtnjjeapcalkmaaaGreatDoorLawPrPrintFacts
import Derived.Deep.Matrix
import Derived.Deep.Grids
import Derived.SizedLaws
import Derived.Deep.DeepHandedRow
import Derived.Deep.DeepWitnessRowRef
import Derived.Lay
import Derived.Lib.LaidIn
import Derived.SevenTiedAt
import Derived.ChangeMaps5
import Derived.Laws.IdiomArrays
set_option maxRecDepth 100000
set_option maxHeartbeats 4000000
set_option linter.unusedVariables false
set_option linter.unusedSimpArgs false
namespace Go.Proofs.YtnjjeapcalkmaaaGreatDoor.Lx
def digit (c:Int):Bool:=decide (48<=c)&&decide (c<=57)
def lower (c:Int):Bool:=decide (97<=c)&&decide (c<=122)
def upper (c:Int):Bool:=decide (65<=c)&&decide (c<=90)
def blank (c:Int):Bool:=decide (c=32)||decide (c=9)
def named (c:Int):Bool:=upper c||digit c||decide (c=45)
def run (p:Int->Bool)(l:List UInt8):Nat:=(l.takeWhile λc=>p (c.toNat:Int)).length
def all (p:Int->Bool)(l:List UInt8):Bool:=!l.isEmpty&&l.all λc=>p (c.toNat:Int)
def whole (l:List UInt8):Bool:=all digit l&&(l.length==1||!(l.head? ==some 48))
theorem yD (p:Int->Bool)(l:List UInt8):run p l<=l.length:=by
 unfold run;exact List.IsPrefix.length_le (List.takeWhile_prefix _)
theorem oz (p:Int->Bool)(l:List UInt8):run p l=l.length↔l.all (λc=>p (c.toNat:Int))=true:=by
 unfold run
 induction l with
 |nil=>simp
 |cons a l ih=>
  by_cases h:p (a.toNat:Int)=true
  ·simp[h,ih]
  ·simp[h]
theorem GI (p:Int->Bool)(l:List UInt8)(k:Nat)(h:k<run p l)(hl:k<l.length):p (l[k].toNat:Int)=true:=by
 induction l generalizing k with
 |nil=>simp at hl
 |cons a l ih=>
  by_cases hp:p (a.toNat:Int)=true
  ·have e:run p (a::l)=run p l+1:=by simp[run,hp]
   cases k with
   |zero=>exact hp
   |succ k=>exact ih k (by omega) (by simpa using hl)
  ·have e:run p (a::l)=0:=by simp[run,hp]
   omega
theorem run_at (p:Int->Bool)(l:List UInt8)(h:run p l<l.length):p (l[run p l].toNat:Int)=false:=by
 induction l with
 |nil=>simp at h
 |cons a l ih=>
  by_cases hp:p (a.toNat:Int)=true
  ·have e:run p (a::l)=run p l+1:=by simp[run,hp]
   simp only[e,List.getElem_cons_succ]
   exact ih (by rw[e]at h;simpa using h)
  ·have e:run p (a::l)=0:=by simp[run,hp]
   simp only[e,List.getElem_cons_zero]
   simpa using hp
theorem Hl (p:Int->Bool)(l:List UInt8):all p l=(!l.isEmpty&&decide (run p l=l.length)):=by
 unfold all
 rw[Bool.eq_iff_iff]
 simp only[Bool.and_eq_true,decide_eq_true_eq,oz]
def decimal (l:List UInt8):Bool:=
 (Lib.cut (Lib.trimPrefix l [45]) [46]).2.2&&whole (Lib.cut (Lib.trimPrefix l [45]) [46]).1&&
 decide ((Lib.cut (Lib.trimPrefix l [45]) [46]).2.1.length=2)&&all digit (Lib.cut (Lib.trimPrefix l [45]) [46]).2.1&&!(l==[45,48,46,48,48])
def pieces (s:ByteArray):List ByteArray:=Lib.splitB ⟨#[45]⟩ 0 (Lib.countB s ⟨#[45]⟩) s
def date (s:ByteArray):Bool:=
 decide (s.size=10)&&decide ((pieces s).length=3)&&decide (((pieces s)[0]?.map (·.size)).getD 0=4)&&decide (((pieces s)[1]?.map (·.size)).getD 0=2)&&
 (pieces s).all λp=>all digit p.data.toList
def aD (s:ByteArray):Int×Int:=
 if 32<s.size then(0,5)else if date s then(4,0)else if whole s.data.toList&&decide (s.size<=16)then(2,0)else if decimal s.data.toList then(3,0)
 else if all named s.data.toList then(1,0)else if all lower s.data.toList then(0,0)else(0,30)
def isC (l:List UInt8)(i:Nat):Bool:=(l[i]? ==some 35)&&(i==0||((l[i-1]?).map λc=>blank (c.toNat:Int)).getD false)
def cutAt (l:List UInt8):Nat:=((List.range l.length).find? (isC l)).getD l.length
theorem zn (l:List UInt8)(k:Nat)(hk:k<l.length)(h:isC l k=true)(hb:∀j,j<k->isC l j=false):cutAt l=k:=by
 have:(List.range l.length).find? (isC l)=some k:=by
  rw[List.find?_range_eq_some]
  exact⟨h,by simpa using hk,λj hj=>by simpa using hb j hj⟩
 unfold cutAt;rw[this];rfl
theorem wB (l:List UInt8)(hb:∀j,j<l.length->isC l j=false):cutAt l=l.length:=by
 have:(List.range l.length).find? (isC l)=none:=by
  rw[List.find?_eq_none]
  intro x hx;simpa using hb x (by simpa using hx)
 unfold cutAt;rw[this];rfl
def bC (s:ByteArray):ByteArray:=s.extract 0 (cutAt s.data.toList)
theorem extract_all (s:ByteArray):s.extract 0 s.size=s:=by
 obtain⟨⟨l⟩⟩:=s
 rw[ByteArray.extract_mk]
 simp[ByteArray.size]
abbrev Tok:=Int×ByteArray×Nat
def dM:List Tok->List Value
 |[]=>[]
 |(k,t,a)::r=>.int .i64 k::.string t::.int .i64 a::dM r
theorem ui (a b:List Tok):dM (a++b)=dM a++dM b:=by
 induction a with
 |nil=>rfl
 |cons x a ih=>obtain⟨k,t,o⟩:=x;simp[dM,ih]
def skip (s:ByteArray)(a:Nat):Nat:=run blank (s.extract a s.size).data.toList
def size (s:ByteArray)(a:Nat):Nat:=run (λc=>!blank c) (s.extract a s.size).data.toList
theorem Ar (s:ByteArray)(a:Nat)(h:a<=s.size):a+skip s a<=s.size:=by
 have:=yD blank (s.extract a s.size).data.toList
 rw[<-Lib.size_eq,ByteArray.size_extract]at this
 unfold skip;omega
theorem size_le (s:ByteArray)(a:Nat)(h:a<=s.size):a+size s a<=s.size:=by
 have:=yD (λc=>!blank c) (s.extract a s.size).data.toList
 rw[<-Lib.size_eq,ByteArray.size_extract]at this
 unfold size;omega
def jD:Nat->ByteArray->Nat->List Tok->List Tok×Int×Int
 |0,_,_,acc=>(acc,0,0)
 |f+1,s,a,acc=>
  if size s (a+skip s a)=0 then(acc,0,0)
  else if (aD (s.extract (a+skip s a) (a+skip s a+size s (a+skip s a)))).2=0 then
   jD f s (a+skip s a+size s (a+skip s a)) (acc++[((aD (s.extract (a+skip s a) (a+skip s a+size s (a+skip s a)))).1,s.extract (a+skip s a) (a+skip s a+size s (a+skip s a)),a+skip s a)])
  else([],((a+skip s a:Nat):Int),(aD (s.extract (a+skip s a) (a+skip s a+size s (a+skip s a)))).2)
def aO (s:ByteArray):List Tok×Int×Int:=
 if 1024<s.size then([],1024,5)else jD ((bC s).size+1) (bC s) 0 []
end Go.Proofs.YtnjjeapcalkmaaaGreatDoor.Lx
namespace Go.Proofs.YtnjjeapcalkmaaaGreatDoor
open Go.RowKit Go.Lib
def gJ (g:Nat)(p:Int->Bool):Prop:=
 (∀args w,(callFunc g args).run Tryz.prog w=.ok (.enter g args) w)/\
 ∀(c:Int) (w:World),0<=c->c<256->Calls Tryz.prog g #[.int .u8 c] w λe w'=>e=.returned (.bool (p c))/\w=w'
theorem bq {a b:Bool}(h:a=true↔b=true):Ending.returned (.bool a)=.returned (.bool b):=by
 rw[Bool.eq_iff_iff.2 h]
theorem Pi (c:Int)(w:World):
 Calls Tryz.prog 336 #[.int .u8 c] w λe w'=>e=.returned (.bool (Lx.digit c))/\w=w':=by
 go_enter Tryz.func336,Tryz.ntmps336
 go_wp2
 all_goals go_ret
 all_goals exact⟨bq (by simp[Lx.digit];omega),rfl⟩
theorem Mi (c:Int)(w:World):
 Calls Tryz.prog 333 #[.int .u8 c] w λe w'=>e=.returned (.bool (Lx.lower c))/\w=w':=by
 go_enter Tryz.func333,Tryz.ntmps333
 go_wp2
 all_goals go_ret
 all_goals exact⟨bq (by simp[Lx.lower];omega),rfl⟩
theorem Pj (c:Int)(w:World):
 Calls Tryz.prog 331 #[.int .u8 c] w λe w'=>e=.returned (.bool (Lx.named c))/\w=w':=by
 go_enter Tryz.func331,Tryz.ntmps331
 go_wp2
 all_goals go_ret
 all_goals exact⟨bq (by simp[Lx.named,Lx.upper,Lx.digit];omega),rfl⟩
theorem AU (c:Int)(h0:0<=c)(h1:c<256):(0<=Lib.indexByte [32,9] c.toNat.toUInt8)↔Lx.blank c=true:=by
 obtain⟨n,rfl⟩:=Int.eq_ofNat_of_zero_le h0
 have hn:n<256:=by omega
 simp only[Int.toNat_natCast]
 have key:∀n:Fin 256,(0<=Lib.indexByte [32,9] n.val.toUInt8)↔Lx.blank (n.val:Int)=true:=by decide +kernel
 exact key ⟨n,hn⟩
theorem vz (c:Int)(w:World)(h0:0<=c)(h1:c<256):
 Calls Tryz.prog 96 #[.int .u8 c] w λe w'=>e=.returned (.bool (Lx.blank c))/\w=w':=by
 go_enter Tryz.func96,Tryz.ntmps96
 go_wp2_with (go_at_call 177;refine(Tryz.strings_IndexByte _ _ _).mono ?_;rintro e w' ⟨rfl,rfl⟩)
 all_goals go_ret
 all_goals exact⟨bq (by simpa using AU c h0 h1),rfl⟩
theorem Ef (c:Int)(w:World)(h0:0<=c)(h1:c<256):
 Calls Tryz.prog 97 #[.int .u8 c] w λe w'=>e=.returned (.bool (!Lx.blank c))/\w=w':=by
 go_enter Tryz.func97,Tryz.ntmps97
 go_wp2_with (go_at_call 96;refine(vz _ _ h0 h1).mono ?_;rintro e w' ⟨rfl,rfl⟩)
 all_goals go_ret
 all_goals exact⟨rfl,rfl⟩
theorem jT:gJ 336 Lx.digit:=⟨enters_of Tryz.func336 (by kernel_rfl) rfl,λc w _ _=>Pi c w⟩
theorem xK:gJ 333 Lx.lower:=⟨enters_of Tryz.func333 (by kernel_rfl) rfl,λc w _ _=>Mi c w⟩
theorem yP:gJ 331 Lx.named:=⟨enters_of Tryz.func331 (by kernel_rfl) rfl,λc w _ _=>Pj c w⟩
theorem xq:gJ 96 Lx.blank:=⟨enters_of Tryz.func96 (by kernel_rfl) rfl,λc w h0 h1=>vz c w h0 h1⟩
theorem qw:gJ 97 (λc=>!Lx.blank c):=⟨enters_of Tryz.func97 (by kernel_rfl) rfl,λc w h0 h1=>Ef c w h0 h1⟩
theorem G8 (g:Nat)(p:Int->Bool)(hg:gJ g p)(s:ByteArray)(w:World)(hs:s.size<=9223372036854775807):
 Calls Tryz.prog 95 #[.string s,.func (.func g) #[] #[]] w λe w'=>e=.returned (.int .i64 (Lx.run p s.data.toList))/\w=w':=by
 obtain⟨eg,hp⟩:=hg
 have hle:=Lx.yD p s.data.toList
 have hlen:s.data.toList.length=s.size:=by simp
 have HB:Hid (∀k,k<Lx.run p s.data.toList->(h:k<s.size)->p (s[k].toNat:Int)=true):=λk hk h=>by
  have:=Lx.GI p s.data.toList k hk (by rw[hlen];exact h)
  simp only[Array.getElem_toList]at this;exact this
 have HA:Hid ((h:Lx.run p s.data.toList<s.size)->p (s[Lx.run p s.data.toList].toNat:Int)=false):=λh=>by
  have:=Lx.run_at p s.data.toList (by rw[hlen];exact h)
  simp only[Array.getElem_toList]at this;exact this
 rw[hlen]at hle
 clear hlen
 generalize hm:Lx.run p s.data.toList=m at *
 clear hm
 go_enter Tryz.func95,Tryz.ntmps95
 go_wp2
 go_loop [5] (λi=>∃k:Nat,k<=m/\i=.int .i64 k) (λi=>s.size-(RowKit.intOf i).toNat)
 case atStart=>exact⟨0,Nat.zero_le _,rfl⟩
 case round=>
  obtain⟨k,hk,rfl⟩:=hrel
  by_cases hlt:k<s.size
  ·have hc0:(0:Int)<=(s[k].toNat:Int):=by omega
   have hc1:(s[k].toNat:Int)<256:=by have:=s[k].toNat_lt;omega
   have hcall:=λW=>hp (s[k].toNat:Int) W hc0 hc1
   by_cases hkm:k<m
   ·rw[HB.out k hkm hlt]at hcall
    go_wp2_with (go_at_fn g;refine(hcall _).mono ?_;rintro e w' ⟨rfl,rfl⟩)
    go_round
    case rel=>exact⟨k+1,by omega,by go_num⟩
    case measure=>simp[RowKit.intOf];omega
   ·obtain rfl:k=m:=by omega
    rw[HA.out hlt]at hcall
    go_wp2_with (go_at_fn g;refine(hcall _).mono ?_;rintro e w' ⟨rfl,rfl⟩)
    go_ret
    exact⟨rfl,rfl⟩
  ·obtain rfl:k=m:=by omega
   go_wp2
   go_ret
   exact⟨rfl,rfl⟩
theorem ru (s:ByteArray):s.data.toList.isEmpty=s.toList.isEmpty:=by rw[Lib.toList_data]
theorem xV (g:Nat)(p:Int->Bool)(hg:gJ g p)(s:ByteArray)(w:World)(hs:s.size<=9223372036854775807):
 Calls Tryz.prog 330 #[.string s,.func (.func g) #[] #[]] w λe w'=>e=.returned (.bool (Lx.all p s.data.toList))/\w=w':=by
 have hrun:=λW=>G8 g p hg s W hs
 have hle:=Lx.yD p s.data.toList
 go_enter Tryz.func330,Tryz.ntmps330
 go_wp2_with (go_at_call 95;refine(hrun _).mono ?_;rintro e w' ⟨rfl,rfl⟩)
 all_goals go_ret
 all_goals refine⟨bq ?_,rfl⟩
 ·rename_i h
  rw[Lx.Hl,ru,h];simp
 ·rw[Lx.Hl,ru,<-Lib.size_eq];simp;omega
theorem Eb (s:ByteArray)(w:World)(hs:s.size<=9223372036854775807):
 Calls Tryz.prog 327 #[.string s] w λe w'=>e=.returned (.bool (Lx.whole s.data.toList))/\w=w':=by
 have hall:=λW=>xV 336 Lx.digit jT s W hs
 have hne:Hid (Lx.all Lx.digit s.data.toList=true->0<s.size):=λh=>by
  rw[Lx.Hl]at h
  simp only[Bool.and_eq_true]at h
  have:=h.1
  rw[Lib.size_eq]
  cases hl:s.data.toList with
  |nil=>rw[hl]at this;simp at this
  |cons a l=>simp
 by_cases ha:Lx.all Lx.digit s.data.toList=true
 ·have hpos:=hne.out ha
  clear hne
  rw[ha]at hall
  have HA:=Lib.hid ha
  clear ha
  go_enter Tryz.func327,Tryz.ntmps327
  go_wp2_with (go_at_call 330;refine(hall _).mono ?_;rintro e w' ⟨rfl,rfl⟩)
  all_goals go_ret
  all_goals refine⟨bq ?_,rfl⟩
  ·rename_i h
   rw[Lx.whole,HA.out,<-Lib.size_eq]
   have:s.size=1:=by omega
   simp[this]
  ·have h0:s.data.toList.head? =some s[0]:=by
    rw[List.head?_eq_getElem?,Array.getElem?_toList]
    exact Array.getElem?_eq_getElem hpos
   rw[Lx.whole,HA.out,<-Lib.size_eq,h0]
   have e48:((s[0].toNat:Int) !=48)=!(s[0]==48):=by
    rw[Bool.eq_iff_iff]
    simp only[bne_iff_ne,Bool.not_eq_true',beq_eq_false_iff_ne,ne_eq]
    rw[<-UInt8.toNat_inj]
    show¬((s[0].toNat:Int)=48)↔¬(s[0].toNat=48)
    omega
   rw[e48]
   have e1:((s.size:Int)==1)=(s.size==1):=by rw[Bool.eq_iff_iff];simp;omega
   rw[e1]
   simp
 ·rw[Bool.not_eq_true]at ha
  rw[ha]at hall
  have HA:=Lib.hid ha
  clear ha hne
  go_enter Tryz.func327,Tryz.ntmps327
  go_wp2_with (go_at_call 330;refine(hall _).mono ?_;rintro e w' ⟨rfl,rfl⟩)
  go_ret
  exact⟨by rw[Lx.whole,HA.out];rfl,rfl⟩
theorem ME (s:ByteArray)(w:World)(hs:s.size<=9223372036854775807):
 Calls Tryz.prog 326 #[.string s] w λe w'=>e=.returned (.bool (Lx.whole s.data.toList&&decide (s.size<=16)))/\w=w':=by
 have hall:=λW=>Eb s W hs
 go_enter Tryz.func326,Tryz.ntmps326
 go_wp2_with (go_at_call 327;refine(hall _).mono ?_;rintro e w' ⟨rfl,rfl⟩)
 all_goals go_ret
 all_goals refine⟨bq ?_,rfl⟩
 all_goals first|(simp[*];done)|(simp[*];omega)
theorem Qv (s:ByteArray)(w:World)(hs:s.size<=9223372036854775807):
 Calls Tryz.prog 329 #[.string s] w λe w'=>e=.returned (.bool (Lx.all Lx.named s.data.toList))/\w=w':=by
 have hall:=λW=>xV _ _ yP s W hs
 go_enter Tryz.func329,Tryz.ntmps329
 go_wp2_with (go_at_call 330;refine(hall _).mono ?_;rintro e w' ⟨rfl,rfl⟩)
 go_ret
 exact⟨rfl,rfl⟩
theorem SF (s:ByteArray)(w:World)(hs:s.size<=9223372036854775807):
 Calls Tryz.prog 332 #[.string s] w λe w'=>e=.returned (.bool (Lx.all Lx.lower s.data.toList))/\w=w':=by
 have hall:=λW=>xV _ _ xK s W hs
 go_enter Tryz.func332,Tryz.ntmps332
 go_wp2_with (go_at_call 330;refine(hall _).mono ?_;rintro e w' ⟨rfl,rfl⟩)
 go_ret
 exact⟨rfl,rfl⟩
theorem Bo (s:ByteArray)(w:World)(hs:s.size<=9223372036854775807):
 Calls Tryz.prog 335 #[.string s] w λe w'=>e=.returned (.bool (!Lx.all Lx.digit s.data.toList))/\w=w':=by
 have hall:=λW=>xV _ _ jT s W hs
 go_enter Tryz.func335,Tryz.ntmps335
 go_wp2_with (go_at_call 330;refine(hall _).mono ?_;rintro e w' ⟨rfl,rfl⟩)
 go_ret
 exact⟨rfl,rfl⟩
theorem oG (l sep:List UInt8):(Lib.cut l sep).1.length<=l.length/\(Lib.cut l sep).2.1.length<=l.length:=by
 unfold Lib.cut
 split
 ·simp[List.length_take,List.length_drop];omega
 ·simp
theorem kJ (l p:List UInt8):(Lib.trimPrefix l p).length<=l.length:=by
 unfold Lib.trimPrefix
 split<;>simp
theorem dS (l:List UInt8):(ByteArray.mk l.toArray).size=l.length:=by simp[ByteArray.size]
theorem Fw (s:ByteArray)(w:World)(m:Int)(hs:s.size<=32)(hm:w.cell? ⟨5,0,none⟩=some (.int .i64 m)):
 Calls Tryz.prog 328 #[.string s] w λe w'=>e=.returned (.bool (Lx.decimal s.data.toList))/\∃n,w'=w.drewN n:=by
 have h1:=λW=>Tryz.strings_TrimPrefix s ⟨#[45]⟩ W
 have hl1:(Lib.trimPrefix s.data.toList [45]).length<=32:=by have:=kJ s.data.toList [45];rw[Lib.size_eq]at hs;omega
 have h2:=Tryz.strings_Cut ⟨(Lib.trimPrefix s.data.toList [45]).toArray⟩ ⟨#[46]⟩ m w (by rw[dS];omega) hm
 have hl2:=(oG (Lib.trimPrefix s.data.toList [45]) [46]).1
 have hl3:=(oG (Lib.trimPrefix s.data.toList [45]) [46]).2
 simp only at h1 h2
 have HD:Hid (Lx.decimal s.data.toList=((Lib.cut (Lib.trimPrefix s.data.toList [45]) [46]).2.2&&Lx.whole (Lib.cut (Lib.trimPrefix s.data.toList [45]) [46]).1&&
  decide ((Lib.cut (Lib.trimPrefix s.data.toList [45]) [46]).2.1.length=2)&&Lx.all Lx.digit (Lib.cut (Lib.trimPrefix s.data.toList [45]) [46]).2.1&&!(s.data.toList==[45,48,46,48,48]))):=rfl
 generalize (Lib.cut (Lib.trimPrefix s.data.toList [45]) [46]).1=u at *
 generalize (Lib.cut (Lib.trimPrefix s.data.toList [45]) [46]).2.1=c at *
 generalize (Lib.cut (Lib.trimPrefix s.data.toList [45]) [46]).2.2=b at *
 generalize Lib.trimPrefix s.data.toList [45]=r at *
 have h3:=λW=>Eb ⟨u.toArray⟩ W (by rw[dS];omega)
 have h4:=λW=>xV _ _ jT ⟨c.toArray⟩ W (by rw[dS];omega)
 simp only at h3 h4
 clear hm
 go_enter Tryz.func328,Tryz.ntmps328
 go_wp2_with (first|(go_at_call 337;refine(h1 _).mono ?_;rintro e w' ⟨rfl,rfl⟩)|(go_at_call 275;refine h2.mono ?_;rintro e w' ⟨rfl,n,rfl⟩)|(go_at_call 327;refine(h3 _).mono ?_;rintro e w' ⟨rfl,rfl⟩)|(go_at_call 330;refine(h4 _).mono ?_;rintro e w' ⟨rfl,rfl⟩))
 all_goals go_ret
 all_goals refine⟨bq ?_,_,rfl⟩
 all_goals rw[HD.out]
 all_goals clear HD h1 h2 h3 h4
 all_goals first|(simp[*];done)|(simp[*,Lib.toList_data];done)|((have e2:¬c.length=2:=by omega);simp[e2];done)|((have e2:c.length=2:=by omega);simp[*,Lib.toList_data];done)
abbrev AR:={x:ByteArray//x.size<=9223372036854775807}
instance lx_short:Inhabited AR:=⟨⟨ByteArray.empty,by decide⟩⟩
theorem uw (w:World):PredAt Tryz.prog 335 #[] (λx:AR=>.string x.1) (λx=>!Lx.all Lx.digit x.1.data.toList) w:=λW x _=>by
 refine Calls.mono (Bo x.1 W x.2) ?_
 rintro e w' ⟨rfl,rfl⟩
 exact⟨rfl,0,rfl⟩
theorem CJ (k:Nat):∀(s:ByteArray),∀p∈Lib.splitB ⟨#[45]⟩ 0 k s,p.size<=s.size:=by
 induction k with
 |zero=>intro s p hp;simp[Lib.splitB]at hp;subst hp;exact Nat.le_refl _
 |succ k ih=>
  intro s p hp
  unfold Lib.splitB at hp
  split at hp
  ·simp at hp;subst hp;exact Nat.le_refl _
  ·rcases List.mem_cons.1 hp with rfl|hp
   ·simp[ByteArray.size_extract];omega
   ·have:=ih _ p hp
    simp[ByteArray.size_extract]at this;omega
theorem R3 (s:ByteArray)(w:World)(m:Int)(hs:s.size<=32)(hm:w.cell? ⟨5,0,none⟩=some (.int .i64 m)):
 Calls Tryz.prog 325 #[.string s] w λe w'=>e=.returned (.bool (Lx.date s))/\Below w.heap.size w w':=by
 have h1:=Tryz.strings_Split s ⟨#[45]⟩ m w (by omega) hm (by decide)
 have hlen:(Lx.pieces s).length=Lib.countB s ⟨#[45]⟩+1:=Lib.splitB_all ⟨#[45]⟩ (by decide) 0 _ s rfl
 have hle:=CJ (Lib.countB s ⟨#[45]⟩) s
 have HD:Hid (Lx.date s=(decide (s.size=10)&&decide ((Lx.pieces s).length=3)&&decide (((Lx.pieces s)[0]?.map (·.size)).getD 0=4)&&decide (((Lx.pieces s)[1]?.map (·.size)).getD 0=2)&&
  (Lx.pieces s).all λp=>Lx.all Lx.digit p.data.toList)):=rfl
 change∀p∈Lx.pieces s,_ at hle
 simp only[show Lib.splitB ⟨#[45]⟩ 0 (Lib.countB s ⟨#[45]⟩) s=Lx.pieces s from rfl]at h1
 rw[<-hlen]at h1
 clear hlen hm
 generalize Lx.pieces s=ps at *
 by_cases h10:s.size=10
 ·by_cases h3:ps.length=3
  ·match ps,h3 with
   |[a,b,c],_=>
    have ha:=hle a (by simp)
    have hb:=hle b (by simp)
    have hc:=hle c (by simp)
    have hC:=λW=>Tryz.slices_ContainsFunc (λx:AR=>.string x.1) (λx=>!Lx.all Lx.digit x.1.data.toList) 335 #[] (enters_of Tryz.func335 (by kernel_rfl) rfl) w.heap.size 0 3 3
     [⟨a,by omega⟩,⟨b,by omega⟩,⟨c,by omega⟩] W (uw W) (by simp) (by omega)
    clear hle
    go_enter Tryz.func325,Tryz.ntmps325
    go_wp2_with (first|(go_at_call 147;refine h1.mono ?_;rintro e w' ⟨rfl,rfl⟩)|(go_at_call 334;refine(hC _ (by intro j hj;match j,hj with|0,_=>simp|1,_=>simp|2,_=>simp)).mono ?_;rintro e w' ⟨rfl,q,rfl⟩))
    all_goals go_ret
    all_goals refine⟨bq ?_,(by first|exact below_drewN' ((Below.refl _ w).alloc (Nat.le_refl _) _) _|exact(Below.refl _ w).alloc (Nat.le_refl _) _)⟩
    all_goals rw[HD.out]
    all_goals clear HD h1 hC
    ·have ea:a.size=4:=by omega
     have eb:b.size=2:=by omega
     simp[h10,ea,eb]
    ·have eb:¬b.size=2:=by omega
     simp[eb]
    ·have ea:¬a.size=4:=by omega
     simp[ea]
  ·go_enter Tryz.func325,Tryz.ntmps325
   go_wp2_with (first|(go_at_call 147;refine h1.mono ?_;rintro e w' ⟨rfl,rfl⟩))
   all_goals go_ret
   all_goals refine⟨bq ?_,(Below.refl _ w).alloc (Nat.le_refl _) _⟩
   all_goals rw[HD.out]
   all_goals simp[h3]
 ·go_enter Tryz.func325,Tryz.ntmps325
  go_wp2_with (first|(go_at_call 147;refine h1.mono ?_;rintro e w' ⟨rfl,rfl⟩))
  all_goals go_ret
  all_goals refine⟨bq ?_,(Below.refl _ w).alloc (Nat.le_refl _) _⟩
  all_goals rw[HD.out]
  all_goals simp[h10]
structure lm (m:Int)(kb ko kc:Nat)(W:World):Prop where
 maxlen:W.cell? ⟨5,0,none⟩=some (.int .i64 m)
 kinds:W.cell? ⟨1,0,none⟩=some (.slice (some ⟨kb,ko,none⟩) 5 kc)
 n0:W.cell? ⟨kb,ko+0,none⟩=some (.int .i64 4)
 f0:W.cell? ⟨kb,ko+1,none⟩=some (.func (.func 325) #[] #[])
 n1:W.cell? ⟨kb,ko+2,none⟩=some (.int .i64 2)
 f1:W.cell? ⟨kb,ko+3,none⟩=some (.func (.func 326) #[] #[])
 n2:W.cell? ⟨kb,ko+4,none⟩=some (.int .i64 3)
 f2:W.cell? ⟨kb,ko+5,none⟩=some (.func (.func 328) #[] #[])
 n3:W.cell? ⟨kb,ko+6,none⟩=some (.int .i64 1)
 f3:W.cell? ⟨kb,ko+7,none⟩=some (.func (.func 329) #[] #[])
 n4:W.cell? ⟨kb,ko+8,none⟩=some (.int .i64 0)
 f4:W.cell? ⟨kb,ko+9,none⟩=some (.func (.func 332) #[] #[])
theorem uT {W:World}{b o:Nat}{v:Value}(h:W.cell? ⟨b,o,none⟩=some v):b<W.heap.size:=by
 rcases Nat.lt_or_ge b W.heap.size with h1|h1
 ·exact h1
 ·exfalso
  simp only[World.cell?]at h
  rw[Array.getElem?_eq_none h1]at h
  cases h
theorem lm.below {m:Int}{kb ko kc:Nat}{W W':World}(h:lm m kb ko kc W)(hb:Below W.heap.size W W'):lm m kb ko kc W':=by
 have t:∀(p:Addr) (v:Value),W.cell? p=some v->p.spot=none->W'.cell? p=some v:=λp v hc hs=>by
  obtain⟨b,o,sp⟩:=p
  cases hs
  exact(hb.cell (p:=⟨b,o,none⟩) (uT hc)).trans hc
 exact⟨t _ _ h.maxlen rfl,t _ _ h.kinds rfl,t _ _ h.n0 rfl,t _ _ h.f0 rfl,t _ _ h.n1 rfl,t _ _ h.f1 rfl,t _ _ h.n2 rfl,t _ _ h.f2 rfl,t _ _ h.n3 rfl,t _ _ h.f3 rfl,t _ _ h.n4 rfl,t _ _ h.f4 rfl⟩
def lg (s:ByteArray):List (Int×Bool):=
 [(4,Lx.date s),(2,Lx.whole s.data.toList&&decide (s.size<=16)),(3,Lx.decimal s.data.toList),(1,Lx.all Lx.named s.data.toList),(0,Lx.all Lx.lower s.data.toList)]
theorem vC (s:ByteArray)(hs:s.size<=32)(k:Nat)(n:Int)(hk:(lg s)[k]? =some (n,true))(hb:∀j,j<k->∃x,(lg s)[j]? =some (x,false)):Lx.aD s=(n,0):=by
 have h32:¬32<s.size:=by omega
 unfold Lx.aD
 rw[if_neg h32]
 match k,hk with
 |0,hk=>simp[lg]at hk;simp[hk]
 |1,hk=>
  obtain⟨x0,h0⟩:=hb 0 (by omega)
  simp[lg]at hk h0;simp[hk,h0]
 |2,hk=>
  obtain⟨x0,h0⟩:=hb 0 (by omega)
  obtain⟨x1,h1⟩:=hb 1 (by omega)
  simp[lg]at hk h0 h1
  have h1':(Lx.whole s.data.toList&&decide (s.size<=16))=false:=by
   rw[Bool.and_eq_false_iff]
   by_cases e:Lx.whole s.data.toList=true
   ·right;have:=h1.2 e;simp;omega
   ·left;simpa using e
  simp[hk,h0,h1']
 |3,hk=>
  obtain⟨x0,h0⟩:=hb 0 (by omega)
  obtain⟨x1,h1⟩:=hb 1 (by omega)
  obtain⟨x2,h2⟩:=hb 2 (by omega)
  simp[lg]at hk h0 h1 h2
  have h1':(Lx.whole s.data.toList&&decide (s.size<=16))=false:=by
   rw[Bool.and_eq_false_iff]
   by_cases e:Lx.whole s.data.toList=true
   ·right;have:=h1.2 e;simp;omega
   ·left;simpa using e
  rw[if_neg (by simp[h0]),if_neg (by rw[h1'];simp),if_neg (by simp[h2]),if_pos hk.2,hk.1]
 |4,hk=>
  obtain⟨x0,h0⟩:=hb 0 (by omega)
  obtain⟨x1,h1⟩:=hb 1 (by omega)
  obtain⟨x2,h2⟩:=hb 2 (by omega)
  obtain⟨x3,h3⟩:=hb 3 (by omega)
  simp[lg]at hk h0 h1 h2 h3
  have h1':(Lx.whole s.data.toList&&decide (s.size<=16))=false:=by
   rw[Bool.and_eq_false_iff]
   by_cases e:Lx.whole s.data.toList=true
   ·right;have:=h1.2 e;simp;omega
   ·left;simpa using e
  rw[if_neg (by simp[h0]),if_neg (by rw[h1'];simp),if_neg (by simp[h2]),if_neg (by simp[h3]),if_pos hk.2,hk.1]
 |k+5,hk=>simp[lg]at hk
theorem sU (s:ByteArray)(hs:s.size<=32)(hb:∀j,j<5->∃x,(lg s)[j]? =some (x,false)):Lx.aD s=(0,30):=by
 have h32:¬32<s.size:=by omega
 obtain⟨x0,h0⟩:=hb 0 (by omega)
 obtain⟨x1,h1⟩:=hb 1 (by omega)
 obtain⟨x2,h2⟩:=hb 2 (by omega)
 obtain⟨x3,h3⟩:=hb 3 (by omega)
 obtain⟨x4,h4⟩:=hb 4 (by omega)
 simp only[lg,List.getElem?_cons_zero,List.getElem?_cons_succ,Option.some.injEq,Prod.mk.injEq]at h0 h1 h2 h3 h4
 unfold Lx.aD
 rw[if_neg h32,if_neg (by simp[h0]),if_neg (by rw[h1.2];simp),if_neg (by simp[h2]),if_neg (by simp[h3]),if_neg (by simp[h4])]
theorem lx_row (m:Int)(kb ko kc:Nat)(s:ByteArray)(hs:s.size<=32)(k:Nat)(hk:k<5):∃(num:Int) (g:Nat) (b:Bool),(lg s)[k]? =some (num,b)/\
 (∀W,lm m kb ko kc W->W.cell? ⟨kb,ko+k*2,none⟩=some (.int .i64 num)/\W.cell? ⟨kb,ko+k*2+1,none⟩=some (.func (.func g) #[] #[]))/\
 (∀args w,(callFunc g args).run Tryz.prog w=.ok (.enter g args) w)/\
 ∀W,lm m kb ko kc W->Calls Tryz.prog g #[.string s] W λe w'=>e=.returned (.bool b)/\Below W.heap.size W w':=by
 have hb:s.size<=9223372036854775807:=by omega
 match k,hk with
 |0,_=>exact⟨4,_,_,rfl,λW h=>⟨h.n0,h.f0⟩,enters_of Tryz.func325 (by kernel_rfl) rfl,λW h=>R3 s W m hs h.maxlen⟩
 |1,_=>exact⟨2,_,_,rfl,λW h=>⟨h.n1,h.f1⟩,enters_of Tryz.func326 (by kernel_rfl) rfl,λW _=>(ME s W hb).mono λe w' ⟨he,hw⟩=>⟨he,hw▸Below.refl _ _⟩⟩
 |2,_=>exact⟨3,_,_,rfl,λW h=>⟨h.n2,h.f2⟩,enters_of Tryz.func328 (by kernel_rfl) rfl,λW h=>(Fw s W m hs h.maxlen).mono λe w' ⟨he,n,hw⟩=>⟨he,hw▸below_drewN' (Below.refl _ _) n⟩⟩
 |3,_=>exact⟨1,_,_,rfl,λW h=>⟨h.n3,h.f3⟩,enters_of Tryz.func329 (by kernel_rfl) rfl,λW _=>(Qv s W hb).mono λe w' ⟨he,hw⟩=>⟨he,hw▸Below.refl _ _⟩⟩
 |4,_=>exact⟨0,_,_,rfl,λW h=>⟨h.n4,h.f4⟩,enters_of Tryz.func332 (by kernel_rfl) rfl,λW _=>(SF s W hb).mono λe w' ⟨he,hw⟩=>⟨he,hw▸Below.refl _ _⟩⟩
theorem Ab {a b c d:Int}(h:(a,b)=(c,d)):Ending.returned (.tuple #[.int .i64 a,.int .i64 b])=.returned (.tuple #[.int .i64 c,.int .i64 d]):=by
 cases h;rfl
theorem uM (s:ByteArray)(w:World)(m:Int)(kb ko kc:Nat)(hs:s.size<=9223372036854775807)(h:lm m kb ko kc w):
 Calls Tryz.prog 98 #[.string s] w λe w'=>e=.returned (.tuple #[.int .i64 (Lx.aD s).1,.int .i64 (Lx.aD s).2])/\Below w.heap.size w w':=by
 by_cases h32:32<s.size
 ·have HC:Hid (Lx.aD s=(0,5)):=by unfold Lx.aD;rw[if_pos h32];rfl
  clear h
  go_enter Tryz.func98,Tryz.ntmps98
  go_wp2
  go_ret2
  exact⟨Ab HC.out.symm,Below.refl _ _⟩
 ·have hk:=h.kinds
  have H:=Lib.hid h
  clear h
  go_enter Tryz.func98,Tryz.ntmps98
  go_wp2
  go_loopw [11] (λi wr=>∃k:Nat,k<=5/\i=.int .i64 k/\Below w.heap.size w wr/\∀j,j<k->∃x,(lg s)[j]? =some (x,false)) (λi _=>5-(RowKit.intOf i).toNat)
  case atStart=>exact⟨0,by omega,rfl,Below.refl _ _,λj hj=>by omega⟩
  case round=>
   obtain⟨k,hk5,rfl,hbel,mE⟩:=hrel
   have HP:=Lib.hid mE
   clear mE
   have henv:=H.out.below hbel
   by_cases hlt:k<5
   ·obtain⟨num,g,b,htab,hcell,eg,hcall⟩:=lx_row m kb ko kc s (by omega) k hlt
    obtain⟨c0,c1⟩:=hcell _ henv
    have hkb:=uT c0
    have HT:=Lib.hid htab
    have HE:=Lib.hid henv
    clear htab hcell henv
    have hc:=hcall _ (HE.out.below ((Below.refl _ _).alloc (Nat.le_refl _) (.cells #[.int .i64 num,.func (.func g) #[] #[]] 200)))
    clear hcall
    cases b with
    |true=>
     go_wp2_with (go_at_fn g;refine hc.mono ?_;rintro e w2 ⟨rfl,hb2⟩;have c5:=(hb2.cell (p:=⟨wr.heap.size,0,none⟩) (by simp)))
     go_ret2
     exact⟨Ab (vC s (by omega) k num HT.out HP.out).symm,(hbel.alloc hbel.size _).trans (hb2.mono (by have:=hbel.size;simp;omega))⟩
    |false=>
     go_wp2_with (go_at_fn g;refine hc.mono ?_;rintro e w2 ⟨rfl,hb2⟩)
     go_roundw
     case rel=>
      refine⟨k+1,by omega,by go_num,(hbel.alloc hbel.size _).trans (hb2.mono (by have:=hbel.size;simp;omega)),λj hj=>?_⟩
      by_cases e:j=k
      ·subst e;exact⟨_,HT.out⟩
      ·exact HP.out j (by omega)
     case measure=>simp[RowKit.intOf];omega
   ·obtain rfl:k=5:=by omega
    go_wp2
    go_ret2
    exact⟨Ab (sU s (by omega) HP.out).symm,hbel⟩
theorem BI (s:ByteArray)(w:World)(hs:s.size<=9223372036854775807):
 Calls Tryz.prog 94 #[.string s] w λe w'=>e=.returned (.string (Lx.bC s))/\w=w':=by
 go_enter Tryz.func94,Tryz.ntmps94
 go_wp2
 go_loop [6] (λi=>∃k:Nat,k<=s.size/\i=.int .i64 k/\∀j,j<k->Lx.isC s.data.toList j=false) (λi=>s.size-(RowKit.intOf i).toNat)
 case atStart=>exact⟨0,Nat.zero_le _,rfl,λj hj=>by omega⟩
 case round=>
  obtain⟨k,hk,rfl,mE⟩:=hrel
  have HP:=Lib.hid mE
  clear mE
  by_cases hlt:k<s.size
  ·have hget:s.data.toList[k]? =some s[k]:=by
    rw[Array.getElem?_toList]
    exact Array.getElem?_eq_getElem hlt
   have e35:((s[k].toNat:Int)=35)↔s[k]=35:=by
    rw[<-UInt8.toNat_inj]
    show((s[k].toNat:Int)=35)↔(s[k].toNat=35)
    omega
   by_cases N7:(s[k].toNat:Int)=35
   ·by_cases h0:k=0
    ·subst h0
     have HC:Hid (Lx.isC s.data.toList 0=true):=by unfold Lx.isC;rw[hget,e35.1 N7];rfl
     have HH:=Lib.hid N7
     have hb35:((s[0].toNat:Int)==35)=true:=by simpa using N7
     clear hget e35 N7
     go_wp2_with fail
     go_ret
     refine⟨?_,rfl⟩
     rw[Lx.bC,Lx.zn s.data.toList 0 (by rw[<-Lib.size_eq];omega) HC.out (λj hj=>by omega)]
     simp[ByteArray.extract_same]
    ·have hk1:k-1<s.size:=by omega
     have Ut:s.data.toList[k-1]? =some s[k-1]:=by
      rw[Array.getElem?_toList]
      exact Array.getElem?_eq_getElem hk1
     have HC:Hid (Lx.isC s.data.toList k=Lx.blank (s[k-1].toNat:Int)):=by
      show _=_
      unfold Lx.isC;rw[hget,Ut,e35.1 N7]
      have:(k==0)=false:=by simpa using h0
      simp[this]
     have HH:=Lib.hid N7
     have hb35:((s[k].toNat:Int)==35)=true:=by simpa using N7
     have hb0:((k:Int)==0)=false:=by simpa using h0
     have hc0:(0:Int)<=(s[k-1].toNat:Int):=by omega
     have hc1:(s[k-1].toNat:Int)<256:=by have:=s[k-1].toNat_lt;omega
     have hcall:=λW=>vz (s[k-1].toNat:Int) W hc0 hc1
     have hkpos:1<=k:=by omega
     clear hget Ut e35 N7 h0 hc0 hc1
     cases hq:Lx.blank (s[k-1].toNat:Int)with
     |true=>
      rw[hq]at hcall
      rw[hq]at HC
      clear hq
      go_wp2_with (go_at_call 96;refine(hcall _).mono ?_;rintro e w' ⟨rfl,rfl⟩)
      go_ret
      refine⟨?_,rfl⟩
      rw[Lx.bC,Lx.zn s.data.toList k (by rw[<-Lib.size_eq];omega) HC.out HP.out]
      simp
     |false=>
      rw[hq]at hcall
      rw[hq]at HC
      clear hq
      go_wp2_with (go_at_call 96;refine(hcall _).mono ?_;rintro e w' ⟨rfl,rfl⟩)
      go_round
      case rel=>
       refine⟨k+1,by omega,by go_num,λj hj=>?_⟩
       by_cases e:j=k
       ·subst e;exact HC.out
       ·exact HP.out j (by omega)
      case measure=>simp[RowKit.intOf];omega
   ·have HC:Hid (Lx.isC s.data.toList k=false):=by
     show _=_
     unfold Lx.isC;rw[hget]
     have:¬s[k]=35:=λe=>N7 (e35.2 e)
     simp[this]
    have hb35:((s[k].toNat:Int)==35)=false:=by simpa using N7
    clear hget e35 N7
    go_wp2_with fail
    go_round
    case rel=>
     refine⟨k+1,by omega,by go_num,λj hj=>?_⟩
     by_cases e:j=k
     ·subst e;exact HC.out
     ·exact HP.out j (by omega)
    case measure=>simp[RowKit.intOf];omega
  ·obtain rfl:k=s.size:=by omega
   go_wp2_with fail
   go_ret
   refine⟨?_,rfl⟩
   rw[Lx.bC,Lx.wB s.data.toList (λj hj=>HP.out j (by rw[Lib.size_eq];exact hj)),<-Lib.size_eq,Lx.extract_all]
   rfl
theorem qR {W W':World}(hb:Below W.heap.size W W'):W.grownBy W' none:=
 ⟨hb.os,hb.tape,hb.output,hb.size,λk hk _=>hb.block k hk⟩
theorem y7 {W W':World}{B:Nat}{e:TypeId}{size:Nat}{v:Value}{n:Nat}{xs:List Value}(h:W.ownsRow B e size v n xs)(hb:Below W.heap.size W W'):W'.ownsRow B e size v n xs:=
 h.kept (qR hb) (by cases hv:v.ownBlock<;>simp)
theorem Hz:(Tryz.prog.info? 106).map (λi=>(i.zero,i.size,i.bytes))=some (some (.agg #[.int .i64 0,.string ByteArray.empty,.int .i64 0]),3,32):=by kernel_rfl
theorem UD {v:Value}{a b c d:Int}(h1:a=c)(h2:b=d):Ending.returned (.tuple #[v,.int .i64 a,.int .i64 b])=.returned (.tuple #[v,.int .i64 c,.int .i64 d]):=by
 cases h1;cases h2;rfl
theorem DD (s:ByteArray)(w:World)(m:Int)(kb ko kc:Nat)(hs:s.size<=9223372036854775807)(h:lm m kb ko kc w):
 Calls Tryz.prog 49 #[.string s] w λe w'=>∃v,e=.returned (.tuple #[v,.int .i64 (Lx.aO s).2.1,.int .i64 (Lx.aO s).2.2])/\
  w'.ownsRow w.heap.size 106 3 v (Lx.aO s).1.length (Lx.dM (Lx.aO s).1)/\Below w.heap.size w w':=by
 by_cases Uc:1024<s.size
 ·have HC:Hid (Lx.aO s=([],1024,5)):=by unfold Lx.aO;rw[if_pos Uc];rfl
  clear h
  go_enter Tryz.func49,Tryz.ntmps49
  go_wp2
  go_step3
  go_wp2
  rw[Exit.noGoto_ret]
  go_ret3
  rw[HC.out]
  exact⟨_,rfl,World.ownsRow_nil _ _ _ _,Below.refl _ _⟩
 ·have hu:=λW=>BI s W hs
  have HT:Hid (Lx.aO s=Lx.jD ((Lx.bC s).size+1) (Lx.bC s) 0 []):=by unfold Lx.aO;rw[if_neg Uc];rfl
  have hL:(Lx.bC s).size<=1024:=by
   unfold Lx.bC
   rw[ByteArray.size_extract];omega
  generalize Lx.bC s=L at *
  have H:=Lib.hid h
  clear h
  obtain⟨i0,hi,hz0,hz1,hz2⟩:=info_parts Hz
  go_enter Tryz.func49,Tryz.ntmps49
  go_wp2
  go_step3
  go_wp2_with (go_at_call 94;refine(hu _).mono ?_;rintro e w' ⟨rfl,rfl⟩)
  clear hu
  go_step3
  go_wp2
  go_loopw [5,6] (λv i wr=>∃(acc:List Lx.Tok) (a f:Nat),a<=L.size/\i=.int .i64 a/\acc.length<=a/\L.size-a<f/\Below w.heap.size w wr/\
   wr.ownsRow w.heap.size 106 3 v acc.length (Lx.dM acc)/\Hid (Lx.jD f L a acc=Lx.jD (L.size+1) L 0 [])) (λ_ i _=>L.size-(RowKit.intOf i).toNat)
  case atStart=>exact⟨[],0,L.size+1,by omega,rfl,by simp,by omega,Below.refl _ _,World.ownsRow_nil _ _ _ _,rfl⟩
  case round=>
   obtain⟨acc,a,f,ha,rfl,hacc,hf,hbel,hown,Uo⟩:=hrel
   obtain⟨f,rfl⟩:∃g,f=g+1:=⟨f-1,by omega⟩
   have h1:=λW=>G8 _ _ xq (L.extract a L.size) W (by rw[ByteArray.size_extract];omega)
   have hskip:=Lx.Ar L a ha
   simp only[show Lx.run Lx.blank (L.extract a L.size).data.toList=Lx.skip L a from rfl]at h1
   have HA:Hid (Lx.jD (L.size+1) L 0 []=if Lx.size L (a+Lx.skip L a)=0 then(acc,0,0)
    else if (Lx.aD (L.extract (a+Lx.skip L a) (a+Lx.skip L a+Lx.size L (a+Lx.skip L a)))).2=0 then
     Lx.jD f L (a+Lx.skip L a+Lx.size L (a+Lx.skip L a)) (acc++[((Lx.aD (L.extract (a+Lx.skip L a) (a+Lx.skip L a+Lx.size L (a+Lx.skip L a)))).1,L.extract (a+Lx.skip L a) (a+Lx.skip L a+Lx.size L (a+Lx.skip L a)),a+Lx.skip L a)])
    else([],((a+Lx.skip L a:Nat):Int),(Lx.aD (L.extract (a+Lx.skip L a) (a+Lx.skip L a+Lx.size L (a+Lx.skip L a)))).2)):=Uo.out.symm
   clear Uo
   generalize Lx.skip L a=r1 at *
   have h2:=λW=>G8 _ _ qw (L.extract (a+r1) L.size) W (by rw[ByteArray.size_extract];omega)
   have hsize:=Lx.size_le L (a+r1) hskip
   simp only[show Lx.run (λc=>!Lx.blank c) (L.extract (a+r1) L.size).data.toList=Lx.size L (a+r1)from rfl]at h2
   generalize Lx.size L (a+r1)=r2 at *
   by_cases hr2:r2=0
   ·have hb2:((r2:Int)==0)=true:=by simpa using hr2
    have HR:=Lib.hid hr2
    clear hr2
    go_wp2_with fail
    refine(h1 _).mono ?_
    rintro e w' ⟨rfl,rfl⟩
    go_wp2_with fail
    refine(h2 _).mono ?_
    rintro e w' ⟨rfl,rfl⟩
    go_wp2_with fail
    rw[Exit.noGoto_ret]
    go_ret3
    rw[HT.out,HA.out,if_pos HR.out]
    exact⟨_,rfl,hown,hbel⟩
   ·have hb2:((r2:Int)==0)=false:=by simpa using hr2
    have hcl:=λW hW=>uM (L.extract (a+r1) (a+r1+r2)) W m kb ko kc (by rw[ByteArray.size_extract];omega) hW
    have HE:=Lib.hid (H.out.below hbel)
    generalize hq:Lx.aD (L.extract (a+r1) (a+r1+r2))=q at *
    clear hq
    obtain⟨kk,ee⟩:=q
    simp only at hcl HA
    by_cases hee:ee=0
    ·subst hee
     go_wp2_with fail
     refine(h1 _).mono ?_
     rintro e w' ⟨rfl,rfl⟩
     go_wp2_with fail
     refine(h2 _).mono ?_
     rintro e w' ⟨rfl,rfl⟩
     go_wp2_with fail
     refine(hcl _ HE.out).mono ?_
     rintro e w2 ⟨rfl,hb2'⟩
     have hown2:=y7 hown hb2'
     have jO:=hbel.trans (hb2'.mono hbel.size)
     go_wp2_with (at_builtin;refine wpList_append_own _ rfl _ _ 92 rfl w.heap.size 106 i0 _ 3 32 Tryz.underlying92 hi hz0 hz1 hz2 rfl (by decide) _ _ _ rfl (hown2.alloc _) ⟨w2.heap.size,0,none⟩ 1 1 [.int .i64 kk,.string (L.extract (a+r1) (a+r1+r2)),.int .i64 ((a:Int)+(r1:Int))] rfl rfl ?c1 ?c2 ?c3 ?c4 ?c5 ?_)
     case c1=>
      intro j u hj
      match j,hj with
      |0,hj=>simp at hj;subst hj;simp[Addr.add]
      |1,hj=>simp at hj;subst hj;simp[Addr.add]
      |2,hj=>simp at hj;subst hj;simp[Addr.add]
      |j+3,hj=>simp at hj
     case c2=>intro u hu;simp at hu;rcases hu with rfl|rfl|rfl<;>rfl
     case c3=>unfold maxLen;omega
     case c4=>omega
     case c5=>have:=jO.size;simp;omega
     intro v' w3 hown3 hgrow3 _
     have rM:=(jO.alloc jO.size _).grown hgrow3 (by have:=jO.size;simp;omega) (λk hk=>(hown2.lt k hk).1)
     clear hgrow3 hown2 hown jO hb2'
     go_wp2_with fail
     go_roundw
     case rel=>
      refine⟨acc++[(kk,L.extract (a+r1) (a+r1+r2),a+r1)],a+r1+r2,f,by omega,by go_num,by simp;omega,by omega,rM,?_,?_⟩
      ·rw[Lx.ui,List.length_append]
       simpa[Lx.dM]using hown3
      ·show _=_
       rw[HA.out,if_neg (λe=>by subst e;simp at hb2),if_pos trivial]
     case measure=>simp[RowKit.intOf];omega
    ·have hbe:(ee !=0)=true:=by simpa using hee
     have HEE:=Lib.hid hee
     clear hee
     go_wp2_with fail
     refine(h1 _).mono ?_
     rintro e w' ⟨rfl,rfl⟩
     go_wp2_with fail
     refine(h2 _).mono ?_
     rintro e w' ⟨rfl,rfl⟩
     go_wp2_with fail
     refine(hcl _ HE.out).mono ?_
     rintro e w2 ⟨rfl,hb2'⟩
     go_wp2_with fail
     rw[Exit.noGoto_ret]
     go_ret3
     rw[HT.out,HA.out,if_neg (λe=>by subst e;simp at hb2),if_neg HEE.out]
     exact⟨_,UD (by simp) rfl,World.ownsRow_nil _ _ _ _,hbel.trans (hb2'.mono hbel.size)⟩
open Go.RowKit
theorem xC (l:List Lx.Tok):∀(k:Nat) (x:Lx.Tok),l[k]? =some x->(Lx.dM l)[k*3]? =some (.int .i64 x.1)/\(Lx.dM l)[k*3+1]? =some (.string x.2.1)/\(Lx.dM l)[k*3+2]? =some (.int .i64 x.2.2):=by
 induction l with
 |nil=>intro k x h;simp at h
 |cons y l ih=>
  intro k x h
  obtain⟨a,b,c⟩:=y
  cases k with
  |zero=>simp at h;subst h;simp[Lx.dM]
  |succ k=>
   have:=ih k x (by simpa using h)
   have e:(k+1)*3=k*3+1+1+1:=by omega
   rw[e]
   simpa[Lx.dM]using this
def iT (W:World)(b:Nat)(l:List Lx.Tok):Prop:=∀(k:Nat) (x:Lx.Tok),l[k]? =some x->
 W.cell? ⟨b,k*3,none⟩=some (.int .i64 x.1)/\W.cell? ⟨b,k*3+1,none⟩=some (.string x.2.1)/\W.cell? ⟨b,k*3+2,none⟩=some (.int .i64 x.2.2)
theorem iT.below {W W':World}{b B:Nat}{l:List Lx.Tok}(h:iT W b l)(hb:Below B W W')(hB:b<B):iT W' b l:=λk x hx=>by
 obtain⟨h1,h2,h3⟩:=h k x hx
 exact⟨(hb.cell (p:=⟨b,k*3,none⟩) hB).trans h1,(hb.cell (p:=⟨b,k*3+1,none⟩) hB).trans h2,(hb.cell (p:=⟨b,k*3+2,none⟩) hB).trans h3⟩
theorem CQ {W:World}{B e:Nat}{v:Value}{l:List Lx.Tok}(h:W.ownsRow B e 3 v l.length (Lx.dM l)):
 (v=.slice none 0 0/\l=[])\/∃g cap,v=.slice (some ⟨g,0,none⟩) l.length cap/\B<=g/\g<W.heap.size/\iT W g l:=by
 rcases h.2 with⟨rfl,h0⟩|⟨g,cap,cur,rfl,hB,hh,hn,hcap,Tv,htake⟩
 ·exact .inl ⟨rfl,List.eq_nil_of_length_eq_zero h0⟩
 ·refine .inr ⟨g,cap,rfl,hB,(Array.getElem?_eq_some_iff.1 hh).1,λk x hx=>?_⟩
  have hc:=h.cells (g:=g) rfl
  obtain⟨h1,h2,h3⟩:=xC l k x hx
  have add:∀j,(⟨g,0,none⟩:Addr).add j=⟨g,j,none⟩:=λj=>by unfold Addr.add;split<;>simp_all
  have:=hc _ _ h1
  have e2:=hc _ _ h2
  have e3:=hc _ _ h3
  rw[add]at this e2 e3
  exact⟨this,e2,e3⟩
end Go.Proofs.YtnjjeapcalkmaaaGreatDoor
namespace Go.Proofs.YtnjjeapcalkmaaaGreatDoor.Id
def letter (c:Int):Bool:=Lx.upper c
def digit (c:Int):Bool:=Lx.digit c
def bg (c:Int):Bool:=Lx.upper c||Lx.digit c
def Df (c:Int):Bool:=bg c||decide (c=45)
def iE (c:UInt8):List UInt8:=if digit (c.toNat:Int)then[c]else Lib.decDigits (c.toNat-55)
def aW (l:List UInt8):List UInt8:=l.flatMap iE
theorem zA (a b:List UInt8):aW (a++b)=aW a++aW b:=by simp[aW]
theorem ik (n:Nat)(h:n<100):(Lib.decDigits n).length<=2/\∀c∈Lib.decDigits n,48<=c.toNat/\c.toNat<=57:=by
 have key:∀n:Fin 100,(Lib.decDigits n.val).length<=2/\∀c∈Lib.decDigits n.val,48<=c.toNat/\c.toNat<=57:=by decide +kernel
 exact key ⟨n,h⟩
theorem Ed (c:UInt8)(h:bg (c.toNat:Int)=true):(iE c).length<=2:=by
 unfold iE
 split
 ·simp
 ·refine(ik _ ?_).1
  unfold bg Lx.upper Lx.digit at h
  simp at h;omega
theorem xc (c:UInt8)(h:bg (c.toNat:Int)=true):∀x∈iE c,48<=x.toNat/\x.toNat<=57:=by
 unfold iE
 split
 ·rename_i hd
  intro x hx
  simp at hx;subst hx
  unfold digit Lx.digit at hd;simp at hd;omega
 ·refine(ik _ ?_).2
  unfold bg Lx.upper Lx.digit at h
  simp at h;omega
theorem lW (l:List UInt8)(h:∀c∈l,bg (c.toNat:Int)=true):(aW l).length<=2*l.length:=by
 induction l with
 |nil=>simp[aW]
 |cons a l ih=>
  have h1:=Ed a (h a (by simp))
  have h2:=ih (λc hc=>h c (by simp[hc]))
  simp[aW]at h2⊢
  omega
theorem oo (l:List UInt8)(h:∀c∈l,bg (c.toNat:Int)=true):∀x∈aW l,48<=x.toNat/\x.toNat<=57:=by
 intro x hx
 obtain⟨c,hc,hx⟩:=List.mem_flatMap.1 hx
 exact xc c (h c hc) x hx
theorem uV (s:ByteArray)(k:Nat)(h:k<s.size):aW (s.data.toList.take (k+1))=aW (s.data.toList.take k)++iE s[k]:=by
 rw[List.take_succ_eq_append_getElem (by rw[<-Lib.size_eq];exact h),zA]
 simp[aW]
 rfl
def za (b:ByteArray)(i:Nat):Int:=
 if (i:Int)%2=0 then(PlainAid.bt b (b.size-1-i)-48)*2/10+(PlainAid.bt b (b.size-1-i)-48)*2%10 else(PlainAid.bt b (b.size-1-i)-48)/10+(PlainAid.bt b (b.size-1-i)-48)%10
def jX (b:ByteArray):Nat->Int
 |0=>0
 |k+1=>jX b k+za b k
def IR (l:List UInt8):List UInt8:=Lib.decDigits ((10-jX ⟨(aW l).toArray⟩ (aW l).length%10)%10).toNat
theorem NJ (b:ByteArray)(i:Nat)(h:48<=PlainAid.bt b (b.size-1-i)/\PlainAid.bt b (b.size-1-i)<=57):0<=za b i/\za b i<=18:=by
 unfold za
 split<;>omega
theorem Db (b:ByteArray)(h:∀j,j<b.size->48<=PlainAid.bt b j/\PlainAid.bt b j<=57):∀k,k<=b.size->0<=jX b k/\jX b k<=18*k:=by
 intro k
 induction k with
 |zero=>intro _;simp[jX]
 |succ k ih=>
  intro hk
  have h1:=ih (by omega)
  have h2:=NJ b k (h _ (by omega))
  simp only[jX]
  omega
def UH (b:ByteArray):Nat->Int
 |0=>0
 |k+1=>(10*UH b k+(PlainAid.bt b k-48))%97
def mod97 (l:List UInt8):List UInt8:=
 if (Lib.decDigits (98-UH ⟨(aW l++[48,48]).toArray⟩ ((aW l).length+2)).toNat).length<2 then 48::Lib.decDigits (98-UH ⟨(aW l++[48,48]).toArray⟩ ((aW l).length+2)).toNat
 else Lib.decDigits (98-UH ⟨(aW l++[48,48]).toArray⟩ ((aW l).length+2)).toNat
theorem AJ (l:List UInt8)(h:∀x∈l,48<=x.toNat/\x.toNat<=57):∀j,j<(⟨l.toArray⟩:ByteArray).size->48<=PlainAid.bt ⟨l.toArray⟩ j/\PlainAid.bt ⟨l.toArray⟩ j<=57:=by
 intro j hj
 have hj':j<l.length:=by simpa[ByteArray.size]using hj
 have:=h l[j] (List.getElem_mem hj')
 unfold PlainAid.bt
 rw[dif_pos hj]
 show 48<=(l[j].toNat:Int)/\(l[j].toNat:Int)<=57
 omega
end Go.Proofs.YtnjjeapcalkmaaaGreatDoor.Id
namespace Go.Proofs.YtnjjeapcalkmaaaGreatDoor
open Go.RowKit
theorem JA:(Tryz.prog.info? 137).map (·.size)=some 2:=by kernel_rfl
theorem Q5:liesAt Tryz.prog Tryz.prog.depth 137 (2/Tryz.prog.cellsOf 137) 0 137 1=true:=by kernel_rfl
theorem iW:(Tryz.prog.info? 5).map (λi=>(i.zero,i.size,i.bytes))=some (some (.int .u8 0),1,1):=by kernel_rfl
theorem ym (b:Nat)(w:World)(h0:w.cell? ⟨b,0,none⟩=some (.pointer (some ⟨b,0,none⟩))):
 Calls Tryz.prog 146 #[.pointer (some ⟨b,0,none⟩)] w λe w'=>e=.returned (.tuple #[])/\w=w':=by
 obtain⟨j,hj,_⟩:=Option.map_eq_some_iff.1 JA
 go_enter Tryz.func146,Tryz.ntmps146
 go_wp2
 rw[Lib.run_neq_ptr_same w _ Tryz.underlying134 hj]
 go_wp2
 go_end0
 exact⟨rfl,rfl⟩
theorem xJ (b:Nat)(w:World)(h0:w.cell? ⟨b,0,none⟩=some (.pointer none))(hsh:w.shape? b=some (137,2))(hfz:w.frozen? ⟨b,0,none⟩=false):
 Calls Tryz.prog 146 #[.pointer (some ⟨b,0,none⟩)] w λe w'=>e=.returned (.tuple #[])/\w'=w.setCell ⟨b,0,none⟩ (.pointer (some ⟨b,0,none⟩)):=by
 obtain⟨j,hj,hjs⟩:=Option.map_eq_some_iff.1 JA
 go_enter Tryz.func146,Tryz.ntmps146
 go_wp2
 rw[Lib.run_to_unsafe w ⟨b,0,none⟩ Tryz.underlying134 Tryz.underlying228 hj (by rw[hjs];decide) hsh (Nat.zero_lt_succ 1)]
 simp only[Result.andThen]
 rw[Oper.upon_value]
 go_wp2
 rw[run_callFunc_extern Tryz.func207 (by kernel_rfl) (by kernel_rfl) (by kernel_rfl) (e:=Extern.AbiNoEscape.same) (by kernel_rfl)]
 rw[Lib.run_noEscape]
 simp only[Result.andThen]
 rw[Oper.upon_value]
 go_wp2
 rw[Lib.run_from_unsafe w ⟨b,0,none⟩ Tryz.underlying228 Tryz.underlying134 hj hsh Q5]
 simp only[Result.andThen]
 rw[Oper.upon_value]
 go_wp2
 go_end0
 exact⟨rfl,rfl⟩
abbrev BdAt (B b:Nat)(p:Value)(bs:List Value)(w:World):Prop:=Lib.BuilderAt 137 5 B b p bs w
abbrev TA (B b:Nat)(bs:List Value)(w:World):Prop:=Lib.IsBuilder 137 5 B b bs w
theorem Cj (B b:Nat)(bs:List Value)(w:World)(h:TA B b bs w):
 Calls Tryz.prog 146 #[.pointer (some ⟨b,0,none⟩)] w λe w'=>e=.returned (.tuple #[])/\BdAt B b (.pointer (some ⟨b,0,none⟩)) bs w'/\Below B w w':=by
 rcases h with h|h
 ·refine(xJ b w h.cell0 h.shape h.frozen0).mono ?_
  rintro e w' ⟨rfl,hw⟩
  rw[hw]
  exact⟨rfl,h.used _,(Below.refl B w).setCell (p:=⟨b,0,none⟩) h.1 _⟩
 ·refine(ym b w h.cell0).mono ?_
  rintro e w' ⟨rfl,rfl⟩
  exact⟨rfl,h,Below.refl B _⟩
theorem Bv (B b:Nat)(bs:List Value)(c:Int)(w:World)(h:TA B b bs w)(hlen:bs.length+1<=1073741824)(hBw:B<=w.heap.size):
 Calls Tryz.prog 85 #[.pointer (some ⟨b,0,none⟩),.int .u8 c] w λe w'=>e=.returned .nilIface/\BdAt B b (.pointer (some ⟨b,0,none⟩)) (bs++[.int .u8 c]) w'/\Below B w w':=by
 obtain⟨i0,hi,hz0,hz1,hz2⟩:=info_parts iW
 have hck:=Cj B b bs w h
 clear h
 go_enter Tryz.func85,Tryz.ntmps85
 go_wp2_with fail
 refine hck.mono ?_
 rintro e w1 ⟨rfl,⟨hB,v,hbk,hown,hne⟩,hb1⟩
 have hsz:=hb1.size
 have hlt:b<w1.heap.size:=(Array.getElem?_eq_some_iff.1 hbk).1
 have c0:w1.cell? ⟨b,0,none⟩=some (.pointer (some ⟨b,0,none⟩)):=by rw[Lib.cell_of_heap hbk];rfl
 have c1:w1.cell? ⟨b,1,none⟩=some v:=by rw[Lib.cell_of_heap hbk];rfl
 go_wp2_with (at_builtin;refine wpList_append_own _ rfl _ _ 135 rfl B 5 i0 (.int .u8 0) 1 1 Tryz.underlying135 hi hz0 hz1 hz2 rfl (by decide) _ _ _ rfl (hown.alloc _) ⟨w1.heap.size,0,none⟩ 1 1 [.int .u8 c] rfl rfl ?c1 ?c2 ?c3 ?c4 ?c5 ?_)
 case c1=>
  intro j u hj
  match j,hj with
  |0,hj=>simp at hj;subst hj;simp[Addr.add]
  |j+1,hj=>simp at hj
 case c2=>intro u hu;simp at hu;subst hu;rfl
 case c3=>unfold maxLen;omega
 case c4=>omega
 case c5=>simp;omega
 intro v' w2 hown2 hgrow _
 have hbk2:w2.heap[b]? =some (.cells #[.pointer (some ⟨b,0,none⟩),v] 137 (0,0)):=by
  rw[hgrow.block b (by simp;omega) (λe=>hne e.symm),Lib.alloc_old w1 _ b hlt]
  exact hbk
 have d0:w2.cell? ⟨b,0,none⟩=some (.pointer (some ⟨b,0,none⟩)):=by rw[Lib.cell_of_heap hbk2];rfl
 have d1:w2.cell? ⟨b,1,none⟩=some v:=by rw[Lib.cell_of_heap hbk2];rfl
 have f1:w2.frozen? ⟨b,1,none⟩=false:=Lib.frozen_of_heap hbk2 1
 have jO:=(hb1.alloc (by omega) (.cells #[.int .u8 c] 5)).grown hgrow (by simp;omega) (λk hk=>(hown.lt k hk).1)
 obtain⟨g,cap,rfl⟩:∃g cap,v'=.slice (some ⟨g,0,none⟩) (bs.length+1) cap:=by
  rcases hown2.2 with⟨_,h0⟩|⟨g,cap,cur,hv,_⟩
  ·omega
  ·exact⟨g,cap,hv⟩
 clear hgrow c0 c1
 go_wp2
 go_ret
 exact⟨rfl,Lib.BuilderAt.put hB hbk2 (bs':=bs++[.int .u8 c]) (by simpa using hown2) (by decide),jO.setCell (p:=⟨b,1,none⟩) hB _⟩
theorem wF (B b:Nat)(bs:List Value)(s:ByteArray)(w:World)(h:TA B b bs w)(hlen:bs.length+s.size<=1073741824)(hBw:B<=w.heap.size):
 Calls Tryz.prog 84 #[.pointer (some ⟨b,0,none⟩),.string s] w λe w'=>e=.returned (.tuple #[.int .i64 s.size,.nilIface])/\BdAt B b (.pointer (some ⟨b,0,none⟩)) (bs++Lib.strCells s) w'/\Below B w w':=by
 obtain⟨i0,hi,hz0,hz1,hz2⟩:=info_parts iW
 have hck:=Cj B b bs w h
 clear h
 go_enter Tryz.func84,Tryz.ntmps84
 go_wp2_with fail
 refine hck.mono ?_
 rintro e w1 ⟨rfl,⟨hB,v,hbk,hown,hne⟩,hb1⟩
 have hsz:=hb1.size
 have hlt:b<w1.heap.size:=(Array.getElem?_eq_some_iff.1 hbk).1
 have c0:w1.cell? ⟨b,0,none⟩=some (.pointer (some ⟨b,0,none⟩)):=by rw[Lib.cell_of_heap hbk];rfl
 have c1:w1.cell? ⟨b,1,none⟩=some v:=by rw[Lib.cell_of_heap hbk];rfl
 go_wp2_with (at_builtin;refine Lib.wpList_append_own_string _ rfl _ _ 135 9 rfl B 5 i0 Tryz.underlying135 Tryz.underlying9 hi hz0 hz1 hz2 _ _ _ rfl hown s rfl ?c3 ?c4 ?c5 ?_)
 case c3=>unfold maxLen;omega
 case c4=>omega
 case c5=>omega
 intro v' w2 hown2 hgrow _
 have hbk2:w2.heap[b]? =some (.cells #[.pointer (some ⟨b,0,none⟩),v] 137 (0,0)):=by
  rw[hgrow.block b hlt (λe=>hne e.symm)]
  exact hbk
 have d0:w2.cell? ⟨b,0,none⟩=some (.pointer (some ⟨b,0,none⟩)):=by rw[Lib.cell_of_heap hbk2];rfl
 have d1:w2.cell? ⟨b,1,none⟩=some v:=by rw[Lib.cell_of_heap hbk2];rfl
 have f1:w2.frozen? ⟨b,1,none⟩=false:=Lib.frozen_of_heap hbk2 1
 have jO:=hb1.grown hgrow (by omega) (λk hk=>(hown.lt k hk).1)
 obtain⟨ao,n',cap,rfl⟩:∃ao n' cap,v'=.slice ao n' cap:=by
  rcases hown2.2 with⟨hv,_⟩|⟨g,cap,cur,hv,_⟩
  ·exact⟨_,_,_,hv⟩
  ·exact⟨_,_,_,hv⟩
 clear hgrow c0 c1
 go_wp2
 go_ret2
 exact⟨rfl,Lib.BuilderAt.put hB hbk2 (bs':=bs++Lib.strCells s) (by simpa[Lib.strCells_length]using hown2) (by decide),jO.setCell (p:=⟨b,1,none⟩) hB _⟩
open Go.RowKit Go.Lib
theorem zf (c:Int)(w:World):
 Calls Tryz.prog 340 #[.int .u8 c] w λe w'=>e=.returned (.bool (Id.letter c))/\w=w':=by
 go_enter Tryz.func340,Tryz.ntmps340
 go_wp2
 all_goals go_ret
 all_goals exact⟨bq (by first|(simp[Id.letter,Lx.upper];done)|(simp[Id.letter,Lx.upper];omega)),rfl⟩
theorem wH (c:Int)(w:World):
 Calls Tryz.prog 342 #[.int .u8 c] w λe w'=>e=.returned (.bool (Id.digit c))/\w=w':=by
 go_enter Tryz.func342,Tryz.ntmps342
 go_wp2
 all_goals go_ret
 all_goals exact⟨bq (by first|(simp[Id.digit,Lx.digit];done)|(simp[Id.digit,Lx.digit];omega)),rfl⟩
theorem EO (c:Int)(w:World):
 Calls Tryz.prog 341 #[.int .u8 c] w λe w'=>e=.returned (.bool (Id.bg c))/\w=w':=by
 have h1:=λW=>zf c W
 have h2:=λW=>wH c W
 go_enter Tryz.func341,Tryz.ntmps341
 go_wp2_with (first|(go_at_call 340;refine(h1 _).mono ?_;rintro e w' ⟨rfl,rfl⟩)|(go_at_call 342;refine(h2 _).mono ?_;rintro e w' ⟨rfl,rfl⟩))
 all_goals go_ret
 all_goals exact⟨bq (by simp_all [Id.bg,Id.letter,Id.digit]),rfl⟩
theorem Qy (c:Int)(w:World):
 Calls Tryz.prog 344 #[.int .u8 c] w λe w'=>e=.returned (.bool (Id.Df c))/\w=w':=by
 have h1:=λW=>EO c W
 go_enter Tryz.func344,Tryz.ntmps344
 go_wp2_with (first|(go_at_call 341;refine(h1 _).mono ?_;rintro e w' ⟨rfl,rfl⟩))
 all_goals go_ret
 all_goals exact⟨bq (by simp_all [Id.Df]),rfl⟩
theorem wP (l:List UInt8):(ByteArray.mk l.toArray).size=l.length:=by simp[ByteArray.size]
theorem Al (s:ByteArray)(k:Nat)(h:k<s.size):(s[k].toNat:Int)=PlainAid.bt s k:=PlainAid.get_bt s k h
theorem Lr (s:ByteArray)(w:World)(hs:s.size<=1048576)(hal:∀c∈s.data.toList,Id.bg (c.toNat:Int)=true):
 Calls Tryz.prog 346 #[.string s] w λe w'=>e=.returned (.string ⟨(Id.aW s.data.toList).toArray⟩)/\Below w.heap.size w w':=by
 have hb:=PlainAid.get_bt s
 have UY:=Lib.hid hal
 clear hal
 go_enter Tryz.func346,Tryz.ntmps346
 go_wp2_with fail
 go_loopw [7] (λi wr=>∃k:Nat,k<=s.size/\i=.int .i64 k/\Below w.heap.size w wr/\TA w.heap.size w.heap.size (Lib.byteCells (Id.aW (s.data.toList.take k))) wr) (λi _=>s.size-(RowKit.intOf i).toNat)
 case atStart=>
  refine⟨0,Nat.zero_le _,rfl,(Below.refl _ _).alloc (Nat.le_refl _) _,.inl ⟨Nat.le_refl _,.slice none 0 0,?_,World.ownsRow_nil _ _ _ _,by simp[Value.ownBlock]⟩⟩
  exact heap_alloc_new w _
 case round=>
  obtain⟨k,hk,rfl,hbel,hbd⟩:=hrel
  by_cases hlt:k<s.size
  ·have hmem:s[k]∈s.data.toList:=by
    rw[List.mem_iff_getElem]
    exact⟨k,by rw[<-Lib.size_eq];exact hlt,by rw[Array.getElem_toList];rfl⟩
   have Ho:=UY.out _ hmem
   have htk:∀c∈s.data.toList.take k,Id.bg (c.toNat:Int)=true:=λc hc=>UY.out c (List.mem_of_mem_take hc)
   have hel:=Id.lW _ htk
   have TI:(s.data.toList.take k).length<=k:=List.length_take_le _ _
   have HS:=Lib.hid (Id.uV s k hlt)
   have hX:Hid (Id.iE s[k]=if Id.digit (PlainAid.bt s k)then[s[k]]else Lib.decDigits (s[k].toNat-55)):=by
    show _=_
    rw[<-hb k hlt];rfl
   have hbc:Hid ((s[k].toNat:Int)=PlainAid.bt s k):=hb k hlt
   have b0:=PlainAid.bt_nonneg s k
   have b1:=PlainAid.bt_le s k
   have hd:=λW=>wH (PlainAid.bt s k) W
   have hlen:(Lib.byteCells (Id.aW (s.data.toList.take k))).length<=2*k:=by rw[Lib.byteCells_length];omega
   have hnn:=Lib.hid (Al s k hlt)
   clear hmem htk hel TI
   cases hdg:Id.digit (PlainAid.bt s k)with
   |true=>
    rw[hdg]at hd
    have HDG:=Lib.hid hdg
    have hw:=Bv w.heap.size w.heap.size _ (PlainAid.bt s k) wr hbd (by omega) hbel.size
    clear hdg Ho
    go_wp2_with fail
    refine(hd _).mono ?_
    rintro e w1 ⟨rfl,rfl⟩
    go_wp2_with fail
    refine hw.mono ?_
    rintro e w2 ⟨rfl,hbd2,hb2⟩
    go_wp2_with fail
    go_roundw
    case rel=>
     refine⟨k+1,by omega,by go_num,hbel.trans hb2,.inr ?_⟩
     rw[HS.out,hX.out,HDG.out,if_pos rfl,Lib.byteCells_append]
     rw[show Lib.byteCells [s[k]]=[.int .u8 (PlainAid.bt s k)]from by simp[Lib.byteCells,hbc.out]]
     exact hbd2
    case measure=>simp[RowKit.intOf];omega
   |false=>
    rw[hdg]at hd
    have HDG:=Lib.hid hdg
    have hup:65<=PlainAid.bt s k/\PlainAid.bt s k<=90:=by
     have h1:=Ho
     rw[hbc.out]at h1
     unfold Id.bg Lx.upper at h1
     unfold Id.digit at hdg
     rw[hdg]at h1
     simp at h1
     exact h1
    obtain⟨u0,u1⟩:=hup
    have hn:Hid (PlainAid.bt s k-65+10=((s[k].toNat-55:Nat):Int)):=by
     show _=_
     have:=hbc.out
     omega
    have QU:s[k].toNat-55<100:=by have:=s[k].toNat_lt;have:=hbc.out;omega
    have hdl:=(Id.ik _ QU).1
    have hit:=λW=>Tryz.strconv_Itoa_small (s[k].toNat-55) QU W
    have hw:=wF w.heap.size w.heap.size _ ⟨(Lib.decDigits (s[k].toNat-55)).toArray⟩ wr hbd (by rw[wP];omega) hbel.size
    clear hdg Ho QU hdl
    go_wp2_with fail
    refine(hd _).mono ?_
    rintro e w1 ⟨rfl,rfl⟩
    go_wp2_with fail
    rw[hn.out]
    refine(hit _).mono ?_
    rintro e w1 ⟨rfl,rfl⟩
    go_wp2_with fail
    refine hw.mono ?_
    rintro e w2 ⟨rfl,hbd2,hb2⟩
    go_wp2_with fail
    go_roundw
    case rel=>
     refine⟨k+1,by omega,by go_num,hbel.trans hb2,.inr ?_⟩
     rw[HS.out,hX.out,HDG.out,if_neg (by simp),Lib.byteCells_append]
     exact hbd2
    case measure=>simp[RowKit.intOf];omega
  ·obtain rfl:k=s.size:=by omega
   have hst:=Tryz.Builder_String_any w.heap.size w.heap.size (Id.aW (s.data.toList.take s.size)) wr hbd hbel.size
   clear hb
   go_wp2_with fail
   refine hst.mono ?_
   rintro e w2 ⟨rfl,hb2⟩
   go_wp2_with fail
   go_ret
   refine⟨?_,hbel.trans hb2⟩
   rw[List.take_of_length_le (by rw[<-Lib.size_eq];exact Nat.le_refl _)]
   rfl
theorem Tm (z:Int)(h0:0<=z)(h1:z<100)(w:World):Calls Tryz.prog 303 #[.int .i64 z] w λe w'=>e=.returned (.string ⟨(Lib.decDigits z.toNat).toArray⟩)/\w=w':=by
 obtain⟨n,rfl⟩:=Int.eq_ofNat_of_zero_le h0
 refine(Tryz.strconv_Itoa_small n (by omega) w).mono ?_
 rintro e w' ⟨rfl,rfl⟩
 exact⟨rfl,rfl⟩
theorem Kt {a b:List UInt8}(h:a=b):Ending.returned (.string ⟨a.toArray⟩)=.returned (.string ⟨b.toArray⟩):=by rw[h]
theorem Ij (s:ByteArray)(w:World)(hs:s.size<=1048576)(hal:∀c∈s.data.toList,Id.bg (c.toNat:Int)=true):
 Calls Tryz.prog 343 #[.string s] w λe w'=>e=.returned (.string ⟨(Id.IR s.data.toList).toArray⟩)/\Below w.heap.size w w':=by
 have hx:=Lr s w hs hal
 have hlen:=Id.lW _ hal
 rw[<-Lib.size_eq]at hlen
 have hdig:=Id.AJ _ (Id.oo _ hal)
 have HR:Hid (Id.IR s.data.toList=Lib.decDigits ((10-Id.jX ⟨(Id.aW s.data.toList).toArray⟩ (Id.aW s.data.toList).length%10)%10).toNat):=rfl
 rw[<-wP]at hlen HR
 generalize (⟨(Id.aW s.data.toList).toArray⟩:ByteArray)=L at *
 have hbd:=Id.Db L hdig
 have HD:=Lib.hid hdig
 have HB:=Lib.hid hbd
 clear hdig hbd hal
 have hb:=PlainAid.get_bt L
 go_enter Tryz.func343,Tryz.ntmps343
 go_wp2_with fail
 refine hx.mono ?_
 rintro e w1 ⟨rfl,hb1⟩
 go_wp2_with fail
 go_loopw [4,11] (λsm i wr=>∃k:Nat,k<=L.size/\i=.int .i64 k/\wr=w1/\sm=.int .i64 (Id.jX L k)) (λ_ i _=>L.size-(RowKit.intOf i).toNat)
 case atStart=>exact⟨0,Nat.zero_le _,rfl,rfl,rfl⟩
 case round=>
  obtain⟨k,hk,rfl,rfl,rfl⟩:=hrel
  by_cases hlt:k<L.size
  ·have d:=HD.out (L.size-1-k) (by omega)
   obtain⟨d0,d1⟩:=d
   obtain⟨s0,s1⟩:=HB.out k hk
   have HS:Hid (Id.jX L (k+1)=Id.jX L k+Id.za L k):=rfl
   have HT:Hid (Id.za L k=if (k:Int)%2=0 then(PlainAid.bt L (L.size-1-k)-48)*2/10+(PlainAid.bt L (L.size-1-k)-48)*2%10 else(PlainAid.bt L (L.size-1-k)-48)/10+(PlainAid.bt L (L.size-1-k)-48)%10):=rfl
   by_cases hev:(k:Int)%2=0
   ·have hbe:((k:Int)%2==0)=true:=by simpa using hev
    have HE:=Lib.hid hev
    clear hev
    go_wp2_with fail
    go_roundw
    case rel=>exact⟨k+1,by omega,by go_num,trivial,by rw[HS.out,HT.out,if_pos HE.out]⟩
    case measure=>simp[RowKit.intOf];omega
   ·have hbe:((k:Int)%2==0)=false:=by simpa using hev
    have HE:=Lib.hid hev
    clear hev
    go_wp2_with fail
    go_roundw
    case rel=>exact⟨k+1,by omega,by go_num,trivial,by rw[HS.out,HT.out,if_neg HE.out]⟩
    case measure=>simp[RowKit.intOf];omega
  ·obtain rfl:k=L.size:=by omega
   obtain⟨s0,s1⟩:=HB.out L.size (Nat.le_refl _)
   clear hb
   go_wp2_with fail
   refine(Tm _ (by omega) (by omega) _).mono ?_
   rintro e w2 ⟨rfl,rfl⟩
   go_wp2_with fail
   go_ret
   refine⟨Kt ?_,hb1⟩
   rw[HR.out]
   congr 2
   omega
theorem Ag:(Tryz.prog.info? 256).map (λi=>(i.zero,i.size,i.bytes))=some (some .nilFunc,1,8):=by kernel_rfl
def bV (sp:List (Nat×Nat)):List Value:=sp.flatMap λx=>List.replicate x.1 (.func (.func x.2) #[] #[])
theorem ma (a b:List (Nat×Nat)):bV (a++b)=bV a++bV b:=by simp[bV]
theorem CF (sp:List (Nat×Nat))(k:Nat)(x:Nat×Nat)(h:sp[k]? =some x):bV (sp.take (k+1))=bV (sp.take k)++List.replicate x.1 (.func (.func x.2) #[] #[]):=by
 obtain⟨hk,hx⟩:=List.getElem?_eq_some_iff.1 h
 rw[List.take_succ_eq_append_getElem hk,ma,hx]
 simp[bV]
theorem ul (sp:List (Nat×Nat))(k:Nat):(bV (sp.take k)).length<=(bV sp).length:=by
 conv=>rhs;rw[<-List.take_append_drop k sp]
 rw[ma];simp
def dW (W:World)(sb so:Nat)(sp:List (Nat×Nat)):Prop:=∀(j:Nat) (x:Nat×Nat),sp[j]? =some x->
 W.cell? ⟨sb,so+j*2,none⟩=some (.int .i64 (x.1:Int))/\W.cell? ⟨sb,so+j*2+1,none⟩=some (.func (.func x.2) #[] #[])
theorem dW.below {W W':World}{sb so:Nat}{sp:List (Nat×Nat)}(h:dW W sb so sp)(hb:Below W.heap.size W W'):dW W' sb so sp:=λj x hx=>by
 obtain⟨h1,h2⟩:=h j x hx
 exact⟨(hb.cell (p:=⟨sb,so+j*2,none⟩) (uT h1)).trans h1,(hb.cell (p:=⟨sb,so+j*2+1,none⟩) (uT h2)).trans h2⟩
theorem lM (a b:Int)(chk:Value)(sb so sc:Nat)(sp:List (Nat×Nat))(w:World)(hsp:dW w sb so sp)(hn:sp.length<=64)(htot:(bV sp).length<=1024)(hx:∀x∈sp,x.1<=1024):
 Calls Tryz.prog 205 #[.agg #[.int .i64 a,.slice (some ⟨sb,so,none⟩) sp.length sc,.int .i64 b,chk]] w λe w'=>∃v,e=.returned v/\
  w'.ownsRow w.heap.size 256 1 v (bV sp).length (bV sp)/\Below w.heap.size w w':=by
 obtain⟨i0,hi,hz0,hz1,hz2⟩:=info_parts Ag
 have H:=Lib.hid hsp
 have HX:=Lib.hid hx
 clear hsp hx
 go_enter Tryz.func205,Tryz.ntmps205
 go_wp2_with fail
 go_loopw [3,9] (λv i wr=>∃k:Nat,k<=sp.length/\i=.int .i64 k/\Below w.heap.size w wr/\wr.ownsRow w.heap.size 256 1 v (bV (sp.take k)).length (bV (sp.take k))) (λ_ i _=>sp.length-(RowKit.intOf i).toNat)
 case atStart=>exact⟨0,Nat.zero_le _,rfl,(Below.refl _ _).alloc (Nat.le_refl _) _,World.ownsRow_nil _ _ _ _⟩
 case round=>
  obtain⟨k,hk,rfl,hbel,hown⟩:=hrel
  by_cases hlt:k<sp.length
  ·have hget:sp[k]? =some sp[k]:=List.getElem?_eq_getElem hlt
   have hxk:=HX.out sp[k] (List.getElem_mem hlt)
   have HS:=Lib.hid (CF sp k _ hget)
   obtain⟨c0,c1⟩:=(H.out.below hbel) k _ hget
   have hle:=ul sp (k+1)
   rw[HS.out,List.length_append,List.length_replicate]at hle
   clear hget
   generalize sp[k]=x at *
   obtain⟨n,f⟩:=x
   simp only at c0 c1 hxk hle HS
   have hsb:=uT c0
   obtain⟨wo,rfl⟩:∃wo:World,wo=wr:=⟨_,rfl⟩
   go_wp2_with fail
   go_loopw [3,15] (λv i wr=>∃j:Nat,j<=n/\i=.int .i64 j/\Below w.heap.size w wr/\wo.heap.size<wr.heap.size/\wr.heap[wo.heap.size]? =some (.cells #[.int .i64 (n:Int),.func (.func f) #[] #[]] 258 (0,0))/\
    wr.ownsRow w.heap.size 256 1 v ((bV (sp.take k)).length+j) (bV (sp.take k)++List.replicate j (.func (.func f) #[] #[]))) (λ_ i _=>n-(RowKit.intOf i).toNat)
   case atStart=>exact⟨0,Nat.zero_le _,rfl,hbel.alloc hbel.size _,by simp,heap_alloc_new wo _,by simpa using hown.alloc _⟩
   case round=>
    obtain⟨j,hj,rfl,jO,hsz2,hblk,hown2⟩:=hrel
    have hcell:wr.cell? ⟨wo.heap.size,1,none⟩=some (.func (.func f) #[] #[]):=by simp[World.cell?,hblk]
    have HB:=Lib.hid hblk
    clear hblk
    by_cases hj2:j<n
    ·go_wp2_with (at_builtin;refine wpList_append_own _ rfl _ _ 225 rfl w.heap.size 256 i0 _ 1 8 Tryz.underlying225 hi hz0 hz1 hz2 rfl (by decide) _ _ _ rfl (hown2.alloc _) ⟨wr.heap.size,0,none⟩ 1 1 [.func (.func f) #[] #[]] rfl rfl ?c1 ?c2 ?c3 ?c4 ?c5 ?_)
     case c1=>
      intro jj u hjj
      match jj,hjj with
      |0,hjj=>simp at hjj;subst hjj;simp[Addr.add]
      |jj+1,hjj=>simp at hjj
     case c2=>intro u hu;simp at hu;subst hu;rfl
     case c3=>unfold maxLen;omega
     case c4=>omega
     case c5=>have:=jO.size;simp;omega
     intro v' w3 hown3 hgrow3 _
     have rM:=(jO.alloc jO.size (.cells #[.func (.func f) #[] #[]] 256)).grown hgrow3 (by have:=jO.size;simp;omega) (λk hk=>(hown2.lt k hk).1)
     have hsz3:wo.heap.size<w3.heap.size:=by have:=hgrow3.size;simp at this;omega
     have hne3:some wo.heap.size≠Value.ownBlock u3:=λe=>by
      rcases hown2.2 with⟨rfl,_⟩|⟨g,cap,cur,rfl,hg,hh,_⟩
      ·simp[Value.ownBlock]at e
      ·simp[Value.ownBlock]at e
       have:=HB.out
       rw[e,hh]at this
       simp at this
     have hblk3:w3.heap[wo.heap.size]? =some (.cells #[.int .i64 (n:Int),.func (.func f) #[] #[]] 258 (0,0)):=by
      rw[hgrow3.block _ (by simp;omega) hne3,heap_alloc_old]
      ·exact HB.out
      ·exact hsz2
     have HB3:=Lib.hid hblk3
     clear hblk3 hgrow3 hne3
     go_wp2_with fail
     go_roundw
     case rel=>exact⟨j+1,by omega,by go_num,rM,hsz3,HB3.out,by rw[List.replicate_succ'];simpa[Nat.add_assoc]using hown3⟩
     case measure=>simp[RowKit.intOf];omega
    ·obtain rfl:j=n:=by omega
     go_wp2_with fail
     go_roundw
     case rel=>exact⟨k+1,by omega,by go_num,jO,by rw[HS.out,List.length_append,List.length_replicate];exact hown2⟩
     case measure=>simp[RowKit.intOf];omega
  ·obtain rfl:k=sp.length:=by omega
   go_wp2_with fail
   go_ret
   rw[List.take_length]at hown
   exact⟨_,rfl,hown,hbel⟩
def PD (cl:List (Nat×(Int->Bool))):Prop:=∀x∈cl,gJ x.1 x.2
def lq (ps:List (Int->Bool))(s:ByteArray)(k:Nat):Bool:=decide (k<s.size)&&!((ps.getD k λ_=>true) (PlainAid.bt s k))
def bi (ps:List (Int->Bool))(shortest:Int)(s:ByteArray):Int:=
 if (List.range ps.length).any (lq ps s)then 3 else if (s.size:Int)<shortest then 4 else if ps.length<s.size then 5 else 0
theorem zx (cl:List (Nat×(Int->Bool)))(hcl:PD cl)(g cap:Nat)(a:Int)(s:ByteArray)(w:World)(hs:s.size<=1073741824)(hn:cl.length<=1024)(_ha0:0<=a)(_ha1:a<=64)
 (hc:∀(k:Nat) x,cl[k]? =some x->w.cell? ⟨g,k,none⟩=some (.func (.func x.1) #[] #[])):
 Calls Tryz.prog 204 #[.slice (some ⟨g,0,none⟩) cl.length cap,.int .i64 a,.string s] w λe w'=>(∃t:Int,e=.returned (.tuple #[.int .i64 t,.int .i64 (bi (cl.map (·.2)) a s)]))/\w=w':=by
 have HC:=Lib.hid hc
 have HT:=Lib.hid hcl
 clear hc hcl
 have hb:=PlainAid.get_bt s
 go_enter Tryz.func204,Tryz.ntmps204
 go_wp2_with fail
 go_loop [12] (λi=>∃k:Nat,k<=cl.length/\i=.int .i64 k/\∀j,j<k->lq (cl.map (·.2)) s j=false) (λi=>cl.length-(RowKit.intOf i).toNat)
 case atStart=>exact⟨0,Nat.zero_le _,rfl,λj hj=>by omega⟩
 case round=>
  obtain⟨k,hk,rfl,mE⟩:=hrel
  have HP:=Lib.hid mE
  clear mE
  by_cases hlt:k<cl.length
  ·have hget:cl[k]? =some cl[k]:=List.getElem?_eq_getElem hlt
   have hcell:=HC.out k _ hget
   obtain⟨eg,hp⟩:=HT.out cl[k] (List.getElem_mem hlt)
   have HBAD:Hid (lq (cl.map (·.2)) s k=(decide (k<s.size)&&!(cl[k].2 (PlainAid.bt s k)))):=by
    show _=_
    unfold lq
    rw[List.getD_eq_getElem?_getD,List.getElem?_map,hget]
    rfl
   clear hget
   generalize cl[k]=x at *
   obtain⟨f,p⟩:=x
   simp only at hcell eg hp HBAD
   by_cases hks:k<s.size
   ·have hcall:=λW=>hp (PlainAid.bt s k) W (PlainAid.bt_nonneg s k) (by have:=PlainAid.bt_le s k;omega)
    clear hp
    cases hq:p (PlainAid.bt s k)with
    |true=>
     rw[hq]at hcall HBAD
     clear hq
     go_wp2_with (go_at_fn f;refine(hcall _).mono ?_;rintro e w' ⟨rfl,rfl⟩)
     go_round
     case rel=>
      refine⟨k+1,by omega,by go_num,λj hj=>?_⟩
      by_cases e:j=k
      ·subst e;rw[HBAD.out];simp
      ·exact HP.out j (by omega)
     case measure=>simp[RowKit.intOf];omega
    |false=>
     rw[hq]at hcall HBAD
     clear hq
     go_wp2_with (go_at_fn f;refine(hcall _).mono ?_;rintro e w' ⟨rfl,rfl⟩)
     go_ret2
     have h3:bi (cl.map (·.2)) a s=3:=by
      unfold bi
      rw[if_pos]
      rw[List.any_eq_true]
      exact⟨k,by simpa using hlt,by rw[HBAD.out];simpa using hks⟩
     rw[h3]
     exact⟨⟨_,rfl⟩,rfl⟩
   ·clear hp
    go_wp2_with fail
    go_round
    case rel=>
     refine⟨k+1,by omega,by go_num,λj hj=>?_⟩
     by_cases e:j=k
     ·subst e;rw[HBAD.out];simp[hks]
     ·exact HP.out j (by omega)
    case measure=>simp[RowKit.intOf];omega
  ·obtain rfl:k=cl.length:=by omega
   have HF:Hid (bi (cl.map (·.2)) a s=if (s.size:Int)<a then 4 else if cl.length<s.size then 5 else 0):=by
    show _=_
    unfold bi
    rw[if_neg]
    ·simp
    ·rw[List.any_eq_true]
     rintro⟨j,hj,hj2⟩
     rw[HP.out j (by simpa using hj)]at hj2
     exact absurd hj2 (by simp)
   clear hb
   by_cases h4:(s.size:Int)<a
   ·go_wp2_with fail
    go_ret2
    rw[HF.out,if_pos h4]
    exact⟨⟨_,rfl⟩,rfl⟩
   ·by_cases h5:cl.length<s.size
    ·go_wp2_with fail
     go_ret2
     rw[HF.out,if_neg (by omega),if_pos h5]
     exact⟨⟨_,rfl⟩,rfl⟩
    ·go_wp2_with fail
     go_ret2
     rw[HF.out,if_neg (by omega),if_neg (by omega)]
     exact⟨⟨_,rfl⟩,rfl⟩
structure IdRow where
 low:Int
 sp:List (Nat×Nat)
 body:Int
 chk:Value
def aR (k:Nat):IdRow:=
 if k=0 then⟨12,[(2,340),(9,341),(1,342)],11,.func (.func 343) #[] #[]⟩
 else if k=1 then⟨4,[(1,340),(7,341)],0,.nilFunc⟩
 else if k=2 then⟨1,[(16,344)],0,.nilFunc⟩
 else⟨20,[(18,341),(2,342)],18,.func (.func 345) #[] #[]⟩
structure OV (W:World)(k:Nat)(sb so sc:Nat):Prop where
 low:W.cell? ⟨4,k*4,none⟩=some (.int .i64 (aR k).low)
 spans:W.cell? ⟨4,k*4+1,none⟩=some (.slice (some ⟨sb,so,none⟩) (aR k).sp.length sc)
 body:W.cell? ⟨4,k*4+2,none⟩=some (.int .i64 (aR k).body)
 chk:W.cell? ⟨4,k*4+3,none⟩=some (aR k).chk
 sp:dW W sb so (aR k).sp
def kK (W:World):Prop:=∀k,k<4->∃sb so sc,OV W k sb so sc
theorem kK.below {W W':World}(h:kK W)(hb:Below W.heap.size W W'):kK W':=λk hk=>by
 obtain⟨sb,so,sc,h⟩:=h k hk
 have t:∀(p:Addr) (v:Value),W.cell? p=some v->p.spot=none->W'.cell? p=some v:=λp v hc hs=>by
  obtain⟨b,o,sp⟩:=p
  cases hs
  exact(hb.cell (p:=⟨b,o,none⟩) (uT hc)).trans hc
 exact⟨sb,so,sc,t _ _ h.low rfl,t _ _ h.spans rfl,t _ _ h.body rfl,t _ _ h.chk rfl,h.sp.below hb⟩
def bN (k:Nat):List (Nat×(Int->Bool)):=
 if k=0 then List.replicate 2 (340,Id.letter)++List.replicate 9 (341,Id.bg)++[(342,Id.digit)]
 else if k=1 then[(340,Id.letter)]++List.replicate 7 (341,Id.bg)
 else if k=2 then List.replicate 16 (344,Id.Df)
 else List.replicate 18 (341,Id.bg)++List.replicate 2 (342,Id.digit)
theorem iX (k:Nat)(h:k<4):bV (aR k).sp=(bN k).map λx=>.func (.func x.1) #[] #[]:=by
 match k,h with
 |0,_=>rfl
 |1,_=>rfl
 |2,_=>rfl
 |3,_=>rfl
theorem fM (k:Nat):(bN k).length<=20:=by
 unfold bN
 split
 ·decide
 ·split
  ·decide
  ·split<;>decide
theorem nR (k:Nat):(aR k).sp.length<=3/\∀x∈(aR k).sp,x.1<=18:=by
 unfold aR
 split
 ·decide
 ·split
  ·decide
  ·split<;>decide
theorem uu:gJ 340 Id.letter:=⟨enters_of Tryz.func340 (by kernel_rfl) rfl,λc w _ _=>zf c w⟩
theorem xn:gJ 341 Id.bg:=⟨enters_of Tryz.func341 (by kernel_rfl) rfl,λc w _ _=>EO c w⟩
theorem wX:gJ 342 Id.digit:=⟨enters_of Tryz.func342 (by kernel_rfl) rfl,λc w _ _=>wH c w⟩
theorem zC:gJ 344 Id.Df:=⟨enters_of Tryz.func344 (by kernel_rfl) rfl,λc w _ _=>Qy c w⟩
theorem oI (k:Nat):PD (bN k):=by
 have h:∀x∈bN k,x=(340,Id.letter)\/x=(341,Id.bg)\/x=(342,Id.digit)\/x=(344,Id.Df):=by
  intro x hx
  unfold bN at hx
  split at hx
  ·simp at hx;rcases hx with h|h|h<;>simp[h]
  ·split at hx
   ·simp at hx;rcases hx with h|h<;>simp[h]
   ·split at hx
    ·simp at hx;simp[hx]
    ·simp at hx;rcases hx with h|h<;>simp[h]
 intro x hx
 rcases h x hx with rfl|rfl|rfl|rfl
 ·exact uu
 ·exact xn
 ·exact wX
 ·exact zC
def bD (k:Nat)(s:ByteArray):Int:=bi ((bN k).map (·.2)) (aR k).low s
def aS (k:Nat)(s:ByteArray):Int:=
 if bD k s≠0 then bD k s
 else if k=0 then(if Id.IR (s.data.toList.take 11)=s.data.toList.drop 11 then 0 else 18)
 else if k=3 then(if Id.mod97 (s.data.toList.take 18)=s.data.toList.drop 18 then 0 else 18)
 else 0
theorem vQ {W:World}{B:Nat}{v:Value}{k:Nat}(hk:k<4)(h:W.ownsRow B 256 1 v (bV (aR k).sp).length (bV (aR k).sp)):
 ∃g cap,v=.slice (some ⟨g,0,none⟩) (bN k).length cap/\∀(j:Nat) x,(bN k)[j]? =some x->W.cell? ⟨g,j,none⟩=some (.func (.func x.1) #[] #[]):=by
 rw[iX k hk,List.length_map]at h
 rcases h.2 with⟨_,h0⟩|⟨g,cap,cur,rfl,hB,hh,hn,hcap,Tv,htake⟩
 ·exfalso
  match k,hk with
  |0,_=>exact absurd h0 (by decide)
  |1,_=>exact absurd h0 (by decide)
  |2,_=>exact absurd h0 (by decide)
  |3,_=>exact absurd h0 (by decide)
 ·refine⟨g,cap,rfl,λj x hx=>?_⟩
  have hc:=h.cells (g:=g) rfl j (.func (.func x.1) #[] #[]) (by rw[List.getElem?_map,hx];rfl)
  have add:∀j,(⟨g,0,none⟩:Addr).add j=⟨g,j,none⟩:=λj=>by unfold Addr.add;split<;>simp_all
  rwa [add]at hc
theorem mZ (k:Nat):0<=(aR k).low/\(aR k).low<=20:=by
 unfold aR
 split
 ·decide
 ·split
  ·decide
  ·split<;>decide
theorem ww:Tryz.prog.underlying 155=some (.func #[9] #[9] false):=by kernel_rfl
theorem H7 (d:Nat)(w:World):(Op.equalIn (d+1) 155 .nilFunc .nilFunc).run Tryz.prog w=.ok true w:=by
 simp[Op.equalIn,run_underlying ww]
theorem CY (d:Nat)(w:World)(f:Fn)(a c:Array Value):(Op.equalIn (d+1) 155 (.func f a c) .nilFunc).run Tryz.prog w=.ok false w:=by
 simp[Op.equalIn,run_underlying ww]
theorem Kz (w:World):(Op.equal 155 .nilFunc .nilFunc).run Tryz.prog w=.ok true w:=H7 9999 w
theorem Hy (w:World)(f:Fn)(a c:Array Value):(Op.equal 155 (.func f a c) .nilFunc).run Tryz.prog w=.ok false w:=CY 9999 w f a c
@[go_sem] theorem id_neq_nil (w : World) : (binOp .neq 155 .nilFunc .nilFunc).run Tryz.prog w = .ok (.bool false) w := by
  simp only [binOp]
  simp [Kz]
@[go_sem] theorem Ul (w : World) (f : Fn) (a c : Array Value) : (binOp .neq 155 (.func f a c) .nilFunc).run Tryz.prog w = .ok (.bool true) w := by
  simp only [binOp]
  simp [Hy]
theorem rQ (k:Nat)(hk:k<4)(hnil:(aR k).chk=.nilFunc)(s:ByteArray)(w:World)(hs:s.size<=1073741824)(h:kK w):
 Calls Tryz.prog 137 #[.int .i64 k,.string s] w λe w'=>(∃t:Int,e=.returned (.tuple #[.int .i64 t,.int .i64 (bD k s)]))/\Below w.heap.size w w':=by
 obtain⟨sb,so,sc,c0,c1,c2,c3,hsp⟩:=h k hk
 rw[hnil]at c3
 obtain⟨hl1,hl2⟩:=nR k
 have hk4:(k:Int)<4:=by omega
 have htot:(bV (aR k).sp).length<=20:=by rw[iX k hk,List.length_map];exact fM k
 have HCL:=Lib.hid (λ(a b:Int) (chk:Value) (W:World) (hW:dW W sb so (aR k).sp)=>lM a b chk sb so sc (aR k).sp W hW (by omega) (by omega) (λx hx=>by have:=hl2 x hx;omega))
 have HPF:=Lib.hid (λ(g cap:Nat) (W:World) (hW:∀(j:Nat) x,(bN k)[j]? =some x->W.cell? ⟨g,j,none⟩=some (.func (.func x.1) #[] #[]))=>
  zx (bN k) (oI k) g cap (aR k).low s W hs (by have:=fM k;omega) (mZ k).1 (by have:=(mZ k).2;omega) hW)
 have HSP:Hid (∀o,dW (w.alloc o) sb so (aR k).sp):=Lib.hid λo=>hsp.below ((Below.refl _ w).alloc (Nat.le_refl _) o)
 have HFM:=Lib.hid (λ(W:World) (v:Value) (B:Nat)=>vQ (W:=W) (B:=B) (v:=v) hk)
 have Fp:Hid (bD k s=bi ((bN k).map (·.2)) (aR k).low s):=rfl
 clear hsp hnil hl1 hl2 htot h
 generalize (aR k).low=low at *
 generalize (aR k).body=body at *
 generalize (aR k).sp=sp at *
 go_enter Tryz.func137,Tryz.ntmps137
 go_wp2_with fail
 go_region_held3 (λw'=>w'.cell? ⟨w.heap.size,0,none⟩=some (.int .i64 low)/\w'.cell? ⟨w.heap.size,1,none⟩=some (.slice (some ⟨sb,so,none⟩) sp.length sc)/\w'.cell? ⟨w.heap.size,2,none⟩=some (.int .i64 body)/\w'.cell? ⟨w.heap.size,3,none⟩=some .nilFunc)
  (go_keep)
  (first
   |(go_at_call 205;refine(HCL.out _ _ _ _ ?_).mono ?_;(exact HSP.out _);rintro e w1 ⟨v,rfl,hown,hb1⟩;obtain⟨g,cap,rfl,hg⟩:=HFM.out _ _ _ hown;have k0:=(hb1.cell (p:=⟨w.heap.size,0,none⟩) (by simp)).trans (show _=some (Value.int .i64 low)by simp);have k1:=(hb1.cell (p:=⟨w.heap.size,1,none⟩) (by simp)).trans (show _=some (Value.slice (some ⟨sb,so,none⟩) sp.length sc)by simp);have k2:=(hb1.cell (p:=⟨w.heap.size,2,none⟩) (by simp)).trans (show _=some (Value.int .i64 body)by simp);have k3:=(hb1.cell (p:=⟨w.heap.size,3,none⟩) (by simp)).trans (show _=some Value.nilFunc by simp);have HG:=Lib.hid hg;clear hg)
   |(go_at_call 204;refine(HPF.out _ _ _ ?_).mono ?_;(exact HG.out);rintro e w2 ⟨⟨t,rfl⟩,rfl⟩))
 rw[<-Fp.out]
 obtain⟨fit,HF⟩:∃fit:Int,Hid (bD k s=fit):=⟨_,Lib.hid rfl⟩
 rw[HF.out]
 have jV:Below w.heap.size w w1:=Below.trans (((Below.refl w.heap.size w).alloc (Nat.le_refl _) _).drew) (hb1.mono (B':=w.heap.size) (by simp))
 clear hb1
 by_cases hfit:fit=0
 ·subst hfit
  go_wp2_with fail
  go_quiet (fail)
  go_wp2_with fail
  go_ret2
  exact⟨⟨_,by rw[HF.out];rfl⟩,by first|assumption|exact below_drewN' (by assumption) _⟩
 ·have hbf:(fit !=0)=true:=by simpa using hfit
  clear hfit
  go_wp2_with fail
  go_ret2
  exact⟨⟨_,by rw[HF.out];rfl⟩,jV⟩
theorem AL {w W w3:World}{bn cf:Nat}(h:Below w.heap.size w W/\w.heap.size<W.heap.size/\W.cell? ⟨w.heap.size,2,none⟩=some (.int .i64 bn)/\W.cell? ⟨w.heap.size,3,none⟩=some (.func (.func cf) #[] #[]))(hb:Below W.heap.size W w3):
 Below w.heap.size w w3/\w.heap.size<w3.heap.size/\w3.cell? ⟨w.heap.size,2,none⟩=some (.int .i64 bn)/\w3.cell? ⟨w.heap.size,3,none⟩=some (.func (.func cf) #[] #[]):=by
 obtain⟨h1,h2,h3,h4⟩:=h
 refine⟨h1.trans (hb.mono h1.size),Nat.lt_of_lt_of_le h2 hb.size,(hb.cell (p:=⟨w.heap.size,2,none⟩) h2).trans h3,(hb.cell (p:=⟨w.heap.size,3,none⟩) h2).trans h4⟩
theorem fP (k:Nat)(s:ByteArray)(h:bD k s=0):(aR k).low<=(s.size:Int)/\s.size<=(bN k).length/\∀j,j<s.size->((bN k).map (·.2)).getD j (λ_=>true) (PlainAid.bt s j)=true:=by
 unfold bD bi at h
 split at h
 ·cases h
 ·rename_i hany
  split at h
  ·cases h
  ·rename_i h1
   split at h
   ·cases h
   ·rename_i h2
    rw[List.length_map]at h2
    refine⟨by omega,by omega,λj hj=>?_⟩
    cases hq:((bN k).map (·.2)).getD j (λ_=>true) (PlainAid.bt s j)with
    |true=>rfl
    |false=>
     exfalso
     apply hany
     rw[List.any_eq_true]
     refine⟨j,by rw[List.mem_range,List.length_map];omega,?_⟩
     unfold lq
     rw[hq]
     simpa using hj
theorem AQ (k:Nat)(hk:k=0\/k=1\/k=3)(c:Int):∀j,j<(bN k).length->((bN k).map (·.2)).getD j (λ_=>true) c=true->Id.bg c=true:=by
 have key:∀p∈(bN k).map (·.2),p c=true->Id.bg c=true:=by
  intro p hp hc
  have:p=Id.letter\/p=Id.bg\/p=Id.digit:=by
   rcases hk with rfl|rfl|rfl
   ·simp[bN]at hp;rcases hp with h|h|h<;>simp[h]
   ·simp[bN]at hp;rcases hp with h|h<;>simp[h]
   ·simp[bN]at hp;rcases hp with h|h<;>simp[h]
  rcases this with rfl|rfl|rfl
  ·simp[Id.letter,Id.bg]at hc⊢;exact Or.inl hc
  ·exact hc
  ·simp[Id.digit,Id.bg]at hc⊢;exact Or.inr hc
 intro j hj h
 rw[List.getD_eq_getElem?_getD,List.getElem?_eq_getElem (by rw[List.length_map];exact hj)]at h
 exact key _ (List.getElem_mem _) h
theorem kC (k:Nat)(hk:k=0\/k=1\/k=3)(s:ByteArray)(n:Nat)(h:bD k s=0):∀c∈(s.extract 0 n).data.toList,Id.bg (c.toNat:Int)=true:=by
 obtain⟨_,h2,h3⟩:=fP k s h
 intro c hc
 have hc2:c∈s.data.toList:=by
  rw[ByteArray.data_extract,Array.toList_extract]at hc
  exact List.mem_of_mem_take (i:=n) (by simpa[List.extract_eq_take_drop]using hc)
 obtain⟨j,hj,rfl⟩:=List.getElem_of_mem hc2
 have hjs:j<s.size:=by rw[Lib.size_eq];exact hj
 have:=AQ k hk (PlainAid.bt s j) j (by omega) (h3 j hjs)
 rwa [show PlainAid.bt s j=((s.data.toList[j]'hj).toNat:Int)from(PlainAid.get_bt s j hjs).symm]at this
theorem yo (k:Nat)(hk:k<4)(cf bn:Nat)(um:(aR k).chk=.func (.func cf) #[] #[])(hbn:(aR k).body=(bn:Int))(_hbn2:bn<=64)(s:ByteArray)(w:World)(hs:s.size<=1073741824)(h:kK w)(R:ByteArray)(code:Int)(hcode:Hid (code=if bD k s≠0 then bD k s else if (R.toList==(s.extract bn s.size).toList)=true then 0 else 18))
 (ec:∀args w,(callFunc cf args).run Tryz.prog w=.ok (.enter cf args) w)
 (hck:bD k s=0->bn<=s.size/\∀W,Calls Tryz.prog cf #[.string (s.extract 0 bn)] W λe w'=>e=.returned (.string R)/\Below W.heap.size W w'):
 Calls Tryz.prog 137 #[.int .i64 k,.string s] w λe w'=>(∃t:Int,e=.returned (.tuple #[.int .i64 t,.int .i64 code]))/\Below w.heap.size w w':=by
 obtain⟨sb,so,sc,c0,c1,c2,c3,hsp⟩:=h k hk
 rw[um]at c3
 rw[hbn]at c2
 obtain⟨hl1,hl2⟩:=nR k
 have hk4:(k:Int)<4:=by omega
 have htot:(bV (aR k).sp).length<=20:=by rw[iX k hk,List.length_map];exact fM k
 have HCL:=Lib.hid (λ(a b:Int) (chk:Value) (W:World) (hW:dW W sb so (aR k).sp)=>lM a b chk sb so sc (aR k).sp W hW (by omega) (by omega) (λx hx=>by have:=hl2 x hx;omega))
 have HPF:=Lib.hid (λ(g cap:Nat) (W:World) (hW:∀(j:Nat) x,(bN k)[j]? =some x->W.cell? ⟨g,j,none⟩=some (.func (.func x.1) #[] #[]))=>
  zx (bN k) (oI k) g cap (aR k).low s W hs (by have:=fM k;omega) (mZ k).1 (by have:=(mZ k).2;omega) hW)
 have HSP:Hid (∀o,dW (w.alloc o) sb so (aR k).sp):=Lib.hid λo=>hsp.below ((Below.refl _ w).alloc (Nat.le_refl _) o)
 have HFM:=Lib.hid (λ(W:World) (v:Value) (B:Nat)=>vQ (W:=W) (B:=B) (v:=v) hk)
 have Fp:Hid (bD k s=bi ((bN k).map (·.2)) (aR k).low s):=rfl
 have HCK:=Lib.hid hck
 clear hsp um hl1 hl2 htot h hck
 generalize (aR k).low=low at *
 generalize (aR k).body=body at *
 generalize (aR k).sp=sp at *
 subst hbn
 go_enter Tryz.func137,Tryz.ntmps137
 go_wp2_with fail
 go_region_held3 (λw'=>w'.cell? ⟨w.heap.size,0,none⟩=some (.int .i64 low)/\w'.cell? ⟨w.heap.size,1,none⟩=some (.slice (some ⟨sb,so,none⟩) sp.length sc)/\w'.cell? ⟨w.heap.size,2,none⟩=some (.int .i64 bn)/\w'.cell? ⟨w.heap.size,3,none⟩=some (.func (.func cf) #[] #[]))
  (go_keep)
  (first
   |(go_at_call 205;refine(HCL.out _ _ _ _ ?_).mono ?_;(exact HSP.out _);rintro e w1 ⟨v,rfl,hown,hb1⟩;obtain⟨g,cap,rfl,hg⟩:=HFM.out _ _ _ hown;have k0:=(hb1.cell (p:=⟨w.heap.size,0,none⟩) (by simp)).trans (show _=some (Value.int .i64 low)by simp);have k1:=(hb1.cell (p:=⟨w.heap.size,1,none⟩) (by simp)).trans (show _=some (Value.slice (some ⟨sb,so,none⟩) sp.length sc)by simp);have k2:=(hb1.cell (p:=⟨w.heap.size,2,none⟩) (by simp)).trans (show _=some (Value.int .i64 bn)by simp);have k3:=(hb1.cell (p:=⟨w.heap.size,3,none⟩) (by simp)).trans (show _=some (Value.func (.func cf) #[] #[])by simp);have HG:=Lib.hid hg;clear hg)
   |(go_at_call 204;refine(HPF.out _ _ _ ?_).mono ?_;(exact HG.out);rintro e w2 ⟨⟨t,rfl⟩,rfl⟩))
 rw[<-Fp.out]
 obtain⟨fit,HF⟩:∃fit:Int,Hid (bD k s=fit):=⟨_,Lib.hid rfl⟩
 rw[HF.out]
 have jV:Below w.heap.size w w1:=Below.trans (((Below.refl w.heap.size w).alloc (Nat.le_refl _) _).drew) (hb1.mono (B':=w.heap.size) (by simp))
 have hsz1:w.heap.size<w1.heap.size:=by have:=hb1.size;simp at this;omega
 clear hb1
 by_cases hfit:fit=0
 ·subst hfit
  obtain⟨hbs,hck⟩:=HCK.out HF.out
  have HCK2:=Lib.hid hck
  clear hck
  have hbs0:(bn:Int)<=(s.size:Int):=by omega
  go_wp2_with fail
  go_region_held3 (λw'=>Below w.heap.size w w'/\w.heap.size<w'.heap.size/\w'.cell? ⟨w.heap.size,2,none⟩=some (.int .i64 bn)/\w'.cell? ⟨w.heap.size,3,none⟩=some (.func (.func cf) #[] #[]))
   (first|assumption|exact Below.drew (by assumption)|(refine⟨?_,?_,?_,?_⟩<;>first|assumption|exact Below.drew (by assumption)|go_keep)|go_keep)
   (first
    |(go_at_fn cf;refine(HCK2.out _).mono ?_;rintro e w3 ⟨rfl,hb3⟩;have E9:=AL (by assumption) hb3))
  obtain⟨hb4,hsz4,k4,k5⟩:=E9
  clear hb3
  generalize hq:(R.toList==(s.extract bn s.size).toList)=q
  have HQ:Hid (code=if q=true then 0 else 18):=Lib.hid (by rw[hcode.out,HF.out,if_neg (by simp),hq])
  clear hq
  cases q with
  |true=>
   go_wp2_with fail
   go_ret2
   rw[HQ.out]
   exact⟨⟨_,rfl⟩,hb4⟩
  |false=>
   go_wp2_with fail
   go_ret2
   rw[HQ.out]
   exact⟨⟨_,rfl⟩,hb4⟩
 ·have hbf:(fit !=0)=true:=by simpa using hfit
  have HNE:=Lib.hid hfit
  clear hfit
  go_wp2_with fail
  go_ret2
  rw[hcode.out,HF.out,if_pos HNE.out]
  exact⟨⟨_,rfl⟩,jV⟩
theorem toList_mk (l:List UInt8):(⟨l.toArray⟩:ByteArray).toList=l:=by rw[Lib.toList_data]
theorem yG (s:ByteArray)(a:Nat):(s.extract a s.size).toList=s.data.toList.drop a:=by
 rw[Lib.toList_data,ByteArray.data_extract,Array.toList_extract]
 rw[List.extract_eq_take_drop]
 exact List.take_of_length_le (by rw[List.length_drop,<-Lib.size_eq];exact Nat.le_refl _)
theorem extract_upto (s:ByteArray)(a:Nat):(s.extract 0 a).data.toList=s.data.toList.take a:=by
 rw[ByteArray.data_extract,Array.toList_extract]
 simp[List.extract_eq_take_drop]
theorem LU (k:Nat)(hk:k<3)(s:ByteArray)(w:World)(hs:s.size<=1048576)(h:kK w):
 Calls Tryz.prog 137 #[.int .i64 k,.string s] w λe w'=>(∃t:Int,e=.returned (.tuple #[.int .i64 t,.int .i64 (aS k s)]))/\Below w.heap.size w w':=by
 match k,hk with
 |0,_=>
  refine yo 0 (by decide) 343 11 rfl rfl (by omega) s w (by omega) h ⟨(Id.IR (s.data.toList.take 11)).toArray⟩ (aS 0 s) (Lib.hid ?_) (enters_of Tryz.func343 (by kernel_rfl) rfl) (λh0=>⟨?_,λW=>(Ij _ W ?_ (kC 0 (Or.inl rfl) s 11 h0)).mono ?_⟩)
  ·unfold aS
   rw[toList_mk,yG]
   simp only[if_pos,beq_iff_eq]
  ·have:=(fP 0 s h0).1
   simp[aR]at this;omega
  ·have:(s.extract 0 11).size<=s.size:=by simp[ByteArray.size_extract];omega
   omega
  ·rintro e w' ⟨rfl,hb⟩
   rw[extract_upto]
   exact⟨rfl,hb⟩
 |1,_=>
  have e1:aS 1 s=bD 1 s:=by unfold aS;split<;>simp_all
  rw[e1]
  exact rQ 1 (by decide) rfl s w (by omega) h
 |2,_=>
  have e1:aS 2 s=bD 2 s:=by unfold aS;split<;>simp_all
  rw[e1]
  exact rQ 2 (by decide) rfl s w (by omega) h
theorem vY (k:Nat)(s:ByteArray)(w:World)(x:Int)(b:Bool)(hb:(x==0)=b)
 (n1:Calls Tryz.prog 137 #[.int .i64 k,.string s] w λe w'=>(∃t:Int,e=.returned (.tuple #[.int .i64 t,.int .i64 x]))/\Below w.heap.size w w'):
 Calls Tryz.prog 80 #[.int .i64 k,.string s] w λe w'=>e=.returned (.bool b)/\Below w.heap.size w w':=by
 go_enter Tryz.func80,Tryz.ntmps80
 go_wp2_with fail
 refine n1.mono ?_
 rintro e w' ⟨⟨t,rfl⟩,hb2⟩
 clear n1
 go_wp2_with fail
 go_ret
 exact⟨by simp,hb2⟩
theorem LC (k:Nat)(hk:k<3)(s:ByteArray)(w:World)(hs:s.size<=1048576)(h:kK w):
 Calls Tryz.prog 80 #[.int .i64 k,.string s] w λe w'=>e=.returned (.bool (aS k s==0))/\Below w.heap.size w w':=
 vY k s w _ _ rfl (LU k hk s w hs h)
end Go.Proofs.YtnjjeapcalkmaaaGreatDoor
namespace Go.Proofs.YtnjjeapcalkmaaaGreatDoor.Ord
open Go
section
variable {P : Program} {ops : Array Oper} {Q : Exit → Act → World → Prop} {S : Bool → World → Prop} {k0 : Nat}
def Gives (P:Program)(S:World->Prop)(v:Value):Result Next->Prop
 | .ok (.value u) w=>u=v/\S w
 | .ok .skip w=>v=undef/\S w
 | .ok (.enter f args) w=>Calls P f args w λe w'=>e=.returned v/\S w'
 |_=>False
def ah (P:Program)(ops:Array Oper)(S T:World->Prop)(o:Oper)(v:Value)(a:Act):Prop:=
 (Region.wanted o (yielded ops a.tmps)=true/\∀w,S w->Gives P T v ((execOp a.eval o).run P w))\/
 (Region.wanted o (yielded ops a.tmps)=false/\v=undef/\∀w,S w->T w)
theorem ah.wpOp {S T:World->Prop}{i:Nat}{o:Oper}{v:Value}{a:Act}(hi:ops[i]? =some o)(hy:ah P ops S T o v a)
 {K:Act->World->Prop} {w:World} (hS:S w) (h:∀w',T w'->K (a.put o.dst v) w'):wpOp P ops Q i K a w:=by
 unfold Go.wpOp
 simp only[hi]
 rcases hy with⟨hw,hv⟩|⟨hw,rfl,ht⟩
 ·simp only[hw,if_true]
  refine .inl ?_
  have hg:=hv w hS
  unfold Oper.wp
  generalize (execOp a.eval o).run P w=r at hg
  unfold Gives at hg
  split at hg
  ·obtain⟨rfl,hs⟩:=hg
   exact h _ hs
  ·obtain⟨rfl,hs⟩:=hg
   exact h _ hs
  ·refine Calls.mono hg ?_
   rintro e w' ⟨rfl,hs⟩
   exact h _ hs
  ·exact hg.elim
 ·simp only[hw,Bool.false_eq_true,if_false];exact h w (ht w hS)
def ig (P:Program)(ops:Array Oper)(Q:Exit->Act->World->Prop)(S:Bool->World->Prop)(k0:Nat):Nat->List Oper->Act->Prop
 |k,[],a=>∀w,S (decide (k0<k)) w->Q .normal a w
 |k,o::rest,a=>∃v,(∀b,(k=k0->b=false)->ah P ops (S b) (S (b||decide (k=k0))) o v a)/\ig P ops Q S k0 (k+1) rest (a.put o.dst v)
def eU (ops:Array Oper):Bool:=(List.range ops.size).all λi=>match ops[i]? with
 |none=>true
 |some oi=>(oi.after.all λe=>!Region.binds .any e||decide (e.on<i))&&(List.range ops.size).all λj=>j==i||match ops[j]? with
  |none=>true
  |some oj=>match oj.dst with
   |none=>true
   |some d=>!(oi.dst==some d)&&(!(oi.looksAt ops).contains d||oi.after.any λe=>Region.binds .any e&&e.on==j)
theorem ek (h:eU ops=true){i:Nat}{oi:Oper}(hi:ops[i]? =some oi){e:Edge}(he:e∈oi.after)(hb:Region.binds .any e=true):e.on<i:=by
 have hlt:i<ops.size:=(Array.getElem?_eq_some_iff.1 hi).1
 have h1:=List.all_eq_true.1 h i (List.mem_range.2 hlt)
 rw[hi]at h1
 simp only[Bool.and_eq_true]at h1
 have h2:=Array.all_eq_true_iff_forall_mem.1 h1.1 e he
 simpa[hb]using h2
theorem tL (h:eU ops=true){i j:Nat}{oi oj:Oper}(hi:ops[i]? =some oi)(hj:ops[j]? =some oj)(hne:j≠i){d:Tmp}(hd:oj.dst=some d):
 oi.dst≠some d/\(d∈oi.looksAt ops->∃e∈oi.after,Region.binds .any e=true/\e.on=j):=by
 have hlt:i<ops.size:=(Array.getElem?_eq_some_iff.1 hi).1
 have hlt2:j<ops.size:=(Array.getElem?_eq_some_iff.1 hj).1
 have h1:=List.all_eq_true.1 h i (List.mem_range.2 hlt)
 rw[hi]at h1
 simp only[Bool.and_eq_true]at h1
 have h2:=List.all_eq_true.1 h1.2 j (List.mem_range.2 hlt2)
 rw[hj]at h2
 simp only[hd,Bool.or_eq_true,beq_iff_eq,hne,false_or,Bool.and_eq_true,Bool.not_eq_true',beq_eq_false_iff_ne]at h2
 refine⟨h2.1,λhm=>?_⟩
 rcases h2.2 with h3|h3
 ·have:(oi.looksAt ops).contains d=true:=by simpa using hm
  rw[this]at h3;cases h3
 ·obtain⟨e,he,hb⟩:=Array.any_eq_true'.1 h3
  simp only[Bool.and_eq_true,beq_iff_eq]at hb
  exact⟨e,he,hb.1,hb.2⟩
structure At (ops:Array Oper)(a0:Act)(vs:Nat->Value)(L:Nat->Prop)(a:Act):Prop where
 defers:a.defers=a0.defers
 size:a.tmps.size=a0.tmps.size
 done:∀i o d,ops[i]? =some o->L i->o.dst=some d->d<a0.tmps.size->a.tmps[d]? =some (vs i)
 rest:∀d:Nat,(∀i o,ops[i]? =some o->L i->o.dst≠some d)->a.tmps[d]? =a0.tmps[d]?
theorem At.put {a0 a:Act}{vs:Nat->Value}{L L':Nat->Prop}(hd:eU ops=true)(h:At ops a0 vs L a){i:Nat}{o:Oper}(hi:ops[i]? =some o)(hn:¬L i)(hL:∀j,L' j↔(L j\/j=i)):At ops a0 vs L' (a.put o.dst (vs i)):=by
 cases hdst:o.dst with
 |none=>
  refine⟨h.defers,h.size,λk ok d hk hLk hkd hlt=>?_,λd hall=>h.rest d λk ok hk hLk=>hall k ok hk ((hL k).2 (.inl hLk))⟩
  rcases(hL k).1 hLk with h1|rfl
  ·exact h.done k ok d hk h1 hkd hlt
  ·rw[hi]at hk;cases hk;rw[hdst]at hkd;cases hkd
 |some e=>
  refine⟨h.defers,by simpa[Act.put]using h.size,λk ok d hk hLk hkd hlt=>?_,λd hall=>?_⟩
  ·rcases(hL k).1 hLk with h1|rfl
   ·have hki:i≠k:=λe=>hn (e▸h1)
    have hne:e≠d:=λAf=>by
     subst Af
     exact(tL hd hk hi hki hdst).1 hkd
    show(a.tmps.setIfInBounds e (vs i))[d]? =_
    rw[Array.getElem?_setIfInBounds_ne hne]
    exact h.done k ok d hk h1 hkd hlt
   ·rw[hi]at hk;cases hk
    rw[hdst]at hkd;cases hkd
    show(a.tmps.setIfInBounds e (vs k))[e]? =_
    rw[Array.getElem?_setIfInBounds_self,if_pos (by rw[h.size];exact hlt)]
  ·have hne:e≠d:=λAf=>hall i o hi ((hL i).2 (.inr rfl)) (by rw[hdst,Af])
   show(a.tmps.setIfInBounds e (vs i))[d]? =_
   rw[Array.getElem?_setIfInBounds_ne hne]
   exact h.rest d λk ok hk hLk=>hall k ok hk ((hL k).2 (.inl hLk))
theorem At.unique {a0 a b:Act}{vs:Nat->Value}{L:Nat->Prop}(h:At ops a0 vs L a)(k:At ops a0 vs L b):a=b:=by
 have ht:a.tmps=b.tmps:=by
  apply Array.ext_getElem?
  intro d
  by_cases hd:∃i o,ops[i]? =some o/\L i/\o.dst=some d
  ·obtain⟨i,o,ho,hL,hod⟩:=hd
   by_cases hlt:d<a0.tmps.size
   ·rw[h.done i o d ho hL hod hlt,k.done i o d ho hL hod hlt]
   ·rw[Array.getElem?_eq_none (by rw[h.size];omega),Array.getElem?_eq_none (by rw[k.size];omega)]
  ·have hall:∀i o,ops[i]? =some o->L i->o.dst≠some d:=λi o ho hL he=>hd ⟨i,o,ho,hL,he⟩
   rw[h.rest d hall,k.rest d hall]
 obtain⟨t,f⟩:=a
 obtain⟨t',f'⟩:=b
 have e1:=h.defers
 have e2:=k.defers
 simp only at e1 e2 ht
 rw[ht,e1,e2]
theorem At.same {a0 a b:Act}{vs:Nat->Value}{L M:Nat->Prop}(hd:eU ops=true)(h:At ops a0 vs L a)(k:At ops a0 vs M b){i:Nat}{o:Oper}(hi:ops[i]? =some o)(hL:¬L i)(hM:¬M i)
 (h1:∀e∈o.after,Region.binds .any e=true->L e.on/\M e.on) {d:Tmp} (om:d∈o.looksAt ops):a.tmps[d]? =b.tmps[d]?:=by
 by_cases hx:∃j oj,ops[j]? =some oj/\oj.dst=some d/\j≠i
 ·obtain⟨j,oj,hj,hjd,hji⟩:=hx
  obtain⟨e,he,hb,rfl⟩:=(tL hd hi hj hji hjd).2 om
  obtain⟨hl,hm⟩:=h1 e he hb
  by_cases hlt:d<a0.tmps.size
  ·rw[h.done _ oj d hj hl hjd hlt,k.done _ oj d hj hm hjd hlt]
  ·rw[Array.getElem?_eq_none (by rw[h.size];exact Nat.le_of_not_lt hlt),Array.getElem?_eq_none (by rw[k.size];exact Nat.le_of_not_lt hlt)]
 ·have h2:∀j oj,ops[j]? =some oj->L j->oj.dst≠some d:=λj oj hj Sk he=>hx ⟨j,oj,hj,he,λe=>hL (e▸Sk)⟩
  have h3:∀j oj,ops[j]? =some oj->M j->oj.dst≠some d:=λj oj hj hMj he=>hx ⟨j,oj,hj,he,λe=>hM (e▸hMj)⟩
  rw[h.rest d h2,k.rest d h3]
theorem ah.of_looks {S T:World->Prop}{o:Oper}{v:Value}{a b:Act}(hs:∀cs b,o.op≠.select cs b)(hy:ah P ops S T o v a)(h:∀d∈o.looksAt ops,a.tmps[d]? =b.tmps[d]?):ah P ops S T o v b:=by
 have e1:execOp b.eval o=execOp a.eval o:=execOp_congr o hs λx hx=>by
  cases x with
  |tmp t=>
   have:=h t (List.mem_append_left _ (List.mem_filterMap.2 ⟨.tmp t,by simpa using hx,rfl⟩))
   simp only[Act.eval,Array.getD_eq_getD_getElem?,this]
  |const v=>rfl
  |global g=>rfl
  |func f=>rfl
 have e2:Region.wanted o (yielded ops b.tmps)=Region.wanted o (yielded ops a.tmps):=by
  unfold Region.wanted
  cases hg:o.guard with
  |none=>rfl
  |some gw=>
   obtain⟨g,want⟩:=gw
   have hyd:yielded ops b.tmps g=yielded ops a.tmps g:=by
    unfold yielded
    cases ht:(ops[g]?).bind (·.dst)with
    |none=>rfl
    |some t=>
     have:=h t (by simp[Oper.looksAt,hg,ht])
     show(match b.tmps[t]? with|some (.bool x)=>some x|_=>none)=(match a.tmps[t]? with|some (.bool x)=>some x|_=>none)
     rw[this]
   simp only[hyd]
 unfold ah at *
 rw[e1,e2]
 exact hy
theorem oU:∀(l:List Oper) (k:Nat) (a:Act),ops.toList.drop k=l->k<=ops.size->ig P ops Q S k0 k l a->
 ∃(vs:Nat->Value) (acts:Nat->Act),acts k=a/\(∀i o,k<=i->ops[i]? =some o->(∀b,(i=k0->b=false)->ah P ops (S b) (S (b||decide (i=k0))) o (vs i) (acts i))/\acts (i+1)=(acts i).put o.dst (vs i))/\∀w,S (decide (k0<ops.size)) w->Q .normal (acts ops.size) w
 |[],k,a,hk,hks,h=>by
  have hle:=List.drop_eq_nil_iff.1 hk
  simp at hle
  have he:k=ops.size:=by omega
  refine⟨λ_=>undef,λ_=>a,rfl,λi o hi ho=>?_,?_⟩
  ·exfalso
   have hlt:i<ops.size:=(Array.getElem?_eq_some_iff.1 ho).1
   omega
  ·rw[<-he];exact h
 |o::rest,k,a,hk,hks,⟨v,hy,h⟩=>by
  have hko:ops[k]? =some o:=by
   have h2:(ops.toList.drop k)[0]? =some o:=by rw[hk];rfl
   rw[List.getElem?_drop]at h2
   simpa using h2
  have Gd:k<ops.size:=(Array.getElem?_eq_some_iff.1 hko).1
  have hkr:ops.toList.drop (k+1)=rest:=by
   rw[<-List.drop_drop,hk];rfl
  obtain⟨vs,acts,h1,h2,h3⟩:=oU rest (k+1) _ hkr Gd h
  refine⟨λi=>if i=k then v else vs i,λi=>if i=k then a else acts i,by simp,λi oi hi hoi=>?_,λw hw=>?_⟩
  ·by_cases hik:i=k
   ·subst hik
    rw[hko]at hoi;cases hoi
    simp only[if_true,if_neg (Nat.succ_ne_self i)]
    exact⟨hy,h1⟩
   ·have:=h2 i oi (by omega) hoi
    simp only[if_neg hik,if_neg (show¬i+1=k from by omega)]
    exact this
  ·have:=h3 w hw
   simp only[if_neg (show¬ops.size=k from by omega)]
   exact this
theorem iK {p q:Nat->Bool}(hle:∀i,q i=true->p i=true):∀(l:List Nat) (i:Nat),i∈l->p i=true->q i=false->l.countP q<l.countP p
 |[],_,h,_,_=>by cases h
 |x::l,i,h,hp,hq=>by
  have hmono:l.countP q<=l.countP p:=List.countP_mono_left λx _ hx=>hle x hx
  rcases List.mem_cons.1 h with rfl|h
  ·rw[List.countP_cons_of_neg (by simp[hq]),List.countP_cons_of_pos hp];omega
  ·have ih:=iK hle l i h hp hq
   rw[List.countP_cons,List.countP_cons]
   cases hqx:q x with
   |false=>cases p x<;>simp<;>omega
   |true=>rw[hle x hqx];simp;omega
theorem GK {a0:Act}{vs:Nat->Value}{acts:Nat->Act}(hd:eU ops=true)(hs:Region.noSelect ops=true)(h0:acts 0=a0)
 (hv:∀i o,ops[i]? =some o->(∀b,(i=k0->b=false)->ah P ops (S b) (S (b||decide (i=k0))) o (vs i) (acts i))/\acts (i+1)=(acts i).put o.dst (vs i)) (hQ:∀w,S (decide (k0<ops.size)) w->Q .normal (acts ops.size) w):
 ∀(fuel:Nat) (listed:Array Bool) (a:Act) (w:World),listed.size=ops.size->At ops a0 vs (λi=>listed.getD i false=true) a->S (listed.getD k0 false) w->(List.range ops.size).countP (λi=>!listed.getD i true)<=fuel->
  wpAny P .any ops Q fuel listed a w:=by
 have hat:∀k,k<=ops.size->At ops a0 vs (λi=>i<k) (acts k):=by
  intro k
  induction k with
  |zero=>
   intro _
   rw[h0]
   exact⟨rfl,rfl,λ_ _ _ _ h=>absurd h (Nat.not_lt_zero _),λ_ _=>rfl⟩
  |succ k ih=>
   intro hk
   obtain⟨o,ho⟩:∃o,ops[k]? =some o:=⟨_,Array.getElem?_eq_getElem (by omega)⟩
   rw[(hv k o ho).2]
   exact(ih (by omega)).put hd ho (Nat.lt_irrefl k) (λj=>by omega)
 have hall:∀(listed:Array Bool),listed.size=ops.size->Region.ready .any ops listed=[]->∀i,i<ops.size->listed.getD i false=true:=by
  intro listed hsz hr i
  induction i using Nat.strongRecOn with
  |ind i ih=>
   intro hi
   obtain⟨o,ho⟩:∃o,ops[i]? =some o:=⟨_,Array.getElem?_eq_getElem hi⟩
   cases hb:listed.getD i false with
   |true=>rfl
   |false=>
    exfalso
    have hmem:i∈Region.ready .any ops listed:=by
     rw[mem_ready]
     refine⟨?_,o,ho,λe he hbd=>?_⟩
     ·have:i<listed.size:=by omega
      simp[this]at hb⊢
      exact hb
     ·have hlt:=ek hd ho he hbd
      exact ih e.on hlt (by omega)
    rw[hr]at hmem
    cases hmem
 have hend:∀(listed:Array Bool) (a:Act) (w:World),listed.size=ops.size->At ops a0 vs (λi=>listed.getD i false=true) a->S (listed.getD k0 false) w->Region.ready .any ops listed=[]->Q .normal a w:=by
  intro listed a w hsz hA hS hr
  have h1:=hall listed hsz hr
  have hA2:At ops a0 vs (λi=>i<ops.size) a:=by
   refine⟨hA.defers,hA.size,λi o d ho hi=>hA.done i o d ho (h1 i hi),λd hn=>hA.rest d λi o ho _=>hn i o ho (Array.getElem?_eq_some_iff.1 ho).1⟩
  rw[hA2.unique (hat ops.size (Nat.le_refl _))]
  refine hQ w ?_
  have e1:decide (k0<ops.size)=listed.getD k0 false:=by
   by_cases hk:k0<ops.size
   ·rw[h1 k0 hk,decide_eq_true hk]
   ·have:¬k0<listed.size:=by omega
    rw[decide_eq_false hk]
    simp[this]
  rw[e1]
  exact hS
 intro fuel
 induction fuel with
 |zero=>
  intro listed a w hsz hA hS hc
  have hr:Region.ready .any ops listed=[]:=by
   cases hr:Region.ready .any ops listed with
   |nil=>rfl
   |cons x xs=>
    exfalso
    have hx:x∈Region.ready .any ops listed:=by rw[hr];exact List.mem_cons_self
    obtain⟨h1,o,ho,_⟩:=mem_ready.1 hx
    have hlt:x<ops.size:=(Array.getElem?_eq_some_iff.1 ho).1
    have:0<(List.range ops.size).countP (λi=>!listed.getD i true):=List.countP_pos_iff.2 ⟨x,List.mem_range.2 hlt,by rw[h1];rfl⟩
    omega
  exact⟨hr,hend listed a w hsz hA hS hr⟩
 |succ fuel ih=>
  intro listed a w hsz hA hS hc
  refine⟨hend listed a w hsz hA hS,λi hi=>?_⟩
  obtain⟨hun,o,ho,hafter⟩:=mem_ready.1 hi
  have hlt:i<ops.size:=(Array.getElem?_eq_some_iff.1 ho).1
  have hsel:=λcs b=>Region.noSelect_spec hs i o cs b ho
  have hnl:¬listed.getD i false=true:=by
   have:i<listed.size:=by omega
   simp[this]at hun⊢
   exact hun
  have T9:i=k0->listed.getD k0 false=false:=λe=>by
   subst e
   cases hb:listed.getD i false with
   |false=>rfl
   |true=>exact absurd hb hnl
  have hy:ah P ops (S (listed.getD k0 false)) (S (listed.getD k0 false||decide (i=k0))) o (vs i) a:=((hv i o ho).1 _ T9).of_looks hsel λd hdl=>
   (hat i (by omega)).same hd hA ho (Nat.lt_irrefl i) hnl (λe he hb=>⟨ek hd ho he hb,hafter e he hb⟩) hdl
  have uo:(listed.setIfInBounds i true).getD k0 false=(listed.getD k0 false||decide (i=k0)):=by
   by_cases hik:i=k0
   ·subst hik
    have:i<listed.size:=by omega
    simp[this]
   ·rw[getD_set_ne false hik,decide_eq_false hik,Bool.or_false]
  refine hy.wpOp ho hS λw' hS'=>ih (listed.setIfInBounds i true) _ w' (by simpa using hsz) ?_ (by rw[uo];exact hS') ?_
  ·refine hA.put hd ho hnl λj=>?_
   by_cases hij:i=j
   ·subst hij
    have:i<listed.size:=by omega
    simp[this]
   ·rw[getD_set_ne false hij]
    constructor
    ·exact .inl
    ·rintro(h|rfl)
     ·exact h
     ·exact absurd rfl hij
  ·have:=iK (p:=λi=>!listed.getD i true) (q:=λj=>!(listed.setIfInBounds i true).getD j true) (λj hj=>by
    by_cases hij:i=j
    ·subst hij;simp only[hun];rfl
    ·rw[getD_set_ne true hij]at hj;exact hj) (List.range ops.size) i (List.mem_range.2 hlt) (by simp only[hun];rfl) (by
     have:i<listed.size:=by omega
     simp[this])
   omega
theorem gH {id:Nat}{a:Act}{w:World}(S:Bool->World->Prop)(k0:Nat)(hm:P.follows .mixedOrders=true)(hd:eU ops=true)(hs:Region.noSelect ops=true)(hS:S false w.drew)(h:ig P ops Q S k0 0 ops.toList a):(Code.region id ops true).wp P Q a w:=by
 obtain⟨vs,acts,h1,h2,h3⟩:=oU (ops:=ops) ops.toList 0 a rfl (Nat.zero_le _) h
 refine wp_region_any hm (GK hd hs h1 (λi o ho=>h2 i o (Nat.zero_le _) ho) h3 ops.size _ a _ (by simp) ?_ ?_ ?_)
 ·refine⟨rfl,rfl,λi o d ho hL=>?_,λ_ _=>rfl⟩
  exfalso
  have hlt:i<ops.size:=(Array.getElem?_eq_some_iff.1 ho).1
  simp[hlt]at hL
 ·have e:(Array.replicate ops.size false).getD k0 false=false:=by
   by_cases hk:k0<ops.size
   ·simp[hk]
   ·simp[hk]
  rw[e]
  exact hS
 ·have:=List.countP_le_length (p:=λi=>!(Array.replicate ops.size false).getD i true) (l:=List.range ops.size)
  simpa using this
theorem aP {v:Value}{k:Nat}{o:Oper}{rest:List Oper}{a:Act}(hg:o.guard=none)(hk:decide (k=k0)=false)
 (h1:∀w,(execOp a.eval o).run P w=.ok (.value v) w) (h2:∀K:Act->Prop,(∀a',ig P ops Q S k0 (k+1) rest a'->K a')->K (a.put o.dst v)):ig P ops Q S k0 k (o::rest) a:=by
 refine⟨v,λb _=>.inl ⟨by simp[Region.wanted,hg],λw hS=>?_⟩,h2 _ (λ_ h=>h)⟩
 rw[h1 w,hk,Bool.or_false]
 exact⟨rfl,hS⟩
theorem jL {v:Value}{k:Nat}{o:Oper}{rest:List Oper}{a:Act}(hg:o.guard=none)(hk:decide (k=k0)=false)
 (h1:∀b w,S b w->(execOp a.eval o).run P w=.ok (.value v) w) (h2:∀K:Act->Prop,(∀a',ig P ops Q S k0 (k+1) rest a'->K a')->K (a.put o.dst v)):ig P ops Q S k0 k (o::rest) a:=by
 refine⟨v,λb _=>.inl ⟨by simp[Region.wanted,hg],λw hS=>?_⟩,h2 _ (λ_ h=>h)⟩
 rw[h1 b w hS,hk,Bool.or_false]
 exact⟨rfl,hS⟩
theorem Gl {k:Nat}{o:Oper}{rest:List Oper}{a:Act}(hg:o.guard=none)(hk:k=k0)
 (h:∀w,S false w->∃w',(execOp a.eval o).run P w=.ok .skip w'/\S true w') (h2:ig P ops Q S k0 (k+1) rest (a.put o.dst undef)):ig P ops Q S k0 k (o::rest) a:=by
 refine⟨undef,λb hb=>.inl ⟨by simp[Region.wanted,hg],λw hS=>?_⟩,h2⟩
 obtain rfl:=hb hk
 obtain⟨w',h3,h4⟩:=h w hS
 rw[h3,decide_eq_true hk]
 exact⟨rfl,h4⟩
theorem gu {k:Nat}{o:Oper}{rest:List Oper}{a:Act}(hgd:o.guard=none)(hk:k=k0)(ty:TypeId)(x y:Operand)(ho:o.op=.store ty x y)(hdst:o.dst=none)
 (g:Nat) (cells:Array Value) (hx:a.eval x=.pointer (some ⟨g,0,none⟩)) (hy:a.eval y=.agg cells)
 (t:TypeId) (old:Array Value) (hg:∀w,S false w->w.heap[g]? =some (.cells old t (0,0))) (hi:(P.info? ty).map (·.size)=some cells.size)
 (hold:old.size=cells.size) (h1:cells.all (·.oneCell')=true) (hT:∀w,S false w->S true (w.setRow g cells)) (h2:ig P ops Q S k0 (k+1) rest a):ig P ops Q S k0 k (o::rest) a:=by
 refine Gl hgd hk (λw hS=>⟨w.setRow g cells,?_,hT w hS⟩) (by rw[hdst];exact h2)
 unfold execOp
 simp only[ho,hx,hy,Instr.storeAt,Instr.sureAddr,Sem.run_bind,Sem.run_pure,Result.andThen_ok,run_storeVar_row w g t ty old cells (hg w hS) hi hold h1]
theorem rF {k:Nat}{a:Act}(h:∀w,S (decide (k0<k)) w->Q .normal a w):ig P ops Q S k0 k [] a:=h
end
def YB (P:Program)(S:World->Prop)(ρ:Operand->Value)(o:Oper)(v:Value):Prop:=∀w,S w->Gives P S v ((execOp ρ o).run P w)
def iB (vs:List Value)(o:Oper):Bool:=match o.guard with
 |none=>true
 |some (j,want)=>match vs[j]? with
  |some (.bool b)=>b==want
  |_=>false
def YV (P:Program)(S:World->Prop)(ρ:Operand->Value)(vs:List Value)(o:Oper)(v:Value):Prop:=(iB vs o=true->YB P S ρ o v)/\(iB vs o=false->v=undef)
def ji (P:Program)(S:World->Prop)(ρ:Operand->Value)(vs:List Value):List Oper->List Value->Prop
 |o::l,v::m=>YV P S ρ vs o v/\ji P S ρ vs l m
 |_,_=>True
def cO (ρ:Operand->Value):List Oper->List Value->Prop
 |o::l,v::m=>(match o.dst with|some d=>ρ (.tmp d)=v|none=>True)/\cO ρ l m
 |_,_=>True
theorem ji.get {P:Program}{S:World->Prop}{ρ:Operand->Value}{vs:List Value}:∀{l:List Oper} {m:List Value} (i:Nat) (o:Oper) (v:Value),ji P S ρ vs l m->l[i]? =some o->m[i]? =some v->YV P S ρ vs o v
 |[],_,i,o,v,_,h,_=>by simp at h
 |_::_,[],i,o,v,_,_,h=>by simp at h
 |_::_,_::_,0,o,v,h,h1,h2=>by simp at h1 h2;subst h1;subst h2;exact h.1
 |_::_,_::_,i+1,o,v,h,h1,h2=>ji.get i o v h.2 (by simpa using h1) (by simpa using h2)
theorem cO.intro {ρ:Operand->Value}:∀{l:List Oper} {m:List Value},(∀(i:Nat) (o:Oper) (v:Value) (d:Tmp),l[i]? =some o->m[i]? =some v->o.dst=some d->ρ (.tmp d)=v)->cO ρ l m
 |[],_,_=>trivial
 |_::_,[],_=>trivial
 |o::l,v::m,h=>⟨by cases hd:o.dst with|none=>trivial|some d=>exact h 0 o v d rfl rfl hd,cO.intro λi o v d h1 h2 h3=>h (i+1) o v d (by simpa using h1) (by simpa using h2) h3⟩
section
variable {P : Program} {ops : Array Oper} {Q : Exit → Act → World → Prop} {S : World → Prop}
def bZ (ops:Array Oper)(nt:Nat):Bool:=(ops.toList.all λ(o:Oper)=>match o.dst with|some d=>decide (d<nt)|none=>true)&&
 (List.range ops.size).all λi=>match ops[i]? with
  |some o=>(match o.guard with|some (j,_)=>decide (j<i)&&((ops[j]?).bind (·.dst)).isSome|none=>true)&&(match o.dst with|some d=>!(o.looksAt ops).contains d|none=>true)
  |none=>true
def sK (ops:Array Oper)(n:Nat):Bool:=
 ((List.range n).all λj=>(ops.toList.take (n+1)).any λ(o:Oper)=>o.after.any λe=>Region.binds .any e&&e.on==j)&&
 (List.range (ops.size-n)).all λk=>match ops[n+k+1]? with
  |some o=>o.after.any λe=>Region.binds .any e&&e.on==n+k
  |none=>true
theorem vX {n:Nat}(ht:sK ops n=true)(hd:eU ops=true)(hn:n<ops.size){L:Nat->Prop}(hcl:∀(i:Nat) (o:Oper),ops[i]? =some o->L i->∀e∈o.after,Region.binds .any e=true->L e.on){i:Nat}{o:Oper}(hi:ops[i]? =some o)(hin:n<=i)
 (hr:∀e∈o.after,Region.binds .any e=true->L e.on):∀j,j<i->L j:=by
 have hilt:i<ops.size:=(Array.getElem?_eq_some_iff.1 hi).1
 simp only[sK,Bool.and_eq_true]at ht
 have hsucc:∀j,j<i->∃(s:Nat) (os:Oper),ops[s]? =some os/\s<=i/\∃e∈os.after,Region.binds .any e=true/\e.on=j:=by
  intro j hj
  by_cases hjn:j<n
  ·have h1:=List.all_eq_true.1 ht.1 j (List.mem_range.2 hjn)
   obtain⟨os,hos,h2⟩:=List.any_eq_true.1 h1
   obtain⟨e,he,h3⟩:=Array.any_eq_true'.1 h2
   simp only[Bool.and_eq_true,beq_iff_eq]at h3
   obtain⟨s,hs⟩:=List.mem_iff_getElem?.1 hos
   rw[List.getElem?_take]at hs
   split at hs
   ·exact⟨s,os,by simpa using hs,by omega,e,he,h3.1,h3.2⟩
   ·cases hs
  ·obtain⟨k,rfl⟩:∃k,j=n+k:=⟨j-n,by omega⟩
   have h1:=List.all_eq_true.1 ht.2 k (List.mem_range.2 (by omega))
   obtain⟨os,hos⟩:∃os,ops[n+k+1]? =some os:=⟨_,Array.getElem?_eq_getElem (by omega)⟩
   rw[hos]at h1
   obtain⟨e,he,h3⟩:=Array.any_eq_true'.1 h1
   simp only[Bool.and_eq_true,beq_iff_eq]at h3
   exact⟨n+k+1,os,hos,by omega,e,he,h3.1,h3.2⟩
 have hdown:∀m j,j<i->i-j<=m->L j:=by
  intro m
  induction m with
  |zero=>intro j hj hm;omega
  |succ m ih=>
   intro j hj hm
   obtain⟨s,os,hos,hsi,e,he,hb,heon⟩:=hsucc j hj
   have hjs:j<s:=by rw[<-heon];exact ek hd hos he hb
   rw[<-heon]
   by_cases hsi2:s=i
   ·subst hsi2
    rw[hi]at hos;cases hos
    exact hr e he hb
   ·exact hcl s os hos (ih s (by omega) (by omega)) e he hb
 exactλj hj=>hdown i j hj (by omega)
theorem AZ {a:Act}(n:Nat)(vs:List Value)(hvl:vs.length=n)(hn:n<=ops.size)(hd:eU ops=true)(hb:bZ ops a.tmps.size=true):
 ∃acts:Nat->Act,acts 0=a/\(∀(i:Nat) (o:Oper),ops[i]? =some o->acts (i+1)=(acts i).put o.dst (vs.getD i undef))/\(∀k,k<=ops.size->At ops a (λi=>vs.getD i undef) (λi=>i<k) (acts k))/\cO (acts n).eval (ops.toList.take n) vs/\(∀t:Nat,(∀o:Oper,o∈ops.toList->o.dst≠some t)->(acts n).tmps[t]? =a.tmps[t]?)/\(∀i,i<n->vs[i]? =some (vs.getD i undef))/\
  ∀(i:Nat) (o:Oper),ops[i]? =some o->i<n->(∀d∈o.looksAt ops,(acts n).tmps[d]? =(acts i).tmps[d]?)/\Region.wanted o (yielded ops (acts n).tmps)=iB vs o:=by
 have hbd:∀(i:Nat) (o:Oper) (d:Tmp),ops[i]? =some o->o.dst=some d->d<a.tmps.size:=by
  intro i o d ho hod
  simp only[bZ,Bool.and_eq_true]at hb
  have:=List.all_eq_true.1 hb.1 o (by simpa using Array.mem_of_getElem? ho)
  rw[hod]at this
  simpa using this
 have hgd:∀(i:Nat) (o:Oper) (j:Nat) (want:Bool),ops[i]? =some o->o.guard=some (j,want)->j<i/\∃d,(ops[j]?).bind (·.dst)=some d:=by
  intro i o j want ho hg
  simp only[bZ,Bool.and_eq_true]at hb
  have:=List.all_eq_true.1 hb.2 i (List.mem_range.2 (Array.getElem?_eq_some_iff.1 ho).1)
  rw[ho]at this
  simp only[Bool.and_eq_true]at this
  have this:=this.1
  rw[hg]at this
  simp only[Bool.and_eq_true,decide_eq_true_eq]at this
  refine⟨this.1,?_⟩
  cases h:(ops[j]?).bind (·.dst)with
  |none=>rw[h]at this;cases this.2
  |some d=>exact⟨d,rfl⟩
 have hself:∀(i:Nat) (o:Oper) (d:Tmp),ops[i]? =some o->o.dst=some d->d∉o.looksAt ops:=by
  intro i o d ho hod hm
  simp only[bZ,Bool.and_eq_true]at hb
  have:=List.all_eq_true.1 hb.2 i (List.mem_range.2 (Array.getElem?_eq_some_iff.1 ho).1)
  rw[ho]at this
  simp only[Bool.and_eq_true]at this
  have this:=this.2
  rw[hod]at this
  simp at this
  exact this hm
 obtain⟨vf,hvf⟩:∃vf:Nat->Value,vf=λi=>vs.getD i undef:=⟨_,rfl⟩
 obtain⟨acts,ha0,QC⟩:∃acts:Nat->Act,acts 0=a/\∀(i:Nat) (o:Oper),ops[i]? =some o->acts (i+1)=(acts i).put o.dst (vf i):=by
  refine⟨λk=>Nat.rec a (λi b=>match ops[i]? with|some o=>b.put o.dst (vf i)|none=>b) k,rfl,λi o ho=>?_⟩
  show(match ops[i]? with|some o=>_|none=>_)=_
  rw[ho]
 have hat:∀k,k<=ops.size->At ops a vf (λi=>i<k) (acts k):=by
  intro k
  induction k with
  |zero=>intro _;rw[ha0];exact⟨rfl,rfl,λ_ _ _ _ h=>absurd h (Nat.not_lt_zero _),λ_ _=>rfl⟩
  |succ k ih=>
   intro hk
   obtain⟨o,ho⟩:∃o,ops[k]? =some o:=⟨_,Array.getElem?_eq_getElem (by omega)⟩
   rw[QC k o ho]
   exact(ih (by omega)).put hd ho (Nat.lt_irrefl k) (λj=>by omega)
 have ll:∀i,i<n->vs[i]? =some (vf i):=by
  intro i hi
  rw[hvf]
  simp only[List.getD_eq_getElem?_getD]
  rw[List.getElem?_eq_getElem (by omega)]
  rfl
 have htk:∀(i:Nat) (o:Oper),(ops.toList.take n)[i]? =some o->i<n/\ops[i]? =some o:=by
  intro i o h
  rw[List.getElem?_take]at h
  split at h
  ·exact⟨by assumption,by simpa using h⟩
  ·cases h
 have lw:cO (acts n).eval (ops.toList.take n) vs:=by
  refine cO.intro λi o v d h1 h2 h3=>?_
  obtain⟨hi,ho⟩:=htk i o h1
  have e1:=(hat n (by omega)).done i o d ho hi h3 (hbd i o d ho h3)
  show(acts n).tmps.getD d undef=v
  rw[Array.getD_eq_getD_getElem?,e1]
  rw[ll i hi]at h2
  exact Option.some.inj h2
 have hrest:∀t:Nat,(∀o:Oper,o∈ops.toList->o.dst≠some t)->(acts n).tmps[t]? =a.tmps[t]?:=λt h=>(hat n (by omega)).rest t λi o ho _=>h o (by simpa using Array.mem_of_getElem? ho)
 have Sy:∀(i:Nat) (o:Oper),ops[i]? =some o->i<n->(∀d∈o.looksAt ops,(acts n).tmps[d]? =(acts i).tmps[d]?)/\Region.wanted o (yielded ops (acts n).tmps)=iB vs o:=by
  intro i o ho hi
  have om:∀d∈o.looksAt ops,(acts n).tmps[d]? =(acts i).tmps[d]?:=by
   intro d hdl
   by_cases hx:∃(j:Nat) (oj:Oper),ops[j]? =some oj/\oj.dst=some d/\j≠i
   ·obtain⟨j,oj,hj,hjd,hji⟩:=hx
    obtain⟨e,he,hbn,rfl⟩:=(tL hd ho hj hji hjd).2 hdl
    have hlt:=ek hd ho he hbn
    rw[(hat n (by omega)).done e.on oj d hj (by omega) hjd (hbd _ oj d hj hjd),(hat i (by omega)).done e.on oj d hj hlt hjd (hbd _ oj d hj hjd)]
   ·by_cases hown:o.dst=some d
    ·exact absurd hdl (hself i o d ho hown)
    ·have hno:∀(j:Nat) (oj:Oper),ops[j]? =some oj->oj.dst≠some d:=λj oj hj he=>by
      by_cases hji:j=i
      ·subst hji;rw[ho]at hj;cases hj;exact hown he
      ·exact hx ⟨j,oj,hj,he,hji⟩
     rw[(hat n (by omega)).rest d λj oj hj _=>hno j oj hj,(hat i (by omega)).rest d λj oj hj _=>hno j oj hj]
  have hwant:Region.wanted o (yielded ops (acts n).tmps)=iB vs o:=by
   unfold Region.wanted iB
   cases hg:o.guard with
   |none=>rfl
   |some gw=>
    obtain⟨j,want⟩:=gw
    obtain⟨hji,d,hjd⟩:=hgd i o j want ho hg
    obtain⟨oj,hoj⟩:∃oj,ops[j]? =some oj:=⟨_,Array.getElem?_eq_getElem (by omega)⟩
    have hjd2:oj.dst=some d:=by rw[hoj]at hjd;exact hjd
    have e1:=(hat n (by omega)).done j oj d hoj (by omega) hjd2 (hbd j oj d hoj hjd2)
    have e2:yielded ops (acts n).tmps j=match some (vf j)with|some (.bool b)=>some b|_=>none:=by
     unfold yielded
     rw[hjd]
     show(match (acts n).tmps[d]? with|some (.bool b)=>some b|_=>none)=_
     rw[e1]
    simp only[e2,ll j (by omega)]
    cases vf j<;>simp
  exact⟨om,hwant⟩
 subst hvf
 exact⟨acts,ha0,QC,hat,lw,hrest,ll,Sy⟩
theorem xh {id:Nat}{a:Act}{w:World}(S:World->Prop)(n:Nat)(vs:List Value)(hvl:vs.length=n)(hn:n<ops.size)(hm:P.follows .mixedOrders=true)(hd:eU ops=true)(hs:Region.noSelect ops=true)(hb:bZ ops a.tmps.size=true)(ht:sK ops n=true)(hS:S w.drew)
 (hY:∀ρ:Operand->Value,cO ρ (ops.toList.take n) vs->(∀t:Nat,(∀o:Oper,o∈ops.toList->o.dst≠some t)->ρ (.tmp t)=a.eval (.tmp t))->(∀v,ρ (.const v)=v)->(∀f,ρ (.func f)=.func (.func f) #[] #[])->ji P S ρ vs (ops.toList.take n) vs)
 (hend:∀(b:Act) (w':World),S w'->b.defers=a.defers->b.tmps.size=a.tmps.size->cO b.eval (ops.toList.take n) vs->(∀t:Nat,(∀o:Oper,o∈ops.toList->o.dst≠some t)->b.tmps[t]? =a.tmps[t]?)->wpOps P ops Q (List.range' n (ops.size-n)) b w'):
 (Code.region id ops true).wp P Q a w:=by
 obtain⟨acts,ha0,QC,hat,lw,hrest,ll,Sy⟩:=AZ (ops:=ops) (a:=a) n vs hvl (by omega) hd hb
 obtain⟨vf,hvf⟩:∃vf:Nat->Value,vf=λi=>vs.getD i undef:=⟨_,rfl⟩
 replace QC:∀(i:Nat) (o:Oper),ops[i]? =some o->acts (i+1)=(acts i).put o.dst (vf i):=by rw[hvf];exact QC
 replace ll:∀i,i<n->vs[i]? =some (vf i):=by rw[hvf];exact ll
 rw[<-hvf]at hat
 have Cm:=hY (acts n).eval lw (λt h=>by show(acts n).tmps.getD t undef=a.tmps.getD t undef;rw[Array.getD_eq_getD_getElem?,Array.getD_eq_getD_getElem?,hrest t h]) (λ_=>rfl) (λ_=>rfl)
 have hyi:∀(L:Nat->Prop) (b:Act) (i:Nat) (o:Oper),At ops a vf L b->ops[i]? =some o->i<n->¬L i->(∀e∈o.after,Region.binds .any e=true->L e.on)->ah P ops S S o (vf i) b:=by
  intro L b i o hA ho hi hL hafter
  have hsel:=λcs b=>Region.noSelect_spec hs i o cs b ho
  obtain⟨y1,y2⟩:=Cm.get i o (vf i) (by rw[List.getElem?_take,if_pos hi];simpa using ho) (ll i hi)
  obtain⟨om,hwant⟩:=Sy i o ho hi
  have hyn:ah P ops S S o (vf i) (acts n):=by
   unfold ah
   rw[hwant]
   cases hw:iB vs o with
   |true=>exact .inl ⟨rfl,y1 hw⟩
   |false=>exact .inr ⟨rfl,y2 hw,λw h=>h⟩
  exact(hyn.of_looks hsel om).of_looks hsel λd hdl=>(hat i (by omega)).same hd hA ho (Nat.lt_irrefl i) hL (λe he hbn=>⟨ek hd ho he hbn,hafter e he hbn⟩) hdl
 have hall:∀(listed:Array Bool),listed.size=ops.size->Region.ready .any ops listed=[]->∀i,i<ops.size->listed.getD i false=true:=by
  intro listed hsz hr i
  induction i using Nat.strongRecOn with
  |ind i ih=>
   intro hi
   obtain⟨o,ho⟩:∃o,ops[i]? =some o:=⟨_,Array.getElem?_eq_getElem hi⟩
   cases hbq:listed.getD i false with
   |true=>rfl
   |false=>
    exfalso
    have hmem:i∈Region.ready .any ops listed:=by
     rw[mem_ready]
     refine⟨?_,o,ho,λe he hbn=>?_⟩
     ·have:i<listed.size:=by omega
      simp[this]at hbq⊢
      exact hbq
     ·have hlt:=ek hd ho he hbn
      exact ih e.on hlt (by omega)
    rw[hr]at hmem
    cases hmem
 have Tp:∀(listed:Array Bool) (i:Nat),listed.size=ops.size->i<ops.size->listed.getD i true=false->¬listed.getD i false=true:=by
  intro listed i hsz hi hu
  have:i<listed.size:=by omega
  simp[this]at hu⊢
  exact hu
 have hset:∀(listed:Array Bool) (i j:Nat),listed.size=ops.size->i<ops.size->((listed.setIfInBounds i true).getD j false=true↔(listed.getD j false=true\/j=i)):=by
  intro listed i j hsz hi
  by_cases hij:i=j
  ·subst hij
   have:i<listed.size:=by omega
   simp[this]
  ·rw[getD_set_ne false hij]
   constructor
   ·exact .inl
   ·rintro(h|rfl)
    ·exact h
    ·exact absurd rfl hij
 have hcount:∀(listed:Array Bool) (i fuel:Nat),listed.size=ops.size->i<ops.size->listed.getD i true=false->(List.range ops.size).countP (λi=>!listed.getD i true)<=fuel+1->(List.range ops.size).countP (λj=>!(listed.setIfInBounds i true).getD j true)<=fuel:=by
  intro listed i fuel hsz hi hun hc
  have:=iK (p:=λi=>!listed.getD i true) (q:=λj=>!(listed.setIfInBounds i true).getD j true) (λj hj=>by
   by_cases hij:i=j
   ·subst hij;simp only[hun];rfl
   ·rw[getD_set_ne true hij]at hj;exact hj) (List.range ops.size) i (List.mem_range.2 hi) (by simp only[hun];rfl) (by
    have:i<listed.size:=by omega
    simp[this])
  omega
 have htail:∀(fuel k:Nat) (listed:Array Bool) (b:Act) (w':World),n<=k->k<=ops.size->listed.size=ops.size->(∀j,listed.getD j false=true↔j<k)->(List.range ops.size).countP (λi=>!listed.getD i true)<=fuel->wpOps P ops Q (List.range' k (ops.size-k)) b w'->wpAny P .any ops Q fuel listed b w':=by
  intro fuel
  induction fuel with
  |zero=>
   intro k listed b w' hnk hks hsz hL hc hq
   have hke:k=ops.size:=by
    apply Classical.byContradiction
    intro hne
    have Gd:k<ops.size:=by omega
    have hu:listed.getD k true=false:=by
     have h1:¬listed.getD k false=true:=λh=>Nat.lt_irrefl _ ((hL k).1 h)
     have:k<listed.size:=by omega
     simp[this]at h1⊢
     exact h1
    have:0<(List.range ops.size).countP (λi=>!listed.getD i true):=List.countP_pos_iff.2 ⟨k,List.mem_range.2 Gd,by rw[hu];rfl⟩
    omega
   subst hke
   have hr:Region.ready .any ops listed=[]:=by
    cases hr:Region.ready .any ops listed with
    |nil=>rfl
    |cons x xs=>
     exfalso
     have hx:x∈Region.ready .any ops listed:=by rw[hr];exact List.mem_cons_self
     obtain⟨h1,o,ho,_⟩:=mem_ready.1 hx
     have hlt:x<ops.size:=(Array.getElem?_eq_some_iff.1 ho).1
     exact Tp listed x hsz hlt h1 ((hL x).2 hlt)
   rw[Nat.sub_self]at hq
   exact⟨hr,hq⟩
  |succ fuel ih=>
   intro k listed b w' hnk hks hsz hL hc hq
   by_cases hke:k=ops.size
   ·subst hke
    have hr:Region.ready .any ops listed=[]:=by
     cases hr:Region.ready .any ops listed with
     |nil=>rfl
     |cons x xs=>
      exfalso
      have hx:x∈Region.ready .any ops listed:=by rw[hr];exact List.mem_cons_self
      obtain⟨h1,o,ho,_⟩:=mem_ready.1 hx
      have hlt:x<ops.size:=(Array.getElem?_eq_some_iff.1 ho).1
      exact Tp listed x hsz hlt h1 ((hL x).2 hlt)
    rw[Nat.sub_self]at hq
    exact wpAny_done hr hq _
   ·have Gd:k<ops.size:=by omega
    refine⟨λhr=>?_,λi hi=>?_⟩
    ·exact absurd ((hL k).1 (hall listed hsz hr k Gd)) (Nat.lt_irrefl _)
    ·obtain⟨hun,o,ho,hafter⟩:=mem_ready.1 hi
     have hilt:i<ops.size:=(Array.getElem?_eq_some_iff.1 ho).1
     have hki:k<=i:=by
      rcases Nat.lt_or_ge i k with h|h
      ·exact absurd ((hL i).2 h) (Tp listed i hsz hilt hun)
      ·exact h
     have hfirst:=vX ht hd hn (L:=λj=>listed.getD j false=true) (λj oj hj Sk e he hbn=>(hL e.on).2 (by have:=ek hd hj he hbn;have:=(hL j).1 Sk;omega)) ho (by omega) (λe he hbn=>hafter e he hbn)
     have hik:i=k:=by
      rcases Nat.lt_or_ge k i with h|h
      ·exact absurd ((hL k).1 (hfirst k h)) (Nat.lt_irrefl _)
      ·omega
     subst hik
     rw[show ops.size-i=(ops.size-(i+1))+1 from by omega,List.range'_succ,wpOps_cons]at hq
     refine wpOp_mono (λa' w'' h=>ih (i+1) (listed.setIfInBounds i true) a' w'' (by omega) (by omega) (by simpa using hsz) (λj=>?_) (hcount listed i fuel hsz hilt hun hc) h) hq
     rw[hset listed i j hsz hilt,hL j]
     omega
 have hmain:∀(fuel:Nat) (listed:Array Bool) (b:Act) (w':World),listed.size=ops.size->At ops a vf (λi=>listed.getD i false=true) b->S w'->(∀j,listed.getD j false=true->j<n)->(∀(i:Nat) (o:Oper),ops[i]? =some o->listed.getD i false=true->∀e∈o.after,Region.binds .any e=true->listed.getD e.on false=true)->(List.range ops.size).countP (λi=>!listed.getD i true)<=fuel->wpAny P .any ops Q fuel listed b w':=by
  intro fuel
  induction fuel with
  |zero=>
   intro listed b w' hsz hA hSw hlow hcl hc
   exfalso
   have hu:listed.getD n true=false:=by
    have h1:¬listed.getD n false=true:=λh=>Nat.lt_irrefl _ (hlow n h)
    have:n<listed.size:=by omega
    simp[this]at h1⊢
    exact h1
   have:0<(List.range ops.size).countP (λi=>!listed.getD i true):=List.countP_pos_iff.2 ⟨n,List.mem_range.2 hn,by rw[hu];rfl⟩
   omega
  |succ fuel ih=>
   intro listed b w' hsz hA hSw hlow hcl hc
   by_cases hfull:∀j,j<n->listed.getD j false=true
   ·have hL:∀j,listed.getD j false=true↔j<n:=λj=>⟨hlow j,hfull j⟩
    have hA2:At ops a vf (λi=>i<n) b:=⟨hA.defers,hA.size,λi o d ho hi=>hA.done i o d ho (hfull i hi),λd hno=>hA.rest d λi o ho hLi=>hno i o ho (hlow i hLi)⟩
    have hbe:b=acts n:=hA2.unique (hat n (by omega))
    subst hbe
    exact htail _ n listed _ w' (Nat.le_refl _) (by omega) hsz hL hc (hend _ w' hSw hA.defers hA.size lw hrest)
   ·refine⟨λhr=>absurd (λj hj=>hall listed hsz hr j (by omega)) hfull,λi hi=>?_⟩
    obtain⟨hun,o,ho,hafter⟩:=mem_ready.1 hi
    have hilt:i<ops.size:=(Array.getElem?_eq_some_iff.1 ho).1
    have hin:i<n:=by
     rcases Nat.lt_or_ge i n with h|h
     ·exact h
     ·exfalso
      apply hfull
      intro j hj
      exact vX ht hd hn (L:=λj=>listed.getD j false=true) hcl ho h (λe he hbn=>hafter e he hbn) j (by omega)
    have hnl:=Tp listed i hsz hilt hun
    refine(hyi _ b i o hA ho hin hnl (λe he hbn=>hafter e he hbn)).wpOp ho hSw λw2 hS2=>ih (listed.setIfInBounds i true) _ w2 (by simpa using hsz) (hA.put hd ho hnl λj=>by rw[hset listed i j hsz hilt]) hS2 ?_ ?_ (hcount listed i fuel hsz hilt hun hc)
    ·intro j hj
     rcases(hset listed i j hsz hilt).1 hj with h|rfl
     ·exact hlow j h
     ·exact hin
    ·intro j oj hj Sk e he hbn
     rw[hset listed i _ hsz hilt]
     rcases(hset listed i j hsz hilt).1 Sk with h|rfl
     ·exact .inl (hcl j oj hj h e he hbn)
     ·rw[ho]at hj;cases hj
      exact .inl (hafter e he hbn)
 have hrep:∀i,(Array.replicate ops.size false).getD i false=false:=by
  intro i
  by_cases hi:i<ops.size
  ·simp[hi]
  ·simp[hi]
 refine wp_region_any hm (hmain ops.size _ a _ (by simp) ?_ hS ?_ ?_ ?_)
 ·refine⟨rfl,rfl,λi o d ho hL=>?_,λ_ _=>rfl⟩
  rw[hrep i]at hL;cases hL
 ·intro j hj;rw[hrep j]at hj;cases hj
 ·intro i o ho hL;rw[hrep i]at hL;cases hL
 ·have:=List.countP_le_length (p:=λi=>!(Array.replicate ops.size false).getD i true) (l:=List.range ops.size)
  simpa using this
end
section
variable {P : Program} {ops : Array Oper} {Q : Exit → Act → World → Prop}
def YF (P:Program)(S T:World->Prop)(ρ:Operand->Value)(vs:List Value)(o:Oper)(v:Value):Prop:=
 (iB vs o=true->∀w,S w->Gives P T v ((execOp ρ o).run P w))/\(iB vs o=false->v=undef/\∀w,S w->T w)
def mq (P:Program)(S:Nat->World->Prop)(ρ:Operand->Value)(vs:List Value):Nat->List Oper->List Value->Prop
 |k,o::l,v::m=>YF P (S k) (S (k+1)) ρ vs o v/\mq P S ρ vs (k+1) l m
 |_,_,_=>True
theorem mq.get {P:Program}{S:Nat->World->Prop}{ρ:Operand->Value}{vs:List Value}:∀{k:Nat} {l:List Oper} {m:List Value} (i:Nat) (o:Oper) (v:Value),mq P S ρ vs k l m->l[i]? =some o->m[i]? =some v->YF P (S (k+i)) (S (k+i+1)) ρ vs o v
 |_,[],_,i,o,v,_,h,_=>by simp at h
 |_,_::_,[],i,o,v,_,_,h=>by simp at h
 |k,_::_,_::_,0,o,v,h,h1,h2=>by
  simp at h1 h2
  subst h1;subst h2
  exact h.1
 |k,_::_,_::_,i+1,o,v,h,h1,h2=>by
  have:=mq.get (k:=k+1) i o v h.2 (by simpa using h1) (by simpa using h2)
  rw[show k+1+i=k+(i+1)from by omega]at this
  exact this
theorem ji.yn {S:World->Prop}{ρ:Operand->Value}{vs:List Value}:∀{k:Nat} {l:List Oper} {m:List Value},ji P S ρ vs l m->mq P (λ_=>S) ρ vs k l m
 |_,[],_,_=>trivial
 |_,_::_,[],_=>trivial
 |_,_::_,_::_,h=>⟨⟨h.1.1,λhw=>⟨h.1.2 hw,λ_ h=>h⟩⟩,ji.yn h.2⟩
theorem YF.to {S T:World->Prop}{vs:List Value}{o:Oper}{v:Value}{b c:Act}(h:YF P S T b.eval vs o v)(hs:Region.noSelect ops=true){i:Nat}(ho:ops[i]? =some o)(hl:(∀d∈o.looksAt ops,b.tmps[d]? =c.tmps[d]?)/\Region.wanted o (yielded ops b.tmps)=iB vs o):ah P ops S T o v c:=by
 have hyn:ah P ops S T o v b:=by
  unfold ah
  rw[hl.2]
  cases hw:iB vs o with
  |true=>exact .inl ⟨rfl,h.1 hw⟩
  |false=>exact .inr ⟨rfl,(h.2 hw).1,(h.2 hw).2⟩
 exact hyn.of_looks (λcs b=>Region.noSelect_spec hs i o cs b ho) hl.1
theorem mK {id:Nat}{a:Act}{w:World}(S:Nat->World->Prop)(n:Nat)(vs:List Value)(hvl:vs.length=n)(hn:n<=ops.size)(hd:eU ops=true)(hs:Region.noSelect ops=true)(hb:bZ ops a.tmps.size=true)(hS:S 0 w)
 (hY:∀ρ:Operand->Value,cO ρ (ops.toList.take n) vs->(∀t:Nat,(∀o:Oper,o∈ops.toList->o.dst≠some t)->ρ (.tmp t)=a.eval (.tmp t))->(∀v,ρ (.const v)=v)->(∀f,ρ (.func f)=.func (.func f) #[] #[])->mq P S ρ vs 0 (ops.toList.take n) vs)
 (hend:∀(b:Act) (w':World),S n w'->b.defers=a.defers->b.tmps.size=a.tmps.size->cO b.eval (ops.toList.take n) vs->(∀t:Nat,(∀o:Oper,o∈ops.toList->o.dst≠some t)->b.tmps[t]? =a.tmps[t]?)->wpOps P ops Q (List.range' n (ops.size-n)) b w'):
 (Code.region id ops false).wp P Q a w:=by
 obtain⟨acts,ha0,QC,hat,lw,hrest,ll,Sy⟩:=AZ (ops:=ops) (a:=a) n vs hvl hn hd hb
 have Cm:=hY (acts n).eval lw (λt h=>by show(acts n).tmps.getD t undef=a.tmps.getD t undef;rw[Array.getD_eq_getD_getElem?,Array.getD_eq_getD_getElem?,hrest t h]) (λ_=>rfl) (λ_=>rfl)
 have hgo:∀(m k:Nat) (w':World),k+m=n->S k w'->wpOps P ops Q (List.range' k (ops.size-k)) (acts k) w':=by
  intro m
  induction m with
  |zero=>
   intro k w' hk hSw
   obtain rfl:k=n:=by omega
   exact hend _ w' hSw (hat k (by omega)).defers (hat k (by omega)).size lw hrest
  |succ m ih=>
   intro k w' hk hSw
   obtain⟨o,ho⟩:∃o,ops[k]? =some o:=⟨_,Array.getElem?_eq_getElem (by omega)⟩
   rw[show ops.size-k=(ops.size-(k+1))+1 from by omega,List.range'_succ,wpOps_cons]
   have yy:=Cm.get k o _ (by rw[List.getElem?_take,if_pos (by omega)];simpa using ho) (ll k (by omega))
   simp only[Nat.zero_add]at yy
   refine(yy.to hs ho (Sy k o ho (by omega))).wpOp ho hSw λw2 hS2=>?_
   have:=ih (k+1) w2 (by omega) hS2
   rw[QC k o ho]at this
   exact this
 refine wp_region ?_
 have:=hgo n 0 w (by omega) hS
 rw[ha0,Nat.sub_zero,<-List.range_eq_range']at this
 exact this
theorem iP {id:Nat}{a:Act}{w:World}(S:World->Prop)(n:Nat)(vs:List Value)(hvl:vs.length=n)(hn:n<=ops.size)(hd:eU ops=true)(hs:Region.noSelect ops=true)(hb:bZ ops a.tmps.size=true)(hS:S w)
 (hY:∀ρ:Operand->Value,cO ρ (ops.toList.take n) vs->(∀t:Nat,(∀o:Oper,o∈ops.toList->o.dst≠some t)->ρ (.tmp t)=a.eval (.tmp t))->(∀v,ρ (.const v)=v)->(∀f,ρ (.func f)=.func (.func f) #[] #[])->ji P S ρ vs (ops.toList.take n) vs)
 (hend:∀(b:Act) (w':World),S w'->b.defers=a.defers->b.tmps.size=a.tmps.size->cO b.eval (ops.toList.take n) vs->(∀t:Nat,(∀o:Oper,o∈ops.toList->o.dst≠some t)->b.tmps[t]? =a.tmps[t]?)->wpOps P ops Q (List.range' n (ops.size-n)) b w'):
 (Code.region id ops false).wp P Q a w:=
 mK (λ_=>S) n vs hvl hn hd hs hb hS (λρ h1 h2 h3 h4=>(hY ρ h1 h2 h3 h4).yn) hend
end
end Go.Proofs.YtnjjeapcalkmaaaGreatDoor.Ord
namespace Go.Proofs.YtnjjeapcalkmaaaGreatDoor.Ps
open Go
abbrev Bs:=List UInt8
abbrev Tok:=Lx.Tok
abbrev Er:=Int×Int
abbrev P (α:Type):=Nat->Except Er (α×Nat)
def eB {α:Type}(x:α):P α:=λa=>.ok (x,a)
def bind' {α β:Type}(m:P α)(f:α->P β):P β:=λa=>match m a with
 | .error e=>.error e
 | .ok (x,b)=>f x b
theorem bind_ok {α β:Type}{m:P α}{f:α->P β}{a b:Nat}{x:α}(h:m a=.ok (x,b)):bind' m f a=f x b:=by unfold bind';rw[h]
theorem dO {α β:Type}{m:P α}{f:α->P β}{a:Nat}{e:Er}(h:m a=.error e):bind' m f a=.error e:=by unfold bind';rw[h]
def av (l:List Tok)(a:Nat):Int:=match l[a]? with
 |some t=>t.2.2
 |none=>0
def Bb (l:List Tok):Int:=match l.getLast? with
 |some t=>((t.2.2+t.2.1.size:Nat):Int)
 |none=>0
def short (l:List Tok):Er:=(Bb l,4)
def jA {α:Type}(l:List Tok)(e:Int):P α:=λa=>.error (av l a,e)
def aU (l:List Tok)(a:Nat):ByteArray:=match l[a]? with
 |some t=>if t.1=0 then t.2.1 else⟨#[]⟩
 |none=>⟨#[]⟩
def word (l:List Tok)(w:Bs):P Unit:=λa=>
 if l.length<=a then .error (short l)
 else if (aU l a).data.toList=w then .ok ((),a+1)else .error (av l a,30)
def take {α:Type}(l:List Tok)(accept:ByteArray->α×Int)(kinds:List Int):P α:=λa=>match l[a]? with
 |none=>.error (short l)
 |some t=>if t.1∈kinds then(if (accept t.2.1).2=0 then .ok ((accept t.2.1).1,a+1)else .error (av l a,(accept t.2.1).2))else .error (av l a,30)
structure Env where
 valid:Nat->ByteArray->Bool
 cash:ByteArray->Int×Int
 number:ByteArray->Int×Int
 date:ByteArray->Int×Int
def ident (E:Env)(l:List Tok)(k:Nat)(kinds:List Int):P ByteArray:=take l (λs=>(s,if E.valid k s then 0 else 6)) kinds
def ref (E:Env)(l:List Tok):P ByteArray:=ident E l 2 [1,2,4]
def member (E:Env)(l:List Tok):P ByteArray:=ident E l 1 [1]
def isin (E:Env)(l:List Tok):P ByteArray:=ident E l 0 [1]
def cash (E:Env)(l:List Tok):P Int:=take l E.cash [3]
def quantity (E:Env)(l:List Tok):P Int:=take l E.number [2]
def day (E:Env)(l:List Tok):P Int:=take l (λs=>((E.date s).1,if (E.date s).2=0 then 0 else 28)) [4]
structure Link where
 type:Int
 ref:ByteArray
structure Ins where
 ref:ByteArray:=⟨#[]⟩
 kind:Int:=0
 sender:ByteArray:=⟨#[]⟩
 counterparty:ByteArray:=⟨#[]⟩
 side:Int:=0
 asset:ByteArray:=⟨#[]⟩
 quantity:Int:=0
 amount:Int:=0
 tradeDay:Int:=0
 settleDay:Int:=0
 priority:Int:=0
 partial_:Bool:=false
 minLot:Int:=0
 hold:Bool:=false
 reserve:Bool:=false
 links:List Link:=[]
structure Amd where
 hasAmount:Bool:=false
 hasSettleDay:Bool:=false
 hasPriority:Bool:=false
 hasPartial:Bool:=false
 amount:Int:=0
 settleDay:Int:=0
 priority:Int:=0
 partial_:Bool:=false
 minLot:Int:=0
structure Req where
 op:Int:=0
 sender:ByteArray:=⟨#[]⟩
 ref:ByteArray:=⟨#[]⟩
 ins:Ins:={}
 amd:Amd:={}
def qL:Bs:=[110,111,114,109,97,108]
def Ic:Bs:=[104,105,103,104]
def vJ:Bs:=[117,114,103,101,110,116]
def aK:Bs:=[112,97,114,116,105,97,108]
def bU:Bs:=[104,111,108,100]
def aY:Bs:=[114,101,115,101,114,118,101]
def fF:Bs:=[119,105,116,104]
def dC:Bs:=[97,102,116,101,114]
def fD:Bs:=[119,104,111,108,101]
def bY:Bs:=[97,109,111,117,110,116]
def eF:Bs:=[100,97,121]
def rH:Bs:=[102,114,111,109]
def sTo:Bs:=[116,111]
def sBy:Bs:=[98,121]
def uK:Bs:=[105,115,105,110]
def gQ:Bs:=[113,117,97,110,116,105,116,121]
def jy:Bs:=[102,114,101,101]
def d9:Bs:=[97,103,97,105,110,115,116]
def j4:Bs:=[116,114,97,100,101]
def E8:Bs:=[112,97,121]
def fC:Bs:=[100,101,108,105,118,101,114]
def eZ:Bs:=[114,101,99,101,105,118,101]
def eP:Bs:=[112,108,101,100,103,101]
def dN:Bs:=[114,101,108,101,97,115,101]
def nK:Bs:=[97,109,101,110,100]
def fQ:Bs:=[99,97,110,99,101,108]
def gG:Bs:=[114,101,115,117,109,101]
def uH:ByteArray:=⟨#[67,65,83,72]⟩
def prio (w:Bs):Option Int:=if w=qL then some 0 else if w=Ic then some 1 else if w=vJ then some 2 else none
structure Seen where
 prio:Bool:=false
 part:Bool:=false
 hold:Bool:=false
 res:Bool:=false
 amount:Bool:=false
 day:Bool:=false
def options (E:Env)(l:List Tok):Nat->Seen->Ins->P Ins
 |0,_,i=>eB i
 |f+1,s,i=>λa=>
  if l.length<=a then .ok (i,a)
  else match prio (aU l a).data.toList with
   |some p=>if s.prio then jA l 7 a else options E l f {s with prio:=true} {i with priority:=p} (a+1)
   |none=>
    if (aU l a).data.toList=aK then(if s.part then jA l 7 a else bind' (quantity E l) (λn=>options E l f {s with part:=true} {i with partial_:=true,minLot:=n}) (a+1))
    else if (aU l a).data.toList=bU then(if s.hold then jA l 7 a else options E l f {s with hold:=true} {i with hold:=true} (a+1))
    else if (aU l a).data.toList=aY then(if s.res then jA l 7 a else options E l f {s with res:=true} {i with reserve:=true} (a+1))
    else if (aU l a).data.toList=fF then bind' (ref E l) (λr=>options E l f s {i with links:=i.links++[⟨0,r⟩]}) (a+1)
    else if (aU l a).data.toList=dC then bind' (ref E l) (λr=>options E l f s {i with links:=i.links++[⟨1,r⟩]}) (a+1)
    else jA l 30 a
def changes (E:Env)(l:List Tok):Nat->Seen->Amd->P Amd
 |0,_,i=>eB i
 |f+1,s,i=>λa=>
  if l.length<=a then .ok (i,a)
  else match prio (aU l a).data.toList with
   |some p=>if s.prio then jA l 7 a else changes E l f {s with prio:=true} {i with hasPriority:=true,priority:=p} (a+1)
   |none=>
    if (aU l a).data.toList=aK then(if s.part then jA l 7 a else bind' (quantity E l) (λn=>changes E l f {s with part:=true} {i with hasPartial:=true,partial_:=true,minLot:=n}) (a+1))
    else if (aU l a).data.toList=fD then(if s.part then jA l 7 a else changes E l f {s with part:=true} {i with hasPartial:=true} (a+1))
    else if (aU l a).data.toList=bY then(if s.amount then jA l 7 a else bind' (cash E l) (λn=>changes E l f {s with amount:=true} {i with hasAmount:=true,amount:=n}) (a+1))
    else if (aU l a).data.toList=eF then(if s.day then jA l 7 a else bind' (day E l) (λn=>changes E l f {s with day:=true} {i with hasSettleDay:=true,settleDay:=n}) (a+1))
    else jA l 30 a
def parties (E:Env)(l:List Tok):P (ByteArray×ByteArray):=
 bind' (word l rH) λ_=>bind' (member E l) λx=>bind' (word l sTo) λ_=>bind' (member E l) λy=>eB (x,y)
def by_ (E:Env)(l:List Tok):P ByteArray:=bind' (word l sBy) λ_=>member E l
def security (E:Env)(l:List Tok)(i:Ins):P Ins:=
 bind' (word l uK) λ_=>bind' (isin E l) λx=>bind' (word l gQ) λ_=>bind' (quantity E l) λn=>eB {i with asset:=x,quantity:=n}
def payment (E:Env)(l:List Tok)(i:Ins):P Ins:=
 bind' (parties E l) λp=>bind' (word l bY) λ_=>bind' (cash E l) λn=>bind' (word l eF) λ_=>bind' (day E l) λd=>
  options E l (l.length+1) {} {i with kind:=0,asset:=uH,sender:=p.1,counterparty:=p.2,amount:=n,settleDay:=d}
def trade (E:Env)(l:List Tok)(i:Ins):P Ins:=
 bind' (parties E l) λp=>bind' (security E l {i with kind:=1,sender:=p.1,counterparty:=p.2}) λi=>
  bind' (λa=>if (aU l a).data.toList=jy then .ok ({i with kind:=2},a+1)else bind' (word l d9) (λ_=>bind' (cash E l) λn=>eB {i with amount:=n}) a) λi=>
   bind' (word l j4) λ_=>bind' (day E l) λt=>bind' (word l eF) λ_=>bind' (day E l) λd=>options E l (l.length+1) {} {i with tradeDay:=t,settleDay:=d}
def collateral (E:Env)(l:List Tok)(k:Int)(i:Ins):P Ins:=
 bind' (by_ E l) λs=>bind' (security E l {i with kind:=k,sender:=s}) λi=>bind' (word l eF) λ_=>bind' (day E l) λd=>eB {i with settleDay:=d}
def turn (i:Ins):Ins:={i with side:=1,sender:=i.counterparty,counterparty:=i.sender}
def rest (E:Env)(l:List Tok)(v:Bs)(q:Req):P Req:=
 if v=E8 then bind' (payment E l q.ins) λi=>eB {q with ins:=i}
 else if v=fC then bind' (trade E l q.ins) λi=>eB {q with ins:=i}
 else if v=eZ then bind' (trade E l q.ins) λi=>eB {q with ins:=turn i}
 else if v=eP then bind' (collateral E l 3 q.ins) λi=>eB {q with ins:=i}
 else if v=dN then bind' (collateral E l 4 q.ins) λi=>eB {q with ins:=i}
 else if v=nK then bind' (by_ E l) λs=>λa=>if l.length<=a then .error (short l)else bind' (changes E l (l.length+1) {} {}) (λm=>eB {q with op:=1,sender:=s,amd:=m}) a
 else if v=fQ then bind' (by_ E l) λs=>eB {q with op:=2,sender:=s}
 else if v=bU then bind' (by_ E l) λs=>eB {q with op:=3,sender:=s}
 else bind' (by_ E l) λs=>eB {q with op:=4,sender:=s}
def verbs:List Bs:=[E8,fC,eZ,eP,dN,nK,fQ,bU,gG]
def line (E:Env)(l:List Tok):P Req:=λa=>
 if l.length<=a then .error (short l)
 else if (aU l a).data.toList∈verbs then
  bind' (ref E l) (λr=>bind' (rest E l (aU l a).data.toList {ref:=r}) λq=>λb=>if b<l.length then .error (av l b,30)else .ok (q,b)) (a+1)
 else .error (av l a,30)
def parse (E:Env)(check:Req->Int)(s:ByteArray):Req×Int×Int:=
 if (Lx.aO s).2.2≠0 then({},(Lx.aO s).2.1,(Lx.aO s).2.2)
 else match line E (Lx.aO s).1 0 with
  | .error e=>({},e.1,e.2)
  | .ok (q,_)=>
    let q:=if q.op=0 then{q with sender:=q.ins.sender,ins:={q.ins with ref:=q.ref} }else q
    if check q≠0 then({},av (Lx.aO s).1 0,check q)else(q,0,0)
def bJ:Int:=1000000000000000
def bP:Int:=73048
def fE (valid:Nat->ByteArray->Bool)(i:Ins):List Link->List Link->Int
 |_,[]=>0
 |seen,x::r=>
  if¬(0<=x.type/\x.type<=1)then 11
  else if valid 2 x.ref=false then 6
  else if x.ref=i.ref then 26
  else if∃y∈seen,y.ref=x.ref then 7
  else fE valid i (seen++[x]) r
def oL (valid:Nat->ByteArray->Bool)(i:Ins):Int:=
 if¬(0<=i.kind/\i.kind<=4)then 11
 else if valid 2 i.ref=false then 6
 else if valid 1 i.sender=false then 6
 else if (i.kind=3\/i.kind=4)/\i.counterparty≠⟨#[]⟩then 3
 else if¬(i.kind=3\/i.kind=4)/\valid 1 i.counterparty=false then 6
 else if i.counterparty=i.sender then 1
 else if¬(0<=i.side/\i.side<=1)then 11
 else if¬(i.kind=1\/i.kind=2)/\i.side≠0 then 3
 else if¬(if i.kind=0 then i.asset=uH else valid 0 i.asset=true)then 6
 else if¬(if i.kind≠0 then 1<=i.quantity/\i.quantity<=bJ else i.quantity=0)then 2
 else if¬(if i.kind=0\/i.kind=1 then 1<=i.amount/\i.amount<=bJ else i.amount=0)then 2
 else if¬(0<=i.settleDay/\i.settleDay<=bP)then 28
 else if ((i.kind=1\/i.kind=2)/\¬(0<=i.tradeDay/\i.tradeDay<=i.settleDay))\/(¬(i.kind=1\/i.kind=2)/\i.tradeDay≠0)then 28
 else if¬(0<=i.priority/\i.priority<=2)\/((i.kind=3\/i.kind=4)/\i.priority≠0)then 2
 else if i.partial_=true/\¬(i.kind=1\/i.kind=2)then 3
 else if (i.partial_=true/\i.minLot<1)\/¬(0<=i.minLot/\i.minLot<=if i.partial_=true then i.quantity else 0)then 2
 else if i.hold=true/\(i.kind=3\/i.kind=4)then 3
 else if i.reserve=true/\(i.kind≠0\/i.priority≠2)then 3
 else if (i.kind=3\/i.kind=4)/\0<i.links.length then 3
 else if 8<i.links.length then 8
 else fE valid i [] i.links
def yC (a:Amd):Int:=
 if a.hasAmount=false/\a.hasSettleDay=false/\a.hasPriority=false/\a.hasPartial=false then 3
 else if (a.hasAmount=false/\a.amount≠0)\/(a.hasSettleDay=false/\a.settleDay≠0)\/(a.hasPriority=false/\a.priority≠0)\/(a.hasPartial=false/\(a.partial_=true\/a.minLot≠0))then 3
 else if¬(if a.hasAmount=true then 1<=a.amount/\a.amount<=bJ else a.amount=0)then 2
 else if¬(0<=a.settleDay/\a.settleDay<=bP)then 28
 else if¬(0<=a.priority/\a.priority<=2)then 2
 else if¬(if a.partial_=true then 1<=a.minLot/\a.minLot<=bJ else a.minLot=0)then 2
 else 0
def Ins.none (i:Ins):Prop:=
 i.ref=⟨#[]⟩/\i.kind=0/\i.sender=⟨#[]⟩/\i.counterparty=⟨#[]⟩/\i.side=0/\i.asset=⟨#[]⟩/\i.quantity=0/\i.amount=0/\i.tradeDay=0/\i.settleDay=0/\i.priority=0/\
 i.partial_=false/\i.minLot=0/\i.hold=false/\i.reserve=false/\i.links.length=0
instance (i:Ins):Decidable i.none:=by unfold Ins.none;infer_instance
def Amd.none (a:Amd):Prop:=
 a.hasAmount=false/\a.hasSettleDay=false/\a.hasPriority=false/\a.hasPartial=false/\a.amount=0/\a.settleDay=0/\a.priority=0/\a.partial_=false/\a.minLot=0
instance (a:Amd):Decidable a.none:=by unfold Amd.none;infer_instance
def zH (valid:Nat->ByteArray->Bool)(q:Req):Int:=
 if¬(0<=q.op/\q.op<=4)then 11
 else if valid 1 q.sender=false then 6
 else if valid 2 q.ref=false then 6
 else if q.op=0 then(if oL valid q.ins≠0 then oL valid q.ins else if q.ins.ref≠q.ref\/q.ins.sender≠q.sender then 17 else if¬q.amd.none then 3 else 0)
 else if¬q.ins.none then 3
 else if q.op=1 then yC q.amd
 else if¬q.amd.none then 3 else 0
abbrev St:=Except Er Nat
def step {α:Type}(p:P α)(z:α):St->α×St
 | .error e=>(z,.error e)
 | .ok a=>match p a with
   | .ok (x,b)=>(x,.ok b)
   | .error e=>(z,.error e)
theorem step_ok {α:Type}{p:P α}{z x:α}{a b:Nat}(h:p a=.ok (x,b)):step p z (.ok a)=(x,.ok b):=by simp only[step,h]
theorem bF {α:Type}{p:P α}{z:α}{a:Nat}{e:Er}(h:p a=.error e):step p z (.ok a)=(z,.error e):=by simp only[step,h]
theorem Ki {α β:Type}(m:P α)(f:α->P β)(zm:α)(z:β)(st:St):step (bind' m f) z st=step (f (step m zm st).1) z (step m zm st).2:=by
 cases st with
 |error e=>rfl
 |ok a=>
  cases h:m a with
  |error e=>rw[bF h,bF (dO h)];rfl
  |ok x=>
   obtain⟨x,b⟩:=x
   rw[step_ok h]
   have h2:bind' m f a=f x b:=bind_ok h
   simp only[step,h2]
def dU (l:List Tok)(st:St):Bool:=match st with
 | .ok a=>decide (a<l.length)
 | .error _=>false
def gB (l:List Tok)(st:St):St:=match st with
 | .ok a=>if a<l.length then .ok a else .error (short l)
 | .error e=>.error e
def jk (l:List Tok)(st:St):ByteArray:=match st with
 | .ok a=>aU l a
 | .error _=>⟨#[]⟩
def qO (l:List Tok)(n:Int)(st:St):St:=match st with
 | .ok a=>.error (av l a,n)
 | .error e=>.error e
theorem CL (l:List Tok)(st:St)(h:dU l st=false):jk l st=⟨#[]⟩:=by
 cases st with
 |error e=>rfl
 |ok a=>
  have:l.length<=a:=by simpa[dU]using h
  simp only[jk,aU,List.getElem?_eq_none this]
def kN (y:Int):Bool:=decide (y%4=0)&&!decide (y%100=0)||decide (y%400=0)
def dim (y m:Int):Int:=if y<2000\/2199<y\/m<1\/12<m then 0 else if m=2 then(if kN y then 29 else 28)else if m=4\/m=6\/m=9\/m=11 then 30 else 31
def bQ (y:Int):Nat->Int
 |0=>0
 |k+1=>bQ y k+dim y ((k:Int)+1)
def Gw:Nat->Int
 |0=>0
 |k+1=>Gw k+365+(if kN (2000+(k:Int))then 1 else 0)
def aj (p:Int):Int:=365*p+((p+3)/4-(p+99)/100+(p+399)/400)
theorem Et (y:Int):kN y=true↔(y%4=0/\¬y%100=0)\/y%400=0:=by simp[kN]
theorem rU:∀k:Nat,Gw k=aj (k:Int)
 |0=>by decide
 |k+1=>by
  have ih:=rU k
  unfold Gw
  rw[ih]
  unfold aj
  by_cases h:kN (2000+(k:Int))=true
  ·rw[if_pos h]
   rw[Et]at h
   omega
  ·rw[if_neg h]
   rw[Et]at h
   omega
theorem pR (y m:Int):0<=dim y m/\dim y m<=31:=by
 unfold dim
 split
 ·omega
 ·split
  ·split<;>omega
  ·split<;>omega
theorem vS (y:Int):∀k:Nat,0<=bQ y k/\bQ y k<=31*(k:Int)
 |0=>by simp[bQ]
 |k+1=>by
  have ih:=vS y k
  have:=pR y ((k:Int)+1)
  unfold bQ
  omega
theorem Cv {p:Int}(h:0<=p)(h2:p<=200):0<=aj p/\aj p<=100000:=by unfold aj;omega
def civil (y m d:Int):Int×Int:=if d<1\/dim y m<d then(0,28)else(aj (y-2000)+d-1+bQ y (m-1).toNat,0)
theorem JB {y m:Int}(h:0<dim y m):2000<=y/\y<=2199/\1<=m/\m<=12:=by
 unfold dim at h
 split at h
 ·omega
 ·omega
theorem QG (y m d:Int):0<=(civil y m d).1/\(civil y m d).1<=200000:=by
 unfold civil
 split
 ·simp
 ·rename_i h
  have h2:=JB (y:=y) (m:=m) (by omega)
  have h3:=Cv (p:=y-2000) (by omega) (by omega)
  have h4:=vS y (m-1).toNat
  have h5:=pR y m
  simp only
  omega
def num (l:List UInt8):Nat:=l.foldl (λn c=>10*n+(c.toNat-48)) 0
def form:List UInt8:=[48,48,48,48,45,48,48,45,48,48]
def fit (f c:UInt8):Bool:=if f=48 then Lx.digit (c.toNat:Int)else c==f
def fits (f l:List UInt8):Bool:=decide (l.length=f.length)&&(f.zip l).all λx=>fit x.1 x.2
def gL (s:ByteArray):Int×Int:=
 if fits form s.data.toList=true then civil (num (s.data.toList.take 4)) (num ((s.data.toList.drop 5).take 2)) (num ((s.data.toList.drop 8).take 2))else(0,3)
theorem KG (s:ByteArray):0<=(gL s).1/\(gL s).1<=200000:=by
 unfold gL
 split
 ·exact QG _ _ _
 ·simp
end Go.Proofs.YtnjjeapcalkmaaaGreatDoor.Ps
