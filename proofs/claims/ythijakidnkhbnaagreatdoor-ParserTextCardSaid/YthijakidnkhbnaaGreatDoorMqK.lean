/-
  ParserText IS TRUE FOR EVERY INPUT. The row lists some package-level variables as the program's text lays them; the card ties them.
-/
import Derived.Test.YthijakidnkhbnaaGreatDoorMqJ
import Derived.Lib.IndexLaws
import Derived.Laws.AppendOwn
set_option maxRecDepth 100000
set_option maxHeartbeats 4000000
set_option linter.unusedVariables false
set_option linter.unusedSimpArgs false
namespace Go.Proofs
open Go.Shelf
def Tryz.lays102_ren : Go.Shelf.Ren := ⟨fun | 102 => 85 | 209 => 122 | 207 => 156 | n => n, fun | 9 => 9 | 4 => 4 | 3 => 3 | n => n, fun | n => n⟩
theorem Tryz.lays102 : Go.Proofs.Lays.n102 Tryz.prog Tryz.lays102_ren := {
  mixed := by kernel_rfl
  f102 := Tryz.func85.trans (congrArg some (by kernel_rfl))
  f207 := Tryz.func156.trans (congrArg some (by kernel_rfl))
  f209 := Tryz.func122.trans (congrArg some (by kernel_rfl))
  t3 := Tryz.underlying3
  a3 := Tryz.isAgg3
  z3 := Tryz.sizeOf3
  v3 := Tryz.zeroValue3
  t4 := Tryz.underlying4
  a4 := Tryz.isAgg4
  z4 := Tryz.sizeOf4
  v4 := Tryz.zeroValue4
  t9 := Tryz.underlying9
  a9 := Tryz.isAgg9
  z9 := Tryz.sizeOf9
  v9 := Tryz.zeroValue9 }
open Go.RowKit Go.Lib in
/-- strings.TrimSuffix: "TrimSuffix returns s without the provided trailing suffix string. If s doesn't end with suffix, s is returned unchanged.": IT RETURNS 'Lib.trimSuffix s suffix'; the world is as it was. (LAID: no walk: one application.) -/
theorem Tryz.strings_TrimSuffix (s p : ByteArray) (w : World) (hs : s.size ≤ 9223372036854775807) :
    Calls Tryz.prog 85 #[.string s, .string p] w fun e w' => e = .returned (.string ⟨(Lib.trimSuffix s.data.toList p.data.toList).toArray⟩) ∧ w' = w := Any.strings_TrimSuffix Tryz.lays102 s p w hs
end Go.Proofs
namespace Go.Proofs.YthijakidnkhbnaaGreatDoor
open Go.RowKit
open Go.Proofs.YthijakidnkhbnaaGreatDoor.Ord
theorem y_not {S:World->Prop}{ρ:Operand->Value}{o:Oper}{t:TypeId}{x:Operand}{b:Bool}(ho:o.op=.unOp .not t x)(h:ρ x=.bool b):YB Tryz.prog S ρ o (.bool (!b)):=λw hS=>by
 unfold execOp;simp only[ho,h];exact⟨rfl,hS⟩
theorem reqCells_size (q:Ps.Req)(lv:Value):(aA q lv).size=28:=rfl
end Go.Proofs.YthijakidnkhbnaaGreatDoor
namespace Go.Proofs.YthijakidnkhbnaaGreatDoor.Lx
def sp:List UInt8->List UInt8->List (List UInt8)
 |[],cur=>[cur]
 |c::l,cur=>if c=10 then cur::sp l []else sp l (cur++[c])
def go:List UInt8->List UInt8->List (List UInt8)
 |[],cur=>if cur=[]then[]else[cur]
 |c::l,cur=>if c=10 then cur::go l []else go l (cur++[c])
theorem go_snoc (l:List UInt8):∀cur,go (l++[10]) cur=sp l cur:=by
 induction l with
 |nil=>intro cur;simp[go,sp]
 |cons c l ih=>intro cur;simp only[List.cons_append,go,sp];split<;>rw[ih]
theorem go_last (l:List UInt8):∀cur,(l≠[]\/cur≠[])->(∀h:l≠[],l.getLast h≠10)->go l cur=sp l cur:=by
 induction l with
 |nil=>intro cur h _;simp[go,sp];simpa using h
 |cons c l ih=>
  intro cur _ hl
  simp only[go,sp]
  by_cases hn:l=[]
  ·subst hn
   have:c≠10:=by simpa using hl (by simp)
   rw[if_neg this,if_neg this]
   simp[go,sp]
  ·have hl':∀h:l≠[],l.getLast h≠10:=λh=>by have:=hl (by simp);rwa [List.getLast_cons h]at this
   split
   ·rw[ih [] (.inl hn) hl']
   ·rw[ih _ (.inl hn) hl']
theorem hasSuffix_nl (l:List UInt8):Lib.hasSuffix (l++[10]) [10]=true:=by
 unfold Lib.hasSuffix;rw[List.isSuffixOf_iff_suffix];exact List.suffix_append _ _
theorem go_eq (l:List UInt8)(h:l≠[]):go l []=sp (Lib.trimSuffix l [10]) []:=by
 by_cases hs:l.getLast h=10
 ·obtain⟨m,rfl⟩:∃m,l=m++[10]:=⟨l.dropLast,by rw[<-hs];exact(List.dropLast_concat_getLast h).symm⟩
  rw[go_snoc,Lib.trimSuffix,if_pos (hasSuffix_nl m)]
  simp
 ·have:Lib.hasSuffix l [10]=false:=by
   rw[Bool.eq_false_iff]
   intro e
   unfold Lib.hasSuffix at e
   rw[List.isSuffixOf_iff_suffix]at e
   obtain⟨m,rfl⟩:=e
   exact hs (by simp)
  rw[Lib.trimSuffix,if_neg (by rw[this];simp)]
  exact go_last l [] (.inl h) (λ_=>hs)
theorem sp_append (a l:List UInt8):(∀c∈a,c≠10)->∀cur,sp (a++l) cur=sp l (cur++a):=by
 induction a with
 |nil=>intro _ cur;simp
 |cons c a ih=>
  intro h cur
  simp only[List.cons_append,sp]
  rw[if_neg (h c (by simp)),ih (λx hx=>h x (by simp[hx]))]
  simp
theorem occ_one (l:List UInt8)(j:Nat)(hj:j<l.length):Lib.occAt l [10] j=(l[j]==10):=by
 unfold Lib.occAt
 rw[List.drop_eq_getElem_cons hj]
 simp[List.isPrefixOf,Bool.beq_comm]
theorem splitK_sp:∀(n:Nat) (l:List UInt8),l.length<=n->Lib.splitK [10] 0 (Lib.count l [10]) l=sp l []:=by
 intro n
 induction n with
 |zero=>
  intro l hl
  obtain rfl:l=[]:=List.eq_nil_of_length_eq_zero (by omega)
  rw[Lib.count_miss (by decide)]
  rfl
 |succ n ih=>
  intro l hl
  rcases Lib.index_spec l [10]with⟨h1,h2⟩|⟨i,h1,h2,h3,h4⟩
  ·rw[Lib.count_miss h1]
   have:∀c∈l,c≠10:=by
    intro c hc e
    obtain⟨j,hj,rfl⟩:=List.mem_iff_getElem.1 hc
    have:=h2 j (by omega)
    rw[occ_one l j hj,e]at this
    simp at this
   have:=sp_append l [] this []
   simp only[List.append_nil,List.nil_append]at this
   rw[this];rfl
  ·have hr:=Lib.index_room l [10] (by omega)
   rw[h1]at hr
   have hi:i<l.length:=by simp at hr;omega
   rw[Lib.count_hit (by simp) h1,Nat.add_comm]
   have hne:¬(Lib.index l [10]== -1)=true:=λe=>by have:=beq_iff_eq.1 e;omega
   rw[Lib.splitK,if_neg hne,h1]
   have e10:l[i]=10:=by have:=h3;rw[occ_one l i hi]at this;simpa using this
   have hl2:l=l.take i++10::l.drop (i+1):=by
    rw[<-e10,<-List.drop_eq_getElem_cons hi,List.take_append_drop]
   have hbefore:∀c∈l.take i,c≠10:=by
    intro c hc e
    obtain⟨j,hj,rfl⟩:=List.mem_iff_getElem.1 hc
    simp at hj
    have:=h4 j (by omega)
    rw[occ_one l j (by omega)]at this
    simp at e
    rw[e]at this
    simp at this
   have hsp:sp l []=l.take i::sp (l.drop (i+1)) []:=by
    conv=>lhs;rw[hl2]
    rw[sp_append _ _ hbefore]
    simp[sp]
   rw[hsp]
   have ih':=ih (l.drop (i+1)) (by simp;omega)
   simpa using ih'
theorem split_lines (s:ByteArray):(Lib.splitB ⟨#[10]⟩ 0 (Lib.countB s ⟨#[10]⟩) s).map (·.data.toList)=sp s.data.toList []:=by
 rw[Lib.splitB_data]
 exact splitK_sp _ _ (Nat.le_refl _)
def rdrop (p:UInt8->Bool)(l:List UInt8):List UInt8:=(l.reverse.dropWhile p).reverse
theorem rdrop_cons (p:UInt8->Bool)(x:UInt8)(l:List UInt8):rdrop p (x::l)=if rdrop p l=[]then(if p x then[]else[x])else x::rdrop p l:=by
 unfold rdrop
 rw[List.reverse_cons,List.dropWhile_append]
 by_cases h:(l.reverse.dropWhile p)=[]
 ·rw[h]
  by_cases hp:p x<;>simp[hp]
 ·have:(l.reverse.dropWhile p).isEmpty=false:=by simpa using h
  rw[this]
  simp[h]
theorem trim_comm (p:UInt8->Bool)(l:List UInt8):(rdrop p l).dropWhile p=rdrop p (l.dropWhile p):=by
 induction l with
 |nil=>simp[rdrop]
 |cons x l ih=>
  by_cases hp:p x=true
  ·rw[List.dropWhile_cons,if_pos hp,<-ih,rdrop_cons]
   by_cases h:rdrop p l=[]
   ·rw[if_pos h,if_pos hp,h]
   ·rw[if_neg h,List.dropWhile_cons,if_pos hp]
  ·rw[List.dropWhile_cons,if_neg hp,rdrop_cons]
   split
   ·rw[List.dropWhile_cons,if_neg hp]
   ·simp[hp]
def clean (s:ByteArray):List UInt8:=Lib.trimS (aZ s).data.toList [32,9]
theorem clean_eq (s:ByteArray):clean s=rdrop (λc=>[32,9].contains c) ((aZ s).data.toList.dropWhile (λc=>[32,9].contains c)):=by
 unfold clean Lib.trimS Lib.trimLeftS Lib.trimRightS
 exact trim_comm _ _
def lines (s:ByteArray):List (List UInt8):=(go s.data.toList []).map λp=>clean ⟨p.toArray⟩
end Go.Proofs.YthijakidnkhbnaaGreatDoor.Lx
namespace Go.Proofs.YthijakidnkhbnaaGreatDoor
open Go.RowKit Go.Lib
def LxStrs (W:World)(B:Nat)(v:Value)(l:List (List UInt8)):Prop:=
 W.ownsRow B 9 1 v l.length (l.map λx=>.string ⟨x.toArray⟩)
def lxRow (ps:List ByteArray)(k:Nat):List Value:=(List.range ps.length).map λj=>.string (if j<k then⟨(Lx.clean (ps.getD j default)).toArray⟩else ps.getD j default)
theorem lxRow_zero (ps:List ByteArray):lxRow ps 0=ps.map Value.string:=by
 unfold lxRow
 apply List.ext_getElem?
 intro j
 by_cases hj:j<ps.length<;>simp[hj,List.getD]
theorem lxRow_full (ps:List ByteArray):lxRow ps ps.length=(ps.map Lx.clean).map λx=>.string ⟨x.toArray⟩:=by
 unfold lxRow
 apply List.ext_getElem?
 intro j
 by_cases hj:j<ps.length<;>simp[hj,List.getD]
theorem lxRow_at (ps:List ByteArray)(k:Nat)(h:k<ps.length):(lxRow ps k)[k]? =some (.string (ps.getD k default)):=by
 unfold lxRow;simp[h]
theorem lxRow_set (ps:List ByteArray)(k:Nat)(h:k<ps.length):(lxRow ps k).set k (.string ⟨(Lx.clean (ps.getD k default)).toArray⟩)=lxRow ps (k+1):=by
 unfold lxRow
 apply List.ext_getElem?
 intro j
 rw[List.getElem?_set]
 by_cases hj:k=j
 ·subst hj;simp[h]
 ·rw[if_neg hj]
  by_cases hl:j<ps.length
  ·simp[hl]
   by_cases h2:j<k
   ·rw[if_pos h2,if_pos (by omega)]
   ·rw[if_neg h2,if_neg (by omega)]
  ·simp[hl]
theorem lx_trim (s:ByteArray)(W:World)(hs:s.size<=9223372036854775807):
 Calls Tryz.prog 86 #[.string s,.string ⟨#[32,9]⟩] W λe w'=>e=.returned (.string ⟨(Lib.trimS s.data.toList [32,9]).toArray⟩)/\Below W.heap.size W w':=
 Any.strings_Trim_laid Tryz.lays160 (by kernel_rfl) s ⟨#[32,9]⟩ W hs (by decide) (ascii_of_all (by decide))
theorem lx_trimSuffix_le (l p:List UInt8):(Lib.trimSuffix l p).length<=l.length:=by
 unfold Lib.trimSuffix
 split<;>simp
theorem lx_pieces10_le (k:Nat):∀(s:ByteArray),∀p∈Lib.splitB ⟨#[10]⟩ 0 k s,p.size<=s.size:=by
 induction k with
 |zero=>intro s p hp;simp[Lib.splitB]at hp;subst hp;exact Nat.le_refl _
 |succ k ih=>
  intro s p hp
  unfold Lib.splitB at hp
  split at hp
  ·simp at hp;subst hp;exact Nat.le_refl _
  ·rcases List.mem_cons.1 hp with rfl|hp
   ·simp[ByteArray.size_extract];omega
   ·have:=ih _ p hp
    simp[ByteArray.size_extract]at this;omega
theorem lx_lines_plain (s:ByteArray)(h:s.toList≠[]):Lx.lines s=(Lib.splitB ⟨#[10]⟩ 0 (Lib.countB ⟨(Lib.trimSuffix s.data.toList [10]).toArray⟩ ⟨#[10]⟩) ⟨(Lib.trimSuffix s.data.toList [10]).toArray⟩).map Lx.clean:=by
 unfold Lx.lines
 rw[Lx.go_eq _ (by rw[<-Lib.toList_data];exact h)]
 have:=Lx.split_lines ⟨(Lib.trimSuffix s.data.toList [10]).toArray⟩
 simp only at this
 rw[<-this,List.map_map]
 apply List.map_congr_left
 intro x _
 simp only[Function.comp]
theorem lx_lines (s:ByteArray)(w:World)(m:Int)(kb ko kc:Nat)(hs:s.size<=1073741824)(h:kr m kb ko kc w):
 Calls Tryz.prog 46 #[.string s] w λe w'=>∃v,e=.returned v/\LxStrs w' w.heap.size v (Lx.lines s)/\Below w.heap.size w w':=by
 by_cases he:s.toList=[]
 ·clear h
  go_enter Tryz.func46,Tryz.ntmps46
  go_wp2
  go_ret
  have:Lx.lines s=[]:=by unfold Lx.lines;rw[<-Lib.toList_data,he];rfl
  rw[this]
  exact⟨_,rfl,World.ownsRow_nil _ _ _ _,Below.refl _ _⟩
 ·have hemp:s.toList.isEmpty=false:=by simpa using he
  have h1:=λW=>Tryz.strings_TrimSuffix s ⟨#[10]⟩ W (by omega)
  have ht:(Lib.trimSuffix s.data.toList [10]).length<=s.size:=by rw[Lib.size_eq];exact lx_trimSuffix_le _ _
  have h2:=Tryz.strings_Split ⟨(Lib.trimSuffix s.data.toList [10]).toArray⟩ ⟨#[10]⟩ m w (by rw[dL];omega) h.maxlen (by decide)
  have HL:=Lib.hid (lx_lines_plain s he)
  have hlen:=Lib.splitB_all ⟨#[10]⟩ (by decide) 0 _ ⟨(Lib.trimSuffix s.data.toList [10]).toArray⟩ rfl
  have hle:=lx_pieces10_le (Lib.countB ⟨(Lib.trimSuffix s.data.toList [10]).toArray⟩ ⟨#[10]⟩) ⟨(Lib.trimSuffix s.data.toList [10]).toArray⟩
  have hcb:=Lib.countB_le ⟨#[10]⟩ (by decide) _ ⟨(Lib.trimSuffix s.data.toList [10]).toArray⟩ (Nat.le_refl _)
  rw[dL]at hle hcb
  rw[<-hlen]at h2
  generalize Lib.splitB ⟨#[10]⟩ 0 (Lib.countB ⟨(Lib.trimSuffix s.data.toList [10]).toArray⟩ ⟨#[10]⟩) ⟨(Lib.trimSuffix s.data.toList [10]).toArray⟩=ps at *
  generalize Lib.countB ⟨(Lib.trimSuffix s.data.toList [10]).toArray⟩ ⟨#[10]⟩=c at *
  simp only at h1
  generalize Lib.trimSuffix s.data.toList [10]=tr at *
  have hn:ps.length<=1073741825:=by omega
  have hown0:=World.ownsRow_lit (base:=w.heap.size) (e:=9) (size:=1) w (ps.map Value.string).toArray ps.length (Nat.le_refl _) (by unfold maxLen;omega) (by simp)
  clear hlen hcb h he
  go_enter Tryz.func46,Tryz.ntmps46
  go_wp2_with fail
  refine(h1 _).mono ?_
  rintro e w' ⟨rfl,rfl⟩
  go_wp2_with fail
  refine h2.mono ?_
  rintro e w1 ⟨rfl,rfl⟩
  go_wp2_with fail
  go_loopw [13] (λi wr=>∃k:Nat,k<=ps.length/\i=.int .i64 k/\Below w'.heap.size w' wr/\w'.heap.size<wr.heap.size/\
   wr.ownsRow w'.heap.size 9 1 (.slice (some ⟨w'.heap.size,0,none⟩) ps.length ps.length) ps.length (lxRow ps k)) (λi _=>ps.length-(RowKit.intOf i).toNat)
  case atStart=>exact⟨0,Nat.zero_le _,rfl,(Below.refl _ _).alloc (Nat.le_refl _) _,by simp,by rw[lxRow_zero];simpa using hown0⟩
  case round=>
   obtain⟨k,hk,rfl,hbel,hsz,hown⟩:=hrel
   clear h1 h2 hown0
   by_cases hlt:k<ps.length
   ·have hcell:=(hown.cellAt k (by omega)).trans (lxRow_at ps k hlt)
    have hx:(ps.getD k default).size<=1073741824:=by
     have:=hle (ps.getD k default) (by rw[List.getD_eq_getElem?_getD,List.getElem?_eq_getElem hlt];simp)
     omega
    have HS:=Lib.hid (lxRow_set ps k hlt)
    generalize ps.getD k default=x at *
    have h3:=λW=>zG x W (by omega)
    have h4:=λW=>lx_trim (Lx.aZ x) W (by unfold Lx.aZ;rw[ByteArray.size_extract];omega)
    simp only[show Lib.trimS (Lx.aZ x).data.toList [32,9]=Lx.clean x from rfl]at h4
    clear hle
    go_wp2_with fail
    refine(h3 _).mono ?_
    rintro e w2 ⟨rfl,rfl⟩
    go_wp2_with fail
    refine(h4 _).mono ?_
    rintro e w3 ⟨rfl,hb3⟩
    have hown3:=wE hown hb3
    have hcell3:=(hb3.cell (p:=⟨w'.heap.size,k,none⟩) hsz).trans hcell
    have hfr3:=hown3.frozenAt k
    go_wp2_with fail
    have hst:=(hown3.stored k (.string ⟨(Lx.clean x).toArray⟩)).1
    rw[HS.out]at hst
    go_roundw
    case rel=>exact⟨k+1,by omega,by go_num,(hbel.trans (hb3.mono (by have:=hbel.size;omega))).setCell (Nat.le_refl _) _,by have:=hb3.size;simp;omega,hst⟩
    case measure=>simp[RowKit.intOf];omega
   ·obtain rfl:k=ps.length:=by omega
    go_wp2_with fail
    go_ret
    refine⟨_,rfl,?_,hbel⟩
    rw[HL.out]
    unfold LxStrs
    rw[<-lxRow_full]
    simpa using hown
end Go.Proofs.YthijakidnkhbnaaGreatDoor
namespace Go.Proofs.YthijakidnkhbnaaGreatDoor
open Go.RowKit Go.Lib
theorem rx_blank (c:Int)(w:World):
 Calls Tryz.prog 43 #[.int .u8 c] w λe w'=>e=.returned (.bool (Lx.blank c))/\w=w':=by
 go_enter Tryz.func43,Tryz.ntmps43
 go_wp2
 all_goals go_ret
 all_goals exact⟨bY (by first|(simp[Lx.blank];done)|(simp[Lx.blank];omega)),rfl⟩
def lxP (c:UInt8):Bool:=[32,9].contains c
theorem lxP_eq (c:UInt8):Lx.blank (c.toNat:Int)=lxP c:=by
 have key:∀n:Fin 256,Lx.blank (n.val:Int)=lxP n.val.toUInt8:=by decide +kernel
 have h:=key ⟨c.toNat,c.toNat_lt⟩
 simpa using h
theorem lx_drop_head (t:ByteArray)(h:0<t.size)(D:List UInt8)(hD:t.data.toList.dropWhile lxP=D)(hb:Lx.blank (t[0].toNat:Int)=true):(t.extract 1 t.size).data.toList.dropWhile lxP=D:=by
 obtain⟨⟨l⟩⟩:=t
 cases l with
 |nil=>simp[ByteArray.size]at h
 |cons c l=>
  have hb':Lx.blank (c.toNat:Int)=true:=hb
  rw[lxP_eq]at hb'
  simp only at hD
  rw[List.dropWhile_cons,if_pos hb']at hD
  rw[Lib.extract_data]
  simp[ByteArray.size]
  exact hD
theorem lx_drop_stop (t:ByteArray)(D:List UInt8)(hD:t.data.toList.dropWhile lxP=D)(hb:(h:0<t.size)->Lx.blank (t[0].toNat:Int)=false):t.data.toList=D:=by
 obtain⟨⟨l⟩⟩:=t
 cases l with
 |nil=>simpa using hD
 |cons c l=>
  have hb':Lx.blank (c.toNat:Int)=false:=hb (by simp[ByteArray.size])
  rw[lxP_eq]at hb'
  simp only at hD
  rw[List.dropWhile_cons,if_neg (by rw[hb'];simp)]at hD
  exact hD
theorem lx_rdrop_snoc (l:List UInt8)(c:UInt8):Lx.rdrop lxP (l++[c])=if lxP c then Lx.rdrop lxP l else l++[c]:=by
 unfold Lx.rdrop
 rw[List.reverse_append,List.reverse_singleton,List.singleton_append,List.dropWhile_cons]
 split<;>simp
theorem lx_last (t:ByteArray)(h:0<t.size)(hne:t.data.toList≠[]):t.data.toList.getLast hne=t[t.size-1]:=by
 obtain⟨⟨l⟩⟩:=t
 exact List.getLast_eq_getElem hne
theorem lx_rdrop_last (t:ByteArray)(h:0<t.size)(D:List UInt8)(hD:Lx.rdrop lxP t.data.toList=D)(hb:Lx.blank (t[t.size-1].toNat:Int)=true):Lx.rdrop lxP (t.extract 0 (t.size-1)).data.toList=D:=by
 have hne:t.data.toList≠[]:=by intro e;rw[Lib.size_eq,e]at h;simp at h
 have hl:=List.dropLast_concat_getLast hne
 have e1:=lx_last t h hne
 rw[<-hl,e1,lx_rdrop_snoc,if_pos (by rw[<-lxP_eq];exact hb)]at hD
 rw[Lib.extract_from_zero,Lib.size_eq,<-List.dropLast_eq_take]
 exact hD
theorem lx_rdrop_stop (t:ByteArray)(D:List UInt8)(hD:Lx.rdrop lxP t.data.toList=D)(hb:(h:0<t.size)->Lx.blank (t[t.size-1].toNat:Int)=false):t.data.toList=D:=by
 by_cases h:0<t.size
 ·have hne:t.data.toList≠[]:=by intro e;rw[Lib.size_eq,e]at h;simp at h
  have hl:=List.dropLast_concat_getLast hne
  have e1:=lx_last t h hne
  rw[<-hl,e1,lx_rdrop_snoc,if_neg (by rw[<-lxP_eq,hb h];simp),<-e1,hl]at hD
  exact hD
 ·have:t.data.toList=[]:=by
   apply List.eq_nil_of_length_eq_zero
   rw[<-Lib.size_eq];omega
  rw[this]at hD⊢
  exact hD
theorem rx_clean (s:ByteArray)(w:World)(hs:s.size<=1073741824):
 Calls Tryz.prog 47 #[.string s] w λe w'=>e=.returned (.string ⟨(Lx.clean s).toArray⟩)/\w=w':=by
 go_enter Tryz.func47,Tryz.ntmps47
 go_wp2_with fail
 go_loopg [0,3] (s.size+1) (λgg v i wr=>∃(t:ByteArray) (k:Nat),v=.string t/\i=.int .i64 k/\wr=w/\t.size<=1073741824/\t.size+1<=gg+k/\
  Aside ((t=s/\k<=s.size/\∀j,j<k->Lx.isC s.data.toList j=false)\/(t=Lx.aZ s/\k=t.size+1)))
 case atStart=>exact⟨s,0,rfl,rfl,rfl,hs,by omega,.inl ⟨rfl,Nat.zero_le _,λj hj=>by omega⟩⟩
 case round=>
  obtain⟨t,k,rfl,rfl,rfl,ht,hg,hA⟩:=hrel
  by_cases hlt:k<t.size
  ·have hA':Aside (t=s/\∀j,j<k->Lx.isC s.data.toList j=false):=by
    rcases hA.out with⟨h1,h2,h3⟩|⟨h1,h2⟩
    ·exact⟨h1,h3⟩
    ·omega
   clear hA
   have hget:t.data.toList[k]? =some t[k]:=by
    rw[Array.getElem?_toList]
    exact Array.getElem?_eq_getElem hlt
   have e35:((t[k].toNat:Int)=35)↔t[k]=35:=by
    rw[<-UInt8.toNat_inj]
    show((t[k].toNat:Int)=35)↔(t[k].toNat=35)
    omega
   have hsame:Aside (∀b,Lx.isC t.data.toList k=b->Lx.isC s.data.toList k=b):=λb hb=>by rw[<-hA'.out.1];exact hb
   by_cases zZ:(t[k].toNat:Int)=35
   ·by_cases h0:k=0
    ·subst h0
     have HC:Aside (Lx.isC t.data.toList 0=true):=by show _=_;unfold Lx.isC;rw[hget,e35.1 zZ];rfl
     have CP:((t[0].toNat:Int)==35)=true:=by simpa using zZ
     clear hget e35 zZ
     go_wp2_with fail
     go_roundg 0
     case measure=>omega
     case rel=>
      have hcut:=Lx.qm s.data.toList 0 (by rw[<-Lib.size_eq,<-hA'.out.1];omega) (hsame.out _ HC.out) (λj hj=>by omega)
      refine⟨ByteArray.empty,1,rfl,by go_num,rfl,by simp,by simp,.inr ⟨?_,by simp⟩⟩
      rw[Lx.aZ,hcut];simp[ByteArray.extract_same]
    ·have hk1:k-1<t.size:=by omega
     have O8:t.data.toList[k-1]? =some t[k-1]:=by
      rw[Array.getElem?_toList]
      exact Array.getElem?_eq_getElem hk1
     have HC:Aside (Lx.isC t.data.toList k=Lx.blank (t[k-1].toNat:Int)):=by
      show _=_
      unfold Lx.isC;rw[hget,O8,e35.1 zZ]
      have:(k==0)=false:=by simpa using h0
      simp[this]
     have CP:((t[k].toNat:Int)==35)=true:=by simpa using zZ
     have hb0:((k:Int)==0)=false:=by simpa using h0
     have hcall:=λW=>rx_blank (t[k-1].toNat:Int) W
     have hkpos:1<=k:=by omega
     clear hget O8 e35 zZ h0
     cases hq:Lx.blank (t[k-1].toNat:Int)with
     |true=>
      rw[hq]at hcall
      rw[hq]at HC
      clear hq
      go_wp2_with (go_at_call 43;refine(hcall _).mono ?_;rintro e w' ⟨rfl,rfl⟩)
      go_roundg 0
      case measure=>omega
      case rel=>
       have hcut:=Lx.qm s.data.toList k (by rw[<-Lib.size_eq,<-hA'.out.1];omega) (hsame.out _ HC.out) hA'.out.2
       refine⟨t.extract 0 k,k+1,rfl,by go_num,rfl,by rw[ByteArray.size_extract];omega,by rw[ByteArray.size_extract];omega,.inr ⟨?_,by rw[ByteArray.size_extract];omega⟩⟩
       rw[Lx.aZ,hcut,hA'.out.1]
     |false=>
      rw[hq]at hcall
      rw[hq]at HC
      clear hq
      go_wp2_with (go_at_call 43;refine(hcall _).mono ?_;rintro e w' ⟨rfl,rfl⟩)
      go_roundg (gk-1)
      case measure=>omega
      case rel=>
       refine⟨t,k+1,rfl,by go_num,rfl,by omega,by omega,.inl ⟨hA'.out.1,by rw[<-hA'.out.1];omega,λj hj=>?_⟩⟩
       by_cases e:j=k
       ·subst e;exact hsame.out _ HC.out
       ·exact hA'.out.2 j (by omega)
   ·have HC:Aside (Lx.isC t.data.toList k=false):=by
     show _=_
     unfold Lx.isC;rw[hget]
     have:¬t[k]=35:=λe=>zZ (e35.2 e)
     simp[this]
    have CP:((t[k].toNat:Int)==35)=false:=by simpa using zZ
    clear hget e35 zZ
    go_wp2_with fail
    go_roundg (gk-1)
    case measure=>omega
    case rel=>
     refine⟨t,k+1,rfl,by go_num,rfl,by omega,by omega,.inl ⟨hA'.out.1,by rw[<-hA'.out.1];omega,λj hj=>?_⟩⟩
     by_cases e:j=k
     ·subst e;exact hsame.out _ HC.out
     ·exact hA'.out.2 j (by omega)
  ·have hU:Aside (t=Lx.aZ s):=by
    rcases hA.out with⟨h1,h2,h3⟩|⟨h1,h2⟩
    ·obtain rfl:k=s.size:=by rw[h1]at hlt;omega
     show _=_
     rw[Lx.aZ,Lx.uT s.data.toList (λj hj=>h3 j (by rw[Lib.size_eq];exact hj)),<-Lib.size_eq,Lx.extract_all]
     exact h1
    ·exact h1
   clear hA
   go_wp2_with fail
   go_loopg [0] t.size (λgg v wr'=>∃(u:ByteArray),v=.string u/\wr'=wr/\u.size<=1073741824/\u.size<=gg/\
    Aside (u.data.toList.dropWhile lxP=t.data.toList.dropWhile lxP))
   case atStart=>exact⟨t,rfl,rfl,ht,Nat.le_refl _,rfl⟩
   case round=>
    obtain⟨u,rfl,rfl,hu,hgu,hD⟩:=hrel
    by_cases hpos:0<u.size
    ·have hcall:=λW=>rx_blank (u[0].toNat:Int) W
     cases hq:Lx.blank (u[0].toNat:Int)with
     |true=>
      rw[hq]at hcall
      have hq':Aside (Lx.blank (u[0].toNat:Int)=true):=hq
      clear hq
      go_wp2_with (go_at_call 43;refine(hcall _).mono ?_;rintro e w' ⟨rfl,rfl⟩)
      go_roundg (gk-1)
      case measure=>omega
      case rel=>exact⟨u.extract 1 u.size,rfl,rfl,by rw[ByteArray.size_extract];omega,by rw[ByteArray.size_extract];omega,lx_drop_head u hpos _ hD.out hq'.out⟩
     |false=>
      rw[hq]at hcall
      have hL:Aside (u.data.toList=t.data.toList.dropWhile lxP):=lx_drop_stop u _ hD.out (λ_=>hq)
      clear hq
      go_wp2_with (go_at_call 43;refine(hcall _).mono ?_;rintro e w' ⟨rfl,rfl⟩)
      go_loopg [0] u.size (λgg v wr'=>∃(x:ByteArray),v=.string x/\wr'=wr/\x.size<=1073741824/\x.size<=gg/\
       Aside (Lx.rdrop lxP x.data.toList=Lx.rdrop lxP u.data.toList))
      case atStart=>exact⟨u,rfl,rfl,hu,Nat.le_refl _,rfl⟩
      case round=>
       obtain⟨x,rfl,rfl,hx,hgx,hR⟩:=hrel
       have HF:Aside (∀l,l=Lx.rdrop lxP u.data.toList->l=Lx.clean s):=λl hl=>by
        rw[hl,Lx.clean_eq,hL.out,hU.out];rfl
       by_cases hpos3:0<x.size
       ·have hcall3:=λW=>rx_blank (x[x.size-1].toNat:Int) W
        cases hq3:Lx.blank (x[x.size-1].toNat:Int)with
        |true=>
         rw[hq3]at hcall3
         have hq':Aside (Lx.blank (x[x.size-1].toNat:Int)=true):=hq3
         clear hq3
         go_wp2_with (go_at_call 43;refine(hcall3 _).mono ?_;rintro e w' ⟨rfl,rfl⟩)
         go_roundg (gk-1)
         case measure=>omega
         case rel=>exact⟨x.extract 0 (x.size-1),rfl,rfl,by rw[ByteArray.size_extract];omega,by rw[ByteArray.size_extract];omega,lx_rdrop_last x hpos3 _ hR.out hq'.out⟩
        |false=>
         rw[hq3]at hcall3
         have hS:Aside (x.data.toList=Lx.clean s):=HF.out _ (lx_rdrop_stop x _ hR.out (λ_=>hq3))
         clear hq3
         go_wp2_with (go_at_call 43;refine(hcall3 _).mono ?_;rintro e w' ⟨rfl,rfl⟩)
         go_ret
         refine⟨?_,rfl⟩
         rw[<-hS.out,Lib.mk_data]
         rfl
       ·have hS:Aside (x.data.toList=Lx.clean s):=HF.out _ (lx_rdrop_stop x _ hR.out (λh=>absurd h hpos3))
        go_wp2_with fail
        go_ret
        refine⟨?_,rfl⟩
        rw[<-hS.out,Lib.mk_data]
        rfl
    ·have hL:Aside (u.data.toList=t.data.toList.dropWhile lxP):=lx_drop_stop u _ hD.out (λh=>absurd h hpos)
     go_wp2_with fail
     go_loopg [0] u.size (λgg v wr'=>∃(x:ByteArray),v=.string x/\wr'=wr/\x.size<=1073741824/\x.size<=gg/\
      Aside (Lx.rdrop lxP x.data.toList=Lx.rdrop lxP u.data.toList))
     case atStart=>exact⟨u,rfl,rfl,hu,Nat.le_refl _,rfl⟩
     case round=>
      obtain⟨x,rfl,rfl,hx,hgx,hR⟩:=hrel
      have HF:Aside (∀l,l=Lx.rdrop lxP u.data.toList->l=Lx.clean s):=λl hl=>by
       rw[hl,Lx.clean_eq,hL.out,hU.out];rfl
      by_cases hpos3:0<x.size
      ·have hcall3:=λW=>rx_blank (x[x.size-1].toNat:Int) W
       cases hq3:Lx.blank (x[x.size-1].toNat:Int)with
       |true=>
        rw[hq3]at hcall3
        have hq':Aside (Lx.blank (x[x.size-1].toNat:Int)=true):=hq3
        clear hq3
        go_wp2_with (go_at_call 43;refine(hcall3 _).mono ?_;rintro e w' ⟨rfl,rfl⟩)
        go_roundg (gk-1)
        case measure=>omega
        case rel=>exact⟨x.extract 0 (x.size-1),rfl,rfl,by rw[ByteArray.size_extract];omega,by rw[ByteArray.size_extract];omega,lx_rdrop_last x hpos3 _ hR.out hq'.out⟩
       |false=>
        rw[hq3]at hcall3
        have hS:Aside (x.data.toList=Lx.clean s):=HF.out _ (lx_rdrop_stop x _ hR.out (λ_=>hq3))
        clear hq3
        go_wp2_with (go_at_call 43;refine(hcall3 _).mono ?_;rintro e w' ⟨rfl,rfl⟩)
        go_ret
        refine⟨?_,rfl⟩
        rw[<-hS.out,Lib.mk_data]
        rfl
      ·have hS:Aside (x.data.toList=Lx.clean s):=HF.out _ (lx_rdrop_stop x _ hR.out (λh=>absurd h hpos3))
       go_wp2_with fail
       go_ret
       refine⟨?_,rfl⟩
       rw[<-hS.out,Lib.mk_data]
       rfl
end Go.Proofs.YthijakidnkhbnaaGreatDoor
namespace Go.Proofs.YthijakidnkhbnaaGreatDoor
open Go.RowKit Go.Lib
theorem lx_infoStr:(Tryz.prog.info? 9).map (λi=>(i.zero,i.size,i.bytes))=some (some (.string ByteArray.empty),1,16):=by kernel_rfl
theorem rx_go_feed (s:ByteArray)(f k:Nat)(h:k<s.size)(e:s[k]=10):
 Lx.go (s.data.toList.drop k) ((s.data.toList.drop f).take (k-f))=(s.data.toList.drop f).take (k-f)::Lx.go (s.data.toList.drop (k+1)) []:=by
 rw[List.drop_eq_getElem_cons (by rw[<-Lib.size_eq];exact h)]
 simp only[Lx.go]
 rw[if_pos]
 rw[Array.getElem_toList];exact e
theorem rx_go_other (s:ByteArray)(f k:Nat)(hf:f<=k)(h:k<s.size)(e:¬s[k]=10):
 Lx.go (s.data.toList.drop k) ((s.data.toList.drop f).take (k-f))=Lx.go (s.data.toList.drop (k+1)) ((s.data.toList.drop f).take (k+1-f)):=by
 have hk:k<s.data.toList.length:=by rw[<-Lib.size_eq];exact h
 rw[List.drop_eq_getElem_cons hk]
 simp only[Lx.go]
 rw[if_neg (by rw[Array.getElem_toList];exact e)]
 congr 1
 rw[show k+1-f=(k-f)+1 by omega,List.take_succ_eq_append_getElem (by simp;omega)]
 congr 2
 simp
 congr 1
 omega
theorem rx_go_end (s:ByteArray)(f:Nat)(h:f<s.size):Lx.go (s.data.toList.drop s.size) ((s.data.toList.drop f).take (s.size-f))=[(s.data.toList.drop f).take (s.size-f)]:=by
 rw[List.drop_eq_nil_of_le (by rw[<-Lib.size_eq];exact Nat.le_refl _)]
 simp only[Lx.go]
 rw[if_neg]
 intro e
 have:=congrArg List.length e
 rw[List.length_take,List.length_drop,<-Lib.size_eq]at this
 simp at this
 omega
theorem rx_lines (s:ByteArray)(w:World)(hs:s.size<=1073741824):
 Calls Tryz.prog 18 #[.string s] w λe w'=>∃v,e=.returned v/\LxStrs w' w.heap.size v (Lx.lines s)/\Below w.heap.size w w':=by
 obtain⟨i0,hi,hz0,hz1,hz2⟩:=info_parts lx_infoStr
 go_enter Tryz.func18,Tryz.ntmps18
 go_wp2_with fail
 go_loopw [3,4,5] (λv a i wr=>∃(f k:Nat) (done:List (List UInt8)),f<=k/\k<=s.size/\a=.int .i64 f/\i=.int .i64 k/\done.length<=k/\Below w.heap.size w wr/\
  wr.ownsRow w.heap.size 9 1 v done.length (done.map λx=>.string ⟨x.toArray⟩)/\
  Hid (Lx.lines s=done++(Lx.go (s.data.toList.drop k) ((s.data.toList.drop f).take (k-f))).map λp=>Lx.clean ⟨p.toArray⟩)) (λ_ _ i _=>s.size-(RowKit.intOf i).toNat)
 case atStart=>exact⟨0,0,[],Nat.le_refl _,Nat.zero_le _,rfl,rfl,Nat.le_refl _,Below.refl _ _,World.ownsRow_nil _ _ _ _,by show _=_;simp[Lx.lines]⟩
 case round=>
  obtain⟨f,k,done,hfk,hk,rfl,rfl,hdone,hbel,hown,hH⟩:=hrel
  by_cases hlt:k<s.size
  ·have e10:((s[k].toNat:Int)=10)↔s[k]=10:=by
    rw[<-UInt8.toNat_inj]
    show((s[k].toNat:Int)=10)↔(s[k].toNat=10)
    omega
   by_cases h10:(s[k].toNat:Int)=10
   ·have HG:=Lib.hid (rx_go_feed s f k hlt (e10.1 h10))
    have hb10:((s[k].toNat:Int)==10)=true:=by simpa using h10
    have hcall:=λW=>rx_clean (s.extract f k) W (by rw[ByteArray.size_extract];omega)
    have HX:=Lib.hid (Lib.extract_eq s f k)
    generalize hq:Lx.clean (s.extract f k)=q at *
    have HQ:=Lib.hid hq
    clear e10 h10 hq
    go_wp2_with fail
    refine(hcall _).mono ?_
    rintro e w' ⟨rfl,rfl⟩
    go_wp2_with (at_builtin;refine wpList_append_own _ rfl _ _ 51 rfl w.heap.size 9 i0 _ 1 16 Tryz.underlying51 hi hz0 hz1 hz2 rfl (by decide) _ _ _ rfl (hown.alloc _) ⟨wr.heap.size,0,none⟩ 1 1 [.string ⟨q.toArray⟩] rfl rfl ?c1 ?c2 ?c3 ?c4 ?c5 ?_)
    case c1=>
     intro j u hj
     match j,hj with
     |0,hj=>simp at hj;subst hj;simp[Addr.add]
     |j+1,hj=>simp at hj
    case c2=>intro u hu;simp at hu;subst hu;rfl
    case c3=>unfold maxLen;omega
    case c4=>omega
    case c5=>have:=hbel.size;simp;omega
    intro v' w3 hown3 hgrow3 _
    have kX:=(hbel.alloc hbel.size _).grown hgrow3 (by have:=hbel.size;simp;omega) (λk hk=>(hown.lt k hk).1)
    clear hgrow3 hown hbel
    go_wp2_with fail
    go_roundw
    case rel=>
     refine⟨k+1,k+1,done++[q],Nat.le_refl _,by omega,by go_num,by go_num,by simp;omega,kX,by simpa using hown3,?_⟩
     show _=_
     rw[hH.out,HG.out]
     simp[<-HQ.out,<-HX.out]
    case measure=>simp[RowKit.intOf];omega
   ·have HG:=Lib.hid (rx_go_other s f k hfk hlt (λe=>h10 (e10.2 e)))
    have hb10:((s[k].toNat:Int)==10)=false:=by simpa using h10
    clear e10 h10
    go_wp2_with fail
    go_roundw
    case rel=>
     refine⟨f,k+1,done,by omega,by omega,rfl,by go_num,by omega,hbel,hown,?_⟩
     show _=_
     rw[hH.out,HG.out]
    case measure=>simp[RowKit.intOf];omega
  ·obtain rfl:k=s.size:=by omega
   by_cases hf:f<s.size
   ·have HG:=Lib.hid (rx_go_end s f hf)
    have hcall:=λW=>rx_clean (s.extract f s.size) W (by rw[ByteArray.size_extract];omega)
    have HX:=Lib.hid (Lib.extract_eq s f s.size)
    generalize hq:Lx.clean (s.extract f s.size)=q at *
    have HQ:=Lib.hid hq
    clear hq
    go_wp2_with fail
    refine(hcall _).mono ?_
    rintro e w' ⟨rfl,rfl⟩
    go_wp2_with (at_builtin;refine wpList_append_own _ rfl _ _ 51 rfl w.heap.size 9 i0 _ 1 16 Tryz.underlying51 hi hz0 hz1 hz2 rfl (by decide) _ _ _ rfl (hown.alloc _) ⟨wr.heap.size,0,none⟩ 1 1 [.string ⟨q.toArray⟩] rfl rfl ?c1 ?c2 ?c3 ?c4 ?c5 ?_)
    case c1=>
     intro j u hj
     match j,hj with
     |0,hj=>simp at hj;subst hj;simp[Addr.add]
     |j+1,hj=>simp at hj
    case c2=>intro u hu;simp at hu;subst hu;rfl
    case c3=>unfold maxLen;omega
    case c4=>omega
    case c5=>have:=hbel.size;simp;omega
    intro v' w3 hown3 hgrow3 _
    have kX:=(hbel.alloc hbel.size _).grown hgrow3 (by have:=hbel.size;simp;omega) (λk hk=>(hown.lt k hk).1)
    clear hgrow3 hown hbel
    go_wp2_with fail
    go_ret
    refine⟨_,rfl,?_,kX⟩
    rw[hH.out,HG.out]
    unfold LxStrs
    simpa[<-HQ.out,<-HX.out]using hown3
   ·obtain rfl:f=s.size:=by omega
    go_wp2_with fail
    go_ret
    refine⟨_,rfl,?_,hbel⟩
    rw[hH.out]
    unfold LxStrs
    have:List.drop s.size s.data.toList=[]:=List.drop_eq_nil_of_le (by rw[<-Lib.size_eq];exact Nat.le_refl _)
    rw[this]
    simpa[Lx.go]using hown
end Go.Proofs.YthijakidnkhbnaaGreatDoor
namespace Go.Proofs.YthijakidnkhbnaaGreatDoor
open Go.RowKit
open Go.Proofs.YthijakidnkhbnaaGreatDoor.Ord
abbrev TxR:=Int×Ps.Req×Int×Int
def txCells (r:TxR)(lv:Value):List Value:=.int .i64 r.1::.int .i64 r.2.2.1::((aA r.2.1 lv).toList++[.int .i64 r.2.2.2])
def txRow:List TxR->List Value->List Value
 |r::rs,lv::lvs=>txCells r lv++txRow rs lvs
 |_,_=>[]
theorem txRow_snoc:∀(rs:List TxR) (lvs:List Value) (r:TxR) (lv:Value),lvs.length=rs.length->txRow (rs++[r]) (lvs++[lv])=txRow rs lvs++txCells r lv
 |[],[],r,lv,_=>by simp[txRow]
 |x::rs,y::lvs,r,lv,h=>by
  simp only[List.cons_append,txRow,List.append_assoc]
  rw[txRow_snoc rs lvs r lv (by simpa using h)]
 |[],_::_,_,_,h=>by cases h
 |_::_,[],_,_,h=>by cases h
theorem txRow_at:∀(rs:List TxR) (lvs:List Value) (k:Nat) (r:TxR) (lv:Value) (i:Nat),lvs.length=rs.length->rs[k]? =some r->lvs[k]? =some lv->i<31->(txRow rs lvs)[k*31+i]? =(txCells r lv)[i]?
 |[],_,_,_,_,_,_,h,_,_=>by simp at h
 |_::_,[],_,_,_,_,h,_,_,_=>by cases h
 |x::rs,y::lvs,k,r,lv,i,h,h1,h2,hi=>by
  have hl:∀(r:TxR) (lv:Value),(txCells r lv).length=31:=λr lv=>by simp[txCells,aA,aB,aG]
  cases k with
  |zero=>
   cases h1;cases h2
   show(txCells x y++txRow rs lvs)[0*31+i]? =_
   rw[Nat.zero_mul,Nat.zero_add,List.getElem?_append_left (by rw[hl];exact hi)]
  |succ k=>
   show(txCells x y++txRow rs lvs)[(k+1)*31+i]? =_
   rw[List.getElem?_append_right (by rw[hl];omega),hl,show(k+1)*31+i-31=k*31+i by omega]
   exact txRow_at rs lvs k r lv i (by simpa using h) (by simpa using h1) (by simpa using h2) hi
section
variable {P : Program}
theorem run_loadVar_at (w:World)(g o:Nat)(ty:TypeId)(cs:Array Value)(d:TypeDesc)(hc:∀j v,cs.toList[j]? =some v->w.cell? ⟨g,o+j,none⟩=some v)
 (hu:P.underlying ty=some d) (hd:(match d with| .struct _| .array _ _=>true|_=>false)=true) (hi:(P.info? ty).map (·.size)=some cs.size):
 (loadVar ty ⟨g,o,none⟩).run P w=.ok (.agg cs) w:=by
 have hl:(loadCells ⟨g,o,none⟩ cs.toList.length).run P w=.ok cs.toList.toArray w:=
  run_loadCells_list (P:=P) w ⟨g,o,none⟩ cs.toList (λj v hv=>by
   have hadd:(⟨g,o,none⟩:Addr).add j=⟨g,o+j,none⟩:=by unfold Addr.add;split<;>simp_all
   rw[hadd]
   exact hc j v hv)
 cases hq:P.info? ty with
 |none=>simp[hq]at hi
 |some i=>
  have hs:i.size=cs.size:=by simpa[hq]using hi
  have hagg:(isAgg ty).run P w=.ok true w:=by
   unfold isAgg
   rw[Sem.run_bind,run_underlying hu w]
   cases d<;>simp_all
  simp only[Array.length_toList,Array.toArray_toList]at hl
  simp[loadVar,Sem.run_bind,hagg,sizeOf,typeInfo,hq,hs,hl]
end
theorem ld_resQ (g o:Nat)(Q:Ps.Req)(lv:Value)(w:World)(h:∀j v,(aA Q lv).toList[j]? =some v->w.cell? ⟨g,o+j,none⟩=some v):(Instr.loadAt 29 (.pointer (some ⟨g,o,none⟩))).run Tryz.prog w=.ok (.agg (aA Q lv)) w:=by
 have:=run_loadVar_at (P:=Tryz.prog) w g o 29 (aA Q lv) _ h Tryz.underlying29 rfl (by kernel_rfl)
 unfold Instr.loadAt
 simp[Instr.sureAddr,this]
theorem ld_er (p:Addr)(w:World)(n:Int)(h:w.cell? p=some (.int .i64 n)):(Instr.loadAt 30 (.pointer (some p))).run Tryz.prog w=.ok (.int .i64 n) w:=by go_simp
theorem y_lenR {S:World->Prop}{ρ:Operand->Value}{o:Oper}{x:Operand}{a:Option Addr}{n c:Nat}(ho:o.op=.call {callee:=.builtin .len,args:=#[x],argTypes:=#[57]})(ht:o.type=3)(h:ρ x=.slice a n c):YB Tryz.prog S ρ o (.int .i64 n):=λw hS=>by
 unfold execOp
 simp only[ho,ht]
 go_simp
 exact⟨rfl,hS⟩
theorem y_idxR {S:World->Prop}{ρ:Operand->Value}{o:Oper}{x y:Operand}{sb n c k:Nat}(ho:o.op=.indexAddr 57 x y)(h1:ρ x=.slice (some ⟨sb,0,none⟩) n c)(h2:ρ y=.int .i64 (k:Int))(hk:k<n):YB Tryz.prog S ρ o (.pointer (some ⟨sb,k*31,none⟩)):=λw hS=>by
 have NZ:(k:Int)<(n:Int):=by omega
 unfold execOp
 simp only[ho,h1,h2]
 go_simp
 exact⟨rfl,hS⟩
theorem fa_0 (g o:Nat)(w:World):(Instr.fieldAt 62 (.pointer (some ⟨g,o,none⟩)) 0).run Tryz.prog w=.ok (.pointer (some ⟨g,o+0,none⟩)) w:=by go_simp
theorem fa_1 (g o:Nat)(w:World):(Instr.fieldAt 62 (.pointer (some ⟨g,o,none⟩)) 1).run Tryz.prog w=.ok (.pointer (some ⟨g,o+1,none⟩)) w:=by go_simp
theorem fa_2 (g o:Nat)(w:World):(Instr.fieldAt 62 (.pointer (some ⟨g,o,none⟩)) 2).run Tryz.prog w=.ok (.pointer (some ⟨g,o+2,none⟩)) w:=by go_simp
theorem fa_3 (g o:Nat)(w:World):(Instr.fieldAt 62 (.pointer (some ⟨g,o,none⟩)) 3).run Tryz.prog w=.ok (.pointer (some ⟨g,o+30,none⟩)) w:=by go_simp
theorem cm_geF (p q:Operand)(k n:Nat)(hk:k<n)(w:World):(do eqGuard .geq 3 p q (.int .i64 k) (.int .i64 n);binOp .geq 3 (.int .i64 k) (.int .i64 n):Sem Value).run Tryz.prog w=.ok (.bool false) w:=by
 go_simp
theorem cm_neI (p q:Operand)(k:Int)(w:World):(do eqGuard .neq 3 p q (.int .i64 k) (.int .i64 k);binOp .neq 3 (.int .i64 k) (.int .i64 k):Sem Value).run Tryz.prog w=.ok (.bool false) w:=by
 go_simp
theorem cm_neE (p q:Operand)(k:Int)(w:World):(do eqGuard .neq 30 p q (.int .i64 k) (.int .i64 k);binOp .neq 30 (.int .i64 k) (.int .i64 k):Sem Value).run Tryz.prog w=.ok (.bool false) w:=by
 go_simp
end Go.Proofs.YthijakidnkhbnaaGreatDoor
namespace Go.Proofs.YthijakidnkhbnaaGreatDoor
open Go.RowKit
def RsAt (w:World)(B:Nat)(v:Value)(rs:List TxR):Prop:=∃lvs:List Value,lvs.length=rs.length/\w.ownsRow B 62 31 v rs.length (txRow rs lvs)/\∀(j:Nat) (r:TxR) (lv:Value),rs[j]? =some r->lvs[j]? =some lv->ed w B lv r.2.1.ins.links
def txRes:Nat->List (List UInt8)->List TxR
 |_,[]=>[]
 |n,x::l=>if x=[]then txRes (n+1) l else(((n+1:Nat):Int),Ps.parse az psR ⟨x.toArray⟩)::txRes (n+1) l
theorem txRes_append:∀(a b:List (List UInt8)) (n:Nat),txRes n (a++b)=txRes n a++txRes (n+a.length) b
 |[],b,n=>by simp[txRes]
 |x::a,b,n=>by
  simp only[List.cons_append,txRes,List.length_cons]
  rw[txRes_append a b (n+1),show n+1+a.length=n+(a.length+1)by omega]
  split<;>rfl
theorem txRes_len:∀(a:List (List UInt8)) (n:Nat),(txRes n a).length<=a.length
 |[],_=>Nat.le_refl _
 |x::a,n=>by
  unfold txRes
  have:=txRes_len a (n+1)
  split
  ·simp;omega
  ·simp;omega
theorem infoRes:(Tryz.prog.info? 62).map (λi=>(i.size,i.bytes,i.zero.map (·.cells.size)))=some (31,280,some 31):=by kernel_rfl
theorem info_res:∃i0:TypeInfo,Tryz.prog.info? 62=some i0/\i0.size=31/\i0.bytes=280/\∃z0,i0.zero=some z0/\z0.cells.size=31:=by
 have h:=infoRes
 cases hi:Tryz.prog.info? 62 with
 |none=>rw[hi]at h;cases h
 |some i=>
  rw[hi]at h
  simp only[Option.map_some,Option.some.injEq,Prod.mk.injEq]at h
  obtain⟨h1,h2,h3⟩:=h
  cases hz:i.zero with
  |none=>rw[hz]at h3;cases h3
  |some z=>rw[hz]at h3;exact⟨i,rfl,h1,h2,z,hz,by simpa using h3⟩
theorem own_below {w w':World}{B:Nat}{t:TypeId}{sz:Nat}{v:Value}{n:Nat}{xs:List Value}(h:w.ownsRow B t sz v n xs)(hb:Below w.heap.size w w'):w'.ownsRow B t sz v n xs:=bP h λj hj=>hb.block j (h.lt j hj).2
theorem _root_.Go.World.ownsRow.alloc2 {w:World}{B:Nat}{t:TypeId}{sz:Nat}{v:Value}{n:Nat}{xs:List Value}(h:w.ownsRow B t sz v n xs)(a b:Obj):((w.alloc a).alloc b).ownsRow B t sz v n xs:=own_below (own_below h ((Below.refl _ _).alloc (Nat.le_refl _) _)) ((Below.refl _ _).alloc (Nat.le_refl _) _)
theorem own_ne {w:World}{B1 B2:Nat}{t1 t2:TypeId}{s1 s2:Nat}{v1 v2:Value}{n1 n2:Nat}{x1 x2:List Value}(h1:w.ownsRow B1 t1 s1 v1 n1 x1)(h2:w.ownsRow B2 t2 s2 v2 n2 x2)(ht:t1≠t2){j:Nat}(e1:v1.ownBlock=some j)(e2:v2.ownBlock=some j):False:=by
 rcases h1.2 with⟨rfl,-⟩|⟨g1,c1,u1,rfl,-,k1,-⟩
 ·cases e1
 rcases h2.2 with⟨rfl,-⟩|⟨g2,c2,u2,rfl,-,k2,-⟩
 ·cases e2
 obtain rfl:g1=j:=by simpa[Value.ownBlock]using e1
 obtain rfl:g2=g1:=by simpa[Value.ownBlock]using e2
 rw[k1]at k2
 simp only[Option.some.injEq,Obj.cells.injEq]at k2
 exact ht k2.2.1
theorem txCells_one (r:TxR)(a:Option Addr)(n c:Nat):∀u∈txCells r (.slice a n c),u.oneCell'=true:=by
 intro u hu
 unfold txCells at hu
 simp only[List.mem_cons,List.mem_append,List.not_mem_nil,or_false]at hu
 rcases hu with rfl|rfl|hu|rfl
 ·rfl
 ·rfl
 ·exact List.all_eq_true.1 (by rw[Array.all_toList];exact dH r.2.1 a n c) u hu
 ·rfl
theorem RsAt.below {w w':World}{B:Nat}{v:Value}{rs:List TxR}(h:RsAt w B v rs)(hb:Below w.heap.size w w'):RsAt w' B v rs:=by
 obtain⟨lvs,h1,h2,h3⟩:=h
 exact⟨lvs,h1,bP h2 λj hj=>hb.block j (h2.lt j hj).2,λj r lv e1 e2=>bP (h3 j r lv e1 e2) λi hi=>hb.block i ((h3 j r lv e1 e2).lt i hi).2⟩
theorem wl_new {P:Program}{ops:Array Oper}{Q:Exit->Act->World->Prop}{rest:List Oper}{o:Oper}{a:Act}{w w':World}{t:TypeId}{n:Nat}{parts:Array (Nat×Operand)}{u:Value}{d:Nat}(hg:o.guard=none)(hd:o.dst=some d)(ho:o.op=.buildSlice t n parts)(hr:(Instr.buildSlice t n (parts.map λ(i,x)=>(i,a.eval x))).run P w=.ok u w')(h:wpList P ops Q rest ⟨a.tmps.setIfInBounds d u,a.defers⟩ w'):wpList P ops Q (o::rest) a w:=by
 refine wpList_plain hg λK hK=>?_
 unfold Oper.wp execOp
 rw[ho]
 simp only[Sem.run_bind,hr,Result.andThen_ok]
 refine hK _ _ ?_
 rw[hd]
 exact h
theorem req_lit (Q:Ps.Req)(lv:Value):aA Q lv=#[.int .i64 Q.op,.string Q.sender,.string Q.ref,.string Q.ins.ref,.int .i64 Q.ins.kind,.string Q.ins.sender,.string Q.ins.counterparty,.int .i64 Q.ins.side,.string Q.ins.asset,.int .i64 Q.ins.quantity,.int .i64 Q.ins.amount,.int .i64 Q.ins.tradeDay,.int .i64 Q.ins.settleDay,.int .i64 Q.ins.priority,
 .bool Q.ins.partial_,.int .i64 Q.ins.minLot,.bool Q.ins.hold,.bool Q.ins.reserve,lv,.bool Q.amd.hasAmount,.bool Q.amd.hasSettleDay,.bool Q.amd.hasPriority,.bool Q.amd.hasPartial,.int .i64 Q.amd.amount,.int .i64 Q.amd.settleDay,.int .i64 Q.amd.priority,.bool Q.amd.partial_,.int .i64 Q.amd.minLot]:=rfl
theorem bd_res (r:TxR)(lv:Value)(w:World):(Instr.build 62 #[(0,.int .i64 r.1),(1,.int .i64 r.2.2.1),(2,.agg (aA r.2.1 lv)),(3,.int .i64 r.2.2.2)]).run Tryz.prog w=.ok (.agg (txCells r lv).toArray) w:=by
 unfold txCells
 rw[req_lit]
 go_simp
theorem bs_res (r:TxR)(lv:Value)(w:World):(Instr.buildSlice 57 1 #[(0,.agg (txCells r lv).toArray)]).run Tryz.prog w=.ok (.slice (some ⟨w.heap.size,0,none⟩) 1 1) (w.alloc (.cells (txCells r lv).toArray 62)):=by
 unfold txCells
 rw[req_lit]
 go_simp
theorem tx_all (w:World)(s:ByteArray)(hs:s.size<=1500)(L:List (List UInt8))(hL:L.length<=1048576)
 (m1:Calls Tryz.prog 46 #[.string s] w λe W'=>∃v,e=.returned v/\LxStrs W' w.heap.size v L/\Below w.heap.size w W')
 (m2:Hid (∀W x,Below w.heap.size w W->x∈L->KZ W ⟨x.toArray⟩ (Ps.parse az psR ⟨x.toArray⟩).1 (Ps.parse az psR ⟨x.toArray⟩).2.1 (Ps.parse az psR ⟨x.toArray⟩).2.2)):
 Calls Tryz.prog 17 #[.string s] w λe W'=>∃v,e=.returned (.tuple #[v,.int .i64 0])/\RsAt W' w.heap.size v (txRes 0 L)/\Below w.heap.size w W':=by
 have hst:=KI
 go_enter Tryz.func17,Tryz.ntmps17
 go_wp2_with fail
 refine m1.mono ?_
 rintro e w1 ⟨v,rfl,hown,hb1⟩
 obtain⟨la,lc,rfl⟩:=dB hown
 have hB1:=hb1.size
 clear m1
 go_wp2_with fail
 go_loopw [4,16] (λv i wr=>∃(k:Nat) (rs:List TxR),k<=L.length/\i=.int .i64 k/\Below w1.heap.size w1 wr/\RsAt wr w1.heap.size v rs/\rs.length<=k/\Hid (txRes 0 L=rs++txRes k (L.drop k))) (λ_ i _=>L.length-(RowKit.intOf i).toNat)
 case atStart=>exact⟨0,[],Nat.zero_le _,rfl,Below.refl _ _,⟨[],rfl,World.ownsRow_nil _ _ _ _,λj r lv h=>by simp at h⟩,Nat.le_refl _,rfl⟩
 case round=>
  obtain⟨k,rs,hk,rfl,hbel,hrs,hrk,hH⟩:=hrel
  by_cases hlt:k<L.length
  ·obtain⟨x,hx⟩:∃x,L[k]? =some x:=⟨_,List.getElem?_eq_getElem hlt⟩
   obtain⟨g,rfl⟩:∃g,la=some ⟨g,0,none⟩:=by
    rcases hown.2 with⟨-,hn⟩|⟨g,cap,cur,hv,-⟩
    ·omega
    ·cases hv;exact⟨g,rfl⟩
   have hcell:wr.cell? ⟨g,k,none⟩=some (.string ⟨x.toArray⟩):=by
    rw[hbel.cell (p:=⟨g,k,none⟩) (hown.lt g rfl).2,hown.cellAt k (by simpa using hlt),List.getElem?_map,hx];rfl
   have hdrop:L.drop k=x::L.drop (k+1):=by
    rw[List.drop_eq_getElem_cons hlt]
    congr 1
    rw[List.getElem?_eq_getElem hlt]at hx
    exact Option.some.inj hx
   have m3:=m2.out wr x (hb1.trans (hbel.mono hb1.size)) (List.mem_of_getElem? hx)
   clear m2 hown
   by_cases he:x=[]
   ·subst he
    clear m3 hst
    have HD:=Lib.hid hdrop
    clear hdrop hx
    go_wp2_with fail
    go_roundw
    case rel=>exact⟨k+1,rs,by omega,by go_num,hbel,hrs,by omega,by show _=_;rw[hH.out,HD.out];rfl⟩
    case measure=>simp[RowKit.intOf];omega
   ·have hne:x.isEmpty=false:=by simpa using he
    have HD:=Lib.hid hdrop
    have HNE:=Lib.hid he
    clear hdrop hx he
    obtain⟨Q,hQ⟩:∃Q,Q=(Ps.parse az psR ⟨x.toArray⟩).1:=⟨_,rfl⟩
    obtain⟨o,ho⟩:∃o,o=(Ps.parse az psR ⟨x.toArray⟩).2.1:=⟨_,rfl⟩
    obtain⟨er,her⟩:∃er,er=(Ps.parse az psR ⟨x.toArray⟩).2.2:=⟨_,rfl⟩
    rw[<-hQ,<-ho,<-her]at m3
    have HP:Hid (Ps.parse az psR ⟨x.toArray⟩=(Q,o,er)):=Lib.hid (by rw[hQ,ho,her])
    clear hQ ho her
    obtain⟨lvs,hlv,hrow,hlk⟩:=hrs
    obtain⟨i0,hii,hz1,hz2,z0,hz0,hz3⟩:=info_res
    have HROW:=Lib.hid hrow
    have HLK:=Lib.hid hlk
    obtain⟨va,vc,rfl⟩:=dB hrow
    clear hrow hlk
    go_upto_region 9 with(go_at_call 9;refine m3.mono ?_;rintro e w2 ⟨a,n,c,rfl,hl2,hb2⟩;have HL2:=Lib.hid hl2;have HB2:=Lib.hid hb2;clear hb2 hl2)
    clear hst m3
    obtain⟨g2,hg2⟩:∃g2,g2=w2.heap.size:=⟨_,rfl⟩
    obtain⟨W3,hW3⟩:∃W3,W3=w2.alloc (.cells (aA Q (.slice a n c)) 29):=⟨_,rfl⟩
    have hr3:W3.heap[g2]? =some (.cells (aA Q (.slice a n c)) 29 (0,0)):=by rw[hW3,hg2];exact aD w2 _
    have hb3:Below wr.heap.size wr W3:=by rw[hW3];exact HB2.out.trans (((Below.refl _ _).alloc (Nat.le_refl _) _).mono HB2.out.size)
    have HL3:Hid (ed W3 wr.heap.size (.slice a n c) Q.ins.links):=Lib.hid (own_below HL2.out (by rw[hW3];exact(Below.refl _ _).alloc (Nat.le_refl _) _))
    rw[<-hW3,<-hg2]
    clear hg2 hW3
    refine wp_region_lit ?_
    iterate 4
     refine wpList_plain rfl (λK hK=>?_)
     go_simp
     refine hK _ _ ?_
     clear hK K
    refine jK rfl rfl rfl rfl (J8 g2 Q _ W3 hr3) ?_
    refine wpList_plain rfl (λK hK=>?_)
    go_simp
    refine hK _ _ ?_
    clear hK K
    rw[show IntKind.i64.wrap ((k:Int)+1)=((k+1:Nat):Int)from by rw[IntWalk.i64_in _ (by omega)];rfl]
    refine lC rfl rfl rfl (by simp only[List.map_toArray,List.map_cons,List.map_nil];exact bd_res ((k+1:Nat),Q,o,er) (.slice a n c) W3) ?_
    refine wl_new rfl rfl rfl (by simp only[List.map_toArray,List.map_cons,List.map_nil];exact bs_res ((k+1:Nat),Q,o,er) (.slice a n c) W3) ?_
    have hrow4:=own_below (own_below HROW.out hb3) ((Below.refl _ _).alloc (Nat.le_refl _) (.cells (txCells ((k+1:Nat),Q,o,er) (.slice a n c)).toArray 62))
    refine wpList_append_own _ rfl _ _ 57 rfl w1.heap.size 62 i0 z0 31 280 Tryz.underlying57 hii hz0 hz1 hz2 hz3 (by decide) _ _ _ rfl hrow4 ⟨W3.heap.size,0,none⟩ 1 1 (txCells ((k+1:Nat),Q,o,er) (.slice a n c)) rfl ?c0 ?c1 ?c2 ?c3 ?c4 ?c5 ?_
    case c0=>simp[txCells,aA,aB,aG]
    case c1=>exact World.news_of_block (aD _ _)
    case c2=>exact txCells_one _ _ _ _
    case c3=>unfold maxLen;omega
    case c4=>omega
    case c5=>have:=hb3.size;have:=hbel.size;simp;omega
    intro v' w4 hown4 hgrow4 _
    have hne4:∀(lv:Value) (ks:List Ps.Link) (B:Nat),ed W3 B lv ks->ed w4 B lv ks:=λlv ks B h=>by
     have h2:=own_below h ((Below.refl _ _).alloc (Nat.le_refl _) (.cells (txCells ((k+1:Nat),Q,o,er) (.slice a n c)).toArray 62))
     exact bP h2 λj hj=>hgrow4.block j (h2.lt j hj).2 λe=>own_ne h2 hrow4 (by decide) hj e.symm
    have hb4:Below w1.heap.size w1 w4:=((hbel.trans (hb3.mono hbel.size)).alloc (by have:=hb3.size;have:=hbel.size;omega) _).grown hgrow4 (by have:=hb3.size;have:=hbel.size;simp;omega) (λj hj=>(hrow4.lt j hj).1)
    have hrs4:RsAt w4 w1.heap.size v' (rs++[(((k+1:Nat):Int),Q,o,er)]):=by
     refine⟨lvs++[.slice a n c],by simp[hlv],by rw[txRow_snoc _ _ _ _ hlv];simpa using hown4,λj r lv e1 e2=>?_⟩
     rcases Nat.lt_or_ge j rs.length with hj|hj
     ·rw[List.getElem?_append_left hj]at e1
      rw[List.getElem?_append_left (by omega)]at e2
      exact hne4 _ _ _ (own_below (HLK.out j r lv e1 e2) hb3)
     ·rw[List.getElem?_append_right hj]at e1
      rw[List.getElem?_append_right (by omega),hlv]at e2
      obtain⟨m,hm⟩:∃m,m=j-rs.length:=⟨_,rfl⟩
      rw[<-hm]at e1 e2
      rcases m with _|m
      ·cases e1;cases e2
       exact ja (hne4 _ _ _ HL3.out) hbel.size
      ·simp at e1
    refine wpList_plain rfl (λK hK=>?_)
    go_simp
    refine hK _ _ ?_
    clear hK K
    refine aL ?_
    have HRS:=Lib.hid hrs4
    have PM:=Lib.hid hb4
    clear hrs4 hb4 hne4 hown4 hgrow4 hrow4 hr3
    go_wp2_with fail
    go_roundw
    case rel=>exact⟨k+1,rs++[(((k+1:Nat):Int),Q,o,er)],by omega,by go_num,PM.out,HRS.out,by simp;omega,by show _=_;rw[hH.out,HD.out];simp[txRes,HNE.out,HP.out]⟩
    case measure=>simp[RowKit.intOf];omega
  ·obtain rfl:k=L.length:=by omega
   clear m2 hst
   have HRS:=Lib.hid hrs
   clear hrs
   go_wp2_with fail
   refine bodyPost_ret (results_tmp2 rfl _ _ _) rfl ?_
   obtain⟨lvs,h1,h2,h3⟩:=HRS.out
   have hH2:txRes 0 L=rs:=by rw[hH.out,List.drop_length];simp[txRes]
   rw[hH2]
   exact⟨_,rfl,⟨lvs,h1,ja h2 hB1,λj r lv e1 e2=>ja (h3 j r lv e1 e2) hB1⟩,hb1.trans (hbel.mono hB1)⟩
end Go.Proofs.YthijakidnkhbnaaGreatDoor
namespace Go.Proofs.YthijakidnkhbnaaGreatDoor
open Go.RowKit
open Go.Proofs.YthijakidnkhbnaaGreatDoor.Ord
open Go.Proofs.YthijakidnkhbnaaGreatDoor.Ev (Fy aK aM dW fP gK)
noncomputable def txC:Code:=fP (aK dW (Tryz.f7.body.getD .skip)).1
theorem tx_reg {a:Act}{w:World}{Q':Exit->Act->World->Prop}{gr g2 n lc k i n2 ln:Nat}{la a2:Option Addr}{lcc c2:Nat}{o x:Int}{Q:Ps.Req}(hsz:a.tmps.size=99)(hf3:a.tmps[3]? =some (.slice (some ⟨gr,0,none⟩) n lc))(JU:a.tmps[6]? =some (.int .i64 (k:Int)))(OV:a.tmps[7]? =some (.int .i64 (i:Int)))(Mh:a.tmps[8]? =some (.pointer (some ⟨g2,0,none⟩)))(hf9:a.tmps[9]? =some (.int .i64 o))(hf10:a.tmps[10]? =some (.int .i64 x))
 (hk:k<n) (hi:i<=1000000) (HN:Hid (ln=Q.ins.links.length)) (HN2:Hid (n2=Q.ins.links.length)) (bE:Q.ins.links.length<=1000000)
 (HC:Hid (∀w',Below w.heap.size w w'->∀j,j<31->w'.cell? ⟨gr,k*31+j,none⟩=(txCells (((i+1:Nat):Int),Q,o,x) (.slice la ln lcc))[j]?))
 (HR:Hid (∀w',Below w.heap.size w w'->w'.heap[g2]? =some (.cells (aA Q (.slice a2 n2 c2)) 38 (0,0)))) (HL1:Hid (LkS w la Q.ins.links)) (HL2:Hid (LkS w a2 Q.ins.links))
 (hend:∀(b:Act) (w':World),Kept (gK (aK (aM 11) txC).1) a b->b.tmps[88]? =some (.bool false)->Below w.heap.size w w'->Q' .normal b w'):
 (Code.region 11 (gK (aK (aM 11) txC).1) true).wp Tryz.prog Q' a w:=by
 have hwr:IntKind.i64.wrap ((i:Int)+1)=((i+1:Nat):Int):=by rw[IntWalk.i64_in _ (by omega)];rfl
 have HQ:Hid (∀w',Below w.heap.size w w'->∀j v,(aA Q (.slice la ln lcc)).toList[j]? =some v->w'.cell? ⟨gr,k*31+2+j,none⟩=some v):=Lib.hid λw' hw' j v hv=>by
  have hj:j<28:=by have h:=(List.getElem?_eq_some_iff.1 hv).1;rw[Array.length_toList,reqCells_size]at h;exact h
  have h:=HC.out w' hw' (2+j) (by omega)
  rw[show k*31+2+j=k*31+(2+j)by omega,h]
  show(txCells _ _)[2+j]? =_
  unfold txCells
  rw[show 2+j=j+1+1 by omega,List.getElem?_cons_succ,List.getElem?_cons_succ,List.getElem?_append_left (by rw[Array.length_toList,reqCells_size];exact hj)]
  exact hv
 refine iC (X:=Option Addr×Nat) (λ_ w2=>Below w.heap.size w w2) (λy dn w2=>dn 38=true/\Below w.heap.size w w2/\LkS w2 y.1 Q.ins.links) (Ord.inD [(40,38),(41,38),(42,38)]) (Ord.ig (by kernel_rfl)) 38 43 (by decide) rfl [(.int .i64 (k:Int)),(.slice (some ⟨gr,0,none⟩) n lc),(.int .i64 (n:Int)),(.bool false),(.bool false),(.slice (some ⟨gr,0,none⟩) n lc),(.int .i64 (k:Int)),(.pointer (some ⟨gr,k*31,none⟩)),(.pointer (some ⟨gr,k*31+0,none⟩)),(.int .i64 ((i+1:Nat):Int)),(.int .i64 (i:Int)),(.int .i64 ((i+1:Nat):Int)),(.bool false),(.bool false),(.bool false),(.slice (some ⟨gr,0,none⟩) n lc),(.int .i64 (k:Int)),(.pointer (some ⟨gr,k*31,none⟩)),(.pointer (some ⟨gr,k*31+1,none⟩)),(.int .i64 o),(.int .i64 o),(.bool false),(.bool false),(.bool false),(.slice (some ⟨gr,0,none⟩) n lc),(.int .i64 (k:Int)),(.pointer (some ⟨gr,k*31,none⟩)),(.pointer (some ⟨gr,k*31+30,none⟩)),(.int .i64 x),(.int .i64 x),(.bool false),(.bool false),(.bool false),(.slice (some ⟨gr,0,none⟩) n lc),(.int .i64 (k:Int)),(.pointer (some ⟨gr,k*31,none⟩)),(.pointer (some ⟨gr,k*31+2,none⟩)),(.agg (aA Q (.slice la ln lcc))),(.agg (aA Q (.slice none ln 0))),(.agg (aA Q (.slice a2 n2 c2))),(.bool true),(.bool false),(.bool false)] (λy=>[(.int .i64 (k:Int)),(.slice (some ⟨gr,0,none⟩) n lc),(.int .i64 (n:Int)),(.bool false),(.bool false),(.slice (some ⟨gr,0,none⟩) n lc),(.int .i64 (k:Int)),(.pointer (some ⟨gr,k*31,none⟩)),(.pointer (some ⟨gr,k*31+0,none⟩)),(.int .i64 ((i+1:Nat):Int)),(.int .i64 (i:Int)),(.int .i64 ((i+1:Nat):Int)),(.bool false),(.bool false),(.bool false),(.slice (some ⟨gr,0,none⟩) n lc),(.int .i64 (k:Int)),(.pointer (some ⟨gr,k*31,none⟩)),(.pointer (some ⟨gr,k*31+1,none⟩)),(.int .i64 o),(.int .i64 o),(.bool false),(.bool false),(.bool false),(.slice (some ⟨gr,0,none⟩) n lc),(.int .i64 (k:Int)),(.pointer (some ⟨gr,k*31,none⟩)),(.pointer (some ⟨gr,k*31+30,none⟩)),(.int .i64 x),(.int .i64 x),(.bool false),(.bool false),(.bool false),(.slice (some ⟨gr,0,none⟩) n lc),(.int .i64 (k:Int)),(.pointer (some ⟨gr,k*31,none⟩)),(.pointer (some ⟨gr,k*31+2,none⟩)),(.agg (aA Q (.slice la ln lcc))),(.agg (aA Q (.slice y.1 ln y.2))),(.agg (aA Q (.slice a2 n2 c2))),(.bool true),(.bool false),(.bool false)]) rfl (λ_=>rfl) rfl ?_ rfl (by kernel_rfl) (by kernel_rfl) (by kernel_rfl) (by rw[hsz];kernel_rfl) ((Below.refl _ _).drew) ?_ ?_ ?_
 ·intro y j hic h
  match j,hic,h with
  |0,_,_=>rfl
  |1,_,_=>rfl
  |2,_,_=>rfl
  |3,_,_=>rfl
  |4,_,_=>rfl
  |5,_,_=>rfl
  |6,_,_=>rfl
  |7,_,_=>rfl
  |8,_,_=>rfl
  |9,_,_=>rfl
  |10,_,_=>rfl
  |11,_,_=>rfl
  |12,_,_=>rfl
  |13,_,_=>rfl
  |14,_,_=>rfl
  |15,_,_=>rfl
  |16,_,_=>rfl
  |17,_,_=>rfl
  |18,_,_=>rfl
  |19,_,_=>rfl
  |20,_,_=>rfl
  |21,_,_=>rfl
  |22,_,_=>rfl
  |23,_,_=>rfl
  |24,_,_=>rfl
  |25,_,_=>rfl
  |26,_,_=>rfl
  |27,_,_=>rfl
  |28,_,_=>rfl
  |29,_,_=>rfl
  |30,_,_=>rfl
  |31,_,_=>rfl
  |32,_,_=>rfl
  |33,_,_=>rfl
  |34,_,_=>rfl
  |35,_,_=>rfl
  |36,_,_=>rfl
  |37,_,_=>rfl
  |38,hic,_=>exact absurd rfl hic
  |39,_,_=>rfl
  |40,_,h=>exact absurd h (by decide)
  |41,_,h=>exact absurd h (by decide)
  |42,_,h=>exact absurd h (by decide)
  |j+43,_,_=>rfl
 ·intro ρ hD hrest hco hfu
  have e3:ρ (.tmp 3)=.slice (some ⟨gr,0,none⟩) n lc:=(hrest 3 (by decide +kernel)).trans (eval_at hf3)
  have e6:ρ (.tmp 6)=.int .i64 (k:Int):=(hrest 6 (by decide +kernel)).trans (eval_at JU)
  have e7:ρ (.tmp 7)=.int .i64 (i:Int):=(hrest 7 (by decide +kernel)).trans (eval_at OV)
  have e8:ρ (.tmp 8)=.pointer (some ⟨g2,0,none⟩):=(hrest 8 (by decide +kernel)).trans (eval_at Mh)
  have e9:ρ (.tmp 9)=.int .i64 o:=(hrest 9 (by decide +kernel)).trans (eval_at hf9)
  have e10:ρ (.tmp 10)=.int .i64 x:=(hrest 10 (by decide +kernel)).trans (eval_at hf10)
  obtain⟨k0,k1,k2,k3,k4,k5,k6,k7,k8,k9,k10,k11,k12,k13,k14,k15,k16,k17,k18,k19,k20,k21,k22,k23,k24,k25,k26,k27,k28,k29,k30,k31,k32,k33,k34,k35,k36,k37,-⟩:ρ (.tmp 46)=.int .i64 (k:Int)/\ρ (.tmp 47)=.slice (some ⟨gr,0,none⟩) n lc/\ρ (.tmp 48)=.int .i64 (n:Int)/\ρ (.tmp 49)=.bool false/\ρ (.tmp 50)=.bool false/\ρ (.tmp 51)=.slice (some ⟨gr,0,none⟩) n lc/\ρ (.tmp 52)=.int .i64 (k:Int)/\ρ (.tmp 53)=.pointer (some ⟨gr,k*31,none⟩)/\ρ (.tmp 54)=.pointer (some ⟨gr,k*31+0,none⟩)/\ρ (.tmp 55)=.int .i64 ((i+1:Nat):Int)/\ρ (.tmp 56)=.int .i64 (i:Int)/\ρ (.tmp 57)=.int .i64 ((i+1:Nat):Int)/\ρ (.tmp 58)=.bool false/\ρ (.tmp 59)=.bool false/\ρ (.tmp 60)=.bool false/\ρ (.tmp 61)=.slice (some ⟨gr,0,none⟩) n lc/\ρ (.tmp 62)=.int .i64 (k:Int)/\ρ (.tmp 63)=.pointer (some ⟨gr,k*31,none⟩)/\ρ (.tmp 64)=.pointer (some ⟨gr,k*31+1,none⟩)/\ρ (.tmp 65)=.int .i64 o/\ρ (.tmp 66)=.int .i64 o/\ρ (.tmp 67)=.bool false/\ρ (.tmp 68)=.bool false/\ρ (.tmp 69)=.bool false/\ρ (.tmp 70)=.slice (some ⟨gr,0,none⟩) n lc/\ρ (.tmp 71)=.int .i64 (k:Int)/\ρ (.tmp 72)=.pointer (some ⟨gr,k*31,none⟩)/\ρ (.tmp 73)=.pointer (some ⟨gr,k*31+30,none⟩)/\ρ (.tmp 74)=.int .i64 x/\ρ (.tmp 75)=.int .i64 x/\ρ (.tmp 76)=.bool false/\ρ (.tmp 77)=.bool false/\ρ (.tmp 78)=.bool false/\ρ (.tmp 79)=.slice (some ⟨gr,0,none⟩) n lc/\ρ (.tmp 80)=.int .i64 (k:Int)/\ρ (.tmp 81)=.pointer (some ⟨gr,k*31,none⟩)/\ρ (.tmp 82)=.pointer (some ⟨gr,k*31+2,none⟩)/\ρ (.tmp 83)=.agg (aA Q (.slice la ln lcc))/\_:=hD
  refine⟨λ_ dn hn hd he=>aF (B:=λ_=>True) (λw h=>h) (λ_ _=>trivial) (λw0=>aP rfl (bG rfl e6)),?_⟩
  refine⟨λ_ dn hn hd he=>aF (B:=λ_=>True) (λw h=>h) (λ_ _=>trivial) (λw0=>aP rfl (bG rfl e3)),?_⟩
  refine⟨λ_ dn hn hd he=>aF (B:=λ_=>True) (λw h=>h) (λ_ _=>trivial) (λw0=>aP rfl (y_lenR rfl rfl k1)),?_⟩
  refine⟨λ_ dn hn hd he=>aF (B:=λ_=>True) (λw h=>h) (λ_ _=>trivial) (λw0=>aP rfl (ry rfl k0 k2 (λw=>cm_geF (.tmp 46) (.tmp 48) k n hk w))),?_⟩
  refine⟨λ_ dn hn hd he=>aF (B:=λ_=>True) (λw h=>h) (λ_ _=>trivial) (λw0=>aP rfl (bG rfl k3)),?_⟩
  refine⟨λ_ dn hn hd he=>aF (B:=λ_=>True) (λw h=>h) (λ_ _=>trivial) (λw0=>wM rfl (bG rfl e3)),?_⟩
  refine⟨λ_ dn hn hd he=>aF (B:=λ_=>True) (λw h=>h) (λ_ _=>trivial) (λw0=>wM rfl (bG rfl e6)),?_⟩
  refine⟨λ_ dn hn hd he=>aF (B:=λ_=>True) (λw h=>h) (λ_ _=>trivial) (λw0=>wM rfl (y_idxR rfl k5 k6 hk)),?_⟩
  refine⟨λ_ dn hn hd he=>aF (B:=λ_=>True) (λw h=>h) (λ_ _=>trivial) (λw0=>wM rfl (bS rfl k7 (λw=>fa_0 gr (k*31) w))),?_⟩
  refine⟨λ_ dn hn hd he=>aF (B:=λw2=>Below w.heap.size w w2) (λw h=>h) (λw h=>h) (λw0=>wM rfl (bT rfl k8 (λw hS=>lZ _ w _ ((HC.out w hS.2 0 (by omega)).trans rfl)))),?_⟩
  refine⟨λ_ dn hn hd he=>aF (B:=λ_=>True) (λw h=>h) (λ_ _=>trivial) (λw0=>wM rfl (bG rfl e7)),?_⟩
  refine⟨λ_ dn hn hd he=>aF (B:=λ_=>True) (λw h=>h) (λ_ _=>trivial) (λw0=>wM rfl (ry rfl k10 (hco _) (λw=>su _ _ _ _ w hwr))),?_⟩
  refine⟨λ_ dn hn hd he=>aF (B:=λ_=>True) (λw h=>h) (λ_ _=>trivial) (λw0=>wM rfl (ry rfl k9 k11 (λw=>cm_neI _ _ _ w))),?_⟩
  refine⟨λ_ dn hn hd he=>aF (B:=λ_=>True) (λw h=>h) (λ_ _=>trivial) (λw0=>aP rfl (Dt (b:=false) rfl k4 (hco _) k12)),?_⟩
  refine⟨λ_ dn hn hd he=>aF (B:=λ_=>True) (λw h=>h) (λ_ _=>trivial) (λw0=>aP rfl (bG rfl k13)),?_⟩
  refine⟨λ_ dn hn hd he=>aF (B:=λ_=>True) (λw h=>h) (λ_ _=>trivial) (λw0=>wM rfl (bG rfl e3)),?_⟩
  refine⟨λ_ dn hn hd he=>aF (B:=λ_=>True) (λw h=>h) (λ_ _=>trivial) (λw0=>wM rfl (bG rfl e6)),?_⟩
  refine⟨λ_ dn hn hd he=>aF (B:=λ_=>True) (λw h=>h) (λ_ _=>trivial) (λw0=>wM rfl (y_idxR rfl k15 k16 hk)),?_⟩
  refine⟨λ_ dn hn hd he=>aF (B:=λ_=>True) (λw h=>h) (λ_ _=>trivial) (λw0=>wM rfl (bS rfl k17 (λw=>fa_1 gr (k*31) w))),?_⟩
  refine⟨λ_ dn hn hd he=>aF (B:=λw2=>Below w.heap.size w w2) (λw h=>h) (λw h=>h) (λw0=>wM rfl (bT rfl k18 (λw hS=>lZ _ w _ ((HC.out w hS.2 1 (by omega)).trans rfl)))),?_⟩
  refine⟨λ_ dn hn hd he=>aF (B:=λ_=>True) (λw h=>h) (λ_ _=>trivial) (λw0=>wM rfl (bG rfl e9)),?_⟩
  refine⟨λ_ dn hn hd he=>aF (B:=λ_=>True) (λw h=>h) (λ_ _=>trivial) (λw0=>wM rfl (ry rfl k19 k20 (λw=>cm_neI _ _ _ w))),?_⟩
  refine⟨λ_ dn hn hd he=>aF (B:=λ_=>True) (λw h=>h) (λ_ _=>trivial) (λw0=>aP rfl (Dt (b:=false) rfl k14 (hco _) k21)),?_⟩
  refine⟨λ_ dn hn hd he=>aF (B:=λ_=>True) (λw h=>h) (λ_ _=>trivial) (λw0=>aP rfl (bG rfl k22)),?_⟩
  refine⟨λ_ dn hn hd he=>aF (B:=λ_=>True) (λw h=>h) (λ_ _=>trivial) (λw0=>wM rfl (bG rfl e3)),?_⟩
  refine⟨λ_ dn hn hd he=>aF (B:=λ_=>True) (λw h=>h) (λ_ _=>trivial) (λw0=>wM rfl (bG rfl e6)),?_⟩
  refine⟨λ_ dn hn hd he=>aF (B:=λ_=>True) (λw h=>h) (λ_ _=>trivial) (λw0=>wM rfl (y_idxR rfl k24 k25 hk)),?_⟩
  refine⟨λ_ dn hn hd he=>aF (B:=λ_=>True) (λw h=>h) (λ_ _=>trivial) (λw0=>wM rfl (bS rfl k26 (λw=>fa_3 gr (k*31) w))),?_⟩
  refine⟨λ_ dn hn hd he=>aF (B:=λw2=>Below w.heap.size w w2) (λw h=>h) (λw h=>h) (λw0=>wM rfl (bT rfl k27 (λw hS=>ld_er _ w _ ((HC.out w hS.2 30 (by omega)).trans rfl)))),?_⟩
  refine⟨λ_ dn hn hd he=>aF (B:=λ_=>True) (λw h=>h) (λ_ _=>trivial) (λw0=>wM rfl (bG rfl e10)),?_⟩
  refine⟨λ_ dn hn hd he=>aF (B:=λ_=>True) (λw h=>h) (λ_ _=>trivial) (λw0=>wM rfl (ry rfl k28 k29 (λw=>cm_neI _ _ _ w))),?_⟩
  refine⟨λ_ dn hn hd he=>aF (B:=λ_=>True) (λw h=>h) (λ_ _=>trivial) (λw0=>aP rfl (Dt (b:=false) rfl k23 (hco _) k30)),?_⟩
  refine⟨λ_ dn hn hd he=>aF (B:=λ_=>True) (λw h=>h) (λ_ _=>trivial) (λw0=>aP rfl (bG rfl k31)),?_⟩
  refine⟨λ_ dn hn hd he=>aF (B:=λ_=>True) (λw h=>h) (λ_ _=>trivial) (λw0=>wM rfl (bG rfl e3)),?_⟩
  refine⟨λ_ dn hn hd he=>aF (B:=λ_=>True) (λw h=>h) (λ_ _=>trivial) (λw0=>wM rfl (bG rfl e6)),?_⟩
  refine⟨λ_ dn hn hd he=>aF (B:=λ_=>True) (λw h=>h) (λ_ _=>trivial) (λw0=>wM rfl (y_idxR rfl k33 k34 hk)),?_⟩
  refine⟨λ_ dn hn hd he=>aF (B:=λ_=>True) (λw h=>h) (λ_ _=>trivial) (λw0=>wM rfl (bS rfl k35 (λw=>fa_2 gr (k*31) w))),?_⟩
  refine⟨λ_ dn hn hd he=>aF (B:=λw2=>Below w.heap.size w w2) (λw h=>h) (λw h=>h) (λw0=>wM rfl (bT rfl k36 (λw hS=>ld_resQ gr (k*31+2) Q _ w (HQ.out w hS.2)))),?_⟩
  refine⟨λ_ dn hn hd he=>⟨rfl,λw2 hS=>?_⟩,?_⟩
  ·unfold execOp
   have hf:=hfu 12
   simp[resolve,invoke,hf,k37,Deferred.ofValue,ent12]
   refine(Hl w2 Q la ln lcc HN (Lib.hid (by rw[HN.out];exact bE)) (Lib.hid λhn=>by
    obtain⟨sb,z1,z2⟩:=HL1.out (by rw[<-HN.out];exact hn)
    exact⟨sb,z1,λW hW=>z2 W (hS.trans (hW.mono hS.size))⟩)).mono ?_
   rintro e w' ⟨ta,tc,rfl,hb,hl⟩
   exact⟨_,rfl,ta,⟨tc,rfl⟩,hS.trans (hb.mono hS.size),λhn2=>xg hl (by rw[HN.out];exact hn2)⟩
  refine⟨λ_ dn hn hd he=>aF (B:=λw2=>Below w.heap.size w w2) (λw h=>h) (λw h=>h) (λw0=>wM rfl (bT rfl e8 (λw hS=>Fs g2 Q _ w (HR.out w hS.2)))),?_⟩
  refine⟨λhic=>(by have h2:true=false:=hic;cases h2),?_⟩
  refine⟨λhic=>(by have h2:true=false:=hic;cases h2),?_⟩
  refine⟨λhic=>(by have h2:true=false:=hic;cases h2),?_⟩
  exact trivial
 ·rintro⟨ta,tc⟩ ρ hD hrest hco hfu
  have e3:ρ (.tmp 3)=.slice (some ⟨gr,0,none⟩) n lc:=(hrest 3 (by decide +kernel)).trans (eval_at hf3)
  have e6:ρ (.tmp 6)=.int .i64 (k:Int):=(hrest 6 (by decide +kernel)).trans (eval_at JU)
  have e7:ρ (.tmp 7)=.int .i64 (i:Int):=(hrest 7 (by decide +kernel)).trans (eval_at OV)
  have e8:ρ (.tmp 8)=.pointer (some ⟨g2,0,none⟩):=(hrest 8 (by decide +kernel)).trans (eval_at Mh)
  have e9:ρ (.tmp 9)=.int .i64 o:=(hrest 9 (by decide +kernel)).trans (eval_at hf9)
  have e10:ρ (.tmp 10)=.int .i64 x:=(hrest 10 (by decide +kernel)).trans (eval_at hf10)
  obtain⟨k0,k1,k2,k3,k4,k5,k6,k7,k8,k9,k10,k11,k12,k13,k14,k15,k16,k17,k18,k19,k20,k21,k22,k23,k24,k25,k26,k27,k28,k29,k30,k31,k32,k33,k34,k35,k36,k37,k38,k39,k40,k41,-⟩:ρ (.tmp 46)=.int .i64 (k:Int)/\ρ (.tmp 47)=.slice (some ⟨gr,0,none⟩) n lc/\ρ (.tmp 48)=.int .i64 (n:Int)/\ρ (.tmp 49)=.bool false/\ρ (.tmp 50)=.bool false/\ρ (.tmp 51)=.slice (some ⟨gr,0,none⟩) n lc/\ρ (.tmp 52)=.int .i64 (k:Int)/\ρ (.tmp 53)=.pointer (some ⟨gr,k*31,none⟩)/\ρ (.tmp 54)=.pointer (some ⟨gr,k*31+0,none⟩)/\ρ (.tmp 55)=.int .i64 ((i+1:Nat):Int)/\ρ (.tmp 56)=.int .i64 (i:Int)/\ρ (.tmp 57)=.int .i64 ((i+1:Nat):Int)/\ρ (.tmp 58)=.bool false/\ρ (.tmp 59)=.bool false/\ρ (.tmp 60)=.bool false/\ρ (.tmp 61)=.slice (some ⟨gr,0,none⟩) n lc/\ρ (.tmp 62)=.int .i64 (k:Int)/\ρ (.tmp 63)=.pointer (some ⟨gr,k*31,none⟩)/\ρ (.tmp 64)=.pointer (some ⟨gr,k*31+1,none⟩)/\ρ (.tmp 65)=.int .i64 o/\ρ (.tmp 66)=.int .i64 o/\ρ (.tmp 67)=.bool false/\ρ (.tmp 68)=.bool false/\ρ (.tmp 69)=.bool false/\ρ (.tmp 70)=.slice (some ⟨gr,0,none⟩) n lc/\ρ (.tmp 71)=.int .i64 (k:Int)/\ρ (.tmp 72)=.pointer (some ⟨gr,k*31,none⟩)/\ρ (.tmp 73)=.pointer (some ⟨gr,k*31+30,none⟩)/\ρ (.tmp 74)=.int .i64 x/\ρ (.tmp 75)=.int .i64 x/\ρ (.tmp 76)=.bool false/\ρ (.tmp 77)=.bool false/\ρ (.tmp 78)=.bool false/\ρ (.tmp 79)=.slice (some ⟨gr,0,none⟩) n lc/\ρ (.tmp 80)=.int .i64 (k:Int)/\ρ (.tmp 81)=.pointer (some ⟨gr,k*31,none⟩)/\ρ (.tmp 82)=.pointer (some ⟨gr,k*31+2,none⟩)/\ρ (.tmp 83)=.agg (aA Q (.slice la ln lcc))/\ρ (.tmp 84)=.agg (aA Q (.slice ta ln tc))/\ρ (.tmp 85)=.agg (aA Q (.slice a2 n2 c2))/\ρ (.tmp 86)=.bool true/\ρ (.tmp 87)=.bool false/\_:=hD
  have kp:∀(dn:Nat->Bool) (j:Nat) (w2:World),(dn 38=true/\Below w.heap.size w w2/\LkS w2 ta Q.ins.links)->((dn 38||38==j)=true/\Below w.heap.size w w2/\LkS w2 ta Q.ins.links):=λdn j w h=>⟨by rw[h.1];rfl,h.2⟩
  refine⟨λdn hn hd he=>aF (B:=λ_=>True) (λw h=>kp dn 0 w h) (λ_ _=>trivial) (λw0=>aP rfl (bG rfl e6)),?_⟩
  refine⟨λdn hn hd he=>aF (B:=λ_=>True) (λw h=>kp dn 1 w h) (λ_ _=>trivial) (λw0=>aP rfl (bG rfl e3)),?_⟩
  refine⟨λdn hn hd he=>aF (B:=λ_=>True) (λw h=>kp dn 2 w h) (λ_ _=>trivial) (λw0=>aP rfl (y_lenR rfl rfl k1)),?_⟩
  refine⟨λdn hn hd he=>aF (B:=λ_=>True) (λw h=>kp dn 3 w h) (λ_ _=>trivial) (λw0=>aP rfl (ry rfl k0 k2 (λw=>cm_geF (.tmp 46) (.tmp 48) k n hk w))),?_⟩
  refine⟨λdn hn hd he=>aF (B:=λ_=>True) (λw h=>kp dn 4 w h) (λ_ _=>trivial) (λw0=>aP rfl (bG rfl k3)),?_⟩
  refine⟨λdn hn hd he=>aF (B:=λ_=>True) (λw h=>kp dn 5 w h) (λ_ _=>trivial) (λw0=>wM rfl (bG rfl e3)),?_⟩
  refine⟨λdn hn hd he=>aF (B:=λ_=>True) (λw h=>kp dn 6 w h) (λ_ _=>trivial) (λw0=>wM rfl (bG rfl e6)),?_⟩
  refine⟨λdn hn hd he=>aF (B:=λ_=>True) (λw h=>kp dn 7 w h) (λ_ _=>trivial) (λw0=>wM rfl (y_idxR rfl k5 k6 hk)),?_⟩
  refine⟨λdn hn hd he=>aF (B:=λ_=>True) (λw h=>kp dn 8 w h) (λ_ _=>trivial) (λw0=>wM rfl (bS rfl k7 (λw=>fa_0 gr (k*31) w))),?_⟩
  refine⟨λdn hn hd he=>aF (B:=λw2=>Below w.heap.size w w2) (λw h=>kp dn 9 w h) (λw h=>h.2.1) (λw0=>wM rfl (bT rfl k8 (λw hS=>lZ _ w _ ((HC.out w hS.2 0 (by omega)).trans rfl)))),?_⟩
  refine⟨λdn hn hd he=>aF (B:=λ_=>True) (λw h=>kp dn 10 w h) (λ_ _=>trivial) (λw0=>wM rfl (bG rfl e7)),?_⟩
  refine⟨λdn hn hd he=>aF (B:=λ_=>True) (λw h=>kp dn 11 w h) (λ_ _=>trivial) (λw0=>wM rfl (ry rfl k10 (hco _) (λw=>su _ _ _ _ w hwr))),?_⟩
  refine⟨λdn hn hd he=>aF (B:=λ_=>True) (λw h=>kp dn 12 w h) (λ_ _=>trivial) (λw0=>wM rfl (ry rfl k9 k11 (λw=>cm_neI _ _ _ w))),?_⟩
  refine⟨λdn hn hd he=>aF (B:=λ_=>True) (λw h=>kp dn 13 w h) (λ_ _=>trivial) (λw0=>aP rfl (Dt (b:=false) rfl k4 (hco _) k12)),?_⟩
  refine⟨λdn hn hd he=>aF (B:=λ_=>True) (λw h=>kp dn 14 w h) (λ_ _=>trivial) (λw0=>aP rfl (bG rfl k13)),?_⟩
  refine⟨λdn hn hd he=>aF (B:=λ_=>True) (λw h=>kp dn 15 w h) (λ_ _=>trivial) (λw0=>wM rfl (bG rfl e3)),?_⟩
  refine⟨λdn hn hd he=>aF (B:=λ_=>True) (λw h=>kp dn 16 w h) (λ_ _=>trivial) (λw0=>wM rfl (bG rfl e6)),?_⟩
  refine⟨λdn hn hd he=>aF (B:=λ_=>True) (λw h=>kp dn 17 w h) (λ_ _=>trivial) (λw0=>wM rfl (y_idxR rfl k15 k16 hk)),?_⟩
  refine⟨λdn hn hd he=>aF (B:=λ_=>True) (λw h=>kp dn 18 w h) (λ_ _=>trivial) (λw0=>wM rfl (bS rfl k17 (λw=>fa_1 gr (k*31) w))),?_⟩
  refine⟨λdn hn hd he=>aF (B:=λw2=>Below w.heap.size w w2) (λw h=>kp dn 19 w h) (λw h=>h.2.1) (λw0=>wM rfl (bT rfl k18 (λw hS=>lZ _ w _ ((HC.out w hS.2 1 (by omega)).trans rfl)))),?_⟩
  refine⟨λdn hn hd he=>aF (B:=λ_=>True) (λw h=>kp dn 20 w h) (λ_ _=>trivial) (λw0=>wM rfl (bG rfl e9)),?_⟩
  refine⟨λdn hn hd he=>aF (B:=λ_=>True) (λw h=>kp dn 21 w h) (λ_ _=>trivial) (λw0=>wM rfl (ry rfl k19 k20 (λw=>cm_neI _ _ _ w))),?_⟩
  refine⟨λdn hn hd he=>aF (B:=λ_=>True) (λw h=>kp dn 22 w h) (λ_ _=>trivial) (λw0=>aP rfl (Dt (b:=false) rfl k14 (hco _) k21)),?_⟩
  refine⟨λdn hn hd he=>aF (B:=λ_=>True) (λw h=>kp dn 23 w h) (λ_ _=>trivial) (λw0=>aP rfl (bG rfl k22)),?_⟩
  refine⟨λdn hn hd he=>aF (B:=λ_=>True) (λw h=>kp dn 24 w h) (λ_ _=>trivial) (λw0=>wM rfl (bG rfl e3)),?_⟩
  refine⟨λdn hn hd he=>aF (B:=λ_=>True) (λw h=>kp dn 25 w h) (λ_ _=>trivial) (λw0=>wM rfl (bG rfl e6)),?_⟩
  refine⟨λdn hn hd he=>aF (B:=λ_=>True) (λw h=>kp dn 26 w h) (λ_ _=>trivial) (λw0=>wM rfl (y_idxR rfl k24 k25 hk)),?_⟩
  refine⟨λdn hn hd he=>aF (B:=λ_=>True) (λw h=>kp dn 27 w h) (λ_ _=>trivial) (λw0=>wM rfl (bS rfl k26 (λw=>fa_3 gr (k*31) w))),?_⟩
  refine⟨λdn hn hd he=>aF (B:=λw2=>Below w.heap.size w w2) (λw h=>kp dn 28 w h) (λw h=>h.2.1) (λw0=>wM rfl (bT rfl k27 (λw hS=>ld_er _ w _ ((HC.out w hS.2 30 (by omega)).trans rfl)))),?_⟩
  refine⟨λdn hn hd he=>aF (B:=λ_=>True) (λw h=>kp dn 29 w h) (λ_ _=>trivial) (λw0=>wM rfl (bG rfl e10)),?_⟩
  refine⟨λdn hn hd he=>aF (B:=λ_=>True) (λw h=>kp dn 30 w h) (λ_ _=>trivial) (λw0=>wM rfl (ry rfl k28 k29 (λw=>cm_neI _ _ _ w))),?_⟩
  refine⟨λdn hn hd he=>aF (B:=λ_=>True) (λw h=>kp dn 31 w h) (λ_ _=>trivial) (λw0=>aP rfl (Dt (b:=false) rfl k23 (hco _) k30)),?_⟩
  refine⟨λdn hn hd he=>aF (B:=λ_=>True) (λw h=>kp dn 32 w h) (λ_ _=>trivial) (λw0=>aP rfl (bG rfl k31)),?_⟩
  refine⟨λdn hn hd he=>aF (B:=λ_=>True) (λw h=>kp dn 33 w h) (λ_ _=>trivial) (λw0=>wM rfl (bG rfl e3)),?_⟩
  refine⟨λdn hn hd he=>aF (B:=λ_=>True) (λw h=>kp dn 34 w h) (λ_ _=>trivial) (λw0=>wM rfl (bG rfl e6)),?_⟩
  refine⟨λdn hn hd he=>aF (B:=λ_=>True) (λw h=>kp dn 35 w h) (λ_ _=>trivial) (λw0=>wM rfl (y_idxR rfl k33 k34 hk)),?_⟩
  refine⟨λdn hn hd he=>aF (B:=λ_=>True) (λw h=>kp dn 36 w h) (λ_ _=>trivial) (λw0=>wM rfl (bS rfl k35 (λw=>fa_2 gr (k*31) w))),?_⟩
  refine⟨λdn hn hd he=>aF (B:=λw2=>Below w.heap.size w w2) (λw h=>kp dn 37 w h) (λw h=>h.2.1) (λw0=>wM rfl (bT rfl k36 (λw hS=>ld_resQ gr (k*31+2) Q _ w (HQ.out w hS.2)))),?_⟩
  refine⟨λdn hn hd he=>⟨λ_ w hS=>(by rw[hS.1]at hn;cases hn),λh=>by have h2:true=false:=h;cases h2⟩,?_⟩
  refine⟨λdn hn hd he=>aF (B:=λw2=>Below w.heap.size w w2) (λw h=>kp dn 39 w h) (λw h=>h.2.1) (λw0=>wM rfl (bT rfl e8 (λw hS=>Fs g2 Q _ w (HR.out w hS.2)))),?_⟩
  refine⟨λdn hn hd he=>⟨λ_ w2 hS=>?_,λh=>by have h2:true=false:=h;cases h2⟩,?_⟩
  ·obtain⟨hS1,hS2,JS⟩:=hS
   unfold execOp
   have hf:=hfu 11
   simp[resolve,invoke,hf,k38,k39,Deferred.ofValue,ent11]
   obtain rfl:n2=ln:=by rw[HN2.out,HN.out]
   refine(Ie w2 Q ta a2 n2 tc c2 (Lib.hid (by rw[HN.out];omega)) HN (Lib.hid λhn=>JS (by rw[<-HN.out];exact hn)) (Lib.hid λhn=>by
    obtain⟨sb,z1,z2⟩:=HL2.out (by rw[<-HN.out];exact hn)
    exact⟨sb,z1,λW hW=>z2 W (hS2.trans (hW.mono hS2.size))⟩)).mono ?_
   rintro e w' ⟨rfl,hb⟩
   exact⟨rfl,hS1,hS2.trans (hb.mono hS2.size),JS.below hb⟩
  refine⟨λdn hn hd he=>aF (B:=λ_=>True) (λw h=>kp dn 41 w h) (λ_ _=>trivial) (λw0=>wM rfl (y_not (b:=true) rfl k40)),?_⟩
  refine⟨λdn hn hd he=>aF (B:=λ_=>True) (λw h=>kp dn 42 w h) (λ_ _=>trivial) (λw0=>aP rfl (Dt (b:=false) rfl k32 (hco _) k41)),?_⟩
  exact trivial
 ·intro y b w' hS hK hD
  exact hend b w' hK (Fy (by rw[hK.size,hsz];decide) (bR.tmp 42 _ _ 88 hD rfl rfl rfl)) hS.2.1
end Go.Proofs.YthijakidnkhbnaaGreatDoor
namespace Go.Proofs.YthijakidnkhbnaaGreatDoor
open Go.RowKit
open Go.Proofs.YthijakidnkhbnaaGreatDoor.Ord
theorem set_range (f:Nat->Value):∀(n lo:Nat) (A:Array Value) (j:Nat),((List.range' lo n).foldl (λA i=>A.setIfInBounds i (f i)) A)[j]? =if lo<=j/\j<lo+n/\j<A.size then some (f j)else A[j]?
 |0,lo,A,j=>by
  rw[if_neg (by omega)];rfl
 |n+1,lo,A,j=>by
  rw[List.range'_succ,List.foldl_cons,set_range f n (lo+1) _ j,Array.size_setIfInBounds,Array.getElem?_setIfInBounds]
  by_cases h:lo=j
  ·subst h
   rw[if_neg (by omega),if_pos rfl]
   by_cases h2:lo<A.size
   ·rw[if_pos h2,if_pos (by omega)]
   ·rw[if_neg h2,if_neg (by omega),Array.getElem?_eq_none (by omega)]
  ·rw[if_neg h]
   by_cases h2:lo+1<=j/\j<lo+1+n/\j<A.size
   ·rw[if_pos h2,if_pos (by omega)]
   ·rw[if_neg h2,if_neg (by omega)]
theorem tmps_kept {ops:Array Oper}{a b:Act}{lo n:Nat}(K:Kept ops a b)(hd:∀t:Nat,(t<lo\/lo+n<=t)->∀o∈ops.toList,o.dst≠some t):b.tmps=(List.range' lo n).foldl (λA i=>A.setIfInBounds i (b.tmps.getD i undef)) a.tmps:=by
 apply Array.ext_getElem?
 intro j
 rw[set_range]
 split
 ·rename_i h
  rw[Array.getD_eq_getD_getElem?,Array.getElem?_eq_getElem (by rw[K.size];exact h.2.2)];rfl
 ·rename_i h
  by_cases hj:j<a.tmps.size
  ·exact K.rest j (hd j (by omega))
  ·rw[Array.getElem?_eq_none (by rw[K.size];omega),Array.getElem?_eq_none (by omega)]
theorem tx_dst:∀t:Nat,(t<46\/46+43<=t)->∀o∈(Ev.gK (Ev.aK (Ev.aM 11) txC).1).toList,o.dst≠some t:=λt ht o ho e=>by
 have h:((Ev.gK (Ev.aK (Ev.aM 11) txC).1).toList.all λo=>match o.dst with|some d=>decide (46<=d/\d<89)|none=>true)=true:=by kernel_rfl
 have h2:=List.all_eq_true.1 h o ho
 rw[e]at h2
 have h3:46<=t/\t<89:=of_decide_eq_true h2
 rcases ht with ht|ht<;>omega
theorem act_mk {a:Act}{t:Array Value}{d:List Deferred}(h1:a.tmps=t)(h2:a.defers=d):a=⟨t,d⟩:=by
 cases a;cases h1;cases h2;rfl
theorem tx_main (w:World)(s:ByteArray)(hs:(s.size:Int)<=1500)(L:List (List UInt8))(hL:L.length<=1000000)(hlk:Hid (∀x∈L,(Ps.parse az psR ⟨x.toArray⟩).1.ins.links.length<=1000000))
 (m1:Hid (∀W,Below w.heap.size w W->Calls Tryz.prog 8 #[] W λe W'=>e=.returned (.bool true)/\Below W.heap.size W W'))
 (m2:Hid (∀W,Below w.heap.size w W->Calls Tryz.prog 17 #[.string s] W λe W'=>∃v,e=.returned (.tuple #[v,.int .i64 0])/\RsAt W' W.heap.size v (txRes 0 L)/\Below W.heap.size W W'))
 (m3:Hid (∀W,Calls Tryz.prog 18 #[.string s] W λe W'=>∃v,e=.returned v/\LxStrs W' W.heap.size v L/\Below W.heap.size W W'))
 (m4:Hid (∀W x,x∈L->RrsC W ⟨x.toArray⟩ (Ps.parse az psR ⟨x.toArray⟩).1 (Ps.parse az psR ⟨x.toArray⟩).2.1 (Ps.parse az psR ⟨x.toArray⟩).2.2)):
 Calls Tryz.prog 7 #[.string s] w λe W'=>e=.returned (.bool true)/\Below w.heap.size w W':=by
 have HB0:Hid (Below w.heap.size w w):=Lib.hid (Below.refl _ _)
 go_enter Tryz.func7,Tryz.ntmps7
 go_upto_region 3 with(go_at_call 8;refine(m1.out _ HB0.out).mono ?_;rintro e w1 ⟨rfl,hb1⟩;have HB1:=Lib.hid (HB0.out.trans (hb1.mono HB0.out.size));clear hb1)
 go_upto_region 4 with(go_at_call 17;refine(m2.out _ HB1.out).mono ?_;rintro e w2 ⟨v,rfl,hr2,hb2⟩;have HR2:=Lib.hid hr2;have HB2:=Lib.hid (HB1.out.trans (hb2.mono HB1.out.size));clear hb2 hr2)
 go_upto_region 5 with(go_at_call 18;refine(m3.out _).mono ?_;rintro e w3 ⟨u,rfl,hl3,hb3⟩;have HL3:=Lib.hid hl3;have HB3:=Lib.hid hb3;clear hb3 hl3)
 obtain⟨la,lc,rfl⟩:=dB HL3.out
 obtain⟨ra,rc,rfl⟩:∃ra rc,v=.slice ra (txRes 0 L).length rc:=by
  obtain⟨lvs,h1,h2,h3⟩:=HR2.out
  exact dB h2
 clear m1 m2 m3
 have Ay:=NT
 unfold Ns at Ay
 go_wp2_with fail
 go_loopw [6,7] (λkv iv wr=>∃i:Nat,i<=L.length/\kv=.int .i64 (txRes 0 (L.take i)).length/\iv=.int .i64 i/\Below w3.heap.size w3 wr) (λ_ iv _=>L.length-(RowKit.intOf iv).toNat)
 case atStart=>exact⟨0,Nat.zero_le _,rfl,rfl,Below.refl _ _⟩
 case round=>
  obtain⟨i,hi,rfl,rfl,hbel⟩:=hrel
  by_cases hlt:i<L.length
  ·obtain⟨x,hx⟩:∃x,L[i]? =some x:=⟨_,List.getElem?_eq_getElem hlt⟩
   obtain⟨g,rfl⟩:∃g,la=some ⟨g,0,none⟩:=by
    rcases HL3.out.2 with⟨-,hn⟩|⟨g,cap,cur,hv,-⟩
    ·omega
    ·cases hv;exact⟨g,rfl⟩
   have hcell:wr.cell? ⟨g,i,none⟩=some (.string ⟨x.toArray⟩):=by
    rw[hbel.cell (p:=⟨g,i,none⟩) (HL3.out.lt g rfl).2,HL3.out.cellAt i (by simpa using hlt),List.getElem?_map,hx];rfl
   have htake:L.take (i+1)=L.take i++[x]:=by rw[List.take_add_one,hx];rfl
   have hres:txRes 0 (L.take (i+1))=txRes 0 (L.take i)++txRes i [x]:=by
    rw[htake,txRes_append,List.length_take,Nat.min_eq_left hi,Nat.zero_add]
   by_cases he:x=[]
   ·subst he
    have HT:=Lib.hid hres
    clear hres htake Ay hx
    go_wp2_with fail
    go_roundw
    case rel=>exact⟨i+1,by omega,by rw[HT.out];simp[txRes],by go_num,hbel⟩
    case measure=>simp[RowKit.intOf];omega
   ·have hne:x.isEmpty=false:=by simpa using he
    obtain⟨Q,hQ⟩:∃Q,Q=(Ps.parse az psR ⟨x.toArray⟩).1:=⟨_,rfl⟩
    obtain⟨o,ho⟩:∃o,o=(Ps.parse az psR ⟨x.toArray⟩).2.1:=⟨_,rfl⟩
    obtain⟨er,her⟩:∃er,er=(Ps.parse az psR ⟨x.toArray⟩).2.2:=⟨_,rfl⟩
    have HP:Hid (Ps.parse az psR ⟨x.toArray⟩=(Q,o,er)):=Lib.hid (by rw[hQ,ho,her])
    have HM:Hid (Q.ins.links.length<=1000000):=Lib.hid (by rw[hQ];exact hlk.out x (List.mem_of_getElem? hx))
    have m5:RrsC wr ⟨x.toArray⟩ Q o er:=by rw[hQ,ho,her];exact m4.out wr x (List.mem_of_getElem? hx)
    have HT:Hid (txRes 0 L=txRes 0 (L.take i)++(((i+1:Nat):Int),Q,o,er)::txRes (i+1) (L.drop (i+1))):=Lib.hid (by
     have h1:L=L.take (i+1)++L.drop (i+1):=(List.take_append_drop _ _).symm
     have h2:txRes 0 L=txRes 0 (L.take (i+1))++txRes (0+(L.take (i+1)).length) (L.drop (i+1)):=by
      rw[<-txRes_append,<-h1]
     rw[h2,hres,List.length_take,Nat.min_eq_left (by omega),Nat.zero_add]
     simp[txRes,he,HP.out])
    have HT2:Hid ((txRes 0 (L.take (i+1))).length=(txRes 0 (L.take i)).length+1):=Lib.hid (by rw[hres];simp[txRes,he])
    clear hQ ho her hres htake hx he m4 hlk
    go_upto_region 11 with(go_at_call 10;refine m5.mono ?_;rintro e w4 ⟨a2,n2,c2,rfl,hn2,hl4,hb4⟩;have PM:=Lib.hid hb4;have HL4:=Lib.hid hl4;have HN4:=Lib.hid hn2;clear hb4 hl4 hn2)
    obtain⟨g2,hg2⟩:∃g2,g2=w4.heap.size:=⟨_,rfl⟩
    obtain⟨W5,jw⟩:∃W5,W5=w4.alloc (.cells (aA Q (.slice a2 n2 c2)) 38):=⟨_,rfl⟩
    have hb45:Below w4.heap.size w4 W5:=by rw[jw];exact(Below.refl _ _).alloc (Nat.le_refl _) _
    have hb5:Below w3.heap.size w3 W5:=hbel.trans ((PM.out.trans (hb45.mono PM.out.size)).mono hbel.size)
    have hb25:Below w2.heap.size w2 W5:=HB3.out.trans (hb5.mono HB3.out.size)
    have HR5:Hid (∀w',Below W5.heap.size W5 w'->w'.heap[g2]? =some (.cells (aA Q (.slice a2 n2 c2)) 38 (0,0))):=by
     have h0:W5.heap[g2]? =some (.cells (aA Q (.slice a2 n2 c2)) 38 (0,0)):=by rw[jw,hg2];exact aD w4 _
     exact Lib.hid λw' hw'=>(hw'.block g2 (Array.getElem?_eq_some_iff.1 h0).1).trans h0
    have HL6:Hid (LkS W5 a2 Q.ins.links):=Lib.hid (LkS.below (w:=w4) (λhn=>xg HL4.out (by rw[HN4.out];exact hn)) hb45)
    obtain⟨lvs,hlv,hrow,hlks⟩:=HR2.out
    obtain⟨k,hk⟩:∃k,k=(txRes 0 (L.take i)).length:=⟨_,rfl⟩
    have hrk:(txRes 0 L)[k]? =some (((i+1:Nat):Int),Q,o,er):=by rw[HT.out,hk,List.getElem?_append_right (Nat.le_refl _),Nat.sub_self];rfl
    have hkn:k<(txRes 0 L).length:=(List.getElem?_eq_some_iff.1 hrk).1
    obtain⟨lv,hlvk⟩:∃lv,lvs[k]? =some lv:=⟨_,List.getElem?_eq_getElem (by omega)⟩
    have hl2:=hlks k _ lv hrk hlvk
    obtain⟨a1,c1,rfl⟩:=hl2.slice
    obtain⟨gr,rfl⟩:∃gr,ra=some ⟨gr,0,none⟩:=by
     rcases hrow.2 with⟨-,hn⟩|⟨g,cap,cur,hv,-⟩
     ·omega
     ·cases hv;exact⟨g,rfl⟩
    have HL5:Hid (LkS W5 a1 Q.ins.links):=Lib.hid (LkS.below (w:=w2) (λhn=>KT hl2 hn) hb25)
    have hrow5:=own_below hrow hb25
    have HC:Hid (∀w',Below W5.heap.size W5 w'->∀j,j<31->w'.cell? ⟨gr,k*31+j,none⟩=(txCells (((i+1:Nat):Int),Q,o,er) (.slice a1 Q.ins.links.length c1))[j]?):=Lib.hid λw' hw' j hj=>by
     have h1:=txRow_at (txRes 0 L) lvs k _ _ j hlv hrk hlvk hj
     rw[hw'.cell (p:=⟨gr,k*31+j,none⟩) (hrow5.lt gr rfl).2,hrow5.cellAt (k*31+j) (by omega),h1]
    have HB5:=Lib.hid hb5
    rw[<-jw,<-hg2,<-hk]
    clear jw hg2 hb45 hb5 hb25 hrow hlks hl2 hrow5 hrk hlvk hlv HR2 HT hne hcell
    refine fw λa ha hdf=>?_
    have e1:(Ev.aK (Ev.aM 11) txC).1=.region 11 (Ev.gK (Ev.aK (Ev.aM 11) txC).1) true:=by kernel_rfl
    show((Ev.aK (Ev.aM 11) txC).1).wp Tryz.prog _ a W5
    rw[e1]
    refine tx_reg (o:=o) (x:=er) (gr:=gr) (g2:=g2) (k:=k) (i:=i) (by rw[ha];rfl) (by rw[ha];rfl) (by rw[ha];rfl) (by rw[ha];rfl) (by rw[ha];rfl) (by rw[ha];rfl) (by rw[ha];rfl) hkn (by omega) (Lib.hid rfl) HN4 HM.out HC HR5 HL5 HL6 λb w6 hK h88 hb6=>?_
    rename_i hKb hKa hK13
    refine hK13 _ _ ?_
    have ht:=tmps_kept (lo:=46) (n:=43) hK tx_dst
    obtain⟨f,hf⟩:∃f:Nat->Value,f=λi=>b.tmps.getD i undef:=⟨_,rfl⟩
    have h88f:f 88=.bool false:=by rw[hf];exact eval_at h88
    rw[show(λ(A:Array Value) (i:Nat)=>A.setIfInBounds i (b.tmps.getD i undef))=λA i=>A.setIfInBounds i (f i)from by rw[hf]]at ht
    clear hf h88
    have hdb:b.defers=[]:=hK.defers.trans hdf
    clear hK
    rw[act_mk ht hdb,ha]
    clear ht hdb
    clear ha hdf e1 a b
    have HB6:=Lib.hid (HB5.out.trans (hb6.mono HB5.out.size))
    clear hb6 hkn
    simp only[List.range',List.foldl_cons,List.foldl_nil]
    simp only[List.setIfInBounds_toArray,List.set_cons_succ,List.set_cons_zero]
    refine wp_cond_false h88f ?_
    refine wp_skip ?_
    refine hKa _ _ ?_
    clear hK13 hKa h88f
    go_wp2_with fail
    go_roundw
    case rel=>exact⟨i+1,by omega,by
     have hkl:=txRes_len (L.take i) 0
     rw[List.length_take]at hkl
     rw[HT2.out]
     generalize (txRes 0 (L.take i)).length=m at *
     have hm:m<=1000000:=by omega
     rw[show wrap64 ((m:Int)+1)=((m+1:Nat):Int)from by unfold wrap64;omega],by go_num,HB6.out⟩
    case measure=>simp[RowKit.intOf];omega
  ·obtain rfl:i=L.length:=by omega
   clear Ay
   go_wp2_with fail
   go_ret
   exact⟨by simp,HB2.out.trans ((HB3.out.trans (hbel.mono HB3.out.size)).mono HB2.out.size)⟩
theorem go_le:∀(l cur:List UInt8),(Lx.go l cur).length<=l.length+1/\∀p∈Lx.go l cur,p.length<=l.length+cur.length
 |[],cur=>by
  unfold Lx.go
  split
  ·exact⟨by simp,λp hp=>by cases hp⟩
  ·exact⟨by simp,λp hp=>by simp at hp;subst hp;simp⟩
 |c::l,cur=>by
  unfold Lx.go
  split
  ·obtain⟨h1,h2⟩:=go_le l []
   refine⟨by simp only[List.length_cons];omega,λp hp=>?_⟩
   rcases List.mem_cons.1 hp with rfl|hp
   ·simp only[List.length_cons];omega
   ·have:=h2 p hp;simp only[List.length_cons,List.length_nil]at this⊢;omega
  ·obtain⟨h1,h2⟩:=go_le l (cur++[c])
   refine⟨by simp only[List.length_cons];omega,λp hp=>?_⟩
   have:=h2 p hp
   simp only[List.length_append,List.length_cons,List.length_nil]at this⊢
   omega
theorem clean_le (s:ByteArray):(Lx.clean s).length<=s.size:=by
 rw[Lx.clean_eq]
 unfold Lx.rdrop
 have h1:=(List.dropWhile_sublist (λc=>[32,9].contains c) (l:=(List.dropWhile (λc=>[32,9].contains c) (Lx.aZ s).data.toList).reverse)).length_le
 have h2:=(List.dropWhile_sublist (λc=>[32,9].contains c) (l:=(Lx.aZ s).data.toList)).length_le
 have h3:(Lx.aZ s).size<=s.size:=by unfold Lx.aZ;rw[ByteArray.size_extract];omega
 rw[Lib.size_eq]at h3
 rw[List.length_reverse]at h1⊢
 omega
theorem tx_lines (s:ByteArray):(Lx.lines s).length<=s.size+1/\∀x∈Lx.lines s,(⟨x.toArray⟩:ByteArray).size<=s.size:=by
 obtain⟨h1,h2⟩:=go_le s.data.toList []
 rw[<-Lib.size_eq]at h1
 refine⟨by unfold Lx.lines;rw[List.length_map];exact h1,λx hx=>?_⟩
 unfold Lx.lines at hx
 obtain⟨p,hp,rfl⟩:=List.mem_map.1 hx
 have h3:=h2 p hp
 have h4:=clean_le ⟨p.toArray⟩
 rw[<-Lib.size_eq,List.length_nil]at h3
 rw[uV]at h4⊢
 omega
theorem parse_linksA (s:ByteArray):(Ps.parse az psR s).1.ins.links.length<=8:=by
 by_cases h:s.size<=1024
 ·exact BV s h
 ·have:Ps.parse az psR s=({},1024,5):=by
   have ht:Lx.aO s=([],1024,5):=by unfold Lx.aO;exact if_pos (by omega)
   unfold Ps.parse
   rw[ht]
   rfl
  rw[this]
  exact Nat.zero_le _
theorem tx_long (w:World)(s:ByteArray)(hs:(1500:Int)<(s.size:Int))
 (m1:Hid (∀W,Below w.heap.size w W->Calls Tryz.prog 8 #[] W λe W'=>e=.returned (.bool true)/\Below W.heap.size W W')):
 Calls Tryz.prog 7 #[.string s] w λe W'=>e=.returned (.bool true)/\Below w.heap.size w W':=by
 have HB0:Hid (Below w.heap.size w w):=Lib.hid (Below.refl _ _)
 go_enter Tryz.func7,Tryz.ntmps7
 go_upto_region 2 with(go_at_call 8;refine(m1.out _ HB0.out).mono ?_;rintro e w1 ⟨rfl,hb1⟩;have HB1:=Lib.hid (HB0.out.trans (hb1.mono HB0.out.size));clear hb1)
 go_wp2_with (go_at_call 8;refine(m1.out _ HB1.out).mono ?_;rintro e w2 ⟨rfl,hb2⟩;have HB2:=Lib.hid (HB1.out.trans (hb2.mono HB1.out.size));clear hb2)
 go_ret
 exact⟨rfl,HB2.out⟩
theorem law_ptext {m:Int}{kb ko kc:Nat}{w:World}(env:kQ m kb ko kc w)(s:ByteArray)(_hs:s.size<=maxLen):
 Calls Tryz.prog 7 #[.string s] w λe W'=>e=.returned (.bool true)/\Below w.heap.size w W':=by
 have m1:Hid (∀W,Below w.heap.size w W->Calls Tryz.prog 8 #[] W λe W'=>e=.returned (.bool true)/\Below W.heap.size W W'):=Lib.hid λW hW=>Jw (env.below hW)
 by_cases h:(1500:Int)<(s.size:Int)
 ·exact tx_long w s h m1
 ·obtain⟨h1,h2⟩:=tx_lines s
  have hx:∀x∈Lx.lines s,(⟨x.toArray⟩:ByteArray).size<=9223372036854775807:=λx hx=>by have:=h2 x hx;omega
  refine tx_main w s (by omega) (Lx.lines s) (by omega) (Lib.hid λx _=>by have:=parse_linksA ⟨x.toArray⟩;omega) m1 (Lib.hid λW hW=>?_) (Lib.hid λW=>rx_lines s W (by omega)) (Lib.hid λW x hm=>rrs_of _ (hx x hm) W)
  exact tx_all W s (by omega) (Lx.lines s) (by omega) (lx_lines s W m kb ko kc (by omega) (env.lx.below hW)) (Lib.hid λW2 x hW2 hm=>zM (env.below hW) _ (hx x hm) W2 hW2)
end Go.Proofs.YthijakidnkhbnaaGreatDoor
namespace Go.Proofs.YthijakidnkhbnaaGreatDoor.lawPText
open Go.ChangeShapes Go.WideShapes Go.ChangeAt Go.RowKit
theorem own:ownKnob Tryz.prog.godebug=none:=by kernel_rfl
theorem laidOut:laidOutB Tryz.prog=true:=by kernel_rfl
theorem JV:("strconv.ErrRange",(Rows.laid_strconv_ErrRange:DataW Unit))∈Rows.parserTextRow.laid:=by
 unfold Rows.parserTextRow
 exact .tail _ (.tail _ (.tail _ (.tail _ ((.head _)))))
theorem G9:("strconv.ErrSyntax",(Rows.laid_strconv_ErrSyntax:DataW Unit))∈Rows.parserTextRow.laid:=by
 unfold Rows.parserTextRow
 exact .tail _ (.tail _ (.tail _ (.tail _ (.tail _ ((.head _))))))
theorem memIds:("giro/ident.kinds",(Rows.laid_giro_ident_kinds:DataW Unit))∈Rows.parserTextRow.laid:=by
 unfold Rows.parserTextRow
 exact .tail _ (.tail _ (.tail _ (.tail _ (.tail _ (.tail _ ((.head _)))))))
theorem memLex:("giro/lexer.kinds",(Rows.laid_giro_lexer_kinds:DataW Unit))∈Rows.parserTextRow.laid:=by
 unfold Rows.parserTextRow
 exact .tail _ (.tail _ (.tail _ (.tail _ (.tail _ (.tail _ (.tail _ ((.head _))))))))
theorem OP:("giro/message.priorityNames",(Rows.laid_giro_message_priorityNames:DataW Unit))∈Rows.parserTextRow.laid:=by
 unfold Rows.parserTextRow
 exact .tail _ (.tail _ (.tail _ (.tail _ (.tail _ (.tail _ (.tail _ (.tail _ ((.head _)))))))))
theorem contract (H:Type)(enc:TypeId×Value->H)(W:World)(base:Nat)(args:Array Value)(ds gs:List (DataW H))(before:List MemPlace)
 (hval:∀(j:Nat) t v,Tryz.f7.params[j]? =some t->args[j]? =some v->Value.okWide Tryz.prog W .any base t v)
 (hW:DataW.Whole enc Tryz.prog Tryz.f7.params.toList Rows.parserTextSpec.vars false W args.toList ds gs before) (hL:laidMetH Tryz.prog Rows.parserTextRow.laid W) (hsh:W.ShapedOpen Tryz.prog):
 Calls Tryz.prog 7 args W λe W'=>∃v,e=.returned v/\Rows.parserTextSpec.post enc Tryz.prog Tryz.f7 false true false false W args v W':=by
 have hW':=hW
 obtain⟨p,q,hA0,hV,rfl,hfz,hnd⟩:=hW
 have hA:DataW.TrodAll enc Tryz.prog W 0 (λ_=>true) true Tryz.f7.params.toList args.toList ds p:=hA0
 rw[Tryz.params7]at hA hval
 obtain⟨v0,vs0,d0,ds0,p0,q0,hargs,rfl,rfl,h0,r0⟩:=trodAll_cons hA
 obtain⟨rfl,rfl,rfl⟩:=trodAll_nil r0
 obtain rfl:args=#[v0]:=by cases args;simp_all
 obtain⟨rfl,rfl⟩:=trodVars_none hV
 clear hA0
 simp only[List.append_nil]at hW'
 have hlt:∀x∈p0,x.block<W.heap.size:=λx hx=>by simpa using hW'.lt x hx
 obtain⟨s0,rfl,rfl,rfl,hs0⟩:=Go.ChangeMaps.open_string Tryz.underlying9 (hval 0 9 v0 rfl rfl) h0
 obtain⟨m,qB⟩:=Tryz.laysM145.s1_3 W hsh
 obtain⟨kb,ko,kc,env⟩:=uJ hL memLex memIds OP JV G9 m qB
 refine(law_ptext env s0 hs0).mono λe W' ⟨he,hb⟩=>?_
 subst he
 have t0:=Below.trod laidOut (by kernel_rfl) (of_decide_eq_true (by kernel_rfl)) h0 hb (λx hx=>by cases hx)
 exact⟨_,rfl,_,_,_,[],_,[],hW',trodAll_cons_mk (shut_bool Tryz.underlying4 _) trodAll_mk0,trodAll_cons_mk t0 trodAll_mk0,rfl,hb.frame _,λh=>by cases h⟩
noncomputable def jh (os:Os):World:=(World.doorLaid Tryz.prog 300 os).layVars Tryz.prog [("unicode/utf8.first",Rows.laid_unicode_utf8_first)]
theorem Mx (os:Os):(jh os).os=os:=by unfold jh;rw[World.layVars_os];rfl
theorem Me (os:Os):laidMetH Tryz.prog Rows.parserTextRow.laid ((jh os).forCall (λ_ _=>0) ⟨#[],#[Value.string ⟨#[]⟩],[]⟩).memory:=
 laidMetH_of_parts3 (fuel:=8)
  (laidMet_layVars (w0:=World.doorLaid Tryz.prog 300 os) ["unicode/utf8.first"] ((List.range (World.doorLaid Tryz.prog 300 os).heap.size).filter (· !=4)) (by rfl) (by kernel_rfl) (by kernel_rfl)
   (LaidIn.of_run _ 8 (by kernel_rfl) (by kernel_rfl) (by kernel_rfl) (by kernel_rfl))) (by kernel_rfl) (by kernel_rfl)
theorem reads (os:Os){H:Type}(enc:TypeId×Value->H):∃places,DataW.whole enc Tryz.prog ((jh os).forCall (λ_ _=>0) ⟨#[],#[Value.string ⟨#[]⟩],[]⟩).memory Tryz.f7.params.toList Rows.parserTextSpec.vars false #[Value.string ⟨#[]⟩].toList 8=some ([.lit (.string [])],[],places):=
 ⟨[],by kernel_rfl⟩
theorem lifted (os:Os)(started:os.Started)(H:Type)(enc:TypeId×Value->H)(F:Stop.Interp):
 ReturnsInHanded {} Tryz.checked os 7 .any ((OpenSpec.ofChange Rows.parserTextSpec).preRow enc Tryz.prog Tryz.f7 Rows.parserTextRow.domain false Rows.parserTextRow.laid) (((OpenSpec.ofChange Rows.parserTextSpec).at F).post enc Tryz.prog Tryz.f7 false true false false):=by
 obtain⟨places,hx⟩:=reads os enc
 refine returnsInHanded_of_row (C:=Tryz.checked) (s:=OpenSpec.ofChange Rows.parserTextSpec) own started (by kernel_rfl) Tryz.func7
  (witness_row_atRef (enc:=enc) (C:=Tryz.checked) false (jh os) #[Value.string ⟨#[]⟩] (Mx os) (by kernel_rfl) (by kernel_rfl) (by kernel_rfl)
   (OpenSpec.preRow_of_cond 8 hx (by kernel_rfl) (λk hk=>by cases hk) (by kernel_rfl) (Me os))) ?_
 intro W base args ds gs before hval hW _ _ _ hL hsh _
 exact contract H enc W base args ds gs before hval hW hL hsh
theorem said:Rows.ParserTextSaid:=
 OpenClaim.holds_of_cond 7 Tryz.f7 rfl rfl rfl rfl rfl rfl rfl ⟨rfl,rfl,rfl,rfl,rfl⟩ rfl rfl rfl rfl rfl (by kernel_rfl) Tryz.func7 (by kernel_rfl)
  (of_decide_eq_true (by kernel_rfl)) (by unfold Func.isWrapper;first|(rw[if_pos (by decide +kernel)];kernel_rfl)|(rw[if_neg (by decide +kernel)];exact⟨rfl,rfl⟩))
  (λos started H enc _ F=>by rw[OpenClaim.pre_eq_preRow];exact lifted os started H enc F)
theorem plain (f:FuncId)(fn:Func)(hf:Tryz.pinned.checked.prog.funcNamed "giro/girolaw19.ParserText"=some f)(hfn:Tryz.pinned.checked.prog.funcs[f]? =some fn):
 true=Tryz.pinned.checked.prog.looks []/\∀(j:Nat) t,fn.params[j]? =some t->Tryz.pinned.checked.prog.wantsStandIn t=false:=by
 obtain rfl:f=7:=Option.some.inj ((show Tryz.prog.funcNamed "giro/girolaw19.ParserText"=some 7 by kernel_rfl).symm.trans hf)|>.symm
 obtain rfl:fn=Tryz.f7:=(Option.some.inj (Tryz.func7.symm.trans hfn)).symm
 refine⟨by kernel_rfl,λj t ht=>?_⟩
 rw[Tryz.params7]at ht
 have hm:=Array.mem_of_getElem? ht
 simp at hm
 subst hm
 exact(show Tryz.prog.wantsStandIn 9=false by kernel_rfl)
theorem card:Rows.ParserTextCardSaid:=
 Claim7.holds_tied_plain_at .later [] _ _ _ _ said (λ_ h=>by cases h) (by kernel_rfl) (λ_ h=>by cases h) parserText_row_tie rfl ⟨rfl,rfl⟩ (by kernel_rfl) rfl plain (by kernel_rfl)
#print axioms card
end Go.Proofs.YthijakidnkhbnaaGreatDoor.lawPText
