/-
  ParserForms is true for every input.
-/
import Derived.Test.YtnjjeapcalkmaaaGreatDoorPfI
set_option maxRecDepth 100000
set_option maxHeartbeats 4000000
set_option linter.unusedVariables false
set_option linter.unusedSimpArgs false
namespace Go.Proofs.YtnjjeapcalkmaaaGreatDoor
open Go.RowKit
open Go.Proofs.YtnjjeapcalkmaaaGreatDoor.Ord
theorem IV (w:World)(A:Ps.Amd):
 Calls Tryz.prog 57 #[.agg (aG A).toArray] w λe w'=>e=.returned (.agg (aG A).toArray)/\Below w.heap.size w w':=by
 unfold aG
 go_enter Tryz.func57,Tryz.ntmps57
 go_wp2_with fail
 refine bodyPost_ret (results_cell_row rfl _ _ (w.heap.size+1) _ _ (0,0) _ rfl (heap_alloc2_new _ _ _) Tryz.underlying26 rfl (by kernel_rfl)) rfl ?_
 exact⟨rfl,((Below.refl _ _).alloc (Nat.le_refl _) _).alloc (by simp) _⟩
def LkL (w:World)(B:Nat)(lv:Value)(ks:List Ps.Link):Prop:=w.ownsRow B 91 2 lv ks.length (eB ks)
theorem KC:(Tryz.prog.info? 91).map (λi=>(i.zero,i.size,i.bytes))=some (some (.agg #[.int .i64 0,.string ⟨#[]⟩]),2,24):=by kernel_rfl
theorem LH {S:World->Prop}{ρ:Operand->Value}{o:Oper}{x y:Operand}{sb n c k:Nat}(ho:o.op=.indexAddr 32 x y)(h1:ρ x=.slice (some ⟨sb,0,none⟩) n c)(h2:ρ y=.int .i64 (k:Int))(hk:k<n):YB Tryz.prog S ρ o (.pointer (some ⟨sb,k*2,none⟩)):=λw hS=>by
 have PT:(k:Int)<(n:Int):=by omega
 unfold execOp
 simp only[ho,h1,h2]
 go_simp
 exact⟨rfl,hS⟩
theorem Nq (ρ:Operand->Value)(t:Int)(s:ByteArray){x y:Operand}(h1:ρ x=.int .i64 t)(h2:ρ y=.string s)(w:World):(Instr.build 91 ((#[(0,x),(1,y)]:Array (Nat×Operand)).map λ(i,x)=>(i,ρ x))).run Tryz.prog w=.ok (.agg #[.int .i64 t,.string s]) w:=by
 simp only[List.map_toArray,List.map_cons,List.map_nil,h1,h2]
 go_simp
theorem Qh {P:Program}{c:Code}{tmps:Array Value}{Q:Exit->Act->World->Prop}{w:World}(h:∀a:Act,a.tmps=tmps->a.defers=[]->c.wp P Q a w):c.wp P Q ⟨tmps,[]⟩ w:=h _ rfl rfl
noncomputable def FQ (g:Nat)(x:Ps.Link)(lv:Value)(W:World):Value×World:=
 match (Builtin.append_ #[22,22] 22 #[lv,.slice (some ⟨W.drew.heap.size,0,none⟩) 1 1]).run Tryz.prog (W.drew.alloc (.cells #[.int .i64 x.type,.string x.ref] 91))with
 | .ok v W4=>(v,W4.setCell ⟨g+2,15,none⟩ v)
 |_=>(lv,W)
noncomputable def bkN (g:Nat)(ks:List Ps.Link)(W:World):Nat->Value×World
 |0=>(.slice none 0 0,W)
 |k+1=>FQ g (ks[k]?.getD ⟨0,⟨#[]⟩⟩) (bkN g ks W k).1 (bkN g ks W k).2
def bk0 (w:World)(i:Ps.Ins)(lv:Value):World:=((w.alloc (.cells (aB i lv).toArray 34)).alloc (.cells (aB {} (.slice none 0 0)).toArray 24)).alloc (.cells (aB i (.slice none 0 0)).toArray 24)
noncomputable def bkV (w:World)(i:Ps.Ins)(lv:Value):Value:=(bkN w.heap.size i.links (bk0 w i lv) i.links.length).1
noncomputable def bkW (w:World)(i:Ps.Ins)(lv:Value):World:=(bkN w.heap.size i.links (bk0 w i lv) i.links.length).2.setRow (w.heap.size+1) (aB i (bkV w i lv)).toArray
def K5 (w:World)(g:Nat)(i:Ps.Ins)(lv:Value)(k:Nat)(W:World):Prop:=
 Below g w W/\W.heap[g]? =some (.cells (aB i lv).toArray 34 (0,0))/\W.heap[g+1]? =some (.cells (aB {} (.slice none 0 0)).toArray 24 (0,0))/\
  ∃ta tc,W.heap[g+2]? =some (.cells (aB i (.slice ta k tc)).toArray 24 (0,0))/\LkL W (g+3) (.slice ta k tc) (i.links.take k)/\bkN g i.links (bk0 w i lv) k=(.slice ta k tc,W)
theorem bk_new (w:World)(i:Ps.Ins)(lv:Value):K5 w w.heap.size i lv 0 (((w.alloc (.cells (aB i lv).toArray 34)).alloc (.cells (aB {} (.slice none 0 0)).toArray 24)).alloc (.cells (aB i (.slice none 0 0)).toArray 24)):=by
 have hs1:(w.alloc (.cells (aB i lv).toArray 34)).heap.size=w.heap.size+1:=by simp
 refine⟨(((Below.refl _ _).alloc (Nat.le_refl _) _).alloc (by simp) _).alloc (by simp;omega) _,?_,?_,none,0,?_,World.ownsRow_nil _ _ _ _,rfl⟩
 ·rw[heap_alloc_old _ _ (by simp;omega),heap_alloc_old _ _ (by simp)]
  exact aD w _
 ·rw[heap_alloc_old _ _ (by simp)]
  exact heap_alloc2_new _ _ _
 ·have:=heap_alloc2_new (w.alloc (.cells (aB i lv).toArray 34)) (.cells (aB {} (.slice none 0 0)).toArray 24) (.cells (aB i (.slice none 0 0)).toArray 24)
  rw[hs1]at this
  exact this
theorem Lg (w:World)(i:Ps.Ins)(sa:Option Addr)(sn sc:Nat)(hsn:Hid (sn=i.links.length))(hlt:Hid (sn<=1000000))(hlk:Hid (0<sn->∃sb,sa=some ⟨sb,0,none⟩/\∀W,Below w.heap.size w W->jD W sb i.links)):
 Calls Tryz.prog 56 #[.agg (aB i (.slice sa sn sc)).toArray] w λe w'=>e=.returned (.agg (aB i (bkV w i (.slice sa sn sc))).toArray)/\w'=bkW w i (.slice sa sn sc)/\∃ta tc,bkV w i (.slice sa sn sc)=.slice ta sn tc/\Below w.heap.size w w'/\LkL w' (w.heap.size+3) (.slice ta sn tc) i.links:=by
 obtain⟨V9,hV9⟩:∃V9,V9=bkV w i (.slice sa sn sc):=⟨_,rfl⟩
 obtain⟨X9,hX9⟩:∃X9,X9=bkW w i (.slice sa sn sc):=⟨_,rfl⟩
 rw[<-hV9,<-hX9]
 have HV9:=Lib.hid hV9
 have HX9:=Lib.hid hX9
 clear hV9 hX9
 obtain⟨g,hg⟩:∃g,g=w.heap.size:=⟨_,rfl⟩
 have HN:Hid (K5 w g i (.slice sa sn sc) 0 (((w.alloc (.cells (aB i (.slice sa sn sc)).toArray 34)).alloc (.cells (aB {} (.slice none 0 0)).toArray 24)).alloc (.cells (aB i (.slice none 0 0)).toArray 24))):=Lib.hid (by rw[hg];exact bk_new w i _)
 rw[<-hg]at hlk⊢
 have HG:=Lib.hid hg
 unfold aB
 go_enter Tryz.func56,Tryz.ntmps56
 go_upto_region 2 with fail
 rw[<-hg]
 clear hg
 rename_i K1 hK1 K hK
 refine Qh λa ha hdf=>?_
 have hsz:a.tmps.size=62:=by rw[ha];rfl
 have hf1:a.tmps[1]? =some (.pointer (some ⟨g,0,none⟩)):=by rw[ha];rfl
 have hf2:a.tmps[2]? =some (.pointer (some ⟨g+1,0,none⟩)):=by rw[ha];rfl
 have hf3:a.tmps[3]? =some (.pointer (some ⟨g+2,0,none⟩)):=by rw[ha];rfl
 clear ha
 generalize hW0:World.alloc _ _=W0
 replace HN:Hid (K5 w g i (.slice sa sn sc) 0 W0):=by rw[<-hW0];exact HN
 clear hW0
 obtain⟨vs,hvs⟩:∃vs:List Value,vs=[(.int .i64 0)]:=⟨_,rfl⟩
 refine M6 (λw=>w=W0) 1 vs (by rw[hvs];rfl) rfl (by kernel_rfl) (by kernel_rfl) (by rw[hsz];kernel_rfl) rfl ?_ ?_
 ·intro ρ hD hrest hco hfu
  refine wE hvs ?_
  refine⟨av rfl (RH rfl (hco _)),?_⟩
  exact trivial
 intro a2 w2 hS2 hK2 hD
 subst hS2
 have He:a2.tmps[4]? =some (.int .i64 ((0:Nat):Int)):=QE (by rw[hK2.size,hsz];decide) (bX.tmp 0 _ _ 4 hD rfl (by rw[hvs];rfl) rfl)
 clear hD hvs
 clear vs
 replace hsz:=hK2.size.trans hsz
 replace hdf:=hK2.defers.trans hdf
 replace hf1:=(hK2.rest 1 (by decide +kernel)).trans hf1
 replace hf2:=(hK2.rest 2 (by decide +kernel)).trans hf2
 replace hf3:=(hK2.rest 3 (by decide +kernel)).trans hf3
 clear hK2
 refine hK _ _ ?_
 clear hK K
 refine wp_block ?_
 refine wp_loop (λa w1=>∃k:Nat,k<=sn/\a.tmps.size=62/\a.defers=[]/\a.tmps[1]? =some (.pointer (some ⟨g,0,none⟩))/\a.tmps[2]? =some (.pointer (some ⟨g+1,0,none⟩))/\a.tmps[3]? =some (.pointer (some ⟨g+2,0,none⟩))/\a.tmps[4]? =some (.int .i64 (k:Int))/\Hid (K5 w g i (.slice sa sn sc) k w1)) (λa _=>sn+1-(RowKit.intOf (a.tmps.getD 4 undef)).toNat) ⟨0,Nat.zero_le _,hsz,hdf,hf1,hf2,hf3,He,HN⟩ ?_
 clear hsz hdf hf1 hf2 hf3 He HN
 rintro a W1 ⟨k,hk,hsz,hdf,hf1,hf2,hf3,He,HN⟩
 have h40:=Lib.hid He
 refine wp_seq ?_
 have hcell0:W1.cell? ⟨g,15,none⟩=some (.slice sa sn sc):=by rw[cell_of_row _ _ _ _ _ _ HN.out.2.1];rfl
 have HC0:=Lib.hid hcell0
 clear hcell0
 obtain⟨b40,LU⟩:∃b,(decide ((k:Int)<(sn:Int)))=b:=⟨_,rfl⟩
 obtain⟨vs,hvs⟩:∃vs:List Value,vs=[(.int .i64 (k:Int)),(.pointer (some ⟨g,15,none⟩)),(.slice sa sn sc),(.int .i64 (sn:Int)),(.bool b40)]:=⟨_,rfl⟩
 refine JB (b40) (λw=>w=W1) 5 vs (by rw[hvs];rfl) rfl (by kernel_rfl) (by kernel_rfl) (by rw[hsz];kernel_rfl) rfl ?_ ?_ ?_ ?_
 ·intro ρ hD hrest hco hfu
  have e1:ρ (.tmp 1)=.pointer (some ⟨g,0,none⟩):=(hrest 1 (by decide +kernel)).trans (eval_at hf1)
  have e4:ρ (.tmp 4)=.int .i64 (k:Int):=(hrest 4 (by decide +kernel)).trans (eval_at He)
  obtain⟨e36,e37,e38,e39,e40,-⟩:ρ (.tmp 36)=(.int .i64 (k:Int))/\ρ (.tmp 37)=(.pointer (some ⟨g,15,none⟩))/\ρ (.tmp 38)=(.slice sa sn sc)/\ρ (.tmp 39)=(.int .i64 (sn:Int))/\ρ (.tmp 40)=(.bool b40)/\True:=kH hvs hD
  refine wE hvs ?_
  refine⟨av rfl (dZ rfl e4),?_⟩
  refine⟨av rfl (dm rfl e1 (λw=>by go_simp)),?_⟩
  refine⟨av rfl (dC rfl e37 (λw hS=>MK _ w _ _ _ (by rw[hS];exact HC0.out))),?_⟩
  refine⟨av rfl (y_len rfl rfl e38),?_⟩
  refine⟨av rfl (zB rfl e36 e39 (cmE LU (cm_lt3 _ _ _ _))),?_⟩
  exact trivial
 ·intro ρ hD;exact bX.tmp 4 _ _ 40 hD rfl (by rw[hvs];rfl) rfl
 rotate_left
 ·intro hcf b w9 hS9 hK2
  have hkn:¬(k:Int)<(sn:Int):=by subst LU;simpa using hcf
  subst hS9
  obtain rfl:k=sn:=by omega
  refine wp_exit ?_
  simp only[Exit.then,Exit.inBlock,if_true]
  replace hsz:=hK2.size.trans hsz
  replace hdf:=hK2.defers.trans hdf
  replace hf2:=(hK2.rest 2 (by decide +kernel)).trans hf2
  replace hf3:=(hK2.rest 3 (by decide +kernel)).trans hf3
  refine hK1 _ _ ?_
  obtain⟨hB0,hr0,hr1,ta,tc,hr2,hown,hbn⟩:=HN.out
  obtain⟨W9,Ke⟩:∃W9,W9=w9.setRow (g+1) (aB i (.slice ta k tc)).toArray:=⟨_,rfl⟩
  have OU:W9.heap[g+1]? =some (.cells (aB i (.slice ta k tc)).toArray 24 (0,0)):=by rw[Ke];exact setRow_heap w9 (g+1) _ _ _ _ hr1
  have Ii:∀j,j≠g+1->W9.heap[j]? =w9.heap[j]?:=λj hj=>by rw[Ke];exact setRow_other w9 (g+1) j _ hj
  have hz9:W9.heap.size=w9.heap.size:=by rw[Ke];exact setRow_size w9 (g+1) _
  have hb9:Below g w W9:=⟨by rw[Ke];exact hB0.os,by rw[Ke];exact hB0.tape,by rw[Ke];exact hB0.output,by rw[hz9];exact hB0.size,λj hj=>(Ii j (by omega)).trans (hB0.block j hj)⟩
  have hL9:LkL W9 (g+3) (.slice ta k tc) i.links:=by
   have e:i.links.take k=i.links:=List.take_of_length_le (by have:=hsn.out;omega)
   rw[e]at hown
   exact fK hown λj hj=>Ii j (by have:=(hown.lt j hj).1;omega)
  have hv9:V9=.slice ta k tc:=by rw[HV9.out];unfold bkV;rw[<-hsn.out,<-HG.out,hbn]
  have hx9:X9=W9:=by rw[HX9.out,Ke];unfold bkW;rw[<-HV9.out,hv9,<-hsn.out,<-HG.out,hbn]
  have HV:=Lib.hid hv9
  have HX:=Lib.hid hx9
  clear hv9 hx9 hbn
  have HB9:=Lib.hid hb9
  have HL9:=Lib.hid hL9
  have HR9:=Lib.hid OU
  have HW9:=Lib.hid Ke
  clear hb9 hL9 OU Ii hz9 hown Ke hB0 hr0 HC0
  have HRI:Hid (w9.heap[g+2]? =some (.cells (aB i (.slice ta k tc)).toArray 24 (0,0))):=Lib.hid hr2
  have HR1:=Lib.hid hr1
  clear hr2 hr1 hvs hcf LU He hf1 h40
  obtain⟨vs,hvs⟩:∃vs:List Value,vs=[.agg (aB i (.slice ta k tc)).toArray,undef]:=⟨_,rfl⟩
  refine wp_seq ?_
  refine iq (λn w=>w=if n=2 then W9 else w9) 2 vs (by rw[hvs];rfl) rfl (by kernel_rfl) (by kernel_rfl) (by rw[hsz];kernel_rfl) rfl ?_ ?_
  ·intro ρ hD hrest hco hfu
   have e2:ρ (.tmp 2)=.pointer (some ⟨g+1,0,none⟩):=(hrest 2 (by decide +kernel)).trans (eval_at hf2)
   have e3:ρ (.tmp 3)=.pointer (some ⟨g+2,0,none⟩):=(hrest 3 (by decide +kernel)).trans (eval_at hf3)
   obtain⟨e61,-⟩:ρ (.tmp 61)=(.agg (aB i (.slice ta k tc)).toArray)/\True/\True:=kH hvs hD
   refine zN hvs ?_
   refine⟨aI (B:=λw=>w=w9) (λw h=>h) (λw h=>h) (λw0=>av rfl (dC rfl e3 (λw hS=>by
    have:=run_loadVar_row (P:=Tryz.prog) w (g+2) 24 24 (aB i (.slice ta k tc)).toArray (0,0) _ (by rw[hS.2];exact HRI.out) Tryz.underlying24 rfl (by kernel_rfl)
    unfold Instr.loadAt
    simp[Instr.sureAddr,this]))),?_⟩
   refine⟨⟨λ_ w hS=>?_,λh=>by have h2:true=false:=h;cases h2⟩,trivial⟩
   obtain rfl:w=w9:=hS
   unfold execOp
   simp only[e2,e61,Instr.storeAt,Instr.sureAddr,Sem.run_bind,Sem.run_pure,Result.andThen_ok,run_storeVar_row (P:=Tryz.prog) w (g+1) 24 24 (aB {} (.slice none 0 0)).toArray (aB i (.slice ta k tc)).toArray HR1.out (by kernel_rfl) rfl (by unfold aB;simp[Value.oneCell'])]
   exact⟨rfl,HW9.out.symm⟩
  intro b2 w2 hS2 hK3 hD
  obtain rfl:w2=W9:=hS2
  refine wp_ret ?_
  try simp only[Exit.then,Exit.inBlock]
  refine bodyPost_ret (results_cell_row rfl _ _ (g+1) _ _ (0,0) _ ?_ HR9.out Tryz.underlying24 rfl (by kernel_rfl)) (hK3.defers.trans hdf) ?_
  ·exact eval_at ((hK3.rest 2 (by decide +kernel)).trans hf2)
  exact⟨by rw[HV.out];rfl,HX.out.symm,ta,tc,HV.out,HB9.out,HL9.out⟩
 intro hct a2 w2 hS2 hK2
 subst hS2
 have hkn:(k:Int)<(sn:Int):=by subst LU;simpa using hct
 have hkn2:k<sn:=by omega
 replace hsz:=hK2.size.trans hsz
 replace hdf:=hK2.defers.trans hdf
 replace hf1:=(hK2.rest 1 (by decide +kernel)).trans hf1
 replace hf2:=(hK2.rest 2 (by decide +kernel)).trans hf2
 replace hf3:=(hK2.rest 3 (by decide +kernel)).trans hf3
 replace He:=(hK2.rest 4 (by decide +kernel)).trans He
 clear hK2 hvs hct LU
 clear b40 vs hK1
 obtain⟨x0,hx0⟩:∃x0,i.links[k]? =some x0:=⟨_,List.getElem?_eq_getElem (by rw[<-hsn.out];exact hkn2)⟩
 obtain⟨sb,hsa,Rz⟩:=hlk.out (by omega)
 subst hsa
 obtain⟨hB0,hr0,hr1,ta,tc,hr2,hown,hbn⟩:=HN.out
 obtain⟨W2,hW2⟩:∃W2,W2=w2.drew:=⟨_,rfl⟩
 obtain⟨W3,hW3⟩:∃W3,W3=W2.alloc (.cells #[.int .i64 x0.type,.string x0.ref] 91):=⟨_,rfl⟩
 have hkl:(i.links.take k).length=k:=by rw[List.length_take];have:=hsn.out;omega
 have hz2:W2.heap=w2.heap:=by rw[hW2];rfl
 have hs3:W3.heap.size=W2.heap.size+1:=by rw[hW3];simp
 have Bc:Below W2.heap.size W2 W3:=by rw[hW3];exact(Below.refl _ _).alloc (Nat.le_refl _) _
 have hb2:Below g w W2:=by rw[hW2];exact hB0.drew
 have hgs:g+2<W2.heap.size:=by rw[hz2];exact(Array.getElem?_eq_some_iff.1 hr2).1
 have hl3:W3.ownsRow (g+3) 91 2 (.slice ta k tc) k (eB (i.links.take k)):=by
  unfold LkL at hown
  rw[hkl]at hown
  refine fK hown λj hj=>?_
  have hj2:j<W2.heap.size:=by rw[hz2];exact(hown.lt j hj).2
  rw[Bc.block j hj2,hz2]
 have hrow3:W3.heap[W2.heap.size]? =some (.cells #[.int .i64 x0.type,.string x0.ref] 91 (0,0)):=by rw[hW3];exact aD W2 _
 obtain⟨i0,hii,hz0,hz1,hz2'⟩:=info_parts KC
 obtain⟨v9,W4,OU,Ii,xm,hat9⟩:=oh (w:=W3) 22 22 91 i0 (.agg #[.int .i64 0,.string ⟨#[]⟩]) 2 24 Tryz.underlying22 hii hz0 hz1 hz2' rfl (by decide) (g+3) (.slice ta k tc) k (eB (i.links.take k))
  hl3 (some ⟨W2.heap.size,0,none⟩) 1 1 [.int .i64 x0.type,.string x0.ref] rfl (λad ha=>by cases ha;exact World.news_of_block hrow3) (λe=>by cases e) (by intro u hu;simp at hu;rcases hu with rfl|rfl<;>rfl) (by unfold maxLen;have:=hlt.out;omega) (by have:=hlt.out;omega) (by omega)
 obtain⟨va,vc,rfl⟩:=fF Ii
 have hblk:∀j,j<g+3->W4.heap[j]? =w2.heap[j]?:=λj hj=>by
  have h1:W4.heap[j]? =W3.heap[j]?:=xm.block j (by omega) (λe=>by have:=(hl3.lt j e.symm).1;omega)
  rw[h1,Bc.block j (by omega),hz2]
 have Pm:W4.heap[g+2]? =some (.cells (aB i (.slice ta k tc)).toArray 24 (0,0)):=(hblk (g+2) (by omega)).trans hr2
 obtain⟨W5,jN⟩:∃W5,W5=W4.setCell ⟨g+2,15,none⟩ (.slice va (k+1) vc):=⟨_,rfl⟩
 have hr25:W5.heap[g+2]? =some (.cells (aB i (.slice va (k+1) vc)).toArray 24 (0,0)):=by
  rw[jN]
  exact aa W4 (g+2) 15 _ _ (.slice va (k+1) vc) Pm
 have Re:∀j,j≠g+2->W5.heap[j]? =W4.heap[j]?:=λj hj=>by
  rw[jN]
  exact Below.heap_setCell W4 _ _ j (λe=>hj (by rw[e]))
 have hsz5:W5.heap.size=W4.heap.size:=by rw[jN];simp[World.setCell]
 have hsz4:W2.heap.size<=W4.heap.size:=Nat.le_trans Bc.size xm.size
 have HN5:Hid (K5 w g i (.slice (some ⟨sb,0,none⟩) sn sc) (k+1) W5):=Lib.hid ⟨⟨by rw[jN];exact xm.os.trans (Bc.os.trans hb2.os),by rw[jN];exact xm.tape.trans (Bc.tape.trans hb2.tape),by rw[jN];exact xm.output.trans (Bc.output.trans hb2.output),by have:=hb2.size;omega,λj hj=>by
  rw[Re j (by omega),hblk j (by omega)];exact hB0.block j hj⟩,(Re g (by omega)).trans ((hblk g (by omega)).trans hr0),(Re (g+1) (by omega)).trans ((hblk (g+1) (by omega)).trans hr1),va,vc,hr25,by
  unfold LkL
  have e1:i.links.take (k+1)=i.links.take k++[x0]:=by rw[List.take_add_one,hx0];rfl
  rw[e1,rE,List.length_append,hkl]
  exact fK Ii λj hj=>Re j (by have:=(Ii.lt j hj).1;omega),by
  show FQ g (i.links[k]?.getD ⟨0,⟨#[]⟩⟩) (bkN g i.links (bk0 w i (.slice (some ⟨sb,0,none⟩) sn sc)) k).1 (bkN g i.links (bk0 w i (.slice (some ⟨sb,0,none⟩) sn sc)) k).2=_
  rw[hbn,hx0]
  unfold FQ
  rw[hW3,hW2]at OU
  simp only[Option.getD_some,OU,jN]⟩
 have hcg:W2.cell? ⟨g,15,none⟩=some (.slice (some ⟨sb,0,none⟩) sn sc):=by rw[cell_of_row W2 g _ _ _ _ (by rw[hz2];exact hr0)];rfl
 have hco2:W2.cell? ⟨g+2,15,none⟩=some (.slice ta k tc):=by rw[cell_of_row W2 (g+2) _ _ _ _ (by rw[hz2];exact hr2)];rfl
 have hco3:W3.cell? ⟨g+2,15,none⟩=some (.slice ta k tc):=by rw[cell_of_row W3 (g+2) _ _ _ _ (by rw[Bc.block _ hgs,hz2];exact hr2)];rfl
 obtain⟨hlt1,hlt2⟩:=Rz W2 hb2 k x0 hx0
 have hc4:W4.cell? ⟨g+2,15,none⟩=some (.slice ta k tc):=by rw[cell_of_row W4 (g+2) _ _ _ _ Pm];rfl
 have hfz:W4.frozen? ⟨g+2,15,none⟩=false:=aP 15 Pm
 have HR9:=Lib.hid OU
 have HW2:=Lib.hid hW2
 have HW3:=Lib.hid hW3
 have HW5:=Lib.hid jN
 clear hbn hB0 hr0 hr1 hr2 hown hkl hz2 hs3 Bc hb2 hgs hl3 hrow3 hii hz0 hz1 hz2' OU Ii xm hat9 hblk Pm jN hr25 Re hsz5 hsz4 Rz hW2 hW3 HC0 HN hx0 hlk
 clear i0
 refine wp_skip ?_
 refine wp_seq (wp_block ?_)
 obtain⟨vs,hvs⟩:∃vs:List Value,vs=[(.pointer (some ⟨g+2,15,none⟩)),(.slice ta k tc),(.pointer (some ⟨g,15,none⟩)),(.slice (some ⟨sb,0,none⟩) sn sc),(.int .i64 (k:Int)),(.pointer (some ⟨sb,k*2,none⟩)),(.pointer (some ⟨sb,k*2,none⟩)),(.int .i64 x0.type),(.pointer (some ⟨g,15,none⟩)),(.slice (some ⟨sb,0,none⟩) sn sc),(.int .i64 (k:Int)),(.pointer (some ⟨sb,k*2,none⟩)),(.pointer (some ⟨sb,k*2+1,none⟩)),(.string x0.ref),(.agg #[.int .i64 x0.type,.string x0.ref]),(.slice (some ⟨W2.heap.size,0,none⟩) 1 1),(.slice va (k+1) vc),(.pointer (some ⟨g+2,15,none⟩)),(undef)]:=⟨_,rfl⟩
 refine iX (λdn w=>w=if dn 18 then W5 else if dn 16 then W4 else if dn 15 then W3 else W2) (Ord.inD [(1,0),(3,2),(5,2),(5,3),(5,4),(6,2),(6,3),(6,4),(6,5),(7,2),(7,3),(7,4),(7,5),(7,6),(9,8),(11,8),(11,9),(11,10),(12,8),(12,9),(12,10),(12,11),(13,8),(13,9),(13,10),(13,11),(13,12),(14,2),(14,3),(14,4),(14,5),(14,6),(14,7),(14,8),(14,9),(14,10),(14,11),(14,12),(14,13),(15,2),(15,3),(15,4),(15,5),(15,6),(15,7),(15,8),(15,9),(15,10),(15,11),(15,12),(15,13),(15,14),(16,0),(16,1),(16,2),(16,3),(16,4),(16,5),(16,6),(16,7),(16,8),(16,9),(16,10),(16,11),(16,12),(16,13),(16,14),(16,15),(18,0),(18,1),(18,2),(18,3),(18,4),(18,5),(18,6),(18,7),(18,8),(18,9),(18,10),(18,11),(18,12),(18,13),(18,14),(18,15),(18,16),(18,17)]) (Ord.qJ (by kernel_rfl)) 19 vs (by rw[hvs];rfl) rfl rfl (by kernel_rfl) (by kernel_rfl) (by kernel_rfl) (by rw[hsz];kernel_rfl) (by simpa using HW2.out.symm) ?_ ?_
 ·intro ρ hD hrest hco hfu
  have e1:ρ (.tmp 1)=.pointer (some ⟨g,0,none⟩):=(hrest 1 (by decide +kernel)).trans (eval_at hf1)
  have e3:ρ (.tmp 3)=.pointer (some ⟨g+2,0,none⟩):=(hrest 3 (by decide +kernel)).trans (eval_at hf3)
  have e4:ρ (.tmp 4)=.int .i64 (k:Int):=(hrest 4 (by decide +kernel)).trans (eval_at He)
  obtain⟨e43,e44,e45,e46,e47,e48,e49,e50,e51,e52,e53,e54,e55,e56,e57,e58,e59,e60,-⟩:ρ (.tmp 43)=(.pointer (some ⟨g+2,15,none⟩))/\ρ (.tmp 44)=(.slice ta k tc)/\ρ (.tmp 45)=(.pointer (some ⟨g,15,none⟩))/\ρ (.tmp 46)=(.slice (some ⟨sb,0,none⟩) sn sc)/\ρ (.tmp 47)=(.int .i64 (k:Int))/\ρ (.tmp 48)=(.pointer (some ⟨sb,k*2,none⟩))/\ρ (.tmp 49)=(.pointer (some ⟨sb,k*2,none⟩))/\ρ (.tmp 50)=(.int .i64 x0.type)/\ρ (.tmp 51)=(.pointer (some ⟨g,15,none⟩))/\ρ (.tmp 52)=(.slice (some ⟨sb,0,none⟩) sn sc)/\ρ (.tmp 53)=(.int .i64 (k:Int))/\ρ (.tmp 54)=(.pointer (some ⟨sb,k*2,none⟩))/\ρ (.tmp 55)=(.pointer (some ⟨sb,k*2+1,none⟩))/\ρ (.tmp 56)=(.string x0.ref)/\ρ (.tmp 57)=(.agg #[.int .i64 x0.type,.string x0.ref])/\ρ (.tmp 58)=(.slice (some ⟨W2.heap.size,0,none⟩) 1 1)/\ρ (.tmp 59)=(.slice va (k+1) vc)/\ρ (.tmp 60)=(.pointer (some ⟨g+2,15,none⟩))/\True/\True:=kH hvs hD
  refine yj hvs ?_
  refine⟨λdn hn hd he=>aI (B:=λ_=>True) (λw h=>by simpa using h) (λ_ _=>trivial) (λw0=>av rfl (dm rfl e3 (λw=>by go_simp))),?_⟩
  refine⟨λdn hn hd he=>aI (B:=λw=>w=W2\/w=W3) (λw h=>by simpa using h) (λw h=>by have h16:=he 16 rfl;have h18:=he 18 rfl;simp only[h16,h18,Bool.false_eq_true,if_false]at h;split at h<;>first|exact .inr h|exact .inl h) (λw0=>av rfl (dC rfl e43 (λw hS=>Lv _ w _ _ _ (by rcases hS.2 with h|h<;>rw[h]<;>first|exact hco2|exact hco3)))),?_⟩
  refine⟨λdn hn hd he=>aI (B:=λ_=>True) (λw h=>by simpa using h) (λ_ _=>trivial) (λw0=>av rfl (dm rfl e1 (λw=>by go_simp))),?_⟩
  refine⟨λdn hn hd he=>aI (B:=λw=>w=W2) (λw h=>by simpa using h) (λw h=>by have Kb:=he 15 rfl;have h16:=he 16 rfl;have h18:=he 18 rfl;simp only[Kb,h16,h18,Bool.false_eq_true,if_false]at h;exact h) (λw0=>av rfl (dC rfl e45 (λw hS=>MK _ w _ _ _ (by rw[hS.2];exact hcg)))),?_⟩
  refine⟨λdn hn hd he=>aI (B:=λ_=>True) (λw h=>by simpa using h) (λ_ _=>trivial) (λw0=>av rfl (dZ rfl e4)),?_⟩
  refine⟨λdn hn hd he=>aI (B:=λ_=>True) (λw h=>by simpa using h) (λ_ _=>trivial) (λw0=>av rfl (LH rfl e46 e47 hkn2)),?_⟩
  refine⟨λdn hn hd he=>aI (B:=λ_=>True) (λw h=>by simpa using h) (λ_ _=>trivial) (λw0=>av rfl (dm rfl e48 (λw=>by go_simp))),?_⟩
  refine⟨λdn hn hd he=>aI (B:=λw=>w=W2) (λw h=>by simpa using h) (λw h=>by have Kb:=he 15 rfl;have h16:=he 16 rfl;have h18:=he 18 rfl;simp only[Kb,h16,h18,Bool.false_eq_true,if_false]at h;exact h) (λw0=>av rfl (dC rfl e49 (λw hS=>Fx _ w _ (by rw[hS.2];exact hlt1)))),?_⟩
  refine⟨λdn hn hd he=>aI (B:=λ_=>True) (λw h=>by simpa using h) (λ_ _=>trivial) (λw0=>av rfl (dm rfl e1 (λw=>by go_simp))),?_⟩
  refine⟨λdn hn hd he=>aI (B:=λw=>w=W2) (λw h=>by simpa using h) (λw h=>by have Kb:=he 15 rfl;have h16:=he 16 rfl;have h18:=he 18 rfl;simp only[Kb,h16,h18,Bool.false_eq_true,if_false]at h;exact h) (λw0=>av rfl (dC rfl e51 (λw hS=>MK _ w _ _ _ (by rw[hS.2];exact hcg)))),?_⟩
  refine⟨λdn hn hd he=>aI (B:=λ_=>True) (λw h=>by simpa using h) (λ_ _=>trivial) (λw0=>av rfl (dZ rfl e4)),?_⟩
  refine⟨λdn hn hd he=>aI (B:=λ_=>True) (λw h=>by simpa using h) (λ_ _=>trivial) (λw0=>av rfl (LH rfl e52 e53 hkn2)),?_⟩
  refine⟨λdn hn hd he=>aI (B:=λ_=>True) (λw h=>by simpa using h) (λ_ _=>trivial) (λw0=>av rfl (dm rfl e54 (λw=>by go_simp))),?_⟩
  refine⟨λdn hn hd he=>aI (B:=λw=>w=W2) (λw h=>by simpa using h) (λw h=>by have Kb:=he 15 rfl;have h16:=he 16 rfl;have h18:=he 18 rfl;simp only[Kb,h16,h18,Bool.false_eq_true,if_false]at h;exact h) (λw0=>av rfl (dC rfl e55 (λw hS=>EI _ w _ (by rw[hS.2];exact hlt2)))),?_⟩
  refine⟨λdn hn hd he=>aI (B:=λ_=>True) (λw h=>by simpa using h) (λ_ _=>trivial) (λw0=>av rfl (Az rfl (Nq ρ _ _ e50 e56))),?_⟩
  refine⟨λdn hn hd he=>⟨λ_ w hS=>?_,λh=>by have h2:true=false:=h;cases h2⟩,?_⟩
  ·have h16:=he 16 rfl;have h18:=he 18 rfl
   simp only[hn,h16,h18,Bool.false_eq_true,if_false]at hS
   subst hS
   unfold execOp
   simp only[e57]
   go_simp
   exact⟨rfl,by simp[h16,h18];first|done|exact HW3.out.symm⟩
  refine⟨λdn hn hd he=>⟨λ_ w hS=>?_,λh=>by have h2:true=false:=h;cases h2⟩,?_⟩
  ·have Kb:=hd 15 rfl;have h18:=he 18 rfl
   simp only[hn,Kb,h18,Bool.false_eq_true,if_false,if_true]at hS
   subst hS
   unfold execOp
   simp only[resolve,invoke,builtin,Sem.run_bind,Sem.run_pure,Result.andThen_ok,List.map_toArray,List.map_cons,List.map_nil,e44,e58,HR9.out]
   exact⟨rfl,by simp[h18]⟩
  refine⟨λdn hn hd he=>aI (B:=λ_=>True) (λw h=>by simpa using h) (λ_ _=>trivial) (λw0=>av rfl (dm rfl e3 (λw=>by go_simp))),?_⟩
  refine⟨λdn hn hd he=>⟨λ_ w hS=>?_,λh=>by have h2:true=false:=h;cases h2⟩,?_⟩
  ·have h16:=hd 16 rfl
   simp only[hn,h16,Bool.false_eq_true,if_false,if_true]at hS
   subst hS
   unfold execOp
   simp only[e60,e59]
   go_simp
   exact⟨rfl,by simp;first|done|exact HW5.out.symm⟩
  exact trivial
 intro a5 w5 hS5 hK5 hD5
 have Rw:w5=W5:=by simpa using hS5
 subst Rw
 replace hsz:=hK5.size.trans hsz
 replace hdf:=hK5.defers.trans hdf
 replace hf1:=(hK5.rest 1 (by decide +kernel)).trans hf1
 replace hf2:=(hK5.rest 2 (by decide +kernel)).trans hf2
 replace hf3:=(hK5.rest 3 (by decide +kernel)).trans hf3
 replace He:=(hK5.rest 4 (by decide +kernel)).trans He
 clear hK5 hD5 hvs
 simp only[Exit.then,Exit.inBlock]
 have hadd:IntKind.i64.wrap ((k:Int)+1)=(k:Int)+1:=IntWalk.i64_in _ (by have:=hlt.out;omega)
 refine H9 rfl rfl rfl rfl rfl rfl rfl rfl rfl He (by rw[hsz];decide) (by rw[hsz];decide) hadd λb2 hd2 hs2 hf4' hk2=>?_
 have e5:((k+1:Nat):Int)=(k:Int)+1:=by omega
 refine⟨⟨k+1,hkn2,hs2.trans hsz,hd2.trans hdf,(hk2 1 (by decide) (by decide) (by decide)).trans hf1,(hk2 2 (by decide) (by decide) (by decide)).trans hf2,(hk2 3 (by decide) (by decide) (by decide)).trans hf3,by rw[e5];exact hf4',HN5⟩,?_⟩
 rw[Array.getD_eq_getD_getElem?,Array.getD_eq_getD_getElem?,hf4',h40.out]
 simp only[Option.getD_some,RowKit.intOf]
 omega
theorem ent34:∀args w,(callFunc 56 args).run Tryz.prog w=.ok (.enter 56 args) w:=enters_of Tryz.func56 (by kernel_rfl) rfl
theorem ent35:∀args w,(callFunc 57 args).run Tryz.prog w=.ok (.enter 57 args) w:=enters_of Tryz.func57 (by kernel_rfl) rfl
theorem OZ (ρ:Operand->Value)(Q:Ps.Req)(V:Value){x0 x1 x2 x3 x4:Operand}(h0:ρ x0=.int .i64 Q.op)(h1:ρ x1=.string Q.sender)(h2:ρ x2=.string Q.ref)(h3:ρ x3=.agg (aB Q.ins V).toArray)(h4:ρ x4=.agg (aG Q.amd).toArray)(w:World):
 (Instr.build 28 ((#[(0,x0),(1,x1),(2,x2),(3,x3),(4,x4)]:Array (Nat×Operand)).map λ(i,x)=>(i,ρ x))).run Tryz.prog w=.ok (.agg (aA Q V)) w:=by
 simp only[List.map_toArray,List.map_cons,List.map_nil,h0,h1,h2,h3,h4]
 unfold aA aB aG
 go_simp
theorem Qy {w:World}{B:Nat}{a:Option Addr}{n c:Nat}{ks:List Ps.Link}(h:LkL w B (.slice a n c) ks)(hn:0<n):∃sb,a=some ⟨sb,0,none⟩/\∀W,Below w.heap.size w W->jD W sb ks:=by
 obtain⟨a',c',hs⟩:=fF h
 obtain⟨rfl,rfl,rfl⟩:a=a'/\n=ks.length/\c=c':=by cases hs;exact⟨rfl,rfl,rfl⟩
 obtain⟨sb,cap,hv,hlt,hcell⟩:=jK h hn
 refine⟨sb,by cases hv;rfl,λW hW=>?_⟩
 refine jD.below ?_ hW
 intro j x hj
 have hk:∀(ks:List Ps.Link) (j:Nat) (x:Ps.Link),ks[j]? =some x->(eB ks)[j*2]? =some (.int .i64 x.type)/\(eB ks)[j*2+1]? =some (.string x.ref):=by
  intro ks
  induction ks with
  |nil=>intro j x h;simp at h
  |cons y ks ih=>
   intro j x h
   cases j with
   |zero=>
    obtain rfl:y=x:=by simpa using h
    exact⟨rfl,rfl⟩
   |succ j=>
    have:=ih j x (by simpa using h)
    rw[show(j+1)*2=j*2+1+1 from by omega]
    exact this
 obtain⟨h1,h2⟩:=hk ks j x hj
 exact⟨hcell _ _ h1,hcell _ _ h2⟩
theorem IQ (w:World)(Q:Ps.Req)(sa:Option Addr)(sn sc:Nat)(hsn:Hid (sn=Q.ins.links.length))(hlt:Hid (sn<=1000000))(hlk:Hid (0<sn->∃sb,sa=some ⟨sb,0,none⟩/\∀W,Below w.heap.size w W->jD W sb Q.ins.links)):
 Calls Tryz.prog 18 #[.agg (aA Q (.slice sa sn sc))] w λe w'=>∃ta tc,e=.returned (.agg (aA Q (.slice ta sn tc)))/\Below w.heap.size w w'/\LkL w' w.heap.size (.slice ta sn tc) Q.ins.links:=by
 obtain⟨g,hg⟩:∃g,g=w.heap.size:=⟨_,rfl⟩
 go_enter Tryz.func18,Tryz.ntmps18
 refine wp_seq ?_
 refine wp_region_lit ?_
 refine wpList_plain rfl (λK hK=>?_)
 go_simp
 refine hK _ _ ?_
 clear hK K
 refine wpList_plain rfl (λK hK=>?_)
 go_simp
 refine hK _ _ ?_
 clear hK K
 refine aU ?_
 have rww:Hid (∀(W:World) (sb:Nat),Below w.heap.size w W->True):=Lib.hid λ_ _ _=>trivial
 generalize hW:World.alloc _ _=W1
 have hW1:W1=(w.alloc (.cells (aA Q (.slice sa sn sc)) 37)).alloc (.cells (aA {} (.slice none 0 0)) 28):=hW.symm
 clear hW rww
 have hb1:Below w.heap.size w W1:=by rw[hW1];exact((Below.refl _ _).alloc (Nat.le_refl _) _).alloc (by simp) _
 have hr0:W1.heap[g]? =some (.cells (aA Q (.slice sa sn sc)) 37 (0,0)):=by rw[hW1,hg,heap_alloc_old _ _ (by simp)];exact aD w _
 have hr1:W1.heap[g+1]? =some (.cells (aA {} (.slice none 0 0)) 28 (0,0)):=by rw[hW1,hg];exact heap_alloc2_new _ _ _
 have hs1:g+2=W1.heap.size:=by rw[hW1,hg];simp
 have HG:=Lib.hid hg
 rw[<-hg]at hb1 hlk⊢
 clear hW1 hg
 obtain⟨W2,hW2⟩:∃W2,W2=W1.drew:=⟨_,rfl⟩
 have hb2:Below g w W2:=by rw[hW2];exact hb1.drew
 have hz2:W2.heap=W1.heap:=by rw[hW2];rfl
 have nB:=Lg W2 Q.ins sa sn sc hsn hlt (Lib.hid λh=>by
  obtain⟨sb,e,hr⟩:=hlk.out h
  exact⟨sb,e,λW hW=>hr W (hb2.trans (hW.mono (by have:=hb2.size;have:=HG.out;omega)))⟩)
 obtain⟨W3,hW3⟩:∃W3,W3=bkW W2 Q.ins (.slice sa sn sc):=⟨_,rfl⟩
 obtain⟨ta,tc,hV,hb3,hL3⟩:∃ta tc,bkV W2 Q.ins (.slice sa sn sc)=.slice ta sn tc/\Below W2.heap.size W2 W3/\LkL W3 (W2.heap.size+3) (.slice ta sn tc) Q.ins.links:=by
  obtain⟨e,w',_,⟨_,h1,ta,tc,h2,h3,h4⟩,_⟩:=nB []
  rw[h1]at h3 h4
  rw[hW3]
  exact⟨ta,tc,h2,h3,h4⟩
 rw[hV,<-hW3]at nB
 replace nB:=Lib.hid (nB.mono λe w' h=>(⟨h.1,h.2.1⟩:_/\_))
 have hs2:W2.heap.size=g+2:=by rw[hz2,hs1]
 have hg3:∀w,Below W3.heap.size W3 w->w.heap[g]? =some (.cells (aA Q (.slice sa sn sc)) 37 (0,0))/\w.heap[g+1]? =some (.cells (aA {} (.slice none 0 0)) 28 (0,0)):=λw hw=>by
  have:=hb3.size
  rw[hw.block g (by omega),hw.block (g+1) (by omega),hb3.block g (by omega),hb3.block (g+1) (by omega),hz2]
  exact⟨hr0,hr1⟩
 have hst:Hid (∀(dn:Nat->Bool) (w:World),(if dn 13=true then∃w0,Below W3.heap.size W3 w0/\w=w0.setRow (g+1) (aA Q (.slice ta sn tc))else if dn 11=true then Below W3.heap.size W3 w else if dn 8=true then w=W3 else w=W2)->w.heap[g]? =some (.cells (aA Q (.slice sa sn sc)) 37 (0,0))):=Lib.hid λdn w h=>by
  split at h
  ·obtain⟨w0,h1,rfl⟩:=h
   rw[setRow_other _ _ _ _ (by omega)]
   exact(hg3 w0 h1).1
  ·split at h
   ·exact(hg3 w h).1
   ·split at h
    ·rw[h];exact(hg3 W3 (Below.refl _ _)).1
    ·rw[h,hz2];exact hr0
 have hz1:Hid (∀w,Below W3.heap.size W3 w->w.heap[g+1]? =some (.cells (aA {} (.slice none 0 0)) 28 (0,0))):=Lib.hid λw hw=>(hg3 w hw).2
 have HE:Hid (∀w0,Below W3.heap.size W3 w0->(w0.setRow (g+1) (aA Q (.slice ta sn tc))).heap[g+1]? =some (.cells (aA Q (.slice ta sn tc)) 28 (0,0))/\Below g w (w0.setRow (g+1) (aA Q (.slice ta sn tc)))/\LkL (w0.setRow (g+1) (aA Q (.slice ta sn tc))) g (.slice ta sn tc) Q.ins.links):=Lib.hid λw0 h0=>by
  have k1:=hb3.size
  have k2:=hb2.size
  have k3:=h0.size
  refine⟨setRow_heap w0 (g+1) _ _ _ _ (hg3 w0 h0).2,⟨?_,?_,?_,?_,λj hj=>?_⟩,?_⟩
  ·exact h0.os.trans (hb3.os.trans hb2.os)
  ·exact h0.tape.trans (hb3.tape.trans hb2.tape)
  ·exact h0.output.trans (hb3.output.trans hb2.output)
  ·rw[setRow_size];omega
  ·rw[setRow_other _ _ _ _ (by omega),h0.block j (by omega),hb3.block j (by omega)]
   exact hb2.block j hj
  ·refine gz (fK hL3 λj hj=>?_) (by omega)
   have:=hL3.lt j hj
   rw[setRow_other _ _ _ _ (by omega)]
   exact h0.block j this.2
 have HW2:=Lib.hid hW2
 clear hW3 hV hb3 hL3 hs2 hg3 hz2 hb2 hW2 hs1 hr0 hr1 hb1 hlk hlt hsn
 refine jo rfl λa ha hdf=>?_
 have hsz:a.tmps.size=16:=by rw[ha];rfl
 have hf1:a.tmps[1]? =some (.pointer (some ⟨g,0,none⟩)):=by rw[ha];rfl
 have hf2:a.tmps[2]? =some (.pointer (some ⟨g+1,0,none⟩)):=by rw[ha];rfl
 clear ha
 refine wp_seq ?_
 obtain⟨vs,hvs⟩:∃vs:List Value,vs=[(.pointer (some ⟨g,0,none⟩)),(.int .i64 Q.op),(.pointer (some ⟨g,1,none⟩)),(.string Q.sender),(.pointer (some ⟨g,2,none⟩)),(.string Q.ref),(.pointer (some ⟨g,3,none⟩)),(.agg (aB Q.ins (.slice sa sn sc)).toArray),(.agg (aB Q.ins (.slice ta sn tc)).toArray),(.pointer (some ⟨g,19,none⟩)),(.agg (aG Q.amd).toArray),(.agg (aG Q.amd).toArray),(.agg (aA Q (.slice ta sn tc))),(undef)]:=⟨_,rfl⟩
 refine iX (λdn w=>if dn 13=true then∃w0,Below W3.heap.size W3 w0/\w=w0.setRow (g+1) (aA Q (.slice ta sn tc))else if dn 11=true then Below W3.heap.size W3 w else if dn 8=true then w=W3 else w=W2) (Ord.inD [(1,0),(3,2),(5,4),(7,6),(8,6),(8,7),(10,9),(11,8),(11,9),(11,10),(12,0),(12,1),(12,2),(12,3),(12,4),(12,5),(12,6),(12,7),(12,8),(12,9),(12,10),(12,11),(13,0),(13,1),(13,2),(13,3),(13,4),(13,5),(13,6),(13,7),(13,8),(13,9),(13,10),(13,11),(13,12)]) (Ord.qJ (by kernel_rfl)) 14 vs (by rw[hvs];rfl) rfl rfl (by kernel_rfl) (by kernel_rfl) (by kernel_rfl) (by rw[hsz];kernel_rfl) (by simpa using HW2.out.symm) ?_ ?_
 ·intro ρ hD hrest hco hfu
  have e1:ρ (.tmp 1)=.pointer (some ⟨g,0,none⟩):=(hrest 1 (by decide +kernel)).trans (eval_at hf1)
  have e2:ρ (.tmp 2)=.pointer (some ⟨g+1,0,none⟩):=(hrest 2 (by decide +kernel)).trans (eval_at hf2)
  obtain⟨e3,e4,e5,e6,e7,e8,e9,e10,e11,e12,e13,e14,e15,-⟩:ρ (.tmp 3)=(.pointer (some ⟨g,0,none⟩))/\ρ (.tmp 4)=(.int .i64 Q.op)/\ρ (.tmp 5)=(.pointer (some ⟨g,1,none⟩))/\ρ (.tmp 6)=(.string Q.sender)/\ρ (.tmp 7)=(.pointer (some ⟨g,2,none⟩))/\ρ (.tmp 8)=(.string Q.ref)/\ρ (.tmp 9)=(.pointer (some ⟨g,3,none⟩))/\ρ (.tmp 10)=(.agg (aB Q.ins (.slice sa sn sc)).toArray)/\ρ (.tmp 11)=(.agg (aB Q.ins (.slice ta sn tc)).toArray)/\ρ (.tmp 12)=(.pointer (some ⟨g,19,none⟩))/\ρ (.tmp 13)=(.agg (aG Q.amd).toArray)/\ρ (.tmp 14)=(.agg (aG Q.amd).toArray)/\ρ (.tmp 15)=(.agg (aA Q (.slice ta sn tc)))/\True/\True:=kH hvs hD
  refine yj hvs ?_
  refine⟨λdn hn hd he=>aI (B:=λ_=>True) (λw h=>by simpa using h) (λ_ _=>trivial) (λw0=>av rfl (dm rfl e1 (λw=>by go_simp))),?_⟩
  refine⟨λdn hn hd he=>aI (B:=λw=>w.heap[g]? =some (.cells (aA Q (.slice sa sn sc)) 37 (0,0))) (λw h=>by simpa using h) (λw h=>hst.out dn w h) (λw0=>av rfl (dC rfl e3 (λw hS=>Fx _ w _ (by rw[cell_of_row _ _ _ _ _ _ hS.2];rfl)))),?_⟩
  refine⟨λdn hn hd he=>aI (B:=λ_=>True) (λw h=>by simpa using h) (λ_ _=>trivial) (λw0=>av rfl (dm rfl e1 (λw=>by go_simp))),?_⟩
  refine⟨λdn hn hd he=>aI (B:=λw=>w.heap[g]? =some (.cells (aA Q (.slice sa sn sc)) 37 (0,0))) (λw h=>by simpa using h) (λw h=>hst.out dn w h) (λw0=>av rfl (dC rfl e5 (λw hS=>EI _ w _ (by rw[cell_of_row _ _ _ _ _ _ hS.2];rfl)))),?_⟩
  refine⟨λdn hn hd he=>aI (B:=λ_=>True) (λw h=>by simpa using h) (λ_ _=>trivial) (λw0=>av rfl (dm rfl e1 (λw=>by go_simp))),?_⟩
  refine⟨λdn hn hd he=>aI (B:=λw=>w.heap[g]? =some (.cells (aA Q (.slice sa sn sc)) 37 (0,0))) (λw h=>by simpa using h) (λw h=>hst.out dn w h) (λw0=>av rfl (dC rfl e7 (λw hS=>EI _ w _ (by rw[cell_of_row _ _ _ _ _ _ hS.2];rfl)))),?_⟩
  refine⟨λdn hn hd he=>aI (B:=λ_=>True) (λw h=>by simpa using h) (λ_ _=>trivial) (λw0=>av rfl (dm rfl e1 (λw=>by go_simp))),?_⟩
  refine⟨λdn hn hd he=>aI (B:=λw=>w.heap[g]? =some (.cells (aA Q (.slice sa sn sc)) 37 (0,0))) (λw h=>by simpa using h) (λw h=>hst.out dn w h) (λw0=>av rfl (dC rfl e9 (λw hS=>K4 g Q sa sn sc w hS.2))),?_⟩
  refine⟨λdn hn hd he=>⟨λ_ w hS=>?_,λh=>by have h2:true=false:=h;cases h2⟩,?_⟩
  ·have h11:=he 11 rfl;have OX:=he 13 rfl
   simp only[hn,h11,OX,Bool.false_eq_true,if_false]at hS
   subst hS
   unfold execOp
   have hf:=hfu 56
   simp[resolve,invoke,hf,e10,Deferred.ofValue,ent34]
   exact nB.out.mono λe w' h=>⟨h.1,by simp[h11,OX];exact h.2⟩
  refine⟨λdn hn hd he=>aI (B:=λ_=>True) (λw h=>by simpa using h) (λ_ _=>trivial) (λw0=>av rfl (dm rfl e1 (λw=>by go_simp))),?_⟩
  refine⟨λdn hn hd he=>aI (B:=λw=>w.heap[g]? =some (.cells (aA Q (.slice sa sn sc)) 37 (0,0))) (λw h=>by simpa using h) (λw h=>hst.out dn w h) (λw0=>av rfl (dC rfl e12 (λw hS=>rq_amd g Q _ w hS.2))),?_⟩
  refine⟨λdn hn hd he=>⟨λ_ w hS=>?_,λh=>by have h2:true=false:=h;cases h2⟩,?_⟩
  ·have h8:=hd 8 rfl;have OX:=he 13 rfl
   simp only[hn,h8,OX,Bool.false_eq_true,if_false,if_true]at hS
   subst hS
   unfold execOp
   have hf:=hfu 57
   simp[resolve,invoke,hf,e13,Deferred.ofValue,ent35]
   exact(IV _ Q.amd).mono λe w' h=>⟨h.1,by simp[OX];exact h.2⟩
  refine⟨λdn hn hd he=>aI (B:=λ_=>True) (λw h=>by simpa using h) (λ_ _=>trivial) (λw0=>av rfl (Az rfl (OZ ρ _ _ e4 e6 e8 e11 e14))),?_⟩
  refine⟨λdn hn hd he=>⟨λ_ w hS=>?_,λh=>by have h2:true=false:=h;cases h2⟩,?_⟩
  ·have h11:=hd 11 rfl
   simp only[hn,h11,Bool.false_eq_true,if_false,if_true]at hS
   unfold execOp
   simp only[e2,e15,Instr.storeAt,Instr.sureAddr,Sem.run_bind,Sem.run_pure,Result.andThen_ok,run_storeVar_row (P:=Tryz.prog) w (g+1) 28 28 (aA {} (.slice none 0 0)) (aA Q (.slice ta sn tc)) (hz1.out w hS) (by kernel_rfl) rfl (dA _ _ _ _)]
   exact⟨rfl,by simp;exact⟨w,hS,rfl⟩⟩
  exact trivial
 intro b w9 hS hK hD
 obtain⟨w0,h0,rfl⟩:∃w0,Below W3.heap.size W3 w0/\w9=w0.setRow (g+1) (aA Q (.slice ta sn tc)):=by simpa using hS
 obtain⟨k1,k2,k3⟩:=HE.out w0 h0
 refine wp_ret ?_
 try simp only[Exit.then,Exit.inBlock]
 refine bodyPost_ret (results_cell_row rfl _ _ (g+1) _ _ (0,0) _ ?_ k1 Tryz.underlying28 rfl (by kernel_rfl)) (hK.defers.trans hdf) ?_
 ·exact eval_at ((hK.rest 2 (by decide +kernel)).trans hf2)
 exact⟨ta,tc,rfl,k2,k3⟩
open Go.Proofs.YtnjjeapcalkmaaaGreatDoor.Ev (AV Mem Fr ja aR eD Sh Stop)
theorem eq36 (A:Ps.Amd)(x y:Operand)(w:World):(do eqGuard .eql 26 x y (.agg (aG A).toArray) (.agg (aG A).toArray);binOp .eql 26 (.agg (aG A).toArray) (.agg (aG A).toArray):Sem Value).run Tryz.prog w=.ok (.bool true) w:=by
 unfold aG
 go_simp
theorem Ph (w:World)(i:Ps.Ins)(sa ta:Option Addr)(sn sc tc:Nat)(h63:sn<=9223372036854775806)(hsn:sn=i.links.length)(hlk:dJ w sa sn i.links)(hlm:dJ w ta sn i.links):
 Calls Tryz.prog 43 #[.agg (aB i (.slice sa sn sc)).toArray,.agg (aB i (.slice ta sn tc)).toArray] w λe w'=>e=.returned (.bool true)/\Below w.heap.size w w':=
 Cn w i i sa ta sn sc sn tc _ (Lib.hid h63) (Lib.hid hsn) (Lib.hid hsn) (Lib.hid hlk) (Lib.hid hlm) (Lib.hid λh=>absurd rfl h)
  (Lib.hid λ_ ⟨j,y,z,h1,h2,h3⟩=>absurd (by rw[h1]at h2;cases h2;exact⟨rfl,rfl⟩) h3)
  (Lib.hid λ_ _=>by simp)
def Mm (f:FuncId)(vs:List AV):Option Value:=if f=43 then(match vs with|[.a 0 3 16,.a 1 3 16]=>some (.bool true)|_=>none)else none
def Gq (o:Oper)(ov:Operand->Option AV):Option AV:=match o.op with
 | .binOp .eql t x y _=>if t=26 then(match ov x,ov y with
   |some (.a 0 19 9),some (.a 1 19 9)=>some (.v (.bool true))
   |_,_=>none)else none
 |_=>none
def sqM (g h:Nat)(Q:Ps.Req)(la lb:Value):Mem Unit:=ja uU [(some (g,0),mi Q la),(some (h,0),mi Q lb)] Mm Gq
theorem Ei (w:World)(Q:Ps.Req)(sa ta:Option Addr)(sn sc tc:Nat)(h63:Hid (sn<=9223372036854775806))(hsn:Hid (sn=Q.ins.links.length))(hlk:Hid (dJ w sa sn Q.ins.links))(hlm:Hid (dJ w ta sn Q.ins.links)):
 Calls Tryz.prog 17 #[.agg (aA Q (.slice sa sn sc)),.agg (aA Q (.slice ta sn tc))] w λe w'=>e=.returned (.bool true)/\Below w.heap.size w w':=by
 go_enter Tryz.func17,Tryz.ntmps17
 refine wp_seq ?_
 refine wp_region_lit ?_
 refine wpList_plain rfl (λK hK=>?_)
 go_simp
 refine hK _ _ ?_
 clear hK K
 refine wpList_plain rfl (λK hK=>?_)
 go_simp
 refine hK _ _ ?_
 clear hK K
 refine wpList_plain rfl (λK hK=>?_)
 go_simp
 refine hK _ _ ?_
 clear hK K
 refine aU ?_
 obtain⟨Wa,hWa⟩:∃Wa,Wa=w.alloc (.cells (aA Q (.slice sa sn sc)) 28):=⟨_,rfl⟩
 obtain⟨W1,hW1⟩:∃W1,W1=Wa.alloc (.cells (aA Q (.slice ta sn tc)) 28):=⟨_,rfl⟩
 obtain⟨g,hg⟩:∃g,g=w.heap.size:=⟨_,rfl⟩
 obtain⟨h,hh⟩:∃h,h=w.heap.size+1:=⟨_,rfl⟩
 have LP:h=Wa.heap.size:=by rw[hh,hWa];simp
 have wJ:Below Wa.heap.size Wa W1:=by rw[hW1];exact(Below.refl _ _).alloc (Nat.le_refl _) _
 have hrow:∀W,Below W1.heap.size W1 W->W.heap[g]? =some (.cells (mi Q (.slice sa sn sc)).toArray 28 (0,0)):=λW hW=>by
  rw[hW.block g (by rw[hW1,hWa,hg];simp;omega),wJ.block g (by rw[hWa,hg];simp),hWa,hg];exact aD w _
 have lU:∀W,Below W1.heap.size W1 W->W.heap[h]? =some (.cells (mi Q (.slice ta sn tc)).toArray 28 (0,0)):=λW hW=>by
  rw[hW.block h (by rw[LP,hW1];simp),hW1,LP];exact aD Wa _
 have hB1:Below w.heap.size w W1:=((by rw[hWa];exact(Below.refl _ _).alloc (Nat.le_refl _) _:Below w.heap.size w Wa).trans (wJ.mono (by rw[hWa];simp)))
 have up:∀W,Below W1.heap.size W1 W->Below w.heap.size w W:=λW hW=>hB1.trans (hW.mono hB1.size)
 rw[<-hg]at hh
 rw[<-hWa,<-hW1,<-hg,<-hh]
 clear hW1 hWa LP wJ hh
 refine jo rfl λa ha hdf=>?_
 have hO:Ev.Ok Tryz.prog (λ(_:Unit) W=>Below W1.heap.size W1 W) (sqM g h Q (.slice sa sn sc) (.slice ta sn tc)):=by
  refine Ev.jH (λt f d h=>CO h) (λq b o l h W hS=>?_) (λf vs v h=>?_) (λo ov v h ρ hov W hS=>?_)
  ·rcases q with _|_|q
   ·cases h;exact fU hrow W hS
   ·cases h;exact fU lU W hS
   ·cases h
  ·unfold Mm at h
   split at h
   ·rename_i hf
    subst hf
    split at h
    ·cases h
     exact⟨Rb,λW hS=>(Ph W Q.ins sa ta sn sc tc h63.out hsn.out (hlk.out.below (up W hS)) (hlm.out.below (up W hS))).mono λe w' q=>⟨q.1,hS.trans (q.2.mono hS.size)⟩⟩
    ·cases h
   ·cases h
  ·unfold Gq at h
   split at h
   ·rename_i t x y t2 ho
    split at h
    ·rename_i ht
     subst ht
     split at h
     ·rename_i h1 h2
      cases h
      have e1:ρ x=.agg (aG Q.amd).toArray:=hov _ _ h1
      have e2:ρ y=.agg (aG Q.amd).toArray:=hov _ _ h2
      unfold execOp
      simp only[ho,e1,e2]
      rw[Sem.run_bind,eq36]
      rfl
     ·cases h
    ·cases h
   ·cases h
 refine Ev.Af (M:=sqM g h Q (.slice sa sn sc) (.slice ta sn tc)) (S:=λ_ W=>Below W1.heap.size W1 W) (n:=Tryz.f17.ntmps) (K:=[(2,.p 0 0),(3,.p 1 0)]) (s:=()) (v:=(Q.op==Q.op)&&(Q.sender.toList==Q.sender.toList)&&(Q.ref.toList==Q.ref.toList)&&true&&true) 4 hO (λ_ W h=>h.drew) (by kernel_rfl) (by kernel_rfl) (Ev.aF (Ev.aF (Ev.aX (by rw[ha];rfl) hdf) (by rw[ha];rfl)) (by rw[ha];rfl)) (Below.refl _ _) ?_
 intro b W s hd ht hS
 refine bodyPost_ret (results_tmp rfl _ _ _) hd ?_
 rw[hg]
 refine⟨?_,hB1.trans (hS.mono hB1.size)⟩
 rw[show b.tmps.getD 4 undef=.bool ((Q.op==Q.op)&&(Q.sender.toList==Q.sender.toList)&&(Q.ref.toList==Q.ref.toList)&&true&&true)from eval_at ht]
 simp
theorem NC (g:Nat)(Q:Ps.Req)(lv:Value)(w:World)(h:w.heap[g]? =some (.cells (aA Q lv) 37 (0,0))):(Instr.loadAt 37 (.pointer (some ⟨g,0,none⟩))).run Tryz.prog w=.ok (.agg (aA Q lv)) w:=by
 have:=run_loadVar_row (P:=Tryz.prog) w g 37 37 (aA Q lv) (0,0) _ h Tryz.underlying37 rfl (by kernel_rfl)
 unfold Instr.loadAt
 simp[Instr.sureAddr,this]
open Go Go.RowKit Go.Proofs.YtnjjeapcalkmaaaGreatDoor.Ord
open Go.Proofs.YtnjjeapcalkmaaaGreatDoor.Se
theorem QR:∀args w,(callFunc 13 args).run Tryz.prog w=.ok (.enter 13 args) w:=enters_of Tryz.func13 (by kernel_rfl) rfl
theorem Qp:∀args w,(callFunc 14 args).run Tryz.prog w=.ok (.enter 14 args) w:=enters_of Tryz.func14 (by kernel_rfl) rfl
theorem OY:∀args w,(callFunc 15 args).run Tryz.prog w=.ok (.enter 15 args) w:=enters_of Tryz.func15 (by kernel_rfl) rfl
noncomputable def pfC:Code:=Ev.xD (Tryz.f3.body.getD .skip)
def fH (g:Nat)(Q:Ps.Req)(lv:Value):List (Option (Nat×Nat)×List Value):=[(some (g,0),mi Q lv)]
def pfRes (z:Int)(X:ByteArray)(f:FuncId)(us:List PV):Option Rv:=if f=13 then(match us with|[]=>some (.val (.bool true))|_=>none)
 else if f=14 then(match us with|[.a 0 0 28]=>some (.val (.int .i64 z))|_=>none)
 else if f=15 then(match us with|[.a 0 0 28]=>some (.str 1024 X)|_=>none)else none
noncomputable def pfM (W:World)(g:Nat)(Q:Ps.Req)(lv:Value)(n:Int)(z:Int)(X:ByteArray)(f:Nat->Option Bool):Mem:={ {seW W.heap.size W [] 9223372036854775807 (fH g Q lv) (pfRes z X)with oth:=yl 22 0 18 n false}with tst:=f}
structure PfW (w W:World)(g:Nat)(Q:Ps.Req)(lv:Value):Prop where
 hb:Below w.heap.size w W
 lt:g<W.heap.size
 r0:W.heap[g]? =some (.cells (mi Q lv).toArray 28 (0,0))
theorem QA {Q:Ps.Req}{lv:Value}(hl:∀x,lv≠.string x)(h1:l6 Q.ins)(h2:Sz Q.sender)(h3:Sz Q.ref):∀x,Value.string x∈mi Q lv->x.size<=9223372036854775807:=λx hx=>by
 unfold mi at hx
 rcases List.mem_append.1 hx with hx|hx
 ·rcases List.mem_append.1 hx with hx|hx
  ·simp at hx
   rcases hx with rfl|rfl
   ·exact h2
   ·exact h3
  ·unfold aB at hx
   simp at hx
   rcases hx with rfl|rfl|rfl|rfl|h
   ·exact h1.1
   ·exact h1.2.1
   ·exact h1.2.2.1
   ·exact h1.2.2.2.1
   ·exact absurd h.symm (hl x)
 ·unfold aG at hx
  simp at hx
theorem AR {w W:World}{g:Nat}{Q:Ps.Req}{sa:Option Addr}{n c:Nat}(h:PfW w W g Q (.slice sa n c))(h1:l6 Q.ins)(h2:Sz Q.sender)(h3:Sz Q.ref)(z:Int)(X:ByteArray)(f:Nat->Option Bool):Ok Tryz.prog (pfM W g Q (.slice sa n c) (n:Int) z X f):=
 ((seW_ok (Nat.le_refl _) (λg hg=>by cases hg) (row1 h.r0 (.inl h.lt)) (str1 (QA (λx e=>by cases e) h1 h2 h3))).withOth (JR (.inl rfl) (cp:=c) (sa:=sa) rfl)).withTst
theorem pf_pre (w:World)(Q:Ps.Req)(sa:Option Addr)(sn sc:Nat)(hn:sn=Q.ins.links.length)(z1:l6 Q.ins)(z2:Sz Q.sender)(z3:Sz Q.ref)
 (hlk:dJ w sa sn Q.ins.links)
 (m1:∀W,Below w.heap.size w W->Calls Tryz.prog 13 #[] W λe W'=>e=.returned (.bool true)/\Below W.heap.size W W')
 (h6:psR Q=0->∀(W:World) (g:Nat) (a:Act),PfW w W g Q (.slice sa sn sc)->a.tmps.size=45->a.defers=[]->a.tmps[1]? =some (.pointer (some ⟨g,0,none⟩))->a.tmps[3]? =some (.string (Ps.gU (Ps.iZ Ps.aO Q (Ps.gy Q.ins))))->
  (Ev.aS (Ev.bA 6) pfC).1.wp Tryz.prog (Ev.Qof Tryz.prog (Ev.aS (Ev.bA 6) pfC).2 (bodyPost Tryz.prog Tryz.f3 λe w'=>e=.returned (.bool true)/\Below w.heap.size w w')) a W):
 Calls Tryz.prog 3 #[.agg (aA Q (.slice sa sn sc))] w λe w'=>e=.returned (.bool true)/\Below w.heap.size w w':=by
 obtain⟨g,hg⟩:∃g,g=w.heap.size:=⟨_,rfl⟩
 have HN:=Lib.hid hn
 clear hn
 have hst:=Ms
 unfold yB at hst
 go_enter Tryz.func3,Tryz.ntmps3
 refine wp_seq ?_
 refine wp_region_lit ?_
 refine wpList_plain rfl (λK hK=>?_)
 go_simp
 refine hK _ _ ?_
 clear hK K
 refine wpList_plain rfl (λK hK=>?_)
 go_simp
 refine hK _ _ ?_
 clear hK K
 refine aU ?_
 have hL:PfW w (w.alloc (.cells (aA Q (.slice sa sn sc)) 28)) g Q (.slice sa sn sc):=⟨(Below.refl _ _).alloc (Nat.le_refl _) _,by rw[hg];simp,by rw[hg];exact aD w _⟩
 rw[<-hg]
 have HG:=Lib.hid hg
 clear hst hg
 generalize w.alloc (.cells (aA Q (.slice sa sn sc)) 28)=W at hL⊢
 refine uy rfl rfl λa ha hdf=>?_
 have hF:∀M:Mem,M.blk=Ev.jd (fH g Q (.slice sa sn sc))->FrP M 45 [(1,.p 0 0)] a W:=λM hM=>ah (fZ (by rw[ha];rfl) hdf) (v:=.pointer (some ⟨g,0,none⟩)) (by rw[ha];rfl) (by show _=M.ptr 0 0;unfold Mem.ptr;rw[hM];rfl)
 rw[HG.out]
 clear ha hdf HG
 have HB:=hL.hb
 have k1:gp W.heap.size W (Ev.aR (fH g Q (.slice sa sn sc))) 13 [] (.val (.bool true)):=specW0 QR λw' hw=>m1 w' (HB.trans (hw.mono HB.size))
 have fin:∀{z:Int} {X:ByteArray} {f:Nat->Option Bool} (a:Act) (w':World),a.defers=[]->oC (pfM W g Q (.slice sa sn sc) (sn:Int) z X f) [2] [.v (.bool true)] a w'->Sw (pfM W g Q (.slice sa sn sc) (sn:Int) z X f) w'->bodyPost Tryz.prog Tryz.f3 (λe w'=>e=.returned (.bool true)/\Below w.heap.size w w') .ret a w':=λa w' hd hv hS=>by
  obtain⟨⟨v,e,d⟩,-⟩:=hv.cons
  have d:v=.bool true:=d
  subst d
  exact bodyPost_ret (results_tmp rfl _ _ _) hd ⟨congrArg Ending.returned (eval_at e),HB.trans ((dR rfl hS).mono HB.size)⟩
 by_cases Qv:(10:Int)<(sn:Int)
 ·refine gM (M:=pfM W g Q (.slice sa sn sc) (sn:Int) 0 ⟨#[]⟩ λt=>if t=14 then some true else none) (n:=45) (AR hL z1 z2 z3 _ _ _) [2] (K:=[(1,.p 0 0)]) (us:=[.v (.bool true)])
   (ps:=[gp W.heap.size W (Ev.aR (fH g Q (.slice sa sn sc))) 13 [] (.val (.bool true)),decide ((10:Int)<(sn:Int))=true,gp W.heap.size W (Ev.aR (fH g Q (.slice sa sn sc))) 13 [] (.val (.bool true))])
   (by kernel_rfl) ⟨k1,by simpa using Qv,k1,trivial⟩ (hF _ rfl) (Sw.start _) ?_
  exactλa w' _ hd hv hS=>fin a w' hd hv hS
 have k2:gp W.heap.size W (Ev.aR (fH g Q (.slice sa sn sc))) 14 [.a 0 0 28] (.val (.int .i64 (psR Q))):=specW1 Qp (x:=.agg (aA Q (.slice sa sn sc))) rfl λw' hw=>QF w' Q sa sn sc (by omega) z1 z2 z3 HN.out (hlk.below (HB.trans (hw.mono HB.size)))
 by_cases hz:psR Q=0
 rotate_left
 ·refine gM (M:=pfM W g Q (.slice sa sn sc) (sn:Int) (psR Q) ⟨#[]⟩ λt=>if t=14 then some false else if t=19 then some true else none) (n:=45) (AR hL z1 z2 z3 _ _ _) [2] (K:=[(1,.p 0 0)]) (us:=[.v (.bool true)])
   (ps:=[gp W.heap.size W (Ev.aR (fH g Q (.slice sa sn sc))) 13 [] (.val (.bool true)),decide ((10:Int)<(sn:Int))=false,gp W.heap.size W (Ev.aR (fH g Q (.slice sa sn sc))) 14 [.a 0 0 28] (.val (.int .i64 (psR Q))),(psR Q !=0)=true,gp W.heap.size W (Ev.aR (fH g Q (.slice sa sn sc))) 13 [] (.val (.bool true))])
   (by kernel_rfl) ⟨k1,by simpa using Qv,k2,by simpa using hz,k1,trivial⟩ (hF _ rfl) (Sw.start _) ?_
  exactλa w' _ hd hv hS=>fin a w' hd hv hS
 rw[hz]at k2
 have hX:=(xN hz).2
 have k3:gp W.heap.size W (Ev.aR (fH g Q (.slice sa sn sc))) 15 [.a 0 0 28] (.str 1024 (Ps.gU (Ps.iZ Ps.aO Q (Ps.gy Q.ins)))):=Oj OY (x:=.agg (aA Q (.slice sa sn sc))) rfl (λw' hw=>l_line w' Q hz sa sn sc HN.out (hlk.below (HB.trans (hw.mono HB.size)))) hX
 replace h6:=h6 hz
 generalize Ps.gU (Ps.iZ Ps.aO Q (Ps.gy Q.ins))=X at k3 h6 hX
 have hst:st (1024,X)=X:=bF hX
 by_cases hlen:(900:Int)<((st (1024,X)).size:Int)
 ·refine gM (M:=pfM W g Q (.slice sa sn sc) (sn:Int) 0 X λt=>if t=14 then some false else if t=26 then some true else none) (n:=45) (AR hL z1 z2 z3 _ _ _) [2] (K:=[(1,.p 0 0)]) (us:=[.v (.bool true)])
   (ps:=[gp W.heap.size W (Ev.aR (fH g Q (.slice sa sn sc))) 13 [] (.val (.bool true)),decide ((10:Int)<(sn:Int))=false,gp W.heap.size W (Ev.aR (fH g Q (.slice sa sn sc))) 14 [.a 0 0 28] (.val (.int .i64 0)),gp W.heap.size W (Ev.aR (fH g Q (.slice sa sn sc))) 15 [.a 0 0 28] (.str 1024 X),decide ((900:Int)<((st (1024,X)).size:Int))=true])
   (by kernel_rfl) ⟨k1,by simpa using Qv,k2,k3,by simpa using hlen,trivial⟩ (hF _ rfl) (Sw.start _) ?_
  exactλa w' _ hd hv hS=>fin a w' hd hv hS
 ·refine Dl (M:=pfM W g Q (.slice sa sn sc) (sn:Int) 0 X λt=>if t=14 then some false else if t=26 then some false else none) (n:=45) (c:=(Ev.aS (Ev.bA 6) pfC).1) (fs:=(Ev.aS (Ev.bA 6) pfC).2) (AR hL z1 z2 z3 _ _ _) [1,3] (K:=[(1,.p 0 0)]) (us:=[.p 0 0,.s (1024,X)])
   (ps:=[gp W.heap.size W (Ev.aR (fH g Q (.slice sa sn sc))) 13 [] (.val (.bool true)),decide ((10:Int)<(sn:Int))=false,gp W.heap.size W (Ev.aR (fH g Q (.slice sa sn sc))) 14 [.a 0 0 28] (.val (.int .i64 0)),gp W.heap.size W (Ev.aR (fH g Q (.slice sa sn sc))) 15 [.a 0 0 28] (.str 1024 X),decide ((900:Int)<((st (1024,X)).size:Int))=false])
   (by kernel_rfl) ⟨k1,by simpa using Qv,k2,k3,by simpa using hlen,trivial⟩ (hF _ rfl) (Sw.start _) ?_
  intro b w' h1 h2 hv hS
  obtain⟨⟨v1,e1,d1⟩,hv⟩:=hv.cons
  obtain⟨⟨v3,e3,d3⟩,-⟩:=hv.cons
  have d1:v1=.pointer (some ⟨g,0,none⟩):=d1
  have d3:v3=.string (st (1024,X)):=d3
  rw[hst]at d3
  subst d1 d3
  have hb:=(dR rfl hS).mono HB.size
  exact h6 w' g b ⟨HB.trans hb,Nat.lt_of_lt_of_le hL.lt hS.size,(hS.block g (.inl hL.lt)).trans hL.r0⟩ h1 h2 e1 e3
theorem PN:∀args w,(callFunc 16 args).run Tryz.prog w=.ok (.enter 16 args) w:=enters_of Tryz.func16 (by kernel_rfl) rfl
theorem al_req (w:World):(Instr.alloc 37 true (.tuple #[])).run Tryz.prog w=.ok (.pointer (some ⟨w.heap.size,0,none⟩)) (w.alloc (.cells yB 37)):=by
 unfold yB
 go_simp
 try rfl
theorem sv_req (w:World)(Q:Ps.Req)(a:Option Addr)(n c:Nat):(Instr.storeAt 37 (.pointer (some ⟨w.heap.size,0,none⟩)) (.agg (aA Q (.slice a n c)))).run Tryz.prog (w.alloc (.cells yB 37))=.ok () (w.alloc (.cells (aA Q (.slice a n c)) 37)):=by
 have h:=MQ w Q a n c
 have hz:(aA Q (.slice a n c)).size=28:=rfl
 unfold yB
 go_simp
 try exact h
theorem N7 {P:Program}{ops:Array Oper}{Q:Exit->Act->World->Prop}{rest:List Oper}{o:Oper}{a:Act}{w:World}{d:Nat}(hg:o.guard=none)(hd:o.dst=some d)(k:FuncId)(xo:Array Operand)(ts:Array TypeId)
 (hop:o.op=Op.call {callee:=Callee.value (Operand.func k),args:=xo,argTypes:=ts}) (hent:∀args w,(callFunc k args).run P w=.ok (.enter k args) w) (args:Array Value) (hargs:xo.map a.eval=args)
 (h:Calls P k args w λe w'=>∃v,e=.returned v/\wpList P ops Q rest ⟨a.tmps.setIfInBounds d v,a.defers⟩ w'):wpList P ops Q (o::rest) a w:=by
 refine wpList_step λK hK=>?_
 refine FC (by simp[Region.wanted,hg]) k xo ts hop hent args hargs (h.mono ?_)
 rintro e w' ⟨v,rfl,hv⟩
 refine⟨v,rfl,hK _ _ ?_⟩
 rw[hd]
 exact hv
theorem JE {Qn:Exit->Act->World->Prop}{a:Act}{w:World}{id:Nat}{o0 o1 o2 o3 o4 o5 o6 o7 o8 o9:Oper}{ts:Array TypeId}{X:ByteArray}{Q:Ps.Req}{o x:Int}(h0:o0.op=.move (.tmp 3))(d0:o0.dst=some 28)(g0:o0.guard=none)(h1:o1.op=.call {callee:=.value (.func 16),args:=#[.tmp 28],argTypes:=ts})(d1:o1.dst=some 29)(g1:o1.guard=none)(h2:o2.op=.move (.tmp 29))(d2:o2.dst=some 27)(g2:o2.guard=none)(h3:o3.op=.extract (.tmp 27) 0)(d3:o3.dst=some 30)(g3:o3.guard=none)(h4:o4.op=.extract (.tmp 27) 1)(d4:o4.dst=some 31)(g4:o4.guard=none)(h5:o5.op=.extract (.tmp 27) 2)(d5:o5.dst=some 32)(g5:o5.guard=none)(h6:o6.op=.alloc 37)(d6:o6.dst=some 4)(g6:o6.guard=none)(h7:o7.op=.store 37 (.tmp 4) (.tmp 30))(d7:o7.dst=none)(g7:o7.guard=none)(h8:o8.op=.assign (.tmp 31))(d8:o8.dst=some 5)(g8:o8.guard=none)(h9:o9.op=.assign (.tmp 32))(d9:o9.dst=some 6)(g9:o9.guard=none)(hsz:a.tmps.size=45)(hX:a.tmps[3]? =some (.string X))(hP:Mw w X Q o x)
 (hend:∀(b:Act) (w1:World) (sa:Option Addr) (n c:Nat),Below w.heap.size w w1->eP w1 w.heap.size (.slice sa n c) Q.ins.links->b.tmps.size=45->b.defers=a.defers->b.tmps[1]? =a.tmps[1]?->b.tmps[4]? =some (.pointer (some ⟨w1.heap.size,0,none⟩))->b.tmps[5]? =some (.int .i64 o)->b.tmps[6]? =some (.int .i64 x)->Qn .normal b (w1.alloc (.cells (aA Q (.slice sa n c)) 37))):
 (Code.region id #[o0,o1,o2,o3,o4,o5,o6,o7,o8,o9] false).wp Tryz.prog Qn a w:=by
 refine wp_region_lit ?_
 refine fe g0 d0 (u:=.string X) (by unfold execOp;rw[h0];simp only[eval_at hX];rfl) ?_
 refine N7 g1 d1 16 _ _ h1 PN #[.string X] (by simp[Act.eval,hsz]) (hP.mono ?_)
 rintro e w1 ⟨sa,n,c,rfl,hl,hb⟩
 refine⟨_,rfl,?_⟩
 refine fe g2 d2 (u:=.tuple #[.agg (aA Q (.slice sa n c)),.int .i64 o,.int .i64 x]) (by unfold execOp;rw[h2];simp[Act.eval,hsz]) ?_
 refine fe g3 d3 (u:=.agg (aA Q (.slice sa n c))) (by unfold execOp;rw[h3];simp[Act.eval,hsz];go_simp) ?_
 refine fe g4 d4 (u:=.int .i64 o) (by unfold execOp;rw[h4];simp[Act.eval,hsz];go_simp) ?_
 refine fe g5 d5 (u:=.int .i64 x) (by unfold execOp;rw[h5];simp[Act.eval,hsz];go_simp) ?_
 refine Gr (w':=w1.alloc (.cells yB 37)) (u:=.pointer (some ⟨w1.heap.size,0,none⟩)) g6 d6 (by unfold execOp;rw[h6];simp only[Sem.run_bind,al_req w1,Result.andThen_ok];rfl) ?_
 refine wu (w':=w1.alloc (.cells (aA Q (.slice sa n c)) 37)) g7 d7 (by unfold execOp;rw[h7];simp[Act.eval,hsz,Sem.run_bind,sv_req w1,Result.andThen_ok]) ?_
 refine fe g8 d8 (u:=.int .i64 o) (by unfold execOp;rw[h8];simp[Act.eval,hsz]) ?_
 refine fe g9 d9 (u:=.int .i64 x) (by unfold execOp;rw[h9];simp[Act.eval,hsz]) ?_
 refine aU ?_
 exact hend _ w1 sa n c hb hl (by simp[hsz]) rfl (by simp[hsz]) (by simp[hsz]) (by simp[hsz]) (by simp[hsz])
theorem QN:∀args w,(callFunc 18 args).run Tryz.prog w=.ok (.enter 18 args) w:=enters_of Tryz.func18 (by kernel_rfl) rfl
theorem Qq:∀args w,(callFunc 17 args).run Tryz.prog w=.ok (.enter 17 args) w:=enters_of Tryz.func17 (by kernel_rfl) rfl
theorem OB (p q:Operand)(w:World):(do eqGuard .eql 38 p q (.int .i64 0) (.int .i64 0);binOp .eql 38 (.int .i64 0) (.int .i64 0):Sem Value).run Tryz.prog w=.ok (.bool true) w:=by
 go_simp
 try rfl
theorem ML (p q:Operand)(w:World):(do eqGuard .eql 3 p q (.int .i64 0) (.int .i64 0);binOp .eql 3 (.int .i64 0) (.int .i64 0):Sem Value).run Tryz.prog w=.ok (.bool true) w:=by
 go_simp
 try rfl
theorem uD {S:World->Prop}{ρ:Operand->Value}{vs:List Value}{o:Oper}{v:Value}(hw:gB vs o=true)(h:YB Tryz.prog S ρ o v):YV Tryz.prog S ρ vs o v:=⟨λ_=>h,λh2=>by rw[hw]at h2;cases h2⟩
theorem Lt (g:Nat)(Q:Ps.Req)(lv:Value)(w:World)(h:w.heap[g]? =some (.cells (aA Q lv) 28 (0,0))):(Instr.loadAt 28 (.pointer (some ⟨g,0,none⟩))).run Tryz.prog w=.ok (.agg (aA Q lv)) w:=by
 obtain⟨d,hu,hd,hi⟩:=Ev.Nw (t:=28) rfl
 have:=run_loadVar_row (P:=Tryz.prog) w g _ 28 (aA Q lv) (0,0) d h hu (by cases d<;>first|rfl|cases hd) hi
 unfold Instr.loadAt
 simp[Instr.sureAddr,this]
def PfS (w:World)(sa:Option Addr)(ks:List Ps.Link):Prop:=0<ks.length->∃sb,sa=some ⟨sb,0,none⟩/\∀W,Below w.heap.size w W->jD W sb ks
theorem PfS.below {w w':World}{sa:Option Addr}{ks:List Ps.Link}(h:PfS w sa ks)(hb:Below w.heap.size w w'):PfS w' sa ks:=λhn=>by
 obtain⟨sb,e,hr⟩:=h hn
 exact⟨sb,e,λW hW=>hr W (hb.trans (hW.mono hb.size))⟩
theorem pf_cmp {Qn:Exit->Act->World->Prop}{a:Act}{W:World}{g h n:Nat}{sa ta:Option Addr}{sc tc:Nat}{Q:Ps.Req}(hsz:a.tmps.size=45)(f1:a.tmps[1]? =some (.pointer (some ⟨g,0,none⟩)))(f4:a.tmps[4]? =some (.pointer (some ⟨h,0,none⟩)))(f5:a.tmps[5]? =some (.int .i64 0))(f6:a.tmps[6]? =some (.int .i64 0))
 (r1:W.heap[g]? =some (.cells (aA Q (.slice sa n sc)) 28 (0,0))) (r4:W.heap[h]? =some (.cells (aA Q (.slice ta n tc)) 37 (0,0))) (HN:Hid (n=Q.ins.links.length)) (eQ:Q.ins.links.length<=1000000) (HL1:Hid (dJ W sa n Q.ins.links)) (HL2:Hid (PfS W ta Q.ins.links))
 (hend:∀(b:Act) (w':World),b.defers=a.defers->b.tmps[2]? =some (.bool true)->Below W.heap.size W w'->Qn .normal b w'):
 (Code.region 7 (Ev.lw (Ev.aS (Ev.bA 7) pfC).1) true).wp Tryz.prog Qn a W:=by
 have HQ:Hid (∀w',Below W.heap.size W w'->w'.heap[g]? =some (.cells (aA Q (.slice sa n sc)) 28 (0,0))/\w'.heap[h]? =some (.cells (aA Q (.slice ta n tc)) 37 (0,0))):=Lib.hid λw' hw'=>
  ⟨(hw'.block g (Array.getElem?_eq_some_iff.1 r1).1).trans r1,(hw'.block h (Array.getElem?_eq_some_iff.1 r4).1).trans r4⟩
 refine lT (X:=Option Addr×Nat) (λ_ w=>Below W.heap.size W w) (λy dn w=>dn 8=true/\Below W.heap.size W w/\PfS w y.1 Q.ins.links) (Ord.inD [(10,8),(11,8),(12,8)]) (Ord.qJ (by kernel_rfl)) 8 13 (by decide) rfl [.int .i64 0,.bool true,.bool true,.int .i64 0,.bool true,.bool true,.bool true,.agg (aA Q (.slice ta n tc)),.agg (aA Q (.slice none n 0)),.agg (aA Q (.slice sa n sc)),.bool true,.bool true,.bool true] (λy=>[.int .i64 0,.bool true,.bool true,.int .i64 0,.bool true,.bool true,.bool true,.agg (aA Q (.slice ta n tc)),.agg (aA Q (.slice y.1 n y.2)),.agg (aA Q (.slice sa n sc)),.bool true,.bool true,.bool true]) rfl (λ_=>rfl) rfl ?_ rfl (by kernel_rfl) (by kernel_rfl) (by kernel_rfl) (by rw[hsz];kernel_rfl) ((Below.refl _ _).drew) ?_ ?_ ?_
 ·intro y j hic h
  match j,hic,h with
  |0,_,_=>rfl
  |1,_,_=>rfl
  |2,_,_=>rfl
  |3,_,_=>rfl
  |4,_,_=>rfl
  |5,_,_=>rfl
  |6,_,_=>rfl
  |7,_,_=>rfl
  |8,hic,_=>exact absurd rfl hic
  |9,_,_=>rfl
  |10,_,h=>have h2:true=false:=h;cases h2
  |11,_,h=>have h2:true=false:=h;cases h2
  |12,_,h=>have h2:true=false:=h;cases h2
  |j+13,_,_=>rfl
 ·intro ρ hD hrest hco hfu
  have e1:ρ (.tmp 1)=.pointer (some ⟨g,0,none⟩):=(hrest 1 (by decide +kernel)).trans (eval_at f1)
  have e4:ρ (.tmp 4)=.pointer (some ⟨h,0,none⟩):=(hrest 4 (by decide +kernel)).trans (eval_at f4)
  have e5:ρ (.tmp 5)=.int .i64 0:=(hrest 5 (by decide +kernel)).trans (eval_at f5)
  have e6:ρ (.tmp 6)=.int .i64 0:=(hrest 6 (by decide +kernel)).trans (eval_at f6)
  obtain⟨k0,k1,k2,k3,k4,k5,k6,k7,-⟩:ρ (.tmp 33)=.int .i64 0/\ρ (.tmp 34)=.bool true/\ρ (.tmp 35)=.bool true/\ρ (.tmp 36)=.int .i64 0/\ρ (.tmp 37)=.bool true/\ρ (.tmp 38)=.bool true/\ρ (.tmp 39)=.bool true/\ρ (.tmp 40)=.agg (aA Q (.slice ta n tc))/\_:=hD
  refine⟨λ_ dn hn hd he=>aI (B:=λ_=>True) (λw h=>h) (λ_ _=>trivial) (λw0=>av rfl (dZ rfl e6)),?_⟩
  refine⟨λ_ dn hn hd he=>aI (B:=λ_=>True) (λw h=>h) (λ_ _=>trivial) (λw0=>av rfl (zB rfl k0 (hco _) (λw=>OB _ _ w))),?_⟩
  refine⟨λ_ dn hn hd he=>aI (B:=λ_=>True) (λw h=>h) (λ_ _=>trivial) (λw0=>av rfl (dZ rfl k1)),?_⟩
  refine⟨λ_ dn hn hd he=>aI (B:=λ_=>True) (λw h=>h) (λ_ _=>trivial) (λw0=>uD rfl (dZ rfl e5)),?_⟩
  refine⟨λ_ dn hn hd he=>aI (B:=λ_=>True) (λw h=>h) (λ_ _=>trivial) (λw0=>uD rfl (zB rfl k3 (hco _) (λw=>ML _ _ w))),?_⟩
  refine⟨λ_ dn hn hd he=>aI (B:=λ_=>True) (λw h=>h) (λ_ _=>trivial) (λw0=>av rfl (GA (b:=true) rfl k2 k4 (hco _))),?_⟩
  refine⟨λ_ dn hn hd he=>aI (B:=λ_=>True) (λw h=>h) (λ_ _=>trivial) (λw0=>av rfl (dZ rfl k5)),?_⟩
  refine⟨λ_ dn hn hd he=>aI (B:=λw=>Below W.heap.size W w) (λw h=>h) (λw h=>h) (λw0=>uD rfl (dC rfl e4 (λw hS=>NC h Q _ w (HQ.out w hS.2).2))),?_⟩
  refine⟨λ_ dn hn hd he=>⟨rfl,λw hS=>?_⟩,?_⟩
  ·unfold execOp
   have hf:=hfu 18
   simp[resolve,invoke,hf,k7,Deferred.ofValue,QN]
   refine(IQ w Q ta n tc HN (Lib.hid (by rw[HN.out];exact eQ)) (Lib.hid λhn=>by
    obtain⟨sb,z1,z2⟩:=HL2.out (by rw[<-HN.out];exact hn)
    exact⟨sb,z1,λW hW=>z2 W (hS.trans (hW.mono hS.size))⟩)).mono ?_
   rintro e w' ⟨ua,uc,rfl,hb,hl⟩
   exact⟨_,rfl,ua,⟨uc,rfl⟩,hS.trans (hb.mono hS.size),λhn2=>Qy hl (by rw[HN.out];exact hn2)⟩
  refine⟨λ_ dn hn hd he=>aI (B:=λw=>Below W.heap.size W w) (λw h=>h) (λw h=>h) (λw0=>uD rfl (dC rfl e1 (λw hS=>Lt g Q _ w (HQ.out w hS.2).1))),?_⟩
  refine⟨λhic=>(by have h2:true=false:=hic;cases h2),?_⟩
  refine⟨λhic=>(by have h2:true=false:=hic;cases h2),?_⟩
  refine⟨λhic=>(by have h2:true=false:=hic;cases h2),?_⟩
  exact trivial
 ·rintro⟨ua,uc⟩ ρ hD hrest hco hfu
  have e1:ρ (.tmp 1)=.pointer (some ⟨g,0,none⟩):=(hrest 1 (by decide +kernel)).trans (eval_at f1)
  have e4:ρ (.tmp 4)=.pointer (some ⟨h,0,none⟩):=(hrest 4 (by decide +kernel)).trans (eval_at f4)
  have e5:ρ (.tmp 5)=.int .i64 0:=(hrest 5 (by decide +kernel)).trans (eval_at f5)
  have e6:ρ (.tmp 6)=.int .i64 0:=(hrest 6 (by decide +kernel)).trans (eval_at f6)
  obtain⟨k0,k1,k2,k3,k4,k5,k6,k7,k8,k9,k10,k11,-⟩:ρ (.tmp 33)=.int .i64 0/\ρ (.tmp 34)=.bool true/\ρ (.tmp 35)=.bool true/\ρ (.tmp 36)=.int .i64 0/\ρ (.tmp 37)=.bool true/\ρ (.tmp 38)=.bool true/\ρ (.tmp 39)=.bool true/\ρ (.tmp 40)=.agg (aA Q (.slice ta n tc))/\ρ (.tmp 41)=.agg (aA Q (.slice ua n uc))/\ρ (.tmp 42)=.agg (aA Q (.slice sa n sc))/\ρ (.tmp 43)=.bool true/\ρ (.tmp 44)=.bool true/\_:=hD
  have kp:∀(dn:Nat->Bool) (j:Nat) (w:World),(dn 8=true/\Below W.heap.size W w/\PfS w ua Q.ins.links)->((dn 8||8==j)=true/\Below W.heap.size W w/\PfS w ua Q.ins.links):=λdn j w h=>⟨by rw[h.1];rfl,h.2⟩
  refine⟨λdn hn hd he=>aI (B:=λ_=>True) (λw h=>kp dn 0 w h) (λ_ _=>trivial) (λw0=>av rfl (dZ rfl e6)),?_⟩
  refine⟨λdn hn hd he=>aI (B:=λ_=>True) (λw h=>kp dn 1 w h) (λ_ _=>trivial) (λw0=>av rfl (zB rfl k0 (hco _) (λw=>OB _ _ w))),?_⟩
  refine⟨λdn hn hd he=>aI (B:=λ_=>True) (λw h=>kp dn 2 w h) (λ_ _=>trivial) (λw0=>av rfl (dZ rfl k1)),?_⟩
  refine⟨λdn hn hd he=>aI (B:=λ_=>True) (λw h=>kp dn 3 w h) (λ_ _=>trivial) (λw0=>uD rfl (dZ rfl e5)),?_⟩
  refine⟨λdn hn hd he=>aI (B:=λ_=>True) (λw h=>kp dn 4 w h) (λ_ _=>trivial) (λw0=>uD rfl (zB rfl k3 (hco _) (λw=>ML _ _ w))),?_⟩
  refine⟨λdn hn hd he=>aI (B:=λ_=>True) (λw h=>kp dn 5 w h) (λ_ _=>trivial) (λw0=>av rfl (GA (b:=true) rfl k2 k4 (hco _))),?_⟩
  refine⟨λdn hn hd he=>aI (B:=λ_=>True) (λw h=>kp dn 6 w h) (λ_ _=>trivial) (λw0=>av rfl (dZ rfl k5)),?_⟩
  refine⟨λdn hn hd he=>aI (B:=λw=>Below W.heap.size W w) (λw h=>kp dn 7 w h) (λw h=>h.2.1) (λw0=>uD rfl (dC rfl e4 (λw hS=>NC h Q _ w (HQ.out w hS.2).2))),?_⟩
  refine⟨λdn hn hd he=>⟨λ_ w hS=>(by rw[hS.1]at hn;cases hn),λh=>by have h2:true=false:=h;cases h2⟩,?_⟩
  refine⟨λdn hn hd he=>aI (B:=λw=>Below W.heap.size W w) (λw h=>kp dn 9 w h) (λw h=>h.2.1) (λw0=>uD rfl (dC rfl e1 (λw hS=>Lt g Q _ w (HQ.out w hS.2).1))),?_⟩
  refine⟨λdn hn hd he=>⟨λ_ w hS=>?_,λh=>by have h2:true=false:=h;cases h2⟩,?_⟩
  ·obtain⟨hS1,hS2,G8⟩:=hS
   unfold execOp
   have hf:=hfu 17
   simp[resolve,invoke,hf,k8,k9,Deferred.ofValue,Qq]
   refine(Ei w Q ua sa n uc sc (Lib.hid (by rw[HN.out];omega)) HN (Lib.hid (.of λhn=>G8 (by rw[<-HN.out];exact hn))) (Lib.hid (HL1.out.below hS2))).mono ?_
   rintro e w' ⟨rfl,hb⟩
   exact⟨rfl,hS1,hS2.trans (hb.mono hS2.size),G8.below hb⟩
  refine⟨λdn hn hd he=>aI (B:=λ_=>True) (λw h=>kp dn 11 w h) (λ_ _=>trivial) (λw0=>av rfl (GA (b:=true) rfl k6 k10 (hco _))),?_⟩
  refine⟨λdn hn hd he=>aI (B:=λ_=>True) (λw h=>kp dn 12 w h) (λ_ _=>trivial) (λw0=>av rfl (RH rfl k11)),?_⟩
  exact trivial
 ·intro y b w' hS hK hD
  exact hend b w' hK.defers (Ev.NT (by rw[hK.size,hsz];decide) (bX.tmp 12 _ _ 2 hD rfl rfl rfl)) hS.2.1
theorem GD {m:Int}{kb ko kc:Nat}{w:World}(env:lS m kb ko kc w)(Q:Ps.Req)(sa:Option Addr)(sn sc:Nat)(hn:sn=Q.ins.links.length)(z1:l6 Q.ins)(z2:Sz Q.sender)(z3:Sz Q.ref)
 (hlk:dJ w sa sn Q.ins.links):
 Calls Tryz.prog 3 #[.agg (aA Q (.slice sa sn sc))] w λe w'=>e=.returned (.bool true)/\Below w.heap.size w w':=by
 refine pf_pre w Q sa sn sc hn z1 z2 z3 hlk (λW hW=>L6 (env.below hW)) ?_
 intro hz W g a hL ha hd e1 e3
 have hX:=xN hz
 have hP:=BI env (Ps.gU (Ps.iZ Ps.aO Q (Ps.gy Q.ins))) (by have:=hX.2;omega) W hL.hb
 rw[hX.1]at hP
 have eQ:Q.ins.links.length<=8:=by
  obtain⟨_,_,h⟩:=Ps.nk _ _ hz
  rcases h with⟨_,hi,_⟩|⟨_,_,he⟩|⟨_,he⟩
  ·exact hi.links
  ·rw[he];exact Nat.zero_le _
  ·rw[he];exact Nat.zero_le _
 refine JE rfl rfl rfl rfl rfl rfl rfl rfl rfl rfl rfl rfl rfl rfl rfl rfl rfl rfl rfl rfl rfl rfl rfl rfl rfl rfl rfl rfl rfl rfl ha e3 hP λb w1 ta n tc hb hl b1 b2 b3 b4 b5 b6=>?_
 have HN:n=Q.ins.links.length:=by obtain⟨a',c',hs⟩:=fF hl;cases hs;rfl
 have hb2:Below w1.heap.size w1 (w1.alloc (.cells (aA Q (.slice ta n tc)) 37)):=(Below.refl _ _).alloc (Nat.le_refl _) _
 have hr4:=aD w1 (.cells (aA Q (.slice ta n tc)) 37)
 have hbW:Below W.heap.size W (w1.alloc (.cells (aA Q (.slice ta n tc)) 37)):=hb.trans (hb2.mono hb.size)
 have hr1:=(hbW.block g hL.lt).trans hL.r0
 have hL2:PfS (w1.alloc (.cells (aA Q (.slice ta n tc)) 37)) ta Q.ins.links:=PfS.below (w:=w1) (λh0=>NA hl (by rw[HN];exact h0)) hb2
 have hbw:Below w.heap.size w (w1.alloc (.cells (aA Q (.slice ta n tc)) 37)):=hL.hb.trans (hbW.mono hL.hb.size)
 have hL1:dJ (w1.alloc (.cells (aA Q (.slice ta n tc)) 37)) sa sn Q.ins.links:=hlk.below hbw
 obtain rfl:sn=n:=hn.trans HN.symm
 generalize w1.alloc (.cells (aA Q (.slice ta sn tc)) 37)=W2 at *
 show(Ev.fmC (Ev.aS (Ev.bA 6) pfC).2 0).wp _ _ _ _
 refine wp_seq ?_
 refine pf_cmp (h:=w1.heap.size) (Q:=Q) b1 (b3.trans e1) b4 b5 b6 hr1 hr4 (Lib.hid HN) (by omega) (Lib.hid hL1) (Lib.hid hL2) λb3 w3 c1 c2 c3=>?_
 refine wp_ret ?_
 refine bodyPost_ret (fn:=Tryz.f3) (results_tmp rfl _ _ _) (c1.trans (b2.trans hd)) ?_
 exact⟨congrArg Ending.returned (eval_at c2),hbw.trans (c3.mono hbw.size)⟩
end Go.Proofs.YtnjjeapcalkmaaaGreatDoor
namespace Go.Proofs.YtnjjeapcalkmaaaGreatDoor.lawPForms
open Go.ChangeShapes Go.WideShapes Go.ChangeAt Go.RowKit
theorem own:ownKnob Tryz.prog.godebug=none:=by kernel_rfl
theorem laidOut:laidOutB Tryz.prog=true:=by kernel_rfl
theorem Km:("strconv.ErrRange",(Rows.laid_strconv_ErrRange:DataW Unit))∈Rows.parserFormsRow.laid:=by
 unfold Rows.parserFormsRow
 exact .tail _ (.tail _ (.tail _ (.tail _ ((.head _)))))
theorem KH:("strconv.ErrSyntax",(Rows.laid_strconv_ErrSyntax:DataW Unit))∈Rows.parserFormsRow.laid:=by
 unfold Rows.parserFormsRow
 exact .tail _ (.tail _ (.tail _ (.tail _ (.tail _ ((.head _))))))
theorem memIds:("giro/ident.kinds",(Rows.laid_giro_ident_kinds:DataW Unit))∈Rows.parserFormsRow.laid:=by
 unfold Rows.parserFormsRow
 exact .tail _ (.tail _ (.tail _ (.tail _ (.tail _ (.tail _ ((.head _)))))))
theorem memLex:("giro/lexer.kinds",(Rows.laid_giro_lexer_kinds:DataW Unit))∈Rows.parserFormsRow.laid:=by
 unfold Rows.parserFormsRow
 exact .tail _ (.tail _ (.tail _ (.tail _ (.tail _ (.tail _ (.tail _ ((.head _))))))))
theorem O1:("giro/message.priorityNames",(Rows.laid_giro_message_priorityNames:DataW Unit))∈Rows.parserFormsRow.laid:=by
 unfold Rows.parserFormsRow
 exact .tail _ (.tail _ (.tail _ (.tail _ (.tail _ (.tail _ (.tail _ (.tail _ ((.head _)))))))))
theorem contract (H:Type)(enc:TypeId×Value->H)(W:World)(base:Nat)(args:Array Value)(ds gs:List (DataW H))(before:List MemPlace)
 (hval:∀(j:Nat) t v,Tryz.f3.params[j]? =some t->args[j]? =some v->Value.okWide Tryz.prog W .any base t v)
 (hW:DataW.Whole enc Tryz.prog Tryz.f3.params.toList Rows.parserFormsSpec.vars false W args.toList ds gs before) (hL:laidMetH Tryz.prog Rows.parserFormsRow.laid W) (hsh:W.ShapedOpen Tryz.prog):
 Calls Tryz.prog 3 args W λe W'=>∃v,e=.returned v/\Rows.parserFormsSpec.post enc Tryz.prog Tryz.f3 false true false false W args v W':=by
 have hW':=hW
 obtain⟨p,q,hA0,hV,rfl,hfz,hnd⟩:=hW
 have hA:DataW.TrodAll enc Tryz.prog W 0 (λ_=>true) true Tryz.f3.params.toList args.toList ds p:=hA0
 rw[Tryz.params3]at hA hval
 obtain⟨v0,vs0,d0,ds0,p0,q0,hargs,rfl,rfl,h0,r0⟩:=trodAll_cons hA
 obtain⟨rfl,rfl,rfl⟩:=trodAll_nil r0
 obtain rfl:args=#[v0]:=by cases args;simp_all
 obtain⟨rfl,rfl⟩:=trodVars_none hV
 clear hA0
 simp only[List.append_nil]at hW'
 have hlt:∀x∈p0,x.block<W.heap.size:=λx hx=>by simpa using hW'.lt x hx
 obtain⟨Q0,a0,c0,rfl,x0a,x0b,x0c,x0d,x0e⟩:=q_open h0
 obtain⟨m,Ew⟩:=Tryz.laysM145.s1_3 W hsh
 obtain⟨kb,ko,kc,env⟩:=vF hL memLex memIds O1 Km KH m Ew
 refine(GD env Q0 a0 _ c0 rfl x0a x0b x0c x0e).mono λe W' ⟨he,hb⟩=>?_
 subst he
 have t0:=Below.trod laidOut (by kernel_rfl) (of_decide_eq_true (by kernel_rfl)) h0 hb (λx hx=>hlt x (by simp[hx]))
 exact⟨_,rfl,_,_,_,[],_,[],hW',trodAll_cons_mk (shut_bool Tryz.underlying4 _) trodAll_mk0,trodAll_cons_mk t0 trodAll_mk0,rfl,hb.frame _,λh=>by cases h⟩
noncomputable def kU (os:Os):World:=(World.doorLaid Tryz.prog 300 os).layVars Tryz.prog [("unicode/utf8.first",Rows.laid_unicode_utf8_first)]
theorem QW (os:Os):(kU os).os=os:=by unfold kU;rw[World.layVars_os];rfl
theorem LA (os:Os):laidMetH Tryz.prog Rows.parserFormsRow.laid ((kU os).forCall (λ_ _=>0) ⟨#[],#[Value.agg #[.int .i64 0,.string ⟨#[]⟩,.string ⟨#[]⟩,.string ⟨#[]⟩,.int .i64 0,.string ⟨#[]⟩,.string ⟨#[]⟩,.int .i64 0,.string ⟨#[]⟩,.int .i64 0,.int .i64 0,.int .i64 0,.int .i64 0,.int .i64 0,.bool false,.int .i64 0,.bool false,.bool false,.slice none 0 0,.bool false,.bool false,.bool false,.bool false,.int .i64 0,.int .i64 0,.int .i64 0,.bool false,.int .i64 0]],[]⟩).memory:=
 laidMetH_of_parts3 (fuel:=8)
  (laidMet_layVars (w0:=World.doorLaid Tryz.prog 300 os) ["unicode/utf8.first"] ((List.range (World.doorLaid Tryz.prog 300 os).heap.size).filter (· !=7)) (by rfl) (by kernel_rfl) (by kernel_rfl)
   (LaidIn.of_run _ 8 (by kernel_rfl) (by kernel_rfl) (by kernel_rfl) (by kernel_rfl))) (by kernel_rfl) (by kernel_rfl)
theorem reads (os:Os){H:Type}(enc:TypeId×Value->H):∃places,DataW.whole enc Tryz.prog ((kU os).forCall (λ_ _=>0) ⟨#[],#[Value.agg #[.int .i64 0,.string ⟨#[]⟩,.string ⟨#[]⟩,.string ⟨#[]⟩,.int .i64 0,.string ⟨#[]⟩,.string ⟨#[]⟩,.int .i64 0,.string ⟨#[]⟩,.int .i64 0,.int .i64 0,.int .i64 0,.int .i64 0,.int .i64 0,.bool false,.int .i64 0,.bool false,.bool false,.slice none 0 0,.bool false,.bool false,.bool false,.bool false,.int .i64 0,.int .i64 0,.int .i64 0,.bool false,.int .i64 0]],[]⟩).memory Tryz.f3.params.toList Rows.parserFormsSpec.vars false #[Value.agg #[.int .i64 0,.string ⟨#[]⟩,.string ⟨#[]⟩,.string ⟨#[]⟩,.int .i64 0,.string ⟨#[]⟩,.string ⟨#[]⟩,.int .i64 0,.string ⟨#[]⟩,.int .i64 0,.int .i64 0,.int .i64 0,.int .i64 0,.int .i64 0,.bool false,.int .i64 0,.bool false,.bool false,.slice none 0 0,.bool false,.bool false,.bool false,.bool false,.int .i64 0,.int .i64 0,.int .i64 0,.bool false,.int .i64 0]].toList 8=some ([.agg [.lit (.int .i64 0),.lit (.string []),.lit (.string []),.agg [.lit (.string []),.lit (.int .i64 0),.lit (.string []),.lit (.string []),.lit (.int .i64 0),.lit (.string []),.lit (.int .i64 0),.lit (.int .i64 0),.lit (.int .i64 0),.lit (.int .i64 0),.lit (.int .i64 0),.lit (.bool false),.lit (.int .i64 0),.lit (.bool false),.lit (.bool false),.nil],.agg [.lit (.bool false),.lit (.bool false),.lit (.bool false),.lit (.bool false),.lit (.int .i64 0),.lit (.int .i64 0),.lit (.int .i64 0),.lit (.bool false),.lit (.int .i64 0)]]],[],places):=
 ⟨[],by kernel_rfl⟩
theorem lifted (os:Os)(started:os.Started)(H:Type)(enc:TypeId×Value->H)(F:Stop.Interp):
 ReturnsInHanded {} Tryz.checked os 3 .any ((OpenSpec.ofChange Rows.parserFormsSpec).preRow enc Tryz.prog Tryz.f3 Rows.parserFormsRow.domain false Rows.parserFormsRow.laid) (((OpenSpec.ofChange Rows.parserFormsSpec).at F).post enc Tryz.prog Tryz.f3 false true false false):=by
 obtain⟨places,hx⟩:=reads os enc
 refine returnsInHanded_of_row (C:=Tryz.checked) (s:=OpenSpec.ofChange Rows.parserFormsSpec) own started (by kernel_rfl) Tryz.func3
  (witness_row_atRef (enc:=enc) (C:=Tryz.checked) false (kU os) #[Value.agg #[.int .i64 0,.string ⟨#[]⟩,.string ⟨#[]⟩,.string ⟨#[]⟩,.int .i64 0,.string ⟨#[]⟩,.string ⟨#[]⟩,.int .i64 0,.string ⟨#[]⟩,.int .i64 0,.int .i64 0,.int .i64 0,.int .i64 0,.int .i64 0,.bool false,.int .i64 0,.bool false,.bool false,.slice none 0 0,.bool false,.bool false,.bool false,.bool false,.int .i64 0,.int .i64 0,.int .i64 0,.bool false,.int .i64 0]] (QW os) (by kernel_rfl) (by kernel_rfl) (by kernel_rfl)
   (OpenSpec.preRow_of_cond 8 hx (by kernel_rfl) (λk hk=>by cases hk) (by kernel_rfl) (LA os))) ?_
 intro W base args ds gs before hval hW _ _ _ hL hsh _
 exact contract H enc W base args ds gs before hval hW hL hsh
theorem said:Rows.ParserFormsSaid:=
 OpenClaim.holds_of_cond 3 Tryz.f3 rfl rfl rfl rfl rfl rfl rfl ⟨rfl,rfl,rfl,rfl,rfl⟩ rfl rfl rfl rfl rfl (by kernel_rfl) Tryz.func3 facts
  (of_decide_eq_true (by kernel_rfl)) (by unfold Func.isWrapper;first|(rw[if_pos (by decide +kernel)];kernel_rfl)|(rw[if_neg (by decide +kernel)];exact⟨rfl,rfl⟩))
  (λos started H enc _ F=>by rw[OpenClaim.pre_eq_preRow];exact lifted os started H enc F)
theorem plain (f:FuncId)(fn:Func)(hf:Tryz.pinned.checked.prog.funcNamed "giro/girolaw19.ParserForms"=some f)(hfn:Tryz.pinned.checked.prog.funcs[f]? =some fn):
 true=Tryz.pinned.checked.prog.looks []/\∀(j:Nat) t,fn.params[j]? =some t->Tryz.pinned.checked.prog.wantsStandIn t=false:=by
 obtain rfl:f=3:=Option.some.inj ((show Tryz.prog.funcNamed "giro/girolaw19.ParserForms"=some 3 by kernel_rfl).symm.trans hf)|>.symm
 obtain rfl:fn=Tryz.f3:=(Option.some.inj (Tryz.func3.symm.trans hfn)).symm
 refine⟨by kernel_rfl,λj t ht=>?_⟩
 rw[Tryz.params3]at ht
 have hm:=Array.mem_of_getElem? ht
 simp at hm
 subst hm
 exact(show Tryz.prog.wantsStandIn 28=false by kernel_rfl)
theorem card:Rows.ParserFormsCardSaid:=
 Claim7.holds_tied_plain_at .later [] _ _ _ _ said (λ_ h=>by cases h) (by kernel_rfl) (λ_ h=>by cases h) parserForms_row_tie rfl ⟨rfl,rfl⟩ (by kernel_rfl) rfl plain (by kernel_rfl)
#print axioms card
end Go.Proofs.YtnjjeapcalkmaaaGreatDoor.lawPForms
