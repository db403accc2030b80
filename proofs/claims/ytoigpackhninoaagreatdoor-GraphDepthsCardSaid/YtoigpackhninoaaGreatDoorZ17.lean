import Derived.Test.YtoigpackhninoaaGreatDoorZ16
namespace Go.Proofs.YtoigpackhninoaaGreatDoor
open Gr
open _root_.Go.Proofs.Tryz
open Lib (hid)
set_option maxRecDepth 100000
set_option maxHeartbeats 16000000
open Go.RowKit
def NumI (x:Gr.Dn) (v:Value) (B:Nat) (w:World):Prop:=∃A c,v=.agg #[.bool x.neg,.slice A x.d.length c,.int .i64 x.e]/\OwnRow intL w B 3 (.slice A x.d.length c) x.d
def zfl (x:Gr.Dn) (w:World) (e:Ending) (w':World):Prop:=∃v,e=.returned v/\NumI x v w.heap.size w'/\Below w.heap.size w w'
theorem zq3 {d:List Nat} {k:Nat} (h:k<d.length):(d.drop k).dropWhile isZ=if d[k]=0 then(d.drop (k+1)).dropWhile isZ else d.drop k:=by
 rw[List.drop_eq_getElem_cons h];by_cases h0:d[k]=0
 ·rw[if_pos h0,h0,zpy]
 ·rw[if_neg h0,zui _ _ h0]
theorem zfz {d:List Nat} {k m:Nat} (hk:k<=m) (h:m<d.length):(d.take (m+1)).drop k=(d.take m).drop k++[d[m]]:=by
 rw[List.take_succ_eq_append_getElem h,List.drop_append_of_le_length (by simp;omega)]
theorem zbg {α:Type} {L:Lay α} {W w2:World} {g base:Nat} {t E:TypeId} {cs:Array Value} {v:Value} {l:List α} (hb:Blk W g t cs) (ho:OwnRow L W base E v l) (hg:W.grownBy w2 v.ownBlock) (h:g<base):Blk w2 g t cs:=
 hb.grown hg (fun e=>absurd (ho.lt g e.symm).1 (by omega))
theorem zq4 (neg:Bool) (A:Option Addr) (c:Nat) (d:List Nat) (E:Int) (hl:d.length<=1073741823) (hE0:-1152921504606846976<=E) (hE1:E<=1152921504606846976) (hd:∀v∈d,v<10) (w:World) (h:RowAt intL w w.heap.size A d):
 Calls prog 98 #[.bool neg,.slice A d.length c,.int .i64 E] w (zfl (norm neg d E) w):=by
 obtain⟨r,hr⟩:=ex (norm neg d E)
 have HR:=hid hr;rw[hr];clear hr;have HRow:=hid h;have HD:=hid hd;clear h hd;go_enter func98,ntmps98;go_upto_region 1 with fail;obtain⟨w1,hw1⟩:=ex (w.alloc (.cells #[.bool false,.slice none 0 0,.int .i64 0] 69))
 obtain⟨gb,hgb⟩:=ex w.heap.size
 have HB1:Hid (Blk w1 gb 69 #[.bool false,.slice none 0 0,.int .i64 0]/\Below gb w w1/\w1.heap.size=gb+1):=hid (by rw[<-hw1,<-hgb];exact⟨Blk.new _ _ _,(Below.refl _ _).alloc (Nat.le_refl _) _,by simp⟩);have HGB:=hid hgb;rw[hgb]at HRow;(try rw[hw1]);(try rw[hgb]);clear hw1 hgb;go_wp2_with fail;go_loop [7] (fun s7=>∃k:Nat,k<=d.length/\s7=.int .i64 k/\Hid ((d.drop k).dropWhile isZ=d.dropWhile isZ)) (fun s7=>d.length-(intOf s7).toNat)
 case atStart=>exact⟨0,by omega,rfl,hid rfl⟩
 case round=>
  obtain⟨k,hk,rfl,HV⟩:=hrel;by_cases hlt:k<d.length
  ·have hltI:(k:Int)<(d.length:Int):=by omega
   obtain⟨v,hv⟩:=ex (d[k])
   obtain⟨ad,rfl,_,y0⟩:=zae (HRow.out.below HB1.out.2.1) hlt;rw[hv]at y0;by_cases hz:v=0
   ·subst hz;have HNX:Hid ((d.drop (k+1)).dropWhile isZ=d.dropWhile isZ):=hid (by rw[<-HV.out,zq3 hlt,if_pos hv]);clear hv;rw[show((0:Nat):Int)=0 from rfl]at y0;go_wp2;go_round
    case rel=>exact⟨k+1,by omega,by go_num,HNX⟩
    case measure=>simp[intOf];omega
   ·have hv10:v<10:=by rw[<-hv];exact HD.out _ (List.getElem_mem hlt)
    have HM:Hid (r=⟨neg,Gr.rz (d.drop k),E+(((d.drop k).length-(Gr.rz (d.drop k)).length:Nat):Int)⟩/\d[k]=v):=hid ⟨by
     have h1:=HV.out;rw[zq3 hlt,if_neg (by rw[hv];exact hz)]at h1;rw[<-HR.out];unfold norm;rw[<-h1,if_neg (by intro e;have:=congrArg List.length e;simp at this;omega)],hv⟩
    obtain⟨vi,hvi⟩:∃vi:Int,(v:Int)=vi:=⟨_,rfl⟩
    have hz1:¬vi=0:=by omega
    have hz2:(vi==0)=false:=by simpa using hz1
    rw[hvi]at y0;clear hv hvi;go_wp2_with fail;clear y0 hz1 hz2;go_loop [8,2] (fun s8 s2=>∃m:Nat,k<m/\m<=d.length/\s8=.int .i64 (m:Int)/\s2=.int .i64 (E+((d.length-m:Nat):Int))/\Hid (Gr.rz ((d.take m).drop k)=Gr.rz (d.drop k))) (fun s8 _=>(intOf s8).toNat)
    case atStart=>exact⟨d.length,by omega,Nat.le_refl _,rfl,by simp,hid (by rw[List.take_length])⟩
    case round=>
     obtain⟨m,hkm,hmd,rfl,rfl,HV2⟩:=hrel;obtain⟨j,rfl⟩:∃j,m=j+1:=⟨m-1,by omega⟩
     have hjd:j<d.length:=by omega
     have hkmI:(k:Int)<((j+1:Nat):Int):=by omega
     obtain⟨u,hu⟩:=ex (d[j])
     obtain⟨ad',hade,_,y0⟩:=zae (HRow.out.below HB1.out.2.1) hjd;injection hade with hade
     subst hade;rw[hu]at y0;have HT:Hid ((d.take (j+1)).drop k=(d.take j).drop k++[u]):=hid (by rw[zfz (by omega) hjd,hu]);have HU:=hid hu;have hj0I:(0:Int)<=(j:Int):=by omega
     have hjI:(j:Int)<=1073741823:=by omega
     clear hu;by_cases hz2:u=0
     ·subst hz2;have hkj:k<j:=by
       rcases Nat.lt_or_ge k j with h0|h0
       ·exact h0
       ·obtain rfl:j=k:=by omega
        exact absurd (HM.out.2.symm.trans HU.out) hz
      have HNX:Hid (Gr.rz ((d.take j).drop k)=Gr.rz (d.drop k)):=hid (by rw[<-HV2.out,HT.out,zhc,if_pos rfl]);rw[show((0:Nat):Int)=0 from rfl]at y0;go_wp2;go_round
      case rel=>exact⟨j,hkj,by omega,by go_num,by go_num,HNX⟩
      case measure=>simp[intOf]
     ·have HF:Hid (r=⟨neg,(d.take (j+1)).drop k,E+((d.length-(j+1):Nat):Int)⟩):=hid (by
       have h1:=HV2.out;rw[HT.out,zhc,if_neg hz2,<-HT.out]at h1;rw[HM.out.1,<-h1]
       congr 3
       simp only[List.length_drop,List.length_take];omega)
      obtain⟨vi,hvi⟩:∃vi:Int,(u:Int)=vi:=⟨_,rfl⟩
      have hz1:¬vi=0:=by omega
      have hz2:(vi==0)=false:=by simpa using hz1
      rw[hvi]at y0;clear hvi;have hne1:¬((k:Int)=((j+1:Nat):Int)):=by omega
      have hne2:((k:Int)==((j+1:Nat):Int))=false:=by rw[beq_eq_false_iff_ne];exact hne1
      have hne3:((k:Int)==(j:Int)+1)=false:=by rw[beq_eq_false_iff_ne];omega
      obtain⟨X,hX⟩:∃X:Int,E+((d.length-(j+1):Nat):Int)=X:=⟨_,rfl⟩
      rw[hX]at HF ⊢;go_upto_region 10 with fail;obtain⟨w2,hw2⟩:=ex (w1.alloc (.cells #[.bool neg,.slice none 0 0,.int .i64 X] 69))
      have hz1:w1.heap.size=gb+1:=HB1.out.2.2;have HB2:Hid (Blk w2 (gb+1) 69 #[.bool neg,.slice none 0 0,.int .i64 X]/\Blk w2 gb 69 #[.bool false,.slice none 0 0,.int .i64 0]/\Below gb w w2/\gb+2<=w2.heap.size):=hid (by
       rw[<-hw2,<-hz1];exact⟨Blk.new _ _ _,HB1.out.1.alloc _,HB1.out.2.1.alloc (by omega) _,by simp;omega⟩)
      (try rw[hz1]);(try rw[hw2]);clear hw2 hz1 y0 hz2 hne1 hne2 hne3;obtain⟨n,hn⟩:=ex (j+1-k)
      obtain⟨Y,hY⟩:=ex ((d.take (j+1)).drop k)
      have HYL:Hid (Y.length=n/\∀i (h:i<n),∃h2:k+i<d.length,∃h3:i<Y.length,Y[i]=d[k+i]):=hid (by
       have h1:Y.length=n:=by rw[<-hY,<-hn];simp;omega
       refine⟨h1,fun i hi=>⟨by omega,by omega,?_⟩⟩;simp only[<-hY,List.getElem_drop,List.getElem_take])
      rw[hY]at HF;have hkn:k+n=j+1:=by omega
      have hjk:((j:Int)+1)=((k+n:Nat):Int):=by omega
      clear hY;go_wp2_with fail;clear hjk hkmI;go_loopw [10] (fun s10 wr=>∃p i:Nat,i<=n/\s10=.int .i64 (p:Int)/\Hid (p=k+i)/\Hid (∃A9 c9,Blk wr (gb+1) 69 #[.bool neg,.slice A9 i c9,.int .i64 X]/\OwnRow intL wr (gb+2) 3 (.slice A9 i c9) (Y.take i)/\Blk wr gb 69 #[.bool false,.slice none 0 0,.int .i64 0]/\Below gb w wr/\gb+2<=wr.heap.size)) (fun s10 _=>k+n-(intOf s10).toNat)
      case atStart=>exact⟨k,0,by omega,rfl,hid rfl,hid ⟨none,0,HB2.out.1,OwnRow.nil,HB2.out.2⟩⟩
      case round=>
       obtain⟨p,i,hi,rfl,HP,HW⟩:=hrel;obtain⟨wq,hwq⟩:∃wq,wq=wr:=⟨_,rfl⟩
       subst hwq;obtain⟨A9,c9,v1,vo,v0,vb,vs⟩:=HW.out;by_cases hlt3:i<n
       ·have hltI3:(p:Int)<(j:Int)+1:=by have:=HP.out;omega
        obtain⟨hk2,hi3,hye⟩:=HYL.out.2 i hlt3;obtain⟨ad2,hade2,_,y1⟩:=zae (HRow.out.below vb) hk2;injection hade2 with hade2
        subst hade2;obtain⟨x,hx⟩:=ex (d[k+i])
        rw[hx,<-HP.out]at y1;have hpd:(p:Int)<(d.length:Int):=by have:=HP.out;omega
        have hp1:(p:Int)<=1073741823:=by omega
        have HTK:Hid (Y.take (i+1)=Y.take i++[x]):=hid (by rw[List.take_succ_eq_append_getElem hi3,hye,hx]);have HTL:Hid ((Y.take i).length=i):=hid (by rw[List.length_take];omega);have q1:wq.cell? ⟨gb+1,1,none⟩=some (.slice A9 i c9):=v1.cell 1;have qf:∀j,wq.frozen? ⟨gb+1,j,none⟩=false:=v1.frozen;have hownA:OwnRow intL (wq.alloc (.cells #[.int .i64 (x:Int)] 3)).drew (gb+2) 3 (.slice A9 i c9) (Y.take i):=vo.alloc _;have hlitA:RowAt intL (wq.alloc (.cells #[.int .i64 (x:Int)] 3)).drew (wq.heap.size+1) (some ⟨wq.heap.size,0,none⟩) [x]:=RowAt.lit1 x _ rfl _ rfl;have hlA:(Y.take i).length+[x].length<=1073741824:=by rw[HTL.out];simp;omega
        have hbA:gb+2<=(wq.alloc (.cells #[.int .i64 (x:Int)] 3)).drew.heap.size:=by simp;omega
        have HBA:Hid (Blk (wq.alloc (.cells #[.int .i64 (x:Int)] 3)).drew (gb+1) 69 #[.bool neg,.slice A9 i c9,.int .i64 X]/\Blk (wq.alloc (.cells #[.int .i64 (x:Int)] 3)).drew gb 69 #[.bool false,.slice none 0 0,.int .i64 0]/\Below gb w (wq.alloc (.cells #[.int .i64 (x:Int)] 3)).drew/\OwnRow intL (wq.alloc (.cells #[.int .i64 (x:Int)] 3)).drew (gb+2) 3 (.slice A9 i c9) (Y.take i)/\gb+2<=(wq.alloc (.cells #[.int .i64 (x:Int)] 3)).drew.heap.size):=hid ⟨v1.alloc _,v0.alloc _,below_drewN (vb.alloc (by omega) _) 1,hownA,hbA⟩;have e1:=World.new_ne wq _ q1;have e2:=World.new_ne wq _ y1;have pcA:(wq.alloc (.cells #[.int .i64 (x:Int)] 3)).cell? ⟨gb+1,1,none⟩=some (.slice A9 i c9):=(v1.alloc _).cell 1;have pyA:(wq.alloc (.cells #[.int .i64 (x:Int)] 3)).cell? (ad.add p)=some (.int .i64 (x:Int)):=(World.cell?_alloc_lt wq _ _ (World.block_lt_of_cell? wq _ y1)).trans y1;clear hye hx v1 vo v0 vb HYL HV HV2 HM HT HU HF HR HD HB1 HB2 HRow HGB;go_upto_region 13 with fail
        focus
         go_region_law (refine zax _ rfl (.tmp 54) (.tmp 59) 33 3 8 rfl intT (gb+2) (.slice A9 i c9) (Y.take i) rfl hownA _ _ 1 [x] rfl hlitA hlA hbA ?_;intro v' w3 hown3 hg3 hat3;obtain⟨A8,c8,hv8,_⟩:=hown3.form;obtain⟨q,hq⟩:=ex ((Y.take i++[x]).length);rw[hq]at hv8;subst hv8;have k1:=zbg HBA.out.1 HBA.out.2.2.2.1 hg3 (Nat.lt_succ_self _);have HG3:=hid hg3;have HO3:=hid hown3;have HQ:=hid hq;have qf3:∀j,w3.frozen? ⟨gb+1,j,none⟩=false:=k1.frozen;have q13:w3.cell? ⟨gb+1,1,none⟩=some (.slice A9 i c9):=k1.cell 1;have HK1:=hid k1;clear hg3 hown3 hq k1 hat3)
         all_goals go_wp2_with fail
         all_goals
          have hqi:q=i+1:=by rw[<-HQ.out,List.length_append,HTL.out];rfl
          have HNX:Hid (∃A9 c9,Blk (w3.setCell ⟨gb+1,1,none⟩ (.slice A8 q c8)) (gb+1) 69 #[.bool neg,.slice A9 (i+1) c9,.int .i64 X]/\OwnRow intL (w3.setCell ⟨gb+1,1,none⟩ (.slice A8 q c8)) (gb+2) 3 (.slice A9 (i+1) c9) (Y.take (i+1))/\Blk (w3.setCell ⟨gb+1,1,none⟩ (.slice A8 q c8)) gb 69 #[.bool false,.slice none 0 0,.int .i64 0]/\Below gb w (w3.setCell ⟨gb+1,1,none⟩ (.slice A8 q c8))/\gb+2<=(w3.setCell ⟨gb+1,1,none⟩ (.slice A8 q c8)).heap.size):=hid (by
           subst hqi;have k0:=zbg HBA.out.2.1 HBA.out.2.2.2.1 HG3.out (by omega);have kb:=HBA.out.2.2.1.trans ((HBA.out.2.2.2.1.grown_below HG3.out HBA.out.2.2.2.2).mono (by omega));have ks:=(HBA.out.2.2.2.1.grown_below HG3.out HBA.out.2.2.2.2).size;refine⟨A8,c8,HK1.out.set_ 1 _,by rw[HTK.out];exact HO3.out.setCell (fun e=>absurd (HO3.out.lt _ e).1 (by simp)) _,k0.far (by simp) _,kb.setCell (by simp) _,?_⟩;have:=HBA.out.2.2.2.2;simp[World.setCell];omega)
          go_roundw
          case rel=>exact⟨p+1,i+1,by omega,by go_num,hid (by have:=HP.out;omega),HNX⟩
          case measure=>have:=HP.out;simp[intOf];omega
       ·obtain rfl:i=n:=by omega
        have hltI3:¬(p:Int)<(j:Int)+1:=by have:=HP.out;omega
        have HYT:Hid (Y.take i=Y):=hid (List.take_of_length_le (by rw[HYL.out.1];exact Nat.le_refl _));have HYN:Hid (Y.length=i):=hid HYL.out.1;have p0:∀j,wq.frozen? ⟨gb,j,none⟩=false:=v0.frozen;obtain⟨q0,q1,q2⟩:=cells3 v0;obtain⟨x0,x1,x2⟩:=cells3 v1;have HV0:=hid v0;have HVO:=hid vo;have HVB:=hid vb;clear v0 vo vb v1 vs;go_wp2_with fail;have hb3:=((HV0.out.set_ 0 (.bool neg)).set_ 1 (.slice A9 i c9)).set_ 2 (.int .i64 X);have e0:=hb3.cell 0;have e1:=hb3.cell 1;have e2:=hb3.cell 2;refine bodyPost_ret (v:=.agg #[.bool neg,.slice A9 i c9,.int .i64 X]) (by simp[results,results98,go_sem,e0,e1,e2]) rfl ?_;rw[HF.out];unfold zfl;rw[HGB.out];have ho:=HVO.out;rw[HYT.out]at ho;have ho3:=((ho.setCell (p:=⟨gb,0,none⟩) (fun e=>absurd (ho.lt _ e).1 (by simp)) (.bool neg)).setCell (p:=⟨gb,1,none⟩) (fun e=>absurd (ho.lt _ e).1 (by simp)) (.slice A9 i c9)).setCell (p:=⟨gb,2,none⟩) (fun e=>absurd (ho.lt _ e).1 (by simp)) (.int .i64 X);refine⟨_,rfl,⟨A9,c9,by rw[HYN.out],?_⟩,((HVB.out.setCell (p:=⟨gb,0,none⟩) (by simp) _).setCell (p:=⟨gb,1,none⟩) (by simp) _).setCell (p:=⟨gb,2,none⟩) (by simp) _⟩;rw[HYN.out];exact ho3.lower (by omega)
  ·have hltI:¬(k:Int)<(d.length:Int):=by omega
   obtain rfl:k=d.length:=by omega
   have HF:Hid (r=zeroD):=hid (by
    rw[<-HR.out];unfold norm;rw[if_pos (by rw[<-HV.out,List.drop_length];rfl)])
   have p0:∀j,w1.frozen? ⟨gb,j,none⟩=false:=HB1.out.1.frozen;obtain⟨q0,q1,q2⟩:=cells3 HB1.out.1;go_wp2_with fail;go_loop [8,2] (fun s8 s2=>s8=.int .i64 (d.length:Int)/\s2=.int .i64 E) (fun _ _=>0)
   case atStart=>exact⟨rfl,rfl⟩
   case round=>
    obtain⟨rfl,rfl⟩:=hrel;go_wp2_with fail;have hb3:=((HB1.out.1.set_ 0 (.bool false)).set_ 1 (.slice none 0 0)).set_ 2 (.int .i64 0);have e0:=hb3.cell 0;have e1:=hb3.cell 1;have e2:=hb3.cell 2;refine bodyPost_ret (v:=.agg #[.bool false,.slice none 0 0,.int .i64 0]) (by simp[results,results98,go_sem,e0,e1,e2]) rfl ?_;rw[HF.out];exact⟨_,rfl,⟨none,0,rfl,OwnRow.nil⟩,by rw[HGB.out];exact((HB1.out.2.1.setCell (p:=⟨gb,0,none⟩) (by simp) _).setCell (p:=⟨gb,1,none⟩) (by simp) _).setCell (p:=⟨gb,2,none⟩) (by simp) _⟩
theorem zhn (s:Gr.Str) (a:Nat):(s.drop a).dropWhile Gr.dig=s.drop (a+(rdg s a).length):=by
 have h:=List.takeWhile_append_dropWhile (p:=Gr.dig) (l:=s.drop a);have h2:=congrArg (List.drop (rdg s a).length) h;unfold rdg at h2 ⊢;rw[List.drop_left,List.drop_drop]at h2;exact h2
theorem zq5 (s:Gr.Str) (a:Nat) (h:a<=s.length):a+(rdg s a).length<=s.length:=by
 have:(rdg s a).length<=(s.drop a).length:=(List.takeWhile_sublist Gr.dig).length_le;rw[List.length_drop]at this;omega
theorem zb6 (s:Gr.Str) (k:Nat):(s.drop k).head?=s[k]? :=by rw[List.head?_drop]
theorem zfm (s:Gr.Str) (k:Nat):(s.drop k).tail=s.drop (k+1):=by rw[List.tail_drop]
theorem zlo (s:Gr.Str) (a:Nat) (h:0<(rdg s a).length):(rdg s a).head?=s[a]? :=by
 rw[<-zb6];unfold rdg at h ⊢;cases hd:s.drop a with
 |nil=>rw[hd]at h;simp at h
 |cons c l=>
  rw[hd]at h;rw[List.takeWhile_cons]at h ⊢;split
  ·rfl
  ·grind
theorem zwi (sat:Nat) (neg:Bool) (s:Gr.Str) (a:Nat):numT sat neg (s.drop a)=if rdg s a=[]\/(s[a]? =some 48/\1<(rdg s a).length)then none
 else if s[a+(rdg s a).length]? =some 46 then
  if rdg s (a+(rdg s a).length+1)=[]then none else expS sat neg (vals (rdg s a)++vals (rdg s (a+(rdg s a).length+1))) (-((rdg s (a+(rdg s a).length+1)).length:Int)) (s.drop (a+(rdg s a).length+1+(rdg s (a+(rdg s a).length+1)).length))
 else expS sat neg (vals (rdg s a)) 0 (s.drop (a+(rdg s a).length)):=by
 unfold numT;have e1:(s.drop a).takeWhile Gr.dig=rdg s a:=rfl;rw[e1,zhn,zb6,zfm,zhn];have e2:(s.drop (a+(rdg s a).length+1)).takeWhile Gr.dig=rdg s (a+(rdg s a).length+1):=rfl;rw[e2];have e3:vals (rdg s a++rdg s (a+(rdg s a).length+1))=vals (rdg s a)++vals (rdg s (a+(rdg s a).length+1)):=by simp[vals]
 rw[e3];by_cases h0:rdg s a=[]
 ·grind
 ·rw[zlo s a (List.length_pos_iff.2 h0)]
theorem zwj (sat:Nat) (neg:Bool) (d:List Nat) (e:Int) (s:Gr.Str) (t:Nat) (ht:t<=s.length) (h1:s[t]? ≠some 101) (h2:s[t]? ≠some 69):expS sat neg d e (s.drop t)=if t=s.length then some (norm neg d e)else none:=by
 unfold expS;rw[zb6];by_cases h:t=s.length
 ·grind
 ·rw[if_neg (by intro e;have:=congrArg List.length e;simp at this;omega),if_neg (fun e=>e.elim h1 h2),if_neg h]
theorem zkb (s:Gr.Str) (b:Nat) (hb:b<=s.length):(s.drop b).all Gr.dig=true↔b+(rdg s b).length=s.length:=by
 constructor
 ·intro h;have:rdg s b=s.drop b:=by
   unfold rdg;have:=List.takeWhile_append_of_pos (p:=Gr.dig) (l₁:=s.drop b) (l₂:=[]) (by simpa using h);simpa using this
  rw[this,List.length_drop];omega
 ·intro h;have h1:=List.takeWhile_append_dropWhile (p:=Gr.dig) (l:=s.drop b);rw[zhn,show s.drop (b+(rdg s b).length)=[]from List.drop_eq_nil_of_le (by omega),List.append_nil]at h1;rw[<-h1];exact zed _
theorem zq6 (s:Gr.Str) (b:Nat) (h:b+(rdg s b).length=s.length):rdg s b=s.drop b:=by
 have h1:=List.takeWhile_append_dropWhile (p:=Gr.dig) (l:=s.drop b);rw[zhn,show s.drop (b+(rdg s b).length)=[]from List.drop_eq_nil_of_le (by omega),List.append_nil]at h1;exact h1
theorem zwk (sat:Nat) (neg:Bool) (d:List Nat) (e:Int) (s:Gr.Str) (t b:Nat) (minus:Bool) (ht:t<s.length) (h1:s[t]? =some 101\/s[t]? =some 69) (hb:b=if s[t+1]? =some 45\/s[t+1]? =some 43 then t+2 else t+1) (hm:minus=decide (s[t+1]? =some 45)) (hbl:b<=s.length):
 expS sat neg d e (s.drop t)=if rdg s b=[]then none else if b+(rdg s b).length=s.length then some (norm neg d (e+(if minus=true then -1 else 1)*(satv sat (rdg s b):Int)))else none:=by
 unfold expS;rw[if_neg (by intro e;have:=congrArg List.length e;simp at this;omega),zb6,if_pos h1,zfm];have hT:expT (s.drop (t+1))=s.drop b:=by
  unfold expT;rw[zb6,zfm,hb];split<;>rfl
 have hV:expV sat (s.drop (t+1))=(if minus=true then -1 else 1)*(satv sat (s.drop b):Int):=by
  unfold expV;rw[hT,zb6,hm];by_cases h:s[t+1]? =some 45
  ·grind
  ·grind
 rw[hT,hV];by_cases he:rdg s b=[]
 ·rw[if_pos he,if_pos];rcases Nat.lt_or_ge b s.length with h|h
  ·right;rw[Bool.eq_false_iff];intro hall;have:=(zkb s b hbl).1 hall;rw[he]at this;simp at this;omega
  ·grind
 ·rw[if_neg he];by_cases hall:b+(rdg s b).length=s.length
  ·rw[if_pos hall,if_neg,zq6 s b hall];rintro(h|h)
   ·rw[<-zq6 s b hall]at h;exact he h
   ·rw[(zkb s b hbl).2 hall]at h;cases h
  ·rw[if_neg hall,if_pos];right;rw[Bool.eq_false_iff];exact fun h=>hall ((zkb s b hbl).1 h)
def zcf (o:Option Gr.Dn) (w:World) (e:Ending) (w':World):Prop:=∃x v,e=.returned (.tuple #[v,.bool o.isSome])/\NumI x v w.heap.size w'/\(∀y,o=some y->x=y)/\Below w.heap.size w w'
theorem zq7 (s:Gr.Str) (_hl:s.length<=268435455) (w wc:World) (gb n c t2:Nat) (A:Option Addr) (neg:Bool) (ev2:Int) (ds:List Nat) (r:Option Gr.Dn) (HGB:Hid (w.heap.size=gb))
 (HT:Hid (n=ds.length/\ds.length<=536870911/\(∀v∈ds,v<10))) (HE2:Hid (t2<=s.length/\-1152921504606846976<=ev2/\ev2<=1152921504606846976/\r=if t2=s.length then some (Gr.norm neg ds ev2)else none)) (HO2:Hid (OwnRow intL wc (gb+1) 3 (.slice A n c) ds)) (HB2:Hid (Blk wc gb 69 #[.bool false,.slice none 0 0,.int .i64 0]/\Below gb w wc))
 {u1 u3 u7 u9 u10 u11 u12 u13 u14 u15 u16 u17 u18 u19 u20 u21 u22 u23 u24 u25 u26 u27 u28 u29 u30 u31 u32 u33 u34 u35 u36 u37 u38 u39 u40 u41 u42 u43 u44 u45 u46 u47 u48 u49 u50 u51 u52 u53 u54 u55 u56 u57 u58 u59 u60 u61 u62 u63 u64 u65 u66 u67 u68 u69 u70 u71 u72 u73 u74 u75 u76 u77 u78 u79 u80 u81 u82 u83 u84 u85 u86 u87 u88 u89 u90 u91 u92 u93 u94 u95 u96 u97 u98 u99 u100 u101 u102 u103 u104 u105 u106 u107 u108 u109 u110 u111 u112 u113 u114 u115 u116 u117 u118 u119 u120 u121 u122 u123 u124 u125 u126 u127 u128 u129 u130 u131 u132 u133 u134 u135 u136 u137 u138 u139 u140 u141 u142 u143 u144 u145 u146 u147 u148 u149 u150 u151 u152 u153 u154:Value}:
 Code.wp prog (tl 10 (f75.body.getD .skip)) (bodyPost prog f75 (zcf r w)) {tmps:=List.toArray (.string ⟨s.toArray⟩::u1::.pointer (some ⟨gb,0,none⟩)::u3::.int .i64 (t2:Int)::.bool neg::.slice A n c::u7::.int .i64 ev2::u9::u10::u11::u12::u13::u14::u15::u16::u17::u18::u19::u20::u21::u22::u23::u24::u25::u26::u27::u28::u29::u30::u31::u32::u33::u34::u35::u36::u37::u38::u39::u40::u41::u42::u43::u44::u45::u46::u47::u48::u49::u50::u51::u52::u53::u54::u55::u56::u57::u58::u59::u60::u61::u62::u63::u64::u65::u66::u67::u68::u69::u70::u71::u72::u73::u74::u75::u76::u77::u78::u79::u80::u81::u82::u83::u84::u85::u86::u87::u88::u89::u90::u91::u92::u93::u94::u95::u96::u97::u98::u99::u100::u101::u102::u103::u104::u105::u106::u107::u108::u109::u110::u111::u112::u113::u114::u115::u116::u117::u118::u119::u120::u121::u122::u123::u124::u125::u126::u127::u128::u129::u130::u131::u132::u133::u134::u135::u136::u137::u138::u139::u140::u141::u142::u143::u144::u145::u146::u147::u148::u149::u150::u151::u152::u153::u154::[]),defers:=[]} wc:=by
 generalize hc0:tl 10 (f75.body.getD .skip)=c0;simp only[tl,f75,Option.getD_some]at hc0;subst hc0;have hrw:=HO2.out.form;have hnl:n=ds.length:=HT.out.1;have HNO:Hid (∀W,Below wc.heap.size wc W->W=wc->Calls prog 98 #[.bool neg,.slice A n c,.int .i64 ev2] W (zfl (Gr.norm neg ds ev2) W)):=Lib.hid (fun W _ hW=>by
  subst hW;obtain⟨A',c',hv,hrow⟩:=HO2.out.form;rw[hnl]at hv ⊢;injection hv with e1 e2 e3
  subst e1;exact zq4 neg A c ds ev2 (by have:=HT.out.2.1;omega) HE2.out.2.1 HE2.out.2.2.1 HT.out.2.2 W hrow)
 have HE3:=Lib.hid HE2.out.2.2.2;have ht2s:t2<=s.length:=HE2.out.1;obtain⟨full,hfull⟩:=ex (decide (t2=s.length))
 have hfb:((t2:Int)==(s.length:Int))=full:=by
  rw[<-hfull,Bool.eq_iff_iff];simp;omega
 have hfb2:(t2==s.length)=full:=by
  rw[<-hfull,Bool.eq_iff_iff];simp
 have HFU:=Lib.hid hfull;clear hrw hnl hfull HT HE2;go_wp2_with fail;refine(HNO.out wc (Below.refl _ _) rfl).mono ?_;rintro e w5 ⟨v,rfl,⟨A5,c5,rfl,ho5⟩,hb5⟩;have HB5:Hid (Blk w5 gb 69 #[.bool false,.slice none 0 0,.int .i64 0]/\Below gb w w5):=Lib.hid ⟨HB2.out.1.below hb5 HB2.out.1.lt,HB2.out.2.trans (hb5.mono (Nat.le_of_lt HB2.out.1.lt))⟩;have HO5:=Lib.hid (ho5.lower (show gb+1<=wc.heap.size from HB2.out.1.lt));have p0:∀j,w5.frozen? ⟨gb,j,none⟩=false:=HB5.out.1.frozen;obtain⟨q0,q1,q2⟩:=cells3 HB5.out.1;obtain⟨x,hx⟩:=ex (Gr.norm neg ds ev2)
 rw[hx]at HO5 HE3 ⊢;clear hx ho5 hb5;go_wp2_with fail;have hb3:=((HB5.out.1.set_ 0 (.bool x.neg)).set_ 1 (.slice A5 x.d.length c5)).set_ 2 (.int .i64 x.e);have e0:=hb3.cell 0;have e1:=hb3.cell 1;have e2:=hb3.cell 2;refine bodyPost_ret (v:=.tuple #[.agg #[.bool x.neg,.slice A5 x.d.length c5,.int .i64 x.e],.bool full]) (by rw[results_cell_tmp rfl];go_simp) rfl ?_;have hrs:r.isSome=full:=by
  rw[HE3.out,<-HFU.out];by_cases h:t2=s.length
  ·rw[if_pos h];simp[h]
  ·rw[if_neg h];simp[h]
 unfold zcf;rw[HGB.out,hrs];have ho3:=((HO5.out.setCell (p:=⟨gb,0,none⟩) (fun e=>absurd (HO5.out.lt _ e).1 (by simp)) (.bool x.neg)).setCell (p:=⟨gb,1,none⟩) (fun e=>absurd (HO5.out.lt _ e).1 (by simp)) (.slice A5 x.d.length c5)).setCell (p:=⟨gb,2,none⟩) (fun e=>absurd (HO5.out.lt _ e).1 (by simp)) (.int .i64 x.e);refine⟨x,_,rfl,⟨A5,c5,rfl,ho3.lower (by omega)⟩,fun y hy=>?_,((HB5.out.2.setCell (p:=⟨gb,0,none⟩) (by simp) _).setCell (p:=⟨gb,1,none⟩) (by simp) _).setCell (p:=⟨gb,2,none⟩) (by simp) _⟩;rw[HE3.out]at hy;split at hy
 ·injection hy
 ·cases hy
end Go.Proofs.YtoigpackhninoaaGreatDoor
