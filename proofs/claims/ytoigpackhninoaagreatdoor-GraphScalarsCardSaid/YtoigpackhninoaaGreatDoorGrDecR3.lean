/- Walks: the reference's Norm. -/
import Derived.Test.YtoigpackhninoaaGreatDoorZ18
import Derived.Test.YtoigpackhninoaaGreatDoorZ19
import Derived.Deep.RegionLaw
namespace Go.Proofs.YtoigpackhninoaaGreatDoor
set_option maxRecDepth 100000
set_option maxHeartbeats 16000000
open Go.RowKit
def NumI (x:Gr.Dn) (v:Value) (B:Nat) (w:World):Prop:=∃A c,v=.agg #[.bool x.neg,.slice A x.d.length c,.int .i64 x.e]/\OwnRow intL w B 3 (.slice A x.d.length c) x.d
def RNormPost (x:Gr.Dn) (w:World) (e:Ending) (w':World):Prop:=∃v,e=.returned v/\NumI x v w.heap.size w'/\Below w.heap.size w w'
theorem drop_dw {d:List Nat} {k:Nat} (h:k<d.length):(d.drop k).dropWhile Gr.isZ=if d[k]=0 then(d.drop (k+1)).dropWhile Gr.isZ else d.drop k:=by
 rw[List.drop_eq_getElem_cons h];by_cases h0:d[k]=0
 ·rw[if_pos h0,h0,dw_zero]
 ·rw[if_neg h0,dw_pos _ _ h0]
theorem take_drop_snoc {d:List Nat} {k m:Nat} (hk:k<=m) (h:m<d.length):(d.take (m+1)).drop k=(d.take m).drop k++[d[m]]:=by
 rw[List.take_succ_eq_append_getElem h,List.drop_append_of_le_length (by simp;omega)]
theorem row_keeps {α:Type} {L:Lay α} {W w2:World} {g base:Nat} {t E:TypeId} {cs:Array Value} {v:Value} {l:List α} (hb:Blk W g t cs) (ho:OwnRow L W base E v l) (hg:W.grownBy w2 v.ownBlock) (h:g<base):Blk w2 g t cs:=
 hb.grown hg (fun e=>absurd (ho.lt g e.symm).1 (by omega))
theorem rnorm_any (neg:Bool) (A:Option Addr) (c:Nat) (d:List Nat) (E:Int) (hl:d.length<=1073741823) (hE0:-1152921504606846976<=E) (hE1:E<=1152921504606846976) (hd:∀v∈d,v<10) (w:World) (h:RowAt intL w w.heap.size A d):
 Calls Tryz.prog 98 #[.bool neg,.slice A d.length c,.int .i64 E] w (RNormPost (Gr.norm neg d E) w):=by
 obtain⟨r,hr⟩:∃r,Gr.norm neg d E=r:=⟨_,rfl⟩
 have HR:=Lib.hid hr;rw[hr];clear hr;have HRow:=Lib.hid h;have HD:=Lib.hid hd;clear h hd;go_enter Tryz.func98,Tryz.ntmps98;go_upto_region 1 with fail;obtain⟨w1,hw1⟩:∃w1,w.alloc (.cells #[.bool false,.slice none 0 0,.int .i64 0] 69)=w1:=⟨_,rfl⟩
 obtain⟨gb,hgb⟩:∃gb,w.heap.size=gb:=⟨_,rfl⟩
 have HB1:Hid (Blk w1 gb 69 #[.bool false,.slice none 0 0,.int .i64 0]/\Below gb w w1/\w1.heap.size=gb+1):=Lib.hid (by rw[<-hw1,<-hgb];exact⟨Blk.new _ _ _,(Below.refl _ _).alloc (Nat.le_refl _) _,by simp⟩);have HGB:=Lib.hid hgb;rw[hgb]at HRow;(try rw[hw1]);(try rw[hgb]);clear hw1 hgb;go_wp2_with fail;go_loop [7] (fun s7=>∃k:Nat,k<=d.length/\s7=.int .i64 k/\Hid ((d.drop k).dropWhile Gr.isZ=d.dropWhile Gr.isZ)) (fun s7=>d.length-(intOf s7).toNat)
 case atStart=>exact⟨0,by omega,rfl,Lib.hid rfl⟩
 case round=>
  obtain⟨k,hk,rfl,HV⟩:=hrel;by_cases hlt:k<d.length
  ·have hltI:(k:Int)<(d.length:Int):=by omega
   obtain⟨v,hv⟩:∃v,d[k]=v:=⟨_,rfl⟩
   obtain⟨ad,rfl,_,y0⟩:=int_at (HRow.out.below HB1.out.2.1) hlt;rw[hv]at y0;by_cases hz:v=0
   ·subst hz;have HNX:Hid ((d.drop (k+1)).dropWhile Gr.isZ=d.dropWhile Gr.isZ):=Lib.hid (by rw[<-HV.out,drop_dw hlt,if_pos hv]);clear hv;rw[show((0:Nat):Int)=0 from rfl]at y0;go_wp2_with fail;go_round
    case rel=>exact⟨k+1,by omega,by go_num,HNX⟩
    case measure=>simp[intOf];omega
   ·have hv10:v<10:=by rw[<-hv];exact HD.out _ (List.getElem_mem hlt)
    have HM:Hid (r=⟨neg,Gr.rz (d.drop k),E+(((d.drop k).length-(Gr.rz (d.drop k)).length:Nat):Int)⟩/\d[k]=v):=Lib.hid ⟨by
     have h1:=HV.out;rw[drop_dw hlt,if_neg (by rw[hv];exact hz)]at h1;rw[<-HR.out];unfold Gr.norm;rw[<-h1,if_neg (by intro e;have:=congrArg List.length e;simp at this;omega)],hv⟩
    obtain⟨vi,hvi⟩:∃vi:Int,(v:Int)=vi:=⟨_,rfl⟩
    have hz1:¬vi=0:=by omega
    have hz2:(vi==0)=false:=by simpa using hz1
    rw[hvi]at y0;clear hv hvi;go_wp2_with fail;clear y0 hz1 hz2;go_loop [8,2] (fun s8 s2=>∃m:Nat,k<m/\m<=d.length/\s8=.int .i64 (m:Int)/\s2=.int .i64 (E+((d.length-m:Nat):Int))/\Hid (Gr.rz ((d.take m).drop k)=Gr.rz (d.drop k))) (fun s8 _=>(intOf s8).toNat)
    case atStart=>exact⟨d.length,by omega,Nat.le_refl _,rfl,by simp,Lib.hid (by rw[List.take_length])⟩
    case round=>
     obtain⟨m,hkm,hmd,rfl,rfl,HV2⟩:=hrel;obtain⟨j,rfl⟩:∃j,m=j+1:=⟨m-1,by omega⟩
     have hjd:j<d.length:=by omega
     have hkmI:(k:Int)<((j+1:Nat):Int):=by omega
     obtain⟨u,hu⟩:∃u,d[j]=u:=⟨_,rfl⟩
     obtain⟨ad',hade,_,y0⟩:=int_at (HRow.out.below HB1.out.2.1) hjd;injection hade with hade
     subst hade;rw[hu]at y0;have HT:Hid ((d.take (j+1)).drop k=(d.take j).drop k++[u]):=Lib.hid (by rw[take_drop_snoc (by omega) hjd,hu]);have HU:=Lib.hid hu;have hj0I:(0:Int)<=(j:Int):=by omega
     have hjI:(j:Int)<=1073741823:=by omega
     clear hu;by_cases hz2:u=0
     ·subst hz2;have hkj:k<j:=by
       rcases Nat.lt_or_ge k j with h0|h0
       ·exact h0
       ·obtain rfl:j=k:=by omega
        exact absurd (HM.out.2.symm.trans HU.out) hz
      have HNX:Hid (Gr.rz ((d.take j).drop k)=Gr.rz (d.drop k)):=Lib.hid (by rw[<-HV2.out,HT.out,rz_snoc,if_pos rfl]);rw[show((0:Nat):Int)=0 from rfl]at y0;go_wp2_with fail;go_round
      case rel=>exact⟨j,hkj,by omega,by go_num,by go_num,HNX⟩
      case measure=>simp[intOf]
     ·have HF:Hid (r=⟨neg,(d.take (j+1)).drop k,E+((d.length-(j+1):Nat):Int)⟩):=Lib.hid (by
       have h1:=HV2.out;rw[HT.out,rz_snoc,if_neg hz2,<-HT.out]at h1;rw[HM.out.1,<-h1]
       congr 3
       simp only[List.length_drop,List.length_take];omega)
      obtain⟨vi,hvi⟩:∃vi:Int,(u:Int)=vi:=⟨_,rfl⟩
      have hz1:¬vi=0:=by omega
      have hz2:(vi==0)=false:=by simpa using hz1
      rw[hvi]at y0;clear hvi;have hne1:¬((k:Int)=((j+1:Nat):Int)):=by omega
      have hne2:((k:Int)==((j+1:Nat):Int))=false:=by rw[beq_eq_false_iff_ne];exact hne1
      have hne3:((k:Int)==(j:Int)+1)=false:=by rw[beq_eq_false_iff_ne];omega
      obtain⟨X,hX⟩:∃X:Int,E+((d.length-(j+1):Nat):Int)=X:=⟨_,rfl⟩
      rw[hX]at HF ⊢;go_upto_region 10 with fail;obtain⟨w2,hw2⟩:∃w2,w1.alloc (.cells #[.bool neg,.slice none 0 0,.int .i64 X] 69)=w2:=⟨_,rfl⟩
      have hz1:w1.heap.size=gb+1:=HB1.out.2.2;have HB2:Hid (Blk w2 (gb+1) 69 #[.bool neg,.slice none 0 0,.int .i64 X]/\Blk w2 gb 69 #[.bool false,.slice none 0 0,.int .i64 0]/\Below gb w w2/\gb+2<=w2.heap.size):=Lib.hid (by
       rw[<-hw2,<-hz1];exact⟨Blk.new _ _ _,HB1.out.1.alloc _,HB1.out.2.1.alloc (by omega) _,by simp;omega⟩)
      (try rw[hz1]);(try rw[hw2]);clear hw2 hz1 y0 hz2 hne1 hne2 hne3;obtain⟨n,hn⟩:∃n,j+1-k=n:=⟨_,rfl⟩
      obtain⟨Y,hY⟩:∃Y,(d.take (j+1)).drop k=Y:=⟨_,rfl⟩
      have HYL:Hid (Y.length=n/\∀i (h:i<n),∃h2:k+i<d.length,∃h3:i<Y.length,Y[i]=d[k+i]):=Lib.hid (by
       have h1:Y.length=n:=by rw[<-hY,<-hn];simp;omega
       refine⟨h1,fun i hi=>⟨by omega,by omega,?_⟩⟩;simp only[<-hY,List.getElem_drop,List.getElem_take])
      rw[hY]at HF;have hkn:k+n=j+1:=by omega
      have hjk:((j:Int)+1)=((k+n:Nat):Int):=by omega
      clear hY;go_wp2_with fail;clear hjk hkmI;go_loopw [10] (fun s10 wr=>∃p i:Nat,i<=n/\s10=.int .i64 (p:Int)/\Hid (p=k+i)/\Hid (∃A9 c9,Blk wr (gb+1) 69 #[.bool neg,.slice A9 i c9,.int .i64 X]/\OwnRow intL wr (gb+2) 3 (.slice A9 i c9) (Y.take i)/\Blk wr gb 69 #[.bool false,.slice none 0 0,.int .i64 0]/\Below gb w wr/\gb+2<=wr.heap.size)) (fun s10 _=>k+n-(intOf s10).toNat)
      case atStart=>exact⟨k,0,by omega,rfl,Lib.hid rfl,Lib.hid ⟨none,0,HB2.out.1,OwnRow.nil,HB2.out.2⟩⟩
      case round=>
       obtain⟨p,i,hi,rfl,HP,HW⟩:=hrel;obtain⟨wq,hwq⟩:∃wq,wq=wr:=⟨_,rfl⟩
       subst hwq;obtain⟨A9,c9,v1,vo,v0,vb,vs⟩:=HW.out;by_cases hlt3:i<n
       ·have hltI3:(p:Int)<(j:Int)+1:=by have:=HP.out;omega
        obtain⟨hk2,hi3,hye⟩:=HYL.out.2 i hlt3;obtain⟨ad2,hade2,_,y1⟩:=int_at (HRow.out.below vb) hk2;injection hade2 with hade2
        subst hade2;obtain⟨x,hx⟩:∃x,d[k+i]=x:=⟨_,rfl⟩
        rw[hx,<-HP.out]at y1;have hpd:(p:Int)<(d.length:Int):=by have:=HP.out;omega
        have hp1:(p:Int)<=1073741823:=by omega
        have HTK:Hid (Y.take (i+1)=Y.take i++[x]):=Lib.hid (by rw[List.take_succ_eq_append_getElem hi3,hye,hx]);have HTL:Hid ((Y.take i).length=i):=Lib.hid (by rw[List.length_take];omega);have q1:wq.cell? ⟨gb+1,1,none⟩=some (.slice A9 i c9):=v1.cell 1;have qf:∀j,wq.frozen? ⟨gb+1,j,none⟩=false:=v1.frozen;have hownA:OwnRow intL (wq.alloc (.cells #[.int .i64 (x:Int)] 3)).drew (gb+2) 3 (.slice A9 i c9) (Y.take i):=vo.alloc _;have hlitA:RowAt intL (wq.alloc (.cells #[.int .i64 (x:Int)] 3)).drew (wq.heap.size+1) (some ⟨wq.heap.size,0,none⟩) [x]:=RowAt.lit1 x _ rfl _ rfl;have hlA:(Y.take i).length+[x].length<=1073741824:=by rw[HTL.out];simp;omega
        have hbA:gb+2<=(wq.alloc (.cells #[.int .i64 (x:Int)] 3)).drew.heap.size:=by simp;omega
        have HBA:Hid (Blk (wq.alloc (.cells #[.int .i64 (x:Int)] 3)).drew (gb+1) 69 #[.bool neg,.slice A9 i c9,.int .i64 X]/\Blk (wq.alloc (.cells #[.int .i64 (x:Int)] 3)).drew gb 69 #[.bool false,.slice none 0 0,.int .i64 0]/\Below gb w (wq.alloc (.cells #[.int .i64 (x:Int)] 3)).drew/\OwnRow intL (wq.alloc (.cells #[.int .i64 (x:Int)] 3)).drew (gb+2) 3 (.slice A9 i c9) (Y.take i)/\gb+2<=(wq.alloc (.cells #[.int .i64 (x:Int)] 3)).drew.heap.size):=Lib.hid ⟨v1.alloc _,v0.alloc _,below_drewN (vb.alloc (by omega) _) 1,hownA,hbA⟩;have e1:=World.new_ne wq _ q1;have e2:=World.new_ne wq _ y1;have pcA:(wq.alloc (.cells #[.int .i64 (x:Int)] 3)).cell? ⟨gb+1,1,none⟩=some (.slice A9 i c9):=(v1.alloc _).cell 1;have pyA:(wq.alloc (.cells #[.int .i64 (x:Int)] 3)).cell? (ad.add p)=some (.int .i64 (x:Int)):=(World.cell?_alloc_lt wq _ _ (World.block_lt_of_cell? wq _ y1)).trans y1;clear hye hx v1 vo v0 vb HYL HV HV2 HM HT HU HF HR HD HB1 HB2 HRow HGB;go_upto_region 13 with fail
        focus
         go_region_law (refine step_append_row _ rfl (.tmp 54) (.tmp 59) 33 3 8 rfl intT (gb+2) (.slice A9 i c9) (Y.take i) rfl hownA _ _ 1 [x] rfl hlitA hlA hbA ?_;intro v' w3 hown3 hg3 hat3;obtain⟨A8,c8,hv8,_⟩:=hown3.form;obtain⟨q,hq⟩:∃q,(Y.take i++[x]).length=q:=⟨_,rfl⟩;rw[hq]at hv8;subst hv8;have k1:=row_keeps HBA.out.1 HBA.out.2.2.2.1 hg3 (Nat.lt_succ_self _);have HG3:=Lib.hid hg3;have HO3:=Lib.hid hown3;have HQ:=Lib.hid hq;have qf3:∀j,w3.frozen? ⟨gb+1,j,none⟩=false:=k1.frozen;have q13:w3.cell? ⟨gb+1,1,none⟩=some (.slice A9 i c9):=k1.cell 1;have HK1:=Lib.hid k1;clear hg3 hown3 hq k1 hat3)
         all_goals go_wp2_with fail
         all_goals
          have hqi:q=i+1:=by rw[<-HQ.out,List.length_append,HTL.out];rfl
          have HNX:Hid (∃A9 c9,Blk (w3.setCell ⟨gb+1,1,none⟩ (.slice A8 q c8)) (gb+1) 69 #[.bool neg,.slice A9 (i+1) c9,.int .i64 X]/\OwnRow intL (w3.setCell ⟨gb+1,1,none⟩ (.slice A8 q c8)) (gb+2) 3 (.slice A9 (i+1) c9) (Y.take (i+1))/\Blk (w3.setCell ⟨gb+1,1,none⟩ (.slice A8 q c8)) gb 69 #[.bool false,.slice none 0 0,.int .i64 0]/\Below gb w (w3.setCell ⟨gb+1,1,none⟩ (.slice A8 q c8))/\gb+2<=(w3.setCell ⟨gb+1,1,none⟩ (.slice A8 q c8)).heap.size):=Lib.hid (by
           subst hqi;have k0:=row_keeps HBA.out.2.1 HBA.out.2.2.2.1 HG3.out (by omega);have kb:=HBA.out.2.2.1.trans ((HBA.out.2.2.2.1.grown_below HG3.out HBA.out.2.2.2.2).mono (by omega));have ks:=(HBA.out.2.2.2.1.grown_below HG3.out HBA.out.2.2.2.2).size;refine⟨A8,c8,HK1.out.set_ 1 _,by rw[HTK.out];exact HO3.out.setCell (fun e=>absurd (HO3.out.lt _ e).1 (by simp)) _,k0.far (by simp) _,kb.setCell (by simp) _,?_⟩;have:=HBA.out.2.2.2.2;simp[World.setCell];omega)
          go_roundw
          case rel=>exact⟨p+1,i+1,by omega,by go_num,Lib.hid (by have:=HP.out;omega),HNX⟩
          case measure=>have:=HP.out;simp[intOf];omega
       ·obtain rfl:i=n:=by omega
        have hltI3:¬(p:Int)<(j:Int)+1:=by have:=HP.out;omega
        have HYT:Hid (Y.take i=Y):=Lib.hid (List.take_of_length_le (by rw[HYL.out.1];exact Nat.le_refl _));have HYN:Hid (Y.length=i):=Lib.hid HYL.out.1;have p0:∀j,wq.frozen? ⟨gb,j,none⟩=false:=v0.frozen;obtain⟨q0,q1,q2⟩:=cells3 v0;obtain⟨x0,x1,x2⟩:=cells3 v1;have HV0:=Lib.hid v0;have HVO:=Lib.hid vo;have HVB:=Lib.hid vb;clear v0 vo vb v1 vs;go_wp2_with fail;have hb3:=((HV0.out.set_ 0 (.bool neg)).set_ 1 (.slice A9 i c9)).set_ 2 (.int .i64 X);have e0:=hb3.cell 0;have e1:=hb3.cell 1;have e2:=hb3.cell 2;refine bodyPost_ret (v:=.agg #[.bool neg,.slice A9 i c9,.int .i64 X]) (by simp[results,Tryz.results98,go_sem,e0,e1,e2]) rfl ?_;rw[HF.out];unfold RNormPost;rw[HGB.out];have ho:=HVO.out;rw[HYT.out]at ho;have ho3:=((ho.setCell (p:=⟨gb,0,none⟩) (fun e=>absurd (ho.lt _ e).1 (by simp)) (.bool neg)).setCell (p:=⟨gb,1,none⟩) (fun e=>absurd (ho.lt _ e).1 (by simp)) (.slice A9 i c9)).setCell (p:=⟨gb,2,none⟩) (fun e=>absurd (ho.lt _ e).1 (by simp)) (.int .i64 X);refine⟨_,rfl,⟨A9,c9,by rw[HYN.out],?_⟩,((HVB.out.setCell (p:=⟨gb,0,none⟩) (by simp) _).setCell (p:=⟨gb,1,none⟩) (by simp) _).setCell (p:=⟨gb,2,none⟩) (by simp) _⟩;rw[HYN.out];exact ho3.lower (by omega)
  ·have hltI:¬(k:Int)<(d.length:Int):=by omega
   obtain rfl:k=d.length:=by omega
   have HF:Hid (r=Gr.zeroD):=Lib.hid (by
    rw[<-HR.out];unfold Gr.norm;rw[if_pos (by rw[<-HV.out,List.drop_length];rfl)])
   have p0:∀j,w1.frozen? ⟨gb,j,none⟩=false:=HB1.out.1.frozen;obtain⟨q0,q1,q2⟩:=cells3 HB1.out.1;go_wp2_with fail;go_loop [8,2] (fun s8 s2=>s8=.int .i64 (d.length:Int)/\s2=.int .i64 E) (fun _ _=>0)
   case atStart=>exact⟨rfl,rfl⟩
   case round=>
    obtain⟨rfl,rfl⟩:=hrel;go_wp2_with fail;have hb3:=((HB1.out.1.set_ 0 (.bool false)).set_ 1 (.slice none 0 0)).set_ 2 (.int .i64 0);have e0:=hb3.cell 0;have e1:=hb3.cell 1;have e2:=hb3.cell 2;refine bodyPost_ret (v:=.agg #[.bool false,.slice none 0 0,.int .i64 0]) (by simp[results,Tryz.results98,go_sem,e0,e1,e2]) rfl ?_;rw[HF.out];exact⟨_,rfl,⟨none,0,rfl,OwnRow.nil⟩,by rw[HGB.out];exact((HB1.out.2.1.setCell (p:=⟨gb,0,none⟩) (by simp) _).setCell (p:=⟨gb,1,none⟩) (by simp) _).setCell (p:=⟨gb,2,none⟩) (by simp) _⟩
end Go.Proofs.YtoigpackhninoaaGreatDoor
