import Derived.Test.YtoigpackhninoaaGreatDoorZ16
namespace Go.Proofs.YtoigpackhninoaaGreatDoor
open Gr
open _root_.Go.Proofs.Tryz
open _root_.Go.Lib (hid)
set_option maxRecDepth 100000
set_option maxHeartbeats 16000000
open Go.RowKit
def NumI (x:Gr.Dn) (v:Value) (B:Nat) (w:World):Prop:=∃A c,v=.agg #[.bool x.neg,.slice A x.d.length c,.int .i64 x.e]/\OwnRow intL w B 3 (.slice A x.d.length c) x.d
def zfb (x:Gr.Dn) (w:World) (e:Ending) (w':World):Prop:=∃v,e=.returned v/\NumI x v w.heap.size w'/\Below w.heap.size w w'
theorem zp9 {d:List Nat} {k:Nat} (h:k<d.length):(d.drop k).dropWhile isZ=if d[k]=0 then(d.drop (k+1)).dropWhile isZ else d.drop k:=by
 rw[List.drop_eq_getElem_cons h];by_cases h0:d[k]=0
 ·rw[if_pos h0,h0,zop]
 ·rw[if_neg h0,zua _ _ h0]
theorem zfr {d:List Nat} {k m:Nat} (hk:k<=m) (h:m<d.length):(d.take (m+1)).drop k=(d.take m).drop k++[d[m]]:=by
 rw[List.take_succ_eq_append_getElem h,List.drop_append_of_le_length (by simp;omega)]
theorem zbd {α:Type} {L:Lay α} {W w2:World} {g base:Nat} {t E:TypeId} {cs:Array Value} {v:Value} {l:List α} (hb:Blk W g t cs) (ho:OwnRow L W base E v l) (hg:W.grownBy w2 v.ownBlock) (h:g<base):Blk w2 g t cs:=
 hb.grown hg (fun e=>absurd (ho.lt g e.symm).1 (by omega))
theorem zqa (neg:Bool) (A:Option Addr) (c:Nat) (d:List Nat) (E:Int) (hl:d.length<=1073741823) (hE0:-1152921504606846976<=E) (hE1:E<=1152921504606846976) (hd:∀v∈d,v<10) (w:World) (h:RowAt intL w w.heap.size A d):
 Calls prog 98 #[.bool neg,.slice A d.length c,.int .i64 E] w (zfb (norm neg d E) w):=by
 obtain⟨r,hr⟩:=ex (norm neg d E)
 have HR:=hid hr;rw[hr];clear hr;have l:=hid h;have HD:=hid hd;clear h hd;go_enter func98,ntmps98;go_upto_region 1 with fail;obtain⟨w1,Z⟩:=ex (w.alloc (.cells #[.bool false,.slice none 0 0,.int .i64 0] 69))
 obtain⟨a,D⟩:=ex w.heap.size
 have b:Hid (Blk w1 a 69 #[.bool false,.slice none 0 0,.int .i64 0]/\Below a w w1/\w1.heap.size=a+1):=hid (by rw[<-Z,<-D];exact⟨Blk.new _ _ _,(Below.refl _ _).alloc (Nat.le_refl _) _,by simp⟩);have W:=hid D;rw[D]at l;(try rw[Z]);(try rw[D]);clear Z D;go_wp2_with fail;go_loop [7] (fun s7=>∃k:Nat,k<=d.length/\s7=.int .i64 k/\Hid ((d.drop k).dropWhile isZ=d.dropWhile isZ)) (fun s7=>d.length-(intOf s7).toNat)
 case atStart=>exact⟨0,by omega,rfl,hid rfl⟩
 case round=>
  obtain⟨k,hk,rfl,HV⟩:=hrel;by_cases hlt:k<d.length
  ·have aa:(k:Int)<(d.length:Int):=by omega
   obtain⟨v,M⟩:=ex (d[k])
   obtain⟨ad,rfl,_,J⟩:=zae (l.out.below b.out.2.1) hlt;rw[M]at J;by_cases hz:v=0
   ·subst hz;have G:Hid ((d.drop (k+1)).dropWhile isZ=d.dropWhile isZ):=hid (by rw[<-HV.out,zp9 hlt,if_pos M]);clear M;rw[show((0:Nat):Int)=0 from rfl]at J;go_wp2;go_round
    case rel=>exact⟨k+1,by omega,by go_num,G⟩
    case measure=>simp[intOf];omega
   ·have hv10:v<10:=by rw[<-M];exact HD.out _ (List.getElem_mem hlt)
    have HM:Hid (r=⟨neg,Gr.rz (d.drop k),E+(((d.drop k).length-(Gr.rz (d.drop k)).length:Nat):Int)⟩/\d[k]=v):=hid ⟨by
     have Q:=HV.out;rw[zp9 hlt,if_neg (by rw[M];exact hz)]at Q;rw[<-HR.out];unfold norm;rw[<-Q,if_neg (by intro e;have:=congrArg List.length e;simp at this;omega)],M⟩
    obtain⟨H,B⟩:∃H:Int,(v:Int)=H:=⟨_,rfl⟩
    have o:¬H=0:=by omega
    have z:(H==0)=false:=by simpa using o
    rw[B]at J;clear M B;go_wp2_with fail;clear J o z;go_loop [8,2] (fun s8 s2=>∃m:Nat,k<m/\m<=d.length/\s8=.int .i64 (m:Int)/\s2=.int .i64 (E+((d.length-m:Nat):Int))/\Hid (Gr.rz ((d.take m).drop k)=Gr.rz (d.drop k))) (fun s8 _=>(intOf s8).toNat)
    case atStart=>exact⟨d.length,by omega,Nat.le_refl _,rfl,by simp,hid (by rw[List.take_length])⟩
    case round=>
     obtain⟨m,hkm,hmd,rfl,rfl,T⟩:=hrel;obtain⟨j,rfl⟩:∃j,m=j+1:=⟨m-1,by omega⟩
     have ag:j<d.length:=by omega
     have ai:(k:Int)<((j+1:Nat):Int):=by omega
     obtain⟨u,hu⟩:=ex (d[j])
     obtain⟨ad',F,_,J⟩:=zae (l.out.below b.out.2.1) ag;injection F with F
     subst F;rw[hu]at J;have HT:Hid ((d.take (j+1)).drop k=(d.take j).drop k++[u]):=hid (by rw[zfr (by omega) ag,hu]);have HU:=hid hu;have hj0I:(0:Int)<=(j:Int):=by omega
     have hjI:(j:Int)<=1073741823:=by omega
     clear hu;by_cases z:u=0
     ·subst z;have aA:k<j:=by
       rcases Nat.lt_or_ge k j with h0|h0
       ·exact h0
       ·obtain rfl:j=k:=by omega
        exact absurd (HM.out.2.symm.trans HU.out) hz
      have G:Hid (Gr.rz ((d.take j).drop k)=Gr.rz (d.drop k)):=hid (by rw[<-T.out,HT.out,zgo,if_pos rfl]);rw[show((0:Nat):Int)=0 from rfl]at J;go_wp2;go_round
      case rel=>exact⟨j,aA,by omega,by go_num,by go_num,G⟩
      case measure=>simp[intOf]
     ·have HF:Hid (r=⟨neg,(d.take (j+1)).drop k,E+((d.length-(j+1):Nat):Int)⟩):=hid (by
       have Q:=T.out;rw[HT.out,zgo,if_neg z,<-HT.out]at Q;rw[HM.out.1,<-Q]
       congr 3
       simp only[List.length_drop,List.length_take];omega)
      obtain⟨H,B⟩:∃H:Int,(u:Int)=H:=⟨_,rfl⟩
      have o:¬H=0:=by omega
      have z:(H==0)=false:=by simpa using o
      rw[B]at J;clear B;have K:¬((k:Int)=((j+1:Nat):Int)):=by omega
      have ah:((k:Int)==((j+1:Nat):Int))=false:=by rw[beq_eq_false_iff_ne];exact K
      have ac:((k:Int)==(j:Int)+1)=false:=by rw[beq_eq_false_iff_ne];omega
      obtain⟨X,hX⟩:∃X:Int,E+((d.length-(j+1):Nat):Int)=X:=⟨_,rfl⟩
      rw[hX]at HF ⊢;go_upto_region 10 with fail;obtain⟨w2,U⟩:=ex (w1.alloc (.cells #[.bool neg,.slice none 0 0,.int .i64 X] 69))
      have o:w1.heap.size=a+1:=b.out.2.2;have N:Hid (Blk w2 (a+1) 69 #[.bool neg,.slice none 0 0,.int .i64 X]/\Blk w2 a 69 #[.bool false,.slice none 0 0,.int .i64 0]/\Below a w w2/\a+2<=w2.heap.size):=hid (by
       rw[<-U,<-o];exact⟨Blk.new _ _ _,b.out.1.alloc _,b.out.2.1.alloc (by omega) _,by simp;omega⟩)
      (try rw[o]);(try rw[U]);clear U o J z K ah ac;obtain⟨n,hn⟩:=ex (j+1-k)
      obtain⟨Y,hY⟩:=ex ((d.take (j+1)).drop k)
      have I:Hid (Y.length=n/\∀i (h:i<n),∃h2:k+i<d.length,∃h3:i<Y.length,Y[i]=d[k+i]):=hid (by
       have Q:Y.length=n:=by rw[<-hY,<-hn];simp;omega
       refine⟨Q,fun i hi=>⟨by omega,by omega,?_⟩⟩;simp only[<-hY,List.getElem_drop,List.getElem_take])
      rw[hY]at HF;have hkn:k+n=j+1:=by omega
      have aC:((j:Int)+1)=((k+n:Nat):Int):=by omega
      clear hY;go_wp2_with fail;clear aC ai;go_loopw [10] (fun s10 wr=>∃p i:Nat,i<=n/\s10=.int .i64 (p:Int)/\Hid (p=k+i)/\Hid (∃A9 c9,Blk wr (a+1) 69 #[.bool neg,.slice A9 i c9,.int .i64 X]/\OwnRow intL wr (a+2) 3 (.slice A9 i c9) (Y.take i)/\Blk wr a 69 #[.bool false,.slice none 0 0,.int .i64 0]/\Below a w wr/\a+2<=wr.heap.size)) (fun s10 _=>k+n-(intOf s10).toNat)
      case atStart=>exact⟨k,0,by omega,rfl,hid rfl,hid ⟨none,0,N.out.1,OwnRow.nil,N.out.2⟩⟩
      case round=>
       obtain⟨p,i,hi,rfl,HP,HW⟩:=hrel;obtain⟨g,ay⟩:∃g,g=wr:=⟨_,rfl⟩
       subst ay;obtain⟨A9,c9,S,vo,v0,vb,vs⟩:=HW.out;by_cases hlt3:i<n
       ·have V:(p:Int)<(j:Int)+1:=by have:=HP.out;omega
        obtain⟨an,aq,ab⟩:=I.out.2 i hlt3;obtain⟨ad2,s,_,y1⟩:=zae (l.out.below vb) an;injection s with s
        subst s;obtain⟨x,hx⟩:=ex (d[k+i])
        rw[hx,<-HP.out]at y1;have hpd:(p:Int)<(d.length:Int):=by have:=HP.out;omega
        have hp1:(p:Int)<=1073741823:=by omega
        have ap:Hid (Y.take (i+1)=Y.take i++[x]):=hid (by rw[List.take_succ_eq_append_getElem aq,ab,hx]);have ak:Hid ((Y.take i).length=i):=hid (by rw[List.length_take];omega);have q1:g.cell? ⟨a+1,1,none⟩=some (.slice A9 i c9):=S.cell 1;have qf:∀j,g.frozen? ⟨a+1,j,none⟩=false:=S.frozen;have C:OwnRow intL (g.alloc (.cells #[.int .i64 (x:Int)] 3)).drew (a+2) 3 (.slice A9 i c9) (Y.take i):=vo.alloc _;have L:RowAt intL (g.alloc (.cells #[.int .i64 (x:Int)] 3)).drew (g.heap.size+1) (some ⟨g.heap.size,0,none⟩) [x]:=RowAt.lit1 x _ rfl _ rfl;have aB:(Y.take i).length+[x].length<=1073741824:=by rw[ak.out];simp;omega
        have al:a+2<=(g.alloc (.cells #[.int .i64 (x:Int)] 3)).drew.heap.size:=by simp;omega
        have f:Hid (Blk (g.alloc (.cells #[.int .i64 (x:Int)] 3)).drew (a+1) 69 #[.bool neg,.slice A9 i c9,.int .i64 X]/\Blk (g.alloc (.cells #[.int .i64 (x:Int)] 3)).drew a 69 #[.bool false,.slice none 0 0,.int .i64 0]/\Below a w (g.alloc (.cells #[.int .i64 (x:Int)] 3)).drew/\OwnRow intL (g.alloc (.cells #[.int .i64 (x:Int)] 3)).drew (a+2) 3 (.slice A9 i c9) (Y.take i)/\a+2<=(g.alloc (.cells #[.int .i64 (x:Int)] 3)).drew.heap.size):=hid ⟨S.alloc _,v0.alloc _,below_drewN (vb.alloc (by omega) _) 1,C,al⟩;have e1:=World.new_ne g _ q1;have e2:=World.new_ne g _ y1;have pcA:(g.alloc (.cells #[.int .i64 (x:Int)] 3)).cell? ⟨a+1,1,none⟩=some (.slice A9 i c9):=(S.alloc _).cell 1;have pyA:(g.alloc (.cells #[.int .i64 (x:Int)] 3)).cell? (ad.add p)=some (.int .i64 (x:Int)):=(World.cell?_alloc_lt g _ _ (World.block_lt_of_cell? g _ y1)).trans y1;clear ab hx S vo v0 vb I HV T HM HT HU HF HR HD b N l W;go_upto_region 13 with fail
        focus
         go_region_law (refine zai _ rfl (.tmp 54) (.tmp 59) 33 3 8 rfl intT (a+2) (.slice A9 i c9) (Y.take i) rfl C _ _ 1 [x] rfl L aB al ?_;intro v' P t R af;obtain⟨A8,c8,aj,_⟩:=t.form;obtain⟨q,hq⟩:=ex ((Y.take i++[x]).length);rw[hq]at aj;subst aj;have k1:=zbd f.out.1 f.out.2.2.2.1 R (Nat.lt_succ_self _);have O:=hid R;have am:=hid t;have HQ:=hid hq;have qf3:∀j,P.frozen? ⟨a+1,j,none⟩=false:=k1.frozen;have q13:P.cell? ⟨a+1,1,none⟩=some (.slice A9 i c9):=k1.cell 1;have ax:=hid k1;clear R t hq k1 af)
         all_goals go_wp2_with fail
         all_goals
          have av:q=i+1:=by rw[<-HQ.out,List.length_append,ak.out];rfl
          have G:Hid (∃A9 c9,Blk (P.setCell ⟨a+1,1,none⟩ (.slice A8 q c8)) (a+1) 69 #[.bool neg,.slice A9 (i+1) c9,.int .i64 X]/\OwnRow intL (P.setCell ⟨a+1,1,none⟩ (.slice A8 q c8)) (a+2) 3 (.slice A9 (i+1) c9) (Y.take (i+1))/\Blk (P.setCell ⟨a+1,1,none⟩ (.slice A8 q c8)) a 69 #[.bool false,.slice none 0 0,.int .i64 0]/\Below a w (P.setCell ⟨a+1,1,none⟩ (.slice A8 q c8))/\a+2<=(P.setCell ⟨a+1,1,none⟩ (.slice A8 q c8)).heap.size):=hid (by
           subst av;have k0:=zbd f.out.2.1 f.out.2.2.2.1 O.out (by omega);have kb:=f.out.2.2.1.trans ((f.out.2.2.2.1.grown_below O.out f.out.2.2.2.2).mono (by omega));have ks:=(f.out.2.2.2.1.grown_below O.out f.out.2.2.2.2).size;refine⟨A8,c8,ax.out.set_ 1 _,by rw[ap.out];exact am.out.setCell (fun e=>absurd (am.out.lt _ e).1 (by simp)) _,k0.far (by simp) _,kb.setCell (by simp) _,?_⟩;have:=f.out.2.2.2.2;simp[World.setCell];omega)
          go_roundw
          case rel=>exact⟨p+1,i+1,by omega,by go_num,hid (by have:=HP.out;omega),G⟩
          case measure=>have:=HP.out;simp[intOf];omega
       ·obtain rfl:i=n:=by omega
        have V:¬(p:Int)<(j:Int)+1:=by have:=HP.out;omega
        have az:Hid (Y.take i=Y):=hid (List.take_of_length_le (by rw[I.out.1];exact Nat.le_refl _));have ae:Hid (Y.length=i):=hid I.out.1;have p0:∀j,g.frozen? ⟨a,j,none⟩=false:=v0.frozen;obtain⟨q0,q1,q2⟩:=cells3 v0;obtain⟨x0,x1,x2⟩:=cells3 S;have aw:=hid v0;have au:=hid vo;have ao:=hid vb;clear v0 vo vb S vs;go_wp2_with fail;have y:=((aw.out.set_ 0 (.bool neg)).set_ 1 (.slice A9 i c9)).set_ 2 (.int .i64 X);have e0:=y.cell 0;have e1:=y.cell 1;have e2:=y.cell 2;refine bodyPost_ret (v:=.agg #[.bool neg,.slice A9 i c9,.int .i64 X]) (by simp[results,results98,go_sem,e0,e1,e2]) rfl ?_;rw[HF.out];unfold zfb;rw[W.out];have ho:=au.out;rw[az.out]at ho;have ar:=((ho.setCell (p:=⟨a,0,none⟩) (fun e=>absurd (ho.lt _ e).1 (by simp)) (.bool neg)).setCell (p:=⟨a,1,none⟩) (fun e=>absurd (ho.lt _ e).1 (by simp)) (.slice A9 i c9)).setCell (p:=⟨a,2,none⟩) (fun e=>absurd (ho.lt _ e).1 (by simp)) (.int .i64 X);refine⟨_,rfl,⟨A9,c9,by rw[ae.out],?_⟩,((ao.out.setCell (p:=⟨a,0,none⟩) (by simp) _).setCell (p:=⟨a,1,none⟩) (by simp) _).setCell (p:=⟨a,2,none⟩) (by simp) _⟩;rw[ae.out];exact ar.lower (by omega)
  ·have aa:¬(k:Int)<(d.length:Int):=by omega
   obtain rfl:k=d.length:=by omega
   have HF:Hid (r=zeroD):=hid (by
    rw[<-HR.out];unfold norm;rw[if_pos (by rw[<-HV.out,List.drop_length];rfl)])
   have p0:∀j,w1.frozen? ⟨a,j,none⟩=false:=b.out.1.frozen;obtain⟨q0,q1,q2⟩:=cells3 b.out.1;go_wp2_with fail;go_loop [8,2] (fun s8 s2=>s8=.int .i64 (d.length:Int)/\s2=.int .i64 E) (fun _ _=>0)
   case atStart=>exact⟨rfl,rfl⟩
   case round=>
    obtain⟨rfl,rfl⟩:=hrel;go_wp2_with fail;have y:=((b.out.1.set_ 0 (.bool false)).set_ 1 (.slice none 0 0)).set_ 2 (.int .i64 0);have e0:=y.cell 0;have e1:=y.cell 1;have e2:=y.cell 2;refine bodyPost_ret (v:=.agg #[.bool false,.slice none 0 0,.int .i64 0]) (by simp[results,results98,go_sem,e0,e1,e2]) rfl ?_;rw[HF.out];exact⟨_,rfl,⟨none,0,rfl,OwnRow.nil⟩,by rw[W.out];exact((b.out.2.1.setCell (p:=⟨a,0,none⟩) (by simp) _).setCell (p:=⟨a,1,none⟩) (by simp) _).setCell (p:=⟨a,2,none⟩) (by simp) _⟩
end Go.Proofs.YtoigpackhninoaaGreatDoor
