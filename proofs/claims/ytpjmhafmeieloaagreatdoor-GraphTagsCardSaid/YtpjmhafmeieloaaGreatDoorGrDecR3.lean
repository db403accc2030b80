import Derived.Test.YtpjmhafmeieloaaGreatDoorZ06
namespace Go.Proofs.YtpjmhafmeieloaaGreatDoor
open Gr
open _root_.Go.Proofs.Tryz
open _root_.Go.Lib (hid)
set_option maxRecDepth 100000
set_option maxHeartbeats 16000000
open Go.RowKit
def NumI (x:Gr.Dn) (v:Value) (B:Nat) (w:World):Prop:=∃A c,v=.agg #[.bool x.neg,.slice A x.d.length c,.int .i64 x.e]/\OwnRow intL w B 3 (.slice A x.d.length c) x.d
def zfr (x:Gr.Dn) (w:World) (e:Ending) (w':World):Prop:=∃v,e=.returned v/\NumI x v w.heap.size w'/\Below w.heap.size w w'
theorem zrb {d:List Nat} {k:Nat} (h:k<d.length):(d.drop k).dropWhile isZ=if d[k]=0 then(d.drop (k+1)).dropWhile isZ else d.drop k:=by
 rw[List.drop_eq_getElem_cons h];by_cases h0:d[k]=0
 .rw[if_pos h0,h0,zp6]
 .rw[if_neg h0,zus _ _ h0]
theorem zf1 {d:List Nat} {k m:Nat} (hk:k<=m) (h:m<d.length):(d.take (m+1)).drop k=(d.take m).drop k++[d[m]]:=by
 rw[List.take_succ_eq_append_getElem h,List.drop_append_of_le_length (by simp;omega)]
theorem zbg {α:Type} {L:Lay α} {W w2:World} {g base:Nat} {t E:TypeId} {cs:Array Value} {v:Value} {l:List α} (hb:Blk W g t cs) (ho:OwnRow L W base E v l) (hg:W.grownBy w2 v.ownBlock) (h:g<base):Blk w2 g t cs:=
 hb.grown hg (fun e=>absurd (ho.lt g e.symm).1 (by omega))
theorem zrc (neg:Bool) (A:Option Addr) (c:Nat) (d:List Nat) (E:Int) (hl:d.length<=1073741823) (hE0:-1152921504606846976<=E) (hE1:E<=1152921504606846976) (hd:∀v∈d,v<10) (w:World) (h:RowAt intL w w.heap.size A d):
 Calls prog 147 #[.bool neg,.slice A d.length c,.int .i64 E] w (zfr (norm neg d E) w):=by
 obtain⟨r,hr⟩:=ex (norm neg d E)
 have HR:=hid hr;rw[hr];clear hr;have o:=hid h;have HD:=hid hd;clear h hd;go_enter func147,ntmps147;go_upto_region 1 with fail;obtain⟨w1,Q⟩:=ex (w.alloc (.cells #[.bool false,.slice none 0 0,.int .i64 0] 131))
 obtain⟨a,F⟩:=ex w.heap.size
 have g:Hid (Blk w1 a 131 #[.bool false,.slice none 0 0,.int .i64 0]/\Below a w w1/\w1.heap.size=a+1):=hid (by rw[<-Q,<-F];exact⟨Blk.new _ _ _,(Below.refl _ _).alloc (Nat.le_refl _) _,by simp⟩);have N:=hid F;rw[F]at o;(try rw[Q]);(try rw[F]);clear Q F;go_wp2_with fail;go_loop [7] (fun s7=>∃k:Nat,k<=d.length/\s7=.int .i64 k/\Hid ((d.drop k).dropWhile isZ=d.dropWhile isZ)) (fun s7=>d.length-(intOf s7).toNat)
 case atStart=>exact⟨0,by omega,rfl,hid rfl⟩
 case round=>
  obtain⟨k,hk,rfl,HV⟩:=hrel;by_cases hlt:k<d.length
  .have af:(k:Int)<(d.length:Int):=by omega
   obtain⟨v,Z⟩:=ex (d[k])
   obtain⟨ad,rfl,_,H⟩:=zae (o.out.below g.out.2.1) hlt;rw[Z]at H;by_cases hz:v=0
   .subst hz;have B:Hid ((d.drop (k+1)).dropWhile isZ=d.dropWhile isZ):=hid (by rw[<-HV.out,zrb hlt,if_pos Z]);clear Z;rw[show((0:Nat):Int)=0 from rfl]at H;go_wp2;go_round
    case rel=>exact⟨k+1,by omega,by go_num,B⟩
    case measure=>simp[intOf];omega
   .have hv10:v<10:=by rw[<-Z];exact HD.out _ (List.getElem_mem hlt)
    have HM:Hid (r=⟨neg,Gr.rz (d.drop k),E+(((d.drop k).length-(Gr.rz (d.drop k)).length:Nat):Int)⟩/\d[k]=v):=hid ⟨by
     have P:=HV.out;rw[zrb hlt,if_neg (by rw[Z];exact hz)]at P;rw[<-HR.out];unfold norm;rw[<-P,if_neg (by intro e;have:=congrArg List.length e;simp at this;omega)],Z⟩
    obtain⟨I,G⟩:∃I:Int,(v:Int)=I:=⟨_,rfl⟩
    have l:¬I=0:=by omega
    have z:(I==0)=false:=by simpa using l
    rw[G]at H;clear Z G;go_wp2_with fail;clear H l z;go_loop [8,2] (fun s8 s2=>∃m:Nat,k<m/\m<=d.length/\s8=.int .i64 (m:Int)/\s2=.int .i64 (E+((d.length-m:Nat):Int))/\Hid (Gr.rz ((d.take m).drop k)=Gr.rz (d.drop k))) (fun s8 _=>(intOf s8).toNat)
    case atStart=>exact⟨d.length,by omega,Nat.le_refl _,rfl,by simp,hid (by rw[List.take_length])⟩
    case round=>
     obtain⟨m,hkm,hmd,rfl,rfl,V⟩:=hrel;obtain⟨j,rfl⟩:∃j,m=j+1:=⟨m-1,by omega⟩
     have aj:j<d.length:=by omega
     have ac:(k:Int)<((j+1:Nat):Int):=by omega
     obtain⟨u,hu⟩:=ex (d[j])
     obtain⟨ad',D,_,H⟩:=zae (o.out.below g.out.2.1) aj;injection D with D
     subst D;rw[hu]at H;have HT:Hid ((d.take (j+1)).drop k=(d.take j).drop k++[u]):=hid (by rw[zf1 (by omega) aj,hu]);have HU:=hid hu;have hj0I:(0:Int)<=(j:Int):=by omega
     have hjI:(j:Int)<=1073741823:=by omega
     clear hu;by_cases z:u=0
     .subst z;have aq:k<j:=by
       rcases Nat.lt_or_ge k j with h0|h0
       .exact h0
       .obtain rfl:j=k:=by omega
        exact absurd (HM.out.2.symm.trans HU.out) hz
      have B:Hid (Gr.rz ((d.take j).drop k)=Gr.rz (d.drop k)):=hid (by rw[<-V.out,HT.out,zha,if_pos rfl]);rw[show((0:Nat):Int)=0 from rfl]at H;go_wp2;go_round
      case rel=>exact⟨j,aq,by omega,by go_num,by go_num,B⟩
      case measure=>simp[intOf]
     .have HF:Hid (r=⟨neg,(d.take (j+1)).drop k,E+((d.length-(j+1):Nat):Int)⟩):=hid (by
       have P:=V.out;rw[HT.out,zha,if_neg z,<-HT.out]at P;rw[HM.out.1,<-P]
       congr 3
       simp only[List.length_drop,List.length_take];omega)
      obtain⟨I,G⟩:∃I:Int,(u:Int)=I:=⟨_,rfl⟩
      have l:¬I=0:=by omega
      have z:(I==0)=false:=by simpa using l
      rw[G]at H;clear G;have K:¬((k:Int)=((j+1:Nat):Int)):=by omega
      have ai:((k:Int)==((j+1:Nat):Int))=false:=by rw[beq_eq_false_iff_ne];exact K
      have ah:((k:Int)==(j:Int)+1)=false:=by rw[beq_eq_false_iff_ne];omega
      obtain⟨X,hX⟩:∃X:Int,E+((d.length-(j+1):Nat):Int)=X:=⟨_,rfl⟩
      rw[hX]at HF ⊢;go_upto_region 10 with fail;obtain⟨w2,L⟩:=ex (w1.alloc (.cells #[.bool neg,.slice none 0 0,.int .i64 X] 131))
      have l:w1.heap.size=a+1:=g.out.2.2;have T:Hid (Blk w2 (a+1) 131 #[.bool neg,.slice none 0 0,.int .i64 X]/\Blk w2 a 131 #[.bool false,.slice none 0 0,.int .i64 0]/\Below a w w2/\a+2<=w2.heap.size):=hid (by
       rw[<-L,<-l];exact⟨Blk.new _ _ _,g.out.1.alloc _,g.out.2.1.alloc (by omega) _,by simp;omega⟩)
      (try rw[l]);(try rw[L]);clear L l H z K ai ah;obtain⟨n,hn⟩:=ex (j+1-k)
      obtain⟨Y,hY⟩:=ex ((d.take (j+1)).drop k)
      have J:Hid (Y.length=n/\∀i (h:i<n),∃h2:k+i<d.length,∃h3:i<Y.length,Y[i]=d[k+i]):=hid (by
       have P:Y.length=n:=by rw[<-hY,<-hn];simp;omega
       refine⟨P,fun i hi=>⟨by omega,by omega,?_⟩⟩;simp only[<-hY,List.getElem_drop,List.getElem_take])
      rw[hY]at HF;have hkn:k+n=j+1:=by omega
      have ax:((j:Int)+1)=((k+n:Nat):Int):=by omega
      clear hY;go_wp2_with fail;clear ax ac;go_loopw [10] (fun s10 wr=>∃p i:Nat,i<=n/\s10=.int .i64 (p:Int)/\Hid (p=k+i)/\Hid (∃A9 c9,Blk wr (a+1) 131 #[.bool neg,.slice A9 i c9,.int .i64 X]/\OwnRow intL wr (a+2) 3 (.slice A9 i c9) (Y.take i)/\Blk wr a 131 #[.bool false,.slice none 0 0,.int .i64 0]/\Below a w wr/\a+2<=wr.heap.size)) (fun s10 _=>k+n-(intOf s10).toNat)
      case atStart=>exact⟨k,0,by omega,rfl,hid rfl,hid ⟨none,0,T.out.1,OwnRow.nil,T.out.2⟩⟩
      case round=>
       obtain⟨p,i,hi,rfl,HP,HW⟩:=hrel;obtain⟨b,aC⟩:∃b,b=wr:=⟨_,rfl⟩
       subst aC;obtain⟨A9,c9,U,vo,v0,vb,vs⟩:=HW.out;by_cases hlt3:i<n
       .have M:(p:Int)<(j:Int)+1:=by have:=HP.out;omega
        obtain⟨ay,au,am⟩:=J.out.2 i hlt3;obtain⟨ad2,s,_,y1⟩:=zae (o.out.below vb) ay;injection s with s
        subst s;obtain⟨x,hx⟩:=ex (d[k+i])
        rw[hx,<-HP.out]at y1;have hpd:(p:Int)<(d.length:Int):=by have:=HP.out;omega
        have hp1:(p:Int)<=1073741823:=by omega
        have aB:Hid (Y.take (i+1)=Y.take i++[x]):=hid (by rw[List.take_succ_eq_append_getElem au,am,hx]);have ab:Hid ((Y.take i).length=i):=hid (by rw[List.length_take];omega);have q1:b.cell? ⟨a+1,1,none⟩=some (.slice A9 i c9):=U.cell 1;have qf:∀j,b.frozen? ⟨a+1,j,none⟩=false:=U.frozen;have C:OwnRow intL (b.alloc (.cells #[.int .i64 (x:Int)] 3)).drew (a+2) 3 (.slice A9 i c9) (Y.take i):=vo.alloc _;have S:RowAt intL (b.alloc (.cells #[.int .i64 (x:Int)] 3)).drew (b.heap.size+1) (some ⟨b.heap.size,0,none⟩) [x]:=RowAt.lit1 x _ rfl _ rfl;have an:(Y.take i).length+[x].length<=1073741824:=by rw[ab.out];simp;omega
        have ag:a+2<=(b.alloc (.cells #[.int .i64 (x:Int)] 3)).drew.heap.size:=by simp;omega
        have f:Hid (Blk (b.alloc (.cells #[.int .i64 (x:Int)] 3)).drew (a+1) 131 #[.bool neg,.slice A9 i c9,.int .i64 X]/\Blk (b.alloc (.cells #[.int .i64 (x:Int)] 3)).drew a 131 #[.bool false,.slice none 0 0,.int .i64 0]/\Below a w (b.alloc (.cells #[.int .i64 (x:Int)] 3)).drew/\OwnRow intL (b.alloc (.cells #[.int .i64 (x:Int)] 3)).drew (a+2) 3 (.slice A9 i c9) (Y.take i)/\a+2<=(b.alloc (.cells #[.int .i64 (x:Int)] 3)).drew.heap.size):=hid ⟨U.alloc _,v0.alloc _,below_drewN (vb.alloc (by omega) _) 1,C,ag⟩;have e1:=World.new_ne b _ q1;have e2:=World.new_ne b _ y1;have pcA:(b.alloc (.cells #[.int .i64 (x:Int)] 3)).cell? ⟨a+1,1,none⟩=some (.slice A9 i c9):=(U.alloc _).cell 1;have pyA:(b.alloc (.cells #[.int .i64 (x:Int)] 3)).cell? (ad.add p)=some (.int .i64 (x:Int)):=(World.cell?_alloc_lt b _ _ (World.block_lt_of_cell? b _ y1)).trans y1;clear am hx U vo v0 vb J HV V HM HT HU HF HR HD g T o N;go_upto_region 13 with fail
        focus
         go_region_law (refine zai _ rfl (.tmp 54) (.tmp 59) 34 3 8 rfl intT (a+2) (.slice A9 i c9) (Y.take i) rfl C _ _ 1 [x] rfl S an ag ?_;intro v' W t O al;obtain⟨A8,c8,ae,_⟩:=t.form;obtain⟨q,hq⟩:=ex ((Y.take i++[x]).length);rw[hq]at ae;subst ae;have k1:=zbg f.out.1 f.out.2.2.2.1 O (Nat.lt_succ_self _);have R:=hid O;have ak:=hid t;have HQ:=hid hq;have qf3:∀j,W.frozen? ⟨a+1,j,none⟩=false:=k1.frozen;have q13:W.cell? ⟨a+1,1,none⟩=some (.slice A9 i c9):=k1.cell 1;have az:=hid k1;clear O t hq k1 al)
         all_goals go_wp2_with fail
         all_goals
          have av:q=i+1:=by rw[<-HQ.out,List.length_append,ab.out];rfl
          have B:Hid (∃A9 c9,Blk (W.setCell ⟨a+1,1,none⟩ (.slice A8 q c8)) (a+1) 131 #[.bool neg,.slice A9 (i+1) c9,.int .i64 X]/\OwnRow intL (W.setCell ⟨a+1,1,none⟩ (.slice A8 q c8)) (a+2) 3 (.slice A9 (i+1) c9) (Y.take (i+1))/\Blk (W.setCell ⟨a+1,1,none⟩ (.slice A8 q c8)) a 131 #[.bool false,.slice none 0 0,.int .i64 0]/\Below a w (W.setCell ⟨a+1,1,none⟩ (.slice A8 q c8))/\a+2<=(W.setCell ⟨a+1,1,none⟩ (.slice A8 q c8)).heap.size):=hid (by
           subst av;have k0:=zbg f.out.2.1 f.out.2.2.2.1 R.out (by omega);have kb:=f.out.2.2.1.trans ((f.out.2.2.2.1.grown_below R.out f.out.2.2.2.2).mono (by omega));have ks:=(f.out.2.2.2.1.grown_below R.out f.out.2.2.2.2).size;refine⟨A8,c8,az.out.set_ 1 _,by rw[aB.out];exact ak.out.setCell (fun e=>absurd (ak.out.lt _ e).1 (by simp)) _,k0.far (by simp) _,kb.setCell (by simp) _,?_⟩;have:=f.out.2.2.2.2;simp[World.setCell];omega)
          go_roundw
          case rel=>exact⟨p+1,i+1,by omega,by go_num,hid (by have:=HP.out;omega),B⟩
          case measure=>have:=HP.out;simp[intOf];omega
       .obtain rfl:i=n:=by omega
        have M:¬(p:Int)<(j:Int)+1:=by have:=HP.out;omega
        have aA:Hid (Y.take i=Y):=hid (List.take_of_length_le (by rw[J.out.1];exact Nat.le_refl _));have aa:Hid (Y.length=i):=hid J.out.1;have p0:∀j,b.frozen? ⟨a,j,none⟩=false:=v0.frozen;obtain⟨q0,q1,q2⟩:=cells3 v0;obtain⟨x0,x1,x2⟩:=cells3 U;have aw:=hid v0;have ao:=hid vo;have ar:=hid vb;clear v0 vo vb U vs;go_wp2_with fail;have y:=((aw.out.set_ 0 (.bool neg)).set_ 1 (.slice A9 i c9)).set_ 2 (.int .i64 X);have e0:=y.cell 0;have e1:=y.cell 1;have e2:=y.cell 2;refine bodyPost_ret (v:=.agg #[.bool neg,.slice A9 i c9,.int .i64 X]) (by simp[results,results147,go_sem,e0,e1,e2]) rfl ?_;rw[HF.out];unfold zfr;rw[N.out];have ho:=ao.out;rw[aA.out]at ho;have ap:=((ho.setCell (p:=⟨a,0,none⟩) (fun e=>absurd (ho.lt _ e).1 (by simp)) (.bool neg)).setCell (p:=⟨a,1,none⟩) (fun e=>absurd (ho.lt _ e).1 (by simp)) (.slice A9 i c9)).setCell (p:=⟨a,2,none⟩) (fun e=>absurd (ho.lt _ e).1 (by simp)) (.int .i64 X);refine⟨_,rfl,⟨A9,c9,by rw[aa.out],?_⟩,((ar.out.setCell (p:=⟨a,0,none⟩) (by simp) _).setCell (p:=⟨a,1,none⟩) (by simp) _).setCell (p:=⟨a,2,none⟩) (by simp) _⟩;rw[aa.out];exact ap.lower (by omega)
  .have af:¬(k:Int)<(d.length:Int):=by omega
   obtain rfl:k=d.length:=by omega
   have HF:Hid (r=zeroD):=hid (by
    rw[<-HR.out];unfold norm;rw[if_pos (by rw[<-HV.out,List.drop_length];rfl)])
   have p0:∀j,w1.frozen? ⟨a,j,none⟩=false:=g.out.1.frozen;obtain⟨q0,q1,q2⟩:=cells3 g.out.1;go_wp2_with fail;go_loop [8,2] (fun s8 s2=>s8=.int .i64 (d.length:Int)/\s2=.int .i64 E) (fun _ _=>0)
   case atStart=>exact⟨rfl,rfl⟩
   case round=>
    obtain⟨rfl,rfl⟩:=hrel;go_wp2_with fail;have y:=((g.out.1.set_ 0 (.bool false)).set_ 1 (.slice none 0 0)).set_ 2 (.int .i64 0);have e0:=y.cell 0;have e1:=y.cell 1;have e2:=y.cell 2;refine bodyPost_ret (v:=.agg #[.bool false,.slice none 0 0,.int .i64 0]) (by simp[results,results147,go_sem,e0,e1,e2]) rfl ?_;rw[HF.out];exact⟨_,rfl,⟨none,0,rfl,OwnRow.nil⟩,by rw[N.out];exact((g.out.2.1.setCell (p:=⟨a,0,none⟩) (by simp) _).setCell (p:=⟨a,1,none⟩) (by simp) _).setCell (p:=⟨a,2,none⟩) (by simp) _⟩
end Go.Proofs.YtpjmhafmeieloaaGreatDoor
