import Derived.Test.YtpjmhafmeieloabGreatDoorZ06
import Derived.Test.YtpjmhafmeieloabGreatDoorGrInsR4T
namespace Go.Proofs.YtpjmhafmeieloabGreatDoor
open Gr
open _root_.Go.Proofs.Tryz
open _root_.Go.Lib (hid)
set_option maxRecDepth 100000
set_option maxHeartbeats 16000000
open Go.RowKit
def NumI (x:Gr.Dn) (v:Value) (B:Nat) (w:World):Prop:=∃A c,v=.agg #[.bool x.neg,.slice A x.d.length c,.int .i64 x.e]/\OwnRow intL w B 3 (.slice A x.d.length c) x.d
def zfd (x:Gr.Dn) (w:World) (e:Ending) (w':World):Prop:=∃v,e=.returned v/\NumI x v w.heap.size w'/\Below w.heap.size w w'
theorem zqe {d:List Nat} {k:Nat} (h:k<d.length):(d.drop k).dropWhile isZ=if d[k]=0 then(d.drop (k+1)).dropWhile isZ else d.drop k:=by
 rw[List.drop_eq_getElem_cons h];by_cases h0:d[k]=0
 .rw[if_pos h0,h0,zou]
 .rw[if_neg h0,zuk _ _ h0]
theorem zfw {d:List Nat} {k m:Nat} (hk:k<=m) (h:m<d.length):(d.take (m+1)).drop k=(d.take m).drop k++[d[m]]:=by
 rw[List.take_succ_eq_append_getElem h,List.drop_append_of_le_length (by simp;omega)]
theorem zbd {α:Type} {L:Lay α} {W w2:World} {g base:Nat} {t E:TypeId} {cs:Array Value} {v:Value} {l:List α} (hb:Blk W g t cs) (ho:OwnRow L W base E v l) (hg:W.grownBy w2 v.ownBlock) (h:g<base):Blk w2 g t cs:=
 hb.grown hg (fun e=>absurd (ho.lt g e.symm).1 (by omega))
theorem zqf (neg:Bool) (A:Option Addr) (c:Nat) (d:List Nat) (E:Int) (hl:d.length<=1073741823) (hE0:-1152921504606846976<=E) (hE1:E<=1152921504606846976) (hd:∀v∈d,v<10) (w:World) (h:RowAt intL w w.heap.size A d):
 Calls prog 149 #[.bool neg,.slice A d.length c,.int .i64 E] w (zfd (norm neg d E) w):=by
 obtain⟨r,hr⟩:=ex (norm neg d E)
 have HR:=hid hr;rw[hr];clear hr;have o:=hid h;have HD:=hid hd;clear h hd;go_enter func149,ntmps149;go_upto_region 1 with fail;obtain⟨w1,T⟩:=ex (w.alloc (.cells #[.bool false,.slice none 0 0,.int .i64 0] 134))
 obtain⟨a,B⟩:=ex w.heap.size
 have g:Hid (Blk w1 a 134 #[.bool false,.slice none 0 0,.int .i64 0]/\Below a w w1/\w1.heap.size=a+1):=hid (by rw[<-T,<-B];exact⟨Blk.new _ _ _,(Below.refl _ _).alloc (Nat.le_refl _) _,by simp⟩);have R:=hid B;rw[B]at o;(try rw[T]);(try rw[B]);clear T B;go_wp2_with fail;go_loop [7] (fun s7=>∃k:Nat,k<=d.length/\s7=.int .i64 k/\Hid ((d.drop k).dropWhile isZ=d.dropWhile isZ)) (fun s7=>d.length-(intOf s7).toNat)
 case atStart=>exact⟨0,by omega,rfl,hid rfl⟩
 case round=>
  obtain⟨k,hk,rfl,HV⟩:=hrel;by_cases hlt:k<d.length
  .have ab:(k:Int)<(d.length:Int):=by omega
   obtain⟨v,U⟩:=ex (d[k])
   obtain⟨ad,rfl,_,H⟩:=zae (o.out.below g.out.2.1) hlt;rw[U]at H;by_cases hz:v=0
   .subst hz;have F:Hid ((d.drop (k+1)).dropWhile isZ=d.dropWhile isZ):=hid (by rw[<-HV.out,zqe hlt,if_pos U]);clear U;rw[show((0:Nat):Int)=0 from rfl]at H;go_wp2;go_round
    case rel=>exact⟨k+1,by omega,by go_num,F⟩
    case measure=>simp[intOf];omega
   .have hv10:v<10:=by rw[<-U];exact HD.out _ (List.getElem_mem hlt)
    have HM:Hid (r=⟨neg,Gr.rz (d.drop k),E+(((d.drop k).length-(Gr.rz (d.drop k)).length:Nat):Int)⟩/\d[k]=v):=hid ⟨by
     have P:=HV.out;rw[zqe hlt,if_neg (by rw[U];exact hz)]at P;rw[<-HR.out];unfold norm;rw[<-P,if_neg (by intro e;have:=congrArg List.length e;simp at this;omega)],U⟩
    obtain⟨I,C⟩:∃I:Int,(v:Int)=I:=⟨_,rfl⟩
    have l:¬I=0:=by omega
    have z:(I==0)=false:=by simpa using l
    rw[C]at H;clear U C;go_wp2_with fail;clear H l z;go_loop [8,2] (fun s8 s2=>∃m:Nat,k<m/\m<=d.length/\s8=.int .i64 (m:Int)/\s2=.int .i64 (E+((d.length-m:Nat):Int))/\Hid (Gr.rz ((d.take m).drop k)=Gr.rz (d.drop k))) (fun s8 _=>(intOf s8).toNat)
    case atStart=>exact⟨d.length,by omega,Nat.le_refl _,rfl,by simp,hid (by rw[List.take_length])⟩
    case round=>
     obtain⟨m,hkm,hmd,rfl,rfl,Q⟩:=hrel;obtain⟨j,rfl⟩:∃j,m=j+1:=⟨m-1,by omega⟩
     have ah:j<d.length:=by omega
     have ai:(k:Int)<((j+1:Nat):Int):=by omega
     obtain⟨u,hu⟩:=ex (d[j])
     obtain⟨ad',G,_,H⟩:=zae (o.out.below g.out.2.1) ah;injection G with G
     subst G;rw[hu]at H;have HT:Hid ((d.take (j+1)).drop k=(d.take j).drop k++[u]):=hid (by rw[zfw (by omega) ah,hu]);have HU:=hid hu;have hj0I:(0:Int)<=(j:Int):=by omega
     have hjI:(j:Int)<=1073741823:=by omega
     clear hu;by_cases z:u=0
     .subst z;have ax:k<j:=by
       rcases Nat.lt_or_ge k j with h0|h0
       .exact h0
       .obtain rfl:j=k:=by omega
        exact absurd (HM.out.2.symm.trans HU.out) hz
      have F:Hid (Gr.rz ((d.take j).drop k)=Gr.rz (d.drop k)):=hid (by rw[<-Q.out,HT.out,zgw,if_pos rfl]);rw[show((0:Nat):Int)=0 from rfl]at H;go_wp2;go_round
      case rel=>exact⟨j,ax,by omega,by go_num,by go_num,F⟩
      case measure=>simp[intOf]
     .have HF:Hid (r=⟨neg,(d.take (j+1)).drop k,E+((d.length-(j+1):Nat):Int)⟩):=hid (by
       have P:=Q.out;rw[HT.out,zgw,if_neg z,<-HT.out]at P;rw[HM.out.1,<-P]
       congr 3
       simp only[List.length_drop,List.length_take];omega)
      obtain⟨I,C⟩:∃I:Int,(u:Int)=I:=⟨_,rfl⟩
      have l:¬I=0:=by omega
      have z:(I==0)=false:=by simpa using l
      rw[C]at H;clear C;have K:¬((k:Int)=((j+1:Nat):Int)):=by omega
      have am:((k:Int)==((j+1:Nat):Int))=false:=by rw[beq_eq_false_iff_ne];exact K
      have ac:((k:Int)==(j:Int)+1)=false:=by rw[beq_eq_false_iff_ne];omega
      obtain⟨X,hX⟩:∃X:Int,E+((d.length-(j+1):Nat):Int)=X:=⟨_,rfl⟩
      rw[hX]at HF ⊢;go_upto_region 10 with fail;obtain⟨w2,W⟩:=ex (w1.alloc (.cells #[.bool neg,.slice none 0 0,.int .i64 X] 134))
      have l:w1.heap.size=a+1:=g.out.2.2;have N:Hid (Blk w2 (a+1) 134 #[.bool neg,.slice none 0 0,.int .i64 X]/\Blk w2 a 134 #[.bool false,.slice none 0 0,.int .i64 0]/\Below a w w2/\a+2<=w2.heap.size):=hid (by
       rw[<-W,<-l];exact⟨Blk.new _ _ _,g.out.1.alloc _,g.out.2.1.alloc (by omega) _,by simp;omega⟩)
      (try rw[l]);(try rw[W]);clear W l H z K am ac;obtain⟨n,hn⟩:=ex (j+1-k)
      obtain⟨Y,hY⟩:=ex ((d.take (j+1)).drop k)
      have J:Hid (Y.length=n/\∀i (h:i<n),∃h2:k+i<d.length,∃h3:i<Y.length,Y[i]=d[k+i]):=hid (by
       have P:Y.length=n:=by rw[<-hY,<-hn];simp;omega
       refine⟨P,fun i hi=>⟨by omega,by omega,?_⟩⟩;simp only[<-hY,List.getElem_drop,List.getElem_take])
      rw[hY]at HF;have hkn:k+n=j+1:=by omega
      have ap:((j:Int)+1)=((k+n:Nat):Int):=by omega
      clear hY;go_wp2_with fail;clear ap ai;go_loopw [10] (fun s10 wr=>∃p i:Nat,i<=n/\s10=.int .i64 (p:Int)/\Hid (p=k+i)/\Hid (∃A9 c9,Blk wr (a+1) 134 #[.bool neg,.slice A9 i c9,.int .i64 X]/\OwnRow intL wr (a+2) 3 (.slice A9 i c9) (Y.take i)/\Blk wr a 134 #[.bool false,.slice none 0 0,.int .i64 0]/\Below a w wr/\a+2<=wr.heap.size)) (fun s10 _=>k+n-(intOf s10).toNat)
      case atStart=>exact⟨k,0,by omega,rfl,hid rfl,hid ⟨none,0,N.out.1,OwnRow.nil,N.out.2⟩⟩
      case round=>
       obtain⟨p,i,hi,rfl,HP,HW⟩:=hrel;obtain⟨f,au⟩:∃f,f=wr:=⟨_,rfl⟩
       subst au;obtain⟨A9,c9,O,vo,v0,vb,vs⟩:=HW.out;by_cases hlt3:i<n
       .have S:(p:Int)<(j:Int)+1:=by have:=HP.out;omega
        obtain⟨aq,ao,af⟩:=J.out.2 i hlt3;obtain⟨ad2,y,_,y1⟩:=zae (o.out.below vb) aq;injection y with y
        subst y;obtain⟨x,hx⟩:=ex (d[k+i])
        rw[hx,<-HP.out]at y1;have hpd:(p:Int)<(d.length:Int):=by have:=HP.out;omega
        have hp1:(p:Int)<=1073741823:=by omega
        have ar:Hid (Y.take (i+1)=Y.take i++[x]):=hid (by rw[List.take_succ_eq_append_getElem ao,af,hx]);have ae:Hid ((Y.take i).length=i):=hid (by rw[List.length_take];omega);have q1:f.cell? ⟨a+1,1,none⟩=some (.slice A9 i c9):=O.cell 1;have qf:∀j,f.frozen? ⟨a+1,j,none⟩=false:=O.frozen;have D:OwnRow intL (f.alloc (.cells #[.int .i64 (x:Int)] 3)).drew (a+2) 3 (.slice A9 i c9) (Y.take i):=vo.alloc _;have L:RowAt intL (f.alloc (.cells #[.int .i64 (x:Int)] 3)).drew (f.heap.size+1) (some ⟨f.heap.size,0,none⟩) [x]:=RowAt.lit1 x _ rfl _ rfl;have ay:(Y.take i).length+[x].length<=1073741824:=by rw[ae.out];simp;omega
        have ak:a+2<=(f.alloc (.cells #[.int .i64 (x:Int)] 3)).drew.heap.size:=by simp;omega
        have b:Hid (Blk (f.alloc (.cells #[.int .i64 (x:Int)] 3)).drew (a+1) 134 #[.bool neg,.slice A9 i c9,.int .i64 X]/\Blk (f.alloc (.cells #[.int .i64 (x:Int)] 3)).drew a 134 #[.bool false,.slice none 0 0,.int .i64 0]/\Below a w (f.alloc (.cells #[.int .i64 (x:Int)] 3)).drew/\OwnRow intL (f.alloc (.cells #[.int .i64 (x:Int)] 3)).drew (a+2) 3 (.slice A9 i c9) (Y.take i)/\a+2<=(f.alloc (.cells #[.int .i64 (x:Int)] 3)).drew.heap.size):=hid ⟨O.alloc _,v0.alloc _,below_drewN (vb.alloc (by omega) _) 1,D,ak⟩;have e1:=World.new_ne f _ q1;have e2:=World.new_ne f _ y1;have pcA:(f.alloc (.cells #[.int .i64 (x:Int)] 3)).cell? ⟨a+1,1,none⟩=some (.slice A9 i c9):=(O.alloc _).cell 1;have pyA:(f.alloc (.cells #[.int .i64 (x:Int)] 3)).cell? (ad.add p)=some (.int .i64 (x:Int)):=(World.cell?_alloc_lt f _ _ (World.block_lt_of_cell? f _ y1)).trans y1;clear af hx O vo v0 vb J HV Q HM HT HU HF HR HD g N o R;go_upto_region 13 with fail
        focus
         go_region_law (refine zai _ rfl (.tmp 54) (.tmp 59) 38 3 8 rfl intT (a+2) (.slice A9 i c9) (Y.take i) rfl D _ _ 1 [x] rfl L ay ak ?_;intro v' V t Z aj;obtain⟨A8,c8,ag,_⟩:=t.form;obtain⟨q,hq⟩:=ex ((Y.take i++[x]).length);rw[hq]at ag;subst ag;have k1:=zbd b.out.1 b.out.2.2.2.1 Z (Nat.lt_succ_self _);have M:=hid Z;have al:=hid t;have HQ:=hid hq;have qf3:∀j,V.frozen? ⟨a+1,j,none⟩=false:=k1.frozen;have q13:V.cell? ⟨a+1,1,none⟩=some (.slice A9 i c9):=k1.cell 1;have az:=hid k1;clear Z t hq k1 aj)
         all_goals go_wp2_with fail
         all_goals
          have an:q=i+1:=by rw[<-HQ.out,List.length_append,ae.out];rfl
          have F:Hid (∃A9 c9,Blk (V.setCell ⟨a+1,1,none⟩ (.slice A8 q c8)) (a+1) 134 #[.bool neg,.slice A9 (i+1) c9,.int .i64 X]/\OwnRow intL (V.setCell ⟨a+1,1,none⟩ (.slice A8 q c8)) (a+2) 3 (.slice A9 (i+1) c9) (Y.take (i+1))/\Blk (V.setCell ⟨a+1,1,none⟩ (.slice A8 q c8)) a 134 #[.bool false,.slice none 0 0,.int .i64 0]/\Below a w (V.setCell ⟨a+1,1,none⟩ (.slice A8 q c8))/\a+2<=(V.setCell ⟨a+1,1,none⟩ (.slice A8 q c8)).heap.size):=hid (by
           subst an;have k0:=zbd b.out.2.1 b.out.2.2.2.1 M.out (by omega);have kb:=b.out.2.2.1.trans ((b.out.2.2.2.1.grown_below M.out b.out.2.2.2.2).mono (by omega));have ks:=(b.out.2.2.2.1.grown_below M.out b.out.2.2.2.2).size;refine⟨A8,c8,az.out.set_ 1 _,by rw[ar.out];exact al.out.setCell (fun e=>absurd (al.out.lt _ e).1 (by simp)) _,k0.far (by simp) _,kb.setCell (by simp) _,?_⟩;have:=b.out.2.2.2.2;simp[World.setCell];omega)
          go_roundw
          case rel=>exact⟨p+1,i+1,by omega,by go_num,hid (by have:=HP.out;omega),F⟩
          case measure=>have:=HP.out;simp[intOf];omega
       .obtain rfl:i=n:=by omega
        have S:¬(p:Int)<(j:Int)+1:=by have:=HP.out;omega
        have aB:Hid (Y.take i=Y):=hid (List.take_of_length_le (by rw[J.out.1];exact Nat.le_refl _));have aa:Hid (Y.length=i):=hid J.out.1;have p0:∀j,f.frozen? ⟨a,j,none⟩=false:=v0.frozen;obtain⟨q0,q1,q2⟩:=cells3 v0;obtain⟨x0,x1,x2⟩:=cells3 O;have aw:=hid v0;have aA:=hid vo;have aC:=hid vb;clear v0 vo vb O vs;go_wp2_with fail;have s:=((aw.out.set_ 0 (.bool neg)).set_ 1 (.slice A9 i c9)).set_ 2 (.int .i64 X);have e0:=s.cell 0;have e1:=s.cell 1;have e2:=s.cell 2;refine bodyPost_ret (v:=.agg #[.bool neg,.slice A9 i c9,.int .i64 X]) (by simp[results,results149,go_sem,e0,e1,e2]) rfl ?_;rw[HF.out];unfold zfd;rw[R.out];have ho:=aA.out;rw[aB.out]at ho;have av:=((ho.setCell (p:=⟨a,0,none⟩) (fun e=>absurd (ho.lt _ e).1 (by simp)) (.bool neg)).setCell (p:=⟨a,1,none⟩) (fun e=>absurd (ho.lt _ e).1 (by simp)) (.slice A9 i c9)).setCell (p:=⟨a,2,none⟩) (fun e=>absurd (ho.lt _ e).1 (by simp)) (.int .i64 X);refine⟨_,rfl,⟨A9,c9,by rw[aa.out],?_⟩,((aC.out.setCell (p:=⟨a,0,none⟩) (by simp) _).setCell (p:=⟨a,1,none⟩) (by simp) _).setCell (p:=⟨a,2,none⟩) (by simp) _⟩;rw[aa.out];exact av.lower (by omega)
  .have ab:¬(k:Int)<(d.length:Int):=by omega
   obtain rfl:k=d.length:=by omega
   have HF:Hid (r=zeroD):=hid (by
    rw[<-HR.out];unfold norm;rw[if_pos (by rw[<-HV.out,List.drop_length];rfl)])
   have p0:∀j,w1.frozen? ⟨a,j,none⟩=false:=g.out.1.frozen;obtain⟨q0,q1,q2⟩:=cells3 g.out.1;go_wp2_with fail;go_loop [8,2] (fun s8 s2=>s8=.int .i64 (d.length:Int)/\s2=.int .i64 E) (fun _ _=>0)
   case atStart=>exact⟨rfl,rfl⟩
   case round=>
    obtain⟨rfl,rfl⟩:=hrel;go_wp2_with fail;have s:=((g.out.1.set_ 0 (.bool false)).set_ 1 (.slice none 0 0)).set_ 2 (.int .i64 0);have e0:=s.cell 0;have e1:=s.cell 1;have e2:=s.cell 2;refine bodyPost_ret (v:=.agg #[.bool false,.slice none 0 0,.int .i64 0]) (by simp[results,results149,go_sem,e0,e1,e2]) rfl ?_;rw[HF.out];exact⟨_,rfl,⟨none,0,rfl,OwnRow.nil⟩,by rw[R.out];exact((g.out.2.1.setCell (p:=⟨a,0,none⟩) (by simp) _).setCell (p:=⟨a,1,none⟩) (by simp) _).setCell (p:=⟨a,2,none⟩) (by simp) _⟩
def OfPost (Z nanos:Int) (w:World) (e:Ending) (w':World):Prop:=∃y m d:Int,Cal.vld y m d=true/\Cal.num y m d=Z /86400-719528/\e=.returned (.agg #[.bool true,.bool true,.bool true,.int .i64 y,.int .i64 m,.int .i64 d,.int .i64 (Z%86400 /3600),.int .i64 (Z%86400 /60%60),.int .i64 (Z%86400%60),.int .i64 nanos,.int .i64 0,.bool false])/\Below w.heap.size w w'
theorem zwf (S Z nanos:Int) (hz:S- -62167219200=Z) (h0:0<=Z) (h1:Z<=315569519999) (w:World):
 Calls prog 180 #[.int .i64 S,.int .i64 nanos] w (OfPost Z nanos w):=by
 have hS0:-62167219200<=S:=by omega
 have hS1:S<=253402300799:=by omega
 obtain⟨N,X⟩:=ex (Z /86400)
 obtain⟨R,hR⟩:=ex (Z%86400)
 have af:0<=N:=by omega
 have hN1:N<=3652424:=by omega
 have hR0:0<=R:=by omega
 have hR1:R<=86399:=by omega
 have M:Hid (Z /86400=N/\Z%86400=R):=hid ⟨X,hR⟩;have HD:Hid (∀y:Int,0<=y->y<=10000->∀W,Calls prog 198 #[.int .i64 y,.int .i64 1,.int .i64 1] W fun e h=>e=.returned (.int .i64 (Cal.fst y-719528))/\W=h):=hid (fun y a b W=>by
  have:=zib y 1 1 a (by omega) (by omega) (by omega) (by omega) (by omega) W;rwa[show Cal.num y 1 1=Cal.fst y-719528 from by unfold Cal.num;rw[Cal.zyr];omega]at this)
 go_enter func180,ntmps180;go_upto_region 5 with fail;obtain⟨c,r⟩:=ex w.heap.size
 obtain⟨E,A⟩:∃E,E=(w.alloc (.cells #[.bool false,.bool false,.bool false,.int .i64 0,.int .i64 0,.int .i64 0,.int .i64 0,.int .i64 0,.int .i64 0,.int .i64 0,.int .i64 0,.bool false] 165)).alloc (.cells #[.bool true,.bool true,.bool true,.int .i64 0,.int .i64 0,.int .i64 0,.int .i64 (R /3600),.int .i64 (R /60%60),.int .i64 (R%60),.int .i64 nanos,.int .i64 0,.bool false] 165):=⟨_,rfl⟩
 have l:Hid (Blk E (c+1) 165 (T12 true true true 0 0 0 (R /3600) (R /60%60) (R%60) nanos 0 false)/\Blk E c 165 (T12 false false false 0 0 0 0 0 0 0 0 false)/\Below c w E):=hid (by
  rw[A,<-r];refine⟨?_,(Blk.new _ _ _).alloc _,zbv _ _⟩;have:=Blk.new (w.alloc (.cells #[.bool false,.bool false,.bool false,.int .i64 0,.int .i64 0,.int .i64 0,.int .i64 0,.int .i64 0,.int .i64 0,.int .i64 0,.int .i64 0,.bool false] 165)) 165 (T12 true true true 0 0 0 (R /3600) (R /60%60) (R%60) nanos 0 false);rwa[World.size_alloc]at this)
 have al:=hid r;(try rw[<-A]);(try rw[r]);rw[X,hR];clear A r X hR hz h0 h1;have F:E.cell? ⟨c+1,3,none⟩=some (.int .i64 0):=l.out.1.cell 3;have L:∀j,E.frozen? ⟨c+1,j,none⟩=false:=l.out.1.frozen;have ao:=hid (Cal.zxt N af);go_wp2_with fail;clear F L;go_loopw [35] (fun _ wr=>∃y:Int,0<=y/\y<=9999/\Hid (Cal.fst y<=N/\Blk wr (c+1) 165 (T12 true true true y 0 0 (R /3600) (R /60%60) (R%60) nanos 0 false)/\Blk wr c 165 (T12 false false false 0 0 0 0 0 0 0 0 false)/\Below c w wr)) (fun _ wr=>match wr.cell? ⟨c+1,3,none⟩with|some (.int _ n)=>10000-n.toNat|_=>0)
 case atStart=>exact⟨N /366,by omega,by omega,hid ⟨ao.out,l.out.1.set_ 3 _,l.out.2.1.far (Nat.succ_ne_self c).symm _,l.out.2.2.setCell (p:=⟨c+1,3,none⟩) (by simp) _⟩⟩
 case round=>
  obtain⟨t,Y⟩:∃t,t=wr:=⟨_,rfl⟩
  subst Y;obtain⟨y,K,V,o⟩:=hrel;have G:=Cal.zkt y K;have hl:=Cal.zxr y;have bd:=Cal.zxs y (by omega) (by omega);have ab:=Cal.zxs (y+1) (by omega) (by omega);have H:Hid (Cal.fst (y+1)=Cal.fst y+365+Cal.lp y/\0<=Cal.lp y/\Cal.lp y<=1):=hid ⟨G,hl⟩;obtain⟨P,s⟩:=ex (Cal.fst (y+1))
  obtain⟨x,u⟩:=ex (Cal.fst y)
  have f:Hid (Cal.fst (y+1)=P/\Cal.fst y=x):=hid ⟨s,u⟩;have I:Hid (∀W,Calls prog 198 #[.int .i64 (y+1),.int .i64 1,.int .i64 1] W fun e h=>e=.returned (.int .i64 (P-719528))/\W=h):=hid (fun W=>by rw[<-s];exact HD.out (y+1) (by omega) (by omega) W);have ag:Hid (∀W,Calls prog 198 #[.int .i64 y,.int .i64 1,.int .i64 1] W fun e h=>e=.returned (.int .i64 (x-719528))/\W=h):=hid (fun W=>by rw[<-u];exact HD.out y (by omega) (by omega) W);rw[s]at ab;rw[u]at bd;clear G hl s u;have F:t.cell? ⟨c+1,3,none⟩=some (.int .i64 y):=o.out.2.1.cell 3;have U:t.cell? ⟨c+1,4,none⟩=some (.int .i64 0):=o.out.2.1.cell 4;have L:∀j,t.frozen? ⟨c+1,j,none⟩=false:=o.out.2.1.frozen;have hNf:x<=N:=by have:=o.out.1;rw[f.out.2]at this;exact this
  by_cases hc:P<=N
  .have aj:P-719528<=N-719528:=by omega
   have hy4:y<9999:=by
    have:=Cal.zoy;by_cases e:y=9999
    .subst e;have h2:=f.out.1;rw[show(9999:Int)+1=10000 from rfl]at h2;omega
    .omega
   have k:Hid (Cal.fst (y+1)<=N/\Blk (t.setCell ⟨c+1,3,none⟩ (.int .i64 (y+1))) (c+1) 165 (T12 true true true (y+1) 0 0 (R /3600) (R /60%60) (R%60) nanos 0 false)/\Blk (t.setCell ⟨c+1,3,none⟩ (.int .i64 (y+1))) c 165 (T12 false false false 0 0 0 0 0 0 0 0 false)/\Below c w (t.setCell ⟨c+1,3,none⟩ (.int .i64 (y+1)))):=hid ⟨by rw[f.out.1];exact hc,o.out.2.1.set_ 3 _,o.out.2.2.1.far (Nat.succ_ne_self c).symm _,o.out.2.2.2.setCell (p:=⟨c+1,3,none⟩) (by simp) _⟩;go_wp2_with fail;refine(I.out _).mono ?_;rintro e h ⟨rfl,rfl⟩;go_wp2_with fail;have aa:(t.setCell ⟨c+1,3,none⟩ (.int .i64 (y+1))).cell? ⟨c+1,3,none⟩=some (.int .i64 (y+1)):=k.out.2.1.cell 3;go_roundw
   case rel=>exact⟨y+1,by omega,by omega,k⟩
   case measure=>rw[aa,F];simp only;omega
  .have aj:¬P-719528<=N-719528:=by omega
   have hN2:N<x+366:=by have h1:=H.out;rw[f.out.1,f.out.2]at h1;omega
   have ai:Hid (N<x+365+Cal.lp y):=hid (by have h1:=H.out;rw[f.out.1,f.out.2]at h1;omega);go_wp2_with fail;refine(I.out _).mono ?_;rintro e h ⟨rfl,rfl⟩;go_wp2_with fail;refine(ag.out _).mono ?_;rintro e h ⟨rfl,rfl⟩;go_wp2_with fail;clear F U L;go_loopw [6] (fun s6 wr=>∃m v:Int,1<=m/\m<=12/\0<=v/\v<=366/\s6=.int .i64 v/\Hid (v=N-x-Cal.cum y m/\Blk wr (c+1) 165 (T12 true true true y m 0 (R /3600) (R /60%60) (R%60) nanos 0 false)/\Blk wr c 165 (T12 false false false 0 0 0 0 0 0 0 0 false)/\Below c w wr)) (fun s6 wr=>match wr.cell? ⟨c+1,4,none⟩with|some (.int _ n)=>13-n.toNat|_=>0)
   case atStart=>exact⟨1,N-x,by omega,by omega,by omega,by omega,by exact congrArg (Value.int .i64) (by omega),hid ⟨by rw[Cal.zyr];omega,o.out.2.1.set_ 4 _,o.out.2.2.1.far (Nat.succ_ne_self c).symm _,o.out.2.2.2.setCell (p:=⟨c+1,4,none⟩) (by simp) _⟩⟩
   case round=>
    obtain⟨g,ad⟩:∃g,g=wr:=⟨_,rfl⟩
    subst ad;obtain⟨m,v,B,C,hv0,hv1,rfl,d⟩:=hrel;have z:=Cal.zgz y m B C;have ah:=Cal.zxu y m;obtain⟨q,Q⟩:=ex (Cal.dim y m)
    have D:Hid (∀W,Calls prog 185 #[.int .i64 y,.int .i64 m] W fun e h=>e=.returned (.int .i64 q)/\W=h):=hid (fun W=>by rw[<-Q];exact zdz y m B C W);rw[Q]at z ah;have O:=hid z;have HQ:=hid Q;clear z Q;have F:g.cell? ⟨c+1,3,none⟩=some (.int .i64 y):=d.out.2.1.cell 3;have U:g.cell? ⟨c+1,4,none⟩=some (.int .i64 m):=d.out.2.1.cell 4;have L:∀j,g.frozen? ⟨c+1,j,none⟩=false:=d.out.2.1.frozen;by_cases hd:q<=v
    .have hm4:m<12:=by
      by_cases e:m=12
      .subst e;have h1:=O.out;have h2:=ai.out;have h3:=Cal.zxx y;have h4:=d.out.1;rw[show(12:Int)+1=13 from rfl]at h1;omega
      .omega
     have k:Hid (v-q=N-x-Cal.cum y (m+1)/\Blk (g.setCell ⟨c+1,4,none⟩ (.int .i64 (m+1))) (c+1) 165 (T12 true true true y (m+1) 0 (R /3600) (R /60%60) (R%60) nanos 0 false)/\Blk (g.setCell ⟨c+1,4,none⟩ (.int .i64 (m+1))) c 165 (T12 false false false 0 0 0 0 0 0 0 0 false)/\Below c w (g.setCell ⟨c+1,4,none⟩ (.int .i64 (m+1)))):=hid ⟨by rw[O.out];have:=d.out.1;omega,d.out.2.1.set_ 4 _,d.out.2.2.1.far (Nat.succ_ne_self c).symm _,d.out.2.2.2.setCell (p:=⟨c+1,4,none⟩) (by simp) _⟩;go_wp2_with fail;refine(D.out _).mono ?_;rintro e h ⟨rfl,rfl⟩;go_wp2_with fail;refine(D.out _).mono ?_;rintro e h ⟨rfl,rfl⟩;go_wp2_with fail;have am:(g.setCell ⟨c+1,4,none⟩ (.int .i64 (m+1))).cell? ⟨c+1,4,none⟩=some (.int .i64 (m+1)):=k.out.2.1.cell 4;go_roundw
     case rel=>exact⟨m+1,v-q,by omega,by omega,by omega,by omega,rfl,k⟩
     case measure=>rw[am,U];simp only;omega
    .have i:Hid (Blk (g.setCell ⟨c+1,5,none⟩ (.int .i64 (v+1))) (c+1) 165 (T12 true true true y m (v+1) (R /3600) (R /60%60) (R%60) nanos 0 false)/\Blk (g.setCell ⟨c+1,5,none⟩ (.int .i64 (v+1))) c 165 (T12 false false false 0 0 0 0 0 0 0 0 false)/\Below c w (g.setCell ⟨c+1,5,none⟩ (.int .i64 (v+1)))):=hid ⟨d.out.2.1.set_ 5 _,d.out.2.2.1.far (Nat.succ_ne_self c).symm _,d.out.2.2.2.setCell (p:=⟨c+1,5,none⟩) (by simp) _⟩;have q5:g.cell? ⟨c+1,5,none⟩=some (.int .i64 0):=d.out.2.1.cell 5;go_wp2_with fail;refine(D.out _).mono ?_;rintro e h ⟨rfl,rfl⟩;go_upto_region 14 with fail;obtain⟨T,J⟩:=ex (g.setCell ⟨c+1,5,none⟩ (.int .i64 (v+1)))
     rw[J]at i ⊢;clear J F U q5 L;obtain⟨a0,a1,a2,a3,a4,a5,a6,a7,a8,a9,a10,a11⟩:=zag i.out.1;have xb:∀j,T.cell? ⟨c,j,none⟩=(#[.bool false,.bool false,.bool false,.int .i64 0,.int .i64 0,.int .i64 0,.int .i64 0,.int .i64 0,.int .i64 0,.int .i64 0,.int .i64 0,.bool false]:Array Value)[j]? :=fun j=>i.out.2.1.cell j
     have xf:∀j,T.frozen? ⟨c,j,none⟩=false:=i.out.2.1.frozen;go_wp2_with fail;have an:Blk ((((((((((((T.setCell ⟨c,0,none⟩ (.bool true)).setCell ⟨c,1,none⟩ (.bool true)).setCell ⟨c,2,none⟩ (.bool true)).setCell ⟨c,3,none⟩ (.int .i64 y)).setCell ⟨c,4,none⟩ (.int .i64 m)).setCell ⟨c,5,none⟩ (.int .i64 (v+1))).setCell ⟨c,6,none⟩ (.int .i64 (R /3600))).setCell ⟨c,7,none⟩ (.int .i64 (R /60%60))).setCell ⟨c,8,none⟩ (.int .i64 (R%60))).setCell ⟨c,9,none⟩ (.int .i64 nanos)).setCell ⟨c,10,none⟩ (.int .i64 0)).setCell ⟨c,11,none⟩ (.bool false)) c 165 (T12 true true true y m (v+1) (R /3600) (R /60%60) (R%60) nanos 0 false):=za9 i.out.2.1;have ac:Below c w ((((((((((((T.setCell ⟨c,0,none⟩ (.bool true)).setCell ⟨c,1,none⟩ (.bool true)).setCell ⟨c,2,none⟩ (.bool true)).setCell ⟨c,3,none⟩ (.int .i64 y)).setCell ⟨c,4,none⟩ (.int .i64 m)).setCell ⟨c,5,none⟩ (.int .i64 (v+1))).setCell ⟨c,6,none⟩ (.int .i64 (R /3600))).setCell ⟨c,7,none⟩ (.int .i64 (R /60%60))).setCell ⟨c,8,none⟩ (.int .i64 (R%60))).setCell ⟨c,9,none⟩ (.int .i64 nanos)).setCell ⟨c,10,none⟩ (.int .i64 0)).setCell ⟨c,11,none⟩ (.bool false)):=zca i.out.2.2 (Nat.le_refl c);obtain⟨e0,e1,e2,e3,e4,e5,e6,e7,e8,e9,ak,ae⟩:=zag an;refine bodyPost_ret (v:=.agg #[.bool true,.bool true,.bool true,.int .i64 y,.int .i64 m,.int .i64 (v+1),.int .i64 (R /3600),.int .i64 (R /60%60),.int .i64 (R%60),.int .i64 nanos,.int .i64 0,.bool false]) (by simp[results,results180,go_sem,e0,e1,e2,e3,e4,e5,e6,e7,e8,e9,ak,ae]) rfl ?_;unfold OfPost;rw[M.out.1,M.out.2,al.out];exact⟨y,m,v+1,Cal.zy8 ⟨K,V,B,C,by omega,by rw[HQ.out];omega⟩,by unfold Cal.num;rw[f.out.2];have:=d.out.1;omega,rfl,ac⟩
end Go.Proofs.YtpjmhafmeieloabGreatDoor
