import Derived.Test.YtpjmhafmeieloabGreatDoorZ01
import Derived.Laws.CopyOwn
namespace Go.Proofs.YtpjmhafmeieloabGreatDoor
open Gr
open _root_.Go.Proofs.Tryz
open _root_.Go.Lib (hid)
set_option maxRecDepth 100000
set_option maxHeartbeats 16000000
open Go.RowKit
def CutSl (A:Option Addr) (c:Nat) (w:World) (e:Ending) (w':World):Prop:=∃n,e=.returned (.slice A n c)/\w'=w
theorem zsf (A:Option Addr) (c:Nat) (l:List UInt8) (hl:l.length<=1073741823) (hc:l.length<=c) (w:World) (B:Nat) (h:RowAt byteL w B A l):
 Calls prog 65 #[.slice A l.length c] w (CutSl A c w):=by
 go_enter func65,ntmps65;go_wp2_with fail;go_loop [0] (fun s0=>∃k:Nat,k<=l.length/\s0=.slice A k c) (fun s0=>match s0 with| .slice _ n _=>n|_=>0)
 case atStart=>exact⟨_,Nat.le_refl _,rfl⟩
 case round=>
  obtain⟨k,hk,rfl⟩:=hrel;by_cases h0:0<k
  .obtain⟨j,rfl⟩:∃j,k=j+1:=⟨k-1,by omega⟩
   have hcut:=fun W=>zhq A (j+1) c j (by omega) W
   obtain⟨ad,rfl,_,e⟩:=zxd h (show j<l.length by omega);obtain⟨b,a⟩:∃b:Nat,(l[j]'(by omega)).toNat=b:=⟨_,rfl⟩
   rw[a]at e;have hbl:b<256:=by rw[<-a];exact(l[j]'(by omega)).toNat_lt
   clear a;by_cases hz:b=0
   .subst hz;go_wp2;go_round
    case rel=>exact⟨j,by omega,rfl⟩
    case measure=>simp
   .have d:¬((b:Int)=0):=by omega
    have hz2:((b:Int)==0)=false:=by simpa using d
    go_wp2;go_ret;exact⟨_,rfl,rfl⟩
  .obtain rfl:k=0:=by omega
   go_wp2;go_ret;exact⟨_,rfl,rfl⟩
def zvp (ok:Bool) (w:World) (e:Ending) (w':World):Prop:=∃b A n c,e=.returned (.tuple #[.agg #[.bool b,.slice A n c],.bool ok])/\Below w.heap.size w w'
theorem zjj (n:Gr.Str) (hl:n.length<=1073741823) (w:World):
 Calls prog 51 #[.string ⟨n.toArray⟩] w (zvp (intB n) w):=by
 obtain⟨s,hs⟩:=ex (intS n)
 have ai:Hid (intB n=if s.length=0\/s.length>400\/(s.head?=some 48/\n.length>1)then false else s.all Gr.dig):=hid (by unfold intB;rw[hs]);have az:s.length<=n.length:=by rw[<-hs];unfold intS;split<;>simp
 have hsl:s.length<=1073741823:=by omega
 have R:=hid hs;obtain⟨u,ao⟩:∃u,decide (n.length>1/\n.head?=some 45)=u:=⟨_,rfl⟩
 have B:=hid ao;clear hs az ao;go_enter func51,ntmps51;go_upto_region 3 with fail;obtain⟨H,F⟩:=ex ((w.alloc (.cells #[.bool false,.slice none 0 0] 83)).alloc (.cells #[.bool false,.slice none 0 0] 83))
 obtain⟨a,M⟩:=ex w.heap.size
 have N:=hid M;have q:Hid (Blk H (a+1) 83 #[.bool false,.slice none 0 0]/\Blk H a 83 #[.bool false,.slice none 0 0]/\Below a w H/\H.heap.size=a+1+1):=hid (by
  rw[<-F,<-M];have b1:=Blk.new (w.alloc (.cells #[.bool false,.slice none 0 0] 83)) 83 #[.bool false,.slice none 0 0];rw[World.size_alloc]at b1;exact⟨b1,(Blk.new _ _ _).alloc _,((Below.refl _ _).alloc (Nat.le_refl _) _).alloc (by simp) _,by simp⟩)
 (try rw[F]);(try rw[M]);clear F M;go_cut [16] (fun s16 Q=>s16=.bool u/\Q=H)
 case first=>
  by_cases h1:1<n.length
  .have ak:(1:Int)<(n.length:Int):=by omega
   have h0:0<n.length:=by omega
   obtain⟨c0,t⟩:=ex (n[0]'(by omega))
   have f:n.head?=some c0:=by rw[List.head?_eq_getElem?,List.getElem?_eq_getElem (by omega),t]
   by_cases h2:c0=45
   .have aa:=zax n 0 (by omega) c0 45 45 (by decide) t h2;have ae:=zaq n 0 (by omega) c0 45 45 (by decide) t h2;have z:Hid (u=true):=hid (by rw[<-B.out,f,h2];exact decide_eq_true ⟨h1,rfl⟩);clear f t h2;go_wp2;go_meet;exact⟨by rw[z.out],rfl⟩
   .have aa:=zan n 0 (by omega) c0 45 45 (by decide) t h2;have ae:=zar n 0 (by omega) c0 45 45 (by decide) t h2;have z:Hid (u=false):=hid (by rw[<-B.out,f];exact decide_eq_false (fun h=>h2 (Option.some.inj h.2)));clear f t h2;go_wp2;go_meet;exact⟨by rw[z.out],rfl⟩
  .have ak:¬(1:Int)<(n.length:Int):=by omega
   have z:Hid (u=false):=hid (by rw[<-B.out];exact decide_eq_false (fun h=>h1 h.1));go_wp2;go_meet;exact⟨by rw[z.out],rfl⟩
 case rest=>
 obtain⟨rfl,rfl⟩:=hcut;obtain⟨H,F⟩:∃H,H=wc:=⟨_,rfl⟩
 subst F;go_upto_if 16 with fail;go_cut [5] (fun s5 Q=>s5=.string ⟨s.toArray⟩/\Hid (Blk Q (a+1) 83 #[.bool u,.slice none 0 0]/\Blk Q a 83 #[.bool false,.slice none 0 0]/\Below a w Q/\Q.heap.size=a+1+1))
 case first=>
  have q2:H.cell? ⟨a+1,0,none⟩=some (.bool false):=q.out.1.cell 0;have p1:∀j,H.frozen? ⟨a+1,j,none⟩=false:=q.out.1.frozen;cases u with
  |true=>
   have h1:n.length>1/\n.head?=some 45:=of_decide_eq_true B.out;have ag:Hid ((⟨n.toArray⟩:ByteArray).extract 1 n.length=⟨s.toArray⟩):=hid (by
    rw[zat,List.take_of_length_le (by simp),<-R.out];unfold intS;rw[if_pos h1,List.drop_one])
   have ak:(1:Int)<=(n.length:Int):=by omega
   have h1N:1<=n.length:=by omega
   clear h1;go_wp2;go_meet;exact⟨by rw[ag.out],hid ⟨q.out.1.set_ 0 _,q.out.2.1.far (by simp) _,q.out.2.2.1.setCell (by simp) _,by simp[World.setCell];exact q.out.2.2.2⟩⟩
  |false=>
   have ag:Hid (n=s):=hid (by
    rw[<-R.out];unfold intS;rw[if_neg (of_decide_eq_false B.out)])
   go_wp2;go_meet;exact⟨by rw[ag.out],q⟩
 case rest=>
 obtain⟨rfl,C⟩:=hcut;obtain⟨c,ad⟩:∃c,c=wc:=⟨_,rfl⟩
 subst ad;have g:Hid (Blk c (a+1) 83 #[.bool u,.slice none 0 0]/\Blk c a 83 #[.bool false,.slice none 0 0]/\Below a w c):=hid ⟨C.out.1,C.out.2.1,C.out.2.2.1⟩;have aq:=hid C.out.2.2.2;clear q C R B;obtain⟨o,O⟩:∃o,decide (s.length=0\/s.length>400\/(s.head?=some 48/\n.length>1))=o:=⟨_,rfl⟩
 have A:=hid O;clear O;go_upto_region 6 with fail;go_cut [37] (fun s37 Q=>s37=.bool o/\Q=c)
 case first=>
  by_cases hz:s.length=0
  .have z:Hid (o=true):=hid (by rw[<-A.out];exact decide_eq_true (.inl hz));have ab:(s.length:Int)=0:=by omega
   obtain rfl:=List.eq_nil_of_length_eq_zero hz;clear hz ab;go_wp2;go_meet;exact⟨by rw[z.out],rfl⟩
  .have hz0:0<s.length:=by omega
   have ab:¬((s.length:Int)=0):=by omega
   have hzb2:((s.length:Int)==0)=false:=by rw[beq_eq_false_iff_ne];exact ab
   by_cases h4:s.length>400
   .have z:Hid (o=true):=hid (by rw[<-A.out];exact decide_eq_true (.inr (.inl h4)));have ar:(400:Int)<(s.length:Int):=by omega
    go_wp2;go_meet;exact⟨by rw[z.out],rfl⟩
   .have ar:¬(400:Int)<(s.length:Int):=by omega
    obtain⟨c1,r⟩:=ex (s[0]'(by omega))
    have f:s.head?=some c1:=by rw[List.head?_eq_getElem?,List.getElem?_eq_getElem (by omega),r]
    by_cases hc48:c1=48
    .have aa:=zax s 0 (by omega) c1 48 48 (by decide) r hc48;have ae:=zaq s 0 (by omega) c1 48 48 (by decide) r hc48;obtain⟨m1,E⟩:=ex (decide ((1:Int)<(n.length:Int)))
     have z:Hid (o=m1):=hid (by rw[<-A.out,<-E,f,hc48];exact decide_eq_decide.2 ⟨fun h=>h.elim (fun h=>absurd h hz) fun h=>h.elim (fun h=>absurd h h4) fun h=>by omega,fun h=>.inr (.inr ⟨rfl,by omega⟩)⟩);clear f r hc48;cases m1
     .have h1:=of_decide_eq_false E;clear E;go_wp2;go_meet;exact⟨by rw[z.out],rfl⟩
     .have h1:=of_decide_eq_true E;clear E;go_wp2;go_meet;exact⟨by rw[z.out],rfl⟩
    .have z:Hid (o=false):=hid (by rw[<-A.out,f];exact decide_eq_false (fun h=>h.elim hz fun h=>h.elim h4 fun h=>hc48 (Option.some.inj h.1)));have aa:=zan s 0 (by omega) c1 48 48 (by decide) r hc48;have ae:=zar s 0 (by omega) c1 48 48 (by decide) r hc48;clear f r hc48;go_wp2;go_meet;exact⟨by rw[z.out],rfl⟩
 case rest=>
 obtain⟨rfl,rfl⟩:=hcut;obtain⟨c,ad⟩:∃c,c=wc:=⟨_,rfl⟩
 subst ad;have p0:∀j,c.frozen? ⟨a,j,none⟩=false:=g.out.2.1.frozen;have p1:∀j,c.frozen? ⟨a+1,j,none⟩=false:=g.out.1.frozen;obtain⟨q0,q1⟩:=cells2 g.out.2.1;cases o with
 |true=>
  have V:Hid (intB n=false):=hid (by rw[ai.out,if_pos (of_decide_eq_true A.out)]);go_wp2_with fail;obtain⟨Z,Y⟩:=cells2 ((g.out.2.1.set_ 0 (.bool false)).set_ 1 (.slice none 0 0));refine bodyPost_ret (v:=.tuple #[.agg #[.bool false,.slice none 0 0],.bool false]) (by simp[results,results51,go_sem,Z,Y]) rfl ?_;rw[V.out];exact⟨false,none,0,0,rfl,by rw[N.out];exact(g.out.2.2.setCell (p:=⟨a,0,none⟩) (by simp) _).setCell (p:=⟨a,1,none⟩) (by simp) _⟩
 |false=>
  obtain⟨q2,q3⟩:=cells2 g.out.1;have aj:Hid (intB n=s.all Gr.dig):=hid (by rw[ai.out,if_neg (of_decide_eq_false A.out)]);have av:=fun W=>zcu s.length (by omega) W
  have aA:a+1<c.heap.size:=by have:=aq.out;omega
  have aF:a<c.heap.size:=by omega
  go_upto_region 10 with fail;obtain⟨w2,L⟩:=ex ((c.setCell ⟨a+1,1,none⟩ (.slice (some ⟨c.heap.size,0,none⟩) s.length s.length)).alloc (.cells (ucells (List.replicate s.length 0)) 5))
  obtain⟨d,K⟩:=ex c.heap.size
  have aE:Hid (Blk w2 a 83 #[.bool false,.slice none 0 0]/\Blk w2 (a+1) 83 #[.bool u,.slice (some ⟨d,0,none⟩) s.length s.length]/\Blk w2 d 5 (ucells (List.replicate s.length 0))/\Below a w w2):=hid (by
   rw[<-L,<-K];refine⟨(g.out.2.1.far (by simp) _).alloc _,(g.out.1.set_ 1 _).alloc _,?_,?_⟩
   .have:=Blk.new (c.setCell ⟨a+1,1,none⟩ (.slice (some ⟨c.heap.size,0,none⟩) s.length s.length)) 5 (ucells (List.replicate s.length 0));rwa[show(c.setCell ⟨a+1,1,none⟩ (.slice (some ⟨c.heap.size,0,none⟩) s.length s.length)).heap.size=c.heap.size from by simp[World.setCell]]at this
   .exact(g.out.2.2.setCell (by simp) _).alloc (by simp[World.setCell];omega) _)
  have ac:Hid (a+1<d):=hid (by omega);(try rw[K]at L);(try rw[K]);(try rw[L]);clear L K aA aF p0 p1 q0 q1 q2 q3 av;go_loopw [45] (fun s45 wr=>∃k:Nat,k<=s.length/\s45=.int .i64 k/\Hid ((s.take k).all Gr.dig=true/\∃l:List UInt8,l.length=s.length/\Blk wr a 83 #[.bool false,.slice none 0 0]/\Blk wr (a+1) 83 #[.bool u,.slice (some ⟨d,0,none⟩) s.length s.length]/\Blk wr d 5 (ucells l)/\Below a w wr)) (fun s45 _=>s.length-(intOf s45).toNat)
  case atStart=>exact⟨0,by omega,rfl,hid ⟨by simp,List.replicate s.length 0,by simp,aE.out⟩⟩
  case round=>
   obtain⟨k,hk,rfl,HV⟩:=hrel;obtain⟨y,l,I,J,T,vd,vb⟩:=HV.out;by_cases hlt:k<s.length
   .have ah:(k:Int)<(s.length:Int):=by omega
    obtain⟨b,hb⟩:∃b:Nat,(s[k]'(by omega)).toNat=b:=⟨_,rfl⟩
    have hbv:(((⟨s.toArray⟩:ByteArray)[k]'(by simpa[ByteArray.size]using hlt)).toNat:Int)=(b:Int):=by rw[<-hb];rfl
    have X:(s.take (k+1)).all Gr.dig=(decide (48<=b) && decide (b<=57)):=by
     rw[List.take_succ_eq_append_getElem hlt,List.all_append,y];have:Gr.dig (s[k]'(by omega))=(decide (48<=b) && decide (b<=57)):=by
      unfold Gr.dig;rw[<-hb];simp[UInt8.le_iff_toNat_le]
     simp[this]
    have hbl:b<256:=by rw[<-hb];exact(s[k]'(by omega)).toNat_lt
    have P:Hid ((decide (48<=b) && decide (b<=57))=false->intB n=false):=hid (fun e=>by
     rw[aj.out,List.all_eq_false];have h3:(s.take (k+1)).all Gr.dig=false:=by rw[X,e]
     obtain⟨x,hx,aD⟩:=List.all_eq_false.1 h3;exact⟨x,List.mem_of_mem_take hx,aD⟩)
    have g0:=J.cell 0;have au:=hid X;have D:=hid J;have an:=hid T;have S:=hid vd;have G:=hid vb;have al:=hid I;have aC:∀j,wr.frozen? ⟨a,j,none⟩=false:=J.frozen;obtain⟨aB,ax⟩:=cells2 J;have af:wr.cell? ⟨a+1,1,none⟩=some (.slice (some ⟨d,0,none⟩) s.length s.length):=T.cell 1;clear X hb y J T vd vb I g0;by_cases h48:48<=b
    .by_cases h57:b<=57
     .have a1:¬((b:Int)<48):=by omega
      have a2:¬((57:Int)<(b:Int)):=by omega
      have i1:(0:Int)<=(s.length:Int)-1-(k:Int):=by omega
      have i2:(s.length:Int)-1-(k:Int)<(s.length:Int):=by omega
      have pfd:∀j,wr.frozen? ⟨d,j,none⟩=false:=S.out.frozen;have a48:(48:Int)<=(b:Int):=by omega
      have a57:(b:Int)<=57:=by omega
      obtain⟨dv,zd⟩:∃dv,wr.cell? ⟨d,s.length-1-k,none⟩=some dv:=by
       rw[S.out.cell];refine⟨_,Array.getElem?_eq_getElem (i:=s.length-1-k) ?_⟩;have:=al.out;simp[ucells];omega
      go_upto_region 14 with fail;go_region
      all_goals go_wp2_with fail
      obtain⟨U,aw⟩:∃U:UInt8,(U.toNat:Int)=(b:Int)-48:=⟨UInt8.ofNat (b-48),by rw[UInt8.toNat_ofNat'];omega⟩
      rw[<-aw];have ap:a≠d:=by have:=ac.out;omega
      have am:a+1≠d:=by have:=ac.out;omega
      have HN:Hid ((s.take (k+1)).all Gr.dig=true/\∃l2:List UInt8,l2.length=s.length/\Blk (wr.setCell ⟨d,s.length-1-k,none⟩ (.int .u8 (U.toNat:Int))).drew a 83 #[.bool false,.slice none 0 0]/\Blk (wr.setCell ⟨d,s.length-1-k,none⟩ (.int .u8 (U.toNat:Int))).drew (a+1) 83 #[.bool u,.slice (some ⟨d,0,none⟩) s.length s.length]/\Blk (wr.setCell ⟨d,s.length-1-k,none⟩ (.int .u8 (U.toNat:Int))).drew d 5 (ucells l2)/\Below a w (wr.setCell ⟨d,s.length-1-k,none⟩ (.int .u8 (U.toNat:Int))).drew):=hid ⟨by rw[au.out];simp[h48,h57],l.set (s.length-1-k) U,by simp[al.out],(D.out.far ap _).drew,(an.out.far am _).drew,by
       rw[<-zdt];exact(S.out.set_ _ _).drew,below_drewN (G.out.setCell (by have:=ac.out;simp;omega) _) 1⟩
      go_roundw
      case rel=>exact⟨k+1,by omega,by go_num,HN⟩
      case measure=>simp[intOf];omega
     .have V:Hid (intB n=false):=hid (P.out (by simp[h57]));have a1:¬((b:Int)<48):=by omega
      have a2:((57:Int)<(b:Int)):=by omega
      clear af;go_wp2_with fail;obtain⟨Z,Y⟩:=cells2 ((D.out.set_ 0 (.bool false)).set_ 1 (.slice none 0 0));refine bodyPost_ret (v:=.tuple #[.agg #[.bool false,.slice none 0 0],.bool false]) (by simp[results,results51,go_sem,Z,Y]) rfl ?_;rw[V.out];exact⟨false,none,0,0,rfl,by rw[N.out];exact(G.out.setCell (p:=⟨a,0,none⟩) (by simp) _).setCell (p:=⟨a,1,none⟩) (by simp) _⟩
    .have V:Hid (intB n=false):=hid (P.out (by simp[h48]));have a1:((b:Int)<48):=by omega
     clear af;go_wp2_with fail;obtain⟨Z,Y⟩:=cells2 ((D.out.set_ 0 (.bool false)).set_ 1 (.slice none 0 0));refine bodyPost_ret (v:=.tuple #[.agg #[.bool false,.slice none 0 0],.bool false]) (by simp[results,results51,go_sem,Z,Y]) rfl ?_;rw[V.out];exact⟨false,none,0,0,rfl,by rw[N.out];exact(G.out.setCell (p:=⟨a,0,none⟩) (by simp) _).setCell (p:=⟨a,1,none⟩) (by simp) _⟩
   .have ah:¬(k:Int)<(s.length:Int):=by omega
    have V:Hid (intB n=true):=hid (by
     rw[aj.out];rwa[show k=s.length from by omega,List.take_length]at y)
    have HT:=hid (zsf (some ⟨d,0,none⟩) s.length l (by omega) (by omega) wr (d+1) (RowAt.ofBlk vd (zas l) (by omega)));rw[I]at HT;have aC:∀j,wr.frozen? ⟨a,j,none⟩=false:=J.frozen;have pf1:∀j,wr.frozen? ⟨a+1,j,none⟩=false:=T.frozen;obtain⟨aB,ax⟩:=cells2 J;obtain⟨pc3,af⟩:=cells2 T;have D:=hid J;have an:=hid T;have G:=hid vb;clear J T vd vb I y;go_wp2_with fail;refine HT.out.mono ?_;rintro e w5 ⟨m,rfl,ay⟩;subst ay;go_wp2_with fail;have b0:=((D.out.far (p:=⟨a+1,1,none⟩) (by simp) (.slice (some ⟨d,0,none⟩) m s.length)).set_ 0 (.bool u)).set_ 1 (.slice (some ⟨d,0,none⟩) m s.length);obtain⟨Z,Y⟩:=cells2 b0;refine bodyPost_ret (v:=.tuple #[.agg #[.bool u,.slice (some ⟨d,0,none⟩) m s.length],.bool true]) (by simp[results,results51,go_sem,Z,Y]) rfl ?_;rw[V.out];exact⟨u,_,_,_,rfl,by rw[N.out];exact((G.out.setCell (p:=⟨a+1,1,none⟩) (by simp) _).setCell (p:=⟨a,0,none⟩) (by simp) _).setCell (p:=⟨a,1,none⟩) (by simp) _⟩
def d8 (d:List Nat):List UInt8:=d.map UInt8.ofNat
theorem zxp (d:List Nat):(d8 d).length=d.length:=by simp[d8]
def zor (w:World) (d:List Nat) (e:Ending) (w':World):Prop:=∃g,e=.returned (.slice (some ⟨g,0,none⟩) d.length d.length)/\w.heap.size<=g/\Blk w' g 5 (ucells (d8 d))/\Below w.heap.size w w'
theorem zkr (a:List UInt8) (n:Nat) (x:UInt8) (h:0<n):(a++List.replicate n 0).set a.length x=(a++[x])++List.replicate (n-1) 0:=by
 obtain⟨m,rfl⟩:∃m,n=m+1:=⟨n-1,by omega⟩
 rw[List.set_append_right _ _ (Nat.le_refl _),Nat.sub_self,List.replicate_succ,List.set_cons_zero,List.append_assoc];rfl
theorem zos (s:Gr.Str) (hl:s.length<=1073741823) (hd:s.all Gr.dig=true) (w:World):
 Calls prog 70 #[.string ⟨s.toArray⟩] w (zor w (vals s)):=by
 have u:=fun W=>zcu s.length (by omega) W
 go_enter func70,ntmps70;go_upto_region 2 with fail;obtain⟨x,f⟩:=ex (w.alloc (.cells (ucells (List.replicate s.length 0)) 5))
 obtain⟨c,d⟩:=ex w.heap.size
 have r:Hid (Blk x c 5 (ucells (List.replicate s.length 0))/\Below c w x):=hid (by rw[<-f,<-d];exact⟨Blk.new _ _ _,(Below.refl _ _).alloc (Nat.le_refl _) _⟩);have o:=hid d;have z:=hid hd;rw[f];(try rw[d]);clear f d u hd;go_wp2_with fail;go_loopw [10] (fun s10 wr=>∃k:Nat,k<=s.length/\s10=.int .i64 k/\Hid (Blk wr c 5 (ucells (d8 (vals (s.take k))++List.replicate (s.length-k) 0))/\Below c w wr)) (fun s10 _=>s.length-(intOf s10).toNat)
 case atStart=>exact⟨0,by omega,rfl,hid (by simpa[vals,d8]using r.out)⟩
 case round=>
  obtain⟨k,hk,rfl,h⟩:=hrel;by_cases hlt:k<s.length
  .have m:(k:Int)<(s.length:Int):=by omega
   obtain⟨b,q⟩:∃b:Nat,(s[k]'(by omega)).toNat=b:=⟨_,rfl⟩
   have hbv:(((⟨s.toArray⟩:ByteArray)[k]'(by simpa[ByteArray.size]using hlt)).toNat:Int)=(b:Int):=by rw[<-q];rfl
   have n:=(zbf (s[k]'hlt)).1 (List.all_eq_true.1 z.out _ (List.getElem_mem hlt));rw[q]at n;have a48:(48:Int)<=(b:Int):=by omega
   have a57:(b:Int)<=57:=by omega
   have pfd:∀j,wr.frozen? ⟨c,j,none⟩=false:=h.out.1.frozen;have a:(d8 (vals (s.take k))).length=k:=by simp[d8,vals];omega
   obtain⟨y,zd⟩:∃y,wr.cell? ⟨c,k,none⟩=some y:=by
    rw[h.out.1.cell];refine⟨_,Array.getElem?_eq_getElem (i:=k) ?_⟩;simp[ucells,a];omega
   have l:Hid (d8 (vals (s.take (k+1)))=d8 (vals (s.take k))++[UInt8.ofNat (b-48)]/\(d8 (vals (s.take k))).length=k):=hid ⟨by
    rw[List.take_succ_eq_append_getElem hlt];simp only[d8,vals,List.map_append,List.map_cons,List.map_nil,Gr.dv,q],a⟩
   clear q n a;go_wp2_with fail;obtain⟨e,g⟩:∃e:UInt8,e=UInt8.ofNat (b-48):=⟨_,rfl⟩
   have p:(b:Int)-48=(e.toNat:Int):=by rw[g,UInt8.toNat_ofNat'];omega
   rw[p];have A:Hid (Blk (wr.setCell ⟨c,k,none⟩ (.int .u8 (e.toNat:Int))) c 5 (ucells (d8 (vals (s.take (k+1)))++List.replicate (s.length-(k+1)) 0))/\Below c w (wr.setCell ⟨c,k,none⟩ (.int .u8 (e.toNat:Int)))):=hid ⟨by
    have t:=h.out.1.set_ k (.int .u8 (e.toNat:Int));rw[zdt]at t;have v:=zkr (d8 (vals (s.take k))) (s.length-k) e (by omega);rw[l.out.2]at v;rw[v]at t;rw[l.out.1,<-g,show s.length-(k+1)=s.length-k-1 from by omega];exact t,h.out.2.setCell (by simp) _⟩
   clear p g;go_roundw
   case rel=>exact⟨k+1,by omega,by go_num,A⟩
   case measure=>simp[intOf];omega
  .have m:¬(k:Int)<(s.length:Int):=by omega
   have B:Hid (Blk wr c 5 (ucells (d8 (vals s)))):=hid (by
    have:=h.out.1;rwa[show k=s.length from by omega,List.take_length,Nat.sub_self,List.replicate_zero,List.append_nil]at this)
   go_wp2;go_ret;refine⟨c,?_,by rw[o.out];exact Nat.le_refl _,B.out,by rw[o.out];exact h.out.2⟩;simp[vals]
theorem infoByteS:(prog.info? 5).map (·.size)=some 1:=by kernel_rfl
theorem zly (W:World) (B g n c:Nat) (A:Option Addr) (l:List UInt8) (ty:TypeId) (hl:l.length=n) (hb:Blk W g 5 (ucells (List.replicate n 0))) (hr:RowAt byteL W B A l):
 ∃W',(Builtin.copy_ #[81,81] ty #[.slice (some ⟨g,0,none⟩) n n,.slice A n c]).run prog W=.ok (.int .i64 n) W'/\Kept1 g W W'/\Blk W' g 5 (ucells l):=by
 by_cases h0:n=0
 .subst h0;obtain rfl:=List.eq_nil_of_length_eq_zero hl;exact⟨W,run_copy_none (P:=prog) W 81 81 ty 5 _ A 0 0 0 c underlying81 infoByteS rfl,Kept1.refl _ _,hb⟩
 .obtain⟨h,rfl,hlt,d⟩:=hr.2 (by omega);have a:(byteL.all l).length=n:=by rw[Lay.all_len];show l.length*1=n;omega
  have b:=run_copy_row (P:=prog) W 81 81 ty 5 g 0 n n h n c (ucells (List.replicate n 0)) 5 (byteL.all l) underlying81 infoByteS hb (by rw[a];exact(Nat.min_self n).symm) d (by rw[a];simp[ucells]) (byteL.all_one l);have e:((ucells (List.replicate n 0)).toList.take 0++byteL.all l++(ucells (List.replicate n 0)).toList.drop (0+(byteL.all l).length)).toArray=ucells l:=by
   rw[a,<-zas];simp[ucells]
  rw[e,a]at b;exact⟨_,b,⟨rfl,rfl,rfl,size_setRow _ _ _,fun k f=>setRow_other _ _ _ _ f⟩,setRow_heap _ _ _ _ _ _ hb⟩
theorem zgu (l:List UInt8) (k:Nat):(byteL.all l).drop k=byteL.all (l.drop k):=by
 rw[<-zas,<-zas];simp[ucells,List.map_drop]
theorem zgv (l:List UInt8) (k:Nat):(byteL.all l).take k=byteL.all (l.take k):=by
 rw[<-zas,<-zas];simp[ucells,List.map_take]
theorem zsg {w:World} {B:Nat} {A:Option Addr} {l:List UInt8} (h:RowAt byteL w B A l) {k cap:Nat} (hk:k<=l.length) (hc:l.length<=cap):RowAt byteL w B (if cap=k then A else A.map (·.add (k*1))) (l.drop k):=by
 have:=Reads.cut h hk hc;show Reads w B 1 _ _ _;rw[show byteL.sz=1 from rfl,Nat.mul_one,zgu]at this;rw[Nat.mul_one,List.length_drop];exact this
theorem zot {w:World} {B:Nat} {A:Option Addr} {l:List UInt8} (h:RowAt byteL w B A l) {k:Nat} (hk:k<=l.length):RowAt byteL w B A (l.take k):=by
 refine⟨byteL.all_len _,fun e=>?_⟩;have b:(l.take k).length=k:=by simp;omega
 rw[b]at e;obtain⟨g,f,c,d⟩:=h.2 (by omega);refine⟨g,f,c,fun j u a=>d j u ?_⟩;rw[<-zgv]at a;rw[List.getElem?_take]at a;split at a
 .exact a
 .cases a
theorem zlz (a:Option Addr) (n c:Nat) (h1:1<=n) (w:World):(Instr.slice 81 (.slice a n c) (some (.int .i64 1)) none none).run prog w=.ok (.slice (if c=1 then a else a.map (·.add (1*1))) (n-1) (c-1)) w:=by
 obtain⟨d,z,e,hz0,b,hz2,hz3⟩:=byteT.info;rw[zhk (P:=prog) 81 5 d underlying81 e a n c 1 (by omega) (by omega) w,b];rfl
def NumAt (x:Gr.Dn) (A:Option Addr) (c:Nat) (w:World):Prop:=(x.d=[]/\A=none/\c=0)\/∃g,A=some ⟨g,0,none⟩/\c=x.d.length/\Blk w g 5 (ucells (d8 x.d))
theorem NumAt.row {x:Gr.Dn} {A:Option Addr} {c:Nat} {w:World} (h:NumAt x A c w):RowAt byteL w w.heap.size A (d8 x.d):=by
 rcases h with⟨b,rfl,_⟩|⟨g,rfl,_,a⟩
 .rw[b];exact RowAt.nil
 .exact RowAt.ofBlk a (zas _) a.lt
theorem NumAt.keep {x:Gr.Dn} {A:Option Addr} {c:Nat} {w w':World} (h:NumAt x A c w) (hk:∀g cs,Blk w g 5 cs->Blk w' g 5 cs):NumAt x A c w':=by
 rcases h with h1|⟨g,h1,h2,hb⟩
 .exact .inl h1
 .exact .inr ⟨g,h1,h2,hk _ _ hb⟩
theorem NumAt.alloc {x:Gr.Dn} {A:Option Addr} {c:Nat} {w:World} (h:NumAt x A c w) (o:Obj):NumAt x A c (w.alloc o):=h.keep (fun _ _ a=>a.alloc o)
theorem NumAt.set_ {x:Gr.Dn} {A:Option Addr} {c:Nat} {w:World} (h:NumAt x A c w) {k i:Nat} {t:TypeId} {cs:Array Value} (hk:Blk w k t cs) (ht:5≠t) (u:Value):NumAt x A c (w.setCell ⟨k,i,none⟩ u):=h.keep (fun _ _ a=>a.far (a.ne_ hk ht) u)
def NumVal (x:Gr.Dn) (v:Value) (w:World):Prop:=∃A c,v=.agg #[.bool x.neg,.slice A x.d.length c,.int .i64 x.e]/\NumAt x A c w
def zks (x:Gr.Dn) (w:World) (e:Ending) (w':World):Prop:=∃v,e=.returned v/\NumVal x v w'/\Below w.heap.size w w'
theorem zxq {d:List Nat} {k:Nat} (h:k<d.length):(d8 d)[k]'(by simpa[d8]using h)=UInt8.ofNat d[k]:=by simp[d8]
theorem zvq {w:World} {B:Nat} {A:Option Addr} {d:List Nat} {k v:Nat} (h:RowAt byteL w B A (d8 d)) (hk:k<d.length) (hv:d[k]=v) (hl:v<10):∃ad,A=some ad/\ad.block<B/\w.cell? (ad.add k)=some (.int .u8 (v:Int)):=by
 obtain⟨ad,a,b,c⟩:=zxd h (show k<(d8 d).length by simpa[d8]using hk);refine⟨ad,a,b,?_⟩;rw[c,zxq hk,hv,UInt8.toNat_ofNat',Nat.mod_eq_of_lt (by omega)]
theorem zou (d:List Nat):(0::d).dropWhile isZ=d.dropWhile isZ:=rfl
theorem zuk (v:Nat) (d:List Nat) (h:v≠0):(v::d).dropWhile isZ=v::d:=by
 rw[List.dropWhile_cons,if_neg];simpa[isZ]using h
theorem zgw (d:List Nat) (v:Nat):Gr.rz (d++[v])=if v=0 then Gr.rz d else d++[v]:=by
 unfold Gr.rz;rw[List.reverse_append,List.reverse_cons,List.reverse_nil,List.nil_append,List.singleton_append,List.dropWhile_cons];by_cases h:v=0
 .rw[if_pos (by simpa[isZ]using h),if_pos h]
 .rw[if_neg (by simpa[isZ]using h),if_neg h];simp
theorem zsh (neg:Bool) (A:Option Addr) (c:Nat) (d:List Nat) (E:Int) (hl:d.length<=1073741823) (hc:d.length<=c) (hd:∀v∈d,v<10) (hE0:-1152921504606846976<=E) (hE1:E<=1152921504606846976) (w:World) (B:Nat) (hB:B<=w.heap.size) (h:RowAt byteL w B A (d8 d)):
 Calls prog 69 #[.bool neg,.slice A d.length c,.int .i64 E] w (zks (norm neg d E) w):=by
 obtain⟨r,hr⟩:=ex (norm neg d E)
 have HR:=hid hr;rw[hr];clear hr;have U:=hid h;have HD:=hid hd;clear h hd;go_enter func69,ntmps69;go_upto_region 1 with fail;obtain⟨i,G⟩:=ex (w.alloc (.cells #[.bool false,.slice none 0 0,.int .i64 0] 87))
 obtain⟨b,x⟩:=ex w.heap.size
 have a:Hid (Blk i b 87 #[.bool false,.slice none 0 0,.int .i64 0]/\Below b w i/\i.heap.size=b+1):=hid (by rw[<-G,<-x];exact⟨Blk.new _ _ _,(Below.refl _ _).alloc (Nat.le_refl _) _,by simp⟩);have S:=hid x;have ae:B<=b:=by omega
 (try rw[G]);(try rw[x]);clear G x;have p0:∀j,i.frozen? ⟨b,j,none⟩=false:=a.out.1.frozen;obtain⟨q0,q1,q2⟩:=cells3 a.out.1;go_loop [1] (fun s1=>∃(A1:Option Addr) (c1:Nat) (m:List Nat),s1=.slice A1 m.length c1/\Hid (m.length<=c1/\RowAt byteL i B A1 (d8 m)/\m.dropWhile isZ=d.dropWhile isZ/\(∀v∈m,v<10)/\m.length<=1073741823)) (fun s1=>match s1 with| .slice _ n _=>n|_=>0)
 case atStart=>exact⟨A,c,d,rfl,hid ⟨hc,U.out.below (a.out.2.1.mono ae),rfl,HD.out,hl⟩⟩
 case round=>
  obtain⟨A1,c1,m,rfl,HV⟩:=hrel;cases m with
  |nil=>
   have HF:Hid (r=zeroD):=hid (by
    rw[<-HR.out];unfold norm;rw[if_pos (show d.dropWhile isZ=[]from HV.out.2.2.1.symm)])
   go_wp2_with fail;go_loop [1,2] (fun s1 s2=>s1=.slice A1 0 c1/\s2=.int .i64 E) (fun _ _=>0)
   case atStart=>exact⟨rfl,rfl⟩
   case round=>
    obtain⟨rfl,rfl⟩:=hrel;go_wp2_with fail;have e:=((a.out.1.set_ 0 (.bool false)).set_ 1 (.slice none 0 0)).set_ 2 (.int .i64 0);have e0:=e.cell 0;have e1:=e.cell 1;have e2:=e.cell 2;refine bodyPost_ret (v:=.agg #[.bool false,.slice none 0 0,.int .i64 0]) (by simp[results,results69,go_sem,e0,e1,e2]) rfl ?_;rw[HF.out];exact⟨_,rfl,⟨none,0,rfl,.inl ⟨rfl,rfl,rfl⟩⟩,by rw[S.out];exact((a.out.2.1.setCell (p:=⟨b,0,none⟩) (by simp) _).setCell (p:=⟨b,1,none⟩) (by simp) _).setCell (p:=⟨b,2,none⟩) (by simp) _⟩
  |cons v m=>
   obtain⟨f,P,h3,Q,h5⟩:=HV.out;have V:v<10:=Q v (.head _);have hlc:m.length+1<=c1:=f;obtain⟨t,rfl,_,y0⟩:=zvq P (show 0<(v::m).length by simp) rfl V;rw[show t.add 0=t from rfl]at y0;have ac:(0:Int)<((v::m).length:Int):=by simp
   have ai:=zlz (some t) (v::m).length c1 (by simp);by_cases hz:v=0
   .subst hz;have ak:(((0:Nat):Int)==0)=true:=rfl;have H:Hid (m.length<=c1-1/\RowAt byteL i B (if c1=1 then some t else(some t).map (·.add (1*1))) (d8 m)/\m.dropWhile isZ=d.dropWhile isZ/\(∀v∈m,v<10)/\m.length<=1073741823):=hid ⟨by omega,zsg P (k:=1) (by simp[d8]) (by simpa[d8]using f),by rw[<-h3,zou],fun v hv=>Q v (.tail _ hv),by simp at h5;omega⟩;clear f P h3 Q h5;go_wp2;go_round
    case rel=>exact⟨_,_,m,rfl,H⟩
    case measure=>simp
   .have hz1:¬((v:Int)=0):=by omega
    have ak:((v:Int)==0)=false:=by simpa using hz
    obtain⟨M,hM⟩:=ex (v::m)
    have F:Hid (M.length<=c1/\RowAt byteL i B (some t) (d8 M)/\(∀v∈M,v<10)/\M.length<=1073741823/\M.head?=some v/\M≠[]/\r=⟨neg,Gr.rz M,E+((M.length-(Gr.rz M).length:Nat):Int)⟩):=hid (by
     rw[<-hM];refine⟨f,P,Q,h5,rfl,by simp,?_⟩;rw[<-HR.out];unfold norm;rw[<-h3,zuk v m hz,if_neg (by simp)])
    rw[hM];rw[hM]at ac;clear f P h3 Q h5 ai hM;go_wp2_with fail;go_loop [1,2] (fun s1 s2=>∃k:Nat,0<k/\k<=M.length/\s1=.slice (some t) k c1/\s2=.int .i64 (E+((M.length-k:Nat):Int))/\Hid (Gr.rz (M.take k)=Gr.rz M)) (fun s1 _=>match s1 with| .slice _ n _=>n|_=>0)
    case atStart=>exact⟨M.length,by omega,Nat.le_refl _,rfl,by simp,hid (by rw[List.take_length])⟩
    case round=>
     clear y0;obtain⟨k,hk0,hkM,rfl,rfl,R⟩:=hrel;obtain⟨j,rfl⟩:∃j,k=j+1:=⟨k-1,by omega⟩
     have y:j<M.length:=by omega
     obtain⟨u,T⟩:=ex (M[j])
     have O:u<10:=by rw[<-T];exact F.out.2.2.1 _ (List.getElem_mem y)
     obtain⟨ad',s,_,y0⟩:=zvq F.out.2.1 y T O;injection s with s
     subst s;have HT:=hid (show M.take (j+1)=M.take j++[u] by rw[List.take_succ_eq_append_getElem y,T]);have hcut:=fun W=>zhq (some t) (j+1) c1 j (by have:=F.out.1;omega) W
     have HU:=hid T;clear T;have hML:M.length<=1073741823:=F.out.2.2.2.1;have hjI:(j:Int)<=1073741822:=by omega
     have hj0I:(0:Int)<=(j:Int):=by omega
     by_cases hz2:u=0
     .subst hz2;have ag:0<j:=by
       rcases Nat.eq_zero_or_pos j with h0|h0
       .subst h0;have f:=F.out.2.2.2.2.1;rw[List.head?_eq_getElem?,List.getElem?_eq_getElem y,HU.out]at f;injection f with f
        exact absurd f.symm hz
       .exact h0
      have aa:(((0:Nat):Int)==0)=true:=rfl;have H:Hid (Gr.rz (M.take j)=Gr.rz M):=hid (by rw[<-R.out,HT.out,zgw,if_pos rfl]);go_wp2;go_round
      case rel=>exact⟨j,ag,by omega,rfl,by go_num,H⟩
      case measure=>simp
     .have N:¬((u:Int)=0):=by omega
      have aa:((u:Int)==0)=false:=by simpa using hz2
      have HF:Hid (r=⟨neg,M.take (j+1),E+((M.length-(j+1):Nat):Int)⟩):=hid (by
       have f:=R.out;rw[HT.out,zgw,if_neg hz2,<-HT.out]at f;rw[F.out.2.2.2.2.2.2,<-f,List.length_take,Nat.min_eq_left (by omega)])
      have hmk:∀W:World,(Instr.makeSlice 81 (.int .i64 ((j:Int)+1)) (.int .i64 ((j:Int)+1))).run prog W=.ok (.slice (some ⟨W.heap.size,0,none⟩) (j+1) (j+1)) (W.alloc (.cells (ucells (List.replicate (j+1) 0)) 5)):=fun W=>by
       have:=zcu (j+1) (by omega) W;rwa[show(((j+1:Nat)):Int)=(j:Int)+1 from by omega]at this
      have hnz:¬(((j+1:Nat):Int)=0):=by omega
      have hnzb:(((j+1:Nat):Int)==0)=false:=by rw[beq_eq_false_iff_ne];omega
      go_upto_region 9 with fail;obtain⟨Z,q⟩:=ex (i.alloc (.cells (ucells (List.replicate (j+1) 0)) 5))
      obtain⟨l,g⟩:=ex i.heap.size
      have K:Below l i Z:=by rw[<-q,<-g];exact(Below.refl _ _).alloc (Nat.le_refl _) _
      have Y:Blk Z l 5 (ucells (List.replicate (j+1) 0)):=by rw[<-q,<-g];exact Blk.new _ _ _
      have ah:l=b+1:=by rw[<-g];exact a.out.2.2
      have L:RowAt byteL Z B (some t) (d8 (M.take (j+1))):=by
       have:=zot F.out.2.1 (k:=j+1) (by rw[zxp];omega);rw[show(d8 M).take (j+1)=d8 (M.take (j+1))from by simp[d8,List.map_take]]at this;exact this.below (K.mono (by omega))
      obtain⟨X,aj,J,e⟩:=zly Z B l (j+1) c1 (some t) (d8 (M.take (j+1))) 3 (by simp[d8];omega) Y L;have I:Below l i X:=K.trans (J.below (Nat.le_refl _));have N:X.heap.size=l+1:=by rw[J.size,<-q,World.size_alloc,g]
      have C:Hid (Blk X b 87 #[.bool false,.slice none 0 0,.int .i64 0]):=hid (a.out.1.below I (by omega));have ab:=hid e;have af:Hid (Below b w X):=hid (a.out.2.1.trans (I.mono (by omega)));have o:b≠l:=by omega
      rw[q];(try rw[g]);clear q g K Y L J e I N ah;go_upto_region 10 with fail;clear aj p0 q0 q1 q2 y0;have p0:∀j,X.frozen? ⟨b,j,none⟩=false:=C.out.frozen;obtain⟨q0,q1,q2⟩:=cells3 C.out;go_wp2_with fail;have D:=((C.out.set_ 0 (.bool neg)).set_ 1 (.slice (some ⟨l,0,none⟩) (j+1) (j+1))).set_ 2 (.int .i64 (E+((M.length-(j+1):Nat):Int)));have e0:=D.cell 0;have e1:=D.cell 1;have e2:=D.cell 2;refine bodyPost_ret (v:=.agg #[.bool neg,.slice (some ⟨l,0,none⟩) (j+1) (j+1),.int .i64 (E+((M.length-(j+1):Nat):Int))]) (by simp[results,results69,go_sem,e0,e1,e2]) rfl ?_;rw[HF.out];have z:(M.take (j+1)).length=j+1:=by rw[List.length_take];omega
      refine⟨_,rfl,⟨some ⟨l,0,none⟩,j+1,by rw[z],.inr ⟨l,rfl,z.symm,?_⟩⟩,by rw[S.out];exact((af.out.setCell (p:=⟨b,0,none⟩) (by simp) _).setCell (p:=⟨b,1,none⟩) (by simp) _).setCell (p:=⟨b,2,none⟩) (by simp) _⟩;exact((ab.out.far o.symm _).far o.symm _).far o.symm _
end Go.Proofs.YtpjmhafmeieloabGreatDoor
