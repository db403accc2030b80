import Derived.Test.YtpgmfihonmoliaaGreatDoorZ02
namespace Go.Proofs.YtpgmfihonmoliaaGreatDoor
open Gr
open _root_.Go.Proofs.Tryz
open _root_.Go.Lib (hid)
set_option maxRecDepth 100000
set_option maxHeartbeats 16000000
open Go.RowKit
def CutSl (A:Option Addr) (c:Nat) (w:World) (e:Ending) (w':World):Prop:=∃n,e=.returned (.slice A n c)/\w'=w
theorem zsj (A:Option Addr) (c:Nat) (l:List UInt8) (hl:l.length<=1073741823) (hc:l.length<=c) (w:World) (B:Nat) (h:RowAt byteL w B A l):
 Calls prog 71 #[.slice A l.length c] w (CutSl A c w):=by
 go_enter func71,ntmps71;go_wp2_with fail;go_loop [0] (fun s0=>∃k:Nat,k<=l.length/\s0=.slice A k c) (fun s0=>match s0 with| .slice _ n _=>n|_=>0)
 case atStart=>exact⟨_,Nat.le_refl _,rfl⟩
 case round=>
  obtain⟨k,hk,rfl⟩:=hrel;by_cases h0:0<k
  .obtain⟨j,rfl⟩:∃j,k=j+1:=⟨k-1,by omega⟩
   have hcut:=fun W=>zhs A (j+1) c j (by omega) W
   obtain⟨ad,rfl,_,e⟩:=zxh h (show j<l.length by omega);obtain⟨b,d⟩:∃b:Nat,(l[j]'(by omega)).toNat=b:=⟨_,rfl⟩
   rw[d]at e;have hbl:b<256:=by rw[<-d];exact(l[j]'(by omega)).toNat_lt
   clear d;by_cases hz:b=0
   .subst hz;go_wp2;go_round
    case rel=>exact⟨j,by omega,rfl⟩
    case measure=>simp
   .have a:¬((b:Int)=0):=by omega
    have hz2:((b:Int)==0)=false:=by simpa using a
    go_wp2;go_ret;exact⟨_,rfl,rfl⟩
  .obtain rfl:k=0:=by omega
   go_wp2;go_ret;exact⟨_,rfl,rfl⟩
def zvl (ok:Bool) (w:World) (e:Ending) (w':World):Prop:=∃b A n c,e=.returned (.tuple #[.agg #[.bool b,.slice A n c],.bool ok])/\Below w.heap.size w w'
theorem zjj (n:Gr.Str) (hl:n.length<=1073741823) (w:World):
 Calls prog 54 #[.string ⟨n.toArray⟩] w (zvl (intB n) w):=by
 obtain⟨s,hs⟩:=ex (intS n)
 have ak:Hid (intB n=if s.length=0\/s.length>400\/(s.head?=some 48/\n.length>1)then false else s.all Gr.dig):=hid (by unfold intB;rw[hs]);have aA:s.length<=n.length:=by rw[<-hs];unfold intS;split<;>simp
 have hsl:s.length<=1073741823:=by omega
 have ac:=hid hs;obtain⟨t,af⟩:∃t,decide (n.length>1/\n.head?=some 45)=t:=⟨_,rfl⟩
 have B:=hid af;clear hs aA af;go_enter func54,ntmps54;go_upto_region 3 with fail;obtain⟨H,G⟩:=ex ((w.alloc (.cells #[.bool false,.slice none 0 0] 82)).alloc (.cells #[.bool false,.slice none 0 0] 82))
 obtain⟨a,L⟩:=ex w.heap.size
 have I:=hid L;have q:Hid (Blk H (a+1) 82 #[.bool false,.slice none 0 0]/\Blk H a 82 #[.bool false,.slice none 0 0]/\Below a w H/\H.heap.size=a+1+1):=hid (by
  rw[<-G,<-L];have b1:=Blk.new (w.alloc (.cells #[.bool false,.slice none 0 0] 82)) 82 #[.bool false,.slice none 0 0];rw[World.size_alloc]at b1;exact⟨b1,(Blk.new _ _ _).alloc _,((Below.refl _ _).alloc (Nat.le_refl _) _).alloc (by simp) _,by simp⟩)
 (try rw[G]);(try rw[L]);clear G L;go_cut [16] (fun s16 P=>s16=.bool t/\P=H)
 case first=>
  by_cases h1:1<n.length
  .have aj:(1:Int)<(n.length:Int):=by omega
   have h0:0<n.length:=by omega
   obtain⟨c0,u⟩:=ex (n[0]'(by omega))
   have f:n.head?=some c0:=by rw[List.head?_eq_getElem?,List.getElem?_eq_getElem (by omega),u]
   by_cases h2:c0=45
   .have ad:=zax n 0 (by omega) c0 45 45 (by decide) u h2;have ab:=zar n 0 (by omega) c0 45 45 (by decide) u h2;have z:Hid (t=true):=hid (by rw[<-B.out,f,h2];exact decide_eq_true ⟨h1,rfl⟩);clear f u h2;go_wp2;go_meet;exact⟨by rw[z.out],rfl⟩
   .have ad:=zap n 0 (by omega) c0 45 45 (by decide) u h2;have ab:=zas n 0 (by omega) c0 45 45 (by decide) u h2;have z:Hid (t=false):=hid (by rw[<-B.out,f];exact decide_eq_false (fun h=>h2 (Option.some.inj h.2)));clear f u h2;go_wp2;go_meet;exact⟨by rw[z.out],rfl⟩
  .have aj:¬(1:Int)<(n.length:Int):=by omega
   have z:Hid (t=false):=hid (by rw[<-B.out];exact decide_eq_false (fun h=>h1 h.1));go_wp2;go_meet;exact⟨by rw[z.out],rfl⟩
 case rest=>
 obtain⟨rfl,rfl⟩:=hcut;obtain⟨H,G⟩:∃H,H=wc:=⟨_,rfl⟩
 subst G;go_upto_if 16 with fail;go_cut [5] (fun s5 P=>s5=.string ⟨s.toArray⟩/\Hid (Blk P (a+1) 82 #[.bool t,.slice none 0 0]/\Blk P a 82 #[.bool false,.slice none 0 0]/\Below a w P/\P.heap.size=a+1+1))
 case first=>
  have q2:H.cell? ⟨a+1,0,none⟩=some (.bool false):=q.out.1.cell 0;have p1:∀j,H.frozen? ⟨a+1,j,none⟩=false:=q.out.1.frozen;cases t with
  |true=>
   have h1:n.length>1/\n.head?=some 45:=of_decide_eq_true B.out;have Y:Hid ((⟨n.toArray⟩:ByteArray).extract 1 n.length=⟨s.toArray⟩):=hid (by
    rw[zau,List.take_of_length_le (by simp),<-ac.out];unfold intS;rw[if_pos h1,List.drop_one])
   have aj:(1:Int)<=(n.length:Int):=by omega
   have h1N:1<=n.length:=by omega
   clear h1;go_wp2;go_meet;exact⟨by rw[Y.out],hid ⟨q.out.1.set_ 0 _,q.out.2.1.far (by simp) _,q.out.2.2.1.setCell (by simp) _,by simp[World.setCell];exact q.out.2.2.2⟩⟩
  |false=>
   have Y:Hid (n=s):=hid (by
    rw[<-ac.out];unfold intS;rw[if_neg (of_decide_eq_false B.out)])
   go_wp2;go_meet;exact⟨by rw[Y.out],q⟩
 case rest=>
 obtain⟨rfl,D⟩:=hcut;obtain⟨c,Z⟩:∃c,c=wc:=⟨_,rfl⟩
 subst Z;have g:Hid (Blk c (a+1) 82 #[.bool t,.slice none 0 0]/\Blk c a 82 #[.bool false,.slice none 0 0]/\Below a w c):=hid ⟨D.out.1,D.out.2.1,D.out.2.2.1⟩;have ax:=hid D.out.2.2.2;clear q D ac B;obtain⟨o,O⟩:∃o,decide (s.length=0\/s.length>400\/(s.head?=some 48/\n.length>1))=o:=⟨_,rfl⟩
 have A:=hid O;clear O;go_upto_region 6 with fail;go_cut [37] (fun s37 P=>s37=.bool o/\P=c)
 case first=>
  by_cases hz:s.length=0
  .have z:Hid (o=true):=hid (by rw[<-A.out];exact decide_eq_true (.inl hz));have S:(s.length:Int)=0:=by omega
   obtain rfl:=List.eq_nil_of_length_eq_zero hz;clear hz S;go_wp2;go_meet;exact⟨by rw[z.out],rfl⟩
  .have hz0:0<s.length:=by omega
   have S:¬((s.length:Int)=0):=by omega
   have hzb2:((s.length:Int)==0)=false:=by rw[beq_eq_false_iff_ne];exact S
   by_cases h4:s.length>400
   .have z:Hid (o=true):=hid (by rw[<-A.out];exact decide_eq_true (.inr (.inl h4)));have az:(400:Int)<(s.length:Int):=by omega
    go_wp2;go_meet;exact⟨by rw[z.out],rfl⟩
   .have az:¬(400:Int)<(s.length:Int):=by omega
    obtain⟨c1,r⟩:=ex (s[0]'(by omega))
    have f:s.head?=some c1:=by rw[List.head?_eq_getElem?,List.getElem?_eq_getElem (by omega),r]
    by_cases hc48:c1=48
    .have ad:=zax s 0 (by omega) c1 48 48 (by decide) r hc48;have ab:=zar s 0 (by omega) c1 48 48 (by decide) r hc48;obtain⟨m1,E⟩:=ex (decide ((1:Int)<(n.length:Int)))
     have z:Hid (o=m1):=hid (by rw[<-A.out,<-E,f,hc48];exact decide_eq_decide.2 ⟨fun h=>h.elim (fun h=>absurd h hz) fun h=>h.elim (fun h=>absurd h h4) fun h=>by omega,fun h=>.inr (.inr ⟨rfl,by omega⟩)⟩);clear f r hc48;cases m1
     .have h1:=of_decide_eq_false E;clear E;go_wp2;go_meet;exact⟨by rw[z.out],rfl⟩
     .have h1:=of_decide_eq_true E;clear E;go_wp2;go_meet;exact⟨by rw[z.out],rfl⟩
    .have z:Hid (o=false):=hid (by rw[<-A.out,f];exact decide_eq_false (fun h=>h.elim hz fun h=>h.elim h4 fun h=>hc48 (Option.some.inj h.1)));have ad:=zap s 0 (by omega) c1 48 48 (by decide) r hc48;have ab:=zas s 0 (by omega) c1 48 48 (by decide) r hc48;clear f r hc48;go_wp2;go_meet;exact⟨by rw[z.out],rfl⟩
 case rest=>
 obtain⟨rfl,rfl⟩:=hcut;obtain⟨c,Z⟩:∃c,c=wc:=⟨_,rfl⟩
 subst Z;have p0:∀j,c.frozen? ⟨a,j,none⟩=false:=g.out.2.1.frozen;have p1:∀j,c.frozen? ⟨a+1,j,none⟩=false:=g.out.1.frozen;obtain⟨q0,q1⟩:=cells2 g.out.2.1;cases o with
 |true=>
  have V:Hid (intB n=false):=hid (by rw[ak.out,if_pos (of_decide_eq_true A.out)]);go_wp2_with fail;obtain⟨e0,e1⟩:=cells2 ((g.out.2.1.set_ 0 (.bool false)).set_ 1 (.slice none 0 0));refine bodyPost_ret (v:=.tuple #[.agg #[.bool false,.slice none 0 0],.bool false]) (by simp[results,results54,go_sem,e0,e1]) rfl ?_;rw[V.out];exact⟨false,none,0,0,rfl,by rw[I.out];exact(g.out.2.2.setCell (p:=⟨a,0,none⟩) (by simp) _).setCell (p:=⟨a,1,none⟩) (by simp) _⟩
 |false=>
  obtain⟨q2,q3⟩:=cells2 g.out.1;have al:Hid (intB n=s.all Gr.dig):=hid (by rw[ak.out,if_neg (of_decide_eq_false A.out)]);have aq:=fun W=>zcu s.length (by omega) W
  have au:a+1<c.heap.size:=by have:=ax.out;omega
  have ao:a<c.heap.size:=by omega
  go_upto_region 10 with fail;obtain⟨w2,M⟩:=ex ((c.setCell ⟨a+1,1,none⟩ (.slice (some ⟨c.heap.size,0,none⟩) s.length s.length)).alloc (.cells (ucells (List.replicate s.length 0)) 5))
  obtain⟨d,J⟩:=ex c.heap.size
  have aC:Hid (Blk w2 a 82 #[.bool false,.slice none 0 0]/\Blk w2 (a+1) 82 #[.bool t,.slice (some ⟨d,0,none⟩) s.length s.length]/\Blk w2 d 5 (ucells (List.replicate s.length 0))/\Below a w w2):=hid (by
   rw[<-M,<-J];refine⟨(g.out.2.1.far (by simp) _).alloc _,(g.out.1.set_ 1 _).alloc _,?_,?_⟩
   .have:=Blk.new (c.setCell ⟨a+1,1,none⟩ (.slice (some ⟨c.heap.size,0,none⟩) s.length s.length)) 5 (ucells (List.replicate s.length 0));rwa[show(c.setCell ⟨a+1,1,none⟩ (.slice (some ⟨c.heap.size,0,none⟩) s.length s.length)).heap.size=c.heap.size from by simp[World.setCell]]at this
   .exact(g.out.2.2.setCell (by simp) _).alloc (by simp[World.setCell];omega) _)
  have R:Hid (a+1<d):=hid (by omega);(try rw[J]at M);(try rw[J]);(try rw[M]);clear M J au ao p0 p1 q0 q1 q2 q3 aq;go_loopw [45] (fun s45 wr=>∃k:Nat,k<=s.length/\s45=.int .i64 k/\Hid ((s.take k).all Gr.dig=true/\∃l:List UInt8,l.length=s.length/\Blk wr a 82 #[.bool false,.slice none 0 0]/\Blk wr (a+1) 82 #[.bool t,.slice (some ⟨d,0,none⟩) s.length s.length]/\Blk wr d 5 (ucells l)/\Below a w wr)) (fun s45 _=>s.length-(intOf s45).toNat)
  case atStart=>exact⟨0,by omega,rfl,hid ⟨by simp,List.replicate s.length 0,by simp,aC.out⟩⟩
  case round=>
   obtain⟨k,hk,rfl,HV⟩:=hrel;obtain⟨y,l,N,K,U,vd,vb⟩:=HV.out;by_cases hlt:k<s.length
   .have ai:(k:Int)<(s.length:Int):=by omega
    obtain⟨b,hb⟩:∃b:Nat,(s[k]'(by omega)).toNat=b:=⟨_,rfl⟩
    have hbv:(((⟨s.toArray⟩:ByteArray)[k]'(by simpa[ByteArray.size]using hlt)).toNat:Int)=(b:Int):=by rw[<-hb];rfl
    have T:(s.take (k+1)).all Gr.dig=(decide (48<=b) && decide (b<=57)):=by
     rw[List.take_succ_eq_append_getElem hlt,List.all_append,y];have:Gr.dig (s[k]'(by omega))=(decide (48<=b) && decide (b<=57)):=by
      unfold Gr.dig;rw[<-hb];simp[UInt8.le_iff_toNat_le]
     simp[this]
    have hbl:b<256:=by rw[<-hb];exact(s[k]'(by omega)).toNat_lt
    have Q:Hid ((decide (48<=b) && decide (b<=57))=false->intB n=false):=hid (fun e=>by
     rw[al.out,List.all_eq_false];have h3:(s.take (k+1)).all Gr.dig=false:=by rw[T,e]
     obtain⟨x,hx,ap⟩:=List.all_eq_false.1 h3;exact⟨x,List.mem_of_mem_take hx,ap⟩)
    have g0:=K.cell 0;have an:=hid T;have C:=hid K;have am:=hid U;have ae:=hid vd;have F:=hid vb;have ah:=hid N;have av:∀j,wr.frozen? ⟨a,j,none⟩=false:=K.frozen;obtain⟨aw,aD⟩:=cells2 K;have aa:wr.cell? ⟨a+1,1,none⟩=some (.slice (some ⟨d,0,none⟩) s.length s.length):=U.cell 1;clear T hb y K U vd vb N g0;by_cases h48:48<=b
    .by_cases h57:b<=57
     .have a1:¬((b:Int)<48):=by omega
      have a2:¬((57:Int)<(b:Int)):=by omega
      have i1:(0:Int)<=(s.length:Int)-1-(k:Int):=by omega
      have i2:(s.length:Int)-1-(k:Int)<(s.length:Int):=by omega
      have pfd:∀j,wr.frozen? ⟨d,j,none⟩=false:=ae.out.frozen;have a48:(48:Int)<=(b:Int):=by omega
      have a57:(b:Int)<=57:=by omega
      obtain⟨dv,zd⟩:∃dv,wr.cell? ⟨d,s.length-1-k,none⟩=some dv:=by
       rw[ae.out.cell];refine⟨_,Array.getElem?_eq_getElem (i:=s.length-1-k) ?_⟩;have:=ah.out;simp[ucells];omega
      go_upto_region 14 with fail;go_region
      all_goals go_wp2_with fail
      obtain⟨X,aB⟩:∃X:UInt8,(X.toNat:Int)=(b:Int)-48:=⟨UInt8.ofNat (b-48),by rw[UInt8.toNat_ofNat'];omega⟩
      rw[<-aB];have ar:a≠d:=by have:=R.out;omega
      have ag:a+1≠d:=by have:=R.out;omega
      have HN:Hid ((s.take (k+1)).all Gr.dig=true/\∃l2:List UInt8,l2.length=s.length/\Blk (wr.setCell ⟨d,s.length-1-k,none⟩ (.int .u8 (X.toNat:Int))).drew a 82 #[.bool false,.slice none 0 0]/\Blk (wr.setCell ⟨d,s.length-1-k,none⟩ (.int .u8 (X.toNat:Int))).drew (a+1) 82 #[.bool t,.slice (some ⟨d,0,none⟩) s.length s.length]/\Blk (wr.setCell ⟨d,s.length-1-k,none⟩ (.int .u8 (X.toNat:Int))).drew d 5 (ucells l2)/\Below a w (wr.setCell ⟨d,s.length-1-k,none⟩ (.int .u8 (X.toNat:Int))).drew):=hid ⟨by rw[an.out];simp[h48,h57],l.set (s.length-1-k) X,by simp[ah.out],(C.out.far ar _).drew,(am.out.far ag _).drew,by
       rw[<-zdx];exact(ae.out.set_ _ _).drew,below_drewN (F.out.setCell (by have:=R.out;simp;omega) _) 1⟩
      go_roundw
      case rel=>exact⟨k+1,by omega,by go_num,HN⟩
      case measure=>simp[intOf];omega
     .have V:Hid (intB n=false):=hid (Q.out (by simp[h57]));have a1:¬((b:Int)<48):=by omega
      have a2:((57:Int)<(b:Int)):=by omega
      clear aa;go_wp2_with fail;obtain⟨e0,e1⟩:=cells2 ((C.out.set_ 0 (.bool false)).set_ 1 (.slice none 0 0));refine bodyPost_ret (v:=.tuple #[.agg #[.bool false,.slice none 0 0],.bool false]) (by simp[results,results54,go_sem,e0,e1]) rfl ?_;rw[V.out];exact⟨false,none,0,0,rfl,by rw[I.out];exact(F.out.setCell (p:=⟨a,0,none⟩) (by simp) _).setCell (p:=⟨a,1,none⟩) (by simp) _⟩
    .have V:Hid (intB n=false):=hid (Q.out (by simp[h48]));have a1:((b:Int)<48):=by omega
     clear aa;go_wp2_with fail;obtain⟨e0,e1⟩:=cells2 ((C.out.set_ 0 (.bool false)).set_ 1 (.slice none 0 0));refine bodyPost_ret (v:=.tuple #[.agg #[.bool false,.slice none 0 0],.bool false]) (by simp[results,results54,go_sem,e0,e1]) rfl ?_;rw[V.out];exact⟨false,none,0,0,rfl,by rw[I.out];exact(F.out.setCell (p:=⟨a,0,none⟩) (by simp) _).setCell (p:=⟨a,1,none⟩) (by simp) _⟩
   .have ai:¬(k:Int)<(s.length:Int):=by omega
    have V:Hid (intB n=true):=hid (by
     rw[al.out];rwa[show k=s.length from by omega,List.take_length]at y)
    have HT:=hid (zsj (some ⟨d,0,none⟩) s.length l (by omega) (by omega) wr (d+1) (RowAt.ofBlk vd (zat l) (by omega)));rw[N]at HT;have av:∀j,wr.frozen? ⟨a,j,none⟩=false:=K.frozen;have pf1:∀j,wr.frozen? ⟨a+1,j,none⟩=false:=U.frozen;obtain⟨aw,aD⟩:=cells2 K;obtain⟨pc3,aa⟩:=cells2 U;have C:=hid K;have am:=hid U;have F:=hid vb;clear K U vd vb N y;go_wp2_with fail;refine HT.out.mono ?_;rintro e w5 ⟨m,rfl,ay⟩;subst ay;go_wp2_with fail;have b0:=((C.out.far (p:=⟨a+1,1,none⟩) (by simp) (.slice (some ⟨d,0,none⟩) m s.length)).set_ 0 (.bool t)).set_ 1 (.slice (some ⟨d,0,none⟩) m s.length);obtain⟨e0,e1⟩:=cells2 b0;refine bodyPost_ret (v:=.tuple #[.agg #[.bool t,.slice (some ⟨d,0,none⟩) m s.length],.bool true]) (by simp[results,results54,go_sem,e0,e1]) rfl ?_;rw[V.out];exact⟨t,_,_,_,rfl,by rw[I.out];exact((F.out.setCell (p:=⟨a+1,1,none⟩) (by simp) _).setCell (p:=⟨a,0,none⟩) (by simp) _).setCell (p:=⟨a,1,none⟩) (by simp) _⟩
end Go.Proofs.YtpgmfihonmoliaaGreatDoor
