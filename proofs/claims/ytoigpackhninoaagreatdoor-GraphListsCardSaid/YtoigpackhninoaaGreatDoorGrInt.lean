import Derived.Test.YtoigpackhninoaaGreatDoorZ01
namespace Go.Proofs.YtoigpackhninoaaGreatDoor
open Gr
open _root_.Go.Proofs.Tryz
open _root_.Go.Lib (hid)
set_option maxRecDepth 100000
set_option maxHeartbeats 16000000
open Go.RowKit
def CutSl (A:Option Addr) (c:Nat) (w:World) (e:Ending) (w':World):Prop:=∃n,e=.returned (.slice A n c)/\w'=w
theorem zr8 (A:Option Addr) (c:Nat) (l:List UInt8) (hl:l.length<=1073741823) (hc:l.length<=c) (w:World) (B:Nat) (h:RowAt byteL w B A l):
 Calls prog 106 #[.slice A l.length c] w (CutSl A c w):=by
 go_enter func106,ntmps106;go_wp2_with fail;go_loop [0] (fun s0=>∃k:Nat,k<=l.length/\s0=.slice A k c) (fun s0=>match s0 with| .slice _ n _=>n|_=>0)
 case atStart=>exact⟨_,Nat.le_refl _,rfl⟩
 case round=>
  obtain⟨k,hk,rfl⟩:=hrel;by_cases h0:0<k
  ·obtain⟨j,rfl⟩:∃j,k=j+1:=⟨k-1,by omega⟩
   have hcut:=fun W=>zhh A (j+1) c j (by omega) W
   obtain⟨ad,rfl,_,e⟩:=zw0 h (show j<l.length by omega);obtain⟨b,d⟩:∃b:Nat,(l[j]'(by omega)).toNat=b:=⟨_,rfl⟩
   rw[d]at e;have hbl:b<256:=by rw[<-d];exact(l[j]'(by omega)).toNat_lt
   clear d;by_cases hz:b=0
   ·subst hz;go_wp2;go_round
    case rel=>exact⟨j,by omega,rfl⟩
    case measure=>simp
   ·have a:¬((b:Int)=0):=by omega
    have hz2:((b:Int)==0)=false:=by simpa using a
    go_wp2;go_ret;exact⟨_,rfl,rfl⟩
  ·obtain rfl:k=0:=by omega
   go_wp2;go_ret;exact⟨_,rfl,rfl⟩
def zvb (ok:Bool) (w:World) (e:Ending) (w':World):Prop:=∃b A n c,e=.returned (.tuple #[.agg #[.bool b,.slice A n c],.bool ok])/\Below w.heap.size w w'
theorem zjb (n:Gr.Str) (hl:n.length<=1073741823) (w:World):
 Calls prog 88 #[.string ⟨n.toArray⟩] w (zvb (intB n) w):=by
 obtain⟨s,hs⟩:=ex (intS n)
 have ah:Hid (intB n=if s.length=0\/s.length>400\/(s.head?=some 48/\n.length>1)then false else s.all Gr.dig):=hid (by unfold intB;rw[hs]);have aw:s.length<=n.length:=by rw[<-hs];unfold intS;split<;>simp
 have hsl:s.length<=1073741823:=by omega
 have ab:=hid hs;obtain⟨r,al⟩:∃r,decide (n.length>1/\n.head?=some 45)=r:=⟨_,rfl⟩
 have A:=hid al;clear hs aw al;go_enter func88,ntmps88;go_upto_region 3 with fail;obtain⟨H,E⟩:=ex ((w.alloc (.cells #[.bool false,.slice none 0 0] 121)).alloc (.cells #[.bool false,.slice none 0 0] 121))
 obtain⟨a,M⟩:=ex w.heap.size
 have L:=hid M;have o:Hid (Blk H (a+1) 121 #[.bool false,.slice none 0 0]/\Blk H a 121 #[.bool false,.slice none 0 0]/\Below a w H/\H.heap.size=a+1+1):=hid (by
  rw[<-E,<-M];have b1:=Blk.new (w.alloc (.cells #[.bool false,.slice none 0 0] 121)) 121 #[.bool false,.slice none 0 0];rw[World.size_alloc]at b1;exact⟨b1,(Blk.new _ _ _).alloc _,((Below.refl _ _).alloc (Nat.le_refl _) _).alloc (by simp) _,by simp⟩)
 (try rw[E]);(try rw[M]);clear E M;go_cut [16] (fun s16 O=>s16=.bool r/\O=H)
 case first=>
  by_cases h1:1<n.length
  ·have ag:(1:Int)<(n.length:Int):=by omega
   have h0:0<n.length:=by omega
   obtain⟨c0,t⟩:=ex (n[0]'(by omega))
   have g:n.head?=some c0:=by rw[List.head?_eq_getElem?,List.getElem?_eq_getElem (by omega),t]
   by_cases h2:c0=45
   ·have Z:=zaw n 0 (by omega) c0 45 45 (by decide) t h2;have T:=zap n 0 (by omega) c0 45 45 (by decide) t h2;have y:Hid (r=true):=hid (by rw[<-A.out,g,h2];exact decide_eq_true ⟨h1,rfl⟩);clear g t h2;go_wp2;go_meet;exact⟨by rw[y.out],rfl⟩
   ·have Z:=zan n 0 (by omega) c0 45 45 (by decide) t h2;have T:=zaq n 0 (by omega) c0 45 45 (by decide) t h2;have y:Hid (r=false):=hid (by rw[<-A.out,g];exact decide_eq_false (fun h=>h2 (Option.some.inj h.2)));clear g t h2;go_wp2;go_meet;exact⟨by rw[y.out],rfl⟩
  ·have ag:¬(1:Int)<(n.length:Int):=by omega
   have y:Hid (r=false):=hid (by rw[<-A.out];exact decide_eq_false (fun h=>h1 h.1));go_wp2;go_meet;exact⟨by rw[y.out],rfl⟩
 case rest=>
 obtain⟨rfl,rfl⟩:=hcut;obtain⟨H,E⟩:∃H,H=wc:=⟨_,rfl⟩
 subst E;go_upto_if 16 with fail;go_cut [5] (fun s5 O=>s5=.string ⟨s.toArray⟩/\Hid (Blk O (a+1) 121 #[.bool r,.slice none 0 0]/\Blk O a 121 #[.bool false,.slice none 0 0]/\Below a w O/\O.heap.size=a+1+1))
 case first=>
  have q2:H.cell? ⟨a+1,0,none⟩=some (.bool false):=o.out.1.cell 0;have p1:∀j,H.frozen? ⟨a+1,j,none⟩=false:=o.out.1.frozen;cases r with
  |true=>
   have h1:n.length>1/\n.head?=some 45:=of_decide_eq_true A.out;have X:Hid ((⟨n.toArray⟩:ByteArray).extract 1 n.length=⟨s.toArray⟩):=hid (by
    rw[zas,List.take_of_length_le (by simp),<-ab.out];unfold intS;rw[if_pos h1,List.drop_one])
   have ag:(1:Int)<=(n.length:Int):=by omega
   have h1N:1<=n.length:=by omega
   clear h1;go_wp2;go_meet;exact⟨by rw[X.out],hid ⟨o.out.1.set_ 0 _,o.out.2.1.far (by simp) _,o.out.2.2.1.setCell (by simp) _,by simp[World.setCell];exact o.out.2.2.2⟩⟩
  |false=>
   have X:Hid (n=s):=hid (by
    rw[<-ab.out];unfold intS;rw[if_neg (of_decide_eq_false A.out)])
   go_wp2;go_meet;exact⟨by rw[X.out],o⟩
 case rest=>
 obtain⟨rfl,G⟩:=hcut;obtain⟨c,ad⟩:∃c,c=wc:=⟨_,rfl⟩
 subst ad;have f:Hid (Blk c (a+1) 121 #[.bool r,.slice none 0 0]/\Blk c a 121 #[.bool false,.slice none 0 0]/\Below a w c):=hid ⟨G.out.1,G.out.2.1,G.out.2.2.1⟩;have aA:=hid G.out.2.2.2;clear o G ab A;obtain⟨q,Q⟩:∃q,decide (s.length=0\/s.length>400\/(s.head?=some 48/\n.length>1))=q:=⟨_,rfl⟩
 have B:=hid Q;clear Q;go_upto_region 6 with fail;go_cut [37] (fun s37 O=>s37=.bool q/\O=c)
 case first=>
  by_cases hz:s.length=0
  ·have y:Hid (q=true):=hid (by rw[<-B.out];exact decide_eq_true (.inl hz));have V:(s.length:Int)=0:=by omega
   obtain rfl:=List.eq_nil_of_length_eq_zero hz;clear hz V;go_wp2;go_meet;exact⟨by rw[y.out],rfl⟩
  ·have hz0:0<s.length:=by omega
   have V:¬((s.length:Int)=0):=by omega
   have hzb2:((s.length:Int)==0)=false:=by rw[beq_eq_false_iff_ne];exact V
   by_cases h4:s.length>400
   ·have y:Hid (q=true):=hid (by rw[<-B.out];exact decide_eq_true (.inr (.inl h4)));have aq:(400:Int)<(s.length:Int):=by omega
    go_wp2;go_meet;exact⟨by rw[y.out],rfl⟩
   ·have aq:¬(400:Int)<(s.length:Int):=by omega
    obtain⟨c1,u⟩:=ex (s[0]'(by omega))
    have g:s.head?=some c1:=by rw[List.head?_eq_getElem?,List.getElem?_eq_getElem (by omega),u]
    by_cases hc48:c1=48
    ·have Z:=zaw s 0 (by omega) c1 48 48 (by decide) u hc48;have T:=zap s 0 (by omega) c1 48 48 (by decide) u hc48;obtain⟨m1,C⟩:=ex (decide ((1:Int)<(n.length:Int)))
     have y:Hid (q=m1):=hid (by rw[<-B.out,<-C,g,hc48];exact decide_eq_decide.2 ⟨fun h=>h.elim (fun h=>absurd h hz) fun h=>h.elim (fun h=>absurd h h4) fun h=>by omega,fun h=>.inr (.inr ⟨rfl,by omega⟩)⟩);clear g u hc48;cases m1
     ·have h1:=of_decide_eq_false C;clear C;go_wp2;go_meet;exact⟨by rw[y.out],rfl⟩
     ·have h1:=of_decide_eq_true C;clear C;go_wp2;go_meet;exact⟨by rw[y.out],rfl⟩
    ·have y:Hid (q=false):=hid (by rw[<-B.out,g];exact decide_eq_false (fun h=>h.elim hz fun h=>h.elim h4 fun h=>hc48 (Option.some.inj h.1)));have Z:=zan s 0 (by omega) c1 48 48 (by decide) u hc48;have T:=zaq s 0 (by omega) c1 48 48 (by decide) u hc48;clear g u hc48;go_wp2;go_meet;exact⟨by rw[y.out],rfl⟩
 case rest=>
 obtain⟨rfl,rfl⟩:=hcut;obtain⟨c,ad⟩:∃c,c=wc:=⟨_,rfl⟩
 subst ad;have p0:∀j,c.frozen? ⟨a,j,none⟩=false:=f.out.2.1.frozen;have p1:∀j,c.frozen? ⟨a+1,j,none⟩=false:=f.out.1.frozen;obtain⟨q0,q1⟩:=cells2 f.out.2.1;cases q with
 |true=>
  have HF:Hid (intB n=false):=hid (by rw[ah.out,if_pos (of_decide_eq_true B.out)]);go_wp2_with fail;obtain⟨Y,S⟩:=cells2 ((f.out.2.1.set_ 0 (.bool false)).set_ 1 (.slice none 0 0));refine bodyPost_ret (v:=.tuple #[.agg #[.bool false,.slice none 0 0],.bool false]) (by simp[results,results88,go_sem,Y,S]) rfl ?_;rw[HF.out];exact⟨false,none,0,0,rfl,by rw[L.out];exact(f.out.2.2.setCell (p:=⟨a,0,none⟩) (by simp) _).setCell (p:=⟨a,1,none⟩) (by simp) _⟩
 |false=>
  obtain⟨q2,q3⟩:=cells2 f.out.1;have af:Hid (intB n=s.all Gr.dig):=hid (by rw[ah.out,if_neg (of_decide_eq_false B.out)]);have an:=fun W=>zcq s.length (by omega) W
  have av:a+1<c.heap.size:=by have:=aA.out;omega
  have am:a<c.heap.size:=by omega
  go_upto_region 10 with fail;obtain⟨w2,N⟩:=ex ((c.setCell ⟨a+1,1,none⟩ (.slice (some ⟨c.heap.size,0,none⟩) s.length s.length)).alloc (.cells (ucells (List.replicate s.length 0)) 5))
  obtain⟨d,K⟩:=ex c.heap.size
  have ax:Hid (Blk w2 a 121 #[.bool false,.slice none 0 0]/\Blk w2 (a+1) 121 #[.bool r,.slice (some ⟨d,0,none⟩) s.length s.length]/\Blk w2 d 5 (ucells (List.replicate s.length 0))/\Below a w w2):=hid (by
   rw[<-N,<-K];refine⟨(f.out.2.1.far (by simp) _).alloc _,(f.out.1.set_ 1 _).alloc _,?_,?_⟩
   ·have:=Blk.new (c.setCell ⟨a+1,1,none⟩ (.slice (some ⟨c.heap.size,0,none⟩) s.length s.length)) 5 (ucells (List.replicate s.length 0));rwa[show(c.setCell ⟨a+1,1,none⟩ (.slice (some ⟨c.heap.size,0,none⟩) s.length s.length)).heap.size=c.heap.size from by simp[World.setCell]]at this
   ·exact(f.out.2.2.setCell (by simp) _).alloc (by simp[World.setCell];omega) _)
  have aa:Hid (a+1<d):=hid (by omega);(try rw[K]at N);(try rw[K]);(try rw[N]);clear N K av am p0 p1 q0 q1 q2 q3 an;go_loopw [45] (fun s45 wr=>∃k:Nat,k<=s.length/\s45=.int .i64 k/\Hid ((s.take k).all Gr.dig=true/\∃l:List UInt8,l.length=s.length/\Blk wr a 121 #[.bool false,.slice none 0 0]/\Blk wr (a+1) 121 #[.bool r,.slice (some ⟨d,0,none⟩) s.length s.length]/\Blk wr d 5 (ucells l)/\Below a w wr)) (fun s45 _=>s.length-(intOf s45).toNat)
  case atStart=>exact⟨0,by omega,rfl,hid ⟨by simp,List.replicate s.length 0,by simp,ax.out⟩⟩
  case round=>
   obtain⟨k,hk,rfl,HV⟩:=hrel;obtain⟨z,l,J,I,v1,vd,vb⟩:=HV.out;by_cases hlt:k<s.length
   ·have ae:(k:Int)<(s.length:Int):=by omega
    obtain⟨b,hb⟩:∃b:Nat,(s[k]'(by omega)).toNat=b:=⟨_,rfl⟩
    have hbv:(((⟨s.toArray⟩:ByteArray)[k]'(by simpa[ByteArray.size]using hlt)).toNat:Int)=(b:Int):=by rw[<-hb];rfl
    have R:(s.take (k+1)).all Gr.dig=(decide (48<=b) && decide (b<=57)):=by
     rw[List.take_succ_eq_append_getElem hlt,List.all_append,z];have:Gr.dig (s[k]'(by omega))=(decide (48<=b) && decide (b<=57)):=by
      unfold Gr.dig;rw[<-hb];simp[UInt8.le_iff_toNat_le]
     simp[this]
    have hbl:b<256:=by rw[<-hb];exact(s[k]'(by omega)).toNat_lt
    have P:Hid ((decide (48<=b) && decide (b<=57))=false->intB n=false):=hid (fun e=>by
     rw[af.out,List.all_eq_false];have h3:(s.take (k+1)).all Gr.dig=false:=by rw[R,e]
     obtain⟨x,hx,aC⟩:=List.all_eq_false.1 h3;exact⟨x,List.mem_of_mem_take hx,aC⟩)
    have g0:=I.cell 0;have ar:=hid R;have F:=hid I;have ak:=hid v1;have ac:=hid vd;have D:=hid vb;have aj:=hid J;have ap:∀j,wr.frozen? ⟨a,j,none⟩=false:=I.frozen;obtain⟨az,ay⟩:=cells2 I;have U:wr.cell? ⟨a+1,1,none⟩=some (.slice (some ⟨d,0,none⟩) s.length s.length):=v1.cell 1;clear R hb z I v1 vd vb J g0;by_cases h48:48<=b
    ·by_cases h57:b<=57
     ·have a1:¬((b:Int)<48):=by omega
      have a2:¬((57:Int)<(b:Int)):=by omega
      have i1:(0:Int)<=(s.length:Int)-1-(k:Int):=by omega
      have i2:(s.length:Int)-1-(k:Int)<(s.length:Int):=by omega
      have pfd:∀j,wr.frozen? ⟨d,j,none⟩=false:=ac.out.frozen;have a48:(48:Int)<=(b:Int):=by omega
      have a57:(b:Int)<=57:=by omega
      obtain⟨dv,zd⟩:∃dv,wr.cell? ⟨d,s.length-1-k,none⟩=some dv:=by
       rw[ac.out.cell];refine⟨_,Array.getElem?_eq_getElem (i:=s.length-1-k) ?_⟩;have:=aj.out;simp[ucells];omega
      go_upto_region 14 with fail;go_region
      all_goals go_wp2_with fail
      obtain⟨xb,aB⟩:∃xb:UInt8,(xb.toNat:Int)=(b:Int)-48:=⟨UInt8.ofNat (b-48),by rw[UInt8.toNat_ofNat'];omega⟩
      rw[<-aB];have ao:a≠d:=by have:=aa.out;omega
      have ai:a+1≠d:=by have:=aa.out;omega
      have HN:Hid ((s.take (k+1)).all Gr.dig=true/\∃l2:List UInt8,l2.length=s.length/\Blk (wr.setCell ⟨d,s.length-1-k,none⟩ (.int .u8 (xb.toNat:Int))).drew a 121 #[.bool false,.slice none 0 0]/\Blk (wr.setCell ⟨d,s.length-1-k,none⟩ (.int .u8 (xb.toNat:Int))).drew (a+1) 121 #[.bool r,.slice (some ⟨d,0,none⟩) s.length s.length]/\Blk (wr.setCell ⟨d,s.length-1-k,none⟩ (.int .u8 (xb.toNat:Int))).drew d 5 (ucells l2)/\Below a w (wr.setCell ⟨d,s.length-1-k,none⟩ (.int .u8 (xb.toNat:Int))).drew):=hid ⟨by rw[ar.out];simp[h48,h57],l.set (s.length-1-k) xb,by simp[aj.out],(F.out.far ao _).drew,(ak.out.far ai _).drew,by
       rw[<-zdr];exact(ac.out.set_ _ _).drew,below_drewN (D.out.setCell (by have:=aa.out;simp;omega) _) 1⟩
      go_roundw
      case rel=>exact⟨k+1,by omega,by go_num,HN⟩
      case measure=>simp[intOf];omega
     ·have HF:Hid (intB n=false):=hid (P.out (by simp[h57]));have a1:¬((b:Int)<48):=by omega
      have a2:((57:Int)<(b:Int)):=by omega
      clear U;go_wp2_with fail;obtain⟨Y,S⟩:=cells2 ((F.out.set_ 0 (.bool false)).set_ 1 (.slice none 0 0));refine bodyPost_ret (v:=.tuple #[.agg #[.bool false,.slice none 0 0],.bool false]) (by simp[results,results88,go_sem,Y,S]) rfl ?_;rw[HF.out];exact⟨false,none,0,0,rfl,by rw[L.out];exact(D.out.setCell (p:=⟨a,0,none⟩) (by simp) _).setCell (p:=⟨a,1,none⟩) (by simp) _⟩
    ·have HF:Hid (intB n=false):=hid (P.out (by simp[h48]));have a1:((b:Int)<48):=by omega
     clear U;go_wp2_with fail;obtain⟨Y,S⟩:=cells2 ((F.out.set_ 0 (.bool false)).set_ 1 (.slice none 0 0));refine bodyPost_ret (v:=.tuple #[.agg #[.bool false,.slice none 0 0],.bool false]) (by simp[results,results88,go_sem,Y,S]) rfl ?_;rw[HF.out];exact⟨false,none,0,0,rfl,by rw[L.out];exact(D.out.setCell (p:=⟨a,0,none⟩) (by simp) _).setCell (p:=⟨a,1,none⟩) (by simp) _⟩
   ·have ae:¬(k:Int)<(s.length:Int):=by omega
    have HF:Hid (intB n=true):=hid (by
     rw[af.out];rwa[show k=s.length from by omega,List.take_length]at z)
    have HT:=hid (zr8 (some ⟨d,0,none⟩) s.length l (by omega) (by omega) wr (d+1) (RowAt.ofBlk vd (zar l) (by omega)));rw[J]at HT;have ap:∀j,wr.frozen? ⟨a,j,none⟩=false:=I.frozen;have pf1:∀j,wr.frozen? ⟨a+1,j,none⟩=false:=v1.frozen;obtain⟨az,ay⟩:=cells2 I;obtain⟨pc3,U⟩:=cells2 v1;have F:=hid I;have ak:=hid v1;have D:=hid vb;clear I v1 vd vb J z;go_wp2_with fail;refine HT.out.mono ?_;rintro e w5 ⟨m,rfl,au⟩;subst au;go_wp2_with fail;have b0:=((F.out.far (p:=⟨a+1,1,none⟩) (by simp) (.slice (some ⟨d,0,none⟩) m s.length)).set_ 0 (.bool r)).set_ 1 (.slice (some ⟨d,0,none⟩) m s.length);obtain⟨Y,S⟩:=cells2 b0;refine bodyPost_ret (v:=.tuple #[.agg #[.bool r,.slice (some ⟨d,0,none⟩) m s.length],.bool true]) (by simp[results,results88,go_sem,Y,S]) rfl ?_;rw[HF.out];exact⟨r,_,_,_,rfl,by rw[L.out];exact((D.out.setCell (p:=⟨a+1,1,none⟩) (by simp) _).setCell (p:=⟨a,0,none⟩) (by simp) _).setCell (p:=⟨a,1,none⟩) (by simp) _⟩
end Go.Proofs.YtoigpackhninoaaGreatDoor
