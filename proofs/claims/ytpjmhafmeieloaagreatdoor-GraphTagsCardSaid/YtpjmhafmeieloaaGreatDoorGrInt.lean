import Derived.Test.YtpjmhafmeieloaaGreatDoorZ01
namespace Go.Proofs.YtpjmhafmeieloaaGreatDoor
open Gr
open _root_.Go.Proofs.Tryz
open _root_.Go.Lib (hid)
set_option maxRecDepth 100000
set_option maxHeartbeats 16000000
open Go.RowKit
def CutSl (A:Option Addr) (c:Nat) (w:World) (e:Ending) (w':World):Prop:=∃n,e=.returned (.slice A n c)/\w'=w
theorem zsq (A:Option Addr) (c:Nat) (l:List UInt8) (hl:l.length<=1073741823) (hc:l.length<=c) (w:World) (B:Nat) (h:RowAt byteL w B A l):
 Calls prog 63 #[.slice A l.length c] w (CutSl A c w):=by
 go_enter func63,ntmps63;go_wp2_with fail;go_loop [0] (fun s0=>∃k:Nat,k<=l.length/\s0=.slice A k c) (fun s0=>match s0 with| .slice _ n _=>n|_=>0)
 case atStart=>exact⟨_,Nat.le_refl _,rfl⟩
 case round=>
  obtain⟨k,hk,rfl⟩:=hrel;by_cases h0:0<k
  .obtain⟨j,rfl⟩:∃j,k=j+1:=⟨k-1,by omega⟩
   have hcut:=fun W=>zig A (j+1) c j (by omega) W
   obtain⟨ad,rfl,_,e⟩:=zxr h (show j<l.length by omega);obtain⟨b,a⟩:∃b:Nat,(l[j]'(by omega)).toNat=b:=⟨_,rfl⟩
   rw[a]at e;have hbl:b<256:=by rw[<-a];exact(l[j]'(by omega)).toNat_lt
   clear a;by_cases hz:b=0
   .subst hz;go_wp2;go_round
    case rel=>exact⟨j,by omega,rfl⟩
    case measure=>simp
   .have d:¬((b:Int)=0):=by omega
    have hz2:((b:Int)==0)=false:=by simpa using d
    go_wp2;go_ret;exact⟨_,rfl,rfl⟩
  .obtain rfl:k=0:=by omega
   go_wp2;go_ret;exact⟨_,rfl,rfl⟩
def zvy (ok:Bool) (w:World) (e:Ending) (w':World):Prop:=∃b A n c,e=.returned (.tuple #[.agg #[.bool b,.slice A n c],.bool ok])/\Below w.heap.size w w'
theorem zjs (n:Gr.Str) (hl:n.length<=1073741823) (w:World):
 Calls prog 50 #[.string ⟨n.toArray⟩] w (zvy (intB n) w):=by
 obtain⟨s,hs⟩:=ex (intS n)
 have aj:Hid (intB n=if s.length=0\/s.length>400\/(s.head?=some 48/\n.length>1)then false else s.all Gr.dig):=hid (by unfold intB;rw[hs]);have ar:s.length<=n.length:=by rw[<-hs];unfold intS;split<;>simp
 have hsl:s.length<=1073741823:=by omega
 have Z:=hid hs;obtain⟨t,al⟩:∃t,decide (n.length>1/\n.head?=some 45)=t:=⟨_,rfl⟩
 have B:=hid al;clear hs ar al;go_enter func50,ntmps50;go_upto_region 3 with fail;obtain⟨H,C⟩:=ex ((w.alloc (.cells #[.bool false,.slice none 0 0] 80)).alloc (.cells #[.bool false,.slice none 0 0] 80))
 obtain⟨a,M⟩:=ex w.heap.size
 have J:=hid M;have q:Hid (Blk H (a+1) 80 #[.bool false,.slice none 0 0]/\Blk H a 80 #[.bool false,.slice none 0 0]/\Below a w H/\H.heap.size=a+1+1):=hid (by
  rw[<-C,<-M];have b1:=Blk.new (w.alloc (.cells #[.bool false,.slice none 0 0] 80)) 80 #[.bool false,.slice none 0 0];rw[World.size_alloc]at b1;exact⟨b1,(Blk.new _ _ _).alloc _,((Below.refl _ _).alloc (Nat.le_refl _) _).alloc (by simp) _,by simp⟩)
 (try rw[C]);(try rw[M]);clear C M;go_cut [16] (fun s16 P=>s16=.bool t/\P=H)
 case first=>
  by_cases h1:1<n.length
  .have ae:(1:Int)<(n.length:Int):=by omega
   have h0:0<n.length:=by omega
   obtain⟨c0,u⟩:=ex (n[0]'(by omega))
   have g:n.head?=some c0:=by rw[List.head?_eq_getElem?,List.getElem?_eq_getElem (by omega),u]
   by_cases h2:c0=45
   .have R:=zax n 0 (by omega) c0 45 45 (by decide) u h2;have S:=zaq n 0 (by omega) c0 45 45 (by decide) u h2;have z:Hid (t=true):=hid (by rw[<-B.out,g,h2];exact decide_eq_true ⟨h1,rfl⟩);clear g u h2;go_wp2;go_meet;exact⟨by rw[z.out],rfl⟩
   .have R:=zao n 0 (by omega) c0 45 45 (by decide) u h2;have S:=zar n 0 (by omega) c0 45 45 (by decide) u h2;have z:Hid (t=false):=hid (by rw[<-B.out,g];exact decide_eq_false (fun h=>h2 (Option.some.inj h.2)));clear g u h2;go_wp2;go_meet;exact⟨by rw[z.out],rfl⟩
  .have ae:¬(1:Int)<(n.length:Int):=by omega
   have z:Hid (t=false):=hid (by rw[<-B.out];exact decide_eq_false (fun h=>h1 h.1));go_wp2;go_meet;exact⟨by rw[z.out],rfl⟩
 case rest=>
 obtain⟨rfl,rfl⟩:=hcut;obtain⟨H,C⟩:∃H,H=wc:=⟨_,rfl⟩
 subst C;go_upto_if 16 with fail;go_cut [5] (fun s5 P=>s5=.string ⟨s.toArray⟩/\Hid (Blk P (a+1) 80 #[.bool t,.slice none 0 0]/\Blk P a 80 #[.bool false,.slice none 0 0]/\Below a w P/\P.heap.size=a+1+1))
 case first=>
  have q2:H.cell? ⟨a+1,0,none⟩=some (.bool false):=q.out.1.cell 0;have p1:∀j,H.frozen? ⟨a+1,j,none⟩=false:=q.out.1.frozen;cases t with
  |true=>
   have h1:n.length>1/\n.head?=some 45:=of_decide_eq_true B.out;have ab:Hid ((⟨n.toArray⟩:ByteArray).extract 1 n.length=⟨s.toArray⟩):=hid (by
    rw[zat,List.take_of_length_le (by simp),<-Z.out];unfold intS;rw[if_pos h1,List.drop_one])
   have ae:(1:Int)<=(n.length:Int):=by omega
   have h1N:1<=n.length:=by omega
   clear h1;go_wp2;go_meet;exact⟨by rw[ab.out],hid ⟨q.out.1.set_ 0 _,q.out.2.1.far (by simp) _,q.out.2.2.1.setCell (by simp) _,by simp[World.setCell];exact q.out.2.2.2⟩⟩
  |false=>
   have ab:Hid (n=s):=hid (by
    rw[<-Z.out];unfold intS;rw[if_neg (of_decide_eq_false B.out)])
   go_wp2;go_meet;exact⟨by rw[ab.out],q⟩
 case rest=>
 obtain⟨rfl,E⟩:=hcut;obtain⟨c,Y⟩:∃c,c=wc:=⟨_,rfl⟩
 subst Y;have f:Hid (Blk c (a+1) 80 #[.bool t,.slice none 0 0]/\Blk c a 80 #[.bool false,.slice none 0 0]/\Below a w c):=hid ⟨E.out.1,E.out.2.1,E.out.2.2.1⟩;have av:=hid E.out.2.2.2;clear q E Z B;obtain⟨o,O⟩:∃o,decide (s.length=0\/s.length>400\/(s.head?=some 48/\n.length>1))=o:=⟨_,rfl⟩
 have A:=hid O;clear O;go_upto_region 6 with fail;go_cut [37] (fun s37 P=>s37=.bool o/\P=c)
 case first=>
  by_cases hz:s.length=0
  .have z:Hid (o=true):=hid (by rw[<-A.out];exact decide_eq_true (.inl hz));have aa:(s.length:Int)=0:=by omega
   obtain rfl:=List.eq_nil_of_length_eq_zero hz;clear hz aa;go_wp2;go_meet;exact⟨by rw[z.out],rfl⟩
  .have hz0:0<s.length:=by omega
   have aa:¬((s.length:Int)=0):=by omega
   have hzb2:((s.length:Int)==0)=false:=by rw[beq_eq_false_iff_ne];exact aa
   by_cases h4:s.length>400
   .have z:Hid (o=true):=hid (by rw[<-A.out];exact decide_eq_true (.inr (.inl h4)));have aA:(400:Int)<(s.length:Int):=by omega
    go_wp2;go_meet;exact⟨by rw[z.out],rfl⟩
   .have aA:¬(400:Int)<(s.length:Int):=by omega
    obtain⟨c1,r⟩:=ex (s[0]'(by omega))
    have g:s.head?=some c1:=by rw[List.head?_eq_getElem?,List.getElem?_eq_getElem (by omega),r]
    by_cases hc48:c1=48
    .have R:=zax s 0 (by omega) c1 48 48 (by decide) r hc48;have S:=zaq s 0 (by omega) c1 48 48 (by decide) r hc48;obtain⟨m1,F⟩:=ex (decide ((1:Int)<(n.length:Int)))
     have z:Hid (o=m1):=hid (by rw[<-A.out,<-F,g,hc48];exact decide_eq_decide.2 ⟨fun h=>h.elim (fun h=>absurd h hz) fun h=>h.elim (fun h=>absurd h h4) fun h=>by omega,fun h=>.inr (.inr ⟨rfl,by omega⟩)⟩);clear g r hc48;cases m1
     .have h1:=of_decide_eq_false F;clear F;go_wp2;go_meet;exact⟨by rw[z.out],rfl⟩
     .have h1:=of_decide_eq_true F;clear F;go_wp2;go_meet;exact⟨by rw[z.out],rfl⟩
    .have z:Hid (o=false):=hid (by rw[<-A.out,g];exact decide_eq_false (fun h=>h.elim hz fun h=>h.elim h4 fun h=>hc48 (Option.some.inj h.1)));have R:=zao s 0 (by omega) c1 48 48 (by decide) r hc48;have S:=zar s 0 (by omega) c1 48 48 (by decide) r hc48;clear g r hc48;go_wp2;go_meet;exact⟨by rw[z.out],rfl⟩
 case rest=>
 obtain⟨rfl,rfl⟩:=hcut;obtain⟨c,Y⟩:∃c,c=wc:=⟨_,rfl⟩
 subst Y;have p0:∀j,c.frozen? ⟨a,j,none⟩=false:=f.out.2.1.frozen;have p1:∀j,c.frozen? ⟨a+1,j,none⟩=false:=f.out.1.frozen;obtain⟨q0,q1⟩:=cells2 f.out.2.1;cases o with
 |true=>
  have X:Hid (intB n=false):=hid (by rw[aj.out,if_pos (of_decide_eq_true A.out)]);go_wp2_with fail;obtain⟨V,e1⟩:=cells2 ((f.out.2.1.set_ 0 (.bool false)).set_ 1 (.slice none 0 0));refine bodyPost_ret (v:=.tuple #[.agg #[.bool false,.slice none 0 0],.bool false]) (by simp[results,results50,go_sem,V,e1]) rfl ?_;rw[X.out];exact⟨false,none,0,0,rfl,by rw[J.out];exact(f.out.2.2.setCell (p:=⟨a,0,none⟩) (by simp) _).setCell (p:=⟨a,1,none⟩) (by simp) _⟩
 |false=>
  obtain⟨q2,q3⟩:=cells2 f.out.1;have af:Hid (intB n=s.all Gr.dig):=hid (by rw[aj.out,if_neg (of_decide_eq_false A.out)]);have au:=fun W=>zcy s.length (by omega) W
  have ay:a+1<c.heap.size:=by have:=av.out;omega
  have ax:a<c.heap.size:=by omega
  go_upto_region 10 with fail;obtain⟨w2,I⟩:=ex ((c.setCell ⟨a+1,1,none⟩ (.slice (some ⟨c.heap.size,0,none⟩) s.length s.length)).alloc (.cells (ucells (List.replicate s.length 0)) 5))
  obtain⟨d,N⟩:=ex c.heap.size
  have ao:Hid (Blk w2 a 80 #[.bool false,.slice none 0 0]/\Blk w2 (a+1) 80 #[.bool t,.slice (some ⟨d,0,none⟩) s.length s.length]/\Blk w2 d 5 (ucells (List.replicate s.length 0))/\Below a w w2):=hid (by
   rw[<-I,<-N];refine⟨(f.out.2.1.far (by simp) _).alloc _,(f.out.1.set_ 1 _).alloc _,?_,?_⟩
   .have:=Blk.new (c.setCell ⟨a+1,1,none⟩ (.slice (some ⟨c.heap.size,0,none⟩) s.length s.length)) 5 (ucells (List.replicate s.length 0));rwa[show(c.setCell ⟨a+1,1,none⟩ (.slice (some ⟨c.heap.size,0,none⟩) s.length s.length)).heap.size=c.heap.size from by simp[World.setCell]]at this
   .exact(f.out.2.2.setCell (by simp) _).alloc (by simp[World.setCell];omega) _)
  have ad:Hid (a+1<d):=hid (by omega);(try rw[N]at I);(try rw[N]);(try rw[I]);clear I N ay ax p0 p1 q0 q1 q2 q3 au;go_loopw [45] (fun s45 wr=>∃k:Nat,k<=s.length/\s45=.int .i64 k/\Hid ((s.take k).all Gr.dig=true/\∃l:List UInt8,l.length=s.length/\Blk wr a 80 #[.bool false,.slice none 0 0]/\Blk wr (a+1) 80 #[.bool t,.slice (some ⟨d,0,none⟩) s.length s.length]/\Blk wr d 5 (ucells l)/\Below a w wr)) (fun s45 _=>s.length-(intOf s45).toNat)
  case atStart=>exact⟨0,by omega,rfl,hid ⟨by simp,List.replicate s.length 0,by simp,ao.out⟩⟩
  case round=>
   obtain⟨k,hk,rfl,HV⟩:=hrel;obtain⟨y,l,L,K,v1,vd,vb⟩:=HV.out;by_cases hlt:k<s.length
   .have ag:(k:Int)<(s.length:Int):=by omega
    obtain⟨b,hb⟩:∃b:Nat,(s[k]'(by omega)).toNat=b:=⟨_,rfl⟩
    have hbv:(((⟨s.toArray⟩:ByteArray)[k]'(by simpa[ByteArray.size]using hlt)).toNat:Int)=(b:Int):=by rw[<-hb];rfl
    have ac:(s.take (k+1)).all Gr.dig=(decide (48<=b) && decide (b<=57)):=by
     rw[List.take_succ_eq_append_getElem hlt,List.all_append,y];have:Gr.dig (s[k]'(by omega))=(decide (48<=b) && decide (b<=57)):=by
      unfold Gr.dig;rw[<-hb];simp[UInt8.le_iff_toNat_le]
     simp[this]
    have hbl:b<256:=by rw[<-hb];exact(s[k]'(by omega)).toNat_lt
    have Q:Hid ((decide (48<=b) && decide (b<=57))=false->intB n=false):=hid (fun e=>by
     rw[af.out,List.all_eq_false];have h3:(s.take (k+1)).all Gr.dig=false:=by rw[ac,e]
     obtain⟨x,hx,an⟩:=List.all_eq_false.1 h3;exact⟨x,List.mem_of_mem_take hx,an⟩)
    have g0:=K.cell 0;have aB:=hid ac;have G:=hid K;have ah:=hid v1;have U:=hid vd;have D:=hid vb;have ak:=hid L;have ap:∀j,wr.frozen? ⟨a,j,none⟩=false:=K.frozen;obtain⟨aq,am⟩:=cells2 K;have T:wr.cell? ⟨a+1,1,none⟩=some (.slice (some ⟨d,0,none⟩) s.length s.length):=v1.cell 1;clear ac hb y K v1 vd vb L g0;by_cases h48:48<=b
    .by_cases h57:b<=57
     .have a1:¬((b:Int)<48):=by omega
      have a2:¬((57:Int)<(b:Int)):=by omega
      have i1:(0:Int)<=(s.length:Int)-1-(k:Int):=by omega
      have i2:(s.length:Int)-1-(k:Int)<(s.length:Int):=by omega
      have pfd:∀j,wr.frozen? ⟨d,j,none⟩=false:=U.out.frozen;have a48:(48:Int)<=(b:Int):=by omega
      have a57:(b:Int)<=57:=by omega
      obtain⟨dv,zd⟩:∃dv,wr.cell? ⟨d,s.length-1-k,none⟩=some dv:=by
       rw[U.out.cell];refine⟨_,Array.getElem?_eq_getElem (i:=s.length-1-k) ?_⟩;have:=ak.out;simp[ucells];omega
      go_upto_region 14 with fail;go_region
      all_goals go_wp2_with fail
      obtain⟨xb,aC⟩:∃xb:UInt8,(xb.toNat:Int)=(b:Int)-48:=⟨UInt8.ofNat (b-48),by rw[UInt8.toNat_ofNat'];omega⟩
      rw[<-aC];have az:a≠d:=by have:=ad.out;omega
      have ai:a+1≠d:=by have:=ad.out;omega
      have HN:Hid ((s.take (k+1)).all Gr.dig=true/\∃l2:List UInt8,l2.length=s.length/\Blk (wr.setCell ⟨d,s.length-1-k,none⟩ (.int .u8 (xb.toNat:Int))).drew a 80 #[.bool false,.slice none 0 0]/\Blk (wr.setCell ⟨d,s.length-1-k,none⟩ (.int .u8 (xb.toNat:Int))).drew (a+1) 80 #[.bool t,.slice (some ⟨d,0,none⟩) s.length s.length]/\Blk (wr.setCell ⟨d,s.length-1-k,none⟩ (.int .u8 (xb.toNat:Int))).drew d 5 (ucells l2)/\Below a w (wr.setCell ⟨d,s.length-1-k,none⟩ (.int .u8 (xb.toNat:Int))).drew):=hid ⟨by rw[aB.out];simp[h48,h57],l.set (s.length-1-k) xb,by simp[ak.out],(G.out.far az _).drew,(ah.out.far ai _).drew,by
       rw[<-zd0];exact(U.out.set_ _ _).drew,below_drewN (D.out.setCell (by have:=ad.out;simp;omega) _) 1⟩
      go_roundw
      case rel=>exact⟨k+1,by omega,by go_num,HN⟩
      case measure=>simp[intOf];omega
     .have X:Hid (intB n=false):=hid (Q.out (by simp[h57]));have a1:¬((b:Int)<48):=by omega
      have a2:((57:Int)<(b:Int)):=by omega
      clear T;go_wp2_with fail;obtain⟨V,e1⟩:=cells2 ((G.out.set_ 0 (.bool false)).set_ 1 (.slice none 0 0));refine bodyPost_ret (v:=.tuple #[.agg #[.bool false,.slice none 0 0],.bool false]) (by simp[results,results50,go_sem,V,e1]) rfl ?_;rw[X.out];exact⟨false,none,0,0,rfl,by rw[J.out];exact(D.out.setCell (p:=⟨a,0,none⟩) (by simp) _).setCell (p:=⟨a,1,none⟩) (by simp) _⟩
    .have X:Hid (intB n=false):=hid (Q.out (by simp[h48]));have a1:((b:Int)<48):=by omega
     clear T;go_wp2_with fail;obtain⟨V,e1⟩:=cells2 ((G.out.set_ 0 (.bool false)).set_ 1 (.slice none 0 0));refine bodyPost_ret (v:=.tuple #[.agg #[.bool false,.slice none 0 0],.bool false]) (by simp[results,results50,go_sem,V,e1]) rfl ?_;rw[X.out];exact⟨false,none,0,0,rfl,by rw[J.out];exact(D.out.setCell (p:=⟨a,0,none⟩) (by simp) _).setCell (p:=⟨a,1,none⟩) (by simp) _⟩
   .have ag:¬(k:Int)<(s.length:Int):=by omega
    have X:Hid (intB n=true):=hid (by
     rw[af.out];rwa[show k=s.length from by omega,List.take_length]at y)
    have HT:=hid (zsq (some ⟨d,0,none⟩) s.length l (by omega) (by omega) wr (d+1) (RowAt.ofBlk vd (zas l) (by omega)));rw[L]at HT;have ap:∀j,wr.frozen? ⟨a,j,none⟩=false:=K.frozen;have pf1:∀j,wr.frozen? ⟨a+1,j,none⟩=false:=v1.frozen;obtain⟨aq,am⟩:=cells2 K;obtain⟨pc3,T⟩:=cells2 v1;have G:=hid K;have ah:=hid v1;have D:=hid vb;clear K v1 vd vb L y;go_wp2_with fail;refine HT.out.mono ?_;rintro e w5 ⟨m,rfl,aw⟩;subst aw;go_wp2_with fail;have b0:=((G.out.far (p:=⟨a+1,1,none⟩) (by simp) (.slice (some ⟨d,0,none⟩) m s.length)).set_ 0 (.bool t)).set_ 1 (.slice (some ⟨d,0,none⟩) m s.length);obtain⟨V,e1⟩:=cells2 b0;refine bodyPost_ret (v:=.tuple #[.agg #[.bool t,.slice (some ⟨d,0,none⟩) m s.length],.bool true]) (by simp[results,results50,go_sem,V,e1]) rfl ?_;rw[X.out];exact⟨t,_,_,_,rfl,by rw[J.out];exact((D.out.setCell (p:=⟨a+1,1,none⟩) (by simp) _).setCell (p:=⟨a,0,none⟩) (by simp) _).setCell (p:=⟨a,1,none⟩) (by simp) _⟩
end Go.Proofs.YtpjmhafmeieloaaGreatDoor
