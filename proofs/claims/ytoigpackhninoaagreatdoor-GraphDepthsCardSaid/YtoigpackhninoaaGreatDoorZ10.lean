import Derived.Test.YtoigpackhninoaaGreatDoorZ02
import Derived.Test.YtoigpackhninoaaGreatDoorZ09
namespace Go.Proofs.YtoigpackhninoaaGreatDoor
open Gr
open _root_.Go.Proofs.Tryz
open Lib (hid)
set_option maxRecDepth 100000
set_option maxHeartbeats 16000000
open Go.RowKit
def CutSl (A:Option Addr) (c:Nat) (w:World) (e:Ending) (w':World):Prop:=∃n,e=.returned (.slice A n c)/\w'=w
theorem zsu (A:Option Addr) (c:Nat) (l:List UInt8) (hl:l.length<=1073741823) (hc:l.length<=c) (w:World) (B:Nat) (h:RowAt byteL w B A l):
 Calls prog 106 #[.slice A l.length c] w (CutSl A c w):=by
 go_enter func106,ntmps106;go_wp2_with fail;go_loop [0] (fun s0=>∃k:Nat,k<=l.length/\s0=.slice A k c) (fun s0=>match s0 with| .slice _ n _=>n|_=>0)
 case atStart=>exact⟨_,Nat.le_refl _,rfl⟩
 case round=>
  obtain⟨k,hk,rfl⟩:=hrel;by_cases h0:0<k
  ·obtain⟨j,rfl⟩:∃j,k=j+1:=⟨k-1,by omega⟩
   have hcut:=fun W=>zii A (j+1) c j (by omega) W
   obtain⟨ad,rfl,_,y0⟩:=zxg h (show j<l.length by omega);obtain⟨b,hb⟩:∃b:Nat,(l[j]'(by omega)).toNat=b:=⟨_,rfl⟩
   rw[hb]at y0;have hbl:b<256:=by rw[<-hb];exact(l[j]'(by omega)).toNat_lt
   clear hb;by_cases hz:b=0
   ·subst hz;go_wp2;go_round
    case rel=>exact⟨j,by omega,rfl⟩
    case measure=>simp
   ·have hz1:¬((b:Int)=0):=by omega
    have hz2:((b:Int)==0)=false:=by simpa using hz1
    go_wp2;go_ret;exact⟨_,rfl,rfl⟩
  ·obtain rfl:k=0:=by omega
   go_wp2;go_ret;exact⟨_,rfl,rfl⟩
def zvs (ok:Bool) (w:World) (e:Ending) (w':World):Prop:=∃b A n c,e=.returned (.tuple #[.agg #[.bool b,.slice A n c],.bool ok])/\Below w.heap.size w w'
theorem zjz (n:Gr.Str) (hl:n.length<=1073741823) (w:World):
 Calls prog 88 #[.string ⟨n.toArray⟩] w (zvs (intB n) w):=by
 obtain⟨s,hs⟩:=ex (intS n)
 have HIB:Hid (intB n=if s.length=0\/s.length>400\/(s.head?=some 48/\n.length>1)then false else s.all Gr.dig):=hid (by unfold intB;rw[hs]);have hsn:s.length<=n.length:=by rw[<-hs];unfold intS;split<;>simp
 have hsl:s.length<=1073741823:=by omega
 have HSE:=hid hs;obtain⟨sg,hsg⟩:∃sg,decide (n.length>1/\n.head?=some 45)=sg:=⟨_,rfl⟩
 have HSG:=hid hsg;clear hs hsn hsg;go_enter func88,ntmps88;go_upto_region 3 with fail;obtain⟨w0,hw0⟩:=ex ((w.alloc (.cells #[.bool false,.slice none 0 0] 121)).alloc (.cells #[.bool false,.slice none 0 0] 121))
 obtain⟨zb,hzb⟩:=ex w.heap.size
 have HZB:=hid hzb;have HB0:Hid (Blk w0 (zb+1) 121 #[.bool false,.slice none 0 0]/\Blk w0 zb 121 #[.bool false,.slice none 0 0]/\Below zb w w0/\w0.heap.size=zb+1+1):=hid (by
  rw[<-hw0,<-hzb];have b1:=Blk.new (w.alloc (.cells #[.bool false,.slice none 0 0] 121)) 121 #[.bool false,.slice none 0 0];rw[World.size_alloc]at b1;exact⟨b1,(Blk.new _ _ _).alloc _,((Below.refl _ _).alloc (Nat.le_refl _) _).alloc (by simp) _,by simp⟩)
 (try rw[hw0]);(try rw[hzb]);clear hw0 hzb;go_cut [16] (fun s16 wx=>s16=.bool sg/\wx=w0)
 case first=>
  by_cases h1:1<n.length
  ·have h1I:(1:Int)<(n.length:Int):=by omega
   have h0:0<n.length:=by omega
   obtain⟨c0,hc0⟩:=ex (n[0]'(by omega))
   have hhd:n.head?=some c0:=by rw[List.head?_eq_getElem?,List.getElem?_eq_getElem (by omega),hc0]
   by_cases h2:c0=45
   ·have hb1:=zav n 0 (by omega) c0 45 45 (by decide) hc0 h2;have hb2:=zap n 0 (by omega) c0 45 45 (by decide) hc0 h2;have HX:Hid (sg=true):=hid (by rw[<-HSG.out,hhd,h2];exact decide_eq_true ⟨h1,rfl⟩);clear hhd hc0 h2;go_wp2;go_meet;exact⟨by rw[HX.out],rfl⟩
   ·have hb1:=zan n 0 (by omega) c0 45 45 (by decide) hc0 h2;have hb2:=zaq n 0 (by omega) c0 45 45 (by decide) hc0 h2;have HX:Hid (sg=false):=hid (by rw[<-HSG.out,hhd];exact decide_eq_false (fun h=>h2 (Option.some.inj h.2)));clear hhd hc0 h2;go_wp2;go_meet;exact⟨by rw[HX.out],rfl⟩
  ·have h1I:¬(1:Int)<(n.length:Int):=by omega
   have HX:Hid (sg=false):=hid (by rw[<-HSG.out];exact decide_eq_false (fun h=>h1 h.1));go_wp2;go_meet;exact⟨by rw[HX.out],rfl⟩
 case rest=>
 obtain⟨rfl,rfl⟩:=hcut;obtain⟨w0,hw0⟩:∃w0,w0=wc:=⟨_,rfl⟩
 subst hw0;go_upto_if 16 with fail;go_cut [5] (fun s5 wx=>s5=.string ⟨s.toArray⟩/\Hid (Blk wx (zb+1) 121 #[.bool sg,.slice none 0 0]/\Blk wx zb 121 #[.bool false,.slice none 0 0]/\Below zb w wx/\wx.heap.size=zb+1+1))
 case first=>
  have q2:w0.cell? ⟨zb+1,0,none⟩=some (.bool false):=HB0.out.1.cell 0;have p1:∀j,w0.frozen? ⟨zb+1,j,none⟩=false:=HB0.out.1.frozen;cases sg with
  |true=>
   have h1:n.length>1/\n.head?=some 45:=of_decide_eq_true HSG.out;have HSX:Hid ((⟨n.toArray⟩:ByteArray).extract 1 n.length=⟨s.toArray⟩):=hid (by
    rw[zas,List.take_of_length_le (by simp),<-HSE.out];unfold intS;rw[if_pos h1,List.drop_one])
   have h1I:(1:Int)<=(n.length:Int):=by omega
   have h1N:1<=n.length:=by omega
   clear h1;go_wp2;go_meet;exact⟨by rw[HSX.out],hid ⟨HB0.out.1.set_ 0 _,HB0.out.2.1.far (by simp) _,HB0.out.2.2.1.setCell (by simp) _,by simp[World.setCell];exact HB0.out.2.2.2⟩⟩
  |false=>
   have HSX:Hid (n=s):=hid (by
    rw[<-HSE.out];unfold intS;rw[if_neg (of_decide_eq_false HSG.out)])
   go_wp2;go_meet;exact⟨by rw[HSX.out],HB0⟩
 case rest=>
 obtain⟨rfl,HBC⟩:=hcut;obtain⟨w1,hw1⟩:∃w1,w1=wc:=⟨_,rfl⟩
 subst hw1;have HBB:Hid (Blk w1 (zb+1) 121 #[.bool sg,.slice none 0 0]/\Blk w1 zb 121 #[.bool false,.slice none 0 0]/\Below zb w w1):=hid ⟨HBC.out.1,HBC.out.2.1,HBC.out.2.2.1⟩;have HBI:=hid HBC.out.2.2.2;clear HB0 HBC HSE HSG;obtain⟨bad,hbad⟩:∃bad,decide (s.length=0\/s.length>400\/(s.head?=some 48/\n.length>1))=bad:=⟨_,rfl⟩
 have HBD:=hid hbad;clear hbad;go_upto_region 6 with fail;go_cut [37] (fun s37 wx=>s37=.bool bad/\wx=w1)
 case first=>
  by_cases hz:s.length=0
  ·have HX:Hid (bad=true):=hid (by rw[<-HBD.out];exact decide_eq_true (.inl hz));have hzI:(s.length:Int)=0:=by omega
   obtain rfl:=List.eq_nil_of_length_eq_zero hz;clear hz hzI;go_wp2;go_meet;exact⟨by rw[HX.out],rfl⟩
  ·have hz0:0<s.length:=by omega
   have hzI:¬((s.length:Int)=0):=by omega
   have hzb2:((s.length:Int)==0)=false:=by rw[beq_eq_false_iff_ne];exact hzI
   by_cases h4:s.length>400
   ·have HX:Hid (bad=true):=hid (by rw[<-HBD.out];exact decide_eq_true (.inr (.inl h4)));have h4I:(400:Int)<(s.length:Int):=by omega
    go_wp2;go_meet;exact⟨by rw[HX.out],rfl⟩
   ·have h4I:¬(400:Int)<(s.length:Int):=by omega
    obtain⟨c1,hc1⟩:=ex (s[0]'(by omega))
    have hhd:s.head?=some c1:=by rw[List.head?_eq_getElem?,List.getElem?_eq_getElem (by omega),hc1]
    by_cases hc48:c1=48
    ·have hb1:=zav s 0 (by omega) c1 48 48 (by decide) hc1 hc48;have hb2:=zap s 0 (by omega) c1 48 48 (by decide) hc1 hc48;obtain⟨m1,hm1⟩:=ex (decide ((1:Int)<(n.length:Int)))
     have HX:Hid (bad=m1):=hid (by rw[<-HBD.out,<-hm1,hhd,hc48];exact decide_eq_decide.2 ⟨fun h=>h.elim (fun h=>absurd h hz) fun h=>h.elim (fun h=>absurd h h4) fun h=>by omega,fun h=>.inr (.inr ⟨rfl,by omega⟩)⟩);clear hhd hc1 hc48;cases m1
     ·have h1:=of_decide_eq_false hm1;clear hm1;go_wp2;go_meet;exact⟨by rw[HX.out],rfl⟩
     ·have h1:=of_decide_eq_true hm1;clear hm1;go_wp2;go_meet;exact⟨by rw[HX.out],rfl⟩
    ·have HX:Hid (bad=false):=hid (by rw[<-HBD.out,hhd];exact decide_eq_false (fun h=>h.elim hz fun h=>h.elim h4 fun h=>hc48 (Option.some.inj h.1)));have hb1:=zan s 0 (by omega) c1 48 48 (by decide) hc1 hc48;have hb2:=zaq s 0 (by omega) c1 48 48 (by decide) hc1 hc48;clear hhd hc1 hc48;go_wp2;go_meet;exact⟨by rw[HX.out],rfl⟩
 case rest=>
 obtain⟨rfl,rfl⟩:=hcut;obtain⟨w1,hw1⟩:∃w1,w1=wc:=⟨_,rfl⟩
 subst hw1;have p0:∀j,w1.frozen? ⟨zb,j,none⟩=false:=HBB.out.2.1.frozen;have p1:∀j,w1.frozen? ⟨zb+1,j,none⟩=false:=HBB.out.1.frozen;obtain⟨q0,q1⟩:=cells2 HBB.out.2.1;cases bad with
 |true=>
  have HF:Hid (intB n=false):=hid (by rw[HIB.out,if_pos (of_decide_eq_true HBD.out)]);go_wp2_with fail;obtain⟨e0,e1⟩:=cells2 ((HBB.out.2.1.set_ 0 (.bool false)).set_ 1 (.slice none 0 0));refine bodyPost_ret (v:=.tuple #[.agg #[.bool false,.slice none 0 0],.bool false]) (by simp[results,results88,go_sem,e0,e1]) rfl ?_;rw[HF.out];exact⟨false,none,0,0,rfl,by rw[HZB.out];exact(HBB.out.2.2.setCell (p:=⟨zb,0,none⟩) (by simp) _).setCell (p:=⟨zb,1,none⟩) (by simp) _⟩
 |false=>
  obtain⟨q2,q3⟩:=cells2 HBB.out.1;have HIF:Hid (intB n=s.all Gr.dig):=hid (by rw[HIB.out,if_neg (of_decide_eq_false HBD.out)]);have hmk:=fun W=>zcw s.length (by omega) W
  have hz1:zb+1<w1.heap.size:=by have:=HBI.out;omega
  have hz2:zb<w1.heap.size:=by omega
  go_upto_region 10 with fail;obtain⟨w2,hw2⟩:=ex ((w1.setCell ⟨zb+1,1,none⟩ (.slice (some ⟨w1.heap.size,0,none⟩) s.length s.length)).alloc (.cells (ucells (List.replicate s.length 0)) 5))
  obtain⟨db,hdb⟩:=ex w1.heap.size
  have HZ2:Hid (Blk w2 zb 121 #[.bool false,.slice none 0 0]/\Blk w2 (zb+1) 121 #[.bool sg,.slice (some ⟨db,0,none⟩) s.length s.length]/\Blk w2 db 5 (ucells (List.replicate s.length 0))/\Below zb w w2):=hid (by
   rw[<-hw2,<-hdb];refine⟨(HBB.out.2.1.far (by simp) _).alloc _,(HBB.out.1.set_ 1 _).alloc _,?_,?_⟩
   ·have:=Blk.new (w1.setCell ⟨zb+1,1,none⟩ (.slice (some ⟨w1.heap.size,0,none⟩) s.length s.length)) 5 (ucells (List.replicate s.length 0));rwa[show(w1.setCell ⟨zb+1,1,none⟩ (.slice (some ⟨w1.heap.size,0,none⟩) s.length s.length)).heap.size=w1.heap.size from by simp[World.setCell]]at this
   ·exact(HBB.out.2.2.setCell (by simp) _).alloc (by simp[World.setCell];omega) _)
  have HDB:Hid (zb+1<db):=hid (by omega);(try rw[hdb]at hw2);(try rw[hdb]);(try rw[hw2]);clear hw2 hdb hz1 hz2 p0 p1 q0 q1 q2 q3 hmk;go_loopw [45] (fun s45 wr=>∃k:Nat,k<=s.length/\s45=.int .i64 k/\Hid ((s.take k).all Gr.dig=true/\∃l:List UInt8,l.length=s.length/\Blk wr zb 121 #[.bool false,.slice none 0 0]/\Blk wr (zb+1) 121 #[.bool sg,.slice (some ⟨db,0,none⟩) s.length s.length]/\Blk wr db 5 (ucells l)/\Below zb w wr)) (fun s45 _=>s.length-(intOf s45).toNat)
  case atStart=>exact⟨0,by omega,rfl,hid ⟨by simp,List.replicate s.length 0,by simp,HZ2.out⟩⟩
  case round=>
   obtain⟨k,hk,rfl,HV⟩:=hrel;obtain⟨hdig,l,hll,v0,v1,vd,vb⟩:=HV.out;by_cases hlt:k<s.length
   ·have hltI:(k:Int)<(s.length:Int):=by omega
    obtain⟨b,hb⟩:∃b:Nat,(s[k]'(by omega)).toNat=b:=⟨_,rfl⟩
    have hbv:(((⟨s.toArray⟩:ByteArray)[k]'(by simpa[ByteArray.size]using hlt)).toNat:Int)=(b:Int):=by rw[<-hb];rfl
    have hTK:(s.take (k+1)).all Gr.dig=(decide (48<=b) && decide (b<=57)):=by
     rw[List.take_succ_eq_append_getElem hlt,List.all_append,hdig];have:Gr.dig (s[k]'(by omega))=(decide (48<=b) && decide (b<=57)):=by
      unfold Gr.dig;rw[<-hb];simp[UInt8.le_iff_toNat_le]
     simp[this]
    have hbl:b<256:=by rw[<-hb];exact(s[k]'(by omega)).toNat_lt
    have HALL:Hid ((decide (48<=b) && decide (b<=57))=false->intB n=false):=hid (fun e=>by
     rw[HIF.out,List.all_eq_false];have h3:(s.take (k+1)).all Gr.dig=false:=by rw[hTK,e]
     obtain⟨x,hx,hxd⟩:=List.all_eq_false.1 h3;exact⟨x,List.mem_of_mem_take hx,hxd⟩)
    have g0:=v0.cell 0;have HTK:=hid hTK;have HV0:=hid v0;have HV1:=hid v1;have HVD:=hid vd;have HVB:=hid vb;have HLL:=hid hll;have pf0:∀j,wr.frozen? ⟨zb,j,none⟩=false:=v0.frozen;obtain⟨pc0,pc1⟩:=cells2 v0;have pc2:wr.cell? ⟨zb+1,1,none⟩=some (.slice (some ⟨db,0,none⟩) s.length s.length):=v1.cell 1;clear hTK hb hdig v0 v1 vd vb hll g0;by_cases h48:48<=b
    ·by_cases h57:b<=57
     ·have a1:¬((b:Int)<48):=by omega
      have a2:¬((57:Int)<(b:Int)):=by omega
      have i1:(0:Int)<=(s.length:Int)-1-(k:Int):=by omega
      have i2:(s.length:Int)-1-(k:Int)<(s.length:Int):=by omega
      have pfd:∀j,wr.frozen? ⟨db,j,none⟩=false:=HVD.out.frozen;have a48:(48:Int)<=(b:Int):=by omega
      have a57:(b:Int)<=57:=by omega
      obtain⟨dv,zd⟩:∃dv,wr.cell? ⟨db,s.length-1-k,none⟩=some dv:=by
       rw[HVD.out.cell];refine⟨_,Array.getElem?_eq_getElem (i:=s.length-1-k) ?_⟩;have:=HLL.out;simp[ucells];omega
      go_upto_region 14 with fail;go_region
      all_goals go_wp2_with fail
      obtain⟨xb,hxb⟩:∃xb:UInt8,(xb.toNat:Int)=(b:Int)-48:=⟨UInt8.ofNat (b-48),by rw[UInt8.toNat_ofNat'];omega⟩
      rw[<-hxb];have hne:zb≠db:=by have:=HDB.out;omega
      have hne1:zb+1≠db:=by have:=HDB.out;omega
      have HN:Hid ((s.take (k+1)).all Gr.dig=true/\∃l2:List UInt8,l2.length=s.length/\Blk (wr.setCell ⟨db,s.length-1-k,none⟩ (.int .u8 (xb.toNat:Int))).drew zb 121 #[.bool false,.slice none 0 0]/\Blk (wr.setCell ⟨db,s.length-1-k,none⟩ (.int .u8 (xb.toNat:Int))).drew (zb+1) 121 #[.bool sg,.slice (some ⟨db,0,none⟩) s.length s.length]/\Blk (wr.setCell ⟨db,s.length-1-k,none⟩ (.int .u8 (xb.toNat:Int))).drew db 5 (ucells l2)/\Below zb w (wr.setCell ⟨db,s.length-1-k,none⟩ (.int .u8 (xb.toNat:Int))).drew):=hid ⟨by rw[HTK.out];simp[h48,h57],l.set (s.length-1-k) xb,by simp[HLL.out],(HV0.out.far hne _).drew,(HV1.out.far hne1 _).drew,by
       rw[<-zd0];exact(HVD.out.set_ _ _).drew,below_drewN (HVB.out.setCell (by have:=HDB.out;simp;omega) _) 1⟩
      go_roundw
      case rel=>exact⟨k+1,by omega,by go_num,HN⟩
      case measure=>simp[intOf];omega
     ·have HF:Hid (intB n=false):=hid (HALL.out (by simp[h57]));have a1:¬((b:Int)<48):=by omega
      have a2:((57:Int)<(b:Int)):=by omega
      clear pc2;go_wp2_with fail;obtain⟨e0,e1⟩:=cells2 ((HV0.out.set_ 0 (.bool false)).set_ 1 (.slice none 0 0));refine bodyPost_ret (v:=.tuple #[.agg #[.bool false,.slice none 0 0],.bool false]) (by simp[results,results88,go_sem,e0,e1]) rfl ?_;rw[HF.out];exact⟨false,none,0,0,rfl,by rw[HZB.out];exact(HVB.out.setCell (p:=⟨zb,0,none⟩) (by simp) _).setCell (p:=⟨zb,1,none⟩) (by simp) _⟩
    ·have HF:Hid (intB n=false):=hid (HALL.out (by simp[h48]));have a1:((b:Int)<48):=by omega
     clear pc2;go_wp2_with fail;obtain⟨e0,e1⟩:=cells2 ((HV0.out.set_ 0 (.bool false)).set_ 1 (.slice none 0 0));refine bodyPost_ret (v:=.tuple #[.agg #[.bool false,.slice none 0 0],.bool false]) (by simp[results,results88,go_sem,e0,e1]) rfl ?_;rw[HF.out];exact⟨false,none,0,0,rfl,by rw[HZB.out];exact(HVB.out.setCell (p:=⟨zb,0,none⟩) (by simp) _).setCell (p:=⟨zb,1,none⟩) (by simp) _⟩
   ·have hltI:¬(k:Int)<(s.length:Int):=by omega
    have HF:Hid (intB n=true):=hid (by
     rw[HIF.out];rwa[show k=s.length from by omega,List.take_length]at hdig)
    have HT:=hid (zsu (some ⟨db,0,none⟩) s.length l (by omega) (by omega) wr (db+1) (RowAt.ofBlk vd (zar l) (by omega)));rw[hll]at HT;have pf0:∀j,wr.frozen? ⟨zb,j,none⟩=false:=v0.frozen;have pf1:∀j,wr.frozen? ⟨zb+1,j,none⟩=false:=v1.frozen;obtain⟨pc0,pc1⟩:=cells2 v0;obtain⟨pc3,pc2⟩:=cells2 v1;have HV0:=hid v0;have HV1:=hid v1;have HVB:=hid vb;clear v0 v1 vd vb hll hdig;go_wp2_with fail;refine HT.out.mono ?_;rintro e w5 ⟨m,rfl,hw5⟩;subst hw5;go_wp2_with fail;have b0:=((HV0.out.far (p:=⟨zb+1,1,none⟩) (by simp) (.slice (some ⟨db,0,none⟩) m s.length)).set_ 0 (.bool sg)).set_ 1 (.slice (some ⟨db,0,none⟩) m s.length);obtain⟨e0,e1⟩:=cells2 b0;refine bodyPost_ret (v:=.tuple #[.agg #[.bool sg,.slice (some ⟨db,0,none⟩) m s.length],.bool true]) (by simp[results,results88,go_sem,e0,e1]) rfl ?_;rw[HF.out];exact⟨sg,_,_,_,rfl,by rw[HZB.out];exact((HVB.out.setCell (p:=⟨zb+1,1,none⟩) (by simp) _).setCell (p:=⟨zb,0,none⟩) (by simp) _).setCell (p:=⟨zb,1,none⟩) (by simp) _⟩
theorem zck (f:Nat) (w:World):(callFunc 157 #[.float .f64 f]).run prog w=.ok (.value (.int .u64 f)) w:=by
 rw[run_callFunc_extern func157 (by kernel_rfl) (by kernel_rfl) (by kernel_rfl) (e:=Extern.MathFloatBits.float64bits) (by kernel_rfl)];rfl
theorem zay (n:Int) (w:World):(callFunc 147 #[.int .u64 n]).run prog w=.ok (.value (.float .f64 n.toNat)) w:=by
 rw[run_callFunc_extern func147 (by kernel_rfl) (by kernel_rfl) (by kernel_rfl) (e:=Extern.MathFloatBits.float64frombits) (by kernel_rfl)];rfl
theorem zg9 (f:Nat) (hf:f<9223372036854775808) (w:World):Calls prog 180 #[.float .f64 f] w fun e w'=>e=.returned (.float .f64 f)/\w=w':=by
 have c1:=fun W=>zck f W
 have c2:=fun W=>zay (f:Int) W
 have c3:=zjy f hf;go_enter func180,ntmps180;go_wp2;go_ret;exact⟨rfl,rfl⟩
theorem zpr (f:Nat) (hf:f<9223372036854775808) (w:World):Calls prog 153 #[.float .f64 f] w fun e w'=>e=.returned (.bool false)/\w=w':=by
 have c1:=fun W=>zck f W
 have h0:(0:Int)<=(f:Int):=by omega
 have h1:(f:Int)<=9223372036854775807:=by omega
 have h2:IntKind.i64.wrap (f:Int)=(f:Int):=IntWalk.i64_in _ (by omega);have h3:decide ((f:Int)<0)=false:=by simp
 go_enter func153,ntmps153;go_wp2;go_ret;exact⟨rfl,rfl⟩
theorem zla (f:Nat) (hf:f<9223372036854775808) (ho:(FloatKind.f64.format.order f 9218868437227405311==some Ordering.gt)=false) (w:World):Calls prog 154 #[.float .f64 f,.int .i64 0] w fun e w'=>e=.returned (.bool false)/\w=w':=by
 have HA:=hid (fun W=>zg9 f hf W);go_enter func154,ntmps154;go_wp2_with fail;refine(HA.out _).mono ?_;rintro e w1 ⟨rfl,rfl⟩;go_wp2;go_ret;exact⟨rfl,rfl⟩
theorem zst (f:Nat) (ho:(FloatKind.f64.format.order f f != some Ordering.eq)=false) (w:World):Calls prog 178 #[.float .f64 f] w fun e w'=>e=.returned (.bool false)/\w=w':=by
 go_enter func178,ntmps178;go_wp2;go_ret;exact⟨rfl,rfl⟩
theorem zps (f:Nat) (hf:f<9223372036854775808) (ho:(FloatKind.f64.format.order f 4503599627370496==some Ordering.lt)=false) (w:World):Calls prog 179 #[.float .f64 f] w fun e w'=>e=.returned (.tuple #[.float .f64 f,.int .i64 0])/\w=w':=by
 have HA:=hid (fun W=>zg9 f hf W);go_enter func179,ntmps179;go_wp2_with fail;refine(HA.out _).mono ?_;rintro e w1 ⟨rfl,rfl⟩;go_wp2;go_ret2;exact⟨rfl,rfl⟩
namespace Flt
section
variable {m L:Nat} {e:Int}
theorem Fits.o_max (h:Fits m L e):(FloatKind.f64.format.order (fw m L e) 9218868437227405311==some Ordering.gt)=false:=by
 show(Ieee.double.order (fw m L e) 9218868437227405311==some Ordering.gt)=false;rcases h.order_max with h1|h1<;>rw[h1]<;>rfl
theorem Fits.o_self (h:Fits m L e):(FloatKind.f64.format.order (fw m L e) (fw m L e) != some Ordering.eq)=false:=by
 show(Ieee.double.order (fw m L e) (fw m L e) != some Ordering.eq)=false;rw[h.order_self];rfl
theorem Fits.o_zero (h:Fits m L e):(FloatKind.f64.format.order (fw m L e) 0==some Ordering.eq)=false:=by
 show(Ieee.double.order (fw m L e) 0==some Ordering.eq)=false;rw[h.order_zero];rfl
theorem Fits.at0 (h:Fits m L e):Fits m L 0:=⟨h.odd,h.lo,h.hi,h.len,by omega,by have:=h.len;omega⟩
theorem Fits.o_norm (h:Fits m L 0):(FloatKind.f64.format.order (fw m L 0) 4503599627370496==some Ordering.lt)=false:=by
 show(Ieee.double.order (fw m L 0) 4503599627370496==some Ordering.lt)=false;obtain⟨a,b,c,d,f⟩:=h.sig_bd;have hlen:=h.len;have hlp:lastP L 0=(L:Int)-52:=by unfold lastP;omega
 have c2:4503599627370496<=sig m L 0:=by rcases c with c|c<;>omega
 unfold Ieee.Format.order;have r0:Ieee.double.read 4503599627370496=.number false 4503599627370496 (-1074):=by decide
 rw[h.read,r0];simp only[Ieee.Datum.order,Ieee.signed,Bool.false_eq_true,if_false];rw[show min (lastP L 0) (-1074)=-1074 from by omega,show((-1074:Int)- -1074).toNat=0 from rfl,Nat.shiftLeft_zero,Nat.shiftLeft_eq];have:sig m L 0<=sig m L 0*2 ^ (lastP L 0- -1074).toNat:=Nat.le_mul_of_pos_right _ (Nat.two_pow_pos _);generalize sig m L 0*2 ^ (lastP L 0- -1074).toNat=N at this;simp only[compare,compareOfLessAndEq];rw[if_neg (by omega)];split<;>rfl
theorem Fits.fw0 (h:Fits m L 0):fw m L 0=(L+1022)*4503599627370496+m*2 ^ (52-L):=by
 have hlen:=h.len;have hlp:lastP L 0=(L:Int)-52:=by unfold lastP;omega
 unfold fw sig;rw[hlp,show((L:Int)-52+1074).toNat=L+1022 from by omega,show(0-((L:Int)-52)).toNat=52-L from by omega]
theorem Fits.parts0 (h:Fits m L 0):fw m L 0 /4503599627370496=L+1023/\fw m L 0%4503599627370496=m*2 ^ (52-L)-4503599627370496:=by
 obtain⟨f1,f2⟩:=h.full;rw[h.fw0];omega
end
end Flt
open Flt in
theorem zpt (m L:Nat) (e:Int) (h:Flt.Fits m L e) (f:Nat) (hf:fw m L 0=f) (w:World):Calls prog 152 #[.float .f64 f,.int .i64 e] w fun r w'=>r=.returned (.float .f64 (fw m L e))/\w=w':=by
 have h0:=h.at0;have hlt:=h0.fw_lt.2;have o1:=h0.o_zero;have HI:=hid (fun W=>zla f (by omega) (by rw[<-hf];exact h0.o_max) W);have HN:=hid (fun W=>zst f (by rw[<-hf];exact h0.o_self) W);have HO:=hid (fun W=>zps f (by omega) (by rw[<-hf];exact h0.o_norm) W);obtain⟨pk,pq⟩:=h0.parts0;rw[hf]at o1 pk pq hlt;have c1:=fun W=>zck f W
 have hlen:=h.len;have he0:=h.e0;have he1:=h.e1;have HX:=hid h;have i1:(f:Int) /4503599627370496=(L:Int)+1023:=by omega
 have i2:IntKind.i64.wrap ((L:Int)+1023)=(L:Int)+1023:=IntWalk.i64_in _ (by omega);have i3:bits .and .i64 ((L:Int)+1023) 2047=(L:Int)+1023:=by have:=zvq (L+1023) (by omega);simpa using this
 have i4:bits .andNot .u64 (f:Int) 9218868437227405312=((m*2 ^ (52-L)-4503599627370496:Nat):Int):=by rw[zms f (by omega),pq]
 have hq:m*2 ^ (52-L)-4503599627370496<4503599627370496:=by omega
 by_cases hn:-1022<=e+L
 ·obtain⟨X,hX⟩:=ex ((e+L+1023).toNat*4503599627370496+(m*2 ^ (52-L)-4503599627370496))
  have hM:=HX.out.mul_one hn;have i5:bits .or .u64 ((m*2 ^ (52-L)-4503599627370496:Nat):Int) ((e+(L:Int)+1023)*4503599627370496)=(X:Int):=by
   have:=zpq (m*2 ^ (52-L)-4503599627370496) (e+L+1023).toNat hq (by omega);rw[hX]at this;rw[show(e+(L:Int)+1023)*4503599627370496=(((e+L+1023).toNat*4503599627370496:Nat):Int)from by omega];exact this
  rw[hX]at hM;have c2:=fun W=>zay (X:Int) W
  have c3:=fun W=>run_float_arith (P:=prog) (w:=W) .mul 128 .f64 4607182418800017408 X (fw m L e) hM
  obtain⟨Q,hQ⟩:=ex (m*2 ^ (52-L)-4503599627370496)
  rw[hQ]at i4 i5;clear h h0 hf pk pq hq hX hM hQ;go_enter func152,ntmps152;go_wp2_with (first| ((with_reducible refine(HI.out _).mono ?_);rintro _ _ ⟨rfl,rfl⟩)| ((with_reducible refine(HN.out _).mono ?_);rintro _ _ ⟨rfl,rfl⟩)| ((with_reducible refine(HO.out _).mono ?_);rintro _ _ ⟨rfl,rfl⟩));go_ret;exact⟨rfl,rfl⟩
 ·obtain⟨X,hX⟩:=ex ((e+L+1076).toNat*4503599627370496+(m*2 ^ (52-L)-4503599627370496))
  have hM:=HX.out.mul_small (by omega);have i5:bits .or .u64 ((m*2 ^ (52-L)-4503599627370496:Nat):Int) ((e+(L:Int)+53+1023)*4503599627370496)=(X:Int):=by
   have:=zpq (m*2 ^ (52-L)-4503599627370496) (e+L+1076).toNat hq (by omega);rw[hX]at this;rw[show(e+(L:Int)+53+1023)*4503599627370496=(((e+L+1076).toNat*4503599627370496:Nat):Int)from by omega];exact this
  rw[hX]at hM;have c2:=fun W=>zay (X:Int) W
  have c3:=fun W=>run_float_arith (P:=prog) (w:=W) .mul 128 .f64 4368491638549381120 X (fw m L e) hM
  obtain⟨Q,hQ⟩:=ex (m*2 ^ (52-L)-4503599627370496)
  rw[hQ]at i4 i5;clear h h0 hf pk pq hq hX hM hQ;go_enter func152,ntmps152;go_wp2_with (first| ((with_reducible refine(HI.out _).mono ?_);rintro _ _ ⟨rfl,rfl⟩)| ((with_reducible refine(HN.out _).mono ?_);rintro _ _ ⟨rfl,rfl⟩)| ((with_reducible refine(HO.out _).mono ?_);rintro _ _ ⟨rfl,rfl⟩));go_ret;exact⟨rfl,rfl⟩
namespace Utf
def rowOf (c:Nat):Nat×Nat×Nat×Nat:=
 if 192<=c/\c<224 then(2,c-192,128,2047)
 else if 224<=c/\c<240 then(3,c-224,2048,65535)
 else if 240<=c/\c<248 then(4,c-240,65536,1114111)
 else(0,0,0,0)
def goOn:Nat->Str->Option Nat
 |v,[]=>some v
 |v,c::r=>if c<128 || 191<c then none else goOn (64*v+(c.toNat-128)) r
def widen:Nat->Nat×Nat->Nat×Nat
 | 0,p=>p
 |k+1,p=>widen k (64*p.1,64*p.2+63)
def begins (b:Str):Nat×Nat:=
 match b with
 | []=>(0,0)
 |c::r=>
  if c<128/\r=[]then(c.toNat,1)
  else
   let n:=(rowOf c.toNat).1
   if r.length+1>n then(0,0)
   else match goOn (rowOf c.toNat).2.1 r with
    |none=>(0,0)
    |some v=>
     let p:=widen (n-(r.length+1)) (v,v)
     if p.2<(rowOf c.toNat).2.2.1\/p.1>(rowOf c.toNat).2.2.2\/(p.1>=55296/\p.2<=57343)then(0,0)else(p.1,n)
def refAt (r:Str):Nat×Nat:=
 if 1<=r.length/\(begins (r.take 1)).2=1 then begins (r.take 1)
 else if 2<=r.length/\(begins (r.take 2)).2=2 then begins (r.take 2)
 else if 3<=r.length/\(begins (r.take 3)).2=3 then begins (r.take 3)
 else if 4<=r.length/\(begins (r.take 4)).2=4 then begins (r.take 4)
 else(0,0)
end Utf
end Go.Proofs.YtoigpackhninoaaGreatDoor
namespace Go.Proofs.YtoigpackhninoaaGreatDoor
namespace Utf
theorem lt8 (c:UInt8) (k:Nat) (hk:k<256):(c<UInt8.ofNat k)↔c.toNat<k:=by
 rw[UInt8.lt_iff_toNat_lt,UInt8.toNat_ofNat_of_lt' (by simpa using hk)]
theorem gt8 (c:UInt8) (k:Nat) (hk:k<256):(UInt8.ofNat k<c)↔k<c.toNat:=by
 rw[UInt8.lt_iff_toNat_lt,UInt8.toNat_ofNat_of_lt' (by simpa using hk)]
def isC (d:UInt8):Bool:=decide (128<=d.toNat) && decide (d.toNat<=191)
theorem zb8 (v:Nat) (d:UInt8) (r:Str):goOn v (d::r)=if isC d then goOn (64*v+(d.toNat-128)) r else none:=by
 have h1:(d<128)↔d.toNat<128:=lt8 d 128 (by omega);have h2:(191<d)↔191<d.toNat:=gt8 d 191 (by omega);rw[goOn];by_cases hd:isC d=true
 ·have:128<=d.toNat/\d.toNat<=191:=by simpa[isC]using hd
  rw[if_pos hd,if_neg];simp[h1,h2];omega
 ·rw[if_neg hd,if_pos];simp only[isC,Bool.and_eq_true,decide_eq_true_eq]at hd;simp[h1,h2];omega
theorem zcy (c d:UInt8) (r:Str):begins (c::d::r)=
 if r.length+2>(rowOf c.toNat).1 then(0,0)
 else match goOn (rowOf c.toNat).2.1 (d::r)with
  |none=>(0,0)
  |some v=>if(widen ((rowOf c.toNat).1-(r.length+2)) (v,v)).2<(rowOf c.toNat).2.2.1\/(widen ((rowOf c.toNat).1-(r.length+2)) (v,v)).1>(rowOf c.toNat).2.2.2\/((widen ((rowOf c.toNat).1-(r.length+2)) (v,v)).1>=55296/\(widen ((rowOf c.toNat).1-(r.length+2)) (v,v)).2<=57343)then(0,0)else((widen ((rowOf c.toNat).1-(r.length+2)) (v,v)).1,(rowOf c.toNat).1):=by
 unfold begins;simp only[reduceCtorEq,and_false,if_false,List.length_cons]
 all_goals rfl
theorem zne (c d:UInt8) (r:Str):(begins (c::d::r)).2=0\/((begins (c::d::r)).2=(rowOf c.toNat).1/\r.length+2<=(rowOf c.toNat).1):=by
 rw[zcy];split
 ·exact .inl rfl
 ·grind
theorem znf (c:UInt8):(begins [c]).2=1↔c.toNat<128:=by
 have hlt:c.toNat<256:=c.toNat_lt;have h1:(c<128)↔c.toNat<128:=by rw[UInt8.lt_iff_toNat_lt];rfl
 unfold begins;simp only[and_true,List.length_nil,h1];by_cases hc:c.toNat<128
 ·simp[hc]
 ·rw[if_neg hc];simp only[hc,iff_false];unfold rowOf;split
  ·simp only[goOn,widen];repeat' split
   all_goals simp
  ·split
   ·simp only[goOn,widen];repeat' split
    all_goals simp
   ·split
    ·simp only[goOn,widen];repeat' split
     all_goals simp
    ·simp
theorem zwl (c:Nat) (h:192<=c/\c<224):rowOf c=(2,c-192,128,2047):=by unfold rowOf;rw[if_pos h]
theorem zrb (c:Nat) (h:224<=c/\c<240):rowOf c=(3,c-224,2048,65535):=by unfold rowOf;rw[if_neg (by omega),if_pos h]
theorem zto (c:Nat) (h:240<=c/\c<248):rowOf c=(4,c-240,65536,1114111):=by unfold rowOf;rw[if_neg (by omega),if_neg (by omega),if_pos h]
theorem ztp (c:Nat) (h:c<192\/248<=c):rowOf c=(0,0,0,0):=by unfold rowOf;rw[if_neg (by omega),if_neg (by omega),if_neg (by omega)]
theorem zdr (c:UInt8) (r:Str) (n:Nat) (hc:¬c.toNat<128) (hn:(rowOf c.toNat).1=n) (_h2:2<=n\/n=0) (h4:n<=4):
 refAt (c::r)=if 2<=n/\n<=r.length+1/\(begins ((c::r).take n)).2=n then begins ((c::r).take n)else(0,0):=by
 have hone:¬(begins ((c::r).take 1)).2=1:=by
  rw[show(c::r).take 1=[c]from rfl,znf];exact hc
 have hoth:∀k,2<=k->k<=r.length+1->k≠n->¬(begins ((c::r).take k)).2=k:=by
  intro k hk hk2 hkn;cases r with
  |nil=>rw[List.length_nil]at hk2;omega
  |cons d q=>
   obtain⟨j,rfl⟩:∃j,k=j+2:=⟨k-2,by omega⟩
   have:=zne c d (q.take j);rw[show(c::d::q).take (j+2)=c::d::q.take j from rfl];have hl:(q.take j).length=j:=by rw[List.length_take];simp only[List.length_cons]at hk2;omega
   intro he;rcases this with h|h
   ·omega
   ·omega
 unfold refAt;rw[if_neg (fun h=>hone h.2),List.length_cons];by_cases a2:n=2
 ·grind
 ·grind
def Agree (s:Str):Prop:=((dec s).1=65533/\(dec s).2=1/\(refAt s).2=0)\/(¬((dec s).1=65533/\(dec s).2=1)/\refAt s=dec s)
theorem zrc (c:UInt8) (r:Str) (hc:c.toNat<128):Agree (c::r):=by
 have h1:(c<128)↔c.toNat<128:=lt8 c 128 (by omega);have hd:dec (c::r)=(c.toNat,1):=by
  unfold dec;simp only[List.getD_cons_zero];rw[if_pos hc]
 have hb:begins [c]=(c.toNat,1):=by
  unfold begins;simp only[and_true,h1,hc,if_true]
 refine .inr ⟨by rw[hd];simp only;omega,?_⟩;rw[hd];unfold refAt;rw[show(c::r).take 1=[c]from rfl,hb,if_pos ⟨by simp,rfl⟩]
theorem zng (c:UInt8) (r:Str) (hc:128<=c.toNat) (h:c.toNat<192\/248<=c.toNat):Agree (c::r):=by
 have hlt:c.toNat<256:=c.toNat_lt;have hd:dec (c::r)=(65533,1):=by
  unfold dec;simp only[List.getD_cons_zero];have e1:(c.toNat /32==6)=false:=by simp;omega
  have e2:(c.toNat /16==14)=false:=by simp;omega
  have e3:(c.toNat /8==30)=false:=by simp;omega
  rw[if_neg (by omega),e1,e2,e3];simp
 refine .inl ⟨by rw[hd],by rw[hd],?_⟩;rw[zdr c r 0 (by omega) (by rw[ztp _ h]) (.inr rfl) (by omega),if_neg (by omega)]
theorem zd5 (d:UInt8):(d.toNat /64==2)=isC d:=by
 have hlt:d.toNat<256:=d.toNat_lt;unfold isC;rw[Bool.eq_iff_iff];simp;omega
theorem zrd (c:UInt8) (r:Str) (h:192<=c.toNat/\c.toNat<224):Agree (c::r):=by
 have hrow:=zwl _ h;have href:=zdr c r 2 (by omega) (by rw[hrow]) (.inl (by omega)) (by omega);have e1:(c.toNat /32==6)=true:=by simp;omega
 have e2:(c.toNat /16==14)=false:=by simp;omega
 have e3:(c.toNat /8==30)=false:=by simp;omega
 cases r with
 |nil=>
  have hd:dec [c]=(65533,1):=by
   unfold dec;simp only[List.getD_cons_zero];rw[if_neg (by omega),e1,e2,e3];simp
  exact .inl ⟨by rw[hd],by rw[hd],by rw[href,if_neg (by simp)]⟩
 |cons d q=>
  have hb:begins ((c::d::q).take 2)=begins [c,d]:=rfl;have hdec:dec (c::d::q)=if isC d then(if 128<=c.toNat%32*64+d.toNat%64 then(c.toNat%32*64+d.toNat%64,2)else(65533,1))else(65533,1):=by
   unfold dec;simp only[List.getD_cons_zero,List.getD_cons_succ,List.length_cons];rw[if_neg (by omega),e1,e2,e3,zd5];simp
  have hval:begins [c,d]=if isC d then(if 128<=c.toNat%32*64+d.toNat%64 then(c.toNat%32*64+d.toNat%64,2)else(0,0))else(0,0):=by
   rw[zcy,hrow,if_neg (by simp),zb8];cases hd:isC d with
   |false=>rfl
   |true=>
    have hd2:128<=d.toNat/\d.toNat<=191:=by simpa[isC]using hd
    have hv:64*(c.toNat-192)+(d.toNat-128)=c.toNat%32*64+d.toNat%64:=by omega
    simp only[if_true,goOn,List.length_nil,Nat.zero_add,Nat.sub_self,widen,hv];by_cases hge:128<=c.toNat%32*64+d.toNat%64
    ·grind
    ·grind
  rw[hb]at href;unfold Agree;rw[hdec,href,hval];cases hd:isC d with
  |false=>simp
  |true=>
   grind
end Utf
end Go.Proofs.YtoigpackhninoaaGreatDoor
namespace Go.Proofs.YtoigpackhninoaaGreatDoor
namespace Utf
theorem zi4 (v:Nat):Utf8.valid (v:Int)=(decide (v<55296) || (decide (57344<=v) && decide (v<=1114111))):=by
 unfold Utf8.valid;rw[Bool.eq_iff_iff];simp only[Bool.or_eq_true,Bool.and_eq_true,decide_eq_true_eq];omega
theorem zkc (c:UInt8) (r:Str) (h:224<=c.toNat/\c.toNat<240):Agree (c::r):=by
 have hrow:=zrb _ h;have href:=zdr c r 3 (by omega) (by rw[hrow]) (.inl (by omega)) (by omega);have e1:(c.toNat /32==6)=false:=by simp;omega
 have e2:(c.toNat /16==14)=true:=by simp;omega
 have e3:(c.toNat /8==30)=false:=by simp;omega
 match r,href with
 | [],href=>
  have hd:dec [c]=(65533,1):=by
   unfold dec;simp only[List.getD_cons_zero];rw[if_neg (by omega),e1,e2,e3];simp
  exact .inl ⟨by rw[hd],by rw[hd],by rw[href,if_neg (by simp)]⟩
 | [d],href=>
  have hd:dec [c,d]=(65533,1):=by
   unfold dec;simp only[List.getD_cons_zero];rw[if_neg (by omega),e1,e2,e3];simp
  exact .inl ⟨by rw[hd],by rw[hd],by rw[href,if_neg (by simp)]⟩
 |d::e::q,href=>
  have hb:begins ((c::d::e::q).take 3)=begins [c,d,e]:=rfl;obtain⟨v,hv⟩:∃v,v=c.toNat%16*4096+d.toNat%64*64+e.toNat%64:=⟨_,rfl⟩
  have hdec:dec (c::d::e::q)=if isC d && isC e then(if 2048<=v/\(v<55296\/57343<v)then(v,3)else(65533,1))else(65533,1):=by
   unfold dec;simp only[List.getD_cons_zero,List.getD_cons_succ,List.length_cons];rw[if_neg (by omega),e1,e2,e3,zd5,zd5,<-hv];have hlen1:decide (1<q.length+1+1+1)=true:=by simp
   have hlen2:decide (2<q.length+1+1+1)=true:=by simp
   rw[hlen1,hlen2];simp only[Bool.false_and,Bool.true_and,Bool.false_eq_true,if_false];have hv2:v<=65535:=by omega
   cases hdd:isC d && isC e with
   |false=>simp
   |true=>
    simp only[if_true,zi4];by_cases hg:2048<=v/\(v<55296\/57343<v)
    ·grind
    ·grind
  have hval:begins [c,d,e]=if isC d && isC e then(if 2048<=v/\(v<55296\/57343<v)then(v,3)else(0,0))else(0,0):=by
   rw[zcy,hrow,if_neg (by simp),zb8];cases hd:isC d with
   |false=>rfl
   |true=>
    rw[if_pos rfl,zb8];cases he:isC e with
    |false=>rfl
    |true=>
     have hd2:128<=d.toNat/\d.toNat<=191:=by simpa[isC]using hd
     have he2:128<=e.toNat/\e.toNat<=191:=by simpa[isC]using he
     have hvv:64*(64*(c.toNat-224)+(d.toNat-128))+(e.toNat-128)=v:=by omega
     have hv2:v<=65535:=by omega
     simp only[if_true,goOn,List.length_nil,List.length_cons,Nat.zero_add,Nat.sub_self,widen,hvv,Bool.and_self];by_cases hg:2048<=v/\(v<55296\/57343<v)
     ·grind
     ·grind
  rw[hb]at href;unfold Agree;rw[hdec,href,hval];cases hd:isC d && isC e with
  |false=>simp
  |true=>
   grind
theorem znh (c:UInt8) (r:Str) (h:240<=c.toNat/\c.toNat<248):Agree (c::r):=by
 have hrow:=zto _ h;have href:=zdr c r 4 (by omega) (by rw[hrow]) (.inl (by omega)) (by omega);have e1:(c.toNat /32==6)=false:=by simp;omega
 have e2:(c.toNat /16==14)=false:=by simp;omega
 have e3:(c.toNat /8==30)=true:=by simp;omega
 have short:r.length<3->Agree (c::r):=by
  intro hl;have hd:dec (c::r)=(65533,1):=by
   unfold dec;simp only[List.getD_cons_zero,List.length_cons];rw[if_neg (by omega),e1,e2,e3];have h3:decide (3<r.length+1)=false:=by simp;omega
   rw[h3];simp
  exact .inl ⟨by rw[hd],by rw[hd],by rw[href,if_neg (by omega)]⟩
 match r,href,short with
 | [],_,short=>exact short (by simp)
 | [_],_,short=>exact short (by simp)
 | [_,_],_,short=>exact short (by simp)
 |d::e::f::q,href,_=>
  have hb:begins ((c::d::e::f::q).take 4)=begins [c,d,e,f]:=rfl;obtain⟨v,hv⟩:∃v,v=c.toNat%8*262144+d.toNat%64*4096+e.toNat%64*64+f.toNat%64:=⟨_,rfl⟩
  have hdec:dec (c::d::e::f::q)=if isC d && isC e && isC f then(if 65536<=v/\v<=1114111 then(v,4)else(65533,1))else(65533,1):=by
   unfold dec;simp only[List.getD_cons_zero,List.getD_cons_succ,List.length_cons];rw[if_neg (by omega),e1,e2,e3,zd5,zd5,zd5,<-hv];have hlen1:decide (1<q.length+1+1+1+1)=true:=by simp
   have hlen2:decide (2<q.length+1+1+1+1)=true:=by simp
   have hlen3:decide (3<q.length+1+1+1+1)=true:=by simp
   rw[hlen1,hlen2,hlen3];simp only[Bool.false_and,Bool.true_and,Bool.false_eq_true,if_false];cases hdd:isC d && isC e && isC f with
   |false=>simp
   |true=>
    simp only[if_true,zi4];by_cases hg:65536<=v/\v<=1114111
    ·grind
    ·grind
  have hval:begins [c,d,e,f]=if isC d && isC e && isC f then(if 65536<=v/\v<=1114111 then(v,4)else(0,0))else(0,0):=by
   rw[zcy,hrow,if_neg (by simp),zb8];cases hd:isC d with
   |false=>rfl
   |true=>
    rw[if_pos rfl,zb8];cases he:isC e with
    |false=>rfl
    |true=>
     rw[if_pos rfl,zb8];cases hf:isC f with
     |false=>rfl
     |true=>
      have hd2:128<=d.toNat/\d.toNat<=191:=by simpa[isC]using hd
      have he2:128<=e.toNat/\e.toNat<=191:=by simpa[isC]using he
      have hf2:128<=f.toNat/\f.toNat<=191:=by simpa[isC]using hf
      have hvv:64*(64*(64*(c.toNat-240)+(d.toNat-128))+(e.toNat-128))+(f.toNat-128)=v:=by omega
      simp only[if_true,goOn,List.length_nil,List.length_cons,Nat.zero_add,Nat.sub_self,widen,hvv,Bool.and_self];by_cases hg:65536<=v/\v<=1114111
      ·grind
      ·grind
  rw[hb]at href;unfold Agree;rw[hdec,href,hval];cases hd:isC d && isC e && isC f with
  |false=>simp
  |true=>
   grind
theorem agree (s:Str) (h:s≠[]):Agree s:=by
 cases s with
 |nil=>exact absurd rfl h
 |cons c r=>
  have hlt:c.toNat<256:=c.toNat_lt;by_cases h1:c.toNat<128
  ·exact zrc c r h1
  ·by_cases h2:c.toNat<192\/248<=c.toNat
   ·exact zng c r (by omega) h2
   ·by_cases h3:c.toNat<224
    ·exact zrd c r (by omega)
    ·by_cases h4:c.toNat<240
     ·exact zkc c r (by omega)
     ·exact znh c r (by omega)
end Utf
end Go.Proofs.YtoigpackhninoaaGreatDoor
namespace Go.Proofs.YtoigpackhninoaaGreatDoor
namespace Utf
end Utf
end Go.Proofs.YtoigpackhninoaaGreatDoor
