/- Walks: integer.Valid. -/
import Derived.Test.YtoigpackhninoaaGreatDoorZ03
import Derived.Test.YtoigpackhninoaaGreatDoorZ13
namespace Go.Proofs.YtoigpackhninoaaGreatDoor
set_option maxRecDepth 100000
set_option maxHeartbeats 16000000
open Go.RowKit
def CutSl (A:Option Addr) (c:Nat) (w:World) (e:Ending) (w':World):Prop:=∃n,e=.returned (.slice A n c)/\w'=w
theorem trim_any (A:Option Addr) (c:Nat) (l:List UInt8) (hl:l.length<=1073741823) (hc:l.length<=c) (w:World) (B:Nat) (h:RowAt byteL w B A l):
 Calls Tryz.prog 106 #[.slice A l.length c] w (CutSl A c w):=by
 go_enter Tryz.func106,Tryz.ntmps106;go_wp2_with fail;go_loop [0] (fun s0=>∃k:Nat,k<=l.length/\s0=.slice A k c) (fun s0=>match s0 with| .slice _ n _=>n|_=>0)
 case atStart=>exact⟨_,Nat.le_refl _,rfl⟩
 case round=>
  obtain⟨k,hk,rfl⟩:=hrel;by_cases h0:0<k
  ·obtain⟨j,rfl⟩:∃j,k=j+1:=⟨k-1,by omega⟩
   have hcut:=fun W=>cut_bytes A (j+1) c j (by omega) W
   obtain⟨ad,rfl,_,y0⟩:=u8_at h (show j<l.length by omega);obtain⟨b,hb⟩:∃b:Nat,(l[j]'(by omega)).toNat=b:=⟨_,rfl⟩
   rw[hb]at y0;have hbl:b<256:=by rw[<-hb];exact(l[j]'(by omega)).toNat_lt
   clear hb;by_cases hz:b=0
   ·subst hz;go_wp2_with fail;go_round
    case rel=>exact⟨j,by omega,rfl⟩
    case measure=>simp
   ·have hz1:¬((b:Int)=0):=by omega
    have hz2:((b:Int)==0)=false:=by simpa using hz1
    go_wp2_with fail;go_ret;exact⟨_,rfl,rfl⟩
  ·obtain rfl:k=0:=by omega
   go_wp2_with fail;go_ret;exact⟨_,rfl,rfl⟩
def IntPost (ok:Bool) (w:World) (e:Ending) (w':World):Prop:=∃b A n c,e=.returned (.tuple #[.agg #[.bool b,.slice A n c],.bool ok])/\Below w.heap.size w w'
theorem intread_any (n:Gr.Str) (hl:n.length<=1073741823) (w:World):
 Calls Tryz.prog 88 #[.string ⟨n.toArray⟩] w (IntPost (Gr.intB n) w):=by
 obtain⟨s,hs⟩:∃s,Gr.intS n=s:=⟨_,rfl⟩
 have HIB:Hid (Gr.intB n=if s.length=0\/s.length>400\/(s.head?=some 48/\n.length>1)then false else s.all Gr.dig):=Lib.hid (by unfold Gr.intB;rw[hs]);have hsn:s.length<=n.length:=by rw[<-hs];unfold Gr.intS;split<;>simp
 have hsl:s.length<=1073741823:=by omega
 have HSE:=Lib.hid hs;have HB:Hid (∀b,Blk ((w.alloc (.cells #[.bool false,.slice none 0 0] 121)).alloc (.cells #[.bool b,.slice none 0 0] 121)) (w.heap.size+1) 121 #[.bool b,.slice none 0 0]/\Blk ((w.alloc (.cells #[.bool false,.slice none 0 0] 121)).alloc (.cells #[.bool b,.slice none 0 0] 121)) w.heap.size 121 #[.bool false,.slice none 0 0]/\Below w.heap.size w ((w.alloc (.cells #[.bool false,.slice none 0 0] 121)).alloc (.cells #[.bool b,.slice none 0 0] 121))):=Lib.hid (fun b=>by
  have b0:=Blk.new w 121 #[.bool false,.slice none 0 0];have b1:=Blk.new (w.alloc (.cells #[.bool false,.slice none 0 0] 121)) 121 #[.bool b,.slice none 0 0];rw[World.size_alloc]at b1;exact⟨b1,b0.alloc _,((Below.refl _ _).alloc (Nat.le_refl _) _).alloc (by simp) _⟩)
 clear hs hsn;go_enter Tryz.func88,Tryz.ntmps88;go_upto_region 3 with fail;by_cases h1:1<n.length
 ·have h1I:(1:Int)<(n.length:Int):=by omega
  have h0:0<n.length:=by omega
  obtain⟨c0,hc0⟩:∃c0,n[0]'(by omega)=c0:=⟨_,rfl⟩
  have hhd:n.head?=some c0:=by rw[List.head?_eq_getElem?,List.getElem?_eq_getElem (by omega),hc0]
  by_cases h2:c0=45
  ·have hb1:=byte_is n 0 (by omega) c0 45 45 (by decide) hc0 h2;have hb2:=byte_isb n 0 (by omega) c0 45 45 (by decide) hc0 h2;have HSX:Hid ((⟨n.toArray⟩:ByteArray).extract 1 n.length=⟨s.toArray⟩):=Lib.hid (by
    rw[extract_list',List.take_of_length_le (by simp),<-HSE.out];unfold Gr.intS;rw[if_pos ⟨h1,by rw[hhd,h2]⟩,List.drop_one])
   clear hhd hc0 h2;go_upto_region 6 with fail;obtain⟨w1,hw1⟩:∃w1,((w.alloc (.cells #[.bool false,.slice none 0 0] 121)).alloc (.cells #[.bool true,.slice none 0 0] 121))=w1:=⟨_,rfl⟩
   have HBB:Hid (Blk w1 (w.heap.size+1) 121 #[.bool true,.slice none 0 0]/\Blk w1 w.heap.size 121 #[.bool false,.slice none 0 0]/\Below w.heap.size w w1):=Lib.hid (by rw[<-hw1];exact⟨(HB.out _).1,(HB.out _).2.1,(HB.out true).2.2⟩);have HBI:Hid (w1.heap.size=w.heap.size+1+1):=Lib.hid (by rw[<-hw1];simp);rw[hw1];rw[HSX.out];clear hw1 HB;obtain⟨zb,hzb⟩:∃zb,w.heap.size=zb:=⟨_,rfl⟩
   have HZB:=Lib.hid hzb;rw[hzb]at HBB HBI;have p0:∀j,w1.frozen? ⟨zb,j,none⟩=false:=HBB.out.2.1.frozen;have p1:∀j,w1.frozen? ⟨zb+1,j,none⟩=false:=HBB.out.1.frozen;obtain⟨q0,q1⟩:=cells2 HBB.out.2.1;obtain⟨q2,q3⟩:=cells2 HBB.out.1;(try rw[hzb]);clear hzb;by_cases hz:s.length=0
   ·have HF:Hid (Gr.intB n=false):=Lib.hid (by rw[HIB.out,if_pos (.inl hz)]);have hzI:(s.length:Int)=0:=by omega
    obtain rfl:=List.eq_nil_of_length_eq_zero hz;clear hz hzI q2 q3;go_wp2_with fail;obtain⟨e0,e1⟩:=cells2 ((HBB.out.2.1.set_ 0 (.bool false)).set_ 1 (.slice none 0 0));refine bodyPost_ret (v:=.tuple #[.agg #[.bool false,.slice none 0 0],.bool false]) (by simp[results,Tryz.results88,go_sem,e0,e1]) rfl ?_;rw[HF.out];exact⟨false,none,0,0,rfl,by rw[HZB.out];exact(HBB.out.2.2.setCell (p:=⟨zb,0,none⟩) (by simp) _).setCell (p:=⟨zb,1,none⟩) (by simp) _⟩
   ·have hz0:0<s.length:=by omega
    have hzI:¬((s.length:Int)=0):=by omega
    have hzb2:((s.length:Int)==0)=false:=by rw[beq_eq_false_iff_ne];exact hzI
    by_cases h4:s.length>400
    ·have HF:Hid (Gr.intB n=false):=Lib.hid (by rw[HIB.out,if_pos (.inr (.inl h4))]);have h4I:(400:Int)<(s.length:Int):=by omega
     clear q2 q3;go_wp2_with fail;obtain⟨e0,e1⟩:=cells2 ((HBB.out.2.1.set_ 0 (.bool false)).set_ 1 (.slice none 0 0));refine bodyPost_ret (v:=.tuple #[.agg #[.bool false,.slice none 0 0],.bool false]) (by simp[results,Tryz.results88,go_sem,e0,e1]) rfl ?_;rw[HF.out];exact⟨false,none,0,0,rfl,by rw[HZB.out];exact(HBB.out.2.2.setCell (p:=⟨zb,0,none⟩) (by simp) _).setCell (p:=⟨zb,1,none⟩) (by simp) _⟩
    ·have h4I:¬(400:Int)<(s.length:Int):=by omega
     obtain⟨c1,hc1⟩:∃c1,s[0]'(by omega)=c1:=⟨_,rfl⟩
     have hhd:s.head?=some c1:=by rw[List.head?_eq_getElem?,List.getElem?_eq_getElem (by omega),hc1]
     by_cases hc48:c1=48
     ·have hb1:=byte_is s 0 (by omega) c1 48 48 (by decide) hc1 hc48;have hb2:=byte_isb s 0 (by omega) c1 48 48 (by decide) hc1 hc48;have HF:Hid (Gr.intB n=false):=Lib.hid (by rw[HIB.out,if_pos (.inr (.inr ⟨by rw[hhd,hc48],h1⟩))]);clear hhd hc1 hc48 q2 q3;go_wp2_with fail;obtain⟨e0,e1⟩:=cells2 ((HBB.out.2.1.set_ 0 (.bool false)).set_ 1 (.slice none 0 0));refine bodyPost_ret (v:=.tuple #[.agg #[.bool false,.slice none 0 0],.bool false]) (by simp[results,Tryz.results88,go_sem,e0,e1]) rfl ?_;rw[HF.out];exact⟨false,none,0,0,rfl,by rw[HZB.out];exact(HBB.out.2.2.setCell (p:=⟨zb,0,none⟩) (by simp) _).setCell (p:=⟨zb,1,none⟩) (by simp) _⟩
     ·have HIF:Hid (Gr.intB n=s.all Gr.dig):=Lib.hid (by rw[HIB.out,if_neg (fun h=>h.elim hz fun h=>h.elim h4 fun h=>hc48 (Option.some.inj (hhd.symm.trans h.1)))]);have hb1:=byte_not s 0 (by omega) c1 48 48 (by decide) hc1 hc48;have hb2:=byte_nob s 0 (by omega) c1 48 48 (by decide) hc1 hc48;clear hhd hc1 hc48;have hmk:=fun W=>make_bytes s.length (by omega) W
      have hz1:zb+1<w1.heap.size:=by have:=HBI.out;omega
      have hz2:zb<w1.heap.size:=by omega
      go_upto_region 10 with fail;obtain⟨w2,hw2⟩:∃w2,(w1.setCell ⟨zb+1,1,none⟩ (.slice (some ⟨w1.heap.size,0,none⟩) s.length s.length)).alloc (.cells (ucells (List.replicate s.length 0)) 5)=w2:=⟨_,rfl⟩
      obtain⟨db,hdb⟩:∃db,w1.heap.size=db:=⟨_,rfl⟩
      have HZ2:Hid (Blk w2 zb 121 #[.bool false,.slice none 0 0]/\Blk w2 (zb+1) 121 #[.bool true,.slice (some ⟨db,0,none⟩) s.length s.length]/\Blk w2 db 5 (ucells (List.replicate s.length 0))/\Below zb w w2):=Lib.hid (by
       rw[<-hw2,<-hdb];refine⟨(HBB.out.2.1.far (by simp) _).alloc _,(HBB.out.1.set_ 1 _).alloc _,?_,?_⟩
       ·have:=Blk.new (w1.setCell ⟨zb+1,1,none⟩ (.slice (some ⟨w1.heap.size,0,none⟩) s.length s.length)) 5 (ucells (List.replicate s.length 0));rwa[show(w1.setCell ⟨zb+1,1,none⟩ (.slice (some ⟨w1.heap.size,0,none⟩) s.length s.length)).heap.size=w1.heap.size from by simp[World.setCell]]at this
       ·exact(HBB.out.2.2.setCell (by simp) _).alloc (by simp[World.setCell];omega) _)
      have HDB:Hid (zb+1<db):=Lib.hid (by omega);(try rw[hdb]at hw2);(try rw[hdb]);(try rw[hw2]);clear hw2 hdb hz1 hz2 p0 p1 q0 q1 q2 q3 hmk;go_loopw [45] (fun s45 wr=>∃k:Nat,k<=s.length/\s45=.int .i64 k/\Hid ((s.take k).all Gr.dig=true/\∃l:List UInt8,l.length=s.length/\Blk wr zb 121 #[.bool false,.slice none 0 0]/\Blk wr (zb+1) 121 #[.bool true,.slice (some ⟨db,0,none⟩) s.length s.length]/\Blk wr db 5 (ucells l)/\Below zb w wr)) (fun s45 _=>s.length-(intOf s45).toNat)
      case atStart=>exact⟨0,by omega,rfl,Lib.hid ⟨by simp,List.replicate s.length 0,by simp,HZ2.out⟩⟩
      case round=>
       obtain⟨k,hk,rfl,HV⟩:=hrel;obtain⟨hdig,l,hll,v0,v1,vd,vb⟩:=HV.out;by_cases hlt:k<s.length
       ·have hltI:(k:Int)<(s.length:Int):=by omega
        obtain⟨b,hb⟩:∃b:Nat,(s[k]'(by omega)).toNat=b:=⟨_,rfl⟩
        have hbv:(((⟨s.toArray⟩:ByteArray)[k]'(by simpa[ByteArray.size]using hlt)).toNat:Int)=(b:Int):=by rw[<-hb];rfl
        have hTK:(s.take (k+1)).all Gr.dig=(decide (48<=b) && decide (b<=57)):=by
         rw[List.take_succ_eq_append_getElem hlt,List.all_append,hdig];have:Gr.dig (s[k]'(by omega))=(decide (48<=b) && decide (b<=57)):=by
          unfold Gr.dig;rw[<-hb];simp[UInt8.le_iff_toNat_le]
         simp[this]
        have hbl:b<256:=by rw[<-hb];exact(s[k]'(by omega)).toNat_lt
        have HALL:Hid ((decide (48<=b) && decide (b<=57))=false->Gr.intB n=false):=Lib.hid (fun e=>by
         rw[HIF.out,List.all_eq_false];have h3:(s.take (k+1)).all Gr.dig=false:=by rw[hTK,e]
         obtain⟨x,hx,hxd⟩:=List.all_eq_false.1 h3;exact⟨x,List.mem_of_mem_take hx,hxd⟩)
        have g0:=v0.cell 0;have HTK:=Lib.hid hTK;have HV0:=Lib.hid v0;have HV1:=Lib.hid v1;have HVD:=Lib.hid vd;have HVB:=Lib.hid vb;have HLL:=Lib.hid hll;have pf0:∀j,wr.frozen? ⟨zb,j,none⟩=false:=v0.frozen;obtain⟨pc0,pc1⟩:=cells2 v0;have pc2:wr.cell? ⟨zb+1,1,none⟩=some (.slice (some ⟨db,0,none⟩) s.length s.length):=v1.cell 1;clear hTK hb hdig v0 v1 vd vb hll g0;by_cases h48:48<=b
        ·by_cases h57:b<=57
         ·have a1:¬((b:Int)<48):=by omega
          have a2:¬((57:Int)<(b:Int)):=by omega
          have i1:(0:Int)<=(s.length:Int)-1-(k:Int):=by omega
          have i2:(s.length:Int)-1-(k:Int)<(s.length:Int):=by omega
          have pfd:∀j,wr.frozen? ⟨db,j,none⟩=false:=HVD.out.frozen;have a48:(48:Int)<=(b:Int):=by omega
          have a57:(b:Int)<=57:=by omega
          obtain⟨dv,zd⟩:∃dv,wr.cell? ⟨db,s.length-1-k,none⟩=some dv:=by
           rw[HVD.out.cell];refine⟨_,Array.getElem?_eq_getElem (i:=s.length-1-k) ?_⟩;have:=HLL.out;simp[ucells];omega
          go_upto_region 14 with fail;go_region
          all_goals go_wp2_with fail
          obtain⟨xb,hxb⟩:∃xb:UInt8,(xb.toNat:Int)=(b:Int)-48:=⟨UInt8.ofNat (b-48),by rw[UInt8.toNat_ofNat'];omega⟩
          rw[<-hxb];have hne:zb≠db:=by have:=HDB.out;omega
          have hne1:zb+1≠db:=by have:=HDB.out;omega
          have HN:Hid ((s.take (k+1)).all Gr.dig=true/\∃l2:List UInt8,l2.length=s.length/\Blk (wr.setCell ⟨db,s.length-1-k,none⟩ (.int .u8 (xb.toNat:Int))).drew zb 121 #[.bool false,.slice none 0 0]/\Blk (wr.setCell ⟨db,s.length-1-k,none⟩ (.int .u8 (xb.toNat:Int))).drew (zb+1) 121 #[.bool true,.slice (some ⟨db,0,none⟩) s.length s.length]/\Blk (wr.setCell ⟨db,s.length-1-k,none⟩ (.int .u8 (xb.toNat:Int))).drew db 5 (ucells l2)/\Below zb w (wr.setCell ⟨db,s.length-1-k,none⟩ (.int .u8 (xb.toNat:Int))).drew):=Lib.hid ⟨by rw[HTK.out];simp[h48,h57],l.set (s.length-1-k) xb,by simp[HLL.out],(HV0.out.far hne _).drew,(HV1.out.far hne1 _).drew,by
           rw[<-ucells_set];exact(HVD.out.set_ _ _).drew,below_drewN (HVB.out.setCell (by have:=HDB.out;simp;omega) _) 1⟩
          go_roundw
          case rel=>exact⟨k+1,by omega,by go_num,HN⟩
          case measure=>simp[intOf];omega
         ·have HF:Hid (Gr.intB n=false):=Lib.hid (HALL.out (by simp[h57]));have a1:¬((b:Int)<48):=by omega
          have a2:((57:Int)<(b:Int)):=by omega
          clear pc2;go_wp2_with fail;obtain⟨e0,e1⟩:=cells2 ((HV0.out.set_ 0 (.bool false)).set_ 1 (.slice none 0 0));refine bodyPost_ret (v:=.tuple #[.agg #[.bool false,.slice none 0 0],.bool false]) (by simp[results,Tryz.results88,go_sem,e0,e1]) rfl ?_;rw[HF.out];exact⟨false,none,0,0,rfl,by rw[HZB.out];exact(HVB.out.setCell (p:=⟨zb,0,none⟩) (by simp) _).setCell (p:=⟨zb,1,none⟩) (by simp) _⟩
        ·have HF:Hid (Gr.intB n=false):=Lib.hid (HALL.out (by simp[h48]));have a1:((b:Int)<48):=by omega
         clear pc2;go_wp2_with fail;obtain⟨e0,e1⟩:=cells2 ((HV0.out.set_ 0 (.bool false)).set_ 1 (.slice none 0 0));refine bodyPost_ret (v:=.tuple #[.agg #[.bool false,.slice none 0 0],.bool false]) (by simp[results,Tryz.results88,go_sem,e0,e1]) rfl ?_;rw[HF.out];exact⟨false,none,0,0,rfl,by rw[HZB.out];exact(HVB.out.setCell (p:=⟨zb,0,none⟩) (by simp) _).setCell (p:=⟨zb,1,none⟩) (by simp) _⟩
       ·have hltI:¬(k:Int)<(s.length:Int):=by omega
        have HF:Hid (Gr.intB n=true):=Lib.hid (by
         rw[HIF.out];rwa[show k=s.length from by omega,List.take_length]at hdig)
        have HT:=Lib.hid (trim_any (some ⟨db,0,none⟩) s.length l (by omega) (by omega) wr (db+1) (RowAt.ofBlk vd (ucells_all l) (by omega)));rw[hll]at HT;have pf0:∀j,wr.frozen? ⟨zb,j,none⟩=false:=v0.frozen;have pf1:∀j,wr.frozen? ⟨zb+1,j,none⟩=false:=v1.frozen;obtain⟨pc0,pc1⟩:=cells2 v0;obtain⟨pc3,pc2⟩:=cells2 v1;have HV0:=Lib.hid v0;have HV1:=Lib.hid v1;have HVB:=Lib.hid vb;clear v0 v1 vd vb hll hdig;go_wp2_with fail;refine HT.out.mono ?_;rintro e w5 ⟨m,rfl,hw5⟩;subst hw5;go_wp2_with fail;have b0:=((HV0.out.far (p:=⟨zb+1,1,none⟩) (by simp) (.slice (some ⟨db,0,none⟩) m s.length)).set_ 0 (.bool true)).set_ 1 (.slice (some ⟨db,0,none⟩) m s.length);obtain⟨e0,e1⟩:=cells2 b0;refine bodyPost_ret (v:=.tuple #[.agg #[.bool true,.slice (some ⟨db,0,none⟩) m s.length],.bool true]) (by simp[results,Tryz.results88,go_sem,e0,e1]) rfl ?_;rw[HF.out];exact⟨true,_,_,_,rfl,by rw[HZB.out];exact((HVB.out.setCell (p:=⟨zb+1,1,none⟩) (by simp) _).setCell (p:=⟨zb,0,none⟩) (by simp) _).setCell (p:=⟨zb,1,none⟩) (by simp) _⟩
  ·have hb1:=byte_not n 0 (by omega) c0 45 45 (by decide) hc0 h2;have hb2:=byte_nob n 0 (by omega) c0 45 45 (by decide) hc0 h2;have HSX:Hid (n=s):=Lib.hid (by
    rw[<-HSE.out];unfold Gr.intS;rw[if_neg (by rintro⟨_,h⟩;rw[hhd]at h;exact h2 (by injection h))])
   clear hhd hc0 h2;go_upto_region 6 with fail;obtain⟨w1,hw1⟩:∃w1,((w.alloc (.cells #[.bool false,.slice none 0 0] 121)).alloc (.cells #[.bool false,.slice none 0 0] 121))=w1:=⟨_,rfl⟩
   have HBB:Hid (Blk w1 (w.heap.size+1) 121 #[.bool false,.slice none 0 0]/\Blk w1 w.heap.size 121 #[.bool false,.slice none 0 0]/\Below w.heap.size w w1):=Lib.hid (by rw[<-hw1];exact⟨(HB.out _).1,(HB.out _).2.1,(HB.out false).2.2⟩);have HBI:Hid (w1.heap.size=w.heap.size+1+1):=Lib.hid (by rw[<-hw1];simp);rw[hw1];obtain rfl:=HSX.out;clear hw1 HB;obtain⟨zb,hzb⟩:∃zb,w.heap.size=zb:=⟨_,rfl⟩
   have HZB:=Lib.hid hzb;rw[hzb]at HBB HBI;have p0:∀j,w1.frozen? ⟨zb,j,none⟩=false:=HBB.out.2.1.frozen;have p1:∀j,w1.frozen? ⟨zb+1,j,none⟩=false:=HBB.out.1.frozen;obtain⟨q0,q1⟩:=cells2 HBB.out.2.1;obtain⟨q2,q3⟩:=cells2 HBB.out.1;(try rw[hzb]);clear hzb;by_cases hz:n.length=0
   ·have HF:Hid (Gr.intB n=false):=Lib.hid (by rw[HIB.out,if_pos (.inl hz)]);have hzI:(n.length:Int)=0:=by omega
    obtain rfl:=List.eq_nil_of_length_eq_zero hz;clear hz hzI q2 q3;go_wp2_with fail;obtain⟨e0,e1⟩:=cells2 ((HBB.out.2.1.set_ 0 (.bool false)).set_ 1 (.slice none 0 0));refine bodyPost_ret (v:=.tuple #[.agg #[.bool false,.slice none 0 0],.bool false]) (by simp[results,Tryz.results88,go_sem,e0,e1]) rfl ?_;rw[HF.out];exact⟨false,none,0,0,rfl,by rw[HZB.out];exact(HBB.out.2.2.setCell (p:=⟨zb,0,none⟩) (by simp) _).setCell (p:=⟨zb,1,none⟩) (by simp) _⟩
   ·have hz0:0<n.length:=by omega
    have hzI:¬((n.length:Int)=0):=by omega
    have hzb2:((n.length:Int)==0)=false:=by rw[beq_eq_false_iff_ne];exact hzI
    by_cases h4:n.length>400
    ·have HF:Hid (Gr.intB n=false):=Lib.hid (by rw[HIB.out,if_pos (.inr (.inl h4))]);have h4I:(400:Int)<(n.length:Int):=by omega
     clear q2 q3;go_wp2_with fail;obtain⟨e0,e1⟩:=cells2 ((HBB.out.2.1.set_ 0 (.bool false)).set_ 1 (.slice none 0 0));refine bodyPost_ret (v:=.tuple #[.agg #[.bool false,.slice none 0 0],.bool false]) (by simp[results,Tryz.results88,go_sem,e0,e1]) rfl ?_;rw[HF.out];exact⟨false,none,0,0,rfl,by rw[HZB.out];exact(HBB.out.2.2.setCell (p:=⟨zb,0,none⟩) (by simp) _).setCell (p:=⟨zb,1,none⟩) (by simp) _⟩
    ·have h4I:¬(400:Int)<(n.length:Int):=by omega
     obtain⟨c1,hc1⟩:∃c1,n[0]'(by omega)=c1:=⟨_,rfl⟩
     have hhd:n.head?=some c1:=by rw[List.head?_eq_getElem?,List.getElem?_eq_getElem (by omega),hc1]
     by_cases hc48:c1=48
     ·have hb1:=byte_is n 0 (by omega) c1 48 48 (by decide) hc1 hc48;have hb2:=byte_isb n 0 (by omega) c1 48 48 (by decide) hc1 hc48;have HF:Hid (Gr.intB n=false):=Lib.hid (by rw[HIB.out,if_pos (.inr (.inr ⟨by rw[hhd,hc48],h1⟩))]);clear hhd hc1 hc48 q2 q3;go_wp2_with fail;obtain⟨e0,e1⟩:=cells2 ((HBB.out.2.1.set_ 0 (.bool false)).set_ 1 (.slice none 0 0));refine bodyPost_ret (v:=.tuple #[.agg #[.bool false,.slice none 0 0],.bool false]) (by simp[results,Tryz.results88,go_sem,e0,e1]) rfl ?_;rw[HF.out];exact⟨false,none,0,0,rfl,by rw[HZB.out];exact(HBB.out.2.2.setCell (p:=⟨zb,0,none⟩) (by simp) _).setCell (p:=⟨zb,1,none⟩) (by simp) _⟩
     ·have HIF:Hid (Gr.intB n=n.all Gr.dig):=Lib.hid (by rw[HIB.out,if_neg (fun h=>h.elim hz fun h=>h.elim h4 fun h=>hc48 (Option.some.inj (hhd.symm.trans h.1)))]);have hb1:=byte_not n 0 (by omega) c1 48 48 (by decide) hc1 hc48;have hb2:=byte_nob n 0 (by omega) c1 48 48 (by decide) hc1 hc48;clear hhd hc1 hc48;have hmk:=fun W=>make_bytes n.length (by omega) W
      have hz1:zb+1<w1.heap.size:=by have:=HBI.out;omega
      have hz2:zb<w1.heap.size:=by omega
      go_upto_region 10 with fail;obtain⟨w2,hw2⟩:∃w2,(w1.setCell ⟨zb+1,1,none⟩ (.slice (some ⟨w1.heap.size,0,none⟩) n.length n.length)).alloc (.cells (ucells (List.replicate n.length 0)) 5)=w2:=⟨_,rfl⟩
      obtain⟨db,hdb⟩:∃db,w1.heap.size=db:=⟨_,rfl⟩
      have HZ2:Hid (Blk w2 zb 121 #[.bool false,.slice none 0 0]/\Blk w2 (zb+1) 121 #[.bool false,.slice (some ⟨db,0,none⟩) n.length n.length]/\Blk w2 db 5 (ucells (List.replicate n.length 0))/\Below zb w w2):=Lib.hid (by
       rw[<-hw2,<-hdb];refine⟨(HBB.out.2.1.far (by simp) _).alloc _,(HBB.out.1.set_ 1 _).alloc _,?_,?_⟩
       ·have:=Blk.new (w1.setCell ⟨zb+1,1,none⟩ (.slice (some ⟨w1.heap.size,0,none⟩) n.length n.length)) 5 (ucells (List.replicate n.length 0));rwa[show(w1.setCell ⟨zb+1,1,none⟩ (.slice (some ⟨w1.heap.size,0,none⟩) n.length n.length)).heap.size=w1.heap.size from by simp[World.setCell]]at this
       ·exact(HBB.out.2.2.setCell (by simp) _).alloc (by simp[World.setCell];omega) _)
      have HDB:Hid (zb+1<db):=Lib.hid (by omega);(try rw[hdb]at hw2);(try rw[hdb]);(try rw[hw2]);clear hw2 hdb hz1 hz2 p0 p1 q0 q1 q2 q3 hmk;go_loopw [45] (fun s45 wr=>∃k:Nat,k<=n.length/\s45=.int .i64 k/\Hid ((n.take k).all Gr.dig=true/\∃l:List UInt8,l.length=n.length/\Blk wr zb 121 #[.bool false,.slice none 0 0]/\Blk wr (zb+1) 121 #[.bool false,.slice (some ⟨db,0,none⟩) n.length n.length]/\Blk wr db 5 (ucells l)/\Below zb w wr)) (fun s45 _=>n.length-(intOf s45).toNat)
      case atStart=>exact⟨0,by omega,rfl,Lib.hid ⟨by simp,List.replicate n.length 0,by simp,HZ2.out⟩⟩
      case round=>
       obtain⟨k,hk,rfl,HV⟩:=hrel;obtain⟨hdig,l,hll,v0,v1,vd,vb⟩:=HV.out;by_cases hlt:k<n.length
       ·have hltI:(k:Int)<(n.length:Int):=by omega
        obtain⟨b,hb⟩:∃b:Nat,(n[k]'(by omega)).toNat=b:=⟨_,rfl⟩
        have hbv:(((⟨n.toArray⟩:ByteArray)[k]'(by simpa[ByteArray.size]using hlt)).toNat:Int)=(b:Int):=by rw[<-hb];rfl
        have hTK:(n.take (k+1)).all Gr.dig=(decide (48<=b) && decide (b<=57)):=by
         rw[List.take_succ_eq_append_getElem hlt,List.all_append,hdig];have:Gr.dig (n[k]'(by omega))=(decide (48<=b) && decide (b<=57)):=by
          unfold Gr.dig;rw[<-hb];simp[UInt8.le_iff_toNat_le]
         simp[this]
        have hbl:b<256:=by rw[<-hb];exact(n[k]'(by omega)).toNat_lt
        have HALL:Hid ((decide (48<=b) && decide (b<=57))=false->Gr.intB n=false):=Lib.hid (fun e=>by
         rw[HIF.out,List.all_eq_false];have h3:(n.take (k+1)).all Gr.dig=false:=by rw[hTK,e]
         obtain⟨x,hx,hxd⟩:=List.all_eq_false.1 h3;exact⟨x,List.mem_of_mem_take hx,hxd⟩)
        have g0:=v0.cell 0;have HTK:=Lib.hid hTK;have HV0:=Lib.hid v0;have HV1:=Lib.hid v1;have HVD:=Lib.hid vd;have HVB:=Lib.hid vb;have HLL:=Lib.hid hll;have pf0:∀j,wr.frozen? ⟨zb,j,none⟩=false:=v0.frozen;obtain⟨pc0,pc1⟩:=cells2 v0;have pc2:wr.cell? ⟨zb+1,1,none⟩=some (.slice (some ⟨db,0,none⟩) n.length n.length):=v1.cell 1;clear hTK hb hdig v0 v1 vd vb hll g0;by_cases h48:48<=b
        ·by_cases h57:b<=57
         ·have a1:¬((b:Int)<48):=by omega
          have a2:¬((57:Int)<(b:Int)):=by omega
          have i1:(0:Int)<=(n.length:Int)-1-(k:Int):=by omega
          have i2:(n.length:Int)-1-(k:Int)<(n.length:Int):=by omega
          have pfd:∀j,wr.frozen? ⟨db,j,none⟩=false:=HVD.out.frozen;have a48:(48:Int)<=(b:Int):=by omega
          have a57:(b:Int)<=57:=by omega
          obtain⟨dv,zd⟩:∃dv,wr.cell? ⟨db,n.length-1-k,none⟩=some dv:=by
           rw[HVD.out.cell];refine⟨_,Array.getElem?_eq_getElem (i:=n.length-1-k) ?_⟩;have:=HLL.out;simp[ucells];omega
          go_upto_region 14 with fail;go_region
          all_goals go_wp2_with fail
          obtain⟨xb,hxb⟩:∃xb:UInt8,(xb.toNat:Int)=(b:Int)-48:=⟨UInt8.ofNat (b-48),by rw[UInt8.toNat_ofNat'];omega⟩
          rw[<-hxb];have hne:zb≠db:=by have:=HDB.out;omega
          have hne1:zb+1≠db:=by have:=HDB.out;omega
          have HN:Hid ((n.take (k+1)).all Gr.dig=true/\∃l2:List UInt8,l2.length=n.length/\Blk (wr.setCell ⟨db,n.length-1-k,none⟩ (.int .u8 (xb.toNat:Int))).drew zb 121 #[.bool false,.slice none 0 0]/\Blk (wr.setCell ⟨db,n.length-1-k,none⟩ (.int .u8 (xb.toNat:Int))).drew (zb+1) 121 #[.bool false,.slice (some ⟨db,0,none⟩) n.length n.length]/\Blk (wr.setCell ⟨db,n.length-1-k,none⟩ (.int .u8 (xb.toNat:Int))).drew db 5 (ucells l2)/\Below zb w (wr.setCell ⟨db,n.length-1-k,none⟩ (.int .u8 (xb.toNat:Int))).drew):=Lib.hid ⟨by rw[HTK.out];simp[h48,h57],l.set (n.length-1-k) xb,by simp[HLL.out],(HV0.out.far hne _).drew,(HV1.out.far hne1 _).drew,by
           rw[<-ucells_set];exact(HVD.out.set_ _ _).drew,below_drewN (HVB.out.setCell (by have:=HDB.out;simp;omega) _) 1⟩
          go_roundw
          case rel=>exact⟨k+1,by omega,by go_num,HN⟩
          case measure=>simp[intOf];omega
         ·have HF:Hid (Gr.intB n=false):=Lib.hid (HALL.out (by simp[h57]));have a1:¬((b:Int)<48):=by omega
          have a2:((57:Int)<(b:Int)):=by omega
          clear pc2;go_wp2_with fail;obtain⟨e0,e1⟩:=cells2 ((HV0.out.set_ 0 (.bool false)).set_ 1 (.slice none 0 0));refine bodyPost_ret (v:=.tuple #[.agg #[.bool false,.slice none 0 0],.bool false]) (by simp[results,Tryz.results88,go_sem,e0,e1]) rfl ?_;rw[HF.out];exact⟨false,none,0,0,rfl,by rw[HZB.out];exact(HVB.out.setCell (p:=⟨zb,0,none⟩) (by simp) _).setCell (p:=⟨zb,1,none⟩) (by simp) _⟩
        ·have HF:Hid (Gr.intB n=false):=Lib.hid (HALL.out (by simp[h48]));have a1:((b:Int)<48):=by omega
         clear pc2;go_wp2_with fail;obtain⟨e0,e1⟩:=cells2 ((HV0.out.set_ 0 (.bool false)).set_ 1 (.slice none 0 0));refine bodyPost_ret (v:=.tuple #[.agg #[.bool false,.slice none 0 0],.bool false]) (by simp[results,Tryz.results88,go_sem,e0,e1]) rfl ?_;rw[HF.out];exact⟨false,none,0,0,rfl,by rw[HZB.out];exact(HVB.out.setCell (p:=⟨zb,0,none⟩) (by simp) _).setCell (p:=⟨zb,1,none⟩) (by simp) _⟩
       ·have hltI:¬(k:Int)<(n.length:Int):=by omega
        have HF:Hid (Gr.intB n=true):=Lib.hid (by
         rw[HIF.out];rwa[show k=n.length from by omega,List.take_length]at hdig)
        have HT:=Lib.hid (trim_any (some ⟨db,0,none⟩) n.length l (by omega) (by omega) wr (db+1) (RowAt.ofBlk vd (ucells_all l) (by omega)));rw[hll]at HT;have pf0:∀j,wr.frozen? ⟨zb,j,none⟩=false:=v0.frozen;have pf1:∀j,wr.frozen? ⟨zb+1,j,none⟩=false:=v1.frozen;obtain⟨pc0,pc1⟩:=cells2 v0;obtain⟨pc3,pc2⟩:=cells2 v1;have HV0:=Lib.hid v0;have HV1:=Lib.hid v1;have HVB:=Lib.hid vb;clear v0 v1 vd vb hll hdig;go_wp2_with fail;refine HT.out.mono ?_;rintro e w5 ⟨m,rfl,hw5⟩;subst hw5;go_wp2_with fail;have b0:=((HV0.out.far (p:=⟨zb+1,1,none⟩) (by simp) (.slice (some ⟨db,0,none⟩) m n.length)).set_ 0 (.bool false)).set_ 1 (.slice (some ⟨db,0,none⟩) m n.length);obtain⟨e0,e1⟩:=cells2 b0;refine bodyPost_ret (v:=.tuple #[.agg #[.bool false,.slice (some ⟨db,0,none⟩) m n.length],.bool true]) (by simp[results,Tryz.results88,go_sem,e0,e1]) rfl ?_;rw[HF.out];exact⟨false,_,_,_,rfl,by rw[HZB.out];exact((HVB.out.setCell (p:=⟨zb+1,1,none⟩) (by simp) _).setCell (p:=⟨zb,0,none⟩) (by simp) _).setCell (p:=⟨zb,1,none⟩) (by simp) _⟩
 ·have h1I:¬(1:Int)<(n.length:Int):=by omega
  have HSX:Hid (n=s):=Lib.hid (by rw[<-HSE.out];unfold Gr.intS;rw[if_neg (by rintro⟨h,_⟩;exact h1 h)]);go_upto_region 6 with fail;obtain⟨w1,hw1⟩:∃w1,((w.alloc (.cells #[.bool false,.slice none 0 0] 121)).alloc (.cells #[.bool false,.slice none 0 0] 121))=w1:=⟨_,rfl⟩
  have HBB:Hid (Blk w1 (w.heap.size+1) 121 #[.bool false,.slice none 0 0]/\Blk w1 w.heap.size 121 #[.bool false,.slice none 0 0]/\Below w.heap.size w w1):=Lib.hid (by rw[<-hw1];exact⟨(HB.out _).1,(HB.out _).2.1,(HB.out false).2.2⟩);have HBI:Hid (w1.heap.size=w.heap.size+1+1):=Lib.hid (by rw[<-hw1];simp);rw[hw1];obtain rfl:=HSX.out;clear hw1 HB;obtain⟨zb,hzb⟩:∃zb,w.heap.size=zb:=⟨_,rfl⟩
  have HZB:=Lib.hid hzb;rw[hzb]at HBB HBI;have p0:∀j,w1.frozen? ⟨zb,j,none⟩=false:=HBB.out.2.1.frozen;have p1:∀j,w1.frozen? ⟨zb+1,j,none⟩=false:=HBB.out.1.frozen;obtain⟨q0,q1⟩:=cells2 HBB.out.2.1;obtain⟨q2,q3⟩:=cells2 HBB.out.1;(try rw[hzb]);clear hzb;by_cases hz:n.length=0
  ·have HF:Hid (Gr.intB n=false):=Lib.hid (by rw[HIB.out,if_pos (.inl hz)]);have hzI:(n.length:Int)=0:=by omega
   obtain rfl:=List.eq_nil_of_length_eq_zero hz;clear hz hzI q2 q3;go_wp2_with fail;obtain⟨e0,e1⟩:=cells2 ((HBB.out.2.1.set_ 0 (.bool false)).set_ 1 (.slice none 0 0));refine bodyPost_ret (v:=.tuple #[.agg #[.bool false,.slice none 0 0],.bool false]) (by simp[results,Tryz.results88,go_sem,e0,e1]) rfl ?_;rw[HF.out];exact⟨false,none,0,0,rfl,by rw[HZB.out];exact(HBB.out.2.2.setCell (p:=⟨zb,0,none⟩) (by simp) _).setCell (p:=⟨zb,1,none⟩) (by simp) _⟩
  ·have hz0:0<n.length:=by omega
   have hzI:¬((n.length:Int)=0):=by omega
   have hzb2:((n.length:Int)==0)=false:=by rw[beq_eq_false_iff_ne];exact hzI
   by_cases h4:n.length>400
   ·exfalso;omega
   ·have h4I:¬(400:Int)<(n.length:Int):=by omega
    obtain⟨c1,hc1⟩:∃c1,n[0]'(by omega)=c1:=⟨_,rfl⟩
    have hhd:n.head?=some c1:=by rw[List.head?_eq_getElem?,List.getElem?_eq_getElem (by omega),hc1]
    by_cases hc48:c1=48
    ·have hb1:=byte_is n 0 (by omega) c1 48 48 (by decide) hc1 hc48;have hb2:=byte_isb n 0 (by omega) c1 48 48 (by decide) hc1 hc48;have HIF:Hid (Gr.intB n=n.all Gr.dig):=Lib.hid (by rw[HIB.out,if_neg (fun h=>h.elim hz fun h=>h.elim h4 fun h=>h1 h.2)]);clear hhd hc1 hc48;have hmk:=fun W=>make_bytes n.length (by omega) W
     have hz1:zb+1<w1.heap.size:=by have:=HBI.out;omega
     have hz2:zb<w1.heap.size:=by omega
     go_upto_region 10 with fail;obtain⟨w2,hw2⟩:∃w2,(w1.setCell ⟨zb+1,1,none⟩ (.slice (some ⟨w1.heap.size,0,none⟩) n.length n.length)).alloc (.cells (ucells (List.replicate n.length 0)) 5)=w2:=⟨_,rfl⟩
     obtain⟨db,hdb⟩:∃db,w1.heap.size=db:=⟨_,rfl⟩
     have HZ2:Hid (Blk w2 zb 121 #[.bool false,.slice none 0 0]/\Blk w2 (zb+1) 121 #[.bool false,.slice (some ⟨db,0,none⟩) n.length n.length]/\Blk w2 db 5 (ucells (List.replicate n.length 0))/\Below zb w w2):=Lib.hid (by
      rw[<-hw2,<-hdb];refine⟨(HBB.out.2.1.far (by simp) _).alloc _,(HBB.out.1.set_ 1 _).alloc _,?_,?_⟩
      ·have:=Blk.new (w1.setCell ⟨zb+1,1,none⟩ (.slice (some ⟨w1.heap.size,0,none⟩) n.length n.length)) 5 (ucells (List.replicate n.length 0));rwa[show(w1.setCell ⟨zb+1,1,none⟩ (.slice (some ⟨w1.heap.size,0,none⟩) n.length n.length)).heap.size=w1.heap.size from by simp[World.setCell]]at this
      ·exact(HBB.out.2.2.setCell (by simp) _).alloc (by simp[World.setCell];omega) _)
     have HDB:Hid (zb+1<db):=Lib.hid (by omega);(try rw[hdb]at hw2);(try rw[hdb]);(try rw[hw2]);clear hw2 hdb hz1 hz2 p0 p1 q0 q1 q2 q3 hmk;go_loopw [45] (fun s45 wr=>∃k:Nat,k<=n.length/\s45=.int .i64 k/\Hid ((n.take k).all Gr.dig=true/\∃l:List UInt8,l.length=n.length/\Blk wr zb 121 #[.bool false,.slice none 0 0]/\Blk wr (zb+1) 121 #[.bool false,.slice (some ⟨db,0,none⟩) n.length n.length]/\Blk wr db 5 (ucells l)/\Below zb w wr)) (fun s45 _=>n.length-(intOf s45).toNat)
     case atStart=>exact⟨0,by omega,rfl,Lib.hid ⟨by simp,List.replicate n.length 0,by simp,HZ2.out⟩⟩
     case round=>
      obtain⟨k,hk,rfl,HV⟩:=hrel;obtain⟨hdig,l,hll,v0,v1,vd,vb⟩:=HV.out;by_cases hlt:k<n.length
      ·have hltI:(k:Int)<(n.length:Int):=by omega
       obtain⟨b,hb⟩:∃b:Nat,(n[k]'(by omega)).toNat=b:=⟨_,rfl⟩
       have hbv:(((⟨n.toArray⟩:ByteArray)[k]'(by simpa[ByteArray.size]using hlt)).toNat:Int)=(b:Int):=by rw[<-hb];rfl
       have hTK:(n.take (k+1)).all Gr.dig=(decide (48<=b) && decide (b<=57)):=by
        rw[List.take_succ_eq_append_getElem hlt,List.all_append,hdig];have:Gr.dig (n[k]'(by omega))=(decide (48<=b) && decide (b<=57)):=by
         unfold Gr.dig;rw[<-hb];simp[UInt8.le_iff_toNat_le]
        simp[this]
       have hbl:b<256:=by rw[<-hb];exact(n[k]'(by omega)).toNat_lt
       have HALL:Hid ((decide (48<=b) && decide (b<=57))=false->Gr.intB n=false):=Lib.hid (fun e=>by
        rw[HIF.out,List.all_eq_false];have h3:(n.take (k+1)).all Gr.dig=false:=by rw[hTK,e]
        obtain⟨x,hx,hxd⟩:=List.all_eq_false.1 h3;exact⟨x,List.mem_of_mem_take hx,hxd⟩)
       have g0:=v0.cell 0;have HTK:=Lib.hid hTK;have HV0:=Lib.hid v0;have HV1:=Lib.hid v1;have HVD:=Lib.hid vd;have HVB:=Lib.hid vb;have HLL:=Lib.hid hll;have pf0:∀j,wr.frozen? ⟨zb,j,none⟩=false:=v0.frozen;obtain⟨pc0,pc1⟩:=cells2 v0;have pc2:wr.cell? ⟨zb+1,1,none⟩=some (.slice (some ⟨db,0,none⟩) n.length n.length):=v1.cell 1;clear hTK hb hdig v0 v1 vd vb hll g0;by_cases h48:48<=b
       ·by_cases h57:b<=57
        ·have a1:¬((b:Int)<48):=by omega
         have a2:¬((57:Int)<(b:Int)):=by omega
         have i1:(0:Int)<=(n.length:Int)-1-(k:Int):=by omega
         have i2:(n.length:Int)-1-(k:Int)<(n.length:Int):=by omega
         have pfd:∀j,wr.frozen? ⟨db,j,none⟩=false:=HVD.out.frozen;have a48:(48:Int)<=(b:Int):=by omega
         have a57:(b:Int)<=57:=by omega
         obtain⟨dv,zd⟩:∃dv,wr.cell? ⟨db,n.length-1-k,none⟩=some dv:=by
          rw[HVD.out.cell];refine⟨_,Array.getElem?_eq_getElem (i:=n.length-1-k) ?_⟩;have:=HLL.out;simp[ucells];omega
         go_upto_region 14 with fail;go_region
         all_goals go_wp2_with fail
         obtain⟨xb,hxb⟩:∃xb:UInt8,(xb.toNat:Int)=(b:Int)-48:=⟨UInt8.ofNat (b-48),by rw[UInt8.toNat_ofNat'];omega⟩
         rw[<-hxb];have hne:zb≠db:=by have:=HDB.out;omega
         have hne1:zb+1≠db:=by have:=HDB.out;omega
         have HN:Hid ((n.take (k+1)).all Gr.dig=true/\∃l2:List UInt8,l2.length=n.length/\Blk (wr.setCell ⟨db,n.length-1-k,none⟩ (.int .u8 (xb.toNat:Int))).drew zb 121 #[.bool false,.slice none 0 0]/\Blk (wr.setCell ⟨db,n.length-1-k,none⟩ (.int .u8 (xb.toNat:Int))).drew (zb+1) 121 #[.bool false,.slice (some ⟨db,0,none⟩) n.length n.length]/\Blk (wr.setCell ⟨db,n.length-1-k,none⟩ (.int .u8 (xb.toNat:Int))).drew db 5 (ucells l2)/\Below zb w (wr.setCell ⟨db,n.length-1-k,none⟩ (.int .u8 (xb.toNat:Int))).drew):=Lib.hid ⟨by rw[HTK.out];simp[h48,h57],l.set (n.length-1-k) xb,by simp[HLL.out],(HV0.out.far hne _).drew,(HV1.out.far hne1 _).drew,by
          rw[<-ucells_set];exact(HVD.out.set_ _ _).drew,below_drewN (HVB.out.setCell (by have:=HDB.out;simp;omega) _) 1⟩
         go_roundw
         case rel=>exact⟨k+1,by omega,by go_num,HN⟩
         case measure=>simp[intOf];omega
        ·have HF:Hid (Gr.intB n=false):=Lib.hid (HALL.out (by simp[h57]));have a1:¬((b:Int)<48):=by omega
         have a2:((57:Int)<(b:Int)):=by omega
         clear pc2;go_wp2_with fail;obtain⟨e0,e1⟩:=cells2 ((HV0.out.set_ 0 (.bool false)).set_ 1 (.slice none 0 0));refine bodyPost_ret (v:=.tuple #[.agg #[.bool false,.slice none 0 0],.bool false]) (by simp[results,Tryz.results88,go_sem,e0,e1]) rfl ?_;rw[HF.out];exact⟨false,none,0,0,rfl,by rw[HZB.out];exact(HVB.out.setCell (p:=⟨zb,0,none⟩) (by simp) _).setCell (p:=⟨zb,1,none⟩) (by simp) _⟩
       ·have HF:Hid (Gr.intB n=false):=Lib.hid (HALL.out (by simp[h48]));have a1:((b:Int)<48):=by omega
        clear pc2;go_wp2_with fail;obtain⟨e0,e1⟩:=cells2 ((HV0.out.set_ 0 (.bool false)).set_ 1 (.slice none 0 0));refine bodyPost_ret (v:=.tuple #[.agg #[.bool false,.slice none 0 0],.bool false]) (by simp[results,Tryz.results88,go_sem,e0,e1]) rfl ?_;rw[HF.out];exact⟨false,none,0,0,rfl,by rw[HZB.out];exact(HVB.out.setCell (p:=⟨zb,0,none⟩) (by simp) _).setCell (p:=⟨zb,1,none⟩) (by simp) _⟩
      ·have hltI:¬(k:Int)<(n.length:Int):=by omega
       have HF:Hid (Gr.intB n=true):=Lib.hid (by
        rw[HIF.out];rwa[show k=n.length from by omega,List.take_length]at hdig)
       have HT:=Lib.hid (trim_any (some ⟨db,0,none⟩) n.length l (by omega) (by omega) wr (db+1) (RowAt.ofBlk vd (ucells_all l) (by omega)));rw[hll]at HT;have pf0:∀j,wr.frozen? ⟨zb,j,none⟩=false:=v0.frozen;have pf1:∀j,wr.frozen? ⟨zb+1,j,none⟩=false:=v1.frozen;obtain⟨pc0,pc1⟩:=cells2 v0;obtain⟨pc3,pc2⟩:=cells2 v1;have HV0:=Lib.hid v0;have HV1:=Lib.hid v1;have HVB:=Lib.hid vb;clear v0 v1 vd vb hll hdig;go_wp2_with fail;refine HT.out.mono ?_;rintro e w5 ⟨m,rfl,hw5⟩;subst hw5;go_wp2_with fail;have b0:=((HV0.out.far (p:=⟨zb+1,1,none⟩) (by simp) (.slice (some ⟨db,0,none⟩) m n.length)).set_ 0 (.bool false)).set_ 1 (.slice (some ⟨db,0,none⟩) m n.length);obtain⟨e0,e1⟩:=cells2 b0;refine bodyPost_ret (v:=.tuple #[.agg #[.bool false,.slice (some ⟨db,0,none⟩) m n.length],.bool true]) (by simp[results,Tryz.results88,go_sem,e0,e1]) rfl ?_;rw[HF.out];exact⟨false,_,_,_,rfl,by rw[HZB.out];exact((HVB.out.setCell (p:=⟨zb+1,1,none⟩) (by simp) _).setCell (p:=⟨zb,0,none⟩) (by simp) _).setCell (p:=⟨zb,1,none⟩) (by simp) _⟩
    ·have HIF:Hid (Gr.intB n=n.all Gr.dig):=Lib.hid (by rw[HIB.out,if_neg (fun h=>h.elim hz fun h=>h.elim h4 fun h=>hc48 (Option.some.inj (hhd.symm.trans h.1)))]);have hb1:=byte_not n 0 (by omega) c1 48 48 (by decide) hc1 hc48;have hb2:=byte_nob n 0 (by omega) c1 48 48 (by decide) hc1 hc48;clear hhd hc1 hc48;have hmk:=fun W=>make_bytes n.length (by omega) W
     have hz1:zb+1<w1.heap.size:=by have:=HBI.out;omega
     have hz2:zb<w1.heap.size:=by omega
     go_upto_region 10 with fail;obtain⟨w2,hw2⟩:∃w2,(w1.setCell ⟨zb+1,1,none⟩ (.slice (some ⟨w1.heap.size,0,none⟩) n.length n.length)).alloc (.cells (ucells (List.replicate n.length 0)) 5)=w2:=⟨_,rfl⟩
     obtain⟨db,hdb⟩:∃db,w1.heap.size=db:=⟨_,rfl⟩
     have HZ2:Hid (Blk w2 zb 121 #[.bool false,.slice none 0 0]/\Blk w2 (zb+1) 121 #[.bool false,.slice (some ⟨db,0,none⟩) n.length n.length]/\Blk w2 db 5 (ucells (List.replicate n.length 0))/\Below zb w w2):=Lib.hid (by
      rw[<-hw2,<-hdb];refine⟨(HBB.out.2.1.far (by simp) _).alloc _,(HBB.out.1.set_ 1 _).alloc _,?_,?_⟩
      ·have:=Blk.new (w1.setCell ⟨zb+1,1,none⟩ (.slice (some ⟨w1.heap.size,0,none⟩) n.length n.length)) 5 (ucells (List.replicate n.length 0));rwa[show(w1.setCell ⟨zb+1,1,none⟩ (.slice (some ⟨w1.heap.size,0,none⟩) n.length n.length)).heap.size=w1.heap.size from by simp[World.setCell]]at this
      ·exact(HBB.out.2.2.setCell (by simp) _).alloc (by simp[World.setCell];omega) _)
     have HDB:Hid (zb+1<db):=Lib.hid (by omega);(try rw[hdb]at hw2);(try rw[hdb]);(try rw[hw2]);clear hw2 hdb hz1 hz2 p0 p1 q0 q1 q2 q3 hmk;go_loopw [45] (fun s45 wr=>∃k:Nat,k<=n.length/\s45=.int .i64 k/\Hid ((n.take k).all Gr.dig=true/\∃l:List UInt8,l.length=n.length/\Blk wr zb 121 #[.bool false,.slice none 0 0]/\Blk wr (zb+1) 121 #[.bool false,.slice (some ⟨db,0,none⟩) n.length n.length]/\Blk wr db 5 (ucells l)/\Below zb w wr)) (fun s45 _=>n.length-(intOf s45).toNat)
     case atStart=>exact⟨0,by omega,rfl,Lib.hid ⟨by simp,List.replicate n.length 0,by simp,HZ2.out⟩⟩
     case round=>
      obtain⟨k,hk,rfl,HV⟩:=hrel;obtain⟨hdig,l,hll,v0,v1,vd,vb⟩:=HV.out;by_cases hlt:k<n.length
      ·have hltI:(k:Int)<(n.length:Int):=by omega
       obtain⟨b,hb⟩:∃b:Nat,(n[k]'(by omega)).toNat=b:=⟨_,rfl⟩
       have hbv:(((⟨n.toArray⟩:ByteArray)[k]'(by simpa[ByteArray.size]using hlt)).toNat:Int)=(b:Int):=by rw[<-hb];rfl
       have hTK:(n.take (k+1)).all Gr.dig=(decide (48<=b) && decide (b<=57)):=by
        rw[List.take_succ_eq_append_getElem hlt,List.all_append,hdig];have:Gr.dig (n[k]'(by omega))=(decide (48<=b) && decide (b<=57)):=by
         unfold Gr.dig;rw[<-hb];simp[UInt8.le_iff_toNat_le]
        simp[this]
       have hbl:b<256:=by rw[<-hb];exact(n[k]'(by omega)).toNat_lt
       have HALL:Hid ((decide (48<=b) && decide (b<=57))=false->Gr.intB n=false):=Lib.hid (fun e=>by
        rw[HIF.out,List.all_eq_false];have h3:(n.take (k+1)).all Gr.dig=false:=by rw[hTK,e]
        obtain⟨x,hx,hxd⟩:=List.all_eq_false.1 h3;exact⟨x,List.mem_of_mem_take hx,hxd⟩)
       have g0:=v0.cell 0;have HTK:=Lib.hid hTK;have HV0:=Lib.hid v0;have HV1:=Lib.hid v1;have HVD:=Lib.hid vd;have HVB:=Lib.hid vb;have HLL:=Lib.hid hll;have pf0:∀j,wr.frozen? ⟨zb,j,none⟩=false:=v0.frozen;obtain⟨pc0,pc1⟩:=cells2 v0;have pc2:wr.cell? ⟨zb+1,1,none⟩=some (.slice (some ⟨db,0,none⟩) n.length n.length):=v1.cell 1;clear hTK hb hdig v0 v1 vd vb hll g0;by_cases h48:48<=b
       ·by_cases h57:b<=57
        ·have a1:¬((b:Int)<48):=by omega
         have a2:¬((57:Int)<(b:Int)):=by omega
         have i1:(0:Int)<=(n.length:Int)-1-(k:Int):=by omega
         have i2:(n.length:Int)-1-(k:Int)<(n.length:Int):=by omega
         have pfd:∀j,wr.frozen? ⟨db,j,none⟩=false:=HVD.out.frozen;have a48:(48:Int)<=(b:Int):=by omega
         have a57:(b:Int)<=57:=by omega
         obtain⟨dv,zd⟩:∃dv,wr.cell? ⟨db,n.length-1-k,none⟩=some dv:=by
          rw[HVD.out.cell];refine⟨_,Array.getElem?_eq_getElem (i:=n.length-1-k) ?_⟩;have:=HLL.out;simp[ucells];omega
         go_upto_region 14 with fail;go_region
         all_goals go_wp2_with fail
         obtain⟨xb,hxb⟩:∃xb:UInt8,(xb.toNat:Int)=(b:Int)-48:=⟨UInt8.ofNat (b-48),by rw[UInt8.toNat_ofNat'];omega⟩
         rw[<-hxb];have hne:zb≠db:=by have:=HDB.out;omega
         have hne1:zb+1≠db:=by have:=HDB.out;omega
         have HN:Hid ((n.take (k+1)).all Gr.dig=true/\∃l2:List UInt8,l2.length=n.length/\Blk (wr.setCell ⟨db,n.length-1-k,none⟩ (.int .u8 (xb.toNat:Int))).drew zb 121 #[.bool false,.slice none 0 0]/\Blk (wr.setCell ⟨db,n.length-1-k,none⟩ (.int .u8 (xb.toNat:Int))).drew (zb+1) 121 #[.bool false,.slice (some ⟨db,0,none⟩) n.length n.length]/\Blk (wr.setCell ⟨db,n.length-1-k,none⟩ (.int .u8 (xb.toNat:Int))).drew db 5 (ucells l2)/\Below zb w (wr.setCell ⟨db,n.length-1-k,none⟩ (.int .u8 (xb.toNat:Int))).drew):=Lib.hid ⟨by rw[HTK.out];simp[h48,h57],l.set (n.length-1-k) xb,by simp[HLL.out],(HV0.out.far hne _).drew,(HV1.out.far hne1 _).drew,by
          rw[<-ucells_set];exact(HVD.out.set_ _ _).drew,below_drewN (HVB.out.setCell (by have:=HDB.out;simp;omega) _) 1⟩
         go_roundw
         case rel=>exact⟨k+1,by omega,by go_num,HN⟩
         case measure=>simp[intOf];omega
        ·have HF:Hid (Gr.intB n=false):=Lib.hid (HALL.out (by simp[h57]));have a1:¬((b:Int)<48):=by omega
         have a2:((57:Int)<(b:Int)):=by omega
         clear pc2;go_wp2_with fail;obtain⟨e0,e1⟩:=cells2 ((HV0.out.set_ 0 (.bool false)).set_ 1 (.slice none 0 0));refine bodyPost_ret (v:=.tuple #[.agg #[.bool false,.slice none 0 0],.bool false]) (by simp[results,Tryz.results88,go_sem,e0,e1]) rfl ?_;rw[HF.out];exact⟨false,none,0,0,rfl,by rw[HZB.out];exact(HVB.out.setCell (p:=⟨zb,0,none⟩) (by simp) _).setCell (p:=⟨zb,1,none⟩) (by simp) _⟩
       ·have HF:Hid (Gr.intB n=false):=Lib.hid (HALL.out (by simp[h48]));have a1:((b:Int)<48):=by omega
        clear pc2;go_wp2_with fail;obtain⟨e0,e1⟩:=cells2 ((HV0.out.set_ 0 (.bool false)).set_ 1 (.slice none 0 0));refine bodyPost_ret (v:=.tuple #[.agg #[.bool false,.slice none 0 0],.bool false]) (by simp[results,Tryz.results88,go_sem,e0,e1]) rfl ?_;rw[HF.out];exact⟨false,none,0,0,rfl,by rw[HZB.out];exact(HVB.out.setCell (p:=⟨zb,0,none⟩) (by simp) _).setCell (p:=⟨zb,1,none⟩) (by simp) _⟩
      ·have hltI:¬(k:Int)<(n.length:Int):=by omega
       have HF:Hid (Gr.intB n=true):=Lib.hid (by
        rw[HIF.out];rwa[show k=n.length from by omega,List.take_length]at hdig)
       have HT:=Lib.hid (trim_any (some ⟨db,0,none⟩) n.length l (by omega) (by omega) wr (db+1) (RowAt.ofBlk vd (ucells_all l) (by omega)));rw[hll]at HT;have pf0:∀j,wr.frozen? ⟨zb,j,none⟩=false:=v0.frozen;have pf1:∀j,wr.frozen? ⟨zb+1,j,none⟩=false:=v1.frozen;obtain⟨pc0,pc1⟩:=cells2 v0;obtain⟨pc3,pc2⟩:=cells2 v1;have HV0:=Lib.hid v0;have HV1:=Lib.hid v1;have HVB:=Lib.hid vb;clear v0 v1 vd vb hll hdig;go_wp2_with fail;refine HT.out.mono ?_;rintro e w5 ⟨m,rfl,hw5⟩;subst hw5;go_wp2_with fail;have b0:=((HV0.out.far (p:=⟨zb+1,1,none⟩) (by simp) (.slice (some ⟨db,0,none⟩) m n.length)).set_ 0 (.bool false)).set_ 1 (.slice (some ⟨db,0,none⟩) m n.length);obtain⟨e0,e1⟩:=cells2 b0;refine bodyPost_ret (v:=.tuple #[.agg #[.bool false,.slice (some ⟨db,0,none⟩) m n.length],.bool true]) (by simp[results,Tryz.results88,go_sem,e0,e1]) rfl ?_;rw[HF.out];exact⟨false,_,_,_,rfl,by rw[HZB.out];exact((HVB.out.setCell (p:=⟨zb+1,1,none⟩) (by simp) _).setCell (p:=⟨zb,0,none⟩) (by simp) _).setCell (p:=⟨zb,1,none⟩) (by simp) _⟩
end Go.Proofs.YtoigpackhninoaaGreatDoor
