import Derived.Test.YtoigpackhninoaaGreatDoorZ02
import Derived.Laws.EntriesVeiled
import Derived.Test.YtoigpackhninoaaGreatDoorZ05
namespace Go.Proofs.YtoigpackhninoaaGreatDoor
open _root_.Go.Proofs.Tryz
open _root_.Go.Lib (hid)
set_option maxRecDepth 100000
set_option maxHeartbeats 16000000
open Go.RowKit
theorem zqy {g:Nat} {w w1 w2:World} (h1:Below w.heap.size w w1) (h2:Kept1 g w1 w2):za5 w w2 (fun k=>k=g):=
 ⟨h2.os.trans h1.os,h2.tape.trans h1.tape,h2.output.trans h1.output,by rw[h2.size];exact h1.size,fun k hk hg=>(h2.block k hg).trans (h1.block k hk)⟩
theorem zdy (mb:Nat) (A:Option Addr) (c:Nat) (root:Int) (vs:List NV) (ns:List Gr.Nd) (B:Nat) (hr:Gr.Refs ns) (hl:ns.length<=1073741823) (hks:∀n∈ns,n.keys.length<=1073741823/\n.items.length<=1073741823)
 (m:List Bool) (a:Nat) (w:World) (h:GAt w B A vs ns) (hB:B<=mb) (hm:Blk w mb 4 (bcells m)) (hml:m.length=ns.length) (ha:a<ns.length) (hu:Gr.unm ns.length m<=ns.length):
 Calls prog 34 #[.agg #[.slice A ns.length c,.int .i64 root],.int .i64 a,.slice (some ⟨mb,0,none⟩) ns.length ns.length] w fun e w'=>e=.returned (.tuple #[])/\za5 w w' (fun k=>k=mb)/\Blk w' mb 4 (bcells (Gr.dvisit (Gr.succ ns) ns.length m a)):=by
 have hBw:B<=w.heap.size:=Nat.le_trans hB (Nat.le_of_lt hm.lt);have H:=hid h;have HM:=hid hm;clear h hm;go_enter func34,ntmps34;go_upto_region 3 with fail;obtain⟨w3,hw3⟩:=ex (((w.alloc (.cells #[.slice A ns.length c,.int .i64 root] 24)).alloc (.cells #[.slice (some ⟨mb,0,none⟩) ns.length ns.length] 62)).alloc (.cells #[.func (.func 63) #[] #[.pointer (some ⟨w.heap.size+1,0,none⟩),.pointer (some ⟨w.heap.size,0,none⟩),.pointer (some ⟨w.heap.size+1+1,0,none⟩)]] 88))
 have l3:Below w.heap.size w w3:=by rw[<-hw3];exact(((Below.refl _ _).alloc (Nat.le_refl _) _).alloc (by simp) _).alloc (by simp;omega) _
 have b1:Blk w3 w.heap.size 24 #[.slice A ns.length c,.int .i64 root]:=by rw[<-hw3];exact((Blk.new _ _ _).alloc _).alloc _
 have b2:Blk w3 (w.heap.size+1) 62 #[.slice (some ⟨mb,0,none⟩) ns.length ns.length]:=by
  rw[<-hw3];have:=Blk.new (w.alloc (.cells #[.slice A ns.length c,.int .i64 root] 24)) 62 #[.slice (some ⟨mb,0,none⟩) ns.length ns.length];rw[World.size_alloc]at this;exact this.alloc _
 have b3:Blk w3 (w.heap.size+1+1) 88 #[.func (.func 63) #[] #[.pointer (some ⟨w.heap.size+1,0,none⟩),.pointer (some ⟨w.heap.size,0,none⟩),.pointer (some ⟨w.heap.size+1+1,0,none⟩)]]:=by
  rw[<-hw3];have:=Blk.new ((w.alloc (.cells #[.slice A ns.length c,.int .i64 root] 24)).alloc (.cells #[.slice (some ⟨mb,0,none⟩) ns.length ns.length] 62)) 88 #[.func (.func 63) #[] #[.pointer (some ⟨w.heap.size+1,0,none⟩),.pointer (some ⟨w.heap.size,0,none⟩),.pointer (some ⟨w.heap.size+1+1,0,none⟩)]];rw[World.size_alloc,World.size_alloc]at this;exact this
 have v0:w3.cell? ⟨w.heap.size+1+1,0,none⟩=some (.func (.func 63) #[] #[.pointer (some ⟨w.heap.size+1,0,none⟩),.pointer (some ⟨w.heap.size,0,none⟩),.pointer (some ⟨w.heap.size+1+1,0,none⟩)]):=b3.cell 0;have hRV:RV w3 mb (w.heap.size+1) w.heap.size (w.heap.size+1+1) A c root vs ns B:=⟨b2,b1,b3,H.out.below (l3.mono hBw),hB⟩
 have HC:=hid (zk7 mb (w.heap.size+1) w.heap.size (w.heap.size+1+1) A c root vs ns B hr hl hks ns.length m a w3 hRV (HM.out.below l3 HM.out.lt) hml ha hu);have L3:=hid l3;rw[hw3];clear hw3 l3 b1 b2 b3 hRV;go_wp2_with fail;refine HC.out.mono ?_;rintro e w5 ⟨rfl,hk5,hb5⟩;have HK5:=hid hk5;have HB5:=hid hb5;clear hk5 hb5;go_wp2_with fail;go_end0;exact⟨rfl,zqy L3.out HK5.out,HB5.out⟩
open Gr
theorem zdz (l:List Nat) (x:Nat):(cstep l x).length=l.length:=by unfold cstep;simp
theorem zd0 (L l:List Nat):(L.foldl cstep l).length=l.length:=by
 induction L generalizing l with
 |nil=>rfl
 |cons x L ih=>rw[List.foldl_cons,ih,zdz]
theorem zii (l:List Nat) (x y:Nat):(cstep l x).getD y 0<=l.getD y 0+1:=by
 unfold cstep;by_cases h:x=y
 ·subst h;by_cases hx:x<l.length
  ·rw[za6 _ _ _ _ hx];exact Nat.le_refl _
  ·rw[List.set_eq_of_length_le (by omega)];omega
 ·rw[Gr.getD_set_ne _ _ _ _ _ h];omega
theorem zij (L l:List Nat) (y:Nat):(L.foldl cstep l).getD y 0<=l.getD y 0+L.length:=by
 induction L generalizing l with
 |nil=>simp
 |cons x L ih=>
  rw[List.foldl_cons,List.length_cons];have:=ih (cstep l x);have:=zii l x y;omega
theorem zk8 (ns:List Gr.Nd) (j:Nat) (h:j<ns.length):Gr.refs (ns.take (j+1))=Gr.refs (ns.take j)++(ns[j].keys++ns[j].items):=by
 unfold Gr.refs;rw[List.take_succ_eq_append_getElem h,List.flatMap_append];simp
theorem zqz (ns:List Gr.Nd) (j:Nat):(Gr.refs (ns.take j)).length<=(Gr.refs ns).length:=by
 have:Gr.refs ns=Gr.refs (ns.take j)++Gr.refs (ns.drop j):=by
  unfold Gr.refs;rw[<-List.flatMap_append,List.take_append_drop]
 rw[this,List.length_append];omega
def ncells (n:Gr.Nd) (k i:SV):Array Value:=#[.int .i64 n.kind,.string ⟨n.text.toArray⟩,.bool n.ord,k.v,i.v]
theorem zjj (A:Option Addr) (c:Nat) (root:Nat) (vs:List NV) (ns:List Gr.Nd) (hr:Refs ns) (hl:ns.length<=1073741823) (hks:∀n∈ns,n.keys.length<=1073741823/\n.items.length<=1073741823) (hrl:(Gr.refs ns).length<=1125899906842624)
 (w:World) (h:GAt w w.heap.size A vs ns) (hroot:root<ns.length):
 Calls prog 36 #[.agg #[.slice A ns.length c,.int .i64 root]] w fun e w'=>∃ob,e=.returned (.slice (some ⟨ob,0,none⟩) ns.length ns.length)/\w.heap.size<=ob/\Below w.heap.size w w'/\Blk w' ob 3 (icells (counts ns root)):=by
 have H:=hid h;have hmk:=fun W=>zct ns.length (by omega) W
 have hrI:(root:Int)<(ns.length:Int):=by omega
 clear h;go_enter func36,ntmps36;go_upto_region 2 with fail;obtain⟨w2,hw2⟩:=ex ((w.alloc (.cells #[.slice A ns.length c,.int .i64 root] 24)).alloc (.cells (icells (List.replicate ns.length 0)) 3))
 have l2:Below w.heap.size w w2:=by rw[<-hw2];exact((Below.refl _ _).alloc (Nat.le_refl _) _).alloc (by simp) _
 have bg:Blk w2 w.heap.size 24 #[.slice A ns.length c,.int .i64 root]:=by rw[<-hw2];exact(Blk.new _ _ _).alloc _
 have bo:Blk w2 (w.heap.size+1) 3 (icells (List.replicate ns.length 0)):=by
  rw[<-hw2];have:=Blk.new (w.alloc (.cells #[.slice A ns.length c,.int .i64 root] 24)) 3 (icells (List.replicate ns.length 0));rw[World.size_alloc]at this;exact this
 have g1:w2.cell? ⟨w.heap.size,1,none⟩=some (.int .i64 root):=bg.cell 1;have z0:w2.cell? ⟨w.heap.size+1,root,none⟩=some (.int .i64 0):=by
  rw[bo.cell,zad (by simpa using hroot)];simp[List.getD_eq_getElem?_getD,hroot]
 have zf:∀i,w2.frozen? ⟨w.heap.size+1,i,none⟩=false:=bo.frozen;rw[hw2];clear hw2;go_upto_region 3 with fail;obtain⟨l0,hl0⟩:=ex (cstep (List.replicate ns.length 0) root)
 obtain⟨w3,hw3⟩:=ex (w2.setCell ⟨w.heap.size+1,root,none⟩ (.int .i64 1))
 have b3:Blk w3 (w.heap.size+1) 3 (icells l0):=by
  rw[<-hw3,<-hl0];unfold cstep;have e:(List.replicate ns.length 0).getD root 0=0:=by simp[List.getD_eq_getElem?_getD,hroot]
  rw[e,<-zav];exact bo.set_ root _
 have bg3:Blk w3 w.heap.size 24 #[.slice A ns.length c,.int .i64 root]:=by rw[<-hw3];exact bg.far (by simp) _
 have g0:w3.cell? ⟨w.heap.size,0,none⟩=some (.slice A ns.length c):=bg3.cell 0;have L3:Hid (Below w.heap.size w w3):=hid (by rw[<-hw3];exact l2.setCell (by simp) _);have HL0:Hid (l0.length=ns.length/\∀x,l0.getD x 0<=1):=hid (by
  rw[<-hl0];refine⟨by rw[zdz];simp,fun x=>?_⟩;have:=zii (List.replicate ns.length 0) root x;have e:(List.replicate ns.length 0).getD x 0=0:=by simp[List.getD_eq_getElem?_getD,List.getElem?_replicate];split<;>rfl
  omega)
 have HRES:Hid (counts ns root=(Gr.refs ns).foldl cstep l0):=hid (by rw[<-hl0];rfl);have HB3:=hid b3;rw[hw3];obtain⟨ob,hob⟩:=ex (w.heap.size+1)
 rw[hob]at HB3 ⊢;have HLO:Hid (w.heap.size<=ob/\w.heap.size<=w3.heap.size):=hid ⟨by omega,L3.out.size⟩;clear hw3 l2 bg bo g1 z0 zf b3 bg3 hob hl0;go_upto_region 4 with fail;clear g0 hrI;go_loopw [24] (fun s24 wr=>∃j:Nat,j<=ns.length/\s24=.int .i64 j/\Hid (KB ob w3 wr/\Blk wr ob 3 (icells ((Gr.refs (ns.take j)).foldl cstep l0)))) (fun s24 _=>ns.length-(intOf s24).toNat)
 case atStart=>exact⟨0,by omega,rfl,hid ⟨KB.refl _ _,by simpa[Gr.refs]using HB3.out⟩⟩
 case round=>
  obtain⟨j,hj,rfl,HW⟩:=hrel;obtain⟨wq,hwq⟩:∃wq,wq=wr:=⟨_,rfl⟩
  subst hwq;by_cases hlt:j<ns.length
  ·have hltI:(j:Int)<(ns.length:Int):=by omega
   obtain⟨ad,k,i,rfl,hN⟩:=(H.out.below (L3.out.trans (HW.out.1.below HLO.out.1 HLO.out.2))).node hlt;obtain⟨ka,kn,kc⟩:=k;obtain⟨ia,inn,ic⟩:=i;have hnm:ns[j]∈ns:=List.getElem_mem hlt;obtain⟨hkl,hil⟩:=hks _ hnm;have HRF:Hid (∀x∈ns[j].keys++ns[j].items,x<ns.length):=hid (hr _ hnm);obtain⟨R,hR⟩:=ex (Gr.refs (ns.take j))
   have HRR:=hid hR;have HRJ:Hid (Gr.refs (ns.take (j+1))=R++(ns[j].keys++ns[j].items)):=hid (by rw[zk8 ns j hlt,hR]);have HRB:Hid (R.length+ns[j].keys.length+ns[j].items.length<=1125899906842624):=hid (by
    have h1:=zqz ns (j+1);rw[HRJ.out]at h1;simp only[List.length_append]at h1;omega)
   obtain⟨n,hn⟩:=ex (ns[j])
   rw[hn]at hN HRF HRJ HRB hkl hil;obtain rfl:kn=n.keys.length:=hN.kn;obtain rfl:inn=n.items.length:=hN.inn;have x0:=hN.c0;have x1:=hN.c1;have x2:=hN.c2;have x3:=hN.c3;have x4:=hN.c4;have HKR:=hid hN.keys;have HIR:=hid hN.items;have HLQ:Hid (w.heap.size<=ob/\w.heap.size<=wq.heap.size):=hid ⟨HLO.out.1,Nat.le_trans HLO.out.2 HW.out.1.size⟩;clear hN hnm hR hn;go_upto_region 6 with fail;obtain⟨w5,hw5⟩:=ex (wq.alloc (.cells #[.int .i64 n.kind,.string ⟨n.text.toArray⟩,.bool n.ord,.slice ka n.keys.length kc,.slice ia n.items.length ic] 35))
   have b5:Blk w5 wq.heap.size 35 (ncells n ⟨ka,n.keys.length,kc⟩ ⟨ia,n.items.length,ic⟩):=by rw[<-hw5];exact Blk.new _ _ _
   have s3:w5.cell? ⟨wq.heap.size,3,none⟩=some (.slice ka n.keys.length kc):=b5.cell 3;have HA:Hid (KB ob wq w5/\Blk w5 ob 3 (icells (R.foldl cstep l0))/\Blk w5 wq.heap.size 35 (ncells n ⟨ka,n.keys.length,kc⟩ ⟨ia,n.items.length,ic⟩)):=hid ⟨by rw[<-hw5];exact(KB.refl _ _).alloc _,by
    have:=HW.out.2;rw[HRR.out]at this;rw[<-hw5];exact this.alloc _,b5⟩
   rw[hw5];obtain⟨ncs,hncs⟩:=ex (ncells n ⟨ka,n.keys.length,kc⟩ ⟨ia,n.items.length,ic⟩)
   have HC4:Hid (ncs[4]? =some (.slice ia n.items.length ic)):=hid (by rw[<-hncs];rfl);rw[hncs]at HA;clear hncs;obtain⟨nb,hnb⟩:=ex wq.heap.size
   rw[hnb]at HA s3 ⊢;clear hw5 b5 x0 x1 x2 x3 x4 hnb;go_upto_region 7 with fail;clear s3;go_loopw [31] (fun s31 wr=>∃k:Nat,k<=n.keys.length/\s31=.int .i64 k/\Hid (KB ob wq wr/\Blk wr ob 3 (icells ((R++n.keys.take k).foldl cstep l0))/\Blk wr nb 35 ncs)) (fun s31 _=>n.keys.length-(intOf s31).toNat)
   case atStart=>exact⟨0,by omega,rfl,hid ⟨HA.out.1,by simpa using HA.out.2.1,HA.out.2.2⟩⟩
   case round=>
    obtain⟨k,hk,rfl,HI⟩:=hrel;by_cases hlk:k<n.keys.length
    ·have hlkI:(k:Int)<(n.keys.length:Int):=by omega
     obtain⟨x,hx⟩:=ex (n.keys[k])
     obtain⟨ad2,rfl,_,y0⟩:=zag (HKR.out.below (HI.out.1.below HLQ.out.1 HLQ.out.2)) hlk;rw[hx]at y0;have hxn:x<ns.length:=HRF.out x (by simp[<-hx]);obtain⟨acc,hacc⟩:=ex ((R++n.keys.take k).foldl cstep l0)
     have hal:acc.length=ns.length:=by rw[<-hacc,zd0,HL0.out.1]
     have hav:acc.getD x 0<=1125899906842625:=by
      rw[<-hacc];have h1:=zij (R++n.keys.take k) l0 x;have h2:=HL0.out.2 x;have h3:=HRB.out;rw[List.length_append,List.length_take]at h1;omega
     have hkb:k<=1073741823:=by omega
     have hb:=HI.out.2.1;rw[hacc]at hb;obtain⟨v,hv⟩:=ex (acc.getD x 0)
     have z0:wr.cell? ⟨ob,x,none⟩=some (.int .i64 (v:Int)):=by rw[hb.cell,zad (by omega),hv]
     have zf:∀i,wr.frozen? ⟨ob,i,none⟩=false:=hb.frozen;have hxI:(x:Int)<(ns.length:Int):=by omega
     rw[hv]at hav;have HN2:Hid (KB ob wq (wr.setCell ⟨ob,x,none⟩ (.int .i64 ((v:Int)+1)))/\Blk (wr.setCell ⟨ob,x,none⟩ (.int .i64 ((v:Int)+1))) ob 3 (icells ((R++n.keys.take (k+1)).foldl cstep l0))/\Blk (wr.setCell ⟨ob,x,none⟩ (.int .i64 ((v:Int)+1))) nb 35 ncs):=hid (by
      refine⟨HI.out.1.set _ _,?_,HI.out.2.2.far (HI.out.2.2.ne_ hb (by decide)) _⟩;rw[zal _ _ hlk,<-List.append_assoc,List.foldl_append,hacc,hx];show Blk _ _ _ (icells (cstep acc x));unfold cstep;rw[hv,<-zav,show(((v+1:Nat)):Int)=(v:Int)+1 from by omega];exact hb.set_ x _)
     clear hb hacc hal hv hx HI;go_wp2;go_roundw
     case rel=>exact⟨k+1,by omega,by go_num,HN2⟩
     case measure=>simp[intOf];omega
    ·have hlkI:¬((k:Int)<(n.keys.length:Int)):=by omega
     have HA2:Hid (KB ob wq wr/\Blk wr ob 3 (icells ((R++n.keys).foldl cstep l0))/\Blk wr nb 35 ncs):=hid ⟨HI.out.1,by have:=HI.out.2.1;rw[show k=n.keys.length from by omega,List.take_length]at this;exact this,HI.out.2.2⟩;clear HI HA;obtain⟨R1,hR1⟩:=ex (R++n.keys)
     have HA:=hid HA2.out;rw[hR1]at HA;have HRB1:Hid (R1.length+n.items.length<=1125899906842624):=hid (by rw[<-hR1,List.length_append];have:=HRB.out;omega);have HRJ1:Hid (Gr.refs (ns.take (j+1))=R1++n.items):=hid (by rw[HRJ.out,<-hR1,List.append_assoc]);clear HRB HRJ hR1 HA2 hk hlk;have HRJ:=HRJ1;have HRB:=HRB1;clear HRB1 HRJ1;have s4:wr.cell? ⟨nb,4,none⟩=some (.slice ia n.items.length ic):=(HA.out.2.2.cell 4).trans HC4.out;go_upto_region 12 with fail;clear s4 hlkI;go_loopw [45] (fun s45 wr=>∃k:Nat,k<=n.items.length/\s45=.int .i64 k/\Hid (KB ob wq wr/\Blk wr ob 3 (icells ((R1++n.items.take k).foldl cstep l0))/\Blk wr nb 35 ncs)) (fun s45 _=>n.items.length-(intOf s45).toNat)
     case atStart=>exact⟨0,by omega,rfl,hid ⟨HA.out.1,by simpa using HA.out.2.1,HA.out.2.2⟩⟩
     case round=>
      obtain⟨k,hk,rfl,HI⟩:=hrel;by_cases hlk:k<n.items.length
      ·have hlkI:(k:Int)<(n.items.length:Int):=by omega
       obtain⟨x,hx⟩:=ex (n.items[k])
       obtain⟨ad2,rfl,_,y0⟩:=zag (HIR.out.below (HI.out.1.below HLQ.out.1 HLQ.out.2)) hlk;rw[hx]at y0;have hxn:x<ns.length:=HRF.out x (by simp[<-hx]);obtain⟨acc,hacc⟩:=ex ((R1++n.items.take k).foldl cstep l0)
       have hal:acc.length=ns.length:=by rw[<-hacc,zd0,HL0.out.1]
       have hav:acc.getD x 0<=1125899906842625:=by
        rw[<-hacc];have h1:=zij (R1++n.items.take k) l0 x;have h2:=HL0.out.2 x;have h3:=HRB.out;rw[List.length_append,List.length_take]at h1;omega
       have hkb:k<=1073741823:=by omega
       have hb:=HI.out.2.1;rw[hacc]at hb;obtain⟨v,hv⟩:=ex (acc.getD x 0)
       have z0:wr.cell? ⟨ob,x,none⟩=some (.int .i64 (v:Int)):=by rw[hb.cell,zad (by omega),hv]
       have zf:∀i,wr.frozen? ⟨ob,i,none⟩=false:=hb.frozen;have hxI:(x:Int)<(ns.length:Int):=by omega
       rw[hv]at hav;have HN2:Hid (KB ob wq (wr.setCell ⟨ob,x,none⟩ (.int .i64 ((v:Int)+1)))/\Blk (wr.setCell ⟨ob,x,none⟩ (.int .i64 ((v:Int)+1))) ob 3 (icells ((R1++n.items.take (k+1)).foldl cstep l0))/\Blk (wr.setCell ⟨ob,x,none⟩ (.int .i64 ((v:Int)+1))) nb 35 ncs):=hid (by
        refine⟨HI.out.1.set _ _,?_,HI.out.2.2.far (HI.out.2.2.ne_ hb (by decide)) _⟩;rw[zal _ _ hlk,<-List.append_assoc,List.foldl_append,hacc,hx];show Blk _ _ _ (icells (cstep acc x));unfold cstep;rw[hv,<-zav,show(((v+1:Nat)):Int)=(v:Int)+1 from by omega];exact hb.set_ x _)
       clear hb hacc hal hv hx HI;go_wp2;go_roundw
       case rel=>exact⟨k+1,by omega,by go_num,HN2⟩
       case measure=>simp[intOf];omega
      ·have hlkI:¬((k:Int)<(n.items.length:Int)):=by omega
       have HA2:Hid (KB ob wq wr/\Blk wr ob 3 (icells ((R1++n.items).foldl cstep l0))/\Blk wr nb 35 ncs):=hid ⟨HI.out.1,by have:=HI.out.2.1;rw[show k=n.items.length from by omega,List.take_length]at this;exact this,HI.out.2.2⟩;clear HI HA;have HE:Hid (KB ob w3 wr/\Blk wr ob 3 (icells ((Gr.refs (ns.take (j+1))).foldl cstep l0))):=hid ⟨HW.out.1.trans HA2.out.1,by have:=HA2.out.2.1;rw[HRJ.out];exact this⟩;clear hk;go_wp2;go_roundw
       case rel=>exact⟨j+1,by omega,by go_num,HE⟩
       case measure=>simp[intOf];omega
  ·have hltI:¬((j:Int)<(ns.length:Int)):=by omega
   have HE:Hid (Below w.heap.size w wq/\Blk wq ob 3 (icells (counts ns root))):=hid ⟨L3.out.trans (HW.out.1.below HLO.out.1 HLO.out.2),by
    have:=HW.out.2;rw[show j=ns.length from by omega,List.take_length]at this;rw[HRES.out];exact this⟩
   clear HW;go_wp2;go_ret;exact⟨ob,rfl,HLO.out.1,HE.out⟩
theorem zk9 (ns:List Gr.Nd) (j:Nat) (h:j<ns.length):allKeys (ns.take (j+1))=allKeys (ns.take j)++ns[j].keys:=by
 unfold allKeys;rw[List.take_succ_eq_append_getElem h,List.flatMap_append];simp
theorem zla {ns:List Gr.Nd} (hr:Refs ns):∀x∈allKeys ns,x<ns.length:=by
 intro x hx;obtain⟨y,hy,hxy⟩:=List.mem_flatMap.1 hx;exact hr y hy x (List.mem_append_left _ hxy)
theorem zoa (ns:List Gr.Nd) (j:Nat):∀x∈allKeys (ns.take j),x∈allKeys ns:=by
 intro x hx;obtain⟨y,hy,hxy⟩:=List.mem_flatMap.1 hx;exact List.mem_flatMap.2 ⟨y,List.mem_of_mem_take hy,hxy⟩
theorem zf8 (n:Nat) (m:List Bool):unm n m<=n:=Nat.le_trans List.countP_le_length (by simp)
theorem zd1 {ns:List Gr.Nd} (hr:Refs ns) (L:List Nat) (m:List Bool) (hL:∀x∈L,x<ns.length) (hm:m.length=ns.length):(L.foldl (dvisit (Gr.succ ns) ns.length) m).length=ns.length:=
 (zfb (zbx hr.succ ns.length) L m hL hm (zf8 _ _)).len
theorem zjk (A:Option Addr) (c:Nat) (root:Int) (vs:List NV) (ns:List Gr.Nd) (hr:Refs ns) (hl:ns.length<=1073741823) (hks:∀n∈ns,n.keys.length<=1073741823/\n.items.length<=1073741823)
 (w:World) (h:GAt w w.heap.size A vs ns):
 Calls prog 37 #[.agg #[.slice A ns.length c,.int .i64 root]] w fun e w'=>∃ob,e=.returned (.slice (some ⟨ob,0,none⟩) ns.length ns.length)/\w.heap.size<=ob/\Below w.heap.size w w'/\Blk w' ob 4 (bcells (inKeys ns)):=by
 have H:=hid h;have hmk:=fun W=>zc5 ns.length (by omega) W
 clear h;go_enter func37,ntmps37;go_upto_region 2 with fail;obtain⟨w3,hw3⟩:=ex ((w.alloc (.cells #[.slice A ns.length c,.int .i64 root] 24)).alloc (.cells (bcells (List.replicate ns.length false)) 4))
 have l3:Below w.heap.size w w3:=by rw[<-hw3];exact((Below.refl _ _).alloc (Nat.le_refl _) _).alloc (by simp) _
 have bg:Blk w3 w.heap.size 24 #[.slice A ns.length c,.int .i64 root]:=by rw[<-hw3];exact(Blk.new _ _ _).alloc _
 obtain⟨m0,hm0⟩:=ex (List.replicate ns.length false)
 rw[hm0]at hw3;have bo:Blk w3 (w.heap.size+1) 4 (bcells m0):=by
  rw[<-hw3];have:=Blk.new (w.alloc (.cells #[.slice A ns.length c,.int .i64 root] 24)) 4 (bcells m0);rw[World.size_alloc]at this;exact this
 have g0:w3.cell? ⟨w.heap.size,0,none⟩=some (.slice A ns.length c):=bg.cell 0;have HM0:Hid (m0.length=ns.length):=hid (by rw[<-hm0];simp);have HRES:Hid (inKeys ns=(allKeys ns).foldl (dvisit (Gr.succ ns) ns.length) m0):=hid (by rw[<-hm0];rfl);have L3:=hid l3;have HB3:=hid bo;have HBG:=hid bg;rw[hm0,hw3];obtain⟨ob,hob⟩:=ex (w.heap.size+1)
 obtain⟨gb,hgb⟩:=ex w.heap.size
 have HLO:Hid (w.heap.size<=ob/\w.heap.size<=w3.heap.size/\gb≠ob):=hid ⟨by omega,L3.out.size,by omega⟩;rw[hob]at HB3 ⊢;rw[hgb]at g0 HBG;rw[show(Value.pointer (some ({block:=w.heap.size,off:=0}:Addr)))=.pointer (some {block:=gb,off:=0})from by rw[hgb]];clear hw3 l3 bo bg hm0 hob hgb;go_upto_region 3 with fail;clear g0;go_loopw [15] (fun s15 wr=>∃j:Nat,j<=ns.length/\s15=.int .i64 j/\Hid (KB ob w3 wr/\Blk wr ob 4 (bcells ((allKeys (ns.take j)).foldl (dvisit (Gr.succ ns) ns.length) m0)))) (fun s15 _=>ns.length-(intOf s15).toNat)
 case atStart=>exact⟨0,by omega,rfl,hid ⟨KB.refl _ _,by simpa[allKeys]using HB3.out⟩⟩
 case round=>
  obtain⟨j,hj,rfl,HW⟩:=hrel;obtain⟨wq,hwq⟩:∃wq,wq=wr:=⟨_,rfl⟩
  subst hwq;by_cases hlt:j<ns.length
  ·have hltI:(j:Int)<(ns.length:Int):=by omega
   have HGQ:Hid (GAt wq w.heap.size A vs ns):=hid (H.out.below (L3.out.trans (HW.out.1.below HLO.out.1 HLO.out.2.1)));obtain⟨ad,k,i,rfl,hN⟩:=HGQ.out.node hlt;obtain⟨ka,kn,kc⟩:=k;obtain⟨ia,inn,ic⟩:=i;have hnm:ns[j]∈ns:=List.getElem_mem hlt;obtain⟨hkl,hil⟩:=hks _ hnm;have HRF:Hid (∀x∈ns[j].keys,x<ns.length):=hid (fun x hx=>hr _ hnm x (List.mem_append_left _ hx));obtain⟨m1,hm1⟩:=ex ((allKeys (ns.take j)).foldl (dvisit (Gr.succ ns) ns.length) m0)
   have HM1:Hid (m1.length=ns.length):=hid (by rw[<-hm1];exact zd1 hr _ _ (fun x hx=>zla hr x (zoa ns j x hx)) HM0.out);have HMR:=hid hm1;have HRJ:Hid ((allKeys (ns.take (j+1))).foldl (dvisit (Gr.succ ns) ns.length) m0=ns[j].keys.foldl (dvisit (Gr.succ ns) ns.length) m1):=hid (by rw[zk9 ns j hlt,List.foldl_append,hm1]);obtain⟨n,hn⟩:=ex (ns[j])
   rw[hn]at hN HRF HRJ hkl hil;obtain rfl:kn=n.keys.length:=hN.kn;obtain rfl:inn=n.items.length:=hN.inn;have x0:=hN.c0;have x1:=hN.c1;have x2:=hN.c2;have x3:=hN.c3;have x4:=hN.c4;have HKR:=hid hN.keys;have HLQ:Hid (w.heap.size<=ob/\w.heap.size<=wq.heap.size):=hid ⟨HLO.out.1,Nat.le_trans HLO.out.2.1 HW.out.1.size⟩;clear hN hnm hm1 hn;go_upto_region 5 with fail;obtain⟨w5,hw5⟩:=ex (wq.alloc (.cells #[.int .i64 n.kind,.string ⟨n.text.toArray⟩,.bool n.ord,.slice ka n.keys.length kc,.slice ia n.items.length ic] 35))
   have b5:Blk w5 wq.heap.size 35 (ncells n ⟨ka,n.keys.length,kc⟩ ⟨ia,n.items.length,ic⟩):=by rw[<-hw5];exact Blk.new _ _ _
   have s3:w5.cell? ⟨wq.heap.size,3,none⟩=some (.slice ka n.keys.length kc):=b5.cell 3;have HA:Hid (KB ob wq w5/\Blk w5 ob 4 (bcells m1)):=hid ⟨by rw[<-hw5];exact(KB.refl _ _).alloc _,by
    have:=HW.out.2;rw[HMR.out]at this;rw[<-hw5];exact this.alloc _⟩
   rw[hw5];clear hw5 b5 x0 x1 x2 x3 x4;go_upto_region 6 with fail;clear s3;go_loopw [22] (fun s22 wr=>∃k:Nat,k<=n.keys.length/\s22=.int .i64 k/\Hid (KB ob wq wr/\Blk wr ob 4 (bcells ((n.keys.take k).foldl (dvisit (Gr.succ ns) ns.length) m1)))) (fun s22 _=>n.keys.length-(intOf s22).toNat)
   case atStart=>exact⟨0,by omega,rfl,hid ⟨HA.out.1,by simpa using HA.out.2⟩⟩
   case round=>
    obtain⟨k,hk,rfl,HI⟩:=hrel;by_cases hlk:k<n.keys.length
    ·have hlkI:(k:Int)<(n.keys.length:Int):=by omega
     obtain⟨x,hx⟩:=ex (n.keys[k])
     obtain⟨ad2,rfl,_,y0⟩:=zag (HKR.out.below (HI.out.1.below HLQ.out.1 HLQ.out.2)) hlk;rw[hx]at y0;have bgr:Blk wr gb 24 _:=HI.out.1.blk (HW.out.1.blk HBG.out HLO.out.2.2) HLO.out.2.2;obtain⟨g0,g1⟩:=cells2 bgr;have HC:=hid (zdy ob (some ad) c root vs ns w.heap.size hr hl hks ((n.keys.take k).foldl (dvisit (Gr.succ ns) ns.length) m1) x wr (HGQ.out.below (HI.out.1.below HLQ.out.1 HLQ.out.2)) HLO.out.1 HI.out.2
      (zd1 hr _ _ (fun y hy=>HRF.out y (List.mem_of_mem_take hy)) HM1.out) (HRF.out x (hx▸List.getElem_mem hlk)) (zf8 _ _))
     have HT:Hid ((n.keys.take (k+1)).foldl (dvisit (Gr.succ ns) ns.length) m1=dvisit (Gr.succ ns) ns.length ((n.keys.take k).foldl (dvisit (Gr.succ ns) ns.length) m1) x):=hid (by rw[zal _ _ hlk,List.foldl_append,hx];rfl);clear hx bgr;go_wp2_with fail;refine HC.out.mono ?_;rintro e w6 ⟨rfl,hk6,hb6⟩;have HN2:Hid (KB ob wq w6/\Blk w6 ob 4 (bcells ((n.keys.take (k+1)).foldl (dvisit (Gr.succ ns) ns.length) m1))):=hid ⟨HI.out.1.trans hk6,by rw[HT.out];exact hb6⟩;clear hk6 hb6;go_wp2;go_roundw
     case rel=>exact⟨k+1,by omega,by go_num,HN2⟩
     case measure=>simp[intOf];omega
    ·have hlkI:¬((k:Int)<(n.keys.length:Int)):=by omega
     have HE:Hid (KB ob w3 wr/\Blk wr ob 4 (bcells ((allKeys (ns.take (j+1))).foldl (dvisit (Gr.succ ns) ns.length) m0))):=hid ⟨HW.out.1.trans HI.out.1,by
      have:=HI.out.2;rw[show k=n.keys.length from by omega,List.take_length]at this;rw[HRJ.out];exact this⟩
     clear HI hk;go_wp2;go_roundw
     case rel=>exact⟨j+1,by omega,by go_num,HE⟩
     case measure=>simp[intOf];omega
  ·have hltI:¬((j:Int)<(ns.length:Int)):=by omega
   have HE:Hid (Below w.heap.size w wq/\Blk wq ob 4 (bcells (inKeys ns))):=hid ⟨L3.out.trans (HW.out.1.below HLO.out.1 HLO.out.2.1),by
    have:=HW.out.2;rw[show j=ns.length from by omega,List.take_length]at this;rw[HRES.out];exact this⟩
   clear HW;go_wp2;go_ret;exact⟨ob,rfl,HLO.out.1,HE.out⟩
namespace Utf
def rowOf (c:Nat):Nat×Nat×Nat×Nat:=
 if 192<=c/\c<224 then(2,c-192,128,2047)
 else if 224<=c/\c<240 then(3,c-224,2048,65535)
 else if 240<=c/\c<248 then(4,c-240,65536,1114111)
 else(0,0,0,0)
def goOn:Nat->Str->Option Nat
 |v,[]=>some v
 |v,c::r=>if c<128 || 191<c then none else goOn (64*v+(c.toNat-128)) r
def widen:Nat->Nat×Nat->Nat×Nat
 | 0,p=>p
 |k+1,p=>widen k (64*p.1,64*p.2+63)
def begins (b:Str):Nat×Nat:=
 match b with
 | []=>(0,0)
 |c::r=>
  if c<128/\r=[]then(c.toNat,1)
  else
   let n:=(rowOf c.toNat).1
   if r.length+1>n then(0,0)
   else match goOn (rowOf c.toNat).2.1 r with
    |none=>(0,0)
    |some v=>
     let p:=widen (n-(r.length+1)) (v,v)
     if p.2<(rowOf c.toNat).2.2.1\/p.1>(rowOf c.toNat).2.2.2\/(p.1>=55296/\p.2<=57343)then(0,0)else(p.1,n)
def refAt (r:Str):Nat×Nat:=
 if 1<=r.length/\(begins (r.take 1)).2=1 then begins (r.take 1)
 else if 2<=r.length/\(begins (r.take 2)).2=2 then begins (r.take 2)
 else if 3<=r.length/\(begins (r.take 3)).2=3 then begins (r.take 3)
 else if 4<=r.length/\(begins (r.take 4)).2=4 then begins (r.take 4)
 else(0,0)
end Utf
end Go.Proofs.YtoigpackhninoaaGreatDoor
namespace Go.Proofs.YtoigpackhninoaaGreatDoor
namespace Utf
theorem lt8 (c:UInt8) (k:Nat) (hk:k<256):(c<UInt8.ofNat k)↔c.toNat<k:=by
 rw[UInt8.lt_iff_toNat_lt,UInt8.toNat_ofNat_of_lt' (by simpa using hk)]
theorem gt8 (c:UInt8) (k:Nat) (hk:k<256):(UInt8.ofNat k<c)↔k<c.toNat:=by
 rw[UInt8.lt_iff_toNat_lt,UInt8.toNat_ofNat_of_lt' (by simpa using hk)]
def isC (d:UInt8):Bool:=decide (128<=d.toNat) && decide (d.toNat<=191)
theorem zbp (v:Nat) (d:UInt8) (r:Str):goOn v (d::r)=if isC d then goOn (64*v+(d.toNat-128)) r else none:=by
 have h1:(d<128)↔d.toNat<128:=lt8 d 128 (by omega);have h2:(191<d)↔191<d.toNat:=gt8 d 191 (by omega);rw[goOn];by_cases hd:isC d=true
 ·have:128<=d.toNat/\d.toNat<=191:=by simpa[isC]using hd
  rw[if_pos hd,if_neg];simp[h1,h2];omega
 ·rw[if_neg hd,if_pos];simp only[isC,Bool.and_eq_true,decide_eq_true_eq]at hd;simp[h1,h2];omega
theorem zcc (c d:UInt8) (r:Str):begins (c::d::r)=
 if r.length+2>(rowOf c.toNat).1 then(0,0)
 else match goOn (rowOf c.toNat).2.1 (d::r)with
  |none=>(0,0)
  |some v=>if(widen ((rowOf c.toNat).1-(r.length+2)) (v,v)).2<(rowOf c.toNat).2.2.1\/(widen ((rowOf c.toNat).1-(r.length+2)) (v,v)).1>(rowOf c.toNat).2.2.2\/((widen ((rowOf c.toNat).1-(r.length+2)) (v,v)).1>=55296/\(widen ((rowOf c.toNat).1-(r.length+2)) (v,v)).2<=57343)then(0,0)else((widen ((rowOf c.toNat).1-(r.length+2)) (v,v)).1,(rowOf c.toNat).1):=by
 unfold begins;simp only[reduceCtorEq,and_false,if_false,List.length_cons]
 all_goals rfl
theorem zko (c d:UInt8) (r:Str):(begins (c::d::r)).2=0\/((begins (c::d::r)).2=(rowOf c.toNat).1/\r.length+2<=(rowOf c.toNat).1):=by
 rw[zcc];split
 ·exact .inl rfl
 ·grind
theorem zkp (c:UInt8):(begins [c]).2=1↔c.toNat<128:=by
 have hlt:c.toNat<256:=c.toNat_lt;have h1:(c<128)↔c.toNat<128:=by rw[UInt8.lt_iff_toNat_lt];rfl
 unfold begins;simp only[and_true,List.length_nil,h1];by_cases hc:c.toNat<128
 ·simp[hc]
 ·rw[if_neg hc];simp only[hc,iff_false];unfold rowOf;split
  ·simp only[goOn,widen];repeat' split
   all_goals simp
  ·split
   ·simp only[goOn,widen];repeat' split
    all_goals simp
   ·split
    ·simp only[goOn,widen];repeat' split
     all_goals simp
    ·simp
theorem zsa (c:Nat) (h:192<=c/\c<224):rowOf c=(2,c-192,128,2047):=by unfold rowOf;rw[if_pos h]
theorem znt (c:Nat) (h:224<=c/\c<240):rowOf c=(3,c-224,2048,65535):=by unfold rowOf;rw[if_neg (by omega),if_pos h]
theorem zpn (c:Nat) (h:240<=c/\c<248):rowOf c=(4,c-240,65536,1114111):=by unfold rowOf;rw[if_neg (by omega),if_neg (by omega),if_pos h]
theorem zpo (c:Nat) (h:c<192\/248<=c):rowOf c=(0,0,0,0):=by unfold rowOf;rw[if_neg (by omega),if_neg (by omega),if_neg (by omega)]
theorem zc1 (c:UInt8) (r:Str) (n:Nat) (hc:¬c.toNat<128) (hn:(rowOf c.toNat).1=n) (_h2:2<=n\/n=0) (h4:n<=4):
 refAt (c::r)=if 2<=n/\n<=r.length+1/\(begins ((c::r).take n)).2=n then begins ((c::r).take n)else(0,0):=by
 have hone:¬(begins ((c::r).take 1)).2=1:=by
  rw[show(c::r).take 1=[c]from rfl,zkp];exact hc
 have hoth:∀k,2<=k->k<=r.length+1->k≠n->¬(begins ((c::r).take k)).2=k:=by
  intro k hk hk2 hkn;cases r with
  |nil=>rw[List.length_nil]at hk2;omega
  |cons d q=>
   obtain⟨j,rfl⟩:∃j,k=j+2:=⟨k-2,by omega⟩
   have:=zko c d (q.take j);rw[show(c::d::q).take (j+2)=c::d::q.take j from rfl];have hl:(q.take j).length=j:=by rw[List.length_take];simp only[List.length_cons]at hk2;omega
   intro he;rcases this with h|h
   ·omega
   ·omega
 unfold refAt;rw[if_neg (fun h=>hone h.2),List.length_cons];by_cases a2:n=2
 ·grind
 ·grind
def Agree (s:Str):Prop:=((dec s).1=65533/\(dec s).2=1/\(refAt s).2=0)\/(¬((dec s).1=65533/\(dec s).2=1)/\refAt s=dec s)
theorem znu (c:UInt8) (r:Str) (hc:c.toNat<128):Agree (c::r):=by
 have h1:(c<128)↔c.toNat<128:=lt8 c 128 (by omega);have hd:dec (c::r)=(c.toNat,1):=by
  unfold dec;simp only[List.getD_cons_zero];rw[if_pos hc]
 have hb:begins [c]=(c.toNat,1):=by
  unfold begins;simp only[and_true,h1,hc,if_true]
 refine .inr ⟨by rw[hd];simp only;omega,?_⟩;rw[hd];unfold refAt;rw[show(c::r).take 1=[c]from rfl,hb,if_pos ⟨by simp,rfl⟩]
theorem zkq (c:UInt8) (r:Str) (hc:128<=c.toNat) (h:c.toNat<192\/248<=c.toNat):Agree (c::r):=by
 have hlt:c.toNat<256:=c.toNat_lt;have hd:dec (c::r)=(65533,1):=by
  unfold dec;simp only[List.getD_cons_zero];have e1:(c.toNat /32==6)=false:=by simp;omega
  have e2:(c.toNat /16==14)=false:=by simp;omega
  have e3:(c.toNat /8==30)=false:=by simp;omega
  rw[if_neg (by omega),e1,e2,e3];simp
 refine .inl ⟨by rw[hd],by rw[hd],?_⟩;rw[zc1 c r 0 (by omega) (by rw[zpo _ h]) (.inr rfl) (by omega),if_neg (by omega)]
theorem zdd (d:UInt8):(d.toNat /64==2)=isC d:=by
 have hlt:d.toNat<256:=d.toNat_lt;unfold isC;rw[Bool.eq_iff_iff];simp;omega
theorem znv (c:UInt8) (r:Str) (h:192<=c.toNat/\c.toNat<224):Agree (c::r):=by
 have hrow:=zsa _ h;have href:=zc1 c r 2 (by omega) (by rw[hrow]) (.inl (by omega)) (by omega);have e1:(c.toNat /32==6)=true:=by simp;omega
 have e2:(c.toNat /16==14)=false:=by simp;omega
 have e3:(c.toNat /8==30)=false:=by simp;omega
 cases r with
 |nil=>
  have hd:dec [c]=(65533,1):=by
   unfold dec;simp only[List.getD_cons_zero];rw[if_neg (by omega),e1,e2,e3];simp
  exact .inl ⟨by rw[hd],by rw[hd],by rw[href,if_neg (by simp)]⟩
 |cons d q=>
  have hb:begins ((c::d::q).take 2)=begins [c,d]:=rfl;have hdec:dec (c::d::q)=if isC d then(if 128<=c.toNat%32*64+d.toNat%64 then(c.toNat%32*64+d.toNat%64,2)else(65533,1))else(65533,1):=by
   unfold dec;simp only[List.getD_cons_zero,List.getD_cons_succ,List.length_cons];rw[if_neg (by omega),e1,e2,e3,zdd];simp
  have hval:begins [c,d]=if isC d then(if 128<=c.toNat%32*64+d.toNat%64 then(c.toNat%32*64+d.toNat%64,2)else(0,0))else(0,0):=by
   rw[zcc,hrow,if_neg (by simp),zbp];cases hd:isC d with
   |false=>rfl
   |true=>
    have hd2:128<=d.toNat/\d.toNat<=191:=by simpa[isC]using hd
    have hv:64*(c.toNat-192)+(d.toNat-128)=c.toNat%32*64+d.toNat%64:=by omega
    simp only[if_true,goOn,List.length_nil,Nat.zero_add,Nat.sub_self,widen,hv];by_cases hge:128<=c.toNat%32*64+d.toNat%64
    ·grind
    ·grind
  rw[hb]at href;unfold Agree;rw[hdec,href,hval];cases hd:isC d with
  |false=>simp
  |true=>
   grind
end Utf
end Go.Proofs.YtoigpackhninoaaGreatDoor
namespace Go.Proofs.YtoigpackhninoaaGreatDoor
namespace Utf
theorem zg8 (v:Nat):Utf8.valid (v:Int)=(decide (v<55296) || (decide (57344<=v) && decide (v<=1114111))):=by
 unfold Utf8.valid;rw[Bool.eq_iff_iff];simp only[Bool.or_eq_true,Bool.and_eq_true,decide_eq_true_eq];omega
theorem zh7 (c:UInt8) (r:Str) (h:224<=c.toNat/\c.toNat<240):Agree (c::r):=by
 have hrow:=znt _ h;have href:=zc1 c r 3 (by omega) (by rw[hrow]) (.inl (by omega)) (by omega);have e1:(c.toNat /32==6)=false:=by simp;omega
 have e2:(c.toNat /16==14)=true:=by simp;omega
 have e3:(c.toNat /8==30)=false:=by simp;omega
 match r,href with
 | [],href=>
  have hd:dec [c]=(65533,1):=by
   unfold dec;simp only[List.getD_cons_zero];rw[if_neg (by omega),e1,e2,e3];simp
  exact .inl ⟨by rw[hd],by rw[hd],by rw[href,if_neg (by simp)]⟩
 | [d],href=>
  have hd:dec [c,d]=(65533,1):=by
   unfold dec;simp only[List.getD_cons_zero];rw[if_neg (by omega),e1,e2,e3];simp
  exact .inl ⟨by rw[hd],by rw[hd],by rw[href,if_neg (by simp)]⟩
 |d::e::q,href=>
  have hb:begins ((c::d::e::q).take 3)=begins [c,d,e]:=rfl;obtain⟨v,hv⟩:∃v,v=c.toNat%16*4096+d.toNat%64*64+e.toNat%64:=⟨_,rfl⟩
  have hdec:dec (c::d::e::q)=if isC d && isC e then(if 2048<=v/\(v<55296\/57343<v)then(v,3)else(65533,1))else(65533,1):=by
   unfold dec;simp only[List.getD_cons_zero,List.getD_cons_succ,List.length_cons];rw[if_neg (by omega),e1,e2,e3,zdd,zdd,<-hv];have hlen1:decide (1<q.length+1+1+1)=true:=by simp
   have hlen2:decide (2<q.length+1+1+1)=true:=by simp
   rw[hlen1,hlen2];simp only[Bool.false_and,Bool.true_and,Bool.false_eq_true,if_false];have hv2:v<=65535:=by omega
   cases hdd:isC d && isC e with
   |false=>simp
   |true=>
    simp only[if_true,zg8];by_cases hg:2048<=v/\(v<55296\/57343<v)
    ·grind
    ·grind
  have hval:begins [c,d,e]=if isC d && isC e then(if 2048<=v/\(v<55296\/57343<v)then(v,3)else(0,0))else(0,0):=by
   rw[zcc,hrow,if_neg (by simp),zbp];cases hd:isC d with
   |false=>rfl
   |true=>
    rw[if_pos rfl,zbp];cases he:isC e with
    |false=>rfl
    |true=>
     have hd2:128<=d.toNat/\d.toNat<=191:=by simpa[isC]using hd
     have he2:128<=e.toNat/\e.toNat<=191:=by simpa[isC]using he
     have hvv:64*(64*(c.toNat-224)+(d.toNat-128))+(e.toNat-128)=v:=by omega
     have hv2:v<=65535:=by omega
     simp only[if_true,goOn,List.length_nil,List.length_cons,Nat.zero_add,Nat.sub_self,widen,hvv,Bool.and_self];by_cases hg:2048<=v/\(v<55296\/57343<v)
     ·grind
     ·grind
  rw[hb]at href;unfold Agree;rw[hdec,href,hval];cases hd:isC d && isC e with
  |false=>simp
  |true=>
   grind
theorem zkr (c:UInt8) (r:Str) (h:240<=c.toNat/\c.toNat<248):Agree (c::r):=by
 have hrow:=zpn _ h;have href:=zc1 c r 4 (by omega) (by rw[hrow]) (.inl (by omega)) (by omega);have e1:(c.toNat /32==6)=false:=by simp;omega
 have e2:(c.toNat /16==14)=false:=by simp;omega
 have e3:(c.toNat /8==30)=true:=by simp;omega
 have short:r.length<3->Agree (c::r):=by
  intro hl;have hd:dec (c::r)=(65533,1):=by
   unfold dec;simp only[List.getD_cons_zero,List.length_cons];rw[if_neg (by omega),e1,e2,e3];have h3:decide (3<r.length+1)=false:=by simp;omega
   rw[h3];simp
  exact .inl ⟨by rw[hd],by rw[hd],by rw[href,if_neg (by omega)]⟩
 match r,href,short with
 | [],_,short=>exact short (by simp)
 | [_],_,short=>exact short (by simp)
 | [_,_],_,short=>exact short (by simp)
 |d::e::f::q,href,_=>
  have hb:begins ((c::d::e::f::q).take 4)=begins [c,d,e,f]:=rfl;obtain⟨v,hv⟩:∃v,v=c.toNat%8*262144+d.toNat%64*4096+e.toNat%64*64+f.toNat%64:=⟨_,rfl⟩
  have hdec:dec (c::d::e::f::q)=if isC d && isC e && isC f then(if 65536<=v/\v<=1114111 then(v,4)else(65533,1))else(65533,1):=by
   unfold dec;simp only[List.getD_cons_zero,List.getD_cons_succ,List.length_cons];rw[if_neg (by omega),e1,e2,e3,zdd,zdd,zdd,<-hv];have hlen1:decide (1<q.length+1+1+1+1)=true:=by simp
   have hlen2:decide (2<q.length+1+1+1+1)=true:=by simp
   have hlen3:decide (3<q.length+1+1+1+1)=true:=by simp
   rw[hlen1,hlen2,hlen3];simp only[Bool.false_and,Bool.true_and,Bool.false_eq_true,if_false];cases hdd:isC d && isC e && isC f with
   |false=>simp
   |true=>
    simp only[if_true,zg8];by_cases hg:65536<=v/\v<=1114111
    ·grind
    ·grind
  have hval:begins [c,d,e,f]=if isC d && isC e && isC f then(if 65536<=v/\v<=1114111 then(v,4)else(0,0))else(0,0):=by
   rw[zcc,hrow,if_neg (by simp),zbp];cases hd:isC d with
   |false=>rfl
   |true=>
    rw[if_pos rfl,zbp];cases he:isC e with
    |false=>rfl
    |true=>
     rw[if_pos rfl,zbp];cases hf:isC f with
     |false=>rfl
     |true=>
      have hd2:128<=d.toNat/\d.toNat<=191:=by simpa[isC]using hd
      have he2:128<=e.toNat/\e.toNat<=191:=by simpa[isC]using he
      have hf2:128<=f.toNat/\f.toNat<=191:=by simpa[isC]using hf
      have hvv:64*(64*(64*(c.toNat-240)+(d.toNat-128))+(e.toNat-128))+(f.toNat-128)=v:=by omega
      simp only[if_true,goOn,List.length_nil,List.length_cons,Nat.zero_add,Nat.sub_self,widen,hvv,Bool.and_self];by_cases hg:65536<=v/\v<=1114111
      ·grind
      ·grind
  rw[hb]at href;unfold Agree;rw[hdec,href,hval];cases hd:isC d && isC e && isC f with
  |false=>simp
  |true=>
   grind
theorem agree (s:Str) (h:s≠[]):Agree s:=by
 cases s with
 |nil=>exact absurd rfl h
 |cons c r=>
  have hlt:c.toNat<256:=c.toNat_lt;by_cases h1:c.toNat<128
  ·exact znu c r h1
  ·by_cases h2:c.toNat<192\/248<=c.toNat
   ·exact zkq c r (by omega) h2
   ·by_cases h3:c.toNat<224
    ·exact znv c r (by omega)
    ·by_cases h4:c.toNat<240
     ·exact zh7 c r (by omega)
     ·exact zkr c r (by omega)
end Utf
end Go.Proofs.YtoigpackhninoaaGreatDoor
namespace Go.Proofs.YtoigpackhninoaaGreatDoor
namespace Utf
end Utf
end Go.Proofs.YtoigpackhninoaaGreatDoor
