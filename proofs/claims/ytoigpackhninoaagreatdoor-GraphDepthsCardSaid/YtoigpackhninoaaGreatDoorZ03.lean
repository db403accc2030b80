import Derived.Test.YtoigpackhninoaaGreatDoorGrReached
import Derived.Laws.EntriesVeiled
namespace Go.Proofs.YtoigpackhninoaaGreatDoor
open _root_.Go.Proofs.Tryz
open Lib (hid)
set_option maxRecDepth 100000
set_option maxHeartbeats 16000000
open Go.RowKit
theorem zu9 {g:Nat} {w w1 w2:World} (h1:Below w.heap.size w w1) (h2:Kept1 g w1 w2):zbj w w2 (fun k=>k=g):=
 ⟨h2.os.trans h1.os,h2.tape.trans h1.tape,h2.output.trans h1.output,by rw[h2.size];exact h1.size,fun k hk hg=>(h2.block k hg).trans (h1.block k hk)⟩
theorem ze0 (mb:Nat) (A:Option Addr) (c:Nat) (root:Int) (vs:List NV) (ns:List Gr.Nd) (B:Nat) (hr:Gr.Refs ns) (hl:ns.length<=1073741823) (hks:∀n∈ns,n.keys.length<=1073741823/\n.items.length<=1073741823)
 (m:List Bool) (a:Nat) (w:World) (h:GAt w B A vs ns) (hB:B<=mb) (hm:Blk w mb 4 (bcells m)) (hml:m.length=ns.length) (ha:a<ns.length) (hu:Gr.unm ns.length m<=ns.length):
 Calls prog 34 #[.agg #[.slice A ns.length c,.int .i64 root],.int .i64 a,.slice (some ⟨mb,0,none⟩) ns.length ns.length] w fun e w'=>e=.returned (.tuple #[])/\zbj w w' (fun k=>k=mb)/\Blk w' mb 4 (bcells (Gr.dvisit (Gr.succ ns) ns.length m a)):=by
 have hBw:B<=w.heap.size:=Nat.le_trans hB (Nat.le_of_lt hm.lt);have H:=hid h;have HM:=hid hm;clear h hm;go_enter func34,ntmps34;go_upto_region 3 with fail;obtain⟨w3,hw3⟩:=ex (((w.alloc (.cells #[.slice A ns.length c,.int .i64 root] 24)).alloc (.cells #[.slice (some ⟨mb,0,none⟩) ns.length ns.length] 62)).alloc (.cells #[.func (.func 63) #[] #[.pointer (some ⟨w.heap.size+1,0,none⟩),.pointer (some ⟨w.heap.size,0,none⟩),.pointer (some ⟨w.heap.size+1+1,0,none⟩)]] 88))
 have l3:Below w.heap.size w w3:=by rw[<-hw3];exact(((Below.refl _ _).alloc (Nat.le_refl _) _).alloc (by simp) _).alloc (by simp;omega) _
 have b1:Blk w3 w.heap.size 24 #[.slice A ns.length c,.int .i64 root]:=by rw[<-hw3];exact((Blk.new _ _ _).alloc _).alloc _
 have b2:Blk w3 (w.heap.size+1) 62 #[.slice (some ⟨mb,0,none⟩) ns.length ns.length]:=by
  rw[<-hw3];have:=Blk.new (w.alloc (.cells #[.slice A ns.length c,.int .i64 root] 24)) 62 #[.slice (some ⟨mb,0,none⟩) ns.length ns.length];rw[World.size_alloc]at this;exact this.alloc _
 have b3:Blk w3 (w.heap.size+1+1) 88 #[.func (.func 63) #[] #[.pointer (some ⟨w.heap.size+1,0,none⟩),.pointer (some ⟨w.heap.size,0,none⟩),.pointer (some ⟨w.heap.size+1+1,0,none⟩)]]:=by
  rw[<-hw3];have:=Blk.new ((w.alloc (.cells #[.slice A ns.length c,.int .i64 root] 24)).alloc (.cells #[.slice (some ⟨mb,0,none⟩) ns.length ns.length] 62)) 88 #[.func (.func 63) #[] #[.pointer (some ⟨w.heap.size+1,0,none⟩),.pointer (some ⟨w.heap.size,0,none⟩),.pointer (some ⟨w.heap.size+1+1,0,none⟩)]];rw[World.size_alloc,World.size_alloc]at this;exact this
 have v0:w3.cell? ⟨w.heap.size+1+1,0,none⟩=some (.func (.func 63) #[] #[.pointer (some ⟨w.heap.size+1,0,none⟩),.pointer (some ⟨w.heap.size,0,none⟩),.pointer (some ⟨w.heap.size+1+1,0,none⟩)]):=b3.cell 0;have hRV:RV w3 mb (w.heap.size+1) w.heap.size (w.heap.size+1+1) A c root vs ns B:=⟨b2,b1,b3,H.out.below (l3.mono hBw),hB⟩
 have HC:=hid (zou mb (w.heap.size+1) w.heap.size (w.heap.size+1+1) A c root vs ns B hr hl hks ns.length m a w3 hRV (HM.out.below l3 HM.out.lt) hml ha hu);have L3:=hid l3;rw[hw3];clear hw3 l3 b1 b2 b3 hRV;go_wp2_with fail;refine HC.out.mono ?_;rintro e w5 ⟨rfl,hk5,hb5⟩;have HK5:=hid hk5;have HB5:=hid hb5;clear hk5 hb5;go_wp2_with fail;go_end0;exact⟨rfl,zu9 L3.out HK5.out,HB5.out⟩
open Gr
theorem zch (l:List Nat) (x:Nat):(cstep l x).length=l.length:=by unfold cstep;simp
theorem zb2 (L l:List Nat):(L.foldl cstep l).length=l.length:=by
 induction L generalizing l with
 |nil=>rfl
 |cons x L ih=>rw[List.foldl_cons,ih,zch]
theorem zen (l:List Nat) (x y:Nat):(cstep l x).getD y 0<=l.getD y 0+1:=by
 unfold cstep;by_cases h:x=y
 ·subst h;by_cases hx:x<l.length
  ·rw[za1 _ _ _ _ hx];exact Nat.le_refl _
  ·rw[List.set_eq_of_length_le (by omega)];omega
 ·rw[Gr.getD_set_ne _ _ _ _ _ h];omega
theorem zdi (L l:List Nat) (y:Nat):(L.foldl cstep l).getD y 0<=l.getD y 0+L.length:=by
 induction L generalizing l with
 |nil=>simp
 |cons x L ih=>
  rw[List.foldl_cons,List.length_cons];have:=ih (cstep l x);have:=zen l x y;omega
theorem zdj (ns:List Gr.Nd) (j:Nat) (h:j<ns.length):Gr.refs (ns.take (j+1))=Gr.refs (ns.take j)++(ns[j].keys++ns[j].items):=by
 unfold Gr.refs;rw[List.take_succ_eq_append_getElem h,List.flatMap_append];simp
theorem zva (ns:List Gr.Nd) (j:Nat):(Gr.refs (ns.take j)).length<=(Gr.refs ns).length:=by
 have:Gr.refs ns=Gr.refs (ns.take j)++Gr.refs (ns.drop j):=by
  unfold Gr.refs;rw[<-List.flatMap_append,List.take_append_drop]
 rw[this,List.length_append];omega
def ncells (n:Gr.Nd) (k i:SV):Array Value:=#[.int .i64 n.kind,.string ⟨n.text.toArray⟩,.bool n.ord,k.v,i.v]
theorem zl9 (A:Option Addr) (c:Nat) (root:Nat) (vs:List NV) (ns:List Gr.Nd) (hr:Refs ns) (hl:ns.length<=1073741823) (hks:∀n∈ns,n.keys.length<=1073741823/\n.items.length<=1073741823) (hrl:(Gr.refs ns).length<=1125899906842624)
 (w:World) (h:GAt w w.heap.size A vs ns) (hroot:root<ns.length):
 Calls prog 36 #[.agg #[.slice A ns.length c,.int .i64 root]] w fun e w'=>∃ob,e=.returned (.slice (some ⟨ob,0,none⟩) ns.length ns.length)/\w.heap.size<=ob/\Below w.heap.size w w'/\Blk w' ob 3 (icells (counts ns root)):=by
 have H:=hid h;have hmk:=fun W=>zb0 ns.length (by omega) W
 have hrI:(root:Int)<(ns.length:Int):=by omega
 clear h;go_enter func36,ntmps36;go_upto_region 2 with fail;obtain⟨w2,hw2⟩:=ex ((w.alloc (.cells #[.slice A ns.length c,.int .i64 root] 24)).alloc (.cells (icells (List.replicate ns.length 0)) 3))
 have l2:Below w.heap.size w w2:=by rw[<-hw2];exact((Below.refl _ _).alloc (Nat.le_refl _) _).alloc (by simp) _
 have bg:Blk w2 w.heap.size 24 #[.slice A ns.length c,.int .i64 root]:=by rw[<-hw2];exact(Blk.new _ _ _).alloc _
 have bo:Blk w2 (w.heap.size+1) 3 (icells (List.replicate ns.length 0)):=by
  rw[<-hw2];have:=Blk.new (w.alloc (.cells #[.slice A ns.length c,.int .i64 root] 24)) 3 (icells (List.replicate ns.length 0));rw[World.size_alloc]at this;exact this
 have g1:w2.cell? ⟨w.heap.size,1,none⟩=some (.int .i64 root):=bg.cell 1;have z0:w2.cell? ⟨w.heap.size+1,root,none⟩=some (.int .i64 0):=by
  rw[bo.cell,zad (by simpa using hroot)];simp[List.getD_eq_getElem?_getD,hroot]
 have zf:∀i,w2.frozen? ⟨w.heap.size+1,i,none⟩=false:=bo.frozen;rw[hw2];clear hw2;go_upto_region 3 with fail;obtain⟨l0,hl0⟩:=ex (cstep (List.replicate ns.length 0) root)
 obtain⟨w3,hw3⟩:=ex (w2.setCell ⟨w.heap.size+1,root,none⟩ (.int .i64 1))
 have b3:Blk w3 (w.heap.size+1) 3 (icells l0):=by
  rw[<-hw3,<-hl0];unfold cstep;have e:(List.replicate ns.length 0).getD root 0=0:=by simp[List.getD_eq_getElem?_getD,hroot]
  rw[e,<-zau];exact bo.set_ root _
 have bg3:Blk w3 w.heap.size 24 #[.slice A ns.length c,.int .i64 root]:=by rw[<-hw3];exact bg.far (by simp) _
 have g0:w3.cell? ⟨w.heap.size,0,none⟩=some (.slice A ns.length c):=bg3.cell 0;have L3:Hid (Below w.heap.size w w3):=hid (by rw[<-hw3];exact l2.setCell (by simp) _);have HL0:Hid (l0.length=ns.length/\∀x,l0.getD x 0<=1):=hid (by
  rw[<-hl0];refine⟨by rw[zch];simp,fun x=>?_⟩;have:=zen (List.replicate ns.length 0) root x;have e:(List.replicate ns.length 0).getD x 0=0:=by simp[List.getD_eq_getElem?_getD,List.getElem?_replicate];split<;>rfl
  omega)
 have HRES:Hid (counts ns root=(Gr.refs ns).foldl cstep l0):=hid (by rw[<-hl0];rfl);have HB3:=hid b3;rw[hw3];obtain⟨ob,hob⟩:=ex (w.heap.size+1)
 rw[hob]at HB3 ⊢;have HLO:Hid (w.heap.size<=ob/\w.heap.size<=w3.heap.size):=hid ⟨by omega,L3.out.size⟩;clear hw3 l2 bg bo g1 z0 zf b3 bg3 hob hl0;go_upto_region 4 with fail;clear g0 hrI;go_loopw [24] (fun s24 wr=>∃j:Nat,j<=ns.length/\s24=.int .i64 j/\Hid (KB ob w3 wr/\Blk wr ob 3 (icells ((Gr.refs (ns.take j)).foldl cstep l0)))) (fun s24 _=>ns.length-(intOf s24).toNat)
 case atStart=>exact⟨0,by omega,rfl,hid ⟨KB.refl _ _,by simpa[Gr.refs]using HB3.out⟩⟩
 case round=>
  obtain⟨j,hj,rfl,HW⟩:=hrel;obtain⟨wq,hwq⟩:∃wq,wq=wr:=⟨_,rfl⟩
  subst hwq;by_cases hlt:j<ns.length
  ·have hltI:(j:Int)<(ns.length:Int):=by omega
   obtain⟨ad,k,i,rfl,hN⟩:=(H.out.below (L3.out.trans (HW.out.1.below HLO.out.1 HLO.out.2))).node hlt;obtain⟨ka,kn,kc⟩:=k;obtain⟨ia,inn,ic⟩:=i;have hnm:ns[j]∈ns:=List.getElem_mem hlt;obtain⟨hkl,hil⟩:=hks _ hnm;have HRF:Hid (∀x∈ns[j].keys++ns[j].items,x<ns.length):=hid (hr _ hnm);obtain⟨R,hR⟩:=ex (Gr.refs (ns.take j))
   have HRR:=hid hR;have HRJ:Hid (Gr.refs (ns.take (j+1))=R++(ns[j].keys++ns[j].items)):=hid (by rw[zdj ns j hlt,hR]);have HRB:Hid (R.length+ns[j].keys.length+ns[j].items.length<=1125899906842624):=hid (by
    have h1:=zva ns (j+1);rw[HRJ.out]at h1;simp only[List.length_append]at h1;omega)
   obtain⟨n,hn⟩:=ex (ns[j])
   rw[hn]at hN HRF HRJ HRB hkl hil;obtain rfl:kn=n.keys.length:=hN.kn;obtain rfl:inn=n.items.length:=hN.inn;have x0:=hN.c0;have x1:=hN.c1;have x2:=hN.c2;have x3:=hN.c3;have x4:=hN.c4;have HKR:=hid hN.keys;have HIR:=hid hN.items;have HLQ:Hid (w.heap.size<=ob/\w.heap.size<=wq.heap.size):=hid ⟨HLO.out.1,Nat.le_trans HLO.out.2 HW.out.1.size⟩;clear hN hnm hR hn;go_upto_region 6 with fail;obtain⟨w5,hw5⟩:=ex (wq.alloc (.cells #[.int .i64 n.kind,.string ⟨n.text.toArray⟩,.bool n.ord,.slice ka n.keys.length kc,.slice ia n.items.length ic] 35))
   have b5:Blk w5 wq.heap.size 35 (ncells n ⟨ka,n.keys.length,kc⟩ ⟨ia,n.items.length,ic⟩):=by rw[<-hw5];exact Blk.new _ _ _
   have s3:w5.cell? ⟨wq.heap.size,3,none⟩=some (.slice ka n.keys.length kc):=b5.cell 3;have HA:Hid (KB ob wq w5/\Blk w5 ob 3 (icells (R.foldl cstep l0))/\Blk w5 wq.heap.size 35 (ncells n ⟨ka,n.keys.length,kc⟩ ⟨ia,n.items.length,ic⟩)):=hid ⟨by rw[<-hw5];exact(KB.refl _ _).alloc _,by
    have:=HW.out.2;rw[HRR.out]at this;rw[<-hw5];exact this.alloc _,b5⟩
   rw[hw5];obtain⟨ncs,hncs⟩:=ex (ncells n ⟨ka,n.keys.length,kc⟩ ⟨ia,n.items.length,ic⟩)
   have HC4:Hid (ncs[4]? =some (.slice ia n.items.length ic)):=hid (by rw[<-hncs];rfl);rw[hncs]at HA;clear hncs;obtain⟨nb,hnb⟩:=ex wq.heap.size
   rw[hnb]at HA s3 ⊢;clear hw5 b5 x0 x1 x2 x3 x4 hnb;go_upto_region 7 with fail;clear s3;go_loopw [31] (fun s31 wr=>∃k:Nat,k<=n.keys.length/\s31=.int .i64 k/\Hid (KB ob wq wr/\Blk wr ob 3 (icells ((R++n.keys.take k).foldl cstep l0))/\Blk wr nb 35 ncs)) (fun s31 _=>n.keys.length-(intOf s31).toNat)
   case atStart=>exact⟨0,by omega,rfl,hid ⟨HA.out.1,by simpa using HA.out.2.1,HA.out.2.2⟩⟩
   case round=>
    obtain⟨k,hk,rfl,HI⟩:=hrel;by_cases hlk:k<n.keys.length
    ·have hlkI:(k:Int)<(n.keys.length:Int):=by omega
     obtain⟨x,hx⟩:=ex (n.keys[k])
     obtain⟨ad2,rfl,_,y0⟩:=zae (HKR.out.below (HI.out.1.below HLQ.out.1 HLQ.out.2)) hlk;rw[hx]at y0;have hxn:x<ns.length:=HRF.out x (by simp[<-hx]);obtain⟨acc,hacc⟩:=ex ((R++n.keys.take k).foldl cstep l0)
     have hal:acc.length=ns.length:=by rw[<-hacc,zb2,HL0.out.1]
     have hav:acc.getD x 0<=1125899906842625:=by
      rw[<-hacc];have h1:=zdi (R++n.keys.take k) l0 x;have h2:=HL0.out.2 x;have h3:=HRB.out;rw[List.length_append,List.length_take]at h1;omega
     have hkb:k<=1073741823:=by omega
     have hb:=HI.out.2.1;rw[hacc]at hb;obtain⟨v,hv⟩:=ex (acc.getD x 0)
     have z0:wr.cell? ⟨ob,x,none⟩=some (.int .i64 (v:Int)):=by rw[hb.cell,zad (by omega),hv]
     have zf:∀i,wr.frozen? ⟨ob,i,none⟩=false:=hb.frozen;have hxI:(x:Int)<(ns.length:Int):=by omega
     rw[hv]at hav;have HN2:Hid (KB ob wq (wr.setCell ⟨ob,x,none⟩ (.int .i64 ((v:Int)+1)))/\Blk (wr.setCell ⟨ob,x,none⟩ (.int .i64 ((v:Int)+1))) ob 3 (icells ((R++n.keys.take (k+1)).foldl cstep l0))/\Blk (wr.setCell ⟨ob,x,none⟩ (.int .i64 ((v:Int)+1))) nb 35 ncs):=hid (by
      refine⟨HI.out.1.set _ _,?_,HI.out.2.2.far (HI.out.2.2.ne_ hb (by decide)) _⟩;rw[zaj _ _ hlk,<-List.append_assoc,List.foldl_append,hacc,hx];show Blk _ _ _ (icells (cstep acc x));unfold cstep;rw[hv,<-zau,show(((v+1:Nat)):Int)=(v:Int)+1 from by omega];exact hb.set_ x _)
     clear hb hacc hal hv hx HI;go_wp2;go_roundw
     case rel=>exact⟨k+1,by omega,by go_num,HN2⟩
     case measure=>simp[intOf];omega
    ·have hlkI:¬((k:Int)<(n.keys.length:Int)):=by omega
     have HA2:Hid (KB ob wq wr/\Blk wr ob 3 (icells ((R++n.keys).foldl cstep l0))/\Blk wr nb 35 ncs):=hid ⟨HI.out.1,by have:=HI.out.2.1;rw[show k=n.keys.length from by omega,List.take_length]at this;exact this,HI.out.2.2⟩;clear HI HA;obtain⟨R1,hR1⟩:=ex (R++n.keys)
     have HA:=hid HA2.out;rw[hR1]at HA;have HRB1:Hid (R1.length+n.items.length<=1125899906842624):=hid (by rw[<-hR1,List.length_append];have:=HRB.out;omega);have HRJ1:Hid (Gr.refs (ns.take (j+1))=R1++n.items):=hid (by rw[HRJ.out,<-hR1,List.append_assoc]);clear HRB HRJ hR1 HA2 hk hlk;have HRJ:=HRJ1;have HRB:=HRB1;clear HRB1 HRJ1;have s4:wr.cell? ⟨nb,4,none⟩=some (.slice ia n.items.length ic):=(HA.out.2.2.cell 4).trans HC4.out;go_upto_region 12 with fail;clear s4 hlkI;go_loopw [45] (fun s45 wr=>∃k:Nat,k<=n.items.length/\s45=.int .i64 k/\Hid (KB ob wq wr/\Blk wr ob 3 (icells ((R1++n.items.take k).foldl cstep l0))/\Blk wr nb 35 ncs)) (fun s45 _=>n.items.length-(intOf s45).toNat)
     case atStart=>exact⟨0,by omega,rfl,hid ⟨HA.out.1,by simpa using HA.out.2.1,HA.out.2.2⟩⟩
     case round=>
      obtain⟨k,hk,rfl,HI⟩:=hrel;by_cases hlk:k<n.items.length
      ·have hlkI:(k:Int)<(n.items.length:Int):=by omega
       obtain⟨x,hx⟩:=ex (n.items[k])
       obtain⟨ad2,rfl,_,y0⟩:=zae (HIR.out.below (HI.out.1.below HLQ.out.1 HLQ.out.2)) hlk;rw[hx]at y0;have hxn:x<ns.length:=HRF.out x (by simp[<-hx]);obtain⟨acc,hacc⟩:=ex ((R1++n.items.take k).foldl cstep l0)
       have hal:acc.length=ns.length:=by rw[<-hacc,zb2,HL0.out.1]
       have hav:acc.getD x 0<=1125899906842625:=by
        rw[<-hacc];have h1:=zdi (R1++n.items.take k) l0 x;have h2:=HL0.out.2 x;have h3:=HRB.out;rw[List.length_append,List.length_take]at h1;omega
       have hkb:k<=1073741823:=by omega
       have hb:=HI.out.2.1;rw[hacc]at hb;obtain⟨v,hv⟩:=ex (acc.getD x 0)
       have z0:wr.cell? ⟨ob,x,none⟩=some (.int .i64 (v:Int)):=by rw[hb.cell,zad (by omega),hv]
       have zf:∀i,wr.frozen? ⟨ob,i,none⟩=false:=hb.frozen;have hxI:(x:Int)<(ns.length:Int):=by omega
       rw[hv]at hav;have HN2:Hid (KB ob wq (wr.setCell ⟨ob,x,none⟩ (.int .i64 ((v:Int)+1)))/\Blk (wr.setCell ⟨ob,x,none⟩ (.int .i64 ((v:Int)+1))) ob 3 (icells ((R1++n.items.take (k+1)).foldl cstep l0))/\Blk (wr.setCell ⟨ob,x,none⟩ (.int .i64 ((v:Int)+1))) nb 35 ncs):=hid (by
        refine⟨HI.out.1.set _ _,?_,HI.out.2.2.far (HI.out.2.2.ne_ hb (by decide)) _⟩;rw[zaj _ _ hlk,<-List.append_assoc,List.foldl_append,hacc,hx];show Blk _ _ _ (icells (cstep acc x));unfold cstep;rw[hv,<-zau,show(((v+1:Nat)):Int)=(v:Int)+1 from by omega];exact hb.set_ x _)
       clear hb hacc hal hv hx HI;go_wp2;go_roundw
       case rel=>exact⟨k+1,by omega,by go_num,HN2⟩
       case measure=>simp[intOf];omega
      ·have hlkI:¬((k:Int)<(n.items.length:Int)):=by omega
       have HA2:Hid (KB ob wq wr/\Blk wr ob 3 (icells ((R1++n.items).foldl cstep l0))/\Blk wr nb 35 ncs):=hid ⟨HI.out.1,by have:=HI.out.2.1;rw[show k=n.items.length from by omega,List.take_length]at this;exact this,HI.out.2.2⟩;clear HI HA;have HE:Hid (KB ob w3 wr/\Blk wr ob 3 (icells ((Gr.refs (ns.take (j+1))).foldl cstep l0))):=hid ⟨HW.out.1.trans HA2.out.1,by have:=HA2.out.2.1;rw[HRJ.out];exact this⟩;clear hk;go_wp2;go_roundw
       case rel=>exact⟨j+1,by omega,by go_num,HE⟩
       case measure=>simp[intOf];omega
  ·have hltI:¬((j:Int)<(ns.length:Int)):=by omega
   have HE:Hid (Below w.heap.size w wq/\Blk wq ob 3 (icells (counts ns root))):=hid ⟨L3.out.trans (HW.out.1.below HLO.out.1 HLO.out.2),by
    have:=HW.out.2;rw[show j=ns.length from by omega,List.take_length]at this;rw[HRES.out];exact this⟩
   clear HW;go_wp2;go_ret;exact⟨ob,rfl,HLO.out.1,HE.out⟩
theorem zia (ns:List Gr.Nd) (j:Nat) (h:j<ns.length):allKeys (ns.take (j+1))=allKeys (ns.take j)++ns[j].keys:=by
 unfold allKeys;rw[List.take_succ_eq_append_getElem h,List.flatMap_append];simp
theorem zji {ns:List Gr.Nd} (hr:Refs ns):∀x∈allKeys ns,x<ns.length:=by
 intro x hx;obtain⟨y,hy,hxy⟩:=List.mem_flatMap.1 hx;exact hr y hy x (List.mem_append_left _ hxy)
theorem zkz (ns:List Gr.Nd) (j:Nat):∀x∈allKeys (ns.take j),x∈allKeys ns:=by
 intro x hx;obtain⟨y,hy,hxy⟩:=List.mem_flatMap.1 hx;exact List.mem_flatMap.2 ⟨y,List.mem_of_mem_take hy,hxy⟩
theorem zib (n:Nat) (m:List Bool):unm n m<=n:=Nat.le_trans List.countP_le_length (by simp)
theorem ze1 {ns:List Gr.Nd} (hr:Refs ns) (L:List Nat) (m:List Bool) (hL:∀x∈L,x<ns.length) (hm:m.length=ns.length):(L.foldl (dvisit (Gr.succ ns) ns.length) m).length=ns.length:=
 (zev (zbq hr.succ ns.length) L m hL hm (zib _ _)).len
theorem zma (A:Option Addr) (c:Nat) (root:Int) (vs:List NV) (ns:List Gr.Nd) (hr:Refs ns) (hl:ns.length<=1073741823) (hks:∀n∈ns,n.keys.length<=1073741823/\n.items.length<=1073741823)
 (w:World) (h:GAt w w.heap.size A vs ns):
 Calls prog 37 #[.agg #[.slice A ns.length c,.int .i64 root]] w fun e w'=>∃ob,e=.returned (.slice (some ⟨ob,0,none⟩) ns.length ns.length)/\w.heap.size<=ob/\Below w.heap.size w w'/\Blk w' ob 4 (bcells (inKeys ns)):=by
 have H:=hid h;have hmk:=fun W=>zb1 ns.length (by omega) W
 clear h;go_enter func37,ntmps37;go_upto_region 2 with fail;obtain⟨w3,hw3⟩:=ex ((w.alloc (.cells #[.slice A ns.length c,.int .i64 root] 24)).alloc (.cells (bcells (List.replicate ns.length false)) 4))
 have l3:Below w.heap.size w w3:=by rw[<-hw3];exact((Below.refl _ _).alloc (Nat.le_refl _) _).alloc (by simp) _
 have bg:Blk w3 w.heap.size 24 #[.slice A ns.length c,.int .i64 root]:=by rw[<-hw3];exact(Blk.new _ _ _).alloc _
 obtain⟨m0,hm0⟩:=ex (List.replicate ns.length false)
 rw[hm0]at hw3;have bo:Blk w3 (w.heap.size+1) 4 (bcells m0):=by
  rw[<-hw3];have:=Blk.new (w.alloc (.cells #[.slice A ns.length c,.int .i64 root] 24)) 4 (bcells m0);rw[World.size_alloc]at this;exact this
 have g0:w3.cell? ⟨w.heap.size,0,none⟩=some (.slice A ns.length c):=bg.cell 0;have HM0:Hid (m0.length=ns.length):=hid (by rw[<-hm0];simp);have HRES:Hid (inKeys ns=(allKeys ns).foldl (dvisit (Gr.succ ns) ns.length) m0):=hid (by rw[<-hm0];rfl);have L3:=hid l3;have HB3:=hid bo;have HBG:=hid bg;rw[hm0,hw3];obtain⟨ob,hob⟩:=ex (w.heap.size+1)
 obtain⟨gb,hgb⟩:=ex w.heap.size
 have HLO:Hid (w.heap.size<=ob/\w.heap.size<=w3.heap.size/\gb≠ob):=hid ⟨by omega,L3.out.size,by omega⟩;rw[hob]at HB3 ⊢;rw[hgb]at g0 HBG;rw[show(Value.pointer (some ({block:=w.heap.size,off:=0}:Addr)))=.pointer (some {block:=gb,off:=0})from by rw[hgb]];clear hw3 l3 bo bg hm0 hob hgb;go_upto_region 3 with fail;clear g0;go_loopw [15] (fun s15 wr=>∃j:Nat,j<=ns.length/\s15=.int .i64 j/\Hid (KB ob w3 wr/\Blk wr ob 4 (bcells ((allKeys (ns.take j)).foldl (dvisit (Gr.succ ns) ns.length) m0)))) (fun s15 _=>ns.length-(intOf s15).toNat)
 case atStart=>exact⟨0,by omega,rfl,hid ⟨KB.refl _ _,by simpa[allKeys]using HB3.out⟩⟩
 case round=>
  obtain⟨j,hj,rfl,HW⟩:=hrel;obtain⟨wq,hwq⟩:∃wq,wq=wr:=⟨_,rfl⟩
  subst hwq;by_cases hlt:j<ns.length
  ·have hltI:(j:Int)<(ns.length:Int):=by omega
   have HGQ:Hid (GAt wq w.heap.size A vs ns):=hid (H.out.below (L3.out.trans (HW.out.1.below HLO.out.1 HLO.out.2.1)));obtain⟨ad,k,i,rfl,hN⟩:=HGQ.out.node hlt;obtain⟨ka,kn,kc⟩:=k;obtain⟨ia,inn,ic⟩:=i;have hnm:ns[j]∈ns:=List.getElem_mem hlt;obtain⟨hkl,hil⟩:=hks _ hnm;have HRF:Hid (∀x∈ns[j].keys,x<ns.length):=hid (fun x hx=>hr _ hnm x (List.mem_append_left _ hx));obtain⟨m1,hm1⟩:=ex ((allKeys (ns.take j)).foldl (dvisit (Gr.succ ns) ns.length) m0)
   have HM1:Hid (m1.length=ns.length):=hid (by rw[<-hm1];exact ze1 hr _ _ (fun x hx=>zji hr x (zkz ns j x hx)) HM0.out);have HMR:=hid hm1;have HRJ:Hid ((allKeys (ns.take (j+1))).foldl (dvisit (Gr.succ ns) ns.length) m0=ns[j].keys.foldl (dvisit (Gr.succ ns) ns.length) m1):=hid (by rw[zia ns j hlt,List.foldl_append,hm1]);obtain⟨n,hn⟩:=ex (ns[j])
   rw[hn]at hN HRF HRJ hkl hil;obtain rfl:kn=n.keys.length:=hN.kn;obtain rfl:inn=n.items.length:=hN.inn;have x0:=hN.c0;have x1:=hN.c1;have x2:=hN.c2;have x3:=hN.c3;have x4:=hN.c4;have HKR:=hid hN.keys;have HLQ:Hid (w.heap.size<=ob/\w.heap.size<=wq.heap.size):=hid ⟨HLO.out.1,Nat.le_trans HLO.out.2.1 HW.out.1.size⟩;clear hN hnm hm1 hn;go_upto_region 5 with fail;obtain⟨w5,hw5⟩:=ex (wq.alloc (.cells #[.int .i64 n.kind,.string ⟨n.text.toArray⟩,.bool n.ord,.slice ka n.keys.length kc,.slice ia n.items.length ic] 35))
   have b5:Blk w5 wq.heap.size 35 (ncells n ⟨ka,n.keys.length,kc⟩ ⟨ia,n.items.length,ic⟩):=by rw[<-hw5];exact Blk.new _ _ _
   have s3:w5.cell? ⟨wq.heap.size,3,none⟩=some (.slice ka n.keys.length kc):=b5.cell 3;have HA:Hid (KB ob wq w5/\Blk w5 ob 4 (bcells m1)):=hid ⟨by rw[<-hw5];exact(KB.refl _ _).alloc _,by
    have:=HW.out.2;rw[HMR.out]at this;rw[<-hw5];exact this.alloc _⟩
   rw[hw5];clear hw5 b5 x0 x1 x2 x3 x4;go_upto_region 6 with fail;clear s3;go_loopw [22] (fun s22 wr=>∃k:Nat,k<=n.keys.length/\s22=.int .i64 k/\Hid (KB ob wq wr/\Blk wr ob 4 (bcells ((n.keys.take k).foldl (dvisit (Gr.succ ns) ns.length) m1)))) (fun s22 _=>n.keys.length-(intOf s22).toNat)
   case atStart=>exact⟨0,by omega,rfl,hid ⟨HA.out.1,by simpa using HA.out.2⟩⟩
   case round=>
    obtain⟨k,hk,rfl,HI⟩:=hrel;by_cases hlk:k<n.keys.length
    ·have hlkI:(k:Int)<(n.keys.length:Int):=by omega
     obtain⟨x,hx⟩:=ex (n.keys[k])
     obtain⟨ad2,rfl,_,y0⟩:=zae (HKR.out.below (HI.out.1.below HLQ.out.1 HLQ.out.2)) hlk;rw[hx]at y0;have bgr:Blk wr gb 24 _:=HI.out.1.blk (HW.out.1.blk HBG.out HLO.out.2.2) HLO.out.2.2;obtain⟨g0,g1⟩:=cells2 bgr;have HC:=hid (ze0 ob (some ad) c root vs ns w.heap.size hr hl hks ((n.keys.take k).foldl (dvisit (Gr.succ ns) ns.length) m1) x wr (HGQ.out.below (HI.out.1.below HLQ.out.1 HLQ.out.2)) HLO.out.1 HI.out.2
      (ze1 hr _ _ (fun y hy=>HRF.out y (List.mem_of_mem_take hy)) HM1.out) (HRF.out x (hx▸List.getElem_mem hlk)) (zib _ _))
     have HT:Hid ((n.keys.take (k+1)).foldl (dvisit (Gr.succ ns) ns.length) m1=dvisit (Gr.succ ns) ns.length ((n.keys.take k).foldl (dvisit (Gr.succ ns) ns.length) m1) x):=hid (by rw[zaj _ _ hlk,List.foldl_append,hx];rfl);clear hx bgr;go_wp2_with fail;refine HC.out.mono ?_;rintro e w6 ⟨rfl,hk6,hb6⟩;have HN2:Hid (KB ob wq w6/\Blk w6 ob 4 (bcells ((n.keys.take (k+1)).foldl (dvisit (Gr.succ ns) ns.length) m1))):=hid ⟨HI.out.1.trans hk6,by rw[HT.out];exact hb6⟩;clear hk6 hb6;go_wp2;go_roundw
     case rel=>exact⟨k+1,by omega,by go_num,HN2⟩
     case measure=>simp[intOf];omega
    ·have hlkI:¬((k:Int)<(n.keys.length:Int)):=by omega
     have HE:Hid (KB ob w3 wr/\Blk wr ob 4 (bcells ((allKeys (ns.take (j+1))).foldl (dvisit (Gr.succ ns) ns.length) m0))):=hid ⟨HW.out.1.trans HI.out.1,by
      have:=HI.out.2;rw[show k=n.keys.length from by omega,List.take_length]at this;rw[HRJ.out];exact this⟩
     clear HI hk;go_wp2;go_roundw
     case rel=>exact⟨j+1,by omega,by go_num,HE⟩
     case measure=>simp[intOf];omega
  ·have hltI:¬((j:Int)<(ns.length:Int)):=by omega
   have HE:Hid (Below w.heap.size w wq/\Blk wq ob 4 (bcells (inKeys ns))):=hid ⟨L3.out.trans (HW.out.1.below HLO.out.1 HLO.out.2.1),by
    have:=HW.out.2;rw[show j=ns.length from by omega,List.take_length]at this;rw[HRES.out];exact this⟩
   clear HW;go_wp2;go_ret;exact⟨ob,rfl,HLO.out.1,HE.out⟩
def nameC (c:UInt8):Bool:=(97<=c && c<=122) || (65<=c && c<=90) || (48<=c && c<=57) || c==95 || c==45 || c==46 || c==58
theorem zic (c:UInt8):nameC c=true↔(97<=c.toNat/\c.toNat<=122)\/(65<=c.toNat/\c.toNat<=90)\/(48<=c.toNat/\c.toNat<=57)\/c.toNat=95\/c.toNat=45\/c.toNat=46\/c.toNat=58:=by
 have e:∀n:Nat,n<256->(c=UInt8.ofNat n↔c.toNat=n):=fun n hn=>⟨fun h=>by rw[h];simp;omega,fun h=>by rw[<-h];simp⟩
 unfold nameC;simp only[Bool.or_eq_true,Bool.and_eq_true,decide_eq_true_eq,beq_iff_eq,UInt8.le_iff_toNat_le];rw[show(c=95)=(c=UInt8.ofNat 95)from rfl,show(c=45)=(c=UInt8.ofNat 45)from rfl,show(c=46)=(c=UInt8.ofNat 46)from rfl,show(c=58)=(c=UInt8.ofNat 58)from rfl,e 95 (by omega),e 45 (by omega),e 46 (by omega),e 58 (by omega)];simp[or_assoc]
theorem byte_at (s:Gr.Str) (k:Nat) (hk:k<s.length) (c:UInt8) (h:s[k]=c):(((⟨s.toArray⟩:ByteArray)[k]'(by simpa[ByteArray.size]using hk)).toNat:Int)=(c.toNat:Int):=by
 have:(⟨s.toArray⟩:ByteArray)[k]'(by simpa[ByteArray.size]using hk)=s[k]:=rfl;rw[this,h]
theorem zdk (s:Gr.Str) (hs:s.length<=1073741823) (w:World):Calls prog 55 #[.string ⟨s.toArray⟩] w fun e w'=>e=.returned (.bool (nameB s))/\w'=w:=by
 have HR:Hid (∀r:Bool,r=nameB s↔r=(s.all nameC && decide (1<=s.length) && decide (s.length<=64))):=hid (fun r=>by
  have:nameB s=(s.all nameC && decide (1<=s.length) && decide (s.length<=64)):=rfl;rw[this])
 go_enter func55,ntmps55;go_upto_region 2 with fail;go_loop [7] (fun x=>∃i:Nat,i<=s.length/\x=.int .i64 i/\Hid ((s.take i).all nameC=true)) (fun i=>s.length-(intOf i).toNat)
 case atStart=>exact⟨0,by omega,rfl,hid (by simp)⟩
 case round=>
  obtain⟨i,hi,rfl,HC⟩:=hrel;by_cases hil:i<s.length
  ·have hilI:(i:Int)<(s.length:Int):=by omega
   obtain⟨c,hc⟩:=ex (s[i])
   have q0:=byte_at s i hil c hc;have hbd:c.toNat<256:=c.toNat_lt;have hn:=zic c;have HT:Hid ((s.take (i+1)).all nameC=nameC c):=hid (by rw[List.take_succ_eq_append_getElem hil,List.all_append,HC.out,hc];simp);by_cases hy:nameC c=true
   ·have HT2:Hid ((s.take (i+1)).all nameC=true):=hid (by rw[HT.out,hy]);have hn:=hn.1 hy;clear hy HT hc;rcases hn with hn|hn|hn|hn|hn|hn|hn
    all_goals
     go_wp2;go_round
     case rel=>exact⟨i+1,by omega,by go_num,HT2⟩
     case measure=>simp[intOf];omega
   ·have HF:Hid (nameB s=false):=hid (by
     have h1:(s.take (i+1)).all nameC=false:=by rw[HT.out];simpa using hy
     have h2:s.all nameC=false:=by
      cases e:s.all nameC with
      |false=>rfl
      |true=>
       rw[List.all_eq_true]at e;rw[List.all_eq_false]at h1;obtain⟨x,hx,hx2⟩:=h1;exact absurd (e x (List.mem_of_mem_take hx)) hx2
     exact((HR.out false).2 (by rw[h2];rfl)).symm)
    have hn:=fun h=>hy (hn.2 h)
    have n1:¬(97<=c.toNat/\c.toNat<=122):=fun h=>hn (.inl h)
    have n2:¬(65<=c.toNat/\c.toNat<=90):=fun h=>hn (.inr (.inl h))
    have n3:¬(48<=c.toNat/\c.toNat<=57):=fun h=>hn (.inr (.inr (.inl h)))
    have n4:¬(c.toNat=95):=fun h=>hn (.inr (.inr (.inr (.inl h))))
    have n5:¬(c.toNat=45):=fun h=>hn (.inr (.inr (.inr (.inr (.inl h)))))
    have n6:¬(c.toNat=46):=fun h=>hn (.inr (.inr (.inr (.inr (.inr (.inl h))))))
    have n7:¬(c.toNat=58):=fun h=>hn (.inr (.inr (.inr (.inr (.inr (.inr h))))))
    clear hn hy hc HT;have hcs:c.toNat<45\/c.toNat=47\/(59<=c.toNat/\c.toNat<=64)\/(91<=c.toNat/\c.toNat<=94)\/c.toNat=96\/122<c.toNat:=by omega
    have e4:((c.toNat:Int)==95)=false:=by simp;omega
    have e5:((c.toNat:Int)==45)=false:=by simp;omega
    have e6:((c.toNat:Int)==46)=false:=by simp;omega
    have e7:((c.toNat:Int)==58)=false:=by simp;omega
    clear n1 n2 n3 n4 n5 n6 n7;rcases hcs with hn|hn|hn|hn|hn|hn
    all_goals
     go_wp2_with fail
     all_goals first
      | (go_ret;exact⟨by rw[HF.out]<;>rfl,rfl⟩)
      | (exfalso;rename_i h;simp only[Bool.not_eq_false',decide_eq_true_eq]at h;omega)
  ·have hilI:¬((i:Int)<(s.length:Int)):=by omega
   have HA:Hid (s.all nameC=true):=hid (by have:=HC.out;rwa[List.take_of_length_le (by omega)]at this);by_cases h1:1<=s.length
   ·have h1I:(1:Int)<=(s.length:Int):=by omega
    by_cases h2:s.length<=64
    ·have h2I:(s.length:Int)<=64:=by omega
     have HF:Hid (nameB s=true):=hid ((HR.out true).2 (by rw[HA.out];simp[h1,h2])).symm;go_wp2;go_ret;exact⟨by rw[HF.out]<;>rfl,rfl⟩
    ·have h2I:¬((s.length:Int)<=64):=by omega
     have HF:Hid (nameB s=false):=hid ((HR.out false).2 (by simp[h2])).symm;go_wp2;go_ret;exact⟨by rw[HF.out]<;>rfl,rfl⟩
   ·have h1I:¬((1:Int)<=(s.length:Int)):=by omega
    have HF:Hid (nameB s=false):=hid ((HR.out false).2 (by simp[h1])).symm;go_wp2;go_ret;exact⟨by rw[HF.out]<;>rfl,rfl⟩
end Go.Proofs.YtoigpackhninoaaGreatDoor
