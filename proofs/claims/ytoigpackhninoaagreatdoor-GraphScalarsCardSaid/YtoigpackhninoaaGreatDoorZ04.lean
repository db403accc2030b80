/- Walks: reached, counts, inKeys. Walks: counts. Walks: inKeys. Walks: the reference's floats. (Printed by genof.py.) -/
import Derived.Test.YtoigpackhninoaaGreatDoorGrReached
import Derived.Laws.EntriesVeiled
import Derived.Test.YtoigpackhninoaaGreatDoorZ03
import Derived.Test.YtoigpackhninoaaGreatDoorZ02
import Derived.Lib.BitFns
import Derived.BigRegion
namespace Go.Proofs.YtoigpackhninoaaGreatDoor
set_option maxRecDepth 100000
set_option maxHeartbeats 16000000
open Go.RowKit
theorem kept_of {g:Nat} {w w1 w2:World} (h1:Below w.heap.size w w1) (h2:Kept1 g w1 w2):KeptBut' w w2 (fun k=>k=g):=
 ⟨h2.os.trans h1.os,h2.tape.trans h1.tape,h2.output.trans h1.output,by rw[h2.size];exact h1.size,fun k hk hg=>(h2.block k hg).trans (h1.block k hk)⟩
theorem reached_any (mb:Nat) (A:Option Addr) (c:Nat) (root:Int) (vs:List NV) (ns:List Gr.Nd) (B:Nat) (hr:Gr.Refs ns) (hl:ns.length<=1073741823) (hks:∀n∈ns,n.keys.length<=1073741823/\n.items.length<=1073741823)
 (m:List Bool) (a:Nat) (w:World) (h:GAt w B A vs ns) (hB:B<=mb) (hm:Blk w mb 4 (bcells m)) (hml:m.length=ns.length) (ha:a<ns.length) (hu:Gr.unm ns.length m<=ns.length):
 Calls Tryz.prog 34 #[.agg #[.slice A ns.length c,.int .i64 root],.int .i64 a,.slice (some ⟨mb,0,none⟩) ns.length ns.length] w fun e w'=>e=.returned (.tuple #[])/\KeptBut' w w' (fun k=>k=mb)/\Blk w' mb 4 (bcells (Gr.dvisit (Gr.succ ns) ns.length m a)):=by
 have hBw:B<=w.heap.size:=Nat.le_trans hB (Nat.le_of_lt hm.lt);have H:=Lib.hid h;have HM:=Lib.hid hm;clear h hm;go_enter Tryz.func34,Tryz.ntmps34;go_upto_region 3 with fail;obtain⟨w3,hw3⟩:∃w3,((w.alloc (.cells #[.slice A ns.length c,.int .i64 root] 24)).alloc (.cells #[.slice (some ⟨mb,0,none⟩) ns.length ns.length] 62)).alloc (.cells #[.func (.func 63) #[] #[.pointer (some ⟨w.heap.size+1,0,none⟩),.pointer (some ⟨w.heap.size,0,none⟩),.pointer (some ⟨w.heap.size+1+1,0,none⟩)]] 88)=w3:=⟨_,rfl⟩
 have l3:Below w.heap.size w w3:=by rw[<-hw3];exact(((Below.refl _ _).alloc (Nat.le_refl _) _).alloc (by simp) _).alloc (by simp;omega) _
 have b1:Blk w3 w.heap.size 24 #[.slice A ns.length c,.int .i64 root]:=by rw[<-hw3];exact((Blk.new _ _ _).alloc _).alloc _
 have b2:Blk w3 (w.heap.size+1) 62 #[.slice (some ⟨mb,0,none⟩) ns.length ns.length]:=by
  rw[<-hw3];have:=Blk.new (w.alloc (.cells #[.slice A ns.length c,.int .i64 root] 24)) 62 #[.slice (some ⟨mb,0,none⟩) ns.length ns.length];rw[World.size_alloc]at this;exact this.alloc _
 have b3:Blk w3 (w.heap.size+1+1) 88 #[.func (.func 63) #[] #[.pointer (some ⟨w.heap.size+1,0,none⟩),.pointer (some ⟨w.heap.size,0,none⟩),.pointer (some ⟨w.heap.size+1+1,0,none⟩)]]:=by
  rw[<-hw3];have:=Blk.new ((w.alloc (.cells #[.slice A ns.length c,.int .i64 root] 24)).alloc (.cells #[.slice (some ⟨mb,0,none⟩) ns.length ns.length] 62)) 88 #[.func (.func 63) #[] #[.pointer (some ⟨w.heap.size+1,0,none⟩),.pointer (some ⟨w.heap.size,0,none⟩),.pointer (some ⟨w.heap.size+1+1,0,none⟩)]];rw[World.size_alloc,World.size_alloc]at this;exact this
 have v0:w3.cell? ⟨w.heap.size+1+1,0,none⟩=some (.func (.func 63) #[] #[.pointer (some ⟨w.heap.size+1,0,none⟩),.pointer (some ⟨w.heap.size,0,none⟩),.pointer (some ⟨w.heap.size+1+1,0,none⟩)]):=b3.cell 0;have hRV:RV w3 mb (w.heap.size+1) w.heap.size (w.heap.size+1+1) A c root vs ns B:=⟨b2,b1,b3,H.out.below (l3.mono hBw),hB⟩
 have HC:=Lib.hid (visit_any mb (w.heap.size+1) w.heap.size (w.heap.size+1+1) A c root vs ns B hr hl hks ns.length m a w3 hRV (HM.out.below l3 HM.out.lt) hml ha hu);have L3:=Lib.hid l3;rw[hw3];clear hw3 l3 b1 b2 b3 hRV;go_wp2_with fail;refine HC.out.mono ?_;rintro e w5 ⟨rfl,hk5,hb5⟩;have HK5:=Lib.hid hk5;have HB5:=Lib.hid hb5;clear hk5 hb5;go_wp2_with fail;go_end0;exact⟨rfl,kept_of L3.out HK5.out,HB5.out⟩
end Go.Proofs.YtoigpackhninoaaGreatDoor
namespace Go.Proofs.YtoigpackhninoaaGreatDoor
set_option maxRecDepth 100000
set_option maxHeartbeats 16000000
open Go.RowKit
theorem cstep_len (l:List Nat) (x:Nat):(Gr.cstep l x).length=l.length:=by unfold Gr.cstep;simp
theorem cfold_len (L l:List Nat):(L.foldl Gr.cstep l).length=l.length:=by
 induction L generalizing l with
 |nil=>rfl
 |cons x L ih=>rw[List.foldl_cons,ih,cstep_len]
theorem cstep_le (l:List Nat) (x y:Nat):(Gr.cstep l x).getD y 0<=l.getD y 0+1:=by
 unfold Gr.cstep;by_cases h:x=y
 ·subst h;by_cases hx:x<l.length
  ·rw[Gr.getD_set_self _ _ _ _ hx];exact Nat.le_refl _
  ·rw[List.set_eq_of_length_le (by omega)];omega
 ·rw[Gr.getD_set_ne _ _ _ _ _ h];omega
theorem cfold_le (L l:List Nat) (y:Nat):(L.foldl Gr.cstep l).getD y 0<=l.getD y 0+L.length:=by
 induction L generalizing l with
 |nil=>simp
 |cons x L ih=>
  rw[List.foldl_cons,List.length_cons];have:=ih (Gr.cstep l x);have:=cstep_le l x y;omega
theorem refs_take (ns:List Gr.Nd) (j:Nat) (h:j<ns.length):Gr.refs (ns.take (j+1))=Gr.refs (ns.take j)++(ns[j].keys++ns[j].items):=by
 unfold Gr.refs;rw[List.take_succ_eq_append_getElem h,List.flatMap_append];simp
theorem refs_le (ns:List Gr.Nd) (j:Nat):(Gr.refs (ns.take j)).length<=(Gr.refs ns).length:=by
 have:Gr.refs ns=Gr.refs (ns.take j)++Gr.refs (ns.drop j):=by
  unfold Gr.refs;rw[<-List.flatMap_append,List.take_append_drop]
 rw[this,List.length_append];omega
def ncells (n:Gr.Nd) (k i:SV):Array Value:=#[.int .i64 n.kind,.string ⟨n.text.toArray⟩,.bool n.ord,k.v,i.v]
theorem counts_any (A:Option Addr) (c:Nat) (root:Nat) (vs:List NV) (ns:List Gr.Nd) (hr:Gr.Refs ns) (hl:ns.length<=1073741823) (hks:∀n∈ns,n.keys.length<=1073741823/\n.items.length<=1073741823) (hrl:(Gr.refs ns).length<=1125899906842624)
 (w:World) (h:GAt w w.heap.size A vs ns) (hroot:root<ns.length):
 Calls Tryz.prog 36 #[.agg #[.slice A ns.length c,.int .i64 root]] w fun e w'=>∃ob,e=.returned (.slice (some ⟨ob,0,none⟩) ns.length ns.length)/\w.heap.size<=ob/\Below w.heap.size w w'/\Blk w' ob 3 (icells (Gr.counts ns root)):=by
 have H:=Lib.hid h;have hmk:=fun W=>make_ints ns.length (by omega) W
 have hrI:(root:Int)<(ns.length:Int):=by omega
 clear h;go_enter Tryz.func36,Tryz.ntmps36;go_upto_region 2 with fail;obtain⟨w2,hw2⟩:∃w2,(w.alloc (.cells #[.slice A ns.length c,.int .i64 root] 24)).alloc (.cells (icells (List.replicate ns.length 0)) 3)=w2:=⟨_,rfl⟩
 have l2:Below w.heap.size w w2:=by rw[<-hw2];exact((Below.refl _ _).alloc (Nat.le_refl _) _).alloc (by simp) _
 have bg:Blk w2 w.heap.size 24 #[.slice A ns.length c,.int .i64 root]:=by rw[<-hw2];exact(Blk.new _ _ _).alloc _
 have bo:Blk w2 (w.heap.size+1) 3 (icells (List.replicate ns.length 0)):=by
  rw[<-hw2];have:=Blk.new (w.alloc (.cells #[.slice A ns.length c,.int .i64 root] 24)) 3 (icells (List.replicate ns.length 0));rw[World.size_alloc]at this;exact this
 have g1:w2.cell? ⟨w.heap.size,1,none⟩=some (.int .i64 root):=bg.cell 1;have z0:w2.cell? ⟨w.heap.size+1,root,none⟩=some (.int .i64 0):=by
  rw[bo.cell,icells_get (by simpa using hroot)];simp[List.getD_eq_getElem?_getD,hroot]
 have zf:∀i,w2.frozen? ⟨w.heap.size+1,i,none⟩=false:=bo.frozen;rw[hw2];clear hw2;go_upto_region 3 with fail;obtain⟨l0,hl0⟩:∃l0,Gr.cstep (List.replicate ns.length 0) root=l0:=⟨_,rfl⟩
 obtain⟨w3,hw3⟩:∃w3,w2.setCell ⟨w.heap.size+1,root,none⟩ (.int .i64 1)=w3:=⟨_,rfl⟩
 have b3:Blk w3 (w.heap.size+1) 3 (icells l0):=by
  rw[<-hw3,<-hl0];unfold Gr.cstep;have e:(List.replicate ns.length 0).getD root 0=0:=by simp[List.getD_eq_getElem?_getD,hroot]
  rw[e,<-icells_set];exact bo.set_ root _
 have bg3:Blk w3 w.heap.size 24 #[.slice A ns.length c,.int .i64 root]:=by rw[<-hw3];exact bg.far (by simp) _
 have g0:w3.cell? ⟨w.heap.size,0,none⟩=some (.slice A ns.length c):=bg3.cell 0;have L3:Hid (Below w.heap.size w w3):=Lib.hid (by rw[<-hw3];exact l2.setCell (by simp) _);have HL0:Hid (l0.length=ns.length/\∀x,l0.getD x 0<=1):=Lib.hid (by
  rw[<-hl0];refine⟨by rw[cstep_len];simp,fun x=>?_⟩;have:=cstep_le (List.replicate ns.length 0) root x;have e:(List.replicate ns.length 0).getD x 0=0:=by simp[List.getD_eq_getElem?_getD,List.getElem?_replicate];split<;>rfl
  omega)
 have HRES:Hid (Gr.counts ns root=(Gr.refs ns).foldl Gr.cstep l0):=Lib.hid (by rw[<-hl0];rfl);have HB3:=Lib.hid b3;rw[hw3];obtain⟨ob,hob⟩:∃ob,w.heap.size+1=ob:=⟨_,rfl⟩
 rw[hob]at HB3 ⊢;have HLO:Hid (w.heap.size<=ob/\w.heap.size<=w3.heap.size):=Lib.hid ⟨by omega,L3.out.size⟩;clear hw3 l2 bg bo g1 z0 zf b3 bg3 hob hl0;go_upto_region 4 with fail;clear g0 hrI;go_loopw [24] (fun s24 wr=>∃j:Nat,j<=ns.length/\s24=.int .i64 j/\Hid (KB ob w3 wr/\Blk wr ob 3 (icells ((Gr.refs (ns.take j)).foldl Gr.cstep l0)))) (fun s24 _=>ns.length-(intOf s24).toNat)
 case atStart=>exact⟨0,by omega,rfl,Lib.hid ⟨KB.refl _ _,by simpa[Gr.refs]using HB3.out⟩⟩
 case round=>
  obtain⟨j,hj,rfl,HW⟩:=hrel;obtain⟨wq,hwq⟩:∃wq,wq=wr:=⟨_,rfl⟩
  subst hwq;by_cases hlt:j<ns.length
  ·have hltI:(j:Int)<(ns.length:Int):=by omega
   obtain⟨ad,k,i,rfl,hN⟩:=(H.out.below (L3.out.trans (HW.out.1.below HLO.out.1 HLO.out.2))).node hlt;obtain⟨ka,kn,kc⟩:=k;obtain⟨ia,inn,ic⟩:=i;have hnm:ns[j]∈ns:=List.getElem_mem hlt;obtain⟨hkl,hil⟩:=hks _ hnm;have HRF:Hid (∀x∈ns[j].keys++ns[j].items,x<ns.length):=Lib.hid (hr _ hnm);obtain⟨R,hR⟩:∃R,Gr.refs (ns.take j)=R:=⟨_,rfl⟩
   have HRR:=Lib.hid hR;have HRJ:Hid (Gr.refs (ns.take (j+1))=R++(ns[j].keys++ns[j].items)):=Lib.hid (by rw[refs_take ns j hlt,hR]);have HRB:Hid (R.length+ns[j].keys.length+ns[j].items.length<=1125899906842624):=Lib.hid (by
    have h1:=refs_le ns (j+1);rw[HRJ.out]at h1;simp only[List.length_append]at h1;omega)
   obtain⟨n,hn⟩:∃n,ns[j]=n:=⟨_,rfl⟩
   rw[hn]at hN HRF HRJ HRB hkl hil;obtain rfl:kn=n.keys.length:=hN.kn;obtain rfl:inn=n.items.length:=hN.inn;have x0:=hN.c0;have x1:=hN.c1;have x2:=hN.c2;have x3:=hN.c3;have x4:=hN.c4;have HKR:=Lib.hid hN.keys;have HIR:=Lib.hid hN.items;have HLQ:Hid (w.heap.size<=ob/\w.heap.size<=wq.heap.size):=Lib.hid ⟨HLO.out.1,Nat.le_trans HLO.out.2 HW.out.1.size⟩;clear hN hnm hR hn;go_upto_region 6 with fail;obtain⟨w5,hw5⟩:∃w5,wq.alloc (.cells #[.int .i64 n.kind,.string ⟨n.text.toArray⟩,.bool n.ord,.slice ka n.keys.length kc,.slice ia n.items.length ic] 35)=w5:=⟨_,rfl⟩
   have b5:Blk w5 wq.heap.size 35 (ncells n ⟨ka,n.keys.length,kc⟩ ⟨ia,n.items.length,ic⟩):=by rw[<-hw5];exact Blk.new _ _ _
   have s3:w5.cell? ⟨wq.heap.size,3,none⟩=some (.slice ka n.keys.length kc):=b5.cell 3;have HA:Hid (KB ob wq w5/\Blk w5 ob 3 (icells (R.foldl Gr.cstep l0))/\Blk w5 wq.heap.size 35 (ncells n ⟨ka,n.keys.length,kc⟩ ⟨ia,n.items.length,ic⟩)):=Lib.hid ⟨by rw[<-hw5];exact(KB.refl _ _).alloc _,by
    have:=HW.out.2;rw[HRR.out]at this;rw[<-hw5];exact this.alloc _,b5⟩
   rw[hw5];obtain⟨ncs,hncs⟩:∃ncs,ncells n ⟨ka,n.keys.length,kc⟩ ⟨ia,n.items.length,ic⟩=ncs:=⟨_,rfl⟩
   have HC4:Hid (ncs[4]? =some (.slice ia n.items.length ic)):=Lib.hid (by rw[<-hncs];rfl);rw[hncs]at HA;clear hncs;obtain⟨nb,hnb⟩:∃nb,wq.heap.size=nb:=⟨_,rfl⟩
   rw[hnb]at HA s3 ⊢;clear hw5 b5 x0 x1 x2 x3 x4 hnb;go_upto_region 7 with fail;clear s3;go_loopw [31] (fun s31 wr=>∃k:Nat,k<=n.keys.length/\s31=.int .i64 k/\Hid (KB ob wq wr/\Blk wr ob 3 (icells ((R++n.keys.take k).foldl Gr.cstep l0))/\Blk wr nb 35 ncs)) (fun s31 _=>n.keys.length-(intOf s31).toNat)
   case atStart=>exact⟨0,by omega,rfl,Lib.hid ⟨HA.out.1,by simpa using HA.out.2.1,HA.out.2.2⟩⟩
   case round=>
    obtain⟨k,hk,rfl,HI⟩:=hrel;by_cases hlk:k<n.keys.length
    ·have hlkI:(k:Int)<(n.keys.length:Int):=by omega
     obtain⟨x,hx⟩:∃x,n.keys[k]=x:=⟨_,rfl⟩
     obtain⟨ad2,rfl,_,y0⟩:=int_at (HKR.out.below (HI.out.1.below HLQ.out.1 HLQ.out.2)) hlk;rw[hx]at y0;have hxn:x<ns.length:=HRF.out x (by simp[<-hx]);obtain⟨acc,hacc⟩:∃acc,(R++n.keys.take k).foldl Gr.cstep l0=acc:=⟨_,rfl⟩
     have hal:acc.length=ns.length:=by rw[<-hacc,cfold_len,HL0.out.1]
     have hav:acc.getD x 0<=1125899906842625:=by
      rw[<-hacc];have h1:=cfold_le (R++n.keys.take k) l0 x;have h2:=HL0.out.2 x;have h3:=HRB.out;rw[List.length_append,List.length_take]at h1;omega
     have hkb:k<=1073741823:=by omega
     have hb:=HI.out.2.1;rw[hacc]at hb;obtain⟨v,hv⟩:∃v,acc.getD x 0=v:=⟨_,rfl⟩
     have z0:wr.cell? ⟨ob,x,none⟩=some (.int .i64 (v:Int)):=by rw[hb.cell,icells_get (by omega),hv]
     have zf:∀i,wr.frozen? ⟨ob,i,none⟩=false:=hb.frozen;have hxI:(x:Int)<(ns.length:Int):=by omega
     rw[hv]at hav;have HN2:Hid (KB ob wq (wr.setCell ⟨ob,x,none⟩ (.int .i64 ((v:Int)+1)))/\Blk (wr.setCell ⟨ob,x,none⟩ (.int .i64 ((v:Int)+1))) ob 3 (icells ((R++n.keys.take (k+1)).foldl Gr.cstep l0))/\Blk (wr.setCell ⟨ob,x,none⟩ (.int .i64 ((v:Int)+1))) nb 35 ncs):=Lib.hid (by
      refine⟨HI.out.1.set _ _,?_,HI.out.2.2.far (HI.out.2.2.ne_ hb (by decide)) _⟩;rw[take_snocN _ _ hlk,<-List.append_assoc,List.foldl_append,hacc,hx];show Blk _ _ _ (icells (Gr.cstep acc x));unfold Gr.cstep;rw[hv,<-icells_set,show(((v+1:Nat)):Int)=(v:Int)+1 from by omega];exact hb.set_ x _)
     clear hb hacc hal hv hx HI;go_wp2_with fail;go_roundw
     case rel=>exact⟨k+1,by omega,by go_num,HN2⟩
     case measure=>simp[intOf];omega
    ·have hlkI:¬((k:Int)<(n.keys.length:Int)):=by omega
     have HA2:Hid (KB ob wq wr/\Blk wr ob 3 (icells ((R++n.keys).foldl Gr.cstep l0))/\Blk wr nb 35 ncs):=Lib.hid ⟨HI.out.1,by have:=HI.out.2.1;rw[show k=n.keys.length from by omega,List.take_length]at this;exact this,HI.out.2.2⟩;clear HI HA;obtain⟨R1,hR1⟩:∃R1,R++n.keys=R1:=⟨_,rfl⟩
     have HA:=Lib.hid HA2.out;rw[hR1]at HA;have HRB1:Hid (R1.length+n.items.length<=1125899906842624):=Lib.hid (by rw[<-hR1,List.length_append];have:=HRB.out;omega);have HRJ1:Hid (Gr.refs (ns.take (j+1))=R1++n.items):=Lib.hid (by rw[HRJ.out,<-hR1,List.append_assoc]);clear HRB HRJ hR1 HA2 hk hlk;have HRJ:=HRJ1;have HRB:=HRB1;clear HRB1 HRJ1;have s4:wr.cell? ⟨nb,4,none⟩=some (.slice ia n.items.length ic):=(HA.out.2.2.cell 4).trans HC4.out;go_upto_region 12 with fail;clear s4 hlkI;go_loopw [45] (fun s45 wr=>∃k:Nat,k<=n.items.length/\s45=.int .i64 k/\Hid (KB ob wq wr/\Blk wr ob 3 (icells ((R1++n.items.take k).foldl Gr.cstep l0))/\Blk wr nb 35 ncs)) (fun s45 _=>n.items.length-(intOf s45).toNat)
     case atStart=>exact⟨0,by omega,rfl,Lib.hid ⟨HA.out.1,by simpa using HA.out.2.1,HA.out.2.2⟩⟩
     case round=>
      obtain⟨k,hk,rfl,HI⟩:=hrel;by_cases hlk:k<n.items.length
      ·have hlkI:(k:Int)<(n.items.length:Int):=by omega
       obtain⟨x,hx⟩:∃x,n.items[k]=x:=⟨_,rfl⟩
       obtain⟨ad2,rfl,_,y0⟩:=int_at (HIR.out.below (HI.out.1.below HLQ.out.1 HLQ.out.2)) hlk;rw[hx]at y0;have hxn:x<ns.length:=HRF.out x (by simp[<-hx]);obtain⟨acc,hacc⟩:∃acc,(R1++n.items.take k).foldl Gr.cstep l0=acc:=⟨_,rfl⟩
       have hal:acc.length=ns.length:=by rw[<-hacc,cfold_len,HL0.out.1]
       have hav:acc.getD x 0<=1125899906842625:=by
        rw[<-hacc];have h1:=cfold_le (R1++n.items.take k) l0 x;have h2:=HL0.out.2 x;have h3:=HRB.out;rw[List.length_append,List.length_take]at h1;omega
       have hkb:k<=1073741823:=by omega
       have hb:=HI.out.2.1;rw[hacc]at hb;obtain⟨v,hv⟩:∃v,acc.getD x 0=v:=⟨_,rfl⟩
       have z0:wr.cell? ⟨ob,x,none⟩=some (.int .i64 (v:Int)):=by rw[hb.cell,icells_get (by omega),hv]
       have zf:∀i,wr.frozen? ⟨ob,i,none⟩=false:=hb.frozen;have hxI:(x:Int)<(ns.length:Int):=by omega
       rw[hv]at hav;have HN2:Hid (KB ob wq (wr.setCell ⟨ob,x,none⟩ (.int .i64 ((v:Int)+1)))/\Blk (wr.setCell ⟨ob,x,none⟩ (.int .i64 ((v:Int)+1))) ob 3 (icells ((R1++n.items.take (k+1)).foldl Gr.cstep l0))/\Blk (wr.setCell ⟨ob,x,none⟩ (.int .i64 ((v:Int)+1))) nb 35 ncs):=Lib.hid (by
        refine⟨HI.out.1.set _ _,?_,HI.out.2.2.far (HI.out.2.2.ne_ hb (by decide)) _⟩;rw[take_snocN _ _ hlk,<-List.append_assoc,List.foldl_append,hacc,hx];show Blk _ _ _ (icells (Gr.cstep acc x));unfold Gr.cstep;rw[hv,<-icells_set,show(((v+1:Nat)):Int)=(v:Int)+1 from by omega];exact hb.set_ x _)
       clear hb hacc hal hv hx HI;go_wp2_with fail;go_roundw
       case rel=>exact⟨k+1,by omega,by go_num,HN2⟩
       case measure=>simp[intOf];omega
      ·have hlkI:¬((k:Int)<(n.items.length:Int)):=by omega
       have HA2:Hid (KB ob wq wr/\Blk wr ob 3 (icells ((R1++n.items).foldl Gr.cstep l0))/\Blk wr nb 35 ncs):=Lib.hid ⟨HI.out.1,by have:=HI.out.2.1;rw[show k=n.items.length from by omega,List.take_length]at this;exact this,HI.out.2.2⟩;clear HI HA;have HE:Hid (KB ob w3 wr/\Blk wr ob 3 (icells ((Gr.refs (ns.take (j+1))).foldl Gr.cstep l0))):=Lib.hid ⟨HW.out.1.trans HA2.out.1,by have:=HA2.out.2.1;rw[HRJ.out];exact this⟩;clear hk;go_wp2_with fail;go_roundw
       case rel=>exact⟨j+1,by omega,by go_num,HE⟩
       case measure=>simp[intOf];omega
  ·have hltI:¬((j:Int)<(ns.length:Int)):=by omega
   have HE:Hid (Below w.heap.size w wq/\Blk wq ob 3 (icells (Gr.counts ns root))):=Lib.hid ⟨L3.out.trans (HW.out.1.below HLO.out.1 HLO.out.2),by
    have:=HW.out.2;rw[show j=ns.length from by omega,List.take_length]at this;rw[HRES.out];exact this⟩
   clear HW;go_wp2_with fail;go_ret;exact⟨ob,rfl,HLO.out.1,HE.out⟩
end Go.Proofs.YtoigpackhninoaaGreatDoor
namespace Go.Proofs.YtoigpackhninoaaGreatDoor
set_option maxRecDepth 100000
set_option maxHeartbeats 16000000
open Go.RowKit
theorem keys_take (ns:List Gr.Nd) (j:Nat) (h:j<ns.length):Gr.allKeys (ns.take (j+1))=Gr.allKeys (ns.take j)++ns[j].keys:=by
 unfold Gr.allKeys;rw[List.take_succ_eq_append_getElem h,List.flatMap_append];simp
theorem keys_lt {ns:List Gr.Nd} (hr:Gr.Refs ns):∀x∈Gr.allKeys ns,x<ns.length:=by
 intro x hx;obtain⟨y,hy,hxy⟩:=List.mem_flatMap.1 hx;exact hr y hy x (List.mem_append_left _ hxy)
theorem keys_sub (ns:List Gr.Nd) (j:Nat):∀x∈Gr.allKeys (ns.take j),x∈Gr.allKeys ns:=by
 intro x hx;obtain⟨y,hy,hxy⟩:=List.mem_flatMap.1 hx;exact List.mem_flatMap.2 ⟨y,List.mem_of_mem_take hy,hxy⟩
theorem unm_bound (n:Nat) (m:List Bool):Gr.unm n m<=n:=Nat.le_trans List.countP_le_length (by simp)
theorem vfold_len {ns:List Gr.Nd} (hr:Gr.Refs ns) (L:List Nat) (m:List Bool) (hL:∀x∈L,x<ns.length) (hm:m.length=ns.length):(L.foldl (Gr.dvisit (Gr.succ ns) ns.length) m).length=ns.length:=
 (Gr.fold_ok (Gr.dvisit_ok hr.succ ns.length) L m hL hm (unm_bound _ _)).len
theorem inKeys_any (A:Option Addr) (c:Nat) (root:Int) (vs:List NV) (ns:List Gr.Nd) (hr:Gr.Refs ns) (hl:ns.length<=1073741823) (hks:∀n∈ns,n.keys.length<=1073741823/\n.items.length<=1073741823)
 (w:World) (h:GAt w w.heap.size A vs ns):
 Calls Tryz.prog 37 #[.agg #[.slice A ns.length c,.int .i64 root]] w fun e w'=>∃ob,e=.returned (.slice (some ⟨ob,0,none⟩) ns.length ns.length)/\w.heap.size<=ob/\Below w.heap.size w w'/\Blk w' ob 4 (bcells (Gr.inKeys ns)):=by
 have H:=Lib.hid h;have hmk:=fun W=>make_bools ns.length (by omega) W
 clear h;go_enter Tryz.func37,Tryz.ntmps37;go_upto_region 2 with fail;obtain⟨w3,hw3⟩:∃w3,(w.alloc (.cells #[.slice A ns.length c,.int .i64 root] 24)).alloc (.cells (bcells (List.replicate ns.length false)) 4)=w3:=⟨_,rfl⟩
 have l3:Below w.heap.size w w3:=by rw[<-hw3];exact((Below.refl _ _).alloc (Nat.le_refl _) _).alloc (by simp) _
 have bg:Blk w3 w.heap.size 24 #[.slice A ns.length c,.int .i64 root]:=by rw[<-hw3];exact(Blk.new _ _ _).alloc _
 obtain⟨m0,hm0⟩:∃m0,List.replicate ns.length false=m0:=⟨_,rfl⟩
 rw[hm0]at hw3;have bo:Blk w3 (w.heap.size+1) 4 (bcells m0):=by
  rw[<-hw3];have:=Blk.new (w.alloc (.cells #[.slice A ns.length c,.int .i64 root] 24)) 4 (bcells m0);rw[World.size_alloc]at this;exact this
 have g0:w3.cell? ⟨w.heap.size,0,none⟩=some (.slice A ns.length c):=bg.cell 0;have HM0:Hid (m0.length=ns.length):=Lib.hid (by rw[<-hm0];simp);have HRES:Hid (Gr.inKeys ns=(Gr.allKeys ns).foldl (Gr.dvisit (Gr.succ ns) ns.length) m0):=Lib.hid (by rw[<-hm0];rfl);have L3:=Lib.hid l3;have HB3:=Lib.hid bo;have HBG:=Lib.hid bg;rw[hm0,hw3];obtain⟨ob,hob⟩:∃ob,w.heap.size+1=ob:=⟨_,rfl⟩
 obtain⟨gb,hgb⟩:∃gb,w.heap.size=gb:=⟨_,rfl⟩
 have HLO:Hid (w.heap.size<=ob/\w.heap.size<=w3.heap.size/\gb≠ob):=Lib.hid ⟨by omega,L3.out.size,by omega⟩;rw[hob]at HB3 ⊢;rw[hgb]at g0 HBG;rw[show(Value.pointer (some ({block:=w.heap.size,off:=0}:Addr)))=.pointer (some {block:=gb,off:=0})from by rw[hgb]];clear hw3 l3 bo bg hm0 hob hgb;go_upto_region 3 with fail;clear g0;go_loopw [15] (fun s15 wr=>∃j:Nat,j<=ns.length/\s15=.int .i64 j/\Hid (KB ob w3 wr/\Blk wr ob 4 (bcells ((Gr.allKeys (ns.take j)).foldl (Gr.dvisit (Gr.succ ns) ns.length) m0)))) (fun s15 _=>ns.length-(intOf s15).toNat)
 case atStart=>exact⟨0,by omega,rfl,Lib.hid ⟨KB.refl _ _,by simpa[Gr.allKeys]using HB3.out⟩⟩
 case round=>
  obtain⟨j,hj,rfl,HW⟩:=hrel;obtain⟨wq,hwq⟩:∃wq,wq=wr:=⟨_,rfl⟩
  subst hwq;by_cases hlt:j<ns.length
  ·have hltI:(j:Int)<(ns.length:Int):=by omega
   have HGQ:Hid (GAt wq w.heap.size A vs ns):=Lib.hid (H.out.below (L3.out.trans (HW.out.1.below HLO.out.1 HLO.out.2.1)));obtain⟨ad,k,i,rfl,hN⟩:=HGQ.out.node hlt;obtain⟨ka,kn,kc⟩:=k;obtain⟨ia,inn,ic⟩:=i;have hnm:ns[j]∈ns:=List.getElem_mem hlt;obtain⟨hkl,hil⟩:=hks _ hnm;have HRF:Hid (∀x∈ns[j].keys,x<ns.length):=Lib.hid (fun x hx=>hr _ hnm x (List.mem_append_left _ hx));obtain⟨m1,hm1⟩:∃m1,(Gr.allKeys (ns.take j)).foldl (Gr.dvisit (Gr.succ ns) ns.length) m0=m1:=⟨_,rfl⟩
   have HM1:Hid (m1.length=ns.length):=Lib.hid (by rw[<-hm1];exact vfold_len hr _ _ (fun x hx=>keys_lt hr x (keys_sub ns j x hx)) HM0.out);have HMR:=Lib.hid hm1;have HRJ:Hid ((Gr.allKeys (ns.take (j+1))).foldl (Gr.dvisit (Gr.succ ns) ns.length) m0=ns[j].keys.foldl (Gr.dvisit (Gr.succ ns) ns.length) m1):=Lib.hid (by rw[keys_take ns j hlt,List.foldl_append,hm1]);obtain⟨n,hn⟩:∃n,ns[j]=n:=⟨_,rfl⟩
   rw[hn]at hN HRF HRJ hkl hil;obtain rfl:kn=n.keys.length:=hN.kn;obtain rfl:inn=n.items.length:=hN.inn;have x0:=hN.c0;have x1:=hN.c1;have x2:=hN.c2;have x3:=hN.c3;have x4:=hN.c4;have HKR:=Lib.hid hN.keys;have HLQ:Hid (w.heap.size<=ob/\w.heap.size<=wq.heap.size):=Lib.hid ⟨HLO.out.1,Nat.le_trans HLO.out.2.1 HW.out.1.size⟩;clear hN hnm hm1 hn;go_upto_region 5 with fail;obtain⟨w5,hw5⟩:∃w5,wq.alloc (.cells #[.int .i64 n.kind,.string ⟨n.text.toArray⟩,.bool n.ord,.slice ka n.keys.length kc,.slice ia n.items.length ic] 35)=w5:=⟨_,rfl⟩
   have b5:Blk w5 wq.heap.size 35 (ncells n ⟨ka,n.keys.length,kc⟩ ⟨ia,n.items.length,ic⟩):=by rw[<-hw5];exact Blk.new _ _ _
   have s3:w5.cell? ⟨wq.heap.size,3,none⟩=some (.slice ka n.keys.length kc):=b5.cell 3;have HA:Hid (KB ob wq w5/\Blk w5 ob 4 (bcells m1)):=Lib.hid ⟨by rw[<-hw5];exact(KB.refl _ _).alloc _,by
    have:=HW.out.2;rw[HMR.out]at this;rw[<-hw5];exact this.alloc _⟩
   rw[hw5];clear hw5 b5 x0 x1 x2 x3 x4;go_upto_region 6 with fail;clear s3;go_loopw [22] (fun s22 wr=>∃k:Nat,k<=n.keys.length/\s22=.int .i64 k/\Hid (KB ob wq wr/\Blk wr ob 4 (bcells ((n.keys.take k).foldl (Gr.dvisit (Gr.succ ns) ns.length) m1)))) (fun s22 _=>n.keys.length-(intOf s22).toNat)
   case atStart=>exact⟨0,by omega,rfl,Lib.hid ⟨HA.out.1,by simpa using HA.out.2⟩⟩
   case round=>
    obtain⟨k,hk,rfl,HI⟩:=hrel;by_cases hlk:k<n.keys.length
    ·have hlkI:(k:Int)<(n.keys.length:Int):=by omega
     obtain⟨x,hx⟩:∃x,n.keys[k]=x:=⟨_,rfl⟩
     obtain⟨ad2,rfl,_,y0⟩:=int_at (HKR.out.below (HI.out.1.below HLQ.out.1 HLQ.out.2)) hlk;rw[hx]at y0;have bgr:Blk wr gb 24 _:=HI.out.1.blk (HW.out.1.blk HBG.out HLO.out.2.2) HLO.out.2.2;obtain⟨g0,g1⟩:=cells2 bgr;have HC:=Lib.hid (reached_any ob (some ad) c root vs ns w.heap.size hr hl hks ((n.keys.take k).foldl (Gr.dvisit (Gr.succ ns) ns.length) m1) x wr (HGQ.out.below (HI.out.1.below HLQ.out.1 HLQ.out.2)) HLO.out.1 HI.out.2
      (vfold_len hr _ _ (fun y hy=>HRF.out y (List.mem_of_mem_take hy)) HM1.out) (HRF.out x (hx▸List.getElem_mem hlk)) (unm_bound _ _))
     have HT:Hid ((n.keys.take (k+1)).foldl (Gr.dvisit (Gr.succ ns) ns.length) m1=Gr.dvisit (Gr.succ ns) ns.length ((n.keys.take k).foldl (Gr.dvisit (Gr.succ ns) ns.length) m1) x):=Lib.hid (by rw[take_snocN _ _ hlk,List.foldl_append,hx];rfl);clear hx bgr;go_wp2_with fail;refine HC.out.mono ?_;rintro e w6 ⟨rfl,hk6,hb6⟩;have HN2:Hid (KB ob wq w6/\Blk w6 ob 4 (bcells ((n.keys.take (k+1)).foldl (Gr.dvisit (Gr.succ ns) ns.length) m1))):=Lib.hid ⟨HI.out.1.trans hk6,by rw[HT.out];exact hb6⟩;clear hk6 hb6;go_wp2_with fail;go_roundw
     case rel=>exact⟨k+1,by omega,by go_num,HN2⟩
     case measure=>simp[intOf];omega
    ·have hlkI:¬((k:Int)<(n.keys.length:Int)):=by omega
     have HE:Hid (KB ob w3 wr/\Blk wr ob 4 (bcells ((Gr.allKeys (ns.take (j+1))).foldl (Gr.dvisit (Gr.succ ns) ns.length) m0))):=Lib.hid ⟨HW.out.1.trans HI.out.1,by
      have:=HI.out.2;rw[show k=n.keys.length from by omega,List.take_length]at this;rw[HRJ.out];exact this⟩
     clear HI hk;go_wp2_with fail;go_roundw
     case rel=>exact⟨j+1,by omega,by go_num,HE⟩
     case measure=>simp[intOf];omega
  ·have hltI:¬((j:Int)<(ns.length:Int)):=by omega
   have HE:Hid (Below w.heap.size w wq/\Blk wq ob 4 (bcells (Gr.inKeys ns))):=Lib.hid ⟨L3.out.trans (HW.out.1.below HLO.out.1 HLO.out.2.1),by
    have:=HW.out.2;rw[show j=ns.length from by omega,List.take_length]at this;rw[HRES.out];exact this⟩
   clear HW;go_wp2_with fail;go_ret;exact⟨ob,rfl,HLO.out.1,HE.out⟩
end Go.Proofs.YtoigpackhninoaaGreatDoor
namespace Go.Proofs.YtoigpackhninoaaGreatDoor
set_option maxRecDepth 100000
set_option maxHeartbeats 16000000
open Go.RowKit
theorem rbit_any (m:Nat) (hm:m<18446744073709551616) (i:Int) (hi:i=(m:Int)) (w:World):Calls Tryz.prog 79 #[.int .u64 i] w fun e w'=>e=.returned (.int .i64 (Lib.bitLen m))/\w=w':=by
 subst hi;obtain⟨B,hB⟩:∃B,Lib.bitLen m=B:=⟨_,rfl⟩
 have HB:=Lib.hid hB;have hb64:B<=64:=by rw[<-hB];exact Lib.bitLen_le m 64 (by omega) (by omega)
 rw[hB];clear hB;go_enter Tryz.func79,Tryz.ntmps79;go_wp2_with fail;go_loop [0,3] (fun s0 s3=>∃x n:Nat,x<18446744073709551616/\n<=B/\s0=.int .u64 (x:Int)/\s3=.int .i64 (n:Int)/\Hid (B=n+Lib.bitLen x)) (fun s0 _=>(intOf s0).toNat)
 case atStart=>exact⟨m,0,hm,by omega,rfl,rfl,Lib.hid (by rw[<-HB.out];omega)⟩
 case round=>
  obtain⟨x,n,hx,hn,rfl,rfl,HV⟩:=hrel;by_cases h0:0<x
  ·have h0I:(0:Int)<(x:Int):=by omega
   have HN:Hid (B=(n+1)+Lib.bitLen (x /2)/\n+1<=B):=Lib.hid (by
    have h1:=HV.out;rw[Lib.bitLen_half x (by omega) (by omega)]at h1;omega)
   go_wp2_with fail;go_round
   case rel=>exact⟨x /2,n+1,by omega,HN.out.2,by go_num,by go_num,Lib.hid HN.out.1⟩
   case measure=>simp[intOf];omega
  ·obtain rfl:x=0:=by omega
   have HF:Hid (B=n):=Lib.hid (by have:=HV.out;rw[this];rfl);go_wp2_with fail;go_ret;rw[HF.out];exact⟨rfl,rfl⟩
def nodash (l:Gr.Str):Gr.Str:=l.filter (fun c=>c != 45)
theorem nodash_dig (l:Gr.Str) (h:l.all Gr.dig=true):nodash l=l:=by
 unfold nodash;rw[List.filter_eq_self];intro c hc;have:=List.all_eq_true.1 h c hc;cases hh:(c != 45)with
 |true=>rfl
 |false=>
  have e:c=45:=by simpa using hh
  subst e;simp[Gr.dig]at this
theorem intB_parts {s:Gr.Str} (h:Gr.intB s=true):nodash s=Gr.intS s/\(Gr.intS s).all Gr.dig=true/\(∀c∈s,c=45\/Gr.dig c=true)/\0<s.length:=by
 unfold Gr.intB at h;split at h
 ·cases h
 ·rename_i hn;have hlen:0<s.length:=by
   rcases Nat.eq_zero_or_pos s.length with h0|h0
   ·exact absurd (.inl (by unfold Gr.intS;rw[if_neg (by omega)];exact h0)) hn
   ·exact h0
  refine⟨?_,h,?_,hlen⟩
  ·unfold Gr.intS at h ⊢;split
   ·rename_i hc;rw[if_pos hc]at h;cases s with
    |nil=>simp at hc
    |cons c r=>
     simp at hc;obtain⟨_,rfl⟩:=hc;show nodash (45::r)=r;have:nodash (45::r)=nodash r:=by unfold nodash;rw[List.filter_cons_of_neg (by decide)]
     rw[this];exact nodash_dig r h
   ·rename_i hc;rw[if_neg hc]at h;exact nodash_dig s h
  ·intro c hc;unfold Gr.intS at h;split at h
   ·rename_i h1;cases s with
    |nil=>cases hc
    |cons d r=>
     simp at h1;rcases List.mem_cons.1 hc with rfl|hc
     ·exact .inl h1.2
     ·exact .inr (List.all_eq_true.1 h c hc)
   ·exact .inr (List.all_eq_true.1 h c hc)
def NPost (o:Option Int) (w:World) (e:Ending) (w':World):Prop:=e=.returned (.tuple #[.int .i64 (o.getD 0),.bool o.isSome])/\w=w'
theorem all_bd (l:Gr.Str) (h:l.all Gr.dig=true) (hl:l.length<=18):Gr.val l<1000000000000000000:=Nat.lt_of_lt_of_le (Gr.val_lt l h) (Nat.pow_le_pow_right (n:=10) (by omega) hl)
theorem nodash_take (s:Gr.Str) (hs:∀c∈s,c=45\/Gr.dig c=true) (k:Nat):(nodash (s.take k)).all Gr.dig=true/\(nodash (s.take k)).length<=k:=by
 constructor
 ·rw[List.all_eq_true];intro c hc;obtain⟨h1,h2⟩:=List.mem_filter.1 hc;rcases hs c (List.mem_of_mem_take h1)with rfl|h
  ·cases h2
  ·exact h
 ·exact Nat.le_trans (List.length_filter_le _ _) (by simp;omega)
theorem nodash_next (s:Gr.Str) (k:Nat) (h:k<s.length):nodash (s.take (k+1))=nodash (s.take k)++(if s[k]=45 then[]else[s[k]]):=by
 unfold nodash;rw[List.take_succ_eq_append_getElem h,List.filter_append]
 congr 1
 by_cases e:s[k]=45
 ·rw[if_pos e,e];rfl
 ·rw[if_neg e];simp[e]
theorem rnum_any (s:Gr.Str) (hl:s.length<=1073741823) (w:World):Calls Tryz.prog 78 #[.string ⟨s.toArray⟩] w (NPost (Gr.numb s) w):=by
 have HV:=Lib.hid (fun W=>rvalid_any s hl W);obtain⟨r,hr⟩:∃r,Gr.numb s=r:=⟨_,rfl⟩
 have HR:Hid ((if Gr.intB s=true/\s.length<=18 then some (if s.head?=some 45 then -(Gr.val (Gr.intS s):Int)else(Gr.val (Gr.intS s):Int))else none)=r):=Lib.hid hr;rw[hr];clear hr;cases hi:Gr.intB s with
 |false=>
  rw[hi]at HV;have HF:Hid (r=none):=Lib.hid (by rw[<-HR.out,if_neg (by rw[hi];simp)]);clear hi HR;go_enter Tryz.func78,Tryz.ntmps78;go_wp2_with fail;refine(HV.out _).mono ?_;rintro _ w1 ⟨rfl,rfl⟩;go_wp2_with fail;go_ret2;rw[HF.out];exact⟨rfl,rfl⟩
 |true=>
  rw[hi]at HV;by_cases h18:s.length<=18
  ·have h18I:¬(18:Int)<(s.length:Int):=by omega
   obtain⟨p1,p2,p3,p4⟩:=intB_parts hi;have HR1:Hid ((some (if s.head?=some 45 then -(Gr.val (nodash s):Int)else(Gr.val (nodash s):Int)))=r):=Lib.hid (by
    have h:=HR.out;rw[if_pos ⟨hi,h18⟩]at h;rw[p1];exact h)
   have HP:=Lib.hid p3;have h0I:(0:Int)<(s.length:Int):=by omega
   clear hi HR p1 p2 p3;go_enter Tryz.func78,Tryz.ntmps78;go_wp2_with fail;refine(HV.out _).mono ?_;rintro _ w1 ⟨rfl,rfl⟩;go_wp2_with fail;go_loop [4,5] (fun s4 s5=>∃k v:Nat,k<=s.length/\v<1000000000000000000/\s4=.int .i64 (v:Int)/\s5=.int .i64 (k:Int)/\Hid (v=Gr.val (nodash (s.take k)))) (fun _ s5=>s.length-(intOf s5).toNat)
   case atStart=>exact⟨0,0,by omega,by omega,rfl,rfl,Lib.hid rfl⟩
   case round=>
    obtain⟨k,v,hk,hv,rfl,rfl,HK⟩:=hrel;by_cases hlt:k<s.length
    ·have hltI:(k:Int)<(s.length:Int):=by omega
     have HN:=Lib.hid (nodash_next s k hlt);have HM:=Lib.hid (HP.out s[k] (List.getElem_mem hlt));have HT:=Lib.hid (nodash_take s HP.out (k+1));by_cases h45:s[k]=45
     ·have b1:=byte_is s k hlt _ 45 45 rfl rfl h45;have b2:=byte_isb s k hlt _ 45 45 rfl rfl h45;have HX:=Lib.hid h45;clear h45;go_wp2_with fail;go_round
      case rel=>exact⟨k+1,v,by omega,hv,rfl,by go_num,Lib.hid (by rw[HN.out,if_pos HX.out,List.append_nil];exact HK.out)⟩
      case measure=>simp[intOf];omega
     ·have c1:=byte_not s k hlt _ 45 45 rfl rfl h45;have c2:=byte_nob s k hlt _ 45 45 rfl rfl h45;have hdg:Gr.dig s[k]=true:=HM.out.resolve_left h45;obtain⟨b,hb⟩:∃b:Nat,(s[k]'hlt).toNat=b:=⟨_,rfl⟩
      have hbv:(((⟨s.toArray⟩:ByteArray)[k]'(by simpa[ByteArray.size]using hlt)).toNat:Int)=(b:Int):=by rw[<-hb];rfl
      have hbd:=dig_nat0 (s[k]'hlt) b hb;rw[hdg]at hbd;have hb48:48<=b/\b<=57:=by have:=hbd.symm;simpa using this
      have hdv:Gr.dv s[k]=b-48:=by unfold Gr.dv;rw[hb]
      have HNX:Hid (10*v+(b-48)=Gr.val (nodash (s.take (k+1)))):=Lib.hid (by
       rw[HN.out,if_neg h45,Gr.val_snoc,<-HK.out,hdv])
      have hvn:10*v+(b-48)<1000000000000000000:=by
       rw[HNX.out];exact all_bd _ HT.out.1 (by have:=HT.out.2;omega)
      rw[hbv]at c1 c2;obtain⟨hb1,hb2⟩:=hb48;clear hbd hdg hb hdv h45;go_wp2_with fail;go_round
      case rel=>exact⟨k+1,10*v+(b-48),by omega,hvn,by exact congrArg (Value.int .i64) (by omega),by go_num,Lib.hid HNX.out⟩
      case measure=>simp[intOf];omega
    ·obtain rfl:k=s.length:=by omega
     have HVL:Hid (v=Gr.val (nodash s)):=Lib.hid (by have:=HK.out;rwa[List.take_length]at this);have hh:s.head?=some (s[0]'p4):=by rw[List.head?_eq_getElem?,List.getElem?_eq_getElem p4]
     by_cases h45:s[0]'p4=45
     ·have b1:=byte_is s 0 p4 _ 45 45 rfl rfl h45;have b2:=byte_isb s 0 p4 _ 45 45 rfl rfl h45;have HF:Hid (r=some (-(v:Int))):=Lib.hid (by rw[<-HR1.out,hh,h45,if_pos rfl,HVL.out]);clear h45 hh;go_wp2_with fail;go_ret2;rw[HF.out];exact⟨rfl,rfl⟩
     ·have b1:=byte_not s 0 p4 _ 45 45 rfl rfl h45;have b2:=byte_nob s 0 p4 _ 45 45 rfl rfl h45;have HF:Hid (r=some (v:Int)):=Lib.hid (by rw[<-HR1.out,hh,if_neg (by intro e;injection e with e;exact h45 e),HVL.out]);clear h45 hh;go_wp2_with fail;go_ret2;rw[HF.out];exact⟨rfl,rfl⟩
  ·have h18I:(18:Int)<(s.length:Int):=by omega
   have HF:Hid (r=none):=Lib.hid (by rw[<-HR.out,if_neg (by rintro⟨_,h⟩;exact h18 h)]);clear hi HR;go_enter Tryz.func78,Tryz.ntmps78;go_wp2_with fail;refine(HV.out _).mono ?_;rintro _ w1 ⟨rfl,rfl⟩;go_wp2_with fail;go_ret2;rw[HF.out];exact⟨rfl,rfl⟩
theorem stored4 {w:World} {g:Nat} {t:TypeId} {c0 c1 c2 c3 v0 v1 v2 v3:Value} (h:Blk w g t #[c0,c1,c2,c3]):Blk ((((w.setCell ⟨g,0,none⟩ v0).setCell ⟨g,1,none⟩ v1).setCell ⟨g,2,none⟩ v2).setCell ⟨g,3,none⟩ v3) g t #[v0,v1,v2,v3]:=by
 have h1:=((((h.set_ 0 v0).set_ 1 v1).set_ 2 v2).set_ 3 v3)
 simp only[List.setIfInBounds_toArray,List.set_cons_zero,List.set_cons_succ]at h1;exact h1
theorem below4 {w0 w:World} {g B:Nat} (h:Below B w0 w) (hB:B<=g) (v0 v1 v2 v3:Value):Below B w0 ((((w.setCell ⟨g,0,none⟩ v0).setCell ⟨g,1,none⟩ v1).setCell ⟨g,2,none⟩ v2).setCell ⟨g,3,none⟩ v3):=
 (((h.setCell (p:=⟨g,0,none⟩) hB _).setCell (p:=⟨g,1,none⟩) hB _).setCell (p:=⟨g,2,none⟩) hB _).setCell (p:=⟨g,3,none⟩) hB _
def OfF (b:Bool) (w:World) (e:Ending) (w':World):Prop:=(∃(k:Int) (n:Bool) (m x:Int),e=.returned (.tuple #[.agg #[.int .i64 k,.bool n,.int .u64 m,.int .i64 x],.bool b]))/\Below w.heap.size w w'
theorem rof_11 (neg ok is r:Bool) (m e:Int) (hm0:-1000000000000000000<m) (hm1:m<1000000000000000000) (he0:-1000000000000000000<e) (he1:e<1000000000000000000) (gb:Nat) (w wx:World) (HM:Hid (Blk wx gb 74 #[.int .i64 0,.bool false,.int .u64 0,.int .i64 0]/\Below w.heap.size w wx/\w.heap.size<=gb)) (HR:Hid ((ok && is && Gr.mokB m e)=r)) (u0 u1 u3 u5 u6 u11 u12 u13 u14 u15 u16 u17 u18 u19 u20 u21 u22 u23 u24 u25 u26 u27 u28 u29 u30 u31 u32 u33 u34 u35 u36 u37 u38 u39 u40 u41 u42 u43 u44 u45 u46 u47 u48 u49 u50 u51 u52 u53 u54 u55 u56 u57 u58 u59 u60 u61 u62 u63 u64 u65 u66 u67 u68 u69 u70 u71 u72 u73 u74 u75 u76 u77 u78 u79 u80 u81 u82 u83 u84 u85 u86 u87 u88 u89 u90 u91 u92 u93 u94 u95 u96 u97 u98 u99 u100 u101 u102 u103 u104 u105 u106 u107 u108 u109 u110 u111 u112 u113 u114 u115 u116:Value):
 Code.wp Tryz.prog (tl 11 (Tryz.f45.body.getD .skip)) (bodyPost Tryz.prog Tryz.f45 (OfF r w)) {tmps:=List.toArray (u0::u1::.pointer (some ⟨gb,0,none⟩)::u3::.bool neg::u5::u6::.int .i64 m::.bool ok::.int .i64 e::.bool is::u11::u12::u13::u14::u15::u16::u17::u18::u19::u20::u21::u22::u23::u24::u25::u26::u27::u28::u29::u30::u31::u32::u33::u34::u35::u36::u37::u38::u39::u40::u41::u42::u43::u44::u45::u46::u47::u48::u49::u50::u51::u52::u53::u54::u55::u56::u57::u58::u59::u60::u61::u62::u63::u64::u65::u66::u67::u68::u69::u70::u71::u72::u73::u74::u75::u76::u77::u78::u79::u80::u81::u82::u83::u84::u85::u86::u87::u88::u89::u90::u91::u92::u93::u94::u95::u96::u97::u98::u99::u100::u101::u102::u103::u104::u105::u106::u107::u108::u109::u110::u111::u112::u113::u114::u115::u116::[]),defers:=[]} wx:=by
 generalize hc0:tl 11 (Tryz.f45.body.getD .skip)=c0;simp only[tl,Tryz.f45,Option.getD_some]at hc0;subst hc0;obtain⟨q0,q1,q2,q3⟩:=cells4 HM.out.1;have qf:∀j,wx.frozen? ⟨gb,j,none⟩=false:=HM.out.1.frozen;cases ok with
 |false=>
  have HF:Hid (r=false):=Lib.hid (by rw[<-HR.out];rfl);go_wp2_with fail;have HSB:Blk ((((wx.setCell ⟨gb,0,none⟩ (.int .i64 0)).setCell ⟨gb,1,none⟩ (.bool false)).setCell ⟨gb,2,none⟩ (.int .u64 0)).setCell ⟨gb,3,none⟩ (.int .i64 0)) gb 74 #[.int .i64 0,.bool false,.int .u64 0,.int .i64 0]:=stored4 HM.out.1;obtain⟨e0,e1,e2,e3⟩:=cells4 HSB;have HSH:Below w.heap.size w ((((wx.setCell ⟨gb,0,none⟩ (.int .i64 0)).setCell ⟨gb,1,none⟩ (.bool false)).setCell ⟨gb,2,none⟩ (.int .u64 0)).setCell ⟨gb,3,none⟩ (.int .i64 0)):=below4 HM.out.2.1 HM.out.2.2 _ _ _ _;refine bodyPost_ret (v:=.tuple #[.agg #[.int .i64 0,.bool false,.int .u64 0,.int .i64 0],.bool false]) (by rw[results_cell_tmp rfl];go_simp) rfl ?_;rw[HF.out];exact⟨⟨_,_,_,_,rfl⟩,HSH⟩
 |true=>
  cases is with
  |false=>
   have HF:Hid (r=false):=Lib.hid (by rw[<-HR.out];rfl);go_wp2_with fail;have HSB:Blk ((((wx.setCell ⟨gb,0,none⟩ (.int .i64 0)).setCell ⟨gb,1,none⟩ (.bool false)).setCell ⟨gb,2,none⟩ (.int .u64 0)).setCell ⟨gb,3,none⟩ (.int .i64 0)) gb 74 #[.int .i64 0,.bool false,.int .u64 0,.int .i64 0]:=stored4 HM.out.1;obtain⟨e0,e1,e2,e3⟩:=cells4 HSB;have HSH:Below w.heap.size w ((((wx.setCell ⟨gb,0,none⟩ (.int .i64 0)).setCell ⟨gb,1,none⟩ (.bool false)).setCell ⟨gb,2,none⟩ (.int .u64 0)).setCell ⟨gb,3,none⟩ (.int .i64 0)):=below4 HM.out.2.1 HM.out.2.2 _ _ _ _;refine bodyPost_ret (v:=.tuple #[.agg #[.int .i64 0,.bool false,.int .u64 0,.int .i64 0],.bool false]) (by rw[results_cell_tmp rfl];go_simp) rfl ?_;rw[HF.out];exact⟨⟨_,_,_,_,rfl⟩,HSH⟩
  |true=>
   have HMK:Hid (Gr.mokB m e=r):=Lib.hid (by have:=HR.out;simpa using this);clear HR;by_cases hn:m<0
   ·have HF:Hid (r=false):=Lib.hid (by rw[<-HMK.out];unfold Gr.mokB;rw[decide_eq_true hn];rfl);go_wp2_with fail;have HSB:Blk ((((wx.setCell ⟨gb,0,none⟩ (.int .i64 0)).setCell ⟨gb,1,none⟩ (.bool false)).setCell ⟨gb,2,none⟩ (.int .u64 0)).setCell ⟨gb,3,none⟩ (.int .i64 0)) gb 74 #[.int .i64 0,.bool false,.int .u64 0,.int .i64 0]:=stored4 HM.out.1;obtain⟨e0,e1,e2,e3⟩:=cells4 HSB;have HSH:Below w.heap.size w ((((wx.setCell ⟨gb,0,none⟩ (.int .i64 0)).setCell ⟨gb,1,none⟩ (.bool false)).setCell ⟨gb,2,none⟩ (.int .u64 0)).setCell ⟨gb,3,none⟩ (.int .i64 0)):=below4 HM.out.2.1 HM.out.2.2 _ _ _ _;refine bodyPost_ret (v:=.tuple #[.agg #[.int .i64 0,.bool false,.int .u64 0,.int .i64 0],.bool false]) (by rw[results_cell_tmp rfl];go_simp) rfl ?_;rw[HF.out];exact⟨⟨_,_,_,_,rfl⟩,HSH⟩
   ·by_cases hz:m=0
    ·subst hz;have hzb:((0:Int)==0)=true:=rfl;have hzc:((0:Int) != 0)=false:=rfl;by_cases hez:e=0
     ·have hezb:(e==0)=true:=by simpa using hez
      have hezc:(e != 0)=false:=by rw[bne,hezb];rfl
      have HF:Hid (r=true):=Lib.hid (by rw[<-HMK.out,hez];decide);clear hez;go_wp2_with fail;have HSB:Blk ((((wx.setCell ⟨gb,0,none⟩ (.int .i64 0)).setCell ⟨gb,1,none⟩ (.bool neg)).setCell ⟨gb,2,none⟩ (.int .u64 0)).setCell ⟨gb,3,none⟩ (.int .i64 e)) gb 74 #[.int .i64 0,.bool neg,.int .u64 0,.int .i64 e]:=stored4 HM.out.1;obtain⟨e0,e1,e2,e3⟩:=cells4 HSB;have HSH:Below w.heap.size w ((((wx.setCell ⟨gb,0,none⟩ (.int .i64 0)).setCell ⟨gb,1,none⟩ (.bool neg)).setCell ⟨gb,2,none⟩ (.int .u64 0)).setCell ⟨gb,3,none⟩ (.int .i64 e)):=below4 HM.out.2.1 HM.out.2.2 _ _ _ _;refine bodyPost_ret (v:=.tuple #[.agg #[.int .i64 0,.bool neg,.int .u64 0,.int .i64 e],.bool true]) (by rw[results_cell_tmp rfl];go_simp) rfl ?_;rw[HF.out];exact⟨⟨_,_,_,_,rfl⟩,HSH⟩
     ·have hezb:(e==0)=false:=by simpa using hez
      have hezc:(e != 0)=true:=by rw[bne,hezb];rfl
      have HF:Hid (r=false):=Lib.hid (by rw[<-HMK.out];unfold Gr.mokB;simp[hez]);clear hez;go_wp2_with fail;have HSB:Blk ((((wx.setCell ⟨gb,0,none⟩ (.int .i64 0)).setCell ⟨gb,1,none⟩ (.bool false)).setCell ⟨gb,2,none⟩ (.int .u64 0)).setCell ⟨gb,3,none⟩ (.int .i64 0)) gb 74 #[.int .i64 0,.bool false,.int .u64 0,.int .i64 0]:=stored4 HM.out.1;obtain⟨e0,e1,e2,e3⟩:=cells4 HSB;have HSH:Below w.heap.size w ((((wx.setCell ⟨gb,0,none⟩ (.int .i64 0)).setCell ⟨gb,1,none⟩ (.bool false)).setCell ⟨gb,2,none⟩ (.int .u64 0)).setCell ⟨gb,3,none⟩ (.int .i64 0)):=below4 HM.out.2.1 HM.out.2.2 _ _ _ _;refine bodyPost_ret (v:=.tuple #[.agg #[.int .i64 0,.bool false,.int .u64 0,.int .i64 0],.bool false]) (by rw[results_cell_tmp rfl];go_simp) rfl ?_;rw[HF.out];exact⟨⟨_,_,_,_,rfl⟩,HSH⟩
    ·have hzb:(m==0)=false:=by simpa using hz
     have hzc:(m != 0)=true:=by rw[bne,hzb];rfl
     have hmp:0<m:=by omega
     have hwr:IntKind.u64.wrap m=m:=by rw[IntKind.wrap_u64];omega
     have HBL:=Lib.hid (fun W=>rbit_any m.toNat (by omega) m (by omega) W);obtain⟨b,hb⟩:∃b,Lib.bitLen m.toNat=b:=⟨_,rfl⟩
     have hb64:b<=64:=by rw[<-hb];exact Lib.bitLen_le _ 64 (by omega) (by omega)
     have HMB:Hid (r=!(decide (m%2=0) || decide (53<b) || decide (e< -1074) || decide (1023<e) || decide (1024<e+b))):=Lib.hid (by
      rw[<-HMK.out];unfold Gr.mokB;rw[hb,decide_eq_false hn,hzb,hzc];simp only[Bool.false_or,Bool.false_and,Bool.true_and];rfl)
     rw[hb]at HBL;clear hb hz HMK;by_cases k1:m%2=0
     ·have k1b:(m%2==0)=true:=by simpa using k1
      have HF:Hid (r=false):=Lib.hid (by rw[HMB.out];simp[k1]);clear k1;go_wp2_with fail;have HSB:Blk ((((wx.setCell ⟨gb,0,none⟩ (.int .i64 0)).setCell ⟨gb,1,none⟩ (.bool false)).setCell ⟨gb,2,none⟩ (.int .u64 0)).setCell ⟨gb,3,none⟩ (.int .i64 0)) gb 74 #[.int .i64 0,.bool false,.int .u64 0,.int .i64 0]:=stored4 HM.out.1;obtain⟨e0,e1,e2,e3⟩:=cells4 HSB;have HSH:Below w.heap.size w ((((wx.setCell ⟨gb,0,none⟩ (.int .i64 0)).setCell ⟨gb,1,none⟩ (.bool false)).setCell ⟨gb,2,none⟩ (.int .u64 0)).setCell ⟨gb,3,none⟩ (.int .i64 0)):=below4 HM.out.2.1 HM.out.2.2 _ _ _ _;refine bodyPost_ret (v:=.tuple #[.agg #[.int .i64 0,.bool false,.int .u64 0,.int .i64 0],.bool false]) (by rw[results_cell_tmp rfl];go_simp) rfl ?_;rw[HF.out];exact⟨⟨_,_,_,_,rfl⟩,HSH⟩
     ·have k1b:(m%2==0)=false:=by simpa using k1
      by_cases k2:53<b
      ·have k2I:(53:Int)<(b:Int):=by omega
       have HF:Hid (r=false):=Lib.hid (by rw[HMB.out];simp[k2]);clear k1 k2;go_wp2_with fail;refine(HBL.out _).mono ?_;rintro _ wx ⟨rfl,rfl⟩;go_wp2_with fail;have HSB:Blk ((((wx.setCell ⟨gb,0,none⟩ (.int .i64 0)).setCell ⟨gb,1,none⟩ (.bool false)).setCell ⟨gb,2,none⟩ (.int .u64 0)).setCell ⟨gb,3,none⟩ (.int .i64 0)) gb 74 #[.int .i64 0,.bool false,.int .u64 0,.int .i64 0]:=stored4 HM.out.1;obtain⟨e0,e1,e2,e3⟩:=cells4 HSB;have HSH:Below w.heap.size w ((((wx.setCell ⟨gb,0,none⟩ (.int .i64 0)).setCell ⟨gb,1,none⟩ (.bool false)).setCell ⟨gb,2,none⟩ (.int .u64 0)).setCell ⟨gb,3,none⟩ (.int .i64 0)):=below4 HM.out.2.1 HM.out.2.2 _ _ _ _;refine bodyPost_ret (v:=.tuple #[.agg #[.int .i64 0,.bool false,.int .u64 0,.int .i64 0],.bool false]) (by rw[results_cell_tmp rfl];go_simp) rfl ?_;rw[HF.out];exact⟨⟨_,_,_,_,rfl⟩,HSH⟩
      ·have k2I:¬(53:Int)<(b:Int):=by omega
       by_cases k3:e< -1074
       ·have HF:Hid (r=false):=Lib.hid (by rw[HMB.out];simp[k3]);clear k1 k2;go_wp2_with fail;refine(HBL.out _).mono ?_;rintro _ wx ⟨rfl,rfl⟩;go_wp2_with fail;have HSB:Blk ((((wx.setCell ⟨gb,0,none⟩ (.int .i64 0)).setCell ⟨gb,1,none⟩ (.bool false)).setCell ⟨gb,2,none⟩ (.int .u64 0)).setCell ⟨gb,3,none⟩ (.int .i64 0)) gb 74 #[.int .i64 0,.bool false,.int .u64 0,.int .i64 0]:=stored4 HM.out.1;obtain⟨e0,e1,e2,e3⟩:=cells4 HSB;have HSH:Below w.heap.size w ((((wx.setCell ⟨gb,0,none⟩ (.int .i64 0)).setCell ⟨gb,1,none⟩ (.bool false)).setCell ⟨gb,2,none⟩ (.int .u64 0)).setCell ⟨gb,3,none⟩ (.int .i64 0)):=below4 HM.out.2.1 HM.out.2.2 _ _ _ _;refine bodyPost_ret (v:=.tuple #[.agg #[.int .i64 0,.bool false,.int .u64 0,.int .i64 0],.bool false]) (by rw[results_cell_tmp rfl];go_simp) rfl ?_;rw[HF.out];exact⟨⟨_,_,_,_,rfl⟩,HSH⟩
       ·by_cases k4:1023<e
        ·have HF:Hid (r=false):=Lib.hid (by rw[HMB.out];simp[k4]);clear k1 k2;go_wp2_with fail;refine(HBL.out _).mono ?_;rintro _ wx ⟨rfl,rfl⟩;go_wp2_with fail;have HSB:Blk ((((wx.setCell ⟨gb,0,none⟩ (.int .i64 0)).setCell ⟨gb,1,none⟩ (.bool false)).setCell ⟨gb,2,none⟩ (.int .u64 0)).setCell ⟨gb,3,none⟩ (.int .i64 0)) gb 74 #[.int .i64 0,.bool false,.int .u64 0,.int .i64 0]:=stored4 HM.out.1;obtain⟨e0,e1,e2,e3⟩:=cells4 HSB;have HSH:Below w.heap.size w ((((wx.setCell ⟨gb,0,none⟩ (.int .i64 0)).setCell ⟨gb,1,none⟩ (.bool false)).setCell ⟨gb,2,none⟩ (.int .u64 0)).setCell ⟨gb,3,none⟩ (.int .i64 0)):=below4 HM.out.2.1 HM.out.2.2 _ _ _ _;refine bodyPost_ret (v:=.tuple #[.agg #[.int .i64 0,.bool false,.int .u64 0,.int .i64 0],.bool false]) (by rw[results_cell_tmp rfl];go_simp) rfl ?_;rw[HF.out];exact⟨⟨_,_,_,_,rfl⟩,HSH⟩
        ·by_cases k5:1024<e+b
         ·have HF:Hid (r=false):=Lib.hid (by rw[HMB.out];simp[k5]);clear k1 k2;go_wp2_with fail;refine(HBL.out _).mono ?_;rintro _ wx ⟨rfl,rfl⟩;go_wp2_with fail;refine(HBL.out _).mono ?_;rintro _ wx ⟨rfl,rfl⟩;go_wp2_with fail;have HSB:Blk ((((wx.setCell ⟨gb,0,none⟩ (.int .i64 0)).setCell ⟨gb,1,none⟩ (.bool false)).setCell ⟨gb,2,none⟩ (.int .u64 0)).setCell ⟨gb,3,none⟩ (.int .i64 0)) gb 74 #[.int .i64 0,.bool false,.int .u64 0,.int .i64 0]:=stored4 HM.out.1;obtain⟨e0,e1,e2,e3⟩:=cells4 HSB;have HSH:Below w.heap.size w ((((wx.setCell ⟨gb,0,none⟩ (.int .i64 0)).setCell ⟨gb,1,none⟩ (.bool false)).setCell ⟨gb,2,none⟩ (.int .u64 0)).setCell ⟨gb,3,none⟩ (.int .i64 0)):=below4 HM.out.2.1 HM.out.2.2 _ _ _ _;refine bodyPost_ret (v:=.tuple #[.agg #[.int .i64 0,.bool false,.int .u64 0,.int .i64 0],.bool false]) (by rw[results_cell_tmp rfl];go_simp) rfl ?_;rw[HF.out];exact⟨⟨_,_,_,_,rfl⟩,HSH⟩
         ·have HF:Hid (r=true):=Lib.hid (by rw[HMB.out];simp[k1,k2,k3,k4,k5]);clear k1 k2;go_wp2_with fail;refine(HBL.out _).mono ?_;rintro _ wx ⟨rfl,rfl⟩;go_wp2_with fail;refine(HBL.out _).mono ?_;rintro _ wx ⟨rfl,rfl⟩;go_wp2_with fail;have HSB:Blk ((((wx.setCell ⟨gb,0,none⟩ (.int .i64 0)).setCell ⟨gb,1,none⟩ (.bool neg)).setCell ⟨gb,2,none⟩ (.int .u64 m)).setCell ⟨gb,3,none⟩ (.int .i64 e)) gb 74 #[.int .i64 0,.bool neg,.int .u64 m,.int .i64 e]:=stored4 HM.out.1;obtain⟨e0,e1,e2,e3⟩:=cells4 HSB;have HSH:Below w.heap.size w ((((wx.setCell ⟨gb,0,none⟩ (.int .i64 0)).setCell ⟨gb,1,none⟩ (.bool neg)).setCell ⟨gb,2,none⟩ (.int .u64 m)).setCell ⟨gb,3,none⟩ (.int .i64 e)):=below4 HM.out.2.1 HM.out.2.2 _ _ _ _;refine bodyPost_ret (v:=.tuple #[.agg #[.int .i64 0,.bool neg,.int .u64 m,.int .i64 e],.bool true]) (by rw[results_cell_tmp rfl];go_simp) rfl ?_;rw[HF.out];exact⟨⟨_,_,_,_,rfl⟩,HSH⟩
theorem numb_bd (s:Gr.Str):-1000000000000000000<(Gr.numb s).getD 0/\(Gr.numb s).getD 0<1000000000000000000:=by
 unfold Gr.numb;split
 ·rename_i h;obtain⟨_,p2,_,_⟩:=intB_parts h.1;have hl:(Gr.intS s).length<=s.length:=by
   unfold Gr.intS;split
   ·simp
   ·omega
  have:=all_bd (Gr.intS s) p2 (by omega);simp only[Option.getD_some];split<;>omega
 ·simp
theorem rof_4 (s t:Gr.Str) (hl:s.length<=1073741823) (htl:t.length<=s.length) (neg r:Bool) (gb:Nat) (w wx:World) (HM:Hid (Blk wx gb 74 #[.int .i64 0,.bool false,.int .u64 0,.int .i64 0]/\Below w.heap.size w wx/\w.heap.size<=gb)) (HR:Hid ((if t=[105,110,102]then true else if s=[110,97,110]then true else match t.dropWhile (fun c=>c != 112)with| []=>false|_::b=>match Gr.numb (Gr.fA t)with|some m=>(match Gr.numb b with|some e=>Gr.mokB m e|none=>false)|none=>false)=r)) (u1 u3 u6 u7 u8 u9 u10 u11 u12 u13 u14 u15 u16 u17 u18 u19 u20 u21 u22 u23 u24 u25 u26 u27 u28 u29 u30 u31 u32 u33 u34 u35 u36 u37 u38 u39 u40 u41 u42 u43 u44 u45 u46 u47 u48 u49 u50 u51 u52 u53 u54 u55 u56 u57 u58 u59 u60 u61 u62 u63 u64 u65 u66 u67 u68 u69 u70 u71 u72 u73 u74 u75 u76 u77 u78 u79 u80 u81 u82 u83 u84 u85 u86 u87 u88 u89 u90 u91 u92 u93 u94 u95 u96 u97 u98 u99 u100 u101 u102 u103 u104 u105 u106 u107 u108 u109 u110 u111 u112 u113 u114 u115 u116:Value):
 Code.wp Tryz.prog (tl 4 (Tryz.f45.body.getD .skip)) (bodyPost Tryz.prog Tryz.f45 (OfF r w)) {tmps:=List.toArray (.string ⟨s.toArray⟩::u1::.pointer (some ⟨gb,0,none⟩)::u3::.bool neg::.string ⟨t.toArray⟩::u6::u7::u8::u9::u10::u11::u12::u13::u14::u15::u16::u17::u18::u19::u20::u21::u22::u23::u24::u25::u26::u27::u28::u29::u30::u31::u32::u33::u34::u35::u36::u37::u38::u39::u40::u41::u42::u43::u44::u45::u46::u47::u48::u49::u50::u51::u52::u53::u54::u55::u56::u57::u58::u59::u60::u61::u62::u63::u64::u65::u66::u67::u68::u69::u70::u71::u72::u73::u74::u75::u76::u77::u78::u79::u80::u81::u82::u83::u84::u85::u86::u87::u88::u89::u90::u91::u92::u93::u94::u95::u96::u97::u98::u99::u100::u101::u102::u103::u104::u105::u106::u107::u108::u109::u110::u111::u112::u113::u114::u115::u116::[]),defers:=[]} wx:=by
 generalize hc0:tl 4 (Tryz.f45.body.getD .skip)=c0;simp only[tl,Tryz.f45,Option.getD_some]at hc0;subst hc0;obtain⟨q0,q1,q2,q3⟩:=cells4 HM.out.1;have qf:∀j,wx.frozen? ⟨gb,j,none⟩=false:=HM.out.1.frozen;by_cases hinf:t=[105,110,102]
 ·have h1:(t==([105,110,102]:List UInt8))=true:=by rw[beq_iff_eq];exact hinf
  have HF:Hid (r=true):=Lib.hid (by rw[<-HR.out,if_pos hinf]);clear hinf;go_wp2_with fail;have HSB:Blk ((((wx.setCell ⟨gb,0,none⟩ (.int .i64 1)).setCell ⟨gb,1,none⟩ (.bool neg)).setCell ⟨gb,2,none⟩ (.int .u64 0)).setCell ⟨gb,3,none⟩ (.int .i64 0)) gb 74 #[.int .i64 1,.bool neg,.int .u64 0,.int .i64 0]:=stored4 HM.out.1;obtain⟨e0,e1,e2,e3⟩:=cells4 HSB;have HSH:Below w.heap.size w ((((wx.setCell ⟨gb,0,none⟩ (.int .i64 1)).setCell ⟨gb,1,none⟩ (.bool neg)).setCell ⟨gb,2,none⟩ (.int .u64 0)).setCell ⟨gb,3,none⟩ (.int .i64 0)):=below4 HM.out.2.1 HM.out.2.2 _ _ _ _;refine bodyPost_ret (v:=.tuple #[.agg #[.int .i64 1,.bool neg,.int .u64 0,.int .i64 0],.bool true]) (by rw[results_cell_tmp rfl];go_simp) rfl ?_;rw[HF.out];exact⟨⟨_,_,_,_,rfl⟩,HSH⟩
 ·have h1:(t==([105,110,102]:List UInt8))=false:=by rw[beq_eq_false_iff_ne];exact hinf
  by_cases hnan:s=[110,97,110]
  ·have h2:(s==([110,97,110]:List UInt8))=true:=by rw[beq_iff_eq];exact hnan
   have HF:Hid (r=true):=Lib.hid (by rw[<-HR.out,if_neg hinf,if_pos hnan]);clear hinf hnan;go_wp2_with fail;have HSB:Blk ((((wx.setCell ⟨gb,0,none⟩ (.int .i64 2)).setCell ⟨gb,1,none⟩ (.bool false)).setCell ⟨gb,2,none⟩ (.int .u64 0)).setCell ⟨gb,3,none⟩ (.int .i64 0)) gb 74 #[.int .i64 2,.bool false,.int .u64 0,.int .i64 0]:=stored4 HM.out.1;obtain⟨e0,e1,e2,e3⟩:=cells4 HSB;have HSH:Below w.heap.size w ((((wx.setCell ⟨gb,0,none⟩ (.int .i64 2)).setCell ⟨gb,1,none⟩ (.bool false)).setCell ⟨gb,2,none⟩ (.int .u64 0)).setCell ⟨gb,3,none⟩ (.int .i64 0)):=below4 HM.out.2.1 HM.out.2.2 _ _ _ _;refine bodyPost_ret (v:=.tuple #[.agg #[.int .i64 2,.bool false,.int .u64 0,.int .i64 0],.bool true]) (by rw[results_cell_tmp rfl];go_simp) rfl ?_;rw[HF.out];exact⟨⟨_,_,_,_,rfl⟩,HSH⟩
  ·have h2:(s==([110,97,110]:List UInt8))=false:=by rw[beq_eq_false_iff_ne];exact hnan
   have HR2:Hid ((match t.dropWhile (fun c=>c != 112)with| []=>false|_::b=>match Gr.numb (Gr.fA t)with|some m=>(match Gr.numb b with|some e=>Gr.mokB m e|none=>false)|none=>false)=r):=Lib.hid (by rw[<-HR.out,if_neg hinf,if_neg hnan]);clear hinf hnan HR;have HSP:Hid (t=Gr.fA t++t.dropWhile (fun c=>c != 112)):=Lib.hid (List.takeWhile_append_dropWhile (p:=fun c:UInt8=>c != 112) (l:=t)).symm;have HNP:Hid (∀k (h:k<t.length),k<(Gr.fA t).length->t[k]≠112):=Lib.hid (fun k h hk=>by
    have e:t[k]=(Gr.fA t)[k]:=by
     have:=HSP.out;rw[List.getElem_of_eq this h,List.getElem_append_left hk]
    rw[e];have hm:=List.getElem_mem hk;unfold Gr.fA at hm;have:=Gr.tw_mem hm;have h4:¬((List.takeWhile (fun c:UInt8=>c != 112) t)[k]=112):=by simpa using this
    exact h4)
   obtain⟨A,hA⟩:∃A,Gr.fA t=A:=⟨_,rfl⟩
   obtain⟨R,hRd⟩:∃R,t.dropWhile (fun c=>c != 112)=R:=⟨_,rfl⟩
   have hRh:∀c b,R=c::b->c=112:=by
    intro c b e;have:=List.head?_dropWhile_not (fun c:UInt8=>c != 112) t;rw[hRd,e]at this;simpa using this
   have HRH:=Lib.hid hRh;rw[hA,hRd]at HR2 HSP;rw[hA]at HNP;have hAl:A.length<=t.length:=by have:=congrArg List.length HSP.out;rw[List.length_append]at this;omega
   clear hA hRd hRh;go_wp2_with fail;go_loop [6] (fun s6=>∃k:Nat,k<=A.length/\s6=.int .i64 (k:Int)) (fun s6=>t.length-(intOf s6).toNat)
   case atStart=>exact⟨0,Nat.zero_le _,rfl⟩
   case round=>
    obtain⟨k,hk,rfl⟩:=hrel;by_cases hkA:k<A.length
    ·have hlt:k<t.length:=by omega
     have hltI:(k:Int)<(t.length:Int):=by omega
     have hne:=HNP.out k hlt hkA;have b1:=byte_not t k hlt _ 112 112 rfl rfl hne;have b2:=byte_nob t k hlt _ 112 112 rfl rfl hne;clear hne;go_wp2_with fail;go_round
     case rel=>exact⟨k+1,by omega,by go_num⟩
     case measure=>simp[intOf];omega
    ·obtain rfl:k=A.length:=by omega
     clear hkA hk;cases R with
     |nil=>
      have HL:Hid (A.length=t.length):=Lib.hid (by have:=congrArg List.length HSP.out;rw[List.append_nil]at this;exact this.symm);have hltI:¬(A.length:Int)<(t.length:Int):=by have:=HL.out;omega
      have heI:((A.length:Int)==(t.length:Int))=true:=by rw[beq_iff_eq,HL.out]
      have HF:Hid (r=false):=Lib.hid (by rw[<-HR2.out]);go_wp2_with fail;have HSB:Blk ((((wx.setCell ⟨gb,0,none⟩ (.int .i64 0)).setCell ⟨gb,1,none⟩ (.bool false)).setCell ⟨gb,2,none⟩ (.int .u64 0)).setCell ⟨gb,3,none⟩ (.int .i64 0)) gb 74 #[.int .i64 0,.bool false,.int .u64 0,.int .i64 0]:=stored4 HM.out.1;obtain⟨e0,e1,e2,e3⟩:=cells4 HSB;have HSH:Below w.heap.size w ((((wx.setCell ⟨gb,0,none⟩ (.int .i64 0)).setCell ⟨gb,1,none⟩ (.bool false)).setCell ⟨gb,2,none⟩ (.int .u64 0)).setCell ⟨gb,3,none⟩ (.int .i64 0)):=below4 HM.out.2.1 HM.out.2.2 _ _ _ _;refine bodyPost_ret (v:=.tuple #[.agg #[.int .i64 0,.bool false,.int .u64 0,.int .i64 0],.bool false]) (by rw[results_cell_tmp rfl];go_simp) rfl ?_;rw[HF.out];exact⟨⟨_,_,_,_,rfl⟩,HSH⟩
     |cons c b=>
      obtain rfl:c=112:=HRH.out c b rfl;have HLT:Hid (A.length+1+b.length=t.length):=Lib.hid (by have:=congrArg List.length HSP.out;rw[List.length_append,List.length_cons]at this;omega);have hlt:A.length<t.length:=by have:=HLT.out;omega
      have hltI:(A.length:Int)<(t.length:Int):=by omega
      have heI:((A.length:Int)==(t.length:Int))=false:=by rw[beq_eq_false_iff_ne];omega
      have hp:t[A.length]=112:=by rw[List.getElem_of_eq HSP.out hlt,List.getElem_append_right (Nat.le_refl _)];simp
      have b1:=byte_is t A.length hlt _ 112 112 rfl rfl hp;have b2:=byte_isb t A.length hlt _ 112 112 rfl rfl hp;have hbl:b.length<=1073741823:=by have:=HLT.out;omega
      have e1:(⟨t.toArray⟩:ByteArray).extract 0 A.length=⟨A.toArray⟩:=by rw[extract_list',HSP.out];simp
      have e2:(⟨t.toArray⟩:ByteArray).extract (A.length+1) t.length=⟨b.toArray⟩:=by rw[extract_list',List.take_of_length_le (by simp),HSP.out];simp
      have HNA:=Lib.hid (fun W=>rnum_any A (by omega) W);have HNB:=Lib.hid (fun W=>rnum_any b (by omega) W);have bA:=numb_bd A;have bB:=numb_bd b;have HMK:Hid (((Gr.numb A).isSome && (Gr.numb b).isSome && Gr.mokB ((Gr.numb A).getD 0) ((Gr.numb b).getD 0))=r):=Lib.hid (by
       have h:=HR2.out;simp only at h;rw[<-h];rcases Gr.numb A with _|m<;>rcases Gr.numb b with _|e<;>first|rfl|simp)
      unfold NPost at HNA HNB;obtain⟨m,hm⟩:∃m,(Gr.numb A).getD 0=m:=⟨_,rfl⟩
      obtain⟨x,hx⟩:∃x,(Gr.numb b).getD 0=x:=⟨_,rfl⟩
      obtain⟨ok,hok⟩:∃ok,(Gr.numb A).isSome=ok:=⟨_,rfl⟩
      obtain⟨is,his⟩:∃is,(Gr.numb b).isSome=is:=⟨_,rfl⟩
      rw[hm,hok]at HNA;rw[hx,his]at HNB;rw[hm,hx,hok,his]at HMK;rw[hm]at bA;rw[hx]at bB;have hA1:A.length+1<=t.length:=by omega
      have hA1I:(A.length:Int)+1<=(t.length:Int):=by omega
      clear hm hx hok his hp HNP HRH HR2 HSP q0 q1 q2 q3 qf;go_upto_region 14 with fail;go_cut [7,8] (fun s7 s8 wy=>s7=.int .i64 m/\s8=.bool ok/\wy=wx)
      case first=>
       go_wp2_with fail;refine(HNA.out _).mono ?_;rintro _ w1 ⟨rfl,rfl⟩;go_wp2_with fail;go_meet;exact⟨rfl,rfl,rfl⟩
      case rest=>
      obtain⟨rfl,rfl,rfl⟩:=hcut;refine(‹∀(a:Act) (w_1:World),Code.wp Tryz.prog _ _ a w_1->_›) _ _ ?_;go_upto_region 15 with fail;go_cut [9,10] (fun s9 s10 wy=>s9=.int .i64 x/\s10=.bool is/\wy=wc)
      case first=>
       go_wp2_with fail;refine(HNB.out _).mono ?_;rintro _ w1 ⟨rfl,rfl⟩;go_wp2_with fail;go_meet;exact⟨rfl,rfl,rfl⟩
      case rest=>
      obtain⟨rfl,rfl,rfl⟩:=hcut;refine(‹∀(a:Act) (w_1:World),Code.wp Tryz.prog _ _ a w_1->_›) _ _ ?_;exact rof_11 neg ok is r m x bA.1 bA.2 bB.1 bB.2 gb w _ HM HMK _ _ _ _ _ _ _ _ _ _ _ _ _ _ _ _ _ _ _ _ _ _ _ _ _ _ _ _ _ _ _ _ _ _ _ _ _ _ _ _ _ _ _ _ _ _ _ _ _ _ _ _ _ _ _ _ _ _ _ _ _ _ _ _ _ _ _ _ _ _ _ _ _ _ _ _ _ _ _ _ _ _ _ _ _ _ _ _ _ _ _ _ _ _ _ _ _ _ _ _ _ _ _ _ _ _ _ _ _ _ _
theorem rfof_any (s:Gr.Str) (hl:s.length<=1073741823) (w:World):Calls Tryz.prog 45 #[.string ⟨s.toArray⟩] w (OfF (Gr.fltR s) w):=by
 obtain⟨r,hr⟩:∃r,Gr.fltR s=r:=⟨_,rfl⟩
 rw[hr];have HR:Hid (∀t,Gr.fT s=t->(if t=[105,110,102]then true else if s=[110,97,110]then true else match t.dropWhile (fun c=>c != 112)with| []=>false|_::b=>match Gr.numb (Gr.fA t)with|some m=>(match Gr.numb b with|some e=>Gr.mokB m e|none=>false)|none=>false)=r):=Lib.hid (fun t ht=>by rw[<-hr,<-ht];rfl);clear hr;by_cases h0:0<s.length
 ·have h0I:(0:Int)<(s.length:Int):=by omega
  have hh:s.head?=some s[0]:=by rw[List.head?_eq_getElem?,List.getElem?_eq_getElem h0]
  by_cases h45:s[0]=45
  ·have b1:=byte_is s 0 h0 _ 45 45 rfl rfl h45;have b2:=byte_isb s 0 h0 _ 45 45 rfl rfl h45;obtain⟨t,ht⟩:∃t,s.tail=t:=⟨_,rfl⟩
   have HL:=Lib.hid (HR.out t (by unfold Gr.fT;rw[hh,h45,if_pos rfl,ht]));have htl:t.length<=s.length:=by rw[<-ht];simp
   have e1:(⟨s.toArray⟩:ByteArray).extract 1 s.length=⟨t.toArray⟩:=by rw[extract_list',List.take_of_length_le (by simp),<-ht,List.drop_one]
   have h1I:(1:Int)<=(s.length:Int):=by omega
   clear HR hh h45 ht;go_enter Tryz.func45,Tryz.ntmps45;go_upto_region 1 with fail;obtain⟨w0,hw0⟩:∃w0,w.alloc (.cells #[.int .i64 0,.bool false,.int .u64 0,.int .i64 0] 74)=w0:=⟨_,rfl⟩
   have HM:Hid (Blk w0 w.heap.size 74 #[.int .i64 0,.bool false,.int .u64 0,.int .i64 0]/\Below w.heap.size w w0/\w.heap.size<=w.heap.size):=Lib.hid ⟨by rw[<-hw0];exact Blk.new _ _ _,by rw[<-hw0];exact(Below.refl _ _).alloc (Nat.le_refl _) _,Nat.le_refl _⟩;(try rw[hw0]);clear hw0;go_upto_if 20 with fail;go_cut [5] (fun s5 wy=>s5=.string ⟨t.toArray⟩/\wy=w0)
   case first=>
    go_wp2_with fail;go_meet;exact⟨rfl,rfl⟩
   case rest=>
   obtain⟨rfl,rfl⟩:=hcut;refine(‹∀(a:Act) (w_1:World),Code.wp Tryz.prog _ _ a w_1->_›) _ _ ?_;exact rof_4 s t hl (by omega) true r _ w _ HM HL _ _ _ _ _ _ _ _ _ _ _ _ _ _ _ _ _ _ _ _ _ _ _ _ _ _ _ _ _ _ _ _ _ _ _ _ _ _ _ _ _ _ _ _ _ _ _ _ _ _ _ _ _ _ _ _ _ _ _ _ _ _ _ _ _ _ _ _ _ _ _ _ _ _ _ _ _ _ _ _ _ _ _ _ _ _ _ _ _ _ _ _ _ _ _ _ _ _ _ _ _ _ _ _ _ _ _ _ _ _ _ _ _
  ·have b1:=byte_not s 0 h0 _ 45 45 rfl rfl h45;have b2:=byte_nob s 0 h0 _ 45 45 rfl rfl h45;have HL:=Lib.hid (HR.out s (by unfold Gr.fT;rw[hh,if_neg (by intro e;injection e with e;exact h45 e)]));clear HR hh h45;go_enter Tryz.func45,Tryz.ntmps45;go_upto_region 1 with fail;obtain⟨w0,hw0⟩:∃w0,w.alloc (.cells #[.int .i64 0,.bool false,.int .u64 0,.int .i64 0] 74)=w0:=⟨_,rfl⟩
   have HM:Hid (Blk w0 w.heap.size 74 #[.int .i64 0,.bool false,.int .u64 0,.int .i64 0]/\Below w.heap.size w w0/\w.heap.size<=w.heap.size):=Lib.hid ⟨by rw[<-hw0];exact Blk.new _ _ _,by rw[<-hw0];exact(Below.refl _ _).alloc (Nat.le_refl _) _,Nat.le_refl _⟩;(try rw[hw0]);clear hw0;go_upto_if 20 with fail;go_cut [5] (fun s5 wy=>s5=.string ⟨s.toArray⟩/\wy=w0)
   case first=>
    go_wp2_with fail;go_meet;exact⟨rfl,rfl⟩
   case rest=>
   obtain⟨rfl,rfl⟩:=hcut;refine(‹∀(a:Act) (w_1:World),Code.wp Tryz.prog _ _ a w_1->_›) _ _ ?_;exact rof_4 s s hl (by omega) false r _ w _ HM HL _ _ _ _ _ _ _ _ _ _ _ _ _ _ _ _ _ _ _ _ _ _ _ _ _ _ _ _ _ _ _ _ _ _ _ _ _ _ _ _ _ _ _ _ _ _ _ _ _ _ _ _ _ _ _ _ _ _ _ _ _ _ _ _ _ _ _ _ _ _ _ _ _ _ _ _ _ _ _ _ _ _ _ _ _ _ _ _ _ _ _ _ _ _ _ _ _ _ _ _ _ _ _ _ _ _ _ _ _ _ _ _ _
 ·have h0I:¬(0:Int)<(s.length:Int):=by omega
  have HL:=Lib.hid (HR.out s (by rw[show s=[]from List.eq_nil_of_length_eq_zero (by omega)];rfl));clear HR;go_enter Tryz.func45,Tryz.ntmps45;go_upto_region 1 with fail;obtain⟨w0,hw0⟩:∃w0,w.alloc (.cells #[.int .i64 0,.bool false,.int .u64 0,.int .i64 0] 74)=w0:=⟨_,rfl⟩
  have HM:Hid (Blk w0 w.heap.size 74 #[.int .i64 0,.bool false,.int .u64 0,.int .i64 0]/\Below w.heap.size w w0/\w.heap.size<=w.heap.size):=Lib.hid ⟨by rw[<-hw0];exact Blk.new _ _ _,by rw[<-hw0];exact(Below.refl _ _).alloc (Nat.le_refl _) _,Nat.le_refl _⟩;(try rw[hw0]);clear hw0;go_upto_if 20 with fail;go_cut [5] (fun s5 wy=>s5=.string ⟨s.toArray⟩/\wy=w0)
  case first=>
   go_wp2_with fail;go_meet;exact⟨rfl,rfl⟩
  case rest=>
  obtain⟨rfl,rfl⟩:=hcut;refine(‹∀(a:Act) (w_1:World),Code.wp Tryz.prog _ _ a w_1->_›) _ _ ?_;exact rof_4 s s hl (by omega) false r _ w _ HM HL _ _ _ _ _ _ _ _ _ _ _ _ _ _ _ _ _ _ _ _ _ _ _ _ _ _ _ _ _ _ _ _ _ _ _ _ _ _ _ _ _ _ _ _ _ _ _ _ _ _ _ _ _ _ _ _ _ _ _ _ _ _ _ _ _ _ _ _ _ _ _ _ _ _ _ _ _ _ _ _ _ _ _ _ _ _ _ _ _ _ _ _ _ _ _ _ _ _ _ _ _ _ _ _ _ _ _ _ _ _ _ _ _
end Go.Proofs.YtoigpackhninoaaGreatDoor
