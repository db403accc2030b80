import Derived.Test.YtoigpackhninoaaGreatDoorZ02
namespace Go.Proofs.YtoigpackhninoaaGreatDoor
open Gr
open _root_.Go.Proofs.Tryz
open Lib (hid)
set_option maxRecDepth 100000
set_option maxHeartbeats 16000000
open Go.RowKit
theorem zaj (l:List Nat) (k:Nat) (h:k<l.length):l.take (k+1)=l.take k++[l[k]]:=List.take_succ_eq_append_getElem h
structure RV (w:World) (mb bm bg bv:Nat) (A:Option Addr) (c:Nat) (root:Int) (vs:List NV) (ns:List Gr.Nd) (B:Nat):Prop where
 m:Blk w bm 62 #[.slice (some ⟨mb,0,none⟩) ns.length ns.length]
 g:Blk w bg 24 #[.slice A ns.length c,.int .i64 root]
 v:Blk w bv 88 #[.func (.func 63) #[] #[.pointer (some ⟨bm,0,none⟩),.pointer (some ⟨bg,0,none⟩),.pointer (some ⟨bv,0,none⟩)]]
 at_:GAt w B A vs ns
 low:B<=mb
theorem RV.kept {w w':World} {mb bm bg bv:Nat} {A:Option Addr} {c:Nat} {root:Int} {vs:List NV} {ns:List Gr.Nd} {B:Nat} (h:RV w mb bm bg bv A c root vs ns B) {cs:Array Value} (hm:Blk w mb 4 cs) (hk:Kept1 mb w w'):RV w' mb bm bg bv A c root vs ns B:=
 ⟨hk.blk h.m (h.m.ne_ hm (by decide)),hk.blk h.g (h.g.ne_ hm (by decide)),hk.blk h.v (h.v.ne_ hm (by decide)),h.at_.below (hk.below h.low),h.low⟩
theorem zee (mb bm bg bv n:Nat) (m:List Bool) (a:Nat) (w:World) (h:Blk w bm 62 #[.slice (some ⟨mb,0,none⟩) n n]) (hm:Blk w mb 4 (bcells m)) (hml:m.length=n) (ha:a<n) (_hl:n<=1073741823) (hmk:m.getD a false=true):
 Calls prog 63 #[.int .i64 a,.pointer (some ⟨bm,0,none⟩),.pointer (some ⟨bg,0,none⟩),.pointer (some ⟨bv,0,none⟩)] w fun e w'=>e=.returned (.tuple #[])/\w'=w:=by
 have c1:w.cell? ⟨mb,a,none⟩=some (.bool true):=by rw[hm.cell,zah (by omega),hmk]
 have c2:w.cell? ⟨bm,0,none⟩=some (.slice (some ⟨mb,0,none⟩) n n):=h.cell 0;have haI:(a:Int)<(n:Int):=by omega
 clear hm h hmk;go_enter func63,ntmps63;go_wp2_with fail;refine bodyPost_ret (v:=.tuple #[]) (by simp[results,results63,go_sem]) rfl ?_;exact⟨rfl,rfl⟩
theorem zou (mb bm bg bv:Nat) (A:Option Addr) (c:Nat) (root:Int) (vs:List NV) (ns:List Gr.Nd) (B:Nat) (hr:Refs ns) (hl:ns.length<=1073741823) (hks:∀n∈ns,n.keys.length<=1073741823/\n.items.length<=1073741823):
 ∀(f:Nat) (m:List Bool) (a:Nat) (w:World),RV w mb bm bg bv A c root vs ns B->Blk w mb 4 (bcells m)->m.length=ns.length->a<ns.length->unm ns.length m<=f->
 Calls prog 63 #[.int .i64 a,.pointer (some ⟨bm,0,none⟩),.pointer (some ⟨bg,0,none⟩),.pointer (some ⟨bv,0,none⟩)] w fun e w'=>e=.returned (.tuple #[])/\Kept1 mb w w'/\Blk w' mb 4 (bcells (dvisit (Gr.succ ns) f m a)):=by
 intro f
 induction f with
 |zero=>
  intro m a w h hm hml ha hu;have hmk:m.getD a false=true:=by
   cases e:m.getD a false with
   |true=>rfl
   |false=>have:=zgp hml ha e;omega
  refine(zee mb bm bg bv ns.length m a w h.m hm hml ha hl hmk).mono ?_;rintro e w' ⟨rfl,rfl⟩;exact⟨rfl,Kept1.refl _ _,hm⟩
 |succ f ih=>
  intro m a w h hm hml ha hu;by_cases hmk:m.getD a false=true
  ·refine(zee mb bm bg bv ns.length m a w h.m hm hml ha hl hmk).mono ?_;rintro e w' ⟨rfl,rfl⟩;refine⟨rfl,Kept1.refl _ _,?_⟩;unfold dvisit;rw[if_pos hmk];exact hm
  ·have hmf:m.getD a false=false:=by simpa using hmk
   have hres:dvisit (Gr.succ ns) (f+1) m a=((ns[a]).keys++(ns[a]).items).foldl (dvisit (Gr.succ ns) f) (m.set a true):=by
    conv=>lhs;unfold dvisit
    rw[if_neg hmk];unfold Gr.succ;rw[List.getElem?_eq_getElem ha]
   rw[hres];obtain⟨n,hn⟩:=ex (ns[a])
   have hnm:n∈ns:=hn▸List.getElem_mem ha;obtain⟨hkl,hil⟩:=hks n hnm;have hkr:∀x∈n.keys,x<ns.length:=fun x hx=>hr n hnm x (List.mem_append_left _ hx)
   have hir:∀x∈n.items,x<ns.length:=fun x hx=>hr n hnm x (List.mem_append_right _ hx)
   obtain⟨m1,hm1⟩:=ex (m.set a true)
   have hu1:unm ns.length m1<=f:=by have:=zgp hml ha hmf;rw[hm1]at this;omega
   have hl1:m1.length=ns.length:=by rw[<-hm1];simp[hml]
   have HF:Hid (∀L:List Nat,(∀x∈L,x<ns.length)->(L.foldl (dvisit (Gr.succ ns) f) m1).length=ns.length/\unm ns.length (L.foldl (dvisit (Gr.succ ns) f) m1)<=f):=hid (fun L hL=>by
    have:=zev (zbq hr.succ f) L m1 hL hl1 hu1;exact⟨this.len,Nat.le_trans (zub this.keep) hu1⟩)
   have c1:w.cell? ⟨mb,a,none⟩=some (.bool false):=by rw[hm.cell,zah (by omega),hmf]
   have c2:w.cell? ⟨bm,0,none⟩=some (.slice (some ⟨mb,0,none⟩) ns.length ns.length):=h.m.cell 0;have pf:∀i,w.frozen? ⟨mb,i,none⟩=false:=hm.frozen;have haI:(a:Int)<(ns.length:Int):=by omega
   have HN:=hid hn;have HM:=hid hm;have H:=hid h;have HM1:=hid hm1;have IH:=hid ih;clear hm h hmk hu hres hn hm1 ih hu1 hmf;go_enter func63,ntmps63;go_upto_region 2 with fail;obtain⟨w1,hw1⟩:=ex (w.setCell ⟨mb,a,none⟩ (.bool true))
   have hb1:Blk w1 mb 4 (bcells m1):=by rw[<-hw1,<-HM1.out,<-zbz];exact HM.out.set_ a _
   have hk1:Kept1 mb w w1:=by rw[<-hw1];exact Kept1.set a _
   have h1:=H.out.kept HM.out hk1;rw[hw1];obtain⟨ad,k,i,rfl,hN⟩:=h1.at_.node ha;obtain⟨ka,kn,kc⟩:=k;obtain⟨ia,inn,ic⟩:=i;rw[HN.out]at hN;obtain rfl:kn=n.keys.length:=hN.kn;obtain rfl:inn=n.items.length:=hN.inn;have x3:=hN.c3;have g0:w1.cell? ⟨bg,0,none⟩=some (.slice (some ad) ns.length c):=h1.g.cell 0;have HK1:=hid hk1;have HB1:=hid hb1;have H1:=hid h1;have HKR:Hid (RowAt intL w1 B ka n.keys):=hid hN.keys;have HNI:Hid (w1.cell? {block:=(ad.add (a*5)).block,off:=(ad.add (a*5)).off+4}=some (.slice ia n.items.length ic)/\RowAt intL w1 B ia n.items/\(ad.add (a*5)).block<B):=hid ⟨hN.c4,hN.items,hN.lt⟩;clear hw1 c1 c2 pf hN h1 hk1 hb1;go_upto_region 3 with fail;clear x3 g0;go_loopw [23] (fun s23 wr=>∃k:Nat,k<=n.keys.length/\s23=.int .i64 k/\Hid (Kept1 mb w1 wr/\Blk wr mb 4 (bcells ((n.keys.take k).foldl (dvisit (Gr.succ ns) f) m1)))) (fun s23 _=>n.keys.length-(intOf s23).toNat)
   case atStart=>exact⟨0,by omega,rfl,hid ⟨Kept1.refl _ _,by simpa using HB1.out⟩⟩
   case round=>
    obtain⟨k,hk,rfl,HW⟩:=hrel;have h2:=H1.out.kept HB1.out HW.out.1;by_cases hlt:k<n.keys.length
    ·have hltI:(k:Int)<(n.keys.length:Int):=by omega
     obtain⟨x,hx⟩:=ex (n.keys[k])
     obtain⟨ad2,rfl,_,y0⟩:=zae (HKR.out.below (HW.out.1.below h2.low)) hlt;rw[hx]at y0;have hxm:x∈n.keys:=hx▸List.getElem_mem hlt;have hfo:=HF.out (n.keys.take k) (fun y hy=>hkr y (List.mem_of_mem_take hy));have v0:wr.cell? ⟨bv,0,none⟩=some (.func (.func 63) #[] #[.pointer (some ⟨bm,0,none⟩),.pointer (some ⟨bg,0,none⟩),.pointer (some ⟨bv,0,none⟩)]):=h2.v.cell 0;have HC:=hid (IH.out _ x wr h2 HW.out.2 hfo.1 (hkr x hxm) hfo.2);have HT:Hid ((n.keys.take (k+1)).foldl (dvisit (Gr.succ ns) f) m1=dvisit (Gr.succ ns) f ((n.keys.take k).foldl (dvisit (Gr.succ ns) f) m1) x):=hid (by rw[zaj _ _ hlt,List.foldl_append,hx];rfl);clear h2 hxm hfo hx;go_wp2_with fail;refine HC.out.mono ?_;rintro e w5 ⟨rfl,hk5,hb5⟩;have HW5:Hid (Kept1 mb w1 w5/\Blk w5 mb 4 (bcells ((n.keys.take (k+1)).foldl (dvisit (Gr.succ ns) f) m1))):=hid ⟨HW.out.1.trans hk5,by rw[HT.out];exact hb5⟩;clear hk5 hb5;go_wp2;go_roundw
     case rel=>exact⟨k+1,by omega,by go_num,HW5⟩
     case measure=>simp[intOf];omega
    ·have hltI:¬((k:Int)<(n.keys.length:Int)):=by omega
     have hke:k=n.keys.length:=by omega
     obtain⟨m2,hm2⟩:=ex (n.keys.foldl (dvisit (Gr.succ ns) f) m1)
     have HB2:Hid (Kept1 mb w1 wr/\Blk wr mb 4 (bcells m2)):=hid ⟨HW.out.1,by have:=HW.out.2;rw[hke,List.take_length,hm2]at this;exact this⟩;have HF2:Hid (∀L:List Nat,(∀x∈L,x<ns.length)->(L.foldl (dvisit (Gr.succ ns) f) m2).length=ns.length/\unm ns.length (L.foldl (dvisit (Gr.succ ns) f) m2)<=f):=hid (fun L hL=>by
      have:=HF.out (n.keys++L) (fun y hy=>(List.mem_append.1 hy).elim (hkr y) (hL y));rwa[List.foldl_append,hm2]at this)
     have HR:Hid (n.items.foldl (dvisit (Gr.succ ns) f) (n.keys.foldl (dvisit (Gr.succ ns) f) (m.set a true))=n.items.foldl (dvisit (Gr.succ ns) f) m2):=hid (by rw[HM1.out,hm2]);have g0:wr.cell? ⟨bg,0,none⟩=some (.slice (some ad) ns.length c):=h2.g.cell 0;have x4:wr.cell? {block:=(ad.add (a*5)).block,off:=(ad.add (a*5)).off+4}=some (.slice ia n.items.length ic):=by
      rw[(HW.out.1.below h2.low).cell (by exact HNI.out.2.2)];exact HNI.out.1
     clear h2 hke hm2 HW hk;go_upto_region 8 with fail;clear g0 x4;go_loopw [38] (fun s38 wr=>∃k:Nat,k<=n.items.length/\s38=.int .i64 k/\Hid (Kept1 mb w1 wr/\Blk wr mb 4 (bcells ((n.items.take k).foldl (dvisit (Gr.succ ns) f) m2)))) (fun s38 _=>n.items.length-(intOf s38).toNat)
     case atStart=>exact⟨0,by omega,rfl,hid ⟨HB2.out.1,by simpa using HB2.out.2⟩⟩
     case round=>
      clear hltI hlt;obtain⟨k,hk,rfl,HW⟩:=hrel;have h2:=H1.out.kept HB1.out HW.out.1;by_cases hlt:k<n.items.length
      ·have hltI:(k:Int)<(n.items.length:Int):=by omega
       obtain⟨x,hx⟩:=ex (n.items[k])
       obtain⟨ad2,rfl,_,y0⟩:=zae (HNI.out.2.1.below (HW.out.1.below h2.low)) hlt;rw[hx]at y0;have hxm:x∈n.items:=hx▸List.getElem_mem hlt;have hfo:=HF2.out (n.items.take k) (fun y hy=>hir y (List.mem_of_mem_take hy));have v0:wr.cell? ⟨bv,0,none⟩=some (.func (.func 63) #[] #[.pointer (some ⟨bm,0,none⟩),.pointer (some ⟨bg,0,none⟩),.pointer (some ⟨bv,0,none⟩)]):=h2.v.cell 0;have HC:=hid (IH.out _ x wr h2 HW.out.2 hfo.1 (hir x hxm) hfo.2);have HT:Hid ((n.items.take (k+1)).foldl (dvisit (Gr.succ ns) f) m2=dvisit (Gr.succ ns) f ((n.items.take k).foldl (dvisit (Gr.succ ns) f) m2) x):=hid (by rw[zaj _ _ hlt,List.foldl_append,hx];rfl);clear h2 hxm hfo hx;go_wp2_with fail;refine HC.out.mono ?_;rintro e w5 ⟨rfl,hk5,hb5⟩;have HW5:Hid (Kept1 mb w1 w5/\Blk w5 mb 4 (bcells ((n.items.take (k+1)).foldl (dvisit (Gr.succ ns) f) m2))):=hid ⟨HW.out.1.trans hk5,by rw[HT.out];exact hb5⟩;clear hk5 hb5;go_wp2;go_roundw
       case rel=>exact⟨k+1,by omega,by go_num,HW5⟩
       case measure=>simp[intOf];omega
      ·have hltI:¬((k:Int)<(n.items.length:Int)):=by omega
       have HFIN:Hid (Kept1 mb w wr/\Blk wr mb 4 (bcells (n.items.foldl (dvisit (Gr.succ ns) f) (n.keys.foldl (dvisit (Gr.succ ns) f) (m.set a true))))):=hid ⟨HK1.out.trans HW.out.1,by
        have:=HW.out.2;rw[show k=n.items.length from by omega,List.take_length]at this;rw[HR.out];exact this⟩
       clear h2;go_wp2_with fail;go_end0;rw[HN.out];exact⟨rfl,HFIN.out⟩
end Go.Proofs.YtoigpackhninoaaGreatDoor
