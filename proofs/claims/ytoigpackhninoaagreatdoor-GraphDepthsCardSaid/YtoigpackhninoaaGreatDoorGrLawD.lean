import Derived.Test.YtoigpackhninoaaGreatDoorZ30
import Derived.Test.YtoigpackhninoaaGreatDoorGrOver
namespace Go.Proofs.YtoigpackhninoaaGreatDoor
open Gr
open _root_.Go.Proofs.Tryz
open _root_.Go.Lib (hid)
set_option maxRecDepth 100000
set_option maxHeartbeats 16000000
open Go.RowKit
namespace Gr
theorem zgn {sclr:Int->Str->Bool} (hs:∀k t,sclr k t=true->0<=k/\k<=8) {is:List Ni} {root:Int} (h:checkI sclr is root=0):
 ∃r:Nat,root=(r:Int)/\WellF (is.map Ni.nd) r/\is.all (rng is.length)=true/\(∀x∈is.map Ni.nd,formB sclr x=true)/\twice (is.map Ni.nd) (is.map Ni.nd).length=false/\(depth (is.map Ni.nd) r).1<=32:=by
 have h2:=zfc sclr hs is root;rw[h]at h2;unfold rcheck at h2;split at h2
 ·omega
 ·split at h2
  ·omega
  ·rename_i hw;rw[Bool.not_eq_false]at hw;obtain⟨r,rfl,hwf,hr⟩:=zga hs hw;split at h2
   ·omega
   ·split at h2
    ·omega
    ·rename_i ht hd;rw[Int.toNat_natCast]at hd;refine⟨r,rfl,hwf,hr,?_,?_,by omega⟩
     ·unfold checkI at h;split at h
      ·omega
      ·split at h
       ·omega
       ·unfold checkN at h;split at h
        ·omega
        ·rename_i hall;rw[Classical.not_not,List.all_eq_true]at hall;intro x hx;obtain⟨i,hi,rfl⟩:=List.mem_iff_getElem.1 hx;have:=hall i (List.mem_range.2 hi);rw[Bool.and_eq_true]at this;have h3:=this.2;rw[List.getD_eq_getElem?_getD,List.getElem?_eq_getElem hi]at h3;exact h3
     ·rw[zem hwf.ok hwf.refs _ (fun k hk=>⟨(hwf.tall k hk).1,(hwf.tall k hk).2⟩)];rw[Bool.not_eq_true]at ht;rw[List.length_map];exact ht
end Gr
theorem row1 {w:World} {x:GArg}:RowAt argL (w.alloc (.cells #[.slice x.a x.is.length x.c,.int .i64 x.root] 24)) (w.alloc (.cells #[.slice x.a x.is.length x.c,.int .i64 x.root] 24)).heap.size (some ⟨w.heap.size,0,none⟩) [x]:=by
 rw[World.size_alloc];exact RowAt.lit1 x _ rfl _ rfl
theorem zw6 (kind:Int) (text:Gr.Str) (is:List Gr.Ni) (r:Nat) (ht:text.length<=1000) (hks:∀x∈is,x.text.length<=1000/\x.keys.length<=1000/\x.items.length<=1000):∀x∈Gr.over kind text (is.map Gr.Ni.nd) r,x.keys.length<=1000/\x.items.length<=1000/\x.text.length<=1000:=by
 intro x hx;rcases List.mem_cons.1 hx with rfl|hx
 ·simpa using ht
 ·obtain⟨y,hy,rfl⟩:=List.mem_map.1 hx;obtain⟨z,hz,rfl⟩:=List.mem_map.1 hy;have:=hks z hz;simp only[shN,Gr.Ni.nd,List.length_map];omega
section
variable {kind:Int} {text:Gr.Str} {is:List Gr.Ni} {r:Nat} {dp:Int}
theorem zr5 (h0:0<=kind/\kind<=11/\kind≠10) (ht:text.length<=1000) (hz:formB sclX ⟨kind,text,false,[],[r+1]⟩=true) (hl:is.length<=100) (hks:∀x∈is,x.text.length<=1000/\x.keys.length<=1000/\x.items.length<=1000) (hc:checkI sclX is (r:Int)=0) (hd:(depth (is.map Gr.Ni.nd) r).1=dp):
 checkG sclX (Gr.over kind text (is.map Gr.Ni.nd) r) 0=(if dp=32 then 5 else 0)/\(∀(A2:Option Addr) (c2:Nat) (vs2:List NV) (W:World),UT W->GAt W W.heap.size A2 vs2 (Gr.over kind text (is.map Gr.Ni.nd) r)->ChkOk W (.agg #[.slice A2 (is.length+1) c2,.int .i64 0]) (if dp=32 then 5 else 0))/\
 ∀(A2:Option Addr) (c2:Nat) (vs2:List NV) (W:World),GAt W W.heap.size A2 vs2 (Gr.over kind text (is.map Gr.Ni.nd) r)->DepOk W (.agg #[.slice A2 (is.length+1) c2,.int .i64 0]) (dp+1,(depth (is.map Gr.Ni.nd) r).2):=by
 obtain⟨r',hr',hwf,hrng,hfm,htw,hdp⟩:=Gr.zgn zb9 hc;obtain rfl:r=r':=by omega
 have hO:=Gr.zn3 (kind:=kind) (text:=text) hwf h0 hfm hz htw;have hlen:(Gr.over kind text (is.map Gr.Ni.nd) r).length=is.length+1:=by rw[Gr.zaz,List.length_map]
 have hcg:checkG sclX (Gr.over kind text (is.map Gr.Ni.nd) r) 0=if dp=32 then 5 else 0:=by
  unfold checkG;rw[if_neg (by omega),hO,hd];rw[hd]at hdp;by_cases h32:dp=32
  ·rw[if_pos h32,if_pos (by omega)]
  ·rw[if_neg h32,if_neg (by omega)]
 have hw0:=WellF.over (kind:=kind) (text:=text) hwf h0;have hb:=zw6 kind text is r ht hks;refine⟨hcg,fun A2 c2 vs2 W hT hG W2 hW2=>?_,fun A2 c2 vs2 W hG W2 hW2=>?_⟩
 ·have:=zru UT UT.stays sclX A2 c2 0 vs2 _ (fun x hx=>by have:=hb x hx;omega) (fun x hx _ _ _ _ _ _=>zre _ _ (by have:=hb x hx;omega)) (by omega) hw0.refs hw0.root W2 (UT.stays _ _ hT hW2) ((hG.below hW2).more hW2.size);rw[hcg,hlen]at this;exact this
 ·have:=zdl A2 c2 0 vs2 _ hw0.refs (by omega) (fun x hx=>by have:=hb x hx;omega) hw0.root hw0.all W2 ((hG.below hW2).more hW2.size);rw[hlen,Gr.zgm hwf h0,hd]at this;exact this
end
theorem zr6 (A:Option Addr) (c:Nat) (r:Nat) (vs:List NV) (is:List Gr.Ni) (hl:is.length<=100) (hks:∀x∈is,x.text.length<=1000/\x.keys.length<=1000/\x.items.length<=1000) (hc:checkI sclX is (r:Int)=0) (w:World) (hUT:UT w) (h:IAt w w.heap.size A vs is) (AL:Option Addr) (cL:Nat) (hrow:RowAt argL w w.heap.size AL [⟨A,c,r,vs,is⟩]) (dp:Int) (hd:(depth (is.map Gr.Ni.nd) r).1=dp):
 Calls prog 19 #[.slice AL 1 cL] w fun e w'=>Below w.heap.size w w'/\(dp=32->e=.returned (.tuple #[gZero,.int .i64 5]))/\(dp≠32->∃A2 c2 vs2,e=.returned (.tuple #[.agg #[.slice A2 (is.length+1) c2,.int .i64 0],.int .i64 0])/\GAt w' w'.heap.size A2 vs2 (Gr.over 9 [] (is.map Gr.Ni.nd) r)):=by
 obtain⟨hcg,hk,_⟩:=zr5 (kind:=9) (text:=[]) (by omega) (by simp) rfl hl hks hc hd;have hlen:(Gr.over 9 [] (is.map Gr.Ni.nd) r).length=is.length+1:=by rw[Gr.zaz,List.length_map]
 have hln:listN ([(⟨A,c,r,vs,is⟩:GArg)].map GArg.p)=Gr.over 9 [] (is.map Gr.Ni.nd) r:=Gr.zr4 is r;have hL:=zlw UT UT.stays sclX AL cL [⟨A,c,r,vs,is⟩] (by simp) (fun x hx=>by
  rw[List.mem_singleton.1 hx];intro y hy;obtain⟨z,hz,rfl⟩:=List.mem_map.1 hy;have:=hks z hz;simp only[Gr.Ni.nd,List.length_map];omega) (fun x hx=>by
  rw[List.mem_singleton.1 hx];intro y hy _ _ _ _ _ _;obtain⟨z,hz,rfl⟩:=List.mem_map.1 hy;have:=hks z hz;exact zre _ _ (by simp only[Gr.Ni.nd];omega)) w hUT ⟨hrow,fun x hx=>by rw[List.mem_singleton.1 hx];exact h⟩ (fun x hx=>by
  rw[List.mem_singleton.1 hx];exact zw4 A c r vs is (fun y hy=>by have:=hks y hy;omega) (by omega) w hUT h) (fun _ W A2 c2 vs2 hT hG=>by
  rw[hln]at hG ⊢;rw[hcg,hlen];exact hk A2 c2 vs2 W hT hG)
 refine hL.mono ?_;rintro e w' ⟨hb,_,h2⟩;have hany:[(⟨A,c,r,vs,is⟩:GArg)].any (fun x=>x.chk sclX != 0)=false:=by
  simp only[List.any_cons,List.any_nil,Bool.or_false];show(checkI sclX is (r:Int) != 0)=false;rw[hc];rfl
 obtain⟨h3,h4⟩:=h2 hany;rw[hln,hcg]at h3 h4;refine⟨hb,fun e32=>?_,fun e32=>?_⟩
 ·rw[if_pos e32]at h3;exact h3 (by omega)
 ·rw[if_neg e32]at h4;obtain⟨A2,c2,vs2,h5,h6⟩:=h4 rfl;rw[hlen]at h5;exact⟨A2,c2,vs2,h5,h6⟩
theorem zko (A:Option Addr) (c:Nat) (root:Int) (vs:List NV) (is:List Gr.Ni) (hz:Sz is) (w:World) (hUT:UT w) (h:IAt w w.heap.size A vs is):
 Calls prog 6 #[.agg #[.slice A is.length c,.int .i64 root]] w fun e w'=>e=.returned (.bool true)/\Below w.heap.size w w':=by
 obtain⟨w1,hw1⟩:=ex (w.alloc (.cells #[.slice A is.length c,.int .i64 root] 24))
 have b1:Blk w1 w.heap.size 24 #[.slice A is.length c,.int .i64 root]:=by rw[<-hw1];exact Blk.new _ _ _
 have l1:Below w.heap.size w w1:=by rw[<-hw1];exact(Below.refl _ _).alloc (Nat.le_refl _) _
 have L1:=hid l1;have HB1:=hid b1;have HT:Hid (∀W,Below w.heap.size w W->UT W):=hid (fun W hW=>UT.stays _ _ hUT hW);have HI:Hid (∀W,Below w.heap.size w W->IAt W W.heap.size A vs is):=hid (fun W hW=>(h.below hW).more hW.size);have HG:Hid (∀W,Below w.heap.size w W->W.cell? ⟨w.heap.size,0,none⟩=some (.slice A is.length c)/\W.cell? ⟨w.heap.size,1,none⟩=some (.int .i64 root)->True):=hid (fun _ _ _=>trivial);have HAW:Hid (∀W,Below w.heap.size w W->Calls prog 13 #[] W fun e w'=>e=.returned (.bool true)/\Below W.heap.size W w'):=hid (fun W hW=>zjc W (UT.stays _ _ hUT hW));have HF:=hid (zpn A c root vs is hz w1 ((h.below l1).more l1.size));obtain⟨q0,q1⟩:=cells2 b1;have HFL:=hid (fun hf:Gr.few is=true=>zjt hf);have HFA:=hid (fun hf:Gr.few is=true=>zju hf);obtain⟨few,hfew⟩:=ex (Gr.few is)
 rw[hfew]at HF HFL HFA;clear hfew h hz hUT b1 l1 HG;go_enter func6,ntmps6;go_upto_region 1 with fail;(try rw[hw1]);clear hw1;go_wp2_with fail;refine HF.out.mono ?_;rintro e w2 ⟨rfl,hb2⟩;have L2:Hid (Below w.heap.size w w2):=hid (L1.out.trans (hb2.mono L1.out.size));have HB2:Hid (Blk w2 w.heap.size 24 #[.slice A is.length c,.int .i64 root]):=hid (HB1.out.below hb2 HB1.out.lt);clear hb2 q0 q1 HF;cases few with
 |false=>
  go_wp2_with fail;refine(HAW.out w2 L2.out).mono ?_;rintro e w3 ⟨rfl,hb3⟩;have L3:Hid (Below w.heap.size w w3):=hid (L2.out.trans (hb3.mono L2.out.size));clear hb3;go_wp2;go_ret;exact⟨rfl,L3.out⟩
 |true=>
  have hl40:=HFL.out rfl;have HKS:=hid (HFA.out rfl);have HCK:Hid (∀W,Below w.heap.size w W->ChkOk W (.agg #[.slice A is.length c,.int .i64 root]) (checkI sclX is root)):=hid (fun W hW=>zw4 A c root vs is (fun y hy=>by have:=HKS.out y hy;omega) (by omega) W (HT.out W hW) (HI.out W hW));have HRC:Hid (∀W,Below w.heap.size w W->Calls prog 15 #[.agg #[.slice A is.length c,.int .i64 root]] W fun e w'=>e=.returned (.int .i64 (checkI sclX is root:Nat))/\Below W.heap.size W w'):=hid (fun W hW=>by
   rw[<-zfc sclX zb9];exact zgj A c root vs is (by omega) (fun y hy=>by have:=HKS.out y hy;omega) W (HI.out W hW))
  have HZ:=hid (fun hc:checkI sclX is root=0=>Gr.zgn zb9 hc);obtain⟨ck,hck⟩:=ex (checkI sclX is root)
  have HCQ:=hid hck;rw[hck]at HCK HRC HZ;clear hck HFL HFA;obtain⟨p,hp⟩:∃p:Int×Bool,p=(if ck=0 then depth (is.map Gr.Ni.nd) root.toNat else(0,false)):=⟨_,rfl⟩
  have HP:=hid hp;have HDO:Hid (∀W,Below w.heap.size w W->ck=0->DepOk W (.agg #[.slice A is.length c,.int .i64 root]) p):=hid (fun W hW hc W2 hW2=>by
   obtain⟨r,rfl,hwf,hrng,_⟩:=HZ.out hc;rw[HP.out,if_pos hc,Int.toNat_natCast];have hWW:Below w.heap.size w W2:=hW.trans (hW2.mono hW.size);have:=zdl A c r vs (is.map Gr.Ni.nd) hwf.refs (by simp;omega) (fun y hy=>by
    obtain⟨x,hx,rfl⟩:=List.mem_map.1 hy;have:=HKS.out x hx;simp only[Gr.Ni.nd,List.length_map];omega) hwf.root hwf.all W2 ((HI.out W2 hWW).toG (za8 hrng).1)
   rwa[List.length_map]at this)
  clear hp;have HSZ:=hid (zlv A is.length c root ck w2 (HCK.out w2 L2.out));obtain⟨q0,q1⟩:=cells2 HB2.out;obtain⟨p1,hp1⟩:=ex p.1
  obtain⟨p2,hp2⟩:=ex p.2
  have HP1:=hid hp1;have HP2:=hid hp2;clear hp1 hp2;go_wp2_with fail;refine HSZ.out.mono ?_;rintro e w3 ⟨rfl,hb3⟩;have L3:Hid (Below w.heap.size w w3):=hid (L2.out.trans (hb3.mono L2.out.size));have HB3:Hid (Blk w3 w.heap.size 24 #[.slice A is.length c,.int .i64 root]):=hid (HB2.out.below hb3 HB2.out.lt);clear hb3 q0 q1 HSZ HB2;have HDD:=hid (zfs A is.length c root ck p w3 (HCK.out w3 L3.out) (HDO.out w3 L3.out));rw[HP1.out,HP2.out]at HDD;obtain⟨q0,q1⟩:=cells2 HB3.out;obtain⟨sz,hsz⟩:∃sz:Int,(if ck=0 then((is.length:Nat):Int)else 0)=sz:=⟨_,rfl⟩
  obtain⟨d1,hd1⟩:∃d1:Int,(if ck=0 then p1 else 0)=d1:=⟨_,rfl⟩
  obtain⟨d2,hd2⟩:∃d2:Bool,(if ck=0 then p2 else false)=d2:=⟨_,rfl⟩
  have HSQ:=hid hsz;have HDQ1:=hid hd1;have HDQ2:=hid hd2;rw[hd1,hd2]at HDD;(try rw[hsz]);clear hsz hd1 hd2;go_wp2_with fail;refine HDD.out.mono ?_;rintro e w4 ⟨rfl,hb4⟩;have L4:Hid (Below w.heap.size w w4):=hid (L3.out.trans (hb4.mono L3.out.size));have HB4:Hid (Blk w4 w.heap.size 24 #[.slice A is.length c,.int .i64 root]):=hid (HB3.out.below hb4 HB3.out.lt);clear hb4 q0 q1 HDD HB3;have HRR:=hid (HRC.out w4 L4.out);obtain⟨q0,q1⟩:=cells2 HB4.out;go_wp2_with fail;refine HRR.out.mono ?_;rintro e w5 ⟨rfl,hb5⟩;have L5:Hid (Below w.heap.size w w5):=hid (L4.out.trans (hb5.mono L4.out.size));have HB5:Hid (Blk w5 w.heap.size 24 #[.slice A is.length c,.int .i64 root]):=hid (HB4.out.below hb5 HB4.out.lt);clear hb5 q0 q1 HRR HB4 HRC;by_cases h0:ck=0
  ·obtain⟨r,rfl,hwf,hrng,hfm,htw,hdp⟩:=HZ.out h0;have HWF:=hid hwf;have hckb:((ck:Int) != 0)=false:=by rw[h0];rfl
   have hsz:sz=(is.length:Int):=by rw[<-HSQ.out,if_pos h0]
   have hd1:d1=p1:=by rw[<-HDQ1.out,if_pos h0]
   have hd2:d2=p2:=by rw[<-HDQ2.out,if_pos h0]
   have HPP:Hid (p=depth (is.map Gr.Ni.nd) r):=hid (by rw[HP.out,if_pos h0,Int.toNat_natCast]);subst hsz;subst hd1;subst hd2;have HDP:Hid (d1<=32):=hid (by rw[<-HP1.out,HPP.out];exact hdp);have HD0:Hid (-1<=d1):=hid (by
    obtain⟨F,_,h2,_⟩:=hwf.depth;rw[<-HP1.out,HPP.out,h2];omega)
   have HRD:Hid (∀W,Below w.heap.size w W->Calls prog 23 #[.agg #[.slice A is.length c,.int .i64 r]] W fun e w'=>e=.returned (.tuple #[.int .i64 d1,.bool d2])/\Below W.heap.size W w'):=hid (fun W hW=>by
    have:=zgi A c r vs (is.map Gr.Ni.nd) HWF.out (by simp;omega) (fun y hy=>by
     obtain⟨x,hx,rfl⟩:=List.mem_map.1 hy;have:=HKS.out x hx;simp only[Gr.Ni.nd,List.length_map];omega) W ((HI.out W hW).toG (za8 hrng).1)
    rw[<-HPP.out,HP1.out,HP2.out,List.length_map]at this;exact this)
   obtain⟨q0,q1⟩:=cells2 HB5.out;have H0:=hid h0;clear h0 hwf hrng hfm htw hdp;go_wp2_with fail;refine(HRD.out w5 L5.out).mono ?_;rintro e w6 ⟨rfl,hb6⟩;have L6:Hid (Below w.heap.size w w6):=hid (L5.out.trans (hb6.mono L5.out.size));have HB6:Hid (Blk w6 w.heap.size 24 #[.slice A is.length c,.int .i64 r]):=hid (HB5.out.below hb6 HB5.out.lt);clear hb6 q0 q1 HRD HB5;obtain⟨q0,q1⟩:=cells2 HB6.out;have e1:((is.length:Int) != (is.length:Int))=false:=by simp
   have e2:(d1 != d1)=false:=by simp
   have e3:(d2 != d2)=false:=by simp
   have HDE:Hid ((depth (is.map Gr.Ni.nd) r).1=d1/\(depth (is.map Gr.Ni.nd) r).2=d2):=hid ⟨by rw[<-HPP.out,HP1.out],by rw[<-HPP.out,HP2.out]⟩;have HC0:Hid (checkI sclX is (r:Int)=0):=hid (by rw[HCQ.out,H0.out]);have HK1:Hid (∀x∈is,x.text.length<=1000/\x.keys.length<=1000/\x.items.length<=1000):=hid (fun x hx=>by have:=HKS.out x hx;omega);have hd132:=HDP.out;have hd1m:=HD0.out;go_upto_region 10 with fail;obtain⟨wa,hwa⟩:=ex (w6.alloc (.cells #[.slice A is.length c,.int .i64 r] 24))
   have la:Below w6.heap.size w6 wa:=by rw[<-hwa];exact(Below.refl _ _).alloc (Nat.le_refl _) _
   have LA:Hid (Below w.heap.size w wa):=hid (L6.out.trans (la.mono L6.out.size));have HLS:=hid (zr6 A c r vs is (by omega) HK1.out HC0.out wa (HT.out wa LA.out) (HI.out wa LA.out) (some ⟨w6.heap.size,0,none⟩) 1 (by rw[<-hwa];exact row1 (x:=⟨A,c,r,vs,is⟩)) d1 HDE.out.1);clear la;go_wp2_with fail;refine HLS.out.mono ?_;rintro e w7 ⟨hb7,h32,hn32⟩;have L7:Hid (Below w.heap.size w w7):=hid (LA.out.trans (hb7.mono LA.out.size));clear hb7 hwa HLS q0 q1;by_cases hd:d1=32
   ·obtain rfl:=h32 hd;have hdb:(d1==32)=true:=by rw[hd];rfl
    have h55:((5:Int)==5)=true:=rfl;clear h32 hn32 hd;unfold gZero;go_upto_region 11 with fail;obtain⟨w8,hw8⟩:=ex (w7.alloc (.cells #[.slice none 0 0,.int .i64 0] 24))
    have L8:Hid (Below w.heap.size w w8):=hid (by rw[<-hw8];exact L7.out.alloc L7.out.size _);(try rw[hw8]);clear hw8;go_wp2_with fail;refine(HAW.out w8 L8.out).mono ?_;rintro e w9 ⟨rfl,hb9⟩;have L9:Hid (Below w.heap.size w w9):=hid (L8.out.trans (hb9.mono L8.out.size));clear hb9;go_wp2;go_ret;exact⟨rfl,L9.out⟩
   ·obtain⟨A2,c2,vs2,rfl,hG⟩:=hn32 hd;have hdb:(d1==32)=false:=by simpa using hd
    have HG2:=hid hG;have HOK:Hid (checkI sclX is (r:Int)=0->∀W,UT W->GAt W W.heap.size A2 vs2 (Gr.over 9 [] (is.map Gr.Ni.nd) r)->ChkOk W (.agg #[.slice A2 (is.length+1) c2,.int .i64 0]) 0/\DepOk W (.agg #[.slice A2 (is.length+1) c2,.int .i64 0]) (d1+1,d2)):=hid (fun hc W hT hG=>by
     obtain⟨_,hk,hp⟩:=zr5 (kind:=9) (text:=[]) (by omega) (by simp) rfl (by omega) HK1.out hc HDE.out.1;have h1:=hk A2 c2 vs2 W hT hG;rw[if_neg hd]at h1;have h2:=hp A2 c2 vs2 W hG;rw[HDE.out.2]at h2;exact⟨h1,h2⟩)
    clear h32 hn32 hd hG;go_upto_region 11 with fail;obtain⟨w8,hw8⟩:=ex (w7.alloc (.cells #[.slice A2 (is.length+1) c2,.int .i64 0] 24))
    obtain⟨g8,hg8⟩:=ex w7.heap.size
    have b8:Blk w8 g8 24 #[.slice A2 (is.length+1) c2,.int .i64 0]:=by rw[<-hw8,<-hg8];exact Blk.new _ _ _
    have l8:Below w7.heap.size w7 w8:=by rw[<-hw8];exact(Below.refl _ _).alloc (Nat.le_refl _) _
    have L8:Hid (Below w.heap.size w w8):=hid (L7.out.trans (l8.mono L7.out.size));have HG8:Hid (GAt w8 w8.heap.size A2 vs2 (Gr.over 9 [] (is.map Gr.Ni.nd) r)):=hid ((HG2.out.below l8).more l8.size);obtain⟨q0,q1⟩:=cells2 b8;have HO:=hid (HOK.out HC0.out w8 (HT.out w8 L8.out) HG8.out);have HD8:Hid (Calls prog 22 #[.agg #[.slice A2 (is.length+1) c2,.int .i64 0]] w8 fun e w'=>e=.returned (.tuple #[.int .i64 (d1+1),.bool d2])/\Below w8.heap.size w8 w'):=hid (by
     have:=zfs A2 (is.length+1) c2 0 0 (d1+1,d2) w8 HO.out.1 (fun _=>HO.out.2);exact this)
    (try rw[hw8]);(try rw[hg8]);clear hw8 hg8 b8 l8 HG2;go_wp2_with fail;refine HD8.out.mono ?_;rintro e w9 ⟨rfl,hb9⟩;have L9:Hid (Below w.heap.size w w9):=hid (L8.out.trans (hb9.mono L8.out.size));have h11:(d1+1==d1+1)=true:=beq_self_eq_true _;clear hb9 q0 q1;go_wp2_with fail;refine(HAW.out w9 L9.out).mono ?_;rintro e w10 ⟨rfl,hb10⟩;have L10:Hid (Below w.heap.size w w10):=hid (L9.out.trans (hb10.mono L9.out.size));clear hb10;go_wp2;go_ret;exact⟨rfl,L10.out⟩
  ·have hckb:((ck:Int) != 0)=true:=by rw[bne_iff_ne];omega
   have hsz:sz=0:=by rw[<-HSQ.out,if_neg h0]
   have hd1:d1=0:=by rw[<-HDQ1.out,if_neg h0]
   have hd2:d2=false:=by rw[<-HDQ2.out,if_neg h0]
   subst hsz;subst hd1;subst hd2;have hz0:((0:Int)==0)=true:=rfl;clear h0;go_wp2_with fail;refine(HAW.out w5 L5.out).mono ?_;rintro e w6 ⟨rfl,hb6⟩;have L6:Hid (Below w.heap.size w w6):=hid (L5.out.trans (hb6.mono L5.out.size));clear hb6;go_wp2;go_ret;exact⟨rfl,L6.out⟩
end Go.Proofs.YtoigpackhninoaaGreatDoor
