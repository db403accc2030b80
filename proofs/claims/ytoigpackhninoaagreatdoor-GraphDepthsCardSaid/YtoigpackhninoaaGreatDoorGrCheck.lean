import Derived.Test.YtoigpackhninoaaGreatDoorZ08
namespace Go.Proofs.YtoigpackhninoaaGreatDoor
open Gr
open _root_.Go.Proofs.Tryz
open Lib (hid)
set_option maxRecDepth 100000
set_option maxHeartbeats 16000000
open Go.RowKit
def NH (ns:List Gr.Nd):Prop:=∀n∈ns,n.keys.length<=1073741823/\n.items.length<=1073741823/\n.text.length<=1073741823
theorem zmk (ns:List Gr.Nd) (h:NH ns):(Gr.refs ns).length<=ns.length*2147483646:=by
 induction ns with
 |nil=>simp[Gr.refs]
 |cons x l ih=>
  have h1:=ih (fun n hn=>h n (.tail _ hn));obtain⟨h2,h3,_⟩:=h x (.head _);have e:Gr.refs (x::l)=(x.keys++x.items)++Gr.refs l:=rfl;rw[e,List.length_append,List.length_append,List.length_cons,Nat.add_mul];omega
def dN:Gr.Nd:=⟨0,[],false,[],[]⟩
theorem zo3 {ns:List Gr.Nd} {i:Nat} (h:i<ns.length):ns.getD i ⟨0,[],false,[],[]⟩=ns[i]:=by
 rw[List.getD_eq_getElem?_getD,List.getElem?_eq_getElem h];rfl
theorem zfv (k:Nat) (f:Nat->Bool):(List.range (k+1)).all f=((List.range k).all f && f k):=by
 rw[List.range_succ,List.all_append];simp
theorem zfw (k:Nat) (f:Nat->Bool):(List.range (k+1)).any f=((List.range k).any f || f k):=by
 rw[List.range_succ,List.any_append];simp
def ScalsOk (T:World->Prop) (sclr:Int->Gr.Str->Bool) (ns:List Gr.Nd):Prop:=∀x∈ns,x.kind≠9->x.kind≠10->x.kind≠11->x.ord=false->x.keys=[]->x.items=[]->ScalOk T x.kind x.text (sclr x.kind x.text)
section
variable (sclr:Int->Gr.Str->Bool) (ns:List Gr.Nd) (root:Nat)
def ok1 (i:Nat):Bool:=(marks ns root).getD i false && formB sclr (ns.getD i ⟨0,[],false,[],[]⟩)
def bad2 (i:Nat):Bool:=(inKeys ns).getD i false && (counts ns root).getD i 0 != 1
theorem zo4:checkN sclr ns root=if(List.range ns.length).all (ok1 sclr ns root)=false then 3 else if(List.range ns.length).any (bad2 ns root)=true then 3 else if twice ns ns.length=true then 8 else if(depth ns root).1>32 then 5 else 0:=by
 unfold checkN;have e1:(List.range ns.length).all (ok1 sclr ns root)=(List.range ns.length).all (fun i=>(marks ns root).getD i false && formB sclr (ns.getD i ⟨0,[],false,[],[]⟩)):=rfl;have e2:(List.range ns.length).any (bad2 ns root)=(List.range ns.length).any (fun i=>(inKeys ns).getD i false && (counts ns root).getD i 0 != 1):=rfl;rw[e1,e2];cases(List.range ns.length).all (fun i=>(marks ns root).getD i false && formB sclr (ns.getD i ⟨0,[],false,[],[]⟩))<;>simp
end
theorem zyk {sclr:Int->Gr.Str->Bool} {ns:List Gr.Nd} {root:Nat} (h:(List.range ns.length).all (ok1 sclr ns root)=true):Gr.KF ns/\(∀i,i<ns.length->mkd (marks ns root) i=true):=by
 rw[List.all_eq_true]at h;refine⟨fun n hn hk=>?_,fun i hi=>?_⟩
 ·obtain⟨i,hi,rfl⟩:=List.getElem_of_mem hn;have h1:=h i (List.mem_range.2 hi);unfold ok1 at h1;rw[zo3 hi,Bool.and_eq_true]at h1;have h2:=h1.2;unfold formB at h2;rw[hk]at h2;simp at h2;exact h2.2
 ·have h1:=h i (List.mem_range.2 hi);unfold ok1 at h1;rw[Bool.and_eq_true]at h1;exact h1.1
theorem zml (T:World->Prop) (hT:Stays T) (sclr:Int->Gr.Str->Bool) (A:Option Addr) (c root:Nat) (vs:List NV) (is:List Gr.Ni) (ns:List Gr.Nd) (hns:is.map Gr.Ni.nd=ns) (hn0:0<ns.length) (hn:ns.length<=4096) (hks:NH ns) (hin:indB is (root:Int)=true)
 (hsc:ScalsOk T sclr ns) (w:World) (hTw:T w) (h:IAt w w.heap.size A vs is):
 Calls prog 14 #[.agg #[.slice A ns.length c,.int .i64 root]] w fun e w'=>e=.returned (.int .i64 (checkN sclr ns root:Nat))/\Below w.heap.size w w':=by
 have hlen:is.length=ns.length:=by rw[<-hns];simp
 have hii:=hin;unfold indB at hin;rw[Bool.and_eq_true]at hin;have hroot:root<ns.length:=by
  have:=hin.1;unfold inR at this;simp at this;omega
 obtain⟨h0,hr⟩:=za8 hin.2;rw[hns]at hr;have hG:GAt w w.heap.size A vs ns:=by rw[<-hns];exact h.toG h0
 have hks2:∀n∈ns,n.keys.length<=1073741823/\n.items.length<=1073741823:=fun n hn=>⟨(hks n hn).1,(hks n hn).2.1⟩
 have hl:ns.length<=1073741823:=by omega
 have HIND:Hid (∀W,Below w.heap.size w W->Calls prog 33 #[.agg #[.slice A ns.length c,.int .i64 (root:Int)]] W fun e w'=>e=.returned (.bool true)/\Below W.heap.size W w'):=hid (fun W hW=>by
  have:=ze6 A c (root:Int) vs is (by omega) (fun n hnm=>by
   have:=hks n.nd (by rw[<-hns];exact List.mem_map_of_mem hnm);simp only[Gr.Ni.nd,List.length_map]at this;exact⟨this.1,this.2.1⟩) W ((h.below hW).more hW.size)
  rw[hlen,hii]at this;exact this)
 have HG:=hid hG;have hmk:=fun W=>zb1 ns.length (by omega) W
 have HTW:=hid hTw;have hnI:(ns.length:Int)<=4096:=by omega
 have hn0I:(0:Int)<(ns.length:Int):=by omega
 have hn0b:((ns.length:Int)==0)=false:=by rw[beq_eq_false_iff_ne];omega
 have HSC:=hid hsc;have HCE:=hid (zo4 sclr ns root);clear hns hin hii h0 hG hTw h hsc hlen;go_enter func14,ntmps14;go_upto_region 1 with fail;obtain⟨w1,hw1⟩:=ex (w.alloc (.cells #[.slice A ns.length c,.int .i64 root] 24))
 (try rw[hw1]);have l1:Below w.heap.size w w1:=by rw[<-hw1];exact(Below.refl _ _).alloc (Nat.le_refl _) _
 have b1:Blk w1 w.heap.size 24 #[.slice A ns.length c,.int .i64 root]:=by rw[<-hw1];exact Blk.new _ _ _
 obtain⟨gb,hgb⟩:=ex w.heap.size
 have HGB:=hid hgb;have L1:=hid l1;(try rw[hgb]);rw[hgb]at b1;have HB1:=hid b1;have HS:Hid (∀W,Below w1.heap.size w1 W->W.cell? ⟨gb,0,none⟩=some (.slice A ns.length c)/\W.cell? ⟨gb,1,none⟩=some (.int .i64 (root:Int))):=hid (fun W hW=>⟨(b1.below hW b1.lt).cell 0,(b1.below hW b1.lt).cell 1⟩);have HGL:Hid (gb<w1.heap.size):=hid b1.lt;have HGW:Hid (∀W,Below w1.heap.size w1 W->GAt W W.heap.size A vs ns):=hid (fun W hW=>(HG.out.below (l1.trans (hW.mono l1.size))).more (l1.trans (hW.mono l1.size)).size);have HBW:Hid (∀W,Below w1.heap.size w1 W->Below w.heap.size w W):=hid (fun W hW=>l1.trans (hW.mono l1.size));have hI1:=HIND.out w1 l1;have HI1:=hid hI1;obtain⟨g0,g1⟩:=HS.out w1 (Below.refl _ _);clear hw1 hgb l1 b1 hI1;go_wp2_with fail;refine HI1.out.mono ?_;rintro e w2 ⟨rfl,hb2⟩;obtain⟨p0,p1⟩:=HS.out w2 hb2;have HB2:=hid hb2;clear g0 g1 hb2;go_upto_region 6 with fail;obtain⟨w3,hw3⟩:=ex (w2.alloc (.cells (bcells (List.replicate ns.length false)) 4))
 obtain⟨mb,hmb⟩:=ex w2.heap.size
 have l3:Below w1.heap.size w1 w3:=by rw[<-hw3];exact HB2.out.alloc HB2.out.size _
 have b3:Blk w3 mb 4 (bcells (List.replicate ns.length false)):=by rw[<-hw3,<-hmb];exact Blk.new _ _ _
 have hmbl:w1.heap.size<=mb:=by rw[<-hmb];exact HB2.out.size
 have HR:=hid (ze0 mb A c (root:Int) vs ns w.heap.size hr hl hks2 (List.replicate ns.length false) root w3 (HG.out.below (HBW.out w3 l3)) (by have:=L1.out.size;omega) b3 (by simp) hroot (zdu _));have HB3:=hid b3;have L3:=hid l3;have HMB:=hid hmbl;rw[hw3];(try rw[hmb]);obtain⟨q0,q1⟩:=HS.out w3 l3;clear hw3 hmb l3 b3 p0 p1 hmbl;go_wp2_with fail;refine HR.out.mono ?_;rintro e w4 ⟨rfl,hk4,hb4⟩;have hl4:Below w1.heap.size w1 w4:=L3.out.trans (KB.below (g:=mb) hk4 HMB.out L3.out.size);have HB4:Hid (Blk w4 mb 4 (bcells (marks ns root))):=hid hb4;have HML:Hid ((marks ns root).length=ns.length):=hid (zbq hr.succ ns.length (List.replicate ns.length false) root (by simp) hroot (zdu _)).len;have L4:=hid hl4;obtain⟨p0,p1⟩:=HS.out w4 hl4;clear hk4 hb4 hl4 q0 q1;go_upto_region 8 with fail;clear p0 p1;go_loopw [36] (fun s36 wr=>∃i:Nat,i<=ns.length/\s36=.int .i64 i/\Hid (Below w1.heap.size w1 wr/\Below w4.heap.size w4 wr/\(List.range i).all (ok1 sclr ns root)=true)) (fun s36 _=>ns.length-(intOf s36).toNat)
 case atStart=>exact⟨0,by omega,rfl,hid ⟨L4.out,Below.refl _ _,by simp⟩⟩
 case round=>
  obtain⟨i,hi,rfl,HW⟩:=hrel;obtain⟨wq,hwq⟩:∃wq,wq=wr:=⟨_,rfl⟩
  subst hwq;by_cases hlt:i<ns.length
  ·have hltI:(i:Int)<(ns.length:Int):=by omega
   obtain⟨ad,ks,is,rfl,hN⟩:=(HGW.out wq HW.out.1).node hlt;obtain⟨ka,kn,kc⟩:=ks;obtain⟨ia,inn,ic⟩:=is;have hnm:ns[i]∈ns:=List.getElem_mem hlt;obtain⟨hkl,hil,htl⟩:=hks _ hnm;have HSCI:=hid (HSC.out _ hnm);have HOK:Hid (ok1 sclr ns root i=((marks ns root).getD i false && formB sclr ns[i])):=hid (by unfold ok1;rw[zo3 hlt]);obtain⟨n,hn⟩:=ex (ns[i])
   rw[hn]at hN hkl hil htl HSCI HOK;obtain rfl:kn=n.keys.length:=hN.kn;obtain rfl:inn=n.items.length:=hN.inn;have x0:=hN.c0;have x1:=hN.c1;have x2:=hN.c2;have x3:=hN.c3;have x4:=hN.c4;obtain⟨mk,hmk2⟩:=ex ((marks ns root).getD i false)
   have hbq:Blk wq mb 4 (bcells (marks ns root)):=HB4.out.below HW.out.2.1 HB4.out.lt;have m0:wq.cell? ⟨mb,i,none⟩=some (.bool mk):=by rw[hbq.cell,zah (by rw[HML.out];exact hlt),hmk2]
   have HNX:Hid ((List.range (i+1)).all (ok1 sclr ns root)=(mk && formB sclr n)):=hid (by rw[zfv,HW.out.2.2,HOK.out,hmk2];rfl);have HNO:Hid ((mk && formB sclr n)=false->checkN sclr ns root=3):=hid (fun e=>by
    rw[HCE.out,if_pos];rw[List.all_eq_false];exact⟨i,List.mem_range.2 hlt,by rw[HOK.out,hmk2,e];simp⟩)
   have hl5:Below wq.heap.size wq (wq.alloc (.cells #[.int .i64 n.kind,.string ⟨n.text.toArray⟩,.bool n.ord,.slice ka n.keys.length kc,.slice ia n.items.length ic] 35)):=(Below.refl _ _).alloc (Nat.le_refl _) _;have HF:=hid (zsf T hT sclr n.kind n.text n.ord n.keys n.items ka ia kc ic htl hkl hil (fun a1 a2 a3 a4 a5 a6=>HSCI.out a1 a2 a3 a4 a5 a6) _ (hT _ _ HTW.out ((HBW.out wq HW.out.1).trans (hl5.mono (HBW.out wq HW.out.1).size))));have m1:(wq.alloc (.cells #[.int .i64 n.kind,.string ⟨n.text.toArray⟩,.bool n.ord,.slice ka n.keys.length kc,.slice ia n.items.length ic] 35)).cell? ⟨mb,i,none⟩=some (.bool mk):=(hl5.cell (p:=⟨mb,i,none⟩) hbq.lt).trans m0;obtain⟨fb,hfb⟩:=ex (formB sclr n)
   rw[hfb]at HNX HNO;have hfe:formB sclr ⟨n.kind,n.text,n.ord,n.keys,n.items⟩=fb:=hfb;rw[hfe]at HF;have HB5:Hid (Below w1.heap.size w1 (wq.alloc (.cells #[.int .i64 n.kind,.string ⟨n.text.toArray⟩,.bool n.ord,.slice ka n.keys.length kc,.slice ia n.items.length ic] 35))/\Below w4.heap.size w4 (wq.alloc (.cells #[.int .i64 n.kind,.string ⟨n.text.toArray⟩,.bool n.ord,.slice ka n.keys.length kc,.slice ia n.items.length ic] 35))):=hid ⟨HW.out.1.trans (hl5.mono HW.out.1.size),HW.out.2.1.trans (hl5.mono HW.out.2.1.size)⟩;clear hN hnm hn hbq hmk2 hfb hfe hl5;cases mk with
   |false=>
    go_wp2;go_ret;rw[HNO.out rfl];exact⟨rfl,HBW.out _ HB5.out.1⟩
   |true=>
    clear m0;go_wp2_with fail;refine HF.out.mono ?_;rintro e w6 ⟨rfl,hb6⟩;have HB6:Hid (Below w1.heap.size w1 w6/\Below w4.heap.size w4 w6):=hid ⟨HB5.out.1.trans (hb6.mono HB5.out.1.size),HB5.out.2.trans (hb6.mono HB5.out.2.size)⟩;clear hb6;cases fb with
    |false=>
     go_wp2;go_ret;rw[HNO.out rfl];exact⟨rfl,HBW.out _ HB6.out.1⟩
    |true=>
     go_wp2;go_roundw
     case rel=>exact⟨i+1,by omega,by go_num,hid ⟨HB6.out.1,HB6.out.2,by rw[HNX.out];rfl⟩⟩
     case measure=>simp[intOf];omega
  ·have hltI:¬(i:Int)<(ns.length:Int):=by omega
   have hall1:(List.range ns.length).all (ok1 sclr ns root)=true:=by
    have:=HW.out.2.2;rwa[show i=ns.length from by omega]at this
   obtain⟨hkf,hmarks⟩:=zyk hall1;have hreach:∀v,v<ns.length->Gr.Reach (Gr.succ ns) root v:=fun v hv=>(za2 hr hroot v).1 (hmarks v hv)
   have HKF:=hid hkf;have HREACH:=hid hreach;have HA1:=hid hall1;have HC:=hid (zl9 A c root vs ns hr hl hks2 (by have:=zmk ns hks;omega) wq (HGW.out wq HW.out.1) hroot);obtain⟨p0,p1⟩:=HS.out wq HW.out.1;clear hkf hmarks hreach hall1;go_upto_region 13 with fail;go_wp2_with fail;refine HC.out.mono ?_;rintro e w7 ⟨cb,rfl,hcb,hb7,hcc⟩;have HB7:Hid (Below w1.heap.size w1 w7):=hid (HW.out.1.trans (hb7.mono HW.out.1.size));have HCC:=hid hcc;have HK:=hid (zma A c (root:Int) vs ns hr hl hks2 w7 (HGW.out w7 HB7.out));obtain⟨q0,q1⟩:=HS.out w7 HB7.out;clear hcb hb7 hcc p0 p1;go_wp2_with fail;refine HK.out.mono ?_;rintro e w8 ⟨kb,rfl,hkb,hb8,hkk⟩;have HB8:Hid (Below w1.heap.size w1 w8):=hid (HB7.out.trans (hb8.mono HB7.out.size));have HCC8:=hid (HCC.out.below hb8 HCC.out.lt);have HKK:=hid hkk;have HLN:Hid ((inKeys ns).length=ns.length/\(counts ns root).length=ns.length):=hid ⟨ze1 hr _ _ (zji hr) (by simp),by unfold counts;rw[zb2,zch];simp⟩;clear hkb hb8 hkk q0 q1;go_upto_region 15 with fail;go_loop [57] (fun s57=>∃k:Nat,k<=ns.length/\s57=.int .i64 k/\Hid ((List.range k).any (bad2 ns root)=false)) (fun s57=>ns.length-(intOf s57).toNat)
   case atStart=>exact⟨0,by omega,rfl,hid (by simp)⟩
   case round=>
    obtain⟨k,hk,rfl,HV⟩:=hrel;by_cases hkl:k<ns.length
    ·have hklI:(k:Int)<(ns.length:Int):=by omega
     obtain⟨ik,hik⟩:=ex ((inKeys ns).getD k false)
     obtain⟨cv,hcv⟩:=ex ((counts ns root).getD k 0)
     have z0:w8.cell? ⟨kb,k,none⟩=some (.bool ik):=by rw[HKK.out.cell,zah (by rw[HLN.out.1];exact hkl),hik]
     have z1:w8.cell? ⟨cb,k,none⟩=some (.int .i64 (cv:Int)):=by rw[HCC8.out.cell,zad (by rw[HLN.out.2];exact hkl),hcv]
     have HBD:Hid (bad2 ns root k=(ik && cv != 1)):=hid (by unfold bad2;rw[hik,hcv]);have HNX:Hid ((List.range (k+1)).any (bad2 ns root)=(ik && cv != 1)):=hid (by rw[zfw,HV.out,HBD.out];rfl);have HNO:Hid ((ik && cv != 1)=true->checkN sclr ns root=3):=hid (fun e=>by
      rw[HCE.out,if_neg (by rw[HA1.out];simp),if_pos];exact List.any_eq_true.2 ⟨k,List.mem_range.2 hkl,by rw[HBD.out,e]⟩)
     clear hik hcv;cases ik with
     |false=>
      clear z1;go_wp2;go_round
      case rel=>exact⟨k+1,by omega,by go_num,hid (by rw[HNX.out];rfl)⟩
      case measure=>simp[intOf];omega
     |true=>
      by_cases hc1:cv=1
      ·subst hc1;go_wp2;go_round
       case rel=>exact⟨k+1,by omega,by go_num,hid (by rw[HNX.out];rfl)⟩
       case measure=>simp[intOf];omega
      ·have hc1I:¬((cv:Int)=1):=by omega
       have hc1b:((cv:Int)==1)=false:=by rw[beq_eq_false_iff_ne];exact hc1I
       have HNO2:Hid (checkN sclr ns root=3):=hid (HNO.out (by simpa using hc1));go_wp2;go_ret;rw[HNO2.out];exact⟨rfl,HBW.out _ HB8.out⟩
    ·have hklI:¬(k:Int)<(ns.length:Int):=by omega
     have hbad:(List.range ns.length).any (bad2 ns root)=false:=by
      have:=HV.out;rwa[show k=ns.length from by omega]at this
     have hone:∀x,x<ns.length->mkd (inKeys ns) x=true->(counts ns root).getD x 0=1:=fun x hx hm=>by
      have:=(List.any_eq_false.1 hbad) x (List.mem_range.2 hx);unfold bad2 at this;unfold mkd at hm;rw[hm]at this;simpa using this
     have htall:=ze8 hr hroot HREACH.out hone;have HTW2:=hid (zo1 ns.length A c (root:Int) vs ns hr hl hks2 (fun x hx y hy W hW=>zsm A c (root:Int) vs ns hr HKF.out hl hks ns.length x y W (htall x hx).1 (htall y hy).1 (htall x hx).2 hW) w8 (HGW.out w8 HB8.out));have HBAD:=hid hbad;obtain⟨p0,p1⟩:=HS.out w8 HB8.out;obtain⟨tw,htw⟩:=ex (twice ns ns.length)
     rw[htw]at HTW2;have HTWE:=hid htw;clear hbad hone htall htw;go_wp2_with fail;refine HTW2.out.mono ?_;rintro e w9 ⟨rfl,hb9⟩;have HB9:Hid (Below w1.heap.size w1 w9):=hid (HB8.out.trans (hb9.mono HB8.out.size));clear hb9;cases tw with
     |true=>
      have HNO:Hid (checkN sclr ns root=8):=hid (by rw[HCE.out,if_neg (by rw[HA1.out];simp),if_neg (by rw[HBAD.out];simp),if_pos HTWE.out]);go_wp2;go_ret;rw[HNO.out];exact⟨rfl,HBW.out _ HB9.out⟩
     |false=>
      have HCE2:Hid (checkN sclr ns root=if(depth ns root).1>32 then 5 else 0):=hid (by rw[HCE.out,if_neg (by rw[HA1.out];simp),if_neg (by rw[HBAD.out];simp),if_neg (by rw[HTWE.out];simp)]);have HD:=hid (zdl A c root vs ns hr hl hks2 hroot HREACH.out w9 (HGW.out w9 HB9.out));obtain⟨q0,q1⟩:=HS.out w9 HB9.out;obtain⟨dv,hdv⟩:=ex ((depth ns root).1)
      obtain⟨da,hda⟩:=ex ((depth ns root).2)
      rw[hdv]at HCE2;rw[hdv,hda]at HD;clear hdv hda p0 p1;go_wp2_with fail;refine HD.out.mono ?_;rintro e w10 ⟨rfl,hb10⟩;have HB10:Hid (Below w1.heap.size w1 w10):=hid (HB9.out.trans (hb10.mono HB9.out.size));clear hb10;by_cases hd:dv>32
      ·have HNO:Hid (checkN sclr ns root=5):=hid (by rw[HCE2.out,if_pos hd]);go_wp2;go_ret;rw[HNO.out];exact⟨rfl,HBW.out _ HB10.out⟩
      ·have HNO:Hid (checkN sclr ns root=0):=hid (by rw[HCE2.out,if_neg hd]);go_wp2;go_ret;rw[HNO.out];exact⟨rfl,HBW.out _ HB10.out⟩
def checkI (sclr:Int->Gr.Str->Bool) (is:List Gr.Ni) (root:Int):Nat:=
 if is.length>4096 then 7 else if is.length=0\/indB is root=false then 3 else checkN sclr (is.map Gr.Ni.nd) root.toNat
theorem zfa (T:World->Prop) (hT:Stays T) (sclr:Int->Gr.Str->Bool) (A:Option Addr) (c:Nat) (root:Int) (vs:List NV) (is:List Gr.Ni) (hks:NH (is.map Gr.Ni.nd)) (hsc:ScalsOk T sclr (is.map Gr.Ni.nd)) (hl:is.length<=1073741823) (w:World) (hTw:T w) (h:IAt w w.heap.size A vs is):
 Calls prog 14 #[.agg #[.slice A is.length c,.int .i64 root]] w fun e w'=>e=.returned (.int .i64 (checkI sclr is root:Nat))/\Below w.heap.size w w':=by
 by_cases h1:is.length>4096
 ·have HE:Hid (checkI sclr is root=7):=hid (by unfold checkI;rw[if_pos h1]);have h1I:(4096:Int)<(is.length:Int):=by omega
  clear hsc hks hTw h;go_enter func14,ntmps14;go_wp2;go_ret;rw[HE.out];exact⟨rfl,(Below.refl _ _).alloc (Nat.le_refl _) _⟩
 ·have h1I:¬(4096:Int)<(is.length:Int):=by omega
  by_cases h2:is.length=0
  ·have HE:Hid (checkI sclr is root=3):=hid (by unfold checkI;rw[if_neg h1,if_pos (.inl h2)]);obtain rfl:=List.eq_nil_of_length_eq_zero h2;clear hsc hks hTw h h1 h1I h2;go_enter func14,ntmps14;go_wp2;go_ret;rw[HE.out];exact⟨rfl,(Below.refl _ _).alloc (Nat.le_refl _) _⟩
  ·have h2b:((is.length:Int)==0)=false:=by rw[beq_eq_false_iff_ne];omega
   cases hin:indB is root with
   |false=>
    have HE:Hid (checkI sclr is root=3):=hid (by unfold checkI;rw[if_neg h1,if_pos (.inr hin)]);obtain⟨w1,hw1⟩:=ex (w.alloc (.cells #[.slice A is.length c,.int .i64 root] 24))
    have l1:Below w.heap.size w w1:=by rw[<-hw1];exact(Below.refl _ _).alloc (Nat.le_refl _) _
    have hc:=ze6 A c root vs is hl (fun n hn=>by
     have:=hks n.nd (List.mem_map_of_mem hn);simp only[Gr.Ni.nd,List.length_map]at this;exact⟨this.1,this.2.1⟩) w1 ((h.below l1).more l1.size)
    rw[hin]at hc;have HC:=hid hc;have L1:=hid l1;clear hsc hks hTw h hin hc l1;go_enter func14,ntmps14;go_upto_region 1 with fail;have b1:Blk w1 w.heap.size 24 #[.slice A is.length c,.int .i64 root]:=by rw[<-hw1];exact Blk.new _ _ _
    obtain⟨g0,g1⟩:=cells2 b1;(try rw[hw1]);clear hw1 b1;go_wp2_with fail;refine HC.out.mono ?_;rintro e w2 ⟨rfl,hb2⟩;have HB2:=hid (L1.out.trans (hb2.mono L1.out.size));clear hb2;go_wp2;go_ret;rw[HE.out];exact⟨rfl,HB2.out⟩
   |true=>
    have hin2:=hin;unfold indB at hin2;rw[Bool.and_eq_true]at hin2;have hr0:0<=root:=by have:=hin2.1;unfold inR at this;simp at this;exact this.1
    obtain⟨r,rfl⟩:∃r:Nat,root=(r:Int):=⟨root.toNat,by omega⟩
    have:=zml T hT sclr A c r vs is (is.map Gr.Ni.nd) rfl (by simp;omega) (by simp;omega) hks hin hsc w hTw h;rw[List.length_map]at this;have e:checkI sclr is (r:Int)=checkN sclr (is.map Gr.Ni.nd) r:=by
     unfold checkI;rw[if_neg h1,if_neg (by rw[hin];simp[h2]),Int.toNat_natCast]
    rw[e];exact this
end Go.Proofs.YtoigpackhninoaaGreatDoor
