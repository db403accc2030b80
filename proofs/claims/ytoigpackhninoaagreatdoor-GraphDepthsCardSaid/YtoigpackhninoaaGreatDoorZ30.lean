import Derived.Test.YtoigpackhninoaaGreatDoorZ29
import Derived.Test.YtoigpackhninoaaGreatDoorZ27
namespace Go.Proofs.YtoigpackhninoaaGreatDoor
open Gr
open _root_.Go.Proofs.Tryz
open _root_.Go.Lib (hid)
set_option maxRecDepth 100000
set_option maxHeartbeats 16000000
open Go.RowKit
structure TM (w wr:World) (gc:Array Value) (v:Value) (L:List Gr.Str):Prop where
 below:Below w.heap.size w wr
 gbox:Blk wr w.heap.size 24 gc
 own:OwnRow strL wr (w.heap.size+1) 9 v L
 hd:w.heap.size+1<=wr.heap.size
section
variable {w wr w2:World} {gc:Array Value} {v v':Value} {L L':List Gr.Str}
theorem TM.later (h:TM w wr gc v L) (hb:Below wr.heap.size wr w2):TM w w2 gc v L:=
 ⟨h.below.trans (hb.mono h.below.size),h.gbox.below hb h.gbox.lt,h.own.later hb,Nat.le_trans h.hd hb.size⟩
theorem TM.alloc (h:TM w wr gc v L) (o:Obj):TM w (wr.alloc o) gc v L:=h.later ((Below.refl _ _).alloc (Nat.le_refl _) _)
theorem TM.grown (h:TM w wr gc v L) (ho:OwnRow strL w2 (w.heap.size+1) 9 v' L') (hg:wr.grownBy w2 v.ownBlock):TM w w2 gc v' L':=
 ⟨h.below.trans ((h.own.grown_below hg h.hd).mono (by omega)),zbg h.gbox h.own hg (by omega),ho,Nat.le_trans h.hd (h.own.grown_below hg h.hd).size⟩
theorem TM.none (h:TM w wr gc v L):TM w wr gc (.slice none 0 0) []:=⟨h.below,h.gbox,OwnRow.nil,h.hd⟩
end
theorem zno (A:Option Addr) (c:Nat) (root:Int) (vs:List NV) (ns:List Gr.Nd) (P:Nat->Prop) (F b:Nat) (hok:PrOk ns P F b) (hnl:ns.length<=1000) (hks:∀n∈ns,∀k∈n.keys,k<ns.length/\P k/\Tall' ns F k) (w:World) (h:GAt w w.heap.size A vs ns):
 Calls prog 41 #[.agg #[.slice A ns.length c,.int .i64 root]] w fun e w'=>e=.returned (.bool (rtwice ns F))/\Below w.heap.size w w':=by
 have H:=hid h;have HPA:=hid (znn A c root vs ns P F b hok hnl);have HOK:=hid hok;obtain⟨gc,hgc⟩:∃gc:Array Value,#[.slice A ns.length c,.int .i64 root]=gc:=⟨_,rfl⟩
 have HGC:Hid (gc[0]? =some (.slice A ns.length c)/\gc[1]? =some (.int .i64 root)):=hid (by rw[<-hgc];exact⟨rfl,rfl⟩);obtain⟨w1,hw1⟩:=ex (w.alloc (.cells #[.slice A ns.length c,.int .i64 root] 24))
 have HT1:Hid (TM w w1 gc (.slice none 0 0) []):=hid (by rw[<-hw1,<-hgc];exact⟨(Below.refl _ _).alloc (Nat.le_refl _) _,Blk.new _ _ _,OwnRow.nil,by simp⟩);clear h hok hgc;go_enter func41,ntmps41;go_upto_region 2 with fail;(try rw[hw1]);clear hw1;go_loopw [3] (fun s3 wr=>∃i:Nat,i<=ns.length/\s3=.int .i64 i/\Hid (TM w wr gc (.slice none 0 0) []/\∀j,j<i->∀(hj:j<ns.length),dupS (ns[j].keys.map (printF ns F))=false)) (fun s3 _=>ns.length-(intOf s3).toNat)
 case atStart=>exact⟨0,by omega,rfl,hid ⟨HT1.out,fun j hj=>by omega⟩⟩
 case round=>
  obtain⟨i,hi,rfl,HI⟩:=hrel;obtain⟨wq,hwq⟩:∃wq,wq=wr:=⟨_,rfl⟩
  subst hwq;have g0:wq.cell? ⟨w.heap.size,0,none⟩=some (.slice A ns.length c):=by rw[HI.out.1.gbox.cell];exact HGC.out.1
  by_cases hlt:i<ns.length
  ·have hltI:(i:Int)<(ns.length:Int):=by omega
   have hnm:ns[i]∈ns:=List.getElem_mem hlt;obtain⟨hkl,hil,htl⟩:=HOK.out.lens _ hnm;have HKS:=hid (hks _ hnm);obtain⟨ad,ks,its,rfl,hN⟩:=H.out.node hlt;obtain⟨ka,kn,kc⟩:=ks;obtain⟨ia,inn,ic⟩:=its;have HDY:=hid (zmr (f:=F) hlt);have HDN:Hid (dupS (ns[i].keys.map (printF ns F))=false->∀j,j<i+1->∀(hj:j<ns.length),dupS (ns[j].keys.map (printF ns F))=false):=hid (fun h j hj hj2=>by
    rcases Nat.lt_or_ge j i with h1|h1
    ·exact HI.out.2 j h1 hj2
    ·obtain rfl:j=i:=by omega
     exact h)
   obtain⟨n,hn⟩:=ex (ns[i])
   rw[hn]at hN hkl hil HKS HDY HDN;obtain rfl:kn=n.keys.length:=hN.kn;have HN3:Hid (∀W,Below w.heap.size w W->W.cell? {block:=(ad.add (i*5)).block,off:=(ad.add (i*5)).off+3}=some (.slice ka n.keys.length kc)):=hid (fun W hW=>(hW.cell (by exact hN.lt)).trans hN.c3);have HRK:Hid (∀W,Below w.heap.size w W->RowAt intL W w.heap.size ka n.keys):=hid (fun W hW=>hN.keys.below hW);have hib:i<=1000:=by omega
   clear hN hn hnm hil htl;go_upto_region 6 with fail;go_loopw [4,5] (fun s4 s5 wr=>∃(k:Nat) (L:List Gr.Str) (AL:Option Addr) (cL:Nat),k<=n.keys.length/\s5=.int .i64 k/\s4=.slice AL L.length cL/\Hid (TM w wr gc (.slice AL L.length cL) L/\L=(n.keys.map (printF ns F)).take k/\((n.keys.map (printF ns F)).take k).Nodup)) (fun _ s5 _=>n.keys.length-(intOf s5).toNat)
   case atStart=>exact⟨0,[],none,0,by omega,rfl,rfl,hid ⟨HI.out.1,by simp,by simp⟩⟩
   case round=>
    obtain⟨k,L,AL,cL,hk,rfl,rfl,HK⟩:=hrel;obtain⟨wk,hwk⟩:∃wk,wk=wr:=⟨_,rfl⟩
    subst hwk;have g0:wk.cell? ⟨w.heap.size,0,none⟩=some (.slice (some ad) ns.length c):=by rw[HK.out.1.gbox.cell];exact HGC.out.1
    have c3:=HN3.out wk HK.out.1.below;have hkb:k<=1000:=by omega
    by_cases hlk:k<n.keys.length
    ·have hlkI:(k:Int)<(n.keys.length:Int):=by omega
     obtain⟨y,hy⟩:=ex (n.keys[k])
     obtain⟨adk,rfl,_,y0⟩:=zae (HRK.out wk HK.out.1.below) hlk;rw[hy]at y0;obtain⟨hyl,hyP,hyT⟩:=HKS.out y (by rw[<-hy];exact List.getElem_mem hlk);obtain⟨t,ht⟩:=ex (printF ns F y)
     have HML:Hid (k<(n.keys.map (printF ns F)).length):=hid (by simpa using hlk);have HMK:Hid (∀h:k<(n.keys.map (printF ns F)).length,(n.keys.map (printF ns F))[k]=t):=hid (fun h=>by rw[List.getElem_map,hy,ht]);have HC8:Hid (∀x:WB wk.heap.size wk,Calls prog 68 #[.agg #[.slice (some ad) ns.length c,.int .i64 root],.int .i64 y] x.w fun e w'=>e=.returned (.string ⟨t.toArray⟩)/\Below wk.heap.size wk w'):=hid (fun x=>by
      have hb:=(HK.out.1.later x.h).below;rw[<-ht];exact(HPA.out F y x.w (Nat.le_refl _) hyl hyP hyT ((H.out.below hb).more hb.size)).mono (fun _ _ ⟨e1,e2⟩=>⟨e1,x.h.trans (e2.mono x.h.size)⟩))
     have q0:∀x:WB wk.heap.size wk,x.w.cell? ⟨w.heap.size,0,none⟩=some (.slice (some ad) ns.length c):=fun x=>by rw[(HK.out.1.later x.h).gbox.cell];exact HGC.out.1
     have q1:∀x:WB wk.heap.size wk,x.w.cell? ⟨w.heap.size,1,none⟩=some (.int .i64 root):=fun x=>by rw[(HK.out.1.later x.h).gbox.cell];exact HGC.out.2
     have q3:∀x:WB wk.heap.size wk,x.w.cell? {block:=(ad.add (i*5)).block,off:=(ad.add (i*5)).off+3}=some (.slice (some adk) n.keys.length kc):=fun x=>HN3.out x.w (HK.out.1.later x.h).below
     have qy:∀x:WB wk.heap.size wk,x.w.cell? (adk.add k)=some (.int .i64 (y:Int)):=fun x=>(x.h.cell (World.block_lt_of_cell? wk _ y0)).trans y0
     clear hy hyl hyP hyT y0 ht;go_upto_region 8 with fail;refine zaa wk.heap.size wk (by kernel_rfl) (by kernel_rfl) (Below.refl _ _) ?_
     repeat (go_big_quiet_step (((first| (with_reducible refine Calls.grow (HC8.out _))))))
     refine wpQuiet_nil ?_;rintro _ ⟨wz8,rfl⟩;obtain⟨w8,hw8⟩:=ex wz8.w
     have HP8:Hid (TM w w8 gc (.slice AL L.length cL) L):=hid (by rw[<-hw8];exact HK.out.1.later wz8.h);(try rw[hw8]);clear hw8 q0 q1 q3 qy g0 c3 HC8;have hLb:L.length<=1000:=by rw[HK.out.2.1,List.length_take];omega
     go_upto_region 10 with fail;go_loop [7] (fun s7=>∃j:Nat,j<=L.length/\s7=.int .i64 j/\Hid (t∉L.take j)) (fun s7=>L.length-(intOf s7).toNat)
     case atStart=>exact⟨0,by omega,rfl,hid (by simp)⟩
     case round=>
      obtain⟨j,hj,rfl,HJ⟩:=hrel;by_cases hlj:j<L.length
      ·have hljI:(j:Int)<(L.length:Int):=by omega
       obtain⟨u,hu⟩:=ex (L[j])
       obtain⟨adl,rfl,_,l0⟩:=zuu (zlt HP8.out.own) hlj;rw[hu]at l0;have hjb:j<=1000:=by omega
       by_cases hut:u=t
       ·have hbb:((⟨u.toArray⟩:ByteArray)==⟨t.toArray⟩)=true:=by rw[zpu];exact decide_eq_true hut
        have hbl:(@BEq.beq (List UInt8) _ u t)=true:=by rw[hut];exact beq_self_eq_true _
        have HF:Hid (rtwice ns F=true):=hid (HDY.out (zvi HML.out (by
         rw[HMK.out,<-hut,<-hu,<-HK.out.2.1];exact List.getElem_mem hlj)))
        clear hu hut;go_wp2;go_ret;exact⟨by rw[HF.out]<;>rfl,HP8.out.below⟩
       ·have hbb:((⟨u.toArray⟩:ByteArray)==⟨t.toArray⟩)=false:=by rw[zpu];exact decide_eq_false hut
        have hbl:(@BEq.beq (List UInt8) _ u t)=false:=by rw[beq_eq_false_iff_ne];exact hut
        have HN:Hid (t∉L.take (j+1)):=hid (by
         rw[List.take_succ_eq_append_getElem hlj,hu];intro hm;rcases List.mem_append.1 hm with h1|h1
         ·exact HJ.out h1
         ·exact hut (List.mem_singleton.1 h1).symm)
        clear hu hut;go_wp2;go_round
        case rel=>exact⟨j+1,by omega,by go_num,HN⟩
        case measure=>simp[intOf];omega
      ·have hljI:¬(j:Int)<(L.length:Int):=by omega
       have HTN:Hid (t∉L):=hid (by have:=HJ.out;rwa[List.take_of_length_le (by omega)]at this);have HSZ:Hid (w.heap.size+1<=w8.heap.size):=hid HP8.out.hd;have HND:Hid (L++[t]=(n.keys.map (printF ns F)).take (k+1)/\((n.keys.map (printF ns F)).take (k+1)).Nodup):=hid ⟨by rw[List.take_succ_eq_append_getElem HML.out,HMK.out,<-HK.out.2.1],zjs HML.out HK.out.2.2 (by rw[HMK.out,<-HK.out.2.1];exact HTN.out)⟩;go_wp2_with (at_builtin;go_must (refine zac _ rfl (.tmp 49) (.tmp 51) 96 9 16 rfl strT (w.heap.size+1) (.slice AL L.length cL) L rfl (HP8.out.own.alloc _) _ _ 1 [t] rfl (RowAt.lit1 _ _ rfl _ ?_) ?_ ?_ ?_))
       any_goals (first|rfl| (have:=HSZ.out;omega)| (have:=HSZ.out;simp;omega)| (rw[World.size_alloc];have:=HSZ.out;omega))
       intro v' w5 hown hg hat;have HP5:Hid (TM w w5 gc v' (L++[t])):=hid ((HP8.out.alloc _).grown hown hg);obtain⟨A5,c5,hv5,_⟩:=hown.form;obtain⟨L5,hL5⟩:=ex (L++[t])
       rw[hL5]at HP5 HND hv5;subst hv5;clear hown hg hat hL5;go_wp2;go_roundw
       case rel=>exact⟨k+1,L5,A5,c5,by omega,by go_num,rfl,hid ⟨HP5.out,HND.out⟩⟩
       case measure=>simp[intOf];omega
    ·have hlkI:¬(k:Int)<(n.keys.length:Int):=by omega
     have HE:Hid (TM w wk gc (.slice none 0 0) []/\∀j,j<i+1->∀(hj:j<ns.length),dupS (ns[j].keys.map (printF ns F))=false):=hid ⟨HK.out.1.none,HDN.out (zxp (k:=k) (by simp;omega) HK.out.2.2)⟩;go_wp2;go_roundw
     case rel=>exact⟨i+1,by omega,by go_num,HE⟩
     case measure=>simp[intOf];omega
  ·have hltI:¬(i:Int)<(ns.length:Int):=by omega
   have HF:Hid (rtwice ns F=false):=hid (zpi (i:=i) (by omega) HI.out.2);have HB:=hid HI.out.1.below;go_wp2;go_ret;exact⟨by rw[HF.out]<;>rfl,HB.out⟩
theorem zgj (A:Option Addr) (c:Nat) (root:Int) (vs:List NV) (is:List Gr.Ni) (hl:is.length<=100) (hks:∀n∈is,n.keys.length<=1000/\n.items.length<=1000/\n.text.length<=1000) (w:World) (h:IAt w w.heap.size A vs is):
 Calls prog 15 #[.agg #[.slice A is.length c,.int .i64 root]] w fun e w'=>e=.returned (.int .i64 (rcheck sclX is root:Nat))/\Below w.heap.size w w':=by
 have H:=hid h;obtain⟨w1,hw1⟩:=ex (w.alloc (.cells #[.slice A is.length c,.int .i64 root] 24))
 have b1:Blk w1 w.heap.size 24 #[.slice A is.length c,.int .i64 root]:=by rw[<-hw1];exact Blk.new _ _ _
 have L1:Hid (Below w.heap.size w w1):=hid (by rw[<-hw1];exact(Below.refl _ _).alloc (Nat.le_refl _) _);obtain⟨g0,g1⟩:=cells2 b1;have HB1:=hid b1;have h4096:¬(4096:Int)<(is.length:Int):=by omega
 have HW:=hid (zrj A c root vs is (by omega) (fun n hn=>by have:=hks n hn;omega) w1 ((h.below L1.out).more L1.out.size));have HE1:Hid (rcheck sclX is root=if rwell sclX is root=false then 3 else if rtwice (is.map Gr.Ni.nd) is.length=true then 8 else if(depth (is.map Gr.Ni.nd) root.toNat).1>32 then 5 else 0):=hid (by unfold rcheck;rw[if_neg (by omega)]);have HWF:=hid (fun hs:rwell sclX is root=true=>zga zb9 hs);obtain⟨wl,hwl⟩:=ex (rwell sclX is root)
 rw[hwl]at HW HE1 HWF;clear h b1 hwl;go_enter func15,ntmps15;go_upto_region 1 with fail;(try rw[hw1]);clear hw1;go_wp2_with fail;refine HW.out.mono ?_;rintro e w2 ⟨rfl,hb2⟩;have HL2:Hid (Below w.heap.size w w2):=hid (L1.out.trans (hb2.mono L1.out.size));have hB2:=HB1.out.below hb2 HB1.out.lt;obtain⟨g0,g1⟩:=cells2 hB2;have HB2:=hid hB2;clear hb2 hB2;cases wl with
 |false=>
  have HR:Hid (rcheck sclX is root=3):=hid (by rw[HE1.out,if_pos rfl]);go_wp2;go_ret;exact⟨by rw[HR.out]<;>rfl,HL2.out⟩
 |true=>
  obtain⟨r,rfl,hwf,hrng⟩:=HWF.out rfl;have HWW:=hid hwf;have HIA:Hid (∀W,Below w.heap.size w W->GAt W W.heap.size A vs (is.map Gr.Ni.nd)):=hid (fun W hW=>((H.out.below hW).more hW.size).toG (za8 hrng).1);have HKB:Hid (∀n∈is.map Gr.Ni.nd,n.keys.length<=1000/\n.items.length<=1000/\n.text.length<=1000):=hid (fun n hn=>by
   obtain⟨x,hx,rfl⟩:=List.mem_map.1 hn;have:=hks x hx;simp only[Gr.Ni.nd,List.length_map];omega)
  have HE2:Hid (rcheck sclX is (r:Int)=if rtwice (is.map Gr.Ni.nd) is.length=true then 8 else if(depth (is.map Gr.Ni.nd) r).1>32 then 5 else 0):=hid (by rw[HE1.out,if_neg (by decide),Int.toNat_natCast]);clear HW HE1 HWF hks hwf hrng;obtain⟨ns,hns⟩:=ex (is.map Gr.Ni.nd)
  have hnl:is.length=ns.length:=by rw[<-hns];simp
  rw[hns]at HWW HIA HKB HE2;obtain⟨m,hm⟩:=ex is.length
  have HTW:Hid (∀W,Below w.heap.size w W->Calls prog 41 #[.agg #[.slice A m c,.int .i64 r]] W fun e w'=>e=.returned (.bool (rtwice ns m))/\Below W.heap.size W w'):=hid (fun W hW=>by
   rw[<-hm,hnl];refine zno A c (r:Int) vs ns (fun u=>mkd (inKeys ns) u=true) ns.length 20000000 ⟨HWW.out.refs,HWW.out.keep,HWW.out.ok,fun n hn=>by have:=HKB.out n hn;omega,fun f i hf hk hi=>HWW.out.plen (by omega) (fun x hx=>by have:=HKB.out x hx;omega) f i hf hi hk,by omega⟩ (by omega) ?_ W (HIA.out W hW);intro n hn k hk;have hka:k∈allKeys ns:=List.mem_flatMap.2 ⟨n,hn,hk⟩;obtain⟨h1,h2⟩:=HWW.out.tall k hka;exact⟨h1,HWW.out.key k hka,h2⟩)
  have HDP:Hid (∀W,Below w.heap.size w W->Calls prog 23 #[.agg #[.slice A m c,.int .i64 r]] W fun e w'=>e=.returned (.tuple #[.int .i64 (depth ns r).1,.bool (depth ns r).2])/\Below W.heap.size W w'):=hid (fun W hW=>by
   rw[<-hm,hnl];exact zgi A c r vs ns HWW.out (by omega) (fun n hn=>by have:=HKB.out n hn;omega) W (HIA.out W hW))
  rw[hm]at g0 HE2 HB2;(try rw[hm]);obtain⟨d,hd⟩:=ex ((depth ns r).1)
  obtain⟨dt,hdt⟩:=ex ((depth ns r).2)
  rw[hd]at HE2;rw[hd,hdt]at HDP;obtain⟨tb,htb⟩:=ex (rtwice ns m)
  rw[htb]at HE2 HTW;clear hns hnl hm hd hdt htb hl h4096;go_wp2_with fail;refine(HTW.out w2 HL2.out).mono ?_;rintro e w3 ⟨rfl,hb3⟩;have HL3:Hid (Below w.heap.size w w3):=hid (HL2.out.trans (hb3.mono HL2.out.size));have hB3:=HB2.out.below hb3 HB2.out.lt;obtain⟨k0,k1⟩:=cells2 hB3;clear hb3 hB3 g0 g1;cases tb with
  |true=>
   have HR:Hid (rcheck sclX is (r:Int)=8):=hid (by rw[HE2.out,if_pos rfl]);go_wp2;go_ret;exact⟨by rw[HR.out]<;>rfl,HL3.out⟩
  |false=>
   go_wp2_with fail;refine(HDP.out w3 HL3.out).mono ?_;rintro e w4 ⟨rfl,hb4⟩;have HL4:Hid (Below w.heap.size w w4):=hid (HL3.out.trans (hb4.mono HL3.out.size));clear hb4 k0 k1;by_cases hd32:32<d
   ·have HR:Hid (rcheck sclX is (r:Int)=5):=hid (by rw[HE2.out,if_neg (by decide),if_pos hd32]);go_wp2;go_ret;exact⟨by rw[HR.out]<;>rfl,HL4.out⟩
   ·have HR:Hid (rcheck sclX is (r:Int)=0):=hid (by rw[HE2.out,if_neg (by decide),if_neg hd32]);go_wp2;go_ret;exact⟨by rw[HR.out]<;>rfl,HL4.out⟩
end Go.Proofs.YtoigpackhninoaaGreatDoor
