import Derived.Test.YtoigpackhninoaaGreatDoorZ28
import Derived.Test.YtoigpackhninoaaGreatDoorZ13
namespace Go.Proofs.YtoigpackhninoaaGreatDoor
open Gr
open _root_.Go.Proofs.Tryz
open _root_.Go.Lib (hid)
set_option maxRecDepth 100000
set_option maxHeartbeats 16000000
open Go.RowKit
theorem zri (p:Nat->Bool) (i:Nat):(List.range (i+1)).all p=((List.range i).all p && p i):=by
 rw[List.range_succ,List.all_append];simp
theorem zi7 {p:Nat->Bool} {i n:Nat} (h:i<n) (hp:p i=false):(List.range n).all p=false:=by
 rw[List.all_eq_false];exact⟨i,List.mem_range.2 h,by rw[hp];decide⟩
theorem zrj (A:Option Addr) (c:Nat) (root:Int) (vs:List NV) (is:List Gr.Ni) (hl:is.length<=1000) (hks:∀n∈is,n.keys.length<=1000/\n.items.length<=1000/\n.text.length<=268435455)
 (w:World) (h:IAt w w.heap.size A vs is):
 Calls prog 40 #[.agg #[.slice A is.length c,.int .i64 root]] w fun e w'=>e=.returned (.bool (rwell sclX is root))/\Below w.heap.size w w':=by
 have H:=hid h;obtain⟨w1,hw1⟩:=ex (w.alloc (.cells #[.slice A is.length c,.int .i64 root] 24))
 have b1:Blk w1 w.heap.size 24 #[.slice A is.length c,.int .i64 root]:=by rw[<-hw1];exact Blk.new _ _ _
 have L1:Hid (Below w.heap.size w w1):=hid (by rw[<-hw1];exact(Below.refl _ _).alloc (Nat.le_refl _) _);obtain⟨g0,g1⟩:=cells2 b1;have HB1:=hid b1;have HW0:Hid ((is.length=0\/inR is.length root=false)->rwell sclX is root=false):=hid (fun h=>by unfold rwell;rw[if_pos h]);clear h b1;go_enter func40,ntmps40;go_upto_region 1 with fail;(try rw[hw1]);clear hw1;by_cases h0:is.length=0
 ·have h0b:((is.length:Int)==0)=true:=by rw[h0];rfl
  have HF:Hid (rwell sclX is root=false):=hid (HW0.out (.inl h0));have H0:=hid h0;clear h0;go_wp2;go_ret;exact⟨by rw[HF.out]<;>rfl,L1.out⟩
 ·have h0b:((is.length:Int)==0)=false:=by rw[beq_eq_false_iff_ne];omega
  by_cases h1:0<=root
  ·have h1n:¬root<0:=by omega
   by_cases h2:root<(is.length:Int)
   ·have h2n:¬(is.length:Int)<=root:=by omega
    obtain⟨r,rfl⟩:∃r:Nat,root=(r:Int):=⟨root.toNat,by omega⟩
    have hrn:r<is.length:=by omega
    have HW1:Hid (rwell sclX is (r:Int)=if is.all (rform sclX is.length)=false then false else(List.range is.length).all (rnode (is.map Gr.Ni.nd) r)):=hid (by
     unfold rwell;rw[if_neg,Int.toNat_natCast];rintro(h|h)
     ·exact h0 h
     ·unfold inR at h;rw[decide_eq_true h1,decide_eq_true h2]at h;cases h)
    clear HW0;go_upto_region 5 with fail;clear g0 g1;go_loopw [4] (fun s4 wr=>∃j:Nat,j<=is.length/\s4=.int .i64 j/\Hid (Below w1.heap.size w1 wr/\(is.take j).all (rform sclX is.length)=true)) (fun s4 _=>is.length-(intOf s4).toNat)
    case atStart=>exact⟨0,by omega,rfl,hid ⟨Below.refl _ _,by simp⟩⟩
    case round=>
     obtain⟨j,hj,rfl,HW⟩:=hrel;have HBW:Hid (Below w.heap.size w wr):=hid (L1.out.trans (HW.out.1.mono L1.out.size));have HBB:Hid (Blk wr w.heap.size 24 #[.slice A is.length c,.int .i64 r]):=hid (HB1.out.below HW.out.1 HB1.out.lt);by_cases hlt:j<is.length
     ·have hltI:(j:Int)<(is.length:Int):=by omega
      have g0:wr.cell? ⟨w.heap.size,0,none⟩=some (.slice A is.length c):=HBB.out.cell 0;have hnm:is[j]∈is:=List.getElem_mem hlt;obtain⟨hkl,hil,htl⟩:=hks _ hnm;obtain⟨ad,ks,its,rfl,hadb,c0,c1,c2,c3,c4,r1,r2,r3,r4⟩:=(H.out.below HBW.out).node hlt;obtain⟨ka,kn,kc⟩:=ks;obtain⟨ia,inn,ic⟩:=its;have HTK:Hid ((is.take (j+1)).all (rform sclX is.length)=rform sclX is.length is[j]):=hid (by rw[zb4 _ _ _ hlt,HW.out.2,Bool.true_and]);have HAF:Hid (rform sclX is.length is[j]=false->is.all (rform sclX is.length)=false):=hid (fun h=>by rw[List.all_eq_false];exact⟨_,hnm,by rw[h];decide⟩);obtain⟨n,hn⟩:=ex (is[j])
      rw[hn]at c0 c1 c2 r1 r2 r3 r4 hkl hil htl HTK HAF;obtain rfl:kn=n.keys.length:=r2;obtain rfl:inn=n.items.length:=r4;have HC:=hid (zrg n.kind n.text n.ord n.keys n.items ka ia kc ic is.length w.heap.size (by omega) htl (by omega) (by omega) wr HBW.out.size r1 r3);obtain⟨b,hb⟩:=ex (rform sclX is.length n)
      have hb':rform sclX is.length ⟨n.kind,n.text,n.ord,n.keys,n.items⟩=b:=hb;rw[hb']at HC;rw[hb]at HTK HAF;have hjb:j<=1000:=by omega
      clear hb hb' hn hnm r1 r3 hadb;cases b with
      |false=>
       have HF:Hid (rwell sclX is (r:Int)=false):=hid (by rw[HW1.out,if_pos (HAF.out rfl)]);go_wp2_with fail;refine HC.out.mono ?_;rintro e w2 ⟨rfl,hb2⟩;go_wp2;go_ret;exact⟨by rw[HF.out]<;>rfl,HBW.out.trans (hb2.mono HBW.out.size)⟩
      |true=>
       go_wp2_with fail;refine HC.out.mono ?_;rintro e w2 ⟨rfl,hb2⟩;have HN:Hid (Below w1.heap.size w1 w2/\(is.take (j+1)).all (rform sclX is.length)=true):=hid ⟨HW.out.1.trans (hb2.mono HW.out.1.size),HTK.out⟩;clear hb2;go_wp2;go_roundw
       case rel=>exact⟨j+1,by omega,by go_num,HN⟩
       case measure=>simp[intOf];omega
     ·have hltI:¬(j:Int)<(is.length:Int):=by omega
      have HAL:Hid (is.all (rform sclX is.length)=true):=hid (by have:=HW.out.2;rwa[List.take_of_length_le (by omega)]at this);have HRG:Hid (is.all (rng is.length)=true):=hid (List.all_eq_true.2 (fun x hx=>zfb (List.all_eq_true.1 HAL.out x hx)));have HRF:Hid (Refs (is.map Gr.Ni.nd)):=hid (za8 HRG.out).2;have HW2:Hid (rwell sclX is (r:Int)=(List.range is.length).all (rnode (is.map Gr.Ni.nd) r)):=hid (by rw[HW1.out,HAL.out];rfl);obtain⟨ns,hns⟩:=ex (is.map Gr.Ni.nd)
      have hnl:ns.length=is.length:=by rw[<-hns];simp
      have HKS:Hid (∀n∈ns,n.keys.length<=1000/\n.items.length<=1000):=hid (by
       rw[<-hns];intro n hn;obtain⟨x,hx,rfl⟩:=List.mem_map.1 hn;have:=hks x hx;simp only[Gr.Ni.nd,List.length_map];omega)
      have HGA:Hid (∀W,Below w.heap.size w W->GAt W W.heap.size A vs ns):=hid (fun W hW=>by
       rw[<-hns];exact((H.out.below hW).more hW.size).toG (za8 HRG.out).1)
      rw[hns]at HRF HW2;clear hns;have HS:Hid (∀W,Below wr.heap.size wr W->W.cell? ⟨w.heap.size,0,none⟩=some (.slice A is.length c)/\W.cell? ⟨w.heap.size,1,none⟩=some (.int .i64 r)):=hid (fun W hW=>by
       have:=HBB.out.below hW HBB.out.lt;exact⟨this.cell 0,this.cell 1⟩)
      have HC1:Hid (∀W,Below wr.heap.size wr W->Calls prog 53 #[.agg #[.slice A is.length c,.int .i64 r],.int .i64 r] W fun e w'=>Below wr.heap.size wr w'/\∃ob,e=.returned (.slice (some ⟨ob,0,none⟩) is.length is.length)/\Blk w' ob 4 (bcells (marks ns r))):=hid (fun W hW=>by
       rw[<-hnl];refine(zd7 A c r (r:Int) vs ns HRF.out (by omega) HKS.out (by omega) W (HGA.out W (HBW.out.trans (hW.mono HBW.out.size)))).mono ?_;rintro e w' ⟨ob,h1,h2,h3,h4⟩;exact⟨hW.trans (h3.mono hW.size),ob,h1,h4⟩)
      have HC2:Hid (∀W,Below wr.heap.size wr W->Calls prog 67 #[.agg #[.slice A is.length c,.int .i64 r]] W fun e w'=>Below wr.heap.size wr w'/\Below W.heap.size W w'/\∃ob,e=.returned (.slice (some ⟨ob,0,none⟩) is.length is.length)/\Blk w' ob 3 (icells (counts ns r))):=hid (fun W hW=>by
       rw[<-hnl];refine(zkg A c r vs ns HRF.out (by omega) HKS.out (by omega) W (HGA.out W (HBW.out.trans (hW.mono HBW.out.size)))).mono ?_;rintro e w' ⟨ob,h1,h2,h3,h4⟩;exact⟨hW.trans (h3.mono hW.size),h3,ob,h1,h4⟩)
      have HC3:Hid (∀W,Below wr.heap.size wr W->Calls prog 62 #[.agg #[.slice A is.length c,.int .i64 r]] W fun e w'=>Below wr.heap.size wr w'/\Below W.heap.size W w'/\∃ob,e=.returned (.slice (some ⟨ob,0,none⟩) is.length is.length)/\Blk w' ob 4 (bcells (inKeys ns))):=hid (fun W hW=>by
       rw[<-hnl];refine(zkh A c (r:Int) vs ns HRF.out (by omega) HKS.out W (HGA.out W (HBW.out.trans (hW.mono HBW.out.size)))).mono ?_;rintro e w' ⟨ob,h1,h2,h3,h4⟩;exact⟨hW.trans (h3.mono hW.size),h3,ob,h1,h4⟩)
      obtain⟨q0,q1⟩:=HS.out wr (Below.refl _ _);go_upto_region 9 with fail;go_cut [5,6,7] (fun s5 s6 s7 wx=>∃o1 o2 o3,s5=.slice (some ⟨o1,0,none⟩) is.length is.length/\s6=.slice (some ⟨o2,0,none⟩) is.length is.length/\s7=.slice (some ⟨o3,0,none⟩) is.length is.length/\Hid (Blk wx o1 4 (bcells (marks ns r))/\Blk wx o2 3 (icells (counts ns r))/\Blk wx o3 4 (bcells (inKeys ns))/\Below wr.heap.size wr wx))
      case first=>
       go_region_held3 (fun w'=>w'.cell? ⟨w.heap.size,0,none⟩=some (.slice A is.length c)/\w'.cell? ⟨w.heap.size,1,none⟩=some (.int .i64 r))
        (first|go_keep|exact HS.out _ (by(first|assumption|exact Below.refl _ _|exact(Below.refl _ _).drew|exact Below.drew (by assumption)))) (first
        | (go_at_call 53;(with_reducible refine(HC1.out _ ?_).mono ?_);(first|assumption|exact Below.refl _ _|exact(Below.refl _ _).drew|exact Below.drew (by assumption));rintro e1 wc1 ⟨hb1,o1,rfl,hk1⟩)
        | (go_at_call 67;(with_reducible refine(HC2.out _ ?_).mono ?_);(first|assumption|exact Below.refl _ _|exact(Below.refl _ _).drew|exact Below.drew (by assumption));rintro e2 wc2 ⟨hb2,hd2,o2,rfl,hk2⟩)
        | (go_at_call 62;(with_reducible refine(HC3.out _ ?_).mono ?_);(first|assumption|exact Below.refl _ _|exact(Below.refl _ _).drew|exact Below.drew (by assumption));rintro e3 wc3 ⟨hb3,hd3,o3,rfl,hk3⟩))
       all_goals
        go_wp2;go_meet
       have hk12:=hk1.below hd2 hk1.lt;exact⟨o1,o2,o3,rfl,rfl,rfl,hid ⟨hk12.below hd3 hk12.lt,hk2.below hd3 hk2.lt,hk3,hb3⟩⟩
      case rest=>
       obtain⟨o1,o2,o3,rfl,rfl,rfl,HO⟩:=hcut;have HB9:Hid (Below w.heap.size w wc):=hid (HBW.out.trans (HO.out.2.2.2.mono HBW.out.size));have HLN:Hid ((marks ns r).length=is.length/\(counts ns r).length=is.length/\(inKeys ns).length=is.length):=hid ⟨by rw[zbe HRF.out (by omega),hnl],by
        unfold counts;rw[zb2,zch,List.length_replicate,hnl],by rw[zf7 HRF.out,hnl]⟩
       have HVB:Hid (∀i,(counts ns r).getD i 0<=4000000):=hid (fun i=>by
        have h1:∀j,(Gr.refs (ns.take j)).length<=2000*j:=fun j=>by
         induction j with
         |zero=>simp[Gr.refs]
         |succ j ih=>
          by_cases hj:j<ns.length
          ·rw[zdj ns j hj];have:=HKS.out _ (List.getElem_mem hj);simp only[List.length_append];omega
          ·rw[List.take_of_length_le (by omega)];rw[List.take_of_length_le (by omega)]at ih;omega
        have h2:=h1 ns.length;rw[List.take_length]at h2;unfold counts;have h3:=zdi (Gr.refs ns) (cstep (List.replicate ns.length 0) r) i;have h4:=zen (List.replicate ns.length 0) r i;have h5:(List.replicate ns.length 0).getD i 0=0:=by simp[List.getD_eq_getElem?_getD,List.getElem?_replicate];split<;>rfl
        omega)
       clear q0 q1 hnl HC1 HC2 HC3 HS;go_upto_region 11 with fail;go_loop [8] (fun s8=>∃i:Nat,i<=is.length/\s8=.int .i64 i/\Hid ((List.range i).all (rnode ns r)=true)) (fun s8=>is.length-(intOf s8).toNat)
       case atStart=>exact⟨0,by omega,rfl,hid rfl⟩
       case round=>
        obtain⟨i,hi,rfl,HI⟩:=hrel;by_cases hli:i<is.length
        ·have hliI:(i:Int)<(is.length:Int):=by omega
         obtain⟨p,hp⟩:=ex ((marks ns r).getD i false)
         obtain⟨q,hq⟩:=ex ((inKeys ns).getD i false)
         obtain⟨v,hv⟩:=ex ((counts ns r).getD i 0)
         have hvb:v<=4000000:=by rw[<-hv];exact HVB.out i
         have z1:wc.cell? ⟨o1,i,none⟩=some (.bool p):=by rw[HO.out.1.cell,zah (by have:=HLN.out;omega),hp]
         have z2:wc.cell? ⟨o2,i,none⟩=some (.int .i64 (v:Int)):=by rw[HO.out.2.1.cell,zad (by have:=HLN.out;omega),hv]
         have z3:wc.cell? ⟨o3,i,none⟩=some (.bool q):=by rw[HO.out.2.2.1.cell,zah (by have:=HLN.out;omega),hq]
         have HND:Hid (rnode ns r i=(p && !(q && v != 1))):=hid (by unfold rnode mkd;rw[hp,hq,hv]);have HNX:Hid (rnode ns r i=true->(List.range (i+1)).all (rnode ns r)=true):=hid (fun h=>by rw[zri,HI.out,h];rfl);have HNF:Hid (rnode ns r i=false->rwell sclX is (r:Int)=false):=hid (fun h=>by rw[HW2.out];exact zi7 hli h);have hib:i<=1000:=by omega
         clear hp hq hv;cases p with
         |false=>
          have HF:Hid (rwell sclX is (r:Int)=false):=hid (HNF.out (by rw[HND.out];rfl));go_wp2;go_ret;exact⟨by rw[HF.out]<;>rfl,HB9.out⟩
         |true=>
          cases q with
          |false=>
           have HN2:Hid ((List.range (i+1)).all (rnode ns r)=true):=hid (HNX.out (by rw[HND.out];rfl));go_wp2;go_round
           case rel=>exact⟨i+1,by omega,by go_num,HN2⟩
           case measure=>simp[intOf];omega
          |true=>
           by_cases hv1:v=1
           ·subst hv1;have HN2:Hid ((List.range (i+1)).all (rnode ns r)=true):=hid (HNX.out (by rw[HND.out];rfl));go_wp2;go_round
            case rel=>exact⟨i+1,by omega,by go_num,HN2⟩
            case measure=>simp[intOf];omega
           ·have HF:Hid (rwell sclX is (r:Int)=false):=hid (HNF.out (by
             rw[HND.out];have:(v != 1)=true:=by simpa using hv1
             rw[this];rfl))
            have hvI:¬(v:Int)=1:=by omega
            have hvb2:((v:Int)==1)=false:=by rw[beq_eq_false_iff_ne];exact hvI
            have hvn:((v:Int) != 1)=true:=by rw[bne_iff_ne];exact hvI
            go_wp2;go_ret;exact⟨by rw[HF.out]<;>rfl,HB9.out⟩
        ·have hliI:¬(i:Int)<(is.length:Int):=by omega
         have HF:Hid (rwell sclX is (r:Int)=true):=hid (by rw[HW2.out];have:=HI.out;rwa[show i=is.length from by omega]at this);go_wp2;go_ret;exact⟨by rw[HF.out]<;>rfl,HB9.out⟩
   ·have h2n:(is.length:Int)<=root:=by omega
    have HF:Hid (rwell sclX is root=false):=hid (HW0.out (.inr (by unfold inR;rw[decide_eq_false h2,Bool.and_false])));go_wp2;go_ret;exact⟨by rw[HF.out]<;>rfl,L1.out⟩
  ·have h1n:root<0:=by omega
   have HF:Hid (rwell sclX is root=false):=hid (HW0.out (.inr (by unfold inR;rw[decide_eq_false h1,Bool.false_and])));go_wp2;go_ret;exact⟨by rw[HF.out]<;>rfl,L1.out⟩
theorem zrk (d:Nat) (h:d<10) (i:Int) (hi:i=d) (k:Int) (hk:k=d+1) (W:World):(Instr.slice 9 (.string ⟨#[48,49,50,51,52,53,54,55,56,57]⟩) (some (.int .i64 i)) (some (.int .i64 k)) none).run prog W=.ok (.string ⟨(Lib.decDigits d).toArray⟩) W:=by
 rw[Lib.decDigits_one h];subst hi;subst hk;obtain rfl|rfl|rfl|rfl|rfl|rfl|rfl|rfl|rfl|rfl:d=0\/d=1\/d=2\/d=3\/d=4\/d=5\/d=6\/d=7\/d=8\/d=9:=by omega
 all_goals kernel_rfl
theorem ztv {n:Nat} (h:¬n<10):Lib.decDigits n=Lib.decDigits (n /10)++Lib.decDigits (n%10):=by
 rw[Lib.decDigits_one (Nat.mod_lt _ (by omega)),Lib.decDigits.eq_1 n,dif_neg h]
theorem zi8:∀(f n:Nat),n<f->n<=999999999->∀w:World,Calls prog 87 #[.int .i64 n] w fun e w'=>e=.returned (.string ⟨(Lib.decDigits n).toArray⟩)/\Below w.heap.size w w':=by
 intro f
 induction f with
 |zero=>intro n h;omega
 |succ f ih=>
  intro n hn hb w;by_cases h:n<10
  ·have hI:(n:Int)<10:=by omega
   have hd:=zrk n h (n:Int) rfl ((n:Int)+1) rfl;go_enter func87,ntmps87;go_wp2;go_ret;exact⟨rfl,Below.refl _ _⟩
  ·have hI:¬(n:Int)<10:=by omega
   have hd:=zrk (n%10) (Nat.mod_lt _ (by omega)) ((n%10:Nat):Int) rfl (((n%10:Nat):Int)+1) rfl;have hq:(n:Int).tdiv 10=((n /10:Nat):Int):=by rw[Int.tdiv_eq_ediv_of_nonneg (by omega)];rfl
   have hm:(n:Int).tmod 10=((n%10:Nat):Int):=by rw[Int.tmod_eq_emod_of_nonneg (by omega)];rfl
   have hs:=ztv h;have HC:Hid (∀x:WB w.heap.size w,Calls prog 87 #[.int .i64 ((n /10:Nat):Int)] x.w fun e w'=>e=.returned (.string ⟨(Lib.decDigits (n /10)).toArray⟩)/\Below w.heap.size w w'):=Lib.hid (fun x=>(ih (n /10) (by omega) (by omega) x.w).mono (fun _ _ ⟨e1,e2⟩=>⟨e1,x.h.trans (e2.mono x.h.size)⟩));obtain⟨a,ha⟩:=ex (Lib.decDigits (n /10))
   obtain⟨b,hb2⟩:=ex (Lib.decDigits (n%10))
   obtain⟨q,hqq⟩:=ex (n /10)
   obtain⟨d,hdd⟩:=ex (n%10)
   have hadd:=zab a b (by
    have h1:=Gr.dec_len (n /10) (by omega);have h2:=Gr.dec_len (n%10) (by omega);rw[ha]at h1;rw[hb2]at h2;omega)
   have HS:Hid (Lib.decDigits n=a++b):=Lib.hid (by rw[hs,ha,hb2]);rw[ha,hqq]at HC;rw[hb2,hdd]at hd;rw[hqq]at hq;rw[hdd]at hm;have hd9:d<=9:=by omega
   have hqb:q<=99999999:=by omega
   clear hs ha hb2 hqq hdd ih;go_enter func87,ntmps87;go_upto_region 3 with fail;refine zaa w.heap.size w (by kernel_rfl) (by kernel_rfl) (Below.refl _ _) ?_
   repeat (go_big_quiet_step (((first| (with_reducible refine Calls.grow (HC.out _))))))
   refine wpQuiet_nil ?_;rintro _ ⟨wz,rfl⟩;go_wp2;go_ret;exact⟨by rw[HS.out]<;>rfl,wz.h⟩
theorem zlr:∀(x y:Gr.Str),Op.bytesLess x y=Gr.ltS x y
 | [],[]=>rfl
 |_::_,[]=>rfl
 | [],_::_=>rfl
 |a::x,b::y=>by
  rw[Op.bytesLess,zlr x y,Gr.ltS]
  congr 1
namespace Gr
theorem zrl (t:Str) (a b:List Str) (h:∀y∈a,ltS t y=true):insR t (a++b)=a++insR t b:=by
 induction a with
 |nil=>rfl
 |cons y a ih=>
  rw[List.cons_append,insR,if_pos (h y (.head _)),ih (fun z hz=>h z (.tail _ hz))];rfl
theorem zww (t:Str) (L:List Str) (k:Nat) (hk:k<=L.length) (h1:∀y∈L.drop k,ltS t y=true) (h2:∀j,(h:j<L.length)->j+1=k->ltS t L[j]=false):insL L t=L.take k++t::L.drop k:=by
 unfold insL;have e:L.reverse=(L.drop k).reverse++(L.take k).reverse:=by rw[<-List.reverse_append,List.take_append_drop]
 rw[e,zrl t _ _ (fun y hy=>h1 y (List.mem_reverse.1 hy)),List.reverse_append,List.reverse_reverse];have e2:(insR t (L.take k).reverse).reverse=L.take k++[t]:=by
  cases k with
  |zero=>simp[insR]
  |succ k=>
   have hlt:k<L.length:=by omega
   rw[List.take_succ_eq_append_getElem hlt,List.reverse_append,List.reverse_singleton,List.singleton_append,insR,if_neg (by rw[h2 k hlt rfl];decide)];simp
 rw[e2];simp
def wand (L:List Str) (t:Str) (k:Nat):List Str:=L.take k++t::L.drop k
theorem zls (L:List Str) (t:Str) (k:Nat) (hk:k<=L.length):(wand L t k).length=L.length+1:=by
 unfold wand;simp;omega
theorem zwx (L:List Str) (t:Str) (k:Nat) (hk:k<=L.length):(wand L t k)[k]? =some t:=by
 unfold wand;rw[List.getElem?_append_right (by simp;omega)];simp[Nat.min_eq_left hk]
theorem ztw (L:List Str) (t:Str) (k:Nat) (hk:k<L.length):(wand L t (k+1))[k]? =some L[k]:=by
 unfold wand;rw[List.getElem?_append_left (by simp;omega),List.getElem?_take,if_pos (by omega),List.getElem?_eq_getElem hk]
theorem zrm (L:List Str) (t:Str) (k:Nat) (hk:k<L.length):((wand L t (k+1)).set k t).set (k+1) L[k]=wand L t k:=by
 unfold wand;apply List.ext_getElem?;intro i;have hl:(L.take (k+1)).length=k+1:=by simp;omega
 have hl2:(L.take k).length=k:=by simp;omega
 simp only[List.getElem?_set,List.length_set,List.length_append,List.length_cons,List.length_drop,hl];by_cases h1:k+1=i
 ·grind
 ·grind
theorem zrn (ns:List Nd) (f:Nat) (x:Nd) (i:Nat) (h:i<x.items.length):(ents ns f x).take (i+1)=(ents ns f x).take i++[(if x.kind=10 then printF ns f (x.keys.getD i 0)else[])++printF ns f (x.items.getD i 0)]:=by
 have hl:i<(ents ns f x).length:=by unfold ents;simpa using h
 rw[List.take_succ_eq_append_getElem hl]
 congr 2
 unfold ents;simp
def entT (ns:List Nd) (f:Nat) (x:Nd) (k:Nat):List Str:=if x.kind=10/\x.ord=false then((ents ns f x).take k).foldl insL []else(ents ns f x).take k
theorem zro (ns:List Nd) (f:Nat) (x:Nd):entT ns f x 0=[]:=by unfold entT;split<;>simp
theorem zrp (ns:List Nd) (f:Nat) (x:Nd) (k:Nat) (h:x.items.length<=k):entT ns f x k=entS ns f x:=by
 have hl:(ents ns f x).length=x.items.length:=by unfold ents;simp
 unfold entT entS sortS;rw[List.take_of_length_le (by omega)]
theorem ztx (ns:List Nd) (f:Nat) (x:Nd) (k:Nat) (h:k<=x.items.length):(entT ns f x k).length=k:=by
 have hl:(ents ns f x).length=x.items.length:=by unfold ents;simp
 unfold entT;split
 ·rw[(zh2 _ []).length_eq];simp;omega
 ·simp;omega
theorem zrq (ns:List Nd) (f:Nat) (x:Nd) (k:Nat) (h:k<x.items.length):entT ns f x (k+1)=if x.kind=10/\x.ord=false then insL (entT ns f x k) ((if x.kind=10 then printF ns f (x.keys.getD k 0)else[])++printF ns f (x.items.getD k 0))
 else entT ns f x k++[(if x.kind=10 then printF ns f (x.keys.getD k 0)else[])++printF ns f (x.items.getD k 0)]:=by
 unfold entT;rw[zrn ns f x k h];by_cases hm:x.kind=10/\x.ord=false
 ·grind
 ·grind
theorem zfp (l:List Str) (i:Nat):(l.take i).flatten.length<=l.flatten.length:=by
 have:l.flatten=(l.take i).flatten++(l.drop i).flatten:=by rw[<-List.flatten_append,List.take_append_drop]
 rw[this,List.length_append];omega
end Gr
def strL:Lay Gr.Str:={enc:=fun x=>[.string ⟨x.toArray⟩],sz:=1,len:=fun _=>rfl,one:=fun x u hu=>by simp at hu;subst hu;rfl,pos:=by omega}
theorem strT:SliceT Tryz.prog strL 96 9 16:=zby strL 96 9 (.string ⟨#[]⟩) 16 Tryz.underlying96 (by kernel_rfl) rfl (by omega)
theorem zet (l:List Gr.Str):strL.all l=l.map (fun x=>Value.string ⟨x.toArray⟩):=by
 induction l with
 |nil=>rfl
 |cons x l ih=>
  have e:strL.all (x::l)=strL.enc x++strL.all l:=rfl;rw[e,ih];rfl
theorem zuu {w:World} {B:Nat} {A:Option Addr} {l:List Gr.Str} {k:Nat} (h:RowAt strL w B A l) (hk:k<l.length):∃ad,A=some ad/\ad.block<B/\w.cell? (ad.add k)=some (.string ⟨l[k].toArray⟩):=by
 obtain⟨ad,h1,h2,h3,_⟩:=h.get hk;refine⟨ad,h1,h2,?_⟩;have:=h3 (.string ⟨l[k].toArray⟩) rfl;rwa[show k*strL.sz=k from Nat.mul_one k]at this
theorem zki {w:World} {base n c g:Nat} {l:List Gr.Str} (h:OwnRow strL w base 9 (.slice (some ⟨g,0,none⟩) n c) l):∃cur,Blk w g 9 cur/\base<=g/\(∀j (hj:j<l.length),w.cell? ⟨g,j,none⟩=some (.string ⟨l[j].toArray⟩))/\
 (∀j,w.frozen? ⟨g,j,none⟩=false)/\∀j x,j<l.length->OwnRow strL (w.setCell ⟨g,j,none⟩ (.string ⟨x.toArray⟩)) base 9 (.slice (some ⟨g,0,none⟩) n c) (l.set j x):=by
 obtain⟨h0,h1⟩:=h;rcases h1 with⟨h2,_⟩|⟨g2,cap,cur,he,hb,hg,hc1,hc2,hc3,hc4⟩
 ·cases h2
 ·injection he with e1 e2 e3
  injection e1 with e1
  injection e1 with e1 _ _
  subst e1;subst e2;subst e3;have hB:Blk w g 9 cur:=hg;have hsz:strL.sz=1:=rfl;rw[hsz,Nat.mul_one]at hc4;refine⟨cur,hB,hb,fun j hj=>?_,hB.frozen,fun j x hj=>?_⟩
  ·rw[hB.cell];have h3:(cur.toList.take l.length)[j]? =some (.string ⟨l[j].toArray⟩):=by rw[hc4,zet];simp[hj]
   rw[List.getElem?_take,if_pos hj]at h3;simpa using h3
  ·refine⟨by rw[zet];rw[zet]at h0;simpa using h0,.inr ⟨g,c,cur.setIfInBounds j (.string ⟨x.toArray⟩),by rw[List.length_set],hb,hB.set_ j _,by rw[List.length_set];exact hc1,hc2,by simpa using hc3,?_⟩⟩;rw[hsz,Nat.mul_one,List.length_set];rw[zet]at hc4 ⊢;rw[List.map_set,<-hc4,<-List.take_set];simp
theorem zlt {w:World} {base n c:Nat} {E:TypeId} {A:Option Addr} {l:List Gr.Str} (h:OwnRow strL w base E (.slice A n c) l):RowAt strL w w.heap.size A l:=by
 obtain⟨A',c',e,h2⟩:=h.form;injection e with e1 _ _
 subst e1;exact h2
theorem zty {w:World} {base n c:Nat} {A:Option Addr} {l:List Gr.Str} (h:OwnRow strL w base 9 (.slice A n c) l) (hl:0<l.length):∃g,A=some ⟨g,0,none⟩:=by
 obtain⟨h0,h1⟩:=h;rcases h1 with⟨h2,h3⟩|⟨g2,cap,cur,he,hb,hg,hc1,hc2,hc3,hc4⟩
 ·omega
 ·injection he with e1 e2 e3
  exact⟨g2,e1⟩
theorem ztz (k:Nat) (h:k<=11) (i:Int) (hi:i=k) (j:Int) (hj:j=k+1) (W:World):(Instr.slice 9 (.string ⟨#[97,98,99,100,101,102,103,104,105,106,107,108]⟩) (some (.int .i64 i)) (some (.int .i64 j)) none).run prog W=.ok (.string ⟨([UInt8.ofNat (97+k)]:Gr.Str).toArray⟩) W:=by
 subst hi;subst hj;obtain rfl|rfl|rfl|rfl|rfl|rfl|rfl|rfl|rfl|rfl|rfl|rfl:k=0\/k=1\/k=2\/k=3\/k=4\/k=5\/k=6\/k=7\/k=8\/k=9\/k=10\/k=11:=by omega
 all_goals kernel_rfl
def headS (x:Gr.Nd):Gr.Str:=UInt8.ofNat (97+x.kind.toNat)::(Lib.decDigits x.text.length++58::(x.text++(Lib.decDigits x.items.length++[40])))
theorem zho {ns:List Gr.Nd} {f i:Nat} {x:Gr.Nd} (h:ns[i]? =some x):printF ns (f+1) i=headS x++(entS ns f x).flatten++(41::(if x.ord=true then[33]else[])):=by
 rw[zai h];unfold headS;simp
structure PrOk (ns:List Gr.Nd) (P:Nat->Prop) (F b:Nat):Prop where
 refs:Refs ns
 next:∀u,P u->∀v∈Gr.succ ns u,P v
 kind:NodesOk ns
 lens:∀n∈ns,n.keys.length<=1000/\n.items.length<=1000/\n.text.length<=1000000
 len:∀f i,f<=F->P i->i<ns.length->(printF ns f i).length<=b
 small:b<=4611686018427387903
structure PM (w wr:World) (gc nc:Array Value) (v:Value) (L:List Gr.Str):Prop where
 below:Below w.heap.size w wr
 gbox:Blk wr w.heap.size 24 gc
 nbox:Blk wr (w.heap.size+1) 35 nc
 own:OwnRow strL wr (w.heap.size+2) 9 v L
 hd:w.heap.size+2<=wr.heap.size
section
variable {w wr w2:World} {gc nc:Array Value} {v v':Value} {L L':List Gr.Str}
theorem PM.later (h:PM w wr gc nc v L) (hb:Below wr.heap.size wr w2):PM w w2 gc nc v L:=
 ⟨h.below.trans (hb.mono h.below.size),h.gbox.below hb h.gbox.lt,h.nbox.below hb h.nbox.lt,h.own.later hb,Nat.le_trans h.hd hb.size⟩
theorem PM.alloc (h:PM w wr gc nc v L) (o:Obj):PM w (wr.alloc o) gc nc v L:=h.later ((Below.refl _ _).alloc (Nat.le_refl _) _)
theorem PM.drewN (h:PM w wr gc nc v L) (n:Nat):PM w (wr.drewN n) gc nc v L:=h.later (below_drewN (Below.refl _ _) n)
theorem PM.grown (h:PM w wr gc nc v L) (ho:OwnRow strL w2 (w.heap.size+2) 9 v' L') (hg:wr.grownBy w2 v.ownBlock):PM w w2 gc nc v' L':=
 ⟨h.below.trans ((h.own.grown_below hg h.hd).mono (by omega)),zbg h.gbox h.own hg (by omega),zbg h.nbox h.own hg (by omega),ho,Nat.le_trans h.hd (h.own.grown_below hg h.hd).size⟩
end
theorem znn (A:Option Addr) (c:Nat) (root:Int) (vs:List NV) (ns:List Gr.Nd) (P:Nat->Prop) (F b:Nat) (hok:PrOk ns P F b) (_hnl:ns.length<=1000):
 ∀(f i:Nat) (w:World),f<=F->i<ns.length->P i->Tall' ns f i->GAt w w.heap.size A vs ns->
 Calls prog 68 #[.agg #[.slice A ns.length c,.int .i64 root],.int .i64 i] w fun e w'=>e=.returned (.string ⟨(printF ns f i).toArray⟩)/\Below w.heap.size w w':=by
 intro f
 induction f with
 |zero=>intro i w _ _ _ h;exact h.elim
 |succ f ih=>
  intro i w hF hi hP hT h;have hnm:ns[i]∈ns:=List.getElem_mem hi;obtain⟨hkl,hil,htl⟩:=hok.lens _ hnm;obtain⟨hk0,hk1,hk2⟩:=hok.kind _ hnm;have hsc:=zc8 hi;have hres:=zho (f:=f) (List.getElem?_eq_getElem hi);have hpl:=hok.len (f+1) i hF hP hi;have hsm:=hok.small;have HIH:Hid (∀x∈ns[i].keys++ns[i].items,x<ns.length/\(printF ns f x).length<=b/\∀W,GAt W W.heap.size A vs ns->Calls prog 68 #[.agg #[.slice A ns.length c,.int .i64 root],.int .i64 x] W fun e w'=>e=.returned (.string ⟨(printF ns f x).toArray⟩)/\Below W.heap.size W w'):=hid (fun x hx=>by
   have h1:=hok.refs _ hnm x hx;have h2:=hok.next i hP x (by rw[hsc];exact hx);exact⟨h1,hok.len f x (by omega) h2 h1,fun W hW=>ih x W (by omega) h1 h2 (hT x (by rw[hsc];exact hx)) hW⟩)
  have H:=hid h;obtain⟨ad,ks,is,rfl,hN⟩:=h.node hi;obtain⟨ka,kn,kc⟩:=ks;obtain⟨ia,inn,ic⟩:=is;obtain⟨n,hn⟩:=ex (ns[i])
  rw[hn]at hN hkl hil htl hk0 hk1 hk2 hres HIH;obtain rfl:kn=n.keys.length:=hN.kn;obtain rfl:inn=n.items.length:=hN.inn;obtain⟨w1,hw1⟩:=ex (w.alloc (.cells #[.slice (some ad) ns.length c,.int .i64 root] 24))
  have l1:Below w.heap.size w w1:=by rw[<-hw1];exact(Below.refl _ _).alloc (Nat.le_refl _) _
  have b1:Blk w1 w.heap.size 24 #[.slice (some ad) ns.length c,.int .i64 root]:=by rw[<-hw1];exact Blk.new _ _ _
  have hs1:w1.heap.size=w.heap.size+1:=by rw[<-hw1];simp
  have g0:w1.cell? ⟨w.heap.size,0,none⟩=some (.slice (some ad) ns.length c):=b1.cell 0;have lti:=hN.lt;have c0:w1.cell? (ad.add (i*5))=some (.int .i64 n.kind):=(l1.cell lti).trans hN.c0;have c1:w1.cell? {block:=(ad.add (i*5)).block,off:=(ad.add (i*5)).off+1}=some (.string ⟨n.text.toArray⟩):=(l1.cell (by exact lti)).trans hN.c1;have c2:w1.cell? {block:=(ad.add (i*5)).block,off:=(ad.add (i*5)).off+2}=some (.bool n.ord):=(l1.cell (by exact lti)).trans hN.c2;have c3:w1.cell? {block:=(ad.add (i*5)).block,off:=(ad.add (i*5)).off+3}=some (.slice ka n.keys.length kc):=(l1.cell (by exact lti)).trans hN.c3;have c4:w1.cell? {block:=(ad.add (i*5)).block,off:=(ad.add (i*5)).off+4}=some (.slice ia n.items.length ic):=(l1.cell (by exact lti)).trans hN.c4;have hiI:(i:Int)<(ns.length:Int):=by omega
  have HRW:Hid (∀W,Below w.heap.size w W->RowAt intL W w.heap.size ka n.keys/\RowAt intL W w.heap.size ia n.items):=hid (fun W hW=>⟨hN.keys.below hW,hN.items.below hW⟩);have L1:=hid l1;have HB1:=hid b1;have HRES:=hid hres;have HPL:=hid hpl;clear ih hT h hres hsc hnm hN hn l1 b1 lti hpl hP hF;go_enter func68,ntmps68;go_upto_region 2 with fail;obtain⟨w2,hw2⟩:=ex (w1.alloc (.cells #[.int .i64 n.kind,.string ⟨n.text.toArray⟩,.bool n.ord,.slice ka n.keys.length kc,.slice ia n.items.length ic] 35))
  obtain⟨nc,hnc⟩:∃nc:Array Value,#[.int .i64 n.kind,.string ⟨n.text.toArray⟩,.bool n.ord,.slice ka n.keys.length kc,.slice ia n.items.length ic]=nc:=⟨_,rfl⟩
  obtain⟨gc,hgc⟩:∃gc:Array Value,#[.slice (some ad) ns.length c,.int .i64 root]=gc:=⟨_,rfl⟩
  obtain⟨kd,hkd⟩:∃kd:Nat,n.kind=(kd:Int):=⟨n.kind.toNat,by omega⟩
  have hkd11:kd<=11:=by omega
  have HKD:=hid hkd;have HNC:Hid (nc[0]? =some (.int .i64 (kd:Int))/\nc[1]? =some (.string ⟨n.text.toArray⟩)/\nc[2]? =some (.bool n.ord)/\nc[3]? =some (.slice ka n.keys.length kc)/\nc[4]? =some (.slice ia n.items.length ic)):=hid (by rw[<-hnc,<-hkd];exact⟨rfl,rfl,rfl,rfl,rfl⟩);have HGC:Hid (gc[0]? =some (.slice (some ad) ns.length c)/\gc[1]? =some (.int .i64 root)):=hid (by rw[<-hgc];exact⟨rfl,rfl⟩);have HP2:Hid (PM w w2 gc nc (.slice none 0 0) []):=hid (by
   have hb:=Blk.new w1 35 #[.int .i64 n.kind,.string ⟨n.text.toArray⟩,.bool n.ord,.slice ka n.keys.length kc,.slice ia n.items.length ic];rw[hs1]at hb;rw[<-hw2,<-hnc,<-hgc];exact⟨L1.out.alloc (by omega) _,HB1.out.alloc _,hb,OwnRow.nil,by simp;omega⟩)
  have HR2:Hid (∀W,Below w.heap.size w W->RowAt intL W w.heap.size ka n.keys/\RowAt intL W w.heap.size ia n.items):=HRW;(try rw[hw2]);clear hkd hw2 hnc hgc c0 c1 c2 c3 c4 g0 HB1;have hkr:=ztz kd hkd11 (kd:Int) rfl ((kd:Int)+1) rfl;have hd1:=Gr.dec_len n.text.length (by omega);have hd2:=Gr.dec_len n.items.length (by omega);have HS1:=hid (fun(x:WB w2.heap.size w2)=>(zi8 (n.text.length+1) n.text.length (by omega) (by omega) x.w).mono (fun _ _ ⟨e1,e2⟩=>(⟨e1,x.h.trans (e2.mono x.h.size)⟩:_/\Below w2.heap.size w2 _)));have HS2:=hid (fun(x:WB w2.heap.size w2)=>(zi8 (n.items.length+1) n.items.length (by omega) (by omega) x.w).mono (fun _ _ ⟨e1,e2⟩=>(⟨e1,x.h.trans (e2.mono x.h.size)⟩:_/\Below w2.heap.size w2 _)));have HHD:Hid (headS n=UInt8.ofNat (97+kd)::(Lib.decDigits n.text.length++58::(n.text++(Lib.decDigits n.items.length++[40])))):=hid (by unfold headS;rw[HKD.out];rfl);obtain⟨d1,hd1e⟩:=ex (Lib.decDigits n.text.length)
  obtain⟨d2,hd2e⟩:=ex (Lib.decDigits n.items.length)
  obtain⟨a0,ha0⟩:∃a0:Gr.Str,[UInt8.ofNat (97+kd)]=a0:=⟨_,rfl⟩
  obtain⟨a1,ha1⟩:∃a1:Gr.Str,a0++d1=a1:=⟨_,rfl⟩
  obtain⟨a2,ha2⟩:∃a2:Gr.Str,a1++[58]=a2:=⟨_,rfl⟩
  obtain⟨a3,ha3⟩:∃a3:Gr.Str,a2++n.text=a3:=⟨_,rfl⟩
  obtain⟨a4,ha4⟩:∃a4:Gr.Str,a3++d2=a4:=⟨_,rfl⟩
  obtain⟨hd,hhd⟩:∃hd:Gr.Str,a4++[40]=hd:=⟨_,rfl⟩
  have HHE:Hid (headS n=hd):=hid (by rw[HHD.out,hd1e,hd2e,<-hhd,<-ha4,<-ha3,<-ha2,<-ha1,<-ha0];simp);rw[hd1e]at hd1 HS1;rw[hd2e]at hd2 HS2;have r1:=zab a0 d1 (by rw[<-ha0];simp;omega);have hl1:a1.length<=100:=by rw[<-ha1,<-ha0];simp;omega
  have r2:=zab a1 [58] (by simp;omega);have hl2:a2.length<=101:=by rw[<-ha2];simp;omega
  have r3:=zab a2 n.text (by omega);have hl3:a3.length<=1000101:=by rw[<-ha3];simp;omega
  have r4:=zab a3 d2 (by omega);have hl4:a4.length<=1000201:=by rw[<-ha4];simp;omega
  have r5:=zab a4 [40] (by simp;omega);rw[ha0]at hkr;rw[ha1]at r1;rw[ha2]at r2;rw[ha3]at r3;rw[ha4]at r4;rw[hhd]at r5;have p0:∀x:WB w2.heap.size w2,x.w.cell? ⟨w.heap.size+1,0,none⟩=some (.int .i64 (kd:Int)):=fun x=>by rw[(HP2.out.later x.h).nbox.cell];exact HNC.out.1
  have p1:∀x:WB w2.heap.size w2,x.w.cell? ⟨w.heap.size+1,1,none⟩=some (.string ⟨n.text.toArray⟩):=fun x=>by rw[(HP2.out.later x.h).nbox.cell];exact HNC.out.2.1
  have p4:∀x:WB w2.heap.size w2,x.w.cell? ⟨w.heap.size+1,4,none⟩=some (.slice ia n.items.length ic):=fun x=>by rw[(HP2.out.later x.h).nbox.cell];exact HNC.out.2.2.2.2
  clear hd1e hd2e ha0 ha1 ha2 ha3 ha4 hhd hd1 hd2 hl1 hl2 hl3 hl4 HHD;refine zaa w2.heap.size w2 (by kernel_rfl) (by kernel_rfl) (Below.refl _ _) ?_
  repeat (go_big_quiet_step (((first| (with_reducible refine Calls.grow (HS1.out _))| (with_reducible refine Calls.grow (HS2.out _))))))
  refine wpQuiet_nil ?_;rintro _ ⟨wz,rfl⟩;obtain⟨w3,hw3⟩:=ex wz.w
  have HP3:Hid (PM w w3 gc nc (.slice none 0 0) []):=hid (by rw[<-hw3];exact HP2.out.later wz.h);(try rw[hw3]);clear hw3 p0 p1 p4 hkr r1 r2 r3 r4 r5 HS1 HS2 HP2;go_upto_region 5 with fail;go_loopw [7,8] (fun s7 s8 wr=>∃(k:Nat) (L:List Gr.Str) (AL:Option Addr) (cL:Nat),k<=n.items.length/\s8=.int .i64 k/\s7=.slice AL L.length cL/\Hid (PM w wr gc nc (.slice AL L.length cL) L/\L=entT ns f n k)) (fun _ s8 _=>n.items.length-(intOf s8).toNat)
  case atStart=>exact⟨0,[],none,0,by omega,rfl,rfl,hid ⟨HP3.out,(zro _ _ _).symm⟩⟩
  case round=>
   obtain⟨k,L,AL,cL,hk,rfl,rfl,HI⟩:=hrel;obtain⟨wq,hwq⟩:∃wq,wq=wr:=⟨_,rfl⟩
   subst hwq;have hLL:L.length=k:=by rw[HI.out.2];exact ztx _ _ _ _ hk
   have s4:wq.cell? ⟨w.heap.size+1,4,none⟩=some (.slice ia n.items.length ic):=by rw[HI.out.1.nbox.cell];exact HNC.out.2.2.2.2
   by_cases hlk:k<n.items.length
   ·have hlkI:(k:Int)<(n.items.length:Int):=by omega
    obtain⟨y,hy⟩:=ex (n.items[k])
    obtain⟨adi,rfl,_,y0⟩:=zae (HR2.out wq HI.out.1.below).2 hlk;rw[hy]at y0;have hym:y∈n.keys++n.items:=List.mem_append_right _ (by rw[<-hy];exact List.getElem_mem hlk);have HYY:=hid (HIH.out y hym);have HYE:Hid (n.items.getD k 0=y):=hid (by rw[za3 hlk,hy]);have HES:=hid (zrq ns f n k hlk);have q0:∀x:WB wq.heap.size wq,x.w.cell? ⟨w.heap.size,0,none⟩=some (.slice (some ad) ns.length c):=fun x=>by rw[(HI.out.1.later x.h).gbox.cell];exact HGC.out.1
    have q1:∀x:WB wq.heap.size wq,x.w.cell? ⟨w.heap.size,1,none⟩=some (.int .i64 root):=fun x=>by rw[(HI.out.1.later x.h).gbox.cell];exact HGC.out.2
    have q4:∀x:WB wq.heap.size wq,x.w.cell? ⟨w.heap.size+1,4,none⟩=some (.slice (some adi) n.items.length ic):=fun x=>by rw[(HI.out.1.later x.h).nbox.cell];exact HNC.out.2.2.2.2
    have qy:∀x:WB wq.heap.size wq,x.w.cell? (adi.add k)=some (.int .i64 (y:Int)):=fun x=>(x.h.cell (World.block_lt_of_cell? wq _ y0)).trans y0
    have HC7:Hid (∀x:WB wq.heap.size wq,Calls prog 68 #[.agg #[.slice (some ad) ns.length c,.int .i64 root],.int .i64 y] x.w fun e w'=>e=.returned (.string ⟨(printF ns f y).toArray⟩)/\Below wq.heap.size wq w'):=hid (fun x=>
     (HYY.out.2.2 x.w ((H.out.below (HI.out.1.later x.h).below).more (HI.out.1.later x.h).below.size)).mono (fun _ _ ⟨e1,e2⟩=>⟨e1,x.h.trans (e2.mono x.h.size)⟩))
    have HYL:Hid ((printF ns f y).length<=b):=hid HYY.out.2.1;obtain⟨ti,hti⟩:=ex (printF ns f y)
    rw[HYE.out]at HES;rw[hti]at HC7 HYL HES;have hkb:k<=1000:=by omega
    clear hy hym y0 hti;go_upto_region 7 with fail;clear s4;refine zaa wq.heap.size wq (by kernel_rfl) (by kernel_rfl) (Below.refl _ _) ?_
    repeat (go_big_quiet_step (((first| (with_reducible refine Calls.grow (HC7.out _))))))
    refine wpQuiet_nil ?_;rintro _ ⟨wz7,rfl⟩;obtain⟨w7,hw7⟩:=ex wz7.w
    have HP7:Hid (PM w w7 gc nc (.slice AL L.length cL) L):=hid (by rw[<-hw7];exact HI.out.1.later wz7.h);(try rw[hw7]);clear hw7 q0 q1 q4 qy;have q0:w7.cell? ⟨w.heap.size+1,0,none⟩=some (.int .i64 (kd:Int)):=by rw[HP7.out.nbox.cell];exact HNC.out.1
    have HC9:Hid (n.kind=10->∃(tk:Gr.Str) (adk:Addr) (yk:Nat),n.keys.getD k 0=yk/\printF ns f yk=tk/\tk.length<=b/\ka=some adk/\k<n.keys.length/\(∀x:WB w7.heap.size w7,x.w.cell? (adk.add k)=some (.int .i64 (yk:Int)))/\
     ∀x:WB w7.heap.size w7,Calls prog 68 #[.agg #[.slice (some ad) ns.length c,.int .i64 root],.int .i64 yk] x.w fun e w'=>e=.returned (.string ⟨tk.toArray⟩)/\Below w7.heap.size w7 w'):=hid (fun h10=>by
     have hlk2:k<n.keys.length:=by rw[hk2 h10];exact hlk
     obtain⟨yk,hyk⟩:=ex (n.keys[k])
     obtain⟨adk,hadk,_,yk0⟩:=zae (HR2.out w7 HP7.out.below).1 hlk2;rw[hyk]at yk0;have hykm:yk∈n.keys++n.items:=List.mem_append_left _ (by rw[<-hyk];exact List.getElem_mem hlk2);have hY:=HIH.out yk hykm;refine⟨_,adk,yk,by rw[za3 hlk2,hyk],rfl,hY.2.1,hadk,hlk2,fun x=>(x.h.cell (World.block_lt_of_cell? w7 _ yk0)).trans yk0,fun x=>?_⟩;exact(hY.2.2 x.w ((H.out.below (HP7.out.later x.h).below).more (HP7.out.later x.h).below.size)).mono (fun _ _ ⟨e1,e2⟩=>⟨e1,x.h.trans (e2.mono x.h.size)⟩))
    go_upto_region 8 with fail;go_upto_if 54 with fail;go_cut [9] (fun s9 wx=>∃t:Gr.Str,s9=.string ⟨t.toArray⟩/\Hid (PM w wx gc nc (.slice AL L.length cL) L/\t=(if n.kind=10 then printF ns f (n.keys.getD k 0)else[])++ti))
    case first=>
     by_cases hk10:kd=10
     ·have hk10b:((kd:Int)==10)=true:=by rw[hk10];rfl
      have hkK:n.kind=10:=by rw[HKD.out,hk10];rfl
      obtain⟨tk,adk,yk,e1,e2,htkl,rfl,hlk2,qk,HCK0⟩:=HC9.out hkK;have HCK:=hid HCK0;have HTE:Hid ((if n.kind=10 then printF ns f (n.keys.getD k 0)else[])=tk):=hid (by rw[if_pos hkK,e1,e2]);have hlk2I:(k:Int)<(n.keys.length:Int):=by omega
      have q0:∀x:WB w7.heap.size w7,x.w.cell? ⟨w.heap.size,0,none⟩=some (.slice (some ad) ns.length c):=fun x=>by rw[(HP7.out.later x.h).gbox.cell];exact HGC.out.1
      have q1:∀x:WB w7.heap.size w7,x.w.cell? ⟨w.heap.size,1,none⟩=some (.int .i64 root):=fun x=>by rw[(HP7.out.later x.h).gbox.cell];exact HGC.out.2
      have q3:∀x:WB w7.heap.size w7,x.w.cell? ⟨w.heap.size+1,3,none⟩=some (.slice (some adk) n.keys.length kc):=fun x=>by rw[(HP7.out.later x.h).nbox.cell];exact HNC.out.2.2.2.1
      have rk:=zab tk ti (by have:=HYL.out;omega);obtain⟨tt,htt⟩:=ex (tk++ti)
      have HTT:Hid (tt=(if n.kind=10 then printF ns f (n.keys.getD k 0)else[])++ti):=hid (by rw[HTE.out,htt]);rw[htt]at rk;clear e1 e2 HCK0 htt hk10 hkK;go_upto_region 9 with fail;refine zaa w7.heap.size w7 (by kernel_rfl) (by kernel_rfl) (Below.refl _ _) ?_
      repeat (go_big_quiet_step (((first| (with_reducible refine Calls.grow (HCK.out _))))))
      refine wpQuiet_nil ?_;rintro _ ⟨wz9,rfl⟩;go_wp2;go_meet;exact⟨tt,rfl,hid ⟨HP7.out.later wz9.h,HTT.out⟩⟩
     ·have hk10b:((kd:Int)==10)=false:=by rw[beq_eq_false_iff_ne];omega
      have HTT:Hid (ti=(if n.kind=10 then printF ns f (n.keys.getD k 0)else[])++ti):=hid (by rw[if_neg (by have:=HKD.out;omega)];rfl);clear hk10;go_wp2;go_meet;exact⟨ti,rfl,hid ⟨HP7.out,HTT.out⟩⟩
    case rest=>
     obtain⟨t,rfl,HT⟩:=hcut;have HES2:Hid (entT ns f n (k+1)=if n.kind=10/\n.ord=false then insL L t else L++[t]):=hid (by rw[HES.out,<-HT.out.2,HI.out.2]);have HLL:Hid (L.length=k):=hid hLL;have hLb:L.length<=1000:=by omega
     have HSZ:Hid (w.heap.size+2<=wc.heap.size):=hid HT.out.1.hd;clear HC9 HES HP7 HC7 HYL HYY HYE q0 hLL hkb;go_wp2_with (at_builtin;go_must (refine zac _ rfl (.tmp 64) (.tmp 66) 96 9 16 rfl strT (w.heap.size+2) (.slice AL L.length cL) L rfl (HT.out.1.own.alloc _) _ _ 1 [t] rfl (RowAt.lit1 _ _ rfl _ ?_) ?_ ?_ ?_))
     any_goals (first|rfl| (have:=HSZ.out;omega)| (have:=HSZ.out;simp;omega)| (rw[World.size_alloc];have:=HSZ.out;omega))
     intro v' w5 hown hg hat;have HP5:Hid (PM w w5 gc nc v' (L++[t])):=hid ((HT.out.1.alloc _).grown hown hg);obtain⟨A5,c5,hv5,_⟩:=hown.form;subst hv5;obtain⟨g,rfl⟩:=zty hown (by simp);obtain⟨m5,hm5⟩:=ex ((L++[t]).length)
     have HM5:Hid (m5=L.length+1):=hid (by rw[<-hm5];simp);have hm51:1<=m5:=by rw[HM5.out];omega
     have hm5b:m5<=1001:=by rw[HM5.out];omega
     rw[hm5]at HP5;(try rw[hm5]);clear hown hg hat hm5;go_upto_region 12 with fail;go_loopw [10] (fun s10 wr=>∃j:Nat,j<=L.length/\s10=.int .i64 j/\Hid (PM w wr gc nc (.slice (some ⟨g,0,none⟩) m5 c5) (wand L t j)/\(¬(n.kind=10/\n.ord=false)->j=L.length)/\∀y∈L.drop j,ltS t y=true)) (fun s10 _=>(intOf s10).toNat)
     case atStart=>exact⟨L.length,Nat.le_refl _,by(have:=HM5.out;congr 1;omega),hid ⟨by have:=HP5.out;unfold wand;rwa[List.take_length,List.drop_length],fun _=>rfl,by simp⟩⟩
     case round=>
      obtain⟨j,hj,rfl,HJ⟩:=hrel;have s0:wr.cell? ⟨w.heap.size+1,0,none⟩=some (.int .i64 (kd:Int)):=by rw[HJ.out.1.nbox.cell];exact HNC.out.1
      have s2:wr.cell? ⟨w.heap.size+1,2,none⟩=some (.bool n.ord):=by rw[HJ.out.1.nbox.cell];exact HNC.out.2.2.1
      have HWL:Hid (m5=(wand L t j).length):=hid (by rw[zls _ _ _ hj,HM5.out]);have HEX:Hid (((n.kind=10/\n.ord=false)->∀i,(h:i<L.length)->i+1=j->ltS t L[i]=false)->PM w wr gc nc (.slice (some ⟨g,0,none⟩) (wand L t j).length c5) (wand L t j)/\wand L t j=entT ns f n (k+1)):=hid (fun h=>by
       refine⟨by rw[<-HWL.out];exact HJ.out.1,?_⟩;rw[HES2.out];by_cases hm:n.kind=10/\n.ord=false
       ·rw[if_pos hm,zww t L j hj HJ.out.2.2 (h hm)];rfl
       ·rw[if_neg hm,HJ.out.2.1 hm];unfold wand;rw[List.take_length,List.drop_length])
      by_cases hk10:kd=10
      ·have hk10b:((kd:Int)==10)=true:=by rw[hk10];rfl
       have hkK:n.kind=10:=by rw[HKD.out,hk10];rfl
       obtain⟨o,ho⟩:=ex n.ord
       rw[ho]at s2;cases o with
       |true=>
        have HE:=hid (HEX.out (fun h=>by rw[ho]at h;cases h.2));clear ho hkK hk10;go_upto_region 12 with fail;go_quiet (fail);go_wp2;go_roundw
        case rel=>exact⟨k+1,wand L t j,some ⟨g,0,none⟩,c5,by omega,by go_num,by rw[<-HWL.out],hid ⟨HE.out.1.drewN _,HE.out.2⟩⟩
        case measure=>simp[intOf];omega
       |false=>
        cases j with
        |zero=>
         have HE:=hid (HEX.out (fun _ i _ h=>by omega));clear ho hkK hk10;go_upto_region 12 with fail;go_quiet (fail);go_wp2;go_roundw
         case rel=>exact⟨k+1,wand L t 0,some ⟨g,0,none⟩,c5,by omega,by go_num,by rw[<-HWL.out],hid ⟨HE.out.1.drewN _,HE.out.2⟩⟩
         case measure=>simp[intOf];omega
        |succ j=>
         have hjl:j<L.length:=by omega
         obtain⟨cur,hB,hbg,hcl,hfz,hset⟩:=zki HJ.out.1.own;have hwl:=zls L t (j+1) hj;have z1:wr.cell? ⟨g,j+1,none⟩=some (.string ⟨t.toArray⟩):=by
          have h1:=zwx L t (j+1) hj;rw[List.getElem?_eq_getElem (by omega)]at h1;injection h1 with h1
          rw[hcl (j+1) (by omega),h1]
         obtain⟨u,hu⟩:=ex (L[j])
         have z0:wr.cell? ⟨g,j,none⟩=some (.string ⟨u.toArray⟩):=by
          have h1:=ztw L t j hjl;rw[List.getElem?_eq_getElem (by omega),hu]at h1;injection h1 with h1
          rw[hcl j (by omega),h1]
         have hjb:j<=1000:=by omega
         have hjm:(j:Int)+1<(m5:Int):=by have:=HM5.out;omega
         have hjm0:(j:Int)<(m5:Int):=by have:=HM5.out;omega
         have HSW:Hid (∀q,PM w (((wr.drewN q).setCell ⟨g,j,none⟩ (.string ⟨t.toArray⟩)).setCell ⟨g,j+1,none⟩ (.string ⟨u.toArray⟩)) gc nc (.slice (some ⟨g,0,none⟩) m5 c5) (wand L t j)):=hid (fun q=>by
          have hh:=HJ.out.1.drewN q;obtain⟨_,_,_,_,_,hset⟩:=zki hh.own;have o1:=hset j t (by omega);obtain⟨_,_,_,_,_,hset2⟩:=zki o1;have o2:=hset2 (j+1) u (by rw[List.length_set];omega);rw[<-hu,zrm L t j hjl,hu]at o2;have hsz:w.heap.size+2<=g:=hbg;refine⟨(hh.below.setCell (show w.heap.size<=g by omega) _).setCell (show w.heap.size<=g by omega) _,?_,?_,o2,by simpa using hh.hd⟩
          ·exact(hh.gbox.far (show w.heap.size≠g by omega) _).far (show w.heap.size≠g by omega) _
          ·exact(hh.nbox.far (show w.heap.size+1≠g by omega) _).far (show w.heap.size+1≠g by omega) _)
         have HLT:Hid (L[j]=u):=hid hu;obtain⟨c7,hc7⟩:=ex (Op.bytesLess t u)
         have HC7:Hid (ltS t u=c7):=hid (by rw[<-zlr,hc7]);have HFZ:=hid hfz;clear hB hcl hfz hset hwl hu;cases c7 with
         |false=>
          have HE:=hid (HEX.out (fun _ i hi h=>by
           obtain rfl:i=j:=by omega
           rw[HLT.out];exact HC7.out))
          clear ho hkK hk10;go_upto_region 12 with fail;go_quiet (fail);go_wp2;go_roundw
          case rel=>exact⟨k+1,wand L t (j+1),some ⟨g,0,none⟩,c5,by omega,by go_num,by rw[<-HWL.out],hid ⟨HE.out.1.drewN _,HE.out.2⟩⟩
          case measure=>simp[intOf];omega
         |true=>
          have HDR:Hid (∀y∈L.drop j,ltS t y=true):=hid (fun y hy=>by
           rw[List.drop_eq_getElem_cons hjl,HLT.out]at hy;rcases List.mem_cons.1 hy with rfl|hy
           ·exact HC7.out
           ·exact HJ.out.2.2 y hy)
          have HKO:Hid (n.kind=10/\n.ord=false):=hid ⟨hkK,ho⟩;clear ho hkK hk10;go_upto_region 12 with fail;go_quiet (fail);go_upto_region 14 with fail;have hfz:=HFZ.out;go_region
          all_goals
           go_wp2_with fail;exact⟨⟨j,by omega,rfl,hid ⟨HSW.out _,fun h=>absurd HKO.out h,HDR.out⟩⟩,by simp[intOf]⟩
      ·have hk10b:((kd:Int)==10)=false:=by rw[beq_eq_false_iff_ne];omega
       have HE:=hid (HEX.out (fun h=>by have:=HKD.out;omega));clear hk10;go_upto_region 12 with fail;go_quiet (fail);go_wp2;go_roundw
       case rel=>exact⟨k+1,wand L t j,some ⟨g,0,none⟩,c5,by omega,by go_num,by rw[<-HWL.out],hid ⟨HE.out.1.drewN _,HE.out.2⟩⟩
       case measure=>simp[intOf];omega
   ·have hlkI:¬(k:Int)<(n.items.length:Int):=by omega
    have HLE:Hid (L=entS ns f n/\L.length<=1000):=hid ⟨by rw[HI.out.2,zrp _ _ _ _ (by omega)],by omega⟩;have hLb:L.length<=1000:=by omega
    clear hLL;go_upto_region 16 with fail;go_loop [6,11] (fun s6 s11=>∃(i:Nat) (S:Gr.Str),i<=L.length/\s11=.int .i64 i/\s6=.string ⟨S.toArray⟩/\Hid (S=hd++(L.take i).flatten)) (fun _ s11=>L.length-(intOf s11).toNat)
    case atStart=>exact⟨0,hd,by omega,rfl,rfl,hid (by simp)⟩
    case round=>
     obtain⟨i2,S,hi2,rfl,rfl,HS⟩:=hrel;have HSB:Hid (S.length+2<=b+2/\∀u,u∈L->S.length<=b/\i2<i2+1):=hid ⟨by
      have h1:=HPL.out;rw[HRES.out,HHE.out,<-HLE.out.1]at h1;have h2:=zfp L i2;rw[HS.out];simp only[List.length_append,List.length_cons]at h1 ⊢;omega,fun u _=>⟨by
      have h1:=HPL.out;rw[HRES.out,HHE.out,<-HLE.out.1]at h1;have h2:=zfp L i2;rw[HS.out];simp only[List.length_append,List.length_cons]at h1 ⊢;omega,by omega⟩⟩
     by_cases hli:i2<L.length
     ·have hliI:(i2:Int)<(L.length:Int):=by omega
      obtain⟨u,hu⟩:=ex (L[i2])
      obtain⟨adl,rfl,_,l0⟩:=zuu (zlt HI.out.1.own) hli;rw[hu]at l0;have HSN:Hid (S++u=hd++(L.take (i2+1)).flatten):=hid (by rw[List.take_succ_eq_append_getElem hli,hu,HS.out];simp);have hub:S.length+u.length<=b:=by
       have h1:=HPL.out;rw[HRES.out,HHE.out,<-HLE.out.1]at h1;have h2:=zfp L (i2+1);have h3:=congrArg List.length HSN.out;simp only[List.length_append,List.length_cons]at h1 h3;omega
      have rS:=zab S u (by omega);obtain⟨S2,hS2⟩:=ex (S++u)
      rw[hS2]at rS HSN;have hib:i2<=1000:=by omega
      clear hu hub hS2;go_wp2;go_round
      case rel=>exact⟨i2+1,S2,by omega,by go_num,rfl,HSN⟩
      case measure=>simp[intOf];omega
     ·have hliI:¬(i2:Int)<(L.length:Int):=by omega
      have s2:wq.cell? ⟨w.heap.size+1,2,none⟩=some (.bool n.ord):=by rw[HI.out.1.nbox.cell];exact HNC.out.2.2.1
      have HFI:Hid (printF ns (f+1) i=S++(41::(if n.ord=true then[33]else[]))):=hid (by rw[HRES.out,HHE.out,<-HLE.out.1,HS.out,List.take_of_length_le (by omega)]);have hSb:S.length<=b:=by have:=HSB.out.1;omega
      have r1:=zab S [41] (by simp;omega);have r2:=zab S [41,33] (by simp;omega);obtain⟨S1,hS1⟩:=ex (S++[41])
      obtain⟨S2,hS2⟩:=ex (S++[41,33])
      rw[hS1]at r1;rw[hS2]at r2;have HB:=hid HI.out.1.below;obtain⟨o,ho⟩:=ex n.ord
      rw[ho]at s2;cases o with
      |true=>
       have HF2:Hid (printF ns (f+1) i=S2):=hid (by rw[HFI.out,ho,<-hS2];rfl);clear ho hS1 hS2;go_wp2;go_ret;exact⟨by rw[HF2.out]<;>rfl,HB.out⟩
      |false=>
       have HF2:Hid (printF ns (f+1) i=S1):=hid (by rw[HFI.out,ho,<-hS1];rfl);clear ho hS1 hS2;go_wp2;go_ret;exact⟨by rw[HF2.out]<;>rfl,HB.out⟩
end Go.Proofs.YtoigpackhninoaaGreatDoor
