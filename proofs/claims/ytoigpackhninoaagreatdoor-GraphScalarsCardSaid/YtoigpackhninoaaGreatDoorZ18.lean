/- Walks: decimal's limit, sign, digits, coef, text. Walks: decimal's coef, text. Walks: the reference's digits, Limit, sign, number, word. Walks: the reference's Limit, sign, word, Coef, Show. -/
import Derived.Test.YtoigpackhninoaaGreatDoorZ17
import Derived.Test.YtoigpackhninoaaGreatDoorZ06
import Derived.Test.YtoigpackhninoaaGreatDoorZ02
import Derived.Laws.IdiomStrings
import Derived.Lib.AppendIntMem
namespace Go.Proofs.YtoigpackhninoaaGreatDoor
set_option maxRecDepth 100000
set_option maxHeartbeats 16000000
open Go.RowKit
theorem limit_any (x:Gr.Dn) (A:Option Addr) (c:Nat) (hl:x.d.length<=1073741823) (w:World):
 Calls Tryz.prog 112 #[.agg #[.bool x.neg,.slice A x.d.length c,.int .i64 x.e]] w fun e w'=>e=.returned (.int .i64 (Gr.lim x:Nat))/\Below w.heap.size w w':=by
 obtain⟨neg,d,e⟩:=x;simp only at hl ⊢;have hb:Below w.heap.size w (w.alloc (.cells #[.bool neg,.slice A d.length c,.int .i64 e] 125)):=(Below.refl _ _).alloc (Nat.le_refl _) _;have HB:=Lib.hid hb;clear hb;by_cases h1:400<d.length
 ·have hF:Hid (Gr.lim ⟨neg,d,e⟩=6):=Lib.hid (by unfold Gr.lim;rw[if_pos h1]);have h1I:(400:Int)<(d.length:Int):=by omega
  go_enter Tryz.func112,Tryz.ntmps112;go_wp2_with fail;go_ret;rw[hF.out];exact⟨rfl,HB.out⟩
 ·have h1I:¬(400:Int)<(d.length:Int):=by omega
  by_cases h2:e< -2000
  ·have hF:Hid (Gr.lim ⟨neg,d,e⟩=2):=Lib.hid (by unfold Gr.lim;rw[if_neg h1,if_pos (.inl h2)]);go_enter Tryz.func112,Tryz.ntmps112;go_wp2_with fail;go_ret;rw[hF.out];exact⟨rfl,HB.out⟩
  ·by_cases h3:2000<e
   ·have hF:Hid (Gr.lim ⟨neg,d,e⟩=2):=Lib.hid (by unfold Gr.lim;rw[if_neg h1,if_pos (.inr h3)]);go_enter Tryz.func112,Tryz.ntmps112;go_wp2_with fail;go_ret;rw[hF.out];exact⟨rfl,HB.out⟩
   ·have hF:Hid (Gr.lim ⟨neg,d,e⟩=0):=Lib.hid (by unfold Gr.lim;rw[if_neg h1,if_neg (fun h=>h.elim h2 h3)]);go_enter Tryz.func112,Tryz.ntmps112;go_wp2_with fail;go_ret;rw[hF.out];exact⟨rfl,HB.out⟩
def signS (neg:Bool):Gr.Str:=if neg=true then[45]else[]
theorem sign_any (neg:Bool) (A:Option Addr) (n c:Nat) (e:Int) (w:World):
 Calls Tryz.prog 172 #[.agg #[.bool neg,.slice A n c,.int .i64 e]] w fun e' w'=>e'=.returned (.string ⟨(signS neg).toArray⟩)/\Below w.heap.size w w':=by
 have hb:Below w.heap.size w (w.alloc (.cells #[.bool neg,.slice A n c,.int .i64 e] 125)):=(Below.refl _ _).alloc (Nat.le_refl _) _;have HB:=Lib.hid hb;clear hb;cases neg
 all_goals
  go_enter Tryz.func172,Tryz.ntmps172;go_wp2_with fail;go_ret;exact⟨rfl,HB.out⟩
theorem conv_bytes (w:World) (s:List UInt8) (A:Option Addr) (c:Nat) {B:Nat} (h:RowAt byteL w B A s):(convert 119 9 (.slice A s.length c)).run Tryz.prog w=.ok (.string ⟨s.toArray⟩) w:=by
 cases s with
 |nil=>
  cases A with
  |none=>exact run_convert_bytes_nil (P:=Tryz.prog) w 119 5 Tryz.underlying119 Tryz.underlying5 0 c 9 Tryz.underlying9
  |some a=>exact run_convert_bytes_back (P:=Tryz.prog) w 119 9 5 a c [] Tryz.underlying119 Tryz.underlying5 Tryz.underlying9 (fun j hj=>by simp at hj)
 |cons b r=>
  obtain⟨ad,rfl,_,_⟩:=h.get (k:=0) (by simp);refine run_convert_bytes_back (P:=Tryz.prog) w 119 9 5 ad c (b::r) Tryz.underlying119 Tryz.underlying5 Tryz.underlying9 (fun j hj=>?_);obtain⟨ad',e,_,h0,_⟩:=h.get hj;cases e;have:=h0 _ rfl;simpa[byteL]using this
theorem digits_any (neg:Bool) (A:Option Addr) (d:List Nat) (c:Nat) (E:Int) (hl:d.length<=1073741823) (hd:∀v∈d,v<10) (w:World) (h:RowAt byteL w w.heap.size A (d8 d)):
 Calls Tryz.prog 173 #[.agg #[.bool neg,.slice A d.length c,.int .i64 E]] w fun e' w'=>e'=.returned (.string ⟨(d.map Gr.ch).toArray⟩)/\Below w.heap.size w w':=by
 have hmk:=fun W=>make_bytes d.length (by omega) W
 have HD:=Lib.hid hd;have HRow:=Lib.hid h;clear hd h;go_enter Tryz.func173,Tryz.ntmps173;go_upto_region 2 with fail;obtain⟨w0,hw0⟩:∃w0,w.alloc (.cells #[.bool neg,.slice A d.length c,.int .i64 E] 125)=w0:=⟨_,rfl⟩
 have hb0:Blk w0 w.heap.size 125 #[.bool neg,.slice A d.length c,.int .i64 E]:=by rw[<-hw0];exact Blk.new _ _ _
 have hl0:Below w.heap.size w w0:=by rw[<-hw0];exact(Below.refl _ _).alloc (Nat.le_refl _) _
 have hs0:w0.heap.size=w.heap.size+1:=by rw[<-hw0];simp
 obtain⟨gb,hgb⟩:∃gb,w.heap.size=gb:=⟨_,rfl⟩
 (try rw[hw0]);(try rw[hgb]);rw[hgb]at hb0 hl0 hs0 HRow;obtain⟨w1,hw1⟩:∃w1,w0.alloc (.cells (ucells (List.replicate d.length 0)) 5)=w1:=⟨_,rfl⟩
 have hb1:Blk w1 (gb+1) 5 (ucells (List.replicate d.length 0)):=by rw[<-hw1,<-hs0];exact Blk.new _ _ _
 have hl1:Below (gb+1) w0 w1:=by rw[<-hw1,<-hs0];exact(Below.refl _ _).alloc (Nat.le_refl _) _
 have HB1:Hid (Blk w1 gb 125 #[.bool neg,.slice A d.length c,.int .i64 E]/\Blk w1 (gb+1) 5 (ucells (List.replicate d.length 0))/\Below gb w w1):=Lib.hid ⟨hb0.below hl1 (by omega),hb1,hl0.trans (hl1.mono (by omega))⟩;have HGB:=Lib.hid hgb;(try rw[hs0]);(try rw[hw1]);clear hw0 hgb hb0 hl0 hs0 hw1 hb1 hl1 hmk;have q1:w1.cell? ⟨gb,1,none⟩=some (.slice A d.length c):=HB1.out.1.cell 1;go_wp2_with fail;clear q1;go_loopw [13] (fun s13 wr=>∃k:Nat,k<=d.length/\s13=.int .i64 k/\Hid (Blk wr (gb+1) 5 (ucells ((d.take k).map Gr.ch++List.replicate (d.length-k) 0))/\Below gb w wr)) (fun s13 _=>d.length-(intOf s13).toNat)
 case atStart=>exact⟨0,by omega,rfl,Lib.hid ⟨by simpa using HB1.out.2.1,HB1.out.2.2⟩⟩
 case round=>
  obtain⟨k,hk,rfl,HV⟩:=hrel;by_cases hlt:k<d.length
  ·have hltI:(k:Int)<(d.length:Int):=by omega
   obtain⟨v,hv⟩:∃v,d[k]=v:=⟨_,rfl⟩
   have hv10:v<10:=by rw[<-hv];exact HD.out _ (List.getElem_mem hlt)
   obtain⟨ad,hade,_,y0⟩:=d8_at (HRow.out.below HV.out.2) hlt hv hv10;subst hade;have pfd:∀j,wr.frozen? ⟨gb+1,j,none⟩=false:=HV.out.1.frozen;have hlen1:((d.take k).map Gr.ch).length=k:=by simp;omega
   obtain⟨dv,zd⟩:∃dv,wr.cell? ⟨gb+1,k,none⟩=some dv:=by
    rw[HV.out.1.cell];refine⟨_,Array.getElem?_eq_getElem (i:=k) ?_⟩;simp[ucells];omega
   have HNX:Hid ((d.take (k+1)).map Gr.ch=(d.take k).map Gr.ch++[Gr.ch v]/\((d.take k).map Gr.ch).length=k):=Lib.hid ⟨by
    rw[List.take_succ_eq_append_getElem hlt,List.map_append,hv];rfl,hlen1⟩
   have hvI:(v:Int)<10:=by omega
   clear hv hlen1;go_wp2_with fail;obtain⟨xb,hxb⟩:∃xb:UInt8,xb=Gr.ch v:=⟨_,rfl⟩
   have hxi:48+(v:Int)=(xb.toNat:Int):=by rw[hxb];unfold Gr.ch;rw[UInt8.toNat_ofNat'];omega
   rw[hxi];have HN:Hid (Blk (wr.setCell ⟨gb+1,k,none⟩ (.int .u8 (xb.toNat:Int))) (gb+1) 5 (ucells ((d.take (k+1)).map Gr.ch++List.replicate (d.length-(k+1)) 0))/\Below gb w (wr.setCell ⟨gb+1,k,none⟩ (.int .u8 (xb.toNat:Int)))):=Lib.hid ⟨by
    have h1:=HV.out.1.set_ k (.int .u8 (xb.toNat:Int));rw[ucells_set]at h1;have h2:=set_snoc ((d.take k).map Gr.ch) (d.length-k) xb (by omega);rw[HNX.out.2]at h2;rw[h2]at h1;rw[HNX.out.1,<-hxb,show d.length-(k+1)=d.length-k-1 from by omega];exact h1,HV.out.2.setCell (by simp) _⟩
   clear hxi hxb;go_roundw
   case rel=>exact⟨k+1,by omega,by go_num,HN⟩
   case measure=>simp[intOf];omega
  ·have hltI:¬(k:Int)<(d.length:Int):=by omega
   have hr:RowAt byteL wr (gb+2) (some ⟨gb+1,0,none⟩) (d.map Gr.ch):=by
    have:=HV.out.1;rw[show k=d.length from by omega,List.take_length,Nat.sub_self,List.replicate_zero,List.append_nil]at this;exact RowAt.ofBlk this (ucells_all _) (by omega)
   have hcv:=conv_bytes wr _ (some ⟨gb+1,0,none⟩) d.length hr;rw[List.length_map]at hcv;clear hr;go_wp2_with fail;go_ret;exact⟨rfl,by rw[HGB.out];exact HV.out.2⟩
end Go.Proofs.YtoigpackhninoaaGreatDoor
namespace Go.Proofs.YtoigpackhninoaaGreatDoor
set_option maxRecDepth 100000
set_option maxHeartbeats 16000000
open Go.RowKit
theorem signS_len (neg:Bool):(signS neg).length<=1:=by cases neg<;>decide
theorem coef_any (x:Gr.Dn) (A:Option Addr) (c:Nat) (hl:x.d.length<=1073741823) (hd:∀v∈x.d,v<10) (w:World) (h:RowAt byteL w w.heap.size A (d8 x.d)):
 Calls Tryz.prog 144 #[.agg #[.bool x.neg,.slice A x.d.length c,.int .i64 x.e]] w fun e' w'=>e'=.returned (.string ⟨(Gr.coef x).toArray⟩)/\Below w.heap.size w w':=by
 obtain⟨neg,d,E⟩:=x;simp only at hl hd h ⊢;have HRow:=Lib.hid h;have HD:=Lib.hid hd;clear h hd;obtain⟨r,hr⟩:∃r,Gr.coef ⟨neg,d,E⟩=r:=⟨_,rfl⟩
 have HR:=Lib.hid hr;rw[hr];clear hr;go_enter Tryz.func144,Tryz.ntmps144;go_upto_region 1 with fail;obtain⟨w0,hw0⟩:∃w0,w.alloc (.cells #[.bool neg,.slice A d.length c,.int .i64 E] 125)=w0:=⟨_,rfl⟩
 obtain⟨gb,hgb⟩:∃gb,w.heap.size=gb:=⟨_,rfl⟩
 have HB0:Hid (Blk w0 gb 125 #[.bool neg,.slice A d.length c,.int .i64 E]/\Below gb w w0/\w0.heap.size=gb+1):=Lib.hid (by rw[<-hw0,<-hgb];exact⟨Blk.new _ _ _,(Below.refl _ _).alloc (Nat.le_refl _) _,by simp⟩);have HGB:=Lib.hid hgb;rw[hgb]at HRow;(try rw[hw0]);(try rw[hgb]);clear hw0 hgb;have q1:w0.cell? ⟨gb,1,none⟩=some (.slice A d.length c):=HB0.out.1.cell 1;by_cases h0:d=[]
 ·subst h0;have HF:Hid (r=[48]):=Lib.hid (by rw[<-HR.out];rfl);go_wp2_with fail;go_ret;rw[HF.out,HGB.out];exact⟨rfl,HB0.out.2.1⟩
 ·have hlp:=List.length_pos_iff.2 h0;have h1:¬((d.length:Int)=0):=by omega
  have h1b:((d.length:Int)==0)=false:=by simpa using h0
  have HF:Hid (r=signS neg++d.map Gr.ch):=Lib.hid (by rw[<-HR.out];unfold Gr.coef;rw[if_neg h0];rfl);go_upto_region 3 with fail;clear q1;have hsz:w0.heap.size=gb+1:=HB0.out.2.2;have HC:Hid (∀W:WB w0.heap.size w0,Calls Tryz.prog 172 #[.agg #[.bool neg,.slice A d.length c,.int .i64 E]] W.w (fun e W'=>e=.returned (.string ⟨(signS neg).toArray⟩)/\Below w0.heap.size w0 W')/\Calls Tryz.prog 173 #[.agg #[.bool neg,.slice A d.length c,.int .i64 E]] W.w (fun e W'=>e=.returned (.string ⟨(d.map Gr.ch).toArray⟩)/\Below w0.heap.size w0 W')):=Lib.hid (fun W=>⟨(sign_any neg A d.length c E W.w).mono (fun _ _ ⟨e1,e2⟩=>⟨e1,W.h.trans (e2.mono W.h.size)⟩),(digits_any neg A d c E hl HD.out W.w (((HRow.out.below HB0.out.2.1).below (W.h.mono (by omega))).more (by have:=W.h.size;omega))).mono (fun _ _ ⟨e1,e2⟩=>⟨e1,W.h.trans (e2.mono W.h.size)⟩)⟩);have p0:∀W:WB w0.heap.size w0,W.w.cell? ⟨gb,0,none⟩=some (.bool neg):=fun W=>(W.h.cell (p:=⟨gb,0,none⟩) (by simp;omega)).trans (HB0.out.1.cell 0)
  have p1:∀W:WB w0.heap.size w0,W.w.cell? ⟨gb,1,none⟩=some (.slice A d.length c):=fun W=>(W.h.cell (p:=⟨gb,1,none⟩) (by simp;omega)).trans (HB0.out.1.cell 1)
  have p2:∀W:WB w0.heap.size w0,W.w.cell? ⟨gb,2,none⟩=some (.int .i64 E):=fun W=>(W.h.cell (p:=⟨gb,2,none⟩) (by simp;omega)).trans (HB0.out.1.cell 2)
  clear hsz;have hadd:=fun W=>add_run (signS neg) (d.map Gr.ch) (by have:=signS_len neg;rw[List.length_map];omega) W
  refine wp_region_grow w0.heap.size w0 (by kernel_rfl) (by kernel_rfl) (Below.refl _ _) ?_
  repeat (go_big_quiet_step ((first| (with_reducible refine Calls.grow (HC.out _).1)| (with_reducible refine Calls.grow (HC.out _).2))))
  refine wpQuiet_nil ?_;rintro _ ⟨wz,rfl⟩;go_wp2_with fail;go_ret;rw[HF.out,HGB.out];exact⟨rfl,HB0.out.2.1.trans (wz.h.mono (by have:=HB0.out.2.2;omega))⟩
theorem itoa_any (n:Int) (h0:-9223372036854775808<=n) (h1:n<=9223372036854775807) (w:World) (hT:UT w):
 Calls Tryz.prog 145 #[.int .i64 n] w fun e w'=>e=.returned (.string ⟨(Lib.itoa n).toArray⟩)/\Below w.heap.size w w':=
 (Tryz.strconv_Itoa n h0 h1 w hT.pow).mono (fun _ _ ⟨e,k,os,h⟩=>⟨e,by rw[h];exact Lib.below_grow _ _ (Nat.le_refl _) _ _⟩)
theorem itoa_len (n:Int) (h0:-9223372036854775808<=n) (h1:n<=9223372036854775807):(Lib.itoa n).length<=21:=by
 have:=Gr.itoa_len_le n 19 (by omega);omega
theorem dtext_any (x:Gr.Dn) (A:Option Addr) (c:Nat) (hl:x.d.length<=1073741823) (hd:∀v∈x.d,v<10) (h0:-9223372036854775808<=x.e) (h1:x.e<=9223372036854775807) (w:World) (hT:UT w) (h:RowAt byteL w w.heap.size A (d8 x.d)):
 Calls Tryz.prog 113 #[.agg #[.bool x.neg,.slice A x.d.length c,.int .i64 x.e]] w fun e' w'=>e'=.returned (.string ⟨(Gr.text x).toArray⟩)/\Below w.heap.size w w':=by
 have HCO:=Lib.hid (fun(W:World) (hW:RowAt byteL W W.heap.size A (d8 x.d))=>coef_any x A c hl hd W hW);have hcl:(Gr.coef x).length<=1073741825:=by
  unfold Gr.coef;split
  ·simp
  ·have:=signS_len x.neg;unfold signS at this;rw[List.length_append,List.length_map];omega
 have hil:=itoa_len x.e h0 h1;obtain⟨r,hr⟩:∃r,Gr.coef x=r:=⟨_,rfl⟩
 obtain⟨r2,hr2⟩:∃r2,Gr.text x=r2:=⟨_,rfl⟩
 have HR:Hid (r2=r++101::Lib.itoa x.e):=Lib.hid (by rw[<-hr2,<-hr];rfl);rw[hr]at HCO hcl;rw[hr2];clear hr hr2;obtain⟨neg,d,E⟩:=x;simp only at hl h0 h1 h HCO hil HR ⊢;obtain⟨t,ht⟩:∃t,Lib.itoa E=t:=⟨_,rfl⟩
 have HIT:=Lib.hid (fun(W:World) (hW:UT W)=>itoa_any E h0 h1 W hW);rw[ht]at hil HR HIT;clear ht;have HRow:=Lib.hid h;have HTW:=Lib.hid hT;clear h hd hT;go_enter Tryz.func113,Tryz.ntmps113;go_upto_region 1 with fail;obtain⟨w0,hw0⟩:∃w0,w.alloc (.cells #[.bool neg,.slice A d.length c,.int .i64 E] 125)=w0:=⟨_,rfl⟩
 obtain⟨gb,hgb⟩:∃gb,w.heap.size=gb:=⟨_,rfl⟩
 have HB0:Hid (Blk w0 gb 125 #[.bool neg,.slice A d.length c,.int .i64 E]/\Below gb w w0/\w0.heap.size=gb+1):=Lib.hid (by rw[<-hw0,<-hgb];exact⟨Blk.new _ _ _,(Below.refl _ _).alloc (Nat.le_refl _) _,by simp⟩);have HT0:Hid (UT w0):=Lib.hid (UT.stays _ _ HTW.out (by rw[<-hw0];exact(Below.refl _ _).alloc (Nat.le_refl _) _));have HGB:=Lib.hid hgb;rw[hgb]at HRow;(try rw[hw0]);(try rw[hgb]);clear hw0 hgb;have hsz:w0.heap.size=gb+1:=HB0.out.2.2;have HC:Hid (∀W:WB w0.heap.size w0,Calls Tryz.prog 144 #[.agg #[.bool neg,.slice A d.length c,.int .i64 E]] W.w (fun e W'=>e=.returned (.string ⟨r.toArray⟩)/\Below w0.heap.size w0 W')/\Calls Tryz.prog 145 #[.int .i64 E] W.w (fun e W'=>e=.returned (.string ⟨t.toArray⟩)/\Below w0.heap.size w0 W')):=Lib.hid (fun W=>⟨(HCO.out W.w (((HRow.out.below HB0.out.2.1).below (W.h.mono (by omega))).more (by have:=W.h.size;omega))).mono (fun _ _ ⟨e1,e2⟩=>⟨e1,W.h.trans (e2.mono W.h.size)⟩),(HIT.out W.w (UT.stays _ _ HT0.out W.h)).mono (fun _ _ ⟨e1,e2⟩=>⟨e1,W.h.trans (e2.mono W.h.size)⟩)⟩);have p0:∀W:WB w0.heap.size w0,W.w.cell? ⟨gb,0,none⟩=some (.bool neg):=fun W=>(W.h.cell (p:=⟨gb,0,none⟩) (by simp;omega)).trans (HB0.out.1.cell 0)
 have p1:∀W:WB w0.heap.size w0,W.w.cell? ⟨gb,1,none⟩=some (.slice A d.length c):=fun W=>(W.h.cell (p:=⟨gb,1,none⟩) (by simp;omega)).trans (HB0.out.1.cell 1)
 have p2:∀W:WB w0.heap.size w0,W.w.cell? ⟨gb,2,none⟩=some (.int .i64 E):=fun W=>(W.h.cell (p:=⟨gb,2,none⟩) (by simp;omega)).trans (HB0.out.1.cell 2)
 have hadd:=fun W=>add_run r [101] (by simp;omega) W
 have hadd2:=fun W=>add_run (r++[101]) t (by simp;omega) W
 clear hsz;refine wp_region_grow w0.heap.size w0 (by kernel_rfl) (by kernel_rfl) (Below.refl _ _) ?_
 repeat (go_big_quiet_step ((first| (with_reducible refine Calls.grow (HC.out _).1)| (with_reducible refine Calls.grow (HC.out _).2))))
 refine wpQuiet_nil ?_;rintro _ ⟨wz,rfl⟩;go_wp2_with fail;go_ret;rw[HR.out,HGB.out];exact⟨rfl,HB0.out.2.1.trans (wz.h.mono (by have:=HB0.out.2.2;omega))⟩
end Go.Proofs.YtoigpackhninoaaGreatDoor
namespace Go.Proofs.YtoigpackhninoaaGreatDoor
set_option maxRecDepth 100000
set_option maxHeartbeats 16000000
open Go.RowKit
def rdg (s:Gr.Str) (k:Nat):Gr.Str:=(s.drop k).takeWhile Gr.dig
def DigPost (s:Gr.Str) (k:Nat) (w:World) (e:Ending) (w':World):Prop:=∃A c,e=.returned (.tuple #[.slice A (rdg s k).length c,.int .i64 ((k+(rdg s k).length:Nat):Int)])/\OwnRow intL w' w.heap.size 3 (.slice A (rdg s k).length c) (Gr.vals (rdg s k))/\Below w.heap.size w w'
theorem vals_len (s:Gr.Str):(Gr.vals s).length=s.length:=by simp[Gr.vals]
theorem tw_take (s:Gr.Str) (k m:Nat) (h:((s.drop k).take m).all Gr.dig=true) (hm:k+m<=s.length) (hn:∀h2:k+m<s.length,Gr.dig (s[k+m]'h2)=false):rdg s k=(s.drop k).take m:=by
 unfold rdg;have h1:s.drop k=(s.drop k).take m++s.drop (k+m):=by
  rw[<-List.drop_drop];exact(List.take_append_drop m (s.drop k)).symm
 rw[h1,List.takeWhile_append_of_pos (by simpa using h)];have h2:(s.drop (k+m)).takeWhile Gr.dig=[]:=by
  rcases Nat.lt_or_ge (k+m) s.length with h3|h3
  ·rw[List.drop_eq_getElem_cons h3,List.takeWhile_cons,hn h3];rfl
  ·rw[List.drop_eq_nil_of_le h3];rfl
 rw[h2,List.append_nil,List.take_append_of_le_length (by simp;omega),List.take_take,Nat.min_self]
theorem dig_end {s:Gr.Str} {k m c:Nat} {A:Option Addr} {w w':World} (h:rdg s k=(s.drop k).take m) (_:0<=m) (hm:k+m<=s.length) (ho:OwnRow intL w' w.heap.size 3 (.slice A m c) (Gr.vals ((s.drop k).take m))) (hb:Below w.heap.size w w'):
 DigPost s k w (.returned (.tuple #[.slice A m c,.int .i64 ((k+m:Nat):Int)])) w':=by
 have hl:(rdg s k).length=m:=by rw[h];simp;omega
 unfold DigPost;rw[hl,h];exact⟨A,c,rfl,ho,hb⟩
theorem rdigits_any (s:Gr.Str) (hl:s.length<=1073741823) (k:Nat) (hk:k<=s.length) (w:World):
 Calls Tryz.prog 97 #[.string ⟨s.toArray⟩,.int .i64 (k:Int)] w (DigPost s k w):=by
 go_enter Tryz.func97,Tryz.ntmps97;go_wp2_with fail;go_loopw [1,6] (fun s1 s6 wr=>∃(m:Nat) (A:Option Addr) (c:Nat),k+m<=s.length/\s1=.int .i64 ((k+m:Nat):Int)/\s6=.slice A m c/\Hid (((s.drop k).take m).all Gr.dig=true/\OwnRow intL wr w.heap.size 3 (.slice A m c) (Gr.vals ((s.drop k).take m))/\Below w.heap.size w wr)) (fun s1 _ _=>s.length-(intOf s1).toNat)
 case atStart=>exact⟨0,none,0,by omega,rfl,rfl,Lib.hid ⟨by simp,OwnRow.nil,Below.refl _ _⟩⟩
 case round=>
  obtain⟨m,A,c,hm,rfl,rfl,HV⟩:=hrel;have hlen:(Gr.vals ((s.drop k).take m)).length=m:=by simp[Gr.vals];omega
  have HLN:=Lib.hid hlen;have HWS:Hid (w.heap.size<=wr.heap.size):=Lib.hid HV.out.2.2.size;clear hlen;by_cases hlt:k+m<s.length
  ·have hltI:((k+m:Nat):Int)<(s.length:Int):=by omega
   obtain⟨b,hb⟩:∃b:Nat,(s[k+m]'(by omega)).toNat=b:=⟨_,rfl⟩
   have hbv:(((⟨s.toArray⟩:ByteArray)[k+m]'(by simpa[ByteArray.size]using hlt)).toNat:Int)=(b:Int):=by rw[<-hb];rfl
   have hbl:b<256:=by rw[<-hb];exact(s[k+m]'hlt).toNat_lt
   have HBD:Hid (Gr.dig (s[k+m]'hlt)=(decide (48<=b) && decide (b<=57))/\Gr.dv (s[k+m]'hlt)=b-48):=Lib.hid ⟨by
    rw[Bool.eq_iff_iff,Gr.dig_iff,hb];simp,by unfold Gr.dv;rw[hb]⟩
   clear hb;by_cases hd:48<=b/\b<=57
   ·obtain⟨h48,h57⟩:=hd;have a48:(48:Int)<=(b:Int):=by omega
    have a57:(b:Int)<=57:=by omega
    have HTK:Hid ((s.drop k).take (m+1)=(s.drop k).take m++[s[k+m]'hlt]):=Lib.hid (by
     rw[List.take_succ_eq_append_getElem (by simp;omega),List.getElem_drop])
    go_upto_region 3 with fail;obtain⟨x,hx⟩:∃x:Nat,b-48=x:=⟨_,rfl⟩
    have hxi:(b:Int)-48=(x:Int):=by omega
    have HX:=Lib.hid hx;clear hx;go_wp2_with (at_builtin;go_must (refine wpList_append_row _ rfl (.tmp 23) (.tmp 29) 33 3 8 rfl intT w.heap.size (.slice A m c) (Gr.vals ((s.drop k).take m)) rfl (HV.out.2.1.alloc _) _ _ 1 [x] rfl (RowAt.lit1 _ _ (by first|rfl| (rw[hxi];rfl)) _ ?_) ?_ ?_ ?_))
    any_goals (first|rfl| (have:=HLN.out;simp;omega)| (rw[World.size_alloc];have:=HWS.out;omega))
    intro v' w3 hown hg hat;have hb3:Below w.heap.size w w3:=(HV.out.2.2.alloc HWS.out _).trans ((HV.out.2.1.alloc _).grown_below hg (by rw[World.size_alloc];have:=HWS.out;omega));obtain⟨A3,c3,hv3,_⟩:=hown.form;have hlen3:(Gr.vals ((s.drop k).take m)++[x]).length=m+1:=by rw[List.length_append,HLN.out];rfl
    rw[hlen3]at hv3;subst hv3;have HNX:Hid (((s.drop k).take (m+1)).all Gr.dig=true/\OwnRow intL w3 w.heap.size 3 (.slice A3 (m+1) c3) (Gr.vals ((s.drop k).take (m+1)))/\Below w.heap.size w w3):=Lib.hid ⟨by
     rw[HTK.out,List.all_append,HV.out.1];simp[HBD.out.1,h48,h57],by
     rw[HTK.out,show Gr.vals ((s.drop k).take m++[s[k+m]'hlt])=Gr.vals ((s.drop k).take m)++[x]from by simp[Gr.vals,HBD.out.2,HX.out]];exact hown,hb3⟩
    clear hown hg hat hb3 hlen3;go_wp2_with fail;go_roundw
    case rel=>exact⟨m+1,A3,c3,by omega,by go_num,rfl,HNX⟩
    case measure=>simp[intOf];omega
   ·have HE:Hid (rdg s k=(s.drop k).take m):=Lib.hid (tw_take s k m HV.out.1 hm (fun h2=>by rw[HBD.out.1];by_cases h48:48<=b<;>simp[h48]<;>omega));by_cases h48:48<=b
    ·have a48:(48:Int)<=(b:Int):=by omega
     have a57:¬(b:Int)<=57:=by omega
     go_wp2_with fail;go_ret2;exact dig_end HE.out (by omega) hm HV.out.2.1 HV.out.2.2
    ·have a48:¬(48:Int)<=(b:Int):=by omega
     go_wp2_with fail;go_ret2;exact dig_end HE.out (by omega) hm HV.out.2.1 HV.out.2.2
  ·have hltI:¬((k+m:Nat):Int)<(s.length:Int):=by omega
   have HE:Hid (rdg s k=(s.drop k).take m):=Lib.hid (tw_take s k m HV.out.1 hm (fun h2=>absurd h2 hlt));go_wp2_with fail;go_ret2;exact dig_end HE.out (by omega) hm HV.out.2.1 HV.out.2.2
theorem rnumber_nat (n:Nat) (hn:n<=4611686018427387904) (w:World):Calls Tryz.prog 100 #[.int .i64 (n:Int)] w fun e w'=>e=.returned (.string ⟨(Lib.decDigits n).toArray⟩)/\Below w.heap.size w w':=by
 induction n using Nat.strongRecOn generalizing w with
 |_ n ih=>
  have h0:¬(n:Int)<0:=by omega
  by_cases h9:9<n
  ·have h9I:(9:Int)<(n:Int):=by omega
   have HI1:=Lib.hid (fun W=>ih (n /10) (by omega) (by omega) W);have HI2:=Lib.hid (fun W=>ih (n%10) (by omega) (by omega) W);have HD:=Lib.hid (Gr.decDigits_snoc (u:=n) (by omega));have h1:((n:Int) /10)=((n /10:Nat):Int):=by omega
   have h2:((n:Int)%10)=((n%10:Nat):Int):=by omega
   have hl1:(Lib.decDigits (n /10)).length<=20:=by rw[Lib.decDigits_length];exact Gr.nDigits_le 19 _ (by omega)
   have hl2:(Lib.decDigits (n%10)).length<=20:=by rw[Lib.decDigits_length];exact Gr.nDigits_le 19 _ (by omega)
   have hadd:=fun W=>add_run (Lib.decDigits (n /10)) (Lib.decDigits (n%10)) (by omega) W
   have hr:Lib.decDigits n=Lib.decDigits (n /10)++Lib.decDigits (n%10):=by rw[HD.out,Lib.decDigits_one (i:=n%10) (by omega)]
   obtain⟨d1,hd1⟩:∃d1,Lib.decDigits (n /10)=d1:=⟨_,rfl⟩
   obtain⟨d2,hd2⟩:∃d2,Lib.decDigits (n%10)=d2:=⟨_,rfl⟩
   have HR:Hid (Lib.decDigits n=d1++d2):=Lib.hid (by rw[hr,hd1,hd2]);rw[hd1,hd2]at hadd;rw[hd1,<-h1]at HI1;rw[hd2,<-h2]at HI2;have HN:=Lib.hid hn;have hnI:(n:Int)<=4611686018427387904:=by omega
   clear ih h1 h2 hl1 hl2 hr hd1 hd2 HD hn;go_enter Tryz.func100,Tryz.ntmps100;go_wp2_with fail;refine(HI1.out _).mono ?_;rintro e w1 ⟨rfl,hb1⟩;have HB1:=Lib.hid hb1;clear hb1;go_wp2_with fail;refine(HI2.out _).mono ?_;rintro e w2 ⟨rfl,hb2⟩;have HB2:=Lib.hid (HB1.out.trans (hb2.mono HB1.out.size));clear hb2;go_wp2_with fail;go_ret;rw[HR.out];exact⟨rfl,HB2.out⟩
  ·have h9I:¬(9:Int)<(n:Int):=by omega
   obtain⟨c,hc⟩:∃c:UInt8,c=UInt8.ofNat (48+n):=⟨_,rfl⟩
   have hci:(48:Int)+(n:Int)=(c.toNat:Int):=by rw[hc,UInt8.toNat_ofNat'];omega
   have HR:Hid (Lib.decDigits n=[c]):=Lib.hid (by rw[hc];exact Lib.decDigits_one (by omega));have hcv:=fun W=>conv_bytes (B:=w.heap.size+1) W [c] (some ⟨w.heap.size,0,none⟩) 1
   have HCV:=Lib.hid hcv;have hn9:(n:Int)<=9:=by omega
   have hn0:(0:Int)<=(n:Int):=by omega
   clear ih hc hcv hn;go_enter Tryz.func100,Tryz.ntmps100;go_upto_region 5 with fail;have hcv2:(convert 119 9 (.slice (some ⟨w.heap.size,0,none⟩) 1 1)).run Tryz.prog (w.alloc (.cells #[.int .u8 (c.toNat:Int)] 5))=.ok (.string ⟨[c].toArray⟩) (w.alloc (.cells #[.int .u8 (c.toNat:Int)] 5)):=HCV.out (w.alloc (.cells #[.int .u8 (c.toNat:Int)] 5)) (RowAt.lit1 c _ rfl _ rfl);rw[<-hci]at hcv2;clear hci;go_wp2_with fail;go_ret;rw[HR.out];exact⟨rfl,(Below.refl _ _).alloc (Nat.le_refl _) _⟩
theorem rnumber_any (n:Int) (h0:-4611686018427387904<=n) (h1:n<=4611686018427387904) (w:World):Calls Tryz.prog 100 #[.int .i64 n] w fun e w'=>e=.returned (.string ⟨(Lib.itoa n).toArray⟩)/\Below w.heap.size w w':=by
 by_cases hn:n<0
 ·have HI:=Lib.hid (fun W=>rnumber_nat n.natAbs (by omega) W);rw[show(n.natAbs:Int)=-n from by omega]at HI;have hl1:(Lib.decDigits n.natAbs).length<=20:=by rw[Lib.decDigits_length];exact Gr.nDigits_le 19 _ (by omega)
  have hadd:=fun W=>add_run [45] (Lib.decDigits n.natAbs) (by simp;omega) W
  have HR:Hid (Lib.itoa n=[45]++Lib.decDigits n.natAbs):=Lib.hid (by unfold Lib.itoa;rw[if_pos hn];rfl);clear hl1;go_enter Tryz.func100,Tryz.ntmps100;go_wp2_with fail;refine(HI.out _).mono ?_;rintro e w1 ⟨rfl,hb1⟩;have HB1:=Lib.hid hb1;clear hb1;go_wp2_with fail;go_ret;rw[HR.out];exact⟨rfl,HB1.out⟩
 ·have:=rnumber_nat n.toNat (by omega) w;rw[show(n.toNat:Int)=n from by omega]at this;unfold Lib.itoa;rw[if_neg hn];exact this
end Go.Proofs.YtoigpackhninoaaGreatDoor
namespace Go.Proofs.YtoigpackhninoaaGreatDoor
set_option maxRecDepth 100000
set_option maxHeartbeats 16000000
open Go.RowKit
theorem rlimit_any (x:Gr.Dn) (A:Option Addr) (c:Nat) (hl:x.d.length<=1073741823) (w:World):
 Calls Tryz.prog 76 #[.agg #[.bool x.neg,.slice A x.d.length c,.int .i64 x.e]] w fun e w'=>e=.returned (.int .i64 (Gr.lim x:Nat))/\Below w.heap.size w w':=by
 obtain⟨neg,d,e⟩:=x;simp only at hl ⊢;have hb:Below w.heap.size w (w.alloc (.cells #[.bool neg,.slice A d.length c,.int .i64 e] 69)):=(Below.refl _ _).alloc (Nat.le_refl _) _;have HB:=Lib.hid hb;clear hb;by_cases h1:400<d.length
 ·have hF:Hid (Gr.lim ⟨neg,d,e⟩=6):=Lib.hid (by unfold Gr.lim;rw[if_pos h1]);have h1I:(400:Int)<(d.length:Int):=by omega
  go_enter Tryz.func76,Tryz.ntmps76;go_wp2_with fail;go_ret;rw[hF.out];exact⟨rfl,HB.out⟩
 ·have h1I:¬(400:Int)<(d.length:Int):=by omega
  by_cases h2:2000<e
  ·have hF:Hid (Gr.lim ⟨neg,d,e⟩=2):=Lib.hid (by unfold Gr.lim;rw[if_neg h1,if_pos (.inr h2)]);go_enter Tryz.func76,Tryz.ntmps76;go_wp2_with fail;go_ret;rw[hF.out];exact⟨rfl,HB.out⟩
  ·by_cases h3:e< -2000
   ·have hF:Hid (Gr.lim ⟨neg,d,e⟩=2):=Lib.hid (by unfold Gr.lim;rw[if_neg h1,if_pos (.inl h3)]);go_enter Tryz.func76,Tryz.ntmps76;go_wp2_with fail;go_ret;rw[hF.out];exact⟨rfl,HB.out⟩
   ·have hF:Hid (Gr.lim ⟨neg,d,e⟩=0):=Lib.hid (by unfold Gr.lim;rw[if_neg h1,if_neg (fun h=>h.elim h3 h2)]);go_enter Tryz.func76,Tryz.ntmps76;go_wp2_with fail;go_ret;rw[hF.out];exact⟨rfl,HB.out⟩
theorem rsign_any (neg:Bool) (A:Option Addr) (n c:Nat) (e:Int) (w:World):
 Calls Tryz.prog 129 #[.agg #[.bool neg,.slice A n c,.int .i64 e]] w fun e' w'=>e'=.returned (.string ⟨(signS neg).toArray⟩)/\Below w.heap.size w w':=by
 have hb:Below w.heap.size w (w.alloc (.cells #[.bool neg,.slice A n c,.int .i64 e] 69)):=(Below.refl _ _).alloc (Nat.le_refl _) _;have HB:=Lib.hid hb;clear hb;cases neg
 all_goals
  go_enter Tryz.func129,Tryz.ntmps129;go_wp2_with fail;go_ret;exact⟨rfl,HB.out⟩
theorem word_any (A:Option Addr) (d:List Nat) (c:Nat) (hl:d.length<=1073741823) (hd:∀v∈d,v<10) (w:World) (h:RowAt intL w w.heap.size A d):
 Calls Tryz.prog 130 #[.slice A d.length c] w fun e' w'=>e'=.returned (.string ⟨(d.map Gr.ch).toArray⟩)/\Below w.heap.size w w':=by
 have HD:=Lib.hid hd;have HRow:=Lib.hid h;clear hd h;go_enter Tryz.func130,Tryz.ntmps130;go_wp2_with fail;go_loopw [3,4] (fun s3 s4 wr=>∃k:Nat,k<=d.length/\s3=.string ⟨((d.take k).map Gr.ch).toArray⟩/\s4=.int .i64 k/\Hid (Below w.heap.size w wr)) (fun _ s4 _=>d.length-(intOf s4).toNat)
 case atStart=>exact⟨0,by omega,rfl,rfl,Lib.hid (Below.refl _ _)⟩
 case round=>
  obtain⟨k,hk,rfl,rfl,HV⟩:=hrel;by_cases hlt:k<d.length
  ·have hltI:(k:Int)<(d.length:Int):=by omega
   obtain⟨v,hv⟩:∃v,d[k]=v:=⟨_,rfl⟩
   have hv10:v<10:=by rw[<-hv];exact HD.out _ (List.getElem_mem hlt)
   obtain⟨ad,rfl,_,y0⟩:=int_at (HRow.out.below HV.out) hlt;rw[hv]at y0;have HN:=Lib.hid (fun W=>rnumber_nat v (by omega) W);rw[Lib.decDigits_one hv10,show[UInt8.ofNat (48+v)]=[Gr.ch v]from rfl]at HN;have hln:((d.take k).map Gr.ch).length=k:=by simp;omega
   have hadd:=fun W=>add_run ((d.take k).map Gr.ch) [Gr.ch v] (by rw[hln];simp;omega) W
   have HNX:Hid ((d.take (k+1)).map Gr.ch=(d.take k).map Gr.ch++[Gr.ch v]):=Lib.hid (by
    rw[List.take_succ_eq_append_getElem hlt,List.map_append,hv];rfl)
   obtain⟨r,hr⟩:∃r,(d.take k).map Gr.ch=r:=⟨_,rfl⟩
   obtain⟨r2,hr2⟩:∃r2,(d.take (k+1)).map Gr.ch=r2:=⟨_,rfl⟩
   obtain⟨x,hx⟩:∃x:Gr.Str,[Gr.ch v]=x:=⟨_,rfl⟩
   rw[hr]at hadd HNX ⊢;rw[hr2]at HNX;rw[hx]at hadd HNX HN;have HR2:=Lib.hid hr2;clear hv hv10 hln hr hr2 hx;go_wp2_with fail;refine(HN.out _).mono ?_;rintro e w2 ⟨rfl,hb2⟩;have HB2:Hid (Below w.heap.size w w2):=Lib.hid (HV.out.trans (hb2.mono HV.out.size));clear hb2;go_wp2_with fail;go_roundw
   case rel=>exact⟨k+1,by omega,by rw[HR2.out,HNX.out],by go_num,HB2⟩
   case measure=>simp[intOf];omega
  ·have hltI:¬(k:Int)<(d.length:Int):=by omega
   have HE:Hid ((d.map Gr.ch).take k=d.map Gr.ch):=Lib.hid (List.take_of_length_le (by simp;omega));go_wp2_with fail;go_ret;rw[HE.out];exact⟨rfl,HV.out⟩
theorem rcoef_any (x:Gr.Dn) (A:Option Addr) (c:Nat) (hl:x.d.length<=1073741823) (hd:∀v∈x.d,v<10) (w:World) (h:RowAt intL w w.heap.size A x.d):
 Calls Tryz.prog 99 #[.agg #[.bool x.neg,.slice A x.d.length c,.int .i64 x.e]] w fun e' w'=>e'=.returned (.string ⟨(Gr.coef x).toArray⟩)/\Below w.heap.size w w':=by
 obtain⟨neg,d,E⟩:=x;simp only at hl hd h ⊢;have HRow:=Lib.hid h;have HD:=Lib.hid hd;clear h hd;obtain⟨r,hr⟩:∃r,Gr.coef ⟨neg,d,E⟩=r:=⟨_,rfl⟩
 have HR:=Lib.hid hr;rw[hr];clear hr;go_enter Tryz.func99,Tryz.ntmps99;go_upto_region 1 with fail;obtain⟨w0,hw0⟩:∃w0,w.alloc (.cells #[.bool neg,.slice A d.length c,.int .i64 E] 69)=w0:=⟨_,rfl⟩
 obtain⟨gb,hgb⟩:∃gb,w.heap.size=gb:=⟨_,rfl⟩
 have HB0:Hid (Blk w0 gb 69 #[.bool neg,.slice A d.length c,.int .i64 E]/\Below gb w w0/\w0.heap.size=gb+1):=Lib.hid (by rw[<-hw0,<-hgb];exact⟨Blk.new _ _ _,(Below.refl _ _).alloc (Nat.le_refl _) _,by simp⟩);have HGB:=Lib.hid hgb;rw[hgb]at HRow;(try rw[hw0]);(try rw[hgb]);clear hw0 hgb;have q1:w0.cell? ⟨gb,1,none⟩=some (.slice A d.length c):=HB0.out.1.cell 1;by_cases h0:d=[]
 ·subst h0;have HF:Hid (r=[48]):=Lib.hid (by rw[<-HR.out];rfl);go_wp2_with fail;go_ret;rw[HF.out,HGB.out];exact⟨rfl,HB0.out.2.1⟩
 ·have hlp:=List.length_pos_iff.2 h0;have h1:¬((d.length:Int)=0):=by omega
  have h1b:((d.length:Int)==0)=false:=by simpa using h0
  have HF:Hid (r=signS neg++d.map Gr.ch):=Lib.hid (by rw[<-HR.out];unfold Gr.coef;rw[if_neg h0];rfl);go_upto_region 3 with fail;clear q1;have hsz:w0.heap.size=gb+1:=HB0.out.2.2;have HC:Hid (∀W:WB w0.heap.size w0,Calls Tryz.prog 129 #[.agg #[.bool neg,.slice A d.length c,.int .i64 E]] W.w (fun e W'=>e=.returned (.string ⟨(signS neg).toArray⟩)/\Below w0.heap.size w0 W')/\Calls Tryz.prog 130 #[.slice A d.length c] W.w (fun e W'=>e=.returned (.string ⟨(d.map Gr.ch).toArray⟩)/\Below w0.heap.size w0 W')):=Lib.hid (fun W=>⟨(rsign_any neg A d.length c E W.w).mono (fun _ _ ⟨e1,e2⟩=>⟨e1,W.h.trans (e2.mono W.h.size)⟩),(word_any A d c hl HD.out W.w (((HRow.out.below HB0.out.2.1).below (W.h.mono (by omega))).more (by have:=W.h.size;omega))).mono (fun _ _ ⟨e1,e2⟩=>⟨e1,W.h.trans (e2.mono W.h.size)⟩)⟩);have p0:∀W:WB w0.heap.size w0,W.w.cell? ⟨gb,0,none⟩=some (.bool neg):=fun W=>(W.h.cell (p:=⟨gb,0,none⟩) (by simp;omega)).trans (HB0.out.1.cell 0)
  have p1:∀W:WB w0.heap.size w0,W.w.cell? ⟨gb,1,none⟩=some (.slice A d.length c):=fun W=>(W.h.cell (p:=⟨gb,1,none⟩) (by simp;omega)).trans (HB0.out.1.cell 1)
  have p2:∀W:WB w0.heap.size w0,W.w.cell? ⟨gb,2,none⟩=some (.int .i64 E):=fun W=>(W.h.cell (p:=⟨gb,2,none⟩) (by simp;omega)).trans (HB0.out.1.cell 2)
  clear hsz;have hadd:=fun W=>add_run (signS neg) (d.map Gr.ch) (by have:=signS_len neg;rw[List.length_map];omega) W
  refine wp_region_grow w0.heap.size w0 (by kernel_rfl) (by kernel_rfl) (Below.refl _ _) ?_
  repeat (go_big_quiet_step ((first| (with_reducible refine Calls.grow (HC.out _).1)| (with_reducible refine Calls.grow (HC.out _).2))))
  refine wpQuiet_nil ?_;rintro _ ⟨wz,rfl⟩;go_wp2_with fail;go_ret;rw[HF.out,HGB.out];exact⟨rfl,HB0.out.2.1.trans (wz.h.mono (by have:=HB0.out.2.2;omega))⟩
theorem rshow_any (x:Gr.Dn) (A:Option Addr) (c:Nat) (hl:x.d.length<=1073741823) (hd:∀v∈x.d,v<10) (h0:-4611686018427387904<=x.e) (h1:x.e<=4611686018427387904) (w:World) (h:RowAt intL w w.heap.size A x.d):
 Calls Tryz.prog 77 #[.agg #[.bool x.neg,.slice A x.d.length c,.int .i64 x.e]] w fun e' w'=>e'=.returned (.string ⟨(Gr.text x).toArray⟩)/\Below w.heap.size w w':=by
 have HCO:=Lib.hid (fun(W:World) (hW:RowAt intL W W.heap.size A x.d)=>rcoef_any x A c hl hd W hW);have hcl:(Gr.coef x).length<=1073741825:=by
  unfold Gr.coef;split
  ·simp
  ·have:=signS_len x.neg;unfold signS at this;rw[List.length_append,List.length_map];omega
 have hil:=itoa_len x.e (by omega) (by omega);obtain⟨r,hr⟩:∃r,Gr.coef x=r:=⟨_,rfl⟩
 obtain⟨r2,hr2⟩:∃r2,Gr.text x=r2:=⟨_,rfl⟩
 have HR:Hid (r2=r++101::Lib.itoa x.e):=Lib.hid (by rw[<-hr2,<-hr];rfl);rw[hr]at HCO hcl;rw[hr2];clear hr hr2;obtain⟨neg,d,E⟩:=x;simp only at hl h0 h1 h HCO hil HR ⊢;obtain⟨t,ht⟩:∃t,Lib.itoa E=t:=⟨_,rfl⟩
 have HIT:=Lib.hid (fun(W:World)=>rnumber_any E h0 h1 W);rw[ht]at hil HR HIT;clear ht;have HRow:=Lib.hid h;clear h hd;go_enter Tryz.func77,Tryz.ntmps77;go_upto_region 1 with fail;obtain⟨w0,hw0⟩:∃w0,w.alloc (.cells #[.bool neg,.slice A d.length c,.int .i64 E] 69)=w0:=⟨_,rfl⟩
 obtain⟨gb,hgb⟩:∃gb,w.heap.size=gb:=⟨_,rfl⟩
 have HB0:Hid (Blk w0 gb 69 #[.bool neg,.slice A d.length c,.int .i64 E]/\Below gb w w0/\w0.heap.size=gb+1):=Lib.hid (by rw[<-hw0,<-hgb];exact⟨Blk.new _ _ _,(Below.refl _ _).alloc (Nat.le_refl _) _,by simp⟩);have HGB:=Lib.hid hgb;rw[hgb]at HRow;(try rw[hw0]);(try rw[hgb]);clear hw0 hgb;have hsz:w0.heap.size=gb+1:=HB0.out.2.2;have HC:Hid (∀W:WB w0.heap.size w0,Calls Tryz.prog 99 #[.agg #[.bool neg,.slice A d.length c,.int .i64 E]] W.w (fun e W'=>e=.returned (.string ⟨r.toArray⟩)/\Below w0.heap.size w0 W')/\Calls Tryz.prog 100 #[.int .i64 E] W.w (fun e W'=>e=.returned (.string ⟨t.toArray⟩)/\Below w0.heap.size w0 W')):=Lib.hid (fun W=>⟨(HCO.out W.w (((HRow.out.below HB0.out.2.1).below (W.h.mono (by omega))).more (by have:=W.h.size;omega))).mono (fun _ _ ⟨e1,e2⟩=>⟨e1,W.h.trans (e2.mono W.h.size)⟩),(HIT.out W.w).mono (fun _ _ ⟨e1,e2⟩=>⟨e1,W.h.trans (e2.mono W.h.size)⟩)⟩);have p0:∀W:WB w0.heap.size w0,W.w.cell? ⟨gb,0,none⟩=some (.bool neg):=fun W=>(W.h.cell (p:=⟨gb,0,none⟩) (by simp;omega)).trans (HB0.out.1.cell 0)
 have p1:∀W:WB w0.heap.size w0,W.w.cell? ⟨gb,1,none⟩=some (.slice A d.length c):=fun W=>(W.h.cell (p:=⟨gb,1,none⟩) (by simp;omega)).trans (HB0.out.1.cell 1)
 have p2:∀W:WB w0.heap.size w0,W.w.cell? ⟨gb,2,none⟩=some (.int .i64 E):=fun W=>(W.h.cell (p:=⟨gb,2,none⟩) (by simp;omega)).trans (HB0.out.1.cell 2)
 have hadd:=fun W=>add_run r [101] (by simp;omega) W
 have hadd2:=fun W=>add_run (r++[101]) t (by simp;omega) W
 clear hsz;refine wp_region_grow w0.heap.size w0 (by kernel_rfl) (by kernel_rfl) (Below.refl _ _) ?_
 repeat (go_big_quiet_step ((first| (with_reducible refine Calls.grow (HC.out _).1)| (with_reducible refine Calls.grow (HC.out _).2))))
 refine wpQuiet_nil ?_;rintro _ ⟨wz,rfl⟩;go_wp2_with fail;go_ret;rw[HR.out,HGB.out];exact⟨rfl,HB0.out.2.1.trans (wz.h.mono (by have:=HB0.out.2.2;omega))⟩
end Go.Proofs.YtoigpackhninoaaGreatDoor
