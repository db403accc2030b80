import Derived.Test.YtoigpackhninoaaGreatDoorZ15
import Derived.Test.YtoigpackhninoaaGreatDoorZ05
import Derived.Lib.AppendIntMem
namespace Go.Proofs.YtoigpackhninoaaGreatDoor
open Gr
open _root_.Go.Proofs.Tryz
open Lib (hid)
set_option maxRecDepth 100000
set_option maxHeartbeats 16000000
open Go.RowKit
theorem zdn (neg:Bool):(signS neg).length<=1:=by cases neg<;>decide
theorem zsy (x:Gr.Dn) (A:Option Addr) (c:Nat) (hl:x.d.length<=1073741823) (hd:∀v∈x.d,v<10) (w:World) (h:RowAt byteL w w.heap.size A (d8 x.d)):
 Calls prog 144 #[.agg #[.bool x.neg,.slice A x.d.length c,.int .i64 x.e]] w fun e' w'=>e'=.returned (.string ⟨(coef x).toArray⟩)/\Below w.heap.size w w':=by
 obtain⟨neg,d,E⟩:=x;simp only at hl hd h ⊢;have HRow:=hid h;have HD:=hid hd;clear h hd;obtain⟨r,hr⟩:=ex (coef ⟨neg,d,E⟩)
 have HR:=hid hr;rw[hr];clear hr;go_enter func144,ntmps144;go_upto_region 1 with fail;obtain⟨w0,hw0⟩:=ex (w.alloc (.cells #[.bool neg,.slice A d.length c,.int .i64 E] 125))
 obtain⟨gb,hgb⟩:=ex w.heap.size
 have HB0:Hid (Blk w0 gb 125 #[.bool neg,.slice A d.length c,.int .i64 E]/\Below gb w w0/\w0.heap.size=gb+1):=hid (by rw[<-hw0,<-hgb];exact⟨Blk.new _ _ _,(Below.refl _ _).alloc (Nat.le_refl _) _,by simp⟩);have HGB:=hid hgb;rw[hgb]at HRow;(try rw[hw0]);(try rw[hgb]);clear hw0 hgb;have q1:w0.cell? ⟨gb,1,none⟩=some (.slice A d.length c):=HB0.out.1.cell 1;by_cases h0:d=[]
 ·subst h0;have HF:Hid (r=[48]):=hid (by rw[<-HR.out];rfl);go_wp2;go_ret;rw[HF.out,HGB.out];exact⟨rfl,HB0.out.2.1⟩
 ·have hlp:=List.length_pos_iff.2 h0;have h1:¬((d.length:Int)=0):=by omega
  have h1b:((d.length:Int)==0)=false:=by simpa using h0
  have HF:Hid (r=signS neg++d.map Gr.ch):=hid (by rw[<-HR.out];unfold coef;rw[if_neg h0];rfl);go_upto_region 3 with fail;clear q1;have hsz:w0.heap.size=gb+1:=HB0.out.2.2;have HC:Hid (∀W:WB w0.heap.size w0,Calls prog 172 #[.agg #[.bool neg,.slice A d.length c,.int .i64 E]] W.w (fun e W'=>e=.returned (.string ⟨(signS neg).toArray⟩)/\Below w0.heap.size w0 W')/\Calls prog 173 #[.agg #[.bool neg,.slice A d.length c,.int .i64 E]] W.w (fun e W'=>e=.returned (.string ⟨(d.map Gr.ch).toArray⟩)/\Below w0.heap.size w0 W')):=hid (fun W=>⟨(zsx neg A d.length c E W.w).mono (fun _ _ ⟨e1,e2⟩=>⟨e1,W.h.trans (e2.mono W.h.size)⟩),(zmv neg A d c E hl HD.out W.w (((HRow.out.below HB0.out.2.1).below (W.h.mono (by omega))).more (by have:=W.h.size;omega))).mono (fun _ _ ⟨e1,e2⟩=>⟨e1,W.h.trans (e2.mono W.h.size)⟩)⟩);have p0:∀W:WB w0.heap.size w0,W.w.cell? ⟨gb,0,none⟩=some (.bool neg):=fun W=>(W.h.cell (p:=⟨gb,0,none⟩) (by simp;omega)).trans (HB0.out.1.cell 0)
  have p1:∀W:WB w0.heap.size w0,W.w.cell? ⟨gb,1,none⟩=some (.slice A d.length c):=fun W=>(W.h.cell (p:=⟨gb,1,none⟩) (by simp;omega)).trans (HB0.out.1.cell 1)
  have p2:∀W:WB w0.heap.size w0,W.w.cell? ⟨gb,2,none⟩=some (.int .i64 E):=fun W=>(W.h.cell (p:=⟨gb,2,none⟩) (by simp;omega)).trans (HB0.out.1.cell 2)
  clear hsz;have hadd:=fun W=>zab (signS neg) (d.map Gr.ch) (by have:=zdn neg;rw[List.length_map];omega) W
  refine zaa w0.heap.size w0 (by kernel_rfl) (by kernel_rfl) (Below.refl _ _) ?_
  repeat (go_big_quiet_step ((first| (with_reducible refine Calls.grow (HC.out _).1)| (with_reducible refine Calls.grow (HC.out _).2))))
  refine wpQuiet_nil ?_;rintro _ ⟨wz,rfl⟩;go_wp2;go_ret;rw[HF.out,HGB.out];exact⟨rfl,HB0.out.2.1.trans (wz.h.mono (by have:=HB0.out.2.2;omega))⟩
theorem zhd (n:Int) (h0:-9223372036854775808<=n) (h1:n<=9223372036854775807) (w:World) (hT:UT w):
 Calls prog 145 #[.int .i64 n] w fun e w'=>e=.returned (.string ⟨(Lib.itoa n).toArray⟩)/\Below w.heap.size w w':=
 (strconv_Itoa n h0 h1 w hT.pow).mono (fun _ _ ⟨e,k,os,h⟩=>⟨e,by rw[h];exact Lib.below_grow _ _ (Nat.le_refl _) _ _⟩)
theorem zhe (n:Int) (h0:-9223372036854775808<=n) (h1:n<=9223372036854775807):(Lib.itoa n).length<=21:=by
 have:=zc4 n 19 (by omega);omega
theorem zp0 (x:Gr.Dn) (A:Option Addr) (c:Nat) (hl:x.d.length<=1073741823) (hd:∀v∈x.d,v<10) (h0:-9223372036854775808<=x.e) (h1:x.e<=9223372036854775807) (w:World) (hT:UT w) (h:RowAt byteL w w.heap.size A (d8 x.d)):
 Calls prog 113 #[.agg #[.bool x.neg,.slice A x.d.length c,.int .i64 x.e]] w fun e' w'=>e'=.returned (.string ⟨(Gr.text x).toArray⟩)/\Below w.heap.size w w':=by
 have HCO:=hid (fun(W:World) (hW:RowAt byteL W W.heap.size A (d8 x.d))=>zsy x A c hl hd W hW);have hcl:(coef x).length<=1073741825:=by
  unfold coef;split
  ·simp
  ·have:=zdn x.neg;unfold signS at this;rw[List.length_append,List.length_map];omega
 have hil:=zhe x.e h0 h1;obtain⟨r,hr⟩:=ex (coef x)
 obtain⟨r2,hr2⟩:=ex (Gr.text x)
 have HR:Hid (r2=r++101::Lib.itoa x.e):=hid (by rw[<-hr2,<-hr];rfl);rw[hr]at HCO hcl;rw[hr2];clear hr hr2;obtain⟨neg,d,E⟩:=x;simp only at hl h0 h1 h HCO hil HR ⊢;obtain⟨t,ht⟩:=ex (Lib.itoa E)
 have HIT:=hid (fun(W:World) (hW:UT W)=>zhd E h0 h1 W hW);rw[ht]at hil HR HIT;clear ht;have HRow:=hid h;have HTW:=hid hT;clear h hd hT;go_enter func113,ntmps113;go_upto_region 1 with fail;obtain⟨w0,hw0⟩:=ex (w.alloc (.cells #[.bool neg,.slice A d.length c,.int .i64 E] 125))
 obtain⟨gb,hgb⟩:=ex w.heap.size
 have HB0:Hid (Blk w0 gb 125 #[.bool neg,.slice A d.length c,.int .i64 E]/\Below gb w w0/\w0.heap.size=gb+1):=hid (by rw[<-hw0,<-hgb];exact⟨Blk.new _ _ _,(Below.refl _ _).alloc (Nat.le_refl _) _,by simp⟩);have HT0:Hid (UT w0):=hid (UT.stays _ _ HTW.out (by rw[<-hw0];exact(Below.refl _ _).alloc (Nat.le_refl _) _));have HGB:=hid hgb;rw[hgb]at HRow;(try rw[hw0]);(try rw[hgb]);clear hw0 hgb;have hsz:w0.heap.size=gb+1:=HB0.out.2.2;have HC:Hid (∀W:WB w0.heap.size w0,Calls prog 144 #[.agg #[.bool neg,.slice A d.length c,.int .i64 E]] W.w (fun e W'=>e=.returned (.string ⟨r.toArray⟩)/\Below w0.heap.size w0 W')/\Calls prog 145 #[.int .i64 E] W.w (fun e W'=>e=.returned (.string ⟨t.toArray⟩)/\Below w0.heap.size w0 W')):=hid (fun W=>⟨(HCO.out W.w (((HRow.out.below HB0.out.2.1).below (W.h.mono (by omega))).more (by have:=W.h.size;omega))).mono (fun _ _ ⟨e1,e2⟩=>⟨e1,W.h.trans (e2.mono W.h.size)⟩),(HIT.out W.w (UT.stays _ _ HT0.out W.h)).mono (fun _ _ ⟨e1,e2⟩=>⟨e1,W.h.trans (e2.mono W.h.size)⟩)⟩);have p0:∀W:WB w0.heap.size w0,W.w.cell? ⟨gb,0,none⟩=some (.bool neg):=fun W=>(W.h.cell (p:=⟨gb,0,none⟩) (by simp;omega)).trans (HB0.out.1.cell 0)
 have p1:∀W:WB w0.heap.size w0,W.w.cell? ⟨gb,1,none⟩=some (.slice A d.length c):=fun W=>(W.h.cell (p:=⟨gb,1,none⟩) (by simp;omega)).trans (HB0.out.1.cell 1)
 have p2:∀W:WB w0.heap.size w0,W.w.cell? ⟨gb,2,none⟩=some (.int .i64 E):=fun W=>(W.h.cell (p:=⟨gb,2,none⟩) (by simp;omega)).trans (HB0.out.1.cell 2)
 have hadd:=fun W=>zab r [101] (by simp;omega) W
 have hadd2:=fun W=>zab (r++[101]) t (by simp;omega) W
 clear hsz;refine zaa w0.heap.size w0 (by kernel_rfl) (by kernel_rfl) (Below.refl _ _) ?_
 repeat (go_big_quiet_step ((first| (with_reducible refine Calls.grow (HC.out _).1)| (with_reducible refine Calls.grow (HC.out _).2))))
 refine wpQuiet_nil ?_;rintro _ ⟨wz,rfl⟩;go_wp2;go_ret;rw[HR.out,HGB.out];exact⟨rfl,HB0.out.2.1.trans (wz.h.mono (by have:=HB0.out.2.2;omega))⟩
def rdg (s:Gr.Str) (k:Nat):Gr.Str:=(s.drop k).takeWhile Gr.dig
def zj8 (s:Gr.Str) (k:Nat) (w:World) (e:Ending) (w':World):Prop:=∃A c,e=.returned (.tuple #[.slice A (rdg s k).length c,.int .i64 ((k+(rdg s k).length:Nat):Int)])/\OwnRow intL w' w.heap.size 3 (.slice A (rdg s k).length c) (vals (rdg s k))/\Below w.heap.size w w'
theorem zbc (s:Gr.Str):(vals s).length=s.length:=by simp[vals]
theorem zqz (s:Gr.Str) (k m:Nat) (h:((s.drop k).take m).all Gr.dig=true) (hm:k+m<=s.length) (hn:∀h2:k+m<s.length,Gr.dig (s[k+m]'h2)=false):rdg s k=(s.drop k).take m:=by
 unfold rdg;have h1:s.drop k=(s.drop k).take m++s.drop (k+m):=by
  rw[<-List.drop_drop];exact(List.take_append_drop m (s.drop k)).symm
 rw[h1,List.takeWhile_append_of_pos (by simpa using h)];have h2:(s.drop (k+m)).takeWhile Gr.dig=[]:=by
  rcases Nat.lt_or_ge (k+m) s.length with h3|h3
  ·rw[List.drop_eq_getElem_cons h3,List.takeWhile_cons,hn h3];rfl
  ·rw[List.drop_eq_nil_of_le h3];rfl
 rw[h2,List.append_nil,List.take_append_of_le_length (by simp;omega),List.take_take,Nat.min_self]
theorem zj9 {s:Gr.Str} {k m c:Nat} {A:Option Addr} {w w':World} (h:rdg s k=(s.drop k).take m) (_:0<=m) (hm:k+m<=s.length) (ho:OwnRow intL w' w.heap.size 3 (.slice A m c) (vals ((s.drop k).take m))) (hb:Below w.heap.size w w'):
 zj8 s k w (.returned (.tuple #[.slice A m c,.int .i64 ((k+m:Nat):Int)])) w':=by
 have hl:(rdg s k).length=m:=by rw[h];simp;omega
 unfold zj8;rw[hl,h];exact⟨A,c,rfl,ho,hb⟩
theorem zdd (s:Gr.Str) (hl:s.length<=1073741823) (k:Nat) (hk:k<=s.length) (w:World):
 Calls prog 97 #[.string ⟨s.toArray⟩,.int .i64 (k:Int)] w (zj8 s k w):=by
 go_enter func97,ntmps97;go_wp2_with fail;go_loopw [1,6] (fun s1 s6 wr=>∃(m:Nat) (A:Option Addr) (c:Nat),k+m<=s.length/\s1=.int .i64 ((k+m:Nat):Int)/\s6=.slice A m c/\Hid (((s.drop k).take m).all Gr.dig=true/\OwnRow intL wr w.heap.size 3 (.slice A m c) (vals ((s.drop k).take m))/\Below w.heap.size w wr)) (fun s1 _ _=>s.length-(intOf s1).toNat)
 case atStart=>exact⟨0,none,0,by omega,rfl,rfl,hid ⟨by simp,OwnRow.nil,Below.refl _ _⟩⟩
 case round=>
  obtain⟨m,A,c,hm,rfl,rfl,HV⟩:=hrel;have hlen:(vals ((s.drop k).take m)).length=m:=by simp[vals];omega
  have HLN:=hid hlen;have HWS:Hid (w.heap.size<=wr.heap.size):=hid HV.out.2.2.size;clear hlen;by_cases hlt:k+m<s.length
  ·have hltI:((k+m:Nat):Int)<(s.length:Int):=by omega
   obtain⟨b,hb⟩:∃b:Nat,(s[k+m]'(by omega)).toNat=b:=⟨_,rfl⟩
   have hbv:(((⟨s.toArray⟩:ByteArray)[k+m]'(by simpa[ByteArray.size]using hlt)).toNat:Int)=(b:Int):=by rw[<-hb];rfl
   have hbl:b<256:=by rw[<-hb];exact(s[k+m]'hlt).toNat_lt
   have HBD:Hid (Gr.dig (s[k+m]'hlt)=(decide (48<=b) && decide (b<=57))/\Gr.dv (s[k+m]'hlt)=b-48):=hid ⟨by
    rw[Bool.eq_iff_iff,zbh,hb];simp,by unfold Gr.dv;rw[hb]⟩
   clear hb;by_cases hd:48<=b/\b<=57
   ·obtain⟨h48,h57⟩:=hd;have a48:(48:Int)<=(b:Int):=by omega
    have a57:(b:Int)<=57:=by omega
    have HTK:Hid ((s.drop k).take (m+1)=(s.drop k).take m++[s[k+m]'hlt]):=hid (by
     rw[List.take_succ_eq_append_getElem (by simp;omega),List.getElem_drop])
    go_upto_region 3 with fail;obtain⟨x,hx⟩:∃x:Nat,b-48=x:=⟨_,rfl⟩
    have hxi:(b:Int)-48=(x:Int):=by omega
    have HX:=hid hx;clear hx;go_wp2_with (at_builtin;go_must (refine zac _ rfl (.tmp 23) (.tmp 29) 33 3 8 rfl intT w.heap.size (.slice A m c) (vals ((s.drop k).take m)) rfl (HV.out.2.1.alloc _) _ _ 1 [x] rfl (RowAt.lit1 _ _ (by first|rfl| (rw[hxi];rfl)) _ ?_) ?_ ?_ ?_))
    any_goals (first|rfl| (have:=HLN.out;simp;omega)| (rw[World.size_alloc];have:=HWS.out;omega))
    intro v' w3 hown hg hat;have hb3:Below w.heap.size w w3:=(HV.out.2.2.alloc HWS.out _).trans ((HV.out.2.1.alloc _).grown_below hg (by rw[World.size_alloc];have:=HWS.out;omega));obtain⟨A3,c3,hv3,_⟩:=hown.form;have hlen3:(vals ((s.drop k).take m)++[x]).length=m+1:=by rw[List.length_append,HLN.out];rfl
    rw[hlen3]at hv3;subst hv3;have HNX:Hid (((s.drop k).take (m+1)).all Gr.dig=true/\OwnRow intL w3 w.heap.size 3 (.slice A3 (m+1) c3) (vals ((s.drop k).take (m+1)))/\Below w.heap.size w w3):=hid ⟨by
     rw[HTK.out,List.all_append,HV.out.1];simp[HBD.out.1,h48,h57],by
     rw[HTK.out,show vals ((s.drop k).take m++[s[k+m]'hlt])=vals ((s.drop k).take m)++[x]from by simp[vals,HBD.out.2,HX.out]];exact hown,hb3⟩
    clear hown hg hat hb3 hlen3;go_wp2;go_roundw
    case rel=>exact⟨m+1,A3,c3,by omega,by go_num,rfl,HNX⟩
    case measure=>simp[intOf];omega
   ·have HE:Hid (rdg s k=(s.drop k).take m):=hid (zqz s k m HV.out.1 hm (fun h2=>by rw[HBD.out.1];by_cases h48:48<=b<;>simp[h48]<;>omega));by_cases h48:48<=b
    ·have a48:(48:Int)<=(b:Int):=by omega
     have a57:¬(b:Int)<=57:=by omega
     go_wp2;go_ret2;exact zj9 HE.out (by omega) hm HV.out.2.1 HV.out.2.2
    ·have a48:¬(48:Int)<=(b:Int):=by omega
     go_wp2;go_ret2;exact zj9 HE.out (by omega) hm HV.out.2.1 HV.out.2.2
  ·have hltI:¬((k+m:Nat):Int)<(s.length:Int):=by omega
   have HE:Hid (rdg s k=(s.drop k).take m):=hid (zqz s k m HV.out.1 hm (fun h2=>absurd h2 hlt));go_wp2;go_ret2;exact zj9 HE.out (by omega) hm HV.out.2.1 HV.out.2.2
theorem zde (n:Nat) (hn:n<=4611686018427387904) (w:World):Calls prog 100 #[.int .i64 (n:Int)] w fun e w'=>e=.returned (.string ⟨(Lib.decDigits n).toArray⟩)/\Below w.heap.size w w':=by
 induction n using Nat.strongRecOn generalizing w with
 |_ n ih=>
  have h0:¬(n:Int)<0:=by omega
  by_cases h9:9<n
  ·have h9I:(9:Int)<(n:Int):=by omega
   have HI1:=hid (fun W=>ih (n /10) (by omega) (by omega) W);have HI2:=hid (fun W=>ih (n%10) (by omega) (by omega) W);have HD:=hid (zat (u:=n) (by omega));have h1:((n:Int) /10)=((n /10:Nat):Int):=by omega
   have h2:((n:Int)%10)=((n%10:Nat):Int):=by omega
   have hl1:(Lib.decDigits (n /10)).length<=20:=by rw[Lib.decDigits_length];exact zbn 19 _ (by omega)
   have hl2:(Lib.decDigits (n%10)).length<=20:=by rw[Lib.decDigits_length];exact zbn 19 _ (by omega)
   have hadd:=fun W=>zab (Lib.decDigits (n /10)) (Lib.decDigits (n%10)) (by omega) W
   have hr:Lib.decDigits n=Lib.decDigits (n /10)++Lib.decDigits (n%10):=by rw[HD.out,Lib.decDigits_one (i:=n%10) (by omega)]
   obtain⟨d1,hd1⟩:=ex (Lib.decDigits (n /10))
   obtain⟨d2,hd2⟩:=ex (Lib.decDigits (n%10))
   have HR:Hid (Lib.decDigits n=d1++d2):=hid (by rw[hr,hd1,hd2]);rw[hd1,hd2]at hadd;rw[hd1,<-h1]at HI1;rw[hd2,<-h2]at HI2;have HN:=hid hn;have hnI:(n:Int)<=4611686018427387904:=by omega
   clear ih h1 h2 hl1 hl2 hr hd1 hd2 HD hn;go_enter func100,ntmps100;go_wp2_with fail;refine(HI1.out _).mono ?_;rintro e w1 ⟨rfl,hb1⟩;have HB1:=hid hb1;clear hb1;go_wp2_with fail;refine(HI2.out _).mono ?_;rintro e w2 ⟨rfl,hb2⟩;have HB2:=hid (HB1.out.trans (hb2.mono HB1.out.size));clear hb2;go_wp2;go_ret;rw[HR.out];exact⟨rfl,HB2.out⟩
  ·have h9I:¬(9:Int)<(n:Int):=by omega
   obtain⟨c,hc⟩:∃c:UInt8,c=UInt8.ofNat (48+n):=⟨_,rfl⟩
   have hci:(48:Int)+(n:Int)=(c.toNat:Int):=by rw[hc,UInt8.toNat_ofNat'];omega
   have HR:Hid (Lib.decDigits n=[c]):=hid (by rw[hc];exact Lib.decDigits_one (by omega));have hcv:=fun W=>zd1 (B:=w.heap.size+1) W [c] (some ⟨w.heap.size,0,none⟩) 1
   have HCV:=hid hcv;have hn9:(n:Int)<=9:=by omega
   have hn0:(0:Int)<=(n:Int):=by omega
   clear ih hc hcv hn;go_enter func100,ntmps100;go_upto_region 5 with fail;have hcv2:(convert 119 9 (.slice (some ⟨w.heap.size,0,none⟩) 1 1)).run prog (w.alloc (.cells #[.int .u8 (c.toNat:Int)] 5))=.ok (.string ⟨[c].toArray⟩) (w.alloc (.cells #[.int .u8 (c.toNat:Int)] 5)):=HCV.out (w.alloc (.cells #[.int .u8 (c.toNat:Int)] 5)) (RowAt.lit1 c _ rfl _ rfl);rw[<-hci]at hcv2;clear hci;go_wp2;go_ret;rw[HR.out];exact⟨rfl,(Below.refl _ _).alloc (Nat.le_refl _) _⟩
theorem zka (n:Int) (h0:-4611686018427387904<=n) (h1:n<=4611686018427387904) (w:World):Calls prog 100 #[.int .i64 n] w fun e w'=>e=.returned (.string ⟨(Lib.itoa n).toArray⟩)/\Below w.heap.size w w':=by
 by_cases hn:n<0
 ·have HI:=hid (fun W=>zde n.natAbs (by omega) W);rw[show(n.natAbs:Int)=-n from by omega]at HI;have hl1:(Lib.decDigits n.natAbs).length<=20:=by rw[Lib.decDigits_length];exact zbn 19 _ (by omega)
  have hadd:=fun W=>zab [45] (Lib.decDigits n.natAbs) (by simp;omega) W
  have HR:Hid (Lib.itoa n=[45]++Lib.decDigits n.natAbs):=hid (by unfold Lib.itoa;rw[if_pos hn];rfl);clear hl1;go_enter func100,ntmps100;go_wp2_with fail;refine(HI.out _).mono ?_;rintro e w1 ⟨rfl,hb1⟩;have HB1:=hid hb1;clear hb1;go_wp2;go_ret;rw[HR.out];exact⟨rfl,HB1.out⟩
 ·have:=zde n.toNat (by omega) w;rw[show(n.toNat:Int)=n from by omega]at this;unfold Lib.itoa;rw[if_neg hn];exact this
theorem znc (x:Gr.Dn) (A:Option Addr) (c:Nat) (hl:x.d.length<=1073741823) (w:World):
 Calls prog 76 #[.agg #[.bool x.neg,.slice A x.d.length c,.int .i64 x.e]] w fun e w'=>e=.returned (.int .i64 (lim x:Nat))/\Below w.heap.size w w':=by
 obtain⟨neg,d,e⟩:=x;simp only at hl ⊢;have hb:Below w.heap.size w (w.alloc (.cells #[.bool neg,.slice A d.length c,.int .i64 e] 69)):=(Below.refl _ _).alloc (Nat.le_refl _) _;have HB:=hid hb;clear hb;by_cases h1:400<d.length
 ·have hF:Hid (lim ⟨neg,d,e⟩=6):=hid (by unfold lim;rw[if_pos h1]);have h1I:(400:Int)<(d.length:Int):=by omega
  go_enter func76,ntmps76;go_wp2;go_ret;rw[hF.out];exact⟨rfl,HB.out⟩
 ·have h1I:¬(400:Int)<(d.length:Int):=by omega
  by_cases h2:2000<e
  ·have hF:Hid (lim ⟨neg,d,e⟩=2):=hid (by unfold lim;rw[if_neg h1,if_pos (.inr h2)]);go_enter func76,ntmps76;go_wp2;go_ret;rw[hF.out];exact⟨rfl,HB.out⟩
  ·by_cases h3:e< -2000
   ·have hF:Hid (lim ⟨neg,d,e⟩=2):=hid (by unfold lim;rw[if_neg h1,if_pos (.inl h3)]);go_enter func76,ntmps76;go_wp2;go_ret;rw[hF.out];exact⟨rfl,HB.out⟩
   ·have hF:Hid (lim ⟨neg,d,e⟩=0):=hid (by unfold lim;rw[if_neg h1,if_neg (fun h=>h.elim h3 h2)]);go_enter func76,ntmps76;go_wp2;go_ret;rw[hF.out];exact⟨rfl,HB.out⟩
theorem zq0 (neg:Bool) (A:Option Addr) (n c:Nat) (e:Int) (w:World):
 Calls prog 129 #[.agg #[.bool neg,.slice A n c,.int .i64 e]] w fun e' w'=>e'=.returned (.string ⟨(signS neg).toArray⟩)/\Below w.heap.size w w':=by
 have hb:Below w.heap.size w (w.alloc (.cells #[.bool neg,.slice A n c,.int .i64 e] 69)):=(Below.refl _ _).alloc (Nat.le_refl _) _;have HB:=hid hb;clear hb;cases neg
 all_goals
  go_enter func129,ntmps129;go_wp2;go_ret;exact⟨rfl,HB.out⟩
theorem ztk (A:Option Addr) (d:List Nat) (c:Nat) (hl:d.length<=1073741823) (hd:∀v∈d,v<10) (w:World) (h:RowAt intL w w.heap.size A d):
 Calls prog 130 #[.slice A d.length c] w fun e' w'=>e'=.returned (.string ⟨(d.map Gr.ch).toArray⟩)/\Below w.heap.size w w':=by
 have HD:=hid hd;have HRow:=hid h;clear hd h;go_enter func130,ntmps130;go_wp2_with fail;go_loopw [3,4] (fun s3 s4 wr=>∃k:Nat,k<=d.length/\s3=.string ⟨((d.take k).map Gr.ch).toArray⟩/\s4=.int .i64 k/\Hid (Below w.heap.size w wr)) (fun _ s4 _=>d.length-(intOf s4).toNat)
 case atStart=>exact⟨0,by omega,rfl,rfl,hid (Below.refl _ _)⟩
 case round=>
  obtain⟨k,hk,rfl,rfl,HV⟩:=hrel;by_cases hlt:k<d.length
  ·have hltI:(k:Int)<(d.length:Int):=by omega
   obtain⟨v,hv⟩:=ex (d[k])
   have hv10:v<10:=by rw[<-hv];exact HD.out _ (List.getElem_mem hlt)
   obtain⟨ad,rfl,_,y0⟩:=zae (HRow.out.below HV.out) hlt;rw[hv]at y0;have HN:=hid (fun W=>zde v (by omega) W);rw[Lib.decDigits_one hv10,show[UInt8.ofNat (48+v)]=[Gr.ch v]from rfl]at HN;have hln:((d.take k).map Gr.ch).length=k:=by simp;omega
   have hadd:=fun W=>zab ((d.take k).map Gr.ch) [Gr.ch v] (by rw[hln];simp;omega) W
   have HNX:Hid ((d.take (k+1)).map Gr.ch=(d.take k).map Gr.ch++[Gr.ch v]):=hid (by
    rw[List.take_succ_eq_append_getElem hlt,List.map_append,hv];rfl)
   obtain⟨r,hr⟩:=ex ((d.take k).map Gr.ch)
   obtain⟨r2,hr2⟩:=ex ((d.take (k+1)).map Gr.ch)
   obtain⟨x,hx⟩:∃x:Gr.Str,[Gr.ch v]=x:=⟨_,rfl⟩
   rw[hr]at hadd HNX ⊢;rw[hr2]at HNX;rw[hx]at hadd HNX HN;have HR2:=hid hr2;clear hv hv10 hln hr hr2 hx;go_wp2_with fail;refine(HN.out _).mono ?_;rintro e w2 ⟨rfl,hb2⟩;have HB2:Hid (Below w.heap.size w w2):=hid (HV.out.trans (hb2.mono HV.out.size));clear hb2;go_wp2;go_roundw
   case rel=>exact⟨k+1,by omega,by rw[HR2.out,HNX.out],by go_num,HB2⟩
   case measure=>simp[intOf];omega
  ·have hltI:¬(k:Int)<(d.length:Int):=by omega
   have HE:Hid ((d.map Gr.ch).take k=d.map Gr.ch):=hid (List.take_of_length_le (by simp;omega));go_wp2;go_ret;rw[HE.out];exact⟨rfl,HV.out⟩
theorem zq1 (x:Gr.Dn) (A:Option Addr) (c:Nat) (hl:x.d.length<=1073741823) (hd:∀v∈x.d,v<10) (w:World) (h:RowAt intL w w.heap.size A x.d):
 Calls prog 99 #[.agg #[.bool x.neg,.slice A x.d.length c,.int .i64 x.e]] w fun e' w'=>e'=.returned (.string ⟨(coef x).toArray⟩)/\Below w.heap.size w w':=by
 obtain⟨neg,d,E⟩:=x;simp only at hl hd h ⊢;have HRow:=hid h;have HD:=hid hd;clear h hd;obtain⟨r,hr⟩:=ex (coef ⟨neg,d,E⟩)
 have HR:=hid hr;rw[hr];clear hr;go_enter func99,ntmps99;go_upto_region 1 with fail;obtain⟨w0,hw0⟩:=ex (w.alloc (.cells #[.bool neg,.slice A d.length c,.int .i64 E] 69))
 obtain⟨gb,hgb⟩:=ex w.heap.size
 have HB0:Hid (Blk w0 gb 69 #[.bool neg,.slice A d.length c,.int .i64 E]/\Below gb w w0/\w0.heap.size=gb+1):=hid (by rw[<-hw0,<-hgb];exact⟨Blk.new _ _ _,(Below.refl _ _).alloc (Nat.le_refl _) _,by simp⟩);have HGB:=hid hgb;rw[hgb]at HRow;(try rw[hw0]);(try rw[hgb]);clear hw0 hgb;have q1:w0.cell? ⟨gb,1,none⟩=some (.slice A d.length c):=HB0.out.1.cell 1;by_cases h0:d=[]
 ·subst h0;have HF:Hid (r=[48]):=hid (by rw[<-HR.out];rfl);go_wp2;go_ret;rw[HF.out,HGB.out];exact⟨rfl,HB0.out.2.1⟩
 ·have hlp:=List.length_pos_iff.2 h0;have h1:¬((d.length:Int)=0):=by omega
  have h1b:((d.length:Int)==0)=false:=by simpa using h0
  have HF:Hid (r=signS neg++d.map Gr.ch):=hid (by rw[<-HR.out];unfold coef;rw[if_neg h0];rfl);go_upto_region 3 with fail;clear q1;have hsz:w0.heap.size=gb+1:=HB0.out.2.2;have HC:Hid (∀W:WB w0.heap.size w0,Calls prog 129 #[.agg #[.bool neg,.slice A d.length c,.int .i64 E]] W.w (fun e W'=>e=.returned (.string ⟨(signS neg).toArray⟩)/\Below w0.heap.size w0 W')/\Calls prog 130 #[.slice A d.length c] W.w (fun e W'=>e=.returned (.string ⟨(d.map Gr.ch).toArray⟩)/\Below w0.heap.size w0 W')):=hid (fun W=>⟨(zq0 neg A d.length c E W.w).mono (fun _ _ ⟨e1,e2⟩=>⟨e1,W.h.trans (e2.mono W.h.size)⟩),(ztk A d c hl HD.out W.w (((HRow.out.below HB0.out.2.1).below (W.h.mono (by omega))).more (by have:=W.h.size;omega))).mono (fun _ _ ⟨e1,e2⟩=>⟨e1,W.h.trans (e2.mono W.h.size)⟩)⟩);have p0:∀W:WB w0.heap.size w0,W.w.cell? ⟨gb,0,none⟩=some (.bool neg):=fun W=>(W.h.cell (p:=⟨gb,0,none⟩) (by simp;omega)).trans (HB0.out.1.cell 0)
  have p1:∀W:WB w0.heap.size w0,W.w.cell? ⟨gb,1,none⟩=some (.slice A d.length c):=fun W=>(W.h.cell (p:=⟨gb,1,none⟩) (by simp;omega)).trans (HB0.out.1.cell 1)
  have p2:∀W:WB w0.heap.size w0,W.w.cell? ⟨gb,2,none⟩=some (.int .i64 E):=fun W=>(W.h.cell (p:=⟨gb,2,none⟩) (by simp;omega)).trans (HB0.out.1.cell 2)
  clear hsz;have hadd:=fun W=>zab (signS neg) (d.map Gr.ch) (by have:=zdn neg;rw[List.length_map];omega) W
  refine zaa w0.heap.size w0 (by kernel_rfl) (by kernel_rfl) (Below.refl _ _) ?_
  repeat (go_big_quiet_step ((first| (with_reducible refine Calls.grow (HC.out _).1)| (with_reducible refine Calls.grow (HC.out _).2))))
  refine wpQuiet_nil ?_;rintro _ ⟨wz,rfl⟩;go_wp2;go_ret;rw[HF.out,HGB.out];exact⟨rfl,HB0.out.2.1.trans (wz.h.mono (by have:=HB0.out.2.2;omega))⟩
theorem zq2 (x:Gr.Dn) (A:Option Addr) (c:Nat) (hl:x.d.length<=1073741823) (hd:∀v∈x.d,v<10) (h0:-4611686018427387904<=x.e) (h1:x.e<=4611686018427387904) (w:World) (h:RowAt intL w w.heap.size A x.d):
 Calls prog 77 #[.agg #[.bool x.neg,.slice A x.d.length c,.int .i64 x.e]] w fun e' w'=>e'=.returned (.string ⟨(Gr.text x).toArray⟩)/\Below w.heap.size w w':=by
 have HCO:=hid (fun(W:World) (hW:RowAt intL W W.heap.size A x.d)=>zq1 x A c hl hd W hW);have hcl:(coef x).length<=1073741825:=by
  unfold coef;split
  ·simp
  ·have:=zdn x.neg;unfold signS at this;rw[List.length_append,List.length_map];omega
 have hil:=zhe x.e (by omega) (by omega);obtain⟨r,hr⟩:=ex (coef x)
 obtain⟨r2,hr2⟩:=ex (Gr.text x)
 have HR:Hid (r2=r++101::Lib.itoa x.e):=hid (by rw[<-hr2,<-hr];rfl);rw[hr]at HCO hcl;rw[hr2];clear hr hr2;obtain⟨neg,d,E⟩:=x;simp only at hl h0 h1 h HCO hil HR ⊢;obtain⟨t,ht⟩:=ex (Lib.itoa E)
 have HIT:=hid (fun(W:World)=>zka E h0 h1 W);rw[ht]at hil HR HIT;clear ht;have HRow:=hid h;clear h hd;go_enter func77,ntmps77;go_upto_region 1 with fail;obtain⟨w0,hw0⟩:=ex (w.alloc (.cells #[.bool neg,.slice A d.length c,.int .i64 E] 69))
 obtain⟨gb,hgb⟩:=ex w.heap.size
 have HB0:Hid (Blk w0 gb 69 #[.bool neg,.slice A d.length c,.int .i64 E]/\Below gb w w0/\w0.heap.size=gb+1):=hid (by rw[<-hw0,<-hgb];exact⟨Blk.new _ _ _,(Below.refl _ _).alloc (Nat.le_refl _) _,by simp⟩);have HGB:=hid hgb;rw[hgb]at HRow;(try rw[hw0]);(try rw[hgb]);clear hw0 hgb;have hsz:w0.heap.size=gb+1:=HB0.out.2.2;have HC:Hid (∀W:WB w0.heap.size w0,Calls prog 99 #[.agg #[.bool neg,.slice A d.length c,.int .i64 E]] W.w (fun e W'=>e=.returned (.string ⟨r.toArray⟩)/\Below w0.heap.size w0 W')/\Calls prog 100 #[.int .i64 E] W.w (fun e W'=>e=.returned (.string ⟨t.toArray⟩)/\Below w0.heap.size w0 W')):=hid (fun W=>⟨(HCO.out W.w (((HRow.out.below HB0.out.2.1).below (W.h.mono (by omega))).more (by have:=W.h.size;omega))).mono (fun _ _ ⟨e1,e2⟩=>⟨e1,W.h.trans (e2.mono W.h.size)⟩),(HIT.out W.w).mono (fun _ _ ⟨e1,e2⟩=>⟨e1,W.h.trans (e2.mono W.h.size)⟩)⟩);have p0:∀W:WB w0.heap.size w0,W.w.cell? ⟨gb,0,none⟩=some (.bool neg):=fun W=>(W.h.cell (p:=⟨gb,0,none⟩) (by simp;omega)).trans (HB0.out.1.cell 0)
 have p1:∀W:WB w0.heap.size w0,W.w.cell? ⟨gb,1,none⟩=some (.slice A d.length c):=fun W=>(W.h.cell (p:=⟨gb,1,none⟩) (by simp;omega)).trans (HB0.out.1.cell 1)
 have p2:∀W:WB w0.heap.size w0,W.w.cell? ⟨gb,2,none⟩=some (.int .i64 E):=fun W=>(W.h.cell (p:=⟨gb,2,none⟩) (by simp;omega)).trans (HB0.out.1.cell 2)
 have hadd:=fun W=>zab r [101] (by simp;omega) W
 have hadd2:=fun W=>zab (r++[101]) t (by simp;omega) W
 clear hsz;refine zaa w0.heap.size w0 (by kernel_rfl) (by kernel_rfl) (Below.refl _ _) ?_
 repeat (go_big_quiet_step ((first| (with_reducible refine Calls.grow (HC.out _).1)| (with_reducible refine Calls.grow (HC.out _).2))))
 refine wpQuiet_nil ?_;rintro _ ⟨wz,rfl⟩;go_wp2;go_ret;rw[HR.out,HGB.out];exact⟨rfl,HB0.out.2.1.trans (wz.h.mono (by have:=HB0.out.2.2;omega))⟩
end Go.Proofs.YtoigpackhninoaaGreatDoor
