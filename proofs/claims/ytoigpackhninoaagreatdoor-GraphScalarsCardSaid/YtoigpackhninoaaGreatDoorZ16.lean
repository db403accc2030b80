import Derived.Test.YtoigpackhninoaaGreatDoorZ07
namespace Go.Proofs.YtoigpackhninoaaGreatDoor
open Gr
open _root_.Go.Proofs.Tryz
open _root_.Go.Lib (hid)
set_option maxRecDepth 100000
set_option maxHeartbeats 16000000
open Go.RowKit
def rdg (s:Gr.Str) (k:Nat):Gr.Str:=(s.drop k).takeWhile Gr.dig
def zh3 (s:Gr.Str) (k:Nat) (w:World) (e:Ending) (w':World):Prop:=∃A c,e=.returned (.tuple #[.slice A (rdg s k).length c,.int .i64 ((k+(rdg s k).length:Nat):Int)])/\OwnRow intL w' w.heap.size 3 (.slice A (rdg s k).length c) (vals (rdg s k))/\Below w.heap.size w w'
theorem za2 (s:Gr.Str):(vals s).length=s.length:=by simp[vals]
theorem znh (s:Gr.Str) (k m:Nat) (h:((s.drop k).take m).all Gr.dig=true) (hm:k+m<=s.length) (hn:∀h2:k+m<s.length,Gr.dig (s[k+m]'h2)=false):rdg s k=(s.drop k).take m:=by
 unfold rdg;have h1:s.drop k=(s.drop k).take m++s.drop (k+m):=by
  rw[<-List.drop_drop];exact(List.take_append_drop m (s.drop k)).symm
 rw[h1,List.takeWhile_append_of_pos (by simpa using h)];have h2:(s.drop (k+m)).takeWhile Gr.dig=[]:=by
  rcases Nat.lt_or_ge (k+m) s.length with h3|h3
  ·rw[List.drop_eq_getElem_cons h3,List.takeWhile_cons,hn h3];rfl
  ·rw[List.drop_eq_nil_of_le h3];rfl
 rw[h2,List.append_nil,List.take_append_of_le_length (by simp;omega),List.take_take,Nat.min_self]
theorem zh4 {s:Gr.Str} {k m c:Nat} {A:Option Addr} {w w':World} (h:rdg s k=(s.drop k).take m) (_:0<=m) (hm:k+m<=s.length) (ho:OwnRow intL w' w.heap.size 3 (.slice A m c) (vals ((s.drop k).take m))) (hb:Below w.heap.size w w'):
 zh3 s k w (.returned (.tuple #[.slice A m c,.int .i64 ((k+m:Nat):Int)])) w':=by
 have hl:(rdg s k).length=m:=by rw[h];simp;omega
 unfold zh3;rw[hl,h];exact⟨A,c,rfl,ho,hb⟩
theorem zco (s:Gr.Str) (hl:s.length<=1073741823) (k:Nat) (hk:k<=s.length) (w:World):
 Calls prog 97 #[.string ⟨s.toArray⟩,.int .i64 (k:Int)] w (zh3 s k w):=by
 go_enter func97,ntmps97;go_wp2_with fail;go_loopw [1,6] (fun s1 s6 wr=>∃(m:Nat) (A:Option Addr) (c:Nat),k+m<=s.length/\s1=.int .i64 ((k+m:Nat):Int)/\s6=.slice A m c/\Hid (((s.drop k).take m).all Gr.dig=true/\OwnRow intL wr w.heap.size 3 (.slice A m c) (vals ((s.drop k).take m))/\Below w.heap.size w wr)) (fun s1 _ _=>s.length-(intOf s1).toNat)
 case atStart=>exact⟨0,none,0,by omega,rfl,rfl,hid ⟨by simp,OwnRow.nil,Below.refl _ _⟩⟩
 case round=>
  obtain⟨m,A,c,hm,rfl,rfl,HV⟩:=hrel;have hlen:(vals ((s.drop k).take m)).length=m:=by simp[vals];omega
  have HLN:=hid hlen;have HWS:Hid (w.heap.size<=wr.heap.size):=hid HV.out.2.2.size;clear hlen;by_cases hlt:k+m<s.length
  ·have hltI:((k+m:Nat):Int)<(s.length:Int):=by omega
   obtain⟨b,hb⟩:∃b:Nat,(s[k+m]'(by omega)).toNat=b:=⟨_,rfl⟩
   have hbv:(((⟨s.toArray⟩:ByteArray)[k+m]'(by simpa[ByteArray.size]using hlt)).toNat:Int)=(b:Int):=by rw[<-hb];rfl
   have hbl:b<256:=by rw[<-hb];exact(s[k+m]'hlt).toNat_lt
   have HBD:Hid (Gr.dig (s[k+m]'hlt)=(decide (48<=b) && decide (b<=57))/\Gr.dv (s[k+m]'hlt)=b-48):=hid ⟨by
    rw[Bool.eq_iff_iff,za4,hb];simp,by unfold Gr.dv;rw[hb]⟩
   clear hb;by_cases hd:48<=b/\b<=57
   ·obtain⟨h48,h57⟩:=hd;have a48:(48:Int)<=(b:Int):=by omega
    have a57:(b:Int)<=57:=by omega
    have HTK:Hid ((s.drop k).take (m+1)=(s.drop k).take m++[s[k+m]'hlt]):=hid (by
     rw[List.take_succ_eq_append_getElem (by simp;omega),List.getElem_drop])
    go_upto_region 3 with fail;obtain⟨x,hx⟩:∃x:Nat,b-48=x:=⟨_,rfl⟩
    have hxi:(b:Int)-48=(x:Int):=by omega
    have HX:=hid hx;clear hx;go_wp2_with (at_builtin;go_must (refine zac _ rfl (.tmp 23) (.tmp 29) 33 3 8 rfl intT w.heap.size (.slice A m c) (vals ((s.drop k).take m)) rfl (HV.out.2.1.alloc _) _ _ 1 [x] rfl (RowAt.lit1 _ _ (by first|rfl| (rw[hxi];rfl)) _ ?_) ?_ ?_ ?_))
    any_goals (first|rfl| (have:=HLN.out;simp;omega)| (rw[World.size_alloc];have:=HWS.out;omega))
    intro v' w3 hown hg hat;have hb3:Below w.heap.size w w3:=(HV.out.2.2.alloc HWS.out _).trans ((HV.out.2.1.alloc _).grown_below hg (by rw[World.size_alloc];have:=HWS.out;omega));obtain⟨A3,c3,hv3,_⟩:=hown.form;have hlen3:(vals ((s.drop k).take m)++[x]).length=m+1:=by rw[List.length_append,HLN.out];rfl
    rw[hlen3]at hv3;subst hv3;have HNX:Hid (((s.drop k).take (m+1)).all Gr.dig=true/\OwnRow intL w3 w.heap.size 3 (.slice A3 (m+1) c3) (vals ((s.drop k).take (m+1)))/\Below w.heap.size w w3):=hid ⟨by
     rw[HTK.out,List.all_append,HV.out.1];simp[HBD.out.1,h48,h57],by
     rw[HTK.out,show vals ((s.drop k).take m++[s[k+m]'hlt])=vals ((s.drop k).take m)++[x]from by simp[vals,HBD.out.2,HX.out]];exact hown,hb3⟩
    clear hown hg hat hb3 hlen3;go_wp2;go_roundw
    case rel=>exact⟨m+1,A3,c3,by omega,by go_num,rfl,HNX⟩
    case measure=>simp[intOf];omega
   ·have HE:Hid (rdg s k=(s.drop k).take m):=hid (znh s k m HV.out.1 hm (fun h2=>by rw[HBD.out.1];by_cases h48:48<=b<;>simp[h48]<;>omega));by_cases h48:48<=b
    ·have a48:(48:Int)<=(b:Int):=by omega
     have a57:¬(b:Int)<=57:=by omega
     go_wp2;go_ret2;exact zh4 HE.out (by omega) hm HV.out.2.1 HV.out.2.2
    ·have a48:¬(48:Int)<=(b:Int):=by omega
     go_wp2;go_ret2;exact zh4 HE.out (by omega) hm HV.out.2.1 HV.out.2.2
  ·have hltI:¬((k+m:Nat):Int)<(s.length:Int):=by omega
   have HE:Hid (rdg s k=(s.drop k).take m):=hid (znh s k m HV.out.1 hm (fun h2=>absurd h2 hlt));go_wp2;go_ret2;exact zh4 HE.out (by omega) hm HV.out.2.1 HV.out.2.2
theorem zcp (n:Nat) (hn:n<=4611686018427387904) (w:World):Calls prog 100 #[.int .i64 (n:Int)] w fun e w'=>e=.returned (.string ⟨(Lib.decDigits n).toArray⟩)/\Below w.heap.size w w':=by
 induction n using Nat.strongRecOn generalizing w with
 |_ n ih=>
  have h0:¬(n:Int)<0:=by omega
  by_cases h9:9<n
  ·have h9I:(9:Int)<(n:Int):=by omega
   have HI1:=hid (fun W=>ih (n /10) (by omega) (by omega) W);have HI2:=hid (fun W=>ih (n%10) (by omega) (by omega) W);have HD:=hid (zaq (u:=n) (by omega));have h1:((n:Int) /10)=((n /10:Nat):Int):=by omega
   have h2:((n:Int)%10)=((n%10:Nat):Int):=by omega
   have hl1:(Lib.decDigits (n /10)).length<=20:=by rw[Lib.decDigits_length];exact zbb 19 _ (by omega)
   have hl2:(Lib.decDigits (n%10)).length<=20:=by rw[Lib.decDigits_length];exact zbb 19 _ (by omega)
   have hadd:=fun W=>zab (Lib.decDigits (n /10)) (Lib.decDigits (n%10)) (by omega) W
   have hr:Lib.decDigits n=Lib.decDigits (n /10)++Lib.decDigits (n%10):=by rw[HD.out,Lib.decDigits_one (i:=n%10) (by omega)]
   obtain⟨d1,hd1⟩:=ex (Lib.decDigits (n /10))
   obtain⟨d2,hd2⟩:=ex (Lib.decDigits (n%10))
   have HR:Hid (Lib.decDigits n=d1++d2):=hid (by rw[hr,hd1,hd2]);rw[hd1,hd2]at hadd;rw[hd1,<-h1]at HI1;rw[hd2,<-h2]at HI2;have HN:=hid hn;have hnI:(n:Int)<=4611686018427387904:=by omega
   clear ih h1 h2 hl1 hl2 hr hd1 hd2 HD hn;go_enter func100,ntmps100;go_wp2_with fail;refine(HI1.out _).mono ?_;rintro e w1 ⟨rfl,hb1⟩;have HB1:=hid hb1;clear hb1;go_wp2_with fail;refine(HI2.out _).mono ?_;rintro e w2 ⟨rfl,hb2⟩;have HB2:=hid (HB1.out.trans (hb2.mono HB1.out.size));clear hb2;go_wp2;go_ret;rw[HR.out];exact⟨rfl,HB2.out⟩
  ·have h9I:¬(9:Int)<(n:Int):=by omega
   obtain⟨c,hc⟩:∃c:UInt8,c=UInt8.ofNat (48+n):=⟨_,rfl⟩
   have hci:(48:Int)+(n:Int)=(c.toNat:Int):=by rw[hc,UInt8.toNat_ofNat'];omega
   have HR:Hid (Lib.decDigits n=[c]):=hid (by rw[hc];exact Lib.decDigits_one (by omega));have hcv:=fun W=>zc9 (B:=w.heap.size+1) W [c] (some ⟨w.heap.size,0,none⟩) 1
   have HCV:=hid hcv;have hn9:(n:Int)<=9:=by omega
   have hn0:(0:Int)<=(n:Int):=by omega
   clear ih hc hcv hn;go_enter func100,ntmps100;go_upto_region 5 with fail;have hcv2:(convert 119 9 (.slice (some ⟨w.heap.size,0,none⟩) 1 1)).run prog (w.alloc (.cells #[.int .u8 (c.toNat:Int)] 5))=.ok (.string ⟨[c].toArray⟩) (w.alloc (.cells #[.int .u8 (c.toNat:Int)] 5)):=HCV.out (w.alloc (.cells #[.int .u8 (c.toNat:Int)] 5)) (RowAt.lit1 c _ rfl _ rfl);rw[<-hci]at hcv2;clear hci;go_wp2;go_ret;rw[HR.out];exact⟨rfl,(Below.refl _ _).alloc (Nat.le_refl _) _⟩
theorem zh5 (n:Int) (h0:-4611686018427387904<=n) (h1:n<=4611686018427387904) (w:World):Calls prog 100 #[.int .i64 n] w fun e w'=>e=.returned (.string ⟨(Lib.itoa n).toArray⟩)/\Below w.heap.size w w':=by
 by_cases hn:n<0
 ·have HI:=hid (fun W=>zcp n.natAbs (by omega) W);rw[show(n.natAbs:Int)=-n from by omega]at HI;have hl1:(Lib.decDigits n.natAbs).length<=20:=by rw[Lib.decDigits_length];exact zbb 19 _ (by omega)
  have hadd:=fun W=>zab [45] (Lib.decDigits n.natAbs) (by simp;omega) W
  have HR:Hid (Lib.itoa n=[45]++Lib.decDigits n.natAbs):=hid (by unfold Lib.itoa;rw[if_pos hn];rfl);clear hl1;go_enter func100,ntmps100;go_wp2_with fail;refine(HI.out _).mono ?_;rintro e w1 ⟨rfl,hb1⟩;have HB1:=hid hb1;clear hb1;go_wp2;go_ret;rw[HR.out];exact⟨rfl,HB1.out⟩
 ·have:=zcp n.toNat (by omega) w;rw[show(n.toNat:Int)=n from by omega]at this;unfold Lib.itoa;rw[if_neg hn];exact this
theorem zkm (x:Gr.Dn) (A:Option Addr) (c:Nat) (hl:x.d.length<=1073741823) (w:World):
 Calls prog 76 #[.agg #[.bool x.neg,.slice A x.d.length c,.int .i64 x.e]] w fun e w'=>e=.returned (.int .i64 (lim x:Nat))/\Below w.heap.size w w':=by
 obtain⟨neg,d,e⟩:=x;simp only at hl ⊢;have hb:Below w.heap.size w (w.alloc (.cells #[.bool neg,.slice A d.length c,.int .i64 e] 69)):=(Below.refl _ _).alloc (Nat.le_refl _) _;have HB:=hid hb;clear hb;by_cases h1:400<d.length
 ·have hF:Hid (lim ⟨neg,d,e⟩=6):=hid (by unfold lim;rw[if_pos h1]);have h1I:(400:Int)<(d.length:Int):=by omega
  go_enter func76,ntmps76;go_wp2;go_ret;rw[hF.out];exact⟨rfl,HB.out⟩
 ·have h1I:¬(400:Int)<(d.length:Int):=by omega
  by_cases h2:2000<e
  ·have hF:Hid (lim ⟨neg,d,e⟩=2):=hid (by unfold lim;rw[if_neg h1,if_pos (.inr h2)]);go_enter func76,ntmps76;go_wp2;go_ret;rw[hF.out];exact⟨rfl,HB.out⟩
  ·by_cases h3:e< -2000
   ·have hF:Hid (lim ⟨neg,d,e⟩=2):=hid (by unfold lim;rw[if_neg h1,if_pos (.inl h3)]);go_enter func76,ntmps76;go_wp2;go_ret;rw[hF.out];exact⟨rfl,HB.out⟩
   ·have hF:Hid (lim ⟨neg,d,e⟩=0):=hid (by unfold lim;rw[if_neg h1,if_neg (fun h=>h.elim h3 h2)]);go_enter func76,ntmps76;go_wp2;go_ret;rw[hF.out];exact⟨rfl,HB.out⟩
theorem zni (neg:Bool) (A:Option Addr) (n c:Nat) (e:Int) (w:World):
 Calls prog 129 #[.agg #[.bool neg,.slice A n c,.int .i64 e]] w fun e' w'=>e'=.returned (.string ⟨(signS neg).toArray⟩)/\Below w.heap.size w w':=by
 have hb:Below w.heap.size w (w.alloc (.cells #[.bool neg,.slice A n c,.int .i64 e] 69)):=(Below.refl _ _).alloc (Nat.le_refl _) _;have HB:=hid hb;clear hb;cases neg
 all_goals
  go_enter func129,ntmps129;go_wp2;go_ret;exact⟨rfl,HB.out⟩
theorem zpj (A:Option Addr) (d:List Nat) (c:Nat) (hl:d.length<=1073741823) (hd:∀v∈d,v<10) (w:World) (h:RowAt intL w w.heap.size A d):
 Calls prog 130 #[.slice A d.length c] w fun e' w'=>e'=.returned (.string ⟨(d.map Gr.ch).toArray⟩)/\Below w.heap.size w w':=by
 have HD:=hid hd;have HRow:=hid h;clear hd h;go_enter func130,ntmps130;go_wp2_with fail;go_loopw [3,4] (fun s3 s4 wr=>∃k:Nat,k<=d.length/\s3=.string ⟨((d.take k).map Gr.ch).toArray⟩/\s4=.int .i64 k/\Hid (Below w.heap.size w wr)) (fun _ s4 _=>d.length-(intOf s4).toNat)
 case atStart=>exact⟨0,by omega,rfl,rfl,hid (Below.refl _ _)⟩
 case round=>
  obtain⟨k,hk,rfl,rfl,HV⟩:=hrel;by_cases hlt:k<d.length
  ·have hltI:(k:Int)<(d.length:Int):=by omega
   obtain⟨v,hv⟩:=ex (d[k])
   have hv10:v<10:=by rw[<-hv];exact HD.out _ (List.getElem_mem hlt)
   obtain⟨ad,rfl,_,y0⟩:=zag (HRow.out.below HV.out) hlt;rw[hv]at y0;have HN:=hid (fun W=>zcp v (by omega) W);rw[Lib.decDigits_one hv10,show[UInt8.ofNat (48+v)]=[Gr.ch v]from rfl]at HN;have hln:((d.take k).map Gr.ch).length=k:=by simp;omega
   have hadd:=fun W=>zab ((d.take k).map Gr.ch) [Gr.ch v] (by rw[hln];simp;omega) W
   have HNX:Hid ((d.take (k+1)).map Gr.ch=(d.take k).map Gr.ch++[Gr.ch v]):=hid (by
    rw[List.take_succ_eq_append_getElem hlt,List.map_append,hv];rfl)
   obtain⟨r,hr⟩:=ex ((d.take k).map Gr.ch)
   obtain⟨r2,hr2⟩:=ex ((d.take (k+1)).map Gr.ch)
   obtain⟨x,hx⟩:∃x:Gr.Str,[Gr.ch v]=x:=⟨_,rfl⟩
   rw[hr]at hadd HNX ⊢;rw[hr2]at HNX;rw[hx]at hadd HNX HN;have HR2:=hid hr2;clear hv hv10 hln hr hr2 hx;go_wp2_with fail;refine(HN.out _).mono ?_;rintro e w2 ⟨rfl,hb2⟩;have HB2:Hid (Below w.heap.size w w2):=hid (HV.out.trans (hb2.mono HV.out.size));clear hb2;go_wp2;go_roundw
   case rel=>exact⟨k+1,by omega,by rw[HR2.out,HNX.out],by go_num,HB2⟩
   case measure=>simp[intOf];omega
  ·have hltI:¬(k:Int)<(d.length:Int):=by omega
   have HE:Hid ((d.map Gr.ch).take k=d.map Gr.ch):=hid (List.take_of_length_le (by simp;omega));go_wp2;go_ret;rw[HE.out];exact⟨rfl,HV.out⟩
theorem znj (x:Gr.Dn) (A:Option Addr) (c:Nat) (hl:x.d.length<=1073741823) (hd:∀v∈x.d,v<10) (w:World) (h:RowAt intL w w.heap.size A x.d):
 Calls prog 99 #[.agg #[.bool x.neg,.slice A x.d.length c,.int .i64 x.e]] w fun e' w'=>e'=.returned (.string ⟨(coef x).toArray⟩)/\Below w.heap.size w w':=by
 obtain⟨neg,d,E⟩:=x;simp only at hl hd h ⊢;have HRow:=hid h;have HD:=hid hd;clear h hd;obtain⟨r,hr⟩:=ex (coef ⟨neg,d,E⟩)
 have HR:=hid hr;rw[hr];clear hr;go_enter func99,ntmps99;go_upto_region 1 with fail;obtain⟨w0,hw0⟩:=ex (w.alloc (.cells #[.bool neg,.slice A d.length c,.int .i64 E] 69))
 obtain⟨gb,hgb⟩:=ex w.heap.size
 have HB0:Hid (Blk w0 gb 69 #[.bool neg,.slice A d.length c,.int .i64 E]/\Below gb w w0/\w0.heap.size=gb+1):=hid (by rw[<-hw0,<-hgb];exact⟨Blk.new _ _ _,(Below.refl _ _).alloc (Nat.le_refl _) _,by simp⟩);have HGB:=hid hgb;rw[hgb]at HRow;(try rw[hw0]);(try rw[hgb]);clear hw0 hgb;have q1:w0.cell? ⟨gb,1,none⟩=some (.slice A d.length c):=HB0.out.1.cell 1;by_cases h0:d=[]
 ·subst h0;have HF:Hid (r=[48]):=hid (by rw[<-HR.out];rfl);go_wp2;go_ret;rw[HF.out,HGB.out];exact⟨rfl,HB0.out.2.1⟩
 ·have hlp:=List.length_pos_iff.2 h0;have h1:¬((d.length:Int)=0):=by omega
  have h1b:((d.length:Int)==0)=false:=by simpa using h0
  have HF:Hid (r=signS neg++d.map Gr.ch):=hid (by rw[<-HR.out];unfold coef;rw[if_neg h0];rfl);go_upto_region 3 with fail;clear q1;have hsz:w0.heap.size=gb+1:=HB0.out.2.2;have HC:Hid (∀W:WB w0.heap.size w0,Calls prog 129 #[.agg #[.bool neg,.slice A d.length c,.int .i64 E]] W.w (fun e W'=>e=.returned (.string ⟨(signS neg).toArray⟩)/\Below w0.heap.size w0 W')/\Calls prog 130 #[.slice A d.length c] W.w (fun e W'=>e=.returned (.string ⟨(d.map Gr.ch).toArray⟩)/\Below w0.heap.size w0 W')):=hid (fun W=>⟨(zni neg A d.length c E W.w).mono (fun _ _ ⟨e1,e2⟩=>⟨e1,W.h.trans (e2.mono W.h.size)⟩),(zpj A d c hl HD.out W.w (((HRow.out.below HB0.out.2.1).below (W.h.mono (by omega))).more (by have:=W.h.size;omega))).mono (fun _ _ ⟨e1,e2⟩=>⟨e1,W.h.trans (e2.mono W.h.size)⟩)⟩);have p0:∀W:WB w0.heap.size w0,W.w.cell? ⟨gb,0,none⟩=some (.bool neg):=fun W=>(W.h.cell (p:=⟨gb,0,none⟩) (by simp;omega)).trans (HB0.out.1.cell 0)
  have p1:∀W:WB w0.heap.size w0,W.w.cell? ⟨gb,1,none⟩=some (.slice A d.length c):=fun W=>(W.h.cell (p:=⟨gb,1,none⟩) (by simp;omega)).trans (HB0.out.1.cell 1)
  have p2:∀W:WB w0.heap.size w0,W.w.cell? ⟨gb,2,none⟩=some (.int .i64 E):=fun W=>(W.h.cell (p:=⟨gb,2,none⟩) (by simp;omega)).trans (HB0.out.1.cell 2)
  clear hsz;have hadd:=fun W=>zab (signS neg) (d.map Gr.ch) (by have:=zcx neg;rw[List.length_map];omega) W
  refine zaa w0.heap.size w0 (by kernel_rfl) (by kernel_rfl) (Below.refl _ _) ?_
  repeat (go_big_quiet_step ((first| (with_reducible refine Calls.grow (HC.out _).1)| (with_reducible refine Calls.grow (HC.out _).2))))
  refine wpQuiet_nil ?_;rintro _ ⟨wz,rfl⟩;go_wp2;go_ret;rw[HF.out,HGB.out];exact⟨rfl,HB0.out.2.1.trans (wz.h.mono (by have:=HB0.out.2.2;omega))⟩
theorem znk (x:Gr.Dn) (A:Option Addr) (c:Nat) (hl:x.d.length<=1073741823) (hd:∀v∈x.d,v<10) (h0:-4611686018427387904<=x.e) (h1:x.e<=4611686018427387904) (w:World) (h:RowAt intL w w.heap.size A x.d):
 Calls prog 77 #[.agg #[.bool x.neg,.slice A x.d.length c,.int .i64 x.e]] w fun e' w'=>e'=.returned (.string ⟨(Gr.text x).toArray⟩)/\Below w.heap.size w w':=by
 have HCO:=hid (fun(W:World) (hW:RowAt intL W W.heap.size A x.d)=>znj x A c hl hd W hW);have hcl:(coef x).length<=1073741825:=by
  unfold coef;split
  ·simp
  ·have:=zcx x.neg;unfold signS at this;rw[List.length_append,List.length_map];omega
 have hil:=zft x.e (by omega) (by omega);obtain⟨r,hr⟩:=ex (coef x)
 obtain⟨r2,hr2⟩:=ex (Gr.text x)
 have HR:Hid (r2=r++101::Lib.itoa x.e):=hid (by rw[<-hr2,<-hr];rfl);rw[hr]at HCO hcl;rw[hr2];clear hr hr2;obtain⟨neg,d,E⟩:=x;simp only at hl h0 h1 h HCO hil HR ⊢;obtain⟨t,ht⟩:=ex (Lib.itoa E)
 have HIT:=hid (fun(W:World)=>zh5 E h0 h1 W);rw[ht]at hil HR HIT;clear ht;have HRow:=hid h;clear h hd;go_enter func77,ntmps77;go_upto_region 1 with fail;obtain⟨w0,hw0⟩:=ex (w.alloc (.cells #[.bool neg,.slice A d.length c,.int .i64 E] 69))
 obtain⟨gb,hgb⟩:=ex w.heap.size
 have HB0:Hid (Blk w0 gb 69 #[.bool neg,.slice A d.length c,.int .i64 E]/\Below gb w w0/\w0.heap.size=gb+1):=hid (by rw[<-hw0,<-hgb];exact⟨Blk.new _ _ _,(Below.refl _ _).alloc (Nat.le_refl _) _,by simp⟩);have HGB:=hid hgb;rw[hgb]at HRow;(try rw[hw0]);(try rw[hgb]);clear hw0 hgb;have hsz:w0.heap.size=gb+1:=HB0.out.2.2;have HC:Hid (∀W:WB w0.heap.size w0,Calls prog 99 #[.agg #[.bool neg,.slice A d.length c,.int .i64 E]] W.w (fun e W'=>e=.returned (.string ⟨r.toArray⟩)/\Below w0.heap.size w0 W')/\Calls prog 100 #[.int .i64 E] W.w (fun e W'=>e=.returned (.string ⟨t.toArray⟩)/\Below w0.heap.size w0 W')):=hid (fun W=>⟨(HCO.out W.w (((HRow.out.below HB0.out.2.1).below (W.h.mono (by omega))).more (by have:=W.h.size;omega))).mono (fun _ _ ⟨e1,e2⟩=>⟨e1,W.h.trans (e2.mono W.h.size)⟩),(HIT.out W.w).mono (fun _ _ ⟨e1,e2⟩=>⟨e1,W.h.trans (e2.mono W.h.size)⟩)⟩);have p0:∀W:WB w0.heap.size w0,W.w.cell? ⟨gb,0,none⟩=some (.bool neg):=fun W=>(W.h.cell (p:=⟨gb,0,none⟩) (by simp;omega)).trans (HB0.out.1.cell 0)
 have p1:∀W:WB w0.heap.size w0,W.w.cell? ⟨gb,1,none⟩=some (.slice A d.length c):=fun W=>(W.h.cell (p:=⟨gb,1,none⟩) (by simp;omega)).trans (HB0.out.1.cell 1)
 have p2:∀W:WB w0.heap.size w0,W.w.cell? ⟨gb,2,none⟩=some (.int .i64 E):=fun W=>(W.h.cell (p:=⟨gb,2,none⟩) (by simp;omega)).trans (HB0.out.1.cell 2)
 have hadd:=fun W=>zab r [101] (by simp;omega) W
 have hadd2:=fun W=>zab (r++[101]) t (by simp;omega) W
 clear hsz;refine zaa w0.heap.size w0 (by kernel_rfl) (by kernel_rfl) (Below.refl _ _) ?_
 repeat (go_big_quiet_step ((first| (with_reducible refine Calls.grow (HC.out _).1)| (with_reducible refine Calls.grow (HC.out _).2))))
 refine wpQuiet_nil ?_;rintro _ ⟨wz,rfl⟩;go_wp2;go_ret;rw[HR.out,HGB.out];exact⟨rfl,HB0.out.2.1.trans (wz.h.mono (by have:=HB0.out.2.2;omega))⟩
def NumI (x:Gr.Dn) (v:Value) (B:Nat) (w:World):Prop:=∃A c,v=.agg #[.bool x.neg,.slice A x.d.length c,.int .i64 x.e]/\OwnRow intL w B 3 (.slice A x.d.length c) x.d
def zej (x:Gr.Dn) (w:World) (e:Ending) (w':World):Prop:=∃v,e=.returned v/\NumI x v w.heap.size w'/\Below w.heap.size w w'
theorem znl {d:List Nat} {k:Nat} (h:k<d.length):(d.drop k).dropWhile isZ=if d[k]=0 then(d.drop (k+1)).dropWhile isZ else d.drop k:=by
 rw[List.drop_eq_getElem_cons h];by_cases h0:d[k]=0
 ·rw[if_pos h0,h0,zl7]
 ·rw[if_neg h0,zqe _ _ h0]
theorem zev {d:List Nat} {k m:Nat} (hk:k<=m) (h:m<d.length):(d.take (m+1)).drop k=(d.take m).drop k++[d[m]]:=by
 rw[List.take_succ_eq_append_getElem h,List.drop_append_of_le_length (by simp;omega)]
theorem zek {α:Type} {L:Lay α} {W w2:World} {g base:Nat} {t E:TypeId} {cs:Array Value} {v:Value} {l:List α} (hb:Blk W g t cs) (ho:OwnRow L W base E v l) (hg:W.grownBy w2 v.ownBlock) (h:g<base):Blk w2 g t cs:=
 hb.grown hg (fun e=>absurd (ho.lt g e.symm).1 (by omega))
theorem znm (neg:Bool) (A:Option Addr) (c:Nat) (d:List Nat) (E:Int) (hl:d.length<=1073741823) (hE0:-1152921504606846976<=E) (hE1:E<=1152921504606846976) (hd:∀v∈d,v<10) (w:World) (h:RowAt intL w w.heap.size A d):
 Calls prog 98 #[.bool neg,.slice A d.length c,.int .i64 E] w (zej (norm neg d E) w):=by
 obtain⟨r,hr⟩:=ex (norm neg d E)
 have HR:=hid hr;rw[hr];clear hr;have HRow:=hid h;have HD:=hid hd;clear h hd;go_enter func98,ntmps98;go_upto_region 1 with fail;obtain⟨w1,hw1⟩:=ex (w.alloc (.cells #[.bool false,.slice none 0 0,.int .i64 0] 69))
 obtain⟨gb,hgb⟩:=ex w.heap.size
 have HB1:Hid (Blk w1 gb 69 #[.bool false,.slice none 0 0,.int .i64 0]/\Below gb w w1/\w1.heap.size=gb+1):=hid (by rw[<-hw1,<-hgb];exact⟨Blk.new _ _ _,(Below.refl _ _).alloc (Nat.le_refl _) _,by simp⟩);have HGB:=hid hgb;rw[hgb]at HRow;(try rw[hw1]);(try rw[hgb]);clear hw1 hgb;go_wp2_with fail;go_loop [7] (fun s7=>∃k:Nat,k<=d.length/\s7=.int .i64 k/\Hid ((d.drop k).dropWhile isZ=d.dropWhile isZ)) (fun s7=>d.length-(intOf s7).toNat)
 case atStart=>exact⟨0,by omega,rfl,hid rfl⟩
 case round=>
  obtain⟨k,hk,rfl,HV⟩:=hrel;by_cases hlt:k<d.length
  ·have hltI:(k:Int)<(d.length:Int):=by omega
   obtain⟨v,hv⟩:=ex (d[k])
   obtain⟨ad,rfl,_,y0⟩:=zag (HRow.out.below HB1.out.2.1) hlt;rw[hv]at y0;by_cases hz:v=0
   ·subst hz;have HNX:Hid ((d.drop (k+1)).dropWhile isZ=d.dropWhile isZ):=hid (by rw[<-HV.out,znl hlt,if_pos hv]);clear hv;rw[show((0:Nat):Int)=0 from rfl]at y0;go_wp2;go_round
    case rel=>exact⟨k+1,by omega,by go_num,HNX⟩
    case measure=>simp[intOf];omega
   ·have hv10:v<10:=by rw[<-hv];exact HD.out _ (List.getElem_mem hlt)
    have HM:Hid (r=⟨neg,Gr.rz (d.drop k),E+(((d.drop k).length-(Gr.rz (d.drop k)).length:Nat):Int)⟩/\d[k]=v):=hid ⟨by
     have h1:=HV.out;rw[znl hlt,if_neg (by rw[hv];exact hz)]at h1;rw[<-HR.out];unfold norm;rw[<-h1,if_neg (by intro e;have:=congrArg List.length e;simp at this;omega)],hv⟩
    obtain⟨vi,hvi⟩:∃vi:Int,(v:Int)=vi:=⟨_,rfl⟩
    have hz1:¬vi=0:=by omega
    have hz2:(vi==0)=false:=by simpa using hz1
    rw[hvi]at y0;clear hv hvi;go_wp2_with fail;clear y0 hz1 hz2;go_loop [8,2] (fun s8 s2=>∃m:Nat,k<m/\m<=d.length/\s8=.int .i64 (m:Int)/\s2=.int .i64 (E+((d.length-m:Nat):Int))/\Hid (Gr.rz ((d.take m).drop k)=Gr.rz (d.drop k))) (fun s8 _=>(intOf s8).toNat)
    case atStart=>exact⟨d.length,by omega,Nat.le_refl _,rfl,by simp,hid (by rw[List.take_length])⟩
    case round=>
     obtain⟨m,hkm,hmd,rfl,rfl,HV2⟩:=hrel;obtain⟨j,rfl⟩:∃j,m=j+1:=⟨m-1,by omega⟩
     have hjd:j<d.length:=by omega
     have hkmI:(k:Int)<((j+1:Nat):Int):=by omega
     obtain⟨u,hu⟩:=ex (d[j])
     obtain⟨ad',hade,_,y0⟩:=zag (HRow.out.below HB1.out.2.1) hjd;injection hade with hade
     subst hade;rw[hu]at y0;have HT:Hid ((d.take (j+1)).drop k=(d.take j).drop k++[u]):=hid (by rw[zev (by omega) hjd,hu]);have HU:=hid hu;have hj0I:(0:Int)<=(j:Int):=by omega
     have hjI:(j:Int)<=1073741823:=by omega
     clear hu;by_cases hz2:u=0
     ·subst hz2;have hkj:k<j:=by
       rcases Nat.lt_or_ge k j with h0|h0
       ·exact h0
       ·obtain rfl:j=k:=by omega
        exact absurd (HM.out.2.symm.trans HU.out) hz
      have HNX:Hid (Gr.rz ((d.take j).drop k)=Gr.rz (d.drop k)):=hid (by rw[<-HV2.out,HT.out,zfr,if_pos rfl]);rw[show((0:Nat):Int)=0 from rfl]at y0;go_wp2;go_round
      case rel=>exact⟨j,hkj,by omega,by go_num,by go_num,HNX⟩
      case measure=>simp[intOf]
     ·have HF:Hid (r=⟨neg,(d.take (j+1)).drop k,E+((d.length-(j+1):Nat):Int)⟩):=hid (by
       have h1:=HV2.out;rw[HT.out,zfr,if_neg hz2,<-HT.out]at h1;rw[HM.out.1,<-h1]
       congr 3
       simp only[List.length_drop,List.length_take];omega)
      obtain⟨vi,hvi⟩:∃vi:Int,(u:Int)=vi:=⟨_,rfl⟩
      have hz1:¬vi=0:=by omega
      have hz2:(vi==0)=false:=by simpa using hz1
      rw[hvi]at y0;clear hvi;have hne1:¬((k:Int)=((j+1:Nat):Int)):=by omega
      have hne2:((k:Int)==((j+1:Nat):Int))=false:=by rw[beq_eq_false_iff_ne];exact hne1
      have hne3:((k:Int)==(j:Int)+1)=false:=by rw[beq_eq_false_iff_ne];omega
      obtain⟨X,hX⟩:∃X:Int,E+((d.length-(j+1):Nat):Int)=X:=⟨_,rfl⟩
      rw[hX]at HF ⊢;go_upto_region 10 with fail;obtain⟨w2,hw2⟩:=ex (w1.alloc (.cells #[.bool neg,.slice none 0 0,.int .i64 X] 69))
      have hz1:w1.heap.size=gb+1:=HB1.out.2.2;have HB2:Hid (Blk w2 (gb+1) 69 #[.bool neg,.slice none 0 0,.int .i64 X]/\Blk w2 gb 69 #[.bool false,.slice none 0 0,.int .i64 0]/\Below gb w w2/\gb+2<=w2.heap.size):=hid (by
       rw[<-hw2,<-hz1];exact⟨Blk.new _ _ _,HB1.out.1.alloc _,HB1.out.2.1.alloc (by omega) _,by simp;omega⟩)
      (try rw[hz1]);(try rw[hw2]);clear hw2 hz1 y0 hz2 hne1 hne2 hne3;obtain⟨n,hn⟩:=ex (j+1-k)
      obtain⟨Y,hY⟩:=ex ((d.take (j+1)).drop k)
      have HYL:Hid (Y.length=n/\∀i (h:i<n),∃h2:k+i<d.length,∃h3:i<Y.length,Y[i]=d[k+i]):=hid (by
       have h1:Y.length=n:=by rw[<-hY,<-hn];simp;omega
       refine⟨h1,fun i hi=>⟨by omega,by omega,?_⟩⟩;simp only[<-hY,List.getElem_drop,List.getElem_take])
      rw[hY]at HF;have hkn:k+n=j+1:=by omega
      have hjk:((j:Int)+1)=((k+n:Nat):Int):=by omega
      clear hY;go_wp2_with fail;clear hjk hkmI;go_loopw [10] (fun s10 wr=>∃p i:Nat,i<=n/\s10=.int .i64 (p:Int)/\Hid (p=k+i)/\Hid (∃A9 c9,Blk wr (gb+1) 69 #[.bool neg,.slice A9 i c9,.int .i64 X]/\OwnRow intL wr (gb+2) 3 (.slice A9 i c9) (Y.take i)/\Blk wr gb 69 #[.bool false,.slice none 0 0,.int .i64 0]/\Below gb w wr/\gb+2<=wr.heap.size)) (fun s10 _=>k+n-(intOf s10).toNat)
      case atStart=>exact⟨k,0,by omega,rfl,hid rfl,hid ⟨none,0,HB2.out.1,OwnRow.nil,HB2.out.2⟩⟩
      case round=>
       obtain⟨p,i,hi,rfl,HP,HW⟩:=hrel;obtain⟨wq,hwq⟩:∃wq,wq=wr:=⟨_,rfl⟩
       subst hwq;obtain⟨A9,c9,v1,vo,v0,vb,vs⟩:=HW.out;by_cases hlt3:i<n
       ·have hltI3:(p:Int)<(j:Int)+1:=by have:=HP.out;omega
        obtain⟨hk2,hi3,hye⟩:=HYL.out.2 i hlt3;obtain⟨ad2,hade2,_,y1⟩:=zag (HRow.out.below vb) hk2;injection hade2 with hade2
        subst hade2;obtain⟨x,hx⟩:=ex (d[k+i])
        rw[hx,<-HP.out]at y1;have hpd:(p:Int)<(d.length:Int):=by have:=HP.out;omega
        have hp1:(p:Int)<=1073741823:=by omega
        have HTK:Hid (Y.take (i+1)=Y.take i++[x]):=hid (by rw[List.take_succ_eq_append_getElem hi3,hye,hx]);have HTL:Hid ((Y.take i).length=i):=hid (by rw[List.length_take];omega);have q1:wq.cell? ⟨gb+1,1,none⟩=some (.slice A9 i c9):=v1.cell 1;have qf:∀j,wq.frozen? ⟨gb+1,j,none⟩=false:=v1.frozen;have hownA:OwnRow intL (wq.alloc (.cells #[.int .i64 (x:Int)] 3)).drew (gb+2) 3 (.slice A9 i c9) (Y.take i):=vo.alloc _;have hlitA:RowAt intL (wq.alloc (.cells #[.int .i64 (x:Int)] 3)).drew (wq.heap.size+1) (some ⟨wq.heap.size,0,none⟩) [x]:=RowAt.lit1 x _ rfl _ rfl;have hlA:(Y.take i).length+[x].length<=1073741824:=by rw[HTL.out];simp;omega
        have hbA:gb+2<=(wq.alloc (.cells #[.int .i64 (x:Int)] 3)).drew.heap.size:=by simp;omega
        have HBA:Hid (Blk (wq.alloc (.cells #[.int .i64 (x:Int)] 3)).drew (gb+1) 69 #[.bool neg,.slice A9 i c9,.int .i64 X]/\Blk (wq.alloc (.cells #[.int .i64 (x:Int)] 3)).drew gb 69 #[.bool false,.slice none 0 0,.int .i64 0]/\Below gb w (wq.alloc (.cells #[.int .i64 (x:Int)] 3)).drew/\OwnRow intL (wq.alloc (.cells #[.int .i64 (x:Int)] 3)).drew (gb+2) 3 (.slice A9 i c9) (Y.take i)/\gb+2<=(wq.alloc (.cells #[.int .i64 (x:Int)] 3)).drew.heap.size):=hid ⟨v1.alloc _,v0.alloc _,below_drewN (vb.alloc (by omega) _) 1,hownA,hbA⟩;have e1:=World.new_ne wq _ q1;have e2:=World.new_ne wq _ y1;have pcA:(wq.alloc (.cells #[.int .i64 (x:Int)] 3)).cell? ⟨gb+1,1,none⟩=some (.slice A9 i c9):=(v1.alloc _).cell 1;have pyA:(wq.alloc (.cells #[.int .i64 (x:Int)] 3)).cell? (ad.add p)=some (.int .i64 (x:Int)):=(World.cell?_alloc_lt wq _ _ (World.block_lt_of_cell? wq _ y1)).trans y1;clear hye hx v1 vo v0 vb HYL HV HV2 HM HT HU HF HR HD HB1 HB2 HRow HGB;go_upto_region 13 with fail
        focus
         go_region_law (refine zdw _ rfl (.tmp 54) (.tmp 59) 33 3 8 rfl intT (gb+2) (.slice A9 i c9) (Y.take i) rfl hownA _ _ 1 [x] rfl hlitA hlA hbA ?_;intro v' w3 hown3 hg3 hat3;obtain⟨A8,c8,hv8,_⟩:=hown3.form;obtain⟨q,hq⟩:=ex ((Y.take i++[x]).length);rw[hq]at hv8;subst hv8;have k1:=zek HBA.out.1 HBA.out.2.2.2.1 hg3 (Nat.lt_succ_self _);have HG3:=hid hg3;have HO3:=hid hown3;have HQ:=hid hq;have qf3:∀j,w3.frozen? ⟨gb+1,j,none⟩=false:=k1.frozen;have q13:w3.cell? ⟨gb+1,1,none⟩=some (.slice A9 i c9):=k1.cell 1;have HK1:=hid k1;clear hg3 hown3 hq k1 hat3)
         all_goals go_wp2_with fail
         all_goals
          have hqi:q=i+1:=by rw[<-HQ.out,List.length_append,HTL.out];rfl
          have HNX:Hid (∃A9 c9,Blk (w3.setCell ⟨gb+1,1,none⟩ (.slice A8 q c8)) (gb+1) 69 #[.bool neg,.slice A9 (i+1) c9,.int .i64 X]/\OwnRow intL (w3.setCell ⟨gb+1,1,none⟩ (.slice A8 q c8)) (gb+2) 3 (.slice A9 (i+1) c9) (Y.take (i+1))/\Blk (w3.setCell ⟨gb+1,1,none⟩ (.slice A8 q c8)) gb 69 #[.bool false,.slice none 0 0,.int .i64 0]/\Below gb w (w3.setCell ⟨gb+1,1,none⟩ (.slice A8 q c8))/\gb+2<=(w3.setCell ⟨gb+1,1,none⟩ (.slice A8 q c8)).heap.size):=hid (by
           subst hqi;have k0:=zek HBA.out.2.1 HBA.out.2.2.2.1 HG3.out (by omega);have kb:=HBA.out.2.2.1.trans ((HBA.out.2.2.2.1.grown_below HG3.out HBA.out.2.2.2.2).mono (by omega));have ks:=(HBA.out.2.2.2.1.grown_below HG3.out HBA.out.2.2.2.2).size;refine⟨A8,c8,HK1.out.set_ 1 _,by rw[HTK.out];exact HO3.out.setCell (fun e=>absurd (HO3.out.lt _ e).1 (by simp)) _,k0.far (by simp) _,kb.setCell (by simp) _,?_⟩;have:=HBA.out.2.2.2.2;simp[World.setCell];omega)
          go_roundw
          case rel=>exact⟨p+1,i+1,by omega,by go_num,hid (by have:=HP.out;omega),HNX⟩
          case measure=>have:=HP.out;simp[intOf];omega
       ·obtain rfl:i=n:=by omega
        have hltI3:¬(p:Int)<(j:Int)+1:=by have:=HP.out;omega
        have HYT:Hid (Y.take i=Y):=hid (List.take_of_length_le (by rw[HYL.out.1];exact Nat.le_refl _));have HYN:Hid (Y.length=i):=hid HYL.out.1;have p0:∀j,wq.frozen? ⟨gb,j,none⟩=false:=v0.frozen;obtain⟨q0,q1,q2⟩:=cells3 v0;obtain⟨x0,x1,x2⟩:=cells3 v1;have HV0:=hid v0;have HVO:=hid vo;have HVB:=hid vb;clear v0 vo vb v1 vs;go_wp2_with fail;have hb3:=((HV0.out.set_ 0 (.bool neg)).set_ 1 (.slice A9 i c9)).set_ 2 (.int .i64 X);have e0:=hb3.cell 0;have e1:=hb3.cell 1;have e2:=hb3.cell 2;refine bodyPost_ret (v:=.agg #[.bool neg,.slice A9 i c9,.int .i64 X]) (by simp[results,results98,go_sem,e0,e1,e2]) rfl ?_;rw[HF.out];unfold zej;rw[HGB.out];have ho:=HVO.out;rw[HYT.out]at ho;have ho3:=((ho.setCell (p:=⟨gb,0,none⟩) (fun e=>absurd (ho.lt _ e).1 (by simp)) (.bool neg)).setCell (p:=⟨gb,1,none⟩) (fun e=>absurd (ho.lt _ e).1 (by simp)) (.slice A9 i c9)).setCell (p:=⟨gb,2,none⟩) (fun e=>absurd (ho.lt _ e).1 (by simp)) (.int .i64 X);refine⟨_,rfl,⟨A9,c9,by rw[HYN.out],?_⟩,((HVB.out.setCell (p:=⟨gb,0,none⟩) (by simp) _).setCell (p:=⟨gb,1,none⟩) (by simp) _).setCell (p:=⟨gb,2,none⟩) (by simp) _⟩;rw[HYN.out];exact ho3.lower (by omega)
  ·have hltI:¬(k:Int)<(d.length:Int):=by omega
   obtain rfl:k=d.length:=by omega
   have HF:Hid (r=zeroD):=hid (by
    rw[<-HR.out];unfold norm;rw[if_pos (by rw[<-HV.out,List.drop_length];rfl)])
   have p0:∀j,w1.frozen? ⟨gb,j,none⟩=false:=HB1.out.1.frozen;obtain⟨q0,q1,q2⟩:=cells3 HB1.out.1;go_wp2_with fail;go_loop [8,2] (fun s8 s2=>s8=.int .i64 (d.length:Int)/\s2=.int .i64 E) (fun _ _=>0)
   case atStart=>exact⟨rfl,rfl⟩
   case round=>
    obtain⟨rfl,rfl⟩:=hrel;go_wp2_with fail;have hb3:=((HB1.out.1.set_ 0 (.bool false)).set_ 1 (.slice none 0 0)).set_ 2 (.int .i64 0);have e0:=hb3.cell 0;have e1:=hb3.cell 1;have e2:=hb3.cell 2;refine bodyPost_ret (v:=.agg #[.bool false,.slice none 0 0,.int .i64 0]) (by simp[results,results98,go_sem,e0,e1,e2]) rfl ?_;rw[HF.out];exact⟨_,rfl,⟨none,0,rfl,OwnRow.nil⟩,by rw[HGB.out];exact((HB1.out.2.1.setCell (p:=⟨gb,0,none⟩) (by simp) _).setCell (p:=⟨gb,1,none⟩) (by simp) _).setCell (p:=⟨gb,2,none⟩) (by simp) _⟩
end Go.Proofs.YtoigpackhninoaaGreatDoor
