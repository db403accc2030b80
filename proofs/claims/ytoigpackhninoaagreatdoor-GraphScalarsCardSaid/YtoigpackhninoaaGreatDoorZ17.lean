import Derived.Test.YtoigpackhninoaaGreatDoorGrDecR5
import Derived.Test.YtoigpackhninoaaGreatDoorZ27
import Derived.Test.YtoigpackhninoaaGreatDoorGrRefF
import Derived.Test.YtoigpackhninoaaGreatDoorZ19
import Derived.Test.YtoigpackhninoaaGreatDoorGrUtfR
namespace Go.Proofs.YtoigpackhninoaaGreatDoor
open Gr
open _root_.Go.Proofs.Tryz
open _root_.Go.Lib (hid)
set_option maxRecDepth 100000
set_option maxHeartbeats 16000000
open Go.RowKit
theorem zjc {sat:Nat} {neg:Bool} {d:List Nat} {e:Int} {s:Gr.Str} {x:Gr.Dn} (h:expS sat neg d e s=some x):x.d.length<=d.length:=by
 unfold expS at h;split at h
 ·injection h with h;subst h;exact(zhw _ _ _).1
 ·split at h
  ·split at h
   ·cases h
   ·injection h with h;subst h;exact(zhw _ _ _).1
  ·cases h
theorem zjd {sat:Nat} {neg:Bool} {s:Gr.Str} {x:Gr.Dn} (h:numT sat neg s=some x):x.d.length<=s.length:=by
 have h0:=List.takeWhile_append_dropWhile (p:=Gr.dig) (l:=s);have h1:(s.takeWhile Gr.dig).length+(s.dropWhile Gr.dig).length=s.length:=by
  rw[<-List.length_append,h0]
 have h2:((s.dropWhile Gr.dig).tail.takeWhile Gr.dig).length<=(s.dropWhile Gr.dig).length:=Nat.le_trans (List.takeWhile_sublist Gr.dig).length_le (by rw[List.length_tail];omega);unfold numT at h;split at h
 ·cases h
 ·split at h
  ·split at h
   ·cases h
   ·have:=zjc h;rw[za2,List.length_append]at this;omega
  ·have:=zjc h;rw[za2]at this;omega
theorem zpl {sat:Nat} {s:Gr.Str} {x:Gr.Dn} (h:numS sat s=some x):x.d.length<=s.length:=by
 unfold numS at h;split at h
 ·have:=zjd h;rw[List.length_tail]at this;omega
 ·exact zjd h
def zbo (b:Bool) (w:World) (e:Ending) (w':World):Prop:=∃(n:Bool) (A:Option Addr) (l c:Nat) (x:Int),e=.returned (.tuple #[.agg #[.bool n,.slice A l c,.int .i64 x],.bool b])/\Below w.heap.size w w'
theorem znq (a b:Gr.Str):(a != b)=!decide (a=b):=by
 rw[bne]
 congr 1
 rw[Bool.eq_iff_iff];simp
theorem znr (s:Gr.Str) (hl:s.length<=268435455) (w:World):
 Calls prog 44 #[.string ⟨s.toArray⟩] w (zbo (readR s).isSome w):=by
 have HN:=hid (fun W=>zg6 s hl W);cases ho:numS 1000000 s with
 |none=>
  have HR:Hid ((readR s).isSome=false):=hid (by unfold readR;rw[ho];rfl);rw[ho]at HN;clear ho;go_enter func44,ntmps44;go_upto_region 1 with fail;obtain⟨w1,hw1⟩:=ex (w.alloc (.cells #[.bool false,.slice none 0 0,.int .i64 0] 69))
  obtain⟨gb,hgb⟩:=ex w.heap.size
  have HB1:Hid (Blk w1 gb 69 #[.bool false,.slice none 0 0,.int .i64 0]/\Below gb w w1):=hid (by rw[<-hw1,<-hgb];exact⟨Blk.new _ _ _,(Below.refl _ _).alloc (Nat.le_refl _) _⟩);have HGB:=hid hgb;(try rw[hw1]);(try rw[hgb]);clear hw1 hgb;go_wp2_with fail;refine(HN.out _).mono ?_;rintro e w2 ⟨x,v,rfl,⟨A,c,rfl,ho2⟩,hx,hb⟩;have HB2:Hid (Blk w2 gb 69 #[.bool false,.slice none 0 0,.int .i64 0]/\Below gb w w2):=hid ⟨HB1.out.1.below hb HB1.out.1.lt,HB1.out.2.trans (hb.mono (Nat.le_of_lt HB1.out.1.lt))⟩;clear ho2 hx hb;simp only[Option.isSome_none];have p0:∀j,w2.frozen? ⟨gb,j,none⟩=false:=HB2.out.1.frozen;obtain⟨q0,q1,q2⟩:=cells3 HB2.out.1;have hlt:gb<w2.heap.size:=HB2.out.1.lt;go_wp2_with fail;have hb3:=(((HB2.out.1.set_ 0 (.bool false)).set_ 1 (.slice none 0 0)).set_ 2 (.int .i64 0)).alloc (.cells #[.bool x.neg,.slice A x.d.length c,.int .i64 x.e] 69);have e0:=hb3.cell 0;have e1:=hb3.cell 1;have e2:=hb3.cell 2;refine bodyPost_ret (v:=.tuple #[.agg #[.bool false,.slice none 0 0,.int .i64 0],.bool false]) (by rw[results_cell_tmp rfl];go_simp) rfl ?_;unfold zbo;rw[HGB.out,HR.out];exact⟨_,_,_,_,_,rfl,(((HB2.out.2.setCell (p:=⟨gb,0,none⟩) (by simp) _).setCell (p:=⟨gb,1,none⟩) (by simp) _).setCell (p:=⟨gb,2,none⟩) (by simp) _).alloc (by have:=HB2.out.1.lt;simp;omega) _⟩
 |some y=>
  have hwf:=zlr ho;have hyl:=zpl ho;have HY:Hid (Gr.Wf y/\y.d.length<=s.length):=hid ⟨hwf,hyl⟩;have HRR:Hid (readR s=if lim y=0/\Gr.text y=s then some y else none):=hid (by unfold readR;rw[ho]);rw[ho]at HN;clear ho hwf hyl;obtain⟨r,hr⟩:=ex ((readR s).isSome)
  have HR:=hid hr;rw[hr];clear hr;have HLIM:=hid (fun(A:Option Addr) (c:Nat) (W:World)=>zkm y A c (by have:=HY.out.2;omega) W);have HSHW:=hid (fun(A:Option Addr) (c:Nat) (W:World) (h0:lim y=0) (hrow:RowAt intL W W.heap.size A y.d)=>znk y A c (by have:=HY.out.2;omega) HY.out.1.lt (by have:=zdq h0;omega) (by have:=zdq h0;omega) W hrow);obtain⟨L,hL⟩:∃L:Int,((lim y:Nat):Int)=L:=⟨_,rfl⟩
  have HL:=hid hL;rw[hL]at HLIM;clear hL;go_enter func44,ntmps44;go_upto_region 1 with fail;obtain⟨w1,hw1⟩:=ex (w.alloc (.cells #[.bool false,.slice none 0 0,.int .i64 0] 69))
  obtain⟨gb,hgb⟩:=ex w.heap.size
  have HB1:Hid (Blk w1 gb 69 #[.bool false,.slice none 0 0,.int .i64 0]/\Below gb w w1):=hid (by rw[<-hw1,<-hgb];exact⟨Blk.new _ _ _,(Below.refl _ _).alloc (Nat.le_refl _) _⟩);have HGB:=hid hgb;(try rw[hw1]);(try rw[hgb]);clear hw1 hgb;go_wp2_with fail;refine(HN.out _).mono ?_;rintro e w2 ⟨x,v,rfl,⟨A,c,rfl,ho2⟩,hx,hb⟩;obtain rfl:=hx y rfl;obtain⟨A',c',hv',hrow'⟩:=ho2.form;injection hv' with ea en ec
  subst ea ec;simp only[Option.isSome_some];obtain⟨w3,hw3⟩:∃w3,w3=w2.alloc (.cells #[.bool x.neg,.slice A x.d.length c,.int .i64 x.e] 69):=⟨_,rfl⟩
  obtain⟨g4,hg4⟩:=ex w2.heap.size
  have HB3:Hid (Blk w3 gb 69 #[.bool false,.slice none 0 0,.int .i64 0]/\Below gb w w3/\Blk w3 g4 69 #[.bool x.neg,.slice A x.d.length c,.int .i64 x.e]/\gb<g4/\RowAt intL w3 w3.heap.size A x.d):=hid (by
   have h1:=HB1.out.1.below hb HB1.out.1.lt;have h2:Below gb w w2:=HB1.out.2.trans (hb.mono (Nat.le_of_lt HB1.out.1.lt));rw[hw3,<-hg4];refine⟨h1.alloc _,h2.alloc (Nat.le_of_lt h1.lt) _,Blk.new _ _ _,h1.lt,?_⟩;exact(hrow'.below ((Below.refl _ _).alloc (Nat.le_refl _) _)).more (by simp))
  clear ho2 hx hb hrow';go_upto_region 2 with fail;(try rw[<-hw3]);(try rw[hg4]);clear hw3 hg4;obtain⟨q0,q1,q2⟩:=cells3 HB3.out.2.2.1;go_wp2_with fail;refine(HLIM.out _ _ _).mono ?_;rintro e w4 ⟨rfl,hb4⟩;have HB4:Hid (Blk w4 gb 69 #[.bool false,.slice none 0 0,.int .i64 0]/\Below gb w w4/\Blk w4 g4 69 #[.bool x.neg,.slice A x.d.length c,.int .i64 x.e]/\gb<g4/\RowAt intL w4 w4.heap.size A x.d):=hid ⟨HB3.out.1.below hb4 HB3.out.1.lt,HB3.out.2.1.trans (hb4.mono (Nat.le_of_lt HB3.out.1.lt)),HB3.out.2.2.1.below hb4 HB3.out.2.2.1.lt,HB3.out.2.2.2.1,(HB3.out.2.2.2.2.below hb4).more hb4.size⟩;clear hb4 q0 q1 q2;obtain⟨q0,q1,q2⟩:=cells3 HB4.out.2.2.1;by_cases hL0:L=0
  ·subst hL0;have HS:=hid (fun W=>HSHW.out A c W (by have:=HL.out;omega));go_wp2_with fail;refine(HS.out _ HB4.out.2.2.2.2).mono ?_;rintro e w5 ⟨rfl,hb5⟩;have HB5:Hid (Blk w5 gb 69 #[.bool false,.slice none 0 0,.int .i64 0]/\Below gb w w5/\Blk w5 g4 69 #[.bool x.neg,.slice A x.d.length c,.int .i64 x.e]):=hid ⟨HB4.out.1.below hb5 HB4.out.1.lt,HB4.out.2.1.trans (hb5.mono (Nat.le_of_lt HB4.out.1.lt)),HB4.out.2.2.1.below hb5 HB4.out.2.2.1.lt⟩;clear hb5 q0 q1 q2;obtain⟨q0,q1,q2⟩:=cells3 HB5.out.2.2;have p0:∀j,w5.frozen? ⟨gb,j,none⟩=false:=HB5.out.1.frozen;obtain⟨k0,k1,k2⟩:=cells3 HB5.out.1;by_cases ht:Gr.text x=s
   ·have hcmp:(Gr.text x==s)=true:=by rw[beq_iff_eq];exact ht
    have hcmp2:(Gr.text x != s)=false:=by rw[znq,decide_eq_true ht];rfl
    have HF:Hid (r=true):=hid (by rw[<-HR.out,HRR.out,if_pos ⟨by have:=HL.out;omega,ht⟩];rfl);clear ht;go_wp2_with fail;have hb3:=((HB5.out.1.set_ 0 (.bool x.neg)).set_ 1 (.slice A x.d.length c)).set_ 2 (.int .i64 x.e);have e0:=hb3.cell 0;have e1:=hb3.cell 1;have e2:=hb3.cell 2;refine bodyPost_ret (v:=.tuple #[.agg #[.bool x.neg,.slice A x.d.length c,.int .i64 x.e],.bool true]) (by rw[results_cell_tmp rfl];go_simp) rfl ?_;unfold zbo;rw[HGB.out,HF.out];exact⟨_,_,_,_,_,rfl,((HB5.out.2.1.setCell (p:=⟨gb,0,none⟩) (by simp) _).setCell (p:=⟨gb,1,none⟩) (by simp) _).setCell (p:=⟨gb,2,none⟩) (by simp) _⟩
   ·have hcmp:(Gr.text x==s)=false:=by rw[beq_eq_false_iff_ne];exact ht
    have hcmp2:(Gr.text x != s)=true:=by rw[znq,decide_eq_false ht];rfl
    have HF:Hid (r=false):=hid (by rw[<-HR.out,HRR.out,if_neg (fun h=>ht h.2)];rfl);clear ht;go_wp2_with fail;have hb3:=((HB5.out.1.set_ 0 (.bool false)).set_ 1 (.slice none 0 0)).set_ 2 (.int .i64 0);have e0:=hb3.cell 0;have e1:=hb3.cell 1;have e2:=hb3.cell 2;refine bodyPost_ret (v:=.tuple #[.agg #[.bool false,.slice none 0 0,.int .i64 0],.bool false]) (by rw[results_cell_tmp rfl];go_simp) rfl ?_;unfold zbo;rw[HGB.out,HF.out];exact⟨_,_,_,_,_,rfl,((HB5.out.2.1.setCell (p:=⟨gb,0,none⟩) (by simp) _).setCell (p:=⟨gb,1,none⟩) (by simp) _).setCell (p:=⟨gb,2,none⟩) (by simp) _⟩
  ·have hz0:(L==0)=false:=by simpa using hL0
   have hz1:(L != 0)=true:=by rw[bne,hz0];rfl
   have HF:Hid (r=false):=hid (by rw[<-HR.out,HRR.out,if_neg (fun h=>hL0 (by have:=HL.out;omega))];rfl);have p0:∀j,w4.frozen? ⟨gb,j,none⟩=false:=HB4.out.1.frozen;obtain⟨k0,k1,k2⟩:=cells3 HB4.out.1;go_wp2_with fail;have hb3:=((HB4.out.1.set_ 0 (.bool false)).set_ 1 (.slice none 0 0)).set_ 2 (.int .i64 0);have e0:=hb3.cell 0;have e1:=hb3.cell 1;have e2:=hb3.cell 2;refine bodyPost_ret (v:=.tuple #[.agg #[.bool false,.slice none 0 0,.int .i64 0],.bool false]) (by rw[results_cell_tmp rfl];go_simp) rfl ?_;unfold zbo;rw[HGB.out,HF.out];exact⟨_,_,_,_,_,rfl,((HB4.out.2.1.setCell (p:=⟨gb,0,none⟩) (by simp) _).setCell (p:=⟨gb,1,none⟩) (by simp) _).setCell (p:=⟨gb,2,none⟩) (by simp) _⟩
theorem zg7 (s:Gr.Str) (hl:s.length<=1073741823) (w:World) (hT:UT w):
 Calls prog 70 #[.string ⟨s.toArray⟩] w fun e w'=>e=.returned (.bool (readP s).isSome)/\Below w.heap.size w w':=by
 have HC:=hid (zmm s hl w hT);clear hT;obtain⟨r,hr⟩:=ex ((readP s).isSome)
 unfold zbi at HC;rw[hr]at HC ⊢;clear hr;go_enter func70,ntmps70;go_wp2_with fail;refine HC.out.mono ?_;rintro e w2 ⟨x,v,rfl,⟨A,c,rfl,_⟩,_,hb⟩;have HB:=hid hb;clear hb;go_wp2;go_ret;exact⟨rfl,HB.out.alloc HB.out.size _⟩
theorem zpm (text:Gr.Str) (hl:text.length<=1073741823):ScalOk UT 3 text (readP text).isSome:=by
 intro w hw;have HC:=hid (fun W hW=>zg7 text hl W hW);have HW:=hid hw;obtain⟨r,hr⟩:=ex ((readP text).isSome)
 rw[hr]at HC ⊢;clear hr hw;go_enter func42,ntmps42;go_wp2_with fail;refine(HC.out _ HW.out).mono ?_;rintro e w2 ⟨rfl,hb⟩;have HB:=hid hb;clear hb;go_wp2;go_ret;exact⟨rfl,HB.out⟩
theorem zns (text:Gr.Str):ScalOk UT 1 text (decide (text=[116,114,117,101]) || decide (text=[102,97,108,115,101])):=by
 intro w hw;clear hw;by_cases h1:text=[116,114,117,101]
 ·subst h1;go_enter func42,ntmps42;go_wp2;go_ret;exact⟨rfl,Below.refl _ _⟩
 ·have hb1:(text==[116,114,117,101])=false:=by rw[beq_eq_false_iff_ne];exact h1
  by_cases h2:text=[102,97,108,115,101]
  ·subst h2;go_enter func42,ntmps42;go_wp2;go_ret;exact⟨rfl,Below.refl _ _⟩
  ·have hb2:(text==[102,97,108,115,101])=false:=by rw[beq_eq_false_iff_ne];exact h2
   have HF:Hid ((decide (text=[116,114,117,101]) || decide (text=[102,97,108,115,101]))=false):=hid (by simp[h1,h2]);go_enter func42,ntmps42;go_wp2;go_ret;rw[HF.out];exact⟨rfl,Below.refl _ _⟩
theorem zkn (text:Gr.Str):ScalOk UT 6 text true:=by
 intro w hw;clear hw;go_enter func42,ntmps42;go_wp2;go_ret;exact⟨rfl,Below.refl _ _⟩
theorem zng {s:Gr.Str} (h:Gr.rd s=none):(locP s).2=3:=by unfold locP;rw[h]
theorem ztr {x:Gr.Mo} (h:MoOk x):1<=moSh x:=by
 unfold moSh;rcases h.sh with⟨h1,h2⟩|⟨h1,h2,_⟩|⟨h1,h2,_⟩<;>rw[h1,h2]<;>decide
theorem zkl (s:Gr.Str) (hl:s.length<=1073741823) (w:World) (hT:UT w):
 Calls prog 74 #[.string ⟨s.toArray⟩] w fun e w'=>(∃n:Int,e=.returned (.int .i64 n)/\(n != 0)=locB s)/\Below w.heap.size w w':=by
 have HC:=hid (zkk s hl w hT);have HB:Hid (locB s=decide ((locP s).2=0/\(locP s).1=s)):=hid rfl;obtain⟨r,hr⟩:=ex (locB s)
 rw[hr]at HB ⊢;have HN:=hid (fun h=>zng (s:=s) h);have HRS:=hid (fun x (h:Gr.rd s=some x)=>And.intro (fun W=>zei hl h W) (znb h));obtain⟨⟨l,k⟩,hp⟩:∃p,locP s=p:=⟨_,rfl⟩
 rw[hp]at HC HB HN;obtain⟨ki,hki⟩:∃ki:Int,(k:Int)=ki:=⟨_,rfl⟩
 unfold zcn at HC;simp only[hki]at HC HB;have HK:=hid hki;clear hr hp hki hT;by_cases h0:ki=0
 ·subst h0;have h0b:((0:Int)==0)=true:=rfl;have h0c:((0:Int) != 0)=false:=rfl;by_cases hs:l=s
  ·have hsb:(l==s)=true:=by rw[beq_iff_eq];exact hs
   have hsc:(l != s)=false:=by rw[bne,hsb];rfl
   have HF:Hid (r=true):=hid (by rw[HB.out];simp[hs];have:=HK.out;omega);cases hrd:Gr.rd s with
   |none=>exact absurd (HN.out hrd) (by have:=HK.out;simp only;omega)
   |some x=>
    obtain⟨hrx,hok⟩:=HRS.out x hrd;have HRX:=hid hrx;have hsp:=ztr hok;obtain⟨sh,hsh⟩:=ex (moSh x)
    obtain⟨zz,hzz⟩:∃zz:Int,((x.z.toNat:Nat):Int)=zz:=⟨_,rfl⟩
    rw[hsh,hzz]at HRX;rw[hsh]at hsp;clear hs hrd hok hrx hsh hzz HRS HN;go_enter func74,ntmps74;go_wp2_with fail;refine HC.out.mono ?_;rintro e w1 ⟨rfl,hb1⟩;have HB1:=hid hb1;clear hb1;go_wp2_with fail;refine(HRX.out _).mono ?_;rintro e w2 ⟨rfl,hb2⟩;have HB2:=hid (HB1.out.trans (hb2.mono HB1.out.size));clear hb2;go_wp2;go_ret;exact⟨⟨_,rfl,by rw[HF.out];simp;omega⟩,HB2.out.alloc HB2.out.size _⟩
  ·have hsb:(l==s)=false:=by rw[beq_eq_false_iff_ne];exact hs
   have hsc:(l != s)=true:=by rw[bne,hsb];rfl
   have HF:Hid (r=false):=hid (by rw[HB.out];simp[hs]);clear hs HRS HN;go_enter func74,ntmps74;go_wp2_with fail;refine HC.out.mono ?_;rintro e w1 ⟨rfl,hb1⟩;have HB1:=hid hb1;clear hb1;go_wp2;go_ret;exact⟨⟨_,rfl,by rw[HF.out];rfl⟩,HB1.out⟩
 ·have h0b:(ki==0)=false:=by simpa using h0
  have h0c:(ki != 0)=true:=by rw[bne,h0b];rfl
  have HF:Hid (r=false):=hid (by rw[HB.out];simp;intro e;exact absurd (by have:=HK.out;omega) h0);clear HRS HN;go_enter func74,ntmps74;go_wp2_with fail;refine HC.out.mono ?_;rintro e w1 ⟨rfl,hb1⟩;have HB1:=hid hb1;clear hb1;go_wp2;go_ret;exact⟨⟨_,rfl,by rw[HF.out];rfl⟩,HB1.out⟩
theorem zph (text:Gr.Str) (hl:text.length<=1073741823):ScalOk UT 8 text (locB text):=by
 intro w hw;have HC:=hid (zkl text hl w hw);obtain⟨r,hr⟩:=ex (locB text)
 rw[hr]at HC ⊢;clear hr hw;go_enter func42,ntmps42;go_wp2_with fail;refine HC.out.mono ?_;rintro e w2 ⟨⟨n,rfl,hn⟩,hb⟩;have HB:=hid hb;have HNN:=hid hn;clear hb hn;go_wp2;go_ret;exact⟨by rw[<-HNN.out];rfl,HB.out⟩
theorem zpi (text:Gr.Str) (hl:text.length<=1073741823):ScalOk UT 7 text (insB text):=by
 intro w hw;have HC:=hid (zg5 text hl w hw);have HB:Hid (insB text=decide ((insP text).2=0/\(insP text).1=text)):=hid rfl;obtain⟨r,hr⟩:=ex (insB text)
 rw[hr]at HB ⊢;obtain⟨⟨l,k⟩,hp⟩:∃p,insP text=p:=⟨_,rfl⟩
 rw[hp]at HC HB;obtain⟨ki,hki⟩:∃ki:Int,(k:Int)=ki:=⟨_,rfl⟩
 unfold zcn at HC;simp only[hki]at HC HB;have HK:=hid hki;clear hr hp hki hw;by_cases h0:ki=0
 ·subst h0;have h0b:((0:Int)==0)=true:=rfl;by_cases hs:l=text
  ·have hsb:(l==text)=true:=by rw[beq_iff_eq];exact hs
   have HF:Hid (r=true):=hid (by rw[HB.out];simp[hs];have:=HK.out;omega);clear hs;go_enter func42,ntmps42;go_wp2_with fail;refine HC.out.mono ?_;rintro e w1 ⟨rfl,hb1⟩;have HB1:=hid hb1;clear hb1;go_wp2;go_ret;rw[HF.out];exact⟨rfl,HB1.out⟩
  ·have hsb:(l==text)=false:=by rw[beq_eq_false_iff_ne];exact hs
   have HF:Hid (r=false):=hid (by rw[HB.out];simp[hs]);clear hs;go_enter func42,ntmps42;go_wp2_with fail;refine HC.out.mono ?_;rintro e w1 ⟨rfl,hb1⟩;have HB1:=hid hb1;clear hb1;go_wp2;go_ret;rw[HF.out];exact⟨rfl,HB1.out⟩
 ·have h0b:(ki==0)=false:=by simpa using h0
  have HF:Hid (r=false):=hid (by rw[HB.out];simp;intro e;exact absurd (by have:=HK.out;omega) h0);go_enter func42,ntmps42;go_wp2_with fail;refine HC.out.mono ?_;rintro e w1 ⟨rfl,hb1⟩;have HB1:=hid hb1;clear hb1;go_wp2;go_ret;rw[HF.out];exact⟨rfl,HB1.out⟩
noncomputable def sclX (kind:Int) (text:Gr.Str):Bool:=
 if kind=0 then text.isEmpty else if kind=1 then(decide (text=[116,114,117,101]) || decide (text=[102,97,108,115,101]))
 else if kind=2 then intB text else if kind=3 then(readP text).isSome else if kind=4 then fltP text else if kind=5 then utfB text
 else if kind=6 then true else if kind=7 then insB text else if kind=8 then locB text else false
theorem zhb (k:Int) (t:Gr.Str) (h:sclX k t=true):0<=k/\k<=8:=by
 unfold sclX at h;by_cases h0:k=0
 ·omega
 by_cases h1:k=1
 ·omega
 by_cases h2:k=2
 ·omega
 by_cases h3:k=3
 ·omega
 by_cases h4:k=4
 ·omega
 by_cases h5:k=5
 ·omega
 by_cases h6:k=6
 ·omega
 by_cases h7:k=7
 ·omega
 by_cases h8:k=8
 ·omega
 simp[h0,h1,h2,h3,h4,h5,h6,h7,h8]at h
theorem zqi (t:Gr.Str):sclX 0 t=t.isEmpty:=rfl
theorem zqj (t:Gr.Str):sclX 1 t=(decide (t=[116,114,117,101]) || decide (t=[102,97,108,115,101])):=rfl
theorem zqk (t:Gr.Str):sclX 2 t=intB t:=rfl
theorem zql (t:Gr.Str):sclX 3 t=(readP t).isSome:=rfl
theorem zqm (t:Gr.Str):sclX 4 t=fltP t:=rfl
theorem zqn (t:Gr.Str):sclX 5 t=utfB t:=rfl
theorem zqo (t:Gr.Str):sclX 6 t=true:=rfl
theorem zqp (t:Gr.Str):sclX 7 t=insB t:=rfl
theorem zqq (t:Gr.Str):sclX 8 t=locB t:=rfl
theorem zqr (k:Int) (t:Gr.Str) (h:k<0\/8<k):sclX k t=false:=by
 cases hs:sclX k t with
 |false=>rfl
 |true=>have:=zhb k t hs;omega
theorem zkw (kind:Int) (text:Gr.Str) (h:kind<0\/8<kind):ScalOk UT kind text false:=by
 intro w hw;have h0:(kind==0)=false:=by rw[beq_eq_false_iff_ne];omega
 have h1:(kind==1)=false:=by rw[beq_eq_false_iff_ne];omega
 have h2:(kind==2)=false:=by rw[beq_eq_false_iff_ne];omega
 have h3:(kind==3)=false:=by rw[beq_eq_false_iff_ne];omega
 have h4:(kind==4)=false:=by rw[beq_eq_false_iff_ne];omega
 have h5:(kind==5)=false:=by rw[beq_eq_false_iff_ne];omega
 have h6:(kind==6)=false:=by rw[beq_eq_false_iff_ne];omega
 have h7:(kind==7)=false:=by rw[beq_eq_false_iff_ne];omega
 have h8:(kind==8)=false:=by rw[beq_eq_false_iff_ne];omega
 clear hw h;go_enter func42,ntmps42;go_wp2;go_ret;exact⟨rfl,Below.refl _ _⟩
theorem zqs (kind:Int) (text:Gr.Str) (hl:text.length<=268435455):ScalOk UT kind text (sclX kind text):=by
 have hl2:text.length<=1073741823:=by omega
 by_cases h:kind<0\/8<kind
 ·rw[zqr _ _ h];exact zkw _ _ h
 ·have hc:kind=0\/kind=1\/kind=2\/kind=3\/kind=4\/kind=5\/kind=6\/kind=7\/kind=8:=by omega
  rcases hc with rfl|rfl|rfl|rfl|rfl|rfl|rfl|rfl|rfl
  ·rw[zqi];exact zha text
  ·rw[zqj];exact zns text
  ·rw[zqk];exact zdu text hl2
  ·rw[zql];exact zpm text hl2
  ·rw[zqm];exact zo7 text hl2
  ·rw[zqn];exact zem text hl2
  ·rw[zqo];exact zkn text
  ·rw[zqp];exact zpi text hl2
  ·rw[zqq];exact zph text hl2
def RScal (kind:Int) (text:Gr.Str) (r:Bool):Prop:=∀w,Calls prog 17 #[.int .i64 kind,.string ⟨text.toArray⟩] w fun e w'=>e=.returned (.bool r)/\Below w.heap.size w w'
theorem zsb (text:Gr.Str):RScal 0 text text.isEmpty:=by
 intro w;have ht:=zhh text;go_enter func17,ntmps17;go_wp2;go_ret;exact⟨rfl,Below.refl _ _⟩
theorem zsc (text:Gr.Str):RScal 1 text (decide (text=[116,114,117,101]) || decide (text=[102,97,108,115,101])):=by
 intro w;by_cases h1:text=[116,114,117,101]
 ·subst h1;go_enter func17,ntmps17;go_wp2;go_ret;exact⟨rfl,Below.refl _ _⟩
 ·have hb1:(text==[116,114,117,101])=false:=by rw[beq_eq_false_iff_ne];exact h1
  by_cases h2:text=[102,97,108,115,101]
  ·subst h2;go_enter func17,ntmps17;go_wp2;go_ret;exact⟨rfl,Below.refl _ _⟩
  ·have hb2:(text==[102,97,108,115,101])=false:=by rw[beq_eq_false_iff_ne];exact h2
   have HF:Hid ((decide (text=[116,114,117,101]) || decide (text=[102,97,108,115,101]))=false):=hid (by simp[h1,h2]);rw[HF.out];clear h1 h2;go_enter func17,ntmps17;go_wp2;go_ret;exact⟨rfl,Below.refl _ _⟩
theorem zsd (text:Gr.Str) (hl:text.length<=268435455):RScal 2 text (intB text):=by
 intro w;have HC:=hid (ze0 text (by omega) w);obtain⟨r,hr⟩:=ex (intB text)
 rw[hr]at HC ⊢;clear hr;go_enter func17,ntmps17;go_wp2_with fail;refine HC.out.mono ?_;rintro e w2 ⟨rfl,hb⟩;have HB:=hid (hb▸Below.refl _ _:Below w.heap.size w w2);clear hb;go_wp2;go_ret;exact⟨rfl,HB.out⟩
theorem zse (text:Gr.Str) (hl:text.length<=268435455):RScal 3 text (readP text).isSome:=by
 intro w;have HC:=hid (znr text hl w);rw[zra];obtain⟨r,hr⟩:=ex ((readR text).isSome)
 rw[hr]at HC ⊢;clear hr;unfold zbo at HC;go_enter func17,ntmps17;go_wp2_with fail;refine HC.out.mono ?_;rintro e w2 ⟨n,A,l,c,x,rfl,hb⟩;have HB:=hid hb;clear hb;go_wp2;go_ret;exact⟨rfl,HB.out.alloc HB.out.size _⟩
theorem zsf (text:Gr.Str) (hl:text.length<=268435455):RScal 4 text (fltP text):=by
 intro w;have HC:=hid (zon text (by omega) w);rw[zs2];obtain⟨r,hr⟩:=ex (fltR text)
 rw[hr]at HC ⊢;clear hr;unfold OfF at HC;go_enter func17,ntmps17;go_wp2_with fail;refine HC.out.mono ?_;rintro e w2 ⟨⟨a,b,c,d,rfl⟩,hb⟩;have HB:=hid hb;clear hb;go_wp2;go_ret;exact⟨rfl,HB.out.alloc HB.out.size _⟩
theorem zsg (text:Gr.Str) (hl:text.length<=268435455):RScal 5 text (utfB text):=by
 intro w;obtain⟨r,hr⟩:=ex (utfB text)
 have HC:=hid (Utf.ztt text (by omega) w r (by rw[<-hr];unfold utfB;cases Utf.bad text<;>rfl));rw[hr];clear hr;go_enter func17,ntmps17;go_wp2_with fail;refine HC.out.mono ?_;rintro e w2 ⟨rfl,hb⟩;have HB:=hid hb;clear hb;go_wp2;go_ret;exact⟨rfl,HB.out⟩
theorem zsh (text:Gr.Str):RScal 6 text true:=by
 intro w;go_enter func17,ntmps17;go_wp2;go_ret;exact⟨rfl,Below.refl _ _⟩
theorem zsi (text:Gr.Str) (hl:text.length<=268435455):RScal 7 text (insB text):=by
 intro w;have HC:=hid (zg3 text (by omega) w);obtain⟨r,hr⟩:=ex (insB text)
 rw[hr]at HC ⊢;clear hr;go_enter func17,ntmps17;go_wp2_with fail;refine HC.out.mono ?_;rintro e w2 ⟨rfl,hb⟩;have HB:=hid hb;clear hb;go_wp2;go_ret;exact⟨rfl,HB.out⟩
theorem zsj (text:Gr.Str) (hl:text.length<=268435455):RScal 8 text (locB text):=by
 intro w;have HC:=hid (zki text (by omega) w);obtain⟨r,hr⟩:=ex (locB text)
 rw[hr]at HC ⊢;clear hr;go_enter func17,ntmps17;go_wp2_with fail;refine HC.out.mono ?_;rintro e w2 ⟨rfl,hb⟩;have HB:=hid hb;clear hb;go_wp2;go_ret;exact⟨rfl,HB.out⟩
theorem zia (kind:Int) (text:Gr.Str) (h:kind<0\/8<kind):RScal kind text false:=by
 intro w;have h0:(kind==0)=false:=by rw[beq_eq_false_iff_ne];omega
 have h1:(kind==1)=false:=by rw[beq_eq_false_iff_ne];omega
 have h2:(kind==2)=false:=by rw[beq_eq_false_iff_ne];omega
 have h3:(kind==3)=false:=by rw[beq_eq_false_iff_ne];omega
 have h4:(kind==4)=false:=by rw[beq_eq_false_iff_ne];omega
 have h5:(kind==5)=false:=by rw[beq_eq_false_iff_ne];omega
 have h6:(kind==6)=false:=by rw[beq_eq_false_iff_ne];omega
 have h7:(kind==7)=false:=by rw[beq_eq_false_iff_ne];omega
 have h8:(kind==8)=false:=by rw[beq_eq_false_iff_ne];omega
 clear h;go_enter func17,ntmps17;go_wp2;go_ret;exact⟨rfl,Below.refl _ _⟩
theorem zsk (kind:Int) (text:Gr.Str) (hl:text.length<=268435455):RScal kind text (sclX kind text):=by
 by_cases h:kind<0\/8<kind
 ·rw[zqr _ _ h];exact zia _ _ h
 ·have hc:kind=0\/kind=1\/kind=2\/kind=3\/kind=4\/kind=5\/kind=6\/kind=7\/kind=8:=by omega
  rcases hc with rfl|rfl|rfl|rfl|rfl|rfl|rfl|rfl|rfl
  ·rw[zqi];exact zsb text
  ·rw[zqj];exact zsc text
  ·rw[zqk];exact zsd text hl
  ·rw[zql];exact zse text hl
  ·rw[zqm];exact zsf text hl
  ·rw[zqn];exact zsg text hl
  ·rw[zqo];exact zsh text
  ·rw[zqp];exact zsi text hl
  ·rw[zqq];exact zsj text hl
end Go.Proofs.YtoigpackhninoaaGreatDoor
