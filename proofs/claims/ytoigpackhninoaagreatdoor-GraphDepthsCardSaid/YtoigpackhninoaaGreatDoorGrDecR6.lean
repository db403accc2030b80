import Derived.Test.YtoigpackhninoaaGreatDoorGrDecR5
import Derived.Test.YtoigpackhninoaaGreatDoorGrDecE
namespace Go.Proofs.YtoigpackhninoaaGreatDoor
open Gr
open _root_.Go.Proofs.Tryz
open Lib (hid)
set_option maxRecDepth 100000
set_option maxHeartbeats 16000000
open Go.RowKit
theorem zlp {sat:Nat} {neg:Bool} {d:List Nat} {e:Int} {s:Gr.Str} {x:Gr.Dn} (h:expS sat neg d e s=some x):x.d.length<=d.length:=by
 unfold expS at h;split at h
 ·injection h with h;subst h;exact(zj2 _ _ _).1
 ·split at h
  ·split at h
   ·cases h
   ·injection h with h;subst h;exact(zj2 _ _ _).1
  ·cases h
theorem zlq {sat:Nat} {neg:Bool} {s:Gr.Str} {x:Gr.Dn} (h:numT sat neg s=some x):x.d.length<=s.length:=by
 have h0:=List.takeWhile_append_dropWhile (p:=Gr.dig) (l:=s);have h1:(s.takeWhile Gr.dig).length+(s.dropWhile Gr.dig).length=s.length:=by
  rw[<-List.length_append,h0]
 have h2:((s.dropWhile Gr.dig).tail.takeWhile Gr.dig).length<=(s.dropWhile Gr.dig).length:=Nat.le_trans (List.takeWhile_sublist Gr.dig).length_le (by rw[List.length_tail];omega);unfold numT at h;split at h
 ·cases h
 ·split at h
  ·split at h
   ·cases h
   ·have:=zlp h;rw[zbc,List.length_append]at this;omega
  ·have:=zlp h;rw[zbc]at this;omega
theorem ztm {sat:Nat} {s:Gr.Str} {x:Gr.Dn} (h:numS sat s=some x):x.d.length<=s.length:=by
 unfold numS at h;split at h
 ·have:=zlq h;rw[List.length_tail]at this;omega
 ·exact zlq h
def zb7 (b:Bool) (w:World) (e:Ending) (w':World):Prop:=∃(n:Bool) (A:Option Addr) (l c:Nat) (x:Int),e=.returned (.tuple #[.agg #[.bool n,.slice A l c,.int .i64 x],.bool b])/\Below w.heap.size w w'
theorem zq8 (a b:Gr.Str):(a != b)=!decide (a=b):=by
 rw[bne]
 congr 1
 rw[Bool.eq_iff_iff];simp
theorem zq9 (s:Gr.Str) (hl:s.length<=268435455) (w:World):
 Calls prog 44 #[.string ⟨s.toArray⟩] w (zb7 (readR s).isSome w):=by
 have HN:=hid (fun W=>zi2 s hl W);cases ho:numS 1000000 s with
 |none=>
  have HR:Hid ((readR s).isSome=false):=hid (by unfold readR;rw[ho];rfl);rw[ho]at HN;clear ho;go_enter func44,ntmps44;go_upto_region 1 with fail;obtain⟨w1,hw1⟩:=ex (w.alloc (.cells #[.bool false,.slice none 0 0,.int .i64 0] 69))
  obtain⟨gb,hgb⟩:=ex w.heap.size
  have HB1:Hid (Blk w1 gb 69 #[.bool false,.slice none 0 0,.int .i64 0]/\Below gb w w1):=hid (by rw[<-hw1,<-hgb];exact⟨Blk.new _ _ _,(Below.refl _ _).alloc (Nat.le_refl _) _⟩);have HGB:=hid hgb;(try rw[hw1]);(try rw[hgb]);clear hw1 hgb;go_wp2_with fail;refine(HN.out _).mono ?_;rintro e w2 ⟨x,v,rfl,⟨A,c,rfl,ho2⟩,hx,hb⟩;have HB2:Hid (Blk w2 gb 69 #[.bool false,.slice none 0 0,.int .i64 0]/\Below gb w w2):=hid ⟨HB1.out.1.below hb HB1.out.1.lt,HB1.out.2.trans (hb.mono (Nat.le_of_lt HB1.out.1.lt))⟩;clear ho2 hx hb;simp only[Option.isSome_none];have p0:∀j,w2.frozen? ⟨gb,j,none⟩=false:=HB2.out.1.frozen;obtain⟨q0,q1,q2⟩:=cells3 HB2.out.1;have hlt:gb<w2.heap.size:=HB2.out.1.lt;go_wp2_with fail;have hb3:=(((HB2.out.1.set_ 0 (.bool false)).set_ 1 (.slice none 0 0)).set_ 2 (.int .i64 0)).alloc (.cells #[.bool x.neg,.slice A x.d.length c,.int .i64 x.e] 69);have e0:=hb3.cell 0;have e1:=hb3.cell 1;have e2:=hb3.cell 2;refine bodyPost_ret (v:=.tuple #[.agg #[.bool false,.slice none 0 0,.int .i64 0],.bool false]) (by rw[results_cell_tmp rfl];go_simp) rfl ?_;unfold zb7;rw[HGB.out,HR.out];exact⟨_,_,_,_,_,rfl,(((HB2.out.2.setCell (p:=⟨gb,0,none⟩) (by simp) _).setCell (p:=⟨gb,1,none⟩) (by simp) _).setCell (p:=⟨gb,2,none⟩) (by simp) _).alloc (by have:=HB2.out.1.lt;simp;omega) _⟩
 |some y=>
  have hwf:=zof ho;have hyl:=ztm ho;have HY:Hid (Gr.Wf y/\y.d.length<=s.length):=hid ⟨hwf,hyl⟩;have HRR:Hid (readR s=if lim y=0/\Gr.text y=s then some y else none):=hid (by unfold readR;rw[ho]);rw[ho]at HN;clear ho hwf hyl;obtain⟨r,hr⟩:=ex ((readR s).isSome)
  have HR:=hid hr;rw[hr];clear hr;have HLIM:=hid (fun(A:Option Addr) (c:Nat) (W:World)=>znc y A c (by have:=HY.out.2;omega) W);have HSHW:=hid (fun(A:Option Addr) (c:Nat) (W:World) (h0:lim y=0) (hrow:RowAt intL W W.heap.size A y.d)=>zq2 y A c (by have:=HY.out.2;omega) HY.out.1.lt (by have:=zel h0;omega) (by have:=zel h0;omega) W hrow);obtain⟨L,hL⟩:∃L:Int,((lim y:Nat):Int)=L:=⟨_,rfl⟩
  have HL:=hid hL;rw[hL]at HLIM;clear hL;go_enter func44,ntmps44;go_upto_region 1 with fail;obtain⟨w1,hw1⟩:=ex (w.alloc (.cells #[.bool false,.slice none 0 0,.int .i64 0] 69))
  obtain⟨gb,hgb⟩:=ex w.heap.size
  have HB1:Hid (Blk w1 gb 69 #[.bool false,.slice none 0 0,.int .i64 0]/\Below gb w w1):=hid (by rw[<-hw1,<-hgb];exact⟨Blk.new _ _ _,(Below.refl _ _).alloc (Nat.le_refl _) _⟩);have HGB:=hid hgb;(try rw[hw1]);(try rw[hgb]);clear hw1 hgb;go_wp2_with fail;refine(HN.out _).mono ?_;rintro e w2 ⟨x,v,rfl,⟨A,c,rfl,ho2⟩,hx,hb⟩;obtain rfl:=hx y rfl;obtain⟨A',c',hv',hrow'⟩:=ho2.form;injection hv' with ea en ec
  subst ea ec;simp only[Option.isSome_some];obtain⟨w3,hw3⟩:∃w3,w3=w2.alloc (.cells #[.bool x.neg,.slice A x.d.length c,.int .i64 x.e] 69):=⟨_,rfl⟩
  obtain⟨g4,hg4⟩:=ex w2.heap.size
  have HB3:Hid (Blk w3 gb 69 #[.bool false,.slice none 0 0,.int .i64 0]/\Below gb w w3/\Blk w3 g4 69 #[.bool x.neg,.slice A x.d.length c,.int .i64 x.e]/\gb<g4/\RowAt intL w3 w3.heap.size A x.d):=hid (by
   have h1:=HB1.out.1.below hb HB1.out.1.lt;have h2:Below gb w w2:=HB1.out.2.trans (hb.mono (Nat.le_of_lt HB1.out.1.lt));rw[hw3,<-hg4];refine⟨h1.alloc _,h2.alloc (Nat.le_of_lt h1.lt) _,Blk.new _ _ _,h1.lt,?_⟩;exact(hrow'.below ((Below.refl _ _).alloc (Nat.le_refl _) _)).more (by simp))
  clear ho2 hx hb hrow';go_upto_region 2 with fail;(try rw[<-hw3]);(try rw[hg4]);clear hw3 hg4;obtain⟨q0,q1,q2⟩:=cells3 HB3.out.2.2.1;go_wp2_with fail;refine(HLIM.out _ _ _).mono ?_;rintro e w4 ⟨rfl,hb4⟩;have HB4:Hid (Blk w4 gb 69 #[.bool false,.slice none 0 0,.int .i64 0]/\Below gb w w4/\Blk w4 g4 69 #[.bool x.neg,.slice A x.d.length c,.int .i64 x.e]/\gb<g4/\RowAt intL w4 w4.heap.size A x.d):=hid ⟨HB3.out.1.below hb4 HB3.out.1.lt,HB3.out.2.1.trans (hb4.mono (Nat.le_of_lt HB3.out.1.lt)),HB3.out.2.2.1.below hb4 HB3.out.2.2.1.lt,HB3.out.2.2.2.1,(HB3.out.2.2.2.2.below hb4).more hb4.size⟩;clear hb4 q0 q1 q2;obtain⟨q0,q1,q2⟩:=cells3 HB4.out.2.2.1;by_cases hL0:L=0
  ·subst hL0;have HS:=hid (fun W=>HSHW.out A c W (by have:=HL.out;omega));go_wp2_with fail;refine(HS.out _ HB4.out.2.2.2.2).mono ?_;rintro e w5 ⟨rfl,hb5⟩;have HB5:Hid (Blk w5 gb 69 #[.bool false,.slice none 0 0,.int .i64 0]/\Below gb w w5/\Blk w5 g4 69 #[.bool x.neg,.slice A x.d.length c,.int .i64 x.e]):=hid ⟨HB4.out.1.below hb5 HB4.out.1.lt,HB4.out.2.1.trans (hb5.mono (Nat.le_of_lt HB4.out.1.lt)),HB4.out.2.2.1.below hb5 HB4.out.2.2.1.lt⟩;clear hb5 q0 q1 q2;obtain⟨q0,q1,q2⟩:=cells3 HB5.out.2.2;have p0:∀j,w5.frozen? ⟨gb,j,none⟩=false:=HB5.out.1.frozen;obtain⟨k0,k1,k2⟩:=cells3 HB5.out.1;by_cases ht:Gr.text x=s
   ·have hcmp:(Gr.text x==s)=true:=by rw[beq_iff_eq];exact ht
    have hcmp2:(Gr.text x != s)=false:=by rw[zq8,decide_eq_true ht];rfl
    have HF:Hid (r=true):=hid (by rw[<-HR.out,HRR.out,if_pos ⟨by have:=HL.out;omega,ht⟩];rfl);clear ht;go_wp2_with fail;have hb3:=((HB5.out.1.set_ 0 (.bool x.neg)).set_ 1 (.slice A x.d.length c)).set_ 2 (.int .i64 x.e);have e0:=hb3.cell 0;have e1:=hb3.cell 1;have e2:=hb3.cell 2;refine bodyPost_ret (v:=.tuple #[.agg #[.bool x.neg,.slice A x.d.length c,.int .i64 x.e],.bool true]) (by rw[results_cell_tmp rfl];go_simp) rfl ?_;unfold zb7;rw[HGB.out,HF.out];exact⟨_,_,_,_,_,rfl,((HB5.out.2.1.setCell (p:=⟨gb,0,none⟩) (by simp) _).setCell (p:=⟨gb,1,none⟩) (by simp) _).setCell (p:=⟨gb,2,none⟩) (by simp) _⟩
   ·have hcmp:(Gr.text x==s)=false:=by rw[beq_eq_false_iff_ne];exact ht
    have hcmp2:(Gr.text x != s)=true:=by rw[zq8,decide_eq_false ht];rfl
    have HF:Hid (r=false):=hid (by rw[<-HR.out,HRR.out,if_neg (fun h=>ht h.2)];rfl);clear ht;go_wp2_with fail;have hb3:=((HB5.out.1.set_ 0 (.bool false)).set_ 1 (.slice none 0 0)).set_ 2 (.int .i64 0);have e0:=hb3.cell 0;have e1:=hb3.cell 1;have e2:=hb3.cell 2;refine bodyPost_ret (v:=.tuple #[.agg #[.bool false,.slice none 0 0,.int .i64 0],.bool false]) (by rw[results_cell_tmp rfl];go_simp) rfl ?_;unfold zb7;rw[HGB.out,HF.out];exact⟨_,_,_,_,_,rfl,((HB5.out.2.1.setCell (p:=⟨gb,0,none⟩) (by simp) _).setCell (p:=⟨gb,1,none⟩) (by simp) _).setCell (p:=⟨gb,2,none⟩) (by simp) _⟩
  ·have hz0:(L==0)=false:=by simpa using hL0
   have hz1:(L != 0)=true:=by rw[bne,hz0];rfl
   have HF:Hid (r=false):=hid (by rw[<-HR.out,HRR.out,if_neg (fun h=>hL0 (by have:=HL.out;omega))];rfl);have p0:∀j,w4.frozen? ⟨gb,j,none⟩=false:=HB4.out.1.frozen;obtain⟨k0,k1,k2⟩:=cells3 HB4.out.1;go_wp2_with fail;have hb3:=((HB4.out.1.set_ 0 (.bool false)).set_ 1 (.slice none 0 0)).set_ 2 (.int .i64 0);have e0:=hb3.cell 0;have e1:=hb3.cell 1;have e2:=hb3.cell 2;refine bodyPost_ret (v:=.tuple #[.agg #[.bool false,.slice none 0 0,.int .i64 0],.bool false]) (by rw[results_cell_tmp rfl];go_simp) rfl ?_;unfold zb7;rw[HGB.out,HF.out];exact⟨_,_,_,_,_,rfl,((HB4.out.2.1.setCell (p:=⟨gb,0,none⟩) (by simp) _).setCell (p:=⟨gb,1,none⟩) (by simp) _).setCell (p:=⟨gb,2,none⟩) (by simp) _⟩
theorem zi3 (s:Gr.Str) (hl:s.length<=1073741823) (w:World) (hT:UT w):
 Calls prog 70 #[.string ⟨s.toArray⟩] w fun e w'=>e=.returned (.bool (readP s).isSome)/\Below w.heap.size w w':=by
 have HC:=hid (zp8 s hl w hT);clear hT;obtain⟨r,hr⟩:=ex ((readP s).isSome)
 unfold zbv at HC;rw[hr]at HC ⊢;clear hr;go_enter func70,ntmps70;go_wp2_with fail;refine HC.out.mono ?_;rintro e w2 ⟨x,v,rfl,⟨A,c,rfl,_⟩,_,hb⟩;have HB:=hid hb;clear hb;go_wp2;go_ret;exact⟨rfl,HB.out.alloc HB.out.size _⟩
theorem ztn (text:Gr.Str) (hl:text.length<=1073741823):ScalOk UT 3 text (readP text).isSome:=by
 intro w hw;have HC:=hid (fun W hW=>zi3 text hl W hW);have HW:=hid hw;obtain⟨r,hr⟩:=ex ((readP text).isSome)
 rw[hr]at HC ⊢;clear hr hw;go_enter func42,ntmps42;go_wp2_with fail;refine(HC.out _ HW.out).mono ?_;rintro e w2 ⟨rfl,hb⟩;have HB:=hid hb;clear hb;go_wp2;go_ret;exact⟨rfl,HB.out⟩
theorem zra (text:Gr.Str):ScalOk UT 1 text (decide (text=[116,114,117,101]) || decide (text=[102,97,108,115,101])):=by
 intro w hw;clear hw;by_cases h1:text=[116,114,117,101]
 ·subst h1;go_enter func42,ntmps42;go_wp2;go_ret;exact⟨rfl,Below.refl _ _⟩
 ·have hb1:(text==[116,114,117,101])=false:=by rw[beq_eq_false_iff_ne];exact h1
  by_cases h2:text=[102,97,108,115,101]
  ·subst h2;go_enter func42,ntmps42;go_wp2;go_ret;exact⟨rfl,Below.refl _ _⟩
  ·have hb2:(text==[102,97,108,115,101])=false:=by rw[beq_eq_false_iff_ne];exact h2
   have HF:Hid ((decide (text=[116,114,117,101]) || decide (text=[102,97,108,115,101]))=false):=hid (by simp[h1,h2]);go_enter func42,ntmps42;go_wp2;go_ret;rw[HF.out];exact⟨rfl,Below.refl _ _⟩
theorem znd (text:Gr.Str):ScalOk UT 6 text true:=by
 intro w hw;clear hw;go_enter func42,ntmps42;go_wp2;go_ret;exact⟨rfl,Below.refl _ _⟩
end Go.Proofs.YtoigpackhninoaaGreatDoor
