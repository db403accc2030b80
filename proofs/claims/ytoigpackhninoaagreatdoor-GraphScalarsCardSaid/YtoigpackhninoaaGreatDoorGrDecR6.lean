/- Walks: the reference's Read; decimal.Valid; scalar at the kind Dec. -/
import Derived.Test.YtoigpackhninoaaGreatDoorGrDecR5
import Derived.Test.YtoigpackhninoaaGreatDoorGrDecE
import Derived.Test.YtoigpackhninoaaGreatDoorZ07
namespace Go.Proofs.YtoigpackhninoaaGreatDoor
set_option maxRecDepth 100000
set_option maxHeartbeats 16000000
open Go.RowKit
theorem expS_len {sat:Nat} {neg:Bool} {d:List Nat} {e:Int} {s:Gr.Str} {x:Gr.Dn} (h:Gr.expS sat neg d e s=some x):x.d.length<=d.length:=by
 unfold Gr.expS at h;split at h
 ·injection h with h;subst h;exact(norm_bd _ _ _).1
 ·split at h
  ·split at h
   ·cases h
   ·injection h with h;subst h;exact(norm_bd _ _ _).1
  ·cases h
theorem numT_len {sat:Nat} {neg:Bool} {s:Gr.Str} {x:Gr.Dn} (h:Gr.numT sat neg s=some x):x.d.length<=s.length:=by
 have h0:=List.takeWhile_append_dropWhile (p:=Gr.dig) (l:=s);have h1:(s.takeWhile Gr.dig).length+(s.dropWhile Gr.dig).length=s.length:=by
  rw[<-List.length_append,h0]
 have h2:((s.dropWhile Gr.dig).tail.takeWhile Gr.dig).length<=(s.dropWhile Gr.dig).length:=Nat.le_trans (List.takeWhile_sublist Gr.dig).length_le (by rw[List.length_tail];omega);unfold Gr.numT at h;split at h
 ·cases h
 ·split at h
  ·split at h
   ·cases h
   ·have:=expS_len h;rw[vals_len,List.length_append]at this;omega
  ·have:=expS_len h;rw[vals_len]at this;omega
theorem numS_len {sat:Nat} {s:Gr.Str} {x:Gr.Dn} (h:Gr.numS sat s=some x):x.d.length<=s.length:=by
 unfold Gr.numS at h;split at h
 ·have:=numT_len h;rw[List.length_tail]at this;omega
 ·exact numT_len h
def RReadPost (b:Bool) (w:World) (e:Ending) (w':World):Prop:=∃(n:Bool) (A:Option Addr) (l c:Nat) (x:Int),e=.returned (.tuple #[.agg #[.bool n,.slice A l c,.int .i64 x],.bool b])/\Below w.heap.size w w'
theorem str_bne (a b:Gr.Str):(a != b)=!decide (a=b):=by
 rw[bne]
 congr 1
 rw[Bool.eq_iff_iff];simp
theorem rread_any (s:Gr.Str) (hl:s.length<=268435455) (w:World):
 Calls Tryz.prog 44 #[.string ⟨s.toArray⟩] w (RReadPost (Gr.readR s).isSome w):=by
 have HN:=Lib.hid (fun W=>rnumeral_any s hl W);cases ho:Gr.numS 1000000 s with
 |none=>
  have HR:Hid ((Gr.readR s).isSome=false):=Lib.hid (by unfold Gr.readR;rw[ho];rfl);rw[ho]at HN;clear ho;go_enter Tryz.func44,Tryz.ntmps44;go_upto_region 1 with fail;obtain⟨w1,hw1⟩:∃w1,w.alloc (.cells #[.bool false,.slice none 0 0,.int .i64 0] 69)=w1:=⟨_,rfl⟩
  obtain⟨gb,hgb⟩:∃gb,w.heap.size=gb:=⟨_,rfl⟩
  have HB1:Hid (Blk w1 gb 69 #[.bool false,.slice none 0 0,.int .i64 0]/\Below gb w w1):=Lib.hid (by rw[<-hw1,<-hgb];exact⟨Blk.new _ _ _,(Below.refl _ _).alloc (Nat.le_refl _) _⟩);have HGB:=Lib.hid hgb;(try rw[hw1]);(try rw[hgb]);clear hw1 hgb;go_wp2_with fail;refine(HN.out _).mono ?_;rintro e w2 ⟨x,v,rfl,⟨A,c,rfl,ho2⟩,hx,hb⟩;have HB2:Hid (Blk w2 gb 69 #[.bool false,.slice none 0 0,.int .i64 0]/\Below gb w w2):=Lib.hid ⟨HB1.out.1.below hb HB1.out.1.lt,HB1.out.2.trans (hb.mono (Nat.le_of_lt HB1.out.1.lt))⟩;clear ho2 hx hb;simp only[Option.isSome_none];have p0:∀j,w2.frozen? ⟨gb,j,none⟩=false:=HB2.out.1.frozen;obtain⟨q0,q1,q2⟩:=cells3 HB2.out.1;have hlt:gb<w2.heap.size:=HB2.out.1.lt;go_wp2_with fail;have hb3:=(((HB2.out.1.set_ 0 (.bool false)).set_ 1 (.slice none 0 0)).set_ 2 (.int .i64 0)).alloc (.cells #[.bool x.neg,.slice A x.d.length c,.int .i64 x.e] 69);have e0:=hb3.cell 0;have e1:=hb3.cell 1;have e2:=hb3.cell 2;refine bodyPost_ret (v:=.tuple #[.agg #[.bool false,.slice none 0 0,.int .i64 0],.bool false]) (by rw[results_cell_tmp rfl];go_simp) rfl ?_;unfold RReadPost;rw[HGB.out,HR.out];exact⟨_,_,_,_,_,rfl,(((HB2.out.2.setCell (p:=⟨gb,0,none⟩) (by simp) _).setCell (p:=⟨gb,1,none⟩) (by simp) _).setCell (p:=⟨gb,2,none⟩) (by simp) _).alloc (by have:=HB2.out.1.lt;simp;omega) _⟩
 |some y=>
  have hwf:=Gr.numS_wf ho;have hyl:=numS_len ho;have HY:Hid (Gr.Wf y/\y.d.length<=s.length):=Lib.hid ⟨hwf,hyl⟩;have HRR:Hid (Gr.readR s=if Gr.lim y=0/\Gr.text y=s then some y else none):=Lib.hid (by unfold Gr.readR;rw[ho]);rw[ho]at HN;clear ho hwf hyl;obtain⟨r,hr⟩:∃r,(Gr.readR s).isSome=r:=⟨_,rfl⟩
  have HR:=Lib.hid hr;rw[hr];clear hr;have HLIM:=Lib.hid (fun(A:Option Addr) (c:Nat) (W:World)=>rlimit_any y A c (by have:=HY.out.2;omega) W);have HSHW:=Lib.hid (fun(A:Option Addr) (c:Nat) (W:World) (h0:Gr.lim y=0) (hrow:RowAt intL W W.heap.size A y.d)=>rshow_any y A c (by have:=HY.out.2;omega) HY.out.1.lt (by have:=Gr.lim_zero h0;omega) (by have:=Gr.lim_zero h0;omega) W hrow);obtain⟨L,hL⟩:∃L:Int,((Gr.lim y:Nat):Int)=L:=⟨_,rfl⟩
  have HL:=Lib.hid hL;rw[hL]at HLIM;clear hL;go_enter Tryz.func44,Tryz.ntmps44;go_upto_region 1 with fail;obtain⟨w1,hw1⟩:∃w1,w.alloc (.cells #[.bool false,.slice none 0 0,.int .i64 0] 69)=w1:=⟨_,rfl⟩
  obtain⟨gb,hgb⟩:∃gb,w.heap.size=gb:=⟨_,rfl⟩
  have HB1:Hid (Blk w1 gb 69 #[.bool false,.slice none 0 0,.int .i64 0]/\Below gb w w1):=Lib.hid (by rw[<-hw1,<-hgb];exact⟨Blk.new _ _ _,(Below.refl _ _).alloc (Nat.le_refl _) _⟩);have HGB:=Lib.hid hgb;(try rw[hw1]);(try rw[hgb]);clear hw1 hgb;go_wp2_with fail;refine(HN.out _).mono ?_;rintro e w2 ⟨x,v,rfl,⟨A,c,rfl,ho2⟩,hx,hb⟩;obtain rfl:=hx y rfl;obtain⟨A',c',hv',hrow'⟩:=ho2.form;injection hv' with ea en ec
  subst ea ec;simp only[Option.isSome_some];obtain⟨w3,hw3⟩:∃w3,w3=w2.alloc (.cells #[.bool x.neg,.slice A x.d.length c,.int .i64 x.e] 69):=⟨_,rfl⟩
  obtain⟨g4,hg4⟩:∃g4,w2.heap.size=g4:=⟨_,rfl⟩
  have HB3:Hid (Blk w3 gb 69 #[.bool false,.slice none 0 0,.int .i64 0]/\Below gb w w3/\Blk w3 g4 69 #[.bool x.neg,.slice A x.d.length c,.int .i64 x.e]/\gb<g4/\RowAt intL w3 w3.heap.size A x.d):=Lib.hid (by
   have h1:=HB1.out.1.below hb HB1.out.1.lt;have h2:Below gb w w2:=HB1.out.2.trans (hb.mono (Nat.le_of_lt HB1.out.1.lt));rw[hw3,<-hg4];refine⟨h1.alloc _,h2.alloc (Nat.le_of_lt h1.lt) _,Blk.new _ _ _,h1.lt,?_⟩;exact(hrow'.below ((Below.refl _ _).alloc (Nat.le_refl _) _)).more (by simp))
  clear ho2 hx hb hrow';go_upto_region 2 with fail;(try rw[<-hw3]);(try rw[hg4]);clear hw3 hg4;obtain⟨q0,q1,q2⟩:=cells3 HB3.out.2.2.1;go_wp2_with fail;refine(HLIM.out _ _ _).mono ?_;rintro e w4 ⟨rfl,hb4⟩;have HB4:Hid (Blk w4 gb 69 #[.bool false,.slice none 0 0,.int .i64 0]/\Below gb w w4/\Blk w4 g4 69 #[.bool x.neg,.slice A x.d.length c,.int .i64 x.e]/\gb<g4/\RowAt intL w4 w4.heap.size A x.d):=Lib.hid ⟨HB3.out.1.below hb4 HB3.out.1.lt,HB3.out.2.1.trans (hb4.mono (Nat.le_of_lt HB3.out.1.lt)),HB3.out.2.2.1.below hb4 HB3.out.2.2.1.lt,HB3.out.2.2.2.1,(HB3.out.2.2.2.2.below hb4).more hb4.size⟩;clear hb4 q0 q1 q2;obtain⟨q0,q1,q2⟩:=cells3 HB4.out.2.2.1;by_cases hL0:L=0
  ·subst hL0;have HS:=Lib.hid (fun W=>HSHW.out A c W (by have:=HL.out;omega));go_wp2_with fail;refine(HS.out _ HB4.out.2.2.2.2).mono ?_;rintro e w5 ⟨rfl,hb5⟩;have HB5:Hid (Blk w5 gb 69 #[.bool false,.slice none 0 0,.int .i64 0]/\Below gb w w5/\Blk w5 g4 69 #[.bool x.neg,.slice A x.d.length c,.int .i64 x.e]):=Lib.hid ⟨HB4.out.1.below hb5 HB4.out.1.lt,HB4.out.2.1.trans (hb5.mono (Nat.le_of_lt HB4.out.1.lt)),HB4.out.2.2.1.below hb5 HB4.out.2.2.1.lt⟩;clear hb5 q0 q1 q2;obtain⟨q0,q1,q2⟩:=cells3 HB5.out.2.2;have p0:∀j,w5.frozen? ⟨gb,j,none⟩=false:=HB5.out.1.frozen;obtain⟨k0,k1,k2⟩:=cells3 HB5.out.1;by_cases ht:Gr.text x=s
   ·have hcmp:(Gr.text x==s)=true:=by rw[beq_iff_eq];exact ht
    have hcmp2:(Gr.text x != s)=false:=by rw[str_bne,decide_eq_true ht];rfl
    have HF:Hid (r=true):=Lib.hid (by rw[<-HR.out,HRR.out,if_pos ⟨by have:=HL.out;omega,ht⟩];rfl);clear ht;go_wp2_with fail;have hb3:=((HB5.out.1.set_ 0 (.bool x.neg)).set_ 1 (.slice A x.d.length c)).set_ 2 (.int .i64 x.e);have e0:=hb3.cell 0;have e1:=hb3.cell 1;have e2:=hb3.cell 2;refine bodyPost_ret (v:=.tuple #[.agg #[.bool x.neg,.slice A x.d.length c,.int .i64 x.e],.bool true]) (by rw[results_cell_tmp rfl];go_simp) rfl ?_;unfold RReadPost;rw[HGB.out,HF.out];exact⟨_,_,_,_,_,rfl,((HB5.out.2.1.setCell (p:=⟨gb,0,none⟩) (by simp) _).setCell (p:=⟨gb,1,none⟩) (by simp) _).setCell (p:=⟨gb,2,none⟩) (by simp) _⟩
   ·have hcmp:(Gr.text x==s)=false:=by rw[beq_eq_false_iff_ne];exact ht
    have hcmp2:(Gr.text x != s)=true:=by rw[str_bne,decide_eq_false ht];rfl
    have HF:Hid (r=false):=Lib.hid (by rw[<-HR.out,HRR.out,if_neg (fun h=>ht h.2)];rfl);clear ht;go_wp2_with fail;have hb3:=((HB5.out.1.set_ 0 (.bool false)).set_ 1 (.slice none 0 0)).set_ 2 (.int .i64 0);have e0:=hb3.cell 0;have e1:=hb3.cell 1;have e2:=hb3.cell 2;refine bodyPost_ret (v:=.tuple #[.agg #[.bool false,.slice none 0 0,.int .i64 0],.bool false]) (by rw[results_cell_tmp rfl];go_simp) rfl ?_;unfold RReadPost;rw[HGB.out,HF.out];exact⟨_,_,_,_,_,rfl,((HB5.out.2.1.setCell (p:=⟨gb,0,none⟩) (by simp) _).setCell (p:=⟨gb,1,none⟩) (by simp) _).setCell (p:=⟨gb,2,none⟩) (by simp) _⟩
  ·have hz0:(L==0)=false:=by simpa using hL0
   have hz1:(L != 0)=true:=by rw[bne,hz0];rfl
   have HF:Hid (r=false):=Lib.hid (by rw[<-HR.out,HRR.out,if_neg (fun h=>hL0 (by have:=HL.out;omega))];rfl);have p0:∀j,w4.frozen? ⟨gb,j,none⟩=false:=HB4.out.1.frozen;obtain⟨k0,k1,k2⟩:=cells3 HB4.out.1;go_wp2_with fail;have hb3:=((HB4.out.1.set_ 0 (.bool false)).set_ 1 (.slice none 0 0)).set_ 2 (.int .i64 0);have e0:=hb3.cell 0;have e1:=hb3.cell 1;have e2:=hb3.cell 2;refine bodyPost_ret (v:=.tuple #[.agg #[.bool false,.slice none 0 0,.int .i64 0],.bool false]) (by rw[results_cell_tmp rfl];go_simp) rfl ?_;unfold RReadPost;rw[HGB.out,HF.out];exact⟨_,_,_,_,_,rfl,((HB4.out.2.1.setCell (p:=⟨gb,0,none⟩) (by simp) _).setCell (p:=⟨gb,1,none⟩) (by simp) _).setCell (p:=⟨gb,2,none⟩) (by simp) _⟩
theorem decvalid_any (s:Gr.Str) (hl:s.length<=1073741823) (w:World) (hT:UT w):
 Calls Tryz.prog 70 #[.string ⟨s.toArray⟩] w fun e w'=>e=.returned (.bool (Gr.readP s).isSome)/\Below w.heap.size w w':=by
 have HC:=Lib.hid (dread_any s hl w hT);clear hT;obtain⟨r,hr⟩:∃r,(Gr.readP s).isSome=r:=⟨_,rfl⟩
 unfold ReadPost at HC;rw[hr]at HC ⊢;clear hr;go_enter Tryz.func70,Tryz.ntmps70;go_wp2_with fail;refine HC.out.mono ?_;rintro e w2 ⟨x,v,rfl,⟨A,c,rfl,_⟩,_,hb⟩;have HB:=Lib.hid hb;clear hb;go_wp2_with fail;go_ret;exact⟨rfl,HB.out.alloc HB.out.size _⟩
theorem scal_dec (text:Gr.Str) (hl:text.length<=1073741823):ScalOk UT 3 text (Gr.readP text).isSome:=by
 intro w hw;have HC:=Lib.hid (fun W hW=>decvalid_any text hl W hW);have HW:=Lib.hid hw;obtain⟨r,hr⟩:∃r,(Gr.readP text).isSome=r:=⟨_,rfl⟩
 rw[hr]at HC ⊢;clear hr hw;go_enter Tryz.func42,Tryz.ntmps42;go_wp2_with fail;refine(HC.out _ HW.out).mono ?_;rintro e w2 ⟨rfl,hb⟩;have HB:=Lib.hid hb;clear hb;go_wp2_with fail;go_ret;exact⟨rfl,HB.out⟩
theorem scal_bool (text:Gr.Str):ScalOk UT 1 text (decide (text=[116,114,117,101]) || decide (text=[102,97,108,115,101])):=by
 intro w hw;clear hw;by_cases h1:text=[116,114,117,101]
 ·subst h1;go_enter Tryz.func42,Tryz.ntmps42;go_wp2_with fail;go_ret;exact⟨rfl,Below.refl _ _⟩
 ·have hb1:(text==[116,114,117,101])=false:=by rw[beq_eq_false_iff_ne];exact h1
  by_cases h2:text=[102,97,108,115,101]
  ·subst h2;go_enter Tryz.func42,Tryz.ntmps42;go_wp2_with fail;go_ret;exact⟨rfl,Below.refl _ _⟩
  ·have hb2:(text==[102,97,108,115,101])=false:=by rw[beq_eq_false_iff_ne];exact h2
   have HF:Hid ((decide (text=[116,114,117,101]) || decide (text=[102,97,108,115,101]))=false):=Lib.hid (by simp[h1,h2]);go_enter Tryz.func42,Tryz.ntmps42;go_wp2_with fail;go_ret;rw[HF.out];exact⟨rfl,Below.refl _ _⟩
theorem scal_bytes (text:Gr.Str):ScalOk UT 6 text true:=by
 intro w hw;clear hw;go_enter Tryz.func42,Tryz.ntmps42;go_wp2_with fail;go_ret;exact⟨rfl,Below.refl _ _⟩
end Go.Proofs.YtoigpackhninoaaGreatDoor
