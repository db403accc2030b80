import Derived.Test.YtoigpackhninoaaGreatDoorZ11
import Derived.Test.YtoigpackhninoaaGreatDoorZ18
import Derived.Test.YtoigpackhninoaaGreatDoorZ22
import Derived.Test.YtoigpackhninoaaGreatDoorGrDecR6
import Derived.Test.YtoigpackhninoaaGreatDoorGrUtfR
namespace Go.Proofs.YtoigpackhninoaaGreatDoor
open Gr
open _root_.Go.Proofs.Tryz
open _root_.Go.Lib (hid)
set_option maxRecDepth 100000
set_option maxHeartbeats 16000000
open Go.RowKit
noncomputable def sclX (kind:Int) (text:Gr.Str):Bool:=
 if kind=0 then text.isEmpty else if kind=1 then(decide (text=[116,114,117,101]) || decide (text=[102,97,108,115,101]))
 else if kind=2 then intB text else if kind=3 then(readP text).isSome else if kind=4 then fltP text else if kind=5 then utfB text
 else if kind=6 then true else if kind=7 then insB text else if kind=8 then locB text else false
theorem zb9 (k:Int) (t:Gr.Str) (h:sclX k t=true):0<=k/\k<=8:=by
 unfold sclX at h;by_cases h0:k=0
 ·omega
 by_cases h1:k=1
 ·omega
 by_cases h2:k=2
 ·omega
 by_cases h3:k=3
 ·omega
 by_cases h4:k=4
 ·omega
 by_cases h5:k=5
 ·omega
 by_cases h6:k=6
 ·omega
 by_cases h7:k=7
 ·omega
 by_cases h8:k=8
 ·omega
 simp[h0,h1,h2,h3,h4,h5,h6,h7,h8]at h
theorem zuk (t:Gr.Str):sclX 0 t=t.isEmpty:=rfl
theorem zul (t:Gr.Str):sclX 1 t=(decide (t=[116,114,117,101]) || decide (t=[102,97,108,115,101])):=rfl
theorem zum (t:Gr.Str):sclX 2 t=intB t:=rfl
theorem zun (t:Gr.Str):sclX 3 t=(readP t).isSome:=rfl
theorem zuo (t:Gr.Str):sclX 4 t=fltP t:=rfl
theorem zup (t:Gr.Str):sclX 5 t=utfB t:=rfl
theorem zuq (t:Gr.Str):sclX 6 t=true:=rfl
theorem zur (t:Gr.Str):sclX 7 t=insB t:=rfl
theorem zus (t:Gr.Str):sclX 8 t=locB t:=rfl
theorem zut (k:Int) (t:Gr.Str) (h:k<0\/8<k):sclX k t=false:=by
 cases hs:sclX k t with
 |false=>rfl
 |true=>have:=zb9 k t hs;omega
theorem znm (kind:Int) (text:Gr.Str) (h:kind<0\/8<kind):ScalOk UT kind text false:=by
 intro w hw;have h0:(kind==0)=false:=by rw[beq_eq_false_iff_ne];omega
 have h1:(kind==1)=false:=by rw[beq_eq_false_iff_ne];omega
 have h2:(kind==2)=false:=by rw[beq_eq_false_iff_ne];omega
 have h3:(kind==3)=false:=by rw[beq_eq_false_iff_ne];omega
 have h4:(kind==4)=false:=by rw[beq_eq_false_iff_ne];omega
 have h5:(kind==5)=false:=by rw[beq_eq_false_iff_ne];omega
 have h6:(kind==6)=false:=by rw[beq_eq_false_iff_ne];omega
 have h7:(kind==7)=false:=by rw[beq_eq_false_iff_ne];omega
 have h8:(kind==8)=false:=by rw[beq_eq_false_iff_ne];omega
 clear hw h;go_enter func42,ntmps42;go_wp2;go_ret;exact⟨rfl,Below.refl _ _⟩
theorem zre (kind:Int) (text:Gr.Str) (hl:text.length<=268435455):ScalOk UT kind text (sclX kind text):=by
 have hl2:text.length<=1073741823:=by omega
 by_cases h:kind<0\/8<kind
 ·rw[zut _ _ h];exact znm _ _ h
 ·have hc:kind=0\/kind=1\/kind=2\/kind=3\/kind=4\/kind=5\/kind=6\/kind=7\/kind=8:=by omega
  rcases hc with rfl|rfl|rfl|rfl|rfl|rfl|rfl|rfl|rfl
  ·rw[zuk];exact zi6 text
  ·rw[zul];exact zra text
  ·rw[zum];exact zes text hl2
  ·rw[zun];exact ztn text hl2
  ·rw[zuo];exact zs8 text hl2
  ·rw[zup];exact zfn text hl2
  ·rw[zuq];exact znd text
  ·rw[zur];exact ztj text hl2
  ·rw[zus];exact zti text hl2
def RScal (kind:Int) (text:Gr.Str) (r:Bool):Prop:=∀w,Calls prog 17 #[.int .i64 kind,.string ⟨text.toArray⟩] w fun e w'=>e=.returned (.bool r)/\Below w.heap.size w w'
theorem zwm (text:Gr.Str):RScal 0 text text.isEmpty:=by
 intro w;have ht:=zg2 text;go_enter func17,ntmps17;go_wp2;go_ret;exact⟨rfl,Below.refl _ _⟩
theorem zwn (text:Gr.Str):RScal 1 text (decide (text=[116,114,117,101]) || decide (text=[102,97,108,115,101])):=by
 intro w;by_cases h1:text=[116,114,117,101]
 ·subst h1;go_enter func17,ntmps17;go_wp2;go_ret;exact⟨rfl,Below.refl _ _⟩
 ·have hb1:(text==[116,114,117,101])=false:=by rw[beq_eq_false_iff_ne];exact h1
  by_cases h2:text=[102,97,108,115,101]
  ·subst h2;go_enter func17,ntmps17;go_wp2;go_ret;exact⟨rfl,Below.refl _ _⟩
  ·have hb2:(text==[102,97,108,115,101])=false:=by rw[beq_eq_false_iff_ne];exact h2
   have HF:Hid ((decide (text=[116,114,117,101]) || decide (text=[102,97,108,115,101]))=false):=hid (by simp[h1,h2]);rw[HF.out];clear h1 h2;go_enter func17,ntmps17;go_wp2;go_ret;exact⟨rfl,Below.refl _ _⟩
theorem zwo (text:Gr.Str) (hl:text.length<=268435455):RScal 2 text (intB text):=by
 intro w;have HC:=hid (zgb text (by omega) w);obtain⟨r,hr⟩:=ex (intB text)
 rw[hr]at HC ⊢;clear hr;go_enter func17,ntmps17;go_wp2_with fail;refine HC.out.mono ?_;rintro e w2 ⟨rfl,hb⟩;have HB:=hid (hb▸Below.refl _ _:Below w.heap.size w w2);clear hb;go_wp2;go_ret;exact⟨rfl,HB.out⟩
theorem zwp (text:Gr.Str) (hl:text.length<=268435455):RScal 3 text (readP text).isSome:=by
 intro w;have HC:=hid (zq9 text hl w);rw[zu6];obtain⟨r,hr⟩:=ex ((readR text).isSome)
 rw[hr]at HC ⊢;clear hr;unfold zb7 at HC;go_enter func17,ntmps17;go_wp2_with fail;refine HC.out.mono ?_;rintro e w2 ⟨n,A,l,c,x,rfl,hb⟩;have HB:=hid hb;clear hb;go_wp2;go_ret;exact⟨rfl,HB.out.alloc HB.out.size _⟩
theorem zwq (text:Gr.Str) (hl:text.length<=268435455):RScal 4 text (fltP text):=by
 intro w;have HC:=hid (zsr text (by omega) w);rw[zxc];obtain⟨r,hr⟩:=ex (fltR text)
 rw[hr]at HC ⊢;clear hr;unfold OfF at HC;go_enter func17,ntmps17;go_wp2_with fail;refine HC.out.mono ?_;rintro e w2 ⟨⟨a,b,c,d,rfl⟩,hb⟩;have HB:=hid hb;clear hb;go_wp2;go_ret;exact⟨rfl,HB.out.alloc HB.out.size _⟩
theorem zwr (text:Gr.Str) (hl:text.length<=268435455):RScal 5 text (utfB text):=by
 intro w;obtain⟨r,hr⟩:=ex (utfB text)
 have HC:=hid (Utf.zyc text (by omega) w r (by rw[<-hr];unfold utfB;cases Utf.bad text<;>rfl));rw[hr];clear hr;go_enter func17,ntmps17;go_wp2_with fail;refine HC.out.mono ?_;rintro e w2 ⟨rfl,hb⟩;have HB:=hid hb;clear hb;go_wp2;go_ret;exact⟨rfl,HB.out⟩
theorem zws (text:Gr.Str):RScal 6 text true:=by
 intro w;go_enter func17,ntmps17;go_wp2;go_ret;exact⟨rfl,Below.refl _ _⟩
theorem zwt (text:Gr.Str) (hl:text.length<=268435455):RScal 7 text (insB text):=by
 intro w;have HC:=hid (ziz text (by omega) w);obtain⟨r,hr⟩:=ex (insB text)
 rw[hr]at HC ⊢;clear hr;go_enter func17,ntmps17;go_wp2_with fail;refine HC.out.mono ?_;rintro e w2 ⟨rfl,hb⟩;have HB:=hid hb;clear hb;go_wp2;go_ret;exact⟨rfl,HB.out⟩
theorem zwu (text:Gr.Str) (hl:text.length<=268435455):RScal 8 text (locB text):=by
 intro w;have HC:=hid (zm8 text (by omega) w);obtain⟨r,hr⟩:=ex (locB text)
 rw[hr]at HC ⊢;clear hr;go_enter func17,ntmps17;go_wp2_with fail;refine HC.out.mono ?_;rintro e w2 ⟨rfl,hb⟩;have HB:=hid hb;clear hb;go_wp2;go_ret;exact⟨rfl,HB.out⟩
theorem zkf (kind:Int) (text:Gr.Str) (h:kind<0\/8<kind):RScal kind text false:=by
 intro w;have h0:(kind==0)=false:=by rw[beq_eq_false_iff_ne];omega
 have h1:(kind==1)=false:=by rw[beq_eq_false_iff_ne];omega
 have h2:(kind==2)=false:=by rw[beq_eq_false_iff_ne];omega
 have h3:(kind==3)=false:=by rw[beq_eq_false_iff_ne];omega
 have h4:(kind==4)=false:=by rw[beq_eq_false_iff_ne];omega
 have h5:(kind==5)=false:=by rw[beq_eq_false_iff_ne];omega
 have h6:(kind==6)=false:=by rw[beq_eq_false_iff_ne];omega
 have h7:(kind==7)=false:=by rw[beq_eq_false_iff_ne];omega
 have h8:(kind==8)=false:=by rw[beq_eq_false_iff_ne];omega
 clear h;go_enter func17,ntmps17;go_wp2;go_ret;exact⟨rfl,Below.refl _ _⟩
theorem zwv (kind:Int) (text:Gr.Str) (hl:text.length<=268435455):RScal kind text (sclX kind text):=by
 by_cases h:kind<0\/8<kind
 ·rw[zut _ _ h];exact zkf _ _ h
 ·have hc:kind=0\/kind=1\/kind=2\/kind=3\/kind=4\/kind=5\/kind=6\/kind=7\/kind=8:=by omega
  rcases hc with rfl|rfl|rfl|rfl|rfl|rfl|rfl|rfl|rfl
  ·rw[zuk];exact zwm text
  ·rw[zul];exact zwn text
  ·rw[zum];exact zwo text hl
  ·rw[zun];exact zwp text hl
  ·rw[zuo];exact zwq text hl
  ·rw[zup];exact zwr text hl
  ·rw[zuq];exact zws text
  ·rw[zur];exact zwt text hl
  ·rw[zus];exact zwu text hl
theorem zrf (s:Gr.Str) (hs:s.length<=1073741823) (w:World):Calls prog 56 #[.string ⟨s.toArray⟩] w fun e w'=>e=.returned (.bool (nameB s))/\w'=w:=by
 have HR:Hid (∀r:Bool,r=nameB s↔r=(s.all nameC && decide (1<=s.length) && decide (s.length<=64))):=hid (fun r=>by
  have:nameB s=(s.all nameC && decide (1<=s.length) && decide (s.length<=64)):=rfl;rw[this])
 go_enter func56,ntmps56;go_upto_region 2 with fail;go_loop [3] (fun x=>∃i:Nat,i<=s.length/\x=.int .i64 i/\Hid ((s.take i).all nameC=true)) (fun i=>s.length-(intOf i).toNat)
 case atStart=>exact⟨0,by omega,rfl,hid (by simp)⟩
 case round=>
  obtain⟨i,hi,rfl,HC⟩:=hrel;by_cases hil:i<s.length
  ·have hilI:(i:Int)<(s.length:Int):=by omega
   obtain⟨c,hc⟩:=ex (s[i])
   have q0:=byte_at s i hil c hc;have hbd:c.toNat<256:=c.toNat_lt;have hn:=zic c;have HT:Hid ((s.take (i+1)).all nameC=nameC c):=hid (by rw[List.take_succ_eq_append_getElem hil,List.all_append,HC.out,hc];simp);by_cases hy:nameC c=true
   ·have HT2:Hid ((s.take (i+1)).all nameC=true):=hid (by rw[HT.out,hy]);have hn:=hn.1 hy;clear hy HT hc;rcases hn with hn|hn|hn|hn|hn|hn|hn
    all_goals
     go_wp2;go_round
     case rel=>exact⟨i+1,by omega,by go_num,HT2⟩
     case measure=>simp[intOf];omega
   ·have HF:Hid (nameB s=false):=hid (by
     have h1:(s.take (i+1)).all nameC=false:=by rw[HT.out];simpa using hy
     have h2:s.all nameC=false:=by
      cases e:s.all nameC with
      |false=>rfl
      |true=>
       rw[List.all_eq_true]at e;rw[List.all_eq_false]at h1;obtain⟨x,hx,hx2⟩:=h1;exact absurd (e x (List.mem_of_mem_take hx)) hx2
     exact((HR.out false).2 (by rw[h2];rfl)).symm)
    have hn:=fun h=>hy (hn.2 h)
    have n1:¬(97<=c.toNat/\c.toNat<=122):=fun h=>hn (.inl h)
    have n2:¬(65<=c.toNat/\c.toNat<=90):=fun h=>hn (.inr (.inl h))
    have n3:¬(48<=c.toNat/\c.toNat<=57):=fun h=>hn (.inr (.inr (.inl h)))
    have n4:¬(c.toNat=95):=fun h=>hn (.inr (.inr (.inr (.inl h))))
    have n5:¬(c.toNat=45):=fun h=>hn (.inr (.inr (.inr (.inr (.inl h)))))
    have n6:¬(c.toNat=46):=fun h=>hn (.inr (.inr (.inr (.inr (.inr (.inl h))))))
    have n7:¬(c.toNat=58):=fun h=>hn (.inr (.inr (.inr (.inr (.inr (.inr h))))))
    clear hn hy hc HT;have hcs:c.toNat<45\/c.toNat=47\/(59<=c.toNat/\c.toNat<=64)\/(91<=c.toNat/\c.toNat<=94)\/c.toNat=96\/122<c.toNat:=by omega
    have e4:((c.toNat:Int)==95)=false:=by simp;omega
    have e5:((c.toNat:Int)==45)=false:=by simp;omega
    have e6:((c.toNat:Int)==46)=false:=by simp;omega
    have e7:((c.toNat:Int)==58)=false:=by simp;omega
    clear n1 n2 n3 n4 n5 n6 n7;rcases hcs with hn|hn|hn|hn|hn|hn
    all_goals
     go_wp2_with fail
     all_goals first
      | (go_ret;exact⟨by rw[HF.out]<;>rfl,rfl⟩)
      | (exfalso;rename_i h;(try simp only[Bool.not_eq_false',decide_eq_true_eq]at h);first|omega| (simp at h;omega))
  ·have hilI:¬((i:Int)<(s.length:Int)):=by omega
   have HA:Hid (s.all nameC=true):=hid (by have:=HC.out;rwa[List.take_of_length_le (by omega)]at this);by_cases h1:1<=s.length
   ·have h1I:(1:Int)<=(s.length:Int):=by omega
    by_cases h2:s.length<=64
    ·have h2I:(s.length:Int)<=64:=by omega
     have HF:Hid (nameB s=true):=hid ((HR.out true).2 (by rw[HA.out];simp[h1,h2])).symm;go_wp2;go_ret;exact⟨by rw[HF.out]<;>rfl,rfl⟩
    ·have h2I:¬((s.length:Int)<=64):=by omega
     have HF:Hid (nameB s=false):=hid ((HR.out false).2 (by simp[h2])).symm;go_wp2;go_ret;exact⟨by rw[HF.out]<;>rfl,rfl⟩
   ·have h1I:¬((1:Int)<=(s.length:Int)):=by omega
    have HF:Hid (nameB s=false):=hid ((HR.out false).2 (by simp[h1])).symm;go_wp2;go_ret;exact⟨by rw[HF.out]<;>rfl,rfl⟩
theorem zrg (kind:Int) (text:Gr.Str) (ord:Bool) (keys items:List Int) (ka ia:Option Addr) (kc ic n B:Nat) (_hn:n<=1073741823) (htl:text.length<=268435455) (hkl:keys.length<=1073741823) (hil:items.length<=1073741823)
 (w:World) (hB:B<=w.heap.size) (hk:RowAt intI w B ka keys) (hi:RowAt intI w B ia items):
 Calls prog 66 #[.agg #[.int .i64 kind,.string ⟨text.toArray⟩,.bool ord,.slice ka keys.length kc,.slice ia items.length ic],.int .i64 n] w fun e w'=>e=.returned (.bool (rform sclX n ⟨kind,text,ord,keys,items⟩))/\Below w.heap.size w w':=by
 obtain⟨w1,hw1⟩:=ex (w.alloc (.cells #[.int .i64 kind,.string ⟨text.toArray⟩,.bool ord,.slice ka keys.length kc,.slice ia items.length ic] 35))
 have l1:Below w.heap.size w w1:=by rw[<-hw1];exact(Below.refl _ _).alloc (Nat.le_refl _) _
 have b1:Blk w1 w.heap.size 35 #[.int .i64 kind,.string ⟨text.toArray⟩,.bool ord,.slice ka keys.length kc,.slice ia items.length ic]:=by rw[<-hw1];exact Blk.new _ _ _
 obtain⟨s0,s1,s2,s3,s4⟩:=cells5 b1;have L1:=hid l1;have HK:Hid (RowAt intI w1 B ka keys):=hid (hk.below (l1.mono hB));have HI:Hid (RowAt intI w1 B ia items):=hid (hi.below (l1.mono hB));have HR0:Hid ((items.all (inR n)=false\/keys.all (inR n)=false)->rform sclX n ⟨kind,text,ord,keys,items⟩=false):=hid (fun h=>by
  unfold rform;rw[if_pos];rcases h with h|h
  ·show(items.all (inR n) && keys.all (inR n))=false;rw[h];rfl
  ·show(items.all (inR n) && keys.all (inR n))=false;rw[h,Bool.and_false])
 have ht:=zg2 text;clear l1 b1 hk hi hB;go_enter func66,ntmps66;go_upto_region 1 with fail;(try rw[hw1]);clear hw1;go_upto_region 2 with fail;go_loop [5] (fun x=>∃i:Nat,i<=items.length/\x=.int .i64 i/\Hid ((items.take i).all (inR n)=true)) (fun i=>items.length-(intOf i).toNat)
 case atStart=>exact⟨0,by omega,rfl,hid (by simp)⟩
 case round=>
  obtain⟨i,hi2,rfl,HC⟩:=hrel;by_cases hlt:i<items.length
  ·have hltI:(i:Int)<(items.length:Int):=by omega
   obtain⟨x,hx⟩:=ex (items[i])
   obtain⟨adx,rfl,hadx,y0⟩:=zjl HI.out hlt;rw[hx]at y0;have HT:Hid ((items.take (i+1)).all (inR n)=(decide (0<=x) && decide (x<(n:Int)))):=hid (by rw[zb4 _ _ _ hlt,HC.out,hx];rfl);have HX:Hid (inR n x=false->items.all (inR n)=false):=hid (fun h=>by
    rw[List.all_eq_false];exact⟨x,by rw[<-hx];exact List.getElem_mem hlt,by rw[h];decide⟩)
   clear hx hadx;by_cases h1:0<=x
   ·have h1n:¬x<0:=by omega
    by_cases h2:x<(n:Int)
    ·have h2n:¬(n:Int)<=x:=by omega
     have HT2:Hid ((items.take (i+1)).all (inR n)=true):=hid (by rw[HT.out];simp[h1,h2]);clear HC HT HX;go_wp2;go_round
     case rel=>exact⟨i+1,by omega,by go_num,HT2⟩
     case measure=>simp[intOf];omega
    ·have h2n:(n:Int)<=x:=by omega
     have HF:Hid (items.all (inR n)=false):=hid (HX.out (by simp[inR,h2]));clear HC HT HX;go_wp2;go_ret;exact⟨by rw[HR0.out (by exact .inl HF.out)]<;>rfl,L1.out⟩
   ·have h1n:x<0:=by omega
    have HF:Hid (items.all (inR n)=false):=hid (HX.out (by simp[inR];omega));clear HC HT HX;go_wp2;go_ret;exact⟨by rw[HR0.out (by exact .inl HF.out)]<;>rfl,L1.out⟩
  ·have hltI:¬((i:Int)<(items.length:Int)):=by omega
   have HAI:Hid (items.all (inR n)=true):=hid (by have:=HC.out;rwa[List.take_of_length_le (by omega)]at this);clear HC;go_upto_region 7 with fail;go_loop [6] (fun x=>∃i:Nat,i<=keys.length/\x=.int .i64 i/\Hid ((keys.take i).all (inR n)=true)) (fun i=>keys.length-(intOf i).toNat)
   case atStart=>exact⟨0,by omega,rfl,hid (by simp)⟩
   case round=>
    obtain⟨i,hi2,rfl,HC⟩:=hrel;by_cases hlt:i<keys.length
    ·have hltI:(i:Int)<(keys.length:Int):=by omega
     obtain⟨x,hx⟩:=ex (keys[i])
     obtain⟨adx,rfl,hadx,y0⟩:=zjl HK.out hlt;rw[hx]at y0;have HT:Hid ((keys.take (i+1)).all (inR n)=(decide (0<=x) && decide (x<(n:Int)))):=hid (by rw[zb4 _ _ _ hlt,HC.out,hx];rfl);have HX:Hid (inR n x=false->keys.all (inR n)=false):=hid (fun h=>by
      rw[List.all_eq_false];exact⟨x,by rw[<-hx];exact List.getElem_mem hlt,by rw[h];decide⟩)
     clear hx hadx;by_cases h1:0<=x
     ·have h1n:¬x<0:=by omega
      by_cases h2:x<(n:Int)
      ·have h2n:¬(n:Int)<=x:=by omega
       have HT2:Hid ((keys.take (i+1)).all (inR n)=true):=hid (by rw[HT.out];simp[h1,h2]);clear HC HT HX;go_wp2;go_round
       case rel=>exact⟨i+1,by omega,by go_num,HT2⟩
       case measure=>simp[intOf];omega
      ·have h2n:(n:Int)<=x:=by omega
       have HF:Hid (keys.all (inR n)=false):=hid (HX.out (by simp[inR,h2]));clear HC HT HX;go_wp2;go_ret;exact⟨by rw[HR0.out (by exact .inr HF.out)]<;>rfl,L1.out⟩
     ·have h1n:x<0:=by omega
      have HF:Hid (keys.all (inR n)=false):=hid (HX.out (by simp[inR];omega));clear HC HT HX;go_wp2;go_ret;exact⟨by rw[HR0.out (by exact .inr HF.out)]<;>rfl,L1.out⟩
    ·have hltI:¬((i:Int)<(keys.length:Int)):=by omega
     have HAK:Hid (keys.all (inR n)=true):=hid (by have:=HC.out;rwa[List.take_of_length_le (by omega)]at this);clear HC;have HR1:Hid (rform sclX n ⟨kind,text,ord,keys,items⟩=if kind≠10/\(ord=true\/0<keys.length)then false else if kind=9 then text.isEmpty else if kind=10 then text.isEmpty && decide (keys.length=items.length)
      else if kind=11 then decide (items.length=1) && nameB text else decide (items.length=0) && sclX kind text):=hid (by
      unfold rform;rw[if_neg];show¬(items.all (inR n) && keys.all (inR n))=false;rw[HAI.out,HAK.out];decide)
     clear HAI HAK HR0 HK HI;by_cases h10:kind=10
     ·subst h10;cases he:text.isEmpty with
      |false=>
       rw[he]at ht;have HF:Hid (rform sclX n ⟨10,text,ord,keys,items⟩=false):=hid (by rw[HR1.out];simp[he]);go_wp2;go_ret;exact⟨by rw[HF.out]<;>rfl,L1.out⟩
      |true=>
       rw[he]at ht;by_cases hki:keys.length=items.length
       ·have h1b:((keys.length:Int)==(items.length:Int))=true:=by simp[hki]
        have h1:(keys.length:Int)=(items.length:Int):=by omega
        have HF:Hid (rform sclX n ⟨10,text,ord,keys,items⟩=true):=hid (by rw[HR1.out];simp[he,hki]);clear hki;have H1:=hid h1;clear h1;go_wp2;go_ret;exact⟨by rw[HF.out]<;>rfl,L1.out⟩
       ·have h1:¬((keys.length:Int)=(items.length:Int)):=by omega
        have h1b:((keys.length:Int)==(items.length:Int))=false:=by simp;omega
        have HF:Hid (rform sclX n ⟨10,text,ord,keys,items⟩=false):=hid (by rw[HR1.out];simp[he,hki]);go_wp2;go_ret;exact⟨by rw[HF.out]<;>rfl,L1.out⟩
     ·have h10b:(kind==10)=false:=by simpa using h10
      have h10n:(kind != 10)=true:=by simpa using h10
      cases ord with
      |true=>
       have HF:Hid (rform sclX n ⟨kind,text,true,keys,items⟩=false):=hid (by rw[HR1.out];simp[h10]);go_wp2;go_ret;exact⟨by rw[HF.out]<;>rfl,L1.out⟩
      |false=>
       by_cases hk0:keys.length=0
       ·have hk1:¬(0<(keys.length:Int)):=by omega
        have hkn:¬0<keys.length:=by omega
        have hkd:decide (0<keys.length)=false:=decide_eq_false hkn;have HR2:Hid (rform sclX n ⟨kind,text,false,keys,items⟩=if kind=9 then text.isEmpty else if kind=11 then decide (items.length=1) && nameB text else decide (items.length=0) && sclX kind text):=hid (by
         rw[HR1.out];simp[h10,hk0])
        clear HR1;by_cases h9:kind=9
        ·subst h9;have HF:Hid (rform sclX n ⟨9,text,false,keys,items⟩=text.isEmpty):=hid (by rw[HR2.out];rfl);obtain⟨b,hb⟩:=ex text.isEmpty
         rw[hb]at ht HF;go_wp2;go_ret;exact⟨by rw[HF.out]<;>rfl,L1.out⟩
        ·have h9b:(kind==9)=false:=by simpa using h9
         by_cases h11:kind=11
         ·subst h11;by_cases h1:items.length=1
          ·have h1b:((items.length:Int)==1)=true:=by simp[h1]
           have h1i:(items.length:Int)=1:=by omega
           have HF:Hid (rform sclX n ⟨11,text,false,keys,items⟩=nameB text):=hid (by rw[HR2.out];simp[h1]);clear h1;go_wp2_with fail;refine(zrf text (by omega) _).mono ?_;rintro e w2 ⟨rfl,hw2⟩;subst hw2;go_wp2;go_ret;exact⟨by rw[HF.out]<;>rfl,L1.out⟩
          ·have h1b:((items.length:Int)==1)=false:=by simp;omega
           have h1i:¬((items.length:Int)=1):=by omega
           have HF:Hid (rform sclX n ⟨11,text,false,keys,items⟩=false):=hid (by rw[HR2.out];simp[h1]);go_wp2;go_ret;exact⟨by rw[HF.out]<;>rfl,L1.out⟩
         ·have h11b:(kind==11)=false:=by simpa using h11
          by_cases h1:items.length=0
          ·have h1b:((items.length:Int)==0)=true:=by simp[h1]
           have h1i:(items.length:Int)=0:=by omega
           have HF:Hid (rform sclX n ⟨kind,text,false,keys,items⟩=sclX kind text):=hid (by rw[HR2.out];simp[h9,h11,h1]);clear h1;have HC:=hid (zwv kind text htl w1);obtain⟨r,hr⟩:=ex (sclX kind text)
           rw[hr]at HC HF;clear hr;go_wp2_with fail;refine HC.out.mono ?_;rintro e w2 ⟨rfl,hb2⟩;have HB2:Hid (Below w.heap.size w w2):=hid (L1.out.trans (hb2.mono L1.out.size));clear hb2;go_wp2;go_ret;exact⟨by rw[HF.out]<;>rfl,HB2.out⟩
          ·have h1b:((items.length:Int)==0)=false:=by rw[beq_eq_false_iff_ne];omega
           have h1i:¬((items.length:Int)=0):=by omega
           have HF:Hid (rform sclX n ⟨kind,text,false,keys,items⟩=false):=hid (by rw[HR2.out];simp[h9,h11,h1]);go_wp2;go_ret;exact⟨by rw[HF.out]<;>rfl,L1.out⟩
       ·have hk1:0<(keys.length:Int):=by omega
        have hkn:0<keys.length:=by omega
        have hkd:decide (0<keys.length)=true:=decide_eq_true hkn;have HF:Hid (rform sclX n ⟨kind,text,false,keys,items⟩=false):=hid (by rw[HR1.out,if_pos ⟨h10,.inr (by omega)⟩]);go_wp2;go_ret;exact⟨by rw[HF.out]<;>rfl,L1.out⟩
end Go.Proofs.YtoigpackhninoaaGreatDoor
