import Derived.Test.YtoigpackhninoaaGreatDoorGrForm
import Derived.Test.YtoigpackhninoaaGreatDoorZ06
namespace Go.Proofs.YtoigpackhninoaaGreatDoor
open Gr
open _root_.Go.Proofs.Tryz
open _root_.Go.Lib (hid)
set_option maxRecDepth 100000
set_option maxHeartbeats 16000000
open Go.RowKit
def ScalOk (T:World->Prop) (kind:Int) (text:Gr.Str) (r:Bool):Prop:=∀w,T w->Calls prog 42 #[.int .i64 kind,.string ⟨text.toArray⟩] w fun e w'=>e=.returned (.bool r)/\Below w.heap.size w w'
theorem zhh (t:Gr.Str):((⟨t.toArray⟩:ByteArray)==⟨#[]⟩)=t.isEmpty:=by
 show(t.toArray==#[])=_;cases t with
 |nil=>rfl
 |cons a l=>simp
theorem zod (T:World->Prop) (hT:Stays T) (sclr:Int->Gr.Str->Bool) (kind:Int) (text:Gr.Str) (ord:Bool) (keys items:List Nat) (ka ia:Option Addr) (kc ic:Nat) (htl:text.length<=1073741823)
 (hkl:keys.length<=1073741823) (hil:items.length<=1073741823)
 (hsc:kind≠9->kind≠10->kind≠11->ord=false->keys=[]->items=[]->ScalOk T kind text (sclr kind text)) (w:World) (hTw:T w):
 Calls prog 35 #[.agg #[.int .i64 kind,.string ⟨text.toArray⟩,.bool ord,.slice ka keys.length kc,.slice ia items.length ic]] w fun e w'=>e=.returned (.bool (formB sclr ⟨kind,text,ord,keys,items⟩))/\Below w.heap.size w w':=by
 have HS:=hid hsc;clear hsc;obtain⟨w1,hw1⟩:=ex (w.alloc (.cells #[.int .i64 kind,.string ⟨text.toArray⟩,.bool ord,.slice ka keys.length kc,.slice ia items.length ic] 35))
 have l1:Below w.heap.size w w1:=by rw[<-hw1];exact(Below.refl _ _).alloc (Nat.le_refl _) _
 have b1:Blk w1 w.heap.size 35 #[.int .i64 kind,.string ⟨text.toArray⟩,.bool ord,.slice ka keys.length kc,.slice ia items.length ic]:=by rw[<-hw1];exact Blk.new _ _ _
 obtain⟨s0,s1,s2,s3,s4⟩:=cells5 b1;have L1:=hid l1;have HTW:Hid (T w1):=hid (hT _ _ hTw l1);have ht:=zhh text;clear l1 b1 hTw;go_enter func35,ntmps35;go_upto_region 1 with fail;(try rw[hw1]);clear hw1;by_cases h9:kind=9
 ·subst h9;cases he:text.isEmpty with
  |false=>
   rw[he]at ht;have HF:Hid (formB sclr ⟨9,text,ord,keys,items⟩=false):=hid (by simp[formB,he]);go_wp2;go_ret;exact⟨by rw[HF.out]<;>rfl,L1.out⟩
  |true=>
   rw[he]at ht;cases ord with
   |true=>
    have HF:Hid (formB sclr ⟨9,text,true,keys,items⟩=false):=hid (by simp[formB]);go_wp2;go_ret;exact⟨by rw[HF.out]<;>rfl,L1.out⟩
   |false=>
    by_cases hk:keys=[]
    ·subst hk;have HF:Hid (formB sclr ⟨9,text,false,[],items⟩=true):=hid (by simp[formB,he]);go_wp2;go_ret;exact⟨by rw[HF.out]<;>rfl,L1.out⟩
    ·have h1:¬((keys.length:Int)=0):=by have:=List.length_pos_iff.2 hk;omega
     have h1b:((keys.length:Int)==0)=false:=by simpa using hk
     have HF:Hid (formB sclr ⟨9,text,false,keys,items⟩=false):=hid (by simp[formB,hk]);go_wp2;go_ret;exact⟨by rw[HF.out]<;>rfl,L1.out⟩
 ·have h9b:(kind==9)=false:=by simpa using h9
  by_cases h10:kind=10
  ·subst h10;cases he:text.isEmpty with
   |false=>
    rw[he]at ht;have HF:Hid (formB sclr ⟨10,text,ord,keys,items⟩=false):=hid (by simp[formB,he]);go_wp2;go_ret;exact⟨by rw[HF.out]<;>rfl,L1.out⟩
   |true=>
    rw[he]at ht;by_cases hki:keys.length=items.length
    ·have h1b:((keys.length:Int)==(items.length:Int))=true:=by simp[hki]
     have HKI:=hid hki;have h1:(keys.length:Int)=(items.length:Int):=by omega
     have H1:=hid h1;clear hki h1;have HF:Hid (formB sclr ⟨10,text,ord,keys,items⟩=true):=hid (by simp[formB,he,HKI.out]);go_wp2;go_ret;exact⟨by rw[HF.out]<;>rfl,L1.out⟩
    ·have h1:¬((keys.length:Int)=(items.length:Int)):=by omega
     have h1b:((keys.length:Int)==(items.length:Int))=false:=by simp;omega
     have HF:Hid (formB sclr ⟨10,text,ord,keys,items⟩=false):=hid (by simp[formB,hki]);go_wp2;go_ret;exact⟨by rw[HF.out]<;>rfl,L1.out⟩
  ·have h10b:(kind==10)=false:=by simpa using h10
   by_cases h11:kind=11
   ·subst h11;cases hn:nameB text with
    |false=>
     have HF:Hid (formB sclr ⟨11,text,ord,keys,items⟩=false):=hid (by simp[formB,hn]);have HN:=hid hn;go_wp2_with fail;refine(zcu text htl _).mono ?_;rintro e w2 ⟨rfl,hw2⟩;subst hw2;rw[HN.out];go_wp2;go_ret;exact⟨by rw[HF.out]<;>rfl,L1.out⟩
    |true=>
     have HN:=hid hn;cases ord with
     |true=>
      have HF:Hid (formB sclr ⟨11,text,true,keys,items⟩=false):=hid (by simp[formB]);go_wp2_with fail;refine(zcu text htl _).mono ?_;rintro e w2 ⟨rfl,hw2⟩;subst hw2;rw[HN.out];go_wp2;go_ret;exact⟨by rw[HF.out]<;>rfl,L1.out⟩
     |false=>
      by_cases hk:keys=[]
      ·subst hk;by_cases h1:items.length=1
       ·have HF:Hid (formB sclr ⟨11,text,false,[],items⟩=true):=hid (by simp[formB,hn,h1]);have h1b:((items.length:Int)==1)=true:=by simp[h1]
        clear h1;go_wp2_with fail;refine(zcu text htl _).mono ?_;rintro e w2 ⟨rfl,hw2⟩;subst hw2;rw[HN.out];go_wp2;go_ret;exact⟨by rw[HF.out]<;>rfl,L1.out⟩
       ·have HF:Hid (formB sclr ⟨11,text,false,[],items⟩=false):=hid (by simp[formB,h1]);have h1b:((items.length:Int)==1)=false:=by simp;omega
        have h1i:¬((items.length:Int)=1):=by omega
        go_wp2_with fail;refine(zcu text htl _).mono ?_;rintro e w2 ⟨rfl,hw2⟩;subst hw2;rw[HN.out];go_wp2;go_ret;exact⟨by rw[HF.out]<;>rfl,L1.out⟩
      ·have h1:¬((keys.length:Int)=0):=by have:=List.length_pos_iff.2 hk;omega
       have h1b:((keys.length:Int)==0)=false:=by simpa using hk
       have HF:Hid (formB sclr ⟨11,text,false,keys,items⟩=false):=hid (by simp[formB,hk]);go_wp2_with fail;refine(zcu text htl _).mono ?_;rintro e w2 ⟨rfl,hw2⟩;subst hw2;rw[HN.out];go_wp2;go_ret;exact⟨by rw[HF.out]<;>rfl,L1.out⟩
   ·have h11b:(kind==11)=false:=by simpa using h11
    cases ord with
    |true=>
     have HF:Hid (formB sclr ⟨kind,text,true,keys,items⟩=false):=hid (by simp[formB,h9,h10,h11]);go_wp2;go_ret;exact⟨by rw[HF.out]<;>rfl,L1.out⟩
    |false=>
     by_cases hk:keys=[]
     ·subst hk;by_cases hi:items=[]
      ·subst hi;have HF:Hid (formB sclr ⟨kind,text,false,[],[]⟩=sclr kind text):=hid (by simp[formB,h9,h10,h11]);have HC:=hid (HS.out h9 h10 h11 rfl rfl rfl w1 HTW.out);obtain⟨r,hr⟩:=ex (sclr kind text)
       rw[hr]at HC HF;clear hr;go_wp2_with fail;refine HC.out.mono ?_;rintro e w2 ⟨rfl,hb2⟩;have HB2:Hid (Below w.heap.size w w2):=hid (L1.out.trans (hb2.mono L1.out.size));clear hb2;go_wp2;go_ret;exact⟨by rw[HF.out]<;>rfl,HB2.out⟩
      ·have h1:¬((items.length:Int)=0):=by have:=List.length_pos_iff.2 hi;omega
       have h1b:((items.length:Int)==0)=false:=by simpa using hi
       have HF:Hid (formB sclr ⟨kind,text,false,[],items⟩=false):=hid (by simp[formB,h9,h10,h11,hi]);go_wp2;go_ret;exact⟨by rw[HF.out]<;>rfl,L1.out⟩
     ·have h1:¬((keys.length:Int)=0):=by have:=List.length_pos_iff.2 hk;omega
      have h1b:((keys.length:Int)==0)=false:=by simpa using hk
      have HF:Hid (formB sclr ⟨kind,text,false,keys,items⟩=false):=hid (by simp[formB,h9,h10,h11,hk]);go_wp2;go_ret;exact⟨by rw[HF.out]<;>rfl,L1.out⟩
end Go.Proofs.YtoigpackhninoaaGreatDoor
