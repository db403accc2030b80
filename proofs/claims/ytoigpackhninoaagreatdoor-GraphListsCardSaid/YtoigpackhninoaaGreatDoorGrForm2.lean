import Derived.Test.YtoigpackhninoaaGreatDoorGrForm
import Derived.Test.YtoigpackhninoaaGreatDoorZ05
namespace Go.Proofs.YtoigpackhninoaaGreatDoor
open Gr
open _root_.Go.Proofs.Tryz
open _root_.Go.Lib (hid)
set_option maxRecDepth 100000
set_option maxHeartbeats 16000000
open Go.RowKit
def ScalOk (T:World->Prop) (kind:Int) (text:Gr.Str) (r:Bool):Prop:=∀w,T w->Calls prog 42 #[.int .i64 kind,.string ⟨text.toArray⟩] w fun e w'=>e=.returned (.bool r)/\Below w.heap.size w w'
theorem zgv (t:Gr.Str):((⟨t.toArray⟩:ByteArray)==⟨#[]⟩)=t.isEmpty:=by
 show(t.toArray==#[])=_;cases t with
 |nil=>rfl
 |cons a l=>simp
theorem zsm (T:World->Prop) (hT:Stays T) (sclr:Int->Gr.Str->Bool) (kind:Int) (text:Gr.Str) (ord:Bool) (keys items:List Nat) (ka ia:Option Addr) (kc ic:Nat) (htl:text.length<=1073741823)
 (hkl:keys.length<=1073741823) (hil:items.length<=1073741823)
 (hsc:kind≠9->kind≠10->kind≠11->ord=false->keys=[]->items=[]->ScalOk T kind text (sclr kind text)) (w:World) (hTw:T w):
 Calls prog 35 #[.agg #[.int .i64 kind,.string ⟨text.toArray⟩,.bool ord,.slice ka keys.length kc,.slice ia items.length ic]] w fun e w'=>e=.returned (.bool (formB sclr ⟨kind,text,ord,keys,items⟩))/\Below w.heap.size w w':=by
 have u:=hid hsc;clear hsc;obtain⟨l,g⟩:=ex (w.alloc (.cells #[.int .i64 kind,.string ⟨text.toArray⟩,.bool ord,.slice ka keys.length kc,.slice ia items.length ic] 35))
 have p:Below w.heap.size w l:=by rw[<-g];exact(Below.refl _ _).alloc (Nat.le_refl _) _
 have s:Blk l w.heap.size 35 #[.int .i64 kind,.string ⟨text.toArray⟩,.bool ord,.slice ka keys.length kc,.slice ia items.length ic]:=by rw[<-g];exact Blk.new _ _ _
 obtain⟨s0,s1,s2,s3,s4⟩:=cells5 s;have c:=hid p;have m:Hid (T l):=hid (hT _ _ hTw p);have k:=zgv text;clear p s hTw;go_enter func35,ntmps35;go_upto_region 1 with fail;(try rw[g]);clear g;by_cases h9:kind=9
 ·subst h9;cases he:text.isEmpty with
  |false=>
   rw[he]at k;have a:Hid (formB sclr ⟨9,text,ord,keys,items⟩=false):=hid (by simp[formB,he]);go_wp2;go_ret;exact⟨by rw[a.out]<;>rfl,c.out⟩
  |true=>
   rw[he]at k;cases ord with
   |true=>
    have a:Hid (formB sclr ⟨9,text,true,keys,items⟩=false):=hid (by simp[formB]);go_wp2;go_ret;exact⟨by rw[a.out]<;>rfl,c.out⟩
   |false=>
    by_cases hk:keys=[]
    ·subst hk;have a:Hid (formB sclr ⟨9,text,false,[],items⟩=true):=hid (by simp[formB,he]);go_wp2;go_ret;exact⟨by rw[a.out]<;>rfl,c.out⟩
    ·have f:¬((keys.length:Int)=0):=by have:=List.length_pos_iff.2 hk;omega
     have d:((keys.length:Int)==0)=false:=by simpa using hk
     have a:Hid (formB sclr ⟨9,text,false,keys,items⟩=false):=hid (by simp[formB,hk]);go_wp2;go_ret;exact⟨by rw[a.out]<;>rfl,c.out⟩
 ·have h9b:(kind==9)=false:=by simpa using h9
  by_cases h10:kind=10
  ·subst h10;cases he:text.isEmpty with
   |false=>
    rw[he]at k;have a:Hid (formB sclr ⟨10,text,ord,keys,items⟩=false):=hid (by simp[formB,he]);go_wp2;go_ret;exact⟨by rw[a.out]<;>rfl,c.out⟩
   |true=>
    rw[he]at k;by_cases hki:keys.length=items.length
    ·have d:((keys.length:Int)==(items.length:Int))=true:=by simp[hki]
     have n:=hid hki;have f:(keys.length:Int)=(items.length:Int):=by omega
     have H1:=hid f;clear hki f;have a:Hid (formB sclr ⟨10,text,ord,keys,items⟩=true):=hid (by simp[formB,he,n.out]);go_wp2;go_ret;exact⟨by rw[a.out]<;>rfl,c.out⟩
    ·have f:¬((keys.length:Int)=(items.length:Int)):=by omega
     have d:((keys.length:Int)==(items.length:Int))=false:=by simp;omega
     have a:Hid (formB sclr ⟨10,text,ord,keys,items⟩=false):=hid (by simp[formB,hki]);go_wp2;go_ret;exact⟨by rw[a.out]<;>rfl,c.out⟩
  ·have h10b:(kind==10)=false:=by simpa using h10
   by_cases h11:kind=11
   ·subst h11;cases hn:nameB text with
    |false=>
     have a:Hid (formB sclr ⟨11,text,ord,keys,items⟩=false):=hid (by simp[formB,hn]);have i:=hid hn;go_wp2_with fail;refine(zdc text htl _).mono ?_;rintro e h ⟨rfl,b⟩;subst b;rw[i.out];go_wp2;go_ret;exact⟨by rw[a.out]<;>rfl,c.out⟩
    |true=>
     have i:=hid hn;cases ord with
     |true=>
      have a:Hid (formB sclr ⟨11,text,true,keys,items⟩=false):=hid (by simp[formB]);go_wp2_with fail;refine(zdc text htl _).mono ?_;rintro e h ⟨rfl,b⟩;subst b;rw[i.out];go_wp2;go_ret;exact⟨by rw[a.out]<;>rfl,c.out⟩
     |false=>
      by_cases hk:keys=[]
      ·subst hk;by_cases f:items.length=1
       ·have a:Hid (formB sclr ⟨11,text,false,[],items⟩=true):=hid (by simp[formB,hn,f]);have d:((items.length:Int)==1)=true:=by simp[f]
        clear f;go_wp2_with fail;refine(zdc text htl _).mono ?_;rintro e h ⟨rfl,b⟩;subst b;rw[i.out];go_wp2;go_ret;exact⟨by rw[a.out]<;>rfl,c.out⟩
       ·have a:Hid (formB sclr ⟨11,text,false,[],items⟩=false):=hid (by simp[formB,f]);have d:((items.length:Int)==1)=false:=by simp;omega
        have h1i:¬((items.length:Int)=1):=by omega
        go_wp2_with fail;refine(zdc text htl _).mono ?_;rintro e h ⟨rfl,b⟩;subst b;rw[i.out];go_wp2;go_ret;exact⟨by rw[a.out]<;>rfl,c.out⟩
      ·have f:¬((keys.length:Int)=0):=by have:=List.length_pos_iff.2 hk;omega
       have d:((keys.length:Int)==0)=false:=by simpa using hk
       have a:Hid (formB sclr ⟨11,text,false,keys,items⟩=false):=hid (by simp[formB,hk]);go_wp2_with fail;refine(zdc text htl _).mono ?_;rintro e h ⟨rfl,b⟩;subst b;rw[i.out];go_wp2;go_ret;exact⟨by rw[a.out]<;>rfl,c.out⟩
   ·have h11b:(kind==11)=false:=by simpa using h11
    cases ord with
    |true=>
     have a:Hid (formB sclr ⟨kind,text,true,keys,items⟩=false):=hid (by simp[formB,h9,h10,h11]);go_wp2;go_ret;exact⟨by rw[a.out]<;>rfl,c.out⟩
    |false=>
     by_cases hk:keys=[]
     ·subst hk;by_cases hi:items=[]
      ·subst hi;have a:Hid (formB sclr ⟨kind,text,false,[],[]⟩=sclr kind text):=hid (by simp[formB,h9,h10,h11]);have t:=hid (u.out h9 h10 h11 rfl rfl rfl l m.out);obtain⟨r,q⟩:=ex (sclr kind text)
       rw[q]at t a;clear q;go_wp2_with fail;refine t.out.mono ?_;rintro e h ⟨rfl,j⟩;have o:Hid (Below w.heap.size w h):=hid (c.out.trans (j.mono c.out.size));clear j;go_wp2;go_ret;exact⟨by rw[a.out]<;>rfl,o.out⟩
      ·have f:¬((items.length:Int)=0):=by have:=List.length_pos_iff.2 hi;omega
       have d:((items.length:Int)==0)=false:=by simpa using hi
       have a:Hid (formB sclr ⟨kind,text,false,[],items⟩=false):=hid (by simp[formB,h9,h10,h11,hi]);go_wp2;go_ret;exact⟨by rw[a.out]<;>rfl,c.out⟩
     ·have f:¬((keys.length:Int)=0):=by have:=List.length_pos_iff.2 hk;omega
      have d:((keys.length:Int)==0)=false:=by simpa using hk
      have a:Hid (formB sclr ⟨kind,text,false,keys,items⟩=false):=hid (by simp[formB,h9,h10,h11,hk]);go_wp2;go_ret;exact⟨by rw[a.out]<;>rfl,c.out⟩
end Go.Proofs.YtoigpackhninoaaGreatDoor
