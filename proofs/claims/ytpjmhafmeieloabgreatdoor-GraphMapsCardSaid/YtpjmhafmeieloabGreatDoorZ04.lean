import Derived.Test.YtpjmhafmeieloabGreatDoorZ03
import Derived.Test.YtpjmhafmeieloabGreatDoorZ05
namespace Go.Proofs.YtpjmhafmeieloabGreatDoor
open Gr
open _root_.Go.Proofs.Tryz
open _root_.Go.Lib (hid)
set_option maxRecDepth 100000
set_option maxHeartbeats 16000000
open Go.RowKit
def nameC (c:UInt8):Bool:=(97<=c && c<=122) || (65<=c && c<=90) || (48<=c && c<=57) || c==95 || c==45 || c==46 || c==58
theorem zhp (c:UInt8):nameC c=true↔(97<=c.toNat/\c.toNat<=122)\/(65<=c.toNat/\c.toNat<=90)\/(48<=c.toNat/\c.toNat<=57)\/c.toNat=95\/c.toNat=45\/c.toNat=46\/c.toNat=58:=by
 have e:∀n:Nat,n<256->(c=UInt8.ofNat n↔c.toNat=n):=fun n hn=>⟨fun h=>by rw[h];simp;omega,fun h=>by rw[<-h];simp⟩
 unfold nameC;simp only[Bool.or_eq_true,Bool.and_eq_true,decide_eq_true_eq,beq_iff_eq,UInt8.le_iff_toNat_le];rw[show(c=95)=(c=UInt8.ofNat 95)from rfl,show(c=45)=(c=UInt8.ofNat 45)from rfl,show(c=46)=(c=UInt8.ofNat 46)from rfl,show(c=58)=(c=UInt8.ofNat 58)from rfl,e 95 (by omega),e 45 (by omega),e 46 (by omega),e 58 (by omega)];simp[or_assoc]
theorem byte_at (s:Gr.Str) (k:Nat) (hk:k<s.length) (c:UInt8) (h:s[k]=c):(((⟨s.toArray⟩:ByteArray)[k]'(by simpa[ByteArray.size]using hk)).toNat:Int)=(c.toNat:Int):=by
 have:(⟨s.toArray⟩:ByteArray)[k]'(by simpa[ByteArray.size]using hk)=s[k]:=rfl;rw[this,h]
theorem zdg (s:Gr.Str) (hs:s.length<=1073741823) (w:World):Calls prog 44 #[.string ⟨s.toArray⟩] w fun e w'=>e=.returned (.bool (nameB s))/\w'=w:=by
 have g:Hid (∀r:Bool,r=nameB s↔r=(s.all nameC && decide (1<=s.length) && decide (s.length<=64))):=hid (fun r=>by
  have:nameB s=(s.all nameC && decide (1<=s.length) && decide (s.length<=64)):=rfl;rw[this])
 go_enter func44,ntmps44;go_upto_region 2 with fail;go_loop [7] (fun x=>∃i:Nat,i<=s.length/\x=.int .i64 i/\Hid ((s.take i).all nameC=true)) (fun i=>s.length-(intOf i).toNat)
 case atStart=>exact⟨0,by omega,rfl,hid (by simp)⟩
 case round=>
  obtain⟨i,hi,rfl,q⟩:=hrel;by_cases hil:i<s.length
  .have d:(i:Int)<(s.length:Int):=by omega
   obtain⟨c,f⟩:=ex (s[i])
   have q0:=byte_at s i hil c f;have hbd:c.toNat<256:=c.toNat_lt;have hn:=zhp c;have k:Hid ((s.take (i+1)).all nameC=nameC c):=hid (by rw[List.take_succ_eq_append_getElem hil,List.all_append,q.out,f];simp);by_cases hy:nameC c=true
   .have n:Hid ((s.take (i+1)).all nameC=true):=hid (by rw[k.out,hy]);have hn:=hn.1 hy;clear hy k f;rcases hn with hn|hn|hn|hn|hn|hn|hn
    all_goals
     go_wp2;go_round
     case rel=>exact⟨i+1,by omega,by go_num,n⟩
     case measure=>simp[intOf];omega
   .have a:Hid (nameB s=false):=hid (by
     have b:(s.take (i+1)).all nameC=false:=by rw[k.out];simpa using hy
     have j:s.all nameC=false:=by
      cases e:s.all nameC with
      |false=>rfl
      |true=>
       rw[List.all_eq_true]at e;rw[List.all_eq_false]at b;obtain⟨x,t,p⟩:=b;exact absurd (e x (List.mem_of_mem_take t)) p
     exact((g.out false).2 (by rw[j];rfl)).symm)
    have hn:=fun h=>hy (hn.2 h)
    have v:¬(97<=c.toNat/\c.toNat<=122):=fun h=>hn (.inl h)
    have D:¬(65<=c.toNat/\c.toNat<=90):=fun h=>hn (.inr (.inl h))
    have C:¬(48<=c.toNat/\c.toNat<=57):=fun h=>hn (.inr (.inr (.inl h)))
    have y:¬(c.toNat=95):=fun h=>hn (.inr (.inr (.inr (.inl h))))
    have u:¬(c.toNat=45):=fun h=>hn (.inr (.inr (.inr (.inr (.inl h)))))
    have A:¬(c.toNat=46):=fun h=>hn (.inr (.inr (.inr (.inr (.inr (.inl h))))))
    have B:¬(c.toNat=58):=fun h=>hn (.inr (.inr (.inr (.inr (.inr (.inr h))))))
    clear hn hy f k;have m:c.toNat<45\/c.toNat=47\/(59<=c.toNat/\c.toNat<=64)\/(91<=c.toNat/\c.toNat<=94)\/c.toNat=96\/122<c.toNat:=by omega
    have e4:((c.toNat:Int)==95)=false:=by simp;omega
    have e5:((c.toNat:Int)==45)=false:=by simp;omega
    have e6:((c.toNat:Int)==46)=false:=by simp;omega
    have e7:((c.toNat:Int)==58)=false:=by simp;omega
    clear v D C y u A B;rcases m with hn|hn|hn|hn|hn|hn
    all_goals
     go_wp2_with fail
     all_goals first
      | (go_ret;exact⟨by rw[a.out]<;>rfl,rfl⟩)
      | (exfalso;rename_i h;simp only[Bool.not_eq_false',decide_eq_true_eq]at h;omega)
  .have d:¬((i:Int)<(s.length:Int)):=by omega
   have z:Hid (s.all nameC=true):=hid (by have:=q.out;rwa[List.take_of_length_le (by omega)]at this);by_cases b:1<=s.length
   .have o:(1:Int)<=(s.length:Int):=by omega
    by_cases j:s.length<=64
    .have l:(s.length:Int)<=64:=by omega
     have a:Hid (nameB s=true):=hid ((g.out true).2 (by rw[z.out];simp[b,j])).symm;go_wp2;go_ret;exact⟨by rw[a.out]<;>rfl,rfl⟩
    .have l:¬((s.length:Int)<=64):=by omega
     have a:Hid (nameB s=false):=hid ((g.out false).2 (by simp[j])).symm;go_wp2;go_ret;exact⟨by rw[a.out]<;>rfl,rfl⟩
   .have o:¬((1:Int)<=(s.length:Int)):=by omega
    have a:Hid (nameB s=false):=hid ((g.out false).2 (by simp[b])).symm;go_wp2;go_ret;exact⟨by rw[a.out]<;>rfl,rfl⟩
def ScalOk (T:World->Prop) (kind:Int) (text:Gr.Str) (r:Bool):Prop:=∀w,T w->Calls prog 22 #[.int .i64 kind,.string ⟨text.toArray⟩] w fun e w'=>e=.returned (.bool r)/\Below w.heap.size w w'
theorem zg3 (t:Gr.Str):((⟨t.toArray⟩:ByteArray)==⟨#[]⟩)=t.isEmpty:=by
 show(t.toArray==#[])=_;cases t with
 |nil=>rfl
 |cons a l=>simp
theorem zst (T:World->Prop) (hT:Stays T) (sclr:Int->Gr.Str->Bool) (kind:Int) (text:Gr.Str) (ord:Bool) (keys items:List Nat) (ka ia:Option Addr) (kc ic:Nat) (htl:text.length<=1073741823)
 (hkl:keys.length<=1073741823) (hil:items.length<=1073741823)
 (hsc:kind≠9->kind≠10->kind≠11->ord=false->keys=[]->items=[]->ScalOk T kind text (sclr kind text)) (w:World) (hTw:T w):
 Calls prog 26 #[.agg #[.int .i64 kind,.string ⟨text.toArray⟩,.bool ord,.slice ka keys.length kc,.slice ia items.length ic]] w fun e w'=>e=.returned (.bool (formB sclr ⟨kind,text,ord,keys,items⟩))/\Below w.heap.size w w':=by
 have u:=hid hsc;clear hsc;obtain⟨k,g⟩:=ex (w.alloc (.cells #[.int .i64 kind,.string ⟨text.toArray⟩,.bool ord,.slice ka keys.length kc,.slice ia items.length ic] 40))
 have m:Below w.heap.size w k:=by rw[<-g];exact(Below.refl _ _).alloc (Nat.le_refl _) _
 have s:Blk k w.heap.size 40 #[.int .i64 kind,.string ⟨text.toArray⟩,.bool ord,.slice ka keys.length kc,.slice ia items.length ic]:=by rw[<-g];exact Blk.new _ _ _
 obtain⟨s0,s1,s2,s3,s4⟩:=cells5 s;have c:=hid m;have p:Hid (T k):=hid (hT _ _ hTw m);have l:=zg3 text;clear m s hTw;go_enter func26,ntmps26;go_upto_region 1 with fail;(try rw[g]);clear g;by_cases h9:kind=9
 .subst h9;cases he:text.isEmpty with
  |false=>
   rw[he]at l;have a:Hid (formB sclr ⟨9,text,ord,keys,items⟩=false):=hid (by simp[formB,he]);go_wp2;go_ret;exact⟨by rw[a.out]<;>rfl,c.out⟩
  |true=>
   rw[he]at l;cases ord with
   |true=>
    have a:Hid (formB sclr ⟨9,text,true,keys,items⟩=false):=hid (by simp[formB]);go_wp2;go_ret;exact⟨by rw[a.out]<;>rfl,c.out⟩
   |false=>
    by_cases hk:keys=[]
    .subst hk;have a:Hid (formB sclr ⟨9,text,false,[],items⟩=true):=hid (by simp[formB,he]);go_wp2;go_ret;exact⟨by rw[a.out]<;>rfl,c.out⟩
    .have f:¬((keys.length:Int)=0):=by have:=List.length_pos_iff.2 hk;omega
     have d:((keys.length:Int)==0)=false:=by simpa using hk
     have a:Hid (formB sclr ⟨9,text,false,keys,items⟩=false):=hid (by simp[formB,hk]);go_wp2;go_ret;exact⟨by rw[a.out]<;>rfl,c.out⟩
 .have h9b:(kind==9)=false:=by simpa using h9
  by_cases h10:kind=10
  .subst h10;cases he:text.isEmpty with
   |false=>
    rw[he]at l;have a:Hid (formB sclr ⟨10,text,ord,keys,items⟩=false):=hid (by simp[formB,he]);go_wp2;go_ret;exact⟨by rw[a.out]<;>rfl,c.out⟩
   |true=>
    rw[he]at l;by_cases hki:keys.length=items.length
    .have d:((keys.length:Int)==(items.length:Int))=true:=by simp[hki]
     have o:=hid hki;have f:(keys.length:Int)=(items.length:Int):=by omega
     have H1:=hid f;clear hki f;have a:Hid (formB sclr ⟨10,text,ord,keys,items⟩=true):=hid (by simp[formB,he,o.out]);go_wp2;go_ret;exact⟨by rw[a.out]<;>rfl,c.out⟩
    .have f:¬((keys.length:Int)=(items.length:Int)):=by omega
     have d:((keys.length:Int)==(items.length:Int))=false:=by simp;omega
     have a:Hid (formB sclr ⟨10,text,ord,keys,items⟩=false):=hid (by simp[formB,hki]);go_wp2;go_ret;exact⟨by rw[a.out]<;>rfl,c.out⟩
  .have h10b:(kind==10)=false:=by simpa using h10
   by_cases h11:kind=11
   .subst h11;cases hn:nameB text with
    |false=>
     have a:Hid (formB sclr ⟨11,text,ord,keys,items⟩=false):=hid (by simp[formB,hn]);have h:=hid hn;go_wp2_with fail;refine(zdg text htl _).mono ?_;rintro e i ⟨rfl,b⟩;subst b;rw[h.out];go_wp2;go_ret;exact⟨by rw[a.out]<;>rfl,c.out⟩
    |true=>
     have h:=hid hn;cases ord with
     |true=>
      have a:Hid (formB sclr ⟨11,text,true,keys,items⟩=false):=hid (by simp[formB]);go_wp2_with fail;refine(zdg text htl _).mono ?_;rintro e i ⟨rfl,b⟩;subst b;rw[h.out];go_wp2;go_ret;exact⟨by rw[a.out]<;>rfl,c.out⟩
     |false=>
      by_cases hk:keys=[]
      .subst hk;by_cases f:items.length=1
       .have a:Hid (formB sclr ⟨11,text,false,[],items⟩=true):=hid (by simp[formB,hn,f]);have d:((items.length:Int)==1)=true:=by simp[f]
        clear f;go_wp2_with fail;refine(zdg text htl _).mono ?_;rintro e i ⟨rfl,b⟩;subst b;rw[h.out];go_wp2;go_ret;exact⟨by rw[a.out]<;>rfl,c.out⟩
       .have a:Hid (formB sclr ⟨11,text,false,[],items⟩=false):=hid (by simp[formB,f]);have d:((items.length:Int)==1)=false:=by simp;omega
        have h1i:¬((items.length:Int)=1):=by omega
        go_wp2_with fail;refine(zdg text htl _).mono ?_;rintro e i ⟨rfl,b⟩;subst b;rw[h.out];go_wp2;go_ret;exact⟨by rw[a.out]<;>rfl,c.out⟩
      .have f:¬((keys.length:Int)=0):=by have:=List.length_pos_iff.2 hk;omega
       have d:((keys.length:Int)==0)=false:=by simpa using hk
       have a:Hid (formB sclr ⟨11,text,false,keys,items⟩=false):=hid (by simp[formB,hk]);go_wp2_with fail;refine(zdg text htl _).mono ?_;rintro e i ⟨rfl,b⟩;subst b;rw[h.out];go_wp2;go_ret;exact⟨by rw[a.out]<;>rfl,c.out⟩
   .have h11b:(kind==11)=false:=by simpa using h11
    cases ord with
    |true=>
     have a:Hid (formB sclr ⟨kind,text,true,keys,items⟩=false):=hid (by simp[formB,h9,h10,h11]);go_wp2;go_ret;exact⟨by rw[a.out]<;>rfl,c.out⟩
    |false=>
     by_cases hk:keys=[]
     .subst hk;by_cases hi:items=[]
      .subst hi;have a:Hid (formB sclr ⟨kind,text,false,[],[]⟩=sclr kind text):=hid (by simp[formB,h9,h10,h11]);have t:=hid (u.out h9 h10 h11 rfl rfl rfl k p.out);obtain⟨r,q⟩:=ex (sclr kind text)
       rw[q]at t a;clear q;go_wp2_with fail;refine t.out.mono ?_;rintro e i ⟨rfl,j⟩;have n:Hid (Below w.heap.size w i):=hid (c.out.trans (j.mono c.out.size));clear j;go_wp2;go_ret;exact⟨by rw[a.out]<;>rfl,n.out⟩
      .have f:¬((items.length:Int)=0):=by have:=List.length_pos_iff.2 hi;omega
       have d:((items.length:Int)==0)=false:=by simpa using hi
       have a:Hid (formB sclr ⟨kind,text,false,[],items⟩=false):=hid (by simp[formB,h9,h10,h11,hi]);go_wp2;go_ret;exact⟨by rw[a.out]<;>rfl,c.out⟩
     .have f:¬((keys.length:Int)=0):=by have:=List.length_pos_iff.2 hk;omega
      have d:((keys.length:Int)==0)=false:=by simpa using hk
      have a:Hid (formB sclr ⟨kind,text,false,keys,items⟩=false):=hid (by simp[formB,h9,h10,h11,hk]);go_wp2;go_ret;exact⟨by rw[a.out]<;>rfl,c.out⟩
end Go.Proofs.YtpjmhafmeieloabGreatDoor
