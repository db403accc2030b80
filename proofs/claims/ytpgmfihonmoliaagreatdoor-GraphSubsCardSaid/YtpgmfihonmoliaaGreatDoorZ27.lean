import Derived.Test.YtpgmfihonmoliaaGreatDoorGrRefF
import Derived.Test.YtpgmfihonmoliaaGreatDoorZ15
import Derived.Test.YtpgmfihonmoliaaGreatDoorGrUtfR
namespace Go.Proofs.YtpgmfihonmoliaaGreatDoor
open Gr
open _root_.Go.Proofs.Tryz
open _root_.Go.Lib (hid)
set_option maxRecDepth 100000
set_option maxHeartbeats 16000000
open Go.RowKit
noncomputable def sclX (kind:Int) (text:Gr.Str):Bool:=
 if kind=0 then text.isEmpty else if kind=1 then(decide (text=[116,114,117,101]) || decide (text=[102,97,108,115,101]))
 else if kind=2 then intB text else if kind=3 then(readP text).isSome else if kind=4 then fltP text else if kind=5 then utfB text
 else if kind=6 then true else if kind=7 then insB text else if kind=8 then locB text else false
theorem zbv (k:Int) (t:Gr.Str) (h:sclX k t=true):0<=k/\k<=8:=by
 unfold sclX at h;by_cases h0:k=0
 .omega
 by_cases h1:k=1
 .omega
 by_cases h2:k=2
 .omega
 by_cases h3:k=3
 .omega
 by_cases h4:k=4
 .omega
 by_cases h5:k=5
 .omega
 by_cases h6:k=6
 .omega
 by_cases h7:k=7
 .omega
 by_cases h8:k=8
 .omega
 simp[h0,h1,h2,h3,h4,h5,h6,h7,h8]at h
theorem zum (t:Gr.Str):sclX 0 t=t.isEmpty:=rfl
theorem zun (t:Gr.Str):sclX 1 t=(decide (t=[116,114,117,101]) || decide (t=[102,97,108,115,101])):=rfl
theorem zuo (t:Gr.Str):sclX 2 t=intB t:=rfl
theorem zup (t:Gr.Str):sclX 3 t=(readP t).isSome:=rfl
theorem zuq (t:Gr.Str):sclX 4 t=fltP t:=rfl
theorem zur (t:Gr.Str):sclX 5 t=utfB t:=rfl
theorem zus (t:Gr.Str):sclX 6 t=true:=rfl
theorem zut (t:Gr.Str):sclX 7 t=insB t:=rfl
theorem zuu (t:Gr.Str):sclX 8 t=locB t:=rfl
theorem zuv (k:Int) (t:Gr.Str) (h:k<0\/8<k):sclX k t=false:=by
 cases hs:sclX k t with
 |false=>rfl
 |true=>have:=zbv k t hs;omega
theorem znc (kind:Int) (text:Gr.Str) (h:kind<0\/8<kind):ScalOk UT kind text false:=by
 intro w a;have h0:(kind==0)=false:=by rw[beq_eq_false_iff_ne];omega
 have h1:(kind==1)=false:=by rw[beq_eq_false_iff_ne];omega
 have h2:(kind==2)=false:=by rw[beq_eq_false_iff_ne];omega
 have h3:(kind==3)=false:=by rw[beq_eq_false_iff_ne];omega
 have h4:(kind==4)=false:=by rw[beq_eq_false_iff_ne];omega
 have h5:(kind==5)=false:=by rw[beq_eq_false_iff_ne];omega
 have h6:(kind==6)=false:=by rw[beq_eq_false_iff_ne];omega
 have h7:(kind==7)=false:=by rw[beq_eq_false_iff_ne];omega
 have h8:(kind==8)=false:=by rw[beq_eq_false_iff_ne];omega
 clear a h;go_enter func22,ntmps22;go_wp2;go_ret;exact⟨rfl,Below.refl _ _⟩
theorem zuw (kind:Int) (text:Gr.Str) (hl:text.length<=268435455):ScalOk UT kind text (sclX kind text):=by
 have a:text.length<=1073741823:=by omega
 by_cases h:kind<0\/8<kind
 .rw[zuv _ _ h];exact znc _ _ h
 .have b:kind=0\/kind=1\/kind=2\/kind=3\/kind=4\/kind=5\/kind=6\/kind=7\/kind=8:=by omega
  rcases b with rfl|rfl|rfl|rfl|rfl|rfl|rfl|rfl|rfl
  .rw[zum];exact zh2 text
  .rw[zun];exact zqz text
  .rw[zuo];exact zek text a
  .rw[zup];exact ztl text a
  .rw[zuq];exact zs6 text a
  .rw[zur];exact ze2 text a
  .rw[zus];exact zm3 text
  .rw[zut];exact zth text a
  .rw[zuu];exact ztg text a
def RScal (kind:Int) (text:Gr.Str) (r:Bool):Prop:=∀w,Calls prog 52 #[.int .i64 kind,.string ⟨text.toArray⟩] w fun e w'=>e=.returned (.bool r)/\Below w.heap.size w w'
theorem zwm (text:Gr.Str):RScal 0 text text.isEmpty:=by
 intro w;have ht:=zgh text;go_enter func52,ntmps52;go_wp2;go_ret;exact⟨rfl,Below.refl _ _⟩
theorem zwn (text:Gr.Str):RScal 1 text (decide (text=[116,114,117,101]) || decide (text=[102,97,108,115,101])):=by
 intro w;by_cases h1:text=[116,114,117,101]
 .subst h1;go_enter func52,ntmps52;go_wp2;go_ret;exact⟨rfl,Below.refl _ _⟩
 .have hb1:(text==[116,114,117,101])=false:=by rw[beq_eq_false_iff_ne];exact h1
  by_cases h2:text=[102,97,108,115,101]
  .subst h2;go_enter func52,ntmps52;go_wp2;go_ret;exact⟨rfl,Below.refl _ _⟩
  .have hb2:(text==[102,97,108,115,101])=false:=by rw[beq_eq_false_iff_ne];exact h2
   have a:Hid ((decide (text=[116,114,117,101]) || decide (text=[102,97,108,115,101]))=false):=hid (by simp[h1,h2]);rw[a.out];clear h1 h2;go_enter func52,ntmps52;go_wp2;go_ret;exact⟨rfl,Below.refl _ _⟩
theorem zwo (text:Gr.Str) (hl:text.length<=268435455):RScal 2 text (intB text):=by
 intro w;have a:=hid (zf0 text (by omega) w);obtain⟨r,c⟩:=ex (intB text)
 rw[c]at a ⊢;clear c;go_enter func52,ntmps52;go_wp2_with fail;refine a.out.mono ?_;rintro e f ⟨rfl,b⟩;have d:=hid (b▸Below.refl _ _:Below w.heap.size w f);clear b;go_wp2;go_ret;exact⟨rfl,d.out⟩
theorem zwp (text:Gr.Str) (hl:text.length<=268435455):RScal 3 text (readP text).isSome:=by
 intro w;have a:=hid (zqy text hl w);rw[zvj];obtain⟨r,f⟩:=ex ((readR text).isSome)
 rw[f]at a ⊢;clear f;unfold zb7 at a;go_enter func52,ntmps52;go_wp2_with fail;refine a.out.mono ?_;rintro e w2 ⟨n,A,l,c,x,rfl,d⟩;have b:=hid d;clear d;go_wp2;go_ret;exact⟨rfl,b.out.alloc b.out.size _⟩
theorem zwq (text:Gr.Str) (hl:text.length<=268435455):RScal 4 text (fltP text):=by
 intro w;have f:=hid (zsp text (by omega) w);rw[zxn];obtain⟨r,i⟩:=ex (fltR text)
 rw[i]at f ⊢;clear i;unfold OfF at f;go_enter func52,ntmps52;go_wp2_with fail;refine f.out.mono ?_;rintro e w2 ⟨⟨a,b,c,d,rfl⟩,h⟩;have g:=hid h;clear h;go_wp2;go_ret;exact⟨rfl,g.out.alloc g.out.size _⟩
theorem zwr (text:Gr.Str) (hl:text.length<=268435455):RScal 5 text (utfB text):=by
 intro w;obtain⟨r,a⟩:=ex (utfB text)
 have d:=hid (Utf.zyf text (by omega) w r (by rw[<-a];unfold utfB;cases Utf.bad text<;>rfl));rw[a];clear a;go_enter func52,ntmps52;go_wp2_with fail;refine d.out.mono ?_;rintro e w2 ⟨rfl,b⟩;have c:=hid b;clear b;go_wp2;go_ret;exact⟨rfl,c.out⟩
theorem zws (text:Gr.Str):RScal 6 text true:=by
 intro w;go_enter func52,ntmps52;go_wp2;go_ret;exact⟨rfl,Below.refl _ _⟩
theorem zwt (text:Gr.Str) (hl:text.length<=268435455):RScal 7 text (insB text):=by
 intro w;have a:=hid (ziv text (by omega) w);obtain⟨r,c⟩:=ex (insB text)
 rw[c]at a ⊢;clear c;go_enter func52,ntmps52;go_wp2_with fail;refine a.out.mono ?_;rintro e w2 ⟨rfl,b⟩;have d:=hid b;clear b;go_wp2;go_ret;exact⟨rfl,d.out⟩
theorem zwu (text:Gr.Str) (hl:text.length<=268435455):RScal 8 text (locB text):=by
 intro w;have a:=hid (zmy text (by omega) w);obtain⟨r,c⟩:=ex (locB text)
 rw[c]at a ⊢;clear c;go_enter func52,ntmps52;go_wp2_with fail;refine a.out.mono ?_;rintro e w2 ⟨rfl,b⟩;have d:=hid b;clear b;go_wp2;go_ret;exact⟨rfl,d.out⟩
theorem zj7 (kind:Int) (text:Gr.Str) (h:kind<0\/8<kind):RScal kind text false:=by
 intro w;have h0:(kind==0)=false:=by rw[beq_eq_false_iff_ne];omega
 have h1:(kind==1)=false:=by rw[beq_eq_false_iff_ne];omega
 have h2:(kind==2)=false:=by rw[beq_eq_false_iff_ne];omega
 have h3:(kind==3)=false:=by rw[beq_eq_false_iff_ne];omega
 have h4:(kind==4)=false:=by rw[beq_eq_false_iff_ne];omega
 have h5:(kind==5)=false:=by rw[beq_eq_false_iff_ne];omega
 have h6:(kind==6)=false:=by rw[beq_eq_false_iff_ne];omega
 have h7:(kind==7)=false:=by rw[beq_eq_false_iff_ne];omega
 have h8:(kind==8)=false:=by rw[beq_eq_false_iff_ne];omega
 clear h;go_enter func52,ntmps52;go_wp2;go_ret;exact⟨rfl,Below.refl _ _⟩
theorem zwv (kind:Int) (text:Gr.Str) (hl:text.length<=268435455):RScal kind text (sclX kind text):=by
 by_cases h:kind<0\/8<kind
 .rw[zuv _ _ h];exact zj7 _ _ h
 .have a:kind=0\/kind=1\/kind=2\/kind=3\/kind=4\/kind=5\/kind=6\/kind=7\/kind=8:=by omega
  rcases a with rfl|rfl|rfl|rfl|rfl|rfl|rfl|rfl|rfl
  .rw[zum];exact zwm text
  .rw[zun];exact zwn text
  .rw[zuo];exact zwo text hl
  .rw[zup];exact zwp text hl
  .rw[zuq];exact zwq text hl
  .rw[zur];exact zwr text hl
  .rw[zus];exact zws text
  .rw[zut];exact zwt text hl
  .rw[zuu];exact zwu text hl
theorem zq3 (s:Gr.Str) (hs:s.length<=1073741823) (w:World):Calls prog 51 #[.string ⟨s.toArray⟩] w fun e w'=>e=.returned (.bool (nameB s))/\w'=w:=by
 have k:Hid (∀r:Bool,r=nameB s↔r=(s.all nameC && decide (1<=s.length) && decide (s.length<=64))):=hid (fun r=>by
  have:nameB s=(s.all nameC && decide (1<=s.length) && decide (s.length<=64)):=rfl;rw[this])
 go_enter func51,ntmps51;go_upto_region 2 with fail;go_loop [3] (fun x=>∃i:Nat,i<=s.length/\x=.int .i64 i/\Hid ((s.take i).all nameC=true)) (fun i=>s.length-(intOf i).toNat)
 case atStart=>exact⟨0,by omega,rfl,hid (by simp)⟩
 case round=>
  obtain⟨i,hi,rfl,q⟩:=hrel;by_cases hil:i<s.length
  .have d:(i:Int)<(s.length:Int):=by omega
   obtain⟨c,j⟩:=ex (s[i])
   have q0:=byte_at s i hil c j;have hbd:c.toNat<256:=c.toNat_lt;have hn:=zhl c;have f:Hid ((s.take (i+1)).all nameC=nameC c):=hid (by rw[List.take_succ_eq_append_getElem hil,List.all_append,q.out,j];simp);by_cases hy:nameC c=true
   .have p:Hid ((s.take (i+1)).all nameC=true):=hid (by rw[f.out,hy]);have hn:=hn.1 hy;clear hy f j;rcases hn with hn|hn|hn|hn|hn|hn|hn
    all_goals
     go_wp2;go_round
     case rel=>exact⟨i+1,by omega,by go_num,p⟩
     case measure=>simp[intOf];omega
   .have a:Hid (nameB s=false):=hid (by
     have b:(s.take (i+1)).all nameC=false:=by rw[f.out];simpa using hy
     have g:s.all nameC=false:=by
      cases e:s.all nameC with
      |false=>rfl
      |true=>
       rw[List.all_eq_true]at e;rw[List.all_eq_false]at b;obtain⟨x,z,o⟩:=b;exact absurd (e x (List.mem_of_mem_take z)) o
     exact((k.out false).2 (by rw[g];rfl)).symm)
    have hn:=fun h=>hy (hn.2 h)
    have y:¬(97<=c.toNat/\c.toNat<=122):=fun h=>hn (.inl h)
    have v:¬(65<=c.toNat/\c.toNat<=90):=fun h=>hn (.inr (.inl h))
    have u:¬(48<=c.toNat/\c.toNat<=57):=fun h=>hn (.inr (.inr (.inl h)))
    have C:¬(c.toNat=95):=fun h=>hn (.inr (.inr (.inr (.inl h))))
    have A:¬(c.toNat=45):=fun h=>hn (.inr (.inr (.inr (.inr (.inl h)))))
    have B:¬(c.toNat=46):=fun h=>hn (.inr (.inr (.inr (.inr (.inr (.inl h))))))
    have t:¬(c.toNat=58):=fun h=>hn (.inr (.inr (.inr (.inr (.inr (.inr h))))))
    clear hn hy j f;have l:c.toNat<45\/c.toNat=47\/(59<=c.toNat/\c.toNat<=64)\/(91<=c.toNat/\c.toNat<=94)\/c.toNat=96\/122<c.toNat:=by omega
    have e4:((c.toNat:Int)==95)=false:=by simp;omega
    have e5:((c.toNat:Int)==45)=false:=by simp;omega
    have e6:((c.toNat:Int)==46)=false:=by simp;omega
    have e7:((c.toNat:Int)==58)=false:=by simp;omega
    clear y v u C A B t;rcases l with hn|hn|hn|hn|hn|hn
    all_goals
     go_wp2_with fail
     all_goals first
      | (go_ret;exact⟨by rw[a.out]<;>rfl,rfl⟩)
      | (exfalso;rename_i h;(try simp only[Bool.not_eq_false',decide_eq_true_eq]at h);first|omega| (simp at h;omega))
  .have d:¬((i:Int)<(s.length:Int)):=by omega
   have D:Hid (s.all nameC=true):=hid (by have:=q.out;rwa[List.take_of_length_le (by omega)]at this);by_cases b:1<=s.length
   .have n:(1:Int)<=(s.length:Int):=by omega
    by_cases g:s.length<=64
    .have m:(s.length:Int)<=64:=by omega
     have a:Hid (nameB s=true):=hid ((k.out true).2 (by rw[D.out];simp[b,g])).symm;go_wp2;go_ret;exact⟨by rw[a.out]<;>rfl,rfl⟩
    .have m:¬((s.length:Int)<=64):=by omega
     have a:Hid (nameB s=false):=hid ((k.out false).2 (by simp[g])).symm;go_wp2;go_ret;exact⟨by rw[a.out]<;>rfl,rfl⟩
   .have n:¬((1:Int)<=(s.length:Int)):=by omega
    have a:Hid (nameB s=false):=hid ((k.out false).2 (by simp[b])).symm;go_wp2;go_ret;exact⟨by rw[a.out]<;>rfl,rfl⟩
theorem zq4 (kind:Int) (text:Gr.Str) (ord:Bool) (keys items:List Int) (ka ia:Option Addr) (kc ic n B:Nat) (_hn:n<=1073741823) (htl:text.length<=268435455) (hkl:keys.length<=1073741823) (hil:items.length<=1073741823)
 (w:World) (hB:B<=w.heap.size) (hk:RowAt intI w B ka keys) (hi:RowAt intI w B ia items):
 Calls prog 35 #[.agg #[.int .i64 kind,.string ⟨text.toArray⟩,.bool ord,.slice ka keys.length kc,.slice ia items.length ic],.int .i64 n] w fun e w'=>e=.returned (.bool (rform sclX n ⟨kind,text,ord,keys,items⟩))/\Below w.heap.size w w':=by
 obtain⟨A,q⟩:=ex (w.alloc (.cells #[.int .i64 kind,.string ⟨text.toArray⟩,.bool ord,.slice ka keys.length kc,.slice ia items.length ic] 38))
 have F:Below w.heap.size w A:=by rw[<-q];exact(Below.refl _ _).alloc (Nat.le_refl _) _
 have O:Blk A w.heap.size 38 #[.int .i64 kind,.string ⟨text.toArray⟩,.bool ord,.slice ka keys.length kc,.slice ia items.length ic]:=by rw[<-q];exact Blk.new _ _ _
 obtain⟨s0,s1,s2,s3,s4⟩:=cells5 O;have d:=hid F;have Q:Hid (RowAt intI A B ka keys):=hid (hk.below (F.mono hB));have P:Hid (RowAt intI A B ia items):=hid (hi.below (F.mono hB));have j:Hid ((items.all (inR n)=false\/keys.all (inR n)=false)->rform sclX n ⟨kind,text,ord,keys,items⟩=false):=hid (fun h=>by
  unfold rform;rw[if_pos];rcases h with h|h
  .show(items.all (inR n) && keys.all (inR n))=false;rw[h];rfl
  .show(items.all (inR n) && keys.all (inR n))=false;rw[h,Bool.and_false])
 have L:=zgh text;clear F O hk hi hB;go_enter func35,ntmps35;go_upto_region 1 with fail;(try rw[q]);clear q;go_upto_region 2 with fail;go_loop [5] (fun x=>∃i:Nat,i<=items.length/\x=.int .i64 i/\Hid ((items.take i).all (inR n)=true)) (fun i=>items.length-(intOf i).toNat)
 case atStart=>exact⟨0,by omega,rfl,hid (by simp)⟩
 case round=>
  obtain⟨i,G,rfl,c⟩:=hrel;by_cases hlt:i<items.length
  .have g:(i:Int)<(items.length:Int):=by omega
   obtain⟨x,s⟩:=ex (items[i])
   obtain⟨I,rfl,m,M⟩:=zew P.out hlt;rw[s]at M;have p:Hid ((items.take (i+1)).all (inR n)=(decide (0<=x) && decide (x<(n:Int)))):=hid (by rw[zb3 _ _ _ hlt,c.out,s];rfl);have k:Hid (inR n x=false->items.all (inR n)=false):=hid (fun h=>by
    rw[List.all_eq_false];exact⟨x,by rw[<-s];exact List.getElem_mem hlt,by rw[h];decide⟩)
   clear s m;by_cases h1:0<=x
   .have y:¬x<0:=by omega
    by_cases h2:x<(n:Int)
    .have t:¬(n:Int)<=x:=by omega
     have v:Hid ((items.take (i+1)).all (inR n)=true):=hid (by rw[p.out];simp[h1,h2]);clear c p k;go_wp2;go_round
     case rel=>exact⟨i+1,by omega,by go_num,v⟩
     case measure=>simp[intOf];omega
    .have t:(n:Int)<=x:=by omega
     have a:Hid (items.all (inR n)=false):=hid (k.out (by simp[inR,h2]));clear c p k;go_wp2;go_ret;exact⟨by rw[j.out (by exact .inl a.out)]<;>rfl,d.out⟩
   .have y:x<0:=by omega
    have a:Hid (items.all (inR n)=false):=hid (k.out (by simp[inR];omega));clear c p k;go_wp2;go_ret;exact⟨by rw[j.out (by exact .inl a.out)]<;>rfl,d.out⟩
  .have g:¬((i:Int)<(items.length:Int)):=by omega
   have D:Hid (items.all (inR n)=true):=hid (by have:=c.out;rwa[List.take_of_length_le (by omega)]at this);clear c;go_upto_region 7 with fail;go_loop [6] (fun x=>∃i:Nat,i<=keys.length/\x=.int .i64 i/\Hid ((keys.take i).all (inR n)=true)) (fun i=>keys.length-(intOf i).toNat)
   case atStart=>exact⟨0,by omega,rfl,hid (by simp)⟩
   case round=>
    obtain⟨i,G,rfl,c⟩:=hrel;by_cases hlt:i<keys.length
    .have g:(i:Int)<(keys.length:Int):=by omega
     obtain⟨x,s⟩:=ex (keys[i])
     obtain⟨I,rfl,m,M⟩:=zew Q.out hlt;rw[s]at M;have p:Hid ((keys.take (i+1)).all (inR n)=(decide (0<=x) && decide (x<(n:Int)))):=hid (by rw[zb3 _ _ _ hlt,c.out,s];rfl);have k:Hid (inR n x=false->keys.all (inR n)=false):=hid (fun h=>by
      rw[List.all_eq_false];exact⟨x,by rw[<-s];exact List.getElem_mem hlt,by rw[h];decide⟩)
     clear s m;by_cases h1:0<=x
     .have y:¬x<0:=by omega
      by_cases h2:x<(n:Int)
      .have t:¬(n:Int)<=x:=by omega
       have v:Hid ((keys.take (i+1)).all (inR n)=true):=hid (by rw[p.out];simp[h1,h2]);clear c p k;go_wp2;go_round
       case rel=>exact⟨i+1,by omega,by go_num,v⟩
       case measure=>simp[intOf];omega
      .have t:(n:Int)<=x:=by omega
       have a:Hid (keys.all (inR n)=false):=hid (k.out (by simp[inR,h2]));clear c p k;go_wp2;go_ret;exact⟨by rw[j.out (by exact .inr a.out)]<;>rfl,d.out⟩
     .have y:x<0:=by omega
      have a:Hid (keys.all (inR n)=false):=hid (k.out (by simp[inR];omega));clear c p k;go_wp2;go_ret;exact⟨by rw[j.out (by exact .inr a.out)]<;>rfl,d.out⟩
    .have g:¬((i:Int)<(keys.length:Int)):=by omega
     have C:Hid (keys.all (inR n)=true):=hid (by have:=c.out;rwa[List.take_of_length_le (by omega)]at this);clear c;have f:Hid (rform sclX n ⟨kind,text,ord,keys,items⟩=if kind≠10/\(ord=true\/0<keys.length)then false else if kind=9 then text.isEmpty else if kind=10 then text.isEmpty && decide (keys.length=items.length)
      else if kind=11 then decide (items.length=1) && nameB text else decide (items.length=0) && sclX kind text):=hid (by
      unfold rform;rw[if_neg];show¬(items.all (inR n) && keys.all (inR n))=false;rw[D.out,C.out];decide)
     clear D C j Q P;by_cases h10:kind=10
     .subst h10;cases he:text.isEmpty with
      |false=>
       rw[he]at L;have a:Hid (rform sclX n ⟨10,text,ord,keys,items⟩=false):=hid (by rw[f.out];simp[he]);go_wp2;go_ret;exact⟨by rw[a.out]<;>rfl,d.out⟩
      |true=>
       rw[he]at L;by_cases hki:keys.length=items.length
       .have o:((keys.length:Int)==(items.length:Int))=true:=by simp[hki]
        have h1:(keys.length:Int)=(items.length:Int):=by omega
        have a:Hid (rform sclX n ⟨10,text,ord,keys,items⟩=true):=hid (by rw[f.out];simp[he,hki]);clear hki;have H1:=hid h1;clear h1;go_wp2;go_ret;exact⟨by rw[a.out]<;>rfl,d.out⟩
       .have h1:¬((keys.length:Int)=(items.length:Int)):=by omega
        have o:((keys.length:Int)==(items.length:Int))=false:=by simp;omega
        have a:Hid (rform sclX n ⟨10,text,ord,keys,items⟩=false):=hid (by rw[f.out];simp[he,hki]);go_wp2;go_ret;exact⟨by rw[a.out]<;>rfl,d.out⟩
     .have h10b:(kind==10)=false:=by simpa using h10
      have h10n:(kind != 10)=true:=by simpa using h10
      cases ord with
      |true=>
       have a:Hid (rform sclX n ⟨kind,text,true,keys,items⟩=false):=hid (by rw[f.out];simp[h10]);go_wp2;go_ret;exact⟨by rw[a.out]<;>rfl,d.out⟩
      |false=>
       by_cases hk0:keys.length=0
       .have J:¬(0<(keys.length:Int)):=by omega
        have u:¬0<keys.length:=by omega
        have N:decide (0<keys.length)=false:=decide_eq_false u;have l:Hid (rform sclX n ⟨kind,text,false,keys,items⟩=if kind=9 then text.isEmpty else if kind=11 then decide (items.length=1) && nameB text else decide (items.length=0) && sclX kind text):=hid (by
         rw[f.out];simp[h10,hk0])
        clear f;by_cases h9:kind=9
        .subst h9;have a:Hid (rform sclX n ⟨9,text,false,keys,items⟩=text.isEmpty):=hid (by rw[l.out];rfl);obtain⟨b,T⟩:=ex text.isEmpty
         rw[T]at L a;go_wp2;go_ret;exact⟨by rw[a.out]<;>rfl,d.out⟩
        .have h9b:(kind==9)=false:=by simpa using h9
         by_cases h11:kind=11
         .subst h11;by_cases h1:items.length=1
          .have o:((items.length:Int)==1)=true:=by simp[h1]
           have z:(items.length:Int)=1:=by omega
           have a:Hid (rform sclX n ⟨11,text,false,keys,items⟩=nameB text):=hid (by rw[l.out];simp[h1]);clear h1;go_wp2_with fail;refine(zq3 text (by omega) _).mono ?_;rintro e S ⟨rfl,K⟩;subst K;go_wp2;go_ret;exact⟨by rw[a.out]<;>rfl,d.out⟩
          .have o:((items.length:Int)==1)=false:=by simp;omega
           have z:¬((items.length:Int)=1):=by omega
           have a:Hid (rform sclX n ⟨11,text,false,keys,items⟩=false):=hid (by rw[l.out];simp[h1]);go_wp2;go_ret;exact⟨by rw[a.out]<;>rfl,d.out⟩
         .have h11b:(kind==11)=false:=by simpa using h11
          by_cases h1:items.length=0
          .have o:((items.length:Int)==0)=true:=by simp[h1]
           have z:(items.length:Int)=0:=by omega
           have a:Hid (rform sclX n ⟨kind,text,false,keys,items⟩=sclX kind text):=hid (by rw[l.out];simp[h9,h11,h1]);clear h1;have c:=hid (zwv kind text htl A);obtain⟨r,R⟩:=ex (sclX kind text)
           rw[R]at c a;clear R;go_wp2_with fail;refine c.out.mono ?_;rintro e S ⟨rfl,E⟩;have H:Hid (Below w.heap.size w S):=hid (d.out.trans (E.mono d.out.size));clear E;go_wp2;go_ret;exact⟨by rw[a.out]<;>rfl,H.out⟩
          .have o:((items.length:Int)==0)=false:=by rw[beq_eq_false_iff_ne];omega
           have z:¬((items.length:Int)=0):=by omega
           have a:Hid (rform sclX n ⟨kind,text,false,keys,items⟩=false):=hid (by rw[l.out];simp[h9,h11,h1]);go_wp2;go_ret;exact⟨by rw[a.out]<;>rfl,d.out⟩
       .have J:0<(keys.length:Int):=by omega
        have u:0<keys.length:=by omega
        have N:decide (0<keys.length)=true:=decide_eq_true u;have a:Hid (rform sclX n ⟨kind,text,false,keys,items⟩=false):=hid (by rw[f.out,if_pos ⟨h10,.inr (by omega)⟩]);go_wp2;go_ret;exact⟨by rw[a.out]<;>rfl,d.out⟩
structure RB (w wr:World) (gc:Array Value) (m:List Bool) (v:Value) (L:List Nat):Prop where
 below:Below w.heap.size w wr
 box:Blk wr w.heap.size 24 gc
 met:Blk wr (w.heap.size+1) 4 (bcells m)
 own:OwnRow intL wr (w.heap.size+2) 3 v L
 hd:w.heap.size+2<=wr.heap.size
section
variable {w wr w2:World} {gc:Array Value} {m:List Bool} {v v':Value} {L L':List Nat}
theorem RB.later (h:RB w wr gc m v L) (hb:Below wr.heap.size wr w2):RB w w2 gc m v L:=
 ⟨h.below.trans (hb.mono (by have:=h.hd;omega)),h.box.below hb h.box.lt,h.met.below hb h.met.lt,h.own.later hb,Nat.le_trans h.hd hb.size⟩
theorem RB.alloc (h:RB w wr gc m v L) (o:Obj):RB w (wr.alloc o) gc m v L:=h.later ((Below.refl _ _).alloc (Nat.le_refl _) _)
theorem RB.mark (h:RB w wr gc m v L) (i:Nat) (b:Bool):RB w (wr.setCell ⟨w.heap.size+1,i,none⟩ (.bool b)) gc (m.set i b) v L:=
 ⟨h.below.setCell (by simp) _,h.box.far (by simp) _,by rw[<-zb0];exact h.met.set_ i _,h.own.setCell (fun e=>absurd (h.own.lt _ e).1 (by simp)) _,by have:=h.hd;simp[World.setCell];omega⟩
theorem RB.grown (h:RB w wr gc m v L) (ho:OwnRow intL w2 (w.heap.size+2) 3 v' L') (hg:wr.grownBy w2 v.ownBlock):RB w w2 gc m v' L':=
 ⟨h.below.trans ((h.own.grown_below hg h.hd).mono (by omega)),zbg h.box h.own hg (by omega),zbg h.met h.own hg (by omega),ho,Nat.le_trans h.hd (h.own.grown_below hg h.hd).size⟩
theorem zd4 {w:World} {base:Nat} {E:TypeId} {A:Option Addr} {c n:Nat} {l:List Nat} (h:OwnRow intL w base E (.slice A n c) l):RowAt intL w w.heap.size A l/\n=l.length:=by
 obtain⟨A',c',b,a⟩:=h.form;injection b with e1 e2 e3
 subst e1;exact⟨a,e2⟩
end
theorem zts {w:World} {base:Nat} {E:TypeId} {v u u':Value} {l:List Nat} (h:v.ownBlock=none\/v.ownBlock≠u.ownBlock) (hN:OwnRow intL w base E v l) (hat:u'.ownBlock=u.ownBlock\/u'.ownBlock=some w.heap.size):v.ownBlock=none\/v.ownBlock≠u'.ownBlock:=by
 rcases hat with e|e
 .rw[e];exact h
 .rw[e];cases e2:v.ownBlock with
  |none=>exact .inl rfl
  |some k=>
   right;intro a;injection a with a
   have:=(hN.lt k e2).2;omega
theorem zq5 {w w2:World} {base:Nat} {E:TypeId} {v u:Value} {l m:List Nat} (hN:OwnRow intL w2 w.heap.size E v l) (hL:OwnRow intL w base E u m):v.ownBlock=none\/v.ownBlock≠u.ownBlock:=by
 cases e2:v.ownBlock with
 |none=>exact .inl rfl
 |some k=>
  right;intro a;have:=(hN.lt k e2).1;have:=(hL.lt k a.symm).2;omega
theorem zfj (w:World):OwnRow intL (w.alloc (.cells #[] 3)).drew w.heap.size 3 (.slice (some ⟨w.heap.size,0,none⟩) ([]:List Nat).length 0) []:=by
 refine⟨by simp[Lay.all],.inr ⟨w.heap.size,0,#[],rfl,Nat.le_refl _,heap_alloc_new w _,Nat.le_refl _,by simp[maxLen],by simp,by simp[Lay.all]⟩⟩
theorem zcy (A:Option Addr) (c a:Nat) (root:Int) (vs:List NV) (ns:List Gr.Nd) (hr:Refs ns) (hl:ns.length<=1000) (hks:∀n∈ns,n.keys.length<=1000/\n.items.length<=1000) (ha:a<ns.length)
 (w:World) (h:GAt w w.heap.size A vs ns):
 Calls prog 33 #[.agg #[.slice A ns.length c,.int .i64 root],.int .i64 a] w fun e w'=>∃ob,e=.returned (.slice (some ⟨ob,0,none⟩) ns.length ns.length)/\w.heap.size<=ob/\Below w.heap.size w w'/\Blk w' ob 4 (bcells (marks ns a)):=by
 have H:=hid h;have hmk:=fun W=>zbm ns.length (by omega) W
 have haI:(a:Int)<(ns.length:Int):=by omega
 clear h;go_enter func33,ntmps33;go_upto_region 2 with fail;obtain⟨w2,s⟩:=ex ((w.alloc (.cells #[.slice A ns.length c,.int .i64 root] 24)).alloc (.cells (bcells (List.replicate ns.length false)) 4))
 have l2:Below w.heap.size w w2:=by rw[<-s];exact((Below.refl _ _).alloc (Nat.le_refl _) _).alloc (by simp) _
 have bg:Blk w2 w.heap.size 24 #[.slice A ns.length c,.int .i64 root]:=by rw[<-s];exact(Blk.new _ _ _).alloc _
 have bo:Blk w2 (w.heap.size+1) 4 (bcells (List.replicate ns.length false)):=by
  rw[<-s];have:=Blk.new (w.alloc (.cells #[.slice A ns.length c,.int .i64 root] 24)) 4 (bcells (List.replicate ns.length false));rw[World.size_alloc]at this;exact this
 have aq:w2.heap.size=w.heap.size+2:=by rw[<-s];simp
 have z0:w2.cell? ⟨w.heap.size+1,a,none⟩=some (.bool false):=by
  rw[bo.cell,zae (by simpa using ha)];simp[List.getD_eq_getElem?_getD,ha]
 have zf:∀i,w2.frozen? ⟨w.heap.size+1,i,none⟩=false:=bo.frozen;rw[s];clear s;go_upto_region 3 with fail;obtain⟨Y,r⟩:=ex (w2.setCell ⟨w.heap.size+1,a,none⟩ (.bool true))
 have b3:Blk Y (w.heap.size+1) 4 (bcells ((List.replicate ns.length false).set a true)):=by rw[<-r,<-zb0];exact bo.set_ a _
 have af:Blk Y w.heap.size 24 #[.slice A ns.length c,.int .i64 root]:=by rw[<-r];exact bg.far (by simp) _
 have l3:Below w.heap.size w Y:=by rw[<-r];exact l2.setCell (by simp) _
 have ao:Y.heap.size=w.heap.size+2:=by rw[<-r];simpa[World.setCell]using aq
 rw[r];clear r l2 bg bo z0 zf aq;go_upto_region 4 with fail;obtain⟨gc,Z⟩:∃gc:Array Value,#[.slice A ns.length c,.int .i64 root]=gc:=⟨_,rfl⟩
 have aN:Hid (gc[0]? =some (.slice A ns.length c)):=hid (by rw[<-Z];rfl);rw[Z]at af;have HB:Hid (RB w (Y.alloc (.cells #[.int .i64 a] 3)) gc ((List.replicate ns.length false).set a true) (.slice (some ⟨Y.heap.size,0,none⟩) 1 1) [a]):=hid
  ⟨l3.alloc (by omega) _,af.alloc _,b3.alloc _,OwnRow.lit1 (by omega) a _ rfl,by simp;omega⟩
 have ap:Hid (Bfs (Gr.succ ns) ns.length a ((List.replicate ns.length false).set a true) [a] 0 []):=hid (Bfs.start ha);obtain⟨m0,X⟩:=ex ((List.replicate ns.length false).set a true)
 obtain⟨w4,ag⟩:=ex (Y.alloc (.cells #[.int .i64 a] 3))
 obtain⟨lb,ac⟩:=ex (w.heap.size+2)
 rw[X,ag,ao,ac]at HB;rw[X]at ap;(try rw[ag]);(try rw[ac]);clear Z l3 af b3 ao X ag ac;go_upto_region 5 with fail;go_loopw [6,7] (fun s6 s7 wr=>∃(i:Nat) (m:List Bool) (L:List Nat) (A1:Option Addr) (c1:Nat),i<=L.length/\s7=.int .i64 i/\s6=.slice A1 L.length c1/\Hid (RB w wr gc m (.slice A1 L.length c1) L/\Bfs (Gr.succ ns) ns.length a m L i [])) (fun _ s7 _=>ns.length-(intOf s7).toNat)
 case atStart=>exact⟨0,m0,[a],some ⟨lb,0,none⟩,1,by simp,rfl,rfl,hid ⟨HB.out,ap.out⟩⟩
 case round=>
  obtain⟨i,m,L,A1,c1,hi,rfl,rfl,t⟩:=hrel;obtain⟨N,aY⟩:∃N,N=wr:=⟨_,rfl⟩
  subst aY;have HLN:Hid (L.length<=ns.length):=hid t.out.2.len_le;by_cases hil:i<L.length
  .have ay:(i:Int)<(L.length:Int):=by omega
   obtain⟨u,hu⟩:=ex (L[i])
   have ai:u<ns.length:=by rw[<-hu];exact t.out.2.lt _ (List.getElem_mem hil)
   obtain⟨G,rfl,_,y0⟩:=zaf (zd4 t.out.1.own).1 hil;rw[hu]at y0;have HU:Hid (L[i]? =some u):=hid (by rw[<-hu];exact List.getElem?_eq_getElem hil);obtain⟨D,k,i2,rfl,z⟩:=(H.out.below t.out.1.below).node ai;obtain⟨U,kn,kc⟩:=k;obtain⟨K,aT,ic⟩:=i2;have ah:ns[u]∈ns:=List.getElem_mem ai;obtain⟨aM,aw⟩:=hks _ ah;have E:Hid (Gr.succ ns u=ns[u].keys++ns[u].items/\∀x∈ns[u].keys++ns[u].items,x<ns.length):=hid ⟨zca ai,hr _ ah⟩;obtain⟨n,hn⟩:=ex (ns[u])
   rw[hn]at z E aM aw;obtain rfl:kn=n.keys.length:=z.kn;obtain rfl:aT=n.items.length:=z.inn;have x0:=z.c0;have x1:=z.c1;have x2:=z.c2;have x3:=z.c3;have x4:=z.c4;have g0:N.cell? ⟨w.heap.size,0,none⟩=some (.slice (some D) ns.length c):=by rw[t.out.1.box.cell];exact aN.out
   have hunI:(u:Int)<(ns.length:Int):=by omega
   have aD:Hid (RowAt intL N w.heap.size U n.keys/\RowAt intL N w.heap.size K n.items):=hid ⟨z.keys,z.items⟩;clear z ah hn hu;go_upto_region 7 with fail;go_cut [8] (fun s8 wx=>∃g8,s8=.pointer (some ⟨g8,0,none⟩)/\Hid (Blk wx g8 38 #[.int .i64 n.kind,.string ⟨n.text.toArray⟩,.bool n.ord,.slice U n.keys.length kc,.slice K n.items.length ic]/\Below N.heap.size N wx))
   case first=>
    go_region_held3 (fun w'=>w'.cell? ⟨w.heap.size,0,none⟩=some (.slice (some D) ns.length c)/\w'.cell? (G.add i)=some (.int .i64 u)/\
     w'.cell? (D.add (u*5))=some (.int .i64 n.kind)/\w'.cell? {block:=(D.add (u*5)).block,off:=(D.add (u*5)).off+1}=some (.string ⟨n.text.toArray⟩)/\w'.cell? {block:=(D.add (u*5)).block,off:=(D.add (u*5)).off+2}=some (.bool n.ord)/\
     w'.cell? {block:=(D.add (u*5)).block,off:=(D.add (u*5)).off+3}=some (.slice U n.keys.length kc)/\w'.cell? {block:=(D.add (u*5)).block,off:=(D.add (u*5)).off+4}=some (.slice K n.items.length ic))
      (first|go_keep| (simp[go_sem])) (fail)
    all_goals
     go_wp2;go_meet
    exact⟨N.heap.size,rfl,hid ⟨Blk.new _ _ _,((Below.refl _ _).alloc (Nat.le_refl _) _).drew⟩⟩
   case rest=>
    obtain⟨g8,rfl,g⟩:=hcut;have O:Hid (RB w wc gc m (.slice (some G) L.length c1) L/\Bfs (Gr.succ ns) ns.length a m L i []):=hid ⟨t.out.1.later g.out.2,t.out.2⟩;have s3:wc.cell? ⟨g8,3,none⟩=some (.slice U n.keys.length kc):=g.out.1.cell 3;have s4:wc.cell? ⟨g8,4,none⟩=some (.slice K n.items.length ic):=g.out.1.cell 4;clear x0 x1 x2 x3 x4 g0 y0;go_upto_region 8 with fail;obtain⟨d,aO⟩:∃d,d=wc:=⟨_,rfl⟩
    subst aO;go_cut [9] (fun s9 wx=>∃A2 c2,s9=.slice A2 (n.keys.length+n.items.length) c2/\Hid (OwnRow intL wx d.heap.size 3 (.slice A2 (n.keys.length+n.items.length) c2) (n.keys++n.items)/\Below d.heap.size d wx))
    case first=>
     have s3a:(d.alloc (.cells #[] 3)).cell? ⟨g8,3,none⟩=some (.slice U n.keys.length kc):=(g.out.1.alloc _).cell 3;have s4a:(d.alloc (.cells #[] 3)).cell? ⟨g8,4,none⟩=some (.slice K n.items.length ic):=(g.out.1.alloc _).cell 4;have y:OwnRow intL (d.alloc (.cells #[] 3)).drew d.heap.size 3 (.slice (some ⟨d.heap.size,0,none⟩) ([]:List Nat).length 0) []:=zfj d;have V:Below w.heap.size N (d.alloc (.cells #[] 3)).drew:=by
      have:=t.out.1.below.size;exact below_drewN ((g.out.2.mono this).alloc (Nat.le_trans this g.out.2.size) _) 1
     have au:RowAt intL (d.alloc (.cells #[] 3)).drew w.heap.size U n.keys:=aD.out.1.below V;have S:RowAt intL (d.alloc (.cells #[] 3)).drew w.heap.size K n.items:=aD.out.2.below V;have ae:Hid (d.heap.size<=(d.alloc (.cells #[] 3)).drew.heap.size/\w.heap.size<=d.heap.size/\g8<d.heap.size):=hid ⟨by simp,Nat.le_trans t.out.1.below.size g.out.2.size,g.out.1.lt⟩;have al:Hid (Blk (d.alloc (.cells #[] 3)).drew g8 38 #[.int .i64 n.kind,.string ⟨n.text.toArray⟩,.bool n.ord,.slice U n.keys.length kc,.slice K n.items.length ic]/\RowAt intL (d.alloc (.cells #[] 3)).drew w.heap.size K n.items):=hid ⟨g.out.1.alloc _,S⟩;have aK:([]:List Nat).length+n.keys.length<=1073741824:=by simp;omega
     have aU:n.keys.length+n.items.length<=1073741824:=by omega
     have ab:=ae.out.1;clear V S;go_region_law (first
      | (refine zan _ rfl (.tmp 34) (.tmp 36) 36 3 8 rfl intT d.heap.size (.slice (some ⟨d.heap.size,0,none⟩) ([]:List Nat).length 0) [] rfl y _ _ kc n.keys rfl au aK ab ?_;intro v1 w1 l aB aJ;rw[List.nil_append]at l;obtain⟨A8,c8,aW,_⟩:=l.form;subst aW;have I:=y.grown_below aB ab;have s41:w1.cell? ⟨g8,4,none⟩=some (.slice K n.items.length ic):=(al.out.1.below I ae.out.2.2).cell 4;have am:RowAt intL w1 w.heap.size K n.items:=al.out.2.below (I.mono ae.out.2.1);have aE:d.heap.size<=w1.heap.size:=Nat.le_trans ab I.size;have aS:=hid I;clear aB aJ I)
      | (refine zan _ rfl (.tmp 37) (.tmp 39) 36 3 8 rfl intT d.heap.size (.slice A8 n.keys.length c8) n.keys rfl l _ _ ic n.items rfl am aU aE ?_;intro v2 w2 p av az;obtain⟨A9,c9,aC,_⟩:=p.form;rw[List.length_append]at aC;subst aC;have aL:Hid (OwnRow intL w2 d.heap.size 3 (.slice A9 (n.keys.length+n.items.length) c9) (n.keys++n.items)/\Below d.heap.size d w2):=hid ⟨p,(below_drewN ((Below.refl _ _).alloc (Nat.le_refl _) _) 1).trans (aS.out.trans (l.grown_below av aE))⟩;clear p av az))
     all_goals
      go_wp2;go_meet;exact⟨A9,c9,rfl,aL⟩
    case rest=>
     obtain⟨A2,c2,rfl,HN⟩:=hcut;have aQ:Hid (RB w wc gc m (.slice (some G) L.length c1) L):=hid (O.out.1.later HN.out.2);have ak:Hid ((Value.slice A2 (n.keys.length+n.items.length) c2).ownBlock=none\/(Value.slice A2 (n.keys.length+n.items.length) c2).ownBlock≠(Value.slice (some G) L.length c1).ownBlock):=hid (zq5 HN.out.1 O.out.1.own);have ar:Hid (OwnRow intL wc (w.heap.size+2) 3 (.slice A2 (n.keys.length+n.items.length) c2) (n.keys++n.items)):=hid (HN.out.1.lower O.out.1.hd);obtain⟨J,P⟩:=ex (n.keys++n.items)
     obtain⟨q,Q⟩:=ex (n.keys.length+n.items.length)
     have hnn:J.length=q:=by rw[<-P,<-Q];simp
     have hnb:q<=2000:=by omega
     rw[Q,P]at ar;rw[Q]at ak;rw[P]at E;(try rw[Q]);clear HN P s3 s4;go_upto_region 10 with fail;go_loopw [6,10] (fun s6 s10 wr=>∃(k:Nat) (m:List Bool) (L:List Nat) (A1:Option Addr) (c1:Nat),k<=q/\s10=.int .i64 k/\s6=.slice A1 L.length c1/\Hid (RB w wr gc m (.slice A1 L.length c1) L/\Bfs (Gr.succ ns) ns.length a m L i (J.take k)/\L[i]? =some u/\OwnRow intL wr (w.heap.size+2) 3 (.slice A2 q c2) J/\((Value.slice A2 q c2).ownBlock=none\/(Value.slice A2 q c2).ownBlock≠(Value.slice A1 L.length c1).ownBlock))) (fun _ s10 _=>q-(intOf s10).toNat)
     case atStart=>exact⟨0,m,L,some G,c1,by omega,rfl,rfl,hid ⟨aQ.out,by simpa using O.out.2,HU.out,ar.out,ak.out⟩⟩
     case round=>
      obtain⟨k,M,o,A3,c3,hk,rfl,rfl,f⟩:=hrel;by_cases hlk:k<q
      .have aA:(k:Int)<(q:Int):=by omega
       have C:k<J.length:=by omega
       obtain⟨x,hx⟩:=ex (J[k])
       obtain⟨B,rfl,hb3,y0⟩:=zaf (zd4 f.out.2.2.2.1).1 C;rw[hx]at y0;have aR:x<ns.length:=E.out.2 x (by rw[<-hx];exact List.getElem_mem C);have hxI:(x:Int)<(ns.length:Int):=by omega
       have aX:Hid (x∈Gr.succ ns u):=hid (by rw[E.out.1,<-hx];exact List.getElem_mem C);have ax:Hid (J.take (k+1)=J.take k++[x]):=hid (by rw[List.take_succ_eq_append_getElem C,hx]);have aP:=f.out.2.1.ml;obtain⟨b,hb⟩:=ex (M.getD x false)
       have z0:wr.cell? ⟨w.heap.size+1,x,none⟩=some (.bool b):=by rw[f.out.1.met.cell,zae (by omega),hb]
       have zf:∀j,wr.frozen? ⟨w.heap.size+1,j,none⟩=false:=f.out.1.met.frozen;have hkb:k<=2000:=by omega
       clear aP;cases b with
       |true=>
        have an:Hid (Bfs (Gr.succ ns) ns.length a M o i (J.take (k+1))):=hid (by rw[ax.out];exact f.out.2.1.old hb);clear hb;go_wp2;go_roundw
        case rel=>exact⟨k+1,M,o,A3,c3,by omega,by go_num,rfl,hid ⟨f.out.1,an.out,f.out.2.2⟩⟩
        case measure=>simp[intOf];omega
       |false=>
        have aj:Hid (Bfs (Gr.succ ns) ns.length a (M.set x true) (o++[x]) i (J.take (k+1))):=hid (by rw[ax.out];exact f.out.2.1.new f.out.2.2.1 aX.out aR hb);obtain⟨wm,R⟩:=ex (wr.setCell ⟨w.heap.size+1,x,none⟩ (.bool true))
        have HM:Hid (RB w wm gc (M.set x true) (.slice A3 o.length c3) o/\OwnRow intL wm (w.heap.size+2) 3 (.slice (some B) q c2) J):=hid ⟨by rw[<-R];exact f.out.1.mark x true,by rw[<-R];exact f.out.2.2.2.1.setCell (fun e=>absurd (f.out.2.2.2.1.lt _ e).1 (by simp)) _⟩;have y1:wm.cell? (B.add k)=some (.int .i64 x):=by
         obtain⟨ad4,e4,_,y4⟩:=zaf (zd4 HM.out.2).1 C;injection e4 with e4
         subst e4;rw[hx]at y4;exact y4
        have T:Hid (o.length+1<=1001/\w.heap.size+2<=wm.heap.size):=hid ⟨by have:=f.out.2.1.len_le;omega,HM.out.1.hd⟩;clear hb hx;go_upto_region 14 with fail;(try rw[R]);clear R z0 zf y0;go_wp2_with (at_builtin;go_must (refine zaa _ rfl (.tmp 61) (.tmp 66) 36 3 8 rfl intT (w.heap.size+2) (.slice A3 o.length c3) o rfl (HM.out.1.own.alloc _) _ _ 1 [x] rfl (RowAt.lit1 _ _ rfl _ ?_) ?_ ?_ ?_))
        any_goals (first|rfl| (have:=T.out;omega)| (have:=T.out;simp;omega)| (rw[World.size_alloc];have:=T.out;omega))
        intro v' w5 F hg aF;have aa:Hid (RB w w5 gc (M.set x true) v' (o++[x])/\OwnRow intL w5 (w.heap.size+2) 3 (.slice (some B) q c2) J/\((Value.slice (some B) q c2).ownBlock=none\/(Value.slice (some B) q c2).ownBlock≠v'.ownBlock)):=hid ⟨(HM.out.1.alloc _).grown F hg,World.ownsRow.kept (HM.out.2.alloc _) hg f.out.2.2.2.2,zts f.out.2.2.2.2 (HM.out.2.alloc (.cells #[.int .i64 x] 3)) (by rw[World.size_alloc];exact aF)⟩;have aI:Hid ((o++[x])[i]? =some u):=hid (by
         have h1:=f.out.2.2.1;rw[List.getElem?_append_left]
         .exact h1
         .rcases Nat.lt_or_ge i o.length with h2|h2
          .exact h2
          .rw[List.getElem?_eq_none h2]at h1;cases h1)
        obtain⟨A5,c5,aG,_⟩:=F.form;obtain⟨L5,aH⟩:=ex (o++[x])
        rw[aH]at aj aa aI aG;subst aG;clear F hg aF aH;go_wp2;go_roundw
        case rel=>exact⟨k+1,M.set x true,L5,A5,c5,by omega,by go_num,rfl,hid ⟨aa.out.1,aj.out,aI.out,aa.out.2⟩⟩
        case measure=>simp[intOf];omega
      .have aA:¬(k:Int)<(q:Int):=by omega
       have HE:Hid (RB w wr gc M (.slice A3 o.length c3) o/\Bfs (Gr.succ ns) ns.length a M o (i+1) []):=hid ⟨f.out.1,f.out.2.1.next f.out.2.2.1 (by rw[E.out.1,List.take_of_length_le (by omega)])⟩;have aV:i+1<=o.length:=by
        have h1:=f.out.2.2.1;rcases Nat.lt_or_ge i o.length with h2|h2
        .exact h2
        .rw[List.getElem?_eq_none h2]at h1;cases h1
       have hln:=f.out.2.1.len_le;have hib:i<=2000:=by omega
       go_wp2;go_roundw
       case rel=>exact⟨i+1,M,o,A3,c3,aV,by go_num,rfl,HE⟩
       case measure=>simp[intOf];omega
  .have ay:¬(i:Int)<(L.length:Int):=by omega
   have HE:Hid (m=marks ns a):=hid (t.out.2.marks hr ha (by omega));go_wp2;go_ret;exact⟨w.heap.size+1,rfl,by omega,t.out.1.below,by rw[<-HE.out];exact t.out.1.met⟩
end Go.Proofs.YtpgmfihonmoliaaGreatDoor
