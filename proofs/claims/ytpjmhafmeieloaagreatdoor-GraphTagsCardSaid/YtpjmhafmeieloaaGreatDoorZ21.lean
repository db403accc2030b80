import Derived.Test.YtpjmhafmeieloaaGreatDoorGrRefF
import Derived.Test.YtpjmhafmeieloaaGreatDoorZ17
import Derived.Test.YtpjmhafmeieloaaGreatDoorZ11
import Derived.Test.YtpjmhafmeieloaaGreatDoorGrUtfR
namespace Go.Proofs.YtpjmhafmeieloaaGreatDoor
open Gr
open _root_.Go.Proofs.Tryz
open _root_.Go.Lib (hid)
set_option maxRecDepth 100000
set_option maxHeartbeats 16000000
open Go.RowKit
noncomputable def sclX (kind:Int) (text:Gr.Str):Bool:=
 if kind=0 then text.isEmpty else if kind=1 then(decide (text=[116,114,117,101]) || decide (text=[102,97,108,115,101]))
 else if kind=2 then intB text else if kind=3 then(readP text).isSome else if kind=4 then fltP text else if kind=5 then utfB text
 else if kind=6 then true else if kind=7 then insB text else if kind=8 then locB text else false
theorem za5 (k:Int) (t:Gr.Str) (h:sclX k t=true):0<=k/\k<=8:=by
 unfold sclX at h;by_cases h0:k=0
 .omega
 by_cases h1:k=1
 .omega
 by_cases h2:k=2
 .omega
 by_cases h3:k=3
 .omega
 by_cases h4:k=4
 .omega
 by_cases h5:k=5
 .omega
 by_cases h6:k=6
 .omega
 by_cases h7:k=7
 .omega
 by_cases h8:k=8
 .omega
 simp[h0,h1,h2,h3,h4,h5,h6,h7,h8]at h
theorem zuu (t:Gr.Str):sclX 0 t=t.isEmpty:=rfl
theorem zuv (t:Gr.Str):sclX 1 t=(decide (t=[116,114,117,101]) || decide (t=[102,97,108,115,101])):=rfl
theorem zuw (t:Gr.Str):sclX 2 t=intB t:=rfl
theorem zux (t:Gr.Str):sclX 3 t=(readP t).isSome:=rfl
theorem zuy (t:Gr.Str):sclX 4 t=fltP t:=rfl
theorem zuz (t:Gr.Str):sclX 5 t=utfB t:=rfl
theorem zu0 (t:Gr.Str):sclX 6 t=true:=rfl
theorem zu1 (t:Gr.Str):sclX 7 t=insB t:=rfl
theorem zu2 (t:Gr.Str):sclX 8 t=locB t:=rfl
theorem zu3 (k:Int) (t:Gr.Str) (h:k<0\/8<k):sclX k t=false:=by
 cases hs:sclX k t with
 |false=>rfl
 |true=>have:=za5 k t hs;omega
theorem znp (kind:Int) (text:Gr.Str) (h:kind<0\/8<kind):ScalOk UT kind text false:=by
 intro w a;have h0:(kind==0)=false:=by rw[beq_eq_false_iff_ne];omega
 have h1:(kind==1)=false:=by rw[beq_eq_false_iff_ne];omega
 have h2:(kind==2)=false:=by rw[beq_eq_false_iff_ne];omega
 have h3:(kind==3)=false:=by rw[beq_eq_false_iff_ne];omega
 have h4:(kind==4)=false:=by rw[beq_eq_false_iff_ne];omega
 have h5:(kind==5)=false:=by rw[beq_eq_false_iff_ne];omega
 have h6:(kind==6)=false:=by rw[beq_eq_false_iff_ne];omega
 have h7:(kind==7)=false:=by rw[beq_eq_false_iff_ne];omega
 have h8:(kind==8)=false:=by rw[beq_eq_false_iff_ne];omega
 clear a h;go_enter func22,ntmps22;go_wp2;go_ret;exact⟨rfl,Below.refl _ _⟩
theorem zu4 (kind:Int) (text:Gr.Str) (hl:text.length<=268435455):ScalOk UT kind text (sclX kind text):=by
 have a:text.length<=1073741823:=by omega
 by_cases h:kind<0\/8<kind
 .rw[zu3 _ _ h];exact znp _ _ h
 .have b:kind=0\/kind=1\/kind=2\/kind=3\/kind=4\/kind=5\/kind=6\/kind=7\/kind=8:=by omega
  rcases b with rfl|rfl|rfl|rfl|rfl|rfl|rfl|rfl|rfl
  .rw[zuu];exact zik text
  .rw[zuv];exact zri text
  .rw[zuw];exact zep text a
  .rw[zux];exact ztr text a
  .rw[zuy];exact ztc text a
  .rw[zuz];exact zff text a
  .rw[zu0];exact zng text
  .rw[zu1];exact ztn text a
  .rw[zu2];exact ztm text a
def RScal (kind:Int) (text:Gr.Str) (r:Bool):Prop:=∀w,Calls prog 61 #[.int .i64 kind,.string ⟨text.toArray⟩] w fun e w'=>e=.returned (.bool r)/\Below w.heap.size w w'
theorem zw2 (text:Gr.Str):RScal 0 text text.isEmpty:=by
 intro w;have ht:=zg0 text;go_enter func61,ntmps61;go_wp2;go_ret;exact⟨rfl,Below.refl _ _⟩
theorem zw3 (text:Gr.Str):RScal 1 text (decide (text=[116,114,117,101]) || decide (text=[102,97,108,115,101])):=by
 intro w;by_cases h1:text=[116,114,117,101]
 .subst h1;go_enter func61,ntmps61;go_wp2;go_ret;exact⟨rfl,Below.refl _ _⟩
 .have hb1:(text==[116,114,117,101])=false:=by rw[beq_eq_false_iff_ne];exact h1
  by_cases h2:text=[102,97,108,115,101]
  .subst h2;go_enter func61,ntmps61;go_wp2;go_ret;exact⟨rfl,Below.refl _ _⟩
  .have hb2:(text==[102,97,108,115,101])=false:=by rw[beq_eq_false_iff_ne];exact h2
   have a:Hid ((decide (text=[116,114,117,101]) || decide (text=[102,97,108,115,101]))=false):=hid (by simp[h1,h2]);rw[a.out];clear h1 h2;go_enter func61,ntmps61;go_wp2;go_ret;exact⟨rfl,Below.refl _ _⟩
theorem zw4 (text:Gr.Str) (hl:text.length<=268435455):RScal 2 text (intB text):=by
 intro w;have a:=hid (zge text (by omega) w);obtain⟨r,c⟩:=ex (intB text)
 rw[c]at a ⊢;clear c;go_enter func61,ntmps61;go_wp2_with fail;refine a.out.mono ?_;rintro e d ⟨rfl,b⟩;have f:=hid (b▸Below.refl _ _:Below w.heap.size w d);clear b;go_wp2;go_ret;exact⟨rfl,f.out⟩
theorem zw5 (text:Gr.Str) (hl:text.length<=268435455):RScal 3 text (readP text).isSome:=by
 intro w;have a:=hid (zrh text hl w);rw[zvg];obtain⟨r,f⟩:=ex ((readR text).isSome)
 rw[f]at a ⊢;clear f;unfold zb9 at a;go_enter func61,ntmps61;go_wp2_with fail;refine a.out.mono ?_;rintro e w2 ⟨n,A,l,c,x,rfl,b⟩;have d:=hid b;clear b;go_wp2;go_ret;exact⟨rfl,d.out.alloc d.out.size _⟩
theorem zw6 (text:Gr.Str) (hl:text.length<=268435455):RScal 4 text (fltP text):=by
 intro w;have f:=hid (zsw text (by omega) w);rw[zxn];obtain⟨r,i⟩:=ex (fltR text)
 rw[i]at f ⊢;clear i;unfold OfF at f;go_enter func61,ntmps61;go_wp2_with fail;refine f.out.mono ?_;rintro e w2 ⟨⟨a,b,c,d,rfl⟩,g⟩;have h:=hid g;clear g;go_wp2;go_ret;exact⟨rfl,h.out.alloc h.out.size _⟩
theorem zw7 (text:Gr.Str) (hl:text.length<=268435455):RScal 5 text (utfB text):=by
 intro w;obtain⟨r,a⟩:=ex (utfB text)
 have c:=hid (Utf.zyp text (by omega) w r (by rw[<-a];unfold utfB;cases Utf.bad text<;>rfl));rw[a];clear a;go_enter func61,ntmps61;go_wp2_with fail;refine c.out.mono ?_;rintro e w2 ⟨rfl,b⟩;have d:=hid b;clear b;go_wp2;go_ret;exact⟨rfl,d.out⟩
theorem zw8 (text:Gr.Str):RScal 6 text true:=by
 intro w;go_enter func61,ntmps61;go_wp2;go_ret;exact⟨rfl,Below.refl _ _⟩
theorem zw9 (text:Gr.Str) (hl:text.length<=268435455):RScal 7 text (insB text):=by
 intro w;have a:=hid (zi2 text (by omega) w);obtain⟨r,c⟩:=ex (insB text)
 rw[c]at a ⊢;clear c;go_enter func61,ntmps61;go_wp2_with fail;refine a.out.mono ?_;rintro e w2 ⟨rfl,b⟩;have d:=hid b;clear b;go_wp2;go_ret;exact⟨rfl,d.out⟩
theorem zxa (text:Gr.Str) (hl:text.length<=268435455):RScal 8 text (locB text):=by
 intro w;have a:=hid (znb text (by omega) w);obtain⟨r,c⟩:=ex (locB text)
 rw[c]at a ⊢;clear c;go_enter func61,ntmps61;go_wp2_with fail;refine a.out.mono ?_;rintro e w2 ⟨rfl,b⟩;have d:=hid b;clear b;go_wp2;go_ret;exact⟨rfl,d.out⟩
theorem zke (kind:Int) (text:Gr.Str) (h:kind<0\/8<kind):RScal kind text false:=by
 intro w;have h0:(kind==0)=false:=by rw[beq_eq_false_iff_ne];omega
 have h1:(kind==1)=false:=by rw[beq_eq_false_iff_ne];omega
 have h2:(kind==2)=false:=by rw[beq_eq_false_iff_ne];omega
 have h3:(kind==3)=false:=by rw[beq_eq_false_iff_ne];omega
 have h4:(kind==4)=false:=by rw[beq_eq_false_iff_ne];omega
 have h5:(kind==5)=false:=by rw[beq_eq_false_iff_ne];omega
 have h6:(kind==6)=false:=by rw[beq_eq_false_iff_ne];omega
 have h7:(kind==7)=false:=by rw[beq_eq_false_iff_ne];omega
 have h8:(kind==8)=false:=by rw[beq_eq_false_iff_ne];omega
 clear h;go_enter func61,ntmps61;go_wp2;go_ret;exact⟨rfl,Below.refl _ _⟩
theorem zxb (kind:Int) (text:Gr.Str) (hl:text.length<=268435455):RScal kind text (sclX kind text):=by
 by_cases h:kind<0\/8<kind
 .rw[zu3 _ _ h];exact zke _ _ h
 .have a:kind=0\/kind=1\/kind=2\/kind=3\/kind=4\/kind=5\/kind=6\/kind=7\/kind=8:=by omega
  rcases a with rfl|rfl|rfl|rfl|rfl|rfl|rfl|rfl|rfl
  .rw[zuu];exact zw2 text
  .rw[zuv];exact zw3 text
  .rw[zuw];exact zw4 text hl
  .rw[zux];exact zw5 text hl
  .rw[zuy];exact zw6 text hl
  .rw[zuz];exact zw7 text hl
  .rw[zu0];exact zw8 text
  .rw[zu1];exact zw9 text hl
  .rw[zu2];exact zxa text hl
theorem zi9 (s:Gr.Str) (hs:s.length<=1073741823) (w:World):Calls prog 17 #[.string ⟨s.toArray⟩] w fun e w'=>e=.returned (.bool (nameB s))/\w'=w:=by
 have k:Hid (∀r:Bool,r=nameB s↔r=(s.all nameC && decide (1<=s.length) && decide (s.length<=64))):=hid (fun r=>by
  have:nameB s=(s.all nameC && decide (1<=s.length) && decide (s.length<=64)):=rfl;rw[this])
 go_enter func17,ntmps17;go_upto_region 2 with fail;go_loop [3] (fun x=>∃i:Nat,i<=s.length/\x=.int .i64 i/\Hid ((s.take i).all nameC=true)) (fun i=>s.length-(intOf i).toNat)
 case atStart=>exact⟨0,by omega,rfl,hid (by simp)⟩
 case round=>
  obtain⟨i,hi,rfl,q⟩:=hrel;by_cases hil:i<s.length
  .have d:(i:Int)<(s.length:Int):=by omega
   obtain⟨c,f⟩:=ex (s[i])
   have q0:=byte_at s i hil c f;have hbd:c.toNat<256:=c.toNat_lt;have hn:=zia c;have j:Hid ((s.take (i+1)).all nameC=nameC c):=hid (by rw[List.take_succ_eq_append_getElem hil,List.all_append,q.out,f];simp);by_cases hy:nameC c=true
   .have n:Hid ((s.take (i+1)).all nameC=true):=hid (by rw[j.out,hy]);have hn:=hn.1 hy;clear hy j f;rcases hn with hn|hn|hn|hn|hn|hn|hn
    all_goals
     go_wp2;go_round
     case rel=>exact⟨i+1,by omega,by go_num,n⟩
     case measure=>simp[intOf];omega
   .have a:Hid (nameB s=false):=hid (by
     have b:(s.take (i+1)).all nameC=false:=by rw[j.out];simpa using hy
     have g:s.all nameC=false:=by
      cases e:s.all nameC with
      |false=>rfl
      |true=>
       rw[List.all_eq_true]at e;rw[List.all_eq_false]at b;obtain⟨x,B,o⟩:=b;exact absurd (e x (List.mem_of_mem_take B)) o
     exact((k.out false).2 (by rw[g];rfl)).symm)
    have hn:=fun h=>hy (hn.2 h)
    have u:¬(97<=c.toNat/\c.toNat<=122):=fun h=>hn (.inl h)
    have y:¬(65<=c.toNat/\c.toNat<=90):=fun h=>hn (.inr (.inl h))
    have A:¬(48<=c.toNat/\c.toNat<=57):=fun h=>hn (.inr (.inr (.inl h)))
    have z:¬(c.toNat=95):=fun h=>hn (.inr (.inr (.inr (.inl h))))
    have t:¬(c.toNat=45):=fun h=>hn (.inr (.inr (.inr (.inr (.inl h)))))
    have v:¬(c.toNat=46):=fun h=>hn (.inr (.inr (.inr (.inr (.inr (.inl h))))))
    have D:¬(c.toNat=58):=fun h=>hn (.inr (.inr (.inr (.inr (.inr (.inr h))))))
    clear hn hy f j;have m:c.toNat<45\/c.toNat=47\/(59<=c.toNat/\c.toNat<=64)\/(91<=c.toNat/\c.toNat<=94)\/c.toNat=96\/122<c.toNat:=by omega
    have e4:((c.toNat:Int)==95)=false:=by simp;omega
    have e5:((c.toNat:Int)==45)=false:=by simp;omega
    have e6:((c.toNat:Int)==46)=false:=by simp;omega
    have e7:((c.toNat:Int)==58)=false:=by simp;omega
    clear u y A z t v D;rcases m with hn|hn|hn|hn|hn|hn
    all_goals
     go_wp2_with fail
     all_goals first
      | (go_ret;exact⟨by rw[a.out]<;>rfl,rfl⟩)
      | (exfalso;rename_i h;(try simp only[Bool.not_eq_false',decide_eq_true_eq]at h);first|omega| (simp at h;omega))
  .have d:¬((i:Int)<(s.length:Int)):=by omega
   have C:Hid (s.all nameC=true):=hid (by have:=q.out;rwa[List.take_of_length_le (by omega)]at this);by_cases b:1<=s.length
   .have l:(1:Int)<=(s.length:Int):=by omega
    by_cases g:s.length<=64
    .have p:(s.length:Int)<=64:=by omega
     have a:Hid (nameB s=true):=hid ((k.out true).2 (by rw[C.out];simp[b,g])).symm;go_wp2;go_ret;exact⟨by rw[a.out]<;>rfl,rfl⟩
    .have p:¬((s.length:Int)<=64):=by omega
     have a:Hid (nameB s=false):=hid ((k.out false).2 (by simp[g])).symm;go_wp2;go_ret;exact⟨by rw[a.out]<;>rfl,rfl⟩
   .have l:¬((1:Int)<=(s.length:Int)):=by omega
    have a:Hid (nameB s=false):=hid ((k.out false).2 (by simp[b])).symm;go_wp2;go_ret;exact⟨by rw[a.out]<;>rfl,rfl⟩
theorem zrm (kind:Int) (text:Gr.Str) (ord:Bool) (keys items:List Int) (ka ia:Option Addr) (kc ic n B:Nat) (_hn:n<=1073741823) (htl:text.length<=268435455) (hkl:keys.length<=1073741823) (hil:items.length<=1073741823)
 (w:World) (hB:B<=w.heap.size) (hk:RowAt intI w B ka keys) (hi:RowAt intI w B ia items):
 Calls prog 44 #[.agg #[.int .i64 kind,.string ⟨text.toArray⟩,.bool ord,.slice ka keys.length kc,.slice ia items.length ic],.int .i64 n] w fun e w'=>e=.returned (.bool (rform sclX n ⟨kind,text,ord,keys,items⟩))/\Below w.heap.size w w':=by
 obtain⟨A,p⟩:=ex (w.alloc (.cells #[.int .i64 kind,.string ⟨text.toArray⟩,.bool ord,.slice ka keys.length kc,.slice ia items.length ic] 36))
 have F:Below w.heap.size w A:=by rw[<-p];exact(Below.refl _ _).alloc (Nat.le_refl _) _
 have S:Blk A w.heap.size 36 #[.int .i64 kind,.string ⟨text.toArray⟩,.bool ord,.slice ka keys.length kc,.slice ia items.length ic]:=by rw[<-p];exact Blk.new _ _ _
 obtain⟨s0,s1,s2,s3,s4⟩:=cells5 S;have d:=hid F;have Q:Hid (RowAt intI A B ka keys):=hid (hk.below (F.mono hB));have P:Hid (RowAt intI A B ia items):=hid (hi.below (F.mono hB));have g:Hid ((items.all (inR n)=false\/keys.all (inR n)=false)->rform sclX n ⟨kind,text,ord,keys,items⟩=false):=hid (fun h=>by
  unfold rform;rw[if_pos];rcases h with h|h
  .show(items.all (inR n) && keys.all (inR n))=false;rw[h];rfl
  .show(items.all (inR n) && keys.all (inR n))=false;rw[h,Bool.and_false])
 have L:=zg0 text;clear F S hk hi hB;go_enter func44,ntmps44;go_upto_region 1 with fail;(try rw[p]);clear p;go_upto_region 2 with fail;go_loop [5] (fun x=>∃i:Nat,i<=items.length/\x=.int .i64 i/\Hid ((items.take i).all (inR n)=true)) (fun i=>items.length-(intOf i).toNat)
 case atStart=>exact⟨0,by omega,rfl,hid (by simp)⟩
 case round=>
  obtain⟨i,H,rfl,c⟩:=hrel;by_cases hlt:i<items.length
  .have m:(i:Int)<(items.length:Int):=by omega
   obtain⟨x,s⟩:=ex (items[i])
   obtain⟨N,rfl,j,M⟩:=ze7 P.out hlt;rw[s]at M;have q:Hid ((items.take (i+1)).all (inR n)=(decide (0<=x) && decide (x<(n:Int)))):=hid (by rw[zb4 _ _ _ hlt,c.out,s];rfl);have o:Hid (inR n x=false->items.all (inR n)=false):=hid (fun h=>by
    rw[List.all_eq_false];exact⟨x,by rw[<-s];exact List.getElem_mem hlt,by rw[h];decide⟩)
   clear s j;by_cases h1:0<=x
   .have t:¬x<0:=by omega
    by_cases h2:x<(n:Int)
    .have u:¬(n:Int)<=x:=by omega
     have v:Hid ((items.take (i+1)).all (inR n)=true):=hid (by rw[q.out];simp[h1,h2]);clear c q o;go_wp2;go_round
     case rel=>exact⟨i+1,by omega,by go_num,v⟩
     case measure=>simp[intOf];omega
    .have u:(n:Int)<=x:=by omega
     have a:Hid (items.all (inR n)=false):=hid (o.out (by simp[inR,h2]));clear c q o;go_wp2;go_ret;exact⟨by rw[g.out (by exact .inl a.out)]<;>rfl,d.out⟩
   .have t:x<0:=by omega
    have a:Hid (items.all (inR n)=false):=hid (o.out (by simp[inR];omega));clear c q o;go_wp2;go_ret;exact⟨by rw[g.out (by exact .inl a.out)]<;>rfl,d.out⟩
  .have m:¬((i:Int)<(items.length:Int)):=by omega
   have E:Hid (items.all (inR n)=true):=hid (by have:=c.out;rwa[List.take_of_length_le (by omega)]at this);clear c;go_upto_region 7 with fail;go_loop [6] (fun x=>∃i:Nat,i<=keys.length/\x=.int .i64 i/\Hid ((keys.take i).all (inR n)=true)) (fun i=>keys.length-(intOf i).toNat)
   case atStart=>exact⟨0,by omega,rfl,hid (by simp)⟩
   case round=>
    obtain⟨i,H,rfl,c⟩:=hrel;by_cases hlt:i<keys.length
    .have m:(i:Int)<(keys.length:Int):=by omega
     obtain⟨x,s⟩:=ex (keys[i])
     obtain⟨N,rfl,j,M⟩:=ze7 Q.out hlt;rw[s]at M;have q:Hid ((keys.take (i+1)).all (inR n)=(decide (0<=x) && decide (x<(n:Int)))):=hid (by rw[zb4 _ _ _ hlt,c.out,s];rfl);have o:Hid (inR n x=false->keys.all (inR n)=false):=hid (fun h=>by
      rw[List.all_eq_false];exact⟨x,by rw[<-s];exact List.getElem_mem hlt,by rw[h];decide⟩)
     clear s j;by_cases h1:0<=x
     .have t:¬x<0:=by omega
      by_cases h2:x<(n:Int)
      .have u:¬(n:Int)<=x:=by omega
       have v:Hid ((keys.take (i+1)).all (inR n)=true):=hid (by rw[q.out];simp[h1,h2]);clear c q o;go_wp2;go_round
       case rel=>exact⟨i+1,by omega,by go_num,v⟩
       case measure=>simp[intOf];omega
      .have u:(n:Int)<=x:=by omega
       have a:Hid (keys.all (inR n)=false):=hid (o.out (by simp[inR,h2]));clear c q o;go_wp2;go_ret;exact⟨by rw[g.out (by exact .inr a.out)]<;>rfl,d.out⟩
     .have t:x<0:=by omega
      have a:Hid (keys.all (inR n)=false):=hid (o.out (by simp[inR];omega));clear c q o;go_wp2;go_ret;exact⟨by rw[g.out (by exact .inr a.out)]<;>rfl,d.out⟩
    .have m:¬((i:Int)<(keys.length:Int)):=by omega
     have D:Hid (keys.all (inR n)=true):=hid (by have:=c.out;rwa[List.take_of_length_le (by omega)]at this);clear c;have f:Hid (rform sclX n ⟨kind,text,ord,keys,items⟩=if kind≠10/\(ord=true\/0<keys.length)then false else if kind=9 then text.isEmpty else if kind=10 then text.isEmpty && decide (keys.length=items.length)
      else if kind=11 then decide (items.length=1) && nameB text else decide (items.length=0) && sclX kind text):=hid (by
      unfold rform;rw[if_neg];show¬(items.all (inR n) && keys.all (inR n))=false;rw[E.out,D.out];decide)
     clear E D g Q P;by_cases h10:kind=10
     .subst h10;cases he:text.isEmpty with
      |false=>
       rw[he]at L;have a:Hid (rform sclX n ⟨10,text,ord,keys,items⟩=false):=hid (by rw[f.out];simp[he]);go_wp2;go_ret;exact⟨by rw[a.out]<;>rfl,d.out⟩
      |true=>
       rw[he]at L;by_cases hki:keys.length=items.length
       .have k:((keys.length:Int)==(items.length:Int))=true:=by simp[hki]
        have h1:(keys.length:Int)=(items.length:Int):=by omega
        have a:Hid (rform sclX n ⟨10,text,ord,keys,items⟩=true):=hid (by rw[f.out];simp[he,hki]);clear hki;have H1:=hid h1;clear h1;go_wp2;go_ret;exact⟨by rw[a.out]<;>rfl,d.out⟩
       .have h1:¬((keys.length:Int)=(items.length:Int)):=by omega
        have k:((keys.length:Int)==(items.length:Int))=false:=by simp;omega
        have a:Hid (rform sclX n ⟨10,text,ord,keys,items⟩=false):=hid (by rw[f.out];simp[he,hki]);go_wp2;go_ret;exact⟨by rw[a.out]<;>rfl,d.out⟩
     .have h10b:(kind==10)=false:=by simpa using h10
      have h10n:(kind != 10)=true:=by simpa using h10
      cases ord with
      |true=>
       have a:Hid (rform sclX n ⟨kind,text,true,keys,items⟩=false):=hid (by rw[f.out];simp[h10]);go_wp2;go_ret;exact⟨by rw[a.out]<;>rfl,d.out⟩
      |false=>
       by_cases hk0:keys.length=0
       .have J:¬(0<(keys.length:Int)):=by omega
        have z:¬0<keys.length:=by omega
        have G:decide (0<keys.length)=false:=decide_eq_false z;have l:Hid (rform sclX n ⟨kind,text,false,keys,items⟩=if kind=9 then text.isEmpty else if kind=11 then decide (items.length=1) && nameB text else decide (items.length=0) && sclX kind text):=hid (by
         rw[f.out];simp[h10,hk0])
        clear f;by_cases h9:kind=9
        .subst h9;have a:Hid (rform sclX n ⟨9,text,false,keys,items⟩=text.isEmpty):=hid (by rw[l.out];rfl);obtain⟨b,T⟩:=ex text.isEmpty
         rw[T]at L a;go_wp2;go_ret;exact⟨by rw[a.out]<;>rfl,d.out⟩
        .have h9b:(kind==9)=false:=by simpa using h9
         by_cases h11:kind=11
         .subst h11;by_cases h1:items.length=1
          .have k:((items.length:Int)==1)=true:=by simp[h1]
           have y:(items.length:Int)=1:=by omega
           have a:Hid (rform sclX n ⟨11,text,false,keys,items⟩=nameB text):=hid (by rw[l.out];simp[h1]);clear h1;go_wp2_with fail;refine(zi9 text (by omega) _).mono ?_;rintro e O ⟨rfl,I⟩;subst I;go_wp2;go_ret;exact⟨by rw[a.out]<;>rfl,d.out⟩
          .have k:((items.length:Int)==1)=false:=by simp;omega
           have y:¬((items.length:Int)=1):=by omega
           have a:Hid (rform sclX n ⟨11,text,false,keys,items⟩=false):=hid (by rw[l.out];simp[h1]);go_wp2;go_ret;exact⟨by rw[a.out]<;>rfl,d.out⟩
         .have h11b:(kind==11)=false:=by simpa using h11
          by_cases h1:items.length=0
          .have k:((items.length:Int)==0)=true:=by simp[h1]
           have y:(items.length:Int)=0:=by omega
           have a:Hid (rform sclX n ⟨kind,text,false,keys,items⟩=sclX kind text):=hid (by rw[l.out];simp[h9,h11,h1]);clear h1;have c:=hid (zxb kind text htl A);obtain⟨r,R⟩:=ex (sclX kind text)
           rw[R]at c a;clear R;go_wp2_with fail;refine c.out.mono ?_;rintro e O ⟨rfl,C⟩;have K:Hid (Below w.heap.size w O):=hid (d.out.trans (C.mono d.out.size));clear C;go_wp2;go_ret;exact⟨by rw[a.out]<;>rfl,K.out⟩
          .have k:((items.length:Int)==0)=false:=by rw[beq_eq_false_iff_ne];omega
           have y:¬((items.length:Int)=0):=by omega
           have a:Hid (rform sclX n ⟨kind,text,false,keys,items⟩=false):=hid (by rw[l.out];simp[h9,h11,h1]);go_wp2;go_ret;exact⟨by rw[a.out]<;>rfl,d.out⟩
       .have J:0<(keys.length:Int):=by omega
        have z:0<keys.length:=by omega
        have G:decide (0<keys.length)=true:=decide_eq_true z;have a:Hid (rform sclX n ⟨kind,text,false,keys,items⟩=false):=hid (by rw[f.out,if_pos ⟨h10,.inr (by omega)⟩]);go_wp2;go_ret;exact⟨by rw[a.out]<;>rfl,d.out⟩
end Go.Proofs.YtpjmhafmeieloaaGreatDoor
