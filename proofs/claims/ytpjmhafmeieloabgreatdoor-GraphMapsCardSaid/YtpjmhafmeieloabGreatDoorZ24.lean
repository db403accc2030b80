import Derived.Test.YtpjmhafmeieloabGreatDoorZ18
import Derived.Test.YtpjmhafmeieloabGreatDoorZ14
import Derived.Test.YtpjmhafmeieloabGreatDoorGrRefF
import Derived.Test.YtpjmhafmeieloabGreatDoorZ21
import Derived.Test.YtpjmhafmeieloabGreatDoorGrUtfR
namespace Go.Proofs.YtpjmhafmeieloabGreatDoor
open Gr
open _root_.Go.Proofs.Tryz
open _root_.Go.Lib (hid)
set_option maxRecDepth 100000
set_option maxHeartbeats 16000000
open Go.RowKit
theorem zp9 {s:Gr.Str} (h:Gr.rd s=none):(locP s).2=3:=by unfold locP;rw[h]
theorem zyb {x:Gr.Mo} (h:MoOk x):1<=moSh x:=by
 unfold moSh;rcases h.sh with⟨a,b⟩|⟨a,b,_⟩|⟨a,b,_⟩<;>rw[a,b]<;>decide
theorem zmr (s:Gr.Str) (hl:s.length<=1073741823) (w:World) (hT:UT w):
 Calls prog 41 #[.string ⟨s.toArray⟩] w fun e w'=>(∃n:Int,e=.returned (.int .i64 n)/\(n != 0)=locB s)/\Below w.heap.size w w':=by
 have i:=hid (zmq s hl w hT);have j:Hid (locB s=decide ((locP s).2=0/\(locP s).1=s)):=hid rfl;obtain⟨r,H⟩:=ex (locB s)
 rw[H]at j ⊢;have y:=hid (fun h=>zp9 (s:=s) h);have c:=hid (fun x (h:Gr.rd s=some x)=>And.intro (fun W=>zfc hl h W) (zp4 h));obtain⟨⟨l,k⟩,I⟩:∃p,locP s=p:=⟨_,rfl⟩
 rw[I]at i j y;obtain⟨m,d⟩:∃m:Int,(k:Int)=m:=⟨_,rfl⟩
 unfold zc7 at i;simp only[d]at i j;have D:=hid d;clear H I d hT;by_cases h0:m=0
 .subst h0;have t:((0:Int)==0)=true:=rfl;have G:((0:Int) != 0)=false:=rfl;by_cases hs:l=s
  .have g:(l==s)=true:=by rw[beq_iff_eq];exact hs
   have E:(l != s)=false:=by rw[bne,g];rfl
   have v:Hid (r=true):=hid (by rw[j.out];simp[hs];have:=D.out;omega);cases hrd:Gr.rd s with
   |none=>exact absurd (y.out hrd) (by have:=D.out;simp only;omega)
   |some x=>
    obtain⟨A,q⟩:=c.out x hrd;have u:=hid A;have F:=zyb q;obtain⟨sh,f⟩:=ex (moSh x)
    obtain⟨K,C⟩:∃K:Int,((x.z.toNat:Nat):Int)=K:=⟨_,rfl⟩
    rw[f,C]at u;rw[f]at F;clear hs hrd q A f C c y;go_enter func41,ntmps41;go_wp2_with fail;refine i.out.mono ?_;rintro e J ⟨rfl,a⟩;have b:=hid a;clear a;go_wp2_with fail;refine(u.out _).mono ?_;rintro e w2 ⟨rfl,B⟩;have o:=hid (b.out.trans (B.mono b.out.size));clear B;go_wp2;go_ret;exact⟨⟨_,rfl,by rw[v.out];simp;omega⟩,o.out.alloc o.out.size _⟩
  .have g:(l==s)=false:=by rw[beq_eq_false_iff_ne];exact hs
   have E:(l != s)=true:=by rw[bne,g];rfl
   have v:Hid (r=false):=hid (by rw[j.out];simp[hs]);clear hs c y;go_enter func41,ntmps41;go_wp2_with fail;refine i.out.mono ?_;rintro e J ⟨rfl,a⟩;have b:=hid a;clear a;go_wp2;go_ret;exact⟨⟨_,rfl,by rw[v.out];rfl⟩,b.out⟩
 .have t:(m==0)=false:=by simpa using h0
  have G:(m != 0)=true:=by rw[bne,t];rfl
  have v:Hid (r=false):=hid (by rw[j.out];simp;intro e;exact absurd (by have:=D.out;omega) h0);clear c y;go_enter func41,ntmps41;go_wp2_with fail;refine i.out.mono ?_;rintro e J ⟨rfl,a⟩;have b:=hid a;clear a;go_wp2;go_ret;exact⟨⟨_,rfl,by rw[v.out];rfl⟩,b.out⟩
theorem ztd (text:Gr.Str) (hl:text.length<=1073741823):ScalOk UT 8 text (locB text):=by
 intro w f;have g:=hid (zmr text hl w f);obtain⟨r,b⟩:=ex (locB text)
 rw[b]at g ⊢;clear b f;go_enter func22,ntmps22;go_wp2_with fail;refine g.out.mono ?_;rintro e w2 ⟨⟨n,rfl,d⟩,c⟩;have h:=hid c;have a:=hid d;clear c d;go_wp2;go_ret;exact⟨by rw[<-a.out];rfl,h.out⟩
theorem zte (text:Gr.Str) (hl:text.length<=1073741823):ScalOk UT 7 text (insB text):=by
 intro w q;have d:=hid (zil text hl w q);have f:Hid (insB text=decide ((insP text).2=0/\(insP text).1=text)):=hid rfl;obtain⟨r,m⟩:=ex (insB text)
 rw[m]at f ⊢;obtain⟨⟨l,k⟩,n⟩:∃p,insP text=p:=⟨_,rfl⟩
 rw[n]at d f;obtain⟨h,c⟩:∃h:Int,(k:Int)=h:=⟨_,rfl⟩
 unfold zc7 at d;simp only[c]at d f;have o:=hid c;clear m n c q;by_cases h0:h=0
 .subst h0;have i:((0:Int)==0)=true:=rfl;by_cases hs:l=text
  .have j:(l==text)=true:=by rw[beq_iff_eq];exact hs
   have g:Hid (r=true):=hid (by rw[f.out];simp[hs];have:=o.out;omega);clear hs;go_enter func22,ntmps22;go_wp2_with fail;refine d.out.mono ?_;rintro e s ⟨rfl,a⟩;have b:=hid a;clear a;go_wp2;go_ret;rw[g.out];exact⟨rfl,b.out⟩
  .have j:(l==text)=false:=by rw[beq_eq_false_iff_ne];exact hs
   have g:Hid (r=false):=hid (by rw[f.out];simp[hs]);clear hs;go_enter func22,ntmps22;go_wp2_with fail;refine d.out.mono ?_;rintro e s ⟨rfl,a⟩;have b:=hid a;clear a;go_wp2;go_ret;rw[g.out];exact⟨rfl,b.out⟩
 .have i:(h==0)=false:=by simpa using h0
  have g:Hid (r=false):=hid (by rw[f.out];simp;intro e;exact absurd (by have:=o.out;omega) h0);go_enter func22,ntmps22;go_wp2_with fail;refine d.out.mono ?_;rintro e s ⟨rfl,a⟩;have b:=hid a;clear a;go_wp2;go_ret;rw[g.out];exact⟨rfl,b.out⟩
noncomputable def sclX (kind:Int) (text:Gr.Str):Bool:=
 if kind=0 then text.isEmpty else if kind=1 then(decide (text=[116,114,117,101]) || decide (text=[102,97,108,115,101]))
 else if kind=2 then intB text else if kind=3 then(readP text).isSome else if kind=4 then fltP text else if kind=5 then utfB text
 else if kind=6 then true else if kind=7 then insB text else if kind=8 then locB text else false
theorem zcq (k:Int) (t:Gr.Str) (h:sclX k t=true):0<=k/\k<=8:=by
 unfold sclX at h;by_cases h0:k=0
 .omega
 by_cases h1:k=1
 .omega
 by_cases h2:k=2
 .omega
 by_cases h3:k=3
 .omega
 by_cases h4:k=4
 .omega
 by_cases h5:k=5
 .omega
 by_cases h6:k=6
 .omega
 by_cases h7:k=7
 .omega
 by_cases h8:k=8
 .omega
 simp[h0,h1,h2,h3,h4,h5,h6,h7,h8]at h
theorem zun (t:Gr.Str):sclX 0 t=t.isEmpty:=rfl
theorem zuo (t:Gr.Str):sclX 1 t=(decide (t=[116,114,117,101]) || decide (t=[102,97,108,115,101])):=rfl
theorem zup (t:Gr.Str):sclX 2 t=intB t:=rfl
theorem zuq (t:Gr.Str):sclX 3 t=(readP t).isSome:=rfl
theorem zur (t:Gr.Str):sclX 4 t=fltP t:=rfl
theorem zus (t:Gr.Str):sclX 5 t=utfB t:=rfl
theorem zut (t:Gr.Str):sclX 6 t=true:=rfl
theorem zuu (t:Gr.Str):sclX 7 t=insB t:=rfl
theorem zuv (t:Gr.Str):sclX 8 t=locB t:=rfl
theorem zuw (k:Int) (t:Gr.Str) (h:k<0\/8<k):sclX k t=false:=by
 cases hs:sclX k t with
 |false=>rfl
 |true=>have:=zcq k t hs;omega
theorem zm2 (kind:Int) (text:Gr.Str) (h:kind<0\/8<kind):ScalOk UT kind text false:=by
 intro w a;have h0:(kind==0)=false:=by rw[beq_eq_false_iff_ne];omega
 have h1:(kind==1)=false:=by rw[beq_eq_false_iff_ne];omega
 have h2:(kind==2)=false:=by rw[beq_eq_false_iff_ne];omega
 have h3:(kind==3)=false:=by rw[beq_eq_false_iff_ne];omega
 have h4:(kind==4)=false:=by rw[beq_eq_false_iff_ne];omega
 have h5:(kind==5)=false:=by rw[beq_eq_false_iff_ne];omega
 have h6:(kind==6)=false:=by rw[beq_eq_false_iff_ne];omega
 have h7:(kind==7)=false:=by rw[beq_eq_false_iff_ne];omega
 have h8:(kind==8)=false:=by rw[beq_eq_false_iff_ne];omega
 clear a h;go_enter func22,ntmps22;go_wp2;go_ret;exact⟨rfl,Below.refl _ _⟩
theorem zux (kind:Int) (text:Gr.Str) (hl:text.length<=268435455):ScalOk UT kind text (sclX kind text):=by
 have a:text.length<=1073741823:=by omega
 by_cases h:kind<0\/8<kind
 .rw[zuw _ _ h];exact zm2 _ _ h
 .have b:kind=0\/kind=1\/kind=2\/kind=3\/kind=4\/kind=5\/kind=6\/kind=7\/kind=8:=by omega
  rcases b with rfl|rfl|rfl|rfl|rfl|rfl|rfl|rfl|rfl
  .rw[zun];exact zir text
  .rw[zuo];exact zql text
  .rw[zup];exact zen text a
  .rw[zuq];exact zti text a
  .rw[zur];exact zs3 text a
  .rw[zus];exact zff text a
  .rw[zut];exact zmt text
  .rw[zuu];exact zte text a
  .rw[zuv];exact ztd text a
def RScal (kind:Int) (text:Gr.Str) (r:Bool):Prop:=∀w,Calls prog 63 #[.int .i64 kind,.string ⟨text.toArray⟩] w fun e w'=>e=.returned (.bool r)/\Below w.heap.size w w'
theorem zwn (text:Gr.Str):RScal 0 text text.isEmpty:=by
 intro w;have ht:=zg3 text;go_enter func63,ntmps63;go_wp2;go_ret;exact⟨rfl,Below.refl _ _⟩
theorem zwo (text:Gr.Str):RScal 1 text (decide (text=[116,114,117,101]) || decide (text=[102,97,108,115,101])):=by
 intro w;by_cases h1:text=[116,114,117,101]
 .subst h1;go_enter func63,ntmps63;go_wp2;go_ret;exact⟨rfl,Below.refl _ _⟩
 .have hb1:(text==[116,114,117,101])=false:=by rw[beq_eq_false_iff_ne];exact h1
  by_cases h2:text=[102,97,108,115,101]
  .subst h2;go_enter func63,ntmps63;go_wp2;go_ret;exact⟨rfl,Below.refl _ _⟩
  .have hb2:(text==[102,97,108,115,101])=false:=by rw[beq_eq_false_iff_ne];exact h2
   have a:Hid ((decide (text=[116,114,117,101]) || decide (text=[102,97,108,115,101]))=false):=hid (by simp[h1,h2]);rw[a.out];clear h1 h2;go_enter func63,ntmps63;go_wp2;go_ret;exact⟨rfl,Below.refl _ _⟩
theorem zwp (text:Gr.Str) (hl:text.length<=268435455):RScal 2 text (intB text):=by
 intro w;have c:=hid (zf2 text (by omega) w);obtain⟨r,a⟩:=ex (intB text)
 rw[a]at c ⊢;clear a;go_enter func63,ntmps63;go_wp2_with fail;refine c.out.mono ?_;rintro e d ⟨rfl,b⟩;have f:=hid (b▸Below.refl _ _:Below w.heap.size w d);clear b;go_wp2;go_ret;exact⟨rfl,f.out⟩
theorem zwq (text:Gr.Str) (hl:text.length<=268435455):RScal 3 text (readP text).isSome:=by
 intro w;have a:=hid (zqk text hl w);rw[zvf];obtain⟨r,b⟩:=ex ((readR text).isSome)
 rw[b]at a ⊢;clear b;unfold zb7 at a;go_enter func63,ntmps63;go_wp2_with fail;refine a.out.mono ?_;rintro e w2 ⟨n,A,l,c,x,rfl,d⟩;have f:=hid d;clear d;go_wp2;go_ret;exact⟨rfl,f.out.alloc f.out.size _⟩
theorem zwr (text:Gr.Str) (hl:text.length<=268435455):RScal 4 text (fltP text):=by
 intro w;have f:=hid (zsa text (by omega) w);rw[zxj];obtain⟨r,g⟩:=ex (fltR text)
 rw[g]at f ⊢;clear g;unfold OfF at f;go_enter func63,ntmps63;go_wp2_with fail;refine f.out.mono ?_;rintro e w2 ⟨⟨a,b,c,d,rfl⟩,h⟩;have i:=hid h;clear h;go_wp2;go_ret;exact⟨rfl,i.out.alloc i.out.size _⟩
theorem zws (text:Gr.Str) (hl:text.length<=268435455):RScal 5 text (utfB text):=by
 intro w;obtain⟨r,a⟩:=ex (utfB text)
 have c:=hid (Utf.zyd text (by omega) w r (by rw[<-a];unfold utfB;cases Utf.bad text<;>rfl));rw[a];clear a;go_enter func63,ntmps63;go_wp2_with fail;refine c.out.mono ?_;rintro e w2 ⟨rfl,b⟩;have d:=hid b;clear b;go_wp2;go_ret;exact⟨rfl,d.out⟩
theorem zwt (text:Gr.Str):RScal 6 text true:=by
 intro w;go_enter func63,ntmps63;go_wp2;go_ret;exact⟨rfl,Below.refl _ _⟩
theorem zwu (text:Gr.Str) (hl:text.length<=268435455):RScal 7 text (insB text):=by
 intro w;have c:=hid (zij text (by omega) w);obtain⟨r,a⟩:=ex (insB text)
 rw[a]at c ⊢;clear a;go_enter func63,ntmps63;go_wp2_with fail;refine c.out.mono ?_;rintro e w2 ⟨rfl,b⟩;have d:=hid b;clear b;go_wp2;go_ret;exact⟨rfl,d.out⟩
theorem zwv (text:Gr.Str) (hl:text.length<=268435455):RScal 8 text (locB text):=by
 intro w;have c:=hid (zmo text (by omega) w);obtain⟨r,a⟩:=ex (locB text)
 rw[a]at c ⊢;clear a;go_enter func63,ntmps63;go_wp2_with fail;refine c.out.mono ?_;rintro e w2 ⟨rfl,b⟩;have d:=hid b;clear b;go_wp2;go_ret;exact⟨rfl,d.out⟩
theorem zj5 (kind:Int) (text:Gr.Str) (h:kind<0\/8<kind):RScal kind text false:=by
 intro w;have h0:(kind==0)=false:=by rw[beq_eq_false_iff_ne];omega
 have h1:(kind==1)=false:=by rw[beq_eq_false_iff_ne];omega
 have h2:(kind==2)=false:=by rw[beq_eq_false_iff_ne];omega
 have h3:(kind==3)=false:=by rw[beq_eq_false_iff_ne];omega
 have h4:(kind==4)=false:=by rw[beq_eq_false_iff_ne];omega
 have h5:(kind==5)=false:=by rw[beq_eq_false_iff_ne];omega
 have h6:(kind==6)=false:=by rw[beq_eq_false_iff_ne];omega
 have h7:(kind==7)=false:=by rw[beq_eq_false_iff_ne];omega
 have h8:(kind==8)=false:=by rw[beq_eq_false_iff_ne];omega
 clear h;go_enter func63,ntmps63;go_wp2;go_ret;exact⟨rfl,Below.refl _ _⟩
theorem zww (kind:Int) (text:Gr.Str) (hl:text.length<=268435455):RScal kind text (sclX kind text):=by
 by_cases h:kind<0\/8<kind
 .rw[zuw _ _ h];exact zj5 _ _ h
 .have a:kind=0\/kind=1\/kind=2\/kind=3\/kind=4\/kind=5\/kind=6\/kind=7\/kind=8:=by omega
  rcases a with rfl|rfl|rfl|rfl|rfl|rfl|rfl|rfl|rfl
  .rw[zun];exact zwn text
  .rw[zuo];exact zwo text
  .rw[zup];exact zwp text hl
  .rw[zuq];exact zwq text hl
  .rw[zur];exact zwr text hl
  .rw[zus];exact zws text hl
  .rw[zut];exact zwt text
  .rw[zuu];exact zwu text hl
  .rw[zuv];exact zwv text hl
theorem zqy (s:Gr.Str) (hs:s.length<=1073741823) (w:World):Calls prog 62 #[.string ⟨s.toArray⟩] w fun e w'=>e=.returned (.bool (nameB s))/\w'=w:=by
 have g:Hid (∀r:Bool,r=nameB s↔r=(s.all nameC && decide (1<=s.length) && decide (s.length<=64))):=hid (fun r=>by
  have:nameB s=(s.all nameC && decide (1<=s.length) && decide (s.length<=64)):=rfl;rw[this])
 go_enter func62,ntmps62;go_upto_region 2 with fail;go_loop [3] (fun x=>∃i:Nat,i<=s.length/\x=.int .i64 i/\Hid ((s.take i).all nameC=true)) (fun i=>s.length-(intOf i).toNat)
 case atStart=>exact⟨0,by omega,rfl,hid (by simp)⟩
 case round=>
  obtain⟨i,hi,rfl,q⟩:=hrel;by_cases hil:i<s.length
  .have d:(i:Int)<(s.length:Int):=by omega
   obtain⟨c,f⟩:=ex (s[i])
   have q0:=byte_at s i hil c f;have hbd:c.toNat<256:=c.toNat_lt;have hn:=zhp c;have k:Hid ((s.take (i+1)).all nameC=nameC c):=hid (by rw[List.take_succ_eq_append_getElem hil,List.all_append,q.out,f];simp);by_cases hy:nameC c=true
   .have n:Hid ((s.take (i+1)).all nameC=true):=hid (by rw[k.out,hy]);have hn:=hn.1 hy;clear hy k f;rcases hn with hn|hn|hn|hn|hn|hn|hn
    all_goals
     go_wp2;go_round
     case rel=>exact⟨i+1,by omega,by go_num,n⟩
     case measure=>simp[intOf];omega
   .have a:Hid (nameB s=false):=hid (by
     have b:(s.take (i+1)).all nameC=false:=by rw[k.out];simpa using hy
     have j:s.all nameC=false:=by
      cases e:s.all nameC with
      |false=>rfl
      |true=>
       rw[List.all_eq_true]at e;rw[List.all_eq_false]at b;obtain⟨x,t,p⟩:=b;exact absurd (e x (List.mem_of_mem_take t)) p
     exact((g.out false).2 (by rw[j];rfl)).symm)
    have hn:=fun h=>hy (hn.2 h)
    have v:¬(97<=c.toNat/\c.toNat<=122):=fun h=>hn (.inl h)
    have D:¬(65<=c.toNat/\c.toNat<=90):=fun h=>hn (.inr (.inl h))
    have C:¬(48<=c.toNat/\c.toNat<=57):=fun h=>hn (.inr (.inr (.inl h)))
    have y:¬(c.toNat=95):=fun h=>hn (.inr (.inr (.inr (.inl h))))
    have u:¬(c.toNat=45):=fun h=>hn (.inr (.inr (.inr (.inr (.inl h)))))
    have A:¬(c.toNat=46):=fun h=>hn (.inr (.inr (.inr (.inr (.inr (.inl h))))))
    have B:¬(c.toNat=58):=fun h=>hn (.inr (.inr (.inr (.inr (.inr (.inr h))))))
    clear hn hy f k;have m:c.toNat<45\/c.toNat=47\/(59<=c.toNat/\c.toNat<=64)\/(91<=c.toNat/\c.toNat<=94)\/c.toNat=96\/122<c.toNat:=by omega
    have e4:((c.toNat:Int)==95)=false:=by simp;omega
    have e5:((c.toNat:Int)==45)=false:=by simp;omega
    have e6:((c.toNat:Int)==46)=false:=by simp;omega
    have e7:((c.toNat:Int)==58)=false:=by simp;omega
    clear v D C y u A B;rcases m with hn|hn|hn|hn|hn|hn
    all_goals
     go_wp2_with fail
     all_goals first
      | (go_ret;exact⟨by rw[a.out]<;>rfl,rfl⟩)
      | (exfalso;rename_i h;(try simp only[Bool.not_eq_false',decide_eq_true_eq]at h);first|omega| (simp at h;omega))
  .have d:¬((i:Int)<(s.length:Int)):=by omega
   have z:Hid (s.all nameC=true):=hid (by have:=q.out;rwa[List.take_of_length_le (by omega)]at this);by_cases b:1<=s.length
   .have o:(1:Int)<=(s.length:Int):=by omega
    by_cases j:s.length<=64
    .have l:(s.length:Int)<=64:=by omega
     have a:Hid (nameB s=true):=hid ((g.out true).2 (by rw[z.out];simp[b,j])).symm;go_wp2;go_ret;exact⟨by rw[a.out]<;>rfl,rfl⟩
    .have l:¬((s.length:Int)<=64):=by omega
     have a:Hid (nameB s=false):=hid ((g.out false).2 (by simp[j])).symm;go_wp2;go_ret;exact⟨by rw[a.out]<;>rfl,rfl⟩
   .have o:¬((1:Int)<=(s.length:Int)):=by omega
    have a:Hid (nameB s=false):=hid ((g.out false).2 (by simp[b])).symm;go_wp2;go_ret;exact⟨by rw[a.out]<;>rfl,rfl⟩
theorem zqz (kind:Int) (text:Gr.Str) (ord:Bool) (keys items:List Int) (ka ia:Option Addr) (kc ic n B:Nat) (_hn:n<=1073741823) (htl:text.length<=268435455) (hkl:keys.length<=1073741823) (hil:items.length<=1073741823)
 (w:World) (hB:B<=w.heap.size) (hk:RowAt intI w B ka keys) (hi:RowAt intI w B ia items):
 Calls prog 46 #[.agg #[.int .i64 kind,.string ⟨text.toArray⟩,.bool ord,.slice ka keys.length kc,.slice ia items.length ic],.int .i64 n] w fun e w'=>e=.returned (.bool (rform sclX n ⟨kind,text,ord,keys,items⟩))/\Below w.heap.size w w':=by
 obtain⟨C,q⟩:=ex (w.alloc (.cells #[.int .i64 kind,.string ⟨text.toArray⟩,.bool ord,.slice ka keys.length kc,.slice ia items.length ic] 40))
 have F:Below w.heap.size w C:=by rw[<-q];exact(Below.refl _ _).alloc (Nat.le_refl _) _
 have R:Blk C w.heap.size 40 #[.int .i64 kind,.string ⟨text.toArray⟩,.bool ord,.slice ka keys.length kc,.slice ia items.length ic]:=by rw[<-q];exact Blk.new _ _ _
 obtain⟨s0,s1,s2,s3,s4⟩:=cells5 R;have d:=hid F;have P:Hid (RowAt intI C B ka keys):=hid (hk.below (F.mono hB));have Q:Hid (RowAt intI C B ia items):=hid (hi.below (F.mono hB));have k:Hid ((items.all (inR n)=false\/keys.all (inR n)=false)->rform sclX n ⟨kind,text,ord,keys,items⟩=false):=hid (fun h=>by
  unfold rform;rw[if_pos];rcases h with h|h
  .show(items.all (inR n) && keys.all (inR n))=false;rw[h];rfl
  .show(items.all (inR n) && keys.all (inR n))=false;rw[h,Bool.and_false])
 have N:=zg3 text;clear F R hk hi hB;go_enter func46,ntmps46;go_upto_region 1 with fail;(try rw[q]);clear q;go_upto_region 2 with fail;go_loop [5] (fun x=>∃i:Nat,i<=items.length/\x=.int .i64 i/\Hid ((items.take i).all (inR n)=true)) (fun i=>items.length-(intOf i).toNat)
 case atStart=>exact⟨0,by omega,rfl,hid (by simp)⟩
 case round=>
  obtain⟨i,H,rfl,c⟩:=hrel;by_cases hlt:i<items.length
  .have g:(i:Int)<(items.length:Int):=by omega
   obtain⟨x,p⟩:=ex (items[i])
   obtain⟨J,rfl,o,L⟩:=ze3 Q.out hlt;rw[p]at L;have s:Hid ((items.take (i+1)).all (inR n)=(decide (0<=x) && decide (x<(n:Int)))):=hid (by rw[zb5 _ _ _ hlt,c.out,p];rfl);have l:Hid (inR n x=false->items.all (inR n)=false):=hid (fun h=>by
    rw[List.all_eq_false];exact⟨x,by rw[<-p];exact List.getElem_mem hlt,by rw[h];decide⟩)
   clear p o;by_cases h1:0<=x
   .have v:¬x<0:=by omega
    by_cases h2:x<(n:Int)
    .have z:¬(n:Int)<=x:=by omega
     have y:Hid ((items.take (i+1)).all (inR n)=true):=hid (by rw[s.out];simp[h1,h2]);clear c s l;go_wp2;go_round
     case rel=>exact⟨i+1,by omega,by go_num,y⟩
     case measure=>simp[intOf];omega
    .have z:(n:Int)<=x:=by omega
     have a:Hid (items.all (inR n)=false):=hid (l.out (by simp[inR,h2]));clear c s l;go_wp2;go_ret;exact⟨by rw[k.out (by exact .inl a.out)]<;>rfl,d.out⟩
   .have v:x<0:=by omega
    have a:Hid (items.all (inR n)=false):=hid (l.out (by simp[inR];omega));clear c s l;go_wp2;go_ret;exact⟨by rw[k.out (by exact .inl a.out)]<;>rfl,d.out⟩
  .have g:¬((i:Int)<(items.length:Int)):=by omega
   have D:Hid (items.all (inR n)=true):=hid (by have:=c.out;rwa[List.take_of_length_le (by omega)]at this);clear c;go_upto_region 7 with fail;go_loop [6] (fun x=>∃i:Nat,i<=keys.length/\x=.int .i64 i/\Hid ((keys.take i).all (inR n)=true)) (fun i=>keys.length-(intOf i).toNat)
   case atStart=>exact⟨0,by omega,rfl,hid (by simp)⟩
   case round=>
    obtain⟨i,H,rfl,c⟩:=hrel;by_cases hlt:i<keys.length
    .have g:(i:Int)<(keys.length:Int):=by omega
     obtain⟨x,p⟩:=ex (keys[i])
     obtain⟨J,rfl,o,L⟩:=ze3 P.out hlt;rw[p]at L;have s:Hid ((keys.take (i+1)).all (inR n)=(decide (0<=x) && decide (x<(n:Int)))):=hid (by rw[zb5 _ _ _ hlt,c.out,p];rfl);have l:Hid (inR n x=false->keys.all (inR n)=false):=hid (fun h=>by
      rw[List.all_eq_false];exact⟨x,by rw[<-p];exact List.getElem_mem hlt,by rw[h];decide⟩)
     clear p o;by_cases h1:0<=x
     .have v:¬x<0:=by omega
      by_cases h2:x<(n:Int)
      .have z:¬(n:Int)<=x:=by omega
       have y:Hid ((keys.take (i+1)).all (inR n)=true):=hid (by rw[s.out];simp[h1,h2]);clear c s l;go_wp2;go_round
       case rel=>exact⟨i+1,by omega,by go_num,y⟩
       case measure=>simp[intOf];omega
      .have z:(n:Int)<=x:=by omega
       have a:Hid (keys.all (inR n)=false):=hid (l.out (by simp[inR,h2]));clear c s l;go_wp2;go_ret;exact⟨by rw[k.out (by exact .inr a.out)]<;>rfl,d.out⟩
     .have v:x<0:=by omega
      have a:Hid (keys.all (inR n)=false):=hid (l.out (by simp[inR];omega));clear c s l;go_wp2;go_ret;exact⟨by rw[k.out (by exact .inr a.out)]<;>rfl,d.out⟩
    .have g:¬((i:Int)<(keys.length:Int)):=by omega
     have A:Hid (keys.all (inR n)=true):=hid (by have:=c.out;rwa[List.take_of_length_le (by omega)]at this);clear c;have f:Hid (rform sclX n ⟨kind,text,ord,keys,items⟩=if kind≠10/\(ord=true\/0<keys.length)then false else if kind=9 then text.isEmpty else if kind=10 then text.isEmpty && decide (keys.length=items.length)
      else if kind=11 then decide (items.length=1) && nameB text else decide (items.length=0) && sclX kind text):=hid (by
      unfold rform;rw[if_neg];show¬(items.all (inR n) && keys.all (inR n))=false;rw[D.out,A.out];decide)
     clear D A k P Q;by_cases h10:kind=10
     .subst h10;cases he:text.isEmpty with
      |false=>
       rw[he]at N;have a:Hid (rform sclX n ⟨10,text,ord,keys,items⟩=false):=hid (by rw[f.out];simp[he]);go_wp2;go_ret;exact⟨by rw[a.out]<;>rfl,d.out⟩
      |true=>
       rw[he]at N;by_cases hki:keys.length=items.length
       .have j:((keys.length:Int)==(items.length:Int))=true:=by simp[hki]
        have h1:(keys.length:Int)=(items.length:Int):=by omega
        have a:Hid (rform sclX n ⟨10,text,ord,keys,items⟩=true):=hid (by rw[f.out];simp[he,hki]);clear hki;have H1:=hid h1;clear h1;go_wp2;go_ret;exact⟨by rw[a.out]<;>rfl,d.out⟩
       .have h1:¬((keys.length:Int)=(items.length:Int)):=by omega
        have j:((keys.length:Int)==(items.length:Int))=false:=by simp;omega
        have a:Hid (rform sclX n ⟨10,text,ord,keys,items⟩=false):=hid (by rw[f.out];simp[he,hki]);go_wp2;go_ret;exact⟨by rw[a.out]<;>rfl,d.out⟩
     .have h10b:(kind==10)=false:=by simpa using h10
      have h10n:(kind != 10)=true:=by simpa using h10
      cases ord with
      |true=>
       have a:Hid (rform sclX n ⟨kind,text,true,keys,items⟩=false):=hid (by rw[f.out];simp[h10]);go_wp2;go_ret;exact⟨by rw[a.out]<;>rfl,d.out⟩
      |false=>
       by_cases hk0:keys.length=0
       .have G:¬(0<(keys.length:Int)):=by omega
        have t:¬0<keys.length:=by omega
        have I:decide (0<keys.length)=false:=decide_eq_false t;have m:Hid (rform sclX n ⟨kind,text,false,keys,items⟩=if kind=9 then text.isEmpty else if kind=11 then decide (items.length=1) && nameB text else decide (items.length=0) && sclX kind text):=hid (by
         rw[f.out];simp[h10,hk0])
        clear f;by_cases h9:kind=9
        .subst h9;have a:Hid (rform sclX n ⟨9,text,false,keys,items⟩=text.isEmpty):=hid (by rw[m.out];rfl);obtain⟨b,T⟩:=ex text.isEmpty
         rw[T]at N a;go_wp2;go_ret;exact⟨by rw[a.out]<;>rfl,d.out⟩
        .have h9b:(kind==9)=false:=by simpa using h9
         by_cases h11:kind=11
         .subst h11;by_cases h1:items.length=1
          .have j:((items.length:Int)==1)=true:=by simp[h1]
           have u:(items.length:Int)=1:=by omega
           have a:Hid (rform sclX n ⟨11,text,false,keys,items⟩=nameB text):=hid (by rw[m.out];simp[h1]);clear h1;go_wp2_with fail;refine(zqy text (by omega) _).mono ?_;rintro e S ⟨rfl,M⟩;subst M;go_wp2;go_ret;exact⟨by rw[a.out]<;>rfl,d.out⟩
          .have j:((items.length:Int)==1)=false:=by simp;omega
           have u:¬((items.length:Int)=1):=by omega
           have a:Hid (rform sclX n ⟨11,text,false,keys,items⟩=false):=hid (by rw[m.out];simp[h1]);go_wp2;go_ret;exact⟨by rw[a.out]<;>rfl,d.out⟩
         .have h11b:(kind==11)=false:=by simpa using h11
          by_cases h1:items.length=0
          .have j:((items.length:Int)==0)=true:=by simp[h1]
           have u:(items.length:Int)=0:=by omega
           have a:Hid (rform sclX n ⟨kind,text,false,keys,items⟩=sclX kind text):=hid (by rw[m.out];simp[h9,h11,h1]);clear h1;have c:=hid (zww kind text htl C);obtain⟨r,O⟩:=ex (sclX kind text)
           rw[O]at c a;clear O;go_wp2_with fail;refine c.out.mono ?_;rintro e S ⟨rfl,E⟩;have K:Hid (Below w.heap.size w S):=hid (d.out.trans (E.mono d.out.size));clear E;go_wp2;go_ret;exact⟨by rw[a.out]<;>rfl,K.out⟩
          .have j:((items.length:Int)==0)=false:=by rw[beq_eq_false_iff_ne];omega
           have u:¬((items.length:Int)=0):=by omega
           have a:Hid (rform sclX n ⟨kind,text,false,keys,items⟩=false):=hid (by rw[m.out];simp[h9,h11,h1]);go_wp2;go_ret;exact⟨by rw[a.out]<;>rfl,d.out⟩
       .have G:0<(keys.length:Int):=by omega
        have t:0<keys.length:=by omega
        have I:decide (0<keys.length)=true:=decide_eq_true t;have a:Hid (rform sclX n ⟨kind,text,false,keys,items⟩=false):=hid (by rw[f.out,if_pos ⟨h10,.inr (by omega)⟩]);go_wp2;go_ret;exact⟨by rw[a.out]<;>rfl,d.out⟩
end Go.Proofs.YtpjmhafmeieloabGreatDoor
