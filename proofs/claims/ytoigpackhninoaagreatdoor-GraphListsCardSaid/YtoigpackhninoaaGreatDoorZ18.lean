import Derived.Test.YtoigpackhninoaaGreatDoorGrDecR5
import Derived.Test.YtoigpackhninoaaGreatDoorZ19
import Derived.Test.YtoigpackhninoaaGreatDoorZ11
import Derived.Test.YtoigpackhninoaaGreatDoorGrUtfR
namespace Go.Proofs.YtoigpackhninoaaGreatDoor
open Gr
open _root_.Go.Proofs.Tryz
open _root_.Go.Lib (hid)
set_option maxRecDepth 100000
set_option maxHeartbeats 16000000
open Go.RowKit
theorem zk5 {sat:Nat} {neg:Bool} {d:List Nat} {e:Int} {s:Gr.Str} {x:Gr.Dn} (h:expS sat neg d e s=some x):x.d.length<=d.length:=by
 unfold expS at h;split at h
 ·injection h with h;subst h;exact(zjf _ _ _).1
 ·split at h
  ·split at h
   ·cases h
   ·injection h with h;subst h;exact(zjf _ _ _).1
  ·cases h
theorem zk6 {sat:Nat} {neg:Bool} {s:Gr.Str} {x:Gr.Dn} (h:numT sat neg s=some x):x.d.length<=s.length:=by
 have a:=List.takeWhile_append_dropWhile (p:=Gr.dig) (l:=s);have h1:(s.takeWhile Gr.dig).length+(s.dropWhile Gr.dig).length=s.length:=by
  rw[<-List.length_append,a]
 have h2:((s.dropWhile Gr.dig).tail.takeWhile Gr.dig).length<=(s.dropWhile Gr.dig).length:=Nat.le_trans (List.takeWhile_sublist Gr.dig).length_le (by rw[List.length_tail];omega);unfold numT at h;split at h
 ·cases h
 ·split at h
  ·split at h
   ·cases h
   ·have:=zk5 h;rw[zba,List.length_append]at this;omega
  ·have:=zk5 h;rw[zba]at this;omega
theorem zta {sat:Nat} {s:Gr.Str} {x:Gr.Dn} (h:numS sat s=some x):x.d.length<=s.length:=by
 unfold numS at h;split at h
 ·have:=zk6 h;rw[List.length_tail]at this;omega
 ·exact zk6 h
def zb5 (b:Bool) (w:World) (e:Ending) (w':World):Prop:=∃(n:Bool) (A:Option Addr) (l c:Nat) (x:Int),e=.returned (.tuple #[.agg #[.bool n,.slice A l c,.int .i64 x],.bool b])/\Below w.heap.size w w'
theorem zqe (a b:Gr.Str):(a != b)=!decide (a=b):=by
 rw[bne]
 congr 1
 rw[Bool.eq_iff_iff];simp
theorem zqf (s:Gr.Str) (hl:s.length<=268435455) (w:World):
 Calls prog 44 #[.string ⟨s.toArray⟩] w (zb5 (readR s).isSome w):=by
 have Y:=hid (fun W=>zid s hl W);cases ho:numS 1000000 s with
 |none=>
  have P:Hid ((readR s).isSome=false):=hid (by unfold readR;rw[ho];rfl);rw[ho]at Y;clear ho;go_enter func44,ntmps44;go_upto_region 1 with fail;obtain⟨S,m⟩:=ex (w.alloc (.cells #[.bool false,.slice none 0 0,.int .i64 0] 69))
  obtain⟨a,g⟩:=ex w.heap.size
  have k:Hid (Blk S a 69 #[.bool false,.slice none 0 0,.int .i64 0]/\Below a w S):=hid (by rw[<-m,<-g];exact⟨Blk.new _ _ _,(Below.refl _ _).alloc (Nat.le_refl _) _⟩);have t:=hid g;(try rw[m]);(try rw[g]);clear m g;go_wp2_with fail;refine(Y.out _).mono ?_;rintro e B ⟨x,v,rfl,⟨A,c,rfl,z⟩,X,F⟩;have o:Hid (Blk B a 69 #[.bool false,.slice none 0 0,.int .i64 0]/\Below a w B):=hid ⟨k.out.1.below F k.out.1.lt,k.out.2.trans (F.mono (Nat.le_of_lt k.out.1.lt))⟩;clear z X F;simp only[Option.isSome_none];have p0:∀j,B.frozen? ⟨a,j,none⟩=false:=o.out.1.frozen;obtain⟨N,V,M⟩:=cells3 o.out.1;have hlt:a<B.heap.size:=o.out.1.lt;go_wp2_with fail;have b:=(((o.out.1.set_ 0 (.bool false)).set_ 1 (.slice none 0 0)).set_ 2 (.int .i64 0)).alloc (.cells #[.bool x.neg,.slice A x.d.length c,.int .i64 x.e] 69);have e0:=b.cell 0;have e1:=b.cell 1;have e2:=b.cell 2;refine bodyPost_ret (v:=.tuple #[.agg #[.bool false,.slice none 0 0,.int .i64 0],.bool false]) (by rw[results_cell_tmp rfl];go_simp) rfl ?_;unfold zb5;rw[t.out,P.out];exact⟨_,_,_,_,_,rfl,(((o.out.2.setCell (p:=⟨a,0,none⟩) (by simp) _).setCell (p:=⟨a,1,none⟩) (by simp) _).setCell (p:=⟨a,2,none⟩) (by simp) _).alloc (by have:=o.out.1.lt;simp;omega) _⟩
 |some y=>
  have R:=zn7 ho;have O:=zta ho;have HY:Hid (Gr.Wf y/\y.d.length<=s.length):=hid ⟨R,O⟩;have G:Hid (readR s=if lim y=0/\Gr.text y=s then some y else none):=hid (by unfold readR;rw[ho]);rw[ho]at Y;clear ho R O;obtain⟨r,hr⟩:=ex ((readR s).isSome)
  have P:=hid hr;rw[hr];clear hr;have C:=hid (fun(A:Option Addr) (c:Nat) (W:World)=>zmo y A c (by have:=HY.out.2;omega) W);have K:=hid (fun(A:Option Addr) (c:Nat) (W:World) (h0:lim y=0) (hrow:RowAt intL W W.heap.size A y.d)=>zp8 y A c (by have:=HY.out.2;omega) HY.out.1.lt (by have:=zeg h0;omega) (by have:=zeg h0;omega) W hrow);obtain⟨L,hL⟩:∃L:Int,((lim y:Nat):Int)=L:=⟨_,rfl⟩
  have HL:=hid hL;rw[hL]at C;clear hL;go_enter func44,ntmps44;go_upto_region 1 with fail;obtain⟨S,m⟩:=ex (w.alloc (.cells #[.bool false,.slice none 0 0,.int .i64 0] 69))
  obtain⟨a,g⟩:=ex w.heap.size
  have k:Hid (Blk S a 69 #[.bool false,.slice none 0 0,.int .i64 0]/\Below a w S):=hid (by rw[<-m,<-g];exact⟨Blk.new _ _ _,(Below.refl _ _).alloc (Nat.le_refl _) _⟩);have t:=hid g;(try rw[m]);(try rw[g]);clear m g;go_wp2_with fail;refine(Y.out _).mono ?_;rintro e B ⟨x,v,rfl,⟨A,c,rfl,z⟩,X,F⟩;obtain rfl:=X y rfl;obtain⟨A',c',aa,q⟩:=z.form;injection aa with ea en ec
  subst ea ec;simp only[Option.isSome_some];obtain⟨D,H⟩:∃D,D=B.alloc (.cells #[.bool x.neg,.slice A x.d.length c,.int .i64 x.e] 69):=⟨_,rfl⟩
  obtain⟨U,I⟩:=ex B.heap.size
  have i:Hid (Blk D a 69 #[.bool false,.slice none 0 0,.int .i64 0]/\Below a w D/\Blk D U 69 #[.bool x.neg,.slice A x.d.length c,.int .i64 x.e]/\a<U/\RowAt intL D D.heap.size A x.d):=hid (by
   have h1:=k.out.1.below F k.out.1.lt;have h2:Below a w B:=k.out.2.trans (F.mono (Nat.le_of_lt k.out.1.lt));rw[H,<-I];refine⟨h1.alloc _,h2.alloc (Nat.le_of_lt h1.lt) _,Blk.new _ _ _,h1.lt,?_⟩;exact(q.below ((Below.refl _ _).alloc (Nat.le_refl _) _)).more (by simp))
  clear z X F q;go_upto_region 2 with fail;(try rw[<-H]);(try rw[I]);clear H I;obtain⟨N,V,M⟩:=cells3 i.out.2.2.1;go_wp2_with fail;refine(C.out _ _ _).mono ?_;rintro e J ⟨rfl,n⟩;have f:Hid (Blk J a 69 #[.bool false,.slice none 0 0,.int .i64 0]/\Below a w J/\Blk J U 69 #[.bool x.neg,.slice A x.d.length c,.int .i64 x.e]/\a<U/\RowAt intL J J.heap.size A x.d):=hid ⟨i.out.1.below n i.out.1.lt,i.out.2.1.trans (n.mono (Nat.le_of_lt i.out.1.lt)),i.out.2.2.1.below n i.out.2.2.1.lt,i.out.2.2.2.1,(i.out.2.2.2.2.below n).more n.size⟩;clear n N V M;obtain⟨N,V,M⟩:=cells3 f.out.2.2.1;by_cases hL0:L=0
  ·subst hL0;have HS:=hid (fun W=>K.out A c W (by have:=HL.out;omega));go_wp2_with fail;refine(HS.out _ f.out.2.2.2.2).mono ?_;rintro e Z ⟨rfl,u⟩;have l:Hid (Blk Z a 69 #[.bool false,.slice none 0 0,.int .i64 0]/\Below a w Z/\Blk Z U 69 #[.bool x.neg,.slice A x.d.length c,.int .i64 x.e]):=hid ⟨f.out.1.below u f.out.1.lt,f.out.2.1.trans (u.mono (Nat.le_of_lt f.out.1.lt)),f.out.2.2.1.below u f.out.2.2.1.lt⟩;clear u N V M;obtain⟨N,V,M⟩:=cells3 l.out.2.2;have p0:∀j,Z.frozen? ⟨a,j,none⟩=false:=l.out.1.frozen;obtain⟨k0,k1,k2⟩:=cells3 l.out.1;by_cases ht:Gr.text x=s
   ·have T:(Gr.text x==s)=true:=by rw[beq_iff_eq];exact ht
    have E:(Gr.text x != s)=false:=by rw[zqe,decide_eq_true ht];rfl
    have Q:Hid (r=true):=hid (by rw[<-P.out,G.out,if_pos ⟨by have:=HL.out;omega,ht⟩];rfl);clear ht;go_wp2_with fail;have b:=((l.out.1.set_ 0 (.bool x.neg)).set_ 1 (.slice A x.d.length c)).set_ 2 (.int .i64 x.e);have e0:=b.cell 0;have e1:=b.cell 1;have e2:=b.cell 2;refine bodyPost_ret (v:=.tuple #[.agg #[.bool x.neg,.slice A x.d.length c,.int .i64 x.e],.bool true]) (by rw[results_cell_tmp rfl];go_simp) rfl ?_;unfold zb5;rw[t.out,Q.out];exact⟨_,_,_,_,_,rfl,((l.out.2.1.setCell (p:=⟨a,0,none⟩) (by simp) _).setCell (p:=⟨a,1,none⟩) (by simp) _).setCell (p:=⟨a,2,none⟩) (by simp) _⟩
   ·have T:(Gr.text x==s)=false:=by rw[beq_eq_false_iff_ne];exact ht
    have E:(Gr.text x != s)=true:=by rw[zqe,decide_eq_false ht];rfl
    have Q:Hid (r=false):=hid (by rw[<-P.out,G.out,if_neg (fun h=>ht h.2)];rfl);clear ht;go_wp2_with fail;have b:=((l.out.1.set_ 0 (.bool false)).set_ 1 (.slice none 0 0)).set_ 2 (.int .i64 0);have e0:=b.cell 0;have e1:=b.cell 1;have e2:=b.cell 2;refine bodyPost_ret (v:=.tuple #[.agg #[.bool false,.slice none 0 0,.int .i64 0],.bool false]) (by rw[results_cell_tmp rfl];go_simp) rfl ?_;unfold zb5;rw[t.out,Q.out];exact⟨_,_,_,_,_,rfl,((l.out.2.1.setCell (p:=⟨a,0,none⟩) (by simp) _).setCell (p:=⟨a,1,none⟩) (by simp) _).setCell (p:=⟨a,2,none⟩) (by simp) _⟩
  ·have ab:(L==0)=false:=by simpa using hL0
   have hz1:(L != 0)=true:=by rw[bne,ab];rfl
   have Q:Hid (r=false):=hid (by rw[<-P.out,G.out,if_neg (fun h=>hL0 (by have:=HL.out;omega))];rfl);have p0:∀j,J.frozen? ⟨a,j,none⟩=false:=f.out.1.frozen;obtain⟨k0,k1,k2⟩:=cells3 f.out.1;go_wp2_with fail;have b:=((f.out.1.set_ 0 (.bool false)).set_ 1 (.slice none 0 0)).set_ 2 (.int .i64 0);have e0:=b.cell 0;have e1:=b.cell 1;have e2:=b.cell 2;refine bodyPost_ret (v:=.tuple #[.agg #[.bool false,.slice none 0 0,.int .i64 0],.bool false]) (by rw[results_cell_tmp rfl];go_simp) rfl ?_;unfold zb5;rw[t.out,Q.out];exact⟨_,_,_,_,_,rfl,((f.out.2.1.setCell (p:=⟨a,0,none⟩) (by simp) _).setCell (p:=⟨a,1,none⟩) (by simp) _).setCell (p:=⟨a,2,none⟩) (by simp) _⟩
theorem zie (s:Gr.Str) (hl:s.length<=1073741823) (w:World) (hT:UT w):
 Calls prog 70 #[.string ⟨s.toArray⟩] w fun e w'=>e=.returned (.bool (readP s).isSome)/\Below w.heap.size w w':=by
 have a:=hid (zo5 s hl w hT);clear hT;obtain⟨r,b⟩:=ex ((readP s).isSome)
 unfold zbt at a;rw[b]at a ⊢;clear b;go_enter func70,ntmps70;go_wp2_with fail;refine a.out.mono ?_;rintro e w2 ⟨x,v,rfl,⟨A,c,rfl,_⟩,_,d⟩;have f:=hid d;clear d;go_wp2;go_ret;exact⟨rfl,f.out.alloc f.out.size _⟩
theorem ztb (text:Gr.Str) (hl:text.length<=1073741823):ScalOk UT 3 text (readP text).isSome:=by
 intro w c;have b:=hid (fun W f=>zie text hl W f);have h:=hid c;obtain⟨r,a⟩:=ex ((readP text).isSome)
 rw[a]at b ⊢;clear a c;go_enter func42,ntmps42;go_wp2_with fail;refine(b.out _ h.out).mono ?_;rintro e w2 ⟨rfl,d⟩;have g:=hid d;clear d;go_wp2;go_ret;exact⟨rfl,g.out⟩
theorem zqg (text:Gr.Str):ScalOk UT 1 text (decide (text=[116,114,117,101]) || decide (text=[102,97,108,115,101])):=by
 intro w a;clear a;by_cases h1:text=[116,114,117,101]
 ·subst h1;go_enter func42,ntmps42;go_wp2;go_ret;exact⟨rfl,Below.refl _ _⟩
 ·have hb1:(text==[116,114,117,101])=false:=by rw[beq_eq_false_iff_ne];exact h1
  by_cases h2:text=[102,97,108,115,101]
  ·subst h2;go_enter func42,ntmps42;go_wp2;go_ret;exact⟨rfl,Below.refl _ _⟩
  ·have hb2:(text==[102,97,108,115,101])=false:=by rw[beq_eq_false_iff_ne];exact h2
   have b:Hid ((decide (text=[116,114,117,101]) || decide (text=[102,97,108,115,101]))=false):=hid (by simp[h1,h2]);go_enter func42,ntmps42;go_wp2;go_ret;rw[b.out];exact⟨rfl,Below.refl _ _⟩
theorem zmp (text:Gr.Str):ScalOk UT 6 text true:=by
 intro w a;clear a;go_enter func42,ntmps42;go_wp2;go_ret;exact⟨rfl,Below.refl _ _⟩
noncomputable def sclX (kind:Int) (text:Gr.Str):Bool:=
 if kind=0 then text.isEmpty else if kind=1 then(decide (text=[116,114,117,101]) || decide (text=[102,97,108,115,101]))
 else if kind=2 then intB text else if kind=3 then(readP text).isSome else if kind=4 then fltP text else if kind=5 then utfB text
 else if kind=6 then true else if kind=7 then insB text else if kind=8 then locB text else false
theorem zdk (k:Int) (t:Gr.Str) (h:sclX k t=true):0<=k/\k<=8:=by
 unfold sclX at h;by_cases h0:k=0
 ·omega
 by_cases h1:k=1
 ·omega
 by_cases h2:k=2
 ·omega
 by_cases h3:k=3
 ·omega
 by_cases h4:k=4
 ·omega
 by_cases h5:k=5
 ·omega
 by_cases h6:k=6
 ·omega
 by_cases h7:k=7
 ·omega
 by_cases h8:k=8
 ·omega
 simp[h0,h1,h2,h3,h4,h5,h6,h7,h8]at h
theorem zud (t:Gr.Str):sclX 0 t=t.isEmpty:=rfl
theorem zue (t:Gr.Str):sclX 1 t=(decide (t=[116,114,117,101]) || decide (t=[102,97,108,115,101])):=rfl
theorem zuf (t:Gr.Str):sclX 2 t=intB t:=rfl
theorem zug (t:Gr.Str):sclX 3 t=(readP t).isSome:=rfl
theorem zuh (t:Gr.Str):sclX 4 t=fltP t:=rfl
theorem zui (t:Gr.Str):sclX 5 t=utfB t:=rfl
theorem zuj (t:Gr.Str):sclX 6 t=true:=rfl
theorem zuk (t:Gr.Str):sclX 7 t=insB t:=rfl
theorem zul (t:Gr.Str):sclX 8 t=locB t:=rfl
theorem zum (k:Int) (t:Gr.Str) (h:k<0\/8<k):sclX k t=false:=by
 cases hs:sclX k t with
 |false=>rfl
 |true=>have:=zdk k t hs;omega
theorem zmy (kind:Int) (text:Gr.Str) (h:kind<0\/8<kind):ScalOk UT kind text false:=by
 intro w a;have h0:(kind==0)=false:=by rw[beq_eq_false_iff_ne];omega
 have h1:(kind==1)=false:=by rw[beq_eq_false_iff_ne];omega
 have h2:(kind==2)=false:=by rw[beq_eq_false_iff_ne];omega
 have h3:(kind==3)=false:=by rw[beq_eq_false_iff_ne];omega
 have h4:(kind==4)=false:=by rw[beq_eq_false_iff_ne];omega
 have h5:(kind==5)=false:=by rw[beq_eq_false_iff_ne];omega
 have h6:(kind==6)=false:=by rw[beq_eq_false_iff_ne];omega
 have h7:(kind==7)=false:=by rw[beq_eq_false_iff_ne];omega
 have h8:(kind==8)=false:=by rw[beq_eq_false_iff_ne];omega
 clear a h;go_enter func42,ntmps42;go_wp2;go_ret;exact⟨rfl,Below.refl _ _⟩
theorem zqk (kind:Int) (text:Gr.Str) (hl:text.length<=268435455):ScalOk UT kind text (sclX kind text):=by
 have a:text.length<=1073741823:=by omega
 by_cases h:kind<0\/8<kind
 ·rw[zum _ _ h];exact zmy _ _ h
 ·have b:kind=0\/kind=1\/kind=2\/kind=3\/kind=4\/kind=5\/kind=6\/kind=7\/kind=8:=by omega
  rcases b with rfl|rfl|rfl|rfl|rfl|rfl|rfl|rfl|rfl
  ·rw[zud];exact zih text
  ·rw[zue];exact zqg text
  ·rw[zuf];exact zel text a
  ·rw[zug];exact ztb text a
  ·rw[zuh];exact zsw text a
  ·rw[zui];exact zfd text a
  ·rw[zuj];exact zmp text
  ·rw[zuk];exact zs7 text a
  ·rw[zul];exact zs6 text a
def RScal (kind:Int) (text:Gr.Str) (r:Bool):Prop:=∀w,Calls prog 17 #[.int .i64 kind,.string ⟨text.toArray⟩] w fun e w'=>e=.returned (.bool r)/\Below w.heap.size w w'
theorem zv9 (text:Gr.Str):RScal 0 text text.isEmpty:=by
 intro w;have ht:=zgv text;go_enter func17,ntmps17;go_wp2;go_ret;exact⟨rfl,Below.refl _ _⟩
theorem zwa (text:Gr.Str):RScal 1 text (decide (text=[116,114,117,101]) || decide (text=[102,97,108,115,101])):=by
 intro w;by_cases h1:text=[116,114,117,101]
 ·subst h1;go_enter func17,ntmps17;go_wp2;go_ret;exact⟨rfl,Below.refl _ _⟩
 ·have hb1:(text==[116,114,117,101])=false:=by rw[beq_eq_false_iff_ne];exact h1
  by_cases h2:text=[102,97,108,115,101]
  ·subst h2;go_enter func17,ntmps17;go_wp2;go_ret;exact⟨rfl,Below.refl _ _⟩
  ·have hb2:(text==[102,97,108,115,101])=false:=by rw[beq_eq_false_iff_ne];exact h2
   have a:Hid ((decide (text=[116,114,117,101]) || decide (text=[102,97,108,115,101]))=false):=hid (by simp[h1,h2]);rw[a.out];clear h1 h2;go_enter func17,ntmps17;go_wp2;go_ret;exact⟨rfl,Below.refl _ _⟩
theorem zwb (text:Gr.Str) (hl:text.length<=268435455):RScal 2 text (intB text):=by
 intro w;have b:=hid (zfw text (by omega) w);obtain⟨r,a⟩:=ex (intB text)
 rw[a]at b ⊢;clear a;go_enter func17,ntmps17;go_wp2_with fail;refine b.out.mono ?_;rintro e d ⟨rfl,c⟩;have f:=hid (c▸Below.refl _ _:Below w.heap.size w d);clear c;go_wp2;go_ret;exact⟨rfl,f.out⟩
theorem zwc (text:Gr.Str) (hl:text.length<=268435455):RScal 3 text (readP text).isSome:=by
 intro w;have a:=hid (zqf text hl w);rw[zu2];obtain⟨r,b⟩:=ex ((readR text).isSome)
 rw[b]at a ⊢;clear b;unfold zb5 at a;go_enter func17,ntmps17;go_wp2_with fail;refine a.out.mono ?_;rintro e w2 ⟨n,A,l,c,x,rfl,d⟩;have f:=hid d;clear d;go_wp2;go_ret;exact⟨rfl,f.out.alloc f.out.size _⟩
theorem zwd (text:Gr.Str) (hl:text.length<=268435455):RScal 4 text (fltP text):=by
 intro w;have f:=hid (zr3 text (by omega) w);rw[zw6];obtain⟨r,g⟩:=ex (fltR text)
 rw[g]at f ⊢;clear g;unfold OfF at f;go_enter func17,ntmps17;go_wp2_with fail;refine f.out.mono ?_;rintro e w2 ⟨⟨a,b,c,d,rfl⟩,h⟩;have i:=hid h;clear h;go_wp2;go_ret;exact⟨rfl,i.out.alloc i.out.size _⟩
theorem zwe (text:Gr.Str) (hl:text.length<=268435455):RScal 5 text (utfB text):=by
 intro w;obtain⟨r,a⟩:=ex (utfB text)
 have c:=hid (Utf.zx0 text (by omega) w r (by rw[<-a];unfold utfB;cases Utf.bad text<;>rfl));rw[a];clear a;go_enter func17,ntmps17;go_wp2_with fail;refine c.out.mono ?_;rintro e w2 ⟨rfl,b⟩;have d:=hid b;clear b;go_wp2;go_ret;exact⟨rfl,d.out⟩
theorem zwf (text:Gr.Str):RScal 6 text true:=by
 intro w;go_enter func17,ntmps17;go_wp2;go_ret;exact⟨rfl,Below.refl _ _⟩
theorem zwg (text:Gr.Str) (hl:text.length<=268435455):RScal 7 text (insB text):=by
 intro w;have b:=hid (zia text (by omega) w);obtain⟨r,a⟩:=ex (insB text)
 rw[a]at b ⊢;clear a;go_enter func17,ntmps17;go_wp2_with fail;refine b.out.mono ?_;rintro e w2 ⟨rfl,c⟩;have d:=hid c;clear c;go_wp2;go_ret;exact⟨rfl,d.out⟩
theorem zwh (text:Gr.Str) (hl:text.length<=268435455):RScal 8 text (locB text):=by
 intro w;have b:=hid (zmk text (by omega) w);obtain⟨r,a⟩:=ex (locB text)
 rw[a]at b ⊢;clear a;go_enter func17,ntmps17;go_wp2_with fail;refine b.out.mono ?_;rintro e w2 ⟨rfl,c⟩;have d:=hid c;clear c;go_wp2;go_ret;exact⟨rfl,d.out⟩
theorem zjx (kind:Int) (text:Gr.Str) (h:kind<0\/8<kind):RScal kind text false:=by
 intro w;have h0:(kind==0)=false:=by rw[beq_eq_false_iff_ne];omega
 have h1:(kind==1)=false:=by rw[beq_eq_false_iff_ne];omega
 have h2:(kind==2)=false:=by rw[beq_eq_false_iff_ne];omega
 have h3:(kind==3)=false:=by rw[beq_eq_false_iff_ne];omega
 have h4:(kind==4)=false:=by rw[beq_eq_false_iff_ne];omega
 have h5:(kind==5)=false:=by rw[beq_eq_false_iff_ne];omega
 have h6:(kind==6)=false:=by rw[beq_eq_false_iff_ne];omega
 have h7:(kind==7)=false:=by rw[beq_eq_false_iff_ne];omega
 have h8:(kind==8)=false:=by rw[beq_eq_false_iff_ne];omega
 clear h;go_enter func17,ntmps17;go_wp2;go_ret;exact⟨rfl,Below.refl _ _⟩
theorem zwi (kind:Int) (text:Gr.Str) (hl:text.length<=268435455):RScal kind text (sclX kind text):=by
 by_cases h:kind<0\/8<kind
 ·rw[zum _ _ h];exact zjx _ _ h
 ·have a:kind=0\/kind=1\/kind=2\/kind=3\/kind=4\/kind=5\/kind=6\/kind=7\/kind=8:=by omega
  rcases a with rfl|rfl|rfl|rfl|rfl|rfl|rfl|rfl|rfl
  ·rw[zud];exact zv9 text
  ·rw[zue];exact zwa text
  ·rw[zuf];exact zwb text hl
  ·rw[zug];exact zwc text hl
  ·rw[zuh];exact zwd text hl
  ·rw[zui];exact zwe text hl
  ·rw[zuj];exact zwf text
  ·rw[zuk];exact zwg text hl
  ·rw[zul];exact zwh text hl
theorem zqu (s:Gr.Str) (hs:s.length<=1073741823) (w:World):Calls prog 56 #[.string ⟨s.toArray⟩] w fun e w'=>e=.returned (.bool (nameB s))/\w'=w:=by
 have f:Hid (∀r:Bool,r=nameB s↔r=(s.all nameC && decide (1<=s.length) && decide (s.length<=64))):=hid (fun r=>by
  have:nameB s=(s.all nameC && decide (1<=s.length) && decide (s.length<=64)):=rfl;rw[this])
 go_enter func56,ntmps56;go_upto_region 2 with fail;go_loop [3] (fun x=>∃i:Nat,i<=s.length/\x=.int .i64 i/\Hid ((s.take i).all nameC=true)) (fun i=>s.length-(intOf i).toNat)
 case atStart=>exact⟨0,by omega,rfl,hid (by simp)⟩
 case round=>
  obtain⟨i,hi,rfl,q⟩:=hrel;by_cases hil:i<s.length
  ·have d:(i:Int)<(s.length:Int):=by omega
   obtain⟨c,k⟩:=ex (s[i])
   have q0:=byte_at s i hil c k;have hbd:c.toNat<256:=c.toNat_lt;have hn:=zhg c;have j:Hid ((s.take (i+1)).all nameC=nameC c):=hid (by rw[List.take_succ_eq_append_getElem hil,List.all_append,q.out,k];simp);by_cases hy:nameC c=true
   ·have l:Hid ((s.take (i+1)).all nameC=true):=hid (by rw[j.out,hy]);have hn:=hn.1 hy;clear hy j k;rcases hn with hn|hn|hn|hn|hn|hn|hn
    all_goals
     go_wp2;go_round
     case rel=>exact⟨i+1,by omega,by go_num,l⟩
     case measure=>simp[intOf];omega
   ·have a:Hid (nameB s=false):=hid (by
     have b:(s.take (i+1)).all nameC=false:=by rw[j.out];simpa using hy
     have g:s.all nameC=false:=by
      cases e:s.all nameC with
      |false=>rfl
      |true=>
       rw[List.all_eq_true]at e;rw[List.all_eq_false]at b;obtain⟨x,u,o⟩:=b;exact absurd (e x (List.mem_of_mem_take u)) o
     exact((f.out false).2 (by rw[g];rfl)).symm)
    have hn:=fun h=>hy (hn.2 h)
    have v:¬(97<=c.toNat/\c.toNat<=122):=fun h=>hn (.inl h)
    have A:¬(65<=c.toNat/\c.toNat<=90):=fun h=>hn (.inr (.inl h))
    have C:¬(48<=c.toNat/\c.toNat<=57):=fun h=>hn (.inr (.inr (.inl h)))
    have y:¬(c.toNat=95):=fun h=>hn (.inr (.inr (.inr (.inl h))))
    have t:¬(c.toNat=45):=fun h=>hn (.inr (.inr (.inr (.inr (.inl h)))))
    have B:¬(c.toNat=46):=fun h=>hn (.inr (.inr (.inr (.inr (.inr (.inl h))))))
    have D:¬(c.toNat=58):=fun h=>hn (.inr (.inr (.inr (.inr (.inr (.inr h))))))
    clear hn hy k j;have m:c.toNat<45\/c.toNat=47\/(59<=c.toNat/\c.toNat<=64)\/(91<=c.toNat/\c.toNat<=94)\/c.toNat=96\/122<c.toNat:=by omega
    have e4:((c.toNat:Int)==95)=false:=by simp;omega
    have e5:((c.toNat:Int)==45)=false:=by simp;omega
    have e6:((c.toNat:Int)==46)=false:=by simp;omega
    have e7:((c.toNat:Int)==58)=false:=by simp;omega
    clear v A C y t B D;rcases m with hn|hn|hn|hn|hn|hn
    all_goals
     go_wp2_with fail
     all_goals first
      | (go_ret;exact⟨by rw[a.out]<;>rfl,rfl⟩)
      | (exfalso;rename_i h;(try simp only[Bool.not_eq_false',decide_eq_true_eq]at h);first|omega| (simp at h;omega))
  ·have d:¬((i:Int)<(s.length:Int)):=by omega
   have z:Hid (s.all nameC=true):=hid (by have:=q.out;rwa[List.take_of_length_le (by omega)]at this);by_cases b:1<=s.length
   ·have n:(1:Int)<=(s.length:Int):=by omega
    by_cases g:s.length<=64
    ·have p:(s.length:Int)<=64:=by omega
     have a:Hid (nameB s=true):=hid ((f.out true).2 (by rw[z.out];simp[b,g])).symm;go_wp2;go_ret;exact⟨by rw[a.out]<;>rfl,rfl⟩
    ·have p:¬((s.length:Int)<=64):=by omega
     have a:Hid (nameB s=false):=hid ((f.out false).2 (by simp[g])).symm;go_wp2;go_ret;exact⟨by rw[a.out]<;>rfl,rfl⟩
   ·have n:¬((1:Int)<=(s.length:Int)):=by omega
    have a:Hid (nameB s=false):=hid ((f.out false).2 (by simp[b])).symm;go_wp2;go_ret;exact⟨by rw[a.out]<;>rfl,rfl⟩
theorem zqv (kind:Int) (text:Gr.Str) (ord:Bool) (keys items:List Int) (ka ia:Option Addr) (kc ic n B:Nat) (_hn:n<=1073741823) (htl:text.length<=268435455) (hkl:keys.length<=1073741823) (hil:items.length<=1073741823)
 (w:World) (hB:B<=w.heap.size) (hk:RowAt intI w B ka keys) (hi:RowAt intI w B ia items):
 Calls prog 66 #[.agg #[.int .i64 kind,.string ⟨text.toArray⟩,.bool ord,.slice ka keys.length kc,.slice ia items.length ic],.int .i64 n] w fun e w'=>e=.returned (.bool (rform sclX n ⟨kind,text,ord,keys,items⟩))/\Below w.heap.size w w':=by
 obtain⟨C,s⟩:=ex (w.alloc (.cells #[.int .i64 kind,.string ⟨text.toArray⟩,.bool ord,.slice ka keys.length kc,.slice ia items.length ic] 35))
 have F:Below w.heap.size w C:=by rw[<-s];exact(Below.refl _ _).alloc (Nat.le_refl _) _
 have S:Blk C w.heap.size 35 #[.int .i64 kind,.string ⟨text.toArray⟩,.bool ord,.slice ka keys.length kc,.slice ia items.length ic]:=by rw[<-s];exact Blk.new _ _ _
 obtain⟨s0,s1,s2,s3,s4⟩:=cells5 S;have f:=hid F;have Q:Hid (RowAt intI C B ka keys):=hid (hk.below (F.mono hB));have P:Hid (RowAt intI C B ia items):=hid (hi.below (F.mono hB));have m:Hid ((items.all (inR n)=false\/keys.all (inR n)=false)->rform sclX n ⟨kind,text,ord,keys,items⟩=false):=hid (fun h=>by
  unfold rform;rw[if_pos];rcases h with h|h
  ·show(items.all (inR n) && keys.all (inR n))=false;rw[h];rfl
  ·show(items.all (inR n) && keys.all (inR n))=false;rw[h,Bool.and_false])
 have G:=zgv text;clear F S hk hi hB;go_enter func66,ntmps66;go_upto_region 1 with fail;(try rw[s]);clear s;go_upto_region 2 with fail;go_loop [5] (fun x=>∃i:Nat,i<=items.length/\x=.int .i64 i/\Hid ((items.take i).all (inR n)=true)) (fun i=>items.length-(intOf i).toNat)
 case atStart=>exact⟨0,by omega,rfl,hid (by simp)⟩
 case round=>
  obtain⟨i,K,rfl,c⟩:=hrel;by_cases hlt:i<items.length
  ·have k:(i:Int)<(items.length:Int):=by omega
   obtain⟨x,p⟩:=ex (items[i])
   obtain⟨M,rfl,o,L⟩:=ze1 P.out hlt;rw[p]at L;have q:Hid ((items.take (i+1)).all (inR n)=(decide (0<=x) && decide (x<(n:Int)))):=hid (by rw[zb3 _ _ _ hlt,c.out,p];rfl);have j:Hid (inR n x=false->items.all (inR n)=false):=hid (fun h=>by
    rw[List.all_eq_false];exact⟨x,by rw[<-p];exact List.getElem_mem hlt,by rw[h];decide⟩)
   clear p o;by_cases h1:0<=x
   ·have y:¬x<0:=by omega
    by_cases h2:x<(n:Int)
    ·have t:¬(n:Int)<=x:=by omega
     have u:Hid ((items.take (i+1)).all (inR n)=true):=hid (by rw[q.out];simp[h1,h2]);clear c q j;go_wp2;go_round
     case rel=>exact⟨i+1,by omega,by go_num,u⟩
     case measure=>simp[intOf];omega
    ·have t:(n:Int)<=x:=by omega
     have a:Hid (items.all (inR n)=false):=hid (j.out (by simp[inR,h2]));clear c q j;go_wp2;go_ret;exact⟨by rw[m.out (by exact .inl a.out)]<;>rfl,f.out⟩
   ·have y:x<0:=by omega
    have a:Hid (items.all (inR n)=false):=hid (j.out (by simp[inR];omega));clear c q j;go_wp2;go_ret;exact⟨by rw[m.out (by exact .inl a.out)]<;>rfl,f.out⟩
  ·have k:¬((i:Int)<(items.length:Int)):=by omega
   have D:Hid (items.all (inR n)=true):=hid (by have:=c.out;rwa[List.take_of_length_le (by omega)]at this);clear c;go_upto_region 7 with fail;go_loop [6] (fun x=>∃i:Nat,i<=keys.length/\x=.int .i64 i/\Hid ((keys.take i).all (inR n)=true)) (fun i=>keys.length-(intOf i).toNat)
   case atStart=>exact⟨0,by omega,rfl,hid (by simp)⟩
   case round=>
    obtain⟨i,K,rfl,c⟩:=hrel;by_cases hlt:i<keys.length
    ·have k:(i:Int)<(keys.length:Int):=by omega
     obtain⟨x,p⟩:=ex (keys[i])
     obtain⟨M,rfl,o,L⟩:=ze1 Q.out hlt;rw[p]at L;have q:Hid ((keys.take (i+1)).all (inR n)=(decide (0<=x) && decide (x<(n:Int)))):=hid (by rw[zb3 _ _ _ hlt,c.out,p];rfl);have j:Hid (inR n x=false->keys.all (inR n)=false):=hid (fun h=>by
      rw[List.all_eq_false];exact⟨x,by rw[<-p];exact List.getElem_mem hlt,by rw[h];decide⟩)
     clear p o;by_cases h1:0<=x
     ·have y:¬x<0:=by omega
      by_cases h2:x<(n:Int)
      ·have t:¬(n:Int)<=x:=by omega
       have u:Hid ((keys.take (i+1)).all (inR n)=true):=hid (by rw[q.out];simp[h1,h2]);clear c q j;go_wp2;go_round
       case rel=>exact⟨i+1,by omega,by go_num,u⟩
       case measure=>simp[intOf];omega
      ·have t:(n:Int)<=x:=by omega
       have a:Hid (keys.all (inR n)=false):=hid (j.out (by simp[inR,h2]));clear c q j;go_wp2;go_ret;exact⟨by rw[m.out (by exact .inr a.out)]<;>rfl,f.out⟩
     ·have y:x<0:=by omega
      have a:Hid (keys.all (inR n)=false):=hid (j.out (by simp[inR];omega));clear c q j;go_wp2;go_ret;exact⟨by rw[m.out (by exact .inr a.out)]<;>rfl,f.out⟩
    ·have k:¬((i:Int)<(keys.length:Int)):=by omega
     have E:Hid (keys.all (inR n)=true):=hid (by have:=c.out;rwa[List.take_of_length_le (by omega)]at this);clear c;have d:Hid (rform sclX n ⟨kind,text,ord,keys,items⟩=if kind≠10/\(ord=true\/0<keys.length)then false else if kind=9 then text.isEmpty else if kind=10 then text.isEmpty && decide (keys.length=items.length)
      else if kind=11 then decide (items.length=1) && nameB text else decide (items.length=0) && sclX kind text):=hid (by
      unfold rform;rw[if_neg];show¬(items.all (inR n) && keys.all (inR n))=false;rw[D.out,E.out];decide)
     clear D E m Q P;by_cases h10:kind=10
     ·subst h10;cases he:text.isEmpty with
      |false=>
       rw[he]at G;have a:Hid (rform sclX n ⟨10,text,ord,keys,items⟩=false):=hid (by rw[d.out];simp[he]);go_wp2;go_ret;exact⟨by rw[a.out]<;>rfl,f.out⟩
      |true=>
       rw[he]at G;by_cases hki:keys.length=items.length
       ·have l:((keys.length:Int)==(items.length:Int))=true:=by simp[hki]
        have h1:(keys.length:Int)=(items.length:Int):=by omega
        have a:Hid (rform sclX n ⟨10,text,ord,keys,items⟩=true):=hid (by rw[d.out];simp[he,hki]);clear hki;have H1:=hid h1;clear h1;go_wp2;go_ret;exact⟨by rw[a.out]<;>rfl,f.out⟩
       ·have h1:¬((keys.length:Int)=(items.length:Int)):=by omega
        have l:((keys.length:Int)==(items.length:Int))=false:=by simp;omega
        have a:Hid (rform sclX n ⟨10,text,ord,keys,items⟩=false):=hid (by rw[d.out];simp[he,hki]);go_wp2;go_ret;exact⟨by rw[a.out]<;>rfl,f.out⟩
     ·have h10b:(kind==10)=false:=by simpa using h10
      have h10n:(kind != 10)=true:=by simpa using h10
      cases ord with
      |true=>
       have a:Hid (rform sclX n ⟨kind,text,true,keys,items⟩=false):=hid (by rw[d.out];simp[h10]);go_wp2;go_ret;exact⟨by rw[a.out]<;>rfl,f.out⟩
      |false=>
       by_cases hk0:keys.length=0
       ·have J:¬(0<(keys.length:Int)):=by omega
        have z:¬0<keys.length:=by omega
        have H:decide (0<keys.length)=false:=decide_eq_false z;have g:Hid (rform sclX n ⟨kind,text,false,keys,items⟩=if kind=9 then text.isEmpty else if kind=11 then decide (items.length=1) && nameB text else decide (items.length=0) && sclX kind text):=hid (by
         rw[d.out];simp[h10,hk0])
        clear d;by_cases h9:kind=9
        ·subst h9;have a:Hid (rform sclX n ⟨9,text,false,keys,items⟩=text.isEmpty):=hid (by rw[g.out];rfl);obtain⟨b,T⟩:=ex text.isEmpty
         rw[T]at G a;go_wp2;go_ret;exact⟨by rw[a.out]<;>rfl,f.out⟩
        ·have h9b:(kind==9)=false:=by simpa using h9
         by_cases h11:kind=11
         ·subst h11;by_cases h1:items.length=1
          ·have l:((items.length:Int)==1)=true:=by simp[h1]
           have v:(items.length:Int)=1:=by omega
           have a:Hid (rform sclX n ⟨11,text,false,keys,items⟩=nameB text):=hid (by rw[g.out];simp[h1]);clear h1;go_wp2_with fail;refine(zqu text (by omega) _).mono ?_;rintro e O ⟨rfl,I⟩;subst I;go_wp2;go_ret;exact⟨by rw[a.out]<;>rfl,f.out⟩
          ·have l:((items.length:Int)==1)=false:=by simp;omega
           have v:¬((items.length:Int)=1):=by omega
           have a:Hid (rform sclX n ⟨11,text,false,keys,items⟩=false):=hid (by rw[g.out];simp[h1]);go_wp2;go_ret;exact⟨by rw[a.out]<;>rfl,f.out⟩
         ·have h11b:(kind==11)=false:=by simpa using h11
          by_cases h1:items.length=0
          ·have l:((items.length:Int)==0)=true:=by simp[h1]
           have v:(items.length:Int)=0:=by omega
           have a:Hid (rform sclX n ⟨kind,text,false,keys,items⟩=sclX kind text):=hid (by rw[g.out];simp[h9,h11,h1]);clear h1;have c:=hid (zwi kind text htl C);obtain⟨r,R⟩:=ex (sclX kind text)
           rw[R]at c a;clear R;go_wp2_with fail;refine c.out.mono ?_;rintro e O ⟨rfl,A⟩;have N:Hid (Below w.heap.size w O):=hid (f.out.trans (A.mono f.out.size));clear A;go_wp2;go_ret;exact⟨by rw[a.out]<;>rfl,N.out⟩
          ·have l:((items.length:Int)==0)=false:=by rw[beq_eq_false_iff_ne];omega
           have v:¬((items.length:Int)=0):=by omega
           have a:Hid (rform sclX n ⟨kind,text,false,keys,items⟩=false):=hid (by rw[g.out];simp[h9,h11,h1]);go_wp2;go_ret;exact⟨by rw[a.out]<;>rfl,f.out⟩
       ·have J:0<(keys.length:Int):=by omega
        have z:0<keys.length:=by omega
        have H:decide (0<keys.length)=true:=decide_eq_true z;have a:Hid (rform sclX n ⟨kind,text,false,keys,items⟩=false):=hid (by rw[d.out,if_pos ⟨h10,.inr (by omega)⟩]);go_wp2;go_ret;exact⟨by rw[a.out]<;>rfl,f.out⟩
end Go.Proofs.YtoigpackhninoaaGreatDoor
