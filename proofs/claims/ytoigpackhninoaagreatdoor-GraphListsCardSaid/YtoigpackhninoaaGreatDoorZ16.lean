import Derived.Test.YtoigpackhninoaaGreatDoorZ06
namespace Go.Proofs.YtoigpackhninoaaGreatDoor
open Gr
open _root_.Go.Proofs.Tryz
open _root_.Go.Lib (hid)
set_option maxRecDepth 100000
set_option maxHeartbeats 16000000
open Go.RowKit
def rdg (s:Gr.Str) (k:Nat):Gr.Str:=(s.drop k).takeWhile Gr.dig
def zjq (s:Gr.Str) (k:Nat) (w:World) (e:Ending) (w':World):Prop:=∃A c,e=.returned (.tuple #[.slice A (rdg s k).length c,.int .i64 ((k+(rdg s k).length:Nat):Int)])/\OwnRow intL w' w.heap.size 3 (.slice A (rdg s k).length c) (vals (rdg s k))/\Below w.heap.size w w'
theorem zba (s:Gr.Str):(vals s).length=s.length:=by simp[vals]
theorem zp5 (s:Gr.Str) (k m:Nat) (h:((s.drop k).take m).all Gr.dig=true) (hm:k+m<=s.length) (hn:∀h2:k+m<s.length,Gr.dig (s[k+m]'h2)=false):rdg s k=(s.drop k).take m:=by
 unfold rdg;have a:s.drop k=(s.drop k).take m++s.drop (k+m):=by
  rw[<-List.drop_drop];exact(List.take_append_drop m (s.drop k)).symm
 rw[a,List.takeWhile_append_of_pos (by simpa using h)];have h2:(s.drop (k+m)).takeWhile Gr.dig=[]:=by
  rcases Nat.lt_or_ge (k+m) s.length with h3|h3
  ·rw[List.drop_eq_getElem_cons h3,List.takeWhile_cons,hn h3];rfl
  ·rw[List.drop_eq_nil_of_le h3];rfl
 rw[h2,List.append_nil,List.take_append_of_le_length (by simp;omega),List.take_take,Nat.min_self]
theorem zjr {s:Gr.Str} {k m c:Nat} {A:Option Addr} {w w':World} (h:rdg s k=(s.drop k).take m) (_:0<=m) (hm:k+m<=s.length) (ho:OwnRow intL w' w.heap.size 3 (.slice A m c) (vals ((s.drop k).take m))) (hb:Below w.heap.size w w'):
 zjq s k w (.returned (.tuple #[.slice A m c,.int .i64 ((k+m:Nat):Int)])) w':=by
 have a:(rdg s k).length=m:=by rw[h];simp;omega
 unfold zjq;rw[a,h];exact⟨A,c,rfl,ho,hb⟩
theorem zc4 (s:Gr.Str) (hl:s.length<=1073741823) (k:Nat) (hk:k<=s.length) (w:World):
 Calls prog 97 #[.string ⟨s.toArray⟩,.int .i64 (k:Int)] w (zjq s k w):=by
 go_enter func97,ntmps97;go_wp2_with fail;go_loopw [1,6] (fun s1 s6 wr=>∃(m:Nat) (A:Option Addr) (c:Nat),k+m<=s.length/\s1=.int .i64 ((k+m:Nat):Int)/\s6=.slice A m c/\Hid (((s.drop k).take m).all Gr.dig=true/\OwnRow intL wr w.heap.size 3 (.slice A m c) (vals ((s.drop k).take m))/\Below w.heap.size w wr)) (fun s1 _ _=>s.length-(intOf s1).toNat)
 case atStart=>exact⟨0,none,0,by omega,rfl,rfl,hid ⟨by simp,OwnRow.nil,Below.refl _ _⟩⟩
 case round=>
  obtain⟨m,A,c,q,rfl,rfl,a⟩:=hrel;have g:(vals ((s.drop k).take m)).length=m:=by simp[vals];omega
  have t:=hid g;have i:Hid (w.heap.size<=wr.heap.size):=hid a.out.2.2.size;clear g;by_cases hlt:k+m<s.length
  ·have j:((k+m:Nat):Int)<(s.length:Int):=by omega
   obtain⟨b,l⟩:∃b:Nat,(s[k+m]'(by omega)).toNat=b:=⟨_,rfl⟩
   have hbv:(((⟨s.toArray⟩:ByteArray)[k+m]'(by simpa[ByteArray.size]using hlt)).toNat:Int)=(b:Int):=by rw[<-l];rfl
   have hbl:b<256:=by rw[<-l];exact(s[k+m]'hlt).toNat_lt
   have h:Hid (Gr.dig (s[k+m]'hlt)=(decide (48<=b) && decide (b<=57))/\Gr.dv (s[k+m]'hlt)=b-48):=hid ⟨by
    rw[Bool.eq_iff_iff,zbf,l];simp,by unfold Gr.dv;rw[l]⟩
   clear l;by_cases hd:48<=b/\b<=57
   ·obtain⟨f,D⟩:=hd;have p:(48:Int)<=(b:Int):=by omega
    have C:(b:Int)<=57:=by omega
    have n:Hid ((s.drop k).take (m+1)=(s.drop k).take m++[s[k+m]'hlt]):=hid (by
     rw[List.take_succ_eq_append_getElem (by simp;omega),List.getElem_drop])
    go_upto_region 3 with fail;obtain⟨x,F⟩:∃x:Nat,b-48=x:=⟨_,rfl⟩
    have y:(b:Int)-48=(x:Int):=by omega
    have J:=hid F;clear F;go_wp2_with (at_builtin;go_must (refine zab _ rfl (.tmp 23) (.tmp 29) 33 3 8 rfl intT w.heap.size (.slice A m c) (vals ((s.drop k).take m)) rfl (a.out.2.1.alloc _) _ _ 1 [x] rfl (RowAt.lit1 _ _ (by first|rfl| (rw[y];rfl)) _ ?_) ?_ ?_ ?_))
    any_goals (first|rfl| (have:=t.out;simp;omega)| (rw[World.size_alloc];have:=i.out;omega))
    intro v' v e I B;have r:Below w.heap.size w v:=(a.out.2.2.alloc i.out _).trans ((a.out.2.1.alloc _).grown_below I (by rw[World.size_alloc];have:=i.out;omega));obtain⟨H,E,o,_⟩:=e.form;have d:(vals ((s.drop k).take m)++[x]).length=m+1:=by rw[List.length_append,t.out];rfl
    rw[d]at o;subst o;have z:Hid (((s.drop k).take (m+1)).all Gr.dig=true/\OwnRow intL v w.heap.size 3 (.slice H (m+1) E) (vals ((s.drop k).take (m+1)))/\Below w.heap.size w v):=hid ⟨by
     rw[n.out,List.all_append,a.out.1];simp[h.out.1,f,D],by
     rw[n.out,show vals ((s.drop k).take m++[s[k+m]'hlt])=vals ((s.drop k).take m)++[x]from by simp[vals,h.out.2,J.out]];exact e,r⟩
    clear e I B r d;go_wp2;go_roundw
    case rel=>exact⟨m+1,H,E,by omega,by go_num,rfl,z⟩
    case measure=>simp[intOf];omega
   ·have u:Hid (rdg s k=(s.drop k).take m):=hid (zp5 s k m a.out.1 q (fun G=>by rw[h.out.1];by_cases f:48<=b<;>simp[f]<;>omega));by_cases f:48<=b
    ·have p:(48:Int)<=(b:Int):=by omega
     have C:¬(b:Int)<=57:=by omega
     go_wp2;go_ret2;exact zjr u.out (by omega) q a.out.2.1 a.out.2.2
    ·have p:¬(48:Int)<=(b:Int):=by omega
     go_wp2;go_ret2;exact zjr u.out (by omega) q a.out.2.1 a.out.2.2
  ·have j:¬((k+m:Nat):Int)<(s.length:Int):=by omega
   have u:Hid (rdg s k=(s.drop k).take m):=hid (zp5 s k m a.out.1 q (fun G=>absurd G hlt));go_wp2;go_ret2;exact zjr u.out (by omega) q a.out.2.1 a.out.2.2
theorem zc5 (n:Nat) (hn:n<=4611686018427387904) (w:World):Calls prog 100 #[.int .i64 (n:Int)] w fun e w'=>e=.returned (.string ⟨(Lib.decDigits n).toArray⟩)/\Below w.heap.size w w':=by
 induction n using Nat.strongRecOn generalizing w with
 |_ n ih=>
  have h0:¬(n:Int)<0:=by omega
  by_cases h9:9<n
  ·have q:(9:Int)<(n:Int):=by omega
   have o:=hid (fun W=>ih (n /10) (by omega) (by omega) W);have g:=hid (fun W=>ih (n%10) (by omega) (by omega) W);have y:=hid (zav (u:=n) (by omega));have z:((n:Int) /10)=((n /10:Nat):Int):=by omega
   have A:((n:Int)%10)=((n%10:Nat):Int):=by omega
   have v:(Lib.decDigits (n /10)).length<=20:=by rw[Lib.decDigits_length];exact zbl 19 _ (by omega)
   have s:(Lib.decDigits (n%10)).length<=20:=by rw[Lib.decDigits_length];exact zbl 19 _ (by omega)
   have f:=fun W=>zac (Lib.decDigits (n /10)) (Lib.decDigits (n%10)) (by omega) W
   have C:Lib.decDigits n=Lib.decDigits (n /10)++Lib.decDigits (n%10):=by rw[y.out,Lib.decDigits_one (i:=n%10) (by omega)]
   obtain⟨E,b⟩:=ex (Lib.decDigits (n /10))
   obtain⟨D,a⟩:=ex (Lib.decDigits (n%10))
   have r:Hid (Lib.decDigits n=E++D):=hid (by rw[C,b,a]);rw[b,a]at f;rw[b,<-z]at o;rw[a,<-A]at g;have HN:=hid hn;have hnI:(n:Int)<=4611686018427387904:=by omega
   clear ih z A v s C b a y hn;go_enter func100,ntmps100;go_wp2_with fail;refine(o.out _).mono ?_;rintro e w1 ⟨rfl,k⟩;have j:=hid k;clear k;go_wp2_with fail;refine(g.out _).mono ?_;rintro e w2 ⟨rfl,d⟩;have x:=hid (j.out.trans (d.mono j.out.size));clear d;go_wp2;go_ret;rw[r.out];exact⟨rfl,x.out⟩
  ·have q:¬(9:Int)<(n:Int):=by omega
   obtain⟨c,t⟩:∃c:UInt8,c=UInt8.ofNat (48+n):=⟨_,rfl⟩
   have m:(48:Int)+(n:Int)=(c.toNat:Int):=by rw[t,UInt8.toNat_ofNat'];omega
   have r:Hid (Lib.decDigits n=[c]):=hid (by rw[t];exact Lib.decDigits_one (by omega));have h:=fun W=>zdt (B:=w.heap.size+1) W [c] (some ⟨w.heap.size,0,none⟩) 1
   have p:=hid h;have hn9:(n:Int)<=9:=by omega
   have hn0:(0:Int)<=(n:Int):=by omega
   clear ih t h hn;go_enter func100,ntmps100;go_upto_region 5 with fail;have l:(convert 119 9 (.slice (some ⟨w.heap.size,0,none⟩) 1 1)).run prog (w.alloc (.cells #[.int .u8 (c.toNat:Int)] 5))=.ok (.string ⟨[c].toArray⟩) (w.alloc (.cells #[.int .u8 (c.toNat:Int)] 5)):=p.out (w.alloc (.cells #[.int .u8 (c.toNat:Int)] 5)) (RowAt.lit1 c _ rfl _ rfl);rw[<-m]at l;clear m;go_wp2;go_ret;rw[r.out];exact⟨rfl,(Below.refl _ _).alloc (Nat.le_refl _) _⟩
theorem zjs (n:Int) (h0:-4611686018427387904<=n) (h1:n<=4611686018427387904) (w:World):Calls prog 100 #[.int .i64 n] w fun e w'=>e=.returned (.string ⟨(Lib.itoa n).toArray⟩)/\Below w.heap.size w w':=by
 by_cases hn:n<0
 ·have d:=hid (fun W=>zc5 n.natAbs (by omega) W);rw[show(n.natAbs:Int)=-n from by omega]at d;have b:(Lib.decDigits n.natAbs).length<=20:=by rw[Lib.decDigits_length];exact zbl 19 _ (by omega)
  have hadd:=fun W=>zac [45] (Lib.decDigits n.natAbs) (by simp;omega) W
  have f:Hid (Lib.itoa n=[45]++Lib.decDigits n.natAbs):=hid (by unfold Lib.itoa;rw[if_pos hn];rfl);clear b;go_enter func100,ntmps100;go_wp2_with fail;refine(d.out _).mono ?_;rintro e w1 ⟨rfl,a⟩;have c:=hid a;clear a;go_wp2;go_ret;rw[f.out];exact⟨rfl,c.out⟩
 ·have:=zc5 n.toNat (by omega) w;rw[show(n.toNat:Int)=n from by omega]at this;unfold Lib.itoa;rw[if_neg hn];exact this
theorem zmo (x:Gr.Dn) (A:Option Addr) (c:Nat) (hl:x.d.length<=1073741823) (w:World):
 Calls prog 76 #[.agg #[.bool x.neg,.slice A x.d.length c,.int .i64 x.e]] w fun e w'=>e=.returned (.int .i64 (lim x:Nat))/\Below w.heap.size w w':=by
 obtain⟨neg,d,e⟩:=x;simp only at hl ⊢;have g:Below w.heap.size w (w.alloc (.cells #[.bool neg,.slice A d.length c,.int .i64 e] 69)):=(Below.refl _ _).alloc (Nat.le_refl _) _;have b:=hid g;clear g;by_cases h1:400<d.length
 ·have a:Hid (lim ⟨neg,d,e⟩=6):=hid (by unfold lim;rw[if_pos h1]);have f:(400:Int)<(d.length:Int):=by omega
  go_enter func76,ntmps76;go_wp2;go_ret;rw[a.out];exact⟨rfl,b.out⟩
 ·have f:¬(400:Int)<(d.length:Int):=by omega
  by_cases h2:2000<e
  ·have a:Hid (lim ⟨neg,d,e⟩=2):=hid (by unfold lim;rw[if_neg h1,if_pos (.inr h2)]);go_enter func76,ntmps76;go_wp2;go_ret;rw[a.out];exact⟨rfl,b.out⟩
  ·by_cases h3:e< -2000
   ·have a:Hid (lim ⟨neg,d,e⟩=2):=hid (by unfold lim;rw[if_neg h1,if_pos (.inl h3)]);go_enter func76,ntmps76;go_wp2;go_ret;rw[a.out];exact⟨rfl,b.out⟩
   ·have a:Hid (lim ⟨neg,d,e⟩=0):=hid (by unfold lim;rw[if_neg h1,if_neg (fun h=>h.elim h3 h2)]);go_enter func76,ntmps76;go_wp2;go_ret;rw[a.out];exact⟨rfl,b.out⟩
theorem zp6 (neg:Bool) (A:Option Addr) (n c:Nat) (e:Int) (w:World):
 Calls prog 129 #[.agg #[.bool neg,.slice A n c,.int .i64 e]] w fun e' w'=>e'=.returned (.string ⟨(signS neg).toArray⟩)/\Below w.heap.size w w':=by
 have a:Below w.heap.size w (w.alloc (.cells #[.bool neg,.slice A n c,.int .i64 e] 69)):=(Below.refl _ _).alloc (Nat.le_refl _) _;have b:=hid a;clear a;cases neg
 all_goals
  go_enter func129,ntmps129;go_wp2;go_ret;exact⟨rfl,b.out⟩
theorem zs8 (A:Option Addr) (d:List Nat) (c:Nat) (hl:d.length<=1073741823) (hd:∀v∈d,v<10) (w:World) (h:RowAt intL w w.heap.size A d):
 Calls prog 130 #[.slice A d.length c] w fun e' w'=>e'=.returned (.string ⟨(d.map Gr.ch).toArray⟩)/\Below w.heap.size w w':=by
 have z:=hid hd;have m:=hid h;clear hd h;go_enter func130,ntmps130;go_wp2_with fail;go_loopw [3,4] (fun s3 s4 wr=>∃k:Nat,k<=d.length/\s3=.string ⟨((d.take k).map Gr.ch).toArray⟩/\s4=.int .i64 k/\Hid (Below w.heap.size w wr)) (fun _ s4 _=>d.length-(intOf s4).toNat)
 case atStart=>exact⟨0,by omega,rfl,rfl,hid (Below.refl _ _)⟩
 case round=>
  obtain⟨k,hk,rfl,rfl,o⟩:=hrel;by_cases hlt:k<d.length
  ·have l:(k:Int)<(d.length:Int):=by omega
   obtain⟨v,n⟩:=ex (d[k])
   have f:v<10:=by rw[<-n];exact z.out _ (List.getElem_mem hlt)
   obtain⟨ad,rfl,_,B⟩:=zae (m.out.below o.out) hlt;rw[n]at B;have q:=hid (fun W=>zc5 v (by omega) W);rw[Lib.decDigits_one f,show[UInt8.ofNat (48+v)]=[Gr.ch v]from rfl]at q;have i:((d.take k).map Gr.ch).length=k:=by simp;omega
   have b:=fun W=>zac ((d.take k).map Gr.ch) [Gr.ch v] (by rw[i];simp;omega) W
   have a:Hid ((d.take (k+1)).map Gr.ch=(d.take k).map Gr.ch++[Gr.ch v]):=hid (by
    rw[List.take_succ_eq_append_getElem hlt,List.map_append,n];rfl)
   obtain⟨r,t⟩:=ex ((d.take k).map Gr.ch)
   obtain⟨r2,g⟩:=ex ((d.take (k+1)).map Gr.ch)
   obtain⟨x,u⟩:∃x:Gr.Str,[Gr.ch v]=x:=⟨_,rfl⟩
   rw[t]at b a ⊢;rw[g]at a;rw[u]at b a q;have p:=hid g;clear n f i t g u;go_wp2_with fail;refine(q.out _).mono ?_;rintro e y ⟨rfl,j⟩;have s:Hid (Below w.heap.size w y):=hid (o.out.trans (j.mono o.out.size));clear j;go_wp2;go_roundw
   case rel=>exact⟨k+1,by omega,by rw[p.out,a.out],by go_num,s⟩
   case measure=>simp[intOf];omega
  ·have l:¬(k:Int)<(d.length:Int):=by omega
   have C:Hid ((d.map Gr.ch).take k=d.map Gr.ch):=hid (List.take_of_length_le (by simp;omega));go_wp2;go_ret;rw[C.out];exact⟨rfl,o.out⟩
theorem zp7 (x:Gr.Dn) (A:Option Addr) (c:Nat) (hl:x.d.length<=1073741823) (hd:∀v∈x.d,v<10) (w:World) (h:RowAt intL w w.heap.size A x.d):
 Calls prog 99 #[.agg #[.bool x.neg,.slice A x.d.length c,.int .i64 x.e]] w fun e' w'=>e'=.returned (.string ⟨(coef x).toArray⟩)/\Below w.heap.size w w':=by
 obtain⟨neg,d,E⟩:=x;simp only at hl hd h ⊢;have i:=hid h;have z:=hid hd;clear h hd;obtain⟨r,l⟩:=ex (coef ⟨neg,d,E⟩)
 have t:=hid l;rw[l];clear l;go_enter func99,ntmps99;go_upto_region 1 with fail;obtain⟨b,j⟩:=ex (w.alloc (.cells #[.bool neg,.slice A d.length c,.int .i64 E] 69))
 obtain⟨g,f⟩:=ex w.heap.size
 have a:Hid (Blk b g 69 #[.bool neg,.slice A d.length c,.int .i64 E]/\Below g w b/\b.heap.size=g+1):=hid (by rw[<-j,<-f];exact⟨Blk.new _ _ _,(Below.refl _ _).alloc (Nat.le_refl _) _,by simp⟩);have k:=hid f;rw[f]at i;(try rw[j]);(try rw[f]);clear j f;have B:b.cell? ⟨g,1,none⟩=some (.slice A d.length c):=a.out.1.cell 1;by_cases h0:d=[]
 ·subst h0;have n:Hid (r=[48]):=hid (by rw[<-t.out];rfl);go_wp2;go_ret;rw[n.out,k.out];exact⟨rfl,a.out.2.1⟩
 ·have hlp:=List.length_pos_iff.2 h0;have h1:¬((d.length:Int)=0):=by omega
  have h1b:((d.length:Int)==0)=false:=by simpa using h0
  have n:Hid (r=signS neg++d.map Gr.ch):=hid (by rw[<-t.out];unfold coef;rw[if_neg h0];rfl);go_upto_region 3 with fail;clear B;have s:b.heap.size=g+1:=a.out.2.2;have u:Hid (∀W:WB b.heap.size b,Calls prog 129 #[.agg #[.bool neg,.slice A d.length c,.int .i64 E]] W.w (fun e q=>e=.returned (.string ⟨(signS neg).toArray⟩)/\Below b.heap.size b q)/\Calls prog 130 #[.slice A d.length c] W.w (fun e q=>e=.returned (.string ⟨(d.map Gr.ch).toArray⟩)/\Below b.heap.size b q)):=hid (fun W=>⟨(zp6 neg A d.length c E W.w).mono (fun _ _ ⟨m,o⟩=>⟨m,W.h.trans (o.mono W.h.size)⟩),(zs8 A d c hl z.out W.w (((i.out.below a.out.2.1).below (W.h.mono (by omega))).more (by have:=W.h.size;omega))).mono (fun _ _ ⟨m,o⟩=>⟨m,W.h.trans (o.mono W.h.size)⟩)⟩);have p0:∀W:WB b.heap.size b,W.w.cell? ⟨g,0,none⟩=some (.bool neg):=fun W=>(W.h.cell (p:=⟨g,0,none⟩) (by simp;omega)).trans (a.out.1.cell 0)
  have p1:∀W:WB b.heap.size b,W.w.cell? ⟨g,1,none⟩=some (.slice A d.length c):=fun W=>(W.h.cell (p:=⟨g,1,none⟩) (by simp;omega)).trans (a.out.1.cell 1)
  have p2:∀W:WB b.heap.size b,W.w.cell? ⟨g,2,none⟩=some (.int .i64 E):=fun W=>(W.h.cell (p:=⟨g,2,none⟩) (by simp;omega)).trans (a.out.1.cell 2)
  clear s;have hadd:=fun W=>zac (signS neg) (d.map Gr.ch) (by have:=zdf neg;rw[List.length_map];omega) W
  refine zaa b.heap.size b (by kernel_rfl) (by kernel_rfl) (Below.refl _ _) ?_
  repeat (go_big_quiet_step ((first| (with_reducible refine Calls.grow (u.out _).1)| (with_reducible refine Calls.grow (u.out _).2))))
  refine wpQuiet_nil ?_;rintro _ ⟨y,rfl⟩;go_wp2;go_ret;rw[n.out,k.out];exact⟨rfl,a.out.2.1.trans (y.h.mono (by have:=a.out.2.2;omega))⟩
theorem zp8 (x:Gr.Dn) (A:Option Addr) (c:Nat) (hl:x.d.length<=1073741823) (hd:∀v∈x.d,v<10) (h0:-4611686018427387904<=x.e) (h1:x.e<=4611686018427387904) (w:World) (h:RowAt intL w w.heap.size A x.d):
 Calls prog 77 #[.agg #[.bool x.neg,.slice A x.d.length c,.int .i64 x.e]] w fun e' w'=>e'=.returned (.string ⟨(Gr.text x).toArray⟩)/\Below w.heap.size w w':=by
 have j:=hid (fun(W:World) (hW:RowAt intL W W.heap.size A x.d)=>zp7 x A c hl hd W hW);have q:(coef x).length<=1073741825:=by
  unfold coef;split
  ·simp
  ·have:=zdf x.neg;unfold signS at this;rw[List.length_append,List.length_map];omega
 have n:=zgq x.e (by omega) (by omega);obtain⟨r,u⟩:=ex (coef x)
 obtain⟨H,l⟩:=ex (Gr.text x)
 have o:Hid (H=r++101::Lib.itoa x.e):=hid (by rw[<-l,<-u];rfl);rw[u]at j q;rw[l];clear u l;obtain⟨neg,d,E⟩:=x;simp only at hl h0 h1 h j n o ⊢;obtain⟨t,F⟩:=ex (Lib.itoa E)
 have m:=hid (fun(W:World)=>zjs E h0 h1 W);rw[F]at n o m;clear F;have i:=hid h;clear h hd;go_enter func77,ntmps77;go_upto_region 1 with fail;obtain⟨a,k⟩:=ex (w.alloc (.cells #[.bool neg,.slice A d.length c,.int .i64 E] 69))
 obtain⟨g,f⟩:=ex w.heap.size
 have b:Hid (Blk a g 69 #[.bool neg,.slice A d.length c,.int .i64 E]/\Below g w a/\a.heap.size=g+1):=hid (by rw[<-k,<-f];exact⟨Blk.new _ _ _,(Below.refl _ _).alloc (Nat.le_refl _) _,by simp⟩);have z:=hid f;rw[f]at i;(try rw[k]);(try rw[f]);clear k f;have C:a.heap.size=g+1:=b.out.2.2;have D:Hid (∀W:WB a.heap.size a,Calls prog 99 #[.agg #[.bool neg,.slice A d.length c,.int .i64 E]] W.w (fun e s=>e=.returned (.string ⟨r.toArray⟩)/\Below a.heap.size a s)/\Calls prog 100 #[.int .i64 E] W.w (fun e s=>e=.returned (.string ⟨t.toArray⟩)/\Below a.heap.size a s)):=hid (fun W=>⟨(j.out W.w (((i.out.below b.out.2.1).below (W.h.mono (by omega))).more (by have:=W.h.size;omega))).mono (fun _ _ ⟨y,B⟩=>⟨y,W.h.trans (B.mono W.h.size)⟩),(m.out W.w).mono (fun _ _ ⟨y,B⟩=>⟨y,W.h.trans (B.mono W.h.size)⟩)⟩);have p0:∀W:WB a.heap.size a,W.w.cell? ⟨g,0,none⟩=some (.bool neg):=fun W=>(W.h.cell (p:=⟨g,0,none⟩) (by simp;omega)).trans (b.out.1.cell 0)
 have p1:∀W:WB a.heap.size a,W.w.cell? ⟨g,1,none⟩=some (.slice A d.length c):=fun W=>(W.h.cell (p:=⟨g,1,none⟩) (by simp;omega)).trans (b.out.1.cell 1)
 have p2:∀W:WB a.heap.size a,W.w.cell? ⟨g,2,none⟩=some (.int .i64 E):=fun W=>(W.h.cell (p:=⟨g,2,none⟩) (by simp;omega)).trans (b.out.1.cell 2)
 have hadd:=fun W=>zac r [101] (by simp;omega) W
 have hadd2:=fun W=>zac (r++[101]) t (by simp;omega) W
 clear C;refine zaa a.heap.size a (by kernel_rfl) (by kernel_rfl) (Below.refl _ _) ?_
 repeat (go_big_quiet_step ((first| (with_reducible refine Calls.grow (D.out _).1)| (with_reducible refine Calls.grow (D.out _).2))))
 refine wpQuiet_nil ?_;rintro _ ⟨G,rfl⟩;go_wp2;go_ret;rw[o.out,z.out];exact⟨rfl,b.out.2.1.trans (G.h.mono (by have:=b.out.2.2;omega))⟩
def rngB (date:Bool) (y m d h mi c:Int) (late:Bool):Bool:=(!date || (decide (1<=m) && decide (m<=12) && decide (1<=d) && decide (d<=Cal.dim y m))) && !late && decide (h<=23) && decide (mi<=59) && decide (c<=59)
theorem zea (date time zone:Bool) (y m d h mi c nanos off:Int) (late:Bool) (w:World):
 Calls prog 104 #[.agg #[.bool date,.bool time,.bool zone,.int .i64 y,.int .i64 m,.int .i64 d,.int .i64 h,.int .i64 mi,.int .i64 c,.int .i64 nanos,.int .i64 off,.bool late]] w fun e w'=>e=.returned (.bool (rngB date y m d h mi c late))/\Below w.heap.size w w':=by
 have J:date=false\/(date=true/\m<1)\/(date=true/\¬m<1/\12<m)\/(date=true/\¬m<1/\¬12<m/\d<1)\/(date=true/\¬m<1/\¬12<m/\¬d<1/\Cal.dim y m<d)\/(date=true/\¬m<1/\¬12<m/\¬d<1/\¬Cal.dim y m<d):=by
  cases date<;>simp<;>omega
 obtain⟨q,z⟩:=ex (Cal.dim y m)
 have H:=hid z;rw[z]at J;clear z;have v:Hid (1<=m->m<=12->∀W,Calls prog 138 #[.int .i64 y,.int .i64 m] W fun e w'=>e=.returned (.int .i64 q)/\W=w'):=hid (fun t u W=>by rw[<-H.out];exact zdy y m t u W);obtain⟨r,D⟩:=ex (rngB date y m d h mi c late)
 have I:=hid D;rw[D];clear D;rcases J with rfl|⟨rfl,t⟩|⟨rfl,t,u⟩|⟨rfl,t,u,h3⟩|⟨rfl,t,u,h3,h4⟩|⟨rfl,t,u,h3,h4⟩
 ·have o:Hid (∀W,1<=m->m<=12->Calls prog 138 #[.int .i64 y,.int .i64 m] W fun e w'=>e=.returned (.int .i64 q)/\W=w'):=hid (fun W a b=>v.out a b W);go_enter func104,ntmps104;go_upto_region 1 with fail;obtain⟨g,k⟩:=ex w.heap.size
  obtain⟨i,l⟩:∃i,i=w.alloc (.cells #[.bool false,.bool time,.bool zone,.int .i64 y,.int .i64 m,.int .i64 d,.int .i64 h,.int .i64 mi,.int .i64 c,.int .i64 nanos,.int .i64 off,.bool late] 111):=⟨_,rfl⟩
  have f:Hid (Blk i g 111 (T12 false time zone y m d h mi c nanos off late)/\Below g w i):=hid (by rw[l,<-k];exact⟨Blk.new _ _ _,(Below.refl _ _).alloc (Nat.le_refl _) _⟩);have s:=hid k;(try rw[<-l]);(try rw[k]);clear l k;have F:∀W:WB i.heap.size i,W.w.cell? ⟨g,0,none⟩=some (.bool false):=fun W=>(W.h.cell (p:=⟨g,0,none⟩) f.out.1.lt).trans (f.out.1.cell 0)
  have A:∀W:WB i.heap.size i,W.w.cell? ⟨g,3,none⟩=some (.int .i64 y):=fun W=>(W.h.cell (p:=⟨g,3,none⟩) f.out.1.lt).trans (f.out.1.cell 3)
  have C:∀W:WB i.heap.size i,W.w.cell? ⟨g,4,none⟩=some (.int .i64 m):=fun W=>(W.h.cell (p:=⟨g,4,none⟩) f.out.1.lt).trans (f.out.1.cell 4)
  have B:∀W:WB i.heap.size i,W.w.cell? ⟨g,5,none⟩=some (.int .i64 d):=fun W=>(W.h.cell (p:=⟨g,5,none⟩) f.out.1.lt).trans (f.out.1.cell 5)
  refine zaa i.heap.size i (by kernel_rfl) (by kernel_rfl) (Below.refl _ _) ?_
  iterate 27 (try go_big_quiet_step ((with_reducible refine Calls.grow ((o.out _ (by omega) (by omega)).mono (fun _ _ ⟨E,G⟩=>⟨E,G▸WB.h _⟩)))))
  refine wpQuiet_nil ?_;rintro _ ⟨n,rfl⟩;clear F A C B;have j:=f.out.1.below n.h f.out.1.lt;have K:n.w.cell? ⟨g,6,none⟩=some (.int .i64 h):=j.cell 6;have L:n.w.cell? ⟨g,7,none⟩=some (.int .i64 mi):=j.cell 7;have M:n.w.cell? ⟨g,8,none⟩=some (.int .i64 c):=j.cell 8;have x:n.w.cell? ⟨g,11,none⟩=some (.bool late):=j.cell 11;clear j;cases late
  all_goals go_wp2_with fail
  all_goals go_ret
  all_goals
   rw[s.out];refine⟨congrArg (fun b=>Ending.returned (.bool b)) ?_,f.out.2.trans (n.h.mono (Nat.le_of_lt f.out.1.lt))⟩;rw[<-I.out];unfold rngB;rw[H.out]
   first| (simp[*];done)| (simp;omega)
 all_goals
  have o:Hid (∀W,1<=m->m<=12->Calls prog 138 #[.int .i64 y,.int .i64 m] W fun e w'=>e=.returned (.int .i64 q)/\W=w'):=hid (fun W a b=>v.out a b W);go_enter func104,ntmps104;go_upto_region 1 with fail;obtain⟨g,k⟩:=ex w.heap.size
  obtain⟨i,l⟩:∃i,i=w.alloc (.cells #[.bool true,.bool time,.bool zone,.int .i64 y,.int .i64 m,.int .i64 d,.int .i64 h,.int .i64 mi,.int .i64 c,.int .i64 nanos,.int .i64 off,.bool late] 111):=⟨_,rfl⟩
  have f:Hid (Blk i g 111 (T12 true time zone y m d h mi c nanos off late)/\Below g w i):=hid (by rw[l,<-k];exact⟨Blk.new _ _ _,(Below.refl _ _).alloc (Nat.le_refl _) _⟩);have s:=hid k;(try rw[<-l]);(try rw[k]);clear l k;have F:∀W:WB i.heap.size i,W.w.cell? ⟨g,0,none⟩=some (.bool true):=fun W=>(W.h.cell (p:=⟨g,0,none⟩) f.out.1.lt).trans (f.out.1.cell 0)
  have A:∀W:WB i.heap.size i,W.w.cell? ⟨g,3,none⟩=some (.int .i64 y):=fun W=>(W.h.cell (p:=⟨g,3,none⟩) f.out.1.lt).trans (f.out.1.cell 3)
  have C:∀W:WB i.heap.size i,W.w.cell? ⟨g,4,none⟩=some (.int .i64 m):=fun W=>(W.h.cell (p:=⟨g,4,none⟩) f.out.1.lt).trans (f.out.1.cell 4)
  have B:∀W:WB i.heap.size i,W.w.cell? ⟨g,5,none⟩=some (.int .i64 d):=fun W=>(W.h.cell (p:=⟨g,5,none⟩) f.out.1.lt).trans (f.out.1.cell 5)
  refine zaa i.heap.size i (by kernel_rfl) (by kernel_rfl) (Below.refl _ _) ?_
  iterate 27 (try go_big_quiet_step ((with_reducible refine Calls.grow ((o.out _ (by omega) (by omega)).mono (fun _ _ ⟨E,G⟩=>⟨E,G▸WB.h _⟩)))))
  refine wpQuiet_nil ?_;rintro _ ⟨n,rfl⟩;clear F A C B;have j:=f.out.1.below n.h f.out.1.lt;have K:n.w.cell? ⟨g,6,none⟩=some (.int .i64 h):=j.cell 6;have L:n.w.cell? ⟨g,7,none⟩=some (.int .i64 mi):=j.cell 7;have M:n.w.cell? ⟨g,8,none⟩=some (.int .i64 c):=j.cell 8;have x:n.w.cell? ⟨g,11,none⟩=some (.bool late):=j.cell 11;clear j;cases late
  all_goals go_wp2_with fail
  all_goals go_ret
  all_goals
   rw[s.out];refine⟨congrArg (fun b=>Ending.returned (.bool b)) ?_,f.out.2.trans (n.h.mono (Nat.le_of_lt f.out.1.lt))⟩;rw[<-I.out];unfold rngB;rw[H.out]
   first| (simp[*];done)| (simp;omega)
end Go.Proofs.YtoigpackhninoaaGreatDoor
