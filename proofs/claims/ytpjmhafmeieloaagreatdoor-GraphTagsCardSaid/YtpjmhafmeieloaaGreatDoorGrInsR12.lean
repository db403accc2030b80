import Derived.Test.YtpjmhafmeieloaaGreatDoorZ20
import Derived.Test.YtpjmhafmeieloaaGreatDoorGrInsR11
namespace Go.Proofs.YtpjmhafmeieloaaGreatDoor
open Gr
open _root_.Go.Proofs.Tryz
open _root_.Go.Lib (hid)
set_option maxRecDepth 100000
set_option maxHeartbeats 16000000
open Go.RowKit
def toRT (x:Gr.Mo):RT:=⟨x.date,x.time,decide (x.z≠0),x.y,x.m,x.d,x.h,x.mi,x.c,x.nanos,offS x,decide (23<x.zh) || decide (59<x.zm)⟩
def RdPost (s:Gr.Str) (w:World) (e:Ending) (w':World):Prop:=∃(t:RT) (ok:Bool),e=.returned (.tuple #[t.v,.bool ok])/\Below w.heap.size w w'/\
 match Gr.rd s with
 |none=>ok=false
 |some x=>ok=true/\t=toRT x
theorem far12 {w:World} {g k:Nat} {t:TypeId} {cs:Array Value} (hne:k≠g) {v0 v1 v2 v3 v4 v5 v6 v7 v8 v9 v10 v11:Value} (h:Blk w k t cs):Blk ((((((((((((w.setCell ⟨g,0,none⟩ (v0)).setCell ⟨g,1,none⟩ (v1)).setCell ⟨g,2,none⟩ (v2)).setCell ⟨g,3,none⟩ (v3)).setCell ⟨g,4,none⟩ (v4)).setCell ⟨g,5,none⟩ (v5)).setCell ⟨g,6,none⟩ (v6)).setCell ⟨g,7,none⟩ (v7)).setCell ⟨g,8,none⟩ (v8)).setCell ⟨g,9,none⟩ (v9)).setCell ⟨g,10,none⟩ (v10)).setCell ⟨g,11,none⟩ (v11)) k t cs:=
 ((((((((((((h.far hne v0).far hne v1).far hne v2).far hne v3).far hne v4).far hne v5).far hne v6).far hne v7).far hne v8).far hne v9).far hne v10).far hne v11)
theorem put12 {w0 w:World} {g:Nat} {t:TypeId} {c0 c1 c2 c3 c4 c5 c6 c7 c8 c9 c10 c11:Value} (b0 b1 b2:Bool) (i3 i4 i5 i6 i7 i8 i9 i10:Int) (b11:Bool) (h:Blk w g t #[c0,c1,c2,c3,c4,c5,c6,c7,c8,c9,c10,c11]/\Below g w0 w):Blk ((((((((((((w.setCell ⟨g,0,none⟩ (.bool b0)).setCell ⟨g,1,none⟩ (.bool b1)).setCell ⟨g,2,none⟩ (.bool b2)).setCell ⟨g,3,none⟩ (.int .i64 i3)).setCell ⟨g,4,none⟩ (.int .i64 i4)).setCell ⟨g,5,none⟩ (.int .i64 i5)).setCell ⟨g,6,none⟩ (.int .i64 i6)).setCell ⟨g,7,none⟩ (.int .i64 i7)).setCell ⟨g,8,none⟩ (.int .i64 i8)).setCell ⟨g,9,none⟩ (.int .i64 i9)).setCell ⟨g,10,none⟩ (.int .i64 i10)).setCell ⟨g,11,none⟩ (.bool b11)) g t (T12 b0 b1 b2 i3 i4 i5 i6 i7 i8 i9 i10 b11)/\Below g w0 ((((((((((((w.setCell ⟨g,0,none⟩ (.bool b0)).setCell ⟨g,1,none⟩ (.bool b1)).setCell ⟨g,2,none⟩ (.bool b2)).setCell ⟨g,3,none⟩ (.int .i64 i3)).setCell ⟨g,4,none⟩ (.int .i64 i4)).setCell ⟨g,5,none⟩ (.int .i64 i5)).setCell ⟨g,6,none⟩ (.int .i64 i6)).setCell ⟨g,7,none⟩ (.int .i64 i7)).setCell ⟨g,8,none⟩ (.int .i64 i8)).setCell ⟨g,9,none⟩ (.int .i64 i9)).setCell ⟨g,10,none⟩ (.int .i64 i10)).setCell ⟨g,11,none⟩ (.bool b11)):=
 ⟨zbb h.1,zcd h.2 (Nat.le_refl g)⟩
theorem zhh {w0 w:World} {g k:Nat} {t t2:TypeId} {cs:Array Value} {c0 c1 c2 c3 c4 c5 c6 c7 c8 c9 c10 c11:Value} (b0 b1 b2:Bool) (i3 i4 i5 i6 i7 i8 i9 i10:Int) (b11:Bool) (h:Blk w g t #[c0,c1,c2,c3,c4,c5,c6,c7,c8,c9,c10,c11]/\Blk w k t2 cs/\Below k w0 w/\k<g):∃x,((((((((((((w.setCell ⟨g,0,none⟩ (.bool b0)).setCell ⟨g,1,none⟩ (.bool b1)).setCell ⟨g,2,none⟩ (.bool b2)).setCell ⟨g,3,none⟩ (.int .i64 i3)).setCell ⟨g,4,none⟩ (.int .i64 i4)).setCell ⟨g,5,none⟩ (.int .i64 i5)).setCell ⟨g,6,none⟩ (.int .i64 i6)).setCell ⟨g,7,none⟩ (.int .i64 i7)).setCell ⟨g,8,none⟩ (.int .i64 i8)).setCell ⟨g,9,none⟩ (.int .i64 i9)).setCell ⟨g,10,none⟩ (.int .i64 i10)).setCell ⟨g,11,none⟩ (.bool b11))=x/\(Blk x g t (T12 b0 b1 b2 i3 i4 i5 i6 i7 i8 i9 i10 b11)/\Blk x k t2 cs/\Below k w0 x/\k<g):=
 ⟨_,rfl,zbb h.1,far12 (by omega) h.2.1,zcd h.2.2.1 (Nat.le_of_lt h.2.2.2),h.2.2.2⟩
theorem keep12 {w0 w w2:World} {g k:Nat} {t t2:TypeId} {cs cs2:Array Value} (h:Blk w g t cs/\Blk w k t2 cs2/\Below k w0 w/\k<g) (hb:Below w.heap.size w w2):Blk w2 g t cs/\Blk w2 k t2 cs2/\Below k w0 w2/\k<g:=
 ⟨h.1.below hb h.1.lt,h.2.1.below hb h.2.1.lt,h.2.2.1.trans (hb.mono (Nat.le_of_lt h.2.1.lt)),h.2.2.2⟩
theorem zqv {s:Gr.Str} {a:Nat} {z:Gr.Zn} (h:zoneAt s a=some z):z.z≠0:=by
 unfold zoneAt at h;split at h
 .injection h with h;subst h;show(90:UInt8)≠0;decide
 .split at h
  .split at h
   .rename_i hc;injection h with h
    subst h;rw[Bool.and_eq_true,Bool.or_eq_true]at hc;unfold isAt at hc;show s.getD a 0≠0;rw[List.getD_eq_getElem?_getD];rcases hc.1 with h1|h1
    .rw[eq_of_beq h1];decide
    .rw[eq_of_beq h1];decide
   .cases h
  .cases h
theorem zlj {s:Gr.Str} {a kh km kc kf ks:Nat} (h:clockAt s a=some ⟨kh,km,kc,kf,ks⟩):ks<=s.length:=by
 unfold clockAt at h;split at h
 .rename_i h1 h2 h3;have b:=(zc1 h3 (by omega)).2.2;split at h
  .split at h
   .rename_i hp;split at h
    .cases h
    .injection h with h
     injection h with _ _ _ _ h5
     have c:((s.drop (a+9)).takeWhile Gr.dig).length<=(s.drop (a+9)).length:=(List.takeWhile_sublist Gr.dig).length_le;rw[List.length_drop]at c;have:a+8<s.length:=by
      unfold isAt at hp;rcases Nat.lt_or_ge (a+8) s.length with h6|h6
      .exact h6
      .rw[List.getElem?_eq_none h6]at hp;cases hp
     omega
   .injection h with h
    injection h with _ _ _ _ h5
    omega
  .cases h
 .cases h
theorem zix (s:Gr.Str) (hl:s.length<=1073741823) (DA:dateAt s=none) (w:World):
 Calls prog 152 #[.string ⟨s.toArray⟩] w (RdPost s w):=by
 have ah:=hid (fun W=>ziw s hl W);have ab:=hid (fun W=>zgi s hl 0 0 rfl (by omega) false 0 0 0 W);go_enter func152,ntmps152;go_upto_region 1 with fail;obtain⟨b,h⟩:=ex w.heap.size
 obtain⟨H,l⟩:∃H,H=w.alloc (.cells #[.bool false,.bool false,.bool false,.int .i64 0,.int .i64 0,.int .i64 0,.int .i64 0,.int .i64 0,.int .i64 0,.int .i64 0,.int .i64 0,.bool false] 162):=⟨_,rfl⟩
 have f:Hid (Blk H b 162 (T12 false false false 0 0 0 0 0 0 0 0 false)/\Below b w H/\H.heap.size=b+1):=hid (by rw[l,<-h];exact⟨Blk.new _ _ _,(Below.refl _ _).alloc (Nat.le_refl _) _,by simp⟩);have ac:=hid h;(try rw[<-l]);(try rw[h]);clear l h;go_wp2_with fail;refine(ah.out _).mono ?_;rintro e C ⟨⟨t0,Z,t2,Y,t4,t5,t6,X,t8,t9,q,p⟩,r,rfl,g,hm⟩;have i:Hid (Blk C b 162 (T12 false false false 0 0 0 0 0 0 0 0 false)/\Below b w C/\b<C.heap.size):=hid ⟨f.out.1.below g f.out.1.lt,f.out.2.1.trans (g.mono (by have:=f.out.2.2;omega)),by have:=f.out.2.2;have:=g.size;omega⟩;rw[DA]at hm;simp only at hm;subst hm;have ag:=hid DA;clear DA;simp only[RT.v];clear g;go_upto_region 2 with fail;obtain⟨t,n⟩:=ex C.heap.size
 obtain⟨z,m⟩:=ex (C.alloc (.cells #[.bool t0,.bool Z,.bool t2,.int .i64 Y,.int .i64 t4,.int .i64 t5,.int .i64 t6,.int .i64 X,.int .i64 t8,.int .i64 t9,.int .i64 q,.bool p] 162))
 have S:Hid (Blk z t 162 (T12 t0 Z t2 Y t4 t5 t6 X t8 t9 q p)/\Blk z b 162 (T12 false false false 0 0 0 0 0 0 0 0 false)/\Below b w z/\b<t):=hid (by
  rw[<-m,<-n];exact⟨Blk.new _ _ _,i.out.1.alloc _,i.out.2.1.alloc (Nat.le_of_lt i.out.2.2) _,i.out.2.2⟩)
 (try rw[m]);(try rw[n]);clear m n;obtain⟨q0,q1,q2,q3,q4,q5,q6,q7,q8,q9,J,Q⟩:=zag S.out.1;have xb:∀j,z.cell? ⟨b,j,none⟩=(#[.bool false,.bool false,.bool false,.int .i64 0,.int .i64 0,.int .i64 0,.int .i64 0,.int .i64 0,.int .i64 0,.int .i64 0,.int .i64 0,.bool false]:Array Value)[j]? :=fun j=>S.out.2.1.cell j
 have xf:∀j,z.frozen? ⟨b,j,none⟩=false:=S.out.2.1.frozen;have U:∀j,z.frozen? ⟨t,j,none⟩=false:=S.out.1.frozen;go_wp2_with fail;refine(ab.out _).mono ?_;rintro e w2 ⟨⟨N,R,I,O,M,D,G,P,F,B,d,c⟩,r2,rfl,E,K⟩;have aa:=hid K;clear q0 q1 q2 q3 q4 q5 q6 q7 q8 q9 J Q xb xf U K;simp only[RT.v];have x:=hid (keep12 S.out E);clear E;have U:∀j,w2.frozen? ⟨t,j,none⟩=false:=x.out.1.frozen;have xa:∀j,w2.cell? ⟨t,j,none⟩=(#[.bool t0,.bool Z,.bool t2,.int .i64 Y,.int .i64 t4,.int .i64 t5,.int .i64 t6,.int .i64 X,.int .i64 t8,.int .i64 t9,.int .i64 q,.bool p]:Array Value)[j]? :=fun j=>x.out.1.cell j
 go_upto_region 4 with fail;obtain⟨A,L,V⟩:=zhh N R I O M D G P F B d c x.out;have a:=hid V;(try rw[L]);clear U xa L V;obtain⟨T,u⟩:=ex (decide (r2=(s.length:Int)))
 have hokb:(r2==(s.length:Int))=T:=by rw[<-u];rfl
 have o:=hid u;clear u;obtain⟨q0,q1,q2,q3,q4,q5,q6,q7,q8,q9,J,Q⟩:=zag a.out.1;have xb:∀j,A.cell? ⟨b,j,none⟩=(#[.bool false,.bool false,.bool false,.int .i64 0,.int .i64 0,.int .i64 0,.int .i64 0,.int .i64 0,.int .i64 0,.int .i64 0,.int .i64 0,.bool false]:Array Value)[j]? :=fun j=>a.out.2.1.cell j
 have xf:∀j,A.frozen? ⟨b,j,none⟩=false:=a.out.2.1.frozen;have U:∀j,A.frozen? ⟨t,j,none⟩=false:=a.out.1.frozen;go_wp2_with fail;have af:Hid (Blk A t 162 (T12 N R I O M D G P F B d c)/\Blk A b 162 (T12 false false false 0 0 0 0 0 0 0 0 false)/\Below b w A):=hid ⟨a.out.1,a.out.2.1,a.out.2.2.1⟩;obtain⟨ad,ae⟩:=put12 N R I O M D G P F B d c af.out.2;obtain⟨e0,e1,e2,e3,e4,e5,e6,e7,e8,e9,e10,e11⟩:=zag ad;refine bodyPost_ret (v:=.tuple #[.agg #[.bool N,.bool R,.bool I,.int .i64 O,.int .i64 M,.int .i64 D,.int .i64 G,.int .i64 P,.int .i64 F,.int .i64 B,.int .i64 d,.bool c],.bool T]) (by rw[results_cell_tmp rfl];go_simp) rfl ?_;unfold RdPost;rw[ac.out];refine⟨⟨N,R,I,O,M,D,G,P,F,B,d,c⟩,T,rfl,ae,?_⟩;unfold Gr.rd;rw[ag.out];simp only;have y:=aa.out;cases hck:clockAt s 0 with
 |none=>
  rw[hck]at y;simp only at y ⊢;rw[<-o.out,y];simp
 |some k=>
  rw[hck]at y;simp only at y ⊢;obtain⟨h2,V⟩:=y;by_cases hk:k.stop=s.length
  .rw[if_pos hk];refine⟨by rw[<-o.out,h2,hk];simp,?_⟩;rw[V];simp[toRT,offS]
  .rw[if_neg hk];show T=false;rw[<-o.out,h2];simp;omega
theorem zna (s:Gr.Str) (hl:s.length<=1073741823) (y m d:Nat) (DA:dateAt s=some (y,m,d)) (w:World):
 Calls prog 152 #[.string ⟨s.toArray⟩] w (RdPost s w):=by
 have au:=hid (fun W=>ziw s hl W);have C:=hid (fun W=>zcq s hl 10 10 rfl 84 84 rfl W);have P:=hid (fun W=>zcq s hl 10 10 rfl 32 32 rfl W);obtain⟨vT,hT⟩:=ex (isAt s 10 84)
 obtain⟨vS,hS⟩:=ex (isAt s 10 32)
 rw[hT]at C;rw[hS]at P;have F:=hid (And.intro hT hS);clear hT hS;go_enter func152,ntmps152;go_upto_region 1 with fail;obtain⟨c,O⟩:=ex w.heap.size
 obtain⟨w0,aa⟩:∃w0,w0=w.alloc (.cells #[.bool false,.bool false,.bool false,.int .i64 0,.int .i64 0,.int .i64 0,.int .i64 0,.int .i64 0,.int .i64 0,.int .i64 0,.int .i64 0,.bool false] 162):=⟨_,rfl⟩
 have L:Hid (Blk w0 c 162 (T12 false false false 0 0 0 0 0 0 0 0 false)/\Below c w w0/\w0.heap.size=c+1):=hid (by rw[aa,<-O];exact⟨Blk.new _ _ _,(Below.refl _ _).alloc (Nat.le_refl _) _,by simp⟩);have J:=hid O;(try rw[<-aa]);(try rw[O]);clear aa O;go_wp2_with fail;refine(au.out _).mono ?_;rintro e w1 ⟨⟨t0,t1,t2,t3,t4,t5,t6,t7,t8,t9,t10,t11⟩,r,rfl,N,hm⟩;have Q:Hid (Blk w1 c 162 (T12 false false false 0 0 0 0 0 0 0 0 false)/\Below c w w1/\c<w1.heap.size):=hid ⟨L.out.1.below N L.out.1.lt,L.out.2.1.trans (N.mono (by have:=L.out.2.2;omega)),by have:=L.out.2.2;have:=N.size;omega⟩;rw[DA]at hm;simp only at hm;obtain⟨av,o⟩:=hm;subst av;injection o with k0 k1 k2 k3 k4 k5 k6 k7 k8 k9 k10 k11
 subst k0 k1 k2 k3 k4 k5 k6 k7 k8 k9 k10 k11;have I:=hid DA;clear DA;simp only[RT.v];clear N;go_upto_region 2 with fail;obtain⟨g,U⟩:=ex w1.heap.size
 obtain⟨p,ab⟩:=ex (w1.alloc (.cells #[.bool true,.bool false,.bool false,.int .i64 (y:Int),.int .i64 (m:Int),.int .i64 (d:Int),.int .i64 0,.int .i64 0,.int .i64 0,.int .i64 0,.int .i64 0,.bool false] 162))
 have l:Hid (Blk p g 162 (T12 true false false (y:Int) (m:Int) (d:Int) 0 0 0 0 0 false)/\Blk p c 162 (T12 false false false 0 0 0 0 0 0 0 0 false)/\Below c w p/\c<g):=hid (by
  rw[<-ab,<-U];exact⟨Blk.new _ _ _,Q.out.1.alloc _,Q.out.2.1.alloc (Nat.le_of_lt Q.out.2.2) _,Q.out.2.2⟩)
 (try rw[ab]);(try rw[U]);clear ab U;by_cases h10:s.length=10
 .have ar:((10:Int)==(s.length:Int))=true:=by rw[beq_iff_eq];omega
  have an:=hid h10;clear h10;obtain⟨q0,q1,q2,q3,V,q5,X,q7,q8,q9,q,t⟩:=zag l.out.1;have xb:∀j,p.cell? ⟨c,j,none⟩=(#[.bool false,.bool false,.bool false,.int .i64 0,.int .i64 0,.int .i64 0,.int .i64 0,.int .i64 0,.int .i64 0,.int .i64 0,.int .i64 0,.bool false]:Array Value)[j]? :=fun j=>l.out.2.1.cell j
  have xf:∀j,p.frozen? ⟨c,j,none⟩=false:=l.out.2.1.frozen;have x:∀j,p.frozen? ⟨g,j,none⟩=false:=l.out.1.frozen;go_wp2_with fail;have h:Hid (Blk p g 162 (T12 true false false (y:Int) (m:Int) (d:Int) 0 0 0 0 0 false)/\Blk p c 162 (T12 false false false 0 0 0 0 0 0 0 0 false)/\Below c w p):=hid ⟨l.out.1,l.out.2.1,l.out.2.2.1⟩;obtain⟨i,f⟩:=put12 true false false (y:Int) (m:Int) (d:Int) 0 0 0 0 0 false h.out.2;obtain⟨e0,e1,e2,e3,e4,e5,e6,e7,e8,e9,R,S⟩:=zag i;refine bodyPost_ret (v:=.tuple #[.agg #[.bool true,.bool false,.bool false,.int .i64 (y:Int),.int .i64 (m:Int),.int .i64 (d:Int),.int .i64 0,.int .i64 0,.int .i64 0,.int .i64 0,.int .i64 0,.bool false],.bool true]) (by rw[results_cell_tmp rfl];go_simp) rfl ?_;unfold RdPost;rw[J.out];refine⟨⟨true,false,false,y,m,d,0,0,0,0,0,false⟩,true,rfl,f,?_⟩;unfold Gr.rd;rw[I.out];simp only;rw[if_pos an.out]
  first|exact⟨rfl,by simp[toRT,offS]⟩|exact⟨trivial,by simp[toRT,offS]⟩
 .have hI:¬(10:Int)=(s.length:Int):=by omega
  have ar:((10:Int)==(s.length:Int))=false:=by simpa using hI
  by_cases hsep:(vT || vS)=true
  .have aj:vT=true\/(vT=false/\vS=true):=by cases vT<;>cases vS<;>simp_all
   have H:Hid ((isAt s 10 84 || isAt s 10 32)=true):=hid (by rw[F.out.1,F.out.2,hsep]);have am:=hid (fun W=>zgi s hl 11 11 rfl (by omega) true (y:Int) (m:Int) (d:Int) W);clear hsep F;go_upto_region 7 with fail;go_cut [39] (fun s39 wx=>s39=.bool false/\wx=p)
   case first=>
    rcases aj with rfl|⟨rfl,rfl⟩
    .go_wp2_with fail;refine(C.out _).mono ?_;rintro e n ⟨rfl,rfl⟩;go_wp2;go_meet;exact⟨rfl,rfl⟩
    .go_wp2_with fail;refine(C.out _).mono ?_;rintro e n ⟨rfl,rfl⟩;go_wp2_with fail;refine(P.out _).mono ?_;rintro e n ⟨rfl,rfl⟩;go_wp2;go_meet;exact⟨rfl,rfl⟩
   case rest=>
   obtain⟨rfl,rfl⟩:=hcut;refine(‹∀(a:Act) (w_1:World),Code.wp prog _ _ a w_1->_›) _ _ ?_;clear aj C P;obtain⟨q0,q1,q2,q3,V,q5,X,q7,q8,q9,q,t⟩:=zag l.out.1;have xb:∀j,wc.cell? ⟨c,j,none⟩=(#[.bool false,.bool false,.bool false,.int .i64 0,.int .i64 0,.int .i64 0,.int .i64 0,.int .i64 0,.int .i64 0,.int .i64 0,.int .i64 0,.bool false]:Array Value)[j]? :=fun j=>l.out.2.1.cell j
   have xf:∀j,wc.frozen? ⟨c,j,none⟩=false:=l.out.2.1.frozen;have x:∀j,wc.frozen? ⟨g,j,none⟩=false:=l.out.1.frozen;go_wp2_with fail;refine(am.out _).mono ?_;rintro e w2 ⟨⟨u0,u1,u2,u3,u4,u5,u6,u7,u8,u9,K,D⟩,r2,rfl,ae,o⟩;clear q0 q1 q2 q3 V q5 X q7 q8 q9 q t xb xf x;simp only[RT.v];have A:=hid (keep12 l.out ae);clear ae;cases hck:clockAt s 11 with
   |none=>
    rw[hck]at o;simp only at o;subst o;have x:∀j,w2.frozen? ⟨g,j,none⟩=false:=A.out.1.frozen;have xa:∀j,w2.cell? ⟨g,j,none⟩=(#[.bool true,.bool false,.bool false,.int .i64 (y:Int),.int .i64 (m:Int),.int .i64 (d:Int),.int .i64 0,.int .i64 0,.int .i64 0,.int .i64 0,.int .i64 0,.bool false]:Array Value)[j]? :=fun j=>A.out.1.cell j
    go_upto_region 10 with fail;obtain⟨n,G,M⟩:=zhh u0 u1 u2 u3 u4 u5 u6 u7 u8 u9 K D A.out;have b:=hid M;(try rw[G]);clear x xa G M;have hJ:¬(-1:Int)=(s.length:Int):=by omega
    have aq:((-1:Int)==(s.length:Int))=false:=by simp
    obtain⟨q0,q1,q2,q3,V,q5,X,q7,q8,q9,q,t⟩:=zag b.out.1;have xb:∀j,n.cell? ⟨c,j,none⟩=(#[.bool false,.bool false,.bool false,.int .i64 0,.int .i64 0,.int .i64 0,.int .i64 0,.int .i64 0,.int .i64 0,.int .i64 0,.int .i64 0,.bool false]:Array Value)[j]? :=fun j=>b.out.2.1.cell j
    have xf:∀j,n.frozen? ⟨c,j,none⟩=false:=b.out.2.1.frozen;have x:∀j,n.frozen? ⟨g,j,none⟩=false:=b.out.1.frozen;go_wp2_with fail;have h:Hid (Blk n g 162 (T12 u0 u1 u2 u3 u4 u5 u6 u7 u8 u9 K D)/\Blk n c 162 (T12 false false false 0 0 0 0 0 0 0 0 false)/\Below c w n):=hid ⟨b.out.1,b.out.2.1,b.out.2.2.1⟩;obtain⟨i,f⟩:=put12 u0 u1 u2 u3 u4 u5 u6 u7 u8 u9 K D h.out.2;obtain⟨e0,e1,e2,e3,e4,e5,e6,e7,e8,e9,R,S⟩:=zag i;refine bodyPost_ret (v:=.tuple #[.agg #[.bool u0,.bool u1,.bool u2,.int .i64 u3,.int .i64 u4,.int .i64 u5,.int .i64 u6,.int .i64 u7,.int .i64 u8,.int .i64 u9,.int .i64 K,.bool D],.bool false]) (by rw[results_cell_tmp rfl];go_simp) rfl ?_;unfold RdPost;rw[J.out];refine⟨⟨u0,u1,u2,u3,u4,u5,u6,u7,u8,u9,K,D⟩,false,rfl,f,?_⟩;unfold Gr.rd;rw[I.out];simp only;rw[if_neg h10,if_pos H.out,hck]
    trivial
   |some k=>
    obtain⟨kh,Z,kc,kf,T⟩:=k;have hkl:=zlj hck;rw[hck]at o;simp only at o;obtain⟨ao,hu⟩:=o;subst ao;injection hu with k0 k1 k2 k3 k4 k5 k6 k7 k8 k9 k10 k11
    subst k0 k1 k2 k3 k4 k5 k6 k7 k8 k9 k10 k11;have ag:=hid hck;clear hck;have x:∀j,w2.frozen? ⟨g,j,none⟩=false:=A.out.1.frozen;have xa:∀j,w2.cell? ⟨g,j,none⟩=(#[.bool true,.bool false,.bool false,.int .i64 (y:Int),.int .i64 (m:Int),.int .i64 (d:Int),.int .i64 0,.int .i64 0,.int .i64 0,.int .i64 0,.int .i64 0,.bool false]:Array Value)[j]? :=fun j=>A.out.1.cell j
    go_upto_region 10 with fail;obtain⟨n,G,M⟩:=zhh true true false (y:Int) (m:Int) (d:Int) (kh:Int) (Z:Int) (kc:Int) (kf:Int) 0 false A.out;have b:=hid M;(try rw[G]);clear x xa G M;obtain⟨q0,q1,q2,q3,V,q5,X,q7,q8,q9,q,t⟩:=zag b.out.1;have xb:∀j,n.cell? ⟨c,j,none⟩=(#[.bool false,.bool false,.bool false,.int .i64 0,.int .i64 0,.int .i64 0,.int .i64 0,.int .i64 0,.int .i64 0,.int .i64 0,.int .i64 0,.bool false]:Array Value)[j]? :=fun j=>b.out.2.1.cell j
    have xf:∀j,n.frozen? ⟨c,j,none⟩=false:=b.out.2.1.frozen;have x:∀j,n.frozen? ⟨g,j,none⟩=false:=b.out.1.frozen;by_cases hks:T=s.length
    .have al:=hid hks;have hKb:((T:Int)==(s.length:Int))=true:=by rw[hks];simp
     clear hks;go_wp2_with fail;have h:Hid (Blk n g 162 (T12 true true false (y:Int) (m:Int) (d:Int) (kh:Int) (Z:Int) (kc:Int) (kf:Int) 0 false)/\Blk n c 162 (T12 false false false 0 0 0 0 0 0 0 0 false)/\Below c w n):=hid ⟨b.out.1,b.out.2.1,b.out.2.2.1⟩;obtain⟨i,f⟩:=put12 true true false (y:Int) (m:Int) (d:Int) (kh:Int) (Z:Int) (kc:Int) (kf:Int) 0 false h.out.2;obtain⟨e0,e1,e2,e3,e4,e5,e6,e7,e8,e9,R,S⟩:=zag i;refine bodyPost_ret (v:=.tuple #[.agg #[.bool true,.bool true,.bool false,.int .i64 (y:Int),.int .i64 (m:Int),.int .i64 (d:Int),.int .i64 (kh:Int),.int .i64 (Z:Int),.int .i64 (kc:Int),.int .i64 (kf:Int),.int .i64 0,.bool false],.bool true]) (by rw[results_cell_tmp rfl];go_simp) rfl ?_;unfold RdPost;rw[J.out];refine⟨⟨true,true,false,y,m,d,kh,Z,kc,kf,0,false⟩,true,rfl,f,?_⟩;unfold Gr.rd;rw[I.out];simp only;rw[if_neg h10,if_pos H.out,ag.out];simp only;rw[if_pos al.out];exact⟨trivial,by simp[toRT,offS]⟩
    .have ax:=hid (fun W=>zqu s hl T (T:Int) rfl (by omega) true true (y:Int) (m:Int) (d:Int) (kh:Int) (Z:Int) (kc:Int) (kf:Int) W);have hJ:¬(T:Int)=(s.length:Int):=by omega
     have aq:((T:Int)==(s.length:Int))=false:=by simpa using hJ
     have hJ2:¬(T:Int)<0:=by omega
     go_wp2_with fail;refine(ax.out _).mono ?_;rintro e w4 ⟨⟨v0,v1,v2,v3,v4,v5,v6,v7,v8,v9,E,B⟩,r3,rfl,af,ah⟩;have ap:=hid ah;clear q0 q1 q2 q3 V q5 X q7 q8 q9 q t xb xf x ah;simp only[RT.v];have ac:=hid (keep12 b.out af);clear af;have x:∀j,w4.frozen? ⟨g,j,none⟩=false:=ac.out.1.frozen;have xa:∀j,w4.cell? ⟨g,j,none⟩=(#[.bool true,.bool true,.bool false,.int .i64 (y:Int),.int .i64 (m:Int),.int .i64 (d:Int),.int .i64 (kh:Int),.int .i64 (Z:Int),.int .i64 (kc:Int),.int .i64 (kf:Int),.int .i64 0,.bool false]:Array Value)[j]? :=fun j=>ac.out.1.cell j
     go_upto_region 15 with fail;obtain⟨w5,ai,M⟩:=zhh v0 v1 v2 v3 v4 v5 v6 v7 v8 v9 E B ac.out;have u:=hid M;(try rw[ai]);clear x xa ai M;obtain⟨ok,ad⟩:=ex (decide (r3=(s.length:Int)))
     have hokb:(r3==(s.length:Int))=ok:=by rw[<-ad];rfl
     have Y:=hid ad;clear ad;obtain⟨q0,q1,q2,q3,V,q5,X,q7,q8,q9,q,t⟩:=zag u.out.1;have xb:∀j,w5.cell? ⟨c,j,none⟩=(#[.bool false,.bool false,.bool false,.int .i64 0,.int .i64 0,.int .i64 0,.int .i64 0,.int .i64 0,.int .i64 0,.int .i64 0,.int .i64 0,.bool false]:Array Value)[j]? :=fun j=>u.out.2.1.cell j
     have xf:∀j,w5.frozen? ⟨c,j,none⟩=false:=u.out.2.1.frozen;have x:∀j,w5.frozen? ⟨g,j,none⟩=false:=u.out.1.frozen;go_wp2_with fail;have h:Hid (Blk w5 g 162 (T12 v0 v1 v2 v3 v4 v5 v6 v7 v8 v9 E B)/\Blk w5 c 162 (T12 false false false 0 0 0 0 0 0 0 0 false)/\Below c w w5):=hid ⟨u.out.1,u.out.2.1,u.out.2.2.1⟩;obtain⟨i,f⟩:=put12 v0 v1 v2 v3 v4 v5 v6 v7 v8 v9 E B h.out.2;obtain⟨e0,e1,e2,e3,e4,e5,e6,e7,e8,e9,R,S⟩:=zag i;refine bodyPost_ret (v:=.tuple #[.agg #[.bool v0,.bool v1,.bool v2,.int .i64 v3,.int .i64 v4,.int .i64 v5,.int .i64 v6,.int .i64 v7,.int .i64 v8,.int .i64 v9,.int .i64 E,.bool B],.bool ok]) (by rw[results_cell_tmp rfl];go_simp) rfl ?_;unfold RdPost;rw[J.out];refine⟨⟨v0,v1,v2,v3,v4,v5,v6,v7,v8,v9,E,B⟩,ok,rfl,f,?_⟩;unfold Gr.rd;rw[I.out];simp only;rw[if_neg h10,if_pos H.out,ag.out];simp only;rw[if_neg hks];have h1:=ap.out;cases hzn:zoneAt s T with
     |none=>
      rw[hzn]at h1;simp only at h1 ⊢;rw[<-Y.out,h1];simp
     |some z=>
      rw[hzn]at h1;simp only at h1 ⊢;obtain⟨h2,M⟩:=h1;by_cases hk:z.stop=s.length
      .rw[if_pos hk];refine⟨by rw[<-Y.out,h2,hk];simp,?_⟩;rw[M];simp[toRT,offS,zqv hzn]
      .rw[if_neg hk];show ok=false;rw[<-Y.out,h2];simp;omega
  .have aw:vT=false:=by cases vT<;>simp_all
   have ak:vS=false:=by cases vS<;>simp_all
   subst aw;subst ak;obtain⟨q0,q1,q2,q3,V,q5,X,q7,q8,q9,q,t⟩:=zag l.out.1;have xb:∀j,p.cell? ⟨c,j,none⟩=(#[.bool false,.bool false,.bool false,.int .i64 0,.int .i64 0,.int .i64 0,.int .i64 0,.int .i64 0,.int .i64 0,.int .i64 0,.int .i64 0,.bool false]:Array Value)[j]? :=fun j=>l.out.2.1.cell j
   have xf:∀j,p.frozen? ⟨c,j,none⟩=false:=l.out.2.1.frozen;have x:∀j,p.frozen? ⟨g,j,none⟩=false:=l.out.1.frozen;go_wp2_with fail;refine(C.out _).mono ?_;rintro e n ⟨rfl,rfl⟩;go_wp2_with fail;refine(P.out _).mono ?_;rintro e n ⟨rfl,rfl⟩;go_wp2_with fail;have h:Hid (Blk p g 162 (T12 true false false (y:Int) (m:Int) (d:Int) 0 0 0 0 0 false)/\Blk p c 162 (T12 false false false 0 0 0 0 0 0 0 0 false)/\Below c w p):=hid ⟨l.out.1,l.out.2.1,l.out.2.2.1⟩;obtain⟨i,f⟩:=put12 true false false (y:Int) (m:Int) (d:Int) 0 0 0 0 0 false h.out.2;obtain⟨e0,e1,e2,e3,e4,e5,e6,e7,e8,e9,R,S⟩:=zag i;refine bodyPost_ret (v:=.tuple #[.agg #[.bool true,.bool false,.bool false,.int .i64 (y:Int),.int .i64 (m:Int),.int .i64 (d:Int),.int .i64 0,.int .i64 0,.int .i64 0,.int .i64 0,.int .i64 0,.bool false],.bool false]) (by rw[results_cell_tmp rfl];go_simp) rfl ?_;unfold RdPost;rw[J.out];refine⟨⟨true,false,false,y,m,d,0,0,0,0,0,false⟩,false,rfl,f,?_⟩;unfold Gr.rd;rw[I.out];simp only;rw[if_neg h10,if_neg (by rw[F.out.1,F.out.2];decide)]
   trivial
theorem zdd (s:Gr.Str) (hl:s.length<=1073741823) (w:World):Calls prog 152 #[.string ⟨s.toArray⟩] w (RdPost s w):=by
 cases hd:dateAt s with
 |none=>exact zix s hl hd w
 |some t=>exact zna s hl t.1 t.2.1 t.2.2 hd w
end Go.Proofs.YtpjmhafmeieloaaGreatDoor
