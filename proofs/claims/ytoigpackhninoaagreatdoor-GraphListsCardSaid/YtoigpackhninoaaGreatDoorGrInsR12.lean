import Derived.Test.YtoigpackhninoaaGreatDoorZ21
import Derived.Test.YtoigpackhninoaaGreatDoorGrInsR11
namespace Go.Proofs.YtoigpackhninoaaGreatDoor
open Gr
open _root_.Go.Proofs.Tryz
open _root_.Go.Lib (hid)
set_option maxRecDepth 100000
set_option maxHeartbeats 16000000
open Go.RowKit
def toRT (x:Gr.Mo):RT:=⟨x.date,x.time,decide (x.z≠0),x.y,x.m,x.d,x.h,x.mi,x.c,x.nanos,offS x,decide (23<x.zh) || decide (59<x.zm)⟩
def RdPost (s:Gr.Str) (w:World) (e:Ending) (w':World):Prop:=∃(t:RT) (ok:Bool),e=.returned (.tuple #[t.v,.bool ok])/\Below w.heap.size w w'/\
 match Gr.rd s with
 |none=>ok=false
 |some x=>ok=true/\t=toRT x
theorem far12 {w:World} {g k:Nat} {t:TypeId} {cs:Array Value} (hne:k≠g) {v0 v1 v2 v3 v4 v5 v6 v7 v8 v9 v10 v11:Value} (h:Blk w k t cs):Blk ((((((((((((w.setCell ⟨g,0,none⟩ (v0)).setCell ⟨g,1,none⟩ (v1)).setCell ⟨g,2,none⟩ (v2)).setCell ⟨g,3,none⟩ (v3)).setCell ⟨g,4,none⟩ (v4)).setCell ⟨g,5,none⟩ (v5)).setCell ⟨g,6,none⟩ (v6)).setCell ⟨g,7,none⟩ (v7)).setCell ⟨g,8,none⟩ (v8)).setCell ⟨g,9,none⟩ (v9)).setCell ⟨g,10,none⟩ (v10)).setCell ⟨g,11,none⟩ (v11)) k t cs:=
 ((((((((((((h.far hne v0).far hne v1).far hne v2).far hne v3).far hne v4).far hne v5).far hne v6).far hne v7).far hne v8).far hne v9).far hne v10).far hne v11)
theorem put12 {w0 w:World} {g:Nat} {t:TypeId} {c0 c1 c2 c3 c4 c5 c6 c7 c8 c9 c10 c11:Value} (b0 b1 b2:Bool) (i3 i4 i5 i6 i7 i8 i9 i10:Int) (b11:Bool) (h:Blk w g t #[c0,c1,c2,c3,c4,c5,c6,c7,c8,c9,c10,c11]/\Below g w0 w):Blk ((((((((((((w.setCell ⟨g,0,none⟩ (.bool b0)).setCell ⟨g,1,none⟩ (.bool b1)).setCell ⟨g,2,none⟩ (.bool b2)).setCell ⟨g,3,none⟩ (.int .i64 i3)).setCell ⟨g,4,none⟩ (.int .i64 i4)).setCell ⟨g,5,none⟩ (.int .i64 i5)).setCell ⟨g,6,none⟩ (.int .i64 i6)).setCell ⟨g,7,none⟩ (.int .i64 i7)).setCell ⟨g,8,none⟩ (.int .i64 i8)).setCell ⟨g,9,none⟩ (.int .i64 i9)).setCell ⟨g,10,none⟩ (.int .i64 i10)).setCell ⟨g,11,none⟩ (.bool b11)) g t (T12 b0 b1 b2 i3 i4 i5 i6 i7 i8 i9 i10 b11)/\Below g w0 ((((((((((((w.setCell ⟨g,0,none⟩ (.bool b0)).setCell ⟨g,1,none⟩ (.bool b1)).setCell ⟨g,2,none⟩ (.bool b2)).setCell ⟨g,3,none⟩ (.int .i64 i3)).setCell ⟨g,4,none⟩ (.int .i64 i4)).setCell ⟨g,5,none⟩ (.int .i64 i5)).setCell ⟨g,6,none⟩ (.int .i64 i6)).setCell ⟨g,7,none⟩ (.int .i64 i7)).setCell ⟨g,8,none⟩ (.int .i64 i8)).setCell ⟨g,9,none⟩ (.int .i64 i9)).setCell ⟨g,10,none⟩ (.int .i64 i10)).setCell ⟨g,11,none⟩ (.bool b11)):=
 ⟨za9 h.1,zb8 h.2 (Nat.le_refl g)⟩
theorem zgz {w0 w:World} {g k:Nat} {t t2:TypeId} {cs:Array Value} {c0 c1 c2 c3 c4 c5 c6 c7 c8 c9 c10 c11:Value} (b0 b1 b2:Bool) (i3 i4 i5 i6 i7 i8 i9 i10:Int) (b11:Bool) (h:Blk w g t #[c0,c1,c2,c3,c4,c5,c6,c7,c8,c9,c10,c11]/\Blk w k t2 cs/\Below k w0 w/\k<g):∃x,((((((((((((w.setCell ⟨g,0,none⟩ (.bool b0)).setCell ⟨g,1,none⟩ (.bool b1)).setCell ⟨g,2,none⟩ (.bool b2)).setCell ⟨g,3,none⟩ (.int .i64 i3)).setCell ⟨g,4,none⟩ (.int .i64 i4)).setCell ⟨g,5,none⟩ (.int .i64 i5)).setCell ⟨g,6,none⟩ (.int .i64 i6)).setCell ⟨g,7,none⟩ (.int .i64 i7)).setCell ⟨g,8,none⟩ (.int .i64 i8)).setCell ⟨g,9,none⟩ (.int .i64 i9)).setCell ⟨g,10,none⟩ (.int .i64 i10)).setCell ⟨g,11,none⟩ (.bool b11))=x/\(Blk x g t (T12 b0 b1 b2 i3 i4 i5 i6 i7 i8 i9 i10 b11)/\Blk x k t2 cs/\Below k w0 x/\k<g):=
 ⟨_,rfl,za9 h.1,far12 (by omega) h.2.1,zb8 h.2.2.1 (Nat.le_of_lt h.2.2.2),h.2.2.2⟩
theorem keep12 {w0 w w2:World} {g k:Nat} {t t2:TypeId} {cs cs2:Array Value} (h:Blk w g t cs/\Blk w k t2 cs2/\Below k w0 w/\k<g) (hb:Below w.heap.size w w2):Blk w2 g t cs/\Blk w2 k t2 cs2/\Below k w0 w2/\k<g:=
 ⟨h.1.below hb h.1.lt,h.2.1.below hb h.2.1.lt,h.2.2.1.trans (hb.mono (Nat.le_of_lt h.2.1.lt)),h.2.2.2⟩
theorem zpt {s:Gr.Str} {a:Nat} {z:Gr.Zn} (h:zoneAt s a=some z):z.z≠0:=by
 unfold zoneAt at h;split at h
 ·injection h with h;subst h;show(90:UInt8)≠0;decide
 ·split at h
  ·split at h
   ·rename_i hc;injection h with h
    subst h;rw[Bool.and_eq_true,Bool.or_eq_true]at hc;unfold isAt at hc;show s.getD a 0≠0;rw[List.getD_eq_getElem?_getD];rcases hc.1 with h1|h1
    ·rw[eq_of_beq h1];decide
    ·rw[eq_of_beq h1];decide
   ·cases h
  ·cases h
theorem zk0 {s:Gr.Str} {a kh km kc kf ks:Nat} (h:clockAt s a=some ⟨kh,km,kc,kf,ks⟩):ks<=s.length:=by
 unfold clockAt at h;split at h
 ·rename_i h1 h2 h3;have b:=(zcr h3 (by omega)).2.2;split at h
  ·split at h
   ·rename_i hp;split at h
    ·cases h
    ·injection h with h
     injection h with _ _ _ _ h5
     have c:((s.drop (a+9)).takeWhile Gr.dig).length<=(s.drop (a+9)).length:=(List.takeWhile_sublist Gr.dig).length_le;rw[List.length_drop]at c;have:a+8<s.length:=by
      unfold isAt at hp;rcases Nat.lt_or_ge (a+8) s.length with h6|h6
      ·exact h6
      ·rw[List.getElem?_eq_none h6]at hp;cases hp
     omega
   ·injection h with h
    injection h with _ _ _ _ h5
    omega
  ·cases h
 ·cases h
theorem zh5 (s:Gr.Str) (hl:s.length<=1073741823) (DA:dateAt s=none) (w:World):
 Calls prog 103 #[.string ⟨s.toArray⟩] w (RdPost s w):=by
 have ae:=hid (fun W=>zh4 s hl W);have Y:=hid (fun W=>zf3 s hl 0 0 rfl (by omega) false 0 0 0 W);go_enter func103,ntmps103;go_upto_region 1 with fail;obtain⟨b,h⟩:=ex w.heap.size
 obtain⟨K,m⟩:∃K,K=w.alloc (.cells #[.bool false,.bool false,.bool false,.int .i64 0,.int .i64 0,.int .i64 0,.int .i64 0,.int .i64 0,.int .i64 0,.int .i64 0,.int .i64 0,.bool false] 111):=⟨_,rfl⟩
 have c:Hid (Blk K b 111 (T12 false false false 0 0 0 0 0 0 0 0 false)/\Below b w K/\K.heap.size=b+1):=hid (by rw[m,<-h];exact⟨Blk.new _ _ _,(Below.refl _ _).alloc (Nat.le_refl _) _,by simp⟩);have af:=hid h;(try rw[<-m]);(try rw[h]);clear m h;go_wp2_with fail;refine(ae.out _).mono ?_;rintro e D ⟨⟨t0,t1,t2,t3,t4,t5,t6,t7,Z,X,u,l⟩,r,rfl,i,hm⟩;have g:Hid (Blk D b 111 (T12 false false false 0 0 0 0 0 0 0 0 false)/\Below b w D/\b<D.heap.size):=hid ⟨c.out.1.below i c.out.1.lt,c.out.2.1.trans (i.mono (by have:=c.out.2.2;omega)),by have:=c.out.2.2;have:=i.size;omega⟩;rw[DA]at hm;simp only at hm;subst hm;have ac:=hid DA;clear DA;simp only[RT.v];clear i;go_upto_region 2 with fail;obtain⟨t,n⟩:=ex D.heap.size
 obtain⟨A,x⟩:=ex (D.alloc (.cells #[.bool t0,.bool t1,.bool t2,.int .i64 t3,.int .i64 t4,.int .i64 t5,.int .i64 t6,.int .i64 t7,.int .i64 Z,.int .i64 X,.int .i64 u,.bool l] 111))
 have E:Hid (Blk A t 111 (T12 t0 t1 t2 t3 t4 t5 t6 t7 Z X u l)/\Blk A b 111 (T12 false false false 0 0 0 0 0 0 0 0 false)/\Below b w A/\b<t):=hid (by
  rw[<-x,<-n];exact⟨Blk.new _ _ _,g.out.1.alloc _,g.out.2.1.alloc (Nat.le_of_lt g.out.2.2) _,g.out.2.2⟩)
 (try rw[x]);(try rw[n]);clear x n;obtain⟨q0,q1,q2,q3,q4,q5,q6,q7,q8,q9,S,P⟩:=zag E.out.1;have xb:∀j,A.cell? ⟨b,j,none⟩=(#[.bool false,.bool false,.bool false,.int .i64 0,.int .i64 0,.int .i64 0,.int .i64 0,.int .i64 0,.int .i64 0,.int .i64 0,.int .i64 0,.bool false]:Array Value)[j]? :=fun j=>E.out.2.1.cell j
 have xf:∀j,A.frozen? ⟨b,j,none⟩=false:=E.out.2.1.frozen;have V:∀j,A.frozen? ⟨t,j,none⟩=false:=E.out.1.frozen;go_wp2_with fail;refine(Y.out _).mono ?_;rintro e w2 ⟨⟨B,O,N,G,M,F,J,R,C,L,f,d⟩,r2,rfl,Q,H⟩;have ab:=hid H;clear q0 q1 q2 q3 q4 q5 q6 q7 q8 q9 S P xb xf V H;simp only[RT.v];have p:=hid (keep12 E.out Q);clear Q;have V:∀j,w2.frozen? ⟨t,j,none⟩=false:=p.out.1.frozen;have xa:∀j,w2.cell? ⟨t,j,none⟩=(#[.bool t0,.bool t1,.bool t2,.int .i64 t3,.int .i64 t4,.int .i64 t5,.int .i64 t6,.int .i64 t7,.int .i64 Z,.int .i64 X,.int .i64 u,.bool l]:Array Value)[j]? :=fun j=>p.out.1.cell j
 go_upto_region 4 with fail;obtain⟨y,I,T⟩:=zgz B O N G M F J R C L f d p.out;have a:=hid T;(try rw[I]);clear V xa I T;obtain⟨U,q⟩:=ex (decide (r2=(s.length:Int)))
 have hokb:(r2==(s.length:Int))=U:=by rw[<-q];rfl
 have o:=hid q;clear q;obtain⟨q0,q1,q2,q3,q4,q5,q6,q7,q8,q9,S,P⟩:=zag a.out.1;have xb:∀j,y.cell? ⟨b,j,none⟩=(#[.bool false,.bool false,.bool false,.int .i64 0,.int .i64 0,.int .i64 0,.int .i64 0,.int .i64 0,.int .i64 0,.int .i64 0,.int .i64 0,.bool false]:Array Value)[j]? :=fun j=>a.out.2.1.cell j
 have xf:∀j,y.frozen? ⟨b,j,none⟩=false:=a.out.2.1.frozen;have V:∀j,y.frozen? ⟨t,j,none⟩=false:=a.out.1.frozen;go_wp2_with fail;have ag:Hid (Blk y t 111 (T12 B O N G M F J R C L f d)/\Blk y b 111 (T12 false false false 0 0 0 0 0 0 0 0 false)/\Below b w y):=hid ⟨a.out.1,a.out.2.1,a.out.2.2.1⟩;obtain⟨ad,aa⟩:=put12 B O N G M F J R C L f d ag.out.2;obtain⟨e0,e1,e2,e3,e4,e5,e6,e7,e8,e9,e10,e11⟩:=zag ad;refine bodyPost_ret (v:=.tuple #[.agg #[.bool B,.bool O,.bool N,.int .i64 G,.int .i64 M,.int .i64 F,.int .i64 J,.int .i64 R,.int .i64 C,.int .i64 L,.int .i64 f,.bool d],.bool U]) (by rw[results_cell_tmp rfl];go_simp) rfl ?_;unfold RdPost;rw[af.out];refine⟨⟨B,O,N,G,M,F,J,R,C,L,f,d⟩,U,rfl,aa,?_⟩;unfold Gr.rd;rw[ac.out];simp only;have z:=ab.out;cases hck:clockAt s 0 with
 |none=>
  rw[hck]at z;simp only at z ⊢;rw[<-o.out,z];simp
 |some k=>
  rw[hck]at z;simp only at z ⊢;obtain⟨h2,T⟩:=z;by_cases hk:k.stop=s.length
  ·rw[if_pos hk];refine⟨by rw[<-o.out,h2,hk];simp,?_⟩;rw[T];simp[toRT,offS]
  ·rw[if_neg hk];show U=false;rw[<-o.out,h2];simp;omega
theorem zmj (s:Gr.Str) (hl:s.length<=1073741823) (y m d:Nat) (DA:dateAt s=some (y,m,d)) (w:World):
 Calls prog 103 #[.string ⟨s.toArray⟩] w (RdPost s w):=by
 have ax:=hid (fun W=>zh4 s hl W);have L:=hid (fun W=>zcj s hl 10 10 rfl 84 84 rfl W);have P:=hid (fun W=>zcj s hl 10 10 rfl 32 32 rfl W);obtain⟨vT,hT⟩:=ex (isAt s 10 84)
 obtain⟨vS,hS⟩:=ex (isAt s 10 32)
 rw[hT]at L;rw[hS]at P;have F:=hid (And.intro hT hS);clear hT hS;go_enter func103,ntmps103;go_upto_region 1 with fail;obtain⟨c,Q⟩:=ex w.heap.size
 obtain⟨w0,U⟩:∃w0,w0=w.alloc (.cells #[.bool false,.bool false,.bool false,.int .i64 0,.int .i64 0,.int .i64 0,.int .i64 0,.int .i64 0,.int .i64 0,.int .i64 0,.int .i64 0,.bool false] 111):=⟨_,rfl⟩
 have G:Hid (Blk w0 c 111 (T12 false false false 0 0 0 0 0 0 0 0 false)/\Below c w w0/\w0.heap.size=c+1):=hid (by rw[U,<-Q];exact⟨Blk.new _ _ _,(Below.refl _ _).alloc (Nat.le_refl _) _,by simp⟩);have I:=hid Q;(try rw[<-U]);(try rw[Q]);clear U Q;go_wp2_with fail;refine(ax.out _).mono ?_;rintro e w1 ⟨⟨t0,t1,t2,t3,t4,t5,t6,t7,t8,t9,t10,t11⟩,r,rfl,S,hm⟩;have N:Hid (Blk w1 c 111 (T12 false false false 0 0 0 0 0 0 0 0 false)/\Below c w w1/\c<w1.heap.size):=hid ⟨G.out.1.below S G.out.1.lt,G.out.2.1.trans (S.mono (by have:=G.out.2.2;omega)),by have:=G.out.2.2;have:=S.size;omega⟩;rw[DA]at hm;simp only at hm;obtain⟨am,o⟩:=hm;subst am;injection o with k0 k1 k2 k3 k4 k5 k6 k7 k8 k9 k10 k11
 subst k0 k1 k2 k3 k4 k5 k6 k7 k8 k9 k10 k11;have D:=hid DA;clear DA;simp only[RT.v];clear S;go_upto_region 2 with fail;obtain⟨h,ac⟩:=ex w1.heap.size
 obtain⟨p,ab⟩:=ex (w1.alloc (.cells #[.bool true,.bool false,.bool false,.int .i64 (y:Int),.int .i64 (m:Int),.int .i64 (d:Int),.int .i64 0,.int .i64 0,.int .i64 0,.int .i64 0,.int .i64 0,.bool false] 111))
 have l:Hid (Blk p h 111 (T12 true false false (y:Int) (m:Int) (d:Int) 0 0 0 0 0 false)/\Blk p c 111 (T12 false false false 0 0 0 0 0 0 0 0 false)/\Below c w p/\c<h):=hid (by
  rw[<-ab,<-ac];exact⟨Blk.new _ _ _,N.out.1.alloc _,N.out.2.1.alloc (Nat.le_of_lt N.out.2.2) _,N.out.2.2⟩)
 (try rw[ab]);(try rw[ac]);clear ab ac;by_cases h10:s.length=10
 ·have av:((10:Int)==(s.length:Int))=true:=by rw[beq_iff_eq];omega
  have ao:=hid h10;clear h10;obtain⟨q0,q1,q2,q3,q4,q5,V,Y,q8,q9,t,u⟩:=zag l.out.1;have xb:∀j,p.cell? ⟨c,j,none⟩=(#[.bool false,.bool false,.bool false,.int .i64 0,.int .i64 0,.int .i64 0,.int .i64 0,.int .i64 0,.int .i64 0,.int .i64 0,.int .i64 0,.bool false]:Array Value)[j]? :=fun j=>l.out.2.1.cell j
  have xf:∀j,p.frozen? ⟨c,j,none⟩=false:=l.out.2.1.frozen;have x:∀j,p.frozen? ⟨h,j,none⟩=false:=l.out.1.frozen;go_wp2_with fail;have i:Hid (Blk p h 111 (T12 true false false (y:Int) (m:Int) (d:Int) 0 0 0 0 0 false)/\Blk p c 111 (T12 false false false 0 0 0 0 0 0 0 0 false)/\Below c w p):=hid ⟨l.out.1,l.out.2.1,l.out.2.2.1⟩;obtain⟨g,f⟩:=put12 true false false (y:Int) (m:Int) (d:Int) 0 0 0 0 0 false i.out.2;obtain⟨e0,e1,e2,e3,e4,e5,e6,e7,e8,e9,O,R⟩:=zag g;refine bodyPost_ret (v:=.tuple #[.agg #[.bool true,.bool false,.bool false,.int .i64 (y:Int),.int .i64 (m:Int),.int .i64 (d:Int),.int .i64 0,.int .i64 0,.int .i64 0,.int .i64 0,.int .i64 0,.bool false],.bool true]) (by rw[results_cell_tmp rfl];go_simp) rfl ?_;unfold RdPost;rw[I.out];refine⟨⟨true,false,false,y,m,d,0,0,0,0,0,false⟩,true,rfl,f,?_⟩;unfold Gr.rd;rw[D.out];simp only;rw[if_pos ao.out]
  first|exact⟨rfl,by simp[toRT,offS]⟩|exact⟨trivial,by simp[toRT,offS]⟩
 ·have hI:¬(10:Int)=(s.length:Int):=by omega
  have av:((10:Int)==(s.length:Int))=false:=by simpa using hI
  by_cases hsep:(vT || vS)=true
  ·have af:vT=true\/(vT=false/\vS=true):=by cases vT<;>cases vS<;>simp_all
   have K:Hid ((isAt s 10 84 || isAt s 10 32)=true):=hid (by rw[F.out.1,F.out.2,hsep]);have ak:=hid (fun W=>zf3 s hl 11 11 rfl (by omega) true (y:Int) (m:Int) (d:Int) W);clear hsep F;go_upto_region 7 with fail;go_cut [39] (fun s39 wx=>s39=.bool false/\wx=p)
   case first=>
    rcases af with rfl|⟨rfl,rfl⟩
    ·go_wp2_with fail;refine(L.out _).mono ?_;rintro e n ⟨rfl,rfl⟩;go_wp2;go_meet;exact⟨rfl,rfl⟩
    ·go_wp2_with fail;refine(L.out _).mono ?_;rintro e n ⟨rfl,rfl⟩;go_wp2_with fail;refine(P.out _).mono ?_;rintro e n ⟨rfl,rfl⟩;go_wp2;go_meet;exact⟨rfl,rfl⟩
   case rest=>
   obtain⟨rfl,rfl⟩:=hcut;refine(‹∀(a:Act) (w_1:World),Code.wp prog _ _ a w_1->_›) _ _ ?_;clear af L P;obtain⟨q0,q1,q2,q3,q4,q5,V,Y,q8,q9,t,u⟩:=zag l.out.1;have xb:∀j,wc.cell? ⟨c,j,none⟩=(#[.bool false,.bool false,.bool false,.int .i64 0,.int .i64 0,.int .i64 0,.int .i64 0,.int .i64 0,.int .i64 0,.int .i64 0,.int .i64 0,.bool false]:Array Value)[j]? :=fun j=>l.out.2.1.cell j
   have xf:∀j,wc.frozen? ⟨c,j,none⟩=false:=l.out.2.1.frozen;have x:∀j,wc.frozen? ⟨h,j,none⟩=false:=l.out.1.frozen;go_wp2_with fail;refine(ak.out _).mono ?_;rintro e w2 ⟨⟨u0,u1,u2,u3,u4,u5,u6,u7,u8,u9,E,H⟩,r2,rfl,ai,o⟩;clear q0 q1 q2 q3 q4 q5 V Y q8 q9 t u xb xf x;simp only[RT.v];have A:=hid (keep12 l.out ai);clear ai;cases hck:clockAt s 11 with
   |none=>
    rw[hck]at o;simp only at o;subst o;have x:∀j,w2.frozen? ⟨h,j,none⟩=false:=A.out.1.frozen;have xa:∀j,w2.cell? ⟨h,j,none⟩=(#[.bool true,.bool false,.bool false,.int .i64 (y:Int),.int .i64 (m:Int),.int .i64 (d:Int),.int .i64 0,.int .i64 0,.int .i64 0,.int .i64 0,.int .i64 0,.bool false]:Array Value)[j]? :=fun j=>A.out.1.cell j
    go_upto_region 10 with fail;obtain⟨n,B,M⟩:=zgz u0 u1 u2 u3 u4 u5 u6 u7 u8 u9 E H A.out;have b:=hid M;(try rw[B]);clear x xa B M;have hJ:¬(-1:Int)=(s.length:Int):=by omega
    have aw:((-1:Int)==(s.length:Int))=false:=by simp
    obtain⟨q0,q1,q2,q3,q4,q5,V,Y,q8,q9,t,u⟩:=zag b.out.1;have xb:∀j,n.cell? ⟨c,j,none⟩=(#[.bool false,.bool false,.bool false,.int .i64 0,.int .i64 0,.int .i64 0,.int .i64 0,.int .i64 0,.int .i64 0,.int .i64 0,.int .i64 0,.bool false]:Array Value)[j]? :=fun j=>b.out.2.1.cell j
    have xf:∀j,n.frozen? ⟨c,j,none⟩=false:=b.out.2.1.frozen;have x:∀j,n.frozen? ⟨h,j,none⟩=false:=b.out.1.frozen;go_wp2_with fail;have i:Hid (Blk n h 111 (T12 u0 u1 u2 u3 u4 u5 u6 u7 u8 u9 E H)/\Blk n c 111 (T12 false false false 0 0 0 0 0 0 0 0 false)/\Below c w n):=hid ⟨b.out.1,b.out.2.1,b.out.2.2.1⟩;obtain⟨g,f⟩:=put12 u0 u1 u2 u3 u4 u5 u6 u7 u8 u9 E H i.out.2;obtain⟨e0,e1,e2,e3,e4,e5,e6,e7,e8,e9,O,R⟩:=zag g;refine bodyPost_ret (v:=.tuple #[.agg #[.bool u0,.bool u1,.bool u2,.int .i64 u3,.int .i64 u4,.int .i64 u5,.int .i64 u6,.int .i64 u7,.int .i64 u8,.int .i64 u9,.int .i64 E,.bool H],.bool false]) (by rw[results_cell_tmp rfl];go_simp) rfl ?_;unfold RdPost;rw[I.out];refine⟨⟨u0,u1,u2,u3,u4,u5,u6,u7,u8,u9,E,H⟩,false,rfl,f,?_⟩;unfold Gr.rd;rw[D.out];simp only;rw[if_neg h10,if_pos K.out,hck]
    trivial
   |some k=>
    obtain⟨kh,km,kc,Z,T⟩:=k;have hkl:=zk0 hck;rw[hck]at o;simp only at o;obtain⟨ar,hu⟩:=o;subst ar;injection hu with k0 k1 k2 k3 k4 k5 k6 k7 k8 k9 k10 k11
    subst k0 k1 k2 k3 k4 k5 k6 k7 k8 k9 k10 k11;have ah:=hid hck;clear hck;have x:∀j,w2.frozen? ⟨h,j,none⟩=false:=A.out.1.frozen;have xa:∀j,w2.cell? ⟨h,j,none⟩=(#[.bool true,.bool false,.bool false,.int .i64 (y:Int),.int .i64 (m:Int),.int .i64 (d:Int),.int .i64 0,.int .i64 0,.int .i64 0,.int .i64 0,.int .i64 0,.bool false]:Array Value)[j]? :=fun j=>A.out.1.cell j
    go_upto_region 10 with fail;obtain⟨n,B,M⟩:=zgz true true false (y:Int) (m:Int) (d:Int) (kh:Int) (km:Int) (kc:Int) (Z:Int) 0 false A.out;have b:=hid M;(try rw[B]);clear x xa B M;obtain⟨q0,q1,q2,q3,q4,q5,V,Y,q8,q9,t,u⟩:=zag b.out.1;have xb:∀j,n.cell? ⟨c,j,none⟩=(#[.bool false,.bool false,.bool false,.int .i64 0,.int .i64 0,.int .i64 0,.int .i64 0,.int .i64 0,.int .i64 0,.int .i64 0,.int .i64 0,.bool false]:Array Value)[j]? :=fun j=>b.out.2.1.cell j
    have xf:∀j,n.frozen? ⟨c,j,none⟩=false:=b.out.2.1.frozen;have x:∀j,n.frozen? ⟨h,j,none⟩=false:=b.out.1.frozen;by_cases hks:T=s.length
    ·have al:=hid hks;have hKb:((T:Int)==(s.length:Int))=true:=by rw[hks];simp
     clear hks;go_wp2_with fail;have i:Hid (Blk n h 111 (T12 true true false (y:Int) (m:Int) (d:Int) (kh:Int) (km:Int) (kc:Int) (Z:Int) 0 false)/\Blk n c 111 (T12 false false false 0 0 0 0 0 0 0 0 false)/\Below c w n):=hid ⟨b.out.1,b.out.2.1,b.out.2.2.1⟩;obtain⟨g,f⟩:=put12 true true false (y:Int) (m:Int) (d:Int) (kh:Int) (km:Int) (kc:Int) (Z:Int) 0 false i.out.2;obtain⟨e0,e1,e2,e3,e4,e5,e6,e7,e8,e9,O,R⟩:=zag g;refine bodyPost_ret (v:=.tuple #[.agg #[.bool true,.bool true,.bool false,.int .i64 (y:Int),.int .i64 (m:Int),.int .i64 (d:Int),.int .i64 (kh:Int),.int .i64 (km:Int),.int .i64 (kc:Int),.int .i64 (Z:Int),.int .i64 0,.bool false],.bool true]) (by rw[results_cell_tmp rfl];go_simp) rfl ?_;unfold RdPost;rw[I.out];refine⟨⟨true,true,false,y,m,d,kh,km,kc,Z,0,false⟩,true,rfl,f,?_⟩;unfold Gr.rd;rw[D.out];simp only;rw[if_neg h10,if_pos K.out,ah.out];simp only;rw[if_pos al.out];exact⟨trivial,by simp[toRT,offS]⟩
    ·have ap:=hid (fun W=>zps s hl T (T:Int) rfl (by omega) true true (y:Int) (m:Int) (d:Int) (kh:Int) (km:Int) (kc:Int) (Z:Int) W);have hJ:¬(T:Int)=(s.length:Int):=by omega
     have aw:((T:Int)==(s.length:Int))=false:=by simpa using hJ
     have hJ2:¬(T:Int)<0:=by omega
     go_wp2_with fail;refine(ap.out _).mono ?_;rintro e w4 ⟨⟨v0,v1,v2,v3,v4,v5,v6,v7,v8,v9,J,C⟩,r3,rfl,aj,ag⟩;have an:=hid ag;clear q0 q1 q2 q3 q4 q5 V Y q8 q9 t u xb xf x ag;simp only[RT.v];have ad:=hid (keep12 b.out aj);clear aj;have x:∀j,w4.frozen? ⟨h,j,none⟩=false:=ad.out.1.frozen;have xa:∀j,w4.cell? ⟨h,j,none⟩=(#[.bool true,.bool true,.bool false,.int .i64 (y:Int),.int .i64 (m:Int),.int .i64 (d:Int),.int .i64 (kh:Int),.int .i64 (km:Int),.int .i64 (kc:Int),.int .i64 (Z:Int),.int .i64 0,.bool false]:Array Value)[j]? :=fun j=>ad.out.1.cell j
     go_upto_region 15 with fail;obtain⟨w5,ae,M⟩:=zgz v0 v1 v2 v3 v4 v5 v6 v7 v8 v9 J C ad.out;have q:=hid M;(try rw[ae]);clear x xa ae M;obtain⟨ok,aa⟩:=ex (decide (r3=(s.length:Int)))
     have hokb:(r3==(s.length:Int))=ok:=by rw[<-aa];rfl
     have X:=hid aa;clear aa;obtain⟨q0,q1,q2,q3,q4,q5,V,Y,q8,q9,t,u⟩:=zag q.out.1;have xb:∀j,w5.cell? ⟨c,j,none⟩=(#[.bool false,.bool false,.bool false,.int .i64 0,.int .i64 0,.int .i64 0,.int .i64 0,.int .i64 0,.int .i64 0,.int .i64 0,.int .i64 0,.bool false]:Array Value)[j]? :=fun j=>q.out.2.1.cell j
     have xf:∀j,w5.frozen? ⟨c,j,none⟩=false:=q.out.2.1.frozen;have x:∀j,w5.frozen? ⟨h,j,none⟩=false:=q.out.1.frozen;go_wp2_with fail;have i:Hid (Blk w5 h 111 (T12 v0 v1 v2 v3 v4 v5 v6 v7 v8 v9 J C)/\Blk w5 c 111 (T12 false false false 0 0 0 0 0 0 0 0 false)/\Below c w w5):=hid ⟨q.out.1,q.out.2.1,q.out.2.2.1⟩;obtain⟨g,f⟩:=put12 v0 v1 v2 v3 v4 v5 v6 v7 v8 v9 J C i.out.2;obtain⟨e0,e1,e2,e3,e4,e5,e6,e7,e8,e9,O,R⟩:=zag g;refine bodyPost_ret (v:=.tuple #[.agg #[.bool v0,.bool v1,.bool v2,.int .i64 v3,.int .i64 v4,.int .i64 v5,.int .i64 v6,.int .i64 v7,.int .i64 v8,.int .i64 v9,.int .i64 J,.bool C],.bool ok]) (by rw[results_cell_tmp rfl];go_simp) rfl ?_;unfold RdPost;rw[I.out];refine⟨⟨v0,v1,v2,v3,v4,v5,v6,v7,v8,v9,J,C⟩,ok,rfl,f,?_⟩;unfold Gr.rd;rw[D.out];simp only;rw[if_neg h10,if_pos K.out,ah.out];simp only;rw[if_neg hks];have h1:=an.out;cases hzn:zoneAt s T with
     |none=>
      rw[hzn]at h1;simp only at h1 ⊢;rw[<-X.out,h1];simp
     |some z=>
      rw[hzn]at h1;simp only at h1 ⊢;obtain⟨h2,M⟩:=h1;by_cases hk:z.stop=s.length
      ·rw[if_pos hk];refine⟨by rw[<-X.out,h2,hk];simp,?_⟩;rw[M];simp[toRT,offS,zpt hzn]
      ·rw[if_neg hk];show ok=false;rw[<-X.out,h2];simp;omega
  ·have au:vT=false:=by cases vT<;>simp_all
   have aq:vS=false:=by cases vS<;>simp_all
   subst au;subst aq;obtain⟨q0,q1,q2,q3,q4,q5,V,Y,q8,q9,t,u⟩:=zag l.out.1;have xb:∀j,p.cell? ⟨c,j,none⟩=(#[.bool false,.bool false,.bool false,.int .i64 0,.int .i64 0,.int .i64 0,.int .i64 0,.int .i64 0,.int .i64 0,.int .i64 0,.int .i64 0,.bool false]:Array Value)[j]? :=fun j=>l.out.2.1.cell j
   have xf:∀j,p.frozen? ⟨c,j,none⟩=false:=l.out.2.1.frozen;have x:∀j,p.frozen? ⟨h,j,none⟩=false:=l.out.1.frozen;go_wp2_with fail;refine(L.out _).mono ?_;rintro e n ⟨rfl,rfl⟩;go_wp2_with fail;refine(P.out _).mono ?_;rintro e n ⟨rfl,rfl⟩;go_wp2_with fail;have i:Hid (Blk p h 111 (T12 true false false (y:Int) (m:Int) (d:Int) 0 0 0 0 0 false)/\Blk p c 111 (T12 false false false 0 0 0 0 0 0 0 0 false)/\Below c w p):=hid ⟨l.out.1,l.out.2.1,l.out.2.2.1⟩;obtain⟨g,f⟩:=put12 true false false (y:Int) (m:Int) (d:Int) 0 0 0 0 0 false i.out.2;obtain⟨e0,e1,e2,e3,e4,e5,e6,e7,e8,e9,O,R⟩:=zag g;refine bodyPost_ret (v:=.tuple #[.agg #[.bool true,.bool false,.bool false,.int .i64 (y:Int),.int .i64 (m:Int),.int .i64 (d:Int),.int .i64 0,.int .i64 0,.int .i64 0,.int .i64 0,.int .i64 0,.bool false],.bool false]) (by rw[results_cell_tmp rfl];go_simp) rfl ?_;unfold RdPost;rw[I.out];refine⟨⟨true,false,false,y,m,d,0,0,0,0,0,false⟩,false,rfl,f,?_⟩;unfold Gr.rd;rw[D.out];simp only;rw[if_neg h10,if_neg (by rw[F.out.1,F.out.2];decide)]
   trivial
theorem zc2 (s:Gr.Str) (hl:s.length<=1073741823) (w:World):Calls prog 103 #[.string ⟨s.toArray⟩] w (RdPost s w):=by
 cases hd:dateAt s with
 |none=>exact zh5 s hl hd w
 |some t=>exact zmj s hl t.1 t.2.1 t.2.2 hd w
end Go.Proofs.YtoigpackhninoaaGreatDoor
