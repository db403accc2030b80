import Derived.Test.YtpjmhafmeieloabGreatDoorZ22
import Derived.Test.YtpjmhafmeieloabGreatDoorGrInsR11
namespace Go.Proofs.YtpjmhafmeieloabGreatDoor
open Gr
open _root_.Go.Proofs.Tryz
open _root_.Go.Lib (hid)
set_option maxRecDepth 100000
set_option maxHeartbeats 16000000
open Go.RowKit
def toRT (x:Gr.Mo):RT:=⟨x.date,x.time,decide (x.z≠0),x.y,x.m,x.d,x.h,x.mi,x.c,x.nanos,offS x,decide (23<x.zh) || decide (59<x.zm)⟩
def RdPost (s:Gr.Str) (w:World) (e:Ending) (w':World):Prop:=∃(t:RT) (ok:Bool),e=.returned (.tuple #[t.v,.bool ok])/\Below w.heap.size w w'/\
 match Gr.rd s with
 |none=>ok=false
 |some x=>ok=true/\t=toRT x
theorem far12 {w:World} {g k:Nat} {t:TypeId} {cs:Array Value} (hne:k≠g) {v0 v1 v2 v3 v4 v5 v6 v7 v8 v9 v10 v11:Value} (h:Blk w k t cs):Blk ((((((((((((w.setCell ⟨g,0,none⟩ (v0)).setCell ⟨g,1,none⟩ (v1)).setCell ⟨g,2,none⟩ (v2)).setCell ⟨g,3,none⟩ (v3)).setCell ⟨g,4,none⟩ (v4)).setCell ⟨g,5,none⟩ (v5)).setCell ⟨g,6,none⟩ (v6)).setCell ⟨g,7,none⟩ (v7)).setCell ⟨g,8,none⟩ (v8)).setCell ⟨g,9,none⟩ (v9)).setCell ⟨g,10,none⟩ (v10)).setCell ⟨g,11,none⟩ (v11)) k t cs:=
 ((((((((((((h.far hne v0).far hne v1).far hne v2).far hne v3).far hne v4).far hne v5).far hne v6).far hne v7).far hne v8).far hne v9).far hne v10).far hne v11)
theorem put12 {w0 w:World} {g:Nat} {t:TypeId} {c0 c1 c2 c3 c4 c5 c6 c7 c8 c9 c10 c11:Value} (b0 b1 b2:Bool) (i3 i4 i5 i6 i7 i8 i9 i10:Int) (b11:Bool) (h:Blk w g t #[c0,c1,c2,c3,c4,c5,c6,c7,c8,c9,c10,c11]/\Below g w0 w):Blk ((((((((((((w.setCell ⟨g,0,none⟩ (.bool b0)).setCell ⟨g,1,none⟩ (.bool b1)).setCell ⟨g,2,none⟩ (.bool b2)).setCell ⟨g,3,none⟩ (.int .i64 i3)).setCell ⟨g,4,none⟩ (.int .i64 i4)).setCell ⟨g,5,none⟩ (.int .i64 i5)).setCell ⟨g,6,none⟩ (.int .i64 i6)).setCell ⟨g,7,none⟩ (.int .i64 i7)).setCell ⟨g,8,none⟩ (.int .i64 i8)).setCell ⟨g,9,none⟩ (.int .i64 i9)).setCell ⟨g,10,none⟩ (.int .i64 i10)).setCell ⟨g,11,none⟩ (.bool b11)) g t (T12 b0 b1 b2 i3 i4 i5 i6 i7 i8 i9 i10 b11)/\Below g w0 ((((((((((((w.setCell ⟨g,0,none⟩ (.bool b0)).setCell ⟨g,1,none⟩ (.bool b1)).setCell ⟨g,2,none⟩ (.bool b2)).setCell ⟨g,3,none⟩ (.int .i64 i3)).setCell ⟨g,4,none⟩ (.int .i64 i4)).setCell ⟨g,5,none⟩ (.int .i64 i5)).setCell ⟨g,6,none⟩ (.int .i64 i6)).setCell ⟨g,7,none⟩ (.int .i64 i7)).setCell ⟨g,8,none⟩ (.int .i64 i8)).setCell ⟨g,9,none⟩ (.int .i64 i9)).setCell ⟨g,10,none⟩ (.int .i64 i10)).setCell ⟨g,11,none⟩ (.bool b11)):=
 ⟨za9 h.1,zca h.2 (Nat.le_refl g)⟩
theorem zg7 {w0 w:World} {g k:Nat} {t t2:TypeId} {cs:Array Value} {c0 c1 c2 c3 c4 c5 c6 c7 c8 c9 c10 c11:Value} (b0 b1 b2:Bool) (i3 i4 i5 i6 i7 i8 i9 i10:Int) (b11:Bool) (h:Blk w g t #[c0,c1,c2,c3,c4,c5,c6,c7,c8,c9,c10,c11]/\Blk w k t2 cs/\Below k w0 w/\k<g):∃x,((((((((((((w.setCell ⟨g,0,none⟩ (.bool b0)).setCell ⟨g,1,none⟩ (.bool b1)).setCell ⟨g,2,none⟩ (.bool b2)).setCell ⟨g,3,none⟩ (.int .i64 i3)).setCell ⟨g,4,none⟩ (.int .i64 i4)).setCell ⟨g,5,none⟩ (.int .i64 i5)).setCell ⟨g,6,none⟩ (.int .i64 i6)).setCell ⟨g,7,none⟩ (.int .i64 i7)).setCell ⟨g,8,none⟩ (.int .i64 i8)).setCell ⟨g,9,none⟩ (.int .i64 i9)).setCell ⟨g,10,none⟩ (.int .i64 i10)).setCell ⟨g,11,none⟩ (.bool b11))=x/\(Blk x g t (T12 b0 b1 b2 i3 i4 i5 i6 i7 i8 i9 i10 b11)/\Blk x k t2 cs/\Below k w0 x/\k<g):=
 ⟨_,rfl,za9 h.1,far12 (by omega) h.2.1,zca h.2.2.1 (Nat.le_of_lt h.2.2.2),h.2.2.2⟩
theorem keep12 {w0 w w2:World} {g k:Nat} {t t2:TypeId} {cs cs2:Array Value} (h:Blk w g t cs/\Blk w k t2 cs2/\Below k w0 w/\k<g) (hb:Below w.heap.size w w2):Blk w2 g t cs/\Blk w2 k t2 cs2/\Below k w0 w2/\k<g:=
 ⟨h.1.below hb h.1.lt,h.2.1.below hb h.2.1.lt,h.2.2.1.trans (hb.mono (Nat.le_of_lt h.2.1.lt)),h.2.2.2⟩
theorem zpy {s:Gr.Str} {a:Nat} {z:Gr.Zn} (h:zoneAt s a=some z):z.z≠0:=by
 unfold zoneAt at h;split at h
 .injection h with h;subst h;show(90:UInt8)≠0;decide
 .split at h
  .split at h
   .rename_i hc;injection h with h
    subst h;rw[Bool.and_eq_true,Bool.or_eq_true]at hc;unfold isAt at hc;show s.getD a 0≠0;rw[List.getD_eq_getElem?_getD];rcases hc.1 with h1|h1
    .rw[eq_of_beq h1];decide
    .rw[eq_of_beq h1];decide
   .cases h
  .cases h
theorem zk5 {s:Gr.Str} {a kh km kc kf ks:Nat} (h:clockAt s a=some ⟨kh,km,kc,kf,ks⟩):ks<=s.length:=by
 unfold clockAt at h;split at h
 .rename_i h1 h2 h3;have b:=(zcw h3 (by omega)).2.2;split at h
  .split at h
   .rename_i hp;split at h
    .cases h
    .injection h with h
     injection h with _ _ _ _ h5
     have c:((s.drop (a+9)).takeWhile Gr.dig).length<=(s.drop (a+9)).length:=(List.takeWhile_sublist Gr.dig).length_le;rw[List.length_drop]at c;have:a+8<s.length:=by
      unfold isAt at hp;rcases Nat.lt_or_ge (a+8) s.length with h6|h6
      .exact h6
      .rw[List.getElem?_eq_none h6]at hp;cases hp
     omega
   .injection h with h
    injection h with _ _ _ _ h5
    omega
  .cases h
 .cases h
theorem zie (s:Gr.Str) (hl:s.length<=1073741823) (DA:dateAt s=none) (w:World):
 Calls prog 154 #[.string ⟨s.toArray⟩] w (RdPost s w):=by
 have ac:=hid (fun W=>zid s hl W);have ad:=hid (fun W=>zf9 s hl 0 0 rfl (by omega) false 0 0 0 W);go_enter func154,ntmps154;go_upto_region 1 with fail;obtain⟨b,g⟩:=ex w.heap.size
 obtain⟨S,t⟩:∃S,S=w.alloc (.cells #[.bool false,.bool false,.bool false,.int .i64 0,.int .i64 0,.int .i64 0,.int .i64 0,.int .i64 0,.int .i64 0,.int .i64 0,.int .i64 0,.bool false] 165):=⟨_,rfl⟩
 have c:Hid (Blk S b 165 (T12 false false false 0 0 0 0 0 0 0 0 false)/\Below b w S/\S.heap.size=b+1):=hid (by rw[t,<-g];exact⟨Blk.new _ _ _,(Below.refl _ _).alloc (Nat.le_refl _) _,by simp⟩);have ae:=hid g;(try rw[<-t]);(try rw[g]);clear t g;go_wp2_with fail;refine(ac.out _).mono ?_;rintro e M ⟨⟨t0,t1,t2,Y,t4,t5,t6,t7,X,t9,u,l⟩,r,rfl,h,hm⟩;have i:Hid (Blk M b 165 (T12 false false false 0 0 0 0 0 0 0 0 false)/\Below b w M/\b<M.heap.size):=hid ⟨c.out.1.below h c.out.1.lt,c.out.2.1.trans (h.mono (by have:=c.out.2.2;omega)),by have:=c.out.2.2;have:=h.size;omega⟩;rw[DA]at hm;simp only at hm;subst hm;have aa:=hid DA;clear DA;simp only[RT.v];clear h;go_upto_region 2 with fail;obtain⟨q,n⟩:=ex M.heap.size
 obtain⟨z,x⟩:=ex (M.alloc (.cells #[.bool t0,.bool t1,.bool t2,.int .i64 Y,.int .i64 t4,.int .i64 t5,.int .i64 t6,.int .i64 t7,.int .i64 X,.int .i64 t9,.int .i64 u,.bool l] 165))
 have O:Hid (Blk z q 165 (T12 t0 t1 t2 Y t4 t5 t6 t7 X t9 u l)/\Blk z b 165 (T12 false false false 0 0 0 0 0 0 0 0 false)/\Below b w z/\b<q):=hid (by
  rw[<-x,<-n];exact⟨Blk.new _ _ _,i.out.1.alloc _,i.out.2.1.alloc (Nat.le_of_lt i.out.2.2) _,i.out.2.2⟩)
 (try rw[x]);(try rw[n]);clear x n;obtain⟨q0,q1,q2,q3,q4,q5,q6,q7,q8,q9,G,J⟩:=zag O.out.1;have xb:∀j,z.cell? ⟨b,j,none⟩=(#[.bool false,.bool false,.bool false,.int .i64 0,.int .i64 0,.int .i64 0,.int .i64 0,.int .i64 0,.int .i64 0,.int .i64 0,.int .i64 0,.bool false]:Array Value)[j]? :=fun j=>O.out.2.1.cell j
 have xf:∀j,z.frozen? ⟨b,j,none⟩=false:=O.out.2.1.frozen;have U:∀j,z.frozen? ⟨q,j,none⟩=false:=O.out.1.frozen;go_wp2_with fail;refine(ad.out _).mono ?_;rintro e w2 ⟨⟨L,R,C,P,F,N,H,I,B,K,d,f⟩,r2,rfl,Q,E⟩;have ag:=hid E;clear q0 q1 q2 q3 q4 q5 q6 q7 q8 q9 G J xb xf U E;simp only[RT.v];have m:=hid (keep12 O.out Q);clear Q;have U:∀j,w2.frozen? ⟨q,j,none⟩=false:=m.out.1.frozen;have xa:∀j,w2.cell? ⟨q,j,none⟩=(#[.bool t0,.bool t1,.bool t2,.int .i64 Y,.int .i64 t4,.int .i64 t5,.int .i64 t6,.int .i64 t7,.int .i64 X,.int .i64 t9,.int .i64 u,.bool l]:Array Value)[j]? :=fun j=>m.out.1.cell j
 go_upto_region 4 with fail;obtain⟨A,D,V⟩:=zg7 L R C P F N H I B K d f m.out;have a:=hid V;(try rw[D]);clear U xa D V;obtain⟨T,o⟩:=ex (decide (r2=(s.length:Int)))
 have hokb:(r2==(s.length:Int))=T:=by rw[<-o];rfl
 have p:=hid o;clear o;obtain⟨q0,q1,q2,q3,q4,q5,q6,q7,q8,q9,G,J⟩:=zag a.out.1;have xb:∀j,A.cell? ⟨b,j,none⟩=(#[.bool false,.bool false,.bool false,.int .i64 0,.int .i64 0,.int .i64 0,.int .i64 0,.int .i64 0,.int .i64 0,.int .i64 0,.int .i64 0,.bool false]:Array Value)[j]? :=fun j=>a.out.2.1.cell j
 have xf:∀j,A.frozen? ⟨b,j,none⟩=false:=a.out.2.1.frozen;have U:∀j,A.frozen? ⟨q,j,none⟩=false:=a.out.1.frozen;go_wp2_with fail;have Z:Hid (Blk A q 165 (T12 L R C P F N H I B K d f)/\Blk A b 165 (T12 false false false 0 0 0 0 0 0 0 0 false)/\Below b w A):=hid ⟨a.out.1,a.out.2.1,a.out.2.2.1⟩;obtain⟨af,ab⟩:=put12 L R C P F N H I B K d f Z.out.2;obtain⟨e0,e1,e2,e3,e4,e5,e6,e7,e8,e9,e10,e11⟩:=zag af;refine bodyPost_ret (v:=.tuple #[.agg #[.bool L,.bool R,.bool C,.int .i64 P,.int .i64 F,.int .i64 N,.int .i64 H,.int .i64 I,.int .i64 B,.int .i64 K,.int .i64 d,.bool f],.bool T]) (by rw[results_cell_tmp rfl];go_simp) rfl ?_;unfold RdPost;rw[ae.out];refine⟨⟨L,R,C,P,F,N,H,I,B,K,d,f⟩,T,rfl,ab,?_⟩;unfold Gr.rd;rw[aa.out];simp only;have y:=ag.out;cases hck:clockAt s 0 with
 |none=>
  rw[hck]at y;simp only at y ⊢;rw[<-p.out,y];simp
 |some k=>
  rw[hck]at y;simp only at y ⊢;obtain⟨h2,V⟩:=y;by_cases hk:k.stop=s.length
  .rw[if_pos hk];refine⟨by rw[<-p.out,h2,hk];simp,?_⟩;rw[V];simp[toRT,offS]
  .rw[if_neg hk];show T=false;rw[<-p.out,h2];simp;omega
theorem zmn (s:Gr.Str) (hl:s.length<=1073741823) (y m d:Nat) (DA:dateAt s=some (y,m,d)) (w:World):
 Calls prog 154 #[.string ⟨s.toArray⟩] w (RdPost s w):=by
 have av:=hid (fun W=>zid s hl W);have I:=hid (fun W=>zcl s hl 10 10 rfl 84 84 rfl W);have R:=hid (fun W=>zcl s hl 10 10 rfl 32 32 rfl W);obtain⟨vT,hT⟩:=ex (isAt s 10 84)
 obtain⟨vS,hS⟩:=ex (isAt s 10 32)
 rw[hT]at I;rw[hS]at R;have G:=hid (And.intro hT hS);clear hT hS;go_enter func154,ntmps154;go_upto_region 1 with fail;obtain⟨c,N⟩:=ex w.heap.size
 obtain⟨w0,ad⟩:∃w0,w0=w.alloc (.cells #[.bool false,.bool false,.bool false,.int .i64 0,.int .i64 0,.int .i64 0,.int .i64 0,.int .i64 0,.int .i64 0,.int .i64 0,.int .i64 0,.bool false] 165):=⟨_,rfl⟩
 have H:Hid (Blk w0 c 165 (T12 false false false 0 0 0 0 0 0 0 0 false)/\Below c w w0/\w0.heap.size=c+1):=hid (by rw[ad,<-N];exact⟨Blk.new _ _ _,(Below.refl _ _).alloc (Nat.le_refl _) _,by simp⟩);have E:=hid N;(try rw[<-ad]);(try rw[N]);clear ad N;go_wp2_with fail;refine(av.out _).mono ?_;rintro e w1 ⟨⟨t0,t1,t2,t3,t4,t5,t6,t7,t8,t9,t10,t11⟩,r,rfl,Q,hm⟩;have S:Hid (Blk w1 c 165 (T12 false false false 0 0 0 0 0 0 0 0 false)/\Below c w w1/\c<w1.heap.size):=hid ⟨H.out.1.below Q H.out.1.lt,H.out.2.1.trans (Q.mono (by have:=H.out.2.2;omega)),by have:=H.out.2.2;have:=Q.size;omega⟩;rw[DA]at hm;simp only at hm;obtain⟨ao,o⟩:=hm;subst ao;injection o with k0 k1 k2 k3 k4 k5 k6 k7 k8 k9 k10 k11
 subst k0 k1 k2 k3 k4 k5 k6 k7 k8 k9 k10 k11;have B:=hid DA;clear DA;simp only[RT.v];clear Q;go_upto_region 2 with fail;obtain⟨i,U⟩:=ex w1.heap.size
 obtain⟨p,ae⟩:=ex (w1.alloc (.cells #[.bool true,.bool false,.bool false,.int .i64 (y:Int),.int .i64 (m:Int),.int .i64 (d:Int),.int .i64 0,.int .i64 0,.int .i64 0,.int .i64 0,.int .i64 0,.bool false] 165))
 have h:Hid (Blk p i 165 (T12 true false false (y:Int) (m:Int) (d:Int) 0 0 0 0 0 false)/\Blk p c 165 (T12 false false false 0 0 0 0 0 0 0 0 false)/\Below c w p/\c<i):=hid (by
  rw[<-ae,<-U];exact⟨Blk.new _ _ _,S.out.1.alloc _,S.out.2.1.alloc (Nat.le_of_lt S.out.2.2) _,S.out.2.2⟩)
 (try rw[ae]);(try rw[U]);clear ae U;by_cases h10:s.length=10
 .have an:((10:Int)==(s.length:Int))=true:=by rw[beq_iff_eq];omega
  have am:=hid h10;clear h10;obtain⟨q0,q1,q2,Y,q4,q5,Z,q7,q8,q9,q,t⟩:=zag h.out.1;have xb:∀j,p.cell? ⟨c,j,none⟩=(#[.bool false,.bool false,.bool false,.int .i64 0,.int .i64 0,.int .i64 0,.int .i64 0,.int .i64 0,.int .i64 0,.int .i64 0,.int .i64 0,.bool false]:Array Value)[j]? :=fun j=>h.out.2.1.cell j
  have X:∀j,p.frozen? ⟨c,j,none⟩=false:=h.out.2.1.frozen;have A:∀j,p.frozen? ⟨i,j,none⟩=false:=h.out.1.frozen;go_wp2_with fail;have f:Hid (Blk p i 165 (T12 true false false (y:Int) (m:Int) (d:Int) 0 0 0 0 0 false)/\Blk p c 165 (T12 false false false 0 0 0 0 0 0 0 0 false)/\Below c w p):=hid ⟨h.out.1,h.out.2.1,h.out.2.2.1⟩;obtain⟨l,g⟩:=put12 true false false (y:Int) (m:Int) (d:Int) 0 0 0 0 0 false f.out.2;obtain⟨e0,e1,e2,e3,e4,e5,e6,e7,e8,e9,P,O⟩:=zag l;refine bodyPost_ret (v:=.tuple #[.agg #[.bool true,.bool false,.bool false,.int .i64 (y:Int),.int .i64 (m:Int),.int .i64 (d:Int),.int .i64 0,.int .i64 0,.int .i64 0,.int .i64 0,.int .i64 0,.bool false],.bool true]) (by rw[results_cell_tmp rfl];go_simp) rfl ?_;unfold RdPost;rw[E.out];refine⟨⟨true,false,false,y,m,d,0,0,0,0,0,false⟩,true,rfl,g,?_⟩;unfold Gr.rd;rw[B.out];simp only;rw[if_pos am.out]
  first|exact⟨rfl,by simp[toRT,offS]⟩|exact⟨trivial,by simp[toRT,offS]⟩
 .have hI:¬(10:Int)=(s.length:Int):=by omega
  have an:((10:Int)==(s.length:Int))=false:=by simpa using hI
  by_cases hsep:(vT || vS)=true
  .have ai:vT=true\/(vT=false/\vS=true):=by cases vT<;>cases vS<;>simp_all
   have D:Hid ((isAt s 10 84 || isAt s 10 32)=true):=hid (by rw[G.out.1,G.out.2,hsep]);have ap:=hid (fun W=>zf9 s hl 11 11 rfl (by omega) true (y:Int) (m:Int) (d:Int) W);clear hsep G;go_upto_region 7 with fail;go_cut [39] (fun s39 wx=>s39=.bool false/\wx=p)
   case first=>
    rcases ai with rfl|⟨rfl,rfl⟩
    .go_wp2_with fail;refine(I.out _).mono ?_;rintro e n ⟨rfl,rfl⟩;go_wp2;go_meet;exact⟨rfl,rfl⟩
    .go_wp2_with fail;refine(I.out _).mono ?_;rintro e n ⟨rfl,rfl⟩;go_wp2_with fail;refine(R.out _).mono ?_;rintro e n ⟨rfl,rfl⟩;go_wp2;go_meet;exact⟨rfl,rfl⟩
   case rest=>
   obtain⟨rfl,rfl⟩:=hcut;refine(‹∀(a:Act) (w_1:World),Code.wp prog _ _ a w_1->_›) _ _ ?_;clear ai I R;obtain⟨q0,q1,q2,Y,q4,q5,Z,q7,q8,q9,q,t⟩:=zag h.out.1;have xb:∀j,wc.cell? ⟨c,j,none⟩=(#[.bool false,.bool false,.bool false,.int .i64 0,.int .i64 0,.int .i64 0,.int .i64 0,.int .i64 0,.int .i64 0,.int .i64 0,.int .i64 0,.bool false]:Array Value)[j]? :=fun j=>h.out.2.1.cell j
   have X:∀j,wc.frozen? ⟨c,j,none⟩=false:=h.out.2.1.frozen;have A:∀j,wc.frozen? ⟨i,j,none⟩=false:=h.out.1.frozen;go_wp2_with fail;refine(ap.out _).mono ?_;rintro e w2 ⟨⟨u0,u1,u2,u3,u4,u5,u6,u7,u8,u9,J,K⟩,r2,rfl,ak,o⟩;clear q0 q1 q2 Y q4 q5 Z q7 q8 q9 q t xb X A;simp only[RT.v];have x:=hid (keep12 h.out ak);clear ak;cases hck:clockAt s 11 with
   |none=>
    rw[hck]at o;simp only at o;subst o;have A:∀j,w2.frozen? ⟨i,j,none⟩=false:=x.out.1.frozen;have xa:∀j,w2.cell? ⟨i,j,none⟩=(#[.bool true,.bool false,.bool false,.int .i64 (y:Int),.int .i64 (m:Int),.int .i64 (d:Int),.int .i64 0,.int .i64 0,.int .i64 0,.int .i64 0,.int .i64 0,.bool false]:Array Value)[j]? :=fun j=>x.out.1.cell j
    go_upto_region 10 with fail;obtain⟨n,F,M⟩:=zg7 u0 u1 u2 u3 u4 u5 u6 u7 u8 u9 J K x.out;have b:=hid M;(try rw[F]);clear A xa F M;have hJ:¬(-1:Int)=(s.length:Int):=by omega
    have au:((-1:Int)==(s.length:Int))=false:=by simp
    obtain⟨q0,q1,q2,Y,q4,q5,Z,q7,q8,q9,q,t⟩:=zag b.out.1;have xb:∀j,n.cell? ⟨c,j,none⟩=(#[.bool false,.bool false,.bool false,.int .i64 0,.int .i64 0,.int .i64 0,.int .i64 0,.int .i64 0,.int .i64 0,.int .i64 0,.int .i64 0,.bool false]:Array Value)[j]? :=fun j=>b.out.2.1.cell j
    have X:∀j,n.frozen? ⟨c,j,none⟩=false:=b.out.2.1.frozen;have A:∀j,n.frozen? ⟨i,j,none⟩=false:=b.out.1.frozen;go_wp2_with fail;have f:Hid (Blk n i 165 (T12 u0 u1 u2 u3 u4 u5 u6 u7 u8 u9 J K)/\Blk n c 165 (T12 false false false 0 0 0 0 0 0 0 0 false)/\Below c w n):=hid ⟨b.out.1,b.out.2.1,b.out.2.2.1⟩;obtain⟨l,g⟩:=put12 u0 u1 u2 u3 u4 u5 u6 u7 u8 u9 J K f.out.2;obtain⟨e0,e1,e2,e3,e4,e5,e6,e7,e8,e9,P,O⟩:=zag l;refine bodyPost_ret (v:=.tuple #[.agg #[.bool u0,.bool u1,.bool u2,.int .i64 u3,.int .i64 u4,.int .i64 u5,.int .i64 u6,.int .i64 u7,.int .i64 u8,.int .i64 u9,.int .i64 J,.bool K],.bool false]) (by rw[results_cell_tmp rfl];go_simp) rfl ?_;unfold RdPost;rw[E.out];refine⟨⟨u0,u1,u2,u3,u4,u5,u6,u7,u8,u9,J,K⟩,false,rfl,g,?_⟩;unfold Gr.rd;rw[B.out];simp only;rw[if_neg h10,if_pos D.out,hck]
    trivial
   |some k=>
    obtain⟨kh,V,kc,kf,T⟩:=k;have hkl:=zk5 hck;rw[hck]at o;simp only at o;obtain⟨al,hu⟩:=o;subst al;injection hu with k0 k1 k2 k3 k4 k5 k6 k7 k8 k9 k10 k11
    subst k0 k1 k2 k3 k4 k5 k6 k7 k8 k9 k10 k11;have aj:=hid hck;clear hck;have A:∀j,w2.frozen? ⟨i,j,none⟩=false:=x.out.1.frozen;have xa:∀j,w2.cell? ⟨i,j,none⟩=(#[.bool true,.bool false,.bool false,.int .i64 (y:Int),.int .i64 (m:Int),.int .i64 (d:Int),.int .i64 0,.int .i64 0,.int .i64 0,.int .i64 0,.int .i64 0,.bool false]:Array Value)[j]? :=fun j=>x.out.1.cell j
    go_upto_region 10 with fail;obtain⟨n,F,M⟩:=zg7 true true false (y:Int) (m:Int) (d:Int) (kh:Int) (V:Int) (kc:Int) (kf:Int) 0 false x.out;have b:=hid M;(try rw[F]);clear A xa F M;obtain⟨q0,q1,q2,Y,q4,q5,Z,q7,q8,q9,q,t⟩:=zag b.out.1;have xb:∀j,n.cell? ⟨c,j,none⟩=(#[.bool false,.bool false,.bool false,.int .i64 0,.int .i64 0,.int .i64 0,.int .i64 0,.int .i64 0,.int .i64 0,.int .i64 0,.int .i64 0,.bool false]:Array Value)[j]? :=fun j=>b.out.2.1.cell j
    have X:∀j,n.frozen? ⟨c,j,none⟩=false:=b.out.2.1.frozen;have A:∀j,n.frozen? ⟨i,j,none⟩=false:=b.out.1.frozen;by_cases hks:T=s.length
    .have aw:=hid hks;have hKb:((T:Int)==(s.length:Int))=true:=by rw[hks];simp
     clear hks;go_wp2_with fail;have f:Hid (Blk n i 165 (T12 true true false (y:Int) (m:Int) (d:Int) (kh:Int) (V:Int) (kc:Int) (kf:Int) 0 false)/\Blk n c 165 (T12 false false false 0 0 0 0 0 0 0 0 false)/\Below c w n):=hid ⟨b.out.1,b.out.2.1,b.out.2.2.1⟩;obtain⟨l,g⟩:=put12 true true false (y:Int) (m:Int) (d:Int) (kh:Int) (V:Int) (kc:Int) (kf:Int) 0 false f.out.2;obtain⟨e0,e1,e2,e3,e4,e5,e6,e7,e8,e9,P,O⟩:=zag l;refine bodyPost_ret (v:=.tuple #[.agg #[.bool true,.bool true,.bool false,.int .i64 (y:Int),.int .i64 (m:Int),.int .i64 (d:Int),.int .i64 (kh:Int),.int .i64 (V:Int),.int .i64 (kc:Int),.int .i64 (kf:Int),.int .i64 0,.bool false],.bool true]) (by rw[results_cell_tmp rfl];go_simp) rfl ?_;unfold RdPost;rw[E.out];refine⟨⟨true,true,false,y,m,d,kh,V,kc,kf,0,false⟩,true,rfl,g,?_⟩;unfold Gr.rd;rw[B.out];simp only;rw[if_neg h10,if_pos D.out,aj.out];simp only;rw[if_pos aw.out];exact⟨trivial,by simp[toRT,offS]⟩
    .have ay:=hid (fun W=>zpx s hl T (T:Int) rfl (by omega) true true (y:Int) (m:Int) (d:Int) (kh:Int) (V:Int) (kc:Int) (kf:Int) W);have hJ:¬(T:Int)=(s.length:Int):=by omega
     have au:((T:Int)==(s.length:Int))=false:=by simpa using hJ
     have hJ2:¬(T:Int)<0:=by omega
     go_wp2_with fail;refine(ay.out _).mono ?_;rintro e w4 ⟨⟨v0,v1,v2,v3,v4,v5,v6,v7,v8,v9,C,L⟩,r3,rfl,ah,ag⟩;have aq:=hid ag;clear q0 q1 q2 Y q4 q5 Z q7 q8 q9 q t xb X A ag;simp only[RT.v];have ab:=hid (keep12 b.out ah);clear ah;have A:∀j,w4.frozen? ⟨i,j,none⟩=false:=ab.out.1.frozen;have xa:∀j,w4.cell? ⟨i,j,none⟩=(#[.bool true,.bool true,.bool false,.int .i64 (y:Int),.int .i64 (m:Int),.int .i64 (d:Int),.int .i64 (kh:Int),.int .i64 (V:Int),.int .i64 (kc:Int),.int .i64 (kf:Int),.int .i64 0,.bool false]:Array Value)[j]? :=fun j=>ab.out.1.cell j
     go_upto_region 15 with fail;obtain⟨w5,af,M⟩:=zg7 v0 v1 v2 v3 v4 v5 v6 v7 v8 v9 C L ab.out;have u:=hid M;(try rw[af]);clear A xa af M;obtain⟨ok,ac⟩:=ex (decide (r3=(s.length:Int)))
     have hokb:(r3==(s.length:Int))=ok:=by rw[<-ac];rfl
     have aa:=hid ac;clear ac;obtain⟨q0,q1,q2,Y,q4,q5,Z,q7,q8,q9,q,t⟩:=zag u.out.1;have xb:∀j,w5.cell? ⟨c,j,none⟩=(#[.bool false,.bool false,.bool false,.int .i64 0,.int .i64 0,.int .i64 0,.int .i64 0,.int .i64 0,.int .i64 0,.int .i64 0,.int .i64 0,.bool false]:Array Value)[j]? :=fun j=>u.out.2.1.cell j
     have X:∀j,w5.frozen? ⟨c,j,none⟩=false:=u.out.2.1.frozen;have A:∀j,w5.frozen? ⟨i,j,none⟩=false:=u.out.1.frozen;go_wp2_with fail;have f:Hid (Blk w5 i 165 (T12 v0 v1 v2 v3 v4 v5 v6 v7 v8 v9 C L)/\Blk w5 c 165 (T12 false false false 0 0 0 0 0 0 0 0 false)/\Below c w w5):=hid ⟨u.out.1,u.out.2.1,u.out.2.2.1⟩;obtain⟨l,g⟩:=put12 v0 v1 v2 v3 v4 v5 v6 v7 v8 v9 C L f.out.2;obtain⟨e0,e1,e2,e3,e4,e5,e6,e7,e8,e9,P,O⟩:=zag l;refine bodyPost_ret (v:=.tuple #[.agg #[.bool v0,.bool v1,.bool v2,.int .i64 v3,.int .i64 v4,.int .i64 v5,.int .i64 v6,.int .i64 v7,.int .i64 v8,.int .i64 v9,.int .i64 C,.bool L],.bool ok]) (by rw[results_cell_tmp rfl];go_simp) rfl ?_;unfold RdPost;rw[E.out];refine⟨⟨v0,v1,v2,v3,v4,v5,v6,v7,v8,v9,C,L⟩,ok,rfl,g,?_⟩;unfold Gr.rd;rw[B.out];simp only;rw[if_neg h10,if_pos D.out,aj.out];simp only;rw[if_neg hks];have h1:=aq.out;cases hzn:zoneAt s T with
     |none=>
      rw[hzn]at h1;simp only at h1 ⊢;rw[<-aa.out,h1];simp
     |some z=>
      rw[hzn]at h1;simp only at h1 ⊢;obtain⟨h2,M⟩:=h1;by_cases hk:z.stop=s.length
      .rw[if_pos hk];refine⟨by rw[<-aa.out,h2,hk];simp,?_⟩;rw[M];simp[toRT,offS,zpy hzn]
      .rw[if_neg hk];show ok=false;rw[<-aa.out,h2];simp;omega
  .have ax:vT=false:=by cases vT<;>simp_all
   have ar:vS=false:=by cases vS<;>simp_all
   subst ax;subst ar;obtain⟨q0,q1,q2,Y,q4,q5,Z,q7,q8,q9,q,t⟩:=zag h.out.1;have xb:∀j,p.cell? ⟨c,j,none⟩=(#[.bool false,.bool false,.bool false,.int .i64 0,.int .i64 0,.int .i64 0,.int .i64 0,.int .i64 0,.int .i64 0,.int .i64 0,.int .i64 0,.bool false]:Array Value)[j]? :=fun j=>h.out.2.1.cell j
   have X:∀j,p.frozen? ⟨c,j,none⟩=false:=h.out.2.1.frozen;have A:∀j,p.frozen? ⟨i,j,none⟩=false:=h.out.1.frozen;go_wp2_with fail;refine(I.out _).mono ?_;rintro e n ⟨rfl,rfl⟩;go_wp2_with fail;refine(R.out _).mono ?_;rintro e n ⟨rfl,rfl⟩;go_wp2_with fail;have f:Hid (Blk p i 165 (T12 true false false (y:Int) (m:Int) (d:Int) 0 0 0 0 0 false)/\Blk p c 165 (T12 false false false 0 0 0 0 0 0 0 0 false)/\Below c w p):=hid ⟨h.out.1,h.out.2.1,h.out.2.2.1⟩;obtain⟨l,g⟩:=put12 true false false (y:Int) (m:Int) (d:Int) 0 0 0 0 0 false f.out.2;obtain⟨e0,e1,e2,e3,e4,e5,e6,e7,e8,e9,P,O⟩:=zag l;refine bodyPost_ret (v:=.tuple #[.agg #[.bool true,.bool false,.bool false,.int .i64 (y:Int),.int .i64 (m:Int),.int .i64 (d:Int),.int .i64 0,.int .i64 0,.int .i64 0,.int .i64 0,.int .i64 0,.bool false],.bool false]) (by rw[results_cell_tmp rfl];go_simp) rfl ?_;unfold RdPost;rw[E.out];refine⟨⟨true,false,false,y,m,d,0,0,0,0,0,false⟩,false,rfl,g,?_⟩;unfold Gr.rd;rw[B.out];simp only;rw[if_neg h10,if_neg (by rw[G.out.1,G.out.2];decide)]
   trivial
theorem zc6 (s:Gr.Str) (hl:s.length<=1073741823) (w:World):Calls prog 154 #[.string ⟨s.toArray⟩] w (RdPost s w):=by
 cases hd:dateAt s with
 |none=>exact zie s hl hd w
 |some t=>exact zmn s hl t.1 t.2.1 t.2.2 hd w
end Go.Proofs.YtpjmhafmeieloabGreatDoor
