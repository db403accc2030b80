import Derived.Test.YtpgmfihonmoliaaGreatDoorZ25
import Derived.Test.YtpgmfihonmoliaaGreatDoorGrInsR11
namespace Go.Proofs.YtpgmfihonmoliaaGreatDoor
open Gr
open _root_.Go.Proofs.Tryz
open _root_.Go.Lib (hid)
set_option maxRecDepth 100000
set_option maxHeartbeats 16000000
open Go.RowKit
def toRT (x:Gr.Mo):RT:=⟨x.date,x.time,decide (x.z≠0),x.y,x.m,x.d,x.h,x.mi,x.c,x.nanos,offS x,decide (23<x.zh) || decide (59<x.zm)⟩
def RdPost (s:Gr.Str) (w:World) (e:Ending) (w':World):Prop:=∃(t:RT) (ok:Bool),e=.returned (.tuple #[t.v,.bool ok])/\Below w.heap.size w w'/\
 match Gr.rd s with
 |none=>ok=false
 |some x=>ok=true/\t=toRT x
theorem far12 {w:World} {g k:Nat} {t:TypeId} {cs:Array Value} (hne:k≠g) {v0 v1 v2 v3 v4 v5 v6 v7 v8 v9 v10 v11:Value} (h:Blk w k t cs):Blk ((((((((((((w.setCell ⟨g,0,none⟩ (v0)).setCell ⟨g,1,none⟩ (v1)).setCell ⟨g,2,none⟩ (v2)).setCell ⟨g,3,none⟩ (v3)).setCell ⟨g,4,none⟩ (v4)).setCell ⟨g,5,none⟩ (v5)).setCell ⟨g,6,none⟩ (v6)).setCell ⟨g,7,none⟩ (v7)).setCell ⟨g,8,none⟩ (v8)).setCell ⟨g,9,none⟩ (v9)).setCell ⟨g,10,none⟩ (v10)).setCell ⟨g,11,none⟩ (v11)) k t cs:=
 ((((((((((((h.far hne v0).far hne v1).far hne v2).far hne v3).far hne v4).far hne v5).far hne v6).far hne v7).far hne v8).far hne v9).far hne v10).far hne v11)
theorem put12 {w0 w:World} {g:Nat} {t:TypeId} {c0 c1 c2 c3 c4 c5 c6 c7 c8 c9 c10 c11:Value} (b0 b1 b2:Bool) (i3 i4 i5 i6 i7 i8 i9 i10:Int) (b11:Bool) (h:Blk w g t #[c0,c1,c2,c3,c4,c5,c6,c7,c8,c9,c10,c11]/\Below g w0 w):Blk ((((((((((((w.setCell ⟨g,0,none⟩ (.bool b0)).setCell ⟨g,1,none⟩ (.bool b1)).setCell ⟨g,2,none⟩ (.bool b2)).setCell ⟨g,3,none⟩ (.int .i64 i3)).setCell ⟨g,4,none⟩ (.int .i64 i4)).setCell ⟨g,5,none⟩ (.int .i64 i5)).setCell ⟨g,6,none⟩ (.int .i64 i6)).setCell ⟨g,7,none⟩ (.int .i64 i7)).setCell ⟨g,8,none⟩ (.int .i64 i8)).setCell ⟨g,9,none⟩ (.int .i64 i9)).setCell ⟨g,10,none⟩ (.int .i64 i10)).setCell ⟨g,11,none⟩ (.bool b11)) g t (T12 b0 b1 b2 i3 i4 i5 i6 i7 i8 i9 i10 b11)/\Below g w0 ((((((((((((w.setCell ⟨g,0,none⟩ (.bool b0)).setCell ⟨g,1,none⟩ (.bool b1)).setCell ⟨g,2,none⟩ (.bool b2)).setCell ⟨g,3,none⟩ (.int .i64 i3)).setCell ⟨g,4,none⟩ (.int .i64 i4)).setCell ⟨g,5,none⟩ (.int .i64 i5)).setCell ⟨g,6,none⟩ (.int .i64 i6)).setCell ⟨g,7,none⟩ (.int .i64 i7)).setCell ⟨g,8,none⟩ (.int .i64 i8)).setCell ⟨g,9,none⟩ (.int .i64 i9)).setCell ⟨g,10,none⟩ (.int .i64 i10)).setCell ⟨g,11,none⟩ (.bool b11)):=
 ⟨zbc h.1,zcc h.2 (Nat.le_refl g)⟩
theorem zg8 {w0 w:World} {g k:Nat} {t t2:TypeId} {cs:Array Value} {c0 c1 c2 c3 c4 c5 c6 c7 c8 c9 c10 c11:Value} (b0 b1 b2:Bool) (i3 i4 i5 i6 i7 i8 i9 i10:Int) (b11:Bool) (h:Blk w g t #[c0,c1,c2,c3,c4,c5,c6,c7,c8,c9,c10,c11]/\Blk w k t2 cs/\Below k w0 w/\k<g):∃x,((((((((((((w.setCell ⟨g,0,none⟩ (.bool b0)).setCell ⟨g,1,none⟩ (.bool b1)).setCell ⟨g,2,none⟩ (.bool b2)).setCell ⟨g,3,none⟩ (.int .i64 i3)).setCell ⟨g,4,none⟩ (.int .i64 i4)).setCell ⟨g,5,none⟩ (.int .i64 i5)).setCell ⟨g,6,none⟩ (.int .i64 i6)).setCell ⟨g,7,none⟩ (.int .i64 i7)).setCell ⟨g,8,none⟩ (.int .i64 i8)).setCell ⟨g,9,none⟩ (.int .i64 i9)).setCell ⟨g,10,none⟩ (.int .i64 i10)).setCell ⟨g,11,none⟩ (.bool b11))=x/\(Blk x g t (T12 b0 b1 b2 i3 i4 i5 i6 i7 i8 i9 i10 b11)/\Blk x k t2 cs/\Below k w0 x/\k<g):=
 ⟨_,rfl,zbc h.1,far12 (by omega) h.2.1,zcc h.2.2.1 (Nat.le_of_lt h.2.2.2),h.2.2.2⟩
theorem keep12 {w0 w w2:World} {g k:Nat} {t t2:TypeId} {cs cs2:Array Value} (h:Blk w g t cs/\Blk w k t2 cs2/\Below k w0 w/\k<g) (hb:Below w.heap.size w w2):Blk w2 g t cs/\Blk w2 k t2 cs2/\Below k w0 w2/\k<g:=
 ⟨h.1.below hb h.1.lt,h.2.1.below hb h.2.1.lt,h.2.2.1.trans (hb.mono (Nat.le_of_lt h.2.1.lt)),h.2.2.2⟩
theorem zqc {s:Gr.Str} {a:Nat} {z:Gr.Zn} (h:zoneAt s a=some z):z.z≠0:=by
 unfold zoneAt at h;split at h
 .injection h with h;subst h;show(90:UInt8)≠0;decide
 .split at h
  .split at h
   .rename_i hc;injection h with h
    subst h;rw[Bool.and_eq_true,Bool.or_eq_true]at hc;unfold isAt at hc;show s.getD a 0≠0;rw[List.getD_eq_getElem?_getD];rcases hc.1 with h1|h1
    .rw[eq_of_beq h1];decide
    .rw[eq_of_beq h1];decide
   .cases h
  .cases h
theorem zla {s:Gr.Str} {a kh km kc kf ks:Nat} (h:clockAt s a=some ⟨kh,km,kc,kf,ks⟩):ks<=s.length:=by
 unfold clockAt at h;split at h
 .rename_i h1 h2 h3;have b:=(zcw h3 (by omega)).2.2;split at h
  .split at h
   .rename_i hp;split at h
    .cases h
    .injection h with h
     injection h with _ _ _ _ h5
     have c:((s.drop (a+9)).takeWhile Gr.dig).length<=(s.drop (a+9)).length:=(List.takeWhile_sublist Gr.dig).length_le;rw[List.length_drop]at c;have:a+8<s.length:=by
      unfold isAt at hp;rcases Nat.lt_or_ge (a+8) s.length with h6|h6
      .exact h6
      .rw[List.getElem?_eq_none h6]at hp;cases hp
     omega
   .injection h with h
    injection h with _ _ _ _ h5
    omega
  .cases h
 .cases h
theorem ziq (s:Gr.Str) (hl:s.length<=1073741823) (DA:dateAt s=none) (w:World):
 Calls prog 130 #[.string ⟨s.toArray⟩] w (RdPost s w):=by
 have ab:=hid (fun W=>zio s hl W);have aa:=hid (fun W=>zf5 s hl 0 0 rfl (by omega) false 0 0 0 W);go_enter func130,ntmps130;go_upto_region 1 with fail;obtain⟨a,h⟩:=ex w.heap.size
 obtain⟨R,t⟩:∃R,R=w.alloc (.cells #[.bool false,.bool false,.bool false,.int .i64 0,.int .i64 0,.int .i64 0,.int .i64 0,.int .i64 0,.int .i64 0,.int .i64 0,.int .i64 0,.bool false] 147):=⟨_,rfl⟩
 have d:Hid (Blk R a 147 (T12 false false false 0 0 0 0 0 0 0 0 false)/\Below a w R/\R.heap.size=a+1):=hid (by rw[t,<-h];exact⟨Blk.new _ _ _,(Below.refl _ _).alloc (Nat.le_refl _) _,by simp⟩);have ac:=hid h;(try rw[<-t]);(try rw[h]);clear t h;go_wp2_with fail;refine(ab.out _).mono ?_;rintro e B ⟨⟨Y,t1,t2,t3,t4,t5,t6,t7,t8,Z,x,q⟩,r,rfl,i,hm⟩;have g:Hid (Blk B a 147 (T12 false false false 0 0 0 0 0 0 0 0 false)/\Below a w B/\a<B.heap.size):=hid ⟨d.out.1.below i d.out.1.lt,d.out.2.1.trans (i.mono (by have:=d.out.2.2;omega)),by have:=d.out.2.2;have:=i.size;omega⟩;rw[DA]at hm;simp only at hm;subst hm;have ag:=hid DA;clear DA;simp only[RT.v];clear i;go_upto_region 2 with fail;obtain⟨p,m⟩:=ex B.heap.size
 obtain⟨y,o⟩:=ex (B.alloc (.cells #[.bool Y,.bool t1,.bool t2,.int .i64 t3,.int .i64 t4,.int .i64 t5,.int .i64 t6,.int .i64 t7,.int .i64 t8,.int .i64 Z,.int .i64 x,.bool q] 147))
 have S:Hid (Blk y p 147 (T12 Y t1 t2 t3 t4 t5 t6 t7 t8 Z x q)/\Blk y a 147 (T12 false false false 0 0 0 0 0 0 0 0 false)/\Below a w y/\a<p):=hid (by
  rw[<-o,<-m];exact⟨Blk.new _ _ _,g.out.1.alloc _,g.out.2.1.alloc (Nat.le_of_lt g.out.2.2) _,g.out.2.2⟩)
 (try rw[o]);(try rw[m]);clear o m;obtain⟨q0,q1,q2,q3,q4,q5,q6,q7,q8,q9,Q,N⟩:=zah S.out.1;have xb:∀j,y.cell? ⟨a,j,none⟩=(#[.bool false,.bool false,.bool false,.int .i64 0,.int .i64 0,.int .i64 0,.int .i64 0,.int .i64 0,.int .i64 0,.int .i64 0,.int .i64 0,.bool false]:Array Value)[j]? :=fun j=>S.out.2.1.cell j
 have xf:∀j,y.frozen? ⟨a,j,none⟩=false:=S.out.2.1.frozen;have V:∀j,y.frozen? ⟨p,j,none⟩=false:=S.out.1.frozen;go_wp2_with fail;refine(aa.out _).mono ?_;rintro e w2 ⟨⟨O,K,G,D,E,I,P,L,C,H,f,c⟩,r2,rfl,M,F⟩;have ae:=hid F;clear q0 q1 q2 q3 q4 q5 q6 q7 q8 q9 Q N xb xf V F;simp only[RT.v];have l:=hid (keep12 S.out M);clear M;have V:∀j,w2.frozen? ⟨p,j,none⟩=false:=l.out.1.frozen;have xa:∀j,w2.cell? ⟨p,j,none⟩=(#[.bool Y,.bool t1,.bool t2,.int .i64 t3,.int .i64 t4,.int .i64 t5,.int .i64 t6,.int .i64 t7,.int .i64 t8,.int .i64 Z,.int .i64 x,.bool q]:Array Value)[j]? :=fun j=>l.out.1.cell j
 go_upto_region 4 with fail;obtain⟨A,J,T⟩:=zg8 O K G D E I P L C H f c l.out;have b:=hid T;(try rw[J]);clear V xa J T;obtain⟨U,u⟩:=ex (decide (r2=(s.length:Int)))
 have hokb:(r2==(s.length:Int))=U:=by rw[<-u];rfl
 have n:=hid u;clear u;obtain⟨q0,q1,q2,q3,q4,q5,q6,q7,q8,q9,Q,N⟩:=zah b.out.1;have xb:∀j,A.cell? ⟨a,j,none⟩=(#[.bool false,.bool false,.bool false,.int .i64 0,.int .i64 0,.int .i64 0,.int .i64 0,.int .i64 0,.int .i64 0,.int .i64 0,.int .i64 0,.bool false]:Array Value)[j]? :=fun j=>b.out.2.1.cell j
 have xf:∀j,A.frozen? ⟨a,j,none⟩=false:=b.out.2.1.frozen;have V:∀j,A.frozen? ⟨p,j,none⟩=false:=b.out.1.frozen;go_wp2_with fail;have X:Hid (Blk A p 147 (T12 O K G D E I P L C H f c)/\Blk A a 147 (T12 false false false 0 0 0 0 0 0 0 0 false)/\Below a w A):=hid ⟨b.out.1,b.out.2.1,b.out.2.2.1⟩;obtain⟨ad,af⟩:=put12 O K G D E I P L C H f c X.out.2;obtain⟨e0,e1,e2,e3,e4,e5,e6,e7,e8,e9,e10,e11⟩:=zah ad;refine bodyPost_ret (v:=.tuple #[.agg #[.bool O,.bool K,.bool G,.int .i64 D,.int .i64 E,.int .i64 I,.int .i64 P,.int .i64 L,.int .i64 C,.int .i64 H,.int .i64 f,.bool c],.bool U]) (by rw[results_cell_tmp rfl];go_simp) rfl ?_;unfold RdPost;rw[ac.out];refine⟨⟨O,K,G,D,E,I,P,L,C,H,f,c⟩,U,rfl,af,?_⟩;unfold Gr.rd;rw[ag.out];simp only;have z:=ae.out;cases hck:clockAt s 0 with
 |none=>
  rw[hck]at z;simp only at z ⊢;rw[<-n.out,z];simp
 |some k=>
  rw[hck]at z;simp only at z ⊢;obtain⟨h2,T⟩:=z;by_cases hk:k.stop=s.length
  .rw[if_pos hk];refine⟨by rw[<-n.out,h2,hk];simp,?_⟩;rw[T];simp[toRT,offS]
  .rw[if_neg hk];show U=false;rw[<-n.out,h2];simp;omega
theorem zmx (s:Gr.Str) (hl:s.length<=1073741823) (y m d:Nat) (DA:dateAt s=some (y,m,d)) (w:World):
 Calls prog 130 #[.string ⟨s.toArray⟩] w (RdPost s w):=by
 have ao:=hid (fun W=>zio s hl W);have J:=hid (fun W=>zcn s hl 10 10 rfl 84 84 rfl W);have P:=hid (fun W=>zcn s hl 10 10 rfl 32 32 rfl W);obtain⟨vT,hT⟩:=ex (isAt s 10 84)
 obtain⟨vS,hS⟩:=ex (isAt s 10 32)
 rw[hT]at J;rw[hS]at P;have I:=hid (And.intro hT hS);clear hT hS;go_enter func130,ntmps130;go_upto_region 1 with fail;obtain⟨c,Q⟩:=ex w.heap.size
 obtain⟨w0,aa⟩:∃w0,w0=w.alloc (.cells #[.bool false,.bool false,.bool false,.int .i64 0,.int .i64 0,.int .i64 0,.int .i64 0,.int .i64 0,.int .i64 0,.int .i64 0,.int .i64 0,.bool false] 147):=⟨_,rfl⟩
 have L:Hid (Blk w0 c 147 (T12 false false false 0 0 0 0 0 0 0 0 false)/\Below c w w0/\w0.heap.size=c+1):=hid (by rw[aa,<-Q];exact⟨Blk.new _ _ _,(Below.refl _ _).alloc (Nat.le_refl _) _,by simp⟩);have C:=hid Q;(try rw[<-aa]);(try rw[Q]);clear aa Q;go_wp2_with fail;refine(ao.out _).mono ?_;rintro e w1 ⟨⟨t0,t1,t2,t3,t4,t5,t6,t7,t8,t9,t10,t11⟩,r,rfl,R,hm⟩;have N:Hid (Blk w1 c 147 (T12 false false false 0 0 0 0 0 0 0 0 false)/\Below c w w1/\c<w1.heap.size):=hid ⟨L.out.1.below R L.out.1.lt,L.out.2.1.trans (R.mono (by have:=L.out.2.2;omega)),by have:=L.out.2.2;have:=R.size;omega⟩;rw[DA]at hm;simp only at hm;obtain⟨aw,o⟩:=hm;subst aw;injection o with k0 k1 k2 k3 k4 k5 k6 k7 k8 k9 k10 k11
 subst k0 k1 k2 k3 k4 k5 k6 k7 k8 k9 k10 k11;have G:=hid DA;clear DA;simp only[RT.v];clear R;go_upto_region 2 with fail;obtain⟨h,X⟩:=ex w1.heap.size
 obtain⟨p,ad⟩:=ex (w1.alloc (.cells #[.bool true,.bool false,.bool false,.int .i64 (y:Int),.int .i64 (m:Int),.int .i64 (d:Int),.int .i64 0,.int .i64 0,.int .i64 0,.int .i64 0,.int .i64 0,.bool false] 147))
 have l:Hid (Blk p h 147 (T12 true false false (y:Int) (m:Int) (d:Int) 0 0 0 0 0 false)/\Blk p c 147 (T12 false false false 0 0 0 0 0 0 0 0 false)/\Below c w p/\c<h):=hid (by
  rw[<-ad,<-X];exact⟨Blk.new _ _ _,N.out.1.alloc _,N.out.2.1.alloc (Nat.le_of_lt N.out.2.2) _,N.out.2.2⟩)
 (try rw[ad]);(try rw[X]);clear ad X;by_cases h10:s.length=10
 .have ap:((10:Int)==(s.length:Int))=true:=by rw[beq_iff_eq];omega
  have au:=hid h10;clear h10;obtain⟨q0,q1,q2,q3,q4,q5,Y,q7,q8,V,u,q⟩:=zah l.out.1;have xb:∀j,p.cell? ⟨c,j,none⟩=(#[.bool false,.bool false,.bool false,.int .i64 0,.int .i64 0,.int .i64 0,.int .i64 0,.int .i64 0,.int .i64 0,.int .i64 0,.int .i64 0,.bool false]:Array Value)[j]? :=fun j=>l.out.2.1.cell j
  have U:∀j,p.frozen? ⟨c,j,none⟩=false:=l.out.2.1.frozen;have A:∀j,p.frozen? ⟨h,j,none⟩=false:=l.out.1.frozen;go_wp2_with fail;have f:Hid (Blk p h 147 (T12 true false false (y:Int) (m:Int) (d:Int) 0 0 0 0 0 false)/\Blk p c 147 (T12 false false false 0 0 0 0 0 0 0 0 false)/\Below c w p):=hid ⟨l.out.1,l.out.2.1,l.out.2.2.1⟩;obtain⟨g,i⟩:=put12 true false false (y:Int) (m:Int) (d:Int) 0 0 0 0 0 false f.out.2;obtain⟨e0,e1,e2,e3,e4,e5,e6,e7,e8,e9,S,O⟩:=zah g;refine bodyPost_ret (v:=.tuple #[.agg #[.bool true,.bool false,.bool false,.int .i64 (y:Int),.int .i64 (m:Int),.int .i64 (d:Int),.int .i64 0,.int .i64 0,.int .i64 0,.int .i64 0,.int .i64 0,.bool false],.bool true]) (by rw[results_cell_tmp rfl];go_simp) rfl ?_;unfold RdPost;rw[C.out];refine⟨⟨true,false,false,y,m,d,0,0,0,0,0,false⟩,true,rfl,i,?_⟩;unfold Gr.rd;rw[G.out];simp only;rw[if_pos au.out]
  first|exact⟨rfl,by simp[toRT,offS]⟩|exact⟨trivial,by simp[toRT,offS]⟩
 .have hI:¬(10:Int)=(s.length:Int):=by omega
  have ap:((10:Int)==(s.length:Int))=false:=by simpa using hI
  by_cases hsep:(vT || vS)=true
  .have ak:vT=true\/(vT=false/\vS=true):=by cases vT<;>cases vS<;>simp_all
   have E:Hid ((isAt s 10 84 || isAt s 10 32)=true):=hid (by rw[I.out.1,I.out.2,hsep]);have an:=hid (fun W=>zf5 s hl 11 11 rfl (by omega) true (y:Int) (m:Int) (d:Int) W);clear hsep I;go_upto_region 7 with fail;go_cut [39] (fun s39 wx=>s39=.bool false/\wx=p)
   case first=>
    rcases ak with rfl|⟨rfl,rfl⟩
    .go_wp2_with fail;refine(J.out _).mono ?_;rintro e n ⟨rfl,rfl⟩;go_wp2;go_meet;exact⟨rfl,rfl⟩
    .go_wp2_with fail;refine(J.out _).mono ?_;rintro e n ⟨rfl,rfl⟩;go_wp2_with fail;refine(P.out _).mono ?_;rintro e n ⟨rfl,rfl⟩;go_wp2;go_meet;exact⟨rfl,rfl⟩
   case rest=>
   obtain⟨rfl,rfl⟩:=hcut;refine(‹∀(a:Act) (w_1:World),Code.wp prog _ _ a w_1->_›) _ _ ?_;clear ak J P;obtain⟨q0,q1,q2,q3,q4,q5,Y,q7,q8,V,u,q⟩:=zah l.out.1;have xb:∀j,wc.cell? ⟨c,j,none⟩=(#[.bool false,.bool false,.bool false,.int .i64 0,.int .i64 0,.int .i64 0,.int .i64 0,.int .i64 0,.int .i64 0,.int .i64 0,.int .i64 0,.bool false]:Array Value)[j]? :=fun j=>l.out.2.1.cell j
   have U:∀j,wc.frozen? ⟨c,j,none⟩=false:=l.out.2.1.frozen;have A:∀j,wc.frozen? ⟨h,j,none⟩=false:=l.out.1.frozen;go_wp2_with fail;refine(an.out _).mono ?_;rintro e w2 ⟨⟨u0,u1,u2,u3,u4,u5,u6,u7,u8,u9,F,B⟩,r2,rfl,aj,o⟩;clear q0 q1 q2 q3 q4 q5 Y q7 q8 V u q xb U A;simp only[RT.v];have x:=hid (keep12 l.out aj);clear aj;cases hck:clockAt s 11 with
   |none=>
    rw[hck]at o;simp only at o;subst o;have A:∀j,w2.frozen? ⟨h,j,none⟩=false:=x.out.1.frozen;have xa:∀j,w2.cell? ⟨h,j,none⟩=(#[.bool true,.bool false,.bool false,.int .i64 (y:Int),.int .i64 (m:Int),.int .i64 (d:Int),.int .i64 0,.int .i64 0,.int .i64 0,.int .i64 0,.int .i64 0,.bool false]:Array Value)[j]? :=fun j=>x.out.1.cell j
    go_upto_region 10 with fail;obtain⟨n,D,M⟩:=zg8 u0 u1 u2 u3 u4 u5 u6 u7 u8 u9 F B x.out;have b:=hid M;(try rw[D]);clear A xa D M;have hJ:¬(-1:Int)=(s.length:Int):=by omega
    have al:((-1:Int)==(s.length:Int))=false:=by simp
    obtain⟨q0,q1,q2,q3,q4,q5,Y,q7,q8,V,u,q⟩:=zah b.out.1;have xb:∀j,n.cell? ⟨c,j,none⟩=(#[.bool false,.bool false,.bool false,.int .i64 0,.int .i64 0,.int .i64 0,.int .i64 0,.int .i64 0,.int .i64 0,.int .i64 0,.int .i64 0,.bool false]:Array Value)[j]? :=fun j=>b.out.2.1.cell j
    have U:∀j,n.frozen? ⟨c,j,none⟩=false:=b.out.2.1.frozen;have A:∀j,n.frozen? ⟨h,j,none⟩=false:=b.out.1.frozen;go_wp2_with fail;have f:Hid (Blk n h 147 (T12 u0 u1 u2 u3 u4 u5 u6 u7 u8 u9 F B)/\Blk n c 147 (T12 false false false 0 0 0 0 0 0 0 0 false)/\Below c w n):=hid ⟨b.out.1,b.out.2.1,b.out.2.2.1⟩;obtain⟨g,i⟩:=put12 u0 u1 u2 u3 u4 u5 u6 u7 u8 u9 F B f.out.2;obtain⟨e0,e1,e2,e3,e4,e5,e6,e7,e8,e9,S,O⟩:=zah g;refine bodyPost_ret (v:=.tuple #[.agg #[.bool u0,.bool u1,.bool u2,.int .i64 u3,.int .i64 u4,.int .i64 u5,.int .i64 u6,.int .i64 u7,.int .i64 u8,.int .i64 u9,.int .i64 F,.bool B],.bool false]) (by rw[results_cell_tmp rfl];go_simp) rfl ?_;unfold RdPost;rw[C.out];refine⟨⟨u0,u1,u2,u3,u4,u5,u6,u7,u8,u9,F,B⟩,false,rfl,i,?_⟩;unfold Gr.rd;rw[G.out];simp only;rw[if_neg h10,if_pos E.out,hck]
    trivial
   |some k=>
    obtain⟨kh,km,Z,kf,T⟩:=k;have hkl:=zla hck;rw[hck]at o;simp only at o;obtain⟨av,hu⟩:=o;subst av;injection hu with k0 k1 k2 k3 k4 k5 k6 k7 k8 k9 k10 k11
    subst k0 k1 k2 k3 k4 k5 k6 k7 k8 k9 k10 k11;have ag:=hid hck;clear hck;have A:∀j,w2.frozen? ⟨h,j,none⟩=false:=x.out.1.frozen;have xa:∀j,w2.cell? ⟨h,j,none⟩=(#[.bool true,.bool false,.bool false,.int .i64 (y:Int),.int .i64 (m:Int),.int .i64 (d:Int),.int .i64 0,.int .i64 0,.int .i64 0,.int .i64 0,.int .i64 0,.bool false]:Array Value)[j]? :=fun j=>x.out.1.cell j
    go_upto_region 10 with fail;obtain⟨n,D,M⟩:=zg8 true true false (y:Int) (m:Int) (d:Int) (kh:Int) (km:Int) (Z:Int) (kf:Int) 0 false x.out;have b:=hid M;(try rw[D]);clear A xa D M;obtain⟨q0,q1,q2,q3,q4,q5,Y,q7,q8,V,u,q⟩:=zah b.out.1;have xb:∀j,n.cell? ⟨c,j,none⟩=(#[.bool false,.bool false,.bool false,.int .i64 0,.int .i64 0,.int .i64 0,.int .i64 0,.int .i64 0,.int .i64 0,.int .i64 0,.int .i64 0,.bool false]:Array Value)[j]? :=fun j=>b.out.2.1.cell j
    have U:∀j,n.frozen? ⟨c,j,none⟩=false:=b.out.2.1.frozen;have A:∀j,n.frozen? ⟨h,j,none⟩=false:=b.out.1.frozen;by_cases hks:T=s.length
    .have ax:=hid hks;have hKb:((T:Int)==(s.length:Int))=true:=by rw[hks];simp
     clear hks;go_wp2_with fail;have f:Hid (Blk n h 147 (T12 true true false (y:Int) (m:Int) (d:Int) (kh:Int) (km:Int) (Z:Int) (kf:Int) 0 false)/\Blk n c 147 (T12 false false false 0 0 0 0 0 0 0 0 false)/\Below c w n):=hid ⟨b.out.1,b.out.2.1,b.out.2.2.1⟩;obtain⟨g,i⟩:=put12 true true false (y:Int) (m:Int) (d:Int) (kh:Int) (km:Int) (Z:Int) (kf:Int) 0 false f.out.2;obtain⟨e0,e1,e2,e3,e4,e5,e6,e7,e8,e9,S,O⟩:=zah g;refine bodyPost_ret (v:=.tuple #[.agg #[.bool true,.bool true,.bool false,.int .i64 (y:Int),.int .i64 (m:Int),.int .i64 (d:Int),.int .i64 (kh:Int),.int .i64 (km:Int),.int .i64 (Z:Int),.int .i64 (kf:Int),.int .i64 0,.bool false],.bool true]) (by rw[results_cell_tmp rfl];go_simp) rfl ?_;unfold RdPost;rw[C.out];refine⟨⟨true,true,false,y,m,d,kh,km,Z,kf,0,false⟩,true,rfl,i,?_⟩;unfold Gr.rd;rw[G.out];simp only;rw[if_neg h10,if_pos E.out,ag.out];simp only;rw[if_pos ax.out];exact⟨trivial,by simp[toRT,offS]⟩
    .have am:=hid (fun W=>zqb s hl T (T:Int) rfl (by omega) true true (y:Int) (m:Int) (d:Int) (kh:Int) (km:Int) (Z:Int) (kf:Int) W);have hJ:¬(T:Int)=(s.length:Int):=by omega
     have al:((T:Int)==(s.length:Int))=false:=by simpa using hJ
     have hJ2:¬(T:Int)<0:=by omega
     go_wp2_with fail;refine(am.out _).mono ?_;rintro e w4 ⟨⟨v0,v1,v2,v3,v4,v5,v6,v7,v8,v9,H,K⟩,r3,rfl,ah,af⟩;have aq:=hid af;clear q0 q1 q2 q3 q4 q5 Y q7 q8 V u q xb U A af;simp only[RT.v];have ae:=hid (keep12 b.out ah);clear ah;have A:∀j,w4.frozen? ⟨h,j,none⟩=false:=ae.out.1.frozen;have xa:∀j,w4.cell? ⟨h,j,none⟩=(#[.bool true,.bool true,.bool false,.int .i64 (y:Int),.int .i64 (m:Int),.int .i64 (d:Int),.int .i64 (kh:Int),.int .i64 (km:Int),.int .i64 (Z:Int),.int .i64 (kf:Int),.int .i64 0,.bool false]:Array Value)[j]? :=fun j=>ae.out.1.cell j
     go_upto_region 15 with fail;obtain⟨w5,ai,M⟩:=zg8 v0 v1 v2 v3 v4 v5 v6 v7 v8 v9 H K ae.out;have t:=hid M;(try rw[ai]);clear A xa ai M;obtain⟨ok,ab⟩:=ex (decide (r3=(s.length:Int)))
     have hokb:(r3==(s.length:Int))=ok:=by rw[<-ab];rfl
     have ac:=hid ab;clear ab;obtain⟨q0,q1,q2,q3,q4,q5,Y,q7,q8,V,u,q⟩:=zah t.out.1;have xb:∀j,w5.cell? ⟨c,j,none⟩=(#[.bool false,.bool false,.bool false,.int .i64 0,.int .i64 0,.int .i64 0,.int .i64 0,.int .i64 0,.int .i64 0,.int .i64 0,.int .i64 0,.bool false]:Array Value)[j]? :=fun j=>t.out.2.1.cell j
     have U:∀j,w5.frozen? ⟨c,j,none⟩=false:=t.out.2.1.frozen;have A:∀j,w5.frozen? ⟨h,j,none⟩=false:=t.out.1.frozen;go_wp2_with fail;have f:Hid (Blk w5 h 147 (T12 v0 v1 v2 v3 v4 v5 v6 v7 v8 v9 H K)/\Blk w5 c 147 (T12 false false false 0 0 0 0 0 0 0 0 false)/\Below c w w5):=hid ⟨t.out.1,t.out.2.1,t.out.2.2.1⟩;obtain⟨g,i⟩:=put12 v0 v1 v2 v3 v4 v5 v6 v7 v8 v9 H K f.out.2;obtain⟨e0,e1,e2,e3,e4,e5,e6,e7,e8,e9,S,O⟩:=zah g;refine bodyPost_ret (v:=.tuple #[.agg #[.bool v0,.bool v1,.bool v2,.int .i64 v3,.int .i64 v4,.int .i64 v5,.int .i64 v6,.int .i64 v7,.int .i64 v8,.int .i64 v9,.int .i64 H,.bool K],.bool ok]) (by rw[results_cell_tmp rfl];go_simp) rfl ?_;unfold RdPost;rw[C.out];refine⟨⟨v0,v1,v2,v3,v4,v5,v6,v7,v8,v9,H,K⟩,ok,rfl,i,?_⟩;unfold Gr.rd;rw[G.out];simp only;rw[if_neg h10,if_pos E.out,ag.out];simp only;rw[if_neg hks];have h1:=aq.out;cases hzn:zoneAt s T with
     |none=>
      rw[hzn]at h1;simp only at h1 ⊢;rw[<-ac.out,h1];simp
     |some z=>
      rw[hzn]at h1;simp only at h1 ⊢;obtain⟨h2,M⟩:=h1;by_cases hk:z.stop=s.length
      .rw[if_pos hk];refine⟨by rw[<-ac.out,h2,hk];simp,?_⟩;rw[M];simp[toRT,offS,zqc hzn]
      .rw[if_neg hk];show ok=false;rw[<-ac.out,h2];simp;omega
  .have ar:vT=false:=by cases vT<;>simp_all
   have ay:vS=false:=by cases vS<;>simp_all
   subst ar;subst ay;obtain⟨q0,q1,q2,q3,q4,q5,Y,q7,q8,V,u,q⟩:=zah l.out.1;have xb:∀j,p.cell? ⟨c,j,none⟩=(#[.bool false,.bool false,.bool false,.int .i64 0,.int .i64 0,.int .i64 0,.int .i64 0,.int .i64 0,.int .i64 0,.int .i64 0,.int .i64 0,.bool false]:Array Value)[j]? :=fun j=>l.out.2.1.cell j
   have U:∀j,p.frozen? ⟨c,j,none⟩=false:=l.out.2.1.frozen;have A:∀j,p.frozen? ⟨h,j,none⟩=false:=l.out.1.frozen;go_wp2_with fail;refine(J.out _).mono ?_;rintro e n ⟨rfl,rfl⟩;go_wp2_with fail;refine(P.out _).mono ?_;rintro e n ⟨rfl,rfl⟩;go_wp2_with fail;have f:Hid (Blk p h 147 (T12 true false false (y:Int) (m:Int) (d:Int) 0 0 0 0 0 false)/\Blk p c 147 (T12 false false false 0 0 0 0 0 0 0 0 false)/\Below c w p):=hid ⟨l.out.1,l.out.2.1,l.out.2.2.1⟩;obtain⟨g,i⟩:=put12 true false false (y:Int) (m:Int) (d:Int) 0 0 0 0 0 false f.out.2;obtain⟨e0,e1,e2,e3,e4,e5,e6,e7,e8,e9,S,O⟩:=zah g;refine bodyPost_ret (v:=.tuple #[.agg #[.bool true,.bool false,.bool false,.int .i64 (y:Int),.int .i64 (m:Int),.int .i64 (d:Int),.int .i64 0,.int .i64 0,.int .i64 0,.int .i64 0,.int .i64 0,.bool false],.bool false]) (by rw[results_cell_tmp rfl];go_simp) rfl ?_;unfold RdPost;rw[C.out];refine⟨⟨true,false,false,y,m,d,0,0,0,0,0,false⟩,false,rfl,i,?_⟩;unfold Gr.rd;rw[G.out];simp only;rw[if_neg h10,if_neg (by rw[I.out.1,I.out.2];decide)]
   trivial
theorem zdc (s:Gr.Str) (hl:s.length<=1073741823) (w:World):Calls prog 130 #[.string ⟨s.toArray⟩] w (RdPost s w):=by
 cases hd:dateAt s with
 |none=>exact ziq s hl hd w
 |some t=>exact zmx s hl t.1 t.2.1 t.2.2 hd w
end Go.Proofs.YtpgmfihonmoliaaGreatDoor
