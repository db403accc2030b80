import Derived.Test.YtoigpackhninoaaGreatDoorZ14
namespace Go.Proofs.YtoigpackhninoaaGreatDoor
open Gr
open _root_.Go.Proofs.Tryz
open _root_.Go.Lib (hid)
set_option maxRecDepth 100000
set_option maxHeartbeats 16000000
open Go.RowKit
theorem zv3 {x:Gr.Mo} (h:MoOk x) (_hz:x.z=0) (of:Int) (lt:Bool) (W:World):
 Calls prog 105 #[.agg #[.bool x.date,.bool x.time,.bool false,.int .i64 (x.y:Int),.int .i64 (x.m:Int),.int .i64 (x.d:Int),.int .i64 (x.h:Int),.int .i64 (x.mi:Int),.int .i64 (x.c:Int),.int .i64 (x.nanos:Int),.int .i64 of,.bool lt]] W fun e W'=>e=.returned (.string ⟨(locS x).toArray⟩)/\Below W.heap.size W W':=by
 have a:=h.y;have b:=h.m;have c:=h.d;have d:=h.h;have e:=h.mi;have f:=h.c;have g:=h.nanos;rcases h.sh with⟨j,i⟩|⟨j,i,_⟩|⟨j,i,_⟩
 ·have:=zpx x.y x.m x.d x.h x.mi x.c x.nanos of lt (by omega) (by omega) (by omega) (by omega) (by omega) (by omega) g W;unfold locS;rw[j,i];simpa using this
 ·have:=zpv x.y x.m x.d x.h x.mi x.c x.nanos of lt (by omega) (by omega) (by omega) (by omega) (by omega) (by omega) g W;unfold locS;rw[j,i];simpa using this
 ·have:=zpw x.y x.m x.d x.h x.mi x.c x.nanos of lt (by omega) (by omega) (by omega) (by omega) (by omega) (by omega) g W;unfold locS;rw[j,i];simpa using this
theorem zfq (s:Gr.Str) (hl:s.length<=1073741823) (w:World):
 Calls prog 82 #[.string ⟨s.toArray⟩] w (RIPost (locP s) w):=by
 have p:=hid (fun W=>zc2 s hl W);obtain⟨r,Y⟩:=ex (locP s)
 have X:=hid Y;rw[Y];clear Y;have n:Hid (locP s=match Gr.rd s with|none=>([],3)|some x=>if x.z≠0 then([],3)else if okR x=false then([],13)else(locS x,0)):=hid rfl;cases hrd:Gr.rd s with
 |none=>
  have E:Hid (r=([],3)):=hid (by rw[<-X.out,n.out,hrd]);have k:=hid hrd;clear hrd;go_enter func82,ntmps82;go_wp2_with fail;refine(p.out _).mono ?_;rintro e J ⟨⟨t0,t1,t2,t3,t4,t5,t6,t7,t8,t9,t10,t11⟩,Z,rfl,b,g⟩;rw[k.out]at g;simp only at g;subst g;have a:=hid b;clear b;simp only[RT.v];go_wp2;go_ret2;rw[E.out];exact⟨rfl,a.out.alloc a.out.size _⟩
 |some x=>
  have o:=zpz hrd;have k:=hid hrd;have u:=zp0 o;by_cases hz:x.z=0
  ·have l:decide (x.z≠0)=false:=by simp[hz]
   have B:=hid l;obtain⟨P,G⟩:=ex (decide (23<x.zh) || decide (59<x.zm))
   obtain⟨of,N⟩:=ex (offS x)
   obtain⟨S,q⟩:=ex x.date
   obtain⟨Q,H⟩:=ex x.time
   have C:=hid (And.intro G N);have A:=hid (And.intro q H);rw[q,G]at u;have I:Hid (∀W,Calls prog 104 #[.agg #[.bool S,.bool Q,.bool false,.int .i64 (x.y:Int),.int .i64 (x.m:Int),.int .i64 (x.d:Int),.int .i64 (x.h:Int),.int .i64 (x.mi:Int),.int .i64 (x.c:Int),.int .i64 (x.nanos:Int),.int .i64 of,.bool P]] W fun e w'=>e=.returned (.bool (okR x))/\Below W.heap.size W w'):=hid (fun W=>by
    have:=zea S Q false (x.y:Int) (x.m:Int) (x.d:Int) (x.h:Int) (x.mi:Int) (x.c:Int) (x.nanos:Int) of P W;rwa[u]at this)
   have F:=hid (fun W=>zv3 o hz of P W);rw[q,H]at F;have f:Hid (r=if okR x=false then([],13)else(locS x,0)):=hid (by rw[<-X.out,n.out,hrd];simp only;rw[if_neg (by simp[hz])]);obtain⟨M,hM⟩:=ex (locS x)
   rw[hM]at f F;obtain⟨V,D⟩:=ex (okR x)
   rw[D]at f I;clear hrd o u hz l q G N H hM D n;cases V with
   |false=>
    have E:Hid (r=([],13)):=hid (by rw[f.out,if_pos rfl]);clear f;go_enter func82,ntmps82;go_wp2_with fail;refine(p.out _).mono ?_;rintro e J ⟨t,Z,rfl,b,g⟩;rw[k.out]at g;simp only at g;obtain⟨rfl,rfl⟩:=g;have a:=hid b;clear b;simp only[RT.v,toRT,B.out,A.out.1,A.out.2,C.out.1,C.out.2];go_wp2_with fail;refine(I.out _).mono ?_;rintro e R ⟨rfl,i⟩;have j:Hid (Below w.heap.size w R):=hid ((a.out.alloc a.out.size _).trans (i.mono (by have:=a.out.size;simp;omega)));clear i;go_wp2;go_ret2;rw[E.out];exact⟨rfl,j.out⟩
   |true=>
    have E:Hid (r=(M,0)):=hid (by rw[f.out,if_neg (by decide)]);clear f;go_enter func82,ntmps82;go_wp2_with fail;refine(p.out _).mono ?_;rintro e J ⟨t,Z,rfl,b,g⟩;rw[k.out]at g;simp only at g;obtain⟨rfl,rfl⟩:=g;have a:=hid b;clear b;simp only[RT.v,toRT,B.out,A.out.1,A.out.2,C.out.1,C.out.2];go_wp2_with fail;refine(I.out _).mono ?_;rintro e R ⟨rfl,i⟩;have j:Hid (Blk R J.heap.size 111 (T12 S Q false (x.y:Int) (x.m:Int) (x.d:Int) (x.h:Int) (x.mi:Int) (x.c:Int) (x.nanos:Int) of P)/\Below w.heap.size w R):=hid (by
     have K:=Blk.new J 111 (T12 S Q false (x.y:Int) (x.m:Int) (x.d:Int) (x.h:Int) (x.mi:Int) (x.c:Int) (x.nanos:Int) of P);exact⟨K.below i K.lt,(a.out.alloc a.out.size _).trans (i.mono (by have:=a.out.size;simp;omega))⟩)
    clear i;obtain⟨g4,O⟩:=ex J.heap.size
    rw[O]at j ⊢;clear O;obtain⟨q0,q1,q2,q3,q4,q5,q6,q7,q8,q9,aa,T⟩:=zag j.out.1;go_wp2_with fail;refine(F.out _).mono ?_;rintro e w3 ⟨rfl,L⟩;have U:Hid (Below w.heap.size w w3):=hid (j.out.2.trans (L.mono j.out.2.size));clear L q0 q1 q2 q3 q4 q5 q6 q7 q8 q9 aa T;go_wp2;go_ret2;rw[E.out];exact⟨rfl,U.out⟩
  ·have E:Hid (r=([],3)):=hid (by rw[<-X.out,n.out,hrd];simp only;rw[if_pos hz]);have l:decide (x.z≠0)=true:=by simp[hz]
   have B:=hid l;clear hrd o u hz l n;go_enter func82,ntmps82;go_wp2_with fail;refine(p.out _).mono ?_;rintro e J ⟨t,Z,rfl,b,g⟩;rw[k.out]at g;simp only at g;obtain⟨rfl,rfl⟩:=g;have a:=hid b;clear b;simp only[RT.v,toRT,B.out];go_wp2;go_ret2;rw[E.out];exact⟨rfl,a.out.alloc a.out.size _⟩
theorem zmk (s:Gr.Str) (hl:s.length<=1073741823) (w:World):
 Calls prog 48 #[.string ⟨s.toArray⟩] w fun e w'=>e=.returned (.bool (locB s))/\Below w.heap.size w w':=by
 have d:=hid (zfq s hl w);have f:Hid (locB s=decide ((locP s).2=0/\(locP s).1=s)):=hid rfl;obtain⟨r,m⟩:=ex (locB s)
 rw[m]at f ⊢;obtain⟨⟨l,k⟩,n⟩:∃p,locP s=p:=⟨_,rfl⟩
 rw[n]at d f;obtain⟨h,c⟩:∃h:Int,(k:Int)=h:=⟨_,rfl⟩
 unfold RIPost at d;simp only[c]at d f;have q:=hid c;clear m n c;by_cases h0:h=0
 ·subst h0;have i:((0:Int)==0)=true:=rfl;by_cases hs:l=s
  ·have j:(l==s)=true:=by rw[beq_iff_eq];exact hs
   have g:Hid (r=true):=hid (by rw[f.out];simp[hs];have:=q.out;omega);clear hs;go_enter func48,ntmps48;go_wp2_with fail;refine d.out.mono ?_;rintro e o ⟨rfl,a⟩;have b:=hid a;clear a;go_wp2;go_ret;rw[g.out];exact⟨rfl,b.out⟩
  ·have j:(l==s)=false:=by rw[beq_eq_false_iff_ne];exact hs
   have g:Hid (r=false):=hid (by rw[f.out];simp[hs]);clear hs;go_enter func48,ntmps48;go_wp2_with fail;refine d.out.mono ?_;rintro e o ⟨rfl,a⟩;have b:=hid a;clear a;go_wp2;go_ret;rw[g.out];exact⟨rfl,b.out⟩
 ·have i:(h==0)=false:=by simpa using h0
  have g:Hid (r=false):=hid (by rw[f.out];simp;intro e;exact absurd (by have:=q.out;omega) h0);go_enter func48,ntmps48;go_wp2_with fail;refine d.out.mono ?_;rintro e o ⟨rfl,a⟩;have b:=hid a;clear a;go_wp2;go_ret;rw[g.out];exact⟨rfl,b.out⟩
def zdi (b:Bool) (w:World) (e:Ending) (w':World):Prop:=∃t:RT,e=.returned (.tuple #[t.v,.bool b])/\Below w.heap.size w w'
theorem zml (s:Gr.Str) (hl:s.length<=1073741823) (w:World):
 Calls prog 81 #[.string ⟨s.toArray⟩] w (zdi (insB s) w):=by
 have R:=hid (fun W=>zeb s hl W);have Y:=hid (fun W=>zc2 s hl W);have S:Hid (insB s=decide ((insP s).2=0/\(insP s).1=s)):=hid rfl;obtain⟨r,hr⟩:=ex (insB s)
 rw[hr]at S ⊢;obtain⟨⟨l,k⟩,hp⟩:∃p,insP s=p:=⟨_,rfl⟩
 rw[hp]at R S;obtain⟨y,G⟩:∃y:Int,(k:Int)=y:=⟨_,rfl⟩
 unfold RIPost at R;simp only[G]at R S;have HK:=hid G;clear hr hp G;have hc:y≠0\/(y=0/\l≠s)\/(y=0/\l=s):=by
  by_cases h0:y=0
  ·by_cases hs:l=s
   ·exact .inr (.inr ⟨h0,hs⟩)
   ·exact .inr (.inl ⟨h0,hs⟩)
  ·exact .inl h0
 rcases hc with h0|⟨rfl,hs⟩|⟨rfl,hs⟩
 ·have Z:(y==0)=false:=by simpa using h0
  have h0c:(y != 0)=true:=by rw[bne,Z];rfl
  have V:Hid (r=false):=hid (by rw[S.out];simp;intro e;exact absurd (by have:=HK.out;omega) h0);go_enter func81,ntmps81;go_upto_region 1 with fail;obtain⟨a,d⟩:=ex w.heap.size
  obtain⟨n,f⟩:∃n,n=w.alloc (.cells #[.bool false,.bool false,.bool false,.int .i64 0,.int .i64 0,.int .i64 0,.int .i64 0,.int .i64 0,.int .i64 0,.int .i64 0,.int .i64 0,.bool false] 111):=⟨_,rfl⟩
  have c:Hid (Blk n a 111 (T12 false false false 0 0 0 0 0 0 0 0 false)/\Below a w n):=hid (by rw[f,<-d];exact⟨Blk.new _ _ _,(Below.refl _ _).alloc (Nat.le_refl _) _⟩);have t:=hid d;(try rw[<-f]);(try rw[d]);clear f d;go_wp2_with fail;refine(R.out _).mono ?_;rintro e h ⟨rfl,g⟩;have b:Hid (Blk h a 111 (T12 false false false 0 0 0 0 0 0 0 0 false)/\Below a w h):=hid ⟨c.out.1.below g c.out.1.lt,c.out.2.trans (g.mono (Nat.le_of_lt c.out.1.lt))⟩;clear g;have xb:∀j,h.cell? ⟨a,j,none⟩=(#[.bool false,.bool false,.bool false,.int .i64 0,.int .i64 0,.int .i64 0,.int .i64 0,.int .i64 0,.int .i64 0,.int .i64 0,.int .i64 0,.bool false]:Array Value)[j]? :=fun j=>b.out.1.cell j
  have xf:∀j,h.frozen? ⟨a,j,none⟩=false:=b.out.1.frozen;go_wp2_with fail;have q:Blk ((((((((((((h.setCell ⟨a,0,none⟩ (.bool false)).setCell ⟨a,1,none⟩ (.bool false)).setCell ⟨a,2,none⟩ (.bool false)).setCell ⟨a,3,none⟩ (.int .i64 0)).setCell ⟨a,4,none⟩ (.int .i64 0)).setCell ⟨a,5,none⟩ (.int .i64 0)).setCell ⟨a,6,none⟩ (.int .i64 0)).setCell ⟨a,7,none⟩ (.int .i64 0)).setCell ⟨a,8,none⟩ (.int .i64 0)).setCell ⟨a,9,none⟩ (.int .i64 0)).setCell ⟨a,10,none⟩ (.int .i64 0)).setCell ⟨a,11,none⟩ (.bool false)) a 111 (T12 false false false 0 0 0 0 0 0 0 0 false):=za9 b.out.1;have o:Below a w ((((((((((((h.setCell ⟨a,0,none⟩ (.bool false)).setCell ⟨a,1,none⟩ (.bool false)).setCell ⟨a,2,none⟩ (.bool false)).setCell ⟨a,3,none⟩ (.int .i64 0)).setCell ⟨a,4,none⟩ (.int .i64 0)).setCell ⟨a,5,none⟩ (.int .i64 0)).setCell ⟨a,6,none⟩ (.int .i64 0)).setCell ⟨a,7,none⟩ (.int .i64 0)).setCell ⟨a,8,none⟩ (.int .i64 0)).setCell ⟨a,9,none⟩ (.int .i64 0)).setCell ⟨a,10,none⟩ (.int .i64 0)).setCell ⟨a,11,none⟩ (.bool false)):=zb8 b.out.2 (Nat.le_refl a);obtain⟨e0,e1,e2,e3,e4,e5,e6,e7,e8,e9,T,U⟩:=zag q;refine bodyPost_ret (v:=.tuple #[.agg #[.bool false,.bool false,.bool false,.int .i64 0,.int .i64 0,.int .i64 0,.int .i64 0,.int .i64 0,.int .i64 0,.int .i64 0,.int .i64 0,.bool false],.bool false]) (by rw[results_cell_tmp rfl];go_simp) rfl ?_;unfold zdi;rw[t.out,V.out];exact⟨RT.z,rfl,o⟩
 ·have D:(l==s)=false:=by rw[beq_eq_false_iff_ne];exact hs
  have aa:(l != s)=true:=by rw[bne,D];rfl
  have V:Hid (r=false):=hid (by rw[S.out];simp[hs]);clear hs;go_enter func81,ntmps81;go_upto_region 1 with fail;obtain⟨a,d⟩:=ex w.heap.size
  obtain⟨n,f⟩:∃n,n=w.alloc (.cells #[.bool false,.bool false,.bool false,.int .i64 0,.int .i64 0,.int .i64 0,.int .i64 0,.int .i64 0,.int .i64 0,.int .i64 0,.int .i64 0,.bool false] 111):=⟨_,rfl⟩
  have c:Hid (Blk n a 111 (T12 false false false 0 0 0 0 0 0 0 0 false)/\Below a w n):=hid (by rw[f,<-d];exact⟨Blk.new _ _ _,(Below.refl _ _).alloc (Nat.le_refl _) _⟩);have t:=hid d;(try rw[<-f]);(try rw[d]);clear f d;go_wp2_with fail;refine(R.out _).mono ?_;rintro e h ⟨rfl,g⟩;have b:Hid (Blk h a 111 (T12 false false false 0 0 0 0 0 0 0 0 false)/\Below a w h):=hid ⟨c.out.1.below g c.out.1.lt,c.out.2.trans (g.mono (Nat.le_of_lt c.out.1.lt))⟩;clear g;have xb:∀j,h.cell? ⟨a,j,none⟩=(#[.bool false,.bool false,.bool false,.int .i64 0,.int .i64 0,.int .i64 0,.int .i64 0,.int .i64 0,.int .i64 0,.int .i64 0,.int .i64 0,.bool false]:Array Value)[j]? :=fun j=>b.out.1.cell j
  have xf:∀j,h.frozen? ⟨a,j,none⟩=false:=b.out.1.frozen;go_wp2_with fail;have q:Blk ((((((((((((h.setCell ⟨a,0,none⟩ (.bool false)).setCell ⟨a,1,none⟩ (.bool false)).setCell ⟨a,2,none⟩ (.bool false)).setCell ⟨a,3,none⟩ (.int .i64 0)).setCell ⟨a,4,none⟩ (.int .i64 0)).setCell ⟨a,5,none⟩ (.int .i64 0)).setCell ⟨a,6,none⟩ (.int .i64 0)).setCell ⟨a,7,none⟩ (.int .i64 0)).setCell ⟨a,8,none⟩ (.int .i64 0)).setCell ⟨a,9,none⟩ (.int .i64 0)).setCell ⟨a,10,none⟩ (.int .i64 0)).setCell ⟨a,11,none⟩ (.bool false)) a 111 (T12 false false false 0 0 0 0 0 0 0 0 false):=za9 b.out.1;have o:Below a w ((((((((((((h.setCell ⟨a,0,none⟩ (.bool false)).setCell ⟨a,1,none⟩ (.bool false)).setCell ⟨a,2,none⟩ (.bool false)).setCell ⟨a,3,none⟩ (.int .i64 0)).setCell ⟨a,4,none⟩ (.int .i64 0)).setCell ⟨a,5,none⟩ (.int .i64 0)).setCell ⟨a,6,none⟩ (.int .i64 0)).setCell ⟨a,7,none⟩ (.int .i64 0)).setCell ⟨a,8,none⟩ (.int .i64 0)).setCell ⟨a,9,none⟩ (.int .i64 0)).setCell ⟨a,10,none⟩ (.int .i64 0)).setCell ⟨a,11,none⟩ (.bool false)):=zb8 b.out.2 (Nat.le_refl a);obtain⟨e0,e1,e2,e3,e4,e5,e6,e7,e8,e9,T,U⟩:=zag q;refine bodyPost_ret (v:=.tuple #[.agg #[.bool false,.bool false,.bool false,.int .i64 0,.int .i64 0,.int .i64 0,.int .i64 0,.int .i64 0,.int .i64 0,.int .i64 0,.int .i64 0,.bool false],.bool false]) (by rw[results_cell_tmp rfl];go_simp) rfl ?_;unfold zdi;rw[t.out,V.out];exact⟨RT.z,rfl,o⟩
 ·have D:(l==s)=true:=by rw[beq_iff_eq];exact hs
  have aa:(l != s)=false:=by rw[bne,D];rfl
  have V:Hid (r=true):=hid (by rw[S.out];simp[hs];have:=HK.out;omega);clear hs;go_enter func81,ntmps81;go_upto_region 1 with fail;obtain⟨a,d⟩:=ex w.heap.size
  obtain⟨n,f⟩:∃n,n=w.alloc (.cells #[.bool false,.bool false,.bool false,.int .i64 0,.int .i64 0,.int .i64 0,.int .i64 0,.int .i64 0,.int .i64 0,.int .i64 0,.int .i64 0,.bool false] 111):=⟨_,rfl⟩
  have c:Hid (Blk n a 111 (T12 false false false 0 0 0 0 0 0 0 0 false)/\Below a w n):=hid (by rw[f,<-d];exact⟨Blk.new _ _ _,(Below.refl _ _).alloc (Nat.le_refl _) _⟩);have t:=hid d;(try rw[<-f]);(try rw[d]);clear f d;go_wp2_with fail;refine(R.out _).mono ?_;rintro e h ⟨rfl,g⟩;have b:Hid (Blk h a 111 (T12 false false false 0 0 0 0 0 0 0 0 false)/\Below a w h):=hid ⟨c.out.1.below g c.out.1.lt,c.out.2.trans (g.mono (Nat.le_of_lt c.out.1.lt))⟩;clear g;go_wp2_with fail;refine(Y.out _).mono ?_;rintro e X ⟨⟨L,Q,O,N,E,I,P,M,C,A,m,i⟩,ok,rfl,J,_⟩;have H:Hid (Blk X a 111 (T12 false false false 0 0 0 0 0 0 0 0 false)/\Below a w X):=hid ⟨b.out.1.below J b.out.1.lt,b.out.2.trans (J.mono (Nat.le_of_lt b.out.1.lt))⟩;clear J;simp only[RT.v];go_upto_region 5 with fail;obtain⟨g6,B⟩:=ex X.heap.size
  obtain⟨u,F⟩:=ex (X.alloc (.cells #[.bool L,.bool Q,.bool O,.int .i64 N,.int .i64 E,.int .i64 I,.int .i64 P,.int .i64 M,.int .i64 C,.int .i64 A,.int .i64 m,.bool i] 111))
  have K:Hid (Blk u a 111 (T12 false false false 0 0 0 0 0 0 0 0 false)/\Below a w u/\Blk u g6 111 (T12 L Q O N E I P M C A m i)):=hid (by rw[<-F,<-B];exact⟨H.out.1.alloc _,H.out.2.alloc (Nat.le_of_lt H.out.1.lt) _,Blk.new _ _ _⟩);(try rw[F]);(try rw[B]);clear F B;obtain⟨q0,q1,q2,q3,q4,q5,q6,q7,q8,q9,q10,q11⟩:=zag K.out.2.2;have x:Hid (Blk u a 111 (T12 false false false 0 0 0 0 0 0 0 0 false)/\Below a w u):=hid ⟨K.out.1,K.out.2.1⟩;have xb:∀j,u.cell? ⟨a,j,none⟩=(#[.bool false,.bool false,.bool false,.int .i64 0,.int .i64 0,.int .i64 0,.int .i64 0,.int .i64 0,.int .i64 0,.int .i64 0,.int .i64 0,.bool false]:Array Value)[j]? :=fun j=>x.out.1.cell j
  have xf:∀j,u.frozen? ⟨a,j,none⟩=false:=x.out.1.frozen;go_wp2_with fail;have q:Blk ((((((((((((u.setCell ⟨a,0,none⟩ (.bool L)).setCell ⟨a,1,none⟩ (.bool Q)).setCell ⟨a,2,none⟩ (.bool O)).setCell ⟨a,3,none⟩ (.int .i64 N)).setCell ⟨a,4,none⟩ (.int .i64 E)).setCell ⟨a,5,none⟩ (.int .i64 I)).setCell ⟨a,6,none⟩ (.int .i64 P)).setCell ⟨a,7,none⟩ (.int .i64 M)).setCell ⟨a,8,none⟩ (.int .i64 C)).setCell ⟨a,9,none⟩ (.int .i64 A)).setCell ⟨a,10,none⟩ (.int .i64 m)).setCell ⟨a,11,none⟩ (.bool i)) a 111 (T12 L Q O N E I P M C A m i):=za9 x.out.1;have o:Below a w ((((((((((((u.setCell ⟨a,0,none⟩ (.bool L)).setCell ⟨a,1,none⟩ (.bool Q)).setCell ⟨a,2,none⟩ (.bool O)).setCell ⟨a,3,none⟩ (.int .i64 N)).setCell ⟨a,4,none⟩ (.int .i64 E)).setCell ⟨a,5,none⟩ (.int .i64 I)).setCell ⟨a,6,none⟩ (.int .i64 P)).setCell ⟨a,7,none⟩ (.int .i64 M)).setCell ⟨a,8,none⟩ (.int .i64 C)).setCell ⟨a,9,none⟩ (.int .i64 A)).setCell ⟨a,10,none⟩ (.int .i64 m)).setCell ⟨a,11,none⟩ (.bool i)):=zb8 x.out.2 (Nat.le_refl a);obtain⟨e0,e1,e2,e3,e4,e5,e6,e7,e8,e9,T,U⟩:=zag q;refine bodyPost_ret (v:=.tuple #[.agg #[.bool L,.bool Q,.bool O,.int .i64 N,.int .i64 E,.int .i64 I,.int .i64 P,.int .i64 M,.int .i64 C,.int .i64 A,.int .i64 m,.bool i],.bool true]) (by rw[results_cell_tmp rfl];go_simp) rfl ?_;unfold zdi;rw[t.out,V.out];exact⟨⟨L,Q,O,N,E,I,P,M,C,A,m,i⟩,rfl,o⟩
theorem zia (s:Gr.Str) (hl:s.length<=1073741823) (w:World):
 Calls prog 47 #[.string ⟨s.toArray⟩] w fun e w'=>e=.returned (.bool (insB s))/\Below w.heap.size w w':=by
 have d:=hid (zml s hl w);obtain⟨r,c⟩:=ex (insB s)
 rw[c]at d ⊢;clear c;go_enter func47,ntmps47;go_wp2_with fail;refine d.out.mono ?_;rintro e w1 ⟨⟨t0,t1,t2,t3,t4,t5,t6,t7,t8,t9,t10,t11⟩,rfl,b⟩;have a:=hid b;clear b;simp only[RT.v];go_wp2;go_ret;exact⟨rfl,a.out.alloc a.out.size _⟩
end Go.Proofs.YtoigpackhninoaaGreatDoor
