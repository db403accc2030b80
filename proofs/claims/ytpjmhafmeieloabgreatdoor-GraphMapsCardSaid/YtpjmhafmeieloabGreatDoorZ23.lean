import Derived.Test.YtpjmhafmeieloabGreatDoorZ09
namespace Go.Proofs.YtpjmhafmeieloabGreatDoor
open Gr
open _root_.Go.Proofs.Tryz
open _root_.Go.Lib (hid)
set_option maxRecDepth 100000
set_option maxHeartbeats 16000000
open Go.RowKit
theorem zp6 {x:Gr.Mo} (_h:MoOk x) (hr:okR x=true) (hd:x.date=true):Cal.vld x.y x.m x.d=true/\-63000000000<=secs x/\secs x<=260000000000/\-1000000<=offS x/\offS x<=1000000:=by
 unfold okR at hr;rw[hd]at hr;simp only[Bool.not_true,Bool.false_or,Bool.and_eq_true,decide_eq_true_eq]at hr;obtain⟨⟨⟨⟨⟨a,h1⟩,h2⟩,h3⟩,h4⟩,h5⟩:=hr;have hb:=Cal.zy9 a;have b:-1000000<=offS x/\offS x<=1000000:=by unfold offS;split<;>omega
 refine⟨a,?_,?_,b⟩
 .unfold secs;omega
 .unfold secs;omega
def RIPost (r:Gr.Str×Nat) (w:World) (e:Ending) (w':World):Prop:=e=.returned (.tuple #[.string ⟨r.1.toArray⟩,.int .i64 (r.2:Nat)])/\Below w.heap.size w w'
theorem zx9 {n _nanos:Int} {y m d:Int} (hv:Cal.vld y m d=true) (hn:Cal.num y m d=(n+62167219200) /86400-719528):∃a b c:Nat,y=a/\m=b/\d=c/\a<=999999999/\b<=999999999/\c<=999999999/\dateOf (n /86400)=(a,b,c):=by
 have h:=Cal.zoz hv;have hd:=Cal.zxu y m;refine⟨y.toNat,m.toNat,d.toNat,by omega,by omega,by omega,by omega,by omega,by omega,?_⟩;apply zh2
 .rw[show((y.toNat:Nat):Int)=y from by omega,show((m.toNat:Nat):Int)=m from by omega,show((d.toNat:Nat):Int)=d from by omega];exact hv
 .rw[show((y.toNat:Nat):Int)=y from by omega,show((m.toNat:Nat):Int)=m from by omega,show((d.toNat:Nat):Int)=d from by omega,hn];omega
theorem ofshow (n:Int) (nanos:Nat) (_h0:-62167219200<=n) (_h1:n<=253402300799) (hn:nanos<=999999999) (w:World) (e:Ending) (w':World) (h:OfPost (n+62167219200) (nanos:Int) w e w'):
 ∃a b c p q r:Nat,e=.returned (.agg #[.bool true,.bool true,.bool true,.int .i64 (a:Int),.int .i64 (b:Int),.int .i64 (c:Int),.int .i64 (p:Int),.int .i64 (q:Int),.int .i64 (r:Int),.int .i64 (nanos:Int),.int .i64 0,.bool false])/\Below w.heap.size w w'/\
 (∀W,Calls prog 156 #[.agg #[.bool true,.bool true,.bool true,.int .i64 (a:Int),.int .i64 (b:Int),.int .i64 (c:Int),.int .i64 (p:Int),.int .i64 (q:Int),.int .i64 (r:Int),.int .i64 (nanos:Int),.int .i64 0,.bool false]] W fun e W'=>e=.returned (.string ⟨(momS (n /86400) (n%86400).toNat nanos).toArray⟩)/\Below W.heap.size W W'):=by
 obtain⟨y,m,d,j,f,l,k⟩:=h;obtain⟨a,b,c,rfl,rfl,rfl,o,i,s,g⟩:=zx9 (_nanos:=nanos) j f;refine⟨a,b,c,(n%86400).toNat /3600,(n%86400).toNat /60%60,(n%86400).toNat%60,?_,k,fun W=>?_⟩
 .rw[l,show(n+62167219200)%86400 /3600=(((n%86400).toNat /3600:Nat):Int)from by omega,show(n+62167219200)%86400 /60%60=(((n%86400).toNat /60%60:Nat):Int)from by omega,show(n+62167219200)%86400%60=(((n%86400).toNat%60:Nat):Int)from by omega]
 .have:=zp3 a b c ((n%86400).toNat /3600) ((n%86400).toNat /60%60) ((n%86400).toNat%60) nanos 0 false o i s (by omega) (by omega) (by omega) hn W;rw[show momS (n /86400) (n%86400).toNat nanos=dateS a b c++[84]++clkS ((n%86400).toNat /3600) ((n%86400).toNat /60%60) ((n%86400).toNat%60) nanos++[90]from by unfold momS;rw[g];simp];exact this
theorem zed (s:Gr.Str) (hl:s.length<=1073741823) (w:World):
 Calls prog 153 #[.string ⟨s.toArray⟩] w (RIPost (insP s) w):=by
 have L:=hid (fun W=>zc6 s hl W);have am:Hid (insP s=insP s):=hid rfl;obtain⟨r,Q⟩:=ex (insP s)
 have HR:=hid Q;rw[Q];clear Q am;have Y:Hid (insP s=match Gr.rd s with|none=>([],3)|some x=>if x.z=0 then([],3)else if okR x=false then([],13)else if secs x< -62167219200\/253402300800<=secs x then([],13)else(momS (secs x /86400) (secs x%86400).toNat x.nanos,0)):=hid rfl;cases hrd:Gr.rd s with
 |none=>
  have P:Hid (r=([],3)):=hid (by rw[<-HR.out,Y.out,hrd]);have H:=hid hrd;clear hrd;go_enter func153,ntmps153;go_wp2_with fail;refine(L.out _).mono ?_;rintro e D ⟨⟨t0,t1,t2,t3,t4,t5,t6,t7,t8,t9,t10,t11⟩,ok,rfl,i,o⟩;rw[H.out]at o;simp only at o;subst o;have g:=hid i;clear i;simp only[RT.v];go_wp2;go_ret2;rw[P.out];exact⟨rfl,g.out.alloc g.out.size _⟩
 |some x=>
  have l:=zp4 hrd;have HOK:=hid l;have H:=hid hrd;have X:=zp5 l;have HZ:Hid (decide (x.z≠0)=!decide (x.z=0)):=hid (by simp);by_cases hz:x.z=0
  .have P:Hid (r=([],3)):=hid (by rw[<-HR.out,Y.out,hrd];simp only;rw[if_pos hz]);have N:decide (x.z≠0)=false:=by simp[hz]
   have O:=hid N;clear hrd l X hz N;go_enter func153,ntmps153;go_wp2_with fail;refine(L.out _).mono ?_;rintro e D ⟨t,ok,rfl,i,o⟩;rw[H.out]at o;simp only at o;obtain⟨rfl,rfl⟩:=o;have g:=hid i;clear i;simp only[RT.v,toRT,O.out];go_wp2;go_ret2;rw[P.out];exact⟨rfl,g.out.alloc g.out.size _⟩
  .have N:decide (x.z≠0)=true:=by simp[hz]
   have U:x.date=true/\x.time=true:=by
    rcases l.sh with h|⟨_,_,h⟩|⟨_,_,h⟩
    .exact h
    .exact absurd h hz
    .exact absurd h hz
   have O:=hid N;have C:=hid U;obtain⟨I,aa⟩:=ex (decide (23<x.zh) || decide (59<x.zm))
   obtain⟨of,R⟩:=ex (offS x)
   have E:=hid (And.intro aa R);rw[U.1,aa]at X;have J:Hid (∀W,Calls prog 155 #[.agg #[.bool true,.bool true,.bool true,.int .i64 (x.y:Int),.int .i64 (x.m:Int),.int .i64 (x.d:Int),.int .i64 (x.h:Int),.int .i64 (x.mi:Int),.int .i64 (x.c:Int),.int .i64 (x.nanos:Int),.int .i64 of,.bool I]] W fun e w'=>e=.returned (.bool (okR x))/\Below W.heap.size W w'):=hid (fun W=>by
    have:=zec true true true (x.y:Int) (x.m:Int) (x.d:Int) (x.h:Int) (x.mi:Int) (x.c:Int) (x.nanos:Int) of I W;rwa[X]at this)
   by_cases Q:okR x=false
   .have P:Hid (r=([],13)):=hid (by rw[<-HR.out,Y.out,hrd];simp only;rw[if_neg hz,if_pos Q]);rw[Q]at J;clear hrd l X hz N U aa R Q;go_enter func153,ntmps153;go_wp2_with fail;refine(L.out _).mono ?_;rintro e D ⟨t,ok,rfl,i,o⟩;rw[H.out]at o;simp only at o;obtain⟨rfl,rfl⟩:=o;have g:=hid i;clear i;simp only[RT.v,toRT,O.out,C.out.1,C.out.2,E.out.1,E.out.2];go_wp2_with fail;refine(J.out _).mono ?_;rintro e K ⟨rfl,j⟩;have f:Hid (Below w.heap.size w K):=hid ((g.out.alloc g.out.size _).trans (j.mono (by have:=g.out.size;simp;omega)));clear j;go_wp2;go_ret2;rw[P.out];exact⟨rfl,f.out⟩
   .rw[Bool.not_eq_false]at Q;rw[Q]at J;obtain⟨hv,al,ao,ac,ad⟩:=zp6 l Q U.1;have ar:=Cal.zoz hv;have ap:=Cal.zxu x.y x.m;rw[R]at ac ad;have ah:86400*Cal.num x.y x.m x.d+3600*(x.h:Int)+60*(x.mi:Int)+(x.c:Int)-of=secs x:=by unfold secs;rw[R];omega
    have Z:Hid (∀W,Calls prog 179 #[.agg #[.bool true,.bool true,.bool true,.int .i64 (x.y:Int),.int .i64 (x.m:Int),.int .i64 (x.d:Int),.int .i64 (x.h:Int),.int .i64 (x.mi:Int),.int .i64 (x.c:Int),.int .i64 (x.nanos:Int),.int .i64 of,.bool I]] W fun e w'=>e=.returned (.int .i64 (secs x))/\Below W.heap.size W w'):=hid (fun W=>by
     have h1:=l.h;have h2:=l.mi;have h3:=l.c;have:=zii true true true (x.y:Int) (x.m:Int) (x.d:Int) (x.h:Int) (x.mi:Int) (x.c:Int) (x.nanos:Int) of I (by omega) (by omega) (by omega) (by omega) (by omega) (by omega) (by omega) (by omega) (by omega) (by omega) (by omega) (by omega) ac ad W;rwa[ah]at this)
    have aq:=l.nanos;obtain⟨n,hn⟩:=ex (secs x)
    rw[hn]at Z al ao;have HN:=hid hn;have A:Hid (r=if n< -62167219200\/253402300800<=n then([],13)else(momS (n /86400) (n%86400).toNat x.nanos,0)):=hid (by rw[<-HR.out,Y.out,hrd];simp only;rw[if_neg hz,if_neg (by rw[Q];decide),hn]);have ag:Hid (∀W,-62167219200<=n->n<=253402300799->Calls prog 180 #[.int .i64 n,.int .i64 (x.nanos:Int)] W (OfPost (n+62167219200) (x.nanos:Int) W)):=hid (fun W a b=>zwf n (n+62167219200) (x.nanos:Int) (by omega) (by omega) (by omega) W);clear hrd l X hz N U aa R Q hv ar ap ac ad ah hn Y;by_cases h1:n< -62167219200
    .have P:Hid (r=([],13)):=hid (by rw[A.out,if_pos (.inl h1)]);clear A;go_enter func153,ntmps153;go_wp2_with fail;refine(L.out _).mono ?_;rintro e D ⟨t,ok,rfl,i,o⟩;rw[H.out]at o;simp only at o;obtain⟨rfl,rfl⟩:=o;have g:=hid i;clear i;simp only[RT.v,toRT,O.out,C.out.1,C.out.2,E.out.1,E.out.2];go_wp2_with fail;refine(J.out _).mono ?_;rintro e K ⟨rfl,j⟩;have f:Hid (Blk K D.heap.size 165 (T12 true true true (x.y:Int) (x.m:Int) (x.d:Int) (x.h:Int) (x.mi:Int) (x.c:Int) (x.nanos:Int) of I)/\Below w.heap.size w K/\D.heap.size<K.heap.size):=hid (by
      have F:=Blk.new D 165 (T12 true true true (x.y:Int) (x.m:Int) (x.d:Int) (x.h:Int) (x.mi:Int) (x.c:Int) (x.nanos:Int) of I);exact⟨F.below j F.lt,(g.out.alloc g.out.size _).trans (j.mono (by have:=g.out.size;simp;omega)),by have:=j.size;simp at this;omega⟩)
     clear j;obtain⟨g4,B⟩:=ex D.heap.size
     rw[B]at f ⊢;clear B;obtain⟨q0,q1,q2,q3,q4,q5,q6,q7,q8,q9,S,T⟩:=zag f.out.1;go_wp2_with fail;refine(Z.out _).mono ?_;rintro e w3 ⟨rfl,k⟩;have G:Hid (Blk w3 g4 165 (T12 true true true (x.y:Int) (x.m:Int) (x.d:Int) (x.h:Int) (x.mi:Int) (x.c:Int) (x.nanos:Int) of I)/\Below w.heap.size w w3):=hid ⟨f.out.1.below k f.out.1.lt,f.out.2.1.trans (k.mono f.out.2.1.size)⟩;clear k q0 q1 q2 q3 q4 q5 q6 q7 q8 q9 S T;go_wp2;go_ret2;rw[P.out];exact⟨rfl,G.out.2⟩
    .by_cases h2:253402300799<n
     .have P:Hid (r=([],13)):=hid (by rw[A.out,if_pos (.inr (by omega))]);clear A;go_enter func153,ntmps153;go_wp2_with fail;refine(L.out _).mono ?_;rintro e D ⟨t,ok,rfl,i,o⟩;rw[H.out]at o;simp only at o;obtain⟨rfl,rfl⟩:=o;have g:=hid i;clear i;simp only[RT.v,toRT,O.out,C.out.1,C.out.2,E.out.1,E.out.2];go_wp2_with fail;refine(J.out _).mono ?_;rintro e K ⟨rfl,j⟩;have f:Hid (Blk K D.heap.size 165 (T12 true true true (x.y:Int) (x.m:Int) (x.d:Int) (x.h:Int) (x.mi:Int) (x.c:Int) (x.nanos:Int) of I)/\Below w.heap.size w K/\D.heap.size<K.heap.size):=hid (by
       have F:=Blk.new D 165 (T12 true true true (x.y:Int) (x.m:Int) (x.d:Int) (x.h:Int) (x.mi:Int) (x.c:Int) (x.nanos:Int) of I);exact⟨F.below j F.lt,(g.out.alloc g.out.size _).trans (j.mono (by have:=g.out.size;simp;omega)),by have:=j.size;simp at this;omega⟩)
      clear j;obtain⟨g4,B⟩:=ex D.heap.size
      rw[B]at f ⊢;clear B;obtain⟨q0,q1,q2,q3,q4,q5,q6,q7,q8,q9,S,T⟩:=zag f.out.1;go_wp2_with fail;refine(Z.out _).mono ?_;rintro e w3 ⟨rfl,k⟩;have G:Hid (Blk w3 g4 165 (T12 true true true (x.y:Int) (x.m:Int) (x.d:Int) (x.h:Int) (x.mi:Int) (x.c:Int) (x.nanos:Int) of I)/\Below w.heap.size w w3):=hid ⟨f.out.1.below k f.out.1.lt,f.out.2.1.trans (k.mono f.out.2.1.size)⟩;clear k q0 q1 q2 q3 q4 q5 q6 q7 q8 q9 S T;go_wp2;go_ret2;rw[P.out];exact⟨rfl,G.out.2⟩
     .have P:Hid (r=(momS (n /86400) (n%86400).toNat x.nanos,0)):=hid (by rw[A.out,if_neg (by omega)]);have aj:=hid (fun W=>ag.out W (by omega) (by omega));have ak:=hid (fun W e W' h=>ofshow n x.nanos (by omega) (by omega) aq W e W' h);obtain⟨M,hM⟩:=ex (momS (n /86400) (n%86400).toNat x.nanos)
      rw[hM]at P ak;clear hM;clear A ag;go_enter func153,ntmps153;go_wp2_with fail;refine(L.out _).mono ?_;rintro e D ⟨t,ok,rfl,i,o⟩;rw[H.out]at o;simp only at o;obtain⟨rfl,rfl⟩:=o;have g:=hid i;clear i;simp only[RT.v,toRT,O.out,C.out.1,C.out.2,E.out.1,E.out.2];go_wp2_with fail;refine(J.out _).mono ?_;rintro e K ⟨rfl,j⟩;have f:Hid (Blk K D.heap.size 165 (T12 true true true (x.y:Int) (x.m:Int) (x.d:Int) (x.h:Int) (x.mi:Int) (x.c:Int) (x.nanos:Int) of I)/\Below w.heap.size w K/\D.heap.size<K.heap.size):=hid (by
       have F:=Blk.new D 165 (T12 true true true (x.y:Int) (x.m:Int) (x.d:Int) (x.h:Int) (x.mi:Int) (x.c:Int) (x.nanos:Int) of I);exact⟨F.below j F.lt,(g.out.alloc g.out.size _).trans (j.mono (by have:=g.out.size;simp;omega)),by have:=j.size;simp at this;omega⟩)
      clear j;obtain⟨g4,B⟩:=ex D.heap.size
      rw[B]at f ⊢;clear B;obtain⟨q0,q1,q2,q3,q4,q5,q6,q7,q8,q9,S,T⟩:=zag f.out.1;go_wp2_with fail;refine(Z.out _).mono ?_;rintro e w3 ⟨rfl,k⟩;have G:Hid (Blk w3 g4 165 (T12 true true true (x.y:Int) (x.m:Int) (x.d:Int) (x.h:Int) (x.mi:Int) (x.c:Int) (x.nanos:Int) of I)/\Below w.heap.size w w3):=hid ⟨f.out.1.below k f.out.1.lt,f.out.2.1.trans (k.mono f.out.2.1.size)⟩;clear k q0 q1 q2 q3 q4 q5 q6 q7 q8 q9 S T;have q9:w3.cell? ⟨g4,9,none⟩=some (.int .i64 (x.nanos:Int)):=G.out.1.cell 9;go_wp2_with fail;refine(aj.out _).mono ?_;intro e w4 ab;obtain⟨a,b,c,p,q,u,rfl,af,V⟩:=ak.out _ _ _ ab;have ae:Hid (Below w.heap.size w w4):=hid (G.out.2.trans (af.mono G.out.2.size));have an:=hid V;clear ab af V q9;go_wp2_with fail;refine(an.out _).mono ?_;rintro e w5 ⟨rfl,ai⟩;have au:Hid (Below w.heap.size w w5):=hid (ae.out.trans (ai.mono ae.out.size));clear ai;go_wp2;go_ret2;rw[P.out];exact⟨rfl,au.out⟩
theorem zwh {x:Gr.Mo} (h:MoOk x) (_hz:x.z=0) (of:Int) (lt:Bool) (W:World):
 Calls prog 156 #[.agg #[.bool x.date,.bool x.time,.bool false,.int .i64 (x.y:Int),.int .i64 (x.m:Int),.int .i64 (x.d:Int),.int .i64 (x.h:Int),.int .i64 (x.mi:Int),.int .i64 (x.c:Int),.int .i64 (x.nanos:Int),.int .i64 of,.bool lt]] W fun e W'=>e=.returned (.string ⟨(locS x).toArray⟩)/\Below W.heap.size W W':=by
 have a:=h.y;have b:=h.m;have c:=h.d;have d:=h.h;have e:=h.mi;have f:=h.c;have g:=h.nanos;rcases h.sh with⟨j,i⟩|⟨j,i,_⟩|⟨j,i,_⟩
 .have:=zp2 x.y x.m x.d x.h x.mi x.c x.nanos of lt (by omega) (by omega) (by omega) (by omega) (by omega) (by omega) g W;unfold locS;rw[j,i];simpa using this
 .have:=zp0 x.y x.m x.d x.h x.mi x.c x.nanos of lt (by omega) (by omega) (by omega) (by omega) (by omega) (by omega) g W;unfold locS;rw[j,i];simpa using this
 .have:=zp1 x.y x.m x.d x.h x.mi x.c x.nanos of lt (by omega) (by omega) (by omega) (by omega) (by omega) (by omega) g W;unfold locS;rw[j,i];simpa using this
theorem zfv (s:Gr.Str) (hl:s.length<=1073741823) (w:World):
 Calls prog 123 #[.string ⟨s.toArray⟩] w (RIPost (locP s) w):=by
 have q:=hid (fun W=>zc6 s hl W);obtain⟨r,T⟩:=ex (locP s)
 have Y:=hid T;rw[T];clear T;have k:Hid (locP s=match Gr.rd s with|none=>([],3)|some x=>if x.z≠0 then([],3)else if okR x=false then([],13)else(locS x,0)):=hid rfl;cases hrd:Gr.rd s with
 |none=>
  have F:Hid (r=([],3)):=hid (by rw[<-Y.out,k.out,hrd]);have n:=hid hrd;clear hrd;go_enter func123,ntmps123;go_wp2_with fail;refine(q.out _).mono ?_;rintro e J ⟨⟨t0,t1,t2,t3,t4,t5,t6,t7,t8,t9,t10,t11⟩,X,rfl,b,g⟩;rw[n.out]at g;simp only at g;subst g;have a:=hid b;clear b;simp only[RT.v];go_wp2;go_ret2;rw[F.out];exact⟨rfl,a.out.alloc a.out.size _⟩
 |some x=>
  have p:=zp4 hrd;have n:=hid hrd;have o:=zp5 p;by_cases hz:x.z=0
  .have l:decide (x.z≠0)=false:=by simp[hz]
   have B:=hid l;obtain⟨L,H⟩:=ex (decide (23<x.zh) || decide (59<x.zm))
   obtain⟨of,K⟩:=ex (offS x)
   obtain⟨R,A⟩:=ex x.date
   obtain⟨S,E⟩:=ex x.time
   have u:=hid (And.intro H K);have C:=hid (And.intro A E);rw[A,H]at o;have G:Hid (∀W,Calls prog 155 #[.agg #[.bool R,.bool S,.bool false,.int .i64 (x.y:Int),.int .i64 (x.m:Int),.int .i64 (x.d:Int),.int .i64 (x.h:Int),.int .i64 (x.mi:Int),.int .i64 (x.c:Int),.int .i64 (x.nanos:Int),.int .i64 of,.bool L]] W fun e w'=>e=.returned (.bool (okR x))/\Below W.heap.size W w'):=hid (fun W=>by
    have:=zec R S false (x.y:Int) (x.m:Int) (x.d:Int) (x.h:Int) (x.mi:Int) (x.c:Int) (x.nanos:Int) of L W;rwa[o]at this)
   have I:=hid (fun W=>zwh p hz of L W);rw[A,E]at I;have f:Hid (r=if okR x=false then([],13)else(locS x,0)):=hid (by rw[<-Y.out,k.out,hrd];simp only;rw[if_neg (by simp[hz])]);obtain⟨M,hM⟩:=ex (locS x)
   rw[hM]at f I;obtain⟨U,D⟩:=ex (okR x)
   rw[D]at f G;clear hrd p o hz l A H K E hM D k;cases U with
   |false=>
    have F:Hid (r=([],13)):=hid (by rw[f.out,if_pos rfl]);clear f;go_enter func123,ntmps123;go_wp2_with fail;refine(q.out _).mono ?_;rintro e J ⟨t,X,rfl,b,g⟩;rw[n.out]at g;simp only at g;obtain⟨rfl,rfl⟩:=g;have a:=hid b;clear b;simp only[RT.v,toRT,B.out,C.out.1,C.out.2,u.out.1,u.out.2];go_wp2_with fail;refine(G.out _).mono ?_;rintro e Q ⟨rfl,j⟩;have i:Hid (Below w.heap.size w Q):=hid ((a.out.alloc a.out.size _).trans (j.mono (by have:=a.out.size;simp;omega)));clear j;go_wp2;go_ret2;rw[F.out];exact⟨rfl,i.out⟩
   |true=>
    have F:Hid (r=(M,0)):=hid (by rw[f.out,if_neg (by decide)]);clear f;go_enter func123,ntmps123;go_wp2_with fail;refine(q.out _).mono ?_;rintro e J ⟨t,X,rfl,b,g⟩;rw[n.out]at g;simp only at g;obtain⟨rfl,rfl⟩:=g;have a:=hid b;clear b;simp only[RT.v,toRT,B.out,C.out.1,C.out.2,u.out.1,u.out.2];go_wp2_with fail;refine(G.out _).mono ?_;rintro e Q ⟨rfl,j⟩;have i:Hid (Blk Q J.heap.size 165 (T12 R S false (x.y:Int) (x.m:Int) (x.d:Int) (x.h:Int) (x.mi:Int) (x.c:Int) (x.nanos:Int) of L)/\Below w.heap.size w Q):=hid (by
     have P:=Blk.new J 165 (T12 R S false (x.y:Int) (x.m:Int) (x.d:Int) (x.h:Int) (x.mi:Int) (x.c:Int) (x.nanos:Int) of L);exact⟨P.below j P.lt,(a.out.alloc a.out.size _).trans (j.mono (by have:=a.out.size;simp;omega))⟩)
    clear j;obtain⟨g4,N⟩:=ex J.heap.size
    rw[N]at i ⊢;clear N;obtain⟨q0,q1,q2,q3,q4,q5,q6,q7,q8,q9,Z,aa⟩:=zag i.out.1;go_wp2_with fail;refine(I.out _).mono ?_;rintro e w3 ⟨rfl,O⟩;have V:Hid (Below w.heap.size w w3):=hid (i.out.2.trans (O.mono i.out.2.size));clear O q0 q1 q2 q3 q4 q5 q6 q7 q8 q9 Z aa;go_wp2;go_ret2;rw[F.out];exact⟨rfl,V.out⟩
  .have F:Hid (r=([],3)):=hid (by rw[<-Y.out,k.out,hrd];simp only;rw[if_pos hz]);have l:decide (x.z≠0)=true:=by simp[hz]
   have B:=hid l;clear hrd p o hz l k;go_enter func123,ntmps123;go_wp2_with fail;refine(q.out _).mono ?_;rintro e J ⟨t,X,rfl,b,g⟩;rw[n.out]at g;simp only at g;obtain⟨rfl,rfl⟩:=g;have a:=hid b;clear b;simp only[RT.v,toRT,B.out];go_wp2;go_ret2;rw[F.out];exact⟨rfl,a.out.alloc a.out.size _⟩
theorem zmo (s:Gr.Str) (hl:s.length<=1073741823) (w:World):
 Calls prog 93 #[.string ⟨s.toArray⟩] w fun e w'=>e=.returned (.bool (locB s))/\Below w.heap.size w w':=by
 have d:=hid (zfv s hl w);have f:Hid (locB s=decide ((locP s).2=0/\(locP s).1=s)):=hid rfl;obtain⟨r,m⟩:=ex (locB s)
 rw[m]at f ⊢;obtain⟨⟨l,k⟩,n⟩:∃p,locP s=p:=⟨_,rfl⟩
 rw[n]at d f;obtain⟨h,c⟩:∃h:Int,(k:Int)=h:=⟨_,rfl⟩
 unfold RIPost at d;simp only[c]at d f;have o:=hid c;clear m n c;by_cases h0:h=0
 .subst h0;have i:((0:Int)==0)=true:=rfl;by_cases hs:l=s
  .have j:(l==s)=true:=by rw[beq_iff_eq];exact hs
   have g:Hid (r=true):=hid (by rw[f.out];simp[hs];have:=o.out;omega);clear hs;go_enter func93,ntmps93;go_wp2_with fail;refine d.out.mono ?_;rintro e q ⟨rfl,a⟩;have b:=hid a;clear a;go_wp2;go_ret;rw[g.out];exact⟨rfl,b.out⟩
  .have j:(l==s)=false:=by rw[beq_eq_false_iff_ne];exact hs
   have g:Hid (r=false):=hid (by rw[f.out];simp[hs]);clear hs;go_enter func93,ntmps93;go_wp2_with fail;refine d.out.mono ?_;rintro e q ⟨rfl,a⟩;have b:=hid a;clear a;go_wp2;go_ret;rw[g.out];exact⟨rfl,b.out⟩
 .have i:(h==0)=false:=by simpa using h0
  have g:Hid (r=false):=hid (by rw[f.out];simp;intro e;exact absurd (by have:=o.out;omega) h0);go_enter func93,ntmps93;go_wp2_with fail;refine d.out.mono ?_;rintro e q ⟨rfl,a⟩;have b:=hid a;clear a;go_wp2;go_ret;rw[g.out];exact⟨rfl,b.out⟩
end Go.Proofs.YtpjmhafmeieloabGreatDoor
