import Derived.Test.YtpgmfihonmoliaaGreatDoorGrDecR5
import Derived.Test.YtpgmfihonmoliaaGreatDoorZ13
namespace Go.Proofs.YtpgmfihonmoliaaGreatDoor
open _root_.Go.Proofs.Tryz
open _root_.Go.Lib (hid)
set_option maxRecDepth 100000
set_option maxHeartbeats 16000000
open Go.RowKit
theorem zi8 (A A2:Option Addr) (c d n:Nat) (l:List Int) (hn:Hid (n=l.length)) (hl:n<=9223372036854775807) (w:World) (h:RowAt intI w w.heap.size A l) (h2:RowAt intI w w.heap.size A2 l):
 Calls prog 18 #[.slice A n c,.slice A2 n d] w fun e w'=>e=.returned (.bool true)/\Below w.heap.size w w':=by
 have H:=hid (And.intro h h2);clear h h2;go_enter func18,ntmps18;go_wp2_with fail;go_loopw [5] (fun s5 wr=>∃k:Nat,k<=n/\s5=.int .i64 (k:Int)/\Hid (Below w.heap.size w wr)) (fun s5 _=>n-(intOf s5).toNat)
 case atStart=>exact⟨0,Nat.zero_le _,rfl,hid (Below.refl _ _)⟩
 case round=>
  obtain⟨k,hk,rfl,b⟩:=hrel;by_cases hlt:k<n
  .have a:(k:Int)<(n:Int):=by omega
   obtain⟨ad,rfl,_,i⟩:=zew (H.out.1.below b.out) (show k<l.length by have:=hn.out;omega);obtain⟨ad2,rfl,_,g⟩:=zew (H.out.2.below b.out) (show k<l.length by have:=hn.out;omega);obtain⟨p,f⟩:∃p,l[k]'(by have:=hn.out;omega)=p:=⟨_,rfl⟩
   rw[f]at i g;clear f;go_wp2_with fail;go_quiet (fail);go_wp2;go_roundw
   case rel=>exact⟨k+1,by omega,by go_num,hid (below_drewN b.out _)⟩
   case measure=>simp[intOf];omega
  .have a:¬(k:Int)<(n:Int):=by omega
   go_wp2;go_ret;exact⟨rfl,b.out⟩
def Sz (is:List Gr.Ni):Prop:=is.length<=9223372036854775807/\∀x∈is,x.text.length<=9223372036854775807/\x.keys.length<=9223372036854775807/\x.items.length<=9223372036854775807
theorem zgb (A A2:Option Addr) (c c2:Nat) (root:Int) (vs vs2:List NV) (is:List Gr.Ni) (hz:Sz is) (w:World) (h:IAt w w.heap.size A vs is) (h2:IAt w w.heap.size A2 vs2 is):
 Calls prog 9 #[.agg #[.slice A is.length c,.int .i64 root],.agg #[.slice A2 is.length c2,.int .i64 root]] w fun e w'=>e=.returned (.bool true)/\Below w.heap.size w w':=by
 have H:=hid (And.intro h h2);have HZ:=hid hz;have hl:=hz.1;obtain⟨N,hN⟩:=ex is.length
 have HN:=hid hN;rw[hN]at hl ⊢;clear h h2 hz hN;obtain⟨l,p⟩:=ex w.heap.size
 have ae:=hid p;go_enter func9,ntmps9;go_upto_region 1 with fail;obtain⟨t,I⟩:=ex ((w.alloc (.cells #[.slice A N c,.int .i64 root] 24)).alloc (.cells #[.slice A2 N c2,.int .i64 root] 24))
 have g:Hid (Blk t l 24 #[.slice A N c,.int .i64 root]/\Blk t (l+1) 24 #[.slice A2 N c2,.int .i64 root]/\Below l w t):=hid (by
  rw[<-I,<-p];refine⟨(Blk.new _ _ _).alloc _,?_,((Below.refl _ _).alloc (Nat.le_refl _) _).alloc (by simp) _⟩;have:=Blk.new (w.alloc (.cells #[.slice A N c,.int .i64 root] 24)) 24 #[.slice A2 N c2,.int .i64 root];rw[World.size_alloc]at this;exact this)
 have V:Hid (IAt t l A vs is/\IAt t l A2 vs2 is):=hid (by rw[<-p];exact⟨H.out.1.below (by have:=g.out.2.2;rwa[<-p]at this),H.out.2.below (by have:=g.out.2.2;rwa[<-p]at this)⟩);(try rw[I]);(try rw[p]);clear I p H;obtain⟨a0,a1⟩:=cells2 g.out.1;obtain⟨b0,b1⟩:=cells2 g.out.2.1;go_wp2_with fail;clear a0 a1 b0 b1;have m:Hid (l+1<t.heap.size):=hid g.out.2.1.lt;go_loopw [5] (fun s5 wr=>∃k:Nat,k<=N/\s5=.int .i64 (k:Int)/\Hid (Below t.heap.size t wr)) (fun s5 _=>N-(intOf s5).toNat)
 case atStart=>exact⟨0,Nat.zero_le _,rfl,hid (Below.refl _ _)⟩
 case round=>
  obtain⟨k,hk,rfl,O⟩:=hrel;obtain⟨f,ah⟩:∃f,f=wr:=⟨_,rfl⟩
  subst ah;have ca:=g.out.1.below O.out g.out.1.lt;have cb:=g.out.2.1.below O.out g.out.2.1.lt;have a0:f.cell? ⟨l,0,none⟩=some (.slice A N c):=ca.cell 0;have b0:f.cell? ⟨l+1,0,none⟩=some (.slice A2 N c2):=cb.cell 0;have j:Hid (t.heap.size<=f.heap.size):=hid O.out.size;clear ca cb;by_cases hlt:k<N
  .have U:(k:Int)<(N:Int):=by omega
   have y:k<is.length:=by rw[HN.out];exact hlt
   have lq:=O.out.mono (show l<=t.heap.size by have:=m.out;omega);obtain⟨v,⟨M,kn,T⟩,⟨F,qn,L⟩,rfl,S,c0,c1,Y,c3,c4,r1,X,r2,P⟩:=(V.out.1.below lq).node y;obtain⟨i,⟨r,d,u⟩,⟨o,b,s⟩,rfl,J,d0,d1,d2,d3,d4,s1,m1,s2,m2⟩:=(V.out.2.below lq).node y;obtain⟨E,ab⟩:=ex (is[k].kind)
   obtain⟨x,Z⟩:=ex (is[k].text)
   obtain⟨D,aa⟩:=ex (is[k].ord)
   obtain⟨K,hK⟩:=ex (is[k].keys)
   obtain⟨Q,hQ⟩:=ex (is[k].items)
   have z:=HZ.out.2 _ (List.getElem_mem y);simp only[ab,Z,aa,hK,hQ]at c0 c1 Y d0 d1 d2 r1 X r2 P s1 m1 s2 m2 z;simp only at c3 c4 d3 d4;obtain rfl:d=kn:=m1.trans X.symm;obtain rfl:b=qn:=m2.trans P.symm;have q:Hid (RowAt intI f l M K/\RowAt intI f l F Q/\RowAt intI f l r K/\RowAt intI f l o Q):=hid ⟨r1,r2,s1,s2⟩;have C:Hid (d=K.length/\b=Q.length):=hid ⟨X,P⟩;have zk:d<=9223372036854775807:=by rw[X];exact z.2.1
   have zq:b<=9223372036854775807:=by rw[P];exact z.2.2
   clear ab Z aa hK hQ r1 X r2 P s1 m1 s2 m2 z lq y S J;go_wp2_with fail;go_cut [6,7] (fun s6 s7 wx=>∃g6 g7,s6=.pointer (some ⟨g6,0,none⟩)/\s7=.pointer (some ⟨g7,0,none⟩)/\Hid (Blk wx g6 38 #[.int .i64 E,.string ⟨x.toArray⟩,.bool D,.slice M d T,.slice F b L]/\Blk wx g7 38 #[.int .i64 E,.string ⟨x.toArray⟩,.bool D,.slice r d u,.slice o b s]/\Below f.heap.size f wx))
   case first=>
    go_region_held3 (fun w'=>w'.cell? ⟨l,0,none⟩=some (.slice (some v) N c)/\w'.cell? ⟨l+1,0,none⟩=some (.slice (some i) N c2)/\
     w'.cell? (v.add (k*5))=some (.int .i64 E)/\
     w'.cell? {block:=(v.add (k*5)).block,off:=(v.add (k*5)).off+1}=some (.string ⟨x.toArray⟩)/\
     w'.cell? {block:=(v.add (k*5)).block,off:=(v.add (k*5)).off+2}=some (.bool D)/\
     w'.cell? {block:=(v.add (k*5)).block,off:=(v.add (k*5)).off+3}=some (.slice M d T)/\
     w'.cell? {block:=(v.add (k*5)).block,off:=(v.add (k*5)).off+4}=some (.slice F b L)/\
     w'.cell? (i.add (k*5))=some (.int .i64 E)/\
     w'.cell? {block:=(i.add (k*5)).block,off:=(i.add (k*5)).off+1}=some (.string ⟨x.toArray⟩)/\
     w'.cell? {block:=(i.add (k*5)).block,off:=(i.add (k*5)).off+2}=some (.bool D)/\
     w'.cell? {block:=(i.add (k*5)).block,off:=(i.add (k*5)).off+3}=some (.slice r d u)/\
     w'.cell? {block:=(i.add (k*5)).block,off:=(i.add (k*5)).off+4}=some (.slice o b s))
      (first|go_keep| (simp[go_sem])) (fail)
    all_goals
     go_wp2;go_meet
    .refine⟨f.heap.size,f.heap.size+1,rfl,rfl,hid ⟨(Blk.new _ _ _).alloc _,?_,((((Below.refl f.heap.size f).alloc (Nat.le_refl _) _).alloc (by simp) _).drew)⟩⟩;have:=Blk.new (f.alloc (.cells #[.int .i64 E,.string ⟨x.toArray⟩,.bool D,.slice M d T,.slice F b L] 38)) 38 #[.int .i64 E,.string ⟨x.toArray⟩,.bool D,.slice r d u,.slice o b s];rw[World.size_alloc]at this;exact this
    .refine⟨f.heap.size+1,f.heap.size,rfl,rfl,hid ⟨?_,(Blk.new _ _ _).alloc _,((((Below.refl f.heap.size f).alloc (Nat.le_refl _) _).alloc (by simp) _).drew)⟩⟩;have:=Blk.new (f.alloc (.cells #[.int .i64 E,.string ⟨x.toArray⟩,.bool D,.slice r d u,.slice o b s] 38)) 38 #[.int .i64 E,.string ⟨x.toArray⟩,.bool D,.slice M d T,.slice F b L];rw[World.size_alloc]at this;exact this
   case rest=>
    obtain⟨g6,g7,rfl,rfl,a⟩:=hcut;clear c0 c1 Y c3 c4 d0 d1 d2 d3 d4 a0 b0;obtain⟨e0,e1,e2,e3⟩:=cells4 a.out.1;obtain⟨f0,f1,f2,f3⟩:=cells4 a.out.2.1;have hts:((⟨x.toArray⟩:ByteArray)==⟨x.toArray⟩)=true:=by rw[str_eq];simp
    have G:Hid (Below l f wc):=hid (a.out.2.2.mono (by have:=m.out;have:=j.out;omega));have af:=hid (zi8 M r T u d K (hid C.out.1) zk wc ((q.out.1.below G.out).more (by have:=m.out;have:=j.out;have:=a.out.2.2.size;omega)) ((q.out.2.2.1.below G.out).more (by have:=m.out;have:=j.out;have:=a.out.2.2.size;omega)));go_wp2_with fail;refine af.out.mono ?_;rintro _ w5 ⟨rfl,n⟩;have R:=hid n;have x6:=a.out.1.below n a.out.1.lt;have x7:=a.out.2.1.below n a.out.2.1.lt;have e4:w5.cell? ⟨g6,4,none⟩=some (.slice F b L):=x6.cell 4;have f4:w5.cell? ⟨g7,4,none⟩=some (.slice o b s):=x7.cell 4;have B:Hid (Below l f w5):=hid (G.out.trans (n.mono (by have:=m.out;have:=j.out;have:=a.out.2.2.size;omega)));have ac:=hid (zi8 F o L s b Q (hid C.out.2) zq w5 ((q.out.2.1.below B.out).more (by have:=m.out;have:=j.out;have:=a.out.2.2.size;have:=n.size;omega)) ((q.out.2.2.2.below B.out).more (by have:=m.out;have:=j.out;have:=a.out.2.2.size;have:=n.size;omega)));clear n x6 x7 e0 e1 e2 e3 f0 f1 f2 f3;go_wp2_with fail;refine ac.out.mono ?_;rintro _ w6 ⟨rfl,W⟩;have ag:Hid (Below t.heap.size t w6):=hid (O.out.trans ((a.out.2.2.mono j.out).trans ((R.out.mono (by have:=j.out;have:=a.out.2.2.size;omega)).trans (W.mono (by have:=j.out;have:=a.out.2.2.size;have:=R.out.size;omega)))));clear W e4 f4;go_wp2;go_roundw
    case rel=>exact⟨k+1,by omega,by go_num,ag⟩
    case measure=>simp[intOf];omega
  .have U:¬(k:Int)<(N:Int):=by omega
   go_wp2;go_ret;exact⟨rfl,by rw[ae.out];exact g.out.2.2.trans (O.out.mono (by have:=m.out;omega))⟩
open Gr
theorem zlf {sat:Nat} {neg:Bool} {d:List Nat} {e:Int} {s:Gr.Str} {x:Gr.Dn} (h:expS sat neg d e s=some x):x.d.length<=d.length:=by
 unfold expS at h;split at h
 .injection h with h;subst h;exact(zju _ _ _).1
 .split at h
  .split at h
   .cases h
   .injection h with h;subst h;exact(zju _ _ _).1
  .cases h
theorem zlg {sat:Nat} {neg:Bool} {s:Gr.Str} {x:Gr.Dn} (h:numT sat neg s=some x):x.d.length<=s.length:=by
 have a:=List.takeWhile_append_dropWhile (p:=Gr.dig) (l:=s);have h1:(s.takeWhile Gr.dig).length+(s.dropWhile Gr.dig).length=s.length:=by
  rw[<-List.length_append,a]
 have h2:((s.dropWhile Gr.dig).tail.takeWhile Gr.dig).length<=(s.dropWhile Gr.dig).length:=Nat.le_trans (List.takeWhile_sublist Gr.dig).length_le (by rw[List.length_tail];omega);unfold numT at h;split at h
 .cases h
 .split at h
  .split at h
   .cases h
   .have:=zlf h;rw[zbd,List.length_append]at this;omega
  .have:=zlf h;rw[zbd]at this;omega
theorem ztk {sat:Nat} {s:Gr.Str} {x:Gr.Dn} (h:numS sat s=some x):x.d.length<=s.length:=by
 unfold numS at h;split at h
 .have:=zlg h;rw[List.length_tail]at this;omega
 .exact zlg h
def zb7 (b:Bool) (w:World) (e:Ending) (w':World):Prop:=∃(n:Bool) (A:Option Addr) (l c:Nat) (x:Int),e=.returned (.tuple #[.agg #[.bool n,.slice A l c,.int .i64 x],.bool b])/\Below w.heap.size w w'
theorem zqx (a b:Gr.Str):(a != b)=!decide (a=b):=by
 rw[bne]
 congr 1
 rw[Bool.eq_iff_iff];simp
theorem zqy (s:Gr.Str) (hl:s.length<=268435455) (w:World):
 Calls prog 66 #[.string ⟨s.toArray⟩] w (zb7 (readR s).isSome w):=by
 have Z:=hid (fun W=>ziy s hl W);cases ho:numS 1000000 s with
 |none=>
  have T:Hid ((readR s).isSome=false):=hid (by unfold readR;rw[ho];rfl);rw[ho]at Z;clear ho;go_enter func66,ntmps66;go_upto_region 1 with fail;obtain⟨M,l⟩:=ex (w.alloc (.cells #[.bool false,.slice none 0 0,.int .i64 0] 102))
  obtain⟨a,k⟩:=ex w.heap.size
  have i:Hid (Blk M a 102 #[.bool false,.slice none 0 0,.int .i64 0]/\Below a w M):=hid (by rw[<-l,<-k];exact⟨Blk.new _ _ _,(Below.refl _ _).alloc (Nat.le_refl _) _⟩);have q:=hid k;(try rw[l]);(try rw[k]);clear l k;go_wp2_with fail;refine(Z.out _).mono ?_;rintro e C ⟨x,v,rfl,⟨A,c,rfl,z⟩,Y,I⟩;have n:Hid (Blk C a 102 #[.bool false,.slice none 0 0,.int .i64 0]/\Below a w C):=hid ⟨i.out.1.below I i.out.1.lt,i.out.2.trans (I.mono (Nat.le_of_lt i.out.1.lt))⟩;clear z Y I;simp only[Option.isSome_none];have p0:∀j,C.frozen? ⟨a,j,none⟩=false:=n.out.1.frozen;obtain⟨K,O,V⟩:=cells3 n.out.1;have hlt:a<C.heap.size:=n.out.1.lt;go_wp2_with fail;have b:=(((n.out.1.set_ 0 (.bool false)).set_ 1 (.slice none 0 0)).set_ 2 (.int .i64 0)).alloc (.cells #[.bool x.neg,.slice A x.d.length c,.int .i64 x.e] 102);have e0:=b.cell 0;have e1:=b.cell 1;have e2:=b.cell 2;refine bodyPost_ret (v:=.tuple #[.agg #[.bool false,.slice none 0 0,.int .i64 0],.bool false]) (by rw[results_cell_tmp rfl];go_simp) rfl ?_;unfold zb7;rw[q.out,T.out];exact⟨_,_,_,_,_,rfl,(((n.out.2.setCell (p:=⟨a,0,none⟩) (by simp) _).setCell (p:=⟨a,1,none⟩) (by simp) _).setCell (p:=⟨a,2,none⟩) (by simp) _).alloc (by have:=n.out.1.lt;simp;omega) _⟩
 |some y=>
  have N:=zoo ho;have S:=ztk ho;have HY:Hid (Gr.Wf y/\y.d.length<=s.length):=hid ⟨N,S⟩;have E:Hid (readR s=if lim y=0/\Gr.text y=s then some y else none):=hid (by unfold readR;rw[ho]);rw[ho]at Z;clear ho N S;obtain⟨r,hr⟩:=ex ((readR s).isSome)
  have T:=hid hr;rw[hr];clear hr;have B:=hid (fun(A:Option Addr) (c:Nat) (W:World)=>zm2 y A c (by have:=HY.out.2;omega) W);have P:=hid (fun(A:Option Addr) (c:Nat) (W:World) (h0:lim y=0) (hrow:RowAt intL W W.heap.size A y.d)=>zqr y A c (by have:=HY.out.2;omega) HY.out.1.lt (by have:=zej h0;omega) (by have:=zej h0;omega) W hrow);obtain⟨L,hL⟩:∃L:Int,((lim y:Nat):Int)=L:=⟨_,rfl⟩
  have HL:=hid hL;rw[hL]at B;clear hL;go_enter func66,ntmps66;go_upto_region 1 with fail;obtain⟨M,l⟩:=ex (w.alloc (.cells #[.bool false,.slice none 0 0,.int .i64 0] 102))
  obtain⟨a,k⟩:=ex w.heap.size
  have i:Hid (Blk M a 102 #[.bool false,.slice none 0 0,.int .i64 0]/\Below a w M):=hid (by rw[<-l,<-k];exact⟨Blk.new _ _ _,(Below.refl _ _).alloc (Nat.le_refl _) _⟩);have q:=hid k;(try rw[l]);(try rw[k]);clear l k;go_wp2_with fail;refine(Z.out _).mono ?_;rintro e C ⟨x,v,rfl,⟨A,c,rfl,z⟩,Y,I⟩;obtain rfl:=Y y rfl;obtain⟨A',c',ab,t⟩:=z.form;injection ab with ea en ec
  subst ea ec;simp only[Option.isSome_some];obtain⟨F,D⟩:∃F,F=C.alloc (.cells #[.bool x.neg,.slice A x.d.length c,.int .i64 x.e] 102):=⟨_,rfl⟩
  obtain⟨R,G⟩:=ex C.heap.size
  have g:Hid (Blk F a 102 #[.bool false,.slice none 0 0,.int .i64 0]/\Below a w F/\Blk F R 102 #[.bool x.neg,.slice A x.d.length c,.int .i64 x.e]/\a<R/\RowAt intL F F.heap.size A x.d):=hid (by
   have h1:=i.out.1.below I i.out.1.lt;have h2:Below a w C:=i.out.2.trans (I.mono (Nat.le_of_lt i.out.1.lt));rw[D,<-G];refine⟨h1.alloc _,h2.alloc (Nat.le_of_lt h1.lt) _,Blk.new _ _ _,h1.lt,?_⟩;exact(t.below ((Below.refl _ _).alloc (Nat.le_refl _) _)).more (by simp))
  clear z Y I t;go_upto_region 2 with fail;(try rw[<-D]);(try rw[G]);clear D G;obtain⟨K,O,V⟩:=cells3 g.out.2.2.1;go_wp2_with fail;refine(B.out _ _ _).mono ?_;rintro e J ⟨rfl,o⟩;have f:Hid (Blk J a 102 #[.bool false,.slice none 0 0,.int .i64 0]/\Below a w J/\Blk J R 102 #[.bool x.neg,.slice A x.d.length c,.int .i64 x.e]/\a<R/\RowAt intL J J.heap.size A x.d):=hid ⟨g.out.1.below o g.out.1.lt,g.out.2.1.trans (o.mono (Nat.le_of_lt g.out.1.lt)),g.out.2.2.1.below o g.out.2.2.1.lt,g.out.2.2.2.1,(g.out.2.2.2.2.below o).more o.size⟩;clear o K O V;obtain⟨K,O,V⟩:=cells3 f.out.2.2.1;by_cases hL0:L=0
  .subst hL0;have HS:=hid (fun W=>P.out A c W (by have:=HL.out;omega));go_wp2_with fail;refine(HS.out _ f.out.2.2.2.2).mono ?_;rintro e X ⟨rfl,u⟩;have m:Hid (Blk X a 102 #[.bool false,.slice none 0 0,.int .i64 0]/\Below a w X/\Blk X R 102 #[.bool x.neg,.slice A x.d.length c,.int .i64 x.e]):=hid ⟨f.out.1.below u f.out.1.lt,f.out.2.1.trans (u.mono (Nat.le_of_lt f.out.1.lt)),f.out.2.2.1.below u f.out.2.2.1.lt⟩;clear u K O V;obtain⟨K,O,V⟩:=cells3 m.out.2.2;have p0:∀j,X.frozen? ⟨a,j,none⟩=false:=m.out.1.frozen;obtain⟨k0,k1,k2⟩:=cells3 m.out.1;by_cases ht:Gr.text x=s
   .have U:(Gr.text x==s)=true:=by rw[beq_iff_eq];exact ht
    have H:(Gr.text x != s)=false:=by rw[zqx,decide_eq_true ht];rfl
    have Q:Hid (r=true):=hid (by rw[<-T.out,E.out,if_pos ⟨by have:=HL.out;omega,ht⟩];rfl);clear ht;go_wp2_with fail;have b:=((m.out.1.set_ 0 (.bool x.neg)).set_ 1 (.slice A x.d.length c)).set_ 2 (.int .i64 x.e);have e0:=b.cell 0;have e1:=b.cell 1;have e2:=b.cell 2;refine bodyPost_ret (v:=.tuple #[.agg #[.bool x.neg,.slice A x.d.length c,.int .i64 x.e],.bool true]) (by rw[results_cell_tmp rfl];go_simp) rfl ?_;unfold zb7;rw[q.out,Q.out];exact⟨_,_,_,_,_,rfl,((m.out.2.1.setCell (p:=⟨a,0,none⟩) (by simp) _).setCell (p:=⟨a,1,none⟩) (by simp) _).setCell (p:=⟨a,2,none⟩) (by simp) _⟩
   .have U:(Gr.text x==s)=false:=by rw[beq_eq_false_iff_ne];exact ht
    have H:(Gr.text x != s)=true:=by rw[zqx,decide_eq_false ht];rfl
    have Q:Hid (r=false):=hid (by rw[<-T.out,E.out,if_neg (fun h=>ht h.2)];rfl);clear ht;go_wp2_with fail;have b:=((m.out.1.set_ 0 (.bool false)).set_ 1 (.slice none 0 0)).set_ 2 (.int .i64 0);have e0:=b.cell 0;have e1:=b.cell 1;have e2:=b.cell 2;refine bodyPost_ret (v:=.tuple #[.agg #[.bool false,.slice none 0 0,.int .i64 0],.bool false]) (by rw[results_cell_tmp rfl];go_simp) rfl ?_;unfold zb7;rw[q.out,Q.out];exact⟨_,_,_,_,_,rfl,((m.out.2.1.setCell (p:=⟨a,0,none⟩) (by simp) _).setCell (p:=⟨a,1,none⟩) (by simp) _).setCell (p:=⟨a,2,none⟩) (by simp) _⟩
  .have aa:(L==0)=false:=by simpa using hL0
   have hz1:(L != 0)=true:=by rw[bne,aa];rfl
   have Q:Hid (r=false):=hid (by rw[<-T.out,E.out,if_neg (fun h=>hL0 (by have:=HL.out;omega))];rfl);have p0:∀j,J.frozen? ⟨a,j,none⟩=false:=f.out.1.frozen;obtain⟨k0,k1,k2⟩:=cells3 f.out.1;go_wp2_with fail;have b:=((f.out.1.set_ 0 (.bool false)).set_ 1 (.slice none 0 0)).set_ 2 (.int .i64 0);have e0:=b.cell 0;have e1:=b.cell 1;have e2:=b.cell 2;refine bodyPost_ret (v:=.tuple #[.agg #[.bool false,.slice none 0 0,.int .i64 0],.bool false]) (by rw[results_cell_tmp rfl];go_simp) rfl ?_;unfold zb7;rw[q.out,Q.out];exact⟨_,_,_,_,_,rfl,((f.out.2.1.setCell (p:=⟨a,0,none⟩) (by simp) _).setCell (p:=⟨a,1,none⟩) (by simp) _).setCell (p:=⟨a,2,none⟩) (by simp) _⟩
theorem ziz (s:Gr.Str) (hl:s.length<=1073741823) (w:World) (hT:UT w):
 Calls prog 41 #[.string ⟨s.toArray⟩] w fun e w'=>e=.returned (.bool (readP s).isSome)/\Below w.heap.size w w':=by
 have a:=hid (zpx s hl w hT);clear hT;obtain⟨r,f⟩:=ex ((readP s).isSome)
 unfold zbw at a;rw[f]at a ⊢;clear f;go_enter func41,ntmps41;go_wp2_with fail;refine a.out.mono ?_;rintro e w2 ⟨x,v,rfl,⟨A,c,rfl,_⟩,_,d⟩;have b:=hid d;clear d;go_wp2;go_ret;exact⟨rfl,b.out.alloc b.out.size _⟩
theorem ztl (text:Gr.Str) (hl:text.length<=1073741823):ScalOk UT 3 text (readP text).isSome:=by
 intro w c;have a:=hid (fun W g=>ziz text hl W g);have h:=hid c;obtain⟨r,d⟩:=ex ((readP text).isSome)
 rw[d]at a ⊢;clear d c;go_enter func22,ntmps22;go_wp2_with fail;refine(a.out _ h.out).mono ?_;rintro e w2 ⟨rfl,b⟩;have f:=hid b;clear b;go_wp2;go_ret;exact⟨rfl,f.out⟩
theorem zqz (text:Gr.Str):ScalOk UT 1 text (decide (text=[116,114,117,101]) || decide (text=[102,97,108,115,101])):=by
 intro w b;clear b;by_cases h1:text=[116,114,117,101]
 .subst h1;go_enter func22,ntmps22;go_wp2;go_ret;exact⟨rfl,Below.refl _ _⟩
 .have hb1:(text==[116,114,117,101])=false:=by rw[beq_eq_false_iff_ne];exact h1
  by_cases h2:text=[102,97,108,115,101]
  .subst h2;go_enter func22,ntmps22;go_wp2;go_ret;exact⟨rfl,Below.refl _ _⟩
  .have hb2:(text==[102,97,108,115,101])=false:=by rw[beq_eq_false_iff_ne];exact h2
   have a:Hid ((decide (text=[116,114,117,101]) || decide (text=[102,97,108,115,101]))=false):=hid (by simp[h1,h2]);go_enter func22,ntmps22;go_wp2;go_ret;rw[a.out];exact⟨rfl,Below.refl _ _⟩
theorem zm3 (text:Gr.Str):ScalOk UT 6 text true:=by
 intro w a;clear a;go_enter func22,ntmps22;go_wp2;go_ret;exact⟨rfl,Below.refl _ _⟩
theorem zix (s:Gr.Str) (hl:s.length<=1073741823) (w:World) (hT:UT w):Calls prog 44 #[.string ⟨s.toArray⟩] w (zdd (insP s) w):=by
 have HT:=hid hT;clear hT;obtain⟨r,G⟩:=ex (insP s)
 have Z:=hid G;rw[G];clear G;have K:Hid (insP s=match Gr.rd s with|none=>([],3)|some x=>if x.z=0 then([],3)else if okR x=false then([],13)else osP (secs x) x.nanos):=hid rfl;cases hrd:Gr.rd s with
 |none=>
  have L:Hid (r=([],3)):=hid (by rw[<-Z.out,K.out,hrd]);have A:=hid (fun W=>ziw hl hrd W);clear hrd;go_enter func44,ntmps44;go_wp2_with fail;refine(A.out _).mono ?_;rintro e O ⟨g,M,y,m,d,h,mi,c,zh,zm,n,z,rfl⟩;have C:=hid g;clear g;go_wp2;go_ret2;rw[L.out];exact⟨rfl,C.out.alloc C.out.size _⟩
 |some x=>
  have i:=zqi hrd;have E:=mo_z hrd;have N:=hid (fun W=>zfg hl hrd W);have I:=zql i;have F:=hid (fun W=>zfe ((moSh x:Nat):Int) x.y x.m x.d x.h x.mi x.c x.zh x.zm (x.nanos:Int) ((x.z.toNat:Nat):Int) W);rw[I]at F;obtain⟨M,u⟩:=ex (moSh x)
  obtain⟨B,l⟩:∃B:Int,((x.z.toNat:Nat):Int)=B:=⟨_,rfl⟩
  have t:=fun(hv:Cal.vld x.y x.m x.d=true) (h1:(x.z=90/\x.zh=0/\x.zm=0)\/x.z=43\/x.z=45) W=>zit ((moSh x:Nat):Int) (x.y:Int) (x.m:Int) (x.d:Int) (x.h:Int) (x.mi:Int) (x.c:Int) (x.zh:Int) (x.zm:Int) (x.nanos:Int) ((x.z.toNat:Nat):Int) hv (by omega) (by have:=i.h;omega) (by omega) (by have:=i.mi;omega) (by omega) (by have:=i.c;omega) (by omega) (by have:=i.zh;omega) (by omega) (by have:=i.zm;omega) W
  have A:=N;have D:=F;rw[u,l]at A D;clear N F;have HZZ:=hid l;have HSH:=hid u;have HOK:=hid i;have HMZ:=hid E;by_cases hz:x.z=0
  .have L:Hid (r=([],3)):=hid (by rw[<-Z.out,K.out,hrd];simp only;rw[if_pos hz]);obtain rfl:0=B:=by rw[<-l,hz];rfl
   have hz0b:((0:Int)==0)=true:=rfl;clear hrd i E I u l hz t;go_enter func44,ntmps44;go_wp2_with fail;refine(A.out _).mono ?_;rintro e O ⟨rfl,g⟩;have C:=hid g;clear g;go_wp2;go_ret2;rw[L.out];exact⟨rfl,C.out.alloc C.out.size _⟩
  .have X:=u8_z hz;rw[l]at X;have hznb:(B==0)=false:=by simpa using X
   have J:=E.1.resolve_left hz;have S:x.date=true/\x.time=true:=by
    rcases i.sh with h|⟨_,_,h⟩|⟨_,_,h⟩
    .exact h
    .exact absurd h hz
    .exact absurd h hz
   cases G:okR x with
   |false=>
    have L:Hid (r=([],13)):=hid (by rw[<-Z.out,K.out,hrd];simp only;rw[if_neg hz,if_pos G]);rw[G]at D;clear hrd i E I u l hz G t S J;go_enter func44,ntmps44;go_wp2_with fail;refine(A.out _).mono ?_;rintro e O ⟨rfl,g⟩;go_upto_region 2 with fail;obtain⟨o,p⟩:=ex O.heap.size
    obtain⟨v,k⟩:∃v,v=O.alloc (.cells #[.int .i64 (M:Int),.int .i64 (x.y:Int),.int .i64 (x.m:Int),.int .i64 (x.d:Int),.int .i64 (x.h:Int),.int .i64 (x.mi:Int),.int .i64 (x.c:Int),.int .i64 (x.zh:Int),.int .i64 (x.zm:Int),.int .i64 (x.nanos:Int),.int .u8 B] 96):=⟨_,rfl⟩
    have f:Hid (Blk v o 96 #[.int .i64 (M:Int),.int .i64 (x.y:Int),.int .i64 (x.m:Int),.int .i64 (x.d:Int),.int .i64 (x.h:Int),.int .i64 (x.mi:Int),.int .i64 (x.c:Int),.int .i64 (x.zh:Int),.int .i64 (x.zm:Int),.int .i64 (x.nanos:Int),.int .u8 B]/\Below w.heap.size w v/\UT v):=hid (by
     have Y:Below w.heap.size w v:=by rw[k];exact g.alloc g.size _
     exact⟨by rw[k,<-p];exact Blk.new _ _ _,Y,UT.stays _ _ HT.out Y⟩)
    (try rw[<-k]);(try rw[p]);clear k p g;obtain⟨q0,q1,q2,q3,q4,q5,q6,q7,q8,q9,T⟩:=zag f.out.1;go_wp2_with fail;refine(D.out _).mono ?_;rintro e b ⟨rfl,j⟩;have a:Hid (Blk b o 96 #[.int .i64 (M:Int),.int .i64 (x.y:Int),.int .i64 (x.m:Int),.int .i64 (x.d:Int),.int .i64 (x.h:Int),.int .i64 (x.mi:Int),.int .i64 (x.c:Int),.int .i64 (x.zh:Int),.int .i64 (x.zm:Int),.int .i64 (x.nanos:Int),.int .u8 B]/\Below w.heap.size w b/\UT b):=hid ⟨f.out.1.below j f.out.1.lt,f.out.2.1.trans (j.mono f.out.2.1.size),UT.stays _ _ f.out.2.2 j⟩;clear j q0 q1 q2 q3 q4 q5 q6 q7 q8 q9 T;go_wp2;go_ret2;rw[L.out];exact⟨rfl,a.out.2.1⟩
   |true=>
    have L:Hid (r=osP (secs x) x.nanos):=hid (by rw[<-Z.out,K.out,hrd];simp only;rw[if_neg hz,if_neg (by rw[G];decide)]);rw[G]at D;obtain⟨hv,U,V,_,_⟩:=zqk i G S.1;have P:=hid (t hv J);rw[psecs J,u,l]at P;obtain⟨q,hq⟩:=ex (secs x)
    rw[hq]at P L U V;have H:=hid (fun W hW=>zhb q x.nanos (x.nanos:Int) rfl i.nanos (by omega) (by omega) W hW);unfold zdd at H ⊢;obtain⟨⟨R1,R2⟩,hR⟩:∃R,osP q x.nanos=R:=⟨_,rfl⟩
    rw[hR]at H L;simp only at H;obtain⟨Ri,Q⟩:∃Ri:Int,(R2:Int)=Ri:=⟨_,rfl⟩
    rw[Q]at H;have aa:=hid Q;clear hrd i E I u l hz G t S J hv U V hq hR Q;go_enter func44,ntmps44;go_wp2_with fail;refine(A.out _).mono ?_;rintro e O ⟨rfl,g⟩;go_upto_region 2 with fail;obtain⟨o,p⟩:=ex O.heap.size
    obtain⟨v,k⟩:∃v,v=O.alloc (.cells #[.int .i64 (M:Int),.int .i64 (x.y:Int),.int .i64 (x.m:Int),.int .i64 (x.d:Int),.int .i64 (x.h:Int),.int .i64 (x.mi:Int),.int .i64 (x.c:Int),.int .i64 (x.zh:Int),.int .i64 (x.zm:Int),.int .i64 (x.nanos:Int),.int .u8 B] 96):=⟨_,rfl⟩
    have f:Hid (Blk v o 96 #[.int .i64 (M:Int),.int .i64 (x.y:Int),.int .i64 (x.m:Int),.int .i64 (x.d:Int),.int .i64 (x.h:Int),.int .i64 (x.mi:Int),.int .i64 (x.c:Int),.int .i64 (x.zh:Int),.int .i64 (x.zm:Int),.int .i64 (x.nanos:Int),.int .u8 B]/\Below w.heap.size w v/\UT v):=hid (by
     have Y:Below w.heap.size w v:=by rw[k];exact g.alloc g.size _
     exact⟨by rw[k,<-p];exact Blk.new _ _ _,Y,UT.stays _ _ HT.out Y⟩)
    (try rw[<-k]);(try rw[p]);clear k p g;obtain⟨q0,q1,q2,q3,q4,q5,q6,q7,q8,q9,T⟩:=zag f.out.1;go_wp2_with fail;refine(D.out _).mono ?_;rintro e b ⟨rfl,j⟩;have a:Hid (Blk b o 96 #[.int .i64 (M:Int),.int .i64 (x.y:Int),.int .i64 (x.m:Int),.int .i64 (x.d:Int),.int .i64 (x.h:Int),.int .i64 (x.mi:Int),.int .i64 (x.c:Int),.int .i64 (x.zh:Int),.int .i64 (x.zm:Int),.int .i64 (x.nanos:Int),.int .u8 B]/\Below w.heap.size w b/\UT b):=hid ⟨f.out.1.below j f.out.1.lt,f.out.2.1.trans (j.mono f.out.2.1.size),UT.stays _ _ f.out.2.2 j⟩;clear j q0 q1 q2 q3 q4 q5 q6 q7 q8 q9 T;go_upto_region 6 with fail;have p0:∀W:WB b.heap.size b,W.w.cell? ⟨o,0,none⟩=some (.int .i64 (M:Int)):=fun W=>(a.out.1.below W.h a.out.1.lt).cell 0
    have p1:∀W:WB b.heap.size b,W.w.cell? ⟨o,1,none⟩=some (.int .i64 (x.y:Int)):=fun W=>(a.out.1.below W.h a.out.1.lt).cell 1
    have p2:∀W:WB b.heap.size b,W.w.cell? ⟨o,2,none⟩=some (.int .i64 (x.m:Int)):=fun W=>(a.out.1.below W.h a.out.1.lt).cell 2
    have p3:∀W:WB b.heap.size b,W.w.cell? ⟨o,3,none⟩=some (.int .i64 (x.d:Int)):=fun W=>(a.out.1.below W.h a.out.1.lt).cell 3
    have p4:∀W:WB b.heap.size b,W.w.cell? ⟨o,4,none⟩=some (.int .i64 (x.h:Int)):=fun W=>(a.out.1.below W.h a.out.1.lt).cell 4
    have p5:∀W:WB b.heap.size b,W.w.cell? ⟨o,5,none⟩=some (.int .i64 (x.mi:Int)):=fun W=>(a.out.1.below W.h a.out.1.lt).cell 5
    have p6:∀W:WB b.heap.size b,W.w.cell? ⟨o,6,none⟩=some (.int .i64 (x.c:Int)):=fun W=>(a.out.1.below W.h a.out.1.lt).cell 6
    have p7:∀W:WB b.heap.size b,W.w.cell? ⟨o,7,none⟩=some (.int .i64 (x.zh:Int)):=fun W=>(a.out.1.below W.h a.out.1.lt).cell 7
    have p8:∀W:WB b.heap.size b,W.w.cell? ⟨o,8,none⟩=some (.int .i64 (x.zm:Int)):=fun W=>(a.out.1.below W.h a.out.1.lt).cell 8
    have p9:∀W:WB b.heap.size b,W.w.cell? ⟨o,9,none⟩=some (.int .i64 (x.nanos:Int)):=fun W=>(a.out.1.below W.h a.out.1.lt).cell 9
    have ac:∀W:WB b.heap.size b,W.w.cell? ⟨o,10,none⟩=some (.int .u8 B):=fun W=>(a.out.1.below W.h a.out.1.lt).cell 10
    have ab:Hid (∀W:WB b.heap.size b,UT W.w):=hid (fun W=>UT.stays _ _ a.out.2.2 W.h);refine zac b.heap.size b (by kernel_rfl) (by kernel_rfl) (Below.refl _ _) ?_
    iterate 9 (try go_big_quiet_step ((first| (with_reducible refine Calls.grow ((P.out _).mono (fun _ _ ⟨e1,e2⟩=>⟨e1,(WB.h _).trans (e2.mono (WB.h _).size)⟩)))| (with_reducible refine Calls.grow ((H.out _ (ab.out _)).mono (fun _ _ ⟨e1,e2⟩=>⟨e1,(WB.h _).trans (e2.mono (WB.h _).size)⟩))))))
    refine wpQuiet_nil ?_;rintro _ ⟨wz,rfl⟩;clear p0 p1 p2 p3 p4 p5 p6 p7 p8 p9 ac;go_wp2;go_ret2;rw[L.out];refine⟨?_,a.out.2.1.trans (wz.h.mono a.out.2.1.size)⟩;show _=Ending.returned (.tuple #[.string ⟨R1.toArray⟩,.int .i64 (R2:Int)]);rw[aa.out];rfl
theorem zqm {x:Gr.Mo} (h:MoOk x) (hn:x.time=false->x.nanos=0) (zz:Int) (W:World) (hW:UT W):
 Calls prog 93 #[.agg #[.int .i64 ((moSh x:Nat):Int),.int .i64 (x.y:Int),.int .i64 (x.m:Int),.int .i64 (x.d:Int),.int .i64 (x.h:Int),.int .i64 (x.mi:Int),.int .i64 (x.c:Int),.int .i64 (x.zh:Int),.int .i64 (x.zm:Int),.int .i64 (x.nanos:Int),.int .u8 zz]] W fun e w'=>e=.returned (.string ⟨(locS x).toArray⟩)/\Below W.heap.size W w':=by
 have a:=h.y;have b:=h.m;have c:=h.d;have d:=h.h;have e:=h.mi;have f:=h.c;have g:=h.nanos;rcases h.sh with⟨j,i⟩|⟨j,i,_⟩|⟨j,i,_⟩
 .have:=zqd x.y x.m x.d x.h x.mi x.c x.nanos (x.zh:Int) (x.zm:Int) zz (by omega) (by omega) (by omega) (by omega) (by omega) (by omega) g W hW;unfold locS moSh;rw[j,i];simpa using this
 .have:=zwc x.y x.m x.d x.h x.mi x.c x.nanos (x.zh:Int) (x.zm:Int) zz (by omega) (by omega) (by omega) (by omega) (by omega) (by omega) g (hn i) W hW;unfold locS moSh;rw[j,i];simpa using this
 .have:=zwd x.y x.m x.d x.h x.mi x.c x.nanos (x.zh:Int) (x.zm:Int) zz (by omega) (by omega) (by omega) (by omega) (by omega) (by omega) g W hW;unfold locS moSh;rw[j,i];simpa using this
theorem zm0 (s:Gr.Str) (hl:s.length<=1073741823) (w:World) (hT:UT w):Calls prog 62 #[.string ⟨s.toArray⟩] w (zdd (locP s) w):=by
 have HT:=hid hT;clear hT;obtain⟨r,A⟩:=ex (locP s)
 have HR:=hid A;rw[A];clear A;have D:Hid (locP s=match Gr.rd s with|none=>([],3)|some x=>if x.z≠0 then([],3)else if okR x=false then([],13)else(locS x,0)):=hid rfl;cases hrd:Gr.rd s with
 |none=>
  have J:Hid (r=([],3)):=hid (by rw[<-HR.out,D.out,hrd]);have k:=hid (fun W=>ziw hl hrd W);clear hrd;go_enter func62,ntmps62;go_wp2_with fail;refine(k.out _).mono ?_;rintro e H ⟨b,K,y,m,d,h,mi,c,zh,zm,n,z,rfl⟩;have p:=hid b;clear b;go_wp2;go_ret2;rw[J.out];exact⟨rfl,p.out.alloc p.out.size _⟩
 |some x=>
  have v:=zqi hrd;have B:=mo_z hrd;have F:=hid (fun W=>zfg hl hrd W);have C:=zql v;have u:=hid (fun W=>zfe ((moSh x:Nat):Int) x.y x.m x.d x.h x.mi x.c x.zh x.zm (x.nanos:Int) ((x.z.toNat:Nat):Int) W);rw[C]at u;obtain⟨K,t⟩:=ex (moSh x)
  obtain⟨N,o⟩:∃N:Int,((x.z.toNat:Nat):Int)=N:=⟨_,rfl⟩
  have G:=hid (fun W hW=>zqm v B.2 N W hW);rw[t]at G;obtain⟨tx,M⟩:=ex (locS x)
  rw[M]at G;have aa:=hid M;have k:=F;have q:=u;rw[t,o]at k q;clear F u M;by_cases hz:x.z=0
  .obtain rfl:0=N:=by rw[<-o,hz];rfl
   have hz0b:((0:Int)==0)=true:=rfl;have hz0c:((0:Int) != 0)=false:=rfl;cases A:okR x with
   |false=>
    have J:Hid (r=([],13)):=hid (by rw[<-HR.out,D.out,hrd];simp only;rw[if_neg (by simp[hz]),if_pos A]);rw[A]at q;clear hrd v B C t o hz A;go_enter func62,ntmps62;go_wp2_with fail;refine(k.out _).mono ?_;rintro e H ⟨rfl,b⟩;go_upto_region 2 with fail;obtain⟨Q,i⟩:=ex H.heap.size
    obtain⟨l,g⟩:∃l,l=H.alloc (.cells #[.int .i64 (K:Int),.int .i64 (x.y:Int),.int .i64 (x.m:Int),.int .i64 (x.d:Int),.int .i64 (x.h:Int),.int .i64 (x.mi:Int),.int .i64 (x.c:Int),.int .i64 (x.zh:Int),.int .i64 (x.zm:Int),.int .i64 (x.nanos:Int),.int .u8 0] 96):=⟨_,rfl⟩
    have a:Hid (Blk l Q 96 #[.int .i64 (K:Int),.int .i64 (x.y:Int),.int .i64 (x.m:Int),.int .i64 (x.d:Int),.int .i64 (x.h:Int),.int .i64 (x.mi:Int),.int .i64 (x.c:Int),.int .i64 (x.zh:Int),.int .i64 (x.zm:Int),.int .i64 (x.nanos:Int),.int .u8 0]/\Below w.heap.size w l/\UT l):=hid (by
     have P:Below w.heap.size w l:=by rw[g];exact b.alloc b.size _
     exact⟨by rw[g,<-i];exact Blk.new _ _ _,P,UT.stays _ _ HT.out P⟩)
    (try rw[<-g]);(try rw[i]);clear g i b;obtain⟨R,T,q2,Y,q4,S,Z,X,U,V,E⟩:=zag a.out.1;go_wp2_with fail;refine(q.out _).mono ?_;rintro e L ⟨rfl,f⟩;have j:Hid (Blk L Q 96 #[.int .i64 (K:Int),.int .i64 (x.y:Int),.int .i64 (x.m:Int),.int .i64 (x.d:Int),.int .i64 (x.h:Int),.int .i64 (x.mi:Int),.int .i64 (x.c:Int),.int .i64 (x.zh:Int),.int .i64 (x.zm:Int),.int .i64 (x.nanos:Int),.int .u8 0]/\Below w.heap.size w L/\UT L):=hid ⟨a.out.1.below f a.out.1.lt,a.out.2.1.trans (f.mono a.out.2.1.size),UT.stays _ _ a.out.2.2 f⟩;clear f R T q2 Y q4 S Z X U V E;go_wp2;go_ret2;rw[J.out];exact⟨rfl,j.out.2.1⟩
   |true=>
    have J:Hid (r=(tx,0)):=hid (by rw[<-HR.out,D.out,hrd];simp only;rw[if_neg (by simp[hz]),if_neg (by rw[A];decide),aa.out]);rw[A]at q;clear hrd v B C t o hz A;go_enter func62,ntmps62;go_wp2_with fail;refine(k.out _).mono ?_;rintro e H ⟨rfl,b⟩;go_upto_region 2 with fail;obtain⟨Q,i⟩:=ex H.heap.size
    obtain⟨l,g⟩:∃l,l=H.alloc (.cells #[.int .i64 (K:Int),.int .i64 (x.y:Int),.int .i64 (x.m:Int),.int .i64 (x.d:Int),.int .i64 (x.h:Int),.int .i64 (x.mi:Int),.int .i64 (x.c:Int),.int .i64 (x.zh:Int),.int .i64 (x.zm:Int),.int .i64 (x.nanos:Int),.int .u8 0] 96):=⟨_,rfl⟩
    have a:Hid (Blk l Q 96 #[.int .i64 (K:Int),.int .i64 (x.y:Int),.int .i64 (x.m:Int),.int .i64 (x.d:Int),.int .i64 (x.h:Int),.int .i64 (x.mi:Int),.int .i64 (x.c:Int),.int .i64 (x.zh:Int),.int .i64 (x.zm:Int),.int .i64 (x.nanos:Int),.int .u8 0]/\Below w.heap.size w l/\UT l):=hid (by
     have P:Below w.heap.size w l:=by rw[g];exact b.alloc b.size _
     exact⟨by rw[g,<-i];exact Blk.new _ _ _,P,UT.stays _ _ HT.out P⟩)
    (try rw[<-g]);(try rw[i]);clear g i b;obtain⟨R,T,q2,Y,q4,S,Z,X,U,V,E⟩:=zag a.out.1;go_wp2_with fail;refine(q.out _).mono ?_;rintro e L ⟨rfl,f⟩;have j:Hid (Blk L Q 96 #[.int .i64 (K:Int),.int .i64 (x.y:Int),.int .i64 (x.m:Int),.int .i64 (x.d:Int),.int .i64 (x.h:Int),.int .i64 (x.mi:Int),.int .i64 (x.c:Int),.int .i64 (x.zh:Int),.int .i64 (x.zm:Int),.int .i64 (x.nanos:Int),.int .u8 0]/\Below w.heap.size w L/\UT L):=hid ⟨a.out.1.below f a.out.1.lt,a.out.2.1.trans (f.mono a.out.2.1.size),UT.stays _ _ a.out.2.2 f⟩;clear f R T q2 Y q4 S Z X U V E;go_upto_region 6 with fail;obtain⟨R,T,q2,Y,q4,S,Z,X,U,V,E⟩:=zag j.out.1;go_wp2_with fail;refine(G.out _ j.out.2.2).mono ?_;rintro e w4 ⟨rfl,O⟩;have ab:Hid (Below w.heap.size w w4):=hid (j.out.2.1.trans (O.mono j.out.2.1.size));clear O;go_wp2;go_ret2;rw[J.out];exact⟨rfl,ab.out⟩
  .have J:Hid (r=([],3)):=hid (by rw[<-HR.out,D.out,hrd];simp only;rw[if_pos hz]);have I:=u8_z hz;rw[o]at I;have hznb:(N==0)=false:=by simpa using I
   have hznc:(N != 0)=true:=by simpa using I
   clear hrd v B C t o hz;go_enter func62,ntmps62;go_wp2_with fail;refine(k.out _).mono ?_;rintro e H ⟨rfl,b⟩;have p:=hid b;clear b;go_wp2;go_ret2;rw[J.out];exact⟨rfl,p.out.alloc p.out.size _⟩
end Go.Proofs.YtpgmfihonmoliaaGreatDoor
