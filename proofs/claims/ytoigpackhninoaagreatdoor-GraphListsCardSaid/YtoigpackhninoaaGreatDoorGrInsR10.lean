import Derived.Test.YtoigpackhninoaaGreatDoorZ15
namespace Go.Proofs.YtoigpackhninoaaGreatDoor
open _root_.Go.Proofs.Tryz
open _root_.Go.Lib (hid)
set_option maxRecDepth 100000
set_option maxHeartbeats 16000000
open Go.RowKit
def OfPost (Z nanos:Int) (w:World) (e:Ending) (w':World):Prop:=∃y m d:Int,Cal.vld y m d=true/\Cal.num y m d=Z /86400-719528/\e=.returned (.agg #[.bool true,.bool true,.bool true,.int .i64 y,.int .i64 m,.int .i64 d,.int .i64 (Z%86400 /3600),.int .i64 (Z%86400 /60%60),.int .i64 (Z%86400%60),.int .i64 nanos,.int .i64 0,.bool false])/\Below w.heap.size w w'
theorem zv0 (S Z nanos:Int) (hz:S- -62167219200=Z) (h0:0<=Z) (h1:Z<=315569519999) (w:World):
 Calls prog 133 #[.int .i64 S,.int .i64 nanos] w (OfPost Z nanos w):=by
 have hS0:-62167219200<=S:=by omega
 have hS1:S<=253402300799:=by omega
 obtain⟨N,hN⟩:=ex (Z /86400)
 obtain⟨R,hR⟩:=ex (Z%86400)
 have X:0<=N:=by omega
 have hN1:N<=3652424:=by omega
 have hR0:0<=R:=by omega
 have hR1:R<=86399:=by omega
 have P:Hid (Z /86400=N/\Z%86400=R):=hid ⟨hN,hR⟩;have HD:Hid (∀y:Int,0<=y->y<=10000->∀W,Calls prog 162 #[.int .i64 y,.int .i64 1,.int .i64 1] W fun e h=>e=.returned (.int .i64 (Cal.fst y-719528))/\W=h):=hid (fun y a b W=>by
  have:=zh2 y 1 1 a (by omega) (by omega) (by omega) (by omega) (by omega) W;rwa[show Cal.num y 1 1=Cal.fst y-719528 from by unfold Cal.num;rw[Cal.zyb];omega]at this)
 go_enter func133,ntmps133;go_upto_region 5 with fail;obtain⟨c,s⟩:=ex w.heap.size
 obtain⟨D,B⟩:∃D,D=(w.alloc (.cells #[.bool false,.bool false,.bool false,.int .i64 0,.int .i64 0,.int .i64 0,.int .i64 0,.int .i64 0,.int .i64 0,.int .i64 0,.int .i64 0,.bool false] 111)).alloc (.cells #[.bool true,.bool true,.bool true,.int .i64 0,.int .i64 0,.int .i64 0,.int .i64 (R /3600),.int .i64 (R /60%60),.int .i64 (R%60),.int .i64 nanos,.int .i64 0,.bool false] 111):=⟨_,rfl⟩
 have k:Hid (Blk D (c+1) 111 (T12 true true true 0 0 0 (R /3600) (R /60%60) (R%60) nanos 0 false)/\Blk D c 111 (T12 false false false 0 0 0 0 0 0 0 0 false)/\Below c w D):=hid (by
  rw[B,<-s];refine⟨?_,(Blk.new _ _ _).alloc _,zbs _ _⟩;have:=Blk.new (w.alloc (.cells #[.bool false,.bool false,.bool false,.int .i64 0,.int .i64 0,.int .i64 0,.int .i64 0,.int .i64 0,.int .i64 0,.int .i64 0,.int .i64 0,.bool false] 111)) 111 (T12 true true true 0 0 0 (R /3600) (R /60%60) (R%60) nanos 0 false);rwa[World.size_alloc]at this)
 have am:=hid s;(try rw[<-B]);(try rw[s]);rw[hN,hR];clear B s hN hR hz h0 h1;have F:D.cell? ⟨c+1,3,none⟩=some (.int .i64 0):=k.out.1.cell 3;have L:∀j,D.frozen? ⟨c+1,j,none⟩=false:=k.out.1.frozen;have ak:=hid (Cal.zxg N X);go_wp2_with fail;clear F L;go_loopw [35] (fun _ wr=>∃y:Int,0<=y/\y<=9999/\Hid (Cal.fst y<=N/\Blk wr (c+1) 111 (T12 true true true y 0 0 (R /3600) (R /60%60) (R%60) nanos 0 false)/\Blk wr c 111 (T12 false false false 0 0 0 0 0 0 0 0 false)/\Below c w wr)) (fun _ wr=>match wr.cell? ⟨c+1,3,none⟩with|some (.int _ n)=>10000-n.toNat|_=>0)
 case atStart=>exact⟨N /366,by omega,by omega,hid ⟨ak.out,k.out.1.set_ 3 _,k.out.2.1.far (Nat.succ_ne_self c).symm _,k.out.2.2.setCell (p:=⟨c+1,3,none⟩) (by simp) _⟩⟩
 case round=>
  obtain⟨t,ah⟩:∃t,t=wr:=⟨_,rfl⟩
  subst ah;obtain⟨y,O,ai,o⟩:=hrel;have J:=Cal.zko y O;have hl:=Cal.zxe y;have bd:=Cal.zxf y (by omega) (by omega);have an:=Cal.zxf (y+1) (by omega) (by omega);have I:Hid (Cal.fst (y+1)=Cal.fst y+365+Cal.lp y/\0<=Cal.lp y/\Cal.lp y<=1):=hid ⟨J,hl⟩;obtain⟨G,u⟩:=ex (Cal.fst (y+1))
  obtain⟨x,r⟩:=ex (Cal.fst y)
  have f:Hid (Cal.fst (y+1)=G/\Cal.fst y=x):=hid ⟨u,r⟩;have M:Hid (∀W,Calls prog 162 #[.int .i64 (y+1),.int .i64 1,.int .i64 1] W fun e h=>e=.returned (.int .i64 (G-719528))/\W=h):=hid (fun W=>by rw[<-u];exact HD.out (y+1) (by omega) (by omega) W);have ae:Hid (∀W,Calls prog 162 #[.int .i64 y,.int .i64 1,.int .i64 1] W fun e h=>e=.returned (.int .i64 (x-719528))/\W=h):=hid (fun W=>by rw[<-r];exact HD.out y (by omega) (by omega) W);rw[u]at an;rw[r]at bd;clear J hl u r;have F:t.cell? ⟨c+1,3,none⟩=some (.int .i64 y):=o.out.2.1.cell 3;have T:t.cell? ⟨c+1,4,none⟩=some (.int .i64 0):=o.out.2.1.cell 4;have L:∀j,t.frozen? ⟨c+1,j,none⟩=false:=o.out.2.1.frozen;have hNf:x<=N:=by have:=o.out.1;rw[f.out.2]at this;exact this
  by_cases hc:G<=N
  ·have aj:G-719528<=N-719528:=by omega
   have hy4:y<9999:=by
    have:=Cal.zot;by_cases e:y=9999
    ·subst e;have h2:=f.out.1;rw[show(9999:Int)+1=10000 from rfl]at h2;omega
    ·omega
   have l:Hid (Cal.fst (y+1)<=N/\Blk (t.setCell ⟨c+1,3,none⟩ (.int .i64 (y+1))) (c+1) 111 (T12 true true true (y+1) 0 0 (R /3600) (R /60%60) (R%60) nanos 0 false)/\Blk (t.setCell ⟨c+1,3,none⟩ (.int .i64 (y+1))) c 111 (T12 false false false 0 0 0 0 0 0 0 0 false)/\Below c w (t.setCell ⟨c+1,3,none⟩ (.int .i64 (y+1)))):=hid ⟨by rw[f.out.1];exact hc,o.out.2.1.set_ 3 _,o.out.2.2.1.far (Nat.succ_ne_self c).symm _,o.out.2.2.2.setCell (p:=⟨c+1,3,none⟩) (by simp) _⟩;go_wp2_with fail;refine(M.out _).mono ?_;rintro e h ⟨rfl,rfl⟩;go_wp2_with fail;have ac:(t.setCell ⟨c+1,3,none⟩ (.int .i64 (y+1))).cell? ⟨c+1,3,none⟩=some (.int .i64 (y+1)):=l.out.2.1.cell 3;go_roundw
   case rel=>exact⟨y+1,by omega,by omega,l⟩
   case measure=>rw[ac,F];simp only;omega
  ·have aj:¬G-719528<=N-719528:=by omega
   have hN2:N<x+366:=by have h1:=I.out;rw[f.out.1,f.out.2]at h1;omega
   have V:Hid (N<x+365+Cal.lp y):=hid (by have h1:=I.out;rw[f.out.1,f.out.2]at h1;omega);go_wp2_with fail;refine(M.out _).mono ?_;rintro e h ⟨rfl,rfl⟩;go_wp2_with fail;refine(ae.out _).mono ?_;rintro e h ⟨rfl,rfl⟩;go_wp2_with fail;clear F T L;go_loopw [6] (fun s6 wr=>∃m v:Int,1<=m/\m<=12/\0<=v/\v<=366/\s6=.int .i64 v/\Hid (v=N-x-Cal.cum y m/\Blk wr (c+1) 111 (T12 true true true y m 0 (R /3600) (R /60%60) (R%60) nanos 0 false)/\Blk wr c 111 (T12 false false false 0 0 0 0 0 0 0 0 false)/\Below c w wr)) (fun s6 wr=>match wr.cell? ⟨c+1,4,none⟩with|some (.int _ n)=>13-n.toNat|_=>0)
   case atStart=>exact⟨1,N-x,by omega,by omega,by omega,by omega,by exact congrArg (Value.int .i64) (by omega),hid ⟨by rw[Cal.zyb];omega,o.out.2.1.set_ 4 _,o.out.2.2.1.far (Nat.succ_ne_self c).symm _,o.out.2.2.2.setCell (p:=⟨c+1,4,none⟩) (by simp) _⟩⟩
   case round=>
    obtain⟨g,ad⟩:∃g,g=wr:=⟨_,rfl⟩
    subst ad;obtain⟨m,v,A,z,hv0,hv1,rfl,d⟩:=hrel;have E:=Cal.zgr y m A z;have ab:=Cal.zxh y m;obtain⟨q,Q⟩:=ex (Cal.dim y m)
    have C:Hid (∀W,Calls prog 138 #[.int .i64 y,.int .i64 m] W fun e h=>e=.returned (.int .i64 q)/\W=h):=hid (fun W=>by rw[<-Q];exact zdy y m A z W);rw[Q]at E ab;have H:=hid E;have HQ:=hid Q;clear E Q;have F:g.cell? ⟨c+1,3,none⟩=some (.int .i64 y):=d.out.2.1.cell 3;have T:g.cell? ⟨c+1,4,none⟩=some (.int .i64 m):=d.out.2.1.cell 4;have L:∀j,g.frozen? ⟨c+1,j,none⟩=false:=d.out.2.1.frozen;by_cases hd:q<=v
    ·have hm4:m<12:=by
      by_cases e:m=12
      ·subst e;have h1:=H.out;have h2:=V.out;have h3:=Cal.zxk y;have h4:=d.out.1;rw[show(12:Int)+1=13 from rfl]at h1;omega
      ·omega
     have l:Hid (v-q=N-x-Cal.cum y (m+1)/\Blk (g.setCell ⟨c+1,4,none⟩ (.int .i64 (m+1))) (c+1) 111 (T12 true true true y (m+1) 0 (R /3600) (R /60%60) (R%60) nanos 0 false)/\Blk (g.setCell ⟨c+1,4,none⟩ (.int .i64 (m+1))) c 111 (T12 false false false 0 0 0 0 0 0 0 0 false)/\Below c w (g.setCell ⟨c+1,4,none⟩ (.int .i64 (m+1)))):=hid ⟨by rw[H.out];have:=d.out.1;omega,d.out.2.1.set_ 4 _,d.out.2.2.1.far (Nat.succ_ne_self c).symm _,d.out.2.2.2.setCell (p:=⟨c+1,4,none⟩) (by simp) _⟩;go_wp2_with fail;refine(C.out _).mono ?_;rintro e h ⟨rfl,rfl⟩;go_wp2_with fail;refine(C.out _).mono ?_;rintro e h ⟨rfl,rfl⟩;go_wp2_with fail;have al:(g.setCell ⟨c+1,4,none⟩ (.int .i64 (m+1))).cell? ⟨c+1,4,none⟩=some (.int .i64 (m+1)):=l.out.2.1.cell 4;go_roundw
     case rel=>exact⟨m+1,v-q,by omega,by omega,by omega,by omega,rfl,l⟩
     case measure=>rw[al,T];simp only;omega
    ·have i:Hid (Blk (g.setCell ⟨c+1,5,none⟩ (.int .i64 (v+1))) (c+1) 111 (T12 true true true y m (v+1) (R /3600) (R /60%60) (R%60) nanos 0 false)/\Blk (g.setCell ⟨c+1,5,none⟩ (.int .i64 (v+1))) c 111 (T12 false false false 0 0 0 0 0 0 0 0 false)/\Below c w (g.setCell ⟨c+1,5,none⟩ (.int .i64 (v+1)))):=hid ⟨d.out.2.1.set_ 5 _,d.out.2.2.1.far (Nat.succ_ne_self c).symm _,d.out.2.2.2.setCell (p:=⟨c+1,5,none⟩) (by simp) _⟩;have q5:g.cell? ⟨c+1,5,none⟩=some (.int .i64 0):=d.out.2.1.cell 5;go_wp2_with fail;refine(C.out _).mono ?_;rintro e h ⟨rfl,rfl⟩;go_upto_region 14 with fail;obtain⟨U,K⟩:=ex (g.setCell ⟨c+1,5,none⟩ (.int .i64 (v+1)))
     rw[K]at i ⊢;clear K F T q5 L;obtain⟨a0,a1,a2,a3,a4,a5,a6,a7,a8,a9,a10,a11⟩:=zag i.out.1;have xb:∀j,U.cell? ⟨c,j,none⟩=(#[.bool false,.bool false,.bool false,.int .i64 0,.int .i64 0,.int .i64 0,.int .i64 0,.int .i64 0,.int .i64 0,.int .i64 0,.int .i64 0,.bool false]:Array Value)[j]? :=fun j=>i.out.2.1.cell j
     have xf:∀j,U.frozen? ⟨c,j,none⟩=false:=i.out.2.1.frozen;go_wp2_with fail;have ag:Blk ((((((((((((U.setCell ⟨c,0,none⟩ (.bool true)).setCell ⟨c,1,none⟩ (.bool true)).setCell ⟨c,2,none⟩ (.bool true)).setCell ⟨c,3,none⟩ (.int .i64 y)).setCell ⟨c,4,none⟩ (.int .i64 m)).setCell ⟨c,5,none⟩ (.int .i64 (v+1))).setCell ⟨c,6,none⟩ (.int .i64 (R /3600))).setCell ⟨c,7,none⟩ (.int .i64 (R /60%60))).setCell ⟨c,8,none⟩ (.int .i64 (R%60))).setCell ⟨c,9,none⟩ (.int .i64 nanos)).setCell ⟨c,10,none⟩ (.int .i64 0)).setCell ⟨c,11,none⟩ (.bool false)) c 111 (T12 true true true y m (v+1) (R /3600) (R /60%60) (R%60) nanos 0 false):=za9 i.out.2.1;have Y:Below c w ((((((((((((U.setCell ⟨c,0,none⟩ (.bool true)).setCell ⟨c,1,none⟩ (.bool true)).setCell ⟨c,2,none⟩ (.bool true)).setCell ⟨c,3,none⟩ (.int .i64 y)).setCell ⟨c,4,none⟩ (.int .i64 m)).setCell ⟨c,5,none⟩ (.int .i64 (v+1))).setCell ⟨c,6,none⟩ (.int .i64 (R /3600))).setCell ⟨c,7,none⟩ (.int .i64 (R /60%60))).setCell ⟨c,8,none⟩ (.int .i64 (R%60))).setCell ⟨c,9,none⟩ (.int .i64 nanos)).setCell ⟨c,10,none⟩ (.int .i64 0)).setCell ⟨c,11,none⟩ (.bool false)):=zb8 i.out.2.2 (Nat.le_refl c);obtain⟨e0,e1,e2,e3,e4,e5,e6,e7,e8,e9,aa,af⟩:=zag ag;refine bodyPost_ret (v:=.agg #[.bool true,.bool true,.bool true,.int .i64 y,.int .i64 m,.int .i64 (v+1),.int .i64 (R /3600),.int .i64 (R /60%60),.int .i64 (R%60),.int .i64 nanos,.int .i64 0,.bool false]) (by simp[results,results133,go_sem,e0,e1,e2,e3,e4,e5,e6,e7,e8,e9,aa,af]) rfl ?_;unfold OfPost;rw[P.out.1,P.out.2,am.out];exact⟨y,m,v+1,Cal.zyt ⟨O,ai,A,z,by omega,by rw[HQ.out];omega⟩,by unfold Cal.num;rw[f.out.2];have:=d.out.1;omega,rfl,Y⟩
end Go.Proofs.YtoigpackhninoaaGreatDoor
