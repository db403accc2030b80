import Derived.Test.YtoigpackhninoaaGreatDoorZ05
namespace Go.Proofs.YtoigpackhninoaaGreatDoor
open _root_.Go.Proofs.Tryz
set_option maxRecDepth 100000
set_option maxHeartbeats 16000000
open Go.RowKit
theorem zpd (y:Int) (w:World):
 Calls prog 183 #[.int .i64 y] w fun e w'=>e=.returned (.bool (Cal.leapB y))/\w=w':=by
 go_enter func183,ntmps183;go_wp2
 all_goals go_ret
 all_goals exact⟨zn5 (by simp[Cal.leapB, *]),rfl⟩
theorem zbd (y m:Int) (h1:1<=m) (h2:m<=12) (w:World):
 Calls prog 158 #[.int .i64 y,.int .i64 m] w fun e w'=>e=.returned (.int .i64 (Cal.dim y m))/\Below w.heap.size w w':=by
 have hc:m=1\/m=2\/m=3\/m=4\/m=5\/m=6\/m=7\/m=8\/m=9\/m=10\/m=11\/m=12:=by omega
 rcases hc with rfl|rfl|rfl|rfl|rfl|rfl|rfl|rfl|rfl|rfl|rfl|rfl
 all_goals
  go_enter func158,ntmps158;go_wp2_with (go_at_call 183;refine(zpd _ _).mono ?_;rintro e w' ⟨rfl,rfl⟩)
  all_goals go_ret
  all_goals exact⟨zk2 (by simp[Cal.dim,Cal.lp, *]),(Below.refl _ _).alloc (Nat.le_refl _) _⟩
theorem zef (y:Int) (h0:0<=y) (h1:y<=20000) (w:World):
 Calls prog 159 #[.int .i64 y] w fun e w'=>e=.returned (.int .i64 (Cal.fst y))/\w=w':=by
 go_enter func159,ntmps159;go_wp2;go_ret;exact⟨zk2 (by unfold Cal.fst;omega),rfl⟩
theorem zpe {k k':IntKind} {a b a' b':Int} (h:a=b) (h':a'=b'):Ending.returned (.tuple #[.int k a,.int k' a'])=.returned (.tuple #[.int k b,.int k' b']):=by rw[h,h']
theorem zr0 (y m d:Int) (hv:Cal.vld y m d=false) (w:World):
 Calls prog 126 #[.int .i64 y,.int .i64 m,.int .i64 d] w fun e w'=>e=.returned (.tuple #[.int .i64 0,.int .i64 13])/\Below w.heap.size w w':=by
 have hc:y<0\/(0<=y/\9999<y)\/(0<=y/\y<=9999/\m<1)\/(0<=y/\y<=9999/\1<=m/\12<m)\/(0<=y/\y<=9999/\1<=m/\m<=12/\d<1)\/(0<=y/\y<=9999/\1<=m/\m<=12/\1<=d/\Cal.dim y m<d):=by
  simp[Cal.vld]at hv;omega
 clear hv;rcases hc with h|⟨h1,h2⟩|⟨h1,h2,h3⟩|⟨h1,h2,h3,h4⟩|⟨h1,h2,h3,h4,h5⟩|⟨h1,h2,h3,h4,h5,h6⟩
 all_goals
  go_enter func126,ntmps126;go_wp2_with (go_at_call 158;refine(zbd _ _ (by omega) (by omega) _).mono ?_;rintro e w' ⟨rfl,hb⟩);go_ret2;refine⟨rfl,?_⟩
  first|exact Below.refl _ _|exact hb
theorem zi9 (y m d:Int) (hv:Cal.vld y m d=true) (w:World):
 Calls prog 126 #[.int .i64 y,.int .i64 m,.int .i64 d] w fun e w'=>e=.returned (.tuple #[.int .i64 (Cal.num y m d),.int .i64 0])/\Below w.heap.size w w':=by
 have hc:=Cal.zmc hv;have hd:=Cal.ztc y m;have hf:=Cal.zta y (by omega) (by omega);clear hv;obtain⟨h1,h2,h3,h4,h5,h6⟩:=hc;go_enter func126,ntmps126;go_wp2_with (first| (go_at_call 158;refine(zbd _ _ (by omega) (by omega) _).mono ?_;rintro e w1 ⟨rfl,hb1⟩)| (go_at_call 159;refine(zef _ (by omega) (by omega) _).mono ?_;rintro e w' ⟨rfl,rfl⟩));go_loopw [8,9] (fun n i wr=>∃k:Int,1<=k/\k<=m/\i=.int .i64 k/\n=.int .i64 (Cal.fst y+d-1-719528+Cal.cum y k)/\Below w.heap.size w wr) (fun _ i _=>(13-intOf i).toNat)
 case atStart=>exact⟨1,by omega,by omega,rfl,by simp[Cal.zt1],hb1⟩
 case round=>
  obtain⟨k,hk1,hk2,rfl,rfl,hb⟩:=hrel;have hz:=hb.size;by_cases hlt:k<m
  ·have cb:=Cal.zte y k;have db:=Cal.ztc y k;have cs:=Cal.zfu y k (by omega) (by omega);have CS:=Lib.hid cs;clear cs;go_wp2_with (go_at_call 158;refine(zbd _ _ (by omega) (by omega) _).mono ?_;rintro e w2 ⟨rfl,hb2⟩);go_roundw
   case rel=>exact⟨k+1,by omega,by omega,rfl,by rw[CS.out];exact congrArg (Value.int .i64) (by omega),zb8 hb hz hb2⟩
   case measure=>simp[intOf];omega
  ·obtain rfl:k=m:=by omega
   go_wp2;go_ret2;exact⟨zpe (by unfold Cal.num;omega) rfl,hb⟩
def DateIs (n:Int) (B:Nat) (w:World) (e:Ending) (w':World):Prop:=
 ∃y m d:Int,e=.returned (.tuple #[.int .i64 y,.int .i64 m,.int .i64 d,.int .i64 0])/\Cal.vld y m d=true/\Cal.num y m d=n/\Below B w w'
theorem zpf (n:Int) (h1:-719528<=n) (h2:n<=2932896) (w:World):
 Calls prog 127 #[.int .i64 n] w (DateIs n w.heap.size w):=by
 have g0:=Cal.ztb (n+719528) (by omega);go_enter func127,ntmps127;go_wp2;go_loop [7] (fun t=>∃y:Int,0<=y/\y<=9999/\Cal.fst y<=n+719528/\t=.int .i64 y) (fun t=>(9999-intOf t).toNat)
 case atStart=>exact⟨_,by omega,by omega,g0,rfl⟩
 case round=>
  obtain⟨y,hy1,hy2,hy3,rfl⟩:=hrel;have hs:=Cal.ziw y hy1;have HS:=Lib.hid hs;clear hs g0;have hl:=Cal.zs9 y;have bd:=Cal.zta y (by omega) (by omega);have bd':=Cal.zta (y+1) (by omega) (by omega);by_cases hc:Cal.fst (y+1)<=n+719528
  ·have hy4:y<9999:=by
    have:=Cal.zmb;by_cases e:y=9999
    ·subst e;rw[show(9999:Int)+1=10000 from rfl]at hc;omega
    ·omega
   go_wp2_with (go_at_call 159;refine(zef _ (by omega) (by omega) _).mono ?_;rintro e w' ⟨rfl,rfl⟩);go_round
   case rel=>exact⟨y+1,by omega,by omega,hc,rfl⟩
   case measure=>simp[intOf];omega
  ·go_wp2_with (go_at_call 159;refine(zef _ (by omega) (by omega) _).mono ?_;rintro e w' ⟨rfl,rfl⟩);go_loopw [6,8] (fun r k wr=>∃m:Int,1<=m/\m<=12/\k=.int .i64 m/\0<=n+719528-Cal.fst y-Cal.cum y m/\r=.int .i64 (n+719528-Cal.fst y-Cal.cum y m)/\Below w.heap.size w wr) (fun _ k _=>(12-intOf k).toNat)
   case atStart=>exact⟨1,by omega,by omega,rfl,by simp[Cal.zt1];omega,by simp[Cal.zt1],Below.refl _ _⟩
   case round=>
    obtain⟨m,hm1,hm2,rfl,hr,rfl,hb⟩:=hrel;have hz:=hb.size;have cb:=Cal.zte y m;have db:=Cal.ztc y m;have cs:=Cal.zfu y m hm1 hm2;have CS:=Lib.hid cs;clear cs;by_cases hd:Cal.dim y m<=n+719528-Cal.fst y-Cal.cum y m
    ·have hm4:m<12:=by
      by_cases e:m=12
      ·subst e;have h1:=CS.out;have h2:=HS.out;have h3:=Cal.ztf y;rw[show(12:Int)+1=13 from rfl]at h1;omega
      ·omega
     go_wp2_with fail;refine(zbd _ _ (by omega) (by omega) _).mono ?_;rintro e w2 ⟨rfl,hb2⟩;have hz2:=hb2.size;go_wp2_with fail;refine(zbd _ _ (by omega) (by omega) _).mono ?_;rintro e w3 ⟨rfl,hb3⟩;go_wp2;go_roundw
     case rel=>exact⟨m+1,by omega,by omega,rfl,by rw[CS.out];omega,by rw[CS.out];exact congrArg (Value.int .i64) (by omega),zb8 (zb8 hb hz hb2) (by omega) hb3⟩
     case measure=>simp[intOf];omega
    ·go_wp2_with fail;refine(zbd _ _ (by omega) (by omega) _).mono ?_;rintro e w2 ⟨rfl,hb2⟩;go_wp2_with fail;go_returns;refine⟨y,m,n+719528-Cal.fst y-Cal.cum y m+1,rfl,Cal.zue (by omega),by unfold Cal.num;omega,zb8 hb hz hb2⟩
end Go.Proofs.YtoigpackhninoaaGreatDoor
