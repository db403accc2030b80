import Derived.Test.YtpgmfihonmoliaaGreatDoorZ05
namespace Go.Proofs.YtpgmfihonmoliaaGreatDoor
open _root_.Go.Proofs.Tryz
set_option maxRecDepth 100000
set_option maxHeartbeats 16000000
open Go.RowKit
theorem ztc (y:Int) (w:World):
 Calls prog 151 #[.int .i64 y] w fun e w'=>e=.returned (.bool (Cal.leapB y))/\w=w':=by
 go_enter func151,ntmps151;go_wp2
 all_goals go_ret
 all_goals exact⟨zr3 (by simp[Cal.leapB, *]),rfl⟩
theorem zbp (y m:Int) (_h1:1<=m) (_h2:m<=12) (w:World):
 Calls prog 120 #[.int .i64 y,.int .i64 m] w fun e w'=>e=.returned (.int .i64 (Cal.dim y m))/\Below w.heap.size w w':=by
 have a:m=1\/m=2\/m=3\/m=4\/m=5\/m=6\/m=7\/m=8\/m=9\/m=10\/m=11\/m=12:=by omega
 rcases a with rfl|rfl|rfl|rfl|rfl|rfl|rfl|rfl|rfl|rfl|rfl|rfl
 all_goals
  go_enter func120,ntmps120;go_wp2_with (go_at_call 151;refine(ztc _ _).mono ?_;rintro e w' ⟨rfl,rfl⟩)
  all_goals go_ret
  all_goals exact⟨zn0 (by simp[Cal.dim,Cal.lp, *]),(Below.refl _ _).alloc (Nat.le_refl _) _⟩
theorem zfd (y:Int) (h0:0<=y) (h1:y<=20000) (w:World):
 Calls prog 121 #[.int .i64 y] w fun e w'=>e=.returned (.int .i64 (Cal.fst y))/\w=w':=by
 go_enter func121,ntmps121;go_wp2;go_ret;exact⟨zn0 (by unfold Cal.fst;omega),rfl⟩
theorem ztd {k k':IntKind} {a b a' b':Int} (h:a=b) (h':a'=b'):Ending.returned (.tuple #[.int k a,.int k' a'])=.returned (.tuple #[.int k b,.int k' b']):=by rw[h,h']
theorem zwb (y m d:Int) (hv:Cal.vld y m d=false) (w:World):
 Calls prog 91 #[.int .i64 y,.int .i64 m,.int .i64 d] w fun e w'=>e=.returned (.tuple #[.int .i64 0,.int .i64 13])/\Below w.heap.size w w':=by
 have a:y<0\/(0<=y/\9999<y)\/(0<=y/\y<=9999/\m<1)\/(0<=y/\y<=9999/\1<=m/\12<m)\/(0<=y/\y<=9999/\1<=m/\m<=12/\d<1)\/(0<=y/\y<=9999/\1<=m/\m<=12/\1<=d/\Cal.dim y m<d):=by
  simp[Cal.vld]at hv;omega
 clear hv;rcases a with h|⟨h1,h2⟩|⟨h1,h2,h3⟩|⟨h1,h2,h3,h4⟩|⟨h1,h2,h3,h4,h5⟩|⟨h1,h2,h3,h4,h5,h6⟩
 all_goals
  go_enter func91,ntmps91;go_wp2_with (go_at_call 120;refine(zbp _ _ (by omega) (by omega) _).mono ?_;rintro e w' ⟨rfl,b⟩);go_ret2;refine⟨rfl,?_⟩
  first|exact Below.refl _ _|exact b
theorem zlc (y m d:Int) (hv:Cal.vld y m d=true) (w:World):
 Calls prog 91 #[.int .i64 y,.int .i64 m,.int .i64 d] w fun e w'=>e=.returned (.tuple #[.int .i64 (Cal.num y m d),.int .i64 0])/\Below w.heap.size w w':=by
 have h:=Cal.zpm hv;have hd:=Cal.zxy y m;have hf:=Cal.zxw y (by omega) (by omega);clear hv;obtain⟨h1,h2,h3,h4,h5,h6⟩:=h;go_enter func91,ntmps91;go_wp2_with (first| (go_at_call 120;refine(zbp _ _ (by omega) (by omega) _).mono ?_;rintro e w1 ⟨rfl,b⟩)| (go_at_call 121;refine(zfd _ (by omega) (by omega) _).mono ?_;rintro e w' ⟨rfl,rfl⟩));go_loopw [8,9] (fun n i wr=>∃k:Int,1<=k/\k<=m/\i=.int .i64 k/\n=.int .i64 (Cal.fst y+d-1-719528+Cal.cum y k)/\Below w.heap.size w wr) (fun _ i _=>(13-intOf i).toNat)
 case atStart=>exact⟨1,by omega,by omega,rfl,by simp[Cal.zyv],b⟩
 case round=>
  obtain⟨k,hk1,hk2,rfl,rfl,c⟩:=hrel;have j:=c.size;by_cases hlt:k<m
  .have cb:=Cal.zx0 y k;have db:=Cal.zxy y k;have f:=Cal.zg3 y k (by omega) (by omega);have g:=Lib.hid f;clear f;go_wp2_with (go_at_call 120;refine(zbp _ _ (by omega) (by omega) _).mono ?_;rintro e w2 ⟨rfl,a⟩);go_roundw
   case rel=>exact⟨k+1,by omega,by omega,rfl,by rw[g.out];exact congrArg (Value.int .i64) (by omega),zcs c j a⟩
   case measure=>simp[intOf];omega
  .obtain rfl:k=m:=by omega
   go_wp2;go_ret2;exact⟨ztd (by unfold Cal.num;omega) rfl,c⟩
def DateIs (n:Int) (B:Nat) (w:World) (e:Ending) (w':World):Prop:=
 ∃y m d:Int,e=.returned (.tuple #[.int .i64 y,.int .i64 m,.int .i64 d,.int .i64 0])/\Cal.vld y m d=true/\Cal.num y m d=n/\Below B w w'
theorem zte (n:Int) (h1:-719528<=n) (h2:n<=2932896) (w:World):
 Calls prog 92 #[.int .i64 n] w (DateIs n w.heap.size w):=by
 have i:=Cal.zxx (n+719528) (by omega);go_enter func92,ntmps92;go_wp2;go_loop [7] (fun t=>∃y:Int,0<=y/\y<=9999/\Cal.fst y<=n+719528/\t=.int .i64 y) (fun t=>(9999-intOf t).toNat)
 case atStart=>exact⟨_,by omega,by omega,i,rfl⟩
 case round=>
  obtain⟨y,c,hy2,hy3,rfl⟩:=hrel;have l:=Cal.zk0 y c;have p:=Lib.hid l;clear l i;have hl:=Cal.zxv y;have bd:=Cal.zxw y (by omega) (by omega);have bd':=Cal.zxw (y+1) (by omega) (by omega);by_cases hc:Cal.fst (y+1)<=n+719528
  .have hy4:y<9999:=by
    have:=Cal.zpl;by_cases e:y=9999
    .subst e;rw[show(9999:Int)+1=10000 from rfl]at hc;omega
    .omega
   go_wp2_with (go_at_call 121;refine(zfd _ (by omega) (by omega) _).mono ?_;rintro e q ⟨rfl,rfl⟩);go_round
   case rel=>exact⟨y+1,by omega,by omega,hc,rfl⟩
   case measure=>simp[intOf];omega
  .go_wp2_with (go_at_call 121;refine(zfd _ (by omega) (by omega) _).mono ?_;rintro e q ⟨rfl,rfl⟩);go_loopw [6,8] (fun r k wr=>∃m:Int,1<=m/\m<=12/\k=.int .i64 m/\0<=n+719528-Cal.fst y-Cal.cum y m/\r=.int .i64 (n+719528-Cal.fst y-Cal.cum y m)/\Below w.heap.size w wr) (fun _ k _=>(12-intOf k).toNat)
   case atStart=>exact⟨1,by omega,by omega,rfl,by simp[Cal.zyv];omega,by simp[Cal.zyv],Below.refl _ _⟩
   case round=>
    obtain⟨m,g,f,rfl,hr,rfl,h⟩:=hrel;have j:=h.size;have cb:=Cal.zx0 y m;have db:=Cal.zxy y m;have o:=Cal.zg3 y m g f;have d:=Lib.hid o;clear o;by_cases hd:Cal.dim y m<=n+719528-Cal.fst y-Cal.cum y m
    .have hm4:m<12:=by
      by_cases e:m=12
      .subst e;have h1:=d.out;have h2:=p.out;have h3:=Cal.zx1 y;rw[show(12:Int)+1=13 from rfl]at h1;omega
      .omega
     go_wp2_with fail;refine(zbp _ _ (by omega) (by omega) _).mono ?_;rintro e s ⟨rfl,a⟩;have hz2:=a.size;go_wp2_with fail;refine(zbp _ _ (by omega) (by omega) _).mono ?_;rintro e w3 ⟨rfl,b⟩;go_wp2;go_roundw
     case rel=>exact⟨m+1,by omega,by omega,rfl,by rw[d.out];omega,by rw[d.out];exact congrArg (Value.int .i64) (by omega),zcs (zcs h j a) (by omega) b⟩
     case measure=>simp[intOf];omega
    .go_wp2_with fail;refine(zbp _ _ (by omega) (by omega) _).mono ?_;rintro e s ⟨rfl,a⟩;go_wp2_with fail;go_returns;refine⟨y,m,n+719528-Cal.fst y-Cal.cum y m+1,rfl,Cal.zy9 (by omega),by unfold Cal.num;omega,zcs h j a⟩
end Go.Proofs.YtpgmfihonmoliaaGreatDoor
