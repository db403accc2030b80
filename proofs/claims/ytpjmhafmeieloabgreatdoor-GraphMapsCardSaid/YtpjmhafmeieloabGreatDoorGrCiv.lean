import Derived.Test.YtpjmhafmeieloabGreatDoorZ01
namespace Go.Proofs.YtpjmhafmeieloabGreatDoor
open _root_.Go.Proofs.Tryz
set_option maxRecDepth 100000
set_option maxHeartbeats 16000000
open Go.RowKit
theorem zs9 (y:Int) (w:World):
 Calls prog 142 #[.int .i64 y] w fun e w'=>e=.returned (.bool (Cal.leapB y))/\w=w':=by
 go_enter func142,ntmps142;go_wp2
 all_goals go_ret
 all_goals exact⟨zr4 (by simp[Cal.leapB, *]),rfl⟩
theorem zbo (y m:Int) (_h1:1<=m) (_h2:m<=12) (w:World):
 Calls prog 112 #[.int .i64 y,.int .i64 m] w fun e w'=>e=.returned (.int .i64 (Cal.dim y m))/\Below w.heap.size w w':=by
 have a:m=1\/m=2\/m=3\/m=4\/m=5\/m=6\/m=7\/m=8\/m=9\/m=10\/m=11\/m=12:=by omega
 rcases a with rfl|rfl|rfl|rfl|rfl|rfl|rfl|rfl|rfl|rfl|rfl|rfl
 all_goals
  go_enter func112,ntmps112;go_wp2_with (go_at_call 142;refine(zs9 _ _).mono ?_;rintro e w' ⟨rfl,rfl⟩)
  all_goals go_ret
  all_goals exact⟨zny (by simp[Cal.dim,Cal.lp, *]),(Below.refl _ _).alloc (Nat.le_refl _) _⟩
theorem ze9 (y:Int) (h0:0<=y) (h1:y<=20000) (w:World):
 Calls prog 113 #[.int .i64 y] w fun e w'=>e=.returned (.int .i64 (Cal.fst y))/\w=w':=by
 go_enter func113,ntmps113;go_wp2;go_ret;exact⟨zny (by unfold Cal.fst;omega),rfl⟩
theorem zta {k k':IntKind} {a b a' b':Int} (h:a=b) (h':a'=b'):Ending.returned (.tuple #[.int k a,.int k' a'])=.returned (.tuple #[.int k b,.int k' b']):=by rw[h,h']
theorem zwc (y m d:Int) (hv:Cal.vld y m d=false) (w:World):
 Calls prog 85 #[.int .i64 y,.int .i64 m,.int .i64 d] w fun e w'=>e=.returned (.tuple #[.int .i64 0,.int .i64 13])/\Below w.heap.size w w':=by
 have b:y<0\/(0<=y/\9999<y)\/(0<=y/\y<=9999/\m<1)\/(0<=y/\y<=9999/\1<=m/\12<m)\/(0<=y/\y<=9999/\1<=m/\m<=12/\d<1)\/(0<=y/\y<=9999/\1<=m/\m<=12/\1<=d/\Cal.dim y m<d):=by
  simp[Cal.vld]at hv;omega
 clear hv;rcases b with h|⟨h1,h2⟩|⟨h1,h2,h3⟩|⟨h1,h2,h3,h4⟩|⟨h1,h2,h3,h4,h5⟩|⟨h1,h2,h3,h4,h5,h6⟩
 all_goals
  go_enter func85,ntmps85;go_wp2_with (go_at_call 112;refine(zbo _ _ (by omega) (by omega) _).mono ?_;rintro e w' ⟨rfl,a⟩);go_ret2;refine⟨rfl,?_⟩
  first|exact Below.refl _ _|exact a
theorem zk7 (y m d:Int) (hv:Cal.vld y m d=true) (w:World):
 Calls prog 85 #[.int .i64 y,.int .i64 m,.int .i64 d] w fun e w'=>e=.returned (.tuple #[.int .i64 (Cal.num y m d),.int .i64 0])/\Below w.heap.size w w':=by
 have h:=Cal.zoz hv;have hd:=Cal.zxu y m;have hf:=Cal.zxs y (by omega) (by omega);clear hv;obtain⟨h1,h2,h3,h4,h5,h6⟩:=h;go_enter func85,ntmps85;go_wp2_with (first| (go_at_call 112;refine(zbo _ _ (by omega) (by omega) _).mono ?_;rintro e w1 ⟨rfl,a⟩)| (go_at_call 113;refine(ze9 _ (by omega) (by omega) _).mono ?_;rintro e w' ⟨rfl,rfl⟩));go_loopw [8,9] (fun n i wr=>∃k:Int,1<=k/\k<=m/\i=.int .i64 k/\n=.int .i64 (Cal.fst y+d-1-719528+Cal.cum y k)/\Below w.heap.size w wr) (fun _ i _=>(13-intOf i).toNat)
 case atStart=>exact⟨1,by omega,by omega,rfl,by simp[Cal.zyr],a⟩
 case round=>
  obtain⟨k,hk1,hk2,rfl,rfl,b⟩:=hrel;have g:=b.size;by_cases hlt:k<m
  .have cb:=Cal.zxw y k;have db:=Cal.zxu y k;have f:=Cal.zgz y k (by omega) (by omega);have j:=Lib.hid f;clear f;go_wp2_with (go_at_call 112;refine(zbo _ _ (by omega) (by omega) _).mono ?_;rintro e w2 ⟨rfl,c⟩);go_roundw
   case rel=>exact⟨k+1,by omega,by omega,rfl,by rw[j.out];exact congrArg (Value.int .i64) (by omega),zcs b g c⟩
   case measure=>simp[intOf];omega
  .obtain rfl:k=m:=by omega
   go_wp2;go_ret2;exact⟨zta (by unfold Cal.num;omega) rfl,b⟩
def DateIs (n:Int) (B:Nat) (w:World) (e:Ending) (w':World):Prop:=
 ∃y m d:Int,e=.returned (.tuple #[.int .i64 y,.int .i64 m,.int .i64 d,.int .i64 0])/\Cal.vld y m d=true/\Cal.num y m d=n/\Below B w w'
theorem ztb (n:Int) (h1:-719528<=n) (h2:n<=2932896) (w:World):
 Calls prog 86 #[.int .i64 n] w (DateIs n w.heap.size w):=by
 have j:=Cal.zxt (n+719528) (by omega);go_enter func86,ntmps86;go_wp2;go_loop [7] (fun t=>∃y:Int,0<=y/\y<=9999/\Cal.fst y<=n+719528/\t=.int .i64 y) (fun t=>(9999-intOf t).toNat)
 case atStart=>exact⟨_,by omega,by omega,j,rfl⟩
 case round=>
  obtain⟨y,d,hy2,hy3,rfl⟩:=hrel;have i:=Cal.zkt y d;have q:=Lib.hid i;clear i j;have hl:=Cal.zxr y;have bd:=Cal.zxs y (by omega) (by omega);have bd':=Cal.zxs (y+1) (by omega) (by omega);by_cases hc:Cal.fst (y+1)<=n+719528
  .have hy4:y<9999:=by
    have:=Cal.zoy;by_cases e:y=9999
    .subst e;rw[show(9999:Int)+1=10000 from rfl]at hc;omega
    .omega
   go_wp2_with (go_at_call 113;refine(ze9 _ (by omega) (by omega) _).mono ?_;rintro e p ⟨rfl,rfl⟩);go_round
   case rel=>exact⟨y+1,by omega,by omega,hc,rfl⟩
   case measure=>simp[intOf];omega
  .go_wp2_with (go_at_call 113;refine(ze9 _ (by omega) (by omega) _).mono ?_;rintro e p ⟨rfl,rfl⟩);go_loopw [6,8] (fun r k wr=>∃m:Int,1<=m/\m<=12/\k=.int .i64 m/\0<=n+719528-Cal.fst y-Cal.cum y m/\r=.int .i64 (n+719528-Cal.fst y-Cal.cum y m)/\Below w.heap.size w wr) (fun _ k _=>(12-intOf k).toNat)
   case atStart=>exact⟨1,by omega,by omega,rfl,by simp[Cal.zyr];omega,by simp[Cal.zyr],Below.refl _ _⟩
   case round=>
    obtain⟨m,b,f,rfl,hr,rfl,c⟩:=hrel;have o:=c.size;have cb:=Cal.zxw y m;have db:=Cal.zxu y m;have l:=Cal.zgz y m b f;have g:=Lib.hid l;clear l;by_cases hd:Cal.dim y m<=n+719528-Cal.fst y-Cal.cum y m
    .have hm4:m<12:=by
      by_cases e:m=12
      .subst e;have h1:=g.out;have h2:=q.out;have h3:=Cal.zxx y;rw[show(12:Int)+1=13 from rfl]at h1;omega
      .omega
     go_wp2_with fail;refine(zbo _ _ (by omega) (by omega) _).mono ?_;rintro e s ⟨rfl,a⟩;have hz2:=a.size;go_wp2_with fail;refine(zbo _ _ (by omega) (by omega) _).mono ?_;rintro e w3 ⟨rfl,h⟩;go_wp2;go_roundw
     case rel=>exact⟨m+1,by omega,by omega,rfl,by rw[g.out];omega,by rw[g.out];exact congrArg (Value.int .i64) (by omega),zcs (zcs c o a) (by omega) h⟩
     case measure=>simp[intOf];omega
    .go_wp2_with fail;refine(zbo _ _ (by omega) (by omega) _).mono ?_;rintro e s ⟨rfl,a⟩;go_wp2_with fail;go_returns;refine⟨y,m,n+719528-Cal.fst y-Cal.cum y m+1,rfl,Cal.zy8 (by omega),by unfold Cal.num;omega,zcs c o a⟩
end Go.Proofs.YtpjmhafmeieloabGreatDoor
