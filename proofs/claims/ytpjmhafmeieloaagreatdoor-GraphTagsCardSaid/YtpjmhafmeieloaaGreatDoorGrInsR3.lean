import Derived.Test.YtpjmhafmeieloaaGreatDoorZ01
namespace Go.Proofs.YtpjmhafmeieloaaGreatDoor
open Gr
open _root_.Go.Proofs.Tryz
open _root_.Go.Lib (hid)
set_option maxRecDepth 100000
set_option maxHeartbeats 16000000
open Go.RowKit
structure RT where
 date:Bool
 time:Bool
 zone:Bool
 y:Int
 m:Int
 d:Int
 h:Int
 mi:Int
 c:Int
 nanos:Int
 off:Int
 late:Bool
def RT.v (t:RT):Value:=.agg #[.bool t.date,.bool t.time,.bool t.zone,.int .i64 t.y,.int .i64 t.m,.int .i64 t.d,.int .i64 t.h,.int .i64 t.mi,.int .i64 t.c,.int .i64 t.nanos,.int .i64 t.off,.bool t.late]
def RT.z:RT:=⟨false,false,false,0,0,0,0,0,0,0,0,false⟩
theorem ziv (s:Gr.Str) (a n:Nat) (hn:n<=9):-1<=tw s a n/\tw s a n<=999999999:=by
 unfold tw;split
 .rename_i v h;have:=zc1 h hn;omega
 .omega
theorem zcs {s:Gr.Str} {a n:Nat} (h:¬tw s a n<0):∃v:Nat,numAt s a n=some v/\tw s a n=(v:Int):=by
 unfold tw at h ⊢;split
 .rename_i v hv;exact⟨v,by rw[hv],rfl⟩
 .rename_i hv;rw[hv]at h;simp at h
theorem zct {s:Gr.Str} {a n:Nat} (h:tw s a n<0):numAt s a n=none:=by
 unfold tw at h;split at h
 .omega
 .assumption
def zli (s:Gr.Str) (w:World) (e:Ending) (w':World):Prop:=∃(t:RT) (r:Int),e=.returned (.tuple #[t.v,.int .i64 r])/\Below w.heap.size w w'/\
 match dateAt s with
 |none=>r=-1
 |some (y,m,d)=>r=10/\t=⟨true,false,false,y,m,d,0,0,0,0,0,false⟩
theorem zbu {w:World} (a b:Obj):Below w.heap.size w ((w.alloc a).alloc b):=((Below.refl _ _).alloc (Nat.le_refl _) _).alloc (by simp) _
theorem ziw (s:Gr.Str) (hl:s.length<=1073741823) (w:World):
 Calls prog 179 #[.string ⟨s.toArray⟩,.int .i64 0,.agg #[.bool false,.bool false,.bool false,.int .i64 0,.int .i64 0,.int .i64 0,.int .i64 0,.int .i64 0,.int .i64 0,.int .i64 0,.int .i64 0,.bool false]] w (zli s w):=by
 have l:=hid (fun W=>zcp s hl 0 4 0 4 rfl rfl (by omega) (by omega) W);have t:=hid (fun W=>zcp s hl 5 2 5 2 rfl rfl (by omega) (by omega) W);have k:=hid (fun W=>zcp s hl 8 2 8 2 rfl rfl (by omega) (by omega) W);have o:=hid (fun W=>zcq s hl 4 4 rfl 45 45 rfl W);have j:=hid (fun W=>zcq s hl 7 7 rfl 45 45 rfl W);have b:=hid (fun h=> @zcs s 0 4 h);have c:=hid (fun h=> @zcs s 5 2 h);have i:=hid (fun h=> @zcs s 8 2 h);have z:=hid (fun h=> @zct s 0 4 h);have u:=hid (fun h=> @zct s 5 2 h);have B:=hid (fun h=> @zct s 8 2 h);have N:=ziv s 0 4 (by omega);have P:=ziv s 5 2 (by omega);have S:=ziv s 8 2 (by omega);obtain⟨Y,L⟩:=ex (tw s 0 4)
 obtain⟨M,J⟩:=ex (tw s 5 2)
 obtain⟨D,K⟩:=ex (tw s 8 2)
 obtain⟨p,E⟩:=ex (isAt s 4 45)
 obtain⟨q,F⟩:=ex (isAt s 7 45)
 have C:Hid (isAt s 4 45=p/\isAt s 7 45=q):=hid ⟨E,F⟩;rw[L]at l b z N;rw[J]at t c u P;rw[K]at k i B S;rw[E]at o;rw[F]at j;clear L J K E F;have O:Y<0\/(¬Y<0/\M<0)\/(¬Y<0/\¬M<0/\D<0)\/(¬Y<0/\¬M<0/\¬D<0/\p=false)\/(¬Y<0/\¬M<0/\¬D<0/\p=true/\q=false)\/(¬Y<0/\¬M<0/\¬D<0/\p=true/\q=true):=by
  cases p<;>cases q<;>simp<;>omega
 have I:∀(r:Int) (ok:Bool) (w':World),Below w.heap.size w w'->(dateAt s=none/\r=-1\/∃y m d:Nat,dateAt s=some (y,m,d)/\r=10/\ok=true/\Y=y/\M=m/\D=d)->zli s w (.returned (.tuple #[.agg #[.bool ok,.bool false,.bool false,.int .i64 Y,.int .i64 M,.int .i64 D,.int .i64 0,.int .i64 0,.int .i64 0,.int .i64 0,.int .i64 0,.bool false],.int .i64 r])) w':=by
  intro r ok w' Q h;refine⟨⟨ok,false,false,Y,M,D,0,0,0,0,0,false⟩,r,rfl,Q,?_⟩;rcases h with⟨a,n⟩|⟨y,m,d,a,n,f,rfl,rfl,rfl⟩
  .rw[a];exact n
  .rw[a];exact⟨n,by rw[f]⟩
 have A:=hid I;clear I;rcases O with c1|⟨c1,c2⟩|⟨c1,c2,c3⟩|⟨c1,c2,c3,rfl⟩|⟨c1,c2,c3,rfl,rfl⟩|⟨c1,c2,c3,rfl,rfl⟩
 case inr.inr.inr.inr.inr=>
  have G:Hid (∃y m d:Nat,dateAt s=some (y,m,d)/\Y=y/\M=m/\D=d):=hid (by
   obtain⟨y,a,n⟩:=b.out c1;obtain⟨m,f,H⟩:=c.out c2;obtain⟨d,x,R⟩:=i.out c3;refine⟨y,m,d,?_,n,H,R⟩;unfold dateAt;rw[a,f,x,C.out.1,C.out.2];rfl)
  go_enter func179,ntmps179;go_wp2_with fail;refine(l.out _).mono ?_;rintro e g ⟨rfl,rfl⟩;go_wp2_with fail;refine(t.out _).mono ?_;rintro e g ⟨rfl,rfl⟩;go_wp2_with fail;refine(k.out _).mono ?_;rintro e g ⟨rfl,rfl⟩;go_wp2_with fail;refine(o.out _).mono ?_;rintro e g ⟨rfl,rfl⟩;go_wp2_with fail;refine(j.out _).mono ?_;rintro e g ⟨rfl,rfl⟩;go_wp2_with fail;refine bodyPost_ret (v:=.tuple #[.agg #[.bool true,.bool false,.bool false,.int .i64 Y,.int .i64 M,.int .i64 D,.int .i64 0,.int .i64 0,.int .i64 0,.int .i64 0,.int .i64 0,.bool false],.int .i64 10]) (by rw[results_cell_tmp rfl];go_simp) rfl ?_;refine A.out _ _ _ (zbu _ _) (.inr ?_);obtain⟨y,m,d,a,n,f,H⟩:=G.out;exact⟨y,m,d,a,rfl,rfl,n,f,H⟩
 all_goals
  have G:Hid (dateAt s=none):=hid (by
   unfold dateAt
   first
    | (rw[z.out c1])
    | (obtain⟨y,a,_⟩:=b.out c1;rw[a,u.out c2])
    | (obtain⟨y,a,_⟩:=b.out c1;obtain⟨m,f,_⟩:=c.out c2;rw[a,f,B.out c3])
    | (obtain⟨y,a,_⟩:=b.out c1;obtain⟨m,f,_⟩:=c.out c2;obtain⟨d,x,_⟩:=i.out c3;rw[a,f,x,C.out.1,C.out.2];rfl)
    | (obtain⟨y,a,_⟩:=b.out c1;obtain⟨m,f,_⟩:=c.out c2;obtain⟨d,x,_⟩:=i.out c3;rw[a,f,x,C.out.1];rfl))
  go_enter func179,ntmps179;go_wp2_with fail;refine(l.out _).mono ?_;rintro e g ⟨rfl,rfl⟩;go_wp2_with fail;refine(t.out _).mono ?_;rintro e g ⟨rfl,rfl⟩;go_wp2_with fail;refine(k.out _).mono ?_;rintro e g ⟨rfl,rfl⟩;go_wp2_with fail;(try (refine(o.out _).mono ?_;rintro e g ⟨rfl,rfl⟩;go_wp2_with fail));(try (refine(j.out _).mono ?_;rintro e g ⟨rfl,rfl⟩;go_wp2_with fail));refine bodyPost_ret (v:=.tuple #[.agg #[.bool false,.bool false,.bool false,.int .i64 Y,.int .i64 M,.int .i64 D,.int .i64 0,.int .i64 0,.int .i64 0,.int .i64 0,.int .i64 0,.bool false],.int .i64 (-1)]) (by rw[results_cell_tmp rfl];go_simp) rfl ?_;exact A.out _ _ _ (zbu _ _) (.inl ⟨G.out,rfl⟩)
end Go.Proofs.YtpjmhafmeieloaaGreatDoor
