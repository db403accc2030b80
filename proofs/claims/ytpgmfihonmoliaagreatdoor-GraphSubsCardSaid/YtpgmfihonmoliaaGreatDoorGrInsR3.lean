import Derived.Test.YtpgmfihonmoliaaGreatDoorZ24
namespace Go.Proofs.YtpgmfihonmoliaaGreatDoor
open Gr
open _root_.Go.Proofs.Tryz
open _root_.Go.Lib (hid)
set_option maxRecDepth 100000
set_option maxHeartbeats 16000000
open Go.RowKit
structure RT where
 date:Bool
 time:Bool
 zone:Bool
 y:Int
 m:Int
 d:Int
 h:Int
 mi:Int
 c:Int
 nanos:Int
 off:Int
 late:Bool
def RT.v (t:RT):Value:=.agg #[.bool t.date,.bool t.time,.bool t.zone,.int .i64 t.y,.int .i64 t.m,.int .i64 t.d,.int .i64 t.h,.int .i64 t.mi,.int .i64 t.c,.int .i64 t.nanos,.int .i64 t.off,.bool t.late]
def RT.z:RT:=⟨false,false,false,0,0,0,0,0,0,0,0,false⟩
theorem zin (s:Gr.Str) (a n:Nat) (hn:n<=9):-1<=tw s a n/\tw s a n<=999999999:=by
 unfold tw;split
 .rename_i v h;have:=zcw h hn;omega
 .omega
theorem zcp {s:Gr.Str} {a n:Nat} (h:¬tw s a n<0):∃v:Nat,numAt s a n=some v/\tw s a n=(v:Int):=by
 unfold tw at h ⊢;split
 .rename_i v hv;exact⟨v,by rw[hv],rfl⟩
 .rename_i hv;rw[hv]at h;simp at h
theorem zcq {s:Gr.Str} {a n:Nat} (h:tw s a n<0):numAt s a n=none:=by
 unfold tw at h;split at h
 .omega
 .assumption
def zk9 (s:Gr.Str) (w:World) (e:Ending) (w':World):Prop:=∃(t:RT) (r:Int),e=.returned (.tuple #[t.v,.int .i64 r])/\Below w.heap.size w w'/\
 match dateAt s with
 |none=>r=-1
 |some (y,m,d)=>r=10/\t=⟨true,false,false,y,m,d,0,0,0,0,0,false⟩
theorem zbu {w:World} (a b:Obj):Below w.heap.size w ((w.alloc a).alloc b):=((Below.refl _ _).alloc (Nat.le_refl _) _).alloc (by simp) _
theorem zio (s:Gr.Str) (hl:s.length<=1073741823) (w:World):
 Calls prog 162 #[.string ⟨s.toArray⟩,.int .i64 0,.agg #[.bool false,.bool false,.bool false,.int .i64 0,.int .i64 0,.int .i64 0,.int .i64 0,.int .i64 0,.int .i64 0,.int .i64 0,.int .i64 0,.bool false]] w (zk9 s w):=by
 have o:=hid (fun W=>zcm s hl 0 4 0 4 rfl rfl (by omega) (by omega) W);have n:=hid (fun W=>zcm s hl 5 2 5 2 rfl rfl (by omega) (by omega) W);have t:=hid (fun W=>zcm s hl 8 2 8 2 rfl rfl (by omega) (by omega) W);have j:=hid (fun W=>zcn s hl 4 4 rfl 45 45 rfl W);have l:=hid (fun W=>zcn s hl 7 7 rfl 45 45 rfl W);have b:=hid (fun h=> @zcp s 0 4 h);have f:=hid (fun h=> @zcp s 5 2 h);have i:=hid (fun h=> @zcp s 8 2 h);have B:=hid (fun h=> @zcq s 0 4 h);have C:=hid (fun h=> @zcq s 5 2 h);have z:=hid (fun h=> @zcq s 8 2 h);have O:=zin s 0 4 (by omega);have P:=zin s 5 2 (by omega);have N:=zin s 8 2 (by omega);obtain⟨Y,K⟩:=ex (tw s 0 4)
 obtain⟨M,J⟩:=ex (tw s 5 2)
 obtain⟨D,I⟩:=ex (tw s 8 2)
 obtain⟨p,E⟩:=ex (isAt s 4 45)
 obtain⟨q,H⟩:=ex (isAt s 7 45)
 have x:Hid (isAt s 4 45=p/\isAt s 7 45=q):=hid ⟨E,H⟩;rw[K]at o b B O;rw[J]at n f C P;rw[I]at t i z N;rw[E]at j;rw[H]at l;clear K J I E H;have R:Y<0\/(¬Y<0/\M<0)\/(¬Y<0/\¬M<0/\D<0)\/(¬Y<0/\¬M<0/\¬D<0/\p=false)\/(¬Y<0/\¬M<0/\¬D<0/\p=true/\q=false)\/(¬Y<0/\¬M<0/\¬D<0/\p=true/\q=true):=by
  cases p<;>cases q<;>simp<;>omega
 have L:∀(r:Int) (ok:Bool) (w':World),Below w.heap.size w w'->(dateAt s=none/\r=-1\/∃y m d:Nat,dateAt s=some (y,m,d)/\r=10/\ok=true/\Y=y/\M=m/\D=d)->zk9 s w (.returned (.tuple #[.agg #[.bool ok,.bool false,.bool false,.int .i64 Y,.int .i64 M,.int .i64 D,.int .i64 0,.int .i64 0,.int .i64 0,.int .i64 0,.int .i64 0,.bool false],.int .i64 r])) w':=by
  intro r ok w' S h;refine⟨⟨ok,false,false,Y,M,D,0,0,0,0,0,false⟩,r,rfl,S,?_⟩;rcases h with⟨a,k⟩|⟨y,m,d,a,k,c,rfl,rfl,rfl⟩
  .rw[a];exact k
  .rw[a];exact⟨k,by rw[c]⟩
 have A:=hid L;clear L;rcases R with c1|⟨c1,c2⟩|⟨c1,c2,c3⟩|⟨c1,c2,c3,rfl⟩|⟨c1,c2,c3,rfl,rfl⟩|⟨c1,c2,c3,rfl,rfl⟩
 case inr.inr.inr.inr.inr=>
  have G:Hid (∃y m d:Nat,dateAt s=some (y,m,d)/\Y=y/\M=m/\D=d):=hid (by
   obtain⟨y,a,k⟩:=b.out c1;obtain⟨m,c,F⟩:=f.out c2;obtain⟨d,u,Q⟩:=i.out c3;refine⟨y,m,d,?_,k,F,Q⟩;unfold dateAt;rw[a,c,u,x.out.1,x.out.2];rfl)
  go_enter func162,ntmps162;go_wp2_with fail;refine(o.out _).mono ?_;rintro e g ⟨rfl,rfl⟩;go_wp2_with fail;refine(n.out _).mono ?_;rintro e g ⟨rfl,rfl⟩;go_wp2_with fail;refine(t.out _).mono ?_;rintro e g ⟨rfl,rfl⟩;go_wp2_with fail;refine(j.out _).mono ?_;rintro e g ⟨rfl,rfl⟩;go_wp2_with fail;refine(l.out _).mono ?_;rintro e g ⟨rfl,rfl⟩;go_wp2_with fail;refine bodyPost_ret (v:=.tuple #[.agg #[.bool true,.bool false,.bool false,.int .i64 Y,.int .i64 M,.int .i64 D,.int .i64 0,.int .i64 0,.int .i64 0,.int .i64 0,.int .i64 0,.bool false],.int .i64 10]) (by rw[results_cell_tmp rfl];go_simp) rfl ?_;refine A.out _ _ _ (zbu _ _) (.inr ?_);obtain⟨y,m,d,a,k,c,F⟩:=G.out;exact⟨y,m,d,a,rfl,rfl,k,c,F⟩
 all_goals
  have G:Hid (dateAt s=none):=hid (by
   unfold dateAt
   first
    | (rw[B.out c1])
    | (obtain⟨y,a,_⟩:=b.out c1;rw[a,C.out c2])
    | (obtain⟨y,a,_⟩:=b.out c1;obtain⟨m,c,_⟩:=f.out c2;rw[a,c,z.out c3])
    | (obtain⟨y,a,_⟩:=b.out c1;obtain⟨m,c,_⟩:=f.out c2;obtain⟨d,u,_⟩:=i.out c3;rw[a,c,u,x.out.1,x.out.2];rfl)
    | (obtain⟨y,a,_⟩:=b.out c1;obtain⟨m,c,_⟩:=f.out c2;obtain⟨d,u,_⟩:=i.out c3;rw[a,c,u,x.out.1];rfl))
  go_enter func162,ntmps162;go_wp2_with fail;refine(o.out _).mono ?_;rintro e g ⟨rfl,rfl⟩;go_wp2_with fail;refine(n.out _).mono ?_;rintro e g ⟨rfl,rfl⟩;go_wp2_with fail;refine(t.out _).mono ?_;rintro e g ⟨rfl,rfl⟩;go_wp2_with fail;(try (refine(j.out _).mono ?_;rintro e g ⟨rfl,rfl⟩;go_wp2_with fail));(try (refine(l.out _).mono ?_;rintro e g ⟨rfl,rfl⟩;go_wp2_with fail));refine bodyPost_ret (v:=.tuple #[.agg #[.bool false,.bool false,.bool false,.int .i64 Y,.int .i64 M,.int .i64 D,.int .i64 0,.int .i64 0,.int .i64 0,.int .i64 0,.int .i64 0,.bool false],.int .i64 (-1)]) (by rw[results_cell_tmp rfl];go_simp) rfl ?_;exact A.out _ _ _ (zbu _ _) (.inl ⟨G.out,rfl⟩)
end Go.Proofs.YtpgmfihonmoliaaGreatDoor
