import Derived.Test.YtoigpackhninoaaGreatDoorZ19
namespace Go.Proofs.YtoigpackhninoaaGreatDoor
open Gr
open _root_.Go.Proofs.Tryz
open Lib (hid)
set_option maxRecDepth 100000
set_option maxHeartbeats 16000000
open Go.RowKit
structure RT where
 date:Bool
 time:Bool
 zone:Bool
 y:Int
 m:Int
 d:Int
 h:Int
 mi:Int
 c:Int
 nanos:Int
 off:Int
 late:Bool
def RT.v (t:RT):Value:=.agg #[.bool t.date,.bool t.time,.bool t.zone,.int .i64 t.y,.int .i64 t.m,.int .i64 t.d,.int .i64 t.h,.int .i64 t.mi,.int .i64 t.c,.int .i64 t.nanos,.int .i64 t.off,.bool t.late]
def RT.cs (t:RT):Array Value:=(T12 t.date t.time t.zone t.y t.m t.d t.h t.mi t.c t.nanos t.off t.late)
def RT.z:RT:=⟨false,false,false,0,0,0,0,0,0,0,0,false⟩
theorem zis (s:Gr.Str) (a n:Nat) (hn:n<=9):-1<=tw s a n/\tw s a n<=999999999:=by
 unfold tw;split
 ·rename_i v h;have:=zcx h hn;omega
 ·omega
theorem zcp {s:Gr.Str} {a n:Nat} (h:¬tw s a n<0):∃v:Nat,numAt s a n=some v/\tw s a n=(v:Int):=by
 unfold tw at h ⊢;split
 ·rename_i v hv;exact⟨v,by rw[hv],rfl⟩
 ·rename_i hv;rw[hv]at h;simp at h
theorem zcq {s:Gr.Str} {a n:Nat} (h:tw s a n<0):numAt s a n=none:=by
 unfold tw at h;split at h
 ·omega
 ·assumption
def zlj (s:Gr.Str) (w:World) (e:Ending) (w':World):Prop:=∃(t:RT) (r:Int),e=.returned (.tuple #[t.v,.int .i64 r])/\Below w.heap.size w w'/\
 match dateAt s with
 |none=>r=-1
 |some (y,m,d)=>r=10/\t=⟨true,false,false,y,m,d,0,0,0,0,0,false⟩
theorem zbu {w:World} (a b:Obj):Below w.heap.size w ((w.alloc a).alloc b):=((Below.refl _ _).alloc (Nat.le_refl _) _).alloc (by simp) _
theorem zit (s:Gr.Str) (hl:s.length<=1073741823) (w:World):
 Calls prog 134 #[.string ⟨s.toArray⟩,.int .i64 0,.agg #[.bool false,.bool false,.bool false,.int .i64 0,.int .i64 0,.int .i64 0,.int .i64 0,.int .i64 0,.int .i64 0,.int .i64 0,.int .i64 0,.bool false]] w (zlj s w):=by
 have HT1:=hid (fun W=>zcm s hl 0 4 0 4 rfl rfl (by omega) (by omega) W);have HT2:=hid (fun W=>zcm s hl 5 2 5 2 rfl rfl (by omega) (by omega) W);have HT3:=hid (fun W=>zcm s hl 8 2 8 2 rfl rfl (by omega) (by omega) W);have HI1:=hid (fun W=>zcn s hl 4 4 rfl 45 45 rfl W);have HI2:=hid (fun W=>zcn s hl 7 7 rfl 45 45 rfl W);have HSY:=hid (fun h=> @zcp s 0 4 h);have HSM:=hid (fun h=> @zcp s 5 2 h);have HSD:=hid (fun h=> @zcp s 8 2 h);have HNY:=hid (fun h=> @zcq s 0 4 h);have HNM:=hid (fun h=> @zcq s 5 2 h);have HND:=hid (fun h=> @zcq s 8 2 h);have bY:=zis s 0 4 (by omega);have bM:=zis s 5 2 (by omega);have bD:=zis s 8 2 (by omega);obtain⟨Y,hY⟩:=ex (tw s 0 4)
 obtain⟨M,hM⟩:=ex (tw s 5 2)
 obtain⟨D,hD⟩:=ex (tw s 8 2)
 obtain⟨p,hp⟩:=ex (isAt s 4 45)
 obtain⟨q,hq⟩:=ex (isAt s 7 45)
 have HP:Hid (isAt s 4 45=p/\isAt s 7 45=q):=hid ⟨hp,hq⟩;rw[hY]at HT1 HSY HNY bY;rw[hM]at HT2 HSM HNM bM;rw[hD]at HT3 HSD HND bD;rw[hp]at HI1;rw[hq]at HI2;clear hY hM hD hp hq;have hc:Y<0\/(¬Y<0/\M<0)\/(¬Y<0/\¬M<0/\D<0)\/(¬Y<0/\¬M<0/\¬D<0/\p=false)\/(¬Y<0/\¬M<0/\¬D<0/\p=true/\q=false)\/(¬Y<0/\¬M<0/\¬D<0/\p=true/\q=true):=by
  cases p<;>cases q<;>simp<;>omega
 have go:∀(r:Int) (ok:Bool) (w':World),Below w.heap.size w w'->(dateAt s=none/\r=-1\/∃y m d:Nat,dateAt s=some (y,m,d)/\r=10/\ok=true/\Y=y/\M=m/\D=d)->zlj s w (.returned (.tuple #[.agg #[.bool ok,.bool false,.bool false,.int .i64 Y,.int .i64 M,.int .i64 D,.int .i64 0,.int .i64 0,.int .i64 0,.int .i64 0,.int .i64 0,.bool false],.int .i64 r])) w':=by
  intro r ok w' hb h;refine⟨⟨ok,false,false,Y,M,D,0,0,0,0,0,false⟩,r,rfl,hb,?_⟩;rcases h with⟨h1,h2⟩|⟨y,m,d,h1,h2,h3,rfl,rfl,rfl⟩
  ·rw[h1];exact h2
  ·rw[h1];exact⟨h2,by rw[h3]⟩
 have HGO:=hid go;clear go;rcases hc with c1|⟨c1,c2⟩|⟨c1,c2,c3⟩|⟨c1,c2,c3,rfl⟩|⟨c1,c2,c3,rfl,rfl⟩|⟨c1,c2,c3,rfl,rfl⟩
 case inr.inr.inr.inr.inr=>
  have HF:Hid (∃y m d:Nat,dateAt s=some (y,m,d)/\Y=y/\M=m/\D=d):=hid (by
   obtain⟨y,h1,h2⟩:=HSY.out c1;obtain⟨m,h3,h4⟩:=HSM.out c2;obtain⟨d,h5,h6⟩:=HSD.out c3;refine⟨y,m,d,?_,h2,h4,h6⟩;unfold dateAt;rw[h1,h3,h5,HP.out.1,HP.out.2];rfl)
  go_enter func134,ntmps134;go_wp2_with fail;refine(HT1.out _).mono ?_;rintro e w1 ⟨rfl,rfl⟩;go_wp2_with fail;refine(HT2.out _).mono ?_;rintro e w1 ⟨rfl,rfl⟩;go_wp2_with fail;refine(HT3.out _).mono ?_;rintro e w1 ⟨rfl,rfl⟩;go_wp2_with fail;refine(HI1.out _).mono ?_;rintro e w1 ⟨rfl,rfl⟩;go_wp2_with fail;refine(HI2.out _).mono ?_;rintro e w1 ⟨rfl,rfl⟩;go_wp2_with fail;refine bodyPost_ret (v:=.tuple #[.agg #[.bool true,.bool false,.bool false,.int .i64 Y,.int .i64 M,.int .i64 D,.int .i64 0,.int .i64 0,.int .i64 0,.int .i64 0,.int .i64 0,.bool false],.int .i64 10]) (by rw[results_cell_tmp rfl];go_simp) rfl ?_;refine HGO.out _ _ _ (zbu _ _) (.inr ?_);obtain⟨y,m,d,h1,h2,h3,h4⟩:=HF.out;exact⟨y,m,d,h1,rfl,rfl,h2,h3,h4⟩
 all_goals
  have HF:Hid (dateAt s=none):=hid (by
   unfold dateAt
   first
    | (rw[HNY.out c1])
    | (obtain⟨y,h1,_⟩:=HSY.out c1;rw[h1,HNM.out c2])
    | (obtain⟨y,h1,_⟩:=HSY.out c1;obtain⟨m,h3,_⟩:=HSM.out c2;rw[h1,h3,HND.out c3])
    | (obtain⟨y,h1,_⟩:=HSY.out c1;obtain⟨m,h3,_⟩:=HSM.out c2;obtain⟨d,h5,_⟩:=HSD.out c3;rw[h1,h3,h5,HP.out.1,HP.out.2];rfl)
    | (obtain⟨y,h1,_⟩:=HSY.out c1;obtain⟨m,h3,_⟩:=HSM.out c2;obtain⟨d,h5,_⟩:=HSD.out c3;rw[h1,h3,h5,HP.out.1];rfl))
  go_enter func134,ntmps134;go_wp2_with fail;refine(HT1.out _).mono ?_;rintro e w1 ⟨rfl,rfl⟩;go_wp2_with fail;refine(HT2.out _).mono ?_;rintro e w1 ⟨rfl,rfl⟩;go_wp2_with fail;refine(HT3.out _).mono ?_;rintro e w1 ⟨rfl,rfl⟩;go_wp2_with fail;(try (refine(HI1.out _).mono ?_;rintro e w1 ⟨rfl,rfl⟩;go_wp2_with fail));(try (refine(HI2.out _).mono ?_;rintro e w1 ⟨rfl,rfl⟩;go_wp2_with fail));refine bodyPost_ret (v:=.tuple #[.agg #[.bool false,.bool false,.bool false,.int .i64 Y,.int .i64 M,.int .i64 D,.int .i64 0,.int .i64 0,.int .i64 0,.int .i64 0,.int .i64 0,.bool false],.int .i64 (-1)]) (by rw[results_cell_tmp rfl];go_simp) rfl ?_;exact HGO.out _ _ _ (zbu _ _) (.inl ⟨HF.out,rfl⟩)
end Go.Proofs.YtoigpackhninoaaGreatDoor
