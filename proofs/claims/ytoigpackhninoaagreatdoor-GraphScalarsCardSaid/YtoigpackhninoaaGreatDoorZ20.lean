import Derived.Test.YtoigpackhninoaaGreatDoorZ05
import Derived.Test.YtoigpackhninoaaGreatDoorZ02
namespace Go.Proofs.YtoigpackhninoaaGreatDoor
open Gr
open _root_.Go.Proofs.Tryz
open _root_.Go.Lib (hid)
set_option maxRecDepth 100000
set_option maxHeartbeats 16000000
open Go.RowKit
def tw (s:Gr.Str) (a n:Nat):Int:=match numAt s a n with
 |some v=>(v:Int)
 |none=>-1
theorem zda (c:UInt8) (b:Nat) (hb:c.toNat=b):Gr.dig c=(decide (48<=b) && decide (b<=57))/\Gr.dv c=b-48:=by
 subst hb;refine⟨?_,rfl⟩;rw[Bool.eq_iff_iff,za4];simp
theorem zb1 (s:Gr.Str) (a k:Nat) (h:a+k<s.length):(s.drop a).take (k+1)=(s.drop a).take k++[s[a+k]]:=by
 rw[List.take_succ_eq_append_getElem (by simp;omega),List.getElem_drop]
theorem zcy (s:Gr.Str) (a n k:Nat) (hk:k<n) (h:a+k<s.length) (hd:Gr.dig s[a+k]=false):numAt s a n=none:=by
 unfold numAt;rw[if_neg];rintro⟨h1,h2⟩;rw[List.all_eq_true]at h2;have:=h2 s[a+k] (by
  rw[List.mem_take_iff_getElem];exact⟨k,by simp;omega,by rw[List.getElem_drop]⟩)
 rw[hd]at this;cases this
theorem zcl (s:Gr.Str) (a n:Nat) (h:s.length<a+n):numAt s a n=none:=by
 unfold numAt;rw[if_neg (fun hc=>by omega)]
theorem zgu (s:Gr.Str) (a n:Nat) (h:a+n<=s.length) (hd:((s.drop a).take n).all Gr.dig=true):numAt s a n=some (Gr.val ((s.drop a).take n)):=by
 unfold numAt;rw[if_pos ⟨h,hd⟩]
theorem zi1 (l:Gr.Str) (hd:l.all Gr.dig=true) (h:l.length<=9):Gr.val l<1000000000:=Nat.lt_of_lt_of_le (zd9 l hd) (Nat.pow_le_pow_right (n:=10) (by omega) h)
theorem zcb {s:Gr.Str} {a n v:Nat} (h:numAt s a n=some v) (hn:n<=9):v<1000000000/\v<10 ^ n/\a+n<=s.length:=by
 unfold numAt at h;split at h
 ·rename_i hc;injection h with h
  subst h;have hlen:((s.drop a).take n).length=n:=by simp;omega
  have:=zd9 _ hc.2;rw[hlen]at this;exact⟨zi1 _ hc.2 (by omega),this,hc.1⟩
 ·cases h
theorem zb2 (s:Gr.Str) (hl:s.length<=1073741823) (a n:Nat) (i j:Int) (hi:i=(a:Int)) (hj:j=(n:Int)) (ha:a<=2147483647) (hn:n<=9) (w:World):
 Calls prog 163 #[.string ⟨s.toArray⟩,.int .i64 i,.int .i64 j] w fun e w'=>e=.returned (.int .i64 (tw s a n))/\w=w':=by
 subst hi;subst hj;obtain⟨r,hr⟩:=ex (tw s a n)
 have HR:=hid hr;rw[hr];clear hr;by_cases hlen:s.length<a+n
 ·have hlI:(s.length:Int)<(a:Int)+(n:Int):=by omega
  have HF:Hid (r=-1):=hid (by rw[<-HR.out];unfold tw;rw[zcl s a n hlen]);go_enter func163,ntmps163;go_wp2;go_ret;rw[HF.out];exact⟨rfl,rfl⟩
 ·have hlI:¬(s.length:Int)<(a:Int)+(n:Int):=by omega
  go_enter func163,ntmps163;go_wp2_with fail;go_loop [7,8] (fun s7 s8=>∃k v:Nat,k<=n/\v<=999999999/\s7=.int .i64 (v:Int)/\s8=.int .i64 ((a+k:Nat):Int)/\Hid (((s.drop a).take k).all Gr.dig=true/\v=Gr.val ((s.drop a).take k))) (fun _ s8=>a+n-(intOf s8).toNat)
  case atStart=>exact⟨0,0,by omega,by omega,rfl,rfl,hid ⟨by simp,by simp[Gr.val]⟩⟩
  case round=>
   obtain⟨k,v,hk,hv,rfl,rfl,HV⟩:=hrel;by_cases hlt:k<n
   ·have hltI:((a+k:Nat):Int)<(a:Int)+(n:Int):=by omega
    have hltS:a+k<s.length:=by omega
    obtain⟨b,hb⟩:∃b:Nat,(s[a+k]'hltS).toNat=b:=⟨_,rfl⟩
    have hbv:(((⟨s.toArray⟩:ByteArray)[a+k]'(by simpa[ByteArray.size]using hltS)).toNat:Int)=(b:Int):=by rw[<-hb];rfl
    have hbl:b<256:=by rw[<-hb];exact(s[a+k]'hltS).toNat_lt
    have HBD:=hid (zda (s[a+k]'hltS) b hb);clear hb;by_cases h48:48<=b
    ·have a48:¬(b:Int)<48:=by omega
     have b48:(48:Int)<=(b:Int):=by omega
     by_cases h57:b<=57
     ·have a57:¬(57:Int)<(b:Int):=by omega
      have HT:=hid (zb1 s a k hltS);have HNX:Hid (((s.drop a).take (k+1)).all Gr.dig=true/\10*v+(b-48)=Gr.val ((s.drop a).take (k+1))):=hid (by
       rw[HT.out,List.all_append,HV.out.1,zba,<-HV.out.2,HBD.out.2];exact⟨by simp[HBD.out.1,h48,h57],rfl⟩)
      have hvn:10*v+(b-48)<=999999999:=by
       rw[HNX.out.2];have:=zi1 _ HNX.out.1 (by simp;omega);omega
      clear hlI;go_wp2;go_round
      case rel=>exact⟨k+1,10*v+(b-48),by omega,hvn,by exact congrArg (Value.int .i64) (by omega),by go_num,HNX⟩
      case measure=>simp[intOf];omega
     ·have a57:(57:Int)<(b:Int):=by omega
      have HF:Hid (r=-1):=hid (by rw[<-HR.out];unfold tw;rw[zcy s a n k hlt hltS (by rw[HBD.out.1];simp[h57])]);go_wp2;go_ret;rw[HF.out];exact⟨rfl,rfl⟩
    ·have a48:(b:Int)<48:=by omega
     have HF:Hid (r=-1):=hid (by rw[<-HR.out];unfold tw;rw[zcy s a n k hlt hltS (by rw[HBD.out.1];simp[h48])]);go_wp2;go_ret;rw[HF.out];exact⟨rfl,rfl⟩
   ·obtain rfl:k=n:=by omega
    have hltI:¬((a+k:Nat):Int)<(a:Int)+(k:Int):=by omega
    have HF:Hid (r=(v:Int)):=hid (by rw[<-HR.out];unfold tw;rw[zgu s a k (by omega) HV.out.1,HV.out.2]);go_wp2;go_ret;rw[HF.out];exact⟨rfl,rfl⟩
theorem zb3 (s:Gr.Str) (_hl:s.length<=1073741823) (a:Nat) (i:Int) (hi:i=(a:Int)) (c:UInt8) (j:Int) (hj:j=(c.toNat:Int)) (w:World):
 Calls prog 136 #[.string ⟨s.toArray⟩,.int .i64 i,.int .u8 j] w fun e w'=>e=.returned (.bool (isAt s a c))/\w=w':=by
 subst hi;subst hj;obtain⟨r,hr⟩:=ex (isAt s a c)
 have HR:=hid hr;rw[hr];clear hr;obtain⟨d,hd⟩:∃d:Nat,c.toNat=d:=⟨_,rfl⟩
 have HD:=hid hd;rw[hd];clear hd;by_cases hlt:a<s.length
 ·have hltI:(a:Int)<(s.length:Int):=by omega
  obtain⟨b,hb⟩:∃b:Nat,(s[a]'hlt).toNat=b:=⟨_,rfl⟩
  have hbv:(((⟨s.toArray⟩:ByteArray)[a]'(by simpa[ByteArray.size]using hlt)).toNat:Int)=(b:Int):=by rw[<-hb];rfl
  have HF:Hid (((b:Int)==(d:Int))=r):=hid (by
   rw[<-HR.out];unfold isAt;rw[List.getElem?_eq_getElem hlt,Bool.eq_iff_iff];simp only[beq_iff_eq,Option.some.injEq];rw[<-UInt8.toNat_inj,HD.out,hb];omega)
  clear hb;go_enter func136,ntmps136;go_wp2;go_ret;rw[<-HF.out];exact⟨rfl,rfl⟩
 ·have hltI:¬(a:Int)<(s.length:Int):=by omega
  have HF:Hid (r=false):=hid (by
   rw[<-HR.out];unfold isAt;rw[List.getElem?_eq_none (by omega)];rfl)
  go_enter func136,ntmps136;go_wp2;go_ret;rw[HF.out];exact⟨rfl,rfl⟩
theorem zm0 (y:Int) (w:World):
 Calls prog 164 #[.int .i64 y] w fun e w'=>e=.returned (.bool (Cal.leapB y))/\w=w':=by
 go_enter func164,ntmps164;go_wp2
 all_goals go_ret
 all_goals exact⟨congrArg (fun b=>Ending.returned (.bool b)) (by simp[Cal.leapB, *]),rfl⟩
theorem zdc (y m:Int) (_h1:1<=m) (_h2:m<=12) (w:World):
 Calls prog 138 #[.int .i64 y,.int .i64 m] w fun e w'=>e=.returned (.int .i64 (Cal.dim y m))/\w=w':=by
 go_enter func138,ntmps138;go_wp2_with (go_at_call 164;refine(zm0 _ _).mono ?_;rintro e w' ⟨rfl,rfl⟩)
 all_goals go_ret
 all_goals exact⟨congrArg (fun b=>Ending.returned (.int .i64 b)) (by simp_all [Cal.dim,Cal.lp]),rfl⟩
theorem zgv (y m d:Int) (h0:0<=y) (h1:y<=20000) (h2:1<=m) (h3:m<=12) (h4:0<=d) (h5:d<=1000) (w:World):
 Calls prog 162 #[.int .i64 y,.int .i64 m,.int .i64 d] w fun e w'=>e=.returned (.int .i64 (Cal.num y m d))/\w=w':=by
 have HF:Hid (Cal.fst y=365*y+(y+3) /4-(y+99) /100+(y+399) /400):=hid rfl;have hb0:0<=365*y+(y+3) /4-(y+99) /100+(y+399) /400:=by omega
 have hb1:365*y+(y+3) /4-(y+99) /100+(y+399) /400<=10000000:=by omega
 go_enter func162,ntmps162;go_wp2_with fail;go_loop [7,8] (fun n i=>∃k c:Int,1<=k/\k<=m/\0<=c/\c<=366/\i=.int .i64 k/\n=.int .i64 (365*y+(y+3) /4-(y+99) /100+(y+399) /400-719528+c)/\Hid (Cal.cum y k=c)) (fun _ i=>(13-intOf i).toNat)
 case atStart=>exact⟨1,0,by omega,by omega,by omega,by omega,rfl,by exact congrArg (Value.int .i64) (by omega),hid rfl⟩
 case round=>
  obtain⟨k,c,hk1,hk2,hc0,hc1,rfl,rfl,HC⟩:=hrel;by_cases hlt:k<m
  ·have db:=Cal.ztc y k;have CS:=hid (Cal.zfu y k (by omega) (by omega));have cb:=Cal.zte y (k+1);have CB:=hid cb;clear cb;obtain⟨q,hq⟩:=ex (Cal.dim y k)
   have HQ:Hid (∀W,Calls prog 138 #[.int .i64 y,.int .i64 k] W fun e w'=>e=.returned (.int .i64 q)/\W=w'):=hid (fun W=>by rw[<-hq];exact zdc y k (by omega) (by omega) W);rw[hq]at db CS;clear hq;go_wp2_with fail;refine(HQ.out _).mono ?_;rintro e w' ⟨rfl,rfl⟩;go_wp2;go_round
   case rel=>exact⟨k+1,c+q,by omega,by omega,by omega,by have:=CS.out;have:=CB.out;have:=HC.out;omega,rfl,by exact congrArg (Value.int .i64) (by omega),hid (by rw[CS.out,HC.out])⟩
   case measure=>simp[intOf];omega
  ·obtain rfl:k=m:=by omega
   have HN:Hid (Cal.num y k d=365*y+(y+3) /4-(y+99) /100+(y+399) /400-719528+c+d-1):=hid (by unfold Cal.num;rw[HF.out,HC.out];omega);go_wp2;go_ret;rw[HN.out];exact⟨rfl,rfl⟩
structure RT where
 date:Bool
 time:Bool
 zone:Bool
 y:Int
 m:Int
 d:Int
 h:Int
 mi:Int
 c:Int
 nanos:Int
 off:Int
 late:Bool
def RT.v (t:RT):Value:=.agg #[.bool t.date,.bool t.time,.bool t.zone,.int .i64 t.y,.int .i64 t.m,.int .i64 t.d,.int .i64 t.h,.int .i64 t.mi,.int .i64 t.c,.int .i64 t.nanos,.int .i64 t.off,.bool t.late]
def RT.cs (t:RT):Array Value:=(T12 t.date t.time t.zone t.y t.m t.d t.h t.mi t.c t.nanos t.off t.late)
def RT.z:RT:=⟨false,false,false,0,0,0,0,0,0,0,0,false⟩
theorem zgw (s:Gr.Str) (a n:Nat) (hn:n<=9):-1<=tw s a n/\tw s a n<=999999999:=by
 unfold tw;split
 ·rename_i v h;have:=zcb h hn;omega
 ·omega
theorem zb5 {s:Gr.Str} {a n:Nat} (h:¬tw s a n<0):∃v:Nat,numAt s a n=some v/\tw s a n=(v:Int):=by
 unfold tw at h ⊢;split
 ·rename_i v hv;exact⟨v,by rw[hv],rfl⟩
 ·rename_i hv;rw[hv]at h;simp at h
theorem zb6 {s:Gr.Str} {a n:Nat} (h:tw s a n<0):numAt s a n=none:=by
 unfold tw at h;split at h
 ·omega
 ·assumption
def zi6 (s:Gr.Str) (w:World) (e:Ending) (w':World):Prop:=∃(t:RT) (r:Int),e=.returned (.tuple #[t.v,.int .i64 r])/\Below w.heap.size w w'/\
 match dateAt s with
 |none=>r=-1
 |some (y,m,d)=>r=10/\t=⟨true,false,false,y,m,d,0,0,0,0,0,false⟩
theorem zbh {w:World} (a b:Obj):Below w.heap.size w ((w.alloc a).alloc b):=((Below.refl _ _).alloc (Nat.le_refl _) _).alloc (by simp) _
theorem zgx (s:Gr.Str) (hl:s.length<=1073741823) (w:World):
 Calls prog 134 #[.string ⟨s.toArray⟩,.int .i64 0,.agg #[.bool false,.bool false,.bool false,.int .i64 0,.int .i64 0,.int .i64 0,.int .i64 0,.int .i64 0,.int .i64 0,.int .i64 0,.int .i64 0,.bool false]] w (zi6 s w):=by
 have HT1:=hid (fun W=>zb2 s hl 0 4 0 4 rfl rfl (by omega) (by omega) W);have HT2:=hid (fun W=>zb2 s hl 5 2 5 2 rfl rfl (by omega) (by omega) W);have HT3:=hid (fun W=>zb2 s hl 8 2 8 2 rfl rfl (by omega) (by omega) W);have HI1:=hid (fun W=>zb3 s hl 4 4 rfl 45 45 rfl W);have HI2:=hid (fun W=>zb3 s hl 7 7 rfl 45 45 rfl W);have HSY:=hid (fun h=> @zb5 s 0 4 h);have HSM:=hid (fun h=> @zb5 s 5 2 h);have HSD:=hid (fun h=> @zb5 s 8 2 h);have HNY:=hid (fun h=> @zb6 s 0 4 h);have HNM:=hid (fun h=> @zb6 s 5 2 h);have HND:=hid (fun h=> @zb6 s 8 2 h);have bY:=zgw s 0 4 (by omega);have bM:=zgw s 5 2 (by omega);have bD:=zgw s 8 2 (by omega);obtain⟨Y,hY⟩:=ex (tw s 0 4)
 obtain⟨M,hM⟩:=ex (tw s 5 2)
 obtain⟨D,hD⟩:=ex (tw s 8 2)
 obtain⟨p,hp⟩:=ex (isAt s 4 45)
 obtain⟨q,hq⟩:=ex (isAt s 7 45)
 have HP:Hid (isAt s 4 45=p/\isAt s 7 45=q):=hid ⟨hp,hq⟩;rw[hY]at HT1 HSY HNY bY;rw[hM]at HT2 HSM HNM bM;rw[hD]at HT3 HSD HND bD;rw[hp]at HI1;rw[hq]at HI2;clear hY hM hD hp hq;have hc:Y<0\/(¬Y<0/\M<0)\/(¬Y<0/\¬M<0/\D<0)\/(¬Y<0/\¬M<0/\¬D<0/\p=false)\/(¬Y<0/\¬M<0/\¬D<0/\p=true/\q=false)\/(¬Y<0/\¬M<0/\¬D<0/\p=true/\q=true):=by
  cases p<;>cases q<;>simp<;>omega
 have go:∀(r:Int) (ok:Bool) (w':World),Below w.heap.size w w'->(dateAt s=none/\r=-1\/∃y m d:Nat,dateAt s=some (y,m,d)/\r=10/\ok=true/\Y=y/\M=m/\D=d)->zi6 s w (.returned (.tuple #[.agg #[.bool ok,.bool false,.bool false,.int .i64 Y,.int .i64 M,.int .i64 D,.int .i64 0,.int .i64 0,.int .i64 0,.int .i64 0,.int .i64 0,.bool false],.int .i64 r])) w':=by
  intro r ok w' hb h;refine⟨⟨ok,false,false,Y,M,D,0,0,0,0,0,false⟩,r,rfl,hb,?_⟩;rcases h with⟨h1,h2⟩|⟨y,m,d,h1,h2,h3,rfl,rfl,rfl⟩
  ·rw[h1];exact h2
  ·rw[h1];exact⟨h2,by rw[h3]⟩
 have HGO:=hid go;clear go;rcases hc with c1|⟨c1,c2⟩|⟨c1,c2,c3⟩|⟨c1,c2,c3,rfl⟩|⟨c1,c2,c3,rfl,rfl⟩|⟨c1,c2,c3,rfl,rfl⟩
 case inr.inr.inr.inr.inr=>
  have HF:Hid (∃y m d:Nat,dateAt s=some (y,m,d)/\Y=y/\M=m/\D=d):=hid (by
   obtain⟨y,h1,h2⟩:=HSY.out c1;obtain⟨m,h3,h4⟩:=HSM.out c2;obtain⟨d,h5,h6⟩:=HSD.out c3;refine⟨y,m,d,?_,h2,h4,h6⟩;unfold dateAt;rw[h1,h3,h5,HP.out.1,HP.out.2];rfl)
  go_enter func134,ntmps134;go_wp2_with fail;refine(HT1.out _).mono ?_;rintro e w1 ⟨rfl,rfl⟩;go_wp2_with fail;refine(HT2.out _).mono ?_;rintro e w1 ⟨rfl,rfl⟩;go_wp2_with fail;refine(HT3.out _).mono ?_;rintro e w1 ⟨rfl,rfl⟩;go_wp2_with fail;refine(HI1.out _).mono ?_;rintro e w1 ⟨rfl,rfl⟩;go_wp2_with fail;refine(HI2.out _).mono ?_;rintro e w1 ⟨rfl,rfl⟩;go_wp2_with fail;refine bodyPost_ret (v:=.tuple #[.agg #[.bool true,.bool false,.bool false,.int .i64 Y,.int .i64 M,.int .i64 D,.int .i64 0,.int .i64 0,.int .i64 0,.int .i64 0,.int .i64 0,.bool false],.int .i64 10]) (by rw[results_cell_tmp rfl];go_simp) rfl ?_;refine HGO.out _ _ _ (zbh _ _) (.inr ?_);obtain⟨y,m,d,h1,h2,h3,h4⟩:=HF.out;exact⟨y,m,d,h1,rfl,rfl,h2,h3,h4⟩
 all_goals
  have HF:Hid (dateAt s=none):=hid (by
   unfold dateAt
   first
    | (rw[HNY.out c1])
    | (obtain⟨y,h1,_⟩:=HSY.out c1;rw[h1,HNM.out c2])
    | (obtain⟨y,h1,_⟩:=HSY.out c1;obtain⟨m,h3,_⟩:=HSM.out c2;rw[h1,h3,HND.out c3])
    | (obtain⟨y,h1,_⟩:=HSY.out c1;obtain⟨m,h3,_⟩:=HSM.out c2;obtain⟨d,h5,_⟩:=HSD.out c3;rw[h1,h3,h5,HP.out.1,HP.out.2];rfl)
    | (obtain⟨y,h1,_⟩:=HSY.out c1;obtain⟨m,h3,_⟩:=HSM.out c2;obtain⟨d,h5,_⟩:=HSD.out c3;rw[h1,h3,h5,HP.out.1];rfl))
  go_enter func134,ntmps134;go_wp2_with fail;refine(HT1.out _).mono ?_;rintro e w1 ⟨rfl,rfl⟩;go_wp2_with fail;refine(HT2.out _).mono ?_;rintro e w1 ⟨rfl,rfl⟩;go_wp2_with fail;refine(HT3.out _).mono ?_;rintro e w1 ⟨rfl,rfl⟩;go_wp2_with fail;(try (refine(HI1.out _).mono ?_;rintro e w1 ⟨rfl,rfl⟩;go_wp2_with fail));(try (refine(HI2.out _).mono ?_;rintro e w1 ⟨rfl,rfl⟩;go_wp2_with fail));refine bodyPost_ret (v:=.tuple #[.agg #[.bool false,.bool false,.bool false,.int .i64 Y,.int .i64 M,.int .i64 D,.int .i64 0,.int .i64 0,.int .i64 0,.int .i64 0,.int .i64 0,.bool false],.int .i64 (-1)]) (by rw[results_cell_tmp rfl];go_simp) rfl ?_;exact HGO.out _ _ _ (zbh _ _) (.inl ⟨HF.out,rfl⟩)
end Go.Proofs.YtoigpackhninoaaGreatDoor
