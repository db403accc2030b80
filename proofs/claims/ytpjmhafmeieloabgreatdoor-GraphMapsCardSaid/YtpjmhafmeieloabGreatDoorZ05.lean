import Derived.Shelf.Spec.TrailingZeros
import Derived.Test.YtpjmhafmeieloabGreatDoorZ02
namespace Go.Proofs.YtpjmhafmeieloabGreatDoor
open Go.RowKit
theorem zez {w w':World} (hb:Below w.heap.size w w') {a:Addr} {v:Value} (hc:w.cell? a=some v):w'.cell? a=some v:=(hb.cell (World.block_lt_of_cell? w a hc)).trans hc
theorem zse {P:Program} {n:String} {g:Nat} {k:IntKind} {zs:List Int} {w w':World} (hg:P.globalNamed n=some g) (h:Lib.TabIs P w n k zs) (hb:Below w.heap.size w w'):Lib.TabIs P w' n k zs:=by
 unfold Lib.TabIs World.var? at h ⊢;rw[hg]at h ⊢;simp only[Option.bind_some]at h ⊢;have a:g<w.heap.size:=by
  rcases Nat.lt_or_ge g w.heap.size with h'|h'
  .exact h'
  .rw[Array.getElem?_eq_none h']at h;cases h
 rw[hb.block g a];exact h
def Stays (T:World->Prop):Prop:=∀w w',T w->Below w.heap.size w w'->T w'
structure UT (w:World):Prop where
 utf:Lib.Utf8Tabs 1 2 w
 sz:3<=w.heap.size
 pow:Lib.TabIs Tryz.prog w "internal/strconv.uint64pow10" .u64 Lib.pow10Tab
 bru:TabAt 6 Lib.deBruijn64tab w
 es:∃te p,w.cell? ⟨4,0,none⟩=some (.iface te p)
 er:∃te p,w.cell? ⟨5,0,none⟩=some (.iface te p)
theorem UT.stays:Stays UT:=fun w w' h a=>by
 refine⟨zdu h.utf (a.mono h.sz) (Nat.le_refl _),Nat.le_trans h.sz a.size,zse (show Tryz.prog.globalNamed "internal/strconv.uint64pow10" =some 7 by kernel_rfl) h.pow a,fun j d=>zez a (h.bru j d),?_,?_⟩
 .obtain⟨c,p,b⟩:=h.es;exact⟨c,p,zez a b⟩
 .obtain⟨c,p,b⟩:=h.er;exact⟨c,p,zez a b⟩
open _root_.Go.Proofs.Tryz
theorem zuj (s:Gr.Str) (k:Nat) (i:Int) (hi:i=k) (h:k<=s.length) (W:World):(Instr.slice 9 (.string ⟨s.toArray⟩) none (some (.int .i64 i)) none).run prog W=.ok (.string ⟨(s.take k).toArray⟩) W:=by
 subst hi;rw[run_slice_string_h (P:=prog) W 9 ⟨s.toArray⟩ underlying9 .i64 k (by omega) (by simp[ByteArray.size];omega)]
 congr 2
 apply ByteArray.ext;simp
theorem zxo (s:Gr.Str) (k:Nat) (i:Int) (hi:i=k) (h:k<=s.length) (W:World):(Instr.slice 9 (.string ⟨s.toArray⟩) (some (.int .i64 i)) none none).run prog W=.ok (.string ⟨(s.drop k).toArray⟩) W:=by
 subst hi;rw[run_slice_string_l (P:=prog) W 9 ⟨s.toArray⟩ underlying9 .i64 k (by omega) (by simp[ByteArray.size];omega)]
 congr 2
 apply ByteArray.ext;simp[ByteArray.size];rw[List.take_of_length_le (by simp)]
theorem zvo (a b:Gr.Str):(⟨a.toArray⟩:ByteArray)++⟨b.toArray⟩=⟨(a++b).toArray⟩:=by
 apply ByteArray.ext;simp
theorem zac (a b:Gr.Str) (h:a.length+b.length<=9223372036854775807) (W:World):(Op.stringOp .add ⟨a.toArray⟩ ⟨b.toArray⟩).run prog W=.ok (.string ⟨(a++b).toArray⟩) W:=by
 rw[run_string_add_sum (P:=prog) (w:=W) ⟨a.toArray⟩ ⟨b.toArray⟩ (by simpa[ByteArray.size]using h),zvo]
theorem zoq (a b:Gr.Str):((⟨a.toArray⟩:ByteArray)==⟨b.toArray⟩)=decide (a=b):=by
 show(a.toArray==b.toArray)=_;rw[Bool.eq_iff_iff];simp
open Gr
open _root_.Go.Lib (hid)
set_option maxRecDepth 100000
set_option maxHeartbeats 16000000
structure RT where
 date:Bool
 time:Bool
 zone:Bool
 y:Int
 m:Int
 d:Int
 h:Int
 mi:Int
 c:Int
 nanos:Int
 off:Int
 late:Bool
def RT.v (t:RT):Value:=.agg #[.bool t.date,.bool t.time,.bool t.zone,.int .i64 t.y,.int .i64 t.m,.int .i64 t.d,.int .i64 t.h,.int .i64 t.mi,.int .i64 t.c,.int .i64 t.nanos,.int .i64 t.off,.bool t.late]
def RT.z:RT:=⟨false,false,false,0,0,0,0,0,0,0,0,false⟩
theorem zic (s:Gr.Str) (a n:Nat) (hn:n<=9):-1<=tw s a n/\tw s a n<=999999999:=by
 unfold tw;split
 .rename_i v h;have:=zcw h hn;omega
 .omega
theorem zcn {s:Gr.Str} {a n:Nat} (h:¬tw s a n<0):∃v:Nat,numAt s a n=some v/\tw s a n=(v:Int):=by
 unfold tw at h ⊢;split
 .rename_i v hv;exact⟨v,by rw[hv],rfl⟩
 .rename_i hv;rw[hv]at h;simp at h
theorem zco {s:Gr.Str} {a n:Nat} (h:tw s a n<0):numAt s a n=none:=by
 unfold tw at h;split at h
 .omega
 .assumption
def zk4 (s:Gr.Str) (w:World) (e:Ending) (w':World):Prop:=∃(t:RT) (r:Int),e=.returned (.tuple #[t.v,.int .i64 r])/\Below w.heap.size w w'/\
 match dateAt s with
 |none=>r=-1
 |some (y,m,d)=>r=10/\t=⟨true,false,false,y,m,d,0,0,0,0,0,false⟩
theorem zbv {w:World} (a b:Obj):Below w.heap.size w ((w.alloc a).alloc b):=((Below.refl _ _).alloc (Nat.le_refl _) _).alloc (by simp) _
theorem zid (s:Gr.Str) (hl:s.length<=1073741823) (w:World):
 Calls prog 181 #[.string ⟨s.toArray⟩,.int .i64 0,.agg #[.bool false,.bool false,.bool false,.int .i64 0,.int .i64 0,.int .i64 0,.int .i64 0,.int .i64 0,.int .i64 0,.int .i64 0,.int .i64 0,.bool false]] w (zk4 s w):=by
 have t:=hid (fun W=>zck s hl 0 4 0 4 rfl rfl (by omega) (by omega) W);have o:=hid (fun W=>zck s hl 5 2 5 2 rfl rfl (by omega) (by omega) W);have k:=hid (fun W=>zck s hl 8 2 8 2 rfl rfl (by omega) (by omega) W);have n:=hid (fun W=>zcl s hl 4 4 rfl 45 45 rfl W);have j:=hid (fun W=>zcl s hl 7 7 rfl 45 45 rfl W);have b:=hid (fun h=> @zcn s 0 4 h);have f:=hid (fun h=> @zcn s 5 2 h);have i:=hid (fun h=> @zcn s 8 2 h);have u:=hid (fun h=> @zco s 0 4 h);have A:=hid (fun h=> @zco s 5 2 h);have C:=hid (fun h=> @zco s 8 2 h);have R:=zic s 0 4 (by omega);have O:=zic s 5 2 (by omega);have Q:=zic s 8 2 (by omega);obtain⟨Y,L⟩:=ex (tw s 0 4)
 obtain⟨M,K⟩:=ex (tw s 5 2)
 obtain⟨D,I⟩:=ex (tw s 8 2)
 obtain⟨p,E⟩:=ex (isAt s 4 45)
 obtain⟨q,F⟩:=ex (isAt s 7 45)
 have z:Hid (isAt s 4 45=p/\isAt s 7 45=q):=hid ⟨E,F⟩;rw[L]at t b u R;rw[K]at o f A O;rw[I]at k i C Q;rw[E]at n;rw[F]at j;clear L K I E F;have P:Y<0\/(¬Y<0/\M<0)\/(¬Y<0/\¬M<0/\D<0)\/(¬Y<0/\¬M<0/\¬D<0/\p=false)\/(¬Y<0/\¬M<0/\¬D<0/\p=true/\q=false)\/(¬Y<0/\¬M<0/\¬D<0/\p=true/\q=true):=by
  cases p<;>cases q<;>simp<;>omega
 have J:∀(r:Int) (ok:Bool) (w':World),Below w.heap.size w w'->(dateAt s=none/\r=-1\/∃y m d:Nat,dateAt s=some (y,m,d)/\r=10/\ok=true/\Y=y/\M=m/\D=d)->zk4 s w (.returned (.tuple #[.agg #[.bool ok,.bool false,.bool false,.int .i64 Y,.int .i64 M,.int .i64 D,.int .i64 0,.int .i64 0,.int .i64 0,.int .i64 0,.int .i64 0,.bool false],.int .i64 r])) w':=by
  intro r ok w' N h;refine⟨⟨ok,false,false,Y,M,D,0,0,0,0,0,false⟩,r,rfl,N,?_⟩;rcases h with⟨a,l⟩|⟨y,m,d,a,l,c,rfl,rfl,rfl⟩
  .rw[a];exact l
  .rw[a];exact⟨l,by rw[c]⟩
 have x:=hid J;clear J;rcases P with c1|⟨c1,c2⟩|⟨c1,c2,c3⟩|⟨c1,c2,c3,rfl⟩|⟨c1,c2,c3,rfl,rfl⟩|⟨c1,c2,c3,rfl,rfl⟩
 case inr.inr.inr.inr.inr=>
  have G:Hid (∃y m d:Nat,dateAt s=some (y,m,d)/\Y=y/\M=m/\D=d):=hid (by
   obtain⟨y,a,l⟩:=b.out c1;obtain⟨m,c,H⟩:=f.out c2;obtain⟨d,B,S⟩:=i.out c3;refine⟨y,m,d,?_,l,H,S⟩;unfold dateAt;rw[a,c,B,z.out.1,z.out.2];rfl)
  go_enter func181,ntmps181;go_wp2_with fail;refine(t.out _).mono ?_;rintro e g ⟨rfl,rfl⟩;go_wp2_with fail;refine(o.out _).mono ?_;rintro e g ⟨rfl,rfl⟩;go_wp2_with fail;refine(k.out _).mono ?_;rintro e g ⟨rfl,rfl⟩;go_wp2_with fail;refine(n.out _).mono ?_;rintro e g ⟨rfl,rfl⟩;go_wp2_with fail;refine(j.out _).mono ?_;rintro e g ⟨rfl,rfl⟩;go_wp2_with fail;refine bodyPost_ret (v:=.tuple #[.agg #[.bool true,.bool false,.bool false,.int .i64 Y,.int .i64 M,.int .i64 D,.int .i64 0,.int .i64 0,.int .i64 0,.int .i64 0,.int .i64 0,.bool false],.int .i64 10]) (by rw[results_cell_tmp rfl];go_simp) rfl ?_;refine x.out _ _ _ (zbv _ _) (.inr ?_);obtain⟨y,m,d,a,l,c,H⟩:=G.out;exact⟨y,m,d,a,rfl,rfl,l,c,H⟩
 all_goals
  have G:Hid (dateAt s=none):=hid (by
   unfold dateAt
   first
    | (rw[u.out c1])
    | (obtain⟨y,a,_⟩:=b.out c1;rw[a,A.out c2])
    | (obtain⟨y,a,_⟩:=b.out c1;obtain⟨m,c,_⟩:=f.out c2;rw[a,c,C.out c3])
    | (obtain⟨y,a,_⟩:=b.out c1;obtain⟨m,c,_⟩:=f.out c2;obtain⟨d,B,_⟩:=i.out c3;rw[a,c,B,z.out.1,z.out.2];rfl)
    | (obtain⟨y,a,_⟩:=b.out c1;obtain⟨m,c,_⟩:=f.out c2;obtain⟨d,B,_⟩:=i.out c3;rw[a,c,B,z.out.1];rfl))
  go_enter func181,ntmps181;go_wp2_with fail;refine(t.out _).mono ?_;rintro e g ⟨rfl,rfl⟩;go_wp2_with fail;refine(o.out _).mono ?_;rintro e g ⟨rfl,rfl⟩;go_wp2_with fail;refine(k.out _).mono ?_;rintro e g ⟨rfl,rfl⟩;go_wp2_with fail;(try (refine(n.out _).mono ?_;rintro e g ⟨rfl,rfl⟩;go_wp2_with fail));(try (refine(j.out _).mono ?_;rintro e g ⟨rfl,rfl⟩;go_wp2_with fail));refine bodyPost_ret (v:=.tuple #[.agg #[.bool false,.bool false,.bool false,.int .i64 Y,.int .i64 M,.int .i64 D,.int .i64 0,.int .i64 0,.int .i64 0,.int .i64 0,.int .i64 0,.bool false],.int .i64 (-1)]) (by rw[results_cell_tmp rfl];go_simp) rfl ?_;exact x.out _ _ _ (zbv _ _) (.inl ⟨G.out,rfl⟩)
def zbc (s:Gr.Str) (a:Nat) (date:Bool) (Y M D:Int) (w:World) (e:Ending) (w':World):Prop:=∃(t:RT) (r:Int),e=.returned (.tuple #[t.v,.int .i64 r])/\Below w.heap.size w w'/\
 match clockAt s a with
 |none=>r=-1
 |some k=>r=(k.stop:Int)/\t=⟨date,true,false,Y,M,D,k.h,k.m,k.s,k.nanos,0,false⟩
def fracU (n:Nat):Nat:=if n<=8 then 10 ^ (8-n)else 0
structure Frac (s:Gr.Str) (b n N U:Nat):Prop where
 le:b+n<=s.length
 dig:((s.drop b).take n).all Gr.dig=true
 u:U=fracU n
 nn:n<=9->N=Gr.val ((s.drop b).take n)*10 ^ (9-n)
 hi:N<=999999999
theorem zpu (n:Nat):fracU n /10=fracU (n+1):=by
 unfold fracU;by_cases h:n+1<=8
 .rw[if_pos (by omega),if_pos h,show 8-n=(8-(n+1))+1 from by omega,Nat.pow_succ,Nat.mul_div_cancel _ (by omega)]
 .grind
theorem Frac.start {s:Gr.Str} {b:Nat} (h:b<=s.length):Frac s b 0 0 100000000:=⟨h,by simp,by simp[fracU],fun _=>by simp[Gr.val],by omega⟩
theorem Frac.next {s:Gr.Str} {b n N U:Nat} (h:Frac s b n N U) (hlt:b+n<s.length) (hd:Gr.dig (s[b+n])=true):Frac s b (n+1) (N+U*Gr.dv s[b+n]) (U /10):=by
 have d:=zcj s b n hlt;have c:((s.drop b).take (n+1)).all Gr.dig=true:=by rw[d,List.all_append,h.dig];simp[hd]
 refine⟨by omega,c,by rw[h.u,zpu],?_,?_⟩
 .intro g;rw[h.nn (by omega),d,zbj,h.u];unfold fracU;rw[if_pos (by omega),show 9-n=(8-n)+1 from by omega,Nat.pow_succ,show 9-(n+1)=8-n from by omega];rw[Nat.add_mul,Nat.mul_comm (10 ^ (8-n)) (Gr.dv _)]
  congr 1
  rw[Nat.mul_comm (10 ^ (8-n)) 10,<-Nat.mul_assoc,Nat.mul_comm (Gr.val _) 10]
 .by_cases g:n+1<=9
  .have e:N+U*Gr.dv s[b+n]=Gr.val ((s.drop b).take (n+1))*10 ^ (9-(n+1)):=by
    rw[h.nn (by omega),d,zbj,h.u];unfold fracU;rw[if_pos (by omega),show 9-n=(8-n)+1 from by omega,Nat.pow_succ,show 9-(n+1)=8-n from by omega];rw[Nat.add_mul,Nat.mul_comm (10 ^ (8-n)) (Gr.dv _)]
    congr 1
    rw[Nat.mul_comm (10 ^ (8-n)) 10,<-Nat.mul_assoc,Nat.mul_comm (Gr.val _) 10]
   rw[e];have f:=zev _ c;have a:((s.drop b).take (n+1)).length=n+1:=by simp;omega
   rw[a]at f;have:Gr.val ((s.drop b).take (n+1))*10 ^ (9-(n+1))<10 ^ (n+1)*10 ^ (9-(n+1)):=Nat.mul_lt_mul_of_pos_right f (Nat.pow_pos (by omega));rw[<-Nat.pow_add,show n+1+(9-(n+1))=9 from by omega]at this;omega
  .have:U=0:=by rw[h.u];unfold fracU;rw[if_neg (by omega)]
   rw[this,Nat.zero_mul];exact h.hi
theorem Frac.stop {s:Gr.Str} {b n N U:Nat} (h:Frac s b n N U) (hn:∀h2:b+n<s.length,Gr.dig (s[b+n]'h2)=false):(s.drop b).takeWhile Gr.dig=(s.drop b).take n:=by
 have a:s.drop b=(s.drop b).take n++s.drop (b+n):=by
  rw[<-List.drop_drop];exact(List.take_append_drop n (s.drop b)).symm
 rw[a,List.takeWhile_append_of_pos (by simpa using h.dig)];have h2:(s.drop (b+n)).takeWhile Gr.dig=[]:=by
  rcases Nat.lt_or_ge (b+n) s.length with h3|h3
  .rw[List.drop_eq_getElem_cons h3,List.takeWhile_cons,hn h3];rfl
  .rw[List.drop_eq_nil_of_le h3];rfl
 have hle:=h.le;rw[h2,List.append_nil,List.take_append_of_le_length (by simp;omega),List.take_take,Nat.min_self]
theorem zmk {s:Gr.Str} {a h m c n N U:Nat} (h1:numAt s a 2=some h) (h2:numAt s (a+3) 2=some m) (h3:numAt s (a+6) 2=some c) (h4:isAt s (a+2) 58=true) (h5:isAt s (a+5) 58=true) (h6:isAt s (a+8) 46=true)
 (hf:Frac s (a+9) n N U) (hn:∀h2:a+9+n<s.length,Gr.dig (s[a+9+n]'h2)=false):clockAt s a=if n<1\/9<n then none else some ⟨h,m,c,N,a+9+n⟩:=by
 have e:=hf.stop hn;have hle:=hf.le;have b:((s.drop (a+9)).take n).length=n:=by simp;omega
 unfold clockAt;rw[h1,h2,h3,h4,h5,h6,e,b];simp only[Bool.and_self,if_true];by_cases hc:n<1\/9<n
 .grind
 .rw[if_neg hc,if_neg (by omega),hf.nn (by omega)]
theorem zjx {s:Gr.Str} {a h m c:Nat} (h1:numAt s a 2=some h) (h2:numAt s (a+3) 2=some m) (h3:numAt s (a+6) 2=some c) (h4:isAt s (a+2) 58=true) (h5:isAt s (a+5) 58=true) (h6:isAt s (a+8) 46=false):clockAt s a=some ⟨h,m,c,0,a+8⟩:=by
 unfold clockAt;rw[h1,h2,h3,h4,h5,h6];rfl
end Go.Proofs.YtpjmhafmeieloabGreatDoor
