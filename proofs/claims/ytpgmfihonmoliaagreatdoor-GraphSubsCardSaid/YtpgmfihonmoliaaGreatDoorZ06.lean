import Derived.Shelf.Spec.TrailingZeros
import Derived.Test.YtpgmfihonmoliaaGreatDoorGrInt
import Derived.Test.YtpgmfihonmoliaaGreatDoorGrInsR3
import Derived.Test.YtpgmfihonmoliaaGreatDoorZ03
namespace Go.Proofs.YtpgmfihonmoliaaGreatDoor
open Go.RowKit
theorem zet {w w':World} (hb:Below w.heap.size w w') {a:Addr} {v:Value} (hc:w.cell? a=some v):w'.cell? a=some v:=(hb.cell (World.block_lt_of_cell? w a hc)).trans hc
theorem zr8 {P:Program} {n:String} {g:Nat} {k:IntKind} {zs:List Int} {w w':World} (hg:P.globalNamed n=some g) (h:Lib.TabIs P w n k zs) (hb:Below w.heap.size w w'):Lib.TabIs P w' n k zs:=by
 unfold Lib.TabIs World.var? at h ⊢;rw[hg]at h ⊢;simp only[Option.bind_some]at h ⊢;have a:g<w.heap.size:=by
  rcases Nat.lt_or_ge g w.heap.size with h'|h'
  .exact h'
  .rw[Array.getElem?_eq_none h']at h;cases h
 rw[hb.block g a];exact h
def Stays (T:World->Prop):Prop:=∀w w',T w->Below w.heap.size w w'->T w'
structure UT (w:World):Prop where
 utf:Lib.Utf8Tabs 1 2 w
 sz:3<=w.heap.size
 pow:Lib.TabIs Tryz.prog w "internal/strconv.uint64pow10" .u64 Lib.pow10Tab
 bru:TabAt 6 Lib.deBruijn64tab w
 es:∃te p,w.cell? ⟨4,0,none⟩=some (.iface te p)
 er:∃te p,w.cell? ⟨5,0,none⟩=some (.iface te p)
theorem UT.stays:Stays UT:=fun w w' h a=>by
 refine⟨zdv h.utf (a.mono h.sz) (Nat.le_refl _),Nat.le_trans h.sz a.size,zr8 (show Tryz.prog.globalNamed "internal/strconv.uint64pow10" =some 7 by kernel_rfl) h.pow a,fun j d=>zet a (h.bru j d),?_,?_⟩
 .obtain⟨c,p,b⟩:=h.es;exact⟨c,p,zet a b⟩
 .obtain⟨c,p,b⟩:=h.er;exact⟨c,p,zet a b⟩
open _root_.Go.Proofs.Tryz
set_option maxRecDepth 100000
set_option maxHeartbeats 16000000
theorem zea (n:Gr.Str) (hl:n.length<=1073741823) (w:World):
 Calls prog 40 #[.string ⟨n.toArray⟩] w fun e w'=>e=.returned (.bool (Gr.intB n))/\Below w.heap.size w w':=by
 have d:=Lib.hid (fun W=>zjj n hl W);obtain⟨r,g⟩:=ex (Gr.intB n)
 rw[g]at d ⊢;clear g;go_enter func40,ntmps40;go_wp2_with fail;refine(d.out _).mono ?_;rintro e w2 ⟨b,A,m,c,rfl,f⟩;have a:=Lib.hid f;clear f;go_wp2;go_ret;exact⟨rfl,a.out.alloc a.out.size _⟩
open Gr
open _root_.Go.Lib (hid)
def d8 (d:List Nat):List UInt8:=d.map UInt8.ofNat
theorem zxt (d:List Nat):(d8 d).length=d.length:=by simp[d8]
def zpe (w:World) (d:List Nat) (e:Ending) (w':World):Prop:=∃g,e=.returned (.slice (some ⟨g,0,none⟩) d.length d.length)/\w.heap.size<=g/\Blk w' g 5 (ucells (d8 d))/\Below w.heap.size w w'
theorem zky (a:List UInt8) (n:Nat) (x:UInt8) (h:0<n):(a++List.replicate n 0).set a.length x=(a++[x])++List.replicate (n-1) 0:=by
 obtain⟨m,rfl⟩:∃m,n=m+1:=⟨n-1,by omega⟩
 rw[List.set_append_right _ _ (Nat.le_refl _),Nat.sub_self,List.replicate_succ,List.set_cons_zero,List.append_assoc];rfl
theorem zpf (s:Gr.Str) (hl:s.length<=1073741823) (hd:s.all Gr.dig=true) (w:World):
 Calls prog 76 #[.string ⟨s.toArray⟩] w (zpe w (vals s)):=by
 have t:=fun W=>zcu s.length (by omega) W
 go_enter func76,ntmps76;go_upto_region 2 with fail;obtain⟨v,g⟩:=ex (w.alloc (.cells (ucells (List.replicate s.length 0)) 5))
 obtain⟨c,d⟩:=ex w.heap.size
 have r:Hid (Blk v c 5 (ucells (List.replicate s.length 0))/\Below c w v):=hid (by rw[<-g,<-d];exact⟨Blk.new _ _ _,(Below.refl _ _).alloc (Nat.le_refl _) _⟩);have m:=hid d;have B:=hid hd;rw[g];(try rw[d]);clear g d t hd;go_wp2_with fail;go_loopw [10] (fun s10 wr=>∃k:Nat,k<=s.length/\s10=.int .i64 k/\Hid (Blk wr c 5 (ucells (d8 (vals (s.take k))++List.replicate (s.length-k) 0))/\Below c w wr)) (fun s10 _=>s.length-(intOf s10).toNat)
 case atStart=>exact⟨0,by omega,rfl,hid (by simpa[vals,d8]using r.out)⟩
 case round=>
  obtain⟨k,hk,rfl,h⟩:=hrel;by_cases hlt:k<s.length
  .have l:(k:Int)<(s.length:Int):=by omega
   obtain⟨b,q⟩:∃b:Nat,(s[k]'(by omega)).toNat=b:=⟨_,rfl⟩
   have hbv:(((⟨s.toArray⟩:ByteArray)[k]'(by simpa[ByteArray.size]using hlt)).toNat:Int)=(b:Int):=by rw[<-q];rfl
   have o:=(zbh (s[k]'hlt)).1 (List.all_eq_true.1 B.out _ (List.getElem_mem hlt));rw[q]at o;have a48:(48:Int)<=(b:Int):=by omega
   have a57:(b:Int)<=57:=by omega
   have pfd:∀j,wr.frozen? ⟨c,j,none⟩=false:=h.out.1.frozen;have a:(d8 (vals (s.take k))).length=k:=by simp[d8,vals];omega
   obtain⟨y,zd⟩:∃y,wr.cell? ⟨c,k,none⟩=some y:=by
    rw[h.out.1.cell];refine⟨_,Array.getElem?_eq_getElem (i:=k) ?_⟩;simp[ucells,a];omega
   have n:Hid (d8 (vals (s.take (k+1)))=d8 (vals (s.take k))++[UInt8.ofNat (b-48)]/\(d8 (vals (s.take k))).length=k):=hid ⟨by
    rw[List.take_succ_eq_append_getElem hlt];simp only[d8,vals,List.map_append,List.map_cons,List.map_nil,Gr.dv,q],a⟩
   clear q o a;go_wp2_with fail;obtain⟨f,e⟩:∃f:UInt8,f=UInt8.ofNat (b-48):=⟨_,rfl⟩
   have p:(b:Int)-48=(f.toNat:Int):=by rw[e,UInt8.toNat_ofNat'];omega
   rw[p];have A:Hid (Blk (wr.setCell ⟨c,k,none⟩ (.int .u8 (f.toNat:Int))) c 5 (ucells (d8 (vals (s.take (k+1)))++List.replicate (s.length-(k+1)) 0))/\Below c w (wr.setCell ⟨c,k,none⟩ (.int .u8 (f.toNat:Int)))):=hid ⟨by
    have u:=h.out.1.set_ k (.int .u8 (f.toNat:Int));rw[zdx]at u;have x:=zky (d8 (vals (s.take k))) (s.length-k) f (by omega);rw[n.out.2]at x;rw[x]at u;rw[n.out.1,<-e,show s.length-(k+1)=s.length-k-1 from by omega];exact u,h.out.2.setCell (by simp) _⟩
   clear p e;go_roundw
   case rel=>exact⟨k+1,by omega,by go_num,A⟩
   case measure=>simp[intOf];omega
  .have l:¬(k:Int)<(s.length:Int):=by omega
   have z:Hid (Blk wr c 5 (ucells (d8 (vals s)))):=hid (by
    have:=h.out.1;rwa[show k=s.length from by omega,List.take_length,Nat.sub_self,List.replicate_zero,List.append_nil]at this)
   go_wp2;go_ret;refine⟨c,?_,by rw[m.out];exact Nat.le_refl _,z.out,by rw[m.out];exact h.out.2⟩;simp[vals]
def zbf (s:Gr.Str) (a:Nat) (date:Bool) (Y M D:Int) (w:World) (e:Ending) (w':World):Prop:=∃(t:RT) (r:Int),e=.returned (.tuple #[t.v,.int .i64 r])/\Below w.heap.size w w'/\
 match clockAt s a with
 |none=>r=-1
 |some k=>r=(k.stop:Int)/\t=⟨date,true,false,Y,M,D,k.h,k.m,k.s,k.nanos,0,false⟩
def fracU (n:Nat):Nat:=if n<=8 then 10 ^ (8-n)else 0
structure Frac (s:Gr.Str) (b n N U:Nat):Prop where
 le:b+n<=s.length
 dig:((s.drop b).take n).all Gr.dig=true
 u:U=fracU n
 nn:n<=9->N=Gr.val ((s.drop b).take n)*10 ^ (9-n)
 hi:N<=999999999
theorem zp8 (n:Nat):fracU n /10=fracU (n+1):=by
 unfold fracU;by_cases h:n+1<=8
 .rw[if_pos (by omega),if_pos h,show 8-n=(8-(n+1))+1 from by omega,Nat.pow_succ,Nat.mul_div_cancel _ (by omega)]
 .grind
theorem Frac.start {s:Gr.Str} {b:Nat} (h:b<=s.length):Frac s b 0 0 100000000:=⟨h,by simp,by simp[fracU],fun _=>by simp[Gr.val],by omega⟩
theorem Frac.next {s:Gr.Str} {b n N U:Nat} (h:Frac s b n N U) (hlt:b+n<s.length) (hd:Gr.dig (s[b+n])=true):Frac s b (n+1) (N+U*Gr.dv s[b+n]) (U /10):=by
 have d:=zcl s b n hlt;have c:((s.drop b).take (n+1)).all Gr.dig=true:=by rw[d,List.all_append,h.dig];simp[hd]
 refine⟨by omega,c,by rw[h.u,zp8],?_,?_⟩
 .intro g;rw[h.nn (by omega),d,zbl,h.u];unfold fracU;rw[if_pos (by omega),show 9-n=(8-n)+1 from by omega,Nat.pow_succ,show 9-(n+1)=8-n from by omega];rw[Nat.add_mul,Nat.mul_comm (10 ^ (8-n)) (Gr.dv _)]
  congr 1
  rw[Nat.mul_comm (10 ^ (8-n)) 10,<-Nat.mul_assoc,Nat.mul_comm (Gr.val _) 10]
 .by_cases g:n+1<=9
  .have e:N+U*Gr.dv s[b+n]=Gr.val ((s.drop b).take (n+1))*10 ^ (9-(n+1)):=by
    rw[h.nn (by omega),d,zbl,h.u];unfold fracU;rw[if_pos (by omega),show 9-n=(8-n)+1 from by omega,Nat.pow_succ,show 9-(n+1)=8-n from by omega];rw[Nat.add_mul,Nat.mul_comm (10 ^ (8-n)) (Gr.dv _)]
    congr 1
    rw[Nat.mul_comm (10 ^ (8-n)) 10,<-Nat.mul_assoc,Nat.mul_comm (Gr.val _) 10]
   rw[e];have f:=ze1 _ c;have a:((s.drop b).take (n+1)).length=n+1:=by simp;omega
   rw[a]at f;have:Gr.val ((s.drop b).take (n+1))*10 ^ (9-(n+1))<10 ^ (n+1)*10 ^ (9-(n+1)):=Nat.mul_lt_mul_of_pos_right f (Nat.pow_pos (by omega));rw[<-Nat.pow_add,show n+1+(9-(n+1))=9 from by omega]at this;omega
  .have:U=0:=by rw[h.u];unfold fracU;rw[if_neg (by omega)]
   rw[this,Nat.zero_mul];exact h.hi
theorem Frac.stop {s:Gr.Str} {b n N U:Nat} (h:Frac s b n N U) (hn:∀h2:b+n<s.length,Gr.dig (s[b+n]'h2)=false):(s.drop b).takeWhile Gr.dig=(s.drop b).take n:=by
 have a:s.drop b=(s.drop b).take n++s.drop (b+n):=by
  rw[<-List.drop_drop];exact(List.take_append_drop n (s.drop b)).symm
 rw[a,List.takeWhile_append_of_pos (by simpa using h.dig)];have h2:(s.drop (b+n)).takeWhile Gr.dig=[]:=by
  rcases Nat.lt_or_ge (b+n) s.length with h3|h3
  .rw[List.drop_eq_getElem_cons h3,List.takeWhile_cons,hn h3];rfl
  .rw[List.drop_eq_nil_of_le h3];rfl
 have hle:=h.le;rw[h2,List.append_nil,List.take_append_of_le_length (by simp;omega),List.take_take,Nat.min_self]
theorem zmu {s:Gr.Str} {a h m c n N U:Nat} (h1:numAt s a 2=some h) (h2:numAt s (a+3) 2=some m) (h3:numAt s (a+6) 2=some c) (h4:isAt s (a+2) 58=true) (h5:isAt s (a+5) 58=true) (h6:isAt s (a+8) 46=true)
 (hf:Frac s (a+9) n N U) (hn:∀h2:a+9+n<s.length,Gr.dig (s[a+9+n]'h2)=false):clockAt s a=if n<1\/9<n then none else some ⟨h,m,c,N,a+9+n⟩:=by
 have e:=hf.stop hn;have hle:=hf.le;have b:((s.drop (a+9)).take n).length=n:=by simp;omega
 unfold clockAt;rw[h1,h2,h3,h4,h5,h6,e,b];simp only[Bool.and_self,if_true];by_cases hc:n<1\/9<n
 .grind
 .rw[if_neg hc,if_neg (by omega),hf.nn (by omega)]
theorem zjz {s:Gr.Str} {a h m c:Nat} (h1:numAt s a 2=some h) (h2:numAt s (a+3) 2=some m) (h3:numAt s (a+6) 2=some c) (h4:isAt s (a+2) 58=true) (h5:isAt s (a+5) 58=true) (h6:isAt s (a+8) 46=false):clockAt s a=some ⟨h,m,c,0,a+8⟩:=by
 unfold clockAt;rw[h1,h2,h3,h4,h5,h6];rfl
theorem ziu (date time zone:Bool) (y m d h mi c nanos off:Int) (late:Bool) (h0:0<=y) (h1:y<=9999) (h2:1<=m) (h3:m<=12) (h4:0<=d) (h5:d<=1000) (h6:0<=h) (h7:h<=1000) (h8:0<=mi) (h9:mi<=1000) (h10:0<=c) (h11:c<=1000) (h12:-1000000<=off) (h13:off<=1000000) (w:World):
 Calls prog 160 #[.agg #[.bool date,.bool time,.bool zone,.int .i64 y,.int .i64 m,.int .i64 d,.int .i64 h,.int .i64 mi,.int .i64 c,.int .i64 nanos,.int .i64 off,.bool late]] w fun e w'=>e=.returned (.int .i64 (86400*Cal.num y m d+3600*h+60*mi+c-off))/\Below w.heap.size w w':=by
 have t:=Lib.hid (fun W=>zim y m d h0 (by omega) h2 h3 h4 h5 W);have r:=Cal.zxw y h0 (by omega);have n:=Cal.zx0 y m;have j:-800000<=Cal.num y m d:=by unfold Cal.num;omega
 have l:Cal.num y m d<=4000000:=by unfold Cal.num;omega
 obtain⟨q,s⟩:=ex (Cal.num y m d)
 rw[s]at t j l ⊢;clear r n s;go_enter func160,ntmps160;go_upto_region 1 with fail;obtain⟨f,g⟩:=ex w.heap.size
 obtain⟨b,i⟩:∃b,b=w.alloc (.cells #[.bool date,.bool time,.bool zone,.int .i64 y,.int .i64 m,.int .i64 d,.int .i64 h,.int .i64 mi,.int .i64 c,.int .i64 nanos,.int .i64 off,.bool late] 147):=⟨_,rfl⟩
 have a:Hid (Blk b f 147 (T12 date time zone y m d h mi c nanos off late)/\Below f w b):=Lib.hid (by rw[i,<-g];exact⟨Blk.new _ _ _,(Below.refl _ _).alloc (Nat.le_refl _) _⟩);have k:=Lib.hid g;(try rw[<-i]);(try rw[g]);clear i g;have u:∀W:WB b.heap.size b,W.w.cell? ⟨f,3,none⟩=some (.int .i64 y):=fun W=>(W.h.cell (p:=⟨f,3,none⟩) a.out.1.lt).trans (a.out.1.cell 3)
 have v:∀W:WB b.heap.size b,W.w.cell? ⟨f,4,none⟩=some (.int .i64 m):=fun W=>(W.h.cell (p:=⟨f,4,none⟩) a.out.1.lt).trans (a.out.1.cell 4)
 have A:∀W:WB b.heap.size b,W.w.cell? ⟨f,5,none⟩=some (.int .i64 d):=fun W=>(W.h.cell (p:=⟨f,5,none⟩) a.out.1.lt).trans (a.out.1.cell 5)
 have E:∀W:WB b.heap.size b,W.w.cell? ⟨f,6,none⟩=some (.int .i64 h):=fun W=>(W.h.cell (p:=⟨f,6,none⟩) a.out.1.lt).trans (a.out.1.cell 6)
 have x:∀W:WB b.heap.size b,W.w.cell? ⟨f,7,none⟩=some (.int .i64 mi):=fun W=>(W.h.cell (p:=⟨f,7,none⟩) a.out.1.lt).trans (a.out.1.cell 7)
 have D:∀W:WB b.heap.size b,W.w.cell? ⟨f,8,none⟩=some (.int .i64 c):=fun W=>(W.h.cell (p:=⟨f,8,none⟩) a.out.1.lt).trans (a.out.1.cell 8)
 have o:∀W:WB b.heap.size b,W.w.cell? ⟨f,10,none⟩=some (.int .i64 off):=fun W=>(W.h.cell (p:=⟨f,10,none⟩) a.out.1.lt).trans (a.out.1.cell 10)
 have x1:IntKind.i64.wrap (86400*q)=86400*q:=IntWalk.i64_in _ (by omega);have x2:IntKind.i64.wrap (3600*h)=3600*h:=IntWalk.i64_in _ (by omega);have x3:IntKind.i64.wrap (86400*q+3600*h)=86400*q+3600*h:=IntWalk.i64_in _ (by omega);have x4:IntKind.i64.wrap (60*mi)=60*mi:=IntWalk.i64_in _ (by omega);have x5:IntKind.i64.wrap (86400*q+3600*h+60*mi)=86400*q+3600*h+60*mi:=IntWalk.i64_in _ (by omega);have x6:IntKind.i64.wrap (86400*q+3600*h+60*mi+c)=86400*q+3600*h+60*mi+c:=IntWalk.i64_in _ (by omega);have x7:IntKind.i64.wrap (86400*q+3600*h+60*mi+c-off)=86400*q+3600*h+60*mi+c-off:=IntWalk.i64_in _ (by omega);refine zac b.heap.size b (by kernel_rfl) (by kernel_rfl) (Below.refl _ _) ?_
 iterate 23 (try go_big_quiet_step ((with_reducible refine Calls.grow ((t.out _).mono (fun _ _ ⟨C,B⟩=>⟨C,B▸WB.h _⟩)))))
 refine wpQuiet_nil ?_;rintro _ ⟨z,rfl⟩;clear u v A E x D o;go_wp2;go_ret;rw[k.out];exact⟨rfl,a.out.2.trans (z.h.mono (Nat.le_of_lt a.out.1.lt))⟩
end Go.Proofs.YtpgmfihonmoliaaGreatDoor
