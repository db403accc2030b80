import Derived.Test.YtoigpackhninoaaGreatDoorZ04
import Derived.Shelf.Spec.TrailingZeros
namespace Go.Proofs.YtoigpackhninoaaGreatDoor
open Go.RowKit
theorem zex {w w':World} (hb:Below w.heap.size w w') {a:Addr} {v:Value} (hc:w.cell? a=some v):w'.cell? a=some v:=(hb.cell (World.block_lt_of_cell? w a hc)).trans hc
theorem zr7 {P:Program} {n:String} {g:Nat} {k:IntKind} {zs:List Int} {w w':World} (hg:P.globalNamed n=some g) (h:Lib.TabIs P w n k zs) (hb:Below w.heap.size w w'):Lib.TabIs P w' n k zs:=by
 unfold Lib.TabIs World.var? at h ⊢;rw[hg]at h ⊢;simp only[Option.bind_some]at h ⊢;have a:g<w.heap.size:=by
  rcases Nat.lt_or_ge g w.heap.size with h'|h'
  ·exact h'
  ·rw[Array.getElem?_eq_none h']at h;cases h
 rw[hb.block g a];exact h
def Stays (T:World->Prop):Prop:=∀w w',T w->Below w.heap.size w w'->T w'
structure UT (w:World):Prop where
 utf:Lib.Utf8Tabs 1 2 w
 sz:3<=w.heap.size
 pow:Lib.TabIs Tryz.prog w "internal/strconv.uint64pow10" .u64 Lib.pow10Tab
 bru:TabAt 6 Lib.deBruijn64tab w
 es:∃te p,w.cell? ⟨4,0,none⟩=some (.iface te p)
 er:∃te p,w.cell? ⟨5,0,none⟩=some (.iface te p)
theorem UT.stays:Stays UT:=fun w w' h a=>by
 refine⟨zds h.utf (a.mono h.sz) (Nat.le_refl _),Nat.le_trans h.sz a.size,zr7 (show Tryz.prog.globalNamed "internal/strconv.uint64pow10" =some 7 by kernel_rfl) h.pow a,fun j d=>zex a (h.bru j d),?_,?_⟩
 ·obtain⟨c,p,b⟩:=h.es;exact⟨c,p,zex a b⟩
 ·obtain⟨c,p,b⟩:=h.er;exact⟨c,p,zex a b⟩
open _root_.Go.Proofs.Tryz
set_option maxRecDepth 100000
set_option maxHeartbeats 16000000
theorem zs2 (y:Int) (w:World):
 Calls prog 183 #[.int .i64 y] w fun e w'=>e=.returned (.bool (Cal.leapB y))/\w=w':=by
 go_enter func183,ntmps183;go_wp2
 all_goals go_ret
 all_goals exact⟨zrx (by simp[Cal.leapB, *]),rfl⟩
theorem zbn (y m:Int) (h1:1<=m) (h2:m<=12) (w:World):
 Calls prog 158 #[.int .i64 y,.int .i64 m] w fun e w'=>e=.returned (.int .i64 (Cal.dim y m))/\Below w.heap.size w w':=by
 have a:m=1\/m=2\/m=3\/m=4\/m=5\/m=6\/m=7\/m=8\/m=9\/m=10\/m=11\/m=12:=by omega
 rcases a with rfl|rfl|rfl|rfl|rfl|rfl|rfl|rfl|rfl|rfl|rfl|rfl
 all_goals
  go_enter func158,ntmps158;go_wp2_with (go_at_call 183;refine(zs2 _ _).mono ?_;rintro e w' ⟨rfl,rfl⟩)
  all_goals go_ret
  all_goals exact⟨znt (by simp[Cal.dim,Cal.lp, *]),(Below.refl _ _).alloc (Nat.le_refl _) _⟩
theorem ze7 (y:Int) (h0:0<=y) (h1:y<=20000) (w:World):
 Calls prog 159 #[.int .i64 y] w fun e w'=>e=.returned (.int .i64 (Cal.fst y))/\w=w':=by
 go_enter func159,ntmps159;go_wp2;go_ret;exact⟨znt (by unfold Cal.fst;omega),rfl⟩
theorem zs3 {k k':IntKind} {a b a' b':Int} (h:a=b) (h':a'=b'):Ending.returned (.tuple #[.int k a,.int k' a'])=.returned (.tuple #[.int k b,.int k' b']):=by rw[h,h']
theorem zvx (y m d:Int) (hv:Cal.vld y m d=false) (w:World):
 Calls prog 126 #[.int .i64 y,.int .i64 m,.int .i64 d] w fun e w'=>e=.returned (.tuple #[.int .i64 0,.int .i64 13])/\Below w.heap.size w w':=by
 have a:y<0\/(0<=y/\9999<y)\/(0<=y/\y<=9999/\m<1)\/(0<=y/\y<=9999/\1<=m/\12<m)\/(0<=y/\y<=9999/\1<=m/\m<=12/\d<1)\/(0<=y/\y<=9999/\1<=m/\m<=12/\1<=d/\Cal.dim y m<d):=by
  simp[Cal.vld]at hv;omega
 clear hv;rcases a with h|⟨h1,h2⟩|⟨h1,h2,h3⟩|⟨h1,h2,h3,h4⟩|⟨h1,h2,h3,h4,h5⟩|⟨h1,h2,h3,h4,h5,h6⟩
 all_goals
  go_enter func126,ntmps126;go_wp2_with (go_at_call 158;refine(zbn _ _ (by omega) (by omega) _).mono ?_;rintro e w' ⟨rfl,b⟩);go_ret2;refine⟨rfl,?_⟩
  first|exact Below.refl _ _|exact b
theorem zk2 (y m d:Int) (hv:Cal.vld y m d=true) (w:World):
 Calls prog 126 #[.int .i64 y,.int .i64 m,.int .i64 d] w fun e w'=>e=.returned (.tuple #[.int .i64 (Cal.num y m d),.int .i64 0])/\Below w.heap.size w w':=by
 have g:=Cal.zou hv;have hd:=Cal.zxh y m;have hf:=Cal.zxf y (by omega) (by omega);clear hv;obtain⟨h1,h2,h3,h4,h5,h6⟩:=g;go_enter func126,ntmps126;go_wp2_with (first| (go_at_call 158;refine(zbn _ _ (by omega) (by omega) _).mono ?_;rintro e w1 ⟨rfl,b⟩)| (go_at_call 159;refine(ze7 _ (by omega) (by omega) _).mono ?_;rintro e w' ⟨rfl,rfl⟩));go_loopw [8,9] (fun n i wr=>∃k:Int,1<=k/\k<=m/\i=.int .i64 k/\n=.int .i64 (Cal.fst y+d-1-719528+Cal.cum y k)/\Below w.heap.size w wr) (fun _ i _=>(13-intOf i).toNat)
 case atStart=>exact⟨1,by omega,by omega,rfl,by simp[Cal.zyb],b⟩
 case round=>
  obtain⟨k,hk1,hk2,rfl,rfl,c⟩:=hrel;have h:=c.size;by_cases hlt:k<m
  ·have cb:=Cal.zxj y k;have db:=Cal.zxh y k;have f:=Cal.zgr y k (by omega) (by omega);have j:=Lib.hid f;clear f;go_wp2_with (go_at_call 158;refine(zbn _ _ (by omega) (by omega) _).mono ?_;rintro e w2 ⟨rfl,a⟩);go_roundw
   case rel=>exact⟨k+1,by omega,by omega,rfl,by rw[j.out];exact congrArg (Value.int .i64) (by omega),zco c h a⟩
   case measure=>simp[intOf];omega
  ·obtain rfl:k=m:=by omega
   go_wp2;go_ret2;exact⟨zs3 (by unfold Cal.num;omega) rfl,c⟩
def DateIs (n:Int) (B:Nat) (w:World) (e:Ending) (w':World):Prop:=
 ∃y m d:Int,e=.returned (.tuple #[.int .i64 y,.int .i64 m,.int .i64 d,.int .i64 0])/\Cal.vld y m d=true/\Cal.num y m d=n/\Below B w w'
theorem zs4 (n:Int) (h1:-719528<=n) (h2:n<=2932896) (w:World):
 Calls prog 127 #[.int .i64 n] w (DateIs n w.heap.size w):=by
 have l:=Cal.zxg (n+719528) (by omega);go_enter func127,ntmps127;go_wp2;go_loop [7] (fun t=>∃y:Int,0<=y/\y<=9999/\Cal.fst y<=n+719528/\t=.int .i64 y) (fun t=>(9999-intOf t).toNat)
 case atStart=>exact⟨_,by omega,by omega,l,rfl⟩
 case round=>
  obtain⟨y,d,hy2,hy3,rfl⟩:=hrel;have o:=Cal.zko y d;have s:=Lib.hid o;clear o l;have hl:=Cal.zxe y;have bd:=Cal.zxf y (by omega) (by omega);have bd':=Cal.zxf (y+1) (by omega) (by omega);by_cases hc:Cal.fst (y+1)<=n+719528
  ·have hy4:y<9999:=by
    have:=Cal.zot;by_cases e:y=9999
    ·subst e;rw[show(9999:Int)+1=10000 from rfl]at hc;omega
    ·omega
   go_wp2_with (go_at_call 159;refine(ze7 _ (by omega) (by omega) _).mono ?_;rintro e q ⟨rfl,rfl⟩);go_round
   case rel=>exact⟨y+1,by omega,by omega,hc,rfl⟩
   case measure=>simp[intOf];omega
  ·go_wp2_with (go_at_call 159;refine(ze7 _ (by omega) (by omega) _).mono ?_;rintro e q ⟨rfl,rfl⟩);go_loopw [6,8] (fun r k wr=>∃m:Int,1<=m/\m<=12/\k=.int .i64 m/\0<=n+719528-Cal.fst y-Cal.cum y m/\r=.int .i64 (n+719528-Cal.fst y-Cal.cum y m)/\Below w.heap.size w wr) (fun _ k _=>(12-intOf k).toNat)
   case atStart=>exact⟨1,by omega,by omega,rfl,by simp[Cal.zyb];omega,by simp[Cal.zyb],Below.refl _ _⟩
   case round=>
    obtain⟨m,b,f,rfl,hr,rfl,c⟩:=hrel;have j:=c.size;have cb:=Cal.zxj y m;have db:=Cal.zxh y m;have i:=Cal.zgr y m b f;have g:=Lib.hid i;clear i;by_cases hd:Cal.dim y m<=n+719528-Cal.fst y-Cal.cum y m
    ·have hm4:m<12:=by
      by_cases e:m=12
      ·subst e;have h1:=g.out;have h2:=s.out;have h3:=Cal.zxk y;rw[show(12:Int)+1=13 from rfl]at h1;omega
      ·omega
     go_wp2_with fail;refine(zbn _ _ (by omega) (by omega) _).mono ?_;rintro e p ⟨rfl,a⟩;have hz2:=a.size;go_wp2_with fail;refine(zbn _ _ (by omega) (by omega) _).mono ?_;rintro e w3 ⟨rfl,h⟩;go_wp2;go_roundw
     case rel=>exact⟨m+1,by omega,by omega,rfl,by rw[g.out];omega,by rw[g.out];exact congrArg (Value.int .i64) (by omega),zco (zco c j a) (by omega) h⟩
     case measure=>simp[intOf];omega
    ·go_wp2_with fail;refine(zbn _ _ (by omega) (by omega) _).mono ?_;rintro e p ⟨rfl,a⟩;go_wp2_with fail;go_returns;refine⟨y,m,n+719528-Cal.fst y-Cal.cum y m+1,rfl,Cal.zyt (by omega),by unfold Cal.num;omega,zco c j a⟩
open Gr
open _root_.Go.Lib (hid)
theorem zu4 (s:Gr.Str) (a:Nat) (ha:a=if s.head?=some 45 then 1 else 0):intB s=if a=s.length\/s.length-a>400\/((s.drop a).head?=some 48/\s.length>1)then false else(s.drop a).all Gr.dig:=by
 cases s with
 |nil=>subst ha;decide
 |cons c r=>
  by_cases hc:c=45
  ·subst hc;obtain rfl:a=1:=by rw[ha];rfl
   cases r with
   |nil=>decide
   |cons d r=>
    have e:intS (45::d::r)=d::r:=by unfold intS;rw[if_pos ⟨by simp,rfl⟩];rfl
    unfold intB;rw[e];simp only[List.drop_succ_cons,List.drop_zero];by_cases h:(d::r).length>400\/((d::r).head?=some 48/\(45::d::r).length>1)
    ·rw[if_pos (.inr h),if_pos (.inr (h.imp (fun h=>by simpa using h) id))]
    ·rw[if_neg (by rintro(h1|h1);simp at h1;exact h h1),if_neg (by rintro(h1|h1);simp at h1;exact h (h1.imp (fun h=>by simpa using h) id))]
  ·obtain rfl:a=0:=by rw[ha,if_neg (by simp[hc])]
   have e:intS (c::r)=c::r:=by unfold intS;rw[if_neg (by simp[hc])]
   unfold intB;rw[e,List.drop_zero];by_cases h:(c::r).length>400\/((c::r).head?=some 48/\(c::r).length>1)
   ·rw[if_pos (.inr h),if_pos (.inr (by simpa using h))]
   ·rw[if_neg (by rintro(h1|h1);simp at h1;exact h h1),if_neg (by rintro(h1|h1);simp at h1;exact h (by simpa using h1))]
theorem zkj (c:UInt8) (b:Nat) (hb:c.toNat=b):Gr.dig c=(decide (48<=b) && decide (b<=57)):=by
 subst hb;unfold Gr.dig;rw[Bool.eq_iff_iff];simp[UInt8.le_iff_toNat_le]
theorem all_at {s:Gr.Str} {a k:Nat} (h:k<s.length) (hak:a<=k) (hd:Gr.dig s[k]=false):(s.drop a).all Gr.dig=false:=by
 rw[List.all_eq_false];refine⟨s[k],?_,by rw[hd];decide⟩;have:s[k]=(s.drop a)[k-a]'(by rw[List.length_drop];omega):=by rw[List.getElem_drop];congr 1;omega
 rw[this];exact List.getElem_mem _
theorem zeu (s:Gr.Str) (hl:s.length<=1073741823) (a:Nat) (ha:a<=s.length) (w:World) (r:Bool) (hr:Hid ((s.drop a).all Gr.dig=r)) {u1 u2 u4 u5 u6 u7 u8 u9 u10 u11 u12 u13 u14 u15 u16 u17 u18 u19 u20 u21 u22 u23 u24 u25 u26 u27 u28 u29 u30 u31 u32 u33 u34 u35 u36 u37 u38 u39 u40 u41 u42 u43 u44 u45 u46 u47 u48 u49 u50 u51:Value}:
 Code.wp prog (tl 4 (f43.body.getD .skip)) (bodyPost prog f43 (fun e w'=>e=.returned (.bool r)/\w=w')) {tmps:=List.toArray (.string ⟨s.toArray⟩::u1::u2::.int .i64 (a:Int)::u4::u5::u6::u7::u8::u9::u10::u11::u12::u13::u14::u15::u16::u17::u18::u19::u20::u21::u22::u23::u24::u25::u26::u27::u28::u29::u30::u31::u32::u33::u34::u35::u36::u37::u38::u39::u40::u41::u42::u43::u44::u45::u46::u47::u48::u49::u50::u51::[]),defers:=[]} w:=by
 generalize hc0:tl 4 (f43.body.getD .skip)=c0;simp only[tl,f43,Option.getD_some]at hc0;subst hc0;go_wp2_with fail;go_loop [4] (fun s4=>∃k:Nat,a<=k/\k<=s.length/\s4=.int .i64 (k:Int)/\Hid (∀j (h:j<s.length),a<=j->j<k->Gr.dig s[j]=true)) (fun s4=>s.length-(intOf s4).toNat)
 case atStart=>exact⟨a,Nat.le_refl _,ha,rfl,hid (fun j _ n q=>by omega)⟩
 case round=>
  obtain⟨k,d,hk,rfl,o⟩:=hrel;by_cases hlt:k<s.length
  ·have f:(k:Int)<(s.length:Int):=by omega
   obtain⟨b,l⟩:∃b:Nat,(s[k]'hlt).toNat=b:=⟨_,rfl⟩
   have hbv:(((⟨s.toArray⟩:ByteArray)[k]'(by simpa[ByteArray.size]using hlt)).toNat:Int)=(b:Int):=by rw[<-l];rfl
   have c:=hid (zkj (s[k]'hlt) b l);clear l;by_cases h48:48<=b
   ·have i:¬(b:Int)<48:=by omega
    by_cases h57:b<=57
    ·have m:¬(57:Int)<(b:Int):=by omega
     go_wp2;go_round
     case rel=>exact⟨k+1,by omega,by omega,by go_num,hid (fun j h n q=>by
      by_cases e:j=k
      ·subst e;rw[c.out];simp[h48,h57]
      ·exact o.out j h n (by omega))⟩
     case measure=>simp[intOf];omega
    ·have m:(57:Int)<(b:Int):=by omega
     have g:Hid (r=false):=hid (by rw[<-hr.out];exact all_at hlt d (by rw[c.out];simp[h57]));go_wp2;go_ret;rw[g.out];exact⟨rfl,rfl⟩
   ·have i:(b:Int)<48:=by omega
    have g:Hid (r=false):=hid (by rw[<-hr.out];exact all_at hlt d (by rw[c.out];simp[h48]));go_wp2;go_ret;rw[g.out];exact⟨rfl,rfl⟩
  ·have f:¬(k:Int)<(s.length:Int):=by omega
   have g:Hid (r=true):=hid (by
    rw[<-hr.out,List.all_eq_true];intro x p;obtain⟨j,t,rfl⟩:=List.getElem_of_mem p;rw[List.length_drop]at t;rw[List.getElem_drop];exact o.out (a+j) (by omega) (by omega) (by omega))
   go_wp2;go_ret;rw[g.out];exact⟨rfl,rfl⟩
theorem zcz (s:Gr.Str) (hl:s.length<=1073741823) (a:Nat) (ha:a<=s.length) (w:World) (r:Bool) (hr:Hid ((if a=s.length\/s.length-a>400\/((s.drop a).head?=some 48/\s.length>1)then false else(s.drop a).all Gr.dig)=r)) {u1 u2 u4 u5 u6 u7 u8 u9 u10 u11 u12 u13 u14 u15 u16 u17 u18 u19 u20 u21 u22 u23 u24 u25 u26 u27 u28 u29 u30 u31 u32 u33 u34 u35 u36 u37 u38 u39 u40 u41 u42 u43 u44 u45 u46 u47 u48 u49 u50 u51:Value}:
 Code.wp prog (tl 3 (f43.body.getD .skip)) (bodyPost prog f43 (fun e w'=>e=.returned (.bool r)/\w=w')) {tmps:=List.toArray (.string ⟨s.toArray⟩::u1::u2::.int .i64 (a:Int)::u4::u5::u6::u7::u8::u9::u10::u11::u12::u13::u14::u15::u16::u17::u18::u19::u20::u21::u22::u23::u24::u25::u26::u27::u28::u29::u30::u31::u32::u33::u34::u35::u36::u37::u38::u39::u40::u41::u42::u43::u44::u45::u46::u47::u48::u49::u50::u51::[]),defers:=[]} w:=by
 generalize hc0:tl 3 (f43.body.getD .skip)=c0;simp only[tl,f43,Option.getD_some]at hc0;subst hc0;by_cases h1:a=s.length
 ·have i:((a:Int)==(s.length:Int))=true:=by rw[beq_iff_eq];omega
  have c:Hid (r=false):=hid (by rw[<-hr.out,if_pos (.inl h1)]);clear h1;go_wp2;go_ret;rw[c.out];exact⟨rfl,rfl⟩
 ·have i:((a:Int)==(s.length:Int))=false:=by rw[beq_eq_false_iff_ne];omega
  have b:a<s.length:=by omega
  by_cases h2:s.length-a>400
  ·have f:(400:Int)<(s.length:Int)-(a:Int):=by omega
   have c:Hid (r=false):=hid (by rw[<-hr.out,if_pos (.inr (.inl h2))]);clear h1 h2;go_wp2;go_ret;rw[c.out];exact⟨rfl,rfl⟩
  ·have f:¬(400:Int)<(s.length:Int)-(a:Int):=by omega
   have d:(s.drop a).head?=some s[a]:=by rw[List.head?_drop,List.getElem?_eq_getElem b]
   by_cases h3:s[a]=48
   ·have l:=zaw s a b _ 48 48 rfl rfl h3;have m:=zap s a b _ 48 48 rfl rfl h3;by_cases h4:s.length>1
    ·have g:(1:Int)<(s.length:Int):=by omega
     have c:Hid (r=false):=hid (by rw[<-hr.out,if_pos (.inr (.inr ⟨by rw[d,h3],h4⟩))]);clear h1 h2 h3 d;go_wp2;go_ret;rw[c.out];exact⟨rfl,rfl⟩
    ·have g:¬(1:Int)<(s.length:Int):=by omega
     have j:Hid ((s.drop a).all Gr.dig=r):=hid (by rw[<-hr.out,if_neg (by rintro(h|h|⟨_,h⟩);exact h1 h;exact h2 h;exact h4 h)]);clear h1 h2 h3 d;go_upto_if 34 with fail;go_cut [] (fun k=>k=w)
     case first=>
      go_wp2;go_meet;exact rfl
     case rest=>
     subst hcut;refine(‹∀(a:Act) (w_1:World),Code.wp prog _ _ a w_1->_›) _ _ ?_;exact zeu s hl a ha _ r j
   ·have l:=zan s a b _ 48 48 rfl rfl h3;have m:=zaq s a b _ 48 48 rfl rfl h3;have j:Hid ((s.drop a).all Gr.dig=r):=hid (by rw[<-hr.out,if_neg (by rintro(h|h|⟨h,_⟩);exact h1 h;exact h2 h;rw[d]at h;injection h with h;exact h3 h)]);clear h1 h2 h3 d;go_upto_if 34 with fail;go_cut [] (fun k=>k=w)
    case first=>
     go_wp2;go_meet;exact rfl
    case rest=>
    subst hcut;refine(‹∀(a:Act) (w_1:World),Code.wp prog _ _ a w_1->_›) _ _ ?_;exact zeu s hl a ha _ r j
theorem zfw (s:Gr.Str) (hl:s.length<=1073741823) (w:World):Calls prog 43 #[.string ⟨s.toArray⟩] w fun e w'=>e=.returned (.bool (intB s))/\w=w':=by
 obtain⟨r,g⟩:=ex (intB s)
 rw[g];have b:=fun(a:Nat) ha=>hid ((zu4 s a ha).symm.trans g)
 clear g;by_cases h0:0<s.length
 ·have h:(0:Int)<(s.length:Int):=by omega
  have f:s.head?=some s[0]:=by rw[List.head?_eq_getElem?,List.getElem?_eq_getElem h0]
  by_cases h45:s[0]=45
  ·have j:=zaw s 0 h0 _ 45 45 rfl rfl h45;have i:=zap s 0 h0 _ 45 45 rfl rfl h45;have c:=b 1 (by rw[f,h45];rfl);clear b f h45;go_enter func43,ntmps43;go_upto_if 12 with fail;go_cut [3] (fun s3 d=>s3=.int .i64 ((1:Nat):Int)/\d=w)
   case first=>
    go_wp2;go_meet;exact⟨rfl,rfl⟩
   case rest=>
   obtain⟨rfl,rfl⟩:=hcut;refine(‹∀(a:Act) (w_1:World),Code.wp prog _ _ a w_1->_›) _ _ ?_;exact zcz s hl 1 (by omega) _ r c
  ·have j:=zan s 0 h0 _ 45 45 rfl rfl h45;have i:=zaq s 0 h0 _ 45 45 rfl rfl h45;have c:=b 0 (by rw[f,if_neg (by intro e;injection e with e;exact h45 e)]);clear b f h45;go_enter func43,ntmps43;go_upto_if 12 with fail;go_cut [3] (fun s3 d=>s3=.int .i64 ((0:Nat):Int)/\d=w)
   case first=>
    go_wp2;go_meet;exact⟨rfl,rfl⟩
   case rest=>
   obtain⟨rfl,rfl⟩:=hcut;refine(‹∀(a:Act) (w_1:World),Code.wp prog _ _ a w_1->_›) _ _ ?_;exact zcz s hl 0 (by omega) _ r c
 ·have h:¬(0:Int)<(s.length:Int):=by omega
  have c:=b 0 (by rw[show s=[]from List.eq_nil_of_length_eq_zero (by omega)];rfl);clear b;go_enter func43,ntmps43;go_upto_if 12 with fail;go_cut [3] (fun s3 d=>s3=.int .i64 ((0:Nat):Int)/\d=w)
  case first=>
   go_wp2;go_meet;exact⟨rfl,rfl⟩
  case rest=>
  obtain⟨rfl,rfl⟩:=hcut;refine(‹∀(a:Act) (w_1:World),Code.wp prog _ _ a w_1->_›) _ _ ?_;exact zcz s hl 0 (by omega) _ r c
end Go.Proofs.YtoigpackhninoaaGreatDoor
