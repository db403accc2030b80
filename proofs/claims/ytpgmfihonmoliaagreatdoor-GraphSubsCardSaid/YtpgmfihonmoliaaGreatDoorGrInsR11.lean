import Derived.Test.YtpgmfihonmoliaaGreatDoorGrInsR4T
namespace Go.Proofs.YtpgmfihonmoliaaGreatDoor
open Gr
open _root_.Go.Proofs.Tryz
open _root_.Go.Lib (hid)
set_option maxRecDepth 100000
set_option maxHeartbeats 16000000
open Go.RowKit
def zen (s:Gr.Str) (a:Nat) (date time:Bool) (Y M D H N C F:Int) (w:World) (e:Ending) (w':World):Prop:=∃(t:RT) (r:Int),e=.returned (.tuple #[t.v,.int .i64 r])/\Below w.heap.size w w'/\
 match zoneAt s a with
 |none=>r=-1
 |some z=>r=(z.stop:Int)/\t=⟨date,time,true,Y,M,D,H,N,C,F,if z.z=45 then -((3600*z.h+60*z.m:Nat):Int)else((3600*z.h+60*z.m:Nat):Int),decide (23<z.h) || decide (59<z.m)⟩
theorem zqa (s:Gr.Str) (_hl:s.length<=1073741823) (a:Nat) (ha:a<=1073741824) (date time:Bool) (Y M D H N C F P Q:Int) (p m k:Bool) (bP:-1<=P/\P<=999999999) (bQ:-1<=Q/\Q<=999999999) (w wy:World) (gb:Nat)
 (HGO:Hid (∀(r:Int) (off:Int) (late:Bool) (w':World),Below w.heap.size w w'->(zoneAt s a=none/\r=-1\/∃zz:Gr.Zn,zoneAt s a=some zz/\r=(zz.stop:Int)/\off=(if zz.z=45 then -((3600*zz.h+60*zz.m:Nat):Int)else((3600*zz.h+60*zz.m:Nat):Int))/\late=(decide (23<zz.h) || decide (59<zz.m)))->zen s a date time Y M D H N C F w (.returned (.tuple #[.agg #[.bool date,.bool time,.bool true,.int .i64 Y,.int .i64 M,.int .i64 D,.int .i64 H,.int .i64 N,.int .i64 C,.int .i64 F,.int .i64 off,.bool late],.int .i64 r])) w'))
 (HI2:Hid (∀W,Calls prog 164 #[.string ⟨s.toArray⟩,.int .i64 (a:Int),.int .u8 43] W fun e w'=>e=.returned (.bool p)/\W=w')) (HI3:Hid (∀W,Calls prog 164 #[.string ⟨s.toArray⟩,.int .i64 (a:Int),.int .u8 45] W fun e w'=>e=.returned (.bool m)/\W=w')) (HI4:Hid (∀W,Calls prog 164 #[.string ⟨s.toArray⟩,.int .i64 ((a:Int)+3),.int .u8 58] W fun e w'=>e=.returned (.bool k)/\W=w'))
 (HNO:Hid (p=false/\m=false\/P<0\/Q<0\/k=false->zoneAt s a=none))
 (HYES:Hid ((p || m)=true->0<=P->0<=Q->k=true->∃(hla:a<s.length) (hh mm:Nat),P=hh/\Q=mm/\hh<=999999999/\mm<=999999999/\zoneAt s a=some ⟨s[a]'hla,hh,mm,a+6⟩))
 (HGB:Hid (w.heap.size=gb)) (HB:Hid (Blk wy gb 147 (T12 date time true Y M D H N C F 0 false)/\Blk wy (gb+1) 147 (T12 false false false 0 0 0 0 0 0 0 0 false)/\Below gb w wy))
 (u2 u3 u4 u7 u10 u11 u12 u13 u14 u15 u16 u17 u18 u19 u20 u21 u22 u23 u24 u25 u26 u27 u28 u29 u30 u31 u32 u33 u34 u35 u36 u37 u38 u39 u40 u41 u42 u43 u44 u45 u46 u47 u48 u49 u50 u51 u52 u53 u54 u55 u56 u57 u58 u59 u60 u61 u62 u63 u64 u65 u66 u67 u68 u69 u70 u71 u72 u73 u74:Value):
 Code.wp prog (tl 4 (f165.body.getD .skip)) (bodyPost prog f165 (zen s a date time Y M D H N C F w)) {tmps:=List.toArray (.string ⟨s.toArray⟩::.int .i64 (a:Int)::u2::u3::u4::.pointer (some ⟨gb,0,none⟩)::.pointer (some ⟨gb+1,0,none⟩)::u7::.int .i64 P::.int .i64 Q::u10::u11::u12::u13::u14::u15::u16::u17::u18::u19::u20::u21::u22::u23::u24::u25::u26::u27::u28::u29::u30::u31::u32::u33::u34::u35::u36::u37::u38::u39::u40::u41::u42::u43::u44::u45::u46::u47::u48::u49::u50::u51::u52::u53::u54::u55::u56::u57::u58::u59::u60::u61::u62::u63::u64::u65::u66::u67::u68::u69::u70::u71::u72::u73::u74::[]),defers:=[]} wy:=by
 generalize hc0:tl 4 (f165.body.getD .skip)=c0;simp only[tl,f165,Option.getD_some]at hc0;subst hc0;obtain⟨d,B⟩:=ex (!((p || m) && !decide (P<0) && !decide (Q<0) && k))
 have c:=hid B;clear B;have hc:(p=false/\m=false)\/((p=true\/p=false/\m=true)/\P<0)\/((p=true\/p=false/\m=true)/\¬P<0/\Q<0)\/((p=true\/p=false/\m=true)/\¬P<0/\¬Q<0/\k=false)\/((p=true\/p=false/\m=true)/\¬P<0/\¬Q<0/\k=true):=by
  cases p<;>cases m<;>cases k<;>simp<;>omega
 go_upto_region 5 with fail;go_cut [49] (fun s49 g=>s49=.bool d/\g=wy)
 case first=>
  clear HNO HYES HGO;rcases hc with⟨rfl,rfl⟩|⟨rfl|⟨rfl,rfl⟩,c1⟩|⟨rfl|⟨rfl,rfl⟩,c1,c2⟩|⟨rfl|⟨rfl,rfl⟩,c1,c2,rfl⟩|⟨rfl|⟨rfl,rfl⟩,c1,c2,rfl⟩
  .obtain rfl:d=true:=by rw[<-c.out];simp[*]
   clear c;go_wp2_with fail;refine(HI2.out _).mono ?_;rintro e f ⟨rfl,rfl⟩;go_wp2_with fail;refine(HI3.out _).mono ?_;rintro e f ⟨rfl,rfl⟩;go_wp2;go_meet
   first|exact⟨rfl,rfl⟩|exact⟨by simp[*],rfl⟩
  .obtain rfl:d=true:=by rw[<-c.out];simp[*]
   clear c;go_wp2_with fail;refine(HI2.out _).mono ?_;rintro e f ⟨rfl,rfl⟩;go_wp2;go_meet
   first|exact⟨rfl,rfl⟩|exact⟨by simp[*],rfl⟩
  .obtain rfl:d=true:=by rw[<-c.out];simp[*]
   clear c;go_wp2_with fail;refine(HI2.out _).mono ?_;rintro e f ⟨rfl,rfl⟩;go_wp2_with fail;refine(HI3.out _).mono ?_;rintro e f ⟨rfl,rfl⟩;go_wp2;go_meet
   first|exact⟨rfl,rfl⟩|exact⟨by simp[*],rfl⟩
  .obtain rfl:d=true:=by rw[<-c.out];simp[*]
   clear c;go_wp2_with fail;refine(HI2.out _).mono ?_;rintro e f ⟨rfl,rfl⟩;go_wp2;go_meet
   first|exact⟨rfl,rfl⟩|exact⟨by simp[*],rfl⟩
  .obtain rfl:d=true:=by rw[<-c.out];simp[*]
   clear c;go_wp2_with fail;refine(HI2.out _).mono ?_;rintro e f ⟨rfl,rfl⟩;go_wp2_with fail;refine(HI3.out _).mono ?_;rintro e f ⟨rfl,rfl⟩;go_wp2;go_meet
   first|exact⟨rfl,rfl⟩|exact⟨by simp[*],rfl⟩
  .obtain rfl:d=true:=by rw[<-c.out];simp[*]
   clear c;go_wp2_with fail;refine(HI2.out _).mono ?_;rintro e f ⟨rfl,rfl⟩;go_wp2_with fail;refine(HI4.out _).mono ?_;rintro e f ⟨rfl,rfl⟩;go_wp2;go_meet
   first|exact⟨rfl,rfl⟩|exact⟨by simp[*],rfl⟩
  .obtain rfl:d=true:=by rw[<-c.out];simp[*]
   clear c;go_wp2_with fail;refine(HI2.out _).mono ?_;rintro e f ⟨rfl,rfl⟩;go_wp2_with fail;refine(HI3.out _).mono ?_;rintro e f ⟨rfl,rfl⟩;go_wp2_with fail;refine(HI4.out _).mono ?_;rintro e f ⟨rfl,rfl⟩;go_wp2;go_meet
   first|exact⟨rfl,rfl⟩|exact⟨by simp[*],rfl⟩
  .obtain rfl:d=false:=by rw[<-c.out];simp[*]
   clear c;go_wp2_with fail;refine(HI2.out _).mono ?_;rintro e f ⟨rfl,rfl⟩;go_wp2_with fail;refine(HI4.out _).mono ?_;rintro e f ⟨rfl,rfl⟩;go_wp2;go_meet
   first|exact⟨rfl,rfl⟩|exact⟨by simp[*],rfl⟩
  .obtain rfl:d=false:=by rw[<-c.out];simp[*]
   clear c;go_wp2_with fail;refine(HI2.out _).mono ?_;rintro e f ⟨rfl,rfl⟩;go_wp2_with fail;refine(HI3.out _).mono ?_;rintro e f ⟨rfl,rfl⟩;go_wp2_with fail;refine(HI4.out _).mono ?_;rintro e f ⟨rfl,rfl⟩;go_wp2;go_meet
   first|exact⟨rfl,rfl⟩|exact⟨by simp[*],rfl⟩
 case rest=>
 obtain⟨rfl,rfl⟩:=hcut;refine(‹∀(a:Act) (w_1:World),Code.wp prog _ _ a w_1->_›) _ _ ?_;go_cut [] (fun g=>d=false/\g=wc)
 case first=>
  cases d with
  |true=>
   have HF:Hid (zoneAt s a=none):=hid (HNO.out (by
    have h:=c.out;cases p<;>cases m<;>cases k<;>simp at h ⊢<;>omega))
   clear HNO HYES c hc;obtain⟨q0,q1,q2,q3,q4,V,q6,q7,q8,Z,x,U⟩:=zah HB.out.1;have qf:∀j,wc.frozen? ⟨gb,j,none⟩=false:=HB.out.1.frozen;have xb:∀j,wc.cell? ⟨gb+1,j,none⟩=(#[.bool false,.bool false,.bool false,.int .i64 0,.int .i64 0,.int .i64 0,.int .i64 0,.int .i64 0,.int .i64 0,.int .i64 0,.int .i64 0,.bool false]:Array Value)[j]? :=fun j=>HB.out.2.1.cell j
   have X:∀j,wc.frozen? ⟨gb+1,j,none⟩=false:=HB.out.2.1.frozen;go_wp2_with fail;have G:Blk ((((((((((((wc.setCell ⟨gb+1,0,none⟩ (.bool date)).setCell ⟨gb+1,1,none⟩ (.bool time)).setCell ⟨gb+1,2,none⟩ (.bool true)).setCell ⟨gb+1,3,none⟩ (.int .i64 Y)).setCell ⟨gb+1,4,none⟩ (.int .i64 M)).setCell ⟨gb+1,5,none⟩ (.int .i64 D)).setCell ⟨gb+1,6,none⟩ (.int .i64 H)).setCell ⟨gb+1,7,none⟩ (.int .i64 N)).setCell ⟨gb+1,8,none⟩ (.int .i64 C)).setCell ⟨gb+1,9,none⟩ (.int .i64 F)).setCell ⟨gb+1,10,none⟩ (.int .i64 0)).setCell ⟨gb+1,11,none⟩ (.bool false)) (gb+1) 147 (T12 date time true Y M D H N C F 0 false):=zbc HB.out.2.1;have I:Below gb w ((((((((((((wc.setCell ⟨gb+1,0,none⟩ (.bool date)).setCell ⟨gb+1,1,none⟩ (.bool time)).setCell ⟨gb+1,2,none⟩ (.bool true)).setCell ⟨gb+1,3,none⟩ (.int .i64 Y)).setCell ⟨gb+1,4,none⟩ (.int .i64 M)).setCell ⟨gb+1,5,none⟩ (.int .i64 D)).setCell ⟨gb+1,6,none⟩ (.int .i64 H)).setCell ⟨gb+1,7,none⟩ (.int .i64 N)).setCell ⟨gb+1,8,none⟩ (.int .i64 C)).setCell ⟨gb+1,9,none⟩ (.int .i64 F)).setCell ⟨gb+1,10,none⟩ (.int .i64 0)).setCell ⟨gb+1,11,none⟩ (.bool false)):=zcc HB.out.2.2 (Nat.le_succ gb);obtain⟨e0,e1,e2,e3,e4,e5,e6,e7,e8,e9,ad,ac⟩:=zah G;refine bodyPost_ret (v:=.tuple #[.agg #[.bool date,.bool time,.bool true,.int .i64 Y,.int .i64 M,.int .i64 D,.int .i64 H,.int .i64 N,.int .i64 C,.int .i64 F,.int .i64 0,.bool false],.int .i64 (-1)]) (by rw[results_cell_tmp rfl];go_simp) rfl ?_;exact HGO.out _ _ _ _ (by rw[HGB.out];exact I) (.inl ⟨HF.out,rfl⟩)
  |false=>
   go_wp2;go_meet
   first|exact⟨rfl,rfl⟩|exact⟨trivial,rfl⟩
 case rest=>
 obtain⟨rfl,rfl⟩:=hcut;obtain⟨hla,hh,mm,rfl,rfl,hh9,hm9,hz⟩:=HYES.out (by have h:=c.out;cases p<;>cases m<;>cases k<;>simp at h ⊢) (by have h:=c.out;cases p<;>cases m<;>cases k<;>simp at h<;>omega) (by have h:=c.out;cases p<;>cases m<;>cases k<;>simp at h<;>omega) (by have h:=c.out;cases p<;>cases m<;>cases k<;>simp at h ⊢);have HZ:=hid hz;obtain⟨o,L⟩:=ex (decide (23<hh) || decide (59<mm))
 have y:=hid L;clear hz L HNO HYES c hc bP bQ;refine(‹∀(a:Act) (w_1:World),Code.wp prog _ _ a w_1->_›) _ _ ?_;go_upto_region 7 with fail;go_cut [] (fun g=>Hid (Blk g gb 147 (T12 date time true Y M D H N C F 0 o)/\Blk g (gb+1) 147 (T12 false false false 0 0 0 0 0 0 0 0 false)/\Below gb w g))
 case first=>
  obtain⟨q0,q1,q2,q3,q4,V,q6,q7,q8,Z,x,U⟩:=zah HB.out.1;have qf:∀j,wc.frozen? ⟨gb,j,none⟩=false:=HB.out.1.frozen;have xb:∀j,wc.cell? ⟨gb+1,j,none⟩=(#[.bool false,.bool false,.bool false,.int .i64 0,.int .i64 0,.int .i64 0,.int .i64 0,.int .i64 0,.int .i64 0,.int .i64 0,.int .i64 0,.bool false]:Array Value)[j]? :=fun j=>HB.out.2.1.cell j
  have X:∀j,wc.frozen? ⟨gb+1,j,none⟩=false:=HB.out.2.1.frozen;have n:∀b:Bool,o=b->Hid (Blk (wc.setCell ⟨gb,11,none⟩ (.bool b)) gb 147 (T12 date time true Y M D H N C F 0 o)/\Blk (wc.setCell ⟨gb,11,none⟩ (.bool b)) (gb+1) 147 (T12 false false false 0 0 0 0 0 0 0 0 false)/\Below gb w (wc.setCell ⟨gb,11,none⟩ (.bool b))):=fun b hb=>hid (by subst hb;exact⟨HB.out.1.set_ 11 _,HB.out.2.1.far (Nat.succ_ne_self gb) _,HB.out.2.2.setCell (p:=⟨gb,11,none⟩) (by simp) _⟩)
  have u:=hid n;clear n q0 q1 q2 q3 q4 V q6 q7 q8 Z x xb X;by_cases h23:23<hh
  .have K:(23:Int)<(hh:Int):=by omega
   go_wp2;go_meet;exact u.out _ (by rw[<-y.out];simp[h23])
  .have K:¬(23:Int)<(hh:Int):=by omega
   by_cases h59:59<mm
   .have J:(59:Int)<(mm:Int):=by omega
    go_wp2;go_meet;exact u.out _ (by rw[<-y.out];simp[h59])
   .have J:¬(59:Int)<(mm:Int):=by omega
    go_wp2;go_meet;exact u.out _ (by rw[<-y.out];simp[h23,h59])
 case rest=>
 have l:=hcut;clear hcut HB;refine(‹∀(a:Act) (w_1:World),Code.wp prog _ _ a w_1->_›) _ _ ?_;go_upto_region 8 with fail;go_cut [] (fun g=>Hid (Blk g gb 147 (T12 date time true Y M D H N C F (3600*(hh:Int)+60*(mm:Int)) o)/\Blk g (gb+1) 147 (T12 false false false 0 0 0 0 0 0 0 0 false)/\Below gb w g))
 case first=>
  have x:wc.cell? ⟨gb,10,none⟩=some (.int .i64 0):=l.out.1.cell 10;have qf:∀j,wc.frozen? ⟨gb,j,none⟩=false:=l.out.1.frozen;have n:Hid (Blk (wc.setCell ⟨gb,10,none⟩ (.int .i64 (3600*(hh:Int)+60*(mm:Int)))) gb 147 (T12 date time true Y M D H N C F (3600*(hh:Int)+60*(mm:Int)) o)/\Blk (wc.setCell ⟨gb,10,none⟩ (.int .i64 (3600*(hh:Int)+60*(mm:Int)))) (gb+1) 147 (T12 false false false 0 0 0 0 0 0 0 0 false)/\Below gb w (wc.setCell ⟨gb,10,none⟩ (.int .i64 (3600*(hh:Int)+60*(mm:Int))))):=hid ⟨l.out.1.set_ 10 _,l.out.2.1.far (Nat.succ_ne_self gb) _,l.out.2.2.setCell (p:=⟨gb,10,none⟩) (by simp) _⟩;go_wp2;go_meet;exact n
 case rest=>
 have i:=hcut;clear hcut l;refine(‹∀(a:Act) (w_1:World),Code.wp prog _ _ a w_1->_›) _ _ ?_;obtain⟨R,A⟩:∃R:Nat,(s[a]'hla).toNat=R:=⟨_,rfl⟩
 have ab:(((⟨s.toArray⟩:ByteArray)[a]'(by simpa[ByteArray.size]using hla)).toNat:Int)=(R:Int):=by rw[<-A];rfl
 obtain⟨O,E⟩:=ex (decide (R=45))
 have S:((R:Int)==45)=O:=by rw[<-E,Bool.eq_iff_iff];simp;omega
 have aa:Hid (O=decide (s[a]'hla=45)):=hid (by
  rw[<-E,Bool.eq_iff_iff];simp only[decide_eq_true_eq];exact⟨fun h=>UInt8.toNat_inj.1 (by rw[A,h];rfl),fun h=>by rw[<-A,h];rfl⟩)
 clear A E;obtain⟨of,T⟩:∃of:Int,(if O=true then -(3600*(hh:Int)+60*(mm:Int))else 3600*(hh:Int)+60*(mm:Int))=of:=⟨_,rfl⟩
 have t:=hid T;clear T;go_upto_region 9 with fail;go_cut [67] (fun s67 g=>s67=.bool O/\g=wc)
 case first=>
  go_wp2;go_meet;exact⟨rfl,rfl⟩
 case rest=>
 obtain⟨rfl,rfl⟩:=hcut;clear ab S;refine(‹∀(a:Act) (w_1:World),Code.wp prog _ _ a w_1->_›) _ _ ?_;go_cut [] (fun g=>Hid (Blk g gb 147 (T12 date time true Y M D H N C F of o)/\Blk g (gb+1) 147 (T12 false false false 0 0 0 0 0 0 0 0 false)/\Below gb w g))
 case first=>
  cases O with
  |true=>
   have x:wc.cell? ⟨gb,10,none⟩=some (.int .i64 (3600*(hh:Int)+60*(mm:Int))):=i.out.1.cell 10;have qf:∀j,wc.frozen? ⟨gb,j,none⟩=false:=i.out.1.frozen;obtain rfl:-(3600*(hh:Int)+60*(mm:Int))=of:=by rw[<-t.out];rfl
   have n:Hid (Blk (wc.setCell ⟨gb,10,none⟩ (.int .i64 (-(3600*(hh:Int)+60*(mm:Int))))) gb 147 (T12 date time true Y M D H N C F (-(3600*(hh:Int)+60*(mm:Int))) o)/\Blk (wc.setCell ⟨gb,10,none⟩ (.int .i64 (-(3600*(hh:Int)+60*(mm:Int))))) (gb+1) 147 (T12 false false false 0 0 0 0 0 0 0 0 false)/\Below gb w (wc.setCell ⟨gb,10,none⟩ (.int .i64 (-(3600*(hh:Int)+60*(mm:Int)))))):=hid ⟨i.out.1.set_ 10 _,i.out.2.1.far (Nat.succ_ne_self gb) _,i.out.2.2.setCell (p:=⟨gb,10,none⟩) (by simp) _⟩;clear t;go_wp2;go_meet;exact n
  |false=>
   obtain rfl:(3600*(hh:Int)+60*(mm:Int))=of:=by rw[<-t.out];rfl
   clear t;go_wp2;go_meet;exact i
 case rest=>
 have q:=hcut;clear hcut i;refine(‹∀(a:Act) (w_1:World),Code.wp prog _ _ a w_1->_›) _ _ ?_;obtain⟨q0,q1,q2,q3,q4,V,q6,q7,q8,Z,x,U⟩:=zah q.out.1;have xb:∀j,wc.cell? ⟨gb+1,j,none⟩=(#[.bool false,.bool false,.bool false,.int .i64 0,.int .i64 0,.int .i64 0,.int .i64 0,.int .i64 0,.int .i64 0,.int .i64 0,.int .i64 0,.bool false]:Array Value)[j]? :=fun j=>q.out.2.1.cell j
 have X:∀j,wc.frozen? ⟨gb+1,j,none⟩=false:=q.out.2.1.frozen;go_wp2_with fail;have G:Blk ((((((((((((wc.setCell ⟨gb+1,0,none⟩ (.bool date)).setCell ⟨gb+1,1,none⟩ (.bool time)).setCell ⟨gb+1,2,none⟩ (.bool true)).setCell ⟨gb+1,3,none⟩ (.int .i64 Y)).setCell ⟨gb+1,4,none⟩ (.int .i64 M)).setCell ⟨gb+1,5,none⟩ (.int .i64 D)).setCell ⟨gb+1,6,none⟩ (.int .i64 H)).setCell ⟨gb+1,7,none⟩ (.int .i64 N)).setCell ⟨gb+1,8,none⟩ (.int .i64 C)).setCell ⟨gb+1,9,none⟩ (.int .i64 F)).setCell ⟨gb+1,10,none⟩ (.int .i64 of)).setCell ⟨gb+1,11,none⟩ (.bool o)) (gb+1) 147 (T12 date time true Y M D H N C F of o):=zbc q.out.2.1;have I:Below gb w ((((((((((((wc.setCell ⟨gb+1,0,none⟩ (.bool date)).setCell ⟨gb+1,1,none⟩ (.bool time)).setCell ⟨gb+1,2,none⟩ (.bool true)).setCell ⟨gb+1,3,none⟩ (.int .i64 Y)).setCell ⟨gb+1,4,none⟩ (.int .i64 M)).setCell ⟨gb+1,5,none⟩ (.int .i64 D)).setCell ⟨gb+1,6,none⟩ (.int .i64 H)).setCell ⟨gb+1,7,none⟩ (.int .i64 N)).setCell ⟨gb+1,8,none⟩ (.int .i64 C)).setCell ⟨gb+1,9,none⟩ (.int .i64 F)).setCell ⟨gb+1,10,none⟩ (.int .i64 of)).setCell ⟨gb+1,11,none⟩ (.bool o)):=zcc q.out.2.2 (Nat.le_succ gb);obtain⟨e0,e1,e2,e3,e4,e5,e6,e7,e8,e9,ad,ac⟩:=zah G;refine bodyPost_ret (v:=.tuple #[.agg #[.bool date,.bool time,.bool true,.int .i64 Y,.int .i64 M,.int .i64 D,.int .i64 H,.int .i64 N,.int .i64 C,.int .i64 F,.int .i64 of,.bool o],.int .i64 ((a:Int)+6)]) (by rw[results_cell_tmp rfl];go_simp) rfl ?_;refine HGO.out _ _ _ _ (by rw[HGB.out];exact I) (.inr ⟨_,HZ.out,by simp,?_,y.out.symm⟩);rw[<-t.out,aa.out];simp only[decide_eq_true_eq];split<;>push_cast<;>rfl
theorem zqb (s:Gr.Str) (hl:s.length<=1073741823) (a:Nat) (i:Int) (hi:i=(a:Int)) (ha:a<=1073741824) (date time:Bool) (Y M D H N C F:Int) (w:World):
 Calls prog 165 #[.string ⟨s.toArray⟩,.int .i64 i,.agg #[.bool date,.bool time,.bool false,.int .i64 Y,.int .i64 M,.int .i64 D,.int .i64 H,.int .i64 N,.int .i64 C,.int .i64 F,.int .i64 0,.bool false]] w (zen s a date time Y M D H N C F w):=by
 subst hi;have l:=hid (fun W=>zcn s hl a (a:Int) rfl 90 90 rfl W);have E:=hid (fun W=>zcn s hl a (a:Int) rfl 43 43 rfl W);have J:=hid (fun W=>zcn s hl a (a:Int) rfl 45 45 rfl W);have O:=hid (fun W=>zcn s hl (a+3) ((a:Int)+3) (by omega) 58 58 rfl W);have K:=hid (fun W=>zcm s hl (a+1) 2 ((a:Int)+1) 2 (by omega) rfl (by omega) (by omega) W);have G:=hid (fun W=>zcm s hl (a+4) 2 ((a:Int)+4) 2 (by omega) rfl (by omega) (by omega) W);have f:=hid (fun h=> @zcp s (a+1) 2 h);have j:=hid (fun h=> @zcp s (a+4) 2 h);have o:=hid (fun h=> @zcq s (a+1) 2 h);have t:=hid (fun h=> @zcq s (a+4) 2 h);have bP:=zin s (a+1) 2 (by omega);have bQ:=zin s (a+4) 2 (by omega);obtain⟨P,X⟩:=ex (tw s (a+1) 2)
 obtain⟨Q,hQ⟩:=ex (tw s (a+4) 2)
 obtain⟨z,A⟩:=ex (isAt s a 90)
 obtain⟨p,V⟩:=ex (isAt s a 43)
 obtain⟨m,hm⟩:=ex (isAt s a 45)
 obtain⟨k,L⟩:=ex (isAt s (a+3) 58)
 have c:Hid (isAt s a 90=z/\isAt s a 43=p/\isAt s a 45=m/\isAt s (a+3) 58=k):=hid ⟨A,V,hm,L⟩;have HPQ:Hid (tw s (a+1) 2=P/\tw s (a+4) 2=Q):=hid ⟨X,hQ⟩;rw[X]at K f o bP;rw[hQ]at G j t bQ;rw[A]at l;rw[V]at E;rw[hm]at J;rw[L]at O;clear X hQ A V hm L;have go:∀(r:Int) (off:Int) (late:Bool) (w':World),Below w.heap.size w w'->(zoneAt s a=none/\r=-1\/∃zz:Gr.Zn,zoneAt s a=some zz/\r=(zz.stop:Int)/\off=(if zz.z=45 then -((3600*zz.h+60*zz.m:Nat):Int)else((3600*zz.h+60*zz.m:Nat):Int))/\late=(decide (23<zz.h) || decide (59<zz.m)))->zen s a date time Y M D H N C F w (.returned (.tuple #[.agg #[.bool date,.bool time,.bool true,.int .i64 Y,.int .i64 M,.int .i64 D,.int .i64 H,.int .i64 N,.int .i64 C,.int .i64 F,.int .i64 off,.bool late],.int .i64 r])) w':=by
  intro r off late w' hb h;refine⟨⟨date,time,true,Y,M,D,H,N,C,F,off,late⟩,r,rfl,hb,?_⟩;rcases h with⟨b,d⟩|⟨zz,b,d,h3,h4⟩
  .rw[b];exact d
  .rw[b];exact⟨d,by rw[h3,h4]⟩
 have y:=hid go;clear go;have B:Hid (z=false->(p=false/\m=false\/P<0\/Q<0\/k=false)->zoneAt s a=none):=hid (fun A h=>by
  unfold zoneAt;rw[c.out.1,A,if_neg (by decide)];by_cases b:P<0
  .rw[o.out b]
  .by_cases d:Q<0
   .obtain⟨v,hv,_⟩:=f.out b;rw[hv,t.out d]
   .obtain⟨v,hv,_⟩:=f.out b;obtain⟨u,hu,_⟩:=j.out d;rw[hv,hu];simp only;rw[if_neg];rw[c.out.2.1,c.out.2.2.1,c.out.2.2.2];rcases h with⟨h3,h4⟩|h3|h3|h3
    .rw[h3,h4];simp
    .exact absurd h3 b
    .exact absurd h3 d
    .rw[h3];simp)
 cases z with
 |true=>
  have HF:Hid (zoneAt s a=some ⟨90,0,0,a+1⟩):=hid (by unfold zoneAt;rw[c.out.1,if_pos rfl]);go_enter func165,ntmps165;go_wp2_with fail;refine(l.out _).mono ?_;rintro e T ⟨rfl,rfl⟩;go_wp2_with fail;refine bodyPost_ret (v:=.tuple #[.agg #[.bool date,.bool time,.bool true,.int .i64 Y,.int .i64 M,.int .i64 D,.int .i64 H,.int .i64 N,.int .i64 C,.int .i64 F,.int .i64 0,.bool false],.int .i64 ((a:Int)+1)]) (by rw[results_cell_tmp rfl];go_simp) rfl ?_;exact y.out _ _ _ _ (zbu _ _) (.inr ⟨_,HF.out,by simp,by show(0:Int)=if(90:UInt8)=45 then _ else _;rw[if_neg (by decide)];rfl,rfl⟩)
 |false=>
  have x:Hid (p=false/\m=false\/P<0\/Q<0\/k=false->zoneAt s a=none):=hid (B.out rfl);have I:Hid ((p || m)=true->0<=P->0<=Q->k=true->∃(hla:a<s.length) (hh mm:Nat),P=hh/\Q=mm/\hh<=999999999/\mm<=999999999/\zoneAt s a=some ⟨s[a]'hla,hh,mm,a+6⟩):=hid (fun q c1 c2 L=>by
   obtain⟨hh,ab,Z⟩:=f.out (by omega);obtain⟨mm,ac,aa⟩:=j.out (by omega);have hla:a<s.length:=by
    rcases Nat.lt_or_ge a s.length with h|h
    .exact h
    .have b:=c.out.2.1;have d:=c.out.2.2.1;unfold isAt at b d;rw[List.getElem?_eq_none h]at b d;rw[<-b,<-d]at q;cases q
   refine⟨hla,hh,mm,Z,aa,by omega,by omega,?_⟩;unfold zoneAt;rw[c.out.1,if_neg (by decide),ab,ac];simp only;rw[c.out.2.1,c.out.2.2.1,c.out.2.2.2,q,L,Bool.and_self,if_pos rfl,List.getD_eq_getElem?_getD,List.getElem?_eq_getElem hla,Option.getD_some])
  clear B f j o t;go_enter func165,ntmps165;go_wp2_with fail;refine(l.out _).mono ?_;rintro e T ⟨rfl,rfl⟩;go_upto_region 4 with fail;obtain⟨S,g⟩:=ex w.heap.size
  obtain⟨R,n⟩:=ex ((w.alloc (.cells #[.bool date,.bool time,.bool true,.int .i64 Y,.int .i64 M,.int .i64 D,.int .i64 H,.int .i64 N,.int .i64 C,.int .i64 F,.int .i64 0,.bool false] 147)).alloc (.cells #[.bool false,.bool false,.bool false,.int .i64 0,.int .i64 0,.int .i64 0,.int .i64 0,.int .i64 0,.int .i64 0,.int .i64 0,.int .i64 0,.bool false] 147))
  have HB:Hid (Blk R S 147 (T12 date time true Y M D H N C F 0 false)/\Blk R (S+1) 147 (T12 false false false 0 0 0 0 0 0 0 0 false)/\Below S w R):=hid (by
   rw[<-n,<-g];refine⟨(Blk.new _ _ _).alloc _,?_,zbu _ _⟩;have:=Blk.new (w.alloc (.cells #[.bool date,.bool time,.bool true,.int .i64 Y,.int .i64 M,.int .i64 D,.int .i64 H,.int .i64 N,.int .i64 C,.int .i64 F,.int .i64 0,.bool false] 147)) 147 (T12 false false false 0 0 0 0 0 0 0 0 false);rwa[World.size_alloc]at this)
  have U:=hid g;(try rw[n]);(try rw[g]);clear n g;go_cut [8,9] (fun s8 s9 wx=>s8=.int .i64 P/\s9=.int .i64 Q/\wx=R)
  case first=>
   go_wp2_with fail;refine(K.out _).mono ?_;rintro e T ⟨rfl,rfl⟩;go_wp2_with fail;refine(G.out _).mono ?_;rintro e T ⟨rfl,rfl⟩;go_wp2;go_meet;exact⟨rfl,rfl,rfl⟩
  case rest=>
   obtain⟨rfl,rfl,rfl⟩:=hcut;refine(‹∀(a:Act) (w_1:World),Code.wp prog _ _ a w_1->_›) _ _ ?_;exact zqa s hl a ha date time Y M D H N C F P Q p m k bP bQ w _ S y E J O x I U HB _ _ _ _ _ _ _ _ _ _ _ _ _ _ _ _ _ _ _ _ _ _ _ _ _ _ _ _ _ _ _ _ _ _ _ _ _ _ _ _ _ _ _ _ _ _ _ _ _ _ _ _ _ _ _ _ _ _ _ _ _ _ _ _ _ _ _ _ _
end Go.Proofs.YtpgmfihonmoliaaGreatDoor
