import Derived.Test.YtpjmhafmeieloabGreatDoorZ10
import Derived.Lib.AtoiBound
namespace Go.Proofs.YtpjmhafmeieloabGreatDoor
open Gr
open _root_.Go.Proofs.Tryz
open _root_.Go.Lib (hid)
set_option maxRecDepth 100000
set_option maxHeartbeats 16000000
open Go.RowKit
def zbx (o:Option Gr.Dn) (w:World) (e:Ending) (w':World):Prop:=∃x v,e=.returned (.tuple #[v,.bool o.isSome])/\NumVal x v w'/\(∀y,o=some y->x=y)/\Below w.heap.size w w'
theorem zo7 {w3 w6:World} {k:Nat} {x:Gr.Dn} {A:Option Addr} {c:Nat} {a b d:Value} (hk:Blk w6 k 87 #[.bool false,.slice none 0 0,.int .i64 0]) (h:NumAt x A c w6) (hlo:w3.heap.size<=k) (hb:Below w3.heap.size w3 w6):
 Blk (((w6.setCell ⟨k,0,none⟩ a).setCell ⟨k,1,none⟩ b).setCell ⟨k,2,none⟩ d) k 87 #[a,b,d]/\NumAt x A c (((w6.setCell ⟨k,0,none⟩ a).setCell ⟨k,1,none⟩ b).setCell ⟨k,2,none⟩ d)/\Below w3.heap.size w3 (((w6.setCell ⟨k,0,none⟩ a).setCell ⟨k,1,none⟩ b).setCell ⟨k,2,none⟩ d)/\w3.heap.size<=k:=
 ⟨((hk.set_ 0 a).set_ 1 b).set_ 2 d,((h.set_ hk (by decide) a).set_ (hk.set_ 0 a) (by decide) b).set_ ((hk.set_ 0 a).set_ 1 b) (by decide) d,((hb.setCell (p:=⟨k,0,none⟩) hlo _).setCell (p:=⟨k,1,none⟩) hlo _).setCell (p:=⟨k,2,none⟩) hlo _,hlo⟩
theorem zjn (neg:Bool) (d:List Nat) (e:Int):(norm neg d e).d.length<=d.length/\((norm neg d e).e=0\/(e<=(norm neg d e).e/\(norm neg d e).e<=e+d.length)):=by
 unfold norm;have a:(d.dropWhile isZ).length<=d.length:=(List.dropWhile_sublist isZ).length_le;have b:=zxf (d.dropWhile isZ);split
 .exact⟨Nat.zero_le _,.inl rfl⟩
 .exact⟨Nat.le_trans b a,.inr ⟨by simp only;omega,by simp only;omega⟩⟩
theorem zo8 {w3 w6:World} {x:Gr.Dn} {A:Option Addr} {c:Nat} {a b d:Value} (h:NumAt x A c w6) (hb:Below w3.heap.size w3 w6):
 Blk (w6.alloc (.cells #[a,b,d] 87)) w6.heap.size 87 #[a,b,d]/\NumAt x A c (w6.alloc (.cells #[a,b,d] 87))/\Below w3.heap.size w3 (w6.alloc (.cells #[a,b,d] 87))/\w3.heap.size<=w6.heap.size:=
 ⟨Blk.new _ _ _,h.alloc _,hb.alloc hb.size _,hb.size⟩
theorem undrew {w3 w5:World} (h:Below w3.drew.heap.size w3.drew w5):Below w3.heap.size w3 w5:=⟨h.os,h.tape,h.output,h.size,h.block⟩
theorem zf6 {w3 w5 w6:World} (h:Below w3.drew.heap.size w3.drew w5) (h2:Below w5.heap.size w5 w6):Below w3.heap.size w3 w6:=(undrew h).trans (h2.mono (undrew h).size)
theorem zvs {w3 w5:World} (h:Below w3.drew.heap.size w3.drew w5):w3.heap.size<=w5.heap.size:=h.size
theorem zjo {w3 w5 w6:World} {o:Obj} (h:Below w3.drew.heap.size w3.drew w5) (h2:Below (w5.alloc o).heap.size (w5.alloc o) w6):Below w3.heap.size w3 w6:=
 ((undrew h).alloc (undrew h).size o).trans (h2.mono (by have:=(undrew h).size;simp;omega))
theorem zjp {w3 w5 w6:World} {o:Obj} (h:Below (w3.alloc o).drew.heap.size (w3.alloc o).drew w5) (h2:Below w5.heap.size w5 w6):Below w3.heap.size w3 w6:=
 ((Below.refl _ _).alloc (Nat.le_refl _) o).trans ((zf6 h h2).mono (by simp))
theorem zh4 {w5 w6:World} (hb6:Below (w5.alloc (.cells #[.bool false,.slice none 0 0,.int .i64 0] 87)).heap.size (w5.alloc (.cells #[.bool false,.slice none 0 0,.int .i64 0] 87)) w6):
 (∀j,w6.frozen? ⟨w5.heap.size,j,none⟩=false)/\w6.cell? ⟨w5.heap.size,0,none⟩=some (.bool false)/\w6.cell? ⟨w5.heap.size,1,none⟩=some (.slice none 0 0)/\w6.cell? ⟨w5.heap.size,2,none⟩=some (.int .i64 0)/\Blk w6 w5.heap.size 87 #[.bool false,.slice none 0 0,.int .i64 0]:=by
 have a:=(Blk.new w5 87 #[.bool false,.slice none 0 0,.int .i64 0]).below hb6 (by simp);exact⟨a.frozen,a.cell 0,a.cell 1,a.cell 2,a⟩
theorem zso {w3 w5 w6:World} (hb5:Below (w3.alloc (.cells #[.bool false,.slice none 0 0,.int .i64 0] 87)).drew.heap.size (w3.alloc (.cells #[.bool false,.slice none 0 0,.int .i64 0] 87)).drew w5) (hb6:Below w5.heap.size w5 w6):
 (∀j,w6.frozen? ⟨w3.heap.size,j,none⟩=false)/\w6.cell? ⟨w3.heap.size,0,none⟩=some (.bool false)/\w6.cell? ⟨w3.heap.size,1,none⟩=some (.slice none 0 0)/\w6.cell? ⟨w3.heap.size,2,none⟩=some (.int .i64 0)/\Blk w6 w3.heap.size 87 #[.bool false,.slice none 0 0,.int .i64 0]:=
 let h5:Below (w3.alloc (.cells #[.bool false,.slice none 0 0,.int .i64 0] 87)).heap.size (w3.alloc (.cells #[.bool false,.slice none 0 0,.int .i64 0] 87)) w5:=⟨hb5.os,hb5.tape,hb5.output,hb5.size,hb5.block⟩
 zh4 (h5.trans (hb6.mono h5.size))
theorem zek (w:World):NumVal zeroD (.agg #[.bool false,.slice none 0 0,.int .i64 0]) w:=⟨none,0,rfl,.inl ⟨rfl,rfl,rfl⟩⟩
theorem zjq (s:Gr.Str) (c:UInt8):Lib.indexByte s c=if s.dropWhile (fun x=>x != c)=[]then -1 else((s.takeWhile (fun x=>x != c)).length:Int):=by
 induction s with
 |nil=>rfl
 |cons b l ih=>
  unfold Lib.indexByte;by_cases h:b=c
  .subst h;simp
  .have a:(b==c)=false:=by simpa using h
   have d:(b != c)=true:=by simpa using h
   rw[a,ih,List.dropWhile_cons,List.takeWhile_cons,d];simp only[if_true,Bool.false_eq_true,if_false];split
   .rfl
   .rw[if_neg (by rw[beq_iff_eq];omega)];simp
theorem zjr (s:Gr.Str):readP s=(match s.dropWhile (fun c=>c != 101)with| []=>none|_::r=>if intB (s.takeWhile (fun c=>c != 101))=false\/5<r.length then none else match Lib.atoi r with|none=>none|some e=>(let x:=norm ((s.takeWhile (fun c=>c != 101)).head? ==some 45) (vals (intS (s.takeWhile (fun c=>c != 101)))) e;if lim x=0/\Gr.text x=s then some x else none)):=rfl
theorem zo9 {a:Gr.Str} (h:intB a=true):Lib.trimPrefix a [45]=intS a:=by
 have b:=zdh h;unfold Lib.trimPrefix Lib.hasPrefix intS;cases a with
 |nil=>rfl
 |cons c l=>
  by_cases hc:c=45
  .subst hc;cases l with
   |nil=>exact absurd b (by decide)
   |cons d l=>rfl
  .rw[if_neg (by simpa using fun e=>hc e.symm),if_neg (fun e=>hc (by simpa using e.2))]
theorem zpa (s:Gr.Str) (hl:s.length<=1073741823) (w:World) (hT:UT w):
 Calls prog 52 #[.string ⟨s.toArray⟩] w (zbx (readP s) w):=by
 have O:=hid hT;clear hT;cases hdw:s.dropWhile (fun c=>c != 101)with
 |nil=>
  have HF:Hid (readP s=none):=hid (by unfold readP;rw[hdw]);have G:=hid (fun W=>strings_IndexByte ⟨s.toArray⟩ 101 W);rw[show Lib.indexByte (⟨s.toArray⟩:ByteArray).data.toList (101:Int).toNat.toUInt8=-1 from by
   have:=zjq s 101;rw[hdw,if_pos rfl]at this;exact this]at G
  clear hdw;go_enter func52,ntmps52;go_upto_region 1 with fail;obtain⟨J,o⟩:=ex (w.alloc (.cells #[.bool false,.slice none 0 0,.int .i64 0] 87))
  obtain⟨f,m⟩:=ex w.heap.size
  have i:Hid (Blk J f 87 #[.bool false,.slice none 0 0,.int .i64 0]/\Below f w J):=hid (by rw[<-o,<-m];exact⟨Blk.new _ _ _,(Below.refl _ _).alloc (Nat.le_refl _) _⟩);have H:Hid (UT J):=hid (UT.stays _ _ O.out (by rw[<-o];exact(Below.refl _ _).alloc (Nat.le_refl _) _));have D:=hid m;(try rw[o]);(try rw[m]);clear o m;go_wp2_with fail;refine(G.out _).mono ?_;rintro e w' ⟨rfl,A⟩;rw[A];clear A;have p0:∀j,J.frozen? ⟨f,j,none⟩=false:=i.out.1.frozen;obtain⟨q0,q1,q2⟩:=cells3 i.out.1;go_wp2_with fail;have n:=((i.out.1.set_ 0 (.bool false)).set_ 1 (.slice none 0 0)).set_ 2 (.int .i64 0);have e0:=n.cell 0;have e1:=n.cell 1;have e2:=n.cell 2;refine bodyPost_ret (v:=.tuple #[.agg #[.bool false,.slice none 0 0,.int .i64 0],.bool false]) (by rw[results_cell_tmp rfl];go_simp) rfl ?_;rw[HF.out];unfold zbx;rw[D.out];exact⟨zeroD,_,rfl,zek _,fun y h=>(by cases h),((i.out.2.setCell (p:=⟨f,0,none⟩) (by simp) _).setCell (p:=⟨f,1,none⟩) (by simp) _).setCell (p:=⟨f,2,none⟩) (by simp) _⟩
 |cons c0 r=>
  obtain⟨a,ha⟩:=ex (s.takeWhile (fun c=>c != 101))
  have aM:c0=101:=by
   have:=List.head?_dropWhile_not (fun c:UInt8=>c != 101) s;rw[hdw]at this;simpa using this
  have hs:s=a++101::r:=by
   have h:=List.takeWhile_append_dropWhile (p:=fun c:UInt8=>c != 101) (l:=s);rw[ha,hdw,aM]at h;exact h.symm
  have aY:Lib.indexByte (⟨s.toArray⟩:ByteArray).data.toList (101:Int).toNat.toUInt8=(a.length:Int):=by
   have:=zjq s 101;rw[hdw,if_neg (by simp),ha]at this;exact this
  have aN:s.length=a.length+(r.length+1):=by rw[hs];simp
  have G:=hid (fun W=>strings_IndexByte ⟨s.toArray⟩ 101 W);rw[aY]at G;have R:Hid (readP s=if intB a=false\/5<r.length then none else match Lib.atoi r with|none=>none|some e=>(if lim (norm (a.head? ==some 45) (vals (intS a)) e)=0/\Gr.text (norm (a.head? ==some 45) (vals (intS a)) e)=s then some (norm (a.head? ==some 45) (vals (intS a)) e)else none)):=hid (by rw[zjr,hdw,ha]);have aI:=fun W=>zuj s a.length a.length rfl (by omega) W
  rw[show s.take a.length=a from by rw[hs];simp]at aI;have aj:=hid (fun W=>zxo s (a.length+1) (a.length+1) (by omega) (by omega) W);rw[show s.drop (a.length+1)=r from by rw[hs,<-List.drop_drop];simp]at aj;have aG:a.length<=1073741823:=by omega
  have aK:r.length<=1073741823:=by omega
  have aR:(s.length:Int)=(a.length:Int)+((r.length:Int)+1):=by omega
  have ap:=hid aR;have HS:=hid hs;clear hdw ha aM hs aY aN aR;have HV:=hid (fun W=>zeb a aG W);cases hib:intB a with
  |false=>
   rw[hib]at HV R;have HF:Hid (readP s=none):=hid (by rw[R.out,if_pos (.inl rfl)]);clear hib;go_enter func52,ntmps52;go_upto_region 1 with fail;obtain⟨J,o⟩:=ex (w.alloc (.cells #[.bool false,.slice none 0 0,.int .i64 0] 87))
   obtain⟨f,m⟩:=ex w.heap.size
   have i:Hid (Blk J f 87 #[.bool false,.slice none 0 0,.int .i64 0]/\Below f w J):=hid (by rw[<-o,<-m];exact⟨Blk.new _ _ _,(Below.refl _ _).alloc (Nat.le_refl _) _⟩);have H:Hid (UT J):=hid (UT.stays _ _ O.out (by rw[<-o];exact(Below.refl _ _).alloc (Nat.le_refl _) _));have D:=hid m;(try rw[o]);(try rw[m]);clear o m;go_wp2_with fail;refine(G.out _).mono ?_;rintro e w' ⟨rfl,A⟩;rw[A];clear A;go_wp2_with fail;refine(HV.out _).mono ?_;rintro e I ⟨rfl,u⟩;have q:Hid (Blk I f 87 #[.bool false,.slice none 0 0,.int .i64 0]/\Below f w I):=hid ⟨i.out.1.below u i.out.1.lt,i.out.2.trans (u.mono (Nat.le_of_lt i.out.1.lt))⟩;have T:Hid (UT I):=hid (UT.stays _ _ H.out u);clear u;have p0:∀j,I.frozen? ⟨f,j,none⟩=false:=q.out.1.frozen;obtain⟨q0,q1,q2⟩:=cells3 q.out.1;go_wp2_with fail;have n:=((q.out.1.set_ 0 (.bool false)).set_ 1 (.slice none 0 0)).set_ 2 (.int .i64 0);have e0:=n.cell 0;have e1:=n.cell 1;have e2:=n.cell 2;refine bodyPost_ret (v:=.tuple #[.agg #[.bool false,.slice none 0 0,.int .i64 0],.bool false]) (by rw[results_cell_tmp rfl];go_simp) rfl ?_;rw[HF.out];unfold zbx;rw[D.out];exact⟨zeroD,_,rfl,zek _,fun y h=>(by cases h),((q.out.2.setCell (p:=⟨f,0,none⟩) (by simp) _).setCell (p:=⟨f,1,none⟩) (by simp) _).setCell (p:=⟨f,2,none⟩) (by simp) _⟩
  |true=>
   rw[hib]at HV R;have U:=hid hib;clear hib;have ax:(s.length:Int)-(a.length:Int)=(r.length:Int)+1:=by have:=ap.out;omega
   by_cases h5:5<r.length
   .have HF:Hid (readP s=none):=hid (by rw[R.out,if_pos (.inr h5)]);have h6:(6:Int)<(s.length:Int)-(a.length:Int):=by omega
    clear ax;go_enter func52,ntmps52;go_upto_region 1 with fail;obtain⟨J,o⟩:=ex (w.alloc (.cells #[.bool false,.slice none 0 0,.int .i64 0] 87))
    obtain⟨f,m⟩:=ex w.heap.size
    have i:Hid (Blk J f 87 #[.bool false,.slice none 0 0,.int .i64 0]/\Below f w J):=hid (by rw[<-o,<-m];exact⟨Blk.new _ _ _,(Below.refl _ _).alloc (Nat.le_refl _) _⟩);have H:Hid (UT J):=hid (UT.stays _ _ O.out (by rw[<-o];exact(Below.refl _ _).alloc (Nat.le_refl _) _));have D:=hid m;(try rw[o]);(try rw[m]);clear o m;go_wp2_with fail;refine(G.out _).mono ?_;rintro e w' ⟨rfl,A⟩;rw[A];clear A;go_wp2_with fail;refine(HV.out _).mono ?_;rintro e I ⟨rfl,u⟩;have q:Hid (Blk I f 87 #[.bool false,.slice none 0 0,.int .i64 0]/\Below f w I):=hid ⟨i.out.1.below u i.out.1.lt,i.out.2.trans (u.mono (Nat.le_of_lt i.out.1.lt))⟩;have T:Hid (UT I):=hid (UT.stays _ _ H.out u);clear u;have p0:∀j,I.frozen? ⟨f,j,none⟩=false:=q.out.1.frozen;obtain⟨q0,q1,q2⟩:=cells3 q.out.1;go_wp2_with fail;have n:=((q.out.1.set_ 0 (.bool false)).set_ 1 (.slice none 0 0)).set_ 2 (.int .i64 0);have e0:=n.cell 0;have e1:=n.cell 1;have e2:=n.cell 2;refine bodyPost_ret (v:=.tuple #[.agg #[.bool false,.slice none 0 0,.int .i64 0],.bool false]) (by rw[results_cell_tmp rfl];go_simp) rfl ?_;rw[HF.out];unfold zbx;rw[D.out];exact⟨zeroD,_,rfl,zek _,fun y h=>(by cases h),((q.out.2.setCell (p:=⟨f,0,none⟩) (by simp) _).setCell (p:=⟨f,1,none⟩) (by simp) _).setCell (p:=⟨f,2,none⟩) (by simp) _⟩
   .have h6:¬(6:Int)<(s.length:Int)-(a.length:Int):=by omega
    clear ax;cases hat:Lib.atoi r with
    |none=>
     have HF:Hid (readP s=none):=hid (by
      rw[R.out,if_neg (by rintro(h|h);cases h;exact h5 h),hat])
     have M:Lib.atoiAll (⟨r.toArray⟩:ByteArray).data.toList=badI:=by
      show Lib.atoiAll r=_;rw[Lib.atoiAll_short r (by omega),hat];rfl
     have ak:=hid (fun ev W=>strconv_Atoi_syntax ⟨r.toArray⟩ (by show r.toArray.size<=_;simp;omega) M ev W);have aO:=aj.out;clear M hat;go_enter func52,ntmps52;go_upto_region 1 with fail;obtain⟨J,o⟩:=ex (w.alloc (.cells #[.bool false,.slice none 0 0,.int .i64 0] 87))
     obtain⟨f,m⟩:=ex w.heap.size
     have i:Hid (Blk J f 87 #[.bool false,.slice none 0 0,.int .i64 0]/\Below f w J):=hid (by rw[<-o,<-m];exact⟨Blk.new _ _ _,(Below.refl _ _).alloc (Nat.le_refl _) _⟩);have H:Hid (UT J):=hid (UT.stays _ _ O.out (by rw[<-o];exact(Below.refl _ _).alloc (Nat.le_refl _) _));have D:=hid m;(try rw[o]);(try rw[m]);clear o m;go_wp2_with fail;refine(G.out _).mono ?_;rintro e w' ⟨rfl,A⟩;rw[A];clear A;go_wp2_with fail;refine(HV.out _).mono ?_;rintro e I ⟨rfl,u⟩;have q:Hid (Blk I f 87 #[.bool false,.slice none 0 0,.int .i64 0]/\Below f w I):=hid ⟨i.out.1.below u i.out.1.lt,i.out.2.trans (u.mono (Nat.le_of_lt i.out.1.lt))⟩;have T:Hid (UT I):=hid (UT.stays _ _ H.out u);clear u;obtain⟨te,pe,aS⟩:=T.out.es;have aV:=hid (ak.out _ I aS (.inr ⟨te,pe,rfl⟩));clear aS;go_wp2_with fail;refine aV.out.mono ?_;rintro e w3 ⟨N,rfl,_,_,n⟩;have F:Hid (Blk w3 f 87 #[.bool false,.slice none 0 0,.int .i64 0]/\Below f w w3):=hid ⟨q.out.1.below n q.out.1.lt,q.out.2.trans (n.mono (Nat.le_of_lt q.out.1.lt))⟩;clear n;have p0:∀j,w3.frozen? ⟨f,j,none⟩=false:=F.out.1.frozen;obtain⟨q0,q1,q2⟩:=cells3 F.out.1;go_wp2_with fail;have n:=((F.out.1.set_ 0 (.bool false)).set_ 1 (.slice none 0 0)).set_ 2 (.int .i64 0);have e0:=n.cell 0;have e1:=n.cell 1;have e2:=n.cell 2;refine bodyPost_ret (v:=.tuple #[.agg #[.bool false,.slice none 0 0,.int .i64 0],.bool false]) (by rw[results_cell_tmp rfl];go_simp) rfl ?_;rw[HF.out];unfold zbx;rw[D.out];exact⟨zeroD,_,rfl,zek _,fun y h=>(by cases h),((F.out.2.setCell (p:=⟨f,0,none⟩) (by simp) _).setCell (p:=⟨f,1,none⟩) (by simp) _).setCell (p:=⟨f,2,none⟩) (by simp) _⟩
    |some E=>
     have M:Lib.atoiAll (⟨r.toArray⟩:ByteArray).data.toList=.ok E:=by
      show Lib.atoiAll r=_;rw[Lib.atoiAll_short r (by omega),hat];rfl
     have aE:=Lib.atoi_bound hat (by omega);have ak:=hid (fun W=>strconv_Atoi_ok ⟨r.toArray⟩ (by show r.toArray.size<=_;simp;omega) E M W);have HX:Hid (readP s=(if lim (norm (a.head? ==some 45) (vals (intS a)) E)=0/\Gr.text (norm (a.head? ==some 45) (vals (intS a)) E)=s then some (norm (a.head? ==some 45) (vals (intS a)) E)else none)):=hid (by
      rw[R.out,if_neg (by rintro(h|h);cases h;exact h5 h),hat])
     have aO:=aj.out;have az:=fun W=>strings_TrimPrefix ⟨a.toArray⟩ ⟨#[45]⟩ W
     rw[show Lib.trimPrefix (⟨a.toArray⟩:ByteArray).data.toList (⟨#[45]⟩:ByteArray).data.toList=intS a from zo9 U.out]at az;have aD:=hid az;have aL:-1000000000000000000<E:=aE.1;have aT:E<1000000000000000000:=aE.2;clear M hat az aE;go_enter func52,ntmps52;go_upto_region 1 with fail;obtain⟨J,o⟩:=ex (w.alloc (.cells #[.bool false,.slice none 0 0,.int .i64 0] 87))
     obtain⟨f,m⟩:=ex w.heap.size
     have i:Hid (Blk J f 87 #[.bool false,.slice none 0 0,.int .i64 0]/\Below f w J):=hid (by rw[<-o,<-m];exact⟨Blk.new _ _ _,(Below.refl _ _).alloc (Nat.le_refl _) _⟩);have H:Hid (UT J):=hid (UT.stays _ _ O.out (by rw[<-o];exact(Below.refl _ _).alloc (Nat.le_refl _) _));have D:=hid m;(try rw[o]);(try rw[m]);clear o m;go_wp2_with fail;refine(G.out _).mono ?_;rintro e w' ⟨rfl,A⟩;rw[A];clear A;go_wp2_with fail;refine(HV.out _).mono ?_;rintro e I ⟨rfl,u⟩;have q:Hid (Blk I f 87 #[.bool false,.slice none 0 0,.int .i64 0]/\Below f w I):=hid ⟨i.out.1.below u i.out.1.lt,i.out.2.trans (u.mono (Nat.le_of_lt i.out.1.lt))⟩;have T:Hid (UT I):=hid (UT.stays _ _ H.out u);clear u;go_wp2_with fail;refine(ak.out _).mono ?_;rintro e w3 ⟨rfl,aQ⟩;have n:Below I.heap.size I w3:=by
      rcases aQ with rfl|⟨t,rfl⟩
      .exact Below.refl _ _
      .exact Lib.bytesWorld_below _ _ _
     have F:Hid (Blk w3 f 87 #[.bool false,.slice none 0 0,.int .i64 0]/\Below f w w3):=hid ⟨q.out.1.below n q.out.1.lt,q.out.2.trans (n.mono (Nat.le_of_lt q.out.1.lt))⟩;have ay:Hid (UT w3):=hid (UT.stays _ _ T.out n);clear n aQ;go_wp2_with fail;refine(aD.out _).mono ?_;rintro e w4 ⟨rfl,aW⟩;rw[aW];clear aW aO;go_upto_region 8 with fail;have aJ:0<s.length:=by have:=ap.out;omega
     have aZ:(0:Int)<(s.length:Int):=by omega
     have ar:a≠[]:=by
      intro e;rw[e]at U;exact absurd U.out (by decide)
     have ai:Hid (∀hh,(((((⟨s.toArray⟩:ByteArray)[0]'hh).toNat:Int))==45)=(a.head? ==some 45)):=hid (fun hh=>by
      have hs:=HS.out;obtain⟨c,t,K⟩:∃c t,a=c::t:=by
       cases a with
       |nil=>exact absurd rfl ar
       |cons c t=>exact⟨c,t,rfl⟩
      have h0:s[0]'aJ=c:=by simp[hs,K]
      rw[show((⟨s.toArray⟩:ByteArray)[0]'hh)=c from h0,K,Bool.eq_iff_iff];constructor
      .intro h;have h1:c=45:=UInt8.toNat_inj.1 (by have:=eq_of_beq h;show c.toNat=45;omega);simp[h1]
      .intro h;have h1:c=45:=by simpa using h
       rw[h1];rfl)
     have ag:(intS a).length<=1073741823:=by
      have:(intS a).length<=a.length:=by unfold intS;split<;>simp
      omega
     have an:=hid (fun W=>zos (intS a) ag (zdh U.out) W);have ah:Hid ((vals (intS a)).length<=1073741823):=hid (by
      simpa[vals]using ag)
     obtain⟨vs,aC⟩:=ex (vals (intS a))
     have ao:Hid (∀v∈vs,v<10):=hid (by rw[<-aC];exact zc2 _ (zdh U.out));rw[aC]at an ah HX;obtain⟨x,hx⟩:=ex (norm (a.head? ==some 45) vs E)
     rw[hx]at HX;have am:=hid hx;have aq:Hid (∀(hh) (g:Nat) (W:World) (B:Nat) (_:B<=W.heap.size) (_:RowAt byteL W B (some ⟨g,0,none⟩) (d8 vs)),Calls prog 69 #[.bool (((((⟨s.toArray⟩:ByteArray)[0]'hh).toNat:Int))==45),.slice (some ⟨g,0,none⟩) vs.length vs.length,.int .i64 E] W (zks x W)):=hid (fun hh g W B hB hr=>by
      rw[ai.out hh,<-am.out];exact zsh _ _ _ vs E ah.out (Nat.le_refl _) ao.out (by omega) (by omega) W B hB hr)
     clear aC hx ar ag;go_cut [8] (fun s8 wx=>∃(g8 c':Nat) (A':Option Addr),s8=.pointer (some ⟨g8,0,none⟩)/\Hid (Blk wx g8 87 #[.bool x.neg,.slice A' x.d.length c',.int .i64 x.e]/\NumAt x A' c' wx/\Below w3.heap.size w3 wx/\w3.heap.size<=g8))
     case first=>
      clear HX am O H T ay i q F G HV aD ak aI aj R U ap HS ah ao ai aL aT h6 h5 hl aG aK D;go_region_with (first
       | (go_at_call 70;(with_reducible refine(an.out w3.drew).mono ?_);rintro e w5 ⟨g,rfl,a0,V,aB⟩)
       | (go_at_call 70;(with_reducible refine(an.out (w3.alloc (.cells #[.bool false,.slice none 0 0,.int .i64 0] 87)).drew).mono ?_);rintro e w5 ⟨g,rfl,a0,V,Y⟩)
       | (go_at_call 69;revert Y;intro Y;(with_reducible refine(aq.out _ _ w5 (g+1) (Nat.succ_le_of_lt V.lt) (RowAt.ofBlk V (zas _) (Nat.lt_succ_self _))).mono ?_);rintro e w6 ⟨v,rfl,⟨A',c',rfl,ae⟩,X⟩;obtain⟨kf,k0,k1,k2,kb⟩:=zso Y X)
       | (go_at_call 69;(with_reducible refine(aq.out _ _ (w5.alloc (.cells #[.bool false,.slice none 0 0,.int .i64 0] 87)) (g+1) (Nat.succ_le_of_lt (V.alloc _).lt) (RowAt.ofBlk (V.alloc _) (zas _) (Nat.lt_succ_self _))).mono ?_);rintro e w6 ⟨v,rfl,⟨A',c',rfl,ae⟩,X⟩;obtain⟨kf,k0,k1,k2,kb⟩:=zh4 X)
       | (go_at_call 69;(with_reducible refine(aq.out _ _ w5 (g+1) (Nat.succ_le_of_lt V.lt) (RowAt.ofBlk V (zas _) (Nat.lt_succ_self _))).mono ?_);rintro e w6 ⟨v,rfl,⟨A',c',rfl,ae⟩,X⟩))
      all_goals go_wp2_with fail
      all_goals go_meet
      all_goals refine⟨_,c',A',rfl,hid ?_⟩
      all_goals first
       |exact zo8 ae (zf6 aB X)
       |exact zo7 kb ae (Nat.le_refl _) (zjp Y X)
       |exact zo7 kb ae (zvs aB) (zjo aB X)
     case rest=>
      obtain⟨g8,c',A',rfl,S⟩:=hcut;go_upto_region 9 with fail;have ac:Hid (Gr.Wf x/\x.d.length<=1073741823/\-9223372036854775808<=x.e/\x.e<=9223372036854775807):=hid (by
       have h1:=zgl (a.head? ==some 45) vs E ao.out;have h2:=zjn (a.head? ==some 45) vs E;have h3:=ah.out;rw[am.out]at h1 h2;exact⟨h1,by omega,by omega,by omega⟩)
      have a2:Hid (UT wc):=hid (UT.stays _ _ ay.out S.out.2.2.1);have af:Blk wc f 87 #[.bool false,.slice none 0 0,.int .i64 0]:=F.out.1.below S.out.2.2.1 F.out.1.lt;have aX:Below f w wc:=F.out.2.trans (S.out.2.2.1.mono (Nat.le_of_lt F.out.1.lt));have aw:g8≠f:=by have:=F.out.1.lt;have:=S.out.2.2.2;omega
      obtain⟨Z,hZ⟩:∃Z:Bool->Array Value,Z=fun b=>cond b #[.bool x.neg,.slice A' x.d.length c',.int .i64 x.e] #[.bool false,.slice none 0 0,.int .i64 0]:=⟨_,rfl⟩
      have P:Hid (Z false=#[.bool false,.slice none 0 0,.int .i64 0]/\Z true=#[.bool x.neg,.slice A' x.d.length c',.int .i64 x.e]):=hid (by rw[hZ];exact⟨rfl,rfl⟩);have ad:Hid (∀(b:Bool) (W:WL f 87 wc (Z b)),Below f w W.w/\UT W.w/\NumAt x A' c' W.w):=hid (fun b W=>by
       have h1:Below f w W.w:=aX.trans (W.h.below (Nat.le_refl _) (Nat.le_of_lt af.lt));exact⟨h1,UT.stays _ _ O.out (by rw[D.out];exact h1),S.out.2.1.keep (fun k cs hk=>W.h.blk hk (hk.ne_ af (by decide)))⟩)
      have aa:Hid (∀W,Calls prog 71 #[.agg #[.bool x.neg,.slice A' x.d.length c',.int .i64 x.e]] W (fun e W'=>e=.returned (.int .i64 (lim x:Nat))/\Below W.heap.size W W')):=hid (fun W=>zov x A' c' ac.out.2.1 W);have aU:Hid (∀(b:Bool) (W:WL f 87 wc (Z b)),Calls prog 72 #[.agg #[.bool x.neg,.slice A' x.d.length c',.int .i64 x.e]] W.w (fun e W'=>e=.returned (.string ⟨(Gr.text x).toArray⟩)/\Below W.w.heap.size W.w W')):=hid (fun b W=>zow x A' c' ac.out.2.1 ac.out.1.lt ac.out.2.2.1 ac.out.2.2.2 W.w (ad.out b W).2.1 (ad.out b W).2.2.row);have ab:Hid (∀(b:Bool) (W:WL f 87 wc (Z b)),W.w.cell? ⟨g8,0,none⟩=some (.bool x.neg)/\W.w.cell? ⟨g8,1,none⟩=some (.slice A' x.d.length c')/\W.w.cell? ⟨g8,2,none⟩=some (.int .i64 x.e)):=hid (fun b W=>by
       have h1:=W.h.blk S.out.1 aw;exact⟨h1.cell 0,h1.cell 1,h1.cell 2⟩)
      have av:(Gr.text x==s)=decide (Gr.text x=s):=by rw[Bool.eq_iff_iff];simp
      have aA:Hid (∃y:WL f 87 wc (Z false),{wc with drawn:=wc.drawn+1}=y.w):=hid ⟨⟨wc.drew,(KB.refl f wc).drewN 1,by rw[P.out.1];exact af.drew⟩,rfl⟩;have aP:Hid (∀b,Nonempty (WL f 87 wc (Z b))):=hid (fun b=>by
       cases b with
       |false=>obtain⟨y,_⟩:=aA.out;exact⟨y⟩
       |true=>exact⟨⟨((wc.setCell ⟨f,0,none⟩ (.bool x.neg)).setCell ⟨f,1,none⟩ (.slice A' x.d.length c')).setCell ⟨f,2,none⟩ (.int .i64 x.e),(((KB.refl f wc).set 0 _).set 1 _).set 2 _,by rw[P.out.2];exact((af.set_ 0 _).set_ 1 _).set_ 2 _⟩⟩)
      have au:Hid (∀y:WL f 87 wc (Z false),∃z:WL f 87 wc (Z true),z.w=((y.w.setCell ⟨f,0,none⟩ (.bool x.neg)).setCell ⟨f,1,none⟩ (.slice A' x.d.length c')).setCell ⟨f,2,none⟩ (.int .i64 x.e)):=hid (fun y=>by
       have h1:Blk y.w f 87 #[.bool false,.slice none 0 0,.int .i64 0]:=P.out.1▸y.hc;exact⟨⟨_,((y.h.set 0 _).set 1 _).set 2 _,by rw[P.out.2];exact((h1.set_ 0 _).set_ 1 _).set_ 2 _⟩,rfl⟩)
      obtain⟨L,hL⟩:=ex (lim x)
      rw[hL]at aa HX;clear hL hZ af aX aw;obtain⟨Li,aH⟩:∃Li:Int,(L:Int)=Li:=⟨_,rfl⟩
      rw[aH]at aa;have al:=hid aH;clear aH;clear a2 ac S ay F am aq an ah ao ai G HV aD ak aI aj R U ap HS H i T q O aL aT aZ aJ h6 h5 hl aG aK;by_cases hL0:Li=0
      .subst hL0;obtain rfl:L=0:=by have:=al.out;omega
       clear al;obtain⟨ct,K⟩:=ex (decide (Gr.text x=s))
       rw[K]at av;have Q:Hid ((readP s).isSome=ct/\∀y,readP s=some y->x=y):=hid (by
        rw[HX.out,<-K];by_cases h:Gr.text x=s
        .rw[if_pos ⟨rfl,h⟩];exact⟨by simp[h],fun y hy=>by injection hy⟩
        .rw[if_neg (fun e=>h e.2)];exact⟨by simp[h],fun y hy=>by cases hy⟩)
       clear K HX;refine za7 (aF:=?aF) 10 (by kernel_rfl) _ rfl rfl rfl rfl rfl (by kernel_rfl) (by kernel_rfl) (by kernel_rfl) (by kernel_rfl) (by kernel_rfl) (fun b W=>∃y:WL f 87 wc (Z b),W=y.w) aA.out (fun b=>?h1) ?h2 ?h3
       case h1=>
        have p0:=fun W=>(ab.out b W).1
        have p1:=fun W=>(ab.out b W).2.1
        have p2:=fun W=>(ab.out b W).2.2
        have a1:=aP.out b;simp only[List.set_cons_succ,List.set_cons_zero,nopOf,List.getElem_toArray,List.getElem_cons_succ,List.getElem_cons_zero]
        repeat (go_big_quiet_step ((first| (with_reducible refine Calls.late (aa.out _))| (with_reducible refine Calls.late (aU.out _ _)))))
        refine wpQuiet_nil ?_;rfl
       case h2=>
        rintro _ ⟨y,rfl⟩;obtain⟨z,hz⟩:=au.out y;have C:Blk y.w f 87 #[.bool false,.slice none 0 0,.int .i64 0]:=P.out.1▸y.hc;have f0:∀j,y.w.frozen? ⟨f,j,none⟩=false:=C.frozen;obtain⟨c0,c1,c2⟩:=cells3 C;refine⟨z.w,?_,z,rfl⟩;rw[hz];simp only[List.getElem_toArray,List.getElem_cons_succ,List.getElem_cons_zero];go_simp
       case h3=>
        rintro _ ⟨y,rfl⟩;have C:Blk y.w f 87 #[.bool x.neg,.slice A' x.d.length c',.int .i64 x.e]:=P.out.2▸y.hc;have e0:=C.cell 0;have e1:=C.cell 1;have e2:=C.cell 2;go_wp2_with fail;refine bodyPost_ret (v:=.tuple #[.agg #[.bool x.neg,.slice A' x.d.length c',.int .i64 x.e],.bool ct]) (by rw[results_cell_tmp rfl];go_simp) rfl ?_;unfold zbx;rw[D.out,Q.out.1];exact⟨x,_,rfl,⟨A',c',rfl,(ad.out true y).2.2⟩,Q.out.2,(ad.out true y).1⟩
      .have hz0:(Li==0)=false:=by simpa using hL0
       obtain⟨ct,K⟩:=ex false
       have Q:Hid ((readP s).isSome=ct/\∀y,readP s=some y->x=y):=hid (by
        rw[HX.out,if_neg (fun e=>hL0 (by have:=al.out;omega))];exact⟨K,fun y hy=>by cases hy⟩)
       subst K;clear al HX av;refine za7 (aF:=?aF2) 10 (by kernel_rfl) _ rfl rfl rfl rfl rfl (by kernel_rfl) (by kernel_rfl) (by kernel_rfl) (by kernel_rfl) (by kernel_rfl) (fun b W=>∃y:WL f 87 wc (Z b),W=y.w) aA.out (fun b=>?h1) ?h2 ?h3
       case h1=>
        have p0:=fun W=>(ab.out b W).1
        have p1:=fun W=>(ab.out b W).2.1
        have p2:=fun W=>(ab.out b W).2.2
        have a1:=aP.out b;simp only[List.set_cons_succ,List.set_cons_zero,nopOf,List.getElem_toArray,List.getElem_cons_succ,List.getElem_cons_zero]
        repeat (go_big_quiet_step ((first| (with_reducible refine Calls.late (aa.out _))| (with_reducible refine Calls.late (aU.out _ _)))))
        refine wpQuiet_nil ?_;rfl
       case h2=>
        rintro _ ⟨y,rfl⟩;obtain⟨z,hz⟩:=au.out y;have C:Blk y.w f 87 #[.bool false,.slice none 0 0,.int .i64 0]:=P.out.1▸y.hc;have f0:∀j,y.w.frozen? ⟨f,j,none⟩=false:=C.frozen;obtain⟨c0,c1,c2⟩:=cells3 C;refine⟨z.w,?_,z,rfl⟩;rw[hz];simp only[List.getElem_toArray,List.getElem_cons_succ,List.getElem_cons_zero];go_simp
       case h3=>
        rintro _ ⟨y,rfl⟩;have C:Blk y.w f 87 #[.bool x.neg,.slice A' x.d.length c',.int .i64 x.e]:=P.out.2▸y.hc;have e0:=C.cell 0;have e1:=C.cell 1;have e2:=C.cell 2;go_wp2_with fail;refine bodyPost_ret (v:=.tuple #[.agg #[.bool x.neg,.slice A' x.d.length c',.int .i64 x.e],.bool false]) (by rw[results_cell_tmp rfl];go_simp) rfl ?_;unfold zbx;rw[D.out,Q.out.1];exact⟨x,_,rfl,⟨A',c',rfl,(ad.out true y).2.2⟩,Q.out.2,(ad.out true y).1⟩
 end Go.Proofs.YtpjmhafmeieloabGreatDoor
