import Derived.Test.YtpgmfihonmoliaaGreatDoorZ08
import Derived.Lib.AtoiBound
namespace Go.Proofs.YtpgmfihonmoliaaGreatDoor
open Gr
open _root_.Go.Proofs.Tryz
open _root_.Go.Lib (hid)
set_option maxRecDepth 100000
set_option maxHeartbeats 16000000
open Go.RowKit
def zbw (o:Option Gr.Dn) (w:World) (e:Ending) (w':World):Prop:=∃x v,e=.returned (.tuple #[v,.bool o.isSome])/\NumVal x v w'/\(∀y,o=some y->x=y)/\Below w.heap.size w w'
theorem zpu {w3 w6:World} {k:Nat} {x:Gr.Dn} {A:Option Addr} {c:Nat} {a b d:Value} (hk:Blk w6 k 86 #[.bool false,.slice none 0 0,.int .i64 0]) (h:NumAt x A c w6) (hlo:w3.heap.size<=k) (hb:Below w3.heap.size w3 w6):
 Blk (((w6.setCell ⟨k,0,none⟩ a).setCell ⟨k,1,none⟩ b).setCell ⟨k,2,none⟩ d) k 86 #[a,b,d]/\NumAt x A c (((w6.setCell ⟨k,0,none⟩ a).setCell ⟨k,1,none⟩ b).setCell ⟨k,2,none⟩ d)/\Below w3.heap.size w3 (((w6.setCell ⟨k,0,none⟩ a).setCell ⟨k,1,none⟩ b).setCell ⟨k,2,none⟩ d)/\w3.heap.size<=k:=
 ⟨((hk.set_ 0 a).set_ 1 b).set_ 2 d,((h.set_ hk (by decide) a).set_ (hk.set_ 0 a) (by decide) b).set_ ((hk.set_ 0 a).set_ 1 b) (by decide) d,((hb.setCell (p:=⟨k,0,none⟩) hlo _).setCell (p:=⟨k,1,none⟩) hlo _).setCell (p:=⟨k,2,none⟩) hlo _,hlo⟩
theorem zju (neg:Bool) (d:List Nat) (e:Int):(norm neg d e).d.length<=d.length/\((norm neg d e).e=0\/(e<=(norm neg d e).e/\(norm neg d e).e<=e+d.length)):=by
 unfold norm;have a:(d.dropWhile isZ).length<=d.length:=(List.dropWhile_sublist isZ).length_le;have b:=zxj (d.dropWhile isZ);split
 .exact⟨Nat.zero_le _,.inl rfl⟩
 .exact⟨Nat.le_trans b a,.inr ⟨by simp only;omega,by simp only;omega⟩⟩
theorem zpv {w3 w6:World} {x:Gr.Dn} {A:Option Addr} {c:Nat} {a b d:Value} (h:NumAt x A c w6) (hb:Below w3.heap.size w3 w6):
 Blk (w6.alloc (.cells #[a,b,d] 86)) w6.heap.size 86 #[a,b,d]/\NumAt x A c (w6.alloc (.cells #[a,b,d] 86))/\Below w3.heap.size w3 (w6.alloc (.cells #[a,b,d] 86))/\w3.heap.size<=w6.heap.size:=
 ⟨Blk.new _ _ _,h.alloc _,hb.alloc hb.size _,hb.size⟩
theorem undrew {w3 w5:World} (h:Below w3.drew.heap.size w3.drew w5):Below w3.heap.size w3 w5:=⟨h.os,h.tape,h.output,h.size,h.block⟩
theorem zf4 {w3 w5 w6:World} (h:Below w3.drew.heap.size w3.drew w5) (h2:Below w5.heap.size w5 w6):Below w3.heap.size w3 w6:=(undrew h).trans (h2.mono (undrew h).size)
theorem zvw {w3 w5:World} (h:Below w3.drew.heap.size w3.drew w5):w3.heap.size<=w5.heap.size:=h.size
theorem zjv {w3 w5 w6:World} {o:Obj} (h:Below w3.drew.heap.size w3.drew w5) (h2:Below (w5.alloc o).heap.size (w5.alloc o) w6):Below w3.heap.size w3 w6:=
 ((undrew h).alloc (undrew h).size o).trans (h2.mono (by have:=(undrew h).size;simp;omega))
theorem zjw {w3 w5 w6:World} {o:Obj} (h:Below (w3.alloc o).drew.heap.size (w3.alloc o).drew w5) (h2:Below w5.heap.size w5 w6):Below w3.heap.size w3 w6:=
 ((Below.refl _ _).alloc (Nat.le_refl _) o).trans ((zf4 h h2).mono (by simp))
theorem zik {w5 w6:World} (hb6:Below (w5.alloc (.cells #[.bool false,.slice none 0 0,.int .i64 0] 86)).heap.size (w5.alloc (.cells #[.bool false,.slice none 0 0,.int .i64 0] 86)) w6):
 (∀j,w6.frozen? ⟨w5.heap.size,j,none⟩=false)/\w6.cell? ⟨w5.heap.size,0,none⟩=some (.bool false)/\w6.cell? ⟨w5.heap.size,1,none⟩=some (.slice none 0 0)/\w6.cell? ⟨w5.heap.size,2,none⟩=some (.int .i64 0)/\Blk w6 w5.heap.size 86 #[.bool false,.slice none 0 0,.int .i64 0]:=by
 have a:=(Blk.new w5 86 #[.bool false,.slice none 0 0,.int .i64 0]).below hb6 (by simp);exact⟨a.frozen,a.cell 0,a.cell 1,a.cell 2,a⟩
theorem zs0 {w3 w5 w6:World} (hb5:Below (w3.alloc (.cells #[.bool false,.slice none 0 0,.int .i64 0] 86)).drew.heap.size (w3.alloc (.cells #[.bool false,.slice none 0 0,.int .i64 0] 86)).drew w5) (hb6:Below w5.heap.size w5 w6):
 (∀j,w6.frozen? ⟨w3.heap.size,j,none⟩=false)/\w6.cell? ⟨w3.heap.size,0,none⟩=some (.bool false)/\w6.cell? ⟨w3.heap.size,1,none⟩=some (.slice none 0 0)/\w6.cell? ⟨w3.heap.size,2,none⟩=some (.int .i64 0)/\Blk w6 w3.heap.size 86 #[.bool false,.slice none 0 0,.int .i64 0]:=
 let h5:Below (w3.alloc (.cells #[.bool false,.slice none 0 0,.int .i64 0] 86)).heap.size (w3.alloc (.cells #[.bool false,.slice none 0 0,.int .i64 0] 86)) w5:=⟨hb5.os,hb5.tape,hb5.output,hb5.size,hb5.block⟩
 zik (h5.trans (hb6.mono h5.size))
theorem zem (w:World):NumVal zeroD (.agg #[.bool false,.slice none 0 0,.int .i64 0]) w:=⟨none,0,rfl,.inl ⟨rfl,rfl,rfl⟩⟩
theorem zjx (s:Gr.Str) (c:UInt8):Lib.indexByte s c=if s.dropWhile (fun x=>x != c)=[]then -1 else((s.takeWhile (fun x=>x != c)).length:Int):=by
 induction s with
 |nil=>rfl
 |cons b l ih=>
  unfold Lib.indexByte;by_cases h:b=c
  .subst h;simp
  .have a:(b==c)=false:=by simpa using h
   have d:(b != c)=true:=by simpa using h
   rw[a,ih,List.dropWhile_cons,List.takeWhile_cons,d];simp only[if_true,Bool.false_eq_true,if_false];split
   .rfl
   .rw[if_neg (by rw[beq_iff_eq];omega)];simp
theorem zjy (s:Gr.Str):readP s=(match s.dropWhile (fun c=>c != 101)with| []=>none|_::r=>if intB (s.takeWhile (fun c=>c != 101))=false\/5<r.length then none else match Lib.atoi r with|none=>none|some e=>(let x:=norm ((s.takeWhile (fun c=>c != 101)).head? ==some 45) (vals (intS (s.takeWhile (fun c=>c != 101)))) e;if lim x=0/\Gr.text x=s then some x else none)):=rfl
theorem zpw {a:Gr.Str} (h:intB a=true):Lib.trimPrefix a [45]=intS a:=by
 have b:=zdl h;unfold Lib.trimPrefix Lib.hasPrefix intS;cases a with
 |nil=>rfl
 |cons c l=>
  by_cases hc:c=45
  .subst hc;cases l with
   |nil=>exact absurd b (by decide)
   |cons d l=>rfl
  .rw[if_neg (by simpa using fun e=>hc e.symm),if_neg (fun e=>hc (by simpa using e.2))]
theorem zpx (s:Gr.Str) (hl:s.length<=1073741823) (w:World) (hT:UT w):
 Calls prog 55 #[.string ⟨s.toArray⟩] w (zbw (readP s) w):=by
 have M:=hid hT;clear hT;cases hdw:s.dropWhile (fun c=>c != 101)with
 |nil=>
  have HF:Hid (readP s=none):=hid (by unfold readP;rw[hdw]);have G:=hid (fun W=>strings_IndexByte ⟨s.toArray⟩ 101 W);rw[show Lib.indexByte (⟨s.toArray⟩:ByteArray).data.toList (101:Int).toNat.toUInt8=-1 from by
   have:=zjx s 101;rw[hdw,if_pos rfl]at this;exact this]at G
  clear hdw;go_enter func55,ntmps55;go_upto_region 1 with fail;obtain⟨I,n⟩:=ex (w.alloc (.cells #[.bool false,.slice none 0 0,.int .i64 0] 86))
  obtain⟨f,o⟩:=ex w.heap.size
  have i:Hid (Blk I f 86 #[.bool false,.slice none 0 0,.int .i64 0]/\Below f w I):=hid (by rw[<-n,<-o];exact⟨Blk.new _ _ _,(Below.refl _ _).alloc (Nat.le_refl _) _⟩);have H:Hid (UT I):=hid (UT.stays _ _ M.out (by rw[<-n];exact(Below.refl _ _).alloc (Nat.le_refl _) _));have D:=hid o;(try rw[n]);(try rw[o]);clear n o;go_wp2_with fail;refine(G.out _).mono ?_;rintro e w' ⟨rfl,A⟩;rw[A];clear A;have p0:∀j,I.frozen? ⟨f,j,none⟩=false:=i.out.1.frozen;obtain⟨q0,q1,q2⟩:=cells3 i.out.1;go_wp2_with fail;have m:=((i.out.1.set_ 0 (.bool false)).set_ 1 (.slice none 0 0)).set_ 2 (.int .i64 0);have e0:=m.cell 0;have e1:=m.cell 1;have e2:=m.cell 2;refine bodyPost_ret (v:=.tuple #[.agg #[.bool false,.slice none 0 0,.int .i64 0],.bool false]) (by rw[results_cell_tmp rfl];go_simp) rfl ?_;rw[HF.out];unfold zbw;rw[D.out];exact⟨zeroD,_,rfl,zem _,fun y h=>(by cases h),((i.out.2.setCell (p:=⟨f,0,none⟩) (by simp) _).setCell (p:=⟨f,1,none⟩) (by simp) _).setCell (p:=⟨f,2,none⟩) (by simp) _⟩
 |cons c0 r=>
  obtain⟨a,ha⟩:=ex (s.takeWhile (fun c=>c != 101))
  have aP:c0=101:=by
   have:=List.head?_dropWhile_not (fun c:UInt8=>c != 101) s;rw[hdw]at this;simpa using this
  have hs:s=a++101::r:=by
   have h:=List.takeWhile_append_dropWhile (p:=fun c:UInt8=>c != 101) (l:=s);rw[ha,hdw,aP]at h;exact h.symm
  have aR:Lib.indexByte (⟨s.toArray⟩:ByteArray).data.toList (101:Int).toNat.toUInt8=(a.length:Int):=by
   have:=zjx s 101;rw[hdw,if_neg (by simp),ha]at this;exact this
  have aY:s.length=a.length+(r.length+1):=by rw[hs];simp
  have G:=hid (fun W=>strings_IndexByte ⟨s.toArray⟩ 101 W);rw[aR]at G;have Q:Hid (readP s=if intB a=false\/5<r.length then none else match Lib.atoi r with|none=>none|some e=>(if lim (norm (a.head? ==some 45) (vals (intS a)) e)=0/\Gr.text (norm (a.head? ==some 45) (vals (intS a)) e)=s then some (norm (a.head? ==some 45) (vals (intS a)) e)else none)):=hid (by rw[zjy,hdw,ha]);have aH:=fun W=>zui s a.length a.length rfl (by omega) W
  rw[show s.take a.length=a from by rw[hs];simp]at aH;have ai:=hid (fun W=>zxs s (a.length+1) (a.length+1) (by omega) (by omega) W);rw[show s.drop (a.length+1)=r from by rw[hs,<-List.drop_drop];simp]at ai;have aB:a.length<=1073741823:=by omega
  have aV:r.length<=1073741823:=by omega
  have aN:(s.length:Int)=(a.length:Int)+((r.length:Int)+1):=by omega
  have aq:=hid aN;have HS:=hid hs;clear hdw ha aP hs aR aY aN;have HV:=hid (fun W=>zea a aB W);cases hib:intB a with
  |false=>
   rw[hib]at HV Q;have HF:Hid (readP s=none):=hid (by rw[Q.out,if_pos (.inl rfl)]);clear hib;go_enter func55,ntmps55;go_upto_region 1 with fail;obtain⟨I,n⟩:=ex (w.alloc (.cells #[.bool false,.slice none 0 0,.int .i64 0] 86))
   obtain⟨f,o⟩:=ex w.heap.size
   have i:Hid (Blk I f 86 #[.bool false,.slice none 0 0,.int .i64 0]/\Below f w I):=hid (by rw[<-n,<-o];exact⟨Blk.new _ _ _,(Below.refl _ _).alloc (Nat.le_refl _) _⟩);have H:Hid (UT I):=hid (UT.stays _ _ M.out (by rw[<-n];exact(Below.refl _ _).alloc (Nat.le_refl _) _));have D:=hid o;(try rw[n]);(try rw[o]);clear n o;go_wp2_with fail;refine(G.out _).mono ?_;rintro e w' ⟨rfl,A⟩;rw[A];clear A;go_wp2_with fail;refine(HV.out _).mono ?_;rintro e J ⟨rfl,u⟩;have q:Hid (Blk J f 86 #[.bool false,.slice none 0 0,.int .i64 0]/\Below f w J):=hid ⟨i.out.1.below u i.out.1.lt,i.out.2.trans (u.mono (Nat.le_of_lt i.out.1.lt))⟩;have U:Hid (UT J):=hid (UT.stays _ _ H.out u);clear u;have p0:∀j,J.frozen? ⟨f,j,none⟩=false:=q.out.1.frozen;obtain⟨q0,q1,q2⟩:=cells3 q.out.1;go_wp2_with fail;have m:=((q.out.1.set_ 0 (.bool false)).set_ 1 (.slice none 0 0)).set_ 2 (.int .i64 0);have e0:=m.cell 0;have e1:=m.cell 1;have e2:=m.cell 2;refine bodyPost_ret (v:=.tuple #[.agg #[.bool false,.slice none 0 0,.int .i64 0],.bool false]) (by rw[results_cell_tmp rfl];go_simp) rfl ?_;rw[HF.out];unfold zbw;rw[D.out];exact⟨zeroD,_,rfl,zem _,fun y h=>(by cases h),((q.out.2.setCell (p:=⟨f,0,none⟩) (by simp) _).setCell (p:=⟨f,1,none⟩) (by simp) _).setCell (p:=⟨f,2,none⟩) (by simp) _⟩
  |true=>
   rw[hib]at HV Q;have X:=hid hib;clear hib;have ax:(s.length:Int)-(a.length:Int)=(r.length:Int)+1:=by have:=aq.out;omega
   by_cases h5:5<r.length
   .have HF:Hid (readP s=none):=hid (by rw[Q.out,if_pos (.inr h5)]);have h6:(6:Int)<(s.length:Int)-(a.length:Int):=by omega
    clear ax;go_enter func55,ntmps55;go_upto_region 1 with fail;obtain⟨I,n⟩:=ex (w.alloc (.cells #[.bool false,.slice none 0 0,.int .i64 0] 86))
    obtain⟨f,o⟩:=ex w.heap.size
    have i:Hid (Blk I f 86 #[.bool false,.slice none 0 0,.int .i64 0]/\Below f w I):=hid (by rw[<-n,<-o];exact⟨Blk.new _ _ _,(Below.refl _ _).alloc (Nat.le_refl _) _⟩);have H:Hid (UT I):=hid (UT.stays _ _ M.out (by rw[<-n];exact(Below.refl _ _).alloc (Nat.le_refl _) _));have D:=hid o;(try rw[n]);(try rw[o]);clear n o;go_wp2_with fail;refine(G.out _).mono ?_;rintro e w' ⟨rfl,A⟩;rw[A];clear A;go_wp2_with fail;refine(HV.out _).mono ?_;rintro e J ⟨rfl,u⟩;have q:Hid (Blk J f 86 #[.bool false,.slice none 0 0,.int .i64 0]/\Below f w J):=hid ⟨i.out.1.below u i.out.1.lt,i.out.2.trans (u.mono (Nat.le_of_lt i.out.1.lt))⟩;have U:Hid (UT J):=hid (UT.stays _ _ H.out u);clear u;have p0:∀j,J.frozen? ⟨f,j,none⟩=false:=q.out.1.frozen;obtain⟨q0,q1,q2⟩:=cells3 q.out.1;go_wp2_with fail;have m:=((q.out.1.set_ 0 (.bool false)).set_ 1 (.slice none 0 0)).set_ 2 (.int .i64 0);have e0:=m.cell 0;have e1:=m.cell 1;have e2:=m.cell 2;refine bodyPost_ret (v:=.tuple #[.agg #[.bool false,.slice none 0 0,.int .i64 0],.bool false]) (by rw[results_cell_tmp rfl];go_simp) rfl ?_;rw[HF.out];unfold zbw;rw[D.out];exact⟨zeroD,_,rfl,zem _,fun y h=>(by cases h),((q.out.2.setCell (p:=⟨f,0,none⟩) (by simp) _).setCell (p:=⟨f,1,none⟩) (by simp) _).setCell (p:=⟨f,2,none⟩) (by simp) _⟩
   .have h6:¬(6:Int)<(s.length:Int)-(a.length:Int):=by omega
    clear ax;cases hat:Lib.atoi r with
    |none=>
     have HF:Hid (readP s=none):=hid (by
      rw[Q.out,if_neg (by rintro(h|h);cases h;exact h5 h),hat])
     have P:Lib.atoiAll (⟨r.toArray⟩:ByteArray).data.toList=badI:=by
      show Lib.atoiAll r=_;rw[Lib.atoiAll_short r (by omega),hat];rfl
     have af:=hid (fun ev W=>strconv_Atoi_syntax ⟨r.toArray⟩ (by show r.toArray.size<=_;simp;omega) P ev W);have aS:=ai.out;clear P hat;go_enter func55,ntmps55;go_upto_region 1 with fail;obtain⟨I,n⟩:=ex (w.alloc (.cells #[.bool false,.slice none 0 0,.int .i64 0] 86))
     obtain⟨f,o⟩:=ex w.heap.size
     have i:Hid (Blk I f 86 #[.bool false,.slice none 0 0,.int .i64 0]/\Below f w I):=hid (by rw[<-n,<-o];exact⟨Blk.new _ _ _,(Below.refl _ _).alloc (Nat.le_refl _) _⟩);have H:Hid (UT I):=hid (UT.stays _ _ M.out (by rw[<-n];exact(Below.refl _ _).alloc (Nat.le_refl _) _));have D:=hid o;(try rw[n]);(try rw[o]);clear n o;go_wp2_with fail;refine(G.out _).mono ?_;rintro e w' ⟨rfl,A⟩;rw[A];clear A;go_wp2_with fail;refine(HV.out _).mono ?_;rintro e J ⟨rfl,u⟩;have q:Hid (Blk J f 86 #[.bool false,.slice none 0 0,.int .i64 0]/\Below f w J):=hid ⟨i.out.1.below u i.out.1.lt,i.out.2.trans (u.mono (Nat.le_of_lt i.out.1.lt))⟩;have U:Hid (UT J):=hid (UT.stays _ _ H.out u);clear u;obtain⟨te,pe,aM⟩:=U.out.es;have aU:=hid (af.out _ J aM (.inr ⟨te,pe,rfl⟩));clear aM;go_wp2_with fail;refine aU.out.mono ?_;rintro e w3 ⟨N,rfl,_,_,m⟩;have F:Hid (Blk w3 f 86 #[.bool false,.slice none 0 0,.int .i64 0]/\Below f w w3):=hid ⟨q.out.1.below m q.out.1.lt,q.out.2.trans (m.mono (Nat.le_of_lt q.out.1.lt))⟩;clear m;have p0:∀j,w3.frozen? ⟨f,j,none⟩=false:=F.out.1.frozen;obtain⟨q0,q1,q2⟩:=cells3 F.out.1;go_wp2_with fail;have m:=((F.out.1.set_ 0 (.bool false)).set_ 1 (.slice none 0 0)).set_ 2 (.int .i64 0);have e0:=m.cell 0;have e1:=m.cell 1;have e2:=m.cell 2;refine bodyPost_ret (v:=.tuple #[.agg #[.bool false,.slice none 0 0,.int .i64 0],.bool false]) (by rw[results_cell_tmp rfl];go_simp) rfl ?_;rw[HF.out];unfold zbw;rw[D.out];exact⟨zeroD,_,rfl,zem _,fun y h=>(by cases h),((F.out.2.setCell (p:=⟨f,0,none⟩) (by simp) _).setCell (p:=⟨f,1,none⟩) (by simp) _).setCell (p:=⟨f,2,none⟩) (by simp) _⟩
    |some E=>
     have P:Lib.atoiAll (⟨r.toArray⟩:ByteArray).data.toList=.ok E:=by
      show Lib.atoiAll r=_;rw[Lib.atoiAll_short r (by omega),hat];rfl
     have aG:=Lib.atoi_bound hat (by omega);have af:=hid (fun W=>strconv_Atoi_ok ⟨r.toArray⟩ (by show r.toArray.size<=_;simp;omega) E P W);have HX:Hid (readP s=(if lim (norm (a.head? ==some 45) (vals (intS a)) E)=0/\Gr.text (norm (a.head? ==some 45) (vals (intS a)) E)=s then some (norm (a.head? ==some 45) (vals (intS a)) E)else none)):=hid (by
      rw[Q.out,if_neg (by rintro(h|h);cases h;exact h5 h),hat])
     have aS:=ai.out;have aA:=fun W=>strings_TrimPrefix ⟨a.toArray⟩ ⟨#[45]⟩ W
     rw[show Lib.trimPrefix (⟨a.toArray⟩:ByteArray).data.toList (⟨#[45]⟩:ByteArray).data.toList=intS a from zpw X.out]at aA;have aI:=hid aA;have aQ:-1000000000000000000<E:=aG.1;have aT:E<1000000000000000000:=aG.2;clear P hat aA aG;go_enter func55,ntmps55;go_upto_region 1 with fail;obtain⟨I,n⟩:=ex (w.alloc (.cells #[.bool false,.slice none 0 0,.int .i64 0] 86))
     obtain⟨f,o⟩:=ex w.heap.size
     have i:Hid (Blk I f 86 #[.bool false,.slice none 0 0,.int .i64 0]/\Below f w I):=hid (by rw[<-n,<-o];exact⟨Blk.new _ _ _,(Below.refl _ _).alloc (Nat.le_refl _) _⟩);have H:Hid (UT I):=hid (UT.stays _ _ M.out (by rw[<-n];exact(Below.refl _ _).alloc (Nat.le_refl _) _));have D:=hid o;(try rw[n]);(try rw[o]);clear n o;go_wp2_with fail;refine(G.out _).mono ?_;rintro e w' ⟨rfl,A⟩;rw[A];clear A;go_wp2_with fail;refine(HV.out _).mono ?_;rintro e J ⟨rfl,u⟩;have q:Hid (Blk J f 86 #[.bool false,.slice none 0 0,.int .i64 0]/\Below f w J):=hid ⟨i.out.1.below u i.out.1.lt,i.out.2.trans (u.mono (Nat.le_of_lt i.out.1.lt))⟩;have U:Hid (UT J):=hid (UT.stays _ _ H.out u);clear u;go_wp2_with fail;refine(af.out _).mono ?_;rintro e w3 ⟨rfl,aO⟩;have m:Below J.heap.size J w3:=by
      rcases aO with rfl|⟨t,rfl⟩
      .exact Below.refl _ _
      .exact Lib.bytesWorld_below _ _ _
     have F:Hid (Blk w3 f 86 #[.bool false,.slice none 0 0,.int .i64 0]/\Below f w w3):=hid ⟨q.out.1.below m q.out.1.lt,q.out.2.trans (m.mono (Nat.le_of_lt q.out.1.lt))⟩;have aC:Hid (UT w3):=hid (UT.stays _ _ U.out m);clear m aO;go_wp2_with fail;refine(aI.out _).mono ?_;rintro e w4 ⟨rfl,aX⟩;rw[aX];clear aX aS;go_upto_region 8 with fail;have aJ:0<s.length:=by have:=aq.out;omega
     have a2:(0:Int)<(s.length:Int):=by omega
     have av:a≠[]:=by
      intro e;rw[e]at X;exact absurd X.out (by decide)
     have ae:Hid (∀hh,(((((⟨s.toArray⟩:ByteArray)[0]'hh).toNat:Int))==45)=(a.head? ==some 45)):=hid (fun hh=>by
      have hs:=HS.out;obtain⟨c,t,K⟩:∃c t,a=c::t:=by
       cases a with
       |nil=>exact absurd rfl av
       |cons c t=>exact⟨c,t,rfl⟩
      have h0:s[0]'aJ=c:=by simp[hs,K]
      rw[show((⟨s.toArray⟩:ByteArray)[0]'hh)=c from h0,K,Bool.eq_iff_iff];constructor
      .intro h;have h1:c=45:=UInt8.toNat_inj.1 (by have:=eq_of_beq h;show c.toNat=45;omega);simp[h1]
      .intro h;have h1:c=45:=by simpa using h
       rw[h1];rfl)
     have ag:(intS a).length<=1073741823:=by
      have:(intS a).length<=a.length:=by unfold intS;split<;>simp
      omega
     have am:=hid (fun W=>zpf (intS a) ag (zdl X.out) W);have ak:Hid ((vals (intS a)).length<=1073741823):=hid (by
      simpa[vals]using ag)
     obtain⟨vs,az⟩:=ex (vals (intS a))
     have ap:Hid (∀v∈vs,v<10):=hid (by rw[<-az];exact zc7 _ (zdl X.out));rw[az]at am ak HX;obtain⟨x,hx⟩:=ex (norm (a.head? ==some 45) vs E)
     rw[hx]at HX;have an:=hid hx;have ao:Hid (∀(hh) (g:Nat) (W:World) (B:Nat) (_:B<=W.heap.size) (_:RowAt byteL W B (some ⟨g,0,none⟩) (d8 vs)),Calls prog 75 #[.bool (((((⟨s.toArray⟩:ByteArray)[0]'hh).toNat:Int))==45),.slice (some ⟨g,0,none⟩) vs.length vs.length,.int .i64 E] W (zkz x W)):=hid (fun hh g W B hB hr=>by
      rw[ae.out hh,<-an.out];exact zst _ _ _ vs E ak.out (Nat.le_refl _) ap.out (by omega) (by omega) W B hB hr)
     clear az hx av ag;go_cut [8] (fun s8 wx=>∃(g8 c':Nat) (A':Option Addr),s8=.pointer (some ⟨g8,0,none⟩)/\Hid (Blk wx g8 86 #[.bool x.neg,.slice A' x.d.length c',.int .i64 x.e]/\NumAt x A' c' wx/\Below w3.heap.size w3 wx/\w3.heap.size<=g8))
     case first=>
      clear HX an M H U aC i q F G HV aI af aH ai Q X aq HS ak ap ae aQ aT h6 h5 hl aB aV D;go_region_with (first
       | (go_at_call 76;(with_reducible refine(am.out w3.drew).mono ?_);rintro e w5 ⟨g,rfl,aZ,T,aD⟩)
       | (go_at_call 76;(with_reducible refine(am.out (w3.alloc (.cells #[.bool false,.slice none 0 0,.int .i64 0] 86)).drew).mono ?_);rintro e w5 ⟨g,rfl,aZ,T,Y⟩)
       | (go_at_call 75;revert Y;intro Y;(with_reducible refine(ao.out _ _ w5 (g+1) (Nat.succ_le_of_lt T.lt) (RowAt.ofBlk T (zat _) (Nat.lt_succ_self _))).mono ?_);rintro e w6 ⟨v,rfl,⟨A',c',rfl,aj⟩,S⟩;obtain⟨kf,k0,k1,k2,kb⟩:=zs0 Y S)
       | (go_at_call 75;(with_reducible refine(ao.out _ _ (w5.alloc (.cells #[.bool false,.slice none 0 0,.int .i64 0] 86)) (g+1) (Nat.succ_le_of_lt (T.alloc _).lt) (RowAt.ofBlk (T.alloc _) (zat _) (Nat.lt_succ_self _))).mono ?_);rintro e w6 ⟨v,rfl,⟨A',c',rfl,aj⟩,S⟩;obtain⟨kf,k0,k1,k2,kb⟩:=zik S)
       | (go_at_call 75;(with_reducible refine(ao.out _ _ w5 (g+1) (Nat.succ_le_of_lt T.lt) (RowAt.ofBlk T (zat _) (Nat.lt_succ_self _))).mono ?_);rintro e w6 ⟨v,rfl,⟨A',c',rfl,aj⟩,S⟩))
      all_goals go_wp2_with fail
      all_goals go_meet
      all_goals refine⟨_,c',A',rfl,hid ?_⟩
      all_goals first
       |exact zpv aj (zf4 aD S)
       |exact zpu kb aj (Nat.le_refl _) (zjw Y S)
       |exact zpu kb aj (zvw aD) (zjv aD S)
     case rest=>
      obtain⟨g8,c',A',rfl,V⟩:=hcut;go_upto_region 9 with fail;have ad:Hid (Gr.Wf x/\x.d.length<=1073741823/\-9223372036854775808<=x.e/\x.e<=9223372036854775807):=hid (by
       have h1:=zgl (a.head? ==some 45) vs E ap.out;have h2:=zju (a.head? ==some 45) vs E;have h3:=ak.out;rw[an.out]at h1 h2;exact⟨h1,by omega,by omega,by omega⟩)
      have a1:Hid (UT wc):=hid (UT.stays _ _ aC.out V.out.2.2.1);have ah:Blk wc f 86 #[.bool false,.slice none 0 0,.int .i64 0]:=F.out.1.below V.out.2.2.1 F.out.1.lt;have aK:Below f w wc:=F.out.2.trans (V.out.2.2.1.mono (Nat.le_of_lt F.out.1.lt));have ar:g8≠f:=by have:=F.out.1.lt;have:=V.out.2.2.2;omega
      obtain⟨Z,hZ⟩:∃Z:Bool->Array Value,Z=fun b=>cond b #[.bool x.neg,.slice A' x.d.length c',.int .i64 x.e] #[.bool false,.slice none 0 0,.int .i64 0]:=⟨_,rfl⟩
      have O:Hid (Z false=#[.bool false,.slice none 0 0,.int .i64 0]/\Z true=#[.bool x.neg,.slice A' x.d.length c',.int .i64 x.e]):=hid (by rw[hZ];exact⟨rfl,rfl⟩);have ac:Hid (∀(b:Bool) (W:WL f 86 wc (Z b)),Below f w W.w/\UT W.w/\NumAt x A' c' W.w):=hid (fun b W=>by
       have h1:Below f w W.w:=aK.trans (W.h.below (Nat.le_refl _) (Nat.le_of_lt ah.lt));exact⟨h1,UT.stays _ _ M.out (by rw[D.out];exact h1),V.out.2.1.keep (fun k cs hk=>W.h.blk hk (hk.ne_ ah (by decide)))⟩)
      have aa:Hid (∀W,Calls prog 77 #[.agg #[.bool x.neg,.slice A' x.d.length c',.int .i64 x.e]] W (fun e W'=>e=.returned (.int .i64 (lim x:Nat))/\Below W.heap.size W W')):=hid (fun W=>zpi x A' c' ad.out.2.1 W);have aW:Hid (∀(b:Bool) (W:WL f 86 wc (Z b)),Calls prog 78 #[.agg #[.bool x.neg,.slice A' x.d.length c',.int .i64 x.e]] W.w (fun e W'=>e=.returned (.string ⟨(Gr.text x).toArray⟩)/\Below W.w.heap.size W.w W')):=hid (fun b W=>zpj x A' c' ad.out.2.1 ad.out.1.lt ad.out.2.2.1 ad.out.2.2.2 W.w (ac.out b W).2.1 (ac.out b W).2.2.row);have ab:Hid (∀(b:Bool) (W:WL f 86 wc (Z b)),W.w.cell? ⟨g8,0,none⟩=some (.bool x.neg)/\W.w.cell? ⟨g8,1,none⟩=some (.slice A' x.d.length c')/\W.w.cell? ⟨g8,2,none⟩=some (.int .i64 x.e)):=hid (fun b W=>by
       have h1:=W.h.blk V.out.1 ar;exact⟨h1.cell 0,h1.cell 1,h1.cell 2⟩)
      have au:(Gr.text x==s)=decide (Gr.text x=s):=by rw[Bool.eq_iff_iff];simp
      have ay:Hid (∃y:WL f 86 wc (Z false),{wc with drawn:=wc.drawn+1}=y.w):=hid ⟨⟨wc.drew,(KB.refl f wc).drewN 1,by rw[O.out.1];exact ah.drew⟩,rfl⟩;have aL:Hid (∀b,Nonempty (WL f 86 wc (Z b))):=hid (fun b=>by
       cases b with
       |false=>obtain⟨y,_⟩:=ay.out;exact⟨y⟩
       |true=>exact⟨⟨((wc.setCell ⟨f,0,none⟩ (.bool x.neg)).setCell ⟨f,1,none⟩ (.slice A' x.d.length c')).setCell ⟨f,2,none⟩ (.int .i64 x.e),(((KB.refl f wc).set 0 _).set 1 _).set 2 _,by rw[O.out.2];exact((ah.set_ 0 _).set_ 1 _).set_ 2 _⟩⟩)
      have aw:Hid (∀y:WL f 86 wc (Z false),∃z:WL f 86 wc (Z true),z.w=((y.w.setCell ⟨f,0,none⟩ (.bool x.neg)).setCell ⟨f,1,none⟩ (.slice A' x.d.length c')).setCell ⟨f,2,none⟩ (.int .i64 x.e)):=hid (fun y=>by
       have h1:Blk y.w f 86 #[.bool false,.slice none 0 0,.int .i64 0]:=O.out.1▸y.hc;exact⟨⟨_,((y.h.set 0 _).set 1 _).set 2 _,by rw[O.out.2];exact((h1.set_ 0 _).set_ 1 _).set_ 2 _⟩,rfl⟩)
      obtain⟨L,hL⟩:=ex (lim x)
      rw[hL]at aa HX;clear hL hZ ah aK ar;obtain⟨Li,aE⟩:∃Li:Int,(L:Int)=Li:=⟨_,rfl⟩
      rw[aE]at aa;have al:=hid aE;clear aE;clear a1 ad V aC F an ao am ak ap ae G HV aI af aH ai Q X aq HS H i U q M aQ aT a2 aJ h6 h5 hl aB aV;by_cases hL0:Li=0
      .subst hL0;obtain rfl:L=0:=by have:=al.out;omega
       clear al;obtain⟨ct,K⟩:=ex (decide (Gr.text x=s))
       rw[K]at au;have R:Hid ((readP s).isSome=ct/\∀y,readP s=some y->x=y):=hid (by
        rw[HX.out,<-K];by_cases h:Gr.text x=s
        .rw[if_pos ⟨rfl,h⟩];exact⟨by simp[h],fun y hy=>by injection hy⟩
        .rw[if_neg (fun e=>h e.2)];exact⟨by simp[h],fun y hy=>by cases hy⟩)
       clear K HX;refine zba (aF:=?aF) 10 (by kernel_rfl) _ rfl rfl rfl rfl rfl (by kernel_rfl) (by kernel_rfl) (by kernel_rfl) (by kernel_rfl) (by kernel_rfl) (fun b W=>∃y:WL f 86 wc (Z b),W=y.w) ay.out (fun b=>?h1) ?h2 ?h3
       case h1=>
        have p0:=fun W=>(ab.out b W).1
        have p1:=fun W=>(ab.out b W).2.1
        have p2:=fun W=>(ab.out b W).2.2
        have a0:=aL.out b;simp only[List.set_cons_succ,List.set_cons_zero,nopOf,List.getElem_toArray,List.getElem_cons_succ,List.getElem_cons_zero]
        repeat (go_big_quiet_step ((first| (with_reducible refine Calls.late (aa.out _))| (with_reducible refine Calls.late (aW.out _ _)))))
        refine wpQuiet_nil ?_;rfl
       case h2=>
        rintro _ ⟨y,rfl⟩;obtain⟨z,hz⟩:=aw.out y;have C:Blk y.w f 86 #[.bool false,.slice none 0 0,.int .i64 0]:=O.out.1▸y.hc;have f0:∀j,y.w.frozen? ⟨f,j,none⟩=false:=C.frozen;obtain⟨c0,c1,c2⟩:=cells3 C;refine⟨z.w,?_,z,rfl⟩;rw[hz];simp only[List.getElem_toArray,List.getElem_cons_succ,List.getElem_cons_zero];go_simp
       case h3=>
        rintro _ ⟨y,rfl⟩;have C:Blk y.w f 86 #[.bool x.neg,.slice A' x.d.length c',.int .i64 x.e]:=O.out.2▸y.hc;have e0:=C.cell 0;have e1:=C.cell 1;have e2:=C.cell 2;go_wp2_with fail;refine bodyPost_ret (v:=.tuple #[.agg #[.bool x.neg,.slice A' x.d.length c',.int .i64 x.e],.bool ct]) (by rw[results_cell_tmp rfl];go_simp) rfl ?_;unfold zbw;rw[D.out,R.out.1];exact⟨x,_,rfl,⟨A',c',rfl,(ac.out true y).2.2⟩,R.out.2,(ac.out true y).1⟩
      .have hz0:(Li==0)=false:=by simpa using hL0
       obtain⟨ct,K⟩:=ex false
       have R:Hid ((readP s).isSome=ct/\∀y,readP s=some y->x=y):=hid (by
        rw[HX.out,if_neg (fun e=>hL0 (by have:=al.out;omega))];exact⟨K,fun y hy=>by cases hy⟩)
       subst K;clear al HX au;refine zba (aF:=?aF2) 10 (by kernel_rfl) _ rfl rfl rfl rfl rfl (by kernel_rfl) (by kernel_rfl) (by kernel_rfl) (by kernel_rfl) (by kernel_rfl) (fun b W=>∃y:WL f 86 wc (Z b),W=y.w) ay.out (fun b=>?h1) ?h2 ?h3
       case h1=>
        have p0:=fun W=>(ab.out b W).1
        have p1:=fun W=>(ab.out b W).2.1
        have p2:=fun W=>(ab.out b W).2.2
        have a0:=aL.out b;simp only[List.set_cons_succ,List.set_cons_zero,nopOf,List.getElem_toArray,List.getElem_cons_succ,List.getElem_cons_zero]
        repeat (go_big_quiet_step ((first| (with_reducible refine Calls.late (aa.out _))| (with_reducible refine Calls.late (aW.out _ _)))))
        refine wpQuiet_nil ?_;rfl
       case h2=>
        rintro _ ⟨y,rfl⟩;obtain⟨z,hz⟩:=aw.out y;have C:Blk y.w f 86 #[.bool false,.slice none 0 0,.int .i64 0]:=O.out.1▸y.hc;have f0:∀j,y.w.frozen? ⟨f,j,none⟩=false:=C.frozen;obtain⟨c0,c1,c2⟩:=cells3 C;refine⟨z.w,?_,z,rfl⟩;rw[hz];simp only[List.getElem_toArray,List.getElem_cons_succ,List.getElem_cons_zero];go_simp
       case h3=>
        rintro _ ⟨y,rfl⟩;have C:Blk y.w f 86 #[.bool x.neg,.slice A' x.d.length c',.int .i64 x.e]:=O.out.2▸y.hc;have e0:=C.cell 0;have e1:=C.cell 1;have e2:=C.cell 2;go_wp2_with fail;refine bodyPost_ret (v:=.tuple #[.agg #[.bool x.neg,.slice A' x.d.length c',.int .i64 x.e],.bool false]) (by rw[results_cell_tmp rfl];go_simp) rfl ?_;unfold zbw;rw[D.out,R.out.1];exact⟨x,_,rfl,⟨A',c',rfl,(ac.out true y).2.2⟩,R.out.2,(ac.out true y).1⟩
 end Go.Proofs.YtpgmfihonmoliaaGreatDoor
